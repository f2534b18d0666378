/-
  No cell of these rows narrows 'for every input' (looked for: loops, veiled, ifaces, maps, wideKeys, modest, calm, conditions, laid).
  DERIVED. THE GIVEN ROWS OF THIS SEAT. 12 by the template 'for every input the law returns true; each argument reads behind the call as it read before'; 0 by the template 'total and deterministic' (their statements: YthhankjineidiaaTotals.lean).
  GIVEN WITH THE SEED: the statements are not yours to turn. If you find one false, say at which input.
  Laid BY PROGRAM, IN A SANDBOX (cutbox-rows.mjs): the forced cells as the released guide's own fill.sh prints them over the translation 8f59e5bf8f90f88c… (all of the seat's roots in one cut). By AI agents, Wed Nov 11 2026. No macro, syntax, notation, axiom, sorry.
-/
import Derived.Test.YthhankjineidiaaChecked
import GoSem.Claim
import GoSem.ClaimJoined
import GoSem.ClaimMapViews
import Derived.JoinedTies
import Derived.KernelRfl
namespace Go.Proofs.Ythhankjineidiaa
/- THE CELL 'sum', in the pinned program and in every row, IS THE sha256 OF THE DUMP (.gsa) THAT YthhankjineidiaaProg.lean LOADS. Nothing in Lean hashes anything: it is a label: what it is worth is what the hold of that sum in a sandbox is worth. -/
noncomputable def Try.pinned : Pinned := { name := "ythhankjineidiaa", sum := "8f59e5bf8f90f88cf1b1665aaf4144f59759e9793edea70fe307c9e3ee996053", checked := Try.checked }
namespace Rows
def none {H : Type} : Left H := { results := [], args := [] }

/-- 'laws.FnHPaths': WHATEVER THE INPUT: true; the input reads as it did. -/
def fnHPathsSpec : ChangeSpec := { name := "fnHPaths", fn := fun _ => fun
  | [d1, d2] => { results := [.lit (.bool true)], args := [d1, d2] }
  | _ => none }
def fnHPathsRow : OpenClaim := { program := "ythhankjineidiaa", sum := "8f59e5bf8f90f88cf1b1665aaf4144f59759e9793edea70fe307c9e3ee996053", func := "given.example/pub-tinwright/laws.FnHPaths", spec := "fnHPaths", apart := false }
def FnHPathsSaid : Prop := fnHPathsRow.holds Try.pinned (OpenSpec.ofChange fnHPathsSpec)

/-- ITS FALSE NEIGHBOUR: 'it returns false'. Refute it at one input. -/
def fnHPathsWrong : ChangeSpec := { name := "fnHPaths", fn := fun _ => fun
  | [d1, d2] => { results := [.lit (.bool false)], args := [d1, d2] }
  | _ => none }
def FnHPathsWrongFalsely : Prop := fnHPathsRow.holds Try.pinned (OpenSpec.ofChange fnHPathsWrong)

/-- 'laws.FnHPathsParts': WHATEVER THE INPUT: true; the input reads as it did. -/
def fnHPathsPartsSpec : ChangeSpec := { name := "fnHPathsParts", fn := fun _ => fun
  | [d1, d2, d3] => { results := [.lit (.bool true)], args := [d1, d2, d3] }
  | _ => none }
def fnHPathsPartsRow : OpenClaim := { program := "ythhankjineidiaa", sum := "8f59e5bf8f90f88cf1b1665aaf4144f59759e9793edea70fe307c9e3ee996053", func := "given.example/pub-tinwright/laws.FnHPathsParts", spec := "fnHPathsParts", unfollowed := true, recurses := true, apart := false }
def FnHPathsPartsSaid : Prop := fnHPathsPartsRow.holds Try.pinned (OpenSpec.ofChange fnHPathsPartsSpec)

/-- ITS FALSE NEIGHBOUR: 'it returns false'. Refute it at one input. -/
def fnHPathsPartsWrong : ChangeSpec := { name := "fnHPathsParts", fn := fun _ => fun
  | [d1, d2, d3] => { results := [.lit (.bool false)], args := [d1, d2, d3] }
  | _ => none }
def FnHPathsPartsWrongFalsely : Prop := fnHPathsPartsRow.holds Try.pinned (OpenSpec.ofChange fnHPathsPartsWrong)

/-- 'laws.FnHExpires': WHATEVER THE INPUT: true; the input reads as it did. -/
def fnHExpiresSpec : ChangeSpec := { name := "fnHExpires", fn := fun _ => fun
  | [d1, d2, d3] => { results := [.lit (.bool true)], args := [d1, d2, d3] }
  | _ => none }
def fnHExpiresRow : OpenClaim := { program := "ythhankjineidiaa", sum := "8f59e5bf8f90f88cf1b1665aaf4144f59759e9793edea70fe307c9e3ee996053", func := "given.example/pub-tinwright/laws.FnHExpires", spec := "fnHExpires", apart := false }
def FnHExpiresSaid : Prop := fnHExpiresRow.holds Try.pinned (OpenSpec.ofChange fnHExpiresSpec)

/-- ITS FALSE NEIGHBOUR: 'it returns false'. Refute it at one input. -/
def fnHExpiresWrong : ChangeSpec := { name := "fnHExpires", fn := fun _ => fun
  | [d1, d2, d3] => { results := [.lit (.bool false)], args := [d1, d2, d3] }
  | _ => none }
def FnHExpiresWrongFalsely : Prop := fnHExpiresRow.holds Try.pinned (OpenSpec.ofChange fnHExpiresWrong)

/-- 'laws.FnELabels': WHATEVER THE INPUT: true; the input reads as it did. -/
def fnELabelsSpec : ChangeSpec := { name := "fnELabels", fn := fun _ => fun
  | [d] => { results := [.lit (.bool true)], args := [d] }
  | _ => none }
def fnELabelsRow : OpenClaim := { program := "ythhankjineidiaa", sum := "8f59e5bf8f90f88cf1b1665aaf4144f59759e9793edea70fe307c9e3ee996053", func := "given.example/pub-tinwright/laws.FnELabels", spec := "fnELabels", apart := false }
def FnELabelsSaid : Prop := fnELabelsRow.holds Try.pinned (OpenSpec.ofChange fnELabelsSpec)

/-- ITS FALSE NEIGHBOUR: 'it returns false'. Refute it at one input. -/
def fnELabelsWrong : ChangeSpec := { name := "fnELabels", fn := fun _ => fun
  | [d] => { results := [.lit (.bool false)], args := [d] }
  | _ => none }
def FnELabelsWrongFalsely : Prop := fnELabelsRow.holds Try.pinned (OpenSpec.ofChange fnELabelsWrong)

/-- 'laws.FnEGets': WHATEVER THE INPUT: true; the input reads as it did. -/
def fnEGetsSpec : ChangeSpec := { name := "fnEGets", fn := fun _ => fun
  | [d1, d2] => { results := [.lit (.bool true)], args := [d1, d2] }
  | _ => none }
def fnEGetsRow : OpenClaim := { program := "ythhankjineidiaa", sum := "8f59e5bf8f90f88cf1b1665aaf4144f59759e9793edea70fe307c9e3ee996053", func := "given.example/pub-tinwright/laws.FnEGets", spec := "fnEGets", apart := false }
def FnEGetsSaid : Prop := fnEGetsRow.holds Try.pinned (OpenSpec.ofChange fnEGetsSpec)

/-- ITS FALSE NEIGHBOUR: 'it returns false'. Refute it at one input. -/
def fnEGetsWrong : ChangeSpec := { name := "fnEGets", fn := fun _ => fun
  | [d1, d2] => { results := [.lit (.bool false)], args := [d1, d2] }
  | _ => none }
def FnEGetsWrongFalsely : Prop := fnEGetsRow.holds Try.pinned (OpenSpec.ofChange fnEGetsWrong)

/-- 'laws.FnESplits': WHATEVER THE INPUT: true; the input reads as it did. -/
def fnESplitsSpec : ChangeSpec := { name := "fnESplits", fn := fun _ => fun
  | [d1, d2, d3] => { results := [.lit (.bool true)], args := [d1, d2, d3] }
  | _ => none }
def fnESplitsRow : OpenClaim := { program := "ythhankjineidiaa", sum := "8f59e5bf8f90f88cf1b1665aaf4144f59759e9793edea70fe307c9e3ee996053", func := "given.example/pub-tinwright/laws.FnESplits", spec := "fnESplits", apart := false }
def FnESplitsSaid : Prop := fnESplitsRow.holds Try.pinned (OpenSpec.ofChange fnESplitsSpec)

/-- ITS FALSE NEIGHBOUR: 'it returns false'. Refute it at one input. -/
def fnESplitsWrong : ChangeSpec := { name := "fnESplits", fn := fun _ => fun
  | [d1, d2, d3] => { results := [.lit (.bool false)], args := [d1, d2, d3] }
  | _ => none }
def FnESplitsWrongFalsely : Prop := fnESplitsRow.holds Try.pinned (OpenSpec.ofChange fnESplitsWrong)

/-- 'laws.FnESplitsBack': WHATEVER THE INPUT: true; the input reads as it did. -/
def fnESplitsBackSpec : ChangeSpec := { name := "fnESplitsBack", fn := fun _ => fun
  | [d1, d2, d3] => { results := [.lit (.bool true)], args := [d1, d2, d3] }
  | _ => none }
def fnESplitsBackRow : OpenClaim := { program := "ythhankjineidiaa", sum := "8f59e5bf8f90f88cf1b1665aaf4144f59759e9793edea70fe307c9e3ee996053", func := "given.example/pub-tinwright/laws.FnESplitsBack", spec := "fnESplitsBack", apart := false }
def FnESplitsBackSaid : Prop := fnESplitsBackRow.holds Try.pinned (OpenSpec.ofChange fnESplitsBackSpec)

/-- ITS FALSE NEIGHBOUR: 'it returns false'. Refute it at one input. -/
def fnESplitsBackWrong : ChangeSpec := { name := "fnESplitsBack", fn := fun _ => fun
  | [d1, d2, d3] => { results := [.lit (.bool false)], args := [d1, d2, d3] }
  | _ => none }
def FnESplitsBackWrongFalsely : Prop := fnESplitsBackRow.holds Try.pinned (OpenSpec.ofChange fnESplitsBackWrong)

/-- 'laws.FnESubs': WHATEVER THE INPUT: true; the input reads as it did. -/
def fnESubsSpec : ChangeSpec := { name := "fnESubs", fn := fun _ => fun
  | [d1, d2, d3, d4] => { results := [.lit (.bool true)], args := [d1, d2, d3, d4] }
  | _ => none }
def fnESubsRow : OpenClaim := { program := "ythhankjineidiaa", sum := "8f59e5bf8f90f88cf1b1665aaf4144f59759e9793edea70fe307c9e3ee996053", func := "given.example/pub-tinwright/laws.FnESubs", spec := "fnESubs", recurses := true, apart := false }
def FnESubsSaid : Prop := fnESubsRow.holds Try.pinned (OpenSpec.ofChange fnESubsSpec)

/-- ITS FALSE NEIGHBOUR: 'it returns false'. Refute it at one input. -/
def fnESubsWrong : ChangeSpec := { name := "fnESubs", fn := fun _ => fun
  | [d1, d2, d3, d4] => { results := [.lit (.bool false)], args := [d1, d2, d3, d4] }
  | _ => none }
def FnESubsWrongFalsely : Prop := fnESubsRow.holds Try.pinned (OpenSpec.ofChange fnESubsWrong)

/-- 'laws.FnHAgents': WHATEVER THE INPUT: true; the input reads as it did. -/
def fnHAgentsSpec : ChangeSpec := { name := "fnHAgents", fn := fun _ => fun
  | [d] => { results := [.lit (.bool true)], args := [d] }
  | _ => none }
def fnHAgentsRow : OpenClaim := { program := "ythhankjineidiaa", sum := "8f59e5bf8f90f88cf1b1665aaf4144f59759e9793edea70fe307c9e3ee996053", func := "given.example/pub-tinwright/laws.FnHAgents", spec := "fnHAgents", inPlace := ["internal/abi.NoEscape"], apart := false }
def FnHAgentsSaid : Prop := fnHAgentsRow.holds Try.pinned (OpenSpec.ofChange fnHAgentsSpec)

/-- ITS FALSE NEIGHBOUR: 'it returns false'. Refute it at one input. -/
def fnHAgentsWrong : ChangeSpec := { name := "fnHAgents", fn := fun _ => fun
  | [d] => { results := [.lit (.bool false)], args := [d] }
  | _ => none }
def FnHAgentsWrongFalsely : Prop := fnHAgentsRow.holds Try.pinned (OpenSpec.ofChange fnHAgentsWrong)

/-- 'laws.FnEDecides': WHATEVER THE INPUT: true; the input reads as it did. -/
def fnEDecidesSpec : ChangeSpec := { name := "fnEDecides", fn := fun _ => fun
  | [d1, d2, d3] => { results := [.lit (.bool true)], args := [d1, d2, d3] }
  | _ => none }
def fnEDecidesRow : OpenClaim := { program := "ythhankjineidiaa", sum := "8f59e5bf8f90f88cf1b1665aaf4144f59759e9793edea70fe307c9e3ee996053", func := "given.example/pub-tinwright/laws.FnEDecides", spec := "fnEDecides", unfollowed := true, recurses := true, apart := false }
def FnEDecidesSaid : Prop := fnEDecidesRow.holds Try.pinned (OpenSpec.ofChange fnEDecidesSpec)

/-- ITS FALSE NEIGHBOUR: 'it returns false'. Refute it at one input. -/
def fnEDecidesWrong : ChangeSpec := { name := "fnEDecides", fn := fun _ => fun
  | [d1, d2, d3] => { results := [.lit (.bool false)], args := [d1, d2, d3] }
  | _ => none }
def FnEDecidesWrongFalsely : Prop := fnEDecidesRow.holds Try.pinned (OpenSpec.ofChange fnEDecidesWrong)

/-- 'laws.FnEDecidesTree': WHATEVER THE INPUT: true; the input reads as it did. -/
def fnEDecidesTreeSpec : ChangeSpec := { name := "fnEDecidesTree", fn := fun _ => fun
  | [d1, d2, d3, d4, d5] => { results := [.lit (.bool true)], args := [d1, d2, d3, d4, d5] }
  | _ => none }
def fnEDecidesTreeRow : OpenClaim := { program := "ythhankjineidiaa", sum := "8f59e5bf8f90f88cf1b1665aaf4144f59759e9793edea70fe307c9e3ee996053", func := "given.example/pub-tinwright/laws.FnEDecidesTree", spec := "fnEDecidesTree", unfollowed := true, recurses := true, apart := false }
def FnEDecidesTreeSaid : Prop := fnEDecidesTreeRow.holds Try.pinned (OpenSpec.ofChange fnEDecidesTreeSpec)

/-- ITS FALSE NEIGHBOUR: 'it returns false'. Refute it at one input. -/
def fnEDecidesTreeWrong : ChangeSpec := { name := "fnEDecidesTree", fn := fun _ => fun
  | [d1, d2, d3, d4, d5] => { results := [.lit (.bool false)], args := [d1, d2, d3, d4, d5] }
  | _ => none }
def FnEDecidesTreeWrongFalsely : Prop := fnEDecidesTreeRow.holds Try.pinned (OpenSpec.ofChange fnEDecidesTreeWrong)

/-- 'laws.FnEEscapes': WHATEVER THE INPUT: true; the input reads as it did. -/
def fnEEscapesSpec : ChangeSpec := { name := "fnEEscapes", fn := fun _ => fun
  | [d] => { results := [.lit (.bool true)], args := [d] }
  | _ => none }
def fnEEscapesRow : OpenClaim := { program := "ythhankjineidiaa", sum := "8f59e5bf8f90f88cf1b1665aaf4144f59759e9793edea70fe307c9e3ee996053", func := "given.example/pub-tinwright/laws.FnEEscapes", spec := "fnEEscapes", inPlace := ["internal/abi.NoEscape"], apart := false }
def FnEEscapesSaid : Prop := fnEEscapesRow.holds Try.pinned (OpenSpec.ofChange fnEEscapesSpec)

/-- ITS FALSE NEIGHBOUR: 'it returns false'. Refute it at one input. -/
def fnEEscapesWrong : ChangeSpec := { name := "fnEEscapes", fn := fun _ => fun
  | [d] => { results := [.lit (.bool false)], args := [d] }
  | _ => none }
def FnEEscapesWrongFalsely : Prop := fnEEscapesRow.holds Try.pinned (OpenSpec.ofChange fnEEscapesWrong)

/- THE SECOND FORM. 'bulk': how many values and letters a reading holds, each counted each time it is reached (what is shared counts as often as it is met; a slice's spare places count too). A statement '..UptoSaid' is the law's where the arguments, and the package variables that the reading takes, are together of bulk at most 1048576: NARROWER than '..Said'. Prove '..Said' where nothing that the law and all that it calls make is longer than what came in: it says more and counts as full. Else prove '..UptoSaid'. A law counts once. -/
mutual
def uptoBulk {H : Type} : DataW H → Nat
  | .lit (.string bytes) => bytes.length + 1
  | .lit _ => 1
  | .nil => 1
  | .ptr d => uptoBulk d + 1
  | .slice elems spare => uptoBulkAll elems + uptoBulkAll spare + 1
  | .agg parts => uptoBulkAll parts + 1
  | .iface _ d => uptoBulk d + 1
  | .map entries => uptoBulkEntries entries + 1
  | .held _ => 1
def uptoBulkAll {H : Type} : List (DataW H) → Nat
  | [] => 0
  | d :: r => uptoBulk d + uptoBulkAll r
def uptoBulkEntries {H : Type} : List (Lit × DataW H) → Nat
  | [] => 0
  | x :: r => uptoBulkEntry x + uptoBulkEntries r
def uptoBulkEntry {H : Type} : Lit × DataW H → Nat
  | (.string bytes, d) => bytes.length + uptoBulk d + 1
  | (_, d) => uptoBulk d + 1
 end
def uptoSmall : (H : Type) → List (DataW H) → Bool := fun _ ds => decide (uptoBulkAll ds ≤ 1048576)
def OpenSpec.upto (s : _root_.Go.ChangeSpec) : _root_.Go.OpenSpec := { _root_.Go.OpenSpec.ofChange s with cond := some uptoSmall }

/-- 'laws.FnHPaths', WHERE WHAT IT READS IS OF BULK AT MOST 1048576: true; the input reads as it did. -/
def fnHPathsUptoRow : OpenClaim := { program := "ythhankjineidiaa", sum := "8f59e5bf8f90f88cf1b1665aaf4144f59759e9793edea70fe307c9e3ee996053", func := "given.example/pub-tinwright/laws.FnHPaths", spec := "fnHPaths", apart := false, narrowed := true }
def FnHPathsUptoSaid : Prop := fnHPathsUptoRow.holds Try.pinned (OpenSpec.upto fnHPathsSpec)

/-- 'laws.FnHPathsParts', WHERE WHAT IT READS IS OF BULK AT MOST 1048576: true; the input reads as it did. -/
def fnHPathsPartsUptoRow : OpenClaim := { program := "ythhankjineidiaa", sum := "8f59e5bf8f90f88cf1b1665aaf4144f59759e9793edea70fe307c9e3ee996053", func := "given.example/pub-tinwright/laws.FnHPathsParts", spec := "fnHPathsParts", unfollowed := true, recurses := true, apart := false, narrowed := true }
def FnHPathsPartsUptoSaid : Prop := fnHPathsPartsUptoRow.holds Try.pinned (OpenSpec.upto fnHPathsPartsSpec)

/-- 'laws.FnHExpires', WHERE WHAT IT READS IS OF BULK AT MOST 1048576: true; the input reads as it did. -/
def fnHExpiresUptoRow : OpenClaim := { program := "ythhankjineidiaa", sum := "8f59e5bf8f90f88cf1b1665aaf4144f59759e9793edea70fe307c9e3ee996053", func := "given.example/pub-tinwright/laws.FnHExpires", spec := "fnHExpires", apart := false, narrowed := true }
def FnHExpiresUptoSaid : Prop := fnHExpiresUptoRow.holds Try.pinned (OpenSpec.upto fnHExpiresSpec)

/-- 'laws.FnELabels', WHERE WHAT IT READS IS OF BULK AT MOST 1048576: true; the input reads as it did. -/
def fnELabelsUptoRow : OpenClaim := { program := "ythhankjineidiaa", sum := "8f59e5bf8f90f88cf1b1665aaf4144f59759e9793edea70fe307c9e3ee996053", func := "given.example/pub-tinwright/laws.FnELabels", spec := "fnELabels", apart := false, narrowed := true }
def FnELabelsUptoSaid : Prop := fnELabelsUptoRow.holds Try.pinned (OpenSpec.upto fnELabelsSpec)

/-- 'laws.FnEGets', WHERE WHAT IT READS IS OF BULK AT MOST 1048576: true; the input reads as it did. -/
def fnEGetsUptoRow : OpenClaim := { program := "ythhankjineidiaa", sum := "8f59e5bf8f90f88cf1b1665aaf4144f59759e9793edea70fe307c9e3ee996053", func := "given.example/pub-tinwright/laws.FnEGets", spec := "fnEGets", apart := false, narrowed := true }
def FnEGetsUptoSaid : Prop := fnEGetsUptoRow.holds Try.pinned (OpenSpec.upto fnEGetsSpec)

/-- 'laws.FnESplits', WHERE WHAT IT READS IS OF BULK AT MOST 1048576: true; the input reads as it did. -/
def fnESplitsUptoRow : OpenClaim := { program := "ythhankjineidiaa", sum := "8f59e5bf8f90f88cf1b1665aaf4144f59759e9793edea70fe307c9e3ee996053", func := "given.example/pub-tinwright/laws.FnESplits", spec := "fnESplits", apart := false, narrowed := true }
def FnESplitsUptoSaid : Prop := fnESplitsUptoRow.holds Try.pinned (OpenSpec.upto fnESplitsSpec)

/-- 'laws.FnESplitsBack', WHERE WHAT IT READS IS OF BULK AT MOST 1048576: true; the input reads as it did. -/
def fnESplitsBackUptoRow : OpenClaim := { program := "ythhankjineidiaa", sum := "8f59e5bf8f90f88cf1b1665aaf4144f59759e9793edea70fe307c9e3ee996053", func := "given.example/pub-tinwright/laws.FnESplitsBack", spec := "fnESplitsBack", apart := false, narrowed := true }
def FnESplitsBackUptoSaid : Prop := fnESplitsBackUptoRow.holds Try.pinned (OpenSpec.upto fnESplitsBackSpec)

/-- 'laws.FnESubs', WHERE WHAT IT READS IS OF BULK AT MOST 1048576: true; the input reads as it did. -/
def fnESubsUptoRow : OpenClaim := { program := "ythhankjineidiaa", sum := "8f59e5bf8f90f88cf1b1665aaf4144f59759e9793edea70fe307c9e3ee996053", func := "given.example/pub-tinwright/laws.FnESubs", spec := "fnESubs", recurses := true, apart := false, narrowed := true }
def FnESubsUptoSaid : Prop := fnESubsUptoRow.holds Try.pinned (OpenSpec.upto fnESubsSpec)

/-- 'laws.FnHAgents', WHERE WHAT IT READS IS OF BULK AT MOST 1048576: true; the input reads as it did. -/
def fnHAgentsUptoRow : OpenClaim := { program := "ythhankjineidiaa", sum := "8f59e5bf8f90f88cf1b1665aaf4144f59759e9793edea70fe307c9e3ee996053", func := "given.example/pub-tinwright/laws.FnHAgents", spec := "fnHAgents", inPlace := ["internal/abi.NoEscape"], apart := false, narrowed := true }
def FnHAgentsUptoSaid : Prop := fnHAgentsUptoRow.holds Try.pinned (OpenSpec.upto fnHAgentsSpec)

/-- 'laws.FnEDecides', WHERE WHAT IT READS IS OF BULK AT MOST 1048576: true; the input reads as it did. -/
def fnEDecidesUptoRow : OpenClaim := { program := "ythhankjineidiaa", sum := "8f59e5bf8f90f88cf1b1665aaf4144f59759e9793edea70fe307c9e3ee996053", func := "given.example/pub-tinwright/laws.FnEDecides", spec := "fnEDecides", unfollowed := true, recurses := true, apart := false, narrowed := true }
def FnEDecidesUptoSaid : Prop := fnEDecidesUptoRow.holds Try.pinned (OpenSpec.upto fnEDecidesSpec)

/-- 'laws.FnEDecidesTree', WHERE WHAT IT READS IS OF BULK AT MOST 1048576: true; the input reads as it did. -/
def fnEDecidesTreeUptoRow : OpenClaim := { program := "ythhankjineidiaa", sum := "8f59e5bf8f90f88cf1b1665aaf4144f59759e9793edea70fe307c9e3ee996053", func := "given.example/pub-tinwright/laws.FnEDecidesTree", spec := "fnEDecidesTree", unfollowed := true, recurses := true, apart := false, narrowed := true }
def FnEDecidesTreeUptoSaid : Prop := fnEDecidesTreeUptoRow.holds Try.pinned (OpenSpec.upto fnEDecidesTreeSpec)

/-- 'laws.FnEEscapes', WHERE WHAT IT READS IS OF BULK AT MOST 1048576: true; the input reads as it did. -/
def fnEEscapesUptoRow : OpenClaim := { program := "ythhankjineidiaa", sum := "8f59e5bf8f90f88cf1b1665aaf4144f59759e9793edea70fe307c9e3ee996053", func := "given.example/pub-tinwright/laws.FnEEscapes", spec := "fnEEscapes", inPlace := ["internal/abi.NoEscape"], apart := false, narrowed := true }
def FnEEscapesUptoSaid : Prop := fnEEscapesUptoRow.holds Try.pinned (OpenSpec.upto fnEEscapesSpec)

end Rows
end Go.Proofs.Ythhankjineidiaa
