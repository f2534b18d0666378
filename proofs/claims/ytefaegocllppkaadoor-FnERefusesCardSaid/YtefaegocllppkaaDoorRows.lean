/-
  NARROWER THAN 'FOR EVERY INPUT', by the rows' own cells (each row's printed sentence says how): FnEParses: laid · FnERefuses: laid.
  DERIVED. THE GIVEN ROWS OF THIS SEAT. 2 by the template 'for every input the law returns true; each argument reads behind the call as it read before'; 0 by the template 'total and deterministic' (their statements: YtefaegocllppkaaDoorTotals.lean).
  GIVEN WITH THE SEED: the statements are not yours to turn. If you find one false, say at which input.
  Laid BY PROGRAM, IN A SANDBOX (cutbox-rows.mjs): the forced cells as the released guide's own fill.sh prints them over the translation 4c080ab582a7d726… (all of the seat's roots in one cut). By AI agents, Wed Nov 11 2026. No macro, syntax, notation, axiom, sorry.
-/
import Derived.Test.YtefaegocllppkaaDoorChecked
import GoSem.Claim
import GoSem.ClaimJoined
import GoSem.ClaimMapViews
import Derived.JoinedTies
import Derived.KernelRfl
namespace Go.Proofs.YtefaegocllppkaaDoor
/- THE CELL 'sum', in the pinned program and in every row, IS THE sha256 OF THE DUMP (.gsa) THAT YtefaegocllppkaaDoorProg.lean LOADS. Nothing in Lean hashes anything: it is a label: what it is worth is what the hold of that sum in a sandbox is worth. -/
noncomputable def Tryd.pinned : Pinned := { name := "ytefaegocllppkaadoor", sum := "4c080ab582a7d7266d66b19c9616e682f75d34dad63f6164b963118d776ac652", checked := Tryd.checked }
namespace Rows
def none {H : Type} : Left H := { results := [], args := [] }

/- WHAT THE LISTED PACKAGE-LEVEL VARIABLES READ AS WHEN THE CALL BEGINS. Each datum BY PROGRAM (the guide's laid-datum.mjs) off the statement by which the dump's own 'gosem.cut.vars' lays the variable. In a bare row this is a premise. The card (YtefaegocllppkaaDoorCards.lean) ties it to the program's text. -/
def laid_given_example_pub_tinwright_pub_neturl_table {H : Type} : DataW H := .agg [.lit (.int .u8 0), .lit (.int .u8 0), .lit (.int .u8 0), .lit (.int .u8 0), .lit (.int .u8 0), .lit (.int .u8 0), .lit (.int .u8 0), .lit (.int .u8 0), .lit (.int .u8 0), .lit (.int .u8 0), .lit (.int .u8 0), .lit (.int .u8 0), .lit (.int .u8 0), .lit (.int .u8 0), .lit (.int .u8 0), .lit (.int .u8 0), .lit (.int .u8 0), .lit (.int .u8 0), .lit (.int .u8 0), .lit (.int .u8 0), .lit (.int .u8 0), .lit (.int .u8 0), .lit (.int .u8 0), .lit (.int .u8 0), .lit (.int .u8 0), .lit (.int .u8 0), .lit (.int .u8 0), .lit (.int .u8 0), .lit (.int .u8 0), .lit (.int .u8 0), .lit (.int .u8 0), .lit (.int .u8 0), .lit (.int .u8 0), .lit (.int .u8 76), .lit (.int .u8 12), .lit (.int .u8 0), .lit (.int .u8 95), .lit (.int .u8 0), .lit (.int .u8 95), .lit (.int .u8 12), .lit (.int .u8 76), .lit (.int .u8 76), .lit (.int .u8 76), .lit (.int .u8 95), .lit (.int .u8 93), .lit (.int .u8 127), .lit (.int .u8 127), .lit (.int .u8 65), .lit (.int .u8 255), .lit (.int .u8 255), .lit (.int .u8 255), .lit (.int .u8 255), .lit (.int .u8 255), .lit (.int .u8 255), .lit (.int .u8 255), .lit (.int .u8 255), .lit (.int .u8 255), .lit (.int .u8 255), .lit (.int .u8 79), .lit (.int .u8 93), .lit (.int .u8 12), .lit (.int .u8 95), .lit (.int .u8 12), .lit (.int .u8 64), .lit (.int .u8 67), .lit (.int .u8 255), .lit (.int .u8 255), .lit (.int .u8 255), .lit (.int .u8 255), .lit (.int .u8 255), .lit (.int .u8 255), .lit (.int .u8 127), .lit (.int .u8 127), .lit (.int .u8 127), .lit (.int .u8 127), .lit (.int .u8 127), .lit (.int .u8 127), .lit (.int .u8 127), .lit (.int .u8 127), .lit (.int .u8 127), .lit (.int .u8 127), .lit (.int .u8 127), .lit (.int .u8 127), .lit (.int .u8 127), .lit (.int .u8 127), .lit (.int .u8 127), .lit (.int .u8 127), .lit (.int .u8 127), .lit (.int .u8 127), .lit (.int .u8 127), .lit (.int .u8 127), .lit (.int .u8 12), .lit (.int .u8 0), .lit (.int .u8 12), .lit (.int .u8 0), .lit (.int .u8 127), .lit (.int .u8 0), .lit (.int .u8 255), .lit (.int .u8 255), .lit (.int .u8 255), .lit (.int .u8 255), .lit (.int .u8 255), .lit (.int .u8 255), .lit (.int .u8 127), .lit (.int .u8 127), .lit (.int .u8 127), .lit (.int .u8 127), .lit (.int .u8 127), .lit (.int .u8 127), .lit (.int .u8 127), .lit (.int .u8 127), .lit (.int .u8 127), .lit (.int .u8 127), .lit (.int .u8 127), .lit (.int .u8 127), .lit (.int .u8 127), .lit (.int .u8 127), .lit (.int .u8 127), .lit (.int .u8 127), .lit (.int .u8 127), .lit (.int .u8 127), .lit (.int .u8 127), .lit (.int .u8 127), .lit (.int .u8 0), .lit (.int .u8 0), .lit (.int .u8 0), .lit (.int .u8 127), .lit (.int .u8 0), .lit (.int .u8 0), .lit (.int .u8 0), .lit (.int .u8 0), .lit (.int .u8 0), .lit (.int .u8 0), .lit (.int .u8 0), .lit (.int .u8 0), .lit (.int .u8 0), .lit (.int .u8 0), .lit (.int .u8 0), .lit (.int .u8 0), .lit (.int .u8 0), .lit (.int .u8 0), .lit (.int .u8 0), .lit (.int .u8 0), .lit (.int .u8 0), .lit (.int .u8 0), .lit (.int .u8 0), .lit (.int .u8 0), .lit (.int .u8 0), .lit (.int .u8 0), .lit (.int .u8 0), .lit (.int .u8 0), .lit (.int .u8 0), .lit (.int .u8 0), .lit (.int .u8 0), .lit (.int .u8 0), .lit (.int .u8 0), .lit (.int .u8 0), .lit (.int .u8 0), .lit (.int .u8 0), .lit (.int .u8 0), .lit (.int .u8 0), .lit (.int .u8 0), .lit (.int .u8 0), .lit (.int .u8 0), .lit (.int .u8 0), .lit (.int .u8 0), .lit (.int .u8 0), .lit (.int .u8 0), .lit (.int .u8 0), .lit (.int .u8 0), .lit (.int .u8 0), .lit (.int .u8 0), .lit (.int .u8 0), .lit (.int .u8 0), .lit (.int .u8 0), .lit (.int .u8 0), .lit (.int .u8 0), .lit (.int .u8 0), .lit (.int .u8 0), .lit (.int .u8 0), .lit (.int .u8 0), .lit (.int .u8 0), .lit (.int .u8 0), .lit (.int .u8 0), .lit (.int .u8 0), .lit (.int .u8 0), .lit (.int .u8 0), .lit (.int .u8 0), .lit (.int .u8 0), .lit (.int .u8 0), .lit (.int .u8 0), .lit (.int .u8 0), .lit (.int .u8 0), .lit (.int .u8 0), .lit (.int .u8 0), .lit (.int .u8 0), .lit (.int .u8 0), .lit (.int .u8 0), .lit (.int .u8 0), .lit (.int .u8 0), .lit (.int .u8 0), .lit (.int .u8 0), .lit (.int .u8 0), .lit (.int .u8 0), .lit (.int .u8 0), .lit (.int .u8 0), .lit (.int .u8 0), .lit (.int .u8 0), .lit (.int .u8 0), .lit (.int .u8 0), .lit (.int .u8 0), .lit (.int .u8 0), .lit (.int .u8 0), .lit (.int .u8 0), .lit (.int .u8 0), .lit (.int .u8 0), .lit (.int .u8 0), .lit (.int .u8 0), .lit (.int .u8 0), .lit (.int .u8 0), .lit (.int .u8 0), .lit (.int .u8 0), .lit (.int .u8 0), .lit (.int .u8 0), .lit (.int .u8 0), .lit (.int .u8 0), .lit (.int .u8 0), .lit (.int .u8 0), .lit (.int .u8 0), .lit (.int .u8 0), .lit (.int .u8 0), .lit (.int .u8 0), .lit (.int .u8 0), .lit (.int .u8 0), .lit (.int .u8 0), .lit (.int .u8 0), .lit (.int .u8 0), .lit (.int .u8 0), .lit (.int .u8 0), .lit (.int .u8 0), .lit (.int .u8 0), .lit (.int .u8 0), .lit (.int .u8 0), .lit (.int .u8 0), .lit (.int .u8 0), .lit (.int .u8 0), .lit (.int .u8 0), .lit (.int .u8 0), .lit (.int .u8 0), .lit (.int .u8 0), .lit (.int .u8 0), .lit (.int .u8 0), .lit (.int .u8 0), .lit (.int .u8 0), .lit (.int .u8 0), .lit (.int .u8 0)]

/-- 'laws.FnEParses': WHATEVER THE INPUT: true; the input reads as it did. -/
def fnEParsesSpec : ChangeSpec := { name := "fnEParses", vars := ["given.example/pub-tinwright/pub/neturl.table"], fn := fun _ => fun
  | [d, g1] => { results := [.lit (.bool true)], args := [d], vars := [g1] }
  | _ => none }
def fnEParsesRow : OpenClaim := { program := "ytefaegocllppkaadoor", sum := "4c080ab582a7d7266d66b19c9616e682f75d34dad63f6164b963118d776ac652", func := "given.example/pub-tinwright/laws.FnEParses", spec := "fnEParses", inPlace := ["internal/abi.NoEscape", "internal/bytealg.MakeNoZero", "internal/bytealg.IndexByteString"], named := ["given.example/pub-tinwright/pub/neturl.table"], apart := false, laid := [("given.example/pub-tinwright/pub/neturl.table", laid_given_example_pub_tinwright_pub_neturl_table)] }
def FnEParsesSaid : Prop := fnEParsesRow.holds Tryd.pinned (OpenSpec.ofChange fnEParsesSpec)

/-- ITS FALSE NEIGHBOUR: 'it returns false'. Refute it at one input. -/
def fnEParsesWrong : ChangeSpec := { name := "fnEParses", vars := ["given.example/pub-tinwright/pub/neturl.table"], fn := fun _ => fun
  | [d, g1] => { results := [.lit (.bool false)], args := [d], vars := [g1] }
  | _ => none }
def FnEParsesWrongFalsely : Prop := fnEParsesRow.holds Tryd.pinned (OpenSpec.ofChange fnEParsesWrong)

/-- 'laws.FnERefuses': WHATEVER THE INPUT: true; the input reads as it did. -/
def fnERefusesSpec : ChangeSpec := { name := "fnERefuses", vars := ["given.example/pub-tinwright/pub/neturl.table"], fn := fun _ => fun
  | [d1, d2, d3, g1] => { results := [.lit (.bool true)], args := [d1, d2, d3], vars := [g1] }
  | _ => none }
def fnERefusesRow : OpenClaim := { program := "ytefaegocllppkaadoor", sum := "4c080ab582a7d7266d66b19c9616e682f75d34dad63f6164b963118d776ac652", func := "given.example/pub-tinwright/laws.FnERefuses", spec := "fnERefuses", inPlace := ["internal/abi.NoEscape", "internal/bytealg.MakeNoZero", "internal/bytealg.IndexByteString"], named := ["given.example/pub-tinwright/pub/neturl.table"], apart := false, laid := [("given.example/pub-tinwright/pub/neturl.table", laid_given_example_pub_tinwright_pub_neturl_table)] }
def FnERefusesSaid : Prop := fnERefusesRow.holds Tryd.pinned (OpenSpec.ofChange fnERefusesSpec)

/-- ITS FALSE NEIGHBOUR: 'it returns false'. Refute it at one input. -/
def fnERefusesWrong : ChangeSpec := { name := "fnERefuses", vars := ["given.example/pub-tinwright/pub/neturl.table"], fn := fun _ => fun
  | [d1, d2, d3, g1] => { results := [.lit (.bool false)], args := [d1, d2, d3], vars := [g1] }
  | _ => none }
def FnERefusesWrongFalsely : Prop := fnERefusesRow.holds Tryd.pinned (OpenSpec.ofChange fnERefusesWrong)

/- THE SECOND FORM. 'bulk': how many values and letters a reading holds, each counted each time it is reached (what is shared counts as often as it is met; a slice's spare places count too). A statement '..UptoSaid' is the law's where the arguments, and the package variables that the reading takes, are together of bulk at most 1048576: NARROWER than '..Said'. Prove '..Said' where nothing that the law and all that it calls make is longer than what came in: it says more and counts as full. Else prove '..UptoSaid'. A law counts once. -/
mutual
def uptoBulk {H : Type} : DataW H → Nat
  | .lit (.string bytes) => bytes.length + 1
  | .lit _ => 1
  | .nil => 1
  | .ptr d => uptoBulk d + 1
  | .slice elems spare => uptoBulkAll elems + uptoBulkAll spare + 1
  | .agg parts => uptoBulkAll parts + 1
  | .iface _ d => uptoBulk d + 1
  | .map entries => uptoBulkEntries entries + 1
  | .held _ => 1
def uptoBulkAll {H : Type} : List (DataW H) → Nat
  | [] => 0
  | d :: r => uptoBulk d + uptoBulkAll r
def uptoBulkEntries {H : Type} : List (Lit × DataW H) → Nat
  | [] => 0
  | x :: r => uptoBulkEntry x + uptoBulkEntries r
def uptoBulkEntry {H : Type} : Lit × DataW H → Nat
  | (.string bytes, d) => bytes.length + uptoBulk d + 1
  | (_, d) => uptoBulk d + 1
 end
def uptoSmall : (H : Type) → List (DataW H) → Bool := fun _ ds => decide (uptoBulkAll ds ≤ 1048576)
def OpenSpec.upto (s : _root_.Go.ChangeSpec) : _root_.Go.OpenSpec := { _root_.Go.OpenSpec.ofChange s with cond := some uptoSmall }

/-- 'laws.FnEParses', WHERE WHAT IT READS IS OF BULK AT MOST 1048576: true; the input reads as it did. -/
def fnEParsesUptoRow : OpenClaim := { program := "ytefaegocllppkaadoor", sum := "4c080ab582a7d7266d66b19c9616e682f75d34dad63f6164b963118d776ac652", func := "given.example/pub-tinwright/laws.FnEParses", spec := "fnEParses", inPlace := ["internal/abi.NoEscape", "internal/bytealg.MakeNoZero", "internal/bytealg.IndexByteString"], named := ["given.example/pub-tinwright/pub/neturl.table"], apart := false, laid := [("given.example/pub-tinwright/pub/neturl.table", laid_given_example_pub_tinwright_pub_neturl_table)], narrowed := true }
def FnEParsesUptoSaid : Prop := fnEParsesUptoRow.holds Tryd.pinned (OpenSpec.upto fnEParsesSpec)

/-- 'laws.FnERefuses', WHERE WHAT IT READS IS OF BULK AT MOST 1048576: true; the input reads as it did. -/
def fnERefusesUptoRow : OpenClaim := { program := "ytefaegocllppkaadoor", sum := "4c080ab582a7d7266d66b19c9616e682f75d34dad63f6164b963118d776ac652", func := "given.example/pub-tinwright/laws.FnERefuses", spec := "fnERefuses", inPlace := ["internal/abi.NoEscape", "internal/bytealg.MakeNoZero", "internal/bytealg.IndexByteString"], named := ["given.example/pub-tinwright/pub/neturl.table"], apart := false, laid := [("given.example/pub-tinwright/pub/neturl.table", laid_given_example_pub_tinwright_pub_neturl_table)], narrowed := true }
def FnERefusesUptoSaid : Prop := fnERefusesUptoRow.holds Tryd.pinned (OpenSpec.upto fnERefusesSpec)

end Rows
end Go.Proofs.YtefaegocllppkaaDoor
