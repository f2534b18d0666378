/-
  No cell of these rows narrows 'for every input' (looked for: loops, veiled, ifaces, maps, wideKeys, modest, calm, conditions, laid).
  DERIVED. THE GIVEN ROWS OF THIS SEAT. 2 by the template 'for every input the law returns true; each argument reads behind the call as it read before'; 0 by the template 'total and deterministic' (their statements: YtjmlifpngnbomaaTotals.lean).
  GIVEN WITH THE SEED: the statements are not yours to turn. If you find one false, say at which input.
  Laid BY PROGRAM, IN A SANDBOX (cutbox-rows.mjs): the forced cells as the released guide's own fill.sh prints them over the translation 4adb9214a5fcdbad… (all of the seat's roots in one cut). By AI agents, Wed Nov 11 2026. No macro, syntax, notation, axiom, sorry.
-/
import Derived.Test.YtjmlifpngnbomaaChecked
import GoSem.Claim
import GoSem.ClaimJoined
import GoSem.ClaimMapViews
import Derived.JoinedTies
import Derived.KernelRfl
namespace Go.Proofs.Ytjmlifpngnbomaa
/- THE CELL 'sum', in the pinned program and in every row, IS THE sha256 OF THE DUMP (.gsa) THAT YtjmlifpngnbomaaProg.lean LOADS. Nothing in Lean hashes anything: it is a label: what it is worth is what the hold of that sum in a sandbox is worth. -/
noncomputable def Try.pinned : Pinned := { name := "ytjmlifpngnbomaa", sum := "4adb9214a5fcdbad36c7488758ef29ce9f10113667c3ef2ae455dee9494429e2", checked := Try.checked }
namespace Rows
def none {H : Type} : Left H := { results := [], args := [] }

/-- 'laws.FnSCache': WHATEVER THE INPUT: true; the input reads as it did. -/
def fnSCacheSpec : ChangeSpec := { name := "fnSCache", fn := fun _ => fun
  | [d1, d2] => { results := [.lit (.bool true)], args := [d1, d2] }
  | _ => none }
def fnSCacheRow : OpenClaim := { program := "ytjmlifpngnbomaa", sum := "4adb9214a5fcdbad36c7488758ef29ce9f10113667c3ef2ae455dee9494429e2", func := "given.example/pub-tinwright/laws.FnSCache", spec := "fnSCache", unfollowed := true, recurses := true, apart := false }
def FnSCacheSaid : Prop := fnSCacheRow.holds Try.pinned (OpenSpec.ofChange fnSCacheSpec)

/-- ITS FALSE NEIGHBOUR: 'it returns false'. Refute it at one input. -/
def fnSCacheWrong : ChangeSpec := { name := "fnSCache", fn := fun _ => fun
  | [d1, d2] => { results := [.lit (.bool false)], args := [d1, d2] }
  | _ => none }
def FnSCacheWrongFalsely : Prop := fnSCacheRow.holds Try.pinned (OpenSpec.ofChange fnSCacheWrong)

/-- 'laws.FnSCacheLarge': WHATEVER THE INPUT: true; the input reads as it did. -/
def fnSCacheLargeSpec : ChangeSpec := { name := "fnSCacheLarge", fn := fun _ => fun
  | [d] => { results := [.lit (.bool true)], args := [d] }
  | _ => none }
def fnSCacheLargeRow : OpenClaim := { program := "ytjmlifpngnbomaa", sum := "4adb9214a5fcdbad36c7488758ef29ce9f10113667c3ef2ae455dee9494429e2", func := "given.example/pub-tinwright/laws.FnSCacheLarge", spec := "fnSCacheLarge", unfollowed := true, recurses := true, apart := false }
def FnSCacheLargeSaid : Prop := fnSCacheLargeRow.holds Try.pinned (OpenSpec.ofChange fnSCacheLargeSpec)

/-- ITS FALSE NEIGHBOUR: 'it returns false'. Refute it at one input. -/
def fnSCacheLargeWrong : ChangeSpec := { name := "fnSCacheLarge", fn := fun _ => fun
  | [d] => { results := [.lit (.bool false)], args := [d] }
  | _ => none }
def FnSCacheLargeWrongFalsely : Prop := fnSCacheLargeRow.holds Try.pinned (OpenSpec.ofChange fnSCacheLargeWrong)

/- THE SECOND FORM. 'bulk': how many values and letters a reading holds, each counted each time it is reached (what is shared counts as often as it is met; a slice's spare places count too). A statement '..UptoSaid' is the law's where the arguments, and the package variables that the reading takes, are together of bulk at most 1048576: NARROWER than '..Said'. Prove '..Said' where nothing that the law and all that it calls make is longer than what came in: it says more and counts as full. Else prove '..UptoSaid'. A law counts once. -/
mutual
def uptoBulk {H : Type} : DataW H → Nat
  | .lit (.string bytes) => bytes.length + 1
  | .lit _ => 1
  | .nil => 1
  | .ptr d => uptoBulk d + 1
  | .slice elems spare => uptoBulkAll elems + uptoBulkAll spare + 1
  | .agg parts => uptoBulkAll parts + 1
  | .iface _ d => uptoBulk d + 1
  | .map entries => uptoBulkEntries entries + 1
  | .held _ => 1
def uptoBulkAll {H : Type} : List (DataW H) → Nat
  | [] => 0
  | d :: r => uptoBulk d + uptoBulkAll r
def uptoBulkEntries {H : Type} : List (Lit × DataW H) → Nat
  | [] => 0
  | x :: r => uptoBulkEntry x + uptoBulkEntries r
def uptoBulkEntry {H : Type} : Lit × DataW H → Nat
  | (.string bytes, d) => bytes.length + uptoBulk d + 1
  | (_, d) => uptoBulk d + 1
 end
def uptoSmall : (H : Type) → List (DataW H) → Bool := fun _ ds => decide (uptoBulkAll ds ≤ 1048576)
def OpenSpec.upto (s : _root_.Go.ChangeSpec) : _root_.Go.OpenSpec := { _root_.Go.OpenSpec.ofChange s with cond := some uptoSmall }

/-- 'laws.FnSCache', WHERE WHAT IT READS IS OF BULK AT MOST 1048576: true; the input reads as it did. -/
def fnSCacheUptoRow : OpenClaim := { program := "ytjmlifpngnbomaa", sum := "4adb9214a5fcdbad36c7488758ef29ce9f10113667c3ef2ae455dee9494429e2", func := "given.example/pub-tinwright/laws.FnSCache", spec := "fnSCache", unfollowed := true, recurses := true, apart := false, narrowed := true }
def FnSCacheUptoSaid : Prop := fnSCacheUptoRow.holds Try.pinned (OpenSpec.upto fnSCacheSpec)

/-- 'laws.FnSCacheLarge', WHERE WHAT IT READS IS OF BULK AT MOST 1048576: true; the input reads as it did. -/
def fnSCacheLargeUptoRow : OpenClaim := { program := "ytjmlifpngnbomaa", sum := "4adb9214a5fcdbad36c7488758ef29ce9f10113667c3ef2ae455dee9494429e2", func := "given.example/pub-tinwright/laws.FnSCacheLarge", spec := "fnSCacheLarge", unfollowed := true, recurses := true, apart := false, narrowed := true }
def FnSCacheLargeUptoSaid : Prop := fnSCacheLargeUptoRow.holds Try.pinned (OpenSpec.upto fnSCacheLargeSpec)

end Rows
end Go.Proofs.Ytjmlifpngnbomaa
