/-
  No cell of these rows narrows 'for every input' (looked for: loops, veiled, ifaces, maps, wideKeys, modest, calm, conditions, laid).
  DERIVED. THE GIVEN ROWS OF THIS SEAT. 5 by the template 'for every input the law returns true; each argument reads behind the call as it read before'; 0 by the template 'total and deterministic' (their statements: YtiegaefkahnfjaaGreatTotals.lean).
  GIVEN WITH THE SEED: the statements are not yours to turn. If you find one false, say at which input.
  Laid BY PROGRAM, IN A SANDBOX (cutbox-rows.mjs): the forced cells as the released guide's own fill.sh prints them over the translation df9b236985eda35a… (all of the seat's roots in one cut). By AI agents, Wed Nov 11 2026. No macro, syntax, notation, axiom, sorry.
-/
import Derived.Test.YtiegaefkahnfjaaGreatChecked
import GoSem.Claim
import GoSem.ClaimJoined
import GoSem.ClaimMapViews
import Derived.JoinedTies
import Derived.KernelRfl
namespace Go.Proofs.YtiegaefkahnfjaaGreat
/- THE CELL 'sum', in the pinned program and in every row, IS THE sha256 OF THE DUMP (.gsa) THAT YtiegaefkahnfjaaGreatProg.lean LOADS. Nothing in Lean hashes anything: it is a label: what it is worth is what the hold of that sum in a sandbox is worth. -/
noncomputable def Tryz.pinned : Pinned := { name := "ytiegaefkahnfjaagreat", sum := "df9b236985eda35a2386dba67c04c6f1da1bfc41f02c0f3a9a71c3592bd60ede", checked := Tryz.checked }
namespace Rows
def none {H : Type} : Left H := { results := [], args := [] }

/-- 'laws.FnWHas': WHATEVER THE INPUT: true; the input reads as it did. -/
def fnWHasSpec : ChangeSpec := { name := "fnWHas", fn := fun _ => fun
  | [d1, d2, d3] => { results := [.lit (.bool true)], args := [d1, d2, d3] }
  | _ => none }
def fnWHasRow : OpenClaim := { program := "ytiegaefkahnfjaagreat", sum := "df9b236985eda35a2386dba67c04c6f1da1bfc41f02c0f3a9a71c3592bd60ede", func := "given.example/pub-tinwright/laws.FnWHas", spec := "fnWHas", unfollowed := true, recurses := true, apart := false }
def FnWHasSaid : Prop := fnWHasRow.holds Tryz.pinned (OpenSpec.ofChange fnWHasSpec)

/-- ITS FALSE NEIGHBOUR: 'it returns false'. Refute it at one input. -/
def fnWHasWrong : ChangeSpec := { name := "fnWHas", fn := fun _ => fun
  | [d1, d2, d3] => { results := [.lit (.bool false)], args := [d1, d2, d3] }
  | _ => none }
def FnWHasWrongFalsely : Prop := fnWHasRow.holds Tryz.pinned (OpenSpec.ofChange fnWHasWrong)

/-- 'laws.FnWAround': WHATEVER THE INPUT: true; the input reads as it did. -/
def fnWAroundSpec : ChangeSpec := { name := "fnWAround", fn := fun _ => fun
  | [d1, d2, d3, d4, d5] => { results := [.lit (.bool true)], args := [d1, d2, d3, d4, d5] }
  | _ => none }
def fnWAroundRow : OpenClaim := { program := "ytiegaefkahnfjaagreat", sum := "df9b236985eda35a2386dba67c04c6f1da1bfc41f02c0f3a9a71c3592bd60ede", func := "given.example/pub-tinwright/laws.FnWAround", spec := "fnWAround", unfollowed := true, recurses := true, apart := false }
def FnWAroundSaid : Prop := fnWAroundRow.holds Tryz.pinned (OpenSpec.ofChange fnWAroundSpec)

/-- ITS FALSE NEIGHBOUR: 'it returns false'. Refute it at one input. -/
def fnWAroundWrong : ChangeSpec := { name := "fnWAround", fn := fun _ => fun
  | [d1, d2, d3, d4, d5] => { results := [.lit (.bool false)], args := [d1, d2, d3, d4, d5] }
  | _ => none }
def FnWAroundWrongFalsely : Prop := fnWAroundRow.holds Tryz.pinned (OpenSpec.ofChange fnWAroundWrong)

/-- 'laws.FnWSteps': WHATEVER THE INPUT: true; the input reads as it did. -/
def fnWStepsSpec : ChangeSpec := { name := "fnWSteps", fn := fun _ => fun
  | [d] => { results := [.lit (.bool true)], args := [d] }
  | _ => none }
def fnWStepsRow : OpenClaim := { program := "ytiegaefkahnfjaagreat", sum := "df9b236985eda35a2386dba67c04c6f1da1bfc41f02c0f3a9a71c3592bd60ede", func := "given.example/pub-tinwright/laws.FnWSteps", spec := "fnWSteps", unfollowed := true, recurses := true, apart := false }
def FnWStepsSaid : Prop := fnWStepsRow.holds Tryz.pinned (OpenSpec.ofChange fnWStepsSpec)

/-- ITS FALSE NEIGHBOUR: 'it returns false'. Refute it at one input. -/
def fnWStepsWrong : ChangeSpec := { name := "fnWSteps", fn := fun _ => fun
  | [d] => { results := [.lit (.bool false)], args := [d] }
  | _ => none }
def FnWStepsWrongFalsely : Prop := fnWStepsRow.holds Tryz.pinned (OpenSpec.ofChange fnWStepsWrong)

/-- 'laws.FnWCalls': WHATEVER THE INPUT: true; the input reads as it did. -/
def fnWCallsSpec : ChangeSpec := { name := "fnWCalls", fn := fun _ => fun
  | [d1, d2, d3] => { results := [.lit (.bool true)], args := [d1, d2, d3] }
  | _ => none }
def fnWCallsRow : OpenClaim := { program := "ytiegaefkahnfjaagreat", sum := "df9b236985eda35a2386dba67c04c6f1da1bfc41f02c0f3a9a71c3592bd60ede", func := "given.example/pub-tinwright/laws.FnWCalls", spec := "fnWCalls", unfollowed := true, recurses := true, apart := false }
def FnWCallsSaid : Prop := fnWCallsRow.holds Tryz.pinned (OpenSpec.ofChange fnWCallsSpec)

/-- ITS FALSE NEIGHBOUR: 'it returns false'. Refute it at one input. -/
def fnWCallsWrong : ChangeSpec := { name := "fnWCalls", fn := fun _ => fun
  | [d1, d2, d3] => { results := [.lit (.bool false)], args := [d1, d2, d3] }
  | _ => none }
def FnWCallsWrongFalsely : Prop := fnWCallsRow.holds Tryz.pinned (OpenSpec.ofChange fnWCallsWrong)

/-- 'laws.FnWLists': WHATEVER THE INPUT: true; the input reads as it did. -/
def fnWListsSpec : ChangeSpec := { name := "fnWLists", fn := fun _ => fun
  | [d] => { results := [.lit (.bool true)], args := [d] }
  | _ => none }
def fnWListsRow : OpenClaim := { program := "ytiegaefkahnfjaagreat", sum := "df9b236985eda35a2386dba67c04c6f1da1bfc41f02c0f3a9a71c3592bd60ede", func := "given.example/pub-tinwright/laws.FnWLists", spec := "fnWLists", unfollowed := true, recurses := true, apart := false }
def FnWListsSaid : Prop := fnWListsRow.holds Tryz.pinned (OpenSpec.ofChange fnWListsSpec)

/-- ITS FALSE NEIGHBOUR: 'it returns false'. Refute it at one input. -/
def fnWListsWrong : ChangeSpec := { name := "fnWLists", fn := fun _ => fun
  | [d] => { results := [.lit (.bool false)], args := [d] }
  | _ => none }
def FnWListsWrongFalsely : Prop := fnWListsRow.holds Tryz.pinned (OpenSpec.ofChange fnWListsWrong)

/- THE SECOND FORM. 'bulk': how many values and letters a reading holds, each counted each time it is reached (what is shared counts as often as it is met; a slice's spare places count too). A statement '..UptoSaid' is the law's where the arguments, and the package variables that the reading takes, are together of bulk at most 1048576: NARROWER than '..Said'. Prove '..Said' where nothing that the law and all that it calls make is longer than what came in: it says more and counts as full. Else prove '..UptoSaid'. A law counts once. -/
mutual
def uptoBulk {H : Type} : DataW H → Nat
  | .lit (.string bytes) => bytes.length + 1
  | .lit _ => 1
  | .nil => 1
  | .ptr d => uptoBulk d + 1
  | .slice elems spare => uptoBulkAll elems + uptoBulkAll spare + 1
  | .agg parts => uptoBulkAll parts + 1
  | .iface _ d => uptoBulk d + 1
  | .map entries => uptoBulkEntries entries + 1
  | .held _ => 1
def uptoBulkAll {H : Type} : List (DataW H) → Nat
  | [] => 0
  | d :: r => uptoBulk d + uptoBulkAll r
def uptoBulkEntries {H : Type} : List (Lit × DataW H) → Nat
  | [] => 0
  | x :: r => uptoBulkEntry x + uptoBulkEntries r
def uptoBulkEntry {H : Type} : Lit × DataW H → Nat
  | (.string bytes, d) => bytes.length + uptoBulk d + 1
  | (_, d) => uptoBulk d + 1
 end
def uptoSmall : (H : Type) → List (DataW H) → Bool := fun _ ds => decide (uptoBulkAll ds ≤ 1048576)
def OpenSpec.upto (s : _root_.Go.ChangeSpec) : _root_.Go.OpenSpec := { _root_.Go.OpenSpec.ofChange s with cond := some uptoSmall }

/-- 'laws.FnWHas', WHERE WHAT IT READS IS OF BULK AT MOST 1048576: true; the input reads as it did. -/
def fnWHasUptoRow : OpenClaim := { program := "ytiegaefkahnfjaagreat", sum := "df9b236985eda35a2386dba67c04c6f1da1bfc41f02c0f3a9a71c3592bd60ede", func := "given.example/pub-tinwright/laws.FnWHas", spec := "fnWHas", unfollowed := true, recurses := true, apart := false, narrowed := true }
def FnWHasUptoSaid : Prop := fnWHasUptoRow.holds Tryz.pinned (OpenSpec.upto fnWHasSpec)

/-- 'laws.FnWAround', WHERE WHAT IT READS IS OF BULK AT MOST 1048576: true; the input reads as it did. -/
def fnWAroundUptoRow : OpenClaim := { program := "ytiegaefkahnfjaagreat", sum := "df9b236985eda35a2386dba67c04c6f1da1bfc41f02c0f3a9a71c3592bd60ede", func := "given.example/pub-tinwright/laws.FnWAround", spec := "fnWAround", unfollowed := true, recurses := true, apart := false, narrowed := true }
def FnWAroundUptoSaid : Prop := fnWAroundUptoRow.holds Tryz.pinned (OpenSpec.upto fnWAroundSpec)

/-- 'laws.FnWSteps', WHERE WHAT IT READS IS OF BULK AT MOST 1048576: true; the input reads as it did. -/
def fnWStepsUptoRow : OpenClaim := { program := "ytiegaefkahnfjaagreat", sum := "df9b236985eda35a2386dba67c04c6f1da1bfc41f02c0f3a9a71c3592bd60ede", func := "given.example/pub-tinwright/laws.FnWSteps", spec := "fnWSteps", unfollowed := true, recurses := true, apart := false, narrowed := true }
def FnWStepsUptoSaid : Prop := fnWStepsUptoRow.holds Tryz.pinned (OpenSpec.upto fnWStepsSpec)

/-- 'laws.FnWCalls', WHERE WHAT IT READS IS OF BULK AT MOST 1048576: true; the input reads as it did. -/
def fnWCallsUptoRow : OpenClaim := { program := "ytiegaefkahnfjaagreat", sum := "df9b236985eda35a2386dba67c04c6f1da1bfc41f02c0f3a9a71c3592bd60ede", func := "given.example/pub-tinwright/laws.FnWCalls", spec := "fnWCalls", unfollowed := true, recurses := true, apart := false, narrowed := true }
def FnWCallsUptoSaid : Prop := fnWCallsUptoRow.holds Tryz.pinned (OpenSpec.upto fnWCallsSpec)

/-- 'laws.FnWLists', WHERE WHAT IT READS IS OF BULK AT MOST 1048576: true; the input reads as it did. -/
def fnWListsUptoRow : OpenClaim := { program := "ytiegaefkahnfjaagreat", sum := "df9b236985eda35a2386dba67c04c6f1da1bfc41f02c0f3a9a71c3592bd60ede", func := "given.example/pub-tinwright/laws.FnWLists", spec := "fnWLists", unfollowed := true, recurses := true, apart := false, narrowed := true }
def FnWListsUptoSaid : Prop := fnWListsUptoRow.holds Tryz.pinned (OpenSpec.upto fnWListsSpec)

end Rows
end Go.Proofs.YtiegaefkahnfjaaGreat
