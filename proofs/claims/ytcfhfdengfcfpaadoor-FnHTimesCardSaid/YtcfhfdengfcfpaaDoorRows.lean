/-
  NARROWER THAN 'FOR EVERY INPUT', by the rows' own cells (each row's printed sentence says how): FnHTimes: ifaces, laid.
  DERIVED. THE GIVEN ROWS OF THIS SEAT. 1 by the template 'for every input the law returns true; each argument reads behind the call as it read before'; 0 by the template 'total and deterministic' (their statements: YtcfhfdengfcfpaaDoorTotals.lean).
  GIVEN WITH THE SEED: the statements are not yours to turn. If you find one false, say at which input.
  Laid BY PROGRAM, IN A SANDBOX (cutbox-rows.mjs): the forced cells as the released guide's own fill.sh prints them over the translation 583b4e03bf535386… (all of the seat's roots in one cut). By AI agents, Wed Nov 11 2026. No macro, syntax, notation, axiom, sorry.
-/
import Derived.Test.YtcfhfdengfcfpaaDoorChecked
import GoSem.Claim
import GoSem.ClaimJoined
import GoSem.ClaimMapViews
import Derived.JoinedTies
import Derived.KernelRfl
namespace Go.Proofs.YtcfhfdengfcfpaaDoor
/- THE CELL 'sum', in the pinned program and in every row, IS THE sha256 OF THE DUMP (.gsa) THAT YtcfhfdengfcfpaaDoorProg.lean LOADS. Nothing in Lean hashes anything: it is a label: what it is worth is what the hold of that sum in a sandbox is worth. -/
noncomputable def Tryd.pinned : Pinned := { name := "ytcfhfdengfcfpaadoor", sum := "583b4e03bf535386d0aaeb4e4b115aaf52b9b8ca8e25877a8b01eb3bb47ed8b3", checked := Tryd.checked }
namespace Rows
def none {H : Type} : Left H := { results := [], args := [] }

/- WHAT THE LISTED PACKAGE-LEVEL VARIABLES READ AS WHEN THE CALL BEGINS. Each datum BY PROGRAM (the guide's laid-datum.mjs) off the statement by which the dump's own 'gosem.cut.vars' lays the variable. In a bare row this is a premise. The card (YtcfhfdengfcfpaaDoorCards.lean) ties it to the program's text. -/
def laid_given_example_pub_tinwright_pub_ztime_errBad {H : Type} : DataW H := .iface "*errors.errorString" (.ptr (.agg [.lit (.string [98, 97, 100, 32, 118, 97, 108, 117, 101, 32, 102, 111, 114, 32, 102, 105, 101, 108, 100])]))
def laid_given_example_pub_tinwright_pub_ztime_errAtoi {H : Type} : DataW H := .iface "*errors.errorString" (.ptr (.agg [.lit (.string [116, 105, 109, 101, 58, 32, 105, 110, 118, 97, 108, 105, 100, 32, 110, 117, 109, 98, 101, 114])]))
def laid_given_example_pub_tinwright_pub_ztime_errLeadingInt {H : Type} : DataW H := .iface "*errors.errorString" (.ptr (.agg [.lit (.string [116, 105, 109, 101, 58, 32, 98, 97, 100, 32, 91, 48, 45, 57, 93, 42])]))
def laid_given_example_pub_tinwright_pub_ztime_std0x {H : Type} : DataW H := .agg [.lit (.int .i64 260), .lit (.int .i64 265), .lit (.int .i64 1038), .lit (.int .i64 1040), .lit (.int .i64 1042), .lit (.int .i64 276)]
def laid_given_example_pub_tinwright_pub_ztime_longDayNames {H : Type} : DataW H := .slice [.lit (.string [83, 117, 110, 100, 97, 121]), .lit (.string [77, 111, 110, 100, 97, 121]), .lit (.string [84, 117, 101, 115, 100, 97, 121]), .lit (.string [87, 101, 100, 110, 101, 115, 100, 97, 121]), .lit (.string [84, 104, 117, 114, 115, 100, 97, 121]), .lit (.string [70, 114, 105, 100, 97, 121]), .lit (.string [83, 97, 116, 117, 114, 100, 97, 121])] []
def laid_given_example_pub_tinwright_pub_ztime_longMonthNames {H : Type} : DataW H := .slice [.lit (.string [74, 97, 110, 117, 97, 114, 121]), .lit (.string [70, 101, 98, 114, 117, 97, 114, 121]), .lit (.string [77, 97, 114, 99, 104]), .lit (.string [65, 112, 114, 105, 108]), .lit (.string [77, 97, 121]), .lit (.string [74, 117, 110, 101]), .lit (.string [74, 117, 108, 121]), .lit (.string [65, 117, 103, 117, 115, 116]), .lit (.string [83, 101, 112, 116, 101, 109, 98, 101, 114]), .lit (.string [79, 99, 116, 111, 98, 101, 114]), .lit (.string [78, 111, 118, 101, 109, 98, 101, 114]), .lit (.string [68, 101, 99, 101, 109, 98, 101, 114])] []

/-- 'laws.FnHTimes': WHATEVER THE INPUT: true; the input reads as it did. -/
def fnHTimesSpec : ChangeSpec := { name := "fnHTimes", vars := ["given.example/pub-tinwright/pub/ztime.errBad", "given.example/pub-tinwright/pub/ztime.errAtoi", "given.example/pub-tinwright/pub/ztime.errLeadingInt", "given.example/pub-tinwright/pub/ztime.longMonthNames", "given.example/pub-tinwright/pub/ztime.longDayNames", "given.example/pub-tinwright/pub/ztime.std0x"], fn := fun _ => fun
  | [d1, d2, g1, g2, g3, g4, g5, g6] => { results := [.lit (.bool true)], args := [d1, d2], vars := [g1, g2, g3, g4, g5, g6] }
  | _ => none }
def fnHTimesRow : OpenClaim := { program := "ytcfhfdengfcfpaadoor", sum := "583b4e03bf535386d0aaeb4e4b115aaf52b9b8ca8e25877a8b01eb3bb47ed8b3", func := "given.example/pub-tinwright/laws.FnHTimes", spec := "fnHTimes", unfollowed := true, recurses := true, named := ["given.example/pub-tinwright/pub/ztime.errBad", "given.example/pub-tinwright/pub/ztime.errAtoi", "given.example/pub-tinwright/pub/ztime.errLeadingInt", "given.example/pub-tinwright/pub/ztime.longMonthNames", "given.example/pub-tinwright/pub/ztime.longDayNames", "given.example/pub-tinwright/pub/ztime.std0x"], ifaces := true, apart := false, laid := [("given.example/pub-tinwright/pub/ztime.errBad", laid_given_example_pub_tinwright_pub_ztime_errBad), ("given.example/pub-tinwright/pub/ztime.errAtoi", laid_given_example_pub_tinwright_pub_ztime_errAtoi), ("given.example/pub-tinwright/pub/ztime.errLeadingInt", laid_given_example_pub_tinwright_pub_ztime_errLeadingInt), ("given.example/pub-tinwright/pub/ztime.std0x", laid_given_example_pub_tinwright_pub_ztime_std0x), ("given.example/pub-tinwright/pub/ztime.longDayNames", laid_given_example_pub_tinwright_pub_ztime_longDayNames), ("given.example/pub-tinwright/pub/ztime.longMonthNames", laid_given_example_pub_tinwright_pub_ztime_longMonthNames)] }
def FnHTimesSaid : Prop := fnHTimesRow.holds Tryd.pinned (OpenSpec.ofChange fnHTimesSpec)

/-- ITS FALSE NEIGHBOUR: 'it returns false'. Refute it at one input. -/
def fnHTimesWrong : ChangeSpec := { name := "fnHTimes", vars := ["given.example/pub-tinwright/pub/ztime.errBad", "given.example/pub-tinwright/pub/ztime.errAtoi", "given.example/pub-tinwright/pub/ztime.errLeadingInt", "given.example/pub-tinwright/pub/ztime.longMonthNames", "given.example/pub-tinwright/pub/ztime.longDayNames", "given.example/pub-tinwright/pub/ztime.std0x"], fn := fun _ => fun
  | [d1, d2, g1, g2, g3, g4, g5, g6] => { results := [.lit (.bool false)], args := [d1, d2], vars := [g1, g2, g3, g4, g5, g6] }
  | _ => none }
def FnHTimesWrongFalsely : Prop := fnHTimesRow.holds Tryd.pinned (OpenSpec.ofChange fnHTimesWrong)

/- THE SECOND FORM. 'bulk': how many values and letters a reading holds, each counted each time it is reached (what is shared counts as often as it is met; a slice's spare places count too). A statement '..UptoSaid' is the law's where the arguments, and the package variables that the reading takes, are together of bulk at most 1048576: NARROWER than '..Said'. Prove '..Said' where nothing that the law and all that it calls make is longer than what came in: it says more and counts as full. Else prove '..UptoSaid'. A law counts once. -/
mutual
def uptoBulk {H : Type} : DataW H → Nat
  | .lit (.string bytes) => bytes.length + 1
  | .lit _ => 1
  | .nil => 1
  | .ptr d => uptoBulk d + 1
  | .slice elems spare => uptoBulkAll elems + uptoBulkAll spare + 1
  | .agg parts => uptoBulkAll parts + 1
  | .iface _ d => uptoBulk d + 1
  | .map entries => uptoBulkEntries entries + 1
  | .held _ => 1
def uptoBulkAll {H : Type} : List (DataW H) → Nat
  | [] => 0
  | d :: r => uptoBulk d + uptoBulkAll r
def uptoBulkEntries {H : Type} : List (Lit × DataW H) → Nat
  | [] => 0
  | x :: r => uptoBulkEntry x + uptoBulkEntries r
def uptoBulkEntry {H : Type} : Lit × DataW H → Nat
  | (.string bytes, d) => bytes.length + uptoBulk d + 1
  | (_, d) => uptoBulk d + 1
 end
def uptoSmall : (H : Type) → List (DataW H) → Bool := fun _ ds => decide (uptoBulkAll ds ≤ 1048576)
def OpenSpec.upto (s : _root_.Go.ChangeSpec) : _root_.Go.OpenSpec := { _root_.Go.OpenSpec.ofChange s with cond := some uptoSmall }

/-- 'laws.FnHTimes', WHERE WHAT IT READS IS OF BULK AT MOST 1048576: true; the input reads as it did. -/
def fnHTimesUptoRow : OpenClaim := { program := "ytcfhfdengfcfpaadoor", sum := "583b4e03bf535386d0aaeb4e4b115aaf52b9b8ca8e25877a8b01eb3bb47ed8b3", func := "given.example/pub-tinwright/laws.FnHTimes", spec := "fnHTimes", unfollowed := true, recurses := true, named := ["given.example/pub-tinwright/pub/ztime.errBad", "given.example/pub-tinwright/pub/ztime.errAtoi", "given.example/pub-tinwright/pub/ztime.errLeadingInt", "given.example/pub-tinwright/pub/ztime.longMonthNames", "given.example/pub-tinwright/pub/ztime.longDayNames", "given.example/pub-tinwright/pub/ztime.std0x"], ifaces := true, apart := false, laid := [("given.example/pub-tinwright/pub/ztime.errBad", laid_given_example_pub_tinwright_pub_ztime_errBad), ("given.example/pub-tinwright/pub/ztime.errAtoi", laid_given_example_pub_tinwright_pub_ztime_errAtoi), ("given.example/pub-tinwright/pub/ztime.errLeadingInt", laid_given_example_pub_tinwright_pub_ztime_errLeadingInt), ("given.example/pub-tinwright/pub/ztime.std0x", laid_given_example_pub_tinwright_pub_ztime_std0x), ("given.example/pub-tinwright/pub/ztime.longDayNames", laid_given_example_pub_tinwright_pub_ztime_longDayNames), ("given.example/pub-tinwright/pub/ztime.longMonthNames", laid_given_example_pub_tinwright_pub_ztime_longMonthNames)], narrowed := true }
def FnHTimesUptoSaid : Prop := fnHTimesUptoRow.holds Tryd.pinned (OpenSpec.upto fnHTimesSpec)

end Rows
end Go.Proofs.YtcfhfdengfcfpaaDoor
