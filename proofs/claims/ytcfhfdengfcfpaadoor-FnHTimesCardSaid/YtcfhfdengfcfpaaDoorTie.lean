/-
  DERIVED. GIVEN WITH THE SEED: THE PROGRAM's TIES (one call each: nine closed facts by the kernel) AND EACH ROW's TIE, after the 31st guide's Derived/Test/Toyas{Tie, Card}.lean. No idea stands in it: it is a product of the set-up. Laid BY PROGRAM, IN A SANDBOX (cutbox-door.mjs). By AI agents, Wed Nov 11 2026. No macro, syntax, notation, axiom, sorry.
-/
import Derived.Test.YtcfhfdengfcfpaaDoorRows
import Derived.LaidByTextLater
import Derived.SevenTiedAt
import Derived.LaidSub
import Derived.LaidOnce
namespace Go.Proofs.YtcfhfdengfcfpaaDoor
open Go
set_option maxRecDepth 100000
theorem seatTie1 : Tryd.prog.laidByTextLater [("given.example/pub-tinwright/pub/ztime.errBad", Rows.laid_given_example_pub_tinwright_pub_ztime_errBad), ("given.example/pub-tinwright/pub/ztime.errAtoi", Rows.laid_given_example_pub_tinwright_pub_ztime_errAtoi), ("given.example/pub-tinwright/pub/ztime.errLeadingInt", Rows.laid_given_example_pub_tinwright_pub_ztime_errLeadingInt), ("given.example/pub-tinwright/pub/ztime.std0x", Rows.laid_given_example_pub_tinwright_pub_ztime_std0x), ("given.example/pub-tinwright/pub/ztime.longDayNames", Rows.laid_given_example_pub_tinwright_pub_ztime_longDayNames), ("given.example/pub-tinwright/pub/ztime.longMonthNames", Rows.laid_given_example_pub_tinwright_pub_ztime_longMonthNames)] [.sentinel, .sentinel, .sentinel, .data, .widerDeep, .widerDeep] true :=
  Program.laidByTextLater_by_one 81 8 13 (by kernel_rfl) (by kernel_rfl) (by kernel_rfl) (by kernel_rfl) (by kernel_rfl) (by kernel_rfl) (fun _ _ => by kernel_rfl)
theorem noOwnUnsafe : Tryd.pinned.checked.prog.headLifts.contains "ownunsafe" = false := by kernel_rfl
theorem tie : Tryd.prog.laidByTextLater [("given.example/pub-tinwright/pub/ztime.errBad", Rows.laid_given_example_pub_tinwright_pub_ztime_errBad), ("given.example/pub-tinwright/pub/ztime.errAtoi", Rows.laid_given_example_pub_tinwright_pub_ztime_errAtoi), ("given.example/pub-tinwright/pub/ztime.errLeadingInt", Rows.laid_given_example_pub_tinwright_pub_ztime_errLeadingInt), ("given.example/pub-tinwright/pub/ztime.std0x", Rows.laid_given_example_pub_tinwright_pub_ztime_std0x), ("given.example/pub-tinwright/pub/ztime.longDayNames", Rows.laid_given_example_pub_tinwright_pub_ztime_longDayNames), ("given.example/pub-tinwright/pub/ztime.longMonthNames", Rows.laid_given_example_pub_tinwright_pub_ztime_longMonthNames)] [.sentinel, .sentinel, .sentinel, .data, .widerDeep, .widerDeep] true :=
  Program.laidByTextLater.sub seatTie1 ["given.example/pub-tinwright/pub/ztime.errBad", "given.example/pub-tinwright/pub/ztime.errAtoi", "given.example/pub-tinwright/pub/ztime.errLeadingInt", "given.example/pub-tinwright/pub/ztime.std0x", "given.example/pub-tinwright/pub/ztime.longDayNames", "given.example/pub-tinwright/pub/ztime.longMonthNames"] (by kernel_rfl) (by kernel_rfl)
theorem fnHTimes_row_tie : Rows.fnHTimesRow.laidByTextAt .later Tryd.pinned [.sentinel, .sentinel, .sentinel, .data, .widerDeep, .widerDeep] true :=
  OpenClaim.laidByTextAt_later rfl rfl tie noOwnUnsafe
theorem fnHTimesUpto_row_tie : Rows.fnHTimesUptoRow.laidByTextAt .later Tryd.pinned [.sentinel, .sentinel, .sentinel, .data, .widerDeep, .widerDeep] true :=
  OpenClaim.laidByTextAt_later rfl rfl tie noOwnUnsafe
end Go.Proofs.YtcfhfdengfcfpaaDoor
