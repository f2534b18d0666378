/-
  DERIVED. GIVEN WITH THE SEED: THE CARDS: each row of YtcfhfdengfcfpaaDoorRows.lean that lists a variable, with what it lists TIED to the program's text (the seventh form; the later family's looks); each row that meets fmt, with fmt's text TOLD by the authors' own Lean function (tested against real Go, not proved from fmt's source: count such statements apart). THE CARD IS WHAT COUNTS. Prove the row's statement (the work); the ties are given (YtcfhfdengfcfpaaDoorTie.lean); close each card by the builder's one call (the guide's Derived/Test/ToyasCard.lean, 'card_holds'). Laid BY PROGRAM, IN A SANDBOX (cutbox-door.mjs). By AI agents, Wed Nov 11 2026. No macro, syntax, notation, axiom, sorry.
-/
import Derived.Test.YtcfhfdengfcfpaaDoorRows
import GoSem.ClaimSeven
namespace Go.Proofs.YtcfhfdengfcfpaaDoor
namespace Rows

/-- THE TIED CARD OF 'laws.FnHTimes'. -/
def fnHTimesCard : Claim7 := { stood := { row := fnHTimesRow, standIns := [], harness := (true, "d43ef92e4d149c4c912570e3de5f9643c717535b808ee7a4b6cc36d14dfe64e6"), looks := false }, kinds := [], alts := [], laidByText := true, laidKinds := [.sentinel, .sentinel, .sentinel, .data, .widerDeep, .widerDeep], laidTests := true, laidLooks := .later }
def FnHTimesCardSaid : Prop := Claim7.holds Tryd.pinned (.plain (OpenSpec.ofChange fnHTimesSpec)) fnHTimesCard

/-- THE SECOND FORM's CARD OF 'laws.FnHTimes'. -/
def fnHTimesUptoCard : Claim7 := { stood := { row := fnHTimesUptoRow, standIns := [], harness := (true, "d43ef92e4d149c4c912570e3de5f9643c717535b808ee7a4b6cc36d14dfe64e6"), looks := false }, kinds := [], alts := [], laidByText := true, laidKinds := [.sentinel, .sentinel, .sentinel, .data, .widerDeep, .widerDeep], laidTests := true, laidLooks := .later }
def FnHTimesUptoCardSaid : Prop := Claim7.holds Tryd.pinned (.plain (OpenSpec.upto fnHTimesSpec)) fnHTimesUptoCard
end Rows
end Go.Proofs.YtcfhfdengfcfpaaDoor
