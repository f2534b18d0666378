/-
  DERIVED. GIVEN WITH THE SEED: THE CARDS: each row of YtinkaobaboffcaaGreatDoorRows.lean that lists a variable, with what it lists TIED to the program's text (the seventh form; the later family's looks); each row that meets fmt, with fmt's text TOLD by the authors' own Lean function (tested against real Go, not proved from fmt's source: count such statements apart). THE CARD IS WHAT COUNTS. Prove the row's statement (the work); the ties are given (YtinkaobaboffcaaGreatDoorTie.lean); close each card by the builder's one call (the guide's Derived/Test/ToyasCard.lean, 'card_holds'). Laid BY PROGRAM, IN A SANDBOX (cutbox-door.mjs). By AI agents, Wed Nov 11 2026. No macro, syntax, notation, axiom, sorry.
-/
import Derived.Test.YtinkaobaboffcaaGreatDoorRows
import GoSem.ClaimSeven
namespace Go.Proofs.YtinkaobaboffcaaGreatDoor
namespace Rows

/-- THE TIED CARD OF 'laws.FnVTexts'. -/
def fnVTextsCard : Claim7 := { stood := { row := fnVTextsRow, standIns := [], harness := (true, "00eda58a6ea4b68f9681a367a556389ae1f394b14b1a162182054b645c61cdb1"), looks := true }, kinds := [], alts := [], laidByText := true, laidKinds := [.data, .data, .data, .sentinel, .sentinel, .sentinel], laidTests := true, laidLooks := .later }
def FnVTextsCardSaid : Prop := Claim7.holds Tryz.pinned (.plain (OpenSpec.ofChange fnVTextsSpec)) fnVTextsCard

/-- THE SECOND FORM's CARD OF 'laws.FnVTexts'. -/
def fnVTextsUptoCard : Claim7 := { stood := { row := fnVTextsUptoRow, standIns := [], harness := (true, "00eda58a6ea4b68f9681a367a556389ae1f394b14b1a162182054b645c61cdb1"), looks := true }, kinds := [], alts := [], laidByText := true, laidKinds := [.data, .data, .data, .sentinel, .sentinel, .sentinel], laidTests := true, laidLooks := .later }
def FnVTextsUptoCardSaid : Prop := Claim7.holds Tryz.pinned (.plain (OpenSpec.upto fnVTextsSpec)) fnVTextsUptoCard
end Rows
end Go.Proofs.YtinkaobaboffcaaGreatDoor
