/-
  DERIVED. GIVEN WITH THE SEED: THE CARDS: each row of YtpjeiimlglgklaaGreatDoorRows.lean that lists a variable, with what it lists TIED to the program's text (the seventh form; the later family's looks); each row that meets fmt, with fmt's text TOLD by the authors' own Lean function (tested against real Go, not proved from fmt's source: count such statements apart). THE CARD IS WHAT COUNTS. Prove the row's statement (the work); the ties are given (YtpjeiimlglgklaaGreatDoorTie.lean); close each card by the builder's one call (the guide's Derived/Test/ToyasCard.lean, 'card_holds'). Laid BY PROGRAM, IN A SANDBOX (cutbox-door.mjs). By AI agents, Wed Nov 11 2026. No macro, syntax, notation, axiom, sorry.
-/
import Derived.Test.YtpjeiimlglgklaaGreatDoorRows
import GoSem.ClaimSeven
namespace Go.Proofs.YtpjeiimlglgklaaGreatDoor
namespace Rows

/-- THE TIED CARD OF 'laws.FnVStream'. -/
def fnVStreamCard : Claim7 := { stood := { row := fnVStreamRow, standIns := [], harness := (true, "3264fa399e4c39b554ab37cc0fcf4762410e5a167a908a5f80a2205c66968f5d"), looks := true }, kinds := [], alts := [], laidByText := true, laidKinds := [.sentinel, .sentinel, .sentinel, .sentinel, .sentinel], laidTests := true, laidLooks := .later }
def FnVStreamCardSaid : Prop := Claim7.holds Tryz.pinned (.plain (OpenSpec.ofChange fnVStreamSpec)) fnVStreamCard

/-- THE SECOND FORM's CARD OF 'laws.FnVStream'. -/
def fnVStreamUptoCard : Claim7 := { stood := { row := fnVStreamUptoRow, standIns := [], harness := (true, "3264fa399e4c39b554ab37cc0fcf4762410e5a167a908a5f80a2205c66968f5d"), looks := true }, kinds := [], alts := [], laidByText := true, laidKinds := [.sentinel, .sentinel, .sentinel, .sentinel, .sentinel], laidTests := true, laidLooks := .later }
def FnVStreamUptoCardSaid : Prop := Claim7.holds Tryz.pinned (.plain (OpenSpec.upto fnVStreamSpec)) fnVStreamUptoCard
end Rows
end Go.Proofs.YtpjeiimlglgklaaGreatDoor
