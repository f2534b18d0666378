/-
  DERIVED. GIVEN WITH THE SEED: THE CARDS: each row of YtodlhaghdplclaaGreatDoorRows.lean that lists a variable, with what it lists TIED to the program's text (the seventh form; the later family's looks); each row that meets fmt, with fmt's text TOLD by the authors' own Lean function (tested against real Go, not proved from fmt's source: count such statements apart). THE CARD IS WHAT COUNTS. Prove the row's statement (the work); the ties are given (YtodlhaghdplclaaGreatDoorTie.lean); close each card by the builder's one call (the guide's Derived/Test/ToyasCard.lean, 'card_holds'). Laid BY PROGRAM, IN A SANDBOX (cutbox-door.mjs). By AI agents, Wed Nov 11 2026. No macro, syntax, notation, axiom, sorry.
-/
import Derived.Test.YtodlhaghdplclaaGreatDoorRows
import GoSem.ClaimSeven
namespace Go.Proofs.YtodlhaghdplclaaGreatDoor
namespace Rows

/-- THE TIED CARD OF 'laws.FnVSets'. -/
def fnVSetsCard : Claim7 := { stood := { row := fnVSetsRow, standIns := [], harness := (true, "9b9981c4493ddaea8d3034c4c37eb073add2996763aee44d9c96a0ef4e317c2c"), looks := true }, kinds := [], alts := [], laidByText := true, laidKinds := [.sentinel, .sentinel, .sentinel], laidTests := true, laidLooks := .later }
def FnVSetsCardSaid : Prop := Claim7.holds Tryz.pinned (.plain (OpenSpec.ofChange fnVSetsSpec)) fnVSetsCard

/-- THE TIED CARD OF 'laws.FnVSigned'. -/
def fnVSignedCard : Claim7 := { stood := { row := fnVSignedRow, standIns := [], harness := (true, "9b9981c4493ddaea8d3034c4c37eb073add2996763aee44d9c96a0ef4e317c2c"), looks := true }, kinds := [], alts := [], laidByText := true, laidKinds := [.sentinel, .sentinel, .sentinel], laidTests := true, laidLooks := .later }
def FnVSignedCardSaid : Prop := Claim7.holds Tryz.pinned (.plain (OpenSpec.ofChange fnVSignedSpec)) fnVSignedCard

/-- THE TIED CARD OF 'laws.FnVBack'. -/
def fnVBackCard : Claim7 := { stood := { row := fnVBackRow, standIns := [], harness := (true, "9b9981c4493ddaea8d3034c4c37eb073add2996763aee44d9c96a0ef4e317c2c"), looks := true }, kinds := [], alts := [], laidByText := true, laidKinds := [.sentinel, .sentinel, .sentinel, .sentinel, .sentinel], laidTests := true, laidLooks := .later }
def FnVBackCardSaid : Prop := Claim7.holds Tryz.pinned (.plain (OpenSpec.ofChange fnVBackSpec)) fnVBackCard

/-- THE TIED CARD OF 'laws.FnVReads'. -/
def fnVReadsCard : Claim7 := { stood := { row := fnVReadsRow, standIns := [], harness := (true, "9b9981c4493ddaea8d3034c4c37eb073add2996763aee44d9c96a0ef4e317c2c"), looks := true }, kinds := [], alts := [], laidByText := true, laidKinds := [.sentinel, .sentinel, .sentinel, .sentinel, .sentinel], laidTests := true, laidLooks := .later }
def FnVReadsCardSaid : Prop := Claim7.holds Tryz.pinned (.plain (OpenSpec.ofChange fnVReadsSpec)) fnVReadsCard

/-- THE TIED CARD OF 'laws.FnVSpoilt'. -/
def fnVSpoiltCard : Claim7 := { stood := { row := fnVSpoiltRow, standIns := [], harness := (true, "9b9981c4493ddaea8d3034c4c37eb073add2996763aee44d9c96a0ef4e317c2c"), looks := true }, kinds := [], alts := [], laidByText := true, laidKinds := [.sentinel, .sentinel, .sentinel, .sentinel, .sentinel], laidTests := true, laidLooks := .later }
def FnVSpoiltCardSaid : Prop := Claim7.holds Tryz.pinned (.plain (OpenSpec.ofChange fnVSpoiltSpec)) fnVSpoiltCard

/-- THE TIED CARD OF 'laws.FnVStream'. -/
def fnVStreamCard : Claim7 := { stood := { row := fnVStreamRow, standIns := [], harness := (true, "9b9981c4493ddaea8d3034c4c37eb073add2996763aee44d9c96a0ef4e317c2c"), looks := true }, kinds := [], alts := [], laidByText := true, laidKinds := [.sentinel, .sentinel, .sentinel, .sentinel, .sentinel], laidTests := true, laidLooks := .later }
def FnVStreamCardSaid : Prop := Claim7.holds Tryz.pinned (.plain (OpenSpec.ofChange fnVStreamSpec)) fnVStreamCard

/-- THE SECOND FORM's CARD OF 'laws.FnVSets'. -/
def fnVSetsUptoCard : Claim7 := { stood := { row := fnVSetsUptoRow, standIns := [], harness := (true, "9b9981c4493ddaea8d3034c4c37eb073add2996763aee44d9c96a0ef4e317c2c"), looks := true }, kinds := [], alts := [], laidByText := true, laidKinds := [.sentinel, .sentinel, .sentinel], laidTests := true, laidLooks := .later }
def FnVSetsUptoCardSaid : Prop := Claim7.holds Tryz.pinned (.plain (OpenSpec.upto fnVSetsSpec)) fnVSetsUptoCard

/-- THE SECOND FORM's CARD OF 'laws.FnVSigned'. -/
def fnVSignedUptoCard : Claim7 := { stood := { row := fnVSignedUptoRow, standIns := [], harness := (true, "9b9981c4493ddaea8d3034c4c37eb073add2996763aee44d9c96a0ef4e317c2c"), looks := true }, kinds := [], alts := [], laidByText := true, laidKinds := [.sentinel, .sentinel, .sentinel], laidTests := true, laidLooks := .later }
def FnVSignedUptoCardSaid : Prop := Claim7.holds Tryz.pinned (.plain (OpenSpec.upto fnVSignedSpec)) fnVSignedUptoCard

/-- THE SECOND FORM's CARD OF 'laws.FnVBack'. -/
def fnVBackUptoCard : Claim7 := { stood := { row := fnVBackUptoRow, standIns := [], harness := (true, "9b9981c4493ddaea8d3034c4c37eb073add2996763aee44d9c96a0ef4e317c2c"), looks := true }, kinds := [], alts := [], laidByText := true, laidKinds := [.sentinel, .sentinel, .sentinel, .sentinel, .sentinel], laidTests := true, laidLooks := .later }
def FnVBackUptoCardSaid : Prop := Claim7.holds Tryz.pinned (.plain (OpenSpec.upto fnVBackSpec)) fnVBackUptoCard

/-- THE SECOND FORM's CARD OF 'laws.FnVReads'. -/
def fnVReadsUptoCard : Claim7 := { stood := { row := fnVReadsUptoRow, standIns := [], harness := (true, "9b9981c4493ddaea8d3034c4c37eb073add2996763aee44d9c96a0ef4e317c2c"), looks := true }, kinds := [], alts := [], laidByText := true, laidKinds := [.sentinel, .sentinel, .sentinel, .sentinel, .sentinel], laidTests := true, laidLooks := .later }
def FnVReadsUptoCardSaid : Prop := Claim7.holds Tryz.pinned (.plain (OpenSpec.upto fnVReadsSpec)) fnVReadsUptoCard

/-- THE SECOND FORM's CARD OF 'laws.FnVSpoilt'. -/
def fnVSpoiltUptoCard : Claim7 := { stood := { row := fnVSpoiltUptoRow, standIns := [], harness := (true, "9b9981c4493ddaea8d3034c4c37eb073add2996763aee44d9c96a0ef4e317c2c"), looks := true }, kinds := [], alts := [], laidByText := true, laidKinds := [.sentinel, .sentinel, .sentinel, .sentinel, .sentinel], laidTests := true, laidLooks := .later }
def FnVSpoiltUptoCardSaid : Prop := Claim7.holds Tryz.pinned (.plain (OpenSpec.upto fnVSpoiltSpec)) fnVSpoiltUptoCard

/-- THE SECOND FORM's CARD OF 'laws.FnVStream'. -/
def fnVStreamUptoCard : Claim7 := { stood := { row := fnVStreamUptoRow, standIns := [], harness := (true, "9b9981c4493ddaea8d3034c4c37eb073add2996763aee44d9c96a0ef4e317c2c"), looks := true }, kinds := [], alts := [], laidByText := true, laidKinds := [.sentinel, .sentinel, .sentinel, .sentinel, .sentinel], laidTests := true, laidLooks := .later }
def FnVStreamUptoCardSaid : Prop := Claim7.holds Tryz.pinned (.plain (OpenSpec.upto fnVStreamSpec)) fnVStreamUptoCard
end Rows
end Go.Proofs.YtodlhaghdplclaaGreatDoor
