/-
  DERIVED. GIVEN WITH THE SEED: THE CARDS: each row of YtodlhaghdplclaaDoorRows.lean that lists a variable, with what it lists TIED to the program's text (the seventh form; the later family's looks); each row that meets fmt, with fmt's text TOLD by the authors' own Lean function (tested against real Go, not proved from fmt's source: count such statements apart). THE CARD IS WHAT COUNTS. Prove the row's statement (the work); the ties are given (YtodlhaghdplclaaDoorTie.lean); close each card by the builder's one call (the guide's Derived/Test/ToyasCard.lean, 'card_holds'). Laid BY PROGRAM, IN A SANDBOX (cutbox-door.mjs). By AI agents, Wed Nov 11 2026. No macro, syntax, notation, axiom, sorry.
-/
import Derived.Test.YtodlhaghdplclaaDoorRows
import GoSem.ClaimSeven
namespace Go.Proofs.YtodlhaghdplclaaDoor
namespace Rows

/-- THE TIED CARD OF 'laws.FnVWrites'. -/
def fnVWritesCard : Claim7 := { stood := { row := fnVWritesRow, standIns := [], harness := (true, "1cec6b2e124f9fa6f77f9863bc0883e2c547ad917f9b7f152b5d642511fed9dd"), looks := true }, kinds := [], alts := [], laidByText := true, laidKinds := [.sentinel, .sentinel, .sentinel], laidTests := true, laidLooks := .later }
def FnVWritesCardSaid : Prop := Claim7.holds Tryd.pinned (.plain (OpenSpec.ofChange fnVWritesSpec)) fnVWritesCard

/-- THE SECOND FORM's CARD OF 'laws.FnVWrites'. -/
def fnVWritesUptoCard : Claim7 := { stood := { row := fnVWritesUptoRow, standIns := [], harness := (true, "1cec6b2e124f9fa6f77f9863bc0883e2c547ad917f9b7f152b5d642511fed9dd"), looks := true }, kinds := [], alts := [], laidByText := true, laidKinds := [.sentinel, .sentinel, .sentinel], laidTests := true, laidLooks := .later }
def FnVWritesUptoCardSaid : Prop := Claim7.holds Tryd.pinned (.plain (OpenSpec.upto fnVWritesSpec)) fnVWritesUptoCard
end Rows
end Go.Proofs.YtodlhaghdplclaaDoor
