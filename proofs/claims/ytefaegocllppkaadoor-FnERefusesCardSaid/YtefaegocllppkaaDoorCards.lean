/-
  DERIVED. GIVEN WITH THE SEED: THE CARDS: each row of YtefaegocllppkaaDoorRows.lean that lists a variable, with what it lists TIED to the program's text (the seventh form; the later family's looks); each row that meets fmt, with fmt's text TOLD by the authors' own Lean function (tested against real Go, not proved from fmt's source: count such statements apart). THE CARD IS WHAT COUNTS. Prove the row's statement (the work); the ties are given (YtefaegocllppkaaDoorTie.lean); close each card by the builder's one call (the guide's Derived/Test/ToyasCard.lean, 'card_holds'). Laid BY PROGRAM, IN A SANDBOX (cutbox-door.mjs). By AI agents, Wed Nov 11 2026. No macro, syntax, notation, axiom, sorry.
-/
import Derived.Test.YtefaegocllppkaaDoorRows
import GoSem.ClaimSeven
namespace Go.Proofs.YtefaegocllppkaaDoor
namespace Rows

/-- THE TIED CARD OF 'laws.FnEParses'. -/
def fnEParsesCard : Claim7 := { stood := { row := fnEParsesRow, standIns := [], harness := (true, "3fe28f102d9dface4f49566254110d4ce5b0dfc34c8220c796b036223e9042e6"), looks := false }, kinds := [], alts := [], laidByText := true, laidKinds := [.data], laidTests := true, laidLooks := .later }
def FnEParsesCardSaid : Prop := Claim7.holds Tryd.pinned (.plain (OpenSpec.ofChange fnEParsesSpec)) fnEParsesCard

/-- THE TIED CARD OF 'laws.FnERefuses'. -/
def fnERefusesCard : Claim7 := { stood := { row := fnERefusesRow, standIns := [], harness := (true, "3fe28f102d9dface4f49566254110d4ce5b0dfc34c8220c796b036223e9042e6"), looks := false }, kinds := [], alts := [], laidByText := true, laidKinds := [.data], laidTests := true, laidLooks := .later }
def FnERefusesCardSaid : Prop := Claim7.holds Tryd.pinned (.plain (OpenSpec.ofChange fnERefusesSpec)) fnERefusesCard

/-- THE SECOND FORM's CARD OF 'laws.FnEParses'. -/
def fnEParsesUptoCard : Claim7 := { stood := { row := fnEParsesUptoRow, standIns := [], harness := (true, "3fe28f102d9dface4f49566254110d4ce5b0dfc34c8220c796b036223e9042e6"), looks := false }, kinds := [], alts := [], laidByText := true, laidKinds := [.data], laidTests := true, laidLooks := .later }
def FnEParsesUptoCardSaid : Prop := Claim7.holds Tryd.pinned (.plain (OpenSpec.upto fnEParsesSpec)) fnEParsesUptoCard

/-- THE SECOND FORM's CARD OF 'laws.FnERefuses'. -/
def fnERefusesUptoCard : Claim7 := { stood := { row := fnERefusesUptoRow, standIns := [], harness := (true, "3fe28f102d9dface4f49566254110d4ce5b0dfc34c8220c796b036223e9042e6"), looks := false }, kinds := [], alts := [], laidByText := true, laidKinds := [.data], laidTests := true, laidLooks := .later }
def FnERefusesUptoCardSaid : Prop := Claim7.holds Tryd.pinned (.plain (OpenSpec.upto fnERefusesSpec)) fnERefusesUptoCard
end Rows
end Go.Proofs.YtefaegocllppkaaDoor
