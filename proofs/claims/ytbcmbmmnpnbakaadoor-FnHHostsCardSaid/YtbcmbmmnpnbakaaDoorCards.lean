/-
  DERIVED. GIVEN WITH THE SEED: THE CARDS: each row of YtbcmbmmnpnbakaaDoorRows.lean that lists a variable, with what it lists TIED to the program's text (the seventh form; the later family's looks); each row that meets fmt, with fmt's text TOLD by the authors' own Lean function (tested against real Go, not proved from fmt's source: count such statements apart). THE CARD IS WHAT COUNTS. Prove the row's statement (the work); the ties are given (YtbcmbmmnpnbakaaDoorTie.lean); close each card by the builder's one call (the guide's Derived/Test/ToyasCard.lean, 'card_holds'). Laid BY PROGRAM, IN A SANDBOX (cutbox-door.mjs). By AI agents, Wed Nov 11 2026. No macro, syntax, notation, axiom, sorry.
-/
import Derived.Test.YtbcmbmmnpnbakaaDoorRows
import GoSem.ClaimSeven
namespace Go.Proofs.YtbcmbmmnpnbakaaDoor
namespace Rows

/-- THE TIED CARD OF 'laws.FnHHosts'. -/
def fnHHostsCard : Claim7 := { stood := { row := fnHHostsRow, standIns := [], harness := (true, "728cf3cf879bf936ddcd40c92958056cd8ef96ea17f7e55aa4637a97f15639ce"), looks := true }, kinds := [], alts := [], laidByText := true, laidKinds := [.data, .data, .data, .sentinel, .sentinel], laidTests := true, laidLooks := .later }
def FnHHostsCardSaid : Prop := Claim7.holds Tryd.pinned (.plain (OpenSpec.ofChange fnHHostsSpec)) fnHHostsCard

/-- THE SECOND FORM's CARD OF 'laws.FnHHosts'. -/
def fnHHostsUptoCard : Claim7 := { stood := { row := fnHHostsUptoRow, standIns := [], harness := (true, "728cf3cf879bf936ddcd40c92958056cd8ef96ea17f7e55aa4637a97f15639ce"), looks := true }, kinds := [], alts := [], laidByText := true, laidKinds := [.data, .data, .data, .sentinel, .sentinel], laidTests := true, laidLooks := .later }
def FnHHostsUptoCardSaid : Prop := Claim7.holds Tryd.pinned (.plain (OpenSpec.upto fnHHostsSpec)) fnHHostsUptoCard
end Rows
end Go.Proofs.YtbcmbmmnpnbakaaDoor
