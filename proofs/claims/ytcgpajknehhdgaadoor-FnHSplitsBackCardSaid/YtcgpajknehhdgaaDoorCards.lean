/-
  DERIVED. GIVEN WITH THE SEED: THE CARDS: each row of YtcgpajknehhdgaaDoorRows.lean that lists a variable, with what it lists TIED to the program's text (the seventh form; the later family's looks); each row that meets fmt, with fmt's text TOLD by the authors' own Lean function (tested against real Go, not proved from fmt's source: count such statements apart). THE CARD IS WHAT COUNTS. Prove the row's statement (the work); the ties are given (YtcgpajknehhdgaaDoorTie.lean); close each card by the builder's one call (the guide's Derived/Test/ToyasCard.lean, 'card_holds'). Laid BY PROGRAM, IN A SANDBOX (cutbox-door.mjs). By AI agents, Wed Nov 11 2026. No macro, syntax, notation, axiom, sorry.
-/
import Derived.Test.YtcgpajknehhdgaaDoorRows
import GoSem.ClaimSeven
namespace Go.Proofs.YtcgpajknehhdgaaDoor
namespace Rows

/-- THE TIED CARD OF 'laws.FnSUUID'. -/
def fnSUUIDCard : Claim7 := { stood := { row := fnSUUIDRow, standIns := [], harness := (true, "53580b00d0226272c5b7c91e4dbf55b12e70c023e28901d0acd9f2dfb3ff7fe2"), looks := true }, kinds := [], alts := [], laidByText := true, laidKinds := [.sentinel, .sentinel, .sentinel], laidTests := true, laidLooks := .later }
def FnSUUIDCardSaid : Prop := Claim7.holds Tryd.pinned (.plain (OpenSpec.ofChange fnSUUIDSpec)) fnSUUIDCard

/-- THE TIED CARD OF 'laws.FnSBelow'. -/
def fnSBelowCard : Claim7 := { stood := { row := fnSBelowRow, standIns := [], harness := (true, "53580b00d0226272c5b7c91e4dbf55b12e70c023e28901d0acd9f2dfb3ff7fe2"), looks := true }, kinds := [], alts := [], laidByText := true, laidKinds := [.sentinel, .sentinel, .sentinel], laidTests := true, laidLooks := .later }
def FnSBelowCardSaid : Prop := Claim7.holds Tryd.pinned (.plain (OpenSpec.ofChange fnSBelowSpec)) fnSBelowCard

/-- THE TIED CARD OF 'laws.FnHQueries'. -/
def fnHQueriesCard : Claim7 := { stood := { row := fnHQueriesRow, standIns := [], harness := (true, "53580b00d0226272c5b7c91e4dbf55b12e70c023e28901d0acd9f2dfb3ff7fe2"), looks := true }, kinds := [], alts := [], laidByText := true, laidKinds := [.data, .pinned], laidTests := true, laidLooks := .later }
def FnHQueriesCardSaid : Prop := Claim7.holds Tryd.pinned (.plain (OpenSpec.ofChange fnHQueriesSpec)) fnHQueriesCard

/-- THE TIED CARD OF 'laws.FnSRing'. -/
def fnSRingCard : Claim7 := { stood := { row := fnSRingRow, standIns := [], harness := (true, "53580b00d0226272c5b7c91e4dbf55b12e70c023e28901d0acd9f2dfb3ff7fe2"), looks := true }, kinds := [], alts := [], laidByText := true, laidKinds := [.sentinel, .sentinel, .sentinel], laidTests := true, laidLooks := .later }
def FnSRingCardSaid : Prop := Claim7.holds Tryd.pinned (.plain (OpenSpec.ofChange fnSRingSpec)) fnSRingCard

/-- THE TIED CARD OF 'laws.FnHSplits'. -/
def fnHSplitsCard : Claim7 := { stood := { row := fnHSplitsRow, standIns := [], harness := (true, "53580b00d0226272c5b7c91e4dbf55b12e70c023e28901d0acd9f2dfb3ff7fe2"), looks := true }, kinds := [], alts := [], laidByText := true, laidKinds := [.data, .sentinel, .pinned], laidTests := true, laidLooks := .later }
def FnHSplitsCardSaid : Prop := Claim7.holds Tryd.pinned (.plain (OpenSpec.ofChange fnHSplitsSpec)) fnHSplitsCard

/-- THE TIED CARD OF 'laws.FnHSplitsBack'. -/
def fnHSplitsBackCard : Claim7 := { stood := { row := fnHSplitsBackRow, standIns := [], harness := (true, "53580b00d0226272c5b7c91e4dbf55b12e70c023e28901d0acd9f2dfb3ff7fe2"), looks := true }, kinds := [], alts := [], laidByText := true, laidKinds := [.data, .sentinel, .pinned], laidTests := true, laidLooks := .later }
def FnHSplitsBackCardSaid : Prop := Claim7.holds Tryd.pinned (.plain (OpenSpec.ofChange fnHSplitsBackSpec)) fnHSplitsBackCard

/-- THE TIED CARD OF 'laws.FnHHosts'. -/
def fnHHostsCard : Claim7 := { stood := { row := fnHHostsRow, standIns := [], harness := (true, "53580b00d0226272c5b7c91e4dbf55b12e70c023e28901d0acd9f2dfb3ff7fe2"), looks := true }, kinds := [], alts := [], laidByText := true, laidKinds := [.data, .data, .data, .sentinel, .sentinel], laidTests := true, laidLooks := .later }
def FnHHostsCardSaid : Prop := Claim7.holds Tryd.pinned (.plain (OpenSpec.ofChange fnHHostsSpec)) fnHHostsCard

/-- THE SECOND FORM's CARD OF 'laws.FnSUUID'. -/
def fnSUUIDUptoCard : Claim7 := { stood := { row := fnSUUIDUptoRow, standIns := [], harness := (true, "53580b00d0226272c5b7c91e4dbf55b12e70c023e28901d0acd9f2dfb3ff7fe2"), looks := true }, kinds := [], alts := [], laidByText := true, laidKinds := [.sentinel, .sentinel, .sentinel], laidTests := true, laidLooks := .later }
def FnSUUIDUptoCardSaid : Prop := Claim7.holds Tryd.pinned (.plain (OpenSpec.upto fnSUUIDSpec)) fnSUUIDUptoCard

/-- THE SECOND FORM's CARD OF 'laws.FnSBelow'. -/
def fnSBelowUptoCard : Claim7 := { stood := { row := fnSBelowUptoRow, standIns := [], harness := (true, "53580b00d0226272c5b7c91e4dbf55b12e70c023e28901d0acd9f2dfb3ff7fe2"), looks := true }, kinds := [], alts := [], laidByText := true, laidKinds := [.sentinel, .sentinel, .sentinel], laidTests := true, laidLooks := .later }
def FnSBelowUptoCardSaid : Prop := Claim7.holds Tryd.pinned (.plain (OpenSpec.upto fnSBelowSpec)) fnSBelowUptoCard

/-- THE SECOND FORM's CARD OF 'laws.FnHQueries'. -/
def fnHQueriesUptoCard : Claim7 := { stood := { row := fnHQueriesUptoRow, standIns := [], harness := (true, "53580b00d0226272c5b7c91e4dbf55b12e70c023e28901d0acd9f2dfb3ff7fe2"), looks := true }, kinds := [], alts := [], laidByText := true, laidKinds := [.data, .pinned], laidTests := true, laidLooks := .later }
def FnHQueriesUptoCardSaid : Prop := Claim7.holds Tryd.pinned (.plain (OpenSpec.upto fnHQueriesSpec)) fnHQueriesUptoCard

/-- THE SECOND FORM's CARD OF 'laws.FnSRing'. -/
def fnSRingUptoCard : Claim7 := { stood := { row := fnSRingUptoRow, standIns := [], harness := (true, "53580b00d0226272c5b7c91e4dbf55b12e70c023e28901d0acd9f2dfb3ff7fe2"), looks := true }, kinds := [], alts := [], laidByText := true, laidKinds := [.sentinel, .sentinel, .sentinel], laidTests := true, laidLooks := .later }
def FnSRingUptoCardSaid : Prop := Claim7.holds Tryd.pinned (.plain (OpenSpec.upto fnSRingSpec)) fnSRingUptoCard

/-- THE SECOND FORM's CARD OF 'laws.FnHSplits'. -/
def fnHSplitsUptoCard : Claim7 := { stood := { row := fnHSplitsUptoRow, standIns := [], harness := (true, "53580b00d0226272c5b7c91e4dbf55b12e70c023e28901d0acd9f2dfb3ff7fe2"), looks := true }, kinds := [], alts := [], laidByText := true, laidKinds := [.data, .sentinel, .pinned], laidTests := true, laidLooks := .later }
def FnHSplitsUptoCardSaid : Prop := Claim7.holds Tryd.pinned (.plain (OpenSpec.upto fnHSplitsSpec)) fnHSplitsUptoCard

/-- THE SECOND FORM's CARD OF 'laws.FnHSplitsBack'. -/
def fnHSplitsBackUptoCard : Claim7 := { stood := { row := fnHSplitsBackUptoRow, standIns := [], harness := (true, "53580b00d0226272c5b7c91e4dbf55b12e70c023e28901d0acd9f2dfb3ff7fe2"), looks := true }, kinds := [], alts := [], laidByText := true, laidKinds := [.data, .sentinel, .pinned], laidTests := true, laidLooks := .later }
def FnHSplitsBackUptoCardSaid : Prop := Claim7.holds Tryd.pinned (.plain (OpenSpec.upto fnHSplitsBackSpec)) fnHSplitsBackUptoCard

/-- THE SECOND FORM's CARD OF 'laws.FnHHosts'. -/
def fnHHostsUptoCard : Claim7 := { stood := { row := fnHHostsUptoRow, standIns := [], harness := (true, "53580b00d0226272c5b7c91e4dbf55b12e70c023e28901d0acd9f2dfb3ff7fe2"), looks := true }, kinds := [], alts := [], laidByText := true, laidKinds := [.data, .data, .data, .sentinel, .sentinel], laidTests := true, laidLooks := .later }
def FnHHostsUptoCardSaid : Prop := Claim7.holds Tryd.pinned (.plain (OpenSpec.upto fnHHostsSpec)) fnHHostsUptoCard
end Rows
end Go.Proofs.YtcgpajknehhdgaaDoor
