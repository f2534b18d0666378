/- A part of a user agent that comes in. -/
import Derived.Test.YthhankjineidiaaVD
import Derived.Test.YthhankjineidiaaB1
namespace Go.Proofs.Ythhankjineidiaa
open Go Go.RowKit V B1
set_option linter.unusedSimpArgs false
set_option linter.unusedVariables false
set_option maxRecDepth 10000
namespace B2
theorem cells4 : Try.prog.cellsOf 4 = 1 := by kernel_rfl
theorem cells9 : Try.prog.cellsOf 9 = 1 := by kernel_rfl

/-- a part that comes in -/
theorem hp_open {H : Type} {enc : TypeId × Value → H} {W : World} (n : Nat) (cs : List Value) (y : DataW H × List MemPlace) (h : DataW.trod enc Try.prog W 0 (fun _ => true) true n 43 cs = some y) (hl : cs.length = 3) : ∃ x : HP, cs = hpf x := by
  obtain ⟨y0, y1, y2, m, _, _, h0, h1, h2⟩ := Go.Deep.trod_struct3 Try.underlying43 h
  match cs, hl with
  | [a, b, c], _ =>
    have k0 : DataW.trod enc Try.prog W 0 (fun _ => true) true m 9 (([a, b, c].drop 0).take (Try.prog.cellsOf 9)) = some y0 := h0
    have k1 : DataW.trod enc Try.prog W 0 (fun _ => true) true m 9 (([a, b, c].drop 1).take (Try.prog.cellsOf 9)) = some y1 := h1
    have k2 : DataW.trod enc Try.prog W 0 (fun _ => true) true m 4 (([a, b, c].drop 2).take (Try.prog.cellsOf 4)) = some y2 := h2
    rw [cells9] at k0 k1
    rw [cells4] at k2
    obtain ⟨s0, e0, _⟩ := DataW.trod_string Try.underlying9 k0
    obtain ⟨s1, e1, _⟩ := DataW.trod_string Try.underlying9 k1
    obtain ⟨s2, e2, _⟩ := DataW.trod_bool Try.underlying4 k2
    simp at e0 e1 e2
    subst e0; subst e1; subst e2
    obtain ⟨⟨s0⟩⟩ := s0
    obtain ⟨⟨s1⟩⟩ := s1
    exact ⟨⟨s0, s1, s2⟩, rfl⟩
end B2
end Go.Proofs.Ythhankjineidiaa
