/- An operation of a cache that comes in. -/
import Derived.Test.YtjmlifpngnbomaaVD
import Derived.Test.YtjmlifpngnbomaaQ5
namespace Go.Proofs.Ytjmlifpngnbomaa
open Go Go.RowKit Go.ChangeShapes Go.WideShapes V QC
set_option linter.unusedVariables false
set_option linter.unusedSimpArgs false
namespace QD
theorem cells9 : Try.prog.cellsOf 9 = 1 := by kernel_rfl
theorem cells4 : Try.prog.cellsOf 4 = 1 := by kernel_rfl
set_option maxRecDepth 100000 in
theorem so_open {H : Type} {enc : TypeId × Value → H} {W : World} (n : Nat) (cs : List Value) (y : DataW H × List MemPlace) (h : DataW.trod enc Try.prog W 0 (fun _ => true) true n 31 cs = some y) (hl : cs.length = 3) : ∃ x : SO, cs = sof x := by
  obtain ⟨y0, y1, y2, m, _, _, h0, h1, h2⟩ := Go.Deep.trod_struct3 Try.underlying31 h
  match cs, hl with
  | [a, b, c], _ =>
    have k0 : DataW.trod enc Try.prog W 0 (fun _ => true) true m 4 (([a, b, c].drop 0).take (Try.prog.cellsOf 4)) = some y0 := h0
    have k1 : DataW.trod enc Try.prog W 0 (fun _ => true) true m 9 (([a, b, c].drop 1).take (Try.prog.cellsOf 9)) = some y1 := h1
    have k2 : DataW.trod enc Try.prog W 0 (fun _ => true) true m 9 (([a, b, c].drop 2).take (Try.prog.cellsOf 9)) = some y2 := h2
    rw [cells4] at k0
    rw [cells9] at k1 k2
    obtain ⟨s0, e0, _⟩ := DataW.trod_bool Try.underlying4 k0
    obtain ⟨s1, e1, _⟩ := DataW.trod_string Try.underlying9 k1
    obtain ⟨s2, e2, _⟩ := DataW.trod_string Try.underlying9 k2
    simp at e0 e1 e2
    subst e0; subst e1; subst e2
    obtain ⟨⟨s1⟩⟩ := s1
    obtain ⟨⟨s2⟩⟩ := s2
    exact ⟨⟨s0, s1, s2⟩, rfl⟩
end QD
end Go.Proofs.Ytjmlifpngnbomaa
