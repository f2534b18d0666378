/- A pair that comes in. -/
import Derived.Test.YtclafiglpcjhdaaGreatVD
import Derived.Test.YtclafiglpcjhdaaGreatGA
import Derived.Test.YtclafiglpcjhdaaGreatProg
namespace Go.Proofs.YtclafiglpcjhdaaGreat
open Go Go.RowKit Go.ChangeShapes Go.WideShapes V GA
set_option linter.unusedVariables false
set_option linter.unusedSimpArgs false
namespace GE
theorem cells9 : Tryz.prog.cellsOf 9 = 1 := by kernel_rfl
set_option maxRecDepth 100000 in
theorem wp_open {H : Type} {enc : TypeId × Value → H} {W : World} (n : Nat) (cs : List Value) (y : DataW H × List MemPlace) (h : DataW.trod enc Tryz.prog W 0 (fun _ => true) true n 28 cs = some y) (hl : cs.length = 2) : ∃ x : WP, cs = pof x := by
  obtain ⟨xs, m, _, rfl, _, hlen, hf⟩ := DataW.trod_struct Tryz.underlying28 h
  match xs, hlen with
  | [y0, y1], _ =>
    match cs, hl with
    | [a, b], _ =>
      have k0 : DataW.trod enc Tryz.prog W 0 (fun _ => true) true m 9 (([a, b].drop 0).take (Tryz.prog.cellsOf 9)) = some y0 := hf 0 _ rfl
      have k1 : DataW.trod enc Tryz.prog W 0 (fun _ => true) true m 9 (([a, b].drop 1).take (Tryz.prog.cellsOf 9)) = some y1 := hf 1 _ rfl
      rw [cells9] at k0 k1
      obtain ⟨s0, e0, _⟩ := DataW.trod_string Tryz.underlying9 k0
      obtain ⟨s1, e1, _⟩ := DataW.trod_string Tryz.underlying9 k1
      simp at e0 e1
      subst e0; subst e1
      obtain ⟨⟨s0⟩⟩ := s0
      obtain ⟨⟨s1⟩⟩ := s1
      exact ⟨⟨s0, s1⟩, rfl⟩
end GE
end Go.Proofs.YtclafiglpcjhdaaGreat
