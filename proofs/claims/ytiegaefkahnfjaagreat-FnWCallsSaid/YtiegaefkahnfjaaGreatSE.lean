/- An operation on a step that comes in. -/
import Derived.Test.YtiegaefkahnfjaaGreatVD
import Derived.Test.YtiegaefkahnfjaaGreatS8
namespace Go.Proofs.YtiegaefkahnfjaaGreat
open Go Go.RowKit Go.ChangeShapes Go.WideShapes V S8
set_option linter.unusedVariables false
set_option linter.unusedSimpArgs false
namespace SE
theorem cells9 : Tryz.prog.cellsOf 9 = 1 := by kernel_rfl
theorem cells4 : Tryz.prog.cellsOf 4 = 1 := by kernel_rfl
theorem cells3 : Tryz.prog.cellsOf 3 = 1 := by kernel_rfl
set_option maxRecDepth 100000 in
theorem wo_open {H : Type} {enc : TypeId × Value → H} {W : World} (n : Nat) (cs : List Value) (y : DataW H × List MemPlace) (h : DataW.trod enc Tryz.prog W 0 (fun _ => true) true n 32 cs = some y) (hl : cs.length = 5) : ∃ x : WO, cs = wof x := by
 obtain ⟨xs, m, _, rfl, _, hlen, hf⟩ := DataW.trod_struct Tryz.underlying32 h
 match xs, hlen with
 | [y0, y1, y2, y3, y4], _ =>
  match cs, hl with
  | [a, b, c, d, e], _ =>
   have k0 : DataW.trod enc Tryz.prog W 0 (fun _ => true) true m 3 (([a, b, c, d, e].drop 0).take (Tryz.prog.cellsOf 3)) = some y0 := hf 0 _ rfl
   have k1 : DataW.trod enc Tryz.prog W 0 (fun _ => true) true m 3 (([a, b, c, d, e].drop 1).take (Tryz.prog.cellsOf 3)) = some y1 := hf 1 _ rfl
   have k2 : DataW.trod enc Tryz.prog W 0 (fun _ => true) true m 9 (([a, b, c, d, e].drop 2).take (Tryz.prog.cellsOf 9)) = some y2 := hf 2 _ rfl
   have k3 : DataW.trod enc Tryz.prog W 0 (fun _ => true) true m 9 (([a, b, c, d, e].drop 3).take (Tryz.prog.cellsOf 9)) = some y3 := hf 3 _ rfl
   have k4 : DataW.trod enc Tryz.prog W 0 (fun _ => true) true m 4 (([a, b, c, d, e].drop 4).take (Tryz.prog.cellsOf 4)) = some y4 := hf 4 _ rfl
   rw [cells3] at k0 k1
   rw [cells9] at k2 k3
   rw [cells4] at k4
   obtain ⟨s0, e0, _⟩ := DataW.trod_int Tryz.underlying3 k0
   obtain ⟨s1, e1, _⟩ := DataW.trod_int Tryz.underlying3 k1
   obtain ⟨s2, e2, _⟩ := DataW.trod_string Tryz.underlying9 k2
   obtain ⟨s3, e3, _⟩ := DataW.trod_string Tryz.underlying9 k3
   obtain ⟨s4, e4, _⟩ := DataW.trod_bool Tryz.underlying4 k4
   simp at e0 e1 e2 e3 e4
   subst e0; subst e1; subst e2; subst e3; subst e4
   obtain ⟨⟨s2⟩⟩ := s2
   obtain ⟨⟨s3⟩⟩ := s3
   exact ⟨⟨s0, s1, s2, s3, s4⟩, rfl⟩
end SE
end Go.Proofs.YtiegaefkahnfjaaGreat
