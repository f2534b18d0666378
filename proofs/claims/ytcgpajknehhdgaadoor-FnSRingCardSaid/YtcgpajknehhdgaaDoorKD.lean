/- An operation of a ring that comes in; what the listed variables of the ring's row hold. -/
import Derived.Test.YtcgpajknehhdgaaDoorRows
import Derived.Test.YtcgpajknehhdgaaDoorVD
import Derived.Test.YtcgpajknehhdgaaDoorVJ
import Derived.Test.YtcgpajknehhdgaaDoorKC
import Derived.Test.YtcgpajknehhdgaaDoorK3
namespace Go.Proofs.YtcgpajknehhdgaaDoor
open Go Go.RowKit Go.ChangeShapes Go.WideShapes V K9 KC
set_option linter.unusedVariables false
set_option linter.unusedSimpArgs false
namespace KD
theorem cells9 : Tryd.prog.cellsOf 9 = 1 := by kernel_rfl
theorem cells4 : Tryd.prog.cellsOf 4 = 1 := by kernel_rfl
theorem cells3 : Tryd.prog.cellsOf 3 = 1 := by kernel_rfl
set_option maxRecDepth 100000 in
theorem ro_open {H : Type} {enc : TypeId × Value → H} {W : World} (n : Nat) (cs : List Value) (y : DataW H × List MemPlace) (h : DataW.trod enc Tryd.prog W 0 (fun _ => true) true n 35 cs = some y) (hl : cs.length = 3) : ∃ x : RO, cs = rof x := by
  obtain ⟨y0, y1, y2, m, _, _, h0, h1, h2⟩ := Go.Deep.trod_struct3 Tryd.underlying35 h
  match cs, hl with
  | [a, b, c], _ =>
    have k0 : DataW.trod enc Tryd.prog W 0 (fun _ => true) true m 9 (([a, b, c].drop 0).take (Tryd.prog.cellsOf 9)) = some y0 := h0
    have k1 : DataW.trod enc Tryd.prog W 0 (fun _ => true) true m 3 (([a, b, c].drop 1).take (Tryd.prog.cellsOf 3)) = some y1 := h1
    have k2 : DataW.trod enc Tryd.prog W 0 (fun _ => true) true m 4 (([a, b, c].drop 2).take (Tryd.prog.cellsOf 4)) = some y2 := h2
    rw [cells9] at k0
    rw [cells3] at k1
    rw [cells4] at k2
    obtain ⟨s0, e0, _⟩ := DataW.trod_string Tryd.underlying9 k0
    obtain ⟨s1, e1, _⟩ := DataW.trod_int Tryd.underlying3 k1
    obtain ⟨s2, e2, _⟩ := DataW.trod_bool Tryd.underlying4 k2
    simp at e0 e1 e2
    subst e0; subst e1; subst e2
    obtain ⟨⟨s0⟩⟩ := s0
    exact ⟨⟨s0, s1, s2⟩, rfl⟩
theorem g3 : Tryd.prog.globalNamed "io.errInvalidWrite" = some 3 := by kernel_rfl
theorem g4 : Tryd.prog.globalNamed "io.ErrShortWrite" = some 4 := by kernel_rfl
theorem t3 : (Tryd.prog.globals[3]?).map (·.type) = some 53 := by kernel_rfl
theorem t4 : (Tryd.prog.globals[4]?).map (·.type) = some 53 := by kernel_rfl
set_option maxRecDepth 100000 in
theorem eof_laid {W : World} (h : laidMetH Tryd.prog Rows.fnSRingRow.laid W) : ∃ G pE, Has G W ∧ Eof G 114 pE := by
  rw [Go.MakeChecks.laidMetH_plain _ _ _ (by kernel_rfl)] at h
  obtain ⟨ps, hl, _, hall⟩ := h
  obtain ⟨_, q1, hl, hall⟩ := laid_sent hl (fun b off hm => (hall b off hm).2) g4 t4 Tryd.underlying53 Tryd.underlying114 K3.row114
  obtain ⟨_, q0, hl, hall⟩ := laid_sent hl hall g3 t3 Tryd.underlying53 Tryd.underlying114 K3.row114
  obtain ⟨⟨a0, u0, f0, h0⟩, q2, hl, hall⟩ := laid_sent hl hall K3.g0 K3.t0 Tryd.underlying53 Tryd.underlying114 K3.row114
  refine ⟨[(0, .cells #[.iface 114 (.pointer (some a0))] u0 f0)], a0, ⟨fun b o hb => ?_, by simp⟩, ⟨⟨116, K3.comp114⟩, ⟨_, _, .head _⟩⟩⟩
  simp only [List.mem_cons, Prod.mk.injEq, List.not_mem_nil, or_false] at hb
  obtain ⟨rfl, rfl⟩ := hb
  exact h0
theorem Eof.weaken {G C : Hp} {k : TypeId} {p : Addr} (h : Eof G k p) (hs : ∀ x ∈ G, x ∈ C) : Eof C k p := by
  obtain ⟨h1, ⟨t, f, h2⟩⟩ := h
  exact ⟨h1, ⟨t, f, hs _ h2⟩⟩
end KD
end Go.Proofs.YtcgpajknehhdgaaDoor
