/- What the listed variables of the readers' rows hold. -/
import Derived.Test.YtcgpajknehhdgaaDoorRows
import Derived.Test.YtcgpajknehhdgaaDoorVJ
import Derived.Test.YtcgpajknehhdgaaDoorK0
import Derived.LaidLaws
import Derived.LaidHandle
import Derived.MakeChecks
namespace Go.Proofs.YtcgpajknehhdgaaDoor
open Go V K0
set_option linter.unusedVariables false
namespace K3
theorem star : "*" ++ "errors.errorString" = "*errors.errorString" := by decide
theorem row114 (u : TypeId) (h : Tryd.prog.typeName? 3 u = some "*errors.errorString") : u = 114 :=
  typeName_ptr_named (nm := "errors.errorString") (by rw [star]; kernel_rfl) (by kernel_rfl) (by decide) u (by rw [star]; exact h)
theorem ty116 : Ty Tryd.prog 116 (.agg #[S []]) 1 16 := ty_of (by kernel_rfl)
theorem comp114 : Comp Tryd.prog 114 116 := by
  refine ⟨Tryd.underlying114, ?_, _, _, _, ty116, by decide⟩
  cases hi : Tryd.prog.info? 114 with
  | none => have h : (Tryd.prog.info? 114).isSome = true := by kernel_rfl
            rw [hi] at h; cases h
  | some inf => exact ⟨inf, rfl, by have h : (Tryd.prog.info? 114).map (·.comparable) = some true := by kernel_rfl
                                    rw [hi] at h; simpa using h⟩
theorem g0 : Tryd.prog.globalNamed "io.EOF" = some 0 := by kernel_rfl
theorem g1 : Tryd.prog.globalNamed "io.ErrShortBuffer" = some 1 := by kernel_rfl
theorem g2 : Tryd.prog.globalNamed "io.ErrUnexpectedEOF" = some 2 := by kernel_rfl
theorem t0 : (Tryd.prog.globals[0]?).map (·.type) = some 53 := by kernel_rfl
theorem t1 : (Tryd.prog.globals[1]?).map (·.type) = some 53 := by kernel_rfl
theorem t2 : (Tryd.prog.globals[2]?).map (·.type) = some 53 := by kernel_rfl
set_option maxRecDepth 100000 in
theorem errs_laid {W : World} (h : laidMetH Tryd.prog Rows.fnSUUIDRow.laid W) : ∃ G pE, Has G W ∧ Errs G 114 pE := by
  rw [Go.MakeChecks.laidMetH_plain _ _ _ (by kernel_rfl)] at h
  obtain ⟨ps, hl, _, hall⟩ := h
  obtain ⟨⟨a1, u1, f1, h1⟩, q1, hl, hall⟩ := laid_sent hl (fun b off hm => (hall b off hm).2) g1 t1 Tryd.underlying53 Tryd.underlying114 row114
  obtain ⟨⟨a0, u0, f0, h0⟩, q0, hl, hall⟩ := laid_sent hl hall g0 t0 Tryd.underlying53 Tryd.underlying114 row114
  obtain ⟨⟨a2, u2, f2, h2⟩, q2, hl, hall⟩ := laid_sent hl hall g2 t2 Tryd.underlying53 Tryd.underlying114 row114
  refine ⟨[(0, .cells #[.iface 114 (.pointer (some a0))] u0 f0), (1, .cells #[.iface 114 (.pointer (some a1))] u1 f1), (2, .cells #[.iface 114 (.pointer (some a2))] u2 f2)], a0, ⟨fun b o hb => ?_, by simp⟩, ⟨⟨116, comp114⟩, ⟨_, _, .head _⟩, ⟨_, _, _, _, .tail _ (.tail _ (.head _))⟩, ⟨_, _, _, _, .tail _ (.head _)⟩⟩⟩
  simp only [List.mem_cons, Prod.mk.injEq, List.not_mem_nil, or_false] at hb
  rcases hb with ⟨rfl, rfl⟩ | ⟨rfl, rfl⟩ | ⟨rfl, rfl⟩
  · exact h0
  · exact h1
  · exact h2
theorem Errs.weaken {G C : Hp} {k : TypeId} {p : Addr} (h : Errs G k p) (hs : ∀ x ∈ G, x ∈ C) : Errs C k p := by
  obtain ⟨h1, ⟨t, f, h2⟩, ⟨k3, p3, t3, f3, h3⟩, ⟨k4, p4, t4, f4, h4⟩⟩ := h
  exact ⟨h1, ⟨t, f, hs _ h2⟩, ⟨k3, p3, t3, f3, hs _ h3⟩, ⟨k4, p4, t4, f4, hs _ h4⟩⟩
end K3
end Go.Proofs.YtcgpajknehhdgaaDoor
