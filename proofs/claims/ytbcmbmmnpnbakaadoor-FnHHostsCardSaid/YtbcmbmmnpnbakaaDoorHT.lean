/- What the listed variables of the hosts' row hold. -/
import Derived.Test.YtbcmbmmnpnbakaaDoorRows
import Derived.Test.YtbcmbmmnpnbakaaDoorVJ
import Derived.Test.YtbcmbmmnpnbakaaDoorHB
import Derived.LaidLaws
import Derived.LaidHandle
import Derived.MakeChecks
namespace Go.Proofs.YtbcmbmmnpnbakaaDoor
open Go V HB
set_option linter.unusedVariables false
namespace HT
theorem star : "*" ++ "errors.errorString" = "*errors.errorString" := by decide
theorem row45 (u : TypeId) (h : Tryd.prog.typeName? 3 u = some "*errors.errorString") : u = 45 :=
  typeName_ptr_named (nm := "errors.errorString") (by rw [star]; kernel_rfl) (by kernel_rfl) (by decide) u (by rw [star]; exact h)
theorem g0 : Tryd.prog.globalNamed "strconv.ErrSyntax" = some 0 := by kernel_rfl
theorem g1 : Tryd.prog.globalNamed "strconv.ErrRange" = some 1 := by kernel_rfl
theorem t0 : (Tryd.prog.globals[0]?).map (·.type) = some 27 := by kernel_rfl
theorem t1 : (Tryd.prog.globals[1]?).map (·.type) = some 27 := by kernel_rfl
set_option maxRecDepth 100000 in
theorem hosts_laid {W : World} (h : laidMetH Tryd.prog Rows.fnHHostsRow.laid W) : ∃ G, Has G W ∧ HE G := by
  rw [Go.MakeChecks.laidMetH_plain _ _ _ (by kernel_rfl)] at h
  obtain ⟨ps, hl, _, hall⟩ := h
  obtain ⟨_, _, _, _, p1, q1, _, _, _, _, hl, rfl⟩ := hl
  obtain ⟨_, _, _, _, p2, q2, _, _, _, _, hl, rfl⟩ := hl
  obtain ⟨_, _, _, _, p3, q3, _, _, _, _, hl, rfl⟩ := hl
  obtain ⟨⟨a1, u1, f1, h1⟩, q4, hl, hall⟩ := laid_sent hl (fun b off hm => (hall b off (List.mem_append_right _ (List.mem_append_right _ (List.mem_append_right _ hm)))).2) g1 t1 Tryd.underlying27 Tryd.underlying45 row45
  obtain ⟨⟨a0, u0, f0, h0⟩, q5, hl, hall⟩ := laid_sent hl hall g0 t0 Tryd.underlying27 Tryd.underlying45 row45
  refine ⟨[(0, .cells #[.iface 45 (.pointer (some a0))] u0 f0), (1, .cells #[.iface 45 (.pointer (some a1))] u1 f1)], ⟨fun b o hb => ?_, by simp⟩, ⟨_, _, _, _, .head _⟩, _, _, _, _, .tail _ (.head _)⟩
  simp only [List.mem_cons, Prod.mk.injEq, List.not_mem_nil, or_false] at hb
  rcases hb with ⟨rfl, rfl⟩ | ⟨rfl, rfl⟩
  · exact h0
  · exact h1
end HT
end Go.Proofs.YtbcmbmmnpnbakaaDoor
