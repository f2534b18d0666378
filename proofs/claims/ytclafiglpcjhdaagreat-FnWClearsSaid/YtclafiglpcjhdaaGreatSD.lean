/- The law of what a step has, walked. -/
import Derived.Test.YtclafiglpcjhdaaGreatSC
namespace Go.Proofs.YtclafiglpcjhdaaGreat
open Go Go.RowKit V S0 S1 S2 S3 S4 S5 S6 S7 S8 SA SB S9 SC
set_option linter.unusedSimpArgs false
set_option linter.unusedVariables false
set_option maxRecDepth 10000
namespace SD
theorem call12 : Callable Tryz.prog 12 := ⟨_, Tryz.func12, rfl, by kernel_rfl⟩
theorem ty40 : Ty Tryz.prog 40 (.agg #[(.int .i64 0), (.int .i64 0), (S []), (S []), (.bool false)]) 5 56 := ty_of (by kernel_rfl)
theorem str40 : Str Tryz.prog 40 #[(0, 1), (1, 1), (2, 1), (3, 1), (4, 1)] := ⟨_, Tryz.underlying40, fun w => by kernel_rfl⟩

theorem fitsW_len {l : List WO} (h : fitsW l = true) : (l.length : Int) ≤ 2147483647 := by
  unfold fitsW at h
  simp only [Bool.and_eq_true, decide_eq_true_eq] at h
  exact h.1
theorem looked_of {l : List WO} (h : looked l = true) : l.length ≤ 60 ∧ l.all lookP = true := by
  unfold looked at h
  simp only [Bool.and_eq_true, decide_eq_true_eq] at h
  exact ⟨by omega, h.1⟩
theorem fitsW_el {l : List WO} (h : fitsW l = true) {i : Nat} (hi : i < l.length) : ((l.getD i WO0).d.length : Int) ≤ 2147483647 ∧ ((l.getD i WO0).b.length : Int) ≤ 2147483647 := by
  unfold fitsW at h
  rw [Bool.and_eq_true] at h
  have := all_el h.2 WO0 hi
  unfold fitP at this
  simp only [Bool.and_eq_true, decide_eq_true_eq] at this
  exact this
abbrev oa : WO := ⟨0, 0, [97], [], false⟩
theorem ext_get {l m : List (List UInt8)} (hl : l.length = m.length) (h : ∀ j, j < l.length → l.getD j [] = m.getD j []) : l = m := by
  refine List.ext_getElem hl fun j h1 h2 => ?_
  have := h j h1
  rwa [List.getD_eq_getElem?_getD, List.getD_eq_getElem?_getD, List.getElem?_eq_getElem h1, List.getElem?_eq_getElem h2] at this
theorem ext_bool {l m : List Bool} (hl : l.length = m.length) (h : ∀ j, j < l.length → l.getD j false = m.getD j false) : l = m := by
  refine List.ext_getElem hl fun j h1 h2 => ?_
  have := h j h1
  rwa [List.getD_eq_getElem?_getD, List.getD_eq_getElem?_getD, List.getElem?_eq_getElem h1, List.getElem?_eq_getElem h2] at this
theorem mem_next {l : List (List UInt8)} {id : List UInt8} {j : Nat} (h : j < l.length) : decide (id ∈ l.take (j + 1)) = (decide (id ∈ l.take j) || decide (l.getD j [] = id)) := by
  rw [List.take_succ_eq_append_getElem h, List.getD_eq_getElem?_getD, List.getElem?_eq_getElem h, Option.getD_some]
  have e : (id ∈ l.take j ++ [l[j]]) ↔ (id ∈ l.take j ∨ l[j] = id) := by rw [List.mem_append, List.mem_singleton, eq_comm (a := id)]
  rw [← Bool.decide_or]
  exact decide_eq_decide.2 e
/-- given.example/pub-tinwright/laws.wAwake -/
theorem wAwake  : Fn0 Tryz.prog 7 [] (.bool true) := by
  refine Fn0.enter (n := 4) Tryz.func7 rfl rfl fun w0 => ?_
  refine WC.sub (fr' := []) ?_ trivial
  refine WC.seq (WC.region ?_)
  refine WL.q (oq_assign rfl) rfl rfl rfl ?_
  refine WL.nil (WE.then_normal (WC.sub (fr' := []) ?_ trivial))
  refine WC.seq (WC.region ?_)
  refine WL.q (oq_build #[_, _, _, _, _] str40 ty40 rfl rfl) rfl rfl rfl ?_
  refine WL.buildSS ((wof oa).toArray) Tryz.underlying41 ty40 rfl (by decide) (by decide) (by kernel_rfl) (by kernel_rfl) rfl rfl fun v1_1 A1_1 ho1_1 hne1_1 => ?_
  refine WL.qc (oq_callRm (wHas v1_1 A1_1 [oa] (ho1_1.rd) (by decide) (by decide) 0 (by decide) [97]) (.head _) call12 rfl) rfl rfl rfl ?_
  refine WL.q (oq_assign rfl) rfl rfl rfl ?_
  refine WL.nil (WE.then_normal (WC.sub (fr' := [(0, _)]) ?_ ⟨rfl, trivial⟩))
  refine WC.ret ?_
  refine WE.forget ho1_1.fresh ?_
  refine WE.end0 (.inl rfl) (res1 Tryz.results7 rfl) ?_
  -- end 0
  exact congrArg Value.bool (by decide)

end SD
end Go.Proofs.YtclafiglpcjhdaaGreat
