/- The pieces of the layouts, part 2. -/
import Derived.Test.YtcfhfdengfcfpaaDoorQ1
namespace Go.Proofs.YtcfhfdengfcfpaaDoor
open Go Go.RowKit V T9
set_option linter.unusedSimpArgs false
set_option linter.unusedVariables false
set_option maxRecDepth 10000
namespace TX2
theorem call51 : Callable Tryd.prog 51 := ⟨_, Tryd.func51, rfl, by kernel_rfl⟩
theorem flat3 : Flat Tryd.prog 3 := ⟨_, Tryd.underlying3, by simp⟩
theorem ty3 : Ty Tryd.prog 3 (.int .i64 0) 1 8 := ty_of (by kernel_rfl)
set_option maxHeartbeats 2000000 in
theorem ch2 (G : Hp) (hT : Tab0 G) : FnR Tryd.prog 35 [S [32, 74, 97, 110, 32, 50, 48, 48, 54, 32, 49, 53, 58, 48, 52, 58, 48, 53, 32, 71, 77, 84]] G (.tuple #[S [32], I 258, S [32, 50, 48, 48, 54, 32, 49, 53, 58, 48, 52, 58, 48, 53, 32, 71, 77, 84]]) := by
 obtain ⟨t0, f0, hm⟩ := hT
 refine FnR.enter (n := 654) Tryd.func35 rfl rfl fun w0 => ?_
 refine WC.sub (fr' := [(0, _)]) ?_ ⟨rfl, trivial⟩
 refine WC.seq (WC.region ?_)
 refine WL.q (oq_assign rfl) rfl rfl rfl ?_
 refine WL.q (oq_assign rfl) rfl rfl rfl ?_
 refine WL.q (oq_assign rfl) rfl rfl rfl ?_
 refine WL.nil (WE.then_normal (WC.seq (WC.seq (WC.region ?_))))
 refine WL.q (oq_assign rfl) rfl rfl rfl ?_
 refine WL.nil (WE.then_normal (WC.block ?_))
 refine WC.unroll ?_
 refine WC.seq (WC.seq (WC.region ?_))
 refine WL.q (oq_move rfl) rfl rfl rfl ?_
 refine WL.q (oq_move rfl) rfl rfl rfl ?_
 refine WL.q ((oq_len_s Tryd.underlying9 rfl).to (v' := I 22) rfl) rfl rfl rfl ?_
 refine WL.q ((oq_lss rfl rfl).to (v' := .bool true) (congrArg Value.bool (decide_eq_true (by omega)))) rfl rfl rfl ?_
 refine WL.nil (WE.then_normal ?_)
 refine WC.cond_t rfl ?_
 refine WC.skip (WE.then_normal (WC.seq (WC.block (WC.seq (WC.region ?_)))))
 refine WL.q (oq_move rfl) rfl rfl rfl ?_
 refine WL.q (oq_move rfl) rfl rfl rfl ?_
 refine WL.q ((oq_index_s Tryd.underlying9 rfl rfl (by decide)).to (v' := .int .u8 32) rfl) rfl rfl rfl ?_
 refine WL.q (oq_conv Tryd.underlying5 Tryd.underlying3 rfl (by rw [i64_lo, i64_hi]; omega)) rfl rfl rfl ?_
 refine WL.q (oq_assign rfl) rfl rfl rfl ?_
 refine WL.nil (WE.then_normal (WC.seq (WC.region ?_)))
 refine WL.q (oq_move rfl) rfl rfl rfl ?_
 refine WL.nil (WE.then_normal (WC.block (WC.seq (WC.region ?_))))
 refine WL.q ((oq_eql rfl rfl).to (v' := .bool false) (congrArg Value.bool (decide_eq_false (by omega)))) rfl rfl rfl ?_
 refine WL.q (oq_assign rfl) rfl rfl rfl ?_
 refine WL.nil (WE.then_normal ?_)
 refine WC.cond_f rfl ?_
 refine WC.seq (WC.region ?_)
 refine WL.q ((oq_eql rfl rfl).to (v' := .bool false) (congrArg Value.bool (decide_eq_false (by omega)))) rfl rfl rfl ?_
 refine WL.q (oq_assign rfl) rfl rfl rfl ?_
 refine WL.nil (WE.then_normal ?_)
 refine WC.cond_f rfl ?_
 refine WC.seq (WC.region ?_)
 refine WL.q ((oq_eql rfl rfl).to (v' := .bool false) (congrArg Value.bool (decide_eq_false (by omega)))) rfl rfl rfl ?_
 refine WL.q (oq_assign rfl) rfl rfl rfl ?_
 refine WL.nil (WE.then_normal ?_)
 refine WC.cond_f rfl ?_
 refine WC.seq (WC.region ?_)
 refine WL.q ((oq_eql rfl rfl).to (v' := .bool false) (congrArg Value.bool (decide_eq_false (by omega)))) rfl rfl rfl ?_
 refine WL.q (oq_assign rfl) rfl rfl rfl ?_
 refine WL.nil (WE.then_normal ?_)
 refine WC.cond_f rfl ?_
 refine WC.seq (WC.region ?_)
 refine WL.q ((oq_eql rfl rfl).to (v' := .bool false) (congrArg Value.bool (decide_eq_false (by omega)))) rfl rfl rfl ?_
 refine WL.q (oq_assign rfl) rfl rfl rfl ?_
 refine WL.nil (WE.then_normal ?_)
 refine WC.cond_f rfl ?_
 refine WC.seq (WC.region ?_)
 refine WL.q ((oq_eql rfl rfl).to (v' := .bool false) (congrArg Value.bool (decide_eq_false (by omega)))) rfl rfl rfl ?_
 refine WL.q (oq_assign rfl) rfl rfl rfl ?_
 refine WL.nil (WE.then_normal ?_)
 refine WC.cond_f rfl ?_
 refine WC.seq (WC.region ?_)
 refine WL.q ((oq_eql rfl rfl).to (v' := .bool false) (congrArg Value.bool (decide_eq_false (by omega)))) rfl rfl rfl ?_
 refine WL.q (oq_assign rfl) rfl rfl rfl ?_
 refine WL.nil (WE.then_normal ?_)
 refine WC.cond_f rfl ?_
 refine WC.seq (WC.region ?_)
 refine WL.q ((oq_eql rfl rfl).to (v' := .bool false) (congrArg Value.bool (decide_eq_false (by omega)))) rfl rfl rfl ?_
 refine WL.q (oq_assign rfl) rfl rfl rfl ?_
 refine WL.nil (WE.then_normal ?_)
 refine WC.cond_f rfl ?_
 refine WC.seq (WC.region ?_)
 refine WL.q ((oq_eql rfl rfl).to (v' := .bool false) (congrArg Value.bool (decide_eq_false (by omega)))) rfl rfl rfl ?_
 refine WL.q (oq_assign rfl) rfl rfl rfl ?_
 refine WL.nil (WE.then_normal ?_)
 refine WC.cond_f rfl ?_
 refine WC.seq (WC.region ?_)
 refine WL.q ((oq_eql rfl rfl).to (v' := .bool false) (congrArg Value.bool (decide_eq_false (by omega)))) rfl rfl rfl ?_
 refine WL.q (oq_assign rfl) rfl rfl rfl ?_
 refine WL.nil (WE.then_normal ?_)
 refine WC.cond_f rfl ?_
 refine WC.seq (WC.region ?_)
 refine WL.q ((oq_eql rfl rfl).to (v' := .bool false) (congrArg Value.bool (decide_eq_false (by omega)))) rfl rfl rfl ?_
 refine WL.q (oq_assign rfl) rfl rfl rfl ?_
 refine WL.nil (WE.then_normal ?_)
 refine WC.cond_f rfl ?_
 refine WC.seq (WC.region ?_)
 refine WL.q ((oq_eql rfl rfl).to (v' := .bool false) (congrArg Value.bool (decide_eq_false (by omega)))) rfl rfl rfl ?_
 refine WL.q (oq_assign rfl) rfl rfl rfl ?_
 refine WL.nil (WE.then_normal ?_)
 refine WC.cond_f rfl ?_
 refine WC.seq (WC.region ?_)
 refine WL.q ((oq_eql rfl rfl).to (v' := .bool false) (congrArg Value.bool (decide_eq_false (by omega)))) rfl rfl rfl ?_
 refine WL.q (oq_assign rfl) rfl rfl rfl ?_
 refine WL.nil (WE.then_normal ?_)
 refine WC.cond_f rfl ?_
 refine WC.seq (WC.seq (WC.region ?_))
 refine WL.q ((oq_eql rfl rfl).to (v' := .bool false) (congrArg Value.bool (decide_eq_false (by omega)))) rfl rfl rfl ?_
 refine WL.q (oq_assign rfl) rfl rfl rfl ?_
 refine WL.nil (WE.then_normal ?_)
 refine WC.cond_f rfl ?_
 refine WC.region ?_
 refine WL.q ((oq_eql rfl rfl).to (v' := .bool false) (congrArg Value.bool (decide_eq_false (by omega)))) rfl rfl rfl ?_
 refine WL.q (oq_assign rfl) rfl rfl rfl ?_
 refine WL.nil (WE.then_normal ?_)
 refine WC.cond_f rfl ?_
 refine WC.skip (WE.block_normal (WE.block_normal (WE.then_normal (WC.region ?_))))
 refine WL.q (oq_move rfl) rfl rfl rfl ?_
 refine WL.q ((oq_add rfl rfl (by rw [i64_lo, i64_hi]; omega)).to (v' := I 1) rfl) rfl rfl rfl ?_
 refine WL.q (oq_assign rfl) rfl rfl rfl ?_
 refine WL.nil ?_
 refine WE.round ?_
 refine WC.sub (fr' := [(0, _), (5, _)]) ?_ ⟨rfl, rfl, trivial⟩
 refine WC.seq (WC.seq (WC.region ?_))
 refine WL.q (oq_move rfl) rfl rfl rfl ?_
 refine WL.q (oq_move rfl) rfl rfl rfl ?_
 refine WL.q ((oq_len_s Tryd.underlying9 rfl).to (v' := I 22) rfl) rfl rfl rfl ?_
 refine WL.q ((oq_lss rfl rfl).to (v' := .bool true) (congrArg Value.bool (decide_eq_true (by omega)))) rfl rfl rfl ?_
 refine WL.nil (WE.then_normal ?_)
 refine WC.cond_t rfl ?_
 refine WC.skip (WE.then_normal (WC.seq (WC.block (WC.seq (WC.region ?_)))))
 refine WL.q (oq_move rfl) rfl rfl rfl ?_
 refine WL.q (oq_move rfl) rfl rfl rfl ?_
 refine WL.q ((oq_index_s Tryd.underlying9 rfl rfl (by decide)).to (v' := .int .u8 74) rfl) rfl rfl rfl ?_
 refine WL.q (oq_conv Tryd.underlying5 Tryd.underlying3 rfl (by rw [i64_lo, i64_hi]; omega)) rfl rfl rfl ?_
 refine WL.q (oq_assign rfl) rfl rfl rfl ?_
 refine WL.nil (WE.then_normal (WC.seq (WC.region ?_)))
 refine WL.q (oq_move rfl) rfl rfl rfl ?_
 refine WL.nil (WE.then_normal (WC.block (WC.seq (WC.region ?_))))
 refine WL.q ((oq_eql rfl rfl).to (v' := .bool true) (congrArg Value.bool (decide_eq_true (by omega)))) rfl rfl rfl ?_
 refine WL.q (oq_assign rfl) rfl rfl rfl ?_
 refine WL.nil (WE.then_normal ?_)
 refine WC.cond_t rfl ?_
 refine WC.seq (WC.region ?_)
 refine WL.q (oq_move rfl) rfl rfl rfl ?_
 refine WL.q ((oq_len_s Tryd.underlying9 rfl).to (v' := I 22) rfl) rfl rfl rfl ?_
 refine WL.q (oq_move rfl) rfl rfl rfl ?_
 refine WL.q ((oq_add rfl rfl (by rw [i64_lo, i64_hi]; omega)).to (v' := I 4) rfl) rfl rfl rfl ?_
 refine WL.q ((oq_geq rfl rfl).to (v' := .bool true) (congrArg Value.bool (decide_eq_true (by omega)))) rfl rfl rfl ?_
 refine WL.q (oq_move rfl) rfl rfl rfl ?_
 refine WL.q (oq_move rfl) rfl rfl rfl ?_
 refine WL.q (oq_move rfl) rfl rfl rfl ?_
 refine WL.q (oq_move rfl) rfl rfl rfl ?_
 refine WL.q ((oq_add rfl rfl (by rw [i64_lo, i64_hi]; omega)).to (v' := I 4) rfl) rfl rfl rfl ?_
 refine WL.q ((oq_slice_s2 Tryd.underlying9 rfl rfl rfl (by decide)).to (v' := S [74, 97, 110]) rfl) rfl rfl rfl ?_
 refine WL.q ((oq_seql rfl rfl).to (v' := .bool true) (by kernel_rfl)) rfl rfl rfl ?_
 refine WL.q (oq_pick_t rfl rfl) rfl rfl rfl ?_
 refine WL.nil (WE.then_normal (WC.sub (fr' := [(0, _), (5, _), (36, _)]) ?_ ⟨rfl, rfl, rfl, trivial⟩))
 refine WC.cond_t rfl ?_
 refine WC.seq (WC.seq (WC.region ?_))
 refine WL.q (oq_move rfl) rfl rfl rfl ?_
 refine WL.q ((oq_len_s Tryd.underlying9 rfl).to (v' := I 22) rfl) rfl rfl rfl ?_
 refine WL.q (oq_move rfl) rfl rfl rfl ?_
 refine WL.q ((oq_add rfl rfl (by rw [i64_lo, i64_hi]; omega)).to (v' := I 8) rfl) rfl rfl rfl ?_
 refine WL.q ((oq_geq rfl rfl).to (v' := .bool true) (congrArg Value.bool (decide_eq_true (by omega)))) rfl rfl rfl ?_
 refine WL.q (oq_move rfl) rfl rfl rfl ?_
 refine WL.q (oq_move rfl) rfl rfl rfl ?_
 refine WL.q (oq_move rfl) rfl rfl rfl ?_
 refine WL.q (oq_move rfl) rfl rfl rfl ?_
 refine WL.q ((oq_add rfl rfl (by rw [i64_lo, i64_hi]; omega)).to (v' := I 8) rfl) rfl rfl rfl ?_
 refine WL.q ((oq_slice_s2 Tryd.underlying9 rfl rfl rfl (by decide)).to (v' := S [74, 97, 110, 32, 50, 48, 48]) rfl) rfl rfl rfl ?_
 refine WL.q ((oq_seql rfl rfl).to (v' := .bool false) (by kernel_rfl)) rfl rfl rfl ?_
 refine WL.q (oq_pick_t rfl rfl) rfl rfl rfl ?_
 refine WL.nil (WE.then_normal ?_)
 refine WC.cond_f rfl ?_
 refine WC.skip (WE.then_normal (WC.seq (WC.region ?_)))
 refine WL.q (oq_move rfl) rfl rfl rfl ?_
 refine WL.q (oq_move rfl) rfl rfl rfl ?_
 refine WL.q ((oq_add rfl rfl (by rw [i64_lo, i64_hi]; omega)).to (v' := I 4) rfl) rfl rfl rfl ?_
 refine WL.q ((oq_slice_s1 Tryd.underlying9 rfl rfl (by decide)).to (v' := S [32, 50, 48, 48, 54, 32, 49, 53, 58, 48, 52, 58, 48, 53, 32, 71, 77, 84]) rfl) rfl rfl rfl ?_
 refine WL.qc (oq_call (swlF 32 [50, 48, 48, 54, 32, 49, 53, 58, 48, 52, 58, 48, 53, 32, 71, 77, 84] (by decide) (by decide)) call51 rfl) rfl rfl rfl ?_
 refine WL.q ((oq_not rfl).to (v' := .bool true) rfl) rfl rfl rfl ?_
 refine WL.nil (WE.then_normal ?_)
 refine WC.cond_t rfl ?_
 refine WC.seq (WC.quiet (by kernel_rfl) (by kernel_rfl) ?_)
 refine WQ.q (oq_move rfl) rfl rfl rfl ?_
 refine WQ.q (oq_move rfl) rfl rfl rfl ?_
 refine WQ.q ((oq_slice_s2 Tryd.underlying9 rfl rfl rfl (by decide)).to (v' := S [32]) rfl) rfl rfl rfl ?_
 refine WQ.q (oq_move rfl) rfl rfl rfl ?_
 refine WQ.q (oq_move rfl) rfl rfl rfl ?_
 refine WQ.q ((oq_add rfl rfl (by rw [i64_lo, i64_hi]; omega)).to (v' := I 4) rfl) rfl rfl rfl ?_
 refine WQ.q ((oq_slice_s1 Tryd.underlying9 rfl rfl (by decide)).to (v' := S [32, 50, 48, 48, 54, 32, 49, 53, 58, 48, 52, 58, 48, 53, 32, 71, 77, 84]) rfl) rfl rfl rfl ?_
 refine WQ.q (oq_assign rfl) rfl rfl rfl ?_
 refine WQ.q (oq_assign rfl) rfl rfl rfl ?_
 refine WQ.q (oq_assign rfl) rfl rfl rfl ?_
 refine WQ.nil (WE.then_normal (WC.ret (WE.block_ret (WE.block_ret (WE.then_ret (WE.then_ret (WE.block_ret (WE.then_ret ?_))))))))
 refine WE.endR (.inl rfl) (res3 Tryd.results35 rfl rfl rfl) ?_
 rfl
set_option maxHeartbeats 2000000 in
theorem ch6 (G : Hp) (hT : Tab0 G) : FnR Tryd.prog 35 [S [58, 48, 53, 32, 71, 77, 84]] G (.tuple #[S [58], I 1042, S [32, 71, 77, 84]]) := by
 obtain ⟨t0, f0, hm⟩ := hT
 refine FnR.enter (n := 654) Tryd.func35 rfl rfl fun w0 => ?_
 refine WC.sub (fr' := [(0, _)]) ?_ ⟨rfl, trivial⟩
 refine WC.seq (WC.region ?_)
 refine WL.q (oq_assign rfl) rfl rfl rfl ?_
 refine WL.q (oq_assign rfl) rfl rfl rfl ?_
 refine WL.q (oq_assign rfl) rfl rfl rfl ?_
 refine WL.nil (WE.then_normal (WC.seq (WC.seq (WC.region ?_))))
 refine WL.q (oq_assign rfl) rfl rfl rfl ?_
 refine WL.nil (WE.then_normal (WC.block ?_))
 refine WC.unroll ?_
 refine WC.seq (WC.seq (WC.region ?_))
 refine WL.q (oq_move rfl) rfl rfl rfl ?_
 refine WL.q (oq_move rfl) rfl rfl rfl ?_
 refine WL.q ((oq_len_s Tryd.underlying9 rfl).to (v' := I 7) rfl) rfl rfl rfl ?_
 refine WL.q ((oq_lss rfl rfl).to (v' := .bool true) (congrArg Value.bool (decide_eq_true (by omega)))) rfl rfl rfl ?_
 refine WL.nil (WE.then_normal ?_)
 refine WC.cond_t rfl ?_
 refine WC.skip (WE.then_normal (WC.seq (WC.block (WC.seq (WC.region ?_)))))
 refine WL.q (oq_move rfl) rfl rfl rfl ?_
 refine WL.q (oq_move rfl) rfl rfl rfl ?_
 refine WL.q ((oq_index_s Tryd.underlying9 rfl rfl (by decide)).to (v' := .int .u8 58) rfl) rfl rfl rfl ?_
 refine WL.q (oq_conv Tryd.underlying5 Tryd.underlying3 rfl (by rw [i64_lo, i64_hi]; omega)) rfl rfl rfl ?_
 refine WL.q (oq_assign rfl) rfl rfl rfl ?_
 refine WL.nil (WE.then_normal (WC.seq (WC.region ?_)))
 refine WL.q (oq_move rfl) rfl rfl rfl ?_
 refine WL.nil (WE.then_normal (WC.block (WC.seq (WC.region ?_))))
 refine WL.q ((oq_eql rfl rfl).to (v' := .bool false) (congrArg Value.bool (decide_eq_false (by omega)))) rfl rfl rfl ?_
 refine WL.q (oq_assign rfl) rfl rfl rfl ?_
 refine WL.nil (WE.then_normal ?_)
 refine WC.cond_f rfl ?_
 refine WC.seq (WC.region ?_)
 refine WL.q ((oq_eql rfl rfl).to (v' := .bool false) (congrArg Value.bool (decide_eq_false (by omega)))) rfl rfl rfl ?_
 refine WL.q (oq_assign rfl) rfl rfl rfl ?_
 refine WL.nil (WE.then_normal ?_)
 refine WC.cond_f rfl ?_
 refine WC.seq (WC.region ?_)
 refine WL.q ((oq_eql rfl rfl).to (v' := .bool false) (congrArg Value.bool (decide_eq_false (by omega)))) rfl rfl rfl ?_
 refine WL.q (oq_assign rfl) rfl rfl rfl ?_
 refine WL.nil (WE.then_normal ?_)
 refine WC.cond_f rfl ?_
 refine WC.seq (WC.region ?_)
 refine WL.q ((oq_eql rfl rfl).to (v' := .bool false) (congrArg Value.bool (decide_eq_false (by omega)))) rfl rfl rfl ?_
 refine WL.q (oq_assign rfl) rfl rfl rfl ?_
 refine WL.nil (WE.then_normal ?_)
 refine WC.cond_f rfl ?_
 refine WC.seq (WC.region ?_)
 refine WL.q ((oq_eql rfl rfl).to (v' := .bool false) (congrArg Value.bool (decide_eq_false (by omega)))) rfl rfl rfl ?_
 refine WL.q (oq_assign rfl) rfl rfl rfl ?_
 refine WL.nil (WE.then_normal ?_)
 refine WC.cond_f rfl ?_
 refine WC.seq (WC.region ?_)
 refine WL.q ((oq_eql rfl rfl).to (v' := .bool false) (congrArg Value.bool (decide_eq_false (by omega)))) rfl rfl rfl ?_
 refine WL.q (oq_assign rfl) rfl rfl rfl ?_
 refine WL.nil (WE.then_normal ?_)
 refine WC.cond_f rfl ?_
 refine WC.seq (WC.region ?_)
 refine WL.q ((oq_eql rfl rfl).to (v' := .bool false) (congrArg Value.bool (decide_eq_false (by omega)))) rfl rfl rfl ?_
 refine WL.q (oq_assign rfl) rfl rfl rfl ?_
 refine WL.nil (WE.then_normal ?_)
 refine WC.cond_f rfl ?_
 refine WC.seq (WC.region ?_)
 refine WL.q ((oq_eql rfl rfl).to (v' := .bool false) (congrArg Value.bool (decide_eq_false (by omega)))) rfl rfl rfl ?_
 refine WL.q (oq_assign rfl) rfl rfl rfl ?_
 refine WL.nil (WE.then_normal ?_)
 refine WC.cond_f rfl ?_
 refine WC.seq (WC.region ?_)
 refine WL.q ((oq_eql rfl rfl).to (v' := .bool false) (congrArg Value.bool (decide_eq_false (by omega)))) rfl rfl rfl ?_
 refine WL.q (oq_assign rfl) rfl rfl rfl ?_
 refine WL.nil (WE.then_normal ?_)
 refine WC.cond_f rfl ?_
 refine WC.seq (WC.region ?_)
 refine WL.q ((oq_eql rfl rfl).to (v' := .bool false) (congrArg Value.bool (decide_eq_false (by omega)))) rfl rfl rfl ?_
 refine WL.q (oq_assign rfl) rfl rfl rfl ?_
 refine WL.nil (WE.then_normal ?_)
 refine WC.cond_f rfl ?_
 refine WC.seq (WC.region ?_)
 refine WL.q ((oq_eql rfl rfl).to (v' := .bool false) (congrArg Value.bool (decide_eq_false (by omega)))) rfl rfl rfl ?_
 refine WL.q (oq_assign rfl) rfl rfl rfl ?_
 refine WL.nil (WE.then_normal ?_)
 refine WC.cond_f rfl ?_
 refine WC.seq (WC.region ?_)
 refine WL.q ((oq_eql rfl rfl).to (v' := .bool false) (congrArg Value.bool (decide_eq_false (by omega)))) rfl rfl rfl ?_
 refine WL.q (oq_assign rfl) rfl rfl rfl ?_
 refine WL.nil (WE.then_normal ?_)
 refine WC.cond_f rfl ?_
 refine WC.seq (WC.region ?_)
 refine WL.q ((oq_eql rfl rfl).to (v' := .bool false) (congrArg Value.bool (decide_eq_false (by omega)))) rfl rfl rfl ?_
 refine WL.q (oq_assign rfl) rfl rfl rfl ?_
 refine WL.nil (WE.then_normal ?_)
 refine WC.cond_f rfl ?_
 refine WC.seq (WC.seq (WC.region ?_))
 refine WL.q ((oq_eql rfl rfl).to (v' := .bool false) (congrArg Value.bool (decide_eq_false (by omega)))) rfl rfl rfl ?_
 refine WL.q (oq_assign rfl) rfl rfl rfl ?_
 refine WL.nil (WE.then_normal ?_)
 refine WC.cond_f rfl ?_
 refine WC.region ?_
 refine WL.q ((oq_eql rfl rfl).to (v' := .bool false) (congrArg Value.bool (decide_eq_false (by omega)))) rfl rfl rfl ?_
 refine WL.q (oq_assign rfl) rfl rfl rfl ?_
 refine WL.nil (WE.then_normal ?_)
 refine WC.cond_f rfl ?_
 refine WC.skip (WE.block_normal (WE.block_normal (WE.then_normal (WC.region ?_))))
 refine WL.q (oq_move rfl) rfl rfl rfl ?_
 refine WL.q ((oq_add rfl rfl (by rw [i64_lo, i64_hi]; omega)).to (v' := I 1) rfl) rfl rfl rfl ?_
 refine WL.q (oq_assign rfl) rfl rfl rfl ?_
 refine WL.nil ?_
 refine WE.round ?_
 refine WC.sub (fr' := [(0, _), (5, _)]) ?_ ⟨rfl, rfl, trivial⟩
 refine WC.seq (WC.seq (WC.region ?_))
 refine WL.q (oq_move rfl) rfl rfl rfl ?_
 refine WL.q (oq_move rfl) rfl rfl rfl ?_
 refine WL.q ((oq_len_s Tryd.underlying9 rfl).to (v' := I 7) rfl) rfl rfl rfl ?_
 refine WL.q ((oq_lss rfl rfl).to (v' := .bool true) (congrArg Value.bool (decide_eq_true (by omega)))) rfl rfl rfl ?_
 refine WL.nil (WE.then_normal ?_)
 refine WC.cond_t rfl ?_
 refine WC.skip (WE.then_normal (WC.seq (WC.block (WC.seq (WC.region ?_)))))
 refine WL.q (oq_move rfl) rfl rfl rfl ?_
 refine WL.q (oq_move rfl) rfl rfl rfl ?_
 refine WL.q ((oq_index_s Tryd.underlying9 rfl rfl (by decide)).to (v' := .int .u8 48) rfl) rfl rfl rfl ?_
 refine WL.q (oq_conv Tryd.underlying5 Tryd.underlying3 rfl (by rw [i64_lo, i64_hi]; omega)) rfl rfl rfl ?_
 refine WL.q (oq_assign rfl) rfl rfl rfl ?_
 refine WL.nil (WE.then_normal (WC.seq (WC.region ?_)))
 refine WL.q (oq_move rfl) rfl rfl rfl ?_
 refine WL.nil (WE.then_normal (WC.block (WC.seq (WC.region ?_))))
 refine WL.q ((oq_eql rfl rfl).to (v' := .bool false) (congrArg Value.bool (decide_eq_false (by omega)))) rfl rfl rfl ?_
 refine WL.q (oq_assign rfl) rfl rfl rfl ?_
 refine WL.nil (WE.then_normal ?_)
 refine WC.cond_f rfl ?_
 refine WC.seq (WC.region ?_)
 refine WL.q ((oq_eql rfl rfl).to (v' := .bool false) (congrArg Value.bool (decide_eq_false (by omega)))) rfl rfl rfl ?_
 refine WL.q (oq_assign rfl) rfl rfl rfl ?_
 refine WL.nil (WE.then_normal (WC.sub (fr' := [(0, _), (5, _), (6, _), (21, _), (70, _)]) ?_ ⟨rfl, rfl, rfl, rfl, rfl, trivial⟩))
 refine WC.cond_f rfl ?_
 refine WC.seq (WC.region ?_)
 refine WL.q ((oq_eql rfl rfl).to (v' := .bool true) (congrArg Value.bool (decide_eq_true (by omega)))) rfl rfl rfl ?_
 refine WL.q (oq_assign rfl) rfl rfl rfl ?_
 refine WL.nil (WE.then_normal ?_)
 refine WC.cond_t rfl ?_
 refine WC.seq (WC.seq (WC.region ?_))
 refine WL.q (oq_move rfl) rfl rfl rfl ?_
 refine WL.q ((oq_len_s Tryd.underlying9 rfl).to (v' := I 7) rfl) rfl rfl rfl ?_
 refine WL.q (oq_move rfl) rfl rfl rfl ?_
 refine WL.q ((oq_add rfl rfl (by rw [i64_lo, i64_hi]; omega)).to (v' := I 3) rfl) rfl rfl rfl ?_
 refine WL.q ((oq_geq rfl rfl).to (v' := .bool true) (congrArg Value.bool (decide_eq_true (by omega)))) rfl rfl rfl ?_
 refine WL.q (oq_move rfl) rfl rfl rfl ?_
 refine WL.q (oq_move rfl) rfl rfl rfl ?_
 refine WL.q (oq_move rfl) rfl rfl rfl ?_
 refine WL.q ((oq_add rfl rfl (by rw [i64_lo, i64_hi]; omega)).to (v' := I 2) rfl) rfl rfl rfl ?_
 refine WL.q ((oq_index_s Tryd.underlying9 rfl rfl (by decide)).to (v' := .int .u8 53) rfl) rfl rfl rfl ?_
 refine WL.q ((oq_leq rfl rfl).to (v' := .bool true) (congrArg Value.bool (decide_eq_true (by omega)))) rfl rfl rfl ?_
 refine WL.q (oq_pick_t rfl rfl) rfl rfl rfl ?_
 refine WL.q (oq_move rfl) rfl rfl rfl ?_
 refine WL.q (oq_move rfl) rfl rfl rfl ?_
 refine WL.q (oq_move rfl) rfl rfl rfl ?_
 refine WL.q ((oq_add rfl rfl (by rw [i64_lo, i64_hi]; omega)).to (v' := I 2) rfl) rfl rfl rfl ?_
 refine WL.q ((oq_index_s Tryd.underlying9 rfl rfl (by decide)).to (v' := .int .u8 53) rfl) rfl rfl rfl ?_
 refine WL.q ((oq_leq rfl rfl).to (v' := .bool true) (congrArg Value.bool (decide_eq_true (by omega)))) rfl rfl rfl ?_
 refine WL.q (oq_pick_t rfl rfl) rfl rfl rfl ?_
 refine WL.nil (WE.then_normal ?_)
 refine WC.cond_t rfl ?_
 refine WC.seq (WC.quiet (by kernel_rfl) (by kernel_rfl) ?_)
 refine WQ.q (oq_move rfl) rfl rfl rfl ?_
 refine WQ.q (oq_move rfl) rfl rfl rfl ?_
 refine WQ.q ((oq_slice_s2 Tryd.underlying9 rfl rfl rfl (by decide)).to (v' := S [58]) rfl) rfl rfl rfl ?_
 refine WQ.q (oq_move rfl) rfl rfl rfl ?_
 refine WQ.q (oq_move rfl) rfl rfl rfl ?_
 refine WQ.q ((oq_add rfl rfl (by rw [i64_lo, i64_hi]; omega)).to (v' := I 2) rfl) rfl rfl rfl ?_
 refine WQ.q ((oq_index_s Tryd.underlying9 rfl rfl (by decide)).to (v' := .int .u8 53) rfl) rfl rfl rfl ?_
 refine WQ.q ((oq_sub rfl rfl (by rw [u8_lo, u8_hi]; omega)).to (v' := .int .u8 4) rfl) rfl rfl rfl ?_
 refine WQ.q (oq_ixArr (i := 4) (b := 3) (off := 0) Tryd.underlying85 ty3 rfl rfl (by decide)) rfl rfl rfl ?_
 refine WQ.q ((oq_load flat3 rfl (.head _) hm rfl).to (v' := I 1042) rfl) rfl rfl rfl ?_
 refine WQ.q (oq_move rfl) rfl rfl rfl ?_
 refine WQ.q (oq_move rfl) rfl rfl rfl ?_
 refine WQ.q ((oq_add rfl rfl (by rw [i64_lo, i64_hi]; omega)).to (v' := I 3) rfl) rfl rfl rfl ?_
 refine WQ.q ((oq_slice_s1 Tryd.underlying9 rfl rfl (by decide)).to (v' := S [32, 71, 77, 84]) rfl) rfl rfl rfl ?_
 refine WQ.q (oq_assign rfl) rfl rfl rfl ?_
 refine WQ.q (oq_assign rfl) rfl rfl rfl ?_
 refine WQ.q (oq_assign rfl) rfl rfl rfl ?_
 refine WQ.nil (WE.then_normal (WC.ret (WE.then_ret (WE.block_ret (WE.block_ret (WE.then_ret (WE.then_ret (WE.block_ret (WE.then_ret ?_)))))))))
 refine WE.endR (.inl rfl) (res3 Tryd.results35 rfl rfl rfl) ?_
 rfl
set_option maxHeartbeats 2000000 in
theorem ch10 (G : Hp) (hT : Tab0 G) : FnR Tryd.prog 35 [S [45, 74, 97, 110, 45, 48, 54, 32, 49, 53, 58, 48, 52, 58, 48, 53, 32, 77, 83, 84]] G (.tuple #[S [45], I 258, S [45, 48, 54, 32, 49, 53, 58, 48, 52, 58, 48, 53, 32, 77, 83, 84]]) := by
 obtain ⟨t0, f0, hm⟩ := hT
 refine FnR.enter (n := 654) Tryd.func35 rfl rfl fun w0 => ?_
 refine WC.sub (fr' := [(0, _)]) ?_ ⟨rfl, trivial⟩
 refine WC.seq (WC.region ?_)
 refine WL.q (oq_assign rfl) rfl rfl rfl ?_
 refine WL.q (oq_assign rfl) rfl rfl rfl ?_
 refine WL.q (oq_assign rfl) rfl rfl rfl ?_
 refine WL.nil (WE.then_normal (WC.seq (WC.seq (WC.region ?_))))
 refine WL.q (oq_assign rfl) rfl rfl rfl ?_
 refine WL.nil (WE.then_normal (WC.block ?_))
 refine WC.unroll ?_
 refine WC.seq (WC.seq (WC.region ?_))
 refine WL.q (oq_move rfl) rfl rfl rfl ?_
 refine WL.q (oq_move rfl) rfl rfl rfl ?_
 refine WL.q ((oq_len_s Tryd.underlying9 rfl).to (v' := I 20) rfl) rfl rfl rfl ?_
 refine WL.q ((oq_lss rfl rfl).to (v' := .bool true) (congrArg Value.bool (decide_eq_true (by omega)))) rfl rfl rfl ?_
 refine WL.nil (WE.then_normal ?_)
 refine WC.cond_t rfl ?_
 refine WC.skip (WE.then_normal (WC.seq (WC.block (WC.seq (WC.region ?_)))))
 refine WL.q (oq_move rfl) rfl rfl rfl ?_
 refine WL.q (oq_move rfl) rfl rfl rfl ?_
 refine WL.q ((oq_index_s Tryd.underlying9 rfl rfl (by decide)).to (v' := .int .u8 45) rfl) rfl rfl rfl ?_
 refine WL.q (oq_conv Tryd.underlying5 Tryd.underlying3 rfl (by rw [i64_lo, i64_hi]; omega)) rfl rfl rfl ?_
 refine WL.q (oq_assign rfl) rfl rfl rfl ?_
 refine WL.nil (WE.then_normal (WC.seq (WC.region ?_)))
 refine WL.q (oq_move rfl) rfl rfl rfl ?_
 refine WL.nil (WE.then_normal (WC.block (WC.seq (WC.region ?_))))
 refine WL.q ((oq_eql rfl rfl).to (v' := .bool false) (congrArg Value.bool (decide_eq_false (by omega)))) rfl rfl rfl ?_
 refine WL.q (oq_assign rfl) rfl rfl rfl ?_
 refine WL.nil (WE.then_normal ?_)
 refine WC.cond_f rfl ?_
 refine WC.seq (WC.region ?_)
 refine WL.q ((oq_eql rfl rfl).to (v' := .bool false) (congrArg Value.bool (decide_eq_false (by omega)))) rfl rfl rfl ?_
 refine WL.q (oq_assign rfl) rfl rfl rfl ?_
 refine WL.nil (WE.then_normal ?_)
 refine WC.cond_f rfl ?_
 refine WC.seq (WC.region ?_)
 refine WL.q ((oq_eql rfl rfl).to (v' := .bool false) (congrArg Value.bool (decide_eq_false (by omega)))) rfl rfl rfl ?_
 refine WL.q (oq_assign rfl) rfl rfl rfl ?_
 refine WL.nil (WE.then_normal ?_)
 refine WC.cond_f rfl ?_
 refine WC.seq (WC.region ?_)
 refine WL.q ((oq_eql rfl rfl).to (v' := .bool false) (congrArg Value.bool (decide_eq_false (by omega)))) rfl rfl rfl ?_
 refine WL.q (oq_assign rfl) rfl rfl rfl ?_
 refine WL.nil (WE.then_normal ?_)
 refine WC.cond_f rfl ?_
 refine WC.seq (WC.region ?_)
 refine WL.q ((oq_eql rfl rfl).to (v' := .bool false) (congrArg Value.bool (decide_eq_false (by omega)))) rfl rfl rfl ?_
 refine WL.q (oq_assign rfl) rfl rfl rfl ?_
 refine WL.nil (WE.then_normal ?_)
 refine WC.cond_f rfl ?_
 refine WC.seq (WC.region ?_)
 refine WL.q ((oq_eql rfl rfl).to (v' := .bool false) (congrArg Value.bool (decide_eq_false (by omega)))) rfl rfl rfl ?_
 refine WL.q (oq_assign rfl) rfl rfl rfl ?_
 refine WL.nil (WE.then_normal ?_)
 refine WC.cond_f rfl ?_
 refine WC.seq (WC.region ?_)
 refine WL.q ((oq_eql rfl rfl).to (v' := .bool false) (congrArg Value.bool (decide_eq_false (by omega)))) rfl rfl rfl ?_
 refine WL.q (oq_assign rfl) rfl rfl rfl ?_
 refine WL.nil (WE.then_normal ?_)
 refine WC.cond_f rfl ?_
 refine WC.seq (WC.region ?_)
 refine WL.q ((oq_eql rfl rfl).to (v' := .bool false) (congrArg Value.bool (decide_eq_false (by omega)))) rfl rfl rfl ?_
 refine WL.q (oq_assign rfl) rfl rfl rfl ?_
 refine WL.nil (WE.then_normal ?_)
 refine WC.cond_f rfl ?_
 refine WC.seq (WC.region ?_)
 refine WL.q ((oq_eql rfl rfl).to (v' := .bool false) (congrArg Value.bool (decide_eq_false (by omega)))) rfl rfl rfl ?_
 refine WL.q (oq_assign rfl) rfl rfl rfl ?_
 refine WL.nil (WE.then_normal ?_)
 refine WC.cond_f rfl ?_
 refine WC.seq (WC.region ?_)
 refine WL.q ((oq_eql rfl rfl).to (v' := .bool false) (congrArg Value.bool (decide_eq_false (by omega)))) rfl rfl rfl ?_
 refine WL.q (oq_assign rfl) rfl rfl rfl ?_
 refine WL.nil (WE.then_normal ?_)
 refine WC.cond_f rfl ?_
 refine WC.seq (WC.region ?_)
 refine WL.q ((oq_eql rfl rfl).to (v' := .bool false) (congrArg Value.bool (decide_eq_false (by omega)))) rfl rfl rfl ?_
 refine WL.q (oq_assign rfl) rfl rfl rfl ?_
 refine WL.nil (WE.then_normal ?_)
 refine WC.cond_f rfl ?_
 refine WC.seq (WC.region ?_)
 refine WL.q ((oq_eql rfl rfl).to (v' := .bool true) (congrArg Value.bool (decide_eq_true (by omega)))) rfl rfl rfl ?_
 refine WL.q (oq_assign rfl) rfl rfl rfl ?_
 refine WL.nil (WE.then_normal ?_)
 refine WC.cond_t rfl ?_
 refine WC.seq (WC.seq (WC.region ?_))
 refine WL.q (oq_move rfl) rfl rfl rfl ?_
 refine WL.q ((oq_len_s Tryd.underlying9 rfl).to (v' := I 20) rfl) rfl rfl rfl ?_
 refine WL.q (oq_move rfl) rfl rfl rfl ?_
 refine WL.q ((oq_add rfl rfl (by rw [i64_lo, i64_hi]; omega)).to (v' := I 7) rfl) rfl rfl rfl ?_
 refine WL.q ((oq_geq rfl rfl).to (v' := .bool true) (congrArg Value.bool (decide_eq_true (by omega)))) rfl rfl rfl ?_
 refine WL.q (oq_move rfl) rfl rfl rfl ?_
 refine WL.q (oq_move rfl) rfl rfl rfl ?_
 refine WL.q (oq_move rfl) rfl rfl rfl ?_
 refine WL.q (oq_move rfl) rfl rfl rfl ?_
 refine WL.q ((oq_add rfl rfl (by rw [i64_lo, i64_hi]; omega)).to (v' := I 7) rfl) rfl rfl rfl ?_
 refine WL.q ((oq_slice_s2 Tryd.underlying9 rfl rfl rfl (by decide)).to (v' := S [45, 74, 97, 110, 45, 48, 54]) rfl) rfl rfl rfl ?_
 refine WL.q ((oq_seql rfl rfl).to (v' := .bool false) (by kernel_rfl)) rfl rfl rfl ?_
 refine WL.q (oq_pick_t rfl rfl) rfl rfl rfl ?_
 refine WL.nil (WE.then_normal ?_)
 refine WC.cond_f rfl ?_
 refine WC.skip (WE.then_normal (WC.seq (WC.seq (WC.region ?_))))
 refine WL.q (oq_move rfl) rfl rfl rfl ?_
 refine WL.q ((oq_len_s Tryd.underlying9 rfl).to (v' := I 20) rfl) rfl rfl rfl ?_
 refine WL.q (oq_move rfl) rfl rfl rfl ?_
 refine WL.q ((oq_add rfl rfl (by rw [i64_lo, i64_hi]; omega)).to (v' := I 9) rfl) rfl rfl rfl ?_
 refine WL.q ((oq_geq rfl rfl).to (v' := .bool true) (congrArg Value.bool (decide_eq_true (by omega)))) rfl rfl rfl ?_
 refine WL.q (oq_move rfl) rfl rfl rfl ?_
 refine WL.q (oq_move rfl) rfl rfl rfl ?_
 refine WL.q (oq_move rfl) rfl rfl rfl ?_
 refine WL.q (oq_move rfl) rfl rfl rfl ?_
 refine WL.q ((oq_add rfl rfl (by rw [i64_lo, i64_hi]; omega)).to (v' := I 9) rfl) rfl rfl rfl ?_
 refine WL.q ((oq_slice_s2 Tryd.underlying9 rfl rfl rfl (by decide)).to (v' := S [45, 74, 97, 110, 45, 48, 54, 32, 49]) rfl) rfl rfl rfl ?_
 refine WL.q ((oq_seql rfl rfl).to (v' := .bool false) (by kernel_rfl)) rfl rfl rfl ?_
 refine WL.q (oq_pick_t rfl rfl) rfl rfl rfl ?_
 refine WL.nil (WE.then_normal (WC.sub (fr' := [(0, _), (5, _), (419, _)]) ?_ ⟨rfl, rfl, rfl, trivial⟩))
 refine WC.cond_f rfl ?_
 refine WC.skip (WE.then_normal (WC.seq (WC.seq (WC.region ?_))))
 refine WL.q (oq_move rfl) rfl rfl rfl ?_
 refine WL.q ((oq_len_s Tryd.underlying9 rfl).to (v' := I 20) rfl) rfl rfl rfl ?_
 refine WL.q (oq_move rfl) rfl rfl rfl ?_
 refine WL.q ((oq_add rfl rfl (by rw [i64_lo, i64_hi]; omega)).to (v' := I 5) rfl) rfl rfl rfl ?_
 refine WL.q ((oq_geq rfl rfl).to (v' := .bool true) (congrArg Value.bool (decide_eq_true (by omega)))) rfl rfl rfl ?_
 refine WL.q (oq_move rfl) rfl rfl rfl ?_
 refine WL.q (oq_move rfl) rfl rfl rfl ?_
 refine WL.q (oq_move rfl) rfl rfl rfl ?_
 refine WL.q (oq_move rfl) rfl rfl rfl ?_
 refine WL.q ((oq_add rfl rfl (by rw [i64_lo, i64_hi]; omega)).to (v' := I 5) rfl) rfl rfl rfl ?_
 refine WL.q ((oq_slice_s2 Tryd.underlying9 rfl rfl rfl (by decide)).to (v' := S [45, 74, 97, 110, 45]) rfl) rfl rfl rfl ?_
 refine WL.q ((oq_seql rfl rfl).to (v' := .bool false) (by kernel_rfl)) rfl rfl rfl ?_
 refine WL.q (oq_pick_t rfl rfl) rfl rfl rfl ?_
 refine WL.nil (WE.then_normal ?_)
 refine WC.cond_f rfl ?_
 refine WC.skip (WE.then_normal (WC.seq (WC.seq (WC.region ?_))))
 refine WL.q (oq_move rfl) rfl rfl rfl ?_
 refine WL.q ((oq_len_s Tryd.underlying9 rfl).to (v' := I 20) rfl) rfl rfl rfl ?_
 refine WL.q (oq_move rfl) rfl rfl rfl ?_
 refine WL.q ((oq_add rfl rfl (by rw [i64_lo, i64_hi]; omega)).to (v' := I 6) rfl) rfl rfl rfl ?_
 refine WL.q ((oq_geq rfl rfl).to (v' := .bool true) (congrArg Value.bool (decide_eq_true (by omega)))) rfl rfl rfl ?_
 refine WL.q (oq_move rfl) rfl rfl rfl ?_
 refine WL.q (oq_move rfl) rfl rfl rfl ?_
 refine WL.q (oq_move rfl) rfl rfl rfl ?_
 refine WL.q (oq_move rfl) rfl rfl rfl ?_
 refine WL.q ((oq_add rfl rfl (by rw [i64_lo, i64_hi]; omega)).to (v' := I 6) rfl) rfl rfl rfl ?_
 refine WL.q ((oq_slice_s2 Tryd.underlying9 rfl rfl rfl (by decide)).to (v' := S [45, 74, 97, 110, 45, 48]) rfl) rfl rfl rfl ?_
 refine WL.q ((oq_seql rfl rfl).to (v' := .bool false) (by kernel_rfl)) rfl rfl rfl ?_
 refine WL.q (oq_pick_t rfl rfl) rfl rfl rfl ?_
 refine WL.nil (WE.then_normal ?_)
 refine WC.cond_f rfl ?_
 refine WC.skip (WE.then_normal (WC.seq (WC.region ?_)))
 refine WL.q (oq_move rfl) rfl rfl rfl ?_
 refine WL.q ((oq_len_s Tryd.underlying9 rfl).to (v' := I 20) rfl) rfl rfl rfl ?_
 refine WL.q (oq_move rfl) rfl rfl rfl ?_
 refine WL.q ((oq_add rfl rfl (by rw [i64_lo, i64_hi]; omega)).to (v' := I 3) rfl) rfl rfl rfl ?_
 refine WL.q ((oq_geq rfl rfl).to (v' := .bool true) (congrArg Value.bool (decide_eq_true (by omega)))) rfl rfl rfl ?_
 refine WL.q (oq_move rfl) rfl rfl rfl ?_
 refine WL.q (oq_move rfl) rfl rfl rfl ?_
 refine WL.q (oq_move rfl) rfl rfl rfl ?_
 refine WL.q (oq_move rfl) rfl rfl rfl ?_
 refine WL.q ((oq_add rfl rfl (by rw [i64_lo, i64_hi]; omega)).to (v' := I 3) rfl) rfl rfl rfl ?_
 refine WL.q ((oq_slice_s2 Tryd.underlying9 rfl rfl rfl (by decide)).to (v' := S [45, 74, 97]) rfl) rfl rfl rfl ?_
 refine WL.q ((oq_seql rfl rfl).to (v' := .bool false) (by kernel_rfl)) rfl rfl rfl ?_
 refine WL.q (oq_pick_t rfl rfl) rfl rfl rfl ?_
 refine WL.nil (WE.then_normal ?_)
 refine WC.cond_f rfl ?_
 refine WC.skip (WE.block_normal (WE.block_normal (WE.then_normal (WC.region ?_))))
 refine WL.q (oq_move rfl) rfl rfl rfl ?_
 refine WL.q ((oq_add rfl rfl (by rw [i64_lo, i64_hi]; omega)).to (v' := I 1) rfl) rfl rfl rfl ?_
 refine WL.q (oq_assign rfl) rfl rfl rfl ?_
 refine WL.nil ?_
 refine WE.round ?_
 refine WC.sub (fr' := [(0, _), (5, _)]) ?_ ⟨rfl, rfl, trivial⟩
 refine WC.seq (WC.seq (WC.region ?_))
 refine WL.q (oq_move rfl) rfl rfl rfl ?_
 refine WL.q (oq_move rfl) rfl rfl rfl ?_
 refine WL.q ((oq_len_s Tryd.underlying9 rfl).to (v' := I 20) rfl) rfl rfl rfl ?_
 refine WL.q ((oq_lss rfl rfl).to (v' := .bool true) (congrArg Value.bool (decide_eq_true (by omega)))) rfl rfl rfl ?_
 refine WL.nil (WE.then_normal ?_)
 refine WC.cond_t rfl ?_
 refine WC.skip (WE.then_normal (WC.seq (WC.block (WC.seq (WC.region ?_)))))
 refine WL.q (oq_move rfl) rfl rfl rfl ?_
 refine WL.q (oq_move rfl) rfl rfl rfl ?_
 refine WL.q ((oq_index_s Tryd.underlying9 rfl rfl (by decide)).to (v' := .int .u8 74) rfl) rfl rfl rfl ?_
 refine WL.q (oq_conv Tryd.underlying5 Tryd.underlying3 rfl (by rw [i64_lo, i64_hi]; omega)) rfl rfl rfl ?_
 refine WL.q (oq_assign rfl) rfl rfl rfl ?_
 refine WL.nil (WE.then_normal (WC.seq (WC.region ?_)))
 refine WL.q (oq_move rfl) rfl rfl rfl ?_
 refine WL.nil (WE.then_normal (WC.block (WC.seq (WC.region ?_))))
 refine WL.q ((oq_eql rfl rfl).to (v' := .bool true) (congrArg Value.bool (decide_eq_true (by omega)))) rfl rfl rfl ?_
 refine WL.q (oq_assign rfl) rfl rfl rfl ?_
 refine WL.nil (WE.then_normal ?_)
 refine WC.cond_t rfl ?_
 refine WC.seq (WC.region ?_)
 refine WL.q (oq_move rfl) rfl rfl rfl ?_
 refine WL.q ((oq_len_s Tryd.underlying9 rfl).to (v' := I 20) rfl) rfl rfl rfl ?_
 refine WL.q (oq_move rfl) rfl rfl rfl ?_
 refine WL.q ((oq_add rfl rfl (by rw [i64_lo, i64_hi]; omega)).to (v' := I 4) rfl) rfl rfl rfl ?_
 refine WL.q ((oq_geq rfl rfl).to (v' := .bool true) (congrArg Value.bool (decide_eq_true (by omega)))) rfl rfl rfl ?_
 refine WL.q (oq_move rfl) rfl rfl rfl ?_
 refine WL.q (oq_move rfl) rfl rfl rfl ?_
 refine WL.q (oq_move rfl) rfl rfl rfl ?_
 refine WL.q (oq_move rfl) rfl rfl rfl ?_
 refine WL.q ((oq_add rfl rfl (by rw [i64_lo, i64_hi]; omega)).to (v' := I 4) rfl) rfl rfl rfl ?_
 refine WL.q ((oq_slice_s2 Tryd.underlying9 rfl rfl rfl (by decide)).to (v' := S [74, 97, 110]) rfl) rfl rfl rfl ?_
 refine WL.q ((oq_seql rfl rfl).to (v' := .bool true) (by kernel_rfl)) rfl rfl rfl ?_
 refine WL.q (oq_pick_t rfl rfl) rfl rfl rfl ?_
 refine WL.nil (WE.then_normal (WC.sub (fr' := [(0, _), (5, _), (36, _)]) ?_ ⟨rfl, rfl, rfl, trivial⟩))
 refine WC.cond_t rfl ?_
 refine WC.seq (WC.seq (WC.region ?_))
 refine WL.q (oq_move rfl) rfl rfl rfl ?_
 refine WL.q ((oq_len_s Tryd.underlying9 rfl).to (v' := I 20) rfl) rfl rfl rfl ?_
 refine WL.q (oq_move rfl) rfl rfl rfl ?_
 refine WL.q ((oq_add rfl rfl (by rw [i64_lo, i64_hi]; omega)).to (v' := I 8) rfl) rfl rfl rfl ?_
 refine WL.q ((oq_geq rfl rfl).to (v' := .bool true) (congrArg Value.bool (decide_eq_true (by omega)))) rfl rfl rfl ?_
 refine WL.q (oq_move rfl) rfl rfl rfl ?_
 refine WL.q (oq_move rfl) rfl rfl rfl ?_
 refine WL.q (oq_move rfl) rfl rfl rfl ?_
 refine WL.q (oq_move rfl) rfl rfl rfl ?_
 refine WL.q ((oq_add rfl rfl (by rw [i64_lo, i64_hi]; omega)).to (v' := I 8) rfl) rfl rfl rfl ?_
 refine WL.q ((oq_slice_s2 Tryd.underlying9 rfl rfl rfl (by decide)).to (v' := S [74, 97, 110, 45, 48, 54, 32]) rfl) rfl rfl rfl ?_
 refine WL.q ((oq_seql rfl rfl).to (v' := .bool false) (by kernel_rfl)) rfl rfl rfl ?_
 refine WL.q (oq_pick_t rfl rfl) rfl rfl rfl ?_
 refine WL.nil (WE.then_normal ?_)
 refine WC.cond_f rfl ?_
 refine WC.skip (WE.then_normal (WC.seq (WC.region ?_)))
 refine WL.q (oq_move rfl) rfl rfl rfl ?_
 refine WL.q (oq_move rfl) rfl rfl rfl ?_
 refine WL.q ((oq_add rfl rfl (by rw [i64_lo, i64_hi]; omega)).to (v' := I 4) rfl) rfl rfl rfl ?_
 refine WL.q ((oq_slice_s1 Tryd.underlying9 rfl rfl (by decide)).to (v' := S [45, 48, 54, 32, 49, 53, 58, 48, 52, 58, 48, 53, 32, 77, 83, 84]) rfl) rfl rfl rfl ?_
 refine WL.qc (oq_call (swlF 45 [48, 54, 32, 49, 53, 58, 48, 52, 58, 48, 53, 32, 77, 83, 84] (by decide) (by decide)) call51 rfl) rfl rfl rfl ?_
 refine WL.q ((oq_not rfl).to (v' := .bool true) rfl) rfl rfl rfl ?_
 refine WL.nil (WE.then_normal ?_)
 refine WC.cond_t rfl ?_
 refine WC.seq (WC.quiet (by kernel_rfl) (by kernel_rfl) ?_)
 refine WQ.q (oq_move rfl) rfl rfl rfl ?_
 refine WQ.q (oq_move rfl) rfl rfl rfl ?_
 refine WQ.q ((oq_slice_s2 Tryd.underlying9 rfl rfl rfl (by decide)).to (v' := S [45]) rfl) rfl rfl rfl ?_
 refine WQ.q (oq_move rfl) rfl rfl rfl ?_
 refine WQ.q (oq_move rfl) rfl rfl rfl ?_
 refine WQ.q ((oq_add rfl rfl (by rw [i64_lo, i64_hi]; omega)).to (v' := I 4) rfl) rfl rfl rfl ?_
 refine WQ.q ((oq_slice_s1 Tryd.underlying9 rfl rfl (by decide)).to (v' := S [45, 48, 54, 32, 49, 53, 58, 48, 52, 58, 48, 53, 32, 77, 83, 84]) rfl) rfl rfl rfl ?_
 refine WQ.q (oq_assign rfl) rfl rfl rfl ?_
 refine WQ.q (oq_assign rfl) rfl rfl rfl ?_
 refine WQ.q (oq_assign rfl) rfl rfl rfl ?_
 refine WQ.nil (WE.then_normal (WC.ret (WE.block_ret (WE.block_ret (WE.then_ret (WE.then_ret (WE.block_ret (WE.then_ret ?_))))))))
 refine WE.endR (.inl rfl) (res3 Tryd.results35 rfl rfl rfl) ?_
 rfl
set_option maxHeartbeats 2000000 in
theorem ch14 (G : Hp) (hT : Tab0 G) : FnR Tryd.prog 35 [S [58, 48, 53, 32, 77, 83, 84]] G (.tuple #[S [58], I 1042, S [32, 77, 83, 84]]) := by
 obtain ⟨t0, f0, hm⟩ := hT
 refine FnR.enter (n := 654) Tryd.func35 rfl rfl fun w0 => ?_
 refine WC.sub (fr' := [(0, _)]) ?_ ⟨rfl, trivial⟩
 refine WC.seq (WC.region ?_)
 refine WL.q (oq_assign rfl) rfl rfl rfl ?_
 refine WL.q (oq_assign rfl) rfl rfl rfl ?_
 refine WL.q (oq_assign rfl) rfl rfl rfl ?_
 refine WL.nil (WE.then_normal (WC.seq (WC.seq (WC.region ?_))))
 refine WL.q (oq_assign rfl) rfl rfl rfl ?_
 refine WL.nil (WE.then_normal (WC.block ?_))
 refine WC.unroll ?_
 refine WC.seq (WC.seq (WC.region ?_))
 refine WL.q (oq_move rfl) rfl rfl rfl ?_
 refine WL.q (oq_move rfl) rfl rfl rfl ?_
 refine WL.q ((oq_len_s Tryd.underlying9 rfl).to (v' := I 7) rfl) rfl rfl rfl ?_
 refine WL.q ((oq_lss rfl rfl).to (v' := .bool true) (congrArg Value.bool (decide_eq_true (by omega)))) rfl rfl rfl ?_
 refine WL.nil (WE.then_normal ?_)
 refine WC.cond_t rfl ?_
 refine WC.skip (WE.then_normal (WC.seq (WC.block (WC.seq (WC.region ?_)))))
 refine WL.q (oq_move rfl) rfl rfl rfl ?_
 refine WL.q (oq_move rfl) rfl rfl rfl ?_
 refine WL.q ((oq_index_s Tryd.underlying9 rfl rfl (by decide)).to (v' := .int .u8 58) rfl) rfl rfl rfl ?_
 refine WL.q (oq_conv Tryd.underlying5 Tryd.underlying3 rfl (by rw [i64_lo, i64_hi]; omega)) rfl rfl rfl ?_
 refine WL.q (oq_assign rfl) rfl rfl rfl ?_
 refine WL.nil (WE.then_normal (WC.seq (WC.region ?_)))
 refine WL.q (oq_move rfl) rfl rfl rfl ?_
 refine WL.nil (WE.then_normal (WC.block (WC.seq (WC.region ?_))))
 refine WL.q ((oq_eql rfl rfl).to (v' := .bool false) (congrArg Value.bool (decide_eq_false (by omega)))) rfl rfl rfl ?_
 refine WL.q (oq_assign rfl) rfl rfl rfl ?_
 refine WL.nil (WE.then_normal ?_)
 refine WC.cond_f rfl ?_
 refine WC.seq (WC.region ?_)
 refine WL.q ((oq_eql rfl rfl).to (v' := .bool false) (congrArg Value.bool (decide_eq_false (by omega)))) rfl rfl rfl ?_
 refine WL.q (oq_assign rfl) rfl rfl rfl ?_
 refine WL.nil (WE.then_normal ?_)
 refine WC.cond_f rfl ?_
 refine WC.seq (WC.region ?_)
 refine WL.q ((oq_eql rfl rfl).to (v' := .bool false) (congrArg Value.bool (decide_eq_false (by omega)))) rfl rfl rfl ?_
 refine WL.q (oq_assign rfl) rfl rfl rfl ?_
 refine WL.nil (WE.then_normal ?_)
 refine WC.cond_f rfl ?_
 refine WC.seq (WC.region ?_)
 refine WL.q ((oq_eql rfl rfl).to (v' := .bool false) (congrArg Value.bool (decide_eq_false (by omega)))) rfl rfl rfl ?_
 refine WL.q (oq_assign rfl) rfl rfl rfl ?_
 refine WL.nil (WE.then_normal ?_)
 refine WC.cond_f rfl ?_
 refine WC.seq (WC.region ?_)
 refine WL.q ((oq_eql rfl rfl).to (v' := .bool false) (congrArg Value.bool (decide_eq_false (by omega)))) rfl rfl rfl ?_
 refine WL.q (oq_assign rfl) rfl rfl rfl ?_
 refine WL.nil (WE.then_normal ?_)
 refine WC.cond_f rfl ?_
 refine WC.seq (WC.region ?_)
 refine WL.q ((oq_eql rfl rfl).to (v' := .bool false) (congrArg Value.bool (decide_eq_false (by omega)))) rfl rfl rfl ?_
 refine WL.q (oq_assign rfl) rfl rfl rfl ?_
 refine WL.nil (WE.then_normal ?_)
 refine WC.cond_f rfl ?_
 refine WC.seq (WC.region ?_)
 refine WL.q ((oq_eql rfl rfl).to (v' := .bool false) (congrArg Value.bool (decide_eq_false (by omega)))) rfl rfl rfl ?_
 refine WL.q (oq_assign rfl) rfl rfl rfl ?_
 refine WL.nil (WE.then_normal ?_)
 refine WC.cond_f rfl ?_
 refine WC.seq (WC.region ?_)
 refine WL.q ((oq_eql rfl rfl).to (v' := .bool false) (congrArg Value.bool (decide_eq_false (by omega)))) rfl rfl rfl ?_
 refine WL.q (oq_assign rfl) rfl rfl rfl ?_
 refine WL.nil (WE.then_normal ?_)
 refine WC.cond_f rfl ?_
 refine WC.seq (WC.region ?_)
 refine WL.q ((oq_eql rfl rfl).to (v' := .bool false) (congrArg Value.bool (decide_eq_false (by omega)))) rfl rfl rfl ?_
 refine WL.q (oq_assign rfl) rfl rfl rfl ?_
 refine WL.nil (WE.then_normal ?_)
 refine WC.cond_f rfl ?_
 refine WC.seq (WC.region ?_)
 refine WL.q ((oq_eql rfl rfl).to (v' := .bool false) (congrArg Value.bool (decide_eq_false (by omega)))) rfl rfl rfl ?_
 refine WL.q (oq_assign rfl) rfl rfl rfl ?_
 refine WL.nil (WE.then_normal ?_)
 refine WC.cond_f rfl ?_
 refine WC.seq (WC.region ?_)
 refine WL.q ((oq_eql rfl rfl).to (v' := .bool false) (congrArg Value.bool (decide_eq_false (by omega)))) rfl rfl rfl ?_
 refine WL.q (oq_assign rfl) rfl rfl rfl ?_
 refine WL.nil (WE.then_normal ?_)
 refine WC.cond_f rfl ?_
 refine WC.seq (WC.region ?_)
 refine WL.q ((oq_eql rfl rfl).to (v' := .bool false) (congrArg Value.bool (decide_eq_false (by omega)))) rfl rfl rfl ?_
 refine WL.q (oq_assign rfl) rfl rfl rfl ?_
 refine WL.nil (WE.then_normal ?_)
 refine WC.cond_f rfl ?_
 refine WC.seq (WC.region ?_)
 refine WL.q ((oq_eql rfl rfl).to (v' := .bool false) (congrArg Value.bool (decide_eq_false (by omega)))) rfl rfl rfl ?_
 refine WL.q (oq_assign rfl) rfl rfl rfl ?_
 refine WL.nil (WE.then_normal ?_)
 refine WC.cond_f rfl ?_
 refine WC.seq (WC.seq (WC.region ?_))
 refine WL.q ((oq_eql rfl rfl).to (v' := .bool false) (congrArg Value.bool (decide_eq_false (by omega)))) rfl rfl rfl ?_
 refine WL.q (oq_assign rfl) rfl rfl rfl ?_
 refine WL.nil (WE.then_normal ?_)
 refine WC.cond_f rfl ?_
 refine WC.region ?_
 refine WL.q ((oq_eql rfl rfl).to (v' := .bool false) (congrArg Value.bool (decide_eq_false (by omega)))) rfl rfl rfl ?_
 refine WL.q (oq_assign rfl) rfl rfl rfl ?_
 refine WL.nil (WE.then_normal ?_)
 refine WC.cond_f rfl ?_
 refine WC.skip (WE.block_normal (WE.block_normal (WE.then_normal (WC.region ?_))))
 refine WL.q (oq_move rfl) rfl rfl rfl ?_
 refine WL.q ((oq_add rfl rfl (by rw [i64_lo, i64_hi]; omega)).to (v' := I 1) rfl) rfl rfl rfl ?_
 refine WL.q (oq_assign rfl) rfl rfl rfl ?_
 refine WL.nil ?_
 refine WE.round ?_
 refine WC.sub (fr' := [(0, _), (5, _)]) ?_ ⟨rfl, rfl, trivial⟩
 refine WC.seq (WC.seq (WC.region ?_))
 refine WL.q (oq_move rfl) rfl rfl rfl ?_
 refine WL.q (oq_move rfl) rfl rfl rfl ?_
 refine WL.q ((oq_len_s Tryd.underlying9 rfl).to (v' := I 7) rfl) rfl rfl rfl ?_
 refine WL.q ((oq_lss rfl rfl).to (v' := .bool true) (congrArg Value.bool (decide_eq_true (by omega)))) rfl rfl rfl ?_
 refine WL.nil (WE.then_normal ?_)
 refine WC.cond_t rfl ?_
 refine WC.skip (WE.then_normal (WC.seq (WC.block (WC.seq (WC.region ?_)))))
 refine WL.q (oq_move rfl) rfl rfl rfl ?_
 refine WL.q (oq_move rfl) rfl rfl rfl ?_
 refine WL.q ((oq_index_s Tryd.underlying9 rfl rfl (by decide)).to (v' := .int .u8 48) rfl) rfl rfl rfl ?_
 refine WL.q (oq_conv Tryd.underlying5 Tryd.underlying3 rfl (by rw [i64_lo, i64_hi]; omega)) rfl rfl rfl ?_
 refine WL.q (oq_assign rfl) rfl rfl rfl ?_
 refine WL.nil (WE.then_normal (WC.seq (WC.region ?_)))
 refine WL.q (oq_move rfl) rfl rfl rfl ?_
 refine WL.nil (WE.then_normal (WC.block (WC.seq (WC.region ?_))))
 refine WL.q ((oq_eql rfl rfl).to (v' := .bool false) (congrArg Value.bool (decide_eq_false (by omega)))) rfl rfl rfl ?_
 refine WL.q (oq_assign rfl) rfl rfl rfl ?_
 refine WL.nil (WE.then_normal ?_)
 refine WC.cond_f rfl ?_
 refine WC.seq (WC.region ?_)
 refine WL.q ((oq_eql rfl rfl).to (v' := .bool false) (congrArg Value.bool (decide_eq_false (by omega)))) rfl rfl rfl ?_
 refine WL.q (oq_assign rfl) rfl rfl rfl ?_
 refine WL.nil (WE.then_normal (WC.sub (fr' := [(0, _), (5, _), (6, _), (21, _), (70, _)]) ?_ ⟨rfl, rfl, rfl, rfl, rfl, trivial⟩))
 refine WC.cond_f rfl ?_
 refine WC.seq (WC.region ?_)
 refine WL.q ((oq_eql rfl rfl).to (v' := .bool true) (congrArg Value.bool (decide_eq_true (by omega)))) rfl rfl rfl ?_
 refine WL.q (oq_assign rfl) rfl rfl rfl ?_
 refine WL.nil (WE.then_normal ?_)
 refine WC.cond_t rfl ?_
 refine WC.seq (WC.seq (WC.region ?_))
 refine WL.q (oq_move rfl) rfl rfl rfl ?_
 refine WL.q ((oq_len_s Tryd.underlying9 rfl).to (v' := I 7) rfl) rfl rfl rfl ?_
 refine WL.q (oq_move rfl) rfl rfl rfl ?_
 refine WL.q ((oq_add rfl rfl (by rw [i64_lo, i64_hi]; omega)).to (v' := I 3) rfl) rfl rfl rfl ?_
 refine WL.q ((oq_geq rfl rfl).to (v' := .bool true) (congrArg Value.bool (decide_eq_true (by omega)))) rfl rfl rfl ?_
 refine WL.q (oq_move rfl) rfl rfl rfl ?_
 refine WL.q (oq_move rfl) rfl rfl rfl ?_
 refine WL.q (oq_move rfl) rfl rfl rfl ?_
 refine WL.q ((oq_add rfl rfl (by rw [i64_lo, i64_hi]; omega)).to (v' := I 2) rfl) rfl rfl rfl ?_
 refine WL.q ((oq_index_s Tryd.underlying9 rfl rfl (by decide)).to (v' := .int .u8 53) rfl) rfl rfl rfl ?_
 refine WL.q ((oq_leq rfl rfl).to (v' := .bool true) (congrArg Value.bool (decide_eq_true (by omega)))) rfl rfl rfl ?_
 refine WL.q (oq_pick_t rfl rfl) rfl rfl rfl ?_
 refine WL.q (oq_move rfl) rfl rfl rfl ?_
 refine WL.q (oq_move rfl) rfl rfl rfl ?_
 refine WL.q (oq_move rfl) rfl rfl rfl ?_
 refine WL.q ((oq_add rfl rfl (by rw [i64_lo, i64_hi]; omega)).to (v' := I 2) rfl) rfl rfl rfl ?_
 refine WL.q ((oq_index_s Tryd.underlying9 rfl rfl (by decide)).to (v' := .int .u8 53) rfl) rfl rfl rfl ?_
 refine WL.q ((oq_leq rfl rfl).to (v' := .bool true) (congrArg Value.bool (decide_eq_true (by omega)))) rfl rfl rfl ?_
 refine WL.q (oq_pick_t rfl rfl) rfl rfl rfl ?_
 refine WL.nil (WE.then_normal ?_)
 refine WC.cond_t rfl ?_
 refine WC.seq (WC.quiet (by kernel_rfl) (by kernel_rfl) ?_)
 refine WQ.q (oq_move rfl) rfl rfl rfl ?_
 refine WQ.q (oq_move rfl) rfl rfl rfl ?_
 refine WQ.q ((oq_slice_s2 Tryd.underlying9 rfl rfl rfl (by decide)).to (v' := S [58]) rfl) rfl rfl rfl ?_
 refine WQ.q (oq_move rfl) rfl rfl rfl ?_
 refine WQ.q (oq_move rfl) rfl rfl rfl ?_
 refine WQ.q ((oq_add rfl rfl (by rw [i64_lo, i64_hi]; omega)).to (v' := I 2) rfl) rfl rfl rfl ?_
 refine WQ.q ((oq_index_s Tryd.underlying9 rfl rfl (by decide)).to (v' := .int .u8 53) rfl) rfl rfl rfl ?_
 refine WQ.q ((oq_sub rfl rfl (by rw [u8_lo, u8_hi]; omega)).to (v' := .int .u8 4) rfl) rfl rfl rfl ?_
 refine WQ.q (oq_ixArr (i := 4) (b := 3) (off := 0) Tryd.underlying85 ty3 rfl rfl (by decide)) rfl rfl rfl ?_
 refine WQ.q ((oq_load flat3 rfl (.head _) hm rfl).to (v' := I 1042) rfl) rfl rfl rfl ?_
 refine WQ.q (oq_move rfl) rfl rfl rfl ?_
 refine WQ.q (oq_move rfl) rfl rfl rfl ?_
 refine WQ.q ((oq_add rfl rfl (by rw [i64_lo, i64_hi]; omega)).to (v' := I 3) rfl) rfl rfl rfl ?_
 refine WQ.q ((oq_slice_s1 Tryd.underlying9 rfl rfl (by decide)).to (v' := S [32, 77, 83, 84]) rfl) rfl rfl rfl ?_
 refine WQ.q (oq_assign rfl) rfl rfl rfl ?_
 refine WQ.q (oq_assign rfl) rfl rfl rfl ?_
 refine WQ.q (oq_assign rfl) rfl rfl rfl ?_
 refine WQ.nil (WE.then_normal (WC.ret (WE.then_ret (WE.block_ret (WE.block_ret (WE.then_ret (WE.then_ret (WE.block_ret (WE.then_ret ?_)))))))))
 refine WE.endR (.inl rfl) (res3 Tryd.results35 rfl rfl rfl) ?_
 rfl
set_option maxHeartbeats 2000000 in
theorem ch18 (G : Hp) (hT : Tab0 G) : FnR Tryd.prog 35 [S [32, 74, 97, 110, 32, 95, 50, 32, 49, 53, 58, 48, 52, 58, 48, 53, 32, 50, 48, 48, 54]] G (.tuple #[S [32], I 258, S [32, 95, 50, 32, 49, 53, 58, 48, 52, 58, 48, 53, 32, 50, 48, 48, 54]]) := by
 obtain ⟨t0, f0, hm⟩ := hT
 refine FnR.enter (n := 654) Tryd.func35 rfl rfl fun w0 => ?_
 refine WC.sub (fr' := [(0, _)]) ?_ ⟨rfl, trivial⟩
 refine WC.seq (WC.region ?_)
 refine WL.q (oq_assign rfl) rfl rfl rfl ?_
 refine WL.q (oq_assign rfl) rfl rfl rfl ?_
 refine WL.q (oq_assign rfl) rfl rfl rfl ?_
 refine WL.nil (WE.then_normal (WC.seq (WC.seq (WC.region ?_))))
 refine WL.q (oq_assign rfl) rfl rfl rfl ?_
 refine WL.nil (WE.then_normal (WC.block ?_))
 refine WC.unroll ?_
 refine WC.seq (WC.seq (WC.region ?_))
 refine WL.q (oq_move rfl) rfl rfl rfl ?_
 refine WL.q (oq_move rfl) rfl rfl rfl ?_
 refine WL.q ((oq_len_s Tryd.underlying9 rfl).to (v' := I 21) rfl) rfl rfl rfl ?_
 refine WL.q ((oq_lss rfl rfl).to (v' := .bool true) (congrArg Value.bool (decide_eq_true (by omega)))) rfl rfl rfl ?_
 refine WL.nil (WE.then_normal ?_)
 refine WC.cond_t rfl ?_
 refine WC.skip (WE.then_normal (WC.seq (WC.block (WC.seq (WC.region ?_)))))
 refine WL.q (oq_move rfl) rfl rfl rfl ?_
 refine WL.q (oq_move rfl) rfl rfl rfl ?_
 refine WL.q ((oq_index_s Tryd.underlying9 rfl rfl (by decide)).to (v' := .int .u8 32) rfl) rfl rfl rfl ?_
 refine WL.q (oq_conv Tryd.underlying5 Tryd.underlying3 rfl (by rw [i64_lo, i64_hi]; omega)) rfl rfl rfl ?_
 refine WL.q (oq_assign rfl) rfl rfl rfl ?_
 refine WL.nil (WE.then_normal (WC.seq (WC.region ?_)))
 refine WL.q (oq_move rfl) rfl rfl rfl ?_
 refine WL.nil (WE.then_normal (WC.block (WC.seq (WC.region ?_))))
 refine WL.q ((oq_eql rfl rfl).to (v' := .bool false) (congrArg Value.bool (decide_eq_false (by omega)))) rfl rfl rfl ?_
 refine WL.q (oq_assign rfl) rfl rfl rfl ?_
 refine WL.nil (WE.then_normal ?_)
 refine WC.cond_f rfl ?_
 refine WC.seq (WC.region ?_)
 refine WL.q ((oq_eql rfl rfl).to (v' := .bool false) (congrArg Value.bool (decide_eq_false (by omega)))) rfl rfl rfl ?_
 refine WL.q (oq_assign rfl) rfl rfl rfl ?_
 refine WL.nil (WE.then_normal ?_)
 refine WC.cond_f rfl ?_
 refine WC.seq (WC.region ?_)
 refine WL.q ((oq_eql rfl rfl).to (v' := .bool false) (congrArg Value.bool (decide_eq_false (by omega)))) rfl rfl rfl ?_
 refine WL.q (oq_assign rfl) rfl rfl rfl ?_
 refine WL.nil (WE.then_normal ?_)
 refine WC.cond_f rfl ?_
 refine WC.seq (WC.region ?_)
 refine WL.q ((oq_eql rfl rfl).to (v' := .bool false) (congrArg Value.bool (decide_eq_false (by omega)))) rfl rfl rfl ?_
 refine WL.q (oq_assign rfl) rfl rfl rfl ?_
 refine WL.nil (WE.then_normal ?_)
 refine WC.cond_f rfl ?_
 refine WC.seq (WC.region ?_)
 refine WL.q ((oq_eql rfl rfl).to (v' := .bool false) (congrArg Value.bool (decide_eq_false (by omega)))) rfl rfl rfl ?_
 refine WL.q (oq_assign rfl) rfl rfl rfl ?_
 refine WL.nil (WE.then_normal ?_)
 refine WC.cond_f rfl ?_
 refine WC.seq (WC.region ?_)
 refine WL.q ((oq_eql rfl rfl).to (v' := .bool false) (congrArg Value.bool (decide_eq_false (by omega)))) rfl rfl rfl ?_
 refine WL.q (oq_assign rfl) rfl rfl rfl ?_
 refine WL.nil (WE.then_normal ?_)
 refine WC.cond_f rfl ?_
 refine WC.seq (WC.region ?_)
 refine WL.q ((oq_eql rfl rfl).to (v' := .bool false) (congrArg Value.bool (decide_eq_false (by omega)))) rfl rfl rfl ?_
 refine WL.q (oq_assign rfl) rfl rfl rfl ?_
 refine WL.nil (WE.then_normal ?_)
 refine WC.cond_f rfl ?_
 refine WC.seq (WC.region ?_)
 refine WL.q ((oq_eql rfl rfl).to (v' := .bool false) (congrArg Value.bool (decide_eq_false (by omega)))) rfl rfl rfl ?_
 refine WL.q (oq_assign rfl) rfl rfl rfl ?_
 refine WL.nil (WE.then_normal ?_)
 refine WC.cond_f rfl ?_
 refine WC.seq (WC.region ?_)
 refine WL.q ((oq_eql rfl rfl).to (v' := .bool false) (congrArg Value.bool (decide_eq_false (by omega)))) rfl rfl rfl ?_
 refine WL.q (oq_assign rfl) rfl rfl rfl ?_
 refine WL.nil (WE.then_normal ?_)
 refine WC.cond_f rfl ?_
 refine WC.seq (WC.region ?_)
 refine WL.q ((oq_eql rfl rfl).to (v' := .bool false) (congrArg Value.bool (decide_eq_false (by omega)))) rfl rfl rfl ?_
 refine WL.q (oq_assign rfl) rfl rfl rfl ?_
 refine WL.nil (WE.then_normal ?_)
 refine WC.cond_f rfl ?_
 refine WC.seq (WC.region ?_)
 refine WL.q ((oq_eql rfl rfl).to (v' := .bool false) (congrArg Value.bool (decide_eq_false (by omega)))) rfl rfl rfl ?_
 refine WL.q (oq_assign rfl) rfl rfl rfl ?_
 refine WL.nil (WE.then_normal ?_)
 refine WC.cond_f rfl ?_
 refine WC.seq (WC.region ?_)
 refine WL.q ((oq_eql rfl rfl).to (v' := .bool false) (congrArg Value.bool (decide_eq_false (by omega)))) rfl rfl rfl ?_
 refine WL.q (oq_assign rfl) rfl rfl rfl ?_
 refine WL.nil (WE.then_normal ?_)
 refine WC.cond_f rfl ?_
 refine WC.seq (WC.region ?_)
 refine WL.q ((oq_eql rfl rfl).to (v' := .bool false) (congrArg Value.bool (decide_eq_false (by omega)))) rfl rfl rfl ?_
 refine WL.q (oq_assign rfl) rfl rfl rfl ?_
 refine WL.nil (WE.then_normal ?_)
 refine WC.cond_f rfl ?_
 refine WC.seq (WC.seq (WC.region ?_))
 refine WL.q ((oq_eql rfl rfl).to (v' := .bool false) (congrArg Value.bool (decide_eq_false (by omega)))) rfl rfl rfl ?_
 refine WL.q (oq_assign rfl) rfl rfl rfl ?_
 refine WL.nil (WE.then_normal ?_)
 refine WC.cond_f rfl ?_
 refine WC.region ?_
 refine WL.q ((oq_eql rfl rfl).to (v' := .bool false) (congrArg Value.bool (decide_eq_false (by omega)))) rfl rfl rfl ?_
 refine WL.q (oq_assign rfl) rfl rfl rfl ?_
 refine WL.nil (WE.then_normal ?_)
 refine WC.cond_f rfl ?_
 refine WC.skip (WE.block_normal (WE.block_normal (WE.then_normal (WC.region ?_))))
 refine WL.q (oq_move rfl) rfl rfl rfl ?_
 refine WL.q ((oq_add rfl rfl (by rw [i64_lo, i64_hi]; omega)).to (v' := I 1) rfl) rfl rfl rfl ?_
 refine WL.q (oq_assign rfl) rfl rfl rfl ?_
 refine WL.nil ?_
 refine WE.round ?_
 refine WC.sub (fr' := [(0, _), (5, _)]) ?_ ⟨rfl, rfl, trivial⟩
 refine WC.seq (WC.seq (WC.region ?_))
 refine WL.q (oq_move rfl) rfl rfl rfl ?_
 refine WL.q (oq_move rfl) rfl rfl rfl ?_
 refine WL.q ((oq_len_s Tryd.underlying9 rfl).to (v' := I 21) rfl) rfl rfl rfl ?_
 refine WL.q ((oq_lss rfl rfl).to (v' := .bool true) (congrArg Value.bool (decide_eq_true (by omega)))) rfl rfl rfl ?_
 refine WL.nil (WE.then_normal ?_)
 refine WC.cond_t rfl ?_
 refine WC.skip (WE.then_normal (WC.seq (WC.block (WC.seq (WC.region ?_)))))
 refine WL.q (oq_move rfl) rfl rfl rfl ?_
 refine WL.q (oq_move rfl) rfl rfl rfl ?_
 refine WL.q ((oq_index_s Tryd.underlying9 rfl rfl (by decide)).to (v' := .int .u8 74) rfl) rfl rfl rfl ?_
 refine WL.q (oq_conv Tryd.underlying5 Tryd.underlying3 rfl (by rw [i64_lo, i64_hi]; omega)) rfl rfl rfl ?_
 refine WL.q (oq_assign rfl) rfl rfl rfl ?_
 refine WL.nil (WE.then_normal (WC.seq (WC.region ?_)))
 refine WL.q (oq_move rfl) rfl rfl rfl ?_
 refine WL.nil (WE.then_normal (WC.block (WC.seq (WC.region ?_))))
 refine WL.q ((oq_eql rfl rfl).to (v' := .bool true) (congrArg Value.bool (decide_eq_true (by omega)))) rfl rfl rfl ?_
 refine WL.q (oq_assign rfl) rfl rfl rfl ?_
 refine WL.nil (WE.then_normal ?_)
 refine WC.cond_t rfl ?_
 refine WC.seq (WC.region ?_)
 refine WL.q (oq_move rfl) rfl rfl rfl ?_
 refine WL.q ((oq_len_s Tryd.underlying9 rfl).to (v' := I 21) rfl) rfl rfl rfl ?_
 refine WL.q (oq_move rfl) rfl rfl rfl ?_
 refine WL.q ((oq_add rfl rfl (by rw [i64_lo, i64_hi]; omega)).to (v' := I 4) rfl) rfl rfl rfl ?_
 refine WL.q ((oq_geq rfl rfl).to (v' := .bool true) (congrArg Value.bool (decide_eq_true (by omega)))) rfl rfl rfl ?_
 refine WL.q (oq_move rfl) rfl rfl rfl ?_
 refine WL.q (oq_move rfl) rfl rfl rfl ?_
 refine WL.q (oq_move rfl) rfl rfl rfl ?_
 refine WL.q (oq_move rfl) rfl rfl rfl ?_
 refine WL.q ((oq_add rfl rfl (by rw [i64_lo, i64_hi]; omega)).to (v' := I 4) rfl) rfl rfl rfl ?_
 refine WL.q ((oq_slice_s2 Tryd.underlying9 rfl rfl rfl (by decide)).to (v' := S [74, 97, 110]) rfl) rfl rfl rfl ?_
 refine WL.q ((oq_seql rfl rfl).to (v' := .bool true) (by kernel_rfl)) rfl rfl rfl ?_
 refine WL.q (oq_pick_t rfl rfl) rfl rfl rfl ?_
 refine WL.nil (WE.then_normal (WC.sub (fr' := [(0, _), (5, _), (36, _)]) ?_ ⟨rfl, rfl, rfl, trivial⟩))
 refine WC.cond_t rfl ?_
 refine WC.seq (WC.seq (WC.region ?_))
 refine WL.q (oq_move rfl) rfl rfl rfl ?_
 refine WL.q ((oq_len_s Tryd.underlying9 rfl).to (v' := I 21) rfl) rfl rfl rfl ?_
 refine WL.q (oq_move rfl) rfl rfl rfl ?_
 refine WL.q ((oq_add rfl rfl (by rw [i64_lo, i64_hi]; omega)).to (v' := I 8) rfl) rfl rfl rfl ?_
 refine WL.q ((oq_geq rfl rfl).to (v' := .bool true) (congrArg Value.bool (decide_eq_true (by omega)))) rfl rfl rfl ?_
 refine WL.q (oq_move rfl) rfl rfl rfl ?_
 refine WL.q (oq_move rfl) rfl rfl rfl ?_
 refine WL.q (oq_move rfl) rfl rfl rfl ?_
 refine WL.q (oq_move rfl) rfl rfl rfl ?_
 refine WL.q ((oq_add rfl rfl (by rw [i64_lo, i64_hi]; omega)).to (v' := I 8) rfl) rfl rfl rfl ?_
 refine WL.q ((oq_slice_s2 Tryd.underlying9 rfl rfl rfl (by decide)).to (v' := S [74, 97, 110, 32, 95, 50, 32]) rfl) rfl rfl rfl ?_
 refine WL.q ((oq_seql rfl rfl).to (v' := .bool false) (by kernel_rfl)) rfl rfl rfl ?_
 refine WL.q (oq_pick_t rfl rfl) rfl rfl rfl ?_
 refine WL.nil (WE.then_normal ?_)
 refine WC.cond_f rfl ?_
 refine WC.skip (WE.then_normal (WC.seq (WC.region ?_)))
 refine WL.q (oq_move rfl) rfl rfl rfl ?_
 refine WL.q (oq_move rfl) rfl rfl rfl ?_
 refine WL.q ((oq_add rfl rfl (by rw [i64_lo, i64_hi]; omega)).to (v' := I 4) rfl) rfl rfl rfl ?_
 refine WL.q ((oq_slice_s1 Tryd.underlying9 rfl rfl (by decide)).to (v' := S [32, 95, 50, 32, 49, 53, 58, 48, 52, 58, 48, 53, 32, 50, 48, 48, 54]) rfl) rfl rfl rfl ?_
 refine WL.qc (oq_call (swlF 32 [95, 50, 32, 49, 53, 58, 48, 52, 58, 48, 53, 32, 50, 48, 48, 54] (by decide) (by decide)) call51 rfl) rfl rfl rfl ?_
 refine WL.q ((oq_not rfl).to (v' := .bool true) rfl) rfl rfl rfl ?_
 refine WL.nil (WE.then_normal ?_)
 refine WC.cond_t rfl ?_
 refine WC.seq (WC.quiet (by kernel_rfl) (by kernel_rfl) ?_)
 refine WQ.q (oq_move rfl) rfl rfl rfl ?_
 refine WQ.q (oq_move rfl) rfl rfl rfl ?_
 refine WQ.q ((oq_slice_s2 Tryd.underlying9 rfl rfl rfl (by decide)).to (v' := S [32]) rfl) rfl rfl rfl ?_
 refine WQ.q (oq_move rfl) rfl rfl rfl ?_
 refine WQ.q (oq_move rfl) rfl rfl rfl ?_
 refine WQ.q ((oq_add rfl rfl (by rw [i64_lo, i64_hi]; omega)).to (v' := I 4) rfl) rfl rfl rfl ?_
 refine WQ.q ((oq_slice_s1 Tryd.underlying9 rfl rfl (by decide)).to (v' := S [32, 95, 50, 32, 49, 53, 58, 48, 52, 58, 48, 53, 32, 50, 48, 48, 54]) rfl) rfl rfl rfl ?_
 refine WQ.q (oq_assign rfl) rfl rfl rfl ?_
 refine WQ.q (oq_assign rfl) rfl rfl rfl ?_
 refine WQ.q (oq_assign rfl) rfl rfl rfl ?_
 refine WQ.nil (WE.then_normal (WC.ret (WE.block_ret (WE.block_ret (WE.then_ret (WE.then_ret (WE.block_ret (WE.then_ret ?_))))))))
 refine WE.endR (.inl rfl) (res3 Tryd.results35 rfl rfl rfl) ?_
 rfl
set_option maxHeartbeats 2000000 in
theorem ch22 (G : Hp) (hT : Tab0 G) : FnR Tryd.prog 35 [S [58, 48, 53, 32, 50, 48, 48, 54]] G (.tuple #[S [58], I 1042, S [32, 50, 48, 48, 54]]) := by
 obtain ⟨t0, f0, hm⟩ := hT
 refine FnR.enter (n := 654) Tryd.func35 rfl rfl fun w0 => ?_
 refine WC.sub (fr' := [(0, _)]) ?_ ⟨rfl, trivial⟩
 refine WC.seq (WC.region ?_)
 refine WL.q (oq_assign rfl) rfl rfl rfl ?_
 refine WL.q (oq_assign rfl) rfl rfl rfl ?_
 refine WL.q (oq_assign rfl) rfl rfl rfl ?_
 refine WL.nil (WE.then_normal (WC.seq (WC.seq (WC.region ?_))))
 refine WL.q (oq_assign rfl) rfl rfl rfl ?_
 refine WL.nil (WE.then_normal (WC.block ?_))
 refine WC.unroll ?_
 refine WC.seq (WC.seq (WC.region ?_))
 refine WL.q (oq_move rfl) rfl rfl rfl ?_
 refine WL.q (oq_move rfl) rfl rfl rfl ?_
 refine WL.q ((oq_len_s Tryd.underlying9 rfl).to (v' := I 8) rfl) rfl rfl rfl ?_
 refine WL.q ((oq_lss rfl rfl).to (v' := .bool true) (congrArg Value.bool (decide_eq_true (by omega)))) rfl rfl rfl ?_
 refine WL.nil (WE.then_normal ?_)
 refine WC.cond_t rfl ?_
 refine WC.skip (WE.then_normal (WC.seq (WC.block (WC.seq (WC.region ?_)))))
 refine WL.q (oq_move rfl) rfl rfl rfl ?_
 refine WL.q (oq_move rfl) rfl rfl rfl ?_
 refine WL.q ((oq_index_s Tryd.underlying9 rfl rfl (by decide)).to (v' := .int .u8 58) rfl) rfl rfl rfl ?_
 refine WL.q (oq_conv Tryd.underlying5 Tryd.underlying3 rfl (by rw [i64_lo, i64_hi]; omega)) rfl rfl rfl ?_
 refine WL.q (oq_assign rfl) rfl rfl rfl ?_
 refine WL.nil (WE.then_normal (WC.seq (WC.region ?_)))
 refine WL.q (oq_move rfl) rfl rfl rfl ?_
 refine WL.nil (WE.then_normal (WC.block (WC.seq (WC.region ?_))))
 refine WL.q ((oq_eql rfl rfl).to (v' := .bool false) (congrArg Value.bool (decide_eq_false (by omega)))) rfl rfl rfl ?_
 refine WL.q (oq_assign rfl) rfl rfl rfl ?_
 refine WL.nil (WE.then_normal ?_)
 refine WC.cond_f rfl ?_
 refine WC.seq (WC.region ?_)
 refine WL.q ((oq_eql rfl rfl).to (v' := .bool false) (congrArg Value.bool (decide_eq_false (by omega)))) rfl rfl rfl ?_
 refine WL.q (oq_assign rfl) rfl rfl rfl ?_
 refine WL.nil (WE.then_normal ?_)
 refine WC.cond_f rfl ?_
 refine WC.seq (WC.region ?_)
 refine WL.q ((oq_eql rfl rfl).to (v' := .bool false) (congrArg Value.bool (decide_eq_false (by omega)))) rfl rfl rfl ?_
 refine WL.q (oq_assign rfl) rfl rfl rfl ?_
 refine WL.nil (WE.then_normal ?_)
 refine WC.cond_f rfl ?_
 refine WC.seq (WC.region ?_)
 refine WL.q ((oq_eql rfl rfl).to (v' := .bool false) (congrArg Value.bool (decide_eq_false (by omega)))) rfl rfl rfl ?_
 refine WL.q (oq_assign rfl) rfl rfl rfl ?_
 refine WL.nil (WE.then_normal ?_)
 refine WC.cond_f rfl ?_
 refine WC.seq (WC.region ?_)
 refine WL.q ((oq_eql rfl rfl).to (v' := .bool false) (congrArg Value.bool (decide_eq_false (by omega)))) rfl rfl rfl ?_
 refine WL.q (oq_assign rfl) rfl rfl rfl ?_
 refine WL.nil (WE.then_normal ?_)
 refine WC.cond_f rfl ?_
 refine WC.seq (WC.region ?_)
 refine WL.q ((oq_eql rfl rfl).to (v' := .bool false) (congrArg Value.bool (decide_eq_false (by omega)))) rfl rfl rfl ?_
 refine WL.q (oq_assign rfl) rfl rfl rfl ?_
 refine WL.nil (WE.then_normal ?_)
 refine WC.cond_f rfl ?_
 refine WC.seq (WC.region ?_)
 refine WL.q ((oq_eql rfl rfl).to (v' := .bool false) (congrArg Value.bool (decide_eq_false (by omega)))) rfl rfl rfl ?_
 refine WL.q (oq_assign rfl) rfl rfl rfl ?_
 refine WL.nil (WE.then_normal ?_)
 refine WC.cond_f rfl ?_
 refine WC.seq (WC.region ?_)
 refine WL.q ((oq_eql rfl rfl).to (v' := .bool false) (congrArg Value.bool (decide_eq_false (by omega)))) rfl rfl rfl ?_
 refine WL.q (oq_assign rfl) rfl rfl rfl ?_
 refine WL.nil (WE.then_normal ?_)
 refine WC.cond_f rfl ?_
 refine WC.seq (WC.region ?_)
 refine WL.q ((oq_eql rfl rfl).to (v' := .bool false) (congrArg Value.bool (decide_eq_false (by omega)))) rfl rfl rfl ?_
 refine WL.q (oq_assign rfl) rfl rfl rfl ?_
 refine WL.nil (WE.then_normal ?_)
 refine WC.cond_f rfl ?_
 refine WC.seq (WC.region ?_)
 refine WL.q ((oq_eql rfl rfl).to (v' := .bool false) (congrArg Value.bool (decide_eq_false (by omega)))) rfl rfl rfl ?_
 refine WL.q (oq_assign rfl) rfl rfl rfl ?_
 refine WL.nil (WE.then_normal ?_)
 refine WC.cond_f rfl ?_
 refine WC.seq (WC.region ?_)
 refine WL.q ((oq_eql rfl rfl).to (v' := .bool false) (congrArg Value.bool (decide_eq_false (by omega)))) rfl rfl rfl ?_
 refine WL.q (oq_assign rfl) rfl rfl rfl ?_
 refine WL.nil (WE.then_normal ?_)
 refine WC.cond_f rfl ?_
 refine WC.seq (WC.region ?_)
 refine WL.q ((oq_eql rfl rfl).to (v' := .bool false) (congrArg Value.bool (decide_eq_false (by omega)))) rfl rfl rfl ?_
 refine WL.q (oq_assign rfl) rfl rfl rfl ?_
 refine WL.nil (WE.then_normal ?_)
 refine WC.cond_f rfl ?_
 refine WC.seq (WC.region ?_)
 refine WL.q ((oq_eql rfl rfl).to (v' := .bool false) (congrArg Value.bool (decide_eq_false (by omega)))) rfl rfl rfl ?_
 refine WL.q (oq_assign rfl) rfl rfl rfl ?_
 refine WL.nil (WE.then_normal ?_)
 refine WC.cond_f rfl ?_
 refine WC.seq (WC.seq (WC.region ?_))
 refine WL.q ((oq_eql rfl rfl).to (v' := .bool false) (congrArg Value.bool (decide_eq_false (by omega)))) rfl rfl rfl ?_
 refine WL.q (oq_assign rfl) rfl rfl rfl ?_
 refine WL.nil (WE.then_normal ?_)
 refine WC.cond_f rfl ?_
 refine WC.region ?_
 refine WL.q ((oq_eql rfl rfl).to (v' := .bool false) (congrArg Value.bool (decide_eq_false (by omega)))) rfl rfl rfl ?_
 refine WL.q (oq_assign rfl) rfl rfl rfl ?_
 refine WL.nil (WE.then_normal ?_)
 refine WC.cond_f rfl ?_
 refine WC.skip (WE.block_normal (WE.block_normal (WE.then_normal (WC.region ?_))))
 refine WL.q (oq_move rfl) rfl rfl rfl ?_
 refine WL.q ((oq_add rfl rfl (by rw [i64_lo, i64_hi]; omega)).to (v' := I 1) rfl) rfl rfl rfl ?_
 refine WL.q (oq_assign rfl) rfl rfl rfl ?_
 refine WL.nil ?_
 refine WE.round ?_
 refine WC.sub (fr' := [(0, _), (5, _)]) ?_ ⟨rfl, rfl, trivial⟩
 refine WC.seq (WC.seq (WC.region ?_))
 refine WL.q (oq_move rfl) rfl rfl rfl ?_
 refine WL.q (oq_move rfl) rfl rfl rfl ?_
 refine WL.q ((oq_len_s Tryd.underlying9 rfl).to (v' := I 8) rfl) rfl rfl rfl ?_
 refine WL.q ((oq_lss rfl rfl).to (v' := .bool true) (congrArg Value.bool (decide_eq_true (by omega)))) rfl rfl rfl ?_
 refine WL.nil (WE.then_normal ?_)
 refine WC.cond_t rfl ?_
 refine WC.skip (WE.then_normal (WC.seq (WC.block (WC.seq (WC.region ?_)))))
 refine WL.q (oq_move rfl) rfl rfl rfl ?_
 refine WL.q (oq_move rfl) rfl rfl rfl ?_
 refine WL.q ((oq_index_s Tryd.underlying9 rfl rfl (by decide)).to (v' := .int .u8 48) rfl) rfl rfl rfl ?_
 refine WL.q (oq_conv Tryd.underlying5 Tryd.underlying3 rfl (by rw [i64_lo, i64_hi]; omega)) rfl rfl rfl ?_
 refine WL.q (oq_assign rfl) rfl rfl rfl ?_
 refine WL.nil (WE.then_normal (WC.seq (WC.region ?_)))
 refine WL.q (oq_move rfl) rfl rfl rfl ?_
 refine WL.nil (WE.then_normal (WC.block (WC.seq (WC.region ?_))))
 refine WL.q ((oq_eql rfl rfl).to (v' := .bool false) (congrArg Value.bool (decide_eq_false (by omega)))) rfl rfl rfl ?_
 refine WL.q (oq_assign rfl) rfl rfl rfl ?_
 refine WL.nil (WE.then_normal ?_)
 refine WC.cond_f rfl ?_
 refine WC.seq (WC.region ?_)
 refine WL.q ((oq_eql rfl rfl).to (v' := .bool false) (congrArg Value.bool (decide_eq_false (by omega)))) rfl rfl rfl ?_
 refine WL.q (oq_assign rfl) rfl rfl rfl ?_
 refine WL.nil (WE.then_normal (WC.sub (fr' := [(0, _), (5, _), (6, _), (21, _), (70, _)]) ?_ ⟨rfl, rfl, rfl, rfl, rfl, trivial⟩))
 refine WC.cond_f rfl ?_
 refine WC.seq (WC.region ?_)
 refine WL.q ((oq_eql rfl rfl).to (v' := .bool true) (congrArg Value.bool (decide_eq_true (by omega)))) rfl rfl rfl ?_
 refine WL.q (oq_assign rfl) rfl rfl rfl ?_
 refine WL.nil (WE.then_normal ?_)
 refine WC.cond_t rfl ?_
 refine WC.seq (WC.seq (WC.region ?_))
 refine WL.q (oq_move rfl) rfl rfl rfl ?_
 refine WL.q ((oq_len_s Tryd.underlying9 rfl).to (v' := I 8) rfl) rfl rfl rfl ?_
 refine WL.q (oq_move rfl) rfl rfl rfl ?_
 refine WL.q ((oq_add rfl rfl (by rw [i64_lo, i64_hi]; omega)).to (v' := I 3) rfl) rfl rfl rfl ?_
 refine WL.q ((oq_geq rfl rfl).to (v' := .bool true) (congrArg Value.bool (decide_eq_true (by omega)))) rfl rfl rfl ?_
 refine WL.q (oq_move rfl) rfl rfl rfl ?_
 refine WL.q (oq_move rfl) rfl rfl rfl ?_
 refine WL.q (oq_move rfl) rfl rfl rfl ?_
 refine WL.q ((oq_add rfl rfl (by rw [i64_lo, i64_hi]; omega)).to (v' := I 2) rfl) rfl rfl rfl ?_
 refine WL.q ((oq_index_s Tryd.underlying9 rfl rfl (by decide)).to (v' := .int .u8 53) rfl) rfl rfl rfl ?_
 refine WL.q ((oq_leq rfl rfl).to (v' := .bool true) (congrArg Value.bool (decide_eq_true (by omega)))) rfl rfl rfl ?_
 refine WL.q (oq_pick_t rfl rfl) rfl rfl rfl ?_
 refine WL.q (oq_move rfl) rfl rfl rfl ?_
 refine WL.q (oq_move rfl) rfl rfl rfl ?_
 refine WL.q (oq_move rfl) rfl rfl rfl ?_
 refine WL.q ((oq_add rfl rfl (by rw [i64_lo, i64_hi]; omega)).to (v' := I 2) rfl) rfl rfl rfl ?_
 refine WL.q ((oq_index_s Tryd.underlying9 rfl rfl (by decide)).to (v' := .int .u8 53) rfl) rfl rfl rfl ?_
 refine WL.q ((oq_leq rfl rfl).to (v' := .bool true) (congrArg Value.bool (decide_eq_true (by omega)))) rfl rfl rfl ?_
 refine WL.q (oq_pick_t rfl rfl) rfl rfl rfl ?_
 refine WL.nil (WE.then_normal ?_)
 refine WC.cond_t rfl ?_
 refine WC.seq (WC.quiet (by kernel_rfl) (by kernel_rfl) ?_)
 refine WQ.q (oq_move rfl) rfl rfl rfl ?_
 refine WQ.q (oq_move rfl) rfl rfl rfl ?_
 refine WQ.q ((oq_slice_s2 Tryd.underlying9 rfl rfl rfl (by decide)).to (v' := S [58]) rfl) rfl rfl rfl ?_
 refine WQ.q (oq_move rfl) rfl rfl rfl ?_
 refine WQ.q (oq_move rfl) rfl rfl rfl ?_
 refine WQ.q ((oq_add rfl rfl (by rw [i64_lo, i64_hi]; omega)).to (v' := I 2) rfl) rfl rfl rfl ?_
 refine WQ.q ((oq_index_s Tryd.underlying9 rfl rfl (by decide)).to (v' := .int .u8 53) rfl) rfl rfl rfl ?_
 refine WQ.q ((oq_sub rfl rfl (by rw [u8_lo, u8_hi]; omega)).to (v' := .int .u8 4) rfl) rfl rfl rfl ?_
 refine WQ.q (oq_ixArr (i := 4) (b := 3) (off := 0) Tryd.underlying85 ty3 rfl rfl (by decide)) rfl rfl rfl ?_
 refine WQ.q ((oq_load flat3 rfl (.head _) hm rfl).to (v' := I 1042) rfl) rfl rfl rfl ?_
 refine WQ.q (oq_move rfl) rfl rfl rfl ?_
 refine WQ.q (oq_move rfl) rfl rfl rfl ?_
 refine WQ.q ((oq_add rfl rfl (by rw [i64_lo, i64_hi]; omega)).to (v' := I 3) rfl) rfl rfl rfl ?_
 refine WQ.q ((oq_slice_s1 Tryd.underlying9 rfl rfl (by decide)).to (v' := S [32, 50, 48, 48, 54]) rfl) rfl rfl rfl ?_
 refine WQ.q (oq_assign rfl) rfl rfl rfl ?_
 refine WQ.q (oq_assign rfl) rfl rfl rfl ?_
 refine WQ.q (oq_assign rfl) rfl rfl rfl ?_
 refine WQ.nil (WE.then_normal (WC.ret (WE.then_ret (WE.block_ret (WE.block_ret (WE.then_ret (WE.then_ret (WE.block_ret (WE.then_ret ?_)))))))))
 refine WE.endR (.inl rfl) (res3 Tryd.results35 rfl rfl rfl) ?_
 rfl
set_option maxHeartbeats 2000000 in
theorem ch26 (G : Hp) (hT : Tab0 G) : FnR Tryd.prog 35 [S [77, 111, 110, 44, 32, 95, 50, 32, 74, 97, 110, 32, 48, 54, 32, 49, 53, 58, 48, 52, 58, 48, 53, 32, 71, 77, 84]] G (.tuple #[S [], I 262, S [44, 32, 95, 50, 32, 74, 97, 110, 32, 48, 54, 32, 49, 53, 58, 48, 52, 58, 48, 53, 32, 71, 77, 84]]) := by
 obtain ⟨t0, f0, hm⟩ := hT
 refine FnR.enter (n := 654) Tryd.func35 rfl rfl fun w0 => ?_
 refine WC.sub (fr' := [(0, _)]) ?_ ⟨rfl, trivial⟩
 refine WC.seq (WC.region ?_)
 refine WL.q (oq_assign rfl) rfl rfl rfl ?_
 refine WL.q (oq_assign rfl) rfl rfl rfl ?_
 refine WL.q (oq_assign rfl) rfl rfl rfl ?_
 refine WL.nil (WE.then_normal (WC.seq (WC.seq (WC.region ?_))))
 refine WL.q (oq_assign rfl) rfl rfl rfl ?_
 refine WL.nil (WE.then_normal (WC.block ?_))
 refine WC.unroll ?_
 refine WC.seq (WC.seq (WC.region ?_))
 refine WL.q (oq_move rfl) rfl rfl rfl ?_
 refine WL.q (oq_move rfl) rfl rfl rfl ?_
 refine WL.q ((oq_len_s Tryd.underlying9 rfl).to (v' := I 27) rfl) rfl rfl rfl ?_
 refine WL.q ((oq_lss rfl rfl).to (v' := .bool true) (congrArg Value.bool (decide_eq_true (by omega)))) rfl rfl rfl ?_
 refine WL.nil (WE.then_normal ?_)
 refine WC.cond_t rfl ?_
 refine WC.skip (WE.then_normal (WC.seq (WC.block (WC.seq (WC.region ?_)))))
 refine WL.q (oq_move rfl) rfl rfl rfl ?_
 refine WL.q (oq_move rfl) rfl rfl rfl ?_
 refine WL.q ((oq_index_s Tryd.underlying9 rfl rfl (by decide)).to (v' := .int .u8 77) rfl) rfl rfl rfl ?_
 refine WL.q (oq_conv Tryd.underlying5 Tryd.underlying3 rfl (by rw [i64_lo, i64_hi]; omega)) rfl rfl rfl ?_
 refine WL.q (oq_assign rfl) rfl rfl rfl ?_
 refine WL.nil (WE.then_normal (WC.seq (WC.region ?_)))
 refine WL.q (oq_move rfl) rfl rfl rfl ?_
 refine WL.nil (WE.then_normal (WC.block (WC.seq (WC.region ?_))))
 refine WL.q ((oq_eql rfl rfl).to (v' := .bool false) (congrArg Value.bool (decide_eq_false (by omega)))) rfl rfl rfl ?_
 refine WL.q (oq_assign rfl) rfl rfl rfl ?_
 refine WL.nil (WE.then_normal ?_)
 refine WC.cond_f rfl ?_
 refine WC.seq (WC.region ?_)
 refine WL.q ((oq_eql rfl rfl).to (v' := .bool true) (congrArg Value.bool (decide_eq_true (by omega)))) rfl rfl rfl ?_
 refine WL.q (oq_assign rfl) rfl rfl rfl ?_
 refine WL.nil (WE.then_normal ?_)
 refine WC.cond_t rfl ?_
 refine WC.seq (WC.region ?_)
 refine WL.q (oq_move rfl) rfl rfl rfl ?_
 refine WL.q ((oq_len_s Tryd.underlying9 rfl).to (v' := I 27) rfl) rfl rfl rfl ?_
 refine WL.q (oq_move rfl) rfl rfl rfl ?_
 refine WL.q ((oq_add rfl rfl (by rw [i64_lo, i64_hi]; omega)).to (v' := I 3) rfl) rfl rfl rfl ?_
 refine WL.q ((oq_geq rfl rfl).to (v' := .bool true) (congrArg Value.bool (decide_eq_true (by omega)))) rfl rfl rfl ?_
 refine WL.nil (WE.then_normal ?_)
 refine WC.cond_t rfl ?_
 refine WC.seq (WC.seq (WC.region ?_))
 refine WL.q (oq_move rfl) rfl rfl rfl ?_
 refine WL.q (oq_move rfl) rfl rfl rfl ?_
 refine WL.q (oq_move rfl) rfl rfl rfl ?_
 refine WL.q ((oq_add rfl rfl (by rw [i64_lo, i64_hi]; omega)).to (v' := I 3) rfl) rfl rfl rfl ?_
 refine WL.q ((oq_slice_s2 Tryd.underlying9 rfl rfl rfl (by decide)).to (v' := S [77, 111, 110]) rfl) rfl rfl rfl ?_
 refine WL.q ((oq_seql rfl rfl).to (v' := .bool true) (by kernel_rfl)) rfl rfl rfl ?_
 refine WL.nil (WE.then_normal ?_)
 refine WC.cond_t rfl ?_
 refine WC.seq (WC.seq (WC.region ?_))
 refine WL.q (oq_move rfl) rfl rfl rfl ?_
 refine WL.q ((oq_len_s Tryd.underlying9 rfl).to (v' := I 27) rfl) rfl rfl rfl ?_
 refine WL.q (oq_move rfl) rfl rfl rfl ?_
 refine WL.q ((oq_add rfl rfl (by rw [i64_lo, i64_hi]; omega)).to (v' := I 6) rfl) rfl rfl rfl ?_
 refine WL.q ((oq_geq rfl rfl).to (v' := .bool true) (congrArg Value.bool (decide_eq_true (by omega)))) rfl rfl rfl ?_
 refine WL.q (oq_move rfl) rfl rfl rfl ?_
 refine WL.q (oq_move rfl) rfl rfl rfl ?_
 refine WL.q (oq_move rfl) rfl rfl rfl ?_
 refine WL.q (oq_move rfl) rfl rfl rfl ?_
 refine WL.q ((oq_add rfl rfl (by rw [i64_lo, i64_hi]; omega)).to (v' := I 6) rfl) rfl rfl rfl ?_
 refine WL.q ((oq_slice_s2 Tryd.underlying9 rfl rfl rfl (by decide)).to (v' := S [77, 111, 110, 44, 32, 95]) rfl) rfl rfl rfl ?_
 refine WL.q ((oq_seql rfl rfl).to (v' := .bool false) (by kernel_rfl)) rfl rfl rfl ?_
 refine WL.q (oq_pick_t rfl rfl) rfl rfl rfl ?_
 refine WL.nil (WE.then_normal ?_)
 refine WC.cond_f rfl ?_
 refine WC.skip (WE.then_normal (WC.seq (WC.region ?_)))
 refine WL.q (oq_move rfl) rfl rfl rfl ?_
 refine WL.q (oq_move rfl) rfl rfl rfl ?_
 refine WL.q ((oq_add rfl rfl (by rw [i64_lo, i64_hi]; omega)).to (v' := I 3) rfl) rfl rfl rfl ?_
 refine WL.q ((oq_slice_s1 Tryd.underlying9 rfl rfl (by decide)).to (v' := S [44, 32, 95, 50, 32, 74, 97, 110, 32, 48, 54, 32, 49, 53, 58, 48, 52, 58, 48, 53, 32, 71, 77, 84]) rfl) rfl rfl rfl ?_
 refine WL.qc (oq_call (swlF 44 [32, 95, 50, 32, 74, 97, 110, 32, 48, 54, 32, 49, 53, 58, 48, 52, 58, 48, 53, 32, 71, 77, 84] (by decide) (by decide)) call51 rfl) rfl rfl rfl ?_
 refine WL.q ((oq_not rfl).to (v' := .bool true) rfl) rfl rfl rfl ?_
 refine WL.nil (WE.then_normal ?_)
 refine WC.cond_t rfl ?_
 refine WC.seq (WC.quiet (by kernel_rfl) (by kernel_rfl) ?_)
 refine WQ.q (oq_move rfl) rfl rfl rfl ?_
 refine WQ.q (oq_move rfl) rfl rfl rfl ?_
 refine WQ.q ((oq_slice_s2 Tryd.underlying9 rfl rfl rfl (by decide)).to (v' := S []) rfl) rfl rfl rfl ?_
 refine WQ.q (oq_move rfl) rfl rfl rfl ?_
 refine WQ.q (oq_move rfl) rfl rfl rfl ?_
 refine WQ.q ((oq_add rfl rfl (by rw [i64_lo, i64_hi]; omega)).to (v' := I 3) rfl) rfl rfl rfl ?_
 refine WQ.q ((oq_slice_s1 Tryd.underlying9 rfl rfl (by decide)).to (v' := S [44, 32, 95, 50, 32, 74, 97, 110, 32, 48, 54, 32, 49, 53, 58, 48, 52, 58, 48, 53, 32, 71, 77, 84]) rfl) rfl rfl rfl ?_
 refine WQ.q (oq_assign rfl) rfl rfl rfl ?_
 refine WQ.q (oq_assign rfl) rfl rfl rfl ?_
 refine WQ.q (oq_assign rfl) rfl rfl rfl ?_
 refine WQ.nil (WE.then_normal (WC.ret (WE.then_ret (WE.block_ret (WE.block_ret (WE.then_ret (WE.then_ret (WE.block_ret (WE.then_ret ?_)))))))))
 refine WE.endR (.inl rfl) (res3 Tryd.results35 rfl rfl rfl) ?_
 rfl
end TX2
end Go.Proofs.YtcfhfdengfcfpaaDoor
/- The pieces of the layouts, part 3. -/
namespace Go.Proofs.YtcfhfdengfcfpaaDoor
open Go Go.RowKit V T9
set_option linter.unusedSimpArgs false
set_option linter.unusedVariables false
set_option maxRecDepth 10000
namespace TX3
theorem flat3 : Flat Tryd.prog 3 := ⟨_, Tryd.underlying3, by simp⟩
theorem ty3 : Ty Tryd.prog 3 (.int .i64 0) 1 8 := ty_of (by kernel_rfl)
set_option maxHeartbeats 2000000 in
theorem ch3 (G : Hp) (hT : Tab0 G) : FnR Tryd.prog 35 [S [32, 50, 48, 48, 54, 32, 49, 53, 58, 48, 52, 58, 48, 53, 32, 71, 77, 84]] G (.tuple #[S [32], I 275, S [32, 49, 53, 58, 48, 52, 58, 48, 53, 32, 71, 77, 84]]) := by
 obtain ⟨t0, f0, hm⟩ := hT
 refine FnR.enter (n := 654) Tryd.func35 rfl rfl fun w0 => ?_
 refine WC.sub (fr' := [(0, _)]) ?_ ⟨rfl, trivial⟩
 refine WC.seq (WC.region ?_)
 refine WL.q (oq_assign rfl) rfl rfl rfl ?_
 refine WL.q (oq_assign rfl) rfl rfl rfl ?_
 refine WL.q (oq_assign rfl) rfl rfl rfl ?_
 refine WL.nil (WE.then_normal (WC.seq (WC.seq (WC.region ?_))))
 refine WL.q (oq_assign rfl) rfl rfl rfl ?_
 refine WL.nil (WE.then_normal (WC.block ?_))
 refine WC.unroll ?_
 refine WC.seq (WC.seq (WC.region ?_))
 refine WL.q (oq_move rfl) rfl rfl rfl ?_
 refine WL.q (oq_move rfl) rfl rfl rfl ?_
 refine WL.q ((oq_len_s Tryd.underlying9 rfl).to (v' := I 18) rfl) rfl rfl rfl ?_
 refine WL.q ((oq_lss rfl rfl).to (v' := .bool true) (congrArg Value.bool (decide_eq_true (by omega)))) rfl rfl rfl ?_
 refine WL.nil (WE.then_normal ?_)
 refine WC.cond_t rfl ?_
 refine WC.skip (WE.then_normal (WC.seq (WC.block (WC.seq (WC.region ?_)))))
 refine WL.q (oq_move rfl) rfl rfl rfl ?_
 refine WL.q (oq_move rfl) rfl rfl rfl ?_
 refine WL.q ((oq_index_s Tryd.underlying9 rfl rfl (by decide)).to (v' := .int .u8 32) rfl) rfl rfl rfl ?_
 refine WL.q (oq_conv Tryd.underlying5 Tryd.underlying3 rfl (by rw [i64_lo, i64_hi]; omega)) rfl rfl rfl ?_
 refine WL.q (oq_assign rfl) rfl rfl rfl ?_
 refine WL.nil (WE.then_normal (WC.seq (WC.region ?_)))
 refine WL.q (oq_move rfl) rfl rfl rfl ?_
 refine WL.nil (WE.then_normal (WC.block (WC.seq (WC.region ?_))))
 refine WL.q ((oq_eql rfl rfl).to (v' := .bool false) (congrArg Value.bool (decide_eq_false (by omega)))) rfl rfl rfl ?_
 refine WL.q (oq_assign rfl) rfl rfl rfl ?_
 refine WL.nil (WE.then_normal ?_)
 refine WC.cond_f rfl ?_
 refine WC.seq (WC.region ?_)
 refine WL.q ((oq_eql rfl rfl).to (v' := .bool false) (congrArg Value.bool (decide_eq_false (by omega)))) rfl rfl rfl ?_
 refine WL.q (oq_assign rfl) rfl rfl rfl ?_
 refine WL.nil (WE.then_normal ?_)
 refine WC.cond_f rfl ?_
 refine WC.seq (WC.region ?_)
 refine WL.q ((oq_eql rfl rfl).to (v' := .bool false) (congrArg Value.bool (decide_eq_false (by omega)))) rfl rfl rfl ?_
 refine WL.q (oq_assign rfl) rfl rfl rfl ?_
 refine WL.nil (WE.then_normal ?_)
 refine WC.cond_f rfl ?_
 refine WC.seq (WC.region ?_)
 refine WL.q ((oq_eql rfl rfl).to (v' := .bool false) (congrArg Value.bool (decide_eq_false (by omega)))) rfl rfl rfl ?_
 refine WL.q (oq_assign rfl) rfl rfl rfl ?_
 refine WL.nil (WE.then_normal ?_)
 refine WC.cond_f rfl ?_
 refine WC.seq (WC.region ?_)
 refine WL.q ((oq_eql rfl rfl).to (v' := .bool false) (congrArg Value.bool (decide_eq_false (by omega)))) rfl rfl rfl ?_
 refine WL.q (oq_assign rfl) rfl rfl rfl ?_
 refine WL.nil (WE.then_normal ?_)
 refine WC.cond_f rfl ?_
 refine WC.seq (WC.region ?_)
 refine WL.q ((oq_eql rfl rfl).to (v' := .bool false) (congrArg Value.bool (decide_eq_false (by omega)))) rfl rfl rfl ?_
 refine WL.q (oq_assign rfl) rfl rfl rfl ?_
 refine WL.nil (WE.then_normal ?_)
 refine WC.cond_f rfl ?_
 refine WC.seq (WC.region ?_)
 refine WL.q ((oq_eql rfl rfl).to (v' := .bool false) (congrArg Value.bool (decide_eq_false (by omega)))) rfl rfl rfl ?_
 refine WL.q (oq_assign rfl) rfl rfl rfl ?_
 refine WL.nil (WE.then_normal ?_)
 refine WC.cond_f rfl ?_
 refine WC.seq (WC.region ?_)
 refine WL.q ((oq_eql rfl rfl).to (v' := .bool false) (congrArg Value.bool (decide_eq_false (by omega)))) rfl rfl rfl ?_
 refine WL.q (oq_assign rfl) rfl rfl rfl ?_
 refine WL.nil (WE.then_normal ?_)
 refine WC.cond_f rfl ?_
 refine WC.seq (WC.region ?_)
 refine WL.q ((oq_eql rfl rfl).to (v' := .bool false) (congrArg Value.bool (decide_eq_false (by omega)))) rfl rfl rfl ?_
 refine WL.q (oq_assign rfl) rfl rfl rfl ?_
 refine WL.nil (WE.then_normal ?_)
 refine WC.cond_f rfl ?_
 refine WC.seq (WC.region ?_)
 refine WL.q ((oq_eql rfl rfl).to (v' := .bool false) (congrArg Value.bool (decide_eq_false (by omega)))) rfl rfl rfl ?_
 refine WL.q (oq_assign rfl) rfl rfl rfl ?_
 refine WL.nil (WE.then_normal ?_)
 refine WC.cond_f rfl ?_
 refine WC.seq (WC.region ?_)
 refine WL.q ((oq_eql rfl rfl).to (v' := .bool false) (congrArg Value.bool (decide_eq_false (by omega)))) rfl rfl rfl ?_
 refine WL.q (oq_assign rfl) rfl rfl rfl ?_
 refine WL.nil (WE.then_normal ?_)
 refine WC.cond_f rfl ?_
 refine WC.seq (WC.region ?_)
 refine WL.q ((oq_eql rfl rfl).to (v' := .bool false) (congrArg Value.bool (decide_eq_false (by omega)))) rfl rfl rfl ?_
 refine WL.q (oq_assign rfl) rfl rfl rfl ?_
 refine WL.nil (WE.then_normal ?_)
 refine WC.cond_f rfl ?_
 refine WC.seq (WC.region ?_)
 refine WL.q ((oq_eql rfl rfl).to (v' := .bool false) (congrArg Value.bool (decide_eq_false (by omega)))) rfl rfl rfl ?_
 refine WL.q (oq_assign rfl) rfl rfl rfl ?_
 refine WL.nil (WE.then_normal ?_)
 refine WC.cond_f rfl ?_
 refine WC.seq (WC.seq (WC.region ?_))
 refine WL.q ((oq_eql rfl rfl).to (v' := .bool false) (congrArg Value.bool (decide_eq_false (by omega)))) rfl rfl rfl ?_
 refine WL.q (oq_assign rfl) rfl rfl rfl ?_
 refine WL.nil (WE.then_normal ?_)
 refine WC.cond_f rfl ?_
 refine WC.region ?_
 refine WL.q ((oq_eql rfl rfl).to (v' := .bool false) (congrArg Value.bool (decide_eq_false (by omega)))) rfl rfl rfl ?_
 refine WL.q (oq_assign rfl) rfl rfl rfl ?_
 refine WL.nil (WE.then_normal ?_)
 refine WC.cond_f rfl ?_
 refine WC.skip (WE.block_normal (WE.block_normal (WE.then_normal (WC.region ?_))))
 refine WL.q (oq_move rfl) rfl rfl rfl ?_
 refine WL.q ((oq_add rfl rfl (by rw [i64_lo, i64_hi]; omega)).to (v' := I 1) rfl) rfl rfl rfl ?_
 refine WL.q (oq_assign rfl) rfl rfl rfl ?_
 refine WL.nil ?_
 refine WE.round ?_
 refine WC.sub (fr' := [(0, _), (5, _)]) ?_ ⟨rfl, rfl, trivial⟩
 refine WC.seq (WC.seq (WC.region ?_))
 refine WL.q (oq_move rfl) rfl rfl rfl ?_
 refine WL.q (oq_move rfl) rfl rfl rfl ?_
 refine WL.q ((oq_len_s Tryd.underlying9 rfl).to (v' := I 18) rfl) rfl rfl rfl ?_
 refine WL.q ((oq_lss rfl rfl).to (v' := .bool true) (congrArg Value.bool (decide_eq_true (by omega)))) rfl rfl rfl ?_
 refine WL.nil (WE.then_normal ?_)
 refine WC.cond_t rfl ?_
 refine WC.skip (WE.then_normal (WC.seq (WC.block (WC.seq (WC.region ?_)))))
 refine WL.q (oq_move rfl) rfl rfl rfl ?_
 refine WL.q (oq_move rfl) rfl rfl rfl ?_
 refine WL.q ((oq_index_s Tryd.underlying9 rfl rfl (by decide)).to (v' := .int .u8 50) rfl) rfl rfl rfl ?_
 refine WL.q (oq_conv Tryd.underlying5 Tryd.underlying3 rfl (by rw [i64_lo, i64_hi]; omega)) rfl rfl rfl ?_
 refine WL.q (oq_assign rfl) rfl rfl rfl ?_
 refine WL.nil (WE.then_normal (WC.seq (WC.region ?_)))
 refine WL.q (oq_move rfl) rfl rfl rfl ?_
 refine WL.nil (WE.then_normal (WC.block (WC.seq (WC.region ?_))))
 refine WL.q ((oq_eql rfl rfl).to (v' := .bool false) (congrArg Value.bool (decide_eq_false (by omega)))) rfl rfl rfl ?_
 refine WL.q (oq_assign rfl) rfl rfl rfl ?_
 refine WL.nil (WE.then_normal ?_)
 refine WC.cond_f rfl ?_
 refine WC.seq (WC.region ?_)
 refine WL.q ((oq_eql rfl rfl).to (v' := .bool false) (congrArg Value.bool (decide_eq_false (by omega)))) rfl rfl rfl ?_
 refine WL.q (oq_assign rfl) rfl rfl rfl ?_
 refine WL.nil (WE.then_normal (WC.sub (fr' := [(0, _), (5, _), (6, _), (21, _), (70, _)]) ?_ ⟨rfl, rfl, rfl, rfl, rfl, trivial⟩))
 refine WC.cond_f rfl ?_
 refine WC.seq (WC.region ?_)
 refine WL.q ((oq_eql rfl rfl).to (v' := .bool false) (congrArg Value.bool (decide_eq_false (by omega)))) rfl rfl rfl ?_
 refine WL.q (oq_assign rfl) rfl rfl rfl ?_
 refine WL.nil (WE.then_normal ?_)
 refine WC.cond_f rfl ?_
 refine WC.seq (WC.region ?_)
 refine WL.q ((oq_eql rfl rfl).to (v' := .bool false) (congrArg Value.bool (decide_eq_false (by omega)))) rfl rfl rfl ?_
 refine WL.q (oq_assign rfl) rfl rfl rfl ?_
 refine WL.nil (WE.then_normal ?_)
 refine WC.cond_f rfl ?_
 refine WC.seq (WC.region ?_)
 refine WL.q ((oq_eql rfl rfl).to (v' := .bool true) (congrArg Value.bool (decide_eq_true (by omega)))) rfl rfl rfl ?_
 refine WL.q (oq_assign rfl) rfl rfl rfl ?_
 refine WL.nil (WE.then_normal ?_)
 refine WC.cond_t rfl ?_
 refine WC.seq (WC.seq (WC.region ?_))
 refine WL.q (oq_move rfl) rfl rfl rfl ?_
 refine WL.q ((oq_len_s Tryd.underlying9 rfl).to (v' := I 18) rfl) rfl rfl rfl ?_
 refine WL.q (oq_move rfl) rfl rfl rfl ?_
 refine WL.q ((oq_add rfl rfl (by rw [i64_lo, i64_hi]; omega)).to (v' := I 5) rfl) rfl rfl rfl ?_
 refine WL.q ((oq_geq rfl rfl).to (v' := .bool true) (congrArg Value.bool (decide_eq_true (by omega)))) rfl rfl rfl ?_
 refine WL.q (oq_move rfl) rfl rfl rfl ?_
 refine WL.q (oq_move rfl) rfl rfl rfl ?_
 refine WL.q (oq_move rfl) rfl rfl rfl ?_
 refine WL.q (oq_move rfl) rfl rfl rfl ?_
 refine WL.q ((oq_add rfl rfl (by rw [i64_lo, i64_hi]; omega)).to (v' := I 5) rfl) rfl rfl rfl ?_
 refine WL.q ((oq_slice_s2 Tryd.underlying9 rfl rfl rfl (by decide)).to (v' := S [50, 48, 48, 54]) rfl) rfl rfl rfl ?_
 refine WL.q ((oq_seql rfl rfl).to (v' := .bool true) (by kernel_rfl)) rfl rfl rfl ?_
 refine WL.q (oq_pick_t rfl rfl) rfl rfl rfl ?_
 refine WL.nil (WE.then_normal ?_)
 refine WC.cond_t rfl ?_
 refine WC.seq (WC.quiet (by kernel_rfl) (by kernel_rfl) ?_)
 refine WQ.q (oq_move rfl) rfl rfl rfl ?_
 refine WQ.q (oq_move rfl) rfl rfl rfl ?_
 refine WQ.q ((oq_slice_s2 Tryd.underlying9 rfl rfl rfl (by decide)).to (v' := S [32]) rfl) rfl rfl rfl ?_
 refine WQ.q (oq_move rfl) rfl rfl rfl ?_
 refine WQ.q (oq_move rfl) rfl rfl rfl ?_
 refine WQ.q ((oq_add rfl rfl (by rw [i64_lo, i64_hi]; omega)).to (v' := I 5) rfl) rfl rfl rfl ?_
 refine WQ.q ((oq_slice_s1 Tryd.underlying9 rfl rfl (by decide)).to (v' := S [32, 49, 53, 58, 48, 52, 58, 48, 53, 32, 71, 77, 84]) rfl) rfl rfl rfl ?_
 refine WQ.q (oq_assign rfl) rfl rfl rfl ?_
 refine WQ.q (oq_assign rfl) rfl rfl rfl ?_
 refine WQ.q (oq_assign rfl) rfl rfl rfl ?_
 refine WQ.nil (WE.then_normal (WC.ret (WE.then_ret (WE.block_ret (WE.block_ret (WE.then_ret (WE.then_ret (WE.block_ret (WE.then_ret ?_)))))))))
 refine WE.endR (.inl rfl) (res3 Tryd.results35 rfl rfl rfl) ?_
 rfl
set_option maxHeartbeats 2000000 in
theorem ch7 (G : Hp) (hT : Tab0 G) : FnR Tryd.prog 35 [S [32, 71, 77, 84]] G (.tuple #[S [32, 71, 77, 84], I 0, S []]) := by
 obtain ⟨t0, f0, hm⟩ := hT
 refine FnR.enter (n := 654) Tryd.func35 rfl rfl fun w0 => ?_
 refine WC.sub (fr' := [(0, _)]) ?_ ⟨rfl, trivial⟩
 refine WC.seq (WC.region ?_)
 refine WL.q (oq_assign rfl) rfl rfl rfl ?_
 refine WL.q (oq_assign rfl) rfl rfl rfl ?_
 refine WL.q (oq_assign rfl) rfl rfl rfl ?_
 refine WL.nil (WE.then_normal (WC.seq (WC.seq (WC.region ?_))))
 refine WL.q (oq_assign rfl) rfl rfl rfl ?_
 refine WL.nil (WE.then_normal (WC.block ?_))
 refine WC.unroll ?_
 refine WC.seq (WC.seq (WC.region ?_))
 refine WL.q (oq_move rfl) rfl rfl rfl ?_
 refine WL.q (oq_move rfl) rfl rfl rfl ?_
 refine WL.q ((oq_len_s Tryd.underlying9 rfl).to (v' := I 4) rfl) rfl rfl rfl ?_
 refine WL.q ((oq_lss rfl rfl).to (v' := .bool true) (congrArg Value.bool (decide_eq_true (by omega)))) rfl rfl rfl ?_
 refine WL.nil (WE.then_normal ?_)
 refine WC.cond_t rfl ?_
 refine WC.skip (WE.then_normal (WC.seq (WC.block (WC.seq (WC.region ?_)))))
 refine WL.q (oq_move rfl) rfl rfl rfl ?_
 refine WL.q (oq_move rfl) rfl rfl rfl ?_
 refine WL.q ((oq_index_s Tryd.underlying9 rfl rfl (by decide)).to (v' := .int .u8 32) rfl) rfl rfl rfl ?_
 refine WL.q (oq_conv Tryd.underlying5 Tryd.underlying3 rfl (by rw [i64_lo, i64_hi]; omega)) rfl rfl rfl ?_
 refine WL.q (oq_assign rfl) rfl rfl rfl ?_
 refine WL.nil (WE.then_normal (WC.seq (WC.region ?_)))
 refine WL.q (oq_move rfl) rfl rfl rfl ?_
 refine WL.nil (WE.then_normal (WC.block (WC.seq (WC.region ?_))))
 refine WL.q ((oq_eql rfl rfl).to (v' := .bool false) (congrArg Value.bool (decide_eq_false (by omega)))) rfl rfl rfl ?_
 refine WL.q (oq_assign rfl) rfl rfl rfl ?_
 refine WL.nil (WE.then_normal ?_)
 refine WC.cond_f rfl ?_
 refine WC.seq (WC.region ?_)
 refine WL.q ((oq_eql rfl rfl).to (v' := .bool false) (congrArg Value.bool (decide_eq_false (by omega)))) rfl rfl rfl ?_
 refine WL.q (oq_assign rfl) rfl rfl rfl ?_
 refine WL.nil (WE.then_normal ?_)
 refine WC.cond_f rfl ?_
 refine WC.seq (WC.region ?_)
 refine WL.q ((oq_eql rfl rfl).to (v' := .bool false) (congrArg Value.bool (decide_eq_false (by omega)))) rfl rfl rfl ?_
 refine WL.q (oq_assign rfl) rfl rfl rfl ?_
 refine WL.nil (WE.then_normal ?_)
 refine WC.cond_f rfl ?_
 refine WC.seq (WC.region ?_)
 refine WL.q ((oq_eql rfl rfl).to (v' := .bool false) (congrArg Value.bool (decide_eq_false (by omega)))) rfl rfl rfl ?_
 refine WL.q (oq_assign rfl) rfl rfl rfl ?_
 refine WL.nil (WE.then_normal ?_)
 refine WC.cond_f rfl ?_
 refine WC.seq (WC.region ?_)
 refine WL.q ((oq_eql rfl rfl).to (v' := .bool false) (congrArg Value.bool (decide_eq_false (by omega)))) rfl rfl rfl ?_
 refine WL.q (oq_assign rfl) rfl rfl rfl ?_
 refine WL.nil (WE.then_normal ?_)
 refine WC.cond_f rfl ?_
 refine WC.seq (WC.region ?_)
 refine WL.q ((oq_eql rfl rfl).to (v' := .bool false) (congrArg Value.bool (decide_eq_false (by omega)))) rfl rfl rfl ?_
 refine WL.q (oq_assign rfl) rfl rfl rfl ?_
 refine WL.nil (WE.then_normal ?_)
 refine WC.cond_f rfl ?_
 refine WC.seq (WC.region ?_)
 refine WL.q ((oq_eql rfl rfl).to (v' := .bool false) (congrArg Value.bool (decide_eq_false (by omega)))) rfl rfl rfl ?_
 refine WL.q (oq_assign rfl) rfl rfl rfl ?_
 refine WL.nil (WE.then_normal ?_)
 refine WC.cond_f rfl ?_
 refine WC.seq (WC.region ?_)
 refine WL.q ((oq_eql rfl rfl).to (v' := .bool false) (congrArg Value.bool (decide_eq_false (by omega)))) rfl rfl rfl ?_
 refine WL.q (oq_assign rfl) rfl rfl rfl ?_
 refine WL.nil (WE.then_normal ?_)
 refine WC.cond_f rfl ?_
 refine WC.seq (WC.region ?_)
 refine WL.q ((oq_eql rfl rfl).to (v' := .bool false) (congrArg Value.bool (decide_eq_false (by omega)))) rfl rfl rfl ?_
 refine WL.q (oq_assign rfl) rfl rfl rfl ?_
 refine WL.nil (WE.then_normal ?_)
 refine WC.cond_f rfl ?_
 refine WC.seq (WC.region ?_)
 refine WL.q ((oq_eql rfl rfl).to (v' := .bool false) (congrArg Value.bool (decide_eq_false (by omega)))) rfl rfl rfl ?_
 refine WL.q (oq_assign rfl) rfl rfl rfl ?_
 refine WL.nil (WE.then_normal ?_)
 refine WC.cond_f rfl ?_
 refine WC.seq (WC.region ?_)
 refine WL.q ((oq_eql rfl rfl).to (v' := .bool false) (congrArg Value.bool (decide_eq_false (by omega)))) rfl rfl rfl ?_
 refine WL.q (oq_assign rfl) rfl rfl rfl ?_
 refine WL.nil (WE.then_normal ?_)
 refine WC.cond_f rfl ?_
 refine WC.seq (WC.region ?_)
 refine WL.q ((oq_eql rfl rfl).to (v' := .bool false) (congrArg Value.bool (decide_eq_false (by omega)))) rfl rfl rfl ?_
 refine WL.q (oq_assign rfl) rfl rfl rfl ?_
 refine WL.nil (WE.then_normal ?_)
 refine WC.cond_f rfl ?_
 refine WC.seq (WC.region ?_)
 refine WL.q ((oq_eql rfl rfl).to (v' := .bool false) (congrArg Value.bool (decide_eq_false (by omega)))) rfl rfl rfl ?_
 refine WL.q (oq_assign rfl) rfl rfl rfl ?_
 refine WL.nil (WE.then_normal ?_)
 refine WC.cond_f rfl ?_
 refine WC.seq (WC.seq (WC.region ?_))
 refine WL.q ((oq_eql rfl rfl).to (v' := .bool false) (congrArg Value.bool (decide_eq_false (by omega)))) rfl rfl rfl ?_
 refine WL.q (oq_assign rfl) rfl rfl rfl ?_
 refine WL.nil (WE.then_normal ?_)
 refine WC.cond_f rfl ?_
 refine WC.region ?_
 refine WL.q ((oq_eql rfl rfl).to (v' := .bool false) (congrArg Value.bool (decide_eq_false (by omega)))) rfl rfl rfl ?_
 refine WL.q (oq_assign rfl) rfl rfl rfl ?_
 refine WL.nil (WE.then_normal ?_)
 refine WC.cond_f rfl ?_
 refine WC.skip (WE.block_normal (WE.block_normal (WE.then_normal (WC.region ?_))))
 refine WL.q (oq_move rfl) rfl rfl rfl ?_
 refine WL.q ((oq_add rfl rfl (by rw [i64_lo, i64_hi]; omega)).to (v' := I 1) rfl) rfl rfl rfl ?_
 refine WL.q (oq_assign rfl) rfl rfl rfl ?_
 refine WL.nil ?_
 refine WE.round ?_
 refine WC.sub (fr' := [(0, _), (5, _)]) ?_ ⟨rfl, rfl, trivial⟩
 refine WC.seq (WC.seq (WC.region ?_))
 refine WL.q (oq_move rfl) rfl rfl rfl ?_
 refine WL.q (oq_move rfl) rfl rfl rfl ?_
 refine WL.q ((oq_len_s Tryd.underlying9 rfl).to (v' := I 4) rfl) rfl rfl rfl ?_
 refine WL.q ((oq_lss rfl rfl).to (v' := .bool true) (congrArg Value.bool (decide_eq_true (by omega)))) rfl rfl rfl ?_
 refine WL.nil (WE.then_normal ?_)
 refine WC.cond_t rfl ?_
 refine WC.skip (WE.then_normal (WC.seq (WC.block (WC.seq (WC.region ?_)))))
 refine WL.q (oq_move rfl) rfl rfl rfl ?_
 refine WL.q (oq_move rfl) rfl rfl rfl ?_
 refine WL.q ((oq_index_s Tryd.underlying9 rfl rfl (by decide)).to (v' := .int .u8 71) rfl) rfl rfl rfl ?_
 refine WL.q (oq_conv Tryd.underlying5 Tryd.underlying3 rfl (by rw [i64_lo, i64_hi]; omega)) rfl rfl rfl ?_
 refine WL.q (oq_assign rfl) rfl rfl rfl ?_
 refine WL.nil (WE.then_normal (WC.seq (WC.region ?_)))
 refine WL.q (oq_move rfl) rfl rfl rfl ?_
 refine WL.nil (WE.then_normal (WC.block (WC.seq (WC.region ?_))))
 refine WL.q ((oq_eql rfl rfl).to (v' := .bool false) (congrArg Value.bool (decide_eq_false (by omega)))) rfl rfl rfl ?_
 refine WL.q (oq_assign rfl) rfl rfl rfl ?_
 refine WL.nil (WE.then_normal ?_)
 refine WC.cond_f rfl ?_
 refine WC.seq (WC.region ?_)
 refine WL.q ((oq_eql rfl rfl).to (v' := .bool false) (congrArg Value.bool (decide_eq_false (by omega)))) rfl rfl rfl ?_
 refine WL.q (oq_assign rfl) rfl rfl rfl ?_
 refine WL.nil (WE.then_normal (WC.sub (fr' := [(0, _), (5, _), (6, _), (21, _), (70, _)]) ?_ ⟨rfl, rfl, rfl, rfl, rfl, trivial⟩))
 refine WC.cond_f rfl ?_
 refine WC.seq (WC.region ?_)
 refine WL.q ((oq_eql rfl rfl).to (v' := .bool false) (congrArg Value.bool (decide_eq_false (by omega)))) rfl rfl rfl ?_
 refine WL.q (oq_assign rfl) rfl rfl rfl ?_
 refine WL.nil (WE.then_normal ?_)
 refine WC.cond_f rfl ?_
 refine WC.seq (WC.region ?_)
 refine WL.q ((oq_eql rfl rfl).to (v' := .bool false) (congrArg Value.bool (decide_eq_false (by omega)))) rfl rfl rfl ?_
 refine WL.q (oq_assign rfl) rfl rfl rfl ?_
 refine WL.nil (WE.then_normal ?_)
 refine WC.cond_f rfl ?_
 refine WC.seq (WC.region ?_)
 refine WL.q ((oq_eql rfl rfl).to (v' := .bool false) (congrArg Value.bool (decide_eq_false (by omega)))) rfl rfl rfl ?_
 refine WL.q (oq_assign rfl) rfl rfl rfl ?_
 refine WL.nil (WE.then_normal ?_)
 refine WC.cond_f rfl ?_
 refine WC.seq (WC.region ?_)
 refine WL.q ((oq_eql rfl rfl).to (v' := .bool false) (congrArg Value.bool (decide_eq_false (by omega)))) rfl rfl rfl ?_
 refine WL.q (oq_assign rfl) rfl rfl rfl ?_
 refine WL.nil (WE.then_normal ?_)
 refine WC.cond_f rfl ?_
 refine WC.seq (WC.region ?_)
 refine WL.q ((oq_eql rfl rfl).to (v' := .bool false) (congrArg Value.bool (decide_eq_false (by omega)))) rfl rfl rfl ?_
 refine WL.q (oq_assign rfl) rfl rfl rfl ?_
 refine WL.nil (WE.then_normal ?_)
 refine WC.cond_f rfl ?_
 refine WC.seq (WC.region ?_)
 refine WL.q ((oq_eql rfl rfl).to (v' := .bool false) (congrArg Value.bool (decide_eq_false (by omega)))) rfl rfl rfl ?_
 refine WL.q (oq_assign rfl) rfl rfl rfl ?_
 refine WL.nil (WE.then_normal ?_)
 refine WC.cond_f rfl ?_
 refine WC.seq (WC.region ?_)
 refine WL.q ((oq_eql rfl rfl).to (v' := .bool false) (congrArg Value.bool (decide_eq_false (by omega)))) rfl rfl rfl ?_
 refine WL.q (oq_assign rfl) rfl rfl rfl ?_
 refine WL.nil (WE.then_normal ?_)
 refine WC.cond_f rfl ?_
 refine WC.seq (WC.region ?_)
 refine WL.q ((oq_eql rfl rfl).to (v' := .bool false) (congrArg Value.bool (decide_eq_false (by omega)))) rfl rfl rfl ?_
 refine WL.q (oq_assign rfl) rfl rfl rfl ?_
 refine WL.nil (WE.then_normal ?_)
 refine WC.cond_f rfl ?_
 refine WC.seq (WC.region ?_)
 refine WL.q ((oq_eql rfl rfl).to (v' := .bool false) (congrArg Value.bool (decide_eq_false (by omega)))) rfl rfl rfl ?_
 refine WL.q (oq_assign rfl) rfl rfl rfl ?_
 refine WL.nil (WE.then_normal ?_)
 refine WC.cond_f rfl ?_
 refine WC.seq (WC.region ?_)
 refine WL.q ((oq_eql rfl rfl).to (v' := .bool false) (congrArg Value.bool (decide_eq_false (by omega)))) rfl rfl rfl ?_
 refine WL.q (oq_assign rfl) rfl rfl rfl ?_
 refine WL.nil (WE.then_normal ?_)
 refine WC.cond_f rfl ?_
 refine WC.seq (WC.region ?_)
 refine WL.q ((oq_eql rfl rfl).to (v' := .bool false) (congrArg Value.bool (decide_eq_false (by omega)))) rfl rfl rfl ?_
 refine WL.q (oq_assign rfl) rfl rfl rfl ?_
 refine WL.nil (WE.then_normal ?_)
 refine WC.cond_f rfl ?_
 refine WC.seq (WC.seq (WC.region ?_))
 refine WL.q ((oq_eql rfl rfl).to (v' := .bool false) (congrArg Value.bool (decide_eq_false (by omega)))) rfl rfl rfl ?_
 refine WL.q (oq_assign rfl) rfl rfl rfl ?_
 refine WL.nil (WE.then_normal ?_)
 refine WC.cond_f rfl ?_
 refine WC.region ?_
 refine WL.q ((oq_eql rfl rfl).to (v' := .bool false) (congrArg Value.bool (decide_eq_false (by omega)))) rfl rfl rfl ?_
 refine WL.q (oq_assign rfl) rfl rfl rfl ?_
 refine WL.nil (WE.then_normal ?_)
 refine WC.cond_f rfl ?_
 refine WC.skip (WE.block_normal (WE.block_normal (WE.then_normal (WC.region ?_))))
 refine WL.q (oq_move rfl) rfl rfl rfl ?_
 refine WL.q ((oq_add rfl rfl (by rw [i64_lo, i64_hi]; omega)).to (v' := I 2) rfl) rfl rfl rfl ?_
 refine WL.q (oq_assign rfl) rfl rfl rfl ?_
 refine WL.nil ?_
 refine WE.round ?_
 refine WC.sub (fr' := [(0, _), (5, _)]) ?_ ⟨rfl, rfl, trivial⟩
 refine WC.seq (WC.seq (WC.region ?_))
 refine WL.q (oq_move rfl) rfl rfl rfl ?_
 refine WL.q (oq_move rfl) rfl rfl rfl ?_
 refine WL.q ((oq_len_s Tryd.underlying9 rfl).to (v' := I 4) rfl) rfl rfl rfl ?_
 refine WL.q ((oq_lss rfl rfl).to (v' := .bool true) (congrArg Value.bool (decide_eq_true (by omega)))) rfl rfl rfl ?_
 refine WL.nil (WE.then_normal ?_)
 refine WC.cond_t rfl ?_
 refine WC.skip (WE.then_normal (WC.seq (WC.block (WC.seq (WC.region ?_)))))
 refine WL.q (oq_move rfl) rfl rfl rfl ?_
 refine WL.q (oq_move rfl) rfl rfl rfl ?_
 refine WL.q ((oq_index_s Tryd.underlying9 rfl rfl (by decide)).to (v' := .int .u8 77) rfl) rfl rfl rfl ?_
 refine WL.q (oq_conv Tryd.underlying5 Tryd.underlying3 rfl (by rw [i64_lo, i64_hi]; omega)) rfl rfl rfl ?_
 refine WL.q (oq_assign rfl) rfl rfl rfl ?_
 refine WL.nil (WE.then_normal (WC.seq (WC.region ?_)))
 refine WL.q (oq_move rfl) rfl rfl rfl ?_
 refine WL.nil (WE.then_normal (WC.block (WC.seq (WC.region ?_))))
 refine WL.q ((oq_eql rfl rfl).to (v' := .bool false) (congrArg Value.bool (decide_eq_false (by omega)))) rfl rfl rfl ?_
 refine WL.q (oq_assign rfl) rfl rfl rfl ?_
 refine WL.nil (WE.then_normal ?_)
 refine WC.cond_f rfl ?_
 refine WC.seq (WC.region ?_)
 refine WL.q ((oq_eql rfl rfl).to (v' := .bool true) (congrArg Value.bool (decide_eq_true (by omega)))) rfl rfl rfl ?_
 refine WL.q (oq_assign rfl) rfl rfl rfl ?_
 refine WL.nil (WE.then_normal ?_)
 refine WC.cond_t rfl ?_
 refine WC.seq (WC.region ?_)
 refine WL.q (oq_move rfl) rfl rfl rfl ?_
 refine WL.q ((oq_len_s Tryd.underlying9 rfl).to (v' := I 4) rfl) rfl rfl rfl ?_
 refine WL.q (oq_move rfl) rfl rfl rfl ?_
 refine WL.q ((oq_add rfl rfl (by rw [i64_lo, i64_hi]; omega)).to (v' := I 5) rfl) rfl rfl rfl ?_
 refine WL.q ((oq_geq rfl rfl).to (v' := .bool false) (congrArg Value.bool (decide_eq_false (by omega)))) rfl rfl rfl ?_
 refine WL.nil (WE.then_normal ?_)
 refine WC.cond_f rfl ?_
 refine WC.skip (WE.block_normal (WE.block_normal (WE.then_normal (WC.region ?_))))
 refine WL.q (oq_move rfl) rfl rfl rfl ?_
 refine WL.q ((oq_add rfl rfl (by rw [i64_lo, i64_hi]; omega)).to (v' := I 3) rfl) rfl rfl rfl ?_
 refine WL.q (oq_assign rfl) rfl rfl rfl ?_
 refine WL.nil ?_
 refine WE.round ?_
 refine WC.sub (fr' := [(0, _), (5, _)]) ?_ ⟨rfl, rfl, trivial⟩
 refine WC.seq (WC.seq (WC.region ?_))
 refine WL.q (oq_move rfl) rfl rfl rfl ?_
 refine WL.q (oq_move rfl) rfl rfl rfl ?_
 refine WL.q ((oq_len_s Tryd.underlying9 rfl).to (v' := I 4) rfl) rfl rfl rfl ?_
 refine WL.q ((oq_lss rfl rfl).to (v' := .bool true) (congrArg Value.bool (decide_eq_true (by omega)))) rfl rfl rfl ?_
 refine WL.nil (WE.then_normal ?_)
 refine WC.cond_t rfl ?_
 refine WC.skip (WE.then_normal (WC.seq (WC.block (WC.seq (WC.region ?_)))))
 refine WL.q (oq_move rfl) rfl rfl rfl ?_
 refine WL.q (oq_move rfl) rfl rfl rfl ?_
 refine WL.q ((oq_index_s Tryd.underlying9 rfl rfl (by decide)).to (v' := .int .u8 84) rfl) rfl rfl rfl ?_
 refine WL.q (oq_conv Tryd.underlying5 Tryd.underlying3 rfl (by rw [i64_lo, i64_hi]; omega)) rfl rfl rfl ?_
 refine WL.q (oq_assign rfl) rfl rfl rfl ?_
 refine WL.nil (WE.then_normal (WC.sub (fr' := [(0, _), (5, _), (6, _)]) ?_ ⟨rfl, rfl, rfl, trivial⟩))
 refine WC.seq (WC.region ?_)
 refine WL.q (oq_move rfl) rfl rfl rfl ?_
 refine WL.nil (WE.then_normal (WC.block (WC.seq (WC.region ?_))))
 refine WL.q ((oq_eql rfl rfl).to (v' := .bool false) (congrArg Value.bool (decide_eq_false (by omega)))) rfl rfl rfl ?_
 refine WL.q (oq_assign rfl) rfl rfl rfl ?_
 refine WL.nil (WE.then_normal ?_)
 refine WC.cond_f rfl ?_
 refine WC.seq (WC.region ?_)
 refine WL.q ((oq_eql rfl rfl).to (v' := .bool false) (congrArg Value.bool (decide_eq_false (by omega)))) rfl rfl rfl ?_
 refine WL.q (oq_assign rfl) rfl rfl rfl ?_
 refine WL.nil (WE.then_normal ?_)
 refine WC.cond_f rfl ?_
 refine WC.seq (WC.region ?_)
 refine WL.q ((oq_eql rfl rfl).to (v' := .bool false) (congrArg Value.bool (decide_eq_false (by omega)))) rfl rfl rfl ?_
 refine WL.q (oq_assign rfl) rfl rfl rfl ?_
 refine WL.nil (WE.then_normal ?_)
 refine WC.cond_f rfl ?_
 refine WC.seq (WC.region ?_)
 refine WL.q ((oq_eql rfl rfl).to (v' := .bool false) (congrArg Value.bool (decide_eq_false (by omega)))) rfl rfl rfl ?_
 refine WL.q (oq_assign rfl) rfl rfl rfl ?_
 refine WL.nil (WE.then_normal ?_)
 refine WC.cond_f rfl ?_
 refine WC.seq (WC.region ?_)
 refine WL.q ((oq_eql rfl rfl).to (v' := .bool false) (congrArg Value.bool (decide_eq_false (by omega)))) rfl rfl rfl ?_
 refine WL.q (oq_assign rfl) rfl rfl rfl ?_
 refine WL.nil (WE.then_normal ?_)
 refine WC.cond_f rfl ?_
 refine WC.seq (WC.region ?_)
 refine WL.q ((oq_eql rfl rfl).to (v' := .bool false) (congrArg Value.bool (decide_eq_false (by omega)))) rfl rfl rfl ?_
 refine WL.q (oq_assign rfl) rfl rfl rfl ?_
 refine WL.nil (WE.then_normal ?_)
 refine WC.cond_f rfl ?_
 refine WC.seq (WC.region ?_)
 refine WL.q ((oq_eql rfl rfl).to (v' := .bool false) (congrArg Value.bool (decide_eq_false (by omega)))) rfl rfl rfl ?_
 refine WL.q (oq_assign rfl) rfl rfl rfl ?_
 refine WL.nil (WE.then_normal ?_)
 refine WC.cond_f rfl ?_
 refine WC.seq (WC.region ?_)
 refine WL.q ((oq_eql rfl rfl).to (v' := .bool false) (congrArg Value.bool (decide_eq_false (by omega)))) rfl rfl rfl ?_
 refine WL.q (oq_assign rfl) rfl rfl rfl ?_
 refine WL.nil (WE.then_normal ?_)
 refine WC.cond_f rfl ?_
 refine WC.seq (WC.region ?_)
 refine WL.q ((oq_eql rfl rfl).to (v' := .bool false) (congrArg Value.bool (decide_eq_false (by omega)))) rfl rfl rfl ?_
 refine WL.q (oq_assign rfl) rfl rfl rfl ?_
 refine WL.nil (WE.then_normal ?_)
 refine WC.cond_f rfl ?_
 refine WC.seq (WC.region ?_)
 refine WL.q ((oq_eql rfl rfl).to (v' := .bool false) (congrArg Value.bool (decide_eq_false (by omega)))) rfl rfl rfl ?_
 refine WL.q (oq_assign rfl) rfl rfl rfl ?_
 refine WL.nil (WE.then_normal ?_)
 refine WC.cond_f rfl ?_
 refine WC.seq (WC.region ?_)
 refine WL.q ((oq_eql rfl rfl).to (v' := .bool false) (congrArg Value.bool (decide_eq_false (by omega)))) rfl rfl rfl ?_
 refine WL.q (oq_assign rfl) rfl rfl rfl ?_
 refine WL.nil (WE.then_normal ?_)
 refine WC.cond_f rfl ?_
 refine WC.seq (WC.region ?_)
 refine WL.q ((oq_eql rfl rfl).to (v' := .bool false) (congrArg Value.bool (decide_eq_false (by omega)))) rfl rfl rfl ?_
 refine WL.q (oq_assign rfl) rfl rfl rfl ?_
 refine WL.nil (WE.then_normal ?_)
 refine WC.cond_f rfl ?_
 refine WC.seq (WC.region ?_)
 refine WL.q ((oq_eql rfl rfl).to (v' := .bool false) (congrArg Value.bool (decide_eq_false (by omega)))) rfl rfl rfl ?_
 refine WL.q (oq_assign rfl) rfl rfl rfl ?_
 refine WL.nil (WE.then_normal ?_)
 refine WC.cond_f rfl ?_
 refine WC.seq (WC.seq (WC.region ?_))
 refine WL.q ((oq_eql rfl rfl).to (v' := .bool false) (congrArg Value.bool (decide_eq_false (by omega)))) rfl rfl rfl ?_
 refine WL.q (oq_assign rfl) rfl rfl rfl ?_
 refine WL.nil (WE.then_normal ?_)
 refine WC.cond_f rfl ?_
 refine WC.region ?_
 refine WL.q ((oq_eql rfl rfl).to (v' := .bool false) (congrArg Value.bool (decide_eq_false (by omega)))) rfl rfl rfl ?_
 refine WL.q (oq_assign rfl) rfl rfl rfl ?_
 refine WL.nil (WE.then_normal ?_)
 refine WC.cond_f rfl ?_
 refine WC.skip (WE.block_normal (WE.block_normal (WE.then_normal (WC.region ?_))))
 refine WL.q (oq_move rfl) rfl rfl rfl ?_
 refine WL.q ((oq_add rfl rfl (by rw [i64_lo, i64_hi]; omega)).to (v' := I 4) rfl) rfl rfl rfl ?_
 refine WL.q (oq_assign rfl) rfl rfl rfl ?_
 refine WL.nil ?_
 refine WE.round ?_
 refine WC.sub (fr' := [(0, _), (5, _)]) ?_ ⟨rfl, rfl, trivial⟩
 refine WC.seq (WC.seq (WC.region ?_))
 refine WL.q (oq_move rfl) rfl rfl rfl ?_
 refine WL.q (oq_move rfl) rfl rfl rfl ?_
 refine WL.q ((oq_len_s Tryd.underlying9 rfl).to (v' := I 4) rfl) rfl rfl rfl ?_
 refine WL.q ((oq_lss rfl rfl).to (v' := .bool false) (congrArg Value.bool (decide_eq_false (by omega)))) rfl rfl rfl ?_
 refine WL.nil (WE.then_normal ?_)
 refine WC.cond_f rfl ?_
 refine WC.exit (WE.then_exit (WE.then_exit (WE.block_same (WE.then_normal (WC.seq (WC.region ?_))))))
 refine WL.q (oq_move rfl) rfl rfl rfl ?_
 refine WL.q (oq_assign rfl) rfl rfl rfl ?_
 refine WL.q (oq_assign rfl) rfl rfl rfl ?_
 refine WL.q (oq_assign rfl) rfl rfl rfl ?_
 refine WL.nil (WE.then_normal (WC.ret ?_))
 refine WE.endR (.inl rfl) (res3 Tryd.results35 rfl rfl rfl) ?_
 rfl
set_option maxHeartbeats 2000000 in
theorem ch11 (G : Hp) (hT : Tab0 G) : FnR Tryd.prog 35 [S [45, 48, 54, 32, 49, 53, 58, 48, 52, 58, 48, 53, 32, 77, 83, 84]] G (.tuple #[S [45], I 276, S [32, 49, 53, 58, 48, 52, 58, 48, 53, 32, 77, 83, 84]]) := by
 obtain ⟨t0, f0, hm⟩ := hT
 refine FnR.enter (n := 654) Tryd.func35 rfl rfl fun w0 => ?_
 refine WC.sub (fr' := [(0, _)]) ?_ ⟨rfl, trivial⟩
 refine WC.seq (WC.region ?_)
 refine WL.q (oq_assign rfl) rfl rfl rfl ?_
 refine WL.q (oq_assign rfl) rfl rfl rfl ?_
 refine WL.q (oq_assign rfl) rfl rfl rfl ?_
 refine WL.nil (WE.then_normal (WC.seq (WC.seq (WC.region ?_))))
 refine WL.q (oq_assign rfl) rfl rfl rfl ?_
 refine WL.nil (WE.then_normal (WC.block ?_))
 refine WC.unroll ?_
 refine WC.seq (WC.seq (WC.region ?_))
 refine WL.q (oq_move rfl) rfl rfl rfl ?_
 refine WL.q (oq_move rfl) rfl rfl rfl ?_
 refine WL.q ((oq_len_s Tryd.underlying9 rfl).to (v' := I 16) rfl) rfl rfl rfl ?_
 refine WL.q ((oq_lss rfl rfl).to (v' := .bool true) (congrArg Value.bool (decide_eq_true (by omega)))) rfl rfl rfl ?_
 refine WL.nil (WE.then_normal ?_)
 refine WC.cond_t rfl ?_
 refine WC.skip (WE.then_normal (WC.seq (WC.block (WC.seq (WC.region ?_)))))
 refine WL.q (oq_move rfl) rfl rfl rfl ?_
 refine WL.q (oq_move rfl) rfl rfl rfl ?_
 refine WL.q ((oq_index_s Tryd.underlying9 rfl rfl (by decide)).to (v' := .int .u8 45) rfl) rfl rfl rfl ?_
 refine WL.q (oq_conv Tryd.underlying5 Tryd.underlying3 rfl (by rw [i64_lo, i64_hi]; omega)) rfl rfl rfl ?_
 refine WL.q (oq_assign rfl) rfl rfl rfl ?_
 refine WL.nil (WE.then_normal (WC.seq (WC.region ?_)))
 refine WL.q (oq_move rfl) rfl rfl rfl ?_
 refine WL.nil (WE.then_normal (WC.block (WC.seq (WC.region ?_))))
 refine WL.q ((oq_eql rfl rfl).to (v' := .bool false) (congrArg Value.bool (decide_eq_false (by omega)))) rfl rfl rfl ?_
 refine WL.q (oq_assign rfl) rfl rfl rfl ?_
 refine WL.nil (WE.then_normal ?_)
 refine WC.cond_f rfl ?_
 refine WC.seq (WC.region ?_)
 refine WL.q ((oq_eql rfl rfl).to (v' := .bool false) (congrArg Value.bool (decide_eq_false (by omega)))) rfl rfl rfl ?_
 refine WL.q (oq_assign rfl) rfl rfl rfl ?_
 refine WL.nil (WE.then_normal ?_)
 refine WC.cond_f rfl ?_
 refine WC.seq (WC.region ?_)
 refine WL.q ((oq_eql rfl rfl).to (v' := .bool false) (congrArg Value.bool (decide_eq_false (by omega)))) rfl rfl rfl ?_
 refine WL.q (oq_assign rfl) rfl rfl rfl ?_
 refine WL.nil (WE.then_normal ?_)
 refine WC.cond_f rfl ?_
 refine WC.seq (WC.region ?_)
 refine WL.q ((oq_eql rfl rfl).to (v' := .bool false) (congrArg Value.bool (decide_eq_false (by omega)))) rfl rfl rfl ?_
 refine WL.q (oq_assign rfl) rfl rfl rfl ?_
 refine WL.nil (WE.then_normal ?_)
 refine WC.cond_f rfl ?_
 refine WC.seq (WC.region ?_)
 refine WL.q ((oq_eql rfl rfl).to (v' := .bool false) (congrArg Value.bool (decide_eq_false (by omega)))) rfl rfl rfl ?_
 refine WL.q (oq_assign rfl) rfl rfl rfl ?_
 refine WL.nil (WE.then_normal ?_)
 refine WC.cond_f rfl ?_
 refine WC.seq (WC.region ?_)
 refine WL.q ((oq_eql rfl rfl).to (v' := .bool false) (congrArg Value.bool (decide_eq_false (by omega)))) rfl rfl rfl ?_
 refine WL.q (oq_assign rfl) rfl rfl rfl ?_
 refine WL.nil (WE.then_normal ?_)
 refine WC.cond_f rfl ?_
 refine WC.seq (WC.region ?_)
 refine WL.q ((oq_eql rfl rfl).to (v' := .bool false) (congrArg Value.bool (decide_eq_false (by omega)))) rfl rfl rfl ?_
 refine WL.q (oq_assign rfl) rfl rfl rfl ?_
 refine WL.nil (WE.then_normal ?_)
 refine WC.cond_f rfl ?_
 refine WC.seq (WC.region ?_)
 refine WL.q ((oq_eql rfl rfl).to (v' := .bool false) (congrArg Value.bool (decide_eq_false (by omega)))) rfl rfl rfl ?_
 refine WL.q (oq_assign rfl) rfl rfl rfl ?_
 refine WL.nil (WE.then_normal ?_)
 refine WC.cond_f rfl ?_
 refine WC.seq (WC.region ?_)
 refine WL.q ((oq_eql rfl rfl).to (v' := .bool false) (congrArg Value.bool (decide_eq_false (by omega)))) rfl rfl rfl ?_
 refine WL.q (oq_assign rfl) rfl rfl rfl ?_
 refine WL.nil (WE.then_normal ?_)
 refine WC.cond_f rfl ?_
 refine WC.seq (WC.region ?_)
 refine WL.q ((oq_eql rfl rfl).to (v' := .bool false) (congrArg Value.bool (decide_eq_false (by omega)))) rfl rfl rfl ?_
 refine WL.q (oq_assign rfl) rfl rfl rfl ?_
 refine WL.nil (WE.then_normal ?_)
 refine WC.cond_f rfl ?_
 refine WC.seq (WC.region ?_)
 refine WL.q ((oq_eql rfl rfl).to (v' := .bool false) (congrArg Value.bool (decide_eq_false (by omega)))) rfl rfl rfl ?_
 refine WL.q (oq_assign rfl) rfl rfl rfl ?_
 refine WL.nil (WE.then_normal ?_)
 refine WC.cond_f rfl ?_
 refine WC.seq (WC.region ?_)
 refine WL.q ((oq_eql rfl rfl).to (v' := .bool true) (congrArg Value.bool (decide_eq_true (by omega)))) rfl rfl rfl ?_
 refine WL.q (oq_assign rfl) rfl rfl rfl ?_
 refine WL.nil (WE.then_normal ?_)
 refine WC.cond_t rfl ?_
 refine WC.seq (WC.seq (WC.region ?_))
 refine WL.q (oq_move rfl) rfl rfl rfl ?_
 refine WL.q ((oq_len_s Tryd.underlying9 rfl).to (v' := I 16) rfl) rfl rfl rfl ?_
 refine WL.q (oq_move rfl) rfl rfl rfl ?_
 refine WL.q ((oq_add rfl rfl (by rw [i64_lo, i64_hi]; omega)).to (v' := I 7) rfl) rfl rfl rfl ?_
 refine WL.q ((oq_geq rfl rfl).to (v' := .bool true) (congrArg Value.bool (decide_eq_true (by omega)))) rfl rfl rfl ?_
 refine WL.q (oq_move rfl) rfl rfl rfl ?_
 refine WL.q (oq_move rfl) rfl rfl rfl ?_
 refine WL.q (oq_move rfl) rfl rfl rfl ?_
 refine WL.q (oq_move rfl) rfl rfl rfl ?_
 refine WL.q ((oq_add rfl rfl (by rw [i64_lo, i64_hi]; omega)).to (v' := I 7) rfl) rfl rfl rfl ?_
 refine WL.q ((oq_slice_s2 Tryd.underlying9 rfl rfl rfl (by decide)).to (v' := S [45, 48, 54, 32, 49, 53, 58]) rfl) rfl rfl rfl ?_
 refine WL.q ((oq_seql rfl rfl).to (v' := .bool false) (by kernel_rfl)) rfl rfl rfl ?_
 refine WL.q (oq_pick_t rfl rfl) rfl rfl rfl ?_
 refine WL.nil (WE.then_normal ?_)
 refine WC.cond_f rfl ?_
 refine WC.skip (WE.then_normal (WC.seq (WC.seq (WC.region ?_))))
 refine WL.q (oq_move rfl) rfl rfl rfl ?_
 refine WL.q ((oq_len_s Tryd.underlying9 rfl).to (v' := I 16) rfl) rfl rfl rfl ?_
 refine WL.q (oq_move rfl) rfl rfl rfl ?_
 refine WL.q ((oq_add rfl rfl (by rw [i64_lo, i64_hi]; omega)).to (v' := I 9) rfl) rfl rfl rfl ?_
 refine WL.q ((oq_geq rfl rfl).to (v' := .bool true) (congrArg Value.bool (decide_eq_true (by omega)))) rfl rfl rfl ?_
 refine WL.q (oq_move rfl) rfl rfl rfl ?_
 refine WL.q (oq_move rfl) rfl rfl rfl ?_
 refine WL.q (oq_move rfl) rfl rfl rfl ?_
 refine WL.q (oq_move rfl) rfl rfl rfl ?_
 refine WL.q ((oq_add rfl rfl (by rw [i64_lo, i64_hi]; omega)).to (v' := I 9) rfl) rfl rfl rfl ?_
 refine WL.q ((oq_slice_s2 Tryd.underlying9 rfl rfl rfl (by decide)).to (v' := S [45, 48, 54, 32, 49, 53, 58, 48, 52]) rfl) rfl rfl rfl ?_
 refine WL.q ((oq_seql rfl rfl).to (v' := .bool false) (by kernel_rfl)) rfl rfl rfl ?_
 refine WL.q (oq_pick_t rfl rfl) rfl rfl rfl ?_
 refine WL.nil (WE.then_normal (WC.sub (fr' := [(0, _), (5, _), (419, _)]) ?_ ⟨rfl, rfl, rfl, trivial⟩))
 refine WC.cond_f rfl ?_
 refine WC.skip (WE.then_normal (WC.seq (WC.seq (WC.region ?_))))
 refine WL.q (oq_move rfl) rfl rfl rfl ?_
 refine WL.q ((oq_len_s Tryd.underlying9 rfl).to (v' := I 16) rfl) rfl rfl rfl ?_
 refine WL.q (oq_move rfl) rfl rfl rfl ?_
 refine WL.q ((oq_add rfl rfl (by rw [i64_lo, i64_hi]; omega)).to (v' := I 5) rfl) rfl rfl rfl ?_
 refine WL.q ((oq_geq rfl rfl).to (v' := .bool true) (congrArg Value.bool (decide_eq_true (by omega)))) rfl rfl rfl ?_
 refine WL.q (oq_move rfl) rfl rfl rfl ?_
 refine WL.q (oq_move rfl) rfl rfl rfl ?_
 refine WL.q (oq_move rfl) rfl rfl rfl ?_
 refine WL.q (oq_move rfl) rfl rfl rfl ?_
 refine WL.q ((oq_add rfl rfl (by rw [i64_lo, i64_hi]; omega)).to (v' := I 5) rfl) rfl rfl rfl ?_
 refine WL.q ((oq_slice_s2 Tryd.underlying9 rfl rfl rfl (by decide)).to (v' := S [45, 48, 54, 32, 49]) rfl) rfl rfl rfl ?_
 refine WL.q ((oq_seql rfl rfl).to (v' := .bool false) (by kernel_rfl)) rfl rfl rfl ?_
 refine WL.q (oq_pick_t rfl rfl) rfl rfl rfl ?_
 refine WL.nil (WE.then_normal ?_)
 refine WC.cond_f rfl ?_
 refine WC.skip (WE.then_normal (WC.seq (WC.seq (WC.region ?_))))
 refine WL.q (oq_move rfl) rfl rfl rfl ?_
 refine WL.q ((oq_len_s Tryd.underlying9 rfl).to (v' := I 16) rfl) rfl rfl rfl ?_
 refine WL.q (oq_move rfl) rfl rfl rfl ?_
 refine WL.q ((oq_add rfl rfl (by rw [i64_lo, i64_hi]; omega)).to (v' := I 6) rfl) rfl rfl rfl ?_
 refine WL.q ((oq_geq rfl rfl).to (v' := .bool true) (congrArg Value.bool (decide_eq_true (by omega)))) rfl rfl rfl ?_
 refine WL.q (oq_move rfl) rfl rfl rfl ?_
 refine WL.q (oq_move rfl) rfl rfl rfl ?_
 refine WL.q (oq_move rfl) rfl rfl rfl ?_
 refine WL.q (oq_move rfl) rfl rfl rfl ?_
 refine WL.q ((oq_add rfl rfl (by rw [i64_lo, i64_hi]; omega)).to (v' := I 6) rfl) rfl rfl rfl ?_
 refine WL.q ((oq_slice_s2 Tryd.underlying9 rfl rfl rfl (by decide)).to (v' := S [45, 48, 54, 32, 49, 53]) rfl) rfl rfl rfl ?_
 refine WL.q ((oq_seql rfl rfl).to (v' := .bool false) (by kernel_rfl)) rfl rfl rfl ?_
 refine WL.q (oq_pick_t rfl rfl) rfl rfl rfl ?_
 refine WL.nil (WE.then_normal ?_)
 refine WC.cond_f rfl ?_
 refine WC.skip (WE.then_normal (WC.seq (WC.region ?_)))
 refine WL.q (oq_move rfl) rfl rfl rfl ?_
 refine WL.q ((oq_len_s Tryd.underlying9 rfl).to (v' := I 16) rfl) rfl rfl rfl ?_
 refine WL.q (oq_move rfl) rfl rfl rfl ?_
 refine WL.q ((oq_add rfl rfl (by rw [i64_lo, i64_hi]; omega)).to (v' := I 3) rfl) rfl rfl rfl ?_
 refine WL.q ((oq_geq rfl rfl).to (v' := .bool true) (congrArg Value.bool (decide_eq_true (by omega)))) rfl rfl rfl ?_
 refine WL.q (oq_move rfl) rfl rfl rfl ?_
 refine WL.q (oq_move rfl) rfl rfl rfl ?_
 refine WL.q (oq_move rfl) rfl rfl rfl ?_
 refine WL.q (oq_move rfl) rfl rfl rfl ?_
 refine WL.q ((oq_add rfl rfl (by rw [i64_lo, i64_hi]; omega)).to (v' := I 3) rfl) rfl rfl rfl ?_
 refine WL.q ((oq_slice_s2 Tryd.underlying9 rfl rfl rfl (by decide)).to (v' := S [45, 48, 54]) rfl) rfl rfl rfl ?_
 refine WL.q ((oq_seql rfl rfl).to (v' := .bool false) (by kernel_rfl)) rfl rfl rfl ?_
 refine WL.q (oq_pick_t rfl rfl) rfl rfl rfl ?_
 refine WL.nil (WE.then_normal ?_)
 refine WC.cond_f rfl ?_
 refine WC.skip (WE.block_normal (WE.block_normal (WE.then_normal (WC.region ?_))))
 refine WL.q (oq_move rfl) rfl rfl rfl ?_
 refine WL.q ((oq_add rfl rfl (by rw [i64_lo, i64_hi]; omega)).to (v' := I 1) rfl) rfl rfl rfl ?_
 refine WL.q (oq_assign rfl) rfl rfl rfl ?_
 refine WL.nil ?_
 refine WE.round ?_
 refine WC.sub (fr' := [(0, _), (5, _)]) ?_ ⟨rfl, rfl, trivial⟩
 refine WC.seq (WC.seq (WC.region ?_))
 refine WL.q (oq_move rfl) rfl rfl rfl ?_
 refine WL.q (oq_move rfl) rfl rfl rfl ?_
 refine WL.q ((oq_len_s Tryd.underlying9 rfl).to (v' := I 16) rfl) rfl rfl rfl ?_
 refine WL.q ((oq_lss rfl rfl).to (v' := .bool true) (congrArg Value.bool (decide_eq_true (by omega)))) rfl rfl rfl ?_
 refine WL.nil (WE.then_normal ?_)
 refine WC.cond_t rfl ?_
 refine WC.skip (WE.then_normal (WC.seq (WC.block (WC.seq (WC.region ?_)))))
 refine WL.q (oq_move rfl) rfl rfl rfl ?_
 refine WL.q (oq_move rfl) rfl rfl rfl ?_
 refine WL.q ((oq_index_s Tryd.underlying9 rfl rfl (by decide)).to (v' := .int .u8 48) rfl) rfl rfl rfl ?_
 refine WL.q (oq_conv Tryd.underlying5 Tryd.underlying3 rfl (by rw [i64_lo, i64_hi]; omega)) rfl rfl rfl ?_
 refine WL.q (oq_assign rfl) rfl rfl rfl ?_
 refine WL.nil (WE.then_normal (WC.seq (WC.region ?_)))
 refine WL.q (oq_move rfl) rfl rfl rfl ?_
 refine WL.nil (WE.then_normal (WC.block (WC.seq (WC.region ?_))))
 refine WL.q ((oq_eql rfl rfl).to (v' := .bool false) (congrArg Value.bool (decide_eq_false (by omega)))) rfl rfl rfl ?_
 refine WL.q (oq_assign rfl) rfl rfl rfl ?_
 refine WL.nil (WE.then_normal ?_)
 refine WC.cond_f rfl ?_
 refine WC.seq (WC.region ?_)
 refine WL.q ((oq_eql rfl rfl).to (v' := .bool false) (congrArg Value.bool (decide_eq_false (by omega)))) rfl rfl rfl ?_
 refine WL.q (oq_assign rfl) rfl rfl rfl ?_
 refine WL.nil (WE.then_normal ?_)
 refine WC.cond_f rfl ?_
 refine WC.seq (WC.region ?_)
 refine WL.q ((oq_eql rfl rfl).to (v' := .bool true) (congrArg Value.bool (decide_eq_true (by omega)))) rfl rfl rfl ?_
 refine WL.q (oq_assign rfl) rfl rfl rfl ?_
 refine WL.nil (WE.then_normal ?_)
 refine WC.cond_t rfl ?_
 refine WC.seq (WC.seq (WC.region ?_))
 refine WL.q (oq_move rfl) rfl rfl rfl ?_
 refine WL.q ((oq_len_s Tryd.underlying9 rfl).to (v' := I 16) rfl) rfl rfl rfl ?_
 refine WL.q (oq_move rfl) rfl rfl rfl ?_
 refine WL.q ((oq_add rfl rfl (by rw [i64_lo, i64_hi]; omega)).to (v' := I 3) rfl) rfl rfl rfl ?_
 refine WL.q ((oq_geq rfl rfl).to (v' := .bool true) (congrArg Value.bool (decide_eq_true (by omega)))) rfl rfl rfl ?_
 refine WL.q (oq_move rfl) rfl rfl rfl ?_
 refine WL.q (oq_move rfl) rfl rfl rfl ?_
 refine WL.q (oq_move rfl) rfl rfl rfl ?_
 refine WL.q ((oq_add rfl rfl (by rw [i64_lo, i64_hi]; omega)).to (v' := I 2) rfl) rfl rfl rfl ?_
 refine WL.q ((oq_index_s Tryd.underlying9 rfl rfl (by decide)).to (v' := .int .u8 54) rfl) rfl rfl rfl ?_
 refine WL.q ((oq_leq rfl rfl).to (v' := .bool true) (congrArg Value.bool (decide_eq_true (by omega)))) rfl rfl rfl ?_
 refine WL.q (oq_pick_t rfl rfl) rfl rfl rfl ?_
 refine WL.q (oq_move rfl) rfl rfl rfl ?_
 refine WL.q (oq_move rfl) rfl rfl rfl ?_
 refine WL.q (oq_move rfl) rfl rfl rfl ?_
 refine WL.q ((oq_add rfl rfl (by rw [i64_lo, i64_hi]; omega)).to (v' := I 2) rfl) rfl rfl rfl ?_
 refine WL.q ((oq_index_s Tryd.underlying9 rfl rfl (by decide)).to (v' := .int .u8 54) rfl) rfl rfl rfl ?_
 refine WL.q ((oq_leq rfl rfl).to (v' := .bool true) (congrArg Value.bool (decide_eq_true (by omega)))) rfl rfl rfl ?_
 refine WL.q (oq_pick_t rfl rfl) rfl rfl rfl ?_
 refine WL.nil (WE.then_normal (WC.sub (fr' := [(0, _), (5, _), (149, _)]) ?_ ⟨rfl, rfl, rfl, trivial⟩))
 refine WC.cond_t rfl ?_
 refine WC.seq (WC.quiet (by kernel_rfl) (by kernel_rfl) ?_)
 refine WQ.q (oq_move rfl) rfl rfl rfl ?_
 refine WQ.q (oq_move rfl) rfl rfl rfl ?_
 refine WQ.q ((oq_slice_s2 Tryd.underlying9 rfl rfl rfl (by decide)).to (v' := S [45]) rfl) rfl rfl rfl ?_
 refine WQ.q (oq_move rfl) rfl rfl rfl ?_
 refine WQ.q (oq_move rfl) rfl rfl rfl ?_
 refine WQ.q ((oq_add rfl rfl (by rw [i64_lo, i64_hi]; omega)).to (v' := I 2) rfl) rfl rfl rfl ?_
 refine WQ.q ((oq_index_s Tryd.underlying9 rfl rfl (by decide)).to (v' := .int .u8 54) rfl) rfl rfl rfl ?_
 refine WQ.q ((oq_sub rfl rfl (by rw [u8_lo, u8_hi]; omega)).to (v' := .int .u8 5) rfl) rfl rfl rfl ?_
 refine WQ.q (oq_ixArr (i := 5) (b := 3) (off := 0) Tryd.underlying85 ty3 rfl rfl (by decide)) rfl rfl rfl ?_
 refine WQ.q ((oq_load flat3 rfl (.head _) hm rfl).to (v' := I 276) rfl) rfl rfl rfl ?_
 refine WQ.q (oq_move rfl) rfl rfl rfl ?_
 refine WQ.q (oq_move rfl) rfl rfl rfl ?_
 refine WQ.q ((oq_add rfl rfl (by rw [i64_lo, i64_hi]; omega)).to (v' := I 3) rfl) rfl rfl rfl ?_
 refine WQ.q ((oq_slice_s1 Tryd.underlying9 rfl rfl (by decide)).to (v' := S [32, 49, 53, 58, 48, 52, 58, 48, 53, 32, 77, 83, 84]) rfl) rfl rfl rfl ?_
 refine WQ.q (oq_assign rfl) rfl rfl rfl ?_
 refine WQ.q (oq_assign rfl) rfl rfl rfl ?_
 refine WQ.q (oq_assign rfl) rfl rfl rfl ?_
 refine WQ.nil (WE.then_normal (WC.ret (WE.then_ret (WE.block_ret (WE.block_ret (WE.then_ret (WE.then_ret (WE.block_ret (WE.then_ret ?_)))))))))
 refine WE.endR (.inl rfl) (res3 Tryd.results35 rfl rfl rfl) ?_
 rfl
set_option maxHeartbeats 2000000 in
theorem ch15 (G : Hp) (hT : Tab0 G) : FnR Tryd.prog 35 [S [32, 77, 83, 84]] G (.tuple #[S [32], I 23, S []]) := by
 obtain ⟨t0, f0, hm⟩ := hT
 refine FnR.enter (n := 654) Tryd.func35 rfl rfl fun w0 => ?_
 refine WC.sub (fr' := [(0, _)]) ?_ ⟨rfl, trivial⟩
 refine WC.seq (WC.region ?_)
 refine WL.q (oq_assign rfl) rfl rfl rfl ?_
 refine WL.q (oq_assign rfl) rfl rfl rfl ?_
 refine WL.q (oq_assign rfl) rfl rfl rfl ?_
 refine WL.nil (WE.then_normal (WC.seq (WC.seq (WC.region ?_))))
 refine WL.q (oq_assign rfl) rfl rfl rfl ?_
 refine WL.nil (WE.then_normal (WC.block ?_))
 refine WC.unroll ?_
 refine WC.seq (WC.seq (WC.region ?_))
 refine WL.q (oq_move rfl) rfl rfl rfl ?_
 refine WL.q (oq_move rfl) rfl rfl rfl ?_
 refine WL.q ((oq_len_s Tryd.underlying9 rfl).to (v' := I 4) rfl) rfl rfl rfl ?_
 refine WL.q ((oq_lss rfl rfl).to (v' := .bool true) (congrArg Value.bool (decide_eq_true (by omega)))) rfl rfl rfl ?_
 refine WL.nil (WE.then_normal ?_)
 refine WC.cond_t rfl ?_
 refine WC.skip (WE.then_normal (WC.seq (WC.block (WC.seq (WC.region ?_)))))
 refine WL.q (oq_move rfl) rfl rfl rfl ?_
 refine WL.q (oq_move rfl) rfl rfl rfl ?_
 refine WL.q ((oq_index_s Tryd.underlying9 rfl rfl (by decide)).to (v' := .int .u8 32) rfl) rfl rfl rfl ?_
 refine WL.q (oq_conv Tryd.underlying5 Tryd.underlying3 rfl (by rw [i64_lo, i64_hi]; omega)) rfl rfl rfl ?_
 refine WL.q (oq_assign rfl) rfl rfl rfl ?_
 refine WL.nil (WE.then_normal (WC.seq (WC.region ?_)))
 refine WL.q (oq_move rfl) rfl rfl rfl ?_
 refine WL.nil (WE.then_normal (WC.block (WC.seq (WC.region ?_))))
 refine WL.q ((oq_eql rfl rfl).to (v' := .bool false) (congrArg Value.bool (decide_eq_false (by omega)))) rfl rfl rfl ?_
 refine WL.q (oq_assign rfl) rfl rfl rfl ?_
 refine WL.nil (WE.then_normal ?_)
 refine WC.cond_f rfl ?_
 refine WC.seq (WC.region ?_)
 refine WL.q ((oq_eql rfl rfl).to (v' := .bool false) (congrArg Value.bool (decide_eq_false (by omega)))) rfl rfl rfl ?_
 refine WL.q (oq_assign rfl) rfl rfl rfl ?_
 refine WL.nil (WE.then_normal ?_)
 refine WC.cond_f rfl ?_
 refine WC.seq (WC.region ?_)
 refine WL.q ((oq_eql rfl rfl).to (v' := .bool false) (congrArg Value.bool (decide_eq_false (by omega)))) rfl rfl rfl ?_
 refine WL.q (oq_assign rfl) rfl rfl rfl ?_
 refine WL.nil (WE.then_normal ?_)
 refine WC.cond_f rfl ?_
 refine WC.seq (WC.region ?_)
 refine WL.q ((oq_eql rfl rfl).to (v' := .bool false) (congrArg Value.bool (decide_eq_false (by omega)))) rfl rfl rfl ?_
 refine WL.q (oq_assign rfl) rfl rfl rfl ?_
 refine WL.nil (WE.then_normal ?_)
 refine WC.cond_f rfl ?_
 refine WC.seq (WC.region ?_)
 refine WL.q ((oq_eql rfl rfl).to (v' := .bool false) (congrArg Value.bool (decide_eq_false (by omega)))) rfl rfl rfl ?_
 refine WL.q (oq_assign rfl) rfl rfl rfl ?_
 refine WL.nil (WE.then_normal ?_)
 refine WC.cond_f rfl ?_
 refine WC.seq (WC.region ?_)
 refine WL.q ((oq_eql rfl rfl).to (v' := .bool false) (congrArg Value.bool (decide_eq_false (by omega)))) rfl rfl rfl ?_
 refine WL.q (oq_assign rfl) rfl rfl rfl ?_
 refine WL.nil (WE.then_normal ?_)
 refine WC.cond_f rfl ?_
 refine WC.seq (WC.region ?_)
 refine WL.q ((oq_eql rfl rfl).to (v' := .bool false) (congrArg Value.bool (decide_eq_false (by omega)))) rfl rfl rfl ?_
 refine WL.q (oq_assign rfl) rfl rfl rfl ?_
 refine WL.nil (WE.then_normal ?_)
 refine WC.cond_f rfl ?_
 refine WC.seq (WC.region ?_)
 refine WL.q ((oq_eql rfl rfl).to (v' := .bool false) (congrArg Value.bool (decide_eq_false (by omega)))) rfl rfl rfl ?_
 refine WL.q (oq_assign rfl) rfl rfl rfl ?_
 refine WL.nil (WE.then_normal ?_)
 refine WC.cond_f rfl ?_
 refine WC.seq (WC.region ?_)
 refine WL.q ((oq_eql rfl rfl).to (v' := .bool false) (congrArg Value.bool (decide_eq_false (by omega)))) rfl rfl rfl ?_
 refine WL.q (oq_assign rfl) rfl rfl rfl ?_
 refine WL.nil (WE.then_normal ?_)
 refine WC.cond_f rfl ?_
 refine WC.seq (WC.region ?_)
 refine WL.q ((oq_eql rfl rfl).to (v' := .bool false) (congrArg Value.bool (decide_eq_false (by omega)))) rfl rfl rfl ?_
 refine WL.q (oq_assign rfl) rfl rfl rfl ?_
 refine WL.nil (WE.then_normal ?_)
 refine WC.cond_f rfl ?_
 refine WC.seq (WC.region ?_)
 refine WL.q ((oq_eql rfl rfl).to (v' := .bool false) (congrArg Value.bool (decide_eq_false (by omega)))) rfl rfl rfl ?_
 refine WL.q (oq_assign rfl) rfl rfl rfl ?_
 refine WL.nil (WE.then_normal ?_)
 refine WC.cond_f rfl ?_
 refine WC.seq (WC.region ?_)
 refine WL.q ((oq_eql rfl rfl).to (v' := .bool false) (congrArg Value.bool (decide_eq_false (by omega)))) rfl rfl rfl ?_
 refine WL.q (oq_assign rfl) rfl rfl rfl ?_
 refine WL.nil (WE.then_normal ?_)
 refine WC.cond_f rfl ?_
 refine WC.seq (WC.region ?_)
 refine WL.q ((oq_eql rfl rfl).to (v' := .bool false) (congrArg Value.bool (decide_eq_false (by omega)))) rfl rfl rfl ?_
 refine WL.q (oq_assign rfl) rfl rfl rfl ?_
 refine WL.nil (WE.then_normal ?_)
 refine WC.cond_f rfl ?_
 refine WC.seq (WC.seq (WC.region ?_))
 refine WL.q ((oq_eql rfl rfl).to (v' := .bool false) (congrArg Value.bool (decide_eq_false (by omega)))) rfl rfl rfl ?_
 refine WL.q (oq_assign rfl) rfl rfl rfl ?_
 refine WL.nil (WE.then_normal ?_)
 refine WC.cond_f rfl ?_
 refine WC.region ?_
 refine WL.q ((oq_eql rfl rfl).to (v' := .bool false) (congrArg Value.bool (decide_eq_false (by omega)))) rfl rfl rfl ?_
 refine WL.q (oq_assign rfl) rfl rfl rfl ?_
 refine WL.nil (WE.then_normal ?_)
 refine WC.cond_f rfl ?_
 refine WC.skip (WE.block_normal (WE.block_normal (WE.then_normal (WC.region ?_))))
 refine WL.q (oq_move rfl) rfl rfl rfl ?_
 refine WL.q ((oq_add rfl rfl (by rw [i64_lo, i64_hi]; omega)).to (v' := I 1) rfl) rfl rfl rfl ?_
 refine WL.q (oq_assign rfl) rfl rfl rfl ?_
 refine WL.nil ?_
 refine WE.round ?_
 refine WC.sub (fr' := [(0, _), (5, _)]) ?_ ⟨rfl, rfl, trivial⟩
 refine WC.seq (WC.seq (WC.region ?_))
 refine WL.q (oq_move rfl) rfl rfl rfl ?_
 refine WL.q (oq_move rfl) rfl rfl rfl ?_
 refine WL.q ((oq_len_s Tryd.underlying9 rfl).to (v' := I 4) rfl) rfl rfl rfl ?_
 refine WL.q ((oq_lss rfl rfl).to (v' := .bool true) (congrArg Value.bool (decide_eq_true (by omega)))) rfl rfl rfl ?_
 refine WL.nil (WE.then_normal ?_)
 refine WC.cond_t rfl ?_
 refine WC.skip (WE.then_normal (WC.seq (WC.block (WC.seq (WC.region ?_)))))
 refine WL.q (oq_move rfl) rfl rfl rfl ?_
 refine WL.q (oq_move rfl) rfl rfl rfl ?_
 refine WL.q ((oq_index_s Tryd.underlying9 rfl rfl (by decide)).to (v' := .int .u8 77) rfl) rfl rfl rfl ?_
 refine WL.q (oq_conv Tryd.underlying5 Tryd.underlying3 rfl (by rw [i64_lo, i64_hi]; omega)) rfl rfl rfl ?_
 refine WL.q (oq_assign rfl) rfl rfl rfl ?_
 refine WL.nil (WE.then_normal (WC.seq (WC.region ?_)))
 refine WL.q (oq_move rfl) rfl rfl rfl ?_
 refine WL.nil (WE.then_normal (WC.block (WC.seq (WC.region ?_))))
 refine WL.q ((oq_eql rfl rfl).to (v' := .bool false) (congrArg Value.bool (decide_eq_false (by omega)))) rfl rfl rfl ?_
 refine WL.q (oq_assign rfl) rfl rfl rfl ?_
 refine WL.nil (WE.then_normal ?_)
 refine WC.cond_f rfl ?_
 refine WC.seq (WC.region ?_)
 refine WL.q ((oq_eql rfl rfl).to (v' := .bool true) (congrArg Value.bool (decide_eq_true (by omega)))) rfl rfl rfl ?_
 refine WL.q (oq_assign rfl) rfl rfl rfl ?_
 refine WL.nil (WE.then_normal (WC.sub (fr' := [(0, _), (5, _), (6, _), (21, _), (70, _)]) ?_ ⟨rfl, rfl, rfl, rfl, rfl, trivial⟩))
 refine WC.cond_t rfl ?_
 refine WC.seq (WC.region ?_)
 refine WL.q (oq_move rfl) rfl rfl rfl ?_
 refine WL.q ((oq_len_s Tryd.underlying9 rfl).to (v' := I 4) rfl) rfl rfl rfl ?_
 refine WL.q (oq_move rfl) rfl rfl rfl ?_
 refine WL.q ((oq_add rfl rfl (by rw [i64_lo, i64_hi]; omega)).to (v' := I 4) rfl) rfl rfl rfl ?_
 refine WL.q ((oq_geq rfl rfl).to (v' := .bool true) (congrArg Value.bool (decide_eq_true (by omega)))) rfl rfl rfl ?_
 refine WL.nil (WE.then_normal ?_)
 refine WC.cond_t rfl ?_
 refine WC.seq (WC.seq (WC.region ?_))
 refine WL.q (oq_move rfl) rfl rfl rfl ?_
 refine WL.q (oq_move rfl) rfl rfl rfl ?_
 refine WL.q (oq_move rfl) rfl rfl rfl ?_
 refine WL.q ((oq_add rfl rfl (by rw [i64_lo, i64_hi]; omega)).to (v' := I 4) rfl) rfl rfl rfl ?_
 refine WL.q ((oq_slice_s2 Tryd.underlying9 rfl rfl rfl (by decide)).to (v' := S [77, 83, 84]) rfl) rfl rfl rfl ?_
 refine WL.q ((oq_seql rfl rfl).to (v' := .bool false) (by kernel_rfl)) rfl rfl rfl ?_
 refine WL.nil (WE.then_normal ?_)
 refine WC.cond_f rfl ?_
 refine WC.skip (WE.then_normal (WC.seq (WC.region ?_)))
 refine WL.q (oq_move rfl) rfl rfl rfl ?_
 refine WL.q (oq_move rfl) rfl rfl rfl ?_
 refine WL.q (oq_move rfl) rfl rfl rfl ?_
 refine WL.q ((oq_add rfl rfl (by rw [i64_lo, i64_hi]; omega)).to (v' := I 4) rfl) rfl rfl rfl ?_
 refine WL.q ((oq_slice_s2 Tryd.underlying9 rfl rfl rfl (by decide)).to (v' := S [77, 83, 84]) rfl) rfl rfl rfl ?_
 refine WL.q ((oq_seql rfl rfl).to (v' := .bool true) (by kernel_rfl)) rfl rfl rfl ?_
 refine WL.nil (WE.then_normal ?_)
 refine WC.cond_t rfl ?_
 refine WC.seq (WC.quiet (by kernel_rfl) (by kernel_rfl) ?_)
 refine WQ.q (oq_move rfl) rfl rfl rfl ?_
 refine WQ.q (oq_move rfl) rfl rfl rfl ?_
 refine WQ.q ((oq_slice_s2 Tryd.underlying9 rfl rfl rfl (by decide)).to (v' := S [32]) rfl) rfl rfl rfl ?_
 refine WQ.q (oq_move rfl) rfl rfl rfl ?_
 refine WQ.q (oq_move rfl) rfl rfl rfl ?_
 refine WQ.q ((oq_add rfl rfl (by rw [i64_lo, i64_hi]; omega)).to (v' := I 4) rfl) rfl rfl rfl ?_
 refine WQ.q ((oq_slice_s1 Tryd.underlying9 rfl rfl (by decide)).to (v' := S []) rfl) rfl rfl rfl ?_
 refine WQ.q (oq_assign rfl) rfl rfl rfl ?_
 refine WQ.q (oq_assign rfl) rfl rfl rfl ?_
 refine WQ.q (oq_assign rfl) rfl rfl rfl ?_
 refine WQ.nil (WE.then_normal (WC.ret (WE.block_ret (WE.block_ret (WE.then_ret (WE.then_ret (WE.block_ret (WE.then_ret ?_))))))))
 refine WE.endR (.inl rfl) (res3 Tryd.results35 rfl rfl rfl) ?_
 rfl
set_option maxHeartbeats 2000000 in
theorem ch19 (G : Hp) (hT : Tab0 G) : FnR Tryd.prog 35 [S [32, 95, 50, 32, 49, 53, 58, 48, 52, 58, 48, 53, 32, 50, 48, 48, 54]] G (.tuple #[S [32], I 264, S [32, 49, 53, 58, 48, 52, 58, 48, 53, 32, 50, 48, 48, 54]]) := by
 obtain ⟨t0, f0, hm⟩ := hT
 refine FnR.enter (n := 654) Tryd.func35 rfl rfl fun w0 => ?_
 refine WC.sub (fr' := [(0, _)]) ?_ ⟨rfl, trivial⟩
 refine WC.seq (WC.region ?_)
 refine WL.q (oq_assign rfl) rfl rfl rfl ?_
 refine WL.q (oq_assign rfl) rfl rfl rfl ?_
 refine WL.q (oq_assign rfl) rfl rfl rfl ?_
 refine WL.nil (WE.then_normal (WC.seq (WC.seq (WC.region ?_))))
 refine WL.q (oq_assign rfl) rfl rfl rfl ?_
 refine WL.nil (WE.then_normal (WC.block ?_))
 refine WC.unroll ?_
 refine WC.seq (WC.seq (WC.region ?_))
 refine WL.q (oq_move rfl) rfl rfl rfl ?_
 refine WL.q (oq_move rfl) rfl rfl rfl ?_
 refine WL.q ((oq_len_s Tryd.underlying9 rfl).to (v' := I 17) rfl) rfl rfl rfl ?_
 refine WL.q ((oq_lss rfl rfl).to (v' := .bool true) (congrArg Value.bool (decide_eq_true (by omega)))) rfl rfl rfl ?_
 refine WL.nil (WE.then_normal ?_)
 refine WC.cond_t rfl ?_
 refine WC.skip (WE.then_normal (WC.seq (WC.block (WC.seq (WC.region ?_)))))
 refine WL.q (oq_move rfl) rfl rfl rfl ?_
 refine WL.q (oq_move rfl) rfl rfl rfl ?_
 refine WL.q ((oq_index_s Tryd.underlying9 rfl rfl (by decide)).to (v' := .int .u8 32) rfl) rfl rfl rfl ?_
 refine WL.q (oq_conv Tryd.underlying5 Tryd.underlying3 rfl (by rw [i64_lo, i64_hi]; omega)) rfl rfl rfl ?_
 refine WL.q (oq_assign rfl) rfl rfl rfl ?_
 refine WL.nil (WE.then_normal (WC.seq (WC.region ?_)))
 refine WL.q (oq_move rfl) rfl rfl rfl ?_
 refine WL.nil (WE.then_normal (WC.block (WC.seq (WC.region ?_))))
 refine WL.q ((oq_eql rfl rfl).to (v' := .bool false) (congrArg Value.bool (decide_eq_false (by omega)))) rfl rfl rfl ?_
 refine WL.q (oq_assign rfl) rfl rfl rfl ?_
 refine WL.nil (WE.then_normal ?_)
 refine WC.cond_f rfl ?_
 refine WC.seq (WC.region ?_)
 refine WL.q ((oq_eql rfl rfl).to (v' := .bool false) (congrArg Value.bool (decide_eq_false (by omega)))) rfl rfl rfl ?_
 refine WL.q (oq_assign rfl) rfl rfl rfl ?_
 refine WL.nil (WE.then_normal ?_)
 refine WC.cond_f rfl ?_
 refine WC.seq (WC.region ?_)
 refine WL.q ((oq_eql rfl rfl).to (v' := .bool false) (congrArg Value.bool (decide_eq_false (by omega)))) rfl rfl rfl ?_
 refine WL.q (oq_assign rfl) rfl rfl rfl ?_
 refine WL.nil (WE.then_normal ?_)
 refine WC.cond_f rfl ?_
 refine WC.seq (WC.region ?_)
 refine WL.q ((oq_eql rfl rfl).to (v' := .bool false) (congrArg Value.bool (decide_eq_false (by omega)))) rfl rfl rfl ?_
 refine WL.q (oq_assign rfl) rfl rfl rfl ?_
 refine WL.nil (WE.then_normal ?_)
 refine WC.cond_f rfl ?_
 refine WC.seq (WC.region ?_)
 refine WL.q ((oq_eql rfl rfl).to (v' := .bool false) (congrArg Value.bool (decide_eq_false (by omega)))) rfl rfl rfl ?_
 refine WL.q (oq_assign rfl) rfl rfl rfl ?_
 refine WL.nil (WE.then_normal ?_)
 refine WC.cond_f rfl ?_
 refine WC.seq (WC.region ?_)
 refine WL.q ((oq_eql rfl rfl).to (v' := .bool false) (congrArg Value.bool (decide_eq_false (by omega)))) rfl rfl rfl ?_
 refine WL.q (oq_assign rfl) rfl rfl rfl ?_
 refine WL.nil (WE.then_normal ?_)
 refine WC.cond_f rfl ?_
 refine WC.seq (WC.region ?_)
 refine WL.q ((oq_eql rfl rfl).to (v' := .bool false) (congrArg Value.bool (decide_eq_false (by omega)))) rfl rfl rfl ?_
 refine WL.q (oq_assign rfl) rfl rfl rfl ?_
 refine WL.nil (WE.then_normal ?_)
 refine WC.cond_f rfl ?_
 refine WC.seq (WC.region ?_)
 refine WL.q ((oq_eql rfl rfl).to (v' := .bool false) (congrArg Value.bool (decide_eq_false (by omega)))) rfl rfl rfl ?_
 refine WL.q (oq_assign rfl) rfl rfl rfl ?_
 refine WL.nil (WE.then_normal ?_)
 refine WC.cond_f rfl ?_
 refine WC.seq (WC.region ?_)
 refine WL.q ((oq_eql rfl rfl).to (v' := .bool false) (congrArg Value.bool (decide_eq_false (by omega)))) rfl rfl rfl ?_
 refine WL.q (oq_assign rfl) rfl rfl rfl ?_
 refine WL.nil (WE.then_normal ?_)
 refine WC.cond_f rfl ?_
 refine WC.seq (WC.region ?_)
 refine WL.q ((oq_eql rfl rfl).to (v' := .bool false) (congrArg Value.bool (decide_eq_false (by omega)))) rfl rfl rfl ?_
 refine WL.q (oq_assign rfl) rfl rfl rfl ?_
 refine WL.nil (WE.then_normal ?_)
 refine WC.cond_f rfl ?_
 refine WC.seq (WC.region ?_)
 refine WL.q ((oq_eql rfl rfl).to (v' := .bool false) (congrArg Value.bool (decide_eq_false (by omega)))) rfl rfl rfl ?_
 refine WL.q (oq_assign rfl) rfl rfl rfl ?_
 refine WL.nil (WE.then_normal ?_)
 refine WC.cond_f rfl ?_
 refine WC.seq (WC.region ?_)
 refine WL.q ((oq_eql rfl rfl).to (v' := .bool false) (congrArg Value.bool (decide_eq_false (by omega)))) rfl rfl rfl ?_
 refine WL.q (oq_assign rfl) rfl rfl rfl ?_
 refine WL.nil (WE.then_normal ?_)
 refine WC.cond_f rfl ?_
 refine WC.seq (WC.region ?_)
 refine WL.q ((oq_eql rfl rfl).to (v' := .bool false) (congrArg Value.bool (decide_eq_false (by omega)))) rfl rfl rfl ?_
 refine WL.q (oq_assign rfl) rfl rfl rfl ?_
 refine WL.nil (WE.then_normal ?_)
 refine WC.cond_f rfl ?_
 refine WC.seq (WC.seq (WC.region ?_))
 refine WL.q ((oq_eql rfl rfl).to (v' := .bool false) (congrArg Value.bool (decide_eq_false (by omega)))) rfl rfl rfl ?_
 refine WL.q (oq_assign rfl) rfl rfl rfl ?_
 refine WL.nil (WE.then_normal ?_)
 refine WC.cond_f rfl ?_
 refine WC.region ?_
 refine WL.q ((oq_eql rfl rfl).to (v' := .bool false) (congrArg Value.bool (decide_eq_false (by omega)))) rfl rfl rfl ?_
 refine WL.q (oq_assign rfl) rfl rfl rfl ?_
 refine WL.nil (WE.then_normal ?_)
 refine WC.cond_f rfl ?_
 refine WC.skip (WE.block_normal (WE.block_normal (WE.then_normal (WC.region ?_))))
 refine WL.q (oq_move rfl) rfl rfl rfl ?_
 refine WL.q ((oq_add rfl rfl (by rw [i64_lo, i64_hi]; omega)).to (v' := I 1) rfl) rfl rfl rfl ?_
 refine WL.q (oq_assign rfl) rfl rfl rfl ?_
 refine WL.nil ?_
 refine WE.round ?_
 refine WC.sub (fr' := [(0, _), (5, _)]) ?_ ⟨rfl, rfl, trivial⟩
 refine WC.seq (WC.seq (WC.region ?_))
 refine WL.q (oq_move rfl) rfl rfl rfl ?_
 refine WL.q (oq_move rfl) rfl rfl rfl ?_
 refine WL.q ((oq_len_s Tryd.underlying9 rfl).to (v' := I 17) rfl) rfl rfl rfl ?_
 refine WL.q ((oq_lss rfl rfl).to (v' := .bool true) (congrArg Value.bool (decide_eq_true (by omega)))) rfl rfl rfl ?_
 refine WL.nil (WE.then_normal ?_)
 refine WC.cond_t rfl ?_
 refine WC.skip (WE.then_normal (WC.seq (WC.block (WC.seq (WC.region ?_)))))
 refine WL.q (oq_move rfl) rfl rfl rfl ?_
 refine WL.q (oq_move rfl) rfl rfl rfl ?_
 refine WL.q ((oq_index_s Tryd.underlying9 rfl rfl (by decide)).to (v' := .int .u8 95) rfl) rfl rfl rfl ?_
 refine WL.q (oq_conv Tryd.underlying5 Tryd.underlying3 rfl (by rw [i64_lo, i64_hi]; omega)) rfl rfl rfl ?_
 refine WL.q (oq_assign rfl) rfl rfl rfl ?_
 refine WL.nil (WE.then_normal (WC.seq (WC.region ?_)))
 refine WL.q (oq_move rfl) rfl rfl rfl ?_
 refine WL.nil (WE.then_normal (WC.block (WC.seq (WC.region ?_))))
 refine WL.q ((oq_eql rfl rfl).to (v' := .bool false) (congrArg Value.bool (decide_eq_false (by omega)))) rfl rfl rfl ?_
 refine WL.q (oq_assign rfl) rfl rfl rfl ?_
 refine WL.nil (WE.then_normal ?_)
 refine WC.cond_f rfl ?_
 refine WC.seq (WC.region ?_)
 refine WL.q ((oq_eql rfl rfl).to (v' := .bool false) (congrArg Value.bool (decide_eq_false (by omega)))) rfl rfl rfl ?_
 refine WL.q (oq_assign rfl) rfl rfl rfl ?_
 refine WL.nil (WE.then_normal (WC.sub (fr' := [(0, _), (5, _), (6, _), (21, _), (70, _)]) ?_ ⟨rfl, rfl, rfl, rfl, rfl, trivial⟩))
 refine WC.cond_f rfl ?_
 refine WC.seq (WC.region ?_)
 refine WL.q ((oq_eql rfl rfl).to (v' := .bool false) (congrArg Value.bool (decide_eq_false (by omega)))) rfl rfl rfl ?_
 refine WL.q (oq_assign rfl) rfl rfl rfl ?_
 refine WL.nil (WE.then_normal ?_)
 refine WC.cond_f rfl ?_
 refine WC.seq (WC.region ?_)
 refine WL.q ((oq_eql rfl rfl).to (v' := .bool false) (congrArg Value.bool (decide_eq_false (by omega)))) rfl rfl rfl ?_
 refine WL.q (oq_assign rfl) rfl rfl rfl ?_
 refine WL.nil (WE.then_normal ?_)
 refine WC.cond_f rfl ?_
 refine WC.seq (WC.region ?_)
 refine WL.q ((oq_eql rfl rfl).to (v' := .bool false) (congrArg Value.bool (decide_eq_false (by omega)))) rfl rfl rfl ?_
 refine WL.q (oq_assign rfl) rfl rfl rfl ?_
 refine WL.nil (WE.then_normal ?_)
 refine WC.cond_f rfl ?_
 refine WC.seq (WC.region ?_)
 refine WL.q ((oq_eql rfl rfl).to (v' := .bool true) (congrArg Value.bool (decide_eq_true (by omega)))) rfl rfl rfl ?_
 refine WL.q (oq_assign rfl) rfl rfl rfl ?_
 refine WL.nil (WE.then_normal ?_)
 refine WC.cond_t rfl ?_
 refine WC.seq (WC.seq (WC.region ?_))
 refine WL.q (oq_move rfl) rfl rfl rfl ?_
 refine WL.q ((oq_len_s Tryd.underlying9 rfl).to (v' := I 17) rfl) rfl rfl rfl ?_
 refine WL.q (oq_move rfl) rfl rfl rfl ?_
 refine WL.q ((oq_add rfl rfl (by rw [i64_lo, i64_hi]; omega)).to (v' := I 3) rfl) rfl rfl rfl ?_
 refine WL.q ((oq_geq rfl rfl).to (v' := .bool true) (congrArg Value.bool (decide_eq_true (by omega)))) rfl rfl rfl ?_
 refine WL.q (oq_move rfl) rfl rfl rfl ?_
 refine WL.q (oq_move rfl) rfl rfl rfl ?_
 refine WL.q (oq_move rfl) rfl rfl rfl ?_
 refine WL.q ((oq_add rfl rfl (by rw [i64_lo, i64_hi]; omega)).to (v' := I 2) rfl) rfl rfl rfl ?_
 refine WL.q ((oq_index_s Tryd.underlying9 rfl rfl (by decide)).to (v' := .int .u8 50) rfl) rfl rfl rfl ?_
 refine WL.q ((oq_eql rfl rfl).to (v' := .bool true) (congrArg Value.bool (decide_eq_true (by omega)))) rfl rfl rfl ?_
 refine WL.q (oq_pick_t rfl rfl) rfl rfl rfl ?_
 refine WL.nil (WE.then_normal ?_)
 refine WC.cond_t rfl ?_
 refine WC.seq (WC.seq (WC.region ?_))
 refine WL.q (oq_move rfl) rfl rfl rfl ?_
 refine WL.q ((oq_len_s Tryd.underlying9 rfl).to (v' := I 17) rfl) rfl rfl rfl ?_
 refine WL.q (oq_move rfl) rfl rfl rfl ?_
 refine WL.q ((oq_add rfl rfl (by rw [i64_lo, i64_hi]; omega)).to (v' := I 6) rfl) rfl rfl rfl ?_
 refine WL.q ((oq_geq rfl rfl).to (v' := .bool true) (congrArg Value.bool (decide_eq_true (by omega)))) rfl rfl rfl ?_
 refine WL.q (oq_move rfl) rfl rfl rfl ?_
 refine WL.q (oq_move rfl) rfl rfl rfl ?_
 refine WL.q (oq_move rfl) rfl rfl rfl ?_
 refine WL.q ((oq_add rfl rfl (by rw [i64_lo, i64_hi]; omega)).to (v' := I 2) rfl) rfl rfl rfl ?_
 refine WL.q (oq_move rfl) rfl rfl rfl ?_
 refine WL.q ((oq_add rfl rfl (by rw [i64_lo, i64_hi]; omega)).to (v' := I 6) rfl) rfl rfl rfl ?_
 refine WL.q ((oq_slice_s2 Tryd.underlying9 rfl rfl rfl (by decide)).to (v' := S [50, 32, 49, 53]) rfl) rfl rfl rfl ?_
 refine WL.q ((oq_seql rfl rfl).to (v' := .bool false) (by kernel_rfl)) rfl rfl rfl ?_
 refine WL.q (oq_pick_t rfl rfl) rfl rfl rfl ?_
 refine WL.nil (WE.then_normal ?_)
 refine WC.cond_f rfl ?_
 refine WC.skip (WE.then_normal (WC.seq (WC.quiet (by kernel_rfl) (by kernel_rfl) ?_)))
 refine WQ.q (oq_move rfl) rfl rfl rfl ?_
 refine WQ.q (oq_move rfl) rfl rfl rfl ?_
 refine WQ.q ((oq_slice_s2 Tryd.underlying9 rfl rfl rfl (by decide)).to (v' := S [32]) rfl) rfl rfl rfl ?_
 refine WQ.q (oq_move rfl) rfl rfl rfl ?_
 refine WQ.q (oq_move rfl) rfl rfl rfl ?_
 refine WQ.q ((oq_add rfl rfl (by rw [i64_lo, i64_hi]; omega)).to (v' := I 3) rfl) rfl rfl rfl ?_
 refine WQ.q ((oq_slice_s1 Tryd.underlying9 rfl rfl (by decide)).to (v' := S [32, 49, 53, 58, 48, 52, 58, 48, 53, 32, 50, 48, 48, 54]) rfl) rfl rfl rfl ?_
 refine WQ.q (oq_assign rfl) rfl rfl rfl ?_
 refine WQ.q (oq_assign rfl) rfl rfl rfl ?_
 refine WQ.q (oq_assign rfl) rfl rfl rfl ?_
 refine WQ.nil (WE.then_normal (WC.ret (WE.then_ret (WE.block_ret (WE.block_ret (WE.then_ret (WE.then_ret (WE.block_ret (WE.then_ret ?_)))))))))
 refine WE.endR (.inl rfl) (res3 Tryd.results35 rfl rfl rfl) ?_
 rfl
set_option maxHeartbeats 2000000 in
theorem ch23 (G : Hp) (hT : Tab0 G) : FnR Tryd.prog 35 [S [32, 50, 48, 48, 54]] G (.tuple #[S [32], I 275, S []]) := by
 obtain ⟨t0, f0, hm⟩ := hT
 refine FnR.enter (n := 654) Tryd.func35 rfl rfl fun w0 => ?_
 refine WC.sub (fr' := [(0, _)]) ?_ ⟨rfl, trivial⟩
 refine WC.seq (WC.region ?_)
 refine WL.q (oq_assign rfl) rfl rfl rfl ?_
 refine WL.q (oq_assign rfl) rfl rfl rfl ?_
 refine WL.q (oq_assign rfl) rfl rfl rfl ?_
 refine WL.nil (WE.then_normal (WC.seq (WC.seq (WC.region ?_))))
 refine WL.q (oq_assign rfl) rfl rfl rfl ?_
 refine WL.nil (WE.then_normal (WC.block ?_))
 refine WC.unroll ?_
 refine WC.seq (WC.seq (WC.region ?_))
 refine WL.q (oq_move rfl) rfl rfl rfl ?_
 refine WL.q (oq_move rfl) rfl rfl rfl ?_
 refine WL.q ((oq_len_s Tryd.underlying9 rfl).to (v' := I 5) rfl) rfl rfl rfl ?_
 refine WL.q ((oq_lss rfl rfl).to (v' := .bool true) (congrArg Value.bool (decide_eq_true (by omega)))) rfl rfl rfl ?_
 refine WL.nil (WE.then_normal ?_)
 refine WC.cond_t rfl ?_
 refine WC.skip (WE.then_normal (WC.seq (WC.block (WC.seq (WC.region ?_)))))
 refine WL.q (oq_move rfl) rfl rfl rfl ?_
 refine WL.q (oq_move rfl) rfl rfl rfl ?_
 refine WL.q ((oq_index_s Tryd.underlying9 rfl rfl (by decide)).to (v' := .int .u8 32) rfl) rfl rfl rfl ?_
 refine WL.q (oq_conv Tryd.underlying5 Tryd.underlying3 rfl (by rw [i64_lo, i64_hi]; omega)) rfl rfl rfl ?_
 refine WL.q (oq_assign rfl) rfl rfl rfl ?_
 refine WL.nil (WE.then_normal (WC.seq (WC.region ?_)))
 refine WL.q (oq_move rfl) rfl rfl rfl ?_
 refine WL.nil (WE.then_normal (WC.block (WC.seq (WC.region ?_))))
 refine WL.q ((oq_eql rfl rfl).to (v' := .bool false) (congrArg Value.bool (decide_eq_false (by omega)))) rfl rfl rfl ?_
 refine WL.q (oq_assign rfl) rfl rfl rfl ?_
 refine WL.nil (WE.then_normal ?_)
 refine WC.cond_f rfl ?_
 refine WC.seq (WC.region ?_)
 refine WL.q ((oq_eql rfl rfl).to (v' := .bool false) (congrArg Value.bool (decide_eq_false (by omega)))) rfl rfl rfl ?_
 refine WL.q (oq_assign rfl) rfl rfl rfl ?_
 refine WL.nil (WE.then_normal ?_)
 refine WC.cond_f rfl ?_
 refine WC.seq (WC.region ?_)
 refine WL.q ((oq_eql rfl rfl).to (v' := .bool false) (congrArg Value.bool (decide_eq_false (by omega)))) rfl rfl rfl ?_
 refine WL.q (oq_assign rfl) rfl rfl rfl ?_
 refine WL.nil (WE.then_normal ?_)
 refine WC.cond_f rfl ?_
 refine WC.seq (WC.region ?_)
 refine WL.q ((oq_eql rfl rfl).to (v' := .bool false) (congrArg Value.bool (decide_eq_false (by omega)))) rfl rfl rfl ?_
 refine WL.q (oq_assign rfl) rfl rfl rfl ?_
 refine WL.nil (WE.then_normal ?_)
 refine WC.cond_f rfl ?_
 refine WC.seq (WC.region ?_)
 refine WL.q ((oq_eql rfl rfl).to (v' := .bool false) (congrArg Value.bool (decide_eq_false (by omega)))) rfl rfl rfl ?_
 refine WL.q (oq_assign rfl) rfl rfl rfl ?_
 refine WL.nil (WE.then_normal ?_)
 refine WC.cond_f rfl ?_
 refine WC.seq (WC.region ?_)
 refine WL.q ((oq_eql rfl rfl).to (v' := .bool false) (congrArg Value.bool (decide_eq_false (by omega)))) rfl rfl rfl ?_
 refine WL.q (oq_assign rfl) rfl rfl rfl ?_
 refine WL.nil (WE.then_normal ?_)
 refine WC.cond_f rfl ?_
 refine WC.seq (WC.region ?_)
 refine WL.q ((oq_eql rfl rfl).to (v' := .bool false) (congrArg Value.bool (decide_eq_false (by omega)))) rfl rfl rfl ?_
 refine WL.q (oq_assign rfl) rfl rfl rfl ?_
 refine WL.nil (WE.then_normal ?_)
 refine WC.cond_f rfl ?_
 refine WC.seq (WC.region ?_)
 refine WL.q ((oq_eql rfl rfl).to (v' := .bool false) (congrArg Value.bool (decide_eq_false (by omega)))) rfl rfl rfl ?_
 refine WL.q (oq_assign rfl) rfl rfl rfl ?_
 refine WL.nil (WE.then_normal ?_)
 refine WC.cond_f rfl ?_
 refine WC.seq (WC.region ?_)
 refine WL.q ((oq_eql rfl rfl).to (v' := .bool false) (congrArg Value.bool (decide_eq_false (by omega)))) rfl rfl rfl ?_
 refine WL.q (oq_assign rfl) rfl rfl rfl ?_
 refine WL.nil (WE.then_normal ?_)
 refine WC.cond_f rfl ?_
 refine WC.seq (WC.region ?_)
 refine WL.q ((oq_eql rfl rfl).to (v' := .bool false) (congrArg Value.bool (decide_eq_false (by omega)))) rfl rfl rfl ?_
 refine WL.q (oq_assign rfl) rfl rfl rfl ?_
 refine WL.nil (WE.then_normal ?_)
 refine WC.cond_f rfl ?_
 refine WC.seq (WC.region ?_)
 refine WL.q ((oq_eql rfl rfl).to (v' := .bool false) (congrArg Value.bool (decide_eq_false (by omega)))) rfl rfl rfl ?_
 refine WL.q (oq_assign rfl) rfl rfl rfl ?_
 refine WL.nil (WE.then_normal ?_)
 refine WC.cond_f rfl ?_
 refine WC.seq (WC.region ?_)
 refine WL.q ((oq_eql rfl rfl).to (v' := .bool false) (congrArg Value.bool (decide_eq_false (by omega)))) rfl rfl rfl ?_
 refine WL.q (oq_assign rfl) rfl rfl rfl ?_
 refine WL.nil (WE.then_normal ?_)
 refine WC.cond_f rfl ?_
 refine WC.seq (WC.region ?_)
 refine WL.q ((oq_eql rfl rfl).to (v' := .bool false) (congrArg Value.bool (decide_eq_false (by omega)))) rfl rfl rfl ?_
 refine WL.q (oq_assign rfl) rfl rfl rfl ?_
 refine WL.nil (WE.then_normal ?_)
 refine WC.cond_f rfl ?_
 refine WC.seq (WC.seq (WC.region ?_))
 refine WL.q ((oq_eql rfl rfl).to (v' := .bool false) (congrArg Value.bool (decide_eq_false (by omega)))) rfl rfl rfl ?_
 refine WL.q (oq_assign rfl) rfl rfl rfl ?_
 refine WL.nil (WE.then_normal ?_)
 refine WC.cond_f rfl ?_
 refine WC.region ?_
 refine WL.q ((oq_eql rfl rfl).to (v' := .bool false) (congrArg Value.bool (decide_eq_false (by omega)))) rfl rfl rfl ?_
 refine WL.q (oq_assign rfl) rfl rfl rfl ?_
 refine WL.nil (WE.then_normal ?_)
 refine WC.cond_f rfl ?_
 refine WC.skip (WE.block_normal (WE.block_normal (WE.then_normal (WC.region ?_))))
 refine WL.q (oq_move rfl) rfl rfl rfl ?_
 refine WL.q ((oq_add rfl rfl (by rw [i64_lo, i64_hi]; omega)).to (v' := I 1) rfl) rfl rfl rfl ?_
 refine WL.q (oq_assign rfl) rfl rfl rfl ?_
 refine WL.nil ?_
 refine WE.round ?_
 refine WC.sub (fr' := [(0, _), (5, _)]) ?_ ⟨rfl, rfl, trivial⟩
 refine WC.seq (WC.seq (WC.region ?_))
 refine WL.q (oq_move rfl) rfl rfl rfl ?_
 refine WL.q (oq_move rfl) rfl rfl rfl ?_
 refine WL.q ((oq_len_s Tryd.underlying9 rfl).to (v' := I 5) rfl) rfl rfl rfl ?_
 refine WL.q ((oq_lss rfl rfl).to (v' := .bool true) (congrArg Value.bool (decide_eq_true (by omega)))) rfl rfl rfl ?_
 refine WL.nil (WE.then_normal ?_)
 refine WC.cond_t rfl ?_
 refine WC.skip (WE.then_normal (WC.seq (WC.block (WC.seq (WC.region ?_)))))
 refine WL.q (oq_move rfl) rfl rfl rfl ?_
 refine WL.q (oq_move rfl) rfl rfl rfl ?_
 refine WL.q ((oq_index_s Tryd.underlying9 rfl rfl (by decide)).to (v' := .int .u8 50) rfl) rfl rfl rfl ?_
 refine WL.q (oq_conv Tryd.underlying5 Tryd.underlying3 rfl (by rw [i64_lo, i64_hi]; omega)) rfl rfl rfl ?_
 refine WL.q (oq_assign rfl) rfl rfl rfl ?_
 refine WL.nil (WE.then_normal (WC.seq (WC.region ?_)))
 refine WL.q (oq_move rfl) rfl rfl rfl ?_
 refine WL.nil (WE.then_normal (WC.block (WC.seq (WC.region ?_))))
 refine WL.q ((oq_eql rfl rfl).to (v' := .bool false) (congrArg Value.bool (decide_eq_false (by omega)))) rfl rfl rfl ?_
 refine WL.q (oq_assign rfl) rfl rfl rfl ?_
 refine WL.nil (WE.then_normal ?_)
 refine WC.cond_f rfl ?_
 refine WC.seq (WC.region ?_)
 refine WL.q ((oq_eql rfl rfl).to (v' := .bool false) (congrArg Value.bool (decide_eq_false (by omega)))) rfl rfl rfl ?_
 refine WL.q (oq_assign rfl) rfl rfl rfl ?_
 refine WL.nil (WE.then_normal (WC.sub (fr' := [(0, _), (5, _), (6, _), (21, _), (70, _)]) ?_ ⟨rfl, rfl, rfl, rfl, rfl, trivial⟩))
 refine WC.cond_f rfl ?_
 refine WC.seq (WC.region ?_)
 refine WL.q ((oq_eql rfl rfl).to (v' := .bool false) (congrArg Value.bool (decide_eq_false (by omega)))) rfl rfl rfl ?_
 refine WL.q (oq_assign rfl) rfl rfl rfl ?_
 refine WL.nil (WE.then_normal ?_)
 refine WC.cond_f rfl ?_
 refine WC.seq (WC.region ?_)
 refine WL.q ((oq_eql rfl rfl).to (v' := .bool false) (congrArg Value.bool (decide_eq_false (by omega)))) rfl rfl rfl ?_
 refine WL.q (oq_assign rfl) rfl rfl rfl ?_
 refine WL.nil (WE.then_normal ?_)
 refine WC.cond_f rfl ?_
 refine WC.seq (WC.region ?_)
 refine WL.q ((oq_eql rfl rfl).to (v' := .bool true) (congrArg Value.bool (decide_eq_true (by omega)))) rfl rfl rfl ?_
 refine WL.q (oq_assign rfl) rfl rfl rfl ?_
 refine WL.nil (WE.then_normal ?_)
 refine WC.cond_t rfl ?_
 refine WC.seq (WC.seq (WC.region ?_))
 refine WL.q (oq_move rfl) rfl rfl rfl ?_
 refine WL.q ((oq_len_s Tryd.underlying9 rfl).to (v' := I 5) rfl) rfl rfl rfl ?_
 refine WL.q (oq_move rfl) rfl rfl rfl ?_
 refine WL.q ((oq_add rfl rfl (by rw [i64_lo, i64_hi]; omega)).to (v' := I 5) rfl) rfl rfl rfl ?_
 refine WL.q ((oq_geq rfl rfl).to (v' := .bool true) (congrArg Value.bool (decide_eq_true (by omega)))) rfl rfl rfl ?_
 refine WL.q (oq_move rfl) rfl rfl rfl ?_
 refine WL.q (oq_move rfl) rfl rfl rfl ?_
 refine WL.q (oq_move rfl) rfl rfl rfl ?_
 refine WL.q (oq_move rfl) rfl rfl rfl ?_
 refine WL.q ((oq_add rfl rfl (by rw [i64_lo, i64_hi]; omega)).to (v' := I 5) rfl) rfl rfl rfl ?_
 refine WL.q ((oq_slice_s2 Tryd.underlying9 rfl rfl rfl (by decide)).to (v' := S [50, 48, 48, 54]) rfl) rfl rfl rfl ?_
 refine WL.q ((oq_seql rfl rfl).to (v' := .bool true) (by kernel_rfl)) rfl rfl rfl ?_
 refine WL.q (oq_pick_t rfl rfl) rfl rfl rfl ?_
 refine WL.nil (WE.then_normal ?_)
 refine WC.cond_t rfl ?_
 refine WC.seq (WC.quiet (by kernel_rfl) (by kernel_rfl) ?_)
 refine WQ.q (oq_move rfl) rfl rfl rfl ?_
 refine WQ.q (oq_move rfl) rfl rfl rfl ?_
 refine WQ.q ((oq_slice_s2 Tryd.underlying9 rfl rfl rfl (by decide)).to (v' := S [32]) rfl) rfl rfl rfl ?_
 refine WQ.q (oq_move rfl) rfl rfl rfl ?_
 refine WQ.q (oq_move rfl) rfl rfl rfl ?_
 refine WQ.q ((oq_add rfl rfl (by rw [i64_lo, i64_hi]; omega)).to (v' := I 5) rfl) rfl rfl rfl ?_
 refine WQ.q ((oq_slice_s1 Tryd.underlying9 rfl rfl (by decide)).to (v' := S []) rfl) rfl rfl rfl ?_
 refine WQ.q (oq_assign rfl) rfl rfl rfl ?_
 refine WQ.q (oq_assign rfl) rfl rfl rfl ?_
 refine WQ.q (oq_assign rfl) rfl rfl rfl ?_
 refine WQ.nil (WE.then_normal (WC.ret (WE.then_ret (WE.block_ret (WE.block_ret (WE.then_ret (WE.then_ret (WE.block_ret (WE.then_ret ?_)))))))))
 refine WE.endR (.inl rfl) (res3 Tryd.results35 rfl rfl rfl) ?_
 rfl
set_option maxHeartbeats 2000000 in
theorem ch27 (G : Hp) (hT : Tab0 G) : FnR Tryd.prog 35 [S [44, 32, 95, 50, 32, 74, 97, 110, 32, 48, 54, 32, 49, 53, 58, 48, 52, 58, 48, 53, 32, 71, 77, 84]] G (.tuple #[S [44, 32], I 264, S [32, 74, 97, 110, 32, 48, 54, 32, 49, 53, 58, 48, 52, 58, 48, 53, 32, 71, 77, 84]]) := by
 obtain ⟨t0, f0, hm⟩ := hT
 refine FnR.enter (n := 654) Tryd.func35 rfl rfl fun w0 => ?_
 refine WC.sub (fr' := [(0, _)]) ?_ ⟨rfl, trivial⟩
 refine WC.seq (WC.region ?_)
 refine WL.q (oq_assign rfl) rfl rfl rfl ?_
 refine WL.q (oq_assign rfl) rfl rfl rfl ?_
 refine WL.q (oq_assign rfl) rfl rfl rfl ?_
 refine WL.nil (WE.then_normal (WC.seq (WC.seq (WC.region ?_))))
 refine WL.q (oq_assign rfl) rfl rfl rfl ?_
 refine WL.nil (WE.then_normal (WC.block ?_))
 refine WC.unroll ?_
 refine WC.seq (WC.seq (WC.region ?_))
 refine WL.q (oq_move rfl) rfl rfl rfl ?_
 refine WL.q (oq_move rfl) rfl rfl rfl ?_
 refine WL.q ((oq_len_s Tryd.underlying9 rfl).to (v' := I 24) rfl) rfl rfl rfl ?_
 refine WL.q ((oq_lss rfl rfl).to (v' := .bool true) (congrArg Value.bool (decide_eq_true (by omega)))) rfl rfl rfl ?_
 refine WL.nil (WE.then_normal ?_)
 refine WC.cond_t rfl ?_
 refine WC.skip (WE.then_normal (WC.seq (WC.block (WC.seq (WC.region ?_)))))
 refine WL.q (oq_move rfl) rfl rfl rfl ?_
 refine WL.q (oq_move rfl) rfl rfl rfl ?_
 refine WL.q ((oq_index_s Tryd.underlying9 rfl rfl (by decide)).to (v' := .int .u8 44) rfl) rfl rfl rfl ?_
 refine WL.q (oq_conv Tryd.underlying5 Tryd.underlying3 rfl (by rw [i64_lo, i64_hi]; omega)) rfl rfl rfl ?_
 refine WL.q (oq_assign rfl) rfl rfl rfl ?_
 refine WL.nil (WE.then_normal (WC.seq (WC.region ?_)))
 refine WL.q (oq_move rfl) rfl rfl rfl ?_
 refine WL.nil (WE.then_normal (WC.block (WC.seq (WC.region ?_))))
 refine WL.q ((oq_eql rfl rfl).to (v' := .bool false) (congrArg Value.bool (decide_eq_false (by omega)))) rfl rfl rfl ?_
 refine WL.q (oq_assign rfl) rfl rfl rfl ?_
 refine WL.nil (WE.then_normal ?_)
 refine WC.cond_f rfl ?_
 refine WC.seq (WC.region ?_)
 refine WL.q ((oq_eql rfl rfl).to (v' := .bool false) (congrArg Value.bool (decide_eq_false (by omega)))) rfl rfl rfl ?_
 refine WL.q (oq_assign rfl) rfl rfl rfl ?_
 refine WL.nil (WE.then_normal ?_)
 refine WC.cond_f rfl ?_
 refine WC.seq (WC.region ?_)
 refine WL.q ((oq_eql rfl rfl).to (v' := .bool false) (congrArg Value.bool (decide_eq_false (by omega)))) rfl rfl rfl ?_
 refine WL.q (oq_assign rfl) rfl rfl rfl ?_
 refine WL.nil (WE.then_normal ?_)
 refine WC.cond_f rfl ?_
 refine WC.seq (WC.region ?_)
 refine WL.q ((oq_eql rfl rfl).to (v' := .bool false) (congrArg Value.bool (decide_eq_false (by omega)))) rfl rfl rfl ?_
 refine WL.q (oq_assign rfl) rfl rfl rfl ?_
 refine WL.nil (WE.then_normal ?_)
 refine WC.cond_f rfl ?_
 refine WC.seq (WC.region ?_)
 refine WL.q ((oq_eql rfl rfl).to (v' := .bool false) (congrArg Value.bool (decide_eq_false (by omega)))) rfl rfl rfl ?_
 refine WL.q (oq_assign rfl) rfl rfl rfl ?_
 refine WL.nil (WE.then_normal ?_)
 refine WC.cond_f rfl ?_
 refine WC.seq (WC.region ?_)
 refine WL.q ((oq_eql rfl rfl).to (v' := .bool false) (congrArg Value.bool (decide_eq_false (by omega)))) rfl rfl rfl ?_
 refine WL.q (oq_assign rfl) rfl rfl rfl ?_
 refine WL.nil (WE.then_normal ?_)
 refine WC.cond_f rfl ?_
 refine WC.seq (WC.region ?_)
 refine WL.q ((oq_eql rfl rfl).to (v' := .bool false) (congrArg Value.bool (decide_eq_false (by omega)))) rfl rfl rfl ?_
 refine WL.q (oq_assign rfl) rfl rfl rfl ?_
 refine WL.nil (WE.then_normal ?_)
 refine WC.cond_f rfl ?_
 refine WC.seq (WC.region ?_)
 refine WL.q ((oq_eql rfl rfl).to (v' := .bool false) (congrArg Value.bool (decide_eq_false (by omega)))) rfl rfl rfl ?_
 refine WL.q (oq_assign rfl) rfl rfl rfl ?_
 refine WL.nil (WE.then_normal ?_)
 refine WC.cond_f rfl ?_
 refine WC.seq (WC.region ?_)
 refine WL.q ((oq_eql rfl rfl).to (v' := .bool false) (congrArg Value.bool (decide_eq_false (by omega)))) rfl rfl rfl ?_
 refine WL.q (oq_assign rfl) rfl rfl rfl ?_
 refine WL.nil (WE.then_normal ?_)
 refine WC.cond_f rfl ?_
 refine WC.seq (WC.region ?_)
 refine WL.q ((oq_eql rfl rfl).to (v' := .bool false) (congrArg Value.bool (decide_eq_false (by omega)))) rfl rfl rfl ?_
 refine WL.q (oq_assign rfl) rfl rfl rfl ?_
 refine WL.nil (WE.then_normal ?_)
 refine WC.cond_f rfl ?_
 refine WC.seq (WC.region ?_)
 refine WL.q ((oq_eql rfl rfl).to (v' := .bool false) (congrArg Value.bool (decide_eq_false (by omega)))) rfl rfl rfl ?_
 refine WL.q (oq_assign rfl) rfl rfl rfl ?_
 refine WL.nil (WE.then_normal ?_)
 refine WC.cond_f rfl ?_
 refine WC.seq (WC.region ?_)
 refine WL.q ((oq_eql rfl rfl).to (v' := .bool false) (congrArg Value.bool (decide_eq_false (by omega)))) rfl rfl rfl ?_
 refine WL.q (oq_assign rfl) rfl rfl rfl ?_
 refine WL.nil (WE.then_normal ?_)
 refine WC.cond_f rfl ?_
 refine WC.seq (WC.region ?_)
 refine WL.q ((oq_eql rfl rfl).to (v' := .bool false) (congrArg Value.bool (decide_eq_false (by omega)))) rfl rfl rfl ?_
 refine WL.q (oq_assign rfl) rfl rfl rfl ?_
 refine WL.nil (WE.then_normal ?_)
 refine WC.cond_f rfl ?_
 refine WC.seq (WC.seq (WC.region ?_))
 refine WL.q ((oq_eql rfl rfl).to (v' := .bool false) (congrArg Value.bool (decide_eq_false (by omega)))) rfl rfl rfl ?_
 refine WL.q (oq_assign rfl) rfl rfl rfl ?_
 refine WL.nil (WE.then_normal ?_)
 refine WC.cond_f rfl ?_
 refine WC.region ?_
 refine WL.q ((oq_eql rfl rfl).to (v' := .bool true) (congrArg Value.bool (decide_eq_true (by omega)))) rfl rfl rfl ?_
 refine WL.q (oq_assign rfl) rfl rfl rfl ?_
 refine WL.nil (WE.then_normal ?_)
 refine WC.cond_t rfl ?_
 refine WC.seq (WC.region ?_)
 refine WL.q (oq_move rfl) rfl rfl rfl ?_
 refine WL.q ((oq_add rfl rfl (by rw [i64_lo, i64_hi]; omega)).to (v' := I 1) rfl) rfl rfl rfl ?_
 refine WL.q (oq_move rfl) rfl rfl rfl ?_
 refine WL.q ((oq_len_s Tryd.underlying9 rfl).to (v' := I 24) rfl) rfl rfl rfl ?_
 refine WL.q ((oq_lss rfl rfl).to (v' := .bool true) (congrArg Value.bool (decide_eq_true (by omega)))) rfl rfl rfl ?_
 refine WL.q (oq_move rfl) rfl rfl rfl ?_
 refine WL.q (oq_move rfl) rfl rfl rfl ?_
 refine WL.q (oq_move rfl) rfl rfl rfl ?_
 refine WL.q ((oq_add rfl rfl (by rw [i64_lo, i64_hi]; omega)).to (v' := I 1) rfl) rfl rfl rfl ?_
 refine WL.q ((oq_index_s Tryd.underlying9 rfl rfl (by decide)).to (v' := .int .u8 32) rfl) rfl rfl rfl ?_
 refine WL.q ((oq_eql rfl rfl).to (v' := .bool false) (congrArg Value.bool (decide_eq_false (by omega)))) rfl rfl rfl ?_
 refine WL.q (oq_move rfl) rfl rfl rfl ?_
 refine WL.q (oq_move rfl) rfl rfl rfl ?_
 refine WL.q (oq_move rfl) rfl rfl rfl ?_
 refine WL.q ((oq_add rfl rfl (by rw [i64_lo, i64_hi]; omega)).to (v' := I 1) rfl) rfl rfl rfl ?_
 refine WL.q ((oq_index_s Tryd.underlying9 rfl rfl (by decide)).to (v' := .int .u8 32) rfl) rfl rfl rfl ?_
 refine WL.q ((oq_eql rfl rfl).to (v' := .bool false) (congrArg Value.bool (decide_eq_false (by omega)))) rfl rfl rfl ?_
 refine WL.q (oq_pick_f rfl rfl) rfl rfl rfl ?_
 refine WL.q (oq_pick_t rfl rfl) rfl rfl rfl ?_
 refine WL.nil (WE.then_normal (WC.sub (fr' := [(0, _), (5, _), (6, _), (610, _)]) ?_ ⟨rfl, rfl, rfl, rfl, trivial⟩))
 refine WC.cond_f rfl ?_
 refine WC.skip (WE.block_normal (WE.block_normal (WE.then_normal (WC.region ?_))))
 refine WL.q (oq_move rfl) rfl rfl rfl ?_
 refine WL.q ((oq_add rfl rfl (by rw [i64_lo, i64_hi]; omega)).to (v' := I 1) rfl) rfl rfl rfl ?_
 refine WL.q (oq_assign rfl) rfl rfl rfl ?_
 refine WL.nil ?_
 refine WE.round ?_
 refine WC.sub (fr' := [(0, _), (5, _)]) ?_ ⟨rfl, rfl, trivial⟩
 refine WC.seq (WC.seq (WC.region ?_))
 refine WL.q (oq_move rfl) rfl rfl rfl ?_
 refine WL.q (oq_move rfl) rfl rfl rfl ?_
 refine WL.q ((oq_len_s Tryd.underlying9 rfl).to (v' := I 24) rfl) rfl rfl rfl ?_
 refine WL.q ((oq_lss rfl rfl).to (v' := .bool true) (congrArg Value.bool (decide_eq_true (by omega)))) rfl rfl rfl ?_
 refine WL.nil (WE.then_normal ?_)
 refine WC.cond_t rfl ?_
 refine WC.skip (WE.then_normal (WC.seq (WC.block (WC.seq (WC.region ?_)))))
 refine WL.q (oq_move rfl) rfl rfl rfl ?_
 refine WL.q (oq_move rfl) rfl rfl rfl ?_
 refine WL.q ((oq_index_s Tryd.underlying9 rfl rfl (by decide)).to (v' := .int .u8 32) rfl) rfl rfl rfl ?_
 refine WL.q (oq_conv Tryd.underlying5 Tryd.underlying3 rfl (by rw [i64_lo, i64_hi]; omega)) rfl rfl rfl ?_
 refine WL.q (oq_assign rfl) rfl rfl rfl ?_
 refine WL.nil (WE.then_normal (WC.seq (WC.region ?_)))
 refine WL.q (oq_move rfl) rfl rfl rfl ?_
 refine WL.nil (WE.then_normal (WC.block (WC.seq (WC.region ?_))))
 refine WL.q ((oq_eql rfl rfl).to (v' := .bool false) (congrArg Value.bool (decide_eq_false (by omega)))) rfl rfl rfl ?_
 refine WL.q (oq_assign rfl) rfl rfl rfl ?_
 refine WL.nil (WE.then_normal ?_)
 refine WC.cond_f rfl ?_
 refine WC.seq (WC.region ?_)
 refine WL.q ((oq_eql rfl rfl).to (v' := .bool false) (congrArg Value.bool (decide_eq_false (by omega)))) rfl rfl rfl ?_
 refine WL.q (oq_assign rfl) rfl rfl rfl ?_
 refine WL.nil (WE.then_normal ?_)
 refine WC.cond_f rfl ?_
 refine WC.seq (WC.region ?_)
 refine WL.q ((oq_eql rfl rfl).to (v' := .bool false) (congrArg Value.bool (decide_eq_false (by omega)))) rfl rfl rfl ?_
 refine WL.q (oq_assign rfl) rfl rfl rfl ?_
 refine WL.nil (WE.then_normal ?_)
 refine WC.cond_f rfl ?_
 refine WC.seq (WC.region ?_)
 refine WL.q ((oq_eql rfl rfl).to (v' := .bool false) (congrArg Value.bool (decide_eq_false (by omega)))) rfl rfl rfl ?_
 refine WL.q (oq_assign rfl) rfl rfl rfl ?_
 refine WL.nil (WE.then_normal ?_)
 refine WC.cond_f rfl ?_
 refine WC.seq (WC.region ?_)
 refine WL.q ((oq_eql rfl rfl).to (v' := .bool false) (congrArg Value.bool (decide_eq_false (by omega)))) rfl rfl rfl ?_
 refine WL.q (oq_assign rfl) rfl rfl rfl ?_
 refine WL.nil (WE.then_normal ?_)
 refine WC.cond_f rfl ?_
 refine WC.seq (WC.region ?_)
 refine WL.q ((oq_eql rfl rfl).to (v' := .bool false) (congrArg Value.bool (decide_eq_false (by omega)))) rfl rfl rfl ?_
 refine WL.q (oq_assign rfl) rfl rfl rfl ?_
 refine WL.nil (WE.then_normal ?_)
 refine WC.cond_f rfl ?_
 refine WC.seq (WC.region ?_)
 refine WL.q ((oq_eql rfl rfl).to (v' := .bool false) (congrArg Value.bool (decide_eq_false (by omega)))) rfl rfl rfl ?_
 refine WL.q (oq_assign rfl) rfl rfl rfl ?_
 refine WL.nil (WE.then_normal ?_)
 refine WC.cond_f rfl ?_
 refine WC.seq (WC.region ?_)
 refine WL.q ((oq_eql rfl rfl).to (v' := .bool false) (congrArg Value.bool (decide_eq_false (by omega)))) rfl rfl rfl ?_
 refine WL.q (oq_assign rfl) rfl rfl rfl ?_
 refine WL.nil (WE.then_normal ?_)
 refine WC.cond_f rfl ?_
 refine WC.seq (WC.region ?_)
 refine WL.q ((oq_eql rfl rfl).to (v' := .bool false) (congrArg Value.bool (decide_eq_false (by omega)))) rfl rfl rfl ?_
 refine WL.q (oq_assign rfl) rfl rfl rfl ?_
 refine WL.nil (WE.then_normal ?_)
 refine WC.cond_f rfl ?_
 refine WC.seq (WC.region ?_)
 refine WL.q ((oq_eql rfl rfl).to (v' := .bool false) (congrArg Value.bool (decide_eq_false (by omega)))) rfl rfl rfl ?_
 refine WL.q (oq_assign rfl) rfl rfl rfl ?_
 refine WL.nil (WE.then_normal ?_)
 refine WC.cond_f rfl ?_
 refine WC.seq (WC.region ?_)
 refine WL.q ((oq_eql rfl rfl).to (v' := .bool false) (congrArg Value.bool (decide_eq_false (by omega)))) rfl rfl rfl ?_
 refine WL.q (oq_assign rfl) rfl rfl rfl ?_
 refine WL.nil (WE.then_normal ?_)
 refine WC.cond_f rfl ?_
 refine WC.seq (WC.region ?_)
 refine WL.q ((oq_eql rfl rfl).to (v' := .bool false) (congrArg Value.bool (decide_eq_false (by omega)))) rfl rfl rfl ?_
 refine WL.q (oq_assign rfl) rfl rfl rfl ?_
 refine WL.nil (WE.then_normal ?_)
 refine WC.cond_f rfl ?_
 refine WC.seq (WC.region ?_)
 refine WL.q ((oq_eql rfl rfl).to (v' := .bool false) (congrArg Value.bool (decide_eq_false (by omega)))) rfl rfl rfl ?_
 refine WL.q (oq_assign rfl) rfl rfl rfl ?_
 refine WL.nil (WE.then_normal ?_)
 refine WC.cond_f rfl ?_
 refine WC.seq (WC.seq (WC.region ?_))
 refine WL.q ((oq_eql rfl rfl).to (v' := .bool false) (congrArg Value.bool (decide_eq_false (by omega)))) rfl rfl rfl ?_
 refine WL.q (oq_assign rfl) rfl rfl rfl ?_
 refine WL.nil (WE.then_normal ?_)
 refine WC.cond_f rfl ?_
 refine WC.region ?_
 refine WL.q ((oq_eql rfl rfl).to (v' := .bool false) (congrArg Value.bool (decide_eq_false (by omega)))) rfl rfl rfl ?_
 refine WL.q (oq_assign rfl) rfl rfl rfl ?_
 refine WL.nil (WE.then_normal ?_)
 refine WC.cond_f rfl ?_
 refine WC.skip (WE.block_normal (WE.block_normal (WE.then_normal (WC.region ?_))))
 refine WL.q (oq_move rfl) rfl rfl rfl ?_
 refine WL.q ((oq_add rfl rfl (by rw [i64_lo, i64_hi]; omega)).to (v' := I 2) rfl) rfl rfl rfl ?_
 refine WL.q (oq_assign rfl) rfl rfl rfl ?_
 refine WL.nil ?_
 refine WE.round ?_
 refine WC.sub (fr' := [(0, _), (5, _)]) ?_ ⟨rfl, rfl, trivial⟩
 refine WC.seq (WC.seq (WC.region ?_))
 refine WL.q (oq_move rfl) rfl rfl rfl ?_
 refine WL.q (oq_move rfl) rfl rfl rfl ?_
 refine WL.q ((oq_len_s Tryd.underlying9 rfl).to (v' := I 24) rfl) rfl rfl rfl ?_
 refine WL.q ((oq_lss rfl rfl).to (v' := .bool true) (congrArg Value.bool (decide_eq_true (by omega)))) rfl rfl rfl ?_
 refine WL.nil (WE.then_normal ?_)
 refine WC.cond_t rfl ?_
 refine WC.skip (WE.then_normal (WC.seq (WC.block (WC.seq (WC.region ?_)))))
 refine WL.q (oq_move rfl) rfl rfl rfl ?_
 refine WL.q (oq_move rfl) rfl rfl rfl ?_
 refine WL.q ((oq_index_s Tryd.underlying9 rfl rfl (by decide)).to (v' := .int .u8 95) rfl) rfl rfl rfl ?_
 refine WL.q (oq_conv Tryd.underlying5 Tryd.underlying3 rfl (by rw [i64_lo, i64_hi]; omega)) rfl rfl rfl ?_
 refine WL.q (oq_assign rfl) rfl rfl rfl ?_
 refine WL.nil (WE.then_normal (WC.seq (WC.region ?_)))
 refine WL.q (oq_move rfl) rfl rfl rfl ?_
 refine WL.nil (WE.then_normal (WC.block (WC.seq (WC.region ?_))))
 refine WL.q ((oq_eql rfl rfl).to (v' := .bool false) (congrArg Value.bool (decide_eq_false (by omega)))) rfl rfl rfl ?_
 refine WL.q (oq_assign rfl) rfl rfl rfl ?_
 refine WL.nil (WE.then_normal ?_)
 refine WC.cond_f rfl ?_
 refine WC.seq (WC.region ?_)
 refine WL.q ((oq_eql rfl rfl).to (v' := .bool false) (congrArg Value.bool (decide_eq_false (by omega)))) rfl rfl rfl ?_
 refine WL.q (oq_assign rfl) rfl rfl rfl ?_
 refine WL.nil (WE.then_normal (WC.sub (fr' := [(0, _), (5, _), (6, _), (21, _), (70, _)]) ?_ ⟨rfl, rfl, rfl, rfl, rfl, trivial⟩))
 refine WC.cond_f rfl ?_
 refine WC.seq (WC.region ?_)
 refine WL.q ((oq_eql rfl rfl).to (v' := .bool false) (congrArg Value.bool (decide_eq_false (by omega)))) rfl rfl rfl ?_
 refine WL.q (oq_assign rfl) rfl rfl rfl ?_
 refine WL.nil (WE.then_normal ?_)
 refine WC.cond_f rfl ?_
 refine WC.seq (WC.region ?_)
 refine WL.q ((oq_eql rfl rfl).to (v' := .bool false) (congrArg Value.bool (decide_eq_false (by omega)))) rfl rfl rfl ?_
 refine WL.q (oq_assign rfl) rfl rfl rfl ?_
 refine WL.nil (WE.then_normal ?_)
 refine WC.cond_f rfl ?_
 refine WC.seq (WC.region ?_)
 refine WL.q ((oq_eql rfl rfl).to (v' := .bool false) (congrArg Value.bool (decide_eq_false (by omega)))) rfl rfl rfl ?_
 refine WL.q (oq_assign rfl) rfl rfl rfl ?_
 refine WL.nil (WE.then_normal ?_)
 refine WC.cond_f rfl ?_
 refine WC.seq (WC.region ?_)
 refine WL.q ((oq_eql rfl rfl).to (v' := .bool true) (congrArg Value.bool (decide_eq_true (by omega)))) rfl rfl rfl ?_
 refine WL.q (oq_assign rfl) rfl rfl rfl ?_
 refine WL.nil (WE.then_normal ?_)
 refine WC.cond_t rfl ?_
 refine WC.seq (WC.seq (WC.region ?_))
 refine WL.q (oq_move rfl) rfl rfl rfl ?_
 refine WL.q ((oq_len_s Tryd.underlying9 rfl).to (v' := I 24) rfl) rfl rfl rfl ?_
 refine WL.q (oq_move rfl) rfl rfl rfl ?_
 refine WL.q ((oq_add rfl rfl (by rw [i64_lo, i64_hi]; omega)).to (v' := I 4) rfl) rfl rfl rfl ?_
 refine WL.q ((oq_geq rfl rfl).to (v' := .bool true) (congrArg Value.bool (decide_eq_true (by omega)))) rfl rfl rfl ?_
 refine WL.q (oq_move rfl) rfl rfl rfl ?_
 refine WL.q (oq_move rfl) rfl rfl rfl ?_
 refine WL.q (oq_move rfl) rfl rfl rfl ?_
 refine WL.q ((oq_add rfl rfl (by rw [i64_lo, i64_hi]; omega)).to (v' := I 3) rfl) rfl rfl rfl ?_
 refine WL.q ((oq_index_s Tryd.underlying9 rfl rfl (by decide)).to (v' := .int .u8 50) rfl) rfl rfl rfl ?_
 refine WL.q ((oq_eql rfl rfl).to (v' := .bool true) (congrArg Value.bool (decide_eq_true (by omega)))) rfl rfl rfl ?_
 refine WL.q (oq_pick_t rfl rfl) rfl rfl rfl ?_
 refine WL.nil (WE.then_normal ?_)
 refine WC.cond_t rfl ?_
 refine WC.seq (WC.seq (WC.region ?_))
 refine WL.q (oq_move rfl) rfl rfl rfl ?_
 refine WL.q ((oq_len_s Tryd.underlying9 rfl).to (v' := I 24) rfl) rfl rfl rfl ?_
 refine WL.q (oq_move rfl) rfl rfl rfl ?_
 refine WL.q ((oq_add rfl rfl (by rw [i64_lo, i64_hi]; omega)).to (v' := I 7) rfl) rfl rfl rfl ?_
 refine WL.q ((oq_geq rfl rfl).to (v' := .bool true) (congrArg Value.bool (decide_eq_true (by omega)))) rfl rfl rfl ?_
 refine WL.q (oq_move rfl) rfl rfl rfl ?_
 refine WL.q (oq_move rfl) rfl rfl rfl ?_
 refine WL.q (oq_move rfl) rfl rfl rfl ?_
 refine WL.q ((oq_add rfl rfl (by rw [i64_lo, i64_hi]; omega)).to (v' := I 3) rfl) rfl rfl rfl ?_
 refine WL.q (oq_move rfl) rfl rfl rfl ?_
 refine WL.q ((oq_add rfl rfl (by rw [i64_lo, i64_hi]; omega)).to (v' := I 7) rfl) rfl rfl rfl ?_
 refine WL.q ((oq_slice_s2 Tryd.underlying9 rfl rfl rfl (by decide)).to (v' := S [50, 32, 74, 97]) rfl) rfl rfl rfl ?_
 refine WL.q ((oq_seql rfl rfl).to (v' := .bool false) (by kernel_rfl)) rfl rfl rfl ?_
 refine WL.q (oq_pick_t rfl rfl) rfl rfl rfl ?_
 refine WL.nil (WE.then_normal ?_)
 refine WC.cond_f rfl ?_
 refine WC.skip (WE.then_normal (WC.seq (WC.quiet (by kernel_rfl) (by kernel_rfl) ?_)))
 refine WQ.q (oq_move rfl) rfl rfl rfl ?_
 refine WQ.q (oq_move rfl) rfl rfl rfl ?_
 refine WQ.q ((oq_slice_s2 Tryd.underlying9 rfl rfl rfl (by decide)).to (v' := S [44, 32]) rfl) rfl rfl rfl ?_
 refine WQ.q (oq_move rfl) rfl rfl rfl ?_
 refine WQ.q (oq_move rfl) rfl rfl rfl ?_
 refine WQ.q ((oq_add rfl rfl (by rw [i64_lo, i64_hi]; omega)).to (v' := I 4) rfl) rfl rfl rfl ?_
 refine WQ.q ((oq_slice_s1 Tryd.underlying9 rfl rfl (by decide)).to (v' := S [32, 74, 97, 110, 32, 48, 54, 32, 49, 53, 58, 48, 52, 58, 48, 53, 32, 71, 77, 84]) rfl) rfl rfl rfl ?_
 refine WQ.q (oq_assign rfl) rfl rfl rfl ?_
 refine WQ.q (oq_assign rfl) rfl rfl rfl ?_
 refine WQ.q (oq_assign rfl) rfl rfl rfl ?_
 refine WQ.nil (WE.then_normal (WC.ret (WE.then_ret (WE.block_ret (WE.block_ret (WE.then_ret (WE.then_ret (WE.block_ret (WE.then_ret ?_)))))))))
 refine WE.endR (.inl rfl) (res3 Tryd.results35 rfl rfl rfl) ?_
 rfl
end TX3
end Go.Proofs.YtcfhfdengfcfpaaDoor
