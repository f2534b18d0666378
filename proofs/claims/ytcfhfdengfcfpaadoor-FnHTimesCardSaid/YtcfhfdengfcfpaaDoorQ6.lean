/- Forms that do not fit. -/
import Derived.Test.YtcfhfdengfcfpaaDoorQ1
import Derived.Test.YtcfhfdengfcfpaaDoorQ2
import Derived.Test.YtcfhfdengfcfpaaDoorQ3
namespace Go.Proofs.YtcfhfdengfcfpaaDoor
open Go Go.RowKit V T0 T1 T2 T4 T5 T6 T7 T8 T9 U0 TX0 TX1 TX2 TX3 U1
set_option linter.unusedSimpArgs false
set_option linter.unusedVariables false
set_option maxRecDepth 10000
namespace U4
theorem call35 : Callable Tryd.prog 35 := ⟨_, Tryd.func35, rfl, by kernel_rfl⟩
theorem call36 : Callable Tryd.prog 36 := ⟨_, Tryd.func36, rfl, by kernel_rfl⟩
theorem call37 : Callable Tryd.prog 37 := ⟨_, Tryd.func37, rfl, by kernel_rfl⟩
theorem call39 : Callable Tryd.prog 39 := ⟨_, Tryd.func39, rfl, by kernel_rfl⟩
theorem call42 : Callable Tryd.prog 42 := ⟨_, Tryd.func42, rfl, by kernel_rfl⟩
theorem flat33 : Flat Tryd.prog 33 := ⟨_, Tryd.underlying33, by simp⟩
theorem ty37 : Ty Tryd.prog 37 (.agg #[(.int .i64 0), (.int .i32 0), (S []), (.int .i64 0)]) 4 40 := ty_of (by kernel_rfl)
theorem agg37 : Agg Tryd.prog 37 := agg_of Tryd.underlying37
theorem str37 : Str Tryd.prog 37 #[(0, 1), (1, 1), (2, 1), (3, 1)] := ⟨_, Tryd.underlying37, fun w => by kernel_rfl⟩
set_option maxHeartbeats 20000000 in
theorem bad4_1 (G : Hp) (k0 : TypeId) (u0 : Value) (hL : LT G k0 u0) (w : Nat) (hw : w < 7) (d mo y hh mm ss : Nat) (hmo : mo < 12) : FnA Tryd.prog 27 [S [77, 111, 110, 44, 32, 48, 50, 32, 74, 97, 110, 32, 50, 48, 48, 54, 32, 49, 53, 58, 48, 52, 58, 48, 53, 32, 71, 77, 84], S (nameAt fulls w ++ [44, 32, (hi d), (lo d), 45, (mb mo 0), (mb mo 1), (mb mo 2), 45, (hi y), (lo y), 32, (hi hh), (lo hh), 58, (hi mm), (lo mm), 58, (hi ss), (lo ss), 32, 71, 77, 84])] G (parseBad) := by
 obtain ⟨hE, hT, sv, ⟨tl, fl, hml⟩, hsv⟩ := hL
 refine FnA.enter (n := 852) Tryd.func27 rfl rfl fun w0 => ?_
 refine WC.sub (fr' := [(0, _), (1, _)]) ?_ ⟨rfl, rfl, trivial⟩
 refine WC.seq (WC.region ?_)
 refine WL.alloc ty37 rfl rfl fun tb htb => ?_
 refine WL.q (oq_assign rfl) rfl rfl rfl ?_
 refine WL.nil (WE.then_normal (WC.seq (WC.region ?_)))
 refine WL.q (oq_move rfl) rfl rfl rfl ?_
 refine WL.q (oq_move rfl) rfl rfl rfl ?_
 refine WL.q (oq_assign rfl) rfl rfl rfl ?_
 refine WL.q (oq_assign rfl) rfl rfl rfl ?_
 refine WL.nil (WE.then_normal (WC.seq (WC.region ?_)))
 refine WL.q (oq_assign rfl) rfl rfl rfl ?_
 refine WL.nil (WE.then_normal (WC.seq (WC.region ?_)))
 refine WL.q (oq_assign rfl) rfl rfl rfl ?_
 refine WL.nil (WE.then_normal (WC.seq (WC.region ?_)))
 refine WL.q (oq_assign rfl) rfl rfl rfl ?_
 refine WL.nil (WE.then_normal (WC.seq (WC.region ?_)))
 refine WL.q (oq_assign rfl) rfl rfl rfl ?_
 refine WL.nil (WE.then_normal (WC.seq (WC.region ?_)))
 refine WL.q (oq_assign rfl) rfl rfl rfl ?_
 refine WL.nil (WE.then_normal (WC.seq (WC.region ?_)))
 refine WL.q (oq_assign rfl) rfl rfl rfl ?_
 refine WL.nil (WE.then_normal (WC.seq (WC.region ?_)))
 refine WL.q (oq_assign rfl) rfl rfl rfl ?_
 refine WL.nil (WE.then_normal (WC.seq (WC.region ?_)))
 refine WL.q (oq_assign rfl) rfl rfl rfl ?_
 refine WL.nil (WE.then_normal (WC.seq (WC.region ?_)))
 refine WL.q (oq_assign rfl) rfl rfl rfl ?_
 refine WL.nil (WE.then_normal (WC.seq (WC.region ?_)))
 refine WL.q (oq_assign rfl) rfl rfl rfl ?_
 refine WL.nil (WE.then_normal (WC.seq (WC.region ?_)))
 refine WL.q (oq_assign rfl) rfl rfl rfl ?_
 refine WL.nil (WE.then_normal (WC.seq (WC.region ?_)))
 refine WL.q (oq_assign rfl) rfl rfl rfl ?_
 refine WL.nil (WE.then_normal (WC.seq (WC.region ?_)))
 refine WL.q (oq_assign rfl) rfl rfl rfl ?_
 refine WL.nil (WE.then_normal (WC.seq (WC.region ?_)))
 refine WL.q (oq_assign rfl) rfl rfl rfl ?_
 refine WL.nil (WE.then_normal (WC.seq (WC.block ?_)))
 refine WC.unroll ?_
 refine WC.block (WC.seq (WC.region ?_))
 refine WL.q (oq_assign rfl) rfl rfl rfl ?_
 refine WL.nil (WE.then_normal (WC.seq (WC.region ?_)))
 refine WL.q (oq_move rfl) rfl rfl rfl ?_
 refine WL.qc (oq_callRm (ch0 G hT) (.tail _ (.head _)) call35 rfl) rfl rfl rfl ?_
 refine WL.q (oq_move rfl) rfl rfl rfl ?_
 refine WL.q (oq_extract rfl rfl) rfl rfl rfl ?_
 refine WL.q (oq_extract rfl rfl) rfl rfl rfl ?_
 refine WL.q (oq_extract rfl rfl) rfl rfl rfl ?_
 refine WL.q (oq_assign rfl) rfl rfl rfl ?_
 refine WL.q (oq_assign rfl) rfl rfl rfl ?_
 refine WL.q (oq_assign rfl) rfl rfl rfl ?_
 refine WL.nil (WE.then_normal (WC.seq (WC.region ?_)))
 refine WL.q (oq_move rfl) rfl rfl rfl ?_
 refine WL.q (oq_move rfl) rfl rfl rfl ?_
 refine WL.q ((oq_len_s Tryd.underlying9 rfl).to (v' := I 0) rfl) rfl rfl rfl ?_
 refine WL.q (oq_move rfl) rfl rfl rfl ?_
 refine WL.q ((oq_len_s Tryd.underlying9 rfl).to (v' := I 29) rfl) rfl rfl rfl ?_
 refine WL.q (oq_move rfl) rfl rfl rfl ?_
 refine WL.q ((oq_len_s Tryd.underlying9 rfl).to (v' := I 26) rfl) rfl rfl rfl ?_
 refine WL.q ((oq_sub rfl rfl (by rw [i64_lo, i64_hi]; omega)).to (v' := I 3) rfl) rfl rfl rfl ?_
 refine WL.q ((oq_slice_s2 Tryd.underlying9 rfl rfl rfl (by first | decide | simp)).to (v' := S [77, 111, 110]) rfl) rfl rfl rfl ?_
 refine WL.q (oq_assign rfl) rfl rfl rfl ?_
 refine WL.nil (WE.then_normal (WC.seq (WC.region ?_)))
 refine WL.q (oq_move rfl) rfl rfl rfl ?_
 refine WL.q (oq_move rfl) rfl rfl rfl ?_
 refine WL.qc (oq_callRm (skipY hE (nameAt fulls w ++ [44, 32, (hi d), (lo d), 45, (mb mo 0), (mb mo 1), (mb mo 2), 45, (hi y), (lo y), 32, (hi hh), (lo hh), 58, (hi mm), (lo mm), 58, (hi ss), (lo ss), 32, 71, 77, 84]) [] _ (full_len w hw _ (by simp)) (by simp) rfl) (.tail _ (.head _)) call36 rfl) rfl rfl rfl ?_
 refine WL.q (oq_move rfl) rfl rfl rfl ?_
 refine WL.q (oq_extract rfl rfl) rfl rfl rfl ?_
 refine WL.q (oq_extract rfl rfl) rfl rfl rfl ?_
 refine WL.q (oq_assign rfl) rfl rfl rfl ?_
 refine WL.q (oq_assign rfl) rfl rfl rfl ?_
 refine WL.nil (WE.then_normal (WC.seq (WC.seq (WC.region ?_))))
 refine WL.q (oq_move rfl) rfl rfl rfl ?_
 refine WL.q ((oq_ineq Tryd.underlying39 rfl (.inl rfl)).to (v' := .bool false) rfl) rfl rfl rfl ?_
 refine WL.nil (WE.then_normal ?_)
 refine WC.cond_f rfl ?_
 refine WC.skip (WE.then_normal (WC.seq (WC.seq (WC.region ?_))))
 refine WL.q (oq_move rfl) rfl rfl rfl ?_
 refine WL.q ((oq_eql rfl rfl).to (v' := .bool false) (congrArg Value.bool (decide_eq_false (by omega)))) rfl rfl rfl ?_
 refine WL.nil (WE.then_normal ?_)
 refine WC.cond_f rfl ?_
 refine WC.skip (WE.then_normal (WC.seq (WC.region ?_)))
 refine WL.q (oq_move rfl) rfl rfl rfl ?_
 refine WL.q (oq_assign rfl) rfl rfl rfl ?_
 refine WL.nil (WE.then_normal (WC.seq (WC.region ?_)))
 refine WL.q (oq_assign rfl) rfl rfl rfl ?_
 refine WL.nil (WE.then_normal (WC.seq (WC.region ?_)))
 refine WL.q (oq_move rfl) rfl rfl rfl ?_
 refine WL.q (oq_assign rfl) rfl rfl rfl ?_
 refine WL.nil (WE.then_normal (WC.seq (WC.seq (WC.region ?_))))
 refine WL.q (oq_move rfl) rfl rfl rfl ?_
 refine WL.q ((oq_bits (op := .and) rfl rfl (by simp)).to (v' := I 262) (by kernel_rfl)) rfl rfl rfl ?_
 refine WL.nil (WE.then_normal (WC.block (WC.seq (WC.block (WC.seq (WC.block (WC.seq (WC.block (WC.seq (WC.block (WC.seq (WC.block (WC.seq (WC.block (WC.seq (WC.block (WC.seq (WC.block (WC.seq (WC.block (WC.seq (WC.block (WC.seq (WC.block (WC.seq (WC.block (WC.seq (WC.block (WC.seq (WC.block (WC.seq (WC.block (WC.seq (WC.block (WC.seq (WC.block (WC.seq (WC.block (WC.seq (WC.block (WC.seq (WC.block (WC.seq (WC.seq (WC.seq (WC.region ?_))))))))))))))))))))))))))))))))))))))))))))))
 refine WL.q ((oq_eql rfl rfl).to (v' := .bool false) (congrArg Value.bool (decide_eq_false (by omega)))) rfl rfl rfl ?_
 refine WL.q (oq_assign rfl) rfl rfl rfl ?_
 refine WL.nil (WE.then_normal (WC.sub (fr' := [(0, _), (1, _), (4, _), (6, _), (7, _), (8, _), (9, _), (10, _), (11, _), (12, _), (13, _), (14, _), (15, _), (16, _), (17, _), (18, _), (19, _), (20, _), (21, _), (22, _), (24, _), (26, _), (28, _), (91, _), (92, _)]) ?_ ⟨rfl, rfl, rfl, rfl, rfl, rfl, rfl, rfl, rfl, rfl, rfl, rfl, rfl, rfl, rfl, rfl, rfl, rfl, rfl, rfl, rfl, rfl, rfl, rfl, rfl, trivial⟩))
 refine WC.cond_f rfl ?_
 refine WC.skip (WE.then_normal (WC.seq (WC.seq (WC.region ?_))))
 refine WL.q ((oq_eql rfl rfl).to (v' := .bool false) (congrArg Value.bool (decide_eq_false (by omega)))) rfl rfl rfl ?_
 refine WL.q (oq_assign rfl) rfl rfl rfl ?_
 refine WL.nil (WE.then_normal ?_)
 refine WC.cond_f rfl ?_
 refine WC.skip (WE.then_normal (WC.seq (WC.seq (WC.region ?_))))
 refine WL.q ((oq_eql rfl rfl).to (v' := .bool false) (congrArg Value.bool (decide_eq_false (by omega)))) rfl rfl rfl ?_
 refine WL.q (oq_assign rfl) rfl rfl rfl ?_
 refine WL.nil (WE.then_normal ?_)
 refine WC.cond_f rfl ?_
 refine WC.skip (WE.then_normal (WC.seq (WC.seq (WC.region ?_))))
 refine WL.q ((oq_eql rfl rfl).to (v' := .bool false) (congrArg Value.bool (decide_eq_false (by omega)))) rfl rfl rfl ?_
 refine WL.q (oq_assign rfl) rfl rfl rfl ?_
 refine WL.nil (WE.then_normal ?_)
 refine WC.cond_f rfl ?_
 refine WC.skip (WE.then_normal (WC.seq (WC.seq (WC.seq (WC.region ?_)))))
 refine WL.q ((oq_eql rfl rfl).to (v' := .bool false) (congrArg Value.bool (decide_eq_false (by omega)))) rfl rfl rfl ?_
 refine WL.q (oq_assign rfl) rfl rfl rfl ?_
 refine WL.nil (WE.then_normal ?_)
 refine WC.cond_f rfl ?_
 refine WC.region ?_
 refine WL.q ((oq_eql rfl rfl).to (v' := .bool false) (congrArg Value.bool (decide_eq_false (by omega)))) rfl rfl rfl ?_
 refine WL.q (oq_assign rfl) rfl rfl rfl ?_
 refine WL.nil (WE.then_normal ?_)
 refine WC.cond_f rfl ?_
 refine WC.skip (WE.then_normal (WC.seq (WC.seq (WC.region ?_))))
 refine WL.q ((oq_eql rfl rfl).to (v' := .bool true) (congrArg Value.bool (decide_eq_true (by omega)))) rfl rfl rfl ?_
 refine WL.q (oq_assign rfl) rfl rfl rfl ?_
 refine WL.nil (WE.then_normal ?_)
 refine WC.cond_t rfl ?_
 refine WC.exit (WE.then_exit (WE.then_exit ?_))
 refine WE.block_other rfl ?_
 refine WE.then_exit ?_
 refine WE.block_other rfl ?_
 refine WE.then_exit ?_
 refine WE.block_other rfl ?_
 refine WE.then_exit ?_
 refine WE.block_other rfl ?_
 refine WE.then_exit ?_
 refine WE.block_other rfl ?_
 refine WE.then_exit (WE.block_same (WE.then_normal (WC.seq (WC.region ?_))))
 refine WL.callA0 (dayNames) call42 rfl rfl rfl fun v83_0 N83_0 hR83_0 hN83_0 => ?_
 have hR83_0 : RdS 1 v83_0 N83_0 7 (strsV week) := hR83_0
 refine WL.q (oq_move rfl) rfl rfl rfl ?_
 refine WL.qc (oq_callRm (lookupY v83_0 N83_0 week (nameAt fulls w ++ [44, 32, (hi d), (lo d), 45, (mb mo 0), (mb mo 1), (mb mo 2), 45, (hi y), (lo y), 32, (hi hh), (lo hh), 58, (hi mm), (lo mm), 58, (hi ss), (lo ss), 32, 71, 77, 84]) hR83_0 (by decide) (full_len w hw _ (by simp)) w _ (look_short w hw _)) (.head _) call39 rfl) rfl rfl rfl ?_
 refine WL.q (oq_move rfl) rfl rfl rfl ?_
 refine WL.q (oq_extract rfl rfl) rfl rfl rfl ?_
 refine WL.q (oq_extract rfl rfl) rfl rfl rfl ?_
 refine WL.q (oq_extract rfl rfl) rfl rfl rfl ?_
 refine WL.q (oq_assign rfl) rfl rfl rfl ?_
 refine WL.q (oq_assign rfl) rfl rfl rfl ?_
 refine WL.nil (WE.then_normal (WC.exit ?_))
 refine WE.block_other rfl ?_
 refine WE.then_exit ?_
 refine WE.block_other rfl ?_
 refine WE.then_exit ?_
 refine WE.block_other rfl ?_
 refine WE.then_exit ?_
 refine WE.block_other rfl ?_
 refine WE.then_exit ?_
 refine WE.block_other rfl ?_
 refine WE.then_exit ?_
 refine WE.block_other rfl ?_
 refine WE.then_exit ?_
 refine WE.block_other rfl ?_
 refine WE.then_exit ?_
 refine WE.block_other rfl ?_
 refine WE.then_exit ?_
 refine WE.block_other rfl ?_
 refine WE.then_exit ?_
 refine WE.block_other rfl ?_
 refine WE.then_exit ?_
 refine WE.block_other rfl ?_
 refine WE.then_exit ?_
 refine WE.block_other rfl ?_
 refine WE.then_exit ?_
 refine WE.block_other rfl ?_
 refine WE.then_exit ?_
 refine WE.block_other rfl ?_
 refine WE.then_exit (WE.block_same (WE.then_normal (WC.seq (WC.seq (WC.region ?_)))))
 refine WL.q (oq_move rfl) rfl rfl rfl ?_
 refine WL.q ((oq_sneq rfl rfl).to (v' := .bool false) (by kernel_rfl)) rfl rfl rfl ?_
 refine WL.nil (WE.then_normal ?_)
 refine WC.cond_f rfl ?_
 refine WC.skip (WE.then_normal (WC.seq (WC.region ?_)))
 refine WL.q (oq_move rfl) rfl rfl rfl ?_
 refine WL.q ((oq_ineq Tryd.underlying39 rfl (.inl rfl)).to (v' := .bool false) rfl) rfl rfl rfl ?_
 refine WL.nil (WE.then_normal ?_)
 refine WC.cond_f rfl ?_
 refine WC.skip (WE.block_normal ?_)
 refine WE.forget hN83_0 ?_
 refine WE.round ?_
 refine WC.sub (fr' := [(0, _), (1, _), (4, _), (6, _), (7, _), (8, _), (9, _), (10, _), (11, _), (12, _), (13, _), (14, _), (15, _), (16, _), (17, _), (18, _), (19, _), (20, _), (21, _)]) ?_ ⟨rfl, rfl, rfl, rfl, rfl, rfl, rfl, rfl, rfl, rfl, rfl, rfl, rfl, rfl, rfl, rfl, rfl, rfl, rfl, trivial⟩
 refine WC.block (WC.seq (WC.region ?_))
 refine WL.q (oq_assign rfl) rfl rfl rfl ?_
 refine WL.nil (WE.then_normal (WC.seq (WC.region ?_)))
 refine WL.q (oq_move rfl) rfl rfl rfl ?_
 refine WL.qc (oq_callRm (ch1 G hT) (.tail _ (.head _)) call35 rfl) rfl rfl rfl ?_
 refine WL.q (oq_move rfl) rfl rfl rfl ?_
 refine WL.q (oq_extract rfl rfl) rfl rfl rfl ?_
 refine WL.q (oq_extract rfl rfl) rfl rfl rfl ?_
 refine WL.q (oq_extract rfl rfl) rfl rfl rfl ?_
 refine WL.q (oq_assign rfl) rfl rfl rfl ?_
 refine WL.q (oq_assign rfl) rfl rfl rfl ?_
 refine WL.q (oq_assign rfl) rfl rfl rfl ?_
 refine WL.nil (WE.then_normal (WC.seq (WC.region ?_)))
 refine WL.q (oq_move rfl) rfl rfl rfl ?_
 refine WL.q (oq_move rfl) rfl rfl rfl ?_
 refine WL.q ((oq_len_s Tryd.underlying9 rfl).to (v' := I 2) rfl) rfl rfl rfl ?_
 refine WL.q (oq_move rfl) rfl rfl rfl ?_
 refine WL.q ((oq_len_s Tryd.underlying9 rfl).to (v' := I 26) rfl) rfl rfl rfl ?_
 refine WL.q (oq_move rfl) rfl rfl rfl ?_
 refine WL.q ((oq_len_s Tryd.underlying9 rfl).to (v' := I 22) rfl) rfl rfl rfl ?_
 refine WL.q ((oq_sub rfl rfl (by rw [i64_lo, i64_hi]; omega)).to (v' := I 4) rfl) rfl rfl rfl ?_
 refine WL.q ((oq_slice_s2 Tryd.underlying9 rfl rfl rfl (by first | decide | simp)).to (v' := S [48, 50]) rfl) rfl rfl rfl ?_
 refine WL.q (oq_assign rfl) rfl rfl rfl ?_
 refine WL.nil (WE.then_normal (WC.seq (WC.region ?_)))
 refine WL.q (oq_move rfl) rfl rfl rfl ?_
 refine WL.q (oq_move rfl) rfl rfl rfl ?_
 refine WL.qc (oq_callRm (skipN hE (ftail w ++ [44, 32, (hi d), (lo d), 45, (mb mo 0), (mb mo 1), (mb mo 2), 45, (hi y), (lo y), 32, (hi hh), (lo hh), 58, (hi mm), (lo mm), 58, (hi ss), (lo ss), 32, 71, 77, 84]) [44, 32] _ (ftail_len w hw _ (by simp)) (by simp) (skip_short w hw _)) (.tail _ (.head _)) call36 rfl) rfl rfl rfl ?_
 refine WL.q (oq_move rfl) rfl rfl rfl ?_
 refine WL.q (oq_extract rfl rfl) rfl rfl rfl ?_
 refine WL.q (oq_extract rfl rfl) rfl rfl rfl ?_
 refine WL.q (oq_assign rfl) rfl rfl rfl ?_
 refine WL.q (oq_assign rfl) rfl rfl rfl ?_
 refine WL.nil (WE.then_normal (WC.seq (WC.seq (WC.region ?_))))
 refine WL.q (oq_move rfl) rfl rfl rfl ?_
 refine WL.q ((oq_ineq Tryd.underlying39 rfl (.inr ⟨_, _, rfl⟩)).to (v' := .bool true) rfl) rfl rfl rfl ?_
 refine WL.nil (WE.then_normal ?_)
 refine WC.cond_t rfl ?_
 refine WC.seq (WC.region ?_)
 refine WL.q (oq_build #[_, _, _, _] str37 ty37 rfl rfl) rfl rfl rfl ?_
 refine WL.q (oq_move rfl) rfl rfl rfl ?_
 refine WL.q (oq_move rfl) rfl rfl rfl ?_
 refine WL.q (oq_move rfl) rfl rfl rfl ?_
 refine WL.q (oq_move rfl) rfl rfl rfl ?_
 refine WL.callA0 (newPE _ _ _ _ _ (by simp)) call37 rfl rfl rfl fun v21_5 N21_5 hR21_5 hN21_5 => ?_
 obtain ⟨kE, uE, rfl⟩ := hR21_5
 refine WL.f1 ?_
 refine WL.storeS #[_, _, _, _] ty37 rfl rfl rfl rfl (Nat.le_of_ble_eq_true rfl) rfl rfl ?_
 refine WL.q (oq_assign rfl) rfl rfl rfl ?_
 refine WL.nil (WE.then_normal (WC.sub (fr' := [(4, _), (5, _)]) ?_ ⟨rfl, rfl, trivial⟩))
 refine WC.ret (WE.then_ret (WE.block_ret (WE.then_ret (WE.block_ret (WE.then_ret ?_)))))
 refine WE.endDA (.inl rfl) (rs2 Tryd.results27 (rv_cellS [_, _, _, _] agg37 ty37 rfl (.head _) (List.mem_singleton.2 rfl) rfl rfl) (rv_tmp rfl)) (dr_lose htb dr_refl) (hN21_5) ?_
 exact ⟨_, _, rfl⟩
set_option maxHeartbeats 20000000 in
theorem bad4_2 (G : Hp) (k0 : TypeId) (u0 : Value) (hL : LT G k0 u0) (w : Nat) (hw : w < 7) (d mo y hh mm ss : Nat) (hmo : mo < 12) : FnA Tryd.prog 27 [S [77, 111, 110, 44, 32, 95, 50, 32, 74, 97, 110, 32, 50, 48, 48, 54, 32, 49, 53, 58, 48, 52, 58, 48, 53, 32, 71, 77, 84], S (nameAt fulls w ++ [44, 32, (hi d), (lo d), 45, (mb mo 0), (mb mo 1), (mb mo 2), 45, (hi y), (lo y), 32, (hi hh), (lo hh), 58, (hi mm), (lo mm), 58, (hi ss), (lo ss), 32, 71, 77, 84])] G (parseBad) := by
 obtain ⟨hE, hT, sv, ⟨tl, fl, hml⟩, hsv⟩ := hL
 refine FnA.enter (n := 852) Tryd.func27 rfl rfl fun w0 => ?_
 refine WC.sub (fr' := [(0, _), (1, _)]) ?_ ⟨rfl, rfl, trivial⟩
 refine WC.seq (WC.region ?_)
 refine WL.alloc ty37 rfl rfl fun tb htb => ?_
 refine WL.q (oq_assign rfl) rfl rfl rfl ?_
 refine WL.nil (WE.then_normal (WC.seq (WC.region ?_)))
 refine WL.q (oq_move rfl) rfl rfl rfl ?_
 refine WL.q (oq_move rfl) rfl rfl rfl ?_
 refine WL.q (oq_assign rfl) rfl rfl rfl ?_
 refine WL.q (oq_assign rfl) rfl rfl rfl ?_
 refine WL.nil (WE.then_normal (WC.seq (WC.region ?_)))
 refine WL.q (oq_assign rfl) rfl rfl rfl ?_
 refine WL.nil (WE.then_normal (WC.seq (WC.region ?_)))
 refine WL.q (oq_assign rfl) rfl rfl rfl ?_
 refine WL.nil (WE.then_normal (WC.seq (WC.region ?_)))
 refine WL.q (oq_assign rfl) rfl rfl rfl ?_
 refine WL.nil (WE.then_normal (WC.seq (WC.region ?_)))
 refine WL.q (oq_assign rfl) rfl rfl rfl ?_
 refine WL.nil (WE.then_normal (WC.seq (WC.region ?_)))
 refine WL.q (oq_assign rfl) rfl rfl rfl ?_
 refine WL.nil (WE.then_normal (WC.seq (WC.region ?_)))
 refine WL.q (oq_assign rfl) rfl rfl rfl ?_
 refine WL.nil (WE.then_normal (WC.seq (WC.region ?_)))
 refine WL.q (oq_assign rfl) rfl rfl rfl ?_
 refine WL.nil (WE.then_normal (WC.seq (WC.region ?_)))
 refine WL.q (oq_assign rfl) rfl rfl rfl ?_
 refine WL.nil (WE.then_normal (WC.seq (WC.region ?_)))
 refine WL.q (oq_assign rfl) rfl rfl rfl ?_
 refine WL.nil (WE.then_normal (WC.seq (WC.region ?_)))
 refine WL.q (oq_assign rfl) rfl rfl rfl ?_
 refine WL.nil (WE.then_normal (WC.seq (WC.region ?_)))
 refine WL.q (oq_assign rfl) rfl rfl rfl ?_
 refine WL.nil (WE.then_normal (WC.seq (WC.region ?_)))
 refine WL.q (oq_assign rfl) rfl rfl rfl ?_
 refine WL.nil (WE.then_normal (WC.seq (WC.region ?_)))
 refine WL.q (oq_assign rfl) rfl rfl rfl ?_
 refine WL.nil (WE.then_normal (WC.seq (WC.region ?_)))
 refine WL.q (oq_assign rfl) rfl rfl rfl ?_
 refine WL.nil (WE.then_normal (WC.seq (WC.block ?_)))
 refine WC.unroll ?_
 refine WC.block (WC.seq (WC.region ?_))
 refine WL.q (oq_assign rfl) rfl rfl rfl ?_
 refine WL.nil (WE.then_normal (WC.seq (WC.region ?_)))
 refine WL.q (oq_move rfl) rfl rfl rfl ?_
 refine WL.qc (oq_callRm (ch24 G hT) (.tail _ (.head _)) call35 rfl) rfl rfl rfl ?_
 refine WL.q (oq_move rfl) rfl rfl rfl ?_
 refine WL.q (oq_extract rfl rfl) rfl rfl rfl ?_
 refine WL.q (oq_extract rfl rfl) rfl rfl rfl ?_
 refine WL.q (oq_extract rfl rfl) rfl rfl rfl ?_
 refine WL.q (oq_assign rfl) rfl rfl rfl ?_
 refine WL.q (oq_assign rfl) rfl rfl rfl ?_
 refine WL.q (oq_assign rfl) rfl rfl rfl ?_
 refine WL.nil (WE.then_normal (WC.seq (WC.region ?_)))
 refine WL.q (oq_move rfl) rfl rfl rfl ?_
 refine WL.q (oq_move rfl) rfl rfl rfl ?_
 refine WL.q ((oq_len_s Tryd.underlying9 rfl).to (v' := I 0) rfl) rfl rfl rfl ?_
 refine WL.q (oq_move rfl) rfl rfl rfl ?_
 refine WL.q ((oq_len_s Tryd.underlying9 rfl).to (v' := I 29) rfl) rfl rfl rfl ?_
 refine WL.q (oq_move rfl) rfl rfl rfl ?_
 refine WL.q ((oq_len_s Tryd.underlying9 rfl).to (v' := I 26) rfl) rfl rfl rfl ?_
 refine WL.q ((oq_sub rfl rfl (by rw [i64_lo, i64_hi]; omega)).to (v' := I 3) rfl) rfl rfl rfl ?_
 refine WL.q ((oq_slice_s2 Tryd.underlying9 rfl rfl rfl (by first | decide | simp)).to (v' := S [77, 111, 110]) rfl) rfl rfl rfl ?_
 refine WL.q (oq_assign rfl) rfl rfl rfl ?_
 refine WL.nil (WE.then_normal (WC.seq (WC.region ?_)))
 refine WL.q (oq_move rfl) rfl rfl rfl ?_
 refine WL.q (oq_move rfl) rfl rfl rfl ?_
 refine WL.qc (oq_callRm (skipY hE (nameAt fulls w ++ [44, 32, (hi d), (lo d), 45, (mb mo 0), (mb mo 1), (mb mo 2), 45, (hi y), (lo y), 32, (hi hh), (lo hh), 58, (hi mm), (lo mm), 58, (hi ss), (lo ss), 32, 71, 77, 84]) [] _ (full_len w hw _ (by simp)) (by simp) rfl) (.tail _ (.head _)) call36 rfl) rfl rfl rfl ?_
 refine WL.q (oq_move rfl) rfl rfl rfl ?_
 refine WL.q (oq_extract rfl rfl) rfl rfl rfl ?_
 refine WL.q (oq_extract rfl rfl) rfl rfl rfl ?_
 refine WL.q (oq_assign rfl) rfl rfl rfl ?_
 refine WL.q (oq_assign rfl) rfl rfl rfl ?_
 refine WL.nil (WE.then_normal (WC.seq (WC.seq (WC.region ?_))))
 refine WL.q (oq_move rfl) rfl rfl rfl ?_
 refine WL.q ((oq_ineq Tryd.underlying39 rfl (.inl rfl)).to (v' := .bool false) rfl) rfl rfl rfl ?_
 refine WL.nil (WE.then_normal ?_)
 refine WC.cond_f rfl ?_
 refine WC.skip (WE.then_normal (WC.seq (WC.seq (WC.region ?_))))
 refine WL.q (oq_move rfl) rfl rfl rfl ?_
 refine WL.q ((oq_eql rfl rfl).to (v' := .bool false) (congrArg Value.bool (decide_eq_false (by omega)))) rfl rfl rfl ?_
 refine WL.nil (WE.then_normal ?_)
 refine WC.cond_f rfl ?_
 refine WC.skip (WE.then_normal (WC.seq (WC.region ?_)))
 refine WL.q (oq_move rfl) rfl rfl rfl ?_
 refine WL.q (oq_assign rfl) rfl rfl rfl ?_
 refine WL.nil (WE.then_normal (WC.seq (WC.region ?_)))
 refine WL.q (oq_assign rfl) rfl rfl rfl ?_
 refine WL.nil (WE.then_normal (WC.seq (WC.region ?_)))
 refine WL.q (oq_move rfl) rfl rfl rfl ?_
 refine WL.q (oq_assign rfl) rfl rfl rfl ?_
 refine WL.nil (WE.then_normal (WC.seq (WC.seq (WC.region ?_))))
 refine WL.q (oq_move rfl) rfl rfl rfl ?_
 refine WL.q ((oq_bits (op := .and) rfl rfl (by simp)).to (v' := I 262) (by kernel_rfl)) rfl rfl rfl ?_
 refine WL.nil (WE.then_normal (WC.block (WC.seq (WC.block (WC.seq (WC.block (WC.seq (WC.block (WC.seq (WC.block (WC.seq (WC.block (WC.seq (WC.block (WC.seq (WC.block (WC.seq (WC.block (WC.seq (WC.block (WC.seq (WC.block (WC.seq (WC.block (WC.seq (WC.block (WC.seq (WC.block (WC.seq (WC.block (WC.seq (WC.block (WC.seq (WC.block (WC.seq (WC.block (WC.seq (WC.block (WC.seq (WC.block (WC.seq (WC.block (WC.seq (WC.seq (WC.seq (WC.region ?_))))))))))))))))))))))))))))))))))))))))))))))
 refine WL.q ((oq_eql rfl rfl).to (v' := .bool false) (congrArg Value.bool (decide_eq_false (by omega)))) rfl rfl rfl ?_
 refine WL.q (oq_assign rfl) rfl rfl rfl ?_
 refine WL.nil (WE.then_normal (WC.sub (fr' := [(0, _), (1, _), (4, _), (6, _), (7, _), (8, _), (9, _), (10, _), (11, _), (12, _), (13, _), (14, _), (15, _), (16, _), (17, _), (18, _), (19, _), (20, _), (21, _), (22, _), (24, _), (26, _), (28, _), (91, _), (92, _)]) ?_ ⟨rfl, rfl, rfl, rfl, rfl, rfl, rfl, rfl, rfl, rfl, rfl, rfl, rfl, rfl, rfl, rfl, rfl, rfl, rfl, rfl, rfl, rfl, rfl, rfl, rfl, trivial⟩))
 refine WC.cond_f rfl ?_
 refine WC.skip (WE.then_normal (WC.seq (WC.seq (WC.region ?_))))
 refine WL.q ((oq_eql rfl rfl).to (v' := .bool false) (congrArg Value.bool (decide_eq_false (by omega)))) rfl rfl rfl ?_
 refine WL.q (oq_assign rfl) rfl rfl rfl ?_
 refine WL.nil (WE.then_normal ?_)
 refine WC.cond_f rfl ?_
 refine WC.skip (WE.then_normal (WC.seq (WC.seq (WC.region ?_))))
 refine WL.q ((oq_eql rfl rfl).to (v' := .bool false) (congrArg Value.bool (decide_eq_false (by omega)))) rfl rfl rfl ?_
 refine WL.q (oq_assign rfl) rfl rfl rfl ?_
 refine WL.nil (WE.then_normal ?_)
 refine WC.cond_f rfl ?_
 refine WC.skip (WE.then_normal (WC.seq (WC.seq (WC.region ?_))))
 refine WL.q ((oq_eql rfl rfl).to (v' := .bool false) (congrArg Value.bool (decide_eq_false (by omega)))) rfl rfl rfl ?_
 refine WL.q (oq_assign rfl) rfl rfl rfl ?_
 refine WL.nil (WE.then_normal ?_)
 refine WC.cond_f rfl ?_
 refine WC.skip (WE.then_normal (WC.seq (WC.seq (WC.seq (WC.region ?_)))))
 refine WL.q ((oq_eql rfl rfl).to (v' := .bool false) (congrArg Value.bool (decide_eq_false (by omega)))) rfl rfl rfl ?_
 refine WL.q (oq_assign rfl) rfl rfl rfl ?_
 refine WL.nil (WE.then_normal ?_)
 refine WC.cond_f rfl ?_
 refine WC.region ?_
 refine WL.q ((oq_eql rfl rfl).to (v' := .bool false) (congrArg Value.bool (decide_eq_false (by omega)))) rfl rfl rfl ?_
 refine WL.q (oq_assign rfl) rfl rfl rfl ?_
 refine WL.nil (WE.then_normal ?_)
 refine WC.cond_f rfl ?_
 refine WC.skip (WE.then_normal (WC.seq (WC.seq (WC.region ?_))))
 refine WL.q ((oq_eql rfl rfl).to (v' := .bool true) (congrArg Value.bool (decide_eq_true (by omega)))) rfl rfl rfl ?_
 refine WL.q (oq_assign rfl) rfl rfl rfl ?_
 refine WL.nil (WE.then_normal ?_)
 refine WC.cond_t rfl ?_
 refine WC.exit (WE.then_exit (WE.then_exit ?_))
 refine WE.block_other rfl ?_
 refine WE.then_exit ?_
 refine WE.block_other rfl ?_
 refine WE.then_exit ?_
 refine WE.block_other rfl ?_
 refine WE.then_exit ?_
 refine WE.block_other rfl ?_
 refine WE.then_exit ?_
 refine WE.block_other rfl ?_
 refine WE.then_exit (WE.block_same (WE.then_normal (WC.seq (WC.region ?_))))
 refine WL.callA0 (dayNames) call42 rfl rfl rfl fun v83_0 N83_0 hR83_0 hN83_0 => ?_
 have hR83_0 : RdS 1 v83_0 N83_0 7 (strsV week) := hR83_0
 refine WL.q (oq_move rfl) rfl rfl rfl ?_
 refine WL.qc (oq_callRm (lookupY v83_0 N83_0 week (nameAt fulls w ++ [44, 32, (hi d), (lo d), 45, (mb mo 0), (mb mo 1), (mb mo 2), 45, (hi y), (lo y), 32, (hi hh), (lo hh), 58, (hi mm), (lo mm), 58, (hi ss), (lo ss), 32, 71, 77, 84]) hR83_0 (by decide) (full_len w hw _ (by simp)) w _ (look_short w hw _)) (.head _) call39 rfl) rfl rfl rfl ?_
 refine WL.q (oq_move rfl) rfl rfl rfl ?_
 refine WL.q (oq_extract rfl rfl) rfl rfl rfl ?_
 refine WL.q (oq_extract rfl rfl) rfl rfl rfl ?_
 refine WL.q (oq_extract rfl rfl) rfl rfl rfl ?_
 refine WL.q (oq_assign rfl) rfl rfl rfl ?_
 refine WL.q (oq_assign rfl) rfl rfl rfl ?_
 refine WL.nil (WE.then_normal (WC.exit ?_))
 refine WE.block_other rfl ?_
 refine WE.then_exit ?_
 refine WE.block_other rfl ?_
 refine WE.then_exit ?_
 refine WE.block_other rfl ?_
 refine WE.then_exit ?_
 refine WE.block_other rfl ?_
 refine WE.then_exit ?_
 refine WE.block_other rfl ?_
 refine WE.then_exit ?_
 refine WE.block_other rfl ?_
 refine WE.then_exit ?_
 refine WE.block_other rfl ?_
 refine WE.then_exit ?_
 refine WE.block_other rfl ?_
 refine WE.then_exit ?_
 refine WE.block_other rfl ?_
 refine WE.then_exit ?_
 refine WE.block_other rfl ?_
 refine WE.then_exit ?_
 refine WE.block_other rfl ?_
 refine WE.then_exit ?_
 refine WE.block_other rfl ?_
 refine WE.then_exit ?_
 refine WE.block_other rfl ?_
 refine WE.then_exit ?_
 refine WE.block_other rfl ?_
 refine WE.then_exit (WE.block_same (WE.then_normal (WC.seq (WC.seq (WC.region ?_)))))
 refine WL.q (oq_move rfl) rfl rfl rfl ?_
 refine WL.q ((oq_sneq rfl rfl).to (v' := .bool false) (by kernel_rfl)) rfl rfl rfl ?_
 refine WL.nil (WE.then_normal ?_)
 refine WC.cond_f rfl ?_
 refine WC.skip (WE.then_normal (WC.seq (WC.region ?_)))
 refine WL.q (oq_move rfl) rfl rfl rfl ?_
 refine WL.q ((oq_ineq Tryd.underlying39 rfl (.inl rfl)).to (v' := .bool false) rfl) rfl rfl rfl ?_
 refine WL.nil (WE.then_normal ?_)
 refine WC.cond_f rfl ?_
 refine WC.skip (WE.block_normal ?_)
 refine WE.forget hN83_0 ?_
 refine WE.round ?_
 refine WC.sub (fr' := [(0, _), (1, _), (4, _), (6, _), (7, _), (8, _), (9, _), (10, _), (11, _), (12, _), (13, _), (14, _), (15, _), (16, _), (17, _), (18, _), (19, _), (20, _), (21, _)]) ?_ ⟨rfl, rfl, rfl, rfl, rfl, rfl, rfl, rfl, rfl, rfl, rfl, rfl, rfl, rfl, rfl, rfl, rfl, rfl, rfl, trivial⟩
 refine WC.block (WC.seq (WC.region ?_))
 refine WL.q (oq_assign rfl) rfl rfl rfl ?_
 refine WL.nil (WE.then_normal (WC.seq (WC.region ?_)))
 refine WL.q (oq_move rfl) rfl rfl rfl ?_
 refine WL.qc (oq_callRm (ch25 G hT) (.tail _ (.head _)) call35 rfl) rfl rfl rfl ?_
 refine WL.q (oq_move rfl) rfl rfl rfl ?_
 refine WL.q (oq_extract rfl rfl) rfl rfl rfl ?_
 refine WL.q (oq_extract rfl rfl) rfl rfl rfl ?_
 refine WL.q (oq_extract rfl rfl) rfl rfl rfl ?_
 refine WL.q (oq_assign rfl) rfl rfl rfl ?_
 refine WL.q (oq_assign rfl) rfl rfl rfl ?_
 refine WL.q (oq_assign rfl) rfl rfl rfl ?_
 refine WL.nil (WE.then_normal (WC.seq (WC.region ?_)))
 refine WL.q (oq_move rfl) rfl rfl rfl ?_
 refine WL.q (oq_move rfl) rfl rfl rfl ?_
 refine WL.q ((oq_len_s Tryd.underlying9 rfl).to (v' := I 2) rfl) rfl rfl rfl ?_
 refine WL.q (oq_move rfl) rfl rfl rfl ?_
 refine WL.q ((oq_len_s Tryd.underlying9 rfl).to (v' := I 26) rfl) rfl rfl rfl ?_
 refine WL.q (oq_move rfl) rfl rfl rfl ?_
 refine WL.q ((oq_len_s Tryd.underlying9 rfl).to (v' := I 22) rfl) rfl rfl rfl ?_
 refine WL.q ((oq_sub rfl rfl (by rw [i64_lo, i64_hi]; omega)).to (v' := I 4) rfl) rfl rfl rfl ?_
 refine WL.q ((oq_slice_s2 Tryd.underlying9 rfl rfl rfl (by first | decide | simp)).to (v' := S [95, 50]) rfl) rfl rfl rfl ?_
 refine WL.q (oq_assign rfl) rfl rfl rfl ?_
 refine WL.nil (WE.then_normal (WC.seq (WC.region ?_)))
 refine WL.q (oq_move rfl) rfl rfl rfl ?_
 refine WL.q (oq_move rfl) rfl rfl rfl ?_
 refine WL.qc (oq_callRm (skipN hE (ftail w ++ [44, 32, (hi d), (lo d), 45, (mb mo 0), (mb mo 1), (mb mo 2), 45, (hi y), (lo y), 32, (hi hh), (lo hh), 58, (hi mm), (lo mm), 58, (hi ss), (lo ss), 32, 71, 77, 84]) [44, 32] _ (ftail_len w hw _ (by simp)) (by simp) (skip_short w hw _)) (.tail _ (.head _)) call36 rfl) rfl rfl rfl ?_
 refine WL.q (oq_move rfl) rfl rfl rfl ?_
 refine WL.q (oq_extract rfl rfl) rfl rfl rfl ?_
 refine WL.q (oq_extract rfl rfl) rfl rfl rfl ?_
 refine WL.q (oq_assign rfl) rfl rfl rfl ?_
 refine WL.q (oq_assign rfl) rfl rfl rfl ?_
 refine WL.nil (WE.then_normal (WC.seq (WC.seq (WC.region ?_))))
 refine WL.q (oq_move rfl) rfl rfl rfl ?_
 refine WL.q ((oq_ineq Tryd.underlying39 rfl (.inr ⟨_, _, rfl⟩)).to (v' := .bool true) rfl) rfl rfl rfl ?_
 refine WL.nil (WE.then_normal ?_)
 refine WC.cond_t rfl ?_
 refine WC.seq (WC.region ?_)
 refine WL.q (oq_build #[_, _, _, _] str37 ty37 rfl rfl) rfl rfl rfl ?_
 refine WL.q (oq_move rfl) rfl rfl rfl ?_
 refine WL.q (oq_move rfl) rfl rfl rfl ?_
 refine WL.q (oq_move rfl) rfl rfl rfl ?_
 refine WL.q (oq_move rfl) rfl rfl rfl ?_
 refine WL.callA0 (newPE _ _ _ _ _ (by simp)) call37 rfl rfl rfl fun v21_5 N21_5 hR21_5 hN21_5 => ?_
 obtain ⟨kE, uE, rfl⟩ := hR21_5
 refine WL.f1 ?_
 refine WL.storeS #[_, _, _, _] ty37 rfl rfl rfl rfl (Nat.le_of_ble_eq_true rfl) rfl rfl ?_
 refine WL.q (oq_assign rfl) rfl rfl rfl ?_
 refine WL.nil (WE.then_normal (WC.sub (fr' := [(4, _), (5, _)]) ?_ ⟨rfl, rfl, trivial⟩))
 refine WC.ret (WE.then_ret (WE.block_ret (WE.then_ret (WE.block_ret (WE.then_ret ?_)))))
 refine WE.endDA (.inl rfl) (rs2 Tryd.results27 (rv_cellS [_, _, _, _] agg37 ty37 rfl (.head _) (List.mem_singleton.2 rfl) rfl rfl) (rv_tmp rfl)) (dr_lose htb dr_refl) (hN21_5) ?_
 exact ⟨_, _, rfl⟩
set_option maxHeartbeats 20000000 in
theorem bad4_3 (G : Hp) (k0 : TypeId) (u0 : Value) (hL : LT G k0 u0) (w : Nat) (hw : w < 7) (d mo y hh mm ss : Nat) (hmo : mo < 12) : FnA Tryd.prog 27 [S [77, 111, 110, 44, 32, 95, 50, 32, 74, 97, 110, 32, 48, 54, 32, 49, 53, 58, 48, 52, 58, 48, 53, 32, 71, 77, 84], S (nameAt fulls w ++ [44, 32, (hi d), (lo d), 45, (mb mo 0), (mb mo 1), (mb mo 2), 45, (hi y), (lo y), 32, (hi hh), (lo hh), 58, (hi mm), (lo mm), 58, (hi ss), (lo ss), 32, 71, 77, 84])] G (parseBad) := by
 obtain ⟨hE, hT, sv, ⟨tl, fl, hml⟩, hsv⟩ := hL
 refine FnA.enter (n := 852) Tryd.func27 rfl rfl fun w0 => ?_
 refine WC.sub (fr' := [(0, _), (1, _)]) ?_ ⟨rfl, rfl, trivial⟩
 refine WC.seq (WC.region ?_)
 refine WL.alloc ty37 rfl rfl fun tb htb => ?_
 refine WL.q (oq_assign rfl) rfl rfl rfl ?_
 refine WL.nil (WE.then_normal (WC.seq (WC.region ?_)))
 refine WL.q (oq_move rfl) rfl rfl rfl ?_
 refine WL.q (oq_move rfl) rfl rfl rfl ?_
 refine WL.q (oq_assign rfl) rfl rfl rfl ?_
 refine WL.q (oq_assign rfl) rfl rfl rfl ?_
 refine WL.nil (WE.then_normal (WC.seq (WC.region ?_)))
 refine WL.q (oq_assign rfl) rfl rfl rfl ?_
 refine WL.nil (WE.then_normal (WC.seq (WC.region ?_)))
 refine WL.q (oq_assign rfl) rfl rfl rfl ?_
 refine WL.nil (WE.then_normal (WC.seq (WC.region ?_)))
 refine WL.q (oq_assign rfl) rfl rfl rfl ?_
 refine WL.nil (WE.then_normal (WC.seq (WC.region ?_)))
 refine WL.q (oq_assign rfl) rfl rfl rfl ?_
 refine WL.nil (WE.then_normal (WC.seq (WC.region ?_)))
 refine WL.q (oq_assign rfl) rfl rfl rfl ?_
 refine WL.nil (WE.then_normal (WC.seq (WC.region ?_)))
 refine WL.q (oq_assign rfl) rfl rfl rfl ?_
 refine WL.nil (WE.then_normal (WC.seq (WC.region ?_)))
 refine WL.q (oq_assign rfl) rfl rfl rfl ?_
 refine WL.nil (WE.then_normal (WC.seq (WC.region ?_)))
 refine WL.q (oq_assign rfl) rfl rfl rfl ?_
 refine WL.nil (WE.then_normal (WC.seq (WC.region ?_)))
 refine WL.q (oq_assign rfl) rfl rfl rfl ?_
 refine WL.nil (WE.then_normal (WC.seq (WC.region ?_)))
 refine WL.q (oq_assign rfl) rfl rfl rfl ?_
 refine WL.nil (WE.then_normal (WC.seq (WC.region ?_)))
 refine WL.q (oq_assign rfl) rfl rfl rfl ?_
 refine WL.nil (WE.then_normal (WC.seq (WC.region ?_)))
 refine WL.q (oq_assign rfl) rfl rfl rfl ?_
 refine WL.nil (WE.then_normal (WC.seq (WC.region ?_)))
 refine WL.q (oq_assign rfl) rfl rfl rfl ?_
 refine WL.nil (WE.then_normal (WC.seq (WC.region ?_)))
 refine WL.q (oq_assign rfl) rfl rfl rfl ?_
 refine WL.nil (WE.then_normal (WC.seq (WC.block ?_)))
 refine WC.unroll ?_
 refine WC.block (WC.seq (WC.region ?_))
 refine WL.q (oq_assign rfl) rfl rfl rfl ?_
 refine WL.nil (WE.then_normal (WC.seq (WC.region ?_)))
 refine WL.q (oq_move rfl) rfl rfl rfl ?_
 refine WL.qc (oq_callRm (ch26 G hT) (.tail _ (.head _)) call35 rfl) rfl rfl rfl ?_
 refine WL.q (oq_move rfl) rfl rfl rfl ?_
 refine WL.q (oq_extract rfl rfl) rfl rfl rfl ?_
 refine WL.q (oq_extract rfl rfl) rfl rfl rfl ?_
 refine WL.q (oq_extract rfl rfl) rfl rfl rfl ?_
 refine WL.q (oq_assign rfl) rfl rfl rfl ?_
 refine WL.q (oq_assign rfl) rfl rfl rfl ?_
 refine WL.q (oq_assign rfl) rfl rfl rfl ?_
 refine WL.nil (WE.then_normal (WC.seq (WC.region ?_)))
 refine WL.q (oq_move rfl) rfl rfl rfl ?_
 refine WL.q (oq_move rfl) rfl rfl rfl ?_
 refine WL.q ((oq_len_s Tryd.underlying9 rfl).to (v' := I 0) rfl) rfl rfl rfl ?_
 refine WL.q (oq_move rfl) rfl rfl rfl ?_
 refine WL.q ((oq_len_s Tryd.underlying9 rfl).to (v' := I 27) rfl) rfl rfl rfl ?_
 refine WL.q (oq_move rfl) rfl rfl rfl ?_
 refine WL.q ((oq_len_s Tryd.underlying9 rfl).to (v' := I 24) rfl) rfl rfl rfl ?_
 refine WL.q ((oq_sub rfl rfl (by rw [i64_lo, i64_hi]; omega)).to (v' := I 3) rfl) rfl rfl rfl ?_
 refine WL.q ((oq_slice_s2 Tryd.underlying9 rfl rfl rfl (by first | decide | simp)).to (v' := S [77, 111, 110]) rfl) rfl rfl rfl ?_
 refine WL.q (oq_assign rfl) rfl rfl rfl ?_
 refine WL.nil (WE.then_normal (WC.seq (WC.region ?_)))
 refine WL.q (oq_move rfl) rfl rfl rfl ?_
 refine WL.q (oq_move rfl) rfl rfl rfl ?_
 refine WL.qc (oq_callRm (skipY hE (nameAt fulls w ++ [44, 32, (hi d), (lo d), 45, (mb mo 0), (mb mo 1), (mb mo 2), 45, (hi y), (lo y), 32, (hi hh), (lo hh), 58, (hi mm), (lo mm), 58, (hi ss), (lo ss), 32, 71, 77, 84]) [] _ (full_len w hw _ (by simp)) (by simp) rfl) (.tail _ (.head _)) call36 rfl) rfl rfl rfl ?_
 refine WL.q (oq_move rfl) rfl rfl rfl ?_
 refine WL.q (oq_extract rfl rfl) rfl rfl rfl ?_
 refine WL.q (oq_extract rfl rfl) rfl rfl rfl ?_
 refine WL.q (oq_assign rfl) rfl rfl rfl ?_
 refine WL.q (oq_assign rfl) rfl rfl rfl ?_
 refine WL.nil (WE.then_normal (WC.seq (WC.seq (WC.region ?_))))
 refine WL.q (oq_move rfl) rfl rfl rfl ?_
 refine WL.q ((oq_ineq Tryd.underlying39 rfl (.inl rfl)).to (v' := .bool false) rfl) rfl rfl rfl ?_
 refine WL.nil (WE.then_normal ?_)
 refine WC.cond_f rfl ?_
 refine WC.skip (WE.then_normal (WC.seq (WC.seq (WC.region ?_))))
 refine WL.q (oq_move rfl) rfl rfl rfl ?_
 refine WL.q ((oq_eql rfl rfl).to (v' := .bool false) (congrArg Value.bool (decide_eq_false (by omega)))) rfl rfl rfl ?_
 refine WL.nil (WE.then_normal ?_)
 refine WC.cond_f rfl ?_
 refine WC.skip (WE.then_normal (WC.seq (WC.region ?_)))
 refine WL.q (oq_move rfl) rfl rfl rfl ?_
 refine WL.q (oq_assign rfl) rfl rfl rfl ?_
 refine WL.nil (WE.then_normal (WC.seq (WC.region ?_)))
 refine WL.q (oq_assign rfl) rfl rfl rfl ?_
 refine WL.nil (WE.then_normal (WC.seq (WC.region ?_)))
 refine WL.q (oq_move rfl) rfl rfl rfl ?_
 refine WL.q (oq_assign rfl) rfl rfl rfl ?_
 refine WL.nil (WE.then_normal (WC.seq (WC.seq (WC.region ?_))))
 refine WL.q (oq_move rfl) rfl rfl rfl ?_
 refine WL.q ((oq_bits (op := .and) rfl rfl (by simp)).to (v' := I 262) (by kernel_rfl)) rfl rfl rfl ?_
 refine WL.nil (WE.then_normal (WC.block (WC.seq (WC.block (WC.seq (WC.block (WC.seq (WC.block (WC.seq (WC.block (WC.seq (WC.block (WC.seq (WC.block (WC.seq (WC.block (WC.seq (WC.block (WC.seq (WC.block (WC.seq (WC.block (WC.seq (WC.block (WC.seq (WC.block (WC.seq (WC.block (WC.seq (WC.block (WC.seq (WC.block (WC.seq (WC.block (WC.seq (WC.block (WC.seq (WC.block (WC.seq (WC.block (WC.seq (WC.block (WC.seq (WC.seq (WC.seq (WC.region ?_))))))))))))))))))))))))))))))))))))))))))))))
 refine WL.q ((oq_eql rfl rfl).to (v' := .bool false) (congrArg Value.bool (decide_eq_false (by omega)))) rfl rfl rfl ?_
 refine WL.q (oq_assign rfl) rfl rfl rfl ?_
 refine WL.nil (WE.then_normal (WC.sub (fr' := [(0, _), (1, _), (4, _), (6, _), (7, _), (8, _), (9, _), (10, _), (11, _), (12, _), (13, _), (14, _), (15, _), (16, _), (17, _), (18, _), (19, _), (20, _), (21, _), (22, _), (24, _), (26, _), (28, _), (91, _), (92, _)]) ?_ ⟨rfl, rfl, rfl, rfl, rfl, rfl, rfl, rfl, rfl, rfl, rfl, rfl, rfl, rfl, rfl, rfl, rfl, rfl, rfl, rfl, rfl, rfl, rfl, rfl, rfl, trivial⟩))
 refine WC.cond_f rfl ?_
 refine WC.skip (WE.then_normal (WC.seq (WC.seq (WC.region ?_))))
 refine WL.q ((oq_eql rfl rfl).to (v' := .bool false) (congrArg Value.bool (decide_eq_false (by omega)))) rfl rfl rfl ?_
 refine WL.q (oq_assign rfl) rfl rfl rfl ?_
 refine WL.nil (WE.then_normal ?_)
 refine WC.cond_f rfl ?_
 refine WC.skip (WE.then_normal (WC.seq (WC.seq (WC.region ?_))))
 refine WL.q ((oq_eql rfl rfl).to (v' := .bool false) (congrArg Value.bool (decide_eq_false (by omega)))) rfl rfl rfl ?_
 refine WL.q (oq_assign rfl) rfl rfl rfl ?_
 refine WL.nil (WE.then_normal ?_)
 refine WC.cond_f rfl ?_
 refine WC.skip (WE.then_normal (WC.seq (WC.seq (WC.region ?_))))
 refine WL.q ((oq_eql rfl rfl).to (v' := .bool false) (congrArg Value.bool (decide_eq_false (by omega)))) rfl rfl rfl ?_
 refine WL.q (oq_assign rfl) rfl rfl rfl ?_
 refine WL.nil (WE.then_normal ?_)
 refine WC.cond_f rfl ?_
 refine WC.skip (WE.then_normal (WC.seq (WC.seq (WC.seq (WC.region ?_)))))
 refine WL.q ((oq_eql rfl rfl).to (v' := .bool false) (congrArg Value.bool (decide_eq_false (by omega)))) rfl rfl rfl ?_
 refine WL.q (oq_assign rfl) rfl rfl rfl ?_
 refine WL.nil (WE.then_normal ?_)
 refine WC.cond_f rfl ?_
 refine WC.region ?_
 refine WL.q ((oq_eql rfl rfl).to (v' := .bool false) (congrArg Value.bool (decide_eq_false (by omega)))) rfl rfl rfl ?_
 refine WL.q (oq_assign rfl) rfl rfl rfl ?_
 refine WL.nil (WE.then_normal ?_)
 refine WC.cond_f rfl ?_
 refine WC.skip (WE.then_normal (WC.seq (WC.seq (WC.region ?_))))
 refine WL.q ((oq_eql rfl rfl).to (v' := .bool true) (congrArg Value.bool (decide_eq_true (by omega)))) rfl rfl rfl ?_
 refine WL.q (oq_assign rfl) rfl rfl rfl ?_
 refine WL.nil (WE.then_normal ?_)
 refine WC.cond_t rfl ?_
 refine WC.exit (WE.then_exit (WE.then_exit ?_))
 refine WE.block_other rfl ?_
 refine WE.then_exit ?_
 refine WE.block_other rfl ?_
 refine WE.then_exit ?_
 refine WE.block_other rfl ?_
 refine WE.then_exit ?_
 refine WE.block_other rfl ?_
 refine WE.then_exit ?_
 refine WE.block_other rfl ?_
 refine WE.then_exit (WE.block_same (WE.then_normal (WC.seq (WC.region ?_))))
 refine WL.callA0 (dayNames) call42 rfl rfl rfl fun v83_0 N83_0 hR83_0 hN83_0 => ?_
 have hR83_0 : RdS 1 v83_0 N83_0 7 (strsV week) := hR83_0
 refine WL.q (oq_move rfl) rfl rfl rfl ?_
 refine WL.qc (oq_callRm (lookupY v83_0 N83_0 week (nameAt fulls w ++ [44, 32, (hi d), (lo d), 45, (mb mo 0), (mb mo 1), (mb mo 2), 45, (hi y), (lo y), 32, (hi hh), (lo hh), 58, (hi mm), (lo mm), 58, (hi ss), (lo ss), 32, 71, 77, 84]) hR83_0 (by decide) (full_len w hw _ (by simp)) w _ (look_short w hw _)) (.head _) call39 rfl) rfl rfl rfl ?_
 refine WL.q (oq_move rfl) rfl rfl rfl ?_
 refine WL.q (oq_extract rfl rfl) rfl rfl rfl ?_
 refine WL.q (oq_extract rfl rfl) rfl rfl rfl ?_
 refine WL.q (oq_extract rfl rfl) rfl rfl rfl ?_
 refine WL.q (oq_assign rfl) rfl rfl rfl ?_
 refine WL.q (oq_assign rfl) rfl rfl rfl ?_
 refine WL.nil (WE.then_normal (WC.exit ?_))
 refine WE.block_other rfl ?_
 refine WE.then_exit ?_
 refine WE.block_other rfl ?_
 refine WE.then_exit ?_
 refine WE.block_other rfl ?_
 refine WE.then_exit ?_
 refine WE.block_other rfl ?_
 refine WE.then_exit ?_
 refine WE.block_other rfl ?_
 refine WE.then_exit ?_
 refine WE.block_other rfl ?_
 refine WE.then_exit ?_
 refine WE.block_other rfl ?_
 refine WE.then_exit ?_
 refine WE.block_other rfl ?_
 refine WE.then_exit ?_
 refine WE.block_other rfl ?_
 refine WE.then_exit ?_
 refine WE.block_other rfl ?_
 refine WE.then_exit ?_
 refine WE.block_other rfl ?_
 refine WE.then_exit ?_
 refine WE.block_other rfl ?_
 refine WE.then_exit ?_
 refine WE.block_other rfl ?_
 refine WE.then_exit ?_
 refine WE.block_other rfl ?_
 refine WE.then_exit (WE.block_same (WE.then_normal (WC.seq (WC.seq (WC.region ?_)))))
 refine WL.q (oq_move rfl) rfl rfl rfl ?_
 refine WL.q ((oq_sneq rfl rfl).to (v' := .bool false) (by kernel_rfl)) rfl rfl rfl ?_
 refine WL.nil (WE.then_normal ?_)
 refine WC.cond_f rfl ?_
 refine WC.skip (WE.then_normal (WC.seq (WC.region ?_)))
 refine WL.q (oq_move rfl) rfl rfl rfl ?_
 refine WL.q ((oq_ineq Tryd.underlying39 rfl (.inl rfl)).to (v' := .bool false) rfl) rfl rfl rfl ?_
 refine WL.nil (WE.then_normal ?_)
 refine WC.cond_f rfl ?_
 refine WC.skip (WE.block_normal ?_)
 refine WE.forget hN83_0 ?_
 refine WE.round ?_
 refine WC.sub (fr' := [(0, _), (1, _), (4, _), (6, _), (7, _), (8, _), (9, _), (10, _), (11, _), (12, _), (13, _), (14, _), (15, _), (16, _), (17, _), (18, _), (19, _), (20, _), (21, _)]) ?_ ⟨rfl, rfl, rfl, rfl, rfl, rfl, rfl, rfl, rfl, rfl, rfl, rfl, rfl, rfl, rfl, rfl, rfl, rfl, rfl, trivial⟩
 refine WC.block (WC.seq (WC.region ?_))
 refine WL.q (oq_assign rfl) rfl rfl rfl ?_
 refine WL.nil (WE.then_normal (WC.seq (WC.region ?_)))
 refine WL.q (oq_move rfl) rfl rfl rfl ?_
 refine WL.qc (oq_callRm (ch27 G hT) (.tail _ (.head _)) call35 rfl) rfl rfl rfl ?_
 refine WL.q (oq_move rfl) rfl rfl rfl ?_
 refine WL.q (oq_extract rfl rfl) rfl rfl rfl ?_
 refine WL.q (oq_extract rfl rfl) rfl rfl rfl ?_
 refine WL.q (oq_extract rfl rfl) rfl rfl rfl ?_
 refine WL.q (oq_assign rfl) rfl rfl rfl ?_
 refine WL.q (oq_assign rfl) rfl rfl rfl ?_
 refine WL.q (oq_assign rfl) rfl rfl rfl ?_
 refine WL.nil (WE.then_normal (WC.seq (WC.region ?_)))
 refine WL.q (oq_move rfl) rfl rfl rfl ?_
 refine WL.q (oq_move rfl) rfl rfl rfl ?_
 refine WL.q ((oq_len_s Tryd.underlying9 rfl).to (v' := I 2) rfl) rfl rfl rfl ?_
 refine WL.q (oq_move rfl) rfl rfl rfl ?_
 refine WL.q ((oq_len_s Tryd.underlying9 rfl).to (v' := I 24) rfl) rfl rfl rfl ?_
 refine WL.q (oq_move rfl) rfl rfl rfl ?_
 refine WL.q ((oq_len_s Tryd.underlying9 rfl).to (v' := I 20) rfl) rfl rfl rfl ?_
 refine WL.q ((oq_sub rfl rfl (by rw [i64_lo, i64_hi]; omega)).to (v' := I 4) rfl) rfl rfl rfl ?_
 refine WL.q ((oq_slice_s2 Tryd.underlying9 rfl rfl rfl (by first | decide | simp)).to (v' := S [95, 50]) rfl) rfl rfl rfl ?_
 refine WL.q (oq_assign rfl) rfl rfl rfl ?_
 refine WL.nil (WE.then_normal (WC.seq (WC.region ?_)))
 refine WL.q (oq_move rfl) rfl rfl rfl ?_
 refine WL.q (oq_move rfl) rfl rfl rfl ?_
 refine WL.qc (oq_callRm (skipN hE (ftail w ++ [44, 32, (hi d), (lo d), 45, (mb mo 0), (mb mo 1), (mb mo 2), 45, (hi y), (lo y), 32, (hi hh), (lo hh), 58, (hi mm), (lo mm), 58, (hi ss), (lo ss), 32, 71, 77, 84]) [44, 32] _ (ftail_len w hw _ (by simp)) (by simp) (skip_short w hw _)) (.tail _ (.head _)) call36 rfl) rfl rfl rfl ?_
 refine WL.q (oq_move rfl) rfl rfl rfl ?_
 refine WL.q (oq_extract rfl rfl) rfl rfl rfl ?_
 refine WL.q (oq_extract rfl rfl) rfl rfl rfl ?_
 refine WL.q (oq_assign rfl) rfl rfl rfl ?_
 refine WL.q (oq_assign rfl) rfl rfl rfl ?_
 refine WL.nil (WE.then_normal (WC.seq (WC.seq (WC.region ?_))))
 refine WL.q (oq_move rfl) rfl rfl rfl ?_
 refine WL.q ((oq_ineq Tryd.underlying39 rfl (.inr ⟨_, _, rfl⟩)).to (v' := .bool true) rfl) rfl rfl rfl ?_
 refine WL.nil (WE.then_normal ?_)
 refine WC.cond_t rfl ?_
 refine WC.seq (WC.region ?_)
 refine WL.q (oq_build #[_, _, _, _] str37 ty37 rfl rfl) rfl rfl rfl ?_
 refine WL.q (oq_move rfl) rfl rfl rfl ?_
 refine WL.q (oq_move rfl) rfl rfl rfl ?_
 refine WL.q (oq_move rfl) rfl rfl rfl ?_
 refine WL.q (oq_move rfl) rfl rfl rfl ?_
 refine WL.callA0 (newPE _ _ _ _ _ (by simp)) call37 rfl rfl rfl fun v21_5 N21_5 hR21_5 hN21_5 => ?_
 obtain ⟨kE, uE, rfl⟩ := hR21_5
 refine WL.f1 ?_
 refine WL.storeS #[_, _, _, _] ty37 rfl rfl rfl rfl (Nat.le_of_ble_eq_true rfl) rfl rfl ?_
 refine WL.q (oq_assign rfl) rfl rfl rfl ?_
 refine WL.nil (WE.then_normal (WC.sub (fr' := [(4, _), (5, _)]) ?_ ⟨rfl, rfl, trivial⟩))
 refine WC.ret (WE.then_ret (WE.block_ret (WE.then_ret (WE.block_ret (WE.then_ret ?_)))))
 refine WE.endDA (.inl rfl) (rs2 Tryd.results27 (rv_cellS [_, _, _, _] agg37 ty37 rfl (.head _) (List.mem_singleton.2 rfl) rfl rfl) (rv_tmp rfl)) (dr_lose htb dr_refl) (hN21_5) ?_
 exact ⟨_, _, rfl⟩
set_option maxHeartbeats 20000000 in
theorem bad5a_1 (G : Hp) (k0 : TypeId) (u0 : Value) (hL : LT G k0 u0) (w : Nat) (hw : w < 7) (d mo y hh mm ss : Nat) (hmo : mo < 12) : FnA Tryd.prog 27 [S [77, 111, 110, 44, 32, 48, 50, 32, 74, 97, 110, 32, 50, 48, 48, 54, 32, 49, 53, 58, 48, 52, 58, 48, 53, 32, 71, 77, 84], S [(wb w 0), (wb w 1), (wb w 2), 32, (mb mo 0), (mb mo 1), (mb mo 2), 32, 32, (lo d), 32, (hi hh), (lo hh), 58, (hi mm), (lo mm), 58, (hi ss), (lo ss), 32, (hi (y / 100)), (lo (y / 100)), (hi (y % 100)), (lo (y % 100))]] G (parseBad) := by
 obtain ⟨hE, hT, sv, ⟨tl, fl, hml⟩, hsv⟩ := hL
 refine FnA.enter (n := 852) Tryd.func27 rfl rfl fun w0 => ?_
 refine WC.sub (fr' := [(0, _), (1, _)]) ?_ ⟨rfl, rfl, trivial⟩
 refine WC.seq (WC.region ?_)
 refine WL.alloc ty37 rfl rfl fun tb htb => ?_
 refine WL.q (oq_assign rfl) rfl rfl rfl ?_
 refine WL.nil (WE.then_normal (WC.seq (WC.region ?_)))
 refine WL.q (oq_move rfl) rfl rfl rfl ?_
 refine WL.q (oq_move rfl) rfl rfl rfl ?_
 refine WL.q (oq_assign rfl) rfl rfl rfl ?_
 refine WL.q (oq_assign rfl) rfl rfl rfl ?_
 refine WL.nil (WE.then_normal (WC.seq (WC.region ?_)))
 refine WL.q (oq_assign rfl) rfl rfl rfl ?_
 refine WL.nil (WE.then_normal (WC.seq (WC.region ?_)))
 refine WL.q (oq_assign rfl) rfl rfl rfl ?_
 refine WL.nil (WE.then_normal (WC.seq (WC.region ?_)))
 refine WL.q (oq_assign rfl) rfl rfl rfl ?_
 refine WL.nil (WE.then_normal (WC.seq (WC.region ?_)))
 refine WL.q (oq_assign rfl) rfl rfl rfl ?_
 refine WL.nil (WE.then_normal (WC.seq (WC.region ?_)))
 refine WL.q (oq_assign rfl) rfl rfl rfl ?_
 refine WL.nil (WE.then_normal (WC.seq (WC.region ?_)))
 refine WL.q (oq_assign rfl) rfl rfl rfl ?_
 refine WL.nil (WE.then_normal (WC.seq (WC.region ?_)))
 refine WL.q (oq_assign rfl) rfl rfl rfl ?_
 refine WL.nil (WE.then_normal (WC.seq (WC.region ?_)))
 refine WL.q (oq_assign rfl) rfl rfl rfl ?_
 refine WL.nil (WE.then_normal (WC.seq (WC.region ?_)))
 refine WL.q (oq_assign rfl) rfl rfl rfl ?_
 refine WL.nil (WE.then_normal (WC.seq (WC.region ?_)))
 refine WL.q (oq_assign rfl) rfl rfl rfl ?_
 refine WL.nil (WE.then_normal (WC.seq (WC.region ?_)))
 refine WL.q (oq_assign rfl) rfl rfl rfl ?_
 refine WL.nil (WE.then_normal (WC.seq (WC.region ?_)))
 refine WL.q (oq_assign rfl) rfl rfl rfl ?_
 refine WL.nil (WE.then_normal (WC.seq (WC.region ?_)))
 refine WL.q (oq_assign rfl) rfl rfl rfl ?_
 refine WL.nil (WE.then_normal (WC.seq (WC.region ?_)))
 refine WL.q (oq_assign rfl) rfl rfl rfl ?_
 refine WL.nil (WE.then_normal (WC.seq (WC.block ?_)))
 refine WC.unroll ?_
 refine WC.block (WC.seq (WC.region ?_))
 refine WL.q (oq_assign rfl) rfl rfl rfl ?_
 refine WL.nil (WE.then_normal (WC.seq (WC.region ?_)))
 refine WL.q (oq_move rfl) rfl rfl rfl ?_
 refine WL.qc (oq_callRm (ch0 G hT) (.tail _ (.head _)) call35 rfl) rfl rfl rfl ?_
 refine WL.q (oq_move rfl) rfl rfl rfl ?_
 refine WL.q (oq_extract rfl rfl) rfl rfl rfl ?_
 refine WL.q (oq_extract rfl rfl) rfl rfl rfl ?_
 refine WL.q (oq_extract rfl rfl) rfl rfl rfl ?_
 refine WL.q (oq_assign rfl) rfl rfl rfl ?_
 refine WL.q (oq_assign rfl) rfl rfl rfl ?_
 refine WL.q (oq_assign rfl) rfl rfl rfl ?_
 refine WL.nil (WE.then_normal (WC.seq (WC.region ?_)))
 refine WL.q (oq_move rfl) rfl rfl rfl ?_
 refine WL.q (oq_move rfl) rfl rfl rfl ?_
 refine WL.q ((oq_len_s Tryd.underlying9 rfl).to (v' := I 0) rfl) rfl rfl rfl ?_
 refine WL.q (oq_move rfl) rfl rfl rfl ?_
 refine WL.q ((oq_len_s Tryd.underlying9 rfl).to (v' := I 29) rfl) rfl rfl rfl ?_
 refine WL.q (oq_move rfl) rfl rfl rfl ?_
 refine WL.q ((oq_len_s Tryd.underlying9 rfl).to (v' := I 26) rfl) rfl rfl rfl ?_
 refine WL.q ((oq_sub rfl rfl (by rw [i64_lo, i64_hi]; omega)).to (v' := I 3) rfl) rfl rfl rfl ?_
 refine WL.q ((oq_slice_s2 Tryd.underlying9 rfl rfl rfl (by first | decide | simp)).to (v' := S [77, 111, 110]) rfl) rfl rfl rfl ?_
 refine WL.q (oq_assign rfl) rfl rfl rfl ?_
 refine WL.nil (WE.then_normal (WC.seq (WC.region ?_)))
 refine WL.q (oq_move rfl) rfl rfl rfl ?_
 refine WL.q (oq_move rfl) rfl rfl rfl ?_
 refine WL.qc (oq_callRm (skipY hE [(wb w 0), (wb w 1), (wb w 2), 32, (mb mo 0), (mb mo 1), (mb mo 2), 32, 32, (lo d), 32, (hi hh), (lo hh), 58, (hi mm), (lo mm), 58, (hi ss), (lo ss), 32, (hi (y / 100)), (lo (y / 100)), (hi (y % 100)), (lo (y % 100))] [] [(wb w 0), (wb w 1), (wb w 2), 32, (mb mo 0), (mb mo 1), (mb mo 2), 32, 32, (lo d), 32, (hi hh), (lo hh), 58, (hi mm), (lo mm), 58, (hi ss), (lo ss), 32, (hi (y / 100)), (lo (y / 100)), (hi (y % 100)), (lo (y % 100))] (by simp) (by simp) (by simp +decide [skipM, cutsp, hi_ne, lo_ne, mb_ne mo hmo])) (.tail _ (.head _)) call36 rfl) rfl rfl rfl ?_
 refine WL.q (oq_move rfl) rfl rfl rfl ?_
 refine WL.q (oq_extract rfl rfl) rfl rfl rfl ?_
 refine WL.q (oq_extract rfl rfl) rfl rfl rfl ?_
 refine WL.q (oq_assign rfl) rfl rfl rfl ?_
 refine WL.q (oq_assign rfl) rfl rfl rfl ?_
 refine WL.nil (WE.then_normal (WC.seq (WC.seq (WC.region ?_))))
 refine WL.q (oq_move rfl) rfl rfl rfl ?_
 refine WL.q ((oq_ineq Tryd.underlying39 rfl (.inl rfl)).to (v' := .bool false) rfl) rfl rfl rfl ?_
 refine WL.nil (WE.then_normal ?_)
 refine WC.cond_f rfl ?_
 refine WC.skip (WE.then_normal (WC.seq (WC.seq (WC.region ?_))))
 refine WL.q (oq_move rfl) rfl rfl rfl ?_
 refine WL.q ((oq_eql rfl rfl).to (v' := .bool false) (congrArg Value.bool (decide_eq_false (by omega)))) rfl rfl rfl ?_
 refine WL.nil (WE.then_normal ?_)
 refine WC.cond_f rfl ?_
 refine WC.skip (WE.then_normal (WC.seq (WC.region ?_)))
 refine WL.q (oq_move rfl) rfl rfl rfl ?_
 refine WL.q (oq_assign rfl) rfl rfl rfl ?_
 refine WL.nil (WE.then_normal (WC.seq (WC.region ?_)))
 refine WL.q (oq_assign rfl) rfl rfl rfl ?_
 refine WL.nil (WE.then_normal (WC.seq (WC.region ?_)))
 refine WL.q (oq_move rfl) rfl rfl rfl ?_
 refine WL.q (oq_assign rfl) rfl rfl rfl ?_
 refine WL.nil (WE.then_normal (WC.seq (WC.seq (WC.region ?_))))
 refine WL.q (oq_move rfl) rfl rfl rfl ?_
 refine WL.q ((oq_bits (op := .and) rfl rfl (by simp)).to (v' := I 262) (by kernel_rfl)) rfl rfl rfl ?_
 refine WL.nil (WE.then_normal (WC.block (WC.seq (WC.block (WC.seq (WC.block (WC.seq (WC.block (WC.seq (WC.block (WC.seq (WC.block (WC.seq (WC.block (WC.seq (WC.block (WC.seq (WC.block (WC.seq (WC.block (WC.seq (WC.block (WC.seq (WC.block (WC.seq (WC.block (WC.seq (WC.block (WC.seq (WC.block (WC.seq (WC.block (WC.seq (WC.block (WC.seq (WC.block (WC.seq (WC.block (WC.seq (WC.block (WC.seq (WC.block (WC.seq (WC.seq (WC.seq (WC.region ?_))))))))))))))))))))))))))))))))))))))))))))))
 refine WL.q ((oq_eql rfl rfl).to (v' := .bool false) (congrArg Value.bool (decide_eq_false (by omega)))) rfl rfl rfl ?_
 refine WL.q (oq_assign rfl) rfl rfl rfl ?_
 refine WL.nil (WE.then_normal (WC.sub (fr' := [(0, _), (1, _), (4, _), (6, _), (7, _), (8, _), (9, _), (10, _), (11, _), (12, _), (13, _), (14, _), (15, _), (16, _), (17, _), (18, _), (19, _), (20, _), (21, _), (22, _), (24, _), (26, _), (28, _), (91, _), (92, _)]) ?_ ⟨rfl, rfl, rfl, rfl, rfl, rfl, rfl, rfl, rfl, rfl, rfl, rfl, rfl, rfl, rfl, rfl, rfl, rfl, rfl, rfl, rfl, rfl, rfl, rfl, rfl, trivial⟩))
 refine WC.cond_f rfl ?_
 refine WC.skip (WE.then_normal (WC.seq (WC.seq (WC.region ?_))))
 refine WL.q ((oq_eql rfl rfl).to (v' := .bool false) (congrArg Value.bool (decide_eq_false (by omega)))) rfl rfl rfl ?_
 refine WL.q (oq_assign rfl) rfl rfl rfl ?_
 refine WL.nil (WE.then_normal ?_)
 refine WC.cond_f rfl ?_
 refine WC.skip (WE.then_normal (WC.seq (WC.seq (WC.region ?_))))
 refine WL.q ((oq_eql rfl rfl).to (v' := .bool false) (congrArg Value.bool (decide_eq_false (by omega)))) rfl rfl rfl ?_
 refine WL.q (oq_assign rfl) rfl rfl rfl ?_
 refine WL.nil (WE.then_normal ?_)
 refine WC.cond_f rfl ?_
 refine WC.skip (WE.then_normal (WC.seq (WC.seq (WC.region ?_))))
 refine WL.q ((oq_eql rfl rfl).to (v' := .bool false) (congrArg Value.bool (decide_eq_false (by omega)))) rfl rfl rfl ?_
 refine WL.q (oq_assign rfl) rfl rfl rfl ?_
 refine WL.nil (WE.then_normal ?_)
 refine WC.cond_f rfl ?_
 refine WC.skip (WE.then_normal (WC.seq (WC.seq (WC.seq (WC.region ?_)))))
 refine WL.q ((oq_eql rfl rfl).to (v' := .bool false) (congrArg Value.bool (decide_eq_false (by omega)))) rfl rfl rfl ?_
 refine WL.q (oq_assign rfl) rfl rfl rfl ?_
 refine WL.nil (WE.then_normal ?_)
 refine WC.cond_f rfl ?_
 refine WC.region ?_
 refine WL.q ((oq_eql rfl rfl).to (v' := .bool false) (congrArg Value.bool (decide_eq_false (by omega)))) rfl rfl rfl ?_
 refine WL.q (oq_assign rfl) rfl rfl rfl ?_
 refine WL.nil (WE.then_normal ?_)
 refine WC.cond_f rfl ?_
 refine WC.skip (WE.then_normal (WC.seq (WC.seq (WC.region ?_))))
 refine WL.q ((oq_eql rfl rfl).to (v' := .bool true) (congrArg Value.bool (decide_eq_true (by omega)))) rfl rfl rfl ?_
 refine WL.q (oq_assign rfl) rfl rfl rfl ?_
 refine WL.nil (WE.then_normal ?_)
 refine WC.cond_t rfl ?_
 refine WC.exit (WE.then_exit (WE.then_exit ?_))
 refine WE.block_other rfl ?_
 refine WE.then_exit ?_
 refine WE.block_other rfl ?_
 refine WE.then_exit ?_
 refine WE.block_other rfl ?_
 refine WE.then_exit ?_
 refine WE.block_other rfl ?_
 refine WE.then_exit ?_
 refine WE.block_other rfl ?_
 refine WE.then_exit (WE.block_same (WE.then_normal (WC.seq (WC.region ?_))))
 refine WL.callA0 (dayNames) call42 rfl rfl rfl fun v83_0 N83_0 hR83_0 hN83_0 => ?_
 have hR83_0 : RdS 1 v83_0 N83_0 7 (strsV week) := hR83_0
 refine WL.q (oq_move rfl) rfl rfl rfl ?_
 refine WL.qc (oq_callRm (lookupY v83_0 N83_0 week [(wb w 0), (wb w 1), (wb w 2), 32, (mb mo 0), (mb mo 1), (mb mo 2), 32, 32, (lo d), 32, (hi hh), (lo hh), 58, (hi mm), (lo mm), 58, (hi ss), (lo ss), 32, (hi (y / 100)), (lo (y / 100)), (hi (y % 100)), (lo (y % 100))] hR83_0 (by decide) (by simp) w _ (look_week w hw _)) (.head _) call39 rfl) rfl rfl rfl ?_
 refine WL.q (oq_move rfl) rfl rfl rfl ?_
 refine WL.q (oq_extract rfl rfl) rfl rfl rfl ?_
 refine WL.q (oq_extract rfl rfl) rfl rfl rfl ?_
 refine WL.q (oq_extract rfl rfl) rfl rfl rfl ?_
 refine WL.q (oq_assign rfl) rfl rfl rfl ?_
 refine WL.q (oq_assign rfl) rfl rfl rfl ?_
 refine WL.nil (WE.then_normal (WC.exit ?_))
 refine WE.block_other rfl ?_
 refine WE.then_exit ?_
 refine WE.block_other rfl ?_
 refine WE.then_exit ?_
 refine WE.block_other rfl ?_
 refine WE.then_exit ?_
 refine WE.block_other rfl ?_
 refine WE.then_exit ?_
 refine WE.block_other rfl ?_
 refine WE.then_exit ?_
 refine WE.block_other rfl ?_
 refine WE.then_exit ?_
 refine WE.block_other rfl ?_
 refine WE.then_exit ?_
 refine WE.block_other rfl ?_
 refine WE.then_exit ?_
 refine WE.block_other rfl ?_
 refine WE.then_exit ?_
 refine WE.block_other rfl ?_
 refine WE.then_exit ?_
 refine WE.block_other rfl ?_
 refine WE.then_exit ?_
 refine WE.block_other rfl ?_
 refine WE.then_exit ?_
 refine WE.block_other rfl ?_
 refine WE.then_exit ?_
 refine WE.block_other rfl ?_
 refine WE.then_exit (WE.block_same (WE.then_normal (WC.seq (WC.seq (WC.region ?_)))))
 refine WL.q (oq_move rfl) rfl rfl rfl ?_
 refine WL.q ((oq_sneq rfl rfl).to (v' := .bool false) (by kernel_rfl)) rfl rfl rfl ?_
 refine WL.nil (WE.then_normal ?_)
 refine WC.cond_f rfl ?_
 refine WC.skip (WE.then_normal (WC.seq (WC.region ?_)))
 refine WL.q (oq_move rfl) rfl rfl rfl ?_
 refine WL.q ((oq_ineq Tryd.underlying39 rfl (.inl rfl)).to (v' := .bool false) rfl) rfl rfl rfl ?_
 refine WL.nil (WE.then_normal ?_)
 refine WC.cond_f rfl ?_
 refine WC.skip (WE.block_normal ?_)
 refine WE.forget hN83_0 ?_
 refine WE.round ?_
 refine WC.sub (fr' := [(0, _), (1, _), (4, _), (6, _), (7, _), (8, _), (9, _), (10, _), (11, _), (12, _), (13, _), (14, _), (15, _), (16, _), (17, _), (18, _), (19, _), (20, _), (21, _)]) ?_ ⟨rfl, rfl, rfl, rfl, rfl, rfl, rfl, rfl, rfl, rfl, rfl, rfl, rfl, rfl, rfl, rfl, rfl, rfl, rfl, trivial⟩
 refine WC.block (WC.seq (WC.region ?_))
 refine WL.q (oq_assign rfl) rfl rfl rfl ?_
 refine WL.nil (WE.then_normal (WC.seq (WC.region ?_)))
 refine WL.q (oq_move rfl) rfl rfl rfl ?_
 refine WL.qc (oq_callRm (ch1 G hT) (.tail _ (.head _)) call35 rfl) rfl rfl rfl ?_
 refine WL.q (oq_move rfl) rfl rfl rfl ?_
 refine WL.q (oq_extract rfl rfl) rfl rfl rfl ?_
 refine WL.q (oq_extract rfl rfl) rfl rfl rfl ?_
 refine WL.q (oq_extract rfl rfl) rfl rfl rfl ?_
 refine WL.q (oq_assign rfl) rfl rfl rfl ?_
 refine WL.q (oq_assign rfl) rfl rfl rfl ?_
 refine WL.q (oq_assign rfl) rfl rfl rfl ?_
 refine WL.nil (WE.then_normal (WC.seq (WC.region ?_)))
 refine WL.q (oq_move rfl) rfl rfl rfl ?_
 refine WL.q (oq_move rfl) rfl rfl rfl ?_
 refine WL.q ((oq_len_s Tryd.underlying9 rfl).to (v' := I 2) rfl) rfl rfl rfl ?_
 refine WL.q (oq_move rfl) rfl rfl rfl ?_
 refine WL.q ((oq_len_s Tryd.underlying9 rfl).to (v' := I 26) rfl) rfl rfl rfl ?_
 refine WL.q (oq_move rfl) rfl rfl rfl ?_
 refine WL.q ((oq_len_s Tryd.underlying9 rfl).to (v' := I 22) rfl) rfl rfl rfl ?_
 refine WL.q ((oq_sub rfl rfl (by rw [i64_lo, i64_hi]; omega)).to (v' := I 4) rfl) rfl rfl rfl ?_
 refine WL.q ((oq_slice_s2 Tryd.underlying9 rfl rfl rfl (by first | decide | simp)).to (v' := S [48, 50]) rfl) rfl rfl rfl ?_
 refine WL.q (oq_assign rfl) rfl rfl rfl ?_
 refine WL.nil (WE.then_normal (WC.seq (WC.region ?_)))
 refine WL.q (oq_move rfl) rfl rfl rfl ?_
 refine WL.q (oq_move rfl) rfl rfl rfl ?_
 refine WL.qc (oq_callRm (skipN hE [32, (mb mo 0), (mb mo 1), (mb mo 2), 32, 32, (lo d), 32, (hi hh), (lo hh), 58, (hi mm), (lo mm), 58, (hi ss), (lo ss), 32, (hi (y / 100)), (lo (y / 100)), (hi (y % 100)), (lo (y % 100))] [44, 32] [32, (mb mo 0), (mb mo 1), (mb mo 2), 32, 32, (lo d), 32, (hi hh), (lo hh), 58, (hi mm), (lo mm), 58, (hi ss), (lo ss), 32, (hi (y / 100)), (lo (y / 100)), (hi (y % 100)), (lo (y % 100))] (by simp) (by simp) (by simp +decide [skipM, cutsp, hi_ne, lo_ne, mb_ne mo hmo])) (.tail _ (.head _)) call36 rfl) rfl rfl rfl ?_
 refine WL.q (oq_move rfl) rfl rfl rfl ?_
 refine WL.q (oq_extract rfl rfl) rfl rfl rfl ?_
 refine WL.q (oq_extract rfl rfl) rfl rfl rfl ?_
 refine WL.q (oq_assign rfl) rfl rfl rfl ?_
 refine WL.q (oq_assign rfl) rfl rfl rfl ?_
 refine WL.nil (WE.then_normal (WC.seq (WC.seq (WC.region ?_))))
 refine WL.q (oq_move rfl) rfl rfl rfl ?_
 refine WL.q ((oq_ineq Tryd.underlying39 rfl (.inr ⟨_, _, rfl⟩)).to (v' := .bool true) rfl) rfl rfl rfl ?_
 refine WL.nil (WE.then_normal ?_)
 refine WC.cond_t rfl ?_
 refine WC.seq (WC.region ?_)
 refine WL.q (oq_build #[_, _, _, _] str37 ty37 rfl rfl) rfl rfl rfl ?_
 refine WL.q (oq_move rfl) rfl rfl rfl ?_
 refine WL.q (oq_move rfl) rfl rfl rfl ?_
 refine WL.q (oq_move rfl) rfl rfl rfl ?_
 refine WL.q (oq_move rfl) rfl rfl rfl ?_
 refine WL.callA0 (newPE _ _ _ _ _ (by simp)) call37 rfl rfl rfl fun v21_5 N21_5 hR21_5 hN21_5 => ?_
 obtain ⟨kE, uE, rfl⟩ := hR21_5
 refine WL.f1 ?_
 refine WL.storeS #[_, _, _, _] ty37 rfl rfl rfl rfl (Nat.le_of_ble_eq_true rfl) rfl rfl ?_
 refine WL.q (oq_assign rfl) rfl rfl rfl ?_
 refine WL.nil (WE.then_normal (WC.sub (fr' := [(4, _), (5, _)]) ?_ ⟨rfl, rfl, trivial⟩))
 refine WC.ret (WE.then_ret (WE.block_ret (WE.then_ret (WE.block_ret (WE.then_ret ?_)))))
 refine WE.endDA (.inl rfl) (rs2 Tryd.results27 (rv_cellS [_, _, _, _] agg37 ty37 rfl (.head _) (List.mem_singleton.2 rfl) rfl rfl) (rv_tmp rfl)) (dr_lose htb dr_refl) (hN21_5) ?_
 exact ⟨_, _, rfl⟩
set_option maxHeartbeats 20000000 in
theorem bad5a_2 (G : Hp) (k0 : TypeId) (u0 : Value) (hL : LT G k0 u0) (w : Nat) (hw : w < 7) (d mo y hh mm ss : Nat) (hmo : mo < 12) : FnA Tryd.prog 27 [S [77, 111, 110, 44, 32, 95, 50, 32, 74, 97, 110, 32, 50, 48, 48, 54, 32, 49, 53, 58, 48, 52, 58, 48, 53, 32, 71, 77, 84], S [(wb w 0), (wb w 1), (wb w 2), 32, (mb mo 0), (mb mo 1), (mb mo 2), 32, 32, (lo d), 32, (hi hh), (lo hh), 58, (hi mm), (lo mm), 58, (hi ss), (lo ss), 32, (hi (y / 100)), (lo (y / 100)), (hi (y % 100)), (lo (y % 100))]] G (parseBad) := by
 obtain ⟨hE, hT, sv, ⟨tl, fl, hml⟩, hsv⟩ := hL
 refine FnA.enter (n := 852) Tryd.func27 rfl rfl fun w0 => ?_
 refine WC.sub (fr' := [(0, _), (1, _)]) ?_ ⟨rfl, rfl, trivial⟩
 refine WC.seq (WC.region ?_)
 refine WL.alloc ty37 rfl rfl fun tb htb => ?_
 refine WL.q (oq_assign rfl) rfl rfl rfl ?_
 refine WL.nil (WE.then_normal (WC.seq (WC.region ?_)))
 refine WL.q (oq_move rfl) rfl rfl rfl ?_
 refine WL.q (oq_move rfl) rfl rfl rfl ?_
 refine WL.q (oq_assign rfl) rfl rfl rfl ?_
 refine WL.q (oq_assign rfl) rfl rfl rfl ?_
 refine WL.nil (WE.then_normal (WC.seq (WC.region ?_)))
 refine WL.q (oq_assign rfl) rfl rfl rfl ?_
 refine WL.nil (WE.then_normal (WC.seq (WC.region ?_)))
 refine WL.q (oq_assign rfl) rfl rfl rfl ?_
 refine WL.nil (WE.then_normal (WC.seq (WC.region ?_)))
 refine WL.q (oq_assign rfl) rfl rfl rfl ?_
 refine WL.nil (WE.then_normal (WC.seq (WC.region ?_)))
 refine WL.q (oq_assign rfl) rfl rfl rfl ?_
 refine WL.nil (WE.then_normal (WC.seq (WC.region ?_)))
 refine WL.q (oq_assign rfl) rfl rfl rfl ?_
 refine WL.nil (WE.then_normal (WC.seq (WC.region ?_)))
 refine WL.q (oq_assign rfl) rfl rfl rfl ?_
 refine WL.nil (WE.then_normal (WC.seq (WC.region ?_)))
 refine WL.q (oq_assign rfl) rfl rfl rfl ?_
 refine WL.nil (WE.then_normal (WC.seq (WC.region ?_)))
 refine WL.q (oq_assign rfl) rfl rfl rfl ?_
 refine WL.nil (WE.then_normal (WC.seq (WC.region ?_)))
 refine WL.q (oq_assign rfl) rfl rfl rfl ?_
 refine WL.nil (WE.then_normal (WC.seq (WC.region ?_)))
 refine WL.q (oq_assign rfl) rfl rfl rfl ?_
 refine WL.nil (WE.then_normal (WC.seq (WC.region ?_)))
 refine WL.q (oq_assign rfl) rfl rfl rfl ?_
 refine WL.nil (WE.then_normal (WC.seq (WC.region ?_)))
 refine WL.q (oq_assign rfl) rfl rfl rfl ?_
 refine WL.nil (WE.then_normal (WC.seq (WC.region ?_)))
 refine WL.q (oq_assign rfl) rfl rfl rfl ?_
 refine WL.nil (WE.then_normal (WC.seq (WC.region ?_)))
 refine WL.q (oq_assign rfl) rfl rfl rfl ?_
 refine WL.nil (WE.then_normal (WC.seq (WC.block ?_)))
 refine WC.unroll ?_
 refine WC.block (WC.seq (WC.region ?_))
 refine WL.q (oq_assign rfl) rfl rfl rfl ?_
 refine WL.nil (WE.then_normal (WC.seq (WC.region ?_)))
 refine WL.q (oq_move rfl) rfl rfl rfl ?_
 refine WL.qc (oq_callRm (ch24 G hT) (.tail _ (.head _)) call35 rfl) rfl rfl rfl ?_
 refine WL.q (oq_move rfl) rfl rfl rfl ?_
 refine WL.q (oq_extract rfl rfl) rfl rfl rfl ?_
 refine WL.q (oq_extract rfl rfl) rfl rfl rfl ?_
 refine WL.q (oq_extract rfl rfl) rfl rfl rfl ?_
 refine WL.q (oq_assign rfl) rfl rfl rfl ?_
 refine WL.q (oq_assign rfl) rfl rfl rfl ?_
 refine WL.q (oq_assign rfl) rfl rfl rfl ?_
 refine WL.nil (WE.then_normal (WC.seq (WC.region ?_)))
 refine WL.q (oq_move rfl) rfl rfl rfl ?_
 refine WL.q (oq_move rfl) rfl rfl rfl ?_
 refine WL.q ((oq_len_s Tryd.underlying9 rfl).to (v' := I 0) rfl) rfl rfl rfl ?_
 refine WL.q (oq_move rfl) rfl rfl rfl ?_
 refine WL.q ((oq_len_s Tryd.underlying9 rfl).to (v' := I 29) rfl) rfl rfl rfl ?_
 refine WL.q (oq_move rfl) rfl rfl rfl ?_
 refine WL.q ((oq_len_s Tryd.underlying9 rfl).to (v' := I 26) rfl) rfl rfl rfl ?_
 refine WL.q ((oq_sub rfl rfl (by rw [i64_lo, i64_hi]; omega)).to (v' := I 3) rfl) rfl rfl rfl ?_
 refine WL.q ((oq_slice_s2 Tryd.underlying9 rfl rfl rfl (by first | decide | simp)).to (v' := S [77, 111, 110]) rfl) rfl rfl rfl ?_
 refine WL.q (oq_assign rfl) rfl rfl rfl ?_
 refine WL.nil (WE.then_normal (WC.seq (WC.region ?_)))
 refine WL.q (oq_move rfl) rfl rfl rfl ?_
 refine WL.q (oq_move rfl) rfl rfl rfl ?_
 refine WL.qc (oq_callRm (skipY hE [(wb w 0), (wb w 1), (wb w 2), 32, (mb mo 0), (mb mo 1), (mb mo 2), 32, 32, (lo d), 32, (hi hh), (lo hh), 58, (hi mm), (lo mm), 58, (hi ss), (lo ss), 32, (hi (y / 100)), (lo (y / 100)), (hi (y % 100)), (lo (y % 100))] [] [(wb w 0), (wb w 1), (wb w 2), 32, (mb mo 0), (mb mo 1), (mb mo 2), 32, 32, (lo d), 32, (hi hh), (lo hh), 58, (hi mm), (lo mm), 58, (hi ss), (lo ss), 32, (hi (y / 100)), (lo (y / 100)), (hi (y % 100)), (lo (y % 100))] (by simp) (by simp) (by simp +decide [skipM, cutsp, hi_ne, lo_ne, mb_ne mo hmo])) (.tail _ (.head _)) call36 rfl) rfl rfl rfl ?_
 refine WL.q (oq_move rfl) rfl rfl rfl ?_
 refine WL.q (oq_extract rfl rfl) rfl rfl rfl ?_
 refine WL.q (oq_extract rfl rfl) rfl rfl rfl ?_
 refine WL.q (oq_assign rfl) rfl rfl rfl ?_
 refine WL.q (oq_assign rfl) rfl rfl rfl ?_
 refine WL.nil (WE.then_normal (WC.seq (WC.seq (WC.region ?_))))
 refine WL.q (oq_move rfl) rfl rfl rfl ?_
 refine WL.q ((oq_ineq Tryd.underlying39 rfl (.inl rfl)).to (v' := .bool false) rfl) rfl rfl rfl ?_
 refine WL.nil (WE.then_normal ?_)
 refine WC.cond_f rfl ?_
 refine WC.skip (WE.then_normal (WC.seq (WC.seq (WC.region ?_))))
 refine WL.q (oq_move rfl) rfl rfl rfl ?_
 refine WL.q ((oq_eql rfl rfl).to (v' := .bool false) (congrArg Value.bool (decide_eq_false (by omega)))) rfl rfl rfl ?_
 refine WL.nil (WE.then_normal ?_)
 refine WC.cond_f rfl ?_
 refine WC.skip (WE.then_normal (WC.seq (WC.region ?_)))
 refine WL.q (oq_move rfl) rfl rfl rfl ?_
 refine WL.q (oq_assign rfl) rfl rfl rfl ?_
 refine WL.nil (WE.then_normal (WC.seq (WC.region ?_)))
 refine WL.q (oq_assign rfl) rfl rfl rfl ?_
 refine WL.nil (WE.then_normal (WC.seq (WC.region ?_)))
 refine WL.q (oq_move rfl) rfl rfl rfl ?_
 refine WL.q (oq_assign rfl) rfl rfl rfl ?_
 refine WL.nil (WE.then_normal (WC.seq (WC.seq (WC.region ?_))))
 refine WL.q (oq_move rfl) rfl rfl rfl ?_
 refine WL.q ((oq_bits (op := .and) rfl rfl (by simp)).to (v' := I 262) (by kernel_rfl)) rfl rfl rfl ?_
 refine WL.nil (WE.then_normal (WC.block (WC.seq (WC.block (WC.seq (WC.block (WC.seq (WC.block (WC.seq (WC.block (WC.seq (WC.block (WC.seq (WC.block (WC.seq (WC.block (WC.seq (WC.block (WC.seq (WC.block (WC.seq (WC.block (WC.seq (WC.block (WC.seq (WC.block (WC.seq (WC.block (WC.seq (WC.block (WC.seq (WC.block (WC.seq (WC.block (WC.seq (WC.block (WC.seq (WC.block (WC.seq (WC.block (WC.seq (WC.block (WC.seq (WC.seq (WC.seq (WC.region ?_))))))))))))))))))))))))))))))))))))))))))))))
 refine WL.q ((oq_eql rfl rfl).to (v' := .bool false) (congrArg Value.bool (decide_eq_false (by omega)))) rfl rfl rfl ?_
 refine WL.q (oq_assign rfl) rfl rfl rfl ?_
 refine WL.nil (WE.then_normal (WC.sub (fr' := [(0, _), (1, _), (4, _), (6, _), (7, _), (8, _), (9, _), (10, _), (11, _), (12, _), (13, _), (14, _), (15, _), (16, _), (17, _), (18, _), (19, _), (20, _), (21, _), (22, _), (24, _), (26, _), (28, _), (91, _), (92, _)]) ?_ ⟨rfl, rfl, rfl, rfl, rfl, rfl, rfl, rfl, rfl, rfl, rfl, rfl, rfl, rfl, rfl, rfl, rfl, rfl, rfl, rfl, rfl, rfl, rfl, rfl, rfl, trivial⟩))
 refine WC.cond_f rfl ?_
 refine WC.skip (WE.then_normal (WC.seq (WC.seq (WC.region ?_))))
 refine WL.q ((oq_eql rfl rfl).to (v' := .bool false) (congrArg Value.bool (decide_eq_false (by omega)))) rfl rfl rfl ?_
 refine WL.q (oq_assign rfl) rfl rfl rfl ?_
 refine WL.nil (WE.then_normal ?_)
 refine WC.cond_f rfl ?_
 refine WC.skip (WE.then_normal (WC.seq (WC.seq (WC.region ?_))))
 refine WL.q ((oq_eql rfl rfl).to (v' := .bool false) (congrArg Value.bool (decide_eq_false (by omega)))) rfl rfl rfl ?_
 refine WL.q (oq_assign rfl) rfl rfl rfl ?_
 refine WL.nil (WE.then_normal ?_)
 refine WC.cond_f rfl ?_
 refine WC.skip (WE.then_normal (WC.seq (WC.seq (WC.region ?_))))
 refine WL.q ((oq_eql rfl rfl).to (v' := .bool false) (congrArg Value.bool (decide_eq_false (by omega)))) rfl rfl rfl ?_
 refine WL.q (oq_assign rfl) rfl rfl rfl ?_
 refine WL.nil (WE.then_normal ?_)
 refine WC.cond_f rfl ?_
 refine WC.skip (WE.then_normal (WC.seq (WC.seq (WC.seq (WC.region ?_)))))
 refine WL.q ((oq_eql rfl rfl).to (v' := .bool false) (congrArg Value.bool (decide_eq_false (by omega)))) rfl rfl rfl ?_
 refine WL.q (oq_assign rfl) rfl rfl rfl ?_
 refine WL.nil (WE.then_normal ?_)
 refine WC.cond_f rfl ?_
 refine WC.region ?_
 refine WL.q ((oq_eql rfl rfl).to (v' := .bool false) (congrArg Value.bool (decide_eq_false (by omega)))) rfl rfl rfl ?_
 refine WL.q (oq_assign rfl) rfl rfl rfl ?_
 refine WL.nil (WE.then_normal ?_)
 refine WC.cond_f rfl ?_
 refine WC.skip (WE.then_normal (WC.seq (WC.seq (WC.region ?_))))
 refine WL.q ((oq_eql rfl rfl).to (v' := .bool true) (congrArg Value.bool (decide_eq_true (by omega)))) rfl rfl rfl ?_
 refine WL.q (oq_assign rfl) rfl rfl rfl ?_
 refine WL.nil (WE.then_normal ?_)
 refine WC.cond_t rfl ?_
 refine WC.exit (WE.then_exit (WE.then_exit ?_))
 refine WE.block_other rfl ?_
 refine WE.then_exit ?_
 refine WE.block_other rfl ?_
 refine WE.then_exit ?_
 refine WE.block_other rfl ?_
 refine WE.then_exit ?_
 refine WE.block_other rfl ?_
 refine WE.then_exit ?_
 refine WE.block_other rfl ?_
 refine WE.then_exit (WE.block_same (WE.then_normal (WC.seq (WC.region ?_))))
 refine WL.callA0 (dayNames) call42 rfl rfl rfl fun v83_0 N83_0 hR83_0 hN83_0 => ?_
 have hR83_0 : RdS 1 v83_0 N83_0 7 (strsV week) := hR83_0
 refine WL.q (oq_move rfl) rfl rfl rfl ?_
 refine WL.qc (oq_callRm (lookupY v83_0 N83_0 week [(wb w 0), (wb w 1), (wb w 2), 32, (mb mo 0), (mb mo 1), (mb mo 2), 32, 32, (lo d), 32, (hi hh), (lo hh), 58, (hi mm), (lo mm), 58, (hi ss), (lo ss), 32, (hi (y / 100)), (lo (y / 100)), (hi (y % 100)), (lo (y % 100))] hR83_0 (by decide) (by simp) w _ (look_week w hw _)) (.head _) call39 rfl) rfl rfl rfl ?_
 refine WL.q (oq_move rfl) rfl rfl rfl ?_
 refine WL.q (oq_extract rfl rfl) rfl rfl rfl ?_
 refine WL.q (oq_extract rfl rfl) rfl rfl rfl ?_
 refine WL.q (oq_extract rfl rfl) rfl rfl rfl ?_
 refine WL.q (oq_assign rfl) rfl rfl rfl ?_
 refine WL.q (oq_assign rfl) rfl rfl rfl ?_
 refine WL.nil (WE.then_normal (WC.exit ?_))
 refine WE.block_other rfl ?_
 refine WE.then_exit ?_
 refine WE.block_other rfl ?_
 refine WE.then_exit ?_
 refine WE.block_other rfl ?_
 refine WE.then_exit ?_
 refine WE.block_other rfl ?_
 refine WE.then_exit ?_
 refine WE.block_other rfl ?_
 refine WE.then_exit ?_
 refine WE.block_other rfl ?_
 refine WE.then_exit ?_
 refine WE.block_other rfl ?_
 refine WE.then_exit ?_
 refine WE.block_other rfl ?_
 refine WE.then_exit ?_
 refine WE.block_other rfl ?_
 refine WE.then_exit ?_
 refine WE.block_other rfl ?_
 refine WE.then_exit ?_
 refine WE.block_other rfl ?_
 refine WE.then_exit ?_
 refine WE.block_other rfl ?_
 refine WE.then_exit ?_
 refine WE.block_other rfl ?_
 refine WE.then_exit ?_
 refine WE.block_other rfl ?_
 refine WE.then_exit (WE.block_same (WE.then_normal (WC.seq (WC.seq (WC.region ?_)))))
 refine WL.q (oq_move rfl) rfl rfl rfl ?_
 refine WL.q ((oq_sneq rfl rfl).to (v' := .bool false) (by kernel_rfl)) rfl rfl rfl ?_
 refine WL.nil (WE.then_normal ?_)
 refine WC.cond_f rfl ?_
 refine WC.skip (WE.then_normal (WC.seq (WC.region ?_)))
 refine WL.q (oq_move rfl) rfl rfl rfl ?_
 refine WL.q ((oq_ineq Tryd.underlying39 rfl (.inl rfl)).to (v' := .bool false) rfl) rfl rfl rfl ?_
 refine WL.nil (WE.then_normal ?_)
 refine WC.cond_f rfl ?_
 refine WC.skip (WE.block_normal ?_)
 refine WE.forget hN83_0 ?_
 refine WE.round ?_
 refine WC.sub (fr' := [(0, _), (1, _), (4, _), (6, _), (7, _), (8, _), (9, _), (10, _), (11, _), (12, _), (13, _), (14, _), (15, _), (16, _), (17, _), (18, _), (19, _), (20, _), (21, _)]) ?_ ⟨rfl, rfl, rfl, rfl, rfl, rfl, rfl, rfl, rfl, rfl, rfl, rfl, rfl, rfl, rfl, rfl, rfl, rfl, rfl, trivial⟩
 refine WC.block (WC.seq (WC.region ?_))
 refine WL.q (oq_assign rfl) rfl rfl rfl ?_
 refine WL.nil (WE.then_normal (WC.seq (WC.region ?_)))
 refine WL.q (oq_move rfl) rfl rfl rfl ?_
 refine WL.qc (oq_callRm (ch25 G hT) (.tail _ (.head _)) call35 rfl) rfl rfl rfl ?_
 refine WL.q (oq_move rfl) rfl rfl rfl ?_
 refine WL.q (oq_extract rfl rfl) rfl rfl rfl ?_
 refine WL.q (oq_extract rfl rfl) rfl rfl rfl ?_
 refine WL.q (oq_extract rfl rfl) rfl rfl rfl ?_
 refine WL.q (oq_assign rfl) rfl rfl rfl ?_
 refine WL.q (oq_assign rfl) rfl rfl rfl ?_
 refine WL.q (oq_assign rfl) rfl rfl rfl ?_
 refine WL.nil (WE.then_normal (WC.seq (WC.region ?_)))
 refine WL.q (oq_move rfl) rfl rfl rfl ?_
 refine WL.q (oq_move rfl) rfl rfl rfl ?_
 refine WL.q ((oq_len_s Tryd.underlying9 rfl).to (v' := I 2) rfl) rfl rfl rfl ?_
 refine WL.q (oq_move rfl) rfl rfl rfl ?_
 refine WL.q ((oq_len_s Tryd.underlying9 rfl).to (v' := I 26) rfl) rfl rfl rfl ?_
 refine WL.q (oq_move rfl) rfl rfl rfl ?_
 refine WL.q ((oq_len_s Tryd.underlying9 rfl).to (v' := I 22) rfl) rfl rfl rfl ?_
 refine WL.q ((oq_sub rfl rfl (by rw [i64_lo, i64_hi]; omega)).to (v' := I 4) rfl) rfl rfl rfl ?_
 refine WL.q ((oq_slice_s2 Tryd.underlying9 rfl rfl rfl (by first | decide | simp)).to (v' := S [95, 50]) rfl) rfl rfl rfl ?_
 refine WL.q (oq_assign rfl) rfl rfl rfl ?_
 refine WL.nil (WE.then_normal (WC.seq (WC.region ?_)))
 refine WL.q (oq_move rfl) rfl rfl rfl ?_
 refine WL.q (oq_move rfl) rfl rfl rfl ?_
 refine WL.qc (oq_callRm (skipN hE [32, (mb mo 0), (mb mo 1), (mb mo 2), 32, 32, (lo d), 32, (hi hh), (lo hh), 58, (hi mm), (lo mm), 58, (hi ss), (lo ss), 32, (hi (y / 100)), (lo (y / 100)), (hi (y % 100)), (lo (y % 100))] [44, 32] [32, (mb mo 0), (mb mo 1), (mb mo 2), 32, 32, (lo d), 32, (hi hh), (lo hh), 58, (hi mm), (lo mm), 58, (hi ss), (lo ss), 32, (hi (y / 100)), (lo (y / 100)), (hi (y % 100)), (lo (y % 100))] (by simp) (by simp) (by simp +decide [skipM, cutsp, hi_ne, lo_ne, mb_ne mo hmo])) (.tail _ (.head _)) call36 rfl) rfl rfl rfl ?_
 refine WL.q (oq_move rfl) rfl rfl rfl ?_
 refine WL.q (oq_extract rfl rfl) rfl rfl rfl ?_
 refine WL.q (oq_extract rfl rfl) rfl rfl rfl ?_
 refine WL.q (oq_assign rfl) rfl rfl rfl ?_
 refine WL.q (oq_assign rfl) rfl rfl rfl ?_
 refine WL.nil (WE.then_normal (WC.seq (WC.seq (WC.region ?_))))
 refine WL.q (oq_move rfl) rfl rfl rfl ?_
 refine WL.q ((oq_ineq Tryd.underlying39 rfl (.inr ⟨_, _, rfl⟩)).to (v' := .bool true) rfl) rfl rfl rfl ?_
 refine WL.nil (WE.then_normal ?_)
 refine WC.cond_t rfl ?_
 refine WC.seq (WC.region ?_)
 refine WL.q (oq_build #[_, _, _, _] str37 ty37 rfl rfl) rfl rfl rfl ?_
 refine WL.q (oq_move rfl) rfl rfl rfl ?_
 refine WL.q (oq_move rfl) rfl rfl rfl ?_
 refine WL.q (oq_move rfl) rfl rfl rfl ?_
 refine WL.q (oq_move rfl) rfl rfl rfl ?_
 refine WL.callA0 (newPE _ _ _ _ _ (by simp)) call37 rfl rfl rfl fun v21_5 N21_5 hR21_5 hN21_5 => ?_
 obtain ⟨kE, uE, rfl⟩ := hR21_5
 refine WL.f1 ?_
 refine WL.storeS #[_, _, _, _] ty37 rfl rfl rfl rfl (Nat.le_of_ble_eq_true rfl) rfl rfl ?_
 refine WL.q (oq_assign rfl) rfl rfl rfl ?_
 refine WL.nil (WE.then_normal (WC.sub (fr' := [(4, _), (5, _)]) ?_ ⟨rfl, rfl, trivial⟩))
 refine WC.ret (WE.then_ret (WE.block_ret (WE.then_ret (WE.block_ret (WE.then_ret ?_)))))
 refine WE.endDA (.inl rfl) (rs2 Tryd.results27 (rv_cellS [_, _, _, _] agg37 ty37 rfl (.head _) (List.mem_singleton.2 rfl) rfl rfl) (rv_tmp rfl)) (dr_lose htb dr_refl) (hN21_5) ?_
 exact ⟨_, _, rfl⟩
set_option maxHeartbeats 20000000 in
theorem bad5a_3 (G : Hp) (k0 : TypeId) (u0 : Value) (hL : LT G k0 u0) (w : Nat) (hw : w < 7) (d mo y hh mm ss : Nat) (hmo : mo < 12) : FnA Tryd.prog 27 [S [77, 111, 110, 44, 32, 95, 50, 32, 74, 97, 110, 32, 48, 54, 32, 49, 53, 58, 48, 52, 58, 48, 53, 32, 71, 77, 84], S [(wb w 0), (wb w 1), (wb w 2), 32, (mb mo 0), (mb mo 1), (mb mo 2), 32, 32, (lo d), 32, (hi hh), (lo hh), 58, (hi mm), (lo mm), 58, (hi ss), (lo ss), 32, (hi (y / 100)), (lo (y / 100)), (hi (y % 100)), (lo (y % 100))]] G (parseBad) := by
 obtain ⟨hE, hT, sv, ⟨tl, fl, hml⟩, hsv⟩ := hL
 refine FnA.enter (n := 852) Tryd.func27 rfl rfl fun w0 => ?_
 refine WC.sub (fr' := [(0, _), (1, _)]) ?_ ⟨rfl, rfl, trivial⟩
 refine WC.seq (WC.region ?_)
 refine WL.alloc ty37 rfl rfl fun tb htb => ?_
 refine WL.q (oq_assign rfl) rfl rfl rfl ?_
 refine WL.nil (WE.then_normal (WC.seq (WC.region ?_)))
 refine WL.q (oq_move rfl) rfl rfl rfl ?_
 refine WL.q (oq_move rfl) rfl rfl rfl ?_
 refine WL.q (oq_assign rfl) rfl rfl rfl ?_
 refine WL.q (oq_assign rfl) rfl rfl rfl ?_
 refine WL.nil (WE.then_normal (WC.seq (WC.region ?_)))
 refine WL.q (oq_assign rfl) rfl rfl rfl ?_
 refine WL.nil (WE.then_normal (WC.seq (WC.region ?_)))
 refine WL.q (oq_assign rfl) rfl rfl rfl ?_
 refine WL.nil (WE.then_normal (WC.seq (WC.region ?_)))
 refine WL.q (oq_assign rfl) rfl rfl rfl ?_
 refine WL.nil (WE.then_normal (WC.seq (WC.region ?_)))
 refine WL.q (oq_assign rfl) rfl rfl rfl ?_
 refine WL.nil (WE.then_normal (WC.seq (WC.region ?_)))
 refine WL.q (oq_assign rfl) rfl rfl rfl ?_
 refine WL.nil (WE.then_normal (WC.seq (WC.region ?_)))
 refine WL.q (oq_assign rfl) rfl rfl rfl ?_
 refine WL.nil (WE.then_normal (WC.seq (WC.region ?_)))
 refine WL.q (oq_assign rfl) rfl rfl rfl ?_
 refine WL.nil (WE.then_normal (WC.seq (WC.region ?_)))
 refine WL.q (oq_assign rfl) rfl rfl rfl ?_
 refine WL.nil (WE.then_normal (WC.seq (WC.region ?_)))
 refine WL.q (oq_assign rfl) rfl rfl rfl ?_
 refine WL.nil (WE.then_normal (WC.seq (WC.region ?_)))
 refine WL.q (oq_assign rfl) rfl rfl rfl ?_
 refine WL.nil (WE.then_normal (WC.seq (WC.region ?_)))
 refine WL.q (oq_assign rfl) rfl rfl rfl ?_
 refine WL.nil (WE.then_normal (WC.seq (WC.region ?_)))
 refine WL.q (oq_assign rfl) rfl rfl rfl ?_
 refine WL.nil (WE.then_normal (WC.seq (WC.region ?_)))
 refine WL.q (oq_assign rfl) rfl rfl rfl ?_
 refine WL.nil (WE.then_normal (WC.seq (WC.region ?_)))
 refine WL.q (oq_assign rfl) rfl rfl rfl ?_
 refine WL.nil (WE.then_normal (WC.seq (WC.block ?_)))
 refine WC.unroll ?_
 refine WC.block (WC.seq (WC.region ?_))
 refine WL.q (oq_assign rfl) rfl rfl rfl ?_
 refine WL.nil (WE.then_normal (WC.seq (WC.region ?_)))
 refine WL.q (oq_move rfl) rfl rfl rfl ?_
 refine WL.qc (oq_callRm (ch26 G hT) (.tail _ (.head _)) call35 rfl) rfl rfl rfl ?_
 refine WL.q (oq_move rfl) rfl rfl rfl ?_
 refine WL.q (oq_extract rfl rfl) rfl rfl rfl ?_
 refine WL.q (oq_extract rfl rfl) rfl rfl rfl ?_
 refine WL.q (oq_extract rfl rfl) rfl rfl rfl ?_
 refine WL.q (oq_assign rfl) rfl rfl rfl ?_
 refine WL.q (oq_assign rfl) rfl rfl rfl ?_
 refine WL.q (oq_assign rfl) rfl rfl rfl ?_
 refine WL.nil (WE.then_normal (WC.seq (WC.region ?_)))
 refine WL.q (oq_move rfl) rfl rfl rfl ?_
 refine WL.q (oq_move rfl) rfl rfl rfl ?_
 refine WL.q ((oq_len_s Tryd.underlying9 rfl).to (v' := I 0) rfl) rfl rfl rfl ?_
 refine WL.q (oq_move rfl) rfl rfl rfl ?_
 refine WL.q ((oq_len_s Tryd.underlying9 rfl).to (v' := I 27) rfl) rfl rfl rfl ?_
 refine WL.q (oq_move rfl) rfl rfl rfl ?_
 refine WL.q ((oq_len_s Tryd.underlying9 rfl).to (v' := I 24) rfl) rfl rfl rfl ?_
 refine WL.q ((oq_sub rfl rfl (by rw [i64_lo, i64_hi]; omega)).to (v' := I 3) rfl) rfl rfl rfl ?_
 refine WL.q ((oq_slice_s2 Tryd.underlying9 rfl rfl rfl (by first | decide | simp)).to (v' := S [77, 111, 110]) rfl) rfl rfl rfl ?_
 refine WL.q (oq_assign rfl) rfl rfl rfl ?_
 refine WL.nil (WE.then_normal (WC.seq (WC.region ?_)))
 refine WL.q (oq_move rfl) rfl rfl rfl ?_
 refine WL.q (oq_move rfl) rfl rfl rfl ?_
 refine WL.qc (oq_callRm (skipY hE [(wb w 0), (wb w 1), (wb w 2), 32, (mb mo 0), (mb mo 1), (mb mo 2), 32, 32, (lo d), 32, (hi hh), (lo hh), 58, (hi mm), (lo mm), 58, (hi ss), (lo ss), 32, (hi (y / 100)), (lo (y / 100)), (hi (y % 100)), (lo (y % 100))] [] [(wb w 0), (wb w 1), (wb w 2), 32, (mb mo 0), (mb mo 1), (mb mo 2), 32, 32, (lo d), 32, (hi hh), (lo hh), 58, (hi mm), (lo mm), 58, (hi ss), (lo ss), 32, (hi (y / 100)), (lo (y / 100)), (hi (y % 100)), (lo (y % 100))] (by simp) (by simp) (by simp +decide [skipM, cutsp, hi_ne, lo_ne, mb_ne mo hmo])) (.tail _ (.head _)) call36 rfl) rfl rfl rfl ?_
 refine WL.q (oq_move rfl) rfl rfl rfl ?_
 refine WL.q (oq_extract rfl rfl) rfl rfl rfl ?_
 refine WL.q (oq_extract rfl rfl) rfl rfl rfl ?_
 refine WL.q (oq_assign rfl) rfl rfl rfl ?_
 refine WL.q (oq_assign rfl) rfl rfl rfl ?_
 refine WL.nil (WE.then_normal (WC.seq (WC.seq (WC.region ?_))))
 refine WL.q (oq_move rfl) rfl rfl rfl ?_
 refine WL.q ((oq_ineq Tryd.underlying39 rfl (.inl rfl)).to (v' := .bool false) rfl) rfl rfl rfl ?_
 refine WL.nil (WE.then_normal ?_)
 refine WC.cond_f rfl ?_
 refine WC.skip (WE.then_normal (WC.seq (WC.seq (WC.region ?_))))
 refine WL.q (oq_move rfl) rfl rfl rfl ?_
 refine WL.q ((oq_eql rfl rfl).to (v' := .bool false) (congrArg Value.bool (decide_eq_false (by omega)))) rfl rfl rfl ?_
 refine WL.nil (WE.then_normal ?_)
 refine WC.cond_f rfl ?_
 refine WC.skip (WE.then_normal (WC.seq (WC.region ?_)))
 refine WL.q (oq_move rfl) rfl rfl rfl ?_
 refine WL.q (oq_assign rfl) rfl rfl rfl ?_
 refine WL.nil (WE.then_normal (WC.seq (WC.region ?_)))
 refine WL.q (oq_assign rfl) rfl rfl rfl ?_
 refine WL.nil (WE.then_normal (WC.seq (WC.region ?_)))
 refine WL.q (oq_move rfl) rfl rfl rfl ?_
 refine WL.q (oq_assign rfl) rfl rfl rfl ?_
 refine WL.nil (WE.then_normal (WC.seq (WC.seq (WC.region ?_))))
 refine WL.q (oq_move rfl) rfl rfl rfl ?_
 refine WL.q ((oq_bits (op := .and) rfl rfl (by simp)).to (v' := I 262) (by kernel_rfl)) rfl rfl rfl ?_
 refine WL.nil (WE.then_normal (WC.block (WC.seq (WC.block (WC.seq (WC.block (WC.seq (WC.block (WC.seq (WC.block (WC.seq (WC.block (WC.seq (WC.block (WC.seq (WC.block (WC.seq (WC.block (WC.seq (WC.block (WC.seq (WC.block (WC.seq (WC.block (WC.seq (WC.block (WC.seq (WC.block (WC.seq (WC.block (WC.seq (WC.block (WC.seq (WC.block (WC.seq (WC.block (WC.seq (WC.block (WC.seq (WC.block (WC.seq (WC.block (WC.seq (WC.seq (WC.seq (WC.region ?_))))))))))))))))))))))))))))))))))))))))))))))
 refine WL.q ((oq_eql rfl rfl).to (v' := .bool false) (congrArg Value.bool (decide_eq_false (by omega)))) rfl rfl rfl ?_
 refine WL.q (oq_assign rfl) rfl rfl rfl ?_
 refine WL.nil (WE.then_normal (WC.sub (fr' := [(0, _), (1, _), (4, _), (6, _), (7, _), (8, _), (9, _), (10, _), (11, _), (12, _), (13, _), (14, _), (15, _), (16, _), (17, _), (18, _), (19, _), (20, _), (21, _), (22, _), (24, _), (26, _), (28, _), (91, _), (92, _)]) ?_ ⟨rfl, rfl, rfl, rfl, rfl, rfl, rfl, rfl, rfl, rfl, rfl, rfl, rfl, rfl, rfl, rfl, rfl, rfl, rfl, rfl, rfl, rfl, rfl, rfl, rfl, trivial⟩))
 refine WC.cond_f rfl ?_
 refine WC.skip (WE.then_normal (WC.seq (WC.seq (WC.region ?_))))
 refine WL.q ((oq_eql rfl rfl).to (v' := .bool false) (congrArg Value.bool (decide_eq_false (by omega)))) rfl rfl rfl ?_
 refine WL.q (oq_assign rfl) rfl rfl rfl ?_
 refine WL.nil (WE.then_normal ?_)
 refine WC.cond_f rfl ?_
 refine WC.skip (WE.then_normal (WC.seq (WC.seq (WC.region ?_))))
 refine WL.q ((oq_eql rfl rfl).to (v' := .bool false) (congrArg Value.bool (decide_eq_false (by omega)))) rfl rfl rfl ?_
 refine WL.q (oq_assign rfl) rfl rfl rfl ?_
 refine WL.nil (WE.then_normal ?_)
 refine WC.cond_f rfl ?_
 refine WC.skip (WE.then_normal (WC.seq (WC.seq (WC.region ?_))))
 refine WL.q ((oq_eql rfl rfl).to (v' := .bool false) (congrArg Value.bool (decide_eq_false (by omega)))) rfl rfl rfl ?_
 refine WL.q (oq_assign rfl) rfl rfl rfl ?_
 refine WL.nil (WE.then_normal ?_)
 refine WC.cond_f rfl ?_
 refine WC.skip (WE.then_normal (WC.seq (WC.seq (WC.seq (WC.region ?_)))))
 refine WL.q ((oq_eql rfl rfl).to (v' := .bool false) (congrArg Value.bool (decide_eq_false (by omega)))) rfl rfl rfl ?_
 refine WL.q (oq_assign rfl) rfl rfl rfl ?_
 refine WL.nil (WE.then_normal ?_)
 refine WC.cond_f rfl ?_
 refine WC.region ?_
 refine WL.q ((oq_eql rfl rfl).to (v' := .bool false) (congrArg Value.bool (decide_eq_false (by omega)))) rfl rfl rfl ?_
 refine WL.q (oq_assign rfl) rfl rfl rfl ?_
 refine WL.nil (WE.then_normal ?_)
 refine WC.cond_f rfl ?_
 refine WC.skip (WE.then_normal (WC.seq (WC.seq (WC.region ?_))))
 refine WL.q ((oq_eql rfl rfl).to (v' := .bool true) (congrArg Value.bool (decide_eq_true (by omega)))) rfl rfl rfl ?_
 refine WL.q (oq_assign rfl) rfl rfl rfl ?_
 refine WL.nil (WE.then_normal ?_)
 refine WC.cond_t rfl ?_
 refine WC.exit (WE.then_exit (WE.then_exit ?_))
 refine WE.block_other rfl ?_
 refine WE.then_exit ?_
 refine WE.block_other rfl ?_
 refine WE.then_exit ?_
 refine WE.block_other rfl ?_
 refine WE.then_exit ?_
 refine WE.block_other rfl ?_
 refine WE.then_exit ?_
 refine WE.block_other rfl ?_
 refine WE.then_exit (WE.block_same (WE.then_normal (WC.seq (WC.region ?_))))
 refine WL.callA0 (dayNames) call42 rfl rfl rfl fun v83_0 N83_0 hR83_0 hN83_0 => ?_
 have hR83_0 : RdS 1 v83_0 N83_0 7 (strsV week) := hR83_0
 refine WL.q (oq_move rfl) rfl rfl rfl ?_
 refine WL.qc (oq_callRm (lookupY v83_0 N83_0 week [(wb w 0), (wb w 1), (wb w 2), 32, (mb mo 0), (mb mo 1), (mb mo 2), 32, 32, (lo d), 32, (hi hh), (lo hh), 58, (hi mm), (lo mm), 58, (hi ss), (lo ss), 32, (hi (y / 100)), (lo (y / 100)), (hi (y % 100)), (lo (y % 100))] hR83_0 (by decide) (by simp) w _ (look_week w hw _)) (.head _) call39 rfl) rfl rfl rfl ?_
 refine WL.q (oq_move rfl) rfl rfl rfl ?_
 refine WL.q (oq_extract rfl rfl) rfl rfl rfl ?_
 refine WL.q (oq_extract rfl rfl) rfl rfl rfl ?_
 refine WL.q (oq_extract rfl rfl) rfl rfl rfl ?_
 refine WL.q (oq_assign rfl) rfl rfl rfl ?_
 refine WL.q (oq_assign rfl) rfl rfl rfl ?_
 refine WL.nil (WE.then_normal (WC.exit ?_))
 refine WE.block_other rfl ?_
 refine WE.then_exit ?_
 refine WE.block_other rfl ?_
 refine WE.then_exit ?_
 refine WE.block_other rfl ?_
 refine WE.then_exit ?_
 refine WE.block_other rfl ?_
 refine WE.then_exit ?_
 refine WE.block_other rfl ?_
 refine WE.then_exit ?_
 refine WE.block_other rfl ?_
 refine WE.then_exit ?_
 refine WE.block_other rfl ?_
 refine WE.then_exit ?_
 refine WE.block_other rfl ?_
 refine WE.then_exit ?_
 refine WE.block_other rfl ?_
 refine WE.then_exit ?_
 refine WE.block_other rfl ?_
 refine WE.then_exit ?_
 refine WE.block_other rfl ?_
 refine WE.then_exit ?_
 refine WE.block_other rfl ?_
 refine WE.then_exit ?_
 refine WE.block_other rfl ?_
 refine WE.then_exit ?_
 refine WE.block_other rfl ?_
 refine WE.then_exit (WE.block_same (WE.then_normal (WC.seq (WC.seq (WC.region ?_)))))
 refine WL.q (oq_move rfl) rfl rfl rfl ?_
 refine WL.q ((oq_sneq rfl rfl).to (v' := .bool false) (by kernel_rfl)) rfl rfl rfl ?_
 refine WL.nil (WE.then_normal ?_)
 refine WC.cond_f rfl ?_
 refine WC.skip (WE.then_normal (WC.seq (WC.region ?_)))
 refine WL.q (oq_move rfl) rfl rfl rfl ?_
 refine WL.q ((oq_ineq Tryd.underlying39 rfl (.inl rfl)).to (v' := .bool false) rfl) rfl rfl rfl ?_
 refine WL.nil (WE.then_normal ?_)
 refine WC.cond_f rfl ?_
 refine WC.skip (WE.block_normal ?_)
 refine WE.forget hN83_0 ?_
 refine WE.round ?_
 refine WC.sub (fr' := [(0, _), (1, _), (4, _), (6, _), (7, _), (8, _), (9, _), (10, _), (11, _), (12, _), (13, _), (14, _), (15, _), (16, _), (17, _), (18, _), (19, _), (20, _), (21, _)]) ?_ ⟨rfl, rfl, rfl, rfl, rfl, rfl, rfl, rfl, rfl, rfl, rfl, rfl, rfl, rfl, rfl, rfl, rfl, rfl, rfl, trivial⟩
 refine WC.block (WC.seq (WC.region ?_))
 refine WL.q (oq_assign rfl) rfl rfl rfl ?_
 refine WL.nil (WE.then_normal (WC.seq (WC.region ?_)))
 refine WL.q (oq_move rfl) rfl rfl rfl ?_
 refine WL.qc (oq_callRm (ch27 G hT) (.tail _ (.head _)) call35 rfl) rfl rfl rfl ?_
 refine WL.q (oq_move rfl) rfl rfl rfl ?_
 refine WL.q (oq_extract rfl rfl) rfl rfl rfl ?_
 refine WL.q (oq_extract rfl rfl) rfl rfl rfl ?_
 refine WL.q (oq_extract rfl rfl) rfl rfl rfl ?_
 refine WL.q (oq_assign rfl) rfl rfl rfl ?_
 refine WL.q (oq_assign rfl) rfl rfl rfl ?_
 refine WL.q (oq_assign rfl) rfl rfl rfl ?_
 refine WL.nil (WE.then_normal (WC.seq (WC.region ?_)))
 refine WL.q (oq_move rfl) rfl rfl rfl ?_
 refine WL.q (oq_move rfl) rfl rfl rfl ?_
 refine WL.q ((oq_len_s Tryd.underlying9 rfl).to (v' := I 2) rfl) rfl rfl rfl ?_
 refine WL.q (oq_move rfl) rfl rfl rfl ?_
 refine WL.q ((oq_len_s Tryd.underlying9 rfl).to (v' := I 24) rfl) rfl rfl rfl ?_
 refine WL.q (oq_move rfl) rfl rfl rfl ?_
 refine WL.q ((oq_len_s Tryd.underlying9 rfl).to (v' := I 20) rfl) rfl rfl rfl ?_
 refine WL.q ((oq_sub rfl rfl (by rw [i64_lo, i64_hi]; omega)).to (v' := I 4) rfl) rfl rfl rfl ?_
 refine WL.q ((oq_slice_s2 Tryd.underlying9 rfl rfl rfl (by first | decide | simp)).to (v' := S [95, 50]) rfl) rfl rfl rfl ?_
 refine WL.q (oq_assign rfl) rfl rfl rfl ?_
 refine WL.nil (WE.then_normal (WC.seq (WC.region ?_)))
 refine WL.q (oq_move rfl) rfl rfl rfl ?_
 refine WL.q (oq_move rfl) rfl rfl rfl ?_
 refine WL.qc (oq_callRm (skipN hE [32, (mb mo 0), (mb mo 1), (mb mo 2), 32, 32, (lo d), 32, (hi hh), (lo hh), 58, (hi mm), (lo mm), 58, (hi ss), (lo ss), 32, (hi (y / 100)), (lo (y / 100)), (hi (y % 100)), (lo (y % 100))] [44, 32] [32, (mb mo 0), (mb mo 1), (mb mo 2), 32, 32, (lo d), 32, (hi hh), (lo hh), 58, (hi mm), (lo mm), 58, (hi ss), (lo ss), 32, (hi (y / 100)), (lo (y / 100)), (hi (y % 100)), (lo (y % 100))] (by simp) (by simp) (by simp +decide [skipM, cutsp, hi_ne, lo_ne, mb_ne mo hmo])) (.tail _ (.head _)) call36 rfl) rfl rfl rfl ?_
 refine WL.q (oq_move rfl) rfl rfl rfl ?_
 refine WL.q (oq_extract rfl rfl) rfl rfl rfl ?_
 refine WL.q (oq_extract rfl rfl) rfl rfl rfl ?_
 refine WL.q (oq_assign rfl) rfl rfl rfl ?_
 refine WL.q (oq_assign rfl) rfl rfl rfl ?_
 refine WL.nil (WE.then_normal (WC.seq (WC.seq (WC.region ?_))))
 refine WL.q (oq_move rfl) rfl rfl rfl ?_
 refine WL.q ((oq_ineq Tryd.underlying39 rfl (.inr ⟨_, _, rfl⟩)).to (v' := .bool true) rfl) rfl rfl rfl ?_
 refine WL.nil (WE.then_normal ?_)
 refine WC.cond_t rfl ?_
 refine WC.seq (WC.region ?_)
 refine WL.q (oq_build #[_, _, _, _] str37 ty37 rfl rfl) rfl rfl rfl ?_
 refine WL.q (oq_move rfl) rfl rfl rfl ?_
 refine WL.q (oq_move rfl) rfl rfl rfl ?_
 refine WL.q (oq_move rfl) rfl rfl rfl ?_
 refine WL.q (oq_move rfl) rfl rfl rfl ?_
 refine WL.callA0 (newPE _ _ _ _ _ (by simp)) call37 rfl rfl rfl fun v21_5 N21_5 hR21_5 hN21_5 => ?_
 obtain ⟨kE, uE, rfl⟩ := hR21_5
 refine WL.f1 ?_
 refine WL.storeS #[_, _, _, _] ty37 rfl rfl rfl rfl (Nat.le_of_ble_eq_true rfl) rfl rfl ?_
 refine WL.q (oq_assign rfl) rfl rfl rfl ?_
 refine WL.nil (WE.then_normal (WC.sub (fr' := [(4, _), (5, _)]) ?_ ⟨rfl, rfl, trivial⟩))
 refine WC.ret (WE.then_ret (WE.block_ret (WE.then_ret (WE.block_ret (WE.then_ret ?_)))))
 refine WE.endDA (.inl rfl) (rs2 Tryd.results27 (rv_cellS [_, _, _, _] agg37 ty37 rfl (.head _) (List.mem_singleton.2 rfl) rfl rfl) (rv_tmp rfl)) (dr_lose htb dr_refl) (hN21_5) ?_
 exact ⟨_, _, rfl⟩
set_option maxHeartbeats 20000000 in
theorem bad5a_4 (G : Hp) (k0 : TypeId) (u0 : Value) (hL : LT G k0 u0) (w : Nat) (hw : w < 7) (d mo y hh mm ss : Nat) (hmo : mo < 12) : FnA Tryd.prog 27 [S [77, 111, 110, 100, 97, 121, 44, 32, 48, 50, 45, 74, 97, 110, 45, 48, 54, 32, 49, 53, 58, 48, 52, 58, 48, 53, 32, 77, 83, 84], S [(wb w 0), (wb w 1), (wb w 2), 32, (mb mo 0), (mb mo 1), (mb mo 2), 32, 32, (lo d), 32, (hi hh), (lo hh), 58, (hi mm), (lo mm), 58, (hi ss), (lo ss), 32, (hi (y / 100)), (lo (y / 100)), (hi (y % 100)), (lo (y % 100))]] G (parseBad) := by
 obtain ⟨hE, hT, sv, ⟨tl, fl, hml⟩, hsv⟩ := hL
 refine FnA.enter (n := 852) Tryd.func27 rfl rfl fun w0 => ?_
 refine WC.sub (fr' := [(0, _), (1, _)]) ?_ ⟨rfl, rfl, trivial⟩
 refine WC.seq (WC.region ?_)
 refine WL.alloc ty37 rfl rfl fun tb htb => ?_
 refine WL.q (oq_assign rfl) rfl rfl rfl ?_
 refine WL.nil (WE.then_normal (WC.seq (WC.region ?_)))
 refine WL.q (oq_move rfl) rfl rfl rfl ?_
 refine WL.q (oq_move rfl) rfl rfl rfl ?_
 refine WL.q (oq_assign rfl) rfl rfl rfl ?_
 refine WL.q (oq_assign rfl) rfl rfl rfl ?_
 refine WL.nil (WE.then_normal (WC.seq (WC.region ?_)))
 refine WL.q (oq_assign rfl) rfl rfl rfl ?_
 refine WL.nil (WE.then_normal (WC.seq (WC.region ?_)))
 refine WL.q (oq_assign rfl) rfl rfl rfl ?_
 refine WL.nil (WE.then_normal (WC.seq (WC.region ?_)))
 refine WL.q (oq_assign rfl) rfl rfl rfl ?_
 refine WL.nil (WE.then_normal (WC.seq (WC.region ?_)))
 refine WL.q (oq_assign rfl) rfl rfl rfl ?_
 refine WL.nil (WE.then_normal (WC.seq (WC.region ?_)))
 refine WL.q (oq_assign rfl) rfl rfl rfl ?_
 refine WL.nil (WE.then_normal (WC.seq (WC.region ?_)))
 refine WL.q (oq_assign rfl) rfl rfl rfl ?_
 refine WL.nil (WE.then_normal (WC.seq (WC.region ?_)))
 refine WL.q (oq_assign rfl) rfl rfl rfl ?_
 refine WL.nil (WE.then_normal (WC.seq (WC.region ?_)))
 refine WL.q (oq_assign rfl) rfl rfl rfl ?_
 refine WL.nil (WE.then_normal (WC.seq (WC.region ?_)))
 refine WL.q (oq_assign rfl) rfl rfl rfl ?_
 refine WL.nil (WE.then_normal (WC.seq (WC.region ?_)))
 refine WL.q (oq_assign rfl) rfl rfl rfl ?_
 refine WL.nil (WE.then_normal (WC.seq (WC.region ?_)))
 refine WL.q (oq_assign rfl) rfl rfl rfl ?_
 refine WL.nil (WE.then_normal (WC.seq (WC.region ?_)))
 refine WL.q (oq_assign rfl) rfl rfl rfl ?_
 refine WL.nil (WE.then_normal (WC.seq (WC.region ?_)))
 refine WL.q (oq_assign rfl) rfl rfl rfl ?_
 refine WL.nil (WE.then_normal (WC.seq (WC.region ?_)))
 refine WL.q (oq_assign rfl) rfl rfl rfl ?_
 refine WL.nil (WE.then_normal (WC.seq (WC.block ?_)))
 refine WC.unroll ?_
 refine WC.block (WC.seq (WC.region ?_))
 refine WL.q (oq_assign rfl) rfl rfl rfl ?_
 refine WL.nil (WE.then_normal (WC.seq (WC.region ?_)))
 refine WL.q (oq_move rfl) rfl rfl rfl ?_
 refine WL.qc (oq_callRm (ch8 G hT) (.tail _ (.head _)) call35 rfl) rfl rfl rfl ?_
 refine WL.q (oq_move rfl) rfl rfl rfl ?_
 refine WL.q (oq_extract rfl rfl) rfl rfl rfl ?_
 refine WL.q (oq_extract rfl rfl) rfl rfl rfl ?_
 refine WL.q (oq_extract rfl rfl) rfl rfl rfl ?_
 refine WL.q (oq_assign rfl) rfl rfl rfl ?_
 refine WL.q (oq_assign rfl) rfl rfl rfl ?_
 refine WL.q (oq_assign rfl) rfl rfl rfl ?_
 refine WL.nil (WE.then_normal (WC.seq (WC.region ?_)))
 refine WL.q (oq_move rfl) rfl rfl rfl ?_
 refine WL.q (oq_move rfl) rfl rfl rfl ?_
 refine WL.q ((oq_len_s Tryd.underlying9 rfl).to (v' := I 0) rfl) rfl rfl rfl ?_
 refine WL.q (oq_move rfl) rfl rfl rfl ?_
 refine WL.q ((oq_len_s Tryd.underlying9 rfl).to (v' := I 30) rfl) rfl rfl rfl ?_
 refine WL.q (oq_move rfl) rfl rfl rfl ?_
 refine WL.q ((oq_len_s Tryd.underlying9 rfl).to (v' := I 24) rfl) rfl rfl rfl ?_
 refine WL.q ((oq_sub rfl rfl (by rw [i64_lo, i64_hi]; omega)).to (v' := I 6) rfl) rfl rfl rfl ?_
 refine WL.q ((oq_slice_s2 Tryd.underlying9 rfl rfl rfl (by first | decide | simp)).to (v' := S [77, 111, 110, 100, 97, 121]) rfl) rfl rfl rfl ?_
 refine WL.q (oq_assign rfl) rfl rfl rfl ?_
 refine WL.nil (WE.then_normal (WC.seq (WC.region ?_)))
 refine WL.q (oq_move rfl) rfl rfl rfl ?_
 refine WL.q (oq_move rfl) rfl rfl rfl ?_
 refine WL.qc (oq_callRm (skipY hE [(wb w 0), (wb w 1), (wb w 2), 32, (mb mo 0), (mb mo 1), (mb mo 2), 32, 32, (lo d), 32, (hi hh), (lo hh), 58, (hi mm), (lo mm), 58, (hi ss), (lo ss), 32, (hi (y / 100)), (lo (y / 100)), (hi (y % 100)), (lo (y % 100))] [] [(wb w 0), (wb w 1), (wb w 2), 32, (mb mo 0), (mb mo 1), (mb mo 2), 32, 32, (lo d), 32, (hi hh), (lo hh), 58, (hi mm), (lo mm), 58, (hi ss), (lo ss), 32, (hi (y / 100)), (lo (y / 100)), (hi (y % 100)), (lo (y % 100))] (by simp) (by simp) (by simp +decide [skipM, cutsp, hi_ne, lo_ne, mb_ne mo hmo])) (.tail _ (.head _)) call36 rfl) rfl rfl rfl ?_
 refine WL.q (oq_move rfl) rfl rfl rfl ?_
 refine WL.q (oq_extract rfl rfl) rfl rfl rfl ?_
 refine WL.q (oq_extract rfl rfl) rfl rfl rfl ?_
 refine WL.q (oq_assign rfl) rfl rfl rfl ?_
 refine WL.q (oq_assign rfl) rfl rfl rfl ?_
 refine WL.nil (WE.then_normal (WC.seq (WC.seq (WC.region ?_))))
 refine WL.q (oq_move rfl) rfl rfl rfl ?_
 refine WL.q ((oq_ineq Tryd.underlying39 rfl (.inl rfl)).to (v' := .bool false) rfl) rfl rfl rfl ?_
 refine WL.nil (WE.then_normal ?_)
 refine WC.cond_f rfl ?_
 refine WC.skip (WE.then_normal (WC.seq (WC.seq (WC.region ?_))))
 refine WL.q (oq_move rfl) rfl rfl rfl ?_
 refine WL.q ((oq_eql rfl rfl).to (v' := .bool false) (congrArg Value.bool (decide_eq_false (by omega)))) rfl rfl rfl ?_
 refine WL.nil (WE.then_normal ?_)
 refine WC.cond_f rfl ?_
 refine WC.skip (WE.then_normal (WC.seq (WC.region ?_)))
 refine WL.q (oq_move rfl) rfl rfl rfl ?_
 refine WL.q (oq_assign rfl) rfl rfl rfl ?_
 refine WL.nil (WE.then_normal (WC.seq (WC.region ?_)))
 refine WL.q (oq_assign rfl) rfl rfl rfl ?_
 refine WL.nil (WE.then_normal (WC.seq (WC.region ?_)))
 refine WL.q (oq_move rfl) rfl rfl rfl ?_
 refine WL.q (oq_assign rfl) rfl rfl rfl ?_
 refine WL.nil (WE.then_normal (WC.seq (WC.seq (WC.region ?_))))
 refine WL.q (oq_move rfl) rfl rfl rfl ?_
 refine WL.q ((oq_bits (op := .and) rfl rfl (by simp)).to (v' := I 261) (by kernel_rfl)) rfl rfl rfl ?_
 refine WL.nil (WE.then_normal (WC.block (WC.seq (WC.block (WC.seq (WC.block (WC.seq (WC.block (WC.seq (WC.block (WC.seq (WC.block (WC.seq (WC.block (WC.seq (WC.block (WC.seq (WC.block (WC.seq (WC.block (WC.seq (WC.block (WC.seq (WC.block (WC.seq (WC.block (WC.seq (WC.block (WC.seq (WC.block (WC.seq (WC.block (WC.seq (WC.block (WC.seq (WC.block (WC.seq (WC.block (WC.seq (WC.block (WC.seq (WC.block (WC.seq (WC.seq (WC.seq (WC.region ?_))))))))))))))))))))))))))))))))))))))))))))))
 refine WL.q ((oq_eql rfl rfl).to (v' := .bool false) (congrArg Value.bool (decide_eq_false (by omega)))) rfl rfl rfl ?_
 refine WL.q (oq_assign rfl) rfl rfl rfl ?_
 refine WL.nil (WE.then_normal (WC.sub (fr' := [(0, _), (1, _), (4, _), (6, _), (7, _), (8, _), (9, _), (10, _), (11, _), (12, _), (13, _), (14, _), (15, _), (16, _), (17, _), (18, _), (19, _), (20, _), (21, _), (22, _), (24, _), (26, _), (28, _), (91, _), (92, _)]) ?_ ⟨rfl, rfl, rfl, rfl, rfl, rfl, rfl, rfl, rfl, rfl, rfl, rfl, rfl, rfl, rfl, rfl, rfl, rfl, rfl, rfl, rfl, rfl, rfl, rfl, rfl, trivial⟩))
 refine WC.cond_f rfl ?_
 refine WC.skip (WE.then_normal (WC.seq (WC.seq (WC.region ?_))))
 refine WL.q ((oq_eql rfl rfl).to (v' := .bool false) (congrArg Value.bool (decide_eq_false (by omega)))) rfl rfl rfl ?_
 refine WL.q (oq_assign rfl) rfl rfl rfl ?_
 refine WL.nil (WE.then_normal ?_)
 refine WC.cond_f rfl ?_
 refine WC.skip (WE.then_normal (WC.seq (WC.seq (WC.region ?_))))
 refine WL.q ((oq_eql rfl rfl).to (v' := .bool false) (congrArg Value.bool (decide_eq_false (by omega)))) rfl rfl rfl ?_
 refine WL.q (oq_assign rfl) rfl rfl rfl ?_
 refine WL.nil (WE.then_normal ?_)
 refine WC.cond_f rfl ?_
 refine WC.skip (WE.then_normal (WC.seq (WC.seq (WC.region ?_))))
 refine WL.q ((oq_eql rfl rfl).to (v' := .bool false) (congrArg Value.bool (decide_eq_false (by omega)))) rfl rfl rfl ?_
 refine WL.q (oq_assign rfl) rfl rfl rfl ?_
 refine WL.nil (WE.then_normal ?_)
 refine WC.cond_f rfl ?_
 refine WC.skip (WE.then_normal (WC.seq (WC.seq (WC.seq (WC.region ?_)))))
 refine WL.q ((oq_eql rfl rfl).to (v' := .bool false) (congrArg Value.bool (decide_eq_false (by omega)))) rfl rfl rfl ?_
 refine WL.q (oq_assign rfl) rfl rfl rfl ?_
 refine WL.nil (WE.then_normal ?_)
 refine WC.cond_f rfl ?_
 refine WC.region ?_
 refine WL.q ((oq_eql rfl rfl).to (v' := .bool false) (congrArg Value.bool (decide_eq_false (by omega)))) rfl rfl rfl ?_
 refine WL.q (oq_assign rfl) rfl rfl rfl ?_
 refine WL.nil (WE.then_normal ?_)
 refine WC.cond_f rfl ?_
 refine WC.skip (WE.then_normal (WC.seq (WC.seq (WC.region ?_))))
 refine WL.q ((oq_eql rfl rfl).to (v' := .bool false) (congrArg Value.bool (decide_eq_false (by omega)))) rfl rfl rfl ?_
 refine WL.q (oq_assign rfl) rfl rfl rfl ?_
 refine WL.nil (WE.then_normal ?_)
 refine WC.cond_f rfl ?_
 refine WC.skip (WE.then_normal (WC.seq (WC.seq (WC.region ?_))))
 refine WL.q ((oq_eql rfl rfl).to (v' := .bool true) (congrArg Value.bool (decide_eq_true (by omega)))) rfl rfl rfl ?_
 refine WL.q (oq_assign rfl) rfl rfl rfl ?_
 refine WL.nil (WE.then_normal ?_)
 refine WC.cond_t rfl ?_
 refine WC.exit (WE.then_exit (WE.then_exit ?_))
 refine WE.block_other rfl ?_
 refine WE.then_exit ?_
 refine WE.block_other rfl ?_
 refine WE.then_exit ?_
 refine WE.block_other rfl ?_
 refine WE.then_exit ?_
 refine WE.block_other rfl ?_
 refine WE.then_exit ?_
 refine WE.block_other rfl ?_
 refine WE.then_exit ?_
 refine WE.block_other rfl ?_
 refine WE.then_exit (WE.block_same (WE.then_normal (WC.seq (WC.region ?_))))
 refine WL.q (oq_load flat33 rfl (.tail _ (.head _)) hml rfl) rfl rfl rfl ?_
 refine WL.q (oq_move rfl) rfl rfl rfl ?_
 refine WL.qc (oq_callRm (lookupN sv G fulls [(wb w 0), (wb w 1), (wb w 2), 32, (mb mo 0), (mb mo 1), (mb mo 2), 32, 32, (lo d), 32, (hi hh), (lo hh), 58, (hi mm), (lo mm), 58, (hi ss), (lo ss), 32, (hi (y / 100)), (lo (y / 100)), (hi (y % 100)), (lo (y % 100))] hsv (by decide) (by simp) k0 u0 hE (look_none w hw _)) (.tail _ (.head _)) call39 rfl) rfl rfl rfl ?_
 refine WL.q (oq_move rfl) rfl rfl rfl ?_
 refine WL.q (oq_extract rfl rfl) rfl rfl rfl ?_
 refine WL.q (oq_extract rfl rfl) rfl rfl rfl ?_
 refine WL.q (oq_extract rfl rfl) rfl rfl rfl ?_
 refine WL.q (oq_assign rfl) rfl rfl rfl ?_
 refine WL.q (oq_assign rfl) rfl rfl rfl ?_
 refine WL.nil (WE.then_normal (WC.exit ?_))
 refine WE.block_other rfl ?_
 refine WE.then_exit ?_
 refine WE.block_other rfl ?_
 refine WE.then_exit ?_
 refine WE.block_other rfl ?_
 refine WE.then_exit ?_
 refine WE.block_other rfl ?_
 refine WE.then_exit ?_
 refine WE.block_other rfl ?_
 refine WE.then_exit ?_
 refine WE.block_other rfl ?_
 refine WE.then_exit ?_
 refine WE.block_other rfl ?_
 refine WE.then_exit ?_
 refine WE.block_other rfl ?_
 refine WE.then_exit ?_
 refine WE.block_other rfl ?_
 refine WE.then_exit ?_
 refine WE.block_other rfl ?_
 refine WE.then_exit ?_
 refine WE.block_other rfl ?_
 refine WE.then_exit ?_
 refine WE.block_other rfl ?_
 refine WE.then_exit ?_
 refine WE.block_other rfl ?_
 refine WE.then_exit (WE.block_same (WE.then_normal (WC.seq (WC.seq (WC.region ?_)))))
 refine WL.q (oq_move rfl) rfl rfl rfl ?_
 refine WL.q ((oq_sneq rfl rfl).to (v' := .bool false) (by kernel_rfl)) rfl rfl rfl ?_
 refine WL.nil (WE.then_normal ?_)
 refine WC.cond_f rfl ?_
 refine WC.skip (WE.then_normal (WC.seq (WC.region ?_)))
 refine WL.q (oq_move rfl) rfl rfl rfl ?_
 refine WL.q ((oq_ineq Tryd.underlying39 rfl (.inr ⟨_, _, rfl⟩)).to (v' := .bool true) rfl) rfl rfl rfl ?_
 refine WL.nil (WE.then_normal ?_)
 refine WC.cond_t rfl ?_
 refine WC.seq (WC.region ?_)
 refine WL.q (oq_build #[_, _, _, _] str37 ty37 rfl rfl) rfl rfl rfl ?_
 refine WL.q (oq_move rfl) rfl rfl rfl ?_
 refine WL.q (oq_move rfl) rfl rfl rfl ?_
 refine WL.q (oq_move rfl) rfl rfl rfl ?_
 refine WL.q (oq_move rfl) rfl rfl rfl ?_
 refine WL.callA0 (newPE _ _ _ _ _ (by simp)) call37 rfl rfl rfl fun v200_5 N200_5 hR200_5 hN200_5 => ?_
 obtain ⟨kE, uE, rfl⟩ := hR200_5
 refine WL.f1 ?_
 refine WL.storeS #[_, _, _, _] ty37 rfl rfl rfl rfl (Nat.le_of_ble_eq_true rfl) rfl rfl ?_
 refine WL.q (oq_assign rfl) rfl rfl rfl ?_
 refine WL.nil (WE.then_normal (WC.ret (WE.block_ret (WE.then_ret (WE.block_ret (WE.then_ret ?_))))))
 refine WE.endDA (.inl rfl) (rs2 Tryd.results27 (rv_cellS [_, _, _, _] agg37 ty37 rfl (.head _) (List.mem_singleton.2 rfl) rfl rfl) (rv_tmp rfl)) (dr_lose htb dr_refl) (hN200_5) ?_
 exact ⟨_, _, rfl⟩
set_option maxHeartbeats 20000000 in
theorem bad5b_1 (G : Hp) (k0 : TypeId) (u0 : Value) (hL : LT G k0 u0) (w : Nat) (hw : w < 7) (d mo y hh mm ss : Nat) (hmo : mo < 12) : FnA Tryd.prog 27 [S [77, 111, 110, 44, 32, 48, 50, 32, 74, 97, 110, 32, 50, 48, 48, 54, 32, 49, 53, 58, 48, 52, 58, 48, 53, 32, 71, 77, 84], S [(wb w 0), (wb w 1), (wb w 2), 32, (mb mo 0), (mb mo 1), (mb mo 2), 32, (hi d), (lo d), 32, (hi hh), (lo hh), 58, (hi mm), (lo mm), 58, (hi ss), (lo ss), 32, (hi (y / 100)), (lo (y / 100)), (hi (y % 100)), (lo (y % 100))]] G (parseBad) := by
 obtain ⟨hE, hT, sv, ⟨tl, fl, hml⟩, hsv⟩ := hL
 refine FnA.enter (n := 852) Tryd.func27 rfl rfl fun w0 => ?_
 refine WC.sub (fr' := [(0, _), (1, _)]) ?_ ⟨rfl, rfl, trivial⟩
 refine WC.seq (WC.region ?_)
 refine WL.alloc ty37 rfl rfl fun tb htb => ?_
 refine WL.q (oq_assign rfl) rfl rfl rfl ?_
 refine WL.nil (WE.then_normal (WC.seq (WC.region ?_)))
 refine WL.q (oq_move rfl) rfl rfl rfl ?_
 refine WL.q (oq_move rfl) rfl rfl rfl ?_
 refine WL.q (oq_assign rfl) rfl rfl rfl ?_
 refine WL.q (oq_assign rfl) rfl rfl rfl ?_
 refine WL.nil (WE.then_normal (WC.seq (WC.region ?_)))
 refine WL.q (oq_assign rfl) rfl rfl rfl ?_
 refine WL.nil (WE.then_normal (WC.seq (WC.region ?_)))
 refine WL.q (oq_assign rfl) rfl rfl rfl ?_
 refine WL.nil (WE.then_normal (WC.seq (WC.region ?_)))
 refine WL.q (oq_assign rfl) rfl rfl rfl ?_
 refine WL.nil (WE.then_normal (WC.seq (WC.region ?_)))
 refine WL.q (oq_assign rfl) rfl rfl rfl ?_
 refine WL.nil (WE.then_normal (WC.seq (WC.region ?_)))
 refine WL.q (oq_assign rfl) rfl rfl rfl ?_
 refine WL.nil (WE.then_normal (WC.seq (WC.region ?_)))
 refine WL.q (oq_assign rfl) rfl rfl rfl ?_
 refine WL.nil (WE.then_normal (WC.seq (WC.region ?_)))
 refine WL.q (oq_assign rfl) rfl rfl rfl ?_
 refine WL.nil (WE.then_normal (WC.seq (WC.region ?_)))
 refine WL.q (oq_assign rfl) rfl rfl rfl ?_
 refine WL.nil (WE.then_normal (WC.seq (WC.region ?_)))
 refine WL.q (oq_assign rfl) rfl rfl rfl ?_
 refine WL.nil (WE.then_normal (WC.seq (WC.region ?_)))
 refine WL.q (oq_assign rfl) rfl rfl rfl ?_
 refine WL.nil (WE.then_normal (WC.seq (WC.region ?_)))
 refine WL.q (oq_assign rfl) rfl rfl rfl ?_
 refine WL.nil (WE.then_normal (WC.seq (WC.region ?_)))
 refine WL.q (oq_assign rfl) rfl rfl rfl ?_
 refine WL.nil (WE.then_normal (WC.seq (WC.region ?_)))
 refine WL.q (oq_assign rfl) rfl rfl rfl ?_
 refine WL.nil (WE.then_normal (WC.seq (WC.region ?_)))
 refine WL.q (oq_assign rfl) rfl rfl rfl ?_
 refine WL.nil (WE.then_normal (WC.seq (WC.block ?_)))
 refine WC.unroll ?_
 refine WC.block (WC.seq (WC.region ?_))
 refine WL.q (oq_assign rfl) rfl rfl rfl ?_
 refine WL.nil (WE.then_normal (WC.seq (WC.region ?_)))
 refine WL.q (oq_move rfl) rfl rfl rfl ?_
 refine WL.qc (oq_callRm (ch0 G hT) (.tail _ (.head _)) call35 rfl) rfl rfl rfl ?_
 refine WL.q (oq_move rfl) rfl rfl rfl ?_
 refine WL.q (oq_extract rfl rfl) rfl rfl rfl ?_
 refine WL.q (oq_extract rfl rfl) rfl rfl rfl ?_
 refine WL.q (oq_extract rfl rfl) rfl rfl rfl ?_
 refine WL.q (oq_assign rfl) rfl rfl rfl ?_
 refine WL.q (oq_assign rfl) rfl rfl rfl ?_
 refine WL.q (oq_assign rfl) rfl rfl rfl ?_
 refine WL.nil (WE.then_normal (WC.seq (WC.region ?_)))
 refine WL.q (oq_move rfl) rfl rfl rfl ?_
 refine WL.q (oq_move rfl) rfl rfl rfl ?_
 refine WL.q ((oq_len_s Tryd.underlying9 rfl).to (v' := I 0) rfl) rfl rfl rfl ?_
 refine WL.q (oq_move rfl) rfl rfl rfl ?_
 refine WL.q ((oq_len_s Tryd.underlying9 rfl).to (v' := I 29) rfl) rfl rfl rfl ?_
 refine WL.q (oq_move rfl) rfl rfl rfl ?_
 refine WL.q ((oq_len_s Tryd.underlying9 rfl).to (v' := I 26) rfl) rfl rfl rfl ?_
 refine WL.q ((oq_sub rfl rfl (by rw [i64_lo, i64_hi]; omega)).to (v' := I 3) rfl) rfl rfl rfl ?_
 refine WL.q ((oq_slice_s2 Tryd.underlying9 rfl rfl rfl (by first | decide | simp)).to (v' := S [77, 111, 110]) rfl) rfl rfl rfl ?_
 refine WL.q (oq_assign rfl) rfl rfl rfl ?_
 refine WL.nil (WE.then_normal (WC.seq (WC.region ?_)))
 refine WL.q (oq_move rfl) rfl rfl rfl ?_
 refine WL.q (oq_move rfl) rfl rfl rfl ?_
 refine WL.qc (oq_callRm (skipY hE [(wb w 0), (wb w 1), (wb w 2), 32, (mb mo 0), (mb mo 1), (mb mo 2), 32, (hi d), (lo d), 32, (hi hh), (lo hh), 58, (hi mm), (lo mm), 58, (hi ss), (lo ss), 32, (hi (y / 100)), (lo (y / 100)), (hi (y % 100)), (lo (y % 100))] [] [(wb w 0), (wb w 1), (wb w 2), 32, (mb mo 0), (mb mo 1), (mb mo 2), 32, (hi d), (lo d), 32, (hi hh), (lo hh), 58, (hi mm), (lo mm), 58, (hi ss), (lo ss), 32, (hi (y / 100)), (lo (y / 100)), (hi (y % 100)), (lo (y % 100))] (by simp) (by simp) (by simp +decide [skipM, cutsp, hi_ne, lo_ne, mb_ne mo hmo])) (.tail _ (.head _)) call36 rfl) rfl rfl rfl ?_
 refine WL.q (oq_move rfl) rfl rfl rfl ?_
 refine WL.q (oq_extract rfl rfl) rfl rfl rfl ?_
 refine WL.q (oq_extract rfl rfl) rfl rfl rfl ?_
 refine WL.q (oq_assign rfl) rfl rfl rfl ?_
 refine WL.q (oq_assign rfl) rfl rfl rfl ?_
 refine WL.nil (WE.then_normal (WC.seq (WC.seq (WC.region ?_))))
 refine WL.q (oq_move rfl) rfl rfl rfl ?_
 refine WL.q ((oq_ineq Tryd.underlying39 rfl (.inl rfl)).to (v' := .bool false) rfl) rfl rfl rfl ?_
 refine WL.nil (WE.then_normal ?_)
 refine WC.cond_f rfl ?_
 refine WC.skip (WE.then_normal (WC.seq (WC.seq (WC.region ?_))))
 refine WL.q (oq_move rfl) rfl rfl rfl ?_
 refine WL.q ((oq_eql rfl rfl).to (v' := .bool false) (congrArg Value.bool (decide_eq_false (by omega)))) rfl rfl rfl ?_
 refine WL.nil (WE.then_normal ?_)
 refine WC.cond_f rfl ?_
 refine WC.skip (WE.then_normal (WC.seq (WC.region ?_)))
 refine WL.q (oq_move rfl) rfl rfl rfl ?_
 refine WL.q (oq_assign rfl) rfl rfl rfl ?_
 refine WL.nil (WE.then_normal (WC.seq (WC.region ?_)))
 refine WL.q (oq_assign rfl) rfl rfl rfl ?_
 refine WL.nil (WE.then_normal (WC.seq (WC.region ?_)))
 refine WL.q (oq_move rfl) rfl rfl rfl ?_
 refine WL.q (oq_assign rfl) rfl rfl rfl ?_
 refine WL.nil (WE.then_normal (WC.seq (WC.seq (WC.region ?_))))
 refine WL.q (oq_move rfl) rfl rfl rfl ?_
 refine WL.q ((oq_bits (op := .and) rfl rfl (by simp)).to (v' := I 262) (by kernel_rfl)) rfl rfl rfl ?_
 refine WL.nil (WE.then_normal (WC.block (WC.seq (WC.block (WC.seq (WC.block (WC.seq (WC.block (WC.seq (WC.block (WC.seq (WC.block (WC.seq (WC.block (WC.seq (WC.block (WC.seq (WC.block (WC.seq (WC.block (WC.seq (WC.block (WC.seq (WC.block (WC.seq (WC.block (WC.seq (WC.block (WC.seq (WC.block (WC.seq (WC.block (WC.seq (WC.block (WC.seq (WC.block (WC.seq (WC.block (WC.seq (WC.block (WC.seq (WC.block (WC.seq (WC.seq (WC.seq (WC.region ?_))))))))))))))))))))))))))))))))))))))))))))))
 refine WL.q ((oq_eql rfl rfl).to (v' := .bool false) (congrArg Value.bool (decide_eq_false (by omega)))) rfl rfl rfl ?_
 refine WL.q (oq_assign rfl) rfl rfl rfl ?_
 refine WL.nil (WE.then_normal (WC.sub (fr' := [(0, _), (1, _), (4, _), (6, _), (7, _), (8, _), (9, _), (10, _), (11, _), (12, _), (13, _), (14, _), (15, _), (16, _), (17, _), (18, _), (19, _), (20, _), (21, _), (22, _), (24, _), (26, _), (28, _), (91, _), (92, _)]) ?_ ⟨rfl, rfl, rfl, rfl, rfl, rfl, rfl, rfl, rfl, rfl, rfl, rfl, rfl, rfl, rfl, rfl, rfl, rfl, rfl, rfl, rfl, rfl, rfl, rfl, rfl, trivial⟩))
 refine WC.cond_f rfl ?_
 refine WC.skip (WE.then_normal (WC.seq (WC.seq (WC.region ?_))))
 refine WL.q ((oq_eql rfl rfl).to (v' := .bool false) (congrArg Value.bool (decide_eq_false (by omega)))) rfl rfl rfl ?_
 refine WL.q (oq_assign rfl) rfl rfl rfl ?_
 refine WL.nil (WE.then_normal ?_)
 refine WC.cond_f rfl ?_
 refine WC.skip (WE.then_normal (WC.seq (WC.seq (WC.region ?_))))
 refine WL.q ((oq_eql rfl rfl).to (v' := .bool false) (congrArg Value.bool (decide_eq_false (by omega)))) rfl rfl rfl ?_
 refine WL.q (oq_assign rfl) rfl rfl rfl ?_
 refine WL.nil (WE.then_normal ?_)
 refine WC.cond_f rfl ?_
 refine WC.skip (WE.then_normal (WC.seq (WC.seq (WC.region ?_))))
 refine WL.q ((oq_eql rfl rfl).to (v' := .bool false) (congrArg Value.bool (decide_eq_false (by omega)))) rfl rfl rfl ?_
 refine WL.q (oq_assign rfl) rfl rfl rfl ?_
 refine WL.nil (WE.then_normal ?_)
 refine WC.cond_f rfl ?_
 refine WC.skip (WE.then_normal (WC.seq (WC.seq (WC.seq (WC.region ?_)))))
 refine WL.q ((oq_eql rfl rfl).to (v' := .bool false) (congrArg Value.bool (decide_eq_false (by omega)))) rfl rfl rfl ?_
 refine WL.q (oq_assign rfl) rfl rfl rfl ?_
 refine WL.nil (WE.then_normal ?_)
 refine WC.cond_f rfl ?_
 refine WC.region ?_
 refine WL.q ((oq_eql rfl rfl).to (v' := .bool false) (congrArg Value.bool (decide_eq_false (by omega)))) rfl rfl rfl ?_
 refine WL.q (oq_assign rfl) rfl rfl rfl ?_
 refine WL.nil (WE.then_normal ?_)
 refine WC.cond_f rfl ?_
 refine WC.skip (WE.then_normal (WC.seq (WC.seq (WC.region ?_))))
 refine WL.q ((oq_eql rfl rfl).to (v' := .bool true) (congrArg Value.bool (decide_eq_true (by omega)))) rfl rfl rfl ?_
 refine WL.q (oq_assign rfl) rfl rfl rfl ?_
 refine WL.nil (WE.then_normal ?_)
 refine WC.cond_t rfl ?_
 refine WC.exit (WE.then_exit (WE.then_exit ?_))
 refine WE.block_other rfl ?_
 refine WE.then_exit ?_
 refine WE.block_other rfl ?_
 refine WE.then_exit ?_
 refine WE.block_other rfl ?_
 refine WE.then_exit ?_
 refine WE.block_other rfl ?_
 refine WE.then_exit ?_
 refine WE.block_other rfl ?_
 refine WE.then_exit (WE.block_same (WE.then_normal (WC.seq (WC.region ?_))))
 refine WL.callA0 (dayNames) call42 rfl rfl rfl fun v83_0 N83_0 hR83_0 hN83_0 => ?_
 have hR83_0 : RdS 1 v83_0 N83_0 7 (strsV week) := hR83_0
 refine WL.q (oq_move rfl) rfl rfl rfl ?_
 refine WL.qc (oq_callRm (lookupY v83_0 N83_0 week [(wb w 0), (wb w 1), (wb w 2), 32, (mb mo 0), (mb mo 1), (mb mo 2), 32, (hi d), (lo d), 32, (hi hh), (lo hh), 58, (hi mm), (lo mm), 58, (hi ss), (lo ss), 32, (hi (y / 100)), (lo (y / 100)), (hi (y % 100)), (lo (y % 100))] hR83_0 (by decide) (by simp) w _ (look_week w hw _)) (.head _) call39 rfl) rfl rfl rfl ?_
 refine WL.q (oq_move rfl) rfl rfl rfl ?_
 refine WL.q (oq_extract rfl rfl) rfl rfl rfl ?_
 refine WL.q (oq_extract rfl rfl) rfl rfl rfl ?_
 refine WL.q (oq_extract rfl rfl) rfl rfl rfl ?_
 refine WL.q (oq_assign rfl) rfl rfl rfl ?_
 refine WL.q (oq_assign rfl) rfl rfl rfl ?_
 refine WL.nil (WE.then_normal (WC.exit ?_))
 refine WE.block_other rfl ?_
 refine WE.then_exit ?_
 refine WE.block_other rfl ?_
 refine WE.then_exit ?_
 refine WE.block_other rfl ?_
 refine WE.then_exit ?_
 refine WE.block_other rfl ?_
 refine WE.then_exit ?_
 refine WE.block_other rfl ?_
 refine WE.then_exit ?_
 refine WE.block_other rfl ?_
 refine WE.then_exit ?_
 refine WE.block_other rfl ?_
 refine WE.then_exit ?_
 refine WE.block_other rfl ?_
 refine WE.then_exit ?_
 refine WE.block_other rfl ?_
 refine WE.then_exit ?_
 refine WE.block_other rfl ?_
 refine WE.then_exit ?_
 refine WE.block_other rfl ?_
 refine WE.then_exit ?_
 refine WE.block_other rfl ?_
 refine WE.then_exit ?_
 refine WE.block_other rfl ?_
 refine WE.then_exit ?_
 refine WE.block_other rfl ?_
 refine WE.then_exit (WE.block_same (WE.then_normal (WC.seq (WC.seq (WC.region ?_)))))
 refine WL.q (oq_move rfl) rfl rfl rfl ?_
 refine WL.q ((oq_sneq rfl rfl).to (v' := .bool false) (by kernel_rfl)) rfl rfl rfl ?_
 refine WL.nil (WE.then_normal ?_)
 refine WC.cond_f rfl ?_
 refine WC.skip (WE.then_normal (WC.seq (WC.region ?_)))
 refine WL.q (oq_move rfl) rfl rfl rfl ?_
 refine WL.q ((oq_ineq Tryd.underlying39 rfl (.inl rfl)).to (v' := .bool false) rfl) rfl rfl rfl ?_
 refine WL.nil (WE.then_normal ?_)
 refine WC.cond_f rfl ?_
 refine WC.skip (WE.block_normal ?_)
 refine WE.forget hN83_0 ?_
 refine WE.round ?_
 refine WC.sub (fr' := [(0, _), (1, _), (4, _), (6, _), (7, _), (8, _), (9, _), (10, _), (11, _), (12, _), (13, _), (14, _), (15, _), (16, _), (17, _), (18, _), (19, _), (20, _), (21, _)]) ?_ ⟨rfl, rfl, rfl, rfl, rfl, rfl, rfl, rfl, rfl, rfl, rfl, rfl, rfl, rfl, rfl, rfl, rfl, rfl, rfl, trivial⟩
 refine WC.block (WC.seq (WC.region ?_))
 refine WL.q (oq_assign rfl) rfl rfl rfl ?_
 refine WL.nil (WE.then_normal (WC.seq (WC.region ?_)))
 refine WL.q (oq_move rfl) rfl rfl rfl ?_
 refine WL.qc (oq_callRm (ch1 G hT) (.tail _ (.head _)) call35 rfl) rfl rfl rfl ?_
 refine WL.q (oq_move rfl) rfl rfl rfl ?_
 refine WL.q (oq_extract rfl rfl) rfl rfl rfl ?_
 refine WL.q (oq_extract rfl rfl) rfl rfl rfl ?_
 refine WL.q (oq_extract rfl rfl) rfl rfl rfl ?_
 refine WL.q (oq_assign rfl) rfl rfl rfl ?_
 refine WL.q (oq_assign rfl) rfl rfl rfl ?_
 refine WL.q (oq_assign rfl) rfl rfl rfl ?_
 refine WL.nil (WE.then_normal (WC.seq (WC.region ?_)))
 refine WL.q (oq_move rfl) rfl rfl rfl ?_
 refine WL.q (oq_move rfl) rfl rfl rfl ?_
 refine WL.q ((oq_len_s Tryd.underlying9 rfl).to (v' := I 2) rfl) rfl rfl rfl ?_
 refine WL.q (oq_move rfl) rfl rfl rfl ?_
 refine WL.q ((oq_len_s Tryd.underlying9 rfl).to (v' := I 26) rfl) rfl rfl rfl ?_
 refine WL.q (oq_move rfl) rfl rfl rfl ?_
 refine WL.q ((oq_len_s Tryd.underlying9 rfl).to (v' := I 22) rfl) rfl rfl rfl ?_
 refine WL.q ((oq_sub rfl rfl (by rw [i64_lo, i64_hi]; omega)).to (v' := I 4) rfl) rfl rfl rfl ?_
 refine WL.q ((oq_slice_s2 Tryd.underlying9 rfl rfl rfl (by first | decide | simp)).to (v' := S [48, 50]) rfl) rfl rfl rfl ?_
 refine WL.q (oq_assign rfl) rfl rfl rfl ?_
 refine WL.nil (WE.then_normal (WC.seq (WC.region ?_)))
 refine WL.q (oq_move rfl) rfl rfl rfl ?_
 refine WL.q (oq_move rfl) rfl rfl rfl ?_
 refine WL.qc (oq_callRm (skipN hE [32, (mb mo 0), (mb mo 1), (mb mo 2), 32, (hi d), (lo d), 32, (hi hh), (lo hh), 58, (hi mm), (lo mm), 58, (hi ss), (lo ss), 32, (hi (y / 100)), (lo (y / 100)), (hi (y % 100)), (lo (y % 100))] [44, 32] [32, (mb mo 0), (mb mo 1), (mb mo 2), 32, (hi d), (lo d), 32, (hi hh), (lo hh), 58, (hi mm), (lo mm), 58, (hi ss), (lo ss), 32, (hi (y / 100)), (lo (y / 100)), (hi (y % 100)), (lo (y % 100))] (by simp) (by simp) (by simp +decide [skipM, cutsp, hi_ne, lo_ne, mb_ne mo hmo])) (.tail _ (.head _)) call36 rfl) rfl rfl rfl ?_
 refine WL.q (oq_move rfl) rfl rfl rfl ?_
 refine WL.q (oq_extract rfl rfl) rfl rfl rfl ?_
 refine WL.q (oq_extract rfl rfl) rfl rfl rfl ?_
 refine WL.q (oq_assign rfl) rfl rfl rfl ?_
 refine WL.q (oq_assign rfl) rfl rfl rfl ?_
 refine WL.nil (WE.then_normal (WC.seq (WC.seq (WC.region ?_))))
 refine WL.q (oq_move rfl) rfl rfl rfl ?_
 refine WL.q ((oq_ineq Tryd.underlying39 rfl (.inr ⟨_, _, rfl⟩)).to (v' := .bool true) rfl) rfl rfl rfl ?_
 refine WL.nil (WE.then_normal ?_)
 refine WC.cond_t rfl ?_
 refine WC.seq (WC.region ?_)
 refine WL.q (oq_build #[_, _, _, _] str37 ty37 rfl rfl) rfl rfl rfl ?_
 refine WL.q (oq_move rfl) rfl rfl rfl ?_
 refine WL.q (oq_move rfl) rfl rfl rfl ?_
 refine WL.q (oq_move rfl) rfl rfl rfl ?_
 refine WL.q (oq_move rfl) rfl rfl rfl ?_
 refine WL.callA0 (newPE _ _ _ _ _ (by simp)) call37 rfl rfl rfl fun v21_5 N21_5 hR21_5 hN21_5 => ?_
 obtain ⟨kE, uE, rfl⟩ := hR21_5
 refine WL.f1 ?_
 refine WL.storeS #[_, _, _, _] ty37 rfl rfl rfl rfl (Nat.le_of_ble_eq_true rfl) rfl rfl ?_
 refine WL.q (oq_assign rfl) rfl rfl rfl ?_
 refine WL.nil (WE.then_normal (WC.sub (fr' := [(4, _), (5, _)]) ?_ ⟨rfl, rfl, trivial⟩))
 refine WC.ret (WE.then_ret (WE.block_ret (WE.then_ret (WE.block_ret (WE.then_ret ?_)))))
 refine WE.endDA (.inl rfl) (rs2 Tryd.results27 (rv_cellS [_, _, _, _] agg37 ty37 rfl (.head _) (List.mem_singleton.2 rfl) rfl rfl) (rv_tmp rfl)) (dr_lose htb dr_refl) (hN21_5) ?_
 exact ⟨_, _, rfl⟩
set_option maxHeartbeats 20000000 in
theorem bad5b_2 (G : Hp) (k0 : TypeId) (u0 : Value) (hL : LT G k0 u0) (w : Nat) (hw : w < 7) (d mo y hh mm ss : Nat) (hmo : mo < 12) : FnA Tryd.prog 27 [S [77, 111, 110, 44, 32, 95, 50, 32, 74, 97, 110, 32, 50, 48, 48, 54, 32, 49, 53, 58, 48, 52, 58, 48, 53, 32, 71, 77, 84], S [(wb w 0), (wb w 1), (wb w 2), 32, (mb mo 0), (mb mo 1), (mb mo 2), 32, (hi d), (lo d), 32, (hi hh), (lo hh), 58, (hi mm), (lo mm), 58, (hi ss), (lo ss), 32, (hi (y / 100)), (lo (y / 100)), (hi (y % 100)), (lo (y % 100))]] G (parseBad) := by
 obtain ⟨hE, hT, sv, ⟨tl, fl, hml⟩, hsv⟩ := hL
 refine FnA.enter (n := 852) Tryd.func27 rfl rfl fun w0 => ?_
 refine WC.sub (fr' := [(0, _), (1, _)]) ?_ ⟨rfl, rfl, trivial⟩
 refine WC.seq (WC.region ?_)
 refine WL.alloc ty37 rfl rfl fun tb htb => ?_
 refine WL.q (oq_assign rfl) rfl rfl rfl ?_
 refine WL.nil (WE.then_normal (WC.seq (WC.region ?_)))
 refine WL.q (oq_move rfl) rfl rfl rfl ?_
 refine WL.q (oq_move rfl) rfl rfl rfl ?_
 refine WL.q (oq_assign rfl) rfl rfl rfl ?_
 refine WL.q (oq_assign rfl) rfl rfl rfl ?_
 refine WL.nil (WE.then_normal (WC.seq (WC.region ?_)))
 refine WL.q (oq_assign rfl) rfl rfl rfl ?_
 refine WL.nil (WE.then_normal (WC.seq (WC.region ?_)))
 refine WL.q (oq_assign rfl) rfl rfl rfl ?_
 refine WL.nil (WE.then_normal (WC.seq (WC.region ?_)))
 refine WL.q (oq_assign rfl) rfl rfl rfl ?_
 refine WL.nil (WE.then_normal (WC.seq (WC.region ?_)))
 refine WL.q (oq_assign rfl) rfl rfl rfl ?_
 refine WL.nil (WE.then_normal (WC.seq (WC.region ?_)))
 refine WL.q (oq_assign rfl) rfl rfl rfl ?_
 refine WL.nil (WE.then_normal (WC.seq (WC.region ?_)))
 refine WL.q (oq_assign rfl) rfl rfl rfl ?_
 refine WL.nil (WE.then_normal (WC.seq (WC.region ?_)))
 refine WL.q (oq_assign rfl) rfl rfl rfl ?_
 refine WL.nil (WE.then_normal (WC.seq (WC.region ?_)))
 refine WL.q (oq_assign rfl) rfl rfl rfl ?_
 refine WL.nil (WE.then_normal (WC.seq (WC.region ?_)))
 refine WL.q (oq_assign rfl) rfl rfl rfl ?_
 refine WL.nil (WE.then_normal (WC.seq (WC.region ?_)))
 refine WL.q (oq_assign rfl) rfl rfl rfl ?_
 refine WL.nil (WE.then_normal (WC.seq (WC.region ?_)))
 refine WL.q (oq_assign rfl) rfl rfl rfl ?_
 refine WL.nil (WE.then_normal (WC.seq (WC.region ?_)))
 refine WL.q (oq_assign rfl) rfl rfl rfl ?_
 refine WL.nil (WE.then_normal (WC.seq (WC.region ?_)))
 refine WL.q (oq_assign rfl) rfl rfl rfl ?_
 refine WL.nil (WE.then_normal (WC.seq (WC.region ?_)))
 refine WL.q (oq_assign rfl) rfl rfl rfl ?_
 refine WL.nil (WE.then_normal (WC.seq (WC.block ?_)))
 refine WC.unroll ?_
 refine WC.block (WC.seq (WC.region ?_))
 refine WL.q (oq_assign rfl) rfl rfl rfl ?_
 refine WL.nil (WE.then_normal (WC.seq (WC.region ?_)))
 refine WL.q (oq_move rfl) rfl rfl rfl ?_
 refine WL.qc (oq_callRm (ch24 G hT) (.tail _ (.head _)) call35 rfl) rfl rfl rfl ?_
 refine WL.q (oq_move rfl) rfl rfl rfl ?_
 refine WL.q (oq_extract rfl rfl) rfl rfl rfl ?_
 refine WL.q (oq_extract rfl rfl) rfl rfl rfl ?_
 refine WL.q (oq_extract rfl rfl) rfl rfl rfl ?_
 refine WL.q (oq_assign rfl) rfl rfl rfl ?_
 refine WL.q (oq_assign rfl) rfl rfl rfl ?_
 refine WL.q (oq_assign rfl) rfl rfl rfl ?_
 refine WL.nil (WE.then_normal (WC.seq (WC.region ?_)))
 refine WL.q (oq_move rfl) rfl rfl rfl ?_
 refine WL.q (oq_move rfl) rfl rfl rfl ?_
 refine WL.q ((oq_len_s Tryd.underlying9 rfl).to (v' := I 0) rfl) rfl rfl rfl ?_
 refine WL.q (oq_move rfl) rfl rfl rfl ?_
 refine WL.q ((oq_len_s Tryd.underlying9 rfl).to (v' := I 29) rfl) rfl rfl rfl ?_
 refine WL.q (oq_move rfl) rfl rfl rfl ?_
 refine WL.q ((oq_len_s Tryd.underlying9 rfl).to (v' := I 26) rfl) rfl rfl rfl ?_
 refine WL.q ((oq_sub rfl rfl (by rw [i64_lo, i64_hi]; omega)).to (v' := I 3) rfl) rfl rfl rfl ?_
 refine WL.q ((oq_slice_s2 Tryd.underlying9 rfl rfl rfl (by first | decide | simp)).to (v' := S [77, 111, 110]) rfl) rfl rfl rfl ?_
 refine WL.q (oq_assign rfl) rfl rfl rfl ?_
 refine WL.nil (WE.then_normal (WC.seq (WC.region ?_)))
 refine WL.q (oq_move rfl) rfl rfl rfl ?_
 refine WL.q (oq_move rfl) rfl rfl rfl ?_
 refine WL.qc (oq_callRm (skipY hE [(wb w 0), (wb w 1), (wb w 2), 32, (mb mo 0), (mb mo 1), (mb mo 2), 32, (hi d), (lo d), 32, (hi hh), (lo hh), 58, (hi mm), (lo mm), 58, (hi ss), (lo ss), 32, (hi (y / 100)), (lo (y / 100)), (hi (y % 100)), (lo (y % 100))] [] [(wb w 0), (wb w 1), (wb w 2), 32, (mb mo 0), (mb mo 1), (mb mo 2), 32, (hi d), (lo d), 32, (hi hh), (lo hh), 58, (hi mm), (lo mm), 58, (hi ss), (lo ss), 32, (hi (y / 100)), (lo (y / 100)), (hi (y % 100)), (lo (y % 100))] (by simp) (by simp) (by simp +decide [skipM, cutsp, hi_ne, lo_ne, mb_ne mo hmo])) (.tail _ (.head _)) call36 rfl) rfl rfl rfl ?_
 refine WL.q (oq_move rfl) rfl rfl rfl ?_
 refine WL.q (oq_extract rfl rfl) rfl rfl rfl ?_
 refine WL.q (oq_extract rfl rfl) rfl rfl rfl ?_
 refine WL.q (oq_assign rfl) rfl rfl rfl ?_
 refine WL.q (oq_assign rfl) rfl rfl rfl ?_
 refine WL.nil (WE.then_normal (WC.seq (WC.seq (WC.region ?_))))
 refine WL.q (oq_move rfl) rfl rfl rfl ?_
 refine WL.q ((oq_ineq Tryd.underlying39 rfl (.inl rfl)).to (v' := .bool false) rfl) rfl rfl rfl ?_
 refine WL.nil (WE.then_normal ?_)
 refine WC.cond_f rfl ?_
 refine WC.skip (WE.then_normal (WC.seq (WC.seq (WC.region ?_))))
 refine WL.q (oq_move rfl) rfl rfl rfl ?_
 refine WL.q ((oq_eql rfl rfl).to (v' := .bool false) (congrArg Value.bool (decide_eq_false (by omega)))) rfl rfl rfl ?_
 refine WL.nil (WE.then_normal ?_)
 refine WC.cond_f rfl ?_
 refine WC.skip (WE.then_normal (WC.seq (WC.region ?_)))
 refine WL.q (oq_move rfl) rfl rfl rfl ?_
 refine WL.q (oq_assign rfl) rfl rfl rfl ?_
 refine WL.nil (WE.then_normal (WC.seq (WC.region ?_)))
 refine WL.q (oq_assign rfl) rfl rfl rfl ?_
 refine WL.nil (WE.then_normal (WC.seq (WC.region ?_)))
 refine WL.q (oq_move rfl) rfl rfl rfl ?_
 refine WL.q (oq_assign rfl) rfl rfl rfl ?_
 refine WL.nil (WE.then_normal (WC.seq (WC.seq (WC.region ?_))))
 refine WL.q (oq_move rfl) rfl rfl rfl ?_
 refine WL.q ((oq_bits (op := .and) rfl rfl (by simp)).to (v' := I 262) (by kernel_rfl)) rfl rfl rfl ?_
 refine WL.nil (WE.then_normal (WC.block (WC.seq (WC.block (WC.seq (WC.block (WC.seq (WC.block (WC.seq (WC.block (WC.seq (WC.block (WC.seq (WC.block (WC.seq (WC.block (WC.seq (WC.block (WC.seq (WC.block (WC.seq (WC.block (WC.seq (WC.block (WC.seq (WC.block (WC.seq (WC.block (WC.seq (WC.block (WC.seq (WC.block (WC.seq (WC.block (WC.seq (WC.block (WC.seq (WC.block (WC.seq (WC.block (WC.seq (WC.block (WC.seq (WC.seq (WC.seq (WC.region ?_))))))))))))))))))))))))))))))))))))))))))))))
 refine WL.q ((oq_eql rfl rfl).to (v' := .bool false) (congrArg Value.bool (decide_eq_false (by omega)))) rfl rfl rfl ?_
 refine WL.q (oq_assign rfl) rfl rfl rfl ?_
 refine WL.nil (WE.then_normal (WC.sub (fr' := [(0, _), (1, _), (4, _), (6, _), (7, _), (8, _), (9, _), (10, _), (11, _), (12, _), (13, _), (14, _), (15, _), (16, _), (17, _), (18, _), (19, _), (20, _), (21, _), (22, _), (24, _), (26, _), (28, _), (91, _), (92, _)]) ?_ ⟨rfl, rfl, rfl, rfl, rfl, rfl, rfl, rfl, rfl, rfl, rfl, rfl, rfl, rfl, rfl, rfl, rfl, rfl, rfl, rfl, rfl, rfl, rfl, rfl, rfl, trivial⟩))
 refine WC.cond_f rfl ?_
 refine WC.skip (WE.then_normal (WC.seq (WC.seq (WC.region ?_))))
 refine WL.q ((oq_eql rfl rfl).to (v' := .bool false) (congrArg Value.bool (decide_eq_false (by omega)))) rfl rfl rfl ?_
 refine WL.q (oq_assign rfl) rfl rfl rfl ?_
 refine WL.nil (WE.then_normal ?_)
 refine WC.cond_f rfl ?_
 refine WC.skip (WE.then_normal (WC.seq (WC.seq (WC.region ?_))))
 refine WL.q ((oq_eql rfl rfl).to (v' := .bool false) (congrArg Value.bool (decide_eq_false (by omega)))) rfl rfl rfl ?_
 refine WL.q (oq_assign rfl) rfl rfl rfl ?_
 refine WL.nil (WE.then_normal ?_)
 refine WC.cond_f rfl ?_
 refine WC.skip (WE.then_normal (WC.seq (WC.seq (WC.region ?_))))
 refine WL.q ((oq_eql rfl rfl).to (v' := .bool false) (congrArg Value.bool (decide_eq_false (by omega)))) rfl rfl rfl ?_
 refine WL.q (oq_assign rfl) rfl rfl rfl ?_
 refine WL.nil (WE.then_normal ?_)
 refine WC.cond_f rfl ?_
 refine WC.skip (WE.then_normal (WC.seq (WC.seq (WC.seq (WC.region ?_)))))
 refine WL.q ((oq_eql rfl rfl).to (v' := .bool false) (congrArg Value.bool (decide_eq_false (by omega)))) rfl rfl rfl ?_
 refine WL.q (oq_assign rfl) rfl rfl rfl ?_
 refine WL.nil (WE.then_normal ?_)
 refine WC.cond_f rfl ?_
 refine WC.region ?_
 refine WL.q ((oq_eql rfl rfl).to (v' := .bool false) (congrArg Value.bool (decide_eq_false (by omega)))) rfl rfl rfl ?_
 refine WL.q (oq_assign rfl) rfl rfl rfl ?_
 refine WL.nil (WE.then_normal ?_)
 refine WC.cond_f rfl ?_
 refine WC.skip (WE.then_normal (WC.seq (WC.seq (WC.region ?_))))
 refine WL.q ((oq_eql rfl rfl).to (v' := .bool true) (congrArg Value.bool (decide_eq_true (by omega)))) rfl rfl rfl ?_
 refine WL.q (oq_assign rfl) rfl rfl rfl ?_
 refine WL.nil (WE.then_normal ?_)
 refine WC.cond_t rfl ?_
 refine WC.exit (WE.then_exit (WE.then_exit ?_))
 refine WE.block_other rfl ?_
 refine WE.then_exit ?_
 refine WE.block_other rfl ?_
 refine WE.then_exit ?_
 refine WE.block_other rfl ?_
 refine WE.then_exit ?_
 refine WE.block_other rfl ?_
 refine WE.then_exit ?_
 refine WE.block_other rfl ?_
 refine WE.then_exit (WE.block_same (WE.then_normal (WC.seq (WC.region ?_))))
 refine WL.callA0 (dayNames) call42 rfl rfl rfl fun v83_0 N83_0 hR83_0 hN83_0 => ?_
 have hR83_0 : RdS 1 v83_0 N83_0 7 (strsV week) := hR83_0
 refine WL.q (oq_move rfl) rfl rfl rfl ?_
 refine WL.qc (oq_callRm (lookupY v83_0 N83_0 week [(wb w 0), (wb w 1), (wb w 2), 32, (mb mo 0), (mb mo 1), (mb mo 2), 32, (hi d), (lo d), 32, (hi hh), (lo hh), 58, (hi mm), (lo mm), 58, (hi ss), (lo ss), 32, (hi (y / 100)), (lo (y / 100)), (hi (y % 100)), (lo (y % 100))] hR83_0 (by decide) (by simp) w _ (look_week w hw _)) (.head _) call39 rfl) rfl rfl rfl ?_
 refine WL.q (oq_move rfl) rfl rfl rfl ?_
 refine WL.q (oq_extract rfl rfl) rfl rfl rfl ?_
 refine WL.q (oq_extract rfl rfl) rfl rfl rfl ?_
 refine WL.q (oq_extract rfl rfl) rfl rfl rfl ?_
 refine WL.q (oq_assign rfl) rfl rfl rfl ?_
 refine WL.q (oq_assign rfl) rfl rfl rfl ?_
 refine WL.nil (WE.then_normal (WC.exit ?_))
 refine WE.block_other rfl ?_
 refine WE.then_exit ?_
 refine WE.block_other rfl ?_
 refine WE.then_exit ?_
 refine WE.block_other rfl ?_
 refine WE.then_exit ?_
 refine WE.block_other rfl ?_
 refine WE.then_exit ?_
 refine WE.block_other rfl ?_
 refine WE.then_exit ?_
 refine WE.block_other rfl ?_
 refine WE.then_exit ?_
 refine WE.block_other rfl ?_
 refine WE.then_exit ?_
 refine WE.block_other rfl ?_
 refine WE.then_exit ?_
 refine WE.block_other rfl ?_
 refine WE.then_exit ?_
 refine WE.block_other rfl ?_
 refine WE.then_exit ?_
 refine WE.block_other rfl ?_
 refine WE.then_exit ?_
 refine WE.block_other rfl ?_
 refine WE.then_exit ?_
 refine WE.block_other rfl ?_
 refine WE.then_exit ?_
 refine WE.block_other rfl ?_
 refine WE.then_exit (WE.block_same (WE.then_normal (WC.seq (WC.seq (WC.region ?_)))))
 refine WL.q (oq_move rfl) rfl rfl rfl ?_
 refine WL.q ((oq_sneq rfl rfl).to (v' := .bool false) (by kernel_rfl)) rfl rfl rfl ?_
 refine WL.nil (WE.then_normal ?_)
 refine WC.cond_f rfl ?_
 refine WC.skip (WE.then_normal (WC.seq (WC.region ?_)))
 refine WL.q (oq_move rfl) rfl rfl rfl ?_
 refine WL.q ((oq_ineq Tryd.underlying39 rfl (.inl rfl)).to (v' := .bool false) rfl) rfl rfl rfl ?_
 refine WL.nil (WE.then_normal ?_)
 refine WC.cond_f rfl ?_
 refine WC.skip (WE.block_normal ?_)
 refine WE.forget hN83_0 ?_
 refine WE.round ?_
 refine WC.sub (fr' := [(0, _), (1, _), (4, _), (6, _), (7, _), (8, _), (9, _), (10, _), (11, _), (12, _), (13, _), (14, _), (15, _), (16, _), (17, _), (18, _), (19, _), (20, _), (21, _)]) ?_ ⟨rfl, rfl, rfl, rfl, rfl, rfl, rfl, rfl, rfl, rfl, rfl, rfl, rfl, rfl, rfl, rfl, rfl, rfl, rfl, trivial⟩
 refine WC.block (WC.seq (WC.region ?_))
 refine WL.q (oq_assign rfl) rfl rfl rfl ?_
 refine WL.nil (WE.then_normal (WC.seq (WC.region ?_)))
 refine WL.q (oq_move rfl) rfl rfl rfl ?_
 refine WL.qc (oq_callRm (ch25 G hT) (.tail _ (.head _)) call35 rfl) rfl rfl rfl ?_
 refine WL.q (oq_move rfl) rfl rfl rfl ?_
 refine WL.q (oq_extract rfl rfl) rfl rfl rfl ?_
 refine WL.q (oq_extract rfl rfl) rfl rfl rfl ?_
 refine WL.q (oq_extract rfl rfl) rfl rfl rfl ?_
 refine WL.q (oq_assign rfl) rfl rfl rfl ?_
 refine WL.q (oq_assign rfl) rfl rfl rfl ?_
 refine WL.q (oq_assign rfl) rfl rfl rfl ?_
 refine WL.nil (WE.then_normal (WC.seq (WC.region ?_)))
 refine WL.q (oq_move rfl) rfl rfl rfl ?_
 refine WL.q (oq_move rfl) rfl rfl rfl ?_
 refine WL.q ((oq_len_s Tryd.underlying9 rfl).to (v' := I 2) rfl) rfl rfl rfl ?_
 refine WL.q (oq_move rfl) rfl rfl rfl ?_
 refine WL.q ((oq_len_s Tryd.underlying9 rfl).to (v' := I 26) rfl) rfl rfl rfl ?_
 refine WL.q (oq_move rfl) rfl rfl rfl ?_
 refine WL.q ((oq_len_s Tryd.underlying9 rfl).to (v' := I 22) rfl) rfl rfl rfl ?_
 refine WL.q ((oq_sub rfl rfl (by rw [i64_lo, i64_hi]; omega)).to (v' := I 4) rfl) rfl rfl rfl ?_
 refine WL.q ((oq_slice_s2 Tryd.underlying9 rfl rfl rfl (by first | decide | simp)).to (v' := S [95, 50]) rfl) rfl rfl rfl ?_
 refine WL.q (oq_assign rfl) rfl rfl rfl ?_
 refine WL.nil (WE.then_normal (WC.seq (WC.region ?_)))
 refine WL.q (oq_move rfl) rfl rfl rfl ?_
 refine WL.q (oq_move rfl) rfl rfl rfl ?_
 refine WL.qc (oq_callRm (skipN hE [32, (mb mo 0), (mb mo 1), (mb mo 2), 32, (hi d), (lo d), 32, (hi hh), (lo hh), 58, (hi mm), (lo mm), 58, (hi ss), (lo ss), 32, (hi (y / 100)), (lo (y / 100)), (hi (y % 100)), (lo (y % 100))] [44, 32] [32, (mb mo 0), (mb mo 1), (mb mo 2), 32, (hi d), (lo d), 32, (hi hh), (lo hh), 58, (hi mm), (lo mm), 58, (hi ss), (lo ss), 32, (hi (y / 100)), (lo (y / 100)), (hi (y % 100)), (lo (y % 100))] (by simp) (by simp) (by simp +decide [skipM, cutsp, hi_ne, lo_ne, mb_ne mo hmo])) (.tail _ (.head _)) call36 rfl) rfl rfl rfl ?_
 refine WL.q (oq_move rfl) rfl rfl rfl ?_
 refine WL.q (oq_extract rfl rfl) rfl rfl rfl ?_
 refine WL.q (oq_extract rfl rfl) rfl rfl rfl ?_
 refine WL.q (oq_assign rfl) rfl rfl rfl ?_
 refine WL.q (oq_assign rfl) rfl rfl rfl ?_
 refine WL.nil (WE.then_normal (WC.seq (WC.seq (WC.region ?_))))
 refine WL.q (oq_move rfl) rfl rfl rfl ?_
 refine WL.q ((oq_ineq Tryd.underlying39 rfl (.inr ⟨_, _, rfl⟩)).to (v' := .bool true) rfl) rfl rfl rfl ?_
 refine WL.nil (WE.then_normal ?_)
 refine WC.cond_t rfl ?_
 refine WC.seq (WC.region ?_)
 refine WL.q (oq_build #[_, _, _, _] str37 ty37 rfl rfl) rfl rfl rfl ?_
 refine WL.q (oq_move rfl) rfl rfl rfl ?_
 refine WL.q (oq_move rfl) rfl rfl rfl ?_
 refine WL.q (oq_move rfl) rfl rfl rfl ?_
 refine WL.q (oq_move rfl) rfl rfl rfl ?_
 refine WL.callA0 (newPE _ _ _ _ _ (by simp)) call37 rfl rfl rfl fun v21_5 N21_5 hR21_5 hN21_5 => ?_
 obtain ⟨kE, uE, rfl⟩ := hR21_5
 refine WL.f1 ?_
 refine WL.storeS #[_, _, _, _] ty37 rfl rfl rfl rfl (Nat.le_of_ble_eq_true rfl) rfl rfl ?_
 refine WL.q (oq_assign rfl) rfl rfl rfl ?_
 refine WL.nil (WE.then_normal (WC.sub (fr' := [(4, _), (5, _)]) ?_ ⟨rfl, rfl, trivial⟩))
 refine WC.ret (WE.then_ret (WE.block_ret (WE.then_ret (WE.block_ret (WE.then_ret ?_)))))
 refine WE.endDA (.inl rfl) (rs2 Tryd.results27 (rv_cellS [_, _, _, _] agg37 ty37 rfl (.head _) (List.mem_singleton.2 rfl) rfl rfl) (rv_tmp rfl)) (dr_lose htb dr_refl) (hN21_5) ?_
 exact ⟨_, _, rfl⟩
set_option maxHeartbeats 20000000 in
theorem bad5b_3 (G : Hp) (k0 : TypeId) (u0 : Value) (hL : LT G k0 u0) (w : Nat) (hw : w < 7) (d mo y hh mm ss : Nat) (hmo : mo < 12) : FnA Tryd.prog 27 [S [77, 111, 110, 44, 32, 95, 50, 32, 74, 97, 110, 32, 48, 54, 32, 49, 53, 58, 48, 52, 58, 48, 53, 32, 71, 77, 84], S [(wb w 0), (wb w 1), (wb w 2), 32, (mb mo 0), (mb mo 1), (mb mo 2), 32, (hi d), (lo d), 32, (hi hh), (lo hh), 58, (hi mm), (lo mm), 58, (hi ss), (lo ss), 32, (hi (y / 100)), (lo (y / 100)), (hi (y % 100)), (lo (y % 100))]] G (parseBad) := by
 obtain ⟨hE, hT, sv, ⟨tl, fl, hml⟩, hsv⟩ := hL
 refine FnA.enter (n := 852) Tryd.func27 rfl rfl fun w0 => ?_
 refine WC.sub (fr' := [(0, _), (1, _)]) ?_ ⟨rfl, rfl, trivial⟩
 refine WC.seq (WC.region ?_)
 refine WL.alloc ty37 rfl rfl fun tb htb => ?_
 refine WL.q (oq_assign rfl) rfl rfl rfl ?_
 refine WL.nil (WE.then_normal (WC.seq (WC.region ?_)))
 refine WL.q (oq_move rfl) rfl rfl rfl ?_
 refine WL.q (oq_move rfl) rfl rfl rfl ?_
 refine WL.q (oq_assign rfl) rfl rfl rfl ?_
 refine WL.q (oq_assign rfl) rfl rfl rfl ?_
 refine WL.nil (WE.then_normal (WC.seq (WC.region ?_)))
 refine WL.q (oq_assign rfl) rfl rfl rfl ?_
 refine WL.nil (WE.then_normal (WC.seq (WC.region ?_)))
 refine WL.q (oq_assign rfl) rfl rfl rfl ?_
 refine WL.nil (WE.then_normal (WC.seq (WC.region ?_)))
 refine WL.q (oq_assign rfl) rfl rfl rfl ?_
 refine WL.nil (WE.then_normal (WC.seq (WC.region ?_)))
 refine WL.q (oq_assign rfl) rfl rfl rfl ?_
 refine WL.nil (WE.then_normal (WC.seq (WC.region ?_)))
 refine WL.q (oq_assign rfl) rfl rfl rfl ?_
 refine WL.nil (WE.then_normal (WC.seq (WC.region ?_)))
 refine WL.q (oq_assign rfl) rfl rfl rfl ?_
 refine WL.nil (WE.then_normal (WC.seq (WC.region ?_)))
 refine WL.q (oq_assign rfl) rfl rfl rfl ?_
 refine WL.nil (WE.then_normal (WC.seq (WC.region ?_)))
 refine WL.q (oq_assign rfl) rfl rfl rfl ?_
 refine WL.nil (WE.then_normal (WC.seq (WC.region ?_)))
 refine WL.q (oq_assign rfl) rfl rfl rfl ?_
 refine WL.nil (WE.then_normal (WC.seq (WC.region ?_)))
 refine WL.q (oq_assign rfl) rfl rfl rfl ?_
 refine WL.nil (WE.then_normal (WC.seq (WC.region ?_)))
 refine WL.q (oq_assign rfl) rfl rfl rfl ?_
 refine WL.nil (WE.then_normal (WC.seq (WC.region ?_)))
 refine WL.q (oq_assign rfl) rfl rfl rfl ?_
 refine WL.nil (WE.then_normal (WC.seq (WC.region ?_)))
 refine WL.q (oq_assign rfl) rfl rfl rfl ?_
 refine WL.nil (WE.then_normal (WC.seq (WC.region ?_)))
 refine WL.q (oq_assign rfl) rfl rfl rfl ?_
 refine WL.nil (WE.then_normal (WC.seq (WC.block ?_)))
 refine WC.unroll ?_
 refine WC.block (WC.seq (WC.region ?_))
 refine WL.q (oq_assign rfl) rfl rfl rfl ?_
 refine WL.nil (WE.then_normal (WC.seq (WC.region ?_)))
 refine WL.q (oq_move rfl) rfl rfl rfl ?_
 refine WL.qc (oq_callRm (ch26 G hT) (.tail _ (.head _)) call35 rfl) rfl rfl rfl ?_
 refine WL.q (oq_move rfl) rfl rfl rfl ?_
 refine WL.q (oq_extract rfl rfl) rfl rfl rfl ?_
 refine WL.q (oq_extract rfl rfl) rfl rfl rfl ?_
 refine WL.q (oq_extract rfl rfl) rfl rfl rfl ?_
 refine WL.q (oq_assign rfl) rfl rfl rfl ?_
 refine WL.q (oq_assign rfl) rfl rfl rfl ?_
 refine WL.q (oq_assign rfl) rfl rfl rfl ?_
 refine WL.nil (WE.then_normal (WC.seq (WC.region ?_)))
 refine WL.q (oq_move rfl) rfl rfl rfl ?_
 refine WL.q (oq_move rfl) rfl rfl rfl ?_
 refine WL.q ((oq_len_s Tryd.underlying9 rfl).to (v' := I 0) rfl) rfl rfl rfl ?_
 refine WL.q (oq_move rfl) rfl rfl rfl ?_
 refine WL.q ((oq_len_s Tryd.underlying9 rfl).to (v' := I 27) rfl) rfl rfl rfl ?_
 refine WL.q (oq_move rfl) rfl rfl rfl ?_
 refine WL.q ((oq_len_s Tryd.underlying9 rfl).to (v' := I 24) rfl) rfl rfl rfl ?_
 refine WL.q ((oq_sub rfl rfl (by rw [i64_lo, i64_hi]; omega)).to (v' := I 3) rfl) rfl rfl rfl ?_
 refine WL.q ((oq_slice_s2 Tryd.underlying9 rfl rfl rfl (by first | decide | simp)).to (v' := S [77, 111, 110]) rfl) rfl rfl rfl ?_
 refine WL.q (oq_assign rfl) rfl rfl rfl ?_
 refine WL.nil (WE.then_normal (WC.seq (WC.region ?_)))
 refine WL.q (oq_move rfl) rfl rfl rfl ?_
 refine WL.q (oq_move rfl) rfl rfl rfl ?_
 refine WL.qc (oq_callRm (skipY hE [(wb w 0), (wb w 1), (wb w 2), 32, (mb mo 0), (mb mo 1), (mb mo 2), 32, (hi d), (lo d), 32, (hi hh), (lo hh), 58, (hi mm), (lo mm), 58, (hi ss), (lo ss), 32, (hi (y / 100)), (lo (y / 100)), (hi (y % 100)), (lo (y % 100))] [] [(wb w 0), (wb w 1), (wb w 2), 32, (mb mo 0), (mb mo 1), (mb mo 2), 32, (hi d), (lo d), 32, (hi hh), (lo hh), 58, (hi mm), (lo mm), 58, (hi ss), (lo ss), 32, (hi (y / 100)), (lo (y / 100)), (hi (y % 100)), (lo (y % 100))] (by simp) (by simp) (by simp +decide [skipM, cutsp, hi_ne, lo_ne, mb_ne mo hmo])) (.tail _ (.head _)) call36 rfl) rfl rfl rfl ?_
 refine WL.q (oq_move rfl) rfl rfl rfl ?_
 refine WL.q (oq_extract rfl rfl) rfl rfl rfl ?_
 refine WL.q (oq_extract rfl rfl) rfl rfl rfl ?_
 refine WL.q (oq_assign rfl) rfl rfl rfl ?_
 refine WL.q (oq_assign rfl) rfl rfl rfl ?_
 refine WL.nil (WE.then_normal (WC.seq (WC.seq (WC.region ?_))))
 refine WL.q (oq_move rfl) rfl rfl rfl ?_
 refine WL.q ((oq_ineq Tryd.underlying39 rfl (.inl rfl)).to (v' := .bool false) rfl) rfl rfl rfl ?_
 refine WL.nil (WE.then_normal ?_)
 refine WC.cond_f rfl ?_
 refine WC.skip (WE.then_normal (WC.seq (WC.seq (WC.region ?_))))
 refine WL.q (oq_move rfl) rfl rfl rfl ?_
 refine WL.q ((oq_eql rfl rfl).to (v' := .bool false) (congrArg Value.bool (decide_eq_false (by omega)))) rfl rfl rfl ?_
 refine WL.nil (WE.then_normal ?_)
 refine WC.cond_f rfl ?_
 refine WC.skip (WE.then_normal (WC.seq (WC.region ?_)))
 refine WL.q (oq_move rfl) rfl rfl rfl ?_
 refine WL.q (oq_assign rfl) rfl rfl rfl ?_
 refine WL.nil (WE.then_normal (WC.seq (WC.region ?_)))
 refine WL.q (oq_assign rfl) rfl rfl rfl ?_
 refine WL.nil (WE.then_normal (WC.seq (WC.region ?_)))
 refine WL.q (oq_move rfl) rfl rfl rfl ?_
 refine WL.q (oq_assign rfl) rfl rfl rfl ?_
 refine WL.nil (WE.then_normal (WC.seq (WC.seq (WC.region ?_))))
 refine WL.q (oq_move rfl) rfl rfl rfl ?_
 refine WL.q ((oq_bits (op := .and) rfl rfl (by simp)).to (v' := I 262) (by kernel_rfl)) rfl rfl rfl ?_
 refine WL.nil (WE.then_normal (WC.block (WC.seq (WC.block (WC.seq (WC.block (WC.seq (WC.block (WC.seq (WC.block (WC.seq (WC.block (WC.seq (WC.block (WC.seq (WC.block (WC.seq (WC.block (WC.seq (WC.block (WC.seq (WC.block (WC.seq (WC.block (WC.seq (WC.block (WC.seq (WC.block (WC.seq (WC.block (WC.seq (WC.block (WC.seq (WC.block (WC.seq (WC.block (WC.seq (WC.block (WC.seq (WC.block (WC.seq (WC.block (WC.seq (WC.seq (WC.seq (WC.region ?_))))))))))))))))))))))))))))))))))))))))))))))
 refine WL.q ((oq_eql rfl rfl).to (v' := .bool false) (congrArg Value.bool (decide_eq_false (by omega)))) rfl rfl rfl ?_
 refine WL.q (oq_assign rfl) rfl rfl rfl ?_
 refine WL.nil (WE.then_normal (WC.sub (fr' := [(0, _), (1, _), (4, _), (6, _), (7, _), (8, _), (9, _), (10, _), (11, _), (12, _), (13, _), (14, _), (15, _), (16, _), (17, _), (18, _), (19, _), (20, _), (21, _), (22, _), (24, _), (26, _), (28, _), (91, _), (92, _)]) ?_ ⟨rfl, rfl, rfl, rfl, rfl, rfl, rfl, rfl, rfl, rfl, rfl, rfl, rfl, rfl, rfl, rfl, rfl, rfl, rfl, rfl, rfl, rfl, rfl, rfl, rfl, trivial⟩))
 refine WC.cond_f rfl ?_
 refine WC.skip (WE.then_normal (WC.seq (WC.seq (WC.region ?_))))
 refine WL.q ((oq_eql rfl rfl).to (v' := .bool false) (congrArg Value.bool (decide_eq_false (by omega)))) rfl rfl rfl ?_
 refine WL.q (oq_assign rfl) rfl rfl rfl ?_
 refine WL.nil (WE.then_normal ?_)
 refine WC.cond_f rfl ?_
 refine WC.skip (WE.then_normal (WC.seq (WC.seq (WC.region ?_))))
 refine WL.q ((oq_eql rfl rfl).to (v' := .bool false) (congrArg Value.bool (decide_eq_false (by omega)))) rfl rfl rfl ?_
 refine WL.q (oq_assign rfl) rfl rfl rfl ?_
 refine WL.nil (WE.then_normal ?_)
 refine WC.cond_f rfl ?_
 refine WC.skip (WE.then_normal (WC.seq (WC.seq (WC.region ?_))))
 refine WL.q ((oq_eql rfl rfl).to (v' := .bool false) (congrArg Value.bool (decide_eq_false (by omega)))) rfl rfl rfl ?_
 refine WL.q (oq_assign rfl) rfl rfl rfl ?_
 refine WL.nil (WE.then_normal ?_)
 refine WC.cond_f rfl ?_
 refine WC.skip (WE.then_normal (WC.seq (WC.seq (WC.seq (WC.region ?_)))))
 refine WL.q ((oq_eql rfl rfl).to (v' := .bool false) (congrArg Value.bool (decide_eq_false (by omega)))) rfl rfl rfl ?_
 refine WL.q (oq_assign rfl) rfl rfl rfl ?_
 refine WL.nil (WE.then_normal ?_)
 refine WC.cond_f rfl ?_
 refine WC.region ?_
 refine WL.q ((oq_eql rfl rfl).to (v' := .bool false) (congrArg Value.bool (decide_eq_false (by omega)))) rfl rfl rfl ?_
 refine WL.q (oq_assign rfl) rfl rfl rfl ?_
 refine WL.nil (WE.then_normal ?_)
 refine WC.cond_f rfl ?_
 refine WC.skip (WE.then_normal (WC.seq (WC.seq (WC.region ?_))))
 refine WL.q ((oq_eql rfl rfl).to (v' := .bool true) (congrArg Value.bool (decide_eq_true (by omega)))) rfl rfl rfl ?_
 refine WL.q (oq_assign rfl) rfl rfl rfl ?_
 refine WL.nil (WE.then_normal ?_)
 refine WC.cond_t rfl ?_
 refine WC.exit (WE.then_exit (WE.then_exit ?_))
 refine WE.block_other rfl ?_
 refine WE.then_exit ?_
 refine WE.block_other rfl ?_
 refine WE.then_exit ?_
 refine WE.block_other rfl ?_
 refine WE.then_exit ?_
 refine WE.block_other rfl ?_
 refine WE.then_exit ?_
 refine WE.block_other rfl ?_
 refine WE.then_exit (WE.block_same (WE.then_normal (WC.seq (WC.region ?_))))
 refine WL.callA0 (dayNames) call42 rfl rfl rfl fun v83_0 N83_0 hR83_0 hN83_0 => ?_
 have hR83_0 : RdS 1 v83_0 N83_0 7 (strsV week) := hR83_0
 refine WL.q (oq_move rfl) rfl rfl rfl ?_
 refine WL.qc (oq_callRm (lookupY v83_0 N83_0 week [(wb w 0), (wb w 1), (wb w 2), 32, (mb mo 0), (mb mo 1), (mb mo 2), 32, (hi d), (lo d), 32, (hi hh), (lo hh), 58, (hi mm), (lo mm), 58, (hi ss), (lo ss), 32, (hi (y / 100)), (lo (y / 100)), (hi (y % 100)), (lo (y % 100))] hR83_0 (by decide) (by simp) w _ (look_week w hw _)) (.head _) call39 rfl) rfl rfl rfl ?_
 refine WL.q (oq_move rfl) rfl rfl rfl ?_
 refine WL.q (oq_extract rfl rfl) rfl rfl rfl ?_
 refine WL.q (oq_extract rfl rfl) rfl rfl rfl ?_
 refine WL.q (oq_extract rfl rfl) rfl rfl rfl ?_
 refine WL.q (oq_assign rfl) rfl rfl rfl ?_
 refine WL.q (oq_assign rfl) rfl rfl rfl ?_
 refine WL.nil (WE.then_normal (WC.exit ?_))
 refine WE.block_other rfl ?_
 refine WE.then_exit ?_
 refine WE.block_other rfl ?_
 refine WE.then_exit ?_
 refine WE.block_other rfl ?_
 refine WE.then_exit ?_
 refine WE.block_other rfl ?_
 refine WE.then_exit ?_
 refine WE.block_other rfl ?_
 refine WE.then_exit ?_
 refine WE.block_other rfl ?_
 refine WE.then_exit ?_
 refine WE.block_other rfl ?_
 refine WE.then_exit ?_
 refine WE.block_other rfl ?_
 refine WE.then_exit ?_
 refine WE.block_other rfl ?_
 refine WE.then_exit ?_
 refine WE.block_other rfl ?_
 refine WE.then_exit ?_
 refine WE.block_other rfl ?_
 refine WE.then_exit ?_
 refine WE.block_other rfl ?_
 refine WE.then_exit ?_
 refine WE.block_other rfl ?_
 refine WE.then_exit ?_
 refine WE.block_other rfl ?_
 refine WE.then_exit (WE.block_same (WE.then_normal (WC.seq (WC.seq (WC.region ?_)))))
 refine WL.q (oq_move rfl) rfl rfl rfl ?_
 refine WL.q ((oq_sneq rfl rfl).to (v' := .bool false) (by kernel_rfl)) rfl rfl rfl ?_
 refine WL.nil (WE.then_normal ?_)
 refine WC.cond_f rfl ?_
 refine WC.skip (WE.then_normal (WC.seq (WC.region ?_)))
 refine WL.q (oq_move rfl) rfl rfl rfl ?_
 refine WL.q ((oq_ineq Tryd.underlying39 rfl (.inl rfl)).to (v' := .bool false) rfl) rfl rfl rfl ?_
 refine WL.nil (WE.then_normal ?_)
 refine WC.cond_f rfl ?_
 refine WC.skip (WE.block_normal ?_)
 refine WE.forget hN83_0 ?_
 refine WE.round ?_
 refine WC.sub (fr' := [(0, _), (1, _), (4, _), (6, _), (7, _), (8, _), (9, _), (10, _), (11, _), (12, _), (13, _), (14, _), (15, _), (16, _), (17, _), (18, _), (19, _), (20, _), (21, _)]) ?_ ⟨rfl, rfl, rfl, rfl, rfl, rfl, rfl, rfl, rfl, rfl, rfl, rfl, rfl, rfl, rfl, rfl, rfl, rfl, rfl, trivial⟩
 refine WC.block (WC.seq (WC.region ?_))
 refine WL.q (oq_assign rfl) rfl rfl rfl ?_
 refine WL.nil (WE.then_normal (WC.seq (WC.region ?_)))
 refine WL.q (oq_move rfl) rfl rfl rfl ?_
 refine WL.qc (oq_callRm (ch27 G hT) (.tail _ (.head _)) call35 rfl) rfl rfl rfl ?_
 refine WL.q (oq_move rfl) rfl rfl rfl ?_
 refine WL.q (oq_extract rfl rfl) rfl rfl rfl ?_
 refine WL.q (oq_extract rfl rfl) rfl rfl rfl ?_
 refine WL.q (oq_extract rfl rfl) rfl rfl rfl ?_
 refine WL.q (oq_assign rfl) rfl rfl rfl ?_
 refine WL.q (oq_assign rfl) rfl rfl rfl ?_
 refine WL.q (oq_assign rfl) rfl rfl rfl ?_
 refine WL.nil (WE.then_normal (WC.seq (WC.region ?_)))
 refine WL.q (oq_move rfl) rfl rfl rfl ?_
 refine WL.q (oq_move rfl) rfl rfl rfl ?_
 refine WL.q ((oq_len_s Tryd.underlying9 rfl).to (v' := I 2) rfl) rfl rfl rfl ?_
 refine WL.q (oq_move rfl) rfl rfl rfl ?_
 refine WL.q ((oq_len_s Tryd.underlying9 rfl).to (v' := I 24) rfl) rfl rfl rfl ?_
 refine WL.q (oq_move rfl) rfl rfl rfl ?_
 refine WL.q ((oq_len_s Tryd.underlying9 rfl).to (v' := I 20) rfl) rfl rfl rfl ?_
 refine WL.q ((oq_sub rfl rfl (by rw [i64_lo, i64_hi]; omega)).to (v' := I 4) rfl) rfl rfl rfl ?_
 refine WL.q ((oq_slice_s2 Tryd.underlying9 rfl rfl rfl (by first | decide | simp)).to (v' := S [95, 50]) rfl) rfl rfl rfl ?_
 refine WL.q (oq_assign rfl) rfl rfl rfl ?_
 refine WL.nil (WE.then_normal (WC.seq (WC.region ?_)))
 refine WL.q (oq_move rfl) rfl rfl rfl ?_
 refine WL.q (oq_move rfl) rfl rfl rfl ?_
 refine WL.qc (oq_callRm (skipN hE [32, (mb mo 0), (mb mo 1), (mb mo 2), 32, (hi d), (lo d), 32, (hi hh), (lo hh), 58, (hi mm), (lo mm), 58, (hi ss), (lo ss), 32, (hi (y / 100)), (lo (y / 100)), (hi (y % 100)), (lo (y % 100))] [44, 32] [32, (mb mo 0), (mb mo 1), (mb mo 2), 32, (hi d), (lo d), 32, (hi hh), (lo hh), 58, (hi mm), (lo mm), 58, (hi ss), (lo ss), 32, (hi (y / 100)), (lo (y / 100)), (hi (y % 100)), (lo (y % 100))] (by simp) (by simp) (by simp +decide [skipM, cutsp, hi_ne, lo_ne, mb_ne mo hmo])) (.tail _ (.head _)) call36 rfl) rfl rfl rfl ?_
 refine WL.q (oq_move rfl) rfl rfl rfl ?_
 refine WL.q (oq_extract rfl rfl) rfl rfl rfl ?_
 refine WL.q (oq_extract rfl rfl) rfl rfl rfl ?_
 refine WL.q (oq_assign rfl) rfl rfl rfl ?_
 refine WL.q (oq_assign rfl) rfl rfl rfl ?_
 refine WL.nil (WE.then_normal (WC.seq (WC.seq (WC.region ?_))))
 refine WL.q (oq_move rfl) rfl rfl rfl ?_
 refine WL.q ((oq_ineq Tryd.underlying39 rfl (.inr ⟨_, _, rfl⟩)).to (v' := .bool true) rfl) rfl rfl rfl ?_
 refine WL.nil (WE.then_normal ?_)
 refine WC.cond_t rfl ?_
 refine WC.seq (WC.region ?_)
 refine WL.q (oq_build #[_, _, _, _] str37 ty37 rfl rfl) rfl rfl rfl ?_
 refine WL.q (oq_move rfl) rfl rfl rfl ?_
 refine WL.q (oq_move rfl) rfl rfl rfl ?_
 refine WL.q (oq_move rfl) rfl rfl rfl ?_
 refine WL.q (oq_move rfl) rfl rfl rfl ?_
 refine WL.callA0 (newPE _ _ _ _ _ (by simp)) call37 rfl rfl rfl fun v21_5 N21_5 hR21_5 hN21_5 => ?_
 obtain ⟨kE, uE, rfl⟩ := hR21_5
 refine WL.f1 ?_
 refine WL.storeS #[_, _, _, _] ty37 rfl rfl rfl rfl (Nat.le_of_ble_eq_true rfl) rfl rfl ?_
 refine WL.q (oq_assign rfl) rfl rfl rfl ?_
 refine WL.nil (WE.then_normal (WC.sub (fr' := [(4, _), (5, _)]) ?_ ⟨rfl, rfl, trivial⟩))
 refine WC.ret (WE.then_ret (WE.block_ret (WE.then_ret (WE.block_ret (WE.then_ret ?_)))))
 refine WE.endDA (.inl rfl) (rs2 Tryd.results27 (rv_cellS [_, _, _, _] agg37 ty37 rfl (.head _) (List.mem_singleton.2 rfl) rfl rfl) (rv_tmp rfl)) (dr_lose htb dr_refl) (hN21_5) ?_
 exact ⟨_, _, rfl⟩
set_option maxHeartbeats 20000000 in
theorem bad5b_4 (G : Hp) (k0 : TypeId) (u0 : Value) (hL : LT G k0 u0) (w : Nat) (hw : w < 7) (d mo y hh mm ss : Nat) (hmo : mo < 12) : FnA Tryd.prog 27 [S [77, 111, 110, 100, 97, 121, 44, 32, 48, 50, 45, 74, 97, 110, 45, 48, 54, 32, 49, 53, 58, 48, 52, 58, 48, 53, 32, 77, 83, 84], S [(wb w 0), (wb w 1), (wb w 2), 32, (mb mo 0), (mb mo 1), (mb mo 2), 32, (hi d), (lo d), 32, (hi hh), (lo hh), 58, (hi mm), (lo mm), 58, (hi ss), (lo ss), 32, (hi (y / 100)), (lo (y / 100)), (hi (y % 100)), (lo (y % 100))]] G (parseBad) := by
 obtain ⟨hE, hT, sv, ⟨tl, fl, hml⟩, hsv⟩ := hL
 refine FnA.enter (n := 852) Tryd.func27 rfl rfl fun w0 => ?_
 refine WC.sub (fr' := [(0, _), (1, _)]) ?_ ⟨rfl, rfl, trivial⟩
 refine WC.seq (WC.region ?_)
 refine WL.alloc ty37 rfl rfl fun tb htb => ?_
 refine WL.q (oq_assign rfl) rfl rfl rfl ?_
 refine WL.nil (WE.then_normal (WC.seq (WC.region ?_)))
 refine WL.q (oq_move rfl) rfl rfl rfl ?_
 refine WL.q (oq_move rfl) rfl rfl rfl ?_
 refine WL.q (oq_assign rfl) rfl rfl rfl ?_
 refine WL.q (oq_assign rfl) rfl rfl rfl ?_
 refine WL.nil (WE.then_normal (WC.seq (WC.region ?_)))
 refine WL.q (oq_assign rfl) rfl rfl rfl ?_
 refine WL.nil (WE.then_normal (WC.seq (WC.region ?_)))
 refine WL.q (oq_assign rfl) rfl rfl rfl ?_
 refine WL.nil (WE.then_normal (WC.seq (WC.region ?_)))
 refine WL.q (oq_assign rfl) rfl rfl rfl ?_
 refine WL.nil (WE.then_normal (WC.seq (WC.region ?_)))
 refine WL.q (oq_assign rfl) rfl rfl rfl ?_
 refine WL.nil (WE.then_normal (WC.seq (WC.region ?_)))
 refine WL.q (oq_assign rfl) rfl rfl rfl ?_
 refine WL.nil (WE.then_normal (WC.seq (WC.region ?_)))
 refine WL.q (oq_assign rfl) rfl rfl rfl ?_
 refine WL.nil (WE.then_normal (WC.seq (WC.region ?_)))
 refine WL.q (oq_assign rfl) rfl rfl rfl ?_
 refine WL.nil (WE.then_normal (WC.seq (WC.region ?_)))
 refine WL.q (oq_assign rfl) rfl rfl rfl ?_
 refine WL.nil (WE.then_normal (WC.seq (WC.region ?_)))
 refine WL.q (oq_assign rfl) rfl rfl rfl ?_
 refine WL.nil (WE.then_normal (WC.seq (WC.region ?_)))
 refine WL.q (oq_assign rfl) rfl rfl rfl ?_
 refine WL.nil (WE.then_normal (WC.seq (WC.region ?_)))
 refine WL.q (oq_assign rfl) rfl rfl rfl ?_
 refine WL.nil (WE.then_normal (WC.seq (WC.region ?_)))
 refine WL.q (oq_assign rfl) rfl rfl rfl ?_
 refine WL.nil (WE.then_normal (WC.seq (WC.region ?_)))
 refine WL.q (oq_assign rfl) rfl rfl rfl ?_
 refine WL.nil (WE.then_normal (WC.seq (WC.region ?_)))
 refine WL.q (oq_assign rfl) rfl rfl rfl ?_
 refine WL.nil (WE.then_normal (WC.seq (WC.block ?_)))
 refine WC.unroll ?_
 refine WC.block (WC.seq (WC.region ?_))
 refine WL.q (oq_assign rfl) rfl rfl rfl ?_
 refine WL.nil (WE.then_normal (WC.seq (WC.region ?_)))
 refine WL.q (oq_move rfl) rfl rfl rfl ?_
 refine WL.qc (oq_callRm (ch8 G hT) (.tail _ (.head _)) call35 rfl) rfl rfl rfl ?_
 refine WL.q (oq_move rfl) rfl rfl rfl ?_
 refine WL.q (oq_extract rfl rfl) rfl rfl rfl ?_
 refine WL.q (oq_extract rfl rfl) rfl rfl rfl ?_
 refine WL.q (oq_extract rfl rfl) rfl rfl rfl ?_
 refine WL.q (oq_assign rfl) rfl rfl rfl ?_
 refine WL.q (oq_assign rfl) rfl rfl rfl ?_
 refine WL.q (oq_assign rfl) rfl rfl rfl ?_
 refine WL.nil (WE.then_normal (WC.seq (WC.region ?_)))
 refine WL.q (oq_move rfl) rfl rfl rfl ?_
 refine WL.q (oq_move rfl) rfl rfl rfl ?_
 refine WL.q ((oq_len_s Tryd.underlying9 rfl).to (v' := I 0) rfl) rfl rfl rfl ?_
 refine WL.q (oq_move rfl) rfl rfl rfl ?_
 refine WL.q ((oq_len_s Tryd.underlying9 rfl).to (v' := I 30) rfl) rfl rfl rfl ?_
 refine WL.q (oq_move rfl) rfl rfl rfl ?_
 refine WL.q ((oq_len_s Tryd.underlying9 rfl).to (v' := I 24) rfl) rfl rfl rfl ?_
 refine WL.q ((oq_sub rfl rfl (by rw [i64_lo, i64_hi]; omega)).to (v' := I 6) rfl) rfl rfl rfl ?_
 refine WL.q ((oq_slice_s2 Tryd.underlying9 rfl rfl rfl (by first | decide | simp)).to (v' := S [77, 111, 110, 100, 97, 121]) rfl) rfl rfl rfl ?_
 refine WL.q (oq_assign rfl) rfl rfl rfl ?_
 refine WL.nil (WE.then_normal (WC.seq (WC.region ?_)))
 refine WL.q (oq_move rfl) rfl rfl rfl ?_
 refine WL.q (oq_move rfl) rfl rfl rfl ?_
 refine WL.qc (oq_callRm (skipY hE [(wb w 0), (wb w 1), (wb w 2), 32, (mb mo 0), (mb mo 1), (mb mo 2), 32, (hi d), (lo d), 32, (hi hh), (lo hh), 58, (hi mm), (lo mm), 58, (hi ss), (lo ss), 32, (hi (y / 100)), (lo (y / 100)), (hi (y % 100)), (lo (y % 100))] [] [(wb w 0), (wb w 1), (wb w 2), 32, (mb mo 0), (mb mo 1), (mb mo 2), 32, (hi d), (lo d), 32, (hi hh), (lo hh), 58, (hi mm), (lo mm), 58, (hi ss), (lo ss), 32, (hi (y / 100)), (lo (y / 100)), (hi (y % 100)), (lo (y % 100))] (by simp) (by simp) (by simp +decide [skipM, cutsp, hi_ne, lo_ne, mb_ne mo hmo])) (.tail _ (.head _)) call36 rfl) rfl rfl rfl ?_
 refine WL.q (oq_move rfl) rfl rfl rfl ?_
 refine WL.q (oq_extract rfl rfl) rfl rfl rfl ?_
 refine WL.q (oq_extract rfl rfl) rfl rfl rfl ?_
 refine WL.q (oq_assign rfl) rfl rfl rfl ?_
 refine WL.q (oq_assign rfl) rfl rfl rfl ?_
 refine WL.nil (WE.then_normal (WC.seq (WC.seq (WC.region ?_))))
 refine WL.q (oq_move rfl) rfl rfl rfl ?_
 refine WL.q ((oq_ineq Tryd.underlying39 rfl (.inl rfl)).to (v' := .bool false) rfl) rfl rfl rfl ?_
 refine WL.nil (WE.then_normal ?_)
 refine WC.cond_f rfl ?_
 refine WC.skip (WE.then_normal (WC.seq (WC.seq (WC.region ?_))))
 refine WL.q (oq_move rfl) rfl rfl rfl ?_
 refine WL.q ((oq_eql rfl rfl).to (v' := .bool false) (congrArg Value.bool (decide_eq_false (by omega)))) rfl rfl rfl ?_
 refine WL.nil (WE.then_normal ?_)
 refine WC.cond_f rfl ?_
 refine WC.skip (WE.then_normal (WC.seq (WC.region ?_)))
 refine WL.q (oq_move rfl) rfl rfl rfl ?_
 refine WL.q (oq_assign rfl) rfl rfl rfl ?_
 refine WL.nil (WE.then_normal (WC.seq (WC.region ?_)))
 refine WL.q (oq_assign rfl) rfl rfl rfl ?_
 refine WL.nil (WE.then_normal (WC.seq (WC.region ?_)))
 refine WL.q (oq_move rfl) rfl rfl rfl ?_
 refine WL.q (oq_assign rfl) rfl rfl rfl ?_
 refine WL.nil (WE.then_normal (WC.seq (WC.seq (WC.region ?_))))
 refine WL.q (oq_move rfl) rfl rfl rfl ?_
 refine WL.q ((oq_bits (op := .and) rfl rfl (by simp)).to (v' := I 261) (by kernel_rfl)) rfl rfl rfl ?_
 refine WL.nil (WE.then_normal (WC.block (WC.seq (WC.block (WC.seq (WC.block (WC.seq (WC.block (WC.seq (WC.block (WC.seq (WC.block (WC.seq (WC.block (WC.seq (WC.block (WC.seq (WC.block (WC.seq (WC.block (WC.seq (WC.block (WC.seq (WC.block (WC.seq (WC.block (WC.seq (WC.block (WC.seq (WC.block (WC.seq (WC.block (WC.seq (WC.block (WC.seq (WC.block (WC.seq (WC.block (WC.seq (WC.block (WC.seq (WC.block (WC.seq (WC.seq (WC.seq (WC.region ?_))))))))))))))))))))))))))))))))))))))))))))))
 refine WL.q ((oq_eql rfl rfl).to (v' := .bool false) (congrArg Value.bool (decide_eq_false (by omega)))) rfl rfl rfl ?_
 refine WL.q (oq_assign rfl) rfl rfl rfl ?_
 refine WL.nil (WE.then_normal (WC.sub (fr' := [(0, _), (1, _), (4, _), (6, _), (7, _), (8, _), (9, _), (10, _), (11, _), (12, _), (13, _), (14, _), (15, _), (16, _), (17, _), (18, _), (19, _), (20, _), (21, _), (22, _), (24, _), (26, _), (28, _), (91, _), (92, _)]) ?_ ⟨rfl, rfl, rfl, rfl, rfl, rfl, rfl, rfl, rfl, rfl, rfl, rfl, rfl, rfl, rfl, rfl, rfl, rfl, rfl, rfl, rfl, rfl, rfl, rfl, rfl, trivial⟩))
 refine WC.cond_f rfl ?_
 refine WC.skip (WE.then_normal (WC.seq (WC.seq (WC.region ?_))))
 refine WL.q ((oq_eql rfl rfl).to (v' := .bool false) (congrArg Value.bool (decide_eq_false (by omega)))) rfl rfl rfl ?_
 refine WL.q (oq_assign rfl) rfl rfl rfl ?_
 refine WL.nil (WE.then_normal ?_)
 refine WC.cond_f rfl ?_
 refine WC.skip (WE.then_normal (WC.seq (WC.seq (WC.region ?_))))
 refine WL.q ((oq_eql rfl rfl).to (v' := .bool false) (congrArg Value.bool (decide_eq_false (by omega)))) rfl rfl rfl ?_
 refine WL.q (oq_assign rfl) rfl rfl rfl ?_
 refine WL.nil (WE.then_normal ?_)
 refine WC.cond_f rfl ?_
 refine WC.skip (WE.then_normal (WC.seq (WC.seq (WC.region ?_))))
 refine WL.q ((oq_eql rfl rfl).to (v' := .bool false) (congrArg Value.bool (decide_eq_false (by omega)))) rfl rfl rfl ?_
 refine WL.q (oq_assign rfl) rfl rfl rfl ?_
 refine WL.nil (WE.then_normal ?_)
 refine WC.cond_f rfl ?_
 refine WC.skip (WE.then_normal (WC.seq (WC.seq (WC.seq (WC.region ?_)))))
 refine WL.q ((oq_eql rfl rfl).to (v' := .bool false) (congrArg Value.bool (decide_eq_false (by omega)))) rfl rfl rfl ?_
 refine WL.q (oq_assign rfl) rfl rfl rfl ?_
 refine WL.nil (WE.then_normal ?_)
 refine WC.cond_f rfl ?_
 refine WC.region ?_
 refine WL.q ((oq_eql rfl rfl).to (v' := .bool false) (congrArg Value.bool (decide_eq_false (by omega)))) rfl rfl rfl ?_
 refine WL.q (oq_assign rfl) rfl rfl rfl ?_
 refine WL.nil (WE.then_normal ?_)
 refine WC.cond_f rfl ?_
 refine WC.skip (WE.then_normal (WC.seq (WC.seq (WC.region ?_))))
 refine WL.q ((oq_eql rfl rfl).to (v' := .bool false) (congrArg Value.bool (decide_eq_false (by omega)))) rfl rfl rfl ?_
 refine WL.q (oq_assign rfl) rfl rfl rfl ?_
 refine WL.nil (WE.then_normal ?_)
 refine WC.cond_f rfl ?_
 refine WC.skip (WE.then_normal (WC.seq (WC.seq (WC.region ?_))))
 refine WL.q ((oq_eql rfl rfl).to (v' := .bool true) (congrArg Value.bool (decide_eq_true (by omega)))) rfl rfl rfl ?_
 refine WL.q (oq_assign rfl) rfl rfl rfl ?_
 refine WL.nil (WE.then_normal ?_)
 refine WC.cond_t rfl ?_
 refine WC.exit (WE.then_exit (WE.then_exit ?_))
 refine WE.block_other rfl ?_
 refine WE.then_exit ?_
 refine WE.block_other rfl ?_
 refine WE.then_exit ?_
 refine WE.block_other rfl ?_
 refine WE.then_exit ?_
 refine WE.block_other rfl ?_
 refine WE.then_exit ?_
 refine WE.block_other rfl ?_
 refine WE.then_exit ?_
 refine WE.block_other rfl ?_
 refine WE.then_exit (WE.block_same (WE.then_normal (WC.seq (WC.region ?_))))
 refine WL.q (oq_load flat33 rfl (.tail _ (.head _)) hml rfl) rfl rfl rfl ?_
 refine WL.q (oq_move rfl) rfl rfl rfl ?_
 refine WL.qc (oq_callRm (lookupN sv G fulls [(wb w 0), (wb w 1), (wb w 2), 32, (mb mo 0), (mb mo 1), (mb mo 2), 32, (hi d), (lo d), 32, (hi hh), (lo hh), 58, (hi mm), (lo mm), 58, (hi ss), (lo ss), 32, (hi (y / 100)), (lo (y / 100)), (hi (y % 100)), (lo (y % 100))] hsv (by decide) (by simp) k0 u0 hE (look_none w hw _)) (.tail _ (.head _)) call39 rfl) rfl rfl rfl ?_
 refine WL.q (oq_move rfl) rfl rfl rfl ?_
 refine WL.q (oq_extract rfl rfl) rfl rfl rfl ?_
 refine WL.q (oq_extract rfl rfl) rfl rfl rfl ?_
 refine WL.q (oq_extract rfl rfl) rfl rfl rfl ?_
 refine WL.q (oq_assign rfl) rfl rfl rfl ?_
 refine WL.q (oq_assign rfl) rfl rfl rfl ?_
 refine WL.nil (WE.then_normal (WC.exit ?_))
 refine WE.block_other rfl ?_
 refine WE.then_exit ?_
 refine WE.block_other rfl ?_
 refine WE.then_exit ?_
 refine WE.block_other rfl ?_
 refine WE.then_exit ?_
 refine WE.block_other rfl ?_
 refine WE.then_exit ?_
 refine WE.block_other rfl ?_
 refine WE.then_exit ?_
 refine WE.block_other rfl ?_
 refine WE.then_exit ?_
 refine WE.block_other rfl ?_
 refine WE.then_exit ?_
 refine WE.block_other rfl ?_
 refine WE.then_exit ?_
 refine WE.block_other rfl ?_
 refine WE.then_exit ?_
 refine WE.block_other rfl ?_
 refine WE.then_exit ?_
 refine WE.block_other rfl ?_
 refine WE.then_exit ?_
 refine WE.block_other rfl ?_
 refine WE.then_exit ?_
 refine WE.block_other rfl ?_
 refine WE.then_exit (WE.block_same (WE.then_normal (WC.seq (WC.seq (WC.region ?_)))))
 refine WL.q (oq_move rfl) rfl rfl rfl ?_
 refine WL.q ((oq_sneq rfl rfl).to (v' := .bool false) (by kernel_rfl)) rfl rfl rfl ?_
 refine WL.nil (WE.then_normal ?_)
 refine WC.cond_f rfl ?_
 refine WC.skip (WE.then_normal (WC.seq (WC.region ?_)))
 refine WL.q (oq_move rfl) rfl rfl rfl ?_
 refine WL.q ((oq_ineq Tryd.underlying39 rfl (.inr ⟨_, _, rfl⟩)).to (v' := .bool true) rfl) rfl rfl rfl ?_
 refine WL.nil (WE.then_normal ?_)
 refine WC.cond_t rfl ?_
 refine WC.seq (WC.region ?_)
 refine WL.q (oq_build #[_, _, _, _] str37 ty37 rfl rfl) rfl rfl rfl ?_
 refine WL.q (oq_move rfl) rfl rfl rfl ?_
 refine WL.q (oq_move rfl) rfl rfl rfl ?_
 refine WL.q (oq_move rfl) rfl rfl rfl ?_
 refine WL.q (oq_move rfl) rfl rfl rfl ?_
 refine WL.callA0 (newPE _ _ _ _ _ (by simp)) call37 rfl rfl rfl fun v200_5 N200_5 hR200_5 hN200_5 => ?_
 obtain ⟨kE, uE, rfl⟩ := hR200_5
 refine WL.f1 ?_
 refine WL.storeS #[_, _, _, _] ty37 rfl rfl rfl rfl (Nat.le_of_ble_eq_true rfl) rfl rfl ?_
 refine WL.q (oq_assign rfl) rfl rfl rfl ?_
 refine WL.nil (WE.then_normal (WC.ret (WE.block_ret (WE.then_ret (WE.block_ret (WE.then_ret ?_))))))
 refine WE.endDA (.inl rfl) (rs2 Tryd.results27 (rv_cellS [_, _, _, _] agg37 ty37 rfl (.head _) (List.mem_singleton.2 rfl) rfl rfl) (rv_tmp rfl)) (dr_lose htb dr_refl) (hN200_5) ?_
 exact ⟨_, _, rfl⟩
end U4
end Go.Proofs.YtcfhfdengfcfpaaDoor
/- The readers of dates. -/
namespace Go.Proofs.YtcfhfdengfcfpaaDoor
open Go Go.RowKit V T0 T1 T2 T4 T5 T7 T8 T9 U0 U1
set_option linter.unusedSimpArgs false
set_option linter.unusedVariables false
set_option maxRecDepth 10000
namespace U5
theorem call15 : Callable Tryd.prog 15 := ⟨_, Tryd.func15, rfl, by kernel_rfl⟩
theorem call16 : Callable Tryd.prog 16 := ⟨_, Tryd.func16, rfl, by kernel_rfl⟩
theorem call17 : Callable Tryd.prog 17 := ⟨_, Tryd.func17, rfl, by kernel_rfl⟩
theorem call19 : Callable Tryd.prog 19 := ⟨_, Tryd.func19, rfl, by kernel_rfl⟩
theorem call22 : Callable Tryd.prog 22 := ⟨_, Tryd.func22, rfl, by kernel_rfl⟩
theorem call24 : Callable Tryd.prog 24 := ⟨_, Tryd.func24, rfl, by kernel_rfl⟩
theorem call27 : Callable Tryd.prog 27 := ⟨_, Tryd.func27, rfl, by kernel_rfl⟩
theorem flat9 : Flat Tryd.prog 9 := ⟨_, Tryd.underlying9, by simp⟩
theorem ty9 : Ty Tryd.prog 9 (S []) 1 16 := ty_of (by kernel_rfl)
theorem ty37 : Ty Tryd.prog 37 (.agg #[(.int .i64 0), (.int .i32 0), (S []), (.int .i64 0)]) 4 40 := ty_of (by kernel_rfl)
theorem agg37 : Agg Tryd.prog 37 := agg_of Tryd.underlying37
def layouts : List (List UInt8) := [[77, 111, 110, 44, 32, 48, 50, 32, 74, 97, 110, 32, 50, 48, 48, 54, 32, 49, 53, 58, 48, 52, 58, 48, 53, 32, 71, 77, 84], [77, 111, 110, 44, 32, 95, 50, 32, 74, 97, 110, 32, 50, 48, 48, 54, 32, 49, 53, 58, 48, 52, 58, 48, 53, 32, 71, 77, 84], [77, 111, 110, 44, 32, 95, 50, 32, 74, 97, 110, 32, 48, 54, 32, 49, 53, 58, 48, 52, 58, 48, 53, 32, 71, 77, 84], [77, 111, 110, 100, 97, 121, 44, 32, 48, 50, 45, 74, 97, 110, 45, 48, 54, 32, 49, 53, 58, 48, 52, 58, 48, 53, 32, 77, 83, 84], [77, 111, 110, 32, 74, 97, 110, 32, 95, 50, 32, 49, 53, 58, 48, 52, 58, 48, 53, 32, 50, 48, 48, 54]]
def OkP (f : FuncId) (l v : List UInt8) (z : Value) (k0 : TypeId) (u0 : Value) : Prop := ∀ C, LT C k0 u0 → FnR Tryd.prog f [S l, S v] C (.tuple #[z, .nilIface])
def BadP (f : FuncId) (l v : List UInt8) (k0 : TypeId) (u0 : Value) : Prop := ∀ C, LT C k0 u0 → FnA Tryd.prog f [S l, S v] C parseBad
theorem pOk1 (G : Hp) (v : List UInt8) (s : Int) (zn : List UInt8) (h : FnR Tryd.prog 27 [S [77, 111, 110, 44, 32, 48, 50, 32, 74, 97, 110, 32, 50, 48, 48, 54, 32, 49, 53, 58, 48, 52, 58, 48, 53, 32, 71, 77, 84], S v] G (.tuple #[tmZ s 0 zn 0, .nilIface])) : FnR Tryd.prog 24 [S [77, 111, 110, 44, 32, 48, 50, 32, 74, 97, 110, 32, 50, 48, 48, 54, 32, 49, 53, 58, 48, 52, 58, 48, 53, 32, 71, 77, 84], S v] G (.tuple #[tmZ s 0 zn 0, .nilIface]) := by
 refine FnR.enter (n := 26) Tryd.func24 rfl rfl fun w0 => ?_
 refine WC.sub (fr' := [(0, _), (1, _)]) ?_ ⟨rfl, rfl, trivial⟩
 refine WC.seq (WC.region ?_)
 refine WL.alloc ty37 rfl rfl fun tb htb => ?_
 refine WL.q (oq_assign rfl) rfl rfl rfl ?_
 refine WL.nil (WE.then_normal (WC.sub (fr' := [(0, _), (1, _), (4, _)]) ?_ ⟨rfl, rfl, rfl, trivial⟩))
 refine WC.seq (WC.seq (WC.region ?_))
 refine WL.q (oq_move rfl) rfl rfl rfl ?_
 refine WL.q ((oq_seql rfl rfl).to (v' := .bool false) (by kernel_rfl)) rfl rfl rfl ?_
 refine WL.q (oq_move rfl) rfl rfl rfl ?_
 refine WL.q (oq_move rfl) rfl rfl rfl ?_
 refine WL.q ((oq_seql rfl rfl).to (v' := .bool false) (by kernel_rfl)) rfl rfl rfl ?_
 refine WL.q (oq_pick_f rfl rfl) rfl rfl rfl ?_
 refine WL.nil (WE.then_normal (WC.sub (fr' := [(0, _), (1, _), (4, _), (13, _)]) ?_ ⟨rfl, rfl, rfl, rfl, trivial⟩))
 refine WC.cond_f rfl ?_
 refine WC.skip (WE.then_normal (WC.sub (fr' := [(0, _), (1, _), (4, _)]) ?_ ⟨rfl, rfl, rfl, trivial⟩))
 refine WC.seq (WC.region ?_)
 refine WL.q (oq_move rfl) rfl rfl rfl ?_
 refine WL.q (oq_move rfl) rfl rfl rfl ?_
 refine WL.qc (oq_callRm (h) (.tail _ (.head _)) call27 rfl) rfl rfl rfl ?_
 refine WL.q (oq_extract rfl rfl) rfl rfl rfl ?_
 refine WL.q (oq_extract rfl rfl) rfl rfl rfl ?_
 refine WL.storeS #[_, _, _, _] ty37 rfl rfl rfl rfl (Nat.le_of_ble_eq_true rfl) rfl rfl ?_
 refine WL.q (oq_assign rfl) rfl rfl rfl ?_
 refine WL.nil (WE.then_normal (WC.sub (fr' := [(4, _), (5, _)]) ?_ ⟨rfl, rfl, trivial⟩))
 refine WC.ret ?_
 refine WE.endDR (.inl rfl) (rs2 Tryd.results24 (rv_cellS [_, _, _, _] agg37 ty37 rfl (.head _) (List.mem_singleton.2 rfl) rfl rfl) (rv_tmp rfl)) (dr_lose htb dr_refl) ?_
 rfl
theorem pOk4 (G : Hp) (v : List UInt8) (s : Int) (zn : List UInt8) (h : FnR Tryd.prog 27 [S [77, 111, 110, 100, 97, 121, 44, 32, 48, 50, 45, 74, 97, 110, 45, 48, 54, 32, 49, 53, 58, 48, 52, 58, 48, 53, 32, 77, 83, 84], S v] G (.tuple #[tmZ s 0 zn 0, .nilIface])) : FnR Tryd.prog 24 [S [77, 111, 110, 100, 97, 121, 44, 32, 48, 50, 45, 74, 97, 110, 45, 48, 54, 32, 49, 53, 58, 48, 52, 58, 48, 53, 32, 77, 83, 84], S v] G (.tuple #[tmZ s 0 zn 0, .nilIface]) := by
 refine FnR.enter (n := 26) Tryd.func24 rfl rfl fun w0 => ?_
 refine WC.sub (fr' := [(0, _), (1, _)]) ?_ ⟨rfl, rfl, trivial⟩
 refine WC.seq (WC.region ?_)
 refine WL.alloc ty37 rfl rfl fun tb htb => ?_
 refine WL.q (oq_assign rfl) rfl rfl rfl ?_
 refine WL.nil (WE.then_normal (WC.sub (fr' := [(0, _), (1, _), (4, _)]) ?_ ⟨rfl, rfl, rfl, trivial⟩))
 refine WC.seq (WC.seq (WC.region ?_))
 refine WL.q (oq_move rfl) rfl rfl rfl ?_
 refine WL.q ((oq_seql rfl rfl).to (v' := .bool false) (by kernel_rfl)) rfl rfl rfl ?_
 refine WL.q (oq_move rfl) rfl rfl rfl ?_
 refine WL.q (oq_move rfl) rfl rfl rfl ?_
 refine WL.q ((oq_seql rfl rfl).to (v' := .bool false) (by kernel_rfl)) rfl rfl rfl ?_
 refine WL.q (oq_pick_f rfl rfl) rfl rfl rfl ?_
 refine WL.nil (WE.then_normal (WC.sub (fr' := [(0, _), (1, _), (4, _), (13, _)]) ?_ ⟨rfl, rfl, rfl, rfl, trivial⟩))
 refine WC.cond_f rfl ?_
 refine WC.skip (WE.then_normal (WC.sub (fr' := [(0, _), (1, _), (4, _)]) ?_ ⟨rfl, rfl, rfl, trivial⟩))
 refine WC.seq (WC.region ?_)
 refine WL.q (oq_move rfl) rfl rfl rfl ?_
 refine WL.q (oq_move rfl) rfl rfl rfl ?_
 refine WL.qc (oq_callRm (h) (.tail _ (.head _)) call27 rfl) rfl rfl rfl ?_
 refine WL.q (oq_extract rfl rfl) rfl rfl rfl ?_
 refine WL.q (oq_extract rfl rfl) rfl rfl rfl ?_
 refine WL.storeS #[_, _, _, _] ty37 rfl rfl rfl rfl (Nat.le_of_ble_eq_true rfl) rfl rfl ?_
 refine WL.q (oq_assign rfl) rfl rfl rfl ?_
 refine WL.nil (WE.then_normal (WC.sub (fr' := [(4, _), (5, _)]) ?_ ⟨rfl, rfl, trivial⟩))
 refine WC.ret ?_
 refine WE.endDR (.inl rfl) (rs2 Tryd.results24 (rv_cellS [_, _, _, _] agg37 ty37 rfl (.head _) (List.mem_singleton.2 rfl) rfl rfl) (rv_tmp rfl)) (dr_lose htb dr_refl) ?_
 rfl
theorem pOk5 (G : Hp) (v : List UInt8) (s : Int) (zn : List UInt8) (h : FnR Tryd.prog 27 [S [77, 111, 110, 32, 74, 97, 110, 32, 95, 50, 32, 49, 53, 58, 48, 52, 58, 48, 53, 32, 50, 48, 48, 54], S v] G (.tuple #[tmZ s 0 zn 0, .nilIface])) : FnR Tryd.prog 24 [S [77, 111, 110, 32, 74, 97, 110, 32, 95, 50, 32, 49, 53, 58, 48, 52, 58, 48, 53, 32, 50, 48, 48, 54], S v] G (.tuple #[tmZ s 0 zn 0, .nilIface]) := by
 refine FnR.enter (n := 26) Tryd.func24 rfl rfl fun w0 => ?_
 refine WC.sub (fr' := [(0, _), (1, _)]) ?_ ⟨rfl, rfl, trivial⟩
 refine WC.seq (WC.region ?_)
 refine WL.alloc ty37 rfl rfl fun tb htb => ?_
 refine WL.q (oq_assign rfl) rfl rfl rfl ?_
 refine WL.nil (WE.then_normal (WC.sub (fr' := [(0, _), (1, _), (4, _)]) ?_ ⟨rfl, rfl, rfl, trivial⟩))
 refine WC.seq (WC.seq (WC.region ?_))
 refine WL.q (oq_move rfl) rfl rfl rfl ?_
 refine WL.q ((oq_seql rfl rfl).to (v' := .bool false) (by kernel_rfl)) rfl rfl rfl ?_
 refine WL.q (oq_move rfl) rfl rfl rfl ?_
 refine WL.q (oq_move rfl) rfl rfl rfl ?_
 refine WL.q ((oq_seql rfl rfl).to (v' := .bool false) (by kernel_rfl)) rfl rfl rfl ?_
 refine WL.q (oq_pick_f rfl rfl) rfl rfl rfl ?_
 refine WL.nil (WE.then_normal (WC.sub (fr' := [(0, _), (1, _), (4, _), (13, _)]) ?_ ⟨rfl, rfl, rfl, rfl, trivial⟩))
 refine WC.cond_f rfl ?_
 refine WC.skip (WE.then_normal (WC.sub (fr' := [(0, _), (1, _), (4, _)]) ?_ ⟨rfl, rfl, rfl, trivial⟩))
 refine WC.seq (WC.region ?_)
 refine WL.q (oq_move rfl) rfl rfl rfl ?_
 refine WL.q (oq_move rfl) rfl rfl rfl ?_
 refine WL.qc (oq_callRm (h) (.tail _ (.head _)) call27 rfl) rfl rfl rfl ?_
 refine WL.q (oq_extract rfl rfl) rfl rfl rfl ?_
 refine WL.q (oq_extract rfl rfl) rfl rfl rfl ?_
 refine WL.storeS #[_, _, _, _] ty37 rfl rfl rfl rfl (Nat.le_of_ble_eq_true rfl) rfl rfl ?_
 refine WL.q (oq_assign rfl) rfl rfl rfl ?_
 refine WL.nil (WE.then_normal (WC.sub (fr' := [(4, _), (5, _)]) ?_ ⟨rfl, rfl, trivial⟩))
 refine WC.ret ?_
 refine WE.endDR (.inl rfl) (rs2 Tryd.results24 (rv_cellS [_, _, _, _] agg37 ty37 rfl (.head _) (List.mem_singleton.2 rfl) rfl rfl) (rv_tmp rfl)) (dr_lose htb dr_refl) ?_
 rfl
theorem pBad1 (G : Hp) (v : List UInt8) (h : FnA Tryd.prog 27 [S [77, 111, 110, 44, 32, 48, 50, 32, 74, 97, 110, 32, 50, 48, 48, 54, 32, 49, 53, 58, 48, 52, 58, 48, 53, 32, 71, 77, 84], S v] G parseBad) : FnA Tryd.prog 24 [S [77, 111, 110, 44, 32, 48, 50, 32, 74, 97, 110, 32, 50, 48, 48, 54, 32, 49, 53, 58, 48, 52, 58, 48, 53, 32, 71, 77, 84], S v] G (parseBad) := by
 refine FnA.enter (n := 26) Tryd.func24 rfl rfl fun w0 => ?_
 refine WC.sub (fr' := [(0, _), (1, _)]) ?_ ⟨rfl, rfl, trivial⟩
 refine WC.seq (WC.region ?_)
 refine WL.alloc ty37 rfl rfl fun tb htb => ?_
 refine WL.q (oq_assign rfl) rfl rfl rfl ?_
 refine WL.nil (WE.then_normal (WC.sub (fr' := [(0, _), (1, _), (4, _)]) ?_ ⟨rfl, rfl, rfl, trivial⟩))
 refine WC.seq (WC.seq (WC.region ?_))
 refine WL.q (oq_move rfl) rfl rfl rfl ?_
 refine WL.q ((oq_seql rfl rfl).to (v' := .bool false) (by kernel_rfl)) rfl rfl rfl ?_
 refine WL.q (oq_move rfl) rfl rfl rfl ?_
 refine WL.q (oq_move rfl) rfl rfl rfl ?_
 refine WL.q ((oq_seql rfl rfl).to (v' := .bool false) (by kernel_rfl)) rfl rfl rfl ?_
 refine WL.q (oq_pick_f rfl rfl) rfl rfl rfl ?_
 refine WL.nil (WE.then_normal (WC.sub (fr' := [(0, _), (1, _), (4, _), (13, _)]) ?_ ⟨rfl, rfl, rfl, rfl, trivial⟩))
 refine WC.cond_f rfl ?_
 refine WC.skip (WE.then_normal (WC.sub (fr' := [(0, _), (1, _), (4, _)]) ?_ ⟨rfl, rfl, rfl, trivial⟩))
 refine WC.seq (WC.region ?_)
 refine WL.q (oq_move rfl) rfl rfl rfl ?_
 refine WL.q (oq_move rfl) rfl rfl rfl ?_
 refine WL.f1 ?_
 refine WL.callA (h) call27 rfl rfl rfl fun v5_2 N5_2 hR5_2 hN5_2 => ?_
 obtain ⟨kE, uE, rfl⟩ := hR5_2
 refine WL.q (oq_extract rfl rfl) rfl rfl rfl ?_
 refine WL.q (oq_extract rfl rfl) rfl rfl rfl ?_
 refine WL.f2 ?_
 refine WL.storeS #[_, _, _, _] ty37 rfl rfl rfl rfl (Nat.le_of_ble_eq_true rfl) rfl rfl ?_
 refine WL.q (oq_assign rfl) rfl rfl rfl ?_
 refine WL.nil (WE.then_normal (WC.sub (fr' := [(4, _), (5, _)]) ?_ ⟨rfl, rfl, trivial⟩))
 refine WC.ret ?_
 refine WE.endDA (.inl rfl) (rs2 Tryd.results24 (rv_cellS [_, _, _, _] agg37 ty37 rfl (.head _) (List.mem_singleton.2 rfl) rfl rfl) (rv_tmp rfl)) (dr_lose htb dr_refl) (hN5_2) ?_
 exact ⟨_, _, rfl⟩
theorem pBad2 (G : Hp) (v : List UInt8) (h : FnA Tryd.prog 27 [S [77, 111, 110, 44, 32, 95, 50, 32, 74, 97, 110, 32, 50, 48, 48, 54, 32, 49, 53, 58, 48, 52, 58, 48, 53, 32, 71, 77, 84], S v] G parseBad) : FnA Tryd.prog 24 [S [77, 111, 110, 44, 32, 95, 50, 32, 74, 97, 110, 32, 50, 48, 48, 54, 32, 49, 53, 58, 48, 52, 58, 48, 53, 32, 71, 77, 84], S v] G (parseBad) := by
 refine FnA.enter (n := 26) Tryd.func24 rfl rfl fun w0 => ?_
 refine WC.sub (fr' := [(0, _), (1, _)]) ?_ ⟨rfl, rfl, trivial⟩
 refine WC.seq (WC.region ?_)
 refine WL.alloc ty37 rfl rfl fun tb htb => ?_
 refine WL.q (oq_assign rfl) rfl rfl rfl ?_
 refine WL.nil (WE.then_normal (WC.sub (fr' := [(0, _), (1, _), (4, _)]) ?_ ⟨rfl, rfl, rfl, trivial⟩))
 refine WC.seq (WC.seq (WC.region ?_))
 refine WL.q (oq_move rfl) rfl rfl rfl ?_
 refine WL.q ((oq_seql rfl rfl).to (v' := .bool false) (by kernel_rfl)) rfl rfl rfl ?_
 refine WL.q (oq_move rfl) rfl rfl rfl ?_
 refine WL.q (oq_move rfl) rfl rfl rfl ?_
 refine WL.q ((oq_seql rfl rfl).to (v' := .bool false) (by kernel_rfl)) rfl rfl rfl ?_
 refine WL.q (oq_pick_f rfl rfl) rfl rfl rfl ?_
 refine WL.nil (WE.then_normal (WC.sub (fr' := [(0, _), (1, _), (4, _), (13, _)]) ?_ ⟨rfl, rfl, rfl, rfl, trivial⟩))
 refine WC.cond_f rfl ?_
 refine WC.skip (WE.then_normal (WC.sub (fr' := [(0, _), (1, _), (4, _)]) ?_ ⟨rfl, rfl, rfl, trivial⟩))
 refine WC.seq (WC.region ?_)
 refine WL.q (oq_move rfl) rfl rfl rfl ?_
 refine WL.q (oq_move rfl) rfl rfl rfl ?_
 refine WL.f1 ?_
 refine WL.callA (h) call27 rfl rfl rfl fun v5_2 N5_2 hR5_2 hN5_2 => ?_
 obtain ⟨kE, uE, rfl⟩ := hR5_2
 refine WL.q (oq_extract rfl rfl) rfl rfl rfl ?_
 refine WL.q (oq_extract rfl rfl) rfl rfl rfl ?_
 refine WL.f2 ?_
 refine WL.storeS #[_, _, _, _] ty37 rfl rfl rfl rfl (Nat.le_of_ble_eq_true rfl) rfl rfl ?_
 refine WL.q (oq_assign rfl) rfl rfl rfl ?_
 refine WL.nil (WE.then_normal (WC.sub (fr' := [(4, _), (5, _)]) ?_ ⟨rfl, rfl, trivial⟩))
 refine WC.ret ?_
 refine WE.endDA (.inl rfl) (rs2 Tryd.results24 (rv_cellS [_, _, _, _] agg37 ty37 rfl (.head _) (List.mem_singleton.2 rfl) rfl rfl) (rv_tmp rfl)) (dr_lose htb dr_refl) (hN5_2) ?_
 exact ⟨_, _, rfl⟩
theorem pBad3 (G : Hp) (v : List UInt8) (h : FnA Tryd.prog 27 [S [77, 111, 110, 44, 32, 95, 50, 32, 74, 97, 110, 32, 48, 54, 32, 49, 53, 58, 48, 52, 58, 48, 53, 32, 71, 77, 84], S v] G parseBad) : FnA Tryd.prog 24 [S [77, 111, 110, 44, 32, 95, 50, 32, 74, 97, 110, 32, 48, 54, 32, 49, 53, 58, 48, 52, 58, 48, 53, 32, 71, 77, 84], S v] G (parseBad) := by
 refine FnA.enter (n := 26) Tryd.func24 rfl rfl fun w0 => ?_
 refine WC.sub (fr' := [(0, _), (1, _)]) ?_ ⟨rfl, rfl, trivial⟩
 refine WC.seq (WC.region ?_)
 refine WL.alloc ty37 rfl rfl fun tb htb => ?_
 refine WL.q (oq_assign rfl) rfl rfl rfl ?_
 refine WL.nil (WE.then_normal (WC.sub (fr' := [(0, _), (1, _), (4, _)]) ?_ ⟨rfl, rfl, rfl, trivial⟩))
 refine WC.seq (WC.seq (WC.region ?_))
 refine WL.q (oq_move rfl) rfl rfl rfl ?_
 refine WL.q ((oq_seql rfl rfl).to (v' := .bool false) (by kernel_rfl)) rfl rfl rfl ?_
 refine WL.q (oq_move rfl) rfl rfl rfl ?_
 refine WL.q (oq_move rfl) rfl rfl rfl ?_
 refine WL.q ((oq_seql rfl rfl).to (v' := .bool false) (by kernel_rfl)) rfl rfl rfl ?_
 refine WL.q (oq_pick_f rfl rfl) rfl rfl rfl ?_
 refine WL.nil (WE.then_normal (WC.sub (fr' := [(0, _), (1, _), (4, _), (13, _)]) ?_ ⟨rfl, rfl, rfl, rfl, trivial⟩))
 refine WC.cond_f rfl ?_
 refine WC.skip (WE.then_normal (WC.sub (fr' := [(0, _), (1, _), (4, _)]) ?_ ⟨rfl, rfl, rfl, trivial⟩))
 refine WC.seq (WC.region ?_)
 refine WL.q (oq_move rfl) rfl rfl rfl ?_
 refine WL.q (oq_move rfl) rfl rfl rfl ?_
 refine WL.f1 ?_
 refine WL.callA (h) call27 rfl rfl rfl fun v5_2 N5_2 hR5_2 hN5_2 => ?_
 obtain ⟨kE, uE, rfl⟩ := hR5_2
 refine WL.q (oq_extract rfl rfl) rfl rfl rfl ?_
 refine WL.q (oq_extract rfl rfl) rfl rfl rfl ?_
 refine WL.f2 ?_
 refine WL.storeS #[_, _, _, _] ty37 rfl rfl rfl rfl (Nat.le_of_ble_eq_true rfl) rfl rfl ?_
 refine WL.q (oq_assign rfl) rfl rfl rfl ?_
 refine WL.nil (WE.then_normal (WC.sub (fr' := [(4, _), (5, _)]) ?_ ⟨rfl, rfl, trivial⟩))
 refine WC.ret ?_
 refine WE.endDA (.inl rfl) (rs2 Tryd.results24 (rv_cellS [_, _, _, _] agg37 ty37 rfl (.head _) (List.mem_singleton.2 rfl) rfl rfl) (rv_tmp rfl)) (dr_lose htb dr_refl) (hN5_2) ?_
 exact ⟨_, _, rfl⟩
theorem pBad4 (G : Hp) (v : List UInt8) (h : FnA Tryd.prog 27 [S [77, 111, 110, 100, 97, 121, 44, 32, 48, 50, 45, 74, 97, 110, 45, 48, 54, 32, 49, 53, 58, 48, 52, 58, 48, 53, 32, 77, 83, 84], S v] G parseBad) : FnA Tryd.prog 24 [S [77, 111, 110, 100, 97, 121, 44, 32, 48, 50, 45, 74, 97, 110, 45, 48, 54, 32, 49, 53, 58, 48, 52, 58, 48, 53, 32, 77, 83, 84], S v] G (parseBad) := by
 refine FnA.enter (n := 26) Tryd.func24 rfl rfl fun w0 => ?_
 refine WC.sub (fr' := [(0, _), (1, _)]) ?_ ⟨rfl, rfl, trivial⟩
 refine WC.seq (WC.region ?_)
 refine WL.alloc ty37 rfl rfl fun tb htb => ?_
 refine WL.q (oq_assign rfl) rfl rfl rfl ?_
 refine WL.nil (WE.then_normal (WC.sub (fr' := [(0, _), (1, _), (4, _)]) ?_ ⟨rfl, rfl, rfl, trivial⟩))
 refine WC.seq (WC.seq (WC.region ?_))
 refine WL.q (oq_move rfl) rfl rfl rfl ?_
 refine WL.q ((oq_seql rfl rfl).to (v' := .bool false) (by kernel_rfl)) rfl rfl rfl ?_
 refine WL.q (oq_move rfl) rfl rfl rfl ?_
 refine WL.q (oq_move rfl) rfl rfl rfl ?_
 refine WL.q ((oq_seql rfl rfl).to (v' := .bool false) (by kernel_rfl)) rfl rfl rfl ?_
 refine WL.q (oq_pick_f rfl rfl) rfl rfl rfl ?_
 refine WL.nil (WE.then_normal (WC.sub (fr' := [(0, _), (1, _), (4, _), (13, _)]) ?_ ⟨rfl, rfl, rfl, rfl, trivial⟩))
 refine WC.cond_f rfl ?_
 refine WC.skip (WE.then_normal (WC.sub (fr' := [(0, _), (1, _), (4, _)]) ?_ ⟨rfl, rfl, rfl, trivial⟩))
 refine WC.seq (WC.region ?_)
 refine WL.q (oq_move rfl) rfl rfl rfl ?_
 refine WL.q (oq_move rfl) rfl rfl rfl ?_
 refine WL.f1 ?_
 refine WL.callA (h) call27 rfl rfl rfl fun v5_2 N5_2 hR5_2 hN5_2 => ?_
 obtain ⟨kE, uE, rfl⟩ := hR5_2
 refine WL.q (oq_extract rfl rfl) rfl rfl rfl ?_
 refine WL.q (oq_extract rfl rfl) rfl rfl rfl ?_
 refine WL.f2 ?_
 refine WL.storeS #[_, _, _, _] ty37 rfl rfl rfl rfl (Nat.le_of_ble_eq_true rfl) rfl rfl ?_
 refine WL.q (oq_assign rfl) rfl rfl rfl ?_
 refine WL.nil (WE.then_normal (WC.sub (fr' := [(4, _), (5, _)]) ?_ ⟨rfl, rfl, trivial⟩))
 refine WC.ret ?_
 refine WE.endDA (.inl rfl) (rs2 Tryd.results24 (rv_cellS [_, _, _, _] agg37 ty37 rfl (.head _) (List.mem_singleton.2 rfl) rfl rfl) (rv_tmp rfl)) (dr_lose htb dr_refl) (hN5_2) ?_
 exact ⟨_, _, rfl⟩
set_option maxHeartbeats 2000000 in
theorem try1 (C : Hp) (k0 : TypeId) (u0 : Value) (hC : LT C k0 u0) (fs : Value) (hr : RdS 1 fs C 5 (strsV layouts)) (v : List UInt8) (s : Int) (zn : List UInt8) (hP : OkP 24 [77, 111, 110, 44, 32, 48, 50, 32, 74, 97, 110, 32, 50, 48, 48, 54, 32, 49, 53, 58, 48, 52, 58, 48, 53, 32, 71, 77, 84] v (tmZ s 0 zn 0) k0 u0) : FnR Tryd.prog 22 [S v, fs] C (.tuple #[tmZ s 0 zn 0, .nilIface]) := by
 refine FnR.enter (n := 28) Tryd.func22 rfl rfl fun w0 => ?_
 refine WC.sub (fr' := [(0, _), (1, _)]) ?_ ⟨rfl, rfl, trivial⟩
 refine WC.seq (WC.region ?_)
 refine WL.alloc ty37 rfl rfl fun rb hrb => ?_
 refine WL.q (oq_assign rfl) rfl rfl rfl ?_
 refine WL.nil (WE.then_normal (WC.seq (WC.seq (WC.region ?_))))
 refine WL.q (oq_move rfl) rfl rfl rfl ?_
 refine WL.q ((oq_len_rd hr Tryd.underlying33 rfl).to (v' := I 5) rfl) rfl rfl rfl ?_
 refine WL.q (oq_move rfl) rfl rfl rfl ?_
 refine WL.nil (WE.then_normal (WC.block ?_))
 refine WC.unroll ?_
 refine WC.seq (WC.region ?_)
 refine WL.q ((oq_lss rfl rfl).to (v' := .bool true) (congrArg Value.bool (decide_eq_true (by omega)))) rfl rfl rfl ?_
 refine WL.nil (WE.then_normal (WC.seq ?_))
 refine WC.cond_t rfl ?_
 refine WC.skip (WE.then_normal (WC.seq (WC.block (WC.seq (WC.region ?_)))))
 refine WL.q (oq_ixaddr hr Tryd.underlying33 ty9 rfl rfl (by decide)) rfl rfl rfl ?_
 refine WL.q ((oq_load_str hr (.tail _ (.head _)) flat9 rfl (by decide) rfl).to (v' := S [77, 111, 110, 44, 32, 48, 50, 32, 74, 97, 110, 32, 50, 48, 48, 54, 32, 49, 53, 58, 48, 52, 58, 48, 53, 32, 71, 77, 84]) rfl) rfl rfl rfl ?_
 refine WL.q (oq_assign rfl) rfl rfl rfl ?_
 refine WL.nil (WE.then_normal (WC.seq (WC.region ?_)))
 refine WL.q (oq_move rfl) rfl rfl rfl ?_
 refine WL.q (oq_move rfl) rfl rfl rfl ?_
 refine WL.qc (oq_callRm (hP C hC) (.tail _ (.head _)) call24 rfl) rfl rfl rfl ?_
 refine WL.q (oq_move rfl) rfl rfl rfl ?_
 refine WL.q (oq_extract rfl rfl) rfl rfl rfl ?_
 refine WL.q (oq_extract rfl rfl) rfl rfl rfl ?_
 refine WL.alloc ty37 rfl rfl fun b8 hb8 => ?_
 refine WL.storeS #[_, _, _, _] ty37 rfl rfl rfl rfl (Nat.le_of_ble_eq_true rfl) rfl rfl ?_
 refine WL.q (oq_assign rfl) rfl rfl rfl ?_
 refine WL.nil (WE.then_normal (WC.seq (WC.seq (WC.region ?_))))
 refine WL.q (oq_move rfl) rfl rfl rfl ?_
 refine WL.q ((oq_ineq Tryd.underlying39 rfl (.inl rfl)).to (v' := .bool false) rfl) rfl rfl rfl ?_
 refine WL.nil (WE.then_normal ?_)
 refine WC.cond_f rfl ?_
 refine WC.skip (WE.then_normal (WC.seq (WC.region ?_)))
 refine WL.q (oq_loadS [_, _, _, _] agg37 ty37 rfl (.head _) (List.mem_singleton.2 rfl) rfl rfl) rfl rfl rfl ?_
 refine WL.f1 ?_
 refine WL.storeS #[_, _, _, _] ty37 rfl rfl rfl rfl (Nat.le_of_ble_eq_true rfl) rfl rfl ?_
 refine WL.q (oq_assign rfl) rfl rfl rfl ?_
 refine WL.nil (WE.then_normal (WC.ret (WE.block_ret (WE.then_ret (WE.then_ret (WE.block_ret (WE.then_ret ?_)))))))
 refine WE.endDR (.inl rfl) (rs2 Tryd.results22 (rv_cellS [_, _, _, _] agg37 ty37 rfl (.head _) (List.mem_singleton.2 rfl) rfl rfl) (rv_tmp rfl)) (dr_lose hrb (dr_lose hb8 dr_refl)) ?_
 rfl
set_option maxHeartbeats 2000000 in
theorem try4 (C : Hp) (k0 : TypeId) (u0 : Value) (hC : LT C k0 u0) (fs : Value) (hr : RdS 1 fs C 5 (strsV layouts)) (v : List UInt8) (s : Int) (zn : List UInt8) (hP : OkP 24 [77, 111, 110, 100, 97, 121, 44, 32, 48, 50, 45, 74, 97, 110, 45, 48, 54, 32, 49, 53, 58, 48, 52, 58, 48, 53, 32, 77, 83, 84] v (tmZ s 0 zn 0) k0 u0) (hB1 : BadP 24 [77, 111, 110, 44, 32, 48, 50, 32, 74, 97, 110, 32, 50, 48, 48, 54, 32, 49, 53, 58, 48, 52, 58, 48, 53, 32, 71, 77, 84] v k0 u0) (hB2 : BadP 24 [77, 111, 110, 44, 32, 95, 50, 32, 74, 97, 110, 32, 50, 48, 48, 54, 32, 49, 53, 58, 48, 52, 58, 48, 53, 32, 71, 77, 84] v k0 u0) (hB3 : BadP 24 [77, 111, 110, 44, 32, 95, 50, 32, 74, 97, 110, 32, 48, 54, 32, 49, 53, 58, 48, 52, 58, 48, 53, 32, 71, 77, 84] v k0 u0) : FnR Tryd.prog 22 [S v, fs] C (.tuple #[tmZ s 0 zn 0, .nilIface]) := by
 refine FnR.enter (n := 28) Tryd.func22 rfl rfl fun w0 => ?_
 refine WC.sub (fr' := [(0, _), (1, _)]) ?_ ⟨rfl, rfl, trivial⟩
 refine WC.seq (WC.region ?_)
 refine WL.alloc ty37 rfl rfl fun rb hrb => ?_
 refine WL.q (oq_assign rfl) rfl rfl rfl ?_
 refine WL.nil (WE.then_normal (WC.seq (WC.seq (WC.region ?_))))
 refine WL.q (oq_move rfl) rfl rfl rfl ?_
 refine WL.q ((oq_len_rd hr Tryd.underlying33 rfl).to (v' := I 5) rfl) rfl rfl rfl ?_
 refine WL.q (oq_move rfl) rfl rfl rfl ?_
 refine WL.nil (WE.then_normal (WC.block ?_))
 refine WC.unroll ?_
 refine WC.seq (WC.region ?_)
 refine WL.q ((oq_lss rfl rfl).to (v' := .bool true) (congrArg Value.bool (decide_eq_true (by omega)))) rfl rfl rfl ?_
 refine WL.nil (WE.then_normal (WC.seq ?_))
 refine WC.cond_t rfl ?_
 refine WC.skip (WE.then_normal (WC.seq (WC.block (WC.seq (WC.region ?_)))))
 refine WL.q (oq_ixaddr hr Tryd.underlying33 ty9 rfl rfl (by decide)) rfl rfl rfl ?_
 refine WL.q ((oq_load_str hr (.tail _ (.head _)) flat9 rfl (by decide) rfl).to (v' := S [77, 111, 110, 44, 32, 48, 50, 32, 74, 97, 110, 32, 50, 48, 48, 54, 32, 49, 53, 58, 48, 52, 58, 48, 53, 32, 71, 77, 84]) rfl) rfl rfl rfl ?_
 refine WL.q (oq_assign rfl) rfl rfl rfl ?_
 refine WL.nil (WE.then_normal (WC.seq (WC.region ?_)))
 refine WL.q (oq_move rfl) rfl rfl rfl ?_
 refine WL.q (oq_move rfl) rfl rfl rfl ?_
 refine WL.f1 ?_
 refine WL.callA (hB1 C hC) call24 rfl rfl rfl fun v4_2 N4_2 hR4_2 hN4_2 => ?_
 obtain ⟨kE, uE, rfl⟩ := hR4_2
 refine WL.q (oq_move rfl) rfl rfl rfl ?_
 refine WL.q (oq_extract rfl rfl) rfl rfl rfl ?_
 refine WL.q (oq_extract rfl rfl) rfl rfl rfl ?_
 refine WL.alloc ty37 rfl rfl fun b8 hb8 => ?_
 refine WL.storeS #[_, _, _, _] ty37 rfl rfl rfl rfl (Nat.le_of_ble_eq_true rfl) rfl rfl ?_
 refine WL.q (oq_assign rfl) rfl rfl rfl ?_
 refine WL.nil (WE.then_normal (WC.seq (WC.seq (WC.region ?_))))
 refine WL.q (oq_move rfl) rfl rfl rfl ?_
 refine WL.q ((oq_ineq Tryd.underlying39 rfl (.inr ⟨_, _, rfl⟩)).to (v' := .bool true) rfl) rfl rfl rfl ?_
 refine WL.nil (WE.then_normal ?_)
 refine WC.cond_t rfl ?_
 refine WC.exit (WE.then_exit (WE.block_same (WE.then_normal (WC.region ?_))))
 refine WL.q ((oq_add rfl rfl (by rw [i64_lo, i64_hi]; omega)).to (v' := I 1) rfl) rfl rfl rfl ?_
 refine WL.q (oq_move rfl) rfl rfl rfl ?_
 refine WL.nil ?_
 refine WE.lose hb8 ?_
 refine WE.forget hN4_2 ?_
 refine WE.f1 ?_
 refine WE.round ?_
 refine WC.sub (fr' := [(0, _), (4, _), (10, _), (11, _), (12, _)]) ?_ ⟨rfl, rfl, rfl, rfl, rfl, trivial⟩
 refine WC.seq (WC.region ?_)
 refine WL.q ((oq_lss rfl rfl).to (v' := .bool true) (congrArg Value.bool (decide_eq_true (by omega)))) rfl rfl rfl ?_
 refine WL.nil (WE.then_normal (WC.seq ?_))
 refine WC.cond_t rfl ?_
 refine WC.skip (WE.then_normal (WC.seq (WC.block (WC.seq (WC.region ?_)))))
 refine WL.q (oq_ixaddr hr Tryd.underlying33 ty9 rfl rfl (by decide)) rfl rfl rfl ?_
 refine WL.q ((oq_load_str hr (.tail _ (.head _)) flat9 rfl (by decide) rfl).to (v' := S [77, 111, 110, 44, 32, 95, 50, 32, 74, 97, 110, 32, 50, 48, 48, 54, 32, 49, 53, 58, 48, 52, 58, 48, 53, 32, 71, 77, 84]) rfl) rfl rfl rfl ?_
 refine WL.q (oq_assign rfl) rfl rfl rfl ?_
 refine WL.nil (WE.then_normal (WC.seq (WC.region ?_)))
 refine WL.q (oq_move rfl) rfl rfl rfl ?_
 refine WL.q (oq_move rfl) rfl rfl rfl ?_
 refine WL.f1 ?_
 refine WL.callA (hB2 C hC) call24 rfl rfl rfl fun v4_2 N4_2 hR4_2 hN4_2 => ?_
 obtain ⟨kE, uE, rfl⟩ := hR4_2
 refine WL.q (oq_move rfl) rfl rfl rfl ?_
 refine WL.q (oq_extract rfl rfl) rfl rfl rfl ?_
 refine WL.q (oq_extract rfl rfl) rfl rfl rfl ?_
 refine WL.alloc ty37 rfl rfl fun b8 hb8 => ?_
 refine WL.storeS #[_, _, _, _] ty37 rfl rfl rfl rfl (Nat.le_of_ble_eq_true rfl) rfl rfl ?_
 refine WL.q (oq_assign rfl) rfl rfl rfl ?_
 refine WL.nil (WE.then_normal (WC.seq (WC.seq (WC.region ?_))))
 refine WL.q (oq_move rfl) rfl rfl rfl ?_
 refine WL.q ((oq_ineq Tryd.underlying39 rfl (.inr ⟨_, _, rfl⟩)).to (v' := .bool true) rfl) rfl rfl rfl ?_
 refine WL.nil (WE.then_normal ?_)
 refine WC.cond_t rfl ?_
 refine WC.exit (WE.then_exit (WE.block_same (WE.then_normal (WC.region ?_))))
 refine WL.q ((oq_add rfl rfl (by rw [i64_lo, i64_hi]; omega)).to (v' := I 2) rfl) rfl rfl rfl ?_
 refine WL.q (oq_move rfl) rfl rfl rfl ?_
 refine WL.nil ?_
 refine WE.lose hb8 ?_
 refine WE.forget hN4_2 ?_
 refine WE.f1 ?_
 refine WE.round ?_
 refine WC.sub (fr' := [(0, _), (4, _), (10, _), (11, _), (12, _)]) ?_ ⟨rfl, rfl, rfl, rfl, rfl, trivial⟩
 refine WC.seq (WC.region ?_)
 refine WL.q ((oq_lss rfl rfl).to (v' := .bool true) (congrArg Value.bool (decide_eq_true (by omega)))) rfl rfl rfl ?_
 refine WL.nil (WE.then_normal (WC.seq ?_))
 refine WC.cond_t rfl ?_
 refine WC.skip (WE.then_normal (WC.seq (WC.block (WC.seq (WC.region ?_)))))
 refine WL.q (oq_ixaddr hr Tryd.underlying33 ty9 rfl rfl (by decide)) rfl rfl rfl ?_
 refine WL.q ((oq_load_str hr (.tail _ (.head _)) flat9 rfl (by decide) rfl).to (v' := S [77, 111, 110, 44, 32, 95, 50, 32, 74, 97, 110, 32, 48, 54, 32, 49, 53, 58, 48, 52, 58, 48, 53, 32, 71, 77, 84]) rfl) rfl rfl rfl ?_
 refine WL.q (oq_assign rfl) rfl rfl rfl ?_
 refine WL.nil (WE.then_normal (WC.seq (WC.region ?_)))
 refine WL.q (oq_move rfl) rfl rfl rfl ?_
 refine WL.q (oq_move rfl) rfl rfl rfl ?_
 refine WL.f1 ?_
 refine WL.callA (hB3 C hC) call24 rfl rfl rfl fun v4_2 N4_2 hR4_2 hN4_2 => ?_
 obtain ⟨kE, uE, rfl⟩ := hR4_2
 refine WL.q (oq_move rfl) rfl rfl rfl ?_
 refine WL.q (oq_extract rfl rfl) rfl rfl rfl ?_
 refine WL.q (oq_extract rfl rfl) rfl rfl rfl ?_
 refine WL.alloc ty37 rfl rfl fun b8 hb8 => ?_
 refine WL.storeS #[_, _, _, _] ty37 rfl rfl rfl rfl (Nat.le_of_ble_eq_true rfl) rfl rfl ?_
 refine WL.q (oq_assign rfl) rfl rfl rfl ?_
 refine WL.nil (WE.then_normal (WC.seq (WC.seq (WC.region ?_))))
 refine WL.q (oq_move rfl) rfl rfl rfl ?_
 refine WL.q ((oq_ineq Tryd.underlying39 rfl (.inr ⟨_, _, rfl⟩)).to (v' := .bool true) rfl) rfl rfl rfl ?_
 refine WL.nil (WE.then_normal ?_)
 refine WC.cond_t rfl ?_
 refine WC.exit (WE.then_exit (WE.block_same (WE.then_normal (WC.region ?_))))
 refine WL.q ((oq_add rfl rfl (by rw [i64_lo, i64_hi]; omega)).to (v' := I 3) rfl) rfl rfl rfl ?_
 refine WL.q (oq_move rfl) rfl rfl rfl ?_
 refine WL.nil ?_
 refine WE.lose hb8 ?_
 refine WE.forget hN4_2 ?_
 refine WE.f1 ?_
 refine WE.round ?_
 refine WC.sub (fr' := [(0, _), (4, _), (10, _), (11, _), (12, _)]) ?_ ⟨rfl, rfl, rfl, rfl, rfl, trivial⟩
 refine WC.seq (WC.region ?_)
 refine WL.q ((oq_lss rfl rfl).to (v' := .bool true) (congrArg Value.bool (decide_eq_true (by omega)))) rfl rfl rfl ?_
 refine WL.nil (WE.then_normal (WC.seq ?_))
 refine WC.cond_t rfl ?_
 refine WC.skip (WE.then_normal (WC.seq (WC.block (WC.seq (WC.region ?_)))))
 refine WL.q (oq_ixaddr hr Tryd.underlying33 ty9 rfl rfl (by decide)) rfl rfl rfl ?_
 refine WL.q ((oq_load_str hr (.tail _ (.head _)) flat9 rfl (by decide) rfl).to (v' := S [77, 111, 110, 100, 97, 121, 44, 32, 48, 50, 45, 74, 97, 110, 45, 48, 54, 32, 49, 53, 58, 48, 52, 58, 48, 53, 32, 77, 83, 84]) rfl) rfl rfl rfl ?_
 refine WL.q (oq_assign rfl) rfl rfl rfl ?_
 refine WL.nil (WE.then_normal (WC.seq (WC.region ?_)))
 refine WL.q (oq_move rfl) rfl rfl rfl ?_
 refine WL.q (oq_move rfl) rfl rfl rfl ?_
 refine WL.qc (oq_callRm (hP C hC) (.tail _ (.head _)) call24 rfl) rfl rfl rfl ?_
 refine WL.q (oq_move rfl) rfl rfl rfl ?_
 refine WL.q (oq_extract rfl rfl) rfl rfl rfl ?_
 refine WL.q (oq_extract rfl rfl) rfl rfl rfl ?_
 refine WL.alloc ty37 rfl rfl fun b8 hb8 => ?_
 refine WL.storeS #[_, _, _, _] ty37 rfl rfl rfl rfl (Nat.le_of_ble_eq_true rfl) rfl rfl ?_
 refine WL.q (oq_assign rfl) rfl rfl rfl ?_
 refine WL.nil (WE.then_normal (WC.sub (fr' := [(0, _), (4, _), (8, _), (9, _), (10, _), (11, _), (12, _)]) ?_ ⟨rfl, rfl, rfl, rfl, rfl, rfl, rfl, trivial⟩))
 refine WC.seq (WC.seq (WC.region ?_))
 refine WL.q (oq_move rfl) rfl rfl rfl ?_
 refine WL.q ((oq_ineq Tryd.underlying39 rfl (.inl rfl)).to (v' := .bool false) rfl) rfl rfl rfl ?_
 refine WL.nil (WE.then_normal ?_)
 refine WC.cond_f rfl ?_
 refine WC.skip (WE.then_normal (WC.seq (WC.region ?_)))
 refine WL.q (oq_loadS [_, _, _, _] agg37 ty37 rfl (.head _) (List.mem_singleton.2 rfl) rfl rfl) rfl rfl rfl ?_
 refine WL.f1 ?_
 refine WL.storeS #[_, _, _, _] ty37 rfl rfl rfl rfl (Nat.le_of_ble_eq_true rfl) rfl rfl ?_
 refine WL.q (oq_assign rfl) rfl rfl rfl ?_
 refine WL.nil (WE.then_normal (WC.ret (WE.block_ret (WE.then_ret (WE.then_ret (WE.block_ret (WE.then_ret ?_)))))))
 refine WE.endDR (.inl rfl) (rs2 Tryd.results22 (rv_cellS [_, _, _, _] agg37 ty37 rfl (.head _) (List.mem_singleton.2 rfl) rfl rfl) (rv_tmp rfl)) (dr_lose hrb (dr_lose hb8 dr_refl)) ?_
 rfl
set_option maxHeartbeats 2000000 in
theorem try5 (C : Hp) (k0 : TypeId) (u0 : Value) (hC : LT C k0 u0) (fs : Value) (hr : RdS 1 fs C 5 (strsV layouts)) (v : List UInt8) (s : Int) (zn : List UInt8) (hP : OkP 24 [77, 111, 110, 32, 74, 97, 110, 32, 95, 50, 32, 49, 53, 58, 48, 52, 58, 48, 53, 32, 50, 48, 48, 54] v (tmZ s 0 zn 0) k0 u0) (hB1 : BadP 24 [77, 111, 110, 44, 32, 48, 50, 32, 74, 97, 110, 32, 50, 48, 48, 54, 32, 49, 53, 58, 48, 52, 58, 48, 53, 32, 71, 77, 84] v k0 u0) (hB2 : BadP 24 [77, 111, 110, 44, 32, 95, 50, 32, 74, 97, 110, 32, 50, 48, 48, 54, 32, 49, 53, 58, 48, 52, 58, 48, 53, 32, 71, 77, 84] v k0 u0) (hB3 : BadP 24 [77, 111, 110, 44, 32, 95, 50, 32, 74, 97, 110, 32, 48, 54, 32, 49, 53, 58, 48, 52, 58, 48, 53, 32, 71, 77, 84] v k0 u0) (hB4 : BadP 24 [77, 111, 110, 100, 97, 121, 44, 32, 48, 50, 45, 74, 97, 110, 45, 48, 54, 32, 49, 53, 58, 48, 52, 58, 48, 53, 32, 77, 83, 84] v k0 u0) : FnR Tryd.prog 22 [S v, fs] C (.tuple #[tmZ s 0 zn 0, .nilIface]) := by
 refine FnR.enter (n := 28) Tryd.func22 rfl rfl fun w0 => ?_
 refine WC.sub (fr' := [(0, _), (1, _)]) ?_ ⟨rfl, rfl, trivial⟩
 refine WC.seq (WC.region ?_)
 refine WL.alloc ty37 rfl rfl fun rb hrb => ?_
 refine WL.q (oq_assign rfl) rfl rfl rfl ?_
 refine WL.nil (WE.then_normal (WC.seq (WC.seq (WC.region ?_))))
 refine WL.q (oq_move rfl) rfl rfl rfl ?_
 refine WL.q ((oq_len_rd hr Tryd.underlying33 rfl).to (v' := I 5) rfl) rfl rfl rfl ?_
 refine WL.q (oq_move rfl) rfl rfl rfl ?_
 refine WL.nil (WE.then_normal (WC.block ?_))
 refine WC.unroll ?_
 refine WC.seq (WC.region ?_)
 refine WL.q ((oq_lss rfl rfl).to (v' := .bool true) (congrArg Value.bool (decide_eq_true (by omega)))) rfl rfl rfl ?_
 refine WL.nil (WE.then_normal (WC.seq ?_))
 refine WC.cond_t rfl ?_
 refine WC.skip (WE.then_normal (WC.seq (WC.block (WC.seq (WC.region ?_)))))
 refine WL.q (oq_ixaddr hr Tryd.underlying33 ty9 rfl rfl (by decide)) rfl rfl rfl ?_
 refine WL.q ((oq_load_str hr (.tail _ (.head _)) flat9 rfl (by decide) rfl).to (v' := S [77, 111, 110, 44, 32, 48, 50, 32, 74, 97, 110, 32, 50, 48, 48, 54, 32, 49, 53, 58, 48, 52, 58, 48, 53, 32, 71, 77, 84]) rfl) rfl rfl rfl ?_
 refine WL.q (oq_assign rfl) rfl rfl rfl ?_
 refine WL.nil (WE.then_normal (WC.seq (WC.region ?_)))
 refine WL.q (oq_move rfl) rfl rfl rfl ?_
 refine WL.q (oq_move rfl) rfl rfl rfl ?_
 refine WL.f1 ?_
 refine WL.callA (hB1 C hC) call24 rfl rfl rfl fun v4_2 N4_2 hR4_2 hN4_2 => ?_
 obtain ⟨kE, uE, rfl⟩ := hR4_2
 refine WL.q (oq_move rfl) rfl rfl rfl ?_
 refine WL.q (oq_extract rfl rfl) rfl rfl rfl ?_
 refine WL.q (oq_extract rfl rfl) rfl rfl rfl ?_
 refine WL.alloc ty37 rfl rfl fun b8 hb8 => ?_
 refine WL.storeS #[_, _, _, _] ty37 rfl rfl rfl rfl (Nat.le_of_ble_eq_true rfl) rfl rfl ?_
 refine WL.q (oq_assign rfl) rfl rfl rfl ?_
 refine WL.nil (WE.then_normal (WC.seq (WC.seq (WC.region ?_))))
 refine WL.q (oq_move rfl) rfl rfl rfl ?_
 refine WL.q ((oq_ineq Tryd.underlying39 rfl (.inr ⟨_, _, rfl⟩)).to (v' := .bool true) rfl) rfl rfl rfl ?_
 refine WL.nil (WE.then_normal ?_)
 refine WC.cond_t rfl ?_
 refine WC.exit (WE.then_exit (WE.block_same (WE.then_normal (WC.region ?_))))
 refine WL.q ((oq_add rfl rfl (by rw [i64_lo, i64_hi]; omega)).to (v' := I 1) rfl) rfl rfl rfl ?_
 refine WL.q (oq_move rfl) rfl rfl rfl ?_
 refine WL.nil ?_
 refine WE.lose hb8 ?_
 refine WE.forget hN4_2 ?_
 refine WE.f1 ?_
 refine WE.round ?_
 refine WC.sub (fr' := [(0, _), (4, _), (10, _), (11, _), (12, _)]) ?_ ⟨rfl, rfl, rfl, rfl, rfl, trivial⟩
 refine WC.seq (WC.region ?_)
 refine WL.q ((oq_lss rfl rfl).to (v' := .bool true) (congrArg Value.bool (decide_eq_true (by omega)))) rfl rfl rfl ?_
 refine WL.nil (WE.then_normal (WC.seq ?_))
 refine WC.cond_t rfl ?_
 refine WC.skip (WE.then_normal (WC.seq (WC.block (WC.seq (WC.region ?_)))))
 refine WL.q (oq_ixaddr hr Tryd.underlying33 ty9 rfl rfl (by decide)) rfl rfl rfl ?_
 refine WL.q ((oq_load_str hr (.tail _ (.head _)) flat9 rfl (by decide) rfl).to (v' := S [77, 111, 110, 44, 32, 95, 50, 32, 74, 97, 110, 32, 50, 48, 48, 54, 32, 49, 53, 58, 48, 52, 58, 48, 53, 32, 71, 77, 84]) rfl) rfl rfl rfl ?_
 refine WL.q (oq_assign rfl) rfl rfl rfl ?_
 refine WL.nil (WE.then_normal (WC.seq (WC.region ?_)))
 refine WL.q (oq_move rfl) rfl rfl rfl ?_
 refine WL.q (oq_move rfl) rfl rfl rfl ?_
 refine WL.f1 ?_
 refine WL.callA (hB2 C hC) call24 rfl rfl rfl fun v4_2 N4_2 hR4_2 hN4_2 => ?_
 obtain ⟨kE, uE, rfl⟩ := hR4_2
 refine WL.q (oq_move rfl) rfl rfl rfl ?_
 refine WL.q (oq_extract rfl rfl) rfl rfl rfl ?_
 refine WL.q (oq_extract rfl rfl) rfl rfl rfl ?_
 refine WL.alloc ty37 rfl rfl fun b8 hb8 => ?_
 refine WL.storeS #[_, _, _, _] ty37 rfl rfl rfl rfl (Nat.le_of_ble_eq_true rfl) rfl rfl ?_
 refine WL.q (oq_assign rfl) rfl rfl rfl ?_
 refine WL.nil (WE.then_normal (WC.seq (WC.seq (WC.region ?_))))
 refine WL.q (oq_move rfl) rfl rfl rfl ?_
 refine WL.q ((oq_ineq Tryd.underlying39 rfl (.inr ⟨_, _, rfl⟩)).to (v' := .bool true) rfl) rfl rfl rfl ?_
 refine WL.nil (WE.then_normal ?_)
 refine WC.cond_t rfl ?_
 refine WC.exit (WE.then_exit (WE.block_same (WE.then_normal (WC.region ?_))))
 refine WL.q ((oq_add rfl rfl (by rw [i64_lo, i64_hi]; omega)).to (v' := I 2) rfl) rfl rfl rfl ?_
 refine WL.q (oq_move rfl) rfl rfl rfl ?_
 refine WL.nil ?_
 refine WE.lose hb8 ?_
 refine WE.forget hN4_2 ?_
 refine WE.f1 ?_
 refine WE.round ?_
 refine WC.sub (fr' := [(0, _), (4, _), (10, _), (11, _), (12, _)]) ?_ ⟨rfl, rfl, rfl, rfl, rfl, trivial⟩
 refine WC.seq (WC.region ?_)
 refine WL.q ((oq_lss rfl rfl).to (v' := .bool true) (congrArg Value.bool (decide_eq_true (by omega)))) rfl rfl rfl ?_
 refine WL.nil (WE.then_normal (WC.seq ?_))
 refine WC.cond_t rfl ?_
 refine WC.skip (WE.then_normal (WC.seq (WC.block (WC.seq (WC.region ?_)))))
 refine WL.q (oq_ixaddr hr Tryd.underlying33 ty9 rfl rfl (by decide)) rfl rfl rfl ?_
 refine WL.q ((oq_load_str hr (.tail _ (.head _)) flat9 rfl (by decide) rfl).to (v' := S [77, 111, 110, 44, 32, 95, 50, 32, 74, 97, 110, 32, 48, 54, 32, 49, 53, 58, 48, 52, 58, 48, 53, 32, 71, 77, 84]) rfl) rfl rfl rfl ?_
 refine WL.q (oq_assign rfl) rfl rfl rfl ?_
 refine WL.nil (WE.then_normal (WC.seq (WC.region ?_)))
 refine WL.q (oq_move rfl) rfl rfl rfl ?_
 refine WL.q (oq_move rfl) rfl rfl rfl ?_
 refine WL.f1 ?_
 refine WL.callA (hB3 C hC) call24 rfl rfl rfl fun v4_2 N4_2 hR4_2 hN4_2 => ?_
 obtain ⟨kE, uE, rfl⟩ := hR4_2
 refine WL.q (oq_move rfl) rfl rfl rfl ?_
 refine WL.q (oq_extract rfl rfl) rfl rfl rfl ?_
 refine WL.q (oq_extract rfl rfl) rfl rfl rfl ?_
 refine WL.alloc ty37 rfl rfl fun b8 hb8 => ?_
 refine WL.storeS #[_, _, _, _] ty37 rfl rfl rfl rfl (Nat.le_of_ble_eq_true rfl) rfl rfl ?_
 refine WL.q (oq_assign rfl) rfl rfl rfl ?_
 refine WL.nil (WE.then_normal (WC.seq (WC.seq (WC.region ?_))))
 refine WL.q (oq_move rfl) rfl rfl rfl ?_
 refine WL.q ((oq_ineq Tryd.underlying39 rfl (.inr ⟨_, _, rfl⟩)).to (v' := .bool true) rfl) rfl rfl rfl ?_
 refine WL.nil (WE.then_normal ?_)
 refine WC.cond_t rfl ?_
 refine WC.exit (WE.then_exit (WE.block_same (WE.then_normal (WC.region ?_))))
 refine WL.q ((oq_add rfl rfl (by rw [i64_lo, i64_hi]; omega)).to (v' := I 3) rfl) rfl rfl rfl ?_
 refine WL.q (oq_move rfl) rfl rfl rfl ?_
 refine WL.nil ?_
 refine WE.lose hb8 ?_
 refine WE.forget hN4_2 ?_
 refine WE.f1 ?_
 refine WE.round ?_
 refine WC.sub (fr' := [(0, _), (4, _), (10, _), (11, _), (12, _)]) ?_ ⟨rfl, rfl, rfl, rfl, rfl, trivial⟩
 refine WC.seq (WC.region ?_)
 refine WL.q ((oq_lss rfl rfl).to (v' := .bool true) (congrArg Value.bool (decide_eq_true (by omega)))) rfl rfl rfl ?_
 refine WL.nil (WE.then_normal (WC.seq ?_))
 refine WC.cond_t rfl ?_
 refine WC.skip (WE.then_normal (WC.seq (WC.block (WC.seq (WC.region ?_)))))
 refine WL.q (oq_ixaddr hr Tryd.underlying33 ty9 rfl rfl (by decide)) rfl rfl rfl ?_
 refine WL.q ((oq_load_str hr (.tail _ (.head _)) flat9 rfl (by decide) rfl).to (v' := S [77, 111, 110, 100, 97, 121, 44, 32, 48, 50, 45, 74, 97, 110, 45, 48, 54, 32, 49, 53, 58, 48, 52, 58, 48, 53, 32, 77, 83, 84]) rfl) rfl rfl rfl ?_
 refine WL.q (oq_assign rfl) rfl rfl rfl ?_
 refine WL.nil (WE.then_normal (WC.seq (WC.region ?_)))
 refine WL.q (oq_move rfl) rfl rfl rfl ?_
 refine WL.q (oq_move rfl) rfl rfl rfl ?_
 refine WL.f1 ?_
 refine WL.callA (hB4 C hC) call24 rfl rfl rfl fun v4_2 N4_2 hR4_2 hN4_2 => ?_
 obtain ⟨kE, uE, rfl⟩ := hR4_2
 refine WL.q (oq_move rfl) rfl rfl rfl ?_
 refine WL.q (oq_extract rfl rfl) rfl rfl rfl ?_
 refine WL.q (oq_extract rfl rfl) rfl rfl rfl ?_
 refine WL.alloc ty37 rfl rfl fun b8 hb8 => ?_
 refine WL.storeS #[_, _, _, _] ty37 rfl rfl rfl rfl (Nat.le_of_ble_eq_true rfl) rfl rfl ?_
 refine WL.q (oq_assign rfl) rfl rfl rfl ?_
 refine WL.nil (WE.then_normal (WC.sub (fr' := [(0, _), (4, _), (8, _), (9, _), (10, _), (11, _), (12, _)]) ?_ ⟨rfl, rfl, rfl, rfl, rfl, rfl, rfl, trivial⟩))
 refine WC.seq (WC.seq (WC.region ?_))
 refine WL.q (oq_move rfl) rfl rfl rfl ?_
 refine WL.q ((oq_ineq Tryd.underlying39 rfl (.inr ⟨_, _, rfl⟩)).to (v' := .bool true) rfl) rfl rfl rfl ?_
 refine WL.nil (WE.then_normal ?_)
 refine WC.cond_t rfl ?_
 refine WC.exit (WE.then_exit (WE.block_same (WE.then_normal (WC.region ?_))))
 refine WL.q ((oq_add rfl rfl (by rw [i64_lo, i64_hi]; omega)).to (v' := I 4) rfl) rfl rfl rfl ?_
 refine WL.q (oq_move rfl) rfl rfl rfl ?_
 refine WL.nil ?_
 refine WE.lose hb8 ?_
 refine WE.forget hN4_2 ?_
 refine WE.f1 ?_
 refine WE.round ?_
 refine WC.sub (fr' := [(0, _), (4, _), (10, _), (11, _), (12, _)]) ?_ ⟨rfl, rfl, rfl, rfl, rfl, trivial⟩
 refine WC.seq (WC.region ?_)
 refine WL.q ((oq_lss rfl rfl).to (v' := .bool true) (congrArg Value.bool (decide_eq_true (by omega)))) rfl rfl rfl ?_
 refine WL.nil (WE.then_normal (WC.seq ?_))
 refine WC.cond_t rfl ?_
 refine WC.skip (WE.then_normal (WC.seq (WC.block (WC.seq (WC.region ?_)))))
 refine WL.q (oq_ixaddr hr Tryd.underlying33 ty9 rfl rfl (by decide)) rfl rfl rfl ?_
 refine WL.q ((oq_load_str hr (.tail _ (.head _)) flat9 rfl (by decide) rfl).to (v' := S [77, 111, 110, 32, 74, 97, 110, 32, 95, 50, 32, 49, 53, 58, 48, 52, 58, 48, 53, 32, 50, 48, 48, 54]) rfl) rfl rfl rfl ?_
 refine WL.q (oq_assign rfl) rfl rfl rfl ?_
 refine WL.nil (WE.then_normal (WC.seq (WC.region ?_)))
 refine WL.q (oq_move rfl) rfl rfl rfl ?_
 refine WL.q (oq_move rfl) rfl rfl rfl ?_
 refine WL.qc (oq_callRm (hP C hC) (.tail _ (.head _)) call24 rfl) rfl rfl rfl ?_
 refine WL.q (oq_move rfl) rfl rfl rfl ?_
 refine WL.q (oq_extract rfl rfl) rfl rfl rfl ?_
 refine WL.q (oq_extract rfl rfl) rfl rfl rfl ?_
 refine WL.alloc ty37 rfl rfl fun b8 hb8 => ?_
 refine WL.storeS #[_, _, _, _] ty37 rfl rfl rfl rfl (Nat.le_of_ble_eq_true rfl) rfl rfl ?_
 refine WL.q (oq_assign rfl) rfl rfl rfl ?_
 refine WL.nil (WE.then_normal (WC.seq (WC.seq (WC.region ?_))))
 refine WL.q (oq_move rfl) rfl rfl rfl ?_
 refine WL.q ((oq_ineq Tryd.underlying39 rfl (.inl rfl)).to (v' := .bool false) rfl) rfl rfl rfl ?_
 refine WL.nil (WE.then_normal ?_)
 refine WC.cond_f rfl ?_
 refine WC.skip (WE.then_normal (WC.seq (WC.region ?_)))
 refine WL.q (oq_loadS [_, _, _, _] agg37 ty37 rfl (.head _) (List.mem_singleton.2 rfl) rfl rfl) rfl rfl rfl ?_
 refine WL.f1 ?_
 refine WL.storeS #[_, _, _, _] ty37 rfl rfl rfl rfl (Nat.le_of_ble_eq_true rfl) rfl rfl ?_
 refine WL.q (oq_assign rfl) rfl rfl rfl ?_
 refine WL.nil (WE.then_normal (WC.ret (WE.block_ret (WE.then_ret (WE.then_ret (WE.block_ret (WE.then_ret ?_)))))))
 refine WE.endDR (.inl rfl) (rs2 Tryd.results22 (rv_cellS [_, _, _, _] agg37 ty37 rfl (.head _) (List.mem_singleton.2 rfl) rfl rfl) (rv_tmp rfl)) (dr_lose hrb (dr_lose hb8 dr_refl)) ?_
 rfl
theorem httpDate1 (G : Hp) (k0 : TypeId) (u0 : Value) (hG : LT G k0 u0) (v : List UInt8) (s : Int) (zn : List UInt8) (hP : OkP 24 [77, 111, 110, 44, 32, 48, 50, 32, 74, 97, 110, 32, 50, 48, 48, 54, 32, 49, 53, 58, 48, 52, 58, 48, 53, 32, 71, 77, 84] v (tmZ s 0 zn 0) k0 u0) : FnR Tryd.prog 19 [S v] G (.tuple #[tmZ s 0 zn 0, .nilIface]) := by
 refine FnR.enter (n := 9) Tryd.func19 rfl rfl fun w0 => ?_
 refine WC.sub (fr' := [(0, _)]) ?_ ⟨rfl, trivial⟩
 refine WC.seq (WC.region ?_)
 refine WL.alloc ty37 rfl rfl fun tb htb => ?_
 refine WL.q (oq_assign rfl) rfl rfl rfl ?_
 refine WL.nil (WE.then_normal (WC.sub (fr' := [(0, _), (2, _)]) ?_ ⟨rfl, rfl, trivial⟩))
 refine WC.seq (WC.region ?_)
 refine WL.q (oq_move rfl) rfl rfl rfl ?_
 refine WL.buildL Tryd.underlying33 ty9 rfl rfl (by decide) (by decide) rfl rfl rfl fun v1_1 A1_1 ho1_1 hne1_1 => ?_
 refine WL.f2 ?_
 refine WL.f1 ?_
 have hrf : RdS 1 v1_1 (A1_1 ++ G) 5 (strsV layouts) := RdS.weaken (C := A1_1 ++ G) ho1_1.rd (fun x hx => List.mem_append_left _ hx)
 refine WL.cat ?_
 refine WL.qc (oq_callRm (try1 (A1_1 ++ G) k0 u0 (hG.weaken fun x hx => List.mem_append_right _ hx) _ hrf v s zn hP) (.head _) call22 rfl) rfl rfl rfl ?_
 refine WL.uncat ?_
 refine WL.q (oq_extract rfl rfl) rfl rfl rfl ?_
 refine WL.q (oq_extract rfl rfl) rfl rfl rfl ?_
 refine WL.f2 ?_
 refine WL.storeS #[_, _, _, _] ty37 rfl rfl rfl rfl (Nat.le_of_ble_eq_true rfl) rfl rfl ?_
 refine WL.q (oq_assign rfl) rfl rfl rfl ?_
 refine WL.nil (WE.then_normal (WC.sub (fr' := [(2, _), (3, _)]) ?_ ⟨rfl, rfl, trivial⟩))
 refine WC.ret ?_
 refine WE.endDR (.inl rfl) (rs2 Tryd.results19 (rv_cellS [_, _, _, _] agg37 ty37 rfl (.head _) (List.mem_singleton.2 rfl) rfl rfl) (rv_tmp rfl)) (dr_lose htb (dr_forget ho1_1.fresh dr_refl)) ?_
 rfl
theorem httpDate4 (G : Hp) (k0 : TypeId) (u0 : Value) (hG : LT G k0 u0) (v : List UInt8) (s : Int) (zn : List UInt8) (hP : OkP 24 [77, 111, 110, 100, 97, 121, 44, 32, 48, 50, 45, 74, 97, 110, 45, 48, 54, 32, 49, 53, 58, 48, 52, 58, 48, 53, 32, 77, 83, 84] v (tmZ s 0 zn 0) k0 u0) (hB1 : BadP 24 [77, 111, 110, 44, 32, 48, 50, 32, 74, 97, 110, 32, 50, 48, 48, 54, 32, 49, 53, 58, 48, 52, 58, 48, 53, 32, 71, 77, 84] v k0 u0) (hB2 : BadP 24 [77, 111, 110, 44, 32, 95, 50, 32, 74, 97, 110, 32, 50, 48, 48, 54, 32, 49, 53, 58, 48, 52, 58, 48, 53, 32, 71, 77, 84] v k0 u0) (hB3 : BadP 24 [77, 111, 110, 44, 32, 95, 50, 32, 74, 97, 110, 32, 48, 54, 32, 49, 53, 58, 48, 52, 58, 48, 53, 32, 71, 77, 84] v k0 u0) : FnR Tryd.prog 19 [S v] G (.tuple #[tmZ s 0 zn 0, .nilIface]) := by
 refine FnR.enter (n := 9) Tryd.func19 rfl rfl fun w0 => ?_
 refine WC.sub (fr' := [(0, _)]) ?_ ⟨rfl, trivial⟩
 refine WC.seq (WC.region ?_)
 refine WL.alloc ty37 rfl rfl fun tb htb => ?_
 refine WL.q (oq_assign rfl) rfl rfl rfl ?_
 refine WL.nil (WE.then_normal (WC.sub (fr' := [(0, _), (2, _)]) ?_ ⟨rfl, rfl, trivial⟩))
 refine WC.seq (WC.region ?_)
 refine WL.q (oq_move rfl) rfl rfl rfl ?_
 refine WL.buildL Tryd.underlying33 ty9 rfl rfl (by decide) (by decide) rfl rfl rfl fun v1_1 A1_1 ho1_1 hne1_1 => ?_
 refine WL.f2 ?_
 refine WL.f1 ?_
 have hrf : RdS 1 v1_1 (A1_1 ++ G) 5 (strsV layouts) := RdS.weaken (C := A1_1 ++ G) ho1_1.rd (fun x hx => List.mem_append_left _ hx)
 refine WL.cat ?_
 refine WL.qc (oq_callRm (try4 (A1_1 ++ G) k0 u0 (hG.weaken fun x hx => List.mem_append_right _ hx) _ hrf v s zn hP hB1 hB2 hB3) (.head _) call22 rfl) rfl rfl rfl ?_
 refine WL.uncat ?_
 refine WL.q (oq_extract rfl rfl) rfl rfl rfl ?_
 refine WL.q (oq_extract rfl rfl) rfl rfl rfl ?_
 refine WL.f2 ?_
 refine WL.storeS #[_, _, _, _] ty37 rfl rfl rfl rfl (Nat.le_of_ble_eq_true rfl) rfl rfl ?_
 refine WL.q (oq_assign rfl) rfl rfl rfl ?_
 refine WL.nil (WE.then_normal (WC.sub (fr' := [(2, _), (3, _)]) ?_ ⟨rfl, rfl, trivial⟩))
 refine WC.ret ?_
 refine WE.endDR (.inl rfl) (rs2 Tryd.results19 (rv_cellS [_, _, _, _] agg37 ty37 rfl (.head _) (List.mem_singleton.2 rfl) rfl rfl) (rv_tmp rfl)) (dr_lose htb (dr_forget ho1_1.fresh dr_refl)) ?_
 rfl
theorem httpDate5 (G : Hp) (k0 : TypeId) (u0 : Value) (hG : LT G k0 u0) (v : List UInt8) (s : Int) (zn : List UInt8) (hP : OkP 24 [77, 111, 110, 32, 74, 97, 110, 32, 95, 50, 32, 49, 53, 58, 48, 52, 58, 48, 53, 32, 50, 48, 48, 54] v (tmZ s 0 zn 0) k0 u0) (hB1 : BadP 24 [77, 111, 110, 44, 32, 48, 50, 32, 74, 97, 110, 32, 50, 48, 48, 54, 32, 49, 53, 58, 48, 52, 58, 48, 53, 32, 71, 77, 84] v k0 u0) (hB2 : BadP 24 [77, 111, 110, 44, 32, 95, 50, 32, 74, 97, 110, 32, 50, 48, 48, 54, 32, 49, 53, 58, 48, 52, 58, 48, 53, 32, 71, 77, 84] v k0 u0) (hB3 : BadP 24 [77, 111, 110, 44, 32, 95, 50, 32, 74, 97, 110, 32, 48, 54, 32, 49, 53, 58, 48, 52, 58, 48, 53, 32, 71, 77, 84] v k0 u0) (hB4 : BadP 24 [77, 111, 110, 100, 97, 121, 44, 32, 48, 50, 45, 74, 97, 110, 45, 48, 54, 32, 49, 53, 58, 48, 52, 58, 48, 53, 32, 77, 83, 84] v k0 u0) : FnR Tryd.prog 19 [S v] G (.tuple #[tmZ s 0 zn 0, .nilIface]) := by
 refine FnR.enter (n := 9) Tryd.func19 rfl rfl fun w0 => ?_
 refine WC.sub (fr' := [(0, _)]) ?_ ⟨rfl, trivial⟩
 refine WC.seq (WC.region ?_)
 refine WL.alloc ty37 rfl rfl fun tb htb => ?_
 refine WL.q (oq_assign rfl) rfl rfl rfl ?_
 refine WL.nil (WE.then_normal (WC.sub (fr' := [(0, _), (2, _)]) ?_ ⟨rfl, rfl, trivial⟩))
 refine WC.seq (WC.region ?_)
 refine WL.q (oq_move rfl) rfl rfl rfl ?_
 refine WL.buildL Tryd.underlying33 ty9 rfl rfl (by decide) (by decide) rfl rfl rfl fun v1_1 A1_1 ho1_1 hne1_1 => ?_
 refine WL.f2 ?_
 refine WL.f1 ?_
 have hrf : RdS 1 v1_1 (A1_1 ++ G) 5 (strsV layouts) := RdS.weaken (C := A1_1 ++ G) ho1_1.rd (fun x hx => List.mem_append_left _ hx)
 refine WL.cat ?_
 refine WL.qc (oq_callRm (try5 (A1_1 ++ G) k0 u0 (hG.weaken fun x hx => List.mem_append_right _ hx) _ hrf v s zn hP hB1 hB2 hB3 hB4) (.head _) call22 rfl) rfl rfl rfl ?_
 refine WL.uncat ?_
 refine WL.q (oq_extract rfl rfl) rfl rfl rfl ?_
 refine WL.q (oq_extract rfl rfl) rfl rfl rfl ?_
 refine WL.f2 ?_
 refine WL.storeS #[_, _, _, _] ty37 rfl rfl rfl rfl (Nat.le_of_ble_eq_true rfl) rfl rfl ?_
 refine WL.q (oq_assign rfl) rfl rfl rfl ?_
 refine WL.nil (WE.then_normal (WC.sub (fr' := [(2, _), (3, _)]) ?_ ⟨rfl, rfl, trivial⟩))
 refine WC.ret ?_
 refine WE.endDR (.inl rfl) (rs2 Tryd.results19 (rv_cellS [_, _, _, _] agg37 ty37 rfl (.head _) (List.mem_singleton.2 rfl) rfl rfl) (rv_tmp rfl)) (dr_lose htb (dr_forget ho1_1.fresh dr_refl)) ?_
 rfl
theorem parseTime (G : Hp) (v : List UInt8) (s : Int) (zn : List UInt8) (h : FnR Tryd.prog 19 [S v] G (.tuple #[tmZ s 0 zn 0, .nilIface])) : FnR Tryd.prog 15 [S v] G (.tuple #[tmZ s 0 zn 0, .nilIface]) := by
 refine FnR.enter (n := 8) Tryd.func15 rfl rfl fun w0 => ?_
 refine WC.sub (fr' := [(0, _)]) ?_ ⟨rfl, trivial⟩
 refine WC.seq (WC.region ?_)
 refine WL.alloc ty37 rfl rfl fun tb htb => ?_
 refine WL.q (oq_assign rfl) rfl rfl rfl ?_
 refine WL.nil (WE.then_normal (WC.sub (fr' := [(0, _), (2, _)]) ?_ ⟨rfl, rfl, trivial⟩))
 refine WC.seq (WC.region ?_)
 refine WL.q (oq_move rfl) rfl rfl rfl ?_
 refine WL.qc (oq_callRm (h) (.tail _ (.head _)) call19 rfl) rfl rfl rfl ?_
 refine WL.q (oq_extract rfl rfl) rfl rfl rfl ?_
 refine WL.q (oq_extract rfl rfl) rfl rfl rfl ?_
 refine WL.storeS #[_, _, _, _] ty37 rfl rfl rfl rfl (Nat.le_of_ble_eq_true rfl) rfl rfl ?_
 refine WL.q (oq_assign rfl) rfl rfl rfl ?_
 refine WL.nil (WE.then_normal (WC.sub (fr' := [(2, _), (3, _)]) ?_ ⟨rfl, rfl, trivial⟩))
 refine WC.ret ?_
 refine WE.endDR (.inl rfl) (rs2 Tryd.results15 (rv_cellS [_, _, _, _] agg37 ty37 rfl (.head _) (List.mem_singleton.2 rfl) rfl rfl) (rv_tmp rfl)) (dr_lose htb dr_refl) ?_
 rfl
theorem htime (G : Hp) (v : List UInt8) (s : Int) (zn : List UInt8) (h : FnR Tryd.prog 15 [S v] G (.tuple #[tmZ s 0 zn 0, .nilIface])) (hs : 0 ≤ s ∧ s ≤ 100000000000) : FnR Tryd.prog 7 [S v] G (.tuple #[I (s + -62135596800), I 0, .bool true]) := by
 refine FnR.enter (n := 18) Tryd.func7 rfl rfl fun w0 => ?_
 refine WC.sub (fr' := [(0, _)]) ?_ ⟨rfl, trivial⟩
 refine WC.seq (WC.region ?_)
 refine WL.q (oq_assign rfl) rfl rfl rfl ?_
 refine WL.q (oq_assign rfl) rfl rfl rfl ?_
 refine WL.q (oq_assign rfl) rfl rfl rfl ?_
 refine WL.nil (WE.then_normal (WC.sub (fr' := [(0, _)]) ?_ ⟨rfl, trivial⟩))
 refine WC.seq (WC.region ?_)
 refine WL.q (oq_move rfl) rfl rfl rfl ?_
 refine WL.qc (oq_callRm (h) (.head _) call15 rfl) rfl rfl rfl ?_
 refine WL.q (oq_move rfl) rfl rfl rfl ?_
 refine WL.q (oq_extract rfl rfl) rfl rfl rfl ?_
 refine WL.q (oq_extract rfl rfl) rfl rfl rfl ?_
 refine WL.alloc ty37 rfl rfl fun tb htb => ?_
 refine WL.storeS #[_, _, _, _] ty37 rfl rfl rfl rfl (Nat.le_of_ble_eq_true rfl) rfl rfl ?_
 refine WL.q (oq_assign rfl) rfl rfl rfl ?_
 refine WL.nil (WE.then_normal (WC.sub (fr' := [(5, _), (6, _)]) ?_ ⟨rfl, rfl, trivial⟩))
 refine WC.seq (WC.seq (WC.region ?_))
 refine WL.q (oq_move rfl) rfl rfl rfl ?_
 refine WL.q (oq_ineq Tryd.underlying39 rfl (.inl rfl)) rfl rfl rfl ?_
 refine WL.nil (WE.then_normal (WC.sub (fr' := [(5, _), (13, _)]) ?_ ⟨rfl, rfl, trivial⟩))
 refine WC.cond rfl (fun q2 => ?_) (fun q2 => ?_)
 ·
  try simp only [Z1, Z2, Z3, Z4, Z5, Z6, Z7, Z8, Z9, Z0] at q2
  first | contradiction | (exfalso; omega) | (exfalso; simp_all; done)
 ·
  try simp only [Z1, Z2, Z3, Z4, Z5, Z6, Z7, Z8, Z9, Z0] at q2
  refine WC.skip (WE.then_normal (WC.sub (fr' := [(5, _)]) ?_ ⟨rfl, trivial⟩))
  refine WC.seq (WC.quiet (by kernel_rfl) (by kernel_rfl) ?_)
  refine WQ.q (oq_loadS [_, _, _, _] agg37 ty37 rfl (.head _) (List.mem_singleton.2 rfl) rfl rfl) rfl rfl rfl ?_
  refine WQ.qc (oq_call (timeUnix _ _ _ _ hs) call16 rfl) rfl rfl rfl ?_
  refine WQ.q (oq_loadS [_, _, _, _] agg37 ty37 rfl (.head _) (List.mem_singleton.2 rfl) rfl rfl) rfl rfl rfl ?_
  refine WQ.qc (oq_call (timeNano _ _ _) call17 rfl) rfl rfl rfl ?_
  refine WQ.q (oq_assign rfl) rfl rfl rfl ?_
  refine WQ.q (oq_assign rfl) rfl rfl rfl ?_
  refine WQ.q (oq_assign rfl) rfl rfl rfl ?_
  refine WQ.nil (WE.then_normal (WC.sub (fr' := [(2, _), (3, _), (4, _)]) ?_ ⟨rfl, rfl, rfl, trivial⟩))
  refine WC.ret ?_
  refine WE.lose htb ?_
  refine WE.endR (.inl rfl) (res3 Tryd.results7 rfl rfl rfl) ?_
  rfl
end U5
end Go.Proofs.YtcfhfdengfcfpaaDoor
