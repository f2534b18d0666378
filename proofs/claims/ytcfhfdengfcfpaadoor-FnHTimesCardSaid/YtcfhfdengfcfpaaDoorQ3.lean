/- The first form read. -/
import Derived.Test.YtcfhfdengfcfpaaDoorQ1
import Derived.Test.YtcfhfdengfcfpaaDoorQ2
namespace Go.Proofs.YtcfhfdengfcfpaaDoor
open Go Go.RowKit V T0 T1 T2 T4 T5 T6 T7 T8 T9 U0 TX0 TX1 TX2 TX3
set_option linter.unusedSimpArgs false
set_option linter.unusedVariables false
set_option maxRecDepth 10000
namespace U1
theorem call29 : Callable Tryd.prog 29 := ⟨_, Tryd.func29, rfl, by kernel_rfl⟩
theorem call30 : Callable Tryd.prog 30 := ⟨_, Tryd.func30, rfl, by kernel_rfl⟩
theorem call32 : Callable Tryd.prog 32 := ⟨_, Tryd.func32, rfl, by kernel_rfl⟩
theorem call35 : Callable Tryd.prog 35 := ⟨_, Tryd.func35, rfl, by kernel_rfl⟩
theorem call36 : Callable Tryd.prog 36 := ⟨_, Tryd.func36, rfl, by kernel_rfl⟩
theorem call38 : Callable Tryd.prog 38 := ⟨_, Tryd.func38, rfl, by kernel_rfl⟩
theorem call39 : Callable Tryd.prog 39 := ⟨_, Tryd.func39, rfl, by kernel_rfl⟩
theorem call40 : Callable Tryd.prog 40 := ⟨_, Tryd.func40, rfl, by kernel_rfl⟩
theorem call41 : Callable Tryd.prog 41 := ⟨_, Tryd.func41, rfl, by kernel_rfl⟩
theorem call42 : Callable Tryd.prog 42 := ⟨_, Tryd.func42, rfl, by kernel_rfl⟩
theorem call44 : Callable Tryd.prog 44 := ⟨_, Tryd.func44, rfl, by kernel_rfl⟩
theorem ty37 : Ty Tryd.prog 37 (.agg #[(.int .i64 0), (.int .i32 0), (S []), (.int .i64 0)]) 4 40 := ty_of (by kernel_rfl)
theorem agg37 : Agg Tryd.prog 37 := agg_of Tryd.underlying37
def parseBad (v : Value) (N : Hp) : Prop := ∃ k u, v = .tuple #[tmZ 0 0 [] 0, .iface k u]
set_option maxHeartbeats 20000000 in
theorem parse1 (G : Hp) (k0 : TypeId) (u0 : Value) (hL : LT G k0 u0) (w : Nat) (hw : w < 7) (d mo y hh mm ss : Nat) (hmo : mo < 12) (dd : Nat) (hd : 1 ≤ d ∧ d ≤ 31) (hy : 1970 ≤ y ∧ y ≤ 2068) (hhh : hh < 24) (hmm : mm < 60) (hss : ss < 60) (hdim : d ≤ dimN (mo + 1) y) (hA : absD y (mo + 1) d = dd + 106751991073400) (hdd : dd < 36160) : FnR Tryd.prog 27 [S [77, 111, 110, 44, 32, 48, 50, 32, 74, 97, 110, 32, 50, 48, 48, 54, 32, 49, 53, 58, 48, 52, 58, 48, 53, 32, 71, 77, 84], S [(wb w 0), (wb w 1), (wb w 2), 44, 32, (hi d), (lo d), 32, (mb mo 0), (mb mo 1), (mb mo 2), 32, (hi (y / 100)), (lo (y / 100)), (hi (y % 100)), (lo (y % 100)), 32, (hi hh), (lo hh), 58, (hi mm), (lo mm), 58, (hi ss), (lo ss), 32, 71, 77, 84]] G (.tuple #[tmV ((dd * 86400 + hh * 3600 + mm * 60 + ss : Nat) + 62135596800), .nilIface]) := by
 obtain ⟨hE, hT, sv, ⟨tl, fl, hml⟩, hsv⟩ := hL
 have z0 := hi_lt d
 have z1 := lo_lt d
 have z2 := hi_lt y
 have z3 := lo_lt y
 refine FnR.enter (n := 852) Tryd.func27 rfl rfl fun w0 => ?_
 refine WC.sub (fr' := [(0, _), (1, _)]) ?_ ⟨rfl, rfl, trivial⟩
 refine WC.seq (WC.region ?_)
 refine WL.alloc ty37 rfl rfl fun tb htb => ?_
 refine WL.q (oq_assign rfl) rfl rfl rfl ?_
 refine WL.nil (WE.then_normal (WC.seq (WC.region ?_)))
 refine WL.q (oq_move rfl) rfl rfl rfl ?_
 refine WL.q (oq_move rfl) rfl rfl rfl ?_
 refine WL.q (oq_assign rfl) rfl rfl rfl ?_
 refine WL.q (oq_assign rfl) rfl rfl rfl ?_
 refine WL.nil (WE.then_normal (WC.seq (WC.region ?_)))
 refine WL.q (oq_assign rfl) rfl rfl rfl ?_
 refine WL.nil (WE.then_normal (WC.seq (WC.region ?_)))
 refine WL.q (oq_assign rfl) rfl rfl rfl ?_
 refine WL.nil (WE.then_normal (WC.seq (WC.region ?_)))
 refine WL.q (oq_assign rfl) rfl rfl rfl ?_
 refine WL.nil (WE.then_normal (WC.seq (WC.region ?_)))
 refine WL.q (oq_assign rfl) rfl rfl rfl ?_
 refine WL.nil (WE.then_normal (WC.seq (WC.region ?_)))
 refine WL.q (oq_assign rfl) rfl rfl rfl ?_
 refine WL.nil (WE.then_normal (WC.seq (WC.region ?_)))
 refine WL.q (oq_assign rfl) rfl rfl rfl ?_
 refine WL.nil (WE.then_normal (WC.seq (WC.region ?_)))
 refine WL.q (oq_assign rfl) rfl rfl rfl ?_
 refine WL.nil (WE.then_normal (WC.seq (WC.region ?_)))
 refine WL.q (oq_assign rfl) rfl rfl rfl ?_
 refine WL.nil (WE.then_normal (WC.seq (WC.region ?_)))
 refine WL.q (oq_assign rfl) rfl rfl rfl ?_
 refine WL.nil (WE.then_normal (WC.seq (WC.region ?_)))
 refine WL.q (oq_assign rfl) rfl rfl rfl ?_
 refine WL.nil (WE.then_normal (WC.seq (WC.region ?_)))
 refine WL.q (oq_assign rfl) rfl rfl rfl ?_
 refine WL.nil (WE.then_normal (WC.seq (WC.region ?_)))
 refine WL.q (oq_assign rfl) rfl rfl rfl ?_
 refine WL.nil (WE.then_normal (WC.seq (WC.region ?_)))
 refine WL.q (oq_assign rfl) rfl rfl rfl ?_
 refine WL.nil (WE.then_normal (WC.seq (WC.region ?_)))
 refine WL.q (oq_assign rfl) rfl rfl rfl ?_
 refine WL.nil (WE.then_normal (WC.seq (WC.block ?_)))
 refine WC.unroll ?_
 refine WC.block (WC.seq (WC.region ?_))
 refine WL.q (oq_assign rfl) rfl rfl rfl ?_
 refine WL.nil (WE.then_normal (WC.seq (WC.region ?_)))
 refine WL.q (oq_move rfl) rfl rfl rfl ?_
 refine WL.qc (oq_callRm (ch0 G hT) (.tail _ (.head _)) call35 rfl) rfl rfl rfl ?_
 refine WL.q (oq_move rfl) rfl rfl rfl ?_
 refine WL.q (oq_extract rfl rfl) rfl rfl rfl ?_
 refine WL.q (oq_extract rfl rfl) rfl rfl rfl ?_
 refine WL.q (oq_extract rfl rfl) rfl rfl rfl ?_
 refine WL.q (oq_assign rfl) rfl rfl rfl ?_
 refine WL.q (oq_assign rfl) rfl rfl rfl ?_
 refine WL.q (oq_assign rfl) rfl rfl rfl ?_
 refine WL.nil (WE.then_normal (WC.seq (WC.region ?_)))
 refine WL.q (oq_move rfl) rfl rfl rfl ?_
 refine WL.q (oq_move rfl) rfl rfl rfl ?_
 refine WL.q ((oq_len_s Tryd.underlying9 rfl).to (v' := I 0) rfl) rfl rfl rfl ?_
 refine WL.q (oq_move rfl) rfl rfl rfl ?_
 refine WL.q ((oq_len_s Tryd.underlying9 rfl).to (v' := I 29) rfl) rfl rfl rfl ?_
 refine WL.q (oq_move rfl) rfl rfl rfl ?_
 refine WL.q ((oq_len_s Tryd.underlying9 rfl).to (v' := I 26) rfl) rfl rfl rfl ?_
 refine WL.q ((oq_sub rfl rfl (by rw [i64_lo, i64_hi]; omega)).to (v' := I 3) rfl) rfl rfl rfl ?_
 refine WL.q ((oq_slice_s2 Tryd.underlying9 rfl rfl rfl (by first | decide | simp)).to (v' := S [77, 111, 110]) rfl) rfl rfl rfl ?_
 refine WL.q (oq_assign rfl) rfl rfl rfl ?_
 refine WL.nil (WE.then_normal (WC.seq (WC.region ?_)))
 refine WL.q (oq_move rfl) rfl rfl rfl ?_
 refine WL.q (oq_move rfl) rfl rfl rfl ?_
 refine WL.qc (oq_callRm (skipY hE [(wb w 0), (wb w 1), (wb w 2), 44, 32, (hi d), (lo d), 32, (mb mo 0), (mb mo 1), (mb mo 2), 32, (hi (y / 100)), (lo (y / 100)), (hi (y % 100)), (lo (y % 100)), 32, (hi hh), (lo hh), 58, (hi mm), (lo mm), 58, (hi ss), (lo ss), 32, 71, 77, 84] [] [(wb w 0), (wb w 1), (wb w 2), 44, 32, (hi d), (lo d), 32, (mb mo 0), (mb mo 1), (mb mo 2), 32, (hi (y / 100)), (lo (y / 100)), (hi (y % 100)), (lo (y % 100)), 32, (hi hh), (lo hh), 58, (hi mm), (lo mm), 58, (hi ss), (lo ss), 32, 71, 77, 84] (by simp) (by simp) (by simp +decide [skipM, cutsp, hi_ne, lo_ne, mb_ne mo hmo])) (.tail _ (.head _)) call36 rfl) rfl rfl rfl ?_
 refine WL.q (oq_move rfl) rfl rfl rfl ?_
 refine WL.q (oq_extract rfl rfl) rfl rfl rfl ?_
 refine WL.q (oq_extract rfl rfl) rfl rfl rfl ?_
 refine WL.q (oq_assign rfl) rfl rfl rfl ?_
 refine WL.q (oq_assign rfl) rfl rfl rfl ?_
 refine WL.nil (WE.then_normal (WC.seq (WC.seq (WC.region ?_))))
 refine WL.q (oq_move rfl) rfl rfl rfl ?_
 refine WL.q ((oq_ineq Tryd.underlying39 rfl (.inl rfl)).to (v' := .bool false) rfl) rfl rfl rfl ?_
 refine WL.nil (WE.then_normal ?_)
 refine WC.cond_f rfl ?_
 refine WC.skip (WE.then_normal (WC.seq (WC.seq (WC.region ?_))))
 refine WL.q (oq_move rfl) rfl rfl rfl ?_
 refine WL.q ((oq_eql rfl rfl).to (v' := .bool false) (congrArg Value.bool (decide_eq_false (by omega)))) rfl rfl rfl ?_
 refine WL.nil (WE.then_normal ?_)
 refine WC.cond_f rfl ?_
 refine WC.skip (WE.then_normal (WC.seq (WC.region ?_)))
 refine WL.q (oq_move rfl) rfl rfl rfl ?_
 refine WL.q (oq_assign rfl) rfl rfl rfl ?_
 refine WL.nil (WE.then_normal (WC.seq (WC.region ?_)))
 refine WL.q (oq_assign rfl) rfl rfl rfl ?_
 refine WL.nil (WE.then_normal (WC.seq (WC.region ?_)))
 refine WL.q (oq_move rfl) rfl rfl rfl ?_
 refine WL.q (oq_assign rfl) rfl rfl rfl ?_
 refine WL.nil (WE.then_normal (WC.seq (WC.seq (WC.region ?_))))
 refine WL.q (oq_move rfl) rfl rfl rfl ?_
 refine WL.q ((oq_bits (op := .and) rfl rfl (by simp)).to (v' := I 262) (by kernel_rfl)) rfl rfl rfl ?_
 refine WL.nil (WE.then_normal (WC.block (WC.seq (WC.block (WC.seq (WC.block (WC.seq (WC.block (WC.seq (WC.block (WC.seq (WC.block (WC.seq (WC.block (WC.seq (WC.block (WC.seq (WC.block (WC.seq (WC.block (WC.seq (WC.block (WC.seq (WC.block (WC.seq (WC.block (WC.seq (WC.block (WC.seq (WC.block (WC.seq (WC.block (WC.seq (WC.block (WC.seq (WC.block (WC.seq (WC.block (WC.seq (WC.block (WC.seq (WC.block (WC.seq (WC.seq (WC.seq (WC.region ?_))))))))))))))))))))))))))))))))))))))))))))))
 refine WL.q ((oq_eql rfl rfl).to (v' := .bool false) (congrArg Value.bool (decide_eq_false (by omega)))) rfl rfl rfl ?_
 refine WL.q (oq_assign rfl) rfl rfl rfl ?_
 refine WL.nil (WE.then_normal (WC.sub (fr' := [(0, _), (1, _), (4, _), (6, _), (7, _), (8, _), (9, _), (10, _), (11, _), (12, _), (13, _), (14, _), (15, _), (16, _), (17, _), (18, _), (19, _), (20, _), (21, _), (22, _), (24, _), (26, _), (28, _), (91, _), (92, _)]) ?_ ⟨rfl, rfl, rfl, rfl, rfl, rfl, rfl, rfl, rfl, rfl, rfl, rfl, rfl, rfl, rfl, rfl, rfl, rfl, rfl, rfl, rfl, rfl, rfl, rfl, rfl, trivial⟩))
 refine WC.cond_f rfl ?_
 refine WC.skip (WE.then_normal (WC.seq (WC.seq (WC.region ?_))))
 refine WL.q ((oq_eql rfl rfl).to (v' := .bool false) (congrArg Value.bool (decide_eq_false (by omega)))) rfl rfl rfl ?_
 refine WL.q (oq_assign rfl) rfl rfl rfl ?_
 refine WL.nil (WE.then_normal ?_)
 refine WC.cond_f rfl ?_
 refine WC.skip (WE.then_normal (WC.seq (WC.seq (WC.region ?_))))
 refine WL.q ((oq_eql rfl rfl).to (v' := .bool false) (congrArg Value.bool (decide_eq_false (by omega)))) rfl rfl rfl ?_
 refine WL.q (oq_assign rfl) rfl rfl rfl ?_
 refine WL.nil (WE.then_normal ?_)
 refine WC.cond_f rfl ?_
 refine WC.skip (WE.then_normal (WC.seq (WC.seq (WC.region ?_))))
 refine WL.q ((oq_eql rfl rfl).to (v' := .bool false) (congrArg Value.bool (decide_eq_false (by omega)))) rfl rfl rfl ?_
 refine WL.q (oq_assign rfl) rfl rfl rfl ?_
 refine WL.nil (WE.then_normal ?_)
 refine WC.cond_f rfl ?_
 refine WC.skip (WE.then_normal (WC.seq (WC.seq (WC.seq (WC.region ?_)))))
 refine WL.q ((oq_eql rfl rfl).to (v' := .bool false) (congrArg Value.bool (decide_eq_false (by omega)))) rfl rfl rfl ?_
 refine WL.q (oq_assign rfl) rfl rfl rfl ?_
 refine WL.nil (WE.then_normal ?_)
 refine WC.cond_f rfl ?_
 refine WC.region ?_
 refine WL.q ((oq_eql rfl rfl).to (v' := .bool false) (congrArg Value.bool (decide_eq_false (by omega)))) rfl rfl rfl ?_
 refine WL.q (oq_assign rfl) rfl rfl rfl ?_
 refine WL.nil (WE.then_normal ?_)
 refine WC.cond_f rfl ?_
 refine WC.skip (WE.then_normal (WC.seq (WC.seq (WC.region ?_))))
 refine WL.q ((oq_eql rfl rfl).to (v' := .bool true) (congrArg Value.bool (decide_eq_true (by omega)))) rfl rfl rfl ?_
 refine WL.q (oq_assign rfl) rfl rfl rfl ?_
 refine WL.nil (WE.then_normal ?_)
 refine WC.cond_t rfl ?_
 refine WC.exit (WE.then_exit (WE.then_exit ?_))
 refine WE.block_other rfl ?_
 refine WE.then_exit ?_
 refine WE.block_other rfl ?_
 refine WE.then_exit ?_
 refine WE.block_other rfl ?_
 refine WE.then_exit ?_
 refine WE.block_other rfl ?_
 refine WE.then_exit ?_
 refine WE.block_other rfl ?_
 refine WE.then_exit (WE.block_same (WE.then_normal (WC.seq (WC.region ?_))))
 refine WL.callA0 (dayNames) call42 rfl rfl rfl fun v83_0 N83_0 hR83_0 hN83_0 => ?_
 have hR83_0 : RdS 1 v83_0 N83_0 7 (strsV week) := hR83_0
 refine WL.q (oq_move rfl) rfl rfl rfl ?_
 refine WL.qc (oq_callRm (lookupY v83_0 N83_0 week [(wb w 0), (wb w 1), (wb w 2), 44, 32, (hi d), (lo d), 32, (mb mo 0), (mb mo 1), (mb mo 2), 32, (hi (y / 100)), (lo (y / 100)), (hi (y % 100)), (lo (y % 100)), 32, (hi hh), (lo hh), 58, (hi mm), (lo mm), 58, (hi ss), (lo ss), 32, 71, 77, 84] hR83_0 (by decide) (by simp) w _ (look_week w hw _)) (.head _) call39 rfl) rfl rfl rfl ?_
 refine WL.q (oq_move rfl) rfl rfl rfl ?_
 refine WL.q (oq_extract rfl rfl) rfl rfl rfl ?_
 refine WL.q (oq_extract rfl rfl) rfl rfl rfl ?_
 refine WL.q (oq_extract rfl rfl) rfl rfl rfl ?_
 refine WL.q (oq_assign rfl) rfl rfl rfl ?_
 refine WL.q (oq_assign rfl) rfl rfl rfl ?_
 refine WL.nil (WE.then_normal (WC.exit ?_))
 refine WE.block_other rfl ?_
 refine WE.then_exit ?_
 refine WE.block_other rfl ?_
 refine WE.then_exit ?_
 refine WE.block_other rfl ?_
 refine WE.then_exit ?_
 refine WE.block_other rfl ?_
 refine WE.then_exit ?_
 refine WE.block_other rfl ?_
 refine WE.then_exit ?_
 refine WE.block_other rfl ?_
 refine WE.then_exit ?_
 refine WE.block_other rfl ?_
 refine WE.then_exit ?_
 refine WE.block_other rfl ?_
 refine WE.then_exit ?_
 refine WE.block_other rfl ?_
 refine WE.then_exit ?_
 refine WE.block_other rfl ?_
 refine WE.then_exit ?_
 refine WE.block_other rfl ?_
 refine WE.then_exit ?_
 refine WE.block_other rfl ?_
 refine WE.then_exit ?_
 refine WE.block_other rfl ?_
 refine WE.then_exit ?_
 refine WE.block_other rfl ?_
 refine WE.then_exit (WE.block_same (WE.then_normal (WC.seq (WC.seq (WC.region ?_)))))
 refine WL.q (oq_move rfl) rfl rfl rfl ?_
 refine WL.q ((oq_sneq rfl rfl).to (v' := .bool false) (by kernel_rfl)) rfl rfl rfl ?_
 refine WL.nil (WE.then_normal ?_)
 refine WC.cond_f rfl ?_
 refine WC.skip (WE.then_normal (WC.seq (WC.region ?_)))
 refine WL.q (oq_move rfl) rfl rfl rfl ?_
 refine WL.q ((oq_ineq Tryd.underlying39 rfl (.inl rfl)).to (v' := .bool false) rfl) rfl rfl rfl ?_
 refine WL.nil (WE.then_normal ?_)
 refine WC.cond_f rfl ?_
 refine WC.skip (WE.block_normal ?_)
 refine WE.forget hN83_0 ?_
 refine WE.round ?_
 refine WC.sub (fr' := [(0, _), (1, _), (4, _), (6, _), (7, _), (8, _), (9, _), (10, _), (11, _), (12, _), (13, _), (14, _), (15, _), (16, _), (17, _), (18, _), (19, _), (20, _), (21, _)]) ?_ ⟨rfl, rfl, rfl, rfl, rfl, rfl, rfl, rfl, rfl, rfl, rfl, rfl, rfl, rfl, rfl, rfl, rfl, rfl, rfl, trivial⟩
 refine WC.block (WC.seq (WC.region ?_))
 refine WL.q (oq_assign rfl) rfl rfl rfl ?_
 refine WL.nil (WE.then_normal (WC.seq (WC.region ?_)))
 refine WL.q (oq_move rfl) rfl rfl rfl ?_
 refine WL.qc (oq_callRm (ch1 G hT) (.tail _ (.head _)) call35 rfl) rfl rfl rfl ?_
 refine WL.q (oq_move rfl) rfl rfl rfl ?_
 refine WL.q (oq_extract rfl rfl) rfl rfl rfl ?_
 refine WL.q (oq_extract rfl rfl) rfl rfl rfl ?_
 refine WL.q (oq_extract rfl rfl) rfl rfl rfl ?_
 refine WL.q (oq_assign rfl) rfl rfl rfl ?_
 refine WL.q (oq_assign rfl) rfl rfl rfl ?_
 refine WL.q (oq_assign rfl) rfl rfl rfl ?_
 refine WL.nil (WE.then_normal (WC.seq (WC.region ?_)))
 refine WL.q (oq_move rfl) rfl rfl rfl ?_
 refine WL.q (oq_move rfl) rfl rfl rfl ?_
 refine WL.q ((oq_len_s Tryd.underlying9 rfl).to (v' := I 2) rfl) rfl rfl rfl ?_
 refine WL.q (oq_move rfl) rfl rfl rfl ?_
 refine WL.q ((oq_len_s Tryd.underlying9 rfl).to (v' := I 26) rfl) rfl rfl rfl ?_
 refine WL.q (oq_move rfl) rfl rfl rfl ?_
 refine WL.q ((oq_len_s Tryd.underlying9 rfl).to (v' := I 22) rfl) rfl rfl rfl ?_
 refine WL.q ((oq_sub rfl rfl (by rw [i64_lo, i64_hi]; omega)).to (v' := I 4) rfl) rfl rfl rfl ?_
 refine WL.q ((oq_slice_s2 Tryd.underlying9 rfl rfl rfl (by first | decide | simp)).to (v' := S [48, 50]) rfl) rfl rfl rfl ?_
 refine WL.q (oq_assign rfl) rfl rfl rfl ?_
 refine WL.nil (WE.then_normal (WC.seq (WC.region ?_)))
 refine WL.q (oq_move rfl) rfl rfl rfl ?_
 refine WL.q (oq_move rfl) rfl rfl rfl ?_
 refine WL.qc (oq_callRm (skipY hE [44, 32, (hi d), (lo d), 32, (mb mo 0), (mb mo 1), (mb mo 2), 32, (hi (y / 100)), (lo (y / 100)), (hi (y % 100)), (lo (y % 100)), 32, (hi hh), (lo hh), 58, (hi mm), (lo mm), 58, (hi ss), (lo ss), 32, 71, 77, 84] [44, 32] [(hi d), (lo d), 32, (mb mo 0), (mb mo 1), (mb mo 2), 32, (hi (y / 100)), (lo (y / 100)), (hi (y % 100)), (lo (y % 100)), 32, (hi hh), (lo hh), 58, (hi mm), (lo mm), 58, (hi ss), (lo ss), 32, 71, 77, 84] (by simp) (by simp) (by simp +decide [skipM, cutsp, hi_ne, lo_ne, mb_ne mo hmo])) (.tail _ (.head _)) call36 rfl) rfl rfl rfl ?_
 refine WL.q (oq_move rfl) rfl rfl rfl ?_
 refine WL.q (oq_extract rfl rfl) rfl rfl rfl ?_
 refine WL.q (oq_extract rfl rfl) rfl rfl rfl ?_
 refine WL.q (oq_assign rfl) rfl rfl rfl ?_
 refine WL.q (oq_assign rfl) rfl rfl rfl ?_
 refine WL.nil (WE.then_normal (WC.seq (WC.seq (WC.region ?_))))
 refine WL.q (oq_move rfl) rfl rfl rfl ?_
 refine WL.q ((oq_ineq Tryd.underlying39 rfl (.inl rfl)).to (v' := .bool false) rfl) rfl rfl rfl ?_
 refine WL.nil (WE.then_normal ?_)
 refine WC.cond_f rfl ?_
 refine WC.skip (WE.then_normal (WC.seq (WC.seq (WC.region ?_))))
 refine WL.q (oq_move rfl) rfl rfl rfl ?_
 refine WL.q ((oq_eql rfl rfl).to (v' := .bool false) (congrArg Value.bool (decide_eq_false (by omega)))) rfl rfl rfl ?_
 refine WL.nil (WE.then_normal ?_)
 refine WC.cond_f rfl ?_
 refine WC.skip (WE.then_normal (WC.seq (WC.region ?_)))
 refine WL.q (oq_move rfl) rfl rfl rfl ?_
 refine WL.q (oq_assign rfl) rfl rfl rfl ?_
 refine WL.nil (WE.then_normal (WC.seq (WC.region ?_)))
 refine WL.q (oq_assign rfl) rfl rfl rfl ?_
 refine WL.nil (WE.then_normal (WC.sub (fr' := [(0, _), (1, _), (4, _), (6, _), (7, _), (8, _), (9, _), (10, _), (11, _), (12, _), (13, _), (14, _), (15, _), (16, _), (17, _), (18, _), (19, _), (20, _), (21, _), (22, _), (24, _), (26, _)]) ?_ ⟨rfl, rfl, rfl, rfl, rfl, rfl, rfl, rfl, rfl, rfl, rfl, rfl, rfl, rfl, rfl, rfl, rfl, rfl, rfl, rfl, rfl, rfl, trivial⟩))
 refine WC.seq (WC.region ?_)
 refine WL.q (oq_move rfl) rfl rfl rfl ?_
 refine WL.q (oq_assign rfl) rfl rfl rfl ?_
 refine WL.nil (WE.then_normal (WC.seq (WC.seq (WC.region ?_))))
 refine WL.q (oq_move rfl) rfl rfl rfl ?_
 refine WL.q ((oq_bits (op := .and) rfl rfl (by simp)).to (v' := I 265) (by kernel_rfl)) rfl rfl rfl ?_
 refine WL.nil (WE.then_normal (WC.block (WC.seq (WC.block (WC.seq (WC.block (WC.seq (WC.block (WC.seq (WC.block (WC.seq (WC.block (WC.seq (WC.block (WC.seq (WC.block (WC.seq (WC.block (WC.seq (WC.block (WC.seq (WC.block (WC.seq (WC.block (WC.seq (WC.block (WC.seq (WC.block (WC.seq (WC.block (WC.seq (WC.block (WC.seq (WC.block (WC.seq (WC.block (WC.seq (WC.block (WC.seq (WC.block (WC.seq (WC.block (WC.seq (WC.seq (WC.seq (WC.region ?_))))))))))))))))))))))))))))))))))))))))))))))
 refine WL.q ((oq_eql rfl rfl).to (v' := .bool false) (congrArg Value.bool (decide_eq_false (by omega)))) rfl rfl rfl ?_
 refine WL.q (oq_assign rfl) rfl rfl rfl ?_
 refine WL.nil (WE.then_normal ?_)
 refine WC.cond_f rfl ?_
 refine WC.skip (WE.then_normal (WC.seq (WC.seq (WC.region ?_))))
 refine WL.q ((oq_eql rfl rfl).to (v' := .bool false) (congrArg Value.bool (decide_eq_false (by omega)))) rfl rfl rfl ?_
 refine WL.q (oq_assign rfl) rfl rfl rfl ?_
 refine WL.nil (WE.then_normal ?_)
 refine WC.cond_f rfl ?_
 refine WC.skip (WE.then_normal (WC.seq (WC.seq (WC.region ?_))))
 refine WL.q ((oq_eql rfl rfl).to (v' := .bool false) (congrArg Value.bool (decide_eq_false (by omega)))) rfl rfl rfl ?_
 refine WL.q (oq_assign rfl) rfl rfl rfl ?_
 refine WL.nil (WE.then_normal ?_)
 refine WC.cond_f rfl ?_
 refine WC.skip (WE.then_normal (WC.seq (WC.seq (WC.region ?_))))
 refine WL.q ((oq_eql rfl rfl).to (v' := .bool false) (congrArg Value.bool (decide_eq_false (by omega)))) rfl rfl rfl ?_
 refine WL.q (oq_assign rfl) rfl rfl rfl ?_
 refine WL.nil (WE.then_normal ?_)
 refine WC.cond_f rfl ?_
 refine WC.skip (WE.then_normal (WC.seq (WC.seq (WC.seq (WC.region ?_)))))
 refine WL.q ((oq_eql rfl rfl).to (v' := .bool false) (congrArg Value.bool (decide_eq_false (by omega)))) rfl rfl rfl ?_
 refine WL.q (oq_assign rfl) rfl rfl rfl ?_
 refine WL.nil (WE.then_normal ?_)
 refine WC.cond_f rfl ?_
 refine WC.region ?_
 refine WL.q ((oq_eql rfl rfl).to (v' := .bool false) (congrArg Value.bool (decide_eq_false (by omega)))) rfl rfl rfl ?_
 refine WL.q (oq_assign rfl) rfl rfl rfl ?_
 refine WL.nil (WE.then_normal ?_)
 refine WC.cond_f rfl ?_
 refine WC.skip (WE.then_normal (WC.seq (WC.seq (WC.region ?_))))
 refine WL.q ((oq_eql rfl rfl).to (v' := .bool false) (congrArg Value.bool (decide_eq_false (by omega)))) rfl rfl rfl ?_
 refine WL.q (oq_assign rfl) rfl rfl rfl ?_
 refine WL.nil (WE.then_normal ?_)
 refine WC.cond_f rfl ?_
 refine WC.skip (WE.then_normal (WC.seq (WC.seq (WC.region ?_))))
 refine WL.q ((oq_eql rfl rfl).to (v' := .bool false) (congrArg Value.bool (decide_eq_false (by omega)))) rfl rfl rfl ?_
 refine WL.q (oq_assign rfl) rfl rfl rfl ?_
 refine WL.nil (WE.then_normal ?_)
 refine WC.cond_f rfl ?_
 refine WC.skip (WE.then_normal (WC.seq (WC.seq (WC.seq (WC.region ?_)))))
 refine WL.q ((oq_eql rfl rfl).to (v' := .bool false) (congrArg Value.bool (decide_eq_false (by omega)))) rfl rfl rfl ?_
 refine WL.q (oq_assign rfl) rfl rfl rfl ?_
 refine WL.nil (WE.then_normal ?_)
 refine WC.cond_f rfl ?_
 refine WC.seq (WC.region ?_)
 refine WL.q ((oq_eql rfl rfl).to (v' := .bool false) (congrArg Value.bool (decide_eq_false (by omega)))) rfl rfl rfl ?_
 refine WL.q (oq_assign rfl) rfl rfl rfl ?_
 refine WL.nil (WE.then_normal ?_)
 refine WC.cond_f rfl ?_
 refine WC.region ?_
 refine WL.q ((oq_eql rfl rfl).to (v' := .bool true) (congrArg Value.bool (decide_eq_true (by omega)))) rfl rfl rfl ?_
 refine WL.q (oq_assign rfl) rfl rfl rfl ?_
 refine WL.nil (WE.then_normal ?_)
 refine WC.cond_t rfl ?_
 refine WC.exit (WE.then_exit (WE.then_exit ?_))
 refine WE.block_other rfl ?_
 refine WE.then_exit ?_
 refine WE.block_other rfl ?_
 refine WE.then_exit ?_
 refine WE.block_other rfl ?_
 refine WE.then_exit ?_
 refine WE.block_other rfl ?_
 refine WE.then_exit ?_
 refine WE.block_other rfl ?_
 refine WE.then_exit ?_
 refine WE.block_other rfl ?_
 refine WE.then_exit ?_
 refine WE.block_other rfl ?_
 refine WE.then_exit (WE.block_same (WE.then_normal (WC.seq (WC.seq (WC.seq (WC.region ?_))))))
 refine WL.q (oq_move rfl) rfl rfl rfl ?_
 refine WL.q ((oq_eql rfl rfl).to (v' := .bool false) (congrArg Value.bool (decide_eq_false (by omega)))) rfl rfl rfl ?_
 refine WL.q (oq_move rfl) rfl rfl rfl ?_
 refine WL.skip rfl rfl rfl ?_
 refine WL.skip rfl rfl rfl ?_
 refine WL.skip rfl rfl rfl ?_
 refine WL.q (oq_pick_f rfl rfl) rfl rfl rfl ?_
 refine WL.q (oq_move rfl) rfl rfl rfl ?_
 refine WL.skip rfl rfl rfl ?_
 refine WL.skip rfl rfl rfl ?_
 refine WL.skip rfl rfl rfl ?_
 refine WL.q (oq_pick_f rfl rfl) rfl rfl rfl ?_
 refine WL.nil (WE.then_normal ?_)
 refine WC.cond_f rfl ?_
 refine WC.skip (WE.then_normal (WC.region ?_))
 refine WL.q (oq_move rfl) rfl rfl rfl ?_
 refine WL.q (oq_move rfl) rfl rfl rfl ?_
 refine WL.q ((oq_eql rfl rfl).to (v' := .bool true) (congrArg Value.bool (decide_eq_true (by omega)))) rfl rfl rfl ?_
 refine WL.qc (oq_call (getnumA d (by omega) [32, (mb mo 0), (mb mo 1), (mb mo 2), 32, (hi (y / 100)), (lo (y / 100)), (hi (y % 100)), (lo (y % 100)), 32, (hi hh), (lo hh), 58, (hi mm), (lo mm), 58, (hi ss), (lo ss), 32, 71, 77, 84] (by simp) true) call41 rfl) rfl rfl rfl ?_
 refine WL.q (oq_move rfl) rfl rfl rfl ?_
 refine WL.q (oq_extract rfl rfl) rfl rfl rfl ?_
 refine WL.q (oq_extract rfl rfl) rfl rfl rfl ?_
 refine WL.q (oq_extract rfl rfl) rfl rfl rfl ?_
 refine WL.q (oq_assign rfl) rfl rfl rfl ?_
 refine WL.q (oq_assign rfl) rfl rfl rfl ?_
 refine WL.q (oq_assign rfl) rfl rfl rfl ?_
 refine WL.nil (WE.then_normal (WC.exit ?_))
 refine WE.block_other rfl ?_
 refine WE.then_exit ?_
 refine WE.block_other rfl ?_
 refine WE.then_exit ?_
 refine WE.block_other rfl ?_
 refine WE.then_exit ?_
 refine WE.block_other rfl ?_
 refine WE.then_exit ?_
 refine WE.block_other rfl ?_
 refine WE.then_exit ?_
 refine WE.block_other rfl ?_
 refine WE.then_exit ?_
 refine WE.block_other rfl ?_
 refine WE.then_exit ?_
 refine WE.block_other rfl ?_
 refine WE.then_exit ?_
 refine WE.block_other rfl ?_
 refine WE.then_exit ?_
 refine WE.block_other rfl ?_
 refine WE.then_exit ?_
 refine WE.block_other rfl ?_
 refine WE.then_exit ?_
 refine WE.block_other rfl ?_
 refine WE.then_exit (WE.block_same (WE.then_normal (WC.seq (WC.seq (WC.region ?_)))))
 refine WL.q (oq_move rfl) rfl rfl rfl ?_
 refine WL.q ((oq_sneq rfl rfl).to (v' := .bool false) (by kernel_rfl)) rfl rfl rfl ?_
 refine WL.nil (WE.then_normal ?_)
 refine WC.cond_f rfl ?_
 refine WC.skip (WE.then_normal (WC.seq (WC.region ?_)))
 refine WL.q (oq_move rfl) rfl rfl rfl ?_
 refine WL.q ((oq_ineq Tryd.underlying39 rfl (.inl rfl)).to (v' := .bool false) rfl) rfl rfl rfl ?_
 refine WL.nil (WE.then_normal ?_)
 refine WC.cond_f rfl ?_
 refine WC.skip (WE.block_normal ?_)
 refine WE.round ?_
 refine WC.sub (fr' := [(0, _), (1, _), (4, _), (6, _), (7, _), (8, _), (9, _), (10, _), (11, _), (12, _), (13, _), (14, _), (15, _), (16, _), (17, _), (18, _), (19, _), (20, _), (21, _)]) ?_ ⟨rfl, rfl, rfl, rfl, rfl, rfl, rfl, rfl, rfl, rfl, rfl, rfl, rfl, rfl, rfl, rfl, rfl, rfl, rfl, trivial⟩
 refine WC.block (WC.seq (WC.region ?_))
 refine WL.q (oq_assign rfl) rfl rfl rfl ?_
 refine WL.nil (WE.then_normal (WC.seq (WC.region ?_)))
 refine WL.q (oq_move rfl) rfl rfl rfl ?_
 refine WL.qc (oq_callRm (ch2 G hT) (.tail _ (.head _)) call35 rfl) rfl rfl rfl ?_
 refine WL.q (oq_move rfl) rfl rfl rfl ?_
 refine WL.q (oq_extract rfl rfl) rfl rfl rfl ?_
 refine WL.q (oq_extract rfl rfl) rfl rfl rfl ?_
 refine WL.q (oq_extract rfl rfl) rfl rfl rfl ?_
 refine WL.q (oq_assign rfl) rfl rfl rfl ?_
 refine WL.q (oq_assign rfl) rfl rfl rfl ?_
 refine WL.q (oq_assign rfl) rfl rfl rfl ?_
 refine WL.nil (WE.then_normal (WC.seq (WC.region ?_)))
 refine WL.q (oq_move rfl) rfl rfl rfl ?_
 refine WL.q (oq_move rfl) rfl rfl rfl ?_
 refine WL.q ((oq_len_s Tryd.underlying9 rfl).to (v' := I 1) rfl) rfl rfl rfl ?_
 refine WL.q (oq_move rfl) rfl rfl rfl ?_
 refine WL.q ((oq_len_s Tryd.underlying9 rfl).to (v' := I 22) rfl) rfl rfl rfl ?_
 refine WL.q (oq_move rfl) rfl rfl rfl ?_
 refine WL.q ((oq_len_s Tryd.underlying9 rfl).to (v' := I 18) rfl) rfl rfl rfl ?_
 refine WL.q ((oq_sub rfl rfl (by rw [i64_lo, i64_hi]; omega)).to (v' := I 4) rfl) rfl rfl rfl ?_
 refine WL.q ((oq_slice_s2 Tryd.underlying9 rfl rfl rfl (by first | decide | simp)).to (v' := S [74, 97, 110]) rfl) rfl rfl rfl ?_
 refine WL.q (oq_assign rfl) rfl rfl rfl ?_
 refine WL.nil (WE.then_normal (WC.sub (fr' := [(1, _), (4, _), (6, _), (7, _), (8, _), (9, _), (10, _), (11, _), (12, _), (13, _), (14, _), (15, _), (16, _), (17, _), (18, _), (19, _), (20, _), (21, _), (23, _), (24, _), (25, _), (26, _)]) ?_ ⟨rfl, rfl, rfl, rfl, rfl, rfl, rfl, rfl, rfl, rfl, rfl, rfl, rfl, rfl, rfl, rfl, rfl, rfl, rfl, rfl, rfl, rfl, trivial⟩))
 refine WC.seq (WC.region ?_)
 refine WL.q (oq_move rfl) rfl rfl rfl ?_
 refine WL.q (oq_move rfl) rfl rfl rfl ?_
 refine WL.qc (oq_callRm (skipY hE [32, (mb mo 0), (mb mo 1), (mb mo 2), 32, (hi (y / 100)), (lo (y / 100)), (hi (y % 100)), (lo (y % 100)), 32, (hi hh), (lo hh), 58, (hi mm), (lo mm), 58, (hi ss), (lo ss), 32, 71, 77, 84] [32] [(mb mo 0), (mb mo 1), (mb mo 2), 32, (hi (y / 100)), (lo (y / 100)), (hi (y % 100)), (lo (y % 100)), 32, (hi hh), (lo hh), 58, (hi mm), (lo mm), 58, (hi ss), (lo ss), 32, 71, 77, 84] (by simp) (by simp) (by simp +decide [skipM, cutsp, hi_ne, lo_ne, mb_ne mo hmo])) (.tail _ (.head _)) call36 rfl) rfl rfl rfl ?_
 refine WL.q (oq_move rfl) rfl rfl rfl ?_
 refine WL.q (oq_extract rfl rfl) rfl rfl rfl ?_
 refine WL.q (oq_extract rfl rfl) rfl rfl rfl ?_
 refine WL.q (oq_assign rfl) rfl rfl rfl ?_
 refine WL.q (oq_assign rfl) rfl rfl rfl ?_
 refine WL.nil (WE.then_normal (WC.seq (WC.seq (WC.region ?_))))
 refine WL.q (oq_move rfl) rfl rfl rfl ?_
 refine WL.q ((oq_ineq Tryd.underlying39 rfl (.inl rfl)).to (v' := .bool false) rfl) rfl rfl rfl ?_
 refine WL.nil (WE.then_normal ?_)
 refine WC.cond_f rfl ?_
 refine WC.skip (WE.then_normal (WC.seq (WC.seq (WC.region ?_))))
 refine WL.q (oq_move rfl) rfl rfl rfl ?_
 refine WL.q ((oq_eql rfl rfl).to (v' := .bool false) (congrArg Value.bool (decide_eq_false (by omega)))) rfl rfl rfl ?_
 refine WL.nil (WE.then_normal ?_)
 refine WC.cond_f rfl ?_
 refine WC.skip (WE.then_normal (WC.seq (WC.region ?_)))
 refine WL.q (oq_move rfl) rfl rfl rfl ?_
 refine WL.q (oq_assign rfl) rfl rfl rfl ?_
 refine WL.nil (WE.then_normal (WC.seq (WC.region ?_)))
 refine WL.q (oq_assign rfl) rfl rfl rfl ?_
 refine WL.nil (WE.then_normal (WC.seq (WC.region ?_)))
 refine WL.q (oq_move rfl) rfl rfl rfl ?_
 refine WL.q (oq_assign rfl) rfl rfl rfl ?_
 refine WL.nil (WE.then_normal (WC.seq (WC.seq (WC.region ?_))))
 refine WL.q (oq_move rfl) rfl rfl rfl ?_
 refine WL.q ((oq_bits (op := .and) rfl rfl (by simp)).to (v' := I 258) (by kernel_rfl)) rfl rfl rfl ?_
 refine WL.nil (WE.then_normal (WC.block (WC.seq (WC.block (WC.seq (WC.block (WC.seq (WC.block (WC.seq (WC.block (WC.seq (WC.block (WC.seq (WC.block (WC.seq (WC.block (WC.seq (WC.block (WC.seq (WC.block (WC.seq (WC.block (WC.seq (WC.block (WC.seq (WC.block (WC.seq (WC.block (WC.seq (WC.block (WC.seq (WC.block (WC.seq (WC.block (WC.seq (WC.block (WC.seq (WC.block (WC.seq (WC.block (WC.seq (WC.block (WC.seq (WC.seq (WC.seq (WC.region ?_))))))))))))))))))))))))))))))))))))))))))))))
 refine WL.q ((oq_eql rfl rfl).to (v' := .bool false) (congrArg Value.bool (decide_eq_false (by omega)))) rfl rfl rfl ?_
 refine WL.q (oq_assign rfl) rfl rfl rfl ?_
 refine WL.nil (WE.then_normal ?_)
 refine WC.cond_f rfl ?_
 refine WC.skip (WE.then_normal (WC.seq (WC.seq (WC.region ?_))))
 refine WL.q ((oq_eql rfl rfl).to (v' := .bool false) (congrArg Value.bool (decide_eq_false (by omega)))) rfl rfl rfl ?_
 refine WL.q (oq_assign rfl) rfl rfl rfl ?_
 refine WL.nil (WE.then_normal ?_)
 refine WC.cond_f rfl ?_
 refine WC.skip (WE.then_normal (WC.seq (WC.seq (WC.region ?_))))
 refine WL.q ((oq_eql rfl rfl).to (v' := .bool true) (congrArg Value.bool (decide_eq_true (by omega)))) rfl rfl rfl ?_
 refine WL.q (oq_assign rfl) rfl rfl rfl ?_
 refine WL.nil (WE.then_normal ?_)
 refine WC.cond_t rfl ?_
 refine WC.exit (WE.then_exit (WE.then_exit ?_))
 refine WE.block_other rfl ?_
 refine WE.then_exit ?_
 refine WE.block_other rfl ?_
 refine WE.then_exit (WE.block_same (WE.then_normal (WC.seq (WC.seq (WC.region ?_)))))
 refine WL.callA0 (monNames) call40 rfl rfl rfl fun v76_0 N76_0 hR76_0 hN76_0 => ?_
 have hR76_0 : RdS 1 v76_0 N76_0 12 (strsV months) := hR76_0
 refine WL.q (oq_move rfl) rfl rfl rfl ?_
 refine WL.qc (oq_callRm (lookupY v76_0 N76_0 months [(mb mo 0), (mb mo 1), (mb mo 2), 32, (hi (y / 100)), (lo (y / 100)), (hi (y % 100)), (lo (y % 100)), 32, (hi hh), (lo hh), 58, (hi mm), (lo mm), 58, (hi ss), (lo ss), 32, 71, 77, 84] hR76_0 (by decide) (by simp) mo _ (look_mon mo hmo _)) (.head _) call39 rfl) rfl rfl rfl ?_
 refine WL.q (oq_move rfl) rfl rfl rfl ?_
 refine WL.q (oq_extract rfl rfl) rfl rfl rfl ?_
 refine WL.q (oq_extract rfl rfl) rfl rfl rfl ?_
 refine WL.q (oq_extract rfl rfl) rfl rfl rfl ?_
 refine WL.q (oq_assign rfl) rfl rfl rfl ?_
 refine WL.q (oq_assign rfl) rfl rfl rfl ?_
 refine WL.q (oq_assign rfl) rfl rfl rfl ?_
 refine WL.nil (WE.then_normal (WC.region ?_))
 refine WL.q (oq_move rfl) rfl rfl rfl ?_
 refine WL.q ((oq_add rfl rfl (by rw [i64_lo, i64_hi]; omega)).to (v' := I ((mo + 1 : Nat) : Int)) (congrArg I (by omega))) rfl rfl rfl ?_
 refine WL.q (oq_assign rfl) rfl rfl rfl ?_
 refine WL.nil (WE.then_normal (WC.exit ?_))
 refine WE.block_other rfl ?_
 refine WE.then_exit ?_
 refine WE.block_other rfl ?_
 refine WE.then_exit ?_
 refine WE.block_other rfl ?_
 refine WE.then_exit ?_
 refine WE.block_other rfl ?_
 refine WE.then_exit ?_
 refine WE.block_other rfl ?_
 refine WE.then_exit ?_
 refine WE.block_other rfl ?_
 refine WE.then_exit ?_
 refine WE.block_other rfl ?_
 refine WE.then_exit ?_
 refine WE.block_other rfl ?_
 refine WE.then_exit ?_
 refine WE.block_other rfl ?_
 refine WE.then_exit ?_
 refine WE.block_other rfl ?_
 refine WE.then_exit ?_
 refine WE.block_other rfl ?_
 refine WE.then_exit ?_
 refine WE.block_other rfl ?_
 refine WE.then_exit ?_
 refine WE.block_other rfl ?_
 refine WE.then_exit ?_
 refine WE.block_other rfl ?_
 refine WE.then_exit ?_
 refine WE.block_other rfl ?_
 refine WE.then_exit ?_
 refine WE.block_other rfl ?_
 refine WE.then_exit ?_
 refine WE.block_other rfl ?_
 refine WE.then_exit (WE.block_same (WE.then_normal (WC.seq (WC.seq (WC.region ?_)))))
 refine WL.q (oq_move rfl) rfl rfl rfl ?_
 refine WL.q ((oq_sneq rfl rfl).to (v' := .bool false) (by kernel_rfl)) rfl rfl rfl ?_
 refine WL.nil (WE.then_normal ?_)
 refine WC.cond_f rfl ?_
 refine WC.skip (WE.then_normal (WC.seq (WC.region ?_)))
 refine WL.q (oq_move rfl) rfl rfl rfl ?_
 refine WL.q ((oq_ineq Tryd.underlying39 rfl (.inl rfl)).to (v' := .bool false) rfl) rfl rfl rfl ?_
 refine WL.nil (WE.then_normal ?_)
 refine WC.cond_f rfl ?_
 refine WC.skip (WE.block_normal ?_)
 refine WE.forget hN76_0 ?_
 refine WE.round ?_
 refine WC.sub (fr' := [(0, _), (1, _), (4, _), (6, _), (7, _), (8, _), (9, _), (10, _), (11, _), (12, _), (13, _), (14, _), (15, _), (16, _), (17, _), (18, _), (19, _), (20, _), (21, _)]) ?_ ⟨rfl, rfl, rfl, rfl, rfl, rfl, rfl, rfl, rfl, rfl, rfl, rfl, rfl, rfl, rfl, rfl, rfl, rfl, rfl, trivial⟩
 refine WC.block (WC.seq (WC.region ?_))
 refine WL.q (oq_assign rfl) rfl rfl rfl ?_
 refine WL.nil (WE.then_normal (WC.seq (WC.region ?_)))
 refine WL.q (oq_move rfl) rfl rfl rfl ?_
 refine WL.qc (oq_callRm (ch3 G hT) (.tail _ (.head _)) call35 rfl) rfl rfl rfl ?_
 refine WL.q (oq_move rfl) rfl rfl rfl ?_
 refine WL.q (oq_extract rfl rfl) rfl rfl rfl ?_
 refine WL.q (oq_extract rfl rfl) rfl rfl rfl ?_
 refine WL.q (oq_extract rfl rfl) rfl rfl rfl ?_
 refine WL.q (oq_assign rfl) rfl rfl rfl ?_
 refine WL.q (oq_assign rfl) rfl rfl rfl ?_
 refine WL.q (oq_assign rfl) rfl rfl rfl ?_
 refine WL.nil (WE.then_normal (WC.seq (WC.region ?_)))
 refine WL.q (oq_move rfl) rfl rfl rfl ?_
 refine WL.q (oq_move rfl) rfl rfl rfl ?_
 refine WL.q ((oq_len_s Tryd.underlying9 rfl).to (v' := I 1) rfl) rfl rfl rfl ?_
 refine WL.q (oq_move rfl) rfl rfl rfl ?_
 refine WL.q ((oq_len_s Tryd.underlying9 rfl).to (v' := I 18) rfl) rfl rfl rfl ?_
 refine WL.q (oq_move rfl) rfl rfl rfl ?_
 refine WL.q ((oq_len_s Tryd.underlying9 rfl).to (v' := I 13) rfl) rfl rfl rfl ?_
 refine WL.q ((oq_sub rfl rfl (by rw [i64_lo, i64_hi]; omega)).to (v' := I 5) rfl) rfl rfl rfl ?_
 refine WL.q ((oq_slice_s2 Tryd.underlying9 rfl rfl rfl (by first | decide | simp)).to (v' := S [50, 48, 48, 54]) rfl) rfl rfl rfl ?_
 refine WL.q (oq_assign rfl) rfl rfl rfl ?_
 refine WL.nil (WE.then_normal (WC.sub (fr' := [(1, _), (4, _), (6, _), (7, _), (8, _), (9, _), (10, _), (11, _), (12, _), (13, _), (14, _), (15, _), (16, _), (17, _), (18, _), (19, _), (20, _), (21, _), (23, _), (24, _), (25, _), (26, _)]) ?_ ⟨rfl, rfl, rfl, rfl, rfl, rfl, rfl, rfl, rfl, rfl, rfl, rfl, rfl, rfl, rfl, rfl, rfl, rfl, rfl, rfl, rfl, rfl, trivial⟩))
 refine WC.seq (WC.region ?_)
 refine WL.q (oq_move rfl) rfl rfl rfl ?_
 refine WL.q (oq_move rfl) rfl rfl rfl ?_
 refine WL.qc (oq_callRm (skipY hE [32, (hi (y / 100)), (lo (y / 100)), (hi (y % 100)), (lo (y % 100)), 32, (hi hh), (lo hh), 58, (hi mm), (lo mm), 58, (hi ss), (lo ss), 32, 71, 77, 84] [32] [(hi (y / 100)), (lo (y / 100)), (hi (y % 100)), (lo (y % 100)), 32, (hi hh), (lo hh), 58, (hi mm), (lo mm), 58, (hi ss), (lo ss), 32, 71, 77, 84] (by simp) (by simp) (by simp +decide [skipM, cutsp, hi_ne, lo_ne, mb_ne mo hmo])) (.tail _ (.head _)) call36 rfl) rfl rfl rfl ?_
 refine WL.q (oq_move rfl) rfl rfl rfl ?_
 refine WL.q (oq_extract rfl rfl) rfl rfl rfl ?_
 refine WL.q (oq_extract rfl rfl) rfl rfl rfl ?_
 refine WL.q (oq_assign rfl) rfl rfl rfl ?_
 refine WL.q (oq_assign rfl) rfl rfl rfl ?_
 refine WL.nil (WE.then_normal (WC.seq (WC.seq (WC.region ?_))))
 refine WL.q (oq_move rfl) rfl rfl rfl ?_
 refine WL.q ((oq_ineq Tryd.underlying39 rfl (.inl rfl)).to (v' := .bool false) rfl) rfl rfl rfl ?_
 refine WL.nil (WE.then_normal ?_)
 refine WC.cond_f rfl ?_
 refine WC.skip (WE.then_normal (WC.seq (WC.seq (WC.region ?_))))
 refine WL.q (oq_move rfl) rfl rfl rfl ?_
 refine WL.q ((oq_eql rfl rfl).to (v' := .bool false) (congrArg Value.bool (decide_eq_false (by omega)))) rfl rfl rfl ?_
 refine WL.nil (WE.then_normal ?_)
 refine WC.cond_f rfl ?_
 refine WC.skip (WE.then_normal (WC.seq (WC.region ?_)))
 refine WL.q (oq_move rfl) rfl rfl rfl ?_
 refine WL.q (oq_assign rfl) rfl rfl rfl ?_
 refine WL.nil (WE.then_normal (WC.seq (WC.region ?_)))
 refine WL.q (oq_assign rfl) rfl rfl rfl ?_
 refine WL.nil (WE.then_normal (WC.seq (WC.region ?_)))
 refine WL.q (oq_move rfl) rfl rfl rfl ?_
 refine WL.q (oq_assign rfl) rfl rfl rfl ?_
 refine WL.nil (WE.then_normal (WC.seq (WC.seq (WC.region ?_))))
 refine WL.q (oq_move rfl) rfl rfl rfl ?_
 refine WL.q ((oq_bits (op := .and) rfl rfl (by simp)).to (v' := I 275) (by kernel_rfl)) rfl rfl rfl ?_
 refine WL.nil (WE.then_normal (WC.block (WC.seq (WC.block (WC.seq (WC.block (WC.seq (WC.block (WC.seq (WC.block (WC.seq (WC.block (WC.seq (WC.block (WC.seq (WC.block (WC.seq (WC.block (WC.seq (WC.block (WC.seq (WC.block (WC.seq (WC.block (WC.seq (WC.block (WC.seq (WC.block (WC.seq (WC.block (WC.seq (WC.block (WC.seq (WC.block (WC.seq (WC.block (WC.seq (WC.block (WC.seq (WC.block (WC.seq (WC.block (WC.seq (WC.seq (WC.seq (WC.region ?_))))))))))))))))))))))))))))))))))))))))))))))
 refine WL.q ((oq_eql rfl rfl).to (v' := .bool false) (congrArg Value.bool (decide_eq_false (by omega)))) rfl rfl rfl ?_
 refine WL.q (oq_assign rfl) rfl rfl rfl ?_
 refine WL.nil (WE.then_normal ?_)
 refine WC.cond_f rfl ?_
 refine WC.skip (WE.then_normal (WC.seq (WC.seq (WC.region ?_))))
 refine WL.q ((oq_eql rfl rfl).to (v' := .bool true) (congrArg Value.bool (decide_eq_true (by omega)))) rfl rfl rfl ?_
 refine WL.q (oq_assign rfl) rfl rfl rfl ?_
 refine WL.nil (WE.then_normal ?_)
 refine WC.cond_t rfl ?_
 refine WC.exit (WE.then_exit (WE.then_exit ?_))
 refine WE.block_other rfl ?_
 refine WE.then_exit (WE.block_same (WE.then_normal (WC.seq (WC.seq (WC.seq (WC.region ?_))))))
 refine WL.q (oq_move rfl) rfl rfl rfl ?_
 refine WL.q ((oq_len_s Tryd.underlying9 rfl).to (v' := I 17) rfl) rfl rfl rfl ?_
 refine WL.q ((oq_lss rfl rfl).to (v' := .bool false) (congrArg Value.bool (decide_eq_false (by omega)))) rfl rfl rfl ?_
 refine WL.q (oq_move rfl) rfl rfl rfl ?_
 refine WL.q (oq_move rfl) rfl rfl rfl ?_
 refine WL.qc (oq_call (digT (y / 100) [(lo (y / 100)), (hi (y % 100)), (lo (y % 100)), 32, (hi hh), (lo hh), 58, (hi mm), (lo mm), 58, (hi ss), (lo ss), 32, 71, 77, 84] (by simp)) call30 rfl) rfl rfl rfl ?_
 refine WL.q ((oq_not rfl).to (v' := .bool false) rfl) rfl rfl rfl ?_
 refine WL.q (oq_pick_f rfl rfl) rfl rfl rfl ?_
 refine WL.nil (WE.then_normal ?_)
 refine WC.cond_f rfl ?_
 refine WC.skip (WE.then_normal (WC.seq (WC.quiet (by kernel_rfl) (by kernel_rfl) ?_)))
 refine WQ.q (oq_move rfl) rfl rfl rfl ?_
 refine WQ.q ((oq_slice_s2 Tryd.underlying9 rfl rfl rfl (by first | decide | simp)).to (v' := S [(hi (y / 100)), (lo (y / 100)), (hi (y % 100)), (lo (y % 100))]) rfl) rfl rfl rfl ?_
 refine WQ.q (oq_move rfl) rfl rfl rfl ?_
 refine WQ.q ((oq_slice_s1 Tryd.underlying9 rfl rfl (by first | decide | simp)).to (v' := S [32, (hi hh), (lo hh), 58, (hi mm), (lo mm), 58, (hi ss), (lo ss), 32, 71, 77, 84]) rfl) rfl rfl rfl ?_
 refine WQ.q (oq_assign rfl) rfl rfl rfl ?_
 refine WQ.q (oq_assign rfl) rfl rfl rfl ?_
 refine WQ.nil (WE.then_normal (WC.region ?_))
 refine WL.q (oq_move rfl) rfl rfl rfl ?_
 refine WL.qc (oq_call (atoi4 y (by omega)) call38 rfl) rfl rfl rfl ?_
 refine WL.q (oq_move rfl) rfl rfl rfl ?_
 refine WL.q (oq_extract rfl rfl) rfl rfl rfl ?_
 refine WL.q (oq_extract rfl rfl) rfl rfl rfl ?_
 refine WL.q (oq_assign rfl) rfl rfl rfl ?_
 refine WL.q (oq_assign rfl) rfl rfl rfl ?_
 refine WL.nil (WE.then_normal (WC.exit ?_))
 refine WE.block_other rfl ?_
 refine WE.then_exit ?_
 refine WE.block_other rfl ?_
 refine WE.then_exit ?_
 refine WE.block_other rfl ?_
 refine WE.then_exit ?_
 refine WE.block_other rfl ?_
 refine WE.then_exit ?_
 refine WE.block_other rfl ?_
 refine WE.then_exit ?_
 refine WE.block_other rfl ?_
 refine WE.then_exit ?_
 refine WE.block_other rfl ?_
 refine WE.then_exit ?_
 refine WE.block_other rfl ?_
 refine WE.then_exit ?_
 refine WE.block_other rfl ?_
 refine WE.then_exit ?_
 refine WE.block_other rfl ?_
 refine WE.then_exit ?_
 refine WE.block_other rfl ?_
 refine WE.then_exit ?_
 refine WE.block_other rfl ?_
 refine WE.then_exit ?_
 refine WE.block_other rfl ?_
 refine WE.then_exit ?_
 refine WE.block_other rfl ?_
 refine WE.then_exit ?_
 refine WE.block_other rfl ?_
 refine WE.then_exit ?_
 refine WE.block_other rfl ?_
 refine WE.then_exit ?_
 refine WE.block_other rfl ?_
 refine WE.then_exit ?_
 refine WE.block_other rfl ?_
 refine WE.then_exit (WE.block_same (WE.then_normal (WC.seq (WC.seq (WC.region ?_)))))
 refine WL.q (oq_move rfl) rfl rfl rfl ?_
 refine WL.q ((oq_sneq rfl rfl).to (v' := .bool false) (by kernel_rfl)) rfl rfl rfl ?_
 refine WL.nil (WE.then_normal ?_)
 refine WC.cond_f rfl ?_
 refine WC.skip (WE.then_normal (WC.seq (WC.region ?_)))
 refine WL.q (oq_move rfl) rfl rfl rfl ?_
 refine WL.q ((oq_ineq Tryd.underlying39 rfl (.inl rfl)).to (v' := .bool false) rfl) rfl rfl rfl ?_
 refine WL.nil (WE.then_normal ?_)
 refine WC.cond_f rfl ?_
 refine WC.skip (WE.block_normal ?_)
 refine WE.round ?_
 refine WC.sub (fr' := [(0, _), (1, _), (4, _), (6, _), (7, _), (8, _), (9, _), (10, _), (11, _), (12, _), (13, _), (14, _), (15, _), (16, _), (17, _), (18, _), (19, _), (20, _), (21, _)]) ?_ ⟨rfl, rfl, rfl, rfl, rfl, rfl, rfl, rfl, rfl, rfl, rfl, rfl, rfl, rfl, rfl, rfl, rfl, rfl, rfl, trivial⟩
 refine WC.block (WC.seq (WC.region ?_))
 refine WL.q (oq_assign rfl) rfl rfl rfl ?_
 refine WL.nil (WE.then_normal (WC.seq (WC.region ?_)))
 refine WL.q (oq_move rfl) rfl rfl rfl ?_
 refine WL.qc (oq_callRm (ch4 G hT) (.tail _ (.head _)) call35 rfl) rfl rfl rfl ?_
 refine WL.q (oq_move rfl) rfl rfl rfl ?_
 refine WL.q (oq_extract rfl rfl) rfl rfl rfl ?_
 refine WL.q (oq_extract rfl rfl) rfl rfl rfl ?_
 refine WL.q (oq_extract rfl rfl) rfl rfl rfl ?_
 refine WL.q (oq_assign rfl) rfl rfl rfl ?_
 refine WL.q (oq_assign rfl) rfl rfl rfl ?_
 refine WL.q (oq_assign rfl) rfl rfl rfl ?_
 refine WL.nil (WE.then_normal (WC.seq (WC.region ?_)))
 refine WL.q (oq_move rfl) rfl rfl rfl ?_
 refine WL.q (oq_move rfl) rfl rfl rfl ?_
 refine WL.q ((oq_len_s Tryd.underlying9 rfl).to (v' := I 1) rfl) rfl rfl rfl ?_
 refine WL.q (oq_move rfl) rfl rfl rfl ?_
 refine WL.q ((oq_len_s Tryd.underlying9 rfl).to (v' := I 13) rfl) rfl rfl rfl ?_
 refine WL.q (oq_move rfl) rfl rfl rfl ?_
 refine WL.q ((oq_len_s Tryd.underlying9 rfl).to (v' := I 10) rfl) rfl rfl rfl ?_
 refine WL.q ((oq_sub rfl rfl (by rw [i64_lo, i64_hi]; omega)).to (v' := I 3) rfl) rfl rfl rfl ?_
 refine WL.q ((oq_slice_s2 Tryd.underlying9 rfl rfl rfl (by first | decide | simp)).to (v' := S [49, 53]) rfl) rfl rfl rfl ?_
 refine WL.q (oq_assign rfl) rfl rfl rfl ?_
 refine WL.nil (WE.then_normal (WC.sub (fr' := [(1, _), (4, _), (6, _), (7, _), (8, _), (9, _), (10, _), (11, _), (12, _), (13, _), (14, _), (15, _), (16, _), (17, _), (18, _), (19, _), (20, _), (21, _), (23, _), (24, _), (25, _), (26, _)]) ?_ ⟨rfl, rfl, rfl, rfl, rfl, rfl, rfl, rfl, rfl, rfl, rfl, rfl, rfl, rfl, rfl, rfl, rfl, rfl, rfl, rfl, rfl, rfl, trivial⟩))
 refine WC.seq (WC.region ?_)
 refine WL.q (oq_move rfl) rfl rfl rfl ?_
 refine WL.q (oq_move rfl) rfl rfl rfl ?_
 refine WL.qc (oq_callRm (skipY hE [32, (hi hh), (lo hh), 58, (hi mm), (lo mm), 58, (hi ss), (lo ss), 32, 71, 77, 84] [32] [(hi hh), (lo hh), 58, (hi mm), (lo mm), 58, (hi ss), (lo ss), 32, 71, 77, 84] (by simp) (by simp) (by simp +decide [skipM, cutsp, hi_ne, lo_ne, mb_ne mo hmo])) (.tail _ (.head _)) call36 rfl) rfl rfl rfl ?_
 refine WL.q (oq_move rfl) rfl rfl rfl ?_
 refine WL.q (oq_extract rfl rfl) rfl rfl rfl ?_
 refine WL.q (oq_extract rfl rfl) rfl rfl rfl ?_
 refine WL.q (oq_assign rfl) rfl rfl rfl ?_
 refine WL.q (oq_assign rfl) rfl rfl rfl ?_
 refine WL.nil (WE.then_normal (WC.seq (WC.seq (WC.region ?_))))
 refine WL.q (oq_move rfl) rfl rfl rfl ?_
 refine WL.q ((oq_ineq Tryd.underlying39 rfl (.inl rfl)).to (v' := .bool false) rfl) rfl rfl rfl ?_
 refine WL.nil (WE.then_normal ?_)
 refine WC.cond_f rfl ?_
 refine WC.skip (WE.then_normal (WC.seq (WC.seq (WC.region ?_))))
 refine WL.q (oq_move rfl) rfl rfl rfl ?_
 refine WL.q ((oq_eql rfl rfl).to (v' := .bool false) (congrArg Value.bool (decide_eq_false (by omega)))) rfl rfl rfl ?_
 refine WL.nil (WE.then_normal ?_)
 refine WC.cond_f rfl ?_
 refine WC.skip (WE.then_normal (WC.seq (WC.region ?_)))
 refine WL.q (oq_move rfl) rfl rfl rfl ?_
 refine WL.q (oq_assign rfl) rfl rfl rfl ?_
 refine WL.nil (WE.then_normal (WC.seq (WC.region ?_)))
 refine WL.q (oq_assign rfl) rfl rfl rfl ?_
 refine WL.nil (WE.then_normal (WC.seq (WC.region ?_)))
 refine WL.q (oq_move rfl) rfl rfl rfl ?_
 refine WL.q (oq_assign rfl) rfl rfl rfl ?_
 refine WL.nil (WE.then_normal (WC.seq (WC.seq (WC.region ?_))))
 refine WL.q (oq_move rfl) rfl rfl rfl ?_
 refine WL.q ((oq_bits (op := .and) rfl rfl (by simp)).to (v' := I 1036) (by kernel_rfl)) rfl rfl rfl ?_
 refine WL.nil (WE.then_normal (WC.block (WC.seq (WC.block (WC.seq (WC.block (WC.seq (WC.block (WC.seq (WC.block (WC.seq (WC.block (WC.seq (WC.block (WC.seq (WC.block (WC.seq (WC.block (WC.seq (WC.block (WC.seq (WC.block (WC.seq (WC.block (WC.seq (WC.block (WC.seq (WC.block (WC.seq (WC.block (WC.seq (WC.block (WC.seq (WC.block (WC.seq (WC.block (WC.seq (WC.block (WC.seq (WC.block (WC.seq (WC.block (WC.seq (WC.seq (WC.seq (WC.region ?_))))))))))))))))))))))))))))))))))))))))))))))
 refine WL.q ((oq_eql rfl rfl).to (v' := .bool false) (congrArg Value.bool (decide_eq_false (by omega)))) rfl rfl rfl ?_
 refine WL.q (oq_assign rfl) rfl rfl rfl ?_
 refine WL.nil (WE.then_normal ?_)
 refine WC.cond_f rfl ?_
 refine WC.skip (WE.then_normal (WC.seq (WC.seq (WC.region ?_))))
 refine WL.q ((oq_eql rfl rfl).to (v' := .bool false) (congrArg Value.bool (decide_eq_false (by omega)))) rfl rfl rfl ?_
 refine WL.q (oq_assign rfl) rfl rfl rfl ?_
 refine WL.nil (WE.then_normal ?_)
 refine WC.cond_f rfl ?_
 refine WC.skip (WE.then_normal (WC.seq (WC.seq (WC.region ?_))))
 refine WL.q ((oq_eql rfl rfl).to (v' := .bool false) (congrArg Value.bool (decide_eq_false (by omega)))) rfl rfl rfl ?_
 refine WL.q (oq_assign rfl) rfl rfl rfl ?_
 refine WL.nil (WE.then_normal ?_)
 refine WC.cond_f rfl ?_
 refine WC.skip (WE.then_normal (WC.seq (WC.seq (WC.region ?_))))
 refine WL.q ((oq_eql rfl rfl).to (v' := .bool false) (congrArg Value.bool (decide_eq_false (by omega)))) rfl rfl rfl ?_
 refine WL.q (oq_assign rfl) rfl rfl rfl ?_
 refine WL.nil (WE.then_normal ?_)
 refine WC.cond_f rfl ?_
 refine WC.skip (WE.then_normal (WC.seq (WC.seq (WC.seq (WC.region ?_)))))
 refine WL.q ((oq_eql rfl rfl).to (v' := .bool false) (congrArg Value.bool (decide_eq_false (by omega)))) rfl rfl rfl ?_
 refine WL.q (oq_assign rfl) rfl rfl rfl ?_
 refine WL.nil (WE.then_normal ?_)
 refine WC.cond_f rfl ?_
 refine WC.region ?_
 refine WL.q ((oq_eql rfl rfl).to (v' := .bool false) (congrArg Value.bool (decide_eq_false (by omega)))) rfl rfl rfl ?_
 refine WL.q (oq_assign rfl) rfl rfl rfl ?_
 refine WL.nil (WE.then_normal ?_)
 refine WC.cond_f rfl ?_
 refine WC.skip (WE.then_normal (WC.seq (WC.seq (WC.region ?_))))
 refine WL.q ((oq_eql rfl rfl).to (v' := .bool false) (congrArg Value.bool (decide_eq_false (by omega)))) rfl rfl rfl ?_
 refine WL.q (oq_assign rfl) rfl rfl rfl ?_
 refine WL.nil (WE.then_normal ?_)
 refine WC.cond_f rfl ?_
 refine WC.skip (WE.then_normal (WC.seq (WC.seq (WC.region ?_))))
 refine WL.q ((oq_eql rfl rfl).to (v' := .bool false) (congrArg Value.bool (decide_eq_false (by omega)))) rfl rfl rfl ?_
 refine WL.q (oq_assign rfl) rfl rfl rfl ?_
 refine WL.nil (WE.then_normal ?_)
 refine WC.cond_f rfl ?_
 refine WC.skip (WE.then_normal (WC.seq (WC.seq (WC.seq (WC.region ?_)))))
 refine WL.q ((oq_eql rfl rfl).to (v' := .bool false) (congrArg Value.bool (decide_eq_false (by omega)))) rfl rfl rfl ?_
 refine WL.q (oq_assign rfl) rfl rfl rfl ?_
 refine WL.nil (WE.then_normal ?_)
 refine WC.cond_f rfl ?_
 refine WC.seq (WC.region ?_)
 refine WL.q ((oq_eql rfl rfl).to (v' := .bool false) (congrArg Value.bool (decide_eq_false (by omega)))) rfl rfl rfl ?_
 refine WL.q (oq_assign rfl) rfl rfl rfl ?_
 refine WL.nil (WE.then_normal ?_)
 refine WC.cond_f rfl ?_
 refine WC.region ?_
 refine WL.q ((oq_eql rfl rfl).to (v' := .bool false) (congrArg Value.bool (decide_eq_false (by omega)))) rfl rfl rfl ?_
 refine WL.q (oq_assign rfl) rfl rfl rfl ?_
 refine WL.nil (WE.then_normal ?_)
 refine WC.cond_f rfl ?_
 refine WC.skip (WE.then_normal (WC.seq (WC.seq (WC.seq (WC.region ?_)))))
 refine WL.q ((oq_eql rfl rfl).to (v' := .bool false) (congrArg Value.bool (decide_eq_false (by omega)))) rfl rfl rfl ?_
 refine WL.q (oq_assign rfl) rfl rfl rfl ?_
 refine WL.nil (WE.then_normal ?_)
 refine WC.cond_f rfl ?_
 refine WC.region ?_
 refine WL.q ((oq_eql rfl rfl).to (v' := .bool false) (congrArg Value.bool (decide_eq_false (by omega)))) rfl rfl rfl ?_
 refine WL.q (oq_assign rfl) rfl rfl rfl ?_
 refine WL.nil (WE.then_normal ?_)
 refine WC.cond_f rfl ?_
 refine WC.skip (WE.then_normal (WC.seq (WC.seq (WC.region ?_))))
 refine WL.q ((oq_eql rfl rfl).to (v' := .bool true) (congrArg Value.bool (decide_eq_true (by omega)))) rfl rfl rfl ?_
 refine WL.q (oq_assign rfl) rfl rfl rfl ?_
 refine WL.nil (WE.then_normal ?_)
 refine WC.cond_t rfl ?_
 refine WC.exit (WE.then_exit (WE.then_exit ?_))
 refine WE.block_other rfl ?_
 refine WE.then_exit ?_
 refine WE.block_other rfl ?_
 refine WE.then_exit ?_
 refine WE.block_other rfl ?_
 refine WE.then_exit ?_
 refine WE.block_other rfl ?_
 refine WE.then_exit ?_
 refine WE.block_other rfl ?_
 refine WE.then_exit ?_
 refine WE.block_other rfl ?_
 refine WE.then_exit ?_
 refine WE.block_other rfl ?_
 refine WE.then_exit ?_
 refine WE.block_other rfl ?_
 refine WE.then_exit ?_
 refine WE.block_other rfl ?_
 refine WE.then_exit (WE.block_same (WE.then_normal (WC.seq (WC.seq (WC.region ?_)))))
 refine WL.q (oq_move rfl) rfl rfl rfl ?_
 refine WL.qc (oq_call (getnumA hh (by omega) [58, (hi mm), (lo mm), 58, (hi ss), (lo ss), 32, 71, 77, 84] (by simp) false) call41 rfl) rfl rfl rfl ?_
 refine WL.q (oq_move rfl) rfl rfl rfl ?_
 refine WL.q (oq_extract rfl rfl) rfl rfl rfl ?_
 refine WL.q (oq_extract rfl rfl) rfl rfl rfl ?_
 refine WL.q (oq_extract rfl rfl) rfl rfl rfl ?_
 refine WL.q (oq_assign rfl) rfl rfl rfl ?_
 refine WL.q (oq_assign rfl) rfl rfl rfl ?_
 refine WL.q (oq_assign rfl) rfl rfl rfl ?_
 refine WL.nil (WE.then_normal (WC.seq (WC.region ?_)))
 refine WL.q (oq_move rfl) rfl rfl rfl ?_
 refine WL.q ((oq_lss rfl rfl).to (v' := .bool false) (congrArg Value.bool (decide_eq_false (by omega)))) rfl rfl rfl ?_
 refine WL.q (oq_move rfl) rfl rfl rfl ?_
 refine WL.q (oq_move rfl) rfl rfl rfl ?_
 refine WL.q ((oq_leq rfl rfl).to (v' := .bool false) (congrArg Value.bool (decide_eq_false (by omega)))) rfl rfl rfl ?_
 refine WL.q (oq_pick_f rfl rfl) rfl rfl rfl ?_
 refine WL.nil (WE.then_normal (WC.sub (fr' := [(0, _), (1, _), (4, _), (6, _), (7, _), (8, _), (9, _), (10, _), (11, _), (12, _), (13, _), (14, _), (15, _), (16, _), (17, _), (18, _), (19, _), (20, _), (21, _), (22, _), (26, _), (28, _), (295, _)]) ?_ ⟨rfl, rfl, rfl, rfl, rfl, rfl, rfl, rfl, rfl, rfl, rfl, rfl, rfl, rfl, rfl, rfl, rfl, rfl, rfl, rfl, rfl, rfl, rfl, trivial⟩))
 refine WC.cond_f rfl ?_
 refine WC.skip (WE.then_normal (WC.exit ?_))
 refine WE.block_other rfl ?_
 refine WE.then_exit ?_
 refine WE.block_other rfl ?_
 refine WE.then_exit ?_
 refine WE.block_other rfl ?_
 refine WE.then_exit ?_
 refine WE.block_other rfl ?_
 refine WE.then_exit ?_
 refine WE.block_other rfl ?_
 refine WE.then_exit ?_
 refine WE.block_other rfl ?_
 refine WE.then_exit ?_
 refine WE.block_other rfl ?_
 refine WE.then_exit ?_
 refine WE.block_other rfl ?_
 refine WE.then_exit ?_
 refine WE.block_other rfl ?_
 refine WE.then_exit ?_
 refine WE.block_other rfl ?_
 refine WE.then_exit (WE.block_same (WE.then_normal (WC.seq (WC.seq (WC.region ?_)))))
 refine WL.q (oq_move rfl) rfl rfl rfl ?_
 refine WL.q ((oq_sneq rfl rfl).to (v' := .bool false) (by kernel_rfl)) rfl rfl rfl ?_
 refine WL.nil (WE.then_normal ?_)
 refine WC.cond_f rfl ?_
 refine WC.skip (WE.then_normal (WC.seq (WC.region ?_)))
 refine WL.q (oq_move rfl) rfl rfl rfl ?_
 refine WL.q ((oq_ineq Tryd.underlying39 rfl (.inl rfl)).to (v' := .bool false) rfl) rfl rfl rfl ?_
 refine WL.nil (WE.then_normal ?_)
 refine WC.cond_f rfl ?_
 refine WC.skip (WE.block_normal ?_)
 refine WE.round ?_
 refine WC.sub (fr' := [(0, _), (1, _), (4, _), (6, _), (7, _), (8, _), (9, _), (10, _), (11, _), (12, _), (13, _), (14, _), (15, _), (16, _), (17, _), (18, _), (19, _), (20, _), (21, _)]) ?_ ⟨rfl, rfl, rfl, rfl, rfl, rfl, rfl, rfl, rfl, rfl, rfl, rfl, rfl, rfl, rfl, rfl, rfl, rfl, rfl, trivial⟩
 refine WC.block (WC.seq (WC.region ?_))
 refine WL.q (oq_assign rfl) rfl rfl rfl ?_
 refine WL.nil (WE.then_normal (WC.seq (WC.region ?_)))
 refine WL.q (oq_move rfl) rfl rfl rfl ?_
 refine WL.qc (oq_callRm (ch5 G hT) (.tail _ (.head _)) call35 rfl) rfl rfl rfl ?_
 refine WL.q (oq_move rfl) rfl rfl rfl ?_
 refine WL.q (oq_extract rfl rfl) rfl rfl rfl ?_
 refine WL.q (oq_extract rfl rfl) rfl rfl rfl ?_
 refine WL.q (oq_extract rfl rfl) rfl rfl rfl ?_
 refine WL.q (oq_assign rfl) rfl rfl rfl ?_
 refine WL.q (oq_assign rfl) rfl rfl rfl ?_
 refine WL.q (oq_assign rfl) rfl rfl rfl ?_
 refine WL.nil (WE.then_normal (WC.seq (WC.region ?_)))
 refine WL.q (oq_move rfl) rfl rfl rfl ?_
 refine WL.q (oq_move rfl) rfl rfl rfl ?_
 refine WL.q ((oq_len_s Tryd.underlying9 rfl).to (v' := I 1) rfl) rfl rfl rfl ?_
 refine WL.q (oq_move rfl) rfl rfl rfl ?_
 refine WL.q ((oq_len_s Tryd.underlying9 rfl).to (v' := I 10) rfl) rfl rfl rfl ?_
 refine WL.q (oq_move rfl) rfl rfl rfl ?_
 refine WL.q ((oq_len_s Tryd.underlying9 rfl).to (v' := I 7) rfl) rfl rfl rfl ?_
 refine WL.q ((oq_sub rfl rfl (by rw [i64_lo, i64_hi]; omega)).to (v' := I 3) rfl) rfl rfl rfl ?_
 refine WL.q ((oq_slice_s2 Tryd.underlying9 rfl rfl rfl (by first | decide | simp)).to (v' := S [48, 52]) rfl) rfl rfl rfl ?_
 refine WL.q (oq_assign rfl) rfl rfl rfl ?_
 refine WL.nil (WE.then_normal (WC.seq (WC.region ?_)))
 refine WL.q (oq_move rfl) rfl rfl rfl ?_
 refine WL.q (oq_move rfl) rfl rfl rfl ?_
 refine WL.qc (oq_callRm (skipY hE [58, (hi mm), (lo mm), 58, (hi ss), (lo ss), 32, 71, 77, 84] [58] [(hi mm), (lo mm), 58, (hi ss), (lo ss), 32, 71, 77, 84] (by simp) (by simp) (by simp +decide [skipM, cutsp, hi_ne, lo_ne, mb_ne mo hmo])) (.tail _ (.head _)) call36 rfl) rfl rfl rfl ?_
 refine WL.q (oq_move rfl) rfl rfl rfl ?_
 refine WL.q (oq_extract rfl rfl) rfl rfl rfl ?_
 refine WL.q (oq_extract rfl rfl) rfl rfl rfl ?_
 refine WL.q (oq_assign rfl) rfl rfl rfl ?_
 refine WL.q (oq_assign rfl) rfl rfl rfl ?_
 refine WL.nil (WE.then_normal (WC.seq (WC.seq (WC.region ?_))))
 refine WL.q (oq_move rfl) rfl rfl rfl ?_
 refine WL.q ((oq_ineq Tryd.underlying39 rfl (.inl rfl)).to (v' := .bool false) rfl) rfl rfl rfl ?_
 refine WL.nil (WE.then_normal ?_)
 refine WC.cond_f rfl ?_
 refine WC.skip (WE.then_normal (WC.seq (WC.seq (WC.region ?_))))
 refine WL.q (oq_move rfl) rfl rfl rfl ?_
 refine WL.q ((oq_eql rfl rfl).to (v' := .bool false) (congrArg Value.bool (decide_eq_false (by omega)))) rfl rfl rfl ?_
 refine WL.nil (WE.then_normal ?_)
 refine WC.cond_f rfl ?_
 refine WC.skip (WE.then_normal (WC.seq (WC.region ?_)))
 refine WL.q (oq_move rfl) rfl rfl rfl ?_
 refine WL.q (oq_assign rfl) rfl rfl rfl ?_
 refine WL.nil (WE.then_normal (WC.seq (WC.region ?_)))
 refine WL.q (oq_assign rfl) rfl rfl rfl ?_
 refine WL.nil (WE.then_normal (WC.seq (WC.region ?_)))
 refine WL.q (oq_move rfl) rfl rfl rfl ?_
 refine WL.q (oq_assign rfl) rfl rfl rfl ?_
 refine WL.nil (WE.then_normal (WC.seq (WC.seq (WC.region ?_))))
 refine WL.q (oq_move rfl) rfl rfl rfl ?_
 refine WL.q ((oq_bits (op := .and) rfl rfl (by simp)).to (v' := I 1040) (by kernel_rfl)) rfl rfl rfl ?_
 refine WL.nil (WE.then_normal (WC.block (WC.seq (WC.block (WC.seq (WC.block (WC.seq (WC.block (WC.seq (WC.block (WC.seq (WC.block (WC.seq (WC.block (WC.seq (WC.block (WC.seq (WC.block (WC.seq (WC.block (WC.seq (WC.block (WC.seq (WC.block (WC.seq (WC.block (WC.seq (WC.block (WC.seq (WC.block (WC.seq (WC.block (WC.seq (WC.block (WC.seq (WC.block (WC.seq (WC.block (WC.seq (WC.block (WC.seq (WC.block (WC.seq (WC.seq (WC.seq (WC.region ?_))))))))))))))))))))))))))))))))))))))))))))))
 refine WL.q ((oq_eql rfl rfl).to (v' := .bool false) (congrArg Value.bool (decide_eq_false (by omega)))) rfl rfl rfl ?_
 refine WL.q (oq_assign rfl) rfl rfl rfl ?_
 refine WL.nil (WE.then_normal ?_)
 refine WC.cond_f rfl ?_
 refine WC.skip (WE.then_normal (WC.seq (WC.seq (WC.region ?_))))
 refine WL.q ((oq_eql rfl rfl).to (v' := .bool false) (congrArg Value.bool (decide_eq_false (by omega)))) rfl rfl rfl ?_
 refine WL.q (oq_assign rfl) rfl rfl rfl ?_
 refine WL.nil (WE.then_normal ?_)
 refine WC.cond_f rfl ?_
 refine WC.skip (WE.then_normal (WC.seq (WC.seq (WC.region ?_))))
 refine WL.q ((oq_eql rfl rfl).to (v' := .bool false) (congrArg Value.bool (decide_eq_false (by omega)))) rfl rfl rfl ?_
 refine WL.q (oq_assign rfl) rfl rfl rfl ?_
 refine WL.nil (WE.then_normal ?_)
 refine WC.cond_f rfl ?_
 refine WC.skip (WE.then_normal (WC.seq (WC.seq (WC.region ?_))))
 refine WL.q ((oq_eql rfl rfl).to (v' := .bool false) (congrArg Value.bool (decide_eq_false (by omega)))) rfl rfl rfl ?_
 refine WL.q (oq_assign rfl) rfl rfl rfl ?_
 refine WL.nil (WE.then_normal ?_)
 refine WC.cond_f rfl ?_
 refine WC.skip (WE.then_normal (WC.seq (WC.seq (WC.seq (WC.region ?_)))))
 refine WL.q ((oq_eql rfl rfl).to (v' := .bool false) (congrArg Value.bool (decide_eq_false (by omega)))) rfl rfl rfl ?_
 refine WL.q (oq_assign rfl) rfl rfl rfl ?_
 refine WL.nil (WE.then_normal ?_)
 refine WC.cond_f rfl ?_
 refine WC.region ?_
 refine WL.q ((oq_eql rfl rfl).to (v' := .bool false) (congrArg Value.bool (decide_eq_false (by omega)))) rfl rfl rfl ?_
 refine WL.q (oq_assign rfl) rfl rfl rfl ?_
 refine WL.nil (WE.then_normal ?_)
 refine WC.cond_f rfl ?_
 refine WC.skip (WE.then_normal (WC.seq (WC.seq (WC.region ?_))))
 refine WL.q ((oq_eql rfl rfl).to (v' := .bool false) (congrArg Value.bool (decide_eq_false (by omega)))) rfl rfl rfl ?_
 refine WL.q (oq_assign rfl) rfl rfl rfl ?_
 refine WL.nil (WE.then_normal ?_)
 refine WC.cond_f rfl ?_
 refine WC.skip (WE.then_normal (WC.seq (WC.seq (WC.region ?_))))
 refine WL.q ((oq_eql rfl rfl).to (v' := .bool false) (congrArg Value.bool (decide_eq_false (by omega)))) rfl rfl rfl ?_
 refine WL.q (oq_assign rfl) rfl rfl rfl ?_
 refine WL.nil (WE.then_normal ?_)
 refine WC.cond_f rfl ?_
 refine WC.skip (WE.then_normal (WC.seq (WC.seq (WC.seq (WC.region ?_)))))
 refine WL.q ((oq_eql rfl rfl).to (v' := .bool false) (congrArg Value.bool (decide_eq_false (by omega)))) rfl rfl rfl ?_
 refine WL.q (oq_assign rfl) rfl rfl rfl ?_
 refine WL.nil (WE.then_normal (WC.sub (fr' := [(0, _), (1, _), (4, _), (6, _), (7, _), (8, _), (9, _), (10, _), (11, _), (12, _), (13, _), (14, _), (15, _), (16, _), (17, _), (18, _), (19, _), (20, _), (21, _), (22, _), (24, _), (26, _), (28, _), (91, _), (107, _)]) ?_ ⟨rfl, rfl, rfl, rfl, rfl, rfl, rfl, rfl, rfl, rfl, rfl, rfl, rfl, rfl, rfl, rfl, rfl, rfl, rfl, rfl, rfl, rfl, rfl, rfl, rfl, trivial⟩))
 refine WC.cond_f rfl ?_
 refine WC.seq (WC.region ?_)
 refine WL.q ((oq_eql rfl rfl).to (v' := .bool false) (congrArg Value.bool (decide_eq_false (by omega)))) rfl rfl rfl ?_
 refine WL.q (oq_assign rfl) rfl rfl rfl ?_
 refine WL.nil (WE.then_normal ?_)
 refine WC.cond_f rfl ?_
 refine WC.region ?_
 refine WL.q ((oq_eql rfl rfl).to (v' := .bool false) (congrArg Value.bool (decide_eq_false (by omega)))) rfl rfl rfl ?_
 refine WL.q (oq_assign rfl) rfl rfl rfl ?_
 refine WL.nil (WE.then_normal ?_)
 refine WC.cond_f rfl ?_
 refine WC.skip (WE.then_normal (WC.seq (WC.seq (WC.seq (WC.region ?_)))))
 refine WL.q ((oq_eql rfl rfl).to (v' := .bool false) (congrArg Value.bool (decide_eq_false (by omega)))) rfl rfl rfl ?_
 refine WL.q (oq_assign rfl) rfl rfl rfl ?_
 refine WL.nil (WE.then_normal ?_)
 refine WC.cond_f rfl ?_
 refine WC.region ?_
 refine WL.q ((oq_eql rfl rfl).to (v' := .bool false) (congrArg Value.bool (decide_eq_false (by omega)))) rfl rfl rfl ?_
 refine WL.q (oq_assign rfl) rfl rfl rfl ?_
 refine WL.nil (WE.then_normal ?_)
 refine WC.cond_f rfl ?_
 refine WC.skip (WE.then_normal (WC.seq (WC.seq (WC.region ?_))))
 refine WL.q ((oq_eql rfl rfl).to (v' := .bool false) (congrArg Value.bool (decide_eq_false (by omega)))) rfl rfl rfl ?_
 refine WL.q (oq_assign rfl) rfl rfl rfl ?_
 refine WL.nil (WE.then_normal ?_)
 refine WC.cond_f rfl ?_
 refine WC.skip (WE.then_normal (WC.seq (WC.seq (WC.seq (WC.region ?_)))))
 refine WL.q ((oq_eql rfl rfl).to (v' := .bool false) (congrArg Value.bool (decide_eq_false (by omega)))) rfl rfl rfl ?_
 refine WL.q (oq_assign rfl) rfl rfl rfl ?_
 refine WL.nil (WE.then_normal ?_)
 refine WC.cond_f rfl ?_
 refine WC.region ?_
 refine WL.q ((oq_eql rfl rfl).to (v' := .bool false) (congrArg Value.bool (decide_eq_false (by omega)))) rfl rfl rfl ?_
 refine WL.q (oq_assign rfl) rfl rfl rfl ?_
 refine WL.nil (WE.then_normal ?_)
 refine WC.cond_f rfl ?_
 refine WC.skip (WE.then_normal (WC.seq (WC.seq (WC.seq (WC.region ?_)))))
 refine WL.q ((oq_eql rfl rfl).to (v' := .bool false) (congrArg Value.bool (decide_eq_false (by omega)))) rfl rfl rfl ?_
 refine WL.q (oq_assign rfl) rfl rfl rfl ?_
 refine WL.nil (WE.then_normal ?_)
 refine WC.cond_f rfl ?_
 refine WC.region ?_
 refine WL.q ((oq_eql rfl rfl).to (v' := .bool true) (congrArg Value.bool (decide_eq_true (by omega)))) rfl rfl rfl ?_
 refine WL.q (oq_assign rfl) rfl rfl rfl ?_
 refine WL.nil (WE.then_normal ?_)
 refine WC.cond_t rfl ?_
 refine WC.exit (WE.then_exit (WE.then_exit ?_))
 refine WE.block_other rfl ?_
 refine WE.then_exit ?_
 refine WE.block_other rfl ?_
 refine WE.then_exit ?_
 refine WE.block_other rfl ?_
 refine WE.then_exit ?_
 refine WE.block_other rfl ?_
 refine WE.then_exit ?_
 refine WE.block_other rfl ?_
 refine WE.then_exit ?_
 refine WE.block_other rfl ?_
 refine WE.then_exit ?_
 refine WE.block_other rfl ?_
 refine WE.then_exit ?_
 refine WE.block_other rfl ?_
 refine WE.then_exit ?_
 refine WE.block_other rfl ?_
 refine WE.then_exit ?_
 refine WE.block_other rfl ?_
 refine WE.then_exit ?_
 refine WE.block_other rfl ?_
 refine WE.then_exit (WE.block_same (WE.then_normal (WC.seq (WC.seq (WC.region ?_)))))
 refine WL.q (oq_move rfl) rfl rfl rfl ?_
 refine WL.q (oq_move rfl) rfl rfl rfl ?_
 refine WL.q ((oq_eql rfl rfl).to (v' := .bool true) (congrArg Value.bool (decide_eq_true (by omega)))) rfl rfl rfl ?_
 refine WL.qc (oq_call (getnumA mm (by omega) [58, (hi ss), (lo ss), 32, 71, 77, 84] (by simp) true) call41 rfl) rfl rfl rfl ?_
 refine WL.q (oq_move rfl) rfl rfl rfl ?_
 refine WL.q (oq_extract rfl rfl) rfl rfl rfl ?_
 refine WL.q (oq_extract rfl rfl) rfl rfl rfl ?_
 refine WL.q (oq_extract rfl rfl) rfl rfl rfl ?_
 refine WL.q (oq_assign rfl) rfl rfl rfl ?_
 refine WL.q (oq_assign rfl) rfl rfl rfl ?_
 refine WL.q (oq_assign rfl) rfl rfl rfl ?_
 refine WL.nil (WE.then_normal (WC.seq (WC.region ?_)))
 refine WL.q (oq_move rfl) rfl rfl rfl ?_
 refine WL.q ((oq_lss rfl rfl).to (v' := .bool false) (congrArg Value.bool (decide_eq_false (by omega)))) rfl rfl rfl ?_
 refine WL.q (oq_move rfl) rfl rfl rfl ?_
 refine WL.q (oq_move rfl) rfl rfl rfl ?_
 refine WL.q ((oq_leq rfl rfl).to (v' := .bool false) (congrArg Value.bool (decide_eq_false (by omega)))) rfl rfl rfl ?_
 refine WL.q (oq_pick_f rfl rfl) rfl rfl rfl ?_
 refine WL.nil (WE.then_normal ?_)
 refine WC.cond_f rfl ?_
 refine WC.skip (WE.then_normal (WC.exit ?_))
 refine WE.block_other rfl ?_
 refine WE.then_exit ?_
 refine WE.block_other rfl ?_
 refine WE.then_exit ?_
 refine WE.block_other rfl ?_
 refine WE.then_exit ?_
 refine WE.block_other rfl ?_
 refine WE.then_exit ?_
 refine WE.block_other rfl ?_
 refine WE.then_exit ?_
 refine WE.block_other rfl ?_
 refine WE.then_exit ?_
 refine WE.block_other rfl ?_
 refine WE.then_exit ?_
 refine WE.block_other rfl ?_
 refine WE.then_exit (WE.block_same (WE.then_normal (WC.seq (WC.seq (WC.region ?_)))))
 refine WL.q (oq_move rfl) rfl rfl rfl ?_
 refine WL.q ((oq_sneq rfl rfl).to (v' := .bool false) (by kernel_rfl)) rfl rfl rfl ?_
 refine WL.nil (WE.then_normal ?_)
 refine WC.cond_f rfl ?_
 refine WC.skip (WE.then_normal (WC.seq (WC.region ?_)))
 refine WL.q (oq_move rfl) rfl rfl rfl ?_
 refine WL.q ((oq_ineq Tryd.underlying39 rfl (.inl rfl)).to (v' := .bool false) rfl) rfl rfl rfl ?_
 refine WL.nil (WE.then_normal ?_)
 refine WC.cond_f rfl ?_
 refine WC.skip (WE.block_normal ?_)
 refine WE.round ?_
 refine WC.sub (fr' := [(0, _), (1, _), (4, _), (6, _), (7, _), (8, _), (9, _), (10, _), (11, _), (12, _), (13, _), (14, _), (15, _), (16, _), (17, _), (18, _), (19, _), (20, _), (21, _)]) ?_ ⟨rfl, rfl, rfl, rfl, rfl, rfl, rfl, rfl, rfl, rfl, rfl, rfl, rfl, rfl, rfl, rfl, rfl, rfl, rfl, trivial⟩
 refine WC.block (WC.seq (WC.region ?_))
 refine WL.q (oq_assign rfl) rfl rfl rfl ?_
 refine WL.nil (WE.then_normal (WC.seq (WC.region ?_)))
 refine WL.q (oq_move rfl) rfl rfl rfl ?_
 refine WL.qc (oq_callRm (ch6 G hT) (.tail _ (.head _)) call35 rfl) rfl rfl rfl ?_
 refine WL.q (oq_move rfl) rfl rfl rfl ?_
 refine WL.q (oq_extract rfl rfl) rfl rfl rfl ?_
 refine WL.q (oq_extract rfl rfl) rfl rfl rfl ?_
 refine WL.q (oq_extract rfl rfl) rfl rfl rfl ?_
 refine WL.q (oq_assign rfl) rfl rfl rfl ?_
 refine WL.q (oq_assign rfl) rfl rfl rfl ?_
 refine WL.q (oq_assign rfl) rfl rfl rfl ?_
 refine WL.nil (WE.then_normal (WC.seq (WC.region ?_)))
 refine WL.q (oq_move rfl) rfl rfl rfl ?_
 refine WL.q (oq_move rfl) rfl rfl rfl ?_
 refine WL.q ((oq_len_s Tryd.underlying9 rfl).to (v' := I 1) rfl) rfl rfl rfl ?_
 refine WL.q (oq_move rfl) rfl rfl rfl ?_
 refine WL.q ((oq_len_s Tryd.underlying9 rfl).to (v' := I 7) rfl) rfl rfl rfl ?_
 refine WL.q (oq_move rfl) rfl rfl rfl ?_
 refine WL.q ((oq_len_s Tryd.underlying9 rfl).to (v' := I 4) rfl) rfl rfl rfl ?_
 refine WL.q ((oq_sub rfl rfl (by rw [i64_lo, i64_hi]; omega)).to (v' := I 3) rfl) rfl rfl rfl ?_
 refine WL.q ((oq_slice_s2 Tryd.underlying9 rfl rfl rfl (by first | decide | simp)).to (v' := S [48, 53]) rfl) rfl rfl rfl ?_
 refine WL.q (oq_assign rfl) rfl rfl rfl ?_
 refine WL.nil (WE.then_normal (WC.seq (WC.region ?_)))
 refine WL.q (oq_move rfl) rfl rfl rfl ?_
 refine WL.q (oq_move rfl) rfl rfl rfl ?_
 refine WL.qc (oq_callRm (skipY hE [58, (hi ss), (lo ss), 32, 71, 77, 84] [58] [(hi ss), (lo ss), 32, 71, 77, 84] (by simp) (by simp) (by simp +decide [skipM, cutsp, hi_ne, lo_ne, mb_ne mo hmo])) (.tail _ (.head _)) call36 rfl) rfl rfl rfl ?_
 refine WL.q (oq_move rfl) rfl rfl rfl ?_
 refine WL.q (oq_extract rfl rfl) rfl rfl rfl ?_
 refine WL.q (oq_extract rfl rfl) rfl rfl rfl ?_
 refine WL.q (oq_assign rfl) rfl rfl rfl ?_
 refine WL.q (oq_assign rfl) rfl rfl rfl ?_
 refine WL.nil (WE.then_normal (WC.sub (fr' := [(1, _), (4, _), (6, _), (7, _), (8, _), (9, _), (10, _), (11, _), (12, _), (13, _), (14, _), (15, _), (16, _), (17, _), (18, _), (19, _), (20, _), (21, _), (22, _), (23, _), (24, _), (25, _), (26, _)]) ?_ ⟨rfl, rfl, rfl, rfl, rfl, rfl, rfl, rfl, rfl, rfl, rfl, rfl, rfl, rfl, rfl, rfl, rfl, rfl, rfl, rfl, rfl, rfl, rfl, trivial⟩))
 refine WC.seq (WC.seq (WC.region ?_))
 refine WL.q (oq_move rfl) rfl rfl rfl ?_
 refine WL.q ((oq_ineq Tryd.underlying39 rfl (.inl rfl)).to (v' := .bool false) rfl) rfl rfl rfl ?_
 refine WL.nil (WE.then_normal ?_)
 refine WC.cond_f rfl ?_
 refine WC.skip (WE.then_normal (WC.seq (WC.seq (WC.region ?_))))
 refine WL.q (oq_move rfl) rfl rfl rfl ?_
 refine WL.q ((oq_eql rfl rfl).to (v' := .bool false) (congrArg Value.bool (decide_eq_false (by omega)))) rfl rfl rfl ?_
 refine WL.nil (WE.then_normal ?_)
 refine WC.cond_f rfl ?_
 refine WC.skip (WE.then_normal (WC.seq (WC.region ?_)))
 refine WL.q (oq_move rfl) rfl rfl rfl ?_
 refine WL.q (oq_assign rfl) rfl rfl rfl ?_
 refine WL.nil (WE.then_normal (WC.seq (WC.region ?_)))
 refine WL.q (oq_assign rfl) rfl rfl rfl ?_
 refine WL.nil (WE.then_normal (WC.seq (WC.region ?_)))
 refine WL.q (oq_move rfl) rfl rfl rfl ?_
 refine WL.q (oq_assign rfl) rfl rfl rfl ?_
 refine WL.nil (WE.then_normal (WC.seq (WC.seq (WC.region ?_))))
 refine WL.q (oq_move rfl) rfl rfl rfl ?_
 refine WL.q ((oq_bits (op := .and) rfl rfl (by simp)).to (v' := I 1042) (by kernel_rfl)) rfl rfl rfl ?_
 refine WL.nil (WE.then_normal (WC.block (WC.seq (WC.block (WC.seq (WC.block (WC.seq (WC.block (WC.seq (WC.block (WC.seq (WC.block (WC.seq (WC.block (WC.seq (WC.block (WC.seq (WC.block (WC.seq (WC.block (WC.seq (WC.block (WC.seq (WC.block (WC.seq (WC.block (WC.seq (WC.block (WC.seq (WC.block (WC.seq (WC.block (WC.seq (WC.block (WC.seq (WC.block (WC.seq (WC.block (WC.seq (WC.block (WC.seq (WC.block (WC.seq (WC.seq (WC.seq (WC.region ?_))))))))))))))))))))))))))))))))))))))))))))))
 refine WL.q ((oq_eql rfl rfl).to (v' := .bool false) (congrArg Value.bool (decide_eq_false (by omega)))) rfl rfl rfl ?_
 refine WL.q (oq_assign rfl) rfl rfl rfl ?_
 refine WL.nil (WE.then_normal ?_)
 refine WC.cond_f rfl ?_
 refine WC.skip (WE.then_normal (WC.seq (WC.seq (WC.region ?_))))
 refine WL.q ((oq_eql rfl rfl).to (v' := .bool false) (congrArg Value.bool (decide_eq_false (by omega)))) rfl rfl rfl ?_
 refine WL.q (oq_assign rfl) rfl rfl rfl ?_
 refine WL.nil (WE.then_normal ?_)
 refine WC.cond_f rfl ?_
 refine WC.skip (WE.then_normal (WC.seq (WC.seq (WC.region ?_))))
 refine WL.q ((oq_eql rfl rfl).to (v' := .bool false) (congrArg Value.bool (decide_eq_false (by omega)))) rfl rfl rfl ?_
 refine WL.q (oq_assign rfl) rfl rfl rfl ?_
 refine WL.nil (WE.then_normal ?_)
 refine WC.cond_f rfl ?_
 refine WC.skip (WE.then_normal (WC.seq (WC.seq (WC.region ?_))))
 refine WL.q ((oq_eql rfl rfl).to (v' := .bool false) (congrArg Value.bool (decide_eq_false (by omega)))) rfl rfl rfl ?_
 refine WL.q (oq_assign rfl) rfl rfl rfl ?_
 refine WL.nil (WE.then_normal ?_)
 refine WC.cond_f rfl ?_
 refine WC.skip (WE.then_normal (WC.seq (WC.seq (WC.seq (WC.region ?_)))))
 refine WL.q ((oq_eql rfl rfl).to (v' := .bool false) (congrArg Value.bool (decide_eq_false (by omega)))) rfl rfl rfl ?_
 refine WL.q (oq_assign rfl) rfl rfl rfl ?_
 refine WL.nil (WE.then_normal ?_)
 refine WC.cond_f rfl ?_
 refine WC.region ?_
 refine WL.q ((oq_eql rfl rfl).to (v' := .bool false) (congrArg Value.bool (decide_eq_false (by omega)))) rfl rfl rfl ?_
 refine WL.q (oq_assign rfl) rfl rfl rfl ?_
 refine WL.nil (WE.then_normal ?_)
 refine WC.cond_f rfl ?_
 refine WC.skip (WE.then_normal (WC.seq (WC.seq (WC.region ?_))))
 refine WL.q ((oq_eql rfl rfl).to (v' := .bool false) (congrArg Value.bool (decide_eq_false (by omega)))) rfl rfl rfl ?_
 refine WL.q (oq_assign rfl) rfl rfl rfl ?_
 refine WL.nil (WE.then_normal ?_)
 refine WC.cond_f rfl ?_
 refine WC.skip (WE.then_normal (WC.seq (WC.seq (WC.region ?_))))
 refine WL.q ((oq_eql rfl rfl).to (v' := .bool false) (congrArg Value.bool (decide_eq_false (by omega)))) rfl rfl rfl ?_
 refine WL.q (oq_assign rfl) rfl rfl rfl ?_
 refine WL.nil (WE.then_normal ?_)
 refine WC.cond_f rfl ?_
 refine WC.skip (WE.then_normal (WC.seq (WC.seq (WC.seq (WC.region ?_)))))
 refine WL.q ((oq_eql rfl rfl).to (v' := .bool false) (congrArg Value.bool (decide_eq_false (by omega)))) rfl rfl rfl ?_
 refine WL.q (oq_assign rfl) rfl rfl rfl ?_
 refine WL.nil (WE.then_normal ?_)
 refine WC.cond_f rfl ?_
 refine WC.seq (WC.region ?_)
 refine WL.q ((oq_eql rfl rfl).to (v' := .bool false) (congrArg Value.bool (decide_eq_false (by omega)))) rfl rfl rfl ?_
 refine WL.q (oq_assign rfl) rfl rfl rfl ?_
 refine WL.nil (WE.then_normal ?_)
 refine WC.cond_f rfl ?_
 refine WC.region ?_
 refine WL.q ((oq_eql rfl rfl).to (v' := .bool false) (congrArg Value.bool (decide_eq_false (by omega)))) rfl rfl rfl ?_
 refine WL.q (oq_assign rfl) rfl rfl rfl ?_
 refine WL.nil (WE.then_normal ?_)
 refine WC.cond_f rfl ?_
 refine WC.skip (WE.then_normal (WC.seq (WC.seq (WC.seq (WC.region ?_)))))
 refine WL.q ((oq_eql rfl rfl).to (v' := .bool false) (congrArg Value.bool (decide_eq_false (by omega)))) rfl rfl rfl ?_
 refine WL.q (oq_assign rfl) rfl rfl rfl ?_
 refine WL.nil (WE.then_normal ?_)
 refine WC.cond_f rfl ?_
 refine WC.region ?_
 refine WL.q ((oq_eql rfl rfl).to (v' := .bool false) (congrArg Value.bool (decide_eq_false (by omega)))) rfl rfl rfl ?_
 refine WL.q (oq_assign rfl) rfl rfl rfl ?_
 refine WL.nil (WE.then_normal ?_)
 refine WC.cond_f rfl ?_
 refine WC.skip (WE.then_normal (WC.seq (WC.seq (WC.region ?_))))
 refine WL.q ((oq_eql rfl rfl).to (v' := .bool false) (congrArg Value.bool (decide_eq_false (by omega)))) rfl rfl rfl ?_
 refine WL.q (oq_assign rfl) rfl rfl rfl ?_
 refine WL.nil (WE.then_normal ?_)
 refine WC.cond_f rfl ?_
 refine WC.skip (WE.then_normal (WC.seq (WC.seq (WC.seq (WC.region ?_)))))
 refine WL.q ((oq_eql rfl rfl).to (v' := .bool false) (congrArg Value.bool (decide_eq_false (by omega)))) rfl rfl rfl ?_
 refine WL.q (oq_assign rfl) rfl rfl rfl ?_
 refine WL.nil (WE.then_normal ?_)
 refine WC.cond_f rfl ?_
 refine WC.region ?_
 refine WL.q ((oq_eql rfl rfl).to (v' := .bool false) (congrArg Value.bool (decide_eq_false (by omega)))) rfl rfl rfl ?_
 refine WL.q (oq_assign rfl) rfl rfl rfl ?_
 refine WL.nil (WE.then_normal ?_)
 refine WC.cond_f rfl ?_
 refine WC.skip (WE.then_normal (WC.seq (WC.seq (WC.seq (WC.region ?_)))))
 refine WL.q ((oq_eql rfl rfl).to (v' := .bool false) (congrArg Value.bool (decide_eq_false (by omega)))) rfl rfl rfl ?_
 refine WL.q (oq_assign rfl) rfl rfl rfl ?_
 refine WL.nil (WE.then_normal ?_)
 refine WC.cond_f rfl ?_
 refine WC.region ?_
 refine WL.q ((oq_eql rfl rfl).to (v' := .bool false) (congrArg Value.bool (decide_eq_false (by omega)))) rfl rfl rfl ?_
 refine WL.q (oq_assign rfl) rfl rfl rfl ?_
 refine WL.nil (WE.then_normal ?_)
 refine WC.cond_f rfl ?_
 refine WC.skip (WE.then_normal (WC.seq (WC.seq (WC.seq (WC.region ?_)))))
 refine WL.q ((oq_eql rfl rfl).to (v' := .bool false) (congrArg Value.bool (decide_eq_false (by omega)))) rfl rfl rfl ?_
 refine WL.q (oq_assign rfl) rfl rfl rfl ?_
 refine WL.nil (WE.then_normal ?_)
 refine WC.cond_f rfl ?_
 refine WC.region ?_
 refine WL.q ((oq_eql rfl rfl).to (v' := .bool true) (congrArg Value.bool (decide_eq_true (by omega)))) rfl rfl rfl ?_
 refine WL.q (oq_assign rfl) rfl rfl rfl ?_
 refine WL.nil (WE.then_normal ?_)
 refine WC.cond_t rfl ?_
 refine WC.exit (WE.then_exit (WE.then_exit ?_))
 refine WE.block_other rfl ?_
 refine WE.then_exit ?_
 refine WE.block_other rfl ?_
 refine WE.then_exit ?_
 refine WE.block_other rfl ?_
 refine WE.then_exit ?_
 refine WE.block_other rfl ?_
 refine WE.then_exit ?_
 refine WE.block_other rfl ?_
 refine WE.then_exit ?_
 refine WE.block_other rfl ?_
 refine WE.then_exit ?_
 refine WE.block_other rfl ?_
 refine WE.then_exit ?_
 refine WE.block_other rfl ?_
 refine WE.then_exit ?_
 refine WE.block_other rfl ?_
 refine WE.then_exit ?_
 refine WE.block_other rfl ?_
 refine WE.then_exit ?_
 refine WE.block_other rfl ?_
 refine WE.then_exit ?_
 refine WE.block_other rfl ?_
 refine WE.then_exit (WE.block_same (WE.then_normal (WC.seq (WC.seq (WC.region ?_)))))
 refine WL.q (oq_move rfl) rfl rfl rfl ?_
 refine WL.q (oq_move rfl) rfl rfl rfl ?_
 refine WL.q ((oq_eql rfl rfl).to (v' := .bool true) (congrArg Value.bool (decide_eq_true (by omega)))) rfl rfl rfl ?_
 refine WL.qc (oq_call (getnumA ss (by omega) [32, 71, 77, 84] (by simp) true) call41 rfl) rfl rfl rfl ?_
 refine WL.q (oq_move rfl) rfl rfl rfl ?_
 refine WL.q (oq_extract rfl rfl) rfl rfl rfl ?_
 refine WL.q (oq_extract rfl rfl) rfl rfl rfl ?_
 refine WL.q (oq_extract rfl rfl) rfl rfl rfl ?_
 refine WL.q (oq_assign rfl) rfl rfl rfl ?_
 refine WL.q (oq_assign rfl) rfl rfl rfl ?_
 refine WL.q (oq_assign rfl) rfl rfl rfl ?_
 refine WL.nil (WE.then_normal (WC.sub (fr' := [(0, _), (1, _), (4, _), (6, _), (7, _), (8, _), (9, _), (10, _), (11, _), (12, _), (13, _), (14, _), (15, _), (16, _), (17, _), (18, _), (19, _), (20, _), (21, _), (22, _), (26, _), (28, _)]) ?_ ⟨rfl, rfl, rfl, rfl, rfl, rfl, rfl, rfl, rfl, rfl, rfl, rfl, rfl, rfl, rfl, rfl, rfl, rfl, rfl, rfl, rfl, rfl, trivial⟩))
 refine WC.seq (WC.seq (WC.region ?_))
 refine WL.q (oq_move rfl) rfl rfl rfl ?_
 refine WL.q ((oq_ineq Tryd.underlying39 rfl (.inl rfl)).to (v' := .bool false) rfl) rfl rfl rfl ?_
 refine WL.nil (WE.then_normal ?_)
 refine WC.cond_f rfl ?_
 refine WC.skip (WE.then_normal (WC.seq (WC.seq (WC.region ?_))))
 refine WL.q (oq_move rfl) rfl rfl rfl ?_
 refine WL.q ((oq_lss rfl rfl).to (v' := .bool false) (congrArg Value.bool (decide_eq_false (by omega)))) rfl rfl rfl ?_
 refine WL.q (oq_move rfl) rfl rfl rfl ?_
 refine WL.q (oq_move rfl) rfl rfl rfl ?_
 refine WL.q ((oq_leq rfl rfl).to (v' := .bool false) (congrArg Value.bool (decide_eq_false (by omega)))) rfl rfl rfl ?_
 refine WL.q (oq_pick_f rfl rfl) rfl rfl rfl ?_
 refine WL.nil (WE.then_normal ?_)
 refine WC.cond_f rfl ?_
 refine WC.skip (WE.then_normal (WC.seq (WC.region ?_)))
 refine WL.q (oq_move rfl) rfl rfl rfl ?_
 refine WL.q ((oq_len_s Tryd.underlying9 rfl).to (v' := I 4) rfl) rfl rfl rfl ?_
 refine WL.q ((oq_geq rfl rfl).to (v' := .bool true) (congrArg Value.bool (decide_eq_true (by omega)))) rfl rfl rfl ?_
 refine WL.q (oq_move rfl) rfl rfl rfl ?_
 refine WL.q (oq_move rfl) rfl rfl rfl ?_
 refine WL.q ((oq_index_s Tryd.underlying9 rfl rfl (by first | decide | simp)).to (v' := .int .u8 32) rfl) rfl rfl rfl ?_
 refine WL.qc (oq_call (comma32) call44 rfl) rfl rfl rfl ?_
 refine WL.q (oq_pick_t rfl rfl) rfl rfl rfl ?_
 refine WL.q (oq_move rfl) rfl rfl rfl ?_
 refine WL.skip rfl rfl rfl ?_
 refine WL.skip rfl rfl rfl ?_
 refine WL.q (oq_pick_f rfl rfl) rfl rfl rfl ?_
 refine WL.nil (WE.then_normal ?_)
 refine WC.cond_f rfl ?_
 refine WC.skip (WE.then_normal (WC.exit ?_))
 refine WE.block_other rfl ?_
 refine WE.then_exit ?_
 refine WE.block_other rfl ?_
 refine WE.then_exit ?_
 refine WE.block_other rfl ?_
 refine WE.then_exit ?_
 refine WE.block_other rfl ?_
 refine WE.then_exit ?_
 refine WE.block_other rfl ?_
 refine WE.then_exit ?_
 refine WE.block_other rfl ?_
 refine WE.then_exit ?_
 refine WE.block_other rfl ?_
 refine WE.then_exit (WE.block_same (WE.then_normal (WC.seq (WC.seq (WC.region ?_)))))
 refine WL.q (oq_move rfl) rfl rfl rfl ?_
 refine WL.q ((oq_sneq rfl rfl).to (v' := .bool false) (by kernel_rfl)) rfl rfl rfl ?_
 refine WL.nil (WE.then_normal ?_)
 refine WC.cond_f rfl ?_
 refine WC.skip (WE.then_normal (WC.seq (WC.region ?_)))
 refine WL.q (oq_move rfl) rfl rfl rfl ?_
 refine WL.q ((oq_ineq Tryd.underlying39 rfl (.inl rfl)).to (v' := .bool false) rfl) rfl rfl rfl ?_
 refine WL.nil (WE.then_normal ?_)
 refine WC.cond_f rfl ?_
 refine WC.skip (WE.block_normal ?_)
 refine WE.round ?_
 refine WC.sub (fr' := [(0, _), (1, _), (4, _), (6, _), (7, _), (8, _), (9, _), (10, _), (11, _), (12, _), (13, _), (14, _), (15, _), (16, _), (17, _), (18, _), (19, _), (20, _), (21, _)]) ?_ ⟨rfl, rfl, rfl, rfl, rfl, rfl, rfl, rfl, rfl, rfl, rfl, rfl, rfl, rfl, rfl, rfl, rfl, rfl, rfl, trivial⟩
 refine WC.block (WC.seq (WC.region ?_))
 refine WL.q (oq_assign rfl) rfl rfl rfl ?_
 refine WL.nil (WE.then_normal (WC.seq (WC.region ?_)))
 refine WL.q (oq_move rfl) rfl rfl rfl ?_
 refine WL.qc (oq_callRm (ch7 G hT) (.tail _ (.head _)) call35 rfl) rfl rfl rfl ?_
 refine WL.q (oq_move rfl) rfl rfl rfl ?_
 refine WL.q (oq_extract rfl rfl) rfl rfl rfl ?_
 refine WL.q (oq_extract rfl rfl) rfl rfl rfl ?_
 refine WL.q (oq_extract rfl rfl) rfl rfl rfl ?_
 refine WL.q (oq_assign rfl) rfl rfl rfl ?_
 refine WL.q (oq_assign rfl) rfl rfl rfl ?_
 refine WL.q (oq_assign rfl) rfl rfl rfl ?_
 refine WL.nil (WE.then_normal (WC.seq (WC.region ?_)))
 refine WL.q (oq_move rfl) rfl rfl rfl ?_
 refine WL.q (oq_move rfl) rfl rfl rfl ?_
 refine WL.q ((oq_len_s Tryd.underlying9 rfl).to (v' := I 4) rfl) rfl rfl rfl ?_
 refine WL.q (oq_move rfl) rfl rfl rfl ?_
 refine WL.q ((oq_len_s Tryd.underlying9 rfl).to (v' := I 4) rfl) rfl rfl rfl ?_
 refine WL.q (oq_move rfl) rfl rfl rfl ?_
 refine WL.q ((oq_len_s Tryd.underlying9 rfl).to (v' := I 0) rfl) rfl rfl rfl ?_
 refine WL.q ((oq_sub rfl rfl (by rw [i64_lo, i64_hi]; omega)).to (v' := I 4) rfl) rfl rfl rfl ?_
 refine WL.q ((oq_slice_s2 Tryd.underlying9 rfl rfl rfl (by first | decide | simp)).to (v' := S []) rfl) rfl rfl rfl ?_
 refine WL.q (oq_assign rfl) rfl rfl rfl ?_
 refine WL.nil (WE.then_normal (WC.seq (WC.region ?_)))
 refine WL.q (oq_move rfl) rfl rfl rfl ?_
 refine WL.q (oq_move rfl) rfl rfl rfl ?_
 refine WL.qc (oq_callRm (skipY hE [32, 71, 77, 84] [32, 71, 77, 84] [] (by simp) (by simp) (by simp +decide [skipM, cutsp, hi_ne, lo_ne, mb_ne mo hmo])) (.tail _ (.head _)) call36 rfl) rfl rfl rfl ?_
 refine WL.q (oq_move rfl) rfl rfl rfl ?_
 refine WL.q (oq_extract rfl rfl) rfl rfl rfl ?_
 refine WL.q (oq_extract rfl rfl) rfl rfl rfl ?_
 refine WL.q (oq_assign rfl) rfl rfl rfl ?_
 refine WL.q (oq_assign rfl) rfl rfl rfl ?_
 refine WL.nil (WE.then_normal (WC.seq (WC.seq (WC.region ?_))))
 refine WL.q (oq_move rfl) rfl rfl rfl ?_
 refine WL.q ((oq_ineq Tryd.underlying39 rfl (.inl rfl)).to (v' := .bool false) rfl) rfl rfl rfl ?_
 refine WL.nil (WE.then_normal ?_)
 refine WC.cond_f rfl ?_
 refine WC.skip (WE.then_normal (WC.seq (WC.seq (WC.region ?_))))
 refine WL.q (oq_move rfl) rfl rfl rfl ?_
 refine WL.q ((oq_eql rfl rfl).to (v' := .bool true) (congrArg Value.bool (decide_eq_true (by omega)))) rfl rfl rfl ?_
 refine WL.nil (WE.then_normal ?_)
 refine WC.cond_t rfl ?_
 refine WC.seq (WC.seq (WC.region ?_))
 refine WL.q (oq_move rfl) rfl rfl rfl ?_
 refine WL.q ((oq_len_s Tryd.underlying9 rfl).to (v' := I 0) rfl) rfl rfl rfl ?_
 refine WL.q ((oq_neq rfl rfl).to (v' := .bool false) (congrArg Value.bool (decide_eq_false (by omega)))) rfl rfl rfl ?_
 refine WL.nil (WE.then_normal ?_)
 refine WC.cond_f rfl ?_
 refine WC.skip (WE.then_normal (WC.exit (WE.then_exit ?_)))
 refine WE.block_other rfl ?_
 refine WE.then_exit (WE.block_same (WE.then_normal (WC.seq (WC.seq (WC.region ?_)))))
 refine WL.q (oq_move rfl) rfl rfl rfl ?_
 refine WL.q (oq_move rfl) rfl rfl rfl ?_
 refine WL.skip rfl rfl rfl ?_
 refine WL.skip rfl rfl rfl ?_
 refine WL.q (oq_pick_f rfl rfl) rfl rfl rfl ?_
 refine WL.nil (WE.then_normal (WC.sub (fr' := [(1, _), (4, _), (6, _), (7, _), (9, _), (11, _), (12, _), (13, _), (14, _), (15, _), (16, _), (17, _), (18, _), (19, _), (20, _), (21, _), (685, _)]) ?_ ⟨rfl, rfl, rfl, rfl, rfl, rfl, rfl, rfl, rfl, rfl, rfl, rfl, rfl, rfl, rfl, rfl, rfl, trivial⟩))
 refine WC.cond_f rfl ?_
 refine WC.seq (WC.region ?_)
 refine WL.q (oq_move rfl) rfl rfl rfl ?_
 refine WL.q (oq_move rfl) rfl rfl rfl ?_
 refine WL.skip rfl rfl rfl ?_
 refine WL.skip rfl rfl rfl ?_
 refine WL.q (oq_pick_f rfl rfl) rfl rfl rfl ?_
 refine WL.nil (WE.then_normal ?_)
 refine WC.cond_f rfl ?_
 refine WC.skip (WE.then_normal (WC.seq (WC.seq (WC.region ?_))))
 refine WL.q (oq_move rfl) rfl rfl rfl ?_
 refine WL.q ((oq_geq rfl rfl).to (v' := .bool false) (congrArg Value.bool (decide_eq_false (by omega)))) rfl rfl rfl ?_
 refine WL.nil (WE.then_normal ?_)
 refine WC.cond_f rfl ?_
 refine WC.seq (WC.seq (WC.region ?_))
 refine WL.q (oq_move rfl) rfl rfl rfl ?_
 refine WL.q ((oq_lss rfl rfl).to (v' := .bool false) (congrArg Value.bool (decide_eq_false (by omega)))) rfl rfl rfl ?_
 refine WL.nil (WE.then_normal ?_)
 refine WC.cond_f rfl ?_
 refine WC.skip (WE.then_normal (WC.seq (WC.region ?_)))
 refine WL.q (oq_move rfl) rfl rfl rfl ?_
 refine WL.q ((oq_lss rfl rfl).to (v' := .bool false) (congrArg Value.bool (decide_eq_false (by omega)))) rfl rfl rfl ?_
 refine WL.nil (WE.then_normal ?_)
 refine WC.cond_f rfl ?_
 refine WC.skip (WE.then_normal (WC.seq (WC.seq (WC.region ?_))))
 refine WL.q (oq_move rfl) rfl rfl rfl ?_
 refine WL.q ((oq_lss rfl rfl).to (v' := .bool false) (congrArg Value.bool (decide_eq_false (by omega)))) rfl rfl rfl ?_
 refine WL.q (oq_move rfl) rfl rfl rfl ?_
 refine WL.q (oq_move rfl) rfl rfl rfl ?_
 refine WL.q (oq_move rfl) rfl rfl rfl ?_
 refine WL.q (oq_move rfl) rfl rfl rfl ?_
 refine WL.qc (oq_call (daysIn (mo + 1) y (by omega) (by omega)) call29 rfl) rfl rfl rfl ?_
 refine WL.q ((oq_gtr rfl rfl).to (v' := .bool false) (congrArg Value.bool (decide_eq_false (by omega)))) rfl rfl rfl ?_
 refine WL.q (oq_pick_f rfl rfl) rfl rfl rfl ?_
 refine WL.nil (WE.then_normal ?_)
 refine WC.cond_f rfl ?_
 refine WC.skip (WE.then_normal (WC.seq (WC.seq (WC.region ?_))))
 refine WL.q (oq_move rfl) rfl rfl rfl ?_
 refine WL.nil (WE.then_normal ?_)
 refine WC.cond_f rfl ?_
 refine WC.skip (WE.then_normal (WC.seq (WC.seq (WC.region ?_))))
 refine WL.q (oq_move rfl) rfl rfl rfl ?_
 refine WL.q ((oq_neq rfl rfl).to (v' := .bool false) (congrArg Value.bool (decide_eq_false (by omega)))) rfl rfl rfl ?_
 refine WL.nil (WE.then_normal ?_)
 refine WC.cond_f rfl ?_
 refine WC.skip (WE.then_normal (WC.seq (WC.seq (WC.region ?_))))
 refine WL.q (oq_move rfl) rfl rfl rfl ?_
 refine WL.q ((oq_sneq rfl rfl).to (v' := .bool false) (by kernel_rfl)) rfl rfl rfl ?_
 refine WL.nil (WE.then_normal ?_)
 refine WC.cond_f rfl ?_
 refine WC.skip (WE.then_normal (WC.seq (WC.region ?_)))
 refine WL.q (oq_move rfl) rfl rfl rfl ?_
 refine WL.q (oq_move rfl) rfl rfl rfl ?_
 refine WL.q (oq_move rfl) rfl rfl rfl ?_
 refine WL.q (oq_move rfl) rfl rfl rfl ?_
 refine WL.q (oq_move rfl) rfl rfl rfl ?_
 refine WL.q (oq_move rfl) rfl rfl rfl ?_
 refine WL.q (oq_move rfl) rfl rfl rfl ?_
 refine WL.qc (oq_call (date y (mo + 1) d hh mm ss dd hy (by omega) hd hhh hmm hss hA hdd) call32 rfl) rfl rfl rfl ?_
 refine WL.storeS #[_, _, _, _] ty37 rfl rfl rfl rfl (Nat.le_of_ble_eq_true rfl) rfl rfl ?_
 refine WL.q (oq_assign rfl) rfl rfl rfl ?_
 refine WL.nil (WE.then_normal (WC.ret ?_))
 refine WE.endDR (.inl rfl) (rs2 Tryd.results27 (rv_cellS [_, _, _, _] agg37 ty37 rfl (.head _) (List.mem_singleton.2 rfl) rfl rfl) (rv_tmp rfl)) (dr_lose htb dr_refl) ?_
 rfl
end U1
end Go.Proofs.YtcfhfdengfcfpaaDoor
