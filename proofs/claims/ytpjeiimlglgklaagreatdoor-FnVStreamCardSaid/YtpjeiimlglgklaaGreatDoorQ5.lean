/- Fine headers. -/
import Derived.Test.YtpjeiimlglgklaaGreatDoorQ4
import Derived.Test.YtpjeiimlglgklaaGreatDoorQ3
import Derived.Laws.StructEq
import Derived.Test.YtpjeiimlglgklaaGreatDoorQ2
namespace Go.Proofs.YtpjeiimlglgklaaGreatDoor
open Go Go.RowKit V EA EB EC ED EE EF EG EH EI EJ EK EL EM EN EO EP EQ
set_option linter.unusedSimpArgs false
set_option linter.unusedVariables false
set_option maxRecDepth 10000
namespace ER
theorem flat2 : Flat Tryz.prog 2 := ⟨_, Tryz.underlying2, by simp⟩
theorem flat3 : Flat Tryz.prog 3 := ⟨_, Tryz.underlying3, by simp⟩
theorem flat9 : Flat Tryz.prog 9 := ⟨_, Tryz.underlying9, by simp⟩
theorem ty2 : Ty Tryz.prog 2 (.int .i64 0) 1 8 := ty_of (by kernel_rfl)
theorem ty3 : Ty Tryz.prog 3 (.int .i64 0) 1 8 := ty_of (by kernel_rfl)
theorem ty9 : Ty Tryz.prog 9 (S []) 1 16 := ty_of (by kernel_rfl)
theorem ty53 : Ty Tryz.prog 53 (.agg #[(.int .i64 0), (.int .i64 0), (.int .i64 0), (S [])]) 4 40 := ty_of (by kernel_rfl)
theorem ty55 : Ty Tryz.prog 55 (.agg #[(S []), (.int .i64 0), (.int .i64 0), (.int .i64 0), (S [])]) 5 56 := ty_of (by kernel_rfl)
theorem agg53 : Agg Tryz.prog 53 := agg_of Tryz.underlying53
theorem fld53_0 : Fld Tryz.prog 53 0 0 3 := fld_of Tryz.underlying53 rfl rfl rfl ty3 (by decide)
theorem fld53_1 : Fld Tryz.prog 53 1 1 3 := fld_of Tryz.underlying53 rfl rfl rfl ty3 (by decide)
theorem fld53_2 : Fld Tryz.prog 53 2 2 2 := fld_of Tryz.underlying53 rfl rfl rfl ty2 (by decide)
theorem fld53_3 : Fld Tryz.prog 53 3 3 9 := fld_of Tryz.underlying53 rfl rfl rfl ty9 (by decide)
theorem fld55_1 : Fld Tryz.prog 55 1 1 53 := fld_of Tryz.underlying55 rfl rfl rfl ty53 (by decide)
instance (h : HV) : Decidable (fineV h) := by unfold fineV; infer_instance
def fineB (h : HV) : Bool := decide (fineV h)
def intOk (l : List HV) : Prop := ∀ i, i < l.length → -9223372036854775808 ≤ (l.getD i HV0).int ∧ (l.getD i HV0).int ≤ 9223372036854775807 ∧ -9223372036854775808 ≤ (l.getD i HV0).width ∧ (l.getD i HV0).width ≤ 9223372036854775807
abbrev shT (w x : Int) : Int := Int.fdiv (IntKind.i64.wrap (x * 2 ^ (min (64 - w).toNat IntKind.i64.bits))) (2 ^ (min (64 - w).toNat IntKind.i64.bits))
theorem sh_law {w x : Int} (h1 : -9223372036854775808 ≤ x) (h2 : x ≤ 9223372036854775807) : (w = 8 → (shT w x = x ↔ -128 ≤ x ∧ x ≤ 127)) ∧ (w = 16 → (shT w x = x ↔ -32768 ≤ x ∧ x ≤ 32767)) ∧ (w = 32 → (shT w x = x ↔ -2147483648 ≤ x ∧ x ≤ 2147483647)) ∧ (w = 64 → shT w x = x) := by
 refine ⟨?_, ?_, ?_, ?_⟩ <;> rintro rfl <;> unfold shT <;> rw [Int.fdiv_eq_ediv_of_nonneg _ (Int.le_of_lt (Int.pow_pos (by decide)))]
 ·rw [show min (64 - (8 : Int)).toNat IntKind.i64.bits = 56 by decide]; simp only [IntKind.wrap, IntKind.signed, IntKind.bits, Bool.true_and, decide_eq_true_eq]; by_cases hc : x * 2 ^ 56 % 2 ^ 64 ≥ 2 ^ (64 - 1) <;> simp only [hc, decide_true, decide_false, Bool.false_eq_true, if_true, if_false] <;> omega
 ·rw [show min (64 - (16 : Int)).toNat IntKind.i64.bits = 48 by decide]; simp only [IntKind.wrap, IntKind.signed, IntKind.bits, Bool.true_and, decide_eq_true_eq]; by_cases hc : x * 2 ^ 48 % 2 ^ 64 ≥ 2 ^ (64 - 1) <;> simp only [hc, decide_true, decide_false, Bool.false_eq_true, if_true, if_false] <;> omega
 ·rw [show min (64 - (32 : Int)).toNat IntKind.i64.bits = 32 by decide]; simp only [IntKind.wrap, IntKind.signed, IntKind.bits, Bool.true_and, decide_eq_true_eq]; by_cases hc : x * 2 ^ 32 % 2 ^ 64 ≥ 2 ^ (64 - 1) <;> simp only [hc, decide_true, decide_false, Bool.false_eq_true, if_true, if_false] <;> omega
 ·rw [show min (64 - (64 : Int)).toNat IntKind.i64.bits = 0 by decide]; simp only [IntKind.wrap, IntKind.signed, IntKind.bits, Bool.true_and, decide_eq_true_eq]; by_cases hc : x * 2 ^ 0 % 2 ^ 64 ≥ 2 ^ (64 - 1) <;> simp only [hc, decide_true, decide_false, Bool.false_eq_true, if_true, if_false] <;> omega
theorem vFine (v : Value) (A : Hp) (l : List HV) (hr : RdS 5 v A l.length (recsV HV.row l)) (hint : intOk l) (hn : l.length ≤ 1000) : FnR Tryz.prog 8 [v] A (.bool (l.all fineB)) := by
 refine FnR.enter (n := 87) Tryz.func8 rfl rfl fun w0 => ?_
 refine WC.sub (fr' := [(0, _)]) ?_ ⟨rfl, trivial⟩
 refine WC.seq (WC.region ?_)
 refine WL.q (oq_assign rfl) rfl rfl rfl ?_
 refine WL.nil (WE.then_normal (WC.sub (fr' := [(0, _)]) ?_ ⟨rfl, trivial⟩))
 refine WC.seq (WC.seq (WC.region ?_))
 refine WL.q (oq_assign rfl) rfl rfl rfl ?_
 refine WL.nil (WE.then_normal (WC.sub (fr' := [(0, _), (3, _)]) ?_ ⟨rfl, rfl, trivial⟩))
 refine WC.block ?_
 refine WC.loop (ι := Nat) (fun (i : Nat) => [(0, v), (3, I (i : Int))]) (fun (i : Nat) => [A]) (fun (i : Nat) => i ≤ l.length ∧ (l.take i).all fineB = true) (fun (i : Nat) => l.length - i) (0) ?_ ⟨rfl, rfl, trivial⟩ (List.Perm.refl _) ?_
 ·try dsimp only
  exact ⟨by omega, rfl⟩
 ·rintro i hp
  try dsimp only at hp
  obtain ⟨hi, hall⟩ := hp
  show WC _ _ _ _ _ _ ([(0, v), (3, I (i : Int))]) ([A])
  refine WC.seq (WC.seq (WC.region ?_))
  refine WL.q (oq_move rfl) rfl rfl rfl ?_
  refine WL.q (oq_move rfl) rfl rfl rfl ?_
  refine WL.q (oq_len_rd hr Tryz.underlying28 rfl) rfl rfl rfl ?_
  refine WL.q (oq_lss rfl rfl) rfl rfl rfl ?_
  refine WL.nil (WE.then_normal (WC.sub (fr' := [(0, _), (3, _), (9, _)]) ?_ ⟨rfl, rfl, rfl, trivial⟩))
  refine WC.cond rfl (fun q2 => ?_) (fun q2 => ?_)
  ·
   try simp only [Z1, Z2, Z3, Z4, Z5, Z6, Z7, Z8, Z9, Z0] at q2
   refine WC.skip (WE.then_normal (WC.sub (fr' := [(0, _), (3, _)]) ?_ ⟨rfl, rfl, trivial⟩))
   refine WC.seq (WC.block (WC.seq ?_))
   have hlt : i < l.length := by omega
   obtain ⟨hi1, hi2, hi3, hi4⟩ := hint i hlt
   obtain ⟨hs8, hs16, hs32, hs64⟩ := sh_law (w := (l.getD i HV0).width) hi1 hi2
   simp only [shT] at hs8 hs16 hs32 hs64
   refine WC.region ?_
   refine WL.q (oq_move rfl) rfl rfl rfl ?_
   refine WL.q (oq_move rfl) rfl rfl rfl ?_
   refine WL.q (oq_ixaddr hr Tryz.underlying28 ty55 rfl rfl (by (first | omega | (simp only [List.length_cons, List.length_nil, List.length_append, List.length_drop, List.length_take]; omega)))) rfl rfl rfl ?_
   refine WL.q (oq_fldEl fld55_1 hr rfl (by (first | omega | (simp only [List.length_cons, List.length_nil, List.length_append, List.length_drop, List.length_take]; omega)))) rfl rfl rfl ?_
   refine WL.q (oq_loadFS (f := HV.row) HV0 [_, _, _, _] (fun _ => rfl) agg53 ty53 hr (.head _) rfl (by (first | omega | (simp only [List.length_cons, List.length_nil, List.length_append, List.length_drop, List.length_take]; omega))) (by first | exact Int.toNat_natCast _ | exact rfl) (by decide) rfl rfl) rfl rfl rfl ?_
   refine WL.alloc ty53 rfl rfl fun o4 ho4 => ?_
   refine WL.storeS #[_, _, _, _] ty53 rfl rfl rfl rfl (Nat.le_of_ble_eq_true rfl) rfl rfl ?_
   refine WL.nil (WE.then_normal (WC.sub (fr' := [(0, _), (3, _), (4, _)]) ?_ ⟨rfl, rfl, rfl, trivial⟩))
   refine WC.seq (WC.region ?_)
   refine WL.q (oq_fieldAddr fld53_1 rfl) rfl rfl rfl ?_
   refine WL.q (oq_load flat3 rfl (.head _) (List.mem_singleton.2 rfl) rfl) rfl rfl rfl ?_
   refine WL.q (oq_assign rfl) rfl rfl rfl ?_
   refine WL.nil (WE.then_normal (WC.sub (fr' := [(0, _), (3, _), (4, _), (5, _)]) ?_ ⟨rfl, rfl, rfl, rfl, trivial⟩))
   refine WC.seq (WC.quiet (by kernel_rfl) (by kernel_rfl) ?_)
   refine WQ.q (oq_fieldAddr fld53_0 rfl) rfl rfl rfl ?_
   refine WQ.q (oq_load flat3 rfl (.head _) (List.mem_singleton.2 rfl) rfl) rfl rfl rfl ?_
   refine WQ.q (oq_lss rfl rfl) rfl rfl rfl ?_
   refine WQ.q (oq_move rfl) rfl rfl rfl ?_
   refine WQ.split 22 rfl (fun s6_3 => ?_) (fun s6_3 => ?_)
   ·
    try simp only [Z1, Z2, Z3, Z4, Z5, Z6, Z7, Z8, Z9, Z0] at s6_3
    refine WQ.skip rfl rfl rfl ?_
    refine WQ.skip rfl rfl rfl ?_
    refine WQ.skip rfl rfl rfl ?_
    refine WQ.q (oq_pick_t rfl rfl) rfl rfl rfl ?_
    refine WQ.q (oq_move rfl) rfl rfl rfl ?_
    refine WQ.skip rfl rfl rfl ?_
    refine WQ.skip rfl rfl rfl ?_
    refine WQ.skip rfl rfl rfl ?_
    refine WQ.skip rfl rfl rfl ?_
    refine WQ.skip rfl rfl rfl ?_
    refine WQ.skip rfl rfl rfl ?_
    refine WQ.skip rfl rfl rfl ?_
    refine WQ.skip rfl rfl rfl ?_
    refine WQ.skip rfl rfl rfl ?_
    refine WQ.skip rfl rfl rfl ?_
    refine WQ.skip rfl rfl rfl ?_
    refine WQ.skip rfl rfl rfl ?_
    refine WQ.skip rfl rfl rfl ?_
    refine WQ.skip rfl rfl rfl ?_
    refine WQ.skip rfl rfl rfl ?_
    refine WQ.skip rfl rfl rfl ?_
    refine WQ.skip rfl rfl rfl ?_
    refine WQ.skip rfl rfl rfl ?_
    refine WQ.skip rfl rfl rfl ?_
    refine WQ.skip rfl rfl rfl ?_
    refine WQ.skip rfl rfl rfl ?_
    refine WQ.skip rfl rfl rfl ?_
    refine WQ.skip rfl rfl rfl ?_
    refine WQ.skip rfl rfl rfl ?_
    refine WQ.skip rfl rfl rfl ?_
    refine WQ.skip rfl rfl rfl ?_
    refine WQ.skip rfl rfl rfl ?_
    refine WQ.skip rfl rfl rfl ?_
    refine WQ.skip rfl rfl rfl ?_
    refine WQ.skip rfl rfl rfl ?_
    refine WQ.skip rfl rfl rfl ?_
    refine WQ.skip rfl rfl rfl ?_
    refine WQ.q (oq_pick_t rfl rfl) rfl rfl rfl ?_
    refine WQ.q (oq_move rfl) rfl rfl rfl ?_
    refine WQ.skip rfl rfl rfl ?_
    refine WQ.skip rfl rfl rfl ?_
    refine WQ.skip rfl rfl rfl ?_
    refine WQ.skip rfl rfl rfl ?_
    refine WQ.skip rfl rfl rfl ?_
    refine WQ.skip rfl rfl rfl ?_
    refine WQ.skip rfl rfl rfl ?_
    refine WQ.skip rfl rfl rfl ?_
    refine WQ.skip rfl rfl rfl ?_
    refine WQ.q (oq_pick_t rfl rfl) rfl rfl rfl ?_
    refine WQ.q (oq_move rfl) rfl rfl rfl ?_
    refine WQ.skip rfl rfl rfl ?_
    refine WQ.skip rfl rfl rfl ?_
    refine WQ.skip rfl rfl rfl ?_
    refine WQ.skip rfl rfl rfl ?_
    refine WQ.skip rfl rfl rfl ?_
    refine WQ.skip rfl rfl rfl ?_
    refine WQ.skip rfl rfl rfl ?_
    refine WQ.skip rfl rfl rfl ?_
    refine WQ.skip rfl rfl rfl ?_
    refine WQ.skip rfl rfl rfl ?_
    refine WQ.skip rfl rfl rfl ?_
    refine WQ.skip rfl rfl rfl ?_
    refine WQ.skip rfl rfl rfl ?_
    refine WQ.q (oq_pick_t rfl rfl) rfl rfl rfl ?_
    refine WQ.nil (WE.then_normal (WC.sub (fr' := [(0, _), (3, _), (86, _)]) ?_ ⟨rfl, rfl, rfl, trivial⟩))
    refine WC.cond_t rfl ?_
    refine WC.seq (WC.region ?_)
    refine WL.q (oq_assign rfl) rfl rfl rfl ?_
    refine WL.nil (WE.then_normal (WC.sub (fr' := [(2, _)]) ?_ ⟨rfl, trivial⟩))
    refine WC.ret (WE.block_ret (WE.then_ret (WE.then_ret (WE.block_ret (WE.then_ret ?_)))))
    refine WE.lose ho4 ?_
    refine WE.endR (.inl rfl) (res1 Tryz.results8 rfl) ?_
    exact congrArg Value.bool (all_not hlt (decide_eq_false (by unfold fineV; omega))).symm
   ·
    try simp only [Z1, Z2, Z3, Z4, Z5, Z6, Z7, Z8, Z9, Z0] at s6_3
    refine WQ.q (oq_fieldAddr fld53_0 rfl) rfl rfl rfl ?_
    refine WQ.q (oq_load flat3 rfl (.head _) (List.mem_singleton.2 rfl) rfl) rfl rfl rfl ?_
    refine WQ.q (oq_gtr rfl rfl) rfl rfl rfl ?_
    refine WQ.q (oq_pick_f rfl rfl) rfl rfl rfl ?_
    refine WQ.q (oq_move rfl) rfl rfl rfl ?_
    refine WQ.split 27 rfl (fun s6_8 => ?_) (fun s6_8 => ?_)
    ·
     try simp only [Z1, Z2, Z3, Z4, Z5, Z6, Z7, Z8, Z9, Z0] at s6_8
     refine WQ.skip rfl rfl rfl ?_
     refine WQ.skip rfl rfl rfl ?_
     refine WQ.skip rfl rfl rfl ?_
     refine WQ.skip rfl rfl rfl ?_
     refine WQ.skip rfl rfl rfl ?_
     refine WQ.skip rfl rfl rfl ?_
     refine WQ.skip rfl rfl rfl ?_
     refine WQ.skip rfl rfl rfl ?_
     refine WQ.skip rfl rfl rfl ?_
     refine WQ.skip rfl rfl rfl ?_
     refine WQ.skip rfl rfl rfl ?_
     refine WQ.skip rfl rfl rfl ?_
     refine WQ.skip rfl rfl rfl ?_
     refine WQ.skip rfl rfl rfl ?_
     refine WQ.skip rfl rfl rfl ?_
     refine WQ.skip rfl rfl rfl ?_
     refine WQ.skip rfl rfl rfl ?_
     refine WQ.skip rfl rfl rfl ?_
     refine WQ.skip rfl rfl rfl ?_
     refine WQ.skip rfl rfl rfl ?_
     refine WQ.skip rfl rfl rfl ?_
     refine WQ.skip rfl rfl rfl ?_
     refine WQ.skip rfl rfl rfl ?_
     refine WQ.skip rfl rfl rfl ?_
     refine WQ.skip rfl rfl rfl ?_
     refine WQ.skip rfl rfl rfl ?_
     refine WQ.skip rfl rfl rfl ?_
     refine WQ.skip rfl rfl rfl ?_
     refine WQ.skip rfl rfl rfl ?_
     refine WQ.skip rfl rfl rfl ?_
     refine WQ.skip rfl rfl rfl ?_
     refine WQ.skip rfl rfl rfl ?_
     refine WQ.q (oq_pick_t rfl rfl) rfl rfl rfl ?_
     refine WQ.q (oq_move rfl) rfl rfl rfl ?_
     refine WQ.skip rfl rfl rfl ?_
     refine WQ.skip rfl rfl rfl ?_
     refine WQ.skip rfl rfl rfl ?_
     refine WQ.skip rfl rfl rfl ?_
     refine WQ.skip rfl rfl rfl ?_
     refine WQ.skip rfl rfl rfl ?_
     refine WQ.skip rfl rfl rfl ?_
     refine WQ.skip rfl rfl rfl ?_
     refine WQ.skip rfl rfl rfl ?_
     refine WQ.q (oq_pick_t rfl rfl) rfl rfl rfl ?_
     refine WQ.q (oq_move rfl) rfl rfl rfl ?_
     refine WQ.skip rfl rfl rfl ?_
     refine WQ.skip rfl rfl rfl ?_
     refine WQ.skip rfl rfl rfl ?_
     refine WQ.skip rfl rfl rfl ?_
     refine WQ.skip rfl rfl rfl ?_
     refine WQ.skip rfl rfl rfl ?_
     refine WQ.skip rfl rfl rfl ?_
     refine WQ.skip rfl rfl rfl ?_
     refine WQ.skip rfl rfl rfl ?_
     refine WQ.skip rfl rfl rfl ?_
     refine WQ.skip rfl rfl rfl ?_
     refine WQ.skip rfl rfl rfl ?_
     refine WQ.skip rfl rfl rfl ?_
     refine WQ.q (oq_pick_t rfl rfl) rfl rfl rfl ?_
     refine WQ.nil (WE.then_normal (WC.sub (fr' := [(0, _), (3, _), (86, _)]) ?_ ⟨rfl, rfl, rfl, trivial⟩))
     refine WC.cond_t rfl ?_
     refine WC.seq (WC.region ?_)
     refine WL.q (oq_assign rfl) rfl rfl rfl ?_
     refine WL.nil (WE.then_normal (WC.sub (fr' := [(2, _)]) ?_ ⟨rfl, trivial⟩))
     refine WC.ret (WE.block_ret (WE.then_ret (WE.then_ret (WE.block_ret (WE.then_ret ?_)))))
     refine WE.lose ho4 ?_
     refine WE.endR (.inl rfl) (res1 Tryz.results8 rfl) ?_
     exact congrArg Value.bool (all_not hlt (decide_eq_false (by unfold fineV; omega))).symm
    ·
     try simp only [Z1, Z2, Z3, Z4, Z5, Z6, Z7, Z8, Z9, Z0] at s6_8
     refine WQ.q (oq_fieldAddr fld53_0 rfl) rfl rfl rfl ?_
     refine WQ.q (oq_load flat3 rfl (.head _) (List.mem_singleton.2 rfl) rfl) rfl rfl rfl ?_
     refine WQ.q (oq_eql rfl rfl) rfl rfl rfl ?_
     refine WQ.q (oq_move rfl) rfl rfl rfl ?_
     refine WQ.split 31 rfl (fun s6_12 => ?_) (fun s6_12 => ?_)
     ·
      try simp only [Z1, Z2, Z3, Z4, Z5, Z6, Z7, Z8, Z9, Z0] at s6_12
      refine WQ.q (oq_move rfl) rfl rfl rfl ?_
      refine WQ.q (oq_neq rfl rfl) rfl rfl rfl ?_
      refine WQ.q (oq_move rfl) rfl rfl rfl ?_
      refine WQ.split 34 rfl (fun s6_15 => ?_) (fun s6_15 => ?_)
      ·
       try simp only [Z1, Z2, Z3, Z4, Z5, Z6, Z7, Z8, Z9, Z0] at s6_15
       refine WQ.q (oq_move rfl) rfl rfl rfl ?_
       refine WQ.q (oq_neq rfl rfl) rfl rfl rfl ?_
       refine WQ.q (oq_pick_t rfl rfl) rfl rfl rfl ?_
       refine WQ.q (oq_move rfl) rfl rfl rfl ?_
       refine WQ.split 38 rfl (fun s6_19 => ?_) (fun s6_19 => ?_)
       ·
        try simp only [Z1, Z2, Z3, Z4, Z5, Z6, Z7, Z8, Z9, Z0] at s6_19
        refine WQ.q (oq_move rfl) rfl rfl rfl ?_
        refine WQ.q (oq_neq rfl rfl) rfl rfl rfl ?_
        refine WQ.q (oq_pick_t rfl rfl) rfl rfl rfl ?_
        refine WQ.q (oq_move rfl) rfl rfl rfl ?_
        refine WQ.split 42 rfl (fun s6_23 => ?_) (fun s6_23 => ?_)
        ·
         try simp only [Z1, Z2, Z3, Z4, Z5, Z6, Z7, Z8, Z9, Z0] at s6_23
         refine WQ.q (oq_move rfl) rfl rfl rfl ?_
         refine WQ.q (oq_neq rfl rfl) rfl rfl rfl ?_
         refine WQ.q (oq_pick_t rfl rfl) rfl rfl rfl ?_
         refine WQ.q (oq_move rfl) rfl rfl rfl ?_
         refine WQ.split 46 rfl (fun s6_27 => ?_) (fun s6_27 => ?_)
         ·
          try simp only [Z1, Z2, Z3, Z4, Z5, Z6, Z7, Z8, Z9, Z0] at s6_27
          refine WQ.skip rfl rfl rfl ?_
          refine WQ.skip rfl rfl rfl ?_
          refine WQ.skip rfl rfl rfl ?_
          refine WQ.skip rfl rfl rfl ?_
          refine WQ.skip rfl rfl rfl ?_
          refine WQ.skip rfl rfl rfl ?_
          refine WQ.skip rfl rfl rfl ?_
          refine WQ.skip rfl rfl rfl ?_
          refine WQ.skip rfl rfl rfl ?_
          refine WQ.skip rfl rfl rfl ?_
          refine WQ.skip rfl rfl rfl ?_
          refine WQ.q (oq_pick_t rfl rfl) rfl rfl rfl ?_
          refine WQ.q (oq_pick_t rfl rfl) rfl rfl rfl ?_
          refine WQ.q (oq_pick_f rfl rfl) rfl rfl rfl ?_
          refine WQ.q (oq_move rfl) rfl rfl rfl ?_
          refine WQ.skip rfl rfl rfl ?_
          refine WQ.skip rfl rfl rfl ?_
          refine WQ.skip rfl rfl rfl ?_
          refine WQ.skip rfl rfl rfl ?_
          refine WQ.skip rfl rfl rfl ?_
          refine WQ.skip rfl rfl rfl ?_
          refine WQ.skip rfl rfl rfl ?_
          refine WQ.skip rfl rfl rfl ?_
          refine WQ.skip rfl rfl rfl ?_
          refine WQ.q (oq_pick_t rfl rfl) rfl rfl rfl ?_
          refine WQ.q (oq_move rfl) rfl rfl rfl ?_
          refine WQ.skip rfl rfl rfl ?_
          refine WQ.skip rfl rfl rfl ?_
          refine WQ.skip rfl rfl rfl ?_
          refine WQ.skip rfl rfl rfl ?_
          refine WQ.skip rfl rfl rfl ?_
          refine WQ.skip rfl rfl rfl ?_
          refine WQ.skip rfl rfl rfl ?_
          refine WQ.skip rfl rfl rfl ?_
          refine WQ.skip rfl rfl rfl ?_
          refine WQ.skip rfl rfl rfl ?_
          refine WQ.skip rfl rfl rfl ?_
          refine WQ.skip rfl rfl rfl ?_
          refine WQ.skip rfl rfl rfl ?_
          refine WQ.q (oq_pick_t rfl rfl) rfl rfl rfl ?_
          refine WQ.nil (WE.then_normal (WC.sub (fr' := [(0, _), (3, _), (86, _)]) ?_ ⟨rfl, rfl, rfl, trivial⟩))
          refine WC.cond_t rfl ?_
          refine WC.seq (WC.region ?_)
          refine WL.q (oq_assign rfl) rfl rfl rfl ?_
          refine WL.nil (WE.then_normal (WC.sub (fr' := [(2, _)]) ?_ ⟨rfl, trivial⟩))
          refine WC.ret (WE.block_ret (WE.then_ret (WE.then_ret (WE.block_ret (WE.then_ret ?_)))))
          refine WE.lose ho4 ?_
          refine WE.endR (.inl rfl) (res1 Tryz.results8 rfl) ?_
          exact congrArg Value.bool (all_not hlt (decide_eq_false (by unfold fineV; omega))).symm
         ·
          try simp only [Z1, Z2, Z3, Z4, Z5, Z6, Z7, Z8, Z9, Z0] at s6_27
          refine WQ.q (oq_fieldAddr fld53_2 rfl) rfl rfl rfl ?_
          refine WQ.q (oq_load flat2 rfl (.head _) (List.mem_singleton.2 rfl) rfl) rfl rfl rfl ?_
          refine WQ.q (oq_move rfl) rfl rfl rfl ?_
          refine WQ.q (oq_sub rfl rfl (by rw [i64_lo, i64_hi]; (first | omega | (simp only [List.length_cons, List.length_nil, List.length_append, List.length_drop, List.length_take]; omega)))) rfl rfl rfl ?_
          refine WQ.q (oq_shl rfl rfl (by omega)) rfl rfl rfl ?_
          refine WQ.q (oq_move rfl) rfl rfl rfl ?_
          refine WQ.q (oq_sub rfl rfl (by rw [i64_lo, i64_hi]; (first | omega | (simp only [List.length_cons, List.length_nil, List.length_append, List.length_drop, List.length_take]; omega)))) rfl rfl rfl ?_
          refine WQ.q (oq_shr rfl rfl (by omega)) rfl rfl rfl ?_
          refine WQ.q (oq_fieldAddr fld53_2 rfl) rfl rfl rfl ?_
          refine WQ.q (oq_load flat2 rfl (.head _) (List.mem_singleton.2 rfl) rfl) rfl rfl rfl ?_
          refine WQ.q (oq_neq rfl rfl) rfl rfl rfl ?_
          refine WQ.q (oq_pick_f rfl rfl) rfl rfl rfl ?_
          refine WQ.q (oq_pick_t rfl rfl) rfl rfl rfl ?_
          refine WQ.q (oq_pick_f rfl rfl) rfl rfl rfl ?_
          refine WQ.q (oq_move rfl) rfl rfl rfl ?_
          refine WQ.split 61 rfl (fun s6_42 => ?_) (fun s6_42 => ?_)
          ·
           try simp only [Z1, Z2, Z3, Z4, Z5, Z6, Z7, Z8, Z9, Z0] at s6_42
           refine WQ.skip rfl rfl rfl ?_
           refine WQ.skip rfl rfl rfl ?_
           refine WQ.skip rfl rfl rfl ?_
           refine WQ.skip rfl rfl rfl ?_
           refine WQ.skip rfl rfl rfl ?_
           refine WQ.skip rfl rfl rfl ?_
           refine WQ.skip rfl rfl rfl ?_
           refine WQ.skip rfl rfl rfl ?_
           refine WQ.skip rfl rfl rfl ?_
           refine WQ.q (oq_pick_t rfl rfl) rfl rfl rfl ?_
           refine WQ.q (oq_move rfl) rfl rfl rfl ?_
           refine WQ.skip rfl rfl rfl ?_
           refine WQ.skip rfl rfl rfl ?_
           refine WQ.skip rfl rfl rfl ?_
           refine WQ.skip rfl rfl rfl ?_
           refine WQ.skip rfl rfl rfl ?_
           refine WQ.skip rfl rfl rfl ?_
           refine WQ.skip rfl rfl rfl ?_
           refine WQ.skip rfl rfl rfl ?_
           refine WQ.skip rfl rfl rfl ?_
           refine WQ.skip rfl rfl rfl ?_
           refine WQ.skip rfl rfl rfl ?_
           refine WQ.skip rfl rfl rfl ?_
           refine WQ.skip rfl rfl rfl ?_
           refine WQ.q (oq_pick_t rfl rfl) rfl rfl rfl ?_
           refine WQ.nil (WE.then_normal (WC.sub (fr' := [(0, _), (3, _), (86, _)]) ?_ ⟨rfl, rfl, rfl, trivial⟩))
           refine WC.cond_t rfl ?_
           refine WC.seq (WC.region ?_)
           refine WL.q (oq_assign rfl) rfl rfl rfl ?_
           refine WL.nil (WE.then_normal (WC.sub (fr' := [(2, _)]) ?_ ⟨rfl, trivial⟩))
           refine WC.ret (WE.block_ret (WE.then_ret (WE.then_ret (WE.block_ret (WE.then_ret ?_)))))
           refine WE.lose ho4 ?_
           refine WE.endR (.inl rfl) (res1 Tryz.results8 rfl) ?_
           exact congrArg Value.bool (all_not hlt (decide_eq_false (by unfold fineV; omega))).symm
          ·
           try simp only [Z1, Z2, Z3, Z4, Z5, Z6, Z7, Z8, Z9, Z0] at s6_42
           refine WQ.q (oq_fieldAddr fld53_0 rfl) rfl rfl rfl ?_
           refine WQ.q (oq_load flat3 rfl (.head _) (List.mem_singleton.2 rfl) rfl) rfl rfl rfl ?_
           refine WQ.q (oq_eql rfl rfl) rfl rfl rfl ?_
           refine WQ.q (oq_move rfl) rfl rfl rfl ?_
           refine WQ.split 65 rfl (fun s6_46 => ?_) (fun s6_46 => ?_)
           ·
            try simp only [Z1, Z2, Z3, Z4, Z5, Z6, Z7, Z8, Z9, Z0] at s6_46
            refine WQ.q (oq_fieldAddr fld53_3 rfl) rfl rfl rfl ?_
            refine WQ.q (oq_load flat9 rfl (.head _) (List.mem_singleton.2 rfl) rfl) rfl rfl rfl ?_
            refine WQ.q (oq_len_s Tryz.underlying9 rfl) rfl rfl rfl ?_
            refine WQ.q (oq_neq rfl rfl) rfl rfl rfl ?_
            refine WQ.q (oq_pick_t rfl rfl) rfl rfl rfl ?_
            refine WQ.q (oq_pick_f rfl rfl) rfl rfl rfl ?_
            refine WQ.q (oq_move rfl) rfl rfl rfl ?_
            refine WQ.split 72 rfl (fun s6_53 => ?_) (fun s6_53 => ?_)
            ·
             try simp only [Z1, Z2, Z3, Z4, Z5, Z6, Z7, Z8, Z9, Z0] at s6_53
             refine WQ.skip rfl rfl rfl ?_
             refine WQ.skip rfl rfl rfl ?_
             refine WQ.skip rfl rfl rfl ?_
             refine WQ.skip rfl rfl rfl ?_
             refine WQ.skip rfl rfl rfl ?_
             refine WQ.skip rfl rfl rfl ?_
             refine WQ.skip rfl rfl rfl ?_
             refine WQ.skip rfl rfl rfl ?_
             refine WQ.skip rfl rfl rfl ?_
             refine WQ.skip rfl rfl rfl ?_
             refine WQ.skip rfl rfl rfl ?_
             refine WQ.skip rfl rfl rfl ?_
             refine WQ.skip rfl rfl rfl ?_
             refine WQ.q (oq_pick_t rfl rfl) rfl rfl rfl ?_
             refine WQ.nil (WE.then_normal (WC.sub (fr' := [(0, _), (3, _), (86, _)]) ?_ ⟨rfl, rfl, rfl, trivial⟩))
             refine WC.cond_t rfl ?_
             refine WC.seq (WC.region ?_)
             refine WL.q (oq_assign rfl) rfl rfl rfl ?_
             refine WL.nil (WE.then_normal (WC.sub (fr' := [(2, _)]) ?_ ⟨rfl, trivial⟩))
             refine WC.ret (WE.block_ret (WE.then_ret (WE.then_ret (WE.block_ret (WE.then_ret ?_)))))
             refine WE.lose ho4 ?_
             refine WE.endR (.inl rfl) (res1 Tryz.results8 rfl) ?_
             exact congrArg Value.bool (all_not hlt (decide_eq_false (by unfold fineV; omega))).symm
            ·
             try simp only [Z1, Z2, Z3, Z4, Z5, Z6, Z7, Z8, Z9, Z0] at s6_53
             refine WQ.q (oq_fieldAddr fld53_0 rfl) rfl rfl rfl ?_
             refine WQ.q (oq_load flat3 rfl (.head _) (List.mem_singleton.2 rfl) rfl) rfl rfl rfl ?_
             refine WQ.q (oq_eql rfl rfl) rfl rfl rfl ?_
             refine WQ.q (oq_move rfl) rfl rfl rfl ?_
             refine WQ.split 76 rfl (fun s6_57 => ?_) (fun s6_57 => ?_)
             ·
              try simp only [Z1, Z2, Z3, Z4, Z5, Z6, Z7, Z8, Z9, Z0] at s6_57
              refine WQ.q (oq_fieldAddr fld53_2 rfl) rfl rfl rfl ?_
              refine WQ.q (oq_load flat2 rfl (.head _) (List.mem_singleton.2 rfl) rfl) rfl rfl rfl ?_
              refine WQ.q (oq_gtr rfl rfl) rfl rfl rfl ?_
              refine WQ.q (oq_move rfl) rfl rfl rfl ?_
              refine WQ.split 80 rfl (fun s6_61 => ?_) (fun s6_61 => ?_)
              ·
               try simp only [Z1, Z2, Z3, Z4, Z5, Z6, Z7, Z8, Z9, Z0] at s6_61
               refine WQ.skip rfl rfl rfl ?_
               refine WQ.skip rfl rfl rfl ?_
               refine WQ.skip rfl rfl rfl ?_
               refine WQ.q (oq_pick_t rfl rfl) rfl rfl rfl ?_
               refine WQ.q (oq_pick_t rfl rfl) rfl rfl rfl ?_
               refine WQ.q (oq_pick_f rfl rfl) rfl rfl rfl ?_
               refine WQ.nil (WE.then_normal (WC.sub (fr' := [(0, _), (3, _), (86, _)]) ?_ ⟨rfl, rfl, rfl, trivial⟩))
               refine WC.cond_t rfl ?_
               refine WC.seq (WC.region ?_)
               refine WL.q (oq_assign rfl) rfl rfl rfl ?_
               refine WL.nil (WE.then_normal (WC.sub (fr' := [(2, _)]) ?_ ⟨rfl, trivial⟩))
               refine WC.ret (WE.block_ret (WE.then_ret (WE.then_ret (WE.block_ret (WE.then_ret ?_)))))
               refine WE.lose ho4 ?_
               refine WE.endR (.inl rfl) (res1 Tryz.results8 rfl) ?_
               exact congrArg Value.bool (all_not hlt (decide_eq_false (by unfold fineV; omega))).symm
              ·
               try simp only [Z1, Z2, Z3, Z4, Z5, Z6, Z7, Z8, Z9, Z0] at s6_61
               refine WQ.q (oq_fieldAddr fld53_2 rfl) rfl rfl rfl ?_
               refine WQ.q (oq_load flat2 rfl (.head _) (List.mem_singleton.2 rfl) rfl) rfl rfl rfl ?_
               refine WQ.q (oq_lss rfl rfl) rfl rfl rfl ?_
               refine WQ.q (oq_pick_f rfl rfl) rfl rfl rfl ?_
               refine WQ.q (oq_pick_t rfl rfl) rfl rfl rfl ?_
               refine WQ.q (oq_pick_f rfl rfl) rfl rfl rfl ?_
               refine WQ.nil (WE.then_normal (WC.sub (fr' := [(0, _), (3, _), (86, _)]) ?_ ⟨rfl, rfl, rfl, trivial⟩))
               refine WC.cond rfl (fun q6 => ?_) (fun q6 => ?_)
               ·
                try simp only [Z1, Z2, Z3, Z4, Z5, Z6, Z7, Z8, Z9, Z0] at q6
                refine WC.seq (WC.region ?_)
                refine WL.q (oq_assign rfl) rfl rfl rfl ?_
                refine WL.nil (WE.then_normal (WC.sub (fr' := [(2, _)]) ?_ ⟨rfl, trivial⟩))
                refine WC.ret (WE.block_ret (WE.then_ret (WE.then_ret (WE.block_ret (WE.then_ret ?_)))))
                refine WE.lose ho4 ?_
                refine WE.endR (.inl rfl) (res1 Tryz.results8 rfl) ?_
                exact congrArg Value.bool (all_not hlt (decide_eq_false (by unfold fineV; omega))).symm
               ·
                try simp only [Z1, Z2, Z3, Z4, Z5, Z6, Z7, Z8, Z9, Z0] at q6
                refine WC.skip (WE.block_normal (WE.then_normal (WC.sub (fr' := [(0, _), (3, _)]) ?_ ⟨rfl, rfl, trivial⟩)))
                refine WC.region ?_
                refine WL.q (oq_move rfl) rfl rfl rfl ?_
                refine WL.q (oq_add rfl rfl (by rw [i64_lo, i64_hi]; (first | omega | (simp only [List.length_cons, List.length_nil, List.length_append, List.length_drop, List.length_take]; omega)))) rfl rfl rfl ?_
                refine WL.q (oq_assign rfl) rfl rfl rfl ?_
                refine WL.nil ?_
                refine WE.lose ho4 ?_
                refine WE.again (i + 1) ?_ ?_ ⟨rfl, rfl, trivial⟩ (List.Perm.refl _)
                ·try dsimp only
                 exact ⟨by omega, all_snoc (by omega) hall (decide_eq_true (by unfold fineV; omega))⟩
                ·(try dsimp only); omega
             ·
              try simp only [Z1, Z2, Z3, Z4, Z5, Z6, Z7, Z8, Z9, Z0] at s6_57
              refine WQ.skip rfl rfl rfl ?_
              refine WQ.skip rfl rfl rfl ?_
              refine WQ.skip rfl rfl rfl ?_
              refine WQ.skip rfl rfl rfl ?_
              refine WQ.skip rfl rfl rfl ?_
              refine WQ.skip rfl rfl rfl ?_
              refine WQ.skip rfl rfl rfl ?_
              refine WQ.skip rfl rfl rfl ?_
              refine WQ.q (oq_pick_f rfl rfl) rfl rfl rfl ?_
              refine WQ.q (oq_pick_f rfl rfl) rfl rfl rfl ?_
              refine WQ.nil (WE.then_normal (WC.sub (fr' := [(0, _), (3, _), (86, _)]) ?_ ⟨rfl, rfl, rfl, trivial⟩))
              refine WC.cond_f rfl ?_
              refine WC.skip (WE.block_normal (WE.then_normal (WC.sub (fr' := [(0, _), (3, _)]) ?_ ⟨rfl, rfl, trivial⟩)))
              refine WC.region ?_
              refine WL.q (oq_move rfl) rfl rfl rfl ?_
              refine WL.q (oq_add rfl rfl (by rw [i64_lo, i64_hi]; (first | omega | (simp only [List.length_cons, List.length_nil, List.length_append, List.length_drop, List.length_take]; omega)))) rfl rfl rfl ?_
              refine WL.q (oq_assign rfl) rfl rfl rfl ?_
              refine WL.nil ?_
              refine WE.lose ho4 ?_
              refine WE.again (i + 1) ?_ ?_ ⟨rfl, rfl, trivial⟩ (List.Perm.refl _)
              ·try dsimp only
               exact ⟨by omega, all_snoc (by omega) hall (decide_eq_true (by unfold fineV; omega))⟩
              ·(try dsimp only); omega
           ·
            try simp only [Z1, Z2, Z3, Z4, Z5, Z6, Z7, Z8, Z9, Z0] at s6_46
            refine WQ.skip rfl rfl rfl ?_
            refine WQ.skip rfl rfl rfl ?_
            refine WQ.skip rfl rfl rfl ?_
            refine WQ.skip rfl rfl rfl ?_
            refine WQ.q (oq_pick_f rfl rfl) rfl rfl rfl ?_
            refine WQ.q (oq_pick_f rfl rfl) rfl rfl rfl ?_
            refine WQ.q (oq_move rfl) rfl rfl rfl ?_
            refine WQ.q (oq_fieldAddr fld53_0 rfl) rfl rfl rfl ?_
            refine WQ.q (oq_load flat3 rfl (.head _) (List.mem_singleton.2 rfl) rfl) rfl rfl rfl ?_
            refine WQ.q (oq_eql rfl rfl) rfl rfl rfl ?_
            refine WQ.q (oq_move rfl) rfl rfl rfl ?_
            refine WQ.split 76 rfl (fun s6_57 => ?_) (fun s6_57 => ?_)
            ·
             try simp only [Z1, Z2, Z3, Z4, Z5, Z6, Z7, Z8, Z9, Z0] at s6_57
             refine WQ.q (oq_fieldAddr fld53_2 rfl) rfl rfl rfl ?_
             refine WQ.q (oq_load flat2 rfl (.head _) (List.mem_singleton.2 rfl) rfl) rfl rfl rfl ?_
             refine WQ.q (oq_gtr rfl rfl) rfl rfl rfl ?_
             refine WQ.q (oq_move rfl) rfl rfl rfl ?_
             refine WQ.split 80 rfl (fun s6_61 => ?_) (fun s6_61 => ?_)
             ·
              try simp only [Z1, Z2, Z3, Z4, Z5, Z6, Z7, Z8, Z9, Z0] at s6_61
              refine WQ.skip rfl rfl rfl ?_
              refine WQ.skip rfl rfl rfl ?_
              refine WQ.skip rfl rfl rfl ?_
              refine WQ.q (oq_pick_t rfl rfl) rfl rfl rfl ?_
              refine WQ.q (oq_pick_t rfl rfl) rfl rfl rfl ?_
              refine WQ.q (oq_pick_f rfl rfl) rfl rfl rfl ?_
              refine WQ.nil (WE.then_normal (WC.sub (fr' := [(0, _), (3, _), (86, _)]) ?_ ⟨rfl, rfl, rfl, trivial⟩))
              refine WC.cond_t rfl ?_
              refine WC.seq (WC.region ?_)
              refine WL.q (oq_assign rfl) rfl rfl rfl ?_
              refine WL.nil (WE.then_normal (WC.sub (fr' := [(2, _)]) ?_ ⟨rfl, trivial⟩))
              refine WC.ret (WE.block_ret (WE.then_ret (WE.then_ret (WE.block_ret (WE.then_ret ?_)))))
              refine WE.lose ho4 ?_
              refine WE.endR (.inl rfl) (res1 Tryz.results8 rfl) ?_
              exact congrArg Value.bool (all_not hlt (decide_eq_false (by unfold fineV; omega))).symm
             ·
              try simp only [Z1, Z2, Z3, Z4, Z5, Z6, Z7, Z8, Z9, Z0] at s6_61
              refine WQ.q (oq_fieldAddr fld53_2 rfl) rfl rfl rfl ?_
              refine WQ.q (oq_load flat2 rfl (.head _) (List.mem_singleton.2 rfl) rfl) rfl rfl rfl ?_
              refine WQ.q (oq_lss rfl rfl) rfl rfl rfl ?_
              refine WQ.q (oq_pick_f rfl rfl) rfl rfl rfl ?_
              refine WQ.q (oq_pick_t rfl rfl) rfl rfl rfl ?_
              refine WQ.q (oq_pick_f rfl rfl) rfl rfl rfl ?_
              refine WQ.nil (WE.then_normal (WC.sub (fr' := [(0, _), (3, _), (86, _)]) ?_ ⟨rfl, rfl, rfl, trivial⟩))
              refine WC.cond rfl (fun q6 => ?_) (fun q6 => ?_)
              ·
               try simp only [Z1, Z2, Z3, Z4, Z5, Z6, Z7, Z8, Z9, Z0] at q6
               refine WC.seq (WC.region ?_)
               refine WL.q (oq_assign rfl) rfl rfl rfl ?_
               refine WL.nil (WE.then_normal (WC.sub (fr' := [(2, _)]) ?_ ⟨rfl, trivial⟩))
               refine WC.ret (WE.block_ret (WE.then_ret (WE.then_ret (WE.block_ret (WE.then_ret ?_)))))
               refine WE.lose ho4 ?_
               refine WE.endR (.inl rfl) (res1 Tryz.results8 rfl) ?_
               exact congrArg Value.bool (all_not hlt (decide_eq_false (by unfold fineV; omega))).symm
              ·
               try simp only [Z1, Z2, Z3, Z4, Z5, Z6, Z7, Z8, Z9, Z0] at q6
               refine WC.skip (WE.block_normal (WE.then_normal (WC.sub (fr' := [(0, _), (3, _)]) ?_ ⟨rfl, rfl, trivial⟩)))
               refine WC.region ?_
               refine WL.q (oq_move rfl) rfl rfl rfl ?_
               refine WL.q (oq_add rfl rfl (by rw [i64_lo, i64_hi]; (first | omega | (simp only [List.length_cons, List.length_nil, List.length_append, List.length_drop, List.length_take]; omega)))) rfl rfl rfl ?_
               refine WL.q (oq_assign rfl) rfl rfl rfl ?_
               refine WL.nil ?_
               refine WE.lose ho4 ?_
               refine WE.again (i + 1) ?_ ?_ ⟨rfl, rfl, trivial⟩ (List.Perm.refl _)
               ·try dsimp only
                exact ⟨by omega, all_snoc (by omega) hall (decide_eq_true (by unfold fineV; omega))⟩
               ·(try dsimp only); omega
            ·
             try simp only [Z1, Z2, Z3, Z4, Z5, Z6, Z7, Z8, Z9, Z0] at s6_57
             refine WQ.skip rfl rfl rfl ?_
             refine WQ.skip rfl rfl rfl ?_
             refine WQ.skip rfl rfl rfl ?_
             refine WQ.skip rfl rfl rfl ?_
             refine WQ.skip rfl rfl rfl ?_
             refine WQ.skip rfl rfl rfl ?_
             refine WQ.skip rfl rfl rfl ?_
             refine WQ.skip rfl rfl rfl ?_
             refine WQ.q (oq_pick_f rfl rfl) rfl rfl rfl ?_
             refine WQ.q (oq_pick_f rfl rfl) rfl rfl rfl ?_
             refine WQ.nil (WE.then_normal (WC.sub (fr' := [(0, _), (3, _), (86, _)]) ?_ ⟨rfl, rfl, rfl, trivial⟩))
             refine WC.cond_f rfl ?_
             refine WC.skip (WE.block_normal (WE.then_normal (WC.sub (fr' := [(0, _), (3, _)]) ?_ ⟨rfl, rfl, trivial⟩)))
             refine WC.region ?_
             refine WL.q (oq_move rfl) rfl rfl rfl ?_
             refine WL.q (oq_add rfl rfl (by rw [i64_lo, i64_hi]; (first | omega | (simp only [List.length_cons, List.length_nil, List.length_append, List.length_drop, List.length_take]; omega)))) rfl rfl rfl ?_
             refine WL.q (oq_assign rfl) rfl rfl rfl ?_
             refine WL.nil ?_
             refine WE.lose ho4 ?_
             refine WE.again (i + 1) ?_ ?_ ⟨rfl, rfl, trivial⟩ (List.Perm.refl _)
             ·try dsimp only
              exact ⟨by omega, all_snoc (by omega) hall (decide_eq_true (by unfold fineV; omega))⟩
             ·(try dsimp only); omega
        ·
         try simp only [Z1, Z2, Z3, Z4, Z5, Z6, Z7, Z8, Z9, Z0] at s6_23
         refine WQ.skip rfl rfl rfl ?_
         refine WQ.skip rfl rfl rfl ?_
         refine WQ.q (oq_pick_f rfl rfl) rfl rfl rfl ?_
         refine WQ.q (oq_move rfl) rfl rfl rfl ?_
         refine WQ.q (oq_fieldAddr fld53_2 rfl) rfl rfl rfl ?_
         refine WQ.q (oq_load flat2 rfl (.head _) (List.mem_singleton.2 rfl) rfl) rfl rfl rfl ?_
         refine WQ.q (oq_move rfl) rfl rfl rfl ?_
         refine WQ.q (oq_sub rfl rfl (by rw [i64_lo, i64_hi]; (first | omega | (simp only [List.length_cons, List.length_nil, List.length_append, List.length_drop, List.length_take]; omega)))) rfl rfl rfl ?_
         refine WQ.q (oq_shl rfl rfl (by omega)) rfl rfl rfl ?_
         refine WQ.q (oq_move rfl) rfl rfl rfl ?_
         refine WQ.q (oq_sub rfl rfl (by rw [i64_lo, i64_hi]; (first | omega | (simp only [List.length_cons, List.length_nil, List.length_append, List.length_drop, List.length_take]; omega)))) rfl rfl rfl ?_
         refine WQ.q (oq_shr rfl rfl (by omega)) rfl rfl rfl ?_
         refine WQ.q (oq_fieldAddr fld53_2 rfl) rfl rfl rfl ?_
         refine WQ.q (oq_load flat2 rfl (.head _) (List.mem_singleton.2 rfl) rfl) rfl rfl rfl ?_
         refine WQ.q (oq_neq rfl rfl) rfl rfl rfl ?_
         refine WQ.q (oq_pick_f rfl rfl) rfl rfl rfl ?_
         refine WQ.q (oq_pick_t rfl rfl) rfl rfl rfl ?_
         refine WQ.q (oq_pick_f rfl rfl) rfl rfl rfl ?_
         refine WQ.q (oq_move rfl) rfl rfl rfl ?_
         refine WQ.split 61 rfl (fun s6_42 => ?_) (fun s6_42 => ?_)
         ·
          try simp only [Z1, Z2, Z3, Z4, Z5, Z6, Z7, Z8, Z9, Z0] at s6_42
          refine WQ.skip rfl rfl rfl ?_
          refine WQ.skip rfl rfl rfl ?_
          refine WQ.skip rfl rfl rfl ?_
          refine WQ.skip rfl rfl rfl ?_
          refine WQ.skip rfl rfl rfl ?_
          refine WQ.skip rfl rfl rfl ?_
          refine WQ.skip rfl rfl rfl ?_
          refine WQ.skip rfl rfl rfl ?_
          refine WQ.skip rfl rfl rfl ?_
          refine WQ.q (oq_pick_t rfl rfl) rfl rfl rfl ?_
          refine WQ.q (oq_move rfl) rfl rfl rfl ?_
          refine WQ.skip rfl rfl rfl ?_
          refine WQ.skip rfl rfl rfl ?_
          refine WQ.skip rfl rfl rfl ?_
          refine WQ.skip rfl rfl rfl ?_
          refine WQ.skip rfl rfl rfl ?_
          refine WQ.skip rfl rfl rfl ?_
          refine WQ.skip rfl rfl rfl ?_
          refine WQ.skip rfl rfl rfl ?_
          refine WQ.skip rfl rfl rfl ?_
          refine WQ.skip rfl rfl rfl ?_
          refine WQ.skip rfl rfl rfl ?_
          refine WQ.skip rfl rfl rfl ?_
          refine WQ.skip rfl rfl rfl ?_
          refine WQ.q (oq_pick_t rfl rfl) rfl rfl rfl ?_
          refine WQ.nil (WE.then_normal (WC.sub (fr' := [(0, _), (3, _), (86, _)]) ?_ ⟨rfl, rfl, rfl, trivial⟩))
          refine WC.cond_t rfl ?_
          refine WC.seq (WC.region ?_)
          refine WL.q (oq_assign rfl) rfl rfl rfl ?_
          refine WL.nil (WE.then_normal (WC.sub (fr' := [(2, _)]) ?_ ⟨rfl, trivial⟩))
          refine WC.ret (WE.block_ret (WE.then_ret (WE.then_ret (WE.block_ret (WE.then_ret ?_)))))
          refine WE.lose ho4 ?_
          refine WE.endR (.inl rfl) (res1 Tryz.results8 rfl) ?_
          exact congrArg Value.bool (all_not hlt (decide_eq_false (by unfold fineV; omega))).symm
         ·
          try simp only [Z1, Z2, Z3, Z4, Z5, Z6, Z7, Z8, Z9, Z0] at s6_42
          refine WQ.q (oq_fieldAddr fld53_0 rfl) rfl rfl rfl ?_
          refine WQ.q (oq_load flat3 rfl (.head _) (List.mem_singleton.2 rfl) rfl) rfl rfl rfl ?_
          refine WQ.q (oq_eql rfl rfl) rfl rfl rfl ?_
          refine WQ.q (oq_move rfl) rfl rfl rfl ?_
          refine WQ.split 65 rfl (fun s6_46 => ?_) (fun s6_46 => ?_)
          ·
           try simp only [Z1, Z2, Z3, Z4, Z5, Z6, Z7, Z8, Z9, Z0] at s6_46
           refine WQ.q (oq_fieldAddr fld53_3 rfl) rfl rfl rfl ?_
           refine WQ.q (oq_load flat9 rfl (.head _) (List.mem_singleton.2 rfl) rfl) rfl rfl rfl ?_
           refine WQ.q (oq_len_s Tryz.underlying9 rfl) rfl rfl rfl ?_
           refine WQ.q (oq_neq rfl rfl) rfl rfl rfl ?_
           refine WQ.q (oq_pick_t rfl rfl) rfl rfl rfl ?_
           refine WQ.q (oq_pick_f rfl rfl) rfl rfl rfl ?_
           refine WQ.q (oq_move rfl) rfl rfl rfl ?_
           refine WQ.split 72 rfl (fun s6_53 => ?_) (fun s6_53 => ?_)
           ·
            try simp only [Z1, Z2, Z3, Z4, Z5, Z6, Z7, Z8, Z9, Z0] at s6_53
            refine WQ.skip rfl rfl rfl ?_
            refine WQ.skip rfl rfl rfl ?_
            refine WQ.skip rfl rfl rfl ?_
            refine WQ.skip rfl rfl rfl ?_
            refine WQ.skip rfl rfl rfl ?_
            refine WQ.skip rfl rfl rfl ?_
            refine WQ.skip rfl rfl rfl ?_
            refine WQ.skip rfl rfl rfl ?_
            refine WQ.skip rfl rfl rfl ?_
            refine WQ.skip rfl rfl rfl ?_
            refine WQ.skip rfl rfl rfl ?_
            refine WQ.skip rfl rfl rfl ?_
            refine WQ.skip rfl rfl rfl ?_
            refine WQ.q (oq_pick_t rfl rfl) rfl rfl rfl ?_
            refine WQ.nil (WE.then_normal (WC.sub (fr' := [(0, _), (3, _), (86, _)]) ?_ ⟨rfl, rfl, rfl, trivial⟩))
            refine WC.cond_t rfl ?_
            refine WC.seq (WC.region ?_)
            refine WL.q (oq_assign rfl) rfl rfl rfl ?_
            refine WL.nil (WE.then_normal (WC.sub (fr' := [(2, _)]) ?_ ⟨rfl, trivial⟩))
            refine WC.ret (WE.block_ret (WE.then_ret (WE.then_ret (WE.block_ret (WE.then_ret ?_)))))
            refine WE.lose ho4 ?_
            refine WE.endR (.inl rfl) (res1 Tryz.results8 rfl) ?_
            exact congrArg Value.bool (all_not hlt (decide_eq_false (by unfold fineV; omega))).symm
           ·
            try simp only [Z1, Z2, Z3, Z4, Z5, Z6, Z7, Z8, Z9, Z0] at s6_53
            refine WQ.q (oq_fieldAddr fld53_0 rfl) rfl rfl rfl ?_
            refine WQ.q (oq_load flat3 rfl (.head _) (List.mem_singleton.2 rfl) rfl) rfl rfl rfl ?_
            refine WQ.q (oq_eql rfl rfl) rfl rfl rfl ?_
            refine WQ.q (oq_move rfl) rfl rfl rfl ?_
            refine WQ.split 76 rfl (fun s6_57 => ?_) (fun s6_57 => ?_)
            ·
             try simp only [Z1, Z2, Z3, Z4, Z5, Z6, Z7, Z8, Z9, Z0] at s6_57
             refine WQ.q (oq_fieldAddr fld53_2 rfl) rfl rfl rfl ?_
             refine WQ.q (oq_load flat2 rfl (.head _) (List.mem_singleton.2 rfl) rfl) rfl rfl rfl ?_
             refine WQ.q (oq_gtr rfl rfl) rfl rfl rfl ?_
             refine WQ.q (oq_move rfl) rfl rfl rfl ?_
             refine WQ.split 80 rfl (fun s6_61 => ?_) (fun s6_61 => ?_)
             ·
              try simp only [Z1, Z2, Z3, Z4, Z5, Z6, Z7, Z8, Z9, Z0] at s6_61
              refine WQ.skip rfl rfl rfl ?_
              refine WQ.skip rfl rfl rfl ?_
              refine WQ.skip rfl rfl rfl ?_
              refine WQ.q (oq_pick_t rfl rfl) rfl rfl rfl ?_
              refine WQ.q (oq_pick_t rfl rfl) rfl rfl rfl ?_
              refine WQ.q (oq_pick_f rfl rfl) rfl rfl rfl ?_
              refine WQ.nil (WE.then_normal (WC.sub (fr' := [(0, _), (3, _), (86, _)]) ?_ ⟨rfl, rfl, rfl, trivial⟩))
              refine WC.cond_t rfl ?_
              refine WC.seq (WC.region ?_)
              refine WL.q (oq_assign rfl) rfl rfl rfl ?_
              refine WL.nil (WE.then_normal (WC.sub (fr' := [(2, _)]) ?_ ⟨rfl, trivial⟩))
              refine WC.ret (WE.block_ret (WE.then_ret (WE.then_ret (WE.block_ret (WE.then_ret ?_)))))
              refine WE.lose ho4 ?_
              refine WE.endR (.inl rfl) (res1 Tryz.results8 rfl) ?_
              exact congrArg Value.bool (all_not hlt (decide_eq_false (by unfold fineV; omega))).symm
             ·
              try simp only [Z1, Z2, Z3, Z4, Z5, Z6, Z7, Z8, Z9, Z0] at s6_61
              refine WQ.q (oq_fieldAddr fld53_2 rfl) rfl rfl rfl ?_
              refine WQ.q (oq_load flat2 rfl (.head _) (List.mem_singleton.2 rfl) rfl) rfl rfl rfl ?_
              refine WQ.q (oq_lss rfl rfl) rfl rfl rfl ?_
              refine WQ.q (oq_pick_f rfl rfl) rfl rfl rfl ?_
              refine WQ.q (oq_pick_t rfl rfl) rfl rfl rfl ?_
              refine WQ.q (oq_pick_f rfl rfl) rfl rfl rfl ?_
              refine WQ.nil (WE.then_normal (WC.sub (fr' := [(0, _), (3, _), (86, _)]) ?_ ⟨rfl, rfl, rfl, trivial⟩))
              refine WC.cond rfl (fun q6 => ?_) (fun q6 => ?_)
              ·
               try simp only [Z1, Z2, Z3, Z4, Z5, Z6, Z7, Z8, Z9, Z0] at q6
               refine WC.seq (WC.region ?_)
               refine WL.q (oq_assign rfl) rfl rfl rfl ?_
               refine WL.nil (WE.then_normal (WC.sub (fr' := [(2, _)]) ?_ ⟨rfl, trivial⟩))
               refine WC.ret (WE.block_ret (WE.then_ret (WE.then_ret (WE.block_ret (WE.then_ret ?_)))))
               refine WE.lose ho4 ?_
               refine WE.endR (.inl rfl) (res1 Tryz.results8 rfl) ?_
               exact congrArg Value.bool (all_not hlt (decide_eq_false (by unfold fineV; omega))).symm
              ·
               try simp only [Z1, Z2, Z3, Z4, Z5, Z6, Z7, Z8, Z9, Z0] at q6
               refine WC.skip (WE.block_normal (WE.then_normal (WC.sub (fr' := [(0, _), (3, _)]) ?_ ⟨rfl, rfl, trivial⟩)))
               refine WC.region ?_
               refine WL.q (oq_move rfl) rfl rfl rfl ?_
               refine WL.q (oq_add rfl rfl (by rw [i64_lo, i64_hi]; (first | omega | (simp only [List.length_cons, List.length_nil, List.length_append, List.length_drop, List.length_take]; omega)))) rfl rfl rfl ?_
               refine WL.q (oq_assign rfl) rfl rfl rfl ?_
               refine WL.nil ?_
               refine WE.lose ho4 ?_
               refine WE.again (i + 1) ?_ ?_ ⟨rfl, rfl, trivial⟩ (List.Perm.refl _)
               ·try dsimp only
                exact ⟨by omega, all_snoc (by omega) hall (decide_eq_true (by unfold fineV; omega))⟩
               ·(try dsimp only); omega
            ·
             try simp only [Z1, Z2, Z3, Z4, Z5, Z6, Z7, Z8, Z9, Z0] at s6_57
             refine WQ.skip rfl rfl rfl ?_
             refine WQ.skip rfl rfl rfl ?_
             refine WQ.skip rfl rfl rfl ?_
             refine WQ.skip rfl rfl rfl ?_
             refine WQ.skip rfl rfl rfl ?_
             refine WQ.skip rfl rfl rfl ?_
             refine WQ.skip rfl rfl rfl ?_
             refine WQ.skip rfl rfl rfl ?_
             refine WQ.q (oq_pick_f rfl rfl) rfl rfl rfl ?_
             refine WQ.q (oq_pick_f rfl rfl) rfl rfl rfl ?_
             refine WQ.nil (WE.then_normal (WC.sub (fr' := [(0, _), (3, _), (86, _)]) ?_ ⟨rfl, rfl, rfl, trivial⟩))
             refine WC.cond_f rfl ?_
             refine WC.skip (WE.block_normal (WE.then_normal (WC.sub (fr' := [(0, _), (3, _)]) ?_ ⟨rfl, rfl, trivial⟩)))
             refine WC.region ?_
             refine WL.q (oq_move rfl) rfl rfl rfl ?_
             refine WL.q (oq_add rfl rfl (by rw [i64_lo, i64_hi]; (first | omega | (simp only [List.length_cons, List.length_nil, List.length_append, List.length_drop, List.length_take]; omega)))) rfl rfl rfl ?_
             refine WL.q (oq_assign rfl) rfl rfl rfl ?_
             refine WL.nil ?_
             refine WE.lose ho4 ?_
             refine WE.again (i + 1) ?_ ?_ ⟨rfl, rfl, trivial⟩ (List.Perm.refl _)
             ·try dsimp only
              exact ⟨by omega, all_snoc (by omega) hall (decide_eq_true (by unfold fineV; omega))⟩
             ·(try dsimp only); omega
          ·
           try simp only [Z1, Z2, Z3, Z4, Z5, Z6, Z7, Z8, Z9, Z0] at s6_46
           refine WQ.skip rfl rfl rfl ?_
           refine WQ.skip rfl rfl rfl ?_
           refine WQ.skip rfl rfl rfl ?_
           refine WQ.skip rfl rfl rfl ?_
           refine WQ.q (oq_pick_f rfl rfl) rfl rfl rfl ?_
           refine WQ.q (oq_pick_f rfl rfl) rfl rfl rfl ?_
           refine WQ.q (oq_move rfl) rfl rfl rfl ?_
           refine WQ.q (oq_fieldAddr fld53_0 rfl) rfl rfl rfl ?_
           refine WQ.q (oq_load flat3 rfl (.head _) (List.mem_singleton.2 rfl) rfl) rfl rfl rfl ?_
           refine WQ.q (oq_eql rfl rfl) rfl rfl rfl ?_
           refine WQ.q (oq_move rfl) rfl rfl rfl ?_
           refine WQ.split 76 rfl (fun s6_57 => ?_) (fun s6_57 => ?_)
           ·
            try simp only [Z1, Z2, Z3, Z4, Z5, Z6, Z7, Z8, Z9, Z0] at s6_57
            refine WQ.q (oq_fieldAddr fld53_2 rfl) rfl rfl rfl ?_
            refine WQ.q (oq_load flat2 rfl (.head _) (List.mem_singleton.2 rfl) rfl) rfl rfl rfl ?_
            refine WQ.q (oq_gtr rfl rfl) rfl rfl rfl ?_
            refine WQ.q (oq_move rfl) rfl rfl rfl ?_
            refine WQ.split 80 rfl (fun s6_61 => ?_) (fun s6_61 => ?_)
            ·
             try simp only [Z1, Z2, Z3, Z4, Z5, Z6, Z7, Z8, Z9, Z0] at s6_61
             refine WQ.skip rfl rfl rfl ?_
             refine WQ.skip rfl rfl rfl ?_
             refine WQ.skip rfl rfl rfl ?_
             refine WQ.q (oq_pick_t rfl rfl) rfl rfl rfl ?_
             refine WQ.q (oq_pick_t rfl rfl) rfl rfl rfl ?_
             refine WQ.q (oq_pick_f rfl rfl) rfl rfl rfl ?_
             refine WQ.nil (WE.then_normal (WC.sub (fr' := [(0, _), (3, _), (86, _)]) ?_ ⟨rfl, rfl, rfl, trivial⟩))
             refine WC.cond_t rfl ?_
             refine WC.seq (WC.region ?_)
             refine WL.q (oq_assign rfl) rfl rfl rfl ?_
             refine WL.nil (WE.then_normal (WC.sub (fr' := [(2, _)]) ?_ ⟨rfl, trivial⟩))
             refine WC.ret (WE.block_ret (WE.then_ret (WE.then_ret (WE.block_ret (WE.then_ret ?_)))))
             refine WE.lose ho4 ?_
             refine WE.endR (.inl rfl) (res1 Tryz.results8 rfl) ?_
             exact congrArg Value.bool (all_not hlt (decide_eq_false (by unfold fineV; omega))).symm
            ·
             try simp only [Z1, Z2, Z3, Z4, Z5, Z6, Z7, Z8, Z9, Z0] at s6_61
             refine WQ.q (oq_fieldAddr fld53_2 rfl) rfl rfl rfl ?_
             refine WQ.q (oq_load flat2 rfl (.head _) (List.mem_singleton.2 rfl) rfl) rfl rfl rfl ?_
             refine WQ.q (oq_lss rfl rfl) rfl rfl rfl ?_
             refine WQ.q (oq_pick_f rfl rfl) rfl rfl rfl ?_
             refine WQ.q (oq_pick_t rfl rfl) rfl rfl rfl ?_
             refine WQ.q (oq_pick_f rfl rfl) rfl rfl rfl ?_
             refine WQ.nil (WE.then_normal (WC.sub (fr' := [(0, _), (3, _), (86, _)]) ?_ ⟨rfl, rfl, rfl, trivial⟩))
             refine WC.cond rfl (fun q6 => ?_) (fun q6 => ?_)
             ·
              try simp only [Z1, Z2, Z3, Z4, Z5, Z6, Z7, Z8, Z9, Z0] at q6
              refine WC.seq (WC.region ?_)
              refine WL.q (oq_assign rfl) rfl rfl rfl ?_
              refine WL.nil (WE.then_normal (WC.sub (fr' := [(2, _)]) ?_ ⟨rfl, trivial⟩))
              refine WC.ret (WE.block_ret (WE.then_ret (WE.then_ret (WE.block_ret (WE.then_ret ?_)))))
              refine WE.lose ho4 ?_
              refine WE.endR (.inl rfl) (res1 Tryz.results8 rfl) ?_
              exact congrArg Value.bool (all_not hlt (decide_eq_false (by unfold fineV; omega))).symm
             ·
              try simp only [Z1, Z2, Z3, Z4, Z5, Z6, Z7, Z8, Z9, Z0] at q6
              refine WC.skip (WE.block_normal (WE.then_normal (WC.sub (fr' := [(0, _), (3, _)]) ?_ ⟨rfl, rfl, trivial⟩)))
              refine WC.region ?_
              refine WL.q (oq_move rfl) rfl rfl rfl ?_
              refine WL.q (oq_add rfl rfl (by rw [i64_lo, i64_hi]; (first | omega | (simp only [List.length_cons, List.length_nil, List.length_append, List.length_drop, List.length_take]; omega)))) rfl rfl rfl ?_
              refine WL.q (oq_assign rfl) rfl rfl rfl ?_
              refine WL.nil ?_
              refine WE.lose ho4 ?_
              refine WE.again (i + 1) ?_ ?_ ⟨rfl, rfl, trivial⟩ (List.Perm.refl _)
              ·try dsimp only
               exact ⟨by omega, all_snoc (by omega) hall (decide_eq_true (by unfold fineV; omega))⟩
              ·(try dsimp only); omega
           ·
            try simp only [Z1, Z2, Z3, Z4, Z5, Z6, Z7, Z8, Z9, Z0] at s6_57
            refine WQ.skip rfl rfl rfl ?_
            refine WQ.skip rfl rfl rfl ?_
            refine WQ.skip rfl rfl rfl ?_
            refine WQ.skip rfl rfl rfl ?_
            refine WQ.skip rfl rfl rfl ?_
            refine WQ.skip rfl rfl rfl ?_
            refine WQ.skip rfl rfl rfl ?_
            refine WQ.skip rfl rfl rfl ?_
            refine WQ.q (oq_pick_f rfl rfl) rfl rfl rfl ?_
            refine WQ.q (oq_pick_f rfl rfl) rfl rfl rfl ?_
            refine WQ.nil (WE.then_normal (WC.sub (fr' := [(0, _), (3, _), (86, _)]) ?_ ⟨rfl, rfl, rfl, trivial⟩))
            refine WC.cond_f rfl ?_
            refine WC.skip (WE.block_normal (WE.then_normal (WC.sub (fr' := [(0, _), (3, _)]) ?_ ⟨rfl, rfl, trivial⟩)))
            refine WC.region ?_
            refine WL.q (oq_move rfl) rfl rfl rfl ?_
            refine WL.q (oq_add rfl rfl (by rw [i64_lo, i64_hi]; (first | omega | (simp only [List.length_cons, List.length_nil, List.length_append, List.length_drop, List.length_take]; omega)))) rfl rfl rfl ?_
            refine WL.q (oq_assign rfl) rfl rfl rfl ?_
            refine WL.nil ?_
            refine WE.lose ho4 ?_
            refine WE.again (i + 1) ?_ ?_ ⟨rfl, rfl, trivial⟩ (List.Perm.refl _)
            ·try dsimp only
             exact ⟨by omega, all_snoc (by omega) hall (decide_eq_true (by unfold fineV; omega))⟩
            ·(try dsimp only); omega
       ·
        try simp only [Z1, Z2, Z3, Z4, Z5, Z6, Z7, Z8, Z9, Z0] at s6_19
        refine WQ.skip rfl rfl rfl ?_
        refine WQ.skip rfl rfl rfl ?_
        refine WQ.q (oq_pick_f rfl rfl) rfl rfl rfl ?_
        refine WQ.q (oq_move rfl) rfl rfl rfl ?_
        refine WQ.skip rfl rfl rfl ?_
        refine WQ.skip rfl rfl rfl ?_
        refine WQ.q (oq_pick_f rfl rfl) rfl rfl rfl ?_
        refine WQ.q (oq_move rfl) rfl rfl rfl ?_
        refine WQ.q (oq_fieldAddr fld53_2 rfl) rfl rfl rfl ?_
        refine WQ.q (oq_load flat2 rfl (.head _) (List.mem_singleton.2 rfl) rfl) rfl rfl rfl ?_
        refine WQ.q (oq_move rfl) rfl rfl rfl ?_
        refine WQ.q (oq_sub rfl rfl (by rw [i64_lo, i64_hi]; (first | omega | (simp only [List.length_cons, List.length_nil, List.length_append, List.length_drop, List.length_take]; omega)))) rfl rfl rfl ?_
        refine WQ.q (oq_shl rfl rfl (by omega)) rfl rfl rfl ?_
        refine WQ.q (oq_move rfl) rfl rfl rfl ?_
        refine WQ.q (oq_sub rfl rfl (by rw [i64_lo, i64_hi]; (first | omega | (simp only [List.length_cons, List.length_nil, List.length_append, List.length_drop, List.length_take]; omega)))) rfl rfl rfl ?_
        refine WQ.q (oq_shr rfl rfl (by omega)) rfl rfl rfl ?_
        refine WQ.q (oq_fieldAddr fld53_2 rfl) rfl rfl rfl ?_
        refine WQ.q (oq_load flat2 rfl (.head _) (List.mem_singleton.2 rfl) rfl) rfl rfl rfl ?_
        refine WQ.q (oq_neq rfl rfl) rfl rfl rfl ?_
        refine WQ.q (oq_pick_f rfl rfl) rfl rfl rfl ?_
        refine WQ.q (oq_pick_t rfl rfl) rfl rfl rfl ?_
        refine WQ.q (oq_pick_f rfl rfl) rfl rfl rfl ?_
        refine WQ.q (oq_move rfl) rfl rfl rfl ?_
        refine WQ.split 61 rfl (fun s6_42 => ?_) (fun s6_42 => ?_)
        ·
         try simp only [Z1, Z2, Z3, Z4, Z5, Z6, Z7, Z8, Z9, Z0] at s6_42
         refine WQ.skip rfl rfl rfl ?_
         refine WQ.skip rfl rfl rfl ?_
         refine WQ.skip rfl rfl rfl ?_
         refine WQ.skip rfl rfl rfl ?_
         refine WQ.skip rfl rfl rfl ?_
         refine WQ.skip rfl rfl rfl ?_
         refine WQ.skip rfl rfl rfl ?_
         refine WQ.skip rfl rfl rfl ?_
         refine WQ.skip rfl rfl rfl ?_
         refine WQ.q (oq_pick_t rfl rfl) rfl rfl rfl ?_
         refine WQ.q (oq_move rfl) rfl rfl rfl ?_
         refine WQ.skip rfl rfl rfl ?_
         refine WQ.skip rfl rfl rfl ?_
         refine WQ.skip rfl rfl rfl ?_
         refine WQ.skip rfl rfl rfl ?_
         refine WQ.skip rfl rfl rfl ?_
         refine WQ.skip rfl rfl rfl ?_
         refine WQ.skip rfl rfl rfl ?_
         refine WQ.skip rfl rfl rfl ?_
         refine WQ.skip rfl rfl rfl ?_
         refine WQ.skip rfl rfl rfl ?_
         refine WQ.skip rfl rfl rfl ?_
         refine WQ.skip rfl rfl rfl ?_
         refine WQ.skip rfl rfl rfl ?_
         refine WQ.q (oq_pick_t rfl rfl) rfl rfl rfl ?_
         refine WQ.nil (WE.then_normal (WC.sub (fr' := [(0, _), (3, _), (86, _)]) ?_ ⟨rfl, rfl, rfl, trivial⟩))
         refine WC.cond_t rfl ?_
         refine WC.seq (WC.region ?_)
         refine WL.q (oq_assign rfl) rfl rfl rfl ?_
         refine WL.nil (WE.then_normal (WC.sub (fr' := [(2, _)]) ?_ ⟨rfl, trivial⟩))
         refine WC.ret (WE.block_ret (WE.then_ret (WE.then_ret (WE.block_ret (WE.then_ret ?_)))))
         refine WE.lose ho4 ?_
         refine WE.endR (.inl rfl) (res1 Tryz.results8 rfl) ?_
         exact congrArg Value.bool (all_not hlt (decide_eq_false (by unfold fineV; omega))).symm
        ·
         try simp only [Z1, Z2, Z3, Z4, Z5, Z6, Z7, Z8, Z9, Z0] at s6_42
         refine WQ.q (oq_fieldAddr fld53_0 rfl) rfl rfl rfl ?_
         refine WQ.q (oq_load flat3 rfl (.head _) (List.mem_singleton.2 rfl) rfl) rfl rfl rfl ?_
         refine WQ.q (oq_eql rfl rfl) rfl rfl rfl ?_
         refine WQ.q (oq_move rfl) rfl rfl rfl ?_
         refine WQ.split 65 rfl (fun s6_46 => ?_) (fun s6_46 => ?_)
         ·
          try simp only [Z1, Z2, Z3, Z4, Z5, Z6, Z7, Z8, Z9, Z0] at s6_46
          refine WQ.q (oq_fieldAddr fld53_3 rfl) rfl rfl rfl ?_
          refine WQ.q (oq_load flat9 rfl (.head _) (List.mem_singleton.2 rfl) rfl) rfl rfl rfl ?_
          refine WQ.q (oq_len_s Tryz.underlying9 rfl) rfl rfl rfl ?_
          refine WQ.q (oq_neq rfl rfl) rfl rfl rfl ?_
          refine WQ.q (oq_pick_t rfl rfl) rfl rfl rfl ?_
          refine WQ.q (oq_pick_f rfl rfl) rfl rfl rfl ?_
          refine WQ.q (oq_move rfl) rfl rfl rfl ?_
          refine WQ.split 72 rfl (fun s6_53 => ?_) (fun s6_53 => ?_)
          ·
           try simp only [Z1, Z2, Z3, Z4, Z5, Z6, Z7, Z8, Z9, Z0] at s6_53
           refine WQ.skip rfl rfl rfl ?_
           refine WQ.skip rfl rfl rfl ?_
           refine WQ.skip rfl rfl rfl ?_
           refine WQ.skip rfl rfl rfl ?_
           refine WQ.skip rfl rfl rfl ?_
           refine WQ.skip rfl rfl rfl ?_
           refine WQ.skip rfl rfl rfl ?_
           refine WQ.skip rfl rfl rfl ?_
           refine WQ.skip rfl rfl rfl ?_
           refine WQ.skip rfl rfl rfl ?_
           refine WQ.skip rfl rfl rfl ?_
           refine WQ.skip rfl rfl rfl ?_
           refine WQ.skip rfl rfl rfl ?_
           refine WQ.q (oq_pick_t rfl rfl) rfl rfl rfl ?_
           refine WQ.nil (WE.then_normal (WC.sub (fr' := [(0, _), (3, _), (86, _)]) ?_ ⟨rfl, rfl, rfl, trivial⟩))
           refine WC.cond_t rfl ?_
           refine WC.seq (WC.region ?_)
           refine WL.q (oq_assign rfl) rfl rfl rfl ?_
           refine WL.nil (WE.then_normal (WC.sub (fr' := [(2, _)]) ?_ ⟨rfl, trivial⟩))
           refine WC.ret (WE.block_ret (WE.then_ret (WE.then_ret (WE.block_ret (WE.then_ret ?_)))))
           refine WE.lose ho4 ?_
           refine WE.endR (.inl rfl) (res1 Tryz.results8 rfl) ?_
           exact congrArg Value.bool (all_not hlt (decide_eq_false (by unfold fineV; omega))).symm
          ·
           try simp only [Z1, Z2, Z3, Z4, Z5, Z6, Z7, Z8, Z9, Z0] at s6_53
           refine WQ.q (oq_fieldAddr fld53_0 rfl) rfl rfl rfl ?_
           refine WQ.q (oq_load flat3 rfl (.head _) (List.mem_singleton.2 rfl) rfl) rfl rfl rfl ?_
           refine WQ.q (oq_eql rfl rfl) rfl rfl rfl ?_
           refine WQ.q (oq_move rfl) rfl rfl rfl ?_
           refine WQ.split 76 rfl (fun s6_57 => ?_) (fun s6_57 => ?_)
           ·
            try simp only [Z1, Z2, Z3, Z4, Z5, Z6, Z7, Z8, Z9, Z0] at s6_57
            refine WQ.q (oq_fieldAddr fld53_2 rfl) rfl rfl rfl ?_
            refine WQ.q (oq_load flat2 rfl (.head _) (List.mem_singleton.2 rfl) rfl) rfl rfl rfl ?_
            refine WQ.q (oq_gtr rfl rfl) rfl rfl rfl ?_
            refine WQ.q (oq_move rfl) rfl rfl rfl ?_
            refine WQ.split 80 rfl (fun s6_61 => ?_) (fun s6_61 => ?_)
            ·
             try simp only [Z1, Z2, Z3, Z4, Z5, Z6, Z7, Z8, Z9, Z0] at s6_61
             refine WQ.skip rfl rfl rfl ?_
             refine WQ.skip rfl rfl rfl ?_
             refine WQ.skip rfl rfl rfl ?_
             refine WQ.q (oq_pick_t rfl rfl) rfl rfl rfl ?_
             refine WQ.q (oq_pick_t rfl rfl) rfl rfl rfl ?_
             refine WQ.q (oq_pick_f rfl rfl) rfl rfl rfl ?_
             refine WQ.nil (WE.then_normal (WC.sub (fr' := [(0, _), (3, _), (86, _)]) ?_ ⟨rfl, rfl, rfl, trivial⟩))
             refine WC.cond_t rfl ?_
             refine WC.seq (WC.region ?_)
             refine WL.q (oq_assign rfl) rfl rfl rfl ?_
             refine WL.nil (WE.then_normal (WC.sub (fr' := [(2, _)]) ?_ ⟨rfl, trivial⟩))
             refine WC.ret (WE.block_ret (WE.then_ret (WE.then_ret (WE.block_ret (WE.then_ret ?_)))))
             refine WE.lose ho4 ?_
             refine WE.endR (.inl rfl) (res1 Tryz.results8 rfl) ?_
             exact congrArg Value.bool (all_not hlt (decide_eq_false (by unfold fineV; omega))).symm
            ·
             try simp only [Z1, Z2, Z3, Z4, Z5, Z6, Z7, Z8, Z9, Z0] at s6_61
             refine WQ.q (oq_fieldAddr fld53_2 rfl) rfl rfl rfl ?_
             refine WQ.q (oq_load flat2 rfl (.head _) (List.mem_singleton.2 rfl) rfl) rfl rfl rfl ?_
             refine WQ.q (oq_lss rfl rfl) rfl rfl rfl ?_
             refine WQ.q (oq_pick_f rfl rfl) rfl rfl rfl ?_
             refine WQ.q (oq_pick_t rfl rfl) rfl rfl rfl ?_
             refine WQ.q (oq_pick_f rfl rfl) rfl rfl rfl ?_
             refine WQ.nil (WE.then_normal (WC.sub (fr' := [(0, _), (3, _), (86, _)]) ?_ ⟨rfl, rfl, rfl, trivial⟩))
             refine WC.cond rfl (fun q6 => ?_) (fun q6 => ?_)
             ·
              try simp only [Z1, Z2, Z3, Z4, Z5, Z6, Z7, Z8, Z9, Z0] at q6
              refine WC.seq (WC.region ?_)
              refine WL.q (oq_assign rfl) rfl rfl rfl ?_
              refine WL.nil (WE.then_normal (WC.sub (fr' := [(2, _)]) ?_ ⟨rfl, trivial⟩))
              refine WC.ret (WE.block_ret (WE.then_ret (WE.then_ret (WE.block_ret (WE.then_ret ?_)))))
              refine WE.lose ho4 ?_
              refine WE.endR (.inl rfl) (res1 Tryz.results8 rfl) ?_
              exact congrArg Value.bool (all_not hlt (decide_eq_false (by unfold fineV; omega))).symm
             ·
              try simp only [Z1, Z2, Z3, Z4, Z5, Z6, Z7, Z8, Z9, Z0] at q6
              refine WC.skip (WE.block_normal (WE.then_normal (WC.sub (fr' := [(0, _), (3, _)]) ?_ ⟨rfl, rfl, trivial⟩)))
              refine WC.region ?_
              refine WL.q (oq_move rfl) rfl rfl rfl ?_
              refine WL.q (oq_add rfl rfl (by rw [i64_lo, i64_hi]; (first | omega | (simp only [List.length_cons, List.length_nil, List.length_append, List.length_drop, List.length_take]; omega)))) rfl rfl rfl ?_
              refine WL.q (oq_assign rfl) rfl rfl rfl ?_
              refine WL.nil ?_
              refine WE.lose ho4 ?_
              refine WE.again (i + 1) ?_ ?_ ⟨rfl, rfl, trivial⟩ (List.Perm.refl _)
              ·try dsimp only
               exact ⟨by omega, all_snoc (by omega) hall (decide_eq_true (by unfold fineV; omega))⟩
              ·(try dsimp only); omega
           ·
            try simp only [Z1, Z2, Z3, Z4, Z5, Z6, Z7, Z8, Z9, Z0] at s6_57
            refine WQ.skip rfl rfl rfl ?_
            refine WQ.skip rfl rfl rfl ?_
            refine WQ.skip rfl rfl rfl ?_
            refine WQ.skip rfl rfl rfl ?_
            refine WQ.skip rfl rfl rfl ?_
            refine WQ.skip rfl rfl rfl ?_
            refine WQ.skip rfl rfl rfl ?_
            refine WQ.skip rfl rfl rfl ?_
            refine WQ.q (oq_pick_f rfl rfl) rfl rfl rfl ?_
            refine WQ.q (oq_pick_f rfl rfl) rfl rfl rfl ?_
            refine WQ.nil (WE.then_normal (WC.sub (fr' := [(0, _), (3, _), (86, _)]) ?_ ⟨rfl, rfl, rfl, trivial⟩))
            refine WC.cond_f rfl ?_
            refine WC.skip (WE.block_normal (WE.then_normal (WC.sub (fr' := [(0, _), (3, _)]) ?_ ⟨rfl, rfl, trivial⟩)))
            refine WC.region ?_
            refine WL.q (oq_move rfl) rfl rfl rfl ?_
            refine WL.q (oq_add rfl rfl (by rw [i64_lo, i64_hi]; (first | omega | (simp only [List.length_cons, List.length_nil, List.length_append, List.length_drop, List.length_take]; omega)))) rfl rfl rfl ?_
            refine WL.q (oq_assign rfl) rfl rfl rfl ?_
            refine WL.nil ?_
            refine WE.lose ho4 ?_
            refine WE.again (i + 1) ?_ ?_ ⟨rfl, rfl, trivial⟩ (List.Perm.refl _)
            ·try dsimp only
             exact ⟨by omega, all_snoc (by omega) hall (decide_eq_true (by unfold fineV; omega))⟩
            ·(try dsimp only); omega
         ·
          try simp only [Z1, Z2, Z3, Z4, Z5, Z6, Z7, Z8, Z9, Z0] at s6_46
          refine WQ.skip rfl rfl rfl ?_
          refine WQ.skip rfl rfl rfl ?_
          refine WQ.skip rfl rfl rfl ?_
          refine WQ.skip rfl rfl rfl ?_
          refine WQ.q (oq_pick_f rfl rfl) rfl rfl rfl ?_
          refine WQ.q (oq_pick_f rfl rfl) rfl rfl rfl ?_
          refine WQ.q (oq_move rfl) rfl rfl rfl ?_
          refine WQ.q (oq_fieldAddr fld53_0 rfl) rfl rfl rfl ?_
          refine WQ.q (oq_load flat3 rfl (.head _) (List.mem_singleton.2 rfl) rfl) rfl rfl rfl ?_
          refine WQ.q (oq_eql rfl rfl) rfl rfl rfl ?_
          refine WQ.q (oq_move rfl) rfl rfl rfl ?_
          refine WQ.split 76 rfl (fun s6_57 => ?_) (fun s6_57 => ?_)
          ·
           try simp only [Z1, Z2, Z3, Z4, Z5, Z6, Z7, Z8, Z9, Z0] at s6_57
           refine WQ.q (oq_fieldAddr fld53_2 rfl) rfl rfl rfl ?_
           refine WQ.q (oq_load flat2 rfl (.head _) (List.mem_singleton.2 rfl) rfl) rfl rfl rfl ?_
           refine WQ.q (oq_gtr rfl rfl) rfl rfl rfl ?_
           refine WQ.q (oq_move rfl) rfl rfl rfl ?_
           refine WQ.split 80 rfl (fun s6_61 => ?_) (fun s6_61 => ?_)
           ·
            try simp only [Z1, Z2, Z3, Z4, Z5, Z6, Z7, Z8, Z9, Z0] at s6_61
            refine WQ.skip rfl rfl rfl ?_
            refine WQ.skip rfl rfl rfl ?_
            refine WQ.skip rfl rfl rfl ?_
            refine WQ.q (oq_pick_t rfl rfl) rfl rfl rfl ?_
            refine WQ.q (oq_pick_t rfl rfl) rfl rfl rfl ?_
            refine WQ.q (oq_pick_f rfl rfl) rfl rfl rfl ?_
            refine WQ.nil (WE.then_normal (WC.sub (fr' := [(0, _), (3, _), (86, _)]) ?_ ⟨rfl, rfl, rfl, trivial⟩))
            refine WC.cond_t rfl ?_
            refine WC.seq (WC.region ?_)
            refine WL.q (oq_assign rfl) rfl rfl rfl ?_
            refine WL.nil (WE.then_normal (WC.sub (fr' := [(2, _)]) ?_ ⟨rfl, trivial⟩))
            refine WC.ret (WE.block_ret (WE.then_ret (WE.then_ret (WE.block_ret (WE.then_ret ?_)))))
            refine WE.lose ho4 ?_
            refine WE.endR (.inl rfl) (res1 Tryz.results8 rfl) ?_
            exact congrArg Value.bool (all_not hlt (decide_eq_false (by unfold fineV; omega))).symm
           ·
            try simp only [Z1, Z2, Z3, Z4, Z5, Z6, Z7, Z8, Z9, Z0] at s6_61
            refine WQ.q (oq_fieldAddr fld53_2 rfl) rfl rfl rfl ?_
            refine WQ.q (oq_load flat2 rfl (.head _) (List.mem_singleton.2 rfl) rfl) rfl rfl rfl ?_
            refine WQ.q (oq_lss rfl rfl) rfl rfl rfl ?_
            refine WQ.q (oq_pick_f rfl rfl) rfl rfl rfl ?_
            refine WQ.q (oq_pick_t rfl rfl) rfl rfl rfl ?_
            refine WQ.q (oq_pick_f rfl rfl) rfl rfl rfl ?_
            refine WQ.nil (WE.then_normal (WC.sub (fr' := [(0, _), (3, _), (86, _)]) ?_ ⟨rfl, rfl, rfl, trivial⟩))
            refine WC.cond rfl (fun q6 => ?_) (fun q6 => ?_)
            ·
             try simp only [Z1, Z2, Z3, Z4, Z5, Z6, Z7, Z8, Z9, Z0] at q6
             refine WC.seq (WC.region ?_)
             refine WL.q (oq_assign rfl) rfl rfl rfl ?_
             refine WL.nil (WE.then_normal (WC.sub (fr' := [(2, _)]) ?_ ⟨rfl, trivial⟩))
             refine WC.ret (WE.block_ret (WE.then_ret (WE.then_ret (WE.block_ret (WE.then_ret ?_)))))
             refine WE.lose ho4 ?_
             refine WE.endR (.inl rfl) (res1 Tryz.results8 rfl) ?_
             exact congrArg Value.bool (all_not hlt (decide_eq_false (by unfold fineV; omega))).symm
            ·
             try simp only [Z1, Z2, Z3, Z4, Z5, Z6, Z7, Z8, Z9, Z0] at q6
             refine WC.skip (WE.block_normal (WE.then_normal (WC.sub (fr' := [(0, _), (3, _)]) ?_ ⟨rfl, rfl, trivial⟩)))
             refine WC.region ?_
             refine WL.q (oq_move rfl) rfl rfl rfl ?_
             refine WL.q (oq_add rfl rfl (by rw [i64_lo, i64_hi]; (first | omega | (simp only [List.length_cons, List.length_nil, List.length_append, List.length_drop, List.length_take]; omega)))) rfl rfl rfl ?_
             refine WL.q (oq_assign rfl) rfl rfl rfl ?_
             refine WL.nil ?_
             refine WE.lose ho4 ?_
             refine WE.again (i + 1) ?_ ?_ ⟨rfl, rfl, trivial⟩ (List.Perm.refl _)
             ·try dsimp only
              exact ⟨by omega, all_snoc (by omega) hall (decide_eq_true (by unfold fineV; omega))⟩
             ·(try dsimp only); omega
          ·
           try simp only [Z1, Z2, Z3, Z4, Z5, Z6, Z7, Z8, Z9, Z0] at s6_57
           refine WQ.skip rfl rfl rfl ?_
           refine WQ.skip rfl rfl rfl ?_
           refine WQ.skip rfl rfl rfl ?_
           refine WQ.skip rfl rfl rfl ?_
           refine WQ.skip rfl rfl rfl ?_
           refine WQ.skip rfl rfl rfl ?_
           refine WQ.skip rfl rfl rfl ?_
           refine WQ.skip rfl rfl rfl ?_
           refine WQ.q (oq_pick_f rfl rfl) rfl rfl rfl ?_
           refine WQ.q (oq_pick_f rfl rfl) rfl rfl rfl ?_
           refine WQ.nil (WE.then_normal (WC.sub (fr' := [(0, _), (3, _), (86, _)]) ?_ ⟨rfl, rfl, rfl, trivial⟩))
           refine WC.cond_f rfl ?_
           refine WC.skip (WE.block_normal (WE.then_normal (WC.sub (fr' := [(0, _), (3, _)]) ?_ ⟨rfl, rfl, trivial⟩)))
           refine WC.region ?_
           refine WL.q (oq_move rfl) rfl rfl rfl ?_
           refine WL.q (oq_add rfl rfl (by rw [i64_lo, i64_hi]; (first | omega | (simp only [List.length_cons, List.length_nil, List.length_append, List.length_drop, List.length_take]; omega)))) rfl rfl rfl ?_
           refine WL.q (oq_assign rfl) rfl rfl rfl ?_
           refine WL.nil ?_
           refine WE.lose ho4 ?_
           refine WE.again (i + 1) ?_ ?_ ⟨rfl, rfl, trivial⟩ (List.Perm.refl _)
           ·try dsimp only
            exact ⟨by omega, all_snoc (by omega) hall (decide_eq_true (by unfold fineV; omega))⟩
           ·(try dsimp only); omega
      ·
       try simp only [Z1, Z2, Z3, Z4, Z5, Z6, Z7, Z8, Z9, Z0] at s6_15
       refine WQ.skip rfl rfl rfl ?_
       refine WQ.skip rfl rfl rfl ?_
       refine WQ.q (oq_pick_f rfl rfl) rfl rfl rfl ?_
       refine WQ.q (oq_move rfl) rfl rfl rfl ?_
       refine WQ.skip rfl rfl rfl ?_
       refine WQ.skip rfl rfl rfl ?_
       refine WQ.q (oq_pick_f rfl rfl) rfl rfl rfl ?_
       refine WQ.q (oq_move rfl) rfl rfl rfl ?_
       refine WQ.skip rfl rfl rfl ?_
       refine WQ.skip rfl rfl rfl ?_
       refine WQ.q (oq_pick_f rfl rfl) rfl rfl rfl ?_
       refine WQ.q (oq_move rfl) rfl rfl rfl ?_
       refine WQ.q (oq_fieldAddr fld53_2 rfl) rfl rfl rfl ?_
       refine WQ.q (oq_load flat2 rfl (.head _) (List.mem_singleton.2 rfl) rfl) rfl rfl rfl ?_
       refine WQ.q (oq_move rfl) rfl rfl rfl ?_
       refine WQ.q (oq_sub rfl rfl (by rw [i64_lo, i64_hi]; (first | omega | (simp only [List.length_cons, List.length_nil, List.length_append, List.length_drop, List.length_take]; omega)))) rfl rfl rfl ?_
       refine WQ.q (oq_shl rfl rfl (by omega)) rfl rfl rfl ?_
       refine WQ.q (oq_move rfl) rfl rfl rfl ?_
       refine WQ.q (oq_sub rfl rfl (by rw [i64_lo, i64_hi]; (first | omega | (simp only [List.length_cons, List.length_nil, List.length_append, List.length_drop, List.length_take]; omega)))) rfl rfl rfl ?_
       refine WQ.q (oq_shr rfl rfl (by omega)) rfl rfl rfl ?_
       refine WQ.q (oq_fieldAddr fld53_2 rfl) rfl rfl rfl ?_
       refine WQ.q (oq_load flat2 rfl (.head _) (List.mem_singleton.2 rfl) rfl) rfl rfl rfl ?_
       refine WQ.q (oq_neq rfl rfl) rfl rfl rfl ?_
       refine WQ.q (oq_pick_f rfl rfl) rfl rfl rfl ?_
       refine WQ.q (oq_pick_t rfl rfl) rfl rfl rfl ?_
       refine WQ.q (oq_pick_f rfl rfl) rfl rfl rfl ?_
       refine WQ.q (oq_move rfl) rfl rfl rfl ?_
       refine WQ.split 61 rfl (fun s6_42 => ?_) (fun s6_42 => ?_)
       ·
        try simp only [Z1, Z2, Z3, Z4, Z5, Z6, Z7, Z8, Z9, Z0] at s6_42
        refine WQ.skip rfl rfl rfl ?_
        refine WQ.skip rfl rfl rfl ?_
        refine WQ.skip rfl rfl rfl ?_
        refine WQ.skip rfl rfl rfl ?_
        refine WQ.skip rfl rfl rfl ?_
        refine WQ.skip rfl rfl rfl ?_
        refine WQ.skip rfl rfl rfl ?_
        refine WQ.skip rfl rfl rfl ?_
        refine WQ.skip rfl rfl rfl ?_
        refine WQ.q (oq_pick_t rfl rfl) rfl rfl rfl ?_
        refine WQ.q (oq_move rfl) rfl rfl rfl ?_
        refine WQ.skip rfl rfl rfl ?_
        refine WQ.skip rfl rfl rfl ?_
        refine WQ.skip rfl rfl rfl ?_
        refine WQ.skip rfl rfl rfl ?_
        refine WQ.skip rfl rfl rfl ?_
        refine WQ.skip rfl rfl rfl ?_
        refine WQ.skip rfl rfl rfl ?_
        refine WQ.skip rfl rfl rfl ?_
        refine WQ.skip rfl rfl rfl ?_
        refine WQ.skip rfl rfl rfl ?_
        refine WQ.skip rfl rfl rfl ?_
        refine WQ.skip rfl rfl rfl ?_
        refine WQ.skip rfl rfl rfl ?_
        refine WQ.q (oq_pick_t rfl rfl) rfl rfl rfl ?_
        refine WQ.nil (WE.then_normal (WC.sub (fr' := [(0, _), (3, _), (86, _)]) ?_ ⟨rfl, rfl, rfl, trivial⟩))
        refine WC.cond_t rfl ?_
        refine WC.seq (WC.region ?_)
        refine WL.q (oq_assign rfl) rfl rfl rfl ?_
        refine WL.nil (WE.then_normal (WC.sub (fr' := [(2, _)]) ?_ ⟨rfl, trivial⟩))
        refine WC.ret (WE.block_ret (WE.then_ret (WE.then_ret (WE.block_ret (WE.then_ret ?_)))))
        refine WE.lose ho4 ?_
        refine WE.endR (.inl rfl) (res1 Tryz.results8 rfl) ?_
        exact congrArg Value.bool (all_not hlt (decide_eq_false (by unfold fineV; omega))).symm
       ·
        try simp only [Z1, Z2, Z3, Z4, Z5, Z6, Z7, Z8, Z9, Z0] at s6_42
        refine WQ.q (oq_fieldAddr fld53_0 rfl) rfl rfl rfl ?_
        refine WQ.q (oq_load flat3 rfl (.head _) (List.mem_singleton.2 rfl) rfl) rfl rfl rfl ?_
        refine WQ.q (oq_eql rfl rfl) rfl rfl rfl ?_
        refine WQ.q (oq_move rfl) rfl rfl rfl ?_
        refine WQ.split 65 rfl (fun s6_46 => ?_) (fun s6_46 => ?_)
        ·
         try simp only [Z1, Z2, Z3, Z4, Z5, Z6, Z7, Z8, Z9, Z0] at s6_46
         refine WQ.q (oq_fieldAddr fld53_3 rfl) rfl rfl rfl ?_
         refine WQ.q (oq_load flat9 rfl (.head _) (List.mem_singleton.2 rfl) rfl) rfl rfl rfl ?_
         refine WQ.q (oq_len_s Tryz.underlying9 rfl) rfl rfl rfl ?_
         refine WQ.q (oq_neq rfl rfl) rfl rfl rfl ?_
         refine WQ.q (oq_pick_t rfl rfl) rfl rfl rfl ?_
         refine WQ.q (oq_pick_f rfl rfl) rfl rfl rfl ?_
         refine WQ.q (oq_move rfl) rfl rfl rfl ?_
         refine WQ.split 72 rfl (fun s6_53 => ?_) (fun s6_53 => ?_)
         ·
          try simp only [Z1, Z2, Z3, Z4, Z5, Z6, Z7, Z8, Z9, Z0] at s6_53
          refine WQ.skip rfl rfl rfl ?_
          refine WQ.skip rfl rfl rfl ?_
          refine WQ.skip rfl rfl rfl ?_
          refine WQ.skip rfl rfl rfl ?_
          refine WQ.skip rfl rfl rfl ?_
          refine WQ.skip rfl rfl rfl ?_
          refine WQ.skip rfl rfl rfl ?_
          refine WQ.skip rfl rfl rfl ?_
          refine WQ.skip rfl rfl rfl ?_
          refine WQ.skip rfl rfl rfl ?_
          refine WQ.skip rfl rfl rfl ?_
          refine WQ.skip rfl rfl rfl ?_
          refine WQ.skip rfl rfl rfl ?_
          refine WQ.q (oq_pick_t rfl rfl) rfl rfl rfl ?_
          refine WQ.nil (WE.then_normal (WC.sub (fr' := [(0, _), (3, _), (86, _)]) ?_ ⟨rfl, rfl, rfl, trivial⟩))
          refine WC.cond_t rfl ?_
          refine WC.seq (WC.region ?_)
          refine WL.q (oq_assign rfl) rfl rfl rfl ?_
          refine WL.nil (WE.then_normal (WC.sub (fr' := [(2, _)]) ?_ ⟨rfl, trivial⟩))
          refine WC.ret (WE.block_ret (WE.then_ret (WE.then_ret (WE.block_ret (WE.then_ret ?_)))))
          refine WE.lose ho4 ?_
          refine WE.endR (.inl rfl) (res1 Tryz.results8 rfl) ?_
          exact congrArg Value.bool (all_not hlt (decide_eq_false (by unfold fineV; omega))).symm
         ·
          try simp only [Z1, Z2, Z3, Z4, Z5, Z6, Z7, Z8, Z9, Z0] at s6_53
          refine WQ.q (oq_fieldAddr fld53_0 rfl) rfl rfl rfl ?_
          refine WQ.q (oq_load flat3 rfl (.head _) (List.mem_singleton.2 rfl) rfl) rfl rfl rfl ?_
          refine WQ.q (oq_eql rfl rfl) rfl rfl rfl ?_
          refine WQ.q (oq_move rfl) rfl rfl rfl ?_
          refine WQ.split 76 rfl (fun s6_57 => ?_) (fun s6_57 => ?_)
          ·
           try simp only [Z1, Z2, Z3, Z4, Z5, Z6, Z7, Z8, Z9, Z0] at s6_57
           refine WQ.q (oq_fieldAddr fld53_2 rfl) rfl rfl rfl ?_
           refine WQ.q (oq_load flat2 rfl (.head _) (List.mem_singleton.2 rfl) rfl) rfl rfl rfl ?_
           refine WQ.q (oq_gtr rfl rfl) rfl rfl rfl ?_
           refine WQ.q (oq_move rfl) rfl rfl rfl ?_
           refine WQ.split 80 rfl (fun s6_61 => ?_) (fun s6_61 => ?_)
           ·
            try simp only [Z1, Z2, Z3, Z4, Z5, Z6, Z7, Z8, Z9, Z0] at s6_61
            refine WQ.skip rfl rfl rfl ?_
            refine WQ.skip rfl rfl rfl ?_
            refine WQ.skip rfl rfl rfl ?_
            refine WQ.q (oq_pick_t rfl rfl) rfl rfl rfl ?_
            refine WQ.q (oq_pick_t rfl rfl) rfl rfl rfl ?_
            refine WQ.q (oq_pick_f rfl rfl) rfl rfl rfl ?_
            refine WQ.nil (WE.then_normal (WC.sub (fr' := [(0, _), (3, _), (86, _)]) ?_ ⟨rfl, rfl, rfl, trivial⟩))
            refine WC.cond_t rfl ?_
            refine WC.seq (WC.region ?_)
            refine WL.q (oq_assign rfl) rfl rfl rfl ?_
            refine WL.nil (WE.then_normal (WC.sub (fr' := [(2, _)]) ?_ ⟨rfl, trivial⟩))
            refine WC.ret (WE.block_ret (WE.then_ret (WE.then_ret (WE.block_ret (WE.then_ret ?_)))))
            refine WE.lose ho4 ?_
            refine WE.endR (.inl rfl) (res1 Tryz.results8 rfl) ?_
            exact congrArg Value.bool (all_not hlt (decide_eq_false (by unfold fineV; omega))).symm
           ·
            try simp only [Z1, Z2, Z3, Z4, Z5, Z6, Z7, Z8, Z9, Z0] at s6_61
            refine WQ.q (oq_fieldAddr fld53_2 rfl) rfl rfl rfl ?_
            refine WQ.q (oq_load flat2 rfl (.head _) (List.mem_singleton.2 rfl) rfl) rfl rfl rfl ?_
            refine WQ.q (oq_lss rfl rfl) rfl rfl rfl ?_
            refine WQ.q (oq_pick_f rfl rfl) rfl rfl rfl ?_
            refine WQ.q (oq_pick_t rfl rfl) rfl rfl rfl ?_
            refine WQ.q (oq_pick_f rfl rfl) rfl rfl rfl ?_
            refine WQ.nil (WE.then_normal (WC.sub (fr' := [(0, _), (3, _), (86, _)]) ?_ ⟨rfl, rfl, rfl, trivial⟩))
            refine WC.cond rfl (fun q6 => ?_) (fun q6 => ?_)
            ·
             try simp only [Z1, Z2, Z3, Z4, Z5, Z6, Z7, Z8, Z9, Z0] at q6
             refine WC.seq (WC.region ?_)
             refine WL.q (oq_assign rfl) rfl rfl rfl ?_
             refine WL.nil (WE.then_normal (WC.sub (fr' := [(2, _)]) ?_ ⟨rfl, trivial⟩))
             refine WC.ret (WE.block_ret (WE.then_ret (WE.then_ret (WE.block_ret (WE.then_ret ?_)))))
             refine WE.lose ho4 ?_
             refine WE.endR (.inl rfl) (res1 Tryz.results8 rfl) ?_
             exact congrArg Value.bool (all_not hlt (decide_eq_false (by unfold fineV; omega))).symm
            ·
             try simp only [Z1, Z2, Z3, Z4, Z5, Z6, Z7, Z8, Z9, Z0] at q6
             refine WC.skip (WE.block_normal (WE.then_normal (WC.sub (fr' := [(0, _), (3, _)]) ?_ ⟨rfl, rfl, trivial⟩)))
             refine WC.region ?_
             refine WL.q (oq_move rfl) rfl rfl rfl ?_
             refine WL.q (oq_add rfl rfl (by rw [i64_lo, i64_hi]; (first | omega | (simp only [List.length_cons, List.length_nil, List.length_append, List.length_drop, List.length_take]; omega)))) rfl rfl rfl ?_
             refine WL.q (oq_assign rfl) rfl rfl rfl ?_
             refine WL.nil ?_
             refine WE.lose ho4 ?_
             refine WE.again (i + 1) ?_ ?_ ⟨rfl, rfl, trivial⟩ (List.Perm.refl _)
             ·try dsimp only
              exact ⟨by omega, all_snoc (by omega) hall (decide_eq_true (by unfold fineV; omega))⟩
             ·(try dsimp only); omega
          ·
           try simp only [Z1, Z2, Z3, Z4, Z5, Z6, Z7, Z8, Z9, Z0] at s6_57
           refine WQ.skip rfl rfl rfl ?_
           refine WQ.skip rfl rfl rfl ?_
           refine WQ.skip rfl rfl rfl ?_
           refine WQ.skip rfl rfl rfl ?_
           refine WQ.skip rfl rfl rfl ?_
           refine WQ.skip rfl rfl rfl ?_
           refine WQ.skip rfl rfl rfl ?_
           refine WQ.skip rfl rfl rfl ?_
           refine WQ.q (oq_pick_f rfl rfl) rfl rfl rfl ?_
           refine WQ.q (oq_pick_f rfl rfl) rfl rfl rfl ?_
           refine WQ.nil (WE.then_normal (WC.sub (fr' := [(0, _), (3, _), (86, _)]) ?_ ⟨rfl, rfl, rfl, trivial⟩))
           refine WC.cond_f rfl ?_
           refine WC.skip (WE.block_normal (WE.then_normal (WC.sub (fr' := [(0, _), (3, _)]) ?_ ⟨rfl, rfl, trivial⟩)))
           refine WC.region ?_
           refine WL.q (oq_move rfl) rfl rfl rfl ?_
           refine WL.q (oq_add rfl rfl (by rw [i64_lo, i64_hi]; (first | omega | (simp only [List.length_cons, List.length_nil, List.length_append, List.length_drop, List.length_take]; omega)))) rfl rfl rfl ?_
           refine WL.q (oq_assign rfl) rfl rfl rfl ?_
           refine WL.nil ?_
           refine WE.lose ho4 ?_
           refine WE.again (i + 1) ?_ ?_ ⟨rfl, rfl, trivial⟩ (List.Perm.refl _)
           ·try dsimp only
            exact ⟨by omega, all_snoc (by omega) hall (decide_eq_true (by unfold fineV; omega))⟩
           ·(try dsimp only); omega
        ·
         try simp only [Z1, Z2, Z3, Z4, Z5, Z6, Z7, Z8, Z9, Z0] at s6_46
         refine WQ.skip rfl rfl rfl ?_
         refine WQ.skip rfl rfl rfl ?_
         refine WQ.skip rfl rfl rfl ?_
         refine WQ.skip rfl rfl rfl ?_
         refine WQ.q (oq_pick_f rfl rfl) rfl rfl rfl ?_
         refine WQ.q (oq_pick_f rfl rfl) rfl rfl rfl ?_
         refine WQ.q (oq_move rfl) rfl rfl rfl ?_
         refine WQ.q (oq_fieldAddr fld53_0 rfl) rfl rfl rfl ?_
         refine WQ.q (oq_load flat3 rfl (.head _) (List.mem_singleton.2 rfl) rfl) rfl rfl rfl ?_
         refine WQ.q (oq_eql rfl rfl) rfl rfl rfl ?_
         refine WQ.q (oq_move rfl) rfl rfl rfl ?_
         refine WQ.split 76 rfl (fun s6_57 => ?_) (fun s6_57 => ?_)
         ·
          try simp only [Z1, Z2, Z3, Z4, Z5, Z6, Z7, Z8, Z9, Z0] at s6_57
          refine WQ.q (oq_fieldAddr fld53_2 rfl) rfl rfl rfl ?_
          refine WQ.q (oq_load flat2 rfl (.head _) (List.mem_singleton.2 rfl) rfl) rfl rfl rfl ?_
          refine WQ.q (oq_gtr rfl rfl) rfl rfl rfl ?_
          refine WQ.q (oq_move rfl) rfl rfl rfl ?_
          refine WQ.split 80 rfl (fun s6_61 => ?_) (fun s6_61 => ?_)
          ·
           try simp only [Z1, Z2, Z3, Z4, Z5, Z6, Z7, Z8, Z9, Z0] at s6_61
           refine WQ.skip rfl rfl rfl ?_
           refine WQ.skip rfl rfl rfl ?_
           refine WQ.skip rfl rfl rfl ?_
           refine WQ.q (oq_pick_t rfl rfl) rfl rfl rfl ?_
           refine WQ.q (oq_pick_t rfl rfl) rfl rfl rfl ?_
           refine WQ.q (oq_pick_f rfl rfl) rfl rfl rfl ?_
           refine WQ.nil (WE.then_normal (WC.sub (fr' := [(0, _), (3, _), (86, _)]) ?_ ⟨rfl, rfl, rfl, trivial⟩))
           refine WC.cond_t rfl ?_
           refine WC.seq (WC.region ?_)
           refine WL.q (oq_assign rfl) rfl rfl rfl ?_
           refine WL.nil (WE.then_normal (WC.sub (fr' := [(2, _)]) ?_ ⟨rfl, trivial⟩))
           refine WC.ret (WE.block_ret (WE.then_ret (WE.then_ret (WE.block_ret (WE.then_ret ?_)))))
           refine WE.lose ho4 ?_
           refine WE.endR (.inl rfl) (res1 Tryz.results8 rfl) ?_
           exact congrArg Value.bool (all_not hlt (decide_eq_false (by unfold fineV; omega))).symm
          ·
           try simp only [Z1, Z2, Z3, Z4, Z5, Z6, Z7, Z8, Z9, Z0] at s6_61
           refine WQ.q (oq_fieldAddr fld53_2 rfl) rfl rfl rfl ?_
           refine WQ.q (oq_load flat2 rfl (.head _) (List.mem_singleton.2 rfl) rfl) rfl rfl rfl ?_
           refine WQ.q (oq_lss rfl rfl) rfl rfl rfl ?_
           refine WQ.q (oq_pick_f rfl rfl) rfl rfl rfl ?_
           refine WQ.q (oq_pick_t rfl rfl) rfl rfl rfl ?_
           refine WQ.q (oq_pick_f rfl rfl) rfl rfl rfl ?_
           refine WQ.nil (WE.then_normal (WC.sub (fr' := [(0, _), (3, _), (86, _)]) ?_ ⟨rfl, rfl, rfl, trivial⟩))
           refine WC.cond rfl (fun q6 => ?_) (fun q6 => ?_)
           ·
            try simp only [Z1, Z2, Z3, Z4, Z5, Z6, Z7, Z8, Z9, Z0] at q6
            refine WC.seq (WC.region ?_)
            refine WL.q (oq_assign rfl) rfl rfl rfl ?_
            refine WL.nil (WE.then_normal (WC.sub (fr' := [(2, _)]) ?_ ⟨rfl, trivial⟩))
            refine WC.ret (WE.block_ret (WE.then_ret (WE.then_ret (WE.block_ret (WE.then_ret ?_)))))
            refine WE.lose ho4 ?_
            refine WE.endR (.inl rfl) (res1 Tryz.results8 rfl) ?_
            exact congrArg Value.bool (all_not hlt (decide_eq_false (by unfold fineV; omega))).symm
           ·
            try simp only [Z1, Z2, Z3, Z4, Z5, Z6, Z7, Z8, Z9, Z0] at q6
            refine WC.skip (WE.block_normal (WE.then_normal (WC.sub (fr' := [(0, _), (3, _)]) ?_ ⟨rfl, rfl, trivial⟩)))
            refine WC.region ?_
            refine WL.q (oq_move rfl) rfl rfl rfl ?_
            refine WL.q (oq_add rfl rfl (by rw [i64_lo, i64_hi]; (first | omega | (simp only [List.length_cons, List.length_nil, List.length_append, List.length_drop, List.length_take]; omega)))) rfl rfl rfl ?_
            refine WL.q (oq_assign rfl) rfl rfl rfl ?_
            refine WL.nil ?_
            refine WE.lose ho4 ?_
            refine WE.again (i + 1) ?_ ?_ ⟨rfl, rfl, trivial⟩ (List.Perm.refl _)
            ·try dsimp only
             exact ⟨by omega, all_snoc (by omega) hall (decide_eq_true (by unfold fineV; omega))⟩
            ·(try dsimp only); omega
         ·
          try simp only [Z1, Z2, Z3, Z4, Z5, Z6, Z7, Z8, Z9, Z0] at s6_57
          refine WQ.skip rfl rfl rfl ?_
          refine WQ.skip rfl rfl rfl ?_
          refine WQ.skip rfl rfl rfl ?_
          refine WQ.skip rfl rfl rfl ?_
          refine WQ.skip rfl rfl rfl ?_
          refine WQ.skip rfl rfl rfl ?_
          refine WQ.skip rfl rfl rfl ?_
          refine WQ.skip rfl rfl rfl ?_
          refine WQ.q (oq_pick_f rfl rfl) rfl rfl rfl ?_
          refine WQ.q (oq_pick_f rfl rfl) rfl rfl rfl ?_
          refine WQ.nil (WE.then_normal (WC.sub (fr' := [(0, _), (3, _), (86, _)]) ?_ ⟨rfl, rfl, rfl, trivial⟩))
          refine WC.cond_f rfl ?_
          refine WC.skip (WE.block_normal (WE.then_normal (WC.sub (fr' := [(0, _), (3, _)]) ?_ ⟨rfl, rfl, trivial⟩)))
          refine WC.region ?_
          refine WL.q (oq_move rfl) rfl rfl rfl ?_
          refine WL.q (oq_add rfl rfl (by rw [i64_lo, i64_hi]; (first | omega | (simp only [List.length_cons, List.length_nil, List.length_append, List.length_drop, List.length_take]; omega)))) rfl rfl rfl ?_
          refine WL.q (oq_assign rfl) rfl rfl rfl ?_
          refine WL.nil ?_
          refine WE.lose ho4 ?_
          refine WE.again (i + 1) ?_ ?_ ⟨rfl, rfl, trivial⟩ (List.Perm.refl _)
          ·try dsimp only
           exact ⟨by omega, all_snoc (by omega) hall (decide_eq_true (by unfold fineV; omega))⟩
          ·(try dsimp only); omega
     ·
      try simp only [Z1, Z2, Z3, Z4, Z5, Z6, Z7, Z8, Z9, Z0] at s6_12
      refine WQ.skip rfl rfl rfl ?_
      refine WQ.skip rfl rfl rfl ?_
      refine WQ.skip rfl rfl rfl ?_
      refine WQ.skip rfl rfl rfl ?_
      refine WQ.skip rfl rfl rfl ?_
      refine WQ.skip rfl rfl rfl ?_
      refine WQ.skip rfl rfl rfl ?_
      refine WQ.skip rfl rfl rfl ?_
      refine WQ.skip rfl rfl rfl ?_
      refine WQ.skip rfl rfl rfl ?_
      refine WQ.skip rfl rfl rfl ?_
      refine WQ.skip rfl rfl rfl ?_
      refine WQ.skip rfl rfl rfl ?_
      refine WQ.skip rfl rfl rfl ?_
      refine WQ.skip rfl rfl rfl ?_
      refine WQ.skip rfl rfl rfl ?_
      refine WQ.skip rfl rfl rfl ?_
      refine WQ.skip rfl rfl rfl ?_
      refine WQ.skip rfl rfl rfl ?_
      refine WQ.skip rfl rfl rfl ?_
      refine WQ.skip rfl rfl rfl ?_
      refine WQ.skip rfl rfl rfl ?_
      refine WQ.skip rfl rfl rfl ?_
      refine WQ.skip rfl rfl rfl ?_
      refine WQ.skip rfl rfl rfl ?_
      refine WQ.skip rfl rfl rfl ?_
      refine WQ.skip rfl rfl rfl ?_
      refine WQ.q (oq_pick_f rfl rfl) rfl rfl rfl ?_
      refine WQ.q (oq_pick_f rfl rfl) rfl rfl rfl ?_
      refine WQ.q (oq_move rfl) rfl rfl rfl ?_
      refine WQ.q (oq_fieldAddr fld53_0 rfl) rfl rfl rfl ?_
      refine WQ.q (oq_load flat3 rfl (.head _) (List.mem_singleton.2 rfl) rfl) rfl rfl rfl ?_
      refine WQ.q (oq_eql rfl rfl) rfl rfl rfl ?_
      refine WQ.q (oq_move rfl) rfl rfl rfl ?_
      refine WQ.split 65 rfl (fun s6_46 => ?_) (fun s6_46 => ?_)
      ·
       try simp only [Z1, Z2, Z3, Z4, Z5, Z6, Z7, Z8, Z9, Z0] at s6_46
       refine WQ.q (oq_fieldAddr fld53_3 rfl) rfl rfl rfl ?_
       refine WQ.q (oq_load flat9 rfl (.head _) (List.mem_singleton.2 rfl) rfl) rfl rfl rfl ?_
       refine WQ.q (oq_len_s Tryz.underlying9 rfl) rfl rfl rfl ?_
       refine WQ.q (oq_neq rfl rfl) rfl rfl rfl ?_
       refine WQ.q (oq_pick_t rfl rfl) rfl rfl rfl ?_
       refine WQ.q (oq_pick_f rfl rfl) rfl rfl rfl ?_
       refine WQ.q (oq_move rfl) rfl rfl rfl ?_
       refine WQ.split 72 rfl (fun s6_53 => ?_) (fun s6_53 => ?_)
       ·
        try simp only [Z1, Z2, Z3, Z4, Z5, Z6, Z7, Z8, Z9, Z0] at s6_53
        refine WQ.skip rfl rfl rfl ?_
        refine WQ.skip rfl rfl rfl ?_
        refine WQ.skip rfl rfl rfl ?_
        refine WQ.skip rfl rfl rfl ?_
        refine WQ.skip rfl rfl rfl ?_
        refine WQ.skip rfl rfl rfl ?_
        refine WQ.skip rfl rfl rfl ?_
        refine WQ.skip rfl rfl rfl ?_
        refine WQ.skip rfl rfl rfl ?_
        refine WQ.skip rfl rfl rfl ?_
        refine WQ.skip rfl rfl rfl ?_
        refine WQ.skip rfl rfl rfl ?_
        refine WQ.skip rfl rfl rfl ?_
        refine WQ.q (oq_pick_t rfl rfl) rfl rfl rfl ?_
        refine WQ.nil (WE.then_normal (WC.sub (fr' := [(0, _), (3, _), (86, _)]) ?_ ⟨rfl, rfl, rfl, trivial⟩))
        refine WC.cond_t rfl ?_
        refine WC.seq (WC.region ?_)
        refine WL.q (oq_assign rfl) rfl rfl rfl ?_
        refine WL.nil (WE.then_normal (WC.sub (fr' := [(2, _)]) ?_ ⟨rfl, trivial⟩))
        refine WC.ret (WE.block_ret (WE.then_ret (WE.then_ret (WE.block_ret (WE.then_ret ?_)))))
        refine WE.lose ho4 ?_
        refine WE.endR (.inl rfl) (res1 Tryz.results8 rfl) ?_
        exact congrArg Value.bool (all_not hlt (decide_eq_false (by unfold fineV; omega))).symm
       ·
        try simp only [Z1, Z2, Z3, Z4, Z5, Z6, Z7, Z8, Z9, Z0] at s6_53
        refine WQ.q (oq_fieldAddr fld53_0 rfl) rfl rfl rfl ?_
        refine WQ.q (oq_load flat3 rfl (.head _) (List.mem_singleton.2 rfl) rfl) rfl rfl rfl ?_
        refine WQ.q (oq_eql rfl rfl) rfl rfl rfl ?_
        refine WQ.q (oq_move rfl) rfl rfl rfl ?_
        refine WQ.split 76 rfl (fun s6_57 => ?_) (fun s6_57 => ?_)
        ·
         try simp only [Z1, Z2, Z3, Z4, Z5, Z6, Z7, Z8, Z9, Z0] at s6_57
         refine WQ.q (oq_fieldAddr fld53_2 rfl) rfl rfl rfl ?_
         refine WQ.q (oq_load flat2 rfl (.head _) (List.mem_singleton.2 rfl) rfl) rfl rfl rfl ?_
         refine WQ.q (oq_gtr rfl rfl) rfl rfl rfl ?_
         refine WQ.q (oq_move rfl) rfl rfl rfl ?_
         refine WQ.split 80 rfl (fun s6_61 => ?_) (fun s6_61 => ?_)
         ·
          try simp only [Z1, Z2, Z3, Z4, Z5, Z6, Z7, Z8, Z9, Z0] at s6_61
          refine WQ.skip rfl rfl rfl ?_
          refine WQ.skip rfl rfl rfl ?_
          refine WQ.skip rfl rfl rfl ?_
          refine WQ.q (oq_pick_t rfl rfl) rfl rfl rfl ?_
          refine WQ.q (oq_pick_t rfl rfl) rfl rfl rfl ?_
          refine WQ.q (oq_pick_f rfl rfl) rfl rfl rfl ?_
          refine WQ.nil (WE.then_normal (WC.sub (fr' := [(0, _), (3, _), (86, _)]) ?_ ⟨rfl, rfl, rfl, trivial⟩))
          refine WC.cond_t rfl ?_
          refine WC.seq (WC.region ?_)
          refine WL.q (oq_assign rfl) rfl rfl rfl ?_
          refine WL.nil (WE.then_normal (WC.sub (fr' := [(2, _)]) ?_ ⟨rfl, trivial⟩))
          refine WC.ret (WE.block_ret (WE.then_ret (WE.then_ret (WE.block_ret (WE.then_ret ?_)))))
          refine WE.lose ho4 ?_
          refine WE.endR (.inl rfl) (res1 Tryz.results8 rfl) ?_
          exact congrArg Value.bool (all_not hlt (decide_eq_false (by unfold fineV; omega))).symm
         ·
          try simp only [Z1, Z2, Z3, Z4, Z5, Z6, Z7, Z8, Z9, Z0] at s6_61
          refine WQ.q (oq_fieldAddr fld53_2 rfl) rfl rfl rfl ?_
          refine WQ.q (oq_load flat2 rfl (.head _) (List.mem_singleton.2 rfl) rfl) rfl rfl rfl ?_
          refine WQ.q (oq_lss rfl rfl) rfl rfl rfl ?_
          refine WQ.q (oq_pick_f rfl rfl) rfl rfl rfl ?_
          refine WQ.q (oq_pick_t rfl rfl) rfl rfl rfl ?_
          refine WQ.q (oq_pick_f rfl rfl) rfl rfl rfl ?_
          refine WQ.nil (WE.then_normal (WC.sub (fr' := [(0, _), (3, _), (86, _)]) ?_ ⟨rfl, rfl, rfl, trivial⟩))
          refine WC.cond rfl (fun q6 => ?_) (fun q6 => ?_)
          ·
           try simp only [Z1, Z2, Z3, Z4, Z5, Z6, Z7, Z8, Z9, Z0] at q6
           refine WC.seq (WC.region ?_)
           refine WL.q (oq_assign rfl) rfl rfl rfl ?_
           refine WL.nil (WE.then_normal (WC.sub (fr' := [(2, _)]) ?_ ⟨rfl, trivial⟩))
           refine WC.ret (WE.block_ret (WE.then_ret (WE.then_ret (WE.block_ret (WE.then_ret ?_)))))
           refine WE.lose ho4 ?_
           refine WE.endR (.inl rfl) (res1 Tryz.results8 rfl) ?_
           exact congrArg Value.bool (all_not hlt (decide_eq_false (by unfold fineV; omega))).symm
          ·
           try simp only [Z1, Z2, Z3, Z4, Z5, Z6, Z7, Z8, Z9, Z0] at q6
           refine WC.skip (WE.block_normal (WE.then_normal (WC.sub (fr' := [(0, _), (3, _)]) ?_ ⟨rfl, rfl, trivial⟩)))
           refine WC.region ?_
           refine WL.q (oq_move rfl) rfl rfl rfl ?_
           refine WL.q (oq_add rfl rfl (by rw [i64_lo, i64_hi]; (first | omega | (simp only [List.length_cons, List.length_nil, List.length_append, List.length_drop, List.length_take]; omega)))) rfl rfl rfl ?_
           refine WL.q (oq_assign rfl) rfl rfl rfl ?_
           refine WL.nil ?_
           refine WE.lose ho4 ?_
           refine WE.again (i + 1) ?_ ?_ ⟨rfl, rfl, trivial⟩ (List.Perm.refl _)
           ·try dsimp only
            exact ⟨by omega, all_snoc (by omega) hall (decide_eq_true (by unfold fineV; omega))⟩
           ·(try dsimp only); omega
        ·
         try simp only [Z1, Z2, Z3, Z4, Z5, Z6, Z7, Z8, Z9, Z0] at s6_57
         refine WQ.skip rfl rfl rfl ?_
         refine WQ.skip rfl rfl rfl ?_
         refine WQ.skip rfl rfl rfl ?_
         refine WQ.skip rfl rfl rfl ?_
         refine WQ.skip rfl rfl rfl ?_
         refine WQ.skip rfl rfl rfl ?_
         refine WQ.skip rfl rfl rfl ?_
         refine WQ.skip rfl rfl rfl ?_
         refine WQ.q (oq_pick_f rfl rfl) rfl rfl rfl ?_
         refine WQ.q (oq_pick_f rfl rfl) rfl rfl rfl ?_
         refine WQ.nil (WE.then_normal (WC.sub (fr' := [(0, _), (3, _), (86, _)]) ?_ ⟨rfl, rfl, rfl, trivial⟩))
         refine WC.cond_f rfl ?_
         refine WC.skip (WE.block_normal (WE.then_normal (WC.sub (fr' := [(0, _), (3, _)]) ?_ ⟨rfl, rfl, trivial⟩)))
         refine WC.region ?_
         refine WL.q (oq_move rfl) rfl rfl rfl ?_
         refine WL.q (oq_add rfl rfl (by rw [i64_lo, i64_hi]; (first | omega | (simp only [List.length_cons, List.length_nil, List.length_append, List.length_drop, List.length_take]; omega)))) rfl rfl rfl ?_
         refine WL.q (oq_assign rfl) rfl rfl rfl ?_
         refine WL.nil ?_
         refine WE.lose ho4 ?_
         refine WE.again (i + 1) ?_ ?_ ⟨rfl, rfl, trivial⟩ (List.Perm.refl _)
         ·try dsimp only
          exact ⟨by omega, all_snoc (by omega) hall (decide_eq_true (by unfold fineV; omega))⟩
         ·(try dsimp only); omega
      ·
       try simp only [Z1, Z2, Z3, Z4, Z5, Z6, Z7, Z8, Z9, Z0] at s6_46
       refine WQ.skip rfl rfl rfl ?_
       refine WQ.skip rfl rfl rfl ?_
       refine WQ.skip rfl rfl rfl ?_
       refine WQ.skip rfl rfl rfl ?_
       refine WQ.q (oq_pick_f rfl rfl) rfl rfl rfl ?_
       refine WQ.q (oq_pick_f rfl rfl) rfl rfl rfl ?_
       refine WQ.q (oq_move rfl) rfl rfl rfl ?_
       refine WQ.q (oq_fieldAddr fld53_0 rfl) rfl rfl rfl ?_
       refine WQ.q (oq_load flat3 rfl (.head _) (List.mem_singleton.2 rfl) rfl) rfl rfl rfl ?_
       refine WQ.q (oq_eql rfl rfl) rfl rfl rfl ?_
       refine WQ.q (oq_move rfl) rfl rfl rfl ?_
       refine WQ.split 76 rfl (fun s6_57 => ?_) (fun s6_57 => ?_)
       ·
        try simp only [Z1, Z2, Z3, Z4, Z5, Z6, Z7, Z8, Z9, Z0] at s6_57
        refine WQ.q (oq_fieldAddr fld53_2 rfl) rfl rfl rfl ?_
        refine WQ.q (oq_load flat2 rfl (.head _) (List.mem_singleton.2 rfl) rfl) rfl rfl rfl ?_
        refine WQ.q (oq_gtr rfl rfl) rfl rfl rfl ?_
        refine WQ.q (oq_move rfl) rfl rfl rfl ?_
        refine WQ.split 80 rfl (fun s6_61 => ?_) (fun s6_61 => ?_)
        ·
         try simp only [Z1, Z2, Z3, Z4, Z5, Z6, Z7, Z8, Z9, Z0] at s6_61
         refine WQ.skip rfl rfl rfl ?_
         refine WQ.skip rfl rfl rfl ?_
         refine WQ.skip rfl rfl rfl ?_
         refine WQ.q (oq_pick_t rfl rfl) rfl rfl rfl ?_
         refine WQ.q (oq_pick_t rfl rfl) rfl rfl rfl ?_
         refine WQ.q (oq_pick_f rfl rfl) rfl rfl rfl ?_
         refine WQ.nil (WE.then_normal (WC.sub (fr' := [(0, _), (3, _), (86, _)]) ?_ ⟨rfl, rfl, rfl, trivial⟩))
         refine WC.cond_t rfl ?_
         refine WC.seq (WC.region ?_)
         refine WL.q (oq_assign rfl) rfl rfl rfl ?_
         refine WL.nil (WE.then_normal (WC.sub (fr' := [(2, _)]) ?_ ⟨rfl, trivial⟩))
         refine WC.ret (WE.block_ret (WE.then_ret (WE.then_ret (WE.block_ret (WE.then_ret ?_)))))
         refine WE.lose ho4 ?_
         refine WE.endR (.inl rfl) (res1 Tryz.results8 rfl) ?_
         exact congrArg Value.bool (all_not hlt (decide_eq_false (by unfold fineV; omega))).symm
        ·
         try simp only [Z1, Z2, Z3, Z4, Z5, Z6, Z7, Z8, Z9, Z0] at s6_61
         refine WQ.q (oq_fieldAddr fld53_2 rfl) rfl rfl rfl ?_
         refine WQ.q (oq_load flat2 rfl (.head _) (List.mem_singleton.2 rfl) rfl) rfl rfl rfl ?_
         refine WQ.q (oq_lss rfl rfl) rfl rfl rfl ?_
         refine WQ.q (oq_pick_f rfl rfl) rfl rfl rfl ?_
         refine WQ.q (oq_pick_t rfl rfl) rfl rfl rfl ?_
         refine WQ.q (oq_pick_f rfl rfl) rfl rfl rfl ?_
         refine WQ.nil (WE.then_normal (WC.sub (fr' := [(0, _), (3, _), (86, _)]) ?_ ⟨rfl, rfl, rfl, trivial⟩))
         refine WC.cond rfl (fun q6 => ?_) (fun q6 => ?_)
         ·
          try simp only [Z1, Z2, Z3, Z4, Z5, Z6, Z7, Z8, Z9, Z0] at q6
          refine WC.seq (WC.region ?_)
          refine WL.q (oq_assign rfl) rfl rfl rfl ?_
          refine WL.nil (WE.then_normal (WC.sub (fr' := [(2, _)]) ?_ ⟨rfl, trivial⟩))
          refine WC.ret (WE.block_ret (WE.then_ret (WE.then_ret (WE.block_ret (WE.then_ret ?_)))))
          refine WE.lose ho4 ?_
          refine WE.endR (.inl rfl) (res1 Tryz.results8 rfl) ?_
          exact congrArg Value.bool (all_not hlt (decide_eq_false (by unfold fineV; omega))).symm
         ·
          try simp only [Z1, Z2, Z3, Z4, Z5, Z6, Z7, Z8, Z9, Z0] at q6
          refine WC.skip (WE.block_normal (WE.then_normal (WC.sub (fr' := [(0, _), (3, _)]) ?_ ⟨rfl, rfl, trivial⟩)))
          refine WC.region ?_
          refine WL.q (oq_move rfl) rfl rfl rfl ?_
          refine WL.q (oq_add rfl rfl (by rw [i64_lo, i64_hi]; (first | omega | (simp only [List.length_cons, List.length_nil, List.length_append, List.length_drop, List.length_take]; omega)))) rfl rfl rfl ?_
          refine WL.q (oq_assign rfl) rfl rfl rfl ?_
          refine WL.nil ?_
          refine WE.lose ho4 ?_
          refine WE.again (i + 1) ?_ ?_ ⟨rfl, rfl, trivial⟩ (List.Perm.refl _)
          ·try dsimp only
           exact ⟨by omega, all_snoc (by omega) hall (decide_eq_true (by unfold fineV; omega))⟩
          ·(try dsimp only); omega
       ·
        try simp only [Z1, Z2, Z3, Z4, Z5, Z6, Z7, Z8, Z9, Z0] at s6_57
        refine WQ.skip rfl rfl rfl ?_
        refine WQ.skip rfl rfl rfl ?_
        refine WQ.skip rfl rfl rfl ?_
        refine WQ.skip rfl rfl rfl ?_
        refine WQ.skip rfl rfl rfl ?_
        refine WQ.skip rfl rfl rfl ?_
        refine WQ.skip rfl rfl rfl ?_
        refine WQ.skip rfl rfl rfl ?_
        refine WQ.q (oq_pick_f rfl rfl) rfl rfl rfl ?_
        refine WQ.q (oq_pick_f rfl rfl) rfl rfl rfl ?_
        refine WQ.nil (WE.then_normal (WC.sub (fr' := [(0, _), (3, _), (86, _)]) ?_ ⟨rfl, rfl, rfl, trivial⟩))
        refine WC.cond_f rfl ?_
        refine WC.skip (WE.block_normal (WE.then_normal (WC.sub (fr' := [(0, _), (3, _)]) ?_ ⟨rfl, rfl, trivial⟩)))
        refine WC.region ?_
        refine WL.q (oq_move rfl) rfl rfl rfl ?_
        refine WL.q (oq_add rfl rfl (by rw [i64_lo, i64_hi]; (first | omega | (simp only [List.length_cons, List.length_nil, List.length_append, List.length_drop, List.length_take]; omega)))) rfl rfl rfl ?_
        refine WL.q (oq_assign rfl) rfl rfl rfl ?_
        refine WL.nil ?_
        refine WE.lose ho4 ?_
        refine WE.again (i + 1) ?_ ?_ ⟨rfl, rfl, trivial⟩ (List.Perm.refl _)
        ·try dsimp only
         exact ⟨by omega, all_snoc (by omega) hall (decide_eq_true (by unfold fineV; omega))⟩
        ·(try dsimp only); omega
  ·
   try simp only [Z1, Z2, Z3, Z4, Z5, Z6, Z7, Z8, Z9, Z0] at q2
   refine WC.exit (WE.then_exit (WE.then_exit (WE.block_same (WE.then_normal (WC.sub (fr' := []) ?_ trivial)))))
   refine WC.seq (WC.region ?_)
   refine WL.q (oq_assign rfl) rfl rfl rfl ?_
   refine WL.nil (WE.then_normal (WC.sub (fr' := [(2, _)]) ?_ ⟨rfl, trivial⟩))
   refine WC.ret ?_
   refine WE.endR (.inl rfl) (res1 Tryz.results8 rfl) ?_
   obtain rfl : i = l.length := by omega
   rw [List.take_length] at hall
   rw [hall]
end ER
end Go.Proofs.YtpjeiimlglgklaaGreatDoor
/- The law: what is written is what the reference tells. -/
namespace Go.Proofs.YtpjeiimlglgklaaGreatDoor
open Go Go.RowKit V EA EB EC ED EE EF EG EH EI EJ EK EL EM EN EO EP EQ ER
set_option linter.unusedSimpArgs false
set_option linter.unusedVariables false
set_option maxRecDepth 10000
namespace ES
theorem call6 : Callable Tryz.prog 6 := ⟨_, Tryz.func6, rfl, by kernel_rfl⟩
theorem ty30 : Ty Tryz.prog 30 (.agg #[(.slice none 0 0), (.slice none 0 0)]) 2 48 := ty_of (by kernel_rfl)
theorem str30 : Str Tryz.prog 30 #[(0, 1), (1, 1)] := ⟨_, Tryz.underlying30, fun w => by kernel_rfl⟩
theorem okH0 : okH [] := fun i h => nomatch h
theorem len16 : (msgB [] []).length = 16 := by unfold msgB msg0 crcB; rw [List.length_append, List.length_append, List.length_append, pre12_len, be_len]; rfl
theorem rd0 (s : Nat) : RdS s (.slice none 0 0) [] 0 [] := ⟨by simp, .inl ⟨rfl, _, _, rfl⟩⟩
theorem enc0 : FnA Tryz.prog 6 [.agg #[.slice none 0 0, .slice none 0 0]] [] (fun w N => ∃ sv, w = .tuple #[sv, .bool true] ∧ RdS 1 sv N 16 (bytesV (msgB [] []))) := by
 refine (vEncode (.slice none 0 0) [] [] (rd0 5) okH0 (by simp) (by simp [szL]) none 0 [] (rd0 1) (by simp)).mono ?_
 rintro w N ⟨sv, rfl, h⟩
 refine ⟨sv, rfl, ?_⟩
 have h2 : RdS 1 sv N (msgB [] []).length (bytesV (msgB [] [])) := h
 rw [len16] at h2; exact h2
theorem szL_sum : ∀ l : List HV, szL l = sumH l + 12 * l.length
 | [] => rfl
 | h :: l => by
  have := szL_sum l
  simp only [szL, sumH, List.map_cons, List.sum_cons, List.length_cons, szH] at this ⊢
  omega
theorem sumH_get : ∀ {l : List HV} {i : Nat}, i < l.length → (l.getD i HV0).text.length ≤ sumH l
 | [], _, h => nomatch h
 | h :: l, 0, _ => by simp [sumH]; omega
 | h :: l, i + 1, hi => by
  have := sumH_get (l := l) (i := i) (by simpa using hi)
  have e : sumH (h :: l) = h.name.length + h.text.length + sumH l := by simp [sumH]
  have e2 : (h :: l).getD (i + 1) HV0 = l.getD i HV0 := by simp [List.getD_eq_getElem?_getD]
  rw [e, e2]; omega
theorem fine_ok {l : List HV} (h : l.all fineB = true) (hs : sumH l ≤ 70000) : okH l := fun i hi => by
 have h1 := all_get h hi
 have h2 := sumH_get hi
 exact ⟨of_decide_eq_true h1, by omega⟩
theorem sized_of {l : List HV} {n : Nat} (h : (decide (l.length ≤ 100) && decide (sumH l ≤ 70000) && decide (n ≤ 5000)) = true) : l.length ≤ 100 ∧ sumH l ≤ 70000 ∧ n ≤ 5000 := by
 simp only [Bool.and_eq_true, decide_eq_true_eq] at h; exact ⟨h.1.1, h.1.2, h.2⟩
theorem vAwake  : Fn0 Tryz.prog 5 [] (.bool true) := by
 refine Fn0.enter (n := 14) Tryz.func5 rfl rfl fun w0 => ?_
 refine WC.sub (fr' := []) ?_ trivial
 refine WC.seq (WC.region ?_)
 refine WL.q (oq_assign rfl) rfl rfl rfl ?_
 refine WL.nil (WE.then_normal (WC.sub (fr' := []) ?_ trivial))
 refine WC.seq (WC.region ?_)
 refine WL.q (oq_build #[_, _] str30 ty30 rfl rfl) rfl rfl rfl ?_
 refine WL.callA0 (enc0) call6 rfl rfl rfl fun v1_1 N1_1 hR1_1 hN1_1 => ?_
 obtain ⟨sv, rfl, hsv⟩ := hR1_1
 refine WL.q (oq_move rfl) rfl rfl rfl ?_
 refine WL.q (oq_extract rfl rfl) rfl rfl rfl ?_
 refine WL.q (oq_extract rfl rfl) rfl rfl rfl ?_
 refine WL.q (oq_assign rfl) rfl rfl rfl ?_
 refine WL.q (oq_assign rfl) rfl rfl rfl ?_
 refine WL.nil (WE.then_normal (WC.sub (fr' := [(1, _), (2, _)]) ?_ ⟨rfl, rfl, trivial⟩))
 refine WC.seq (WC.region ?_)
 refine WL.q (oq_move rfl) rfl rfl rfl ?_
 refine WL.q (oq_move rfl) rfl rfl rfl ?_
 refine WL.q (oq_move rfl) rfl rfl rfl ?_
 refine WL.q (oq_len_rd hsv Tryz.underlying25 rfl) rfl rfl rfl ?_
 refine WL.q (oq_eql rfl rfl) rfl rfl rfl ?_
 refine WL.q (oq_pick_t rfl rfl) rfl rfl rfl ?_
 refine WL.q (oq_assign rfl) rfl rfl rfl ?_
 refine WL.nil (WE.then_normal (WC.sub (fr' := [(0, _)]) ?_ ⟨rfl, trivial⟩))
 refine WC.ret ?_
 refine WE.forget hN1_1 ?_
 refine WE.end0 (.inl rfl) (res1 Tryz.results5 rfl) ?_
 rfl
end ES
end Go.Proofs.YtpjeiimlglgklaaGreatDoor
/- Plain words: the sum tells a byte that is another one; what is written is read again. -/
namespace Go.Proofs.YtpjeiimlglgklaaGreatDoor
open Go V EI EJ EK EM DA
set_option linter.unusedSimpArgs false
set_option linter.unusedVariables false
namespace DB
/-! ### The sum -/
/-! ### What is written is read -/
def can (h : HV) : Prop := (h.kind = 0 → h.width = 0 ∧ h.text = [] ∧ (h.int = 0 ∨ h.int = 1)) ∧ (h.kind = 1 → h.text = []) ∧ ((h.kind = 2 ∨ h.kind = 3 ∨ h.kind = 5) → h.width = 0 ∧ h.int = 0) ∧ (h.kind = 4 → h.width = 0 ∧ h.text = [])
theorem be_take (w : Nat) (x : Int) (t : List UInt8) : (be w x ++ t).take w = be w x := List.take_left' (be_len w x)
theorem be_drop (w : Nat) (x : Int) (t : List UInt8) : (be w x ++ t).drop w = t := List.drop_left' (be_len w x)
theorem wrap_back {k : IntKind} {w : Nat} {x : Int} (hb : k.bits = 8 * w) (h : k.min ≤ x ∧ x ≤ k.max) : k.wrap (nm (be w x)) = x := by
 have h1 : k.wrap ((nm (be w x) : Nat) : Int) = k.wrap x := by
  rw [nm_be, ← hb]
  unfold IntKind.wrap
  rw [Int.emod_emod_of_dvd _ (Int.dvd_refl _)]
 rw [h1, wrap_in h]
theorem vInt_be {w : Nat} {ik : IntKind} {x : Int} {t : List UInt8} (hb : ik.bits = 8 * w) (h : ik.min ≤ x ∧ x ≤ ik.max) : vInt w ik (be w x ++ t) = .ok 1 (8 * w) x [] t := by
 unfold vInt
 rw [if_neg (by rw [List.length_append, be_len]; omega), be_take, be_drop, wrap_back hb h]
theorem vTxt_be {k : Int} {x t : List UInt8} (h : x.length ≤ 32767) : vTxt k (be 2 x.length ++ x ++ t) = .ok k 0 0 x t := by
 have hn : nm (be 2 (x.length : Int)) = x.length := by have := nm_be 2 (x.length : Int); omega
 unfold vTxt
 rw [List.append_assoc, if_neg (by rw [List.length_append, be_len]; omega), be_take, be_drop, hn, if_neg (by rw [List.length_append]; omega), List.take_left' rfl, List.drop_left' rfl]
theorem val_enc {h : HV} (hf : fineV h) (hi : -9223372036854775808 ≤ h.int ∧ h.int ≤ 9223372036854775807) (hc : can h) (hb : badT h = false) (t : List UInt8) : ∃ k r, enc h = k :: r ∧ val k (r ++ t) = .ok h.kind h.width h.int h.text t := by
 obtain ⟨hk0, hk5, h1, h5, h4⟩ := hf
 obtain ⟨c0, c1, c2, c4⟩ := hc
 have hbt : (h.kind = 2 ∨ h.kind = 3) → h.text.length ≤ 32767 := fun hk => by
  unfold badT at hb
  by_cases ht : 32767 < h.text.length
  ·rcases hk with hk | hk <;> simp [hk, ht] at hb
  ·omega
 rcases (show h.kind = 0 ∨ h.kind = 1 ∨ h.kind = 2 ∨ h.kind = 3 ∨ h.kind = 4 ∨ h.kind = 5 by omega) with hk | hk | hk | hk | hk | hk
 ·obtain ⟨e1, e2, e3⟩ := c0 hk
  refine ⟨_, [], by unfold enc; simp only [hk]; rfl, ?_⟩
  rcases e3 with e3 | e3 <;> (rw [e3, e1, e2, hk]; rfl)
 ·have e2 := c1 hk
  rw [enc_1 hk]
  refine ⟨_, _, rfl, ?_⟩
  rcases h1 hk with ⟨hw, hl, hu⟩ | ⟨hw, hl, hu⟩ | ⟨hw, hl, hu⟩ | hw <;> rw [hw, hk, e2]
  ·exact vInt_be (w := 1) (ik := .i8) rfl (by rw [i8_lo, i8_hi]; exact ⟨hl, hu⟩)
  ·exact vInt_be (w := 2) (ik := .i16) rfl (by rw [i16_lo, i16_hi]; exact ⟨hl, hu⟩)
  ·exact vInt_be (w := 4) (ik := .i32) rfl (by rw [i32_lo, i32_hi]; exact ⟨hl, hu⟩)
  ·exact vInt_be (w := 8) (ik := .i64) rfl (by rw [i64_lo, i64_hi]; exact hi)
 ·obtain ⟨e1, e2⟩ := c2 (.inl hk)
  refine ⟨6, be 2 h.text.length ++ h.text, by unfold enc; simp only [hk]; rfl, ?_⟩
  rw [e1, e2, hk]; exact vTxt_be (hbt (.inl hk))
 ·obtain ⟨e1, e2⟩ := c2 (.inr (.inl hk))
  refine ⟨7, be 2 h.text.length ++ h.text, by unfold enc; simp only [hk]; rfl, ?_⟩
  rw [e1, e2, hk]; exact vTxt_be (hbt (.inr hk))
 ·obtain ⟨e1, e2⟩ := c4 hk
  refine ⟨8, be 8 h.int, by unfold enc; simp only [hk]; rfl, ?_⟩
  rw [e1, e2, hk]
  show (if (be 8 h.int ++ t).length < 8 then VR.short else .ok 4 0 (IntKind.i64.wrap (nm ((be 8 h.int ++ t).take 8))) [] ((be 8 h.int ++ t).drop 8)) = _
  rw [if_neg (by rw [List.length_append, be_len]; omega), be_take, be_drop, wrap_back (k := .i64) rfl (by rw [i64_lo, i64_hi]; exact hi)]
 ·obtain ⟨e1, e2⟩ := c2 (.inr (.inr hk))
  have hl := h5 hk
  refine ⟨9, h.text, by unfold enc; simp only [hk]; rfl, ?_⟩
  rw [e1, e2, hk]
  show (if (h.text ++ t).length < 16 then VR.short else .ok 5 0 0 ((h.text ++ t).take 16) ((h.text ++ t).drop 16)) = _
  rw [if_neg (by rw [List.length_append]; omega), List.take_left' hl, List.drop_left' hl]
theorem tk_hdr {h : HV} (hf : fineV h) (hi : -9223372036854775808 ≤ h.int ∧ h.int ≤ 9223372036854775807) (hc : can h) (hb : badH h = false) (t : List UInt8) (acc : List HV) : tk (hdr h ++ t) acc = tk t (put acc h) := by
 have hb1 : h.name.length ≤ 255 ∧ badT h = false := by
  unfold badH at hb; rw [Bool.or_eq_false_iff, decide_eq_false_iff_not] at hb; exact ⟨by omega, hb.2⟩
 obtain ⟨k, r, he, hv⟩ := val_enc hf hi hc hb1.2 t
 have hn8 : (UInt8.ofNat h.name.length).toNat = h.name.length := by rw [UInt8.toNat_ofNat']; omega
 have e : hdr h ++ t = UInt8.ofNat h.name.length :: (h.name ++ k :: (r ++ t)) := by unfold hdr; rw [he]; simp
 rw [e, tk_val (by rw [hn8, List.length_append, List.length_cons]; omega), hn8]
 have e1 : (h.name ++ k :: (r ++ t)).getD h.name.length 0 = k := by simp [List.getD_eq_getElem?_getD]
 have e2 : (h.name ++ k :: (r ++ t)).drop (h.name.length + 1) = r ++ t := by
  rw [← List.drop_drop, List.drop_left' rfl]; rfl
 rw [e1, e2, hv, List.take_left' rfl]
theorem put_new : ∀ (acc : List HV) (h : HV), (∀ x ∈ acc, x.name ≠ h.name) → put acc h = acc ++ [h]
 | [], _, _ => rfl
 | x :: l, h, hx => by
  unfold put
  rw [if_neg (hx x List.mem_cons_self), put_new l h fun y hy => hx y (List.mem_cons_of_mem _ hy)]; rfl
structure Back (l : List HV) : Prop where
 fine : ∀ h ∈ l, fineV h ∧ (-9223372036854775808 ≤ h.int ∧ h.int ≤ 9223372036854775807) ∧ can h
 unlike : l.Pairwise fun a b => a.name ≠ b.name
theorem tk_hdrs : ∀ (l acc : List HV) (t : List UInt8), Back l → l.any badH = false → (∀ x ∈ acc, ∀ h ∈ l, x.name ≠ h.name) → tk (hdrs l ++ t) acc = tk t (acc ++ l)
 | [], acc, t, _, _, _ => by simp [hdrs]
 | h :: l, acc, t, hB, hb, hx => by
  rw [List.any_cons, Bool.or_eq_false_iff] at hb
  obtain ⟨hf, hi, hc⟩ := hB.fine h List.mem_cons_self
  have hp := List.pairwise_cons.1 hB.unlike
  show tk (hdr h ++ hdrs l ++ t) acc = _
  rw [List.append_assoc, tk_hdr hf hi hc hb.1, put_new acc h fun x hxx => hx x hxx h List.mem_cons_self]
  rw [tk_hdrs l (acc ++ [h]) t ⟨fun y hy => hB.fine y (List.mem_cons_of_mem _ hy), hp.2⟩ hb.2, List.append_assoc]; rfl
  intro x hxx y hy
  rcases List.mem_append.1 hxx with h1 | h1
  ·exact hx x h1 y (List.mem_cons_of_mem _ hy)
  ·rw [List.mem_singleton] at h1; subst h1; exact hp.1 y hy
structure Parts (b t4 h4 c4 hd pl s4 beh : List UInt8) : Prop where
 is : b = t4 ++ (h4 ++ (c4 ++ (hd ++ (pl ++ (s4 ++ beh)))))
 l1 : t4.length = 4
 l2 : h4.length = 4
 l3 : c4.length = 4
 l4 : s4.length = 4
 tot : nm t4 = 16 + hd.length + pl.length
 hed : nm h4 = hd.length
section
variable {b t4 h4 c4 hd pl s4 beh : List UInt8}
theorem Parts.totl (p : Parts b t4 h4 c4 hd pl s4 beh) : totl b = 16 + hd.length + pl.length := by
 unfold DA.totl; rw [p.is, List.take_left' p.l1, p.tot]
theorem Parts.head (p : Parts b t4 h4 c4 hd pl s4 beh) : head b = hd.length := by
 unfold DA.head; rw [p.is, List.drop_left' p.l1, List.take_left' p.l2, p.hed]
theorem Parts.take8 (p : Parts b t4 h4 c4 hd pl s4 beh) : b.take 8 = t4 ++ h4 := by
 rw [p.is, ← List.append_assoc, List.take_left' (by rw [List.length_append, p.l1, p.l2])]
theorem Parts.drop8 (p : Parts b t4 h4 c4 hd pl s4 beh) : (b.drop 8).take 4 = c4 := by
 rw [p.is, ← List.append_assoc, List.drop_left' (by rw [List.length_append, p.l1, p.l2]), List.take_left' p.l3]
theorem Parts.drop12 (p : Parts b t4 h4 c4 hd pl s4 beh) : b.drop 12 = hd ++ (pl ++ (s4 ++ beh)) := by
 rw [p.is, ← List.append_assoc, ← List.append_assoc, List.drop_left' (by simp [p.l1, p.l2, p.l3])]
theorem Parts.hdE (p : Parts b t4 h4 c4 hd pl s4 beh) : (b.drop 12).take (DA.head b) = hd := by
 rw [p.head, p.drop12, List.take_left' rfl]
theorem Parts.all (p : Parts b t4 h4 c4 hd pl s4 beh) : b.take (DA.totl b - 4) = t4 ++ (h4 ++ (c4 ++ (hd ++ pl))) := by
 have e : b = (t4 ++ (h4 ++ (c4 ++ (hd ++ pl)))) ++ (s4 ++ beh) := by rw [p.is]; simp
 rw [p.totl]
 conv => lhs; rw [e]
 rw [List.take_left' (by simp only [List.length_append, p.l1, p.l2, p.l3]; omega)]
theorem Parts.sum (p : Parts b t4 h4 c4 hd pl s4 beh) : (b.drop (DA.totl b - 4)).take 4 = s4 := by
 have e : b = (t4 ++ (h4 ++ (c4 ++ (hd ++ pl)))) ++ (s4 ++ beh) := by rw [p.is]; simp
 rw [p.totl]
 conv => lhs; rw [e]
 rw [List.drop_left' (by simp only [List.length_append, p.l1, p.l2, p.l3]; omega), List.take_left' p.l4]
theorem Parts.plE (p : Parts b t4 h4 c4 hd pl s4 beh) : (b.drop (12 + DA.head b)).take (DA.totl b - 16 - DA.head b) = pl := by
 rw [p.head, p.totl, ← List.drop_drop, p.drop12, List.drop_left' rfl, List.take_left' (by omega)]
theorem Parts.len (p : Parts b t4 h4 c4 hd pl s4 beh) : b.length = 16 + hd.length + pl.length + beh.length := by
 rw [p.is]; simp only [List.length_append, p.l1, p.l2, p.l3, p.l4]; omega
end
theorem nm_crcB (l : List UInt8) : nm (crcB l) = (crc l).toNat := by
 have h1 := nm_be 4 ((crc l).toNat : Int)
 have h2 := (crc l).isLt
 unfold crcB
 omega
theorem msg_parts (l : List HV) (data beh : List UInt8) (h : 16 + (hdrs l).length + data.length < 4294967296) :
  Parts (msgB l data ++ beh) (be 4 (16 + ((hdrs l).length : Int) + (data.length : Int))) (be 4 ((hdrs l).length : Int)) (crcB (pre8 (hdrs l).length data.length)) (hdrs l) data (crcB (msg0 l data)) beh := by
 have h1 := nm_be 4 (16 + ((hdrs l).length : Int) + (data.length : Int))
 have h2 := nm_be 4 ((hdrs l).length : Int)
 refine ⟨by unfold msgB msg0 pre12 pre8; simp, be_len _ _, be_len _ _, be_len _ _, be_len _ _, by omega, by omega⟩
theorem dec_msg {l : List HV} {data beh : List UInt8} (hB : Back l) (hb : l.any badH = false) (h : 16 + (hdrs l).length + data.length < 4294967296) : dec (msgB l data ++ beh) = (0, l, data, (msgB l data).length) := by
 have p := msg_parts l data beh h
 have p0 := (msg_parts l data [] h).len
 rw [List.append_nil] at p0
 have hl := p.len
 unfold dec
 rw [if_neg (fun e => by rw [e] at hl; simp at hl; omega), if_neg (by omega), if_neg (by rw [p.totl]; omega), if_neg (by omega), if_neg (by
  unfold sumOk; rw [p.take8, p.drop8, nm_crcB]; simp [pre8]), p.hdE]
 have ht : tk (hdrs l) [] = .ok l := by
  have := tk_hdrs l [] [] hB hb (fun x hx => nomatch hx)
  rw [List.append_nil, tk_nil, List.nil_append] at this
  exact this
 rw [ht]
 show tailR (msgB l data ++ beh) l = _
 unfold tailR
 rw [if_neg (by rw [p.totl]; omega), p.all, p.sum, nm_crcB, if_neg (by unfold msg0 pre12 pre8; simp), p.plE, p.totl, p0]
 simp
/-! ### A byte that is another one -/
end DB
end Go.Proofs.YtpjeiimlglgklaaGreatDoor
/- Headers that are the same, headers that are read as they were. -/
namespace Go.Proofs.YtpjeiimlglgklaaGreatDoor
open Go Go.RowKit V EI EJ EO DB
set_option linter.unusedSimpArgs false
set_option linter.unusedVariables false
set_option maxRecDepth 10000
namespace DP
instance decHV : DecidableEq HV := fun ⟨n, k, w, i, t⟩ ⟨n', k', w', i', t'⟩ => decidable_of_iff (n = n' ∧ k = k' ∧ w = w' ∧ i = i' ∧ t = t') (by simp)
section
variable {P : Program} {w : World}
theorem eqF_cons {d : Nat} {xs ys : Array Value} {f : Field} {fs : List Field} {a b : Value} {r s : Bool} (hn : f.name ≠ "_") (h1 : (part f.type xs f.offset).run P w = .ok a w) (h2 : (part f.type ys f.offset).run P w = .ok b w) (h3 : (Op.equalIn d f.type a b).run P w = .ok r w) (h4 : (Op.eqFields d xs ys fs).run P w = .ok s w) : (Op.eqFields d xs ys (f :: fs)).run P w = .ok (r && s) w := by
 unfold Op.eqFields
 rw [if_pos hn]
 simp only [Sem.run_bind, h1, h2, h3, Result.andThen_ok]
 cases r
 ·simp
 ·simpa using h4
theorem eqF_nil {d : Nat} {xs ys : Array Value} : (Op.eqFields d xs ys []).run P w = .ok true w := by simp [Op.eqFields]
theorem part_flat {t : TypeId} {cs : Array Value} {off : Nat} {v : Value} (h : Flat P t) (hv : cs[off]? = some v) : (part t cs off).run P w = .ok v w := by
 obtain ⟨d, hd, hn⟩ := h
 unfold part isAgg
 cases d <;> simp_all [run_underlying hd]
theorem part_agg {t : TypeId} {cs vs : Array Value} {off size bytes : Nat} {z : Value} (h : Agg P t) (hty : Ty P t z size bytes) (hv : cs.extract off (off + size) = vs) : (part t cs off).run P w = .ok (.agg vs) w := by
 unfold part
 rw [Sem.run_bind, h w]
 simp [run_size hty, hv]
end
theorem flI : Flat Tryz.prog 3 := ⟨_, Tryz.underlying3, by simp⟩
theorem flJ : Flat Tryz.prog 2 := ⟨_, Tryz.underlying2, by simp⟩
theorem flS : Flat Tryz.prog 9 := ⟨_, Tryz.underlying9, by simp⟩
theorem aggV : Agg Tryz.prog 53 := agg_of Tryz.underlying53
theorem tyV : Ty Tryz.prog 53 (.agg #[I 0, I 0, I 0, S []]) 4 40 := ty_of (by kernel_rfl)
theorem eq_str (a b : List UInt8) : ((⟨⟨a⟩⟩ : ByteArray).toList == (⟨⟨b⟩⟩ : ByteArray).toList) = decide (a = b) := by
 rw [S_toList, S_toList, Bool.eq_iff_iff]; simp
theorem eqVal (d : Nat) (w : World) (a b : HV) : (Op.equalIn (d + 2) 53 (.agg #[I a.kind, I a.width, I a.int, S a.text]) (.agg #[I b.kind, I b.width, I b.int, S b.text])).run Tryz.prog w = .ok ((a.kind == b.kind) && ((a.width == b.width) && ((a.int == b.int) && (decide (a.text = b.text) && true)))) w := by
 have hS : Tryz.prog.underlying 53 = some (.struct (Tryz.prog.fieldsOf 53)) := by kernel_rfl
 have hp : Tryz.prog.stoodInHeld 53 = false := by kernel_rfl
 rw [show d + 2 = d + 1 + 1 from rfl, run_equalIn_struct w (d + 1) _ _ _ hS hp]
 unfold Program.fieldsOf
 rw [Tryz.underlying53]
 refine eqF_cons (by decide) (part_flat flI rfl) (part_flat flI rfl) (run_equalIn_int w d 3 .i64 .i64 _ _ Tryz.underlying3) ?_
 refine eqF_cons (by decide) (part_flat flI rfl) (part_flat flI rfl) (run_equalIn_int w d 3 .i64 .i64 _ _ Tryz.underlying3) ?_
 refine eqF_cons (by decide) (part_flat flJ rfl) (part_flat flJ rfl) (run_equalIn_int w d 2 .i64 .i64 _ _ Tryz.underlying2) ?_
 refine eqF_cons (by decide) (part_flat flS rfl) (part_flat flS rfl) ?_ eqF_nil
 rw [← eq_str]
 exact run_equalIn_string w d 9 _ _ Tryz.underlying9
theorem eqHdr (d : Nat) (w : World) (a b : HV) : (Op.equalIn (d + 3) 55 (.agg #[S a.name, I a.kind, I a.width, I a.int, S a.text]) (.agg #[S b.name, I b.kind, I b.width, I b.int, S b.text])).run Tryz.prog w = .ok (decide (a = b)) w := by
 have hS : Tryz.prog.underlying 55 = some (.struct (Tryz.prog.fieldsOf 55)) := by kernel_rfl
 have hp : Tryz.prog.stoodInHeld 55 = false := by kernel_rfl
 have hb : decide (a = b) = (decide (a.name = b.name) && (((a.kind == b.kind) && ((a.width == b.width) && ((a.int == b.int) && (decide (a.text = b.text) && true)))) && true)) := by
  obtain ⟨n, k, x, i, t⟩ := a
  obtain ⟨n', k', x', i', t'⟩ := b
  rw [Bool.eq_iff_iff]
  simp
 rw [hb, show d + 3 = d + 2 + 1 from rfl, run_equalIn_struct w (d + 2) _ _ _ hS hp]
 unfold Program.fieldsOf
 rw [Tryz.underlying55]
 refine eqF_cons (by decide) (part_flat flS rfl) (part_flat flS rfl) ?_ ?_
 ·rw [← eq_str]
  exact run_equalIn_string w (d + 1) 9 _ _ Tryz.underlying9
 ·exact eqF_cons (by decide) (part_agg aggV tyV rfl) (part_agg aggV tyV rfl) (eqVal d w a b) eqF_nil
section
variable {n : Nat} {w0 : World} {ds : List Deferred} {fr : Fr} {H : List Hp} {dst : Option Tmp} {ty t' : TypeId} {pos : String} {aft : Array Edge} {g : Option (Nat × Bool)} {x y : Operand} {a b : HV}
theorem oq_neHV (hx : ev fr x = some (.agg #[S a.name, I a.kind, I a.width, I a.int, S a.text])) (hy : ev fr y = some (.agg #[S b.name, I b.kind, I b.width, I b.int, S b.text])) : OV Tryz.prog n w0 ⟨dst, .binOp .neq 55 x y t', ty, pos, aft, g⟩ (.bool (!decide (a = b))) ds fr H :=
 oq_of_run fun c w hf _ => by
  have hg : Tryz.prog.eqGuardType Tryz.prog.depth 55 = false := by kernel_rfl
  simp only [execOp, hf.eval hx, hf.eval hy, Sem.run_bind, run_eqGuard_agg w .neq 55 x y _ _ hg, Result.andThen_ok, run_neq_struct, eqHdr 9997 w a b, Sem.run_pure]
theorem oq_neVV (hx : ev fr x = some (.agg #[I a.kind, I a.width, I a.int, S a.text])) (hy : ev fr y = some (.agg #[I b.kind, I b.width, I b.int, S b.text])) : OV Tryz.prog n w0 ⟨dst, .binOp .neq 53 x y t', ty, pos, aft, g⟩ (.bool (!((a.kind == b.kind) && ((a.width == b.width) && ((a.int == b.int) && (decide (a.text = b.text) && true)))))) ds fr H :=
 oq_of_run fun c w hf _ => by
  have hg : Tryz.prog.eqGuardType Tryz.prog.depth 53 = false := by kernel_rfl
  simp only [execOp, hf.eval hx, hf.eval hy, Sem.run_bind, run_eqGuard_agg w .neq 53 x y _ _ hg, Result.andThen_ok, run_neq_struct, eqVal 9998 w a b, Sem.run_pure]
end
theorem oq_callRall {P : Program} {n : Nat} {w0 : World} {ds : List Deferred} {fr : Fr} {H : List Hp} {dst : Option Tmp} {ty : TypeId} {pos : String} {aft : Array Edge} {g : Option (Nat × Bool)} {f : FuncId} {xs : Array Operand} {ts : Array TypeId} {args : List Value} {v : Value} (hc : FnR P f args H.flatten v) (hf : Callable P f) (ha : evs fr xs.toList = some args) : OQ P n w0 ⟨dst, .call ⟨.value (.func f), xs, ts⟩, ty, pos, aft, g⟩ v ds fr H := by
 intro a hfit w hw
 unfold Oper.quietAt
 rw [run_enter hf ha hfit w]
 exact ⟨rfl, (hc.pure ⟨hw.now, hw.nodup⟩).mono fun e w' h => ⟨h.1, hw.pure h.2⟩⟩
theorem rd_flat {s m : Nat} {v : Value} {A : Hp} {H : List Hp} {xs : List Value} (h : RdS s v A m xs) (hA : A ∈ H) : RdS s v H.flatten m xs := h.weaken fun x hx => mem_flat hA hx
theorem and1_mod (x : Int) (h : -9223372036854775808 ≤ x ∧ x ≤ 9223372036854775807) : bitOp .and .i64 x 1 = x % 2 := by
 unfold bitOp
 have e : (BitVec.ofInt IntKind.i64.bits x &&& BitVec.ofInt IntKind.i64.bits 1).toNat = (x % 2).toNat := by
  rw [BitVec.toNat_and]
  have h1 : (BitVec.ofInt IntKind.i64.bits 1).toNat = 1 := by decide
  have h2 : (BitVec.ofInt IntKind.i64.bits x).toNat = (x % 18446744073709551616).toNat := by
   show (BitVec.ofInt 64 x).toNat = _
   rw [BitVec.toNat_ofInt]; rfl
  rw [h1, h2, Nat.and_one_is_mod]
  omega
 simp only [e]
 have : ((x % 2).toNat : Int) = x % 2 := by omega
 rw [this, wrap_in (by rw [i64_lo, i64_hi]; omega)]
def canV (h : HV) : Prop := if h.kind = 0 then h.width = 0 ∧ h.int % 2 = h.int ∧ h.text = [] else if h.kind = 1 then h.text = [] else if h.kind = 4 then h.width = 0 ∧ h.text = [] else h.width = 0 ∧ h.int = 0
instance (h : HV) : Decidable (canV h) := by unfold canV; infer_instance
theorem can_of {h : HV} (hc : canV h) : can h := by
 unfold canV at hc
 by_cases h0 : h.kind = 0
 ·rw [if_pos h0] at hc
  exact ⟨fun _ => ⟨hc.1, hc.2.2, by omega⟩, fun h => by omega, fun h => by omega, fun h => by omega⟩
 rw [if_neg h0] at hc
 by_cases h1 : h.kind = 1
 ·rw [if_pos h1] at hc
  exact ⟨fun h => by omega, fun _ => hc, fun h => by omega, fun h => by omega⟩
 rw [if_neg h1] at hc
 by_cases h4 : h.kind = 4
 ·rw [if_pos h4] at hc
  exact ⟨fun h => by omega, fun h => by omega, fun h => by omega, fun _ => hc⟩
 rw [if_neg h4] at hc
 exact ⟨fun h => by omega, fun h => by omega, fun _ => hc, fun h => by omega⟩
def UnL (l : List HV) : Prop := ∀ i, i < l.length → (∀ k, k < i → (l.getD k HV0).name ≠ (l.getD i HV0).name) ∧ canV (l.getD i HV0)
theorem unl_pair : ∀ {l : List HV}, UnL l → l.Pairwise fun a b => a.name ≠ b.name := fun {l} h => by
 rw [List.pairwise_iff_getElem]
 intro i j hi hj hij
 have := (h j hj).1 i hij
 simpa [List.getD_eq_getElem?_getD, hi, hj] using this
theorem unl_can {l : List HV} (h : UnL l) : ∀ x ∈ l, can x := fun x hx => by
 obtain ⟨i, hi, rfl⟩ := List.getElem_of_mem hx
 have := (h i hi).2
 rw [List.getD_eq_getElem?_getD, List.getElem?_eq_getElem hi] at this
 exact can_of this
theorem take_eq {l1 l2 : List HV} {i : Nat} (h1 : i < l1.length) (h2 : i < l2.length) (h : l1.take i = l2.take i) (he : l1.getD i HV0 = l2.getD i HV0) : l1.take (i + 1) = l2.take (i + 1) := by
 rw [take_snoc h1, take_snoc h2, h, he]
theorem ne_getD {l1 l2 : List HV} {i : Nat} (he : ¬ l1.getD i HV0 = l2.getD i HV0) : l1 ≠ l2 := fun e => he (by rw [e])
end DP
end Go.Proofs.YtpjeiimlglgklaaGreatDoor
/- The law: a spoilt message is not read. -/
namespace Go.Proofs.YtpjeiimlglgklaaGreatDoor
open Go Go.RowKit V EA EB EC ED EL DC DD DA DE EE EH EI EJ DF DG DH DI EM DJ DK DL DM DB EF EG EK EN EO ER ES
set_option linter.unusedSimpArgs false
set_option linter.unusedVariables false
set_option maxRecDepth 10000
namespace DO
theorem call13 : Callable Tryz.prog 13 := ⟨_, Tryz.func13, rfl, by kernel_rfl⟩
theorem call14 : Callable Tryz.prog 14 := ⟨_, Tryz.func14, rfl, by kernel_rfl⟩
theorem call15 : Callable Tryz.prog 15 := ⟨_, Tryz.func15, rfl, by kernel_rfl⟩
theorem call16 : Callable Tryz.prog 16 := ⟨_, Tryz.func16, rfl, by kernel_rfl⟩
theorem flat25 : Flat Tryz.prog 25 := ⟨_, Tryz.underlying25, by simp⟩
theorem flat28 : Flat Tryz.prog 28 := ⟨_, Tryz.underlying28, by simp⟩
theorem ty25 : Ty Tryz.prog 25 (.slice none 0 0) 1 24 := ty_of (by kernel_rfl)
theorem ty28 : Ty Tryz.prog 28 (.slice none 0 0) 1 24 := ty_of (by kernel_rfl)
theorem ty39 : Ty Tryz.prog 39 (.agg #[(.slice none 0 0), (.int .i64 0), (.int .i8 0)]) 3 40 := ty_of (by kernel_rfl)
theorem ty50 : Ty Tryz.prog 50 (.agg #[(.slice none 0 0), (.slice none 0 0)]) 2 48 := ty_of (by kernel_rfl)
theorem conc45 : Conc Tryz.prog 45 := ⟨_, Tryz.underlying45, by simp⟩
theorem str50 : Str Tryz.prog 50 #[(0, 1), (1, 1)] := ⟨_, Tryz.underlying50, fun w => by kernel_rfl⟩
theorem fld30_0 : Fld Tryz.prog 30 0 0 28 := fld_of Tryz.underlying30 rfl rfl rfl ty28 (by decide)
theorem fld30_1 : Fld Tryz.prog 30 1 1 25 := fld_of Tryz.underlying30 rfl rfl rfl ty25 (by decide)
theorem msgB_pos (l : List HV) (data : List UInt8) : (msgB l data).length = 16 + (hdrs l).length + data.length := by
 unfold msgB msg0 crcB; rw [List.length_append, List.length_append, List.length_append, pre12_len, be_len]; omega
end DO
end Go.Proofs.YtpjeiimlglgklaaGreatDoor
/- Headers that are the same, headers as they are read. -/
namespace Go.Proofs.YtpjeiimlglgklaaGreatDoor
open Go Go.RowKit V EA EB EC ED EL DC DD DA DE EE EH EI EJ DF DG DH DI EM DJ DK DL DM DB EF EG EK EN EO ER ES DP
set_option linter.unusedSimpArgs false
set_option linter.unusedVariables false
set_option maxRecDepth 10000
namespace DQ
theorem flat2 : Flat Tryz.prog 2 := ⟨_, Tryz.underlying2, by simp⟩
theorem flat3 : Flat Tryz.prog 3 := ⟨_, Tryz.underlying3, by simp⟩
theorem flat9 : Flat Tryz.prog 9 := ⟨_, Tryz.underlying9, by simp⟩
theorem ty2 : Ty Tryz.prog 2 (.int .i64 0) 1 8 := ty_of (by kernel_rfl)
theorem ty3 : Ty Tryz.prog 3 (.int .i64 0) 1 8 := ty_of (by kernel_rfl)
theorem ty9 : Ty Tryz.prog 9 (S []) 1 16 := ty_of (by kernel_rfl)
theorem ty53 : Ty Tryz.prog 53 (.agg #[(.int .i64 0), (.int .i64 0), (.int .i64 0), (S [])]) 4 40 := ty_of (by kernel_rfl)
theorem ty55 : Ty Tryz.prog 55 (.agg #[(S []), (.int .i64 0), (.int .i64 0), (.int .i64 0), (S [])]) 5 56 := ty_of (by kernel_rfl)
theorem agg53 : Agg Tryz.prog 53 := agg_of Tryz.underlying53
theorem agg55 : Agg Tryz.prog 55 := agg_of Tryz.underlying55
theorem str53 : Str Tryz.prog 53 #[(0, 1), (1, 1), (2, 1), (3, 1)] := ⟨_, Tryz.underlying53, fun w => by kernel_rfl⟩
theorem fld53_0 : Fld Tryz.prog 53 0 0 3 := fld_of Tryz.underlying53 rfl rfl rfl ty3 (by decide)
theorem fld53_1 : Fld Tryz.prog 53 1 1 3 := fld_of Tryz.underlying53 rfl rfl rfl ty3 (by decide)
theorem fld53_2 : Fld Tryz.prog 53 2 2 2 := fld_of Tryz.underlying53 rfl rfl rfl ty2 (by decide)
theorem fld53_3 : Fld Tryz.prog 53 3 3 9 := fld_of Tryz.underlying53 rfl rfl rfl ty9 (by decide)
theorem fld55_0 : Fld Tryz.prog 55 0 0 9 := fld_of Tryz.underlying55 rfl rfl rfl ty9 (by decide)
theorem fld55_1 : Fld Tryz.prog 55 1 1 53 := fld_of Tryz.underlying55 rfl rfl rfl ty53 (by decide)
def canC (h : HV) (cw ci : Int) (ct : List UInt8) : Prop := if h.kind = 0 then cw = 0 ∧ ci = h.int % 2 ∧ ct = [] else if h.kind = 1 then cw = h.width ∧ ci = h.int ∧ ct = [] else if h.kind = 4 then cw = 0 ∧ ci = h.int ∧ ct = [] else cw = 0 ∧ ci = 0 ∧ ct = h.text
theorem can_iff {h : HV} {cw ci : Int} {ct : List UInt8} (hc : canC h cw ci ct) : canV h ↔ (h.width = cw ∧ h.int = ci ∧ h.text = ct) := by
 unfold canC at hc
 unfold canV
 by_cases h0 : h.kind = 0
 ·rw [if_pos h0] at hc ⊢; obtain ⟨rfl, rfl, rfl⟩ := hc; constructor <;> (rintro ⟨a, b, c⟩; exact ⟨a, b.symm, c⟩)
 rw [if_neg h0] at hc ⊢
 by_cases h1 : h.kind = 1
 ·rw [if_pos h1] at hc ⊢; obtain ⟨rfl, rfl, rfl⟩ := hc; exact ⟨fun h => ⟨rfl, rfl, h⟩, fun h => h.2.2⟩
 rw [if_neg h1] at hc ⊢
 by_cases h4 : h.kind = 4
 ·rw [if_pos h4] at hc ⊢; obtain ⟨rfl, rfl, rfl⟩ := hc; exact ⟨fun h => ⟨h.1, rfl, h.2⟩, fun h => ⟨h.1, h.2.2⟩⟩
 rw [if_neg h4] at hc ⊢; obtain ⟨rfl, rfl, rfl⟩ := hc; exact ⟨fun h => ⟨h.1, h.2, rfl⟩, fun h => ⟨h.1, h.2.1⟩⟩
theorem can_ok {h : HV} {cw ci : Int} {ct : List UInt8} (hc : canC h cw ci ct) (he : (h.width = cw ∧ h.int = ci ∧ h.text = ct)) : canV h := (can_iff hc).2 he
theorem can_no {h : HV} {cw ci : Int} {ct : List UInt8} (hc : canC h cw ci ct) (hv : canV h) (he : ¬ (h.width = cw ∧ h.int = ci ∧ h.text = ct)) : False := he ((can_iff hc).1 hv)
theorem unl_step {l : List HV} {i : Nat} (h : ∀ j, j < i → (∀ k, k < j → (l.getD k HV0).name ≠ (l.getD j HV0).name) ∧ canV (l.getD j HV0)) (h1 : ∀ m, m < i → (l.getD m HV0).name ≠ (l.getD i HV0).name) (h2 : canV (l.getD i HV0)) : ∀ j, j < i + 1 → (∀ k, k < j → (l.getD k HV0).name ≠ (l.getD j HV0).name) ∧ canV (l.getD j HV0) := fun j hj => by
 rcases Nat.lt_or_ge j i with h3 | h3
 ·exact h j h3
 ·rw [show j = i by omega]; exact ⟨h1, h2⟩
instance (l : List HV) : Decidable (UnL l) := decidable_of_iff (∀ i, i < l.length → (∀ k, k < i → (l.getD k HV0).name ≠ (l.getD i HV0).name) ∧ canV (l.getD i HV0)) Iff.rfl
theorem vSame (v1 v2 : Value) (A : Hp) (l1 l2 : List HV) (hr1 : RdS 5 v1 A l1.length (recsV HV.row l1)) (hr2 : RdS 5 v2 A l2.length (recsV HV.row l2)) (hn : l1.length ≤ 1000000) : FnR Tryz.prog 11 [v1, v2] A (.bool (decide (l1 = l2))) := by
 refine FnR.enter (n := 26) Tryz.func11 rfl rfl fun w0 => ?_
 refine WC.sub (fr' := [(0, _), (1, _)]) ?_ ⟨rfl, rfl, trivial⟩
 refine WC.seq (WC.region ?_)
 refine WL.q (oq_assign rfl) rfl rfl rfl ?_
 refine WL.nil (WE.then_normal (WC.sub (fr' := [(0, _), (1, _)]) ?_ ⟨rfl, rfl, trivial⟩))
 refine WC.seq (WC.seq (WC.region ?_))
 refine WL.q (oq_move rfl) rfl rfl rfl ?_
 refine WL.q (oq_len_rd hr1 Tryz.underlying28 rfl) rfl rfl rfl ?_
 refine WL.q (oq_move rfl) rfl rfl rfl ?_
 refine WL.q (oq_len_rd hr2 Tryz.underlying28 rfl) rfl rfl rfl ?_
 refine WL.q (oq_neq rfl rfl) rfl rfl rfl ?_
 refine WL.nil (WE.then_normal (WC.sub (fr' := [(0, _), (1, _), (10, _)]) ?_ ⟨rfl, rfl, rfl, trivial⟩))
 refine WC.cond rfl (fun q1 => ?_) (fun q1 => ?_)
 ·
  try simp only [Z1, Z2, Z3, Z4, Z5, Z6, Z7, Z8, Z9, Z0] at q1
  refine WC.seq (WC.region ?_)
  refine WL.q (oq_assign rfl) rfl rfl rfl ?_
  refine WL.nil (WE.then_normal (WC.sub (fr' := [(4, _)]) ?_ ⟨rfl, trivial⟩))
  refine WC.ret (WE.then_ret ?_)
  refine WE.endR (.inl rfl) (res1 Tryz.results11 rfl) ?_
  rw [decide_eq_false (fun e => by rw [e] at q1; exact q1 rfl)]
 ·
  try simp only [Z1, Z2, Z3, Z4, Z5, Z6, Z7, Z8, Z9, Z0] at q1
  refine WC.skip (WE.then_normal (WC.sub (fr' := [(0, _), (1, _)]) ?_ ⟨rfl, rfl, trivial⟩))
  refine WC.seq (WC.seq (WC.region ?_))
  refine WL.q (oq_assign rfl) rfl rfl rfl ?_
  refine WL.nil (WE.then_normal (WC.sub (fr' := [(0, _), (1, _), (5, _)]) ?_ ⟨rfl, rfl, rfl, trivial⟩))
  refine WC.block ?_
  refine WC.loop (ι := Nat) (fun (i : Nat) => [(0, v1), (1, v2), (5, I (i : Int))]) (fun (i : Nat) => [A]) (fun (i : Nat) => i ≤ l1.length ∧ l1.take i = l2.take i) (fun (i : Nat) => l1.length - i) (0) ?_ ⟨rfl, rfl, rfl, trivial⟩ (List.Perm.refl _) ?_
  ·try dsimp only
   exact ⟨by omega, rfl⟩
  ·rintro i hp
   try dsimp only at hp
   obtain ⟨hi, ht⟩ := hp
   show WC _ _ _ _ _ _ ([(0, v1), (1, v2), (5, I (i : Int))]) ([A])
   refine WC.seq (WC.seq (WC.region ?_))
   refine WL.q (oq_move rfl) rfl rfl rfl ?_
   refine WL.q (oq_move rfl) rfl rfl rfl ?_
   refine WL.q (oq_len_rd hr1 Tryz.underlying28 rfl) rfl rfl rfl ?_
   refine WL.q (oq_lss rfl rfl) rfl rfl rfl ?_
   refine WL.nil (WE.then_normal (WC.sub (fr' := [(0, _), (1, _), (5, _), (14, _)]) ?_ ⟨rfl, rfl, rfl, rfl, trivial⟩))
   refine WC.cond rfl (fun q4 => ?_) (fun q4 => ?_)
   ·
    try simp only [Z1, Z2, Z3, Z4, Z5, Z6, Z7, Z8, Z9, Z0] at q4
    refine WC.skip (WE.then_normal (WC.sub (fr' := [(0, _), (1, _), (5, _)]) ?_ ⟨rfl, rfl, rfl, trivial⟩))
    refine WC.seq (WC.block (WC.seq (WC.quiet (by kernel_rfl) (by kernel_rfl) ?_)))
    refine WQ.q (oq_move rfl) rfl rfl rfl ?_
    refine WQ.q (oq_move rfl) rfl rfl rfl ?_
    refine WQ.q (oq_ixaddr hr1 Tryz.underlying28 ty55 rfl rfl (by (first | omega | (simp only [List.length_cons, List.length_nil, List.length_append, List.length_drop, List.length_take]; omega)))) rfl rfl rfl ?_
    refine WQ.q (oq_loadEl (f := HV.row) HV0 [_, _, _, _, _] (fun _ => rfl) agg55 ty55 hr1 (.head _) rfl (by (first | omega | (simp only [List.length_cons, List.length_nil, List.length_append, List.length_drop, List.length_take]; omega))) (by first | exact Int.toNat_natCast _ | exact rfl) rfl) rfl rfl rfl ?_
    refine WQ.q (oq_move rfl) rfl rfl rfl ?_
    refine WQ.q (oq_move rfl) rfl rfl rfl ?_
    refine WQ.q (oq_ixaddr hr2 Tryz.underlying28 ty55 rfl rfl (by (first | omega | (simp only [List.length_cons, List.length_nil, List.length_append, List.length_drop, List.length_take]; omega)))) rfl rfl rfl ?_
    refine WQ.q (oq_loadEl (f := HV.row) HV0 [_, _, _, _, _] (fun _ => rfl) agg55 ty55 hr2 (.head _) rfl (by (first | omega | (simp only [List.length_cons, List.length_nil, List.length_append, List.length_drop, List.length_take]; omega))) (by first | exact Int.toNat_natCast _ | exact rfl) rfl) rfl rfl rfl ?_
    refine WQ.q (oq_neHV (a := l1.getD i HV0) (b := l2.getD i HV0) rfl rfl) rfl rfl rfl ?_
    refine WQ.nil (WE.then_normal (WC.sub (fr' := [(0, _), (1, _), (5, _), (25, _)]) ?_ ⟨rfl, rfl, rfl, rfl, trivial⟩))
    refine WC.cond rfl (fun q6 => ?_) (fun q6 => ?_)
    ·
     try simp only [Z1, Z2, Z3, Z4, Z5, Z6, Z7, Z8, Z9, Z0] at q6
     refine WC.seq (WC.region ?_)
     refine WL.q (oq_assign rfl) rfl rfl rfl ?_
     refine WL.nil (WE.then_normal (WC.sub (fr' := [(4, _)]) ?_ ⟨rfl, trivial⟩))
     refine WC.ret (WE.block_ret (WE.then_ret (WE.then_ret (WE.block_ret (WE.then_ret ?_)))))
     refine WE.endR (.inl rfl) (res1 Tryz.results11 rfl) ?_
     rw [decide_eq_false (ne_getD (by simpa using q6))]
    ·
     try simp only [Z1, Z2, Z3, Z4, Z5, Z6, Z7, Z8, Z9, Z0] at q6
     refine WC.skip (WE.block_normal (WE.then_normal (WC.sub (fr' := [(0, _), (1, _), (5, _)]) ?_ ⟨rfl, rfl, rfl, trivial⟩)))
     refine WC.region ?_
     refine WL.q (oq_move rfl) rfl rfl rfl ?_
     refine WL.q (oq_add rfl rfl (by rw [i64_lo, i64_hi]; (first | omega | (simp only [List.length_cons, List.length_nil, List.length_append, List.length_drop, List.length_take]; omega)))) rfl rfl rfl ?_
     refine WL.q (oq_assign rfl) rfl rfl rfl ?_
     refine WL.nil ?_
     refine WE.again (i + 1) ?_ ?_ ⟨rfl, rfl, rfl, trivial⟩ (List.Perm.refl _)
     ·try dsimp only
      exact ⟨by omega, take_eq (by omega) (by omega) ht (by simpa using q6)⟩
     ·(try dsimp only); omega
   ·
    try simp only [Z1, Z2, Z3, Z4, Z5, Z6, Z7, Z8, Z9, Z0] at q4
    refine WC.exit (WE.then_exit (WE.then_exit (WE.block_same (WE.then_normal (WC.sub (fr' := []) ?_ trivial)))))
    refine WC.seq (WC.region ?_)
    refine WL.q (oq_assign rfl) rfl rfl rfl ?_
    refine WL.nil (WE.then_normal (WC.sub (fr' := [(4, _)]) ?_ ⟨rfl, trivial⟩))
    refine WC.ret ?_
    refine WE.endR (.inl rfl) (res1 Tryz.results11 rfl) ?_
    obtain rfl : i = l1.length := by omega
    rw [List.take_length, List.take_of_length_le (by omega)] at ht
    rw [decide_eq_true ht]
theorem vUnlike (v : Value) (A : Hp) (l : List HV) (hr : RdS 5 v A l.length (recsV HV.row l)) (hint : intOk l) (hn : l.length ≤ 1000) : FnR Tryz.prog 9 [v] A (.bool (decide (UnL l))) := by
 refine FnR.enter (n := 64) Tryz.func9 rfl rfl fun w0 => ?_
 refine WC.sub (fr' := [(0, _)]) ?_ ⟨rfl, trivial⟩
 refine WC.seq (WC.region ?_)
 refine WL.q (oq_assign rfl) rfl rfl rfl ?_
 refine WL.nil (WE.then_normal (WC.sub (fr' := [(0, _)]) ?_ ⟨rfl, trivial⟩))
 refine WC.seq (WC.seq (WC.region ?_))
 refine WL.q (oq_assign rfl) rfl rfl rfl ?_
 refine WL.nil (WE.then_normal (WC.sub (fr' := [(0, _), (3, _)]) ?_ ⟨rfl, rfl, trivial⟩))
 refine WC.block ?_
 refine WC.loop (ι := Nat) (fun (i : Nat) => [(0, v), (3, I (i : Int))]) (fun (i : Nat) => [A]) (fun (i : Nat) => i ≤ l.length ∧ ∀ j, j < i → (∀ k, k < j → (l.getD k HV0).name ≠ (l.getD j HV0).name) ∧ canV (l.getD j HV0)) (fun (i : Nat) => l.length - i) (0) ?_ ⟨rfl, rfl, trivial⟩ (List.Perm.refl _) ?_
 ·try dsimp only
  exact ⟨by omega, fun j h => (by omega)⟩
 ·rintro i hp
  try dsimp only at hp
  obtain ⟨hi, hall⟩ := hp
  show WC _ _ _ _ _ _ ([(0, v), (3, I (i : Int))]) ([A])
  refine WC.seq (WC.seq (WC.region ?_))
  refine WL.q (oq_move rfl) rfl rfl rfl ?_
  refine WL.q (oq_move rfl) rfl rfl rfl ?_
  refine WL.q (oq_len_rd hr Tryz.underlying28 rfl) rfl rfl rfl ?_
  refine WL.q (oq_lss rfl rfl) rfl rfl rfl ?_
  refine WL.nil (WE.then_normal (WC.sub (fr' := [(0, _), (3, _), (10, _)]) ?_ ⟨rfl, rfl, rfl, trivial⟩))
  refine WC.cond rfl (fun q2 => ?_) (fun q2 => ?_)
  ·
   try simp only [Z1, Z2, Z3, Z4, Z5, Z6, Z7, Z8, Z9, Z0] at q2
   refine WC.skip (WE.then_normal (WC.sub (fr' := [(0, _), (3, _)]) ?_ ⟨rfl, rfl, trivial⟩))
   refine WC.seq (WC.block (WC.seq (WC.seq ?_)))
   have hlt : i < l.length := by omega
   have hii := hint i hlt
   refine WC.region ?_
   refine WL.q (oq_assign rfl) rfl rfl rfl ?_
   refine WL.nil (WE.then_normal (WC.sub (fr' := [(0, _), (3, _), (4, _)]) ?_ ⟨rfl, rfl, rfl, trivial⟩))
   refine WC.block ?_
   refine WC.loop (ι := Nat) (fun (k : Nat) => [(0, v), (3, I (i : Int)), (4, I (k : Int))]) (fun (k : Nat) => [A]) (fun (k : Nat) => k ≤ i ∧ ∀ m, m < k → (l.getD m HV0).name ≠ (l.getD i HV0).name) (fun (k : Nat) => i - k) (0) ?_ ⟨rfl, rfl, rfl, trivial⟩ (List.Perm.refl _) ?_
   ·try dsimp only
    exact ⟨by omega, fun m h => (by omega)⟩
   ·rintro k hp
    try dsimp only at hp
    obtain ⟨hk, hks⟩ := hp
    show WC _ _ _ _ _ _ ([(0, v), (3, I (i : Int)), (4, I (k : Int))]) ([A])
    refine WC.seq (WC.seq (WC.region ?_))
    refine WL.q (oq_move rfl) rfl rfl rfl ?_
    refine WL.q (oq_move rfl) rfl rfl rfl ?_
    refine WL.q (oq_lss rfl rfl) rfl rfl rfl ?_
    refine WL.nil (WE.then_normal (WC.sub (fr' := [(0, _), (3, _), (4, _), (15, _)]) ?_ ⟨rfl, rfl, rfl, rfl, trivial⟩))
    refine WC.cond rfl (fun q5 => ?_) (fun q5 => ?_)
    ·
     try simp only [Z1, Z2, Z3, Z4, Z5, Z6, Z7, Z8, Z9, Z0] at q5
     refine WC.skip (WE.then_normal (WC.sub (fr' := [(0, _), (3, _), (4, _)]) ?_ ⟨rfl, rfl, rfl, trivial⟩))
     refine WC.seq (WC.block (WC.seq (WC.quiet (by kernel_rfl) (by kernel_rfl) ?_)))
     refine WQ.q (oq_move rfl) rfl rfl rfl ?_
     refine WQ.q (oq_move rfl) rfl rfl rfl ?_
     refine WQ.q (oq_ixaddr hr Tryz.underlying28 ty55 rfl rfl (by (first | omega | (simp only [List.length_cons, List.length_nil, List.length_append, List.length_drop, List.length_take]; omega)))) rfl rfl rfl ?_
     refine WQ.q (oq_fldEl fld55_0 hr rfl (by (first | omega | (simp only [List.length_cons, List.length_nil, List.length_append, List.length_drop, List.length_take]; omega)))) rfl rfl rfl ?_
     refine WQ.q (oq_loadF (f := HV.row) HV0 (fun _ => rfl) flat9 hr (.head _) rfl (by (first | omega | (simp only [List.length_cons, List.length_nil, List.length_append, List.length_drop, List.length_take]; omega))) (by first | exact Int.toNat_natCast _ | exact rfl) (by decide) rfl) rfl rfl rfl ?_
     refine WQ.q (oq_move rfl) rfl rfl rfl ?_
     refine WQ.q (oq_move rfl) rfl rfl rfl ?_
     refine WQ.q (oq_ixaddr hr Tryz.underlying28 ty55 rfl rfl (by (first | omega | (simp only [List.length_cons, List.length_nil, List.length_append, List.length_drop, List.length_take]; omega)))) rfl rfl rfl ?_
     refine WQ.q (oq_fldEl fld55_0 hr rfl (by (first | omega | (simp only [List.length_cons, List.length_nil, List.length_append, List.length_drop, List.length_take]; omega)))) rfl rfl rfl ?_
     refine WQ.q (oq_loadF (f := HV.row) HV0 (fun _ => rfl) flat9 hr (.head _) rfl (by (first | omega | (simp only [List.length_cons, List.length_nil, List.length_append, List.length_drop, List.length_take]; omega))) (by first | exact Int.toNat_natCast _ | exact rfl) (by decide) rfl) rfl rfl rfl ?_
     refine WQ.q (oq_seql rfl rfl) rfl rfl rfl ?_
     refine WQ.nil (WE.then_normal (WC.sub (fr' := [(0, _), (3, _), (4, _), (28, _)]) ?_ ⟨rfl, rfl, rfl, rfl, trivial⟩))
     refine WC.cond rfl (fun q7 => ?_) (fun q7 => ?_)
     ·
      try simp only [Z1, Z2, Z3, Z4, Z5, Z6, Z7, Z8, Z9, Z0] at q7
      refine WC.seq (WC.region ?_)
      refine WL.q (oq_assign rfl) rfl rfl rfl ?_
      refine WL.nil (WE.then_normal (WC.sub (fr' := [(2, _)]) ?_ ⟨rfl, trivial⟩))
      refine WC.ret (WE.block_ret (WE.then_ret (WE.then_ret (WE.block_ret (WE.then_ret (WE.block_ret (WE.then_ret (WE.then_ret (WE.block_ret (WE.then_ret ?_))))))))))
      refine WE.endR (.inl rfl) (res1 Tryz.results9 rfl) ?_
      rw [decide_eq_false (fun h => (h i hlt).1 k (by omega) (by simpa using q7))]
     ·
      try simp only [Z1, Z2, Z3, Z4, Z5, Z6, Z7, Z8, Z9, Z0] at q7
      refine WC.skip (WE.block_normal (WE.then_normal (WC.sub (fr' := [(0, _), (3, _), (4, _)]) ?_ ⟨rfl, rfl, rfl, trivial⟩)))
      refine WC.region ?_
      refine WL.q (oq_move rfl) rfl rfl rfl ?_
      refine WL.q (oq_add rfl rfl (by rw [i64_lo, i64_hi]; (first | omega | (simp only [List.length_cons, List.length_nil, List.length_append, List.length_drop, List.length_take]; omega)))) rfl rfl rfl ?_
      refine WL.q (oq_assign rfl) rfl rfl rfl ?_
      refine WL.nil ?_
      refine WE.again (k + 1) ?_ ?_ ⟨rfl, rfl, rfl, trivial⟩ (List.Perm.refl _)
      ·try dsimp only
       refine ⟨by omega, fun m hm => ?_⟩
       rcases Nat.lt_or_ge m k with h | h
       ·exact hks m h
       ·rw [show m = k by omega]; simpa using q7
      ·(try dsimp only); omega
    ·
     try simp only [Z1, Z2, Z3, Z4, Z5, Z6, Z7, Z8, Z9, Z0] at q5
     refine WC.exit (WE.then_exit (WE.then_exit (WE.block_same (WE.then_normal (WC.sub (fr' := [(0, _), (3, _)]) ?_ ⟨rfl, rfl, trivial⟩)))))
     refine WC.seq ?_
     obtain rfl : i = k := by omega
     refine WC.region ?_
     refine WL.q (oq_move rfl) rfl rfl rfl ?_
     refine WL.q (oq_move rfl) rfl rfl rfl ?_
     refine WL.q (oq_ixaddr hr Tryz.underlying28 ty55 rfl rfl (by (first | omega | (simp only [List.length_cons, List.length_nil, List.length_append, List.length_drop, List.length_take]; omega)))) rfl rfl rfl ?_
     refine WL.q (oq_fldEl fld55_1 hr rfl (by (first | omega | (simp only [List.length_cons, List.length_nil, List.length_append, List.length_drop, List.length_take]; omega)))) rfl rfl rfl ?_
     refine WL.q (oq_loadFS (f := HV.row) HV0 [_, _, _, _] (fun _ => rfl) agg53 ty53 hr (.head _) rfl (by (first | omega | (simp only [List.length_cons, List.length_nil, List.length_append, List.length_drop, List.length_take]; omega))) (by first | exact Int.toNat_natCast _ | exact rfl) (by decide) rfl rfl) rfl rfl rfl ?_
     refine WL.alloc ty53 rfl rfl fun v4 hv4 => ?_
     refine WL.storeS #[_, _, _, _] ty53 rfl rfl rfl rfl (Nat.le_of_ble_eq_true rfl) rfl rfl ?_
     refine WL.nil (WE.then_normal (WC.sub (fr' := [(0, _), (3, _), (5, _)]) ?_ ⟨rfl, rfl, rfl, trivial⟩))
     refine WC.seq (WC.region ?_)
     refine WL.q (oq_fieldAddr fld53_0 rfl) rfl rfl rfl ?_
     refine WL.q (oq_load flat3 rfl (.head _) (List.mem_singleton.2 rfl) rfl) rfl rfl rfl ?_
     refine WL.q (oq_build #[_, _, _, _] str53 ty53 rfl rfl) rfl rfl rfl ?_
     refine WL.alloc ty53 rfl rfl fun w4 hw4 => ?_
     refine WL.storeS #[_, _, _, _] ty53 rfl rfl rfl rfl (Nat.le_of_ble_eq_true rfl) rfl rfl ?_
     refine WL.nil (WE.then_normal (WC.sub (fr' := [(0, _), (3, _), (5, _), (6, _)]) ?_ ⟨rfl, rfl, rfl, rfl, trivial⟩))
     refine WC.cut (ι := Int × Int × (List UInt8)) (fun i_ => (fun (cw : Int) (ci : Int) (ct : List UInt8) => [(0, v), (3, I (i : Int)), (5, Pt v4 0), (6, Pt w4 0)]) i_.1 i_.2.1 i_.2.2) (fun i_ => (fun (cw : Int) (ci : Int) (ct : List UInt8) => [[(v4, .cells #[I (l.getD i HV0).kind, I (l.getD i HV0).width, I (l.getD i HV0).int, S (l.getD i HV0).text] 53 (0, 0))], [(w4, .cells #[I (l.getD i HV0).kind, I cw, I ci, S ct] 53 (0, 0))], A]) i_.1 i_.2.1 i_.2.2) (fun i_ => (fun (cw : Int) (ci : Int) (ct : List UInt8) => canC (l.getD i HV0) cw ci ct ∧ True) i_.1 i_.2.1 i_.2.2) ?_ ?_
     ·
      refine WC.seq (WC.region ?_)
      refine WL.q (oq_fieldAddr fld53_0 rfl) rfl rfl rfl ?_
      refine WL.q (oq_load flat3 rfl (.tail _ (.head _)) (List.mem_singleton.2 rfl) rfl) rfl rfl rfl ?_
      refine WL.nil (WE.then_normal (WC.sub (fr' := [(0, _), (3, _), (5, _), (6, _), (38, _)]) ?_ ⟨rfl, rfl, rfl, rfl, rfl, trivial⟩))
      refine WC.block (WC.seq (WC.region ?_))
      refine WL.q (oq_eql rfl rfl) rfl rfl rfl ?_
      refine WL.q (oq_assign rfl) rfl rfl rfl ?_
      refine WL.nil (WE.then_normal (WC.sub (fr' := [(0, _), (3, _), (5, _), (6, _), (38, _), (42, _)]) ?_ ⟨rfl, rfl, rfl, rfl, rfl, rfl, trivial⟩))
      refine WC.cond rfl (fun q13 => ?_) (fun q13 => ?_)
      ·
       try simp only [Z1, Z2, Z3, Z4, Z5, Z6, Z7, Z8, Z9, Z0] at q13
       refine WC.region ?_
       refine WL.q (oq_fieldAddr fld53_2 rfl) rfl rfl rfl ?_
       refine WL.q (oq_load flat2 rfl (.tail _ (.head _)) (List.mem_singleton.2 rfl) rfl) rfl rfl rfl ?_
       refine WL.q (oq_bits (op := .and) rfl rfl (by simp)) rfl rfl rfl ?_
       refine WL.q (oq_fieldAddr fld53_2 rfl) rfl rfl rfl ?_
       refine WL.store1 #[_, _, _, _] ty2 rfl rfl (by first | rfl | exact OwS.one one_) (Nat.lt_of_lt_of_le (Nat.lt_succ_self _) (Nat.le_of_ble_eq_true rfl)) rfl rfl ?_
       refine WL.nil (WE.block_normal ?_)
       refine WE.f2 ?_
       refine WE.f1 ?_
       refine WE.f2 ?_
       refine WE.meet (_, _, _) ?_ ⟨rfl, rfl, rfl, rfl, trivial⟩ (List.Perm.refl _)
       try dsimp only
       exact ⟨by unfold canC; first | (rw [if_pos (by omega)]; exact ⟨rfl, and1_mod _ ⟨hii.1, hii.2.1⟩, rfl⟩) | (rw [if_neg (by omega), if_pos (by omega)]; exact ⟨rfl, rfl, rfl⟩) | (rw [if_neg (by omega), if_neg (by omega), if_pos (by omega)]; exact ⟨rfl, rfl, rfl⟩) | (rw [if_neg (by omega), if_neg (by omega), if_neg (by omega)]; exact ⟨rfl, rfl, rfl⟩), trivial⟩
      ·
       try simp only [Z1, Z2, Z3, Z4, Z5, Z6, Z7, Z8, Z9, Z0] at q13
       refine WC.seq (WC.region ?_)
       refine WL.q (oq_eql rfl rfl) rfl rfl rfl ?_
       refine WL.q (oq_assign rfl) rfl rfl rfl ?_
       refine WL.nil (WE.then_normal (WC.sub (fr' := [(0, _), (3, _), (5, _), (6, _), (38, _), (48, _)]) ?_ ⟨rfl, rfl, rfl, rfl, rfl, rfl, trivial⟩))
       refine WC.cond rfl (fun q15 => ?_) (fun q15 => ?_)
       ·
        try simp only [Z1, Z2, Z3, Z4, Z5, Z6, Z7, Z8, Z9, Z0] at q15
        refine WC.held ([(v4, .cells #[I (l.getD i HV0).kind, I (l.getD i HV0).width, I (l.getD i HV0).int, S (l.getD i HV0).text] 53 (0, 0))]) (by kernel_rfl) ?_
        refine WH.q 0 rfl (.tail _ (.head _)) (fun w0 => oq_fieldAddr fld53_1 rfl) rfl rfl rfl ?_
        refine WH.q 1 rfl (.tail _ (.head _)) (fun w0 => oq_load flat3 rfl (.head _) (List.mem_singleton.2 rfl) rfl) rfl rfl rfl ?_
        refine WH.q 2 rfl (.tail _ (.head _)) (fun w0 => oq_fieldAddr fld53_2 rfl) rfl rfl rfl ?_
        refine WH.q 3 rfl (.tail _ (.head _)) (fun w0 => oq_load flat2 rfl (.head _) (List.mem_singleton.2 rfl) rfl) rfl rfl rfl ?_
        refine WH.q 4 rfl (.tail _ (.head _)) (fun w0 => oq_fieldAddr fld53_1 rfl) rfl rfl rfl ?_
        refine WH.step (i := 5) (by kernel_rfl) rfl ?_
        refine WL.store1 #[_, _, _, _] ty3 rfl rfl (by first | rfl | exact OwS.one one_) (Nat.lt_of_lt_of_le (Nat.lt_succ_self _) (Nat.le_of_ble_eq_true rfl)) rfl rfl ?_
        refine WL.nil ?_
        refine WE.toH (.tail _ (.head _)) ?_
        refine WH.q 6 rfl (.tail _ (.head _)) (fun w0 => oq_fieldAddr fld53_2 rfl) rfl rfl rfl ?_
        refine WH.step (i := 7) (by kernel_rfl) rfl ?_
        refine WL.store1 #[_, _, _, _] ty2 rfl rfl (by first | rfl | exact OwS.one one_) (Nat.lt_of_lt_of_le (Nat.lt_succ_self _) (Nat.le_of_ble_eq_true rfl)) rfl rfl ?_
        refine WL.nil ?_
        refine WE.toH (.tail _ (.head _)) ?_
        refine WH.done (by kernel_rfl) ?_
        refine WE.block_normal ?_
        refine WE.f2 ?_
        refine WE.f1 ?_
        refine WE.f2 ?_
        refine WE.meet (_, _, _) ?_ ⟨rfl, rfl, rfl, rfl, trivial⟩ (List.Perm.refl _)
        try dsimp only
        exact ⟨by unfold canC; first | (rw [if_pos (by omega)]; exact ⟨rfl, and1_mod _ ⟨hii.1, hii.2.1⟩, rfl⟩) | (rw [if_neg (by omega), if_pos (by omega)]; exact ⟨rfl, rfl, rfl⟩) | (rw [if_neg (by omega), if_neg (by omega), if_pos (by omega)]; exact ⟨rfl, rfl, rfl⟩) | (rw [if_neg (by omega), if_neg (by omega), if_neg (by omega)]; exact ⟨rfl, rfl, rfl⟩), trivial⟩
       ·
        try simp only [Z1, Z2, Z3, Z4, Z5, Z6, Z7, Z8, Z9, Z0] at q15
        refine WC.seq (WC.region ?_)
        refine WL.q (oq_eql rfl rfl) rfl rfl rfl ?_
        refine WL.q (oq_assign rfl) rfl rfl rfl ?_
        refine WL.nil (WE.then_normal (WC.sub (fr' := [(0, _), (3, _), (5, _), (6, _), (56, _)]) ?_ ⟨rfl, rfl, rfl, rfl, rfl, trivial⟩))
        refine WC.cond rfl (fun q17 => ?_) (fun q17 => ?_)
        ·
         try simp only [Z1, Z2, Z3, Z4, Z5, Z6, Z7, Z8, Z9, Z0] at q17
         refine WC.region ?_
         refine WL.q (oq_fieldAddr fld53_2 rfl) rfl rfl rfl ?_
         refine WL.q (oq_load flat2 rfl (.tail _ (.head _)) (List.mem_singleton.2 rfl) rfl) rfl rfl rfl ?_
         refine WL.q (oq_fieldAddr fld53_2 rfl) rfl rfl rfl ?_
         refine WL.store1 #[_, _, _, _] ty2 rfl rfl (by first | rfl | exact OwS.one one_) (Nat.lt_of_lt_of_le (Nat.lt_succ_self _) (Nat.le_of_ble_eq_true rfl)) rfl rfl ?_
         refine WL.nil (WE.block_normal ?_)
         refine WE.f2 ?_
         refine WE.f1 ?_
         refine WE.f2 ?_
         refine WE.meet (_, _, _) ?_ ⟨rfl, rfl, rfl, rfl, trivial⟩ (List.Perm.refl _)
         try dsimp only
         exact ⟨by unfold canC; first | (rw [if_pos (by omega)]; exact ⟨rfl, and1_mod _ ⟨hii.1, hii.2.1⟩, rfl⟩) | (rw [if_neg (by omega), if_pos (by omega)]; exact ⟨rfl, rfl, rfl⟩) | (rw [if_neg (by omega), if_neg (by omega), if_pos (by omega)]; exact ⟨rfl, rfl, rfl⟩) | (rw [if_neg (by omega), if_neg (by omega), if_neg (by omega)]; exact ⟨rfl, rfl, rfl⟩), trivial⟩
        ·
         try simp only [Z1, Z2, Z3, Z4, Z5, Z6, Z7, Z8, Z9, Z0] at q17
         refine WC.region ?_
         refine WL.q (oq_fieldAddr fld53_3 rfl) rfl rfl rfl ?_
         refine WL.q (oq_load flat9 rfl (.tail _ (.head _)) (List.mem_singleton.2 rfl) rfl) rfl rfl rfl ?_
         refine WL.q (oq_fieldAddr fld53_3 rfl) rfl rfl rfl ?_
         refine WL.store1 #[_, _, _, _] ty9 rfl rfl (by first | rfl | exact OwS.one one_) (Nat.lt_of_lt_of_le (Nat.lt_succ_self _) (Nat.le_of_ble_eq_true rfl)) rfl rfl ?_
         refine WL.nil (WE.block_normal ?_)
         refine WE.f2 ?_
         refine WE.f1 ?_
         refine WE.f2 ?_
         refine WE.meet (_, _, _) ?_ ⟨rfl, rfl, rfl, rfl, trivial⟩ (List.Perm.refl _)
         try dsimp only
         exact ⟨by unfold canC; first | (rw [if_pos (by omega)]; exact ⟨rfl, and1_mod _ ⟨hii.1, hii.2.1⟩, rfl⟩) | (rw [if_neg (by omega), if_pos (by omega)]; exact ⟨rfl, rfl, rfl⟩) | (rw [if_neg (by omega), if_neg (by omega), if_pos (by omega)]; exact ⟨rfl, rfl, rfl⟩) | (rw [if_neg (by omega), if_neg (by omega), if_neg (by omega)]; exact ⟨rfl, rfl, rfl⟩), trivial⟩
     ·rintro ⟨cw, ci, ct⟩ hp
      try dsimp only at hp
      obtain ⟨hcc, _⟩ := hp
      show WC _ _ _ _ _ _ ([(0, v), (3, I (i : Int)), (5, Pt v4 0), (6, Pt w4 0)]) ([[(v4, .cells #[I (l.getD i HV0).kind, I (l.getD i HV0).width, I (l.getD i HV0).int, S (l.getD i HV0).text] 53 (0, 0))], [(w4, .cells #[I (l.getD i HV0).kind, I cw, I ci, S ct] 53 (0, 0))], A])
      refine WC.seq (WC.region ?_)
      refine WL.q (oq_loadS [_, _, _, _] agg53 ty53 rfl (.head _) (List.mem_singleton.2 rfl) rfl rfl) rfl rfl rfl ?_
      refine WL.q (oq_loadS [_, _, _, _] agg53 ty53 rfl (.tail _ (.head _)) (List.mem_singleton.2 rfl) rfl rfl) rfl rfl rfl ?_
      refine WL.q (oq_neVV (a := (l.getD i HV0)) (b := ⟨[], (l.getD i HV0).kind, cw, ci, ct⟩) rfl rfl) rfl rfl rfl ?_
      refine WL.nil (WE.then_normal (WC.sub (fr' := [(0, _), (3, _), (63, _)]) ?_ ⟨rfl, rfl, rfl, trivial⟩))
      refine WC.cond rfl (fun q19 => ?_) (fun q19 => ?_)
      ·
       try simp only [Z1, Z2, Z3, Z4, Z5, Z6, Z7, Z8, Z9, Z0] at q19
       refine WC.seq (WC.region ?_)
       refine WL.q (oq_assign rfl) rfl rfl rfl ?_
       refine WL.nil (WE.then_normal (WC.sub (fr' := [(2, _)]) ?_ ⟨rfl, trivial⟩))
       refine WC.ret (WE.block_ret (WE.then_ret (WE.then_ret (WE.block_ret (WE.then_ret ?_)))))
       refine WE.lose hv4 ?_
       refine WE.lose hw4 ?_
       refine WE.endR (.inl rfl) (res1 Tryz.results9 rfl) ?_
       rw [decide_eq_false (fun h => can_no hcc (h i hlt).2 (by simpa using q19))]
      ·
       try simp only [Z1, Z2, Z3, Z4, Z5, Z6, Z7, Z8, Z9, Z0] at q19
       refine WC.skip (WE.block_normal (WE.then_normal (WC.sub (fr' := [(0, _), (3, _)]) ?_ ⟨rfl, rfl, trivial⟩)))
       refine WC.region ?_
       refine WL.q (oq_move rfl) rfl rfl rfl ?_
       refine WL.q (oq_add rfl rfl (by rw [i64_lo, i64_hi]; (first | omega | (simp only [List.length_cons, List.length_nil, List.length_append, List.length_drop, List.length_take]; omega)))) rfl rfl rfl ?_
       refine WL.q (oq_assign rfl) rfl rfl rfl ?_
       refine WL.nil ?_
       refine WE.lose hv4 ?_
       refine WE.lose hw4 ?_
       refine WE.again (i + 1) ?_ ?_ ⟨rfl, rfl, trivial⟩ (List.Perm.refl _)
       ·try dsimp only
        exact ⟨by omega, unl_step hall hks (can_ok hcc (by simpa using q19))⟩
       ·(try dsimp only); omega
  ·
   try simp only [Z1, Z2, Z3, Z4, Z5, Z6, Z7, Z8, Z9, Z0] at q2
   refine WC.exit (WE.then_exit (WE.then_exit (WE.block_same (WE.then_normal (WC.sub (fr' := []) ?_ trivial)))))
   refine WC.seq (WC.region ?_)
   refine WL.q (oq_assign rfl) rfl rfl rfl ?_
   refine WL.nil (WE.then_normal (WC.sub (fr' := [(2, _)]) ?_ ⟨rfl, trivial⟩))
   refine WC.ret ?_
   refine WE.endR (.inl rfl) (res1 Tryz.results9 rfl) ?_
   obtain rfl : i = l.length := by omega
   exact congrArg Value.bool (decide_eq_true (p := UnL l) (fun j hj => hall j hj)).symm
end DQ
end Go.Proofs.YtpjeiimlglgklaaGreatDoor
/- Headers and messages that come in. -/
namespace Go.Proofs.YtpjeiimlglgklaaGreatDoor
open Go Go.RowKit Go.ChangeShapes Go.WideShapes V EI EJ ER
set_option linter.unusedVariables false
set_option linter.unusedSimpArgs false
namespace ET
theorem cS : Tryz.prog.cellsOf 9 = 1 := by kernel_rfl
theorem cI : Tryz.prog.cellsOf 3 = 1 := by kernel_rfl
theorem cJ : Tryz.prog.cellsOf 2 = 1 := by kernel_rfl
theorem cU : Tryz.prog.cellsOf 5 = 1 := by kernel_rfl
theorem cV : Tryz.prog.cellsOf 53 = 4 := by kernel_rfl
theorem cH : Tryz.prog.cellsOf 55 = 5 := by kernel_rfl
theorem cM : Tryz.prog.cellsOf 30 = 2 := by kernel_rfl
theorem cL : Tryz.prog.cellsOf 28 = 1 := by kernel_rfl
theorem cB : Tryz.prog.cellsOf 25 = 1 := by kernel_rfl
def okI (x : Int) : Prop := -9223372036854775808 ≤ x ∧ x ≤ 9223372036854775807
def okV (h : HV) : Prop := okI h.int ∧ okI h.width ∧ okI h.kind
theorem wfI {n : Int} (h : (Lit.int .i64 n).wf = true) : okI n := by
 have := wf_bounds h
 rw [i64_lo, i64_hi] at this; exact this
section
variable {H : Type} {enc : TypeId × Value → H} {W : World}
set_option maxRecDepth 100000 in
theorem val_cells {n : Nat} {cs : List Value} {y : DataW H × List MemPlace} (h : DataW.trod enc Tryz.prog W 0 (fun _ => true) true n 53 cs = some y) (hl : cs.length = 4) : ∃ x : HV, cs = [I x.kind, I x.width, I x.int, S x.text] ∧ okV x := by
 obtain ⟨xs, m, _, rfl, _, hlen, hf⟩ := DataW.trod_struct Tryz.underlying53 h
 match xs, hlen with
 | [y0, y1, y2, y3], _ =>
  match cs, hl with
  | [a, b, c, d], _ =>
   have k0 : DataW.trod enc Tryz.prog W 0 (fun _ => true) true m 3 (([a, b, c, d].drop 0).take (Tryz.prog.cellsOf 3)) = some y0 := hf 0 _ rfl
   have k1 : DataW.trod enc Tryz.prog W 0 (fun _ => true) true m 3 (([a, b, c, d].drop 1).take (Tryz.prog.cellsOf 3)) = some y1 := hf 1 _ rfl
   have k2 : DataW.trod enc Tryz.prog W 0 (fun _ => true) true m 2 (([a, b, c, d].drop 2).take (Tryz.prog.cellsOf 2)) = some y2 := hf 2 _ rfl
   have k3 : DataW.trod enc Tryz.prog W 0 (fun _ => true) true m 9 (([a, b, c, d].drop 3).take (Tryz.prog.cellsOf 9)) = some y3 := hf 3 _ rfl
   rw [cI] at k0 k1
   rw [cJ] at k2
   rw [cS] at k3
   obtain ⟨s0, e0, _, w0⟩ := DataW.trod_int Tryz.underlying3 k0
   obtain ⟨s1, e1, _, w1⟩ := DataW.trod_int Tryz.underlying3 k1
   obtain ⟨s2, e2, _, w2⟩ := DataW.trod_int Tryz.underlying2 k2
   obtain ⟨s3, e3, _⟩ := DataW.trod_string Tryz.underlying9 k3
   simp at e0 e1 e2 e3
   subst e0; subst e1; subst e2; subst e3
   obtain ⟨⟨s3⟩⟩ := s3
   exact ⟨⟨[], s0, s1, s2, s3⟩, rfl, wfI w2, wfI w1, wfI w0⟩
set_option maxRecDepth 100000 in
theorem hv_cells (n : Nat) (cs : List Value) (y : DataW H × List MemPlace) (h : DataW.trod enc Tryz.prog W 0 (fun _ => true) true n 55 cs = some y) (hl : cs.length = 5) : ∃ (x : HV) (A : Hp), cs = HV.row x ∧ Has A W ∧ okV x := by
 obtain ⟨xs, m, _, rfl, _, hlen, hf⟩ := DataW.trod_struct Tryz.underlying55 h
 match xs, hlen with
 | [y0, y1], _ =>
  match cs, hl with
  | [a, b, c, d, e], _ =>
   have k0 : DataW.trod enc Tryz.prog W 0 (fun _ => true) true m 9 (([a, b, c, d, e].drop 0).take (Tryz.prog.cellsOf 9)) = some y0 := hf 0 _ rfl
   have k1 : DataW.trod enc Tryz.prog W 0 (fun _ => true) true m 53 (([a, b, c, d, e].drop 1).take (Tryz.prog.cellsOf 53)) = some y1 := hf 1 _ rfl
   rw [cS] at k0
   rw [cV] at k1
   obtain ⟨s0, e0, _⟩ := DataW.trod_string Tryz.underlying9 k0
   obtain ⟨x, e1, hx⟩ := val_cells k1 rfl
   simp at e0 e1
   obtain ⟨rfl, rfl, rfl, rfl⟩ := e1
   subst e0
   obtain ⟨⟨s0⟩⟩ := s0
   exact ⟨⟨s0, x.kind, x.width, x.int, x.text⟩, [], rfl, Has.nil W, hx⟩
theorem int_of {l : List HV} (h : ∀ x ∈ l, okV x) : intOk l := fun i hi => by
 have := h (l.getD i HV0) (by rw [List.getD_eq_getElem?_getD, List.getElem?_eq_getElem hi]; exact List.getElem_mem hi)
 exact ⟨this.1.1, this.1.2, this.2.1.1, this.2.1.2⟩
theorem hs_cells {n : Nat} {cs : List Value} {y : DataW H × List MemPlace} (h : DataW.trod enc Tryz.prog W 0 (fun _ => true) true n 28 cs = some y) :
  ∃ (v : Value) (l : List HV) (A : Hp), cs = [v] ∧ Has A W ∧ RdS 5 v A l.length (recsV HV.row l) ∧ l.length ≤ maxLen ∧ ∀ x ∈ l, okV x :=
 trod_sl HV.row (fun x _ => okV x) (fun _ _ _ h _ => h) (fun _ => rfl) (by decide) Tryz.underlying28 cH hv_cells h
structure MV where
 vh : Value
 l : List HV
 pp : Option Addr
 pc : Nat
 data : List UInt8
def MV.row (m : MV) : List Value := [m.vh, .slice m.pp m.data.length m.pc]
structure MvIn (m : MV) (A : Hp) : Prop where
 rd : RdS 5 m.vh A m.l.length (recsV HV.row m.l)
 rdp : RdS 1 (.slice m.pp m.data.length m.pc) A m.data.length (bytesV m.data)
 int : intOk m.l
 len : m.l.length ≤ maxLen
 plen : m.data.length ≤ maxLen
theorem MvIn.weaken {m : MV} {A C : Hp} (h : MvIn m A) (hs : ∀ x ∈ A, x ∈ C) : MvIn m C := ⟨h.rd.weaken hs, h.rdp.weaken hs, h.int, h.len, h.plen⟩
set_option maxRecDepth 100000 in
theorem mv_cells (n : Nat) (cs : List Value) (y : DataW H × List MemPlace) (h : DataW.trod enc Tryz.prog W 0 (fun _ => true) true n 30 cs = some y) (hl : cs.length = 2) : ∃ (x : MV) (A : Hp), cs = MV.row x ∧ Has A W ∧ MvIn x A := by
 obtain ⟨xs, m, _, rfl, _, hlen, hf⟩ := DataW.trod_struct Tryz.underlying30 h
 match xs, hlen with
 | [y0, y1], _ =>
  match cs, hl with
  | [a, b], _ =>
   have k0 : DataW.trod enc Tryz.prog W 0 (fun _ => true) true m 28 (([a, b].drop 0).take (Tryz.prog.cellsOf 28)) = some y0 := hf 0 _ rfl
   have k1 : DataW.trod enc Tryz.prog W 0 (fun _ => true) true m 25 (([a, b].drop 1).take (Tryz.prog.cellsOf 25)) = some y1 := hf 1 _ rfl
   rw [cL] at k0
   rw [cB] at k1
   obtain ⟨v, l, A, e0, hA, hr, hln, hok⟩ := hs_cells k0
   obtain ⟨p, c, d, B, e1, hB, hrp, hlp⟩ := trod_by Tryz.underlying25 Tryz.underlying5 cU k1
   simp at e0 e1
   subst e0; subst e1
   obtain ⟨C, hC, h1, h2⟩ := has_two hA hB
   exact ⟨⟨a, l, p, c, d⟩, C, rfl, hC, ⟨hr.weaken h1, hrp.weaken h2, int_of hok, hln, hlp⟩⟩
end
end ET
end Go.Proofs.YtpjeiimlglgklaaGreatDoor
/- The law: a message comes back. -/
namespace Go.Proofs.YtpjeiimlglgklaaGreatDoor
open Go Go.RowKit V EA EB EC ED EL DC DD DA DE EE EH EI EJ DF DG DH DI EM DJ DK DL DM DB EF EG EK EN EO ER ES DP DO DQ ET
set_option linter.unusedSimpArgs false
set_option linter.unusedVariables false
set_option maxRecDepth 10000
namespace DR
theorem back_of {l : List HV} (hok : okH l) (hint : intOk l) (hu : UnL l) : Back l := by
 refine ⟨fun x hx => ⟨?_, ?_, unl_can hu x hx⟩, unl_pair hu⟩
 ·obtain ⟨i, hi, rfl⟩ := List.getElem_of_mem hx
  have := (hok i hi).1
  rwa [List.getD_eq_getElem?_getD, List.getElem?_eq_getElem hi] at this
 ·obtain ⟨i, hi, rfl⟩ := List.getElem_of_mem hx
  have := hint i hi
  rw [List.getD_eq_getElem?_getD, List.getElem?_eq_getElem hi] at this
  exact ⟨this.1, this.2.1⟩
theorem wf_msg (l : List HV) (data beh : List UInt8) (h : 16 + (hdrs l).length + data.length < 4294967296) : 16 + head (msgB l data ++ beh) ≤ totl (msgB l data ++ beh) := by
 have p := msg_parts l data beh h
 rw [p.totl, p.head]; omega
end DR
end Go.Proofs.YtpjeiimlglgklaaGreatDoor
/- Any header: how it is written. -/
namespace Go.Proofs.YtpjeiimlglgklaaGreatDoor
open Go Go.RowKit V EA EB EC ED EE EF EG EH EI EJ
set_option linter.unusedSimpArgs false
set_option linter.unusedVariables false
set_option maxRecDepth 10000
namespace FA
theorem call39 : Callable Tryz.prog 39 := ⟨_, Tryz.func39, rfl, by kernel_rfl⟩
theorem call50 : Callable Tryz.prog 50 := ⟨_, Tryz.func50, rfl, by kernel_rfl⟩
theorem call55 : Callable Tryz.prog 55 := ⟨_, Tryz.func55, rfl, by kernel_rfl⟩
theorem call56 : Callable Tryz.prog 56 := ⟨_, Tryz.func56, rfl, by kernel_rfl⟩
theorem call69 : Callable Tryz.prog 69 := ⟨_, Tryz.func69, rfl, by kernel_rfl⟩
theorem call122 : Callable Tryz.prog 122 := ⟨_, Tryz.func122, rfl, by kernel_rfl⟩
theorem call148 : Callable Tryz.prog 148 := ⟨_, Tryz.func148, rfl, by kernel_rfl⟩
theorem call149 : Callable Tryz.prog 149 := ⟨_, Tryz.func149, rfl, by kernel_rfl⟩
theorem call150 : Callable Tryz.prog 150 := ⟨_, Tryz.func150, rfl, by kernel_rfl⟩
theorem flat2 : Flat Tryz.prog 2 := ⟨_, Tryz.underlying2, by simp⟩
theorem flat3 : Flat Tryz.prog 3 := ⟨_, Tryz.underlying3, by simp⟩
theorem flat9 : Flat Tryz.prog 9 := ⟨_, Tryz.underlying9, by simp⟩
theorem ty2 : Ty Tryz.prog 2 (.int .i64 0) 1 8 := ty_of (by kernel_rfl)
theorem ty3 : Ty Tryz.prog 3 (.int .i64 0) 1 8 := ty_of (by kernel_rfl)
theorem ty5 : Ty Tryz.prog 5 (.int .u8 0) 1 1 := ty_of (by kernel_rfl)
theorem ty9 : Ty Tryz.prog 9 (S []) 1 16 := ty_of (by kernel_rfl)
theorem ty123 : Ty Tryz.prog 123 (.agg #[(.int .i64 0), (.int .i32 0), (S []), (.int .i64 0)]) 4 40 := ty_of (by kernel_rfl)
theorem ty124 : Ty Tryz.prog 124 (.agg #[(.int .i64 0), (.int .i32 0), (S []), (.int .i64 0)]) 4 40 := ty_of (by kernel_rfl)
theorem ty127 : Ty Tryz.prog 127 (.agg #[(.int .u8 0), (.int .u8 0), (.int .u8 0), (.int .u8 0), (.int .u8 0), (.int .u8 0), (.int .u8 0), (.int .u8 0), (.int .u8 0), (.int .u8 0), (.int .u8 0), (.int .u8 0), (.int .u8 0), (.int .u8 0), (.int .u8 0), (.int .u8 0)]) 16 16 := ty_of (by kernel_rfl)
theorem ty170 : Ty Tryz.prog 170 (.agg #[(.int .u8 0), (.int .u16 0), (.slice none 0 0)]) 3 32 := ty_of (by kernel_rfl)
theorem conc2 : Conc Tryz.prog 2 := ⟨_, Tryz.underlying2, by simp⟩
theorem conc114 : Conc Tryz.prog 114 := ⟨_, Tryz.underlying114, by simp⟩
theorem conc117 : Conc Tryz.prog 117 := ⟨_, Tryz.underlying117, by simp⟩
theorem conc118 : Conc Tryz.prog 118 := ⟨_, Tryz.underlying118, by simp⟩
theorem conc119 : Conc Tryz.prog 119 := ⟨_, Tryz.underlying119, by simp⟩
theorem conc120 : Conc Tryz.prog 120 := ⟨_, Tryz.underlying120, by simp⟩
theorem conc121 : Conc Tryz.prog 121 := ⟨_, Tryz.underlying121, by simp⟩
theorem conc123 : Conc Tryz.prog 123 := ⟨_, Tryz.underlying123, by simp⟩
theorem conc127 : Conc Tryz.prog 127 := ⟨_, Tryz.underlying127, by simp⟩
theorem conc128 : Conc Tryz.prog 128 := ⟨_, Tryz.underlying128, by simp⟩
theorem agg123 : Agg Tryz.prog 123 := agg_of Tryz.underlying123
theorem agg124 : Agg Tryz.prog 124 := agg_of Tryz.underlying124
theorem agg127 : Agg Tryz.prog 127 := agg_arr Tryz.underlying127
theorem agg170 : Agg Tryz.prog 170 := agg_of Tryz.underlying170
theorem str124 : Str Tryz.prog 124 #[(0, 1), (1, 1), (2, 1), (3, 1)] := ⟨_, Tryz.underlying124, fun w => by kernel_rfl⟩
theorem str170 : Str Tryz.prog 170 #[(0, 1), (1, 1), (2, 1)] := ⟨_, Tryz.underlying170, fun w => by kernel_rfl⟩
theorem fld53_0 : Fld Tryz.prog 53 0 0 3 := fld_of Tryz.underlying53 rfl rfl rfl ty3 (by decide)
theorem fld53_1 : Fld Tryz.prog 53 1 1 3 := fld_of Tryz.underlying53 rfl rfl rfl ty3 (by decide)
theorem fld53_2 : Fld Tryz.prog 53 2 2 2 := fld_of Tryz.underlying53 rfl rfl rfl ty2 (by decide)
theorem fld53_3 : Fld Tryz.prog 53 3 3 9 := fld_of Tryz.underlying53 rfl rfl rfl ty9 (by decide)
theorem wrap_bnd' (k : IntKind) (i : Int) : k.min ≤ k.wrap i ∧ k.wrap i ≤ k.max := by
 cases k <;> simp only [IntKind.wrap, IntKind.signed, IntKind.bits, IntKind.min, IntKind.max, Bool.true_and, Bool.false_and, decide_eq_true_eq] <;> split <;> (try contradiction) <;> simp at * <;> omega
def nanoM (ms : Int) : Int := IntKind.i64.wrap (IntKind.i64.wrap ((ms / 1000 + 62135596800 + -62135596800) * 1000000000) + ms % 1000 * 1000000)
def eM (ms : Int) : Int := (nanoM ms).tdiv 1000000
theorem nanoM_b (ms : Int) : -9223372036854775808 ≤ nanoM ms ∧ nanoM ms ≤ 9223372036854775807 := by
 have := wrap_bnd' .i64 (IntKind.i64.wrap ((ms / 1000 + 62135596800 + -62135596800) * 1000000000) + ms % 1000 * 1000000)
 rw [i64_lo, i64_hi] at this; exact this
def pad16 (t : List UInt8) : List UInt8 := t.take 16 ++ List.replicate (16 - t.length) 0
theorem pad16_len (t : List UInt8) : (pad16 t).length = 16 := by unfold pad16; rw [List.length_append, List.length_take, List.length_replicate]; omega
def nrm (h : HV) : HV :=
 if h.kind = 1 then (if h.width = 8 then ⟨h.name, 1, 8, IntKind.i8.wrap h.int, h.text⟩ else if h.width = 16 then ⟨h.name, 1, 16, IntKind.i16.wrap h.int, h.text⟩ else if h.width = 32 then ⟨h.name, 1, 32, IntKind.i32.wrap h.int, h.text⟩ else ⟨h.name, 1, 64, h.int, h.text⟩)
 else if h.kind = 2 then h else if h.kind = 3 then h
 else if h.kind = 4 then ⟨h.name, 4, h.width, eM h.int, h.text⟩
 else if h.kind = 5 then ⟨h.name, 5, h.width, h.int, pad16 h.text⟩
 else ⟨h.name, 0, h.width, h.int, h.text⟩
theorem nrm_name (h : HV) : (nrm h).name = h.name := by
 unfold nrm
 repeat' split
 all_goals rfl
theorem nrm_okW {h : HV} (hl : h.text.length ≤ 4000000000) : okW (nrm h) := by
 unfold nrm okW
 repeat' split
 all_goals simp_all [pad16_len]
theorem nrm8 {h : HV} (h1 : h.kind = 1) (h2 : h.width = 8) : nrm h = ⟨h.name, 1, 8, IntKind.i8.wrap h.int, h.text⟩ := by unfold nrm; rw [if_pos h1, if_pos h2]
theorem nrm16 {h : HV} (h1 : h.kind = 1) (h2 : h.width = 16) : nrm h = ⟨h.name, 1, 16, IntKind.i16.wrap h.int, h.text⟩ := by unfold nrm; rw [if_pos h1, if_neg (by omega), if_pos h2]
theorem nrm32 {h : HV} (h1 : h.kind = 1) (h2 : h.width = 32) : nrm h = ⟨h.name, 1, 32, IntKind.i32.wrap h.int, h.text⟩ := by unfold nrm; rw [if_pos h1, if_neg (by omega), if_neg (by omega), if_pos h2]
theorem nrm64 {h : HV} (h1 : h.kind = 1) (h2 : ¬ h.width = 8) (h3 : ¬ h.width = 16) (h4 : ¬ h.width = 32) : nrm h = ⟨h.name, 1, 64, h.int, h.text⟩ := by unfold nrm; rw [if_pos h1, if_neg h2, if_neg h3, if_neg h4]
theorem nrmB {h : HV} (h1 : h.kind = 2) : nrm h = h := by unfold nrm; rw [if_neg (by omega), if_pos h1]
theorem nrmS {h : HV} (h1 : h.kind = 3) : nrm h = h := by unfold nrm; rw [if_neg (by omega), if_neg (by omega), if_pos h1]
theorem nrmT {h : HV} (h1 : h.kind = 4) : nrm h = ⟨h.name, 4, h.width, eM h.int, h.text⟩ := by unfold nrm; rw [if_neg (by omega), if_neg (by omega), if_neg (by omega), if_pos h1]
theorem nrmU {h : HV} (h1 : h.kind = 5) : nrm h = ⟨h.name, 5, h.width, h.int, pad16 h.text⟩ := by unfold nrm; rw [if_neg (by omega), if_neg (by omega), if_neg (by omega), if_neg (by omega), if_pos h1]
theorem nrm0 {h : HV} (h1 : ¬ h.kind = 1) (h2 : ¬ h.kind = 2) (h3 : ¬ h.kind = 3) (h4 : ¬ h.kind = 4) (h5 : ¬ h.kind = 5) : nrm h = ⟨h.name, 0, h.width, h.int, h.text⟩ := by unfold nrm; rw [if_neg h1, if_neg h2, if_neg h3, if_neg h4, if_neg h5]
theorem pad_cp (t : List UInt8) : List.take (0 + 0) (List.replicate 16 (0 : UInt8)) ++ List.take (min t.length (16 - 0)) t ++ List.drop (0 + 0 + min t.length (16 - 0)) (List.replicate 16 0) = pad16 t := by
 unfold pad16
 have e : List.take (min t.length 16) t = t.take 16 := by
  rcases Nat.lt_or_ge t.length 16 with h | h
  ·rw [Nat.min_eq_left (by omega), List.take_length, List.take_of_length_le (by omega)]
  ·rw [Nat.min_eq_right h]
 rw [Nat.sub_zero, e, List.drop_replicate, show 16 - (0 + 0 + min t.length 16) = 16 - t.length by omega]; rfl
theorem unix2 (s n : Int) (h1 : -10000000000000000 ≤ s) (h2 : s ≤ 10000000000000000) (h3 : -9223372036854775808 ≤ n) (h4 : n ≤ 9223372036854775807) : Fn0 Tryz.prog 50 [I s, I n] (tmV (s + n / 1000000000 + 62135596800) (n % 1000000000)) := by
 refine Fn0.enter (n := 32) Tryz.func50 rfl rfl fun w0 => ?_
 refine WC.sub (fr' := [(0, _), (1, _)]) ?_ ⟨rfl, rfl, trivial⟩
 refine WC.seq (WC.region ?_)
 refine WL.alloc ty124 rfl rfl fun b0_0 hb0_0 => ?_
 refine WL.nil (WE.then_normal (WC.sub (fr' := [(0, _), (1, _), (4, _)]) ?_ ⟨rfl, rfl, rfl, trivial⟩))
 refine WC.seq (WC.seq (WC.region ?_))
 refine WL.q (oq_move rfl) rfl rfl rfl ?_
 refine WL.q (oq_lss rfl rfl) rfl rfl rfl ?_
 refine WL.q (oq_move rfl) rfl rfl rfl ?_
 refine WL.split 8 rfl (fun s1_2 => ?_) (fun s1_2 => ?_)
 ·
  try simp only [Z1, Z2, Z3, Z4, Z5, Z6, Z7, Z8, Z9, Z0] at s1_2
  refine WL.skip rfl rfl rfl ?_
  refine WL.skip rfl rfl rfl ?_
  refine WL.q (oq_pick_t rfl rfl) rfl rfl rfl ?_
  refine WL.nil (WE.then_normal (WC.sub (fr' := [(0, _), (1, _), (4, _), (11, _)]) ?_ ⟨rfl, rfl, rfl, rfl, trivial⟩))
  refine WC.cond_t rfl ?_
  refine WC.seq (WC.region ?_)
  refine WL.q (oq_move rfl) rfl rfl rfl ?_
  refine WL.q (oq_tquo rfl rfl (by omega) (by rw [i64_lo, i64_hi]; omega)) rfl rfl rfl ?_
  refine WL.q (oq_assign rfl) rfl rfl rfl ?_
  refine WL.nil (WE.then_normal (WC.sub (fr' := [(0, _), (1, _), (4, _), (5, _)]) ?_ ⟨rfl, rfl, rfl, rfl, trivial⟩))
  refine WC.seq ?_
  have hk := tdiv_b n 1000000000 (by decide)
  generalize n.tdiv 1000000000 = k at *
  refine WC.region ?_
  refine WL.q (oq_move rfl) rfl rfl rfl ?_
  refine WL.q (oq_move rfl) rfl rfl rfl ?_
  refine WL.q (oq_add rfl rfl (by rw [i64_lo, i64_hi]; (first | omega | (simp only [List.length_cons, List.length_nil, List.length_append, List.length_drop, List.length_take]; omega)))) rfl rfl rfl ?_
  refine WL.q (oq_assign rfl) rfl rfl rfl ?_
  refine WL.nil (WE.then_normal (WC.sub (fr' := [(0, _), (1, _), (4, _), (5, _)]) ?_ ⟨rfl, rfl, rfl, rfl, trivial⟩))
  refine WC.seq (WC.region ?_)
  refine WL.q (oq_move rfl) rfl rfl rfl ?_
  refine WL.q (oq_move rfl) rfl rfl rfl ?_
  refine WL.q (oq_mul rfl rfl (by rw [i64_lo, i64_hi]; (first | omega | (simp only [List.length_cons, List.length_nil, List.length_append, List.length_drop, List.length_take]; omega)))) rfl rfl rfl ?_
  refine WL.q (oq_sub rfl rfl (by rw [i64_lo, i64_hi]; (first | omega | (simp only [List.length_cons, List.length_nil, List.length_append, List.length_drop, List.length_take]; omega)))) rfl rfl rfl ?_
  refine WL.q (oq_assign rfl) rfl rfl rfl ?_
  refine WL.nil (WE.then_normal (WC.sub (fr' := [(0, _), (1, _), (4, _)]) ?_ ⟨rfl, rfl, rfl, trivial⟩))
  refine WC.seq (WC.region ?_)
  refine WL.q (oq_move rfl) rfl rfl rfl ?_
  refine WL.q (oq_lss rfl rfl) rfl rfl rfl ?_
  refine WL.nil (WE.then_normal (WC.sub (fr' := [(0, _), (1, _), (4, _), (22, _)]) ?_ ⟨rfl, rfl, rfl, rfl, trivial⟩))
  refine WC.cond rfl (fun q5 => ?_) (fun q5 => ?_)
  ·
   try simp only [Z1, Z2, Z3, Z4, Z5, Z6, Z7, Z8, Z9, Z0] at q5
   refine WC.seq (WC.region ?_)
   refine WL.q (oq_move rfl) rfl rfl rfl ?_
   refine WL.q (oq_add rfl rfl (by rw [i64_lo, i64_hi]; (first | omega | (simp only [List.length_cons, List.length_nil, List.length_append, List.length_drop, List.length_take]; omega)))) rfl rfl rfl ?_
   refine WL.q (oq_assign rfl) rfl rfl rfl ?_
   refine WL.nil (WE.then_normal (WC.sub (fr' := [(0, _), (1, _), (4, _)]) ?_ ⟨rfl, rfl, rfl, trivial⟩))
   refine WC.region ?_
   refine WL.q (oq_move rfl) rfl rfl rfl ?_
   refine WL.q (oq_sub rfl rfl (by rw [i64_lo, i64_hi]; (first | omega | (simp only [List.length_cons, List.length_nil, List.length_append, List.length_drop, List.length_take]; omega)))) rfl rfl rfl ?_
   refine WL.q (oq_assign rfl) rfl rfl rfl ?_
   refine WL.nil (WE.then_normal (WC.sub (fr' := [(0, _), (1, _), (4, _)]) ?_ ⟨rfl, rfl, rfl, trivial⟩))
   refine WC.seq (WC.region ?_)
   refine WL.q (oq_move rfl) rfl rfl rfl ?_
   refine WL.q (oq_add rfl rfl (by rw [i64_lo, i64_hi]; (first | omega | (simp only [List.length_cons, List.length_nil, List.length_append, List.length_drop, List.length_take]; omega)))) rfl rfl rfl ?_
   refine WL.q (oq_move rfl) rfl rfl rfl ?_
   refine WL.q (oq_conv Tryz.underlying2 Tryz.underlying21 rfl (by rw [i32_lo, i32_hi]; (first | omega | (simp only [List.length_cons, List.length_nil, List.length_append, List.length_drop, List.length_take]; omega)))) rfl rfl rfl ?_
   refine WL.q (oq_build #[_, _, _, _] str124 ty124 rfl rfl) rfl rfl rfl ?_
   refine WL.storeS #[_, _, _, _] ty124 rfl rfl rfl rfl (Nat.le_of_ble_eq_true rfl) rfl rfl ?_
   refine WL.nil (WE.then_normal (WC.sub (fr' := [(4, _)]) ?_ ⟨rfl, trivial⟩))
   refine WC.ret ?_
   refine WE.endD0 (.inl rfl) (rs1 Tryz.results50 (rv_cellS [_, _, _, _] agg124 ty124 rfl (.head _) (List.mem_singleton.2 rfl) rfl rfl)) (dr_lose hb0_0 dr_refl) ?_
   first | (exfalso; omega) | exact tm_eq (by omega) (by omega)
  ·
   try simp only [Z1, Z2, Z3, Z4, Z5, Z6, Z7, Z8, Z9, Z0] at q5
   refine WC.skip (WE.then_normal (WC.sub (fr' := [(0, _), (1, _), (4, _)]) ?_ ⟨rfl, rfl, rfl, trivial⟩))
   refine WC.seq (WC.region ?_)
   refine WL.q (oq_move rfl) rfl rfl rfl ?_
   refine WL.q (oq_add rfl rfl (by rw [i64_lo, i64_hi]; (first | omega | (simp only [List.length_cons, List.length_nil, List.length_append, List.length_drop, List.length_take]; omega)))) rfl rfl rfl ?_
   refine WL.q (oq_move rfl) rfl rfl rfl ?_
   refine WL.q (oq_conv Tryz.underlying2 Tryz.underlying21 rfl (by rw [i32_lo, i32_hi]; (first | omega | (simp only [List.length_cons, List.length_nil, List.length_append, List.length_drop, List.length_take]; omega)))) rfl rfl rfl ?_
   refine WL.q (oq_build #[_, _, _, _] str124 ty124 rfl rfl) rfl rfl rfl ?_
   refine WL.storeS #[_, _, _, _] ty124 rfl rfl rfl rfl (Nat.le_of_ble_eq_true rfl) rfl rfl ?_
   refine WL.nil (WE.then_normal (WC.sub (fr' := [(4, _)]) ?_ ⟨rfl, trivial⟩))
   refine WC.ret ?_
   refine WE.endD0 (.inl rfl) (rs1 Tryz.results50 (rv_cellS [_, _, _, _] agg124 ty124 rfl (.head _) (List.mem_singleton.2 rfl) rfl rfl)) (dr_lose hb0_0 dr_refl) ?_
   first | (exfalso; omega) | exact tm_eq (by omega) (by omega)
 ·
  try simp only [Z1, Z2, Z3, Z4, Z5, Z6, Z7, Z8, Z9, Z0] at s1_2
  refine WL.q (oq_move rfl) rfl rfl rfl ?_
  refine WL.q (oq_geq rfl rfl) rfl rfl rfl ?_
  refine WL.q (oq_pick_f rfl rfl) rfl rfl rfl ?_
  refine WL.nil (WE.then_normal (WC.sub (fr' := [(0, _), (1, _), (4, _), (11, _)]) ?_ ⟨rfl, rfl, rfl, rfl, trivial⟩))
  refine WC.cond rfl (fun q1 => ?_) (fun q1 => ?_)
  ·
   try simp only [Z1, Z2, Z3, Z4, Z5, Z6, Z7, Z8, Z9, Z0] at q1
   refine WC.seq (WC.region ?_)
   refine WL.q (oq_move rfl) rfl rfl rfl ?_
   refine WL.q (oq_tquo rfl rfl (by omega) (by rw [i64_lo, i64_hi]; omega)) rfl rfl rfl ?_
   refine WL.q (oq_assign rfl) rfl rfl rfl ?_
   refine WL.nil (WE.then_normal (WC.sub (fr' := [(0, _), (1, _), (4, _), (5, _)]) ?_ ⟨rfl, rfl, rfl, rfl, trivial⟩))
   refine WC.seq ?_
   have hk := tdiv_b n 1000000000 (by decide)
   generalize n.tdiv 1000000000 = k at *
   refine WC.region ?_
   refine WL.q (oq_move rfl) rfl rfl rfl ?_
   refine WL.q (oq_move rfl) rfl rfl rfl ?_
   refine WL.q (oq_add rfl rfl (by rw [i64_lo, i64_hi]; (first | omega | (simp only [List.length_cons, List.length_nil, List.length_append, List.length_drop, List.length_take]; omega)))) rfl rfl rfl ?_
   refine WL.q (oq_assign rfl) rfl rfl rfl ?_
   refine WL.nil (WE.then_normal (WC.sub (fr' := [(0, _), (1, _), (4, _), (5, _)]) ?_ ⟨rfl, rfl, rfl, rfl, trivial⟩))
   refine WC.seq (WC.region ?_)
   refine WL.q (oq_move rfl) rfl rfl rfl ?_
   refine WL.q (oq_move rfl) rfl rfl rfl ?_
   refine WL.q (oq_mul rfl rfl (by rw [i64_lo, i64_hi]; (first | omega | (simp only [List.length_cons, List.length_nil, List.length_append, List.length_drop, List.length_take]; omega)))) rfl rfl rfl ?_
   refine WL.q (oq_sub rfl rfl (by rw [i64_lo, i64_hi]; (first | omega | (simp only [List.length_cons, List.length_nil, List.length_append, List.length_drop, List.length_take]; omega)))) rfl rfl rfl ?_
   refine WL.q (oq_assign rfl) rfl rfl rfl ?_
   refine WL.nil (WE.then_normal (WC.sub (fr' := [(0, _), (1, _), (4, _)]) ?_ ⟨rfl, rfl, rfl, trivial⟩))
   refine WC.seq (WC.region ?_)
   refine WL.q (oq_move rfl) rfl rfl rfl ?_
   refine WL.q (oq_lss rfl rfl) rfl rfl rfl ?_
   refine WL.nil (WE.then_normal (WC.sub (fr' := [(0, _), (1, _), (4, _), (22, _)]) ?_ ⟨rfl, rfl, rfl, rfl, trivial⟩))
   refine WC.cond rfl (fun q5 => ?_) (fun q5 => ?_)
   ·
    try simp only [Z1, Z2, Z3, Z4, Z5, Z6, Z7, Z8, Z9, Z0] at q5
    refine WC.seq (WC.region ?_)
    refine WL.q (oq_move rfl) rfl rfl rfl ?_
    refine WL.q (oq_add rfl rfl (by rw [i64_lo, i64_hi]; (first | omega | (simp only [List.length_cons, List.length_nil, List.length_append, List.length_drop, List.length_take]; omega)))) rfl rfl rfl ?_
    refine WL.q (oq_assign rfl) rfl rfl rfl ?_
    refine WL.nil (WE.then_normal (WC.sub (fr' := [(0, _), (1, _), (4, _)]) ?_ ⟨rfl, rfl, rfl, trivial⟩))
    refine WC.region ?_
    refine WL.q (oq_move rfl) rfl rfl rfl ?_
    refine WL.q (oq_sub rfl rfl (by rw [i64_lo, i64_hi]; (first | omega | (simp only [List.length_cons, List.length_nil, List.length_append, List.length_drop, List.length_take]; omega)))) rfl rfl rfl ?_
    refine WL.q (oq_assign rfl) rfl rfl rfl ?_
    refine WL.nil (WE.then_normal (WC.sub (fr' := [(0, _), (1, _), (4, _)]) ?_ ⟨rfl, rfl, rfl, trivial⟩))
    refine WC.seq (WC.region ?_)
    refine WL.q (oq_move rfl) rfl rfl rfl ?_
    refine WL.q (oq_add rfl rfl (by rw [i64_lo, i64_hi]; (first | omega | (simp only [List.length_cons, List.length_nil, List.length_append, List.length_drop, List.length_take]; omega)))) rfl rfl rfl ?_
    refine WL.q (oq_move rfl) rfl rfl rfl ?_
    refine WL.q (oq_conv Tryz.underlying2 Tryz.underlying21 rfl (by rw [i32_lo, i32_hi]; (first | omega | (simp only [List.length_cons, List.length_nil, List.length_append, List.length_drop, List.length_take]; omega)))) rfl rfl rfl ?_
    refine WL.q (oq_build #[_, _, _, _] str124 ty124 rfl rfl) rfl rfl rfl ?_
    refine WL.storeS #[_, _, _, _] ty124 rfl rfl rfl rfl (Nat.le_of_ble_eq_true rfl) rfl rfl ?_
    refine WL.nil (WE.then_normal (WC.sub (fr' := [(4, _)]) ?_ ⟨rfl, trivial⟩))
    refine WC.ret ?_
    refine WE.endD0 (.inl rfl) (rs1 Tryz.results50 (rv_cellS [_, _, _, _] agg124 ty124 rfl (.head _) (List.mem_singleton.2 rfl) rfl rfl)) (dr_lose hb0_0 dr_refl) ?_
    first | (exfalso; omega) | exact tm_eq (by omega) (by omega)
   ·
    try simp only [Z1, Z2, Z3, Z4, Z5, Z6, Z7, Z8, Z9, Z0] at q5
    refine WC.skip (WE.then_normal (WC.sub (fr' := [(0, _), (1, _), (4, _)]) ?_ ⟨rfl, rfl, rfl, trivial⟩))
    refine WC.seq (WC.region ?_)
    refine WL.q (oq_move rfl) rfl rfl rfl ?_
    refine WL.q (oq_add rfl rfl (by rw [i64_lo, i64_hi]; (first | omega | (simp only [List.length_cons, List.length_nil, List.length_append, List.length_drop, List.length_take]; omega)))) rfl rfl rfl ?_
    refine WL.q (oq_move rfl) rfl rfl rfl ?_
    refine WL.q (oq_conv Tryz.underlying2 Tryz.underlying21 rfl (by rw [i32_lo, i32_hi]; (first | omega | (simp only [List.length_cons, List.length_nil, List.length_append, List.length_drop, List.length_take]; omega)))) rfl rfl rfl ?_
    refine WL.q (oq_build #[_, _, _, _] str124 ty124 rfl rfl) rfl rfl rfl ?_
    refine WL.storeS #[_, _, _, _] ty124 rfl rfl rfl rfl (Nat.le_of_ble_eq_true rfl) rfl rfl ?_
    refine WL.nil (WE.then_normal (WC.sub (fr' := [(4, _)]) ?_ ⟨rfl, trivial⟩))
    refine WC.ret ?_
    refine WE.endD0 (.inl rfl) (rs1 Tryz.results50 (rv_cellS [_, _, _, _] agg124 ty124 rfl (.head _) (List.mem_singleton.2 rfl) rfl rfl)) (dr_lose hb0_0 dr_refl) ?_
    first | (exfalso; omega) | exact tm_eq (by omega) (by omega)
  ·
   try simp only [Z1, Z2, Z3, Z4, Z5, Z6, Z7, Z8, Z9, Z0] at q1
   refine WC.skip (WE.then_normal (WC.sub (fr' := [(0, _), (1, _), (4, _)]) ?_ ⟨rfl, rfl, rfl, trivial⟩))
   refine WC.seq (WC.region ?_)
   refine WL.q (oq_move rfl) rfl rfl rfl ?_
   refine WL.q (oq_add rfl rfl (by rw [i64_lo, i64_hi]; (first | omega | (simp only [List.length_cons, List.length_nil, List.length_append, List.length_drop, List.length_take]; omega)))) rfl rfl rfl ?_
   refine WL.q (oq_move rfl) rfl rfl rfl ?_
   refine WL.q (oq_conv Tryz.underlying2 Tryz.underlying21 rfl (by rw [i32_lo, i32_hi]; (first | omega | (simp only [List.length_cons, List.length_nil, List.length_append, List.length_drop, List.length_take]; omega)))) rfl rfl rfl ?_
   refine WL.q (oq_build #[_, _, _, _] str124 ty124 rfl rfl) rfl rfl rfl ?_
   refine WL.storeS #[_, _, _, _] ty124 rfl rfl rfl rfl (Nat.le_of_ble_eq_true rfl) rfl rfl ?_
   refine WL.nil (WE.then_normal (WC.sub (fr' := [(4, _)]) ?_ ⟨rfl, trivial⟩))
   refine WC.ret ?_
   refine WE.endD0 (.inl rfl) (rs1 Tryz.results50 (rv_cellS [_, _, _, _] agg124 ty124 rfl (.head _) (List.mem_singleton.2 rfl) rfl rfl)) (dr_lose hb0_0 dr_refl) ?_
   first | (exfalso; omega) | exact tm_eq (by omega) (by omega)
theorem unixMilliG (ms : Int) (h1 : -9223372036854775808 ≤ ms) (h2 : ms ≤ 9223372036854775807) : Fn0 Tryz.prog 39 [I ms] (msV ms) := by
 have hk := tdiv_b ms 1000 (by decide)
 have hm := tmod_b ms 1000 (by decide)
 refine Fn0.enter (n := 9) Tryz.func39 rfl rfl fun w0 => ?_
 refine WC.sub (fr' := [(0, _)]) ?_ ⟨rfl, trivial⟩
 refine WC.seq (WC.region ?_)
 refine WL.alloc ty124 rfl rfl fun b0_0 hb0_0 => ?_
 refine WL.nil (WE.then_normal (WC.sub (fr' := [(0, _), (2, _)]) ?_ ⟨rfl, rfl, trivial⟩))
 refine WC.seq (WC.region ?_)
 refine WL.q (oq_move rfl) rfl rfl rfl ?_
 refine WL.q (oq_tquo rfl rfl (by omega) (by rw [i64_lo, i64_hi]; omega)) rfl rfl rfl ?_
 refine WL.q (oq_move rfl) rfl rfl rfl ?_
 refine WL.q (oq_trem rfl rfl (by omega)) rfl rfl rfl ?_
 refine WL.q (oq_mul rfl rfl (by rw [i64_lo, i64_hi]; (first | omega | (simp only [List.length_cons, List.length_nil, List.length_append, List.length_drop, List.length_take]; omega)))) rfl rfl rfl ?_
 refine WL.qc (oq_call (unix2 (ms.tdiv 1000) (ms.tmod 1000 * 1000000) (by omega) (by omega) (by omega) (by omega)) call50 rfl) rfl rfl rfl ?_
 refine WL.storeS #[_, _, _, _] ty124 rfl rfl rfl rfl (Nat.le_of_ble_eq_true rfl) rfl rfl ?_
 refine WL.nil (WE.then_normal (WC.sub (fr' := [(2, _)]) ?_ ⟨rfl, trivial⟩))
 refine WC.ret ?_
 refine WE.endD0 (.inl rfl) (rs1 Tryz.results39 (rv_cellS [_, _, _, _] agg124 ty124 rfl (.head _) (List.mem_singleton.2 rfl) rfl rfl)) (dr_lose hb0_0 dr_refl) ?_
 exact tm_eq (by omega) (by omega)
theorem unixSec2 (s n : Int) (h : -20000000000000000 ≤ s ∧ s ≤ 20000000000000000) : Fn0 Tryz.prog 55 [tmV s n] (I (s + -62135596800)) := by
 refine Fn0.enter (n := 6) Tryz.func55 rfl rfl fun w0 => ?_
 refine WC.sub (fr' := [(0, _)]) ?_ ⟨rfl, trivial⟩
 refine WC.seq (WC.region ?_)
 refine WL.box rfl rfl rfl fun b0_0 hb0_0 => ?_
 refine WL.q (oq_assign rfl) rfl rfl rfl ?_
 refine WL.nil (WE.then_normal (WC.sub (fr' := [(1, _)]) ?_ ⟨rfl, trivial⟩))
 refine WC.seq (WC.region ?_)
 refine WL.q (oq_loadS [_, _, _, _] agg124 ty124 rfl (.head _) (List.mem_singleton.2 rfl) rfl rfl) rfl rfl rfl ?_
 refine WL.qc (oq_call (sec _ _) call69 rfl) rfl rfl rfl ?_
 refine WL.q (oq_add rfl rfl (by rw [i64_lo, i64_hi]; (first | omega | (simp only [List.length_cons, List.length_nil, List.length_append, List.length_drop, List.length_take]; omega)))) rfl rfl rfl ?_
 refine WL.q (oq_assign rfl) rfl rfl rfl ?_
 refine WL.nil (WE.then_normal (WC.sub (fr' := [(2, _)]) ?_ ⟨rfl, trivial⟩))
 refine WC.ret ?_
 refine WE.lose hb0_0 ?_
 refine WE.end0 (.inl rfl) (res1 Tryz.results55 rfl) ?_
 rfl
theorem unixNanoG (ms : Int) (h1 : -9223372036854775808 ≤ ms) (h2 : ms ≤ 9223372036854775807) : Fn0 Tryz.prog 150 [msV ms] (I (nanoM ms)) := by
 refine Fn0.enter (n := 10) Tryz.func150 rfl rfl fun w0 => ?_
 refine WC.sub (fr' := [(0, _)]) ?_ ⟨rfl, trivial⟩
 refine WC.seq (WC.region ?_)
 refine WL.box rfl rfl rfl fun b0_0 hb0_0 => ?_
 refine WL.q (oq_assign rfl) rfl rfl rfl ?_
 refine WL.nil (WE.then_normal (WC.sub (fr' := [(1, _)]) ?_ ⟨rfl, trivial⟩))
 refine WC.seq (WC.quiet (by kernel_rfl) (by kernel_rfl) ?_)
 refine WQ.q (oq_loadS [_, _, _, _] agg124 ty124 rfl (.head _) (List.mem_singleton.2 rfl) rfl rfl) rfl rfl rfl ?_
 refine WQ.qc (oq_call (unixSec2 _ _ (by omega)) call55 rfl) rfl rfl rfl ?_
 refine WQ.q (oq_mulw rfl rfl) rfl rfl rfl ?_
 refine WQ.q (oq_loadS [_, _, _, _] agg124 ty124 rfl (.head _) (List.mem_singleton.2 rfl) rfl rfl) rfl rfl rfl ?_
 refine WQ.qc (oq_call (nsec _ _) call56 rfl) rfl rfl rfl ?_
 refine WQ.q (oq_conv Tryz.underlying21 Tryz.underlying2 rfl (by rw [i64_lo, i64_hi]; (first | omega | (simp only [List.length_cons, List.length_nil, List.length_append, List.length_drop, List.length_take]; omega)))) rfl rfl rfl ?_
 refine WQ.q (oq_addw rfl rfl) rfl rfl rfl ?_
 refine WQ.q (oq_assign rfl) rfl rfl rfl ?_
 refine WQ.nil (WE.then_normal (WC.sub (fr' := [(2, _)]) ?_ ⟨rfl, trivial⟩))
 refine WC.ret ?_
 refine WE.lose hb0_0 ?_
 refine WE.end0 (.inl rfl) (res1 Tryz.results150 rfl) ?_
 rfl
theorem epochMilliG (ms : Int) (h1 : -9223372036854775808 ≤ ms) (h2 : ms ≤ 9223372036854775807) : Fn0 Tryz.prog 149 [msV ms] (I (eM ms)) := by
 have hnb := nanoM_b ms
 refine Fn0.enter (n := 10) Tryz.func149 rfl rfl fun w0 => ?_
 refine WC.sub (fr' := [(0, _)]) ?_ ⟨rfl, trivial⟩
 refine WC.seq (WC.region ?_)
 refine WL.box rfl rfl rfl fun b0_0 hb0_0 => ?_
 refine WL.q (oq_assign rfl) rfl rfl rfl ?_
 refine WL.nil (WE.then_normal (WC.sub (fr' := [(1, _)]) ?_ ⟨rfl, trivial⟩))
 refine WC.seq (WC.region ?_)
 refine WL.q (oq_loadS [_, _, _, _] agg123 ty123 rfl (.head _) (List.mem_singleton.2 rfl) rfl rfl) rfl rfl rfl ?_
 refine WL.qc (oq_call (unixNanoG ms h1 h2) call150 rfl) rfl rfl rfl ?_
 refine WL.q (oq_assign rfl) rfl rfl rfl ?_
 refine WL.nil (WE.then_normal (WC.sub (fr' := [(3, _)]) ?_ ⟨rfl, trivial⟩))
 refine WC.seq (WC.region ?_)
 refine WL.q (oq_move rfl) rfl rfl rfl ?_
 refine WL.q (oq_tquo rfl rfl (by omega) (by rw [i64_lo, i64_hi]; omega)) rfl rfl rfl ?_
 refine WL.q (oq_assign rfl) rfl rfl rfl ?_
 refine WL.nil (WE.then_normal (WC.sub (fr' := [(4, _)]) ?_ ⟨rfl, trivial⟩))
 refine WC.seq (WC.region ?_)
 refine WL.q (oq_move rfl) rfl rfl rfl ?_
 refine WL.q (oq_assign rfl) rfl rfl rfl ?_
 refine WL.nil (WE.then_normal (WC.sub (fr' := [(2, _)]) ?_ ⟨rfl, trivial⟩))
 refine WC.ret ?_
 refine WE.lose hb0_0 ?_
 refine WE.end0 (.inl rfl) (res1 Tryz.results149 rfl) ?_
 rfl
theorem encTimestampG (base : Nat) (k : TypeId) (r : Value) (f : FuncId) (Wt : List UInt8 → Hp → Prop) (hW : Wr base k r f Wt) (acc0 : List UInt8) (G : Hp) (hG : Wt acc0 G) (ms : Int) (h1 : -9223372036854775808 ≤ ms) (h2 : ms ≤ 9223372036854775807) (hal : acc0.length ≤ 80000000000000) : FnW Tryz.prog 147 [msV ms, .iface k r] base [G] (Then Wt (acc0 ++ (8 :: be 8 (eM ms))) []) := by
 refine FnW.enter (n := 17) Tryz.func147 rfl rfl fun w0 R0 hbase => ?_
 subst hbase
 show WC _ _ _ _ _ _ _ ([G, R0])
 refine WC.sub (fr' := [(0, _), (1, _)]) ?_ ⟨rfl, rfl, trivial⟩
 refine WC.seq (WC.region ?_)
 refine WL.box rfl rfl rfl fun b0_0 hb0_0 => ?_
 refine WL.q (oq_assign rfl) rfl rfl rfl ?_
 refine WL.nil (WE.then_normal (WC.sub (fr' := [(1, _), (2, _)]) ?_ ⟨rfl, rfl, trivial⟩))
 refine WC.seq (WC.region ?_)
 refine WL.q (oq_loadS [_, _, _, _] agg123 ty123 rfl (.head _) (List.mem_singleton.2 rfl) rfl rfl) rfl rfl rfl ?_
 refine WL.qc (oq_call (vtTimestampValue _ _) call148 rfl) rfl rfl rfl ?_
 refine WL.q (oq_build #[_, _, _] str170 ty170 rfl rfl) rfl rfl rfl ?_
 refine WL.alloc ty170 rfl rfl fun b1_3 hb1_3 => ?_
 refine WL.storeS #[_, _, _] ty170 rfl rfl rfl rfl (Nat.le_of_ble_eq_true rfl) rfl rfl ?_
 refine WL.nil (WE.then_normal (WC.sub (fr' := [(1, _), (2, _), (5, _)]) ?_ ⟨rfl, rfl, rfl, trivial⟩))
 refine WC.seq (WC.region ?_)
 refine WL.q (oq_loadS [_, _, _, _] agg123 ty123 rfl (.tail _ (.head _)) (List.mem_singleton.2 rfl) rfl rfl) rfl rfl rfl ?_
 refine WL.qc (oq_call (epochMilliG ms h1 h2) call149 rfl) rfl rfl rfl ?_
 refine WL.q (oq_assign rfl) rfl rfl rfl ?_
 refine WL.nil (WE.then_normal (WC.sub (fr' := [(1, _), (5, _), (6, _)]) ?_ ⟨rfl, rfl, rfl, trivial⟩))
 refine WC.seq (WC.region ?_)
 refine WL.q (oq_loadS [_, _, _] agg170 ty170 rfl (.head _) (List.mem_singleton.2 rfl) rfl rfl) rfl rfl rfl ?_
 refine WL.q (oq_move rfl) rfl rfl rfl ?_
 refine WL.q (oq_move rfl) rfl rfl rfl ?_
 refine WL.q (oq_makeI conc2 rfl) rfl rfl rfl ?_
 refine WL.f2 ?_
 refine WL.callW1 (encScalar _ k r f Wt hW acc0 G hG 8 (.int .u16 0) (.slice none 0 0) ⟨2, .i64, 8, eM ms⟩ (by simp [Num.ok, Num.kinds]) hal) call122 rfl rfl rfl fun v3_4 Hs3_4 hR3_4 => ?_
 obtain ⟨G2, rfl, rfl, hG2⟩ := hR3_4
 refine WL.to1 ?_
 refine WL.q (oq_assign rfl) rfl rfl rfl ?_
 refine WL.nil (WE.then_normal (WC.sub (fr' := [(4, _)]) ?_ ⟨rfl, trivial⟩))
 refine WC.ret ?_
 refine WE.f1 ?_
 refine WE.lose hb1_3 ?_
 refine WE.f1 ?_
 refine WE.lose hb0_0 ?_
 refine WE.endW1 (.inl rfl) (res1 Tryz.results147 rfl) ?_
 exact ⟨_, rfl, rfl, hG2⟩
theorem vokTimeG {h : HV} (hk : h.kind = 4) (ms : Int) (h1 : -9223372036854775808 ≤ ms) (h2 : ms ≤ 9223372036854775807) (he2 : h.int = eM ms) : VOk h (.iface 123 (msV ms)) [] := by
 refine vok0 invTimestampValue (bad_no (by omega) (by omega)) fun base bb acc G hG hal => ?_
 have he : enc h = 8 :: be 8 (eM ms) := by unfold enc; rw [if_neg (by omega), if_neg (by omega), if_neg (by omega), if_pos hk, he2]
 rw [he]
 exact encTimestampG base _ _ _ _ (bufWr base bb) acc G hG ms h1 h2 (by omega)
theorem valueForG (h : HV) (hi1 : -9223372036854775808 ≤ h.int) (hi2 : h.int ≤ 9223372036854775807) (hl : h.text.length ≤ 4000000000) : FnA Tryz.prog 32 [.agg #[I h.kind, I h.width, I h.int, S h.text]] [] (fun v N => VOk (nrm h) v N) := by
 refine FnA.enter0 (n := 60) Tryz.func32 rfl rfl fun w0 => ?_
 refine WC.sub (fr' := [(0, _)]) ?_ ⟨rfl, trivial⟩
 refine WC.seq (WC.region ?_)
 refine WL.box rfl rfl rfl fun b0_0 hb0_0 => ?_
 refine WL.q (oq_assign rfl) rfl rfl rfl ?_
 refine WL.nil (WE.then_normal (WC.sub (fr' := [(1, _)]) ?_ ⟨rfl, trivial⟩))
 refine WC.seq (WC.seq (WC.region ?_))
 refine WL.q (oq_fieldAddr fld53_0 rfl) rfl rfl rfl ?_
 refine WL.q (oq_load flat3 rfl (.head _) (List.mem_singleton.2 rfl) rfl) rfl rfl rfl ?_
 refine WL.nil (WE.then_normal (WC.sub (fr' := [(1, _), (5, _)]) ?_ ⟨rfl, rfl, trivial⟩))
 refine WC.block (WC.seq (WC.region ?_))
 refine WL.q (oq_eql rfl rfl) rfl rfl rfl ?_
 refine WL.q (oq_assign rfl) rfl rfl rfl ?_
 refine WL.nil (WE.then_normal (WC.sub (fr' := [(1, _), (5, _), (6, _)]) ?_ ⟨rfl, rfl, rfl, trivial⟩))
 refine WC.cond rfl (fun q2 => ?_) (fun q2 => ?_)
 ·
  try simp only [Z1, Z2, Z3, Z4, Z5, Z6, Z7, Z8, Z9, Z0] at q2
  refine WC.seq (WC.seq (WC.region ?_))
  refine WL.q (oq_fieldAddr fld53_1 rfl) rfl rfl rfl ?_
  refine WL.q (oq_load flat3 rfl (.head _) (List.mem_singleton.2 rfl) rfl) rfl rfl rfl ?_
  refine WL.nil (WE.then_normal (WC.sub (fr' := [(1, _), (9, _)]) ?_ ⟨rfl, rfl, trivial⟩))
  refine WC.block (WC.seq (WC.region ?_))
  refine WL.q (oq_eql rfl rfl) rfl rfl rfl ?_
  refine WL.q (oq_assign rfl) rfl rfl rfl ?_
  refine WL.nil (WE.then_normal (WC.sub (fr' := [(1, _), (9, _), (10, _)]) ?_ ⟨rfl, rfl, rfl, trivial⟩))
  refine WC.cond rfl (fun q4 => ?_) (fun q4 => ?_)
  ·
   try simp only [Z1, Z2, Z3, Z4, Z5, Z6, Z7, Z8, Z9, Z0] at q4
   refine WC.seq (WC.region ?_)
   refine WL.q (oq_fieldAddr fld53_2 rfl) rfl rfl rfl ?_
   refine WL.q (oq_load flat2 rfl (.head _) (List.mem_singleton.2 rfl) rfl) rfl rfl rfl ?_
   refine WL.q (oq_convw Tryz.underlying2 Tryz.underlying114 rfl) rfl rfl rfl ?_
   refine WL.q (oq_makeI conc114 rfl) rfl rfl rfl ?_
   refine WL.q (oq_assign rfl) rfl rfl rfl ?_
   refine WL.nil (WE.then_normal (WC.sub (fr' := [(2, _)]) ?_ ⟨rfl, trivial⟩))
   refine WC.ret (WE.block_ret (WE.then_ret (WE.block_ret (WE.then_ret ?_))))
   refine WE.lose hb0_0 ?_
   refine WE.add0 ?_
   refine WE.endA0 (.inl rfl) (res1 Tryz.results32 rfl) ?_ fresh0
   rw [nrm8 q2 q4]; exact vokInt8Value (h := ⟨h.name, 1, 8, IntKind.i8.wrap h.int, h.text⟩) rfl rfl
  ·
   try simp only [Z1, Z2, Z3, Z4, Z5, Z6, Z7, Z8, Z9, Z0] at q4
   refine WC.seq (WC.region ?_)
   refine WL.q (oq_eql rfl rfl) rfl rfl rfl ?_
   refine WL.q (oq_assign rfl) rfl rfl rfl ?_
   refine WL.nil (WE.then_normal (WC.sub (fr' := [(1, _), (9, _), (16, _)]) ?_ ⟨rfl, rfl, rfl, trivial⟩))
   refine WC.cond rfl (fun q6 => ?_) (fun q6 => ?_)
   ·
    try simp only [Z1, Z2, Z3, Z4, Z5, Z6, Z7, Z8, Z9, Z0] at q6
    refine WC.seq (WC.region ?_)
    refine WL.q (oq_fieldAddr fld53_2 rfl) rfl rfl rfl ?_
    refine WL.q (oq_load flat2 rfl (.head _) (List.mem_singleton.2 rfl) rfl) rfl rfl rfl ?_
    refine WL.q (oq_convw Tryz.underlying2 Tryz.underlying117 rfl) rfl rfl rfl ?_
    refine WL.q (oq_makeI conc117 rfl) rfl rfl rfl ?_
    refine WL.q (oq_assign rfl) rfl rfl rfl ?_
    refine WL.nil (WE.then_normal (WC.sub (fr' := [(2, _)]) ?_ ⟨rfl, trivial⟩))
    refine WC.ret (WE.block_ret (WE.then_ret (WE.block_ret (WE.then_ret ?_))))
    refine WE.lose hb0_0 ?_
    refine WE.add0 ?_
    refine WE.endA0 (.inl rfl) (res1 Tryz.results32 rfl) ?_ fresh0
    rw [nrm16 q2 q6]; exact vokInt16Value (h := ⟨h.name, 1, 16, IntKind.i16.wrap h.int, h.text⟩) rfl rfl
   ·
    try simp only [Z1, Z2, Z3, Z4, Z5, Z6, Z7, Z8, Z9, Z0] at q6
    refine WC.seq (WC.region ?_)
    refine WL.q (oq_eql rfl rfl) rfl rfl rfl ?_
    refine WL.q (oq_assign rfl) rfl rfl rfl ?_
    refine WL.nil (WE.then_normal (WC.sub (fr' := [(1, _), (22, _)]) ?_ ⟨rfl, rfl, trivial⟩))
    refine WC.cond rfl (fun q8 => ?_) (fun q8 => ?_)
    ·
     try simp only [Z1, Z2, Z3, Z4, Z5, Z6, Z7, Z8, Z9, Z0] at q8
     refine WC.seq (WC.region ?_)
     refine WL.q (oq_fieldAddr fld53_2 rfl) rfl rfl rfl ?_
     refine WL.q (oq_load flat2 rfl (.head _) (List.mem_singleton.2 rfl) rfl) rfl rfl rfl ?_
     refine WL.q (oq_convw Tryz.underlying2 Tryz.underlying118 rfl) rfl rfl rfl ?_
     refine WL.q (oq_makeI conc118 rfl) rfl rfl rfl ?_
     refine WL.q (oq_assign rfl) rfl rfl rfl ?_
     refine WL.nil (WE.then_normal (WC.sub (fr' := [(2, _)]) ?_ ⟨rfl, trivial⟩))
     refine WC.ret (WE.block_ret (WE.then_ret (WE.block_ret (WE.then_ret ?_))))
     refine WE.lose hb0_0 ?_
     refine WE.add0 ?_
     refine WE.endA0 (.inl rfl) (res1 Tryz.results32 rfl) ?_ fresh0
     rw [nrm32 q2 q8]; exact vokInt32Value (h := ⟨h.name, 1, 32, IntKind.i32.wrap h.int, h.text⟩) rfl rfl
    ·
     try simp only [Z1, Z2, Z3, Z4, Z5, Z6, Z7, Z8, Z9, Z0] at q8
     refine WC.skip (WE.block_normal (WE.then_normal (WC.sub (fr' := [(1, _)]) ?_ ⟨rfl, trivial⟩)))
     refine WC.seq (WC.region ?_)
     refine WL.q (oq_fieldAddr fld53_2 rfl) rfl rfl rfl ?_
     refine WL.q (oq_load flat2 rfl (.head _) (List.mem_singleton.2 rfl) rfl) rfl rfl rfl ?_
     refine WL.q (oq_makeI conc119 rfl) rfl rfl rfl ?_
     refine WL.q (oq_assign rfl) rfl rfl rfl ?_
     refine WL.nil (WE.then_normal (WC.sub (fr' := [(2, _)]) ?_ ⟨rfl, trivial⟩))
     refine WC.ret (WE.block_ret (WE.then_ret ?_))
     refine WE.lose hb0_0 ?_
     refine WE.add0 ?_
     refine WE.endA0 (.inl rfl) (res1 Tryz.results32 rfl) ?_ fresh0
     rw [nrm64 q2 q4 q6 q8]; exact vokInt64Value rfl rfl
 ·
  try simp only [Z1, Z2, Z3, Z4, Z5, Z6, Z7, Z8, Z9, Z0] at q2
  refine WC.seq (WC.region ?_)
  refine WL.q (oq_eql rfl rfl) rfl rfl rfl ?_
  refine WL.q (oq_assign rfl) rfl rfl rfl ?_
  refine WL.nil (WE.then_normal (WC.sub (fr' := [(1, _), (5, _), (31, _)]) ?_ ⟨rfl, rfl, rfl, trivial⟩))
  refine WC.cond rfl (fun q11 => ?_) (fun q11 => ?_)
  ·
   try simp only [Z1, Z2, Z3, Z4, Z5, Z6, Z7, Z8, Z9, Z0] at q11
   refine WC.seq (WC.region ?_)
   refine WL.q (oq_fieldAddr fld53_3 rfl) rfl rfl rfl ?_
   refine WL.q (oq_load flat9 rfl (.head _) (List.mem_singleton.2 rfl) rfl) rfl rfl rfl ?_
   refine WL.toBytes Tryz.underlying9 Tryz.underlying120 Tryz.underlying5 rfl (by unfold maxLen; (first | omega | (simp only [List.length_cons, List.length_nil, List.length_append, List.length_drop, List.length_take]; omega))) rfl rfl fun v12_2 A12_2 hr12_2 hA12_2 => ?_
   refine WL.q (oq_makeI conc120 rfl) rfl rfl rfl ?_
   refine WL.q (oq_assign rfl) rfl rfl rfl ?_
   refine WL.nil (WE.then_normal (WC.sub (fr' := [(2, _)]) ?_ ⟨rfl, trivial⟩))
   refine WC.ret (WE.block_ret (WE.then_ret ?_))
   refine WE.f1 ?_
   refine WE.lose hb0_0 ?_
   refine WE.endA0 (.inl rfl) (res1 Tryz.results32 rfl) ?_ (hA12_2)
   rw [nrmB q11]; exact vokBytes q11 hr12_2 hl
  ·
   try simp only [Z1, Z2, Z3, Z4, Z5, Z6, Z7, Z8, Z9, Z0] at q11
   refine WC.seq (WC.region ?_)
   refine WL.q (oq_eql rfl rfl) rfl rfl rfl ?_
   refine WL.q (oq_assign rfl) rfl rfl rfl ?_
   refine WL.nil (WE.then_normal (WC.sub (fr' := [(1, _), (5, _), (37, _)]) ?_ ⟨rfl, rfl, rfl, trivial⟩))
   refine WC.cond rfl (fun q13 => ?_) (fun q13 => ?_)
   ·
    try simp only [Z1, Z2, Z3, Z4, Z5, Z6, Z7, Z8, Z9, Z0] at q13
    refine WC.seq (WC.region ?_)
    refine WL.q (oq_fieldAddr fld53_3 rfl) rfl rfl rfl ?_
    refine WL.q (oq_load flat9 rfl (.head _) (List.mem_singleton.2 rfl) rfl) rfl rfl rfl ?_
    refine WL.q (oq_makeI conc121 rfl) rfl rfl rfl ?_
    refine WL.q (oq_assign rfl) rfl rfl rfl ?_
    refine WL.nil (WE.then_normal (WC.sub (fr' := [(2, _)]) ?_ ⟨rfl, trivial⟩))
    refine WC.ret (WE.block_ret (WE.then_ret ?_))
    refine WE.lose hb0_0 ?_
    refine WE.add0 ?_
    refine WE.endA0 (.inl rfl) (res1 Tryz.results32 rfl) ?_ fresh0
    rw [nrmS q13]; exact vokString q13 hl
   ·
    try simp only [Z1, Z2, Z3, Z4, Z5, Z6, Z7, Z8, Z9, Z0] at q13
    refine WC.seq (WC.region ?_)
    refine WL.q (oq_eql rfl rfl) rfl rfl rfl ?_
    refine WL.q (oq_assign rfl) rfl rfl rfl ?_
    refine WL.nil (WE.then_normal (WC.sub (fr' := [(1, _), (5, _), (42, _)]) ?_ ⟨rfl, rfl, rfl, trivial⟩))
    refine WC.cond rfl (fun q15 => ?_) (fun q15 => ?_)
    ·
     try simp only [Z1, Z2, Z3, Z4, Z5, Z6, Z7, Z8, Z9, Z0] at q15
     refine WC.seq (WC.region ?_)
     refine WL.q (oq_fieldAddr fld53_2 rfl) rfl rfl rfl ?_
     refine WL.q (oq_load flat2 rfl (.head _) (List.mem_singleton.2 rfl) rfl) rfl rfl rfl ?_
     refine WL.qc (oq_call (unixMilliG h.int hi1 hi2) call39 rfl) rfl rfl rfl ?_
     refine WL.q (oq_makeI conc123 rfl) rfl rfl rfl ?_
     refine WL.q (oq_assign rfl) rfl rfl rfl ?_
     refine WL.nil (WE.then_normal (WC.sub (fr' := [(2, _)]) ?_ ⟨rfl, trivial⟩))
     refine WC.ret (WE.block_ret (WE.then_ret ?_))
     refine WE.lose hb0_0 ?_
     refine WE.add0 ?_
     refine WE.endA0 (.inl rfl) (res1 Tryz.results32 rfl) ?_ fresh0
     rw [nrmT q15]; exact vokTimeG rfl h.int hi1 hi2 rfl
    ·
     try simp only [Z1, Z2, Z3, Z4, Z5, Z6, Z7, Z8, Z9, Z0] at q15
     refine WC.seq (WC.region ?_)
     refine WL.q (oq_eql rfl rfl) rfl rfl rfl ?_
     refine WL.q (oq_assign rfl) rfl rfl rfl ?_
     refine WL.nil (WE.then_normal (WC.sub (fr' := [(1, _), (48, _)]) ?_ ⟨rfl, rfl, trivial⟩))
     refine WC.cond rfl (fun q17 => ?_) (fun q17 => ?_)
     ·
      try simp only [Z1, Z2, Z3, Z4, Z5, Z6, Z7, Z8, Z9, Z0] at q17
      refine WC.seq (WC.region ?_)
      refine WL.alloc ty127 rfl rfl fun ub hub => ?_
      refine WL.asB (List.replicate 16 0) rfl ?_
      refine WL.nil (WE.then_normal (WC.sub (fr' := [(1, _), (3, _)]) ?_ ⟨rfl, rfl, trivial⟩))
      refine WC.seq ?_
      refine WC.tailM (pl := []) (ql := [_, _, _]) (tl := [_]) [] [0, 1, 2] 3 [] (by kernel_rfl) (by kernel_rfl) (by kernel_rfl) (by kernel_rfl) (by kernel_rfl) (by kernel_rfl) (by decide) rfl rfl rfl (by decide) (by repeat (first | with_reducible exact QOk.body | with_reducible apply QOk.then | with_reducible apply QOk.block | exact QOk.body | apply QOk.then | apply QOk.block)) ?_
      refine WM.nil ?_
      refine WY.q (oq_sliceArr Tryz.underlying127 ty5 rfl rfl rfl (by (first | (simp only [List.length_replicate]; omega) | omega)) (by (first | (simp only [List.length_replicate]; omega) | omega))) rfl rfl rfl ?_
      refine WY.q (oq_fieldAddr fld53_3 rfl) rfl rfl rfl ?_
      refine WY.q (oq_load flat9 rfl (.tail _ (.head _)) (List.mem_singleton.2 rfl) rfl) rfl rfl rfl ?_
      refine WY.nil ?_
      refine WL.copyBS Tryz.underlying25 ty5 rfl rfl (by (first | (simp only [List.length_replicate]; omega) | omega)) rfl rfl ?_
      refine WL.nil (WE.then_normal (WC.sub (fr' := [(3, _)]) ?_ ⟨rfl, trivial⟩))
      refine WC.seq ?_
      rw [pad_cp h.text]
      refine WC.region ?_
      refine WL.q (oq_loadArr agg127 ty127 ((pad16_len h.text)) rfl (.head _)) rfl rfl rfl ?_
      refine WL.q (oq_makeI conc127 rfl) rfl rfl rfl ?_
      refine WL.q (oq_assign rfl) rfl rfl rfl ?_
      refine WL.nil (WE.then_normal (WC.sub (fr' := [(2, _)]) ?_ ⟨rfl, trivial⟩))
      refine WC.ret (WE.block_ret (WE.then_ret ?_))
      refine WE.lose hub ?_
      refine WE.lose hb0_0 ?_
      refine WE.add0 ?_
      refine WE.endA0 (.inl rfl) (res1 Tryz.results32 rfl) ?_ fresh0
      rw [nrmU q17]; exact vokUUID rfl (pad16_len h.text)
     ·
      try simp only [Z1, Z2, Z3, Z4, Z5, Z6, Z7, Z8, Z9, Z0] at q17
      refine WC.skip (WE.block_normal (WE.then_normal (WC.sub (fr' := [(1, _)]) ?_ ⟨rfl, trivial⟩)))
      refine WC.seq (WC.region ?_)
      refine WL.q (oq_fieldAddr fld53_2 rfl) rfl rfl rfl ?_
      refine WL.q (oq_load flat2 rfl (.head _) (List.mem_singleton.2 rfl) rfl) rfl rfl rfl ?_
      refine WL.q (oq_neq rfl rfl) rfl rfl rfl ?_
      refine WL.q (oq_makeI conc128 rfl) rfl rfl rfl ?_
      refine WL.q (oq_assign rfl) rfl rfl rfl ?_
      refine WL.nil (WE.then_normal (WC.sub (fr' := [(2, _)]) ?_ ⟨rfl, trivial⟩))
      refine WC.ret ?_
      refine WE.lose hb0_0 ?_
      refine WE.add0 ?_
      refine WE.endA0 (.inl rfl) (res1 Tryz.results32 rfl) ?_ fresh0
      rw [nrm0 q2 q11 q13 q15 q17]; exact vokBool rfl
end FA
end Go.Proofs.YtpjeiimlglgklaaGreatDoor
/- Any message: that it is encoded, or not. -/
namespace Go.Proofs.YtpjeiimlglgklaaGreatDoor
open Go Go.RowKit V EA EB EC ED EE EF EG EH EI EJ EK EL EM EN FA
set_option linter.unusedSimpArgs false
set_option linter.unusedVariables false
set_option maxRecDepth 10000
namespace FB
theorem call30 : Callable Tryz.prog 30 := ⟨_, Tryz.func30, rfl, by kernel_rfl⟩
theorem call31 : Callable Tryz.prog 31 := ⟨_, Tryz.func31, rfl, by kernel_rfl⟩
theorem call32 : Callable Tryz.prog 32 := ⟨_, Tryz.func32, rfl, by kernel_rfl⟩
theorem call37 : Callable Tryz.prog 37 := ⟨_, Tryz.func37, rfl, by kernel_rfl⟩
theorem flat9 : Flat Tryz.prog 9 := ⟨_, Tryz.underlying9, by simp⟩
theorem flat75 : Flat Tryz.prog 75 := ⟨_, Tryz.underlying75, by simp⟩
theorem ty9 : Ty Tryz.prog 9 (S []) 1 16 := ty_of (by kernel_rfl)
theorem ty20 : Ty Tryz.prog 20 .nilIface 1 16 := ty_of (by kernel_rfl)
theorem ty53 : Ty Tryz.prog 53 (.agg #[(.int .i64 0), (.int .i64 0), (.int .i64 0), (S [])]) 4 40 := ty_of (by kernel_rfl)
theorem ty55 : Ty Tryz.prog 55 (.agg #[(S []), (.int .i64 0), (.int .i64 0), (.int .i64 0), (S [])]) 5 56 := ty_of (by kernel_rfl)
theorem ty67 : Ty Tryz.prog 67 (.agg #[(S []), (.int .i64 0), (.int .i64 0), .nilIface]) 4 48 := ty_of (by kernel_rfl)
theorem ty75 : Ty Tryz.prog 75 (.int .u32 0) 1 4 := ty_of (by kernel_rfl)
theorem ty90 : Ty Tryz.prog 90 (.agg #[(S []), .nilIface]) 2 32 := ty_of (by kernel_rfl)
theorem ty108 : Ty Tryz.prog 108 (.agg #[(.int .u32 0), (.int .u32 0), (.int .u32 0)]) 3 12 := ty_of (by kernel_rfl)
theorem conc67 : Conc Tryz.prog 67 := ⟨_, Tryz.underlying67, by simp⟩
theorem conc75 : Conc Tryz.prog 75 := ⟨_, Tryz.underlying75, by simp⟩
theorem agg53 : Agg Tryz.prog 53 := agg_of Tryz.underlying53
theorem agg55 : Agg Tryz.prog 55 := agg_of Tryz.underlying55
theorem agg108 : Agg Tryz.prog 108 := agg_of Tryz.underlying108
theorem str67 : Str Tryz.prog 67 #[(0, 1), (1, 1), (2, 1), (3, 1)] := ⟨_, Tryz.underlying67, fun w => by kernel_rfl⟩
theorem str90 : Str Tryz.prog 90 #[(0, 1), (1, 1)] := ⟨_, Tryz.underlying90, fun w => by kernel_rfl⟩
theorem str108 : Str Tryz.prog 108 #[(0, 1), (1, 1), (2, 1)] := ⟨_, Tryz.underlying108, fun w => by kernel_rfl⟩
theorem fld55_0 : Fld Tryz.prog 55 0 0 9 := fld_of Tryz.underlying55 rfl rfl rfl ty9 (by decide)
theorem fld55_1 : Fld Tryz.prog 55 1 1 53 := fld_of Tryz.underlying55 rfl rfl rfl ty53 (by decide)
theorem fld108_0 : Fld Tryz.prog 108 0 0 75 := fld_of Tryz.underlying108 rfl rfl rfl ty75 (by decide)
theorem fld108_1 : Fld Tryz.prog 108 1 1 75 := fld_of Tryz.underlying108 rfl rfl rfl ty75 (by decide)
theorem fld108_2 : Fld Tryz.prog 108 2 2 75 := fld_of Tryz.underlying108 rfl rfl rfl ty75 (by decide)
theorem getD_map {l : List HV} {i : Nat} (hi : i < l.length) : (l.map nrm).getD i HV0 = nrm (l.getD i HV0) := by
 simp [List.getD_eq_getElem?_getD, List.getElem?_eq_getElem hi]
theorem Pair.snocG {l : List HV} {i : Nat} {ps : List PV} {Z N : Hp} {k : TypeId} {r : Value} (h : Pair ((l.map nrm).take i) ps Z) (hi : i < l.length) (hv : VOk (nrm (l.getD i HV0)) (.iface k r) N) : Pair ((l.map nrm).take (i + 1)) (ps ++ [⟨(l.getD i HV0).name, k, r⟩]) (N ++ Z) := by
 have h1 := Pair.snoc (l := l.map nrm) (k := k) (r := r) h (by simpa using hi) (by rw [getD_map hi]; exact hv)
 rwa [getD_map hi, nrm_name] at h1
theorem nrm_okE {l : List HV} (h : ∀ i, i < l.length → (l.getD i HV0).text.length ≤ 4000000000) : okE (l.map nrm) := fun i hi => by
 rw [List.length_map] at hi
 rw [getD_map hi]
 exact nrm_okW (h i hi)
def NE (w : Value) : Prop := w = .nilIface ∨ ∃ k u, w = .iface k u
theorem headersForG (v : Value) (L : Hp) (l : List HV) (hr : RdS 5 v L l.length (recsV HV.row l)) (hint : ∀ i, i < l.length → -9223372036854775808 ≤ (l.getD i HV0).int ∧ (l.getD i HV0).int ≤ 9223372036854775807) (htx : ∀ i, i < l.length → (l.getD i HV0).text.length ≤ 4000000000) (hn : l.length ≤ 2147483647) : FnA Tryz.prog 15 [v] L (HsOk (l.map nrm)) := by
 refine FnA.enter (n := 23) Tryz.func15 rfl rfl fun w0 => ?_
 refine WC.sub (fr' := [(0, _)]) ?_ ⟨rfl, trivial⟩
 refine WC.seq (WC.region ?_)
 refine WL.q (oq_assign rfl) rfl rfl rfl ?_
 refine WL.nil (WE.then_normal (WC.sub (fr' := [(0, _)]) ?_ ⟨rfl, trivial⟩))
 refine WC.seq ?_
 refine WC.add0 ?_
 refine WC.add0 ?_
 refine WC.region ?_
 refine WL.q (oq_assign rfl) rfl rfl rfl ?_
 refine WL.nil (WE.then_normal (WC.sub (fr' := [(0, _), (3, _)]) ?_ ⟨rfl, rfl, trivial⟩))
 refine WC.seq (WC.seq (WC.region ?_))
 refine WL.q (oq_move rfl) rfl rfl rfl ?_
 refine WL.q (oq_len_rd hr Tryz.underlying28 rfl) rfl rfl rfl ?_
 refine WL.q (oq_move rfl) rfl rfl rfl ?_
 refine WL.nil (WE.then_normal (WC.sub (fr' := [(3, _), (6, _), (7, _), (8, _)]) ?_ ⟨rfl, rfl, rfl, rfl, trivial⟩))
 refine WC.block ?_
 refine WC.f2 ?_
 refine WC.f1 ?_
 refine WC.f2 ?_
 refine WC.loop (ι := Nat × Value × Hp × Hp × (List PV)) (fun i_ => (fun (i : Nat) (u : Value) (B : Hp) (Z : Hp) (ps : List PV) => [(3, u), (6, v), (7, I (l.length : Int)), (8, I (i : Int))]) i_.1 i_.2.1 i_.2.2.1 i_.2.2.2.1 i_.2.2.2.2) (fun i_ => (fun (i : Nat) (u : Value) (B : Hp) (Z : Hp) (ps : List PV) => [B, Z, L]) i_.1 i_.2.1 i_.2.2.1 i_.2.2.2.1 i_.2.2.2.2) (fun i_ => (fun (i : Nat) (u : Value) (B : Hp) (Z : Hp) (ps : List PV) => i ≤ l.length ∧ (∀ b o, (b, o) ∈ Z → w0.heap.size ≤ b) ∧ OwS w0.heap.size 90 2 u B ps.length (recsV PV.row ps) ∧ Pair ((l.map nrm).take i) ps Z) i_.1 i_.2.1 i_.2.2.1 i_.2.2.2.1 i_.2.2.2.2) (fun i_ => (fun (i : Nat) (u : Value) (B : Hp) (Z : Hp) (ps : List PV) => l.length - i) i_.1 i_.2.1 i_.2.2.1 i_.2.2.2.1 i_.2.2.2.2) ((0, _, _, [], [])) ?_ ⟨rfl, rfl, rfl, rfl, trivial⟩ (List.Perm.refl _) ?_
 ·try dsimp only
  exact ⟨by omega, (fun _ _ h => nomatch h), OwS.nil _ _ _, by simpa using Pair.nil⟩
 ·rintro ⟨i, u, B, Z, ps⟩ hp
  try dsimp only at hp
  obtain ⟨hi, hZ, ho, hp⟩ := hp
  show WC _ _ _ _ _ _ ([(3, u), (6, v), (7, I (l.length : Int)), (8, I (i : Int))]) ([B, Z, L])
  refine WC.seq (WC.region ?_)
  refine WL.q (oq_lss rfl rfl) rfl rfl rfl ?_
  refine WL.nil (WE.then_normal (WC.sub (fr' := [(3, _), (6, _), (7, _), (8, _), (9, _)]) ?_ ⟨rfl, rfl, rfl, rfl, rfl, trivial⟩))
  refine WC.seq ?_
  refine WC.cond rfl (fun q3 => ?_) (fun q3 => ?_)
  ·
   try simp only [Z1, Z2, Z3, Z4, Z5, Z6, Z7, Z8, Z9, Z0] at q3
   refine WC.skip (WE.then_normal (WC.sub (fr' := [(3, _), (6, _), (7, _), (8, _)]) ?_ ⟨rfl, rfl, rfl, rfl, trivial⟩))
   refine WC.seq (WC.block (WC.seq ?_))
   have hlt : i < l.length := by omega
   have hpl : ps.length = i := by rw [hp.1, List.length_take, List.length_map]; omega
   refine WC.region ?_
   refine WL.q (oq_ixaddr hr Tryz.underlying28 ty55 rfl rfl (by (first | omega | (simp only [List.length_cons, List.length_nil, List.length_append, List.length_drop, List.length_take]; omega)))) rfl rfl rfl ?_
   refine WL.q (oq_loadEl (f := HV.row) HV0 [_, _, _, _, _] (fun _ => rfl) agg55 ty55 hr (.tail _ (.tail _ (.head _))) rfl (by (first | omega | (simp only [List.length_cons, List.length_nil, List.length_append, List.length_drop, List.length_take]; omega))) (by first | exact Int.toNat_natCast _ | exact rfl) rfl) rfl rfl rfl ?_
   refine WL.alloc ty55 rfl rfl fun o5 ho5 => ?_
   refine WL.storeS #[_, _, _, _, _] ty55 rfl rfl rfl rfl (Nat.le_of_ble_eq_true rfl) rfl rfl ?_
   refine WL.nil (WE.then_normal (WC.sub (fr' := [(3, _), (5, _), (6, _), (7, _), (8, _)]) ?_ ⟨rfl, rfl, rfl, rfl, rfl, trivial⟩))
   refine WC.gate 7 ([(o5, .cells #[S (l.getD i HV0).name, I (l.getD i HV0).kind, I (l.getD i HV0).width, I (l.getD i HV0).int, S (l.getD i HV0).text] 55 (0, 0))]) (by kernel_rfl) ?_
   refine WG.p 0 rfl (.inr (.head _)) (fun w0 => oq_move rfl) rfl rfl rfl ?_
   refine WG.q 1 [6, 2] rfl (.head _) (fun w0 => oq_fieldAddr fld55_0 rfl) rfl rfl rfl ?_
   refine WG.q 2 [6] rfl (.head _) (fun w0 => oq_load flat9 rfl (.head _) (List.mem_singleton.2 rfl) rfl) rfl rfl rfl ?_
   refine WG.q 3 [6, 5, 4] rfl (.head _) (fun w0 => oq_fieldAddr fld55_1 rfl) rfl rfl rfl ?_
   refine WG.q 4 [6, 5] rfl (.head _) (fun w0 => oq_loadS [_, _, _, _] agg53 ty53 rfl (.head _) (List.mem_singleton.2 rfl) rfl rfl) rfl rfl rfl ?_
   refine WG.step (i := 5) (by kernel_rfl) rfl ?_
   refine WL.callA0 (valueForG (l.getD i HV0) (hint i hlt).1 (hint i hlt).2 (htx i hlt)) call32 rfl rfl rfl fun v5_5 N5_5 hR5_5 hN5_5 => ?_
   obtain ⟨k5, r5, f5, rfl, hi5, hf5⟩ := hR5_5
   have hvo : VOk (nrm (l.getD i HV0)) (.iface k5 r5) N5_5 := ⟨k5, r5, f5, rfl, hi5, hf5⟩
   refine WL.nil ?_
   refine WE.toG (.tail _ (.head _)) ?_
   refine WG.q 6 [] rfl (.tail _ (.head _)) (fun w0 => oq_build #[_, _] str90 ty90 rfl rfl) rfl rfl rfl ?_
   refine WG.step (i := 7) (by kernel_rfl) rfl ?_
   refine WL.buildSS (#[S (l.getD i HV0).name, .iface k5 r5]) Tryz.underlying47 ty90 rfl (by decide) (by decide) (by kernel_rfl) (by kernel_rfl) rfl rfl fun v5_7 A5_7 ho5_7 hne5_7 => ?_
   refine WL.nil ?_
   refine WE.toG0 (by kernel_rfl) ?_
   refine WG.step (i := 8) (by kernel_rfl) rfl ?_
   refine WL.f3 ?_
   refine WL.appendS ho Tryz.underlying47 ty90 rfl (by decide) rfl rfl ho5_7.rd (.head _) (onePV _ _ _) (by unfold maxLen; omega) (by omega) rfl rfl fun v5b A5b ho5b hne5b => ?_
   refine WL.nil ?_
   refine WE.toG0 (by kernel_rfl) ?_
   refine WG.p 9 rfl (.inl (by kernel_rfl)) (fun w0 => oq_assign rfl) rfl rfl rfl ?_
   refine WG.done (by kernel_rfl) ?_
   refine WE.block_normal (WE.then_normal (WC.sub (fr' := [(3, _), (6, _), (7, _), (8, _)]) ?_ ⟨rfl, rfl, rfl, rfl, trivial⟩))
   refine WC.f4 ?_
   refine WC.f3 ?_
   refine WC.cat ?_
   refine WC.region ?_
   refine WL.q (oq_add rfl rfl (by rw [i64_lo, i64_hi]; (first | omega | (simp only [List.length_cons, List.length_nil, List.length_append, List.length_drop, List.length_take]; omega)))) rfl rfl rfl ?_
   refine WL.q (oq_move rfl) rfl rfl rfl ?_
   refine WL.nil ?_
   refine WE.f2 ?_
   refine WE.forget ho5_7.fresh ?_
   refine WE.f2 ?_
   refine WE.lose ho5 ?_
   refine WE.f2 ?_
   refine WE.f1 ?_
   refine WE.f2 ?_
   refine WE.again (i + 1, _, _, _, ps ++ [⟨(l.getD i HV0).name, k5, r5⟩]) ?_ ?_ ⟨rfl, rfl, rfl, rfl, trivial⟩ (List.Perm.refl _)
   ·try dsimp only
    exact ⟨by omega, fresh_cat hN5_5 hZ, by have h2 := ho5b; rw [recsPV_snoc ps ⟨_, _, _⟩] at h2; simpa using h2, Pair.snocG hp hlt hvo⟩
   ·(try dsimp only); omega
  ·
   try simp only [Z1, Z2, Z3, Z4, Z5, Z6, Z7, Z8, Z9, Z0] at q3
   refine WC.exit (WE.then_exit (WE.then_exit (WE.block_same (WE.then_normal (WC.sub (fr' := [(3, _)]) ?_ ⟨rfl, trivial⟩)))))
   refine WC.seq ?_
   obtain rfl : i = l.length := by omega
   rw [List.take_of_length_le (by simp)] at hp
   refine WC.region ?_
   refine WL.q (oq_move rfl) rfl rfl rfl ?_
   refine WL.q (oq_assign rfl) rfl rfl rfl ?_
   refine WL.nil (WE.then_normal (WC.sub (fr' := [(2, _)]) ?_ ⟨rfl, trivial⟩))
   refine WC.ret ?_
   refine WE.cat ?_
   refine WE.endA (.inl rfl) (res1 Tryz.results15 rfl) ?_ (fresh_cat (ho.fresh) (hZ))
   exact ⟨ps, _, _, rfl, ho.rd, hp⟩
theorem validLensW (n : Int) (hn : 0 ≤ n ∧ n < 4294967296) (a b : Value) : FnA Tryz.prog 37 [.agg #[.int .u32 n, a, b]] [] (fun v N => NE v) := by
 refine FnA.enter0 (n := 11) Tryz.func37 rfl rfl fun w0 => ?_
 refine WC.sub (fr' := [(0, _)]) ?_ ⟨rfl, trivial⟩
 refine WC.seq (WC.region ?_)
 refine WL.box rfl rfl rfl fun b0_0 hb0_0 => ?_
 refine WL.q (oq_assign rfl) rfl rfl rfl ?_
 refine WL.nil (WE.then_normal (WC.sub (fr' := [(1, _)]) ?_ ⟨rfl, trivial⟩))
 refine WC.seq (WC.seq (WC.region ?_))
 refine WL.q (oq_fieldAddr fld108_0 rfl) rfl rfl rfl ?_
 refine WL.q (oq_load flat75 rfl (.head _) (List.mem_singleton.2 rfl) rfl) rfl rfl rfl ?_
 refine WL.q (oq_eql rfl rfl) rfl rfl rfl ?_
 refine WL.nil (WE.then_normal (WC.sub (fr' := [(1, _), (5, _)]) ?_ ⟨rfl, rfl, trivial⟩))
 refine WC.cond rfl (fun q1 => ?_) (fun q1 => ?_)
 ·
  try simp only [Z1, Z2, Z3, Z4, Z5, Z6, Z7, Z8, Z9, Z0] at q1
  refine WC.seq (WC.region ?_)
  refine WL.q (oq_fieldAddr fld108_0 rfl) rfl rfl rfl ?_
  refine WL.q (oq_load flat75 rfl (.head _) (List.mem_singleton.2 rfl) rfl) rfl rfl rfl ?_
  refine WL.q (oq_conv Tryz.underlying75 Tryz.underlying3 rfl (by rw [i64_lo, i64_hi]; (first | omega | (simp only [List.length_cons, List.length_nil, List.length_append, List.length_drop, List.length_take]; omega)))) rfl rfl rfl ?_
  refine WL.q (oq_build #[_, _, _, _] str67 ty67 rfl rfl) rfl rfl rfl ?_
  refine WL.q (oq_makeI conc67 rfl) rfl rfl rfl ?_
  refine WL.q (oq_assign rfl) rfl rfl rfl ?_
  refine WL.nil (WE.then_normal (WC.sub (fr' := [(2, _)]) ?_ ⟨rfl, trivial⟩))
  refine WC.ret (WE.then_ret ?_)
  refine WE.lose hb0_0 ?_
  refine WE.add0 ?_
  refine WE.endA0 (.inl rfl) (res1 Tryz.results37 rfl) ?_ fresh0
  first | exact .inl rfl | exact .inr ⟨_, _, rfl⟩
 ·
  try simp only [Z1, Z2, Z3, Z4, Z5, Z6, Z7, Z8, Z9, Z0] at q1
  refine WC.skip (WE.then_normal (WC.sub (fr' := []) ?_ trivial))
  refine WC.seq (WC.region ?_)
  refine WL.q (oq_assign rfl) rfl rfl rfl ?_
  refine WL.nil (WE.then_normal (WC.sub (fr' := [(2, _)]) ?_ ⟨rfl, trivial⟩))
  refine WC.ret ?_
  refine WE.lose hb0_0 ?_
  refine WE.add0 ?_
  refine WE.endA0 (.inl rfl) (res1 Tryz.results37 rfl) ?_ fresh0
  first | exact .inl rfl | exact .inr ⟨_, _, rfl⟩
theorem encPreludeW (base hb : Nat) (k : TypeId) (r : Value) (f : FuncId) (Wt : List UInt8 → Hp → Prop) (hW : Wr base k r f Wt) (acc0 : List UInt8) (G : Hp) (hG : Wt acc0 G) (hS : ∀ acc G, Wt acc G → FnR Tryz.prog 30 [Pt hb 0] G (U32 (crc acc))) (a b : Int) (hal : acc0.length ≤ 200000) : FnW Tryz.prog 28 [.iface k r, Pt hb 0, .int .u32 a, .int .u32 b] base [G] (fun w Hs => ∃ G2 acc2, Hs = [G2] ∧ Wt acc2 G2 ∧ acc2.length ≤ acc0.length + 12 ∧ NE w) := by
 refine FnW.enter (n := 47) Tryz.func28 rfl rfl fun w0 R0 hbase => ?_
 subst hbase
 show WC _ _ _ _ _ _ _ ([G, R0])
 refine WC.sub (fr' := [(0, _), (1, _), (2, _), (3, _)]) ?_ ⟨rfl, rfl, rfl, rfl, trivial⟩
 refine WC.seq (WC.region ?_)
 refine WL.q (oq_assign rfl) rfl rfl rfl ?_
 refine WL.nil (WE.then_normal (WC.sub (fr' := [(0, _), (1, _), (2, _), (3, _)]) ?_ ⟨rfl, rfl, rfl, rfl, trivial⟩))
 refine WC.seq (WC.region ?_)
 refine WL.q (oq_move rfl) rfl rfl rfl ?_
 refine WL.q (oq_addw rfl rfl) rfl rfl rfl ?_
 refine WL.q (oq_move rfl) rfl rfl rfl ?_
 refine WL.q (oq_addw rfl rfl) rfl rfl rfl ?_
 refine WL.q (oq_move rfl) rfl rfl rfl ?_
 refine WL.q (oq_build #[_, _, _] str108 ty108 rfl rfl) rfl rfl rfl ?_
 refine WL.alloc ty108 rfl rfl fun pb hpb => ?_
 refine WL.storeS #[_, _, _] ty108 rfl rfl rfl rfl (Nat.le_of_ble_eq_true rfl) rfl rfl ?_
 refine WL.nil (WE.then_normal (WC.sub (fr' := [(0, _), (1, _), (9, _)]) ?_ ⟨rfl, rfl, rfl, trivial⟩))
 refine WC.seq (WC.seq (WC.region ?_))
 refine WL.q (oq_loadS [_, _, _] agg108 ty108 rfl (.head _) (List.mem_singleton.2 rfl) rfl rfl) rfl rfl rfl ?_
 refine WL.callA0 (validLensW (IntKind.u32.wrap (IntKind.u32.wrap (16 + a) + b)) (by have := wrap_bnd' .u32 (IntKind.u32.wrap (16 + a) + b); rw [u32_lo, u32_hi] at this; omega) _ _) call37 rfl rfl rfl fun v2_1 N2_1 hR2_1 hN2_1 => ?_
 have hne := hR2_1
 refine WL.q (oq_assign rfl) rfl rfl rfl ?_
 refine WL.nil (WE.then_normal (WC.sub (fr' := [(0, _), (1, _), (9, _), (10, _)]) ?_ ⟨rfl, rfl, rfl, rfl, trivial⟩))
 refine WC.seq (WC.region ?_)
 refine WL.q (oq_move rfl) rfl rfl rfl ?_
 refine WL.q (oq_ineq Tryz.underlying41 rfl ((by rcases hne with h | h; exact .inl h; exact .inr h))) rfl rfl rfl ?_
 refine WL.nil (WE.then_normal (WC.sub (fr' := [(0, _), (1, _), (9, _), (10, _), (21, _)]) ?_ ⟨rfl, rfl, rfl, rfl, rfl, trivial⟩))
 refine WC.cond rfl (fun q3 => ?_) (fun q3 => ?_)
 ·
  try simp only [Z1, Z2, Z3, Z4, Z5, Z6, Z7, Z8, Z9, Z0] at q3
  refine WC.seq (WC.region ?_)
  refine WL.q (oq_move rfl) rfl rfl rfl ?_
  refine WL.q (oq_assign rfl) rfl rfl rfl ?_
  refine WL.nil (WE.then_normal (WC.sub (fr' := [(8, _)]) ?_ ⟨rfl, trivial⟩))
  refine WC.ret (WE.then_ret ?_)
  refine WE.forget hN2_1 ?_
  refine WE.lose hpb ?_
  refine WE.endW1 (.inl rfl) (res1 Tryz.results28 rfl) ?_
  first | exact ⟨_, _, rfl, hG, by omega, hne⟩ | exact ⟨_, _, rfl, hG3, by simp only [List.length_append, be_len]; omega, .inl rfl⟩
 ·
  try simp only [Z1, Z2, Z3, Z4, Z5, Z6, Z7, Z8, Z9, Z0] at q3
  refine WC.skip (WE.then_normal (WC.sub (fr' := [(0, _), (1, _), (9, _)]) ?_ ⟨rfl, rfl, rfl, trivial⟩))
  refine WC.seq (WC.region ?_)
  refine WL.q (oq_move rfl) rfl rfl rfl ?_
  refine WL.q (oq_fieldAddr fld108_0 rfl) rfl rfl rfl ?_
  refine WL.q (oq_load flat75 rfl (.tail _ (.head _)) (List.mem_singleton.2 rfl) rfl) rfl rfl rfl ?_
  refine WL.q (oq_makeI conc75 rfl) rfl rfl rfl ?_
  refine WL.q (oq_fieldAddr fld108_1 rfl) rfl rfl rfl ?_
  refine WL.q (oq_load flat75 rfl (.tail _ (.head _)) (List.mem_singleton.2 rfl) rfl) rfl rfl rfl ?_
  refine WL.q (oq_makeI conc75 rfl) rfl rfl rfl ?_
  refine WL.buildL Tryz.underlying111 ty20 rfl rfl (by decide) (by decide) rfl rfl rfl fun v5 A5 ho5 hne5 => ?_
  refine WL.f3 ?_
  refine WL.f1 ?_
  refine WL.callW2 (zzWrite _ k r f Wt hW acc0 G hG v5 A5 [⟨75, .u32, 4, IntKind.u32.wrap (IntKind.u32.wrap (16 + a) + b)⟩, ⟨75, .u32, 4, a⟩] ho5.rd (ok2 (okU _) (okU _)) (by simp) (by simp; omega)) call31 rfl rfl rfl fun v5_8 Hs5_8 hR5_8 => ?_
  obtain ⟨G2, rfl, rfl, hG2⟩ := hR5_8
  rw [bytesN_2] at hG2
  refine WL.to2 ?_
  refine WL.q (oq_assign rfl) rfl rfl rfl ?_
  refine WL.nil (WE.then_normal (WC.sub (fr' := [(0, _), (1, _), (9, _), (11, _)]) ?_ ⟨rfl, rfl, rfl, rfl, trivial⟩))
  refine WC.seq (WC.seq (WC.region ?_))
  refine WL.q (oq_move rfl) rfl rfl rfl ?_
  refine WL.q (oq_ineq Tryz.underlying41 rfl (.inl rfl)) rfl rfl rfl ?_
  refine WL.nil (WE.then_normal (WC.sub (fr' := [(0, _), (1, _), (9, _), (11, _), (33, _)]) ?_ ⟨rfl, rfl, rfl, rfl, rfl, trivial⟩))
  refine WC.cond rfl (fun q6 => ?_) (fun q6 => ?_)
  ·
   try simp only [Z1, Z2, Z3, Z4, Z5, Z6, Z7, Z8, Z9, Z0] at q6
   first | contradiction | (exfalso; omega) | (exfalso; simp_all; done)
  ·
   try simp only [Z1, Z2, Z3, Z4, Z5, Z6, Z7, Z8, Z9, Z0] at q6
   refine WC.skip (WE.then_normal (WC.sub (fr' := [(0, _), (1, _), (9, _)]) ?_ ⟨rfl, rfl, rfl, trivial⟩))
   refine WC.seq (WC.region ?_)
   refine WL.q (oq_move rfl) rfl rfl rfl ?_
   refine WL.qc (oq_callRm (hS _ G2 hG2) (.tail _ (.head _)) call30 rfl) rfl rfl rfl ?_
   refine WL.q (oq_fieldAddr fld108_2 rfl) rfl rfl rfl ?_
   refine WL.f3 ?_
   refine WL.store1 #[_, _, _] ty75 rfl rfl (by first | rfl | exact OwS.one one_) (Nat.lt_of_lt_of_le (Nat.lt_succ_self _) (Nat.le_of_ble_eq_true rfl)) rfl rfl ?_
   refine WL.nil (WE.then_normal (WC.sub (fr' := [(0, _), (9, _)]) ?_ ⟨rfl, rfl, trivial⟩))
   refine WC.seq (WC.region ?_)
   refine WL.q (oq_move rfl) rfl rfl rfl ?_
   refine WL.q (oq_fieldAddr fld108_2 rfl) rfl rfl rfl ?_
   refine WL.q (oq_load flat75 rfl (.head _) (List.mem_singleton.2 rfl) rfl) rfl rfl rfl ?_
   refine WL.q (oq_makeI conc75 rfl) rfl rfl rfl ?_
   refine WL.buildL Tryz.underlying111 ty20 rfl rfl (by decide) (by decide) rfl rfl rfl fun v9 A9 ho9 hne9 => ?_
   refine WL.f3 ?_
   refine WL.f1 ?_
   refine WL.callW2 (zzWrite _ k r f Wt hW _ G2 hG2 v9 A9 [⟨75, .u32, 4, ((crc (acc0 ++ (be 4 (IntKind.u32.wrap (IntKind.u32.wrap (16 + a) + b)) ++ be 4 a))).toNat : Int)⟩] ho9.rd (ok1 (okU _)) (by simp) (by rw [List.length_append, List.length_append, be_len, be_len]; simp; omega)) call31 rfl rfl rfl fun v9_5 Hs9_5 hR9_5 => ?_
   obtain ⟨G3, rfl, rfl, hG3⟩ := hR9_5
   rw [bytesN_1] at hG3
   refine WL.to2 ?_
   refine WL.q (oq_assign rfl) rfl rfl rfl ?_
   refine WL.nil (WE.then_normal (WC.sub (fr' := [(11, _)]) ?_ ⟨rfl, trivial⟩))
   refine WC.seq (WC.seq (WC.region ?_))
   refine WL.q (oq_move rfl) rfl rfl rfl ?_
   refine WL.q (oq_ineq Tryz.underlying41 rfl (.inl rfl)) rfl rfl rfl ?_
   refine WL.nil (WE.then_normal (WC.sub (fr' := [(11, _), (45, _)]) ?_ ⟨rfl, rfl, trivial⟩))
   refine WC.cond rfl (fun q10 => ?_) (fun q10 => ?_)
   ·
    try simp only [Z1, Z2, Z3, Z4, Z5, Z6, Z7, Z8, Z9, Z0] at q10
    first | contradiction | (exfalso; omega) | (exfalso; simp_all; done)
   ·
    try simp only [Z1, Z2, Z3, Z4, Z5, Z6, Z7, Z8, Z9, Z0] at q10
    refine WC.skip (WE.then_normal (WC.sub (fr' := []) ?_ trivial))
    refine WC.seq (WC.region ?_)
    refine WL.q (oq_assign rfl) rfl rfl rfl ?_
    refine WL.nil (WE.then_normal (WC.sub (fr' := [(8, _)]) ?_ ⟨rfl, trivial⟩))
    refine WC.ret ?_
    refine WE.forget ho9.fresh ?_
    refine WE.f1 ?_
    refine WE.lose hpb ?_
    refine WE.f1 ?_
    refine WE.forget ho5.fresh ?_
    refine WE.f1 ?_
    refine WE.forget hN2_1 ?_
    refine WE.endW1 (.inl rfl) (res1 Tryz.results28 rfl) ?_
    first | exact ⟨_, _, rfl, hG, by omega, hne⟩ | exact ⟨_, _, rfl, hG3, by simp only [List.length_append, be_len]; omega, .inl rfl⟩
end FB
end Go.Proofs.YtpjeiimlglgklaaGreatDoor
