/- Fine headers. -/
import Derived.Test.YtodlhaghdplclaaGreatDoorQ4
import Derived.Test.YtodlhaghdplclaaGreatDoorQ2
import Derived.LaidLaws
import Derived.LaidHandle
import Derived.MakeChecks
import Derived.Test.YtodlhaghdplclaaGreatDoorRows
namespace Go.Proofs.YtodlhaghdplclaaGreatDoor
open Go Go.RowKit V EA EB EC ED EE EF EG EH EI EJ EK EL EM EN EO EP EQ
set_option linter.unusedSimpArgs false
set_option linter.unusedVariables false
set_option maxRecDepth 10000
namespace ER
theorem flat2 : Flat Tryz.prog 2 := ⟨_, Tryz.underlying2, by simp⟩
theorem flat3 : Flat Tryz.prog 3 := ⟨_, Tryz.underlying3, by simp⟩
theorem flat9 : Flat Tryz.prog 9 := ⟨_, Tryz.underlying9, by simp⟩
theorem ty2 : Ty Tryz.prog 2 (.int .i64 0) 1 8 := ty_of (by kernel_rfl)
theorem ty3 : Ty Tryz.prog 3 (.int .i64 0) 1 8 := ty_of (by kernel_rfl)
theorem ty9 : Ty Tryz.prog 9 (S []) 1 16 := ty_of (by kernel_rfl)
theorem ty24 : Ty Tryz.prog 24 (.agg #[(.int .i64 0), (.int .i64 0), (.int .i64 0), (S [])]) 4 40 := ty_of (by kernel_rfl)
theorem ty32 : Ty Tryz.prog 32 (.agg #[(S []), (.int .i64 0), (.int .i64 0), (.int .i64 0), (S [])]) 5 56 := ty_of (by kernel_rfl)
theorem agg24 : Agg Tryz.prog 24 := agg_of Tryz.underlying24
theorem fld24_0 : Fld Tryz.prog 24 0 0 3 := fld_of Tryz.underlying24 rfl rfl rfl ty3 (by decide)
theorem fld24_1 : Fld Tryz.prog 24 1 1 3 := fld_of Tryz.underlying24 rfl rfl rfl ty3 (by decide)
theorem fld24_2 : Fld Tryz.prog 24 2 2 2 := fld_of Tryz.underlying24 rfl rfl rfl ty2 (by decide)
theorem fld24_3 : Fld Tryz.prog 24 3 3 9 := fld_of Tryz.underlying24 rfl rfl rfl ty9 (by decide)
theorem fld32_1 : Fld Tryz.prog 32 1 1 24 := fld_of Tryz.underlying32 rfl rfl rfl ty24 (by decide)
instance (h : HV) : Decidable (fineV h) := by unfold fineV; infer_instance
def fineB (h : HV) : Bool := decide (fineV h)
def intOk (l : List HV) : Prop := ∀ i, i < l.length → -9223372036854775808 ≤ (l.getD i HV0).int ∧ (l.getD i HV0).int ≤ 9223372036854775807 ∧ -9223372036854775808 ≤ (l.getD i HV0).width ∧ (l.getD i HV0).width ≤ 9223372036854775807
abbrev shT (w x : Int) : Int := Int.fdiv (IntKind.i64.wrap (x * 2 ^ (min (64 - w).toNat IntKind.i64.bits))) (2 ^ (min (64 - w).toNat IntKind.i64.bits))
theorem sh_law {w x : Int} (h1 : -9223372036854775808 ≤ x) (h2 : x ≤ 9223372036854775807) : (w = 8 → (shT w x = x ↔ -128 ≤ x ∧ x ≤ 127)) ∧ (w = 16 → (shT w x = x ↔ -32768 ≤ x ∧ x ≤ 32767)) ∧ (w = 32 → (shT w x = x ↔ -2147483648 ≤ x ∧ x ≤ 2147483647)) ∧ (w = 64 → shT w x = x) := by
 refine ⟨?_, ?_, ?_, ?_⟩ <;> rintro rfl <;> unfold shT <;> rw [Int.fdiv_eq_ediv_of_nonneg _ (Int.le_of_lt (Int.pow_pos (by decide)))]
 ·rw [show min (64 - (8 : Int)).toNat IntKind.i64.bits = 56 by decide]; simp only [IntKind.wrap, IntKind.signed, IntKind.bits, Bool.true_and, decide_eq_true_eq]; by_cases hc : x * 2 ^ 56 % 2 ^ 64 ≥ 2 ^ (64 - 1) <;> simp only [hc, decide_true, decide_false, Bool.false_eq_true, if_true, if_false] <;> omega
 ·rw [show min (64 - (16 : Int)).toNat IntKind.i64.bits = 48 by decide]; simp only [IntKind.wrap, IntKind.signed, IntKind.bits, Bool.true_and, decide_eq_true_eq]; by_cases hc : x * 2 ^ 48 % 2 ^ 64 ≥ 2 ^ (64 - 1) <;> simp only [hc, decide_true, decide_false, Bool.false_eq_true, if_true, if_false] <;> omega
 ·rw [show min (64 - (32 : Int)).toNat IntKind.i64.bits = 32 by decide]; simp only [IntKind.wrap, IntKind.signed, IntKind.bits, Bool.true_and, decide_eq_true_eq]; by_cases hc : x * 2 ^ 32 % 2 ^ 64 ≥ 2 ^ (64 - 1) <;> simp only [hc, decide_true, decide_false, Bool.false_eq_true, if_true, if_false] <;> omega
 ·rw [show min (64 - (64 : Int)).toNat IntKind.i64.bits = 0 by decide]; simp only [IntKind.wrap, IntKind.signed, IntKind.bits, Bool.true_and, decide_eq_true_eq]; by_cases hc : x * 2 ^ 0 % 2 ^ 64 ≥ 2 ^ (64 - 1) <;> simp only [hc, decide_true, decide_false, Bool.false_eq_true, if_true, if_false] <;> omega
theorem vFine (v : Value) (A : Hp) (l : List HV) (hr : RdS 5 v A l.length (recsV HV.row l)) (hint : intOk l) (hn : l.length ≤ 1000) : FnR Tryz.prog 12 [v] A (.bool (l.all fineB)) := by
 refine FnR.enter (n := 87) Tryz.func12 rfl rfl fun w0 => ?_
 refine WC.sub (fr' := [(0, _)]) ?_ ⟨rfl, trivial⟩
 refine WC.seq (WC.region ?_)
 refine WL.q (oq_assign rfl) rfl rfl rfl ?_
 refine WL.nil (WE.then_normal (WC.sub (fr' := [(0, _)]) ?_ ⟨rfl, trivial⟩))
 refine WC.seq (WC.seq (WC.region ?_))
 refine WL.q (oq_assign rfl) rfl rfl rfl ?_
 refine WL.nil (WE.then_normal (WC.sub (fr' := [(0, _), (3, _)]) ?_ ⟨rfl, rfl, trivial⟩))
 refine WC.block ?_
 refine WC.loop (ι := Nat) (fun (i : Nat) => [(0, v), (3, I (i : Int))]) (fun (i : Nat) => [A]) (fun (i : Nat) => i ≤ l.length ∧ (l.take i).all fineB = true) (fun (i : Nat) => l.length - i) (0) ?_ ⟨rfl, rfl, trivial⟩ (List.Perm.refl _) ?_
 ·try dsimp only
  exact ⟨by omega, rfl⟩
 ·rintro i hp
  try dsimp only at hp
  obtain ⟨hi, hall⟩ := hp
  show WC _ _ _ _ _ _ ([(0, v), (3, I (i : Int))]) ([A])
  refine WC.seq (WC.seq (WC.region ?_))
  refine WL.q (oq_move rfl) rfl rfl rfl ?_
  refine WL.q (oq_move rfl) rfl rfl rfl ?_
  refine WL.q (oq_len_rd hr Tryz.underlying22 rfl) rfl rfl rfl ?_
  refine WL.q (oq_lss rfl rfl) rfl rfl rfl ?_
  refine WL.nil (WE.then_normal (WC.sub (fr' := [(0, _), (3, _), (9, _)]) ?_ ⟨rfl, rfl, rfl, trivial⟩))
  refine WC.cond rfl (fun q2 => ?_) (fun q2 => ?_)
  ·
   try simp only [Z1, Z2, Z3, Z4, Z5, Z6, Z7, Z8, Z9, Z0] at q2
   refine WC.skip (WE.then_normal (WC.sub (fr' := [(0, _), (3, _)]) ?_ ⟨rfl, rfl, trivial⟩))
   refine WC.seq (WC.block (WC.seq ?_))
   have hlt : i < l.length := by omega
   obtain ⟨hi1, hi2, hi3, hi4⟩ := hint i hlt
   obtain ⟨hs8, hs16, hs32, hs64⟩ := sh_law (w := (l.getD i HV0).width) hi1 hi2
   simp only [shT] at hs8 hs16 hs32 hs64
   refine WC.region ?_
   refine WL.q (oq_move rfl) rfl rfl rfl ?_
   refine WL.q (oq_move rfl) rfl rfl rfl ?_
   refine WL.q (oq_ixaddr hr Tryz.underlying22 ty32 rfl rfl (by (first | omega | (simp only [List.length_cons, List.length_nil, List.length_append, List.length_drop, List.length_take]; omega)))) rfl rfl rfl ?_
   refine WL.q (oq_fldEl fld32_1 hr rfl (by (first | omega | (simp only [List.length_cons, List.length_nil, List.length_append, List.length_drop, List.length_take]; omega)))) rfl rfl rfl ?_
   refine WL.q (oq_loadFS (f := HV.row) HV0 [_, _, _, _] (fun _ => rfl) agg24 ty24 hr (.head _) rfl (by (first | omega | (simp only [List.length_cons, List.length_nil, List.length_append, List.length_drop, List.length_take]; omega))) (by first | exact Int.toNat_natCast _ | exact rfl) (by decide) rfl rfl) rfl rfl rfl ?_
   refine WL.alloc ty24 rfl rfl fun o4 ho4 => ?_
   refine WL.storeS #[_, _, _, _] ty24 rfl rfl rfl rfl (Nat.le_of_ble_eq_true rfl) rfl rfl ?_
   refine WL.nil (WE.then_normal (WC.sub (fr' := [(0, _), (3, _), (4, _)]) ?_ ⟨rfl, rfl, rfl, trivial⟩))
   refine WC.seq (WC.region ?_)
   refine WL.q (oq_fieldAddr fld24_1 rfl) rfl rfl rfl ?_
   refine WL.q (oq_load flat3 rfl (.head _) (List.mem_singleton.2 rfl) rfl) rfl rfl rfl ?_
   refine WL.q (oq_assign rfl) rfl rfl rfl ?_
   refine WL.nil (WE.then_normal (WC.sub (fr' := [(0, _), (3, _), (4, _), (5, _)]) ?_ ⟨rfl, rfl, rfl, rfl, trivial⟩))
   refine WC.seq (WC.quiet (by kernel_rfl) (by kernel_rfl) ?_)
   refine WQ.q (oq_fieldAddr fld24_0 rfl) rfl rfl rfl ?_
   refine WQ.q (oq_load flat3 rfl (.head _) (List.mem_singleton.2 rfl) rfl) rfl rfl rfl ?_
   refine WQ.q (oq_lss rfl rfl) rfl rfl rfl ?_
   refine WQ.q (oq_move rfl) rfl rfl rfl ?_
   refine WQ.split 22 rfl (fun s6_3 => ?_) (fun s6_3 => ?_)
   ·
    try simp only [Z1, Z2, Z3, Z4, Z5, Z6, Z7, Z8, Z9, Z0] at s6_3
    refine WQ.skip rfl rfl rfl ?_
    refine WQ.skip rfl rfl rfl ?_
    refine WQ.skip rfl rfl rfl ?_
    refine WQ.q (oq_pick_t rfl rfl) rfl rfl rfl ?_
    refine WQ.q (oq_move rfl) rfl rfl rfl ?_
    refine WQ.skip rfl rfl rfl ?_
    refine WQ.skip rfl rfl rfl ?_
    refine WQ.skip rfl rfl rfl ?_
    refine WQ.skip rfl rfl rfl ?_
    refine WQ.skip rfl rfl rfl ?_
    refine WQ.skip rfl rfl rfl ?_
    refine WQ.skip rfl rfl rfl ?_
    refine WQ.skip rfl rfl rfl ?_
    refine WQ.skip rfl rfl rfl ?_
    refine WQ.skip rfl rfl rfl ?_
    refine WQ.skip rfl rfl rfl ?_
    refine WQ.skip rfl rfl rfl ?_
    refine WQ.skip rfl rfl rfl ?_
    refine WQ.skip rfl rfl rfl ?_
    refine WQ.skip rfl rfl rfl ?_
    refine WQ.skip rfl rfl rfl ?_
    refine WQ.skip rfl rfl rfl ?_
    refine WQ.skip rfl rfl rfl ?_
    refine WQ.skip rfl rfl rfl ?_
    refine WQ.skip rfl rfl rfl ?_
    refine WQ.skip rfl rfl rfl ?_
    refine WQ.skip rfl rfl rfl ?_
    refine WQ.skip rfl rfl rfl ?_
    refine WQ.skip rfl rfl rfl ?_
    refine WQ.skip rfl rfl rfl ?_
    refine WQ.skip rfl rfl rfl ?_
    refine WQ.skip rfl rfl rfl ?_
    refine WQ.skip rfl rfl rfl ?_
    refine WQ.skip rfl rfl rfl ?_
    refine WQ.skip rfl rfl rfl ?_
    refine WQ.skip rfl rfl rfl ?_
    refine WQ.skip rfl rfl rfl ?_
    refine WQ.q (oq_pick_t rfl rfl) rfl rfl rfl ?_
    refine WQ.q (oq_move rfl) rfl rfl rfl ?_
    refine WQ.skip rfl rfl rfl ?_
    refine WQ.skip rfl rfl rfl ?_
    refine WQ.skip rfl rfl rfl ?_
    refine WQ.skip rfl rfl rfl ?_
    refine WQ.skip rfl rfl rfl ?_
    refine WQ.skip rfl rfl rfl ?_
    refine WQ.skip rfl rfl rfl ?_
    refine WQ.skip rfl rfl rfl ?_
    refine WQ.skip rfl rfl rfl ?_
    refine WQ.q (oq_pick_t rfl rfl) rfl rfl rfl ?_
    refine WQ.q (oq_move rfl) rfl rfl rfl ?_
    refine WQ.skip rfl rfl rfl ?_
    refine WQ.skip rfl rfl rfl ?_
    refine WQ.skip rfl rfl rfl ?_
    refine WQ.skip rfl rfl rfl ?_
    refine WQ.skip rfl rfl rfl ?_
    refine WQ.skip rfl rfl rfl ?_
    refine WQ.skip rfl rfl rfl ?_
    refine WQ.skip rfl rfl rfl ?_
    refine WQ.skip rfl rfl rfl ?_
    refine WQ.skip rfl rfl rfl ?_
    refine WQ.skip rfl rfl rfl ?_
    refine WQ.skip rfl rfl rfl ?_
    refine WQ.skip rfl rfl rfl ?_
    refine WQ.q (oq_pick_t rfl rfl) rfl rfl rfl ?_
    refine WQ.nil (WE.then_normal (WC.sub (fr' := [(0, _), (3, _), (86, _)]) ?_ ⟨rfl, rfl, rfl, trivial⟩))
    refine WC.cond_t rfl ?_
    refine WC.seq (WC.region ?_)
    refine WL.q (oq_assign rfl) rfl rfl rfl ?_
    refine WL.nil (WE.then_normal (WC.sub (fr' := [(2, _)]) ?_ ⟨rfl, trivial⟩))
    refine WC.ret (WE.block_ret (WE.then_ret (WE.then_ret (WE.block_ret (WE.then_ret ?_)))))
    refine WE.lose ho4 ?_
    refine WE.endR (.inl rfl) (res1 Tryz.results12 rfl) ?_
    exact congrArg Value.bool (all_not hlt (decide_eq_false (by unfold fineV; omega))).symm
   ·
    try simp only [Z1, Z2, Z3, Z4, Z5, Z6, Z7, Z8, Z9, Z0] at s6_3
    refine WQ.q (oq_fieldAddr fld24_0 rfl) rfl rfl rfl ?_
    refine WQ.q (oq_load flat3 rfl (.head _) (List.mem_singleton.2 rfl) rfl) rfl rfl rfl ?_
    refine WQ.q (oq_gtr rfl rfl) rfl rfl rfl ?_
    refine WQ.q (oq_pick_f rfl rfl) rfl rfl rfl ?_
    refine WQ.q (oq_move rfl) rfl rfl rfl ?_
    refine WQ.split 27 rfl (fun s6_8 => ?_) (fun s6_8 => ?_)
    ·
     try simp only [Z1, Z2, Z3, Z4, Z5, Z6, Z7, Z8, Z9, Z0] at s6_8
     refine WQ.skip rfl rfl rfl ?_
     refine WQ.skip rfl rfl rfl ?_
     refine WQ.skip rfl rfl rfl ?_
     refine WQ.skip rfl rfl rfl ?_
     refine WQ.skip rfl rfl rfl ?_
     refine WQ.skip rfl rfl rfl ?_
     refine WQ.skip rfl rfl rfl ?_
     refine WQ.skip rfl rfl rfl ?_
     refine WQ.skip rfl rfl rfl ?_
     refine WQ.skip rfl rfl rfl ?_
     refine WQ.skip rfl rfl rfl ?_
     refine WQ.skip rfl rfl rfl ?_
     refine WQ.skip rfl rfl rfl ?_
     refine WQ.skip rfl rfl rfl ?_
     refine WQ.skip rfl rfl rfl ?_
     refine WQ.skip rfl rfl rfl ?_
     refine WQ.skip rfl rfl rfl ?_
     refine WQ.skip rfl rfl rfl ?_
     refine WQ.skip rfl rfl rfl ?_
     refine WQ.skip rfl rfl rfl ?_
     refine WQ.skip rfl rfl rfl ?_
     refine WQ.skip rfl rfl rfl ?_
     refine WQ.skip rfl rfl rfl ?_
     refine WQ.skip rfl rfl rfl ?_
     refine WQ.skip rfl rfl rfl ?_
     refine WQ.skip rfl rfl rfl ?_
     refine WQ.skip rfl rfl rfl ?_
     refine WQ.skip rfl rfl rfl ?_
     refine WQ.skip rfl rfl rfl ?_
     refine WQ.skip rfl rfl rfl ?_
     refine WQ.skip rfl rfl rfl ?_
     refine WQ.skip rfl rfl rfl ?_
     refine WQ.q (oq_pick_t rfl rfl) rfl rfl rfl ?_
     refine WQ.q (oq_move rfl) rfl rfl rfl ?_
     refine WQ.skip rfl rfl rfl ?_
     refine WQ.skip rfl rfl rfl ?_
     refine WQ.skip rfl rfl rfl ?_
     refine WQ.skip rfl rfl rfl ?_
     refine WQ.skip rfl rfl rfl ?_
     refine WQ.skip rfl rfl rfl ?_
     refine WQ.skip rfl rfl rfl ?_
     refine WQ.skip rfl rfl rfl ?_
     refine WQ.skip rfl rfl rfl ?_
     refine WQ.q (oq_pick_t rfl rfl) rfl rfl rfl ?_
     refine WQ.q (oq_move rfl) rfl rfl rfl ?_
     refine WQ.skip rfl rfl rfl ?_
     refine WQ.skip rfl rfl rfl ?_
     refine WQ.skip rfl rfl rfl ?_
     refine WQ.skip rfl rfl rfl ?_
     refine WQ.skip rfl rfl rfl ?_
     refine WQ.skip rfl rfl rfl ?_
     refine WQ.skip rfl rfl rfl ?_
     refine WQ.skip rfl rfl rfl ?_
     refine WQ.skip rfl rfl rfl ?_
     refine WQ.skip rfl rfl rfl ?_
     refine WQ.skip rfl rfl rfl ?_
     refine WQ.skip rfl rfl rfl ?_
     refine WQ.skip rfl rfl rfl ?_
     refine WQ.q (oq_pick_t rfl rfl) rfl rfl rfl ?_
     refine WQ.nil (WE.then_normal (WC.sub (fr' := [(0, _), (3, _), (86, _)]) ?_ ⟨rfl, rfl, rfl, trivial⟩))
     refine WC.cond_t rfl ?_
     refine WC.seq (WC.region ?_)
     refine WL.q (oq_assign rfl) rfl rfl rfl ?_
     refine WL.nil (WE.then_normal (WC.sub (fr' := [(2, _)]) ?_ ⟨rfl, trivial⟩))
     refine WC.ret (WE.block_ret (WE.then_ret (WE.then_ret (WE.block_ret (WE.then_ret ?_)))))
     refine WE.lose ho4 ?_
     refine WE.endR (.inl rfl) (res1 Tryz.results12 rfl) ?_
     exact congrArg Value.bool (all_not hlt (decide_eq_false (by unfold fineV; omega))).symm
    ·
     try simp only [Z1, Z2, Z3, Z4, Z5, Z6, Z7, Z8, Z9, Z0] at s6_8
     refine WQ.q (oq_fieldAddr fld24_0 rfl) rfl rfl rfl ?_
     refine WQ.q (oq_load flat3 rfl (.head _) (List.mem_singleton.2 rfl) rfl) rfl rfl rfl ?_
     refine WQ.q (oq_eql rfl rfl) rfl rfl rfl ?_
     refine WQ.q (oq_move rfl) rfl rfl rfl ?_
     refine WQ.split 31 rfl (fun s6_12 => ?_) (fun s6_12 => ?_)
     ·
      try simp only [Z1, Z2, Z3, Z4, Z5, Z6, Z7, Z8, Z9, Z0] at s6_12
      refine WQ.q (oq_move rfl) rfl rfl rfl ?_
      refine WQ.q (oq_neq rfl rfl) rfl rfl rfl ?_
      refine WQ.q (oq_move rfl) rfl rfl rfl ?_
      refine WQ.split 34 rfl (fun s6_15 => ?_) (fun s6_15 => ?_)
      ·
       try simp only [Z1, Z2, Z3, Z4, Z5, Z6, Z7, Z8, Z9, Z0] at s6_15
       refine WQ.q (oq_move rfl) rfl rfl rfl ?_
       refine WQ.q (oq_neq rfl rfl) rfl rfl rfl ?_
       refine WQ.q (oq_pick_t rfl rfl) rfl rfl rfl ?_
       refine WQ.q (oq_move rfl) rfl rfl rfl ?_
       refine WQ.split 38 rfl (fun s6_19 => ?_) (fun s6_19 => ?_)
       ·
        try simp only [Z1, Z2, Z3, Z4, Z5, Z6, Z7, Z8, Z9, Z0] at s6_19
        refine WQ.q (oq_move rfl) rfl rfl rfl ?_
        refine WQ.q (oq_neq rfl rfl) rfl rfl rfl ?_
        refine WQ.q (oq_pick_t rfl rfl) rfl rfl rfl ?_
        refine WQ.q (oq_move rfl) rfl rfl rfl ?_
        refine WQ.split 42 rfl (fun s6_23 => ?_) (fun s6_23 => ?_)
        ·
         try simp only [Z1, Z2, Z3, Z4, Z5, Z6, Z7, Z8, Z9, Z0] at s6_23
         refine WQ.q (oq_move rfl) rfl rfl rfl ?_
         refine WQ.q (oq_neq rfl rfl) rfl rfl rfl ?_
         refine WQ.q (oq_pick_t rfl rfl) rfl rfl rfl ?_
         refine WQ.q (oq_move rfl) rfl rfl rfl ?_
         refine WQ.split 46 rfl (fun s6_27 => ?_) (fun s6_27 => ?_)
         ·
          try simp only [Z1, Z2, Z3, Z4, Z5, Z6, Z7, Z8, Z9, Z0] at s6_27
          refine WQ.skip rfl rfl rfl ?_
          refine WQ.skip rfl rfl rfl ?_
          refine WQ.skip rfl rfl rfl ?_
          refine WQ.skip rfl rfl rfl ?_
          refine WQ.skip rfl rfl rfl ?_
          refine WQ.skip rfl rfl rfl ?_
          refine WQ.skip rfl rfl rfl ?_
          refine WQ.skip rfl rfl rfl ?_
          refine WQ.skip rfl rfl rfl ?_
          refine WQ.skip rfl rfl rfl ?_
          refine WQ.skip rfl rfl rfl ?_
          refine WQ.q (oq_pick_t rfl rfl) rfl rfl rfl ?_
          refine WQ.q (oq_pick_t rfl rfl) rfl rfl rfl ?_
          refine WQ.q (oq_pick_f rfl rfl) rfl rfl rfl ?_
          refine WQ.q (oq_move rfl) rfl rfl rfl ?_
          refine WQ.skip rfl rfl rfl ?_
          refine WQ.skip rfl rfl rfl ?_
          refine WQ.skip rfl rfl rfl ?_
          refine WQ.skip rfl rfl rfl ?_
          refine WQ.skip rfl rfl rfl ?_
          refine WQ.skip rfl rfl rfl ?_
          refine WQ.skip rfl rfl rfl ?_
          refine WQ.skip rfl rfl rfl ?_
          refine WQ.skip rfl rfl rfl ?_
          refine WQ.q (oq_pick_t rfl rfl) rfl rfl rfl ?_
          refine WQ.q (oq_move rfl) rfl rfl rfl ?_
          refine WQ.skip rfl rfl rfl ?_
          refine WQ.skip rfl rfl rfl ?_
          refine WQ.skip rfl rfl rfl ?_
          refine WQ.skip rfl rfl rfl ?_
          refine WQ.skip rfl rfl rfl ?_
          refine WQ.skip rfl rfl rfl ?_
          refine WQ.skip rfl rfl rfl ?_
          refine WQ.skip rfl rfl rfl ?_
          refine WQ.skip rfl rfl rfl ?_
          refine WQ.skip rfl rfl rfl ?_
          refine WQ.skip rfl rfl rfl ?_
          refine WQ.skip rfl rfl rfl ?_
          refine WQ.skip rfl rfl rfl ?_
          refine WQ.q (oq_pick_t rfl rfl) rfl rfl rfl ?_
          refine WQ.nil (WE.then_normal (WC.sub (fr' := [(0, _), (3, _), (86, _)]) ?_ ⟨rfl, rfl, rfl, trivial⟩))
          refine WC.cond_t rfl ?_
          refine WC.seq (WC.region ?_)
          refine WL.q (oq_assign rfl) rfl rfl rfl ?_
          refine WL.nil (WE.then_normal (WC.sub (fr' := [(2, _)]) ?_ ⟨rfl, trivial⟩))
          refine WC.ret (WE.block_ret (WE.then_ret (WE.then_ret (WE.block_ret (WE.then_ret ?_)))))
          refine WE.lose ho4 ?_
          refine WE.endR (.inl rfl) (res1 Tryz.results12 rfl) ?_
          exact congrArg Value.bool (all_not hlt (decide_eq_false (by unfold fineV; omega))).symm
         ·
          try simp only [Z1, Z2, Z3, Z4, Z5, Z6, Z7, Z8, Z9, Z0] at s6_27
          refine WQ.q (oq_fieldAddr fld24_2 rfl) rfl rfl rfl ?_
          refine WQ.q (oq_load flat2 rfl (.head _) (List.mem_singleton.2 rfl) rfl) rfl rfl rfl ?_
          refine WQ.q (oq_move rfl) rfl rfl rfl ?_
          refine WQ.q (oq_sub rfl rfl (by rw [i64_lo, i64_hi]; (first | omega | (simp only [List.length_cons, List.length_nil, List.length_append, List.length_drop, List.length_take]; omega)))) rfl rfl rfl ?_
          refine WQ.q (oq_shl rfl rfl (by omega)) rfl rfl rfl ?_
          refine WQ.q (oq_move rfl) rfl rfl rfl ?_
          refine WQ.q (oq_sub rfl rfl (by rw [i64_lo, i64_hi]; (first | omega | (simp only [List.length_cons, List.length_nil, List.length_append, List.length_drop, List.length_take]; omega)))) rfl rfl rfl ?_
          refine WQ.q (oq_shr rfl rfl (by omega)) rfl rfl rfl ?_
          refine WQ.q (oq_fieldAddr fld24_2 rfl) rfl rfl rfl ?_
          refine WQ.q (oq_load flat2 rfl (.head _) (List.mem_singleton.2 rfl) rfl) rfl rfl rfl ?_
          refine WQ.q (oq_neq rfl rfl) rfl rfl rfl ?_
          refine WQ.q (oq_pick_f rfl rfl) rfl rfl rfl ?_
          refine WQ.q (oq_pick_t rfl rfl) rfl rfl rfl ?_
          refine WQ.q (oq_pick_f rfl rfl) rfl rfl rfl ?_
          refine WQ.q (oq_move rfl) rfl rfl rfl ?_
          refine WQ.split 61 rfl (fun s6_42 => ?_) (fun s6_42 => ?_)
          ·
           try simp only [Z1, Z2, Z3, Z4, Z5, Z6, Z7, Z8, Z9, Z0] at s6_42
           refine WQ.skip rfl rfl rfl ?_
           refine WQ.skip rfl rfl rfl ?_
           refine WQ.skip rfl rfl rfl ?_
           refine WQ.skip rfl rfl rfl ?_
           refine WQ.skip rfl rfl rfl ?_
           refine WQ.skip rfl rfl rfl ?_
           refine WQ.skip rfl rfl rfl ?_
           refine WQ.skip rfl rfl rfl ?_
           refine WQ.skip rfl rfl rfl ?_
           refine WQ.q (oq_pick_t rfl rfl) rfl rfl rfl ?_
           refine WQ.q (oq_move rfl) rfl rfl rfl ?_
           refine WQ.skip rfl rfl rfl ?_
           refine WQ.skip rfl rfl rfl ?_
           refine WQ.skip rfl rfl rfl ?_
           refine WQ.skip rfl rfl rfl ?_
           refine WQ.skip rfl rfl rfl ?_
           refine WQ.skip rfl rfl rfl ?_
           refine WQ.skip rfl rfl rfl ?_
           refine WQ.skip rfl rfl rfl ?_
           refine WQ.skip rfl rfl rfl ?_
           refine WQ.skip rfl rfl rfl ?_
           refine WQ.skip rfl rfl rfl ?_
           refine WQ.skip rfl rfl rfl ?_
           refine WQ.skip rfl rfl rfl ?_
           refine WQ.q (oq_pick_t rfl rfl) rfl rfl rfl ?_
           refine WQ.nil (WE.then_normal (WC.sub (fr' := [(0, _), (3, _), (86, _)]) ?_ ⟨rfl, rfl, rfl, trivial⟩))
           refine WC.cond_t rfl ?_
           refine WC.seq (WC.region ?_)
           refine WL.q (oq_assign rfl) rfl rfl rfl ?_
           refine WL.nil (WE.then_normal (WC.sub (fr' := [(2, _)]) ?_ ⟨rfl, trivial⟩))
           refine WC.ret (WE.block_ret (WE.then_ret (WE.then_ret (WE.block_ret (WE.then_ret ?_)))))
           refine WE.lose ho4 ?_
           refine WE.endR (.inl rfl) (res1 Tryz.results12 rfl) ?_
           exact congrArg Value.bool (all_not hlt (decide_eq_false (by unfold fineV; omega))).symm
          ·
           try simp only [Z1, Z2, Z3, Z4, Z5, Z6, Z7, Z8, Z9, Z0] at s6_42
           refine WQ.q (oq_fieldAddr fld24_0 rfl) rfl rfl rfl ?_
           refine WQ.q (oq_load flat3 rfl (.head _) (List.mem_singleton.2 rfl) rfl) rfl rfl rfl ?_
           refine WQ.q (oq_eql rfl rfl) rfl rfl rfl ?_
           refine WQ.q (oq_move rfl) rfl rfl rfl ?_
           refine WQ.split 65 rfl (fun s6_46 => ?_) (fun s6_46 => ?_)
           ·
            try simp only [Z1, Z2, Z3, Z4, Z5, Z6, Z7, Z8, Z9, Z0] at s6_46
            refine WQ.q (oq_fieldAddr fld24_3 rfl) rfl rfl rfl ?_
            refine WQ.q (oq_load flat9 rfl (.head _) (List.mem_singleton.2 rfl) rfl) rfl rfl rfl ?_
            refine WQ.q (oq_len_s Tryz.underlying9 rfl) rfl rfl rfl ?_
            refine WQ.q (oq_neq rfl rfl) rfl rfl rfl ?_
            refine WQ.q (oq_pick_t rfl rfl) rfl rfl rfl ?_
            refine WQ.q (oq_pick_f rfl rfl) rfl rfl rfl ?_
            refine WQ.q (oq_move rfl) rfl rfl rfl ?_
            refine WQ.split 72 rfl (fun s6_53 => ?_) (fun s6_53 => ?_)
            ·
             try simp only [Z1, Z2, Z3, Z4, Z5, Z6, Z7, Z8, Z9, Z0] at s6_53
             refine WQ.skip rfl rfl rfl ?_
             refine WQ.skip rfl rfl rfl ?_
             refine WQ.skip rfl rfl rfl ?_
             refine WQ.skip rfl rfl rfl ?_
             refine WQ.skip rfl rfl rfl ?_
             refine WQ.skip rfl rfl rfl ?_
             refine WQ.skip rfl rfl rfl ?_
             refine WQ.skip rfl rfl rfl ?_
             refine WQ.skip rfl rfl rfl ?_
             refine WQ.skip rfl rfl rfl ?_
             refine WQ.skip rfl rfl rfl ?_
             refine WQ.skip rfl rfl rfl ?_
             refine WQ.skip rfl rfl rfl ?_
             refine WQ.q (oq_pick_t rfl rfl) rfl rfl rfl ?_
             refine WQ.nil (WE.then_normal (WC.sub (fr' := [(0, _), (3, _), (86, _)]) ?_ ⟨rfl, rfl, rfl, trivial⟩))
             refine WC.cond_t rfl ?_
             refine WC.seq (WC.region ?_)
             refine WL.q (oq_assign rfl) rfl rfl rfl ?_
             refine WL.nil (WE.then_normal (WC.sub (fr' := [(2, _)]) ?_ ⟨rfl, trivial⟩))
             refine WC.ret (WE.block_ret (WE.then_ret (WE.then_ret (WE.block_ret (WE.then_ret ?_)))))
             refine WE.lose ho4 ?_
             refine WE.endR (.inl rfl) (res1 Tryz.results12 rfl) ?_
             exact congrArg Value.bool (all_not hlt (decide_eq_false (by unfold fineV; omega))).symm
            ·
             try simp only [Z1, Z2, Z3, Z4, Z5, Z6, Z7, Z8, Z9, Z0] at s6_53
             refine WQ.q (oq_fieldAddr fld24_0 rfl) rfl rfl rfl ?_
             refine WQ.q (oq_load flat3 rfl (.head _) (List.mem_singleton.2 rfl) rfl) rfl rfl rfl ?_
             refine WQ.q (oq_eql rfl rfl) rfl rfl rfl ?_
             refine WQ.q (oq_move rfl) rfl rfl rfl ?_
             refine WQ.split 76 rfl (fun s6_57 => ?_) (fun s6_57 => ?_)
             ·
              try simp only [Z1, Z2, Z3, Z4, Z5, Z6, Z7, Z8, Z9, Z0] at s6_57
              refine WQ.q (oq_fieldAddr fld24_2 rfl) rfl rfl rfl ?_
              refine WQ.q (oq_load flat2 rfl (.head _) (List.mem_singleton.2 rfl) rfl) rfl rfl rfl ?_
              refine WQ.q (oq_gtr rfl rfl) rfl rfl rfl ?_
              refine WQ.q (oq_move rfl) rfl rfl rfl ?_
              refine WQ.split 80 rfl (fun s6_61 => ?_) (fun s6_61 => ?_)
              ·
               try simp only [Z1, Z2, Z3, Z4, Z5, Z6, Z7, Z8, Z9, Z0] at s6_61
               refine WQ.skip rfl rfl rfl ?_
               refine WQ.skip rfl rfl rfl ?_
               refine WQ.skip rfl rfl rfl ?_
               refine WQ.q (oq_pick_t rfl rfl) rfl rfl rfl ?_
               refine WQ.q (oq_pick_t rfl rfl) rfl rfl rfl ?_
               refine WQ.q (oq_pick_f rfl rfl) rfl rfl rfl ?_
               refine WQ.nil (WE.then_normal (WC.sub (fr' := [(0, _), (3, _), (86, _)]) ?_ ⟨rfl, rfl, rfl, trivial⟩))
               refine WC.cond_t rfl ?_
               refine WC.seq (WC.region ?_)
               refine WL.q (oq_assign rfl) rfl rfl rfl ?_
               refine WL.nil (WE.then_normal (WC.sub (fr' := [(2, _)]) ?_ ⟨rfl, trivial⟩))
               refine WC.ret (WE.block_ret (WE.then_ret (WE.then_ret (WE.block_ret (WE.then_ret ?_)))))
               refine WE.lose ho4 ?_
               refine WE.endR (.inl rfl) (res1 Tryz.results12 rfl) ?_
               exact congrArg Value.bool (all_not hlt (decide_eq_false (by unfold fineV; omega))).symm
              ·
               try simp only [Z1, Z2, Z3, Z4, Z5, Z6, Z7, Z8, Z9, Z0] at s6_61
               refine WQ.q (oq_fieldAddr fld24_2 rfl) rfl rfl rfl ?_
               refine WQ.q (oq_load flat2 rfl (.head _) (List.mem_singleton.2 rfl) rfl) rfl rfl rfl ?_
               refine WQ.q (oq_lss rfl rfl) rfl rfl rfl ?_
               refine WQ.q (oq_pick_f rfl rfl) rfl rfl rfl ?_
               refine WQ.q (oq_pick_t rfl rfl) rfl rfl rfl ?_
               refine WQ.q (oq_pick_f rfl rfl) rfl rfl rfl ?_
               refine WQ.nil (WE.then_normal (WC.sub (fr' := [(0, _), (3, _), (86, _)]) ?_ ⟨rfl, rfl, rfl, trivial⟩))
               refine WC.cond rfl (fun q6 => ?_) (fun q6 => ?_)
               ·
                try simp only [Z1, Z2, Z3, Z4, Z5, Z6, Z7, Z8, Z9, Z0] at q6
                refine WC.seq (WC.region ?_)
                refine WL.q (oq_assign rfl) rfl rfl rfl ?_
                refine WL.nil (WE.then_normal (WC.sub (fr' := [(2, _)]) ?_ ⟨rfl, trivial⟩))
                refine WC.ret (WE.block_ret (WE.then_ret (WE.then_ret (WE.block_ret (WE.then_ret ?_)))))
                refine WE.lose ho4 ?_
                refine WE.endR (.inl rfl) (res1 Tryz.results12 rfl) ?_
                exact congrArg Value.bool (all_not hlt (decide_eq_false (by unfold fineV; omega))).symm
               ·
                try simp only [Z1, Z2, Z3, Z4, Z5, Z6, Z7, Z8, Z9, Z0] at q6
                refine WC.skip (WE.block_normal (WE.then_normal (WC.sub (fr' := [(0, _), (3, _)]) ?_ ⟨rfl, rfl, trivial⟩)))
                refine WC.region ?_
                refine WL.q (oq_move rfl) rfl rfl rfl ?_
                refine WL.q (oq_add rfl rfl (by rw [i64_lo, i64_hi]; (first | omega | (simp only [List.length_cons, List.length_nil, List.length_append, List.length_drop, List.length_take]; omega)))) rfl rfl rfl ?_
                refine WL.q (oq_assign rfl) rfl rfl rfl ?_
                refine WL.nil ?_
                refine WE.lose ho4 ?_
                refine WE.again (i + 1) ?_ ?_ ⟨rfl, rfl, trivial⟩ (List.Perm.refl _)
                ·try dsimp only
                 exact ⟨by omega, all_snoc (by omega) hall (decide_eq_true (by unfold fineV; omega))⟩
                ·(try dsimp only); omega
             ·
              try simp only [Z1, Z2, Z3, Z4, Z5, Z6, Z7, Z8, Z9, Z0] at s6_57
              refine WQ.skip rfl rfl rfl ?_
              refine WQ.skip rfl rfl rfl ?_
              refine WQ.skip rfl rfl rfl ?_
              refine WQ.skip rfl rfl rfl ?_
              refine WQ.skip rfl rfl rfl ?_
              refine WQ.skip rfl rfl rfl ?_
              refine WQ.skip rfl rfl rfl ?_
              refine WQ.skip rfl rfl rfl ?_
              refine WQ.q (oq_pick_f rfl rfl) rfl rfl rfl ?_
              refine WQ.q (oq_pick_f rfl rfl) rfl rfl rfl ?_
              refine WQ.nil (WE.then_normal (WC.sub (fr' := [(0, _), (3, _), (86, _)]) ?_ ⟨rfl, rfl, rfl, trivial⟩))
              refine WC.cond_f rfl ?_
              refine WC.skip (WE.block_normal (WE.then_normal (WC.sub (fr' := [(0, _), (3, _)]) ?_ ⟨rfl, rfl, trivial⟩)))
              refine WC.region ?_
              refine WL.q (oq_move rfl) rfl rfl rfl ?_
              refine WL.q (oq_add rfl rfl (by rw [i64_lo, i64_hi]; (first | omega | (simp only [List.length_cons, List.length_nil, List.length_append, List.length_drop, List.length_take]; omega)))) rfl rfl rfl ?_
              refine WL.q (oq_assign rfl) rfl rfl rfl ?_
              refine WL.nil ?_
              refine WE.lose ho4 ?_
              refine WE.again (i + 1) ?_ ?_ ⟨rfl, rfl, trivial⟩ (List.Perm.refl _)
              ·try dsimp only
               exact ⟨by omega, all_snoc (by omega) hall (decide_eq_true (by unfold fineV; omega))⟩
              ·(try dsimp only); omega
           ·
            try simp only [Z1, Z2, Z3, Z4, Z5, Z6, Z7, Z8, Z9, Z0] at s6_46
            refine WQ.skip rfl rfl rfl ?_
            refine WQ.skip rfl rfl rfl ?_
            refine WQ.skip rfl rfl rfl ?_
            refine WQ.skip rfl rfl rfl ?_
            refine WQ.q (oq_pick_f rfl rfl) rfl rfl rfl ?_
            refine WQ.q (oq_pick_f rfl rfl) rfl rfl rfl ?_
            refine WQ.q (oq_move rfl) rfl rfl rfl ?_
            refine WQ.q (oq_fieldAddr fld24_0 rfl) rfl rfl rfl ?_
            refine WQ.q (oq_load flat3 rfl (.head _) (List.mem_singleton.2 rfl) rfl) rfl rfl rfl ?_
            refine WQ.q (oq_eql rfl rfl) rfl rfl rfl ?_
            refine WQ.q (oq_move rfl) rfl rfl rfl ?_
            refine WQ.split 76 rfl (fun s6_57 => ?_) (fun s6_57 => ?_)
            ·
             try simp only [Z1, Z2, Z3, Z4, Z5, Z6, Z7, Z8, Z9, Z0] at s6_57
             refine WQ.q (oq_fieldAddr fld24_2 rfl) rfl rfl rfl ?_
             refine WQ.q (oq_load flat2 rfl (.head _) (List.mem_singleton.2 rfl) rfl) rfl rfl rfl ?_
             refine WQ.q (oq_gtr rfl rfl) rfl rfl rfl ?_
             refine WQ.q (oq_move rfl) rfl rfl rfl ?_
             refine WQ.split 80 rfl (fun s6_61 => ?_) (fun s6_61 => ?_)
             ·
              try simp only [Z1, Z2, Z3, Z4, Z5, Z6, Z7, Z8, Z9, Z0] at s6_61
              refine WQ.skip rfl rfl rfl ?_
              refine WQ.skip rfl rfl rfl ?_
              refine WQ.skip rfl rfl rfl ?_
              refine WQ.q (oq_pick_t rfl rfl) rfl rfl rfl ?_
              refine WQ.q (oq_pick_t rfl rfl) rfl rfl rfl ?_
              refine WQ.q (oq_pick_f rfl rfl) rfl rfl rfl ?_
              refine WQ.nil (WE.then_normal (WC.sub (fr' := [(0, _), (3, _), (86, _)]) ?_ ⟨rfl, rfl, rfl, trivial⟩))
              refine WC.cond_t rfl ?_
              refine WC.seq (WC.region ?_)
              refine WL.q (oq_assign rfl) rfl rfl rfl ?_
              refine WL.nil (WE.then_normal (WC.sub (fr' := [(2, _)]) ?_ ⟨rfl, trivial⟩))
              refine WC.ret (WE.block_ret (WE.then_ret (WE.then_ret (WE.block_ret (WE.then_ret ?_)))))
              refine WE.lose ho4 ?_
              refine WE.endR (.inl rfl) (res1 Tryz.results12 rfl) ?_
              exact congrArg Value.bool (all_not hlt (decide_eq_false (by unfold fineV; omega))).symm
             ·
              try simp only [Z1, Z2, Z3, Z4, Z5, Z6, Z7, Z8, Z9, Z0] at s6_61
              refine WQ.q (oq_fieldAddr fld24_2 rfl) rfl rfl rfl ?_
              refine WQ.q (oq_load flat2 rfl (.head _) (List.mem_singleton.2 rfl) rfl) rfl rfl rfl ?_
              refine WQ.q (oq_lss rfl rfl) rfl rfl rfl ?_
              refine WQ.q (oq_pick_f rfl rfl) rfl rfl rfl ?_
              refine WQ.q (oq_pick_t rfl rfl) rfl rfl rfl ?_
              refine WQ.q (oq_pick_f rfl rfl) rfl rfl rfl ?_
              refine WQ.nil (WE.then_normal (WC.sub (fr' := [(0, _), (3, _), (86, _)]) ?_ ⟨rfl, rfl, rfl, trivial⟩))
              refine WC.cond rfl (fun q6 => ?_) (fun q6 => ?_)
              ·
               try simp only [Z1, Z2, Z3, Z4, Z5, Z6, Z7, Z8, Z9, Z0] at q6
               refine WC.seq (WC.region ?_)
               refine WL.q (oq_assign rfl) rfl rfl rfl ?_
               refine WL.nil (WE.then_normal (WC.sub (fr' := [(2, _)]) ?_ ⟨rfl, trivial⟩))
               refine WC.ret (WE.block_ret (WE.then_ret (WE.then_ret (WE.block_ret (WE.then_ret ?_)))))
               refine WE.lose ho4 ?_
               refine WE.endR (.inl rfl) (res1 Tryz.results12 rfl) ?_
               exact congrArg Value.bool (all_not hlt (decide_eq_false (by unfold fineV; omega))).symm
              ·
               try simp only [Z1, Z2, Z3, Z4, Z5, Z6, Z7, Z8, Z9, Z0] at q6
               refine WC.skip (WE.block_normal (WE.then_normal (WC.sub (fr' := [(0, _), (3, _)]) ?_ ⟨rfl, rfl, trivial⟩)))
               refine WC.region ?_
               refine WL.q (oq_move rfl) rfl rfl rfl ?_
               refine WL.q (oq_add rfl rfl (by rw [i64_lo, i64_hi]; (first | omega | (simp only [List.length_cons, List.length_nil, List.length_append, List.length_drop, List.length_take]; omega)))) rfl rfl rfl ?_
               refine WL.q (oq_assign rfl) rfl rfl rfl ?_
               refine WL.nil ?_
               refine WE.lose ho4 ?_
               refine WE.again (i + 1) ?_ ?_ ⟨rfl, rfl, trivial⟩ (List.Perm.refl _)
               ·try dsimp only
                exact ⟨by omega, all_snoc (by omega) hall (decide_eq_true (by unfold fineV; omega))⟩
               ·(try dsimp only); omega
            ·
             try simp only [Z1, Z2, Z3, Z4, Z5, Z6, Z7, Z8, Z9, Z0] at s6_57
             refine WQ.skip rfl rfl rfl ?_
             refine WQ.skip rfl rfl rfl ?_
             refine WQ.skip rfl rfl rfl ?_
             refine WQ.skip rfl rfl rfl ?_
             refine WQ.skip rfl rfl rfl ?_
             refine WQ.skip rfl rfl rfl ?_
             refine WQ.skip rfl rfl rfl ?_
             refine WQ.skip rfl rfl rfl ?_
             refine WQ.q (oq_pick_f rfl rfl) rfl rfl rfl ?_
             refine WQ.q (oq_pick_f rfl rfl) rfl rfl rfl ?_
             refine WQ.nil (WE.then_normal (WC.sub (fr' := [(0, _), (3, _), (86, _)]) ?_ ⟨rfl, rfl, rfl, trivial⟩))
             refine WC.cond_f rfl ?_
             refine WC.skip (WE.block_normal (WE.then_normal (WC.sub (fr' := [(0, _), (3, _)]) ?_ ⟨rfl, rfl, trivial⟩)))
             refine WC.region ?_
             refine WL.q (oq_move rfl) rfl rfl rfl ?_
             refine WL.q (oq_add rfl rfl (by rw [i64_lo, i64_hi]; (first | omega | (simp only [List.length_cons, List.length_nil, List.length_append, List.length_drop, List.length_take]; omega)))) rfl rfl rfl ?_
             refine WL.q (oq_assign rfl) rfl rfl rfl ?_
             refine WL.nil ?_
             refine WE.lose ho4 ?_
             refine WE.again (i + 1) ?_ ?_ ⟨rfl, rfl, trivial⟩ (List.Perm.refl _)
             ·try dsimp only
              exact ⟨by omega, all_snoc (by omega) hall (decide_eq_true (by unfold fineV; omega))⟩
             ·(try dsimp only); omega
        ·
         try simp only [Z1, Z2, Z3, Z4, Z5, Z6, Z7, Z8, Z9, Z0] at s6_23
         refine WQ.skip rfl rfl rfl ?_
         refine WQ.skip rfl rfl rfl ?_
         refine WQ.q (oq_pick_f rfl rfl) rfl rfl rfl ?_
         refine WQ.q (oq_move rfl) rfl rfl rfl ?_
         refine WQ.q (oq_fieldAddr fld24_2 rfl) rfl rfl rfl ?_
         refine WQ.q (oq_load flat2 rfl (.head _) (List.mem_singleton.2 rfl) rfl) rfl rfl rfl ?_
         refine WQ.q (oq_move rfl) rfl rfl rfl ?_
         refine WQ.q (oq_sub rfl rfl (by rw [i64_lo, i64_hi]; (first | omega | (simp only [List.length_cons, List.length_nil, List.length_append, List.length_drop, List.length_take]; omega)))) rfl rfl rfl ?_
         refine WQ.q (oq_shl rfl rfl (by omega)) rfl rfl rfl ?_
         refine WQ.q (oq_move rfl) rfl rfl rfl ?_
         refine WQ.q (oq_sub rfl rfl (by rw [i64_lo, i64_hi]; (first | omega | (simp only [List.length_cons, List.length_nil, List.length_append, List.length_drop, List.length_take]; omega)))) rfl rfl rfl ?_
         refine WQ.q (oq_shr rfl rfl (by omega)) rfl rfl rfl ?_
         refine WQ.q (oq_fieldAddr fld24_2 rfl) rfl rfl rfl ?_
         refine WQ.q (oq_load flat2 rfl (.head _) (List.mem_singleton.2 rfl) rfl) rfl rfl rfl ?_
         refine WQ.q (oq_neq rfl rfl) rfl rfl rfl ?_
         refine WQ.q (oq_pick_f rfl rfl) rfl rfl rfl ?_
         refine WQ.q (oq_pick_t rfl rfl) rfl rfl rfl ?_
         refine WQ.q (oq_pick_f rfl rfl) rfl rfl rfl ?_
         refine WQ.q (oq_move rfl) rfl rfl rfl ?_
         refine WQ.split 61 rfl (fun s6_42 => ?_) (fun s6_42 => ?_)
         ·
          try simp only [Z1, Z2, Z3, Z4, Z5, Z6, Z7, Z8, Z9, Z0] at s6_42
          refine WQ.skip rfl rfl rfl ?_
          refine WQ.skip rfl rfl rfl ?_
          refine WQ.skip rfl rfl rfl ?_
          refine WQ.skip rfl rfl rfl ?_
          refine WQ.skip rfl rfl rfl ?_
          refine WQ.skip rfl rfl rfl ?_
          refine WQ.skip rfl rfl rfl ?_
          refine WQ.skip rfl rfl rfl ?_
          refine WQ.skip rfl rfl rfl ?_
          refine WQ.q (oq_pick_t rfl rfl) rfl rfl rfl ?_
          refine WQ.q (oq_move rfl) rfl rfl rfl ?_
          refine WQ.skip rfl rfl rfl ?_
          refine WQ.skip rfl rfl rfl ?_
          refine WQ.skip rfl rfl rfl ?_
          refine WQ.skip rfl rfl rfl ?_
          refine WQ.skip rfl rfl rfl ?_
          refine WQ.skip rfl rfl rfl ?_
          refine WQ.skip rfl rfl rfl ?_
          refine WQ.skip rfl rfl rfl ?_
          refine WQ.skip rfl rfl rfl ?_
          refine WQ.skip rfl rfl rfl ?_
          refine WQ.skip rfl rfl rfl ?_
          refine WQ.skip rfl rfl rfl ?_
          refine WQ.skip rfl rfl rfl ?_
          refine WQ.q (oq_pick_t rfl rfl) rfl rfl rfl ?_
          refine WQ.nil (WE.then_normal (WC.sub (fr' := [(0, _), (3, _), (86, _)]) ?_ ⟨rfl, rfl, rfl, trivial⟩))
          refine WC.cond_t rfl ?_
          refine WC.seq (WC.region ?_)
          refine WL.q (oq_assign rfl) rfl rfl rfl ?_
          refine WL.nil (WE.then_normal (WC.sub (fr' := [(2, _)]) ?_ ⟨rfl, trivial⟩))
          refine WC.ret (WE.block_ret (WE.then_ret (WE.then_ret (WE.block_ret (WE.then_ret ?_)))))
          refine WE.lose ho4 ?_
          refine WE.endR (.inl rfl) (res1 Tryz.results12 rfl) ?_
          exact congrArg Value.bool (all_not hlt (decide_eq_false (by unfold fineV; omega))).symm
         ·
          try simp only [Z1, Z2, Z3, Z4, Z5, Z6, Z7, Z8, Z9, Z0] at s6_42
          refine WQ.q (oq_fieldAddr fld24_0 rfl) rfl rfl rfl ?_
          refine WQ.q (oq_load flat3 rfl (.head _) (List.mem_singleton.2 rfl) rfl) rfl rfl rfl ?_
          refine WQ.q (oq_eql rfl rfl) rfl rfl rfl ?_
          refine WQ.q (oq_move rfl) rfl rfl rfl ?_
          refine WQ.split 65 rfl (fun s6_46 => ?_) (fun s6_46 => ?_)
          ·
           try simp only [Z1, Z2, Z3, Z4, Z5, Z6, Z7, Z8, Z9, Z0] at s6_46
           refine WQ.q (oq_fieldAddr fld24_3 rfl) rfl rfl rfl ?_
           refine WQ.q (oq_load flat9 rfl (.head _) (List.mem_singleton.2 rfl) rfl) rfl rfl rfl ?_
           refine WQ.q (oq_len_s Tryz.underlying9 rfl) rfl rfl rfl ?_
           refine WQ.q (oq_neq rfl rfl) rfl rfl rfl ?_
           refine WQ.q (oq_pick_t rfl rfl) rfl rfl rfl ?_
           refine WQ.q (oq_pick_f rfl rfl) rfl rfl rfl ?_
           refine WQ.q (oq_move rfl) rfl rfl rfl ?_
           refine WQ.split 72 rfl (fun s6_53 => ?_) (fun s6_53 => ?_)
           ·
            try simp only [Z1, Z2, Z3, Z4, Z5, Z6, Z7, Z8, Z9, Z0] at s6_53
            refine WQ.skip rfl rfl rfl ?_
            refine WQ.skip rfl rfl rfl ?_
            refine WQ.skip rfl rfl rfl ?_
            refine WQ.skip rfl rfl rfl ?_
            refine WQ.skip rfl rfl rfl ?_
            refine WQ.skip rfl rfl rfl ?_
            refine WQ.skip rfl rfl rfl ?_
            refine WQ.skip rfl rfl rfl ?_
            refine WQ.skip rfl rfl rfl ?_
            refine WQ.skip rfl rfl rfl ?_
            refine WQ.skip rfl rfl rfl ?_
            refine WQ.skip rfl rfl rfl ?_
            refine WQ.skip rfl rfl rfl ?_
            refine WQ.q (oq_pick_t rfl rfl) rfl rfl rfl ?_
            refine WQ.nil (WE.then_normal (WC.sub (fr' := [(0, _), (3, _), (86, _)]) ?_ ⟨rfl, rfl, rfl, trivial⟩))
            refine WC.cond_t rfl ?_
            refine WC.seq (WC.region ?_)
            refine WL.q (oq_assign rfl) rfl rfl rfl ?_
            refine WL.nil (WE.then_normal (WC.sub (fr' := [(2, _)]) ?_ ⟨rfl, trivial⟩))
            refine WC.ret (WE.block_ret (WE.then_ret (WE.then_ret (WE.block_ret (WE.then_ret ?_)))))
            refine WE.lose ho4 ?_
            refine WE.endR (.inl rfl) (res1 Tryz.results12 rfl) ?_
            exact congrArg Value.bool (all_not hlt (decide_eq_false (by unfold fineV; omega))).symm
           ·
            try simp only [Z1, Z2, Z3, Z4, Z5, Z6, Z7, Z8, Z9, Z0] at s6_53
            refine WQ.q (oq_fieldAddr fld24_0 rfl) rfl rfl rfl ?_
            refine WQ.q (oq_load flat3 rfl (.head _) (List.mem_singleton.2 rfl) rfl) rfl rfl rfl ?_
            refine WQ.q (oq_eql rfl rfl) rfl rfl rfl ?_
            refine WQ.q (oq_move rfl) rfl rfl rfl ?_
            refine WQ.split 76 rfl (fun s6_57 => ?_) (fun s6_57 => ?_)
            ·
             try simp only [Z1, Z2, Z3, Z4, Z5, Z6, Z7, Z8, Z9, Z0] at s6_57
             refine WQ.q (oq_fieldAddr fld24_2 rfl) rfl rfl rfl ?_
             refine WQ.q (oq_load flat2 rfl (.head _) (List.mem_singleton.2 rfl) rfl) rfl rfl rfl ?_
             refine WQ.q (oq_gtr rfl rfl) rfl rfl rfl ?_
             refine WQ.q (oq_move rfl) rfl rfl rfl ?_
             refine WQ.split 80 rfl (fun s6_61 => ?_) (fun s6_61 => ?_)
             ·
              try simp only [Z1, Z2, Z3, Z4, Z5, Z6, Z7, Z8, Z9, Z0] at s6_61
              refine WQ.skip rfl rfl rfl ?_
              refine WQ.skip rfl rfl rfl ?_
              refine WQ.skip rfl rfl rfl ?_
              refine WQ.q (oq_pick_t rfl rfl) rfl rfl rfl ?_
              refine WQ.q (oq_pick_t rfl rfl) rfl rfl rfl ?_
              refine WQ.q (oq_pick_f rfl rfl) rfl rfl rfl ?_
              refine WQ.nil (WE.then_normal (WC.sub (fr' := [(0, _), (3, _), (86, _)]) ?_ ⟨rfl, rfl, rfl, trivial⟩))
              refine WC.cond_t rfl ?_
              refine WC.seq (WC.region ?_)
              refine WL.q (oq_assign rfl) rfl rfl rfl ?_
              refine WL.nil (WE.then_normal (WC.sub (fr' := [(2, _)]) ?_ ⟨rfl, trivial⟩))
              refine WC.ret (WE.block_ret (WE.then_ret (WE.then_ret (WE.block_ret (WE.then_ret ?_)))))
              refine WE.lose ho4 ?_
              refine WE.endR (.inl rfl) (res1 Tryz.results12 rfl) ?_
              exact congrArg Value.bool (all_not hlt (decide_eq_false (by unfold fineV; omega))).symm
             ·
              try simp only [Z1, Z2, Z3, Z4, Z5, Z6, Z7, Z8, Z9, Z0] at s6_61
              refine WQ.q (oq_fieldAddr fld24_2 rfl) rfl rfl rfl ?_
              refine WQ.q (oq_load flat2 rfl (.head _) (List.mem_singleton.2 rfl) rfl) rfl rfl rfl ?_
              refine WQ.q (oq_lss rfl rfl) rfl rfl rfl ?_
              refine WQ.q (oq_pick_f rfl rfl) rfl rfl rfl ?_
              refine WQ.q (oq_pick_t rfl rfl) rfl rfl rfl ?_
              refine WQ.q (oq_pick_f rfl rfl) rfl rfl rfl ?_
              refine WQ.nil (WE.then_normal (WC.sub (fr' := [(0, _), (3, _), (86, _)]) ?_ ⟨rfl, rfl, rfl, trivial⟩))
              refine WC.cond rfl (fun q6 => ?_) (fun q6 => ?_)
              ·
               try simp only [Z1, Z2, Z3, Z4, Z5, Z6, Z7, Z8, Z9, Z0] at q6
               refine WC.seq (WC.region ?_)
               refine WL.q (oq_assign rfl) rfl rfl rfl ?_
               refine WL.nil (WE.then_normal (WC.sub (fr' := [(2, _)]) ?_ ⟨rfl, trivial⟩))
               refine WC.ret (WE.block_ret (WE.then_ret (WE.then_ret (WE.block_ret (WE.then_ret ?_)))))
               refine WE.lose ho4 ?_
               refine WE.endR (.inl rfl) (res1 Tryz.results12 rfl) ?_
               exact congrArg Value.bool (all_not hlt (decide_eq_false (by unfold fineV; omega))).symm
              ·
               try simp only [Z1, Z2, Z3, Z4, Z5, Z6, Z7, Z8, Z9, Z0] at q6
               refine WC.skip (WE.block_normal (WE.then_normal (WC.sub (fr' := [(0, _), (3, _)]) ?_ ⟨rfl, rfl, trivial⟩)))
               refine WC.region ?_
               refine WL.q (oq_move rfl) rfl rfl rfl ?_
               refine WL.q (oq_add rfl rfl (by rw [i64_lo, i64_hi]; (first | omega | (simp only [List.length_cons, List.length_nil, List.length_append, List.length_drop, List.length_take]; omega)))) rfl rfl rfl ?_
               refine WL.q (oq_assign rfl) rfl rfl rfl ?_
               refine WL.nil ?_
               refine WE.lose ho4 ?_
               refine WE.again (i + 1) ?_ ?_ ⟨rfl, rfl, trivial⟩ (List.Perm.refl _)
               ·try dsimp only
                exact ⟨by omega, all_snoc (by omega) hall (decide_eq_true (by unfold fineV; omega))⟩
               ·(try dsimp only); omega
            ·
             try simp only [Z1, Z2, Z3, Z4, Z5, Z6, Z7, Z8, Z9, Z0] at s6_57
             refine WQ.skip rfl rfl rfl ?_
             refine WQ.skip rfl rfl rfl ?_
             refine WQ.skip rfl rfl rfl ?_
             refine WQ.skip rfl rfl rfl ?_
             refine WQ.skip rfl rfl rfl ?_
             refine WQ.skip rfl rfl rfl ?_
             refine WQ.skip rfl rfl rfl ?_
             refine WQ.skip rfl rfl rfl ?_
             refine WQ.q (oq_pick_f rfl rfl) rfl rfl rfl ?_
             refine WQ.q (oq_pick_f rfl rfl) rfl rfl rfl ?_
             refine WQ.nil (WE.then_normal (WC.sub (fr' := [(0, _), (3, _), (86, _)]) ?_ ⟨rfl, rfl, rfl, trivial⟩))
             refine WC.cond_f rfl ?_
             refine WC.skip (WE.block_normal (WE.then_normal (WC.sub (fr' := [(0, _), (3, _)]) ?_ ⟨rfl, rfl, trivial⟩)))
             refine WC.region ?_
             refine WL.q (oq_move rfl) rfl rfl rfl ?_
             refine WL.q (oq_add rfl rfl (by rw [i64_lo, i64_hi]; (first | omega | (simp only [List.length_cons, List.length_nil, List.length_append, List.length_drop, List.length_take]; omega)))) rfl rfl rfl ?_
             refine WL.q (oq_assign rfl) rfl rfl rfl ?_
             refine WL.nil ?_
             refine WE.lose ho4 ?_
             refine WE.again (i + 1) ?_ ?_ ⟨rfl, rfl, trivial⟩ (List.Perm.refl _)
             ·try dsimp only
              exact ⟨by omega, all_snoc (by omega) hall (decide_eq_true (by unfold fineV; omega))⟩
             ·(try dsimp only); omega
          ·
           try simp only [Z1, Z2, Z3, Z4, Z5, Z6, Z7, Z8, Z9, Z0] at s6_46
           refine WQ.skip rfl rfl rfl ?_
           refine WQ.skip rfl rfl rfl ?_
           refine WQ.skip rfl rfl rfl ?_
           refine WQ.skip rfl rfl rfl ?_
           refine WQ.q (oq_pick_f rfl rfl) rfl rfl rfl ?_
           refine WQ.q (oq_pick_f rfl rfl) rfl rfl rfl ?_
           refine WQ.q (oq_move rfl) rfl rfl rfl ?_
           refine WQ.q (oq_fieldAddr fld24_0 rfl) rfl rfl rfl ?_
           refine WQ.q (oq_load flat3 rfl (.head _) (List.mem_singleton.2 rfl) rfl) rfl rfl rfl ?_
           refine WQ.q (oq_eql rfl rfl) rfl rfl rfl ?_
           refine WQ.q (oq_move rfl) rfl rfl rfl ?_
           refine WQ.split 76 rfl (fun s6_57 => ?_) (fun s6_57 => ?_)
           ·
            try simp only [Z1, Z2, Z3, Z4, Z5, Z6, Z7, Z8, Z9, Z0] at s6_57
            refine WQ.q (oq_fieldAddr fld24_2 rfl) rfl rfl rfl ?_
            refine WQ.q (oq_load flat2 rfl (.head _) (List.mem_singleton.2 rfl) rfl) rfl rfl rfl ?_
            refine WQ.q (oq_gtr rfl rfl) rfl rfl rfl ?_
            refine WQ.q (oq_move rfl) rfl rfl rfl ?_
            refine WQ.split 80 rfl (fun s6_61 => ?_) (fun s6_61 => ?_)
            ·
             try simp only [Z1, Z2, Z3, Z4, Z5, Z6, Z7, Z8, Z9, Z0] at s6_61
             refine WQ.skip rfl rfl rfl ?_
             refine WQ.skip rfl rfl rfl ?_
             refine WQ.skip rfl rfl rfl ?_
             refine WQ.q (oq_pick_t rfl rfl) rfl rfl rfl ?_
             refine WQ.q (oq_pick_t rfl rfl) rfl rfl rfl ?_
             refine WQ.q (oq_pick_f rfl rfl) rfl rfl rfl ?_
             refine WQ.nil (WE.then_normal (WC.sub (fr' := [(0, _), (3, _), (86, _)]) ?_ ⟨rfl, rfl, rfl, trivial⟩))
             refine WC.cond_t rfl ?_
             refine WC.seq (WC.region ?_)
             refine WL.q (oq_assign rfl) rfl rfl rfl ?_
             refine WL.nil (WE.then_normal (WC.sub (fr' := [(2, _)]) ?_ ⟨rfl, trivial⟩))
             refine WC.ret (WE.block_ret (WE.then_ret (WE.then_ret (WE.block_ret (WE.then_ret ?_)))))
             refine WE.lose ho4 ?_
             refine WE.endR (.inl rfl) (res1 Tryz.results12 rfl) ?_
             exact congrArg Value.bool (all_not hlt (decide_eq_false (by unfold fineV; omega))).symm
            ·
             try simp only [Z1, Z2, Z3, Z4, Z5, Z6, Z7, Z8, Z9, Z0] at s6_61
             refine WQ.q (oq_fieldAddr fld24_2 rfl) rfl rfl rfl ?_
             refine WQ.q (oq_load flat2 rfl (.head _) (List.mem_singleton.2 rfl) rfl) rfl rfl rfl ?_
             refine WQ.q (oq_lss rfl rfl) rfl rfl rfl ?_
             refine WQ.q (oq_pick_f rfl rfl) rfl rfl rfl ?_
             refine WQ.q (oq_pick_t rfl rfl) rfl rfl rfl ?_
             refine WQ.q (oq_pick_f rfl rfl) rfl rfl rfl ?_
             refine WQ.nil (WE.then_normal (WC.sub (fr' := [(0, _), (3, _), (86, _)]) ?_ ⟨rfl, rfl, rfl, trivial⟩))
             refine WC.cond rfl (fun q6 => ?_) (fun q6 => ?_)
             ·
              try simp only [Z1, Z2, Z3, Z4, Z5, Z6, Z7, Z8, Z9, Z0] at q6
              refine WC.seq (WC.region ?_)
              refine WL.q (oq_assign rfl) rfl rfl rfl ?_
              refine WL.nil (WE.then_normal (WC.sub (fr' := [(2, _)]) ?_ ⟨rfl, trivial⟩))
              refine WC.ret (WE.block_ret (WE.then_ret (WE.then_ret (WE.block_ret (WE.then_ret ?_)))))
              refine WE.lose ho4 ?_
              refine WE.endR (.inl rfl) (res1 Tryz.results12 rfl) ?_
              exact congrArg Value.bool (all_not hlt (decide_eq_false (by unfold fineV; omega))).symm
             ·
              try simp only [Z1, Z2, Z3, Z4, Z5, Z6, Z7, Z8, Z9, Z0] at q6
              refine WC.skip (WE.block_normal (WE.then_normal (WC.sub (fr' := [(0, _), (3, _)]) ?_ ⟨rfl, rfl, trivial⟩)))
              refine WC.region ?_
              refine WL.q (oq_move rfl) rfl rfl rfl ?_
              refine WL.q (oq_add rfl rfl (by rw [i64_lo, i64_hi]; (first | omega | (simp only [List.length_cons, List.length_nil, List.length_append, List.length_drop, List.length_take]; omega)))) rfl rfl rfl ?_
              refine WL.q (oq_assign rfl) rfl rfl rfl ?_
              refine WL.nil ?_
              refine WE.lose ho4 ?_
              refine WE.again (i + 1) ?_ ?_ ⟨rfl, rfl, trivial⟩ (List.Perm.refl _)
              ·try dsimp only
               exact ⟨by omega, all_snoc (by omega) hall (decide_eq_true (by unfold fineV; omega))⟩
              ·(try dsimp only); omega
           ·
            try simp only [Z1, Z2, Z3, Z4, Z5, Z6, Z7, Z8, Z9, Z0] at s6_57
            refine WQ.skip rfl rfl rfl ?_
            refine WQ.skip rfl rfl rfl ?_
            refine WQ.skip rfl rfl rfl ?_
            refine WQ.skip rfl rfl rfl ?_
            refine WQ.skip rfl rfl rfl ?_
            refine WQ.skip rfl rfl rfl ?_
            refine WQ.skip rfl rfl rfl ?_
            refine WQ.skip rfl rfl rfl ?_
            refine WQ.q (oq_pick_f rfl rfl) rfl rfl rfl ?_
            refine WQ.q (oq_pick_f rfl rfl) rfl rfl rfl ?_
            refine WQ.nil (WE.then_normal (WC.sub (fr' := [(0, _), (3, _), (86, _)]) ?_ ⟨rfl, rfl, rfl, trivial⟩))
            refine WC.cond_f rfl ?_
            refine WC.skip (WE.block_normal (WE.then_normal (WC.sub (fr' := [(0, _), (3, _)]) ?_ ⟨rfl, rfl, trivial⟩)))
            refine WC.region ?_
            refine WL.q (oq_move rfl) rfl rfl rfl ?_
            refine WL.q (oq_add rfl rfl (by rw [i64_lo, i64_hi]; (first | omega | (simp only [List.length_cons, List.length_nil, List.length_append, List.length_drop, List.length_take]; omega)))) rfl rfl rfl ?_
            refine WL.q (oq_assign rfl) rfl rfl rfl ?_
            refine WL.nil ?_
            refine WE.lose ho4 ?_
            refine WE.again (i + 1) ?_ ?_ ⟨rfl, rfl, trivial⟩ (List.Perm.refl _)
            ·try dsimp only
             exact ⟨by omega, all_snoc (by omega) hall (decide_eq_true (by unfold fineV; omega))⟩
            ·(try dsimp only); omega
       ·
        try simp only [Z1, Z2, Z3, Z4, Z5, Z6, Z7, Z8, Z9, Z0] at s6_19
        refine WQ.skip rfl rfl rfl ?_
        refine WQ.skip rfl rfl rfl ?_
        refine WQ.q (oq_pick_f rfl rfl) rfl rfl rfl ?_
        refine WQ.q (oq_move rfl) rfl rfl rfl ?_
        refine WQ.skip rfl rfl rfl ?_
        refine WQ.skip rfl rfl rfl ?_
        refine WQ.q (oq_pick_f rfl rfl) rfl rfl rfl ?_
        refine WQ.q (oq_move rfl) rfl rfl rfl ?_
        refine WQ.q (oq_fieldAddr fld24_2 rfl) rfl rfl rfl ?_
        refine WQ.q (oq_load flat2 rfl (.head _) (List.mem_singleton.2 rfl) rfl) rfl rfl rfl ?_
        refine WQ.q (oq_move rfl) rfl rfl rfl ?_
        refine WQ.q (oq_sub rfl rfl (by rw [i64_lo, i64_hi]; (first | omega | (simp only [List.length_cons, List.length_nil, List.length_append, List.length_drop, List.length_take]; omega)))) rfl rfl rfl ?_
        refine WQ.q (oq_shl rfl rfl (by omega)) rfl rfl rfl ?_
        refine WQ.q (oq_move rfl) rfl rfl rfl ?_
        refine WQ.q (oq_sub rfl rfl (by rw [i64_lo, i64_hi]; (first | omega | (simp only [List.length_cons, List.length_nil, List.length_append, List.length_drop, List.length_take]; omega)))) rfl rfl rfl ?_
        refine WQ.q (oq_shr rfl rfl (by omega)) rfl rfl rfl ?_
        refine WQ.q (oq_fieldAddr fld24_2 rfl) rfl rfl rfl ?_
        refine WQ.q (oq_load flat2 rfl (.head _) (List.mem_singleton.2 rfl) rfl) rfl rfl rfl ?_
        refine WQ.q (oq_neq rfl rfl) rfl rfl rfl ?_
        refine WQ.q (oq_pick_f rfl rfl) rfl rfl rfl ?_
        refine WQ.q (oq_pick_t rfl rfl) rfl rfl rfl ?_
        refine WQ.q (oq_pick_f rfl rfl) rfl rfl rfl ?_
        refine WQ.q (oq_move rfl) rfl rfl rfl ?_
        refine WQ.split 61 rfl (fun s6_42 => ?_) (fun s6_42 => ?_)
        ·
         try simp only [Z1, Z2, Z3, Z4, Z5, Z6, Z7, Z8, Z9, Z0] at s6_42
         refine WQ.skip rfl rfl rfl ?_
         refine WQ.skip rfl rfl rfl ?_
         refine WQ.skip rfl rfl rfl ?_
         refine WQ.skip rfl rfl rfl ?_
         refine WQ.skip rfl rfl rfl ?_
         refine WQ.skip rfl rfl rfl ?_
         refine WQ.skip rfl rfl rfl ?_
         refine WQ.skip rfl rfl rfl ?_
         refine WQ.skip rfl rfl rfl ?_
         refine WQ.q (oq_pick_t rfl rfl) rfl rfl rfl ?_
         refine WQ.q (oq_move rfl) rfl rfl rfl ?_
         refine WQ.skip rfl rfl rfl ?_
         refine WQ.skip rfl rfl rfl ?_
         refine WQ.skip rfl rfl rfl ?_
         refine WQ.skip rfl rfl rfl ?_
         refine WQ.skip rfl rfl rfl ?_
         refine WQ.skip rfl rfl rfl ?_
         refine WQ.skip rfl rfl rfl ?_
         refine WQ.skip rfl rfl rfl ?_
         refine WQ.skip rfl rfl rfl ?_
         refine WQ.skip rfl rfl rfl ?_
         refine WQ.skip rfl rfl rfl ?_
         refine WQ.skip rfl rfl rfl ?_
         refine WQ.skip rfl rfl rfl ?_
         refine WQ.q (oq_pick_t rfl rfl) rfl rfl rfl ?_
         refine WQ.nil (WE.then_normal (WC.sub (fr' := [(0, _), (3, _), (86, _)]) ?_ ⟨rfl, rfl, rfl, trivial⟩))
         refine WC.cond_t rfl ?_
         refine WC.seq (WC.region ?_)
         refine WL.q (oq_assign rfl) rfl rfl rfl ?_
         refine WL.nil (WE.then_normal (WC.sub (fr' := [(2, _)]) ?_ ⟨rfl, trivial⟩))
         refine WC.ret (WE.block_ret (WE.then_ret (WE.then_ret (WE.block_ret (WE.then_ret ?_)))))
         refine WE.lose ho4 ?_
         refine WE.endR (.inl rfl) (res1 Tryz.results12 rfl) ?_
         exact congrArg Value.bool (all_not hlt (decide_eq_false (by unfold fineV; omega))).symm
        ·
         try simp only [Z1, Z2, Z3, Z4, Z5, Z6, Z7, Z8, Z9, Z0] at s6_42
         refine WQ.q (oq_fieldAddr fld24_0 rfl) rfl rfl rfl ?_
         refine WQ.q (oq_load flat3 rfl (.head _) (List.mem_singleton.2 rfl) rfl) rfl rfl rfl ?_
         refine WQ.q (oq_eql rfl rfl) rfl rfl rfl ?_
         refine WQ.q (oq_move rfl) rfl rfl rfl ?_
         refine WQ.split 65 rfl (fun s6_46 => ?_) (fun s6_46 => ?_)
         ·
          try simp only [Z1, Z2, Z3, Z4, Z5, Z6, Z7, Z8, Z9, Z0] at s6_46
          refine WQ.q (oq_fieldAddr fld24_3 rfl) rfl rfl rfl ?_
          refine WQ.q (oq_load flat9 rfl (.head _) (List.mem_singleton.2 rfl) rfl) rfl rfl rfl ?_
          refine WQ.q (oq_len_s Tryz.underlying9 rfl) rfl rfl rfl ?_
          refine WQ.q (oq_neq rfl rfl) rfl rfl rfl ?_
          refine WQ.q (oq_pick_t rfl rfl) rfl rfl rfl ?_
          refine WQ.q (oq_pick_f rfl rfl) rfl rfl rfl ?_
          refine WQ.q (oq_move rfl) rfl rfl rfl ?_
          refine WQ.split 72 rfl (fun s6_53 => ?_) (fun s6_53 => ?_)
          ·
           try simp only [Z1, Z2, Z3, Z4, Z5, Z6, Z7, Z8, Z9, Z0] at s6_53
           refine WQ.skip rfl rfl rfl ?_
           refine WQ.skip rfl rfl rfl ?_
           refine WQ.skip rfl rfl rfl ?_
           refine WQ.skip rfl rfl rfl ?_
           refine WQ.skip rfl rfl rfl ?_
           refine WQ.skip rfl rfl rfl ?_
           refine WQ.skip rfl rfl rfl ?_
           refine WQ.skip rfl rfl rfl ?_
           refine WQ.skip rfl rfl rfl ?_
           refine WQ.skip rfl rfl rfl ?_
           refine WQ.skip rfl rfl rfl ?_
           refine WQ.skip rfl rfl rfl ?_
           refine WQ.skip rfl rfl rfl ?_
           refine WQ.q (oq_pick_t rfl rfl) rfl rfl rfl ?_
           refine WQ.nil (WE.then_normal (WC.sub (fr' := [(0, _), (3, _), (86, _)]) ?_ ⟨rfl, rfl, rfl, trivial⟩))
           refine WC.cond_t rfl ?_
           refine WC.seq (WC.region ?_)
           refine WL.q (oq_assign rfl) rfl rfl rfl ?_
           refine WL.nil (WE.then_normal (WC.sub (fr' := [(2, _)]) ?_ ⟨rfl, trivial⟩))
           refine WC.ret (WE.block_ret (WE.then_ret (WE.then_ret (WE.block_ret (WE.then_ret ?_)))))
           refine WE.lose ho4 ?_
           refine WE.endR (.inl rfl) (res1 Tryz.results12 rfl) ?_
           exact congrArg Value.bool (all_not hlt (decide_eq_false (by unfold fineV; omega))).symm
          ·
           try simp only [Z1, Z2, Z3, Z4, Z5, Z6, Z7, Z8, Z9, Z0] at s6_53
           refine WQ.q (oq_fieldAddr fld24_0 rfl) rfl rfl rfl ?_
           refine WQ.q (oq_load flat3 rfl (.head _) (List.mem_singleton.2 rfl) rfl) rfl rfl rfl ?_
           refine WQ.q (oq_eql rfl rfl) rfl rfl rfl ?_
           refine WQ.q (oq_move rfl) rfl rfl rfl ?_
           refine WQ.split 76 rfl (fun s6_57 => ?_) (fun s6_57 => ?_)
           ·
            try simp only [Z1, Z2, Z3, Z4, Z5, Z6, Z7, Z8, Z9, Z0] at s6_57
            refine WQ.q (oq_fieldAddr fld24_2 rfl) rfl rfl rfl ?_
            refine WQ.q (oq_load flat2 rfl (.head _) (List.mem_singleton.2 rfl) rfl) rfl rfl rfl ?_
            refine WQ.q (oq_gtr rfl rfl) rfl rfl rfl ?_
            refine WQ.q (oq_move rfl) rfl rfl rfl ?_
            refine WQ.split 80 rfl (fun s6_61 => ?_) (fun s6_61 => ?_)
            ·
             try simp only [Z1, Z2, Z3, Z4, Z5, Z6, Z7, Z8, Z9, Z0] at s6_61
             refine WQ.skip rfl rfl rfl ?_
             refine WQ.skip rfl rfl rfl ?_
             refine WQ.skip rfl rfl rfl ?_
             refine WQ.q (oq_pick_t rfl rfl) rfl rfl rfl ?_
             refine WQ.q (oq_pick_t rfl rfl) rfl rfl rfl ?_
             refine WQ.q (oq_pick_f rfl rfl) rfl rfl rfl ?_
             refine WQ.nil (WE.then_normal (WC.sub (fr' := [(0, _), (3, _), (86, _)]) ?_ ⟨rfl, rfl, rfl, trivial⟩))
             refine WC.cond_t rfl ?_
             refine WC.seq (WC.region ?_)
             refine WL.q (oq_assign rfl) rfl rfl rfl ?_
             refine WL.nil (WE.then_normal (WC.sub (fr' := [(2, _)]) ?_ ⟨rfl, trivial⟩))
             refine WC.ret (WE.block_ret (WE.then_ret (WE.then_ret (WE.block_ret (WE.then_ret ?_)))))
             refine WE.lose ho4 ?_
             refine WE.endR (.inl rfl) (res1 Tryz.results12 rfl) ?_
             exact congrArg Value.bool (all_not hlt (decide_eq_false (by unfold fineV; omega))).symm
            ·
             try simp only [Z1, Z2, Z3, Z4, Z5, Z6, Z7, Z8, Z9, Z0] at s6_61
             refine WQ.q (oq_fieldAddr fld24_2 rfl) rfl rfl rfl ?_
             refine WQ.q (oq_load flat2 rfl (.head _) (List.mem_singleton.2 rfl) rfl) rfl rfl rfl ?_
             refine WQ.q (oq_lss rfl rfl) rfl rfl rfl ?_
             refine WQ.q (oq_pick_f rfl rfl) rfl rfl rfl ?_
             refine WQ.q (oq_pick_t rfl rfl) rfl rfl rfl ?_
             refine WQ.q (oq_pick_f rfl rfl) rfl rfl rfl ?_
             refine WQ.nil (WE.then_normal (WC.sub (fr' := [(0, _), (3, _), (86, _)]) ?_ ⟨rfl, rfl, rfl, trivial⟩))
             refine WC.cond rfl (fun q6 => ?_) (fun q6 => ?_)
             ·
              try simp only [Z1, Z2, Z3, Z4, Z5, Z6, Z7, Z8, Z9, Z0] at q6
              refine WC.seq (WC.region ?_)
              refine WL.q (oq_assign rfl) rfl rfl rfl ?_
              refine WL.nil (WE.then_normal (WC.sub (fr' := [(2, _)]) ?_ ⟨rfl, trivial⟩))
              refine WC.ret (WE.block_ret (WE.then_ret (WE.then_ret (WE.block_ret (WE.then_ret ?_)))))
              refine WE.lose ho4 ?_
              refine WE.endR (.inl rfl) (res1 Tryz.results12 rfl) ?_
              exact congrArg Value.bool (all_not hlt (decide_eq_false (by unfold fineV; omega))).symm
             ·
              try simp only [Z1, Z2, Z3, Z4, Z5, Z6, Z7, Z8, Z9, Z0] at q6
              refine WC.skip (WE.block_normal (WE.then_normal (WC.sub (fr' := [(0, _), (3, _)]) ?_ ⟨rfl, rfl, trivial⟩)))
              refine WC.region ?_
              refine WL.q (oq_move rfl) rfl rfl rfl ?_
              refine WL.q (oq_add rfl rfl (by rw [i64_lo, i64_hi]; (first | omega | (simp only [List.length_cons, List.length_nil, List.length_append, List.length_drop, List.length_take]; omega)))) rfl rfl rfl ?_
              refine WL.q (oq_assign rfl) rfl rfl rfl ?_
              refine WL.nil ?_
              refine WE.lose ho4 ?_
              refine WE.again (i + 1) ?_ ?_ ⟨rfl, rfl, trivial⟩ (List.Perm.refl _)
              ·try dsimp only
               exact ⟨by omega, all_snoc (by omega) hall (decide_eq_true (by unfold fineV; omega))⟩
              ·(try dsimp only); omega
           ·
            try simp only [Z1, Z2, Z3, Z4, Z5, Z6, Z7, Z8, Z9, Z0] at s6_57
            refine WQ.skip rfl rfl rfl ?_
            refine WQ.skip rfl rfl rfl ?_
            refine WQ.skip rfl rfl rfl ?_
            refine WQ.skip rfl rfl rfl ?_
            refine WQ.skip rfl rfl rfl ?_
            refine WQ.skip rfl rfl rfl ?_
            refine WQ.skip rfl rfl rfl ?_
            refine WQ.skip rfl rfl rfl ?_
            refine WQ.q (oq_pick_f rfl rfl) rfl rfl rfl ?_
            refine WQ.q (oq_pick_f rfl rfl) rfl rfl rfl ?_
            refine WQ.nil (WE.then_normal (WC.sub (fr' := [(0, _), (3, _), (86, _)]) ?_ ⟨rfl, rfl, rfl, trivial⟩))
            refine WC.cond_f rfl ?_
            refine WC.skip (WE.block_normal (WE.then_normal (WC.sub (fr' := [(0, _), (3, _)]) ?_ ⟨rfl, rfl, trivial⟩)))
            refine WC.region ?_
            refine WL.q (oq_move rfl) rfl rfl rfl ?_
            refine WL.q (oq_add rfl rfl (by rw [i64_lo, i64_hi]; (first | omega | (simp only [List.length_cons, List.length_nil, List.length_append, List.length_drop, List.length_take]; omega)))) rfl rfl rfl ?_
            refine WL.q (oq_assign rfl) rfl rfl rfl ?_
            refine WL.nil ?_
            refine WE.lose ho4 ?_
            refine WE.again (i + 1) ?_ ?_ ⟨rfl, rfl, trivial⟩ (List.Perm.refl _)
            ·try dsimp only
             exact ⟨by omega, all_snoc (by omega) hall (decide_eq_true (by unfold fineV; omega))⟩
            ·(try dsimp only); omega
         ·
          try simp only [Z1, Z2, Z3, Z4, Z5, Z6, Z7, Z8, Z9, Z0] at s6_46
          refine WQ.skip rfl rfl rfl ?_
          refine WQ.skip rfl rfl rfl ?_
          refine WQ.skip rfl rfl rfl ?_
          refine WQ.skip rfl rfl rfl ?_
          refine WQ.q (oq_pick_f rfl rfl) rfl rfl rfl ?_
          refine WQ.q (oq_pick_f rfl rfl) rfl rfl rfl ?_
          refine WQ.q (oq_move rfl) rfl rfl rfl ?_
          refine WQ.q (oq_fieldAddr fld24_0 rfl) rfl rfl rfl ?_
          refine WQ.q (oq_load flat3 rfl (.head _) (List.mem_singleton.2 rfl) rfl) rfl rfl rfl ?_
          refine WQ.q (oq_eql rfl rfl) rfl rfl rfl ?_
          refine WQ.q (oq_move rfl) rfl rfl rfl ?_
          refine WQ.split 76 rfl (fun s6_57 => ?_) (fun s6_57 => ?_)
          ·
           try simp only [Z1, Z2, Z3, Z4, Z5, Z6, Z7, Z8, Z9, Z0] at s6_57
           refine WQ.q (oq_fieldAddr fld24_2 rfl) rfl rfl rfl ?_
           refine WQ.q (oq_load flat2 rfl (.head _) (List.mem_singleton.2 rfl) rfl) rfl rfl rfl ?_
           refine WQ.q (oq_gtr rfl rfl) rfl rfl rfl ?_
           refine WQ.q (oq_move rfl) rfl rfl rfl ?_
           refine WQ.split 80 rfl (fun s6_61 => ?_) (fun s6_61 => ?_)
           ·
            try simp only [Z1, Z2, Z3, Z4, Z5, Z6, Z7, Z8, Z9, Z0] at s6_61
            refine WQ.skip rfl rfl rfl ?_
            refine WQ.skip rfl rfl rfl ?_
            refine WQ.skip rfl rfl rfl ?_
            refine WQ.q (oq_pick_t rfl rfl) rfl rfl rfl ?_
            refine WQ.q (oq_pick_t rfl rfl) rfl rfl rfl ?_
            refine WQ.q (oq_pick_f rfl rfl) rfl rfl rfl ?_
            refine WQ.nil (WE.then_normal (WC.sub (fr' := [(0, _), (3, _), (86, _)]) ?_ ⟨rfl, rfl, rfl, trivial⟩))
            refine WC.cond_t rfl ?_
            refine WC.seq (WC.region ?_)
            refine WL.q (oq_assign rfl) rfl rfl rfl ?_
            refine WL.nil (WE.then_normal (WC.sub (fr' := [(2, _)]) ?_ ⟨rfl, trivial⟩))
            refine WC.ret (WE.block_ret (WE.then_ret (WE.then_ret (WE.block_ret (WE.then_ret ?_)))))
            refine WE.lose ho4 ?_
            refine WE.endR (.inl rfl) (res1 Tryz.results12 rfl) ?_
            exact congrArg Value.bool (all_not hlt (decide_eq_false (by unfold fineV; omega))).symm
           ·
            try simp only [Z1, Z2, Z3, Z4, Z5, Z6, Z7, Z8, Z9, Z0] at s6_61
            refine WQ.q (oq_fieldAddr fld24_2 rfl) rfl rfl rfl ?_
            refine WQ.q (oq_load flat2 rfl (.head _) (List.mem_singleton.2 rfl) rfl) rfl rfl rfl ?_
            refine WQ.q (oq_lss rfl rfl) rfl rfl rfl ?_
            refine WQ.q (oq_pick_f rfl rfl) rfl rfl rfl ?_
            refine WQ.q (oq_pick_t rfl rfl) rfl rfl rfl ?_
            refine WQ.q (oq_pick_f rfl rfl) rfl rfl rfl ?_
            refine WQ.nil (WE.then_normal (WC.sub (fr' := [(0, _), (3, _), (86, _)]) ?_ ⟨rfl, rfl, rfl, trivial⟩))
            refine WC.cond rfl (fun q6 => ?_) (fun q6 => ?_)
            ·
             try simp only [Z1, Z2, Z3, Z4, Z5, Z6, Z7, Z8, Z9, Z0] at q6
             refine WC.seq (WC.region ?_)
             refine WL.q (oq_assign rfl) rfl rfl rfl ?_
             refine WL.nil (WE.then_normal (WC.sub (fr' := [(2, _)]) ?_ ⟨rfl, trivial⟩))
             refine WC.ret (WE.block_ret (WE.then_ret (WE.then_ret (WE.block_ret (WE.then_ret ?_)))))
             refine WE.lose ho4 ?_
             refine WE.endR (.inl rfl) (res1 Tryz.results12 rfl) ?_
             exact congrArg Value.bool (all_not hlt (decide_eq_false (by unfold fineV; omega))).symm
            ·
             try simp only [Z1, Z2, Z3, Z4, Z5, Z6, Z7, Z8, Z9, Z0] at q6
             refine WC.skip (WE.block_normal (WE.then_normal (WC.sub (fr' := [(0, _), (3, _)]) ?_ ⟨rfl, rfl, trivial⟩)))
             refine WC.region ?_
             refine WL.q (oq_move rfl) rfl rfl rfl ?_
             refine WL.q (oq_add rfl rfl (by rw [i64_lo, i64_hi]; (first | omega | (simp only [List.length_cons, List.length_nil, List.length_append, List.length_drop, List.length_take]; omega)))) rfl rfl rfl ?_
             refine WL.q (oq_assign rfl) rfl rfl rfl ?_
             refine WL.nil ?_
             refine WE.lose ho4 ?_
             refine WE.again (i + 1) ?_ ?_ ⟨rfl, rfl, trivial⟩ (List.Perm.refl _)
             ·try dsimp only
              exact ⟨by omega, all_snoc (by omega) hall (decide_eq_true (by unfold fineV; omega))⟩
             ·(try dsimp only); omega
          ·
           try simp only [Z1, Z2, Z3, Z4, Z5, Z6, Z7, Z8, Z9, Z0] at s6_57
           refine WQ.skip rfl rfl rfl ?_
           refine WQ.skip rfl rfl rfl ?_
           refine WQ.skip rfl rfl rfl ?_
           refine WQ.skip rfl rfl rfl ?_
           refine WQ.skip rfl rfl rfl ?_
           refine WQ.skip rfl rfl rfl ?_
           refine WQ.skip rfl rfl rfl ?_
           refine WQ.skip rfl rfl rfl ?_
           refine WQ.q (oq_pick_f rfl rfl) rfl rfl rfl ?_
           refine WQ.q (oq_pick_f rfl rfl) rfl rfl rfl ?_
           refine WQ.nil (WE.then_normal (WC.sub (fr' := [(0, _), (3, _), (86, _)]) ?_ ⟨rfl, rfl, rfl, trivial⟩))
           refine WC.cond_f rfl ?_
           refine WC.skip (WE.block_normal (WE.then_normal (WC.sub (fr' := [(0, _), (3, _)]) ?_ ⟨rfl, rfl, trivial⟩)))
           refine WC.region ?_
           refine WL.q (oq_move rfl) rfl rfl rfl ?_
           refine WL.q (oq_add rfl rfl (by rw [i64_lo, i64_hi]; (first | omega | (simp only [List.length_cons, List.length_nil, List.length_append, List.length_drop, List.length_take]; omega)))) rfl rfl rfl ?_
           refine WL.q (oq_assign rfl) rfl rfl rfl ?_
           refine WL.nil ?_
           refine WE.lose ho4 ?_
           refine WE.again (i + 1) ?_ ?_ ⟨rfl, rfl, trivial⟩ (List.Perm.refl _)
           ·try dsimp only
            exact ⟨by omega, all_snoc (by omega) hall (decide_eq_true (by unfold fineV; omega))⟩
           ·(try dsimp only); omega
      ·
       try simp only [Z1, Z2, Z3, Z4, Z5, Z6, Z7, Z8, Z9, Z0] at s6_15
       refine WQ.skip rfl rfl rfl ?_
       refine WQ.skip rfl rfl rfl ?_
       refine WQ.q (oq_pick_f rfl rfl) rfl rfl rfl ?_
       refine WQ.q (oq_move rfl) rfl rfl rfl ?_
       refine WQ.skip rfl rfl rfl ?_
       refine WQ.skip rfl rfl rfl ?_
       refine WQ.q (oq_pick_f rfl rfl) rfl rfl rfl ?_
       refine WQ.q (oq_move rfl) rfl rfl rfl ?_
       refine WQ.skip rfl rfl rfl ?_
       refine WQ.skip rfl rfl rfl ?_
       refine WQ.q (oq_pick_f rfl rfl) rfl rfl rfl ?_
       refine WQ.q (oq_move rfl) rfl rfl rfl ?_
       refine WQ.q (oq_fieldAddr fld24_2 rfl) rfl rfl rfl ?_
       refine WQ.q (oq_load flat2 rfl (.head _) (List.mem_singleton.2 rfl) rfl) rfl rfl rfl ?_
       refine WQ.q (oq_move rfl) rfl rfl rfl ?_
       refine WQ.q (oq_sub rfl rfl (by rw [i64_lo, i64_hi]; (first | omega | (simp only [List.length_cons, List.length_nil, List.length_append, List.length_drop, List.length_take]; omega)))) rfl rfl rfl ?_
       refine WQ.q (oq_shl rfl rfl (by omega)) rfl rfl rfl ?_
       refine WQ.q (oq_move rfl) rfl rfl rfl ?_
       refine WQ.q (oq_sub rfl rfl (by rw [i64_lo, i64_hi]; (first | omega | (simp only [List.length_cons, List.length_nil, List.length_append, List.length_drop, List.length_take]; omega)))) rfl rfl rfl ?_
       refine WQ.q (oq_shr rfl rfl (by omega)) rfl rfl rfl ?_
       refine WQ.q (oq_fieldAddr fld24_2 rfl) rfl rfl rfl ?_
       refine WQ.q (oq_load flat2 rfl (.head _) (List.mem_singleton.2 rfl) rfl) rfl rfl rfl ?_
       refine WQ.q (oq_neq rfl rfl) rfl rfl rfl ?_
       refine WQ.q (oq_pick_f rfl rfl) rfl rfl rfl ?_
       refine WQ.q (oq_pick_t rfl rfl) rfl rfl rfl ?_
       refine WQ.q (oq_pick_f rfl rfl) rfl rfl rfl ?_
       refine WQ.q (oq_move rfl) rfl rfl rfl ?_
       refine WQ.split 61 rfl (fun s6_42 => ?_) (fun s6_42 => ?_)
       ·
        try simp only [Z1, Z2, Z3, Z4, Z5, Z6, Z7, Z8, Z9, Z0] at s6_42
        refine WQ.skip rfl rfl rfl ?_
        refine WQ.skip rfl rfl rfl ?_
        refine WQ.skip rfl rfl rfl ?_
        refine WQ.skip rfl rfl rfl ?_
        refine WQ.skip rfl rfl rfl ?_
        refine WQ.skip rfl rfl rfl ?_
        refine WQ.skip rfl rfl rfl ?_
        refine WQ.skip rfl rfl rfl ?_
        refine WQ.skip rfl rfl rfl ?_
        refine WQ.q (oq_pick_t rfl rfl) rfl rfl rfl ?_
        refine WQ.q (oq_move rfl) rfl rfl rfl ?_
        refine WQ.skip rfl rfl rfl ?_
        refine WQ.skip rfl rfl rfl ?_
        refine WQ.skip rfl rfl rfl ?_
        refine WQ.skip rfl rfl rfl ?_
        refine WQ.skip rfl rfl rfl ?_
        refine WQ.skip rfl rfl rfl ?_
        refine WQ.skip rfl rfl rfl ?_
        refine WQ.skip rfl rfl rfl ?_
        refine WQ.skip rfl rfl rfl ?_
        refine WQ.skip rfl rfl rfl ?_
        refine WQ.skip rfl rfl rfl ?_
        refine WQ.skip rfl rfl rfl ?_
        refine WQ.skip rfl rfl rfl ?_
        refine WQ.q (oq_pick_t rfl rfl) rfl rfl rfl ?_
        refine WQ.nil (WE.then_normal (WC.sub (fr' := [(0, _), (3, _), (86, _)]) ?_ ⟨rfl, rfl, rfl, trivial⟩))
        refine WC.cond_t rfl ?_
        refine WC.seq (WC.region ?_)
        refine WL.q (oq_assign rfl) rfl rfl rfl ?_
        refine WL.nil (WE.then_normal (WC.sub (fr' := [(2, _)]) ?_ ⟨rfl, trivial⟩))
        refine WC.ret (WE.block_ret (WE.then_ret (WE.then_ret (WE.block_ret (WE.then_ret ?_)))))
        refine WE.lose ho4 ?_
        refine WE.endR (.inl rfl) (res1 Tryz.results12 rfl) ?_
        exact congrArg Value.bool (all_not hlt (decide_eq_false (by unfold fineV; omega))).symm
       ·
        try simp only [Z1, Z2, Z3, Z4, Z5, Z6, Z7, Z8, Z9, Z0] at s6_42
        refine WQ.q (oq_fieldAddr fld24_0 rfl) rfl rfl rfl ?_
        refine WQ.q (oq_load flat3 rfl (.head _) (List.mem_singleton.2 rfl) rfl) rfl rfl rfl ?_
        refine WQ.q (oq_eql rfl rfl) rfl rfl rfl ?_
        refine WQ.q (oq_move rfl) rfl rfl rfl ?_
        refine WQ.split 65 rfl (fun s6_46 => ?_) (fun s6_46 => ?_)
        ·
         try simp only [Z1, Z2, Z3, Z4, Z5, Z6, Z7, Z8, Z9, Z0] at s6_46
         refine WQ.q (oq_fieldAddr fld24_3 rfl) rfl rfl rfl ?_
         refine WQ.q (oq_load flat9 rfl (.head _) (List.mem_singleton.2 rfl) rfl) rfl rfl rfl ?_
         refine WQ.q (oq_len_s Tryz.underlying9 rfl) rfl rfl rfl ?_
         refine WQ.q (oq_neq rfl rfl) rfl rfl rfl ?_
         refine WQ.q (oq_pick_t rfl rfl) rfl rfl rfl ?_
         refine WQ.q (oq_pick_f rfl rfl) rfl rfl rfl ?_
         refine WQ.q (oq_move rfl) rfl rfl rfl ?_
         refine WQ.split 72 rfl (fun s6_53 => ?_) (fun s6_53 => ?_)
         ·
          try simp only [Z1, Z2, Z3, Z4, Z5, Z6, Z7, Z8, Z9, Z0] at s6_53
          refine WQ.skip rfl rfl rfl ?_
          refine WQ.skip rfl rfl rfl ?_
          refine WQ.skip rfl rfl rfl ?_
          refine WQ.skip rfl rfl rfl ?_
          refine WQ.skip rfl rfl rfl ?_
          refine WQ.skip rfl rfl rfl ?_
          refine WQ.skip rfl rfl rfl ?_
          refine WQ.skip rfl rfl rfl ?_
          refine WQ.skip rfl rfl rfl ?_
          refine WQ.skip rfl rfl rfl ?_
          refine WQ.skip rfl rfl rfl ?_
          refine WQ.skip rfl rfl rfl ?_
          refine WQ.skip rfl rfl rfl ?_
          refine WQ.q (oq_pick_t rfl rfl) rfl rfl rfl ?_
          refine WQ.nil (WE.then_normal (WC.sub (fr' := [(0, _), (3, _), (86, _)]) ?_ ⟨rfl, rfl, rfl, trivial⟩))
          refine WC.cond_t rfl ?_
          refine WC.seq (WC.region ?_)
          refine WL.q (oq_assign rfl) rfl rfl rfl ?_
          refine WL.nil (WE.then_normal (WC.sub (fr' := [(2, _)]) ?_ ⟨rfl, trivial⟩))
          refine WC.ret (WE.block_ret (WE.then_ret (WE.then_ret (WE.block_ret (WE.then_ret ?_)))))
          refine WE.lose ho4 ?_
          refine WE.endR (.inl rfl) (res1 Tryz.results12 rfl) ?_
          exact congrArg Value.bool (all_not hlt (decide_eq_false (by unfold fineV; omega))).symm
         ·
          try simp only [Z1, Z2, Z3, Z4, Z5, Z6, Z7, Z8, Z9, Z0] at s6_53
          refine WQ.q (oq_fieldAddr fld24_0 rfl) rfl rfl rfl ?_
          refine WQ.q (oq_load flat3 rfl (.head _) (List.mem_singleton.2 rfl) rfl) rfl rfl rfl ?_
          refine WQ.q (oq_eql rfl rfl) rfl rfl rfl ?_
          refine WQ.q (oq_move rfl) rfl rfl rfl ?_
          refine WQ.split 76 rfl (fun s6_57 => ?_) (fun s6_57 => ?_)
          ·
           try simp only [Z1, Z2, Z3, Z4, Z5, Z6, Z7, Z8, Z9, Z0] at s6_57
           refine WQ.q (oq_fieldAddr fld24_2 rfl) rfl rfl rfl ?_
           refine WQ.q (oq_load flat2 rfl (.head _) (List.mem_singleton.2 rfl) rfl) rfl rfl rfl ?_
           refine WQ.q (oq_gtr rfl rfl) rfl rfl rfl ?_
           refine WQ.q (oq_move rfl) rfl rfl rfl ?_
           refine WQ.split 80 rfl (fun s6_61 => ?_) (fun s6_61 => ?_)
           ·
            try simp only [Z1, Z2, Z3, Z4, Z5, Z6, Z7, Z8, Z9, Z0] at s6_61
            refine WQ.skip rfl rfl rfl ?_
            refine WQ.skip rfl rfl rfl ?_
            refine WQ.skip rfl rfl rfl ?_
            refine WQ.q (oq_pick_t rfl rfl) rfl rfl rfl ?_
            refine WQ.q (oq_pick_t rfl rfl) rfl rfl rfl ?_
            refine WQ.q (oq_pick_f rfl rfl) rfl rfl rfl ?_
            refine WQ.nil (WE.then_normal (WC.sub (fr' := [(0, _), (3, _), (86, _)]) ?_ ⟨rfl, rfl, rfl, trivial⟩))
            refine WC.cond_t rfl ?_
            refine WC.seq (WC.region ?_)
            refine WL.q (oq_assign rfl) rfl rfl rfl ?_
            refine WL.nil (WE.then_normal (WC.sub (fr' := [(2, _)]) ?_ ⟨rfl, trivial⟩))
            refine WC.ret (WE.block_ret (WE.then_ret (WE.then_ret (WE.block_ret (WE.then_ret ?_)))))
            refine WE.lose ho4 ?_
            refine WE.endR (.inl rfl) (res1 Tryz.results12 rfl) ?_
            exact congrArg Value.bool (all_not hlt (decide_eq_false (by unfold fineV; omega))).symm
           ·
            try simp only [Z1, Z2, Z3, Z4, Z5, Z6, Z7, Z8, Z9, Z0] at s6_61
            refine WQ.q (oq_fieldAddr fld24_2 rfl) rfl rfl rfl ?_
            refine WQ.q (oq_load flat2 rfl (.head _) (List.mem_singleton.2 rfl) rfl) rfl rfl rfl ?_
            refine WQ.q (oq_lss rfl rfl) rfl rfl rfl ?_
            refine WQ.q (oq_pick_f rfl rfl) rfl rfl rfl ?_
            refine WQ.q (oq_pick_t rfl rfl) rfl rfl rfl ?_
            refine WQ.q (oq_pick_f rfl rfl) rfl rfl rfl ?_
            refine WQ.nil (WE.then_normal (WC.sub (fr' := [(0, _), (3, _), (86, _)]) ?_ ⟨rfl, rfl, rfl, trivial⟩))
            refine WC.cond rfl (fun q6 => ?_) (fun q6 => ?_)
            ·
             try simp only [Z1, Z2, Z3, Z4, Z5, Z6, Z7, Z8, Z9, Z0] at q6
             refine WC.seq (WC.region ?_)
             refine WL.q (oq_assign rfl) rfl rfl rfl ?_
             refine WL.nil (WE.then_normal (WC.sub (fr' := [(2, _)]) ?_ ⟨rfl, trivial⟩))
             refine WC.ret (WE.block_ret (WE.then_ret (WE.then_ret (WE.block_ret (WE.then_ret ?_)))))
             refine WE.lose ho4 ?_
             refine WE.endR (.inl rfl) (res1 Tryz.results12 rfl) ?_
             exact congrArg Value.bool (all_not hlt (decide_eq_false (by unfold fineV; omega))).symm
            ·
             try simp only [Z1, Z2, Z3, Z4, Z5, Z6, Z7, Z8, Z9, Z0] at q6
             refine WC.skip (WE.block_normal (WE.then_normal (WC.sub (fr' := [(0, _), (3, _)]) ?_ ⟨rfl, rfl, trivial⟩)))
             refine WC.region ?_
             refine WL.q (oq_move rfl) rfl rfl rfl ?_
             refine WL.q (oq_add rfl rfl (by rw [i64_lo, i64_hi]; (first | omega | (simp only [List.length_cons, List.length_nil, List.length_append, List.length_drop, List.length_take]; omega)))) rfl rfl rfl ?_
             refine WL.q (oq_assign rfl) rfl rfl rfl ?_
             refine WL.nil ?_
             refine WE.lose ho4 ?_
             refine WE.again (i + 1) ?_ ?_ ⟨rfl, rfl, trivial⟩ (List.Perm.refl _)
             ·try dsimp only
              exact ⟨by omega, all_snoc (by omega) hall (decide_eq_true (by unfold fineV; omega))⟩
             ·(try dsimp only); omega
          ·
           try simp only [Z1, Z2, Z3, Z4, Z5, Z6, Z7, Z8, Z9, Z0] at s6_57
           refine WQ.skip rfl rfl rfl ?_
           refine WQ.skip rfl rfl rfl ?_
           refine WQ.skip rfl rfl rfl ?_
           refine WQ.skip rfl rfl rfl ?_
           refine WQ.skip rfl rfl rfl ?_
           refine WQ.skip rfl rfl rfl ?_
           refine WQ.skip rfl rfl rfl ?_
           refine WQ.skip rfl rfl rfl ?_
           refine WQ.q (oq_pick_f rfl rfl) rfl rfl rfl ?_
           refine WQ.q (oq_pick_f rfl rfl) rfl rfl rfl ?_
           refine WQ.nil (WE.then_normal (WC.sub (fr' := [(0, _), (3, _), (86, _)]) ?_ ⟨rfl, rfl, rfl, trivial⟩))
           refine WC.cond_f rfl ?_
           refine WC.skip (WE.block_normal (WE.then_normal (WC.sub (fr' := [(0, _), (3, _)]) ?_ ⟨rfl, rfl, trivial⟩)))
           refine WC.region ?_
           refine WL.q (oq_move rfl) rfl rfl rfl ?_
           refine WL.q (oq_add rfl rfl (by rw [i64_lo, i64_hi]; (first | omega | (simp only [List.length_cons, List.length_nil, List.length_append, List.length_drop, List.length_take]; omega)))) rfl rfl rfl ?_
           refine WL.q (oq_assign rfl) rfl rfl rfl ?_
           refine WL.nil ?_
           refine WE.lose ho4 ?_
           refine WE.again (i + 1) ?_ ?_ ⟨rfl, rfl, trivial⟩ (List.Perm.refl _)
           ·try dsimp only
            exact ⟨by omega, all_snoc (by omega) hall (decide_eq_true (by unfold fineV; omega))⟩
           ·(try dsimp only); omega
        ·
         try simp only [Z1, Z2, Z3, Z4, Z5, Z6, Z7, Z8, Z9, Z0] at s6_46
         refine WQ.skip rfl rfl rfl ?_
         refine WQ.skip rfl rfl rfl ?_
         refine WQ.skip rfl rfl rfl ?_
         refine WQ.skip rfl rfl rfl ?_
         refine WQ.q (oq_pick_f rfl rfl) rfl rfl rfl ?_
         refine WQ.q (oq_pick_f rfl rfl) rfl rfl rfl ?_
         refine WQ.q (oq_move rfl) rfl rfl rfl ?_
         refine WQ.q (oq_fieldAddr fld24_0 rfl) rfl rfl rfl ?_
         refine WQ.q (oq_load flat3 rfl (.head _) (List.mem_singleton.2 rfl) rfl) rfl rfl rfl ?_
         refine WQ.q (oq_eql rfl rfl) rfl rfl rfl ?_
         refine WQ.q (oq_move rfl) rfl rfl rfl ?_
         refine WQ.split 76 rfl (fun s6_57 => ?_) (fun s6_57 => ?_)
         ·
          try simp only [Z1, Z2, Z3, Z4, Z5, Z6, Z7, Z8, Z9, Z0] at s6_57
          refine WQ.q (oq_fieldAddr fld24_2 rfl) rfl rfl rfl ?_
          refine WQ.q (oq_load flat2 rfl (.head _) (List.mem_singleton.2 rfl) rfl) rfl rfl rfl ?_
          refine WQ.q (oq_gtr rfl rfl) rfl rfl rfl ?_
          refine WQ.q (oq_move rfl) rfl rfl rfl ?_
          refine WQ.split 80 rfl (fun s6_61 => ?_) (fun s6_61 => ?_)
          ·
           try simp only [Z1, Z2, Z3, Z4, Z5, Z6, Z7, Z8, Z9, Z0] at s6_61
           refine WQ.skip rfl rfl rfl ?_
           refine WQ.skip rfl rfl rfl ?_
           refine WQ.skip rfl rfl rfl ?_
           refine WQ.q (oq_pick_t rfl rfl) rfl rfl rfl ?_
           refine WQ.q (oq_pick_t rfl rfl) rfl rfl rfl ?_
           refine WQ.q (oq_pick_f rfl rfl) rfl rfl rfl ?_
           refine WQ.nil (WE.then_normal (WC.sub (fr' := [(0, _), (3, _), (86, _)]) ?_ ⟨rfl, rfl, rfl, trivial⟩))
           refine WC.cond_t rfl ?_
           refine WC.seq (WC.region ?_)
           refine WL.q (oq_assign rfl) rfl rfl rfl ?_
           refine WL.nil (WE.then_normal (WC.sub (fr' := [(2, _)]) ?_ ⟨rfl, trivial⟩))
           refine WC.ret (WE.block_ret (WE.then_ret (WE.then_ret (WE.block_ret (WE.then_ret ?_)))))
           refine WE.lose ho4 ?_
           refine WE.endR (.inl rfl) (res1 Tryz.results12 rfl) ?_
           exact congrArg Value.bool (all_not hlt (decide_eq_false (by unfold fineV; omega))).symm
          ·
           try simp only [Z1, Z2, Z3, Z4, Z5, Z6, Z7, Z8, Z9, Z0] at s6_61
           refine WQ.q (oq_fieldAddr fld24_2 rfl) rfl rfl rfl ?_
           refine WQ.q (oq_load flat2 rfl (.head _) (List.mem_singleton.2 rfl) rfl) rfl rfl rfl ?_
           refine WQ.q (oq_lss rfl rfl) rfl rfl rfl ?_
           refine WQ.q (oq_pick_f rfl rfl) rfl rfl rfl ?_
           refine WQ.q (oq_pick_t rfl rfl) rfl rfl rfl ?_
           refine WQ.q (oq_pick_f rfl rfl) rfl rfl rfl ?_
           refine WQ.nil (WE.then_normal (WC.sub (fr' := [(0, _), (3, _), (86, _)]) ?_ ⟨rfl, rfl, rfl, trivial⟩))
           refine WC.cond rfl (fun q6 => ?_) (fun q6 => ?_)
           ·
            try simp only [Z1, Z2, Z3, Z4, Z5, Z6, Z7, Z8, Z9, Z0] at q6
            refine WC.seq (WC.region ?_)
            refine WL.q (oq_assign rfl) rfl rfl rfl ?_
            refine WL.nil (WE.then_normal (WC.sub (fr' := [(2, _)]) ?_ ⟨rfl, trivial⟩))
            refine WC.ret (WE.block_ret (WE.then_ret (WE.then_ret (WE.block_ret (WE.then_ret ?_)))))
            refine WE.lose ho4 ?_
            refine WE.endR (.inl rfl) (res1 Tryz.results12 rfl) ?_
            exact congrArg Value.bool (all_not hlt (decide_eq_false (by unfold fineV; omega))).symm
           ·
            try simp only [Z1, Z2, Z3, Z4, Z5, Z6, Z7, Z8, Z9, Z0] at q6
            refine WC.skip (WE.block_normal (WE.then_normal (WC.sub (fr' := [(0, _), (3, _)]) ?_ ⟨rfl, rfl, trivial⟩)))
            refine WC.region ?_
            refine WL.q (oq_move rfl) rfl rfl rfl ?_
            refine WL.q (oq_add rfl rfl (by rw [i64_lo, i64_hi]; (first | omega | (simp only [List.length_cons, List.length_nil, List.length_append, List.length_drop, List.length_take]; omega)))) rfl rfl rfl ?_
            refine WL.q (oq_assign rfl) rfl rfl rfl ?_
            refine WL.nil ?_
            refine WE.lose ho4 ?_
            refine WE.again (i + 1) ?_ ?_ ⟨rfl, rfl, trivial⟩ (List.Perm.refl _)
            ·try dsimp only
             exact ⟨by omega, all_snoc (by omega) hall (decide_eq_true (by unfold fineV; omega))⟩
            ·(try dsimp only); omega
         ·
          try simp only [Z1, Z2, Z3, Z4, Z5, Z6, Z7, Z8, Z9, Z0] at s6_57
          refine WQ.skip rfl rfl rfl ?_
          refine WQ.skip rfl rfl rfl ?_
          refine WQ.skip rfl rfl rfl ?_
          refine WQ.skip rfl rfl rfl ?_
          refine WQ.skip rfl rfl rfl ?_
          refine WQ.skip rfl rfl rfl ?_
          refine WQ.skip rfl rfl rfl ?_
          refine WQ.skip rfl rfl rfl ?_
          refine WQ.q (oq_pick_f rfl rfl) rfl rfl rfl ?_
          refine WQ.q (oq_pick_f rfl rfl) rfl rfl rfl ?_
          refine WQ.nil (WE.then_normal (WC.sub (fr' := [(0, _), (3, _), (86, _)]) ?_ ⟨rfl, rfl, rfl, trivial⟩))
          refine WC.cond_f rfl ?_
          refine WC.skip (WE.block_normal (WE.then_normal (WC.sub (fr' := [(0, _), (3, _)]) ?_ ⟨rfl, rfl, trivial⟩)))
          refine WC.region ?_
          refine WL.q (oq_move rfl) rfl rfl rfl ?_
          refine WL.q (oq_add rfl rfl (by rw [i64_lo, i64_hi]; (first | omega | (simp only [List.length_cons, List.length_nil, List.length_append, List.length_drop, List.length_take]; omega)))) rfl rfl rfl ?_
          refine WL.q (oq_assign rfl) rfl rfl rfl ?_
          refine WL.nil ?_
          refine WE.lose ho4 ?_
          refine WE.again (i + 1) ?_ ?_ ⟨rfl, rfl, trivial⟩ (List.Perm.refl _)
          ·try dsimp only
           exact ⟨by omega, all_snoc (by omega) hall (decide_eq_true (by unfold fineV; omega))⟩
          ·(try dsimp only); omega
     ·
      try simp only [Z1, Z2, Z3, Z4, Z5, Z6, Z7, Z8, Z9, Z0] at s6_12
      refine WQ.skip rfl rfl rfl ?_
      refine WQ.skip rfl rfl rfl ?_
      refine WQ.skip rfl rfl rfl ?_
      refine WQ.skip rfl rfl rfl ?_
      refine WQ.skip rfl rfl rfl ?_
      refine WQ.skip rfl rfl rfl ?_
      refine WQ.skip rfl rfl rfl ?_
      refine WQ.skip rfl rfl rfl ?_
      refine WQ.skip rfl rfl rfl ?_
      refine WQ.skip rfl rfl rfl ?_
      refine WQ.skip rfl rfl rfl ?_
      refine WQ.skip rfl rfl rfl ?_
      refine WQ.skip rfl rfl rfl ?_
      refine WQ.skip rfl rfl rfl ?_
      refine WQ.skip rfl rfl rfl ?_
      refine WQ.skip rfl rfl rfl ?_
      refine WQ.skip rfl rfl rfl ?_
      refine WQ.skip rfl rfl rfl ?_
      refine WQ.skip rfl rfl rfl ?_
      refine WQ.skip rfl rfl rfl ?_
      refine WQ.skip rfl rfl rfl ?_
      refine WQ.skip rfl rfl rfl ?_
      refine WQ.skip rfl rfl rfl ?_
      refine WQ.skip rfl rfl rfl ?_
      refine WQ.skip rfl rfl rfl ?_
      refine WQ.skip rfl rfl rfl ?_
      refine WQ.skip rfl rfl rfl ?_
      refine WQ.q (oq_pick_f rfl rfl) rfl rfl rfl ?_
      refine WQ.q (oq_pick_f rfl rfl) rfl rfl rfl ?_
      refine WQ.q (oq_move rfl) rfl rfl rfl ?_
      refine WQ.q (oq_fieldAddr fld24_0 rfl) rfl rfl rfl ?_
      refine WQ.q (oq_load flat3 rfl (.head _) (List.mem_singleton.2 rfl) rfl) rfl rfl rfl ?_
      refine WQ.q (oq_eql rfl rfl) rfl rfl rfl ?_
      refine WQ.q (oq_move rfl) rfl rfl rfl ?_
      refine WQ.split 65 rfl (fun s6_46 => ?_) (fun s6_46 => ?_)
      ·
       try simp only [Z1, Z2, Z3, Z4, Z5, Z6, Z7, Z8, Z9, Z0] at s6_46
       refine WQ.q (oq_fieldAddr fld24_3 rfl) rfl rfl rfl ?_
       refine WQ.q (oq_load flat9 rfl (.head _) (List.mem_singleton.2 rfl) rfl) rfl rfl rfl ?_
       refine WQ.q (oq_len_s Tryz.underlying9 rfl) rfl rfl rfl ?_
       refine WQ.q (oq_neq rfl rfl) rfl rfl rfl ?_
       refine WQ.q (oq_pick_t rfl rfl) rfl rfl rfl ?_
       refine WQ.q (oq_pick_f rfl rfl) rfl rfl rfl ?_
       refine WQ.q (oq_move rfl) rfl rfl rfl ?_
       refine WQ.split 72 rfl (fun s6_53 => ?_) (fun s6_53 => ?_)
       ·
        try simp only [Z1, Z2, Z3, Z4, Z5, Z6, Z7, Z8, Z9, Z0] at s6_53
        refine WQ.skip rfl rfl rfl ?_
        refine WQ.skip rfl rfl rfl ?_
        refine WQ.skip rfl rfl rfl ?_
        refine WQ.skip rfl rfl rfl ?_
        refine WQ.skip rfl rfl rfl ?_
        refine WQ.skip rfl rfl rfl ?_
        refine WQ.skip rfl rfl rfl ?_
        refine WQ.skip rfl rfl rfl ?_
        refine WQ.skip rfl rfl rfl ?_
        refine WQ.skip rfl rfl rfl ?_
        refine WQ.skip rfl rfl rfl ?_
        refine WQ.skip rfl rfl rfl ?_
        refine WQ.skip rfl rfl rfl ?_
        refine WQ.q (oq_pick_t rfl rfl) rfl rfl rfl ?_
        refine WQ.nil (WE.then_normal (WC.sub (fr' := [(0, _), (3, _), (86, _)]) ?_ ⟨rfl, rfl, rfl, trivial⟩))
        refine WC.cond_t rfl ?_
        refine WC.seq (WC.region ?_)
        refine WL.q (oq_assign rfl) rfl rfl rfl ?_
        refine WL.nil (WE.then_normal (WC.sub (fr' := [(2, _)]) ?_ ⟨rfl, trivial⟩))
        refine WC.ret (WE.block_ret (WE.then_ret (WE.then_ret (WE.block_ret (WE.then_ret ?_)))))
        refine WE.lose ho4 ?_
        refine WE.endR (.inl rfl) (res1 Tryz.results12 rfl) ?_
        exact congrArg Value.bool (all_not hlt (decide_eq_false (by unfold fineV; omega))).symm
       ·
        try simp only [Z1, Z2, Z3, Z4, Z5, Z6, Z7, Z8, Z9, Z0] at s6_53
        refine WQ.q (oq_fieldAddr fld24_0 rfl) rfl rfl rfl ?_
        refine WQ.q (oq_load flat3 rfl (.head _) (List.mem_singleton.2 rfl) rfl) rfl rfl rfl ?_
        refine WQ.q (oq_eql rfl rfl) rfl rfl rfl ?_
        refine WQ.q (oq_move rfl) rfl rfl rfl ?_
        refine WQ.split 76 rfl (fun s6_57 => ?_) (fun s6_57 => ?_)
        ·
         try simp only [Z1, Z2, Z3, Z4, Z5, Z6, Z7, Z8, Z9, Z0] at s6_57
         refine WQ.q (oq_fieldAddr fld24_2 rfl) rfl rfl rfl ?_
         refine WQ.q (oq_load flat2 rfl (.head _) (List.mem_singleton.2 rfl) rfl) rfl rfl rfl ?_
         refine WQ.q (oq_gtr rfl rfl) rfl rfl rfl ?_
         refine WQ.q (oq_move rfl) rfl rfl rfl ?_
         refine WQ.split 80 rfl (fun s6_61 => ?_) (fun s6_61 => ?_)
         ·
          try simp only [Z1, Z2, Z3, Z4, Z5, Z6, Z7, Z8, Z9, Z0] at s6_61
          refine WQ.skip rfl rfl rfl ?_
          refine WQ.skip rfl rfl rfl ?_
          refine WQ.skip rfl rfl rfl ?_
          refine WQ.q (oq_pick_t rfl rfl) rfl rfl rfl ?_
          refine WQ.q (oq_pick_t rfl rfl) rfl rfl rfl ?_
          refine WQ.q (oq_pick_f rfl rfl) rfl rfl rfl ?_
          refine WQ.nil (WE.then_normal (WC.sub (fr' := [(0, _), (3, _), (86, _)]) ?_ ⟨rfl, rfl, rfl, trivial⟩))
          refine WC.cond_t rfl ?_
          refine WC.seq (WC.region ?_)
          refine WL.q (oq_assign rfl) rfl rfl rfl ?_
          refine WL.nil (WE.then_normal (WC.sub (fr' := [(2, _)]) ?_ ⟨rfl, trivial⟩))
          refine WC.ret (WE.block_ret (WE.then_ret (WE.then_ret (WE.block_ret (WE.then_ret ?_)))))
          refine WE.lose ho4 ?_
          refine WE.endR (.inl rfl) (res1 Tryz.results12 rfl) ?_
          exact congrArg Value.bool (all_not hlt (decide_eq_false (by unfold fineV; omega))).symm
         ·
          try simp only [Z1, Z2, Z3, Z4, Z5, Z6, Z7, Z8, Z9, Z0] at s6_61
          refine WQ.q (oq_fieldAddr fld24_2 rfl) rfl rfl rfl ?_
          refine WQ.q (oq_load flat2 rfl (.head _) (List.mem_singleton.2 rfl) rfl) rfl rfl rfl ?_
          refine WQ.q (oq_lss rfl rfl) rfl rfl rfl ?_
          refine WQ.q (oq_pick_f rfl rfl) rfl rfl rfl ?_
          refine WQ.q (oq_pick_t rfl rfl) rfl rfl rfl ?_
          refine WQ.q (oq_pick_f rfl rfl) rfl rfl rfl ?_
          refine WQ.nil (WE.then_normal (WC.sub (fr' := [(0, _), (3, _), (86, _)]) ?_ ⟨rfl, rfl, rfl, trivial⟩))
          refine WC.cond rfl (fun q6 => ?_) (fun q6 => ?_)
          ·
           try simp only [Z1, Z2, Z3, Z4, Z5, Z6, Z7, Z8, Z9, Z0] at q6
           refine WC.seq (WC.region ?_)
           refine WL.q (oq_assign rfl) rfl rfl rfl ?_
           refine WL.nil (WE.then_normal (WC.sub (fr' := [(2, _)]) ?_ ⟨rfl, trivial⟩))
           refine WC.ret (WE.block_ret (WE.then_ret (WE.then_ret (WE.block_ret (WE.then_ret ?_)))))
           refine WE.lose ho4 ?_
           refine WE.endR (.inl rfl) (res1 Tryz.results12 rfl) ?_
           exact congrArg Value.bool (all_not hlt (decide_eq_false (by unfold fineV; omega))).symm
          ·
           try simp only [Z1, Z2, Z3, Z4, Z5, Z6, Z7, Z8, Z9, Z0] at q6
           refine WC.skip (WE.block_normal (WE.then_normal (WC.sub (fr' := [(0, _), (3, _)]) ?_ ⟨rfl, rfl, trivial⟩)))
           refine WC.region ?_
           refine WL.q (oq_move rfl) rfl rfl rfl ?_
           refine WL.q (oq_add rfl rfl (by rw [i64_lo, i64_hi]; (first | omega | (simp only [List.length_cons, List.length_nil, List.length_append, List.length_drop, List.length_take]; omega)))) rfl rfl rfl ?_
           refine WL.q (oq_assign rfl) rfl rfl rfl ?_
           refine WL.nil ?_
           refine WE.lose ho4 ?_
           refine WE.again (i + 1) ?_ ?_ ⟨rfl, rfl, trivial⟩ (List.Perm.refl _)
           ·try dsimp only
            exact ⟨by omega, all_snoc (by omega) hall (decide_eq_true (by unfold fineV; omega))⟩
           ·(try dsimp only); omega
        ·
         try simp only [Z1, Z2, Z3, Z4, Z5, Z6, Z7, Z8, Z9, Z0] at s6_57
         refine WQ.skip rfl rfl rfl ?_
         refine WQ.skip rfl rfl rfl ?_
         refine WQ.skip rfl rfl rfl ?_
         refine WQ.skip rfl rfl rfl ?_
         refine WQ.skip rfl rfl rfl ?_
         refine WQ.skip rfl rfl rfl ?_
         refine WQ.skip rfl rfl rfl ?_
         refine WQ.skip rfl rfl rfl ?_
         refine WQ.q (oq_pick_f rfl rfl) rfl rfl rfl ?_
         refine WQ.q (oq_pick_f rfl rfl) rfl rfl rfl ?_
         refine WQ.nil (WE.then_normal (WC.sub (fr' := [(0, _), (3, _), (86, _)]) ?_ ⟨rfl, rfl, rfl, trivial⟩))
         refine WC.cond_f rfl ?_
         refine WC.skip (WE.block_normal (WE.then_normal (WC.sub (fr' := [(0, _), (3, _)]) ?_ ⟨rfl, rfl, trivial⟩)))
         refine WC.region ?_
         refine WL.q (oq_move rfl) rfl rfl rfl ?_
         refine WL.q (oq_add rfl rfl (by rw [i64_lo, i64_hi]; (first | omega | (simp only [List.length_cons, List.length_nil, List.length_append, List.length_drop, List.length_take]; omega)))) rfl rfl rfl ?_
         refine WL.q (oq_assign rfl) rfl rfl rfl ?_
         refine WL.nil ?_
         refine WE.lose ho4 ?_
         refine WE.again (i + 1) ?_ ?_ ⟨rfl, rfl, trivial⟩ (List.Perm.refl _)
         ·try dsimp only
          exact ⟨by omega, all_snoc (by omega) hall (decide_eq_true (by unfold fineV; omega))⟩
         ·(try dsimp only); omega
      ·
       try simp only [Z1, Z2, Z3, Z4, Z5, Z6, Z7, Z8, Z9, Z0] at s6_46
       refine WQ.skip rfl rfl rfl ?_
       refine WQ.skip rfl rfl rfl ?_
       refine WQ.skip rfl rfl rfl ?_
       refine WQ.skip rfl rfl rfl ?_
       refine WQ.q (oq_pick_f rfl rfl) rfl rfl rfl ?_
       refine WQ.q (oq_pick_f rfl rfl) rfl rfl rfl ?_
       refine WQ.q (oq_move rfl) rfl rfl rfl ?_
       refine WQ.q (oq_fieldAddr fld24_0 rfl) rfl rfl rfl ?_
       refine WQ.q (oq_load flat3 rfl (.head _) (List.mem_singleton.2 rfl) rfl) rfl rfl rfl ?_
       refine WQ.q (oq_eql rfl rfl) rfl rfl rfl ?_
       refine WQ.q (oq_move rfl) rfl rfl rfl ?_
       refine WQ.split 76 rfl (fun s6_57 => ?_) (fun s6_57 => ?_)
       ·
        try simp only [Z1, Z2, Z3, Z4, Z5, Z6, Z7, Z8, Z9, Z0] at s6_57
        refine WQ.q (oq_fieldAddr fld24_2 rfl) rfl rfl rfl ?_
        refine WQ.q (oq_load flat2 rfl (.head _) (List.mem_singleton.2 rfl) rfl) rfl rfl rfl ?_
        refine WQ.q (oq_gtr rfl rfl) rfl rfl rfl ?_
        refine WQ.q (oq_move rfl) rfl rfl rfl ?_
        refine WQ.split 80 rfl (fun s6_61 => ?_) (fun s6_61 => ?_)
        ·
         try simp only [Z1, Z2, Z3, Z4, Z5, Z6, Z7, Z8, Z9, Z0] at s6_61
         refine WQ.skip rfl rfl rfl ?_
         refine WQ.skip rfl rfl rfl ?_
         refine WQ.skip rfl rfl rfl ?_
         refine WQ.q (oq_pick_t rfl rfl) rfl rfl rfl ?_
         refine WQ.q (oq_pick_t rfl rfl) rfl rfl rfl ?_
         refine WQ.q (oq_pick_f rfl rfl) rfl rfl rfl ?_
         refine WQ.nil (WE.then_normal (WC.sub (fr' := [(0, _), (3, _), (86, _)]) ?_ ⟨rfl, rfl, rfl, trivial⟩))
         refine WC.cond_t rfl ?_
         refine WC.seq (WC.region ?_)
         refine WL.q (oq_assign rfl) rfl rfl rfl ?_
         refine WL.nil (WE.then_normal (WC.sub (fr' := [(2, _)]) ?_ ⟨rfl, trivial⟩))
         refine WC.ret (WE.block_ret (WE.then_ret (WE.then_ret (WE.block_ret (WE.then_ret ?_)))))
         refine WE.lose ho4 ?_
         refine WE.endR (.inl rfl) (res1 Tryz.results12 rfl) ?_
         exact congrArg Value.bool (all_not hlt (decide_eq_false (by unfold fineV; omega))).symm
        ·
         try simp only [Z1, Z2, Z3, Z4, Z5, Z6, Z7, Z8, Z9, Z0] at s6_61
         refine WQ.q (oq_fieldAddr fld24_2 rfl) rfl rfl rfl ?_
         refine WQ.q (oq_load flat2 rfl (.head _) (List.mem_singleton.2 rfl) rfl) rfl rfl rfl ?_
         refine WQ.q (oq_lss rfl rfl) rfl rfl rfl ?_
         refine WQ.q (oq_pick_f rfl rfl) rfl rfl rfl ?_
         refine WQ.q (oq_pick_t rfl rfl) rfl rfl rfl ?_
         refine WQ.q (oq_pick_f rfl rfl) rfl rfl rfl ?_
         refine WQ.nil (WE.then_normal (WC.sub (fr' := [(0, _), (3, _), (86, _)]) ?_ ⟨rfl, rfl, rfl, trivial⟩))
         refine WC.cond rfl (fun q6 => ?_) (fun q6 => ?_)
         ·
          try simp only [Z1, Z2, Z3, Z4, Z5, Z6, Z7, Z8, Z9, Z0] at q6
          refine WC.seq (WC.region ?_)
          refine WL.q (oq_assign rfl) rfl rfl rfl ?_
          refine WL.nil (WE.then_normal (WC.sub (fr' := [(2, _)]) ?_ ⟨rfl, trivial⟩))
          refine WC.ret (WE.block_ret (WE.then_ret (WE.then_ret (WE.block_ret (WE.then_ret ?_)))))
          refine WE.lose ho4 ?_
          refine WE.endR (.inl rfl) (res1 Tryz.results12 rfl) ?_
          exact congrArg Value.bool (all_not hlt (decide_eq_false (by unfold fineV; omega))).symm
         ·
          try simp only [Z1, Z2, Z3, Z4, Z5, Z6, Z7, Z8, Z9, Z0] at q6
          refine WC.skip (WE.block_normal (WE.then_normal (WC.sub (fr' := [(0, _), (3, _)]) ?_ ⟨rfl, rfl, trivial⟩)))
          refine WC.region ?_
          refine WL.q (oq_move rfl) rfl rfl rfl ?_
          refine WL.q (oq_add rfl rfl (by rw [i64_lo, i64_hi]; (first | omega | (simp only [List.length_cons, List.length_nil, List.length_append, List.length_drop, List.length_take]; omega)))) rfl rfl rfl ?_
          refine WL.q (oq_assign rfl) rfl rfl rfl ?_
          refine WL.nil ?_
          refine WE.lose ho4 ?_
          refine WE.again (i + 1) ?_ ?_ ⟨rfl, rfl, trivial⟩ (List.Perm.refl _)
          ·try dsimp only
           exact ⟨by omega, all_snoc (by omega) hall (decide_eq_true (by unfold fineV; omega))⟩
          ·(try dsimp only); omega
       ·
        try simp only [Z1, Z2, Z3, Z4, Z5, Z6, Z7, Z8, Z9, Z0] at s6_57
        refine WQ.skip rfl rfl rfl ?_
        refine WQ.skip rfl rfl rfl ?_
        refine WQ.skip rfl rfl rfl ?_
        refine WQ.skip rfl rfl rfl ?_
        refine WQ.skip rfl rfl rfl ?_
        refine WQ.skip rfl rfl rfl ?_
        refine WQ.skip rfl rfl rfl ?_
        refine WQ.skip rfl rfl rfl ?_
        refine WQ.q (oq_pick_f rfl rfl) rfl rfl rfl ?_
        refine WQ.q (oq_pick_f rfl rfl) rfl rfl rfl ?_
        refine WQ.nil (WE.then_normal (WC.sub (fr' := [(0, _), (3, _), (86, _)]) ?_ ⟨rfl, rfl, rfl, trivial⟩))
        refine WC.cond_f rfl ?_
        refine WC.skip (WE.block_normal (WE.then_normal (WC.sub (fr' := [(0, _), (3, _)]) ?_ ⟨rfl, rfl, trivial⟩)))
        refine WC.region ?_
        refine WL.q (oq_move rfl) rfl rfl rfl ?_
        refine WL.q (oq_add rfl rfl (by rw [i64_lo, i64_hi]; (first | omega | (simp only [List.length_cons, List.length_nil, List.length_append, List.length_drop, List.length_take]; omega)))) rfl rfl rfl ?_
        refine WL.q (oq_assign rfl) rfl rfl rfl ?_
        refine WL.nil ?_
        refine WE.lose ho4 ?_
        refine WE.again (i + 1) ?_ ?_ ⟨rfl, rfl, trivial⟩ (List.Perm.refl _)
        ·try dsimp only
         exact ⟨by omega, all_snoc (by omega) hall (decide_eq_true (by unfold fineV; omega))⟩
        ·(try dsimp only); omega
  ·
   try simp only [Z1, Z2, Z3, Z4, Z5, Z6, Z7, Z8, Z9, Z0] at q2
   refine WC.exit (WE.then_exit (WE.then_exit (WE.block_same (WE.then_normal (WC.sub (fr' := []) ?_ trivial)))))
   refine WC.seq (WC.region ?_)
   refine WL.q (oq_assign rfl) rfl rfl rfl ?_
   refine WL.nil (WE.then_normal (WC.sub (fr' := [(2, _)]) ?_ ⟨rfl, trivial⟩))
   refine WC.ret ?_
   refine WE.endR (.inl rfl) (res1 Tryz.results12 rfl) ?_
   obtain rfl : i = l.length := by omega
   rw [List.take_length] at hall
   rw [hall]
end ER
end Go.Proofs.YtodlhaghdplclaaGreatDoor
/- The law: what is written is what the reference tells. -/
namespace Go.Proofs.YtodlhaghdplclaaGreatDoor
open Go Go.RowKit V EA EB EC ED EE EF EG EH EI EJ EK EL EM EN EO EP EQ ER
set_option linter.unusedSimpArgs false
set_option linter.unusedVariables false
set_option maxRecDepth 10000
namespace ES
theorem call26 : Callable Tryz.prog 26 := ⟨_, Tryz.func26, rfl, by kernel_rfl⟩
theorem ty30 : Ty Tryz.prog 30 (.agg #[(.slice none 0 0), (.slice none 0 0)]) 2 48 := ty_of (by kernel_rfl)
theorem str30 : Str Tryz.prog 30 #[(0, 1), (1, 1)] := ⟨_, Tryz.underlying30, fun w => by kernel_rfl⟩
theorem okH0 : okH [] := fun i h => nomatch h
theorem len16 : (msgB [] []).length = 16 := by unfold msgB msg0 crcB; rw [List.length_append, List.length_append, List.length_append, pre12_len, be_len]; rfl
theorem rd0 (s : Nat) : RdS s (.slice none 0 0) [] 0 [] := ⟨by simp, .inl ⟨rfl, _, _, rfl⟩⟩
theorem enc0 : FnA Tryz.prog 26 [.agg #[.slice none 0 0, .slice none 0 0]] [] (fun w N => ∃ sv, w = .tuple #[sv, .bool true] ∧ RdS 1 sv N 16 (bytesV (msgB [] []))) := by
 refine (vEncode (.slice none 0 0) [] [] (rd0 5) okH0 (by simp) (by simp [szL]) none 0 [] (rd0 1) (by simp)).mono ?_
 rintro w N ⟨sv, rfl, h⟩
 refine ⟨sv, rfl, ?_⟩
 have h2 : RdS 1 sv N (msgB [] []).length (bytesV (msgB [] [])) := h
 rw [len16] at h2; exact h2
theorem szL_sum : ∀ l : List HV, szL l = sumH l + 12 * l.length
 | [] => rfl
 | h :: l => by
  have := szL_sum l
  simp only [szL, sumH, List.map_cons, List.sum_cons, List.length_cons, szH] at this ⊢
  omega
theorem sumH_get : ∀ {l : List HV} {i : Nat}, i < l.length → (l.getD i HV0).text.length ≤ sumH l
 | [], _, h => nomatch h
 | h :: l, 0, _ => by simp [sumH]; omega
 | h :: l, i + 1, hi => by
  have := sumH_get (l := l) (i := i) (by simpa using hi)
  have e : sumH (h :: l) = h.name.length + h.text.length + sumH l := by simp [sumH]
  have e2 : (h :: l).getD (i + 1) HV0 = l.getD i HV0 := by simp [List.getD_eq_getElem?_getD]
  rw [e, e2]; omega
theorem fine_ok {l : List HV} (h : l.all fineB = true) (hs : sumH l ≤ 70000) : okH l := fun i hi => by
 have h1 := all_get h hi
 have h2 := sumH_get hi
 exact ⟨of_decide_eq_true h1, by omega⟩
theorem sized_of {l : List HV} {n : Nat} (h : (decide (l.length ≤ 100) && decide (sumH l ≤ 70000) && decide (n ≤ 5000)) = true) : l.length ≤ 100 ∧ sumH l ≤ 70000 ∧ n ≤ 5000 := by
 simp only [Bool.and_eq_true, decide_eq_true_eq] at h; exact ⟨h.1.1, h.1.2, h.2⟩
theorem vAwake  : Fn0 Tryz.prog 14 [] (.bool true) := by
 refine Fn0.enter (n := 14) Tryz.func14 rfl rfl fun w0 => ?_
 refine WC.sub (fr' := []) ?_ trivial
 refine WC.seq (WC.region ?_)
 refine WL.q (oq_assign rfl) rfl rfl rfl ?_
 refine WL.nil (WE.then_normal (WC.sub (fr' := []) ?_ trivial))
 refine WC.seq (WC.region ?_)
 refine WL.q (oq_build #[_, _] str30 ty30 rfl rfl) rfl rfl rfl ?_
 refine WL.callA0 (enc0) call26 rfl rfl rfl fun v1_1 N1_1 hR1_1 hN1_1 => ?_
 obtain ⟨sv, rfl, hsv⟩ := hR1_1
 refine WL.q (oq_move rfl) rfl rfl rfl ?_
 refine WL.q (oq_extract rfl rfl) rfl rfl rfl ?_
 refine WL.q (oq_extract rfl rfl) rfl rfl rfl ?_
 refine WL.q (oq_assign rfl) rfl rfl rfl ?_
 refine WL.q (oq_assign rfl) rfl rfl rfl ?_
 refine WL.nil (WE.then_normal (WC.sub (fr' := [(1, _), (2, _)]) ?_ ⟨rfl, rfl, trivial⟩))
 refine WC.seq (WC.region ?_)
 refine WL.q (oq_move rfl) rfl rfl rfl ?_
 refine WL.q (oq_move rfl) rfl rfl rfl ?_
 refine WL.q (oq_move rfl) rfl rfl rfl ?_
 refine WL.q (oq_len_rd hsv Tryz.underlying28 rfl) rfl rfl rfl ?_
 refine WL.q (oq_eql rfl rfl) rfl rfl rfl ?_
 refine WL.q (oq_pick_t rfl rfl) rfl rfl rfl ?_
 refine WL.q (oq_assign rfl) rfl rfl rfl ?_
 refine WL.nil (WE.then_normal (WC.sub (fr' := [(0, _)]) ?_ ⟨rfl, trivial⟩))
 refine WC.ret ?_
 refine WE.forget hN1_1 ?_
 refine WE.end0 (.inl rfl) (res1 Tryz.results14 rfl) ?_
 rfl
end ES
end Go.Proofs.YtodlhaghdplclaaGreatDoor
/- The law: a spoilt message is not read. -/
namespace Go.Proofs.YtodlhaghdplclaaGreatDoor
open Go Go.RowKit V EA EB EC ED EL DC DD DA DE EE EH EI EJ DF DG DH DI EM DJ DK DL DM DB EF EG EK EN EO ER ES
set_option linter.unusedSimpArgs false
set_option linter.unusedVariables false
set_option maxRecDepth 10000
namespace DO
theorem call11 : Callable Tryz.prog 11 := ⟨_, Tryz.func11, rfl, by kernel_rfl⟩
theorem call12 : Callable Tryz.prog 12 := ⟨_, Tryz.func12, rfl, by kernel_rfl⟩
theorem call14 : Callable Tryz.prog 14 := ⟨_, Tryz.func14, rfl, by kernel_rfl⟩
theorem call25 : Callable Tryz.prog 25 := ⟨_, Tryz.func25, rfl, by kernel_rfl⟩
theorem call26 : Callable Tryz.prog 26 := ⟨_, Tryz.func26, rfl, by kernel_rfl⟩
theorem call27 : Callable Tryz.prog 27 := ⟨_, Tryz.func27, rfl, by kernel_rfl⟩
theorem call31 : Callable Tryz.prog 31 := ⟨_, Tryz.func31, rfl, by kernel_rfl⟩
theorem call47 : Callable Tryz.prog 47 := ⟨_, Tryz.func47, rfl, by kernel_rfl⟩
theorem call48 : Callable Tryz.prog 48 := ⟨_, Tryz.func48, rfl, by kernel_rfl⟩
theorem call49 : Callable Tryz.prog 49 := ⟨_, Tryz.func49, rfl, by kernel_rfl⟩
theorem flat5 : Flat Tryz.prog 5 := ⟨_, Tryz.underlying5, by simp⟩
theorem flat22 : Flat Tryz.prog 22 := ⟨_, Tryz.underlying22, by simp⟩
theorem flat28 : Flat Tryz.prog 28 := ⟨_, Tryz.underlying28, by simp⟩
theorem ty5 : Ty Tryz.prog 5 (.int .u8 0) 1 1 := ty_of (by kernel_rfl)
theorem ty22 : Ty Tryz.prog 22 (.slice none 0 0) 1 24 := ty_of (by kernel_rfl)
theorem ty28 : Ty Tryz.prog 28 (.slice none 0 0) 1 24 := ty_of (by kernel_rfl)
theorem ty30 : Ty Tryz.prog 30 (.agg #[(.slice none 0 0), (.slice none 0 0)]) 2 48 := ty_of (by kernel_rfl)
theorem ty79 : Ty Tryz.prog 79 (.agg #[(.slice none 0 0), (.int .i64 0), (.int .i8 0)]) 3 40 := ty_of (by kernel_rfl)
theorem ty109 : Ty Tryz.prog 109 (.agg #[(.slice none 0 0), (.slice none 0 0)]) 2 48 := ty_of (by kernel_rfl)
theorem conc107 : Conc Tryz.prog 107 := ⟨_, Tryz.underlying107, by simp⟩
theorem agg30 : Agg Tryz.prog 30 := agg_of Tryz.underlying30
theorem str109 : Str Tryz.prog 109 #[(0, 1), (1, 1)] := ⟨_, Tryz.underlying109, fun w => by kernel_rfl⟩
theorem fld30_0 : Fld Tryz.prog 30 0 0 22 := fld_of Tryz.underlying30 rfl rfl rfl ty22 (by decide)
theorem fld30_1 : Fld Tryz.prog 30 1 1 28 := fld_of Tryz.underlying30 rfl rfl rfl ty28 (by decide)
theorem bytesO (base bb : Nat) (acc : List UInt8) (G : Hp) (h : BufG base bb acc G) (h0 : 0 < acc.length) : ∃ B cap L F, FnR Tryz.prog 47 [Pt bb 0] G (Sl B 0 acc.length cap) ∧ G = F ++ Bf B 5 L ∧ L.length = cap ∧ acc.length ≤ cap ∧ L.take acc.length = acc := by
 obtain ⟨v, lr, A, rfl, hb⟩ := h
 rcases hb with ⟨rfl, rfl, rfl⟩ | ⟨B, cap, L, rfl, rfl, hB, hL, hc, hc0, hm, ht⟩
 ·cases h0
 ·exact ⟨B, cap, L, _, (bufBytes bb B acc.length cap lr hc hc0).wide (List.Perm.refl _), rfl, hL, hc, ht⟩
def BytesO (bad : Bool) (l : List UInt8) (w : Value) (N : Hp) : Prop := ∃ sv, w = .tuple #[sv, .bool (!bad)] ∧ (bad = false → ∃ B cap L F, sv = Sl B 0 l.length cap ∧ N = F ++ Bf B 5 L ∧ L.length = cap ∧ l.length ≤ cap ∧ L.take l.length = l)
theorem msgB_pos (l : List HV) (data : List UInt8) : (msgB l data).length = 16 + (hdrs l).length + data.length := by
 unfold msgB msg0 crcB; rw [List.length_append, List.length_append, List.length_append, pre12_len, be_len]; omega
theorem bytesO_bad {l : List UInt8} {b : Bool} {sv : Value} {N : Hp} (h : b = true) : BytesO b l (.tuple #[sv, .bool false]) N := by subst h; exact ⟨_, rfl, fun h => nomatch h⟩
theorem bit_xor8 (a b : UInt8) : bitOp .xor .u8 (a.toNat : Int) (b.toNat : Int) = ((a ^^^ b).toNat : Int) := by
 have ha := a.toNat_lt
 have hb := b.toNat_lt
 have e1 : ∀ c : UInt8, BitVec.ofInt IntKind.u8.bits (c.toNat : Int) = c.toBitVec := fun c => by
  apply BitVec.eq_of_toNat_eq
  have := c.toNat_lt
  show (BitVec.ofInt 8 (c.toNat : Int)).toNat = _
  rw [BitVec.toNat_ofInt]
  show ((c.toNat : Int) % ((2 ^ 8 : Nat) : Int)).toNat = c.toNat
  omega
 unfold bitOp
 simp only [e1]
 show IntKind.u8.wrap (((a.toBitVec ^^^ b.toBitVec).toNat : Nat) : Int) = _
 have h : (a ^^^ b).toNat < 256 := (a ^^^ b).toNat_lt
 have h2 : (a.toBitVec ^^^ b.toBitVec).toNat = (a ^^^ b).toNat := rfl
 rw [h2, wrap_in (by rw [u8_lo, u8_hi]; omega)]
theorem oq_x8 {n : Nat} {w0 : World} {ds : List Deferred} {fr : Fr} {H : List Hp} {dst : Option Tmp} {ty : TypeId} {pos : String} {aft : Array Edge} {g : Option (Nat × Bool)} {t t' : TypeId} {x y : Operand} (a b : UInt8) (hx : ev fr x = some (.int .u8 (a.toNat : Int))) (hy : ev fr y = some (.int .u8 (b.toNat : Int))) : OV Tryz.prog n w0 ⟨dst, .binOp .xor t x y t', ty, pos, aft, g⟩ (.int .u8 ((a ^^^ b).toNat : Int)) ds fr H := by
 have := oq_bits (op := .xor) (P := Tryz.prog) (n := n) (w0 := w0) (ds := ds) (H := H) (dst := dst) (ty := ty) (pos := pos) (aft := aft) (g := g) (t := t) (t' := t') hx hy (.inr (.inr (.inl rfl)))
 rwa [bit_xor8] at this
theorem u8_of {y : Int} (h : 0 ≤ y ∧ y ≤ 255) : ∃ v : UInt8, y = (v.toNat : Int) := ⟨UInt8.ofNat y.toNat, by rw [UInt8.toNat_ofNat']; omega⟩
theorem xor_ne {a y : UInt8} (h : y ≠ 0) : a ^^^ y ≠ a := fun e => h (by
 have h1 : a ^^^ (a ^^^ y) = a ^^^ a := by rw [e]
 rwa [← UInt8.xor_assoc, UInt8.xor_self, UInt8.zero_xor] at h1)
theorem set_back (L : List UInt8) (i : Nat) (v : UInt8) : L.set i (UInt8.ofNat ((v.toNat : Int)).toNat) = L.set i v := by rw [Int.toNat_natCast, UInt8.ofNat_toNat]
theorem sum_i {b t4 h4 c4 hq pq s4 : List UInt8} (p : Parts b t4 h4 c4 hq pq s4 []) (hc : nm c4 = (crc (t4 ++ h4)).toNat) {i : Nat} {v : UInt8} (hi : i < b.length) (hv : v ≠ b[i]) (n : Nat) (hn : 12 ≤ n) (d2 : sumOk ((b.set i v).take n) = true) : 12 ≤ i := by
 have hlen := p.len
 have h12 : b.length = 16 + hq.length + pq.length := by rw [hlen]; simp
 have hg : ∀ m, m ≤ n → ((b.set i v).take n).take m = (b.take m).set i v := fun m hm => by rw [List.take_take, Nat.min_eq_left hm, List.take_set]
 have hs8 : (crc (b.take 8)).toNat = nm ((b.drop 8).take 4) := by rw [p.take8, p.drop8, hc]
 unfold sumOk at d2
 rw [decide_eq_true_eq, hg 8 (by omega)] at d2
 have hdt : (((b.set i v).take n).drop 8).take 4 = ((b.set i v).drop 8).take 4 := by
  rw [List.drop_take, List.take_take, Nat.min_eq_left (by omega)]
 rw [hdt] at d2
 rcases Nat.lt_or_ge i 8 with h8 | h8
 ·rw [List.drop_set, if_pos (by omega), ← hs8] at d2
  exact absurd d2 (crc_set (by rw [List.length_take]; omega) (by rw [List.getElem_take]; exact hv))
 ·rw [List.set_eq_of_length_le (l := b.take 8) (by rw [List.length_take]; omega), hs8, List.drop_set, if_neg (by omega), List.take_set] at d2
  rcases Nat.lt_or_ge i 12 with hi12 | hi12
  ·have hl4 : ((b.drop 8).take 4).length = 4 := by rw [List.length_take, List.length_drop]; omega
   have := nm_inj 4 _ _ hl4 (by rw [List.length_set]; exact hl4) d2
   refine absurd this.symm (set_ne (l := (b.drop 8).take 4) (i := i - 8) (v := v) (by rw [hl4]; omega) ?_)
   rw [List.getElem_take, List.getElem_drop]
   have e : 8 + (i - 8) = i := by omega
   simpa only [e] using hv
  ·exact hi12
theorem pre_sum {all : List UInt8} (h : preC all = 0) : 12 ≤ all.length ∧ sumOk all = true := by
 have h12 := (pre_0 h).1
 refine ⟨h12, ?_⟩
 cases hs : sumOk all with
 | true => rfl
 | false =>
  exfalso
  unfold preC at h
  rw [if_neg (by omega), if_neg (by omega)] at h
  by_cases hz : totl all = 0
  ·rw [if_pos hz] at h; cases h
  ·rw [if_neg hz, if_neg (by omega), if_pos hs] at h; cases h
theorem spoilt_wf {l : List HV} {data : List UInt8} (h : 16 + (hdrs l).length + data.length < 4294967296) {i : Nat} {v : UInt8} (hi : i < (msgB l data).length) (hv : v ≠ (msgB l data)[i]) (n : Nat) (h0 : preC (((msgB l data).set i v).take n) = 0) : 16 + head (((msgB l data).set i v).take n) ≤ totl (((msgB l data).set i v).take n) := by
 have p := msg_parts l data [] h
 rw [List.append_nil] at p
 obtain ⟨h12, hs⟩ := pre_sum h0
 rw [List.length_take] at h12
 have h12i := sum_i p (by rw [nm_crcB]; rfl) hi hv n (by omega) hs
 have ht : totl (((msgB l data).set i v).take n) = totl (msgB l data) := by
  unfold totl; rw [List.take_take, Nat.min_eq_left (by omega), List.take_set, List.set_eq_of_length_le (by rw [List.length_take]; omega)]
 have hh : head (((msgB l data).set i v).take n) = head (msgB l data) := by
  unfold head
  rw [List.drop_take, List.take_take, Nat.min_eq_left (by omega), List.drop_set, if_neg (by omega), List.take_set, List.set_eq_of_length_le (by rw [List.length_take, List.length_drop]; omega)]
 rw [ht, hh, p.totl, p.head]; omega
theorem rd_head {B cap n : Nat} {L x : List UInt8} (hL : L.length = cap) (hn : n ≤ cap) (ht : L.take n = x) : RdS 1 (Sl B 0 n cap) (Bf B 5 L) x.length (bytesV x) := by
 have h1 := Sl.rd (b := B) (off := 0) (n := n) (c := cap) (e := 5) (l := L) (by omega) hn
 rw [List.drop_zero, ht] at h1
 have : x.length = n := by rw [← ht, List.length_take]; omega
 rw [this]; exact h1
theorem vEncodeO (vh : Value) (A : Hp) (l : List HV) (hr : RdS 5 vh A l.length (recsV HV.row l)) (hok : okH l) (hn : l.length ≤ 1000) (hsz : szL l ≤ 100000) (pp : Option Addr) (pc : Nat) (data : List UInt8) (hrp : RdS 1 (.slice pp data.length pc) A data.length (bytesV data)) (hpl : data.length ≤ 50000) : FnA Tryz.prog 26 [.agg #[vh, .slice pp data.length pc]] A (BytesO (l.any badH) (msgB l data)) := by
 refine FnA.enter (n := 16) Tryz.func26 rfl rfl fun w0 => ?_
 refine WC.sub (fr' := [(0, _)]) ?_ ⟨rfl, trivial⟩
 refine WC.seq (WC.region ?_)
 refine WL.box rfl rfl rfl fun xb hxb => ?_
 refine WL.q (oq_assign rfl) rfl rfl rfl ?_
 refine WL.q (oq_assign rfl) rfl rfl rfl ?_
 refine WL.nil (WE.then_normal (WC.sub (fr' := [(1, _)]) ?_ ⟨rfl, trivial⟩))
 refine WC.seq (WC.region ?_)
 refine WL.alloc ty79 rfl rfl fun ob hob => ?_
 refine WL.nil (WE.then_normal (WC.sub (fr' := [(1, _), (4, _)]) ?_ ⟨rfl, rfl, trivial⟩))
 refine WC.seq (WC.seq ?_)
 refine WC.gate 8 ([(xb, .cells #[vh, .slice pp data.length pc] 30 (0, 0))]) (by kernel_rfl) ?_
 refine WG.q 1 [] rfl (.tail _ (.head _)) (fun w0 => oq_makeI conc107 rfl) rfl rfl rfl ?_
 refine WG.q 2 [4, 3] rfl (.tail _ (.head _)) (fun w0 => oq_fieldAddr fld30_0 rfl) rfl rfl rfl ?_
 refine WG.q 3 [4] rfl (.tail _ (.head _)) (fun w0 => oq_load flat22 rfl (.head _) (List.mem_singleton.2 rfl) rfl) rfl rfl rfl ?_
 refine WG.q 5 [7, 6] rfl (.tail _ (.head _)) (fun w0 => oq_fieldAddr fld30_1 rfl) rfl rfl rfl ?_
 refine WG.q 6 [7] rfl (.tail _ (.head _)) (fun w0 => oq_load flat28 rfl (.head _) (List.mem_singleton.2 rfl) rfl) rfl rfl rfl ?_
 refine WG.step (i := 0) (by kernel_rfl) rfl ?_
 refine WL.callA0 (newEncoder) call48 rfl rfl rfl fun v2_0 N2_0 hR2_0 hN2_0 => ?_
 obtain ⟨eb, b1, b2, rfl, rfl⟩ := hR2_0
 have heb := hN2_0 eb _ (List.mem_append_left _ (List.mem_append_left _ (List.mem_singleton.2 rfl)))
 have hb1 := hN2_0 b1 _ (List.mem_append_left _ (List.mem_append_right _ (List.mem_singleton.2 rfl)))
 have hb2 := hN2_0 b2 _ (List.mem_append_right _ (List.mem_singleton.2 rfl))
 refine WL.nil ?_
 refine WE.toG (.tail _ (.tail _ (.head _))) ?_
 refine WG.step (i := 4) (by kernel_rfl) rfl ?_
 refine WL.f3 ?_
 refine WL.callA (headersFor vh A l hr hok hn) call31 rfl rfl rfl fun v2_4 N2_4 hR2_4 hN2_4 => ?_
 obtain ⟨ps0, M0, Z0, hN0, hr0, hp0⟩ := hR2_4
 obtain ⟨pv, cv, rfl⟩ := hr0.shape
 have hR2_4 : HsOk l (.slice pv ps0.length cv) N2_4 := ⟨ps0, M0, Z0, hN0, hr0, hp0⟩
 refine WL.nil ?_
 refine WE.toG (.tail _ (.tail _ (.tail _ (.tail _ (.head _))))) ?_
 refine WG.q 7 [] rfl (.tail _ (.tail _ (.tail _ (.tail _ (.head _))))) (fun w0 => oq_build #[_, _] str109 ty109 rfl rfl) rfl rfl rfl ?_
 refine WG.step (i := 8) (by kernel_rfl) rfl ?_
 refine WL.f1 ?_
 refine WL.f1 ?_
 refine WL.f3 ?_
 refine WL.f3 ?_
 refine WL.callW4 (encodeG _ eb ob [] _ _ ⟨b1, b2, _, _, [], [], rfl, bufG_nil _ b1 0, bufG_nil _ b2 0, hb1, hb2⟩ (bufG_nil _ ob 0) _ _ l hR2_4 hok hn hsz (.slice pp data.length pc) A data hrp hpl (by simp)) call49 rfl rfl rfl fun v2_8 Hs2_8 hR2_8 => ?_
 obtain ⟨EG2, O2, c, rfl, hEG, hOc, hei, he0, he1⟩ := hR2_8
 refine WL.to4 ?_
 refine WL.nil ?_
 refine WE.toG0 (by kernel_rfl) ?_
 refine WG.p 9 rfl (.inl (by kernel_rfl)) (fun w0 => oq_ineq Tryz.underlying99 rfl (hei)) rfl rfl rfl ?_
 refine WG.done (by kernel_rfl) ?_
 refine WE.then_normal (WC.sub (fr' := [(4, _), (14, _)]) ?_ ⟨rfl, rfl, trivial⟩)
 refine WC.cond rfl (fun q2 => ?_) (fun q2 => ?_)
 ·
  try simp only [Z1, Z2, Z3, Z4, Z5, Z6, Z7, Z8, Z9, Z0] at q2
  refine WC.seq (WC.region ?_)
  refine WL.q (oq_assign rfl) rfl rfl rfl ?_
  refine WL.q (oq_assign rfl) rfl rfl rfl ?_
  refine WL.nil (WE.then_normal (WC.sub (fr' := [(2, _), (3, _)]) ?_ ⟨rfl, rfl, trivial⟩))
  refine WC.ret (WE.then_ret ?_)
  refine WE.forget (hEG.fresh heb) ?_
  refine WE.forget (bufG_fresh hOc hob) ?_
  refine WE.forget hN2_4 ?_
  refine WE.f1 ?_
  refine WE.lose hxb ?_
  refine WE.add0 ?_
  refine WE.endA (.inl rfl) (res2 Tryz.results26 rfl rfl) ?_ fresh0
  exact bytesO_bad (he1 (by simpa using q2))
 ·
  try simp only [Z1, Z2, Z3, Z4, Z5, Z6, Z7, Z8, Z9, Z0] at q2
  refine WC.skip (WE.then_normal (WC.sub (fr' := [(4, _)]) ?_ ⟨rfl, trivial⟩))
  refine WC.seq ?_
  obtain ⟨hnb, hO2⟩ := he0 (by simpa using q2)
  rw [List.nil_append] at hO2
  obtain ⟨B, cap, L, F, hbf, rfl, hL, hLc, hLt⟩ := bytesO _ ob _ O2 hO2 (by rw [msgB_pos]; omega)
  refine WC.region ?_
  refine WL.qc (oq_callRm (hbf) (.tail _ (.head _)) call47 rfl) rfl rfl rfl ?_
  refine WL.q (oq_assign rfl) rfl rfl rfl ?_
  refine WL.q (oq_assign rfl) rfl rfl rfl ?_
  refine WL.nil (WE.then_normal (WC.sub (fr' := [(2, _), (3, _)]) ?_ ⟨rfl, rfl, trivial⟩))
  refine WC.ret ?_
  refine WE.forget (hEG.fresh heb) ?_
  refine WE.f1 ?_
  refine WE.forget hN2_4 ?_
  refine WE.f2 ?_
  refine WE.lose hxb ?_
  refine WE.endA (.inl rfl) (res2 Tryz.results26 rfl rfl) ?_ ((bufG_fresh hOc hob))
  exact ⟨_, by rw [hnb]; rfl, fun _ => ⟨B, cap, L, F, rfl, rfl, hL, hLc, hLt⟩⟩
theorem lawSpoilt (A : Hp) (vh : Value) (l : List HV) (hr : RdS 5 vh A l.length (recsV HV.row l)) (hint : intOk l) (pp : Option Addr) (pc : Nat) (data : List UInt8) (hrp : RdS 1 (.slice pp data.length pc) A data.length (bytesV data)) (a y : Int) (hy : 0 ≤ y ∧ y ≤ 255) (kE : TypeId) (pE pU : Addr) (hS : Sn A kE pE pU) : FnR Tryz.prog 7 [.agg #[vh, .slice pp data.length pc], I a, .int .u8 y] A (.bool true) := by
 obtain ⟨v8, rfl⟩ := u8_of hy
 have hvb := v8.toNat_lt
 refine FnR.enter (n := 81) Tryz.func7 rfl rfl fun w0 => ?_
 refine WC.sub (fr' := [(0, _), (1, _), (2, _)]) ?_ ⟨rfl, rfl, rfl, trivial⟩
 refine WC.seq (WC.region ?_)
 refine WL.box rfl rfl rfl fun xb hxb => ?_
 refine WL.q (oq_assign rfl) rfl rfl rfl ?_
 refine WL.nil (WE.then_normal (WC.sub (fr' := [(1, _), (2, _), (3, _)]) ?_ ⟨rfl, rfl, rfl, trivial⟩))
 refine WC.seq (WC.seq (WC.region ?_))
 refine WL.q (oq_loadS [_, _] agg30 ty30 rfl (.head _) (List.mem_singleton.2 rfl) rfl rfl) rfl rfl rfl ?_
 refine WL.qc (oq_callRm (fits3 vh A l hr pp pc data.length) (.tail _ (.head _)) call25 rfl) rfl rfl rfl ?_
 refine WL.q (oq_not rfl) rfl rfl rfl ?_
 refine WL.nil (WE.then_normal (WC.sub (fr' := [(1, _), (2, _), (3, _), (17, _)]) ?_ ⟨rfl, rfl, rfl, rfl, trivial⟩))
 refine WC.cond rfl (fun q1 => ?_) (fun q1 => ?_)
 ·
  try simp only [Z1, Z2, Z3, Z4, Z5, Z6, Z7, Z8, Z9, Z0] at q1
  refine WC.seq (WC.region ?_)
  refine WL.q (oq_assign rfl) rfl rfl rfl ?_
  refine WL.nil (WE.then_normal (WC.sub (fr' := [(6, _)]) ?_ ⟨rfl, trivial⟩))
  refine WC.ret (WE.then_ret ?_)
  refine WE.lose hxb ?_
  refine WE.endR (.inl rfl) (res1 Tryz.results7 rfl) ?_
  first | rfl | (have k1 := spoilt (data := data) h32 hi9 hv9 (msgB l data).length (Nat.le_refl _) (by omega); rw [htk9] at k1; have k2 := spoilt (data := data) h32 hi9 hv9 ((msgB l data).length - 1) (by omega) (by omega); first | (exfalso; omega) | (exact congrArg Value.bool (decide_eq_true (by omega))))
 ·
  try simp only [Z1, Z2, Z3, Z4, Z5, Z6, Z7, Z8, Z9, Z0] at q1
  refine WC.skip (WE.then_normal (WC.sub (fr' := [(1, _), (2, _), (3, _)]) ?_ ⟨rfl, rfl, rfl, trivial⟩))
  refine WC.seq (WC.seq ?_)
  rw [Bool.and_eq_true] at q1
  have hf := q1.1
  refine WC.region ?_
  refine WL.q (oq_loadS [_, _] agg30 ty30 rfl (.head _) (List.mem_singleton.2 rfl) rfl rfl) rfl rfl rfl ?_
  refine WL.qc (oq_callRm (sized vh A l hr pp pc data.length hf) (.tail _ (.head _)) call11 rfl) rfl rfl rfl ?_
  refine WL.q (oq_not rfl) rfl rfl rfl ?_
  refine WL.q (oq_move rfl) rfl rfl rfl ?_
  refine WL.split 21 rfl (fun s3_3 => ?_) (fun s3_3 => ?_)
  ·
   try simp only [Z1, Z2, Z3, Z4, Z5, Z6, Z7, Z8, Z9, Z0] at s3_3
   refine WL.skip rfl rfl rfl ?_
   refine WL.skip rfl rfl rfl ?_
   refine WL.skip rfl rfl rfl ?_
   refine WL.skip rfl rfl rfl ?_
   refine WL.q (oq_pick_t rfl rfl) rfl rfl rfl ?_
   refine WL.q (oq_move rfl) rfl rfl rfl ?_
   refine WL.skip rfl rfl rfl ?_
   refine WL.skip rfl rfl rfl ?_
   refine WL.q (oq_pick_t rfl rfl) rfl rfl rfl ?_
   refine WL.nil (WE.then_normal (WC.sub (fr' := [(1, _), (2, _), (3, _), (30, _)]) ?_ ⟨rfl, rfl, rfl, rfl, trivial⟩))
   refine WC.cond_t rfl ?_
   refine WC.seq (WC.region ?_)
   refine WL.qc (oq_call (vAwake) call14 rfl) rfl rfl rfl ?_
   refine WL.q (oq_assign rfl) rfl rfl rfl ?_
   refine WL.nil (WE.then_normal (WC.sub (fr' := [(6, _)]) ?_ ⟨rfl, trivial⟩))
   refine WC.ret (WE.then_ret ?_)
   refine WE.lose hxb ?_
   refine WE.endR (.inl rfl) (res1 Tryz.results7 rfl) ?_
   first | rfl | (have k1 := spoilt (data := data) h32 hi9 hv9 (msgB l data).length (Nat.le_refl _) (by omega); rw [htk9] at k1; have k2 := spoilt (data := data) h32 hi9 hv9 ((msgB l data).length - 1) (by omega) (by omega); first | (exfalso; omega) | (exact congrArg Value.bool (decide_eq_true (by omega))))
  ·
   try simp only [Z1, Z2, Z3, Z4, Z5, Z6, Z7, Z8, Z9, Z0] at s3_3
   obtain ⟨hl1, hsu, hda⟩ := sized_of s3_3
   have hln : l.length ≤ 1000 := by omega
   refine WL.q (oq_fieldAddr fld30_0 rfl) rfl rfl rfl ?_
   refine WL.q (oq_load flat22 rfl (.head _) (List.mem_singleton.2 rfl) rfl) rfl rfl rfl ?_
   refine WL.qc (oq_callRm (vFine vh A l hr hint hln) (.tail _ (.head _)) call12 rfl) rfl rfl rfl ?_
   refine WL.q (oq_not rfl) rfl rfl rfl ?_
   refine WL.q (oq_pick_f rfl rfl) rfl rfl rfl ?_
   refine WL.q (oq_move rfl) rfl rfl rfl ?_
   refine WL.split 27 rfl (fun s3_9 => ?_) (fun s3_9 => ?_)
   ·
    try simp only [Z1, Z2, Z3, Z4, Z5, Z6, Z7, Z8, Z9, Z0] at s3_9
    refine WL.skip rfl rfl rfl ?_
    refine WL.skip rfl rfl rfl ?_
    refine WL.q (oq_pick_t rfl rfl) rfl rfl rfl ?_
    refine WL.nil (WE.then_normal (WC.sub (fr' := [(1, _), (2, _), (3, _), (30, _)]) ?_ ⟨rfl, rfl, rfl, rfl, trivial⟩))
    refine WC.cond_t rfl ?_
    refine WC.seq (WC.region ?_)
    refine WL.qc (oq_call (vAwake) call14 rfl) rfl rfl rfl ?_
    refine WL.q (oq_assign rfl) rfl rfl rfl ?_
    refine WL.nil (WE.then_normal (WC.sub (fr' := [(6, _)]) ?_ ⟨rfl, trivial⟩))
    refine WC.ret (WE.then_ret ?_)
    refine WE.lose hxb ?_
    refine WE.endR (.inl rfl) (res1 Tryz.results7 rfl) ?_
    first | rfl | (have k1 := spoilt (data := data) h32 hi9 hv9 (msgB l data).length (Nat.le_refl _) (by omega); rw [htk9] at k1; have k2 := spoilt (data := data) h32 hi9 hv9 ((msgB l data).length - 1) (by omega) (by omega); first | (exfalso; omega) | (exact congrArg Value.bool (decide_eq_true (by omega))))
   ·
    try simp only [Z1, Z2, Z3, Z4, Z5, Z6, Z7, Z8, Z9, Z0] at s3_9
    refine WL.q (oq_move rfl) rfl rfl rfl ?_
    refine WL.q (oq_eql rfl rfl) rfl rfl rfl ?_
    refine WL.q (oq_pick_f rfl rfl) rfl rfl rfl ?_
    refine WL.nil (WE.then_normal (WC.sub (fr' := [(1, _), (2, _), (3, _), (30, _)]) ?_ ⟨rfl, rfl, rfl, rfl, trivial⟩))
    refine WC.cond rfl (fun q3 => ?_) (fun q3 => ?_)
    ·
     try simp only [Z1, Z2, Z3, Z4, Z5, Z6, Z7, Z8, Z9, Z0] at q3
     refine WC.seq (WC.region ?_)
     refine WL.qc (oq_call (vAwake) call14 rfl) rfl rfl rfl ?_
     refine WL.q (oq_assign rfl) rfl rfl rfl ?_
     refine WL.nil (WE.then_normal (WC.sub (fr' := [(6, _)]) ?_ ⟨rfl, trivial⟩))
     refine WC.ret (WE.then_ret ?_)
     refine WE.lose hxb ?_
     refine WE.endR (.inl rfl) (res1 Tryz.results7 rfl) ?_
     first | rfl | (have k1 := spoilt (data := data) h32 hi9 hv9 (msgB l data).length (Nat.le_refl _) (by omega); rw [htk9] at k1; have k2 := spoilt (data := data) h32 hi9 hv9 ((msgB l data).length - 1) (by omega) (by omega); first | (exfalso; omega) | (exact congrArg Value.bool (decide_eq_true (by omega))))
    ·
     try simp only [Z1, Z2, Z3, Z4, Z5, Z6, Z7, Z8, Z9, Z0] at q3
     refine WC.skip (WE.then_normal (WC.sub (fr' := [(1, _), (2, _), (3, _)]) ?_ ⟨rfl, rfl, rfl, trivial⟩))
     refine WC.seq ?_
     have hfin : l.all fineB = true := by simpa using s3_9
     have hok := fine_ok hfin hsu
     have hsz : szL l ≤ 100000 := by rw [szL_sum]; omega
     have hdl : (hdrs l).length ≤ szL l := by have := hdrs_len hok l.length (Nat.le_refl _); rw [List.take_length] at this; exact this
     have hml := msgB_pos l data
     have h32 : 16 + (hdrs l).length + data.length < 4294967296 := by omega
     refine WC.region ?_
     refine WL.q (oq_loadS [_, _] agg30 ty30 rfl (.head _) (List.mem_singleton.2 rfl) rfl rfl) rfl rfl rfl ?_
     refine WL.f1 ?_
     refine WL.callA (vEncodeO vh A l hr hok hln hsz pp pc data hrp (by omega)) call26 rfl rfl rfl fun v5_1 N5_1 hR5_1 hN5_1 => ?_
     obtain ⟨sv, rfl, hO⟩ := hR5_1
     refine WL.q (oq_move rfl) rfl rfl rfl ?_
     refine WL.q (oq_extract rfl rfl) rfl rfl rfl ?_
     refine WL.q (oq_extract rfl rfl) rfl rfl rfl ?_
     refine WL.q (oq_assign rfl) rfl rfl rfl ?_
     refine WL.q (oq_assign rfl) rfl rfl rfl ?_
     refine WL.nil (WE.then_normal (WC.sub (fr' := [(1, _), (2, _), (7, _), (8, _)]) ?_ ⟨rfl, rfl, rfl, rfl, trivial⟩))
     refine WC.seq (WC.seq (WC.region ?_))
     refine WL.q (oq_move rfl) rfl rfl rfl ?_
     refine WL.q (oq_not rfl) rfl rfl rfl ?_
     refine WL.q (oq_move rfl) rfl rfl rfl ?_
     refine WL.split 39 rfl (fun s6_2 => ?_) (fun s6_2 => ?_)
     ·
      try simp only [Z1, Z2, Z3, Z4, Z5, Z6, Z7, Z8, Z9, Z0] at s6_2
      refine WL.skip rfl rfl rfl ?_
      refine WL.skip rfl rfl rfl ?_
      refine WL.q (oq_pick_t rfl rfl) rfl rfl rfl ?_
      refine WL.q (oq_move rfl) rfl rfl rfl ?_
      refine WL.skip rfl rfl rfl ?_
      refine WL.skip rfl rfl rfl ?_
      refine WL.skip rfl rfl rfl ?_
      refine WL.skip rfl rfl rfl ?_
      refine WL.q (oq_pick_t rfl rfl) rfl rfl rfl ?_
      refine WL.nil (WE.then_normal (WC.sub (fr' := [(1, _), (2, _), (7, _), (48, _)]) ?_ ⟨rfl, rfl, rfl, rfl, trivial⟩))
      refine WC.cond_t rfl ?_
      refine WC.seq (WC.region ?_)
      refine WL.qc (oq_call (vAwake) call14 rfl) rfl rfl rfl ?_
      refine WL.q (oq_assign rfl) rfl rfl rfl ?_
      refine WL.nil (WE.then_normal (WC.sub (fr' := [(6, _)]) ?_ ⟨rfl, trivial⟩))
      refine WC.ret (WE.then_ret ?_)
      refine WE.forget hN5_1 ?_
      refine WE.f1 ?_
      refine WE.lose hxb ?_
      refine WE.endR (.inl rfl) (res1 Tryz.results7 rfl) ?_
      first | rfl | (have k1 := spoilt (data := data) h32 hi9 hv9 (msgB l data).length (Nat.le_refl _) (by omega); rw [htk9] at k1; have k2 := spoilt (data := data) h32 hi9 hv9 ((msgB l data).length - 1) (by omega) (by omega); first | (exfalso; omega) | (exact congrArg Value.bool (decide_eq_true (by omega))))
     ·
      try simp only [Z1, Z2, Z3, Z4, Z5, Z6, Z7, Z8, Z9, Z0] at s6_2
      refine WL.q (oq_move rfl) rfl rfl rfl ?_
      refine WL.q (oq_lss rfl rfl) rfl rfl rfl ?_
      refine WL.q (oq_pick_f rfl rfl) rfl rfl rfl ?_
      refine WL.q (oq_move rfl) rfl rfl rfl ?_
      refine WL.split 43 rfl (fun s6_6 => ?_) (fun s6_6 => ?_)
      ·
       try simp only [Z1, Z2, Z3, Z4, Z5, Z6, Z7, Z8, Z9, Z0] at s6_6
       refine WL.skip rfl rfl rfl ?_
       refine WL.skip rfl rfl rfl ?_
       refine WL.skip rfl rfl rfl ?_
       refine WL.skip rfl rfl rfl ?_
       refine WL.q (oq_pick_t rfl rfl) rfl rfl rfl ?_
       refine WL.nil (WE.then_normal (WC.sub (fr' := [(1, _), (2, _), (7, _), (48, _)]) ?_ ⟨rfl, rfl, rfl, rfl, trivial⟩))
       refine WC.cond_t rfl ?_
       refine WC.seq (WC.region ?_)
       refine WL.qc (oq_call (vAwake) call14 rfl) rfl rfl rfl ?_
       refine WL.q (oq_assign rfl) rfl rfl rfl ?_
       refine WL.nil (WE.then_normal (WC.sub (fr' := [(6, _)]) ?_ ⟨rfl, trivial⟩))
       refine WC.ret (WE.then_ret ?_)
       refine WE.forget hN5_1 ?_
       refine WE.f1 ?_
       refine WE.lose hxb ?_
       refine WE.endR (.inl rfl) (res1 Tryz.results7 rfl) ?_
       first | rfl | (have k1 := spoilt (data := data) h32 hi9 hv9 (msgB l data).length (Nat.le_refl _) (by omega); rw [htk9] at k1; have k2 := spoilt (data := data) h32 hi9 hv9 ((msgB l data).length - 1) (by omega) (by omega); first | (exfalso; omega) | (exact congrArg Value.bool (decide_eq_true (by omega))))
      ·
       try simp only [Z1, Z2, Z3, Z4, Z5, Z6, Z7, Z8, Z9, Z0] at s6_6
       obtain ⟨B, cap, L, F, rfl, rfl, hL, hLc, hLt⟩ := hO (by simpa using s6_2)
       have hB := hN5_1 B _ (List.mem_append_right _ (List.mem_singleton.2 rfl))
       have hF : ∀ b o, (b, o) ∈ F → w0.heap.size ≤ b := fun b o hb => hN5_1 b o (List.mem_append_left _ hb)
       refine WL.q (oq_move rfl) rfl rfl rfl ?_
       refine WL.q (oq_move rfl) rfl rfl rfl ?_
       refine WL.q (oq_len_sl Tryz.underlying28 rfl) rfl rfl rfl ?_
       refine WL.q (oq_geq rfl rfl) rfl rfl rfl ?_
       refine WL.q (oq_pick_f rfl rfl) rfl rfl rfl ?_
       refine WL.nil (WE.then_normal (WC.sub (fr' := [(1, _), (2, _), (7, _), (48, _)]) ?_ ⟨rfl, rfl, rfl, rfl, trivial⟩))
       refine WC.cond rfl (fun q6 => ?_) (fun q6 => ?_)
       ·
        try simp only [Z1, Z2, Z3, Z4, Z5, Z6, Z7, Z8, Z9, Z0] at q6
        refine WC.seq (WC.region ?_)
        refine WL.qc (oq_call (vAwake) call14 rfl) rfl rfl rfl ?_
        refine WL.q (oq_assign rfl) rfl rfl rfl ?_
        refine WL.nil (WE.then_normal (WC.sub (fr' := [(6, _)]) ?_ ⟨rfl, trivial⟩))
        refine WC.ret (WE.then_ret ?_)
        refine WE.forget hN5_1 ?_
        refine WE.f1 ?_
        refine WE.lose hxb ?_
        refine WE.endR (.inl rfl) (res1 Tryz.results7 rfl) ?_
        first | rfl | (have k1 := spoilt (data := data) h32 hi9 hv9 (msgB l data).length (Nat.le_refl _) (by omega); rw [htk9] at k1; have k2 := spoilt (data := data) h32 hi9 hv9 ((msgB l data).length - 1) (by omega) (by omega); first | (exfalso; omega) | (exact congrArg Value.bool (decide_eq_true (by omega))))
       ·
        try simp only [Z1, Z2, Z3, Z4, Z5, Z6, Z7, Z8, Z9, Z0] at q6
        refine WC.skip (WE.then_normal (WC.sub (fr' := [(1, _), (2, _), (7, _)]) ?_ ⟨rfl, rfl, rfl, trivial⟩))
        refine WC.seq ?_
        obtain ⟨i, rfl⟩ : ∃ i : Nat, a = (i : Int) := ⟨a.toNat, by omega⟩
        refine WC.reg (reg_out List.perm_append_comm) ?_
        refine WC.region ?_
        refine WL.q (oq_move rfl) rfl rfl rfl ?_
        refine WL.q (oq_move rfl) rfl rfl rfl ?_
        refine WL.q (oq_move rfl) rfl rfl rfl ?_
        refine WL.q (oq_move rfl) rfl rfl rfl ?_
        refine WL.q (oq_ixSl (i := i) Tryz.underlying28 ty5 rfl rfl (by omega)) rfl rfl rfl ?_
        refine WL.loadB flat5 rfl (.head _) (by omega) rfl rfl fun c8_5 hc8_5 hc8_5l hc8_5u => ?_
        refine WL.q (oq_move rfl) rfl rfl rfl ?_
        rw [show c8_5 = ((L.getD i 0).toNat : Int) from by rw [hc8_5, Nat.zero_add]; rfl]
        refine WL.q (oq_x8 (L.getD i 0) v8 rfl rfl) rfl rfl rfl ?_
        refine WL.q (oq_ixSl (i := i) Tryz.underlying28 ty5 rfl rfl (by omega)) rfl rfl rfl ?_
        refine WL.storeB ty5 rfl rfl (by have := (L.getD i 0 ^^^ v8).toNat_lt; omega) (by omega) rfl ?_
        refine WL.nil (WE.then_normal (WC.sub (fr' := [(7, _)]) ?_ ⟨rfl, trivial⟩))
        refine WC.seq ?_
        rw [set_back, Nat.zero_add]
        have hi9 : i < (msgB l data).length := by omega
        have hgL : L.getD i 0 = (msgB l data)[i] := by rw [List.getD_eq_getElem?_getD, List.getElem?_eq_getElem (by omega)]; simp only [Option.getD_some]; rw [← List.getElem_take (h := by rw [hLt]; exact hi9)]; simp only [hLt]
        have hv9 : (L.getD i 0 ^^^ v8) ≠ (msgB l data)[i] := by rw [hgL]; exact xor_ne (fun e => by subst e; exact absurd q3 (by decide))
        have hal9 : ((msgB l data).set i (L.getD i 0 ^^^ v8)).length = (msgB l data).length := List.length_set
        have htk9 : ((msgB l data).set i (L.getD i 0 ^^^ v8)).take (msgB l data).length = ((msgB l data).set i (L.getD i 0 ^^^ v8)) := List.take_of_length_le (by rw [hal9]; omega)
        have hLs : (L.set i (L.getD i 0 ^^^ v8)).take (msgB l data).length = ((msgB l data).set i (L.getD i 0 ^^^ v8)) := by rw [List.take_set, hLt]
        have hrd9 := (rd_head (B := B) (cap := cap) (n := ((msgB l data).set i (L.getD i 0 ^^^ v8)).length) (x := ((msgB l data).set i (L.getD i 0 ^^^ v8))) (L := L.set i (L.getD i 0 ^^^ v8)) (by rw [List.length_set]; exact hL) (by rw [hal9]; exact hLc) (by rw [hal9]; exact hLs)).weaken (C := Bf B 5 (L.set i (L.getD i 0 ^^^ v8)) ++ A) (fun x hx => List.mem_append_left _ hx)
        have hS2 := hS.weaken (C := Bf B 5 (L.set i (L.getD i 0 ^^^ v8)) ++ A) (fun x hx => List.mem_append_right _ hx)
        refine WC.f2 ?_
        refine WC.f1 ?_
        refine WC.cat ?_
        refine WC.region ?_
        refine WL.q (oq_move rfl) rfl rfl rfl ?_
        refine WL.callA (vDecode _ kE pE pU hS2 (some ⟨B, 0, none⟩) cap ((msgB l data).set i (L.getD i 0 ^^^ v8)) hrd9 (by rw [List.length_set, hml]; omega) (fun h => by have := spoilt_wf (data := data) h32 hi9 hv9 (msgB l data).length (by rw [htk9]; exact h); rwa [htk9] at this)) call27 (show _ = some [Sl B 0 ((msgB l data).set i (L.getD i 0 ^^^ v8)).length cap] by rw [hal9]; rfl) rfl rfl fun v9_1 N9_1 hR9_1 hN9_1 => ?_
        obtain ⟨mv9, n9, rfl, hv9_, pv9_, rfl, o1_9, o2_9, hok9⟩ := hR9_1
        refine WL.q (oq_move rfl) rfl rfl rfl ?_
        refine WL.q (oq_extract rfl rfl) rfl rfl rfl ?_
        refine WL.q (oq_extract rfl rfl) rfl rfl rfl ?_
        refine WL.q (oq_extract rfl rfl) rfl rfl rfl ?_
        refine WL.alloc ty30 rfl rfl fun m9 hm9 => ?_
        refine WL.storeS (#[hv9_, pv9_]) ty30 rfl rfl rfl (by simp [Value.cells, o1_9, o2_9]) (Nat.le_of_ble_eq_true rfl) rfl rfl ?_
        refine WL.q (oq_assign rfl) rfl rfl rfl ?_
        refine WL.q (oq_assign rfl) rfl rfl rfl ?_
        refine WL.nil (WE.then_normal (WC.sub (fr' := [(7, _), (10, _)]) ?_ ⟨rfl, rfl, trivial⟩))
        refine WC.seq ?_
        have hal10 : (((msgB l data).set i (L.getD i 0 ^^^ v8)).take ((msgB l data).length - 1)).length = (msgB l data).length - 1 := by rw [List.length_take, hal9]; omega
        have hrd10 := (rd_head (B := B) (cap := cap) (n := (((msgB l data).set i (L.getD i 0 ^^^ v8)).take ((msgB l data).length - 1)).length) (L := L.set i (L.getD i 0 ^^^ v8)) (x := ((msgB l data).set i (L.getD i 0 ^^^ v8)).take ((msgB l data).length - 1)) (by rw [List.length_set]; exact hL) (by omega) (by rw [hal10, ← hLs, List.take_take, Nat.min_eq_left (by omega)])).weaken (C := Bf B 5 (L.set i (L.getD i 0 ^^^ v8)) ++ A) (fun x hx => List.mem_append_left _ hx)
        refine WC.region ?_
        refine WL.q (oq_move rfl) rfl rfl rfl ?_
        refine WL.q (oq_move rfl) rfl rfl rfl ?_
        refine WL.q (oq_len_sl Tryz.underlying28 rfl) rfl rfl rfl ?_
        refine WL.q (oq_sub rfl rfl (by rw [i64_lo, i64_hi]; (first | omega | (simp only [List.length_cons, List.length_nil, List.length_append, List.length_drop, List.length_take]; omega)))) rfl rfl rfl ?_
        refine WL.q (oq_sliceSl (j := ((msgB l data).length - 1)) Tryz.underlying28 ty5 rfl (by omega) rfl ⟨_, gti rfl (by omega)⟩ (by omega) (by omega)) rfl rfl rfl ?_
        refine WL.f2 ?_
        refine WL.callA (vDecode _ kE pE pU hS2 (some ⟨B, 0, none⟩) cap (((msgB l data).set i (L.getD i 0 ^^^ v8)).take ((msgB l data).length - 1)) hrd10 (by rw [List.length_take, List.length_set, hml]; omega) (fun h => spoilt_wf (data := data) h32 hi9 hv9 _ h)) call27 (show _ = some [Sl B 0 (((msgB l data).set i (L.getD i 0 ^^^ v8)).take ((msgB l data).length - 1)).length cap] by rw [hal10]; rfl) rfl rfl fun v10_5 N10_5 hR10_5 hN10_5 => ?_
        obtain ⟨mv10, n10, rfl, hv10_, pv10_, rfl, o1_10, o2_10, hok10⟩ := hR10_5
        refine WL.q (oq_move rfl) rfl rfl rfl ?_
        refine WL.q (oq_extract rfl rfl) rfl rfl rfl ?_
        refine WL.q (oq_extract rfl rfl) rfl rfl rfl ?_
        refine WL.q (oq_extract rfl rfl) rfl rfl rfl ?_
        refine WL.alloc ty30 rfl rfl fun m10 hm10 => ?_
        refine WL.storeS (#[hv10_, pv10_]) ty30 rfl rfl rfl (by simp [Value.cells, o1_10, o2_10]) (Nat.le_of_ble_eq_true rfl) rfl rfl ?_
        refine WL.q (oq_assign rfl) rfl rfl rfl ?_
        refine WL.q (oq_assign rfl) rfl rfl rfl ?_
        refine WL.nil (WE.then_normal (WC.sub (fr' := [(10, _), (13, _)]) ?_ ⟨rfl, rfl, trivial⟩))
        refine WC.seq ?_
        refine WC.f2 ?_
        refine WC.reg (reg_out (List.Perm.refl _)) ?_
        refine WC.region ?_
        refine WL.q (oq_move rfl) rfl rfl rfl ?_
        refine WL.q (oq_neq rfl rfl) rfl rfl rfl ?_
        refine WL.q (oq_move rfl) rfl rfl rfl ?_
        refine WL.split 77 rfl (fun s11_2 => ?_) (fun s11_2 => ?_)
        ·
         try simp only [Z1, Z2, Z3, Z4, Z5, Z6, Z7, Z8, Z9, Z0] at s11_2
         refine WL.q (oq_move rfl) rfl rfl rfl ?_
         refine WL.q (oq_neq rfl rfl) rfl rfl rfl ?_
         refine WL.q (oq_pick_t rfl rfl) rfl rfl rfl ?_
         refine WL.q (oq_assign rfl) rfl rfl rfl ?_
         refine WL.nil (WE.then_normal (WC.sub (fr' := [(6, _)]) ?_ ⟨rfl, trivial⟩))
         refine WC.ret ?_
         refine WE.lose hB ?_
         refine WE.f1 ?_
         refine WE.lose hm10 ?_
         refine WE.f1 ?_
         refine WE.forget hN10_5 ?_
         refine WE.f1 ?_
         refine WE.lose hm9 ?_
         refine WE.f1 ?_
         refine WE.forget hN9_1 ?_
         refine WE.f1 ?_
         refine WE.forget hF ?_
         refine WE.f1 ?_
         refine WE.lose hxb ?_
         refine WE.endR (.inl rfl) (res1 Tryz.results7 rfl) ?_
         first | rfl | (have k1 := spoilt (data := data) h32 hi9 hv9 (msgB l data).length (Nat.le_refl _) (by omega); rw [htk9] at k1; have k2 := spoilt (data := data) h32 hi9 hv9 ((msgB l data).length - 1) (by omega) (by omega); first | (exfalso; omega) | (exact congrArg Value.bool (decide_eq_true (by omega))))
        ·
         try simp only [Z1, Z2, Z3, Z4, Z5, Z6, Z7, Z8, Z9, Z0] at s11_2
         refine WL.skip rfl rfl rfl ?_
         refine WL.skip rfl rfl rfl ?_
         refine WL.q (oq_pick_f rfl rfl) rfl rfl rfl ?_
         refine WL.q (oq_assign rfl) rfl rfl rfl ?_
         refine WL.nil (WE.then_normal (WC.sub (fr' := [(6, _)]) ?_ ⟨rfl, trivial⟩))
         refine WC.ret ?_
         refine WE.lose hB ?_
         refine WE.f1 ?_
         refine WE.lose hm10 ?_
         refine WE.f1 ?_
         refine WE.forget hN10_5 ?_
         refine WE.f1 ?_
         refine WE.lose hm9 ?_
         refine WE.f1 ?_
         refine WE.forget hN9_1 ?_
         refine WE.f1 ?_
         refine WE.forget hF ?_
         refine WE.f1 ?_
         refine WE.lose hxb ?_
         refine WE.endR (.inl rfl) (res1 Tryz.results7 rfl) ?_
         first | rfl | (have k1 := spoilt (data := data) h32 hi9 hv9 (msgB l data).length (Nat.le_refl _) (by omega); rw [htk9] at k1; have k2 := spoilt (data := data) h32 hi9 hv9 ((msgB l data).length - 1) (by omega) (by omega); first | (exfalso; omega) | (exact congrArg Value.bool (decide_eq_true (by omega))))
end DO
end Go.Proofs.YtodlhaghdplclaaGreatDoor
/- The engine, part 30: sentinels of errors with their texts. Over any program. -/
namespace Go.Proofs.YtodlhaghdplclaaGreatDoor.V
open Go Go.RowKit Go.ChangeShapes Go.WideShapes
set_option linter.unusedSimpArgs false
set_option linter.unusedVariables false
theorem laid_err {P : Program} {w : World} {n nm : String} {text : List UInt8} {g : Nat} {t k te ts : TypeId} {f : Field} {r : List (String × DataW Unit)} {ps : List MemPlace} {ms : Array (String × TypeId)} (h : DataW.LaidVars P w ((n, .iface nm (.ptr (.agg [.lit (.string text)]))) :: r) ps)
  (hall : ∀ b off, MemPlace.cell b off ∈ ps → (∃ c t, w.heap[b]? = some (.cells c t (0, 0))) ∧ ∀ u v, w.cell? ⟨b, off, none⟩ = some (.iface u v) → Value.okWide P w .any 0 u v) (hg : P.globalNamed n = some g) (ht : (P.globals[g]?).map (·.type) = some t)
  (hi : P.underlying t = some (.interface ms)) (hrow : ∀ u, P.typeName? 3 u = some nm → u = k) (hp : P.underlying k = some (.pointer te)) (he : P.underlying te = some (.struct #[f])) (hft : f.type = ts) (hfo : f.offset = 0) (hs : P.underlying ts = some .string) (hc : P.cellsOf te = 1) (hcs : P.cellsOf ts = 1) :
  (∃ (a : Addr) (s : ByteArray) (c0 : Array Value) (t0 tg : TypeId) (fg : Nat × Nat), w.heap[g]? = some (.cells #[.iface k (.pointer (some a))] tg fg) ∧ w.cell? a = some (.string s) ∧ s.data.toList = text ∧ w.heap[a.block]? = some (.cells c0 t0 (0, 0))) ∧
  ∃ q, DataW.LaidVars P w r q ∧ ∀ b off, MemPlace.cell b off ∈ q → (∃ c t, w.heap[b]? = some (.cells c t (0, 0))) ∧ ∀ u v, w.cell? ⟨b, off, none⟩ = some (.iface u v) → Value.okWide P w .any 0 u v := by
 obtain ⟨g', t', cs, fuel, p, q, hg', ht', hv, hd, hr, rfl⟩ := h
 obtain rfl := Option.some.inj (hg.symm.trans hg')
 obtain rfl := Option.some.inj (ht.symm.trans ht')
 obtain ⟨l⟩ := cs
 have ok : ∀ u v, l = [.iface u v] → Value.okWide P w .any 0 u v := fun u v e => by
  subst e
  exact (hall g 0 (by simp [MemPlace.row])).2 u v (by simpa using World.var?_cell hg hv 0)
 obtain ⟨a, s, hl, hcell, hst, _, rfl⟩ := errorString_of_trod hi hrow hp he hft hfo hs hc hcs hd ok
 obtain ⟨tg, fg, hh⟩ := var_heap hg hv
 have hl2 : l = [.iface k (.pointer (some a))] := hl
 subst hl2
 obtain ⟨c0, t0, hb⟩ := (hall a.block a.off (by simp [MemPlace.row])).1
 exact ⟨⟨a, s, c0, t0, tg, fg, hh, hcell, hst, hb⟩, q, hr, fun b off hm => hall b off (List.mem_append_right _ hm)⟩
end Go.Proofs.YtodlhaghdplclaaGreatDoor.V
/- What the listed variables hold. -/
namespace Go.Proofs.YtodlhaghdplclaaGreatDoor
open Go Go.RowKit V DC
set_option linter.unusedVariables false
namespace DN
theorem star : "*" ++ "errors.errorString" = "*errors.errorString" := by decide
theorem rowE (u : TypeId) (h : Tryz.prog.typeName? 3 u = some "*errors.errorString") : u = 248 :=
 typeName_ptr_named (nm := "errors.errorString") (by rw [star]; kernel_rfl) (by kernel_rfl) (by decide) u (by rw [star]; exact h)
theorem tyE : Ty Tryz.prog 250 (.agg #[S []]) 1 16 := ty_of (by kernel_rfl)
theorem compE : Comp Tryz.prog 248 250 := by
 refine ⟨Tryz.underlying248, ?_, _, _, _, tyE, by decide⟩
 cases hi : Tryz.prog.info? 248 with
 | none =>
  have h : (Tryz.prog.info? 248).isSome = true := by kernel_rfl
  rw [hi] at h; cases h
 | some inf =>
  exact ⟨inf, rfl, by
   have h : (Tryz.prog.info? 248).map (·.comparable) = some true := by kernel_rfl
   rw [hi] at h; simpa using h⟩
theorem g0 : Tryz.prog.globalNamed "io.EOF" = some 0 := by kernel_rfl
theorem g1 : Tryz.prog.globalNamed "io.ErrUnexpectedEOF" = some 1 := by kernel_rfl
theorem g2 : Tryz.prog.globalNamed "io.errInvalidWrite" = some 2 := by kernel_rfl
theorem g3 : Tryz.prog.globalNamed "io.ErrShortWrite" = some 3 := by kernel_rfl
theorem g4 : Tryz.prog.globalNamed "io.ErrShortBuffer" = some 4 := by kernel_rfl
theorem t0 : (Tryz.prog.globals[0]?).map (·.type) = some 99 := by kernel_rfl
theorem t1 : (Tryz.prog.globals[1]?).map (·.type) = some 99 := by kernel_rfl
theorem t2 : (Tryz.prog.globals[2]?).map (·.type) = some 99 := by kernel_rfl
theorem t3 : (Tryz.prog.globals[3]?).map (·.type) = some 99 := by kernel_rfl
theorem t4 : (Tryz.prog.globals[4]?).map (·.type) = some 99 := by kernel_rfl
theorem cE : Tryz.prog.cellsOf 250 = 1 := by kernel_rfl
theorem cS : Tryz.prog.cellsOf 9 = 1 := by kernel_rfl
set_option maxRecDepth 100000 in
theorem sn_laid {W : World} (h : laidMetH Tryz.prog Rows.fnVBackRow.laid W) : ∃ G pE pU, Has G W ∧ Sn G 248 pE pU := by
 rw [Go.MakeChecks.laidMetH_plain _ _ _ (by kernel_rfl)] at h
 obtain ⟨ps, hl, _, hall⟩ := h
 obtain ⟨_, q3, hl, hall⟩ := laid_err hl hall g3 t3 Tryz.underlying99 rowE Tryz.underlying248 Tryz.underlying250 rfl rfl Tryz.underlying9 cE cS
 obtain ⟨_, q2, hl, hall⟩ := laid_err hl hall g2 t2 Tryz.underlying99 rowE Tryz.underlying248 Tryz.underlying250 rfl rfl Tryz.underlying9 cE cS
 obtain ⟨⟨a4, s4, c4, u4, k4, f4, h4, x4, y4, z4⟩, q4, hl, hall⟩ := laid_err hl hall g4 t4 Tryz.underlying99 rowE Tryz.underlying248 Tryz.underlying250 rfl rfl Tryz.underlying9 cE cS
 obtain ⟨⟨a0, s0, c0, u0, k0, f0, h0, x0, y0, z0⟩, q0, hl, hall⟩ := laid_err hl hall g0 t0 Tryz.underlying99 rowE Tryz.underlying248 Tryz.underlying250 rfl rfl Tryz.underlying9 cE cS
 obtain ⟨⟨a1, s1, c1, u1, k1, f1, h1, x1, y1, z1⟩, q1, hl, hall⟩ := laid_err hl hall g1 t1 Tryz.underlying99 rowE Tryz.underlying248 Tryz.underlying250 rfl rfl Tryz.underlying9 cE cS
 have one : ∀ b o, W.heap[b]? = some o → Has [(b, o)] W := fun b o hb => ⟨fun b' o' hm => by rw [List.mem_singleton] at hm; cases hm; exact hb, by simp⟩
 obtain ⟨C, hC, hin⟩ := has_list (W := W) [[(0, _)], [(1, _)], [(4, _)], [(a0.block, _)], [(a1.block, _)]] (by
  intro A hA
  simp only [List.mem_cons, List.not_mem_nil, or_false] at hA
  rcases hA with rfl | rfl | rfl | rfl | rfl
  ·exact one _ _ h0
  ·exact one _ _ h1
  ·exact one _ _ h4
  ·exact one _ _ z0
  ·exact one _ _ z1)
 refine ⟨C, a0, a1, hC, ⟨⟨_, compE⟩, ⟨_, _, hin _ (.head _) _ (.head _)⟩, ⟨_, _, hin _ (.tail _ (.head _)) _ (.head _)⟩, ⟨_, _, _, _, hin _ (.tail _ (.tail _ (.head _))) _ (.head _)⟩, ?_, ⟨_, _, hin _ (.tail _ (.tail _ (.tail _ (.head _)))) _ (.head _)⟩, ⟨_, _, hin _ (.tail _ (.tail _ (.tail _ (.tail _ (.head _))))) _ (.head _)⟩, rfl⟩⟩
 rintro rfl
 rw [x0] at x1
 injection x1 with x1
 injection x1 with x1
 rw [← x1, y0] at y1
 exact absurd y1 (by decide)
end DN
end Go.Proofs.YtodlhaghdplclaaGreatDoor
/- Headers and messages that come in. -/
namespace Go.Proofs.YtodlhaghdplclaaGreatDoor
open Go Go.RowKit Go.ChangeShapes Go.WideShapes V EI EJ ER
set_option linter.unusedVariables false
set_option linter.unusedSimpArgs false
namespace ET
theorem cS : Tryz.prog.cellsOf 9 = 1 := by kernel_rfl
theorem cI : Tryz.prog.cellsOf 3 = 1 := by kernel_rfl
theorem cJ : Tryz.prog.cellsOf 2 = 1 := by kernel_rfl
theorem cU : Tryz.prog.cellsOf 5 = 1 := by kernel_rfl
theorem cV : Tryz.prog.cellsOf 24 = 4 := by kernel_rfl
theorem cH : Tryz.prog.cellsOf 32 = 5 := by kernel_rfl
theorem cM : Tryz.prog.cellsOf 30 = 2 := by kernel_rfl
theorem cL : Tryz.prog.cellsOf 22 = 1 := by kernel_rfl
theorem cB : Tryz.prog.cellsOf 28 = 1 := by kernel_rfl
def okI (x : Int) : Prop := -9223372036854775808 ≤ x ∧ x ≤ 9223372036854775807
def okV (h : HV) : Prop := okI h.int ∧ okI h.width ∧ okI h.kind
theorem wfI {n : Int} (h : (Lit.int .i64 n).wf = true) : okI n := by
 have := wf_bounds h
 rw [i64_lo, i64_hi] at this; exact this
section
variable {H : Type} {enc : TypeId × Value → H} {W : World}
set_option maxRecDepth 100000 in
theorem val_cells {n : Nat} {cs : List Value} {y : DataW H × List MemPlace} (h : DataW.trod enc Tryz.prog W 0 (fun _ => true) true n 24 cs = some y) (hl : cs.length = 4) : ∃ x : HV, cs = [I x.kind, I x.width, I x.int, S x.text] ∧ okV x := by
 obtain ⟨xs, m, _, rfl, _, hlen, hf⟩ := DataW.trod_struct Tryz.underlying24 h
 match xs, hlen with
 | [y0, y1, y2, y3], _ =>
  match cs, hl with
  | [a, b, c, d], _ =>
   have k0 : DataW.trod enc Tryz.prog W 0 (fun _ => true) true m 3 (([a, b, c, d].drop 0).take (Tryz.prog.cellsOf 3)) = some y0 := hf 0 _ rfl
   have k1 : DataW.trod enc Tryz.prog W 0 (fun _ => true) true m 3 (([a, b, c, d].drop 1).take (Tryz.prog.cellsOf 3)) = some y1 := hf 1 _ rfl
   have k2 : DataW.trod enc Tryz.prog W 0 (fun _ => true) true m 2 (([a, b, c, d].drop 2).take (Tryz.prog.cellsOf 2)) = some y2 := hf 2 _ rfl
   have k3 : DataW.trod enc Tryz.prog W 0 (fun _ => true) true m 9 (([a, b, c, d].drop 3).take (Tryz.prog.cellsOf 9)) = some y3 := hf 3 _ rfl
   rw [cI] at k0 k1
   rw [cJ] at k2
   rw [cS] at k3
   obtain ⟨s0, e0, _, w0⟩ := DataW.trod_int Tryz.underlying3 k0
   obtain ⟨s1, e1, _, w1⟩ := DataW.trod_int Tryz.underlying3 k1
   obtain ⟨s2, e2, _, w2⟩ := DataW.trod_int Tryz.underlying2 k2
   obtain ⟨s3, e3, _⟩ := DataW.trod_string Tryz.underlying9 k3
   simp at e0 e1 e2 e3
   subst e0; subst e1; subst e2; subst e3
   obtain ⟨⟨s3⟩⟩ := s3
   exact ⟨⟨[], s0, s1, s2, s3⟩, rfl, wfI w2, wfI w1, wfI w0⟩
set_option maxRecDepth 100000 in
theorem hv_cells (n : Nat) (cs : List Value) (y : DataW H × List MemPlace) (h : DataW.trod enc Tryz.prog W 0 (fun _ => true) true n 32 cs = some y) (hl : cs.length = 5) : ∃ (x : HV) (A : Hp), cs = HV.row x ∧ Has A W ∧ okV x := by
 obtain ⟨xs, m, _, rfl, _, hlen, hf⟩ := DataW.trod_struct Tryz.underlying32 h
 match xs, hlen with
 | [y0, y1], _ =>
  match cs, hl with
  | [a, b, c, d, e], _ =>
   have k0 : DataW.trod enc Tryz.prog W 0 (fun _ => true) true m 9 (([a, b, c, d, e].drop 0).take (Tryz.prog.cellsOf 9)) = some y0 := hf 0 _ rfl
   have k1 : DataW.trod enc Tryz.prog W 0 (fun _ => true) true m 24 (([a, b, c, d, e].drop 1).take (Tryz.prog.cellsOf 24)) = some y1 := hf 1 _ rfl
   rw [cS] at k0
   rw [cV] at k1
   obtain ⟨s0, e0, _⟩ := DataW.trod_string Tryz.underlying9 k0
   obtain ⟨x, e1, hx⟩ := val_cells k1 rfl
   simp at e0 e1
   obtain ⟨rfl, rfl, rfl, rfl⟩ := e1
   subst e0
   obtain ⟨⟨s0⟩⟩ := s0
   exact ⟨⟨s0, x.kind, x.width, x.int, x.text⟩, [], rfl, Has.nil W, hx⟩
theorem int_of {l : List HV} (h : ∀ x ∈ l, okV x) : intOk l := fun i hi => by
 have := h (l.getD i HV0) (by rw [List.getD_eq_getElem?_getD, List.getElem?_eq_getElem hi]; exact List.getElem_mem hi)
 exact ⟨this.1.1, this.1.2, this.2.1.1, this.2.1.2⟩
theorem hs_cells {n : Nat} {cs : List Value} {y : DataW H × List MemPlace} (h : DataW.trod enc Tryz.prog W 0 (fun _ => true) true n 22 cs = some y) :
  ∃ (v : Value) (l : List HV) (A : Hp), cs = [v] ∧ Has A W ∧ RdS 5 v A l.length (recsV HV.row l) ∧ l.length ≤ maxLen ∧ ∀ x ∈ l, okV x :=
 trod_sl HV.row (fun x _ => okV x) (fun _ _ _ h _ => h) (fun _ => rfl) (by decide) Tryz.underlying22 cH hv_cells h
structure MV where
 vh : Value
 l : List HV
 pp : Option Addr
 pc : Nat
 data : List UInt8
def MV.row (m : MV) : List Value := [m.vh, .slice m.pp m.data.length m.pc]
structure MvIn (m : MV) (A : Hp) : Prop where
 rd : RdS 5 m.vh A m.l.length (recsV HV.row m.l)
 rdp : RdS 1 (.slice m.pp m.data.length m.pc) A m.data.length (bytesV m.data)
 int : intOk m.l
 len : m.l.length ≤ maxLen
 plen : m.data.length ≤ maxLen
theorem MvIn.weaken {m : MV} {A C : Hp} (h : MvIn m A) (hs : ∀ x ∈ A, x ∈ C) : MvIn m C := ⟨h.rd.weaken hs, h.rdp.weaken hs, h.int, h.len, h.plen⟩
set_option maxRecDepth 100000 in
theorem mv_cells (n : Nat) (cs : List Value) (y : DataW H × List MemPlace) (h : DataW.trod enc Tryz.prog W 0 (fun _ => true) true n 30 cs = some y) (hl : cs.length = 2) : ∃ (x : MV) (A : Hp), cs = MV.row x ∧ Has A W ∧ MvIn x A := by
 obtain ⟨xs, m, _, rfl, _, hlen, hf⟩ := DataW.trod_struct Tryz.underlying30 h
 match xs, hlen with
 | [y0, y1], _ =>
  match cs, hl with
  | [a, b], _ =>
   have k0 : DataW.trod enc Tryz.prog W 0 (fun _ => true) true m 22 (([a, b].drop 0).take (Tryz.prog.cellsOf 22)) = some y0 := hf 0 _ rfl
   have k1 : DataW.trod enc Tryz.prog W 0 (fun _ => true) true m 28 (([a, b].drop 1).take (Tryz.prog.cellsOf 28)) = some y1 := hf 1 _ rfl
   rw [cL] at k0
   rw [cB] at k1
   obtain ⟨v, l, A, e0, hA, hr, hln, hok⟩ := hs_cells k0
   obtain ⟨p, c, d, B, e1, hB, hrp, hlp⟩ := trod_by Tryz.underlying28 Tryz.underlying5 cU k1
   simp at e0 e1
   subst e0; subst e1
   obtain ⟨C, hC, h1, h2⟩ := has_two hA hB
   exact ⟨⟨a, l, p, c, d⟩, C, rfl, hC, ⟨hr.weaken h1, hrp.weaken h2, int_of hok, hln, hlp⟩⟩
set_option maxRecDepth 100000 in
theorem arg_msg {base : Nat} {r : Reach} {v : Value} {d : DataW H} {ps : List MemPlace} (hval : Value.okWide Tryz.prog W r base 30 v) (h : DataW.Trod enc Tryz.prog W 0 (fun _ => true) true 30 v d ps) :
  ∃ (m : MV) (A : Hp), v = .agg #[m.vh, .slice m.pp m.data.length m.pc] ∧ Has A W ∧ MvIn m A := by
 obtain ⟨cs, rfl, hsz⟩ := okWide_struct Tryz.underlying30 hval
 obtain ⟨fuel, hfu⟩ := h
 obtain ⟨m, A, e, hA, hm⟩ := mv_cells _ _ _ hfu (by show cs.toList.length = 2; rw [Array.length_toList, hsz, cM])
 refine ⟨m, A, ?_, hA, hm⟩
 obtain ⟨cs⟩ := cs
 simp [Value.cells] at e
 rw [e]; rfl
end
end ET
end Go.Proofs.YtodlhaghdplclaaGreatDoor
