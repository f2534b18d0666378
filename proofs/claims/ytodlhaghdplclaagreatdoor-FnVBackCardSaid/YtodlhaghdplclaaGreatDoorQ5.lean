/- Fine headers. -/
import Derived.Test.YtodlhaghdplclaaGreatDoorQ4
import Derived.Test.YtodlhaghdplclaaGreatDoorQ3
import Derived.Laws.StructEq
import Derived.Test.YtodlhaghdplclaaGreatDoorQ2
import Derived.LaidLaws
import Derived.LaidHandle
import Derived.MakeChecks
import Derived.Test.YtodlhaghdplclaaGreatDoorRows
namespace Go.Proofs.YtodlhaghdplclaaGreatDoor
open Go Go.RowKit V EA EB EC ED EE EF EG EH EI EJ EK EL EM EN EO EP EQ
set_option linter.unusedSimpArgs false
set_option linter.unusedVariables false
set_option maxRecDepth 10000
namespace ER
theorem flat2 : Flat Tryz.prog 2 := ⟨_, Tryz.underlying2, by simp⟩
theorem flat3 : Flat Tryz.prog 3 := ⟨_, Tryz.underlying3, by simp⟩
theorem flat9 : Flat Tryz.prog 9 := ⟨_, Tryz.underlying9, by simp⟩
theorem ty2 : Ty Tryz.prog 2 (.int .i64 0) 1 8 := ty_of (by kernel_rfl)
theorem ty3 : Ty Tryz.prog 3 (.int .i64 0) 1 8 := ty_of (by kernel_rfl)
theorem ty9 : Ty Tryz.prog 9 (S []) 1 16 := ty_of (by kernel_rfl)
theorem ty24 : Ty Tryz.prog 24 (.agg #[(.int .i64 0), (.int .i64 0), (.int .i64 0), (S [])]) 4 40 := ty_of (by kernel_rfl)
theorem ty32 : Ty Tryz.prog 32 (.agg #[(S []), (.int .i64 0), (.int .i64 0), (.int .i64 0), (S [])]) 5 56 := ty_of (by kernel_rfl)
theorem agg24 : Agg Tryz.prog 24 := agg_of Tryz.underlying24
theorem fld24_0 : Fld Tryz.prog 24 0 0 3 := fld_of Tryz.underlying24 rfl rfl rfl ty3 (by decide)
theorem fld24_1 : Fld Tryz.prog 24 1 1 3 := fld_of Tryz.underlying24 rfl rfl rfl ty3 (by decide)
theorem fld24_2 : Fld Tryz.prog 24 2 2 2 := fld_of Tryz.underlying24 rfl rfl rfl ty2 (by decide)
theorem fld24_3 : Fld Tryz.prog 24 3 3 9 := fld_of Tryz.underlying24 rfl rfl rfl ty9 (by decide)
theorem fld32_1 : Fld Tryz.prog 32 1 1 24 := fld_of Tryz.underlying32 rfl rfl rfl ty24 (by decide)
instance (h : HV) : Decidable (fineV h) := by unfold fineV; infer_instance
def fineB (h : HV) : Bool := decide (fineV h)
def intOk (l : List HV) : Prop := ∀ i, i < l.length → -9223372036854775808 ≤ (l.getD i HV0).int ∧ (l.getD i HV0).int ≤ 9223372036854775807 ∧ -9223372036854775808 ≤ (l.getD i HV0).width ∧ (l.getD i HV0).width ≤ 9223372036854775807
abbrev shT (w x : Int) : Int := Int.fdiv (IntKind.i64.wrap (x * 2 ^ (min (64 - w).toNat IntKind.i64.bits))) (2 ^ (min (64 - w).toNat IntKind.i64.bits))
theorem sh_law {w x : Int} (h1 : -9223372036854775808 ≤ x) (h2 : x ≤ 9223372036854775807) : (w = 8 → (shT w x = x ↔ -128 ≤ x ∧ x ≤ 127)) ∧ (w = 16 → (shT w x = x ↔ -32768 ≤ x ∧ x ≤ 32767)) ∧ (w = 32 → (shT w x = x ↔ -2147483648 ≤ x ∧ x ≤ 2147483647)) ∧ (w = 64 → shT w x = x) := by
 refine ⟨?_, ?_, ?_, ?_⟩ <;> rintro rfl <;> unfold shT <;> rw [Int.fdiv_eq_ediv_of_nonneg _ (Int.le_of_lt (Int.pow_pos (by decide)))]
 ·rw [show min (64 - (8 : Int)).toNat IntKind.i64.bits = 56 by decide]; simp only [IntKind.wrap, IntKind.signed, IntKind.bits, Bool.true_and, decide_eq_true_eq]; by_cases hc : x * 2 ^ 56 % 2 ^ 64 ≥ 2 ^ (64 - 1) <;> simp only [hc, decide_true, decide_false, Bool.false_eq_true, if_true, if_false] <;> omega
 ·rw [show min (64 - (16 : Int)).toNat IntKind.i64.bits = 48 by decide]; simp only [IntKind.wrap, IntKind.signed, IntKind.bits, Bool.true_and, decide_eq_true_eq]; by_cases hc : x * 2 ^ 48 % 2 ^ 64 ≥ 2 ^ (64 - 1) <;> simp only [hc, decide_true, decide_false, Bool.false_eq_true, if_true, if_false] <;> omega
 ·rw [show min (64 - (32 : Int)).toNat IntKind.i64.bits = 32 by decide]; simp only [IntKind.wrap, IntKind.signed, IntKind.bits, Bool.true_and, decide_eq_true_eq]; by_cases hc : x * 2 ^ 32 % 2 ^ 64 ≥ 2 ^ (64 - 1) <;> simp only [hc, decide_true, decide_false, Bool.false_eq_true, if_true, if_false] <;> omega
 ·rw [show min (64 - (64 : Int)).toNat IntKind.i64.bits = 0 by decide]; simp only [IntKind.wrap, IntKind.signed, IntKind.bits, Bool.true_and, decide_eq_true_eq]; by_cases hc : x * 2 ^ 0 % 2 ^ 64 ≥ 2 ^ (64 - 1) <;> simp only [hc, decide_true, decide_false, Bool.false_eq_true, if_true, if_false] <;> omega
theorem vFine (v : Value) (A : Hp) (l : List HV) (hr : RdS 5 v A l.length (recsV HV.row l)) (hint : intOk l) (hn : l.length ≤ 1000) : FnR Tryz.prog 12 [v] A (.bool (l.all fineB)) := by
 refine FnR.enter (n := 87) Tryz.func12 rfl rfl fun w0 => ?_
 refine WC.sub (fr' := [(0, _)]) ?_ ⟨rfl, trivial⟩
 refine WC.seq (WC.region ?_)
 refine WL.q (oq_assign rfl) rfl rfl rfl ?_
 refine WL.nil (WE.then_normal (WC.sub (fr' := [(0, _)]) ?_ ⟨rfl, trivial⟩))
 refine WC.seq (WC.seq (WC.region ?_))
 refine WL.q (oq_assign rfl) rfl rfl rfl ?_
 refine WL.nil (WE.then_normal (WC.sub (fr' := [(0, _), (3, _)]) ?_ ⟨rfl, rfl, trivial⟩))
 refine WC.block ?_
 refine WC.loop (ι := Nat) (fun (i : Nat) => [(0, v), (3, I (i : Int))]) (fun (i : Nat) => [A]) (fun (i : Nat) => i ≤ l.length ∧ (l.take i).all fineB = true) (fun (i : Nat) => l.length - i) (0) ?_ ⟨rfl, rfl, trivial⟩ (List.Perm.refl _) ?_
 ·try dsimp only
  exact ⟨by omega, rfl⟩
 ·rintro i hp
  try dsimp only at hp
  obtain ⟨hi, hall⟩ := hp
  show WC _ _ _ _ _ _ ([(0, v), (3, I (i : Int))]) ([A])
  refine WC.seq (WC.seq (WC.region ?_))
  refine WL.q (oq_move rfl) rfl rfl rfl ?_
  refine WL.q (oq_move rfl) rfl rfl rfl ?_
  refine WL.q (oq_len_rd hr Tryz.underlying22 rfl) rfl rfl rfl ?_
  refine WL.q (oq_lss rfl rfl) rfl rfl rfl ?_
  refine WL.nil (WE.then_normal (WC.sub (fr' := [(0, _), (3, _), (9, _)]) ?_ ⟨rfl, rfl, rfl, trivial⟩))
  refine WC.cond rfl (fun q2 => ?_) (fun q2 => ?_)
  ·
   try simp only [Z1, Z2, Z3, Z4, Z5, Z6, Z7, Z8, Z9, Z0] at q2
   refine WC.skip (WE.then_normal (WC.sub (fr' := [(0, _), (3, _)]) ?_ ⟨rfl, rfl, trivial⟩))
   refine WC.seq (WC.block (WC.seq ?_))
   have hlt : i < l.length := by omega
   obtain ⟨hi1, hi2, hi3, hi4⟩ := hint i hlt
   obtain ⟨hs8, hs16, hs32, hs64⟩ := sh_law (w := (l.getD i HV0).width) hi1 hi2
   simp only [shT] at hs8 hs16 hs32 hs64
   refine WC.region ?_
   refine WL.q (oq_move rfl) rfl rfl rfl ?_
   refine WL.q (oq_move rfl) rfl rfl rfl ?_
   refine WL.q (oq_ixaddr hr Tryz.underlying22 ty32 rfl rfl (by (first | omega | (simp only [List.length_cons, List.length_nil, List.length_append, List.length_drop, List.length_take]; omega)))) rfl rfl rfl ?_
   refine WL.q (oq_fldEl fld32_1 hr rfl (by (first | omega | (simp only [List.length_cons, List.length_nil, List.length_append, List.length_drop, List.length_take]; omega)))) rfl rfl rfl ?_
   refine WL.q (oq_loadFS (f := HV.row) HV0 [_, _, _, _] (fun _ => rfl) agg24 ty24 hr (.head _) rfl (by (first | omega | (simp only [List.length_cons, List.length_nil, List.length_append, List.length_drop, List.length_take]; omega))) (by first | exact Int.toNat_natCast _ | exact rfl) (by decide) rfl rfl) rfl rfl rfl ?_
   refine WL.alloc ty24 rfl rfl fun o4 ho4 => ?_
   refine WL.storeS #[_, _, _, _] ty24 rfl rfl rfl rfl (Nat.le_of_ble_eq_true rfl) rfl rfl ?_
   refine WL.nil (WE.then_normal (WC.sub (fr' := [(0, _), (3, _), (4, _)]) ?_ ⟨rfl, rfl, rfl, trivial⟩))
   refine WC.seq (WC.region ?_)
   refine WL.q (oq_fieldAddr fld24_1 rfl) rfl rfl rfl ?_
   refine WL.q (oq_load flat3 rfl (.head _) (List.mem_singleton.2 rfl) rfl) rfl rfl rfl ?_
   refine WL.q (oq_assign rfl) rfl rfl rfl ?_
   refine WL.nil (WE.then_normal (WC.sub (fr' := [(0, _), (3, _), (4, _), (5, _)]) ?_ ⟨rfl, rfl, rfl, rfl, trivial⟩))
   refine WC.seq (WC.quiet (by kernel_rfl) (by kernel_rfl) ?_)
   refine WQ.q (oq_fieldAddr fld24_0 rfl) rfl rfl rfl ?_
   refine WQ.q (oq_load flat3 rfl (.head _) (List.mem_singleton.2 rfl) rfl) rfl rfl rfl ?_
   refine WQ.q (oq_lss rfl rfl) rfl rfl rfl ?_
   refine WQ.q (oq_move rfl) rfl rfl rfl ?_
   refine WQ.split 22 rfl (fun s6_3 => ?_) (fun s6_3 => ?_)
   ·
    try simp only [Z1, Z2, Z3, Z4, Z5, Z6, Z7, Z8, Z9, Z0] at s6_3
    refine WQ.skip rfl rfl rfl ?_
    refine WQ.skip rfl rfl rfl ?_
    refine WQ.skip rfl rfl rfl ?_
    refine WQ.q (oq_pick_t rfl rfl) rfl rfl rfl ?_
    refine WQ.q (oq_move rfl) rfl rfl rfl ?_
    refine WQ.skip rfl rfl rfl ?_
    refine WQ.skip rfl rfl rfl ?_
    refine WQ.skip rfl rfl rfl ?_
    refine WQ.skip rfl rfl rfl ?_
    refine WQ.skip rfl rfl rfl ?_
    refine WQ.skip rfl rfl rfl ?_
    refine WQ.skip rfl rfl rfl ?_
    refine WQ.skip rfl rfl rfl ?_
    refine WQ.skip rfl rfl rfl ?_
    refine WQ.skip rfl rfl rfl ?_
    refine WQ.skip rfl rfl rfl ?_
    refine WQ.skip rfl rfl rfl ?_
    refine WQ.skip rfl rfl rfl ?_
    refine WQ.skip rfl rfl rfl ?_
    refine WQ.skip rfl rfl rfl ?_
    refine WQ.skip rfl rfl rfl ?_
    refine WQ.skip rfl rfl rfl ?_
    refine WQ.skip rfl rfl rfl ?_
    refine WQ.skip rfl rfl rfl ?_
    refine WQ.skip rfl rfl rfl ?_
    refine WQ.skip rfl rfl rfl ?_
    refine WQ.skip rfl rfl rfl ?_
    refine WQ.skip rfl rfl rfl ?_
    refine WQ.skip rfl rfl rfl ?_
    refine WQ.skip rfl rfl rfl ?_
    refine WQ.skip rfl rfl rfl ?_
    refine WQ.skip rfl rfl rfl ?_
    refine WQ.skip rfl rfl rfl ?_
    refine WQ.skip rfl rfl rfl ?_
    refine WQ.skip rfl rfl rfl ?_
    refine WQ.skip rfl rfl rfl ?_
    refine WQ.skip rfl rfl rfl ?_
    refine WQ.q (oq_pick_t rfl rfl) rfl rfl rfl ?_
    refine WQ.q (oq_move rfl) rfl rfl rfl ?_
    refine WQ.skip rfl rfl rfl ?_
    refine WQ.skip rfl rfl rfl ?_
    refine WQ.skip rfl rfl rfl ?_
    refine WQ.skip rfl rfl rfl ?_
    refine WQ.skip rfl rfl rfl ?_
    refine WQ.skip rfl rfl rfl ?_
    refine WQ.skip rfl rfl rfl ?_
    refine WQ.skip rfl rfl rfl ?_
    refine WQ.skip rfl rfl rfl ?_
    refine WQ.q (oq_pick_t rfl rfl) rfl rfl rfl ?_
    refine WQ.q (oq_move rfl) rfl rfl rfl ?_
    refine WQ.skip rfl rfl rfl ?_
    refine WQ.skip rfl rfl rfl ?_
    refine WQ.skip rfl rfl rfl ?_
    refine WQ.skip rfl rfl rfl ?_
    refine WQ.skip rfl rfl rfl ?_
    refine WQ.skip rfl rfl rfl ?_
    refine WQ.skip rfl rfl rfl ?_
    refine WQ.skip rfl rfl rfl ?_
    refine WQ.skip rfl rfl rfl ?_
    refine WQ.skip rfl rfl rfl ?_
    refine WQ.skip rfl rfl rfl ?_
    refine WQ.skip rfl rfl rfl ?_
    refine WQ.skip rfl rfl rfl ?_
    refine WQ.q (oq_pick_t rfl rfl) rfl rfl rfl ?_
    refine WQ.nil (WE.then_normal (WC.sub (fr' := [(0, _), (3, _), (86, _)]) ?_ ⟨rfl, rfl, rfl, trivial⟩))
    refine WC.cond_t rfl ?_
    refine WC.seq (WC.region ?_)
    refine WL.q (oq_assign rfl) rfl rfl rfl ?_
    refine WL.nil (WE.then_normal (WC.sub (fr' := [(2, _)]) ?_ ⟨rfl, trivial⟩))
    refine WC.ret (WE.block_ret (WE.then_ret (WE.then_ret (WE.block_ret (WE.then_ret ?_)))))
    refine WE.lose ho4 ?_
    refine WE.endR (.inl rfl) (res1 Tryz.results12 rfl) ?_
    exact congrArg Value.bool (all_not hlt (decide_eq_false (by unfold fineV; omega))).symm
   ·
    try simp only [Z1, Z2, Z3, Z4, Z5, Z6, Z7, Z8, Z9, Z0] at s6_3
    refine WQ.q (oq_fieldAddr fld24_0 rfl) rfl rfl rfl ?_
    refine WQ.q (oq_load flat3 rfl (.head _) (List.mem_singleton.2 rfl) rfl) rfl rfl rfl ?_
    refine WQ.q (oq_gtr rfl rfl) rfl rfl rfl ?_
    refine WQ.q (oq_pick_f rfl rfl) rfl rfl rfl ?_
    refine WQ.q (oq_move rfl) rfl rfl rfl ?_
    refine WQ.split 27 rfl (fun s6_8 => ?_) (fun s6_8 => ?_)
    ·
     try simp only [Z1, Z2, Z3, Z4, Z5, Z6, Z7, Z8, Z9, Z0] at s6_8
     refine WQ.skip rfl rfl rfl ?_
     refine WQ.skip rfl rfl rfl ?_
     refine WQ.skip rfl rfl rfl ?_
     refine WQ.skip rfl rfl rfl ?_
     refine WQ.skip rfl rfl rfl ?_
     refine WQ.skip rfl rfl rfl ?_
     refine WQ.skip rfl rfl rfl ?_
     refine WQ.skip rfl rfl rfl ?_
     refine WQ.skip rfl rfl rfl ?_
     refine WQ.skip rfl rfl rfl ?_
     refine WQ.skip rfl rfl rfl ?_
     refine WQ.skip rfl rfl rfl ?_
     refine WQ.skip rfl rfl rfl ?_
     refine WQ.skip rfl rfl rfl ?_
     refine WQ.skip rfl rfl rfl ?_
     refine WQ.skip rfl rfl rfl ?_
     refine WQ.skip rfl rfl rfl ?_
     refine WQ.skip rfl rfl rfl ?_
     refine WQ.skip rfl rfl rfl ?_
     refine WQ.skip rfl rfl rfl ?_
     refine WQ.skip rfl rfl rfl ?_
     refine WQ.skip rfl rfl rfl ?_
     refine WQ.skip rfl rfl rfl ?_
     refine WQ.skip rfl rfl rfl ?_
     refine WQ.skip rfl rfl rfl ?_
     refine WQ.skip rfl rfl rfl ?_
     refine WQ.skip rfl rfl rfl ?_
     refine WQ.skip rfl rfl rfl ?_
     refine WQ.skip rfl rfl rfl ?_
     refine WQ.skip rfl rfl rfl ?_
     refine WQ.skip rfl rfl rfl ?_
     refine WQ.skip rfl rfl rfl ?_
     refine WQ.q (oq_pick_t rfl rfl) rfl rfl rfl ?_
     refine WQ.q (oq_move rfl) rfl rfl rfl ?_
     refine WQ.skip rfl rfl rfl ?_
     refine WQ.skip rfl rfl rfl ?_
     refine WQ.skip rfl rfl rfl ?_
     refine WQ.skip rfl rfl rfl ?_
     refine WQ.skip rfl rfl rfl ?_
     refine WQ.skip rfl rfl rfl ?_
     refine WQ.skip rfl rfl rfl ?_
     refine WQ.skip rfl rfl rfl ?_
     refine WQ.skip rfl rfl rfl ?_
     refine WQ.q (oq_pick_t rfl rfl) rfl rfl rfl ?_
     refine WQ.q (oq_move rfl) rfl rfl rfl ?_
     refine WQ.skip rfl rfl rfl ?_
     refine WQ.skip rfl rfl rfl ?_
     refine WQ.skip rfl rfl rfl ?_
     refine WQ.skip rfl rfl rfl ?_
     refine WQ.skip rfl rfl rfl ?_
     refine WQ.skip rfl rfl rfl ?_
     refine WQ.skip rfl rfl rfl ?_
     refine WQ.skip rfl rfl rfl ?_
     refine WQ.skip rfl rfl rfl ?_
     refine WQ.skip rfl rfl rfl ?_
     refine WQ.skip rfl rfl rfl ?_
     refine WQ.skip rfl rfl rfl ?_
     refine WQ.skip rfl rfl rfl ?_
     refine WQ.q (oq_pick_t rfl rfl) rfl rfl rfl ?_
     refine WQ.nil (WE.then_normal (WC.sub (fr' := [(0, _), (3, _), (86, _)]) ?_ ⟨rfl, rfl, rfl, trivial⟩))
     refine WC.cond_t rfl ?_
     refine WC.seq (WC.region ?_)
     refine WL.q (oq_assign rfl) rfl rfl rfl ?_
     refine WL.nil (WE.then_normal (WC.sub (fr' := [(2, _)]) ?_ ⟨rfl, trivial⟩))
     refine WC.ret (WE.block_ret (WE.then_ret (WE.then_ret (WE.block_ret (WE.then_ret ?_)))))
     refine WE.lose ho4 ?_
     refine WE.endR (.inl rfl) (res1 Tryz.results12 rfl) ?_
     exact congrArg Value.bool (all_not hlt (decide_eq_false (by unfold fineV; omega))).symm
    ·
     try simp only [Z1, Z2, Z3, Z4, Z5, Z6, Z7, Z8, Z9, Z0] at s6_8
     refine WQ.q (oq_fieldAddr fld24_0 rfl) rfl rfl rfl ?_
     refine WQ.q (oq_load flat3 rfl (.head _) (List.mem_singleton.2 rfl) rfl) rfl rfl rfl ?_
     refine WQ.q (oq_eql rfl rfl) rfl rfl rfl ?_
     refine WQ.q (oq_move rfl) rfl rfl rfl ?_
     refine WQ.split 31 rfl (fun s6_12 => ?_) (fun s6_12 => ?_)
     ·
      try simp only [Z1, Z2, Z3, Z4, Z5, Z6, Z7, Z8, Z9, Z0] at s6_12
      refine WQ.q (oq_move rfl) rfl rfl rfl ?_
      refine WQ.q (oq_neq rfl rfl) rfl rfl rfl ?_
      refine WQ.q (oq_move rfl) rfl rfl rfl ?_
      refine WQ.split 34 rfl (fun s6_15 => ?_) (fun s6_15 => ?_)
      ·
       try simp only [Z1, Z2, Z3, Z4, Z5, Z6, Z7, Z8, Z9, Z0] at s6_15
       refine WQ.q (oq_move rfl) rfl rfl rfl ?_
       refine WQ.q (oq_neq rfl rfl) rfl rfl rfl ?_
       refine WQ.q (oq_pick_t rfl rfl) rfl rfl rfl ?_
       refine WQ.q (oq_move rfl) rfl rfl rfl ?_
       refine WQ.split 38 rfl (fun s6_19 => ?_) (fun s6_19 => ?_)
       ·
        try simp only [Z1, Z2, Z3, Z4, Z5, Z6, Z7, Z8, Z9, Z0] at s6_19
        refine WQ.q (oq_move rfl) rfl rfl rfl ?_
        refine WQ.q (oq_neq rfl rfl) rfl rfl rfl ?_
        refine WQ.q (oq_pick_t rfl rfl) rfl rfl rfl ?_
        refine WQ.q (oq_move rfl) rfl rfl rfl ?_
        refine WQ.split 42 rfl (fun s6_23 => ?_) (fun s6_23 => ?_)
        ·
         try simp only [Z1, Z2, Z3, Z4, Z5, Z6, Z7, Z8, Z9, Z0] at s6_23
         refine WQ.q (oq_move rfl) rfl rfl rfl ?_
         refine WQ.q (oq_neq rfl rfl) rfl rfl rfl ?_
         refine WQ.q (oq_pick_t rfl rfl) rfl rfl rfl ?_
         refine WQ.q (oq_move rfl) rfl rfl rfl ?_
         refine WQ.split 46 rfl (fun s6_27 => ?_) (fun s6_27 => ?_)
         ·
          try simp only [Z1, Z2, Z3, Z4, Z5, Z6, Z7, Z8, Z9, Z0] at s6_27
          refine WQ.skip rfl rfl rfl ?_
          refine WQ.skip rfl rfl rfl ?_
          refine WQ.skip rfl rfl rfl ?_
          refine WQ.skip rfl rfl rfl ?_
          refine WQ.skip rfl rfl rfl ?_
          refine WQ.skip rfl rfl rfl ?_
          refine WQ.skip rfl rfl rfl ?_
          refine WQ.skip rfl rfl rfl ?_
          refine WQ.skip rfl rfl rfl ?_
          refine WQ.skip rfl rfl rfl ?_
          refine WQ.skip rfl rfl rfl ?_
          refine WQ.q (oq_pick_t rfl rfl) rfl rfl rfl ?_
          refine WQ.q (oq_pick_t rfl rfl) rfl rfl rfl ?_
          refine WQ.q (oq_pick_f rfl rfl) rfl rfl rfl ?_
          refine WQ.q (oq_move rfl) rfl rfl rfl ?_
          refine WQ.skip rfl rfl rfl ?_
          refine WQ.skip rfl rfl rfl ?_
          refine WQ.skip rfl rfl rfl ?_
          refine WQ.skip rfl rfl rfl ?_
          refine WQ.skip rfl rfl rfl ?_
          refine WQ.skip rfl rfl rfl ?_
          refine WQ.skip rfl rfl rfl ?_
          refine WQ.skip rfl rfl rfl ?_
          refine WQ.skip rfl rfl rfl ?_
          refine WQ.q (oq_pick_t rfl rfl) rfl rfl rfl ?_
          refine WQ.q (oq_move rfl) rfl rfl rfl ?_
          refine WQ.skip rfl rfl rfl ?_
          refine WQ.skip rfl rfl rfl ?_
          refine WQ.skip rfl rfl rfl ?_
          refine WQ.skip rfl rfl rfl ?_
          refine WQ.skip rfl rfl rfl ?_
          refine WQ.skip rfl rfl rfl ?_
          refine WQ.skip rfl rfl rfl ?_
          refine WQ.skip rfl rfl rfl ?_
          refine WQ.skip rfl rfl rfl ?_
          refine WQ.skip rfl rfl rfl ?_
          refine WQ.skip rfl rfl rfl ?_
          refine WQ.skip rfl rfl rfl ?_
          refine WQ.skip rfl rfl rfl ?_
          refine WQ.q (oq_pick_t rfl rfl) rfl rfl rfl ?_
          refine WQ.nil (WE.then_normal (WC.sub (fr' := [(0, _), (3, _), (86, _)]) ?_ ⟨rfl, rfl, rfl, trivial⟩))
          refine WC.cond_t rfl ?_
          refine WC.seq (WC.region ?_)
          refine WL.q (oq_assign rfl) rfl rfl rfl ?_
          refine WL.nil (WE.then_normal (WC.sub (fr' := [(2, _)]) ?_ ⟨rfl, trivial⟩))
          refine WC.ret (WE.block_ret (WE.then_ret (WE.then_ret (WE.block_ret (WE.then_ret ?_)))))
          refine WE.lose ho4 ?_
          refine WE.endR (.inl rfl) (res1 Tryz.results12 rfl) ?_
          exact congrArg Value.bool (all_not hlt (decide_eq_false (by unfold fineV; omega))).symm
         ·
          try simp only [Z1, Z2, Z3, Z4, Z5, Z6, Z7, Z8, Z9, Z0] at s6_27
          refine WQ.q (oq_fieldAddr fld24_2 rfl) rfl rfl rfl ?_
          refine WQ.q (oq_load flat2 rfl (.head _) (List.mem_singleton.2 rfl) rfl) rfl rfl rfl ?_
          refine WQ.q (oq_move rfl) rfl rfl rfl ?_
          refine WQ.q (oq_sub rfl rfl (by rw [i64_lo, i64_hi]; (first | omega | (simp only [List.length_cons, List.length_nil, List.length_append, List.length_drop, List.length_take]; omega)))) rfl rfl rfl ?_
          refine WQ.q (oq_shl rfl rfl (by omega)) rfl rfl rfl ?_
          refine WQ.q (oq_move rfl) rfl rfl rfl ?_
          refine WQ.q (oq_sub rfl rfl (by rw [i64_lo, i64_hi]; (first | omega | (simp only [List.length_cons, List.length_nil, List.length_append, List.length_drop, List.length_take]; omega)))) rfl rfl rfl ?_
          refine WQ.q (oq_shr rfl rfl (by omega)) rfl rfl rfl ?_
          refine WQ.q (oq_fieldAddr fld24_2 rfl) rfl rfl rfl ?_
          refine WQ.q (oq_load flat2 rfl (.head _) (List.mem_singleton.2 rfl) rfl) rfl rfl rfl ?_
          refine WQ.q (oq_neq rfl rfl) rfl rfl rfl ?_
          refine WQ.q (oq_pick_f rfl rfl) rfl rfl rfl ?_
          refine WQ.q (oq_pick_t rfl rfl) rfl rfl rfl ?_
          refine WQ.q (oq_pick_f rfl rfl) rfl rfl rfl ?_
          refine WQ.q (oq_move rfl) rfl rfl rfl ?_
          refine WQ.split 61 rfl (fun s6_42 => ?_) (fun s6_42 => ?_)
          ·
           try simp only [Z1, Z2, Z3, Z4, Z5, Z6, Z7, Z8, Z9, Z0] at s6_42
           refine WQ.skip rfl rfl rfl ?_
           refine WQ.skip rfl rfl rfl ?_
           refine WQ.skip rfl rfl rfl ?_
           refine WQ.skip rfl rfl rfl ?_
           refine WQ.skip rfl rfl rfl ?_
           refine WQ.skip rfl rfl rfl ?_
           refine WQ.skip rfl rfl rfl ?_
           refine WQ.skip rfl rfl rfl ?_
           refine WQ.skip rfl rfl rfl ?_
           refine WQ.q (oq_pick_t rfl rfl) rfl rfl rfl ?_
           refine WQ.q (oq_move rfl) rfl rfl rfl ?_
           refine WQ.skip rfl rfl rfl ?_
           refine WQ.skip rfl rfl rfl ?_
           refine WQ.skip rfl rfl rfl ?_
           refine WQ.skip rfl rfl rfl ?_
           refine WQ.skip rfl rfl rfl ?_
           refine WQ.skip rfl rfl rfl ?_
           refine WQ.skip rfl rfl rfl ?_
           refine WQ.skip rfl rfl rfl ?_
           refine WQ.skip rfl rfl rfl ?_
           refine WQ.skip rfl rfl rfl ?_
           refine WQ.skip rfl rfl rfl ?_
           refine WQ.skip rfl rfl rfl ?_
           refine WQ.skip rfl rfl rfl ?_
           refine WQ.q (oq_pick_t rfl rfl) rfl rfl rfl ?_
           refine WQ.nil (WE.then_normal (WC.sub (fr' := [(0, _), (3, _), (86, _)]) ?_ ⟨rfl, rfl, rfl, trivial⟩))
           refine WC.cond_t rfl ?_
           refine WC.seq (WC.region ?_)
           refine WL.q (oq_assign rfl) rfl rfl rfl ?_
           refine WL.nil (WE.then_normal (WC.sub (fr' := [(2, _)]) ?_ ⟨rfl, trivial⟩))
           refine WC.ret (WE.block_ret (WE.then_ret (WE.then_ret (WE.block_ret (WE.then_ret ?_)))))
           refine WE.lose ho4 ?_
           refine WE.endR (.inl rfl) (res1 Tryz.results12 rfl) ?_
           exact congrArg Value.bool (all_not hlt (decide_eq_false (by unfold fineV; omega))).symm
          ·
           try simp only [Z1, Z2, Z3, Z4, Z5, Z6, Z7, Z8, Z9, Z0] at s6_42
           refine WQ.q (oq_fieldAddr fld24_0 rfl) rfl rfl rfl ?_
           refine WQ.q (oq_load flat3 rfl (.head _) (List.mem_singleton.2 rfl) rfl) rfl rfl rfl ?_
           refine WQ.q (oq_eql rfl rfl) rfl rfl rfl ?_
           refine WQ.q (oq_move rfl) rfl rfl rfl ?_
           refine WQ.split 65 rfl (fun s6_46 => ?_) (fun s6_46 => ?_)
           ·
            try simp only [Z1, Z2, Z3, Z4, Z5, Z6, Z7, Z8, Z9, Z0] at s6_46
            refine WQ.q (oq_fieldAddr fld24_3 rfl) rfl rfl rfl ?_
            refine WQ.q (oq_load flat9 rfl (.head _) (List.mem_singleton.2 rfl) rfl) rfl rfl rfl ?_
            refine WQ.q (oq_len_s Tryz.underlying9 rfl) rfl rfl rfl ?_
            refine WQ.q (oq_neq rfl rfl) rfl rfl rfl ?_
            refine WQ.q (oq_pick_t rfl rfl) rfl rfl rfl ?_
            refine WQ.q (oq_pick_f rfl rfl) rfl rfl rfl ?_
            refine WQ.q (oq_move rfl) rfl rfl rfl ?_
            refine WQ.split 72 rfl (fun s6_53 => ?_) (fun s6_53 => ?_)
            ·
             try simp only [Z1, Z2, Z3, Z4, Z5, Z6, Z7, Z8, Z9, Z0] at s6_53
             refine WQ.skip rfl rfl rfl ?_
             refine WQ.skip rfl rfl rfl ?_
             refine WQ.skip rfl rfl rfl ?_
             refine WQ.skip rfl rfl rfl ?_
             refine WQ.skip rfl rfl rfl ?_
             refine WQ.skip rfl rfl rfl ?_
             refine WQ.skip rfl rfl rfl ?_
             refine WQ.skip rfl rfl rfl ?_
             refine WQ.skip rfl rfl rfl ?_
             refine WQ.skip rfl rfl rfl ?_
             refine WQ.skip rfl rfl rfl ?_
             refine WQ.skip rfl rfl rfl ?_
             refine WQ.skip rfl rfl rfl ?_
             refine WQ.q (oq_pick_t rfl rfl) rfl rfl rfl ?_
             refine WQ.nil (WE.then_normal (WC.sub (fr' := [(0, _), (3, _), (86, _)]) ?_ ⟨rfl, rfl, rfl, trivial⟩))
             refine WC.cond_t rfl ?_
             refine WC.seq (WC.region ?_)
             refine WL.q (oq_assign rfl) rfl rfl rfl ?_
             refine WL.nil (WE.then_normal (WC.sub (fr' := [(2, _)]) ?_ ⟨rfl, trivial⟩))
             refine WC.ret (WE.block_ret (WE.then_ret (WE.then_ret (WE.block_ret (WE.then_ret ?_)))))
             refine WE.lose ho4 ?_
             refine WE.endR (.inl rfl) (res1 Tryz.results12 rfl) ?_
             exact congrArg Value.bool (all_not hlt (decide_eq_false (by unfold fineV; omega))).symm
            ·
             try simp only [Z1, Z2, Z3, Z4, Z5, Z6, Z7, Z8, Z9, Z0] at s6_53
             refine WQ.q (oq_fieldAddr fld24_0 rfl) rfl rfl rfl ?_
             refine WQ.q (oq_load flat3 rfl (.head _) (List.mem_singleton.2 rfl) rfl) rfl rfl rfl ?_
             refine WQ.q (oq_eql rfl rfl) rfl rfl rfl ?_
             refine WQ.q (oq_move rfl) rfl rfl rfl ?_
             refine WQ.split 76 rfl (fun s6_57 => ?_) (fun s6_57 => ?_)
             ·
              try simp only [Z1, Z2, Z3, Z4, Z5, Z6, Z7, Z8, Z9, Z0] at s6_57
              refine WQ.q (oq_fieldAddr fld24_2 rfl) rfl rfl rfl ?_
              refine WQ.q (oq_load flat2 rfl (.head _) (List.mem_singleton.2 rfl) rfl) rfl rfl rfl ?_
              refine WQ.q (oq_gtr rfl rfl) rfl rfl rfl ?_
              refine WQ.q (oq_move rfl) rfl rfl rfl ?_
              refine WQ.split 80 rfl (fun s6_61 => ?_) (fun s6_61 => ?_)
              ·
               try simp only [Z1, Z2, Z3, Z4, Z5, Z6, Z7, Z8, Z9, Z0] at s6_61
               refine WQ.skip rfl rfl rfl ?_
               refine WQ.skip rfl rfl rfl ?_
               refine WQ.skip rfl rfl rfl ?_
               refine WQ.q (oq_pick_t rfl rfl) rfl rfl rfl ?_
               refine WQ.q (oq_pick_t rfl rfl) rfl rfl rfl ?_
               refine WQ.q (oq_pick_f rfl rfl) rfl rfl rfl ?_
               refine WQ.nil (WE.then_normal (WC.sub (fr' := [(0, _), (3, _), (86, _)]) ?_ ⟨rfl, rfl, rfl, trivial⟩))
               refine WC.cond_t rfl ?_
               refine WC.seq (WC.region ?_)
               refine WL.q (oq_assign rfl) rfl rfl rfl ?_
               refine WL.nil (WE.then_normal (WC.sub (fr' := [(2, _)]) ?_ ⟨rfl, trivial⟩))
               refine WC.ret (WE.block_ret (WE.then_ret (WE.then_ret (WE.block_ret (WE.then_ret ?_)))))
               refine WE.lose ho4 ?_
               refine WE.endR (.inl rfl) (res1 Tryz.results12 rfl) ?_
               exact congrArg Value.bool (all_not hlt (decide_eq_false (by unfold fineV; omega))).symm
              ·
               try simp only [Z1, Z2, Z3, Z4, Z5, Z6, Z7, Z8, Z9, Z0] at s6_61
               refine WQ.q (oq_fieldAddr fld24_2 rfl) rfl rfl rfl ?_
               refine WQ.q (oq_load flat2 rfl (.head _) (List.mem_singleton.2 rfl) rfl) rfl rfl rfl ?_
               refine WQ.q (oq_lss rfl rfl) rfl rfl rfl ?_
               refine WQ.q (oq_pick_f rfl rfl) rfl rfl rfl ?_
               refine WQ.q (oq_pick_t rfl rfl) rfl rfl rfl ?_
               refine WQ.q (oq_pick_f rfl rfl) rfl rfl rfl ?_
               refine WQ.nil (WE.then_normal (WC.sub (fr' := [(0, _), (3, _), (86, _)]) ?_ ⟨rfl, rfl, rfl, trivial⟩))
               refine WC.cond rfl (fun q6 => ?_) (fun q6 => ?_)
               ·
                try simp only [Z1, Z2, Z3, Z4, Z5, Z6, Z7, Z8, Z9, Z0] at q6
                refine WC.seq (WC.region ?_)
                refine WL.q (oq_assign rfl) rfl rfl rfl ?_
                refine WL.nil (WE.then_normal (WC.sub (fr' := [(2, _)]) ?_ ⟨rfl, trivial⟩))
                refine WC.ret (WE.block_ret (WE.then_ret (WE.then_ret (WE.block_ret (WE.then_ret ?_)))))
                refine WE.lose ho4 ?_
                refine WE.endR (.inl rfl) (res1 Tryz.results12 rfl) ?_
                exact congrArg Value.bool (all_not hlt (decide_eq_false (by unfold fineV; omega))).symm
               ·
                try simp only [Z1, Z2, Z3, Z4, Z5, Z6, Z7, Z8, Z9, Z0] at q6
                refine WC.skip (WE.block_normal (WE.then_normal (WC.sub (fr' := [(0, _), (3, _)]) ?_ ⟨rfl, rfl, trivial⟩)))
                refine WC.region ?_
                refine WL.q (oq_move rfl) rfl rfl rfl ?_
                refine WL.q (oq_add rfl rfl (by rw [i64_lo, i64_hi]; (first | omega | (simp only [List.length_cons, List.length_nil, List.length_append, List.length_drop, List.length_take]; omega)))) rfl rfl rfl ?_
                refine WL.q (oq_assign rfl) rfl rfl rfl ?_
                refine WL.nil ?_
                refine WE.lose ho4 ?_
                refine WE.again (i + 1) ?_ ?_ ⟨rfl, rfl, trivial⟩ (List.Perm.refl _)
                ·try dsimp only
                 exact ⟨by omega, all_snoc (by omega) hall (decide_eq_true (by unfold fineV; omega))⟩
                ·(try dsimp only); omega
             ·
              try simp only [Z1, Z2, Z3, Z4, Z5, Z6, Z7, Z8, Z9, Z0] at s6_57
              refine WQ.skip rfl rfl rfl ?_
              refine WQ.skip rfl rfl rfl ?_
              refine WQ.skip rfl rfl rfl ?_
              refine WQ.skip rfl rfl rfl ?_
              refine WQ.skip rfl rfl rfl ?_
              refine WQ.skip rfl rfl rfl ?_
              refine WQ.skip rfl rfl rfl ?_
              refine WQ.skip rfl rfl rfl ?_
              refine WQ.q (oq_pick_f rfl rfl) rfl rfl rfl ?_
              refine WQ.q (oq_pick_f rfl rfl) rfl rfl rfl ?_
              refine WQ.nil (WE.then_normal (WC.sub (fr' := [(0, _), (3, _), (86, _)]) ?_ ⟨rfl, rfl, rfl, trivial⟩))
              refine WC.cond_f rfl ?_
              refine WC.skip (WE.block_normal (WE.then_normal (WC.sub (fr' := [(0, _), (3, _)]) ?_ ⟨rfl, rfl, trivial⟩)))
              refine WC.region ?_
              refine WL.q (oq_move rfl) rfl rfl rfl ?_
              refine WL.q (oq_add rfl rfl (by rw [i64_lo, i64_hi]; (first | omega | (simp only [List.length_cons, List.length_nil, List.length_append, List.length_drop, List.length_take]; omega)))) rfl rfl rfl ?_
              refine WL.q (oq_assign rfl) rfl rfl rfl ?_
              refine WL.nil ?_
              refine WE.lose ho4 ?_
              refine WE.again (i + 1) ?_ ?_ ⟨rfl, rfl, trivial⟩ (List.Perm.refl _)
              ·try dsimp only
               exact ⟨by omega, all_snoc (by omega) hall (decide_eq_true (by unfold fineV; omega))⟩
              ·(try dsimp only); omega
           ·
            try simp only [Z1, Z2, Z3, Z4, Z5, Z6, Z7, Z8, Z9, Z0] at s6_46
            refine WQ.skip rfl rfl rfl ?_
            refine WQ.skip rfl rfl rfl ?_
            refine WQ.skip rfl rfl rfl ?_
            refine WQ.skip rfl rfl rfl ?_
            refine WQ.q (oq_pick_f rfl rfl) rfl rfl rfl ?_
            refine WQ.q (oq_pick_f rfl rfl) rfl rfl rfl ?_
            refine WQ.q (oq_move rfl) rfl rfl rfl ?_
            refine WQ.q (oq_fieldAddr fld24_0 rfl) rfl rfl rfl ?_
            refine WQ.q (oq_load flat3 rfl (.head _) (List.mem_singleton.2 rfl) rfl) rfl rfl rfl ?_
            refine WQ.q (oq_eql rfl rfl) rfl rfl rfl ?_
            refine WQ.q (oq_move rfl) rfl rfl rfl ?_
            refine WQ.split 76 rfl (fun s6_57 => ?_) (fun s6_57 => ?_)
            ·
             try simp only [Z1, Z2, Z3, Z4, Z5, Z6, Z7, Z8, Z9, Z0] at s6_57
             refine WQ.q (oq_fieldAddr fld24_2 rfl) rfl rfl rfl ?_
             refine WQ.q (oq_load flat2 rfl (.head _) (List.mem_singleton.2 rfl) rfl) rfl rfl rfl ?_
             refine WQ.q (oq_gtr rfl rfl) rfl rfl rfl ?_
             refine WQ.q (oq_move rfl) rfl rfl rfl ?_
             refine WQ.split 80 rfl (fun s6_61 => ?_) (fun s6_61 => ?_)
             ·
              try simp only [Z1, Z2, Z3, Z4, Z5, Z6, Z7, Z8, Z9, Z0] at s6_61
              refine WQ.skip rfl rfl rfl ?_
              refine WQ.skip rfl rfl rfl ?_
              refine WQ.skip rfl rfl rfl ?_
              refine WQ.q (oq_pick_t rfl rfl) rfl rfl rfl ?_
              refine WQ.q (oq_pick_t rfl rfl) rfl rfl rfl ?_
              refine WQ.q (oq_pick_f rfl rfl) rfl rfl rfl ?_
              refine WQ.nil (WE.then_normal (WC.sub (fr' := [(0, _), (3, _), (86, _)]) ?_ ⟨rfl, rfl, rfl, trivial⟩))
              refine WC.cond_t rfl ?_
              refine WC.seq (WC.region ?_)
              refine WL.q (oq_assign rfl) rfl rfl rfl ?_
              refine WL.nil (WE.then_normal (WC.sub (fr' := [(2, _)]) ?_ ⟨rfl, trivial⟩))
              refine WC.ret (WE.block_ret (WE.then_ret (WE.then_ret (WE.block_ret (WE.then_ret ?_)))))
              refine WE.lose ho4 ?_
              refine WE.endR (.inl rfl) (res1 Tryz.results12 rfl) ?_
              exact congrArg Value.bool (all_not hlt (decide_eq_false (by unfold fineV; omega))).symm
             ·
              try simp only [Z1, Z2, Z3, Z4, Z5, Z6, Z7, Z8, Z9, Z0] at s6_61
              refine WQ.q (oq_fieldAddr fld24_2 rfl) rfl rfl rfl ?_
              refine WQ.q (oq_load flat2 rfl (.head _) (List.mem_singleton.2 rfl) rfl) rfl rfl rfl ?_
              refine WQ.q (oq_lss rfl rfl) rfl rfl rfl ?_
              refine WQ.q (oq_pick_f rfl rfl) rfl rfl rfl ?_
              refine WQ.q (oq_pick_t rfl rfl) rfl rfl rfl ?_
              refine WQ.q (oq_pick_f rfl rfl) rfl rfl rfl ?_
              refine WQ.nil (WE.then_normal (WC.sub (fr' := [(0, _), (3, _), (86, _)]) ?_ ⟨rfl, rfl, rfl, trivial⟩))
              refine WC.cond rfl (fun q6 => ?_) (fun q6 => ?_)
              ·
               try simp only [Z1, Z2, Z3, Z4, Z5, Z6, Z7, Z8, Z9, Z0] at q6
               refine WC.seq (WC.region ?_)
               refine WL.q (oq_assign rfl) rfl rfl rfl ?_
               refine WL.nil (WE.then_normal (WC.sub (fr' := [(2, _)]) ?_ ⟨rfl, trivial⟩))
               refine WC.ret (WE.block_ret (WE.then_ret (WE.then_ret (WE.block_ret (WE.then_ret ?_)))))
               refine WE.lose ho4 ?_
               refine WE.endR (.inl rfl) (res1 Tryz.results12 rfl) ?_
               exact congrArg Value.bool (all_not hlt (decide_eq_false (by unfold fineV; omega))).symm
              ·
               try simp only [Z1, Z2, Z3, Z4, Z5, Z6, Z7, Z8, Z9, Z0] at q6
               refine WC.skip (WE.block_normal (WE.then_normal (WC.sub (fr' := [(0, _), (3, _)]) ?_ ⟨rfl, rfl, trivial⟩)))
               refine WC.region ?_
               refine WL.q (oq_move rfl) rfl rfl rfl ?_
               refine WL.q (oq_add rfl rfl (by rw [i64_lo, i64_hi]; (first | omega | (simp only [List.length_cons, List.length_nil, List.length_append, List.length_drop, List.length_take]; omega)))) rfl rfl rfl ?_
               refine WL.q (oq_assign rfl) rfl rfl rfl ?_
               refine WL.nil ?_
               refine WE.lose ho4 ?_
               refine WE.again (i + 1) ?_ ?_ ⟨rfl, rfl, trivial⟩ (List.Perm.refl _)
               ·try dsimp only
                exact ⟨by omega, all_snoc (by omega) hall (decide_eq_true (by unfold fineV; omega))⟩
               ·(try dsimp only); omega
            ·
             try simp only [Z1, Z2, Z3, Z4, Z5, Z6, Z7, Z8, Z9, Z0] at s6_57
             refine WQ.skip rfl rfl rfl ?_
             refine WQ.skip rfl rfl rfl ?_
             refine WQ.skip rfl rfl rfl ?_
             refine WQ.skip rfl rfl rfl ?_
             refine WQ.skip rfl rfl rfl ?_
             refine WQ.skip rfl rfl rfl ?_
             refine WQ.skip rfl rfl rfl ?_
             refine WQ.skip rfl rfl rfl ?_
             refine WQ.q (oq_pick_f rfl rfl) rfl rfl rfl ?_
             refine WQ.q (oq_pick_f rfl rfl) rfl rfl rfl ?_
             refine WQ.nil (WE.then_normal (WC.sub (fr' := [(0, _), (3, _), (86, _)]) ?_ ⟨rfl, rfl, rfl, trivial⟩))
             refine WC.cond_f rfl ?_
             refine WC.skip (WE.block_normal (WE.then_normal (WC.sub (fr' := [(0, _), (3, _)]) ?_ ⟨rfl, rfl, trivial⟩)))
             refine WC.region ?_
             refine WL.q (oq_move rfl) rfl rfl rfl ?_
             refine WL.q (oq_add rfl rfl (by rw [i64_lo, i64_hi]; (first | omega | (simp only [List.length_cons, List.length_nil, List.length_append, List.length_drop, List.length_take]; omega)))) rfl rfl rfl ?_
             refine WL.q (oq_assign rfl) rfl rfl rfl ?_
             refine WL.nil ?_
             refine WE.lose ho4 ?_
             refine WE.again (i + 1) ?_ ?_ ⟨rfl, rfl, trivial⟩ (List.Perm.refl _)
             ·try dsimp only
              exact ⟨by omega, all_snoc (by omega) hall (decide_eq_true (by unfold fineV; omega))⟩
             ·(try dsimp only); omega
        ·
         try simp only [Z1, Z2, Z3, Z4, Z5, Z6, Z7, Z8, Z9, Z0] at s6_23
         refine WQ.skip rfl rfl rfl ?_
         refine WQ.skip rfl rfl rfl ?_
         refine WQ.q (oq_pick_f rfl rfl) rfl rfl rfl ?_
         refine WQ.q (oq_move rfl) rfl rfl rfl ?_
         refine WQ.q (oq_fieldAddr fld24_2 rfl) rfl rfl rfl ?_
         refine WQ.q (oq_load flat2 rfl (.head _) (List.mem_singleton.2 rfl) rfl) rfl rfl rfl ?_
         refine WQ.q (oq_move rfl) rfl rfl rfl ?_
         refine WQ.q (oq_sub rfl rfl (by rw [i64_lo, i64_hi]; (first | omega | (simp only [List.length_cons, List.length_nil, List.length_append, List.length_drop, List.length_take]; omega)))) rfl rfl rfl ?_
         refine WQ.q (oq_shl rfl rfl (by omega)) rfl rfl rfl ?_
         refine WQ.q (oq_move rfl) rfl rfl rfl ?_
         refine WQ.q (oq_sub rfl rfl (by rw [i64_lo, i64_hi]; (first | omega | (simp only [List.length_cons, List.length_nil, List.length_append, List.length_drop, List.length_take]; omega)))) rfl rfl rfl ?_
         refine WQ.q (oq_shr rfl rfl (by omega)) rfl rfl rfl ?_
         refine WQ.q (oq_fieldAddr fld24_2 rfl) rfl rfl rfl ?_
         refine WQ.q (oq_load flat2 rfl (.head _) (List.mem_singleton.2 rfl) rfl) rfl rfl rfl ?_
         refine WQ.q (oq_neq rfl rfl) rfl rfl rfl ?_
         refine WQ.q (oq_pick_f rfl rfl) rfl rfl rfl ?_
         refine WQ.q (oq_pick_t rfl rfl) rfl rfl rfl ?_
         refine WQ.q (oq_pick_f rfl rfl) rfl rfl rfl ?_
         refine WQ.q (oq_move rfl) rfl rfl rfl ?_
         refine WQ.split 61 rfl (fun s6_42 => ?_) (fun s6_42 => ?_)
         ·
          try simp only [Z1, Z2, Z3, Z4, Z5, Z6, Z7, Z8, Z9, Z0] at s6_42
          refine WQ.skip rfl rfl rfl ?_
          refine WQ.skip rfl rfl rfl ?_
          refine WQ.skip rfl rfl rfl ?_
          refine WQ.skip rfl rfl rfl ?_
          refine WQ.skip rfl rfl rfl ?_
          refine WQ.skip rfl rfl rfl ?_
          refine WQ.skip rfl rfl rfl ?_
          refine WQ.skip rfl rfl rfl ?_
          refine WQ.skip rfl rfl rfl ?_
          refine WQ.q (oq_pick_t rfl rfl) rfl rfl rfl ?_
          refine WQ.q (oq_move rfl) rfl rfl rfl ?_
          refine WQ.skip rfl rfl rfl ?_
          refine WQ.skip rfl rfl rfl ?_
          refine WQ.skip rfl rfl rfl ?_
          refine WQ.skip rfl rfl rfl ?_
          refine WQ.skip rfl rfl rfl ?_
          refine WQ.skip rfl rfl rfl ?_
          refine WQ.skip rfl rfl rfl ?_
          refine WQ.skip rfl rfl rfl ?_
          refine WQ.skip rfl rfl rfl ?_
          refine WQ.skip rfl rfl rfl ?_
          refine WQ.skip rfl rfl rfl ?_
          refine WQ.skip rfl rfl rfl ?_
          refine WQ.skip rfl rfl rfl ?_
          refine WQ.q (oq_pick_t rfl rfl) rfl rfl rfl ?_
          refine WQ.nil (WE.then_normal (WC.sub (fr' := [(0, _), (3, _), (86, _)]) ?_ ⟨rfl, rfl, rfl, trivial⟩))
          refine WC.cond_t rfl ?_
          refine WC.seq (WC.region ?_)
          refine WL.q (oq_assign rfl) rfl rfl rfl ?_
          refine WL.nil (WE.then_normal (WC.sub (fr' := [(2, _)]) ?_ ⟨rfl, trivial⟩))
          refine WC.ret (WE.block_ret (WE.then_ret (WE.then_ret (WE.block_ret (WE.then_ret ?_)))))
          refine WE.lose ho4 ?_
          refine WE.endR (.inl rfl) (res1 Tryz.results12 rfl) ?_
          exact congrArg Value.bool (all_not hlt (decide_eq_false (by unfold fineV; omega))).symm
         ·
          try simp only [Z1, Z2, Z3, Z4, Z5, Z6, Z7, Z8, Z9, Z0] at s6_42
          refine WQ.q (oq_fieldAddr fld24_0 rfl) rfl rfl rfl ?_
          refine WQ.q (oq_load flat3 rfl (.head _) (List.mem_singleton.2 rfl) rfl) rfl rfl rfl ?_
          refine WQ.q (oq_eql rfl rfl) rfl rfl rfl ?_
          refine WQ.q (oq_move rfl) rfl rfl rfl ?_
          refine WQ.split 65 rfl (fun s6_46 => ?_) (fun s6_46 => ?_)
          ·
           try simp only [Z1, Z2, Z3, Z4, Z5, Z6, Z7, Z8, Z9, Z0] at s6_46
           refine WQ.q (oq_fieldAddr fld24_3 rfl) rfl rfl rfl ?_
           refine WQ.q (oq_load flat9 rfl (.head _) (List.mem_singleton.2 rfl) rfl) rfl rfl rfl ?_
           refine WQ.q (oq_len_s Tryz.underlying9 rfl) rfl rfl rfl ?_
           refine WQ.q (oq_neq rfl rfl) rfl rfl rfl ?_
           refine WQ.q (oq_pick_t rfl rfl) rfl rfl rfl ?_
           refine WQ.q (oq_pick_f rfl rfl) rfl rfl rfl ?_
           refine WQ.q (oq_move rfl) rfl rfl rfl ?_
           refine WQ.split 72 rfl (fun s6_53 => ?_) (fun s6_53 => ?_)
           ·
            try simp only [Z1, Z2, Z3, Z4, Z5, Z6, Z7, Z8, Z9, Z0] at s6_53
            refine WQ.skip rfl rfl rfl ?_
            refine WQ.skip rfl rfl rfl ?_
            refine WQ.skip rfl rfl rfl ?_
            refine WQ.skip rfl rfl rfl ?_
            refine WQ.skip rfl rfl rfl ?_
            refine WQ.skip rfl rfl rfl ?_
            refine WQ.skip rfl rfl rfl ?_
            refine WQ.skip rfl rfl rfl ?_
            refine WQ.skip rfl rfl rfl ?_
            refine WQ.skip rfl rfl rfl ?_
            refine WQ.skip rfl rfl rfl ?_
            refine WQ.skip rfl rfl rfl ?_
            refine WQ.skip rfl rfl rfl ?_
            refine WQ.q (oq_pick_t rfl rfl) rfl rfl rfl ?_
            refine WQ.nil (WE.then_normal (WC.sub (fr' := [(0, _), (3, _), (86, _)]) ?_ ⟨rfl, rfl, rfl, trivial⟩))
            refine WC.cond_t rfl ?_
            refine WC.seq (WC.region ?_)
            refine WL.q (oq_assign rfl) rfl rfl rfl ?_
            refine WL.nil (WE.then_normal (WC.sub (fr' := [(2, _)]) ?_ ⟨rfl, trivial⟩))
            refine WC.ret (WE.block_ret (WE.then_ret (WE.then_ret (WE.block_ret (WE.then_ret ?_)))))
            refine WE.lose ho4 ?_
            refine WE.endR (.inl rfl) (res1 Tryz.results12 rfl) ?_
            exact congrArg Value.bool (all_not hlt (decide_eq_false (by unfold fineV; omega))).symm
           ·
            try simp only [Z1, Z2, Z3, Z4, Z5, Z6, Z7, Z8, Z9, Z0] at s6_53
            refine WQ.q (oq_fieldAddr fld24_0 rfl) rfl rfl rfl ?_
            refine WQ.q (oq_load flat3 rfl (.head _) (List.mem_singleton.2 rfl) rfl) rfl rfl rfl ?_
            refine WQ.q (oq_eql rfl rfl) rfl rfl rfl ?_
            refine WQ.q (oq_move rfl) rfl rfl rfl ?_
            refine WQ.split 76 rfl (fun s6_57 => ?_) (fun s6_57 => ?_)
            ·
             try simp only [Z1, Z2, Z3, Z4, Z5, Z6, Z7, Z8, Z9, Z0] at s6_57
             refine WQ.q (oq_fieldAddr fld24_2 rfl) rfl rfl rfl ?_
             refine WQ.q (oq_load flat2 rfl (.head _) (List.mem_singleton.2 rfl) rfl) rfl rfl rfl ?_
             refine WQ.q (oq_gtr rfl rfl) rfl rfl rfl ?_
             refine WQ.q (oq_move rfl) rfl rfl rfl ?_
             refine WQ.split 80 rfl (fun s6_61 => ?_) (fun s6_61 => ?_)
             ·
              try simp only [Z1, Z2, Z3, Z4, Z5, Z6, Z7, Z8, Z9, Z0] at s6_61
              refine WQ.skip rfl rfl rfl ?_
              refine WQ.skip rfl rfl rfl ?_
              refine WQ.skip rfl rfl rfl ?_
              refine WQ.q (oq_pick_t rfl rfl) rfl rfl rfl ?_
              refine WQ.q (oq_pick_t rfl rfl) rfl rfl rfl ?_
              refine WQ.q (oq_pick_f rfl rfl) rfl rfl rfl ?_
              refine WQ.nil (WE.then_normal (WC.sub (fr' := [(0, _), (3, _), (86, _)]) ?_ ⟨rfl, rfl, rfl, trivial⟩))
              refine WC.cond_t rfl ?_
              refine WC.seq (WC.region ?_)
              refine WL.q (oq_assign rfl) rfl rfl rfl ?_
              refine WL.nil (WE.then_normal (WC.sub (fr' := [(2, _)]) ?_ ⟨rfl, trivial⟩))
              refine WC.ret (WE.block_ret (WE.then_ret (WE.then_ret (WE.block_ret (WE.then_ret ?_)))))
              refine WE.lose ho4 ?_
              refine WE.endR (.inl rfl) (res1 Tryz.results12 rfl) ?_
              exact congrArg Value.bool (all_not hlt (decide_eq_false (by unfold fineV; omega))).symm
             ·
              try simp only [Z1, Z2, Z3, Z4, Z5, Z6, Z7, Z8, Z9, Z0] at s6_61
              refine WQ.q (oq_fieldAddr fld24_2 rfl) rfl rfl rfl ?_
              refine WQ.q (oq_load flat2 rfl (.head _) (List.mem_singleton.2 rfl) rfl) rfl rfl rfl ?_
              refine WQ.q (oq_lss rfl rfl) rfl rfl rfl ?_
              refine WQ.q (oq_pick_f rfl rfl) rfl rfl rfl ?_
              refine WQ.q (oq_pick_t rfl rfl) rfl rfl rfl ?_
              refine WQ.q (oq_pick_f rfl rfl) rfl rfl rfl ?_
              refine WQ.nil (WE.then_normal (WC.sub (fr' := [(0, _), (3, _), (86, _)]) ?_ ⟨rfl, rfl, rfl, trivial⟩))
              refine WC.cond rfl (fun q6 => ?_) (fun q6 => ?_)
              ·
               try simp only [Z1, Z2, Z3, Z4, Z5, Z6, Z7, Z8, Z9, Z0] at q6
               refine WC.seq (WC.region ?_)
               refine WL.q (oq_assign rfl) rfl rfl rfl ?_
               refine WL.nil (WE.then_normal (WC.sub (fr' := [(2, _)]) ?_ ⟨rfl, trivial⟩))
               refine WC.ret (WE.block_ret (WE.then_ret (WE.then_ret (WE.block_ret (WE.then_ret ?_)))))
               refine WE.lose ho4 ?_
               refine WE.endR (.inl rfl) (res1 Tryz.results12 rfl) ?_
               exact congrArg Value.bool (all_not hlt (decide_eq_false (by unfold fineV; omega))).symm
              ·
               try simp only [Z1, Z2, Z3, Z4, Z5, Z6, Z7, Z8, Z9, Z0] at q6
               refine WC.skip (WE.block_normal (WE.then_normal (WC.sub (fr' := [(0, _), (3, _)]) ?_ ⟨rfl, rfl, trivial⟩)))
               refine WC.region ?_
               refine WL.q (oq_move rfl) rfl rfl rfl ?_
               refine WL.q (oq_add rfl rfl (by rw [i64_lo, i64_hi]; (first | omega | (simp only [List.length_cons, List.length_nil, List.length_append, List.length_drop, List.length_take]; omega)))) rfl rfl rfl ?_
               refine WL.q (oq_assign rfl) rfl rfl rfl ?_
               refine WL.nil ?_
               refine WE.lose ho4 ?_
               refine WE.again (i + 1) ?_ ?_ ⟨rfl, rfl, trivial⟩ (List.Perm.refl _)
               ·try dsimp only
                exact ⟨by omega, all_snoc (by omega) hall (decide_eq_true (by unfold fineV; omega))⟩
               ·(try dsimp only); omega
            ·
             try simp only [Z1, Z2, Z3, Z4, Z5, Z6, Z7, Z8, Z9, Z0] at s6_57
             refine WQ.skip rfl rfl rfl ?_
             refine WQ.skip rfl rfl rfl ?_
             refine WQ.skip rfl rfl rfl ?_
             refine WQ.skip rfl rfl rfl ?_
             refine WQ.skip rfl rfl rfl ?_
             refine WQ.skip rfl rfl rfl ?_
             refine WQ.skip rfl rfl rfl ?_
             refine WQ.skip rfl rfl rfl ?_
             refine WQ.q (oq_pick_f rfl rfl) rfl rfl rfl ?_
             refine WQ.q (oq_pick_f rfl rfl) rfl rfl rfl ?_
             refine WQ.nil (WE.then_normal (WC.sub (fr' := [(0, _), (3, _), (86, _)]) ?_ ⟨rfl, rfl, rfl, trivial⟩))
             refine WC.cond_f rfl ?_
             refine WC.skip (WE.block_normal (WE.then_normal (WC.sub (fr' := [(0, _), (3, _)]) ?_ ⟨rfl, rfl, trivial⟩)))
             refine WC.region ?_
             refine WL.q (oq_move rfl) rfl rfl rfl ?_
             refine WL.q (oq_add rfl rfl (by rw [i64_lo, i64_hi]; (first | omega | (simp only [List.length_cons, List.length_nil, List.length_append, List.length_drop, List.length_take]; omega)))) rfl rfl rfl ?_
             refine WL.q (oq_assign rfl) rfl rfl rfl ?_
             refine WL.nil ?_
             refine WE.lose ho4 ?_
             refine WE.again (i + 1) ?_ ?_ ⟨rfl, rfl, trivial⟩ (List.Perm.refl _)
             ·try dsimp only
              exact ⟨by omega, all_snoc (by omega) hall (decide_eq_true (by unfold fineV; omega))⟩
             ·(try dsimp only); omega
          ·
           try simp only [Z1, Z2, Z3, Z4, Z5, Z6, Z7, Z8, Z9, Z0] at s6_46
           refine WQ.skip rfl rfl rfl ?_
           refine WQ.skip rfl rfl rfl ?_
           refine WQ.skip rfl rfl rfl ?_
           refine WQ.skip rfl rfl rfl ?_
           refine WQ.q (oq_pick_f rfl rfl) rfl rfl rfl ?_
           refine WQ.q (oq_pick_f rfl rfl) rfl rfl rfl ?_
           refine WQ.q (oq_move rfl) rfl rfl rfl ?_
           refine WQ.q (oq_fieldAddr fld24_0 rfl) rfl rfl rfl ?_
           refine WQ.q (oq_load flat3 rfl (.head _) (List.mem_singleton.2 rfl) rfl) rfl rfl rfl ?_
           refine WQ.q (oq_eql rfl rfl) rfl rfl rfl ?_
           refine WQ.q (oq_move rfl) rfl rfl rfl ?_
           refine WQ.split 76 rfl (fun s6_57 => ?_) (fun s6_57 => ?_)
           ·
            try simp only [Z1, Z2, Z3, Z4, Z5, Z6, Z7, Z8, Z9, Z0] at s6_57
            refine WQ.q (oq_fieldAddr fld24_2 rfl) rfl rfl rfl ?_
            refine WQ.q (oq_load flat2 rfl (.head _) (List.mem_singleton.2 rfl) rfl) rfl rfl rfl ?_
            refine WQ.q (oq_gtr rfl rfl) rfl rfl rfl ?_
            refine WQ.q (oq_move rfl) rfl rfl rfl ?_
            refine WQ.split 80 rfl (fun s6_61 => ?_) (fun s6_61 => ?_)
            ·
             try simp only [Z1, Z2, Z3, Z4, Z5, Z6, Z7, Z8, Z9, Z0] at s6_61
             refine WQ.skip rfl rfl rfl ?_
             refine WQ.skip rfl rfl rfl ?_
             refine WQ.skip rfl rfl rfl ?_
             refine WQ.q (oq_pick_t rfl rfl) rfl rfl rfl ?_
             refine WQ.q (oq_pick_t rfl rfl) rfl rfl rfl ?_
             refine WQ.q (oq_pick_f rfl rfl) rfl rfl rfl ?_
             refine WQ.nil (WE.then_normal (WC.sub (fr' := [(0, _), (3, _), (86, _)]) ?_ ⟨rfl, rfl, rfl, trivial⟩))
             refine WC.cond_t rfl ?_
             refine WC.seq (WC.region ?_)
             refine WL.q (oq_assign rfl) rfl rfl rfl ?_
             refine WL.nil (WE.then_normal (WC.sub (fr' := [(2, _)]) ?_ ⟨rfl, trivial⟩))
             refine WC.ret (WE.block_ret (WE.then_ret (WE.then_ret (WE.block_ret (WE.then_ret ?_)))))
             refine WE.lose ho4 ?_
             refine WE.endR (.inl rfl) (res1 Tryz.results12 rfl) ?_
             exact congrArg Value.bool (all_not hlt (decide_eq_false (by unfold fineV; omega))).symm
            ·
             try simp only [Z1, Z2, Z3, Z4, Z5, Z6, Z7, Z8, Z9, Z0] at s6_61
             refine WQ.q (oq_fieldAddr fld24_2 rfl) rfl rfl rfl ?_
             refine WQ.q (oq_load flat2 rfl (.head _) (List.mem_singleton.2 rfl) rfl) rfl rfl rfl ?_
             refine WQ.q (oq_lss rfl rfl) rfl rfl rfl ?_
             refine WQ.q (oq_pick_f rfl rfl) rfl rfl rfl ?_
             refine WQ.q (oq_pick_t rfl rfl) rfl rfl rfl ?_
             refine WQ.q (oq_pick_f rfl rfl) rfl rfl rfl ?_
             refine WQ.nil (WE.then_normal (WC.sub (fr' := [(0, _), (3, _), (86, _)]) ?_ ⟨rfl, rfl, rfl, trivial⟩))
             refine WC.cond rfl (fun q6 => ?_) (fun q6 => ?_)
             ·
              try simp only [Z1, Z2, Z3, Z4, Z5, Z6, Z7, Z8, Z9, Z0] at q6
              refine WC.seq (WC.region ?_)
              refine WL.q (oq_assign rfl) rfl rfl rfl ?_
              refine WL.nil (WE.then_normal (WC.sub (fr' := [(2, _)]) ?_ ⟨rfl, trivial⟩))
              refine WC.ret (WE.block_ret (WE.then_ret (WE.then_ret (WE.block_ret (WE.then_ret ?_)))))
              refine WE.lose ho4 ?_
              refine WE.endR (.inl rfl) (res1 Tryz.results12 rfl) ?_
              exact congrArg Value.bool (all_not hlt (decide_eq_false (by unfold fineV; omega))).symm
             ·
              try simp only [Z1, Z2, Z3, Z4, Z5, Z6, Z7, Z8, Z9, Z0] at q6
              refine WC.skip (WE.block_normal (WE.then_normal (WC.sub (fr' := [(0, _), (3, _)]) ?_ ⟨rfl, rfl, trivial⟩)))
              refine WC.region ?_
              refine WL.q (oq_move rfl) rfl rfl rfl ?_
              refine WL.q (oq_add rfl rfl (by rw [i64_lo, i64_hi]; (first | omega | (simp only [List.length_cons, List.length_nil, List.length_append, List.length_drop, List.length_take]; omega)))) rfl rfl rfl ?_
              refine WL.q (oq_assign rfl) rfl rfl rfl ?_
              refine WL.nil ?_
              refine WE.lose ho4 ?_
              refine WE.again (i + 1) ?_ ?_ ⟨rfl, rfl, trivial⟩ (List.Perm.refl _)
              ·try dsimp only
               exact ⟨by omega, all_snoc (by omega) hall (decide_eq_true (by unfold fineV; omega))⟩
              ·(try dsimp only); omega
           ·
            try simp only [Z1, Z2, Z3, Z4, Z5, Z6, Z7, Z8, Z9, Z0] at s6_57
            refine WQ.skip rfl rfl rfl ?_
            refine WQ.skip rfl rfl rfl ?_
            refine WQ.skip rfl rfl rfl ?_
            refine WQ.skip rfl rfl rfl ?_
            refine WQ.skip rfl rfl rfl ?_
            refine WQ.skip rfl rfl rfl ?_
            refine WQ.skip rfl rfl rfl ?_
            refine WQ.skip rfl rfl rfl ?_
            refine WQ.q (oq_pick_f rfl rfl) rfl rfl rfl ?_
            refine WQ.q (oq_pick_f rfl rfl) rfl rfl rfl ?_
            refine WQ.nil (WE.then_normal (WC.sub (fr' := [(0, _), (3, _), (86, _)]) ?_ ⟨rfl, rfl, rfl, trivial⟩))
            refine WC.cond_f rfl ?_
            refine WC.skip (WE.block_normal (WE.then_normal (WC.sub (fr' := [(0, _), (3, _)]) ?_ ⟨rfl, rfl, trivial⟩)))
            refine WC.region ?_
            refine WL.q (oq_move rfl) rfl rfl rfl ?_
            refine WL.q (oq_add rfl rfl (by rw [i64_lo, i64_hi]; (first | omega | (simp only [List.length_cons, List.length_nil, List.length_append, List.length_drop, List.length_take]; omega)))) rfl rfl rfl ?_
            refine WL.q (oq_assign rfl) rfl rfl rfl ?_
            refine WL.nil ?_
            refine WE.lose ho4 ?_
            refine WE.again (i + 1) ?_ ?_ ⟨rfl, rfl, trivial⟩ (List.Perm.refl _)
            ·try dsimp only
             exact ⟨by omega, all_snoc (by omega) hall (decide_eq_true (by unfold fineV; omega))⟩
            ·(try dsimp only); omega
       ·
        try simp only [Z1, Z2, Z3, Z4, Z5, Z6, Z7, Z8, Z9, Z0] at s6_19
        refine WQ.skip rfl rfl rfl ?_
        refine WQ.skip rfl rfl rfl ?_
        refine WQ.q (oq_pick_f rfl rfl) rfl rfl rfl ?_
        refine WQ.q (oq_move rfl) rfl rfl rfl ?_
        refine WQ.skip rfl rfl rfl ?_
        refine WQ.skip rfl rfl rfl ?_
        refine WQ.q (oq_pick_f rfl rfl) rfl rfl rfl ?_
        refine WQ.q (oq_move rfl) rfl rfl rfl ?_
        refine WQ.q (oq_fieldAddr fld24_2 rfl) rfl rfl rfl ?_
        refine WQ.q (oq_load flat2 rfl (.head _) (List.mem_singleton.2 rfl) rfl) rfl rfl rfl ?_
        refine WQ.q (oq_move rfl) rfl rfl rfl ?_
        refine WQ.q (oq_sub rfl rfl (by rw [i64_lo, i64_hi]; (first | omega | (simp only [List.length_cons, List.length_nil, List.length_append, List.length_drop, List.length_take]; omega)))) rfl rfl rfl ?_
        refine WQ.q (oq_shl rfl rfl (by omega)) rfl rfl rfl ?_
        refine WQ.q (oq_move rfl) rfl rfl rfl ?_
        refine WQ.q (oq_sub rfl rfl (by rw [i64_lo, i64_hi]; (first | omega | (simp only [List.length_cons, List.length_nil, List.length_append, List.length_drop, List.length_take]; omega)))) rfl rfl rfl ?_
        refine WQ.q (oq_shr rfl rfl (by omega)) rfl rfl rfl ?_
        refine WQ.q (oq_fieldAddr fld24_2 rfl) rfl rfl rfl ?_
        refine WQ.q (oq_load flat2 rfl (.head _) (List.mem_singleton.2 rfl) rfl) rfl rfl rfl ?_
        refine WQ.q (oq_neq rfl rfl) rfl rfl rfl ?_
        refine WQ.q (oq_pick_f rfl rfl) rfl rfl rfl ?_
        refine WQ.q (oq_pick_t rfl rfl) rfl rfl rfl ?_
        refine WQ.q (oq_pick_f rfl rfl) rfl rfl rfl ?_
        refine WQ.q (oq_move rfl) rfl rfl rfl ?_
        refine WQ.split 61 rfl (fun s6_42 => ?_) (fun s6_42 => ?_)
        ·
         try simp only [Z1, Z2, Z3, Z4, Z5, Z6, Z7, Z8, Z9, Z0] at s6_42
         refine WQ.skip rfl rfl rfl ?_
         refine WQ.skip rfl rfl rfl ?_
         refine WQ.skip rfl rfl rfl ?_
         refine WQ.skip rfl rfl rfl ?_
         refine WQ.skip rfl rfl rfl ?_
         refine WQ.skip rfl rfl rfl ?_
         refine WQ.skip rfl rfl rfl ?_
         refine WQ.skip rfl rfl rfl ?_
         refine WQ.skip rfl rfl rfl ?_
         refine WQ.q (oq_pick_t rfl rfl) rfl rfl rfl ?_
         refine WQ.q (oq_move rfl) rfl rfl rfl ?_
         refine WQ.skip rfl rfl rfl ?_
         refine WQ.skip rfl rfl rfl ?_
         refine WQ.skip rfl rfl rfl ?_
         refine WQ.skip rfl rfl rfl ?_
         refine WQ.skip rfl rfl rfl ?_
         refine WQ.skip rfl rfl rfl ?_
         refine WQ.skip rfl rfl rfl ?_
         refine WQ.skip rfl rfl rfl ?_
         refine WQ.skip rfl rfl rfl ?_
         refine WQ.skip rfl rfl rfl ?_
         refine WQ.skip rfl rfl rfl ?_
         refine WQ.skip rfl rfl rfl ?_
         refine WQ.skip rfl rfl rfl ?_
         refine WQ.q (oq_pick_t rfl rfl) rfl rfl rfl ?_
         refine WQ.nil (WE.then_normal (WC.sub (fr' := [(0, _), (3, _), (86, _)]) ?_ ⟨rfl, rfl, rfl, trivial⟩))
         refine WC.cond_t rfl ?_
         refine WC.seq (WC.region ?_)
         refine WL.q (oq_assign rfl) rfl rfl rfl ?_
         refine WL.nil (WE.then_normal (WC.sub (fr' := [(2, _)]) ?_ ⟨rfl, trivial⟩))
         refine WC.ret (WE.block_ret (WE.then_ret (WE.then_ret (WE.block_ret (WE.then_ret ?_)))))
         refine WE.lose ho4 ?_
         refine WE.endR (.inl rfl) (res1 Tryz.results12 rfl) ?_
         exact congrArg Value.bool (all_not hlt (decide_eq_false (by unfold fineV; omega))).symm
        ·
         try simp only [Z1, Z2, Z3, Z4, Z5, Z6, Z7, Z8, Z9, Z0] at s6_42
         refine WQ.q (oq_fieldAddr fld24_0 rfl) rfl rfl rfl ?_
         refine WQ.q (oq_load flat3 rfl (.head _) (List.mem_singleton.2 rfl) rfl) rfl rfl rfl ?_
         refine WQ.q (oq_eql rfl rfl) rfl rfl rfl ?_
         refine WQ.q (oq_move rfl) rfl rfl rfl ?_
         refine WQ.split 65 rfl (fun s6_46 => ?_) (fun s6_46 => ?_)
         ·
          try simp only [Z1, Z2, Z3, Z4, Z5, Z6, Z7, Z8, Z9, Z0] at s6_46
          refine WQ.q (oq_fieldAddr fld24_3 rfl) rfl rfl rfl ?_
          refine WQ.q (oq_load flat9 rfl (.head _) (List.mem_singleton.2 rfl) rfl) rfl rfl rfl ?_
          refine WQ.q (oq_len_s Tryz.underlying9 rfl) rfl rfl rfl ?_
          refine WQ.q (oq_neq rfl rfl) rfl rfl rfl ?_
          refine WQ.q (oq_pick_t rfl rfl) rfl rfl rfl ?_
          refine WQ.q (oq_pick_f rfl rfl) rfl rfl rfl ?_
          refine WQ.q (oq_move rfl) rfl rfl rfl ?_
          refine WQ.split 72 rfl (fun s6_53 => ?_) (fun s6_53 => ?_)
          ·
           try simp only [Z1, Z2, Z3, Z4, Z5, Z6, Z7, Z8, Z9, Z0] at s6_53
           refine WQ.skip rfl rfl rfl ?_
           refine WQ.skip rfl rfl rfl ?_
           refine WQ.skip rfl rfl rfl ?_
           refine WQ.skip rfl rfl rfl ?_
           refine WQ.skip rfl rfl rfl ?_
           refine WQ.skip rfl rfl rfl ?_
           refine WQ.skip rfl rfl rfl ?_
           refine WQ.skip rfl rfl rfl ?_
           refine WQ.skip rfl rfl rfl ?_
           refine WQ.skip rfl rfl rfl ?_
           refine WQ.skip rfl rfl rfl ?_
           refine WQ.skip rfl rfl rfl ?_
           refine WQ.skip rfl rfl rfl ?_
           refine WQ.q (oq_pick_t rfl rfl) rfl rfl rfl ?_
           refine WQ.nil (WE.then_normal (WC.sub (fr' := [(0, _), (3, _), (86, _)]) ?_ ⟨rfl, rfl, rfl, trivial⟩))
           refine WC.cond_t rfl ?_
           refine WC.seq (WC.region ?_)
           refine WL.q (oq_assign rfl) rfl rfl rfl ?_
           refine WL.nil (WE.then_normal (WC.sub (fr' := [(2, _)]) ?_ ⟨rfl, trivial⟩))
           refine WC.ret (WE.block_ret (WE.then_ret (WE.then_ret (WE.block_ret (WE.then_ret ?_)))))
           refine WE.lose ho4 ?_
           refine WE.endR (.inl rfl) (res1 Tryz.results12 rfl) ?_
           exact congrArg Value.bool (all_not hlt (decide_eq_false (by unfold fineV; omega))).symm
          ·
           try simp only [Z1, Z2, Z3, Z4, Z5, Z6, Z7, Z8, Z9, Z0] at s6_53
           refine WQ.q (oq_fieldAddr fld24_0 rfl) rfl rfl rfl ?_
           refine WQ.q (oq_load flat3 rfl (.head _) (List.mem_singleton.2 rfl) rfl) rfl rfl rfl ?_
           refine WQ.q (oq_eql rfl rfl) rfl rfl rfl ?_
           refine WQ.q (oq_move rfl) rfl rfl rfl ?_
           refine WQ.split 76 rfl (fun s6_57 => ?_) (fun s6_57 => ?_)
           ·
            try simp only [Z1, Z2, Z3, Z4, Z5, Z6, Z7, Z8, Z9, Z0] at s6_57
            refine WQ.q (oq_fieldAddr fld24_2 rfl) rfl rfl rfl ?_
            refine WQ.q (oq_load flat2 rfl (.head _) (List.mem_singleton.2 rfl) rfl) rfl rfl rfl ?_
            refine WQ.q (oq_gtr rfl rfl) rfl rfl rfl ?_
            refine WQ.q (oq_move rfl) rfl rfl rfl ?_
            refine WQ.split 80 rfl (fun s6_61 => ?_) (fun s6_61 => ?_)
            ·
             try simp only [Z1, Z2, Z3, Z4, Z5, Z6, Z7, Z8, Z9, Z0] at s6_61
             refine WQ.skip rfl rfl rfl ?_
             refine WQ.skip rfl rfl rfl ?_
             refine WQ.skip rfl rfl rfl ?_
             refine WQ.q (oq_pick_t rfl rfl) rfl rfl rfl ?_
             refine WQ.q (oq_pick_t rfl rfl) rfl rfl rfl ?_
             refine WQ.q (oq_pick_f rfl rfl) rfl rfl rfl ?_
             refine WQ.nil (WE.then_normal (WC.sub (fr' := [(0, _), (3, _), (86, _)]) ?_ ⟨rfl, rfl, rfl, trivial⟩))
             refine WC.cond_t rfl ?_
             refine WC.seq (WC.region ?_)
             refine WL.q (oq_assign rfl) rfl rfl rfl ?_
             refine WL.nil (WE.then_normal (WC.sub (fr' := [(2, _)]) ?_ ⟨rfl, trivial⟩))
             refine WC.ret (WE.block_ret (WE.then_ret (WE.then_ret (WE.block_ret (WE.then_ret ?_)))))
             refine WE.lose ho4 ?_
             refine WE.endR (.inl rfl) (res1 Tryz.results12 rfl) ?_
             exact congrArg Value.bool (all_not hlt (decide_eq_false (by unfold fineV; omega))).symm
            ·
             try simp only [Z1, Z2, Z3, Z4, Z5, Z6, Z7, Z8, Z9, Z0] at s6_61
             refine WQ.q (oq_fieldAddr fld24_2 rfl) rfl rfl rfl ?_
             refine WQ.q (oq_load flat2 rfl (.head _) (List.mem_singleton.2 rfl) rfl) rfl rfl rfl ?_
             refine WQ.q (oq_lss rfl rfl) rfl rfl rfl ?_
             refine WQ.q (oq_pick_f rfl rfl) rfl rfl rfl ?_
             refine WQ.q (oq_pick_t rfl rfl) rfl rfl rfl ?_
             refine WQ.q (oq_pick_f rfl rfl) rfl rfl rfl ?_
             refine WQ.nil (WE.then_normal (WC.sub (fr' := [(0, _), (3, _), (86, _)]) ?_ ⟨rfl, rfl, rfl, trivial⟩))
             refine WC.cond rfl (fun q6 => ?_) (fun q6 => ?_)
             ·
              try simp only [Z1, Z2, Z3, Z4, Z5, Z6, Z7, Z8, Z9, Z0] at q6
              refine WC.seq (WC.region ?_)
              refine WL.q (oq_assign rfl) rfl rfl rfl ?_
              refine WL.nil (WE.then_normal (WC.sub (fr' := [(2, _)]) ?_ ⟨rfl, trivial⟩))
              refine WC.ret (WE.block_ret (WE.then_ret (WE.then_ret (WE.block_ret (WE.then_ret ?_)))))
              refine WE.lose ho4 ?_
              refine WE.endR (.inl rfl) (res1 Tryz.results12 rfl) ?_
              exact congrArg Value.bool (all_not hlt (decide_eq_false (by unfold fineV; omega))).symm
             ·
              try simp only [Z1, Z2, Z3, Z4, Z5, Z6, Z7, Z8, Z9, Z0] at q6
              refine WC.skip (WE.block_normal (WE.then_normal (WC.sub (fr' := [(0, _), (3, _)]) ?_ ⟨rfl, rfl, trivial⟩)))
              refine WC.region ?_
              refine WL.q (oq_move rfl) rfl rfl rfl ?_
              refine WL.q (oq_add rfl rfl (by rw [i64_lo, i64_hi]; (first | omega | (simp only [List.length_cons, List.length_nil, List.length_append, List.length_drop, List.length_take]; omega)))) rfl rfl rfl ?_
              refine WL.q (oq_assign rfl) rfl rfl rfl ?_
              refine WL.nil ?_
              refine WE.lose ho4 ?_
              refine WE.again (i + 1) ?_ ?_ ⟨rfl, rfl, trivial⟩ (List.Perm.refl _)
              ·try dsimp only
               exact ⟨by omega, all_snoc (by omega) hall (decide_eq_true (by unfold fineV; omega))⟩
              ·(try dsimp only); omega
           ·
            try simp only [Z1, Z2, Z3, Z4, Z5, Z6, Z7, Z8, Z9, Z0] at s6_57
            refine WQ.skip rfl rfl rfl ?_
            refine WQ.skip rfl rfl rfl ?_
            refine WQ.skip rfl rfl rfl ?_
            refine WQ.skip rfl rfl rfl ?_
            refine WQ.skip rfl rfl rfl ?_
            refine WQ.skip rfl rfl rfl ?_
            refine WQ.skip rfl rfl rfl ?_
            refine WQ.skip rfl rfl rfl ?_
            refine WQ.q (oq_pick_f rfl rfl) rfl rfl rfl ?_
            refine WQ.q (oq_pick_f rfl rfl) rfl rfl rfl ?_
            refine WQ.nil (WE.then_normal (WC.sub (fr' := [(0, _), (3, _), (86, _)]) ?_ ⟨rfl, rfl, rfl, trivial⟩))
            refine WC.cond_f rfl ?_
            refine WC.skip (WE.block_normal (WE.then_normal (WC.sub (fr' := [(0, _), (3, _)]) ?_ ⟨rfl, rfl, trivial⟩)))
            refine WC.region ?_
            refine WL.q (oq_move rfl) rfl rfl rfl ?_
            refine WL.q (oq_add rfl rfl (by rw [i64_lo, i64_hi]; (first | omega | (simp only [List.length_cons, List.length_nil, List.length_append, List.length_drop, List.length_take]; omega)))) rfl rfl rfl ?_
            refine WL.q (oq_assign rfl) rfl rfl rfl ?_
            refine WL.nil ?_
            refine WE.lose ho4 ?_
            refine WE.again (i + 1) ?_ ?_ ⟨rfl, rfl, trivial⟩ (List.Perm.refl _)
            ·try dsimp only
             exact ⟨by omega, all_snoc (by omega) hall (decide_eq_true (by unfold fineV; omega))⟩
            ·(try dsimp only); omega
         ·
          try simp only [Z1, Z2, Z3, Z4, Z5, Z6, Z7, Z8, Z9, Z0] at s6_46
          refine WQ.skip rfl rfl rfl ?_
          refine WQ.skip rfl rfl rfl ?_
          refine WQ.skip rfl rfl rfl ?_
          refine WQ.skip rfl rfl rfl ?_
          refine WQ.q (oq_pick_f rfl rfl) rfl rfl rfl ?_
          refine WQ.q (oq_pick_f rfl rfl) rfl rfl rfl ?_
          refine WQ.q (oq_move rfl) rfl rfl rfl ?_
          refine WQ.q (oq_fieldAddr fld24_0 rfl) rfl rfl rfl ?_
          refine WQ.q (oq_load flat3 rfl (.head _) (List.mem_singleton.2 rfl) rfl) rfl rfl rfl ?_
          refine WQ.q (oq_eql rfl rfl) rfl rfl rfl ?_
          refine WQ.q (oq_move rfl) rfl rfl rfl ?_
          refine WQ.split 76 rfl (fun s6_57 => ?_) (fun s6_57 => ?_)
          ·
           try simp only [Z1, Z2, Z3, Z4, Z5, Z6, Z7, Z8, Z9, Z0] at s6_57
           refine WQ.q (oq_fieldAddr fld24_2 rfl) rfl rfl rfl ?_
           refine WQ.q (oq_load flat2 rfl (.head _) (List.mem_singleton.2 rfl) rfl) rfl rfl rfl ?_
           refine WQ.q (oq_gtr rfl rfl) rfl rfl rfl ?_
           refine WQ.q (oq_move rfl) rfl rfl rfl ?_
           refine WQ.split 80 rfl (fun s6_61 => ?_) (fun s6_61 => ?_)
           ·
            try simp only [Z1, Z2, Z3, Z4, Z5, Z6, Z7, Z8, Z9, Z0] at s6_61
            refine WQ.skip rfl rfl rfl ?_
            refine WQ.skip rfl rfl rfl ?_
            refine WQ.skip rfl rfl rfl ?_
            refine WQ.q (oq_pick_t rfl rfl) rfl rfl rfl ?_
            refine WQ.q (oq_pick_t rfl rfl) rfl rfl rfl ?_
            refine WQ.q (oq_pick_f rfl rfl) rfl rfl rfl ?_
            refine WQ.nil (WE.then_normal (WC.sub (fr' := [(0, _), (3, _), (86, _)]) ?_ ⟨rfl, rfl, rfl, trivial⟩))
            refine WC.cond_t rfl ?_
            refine WC.seq (WC.region ?_)
            refine WL.q (oq_assign rfl) rfl rfl rfl ?_
            refine WL.nil (WE.then_normal (WC.sub (fr' := [(2, _)]) ?_ ⟨rfl, trivial⟩))
            refine WC.ret (WE.block_ret (WE.then_ret (WE.then_ret (WE.block_ret (WE.then_ret ?_)))))
            refine WE.lose ho4 ?_
            refine WE.endR (.inl rfl) (res1 Tryz.results12 rfl) ?_
            exact congrArg Value.bool (all_not hlt (decide_eq_false (by unfold fineV; omega))).symm
           ·
            try simp only [Z1, Z2, Z3, Z4, Z5, Z6, Z7, Z8, Z9, Z0] at s6_61
            refine WQ.q (oq_fieldAddr fld24_2 rfl) rfl rfl rfl ?_
            refine WQ.q (oq_load flat2 rfl (.head _) (List.mem_singleton.2 rfl) rfl) rfl rfl rfl ?_
            refine WQ.q (oq_lss rfl rfl) rfl rfl rfl ?_
            refine WQ.q (oq_pick_f rfl rfl) rfl rfl rfl ?_
            refine WQ.q (oq_pick_t rfl rfl) rfl rfl rfl ?_
            refine WQ.q (oq_pick_f rfl rfl) rfl rfl rfl ?_
            refine WQ.nil (WE.then_normal (WC.sub (fr' := [(0, _), (3, _), (86, _)]) ?_ ⟨rfl, rfl, rfl, trivial⟩))
            refine WC.cond rfl (fun q6 => ?_) (fun q6 => ?_)
            ·
             try simp only [Z1, Z2, Z3, Z4, Z5, Z6, Z7, Z8, Z9, Z0] at q6
             refine WC.seq (WC.region ?_)
             refine WL.q (oq_assign rfl) rfl rfl rfl ?_
             refine WL.nil (WE.then_normal (WC.sub (fr' := [(2, _)]) ?_ ⟨rfl, trivial⟩))
             refine WC.ret (WE.block_ret (WE.then_ret (WE.then_ret (WE.block_ret (WE.then_ret ?_)))))
             refine WE.lose ho4 ?_
             refine WE.endR (.inl rfl) (res1 Tryz.results12 rfl) ?_
             exact congrArg Value.bool (all_not hlt (decide_eq_false (by unfold fineV; omega))).symm
            ·
             try simp only [Z1, Z2, Z3, Z4, Z5, Z6, Z7, Z8, Z9, Z0] at q6
             refine WC.skip (WE.block_normal (WE.then_normal (WC.sub (fr' := [(0, _), (3, _)]) ?_ ⟨rfl, rfl, trivial⟩)))
             refine WC.region ?_
             refine WL.q (oq_move rfl) rfl rfl rfl ?_
             refine WL.q (oq_add rfl rfl (by rw [i64_lo, i64_hi]; (first | omega | (simp only [List.length_cons, List.length_nil, List.length_append, List.length_drop, List.length_take]; omega)))) rfl rfl rfl ?_
             refine WL.q (oq_assign rfl) rfl rfl rfl ?_
             refine WL.nil ?_
             refine WE.lose ho4 ?_
             refine WE.again (i + 1) ?_ ?_ ⟨rfl, rfl, trivial⟩ (List.Perm.refl _)
             ·try dsimp only
              exact ⟨by omega, all_snoc (by omega) hall (decide_eq_true (by unfold fineV; omega))⟩
             ·(try dsimp only); omega
          ·
           try simp only [Z1, Z2, Z3, Z4, Z5, Z6, Z7, Z8, Z9, Z0] at s6_57
           refine WQ.skip rfl rfl rfl ?_
           refine WQ.skip rfl rfl rfl ?_
           refine WQ.skip rfl rfl rfl ?_
           refine WQ.skip rfl rfl rfl ?_
           refine WQ.skip rfl rfl rfl ?_
           refine WQ.skip rfl rfl rfl ?_
           refine WQ.skip rfl rfl rfl ?_
           refine WQ.skip rfl rfl rfl ?_
           refine WQ.q (oq_pick_f rfl rfl) rfl rfl rfl ?_
           refine WQ.q (oq_pick_f rfl rfl) rfl rfl rfl ?_
           refine WQ.nil (WE.then_normal (WC.sub (fr' := [(0, _), (3, _), (86, _)]) ?_ ⟨rfl, rfl, rfl, trivial⟩))
           refine WC.cond_f rfl ?_
           refine WC.skip (WE.block_normal (WE.then_normal (WC.sub (fr' := [(0, _), (3, _)]) ?_ ⟨rfl, rfl, trivial⟩)))
           refine WC.region ?_
           refine WL.q (oq_move rfl) rfl rfl rfl ?_
           refine WL.q (oq_add rfl rfl (by rw [i64_lo, i64_hi]; (first | omega | (simp only [List.length_cons, List.length_nil, List.length_append, List.length_drop, List.length_take]; omega)))) rfl rfl rfl ?_
           refine WL.q (oq_assign rfl) rfl rfl rfl ?_
           refine WL.nil ?_
           refine WE.lose ho4 ?_
           refine WE.again (i + 1) ?_ ?_ ⟨rfl, rfl, trivial⟩ (List.Perm.refl _)
           ·try dsimp only
            exact ⟨by omega, all_snoc (by omega) hall (decide_eq_true (by unfold fineV; omega))⟩
           ·(try dsimp only); omega
      ·
       try simp only [Z1, Z2, Z3, Z4, Z5, Z6, Z7, Z8, Z9, Z0] at s6_15
       refine WQ.skip rfl rfl rfl ?_
       refine WQ.skip rfl rfl rfl ?_
       refine WQ.q (oq_pick_f rfl rfl) rfl rfl rfl ?_
       refine WQ.q (oq_move rfl) rfl rfl rfl ?_
       refine WQ.skip rfl rfl rfl ?_
       refine WQ.skip rfl rfl rfl ?_
       refine WQ.q (oq_pick_f rfl rfl) rfl rfl rfl ?_
       refine WQ.q (oq_move rfl) rfl rfl rfl ?_
       refine WQ.skip rfl rfl rfl ?_
       refine WQ.skip rfl rfl rfl ?_
       refine WQ.q (oq_pick_f rfl rfl) rfl rfl rfl ?_
       refine WQ.q (oq_move rfl) rfl rfl rfl ?_
       refine WQ.q (oq_fieldAddr fld24_2 rfl) rfl rfl rfl ?_
       refine WQ.q (oq_load flat2 rfl (.head _) (List.mem_singleton.2 rfl) rfl) rfl rfl rfl ?_
       refine WQ.q (oq_move rfl) rfl rfl rfl ?_
       refine WQ.q (oq_sub rfl rfl (by rw [i64_lo, i64_hi]; (first | omega | (simp only [List.length_cons, List.length_nil, List.length_append, List.length_drop, List.length_take]; omega)))) rfl rfl rfl ?_
       refine WQ.q (oq_shl rfl rfl (by omega)) rfl rfl rfl ?_
       refine WQ.q (oq_move rfl) rfl rfl rfl ?_
       refine WQ.q (oq_sub rfl rfl (by rw [i64_lo, i64_hi]; (first | omega | (simp only [List.length_cons, List.length_nil, List.length_append, List.length_drop, List.length_take]; omega)))) rfl rfl rfl ?_
       refine WQ.q (oq_shr rfl rfl (by omega)) rfl rfl rfl ?_
       refine WQ.q (oq_fieldAddr fld24_2 rfl) rfl rfl rfl ?_
       refine WQ.q (oq_load flat2 rfl (.head _) (List.mem_singleton.2 rfl) rfl) rfl rfl rfl ?_
       refine WQ.q (oq_neq rfl rfl) rfl rfl rfl ?_
       refine WQ.q (oq_pick_f rfl rfl) rfl rfl rfl ?_
       refine WQ.q (oq_pick_t rfl rfl) rfl rfl rfl ?_
       refine WQ.q (oq_pick_f rfl rfl) rfl rfl rfl ?_
       refine WQ.q (oq_move rfl) rfl rfl rfl ?_
       refine WQ.split 61 rfl (fun s6_42 => ?_) (fun s6_42 => ?_)
       ·
        try simp only [Z1, Z2, Z3, Z4, Z5, Z6, Z7, Z8, Z9, Z0] at s6_42
        refine WQ.skip rfl rfl rfl ?_
        refine WQ.skip rfl rfl rfl ?_
        refine WQ.skip rfl rfl rfl ?_
        refine WQ.skip rfl rfl rfl ?_
        refine WQ.skip rfl rfl rfl ?_
        refine WQ.skip rfl rfl rfl ?_
        refine WQ.skip rfl rfl rfl ?_
        refine WQ.skip rfl rfl rfl ?_
        refine WQ.skip rfl rfl rfl ?_
        refine WQ.q (oq_pick_t rfl rfl) rfl rfl rfl ?_
        refine WQ.q (oq_move rfl) rfl rfl rfl ?_
        refine WQ.skip rfl rfl rfl ?_
        refine WQ.skip rfl rfl rfl ?_
        refine WQ.skip rfl rfl rfl ?_
        refine WQ.skip rfl rfl rfl ?_
        refine WQ.skip rfl rfl rfl ?_
        refine WQ.skip rfl rfl rfl ?_
        refine WQ.skip rfl rfl rfl ?_
        refine WQ.skip rfl rfl rfl ?_
        refine WQ.skip rfl rfl rfl ?_
        refine WQ.skip rfl rfl rfl ?_
        refine WQ.skip rfl rfl rfl ?_
        refine WQ.skip rfl rfl rfl ?_
        refine WQ.skip rfl rfl rfl ?_
        refine WQ.q (oq_pick_t rfl rfl) rfl rfl rfl ?_
        refine WQ.nil (WE.then_normal (WC.sub (fr' := [(0, _), (3, _), (86, _)]) ?_ ⟨rfl, rfl, rfl, trivial⟩))
        refine WC.cond_t rfl ?_
        refine WC.seq (WC.region ?_)
        refine WL.q (oq_assign rfl) rfl rfl rfl ?_
        refine WL.nil (WE.then_normal (WC.sub (fr' := [(2, _)]) ?_ ⟨rfl, trivial⟩))
        refine WC.ret (WE.block_ret (WE.then_ret (WE.then_ret (WE.block_ret (WE.then_ret ?_)))))
        refine WE.lose ho4 ?_
        refine WE.endR (.inl rfl) (res1 Tryz.results12 rfl) ?_
        exact congrArg Value.bool (all_not hlt (decide_eq_false (by unfold fineV; omega))).symm
       ·
        try simp only [Z1, Z2, Z3, Z4, Z5, Z6, Z7, Z8, Z9, Z0] at s6_42
        refine WQ.q (oq_fieldAddr fld24_0 rfl) rfl rfl rfl ?_
        refine WQ.q (oq_load flat3 rfl (.head _) (List.mem_singleton.2 rfl) rfl) rfl rfl rfl ?_
        refine WQ.q (oq_eql rfl rfl) rfl rfl rfl ?_
        refine WQ.q (oq_move rfl) rfl rfl rfl ?_
        refine WQ.split 65 rfl (fun s6_46 => ?_) (fun s6_46 => ?_)
        ·
         try simp only [Z1, Z2, Z3, Z4, Z5, Z6, Z7, Z8, Z9, Z0] at s6_46
         refine WQ.q (oq_fieldAddr fld24_3 rfl) rfl rfl rfl ?_
         refine WQ.q (oq_load flat9 rfl (.head _) (List.mem_singleton.2 rfl) rfl) rfl rfl rfl ?_
         refine WQ.q (oq_len_s Tryz.underlying9 rfl) rfl rfl rfl ?_
         refine WQ.q (oq_neq rfl rfl) rfl rfl rfl ?_
         refine WQ.q (oq_pick_t rfl rfl) rfl rfl rfl ?_
         refine WQ.q (oq_pick_f rfl rfl) rfl rfl rfl ?_
         refine WQ.q (oq_move rfl) rfl rfl rfl ?_
         refine WQ.split 72 rfl (fun s6_53 => ?_) (fun s6_53 => ?_)
         ·
          try simp only [Z1, Z2, Z3, Z4, Z5, Z6, Z7, Z8, Z9, Z0] at s6_53
          refine WQ.skip rfl rfl rfl ?_
          refine WQ.skip rfl rfl rfl ?_
          refine WQ.skip rfl rfl rfl ?_
          refine WQ.skip rfl rfl rfl ?_
          refine WQ.skip rfl rfl rfl ?_
          refine WQ.skip rfl rfl rfl ?_
          refine WQ.skip rfl rfl rfl ?_
          refine WQ.skip rfl rfl rfl ?_
          refine WQ.skip rfl rfl rfl ?_
          refine WQ.skip rfl rfl rfl ?_
          refine WQ.skip rfl rfl rfl ?_
          refine WQ.skip rfl rfl rfl ?_
          refine WQ.skip rfl rfl rfl ?_
          refine WQ.q (oq_pick_t rfl rfl) rfl rfl rfl ?_
          refine WQ.nil (WE.then_normal (WC.sub (fr' := [(0, _), (3, _), (86, _)]) ?_ ⟨rfl, rfl, rfl, trivial⟩))
          refine WC.cond_t rfl ?_
          refine WC.seq (WC.region ?_)
          refine WL.q (oq_assign rfl) rfl rfl rfl ?_
          refine WL.nil (WE.then_normal (WC.sub (fr' := [(2, _)]) ?_ ⟨rfl, trivial⟩))
          refine WC.ret (WE.block_ret (WE.then_ret (WE.then_ret (WE.block_ret (WE.then_ret ?_)))))
          refine WE.lose ho4 ?_
          refine WE.endR (.inl rfl) (res1 Tryz.results12 rfl) ?_
          exact congrArg Value.bool (all_not hlt (decide_eq_false (by unfold fineV; omega))).symm
         ·
          try simp only [Z1, Z2, Z3, Z4, Z5, Z6, Z7, Z8, Z9, Z0] at s6_53
          refine WQ.q (oq_fieldAddr fld24_0 rfl) rfl rfl rfl ?_
          refine WQ.q (oq_load flat3 rfl (.head _) (List.mem_singleton.2 rfl) rfl) rfl rfl rfl ?_
          refine WQ.q (oq_eql rfl rfl) rfl rfl rfl ?_
          refine WQ.q (oq_move rfl) rfl rfl rfl ?_
          refine WQ.split 76 rfl (fun s6_57 => ?_) (fun s6_57 => ?_)
          ·
           try simp only [Z1, Z2, Z3, Z4, Z5, Z6, Z7, Z8, Z9, Z0] at s6_57
           refine WQ.q (oq_fieldAddr fld24_2 rfl) rfl rfl rfl ?_
           refine WQ.q (oq_load flat2 rfl (.head _) (List.mem_singleton.2 rfl) rfl) rfl rfl rfl ?_
           refine WQ.q (oq_gtr rfl rfl) rfl rfl rfl ?_
           refine WQ.q (oq_move rfl) rfl rfl rfl ?_
           refine WQ.split 80 rfl (fun s6_61 => ?_) (fun s6_61 => ?_)
           ·
            try simp only [Z1, Z2, Z3, Z4, Z5, Z6, Z7, Z8, Z9, Z0] at s6_61
            refine WQ.skip rfl rfl rfl ?_
            refine WQ.skip rfl rfl rfl ?_
            refine WQ.skip rfl rfl rfl ?_
            refine WQ.q (oq_pick_t rfl rfl) rfl rfl rfl ?_
            refine WQ.q (oq_pick_t rfl rfl) rfl rfl rfl ?_
            refine WQ.q (oq_pick_f rfl rfl) rfl rfl rfl ?_
            refine WQ.nil (WE.then_normal (WC.sub (fr' := [(0, _), (3, _), (86, _)]) ?_ ⟨rfl, rfl, rfl, trivial⟩))
            refine WC.cond_t rfl ?_
            refine WC.seq (WC.region ?_)
            refine WL.q (oq_assign rfl) rfl rfl rfl ?_
            refine WL.nil (WE.then_normal (WC.sub (fr' := [(2, _)]) ?_ ⟨rfl, trivial⟩))
            refine WC.ret (WE.block_ret (WE.then_ret (WE.then_ret (WE.block_ret (WE.then_ret ?_)))))
            refine WE.lose ho4 ?_
            refine WE.endR (.inl rfl) (res1 Tryz.results12 rfl) ?_
            exact congrArg Value.bool (all_not hlt (decide_eq_false (by unfold fineV; omega))).symm
           ·
            try simp only [Z1, Z2, Z3, Z4, Z5, Z6, Z7, Z8, Z9, Z0] at s6_61
            refine WQ.q (oq_fieldAddr fld24_2 rfl) rfl rfl rfl ?_
            refine WQ.q (oq_load flat2 rfl (.head _) (List.mem_singleton.2 rfl) rfl) rfl rfl rfl ?_
            refine WQ.q (oq_lss rfl rfl) rfl rfl rfl ?_
            refine WQ.q (oq_pick_f rfl rfl) rfl rfl rfl ?_
            refine WQ.q (oq_pick_t rfl rfl) rfl rfl rfl ?_
            refine WQ.q (oq_pick_f rfl rfl) rfl rfl rfl ?_
            refine WQ.nil (WE.then_normal (WC.sub (fr' := [(0, _), (3, _), (86, _)]) ?_ ⟨rfl, rfl, rfl, trivial⟩))
            refine WC.cond rfl (fun q6 => ?_) (fun q6 => ?_)
            ·
             try simp only [Z1, Z2, Z3, Z4, Z5, Z6, Z7, Z8, Z9, Z0] at q6
             refine WC.seq (WC.region ?_)
             refine WL.q (oq_assign rfl) rfl rfl rfl ?_
             refine WL.nil (WE.then_normal (WC.sub (fr' := [(2, _)]) ?_ ⟨rfl, trivial⟩))
             refine WC.ret (WE.block_ret (WE.then_ret (WE.then_ret (WE.block_ret (WE.then_ret ?_)))))
             refine WE.lose ho4 ?_
             refine WE.endR (.inl rfl) (res1 Tryz.results12 rfl) ?_
             exact congrArg Value.bool (all_not hlt (decide_eq_false (by unfold fineV; omega))).symm
            ·
             try simp only [Z1, Z2, Z3, Z4, Z5, Z6, Z7, Z8, Z9, Z0] at q6
             refine WC.skip (WE.block_normal (WE.then_normal (WC.sub (fr' := [(0, _), (3, _)]) ?_ ⟨rfl, rfl, trivial⟩)))
             refine WC.region ?_
             refine WL.q (oq_move rfl) rfl rfl rfl ?_
             refine WL.q (oq_add rfl rfl (by rw [i64_lo, i64_hi]; (first | omega | (simp only [List.length_cons, List.length_nil, List.length_append, List.length_drop, List.length_take]; omega)))) rfl rfl rfl ?_
             refine WL.q (oq_assign rfl) rfl rfl rfl ?_
             refine WL.nil ?_
             refine WE.lose ho4 ?_
             refine WE.again (i + 1) ?_ ?_ ⟨rfl, rfl, trivial⟩ (List.Perm.refl _)
             ·try dsimp only
              exact ⟨by omega, all_snoc (by omega) hall (decide_eq_true (by unfold fineV; omega))⟩
             ·(try dsimp only); omega
          ·
           try simp only [Z1, Z2, Z3, Z4, Z5, Z6, Z7, Z8, Z9, Z0] at s6_57
           refine WQ.skip rfl rfl rfl ?_
           refine WQ.skip rfl rfl rfl ?_
           refine WQ.skip rfl rfl rfl ?_
           refine WQ.skip rfl rfl rfl ?_
           refine WQ.skip rfl rfl rfl ?_
           refine WQ.skip rfl rfl rfl ?_
           refine WQ.skip rfl rfl rfl ?_
           refine WQ.skip rfl rfl rfl ?_
           refine WQ.q (oq_pick_f rfl rfl) rfl rfl rfl ?_
           refine WQ.q (oq_pick_f rfl rfl) rfl rfl rfl ?_
           refine WQ.nil (WE.then_normal (WC.sub (fr' := [(0, _), (3, _), (86, _)]) ?_ ⟨rfl, rfl, rfl, trivial⟩))
           refine WC.cond_f rfl ?_
           refine WC.skip (WE.block_normal (WE.then_normal (WC.sub (fr' := [(0, _), (3, _)]) ?_ ⟨rfl, rfl, trivial⟩)))
           refine WC.region ?_
           refine WL.q (oq_move rfl) rfl rfl rfl ?_
           refine WL.q (oq_add rfl rfl (by rw [i64_lo, i64_hi]; (first | omega | (simp only [List.length_cons, List.length_nil, List.length_append, List.length_drop, List.length_take]; omega)))) rfl rfl rfl ?_
           refine WL.q (oq_assign rfl) rfl rfl rfl ?_
           refine WL.nil ?_
           refine WE.lose ho4 ?_
           refine WE.again (i + 1) ?_ ?_ ⟨rfl, rfl, trivial⟩ (List.Perm.refl _)
           ·try dsimp only
            exact ⟨by omega, all_snoc (by omega) hall (decide_eq_true (by unfold fineV; omega))⟩
           ·(try dsimp only); omega
        ·
         try simp only [Z1, Z2, Z3, Z4, Z5, Z6, Z7, Z8, Z9, Z0] at s6_46
         refine WQ.skip rfl rfl rfl ?_
         refine WQ.skip rfl rfl rfl ?_
         refine WQ.skip rfl rfl rfl ?_
         refine WQ.skip rfl rfl rfl ?_
         refine WQ.q (oq_pick_f rfl rfl) rfl rfl rfl ?_
         refine WQ.q (oq_pick_f rfl rfl) rfl rfl rfl ?_
         refine WQ.q (oq_move rfl) rfl rfl rfl ?_
         refine WQ.q (oq_fieldAddr fld24_0 rfl) rfl rfl rfl ?_
         refine WQ.q (oq_load flat3 rfl (.head _) (List.mem_singleton.2 rfl) rfl) rfl rfl rfl ?_
         refine WQ.q (oq_eql rfl rfl) rfl rfl rfl ?_
         refine WQ.q (oq_move rfl) rfl rfl rfl ?_
         refine WQ.split 76 rfl (fun s6_57 => ?_) (fun s6_57 => ?_)
         ·
          try simp only [Z1, Z2, Z3, Z4, Z5, Z6, Z7, Z8, Z9, Z0] at s6_57
          refine WQ.q (oq_fieldAddr fld24_2 rfl) rfl rfl rfl ?_
          refine WQ.q (oq_load flat2 rfl (.head _) (List.mem_singleton.2 rfl) rfl) rfl rfl rfl ?_
          refine WQ.q (oq_gtr rfl rfl) rfl rfl rfl ?_
          refine WQ.q (oq_move rfl) rfl rfl rfl ?_
          refine WQ.split 80 rfl (fun s6_61 => ?_) (fun s6_61 => ?_)
          ·
           try simp only [Z1, Z2, Z3, Z4, Z5, Z6, Z7, Z8, Z9, Z0] at s6_61
           refine WQ.skip rfl rfl rfl ?_
           refine WQ.skip rfl rfl rfl ?_
           refine WQ.skip rfl rfl rfl ?_
           refine WQ.q (oq_pick_t rfl rfl) rfl rfl rfl ?_
           refine WQ.q (oq_pick_t rfl rfl) rfl rfl rfl ?_
           refine WQ.q (oq_pick_f rfl rfl) rfl rfl rfl ?_
           refine WQ.nil (WE.then_normal (WC.sub (fr' := [(0, _), (3, _), (86, _)]) ?_ ⟨rfl, rfl, rfl, trivial⟩))
           refine WC.cond_t rfl ?_
           refine WC.seq (WC.region ?_)
           refine WL.q (oq_assign rfl) rfl rfl rfl ?_
           refine WL.nil (WE.then_normal (WC.sub (fr' := [(2, _)]) ?_ ⟨rfl, trivial⟩))
           refine WC.ret (WE.block_ret (WE.then_ret (WE.then_ret (WE.block_ret (WE.then_ret ?_)))))
           refine WE.lose ho4 ?_
           refine WE.endR (.inl rfl) (res1 Tryz.results12 rfl) ?_
           exact congrArg Value.bool (all_not hlt (decide_eq_false (by unfold fineV; omega))).symm
          ·
           try simp only [Z1, Z2, Z3, Z4, Z5, Z6, Z7, Z8, Z9, Z0] at s6_61
           refine WQ.q (oq_fieldAddr fld24_2 rfl) rfl rfl rfl ?_
           refine WQ.q (oq_load flat2 rfl (.head _) (List.mem_singleton.2 rfl) rfl) rfl rfl rfl ?_
           refine WQ.q (oq_lss rfl rfl) rfl rfl rfl ?_
           refine WQ.q (oq_pick_f rfl rfl) rfl rfl rfl ?_
           refine WQ.q (oq_pick_t rfl rfl) rfl rfl rfl ?_
           refine WQ.q (oq_pick_f rfl rfl) rfl rfl rfl ?_
           refine WQ.nil (WE.then_normal (WC.sub (fr' := [(0, _), (3, _), (86, _)]) ?_ ⟨rfl, rfl, rfl, trivial⟩))
           refine WC.cond rfl (fun q6 => ?_) (fun q6 => ?_)
           ·
            try simp only [Z1, Z2, Z3, Z4, Z5, Z6, Z7, Z8, Z9, Z0] at q6
            refine WC.seq (WC.region ?_)
            refine WL.q (oq_assign rfl) rfl rfl rfl ?_
            refine WL.nil (WE.then_normal (WC.sub (fr' := [(2, _)]) ?_ ⟨rfl, trivial⟩))
            refine WC.ret (WE.block_ret (WE.then_ret (WE.then_ret (WE.block_ret (WE.then_ret ?_)))))
            refine WE.lose ho4 ?_
            refine WE.endR (.inl rfl) (res1 Tryz.results12 rfl) ?_
            exact congrArg Value.bool (all_not hlt (decide_eq_false (by unfold fineV; omega))).symm
           ·
            try simp only [Z1, Z2, Z3, Z4, Z5, Z6, Z7, Z8, Z9, Z0] at q6
            refine WC.skip (WE.block_normal (WE.then_normal (WC.sub (fr' := [(0, _), (3, _)]) ?_ ⟨rfl, rfl, trivial⟩)))
            refine WC.region ?_
            refine WL.q (oq_move rfl) rfl rfl rfl ?_
            refine WL.q (oq_add rfl rfl (by rw [i64_lo, i64_hi]; (first | omega | (simp only [List.length_cons, List.length_nil, List.length_append, List.length_drop, List.length_take]; omega)))) rfl rfl rfl ?_
            refine WL.q (oq_assign rfl) rfl rfl rfl ?_
            refine WL.nil ?_
            refine WE.lose ho4 ?_
            refine WE.again (i + 1) ?_ ?_ ⟨rfl, rfl, trivial⟩ (List.Perm.refl _)
            ·try dsimp only
             exact ⟨by omega, all_snoc (by omega) hall (decide_eq_true (by unfold fineV; omega))⟩
            ·(try dsimp only); omega
         ·
          try simp only [Z1, Z2, Z3, Z4, Z5, Z6, Z7, Z8, Z9, Z0] at s6_57
          refine WQ.skip rfl rfl rfl ?_
          refine WQ.skip rfl rfl rfl ?_
          refine WQ.skip rfl rfl rfl ?_
          refine WQ.skip rfl rfl rfl ?_
          refine WQ.skip rfl rfl rfl ?_
          refine WQ.skip rfl rfl rfl ?_
          refine WQ.skip rfl rfl rfl ?_
          refine WQ.skip rfl rfl rfl ?_
          refine WQ.q (oq_pick_f rfl rfl) rfl rfl rfl ?_
          refine WQ.q (oq_pick_f rfl rfl) rfl rfl rfl ?_
          refine WQ.nil (WE.then_normal (WC.sub (fr' := [(0, _), (3, _), (86, _)]) ?_ ⟨rfl, rfl, rfl, trivial⟩))
          refine WC.cond_f rfl ?_
          refine WC.skip (WE.block_normal (WE.then_normal (WC.sub (fr' := [(0, _), (3, _)]) ?_ ⟨rfl, rfl, trivial⟩)))
          refine WC.region ?_
          refine WL.q (oq_move rfl) rfl rfl rfl ?_
          refine WL.q (oq_add rfl rfl (by rw [i64_lo, i64_hi]; (first | omega | (simp only [List.length_cons, List.length_nil, List.length_append, List.length_drop, List.length_take]; omega)))) rfl rfl rfl ?_
          refine WL.q (oq_assign rfl) rfl rfl rfl ?_
          refine WL.nil ?_
          refine WE.lose ho4 ?_
          refine WE.again (i + 1) ?_ ?_ ⟨rfl, rfl, trivial⟩ (List.Perm.refl _)
          ·try dsimp only
           exact ⟨by omega, all_snoc (by omega) hall (decide_eq_true (by unfold fineV; omega))⟩
          ·(try dsimp only); omega
     ·
      try simp only [Z1, Z2, Z3, Z4, Z5, Z6, Z7, Z8, Z9, Z0] at s6_12
      refine WQ.skip rfl rfl rfl ?_
      refine WQ.skip rfl rfl rfl ?_
      refine WQ.skip rfl rfl rfl ?_
      refine WQ.skip rfl rfl rfl ?_
      refine WQ.skip rfl rfl rfl ?_
      refine WQ.skip rfl rfl rfl ?_
      refine WQ.skip rfl rfl rfl ?_
      refine WQ.skip rfl rfl rfl ?_
      refine WQ.skip rfl rfl rfl ?_
      refine WQ.skip rfl rfl rfl ?_
      refine WQ.skip rfl rfl rfl ?_
      refine WQ.skip rfl rfl rfl ?_
      refine WQ.skip rfl rfl rfl ?_
      refine WQ.skip rfl rfl rfl ?_
      refine WQ.skip rfl rfl rfl ?_
      refine WQ.skip rfl rfl rfl ?_
      refine WQ.skip rfl rfl rfl ?_
      refine WQ.skip rfl rfl rfl ?_
      refine WQ.skip rfl rfl rfl ?_
      refine WQ.skip rfl rfl rfl ?_
      refine WQ.skip rfl rfl rfl ?_
      refine WQ.skip rfl rfl rfl ?_
      refine WQ.skip rfl rfl rfl ?_
      refine WQ.skip rfl rfl rfl ?_
      refine WQ.skip rfl rfl rfl ?_
      refine WQ.skip rfl rfl rfl ?_
      refine WQ.skip rfl rfl rfl ?_
      refine WQ.q (oq_pick_f rfl rfl) rfl rfl rfl ?_
      refine WQ.q (oq_pick_f rfl rfl) rfl rfl rfl ?_
      refine WQ.q (oq_move rfl) rfl rfl rfl ?_
      refine WQ.q (oq_fieldAddr fld24_0 rfl) rfl rfl rfl ?_
      refine WQ.q (oq_load flat3 rfl (.head _) (List.mem_singleton.2 rfl) rfl) rfl rfl rfl ?_
      refine WQ.q (oq_eql rfl rfl) rfl rfl rfl ?_
      refine WQ.q (oq_move rfl) rfl rfl rfl ?_
      refine WQ.split 65 rfl (fun s6_46 => ?_) (fun s6_46 => ?_)
      ·
       try simp only [Z1, Z2, Z3, Z4, Z5, Z6, Z7, Z8, Z9, Z0] at s6_46
       refine WQ.q (oq_fieldAddr fld24_3 rfl) rfl rfl rfl ?_
       refine WQ.q (oq_load flat9 rfl (.head _) (List.mem_singleton.2 rfl) rfl) rfl rfl rfl ?_
       refine WQ.q (oq_len_s Tryz.underlying9 rfl) rfl rfl rfl ?_
       refine WQ.q (oq_neq rfl rfl) rfl rfl rfl ?_
       refine WQ.q (oq_pick_t rfl rfl) rfl rfl rfl ?_
       refine WQ.q (oq_pick_f rfl rfl) rfl rfl rfl ?_
       refine WQ.q (oq_move rfl) rfl rfl rfl ?_
       refine WQ.split 72 rfl (fun s6_53 => ?_) (fun s6_53 => ?_)
       ·
        try simp only [Z1, Z2, Z3, Z4, Z5, Z6, Z7, Z8, Z9, Z0] at s6_53
        refine WQ.skip rfl rfl rfl ?_
        refine WQ.skip rfl rfl rfl ?_
        refine WQ.skip rfl rfl rfl ?_
        refine WQ.skip rfl rfl rfl ?_
        refine WQ.skip rfl rfl rfl ?_
        refine WQ.skip rfl rfl rfl ?_
        refine WQ.skip rfl rfl rfl ?_
        refine WQ.skip rfl rfl rfl ?_
        refine WQ.skip rfl rfl rfl ?_
        refine WQ.skip rfl rfl rfl ?_
        refine WQ.skip rfl rfl rfl ?_
        refine WQ.skip rfl rfl rfl ?_
        refine WQ.skip rfl rfl rfl ?_
        refine WQ.q (oq_pick_t rfl rfl) rfl rfl rfl ?_
        refine WQ.nil (WE.then_normal (WC.sub (fr' := [(0, _), (3, _), (86, _)]) ?_ ⟨rfl, rfl, rfl, trivial⟩))
        refine WC.cond_t rfl ?_
        refine WC.seq (WC.region ?_)
        refine WL.q (oq_assign rfl) rfl rfl rfl ?_
        refine WL.nil (WE.then_normal (WC.sub (fr' := [(2, _)]) ?_ ⟨rfl, trivial⟩))
        refine WC.ret (WE.block_ret (WE.then_ret (WE.then_ret (WE.block_ret (WE.then_ret ?_)))))
        refine WE.lose ho4 ?_
        refine WE.endR (.inl rfl) (res1 Tryz.results12 rfl) ?_
        exact congrArg Value.bool (all_not hlt (decide_eq_false (by unfold fineV; omega))).symm
       ·
        try simp only [Z1, Z2, Z3, Z4, Z5, Z6, Z7, Z8, Z9, Z0] at s6_53
        refine WQ.q (oq_fieldAddr fld24_0 rfl) rfl rfl rfl ?_
        refine WQ.q (oq_load flat3 rfl (.head _) (List.mem_singleton.2 rfl) rfl) rfl rfl rfl ?_
        refine WQ.q (oq_eql rfl rfl) rfl rfl rfl ?_
        refine WQ.q (oq_move rfl) rfl rfl rfl ?_
        refine WQ.split 76 rfl (fun s6_57 => ?_) (fun s6_57 => ?_)
        ·
         try simp only [Z1, Z2, Z3, Z4, Z5, Z6, Z7, Z8, Z9, Z0] at s6_57
         refine WQ.q (oq_fieldAddr fld24_2 rfl) rfl rfl rfl ?_
         refine WQ.q (oq_load flat2 rfl (.head _) (List.mem_singleton.2 rfl) rfl) rfl rfl rfl ?_
         refine WQ.q (oq_gtr rfl rfl) rfl rfl rfl ?_
         refine WQ.q (oq_move rfl) rfl rfl rfl ?_
         refine WQ.split 80 rfl (fun s6_61 => ?_) (fun s6_61 => ?_)
         ·
          try simp only [Z1, Z2, Z3, Z4, Z5, Z6, Z7, Z8, Z9, Z0] at s6_61
          refine WQ.skip rfl rfl rfl ?_
          refine WQ.skip rfl rfl rfl ?_
          refine WQ.skip rfl rfl rfl ?_
          refine WQ.q (oq_pick_t rfl rfl) rfl rfl rfl ?_
          refine WQ.q (oq_pick_t rfl rfl) rfl rfl rfl ?_
          refine WQ.q (oq_pick_f rfl rfl) rfl rfl rfl ?_
          refine WQ.nil (WE.then_normal (WC.sub (fr' := [(0, _), (3, _), (86, _)]) ?_ ⟨rfl, rfl, rfl, trivial⟩))
          refine WC.cond_t rfl ?_
          refine WC.seq (WC.region ?_)
          refine WL.q (oq_assign rfl) rfl rfl rfl ?_
          refine WL.nil (WE.then_normal (WC.sub (fr' := [(2, _)]) ?_ ⟨rfl, trivial⟩))
          refine WC.ret (WE.block_ret (WE.then_ret (WE.then_ret (WE.block_ret (WE.then_ret ?_)))))
          refine WE.lose ho4 ?_
          refine WE.endR (.inl rfl) (res1 Tryz.results12 rfl) ?_
          exact congrArg Value.bool (all_not hlt (decide_eq_false (by unfold fineV; omega))).symm
         ·
          try simp only [Z1, Z2, Z3, Z4, Z5, Z6, Z7, Z8, Z9, Z0] at s6_61
          refine WQ.q (oq_fieldAddr fld24_2 rfl) rfl rfl rfl ?_
          refine WQ.q (oq_load flat2 rfl (.head _) (List.mem_singleton.2 rfl) rfl) rfl rfl rfl ?_
          refine WQ.q (oq_lss rfl rfl) rfl rfl rfl ?_
          refine WQ.q (oq_pick_f rfl rfl) rfl rfl rfl ?_
          refine WQ.q (oq_pick_t rfl rfl) rfl rfl rfl ?_
          refine WQ.q (oq_pick_f rfl rfl) rfl rfl rfl ?_
          refine WQ.nil (WE.then_normal (WC.sub (fr' := [(0, _), (3, _), (86, _)]) ?_ ⟨rfl, rfl, rfl, trivial⟩))
          refine WC.cond rfl (fun q6 => ?_) (fun q6 => ?_)
          ·
           try simp only [Z1, Z2, Z3, Z4, Z5, Z6, Z7, Z8, Z9, Z0] at q6
           refine WC.seq (WC.region ?_)
           refine WL.q (oq_assign rfl) rfl rfl rfl ?_
           refine WL.nil (WE.then_normal (WC.sub (fr' := [(2, _)]) ?_ ⟨rfl, trivial⟩))
           refine WC.ret (WE.block_ret (WE.then_ret (WE.then_ret (WE.block_ret (WE.then_ret ?_)))))
           refine WE.lose ho4 ?_
           refine WE.endR (.inl rfl) (res1 Tryz.results12 rfl) ?_
           exact congrArg Value.bool (all_not hlt (decide_eq_false (by unfold fineV; omega))).symm
          ·
           try simp only [Z1, Z2, Z3, Z4, Z5, Z6, Z7, Z8, Z9, Z0] at q6
           refine WC.skip (WE.block_normal (WE.then_normal (WC.sub (fr' := [(0, _), (3, _)]) ?_ ⟨rfl, rfl, trivial⟩)))
           refine WC.region ?_
           refine WL.q (oq_move rfl) rfl rfl rfl ?_
           refine WL.q (oq_add rfl rfl (by rw [i64_lo, i64_hi]; (first | omega | (simp only [List.length_cons, List.length_nil, List.length_append, List.length_drop, List.length_take]; omega)))) rfl rfl rfl ?_
           refine WL.q (oq_assign rfl) rfl rfl rfl ?_
           refine WL.nil ?_
           refine WE.lose ho4 ?_
           refine WE.again (i + 1) ?_ ?_ ⟨rfl, rfl, trivial⟩ (List.Perm.refl _)
           ·try dsimp only
            exact ⟨by omega, all_snoc (by omega) hall (decide_eq_true (by unfold fineV; omega))⟩
           ·(try dsimp only); omega
        ·
         try simp only [Z1, Z2, Z3, Z4, Z5, Z6, Z7, Z8, Z9, Z0] at s6_57
         refine WQ.skip rfl rfl rfl ?_
         refine WQ.skip rfl rfl rfl ?_
         refine WQ.skip rfl rfl rfl ?_
         refine WQ.skip rfl rfl rfl ?_
         refine WQ.skip rfl rfl rfl ?_
         refine WQ.skip rfl rfl rfl ?_
         refine WQ.skip rfl rfl rfl ?_
         refine WQ.skip rfl rfl rfl ?_
         refine WQ.q (oq_pick_f rfl rfl) rfl rfl rfl ?_
         refine WQ.q (oq_pick_f rfl rfl) rfl rfl rfl ?_
         refine WQ.nil (WE.then_normal (WC.sub (fr' := [(0, _), (3, _), (86, _)]) ?_ ⟨rfl, rfl, rfl, trivial⟩))
         refine WC.cond_f rfl ?_
         refine WC.skip (WE.block_normal (WE.then_normal (WC.sub (fr' := [(0, _), (3, _)]) ?_ ⟨rfl, rfl, trivial⟩)))
         refine WC.region ?_
         refine WL.q (oq_move rfl) rfl rfl rfl ?_
         refine WL.q (oq_add rfl rfl (by rw [i64_lo, i64_hi]; (first | omega | (simp only [List.length_cons, List.length_nil, List.length_append, List.length_drop, List.length_take]; omega)))) rfl rfl rfl ?_
         refine WL.q (oq_assign rfl) rfl rfl rfl ?_
         refine WL.nil ?_
         refine WE.lose ho4 ?_
         refine WE.again (i + 1) ?_ ?_ ⟨rfl, rfl, trivial⟩ (List.Perm.refl _)
         ·try dsimp only
          exact ⟨by omega, all_snoc (by omega) hall (decide_eq_true (by unfold fineV; omega))⟩
         ·(try dsimp only); omega
      ·
       try simp only [Z1, Z2, Z3, Z4, Z5, Z6, Z7, Z8, Z9, Z0] at s6_46
       refine WQ.skip rfl rfl rfl ?_
       refine WQ.skip rfl rfl rfl ?_
       refine WQ.skip rfl rfl rfl ?_
       refine WQ.skip rfl rfl rfl ?_
       refine WQ.q (oq_pick_f rfl rfl) rfl rfl rfl ?_
       refine WQ.q (oq_pick_f rfl rfl) rfl rfl rfl ?_
       refine WQ.q (oq_move rfl) rfl rfl rfl ?_
       refine WQ.q (oq_fieldAddr fld24_0 rfl) rfl rfl rfl ?_
       refine WQ.q (oq_load flat3 rfl (.head _) (List.mem_singleton.2 rfl) rfl) rfl rfl rfl ?_
       refine WQ.q (oq_eql rfl rfl) rfl rfl rfl ?_
       refine WQ.q (oq_move rfl) rfl rfl rfl ?_
       refine WQ.split 76 rfl (fun s6_57 => ?_) (fun s6_57 => ?_)
       ·
        try simp only [Z1, Z2, Z3, Z4, Z5, Z6, Z7, Z8, Z9, Z0] at s6_57
        refine WQ.q (oq_fieldAddr fld24_2 rfl) rfl rfl rfl ?_
        refine WQ.q (oq_load flat2 rfl (.head _) (List.mem_singleton.2 rfl) rfl) rfl rfl rfl ?_
        refine WQ.q (oq_gtr rfl rfl) rfl rfl rfl ?_
        refine WQ.q (oq_move rfl) rfl rfl rfl ?_
        refine WQ.split 80 rfl (fun s6_61 => ?_) (fun s6_61 => ?_)
        ·
         try simp only [Z1, Z2, Z3, Z4, Z5, Z6, Z7, Z8, Z9, Z0] at s6_61
         refine WQ.skip rfl rfl rfl ?_
         refine WQ.skip rfl rfl rfl ?_
         refine WQ.skip rfl rfl rfl ?_
         refine WQ.q (oq_pick_t rfl rfl) rfl rfl rfl ?_
         refine WQ.q (oq_pick_t rfl rfl) rfl rfl rfl ?_
         refine WQ.q (oq_pick_f rfl rfl) rfl rfl rfl ?_
         refine WQ.nil (WE.then_normal (WC.sub (fr' := [(0, _), (3, _), (86, _)]) ?_ ⟨rfl, rfl, rfl, trivial⟩))
         refine WC.cond_t rfl ?_
         refine WC.seq (WC.region ?_)
         refine WL.q (oq_assign rfl) rfl rfl rfl ?_
         refine WL.nil (WE.then_normal (WC.sub (fr' := [(2, _)]) ?_ ⟨rfl, trivial⟩))
         refine WC.ret (WE.block_ret (WE.then_ret (WE.then_ret (WE.block_ret (WE.then_ret ?_)))))
         refine WE.lose ho4 ?_
         refine WE.endR (.inl rfl) (res1 Tryz.results12 rfl) ?_
         exact congrArg Value.bool (all_not hlt (decide_eq_false (by unfold fineV; omega))).symm
        ·
         try simp only [Z1, Z2, Z3, Z4, Z5, Z6, Z7, Z8, Z9, Z0] at s6_61
         refine WQ.q (oq_fieldAddr fld24_2 rfl) rfl rfl rfl ?_
         refine WQ.q (oq_load flat2 rfl (.head _) (List.mem_singleton.2 rfl) rfl) rfl rfl rfl ?_
         refine WQ.q (oq_lss rfl rfl) rfl rfl rfl ?_
         refine WQ.q (oq_pick_f rfl rfl) rfl rfl rfl ?_
         refine WQ.q (oq_pick_t rfl rfl) rfl rfl rfl ?_
         refine WQ.q (oq_pick_f rfl rfl) rfl rfl rfl ?_
         refine WQ.nil (WE.then_normal (WC.sub (fr' := [(0, _), (3, _), (86, _)]) ?_ ⟨rfl, rfl, rfl, trivial⟩))
         refine WC.cond rfl (fun q6 => ?_) (fun q6 => ?_)
         ·
          try simp only [Z1, Z2, Z3, Z4, Z5, Z6, Z7, Z8, Z9, Z0] at q6
          refine WC.seq (WC.region ?_)
          refine WL.q (oq_assign rfl) rfl rfl rfl ?_
          refine WL.nil (WE.then_normal (WC.sub (fr' := [(2, _)]) ?_ ⟨rfl, trivial⟩))
          refine WC.ret (WE.block_ret (WE.then_ret (WE.then_ret (WE.block_ret (WE.then_ret ?_)))))
          refine WE.lose ho4 ?_
          refine WE.endR (.inl rfl) (res1 Tryz.results12 rfl) ?_
          exact congrArg Value.bool (all_not hlt (decide_eq_false (by unfold fineV; omega))).symm
         ·
          try simp only [Z1, Z2, Z3, Z4, Z5, Z6, Z7, Z8, Z9, Z0] at q6
          refine WC.skip (WE.block_normal (WE.then_normal (WC.sub (fr' := [(0, _), (3, _)]) ?_ ⟨rfl, rfl, trivial⟩)))
          refine WC.region ?_
          refine WL.q (oq_move rfl) rfl rfl rfl ?_
          refine WL.q (oq_add rfl rfl (by rw [i64_lo, i64_hi]; (first | omega | (simp only [List.length_cons, List.length_nil, List.length_append, List.length_drop, List.length_take]; omega)))) rfl rfl rfl ?_
          refine WL.q (oq_assign rfl) rfl rfl rfl ?_
          refine WL.nil ?_
          refine WE.lose ho4 ?_
          refine WE.again (i + 1) ?_ ?_ ⟨rfl, rfl, trivial⟩ (List.Perm.refl _)
          ·try dsimp only
           exact ⟨by omega, all_snoc (by omega) hall (decide_eq_true (by unfold fineV; omega))⟩
          ·(try dsimp only); omega
       ·
        try simp only [Z1, Z2, Z3, Z4, Z5, Z6, Z7, Z8, Z9, Z0] at s6_57
        refine WQ.skip rfl rfl rfl ?_
        refine WQ.skip rfl rfl rfl ?_
        refine WQ.skip rfl rfl rfl ?_
        refine WQ.skip rfl rfl rfl ?_
        refine WQ.skip rfl rfl rfl ?_
        refine WQ.skip rfl rfl rfl ?_
        refine WQ.skip rfl rfl rfl ?_
        refine WQ.skip rfl rfl rfl ?_
        refine WQ.q (oq_pick_f rfl rfl) rfl rfl rfl ?_
        refine WQ.q (oq_pick_f rfl rfl) rfl rfl rfl ?_
        refine WQ.nil (WE.then_normal (WC.sub (fr' := [(0, _), (3, _), (86, _)]) ?_ ⟨rfl, rfl, rfl, trivial⟩))
        refine WC.cond_f rfl ?_
        refine WC.skip (WE.block_normal (WE.then_normal (WC.sub (fr' := [(0, _), (3, _)]) ?_ ⟨rfl, rfl, trivial⟩)))
        refine WC.region ?_
        refine WL.q (oq_move rfl) rfl rfl rfl ?_
        refine WL.q (oq_add rfl rfl (by rw [i64_lo, i64_hi]; (first | omega | (simp only [List.length_cons, List.length_nil, List.length_append, List.length_drop, List.length_take]; omega)))) rfl rfl rfl ?_
        refine WL.q (oq_assign rfl) rfl rfl rfl ?_
        refine WL.nil ?_
        refine WE.lose ho4 ?_
        refine WE.again (i + 1) ?_ ?_ ⟨rfl, rfl, trivial⟩ (List.Perm.refl _)
        ·try dsimp only
         exact ⟨by omega, all_snoc (by omega) hall (decide_eq_true (by unfold fineV; omega))⟩
        ·(try dsimp only); omega
  ·
   try simp only [Z1, Z2, Z3, Z4, Z5, Z6, Z7, Z8, Z9, Z0] at q2
   refine WC.exit (WE.then_exit (WE.then_exit (WE.block_same (WE.then_normal (WC.sub (fr' := []) ?_ trivial)))))
   refine WC.seq (WC.region ?_)
   refine WL.q (oq_assign rfl) rfl rfl rfl ?_
   refine WL.nil (WE.then_normal (WC.sub (fr' := [(2, _)]) ?_ ⟨rfl, trivial⟩))
   refine WC.ret ?_
   refine WE.endR (.inl rfl) (res1 Tryz.results12 rfl) ?_
   obtain rfl : i = l.length := by omega
   rw [List.take_length] at hall
   rw [hall]
end ER
end Go.Proofs.YtodlhaghdplclaaGreatDoor
/- The law: what is written is what the reference tells. -/
namespace Go.Proofs.YtodlhaghdplclaaGreatDoor
open Go Go.RowKit V EA EB EC ED EE EF EG EH EI EJ EK EL EM EN EO EP EQ ER
set_option linter.unusedSimpArgs false
set_option linter.unusedVariables false
set_option maxRecDepth 10000
namespace ES
theorem call26 : Callable Tryz.prog 26 := ⟨_, Tryz.func26, rfl, by kernel_rfl⟩
theorem ty30 : Ty Tryz.prog 30 (.agg #[(.slice none 0 0), (.slice none 0 0)]) 2 48 := ty_of (by kernel_rfl)
theorem str30 : Str Tryz.prog 30 #[(0, 1), (1, 1)] := ⟨_, Tryz.underlying30, fun w => by kernel_rfl⟩
theorem okH0 : okH [] := fun i h => nomatch h
theorem len16 : (msgB [] []).length = 16 := by unfold msgB msg0 crcB; rw [List.length_append, List.length_append, List.length_append, pre12_len, be_len]; rfl
theorem rd0 (s : Nat) : RdS s (.slice none 0 0) [] 0 [] := ⟨by simp, .inl ⟨rfl, _, _, rfl⟩⟩
theorem enc0 : FnA Tryz.prog 26 [.agg #[.slice none 0 0, .slice none 0 0]] [] (fun w N => ∃ sv, w = .tuple #[sv, .bool true] ∧ RdS 1 sv N 16 (bytesV (msgB [] []))) := by
 refine (vEncode (.slice none 0 0) [] [] (rd0 5) okH0 (by simp) (by simp [szL]) none 0 [] (rd0 1) (by simp)).mono ?_
 rintro w N ⟨sv, rfl, h⟩
 refine ⟨sv, rfl, ?_⟩
 have h2 : RdS 1 sv N (msgB [] []).length (bytesV (msgB [] [])) := h
 rw [len16] at h2; exact h2
theorem szL_sum : ∀ l : List HV, szL l = sumH l + 12 * l.length
 | [] => rfl
 | h :: l => by
  have := szL_sum l
  simp only [szL, sumH, List.map_cons, List.sum_cons, List.length_cons, szH] at this ⊢
  omega
theorem sumH_get : ∀ {l : List HV} {i : Nat}, i < l.length → (l.getD i HV0).text.length ≤ sumH l
 | [], _, h => nomatch h
 | h :: l, 0, _ => by simp [sumH]; omega
 | h :: l, i + 1, hi => by
  have := sumH_get (l := l) (i := i) (by simpa using hi)
  have e : sumH (h :: l) = h.name.length + h.text.length + sumH l := by simp [sumH]
  have e2 : (h :: l).getD (i + 1) HV0 = l.getD i HV0 := by simp [List.getD_eq_getElem?_getD]
  rw [e, e2]; omega
theorem fine_ok {l : List HV} (h : l.all fineB = true) (hs : sumH l ≤ 70000) : okH l := fun i hi => by
 have h1 := all_get h hi
 have h2 := sumH_get hi
 exact ⟨of_decide_eq_true h1, by omega⟩
theorem sized_of {l : List HV} {n : Nat} (h : (decide (l.length ≤ 100) && decide (sumH l ≤ 70000) && decide (n ≤ 5000)) = true) : l.length ≤ 100 ∧ sumH l ≤ 70000 ∧ n ≤ 5000 := by
 simp only [Bool.and_eq_true, decide_eq_true_eq] at h; exact ⟨h.1.1, h.1.2, h.2⟩
theorem vAwake  : Fn0 Tryz.prog 14 [] (.bool true) := by
 refine Fn0.enter (n := 14) Tryz.func14 rfl rfl fun w0 => ?_
 refine WC.sub (fr' := []) ?_ trivial
 refine WC.seq (WC.region ?_)
 refine WL.q (oq_assign rfl) rfl rfl rfl ?_
 refine WL.nil (WE.then_normal (WC.sub (fr' := []) ?_ trivial))
 refine WC.seq (WC.region ?_)
 refine WL.q (oq_build #[_, _] str30 ty30 rfl rfl) rfl rfl rfl ?_
 refine WL.callA0 (enc0) call26 rfl rfl rfl fun v1_1 N1_1 hR1_1 hN1_1 => ?_
 obtain ⟨sv, rfl, hsv⟩ := hR1_1
 refine WL.q (oq_move rfl) rfl rfl rfl ?_
 refine WL.q (oq_extract rfl rfl) rfl rfl rfl ?_
 refine WL.q (oq_extract rfl rfl) rfl rfl rfl ?_
 refine WL.q (oq_assign rfl) rfl rfl rfl ?_
 refine WL.q (oq_assign rfl) rfl rfl rfl ?_
 refine WL.nil (WE.then_normal (WC.sub (fr' := [(1, _), (2, _)]) ?_ ⟨rfl, rfl, trivial⟩))
 refine WC.seq (WC.region ?_)
 refine WL.q (oq_move rfl) rfl rfl rfl ?_
 refine WL.q (oq_move rfl) rfl rfl rfl ?_
 refine WL.q (oq_move rfl) rfl rfl rfl ?_
 refine WL.q (oq_len_rd hsv Tryz.underlying28 rfl) rfl rfl rfl ?_
 refine WL.q (oq_eql rfl rfl) rfl rfl rfl ?_
 refine WL.q (oq_pick_t rfl rfl) rfl rfl rfl ?_
 refine WL.q (oq_assign rfl) rfl rfl rfl ?_
 refine WL.nil (WE.then_normal (WC.sub (fr' := [(0, _)]) ?_ ⟨rfl, trivial⟩))
 refine WC.ret ?_
 refine WE.forget hN1_1 ?_
 refine WE.end0 (.inl rfl) (res1 Tryz.results14 rfl) ?_
 rfl
end ES
end Go.Proofs.YtodlhaghdplclaaGreatDoor
/- Plain words: the sum tells a byte that is another one; what is written is read again. -/
namespace Go.Proofs.YtodlhaghdplclaaGreatDoor
open Go V EI EJ EK EM DA
set_option linter.unusedSimpArgs false
set_option linter.unusedVariables false
namespace DB
/-! ### The sum -/
/-! ### What is written is read -/
def can (h : HV) : Prop := (h.kind = 0 → h.width = 0 ∧ h.text = [] ∧ (h.int = 0 ∨ h.int = 1)) ∧ (h.kind = 1 → h.text = []) ∧ ((h.kind = 2 ∨ h.kind = 3 ∨ h.kind = 5) → h.width = 0 ∧ h.int = 0) ∧ (h.kind = 4 → h.width = 0 ∧ h.text = [])
theorem be_take (w : Nat) (x : Int) (t : List UInt8) : (be w x ++ t).take w = be w x := List.take_left' (be_len w x)
theorem be_drop (w : Nat) (x : Int) (t : List UInt8) : (be w x ++ t).drop w = t := List.drop_left' (be_len w x)
theorem wrap_back {k : IntKind} {w : Nat} {x : Int} (hb : k.bits = 8 * w) (h : k.min ≤ x ∧ x ≤ k.max) : k.wrap (nm (be w x)) = x := by
 have h1 : k.wrap ((nm (be w x) : Nat) : Int) = k.wrap x := by
  rw [nm_be, ← hb]
  unfold IntKind.wrap
  rw [Int.emod_emod_of_dvd _ (Int.dvd_refl _)]
 rw [h1, wrap_in h]
theorem vInt_be {w : Nat} {ik : IntKind} {x : Int} {t : List UInt8} (hb : ik.bits = 8 * w) (h : ik.min ≤ x ∧ x ≤ ik.max) : vInt w ik (be w x ++ t) = .ok 1 (8 * w) x [] t := by
 unfold vInt
 rw [if_neg (by rw [List.length_append, be_len]; omega), be_take, be_drop, wrap_back hb h]
theorem vTxt_be {k : Int} {x t : List UInt8} (h : x.length ≤ 32767) : vTxt k (be 2 x.length ++ x ++ t) = .ok k 0 0 x t := by
 have hn : nm (be 2 (x.length : Int)) = x.length := by have := nm_be 2 (x.length : Int); omega
 unfold vTxt
 rw [List.append_assoc, if_neg (by rw [List.length_append, be_len]; omega), be_take, be_drop, hn, if_neg (by rw [List.length_append]; omega), List.take_left' rfl, List.drop_left' rfl]
theorem val_enc {h : HV} (hf : fineV h) (hi : -9223372036854775808 ≤ h.int ∧ h.int ≤ 9223372036854775807) (hc : can h) (hb : badT h = false) (t : List UInt8) : ∃ k r, enc h = k :: r ∧ val k (r ++ t) = .ok h.kind h.width h.int h.text t := by
 obtain ⟨hk0, hk5, h1, h5, h4⟩ := hf
 obtain ⟨c0, c1, c2, c4⟩ := hc
 have hbt : (h.kind = 2 ∨ h.kind = 3) → h.text.length ≤ 32767 := fun hk => by
  unfold badT at hb
  by_cases ht : 32767 < h.text.length
  ·rcases hk with hk | hk <;> simp [hk, ht] at hb
  ·omega
 rcases (show h.kind = 0 ∨ h.kind = 1 ∨ h.kind = 2 ∨ h.kind = 3 ∨ h.kind = 4 ∨ h.kind = 5 by omega) with hk | hk | hk | hk | hk | hk
 ·obtain ⟨e1, e2, e3⟩ := c0 hk
  refine ⟨_, [], by unfold enc; simp only [hk]; rfl, ?_⟩
  rcases e3 with e3 | e3 <;> (rw [e3, e1, e2, hk]; rfl)
 ·have e2 := c1 hk
  rw [enc_1 hk]
  refine ⟨_, _, rfl, ?_⟩
  rcases h1 hk with ⟨hw, hl, hu⟩ | ⟨hw, hl, hu⟩ | ⟨hw, hl, hu⟩ | hw <;> rw [hw, hk, e2]
  ·exact vInt_be (w := 1) (ik := .i8) rfl (by rw [i8_lo, i8_hi]; exact ⟨hl, hu⟩)
  ·exact vInt_be (w := 2) (ik := .i16) rfl (by rw [i16_lo, i16_hi]; exact ⟨hl, hu⟩)
  ·exact vInt_be (w := 4) (ik := .i32) rfl (by rw [i32_lo, i32_hi]; exact ⟨hl, hu⟩)
  ·exact vInt_be (w := 8) (ik := .i64) rfl (by rw [i64_lo, i64_hi]; exact hi)
 ·obtain ⟨e1, e2⟩ := c2 (.inl hk)
  refine ⟨6, be 2 h.text.length ++ h.text, by unfold enc; simp only [hk]; rfl, ?_⟩
  rw [e1, e2, hk]; exact vTxt_be (hbt (.inl hk))
 ·obtain ⟨e1, e2⟩ := c2 (.inr (.inl hk))
  refine ⟨7, be 2 h.text.length ++ h.text, by unfold enc; simp only [hk]; rfl, ?_⟩
  rw [e1, e2, hk]; exact vTxt_be (hbt (.inr hk))
 ·obtain ⟨e1, e2⟩ := c4 hk
  refine ⟨8, be 8 h.int, by unfold enc; simp only [hk]; rfl, ?_⟩
  rw [e1, e2, hk]
  show (if (be 8 h.int ++ t).length < 8 then VR.short else .ok 4 0 (IntKind.i64.wrap (nm ((be 8 h.int ++ t).take 8))) [] ((be 8 h.int ++ t).drop 8)) = _
  rw [if_neg (by rw [List.length_append, be_len]; omega), be_take, be_drop, wrap_back (k := .i64) rfl (by rw [i64_lo, i64_hi]; exact hi)]
 ·obtain ⟨e1, e2⟩ := c2 (.inr (.inr hk))
  have hl := h5 hk
  refine ⟨9, h.text, by unfold enc; simp only [hk]; rfl, ?_⟩
  rw [e1, e2, hk]
  show (if (h.text ++ t).length < 16 then VR.short else .ok 5 0 0 ((h.text ++ t).take 16) ((h.text ++ t).drop 16)) = _
  rw [if_neg (by rw [List.length_append]; omega), List.take_left' hl, List.drop_left' hl]
theorem tk_hdr {h : HV} (hf : fineV h) (hi : -9223372036854775808 ≤ h.int ∧ h.int ≤ 9223372036854775807) (hc : can h) (hb : badH h = false) (t : List UInt8) (acc : List HV) : tk (hdr h ++ t) acc = tk t (put acc h) := by
 have hb1 : h.name.length ≤ 255 ∧ badT h = false := by
  unfold badH at hb; rw [Bool.or_eq_false_iff, decide_eq_false_iff_not] at hb; exact ⟨by omega, hb.2⟩
 obtain ⟨k, r, he, hv⟩ := val_enc hf hi hc hb1.2 t
 have hn8 : (UInt8.ofNat h.name.length).toNat = h.name.length := by rw [UInt8.toNat_ofNat']; omega
 have e : hdr h ++ t = UInt8.ofNat h.name.length :: (h.name ++ k :: (r ++ t)) := by unfold hdr; rw [he]; simp
 rw [e, tk_val (by rw [hn8, List.length_append, List.length_cons]; omega), hn8]
 have e1 : (h.name ++ k :: (r ++ t)).getD h.name.length 0 = k := by simp [List.getD_eq_getElem?_getD]
 have e2 : (h.name ++ k :: (r ++ t)).drop (h.name.length + 1) = r ++ t := by
  rw [← List.drop_drop, List.drop_left' rfl]; rfl
 rw [e1, e2, hv, List.take_left' rfl]
theorem put_new : ∀ (acc : List HV) (h : HV), (∀ x ∈ acc, x.name ≠ h.name) → put acc h = acc ++ [h]
 | [], _, _ => rfl
 | x :: l, h, hx => by
  unfold put
  rw [if_neg (hx x List.mem_cons_self), put_new l h fun y hy => hx y (List.mem_cons_of_mem _ hy)]; rfl
structure Back (l : List HV) : Prop where
 fine : ∀ h ∈ l, fineV h ∧ (-9223372036854775808 ≤ h.int ∧ h.int ≤ 9223372036854775807) ∧ can h
 unlike : l.Pairwise fun a b => a.name ≠ b.name
theorem tk_hdrs : ∀ (l acc : List HV) (t : List UInt8), Back l → l.any badH = false → (∀ x ∈ acc, ∀ h ∈ l, x.name ≠ h.name) → tk (hdrs l ++ t) acc = tk t (acc ++ l)
 | [], acc, t, _, _, _ => by simp [hdrs]
 | h :: l, acc, t, hB, hb, hx => by
  rw [List.any_cons, Bool.or_eq_false_iff] at hb
  obtain ⟨hf, hi, hc⟩ := hB.fine h List.mem_cons_self
  have hp := List.pairwise_cons.1 hB.unlike
  show tk (hdr h ++ hdrs l ++ t) acc = _
  rw [List.append_assoc, tk_hdr hf hi hc hb.1, put_new acc h fun x hxx => hx x hxx h List.mem_cons_self]
  rw [tk_hdrs l (acc ++ [h]) t ⟨fun y hy => hB.fine y (List.mem_cons_of_mem _ hy), hp.2⟩ hb.2, List.append_assoc]; rfl
  intro x hxx y hy
  rcases List.mem_append.1 hxx with h1 | h1
  ·exact hx x h1 y (List.mem_cons_of_mem _ hy)
  ·rw [List.mem_singleton] at h1; subst h1; exact hp.1 y hy
structure Parts (b t4 h4 c4 hd pl s4 beh : List UInt8) : Prop where
 is : b = t4 ++ (h4 ++ (c4 ++ (hd ++ (pl ++ (s4 ++ beh)))))
 l1 : t4.length = 4
 l2 : h4.length = 4
 l3 : c4.length = 4
 l4 : s4.length = 4
 tot : nm t4 = 16 + hd.length + pl.length
 hed : nm h4 = hd.length
section
variable {b t4 h4 c4 hd pl s4 beh : List UInt8}
theorem Parts.totl (p : Parts b t4 h4 c4 hd pl s4 beh) : totl b = 16 + hd.length + pl.length := by
 unfold DA.totl; rw [p.is, List.take_left' p.l1, p.tot]
theorem Parts.head (p : Parts b t4 h4 c4 hd pl s4 beh) : head b = hd.length := by
 unfold DA.head; rw [p.is, List.drop_left' p.l1, List.take_left' p.l2, p.hed]
theorem Parts.take8 (p : Parts b t4 h4 c4 hd pl s4 beh) : b.take 8 = t4 ++ h4 := by
 rw [p.is, ← List.append_assoc, List.take_left' (by rw [List.length_append, p.l1, p.l2])]
theorem Parts.drop8 (p : Parts b t4 h4 c4 hd pl s4 beh) : (b.drop 8).take 4 = c4 := by
 rw [p.is, ← List.append_assoc, List.drop_left' (by rw [List.length_append, p.l1, p.l2]), List.take_left' p.l3]
theorem Parts.drop12 (p : Parts b t4 h4 c4 hd pl s4 beh) : b.drop 12 = hd ++ (pl ++ (s4 ++ beh)) := by
 rw [p.is, ← List.append_assoc, ← List.append_assoc, List.drop_left' (by simp [p.l1, p.l2, p.l3])]
theorem Parts.hdE (p : Parts b t4 h4 c4 hd pl s4 beh) : (b.drop 12).take (DA.head b) = hd := by
 rw [p.head, p.drop12, List.take_left' rfl]
theorem Parts.all (p : Parts b t4 h4 c4 hd pl s4 beh) : b.take (DA.totl b - 4) = t4 ++ (h4 ++ (c4 ++ (hd ++ pl))) := by
 have e : b = (t4 ++ (h4 ++ (c4 ++ (hd ++ pl)))) ++ (s4 ++ beh) := by rw [p.is]; simp
 rw [p.totl]
 conv => lhs; rw [e]
 rw [List.take_left' (by simp only [List.length_append, p.l1, p.l2, p.l3]; omega)]
theorem Parts.sum (p : Parts b t4 h4 c4 hd pl s4 beh) : (b.drop (DA.totl b - 4)).take 4 = s4 := by
 have e : b = (t4 ++ (h4 ++ (c4 ++ (hd ++ pl)))) ++ (s4 ++ beh) := by rw [p.is]; simp
 rw [p.totl]
 conv => lhs; rw [e]
 rw [List.drop_left' (by simp only [List.length_append, p.l1, p.l2, p.l3]; omega), List.take_left' p.l4]
theorem Parts.plE (p : Parts b t4 h4 c4 hd pl s4 beh) : (b.drop (12 + DA.head b)).take (DA.totl b - 16 - DA.head b) = pl := by
 rw [p.head, p.totl, ← List.drop_drop, p.drop12, List.drop_left' rfl, List.take_left' (by omega)]
theorem Parts.len (p : Parts b t4 h4 c4 hd pl s4 beh) : b.length = 16 + hd.length + pl.length + beh.length := by
 rw [p.is]; simp only [List.length_append, p.l1, p.l2, p.l3, p.l4]; omega
end
theorem nm_crcB (l : List UInt8) : nm (crcB l) = (crc l).toNat := by
 have h1 := nm_be 4 ((crc l).toNat : Int)
 have h2 := (crc l).isLt
 unfold crcB
 omega
theorem msg_parts (l : List HV) (data beh : List UInt8) (h : 16 + (hdrs l).length + data.length < 4294967296) :
  Parts (msgB l data ++ beh) (be 4 (16 + ((hdrs l).length : Int) + (data.length : Int))) (be 4 ((hdrs l).length : Int)) (crcB (pre8 (hdrs l).length data.length)) (hdrs l) data (crcB (msg0 l data)) beh := by
 have h1 := nm_be 4 (16 + ((hdrs l).length : Int) + (data.length : Int))
 have h2 := nm_be 4 ((hdrs l).length : Int)
 refine ⟨by unfold msgB msg0 pre12 pre8; simp, be_len _ _, be_len _ _, be_len _ _, be_len _ _, by omega, by omega⟩
theorem dec_msg {l : List HV} {data beh : List UInt8} (hB : Back l) (hb : l.any badH = false) (h : 16 + (hdrs l).length + data.length < 4294967296) : dec (msgB l data ++ beh) = (0, l, data, (msgB l data).length) := by
 have p := msg_parts l data beh h
 have p0 := (msg_parts l data [] h).len
 rw [List.append_nil] at p0
 have hl := p.len
 unfold dec
 rw [if_neg (fun e => by rw [e] at hl; simp at hl; omega), if_neg (by omega), if_neg (by rw [p.totl]; omega), if_neg (by omega), if_neg (by
  unfold sumOk; rw [p.take8, p.drop8, nm_crcB]; simp [pre8]), p.hdE]
 have ht : tk (hdrs l) [] = .ok l := by
  have := tk_hdrs l [] [] hB hb (fun x hx => nomatch hx)
  rw [List.append_nil, tk_nil, List.nil_append] at this
  exact this
 rw [ht]
 show tailR (msgB l data ++ beh) l = _
 unfold tailR
 rw [if_neg (by rw [p.totl]; omega), p.all, p.sum, nm_crcB, if_neg (by unfold msg0 pre12 pre8; simp), p.plE, p.totl, p0]
 simp
/-! ### A byte that is another one -/
end DB
end Go.Proofs.YtodlhaghdplclaaGreatDoor
/- Headers that are the same, headers that are read as they were. -/
namespace Go.Proofs.YtodlhaghdplclaaGreatDoor
open Go Go.RowKit V EI EJ EO DB
set_option linter.unusedSimpArgs false
set_option linter.unusedVariables false
set_option maxRecDepth 10000
namespace DP
instance decHV : DecidableEq HV := fun ⟨n, k, w, i, t⟩ ⟨n', k', w', i', t'⟩ => decidable_of_iff (n = n' ∧ k = k' ∧ w = w' ∧ i = i' ∧ t = t') (by simp)
section
variable {P : Program} {w : World}
theorem eqF_cons {d : Nat} {xs ys : Array Value} {f : Field} {fs : List Field} {a b : Value} {r s : Bool} (hn : f.name ≠ "_") (h1 : (part f.type xs f.offset).run P w = .ok a w) (h2 : (part f.type ys f.offset).run P w = .ok b w) (h3 : (Op.equalIn d f.type a b).run P w = .ok r w) (h4 : (Op.eqFields d xs ys fs).run P w = .ok s w) : (Op.eqFields d xs ys (f :: fs)).run P w = .ok (r && s) w := by
 unfold Op.eqFields
 rw [if_pos hn]
 simp only [Sem.run_bind, h1, h2, h3, Result.andThen_ok]
 cases r
 ·simp
 ·simpa using h4
theorem eqF_nil {d : Nat} {xs ys : Array Value} : (Op.eqFields d xs ys []).run P w = .ok true w := by simp [Op.eqFields]
theorem part_flat {t : TypeId} {cs : Array Value} {off : Nat} {v : Value} (h : Flat P t) (hv : cs[off]? = some v) : (part t cs off).run P w = .ok v w := by
 obtain ⟨d, hd, hn⟩ := h
 unfold part isAgg
 cases d <;> simp_all [run_underlying hd]
theorem part_agg {t : TypeId} {cs vs : Array Value} {off size bytes : Nat} {z : Value} (h : Agg P t) (hty : Ty P t z size bytes) (hv : cs.extract off (off + size) = vs) : (part t cs off).run P w = .ok (.agg vs) w := by
 unfold part
 rw [Sem.run_bind, h w]
 simp [run_size hty, hv]
end
theorem flI : Flat Tryz.prog 3 := ⟨_, Tryz.underlying3, by simp⟩
theorem flJ : Flat Tryz.prog 2 := ⟨_, Tryz.underlying2, by simp⟩
theorem flS : Flat Tryz.prog 9 := ⟨_, Tryz.underlying9, by simp⟩
theorem aggV : Agg Tryz.prog 24 := agg_of Tryz.underlying24
theorem tyV : Ty Tryz.prog 24 (.agg #[I 0, I 0, I 0, S []]) 4 40 := ty_of (by kernel_rfl)
theorem eq_str (a b : List UInt8) : ((⟨⟨a⟩⟩ : ByteArray).toList == (⟨⟨b⟩⟩ : ByteArray).toList) = decide (a = b) := by
 rw [S_toList, S_toList, Bool.eq_iff_iff]; simp
theorem eqVal (d : Nat) (w : World) (a b : HV) : (Op.equalIn (d + 2) 24 (.agg #[I a.kind, I a.width, I a.int, S a.text]) (.agg #[I b.kind, I b.width, I b.int, S b.text])).run Tryz.prog w = .ok ((a.kind == b.kind) && ((a.width == b.width) && ((a.int == b.int) && (decide (a.text = b.text) && true)))) w := by
 have hS : Tryz.prog.underlying 24 = some (.struct (Tryz.prog.fieldsOf 24)) := by kernel_rfl
 have hp : Tryz.prog.stoodInHeld 24 = false := by kernel_rfl
 rw [show d + 2 = d + 1 + 1 from rfl, run_equalIn_struct w (d + 1) _ _ _ hS hp]
 unfold Program.fieldsOf
 rw [Tryz.underlying24]
 refine eqF_cons (by decide) (part_flat flI rfl) (part_flat flI rfl) (run_equalIn_int w d 3 .i64 .i64 _ _ Tryz.underlying3) ?_
 refine eqF_cons (by decide) (part_flat flI rfl) (part_flat flI rfl) (run_equalIn_int w d 3 .i64 .i64 _ _ Tryz.underlying3) ?_
 refine eqF_cons (by decide) (part_flat flJ rfl) (part_flat flJ rfl) (run_equalIn_int w d 2 .i64 .i64 _ _ Tryz.underlying2) ?_
 refine eqF_cons (by decide) (part_flat flS rfl) (part_flat flS rfl) ?_ eqF_nil
 rw [← eq_str]
 exact run_equalIn_string w d 9 _ _ Tryz.underlying9
theorem eqHdr (d : Nat) (w : World) (a b : HV) : (Op.equalIn (d + 3) 32 (.agg #[S a.name, I a.kind, I a.width, I a.int, S a.text]) (.agg #[S b.name, I b.kind, I b.width, I b.int, S b.text])).run Tryz.prog w = .ok (decide (a = b)) w := by
 have hS : Tryz.prog.underlying 32 = some (.struct (Tryz.prog.fieldsOf 32)) := by kernel_rfl
 have hp : Tryz.prog.stoodInHeld 32 = false := by kernel_rfl
 have hb : decide (a = b) = (decide (a.name = b.name) && (((a.kind == b.kind) && ((a.width == b.width) && ((a.int == b.int) && (decide (a.text = b.text) && true)))) && true)) := by
  obtain ⟨n, k, x, i, t⟩ := a
  obtain ⟨n', k', x', i', t'⟩ := b
  rw [Bool.eq_iff_iff]
  simp
 rw [hb, show d + 3 = d + 2 + 1 from rfl, run_equalIn_struct w (d + 2) _ _ _ hS hp]
 unfold Program.fieldsOf
 rw [Tryz.underlying32]
 refine eqF_cons (by decide) (part_flat flS rfl) (part_flat flS rfl) ?_ ?_
 ·rw [← eq_str]
  exact run_equalIn_string w (d + 1) 9 _ _ Tryz.underlying9
 ·exact eqF_cons (by decide) (part_agg aggV tyV rfl) (part_agg aggV tyV rfl) (eqVal d w a b) eqF_nil
section
variable {n : Nat} {w0 : World} {ds : List Deferred} {fr : Fr} {H : List Hp} {dst : Option Tmp} {ty t' : TypeId} {pos : String} {aft : Array Edge} {g : Option (Nat × Bool)} {x y : Operand} {a b : HV}
theorem oq_neHV (hx : ev fr x = some (.agg #[S a.name, I a.kind, I a.width, I a.int, S a.text])) (hy : ev fr y = some (.agg #[S b.name, I b.kind, I b.width, I b.int, S b.text])) : OV Tryz.prog n w0 ⟨dst, .binOp .neq 32 x y t', ty, pos, aft, g⟩ (.bool (!decide (a = b))) ds fr H :=
 oq_of_run fun c w hf _ => by
  have hg : Tryz.prog.eqGuardType Tryz.prog.depth 32 = false := by kernel_rfl
  simp only [execOp, hf.eval hx, hf.eval hy, Sem.run_bind, run_eqGuard_agg w .neq 32 x y _ _ hg, Result.andThen_ok, run_neq_struct, eqHdr 9997 w a b, Sem.run_pure]
theorem oq_neVV (hx : ev fr x = some (.agg #[I a.kind, I a.width, I a.int, S a.text])) (hy : ev fr y = some (.agg #[I b.kind, I b.width, I b.int, S b.text])) : OV Tryz.prog n w0 ⟨dst, .binOp .neq 24 x y t', ty, pos, aft, g⟩ (.bool (!((a.kind == b.kind) && ((a.width == b.width) && ((a.int == b.int) && (decide (a.text = b.text) && true)))))) ds fr H :=
 oq_of_run fun c w hf _ => by
  have hg : Tryz.prog.eqGuardType Tryz.prog.depth 24 = false := by kernel_rfl
  simp only [execOp, hf.eval hx, hf.eval hy, Sem.run_bind, run_eqGuard_agg w .neq 24 x y _ _ hg, Result.andThen_ok, run_neq_struct, eqVal 9998 w a b, Sem.run_pure]
end
theorem oq_callRall {P : Program} {n : Nat} {w0 : World} {ds : List Deferred} {fr : Fr} {H : List Hp} {dst : Option Tmp} {ty : TypeId} {pos : String} {aft : Array Edge} {g : Option (Nat × Bool)} {f : FuncId} {xs : Array Operand} {ts : Array TypeId} {args : List Value} {v : Value} (hc : FnR P f args H.flatten v) (hf : Callable P f) (ha : evs fr xs.toList = some args) : OQ P n w0 ⟨dst, .call ⟨.value (.func f), xs, ts⟩, ty, pos, aft, g⟩ v ds fr H := by
 intro a hfit w hw
 unfold Oper.quietAt
 rw [run_enter hf ha hfit w]
 exact ⟨rfl, (hc.pure ⟨hw.now, hw.nodup⟩).mono fun e w' h => ⟨h.1, hw.pure h.2⟩⟩
theorem rd_flat {s m : Nat} {v : Value} {A : Hp} {H : List Hp} {xs : List Value} (h : RdS s v A m xs) (hA : A ∈ H) : RdS s v H.flatten m xs := h.weaken fun x hx => mem_flat hA hx
theorem and1_mod (x : Int) (h : -9223372036854775808 ≤ x ∧ x ≤ 9223372036854775807) : bitOp .and .i64 x 1 = x % 2 := by
 unfold bitOp
 have e : (BitVec.ofInt IntKind.i64.bits x &&& BitVec.ofInt IntKind.i64.bits 1).toNat = (x % 2).toNat := by
  rw [BitVec.toNat_and]
  have h1 : (BitVec.ofInt IntKind.i64.bits 1).toNat = 1 := by decide
  have h2 : (BitVec.ofInt IntKind.i64.bits x).toNat = (x % 18446744073709551616).toNat := by
   show (BitVec.ofInt 64 x).toNat = _
   rw [BitVec.toNat_ofInt]; rfl
  rw [h1, h2, Nat.and_one_is_mod]
  omega
 simp only [e]
 have : ((x % 2).toNat : Int) = x % 2 := by omega
 rw [this, wrap_in (by rw [i64_lo, i64_hi]; omega)]
def canV (h : HV) : Prop := if h.kind = 0 then h.width = 0 ∧ h.int % 2 = h.int ∧ h.text = [] else if h.kind = 1 then h.text = [] else if h.kind = 4 then h.width = 0 ∧ h.text = [] else h.width = 0 ∧ h.int = 0
instance (h : HV) : Decidable (canV h) := by unfold canV; infer_instance
theorem can_of {h : HV} (hc : canV h) : can h := by
 unfold canV at hc
 by_cases h0 : h.kind = 0
 ·rw [if_pos h0] at hc
  exact ⟨fun _ => ⟨hc.1, hc.2.2, by omega⟩, fun h => by omega, fun h => by omega, fun h => by omega⟩
 rw [if_neg h0] at hc
 by_cases h1 : h.kind = 1
 ·rw [if_pos h1] at hc
  exact ⟨fun h => by omega, fun _ => hc, fun h => by omega, fun h => by omega⟩
 rw [if_neg h1] at hc
 by_cases h4 : h.kind = 4
 ·rw [if_pos h4] at hc
  exact ⟨fun h => by omega, fun h => by omega, fun h => by omega, fun _ => hc⟩
 rw [if_neg h4] at hc
 exact ⟨fun h => by omega, fun h => by omega, fun _ => hc, fun h => by omega⟩
def UnL (l : List HV) : Prop := ∀ i, i < l.length → (∀ k, k < i → (l.getD k HV0).name ≠ (l.getD i HV0).name) ∧ canV (l.getD i HV0)
theorem unl_pair : ∀ {l : List HV}, UnL l → l.Pairwise fun a b => a.name ≠ b.name := fun {l} h => by
 rw [List.pairwise_iff_getElem]
 intro i j hi hj hij
 have := (h j hj).1 i hij
 simpa [List.getD_eq_getElem?_getD, hi, hj] using this
theorem unl_can {l : List HV} (h : UnL l) : ∀ x ∈ l, can x := fun x hx => by
 obtain ⟨i, hi, rfl⟩ := List.getElem_of_mem hx
 have := (h i hi).2
 rw [List.getD_eq_getElem?_getD, List.getElem?_eq_getElem hi] at this
 exact can_of this
theorem take_eq {l1 l2 : List HV} {i : Nat} (h1 : i < l1.length) (h2 : i < l2.length) (h : l1.take i = l2.take i) (he : l1.getD i HV0 = l2.getD i HV0) : l1.take (i + 1) = l2.take (i + 1) := by
 rw [take_snoc h1, take_snoc h2, h, he]
theorem ne_getD {l1 l2 : List HV} {i : Nat} (he : ¬ l1.getD i HV0 = l2.getD i HV0) : l1 ≠ l2 := fun e => he (by rw [e])
end DP
end Go.Proofs.YtodlhaghdplclaaGreatDoor
/- The law: a spoilt message is not read. -/
namespace Go.Proofs.YtodlhaghdplclaaGreatDoor
open Go Go.RowKit V EA EB EC ED EL DC DD DA DE EE EH EI EJ DF DG DH DI EM DJ DK DL DM DB EF EG EK EN EO ER ES
set_option linter.unusedSimpArgs false
set_option linter.unusedVariables false
set_option maxRecDepth 10000
namespace DO
theorem call11 : Callable Tryz.prog 11 := ⟨_, Tryz.func11, rfl, by kernel_rfl⟩
theorem call12 : Callable Tryz.prog 12 := ⟨_, Tryz.func12, rfl, by kernel_rfl⟩
theorem call14 : Callable Tryz.prog 14 := ⟨_, Tryz.func14, rfl, by kernel_rfl⟩
theorem call25 : Callable Tryz.prog 25 := ⟨_, Tryz.func25, rfl, by kernel_rfl⟩
theorem call26 : Callable Tryz.prog 26 := ⟨_, Tryz.func26, rfl, by kernel_rfl⟩
theorem call27 : Callable Tryz.prog 27 := ⟨_, Tryz.func27, rfl, by kernel_rfl⟩
theorem call31 : Callable Tryz.prog 31 := ⟨_, Tryz.func31, rfl, by kernel_rfl⟩
theorem call47 : Callable Tryz.prog 47 := ⟨_, Tryz.func47, rfl, by kernel_rfl⟩
theorem call48 : Callable Tryz.prog 48 := ⟨_, Tryz.func48, rfl, by kernel_rfl⟩
theorem call49 : Callable Tryz.prog 49 := ⟨_, Tryz.func49, rfl, by kernel_rfl⟩
theorem flat5 : Flat Tryz.prog 5 := ⟨_, Tryz.underlying5, by simp⟩
theorem flat22 : Flat Tryz.prog 22 := ⟨_, Tryz.underlying22, by simp⟩
theorem flat28 : Flat Tryz.prog 28 := ⟨_, Tryz.underlying28, by simp⟩
theorem ty5 : Ty Tryz.prog 5 (.int .u8 0) 1 1 := ty_of (by kernel_rfl)
theorem ty22 : Ty Tryz.prog 22 (.slice none 0 0) 1 24 := ty_of (by kernel_rfl)
theorem ty28 : Ty Tryz.prog 28 (.slice none 0 0) 1 24 := ty_of (by kernel_rfl)
theorem ty30 : Ty Tryz.prog 30 (.agg #[(.slice none 0 0), (.slice none 0 0)]) 2 48 := ty_of (by kernel_rfl)
theorem ty79 : Ty Tryz.prog 79 (.agg #[(.slice none 0 0), (.int .i64 0), (.int .i8 0)]) 3 40 := ty_of (by kernel_rfl)
theorem ty109 : Ty Tryz.prog 109 (.agg #[(.slice none 0 0), (.slice none 0 0)]) 2 48 := ty_of (by kernel_rfl)
theorem conc107 : Conc Tryz.prog 107 := ⟨_, Tryz.underlying107, by simp⟩
theorem agg30 : Agg Tryz.prog 30 := agg_of Tryz.underlying30
theorem str109 : Str Tryz.prog 109 #[(0, 1), (1, 1)] := ⟨_, Tryz.underlying109, fun w => by kernel_rfl⟩
theorem fld30_0 : Fld Tryz.prog 30 0 0 22 := fld_of Tryz.underlying30 rfl rfl rfl ty22 (by decide)
theorem fld30_1 : Fld Tryz.prog 30 1 1 28 := fld_of Tryz.underlying30 rfl rfl rfl ty28 (by decide)
theorem msgB_pos (l : List HV) (data : List UInt8) : (msgB l data).length = 16 + (hdrs l).length + data.length := by
 unfold msgB msg0 crcB; rw [List.length_append, List.length_append, List.length_append, pre12_len, be_len]; omega
end DO
end Go.Proofs.YtodlhaghdplclaaGreatDoor
/- Headers that are the same, headers as they are read. -/
namespace Go.Proofs.YtodlhaghdplclaaGreatDoor
open Go Go.RowKit V EA EB EC ED EL DC DD DA DE EE EH EI EJ DF DG DH DI EM DJ DK DL DM DB EF EG EK EN EO ER ES DP
set_option linter.unusedSimpArgs false
set_option linter.unusedVariables false
set_option maxRecDepth 10000
namespace DQ
theorem flat2 : Flat Tryz.prog 2 := ⟨_, Tryz.underlying2, by simp⟩
theorem flat3 : Flat Tryz.prog 3 := ⟨_, Tryz.underlying3, by simp⟩
theorem flat9 : Flat Tryz.prog 9 := ⟨_, Tryz.underlying9, by simp⟩
theorem ty2 : Ty Tryz.prog 2 (.int .i64 0) 1 8 := ty_of (by kernel_rfl)
theorem ty3 : Ty Tryz.prog 3 (.int .i64 0) 1 8 := ty_of (by kernel_rfl)
theorem ty9 : Ty Tryz.prog 9 (S []) 1 16 := ty_of (by kernel_rfl)
theorem ty24 : Ty Tryz.prog 24 (.agg #[(.int .i64 0), (.int .i64 0), (.int .i64 0), (S [])]) 4 40 := ty_of (by kernel_rfl)
theorem ty32 : Ty Tryz.prog 32 (.agg #[(S []), (.int .i64 0), (.int .i64 0), (.int .i64 0), (S [])]) 5 56 := ty_of (by kernel_rfl)
theorem agg24 : Agg Tryz.prog 24 := agg_of Tryz.underlying24
theorem agg32 : Agg Tryz.prog 32 := agg_of Tryz.underlying32
theorem str24 : Str Tryz.prog 24 #[(0, 1), (1, 1), (2, 1), (3, 1)] := ⟨_, Tryz.underlying24, fun w => by kernel_rfl⟩
theorem fld24_0 : Fld Tryz.prog 24 0 0 3 := fld_of Tryz.underlying24 rfl rfl rfl ty3 (by decide)
theorem fld24_1 : Fld Tryz.prog 24 1 1 3 := fld_of Tryz.underlying24 rfl rfl rfl ty3 (by decide)
theorem fld24_2 : Fld Tryz.prog 24 2 2 2 := fld_of Tryz.underlying24 rfl rfl rfl ty2 (by decide)
theorem fld24_3 : Fld Tryz.prog 24 3 3 9 := fld_of Tryz.underlying24 rfl rfl rfl ty9 (by decide)
theorem fld32_0 : Fld Tryz.prog 32 0 0 9 := fld_of Tryz.underlying32 rfl rfl rfl ty9 (by decide)
theorem fld32_1 : Fld Tryz.prog 32 1 1 24 := fld_of Tryz.underlying32 rfl rfl rfl ty24 (by decide)
def canC (h : HV) (cw ci : Int) (ct : List UInt8) : Prop := if h.kind = 0 then cw = 0 ∧ ci = h.int % 2 ∧ ct = [] else if h.kind = 1 then cw = h.width ∧ ci = h.int ∧ ct = [] else if h.kind = 4 then cw = 0 ∧ ci = h.int ∧ ct = [] else cw = 0 ∧ ci = 0 ∧ ct = h.text
theorem can_iff {h : HV} {cw ci : Int} {ct : List UInt8} (hc : canC h cw ci ct) : canV h ↔ (h.width = cw ∧ h.int = ci ∧ h.text = ct) := by
 unfold canC at hc
 unfold canV
 by_cases h0 : h.kind = 0
 ·rw [if_pos h0] at hc ⊢; obtain ⟨rfl, rfl, rfl⟩ := hc; constructor <;> (rintro ⟨a, b, c⟩; exact ⟨a, b.symm, c⟩)
 rw [if_neg h0] at hc ⊢
 by_cases h1 : h.kind = 1
 ·rw [if_pos h1] at hc ⊢; obtain ⟨rfl, rfl, rfl⟩ := hc; exact ⟨fun h => ⟨rfl, rfl, h⟩, fun h => h.2.2⟩
 rw [if_neg h1] at hc ⊢
 by_cases h4 : h.kind = 4
 ·rw [if_pos h4] at hc ⊢; obtain ⟨rfl, rfl, rfl⟩ := hc; exact ⟨fun h => ⟨h.1, rfl, h.2⟩, fun h => ⟨h.1, h.2.2⟩⟩
 rw [if_neg h4] at hc ⊢; obtain ⟨rfl, rfl, rfl⟩ := hc; exact ⟨fun h => ⟨h.1, h.2, rfl⟩, fun h => ⟨h.1, h.2.1⟩⟩
theorem can_ok {h : HV} {cw ci : Int} {ct : List UInt8} (hc : canC h cw ci ct) (he : (h.width = cw ∧ h.int = ci ∧ h.text = ct)) : canV h := (can_iff hc).2 he
theorem can_no {h : HV} {cw ci : Int} {ct : List UInt8} (hc : canC h cw ci ct) (hv : canV h) (he : ¬ (h.width = cw ∧ h.int = ci ∧ h.text = ct)) : False := he ((can_iff hc).1 hv)
theorem unl_step {l : List HV} {i : Nat} (h : ∀ j, j < i → (∀ k, k < j → (l.getD k HV0).name ≠ (l.getD j HV0).name) ∧ canV (l.getD j HV0)) (h1 : ∀ m, m < i → (l.getD m HV0).name ≠ (l.getD i HV0).name) (h2 : canV (l.getD i HV0)) : ∀ j, j < i + 1 → (∀ k, k < j → (l.getD k HV0).name ≠ (l.getD j HV0).name) ∧ canV (l.getD j HV0) := fun j hj => by
 rcases Nat.lt_or_ge j i with h3 | h3
 ·exact h j h3
 ·rw [show j = i by omega]; exact ⟨h1, h2⟩
instance (l : List HV) : Decidable (UnL l) := decidable_of_iff (∀ i, i < l.length → (∀ k, k < i → (l.getD k HV0).name ≠ (l.getD i HV0).name) ∧ canV (l.getD i HV0)) Iff.rfl
theorem vSame (v1 v2 : Value) (A : Hp) (l1 l2 : List HV) (hr1 : RdS 5 v1 A l1.length (recsV HV.row l1)) (hr2 : RdS 5 v2 A l2.length (recsV HV.row l2)) (hn : l1.length ≤ 1000000) : FnR Tryz.prog 17 [v1, v2] A (.bool (decide (l1 = l2))) := by
 refine FnR.enter (n := 26) Tryz.func17 rfl rfl fun w0 => ?_
 refine WC.sub (fr' := [(0, _), (1, _)]) ?_ ⟨rfl, rfl, trivial⟩
 refine WC.seq (WC.region ?_)
 refine WL.q (oq_assign rfl) rfl rfl rfl ?_
 refine WL.nil (WE.then_normal (WC.sub (fr' := [(0, _), (1, _)]) ?_ ⟨rfl, rfl, trivial⟩))
 refine WC.seq (WC.seq (WC.region ?_))
 refine WL.q (oq_move rfl) rfl rfl rfl ?_
 refine WL.q (oq_len_rd hr1 Tryz.underlying22 rfl) rfl rfl rfl ?_
 refine WL.q (oq_move rfl) rfl rfl rfl ?_
 refine WL.q (oq_len_rd hr2 Tryz.underlying22 rfl) rfl rfl rfl ?_
 refine WL.q (oq_neq rfl rfl) rfl rfl rfl ?_
 refine WL.nil (WE.then_normal (WC.sub (fr' := [(0, _), (1, _), (10, _)]) ?_ ⟨rfl, rfl, rfl, trivial⟩))
 refine WC.cond rfl (fun q1 => ?_) (fun q1 => ?_)
 ·
  try simp only [Z1, Z2, Z3, Z4, Z5, Z6, Z7, Z8, Z9, Z0] at q1
  refine WC.seq (WC.region ?_)
  refine WL.q (oq_assign rfl) rfl rfl rfl ?_
  refine WL.nil (WE.then_normal (WC.sub (fr' := [(4, _)]) ?_ ⟨rfl, trivial⟩))
  refine WC.ret (WE.then_ret ?_)
  refine WE.endR (.inl rfl) (res1 Tryz.results17 rfl) ?_
  rw [decide_eq_false (fun e => by rw [e] at q1; exact q1 rfl)]
 ·
  try simp only [Z1, Z2, Z3, Z4, Z5, Z6, Z7, Z8, Z9, Z0] at q1
  refine WC.skip (WE.then_normal (WC.sub (fr' := [(0, _), (1, _)]) ?_ ⟨rfl, rfl, trivial⟩))
  refine WC.seq (WC.seq (WC.region ?_))
  refine WL.q (oq_assign rfl) rfl rfl rfl ?_
  refine WL.nil (WE.then_normal (WC.sub (fr' := [(0, _), (1, _), (5, _)]) ?_ ⟨rfl, rfl, rfl, trivial⟩))
  refine WC.block ?_
  refine WC.loop (ι := Nat) (fun (i : Nat) => [(0, v1), (1, v2), (5, I (i : Int))]) (fun (i : Nat) => [A]) (fun (i : Nat) => i ≤ l1.length ∧ l1.take i = l2.take i) (fun (i : Nat) => l1.length - i) (0) ?_ ⟨rfl, rfl, rfl, trivial⟩ (List.Perm.refl _) ?_
  ·try dsimp only
   exact ⟨by omega, rfl⟩
  ·rintro i hp
   try dsimp only at hp
   obtain ⟨hi, ht⟩ := hp
   show WC _ _ _ _ _ _ ([(0, v1), (1, v2), (5, I (i : Int))]) ([A])
   refine WC.seq (WC.seq (WC.region ?_))
   refine WL.q (oq_move rfl) rfl rfl rfl ?_
   refine WL.q (oq_move rfl) rfl rfl rfl ?_
   refine WL.q (oq_len_rd hr1 Tryz.underlying22 rfl) rfl rfl rfl ?_
   refine WL.q (oq_lss rfl rfl) rfl rfl rfl ?_
   refine WL.nil (WE.then_normal (WC.sub (fr' := [(0, _), (1, _), (5, _), (14, _)]) ?_ ⟨rfl, rfl, rfl, rfl, trivial⟩))
   refine WC.cond rfl (fun q4 => ?_) (fun q4 => ?_)
   ·
    try simp only [Z1, Z2, Z3, Z4, Z5, Z6, Z7, Z8, Z9, Z0] at q4
    refine WC.skip (WE.then_normal (WC.sub (fr' := [(0, _), (1, _), (5, _)]) ?_ ⟨rfl, rfl, rfl, trivial⟩))
    refine WC.seq (WC.block (WC.seq (WC.quiet (by kernel_rfl) (by kernel_rfl) ?_)))
    refine WQ.q (oq_move rfl) rfl rfl rfl ?_
    refine WQ.q (oq_move rfl) rfl rfl rfl ?_
    refine WQ.q (oq_ixaddr hr1 Tryz.underlying22 ty32 rfl rfl (by (first | omega | (simp only [List.length_cons, List.length_nil, List.length_append, List.length_drop, List.length_take]; omega)))) rfl rfl rfl ?_
    refine WQ.q (oq_loadEl (f := HV.row) HV0 [_, _, _, _, _] (fun _ => rfl) agg32 ty32 hr1 (.head _) rfl (by (first | omega | (simp only [List.length_cons, List.length_nil, List.length_append, List.length_drop, List.length_take]; omega))) (by first | exact Int.toNat_natCast _ | exact rfl) rfl) rfl rfl rfl ?_
    refine WQ.q (oq_move rfl) rfl rfl rfl ?_
    refine WQ.q (oq_move rfl) rfl rfl rfl ?_
    refine WQ.q (oq_ixaddr hr2 Tryz.underlying22 ty32 rfl rfl (by (first | omega | (simp only [List.length_cons, List.length_nil, List.length_append, List.length_drop, List.length_take]; omega)))) rfl rfl rfl ?_
    refine WQ.q (oq_loadEl (f := HV.row) HV0 [_, _, _, _, _] (fun _ => rfl) agg32 ty32 hr2 (.head _) rfl (by (first | omega | (simp only [List.length_cons, List.length_nil, List.length_append, List.length_drop, List.length_take]; omega))) (by first | exact Int.toNat_natCast _ | exact rfl) rfl) rfl rfl rfl ?_
    refine WQ.q (oq_neHV (a := l1.getD i HV0) (b := l2.getD i HV0) rfl rfl) rfl rfl rfl ?_
    refine WQ.nil (WE.then_normal (WC.sub (fr' := [(0, _), (1, _), (5, _), (25, _)]) ?_ ⟨rfl, rfl, rfl, rfl, trivial⟩))
    refine WC.cond rfl (fun q6 => ?_) (fun q6 => ?_)
    ·
     try simp only [Z1, Z2, Z3, Z4, Z5, Z6, Z7, Z8, Z9, Z0] at q6
     refine WC.seq (WC.region ?_)
     refine WL.q (oq_assign rfl) rfl rfl rfl ?_
     refine WL.nil (WE.then_normal (WC.sub (fr' := [(4, _)]) ?_ ⟨rfl, trivial⟩))
     refine WC.ret (WE.block_ret (WE.then_ret (WE.then_ret (WE.block_ret (WE.then_ret ?_)))))
     refine WE.endR (.inl rfl) (res1 Tryz.results17 rfl) ?_
     rw [decide_eq_false (ne_getD (by simpa using q6))]
    ·
     try simp only [Z1, Z2, Z3, Z4, Z5, Z6, Z7, Z8, Z9, Z0] at q6
     refine WC.skip (WE.block_normal (WE.then_normal (WC.sub (fr' := [(0, _), (1, _), (5, _)]) ?_ ⟨rfl, rfl, rfl, trivial⟩)))
     refine WC.region ?_
     refine WL.q (oq_move rfl) rfl rfl rfl ?_
     refine WL.q (oq_add rfl rfl (by rw [i64_lo, i64_hi]; (first | omega | (simp only [List.length_cons, List.length_nil, List.length_append, List.length_drop, List.length_take]; omega)))) rfl rfl rfl ?_
     refine WL.q (oq_assign rfl) rfl rfl rfl ?_
     refine WL.nil ?_
     refine WE.again (i + 1) ?_ ?_ ⟨rfl, rfl, rfl, trivial⟩ (List.Perm.refl _)
     ·try dsimp only
      exact ⟨by omega, take_eq (by omega) (by omega) ht (by simpa using q6)⟩
     ·(try dsimp only); omega
   ·
    try simp only [Z1, Z2, Z3, Z4, Z5, Z6, Z7, Z8, Z9, Z0] at q4
    refine WC.exit (WE.then_exit (WE.then_exit (WE.block_same (WE.then_normal (WC.sub (fr' := []) ?_ trivial)))))
    refine WC.seq (WC.region ?_)
    refine WL.q (oq_assign rfl) rfl rfl rfl ?_
    refine WL.nil (WE.then_normal (WC.sub (fr' := [(4, _)]) ?_ ⟨rfl, trivial⟩))
    refine WC.ret ?_
    refine WE.endR (.inl rfl) (res1 Tryz.results17 rfl) ?_
    obtain rfl : i = l1.length := by omega
    rw [List.take_length, List.take_of_length_le (by omega)] at ht
    rw [decide_eq_true ht]
theorem vUnlike (v : Value) (A : Hp) (l : List HV) (hr : RdS 5 v A l.length (recsV HV.row l)) (hint : intOk l) (hn : l.length ≤ 1000) : FnR Tryz.prog 13 [v] A (.bool (decide (UnL l))) := by
 refine FnR.enter (n := 64) Tryz.func13 rfl rfl fun w0 => ?_
 refine WC.sub (fr' := [(0, _)]) ?_ ⟨rfl, trivial⟩
 refine WC.seq (WC.region ?_)
 refine WL.q (oq_assign rfl) rfl rfl rfl ?_
 refine WL.nil (WE.then_normal (WC.sub (fr' := [(0, _)]) ?_ ⟨rfl, trivial⟩))
 refine WC.seq (WC.seq (WC.region ?_))
 refine WL.q (oq_assign rfl) rfl rfl rfl ?_
 refine WL.nil (WE.then_normal (WC.sub (fr' := [(0, _), (3, _)]) ?_ ⟨rfl, rfl, trivial⟩))
 refine WC.block ?_
 refine WC.loop (ι := Nat) (fun (i : Nat) => [(0, v), (3, I (i : Int))]) (fun (i : Nat) => [A]) (fun (i : Nat) => i ≤ l.length ∧ ∀ j, j < i → (∀ k, k < j → (l.getD k HV0).name ≠ (l.getD j HV0).name) ∧ canV (l.getD j HV0)) (fun (i : Nat) => l.length - i) (0) ?_ ⟨rfl, rfl, trivial⟩ (List.Perm.refl _) ?_
 ·try dsimp only
  exact ⟨by omega, fun j h => (by omega)⟩
 ·rintro i hp
  try dsimp only at hp
  obtain ⟨hi, hall⟩ := hp
  show WC _ _ _ _ _ _ ([(0, v), (3, I (i : Int))]) ([A])
  refine WC.seq (WC.seq (WC.region ?_))
  refine WL.q (oq_move rfl) rfl rfl rfl ?_
  refine WL.q (oq_move rfl) rfl rfl rfl ?_
  refine WL.q (oq_len_rd hr Tryz.underlying22 rfl) rfl rfl rfl ?_
  refine WL.q (oq_lss rfl rfl) rfl rfl rfl ?_
  refine WL.nil (WE.then_normal (WC.sub (fr' := [(0, _), (3, _), (10, _)]) ?_ ⟨rfl, rfl, rfl, trivial⟩))
  refine WC.cond rfl (fun q2 => ?_) (fun q2 => ?_)
  ·
   try simp only [Z1, Z2, Z3, Z4, Z5, Z6, Z7, Z8, Z9, Z0] at q2
   refine WC.skip (WE.then_normal (WC.sub (fr' := [(0, _), (3, _)]) ?_ ⟨rfl, rfl, trivial⟩))
   refine WC.seq (WC.block (WC.seq (WC.seq ?_)))
   have hlt : i < l.length := by omega
   have hii := hint i hlt
   refine WC.region ?_
   refine WL.q (oq_assign rfl) rfl rfl rfl ?_
   refine WL.nil (WE.then_normal (WC.sub (fr' := [(0, _), (3, _), (4, _)]) ?_ ⟨rfl, rfl, rfl, trivial⟩))
   refine WC.block ?_
   refine WC.loop (ι := Nat) (fun (k : Nat) => [(0, v), (3, I (i : Int)), (4, I (k : Int))]) (fun (k : Nat) => [A]) (fun (k : Nat) => k ≤ i ∧ ∀ m, m < k → (l.getD m HV0).name ≠ (l.getD i HV0).name) (fun (k : Nat) => i - k) (0) ?_ ⟨rfl, rfl, rfl, trivial⟩ (List.Perm.refl _) ?_
   ·try dsimp only
    exact ⟨by omega, fun m h => (by omega)⟩
   ·rintro k hp
    try dsimp only at hp
    obtain ⟨hk, hks⟩ := hp
    show WC _ _ _ _ _ _ ([(0, v), (3, I (i : Int)), (4, I (k : Int))]) ([A])
    refine WC.seq (WC.seq (WC.region ?_))
    refine WL.q (oq_move rfl) rfl rfl rfl ?_
    refine WL.q (oq_move rfl) rfl rfl rfl ?_
    refine WL.q (oq_lss rfl rfl) rfl rfl rfl ?_
    refine WL.nil (WE.then_normal (WC.sub (fr' := [(0, _), (3, _), (4, _), (15, _)]) ?_ ⟨rfl, rfl, rfl, rfl, trivial⟩))
    refine WC.cond rfl (fun q5 => ?_) (fun q5 => ?_)
    ·
     try simp only [Z1, Z2, Z3, Z4, Z5, Z6, Z7, Z8, Z9, Z0] at q5
     refine WC.skip (WE.then_normal (WC.sub (fr' := [(0, _), (3, _), (4, _)]) ?_ ⟨rfl, rfl, rfl, trivial⟩))
     refine WC.seq (WC.block (WC.seq (WC.quiet (by kernel_rfl) (by kernel_rfl) ?_)))
     refine WQ.q (oq_move rfl) rfl rfl rfl ?_
     refine WQ.q (oq_move rfl) rfl rfl rfl ?_
     refine WQ.q (oq_ixaddr hr Tryz.underlying22 ty32 rfl rfl (by (first | omega | (simp only [List.length_cons, List.length_nil, List.length_append, List.length_drop, List.length_take]; omega)))) rfl rfl rfl ?_
     refine WQ.q (oq_fldEl fld32_0 hr rfl (by (first | omega | (simp only [List.length_cons, List.length_nil, List.length_append, List.length_drop, List.length_take]; omega)))) rfl rfl rfl ?_
     refine WQ.q (oq_loadF (f := HV.row) HV0 (fun _ => rfl) flat9 hr (.head _) rfl (by (first | omega | (simp only [List.length_cons, List.length_nil, List.length_append, List.length_drop, List.length_take]; omega))) (by first | exact Int.toNat_natCast _ | exact rfl) (by decide) rfl) rfl rfl rfl ?_
     refine WQ.q (oq_move rfl) rfl rfl rfl ?_
     refine WQ.q (oq_move rfl) rfl rfl rfl ?_
     refine WQ.q (oq_ixaddr hr Tryz.underlying22 ty32 rfl rfl (by (first | omega | (simp only [List.length_cons, List.length_nil, List.length_append, List.length_drop, List.length_take]; omega)))) rfl rfl rfl ?_
     refine WQ.q (oq_fldEl fld32_0 hr rfl (by (first | omega | (simp only [List.length_cons, List.length_nil, List.length_append, List.length_drop, List.length_take]; omega)))) rfl rfl rfl ?_
     refine WQ.q (oq_loadF (f := HV.row) HV0 (fun _ => rfl) flat9 hr (.head _) rfl (by (first | omega | (simp only [List.length_cons, List.length_nil, List.length_append, List.length_drop, List.length_take]; omega))) (by first | exact Int.toNat_natCast _ | exact rfl) (by decide) rfl) rfl rfl rfl ?_
     refine WQ.q (oq_seql rfl rfl) rfl rfl rfl ?_
     refine WQ.nil (WE.then_normal (WC.sub (fr' := [(0, _), (3, _), (4, _), (28, _)]) ?_ ⟨rfl, rfl, rfl, rfl, trivial⟩))
     refine WC.cond rfl (fun q7 => ?_) (fun q7 => ?_)
     ·
      try simp only [Z1, Z2, Z3, Z4, Z5, Z6, Z7, Z8, Z9, Z0] at q7
      refine WC.seq (WC.region ?_)
      refine WL.q (oq_assign rfl) rfl rfl rfl ?_
      refine WL.nil (WE.then_normal (WC.sub (fr' := [(2, _)]) ?_ ⟨rfl, trivial⟩))
      refine WC.ret (WE.block_ret (WE.then_ret (WE.then_ret (WE.block_ret (WE.then_ret (WE.block_ret (WE.then_ret (WE.then_ret (WE.block_ret (WE.then_ret ?_))))))))))
      refine WE.endR (.inl rfl) (res1 Tryz.results13 rfl) ?_
      rw [decide_eq_false (fun h => (h i hlt).1 k (by omega) (by simpa using q7))]
     ·
      try simp only [Z1, Z2, Z3, Z4, Z5, Z6, Z7, Z8, Z9, Z0] at q7
      refine WC.skip (WE.block_normal (WE.then_normal (WC.sub (fr' := [(0, _), (3, _), (4, _)]) ?_ ⟨rfl, rfl, rfl, trivial⟩)))
      refine WC.region ?_
      refine WL.q (oq_move rfl) rfl rfl rfl ?_
      refine WL.q (oq_add rfl rfl (by rw [i64_lo, i64_hi]; (first | omega | (simp only [List.length_cons, List.length_nil, List.length_append, List.length_drop, List.length_take]; omega)))) rfl rfl rfl ?_
      refine WL.q (oq_assign rfl) rfl rfl rfl ?_
      refine WL.nil ?_
      refine WE.again (k + 1) ?_ ?_ ⟨rfl, rfl, rfl, trivial⟩ (List.Perm.refl _)
      ·try dsimp only
       refine ⟨by omega, fun m hm => ?_⟩
       rcases Nat.lt_or_ge m k with h | h
       ·exact hks m h
       ·rw [show m = k by omega]; simpa using q7
      ·(try dsimp only); omega
    ·
     try simp only [Z1, Z2, Z3, Z4, Z5, Z6, Z7, Z8, Z9, Z0] at q5
     refine WC.exit (WE.then_exit (WE.then_exit (WE.block_same (WE.then_normal (WC.sub (fr' := [(0, _), (3, _)]) ?_ ⟨rfl, rfl, trivial⟩)))))
     refine WC.seq ?_
     obtain rfl : i = k := by omega
     refine WC.region ?_
     refine WL.q (oq_move rfl) rfl rfl rfl ?_
     refine WL.q (oq_move rfl) rfl rfl rfl ?_
     refine WL.q (oq_ixaddr hr Tryz.underlying22 ty32 rfl rfl (by (first | omega | (simp only [List.length_cons, List.length_nil, List.length_append, List.length_drop, List.length_take]; omega)))) rfl rfl rfl ?_
     refine WL.q (oq_fldEl fld32_1 hr rfl (by (first | omega | (simp only [List.length_cons, List.length_nil, List.length_append, List.length_drop, List.length_take]; omega)))) rfl rfl rfl ?_
     refine WL.q (oq_loadFS (f := HV.row) HV0 [_, _, _, _] (fun _ => rfl) agg24 ty24 hr (.head _) rfl (by (first | omega | (simp only [List.length_cons, List.length_nil, List.length_append, List.length_drop, List.length_take]; omega))) (by first | exact Int.toNat_natCast _ | exact rfl) (by decide) rfl rfl) rfl rfl rfl ?_
     refine WL.alloc ty24 rfl rfl fun v4 hv4 => ?_
     refine WL.storeS #[_, _, _, _] ty24 rfl rfl rfl rfl (Nat.le_of_ble_eq_true rfl) rfl rfl ?_
     refine WL.nil (WE.then_normal (WC.sub (fr' := [(0, _), (3, _), (5, _)]) ?_ ⟨rfl, rfl, rfl, trivial⟩))
     refine WC.seq (WC.region ?_)
     refine WL.q (oq_fieldAddr fld24_0 rfl) rfl rfl rfl ?_
     refine WL.q (oq_load flat3 rfl (.head _) (List.mem_singleton.2 rfl) rfl) rfl rfl rfl ?_
     refine WL.q (oq_build #[_, _, _, _] str24 ty24 rfl rfl) rfl rfl rfl ?_
     refine WL.alloc ty24 rfl rfl fun w4 hw4 => ?_
     refine WL.storeS #[_, _, _, _] ty24 rfl rfl rfl rfl (Nat.le_of_ble_eq_true rfl) rfl rfl ?_
     refine WL.nil (WE.then_normal (WC.sub (fr' := [(0, _), (3, _), (5, _), (6, _)]) ?_ ⟨rfl, rfl, rfl, rfl, trivial⟩))
     refine WC.cut (ι := Int × Int × (List UInt8)) (fun i_ => (fun (cw : Int) (ci : Int) (ct : List UInt8) => [(0, v), (3, I (i : Int)), (5, Pt v4 0), (6, Pt w4 0)]) i_.1 i_.2.1 i_.2.2) (fun i_ => (fun (cw : Int) (ci : Int) (ct : List UInt8) => [[(v4, .cells #[I (l.getD i HV0).kind, I (l.getD i HV0).width, I (l.getD i HV0).int, S (l.getD i HV0).text] 24 (0, 0))], [(w4, .cells #[I (l.getD i HV0).kind, I cw, I ci, S ct] 24 (0, 0))], A]) i_.1 i_.2.1 i_.2.2) (fun i_ => (fun (cw : Int) (ci : Int) (ct : List UInt8) => canC (l.getD i HV0) cw ci ct ∧ True) i_.1 i_.2.1 i_.2.2) ?_ ?_
     ·
      refine WC.seq (WC.region ?_)
      refine WL.q (oq_fieldAddr fld24_0 rfl) rfl rfl rfl ?_
      refine WL.q (oq_load flat3 rfl (.tail _ (.head _)) (List.mem_singleton.2 rfl) rfl) rfl rfl rfl ?_
      refine WL.nil (WE.then_normal (WC.sub (fr' := [(0, _), (3, _), (5, _), (6, _), (38, _)]) ?_ ⟨rfl, rfl, rfl, rfl, rfl, trivial⟩))
      refine WC.block (WC.seq (WC.region ?_))
      refine WL.q (oq_eql rfl rfl) rfl rfl rfl ?_
      refine WL.q (oq_assign rfl) rfl rfl rfl ?_
      refine WL.nil (WE.then_normal (WC.sub (fr' := [(0, _), (3, _), (5, _), (6, _), (38, _), (42, _)]) ?_ ⟨rfl, rfl, rfl, rfl, rfl, rfl, trivial⟩))
      refine WC.cond rfl (fun q13 => ?_) (fun q13 => ?_)
      ·
       try simp only [Z1, Z2, Z3, Z4, Z5, Z6, Z7, Z8, Z9, Z0] at q13
       refine WC.region ?_
       refine WL.q (oq_fieldAddr fld24_2 rfl) rfl rfl rfl ?_
       refine WL.q (oq_load flat2 rfl (.tail _ (.head _)) (List.mem_singleton.2 rfl) rfl) rfl rfl rfl ?_
       refine WL.q (oq_bits (op := .and) rfl rfl (by simp)) rfl rfl rfl ?_
       refine WL.q (oq_fieldAddr fld24_2 rfl) rfl rfl rfl ?_
       refine WL.store1 #[_, _, _, _] ty2 rfl rfl (by first | rfl | exact OwS.one one_) (Nat.lt_of_lt_of_le (Nat.lt_succ_self _) (Nat.le_of_ble_eq_true rfl)) rfl rfl ?_
       refine WL.nil (WE.block_normal ?_)
       refine WE.f2 ?_
       refine WE.f1 ?_
       refine WE.f2 ?_
       refine WE.meet (_, _, _) ?_ ⟨rfl, rfl, rfl, rfl, trivial⟩ (List.Perm.refl _)
       try dsimp only
       exact ⟨by unfold canC; first | (rw [if_pos (by omega)]; exact ⟨rfl, and1_mod _ ⟨hii.1, hii.2.1⟩, rfl⟩) | (rw [if_neg (by omega), if_pos (by omega)]; exact ⟨rfl, rfl, rfl⟩) | (rw [if_neg (by omega), if_neg (by omega), if_pos (by omega)]; exact ⟨rfl, rfl, rfl⟩) | (rw [if_neg (by omega), if_neg (by omega), if_neg (by omega)]; exact ⟨rfl, rfl, rfl⟩), trivial⟩
      ·
       try simp only [Z1, Z2, Z3, Z4, Z5, Z6, Z7, Z8, Z9, Z0] at q13
       refine WC.seq (WC.region ?_)
       refine WL.q (oq_eql rfl rfl) rfl rfl rfl ?_
       refine WL.q (oq_assign rfl) rfl rfl rfl ?_
       refine WL.nil (WE.then_normal (WC.sub (fr' := [(0, _), (3, _), (5, _), (6, _), (38, _), (48, _)]) ?_ ⟨rfl, rfl, rfl, rfl, rfl, rfl, trivial⟩))
       refine WC.cond rfl (fun q15 => ?_) (fun q15 => ?_)
       ·
        try simp only [Z1, Z2, Z3, Z4, Z5, Z6, Z7, Z8, Z9, Z0] at q15
        refine WC.held ([(v4, .cells #[I (l.getD i HV0).kind, I (l.getD i HV0).width, I (l.getD i HV0).int, S (l.getD i HV0).text] 24 (0, 0))]) (by kernel_rfl) ?_
        refine WH.q 0 rfl (.tail _ (.head _)) (fun w0 => oq_fieldAddr fld24_1 rfl) rfl rfl rfl ?_
        refine WH.q 1 rfl (.tail _ (.head _)) (fun w0 => oq_load flat3 rfl (.head _) (List.mem_singleton.2 rfl) rfl) rfl rfl rfl ?_
        refine WH.q 2 rfl (.tail _ (.head _)) (fun w0 => oq_fieldAddr fld24_2 rfl) rfl rfl rfl ?_
        refine WH.q 3 rfl (.tail _ (.head _)) (fun w0 => oq_load flat2 rfl (.head _) (List.mem_singleton.2 rfl) rfl) rfl rfl rfl ?_
        refine WH.q 4 rfl (.tail _ (.head _)) (fun w0 => oq_fieldAddr fld24_1 rfl) rfl rfl rfl ?_
        refine WH.step (i := 5) (by kernel_rfl) rfl ?_
        refine WL.store1 #[_, _, _, _] ty3 rfl rfl (by first | rfl | exact OwS.one one_) (Nat.lt_of_lt_of_le (Nat.lt_succ_self _) (Nat.le_of_ble_eq_true rfl)) rfl rfl ?_
        refine WL.nil ?_
        refine WE.toH (.tail _ (.head _)) ?_
        refine WH.q 6 rfl (.tail _ (.head _)) (fun w0 => oq_fieldAddr fld24_2 rfl) rfl rfl rfl ?_
        refine WH.step (i := 7) (by kernel_rfl) rfl ?_
        refine WL.store1 #[_, _, _, _] ty2 rfl rfl (by first | rfl | exact OwS.one one_) (Nat.lt_of_lt_of_le (Nat.lt_succ_self _) (Nat.le_of_ble_eq_true rfl)) rfl rfl ?_
        refine WL.nil ?_
        refine WE.toH (.tail _ (.head _)) ?_
        refine WH.done (by kernel_rfl) ?_
        refine WE.block_normal ?_
        refine WE.f2 ?_
        refine WE.f1 ?_
        refine WE.f2 ?_
        refine WE.meet (_, _, _) ?_ ⟨rfl, rfl, rfl, rfl, trivial⟩ (List.Perm.refl _)
        try dsimp only
        exact ⟨by unfold canC; first | (rw [if_pos (by omega)]; exact ⟨rfl, and1_mod _ ⟨hii.1, hii.2.1⟩, rfl⟩) | (rw [if_neg (by omega), if_pos (by omega)]; exact ⟨rfl, rfl, rfl⟩) | (rw [if_neg (by omega), if_neg (by omega), if_pos (by omega)]; exact ⟨rfl, rfl, rfl⟩) | (rw [if_neg (by omega), if_neg (by omega), if_neg (by omega)]; exact ⟨rfl, rfl, rfl⟩), trivial⟩
       ·
        try simp only [Z1, Z2, Z3, Z4, Z5, Z6, Z7, Z8, Z9, Z0] at q15
        refine WC.seq (WC.region ?_)
        refine WL.q (oq_eql rfl rfl) rfl rfl rfl ?_
        refine WL.q (oq_assign rfl) rfl rfl rfl ?_
        refine WL.nil (WE.then_normal (WC.sub (fr' := [(0, _), (3, _), (5, _), (6, _), (56, _)]) ?_ ⟨rfl, rfl, rfl, rfl, rfl, trivial⟩))
        refine WC.cond rfl (fun q17 => ?_) (fun q17 => ?_)
        ·
         try simp only [Z1, Z2, Z3, Z4, Z5, Z6, Z7, Z8, Z9, Z0] at q17
         refine WC.region ?_
         refine WL.q (oq_fieldAddr fld24_2 rfl) rfl rfl rfl ?_
         refine WL.q (oq_load flat2 rfl (.tail _ (.head _)) (List.mem_singleton.2 rfl) rfl) rfl rfl rfl ?_
         refine WL.q (oq_fieldAddr fld24_2 rfl) rfl rfl rfl ?_
         refine WL.store1 #[_, _, _, _] ty2 rfl rfl (by first | rfl | exact OwS.one one_) (Nat.lt_of_lt_of_le (Nat.lt_succ_self _) (Nat.le_of_ble_eq_true rfl)) rfl rfl ?_
         refine WL.nil (WE.block_normal ?_)
         refine WE.f2 ?_
         refine WE.f1 ?_
         refine WE.f2 ?_
         refine WE.meet (_, _, _) ?_ ⟨rfl, rfl, rfl, rfl, trivial⟩ (List.Perm.refl _)
         try dsimp only
         exact ⟨by unfold canC; first | (rw [if_pos (by omega)]; exact ⟨rfl, and1_mod _ ⟨hii.1, hii.2.1⟩, rfl⟩) | (rw [if_neg (by omega), if_pos (by omega)]; exact ⟨rfl, rfl, rfl⟩) | (rw [if_neg (by omega), if_neg (by omega), if_pos (by omega)]; exact ⟨rfl, rfl, rfl⟩) | (rw [if_neg (by omega), if_neg (by omega), if_neg (by omega)]; exact ⟨rfl, rfl, rfl⟩), trivial⟩
        ·
         try simp only [Z1, Z2, Z3, Z4, Z5, Z6, Z7, Z8, Z9, Z0] at q17
         refine WC.region ?_
         refine WL.q (oq_fieldAddr fld24_3 rfl) rfl rfl rfl ?_
         refine WL.q (oq_load flat9 rfl (.tail _ (.head _)) (List.mem_singleton.2 rfl) rfl) rfl rfl rfl ?_
         refine WL.q (oq_fieldAddr fld24_3 rfl) rfl rfl rfl ?_
         refine WL.store1 #[_, _, _, _] ty9 rfl rfl (by first | rfl | exact OwS.one one_) (Nat.lt_of_lt_of_le (Nat.lt_succ_self _) (Nat.le_of_ble_eq_true rfl)) rfl rfl ?_
         refine WL.nil (WE.block_normal ?_)
         refine WE.f2 ?_
         refine WE.f1 ?_
         refine WE.f2 ?_
         refine WE.meet (_, _, _) ?_ ⟨rfl, rfl, rfl, rfl, trivial⟩ (List.Perm.refl _)
         try dsimp only
         exact ⟨by unfold canC; first | (rw [if_pos (by omega)]; exact ⟨rfl, and1_mod _ ⟨hii.1, hii.2.1⟩, rfl⟩) | (rw [if_neg (by omega), if_pos (by omega)]; exact ⟨rfl, rfl, rfl⟩) | (rw [if_neg (by omega), if_neg (by omega), if_pos (by omega)]; exact ⟨rfl, rfl, rfl⟩) | (rw [if_neg (by omega), if_neg (by omega), if_neg (by omega)]; exact ⟨rfl, rfl, rfl⟩), trivial⟩
     ·rintro ⟨cw, ci, ct⟩ hp
      try dsimp only at hp
      obtain ⟨hcc, _⟩ := hp
      show WC _ _ _ _ _ _ ([(0, v), (3, I (i : Int)), (5, Pt v4 0), (6, Pt w4 0)]) ([[(v4, .cells #[I (l.getD i HV0).kind, I (l.getD i HV0).width, I (l.getD i HV0).int, S (l.getD i HV0).text] 24 (0, 0))], [(w4, .cells #[I (l.getD i HV0).kind, I cw, I ci, S ct] 24 (0, 0))], A])
      refine WC.seq (WC.region ?_)
      refine WL.q (oq_loadS [_, _, _, _] agg24 ty24 rfl (.head _) (List.mem_singleton.2 rfl) rfl rfl) rfl rfl rfl ?_
      refine WL.q (oq_loadS [_, _, _, _] agg24 ty24 rfl (.tail _ (.head _)) (List.mem_singleton.2 rfl) rfl rfl) rfl rfl rfl ?_
      refine WL.q (oq_neVV (a := (l.getD i HV0)) (b := ⟨[], (l.getD i HV0).kind, cw, ci, ct⟩) rfl rfl) rfl rfl rfl ?_
      refine WL.nil (WE.then_normal (WC.sub (fr' := [(0, _), (3, _), (63, _)]) ?_ ⟨rfl, rfl, rfl, trivial⟩))
      refine WC.cond rfl (fun q19 => ?_) (fun q19 => ?_)
      ·
       try simp only [Z1, Z2, Z3, Z4, Z5, Z6, Z7, Z8, Z9, Z0] at q19
       refine WC.seq (WC.region ?_)
       refine WL.q (oq_assign rfl) rfl rfl rfl ?_
       refine WL.nil (WE.then_normal (WC.sub (fr' := [(2, _)]) ?_ ⟨rfl, trivial⟩))
       refine WC.ret (WE.block_ret (WE.then_ret (WE.then_ret (WE.block_ret (WE.then_ret ?_)))))
       refine WE.lose hv4 ?_
       refine WE.lose hw4 ?_
       refine WE.endR (.inl rfl) (res1 Tryz.results13 rfl) ?_
       rw [decide_eq_false (fun h => can_no hcc (h i hlt).2 (by simpa using q19))]
      ·
       try simp only [Z1, Z2, Z3, Z4, Z5, Z6, Z7, Z8, Z9, Z0] at q19
       refine WC.skip (WE.block_normal (WE.then_normal (WC.sub (fr' := [(0, _), (3, _)]) ?_ ⟨rfl, rfl, trivial⟩)))
       refine WC.region ?_
       refine WL.q (oq_move rfl) rfl rfl rfl ?_
       refine WL.q (oq_add rfl rfl (by rw [i64_lo, i64_hi]; (first | omega | (simp only [List.length_cons, List.length_nil, List.length_append, List.length_drop, List.length_take]; omega)))) rfl rfl rfl ?_
       refine WL.q (oq_assign rfl) rfl rfl rfl ?_
       refine WL.nil ?_
       refine WE.lose hv4 ?_
       refine WE.lose hw4 ?_
       refine WE.again (i + 1) ?_ ?_ ⟨rfl, rfl, trivial⟩ (List.Perm.refl _)
       ·try dsimp only
        exact ⟨by omega, unl_step hall hks (can_ok hcc (by simpa using q19))⟩
       ·(try dsimp only); omega
  ·
   try simp only [Z1, Z2, Z3, Z4, Z5, Z6, Z7, Z8, Z9, Z0] at q2
   refine WC.exit (WE.then_exit (WE.then_exit (WE.block_same (WE.then_normal (WC.sub (fr' := []) ?_ trivial)))))
   refine WC.seq (WC.region ?_)
   refine WL.q (oq_assign rfl) rfl rfl rfl ?_
   refine WL.nil (WE.then_normal (WC.sub (fr' := [(2, _)]) ?_ ⟨rfl, trivial⟩))
   refine WC.ret ?_
   refine WE.endR (.inl rfl) (res1 Tryz.results13 rfl) ?_
   obtain rfl : i = l.length := by omega
   exact congrArg Value.bool (decide_eq_true (p := UnL l) (fun j hj => hall j hj)).symm
end DQ
end Go.Proofs.YtodlhaghdplclaaGreatDoor
/- Headers and messages that come in. -/
namespace Go.Proofs.YtodlhaghdplclaaGreatDoor
open Go Go.RowKit Go.ChangeShapes Go.WideShapes V EI EJ ER
set_option linter.unusedVariables false
set_option linter.unusedSimpArgs false
namespace ET
theorem cS : Tryz.prog.cellsOf 9 = 1 := by kernel_rfl
theorem cI : Tryz.prog.cellsOf 3 = 1 := by kernel_rfl
theorem cJ : Tryz.prog.cellsOf 2 = 1 := by kernel_rfl
theorem cU : Tryz.prog.cellsOf 5 = 1 := by kernel_rfl
theorem cV : Tryz.prog.cellsOf 24 = 4 := by kernel_rfl
theorem cH : Tryz.prog.cellsOf 32 = 5 := by kernel_rfl
theorem cM : Tryz.prog.cellsOf 30 = 2 := by kernel_rfl
theorem cL : Tryz.prog.cellsOf 22 = 1 := by kernel_rfl
theorem cB : Tryz.prog.cellsOf 28 = 1 := by kernel_rfl
def okI (x : Int) : Prop := -9223372036854775808 ≤ x ∧ x ≤ 9223372036854775807
def okV (h : HV) : Prop := okI h.int ∧ okI h.width ∧ okI h.kind
theorem wfI {n : Int} (h : (Lit.int .i64 n).wf = true) : okI n := by
 have := wf_bounds h
 rw [i64_lo, i64_hi] at this; exact this
section
variable {H : Type} {enc : TypeId × Value → H} {W : World}
set_option maxRecDepth 100000 in
theorem val_cells {n : Nat} {cs : List Value} {y : DataW H × List MemPlace} (h : DataW.trod enc Tryz.prog W 0 (fun _ => true) true n 24 cs = some y) (hl : cs.length = 4) : ∃ x : HV, cs = [I x.kind, I x.width, I x.int, S x.text] ∧ okV x := by
 obtain ⟨xs, m, _, rfl, _, hlen, hf⟩ := DataW.trod_struct Tryz.underlying24 h
 match xs, hlen with
 | [y0, y1, y2, y3], _ =>
  match cs, hl with
  | [a, b, c, d], _ =>
   have k0 : DataW.trod enc Tryz.prog W 0 (fun _ => true) true m 3 (([a, b, c, d].drop 0).take (Tryz.prog.cellsOf 3)) = some y0 := hf 0 _ rfl
   have k1 : DataW.trod enc Tryz.prog W 0 (fun _ => true) true m 3 (([a, b, c, d].drop 1).take (Tryz.prog.cellsOf 3)) = some y1 := hf 1 _ rfl
   have k2 : DataW.trod enc Tryz.prog W 0 (fun _ => true) true m 2 (([a, b, c, d].drop 2).take (Tryz.prog.cellsOf 2)) = some y2 := hf 2 _ rfl
   have k3 : DataW.trod enc Tryz.prog W 0 (fun _ => true) true m 9 (([a, b, c, d].drop 3).take (Tryz.prog.cellsOf 9)) = some y3 := hf 3 _ rfl
   rw [cI] at k0 k1
   rw [cJ] at k2
   rw [cS] at k3
   obtain ⟨s0, e0, _, w0⟩ := DataW.trod_int Tryz.underlying3 k0
   obtain ⟨s1, e1, _, w1⟩ := DataW.trod_int Tryz.underlying3 k1
   obtain ⟨s2, e2, _, w2⟩ := DataW.trod_int Tryz.underlying2 k2
   obtain ⟨s3, e3, _⟩ := DataW.trod_string Tryz.underlying9 k3
   simp at e0 e1 e2 e3
   subst e0; subst e1; subst e2; subst e3
   obtain ⟨⟨s3⟩⟩ := s3
   exact ⟨⟨[], s0, s1, s2, s3⟩, rfl, wfI w2, wfI w1, wfI w0⟩
set_option maxRecDepth 100000 in
theorem hv_cells (n : Nat) (cs : List Value) (y : DataW H × List MemPlace) (h : DataW.trod enc Tryz.prog W 0 (fun _ => true) true n 32 cs = some y) (hl : cs.length = 5) : ∃ (x : HV) (A : Hp), cs = HV.row x ∧ Has A W ∧ okV x := by
 obtain ⟨xs, m, _, rfl, _, hlen, hf⟩ := DataW.trod_struct Tryz.underlying32 h
 match xs, hlen with
 | [y0, y1], _ =>
  match cs, hl with
  | [a, b, c, d, e], _ =>
   have k0 : DataW.trod enc Tryz.prog W 0 (fun _ => true) true m 9 (([a, b, c, d, e].drop 0).take (Tryz.prog.cellsOf 9)) = some y0 := hf 0 _ rfl
   have k1 : DataW.trod enc Tryz.prog W 0 (fun _ => true) true m 24 (([a, b, c, d, e].drop 1).take (Tryz.prog.cellsOf 24)) = some y1 := hf 1 _ rfl
   rw [cS] at k0
   rw [cV] at k1
   obtain ⟨s0, e0, _⟩ := DataW.trod_string Tryz.underlying9 k0
   obtain ⟨x, e1, hx⟩ := val_cells k1 rfl
   simp at e0 e1
   obtain ⟨rfl, rfl, rfl, rfl⟩ := e1
   subst e0
   obtain ⟨⟨s0⟩⟩ := s0
   exact ⟨⟨s0, x.kind, x.width, x.int, x.text⟩, [], rfl, Has.nil W, hx⟩
theorem int_of {l : List HV} (h : ∀ x ∈ l, okV x) : intOk l := fun i hi => by
 have := h (l.getD i HV0) (by rw [List.getD_eq_getElem?_getD, List.getElem?_eq_getElem hi]; exact List.getElem_mem hi)
 exact ⟨this.1.1, this.1.2, this.2.1.1, this.2.1.2⟩
theorem hs_cells {n : Nat} {cs : List Value} {y : DataW H × List MemPlace} (h : DataW.trod enc Tryz.prog W 0 (fun _ => true) true n 22 cs = some y) :
  ∃ (v : Value) (l : List HV) (A : Hp), cs = [v] ∧ Has A W ∧ RdS 5 v A l.length (recsV HV.row l) ∧ l.length ≤ maxLen ∧ ∀ x ∈ l, okV x :=
 trod_sl HV.row (fun x _ => okV x) (fun _ _ _ h _ => h) (fun _ => rfl) (by decide) Tryz.underlying22 cH hv_cells h
structure MV where
 vh : Value
 l : List HV
 pp : Option Addr
 pc : Nat
 data : List UInt8
def MV.row (m : MV) : List Value := [m.vh, .slice m.pp m.data.length m.pc]
structure MvIn (m : MV) (A : Hp) : Prop where
 rd : RdS 5 m.vh A m.l.length (recsV HV.row m.l)
 rdp : RdS 1 (.slice m.pp m.data.length m.pc) A m.data.length (bytesV m.data)
 int : intOk m.l
 len : m.l.length ≤ maxLen
 plen : m.data.length ≤ maxLen
theorem MvIn.weaken {m : MV} {A C : Hp} (h : MvIn m A) (hs : ∀ x ∈ A, x ∈ C) : MvIn m C := ⟨h.rd.weaken hs, h.rdp.weaken hs, h.int, h.len, h.plen⟩
set_option maxRecDepth 100000 in
theorem mv_cells (n : Nat) (cs : List Value) (y : DataW H × List MemPlace) (h : DataW.trod enc Tryz.prog W 0 (fun _ => true) true n 30 cs = some y) (hl : cs.length = 2) : ∃ (x : MV) (A : Hp), cs = MV.row x ∧ Has A W ∧ MvIn x A := by
 obtain ⟨xs, m, _, rfl, _, hlen, hf⟩ := DataW.trod_struct Tryz.underlying30 h
 match xs, hlen with
 | [y0, y1], _ =>
  match cs, hl with
  | [a, b], _ =>
   have k0 : DataW.trod enc Tryz.prog W 0 (fun _ => true) true m 22 (([a, b].drop 0).take (Tryz.prog.cellsOf 22)) = some y0 := hf 0 _ rfl
   have k1 : DataW.trod enc Tryz.prog W 0 (fun _ => true) true m 28 (([a, b].drop 1).take (Tryz.prog.cellsOf 28)) = some y1 := hf 1 _ rfl
   rw [cL] at k0
   rw [cB] at k1
   obtain ⟨v, l, A, e0, hA, hr, hln, hok⟩ := hs_cells k0
   obtain ⟨p, c, d, B, e1, hB, hrp, hlp⟩ := trod_by Tryz.underlying28 Tryz.underlying5 cU k1
   simp at e0 e1
   subst e0; subst e1
   obtain ⟨C, hC, h1, h2⟩ := has_two hA hB
   exact ⟨⟨a, l, p, c, d⟩, C, rfl, hC, ⟨hr.weaken h1, hrp.weaken h2, int_of hok, hln, hlp⟩⟩
set_option maxRecDepth 100000 in
theorem arg_msg {base : Nat} {r : Reach} {v : Value} {d : DataW H} {ps : List MemPlace} (hval : Value.okWide Tryz.prog W r base 30 v) (h : DataW.Trod enc Tryz.prog W 0 (fun _ => true) true 30 v d ps) :
  ∃ (m : MV) (A : Hp), v = .agg #[m.vh, .slice m.pp m.data.length m.pc] ∧ Has A W ∧ MvIn m A := by
 obtain ⟨cs, rfl, hsz⟩ := okWide_struct Tryz.underlying30 hval
 obtain ⟨fuel, hfu⟩ := h
 obtain ⟨m, A, e, hA, hm⟩ := mv_cells _ _ _ hfu (by show cs.toList.length = 2; rw [Array.length_toList, hsz, cM])
 refine ⟨m, A, ?_, hA, hm⟩
 obtain ⟨cs⟩ := cs
 simp [Value.cells] at e
 rw [e]; rfl
end
end ET
end Go.Proofs.YtodlhaghdplclaaGreatDoor
/- The law: a message comes back. -/
namespace Go.Proofs.YtodlhaghdplclaaGreatDoor
open Go Go.RowKit V EA EB EC ED EL DC DD DA DE EE EH EI EJ DF DG DH DI EM DJ DK DL DM DB EF EG EK EN EO ER ES DP DO DQ ET
set_option linter.unusedSimpArgs false
set_option linter.unusedVariables false
set_option maxRecDepth 10000
namespace DR
theorem call11 : Callable Tryz.prog 11 := ⟨_, Tryz.func11, rfl, by kernel_rfl⟩
theorem call12 : Callable Tryz.prog 12 := ⟨_, Tryz.func12, rfl, by kernel_rfl⟩
theorem call13 : Callable Tryz.prog 13 := ⟨_, Tryz.func13, rfl, by kernel_rfl⟩
theorem call14 : Callable Tryz.prog 14 := ⟨_, Tryz.func14, rfl, by kernel_rfl⟩
theorem call17 : Callable Tryz.prog 17 := ⟨_, Tryz.func17, rfl, by kernel_rfl⟩
theorem call25 : Callable Tryz.prog 25 := ⟨_, Tryz.func25, rfl, by kernel_rfl⟩
theorem call26 : Callable Tryz.prog 26 := ⟨_, Tryz.func26, rfl, by kernel_rfl⟩
theorem call27 : Callable Tryz.prog 27 := ⟨_, Tryz.func27, rfl, by kernel_rfl⟩
theorem flat22 : Flat Tryz.prog 22 := ⟨_, Tryz.underlying22, by simp⟩
theorem flat28 : Flat Tryz.prog 28 := ⟨_, Tryz.underlying28, by simp⟩
theorem ty5 : Ty Tryz.prog 5 (.int .u8 0) 1 1 := ty_of (by kernel_rfl)
theorem ty22 : Ty Tryz.prog 22 (.slice none 0 0) 1 24 := ty_of (by kernel_rfl)
theorem ty28 : Ty Tryz.prog 28 (.slice none 0 0) 1 24 := ty_of (by kernel_rfl)
theorem ty30 : Ty Tryz.prog 30 (.agg #[(.slice none 0 0), (.slice none 0 0)]) 2 48 := ty_of (by kernel_rfl)
theorem agg30 : Agg Tryz.prog 30 := agg_of Tryz.underlying30
theorem fld30_0 : Fld Tryz.prog 30 0 0 22 := fld_of Tryz.underlying30 rfl rfl rfl ty22 (by decide)
theorem fld30_1 : Fld Tryz.prog 30 1 1 28 := fld_of Tryz.underlying30 rfl rfl rfl ty28 (by decide)
theorem back_of {l : List HV} (hok : okH l) (hint : intOk l) (hu : UnL l) : Back l := by
 refine ⟨fun x hx => ⟨?_, ?_, unl_can hu x hx⟩, unl_pair hu⟩
 ·obtain ⟨i, hi, rfl⟩ := List.getElem_of_mem hx
  have := (hok i hi).1
  rwa [List.getD_eq_getElem?_getD, List.getElem?_eq_getElem hi] at this
 ·obtain ⟨i, hi, rfl⟩ := List.getElem_of_mem hx
  have := hint i hi
  rw [List.getD_eq_getElem?_getD, List.getElem?_eq_getElem hi] at this
  exact ⟨this.1, this.2.1⟩
theorem wf_msg (l : List HV) (data beh : List UInt8) (h : 16 + (hdrs l).length + data.length < 4294967296) : 16 + head (msgB l data ++ beh) ≤ totl (msgB l data ++ beh) := by
 have p := msg_parts l data beh h
 rw [p.totl, p.head]; omega
theorem lawBack (A : Hp) (vh : Value) (l : List HV) (hr : RdS 5 vh A l.length (recsV HV.row l)) (hint : intOk l) (pp : Option Addr) (pc : Nat) (data : List UInt8) (hrp : RdS 1 (.slice pp data.length pc) A data.length (bytesV data)) (vb : Value) (beh : List UInt8) (hrb : RdS 1 vb A beh.length (bytesV beh)) (kE : TypeId) (pE pU : Addr) (hS : Sn A kE pE pU) : FnR Tryz.prog 5 [.agg #[vh, .slice pp data.length pc], vb] A (.bool true) := by
 refine FnR.enter (n := 81) Tryz.func5 rfl rfl fun w0 => ?_
 refine WC.sub (fr' := [(0, _), (1, _)]) ?_ ⟨rfl, rfl, trivial⟩
 refine WC.seq (WC.region ?_)
 refine WL.box rfl rfl rfl fun xb hxb => ?_
 refine WL.q (oq_assign rfl) rfl rfl rfl ?_
 refine WL.nil (WE.then_normal (WC.sub (fr' := [(1, _), (2, _)]) ?_ ⟨rfl, rfl, trivial⟩))
 refine WC.seq (WC.seq (WC.region ?_))
 refine WL.q (oq_loadS [_, _] agg30 ty30 rfl (.head _) (List.mem_singleton.2 rfl) rfl rfl) rfl rfl rfl ?_
 refine WL.qc (oq_callRm (fits3 vh A l hr pp pc data.length) (.tail _ (.head _)) call25 rfl) rfl rfl rfl ?_
 refine WL.q (oq_not rfl) rfl rfl rfl ?_
 refine WL.q (oq_move rfl) rfl rfl rfl ?_
 refine WL.split 13 rfl (fun s1_3 => ?_) (fun s1_3 => ?_)
 ·
  try simp only [Z1, Z2, Z3, Z4, Z5, Z6, Z7, Z8, Z9, Z0] at s1_3
  refine WL.skip rfl rfl rfl ?_
  refine WL.skip rfl rfl rfl ?_
  refine WL.skip rfl rfl rfl ?_
  refine WL.q (oq_pick_t rfl rfl) rfl rfl rfl ?_
  refine WL.nil (WE.then_normal (WC.sub (fr' := [(1, _), (2, _), (17, _)]) ?_ ⟨rfl, rfl, rfl, trivial⟩))
  refine WC.cond_t rfl ?_
  refine WC.seq (WC.region ?_)
  refine WL.q (oq_assign rfl) rfl rfl rfl ?_
  refine WL.nil (WE.then_normal (WC.sub (fr' := [(4, _)]) ?_ ⟨rfl, trivial⟩))
  refine WC.ret (WE.then_ret ?_)
  refine WE.lose hxb ?_
  refine WE.endR (.inl rfl) (res1 Tryz.results5 rfl) ?_
  first | rfl | exact congrArg Value.bool (decide_eq_true rfl) | (exfalso; omega) | (exfalso; simp_all; done) | skip
 ·
  try simp only [Z1, Z2, Z3, Z4, Z5, Z6, Z7, Z8, Z9, Z0] at s1_3
  refine WL.q (oq_move rfl) rfl rfl rfl ?_
  refine WL.q (oq_len_rd hrb Tryz.underlying28 rfl) rfl rfl rfl ?_
  refine WL.q (oq_gtr rfl rfl) rfl rfl rfl ?_
  refine WL.q (oq_pick_f rfl rfl) rfl rfl rfl ?_
  refine WL.nil (WE.then_normal (WC.sub (fr' := [(1, _), (2, _), (17, _)]) ?_ ⟨rfl, rfl, rfl, trivial⟩))
  refine WC.cond rfl (fun q1 => ?_) (fun q1 => ?_)
  ·
   try simp only [Z1, Z2, Z3, Z4, Z5, Z6, Z7, Z8, Z9, Z0] at q1
   refine WC.seq (WC.region ?_)
   refine WL.q (oq_assign rfl) rfl rfl rfl ?_
   refine WL.nil (WE.then_normal (WC.sub (fr' := [(4, _)]) ?_ ⟨rfl, trivial⟩))
   refine WC.ret (WE.then_ret ?_)
   refine WE.lose hxb ?_
   refine WE.endR (.inl rfl) (res1 Tryz.results5 rfl) ?_
   first | rfl | exact congrArg Value.bool (decide_eq_true rfl) | (exfalso; omega) | (exfalso; simp_all; done) | skip
  ·
   try simp only [Z1, Z2, Z3, Z4, Z5, Z6, Z7, Z8, Z9, Z0] at q1
   refine WC.skip (WE.then_normal (WC.sub (fr' := [(1, _), (2, _)]) ?_ ⟨rfl, rfl, trivial⟩))
   refine WC.seq (WC.seq ?_)
   rw [Bool.and_eq_true] at s1_3
   have hf := s1_3.1
   refine WC.region ?_
   refine WL.q (oq_loadS [_, _] agg30 ty30 rfl (.head _) (List.mem_singleton.2 rfl) rfl rfl) rfl rfl rfl ?_
   refine WL.qc (oq_callRm (sized vh A l hr pp pc data.length hf) (.tail _ (.head _)) call11 rfl) rfl rfl rfl ?_
   refine WL.q (oq_not rfl) rfl rfl rfl ?_
   refine WL.q (oq_move rfl) rfl rfl rfl ?_
   refine WL.split 21 rfl (fun s3_3 => ?_) (fun s3_3 => ?_)
   ·
    try simp only [Z1, Z2, Z3, Z4, Z5, Z6, Z7, Z8, Z9, Z0] at s3_3
    refine WL.skip rfl rfl rfl ?_
    refine WL.skip rfl rfl rfl ?_
    refine WL.skip rfl rfl rfl ?_
    refine WL.skip rfl rfl rfl ?_
    refine WL.q (oq_pick_t rfl rfl) rfl rfl rfl ?_
    refine WL.q (oq_move rfl) rfl rfl rfl ?_
    refine WL.skip rfl rfl rfl ?_
    refine WL.skip rfl rfl rfl ?_
    refine WL.skip rfl rfl rfl ?_
    refine WL.skip rfl rfl rfl ?_
    refine WL.q (oq_pick_t rfl rfl) rfl rfl rfl ?_
    refine WL.q (oq_move rfl) rfl rfl rfl ?_
    refine WL.skip rfl rfl rfl ?_
    refine WL.skip rfl rfl rfl ?_
    refine WL.skip rfl rfl rfl ?_
    refine WL.q (oq_pick_t rfl rfl) rfl rfl rfl ?_
    refine WL.nil (WE.then_normal (WC.sub (fr' := [(1, _), (2, _), (37, _)]) ?_ ⟨rfl, rfl, rfl, trivial⟩))
    refine WC.cond_t rfl ?_
    refine WC.seq (WC.region ?_)
    refine WL.qc (oq_call (vAwake) call14 rfl) rfl rfl rfl ?_
    refine WL.q (oq_assign rfl) rfl rfl rfl ?_
    refine WL.nil (WE.then_normal (WC.sub (fr' := [(4, _)]) ?_ ⟨rfl, trivial⟩))
    refine WC.ret (WE.then_ret ?_)
    refine WE.lose hxb ?_
    refine WE.endR (.inl rfl) (res1 Tryz.results5 rfl) ?_
    first | rfl | exact congrArg Value.bool (decide_eq_true rfl) | (exfalso; omega) | (exfalso; simp_all; done) | skip
   ·
    try simp only [Z1, Z2, Z3, Z4, Z5, Z6, Z7, Z8, Z9, Z0] at s3_3
    obtain ⟨hl1, hsu, hda⟩ := sized_of s3_3
    have hln : l.length ≤ 1000 := by omega
    refine WL.q (oq_fieldAddr fld30_0 rfl) rfl rfl rfl ?_
    refine WL.q (oq_load flat22 rfl (.head _) (List.mem_singleton.2 rfl) rfl) rfl rfl rfl ?_
    refine WL.qc (oq_callRm (vFine vh A l hr hint hln) (.tail _ (.head _)) call12 rfl) rfl rfl rfl ?_
    refine WL.q (oq_not rfl) rfl rfl rfl ?_
    refine WL.q (oq_pick_f rfl rfl) rfl rfl rfl ?_
    refine WL.q (oq_move rfl) rfl rfl rfl ?_
    refine WL.split 27 rfl (fun s3_9 => ?_) (fun s3_9 => ?_)
    ·
     try simp only [Z1, Z2, Z3, Z4, Z5, Z6, Z7, Z8, Z9, Z0] at s3_9
     refine WL.skip rfl rfl rfl ?_
     refine WL.skip rfl rfl rfl ?_
     refine WL.skip rfl rfl rfl ?_
     refine WL.skip rfl rfl rfl ?_
     refine WL.q (oq_pick_t rfl rfl) rfl rfl rfl ?_
     refine WL.q (oq_move rfl) rfl rfl rfl ?_
     refine WL.skip rfl rfl rfl ?_
     refine WL.skip rfl rfl rfl ?_
     refine WL.skip rfl rfl rfl ?_
     refine WL.q (oq_pick_t rfl rfl) rfl rfl rfl ?_
     refine WL.nil (WE.then_normal (WC.sub (fr' := [(1, _), (2, _), (37, _)]) ?_ ⟨rfl, rfl, rfl, trivial⟩))
     refine WC.cond_t rfl ?_
     refine WC.seq (WC.region ?_)
     refine WL.qc (oq_call (vAwake) call14 rfl) rfl rfl rfl ?_
     refine WL.q (oq_assign rfl) rfl rfl rfl ?_
     refine WL.nil (WE.then_normal (WC.sub (fr' := [(4, _)]) ?_ ⟨rfl, trivial⟩))
     refine WC.ret (WE.then_ret ?_)
     refine WE.lose hxb ?_
     refine WE.endR (.inl rfl) (res1 Tryz.results5 rfl) ?_
     first | rfl | exact congrArg Value.bool (decide_eq_true rfl) | (exfalso; omega) | (exfalso; simp_all; done) | skip
    ·
     try simp only [Z1, Z2, Z3, Z4, Z5, Z6, Z7, Z8, Z9, Z0] at s3_9
     refine WL.q (oq_fieldAddr fld30_0 rfl) rfl rfl rfl ?_
     refine WL.q (oq_load flat22 rfl (.head _) (List.mem_singleton.2 rfl) rfl) rfl rfl rfl ?_
     refine WL.qc (oq_callRm (vUnlike vh A l hr hint hln) (.tail _ (.head _)) call13 rfl) rfl rfl rfl ?_
     refine WL.q (oq_not rfl) rfl rfl rfl ?_
     refine WL.q (oq_pick_f rfl rfl) rfl rfl rfl ?_
     refine WL.q (oq_move rfl) rfl rfl rfl ?_
     refine WL.split 33 rfl (fun s3_15 => ?_) (fun s3_15 => ?_)
     ·
      try simp only [Z1, Z2, Z3, Z4, Z5, Z6, Z7, Z8, Z9, Z0] at s3_15
      refine WL.skip rfl rfl rfl ?_
      refine WL.skip rfl rfl rfl ?_
      refine WL.skip rfl rfl rfl ?_
      refine WL.q (oq_pick_t rfl rfl) rfl rfl rfl ?_
      refine WL.nil (WE.then_normal (WC.sub (fr' := [(1, _), (2, _), (37, _)]) ?_ ⟨rfl, rfl, rfl, trivial⟩))
      refine WC.cond_t rfl ?_
      refine WC.seq (WC.region ?_)
      refine WL.qc (oq_call (vAwake) call14 rfl) rfl rfl rfl ?_
      refine WL.q (oq_assign rfl) rfl rfl rfl ?_
      refine WL.nil (WE.then_normal (WC.sub (fr' := [(4, _)]) ?_ ⟨rfl, trivial⟩))
      refine WC.ret (WE.then_ret ?_)
      refine WE.lose hxb ?_
      refine WE.endR (.inl rfl) (res1 Tryz.results5 rfl) ?_
      first | rfl | exact congrArg Value.bool (decide_eq_true rfl) | (exfalso; omega) | (exfalso; simp_all; done) | skip
     ·
      try simp only [Z1, Z2, Z3, Z4, Z5, Z6, Z7, Z8, Z9, Z0] at s3_15
      refine WL.q (oq_move rfl) rfl rfl rfl ?_
      refine WL.q (oq_len_rd hrb Tryz.underlying28 rfl) rfl rfl rfl ?_
      refine WL.q (oq_gtr rfl rfl) rfl rfl rfl ?_
      refine WL.q (oq_pick_f rfl rfl) rfl rfl rfl ?_
      refine WL.nil (WE.then_normal (WC.sub (fr' := [(1, _), (2, _), (37, _)]) ?_ ⟨rfl, rfl, rfl, trivial⟩))
      refine WC.cond rfl (fun q3 => ?_) (fun q3 => ?_)
      ·
       try simp only [Z1, Z2, Z3, Z4, Z5, Z6, Z7, Z8, Z9, Z0] at q3
       refine WC.seq (WC.region ?_)
       refine WL.qc (oq_call (vAwake) call14 rfl) rfl rfl rfl ?_
       refine WL.q (oq_assign rfl) rfl rfl rfl ?_
       refine WL.nil (WE.then_normal (WC.sub (fr' := [(4, _)]) ?_ ⟨rfl, trivial⟩))
       refine WC.ret (WE.then_ret ?_)
       refine WE.lose hxb ?_
       refine WE.endR (.inl rfl) (res1 Tryz.results5 rfl) ?_
       first | rfl | exact congrArg Value.bool (decide_eq_true rfl) | (exfalso; omega) | (exfalso; simp_all; done) | skip
      ·
       try simp only [Z1, Z2, Z3, Z4, Z5, Z6, Z7, Z8, Z9, Z0] at q3
       refine WC.skip (WE.then_normal (WC.sub (fr' := [(1, _), (2, _)]) ?_ ⟨rfl, rfl, trivial⟩))
       refine WC.seq ?_
       have hun : UnL l := by simpa using s3_15
       have hfin : l.all fineB = true := by simpa using s3_9
       have hok := fine_ok hfin hsu
       have hsz : szL l ≤ 100000 := by rw [szL_sum]; omega
       have hdl : (hdrs l).length ≤ szL l := by have := hdrs_len hok l.length (Nat.le_refl _); rw [List.take_length] at this; exact this
       have hml := msgB_pos l data
       have h32 : 16 + (hdrs l).length + data.length < 4294967296 := by omega
       refine WC.region ?_
       refine WL.q (oq_loadS [_, _] agg30 ty30 rfl (.head _) (List.mem_singleton.2 rfl) rfl rfl) rfl rfl rfl ?_
       refine WL.f1 ?_
       refine WL.callA (vEncode vh A l hr hok hln hsz pp pc data hrp (by omega)) call26 rfl rfl rfl fun v5_1 N5_1 hR5_1 hN5_1 => ?_
       obtain ⟨sv5, rfl, hsv5⟩ := hR5_1
       refine WL.q (oq_move rfl) rfl rfl rfl ?_
       refine WL.q (oq_extract rfl rfl) rfl rfl rfl ?_
       refine WL.q (oq_extract rfl rfl) rfl rfl rfl ?_
       refine WL.q (oq_assign rfl) rfl rfl rfl ?_
       refine WL.q (oq_assign rfl) rfl rfl rfl ?_
       refine WL.nil (WE.then_normal (WC.sub (fr' := [(1, _), (2, _), (5, _), (6, _)]) ?_ ⟨rfl, rfl, rfl, rfl, trivial⟩))
       refine WC.seq (WC.seq (WC.region ?_))
       refine WL.q (oq_move rfl) rfl rfl rfl ?_
       refine WL.q (oq_not rfl) rfl rfl rfl ?_
       refine WL.nil (WE.then_normal (WC.sub (fr' := [(1, _), (2, _), (5, _), (45, _)]) ?_ ⟨rfl, rfl, rfl, rfl, trivial⟩))
       refine WC.cond rfl (fun q6 => ?_) (fun q6 => ?_)
       ·
        try simp only [Z1, Z2, Z3, Z4, Z5, Z6, Z7, Z8, Z9, Z0] at q6
        refine WC.seq (WC.region ?_)
        refine WL.qc (oq_call (vAwake) call14 rfl) rfl rfl rfl ?_
        refine WL.q (oq_assign rfl) rfl rfl rfl ?_
        refine WL.nil (WE.then_normal (WC.sub (fr' := [(4, _)]) ?_ ⟨rfl, trivial⟩))
        refine WC.ret (WE.then_ret ?_)
        refine WE.forget hN5_1 ?_
        refine WE.f1 ?_
        refine WE.lose hxb ?_
        refine WE.endR (.inl rfl) (res1 Tryz.results5 rfl) ?_
        first | rfl | exact congrArg Value.bool (decide_eq_true rfl) | (exfalso; omega) | (exfalso; simp_all; done) | skip
       ·
        try simp only [Z1, Z2, Z3, Z4, Z5, Z6, Z7, Z8, Z9, Z0] at q6
        refine WC.skip (WE.then_normal (WC.sub (fr' := [(1, _), (2, _), (5, _)]) ?_ ⟨rfl, rfl, rfl, trivial⟩))
        refine WC.seq ?_
        have hnb : l.any badH = false := by simpa using q6
        rw [hnb] at hsv5
        replace hsv5 : RdS 1 sv5 _ (msgB l data).length (bytesV (msgB l data)) := hsv5
        have hdec := dec_msg (beh := beh) (back_of hok hint hun) hnb h32
        refine WC.region ?_
        refine WL.build0 Tryz.underlying28 ty5 rfl rfl fun v8 A8 ho8 hne8 => ?_
        refine WL.q (oq_move rfl) rfl rfl rfl ?_
        refine WL.appendS ho8 Tryz.underlying28 ty5 rfl (by decide) rfl rfl hsv5 (.head _) (bytesV_one _) (by unfold maxLen; omega) (by omega) rfl rfl fun v8a A8a ho8a hne8a => ?_
        refine WL.q (oq_move rfl) rfl rfl rfl ?_
        refine WL.appendS ho8a Tryz.underlying28 ty5 rfl (by decide) rfl rfl hrb (.tail _ (.head _)) (bytesV_one _) (by unfold maxLen; omega) (by omega) rfl rfl fun v8b A8b ho8b hne8b => ?_
        have hrd8 : RdS 1 v8b A8b (msgB l data ++ beh).length (bytesV (msgB l data ++ beh)) := by
         have h := ho8b.rd
         have e : bytesV (msgB l data ++ beh) = [] ++ bytesV (msgB l data) ++ bytesV beh := by
          unfold bytesV
          simp
         have e2 : (msgB l data ++ beh).length = 0 + (msgB l data).length + beh.length := by rw [List.length_append, Nat.zero_add]
         rw [e, e2]
         exact h
        obtain ⟨pp8, pc8, rfl⟩ := hrd8.shape
        have hrd9 := hrd8.weaken (C := A8b ++ A) (fun x hx => List.mem_append_left _ hx)
        have hS2 := hS.weaken (C := A8b ++ A) (fun x hx => List.mem_append_right _ hx)
        refine WL.f2 ?_
        refine WL.f1 ?_
        refine WL.cat ?_
        refine WL.callA (vDecode _ kE pE pU hS2 pp8 pc8 (msgB l data ++ beh) hrd9 (by rw [List.length_append]; omega) (fun _ => wf_msg l data beh h32)) call27 rfl rfl rfl fun v8_5 N8_5 hR8_5 hN8_5 => ?_
        unfold DecR at hR8_5
        rw [hdec] at hR8_5
        dsimp only at hR8_5
        obtain ⟨mv8, n8, rfl, hv8, pv8, rfl, o1, o2, hok8⟩ := hR8_5
        obtain ⟨hrh8, hrp8, rfl, _⟩ := hok8 rfl
        obtain ⟨pp9, pc9, rfl⟩ := hrp8.shape
        refine WL.q (oq_move rfl) rfl rfl rfl ?_
        refine WL.q (oq_extract rfl rfl) rfl rfl rfl ?_
        refine WL.q (oq_extract rfl rfl) rfl rfl rfl ?_
        refine WL.q (oq_extract rfl rfl) rfl rfl rfl ?_
        refine WL.alloc ty30 rfl rfl fun m7 hm7 => ?_
        refine WL.storeS (#[hv8, .slice pp9 data.length pc9]) ty30 rfl rfl rfl (by simp [Value.cells, o1, o2]) (Nat.le_of_ble_eq_true rfl) rfl rfl ?_
        refine WL.q (oq_assign rfl) rfl rfl rfl ?_
        refine WL.q (oq_assign rfl) rfl rfl rfl ?_
        refine WL.nil (WE.then_normal (WC.sub (fr' := [(2, _), (5, _), (7, _), (8, _), (9, _)]) ?_ ⟨rfl, rfl, rfl, rfl, rfl, trivial⟩))
        refine WC.seq ?_
        refine WC.f2 ?_
        refine WC.reg (reg_out (List.Perm.refl _)) ?_
        refine WC.region ?_
        refine WL.q (oq_move rfl) rfl rfl rfl ?_
        refine WL.q (oq_eql rfl rfl) rfl rfl rfl ?_
        refine WL.q (oq_move rfl) rfl rfl rfl ?_
        refine WL.split 59 rfl (fun s9_2 => ?_) (fun s9_2 => ?_)
        ·
         try simp only [Z1, Z2, Z3, Z4, Z5, Z6, Z7, Z8, Z9, Z0] at s9_2
         refine WL.q (oq_move rfl) rfl rfl rfl ?_
         refine WL.q (oq_move rfl) rfl rfl rfl ?_
         refine WL.q (oq_len_rd hsv5 Tryz.underlying28 rfl) rfl rfl rfl ?_
         refine WL.q (oq_eql rfl rfl) rfl rfl rfl ?_
         refine WL.q (oq_pick_t rfl rfl) rfl rfl rfl ?_
         refine WL.q (oq_move rfl) rfl rfl rfl ?_
         refine WL.split 65 rfl (fun s9_8 => ?_) (fun s9_8 => ?_)
         ·
          try simp only [Z1, Z2, Z3, Z4, Z5, Z6, Z7, Z8, Z9, Z0] at s9_8
          refine WL.q (oq_fieldAddr fld30_0 rfl) rfl rfl rfl ?_
          refine WL.q (oq_load flat22 rfl (.tail _ (.tail _ (.head _))) (List.mem_singleton.2 rfl) rfl) rfl rfl rfl ?_
          refine WL.q (oq_fieldAddr fld30_0 rfl) rfl rfl rfl ?_
          refine WL.q (oq_load flat22 rfl (.tail _ (.tail _ (.tail _ (.tail _ (.tail _ (.head _)))))) (List.mem_singleton.2 rfl) rfl) rfl rfl rfl ?_
          refine WL.qc (oq_callRall (vSame _ _ _ l l (rd_flat hrh8 (by repeat (first | exact .head _ | apply List.Mem.tail))) (rd_flat hr (by repeat (first | exact .head _ | apply List.Mem.tail))) (by omega)) call17 rfl) rfl rfl rfl ?_
          refine WL.q (oq_pick_t rfl rfl) rfl rfl rfl ?_
          refine WL.q (oq_move rfl) rfl rfl rfl ?_
          refine WL.split 72 rfl (fun s9_15 => ?_) (fun s9_15 => ?_)
          ·
           try simp only [Z1, Z2, Z3, Z4, Z5, Z6, Z7, Z8, Z9, Z0] at s9_15
           refine WL.q (oq_fieldAddr fld30_1 rfl) rfl rfl rfl ?_
           refine WL.q (oq_load flat28 rfl (.tail _ (.tail _ (.head _))) (List.mem_singleton.2 rfl) rfl) rfl rfl rfl ?_
           refine WL.q (oq_bytesStr hrp8 (.tail _ (.tail _ (.tail _ (.head _)))) Tryz.underlying9 Tryz.underlying28 Tryz.underlying5 rfl) rfl rfl rfl ?_
           refine WL.q (oq_fieldAddr fld30_1 rfl) rfl rfl rfl ?_
           refine WL.q (oq_load flat28 rfl (.tail _ (.tail _ (.tail _ (.tail _ (.tail _ (.head _)))))) (List.mem_singleton.2 rfl) rfl) rfl rfl rfl ?_
           refine WL.q (oq_bytesStr hrp (.tail _ (.head _)) Tryz.underlying9 Tryz.underlying28 Tryz.underlying5 rfl) rfl rfl rfl ?_
           refine WL.q (oq_seql rfl rfl) rfl rfl rfl ?_
           refine WL.q (oq_pick_t rfl rfl) rfl rfl rfl ?_
           refine WL.q (oq_assign rfl) rfl rfl rfl ?_
           refine WL.nil (WE.then_normal (WC.sub (fr' := [(4, _)]) ?_ ⟨rfl, trivial⟩))
           refine WC.ret ?_
           refine WE.forget ho8b.fresh ?_
           refine WE.f1 ?_
           refine WE.lose hm7 ?_
           refine WE.f1 ?_
           refine WE.forget hN8_5 ?_
           refine WE.f1 ?_
           refine WE.forget hN5_1 ?_
           refine WE.f1 ?_
           refine WE.lose hxb ?_
           refine WE.endR (.inl rfl) (res1 Tryz.results5 rfl) ?_
           first | rfl | exact congrArg Value.bool (decide_eq_true rfl) | (exfalso; omega) | (exfalso; simp_all; done) | skip
          ·
           try simp only [Z1, Z2, Z3, Z4, Z5, Z6, Z7, Z8, Z9, Z0] at s9_15
           refine WL.skip rfl rfl rfl ?_
           refine WL.skip rfl rfl rfl ?_
           refine WL.skip rfl rfl rfl ?_
           refine WL.skip rfl rfl rfl ?_
           refine WL.skip rfl rfl rfl ?_
           refine WL.skip rfl rfl rfl ?_
           refine WL.skip rfl rfl rfl ?_
           refine WL.q (oq_pick_f rfl rfl) rfl rfl rfl ?_
           refine WL.q (oq_assign rfl) rfl rfl rfl ?_
           refine WL.nil (WE.then_normal (WC.sub (fr' := [(4, _)]) ?_ ⟨rfl, trivial⟩))
           refine WC.ret ?_
           refine WE.forget ho8b.fresh ?_
           refine WE.f1 ?_
           refine WE.lose hm7 ?_
           refine WE.f1 ?_
           refine WE.forget hN8_5 ?_
           refine WE.f1 ?_
           refine WE.forget hN5_1 ?_
           refine WE.f1 ?_
           refine WE.lose hxb ?_
           refine WE.endR (.inl rfl) (res1 Tryz.results5 rfl) ?_
           first | rfl | exact congrArg Value.bool (decide_eq_true rfl) | (exfalso; omega) | (exfalso; simp_all; done) | skip
         ·
          try simp only [Z1, Z2, Z3, Z4, Z5, Z6, Z7, Z8, Z9, Z0] at s9_8
          refine WL.skip rfl rfl rfl ?_
          refine WL.skip rfl rfl rfl ?_
          refine WL.skip rfl rfl rfl ?_
          refine WL.skip rfl rfl rfl ?_
          refine WL.skip rfl rfl rfl ?_
          refine WL.q (oq_pick_f rfl rfl) rfl rfl rfl ?_
          refine WL.q (oq_move rfl) rfl rfl rfl ?_
          refine WL.skip rfl rfl rfl ?_
          refine WL.skip rfl rfl rfl ?_
          refine WL.skip rfl rfl rfl ?_
          refine WL.skip rfl rfl rfl ?_
          refine WL.skip rfl rfl rfl ?_
          refine WL.skip rfl rfl rfl ?_
          refine WL.skip rfl rfl rfl ?_
          refine WL.q (oq_pick_f rfl rfl) rfl rfl rfl ?_
          refine WL.q (oq_assign rfl) rfl rfl rfl ?_
          refine WL.nil (WE.then_normal (WC.sub (fr' := [(4, _)]) ?_ ⟨rfl, trivial⟩))
          refine WC.ret ?_
          refine WE.forget ho8b.fresh ?_
          refine WE.f1 ?_
          refine WE.lose hm7 ?_
          refine WE.f1 ?_
          refine WE.forget hN8_5 ?_
          refine WE.f1 ?_
          refine WE.forget hN5_1 ?_
          refine WE.f1 ?_
          refine WE.lose hxb ?_
          refine WE.endR (.inl rfl) (res1 Tryz.results5 rfl) ?_
          first | rfl | exact congrArg Value.bool (decide_eq_true rfl) | (exfalso; omega) | (exfalso; simp_all; done) | skip
        ·
         try simp only [Z1, Z2, Z3, Z4, Z5, Z6, Z7, Z8, Z9, Z0] at s9_2
         refine WL.skip rfl rfl rfl ?_
         refine WL.skip rfl rfl rfl ?_
         refine WL.skip rfl rfl rfl ?_
         refine WL.skip rfl rfl rfl ?_
         refine WL.q (oq_pick_f rfl rfl) rfl rfl rfl ?_
         refine WL.q (oq_move rfl) rfl rfl rfl ?_
         refine WL.skip rfl rfl rfl ?_
         refine WL.skip rfl rfl rfl ?_
         refine WL.skip rfl rfl rfl ?_
         refine WL.skip rfl rfl rfl ?_
         refine WL.skip rfl rfl rfl ?_
         refine WL.q (oq_pick_f rfl rfl) rfl rfl rfl ?_
         refine WL.q (oq_move rfl) rfl rfl rfl ?_
         refine WL.skip rfl rfl rfl ?_
         refine WL.skip rfl rfl rfl ?_
         refine WL.skip rfl rfl rfl ?_
         refine WL.skip rfl rfl rfl ?_
         refine WL.skip rfl rfl rfl ?_
         refine WL.skip rfl rfl rfl ?_
         refine WL.skip rfl rfl rfl ?_
         refine WL.q (oq_pick_f rfl rfl) rfl rfl rfl ?_
         refine WL.q (oq_assign rfl) rfl rfl rfl ?_
         refine WL.nil (WE.then_normal (WC.sub (fr' := [(4, _)]) ?_ ⟨rfl, trivial⟩))
         refine WC.ret ?_
         refine WE.forget ho8b.fresh ?_
         refine WE.f1 ?_
         refine WE.lose hm7 ?_
         refine WE.f1 ?_
         refine WE.forget hN8_5 ?_
         refine WE.f1 ?_
         refine WE.forget hN5_1 ?_
         refine WE.f1 ?_
         refine WE.lose hxb ?_
         refine WE.endR (.inl rfl) (res1 Tryz.results5 rfl) ?_
         first | rfl | exact congrArg Value.bool (decide_eq_true rfl) | (exfalso; omega) | (exfalso; simp_all; done) | skip
end DR
end Go.Proofs.YtodlhaghdplclaaGreatDoor
/- The engine, part 30: sentinels of errors with their texts. Over any program. -/
namespace Go.Proofs.YtodlhaghdplclaaGreatDoor.V
open Go Go.RowKit Go.ChangeShapes Go.WideShapes
set_option linter.unusedSimpArgs false
set_option linter.unusedVariables false
theorem laid_err {P : Program} {w : World} {n nm : String} {text : List UInt8} {g : Nat} {t k te ts : TypeId} {f : Field} {r : List (String × DataW Unit)} {ps : List MemPlace} {ms : Array (String × TypeId)} (h : DataW.LaidVars P w ((n, .iface nm (.ptr (.agg [.lit (.string text)]))) :: r) ps)
  (hall : ∀ b off, MemPlace.cell b off ∈ ps → (∃ c t, w.heap[b]? = some (.cells c t (0, 0))) ∧ ∀ u v, w.cell? ⟨b, off, none⟩ = some (.iface u v) → Value.okWide P w .any 0 u v) (hg : P.globalNamed n = some g) (ht : (P.globals[g]?).map (·.type) = some t)
  (hi : P.underlying t = some (.interface ms)) (hrow : ∀ u, P.typeName? 3 u = some nm → u = k) (hp : P.underlying k = some (.pointer te)) (he : P.underlying te = some (.struct #[f])) (hft : f.type = ts) (hfo : f.offset = 0) (hs : P.underlying ts = some .string) (hc : P.cellsOf te = 1) (hcs : P.cellsOf ts = 1) :
  (∃ (a : Addr) (s : ByteArray) (c0 : Array Value) (t0 tg : TypeId) (fg : Nat × Nat), w.heap[g]? = some (.cells #[.iface k (.pointer (some a))] tg fg) ∧ w.cell? a = some (.string s) ∧ s.data.toList = text ∧ w.heap[a.block]? = some (.cells c0 t0 (0, 0))) ∧
  ∃ q, DataW.LaidVars P w r q ∧ ∀ b off, MemPlace.cell b off ∈ q → (∃ c t, w.heap[b]? = some (.cells c t (0, 0))) ∧ ∀ u v, w.cell? ⟨b, off, none⟩ = some (.iface u v) → Value.okWide P w .any 0 u v := by
 obtain ⟨g', t', cs, fuel, p, q, hg', ht', hv, hd, hr, rfl⟩ := h
 obtain rfl := Option.some.inj (hg.symm.trans hg')
 obtain rfl := Option.some.inj (ht.symm.trans ht')
 obtain ⟨l⟩ := cs
 have ok : ∀ u v, l = [.iface u v] → Value.okWide P w .any 0 u v := fun u v e => by
  subst e
  exact (hall g 0 (by simp [MemPlace.row])).2 u v (by simpa using World.var?_cell hg hv 0)
 obtain ⟨a, s, hl, hcell, hst, _, rfl⟩ := errorString_of_trod hi hrow hp he hft hfo hs hc hcs hd ok
 obtain ⟨tg, fg, hh⟩ := var_heap hg hv
 have hl2 : l = [.iface k (.pointer (some a))] := hl
 subst hl2
 obtain ⟨c0, t0, hb⟩ := (hall a.block a.off (by simp [MemPlace.row])).1
 exact ⟨⟨a, s, c0, t0, tg, fg, hh, hcell, hst, hb⟩, q, hr, fun b off hm => hall b off (List.mem_append_right _ hm)⟩
end Go.Proofs.YtodlhaghdplclaaGreatDoor.V
/- What the listed variables hold. -/
namespace Go.Proofs.YtodlhaghdplclaaGreatDoor
open Go Go.RowKit V DC
set_option linter.unusedVariables false
namespace DN
theorem star : "*" ++ "errors.errorString" = "*errors.errorString" := by decide
theorem rowE (u : TypeId) (h : Tryz.prog.typeName? 3 u = some "*errors.errorString") : u = 248 :=
 typeName_ptr_named (nm := "errors.errorString") (by rw [star]; kernel_rfl) (by kernel_rfl) (by decide) u (by rw [star]; exact h)
theorem tyE : Ty Tryz.prog 250 (.agg #[S []]) 1 16 := ty_of (by kernel_rfl)
theorem compE : Comp Tryz.prog 248 250 := by
 refine ⟨Tryz.underlying248, ?_, _, _, _, tyE, by decide⟩
 cases hi : Tryz.prog.info? 248 with
 | none =>
  have h : (Tryz.prog.info? 248).isSome = true := by kernel_rfl
  rw [hi] at h; cases h
 | some inf =>
  exact ⟨inf, rfl, by
   have h : (Tryz.prog.info? 248).map (·.comparable) = some true := by kernel_rfl
   rw [hi] at h; simpa using h⟩
theorem g0 : Tryz.prog.globalNamed "io.EOF" = some 0 := by kernel_rfl
theorem g1 : Tryz.prog.globalNamed "io.ErrUnexpectedEOF" = some 1 := by kernel_rfl
theorem g2 : Tryz.prog.globalNamed "io.errInvalidWrite" = some 2 := by kernel_rfl
theorem g3 : Tryz.prog.globalNamed "io.ErrShortWrite" = some 3 := by kernel_rfl
theorem g4 : Tryz.prog.globalNamed "io.ErrShortBuffer" = some 4 := by kernel_rfl
theorem t0 : (Tryz.prog.globals[0]?).map (·.type) = some 99 := by kernel_rfl
theorem t1 : (Tryz.prog.globals[1]?).map (·.type) = some 99 := by kernel_rfl
theorem t2 : (Tryz.prog.globals[2]?).map (·.type) = some 99 := by kernel_rfl
theorem t3 : (Tryz.prog.globals[3]?).map (·.type) = some 99 := by kernel_rfl
theorem t4 : (Tryz.prog.globals[4]?).map (·.type) = some 99 := by kernel_rfl
theorem cE : Tryz.prog.cellsOf 250 = 1 := by kernel_rfl
theorem cS : Tryz.prog.cellsOf 9 = 1 := by kernel_rfl
set_option maxRecDepth 100000 in
theorem sn_laid {W : World} (h : laidMetH Tryz.prog Rows.fnVBackRow.laid W) : ∃ G pE pU, Has G W ∧ Sn G 248 pE pU := by
 rw [Go.MakeChecks.laidMetH_plain _ _ _ (by kernel_rfl)] at h
 obtain ⟨ps, hl, _, hall⟩ := h
 obtain ⟨_, q3, hl, hall⟩ := laid_err hl hall g3 t3 Tryz.underlying99 rowE Tryz.underlying248 Tryz.underlying250 rfl rfl Tryz.underlying9 cE cS
 obtain ⟨_, q2, hl, hall⟩ := laid_err hl hall g2 t2 Tryz.underlying99 rowE Tryz.underlying248 Tryz.underlying250 rfl rfl Tryz.underlying9 cE cS
 obtain ⟨⟨a4, s4, c4, u4, k4, f4, h4, x4, y4, z4⟩, q4, hl, hall⟩ := laid_err hl hall g4 t4 Tryz.underlying99 rowE Tryz.underlying248 Tryz.underlying250 rfl rfl Tryz.underlying9 cE cS
 obtain ⟨⟨a0, s0, c0, u0, k0, f0, h0, x0, y0, z0⟩, q0, hl, hall⟩ := laid_err hl hall g0 t0 Tryz.underlying99 rowE Tryz.underlying248 Tryz.underlying250 rfl rfl Tryz.underlying9 cE cS
 obtain ⟨⟨a1, s1, c1, u1, k1, f1, h1, x1, y1, z1⟩, q1, hl, hall⟩ := laid_err hl hall g1 t1 Tryz.underlying99 rowE Tryz.underlying248 Tryz.underlying250 rfl rfl Tryz.underlying9 cE cS
 have one : ∀ b o, W.heap[b]? = some o → Has [(b, o)] W := fun b o hb => ⟨fun b' o' hm => by rw [List.mem_singleton] at hm; cases hm; exact hb, by simp⟩
 obtain ⟨C, hC, hin⟩ := has_list (W := W) [[(0, _)], [(1, _)], [(4, _)], [(a0.block, _)], [(a1.block, _)]] (by
  intro A hA
  simp only [List.mem_cons, List.not_mem_nil, or_false] at hA
  rcases hA with rfl | rfl | rfl | rfl | rfl
  ·exact one _ _ h0
  ·exact one _ _ h1
  ·exact one _ _ h4
  ·exact one _ _ z0
  ·exact one _ _ z1)
 refine ⟨C, a0, a1, hC, ⟨⟨_, compE⟩, ⟨_, _, hin _ (.head _) _ (.head _)⟩, ⟨_, _, hin _ (.tail _ (.head _)) _ (.head _)⟩, ⟨_, _, _, _, hin _ (.tail _ (.tail _ (.head _))) _ (.head _)⟩, ?_, ⟨_, _, hin _ (.tail _ (.tail _ (.tail _ (.head _)))) _ (.head _)⟩, ⟨_, _, hin _ (.tail _ (.tail _ (.tail _ (.tail _ (.head _))))) _ (.head _)⟩, rfl⟩⟩
 rintro rfl
 rw [x0] at x1
 injection x1 with x1
 injection x1 with x1
 rw [← x1, y0] at y1
 exact absurd y1 (by decide)
end DN
end Go.Proofs.YtodlhaghdplclaaGreatDoor
