/- Fine headers. -/
import Derived.Test.YtodlhaghdplclaaDoorEQ
namespace Go.Proofs.YtodlhaghdplclaaDoor
open Go Go.RowKit V EA EB EC ED EE EF EG EH EI EJ EK EL EM EN EO EP EQ
set_option linter.unusedSimpArgs false
set_option linter.unusedVariables false
set_option maxRecDepth 10000
namespace ER
theorem flat2 : Flat Tryd.prog 2 := ⟨_, Tryd.underlying2, by simp⟩
theorem flat3 : Flat Tryd.prog 3 := ⟨_, Tryd.underlying3, by simp⟩
theorem flat9 : Flat Tryd.prog 9 := ⟨_, Tryd.underlying9, by simp⟩
theorem ty2 : Ty Tryd.prog 2 (.int .i64 0) 1 8 := ty_of (by kernel_rfl)
theorem ty3 : Ty Tryd.prog 3 (.int .i64 0) 1 8 := ty_of (by kernel_rfl)
theorem ty9 : Ty Tryd.prog 9 (S []) 1 16 := ty_of (by kernel_rfl)
theorem ty33 : Ty Tryd.prog 33 (.agg #[(.int .i64 0), (.int .i64 0), (.int .i64 0), (S [])]) 4 40 := ty_of (by kernel_rfl)
theorem ty35 : Ty Tryd.prog 35 (.agg #[(S []), (.int .i64 0), (.int .i64 0), (.int .i64 0), (S [])]) 5 56 := ty_of (by kernel_rfl)
theorem agg33 : Agg Tryd.prog 33 := agg_of Tryd.underlying33
theorem fld33_0 : Fld Tryd.prog 33 0 0 3 := fld_of Tryd.underlying33 rfl rfl rfl ty3 (by decide)
theorem fld33_1 : Fld Tryd.prog 33 1 1 3 := fld_of Tryd.underlying33 rfl rfl rfl ty3 (by decide)
theorem fld33_2 : Fld Tryd.prog 33 2 2 2 := fld_of Tryd.underlying33 rfl rfl rfl ty2 (by decide)
theorem fld33_3 : Fld Tryd.prog 33 3 3 9 := fld_of Tryd.underlying33 rfl rfl rfl ty9 (by decide)
theorem fld35_1 : Fld Tryd.prog 35 1 1 33 := fld_of Tryd.underlying35 rfl rfl rfl ty33 (by decide)

instance (h : HV) : Decidable (fineV h) := by unfold fineV; infer_instance
def fineB (h : HV) : Bool := decide (fineV h)
def intOk (l : List HV) : Prop := ∀ i, i < l.length → -9223372036854775808 ≤ (l.getD i HV0).int ∧ (l.getD i HV0).int ≤ 9223372036854775807 ∧ -9223372036854775808 ≤ (l.getD i HV0).width ∧ (l.getD i HV0).width ≤ 9223372036854775807
abbrev shT (w x : Int) : Int := Int.fdiv (IntKind.i64.wrap (x * 2 ^ (min (64 - w).toNat IntKind.i64.bits))) (2 ^ (min (64 - w).toNat IntKind.i64.bits))
theorem sh_law {w x : Int} (h1 : -9223372036854775808 ≤ x) (h2 : x ≤ 9223372036854775807) : (w = 8 → (shT w x = x ↔ -128 ≤ x ∧ x ≤ 127)) ∧ (w = 16 → (shT w x = x ↔ -32768 ≤ x ∧ x ≤ 32767)) ∧ (w = 32 → (shT w x = x ↔ -2147483648 ≤ x ∧ x ≤ 2147483647)) ∧ (w = 64 → shT w x = x) := by
  refine ⟨?_, ?_, ?_, ?_⟩ <;> rintro rfl <;> unfold shT <;> rw [Int.fdiv_eq_ediv_of_nonneg _ (Int.le_of_lt (Int.pow_pos (by decide)))]
  · rw [show min (64 - (8 : Int)).toNat IntKind.i64.bits = 56 by decide]; simp only [IntKind.wrap, IntKind.signed, IntKind.bits, Bool.true_and, decide_eq_true_eq]; by_cases hc : x * 2 ^ 56 % 2 ^ 64 ≥ 2 ^ (64 - 1) <;> simp only [hc, decide_true, decide_false, Bool.false_eq_true, if_true, if_false] <;> omega
  · rw [show min (64 - (16 : Int)).toNat IntKind.i64.bits = 48 by decide]; simp only [IntKind.wrap, IntKind.signed, IntKind.bits, Bool.true_and, decide_eq_true_eq]; by_cases hc : x * 2 ^ 48 % 2 ^ 64 ≥ 2 ^ (64 - 1) <;> simp only [hc, decide_true, decide_false, Bool.false_eq_true, if_true, if_false] <;> omega
  · rw [show min (64 - (32 : Int)).toNat IntKind.i64.bits = 32 by decide]; simp only [IntKind.wrap, IntKind.signed, IntKind.bits, Bool.true_and, decide_eq_true_eq]; by_cases hc : x * 2 ^ 32 % 2 ^ 64 ≥ 2 ^ (64 - 1) <;> simp only [hc, decide_true, decide_false, Bool.false_eq_true, if_true, if_false] <;> omega
  · rw [show min (64 - (64 : Int)).toNat IntKind.i64.bits = 0 by decide]; simp only [IntKind.wrap, IntKind.signed, IntKind.bits, Bool.true_and, decide_eq_true_eq]; by_cases hc : x * 2 ^ 0 % 2 ^ 64 ≥ 2 ^ (64 - 1) <;> simp only [hc, decide_true, decide_false, Bool.false_eq_true, if_true, if_false] <;> omega
/-- given.example/pub-tinwright/spec.VFine -/
theorem vFine (v : Value) (A : Hp) (l : List HV) (hr : RdS 5 v A l.length (recsV HV.row l)) (hint : intOk l) (hn : l.length ≤ 1000) : FnR Tryd.prog 6 [v] A (.bool (l.all fineB)) := by
  refine FnR.enter (n := 87) Tryd.func6 rfl rfl fun w0 => ?_
  refine WC.sub (fr' := [(0, _)]) ?_ ⟨rfl, trivial⟩
  refine WC.seq (WC.region ?_)
  refine WL.q (oq_assign rfl) rfl rfl rfl ?_
  refine WL.nil (WE.then_normal (WC.sub (fr' := [(0, _)]) ?_ ⟨rfl, trivial⟩))
  refine WC.seq (WC.seq (WC.region ?_))
  refine WL.q (oq_assign rfl) rfl rfl rfl ?_
  refine WL.nil (WE.then_normal (WC.sub (fr' := [(0, _), (3, _)]) ?_ ⟨rfl, rfl, trivial⟩))
  refine WC.block ?_
  refine WC.loop (ι := Nat) (fun (i : Nat) => [(0, v), (3, I (i : Int))]) (fun (i : Nat) => [A]) (fun (i : Nat) => i ≤ l.length ∧ (l.take i).all fineB = true) (fun (i : Nat) => l.length - i) (0) ?_ ⟨rfl, rfl, trivial⟩ (List.Perm.refl _) ?_
  · try dsimp only
    exact ⟨by omega, rfl⟩
  · rintro i hp
    try dsimp only at hp
    obtain ⟨hi, hall⟩ := hp
    show WC _ _ _ _ _ _ ([(0, v), (3, I (i : Int))]) ([A])
    refine WC.seq (WC.seq (WC.region ?_))
    refine WL.q (oq_move rfl) rfl rfl rfl ?_
    refine WL.q (oq_move rfl) rfl rfl rfl ?_
    refine WL.q (oq_len_rd hr Tryd.underlying22 rfl) rfl rfl rfl ?_
    refine WL.q (oq_lss rfl rfl) rfl rfl rfl ?_
    refine WL.nil (WE.then_normal (WC.sub (fr' := [(0, _), (3, _), (9, _)]) ?_ ⟨rfl, rfl, rfl, trivial⟩))
    refine WC.cond rfl (fun q2 => ?_) (fun q2 => ?_)
    ·
      try simp only [Z1, Z2, Z3, Z4, Z5, Z6, Z7, Z8, Z9, Z0] at q2
      refine WC.skip (WE.then_normal (WC.sub (fr' := [(0, _), (3, _)]) ?_ ⟨rfl, rfl, trivial⟩))
      refine WC.seq (WC.block (WC.seq ?_))
      have hlt : i < l.length := by omega
      obtain ⟨hi1, hi2, hi3, hi4⟩ := hint i hlt
      obtain ⟨hs8, hs16, hs32, hs64⟩ := sh_law (w := (l.getD i HV0).width) hi1 hi2
      simp only [shT] at hs8 hs16 hs32 hs64
      refine WC.region ?_
      refine WL.q (oq_move rfl) rfl rfl rfl ?_
      refine WL.q (oq_move rfl) rfl rfl rfl ?_
      refine WL.q (oq_ixaddr hr Tryd.underlying22 ty35 rfl rfl (by (first | omega | (simp only [List.length_cons, List.length_nil, List.length_append, List.length_drop, List.length_take]; omega)))) rfl rfl rfl ?_
      refine WL.q (oq_fldEl fld35_1 hr rfl (by (first | omega | (simp only [List.length_cons, List.length_nil, List.length_append, List.length_drop, List.length_take]; omega)))) rfl rfl rfl ?_
      refine WL.q (oq_loadFS (f := HV.row) HV0 [_, _, _, _] (fun _ => rfl) agg33 ty33 hr (.head _) rfl (by (first | omega | (simp only [List.length_cons, List.length_nil, List.length_append, List.length_drop, List.length_take]; omega))) (by first | exact Int.toNat_natCast _ | exact rfl) (by decide) rfl rfl) rfl rfl rfl ?_
      refine WL.alloc ty33 rfl rfl fun o4 ho4 => ?_
      refine WL.storeS #[_, _, _, _] ty33 rfl rfl rfl rfl (Nat.le_of_ble_eq_true rfl) rfl rfl ?_
      refine WL.nil (WE.then_normal (WC.sub (fr' := [(0, _), (3, _), (4, _)]) ?_ ⟨rfl, rfl, rfl, trivial⟩))
      refine WC.seq (WC.region ?_)
      refine WL.q (oq_fieldAddr fld33_1 rfl) rfl rfl rfl ?_
      refine WL.q (oq_load flat3 rfl (.head _) (List.mem_singleton.2 rfl) rfl) rfl rfl rfl ?_
      refine WL.q (oq_assign rfl) rfl rfl rfl ?_
      refine WL.nil (WE.then_normal (WC.sub (fr' := [(0, _), (3, _), (4, _), (5, _)]) ?_ ⟨rfl, rfl, rfl, rfl, trivial⟩))
      refine WC.seq (WC.quiet (by kernel_rfl) (by kernel_rfl) ?_)
      refine WQ.q (oq_fieldAddr fld33_0 rfl) rfl rfl rfl ?_
      refine WQ.q (oq_load flat3 rfl (.head _) (List.mem_singleton.2 rfl) rfl) rfl rfl rfl ?_
      refine WQ.q (oq_lss rfl rfl) rfl rfl rfl ?_
      refine WQ.q (oq_move rfl) rfl rfl rfl ?_
      refine WQ.split 22 rfl (fun s6_3 => ?_) (fun s6_3 => ?_)
      ·
        try simp only [Z1, Z2, Z3, Z4, Z5, Z6, Z7, Z8, Z9, Z0] at s6_3
        refine WQ.skip rfl rfl rfl ?_
        refine WQ.skip rfl rfl rfl ?_
        refine WQ.skip rfl rfl rfl ?_
        refine WQ.q (oq_pick_t rfl rfl) rfl rfl rfl ?_
        refine WQ.q (oq_move rfl) rfl rfl rfl ?_
        refine WQ.skip rfl rfl rfl ?_
        refine WQ.skip rfl rfl rfl ?_
        refine WQ.skip rfl rfl rfl ?_
        refine WQ.skip rfl rfl rfl ?_
        refine WQ.skip rfl rfl rfl ?_
        refine WQ.skip rfl rfl rfl ?_
        refine WQ.skip rfl rfl rfl ?_
        refine WQ.skip rfl rfl rfl ?_
        refine WQ.skip rfl rfl rfl ?_
        refine WQ.skip rfl rfl rfl ?_
        refine WQ.skip rfl rfl rfl ?_
        refine WQ.skip rfl rfl rfl ?_
        refine WQ.skip rfl rfl rfl ?_
        refine WQ.skip rfl rfl rfl ?_
        refine WQ.skip rfl rfl rfl ?_
        refine WQ.skip rfl rfl rfl ?_
        refine WQ.skip rfl rfl rfl ?_
        refine WQ.skip rfl rfl rfl ?_
        refine WQ.skip rfl rfl rfl ?_
        refine WQ.skip rfl rfl rfl ?_
        refine WQ.skip rfl rfl rfl ?_
        refine WQ.skip rfl rfl rfl ?_
        refine WQ.skip rfl rfl rfl ?_
        refine WQ.skip rfl rfl rfl ?_
        refine WQ.skip rfl rfl rfl ?_
        refine WQ.skip rfl rfl rfl ?_
        refine WQ.skip rfl rfl rfl ?_
        refine WQ.skip rfl rfl rfl ?_
        refine WQ.skip rfl rfl rfl ?_
        refine WQ.skip rfl rfl rfl ?_
        refine WQ.skip rfl rfl rfl ?_
        refine WQ.skip rfl rfl rfl ?_
        refine WQ.q (oq_pick_t rfl rfl) rfl rfl rfl ?_
        refine WQ.q (oq_move rfl) rfl rfl rfl ?_
        refine WQ.skip rfl rfl rfl ?_
        refine WQ.skip rfl rfl rfl ?_
        refine WQ.skip rfl rfl rfl ?_
        refine WQ.skip rfl rfl rfl ?_
        refine WQ.skip rfl rfl rfl ?_
        refine WQ.skip rfl rfl rfl ?_
        refine WQ.skip rfl rfl rfl ?_
        refine WQ.skip rfl rfl rfl ?_
        refine WQ.skip rfl rfl rfl ?_
        refine WQ.q (oq_pick_t rfl rfl) rfl rfl rfl ?_
        refine WQ.q (oq_move rfl) rfl rfl rfl ?_
        refine WQ.skip rfl rfl rfl ?_
        refine WQ.skip rfl rfl rfl ?_
        refine WQ.skip rfl rfl rfl ?_
        refine WQ.skip rfl rfl rfl ?_
        refine WQ.skip rfl rfl rfl ?_
        refine WQ.skip rfl rfl rfl ?_
        refine WQ.skip rfl rfl rfl ?_
        refine WQ.skip rfl rfl rfl ?_
        refine WQ.skip rfl rfl rfl ?_
        refine WQ.skip rfl rfl rfl ?_
        refine WQ.skip rfl rfl rfl ?_
        refine WQ.skip rfl rfl rfl ?_
        refine WQ.skip rfl rfl rfl ?_
        refine WQ.q (oq_pick_t rfl rfl) rfl rfl rfl ?_
        refine WQ.nil (WE.then_normal (WC.sub (fr' := [(0, _), (3, _), (86, _)]) ?_ ⟨rfl, rfl, rfl, trivial⟩))
        refine WC.cond_t rfl ?_
        refine WC.seq (WC.region ?_)
        refine WL.q (oq_assign rfl) rfl rfl rfl ?_
        refine WL.nil (WE.then_normal (WC.sub (fr' := [(2, _)]) ?_ ⟨rfl, trivial⟩))
        refine WC.ret (WE.block_ret (WE.then_ret (WE.then_ret (WE.block_ret (WE.then_ret ?_)))))
        refine WE.lose ho4 ?_
        refine WE.endR (.inl rfl) (res1 Tryd.results6 rfl) ?_
        -- end 0
        exact congrArg Value.bool (all_not hlt (decide_eq_false (by unfold fineV; omega))).symm
      ·
        try simp only [Z1, Z2, Z3, Z4, Z5, Z6, Z7, Z8, Z9, Z0] at s6_3
        refine WQ.q (oq_fieldAddr fld33_0 rfl) rfl rfl rfl ?_
        refine WQ.q (oq_load flat3 rfl (.head _) (List.mem_singleton.2 rfl) rfl) rfl rfl rfl ?_
        refine WQ.q (oq_gtr rfl rfl) rfl rfl rfl ?_
        refine WQ.q (oq_pick_f rfl rfl) rfl rfl rfl ?_
        refine WQ.q (oq_move rfl) rfl rfl rfl ?_
        refine WQ.split 27 rfl (fun s6_8 => ?_) (fun s6_8 => ?_)
        ·
          try simp only [Z1, Z2, Z3, Z4, Z5, Z6, Z7, Z8, Z9, Z0] at s6_8
          refine WQ.skip rfl rfl rfl ?_
          refine WQ.skip rfl rfl rfl ?_
          refine WQ.skip rfl rfl rfl ?_
          refine WQ.skip rfl rfl rfl ?_
          refine WQ.skip rfl rfl rfl ?_
          refine WQ.skip rfl rfl rfl ?_
          refine WQ.skip rfl rfl rfl ?_
          refine WQ.skip rfl rfl rfl ?_
          refine WQ.skip rfl rfl rfl ?_
          refine WQ.skip rfl rfl rfl ?_
          refine WQ.skip rfl rfl rfl ?_
          refine WQ.skip rfl rfl rfl ?_
          refine WQ.skip rfl rfl rfl ?_
          refine WQ.skip rfl rfl rfl ?_
          refine WQ.skip rfl rfl rfl ?_
          refine WQ.skip rfl rfl rfl ?_
          refine WQ.skip rfl rfl rfl ?_
          refine WQ.skip rfl rfl rfl ?_
          refine WQ.skip rfl rfl rfl ?_
          refine WQ.skip rfl rfl rfl ?_
          refine WQ.skip rfl rfl rfl ?_
          refine WQ.skip rfl rfl rfl ?_
          refine WQ.skip rfl rfl rfl ?_
          refine WQ.skip rfl rfl rfl ?_
          refine WQ.skip rfl rfl rfl ?_
          refine WQ.skip rfl rfl rfl ?_
          refine WQ.skip rfl rfl rfl ?_
          refine WQ.skip rfl rfl rfl ?_
          refine WQ.skip rfl rfl rfl ?_
          refine WQ.skip rfl rfl rfl ?_
          refine WQ.skip rfl rfl rfl ?_
          refine WQ.skip rfl rfl rfl ?_
          refine WQ.q (oq_pick_t rfl rfl) rfl rfl rfl ?_
          refine WQ.q (oq_move rfl) rfl rfl rfl ?_
          refine WQ.skip rfl rfl rfl ?_
          refine WQ.skip rfl rfl rfl ?_
          refine WQ.skip rfl rfl rfl ?_
          refine WQ.skip rfl rfl rfl ?_
          refine WQ.skip rfl rfl rfl ?_
          refine WQ.skip rfl rfl rfl ?_
          refine WQ.skip rfl rfl rfl ?_
          refine WQ.skip rfl rfl rfl ?_
          refine WQ.skip rfl rfl rfl ?_
          refine WQ.q (oq_pick_t rfl rfl) rfl rfl rfl ?_
          refine WQ.q (oq_move rfl) rfl rfl rfl ?_
          refine WQ.skip rfl rfl rfl ?_
          refine WQ.skip rfl rfl rfl ?_
          refine WQ.skip rfl rfl rfl ?_
          refine WQ.skip rfl rfl rfl ?_
          refine WQ.skip rfl rfl rfl ?_
          refine WQ.skip rfl rfl rfl ?_
          refine WQ.skip rfl rfl rfl ?_
          refine WQ.skip rfl rfl rfl ?_
          refine WQ.skip rfl rfl rfl ?_
          refine WQ.skip rfl rfl rfl ?_
          refine WQ.skip rfl rfl rfl ?_
          refine WQ.skip rfl rfl rfl ?_
          refine WQ.skip rfl rfl rfl ?_
          refine WQ.q (oq_pick_t rfl rfl) rfl rfl rfl ?_
          refine WQ.nil (WE.then_normal (WC.sub (fr' := [(0, _), (3, _), (86, _)]) ?_ ⟨rfl, rfl, rfl, trivial⟩))
          refine WC.cond_t rfl ?_
          refine WC.seq (WC.region ?_)
          refine WL.q (oq_assign rfl) rfl rfl rfl ?_
          refine WL.nil (WE.then_normal (WC.sub (fr' := [(2, _)]) ?_ ⟨rfl, trivial⟩))
          refine WC.ret (WE.block_ret (WE.then_ret (WE.then_ret (WE.block_ret (WE.then_ret ?_)))))
          refine WE.lose ho4 ?_
          refine WE.endR (.inl rfl) (res1 Tryd.results6 rfl) ?_
          -- end 1
          exact congrArg Value.bool (all_not hlt (decide_eq_false (by unfold fineV; omega))).symm
        ·
          try simp only [Z1, Z2, Z3, Z4, Z5, Z6, Z7, Z8, Z9, Z0] at s6_8
          refine WQ.q (oq_fieldAddr fld33_0 rfl) rfl rfl rfl ?_
          refine WQ.q (oq_load flat3 rfl (.head _) (List.mem_singleton.2 rfl) rfl) rfl rfl rfl ?_
          refine WQ.q (oq_eql rfl rfl) rfl rfl rfl ?_
          refine WQ.q (oq_move rfl) rfl rfl rfl ?_
          refine WQ.split 31 rfl (fun s6_12 => ?_) (fun s6_12 => ?_)
          ·
            try simp only [Z1, Z2, Z3, Z4, Z5, Z6, Z7, Z8, Z9, Z0] at s6_12
            refine WQ.q (oq_move rfl) rfl rfl rfl ?_
            refine WQ.q (oq_neq rfl rfl) rfl rfl rfl ?_
            refine WQ.q (oq_move rfl) rfl rfl rfl ?_
            refine WQ.split 34 rfl (fun s6_15 => ?_) (fun s6_15 => ?_)
            ·
              try simp only [Z1, Z2, Z3, Z4, Z5, Z6, Z7, Z8, Z9, Z0] at s6_15
              refine WQ.q (oq_move rfl) rfl rfl rfl ?_
              refine WQ.q (oq_neq rfl rfl) rfl rfl rfl ?_
              refine WQ.q (oq_pick_t rfl rfl) rfl rfl rfl ?_
              refine WQ.q (oq_move rfl) rfl rfl rfl ?_
              refine WQ.split 38 rfl (fun s6_19 => ?_) (fun s6_19 => ?_)
              ·
                try simp only [Z1, Z2, Z3, Z4, Z5, Z6, Z7, Z8, Z9, Z0] at s6_19
                refine WQ.q (oq_move rfl) rfl rfl rfl ?_
                refine WQ.q (oq_neq rfl rfl) rfl rfl rfl ?_
                refine WQ.q (oq_pick_t rfl rfl) rfl rfl rfl ?_
                refine WQ.q (oq_move rfl) rfl rfl rfl ?_
                refine WQ.split 42 rfl (fun s6_23 => ?_) (fun s6_23 => ?_)
                ·
                  try simp only [Z1, Z2, Z3, Z4, Z5, Z6, Z7, Z8, Z9, Z0] at s6_23
                  refine WQ.q (oq_move rfl) rfl rfl rfl ?_
                  refine WQ.q (oq_neq rfl rfl) rfl rfl rfl ?_
                  refine WQ.q (oq_pick_t rfl rfl) rfl rfl rfl ?_
                  refine WQ.q (oq_move rfl) rfl rfl rfl ?_
                  refine WQ.split 46 rfl (fun s6_27 => ?_) (fun s6_27 => ?_)
                  ·
                    try simp only [Z1, Z2, Z3, Z4, Z5, Z6, Z7, Z8, Z9, Z0] at s6_27
                    refine WQ.skip rfl rfl rfl ?_
                    refine WQ.skip rfl rfl rfl ?_
                    refine WQ.skip rfl rfl rfl ?_
                    refine WQ.skip rfl rfl rfl ?_
                    refine WQ.skip rfl rfl rfl ?_
                    refine WQ.skip rfl rfl rfl ?_
                    refine WQ.skip rfl rfl rfl ?_
                    refine WQ.skip rfl rfl rfl ?_
                    refine WQ.skip rfl rfl rfl ?_
                    refine WQ.skip rfl rfl rfl ?_
                    refine WQ.skip rfl rfl rfl ?_
                    refine WQ.q (oq_pick_t rfl rfl) rfl rfl rfl ?_
                    refine WQ.q (oq_pick_t rfl rfl) rfl rfl rfl ?_
                    refine WQ.q (oq_pick_f rfl rfl) rfl rfl rfl ?_
                    refine WQ.q (oq_move rfl) rfl rfl rfl ?_
                    refine WQ.skip rfl rfl rfl ?_
                    refine WQ.skip rfl rfl rfl ?_
                    refine WQ.skip rfl rfl rfl ?_
                    refine WQ.skip rfl rfl rfl ?_
                    refine WQ.skip rfl rfl rfl ?_
                    refine WQ.skip rfl rfl rfl ?_
                    refine WQ.skip rfl rfl rfl ?_
                    refine WQ.skip rfl rfl rfl ?_
                    refine WQ.skip rfl rfl rfl ?_
                    refine WQ.q (oq_pick_t rfl rfl) rfl rfl rfl ?_
                    refine WQ.q (oq_move rfl) rfl rfl rfl ?_
                    refine WQ.skip rfl rfl rfl ?_
                    refine WQ.skip rfl rfl rfl ?_
                    refine WQ.skip rfl rfl rfl ?_
                    refine WQ.skip rfl rfl rfl ?_
                    refine WQ.skip rfl rfl rfl ?_
                    refine WQ.skip rfl rfl rfl ?_
                    refine WQ.skip rfl rfl rfl ?_
                    refine WQ.skip rfl rfl rfl ?_
                    refine WQ.skip rfl rfl rfl ?_
                    refine WQ.skip rfl rfl rfl ?_
                    refine WQ.skip rfl rfl rfl ?_
                    refine WQ.skip rfl rfl rfl ?_
                    refine WQ.skip rfl rfl rfl ?_
                    refine WQ.q (oq_pick_t rfl rfl) rfl rfl rfl ?_
                    refine WQ.nil (WE.then_normal (WC.sub (fr' := [(0, _), (3, _), (86, _)]) ?_ ⟨rfl, rfl, rfl, trivial⟩))
                    refine WC.cond_t rfl ?_
                    refine WC.seq (WC.region ?_)
                    refine WL.q (oq_assign rfl) rfl rfl rfl ?_
                    refine WL.nil (WE.then_normal (WC.sub (fr' := [(2, _)]) ?_ ⟨rfl, trivial⟩))
                    refine WC.ret (WE.block_ret (WE.then_ret (WE.then_ret (WE.block_ret (WE.then_ret ?_)))))
                    refine WE.lose ho4 ?_
                    refine WE.endR (.inl rfl) (res1 Tryd.results6 rfl) ?_
                    -- end 2
                    exact congrArg Value.bool (all_not hlt (decide_eq_false (by unfold fineV; omega))).symm
                  ·
                    try simp only [Z1, Z2, Z3, Z4, Z5, Z6, Z7, Z8, Z9, Z0] at s6_27
                    refine WQ.q (oq_fieldAddr fld33_2 rfl) rfl rfl rfl ?_
                    refine WQ.q (oq_load flat2 rfl (.head _) (List.mem_singleton.2 rfl) rfl) rfl rfl rfl ?_
                    refine WQ.q (oq_move rfl) rfl rfl rfl ?_
                    refine WQ.q (oq_sub rfl rfl (by rw [i64_lo, i64_hi]; (first | omega | (simp only [List.length_cons, List.length_nil, List.length_append, List.length_drop, List.length_take]; omega)))) rfl rfl rfl ?_
                    refine WQ.q (oq_shl rfl rfl (by omega)) rfl rfl rfl ?_
                    refine WQ.q (oq_move rfl) rfl rfl rfl ?_
                    refine WQ.q (oq_sub rfl rfl (by rw [i64_lo, i64_hi]; (first | omega | (simp only [List.length_cons, List.length_nil, List.length_append, List.length_drop, List.length_take]; omega)))) rfl rfl rfl ?_
                    refine WQ.q (oq_shr rfl rfl (by omega)) rfl rfl rfl ?_
                    refine WQ.q (oq_fieldAddr fld33_2 rfl) rfl rfl rfl ?_
                    refine WQ.q (oq_load flat2 rfl (.head _) (List.mem_singleton.2 rfl) rfl) rfl rfl rfl ?_
                    refine WQ.q (oq_neq rfl rfl) rfl rfl rfl ?_
                    refine WQ.q (oq_pick_f rfl rfl) rfl rfl rfl ?_
                    refine WQ.q (oq_pick_t rfl rfl) rfl rfl rfl ?_
                    refine WQ.q (oq_pick_f rfl rfl) rfl rfl rfl ?_
                    refine WQ.q (oq_move rfl) rfl rfl rfl ?_
                    refine WQ.split 61 rfl (fun s6_42 => ?_) (fun s6_42 => ?_)
                    ·
                      try simp only [Z1, Z2, Z3, Z4, Z5, Z6, Z7, Z8, Z9, Z0] at s6_42
                      refine WQ.skip rfl rfl rfl ?_
                      refine WQ.skip rfl rfl rfl ?_
                      refine WQ.skip rfl rfl rfl ?_
                      refine WQ.skip rfl rfl rfl ?_
                      refine WQ.skip rfl rfl rfl ?_
                      refine WQ.skip rfl rfl rfl ?_
                      refine WQ.skip rfl rfl rfl ?_
                      refine WQ.skip rfl rfl rfl ?_
                      refine WQ.skip rfl rfl rfl ?_
                      refine WQ.q (oq_pick_t rfl rfl) rfl rfl rfl ?_
                      refine WQ.q (oq_move rfl) rfl rfl rfl ?_
                      refine WQ.skip rfl rfl rfl ?_
                      refine WQ.skip rfl rfl rfl ?_
                      refine WQ.skip rfl rfl rfl ?_
                      refine WQ.skip rfl rfl rfl ?_
                      refine WQ.skip rfl rfl rfl ?_
                      refine WQ.skip rfl rfl rfl ?_
                      refine WQ.skip rfl rfl rfl ?_
                      refine WQ.skip rfl rfl rfl ?_
                      refine WQ.skip rfl rfl rfl ?_
                      refine WQ.skip rfl rfl rfl ?_
                      refine WQ.skip rfl rfl rfl ?_
                      refine WQ.skip rfl rfl rfl ?_
                      refine WQ.skip rfl rfl rfl ?_
                      refine WQ.q (oq_pick_t rfl rfl) rfl rfl rfl ?_
                      refine WQ.nil (WE.then_normal (WC.sub (fr' := [(0, _), (3, _), (86, _)]) ?_ ⟨rfl, rfl, rfl, trivial⟩))
                      refine WC.cond_t rfl ?_
                      refine WC.seq (WC.region ?_)
                      refine WL.q (oq_assign rfl) rfl rfl rfl ?_
                      refine WL.nil (WE.then_normal (WC.sub (fr' := [(2, _)]) ?_ ⟨rfl, trivial⟩))
                      refine WC.ret (WE.block_ret (WE.then_ret (WE.then_ret (WE.block_ret (WE.then_ret ?_)))))
                      refine WE.lose ho4 ?_
                      refine WE.endR (.inl rfl) (res1 Tryd.results6 rfl) ?_
                      -- end 3
                      exact congrArg Value.bool (all_not hlt (decide_eq_false (by unfold fineV; omega))).symm
                    ·
                      try simp only [Z1, Z2, Z3, Z4, Z5, Z6, Z7, Z8, Z9, Z0] at s6_42
                      refine WQ.q (oq_fieldAddr fld33_0 rfl) rfl rfl rfl ?_
                      refine WQ.q (oq_load flat3 rfl (.head _) (List.mem_singleton.2 rfl) rfl) rfl rfl rfl ?_
                      refine WQ.q (oq_eql rfl rfl) rfl rfl rfl ?_
                      refine WQ.q (oq_move rfl) rfl rfl rfl ?_
                      refine WQ.split 65 rfl (fun s6_46 => ?_) (fun s6_46 => ?_)
                      ·
                        try simp only [Z1, Z2, Z3, Z4, Z5, Z6, Z7, Z8, Z9, Z0] at s6_46
                        refine WQ.q (oq_fieldAddr fld33_3 rfl) rfl rfl rfl ?_
                        refine WQ.q (oq_load flat9 rfl (.head _) (List.mem_singleton.2 rfl) rfl) rfl rfl rfl ?_
                        refine WQ.q (oq_len_s Tryd.underlying9 rfl) rfl rfl rfl ?_
                        refine WQ.q (oq_neq rfl rfl) rfl rfl rfl ?_
                        refine WQ.q (oq_pick_t rfl rfl) rfl rfl rfl ?_
                        refine WQ.q (oq_pick_f rfl rfl) rfl rfl rfl ?_
                        refine WQ.q (oq_move rfl) rfl rfl rfl ?_
                        refine WQ.split 72 rfl (fun s6_53 => ?_) (fun s6_53 => ?_)
                        ·
                          try simp only [Z1, Z2, Z3, Z4, Z5, Z6, Z7, Z8, Z9, Z0] at s6_53
                          refine WQ.skip rfl rfl rfl ?_
                          refine WQ.skip rfl rfl rfl ?_
                          refine WQ.skip rfl rfl rfl ?_
                          refine WQ.skip rfl rfl rfl ?_
                          refine WQ.skip rfl rfl rfl ?_
                          refine WQ.skip rfl rfl rfl ?_
                          refine WQ.skip rfl rfl rfl ?_
                          refine WQ.skip rfl rfl rfl ?_
                          refine WQ.skip rfl rfl rfl ?_
                          refine WQ.skip rfl rfl rfl ?_
                          refine WQ.skip rfl rfl rfl ?_
                          refine WQ.skip rfl rfl rfl ?_
                          refine WQ.skip rfl rfl rfl ?_
                          refine WQ.q (oq_pick_t rfl rfl) rfl rfl rfl ?_
                          refine WQ.nil (WE.then_normal (WC.sub (fr' := [(0, _), (3, _), (86, _)]) ?_ ⟨rfl, rfl, rfl, trivial⟩))
                          refine WC.cond_t rfl ?_
                          refine WC.seq (WC.region ?_)
                          refine WL.q (oq_assign rfl) rfl rfl rfl ?_
                          refine WL.nil (WE.then_normal (WC.sub (fr' := [(2, _)]) ?_ ⟨rfl, trivial⟩))
                          refine WC.ret (WE.block_ret (WE.then_ret (WE.then_ret (WE.block_ret (WE.then_ret ?_)))))
                          refine WE.lose ho4 ?_
                          refine WE.endR (.inl rfl) (res1 Tryd.results6 rfl) ?_
                          -- end 4
                          exact congrArg Value.bool (all_not hlt (decide_eq_false (by unfold fineV; omega))).symm
                        ·
                          try simp only [Z1, Z2, Z3, Z4, Z5, Z6, Z7, Z8, Z9, Z0] at s6_53
                          refine WQ.q (oq_fieldAddr fld33_0 rfl) rfl rfl rfl ?_
                          refine WQ.q (oq_load flat3 rfl (.head _) (List.mem_singleton.2 rfl) rfl) rfl rfl rfl ?_
                          refine WQ.q (oq_eql rfl rfl) rfl rfl rfl ?_
                          refine WQ.q (oq_move rfl) rfl rfl rfl ?_
                          refine WQ.split 76 rfl (fun s6_57 => ?_) (fun s6_57 => ?_)
                          ·
                            try simp only [Z1, Z2, Z3, Z4, Z5, Z6, Z7, Z8, Z9, Z0] at s6_57
                            refine WQ.q (oq_fieldAddr fld33_2 rfl) rfl rfl rfl ?_
                            refine WQ.q (oq_load flat2 rfl (.head _) (List.mem_singleton.2 rfl) rfl) rfl rfl rfl ?_
                            refine WQ.q (oq_gtr rfl rfl) rfl rfl rfl ?_
                            refine WQ.q (oq_move rfl) rfl rfl rfl ?_
                            refine WQ.split 80 rfl (fun s6_61 => ?_) (fun s6_61 => ?_)
                            ·
                              try simp only [Z1, Z2, Z3, Z4, Z5, Z6, Z7, Z8, Z9, Z0] at s6_61
                              refine WQ.skip rfl rfl rfl ?_
                              refine WQ.skip rfl rfl rfl ?_
                              refine WQ.skip rfl rfl rfl ?_
                              refine WQ.q (oq_pick_t rfl rfl) rfl rfl rfl ?_
                              refine WQ.q (oq_pick_t rfl rfl) rfl rfl rfl ?_
                              refine WQ.q (oq_pick_f rfl rfl) rfl rfl rfl ?_
                              refine WQ.nil (WE.then_normal (WC.sub (fr' := [(0, _), (3, _), (86, _)]) ?_ ⟨rfl, rfl, rfl, trivial⟩))
                              refine WC.cond_t rfl ?_
                              refine WC.seq (WC.region ?_)
                              refine WL.q (oq_assign rfl) rfl rfl rfl ?_
                              refine WL.nil (WE.then_normal (WC.sub (fr' := [(2, _)]) ?_ ⟨rfl, trivial⟩))
                              refine WC.ret (WE.block_ret (WE.then_ret (WE.then_ret (WE.block_ret (WE.then_ret ?_)))))
                              refine WE.lose ho4 ?_
                              refine WE.endR (.inl rfl) (res1 Tryd.results6 rfl) ?_
                              -- end 5
                              exact congrArg Value.bool (all_not hlt (decide_eq_false (by unfold fineV; omega))).symm
                            ·
                              try simp only [Z1, Z2, Z3, Z4, Z5, Z6, Z7, Z8, Z9, Z0] at s6_61
                              refine WQ.q (oq_fieldAddr fld33_2 rfl) rfl rfl rfl ?_
                              refine WQ.q (oq_load flat2 rfl (.head _) (List.mem_singleton.2 rfl) rfl) rfl rfl rfl ?_
                              refine WQ.q (oq_lss rfl rfl) rfl rfl rfl ?_
                              refine WQ.q (oq_pick_f rfl rfl) rfl rfl rfl ?_
                              refine WQ.q (oq_pick_t rfl rfl) rfl rfl rfl ?_
                              refine WQ.q (oq_pick_f rfl rfl) rfl rfl rfl ?_
                              refine WQ.nil (WE.then_normal (WC.sub (fr' := [(0, _), (3, _), (86, _)]) ?_ ⟨rfl, rfl, rfl, trivial⟩))
                              refine WC.cond rfl (fun q6 => ?_) (fun q6 => ?_)
                              ·
                                try simp only [Z1, Z2, Z3, Z4, Z5, Z6, Z7, Z8, Z9, Z0] at q6
                                refine WC.seq (WC.region ?_)
                                refine WL.q (oq_assign rfl) rfl rfl rfl ?_
                                refine WL.nil (WE.then_normal (WC.sub (fr' := [(2, _)]) ?_ ⟨rfl, trivial⟩))
                                refine WC.ret (WE.block_ret (WE.then_ret (WE.then_ret (WE.block_ret (WE.then_ret ?_)))))
                                refine WE.lose ho4 ?_
                                refine WE.endR (.inl rfl) (res1 Tryd.results6 rfl) ?_
                                -- end 6
                                exact congrArg Value.bool (all_not hlt (decide_eq_false (by unfold fineV; omega))).symm
                              ·
                                try simp only [Z1, Z2, Z3, Z4, Z5, Z6, Z7, Z8, Z9, Z0] at q6
                                refine WC.skip (WE.block_normal (WE.then_normal (WC.sub (fr' := [(0, _), (3, _)]) ?_ ⟨rfl, rfl, trivial⟩)))
                                refine WC.region ?_
                                refine WL.q (oq_move rfl) rfl rfl rfl ?_
                                refine WL.q (oq_add rfl rfl (by rw [i64_lo, i64_hi]; (first | omega | (simp only [List.length_cons, List.length_nil, List.length_append, List.length_drop, List.length_take]; omega)))) rfl rfl rfl ?_
                                refine WL.q (oq_assign rfl) rfl rfl rfl ?_
                                refine WL.nil ?_
                                refine WE.lose ho4 ?_
                                refine WE.again (i + 1) ?_ ?_ ⟨rfl, rfl, trivial⟩ (List.Perm.refl _)
                                · try dsimp only   -- again 0
                                  exact ⟨by omega, all_snoc (by omega) hall (decide_eq_true (by unfold fineV; omega))⟩
                                · (try dsimp only); omega
                          ·
                            try simp only [Z1, Z2, Z3, Z4, Z5, Z6, Z7, Z8, Z9, Z0] at s6_57
                            refine WQ.skip rfl rfl rfl ?_
                            refine WQ.skip rfl rfl rfl ?_
                            refine WQ.skip rfl rfl rfl ?_
                            refine WQ.skip rfl rfl rfl ?_
                            refine WQ.skip rfl rfl rfl ?_
                            refine WQ.skip rfl rfl rfl ?_
                            refine WQ.skip rfl rfl rfl ?_
                            refine WQ.skip rfl rfl rfl ?_
                            refine WQ.q (oq_pick_f rfl rfl) rfl rfl rfl ?_
                            refine WQ.q (oq_pick_f rfl rfl) rfl rfl rfl ?_
                            refine WQ.nil (WE.then_normal (WC.sub (fr' := [(0, _), (3, _), (86, _)]) ?_ ⟨rfl, rfl, rfl, trivial⟩))
                            refine WC.cond_f rfl ?_
                            refine WC.skip (WE.block_normal (WE.then_normal (WC.sub (fr' := [(0, _), (3, _)]) ?_ ⟨rfl, rfl, trivial⟩)))
                            refine WC.region ?_
                            refine WL.q (oq_move rfl) rfl rfl rfl ?_
                            refine WL.q (oq_add rfl rfl (by rw [i64_lo, i64_hi]; (first | omega | (simp only [List.length_cons, List.length_nil, List.length_append, List.length_drop, List.length_take]; omega)))) rfl rfl rfl ?_
                            refine WL.q (oq_assign rfl) rfl rfl rfl ?_
                            refine WL.nil ?_
                            refine WE.lose ho4 ?_
                            refine WE.again (i + 1) ?_ ?_ ⟨rfl, rfl, trivial⟩ (List.Perm.refl _)
                            · try dsimp only   -- again 1
                              exact ⟨by omega, all_snoc (by omega) hall (decide_eq_true (by unfold fineV; omega))⟩
                            · (try dsimp only); omega
                      ·
                        try simp only [Z1, Z2, Z3, Z4, Z5, Z6, Z7, Z8, Z9, Z0] at s6_46
                        refine WQ.skip rfl rfl rfl ?_
                        refine WQ.skip rfl rfl rfl ?_
                        refine WQ.skip rfl rfl rfl ?_
                        refine WQ.skip rfl rfl rfl ?_
                        refine WQ.q (oq_pick_f rfl rfl) rfl rfl rfl ?_
                        refine WQ.q (oq_pick_f rfl rfl) rfl rfl rfl ?_
                        refine WQ.q (oq_move rfl) rfl rfl rfl ?_
                        refine WQ.q (oq_fieldAddr fld33_0 rfl) rfl rfl rfl ?_
                        refine WQ.q (oq_load flat3 rfl (.head _) (List.mem_singleton.2 rfl) rfl) rfl rfl rfl ?_
                        refine WQ.q (oq_eql rfl rfl) rfl rfl rfl ?_
                        refine WQ.q (oq_move rfl) rfl rfl rfl ?_
                        refine WQ.split 76 rfl (fun s6_57 => ?_) (fun s6_57 => ?_)
                        ·
                          try simp only [Z1, Z2, Z3, Z4, Z5, Z6, Z7, Z8, Z9, Z0] at s6_57
                          refine WQ.q (oq_fieldAddr fld33_2 rfl) rfl rfl rfl ?_
                          refine WQ.q (oq_load flat2 rfl (.head _) (List.mem_singleton.2 rfl) rfl) rfl rfl rfl ?_
                          refine WQ.q (oq_gtr rfl rfl) rfl rfl rfl ?_
                          refine WQ.q (oq_move rfl) rfl rfl rfl ?_
                          refine WQ.split 80 rfl (fun s6_61 => ?_) (fun s6_61 => ?_)
                          ·
                            try simp only [Z1, Z2, Z3, Z4, Z5, Z6, Z7, Z8, Z9, Z0] at s6_61
                            refine WQ.skip rfl rfl rfl ?_
                            refine WQ.skip rfl rfl rfl ?_
                            refine WQ.skip rfl rfl rfl ?_
                            refine WQ.q (oq_pick_t rfl rfl) rfl rfl rfl ?_
                            refine WQ.q (oq_pick_t rfl rfl) rfl rfl rfl ?_
                            refine WQ.q (oq_pick_f rfl rfl) rfl rfl rfl ?_
                            refine WQ.nil (WE.then_normal (WC.sub (fr' := [(0, _), (3, _), (86, _)]) ?_ ⟨rfl, rfl, rfl, trivial⟩))
                            refine WC.cond_t rfl ?_
                            refine WC.seq (WC.region ?_)
                            refine WL.q (oq_assign rfl) rfl rfl rfl ?_
                            refine WL.nil (WE.then_normal (WC.sub (fr' := [(2, _)]) ?_ ⟨rfl, trivial⟩))
                            refine WC.ret (WE.block_ret (WE.then_ret (WE.then_ret (WE.block_ret (WE.then_ret ?_)))))
                            refine WE.lose ho4 ?_
                            refine WE.endR (.inl rfl) (res1 Tryd.results6 rfl) ?_
                            -- end 7
                            exact congrArg Value.bool (all_not hlt (decide_eq_false (by unfold fineV; omega))).symm
                          ·
                            try simp only [Z1, Z2, Z3, Z4, Z5, Z6, Z7, Z8, Z9, Z0] at s6_61
                            refine WQ.q (oq_fieldAddr fld33_2 rfl) rfl rfl rfl ?_
                            refine WQ.q (oq_load flat2 rfl (.head _) (List.mem_singleton.2 rfl) rfl) rfl rfl rfl ?_
                            refine WQ.q (oq_lss rfl rfl) rfl rfl rfl ?_
                            refine WQ.q (oq_pick_f rfl rfl) rfl rfl rfl ?_
                            refine WQ.q (oq_pick_t rfl rfl) rfl rfl rfl ?_
                            refine WQ.q (oq_pick_f rfl rfl) rfl rfl rfl ?_
                            refine WQ.nil (WE.then_normal (WC.sub (fr' := [(0, _), (3, _), (86, _)]) ?_ ⟨rfl, rfl, rfl, trivial⟩))
                            refine WC.cond rfl (fun q6 => ?_) (fun q6 => ?_)
                            ·
                              try simp only [Z1, Z2, Z3, Z4, Z5, Z6, Z7, Z8, Z9, Z0] at q6
                              refine WC.seq (WC.region ?_)
                              refine WL.q (oq_assign rfl) rfl rfl rfl ?_
                              refine WL.nil (WE.then_normal (WC.sub (fr' := [(2, _)]) ?_ ⟨rfl, trivial⟩))
                              refine WC.ret (WE.block_ret (WE.then_ret (WE.then_ret (WE.block_ret (WE.then_ret ?_)))))
                              refine WE.lose ho4 ?_
                              refine WE.endR (.inl rfl) (res1 Tryd.results6 rfl) ?_
                              -- end 8
                              exact congrArg Value.bool (all_not hlt (decide_eq_false (by unfold fineV; omega))).symm
                            ·
                              try simp only [Z1, Z2, Z3, Z4, Z5, Z6, Z7, Z8, Z9, Z0] at q6
                              refine WC.skip (WE.block_normal (WE.then_normal (WC.sub (fr' := [(0, _), (3, _)]) ?_ ⟨rfl, rfl, trivial⟩)))
                              refine WC.region ?_
                              refine WL.q (oq_move rfl) rfl rfl rfl ?_
                              refine WL.q (oq_add rfl rfl (by rw [i64_lo, i64_hi]; (first | omega | (simp only [List.length_cons, List.length_nil, List.length_append, List.length_drop, List.length_take]; omega)))) rfl rfl rfl ?_
                              refine WL.q (oq_assign rfl) rfl rfl rfl ?_
                              refine WL.nil ?_
                              refine WE.lose ho4 ?_
                              refine WE.again (i + 1) ?_ ?_ ⟨rfl, rfl, trivial⟩ (List.Perm.refl _)
                              · try dsimp only   -- again 2
                                exact ⟨by omega, all_snoc (by omega) hall (decide_eq_true (by unfold fineV; omega))⟩
                              · (try dsimp only); omega
                        ·
                          try simp only [Z1, Z2, Z3, Z4, Z5, Z6, Z7, Z8, Z9, Z0] at s6_57
                          refine WQ.skip rfl rfl rfl ?_
                          refine WQ.skip rfl rfl rfl ?_
                          refine WQ.skip rfl rfl rfl ?_
                          refine WQ.skip rfl rfl rfl ?_
                          refine WQ.skip rfl rfl rfl ?_
                          refine WQ.skip rfl rfl rfl ?_
                          refine WQ.skip rfl rfl rfl ?_
                          refine WQ.skip rfl rfl rfl ?_
                          refine WQ.q (oq_pick_f rfl rfl) rfl rfl rfl ?_
                          refine WQ.q (oq_pick_f rfl rfl) rfl rfl rfl ?_
                          refine WQ.nil (WE.then_normal (WC.sub (fr' := [(0, _), (3, _), (86, _)]) ?_ ⟨rfl, rfl, rfl, trivial⟩))
                          refine WC.cond_f rfl ?_
                          refine WC.skip (WE.block_normal (WE.then_normal (WC.sub (fr' := [(0, _), (3, _)]) ?_ ⟨rfl, rfl, trivial⟩)))
                          refine WC.region ?_
                          refine WL.q (oq_move rfl) rfl rfl rfl ?_
                          refine WL.q (oq_add rfl rfl (by rw [i64_lo, i64_hi]; (first | omega | (simp only [List.length_cons, List.length_nil, List.length_append, List.length_drop, List.length_take]; omega)))) rfl rfl rfl ?_
                          refine WL.q (oq_assign rfl) rfl rfl rfl ?_
                          refine WL.nil ?_
                          refine WE.lose ho4 ?_
                          refine WE.again (i + 1) ?_ ?_ ⟨rfl, rfl, trivial⟩ (List.Perm.refl _)
                          · try dsimp only   -- again 3
                            exact ⟨by omega, all_snoc (by omega) hall (decide_eq_true (by unfold fineV; omega))⟩
                          · (try dsimp only); omega
                ·
                  try simp only [Z1, Z2, Z3, Z4, Z5, Z6, Z7, Z8, Z9, Z0] at s6_23
                  refine WQ.skip rfl rfl rfl ?_
                  refine WQ.skip rfl rfl rfl ?_
                  refine WQ.q (oq_pick_f rfl rfl) rfl rfl rfl ?_
                  refine WQ.q (oq_move rfl) rfl rfl rfl ?_
                  refine WQ.q (oq_fieldAddr fld33_2 rfl) rfl rfl rfl ?_
                  refine WQ.q (oq_load flat2 rfl (.head _) (List.mem_singleton.2 rfl) rfl) rfl rfl rfl ?_
                  refine WQ.q (oq_move rfl) rfl rfl rfl ?_
                  refine WQ.q (oq_sub rfl rfl (by rw [i64_lo, i64_hi]; (first | omega | (simp only [List.length_cons, List.length_nil, List.length_append, List.length_drop, List.length_take]; omega)))) rfl rfl rfl ?_
                  refine WQ.q (oq_shl rfl rfl (by omega)) rfl rfl rfl ?_
                  refine WQ.q (oq_move rfl) rfl rfl rfl ?_
                  refine WQ.q (oq_sub rfl rfl (by rw [i64_lo, i64_hi]; (first | omega | (simp only [List.length_cons, List.length_nil, List.length_append, List.length_drop, List.length_take]; omega)))) rfl rfl rfl ?_
                  refine WQ.q (oq_shr rfl rfl (by omega)) rfl rfl rfl ?_
                  refine WQ.q (oq_fieldAddr fld33_2 rfl) rfl rfl rfl ?_
                  refine WQ.q (oq_load flat2 rfl (.head _) (List.mem_singleton.2 rfl) rfl) rfl rfl rfl ?_
                  refine WQ.q (oq_neq rfl rfl) rfl rfl rfl ?_
                  refine WQ.q (oq_pick_f rfl rfl) rfl rfl rfl ?_
                  refine WQ.q (oq_pick_t rfl rfl) rfl rfl rfl ?_
                  refine WQ.q (oq_pick_f rfl rfl) rfl rfl rfl ?_
                  refine WQ.q (oq_move rfl) rfl rfl rfl ?_
                  refine WQ.split 61 rfl (fun s6_42 => ?_) (fun s6_42 => ?_)
                  ·
                    try simp only [Z1, Z2, Z3, Z4, Z5, Z6, Z7, Z8, Z9, Z0] at s6_42
                    refine WQ.skip rfl rfl rfl ?_
                    refine WQ.skip rfl rfl rfl ?_
                    refine WQ.skip rfl rfl rfl ?_
                    refine WQ.skip rfl rfl rfl ?_
                    refine WQ.skip rfl rfl rfl ?_
                    refine WQ.skip rfl rfl rfl ?_
                    refine WQ.skip rfl rfl rfl ?_
                    refine WQ.skip rfl rfl rfl ?_
                    refine WQ.skip rfl rfl rfl ?_
                    refine WQ.q (oq_pick_t rfl rfl) rfl rfl rfl ?_
                    refine WQ.q (oq_move rfl) rfl rfl rfl ?_
                    refine WQ.skip rfl rfl rfl ?_
                    refine WQ.skip rfl rfl rfl ?_
                    refine WQ.skip rfl rfl rfl ?_
                    refine WQ.skip rfl rfl rfl ?_
                    refine WQ.skip rfl rfl rfl ?_
                    refine WQ.skip rfl rfl rfl ?_
                    refine WQ.skip rfl rfl rfl ?_
                    refine WQ.skip rfl rfl rfl ?_
                    refine WQ.skip rfl rfl rfl ?_
                    refine WQ.skip rfl rfl rfl ?_
                    refine WQ.skip rfl rfl rfl ?_
                    refine WQ.skip rfl rfl rfl ?_
                    refine WQ.skip rfl rfl rfl ?_
                    refine WQ.q (oq_pick_t rfl rfl) rfl rfl rfl ?_
                    refine WQ.nil (WE.then_normal (WC.sub (fr' := [(0, _), (3, _), (86, _)]) ?_ ⟨rfl, rfl, rfl, trivial⟩))
                    refine WC.cond_t rfl ?_
                    refine WC.seq (WC.region ?_)
                    refine WL.q (oq_assign rfl) rfl rfl rfl ?_
                    refine WL.nil (WE.then_normal (WC.sub (fr' := [(2, _)]) ?_ ⟨rfl, trivial⟩))
                    refine WC.ret (WE.block_ret (WE.then_ret (WE.then_ret (WE.block_ret (WE.then_ret ?_)))))
                    refine WE.lose ho4 ?_
                    refine WE.endR (.inl rfl) (res1 Tryd.results6 rfl) ?_
                    -- end 9
                    exact congrArg Value.bool (all_not hlt (decide_eq_false (by unfold fineV; omega))).symm
                  ·
                    try simp only [Z1, Z2, Z3, Z4, Z5, Z6, Z7, Z8, Z9, Z0] at s6_42
                    refine WQ.q (oq_fieldAddr fld33_0 rfl) rfl rfl rfl ?_
                    refine WQ.q (oq_load flat3 rfl (.head _) (List.mem_singleton.2 rfl) rfl) rfl rfl rfl ?_
                    refine WQ.q (oq_eql rfl rfl) rfl rfl rfl ?_
                    refine WQ.q (oq_move rfl) rfl rfl rfl ?_
                    refine WQ.split 65 rfl (fun s6_46 => ?_) (fun s6_46 => ?_)
                    ·
                      try simp only [Z1, Z2, Z3, Z4, Z5, Z6, Z7, Z8, Z9, Z0] at s6_46
                      refine WQ.q (oq_fieldAddr fld33_3 rfl) rfl rfl rfl ?_
                      refine WQ.q (oq_load flat9 rfl (.head _) (List.mem_singleton.2 rfl) rfl) rfl rfl rfl ?_
                      refine WQ.q (oq_len_s Tryd.underlying9 rfl) rfl rfl rfl ?_
                      refine WQ.q (oq_neq rfl rfl) rfl rfl rfl ?_
                      refine WQ.q (oq_pick_t rfl rfl) rfl rfl rfl ?_
                      refine WQ.q (oq_pick_f rfl rfl) rfl rfl rfl ?_
                      refine WQ.q (oq_move rfl) rfl rfl rfl ?_
                      refine WQ.split 72 rfl (fun s6_53 => ?_) (fun s6_53 => ?_)
                      ·
                        try simp only [Z1, Z2, Z3, Z4, Z5, Z6, Z7, Z8, Z9, Z0] at s6_53
                        refine WQ.skip rfl rfl rfl ?_
                        refine WQ.skip rfl rfl rfl ?_
                        refine WQ.skip rfl rfl rfl ?_
                        refine WQ.skip rfl rfl rfl ?_
                        refine WQ.skip rfl rfl rfl ?_
                        refine WQ.skip rfl rfl rfl ?_
                        refine WQ.skip rfl rfl rfl ?_
                        refine WQ.skip rfl rfl rfl ?_
                        refine WQ.skip rfl rfl rfl ?_
                        refine WQ.skip rfl rfl rfl ?_
                        refine WQ.skip rfl rfl rfl ?_
                        refine WQ.skip rfl rfl rfl ?_
                        refine WQ.skip rfl rfl rfl ?_
                        refine WQ.q (oq_pick_t rfl rfl) rfl rfl rfl ?_
                        refine WQ.nil (WE.then_normal (WC.sub (fr' := [(0, _), (3, _), (86, _)]) ?_ ⟨rfl, rfl, rfl, trivial⟩))
                        refine WC.cond_t rfl ?_
                        refine WC.seq (WC.region ?_)
                        refine WL.q (oq_assign rfl) rfl rfl rfl ?_
                        refine WL.nil (WE.then_normal (WC.sub (fr' := [(2, _)]) ?_ ⟨rfl, trivial⟩))
                        refine WC.ret (WE.block_ret (WE.then_ret (WE.then_ret (WE.block_ret (WE.then_ret ?_)))))
                        refine WE.lose ho4 ?_
                        refine WE.endR (.inl rfl) (res1 Tryd.results6 rfl) ?_
                        -- end 10
                        exact congrArg Value.bool (all_not hlt (decide_eq_false (by unfold fineV; omega))).symm
                      ·
                        try simp only [Z1, Z2, Z3, Z4, Z5, Z6, Z7, Z8, Z9, Z0] at s6_53
                        refine WQ.q (oq_fieldAddr fld33_0 rfl) rfl rfl rfl ?_
                        refine WQ.q (oq_load flat3 rfl (.head _) (List.mem_singleton.2 rfl) rfl) rfl rfl rfl ?_
                        refine WQ.q (oq_eql rfl rfl) rfl rfl rfl ?_
                        refine WQ.q (oq_move rfl) rfl rfl rfl ?_
                        refine WQ.split 76 rfl (fun s6_57 => ?_) (fun s6_57 => ?_)
                        ·
                          try simp only [Z1, Z2, Z3, Z4, Z5, Z6, Z7, Z8, Z9, Z0] at s6_57
                          refine WQ.q (oq_fieldAddr fld33_2 rfl) rfl rfl rfl ?_
                          refine WQ.q (oq_load flat2 rfl (.head _) (List.mem_singleton.2 rfl) rfl) rfl rfl rfl ?_
                          refine WQ.q (oq_gtr rfl rfl) rfl rfl rfl ?_
                          refine WQ.q (oq_move rfl) rfl rfl rfl ?_
                          refine WQ.split 80 rfl (fun s6_61 => ?_) (fun s6_61 => ?_)
                          ·
                            try simp only [Z1, Z2, Z3, Z4, Z5, Z6, Z7, Z8, Z9, Z0] at s6_61
                            refine WQ.skip rfl rfl rfl ?_
                            refine WQ.skip rfl rfl rfl ?_
                            refine WQ.skip rfl rfl rfl ?_
                            refine WQ.q (oq_pick_t rfl rfl) rfl rfl rfl ?_
                            refine WQ.q (oq_pick_t rfl rfl) rfl rfl rfl ?_
                            refine WQ.q (oq_pick_f rfl rfl) rfl rfl rfl ?_
                            refine WQ.nil (WE.then_normal (WC.sub (fr' := [(0, _), (3, _), (86, _)]) ?_ ⟨rfl, rfl, rfl, trivial⟩))
                            refine WC.cond_t rfl ?_
                            refine WC.seq (WC.region ?_)
                            refine WL.q (oq_assign rfl) rfl rfl rfl ?_
                            refine WL.nil (WE.then_normal (WC.sub (fr' := [(2, _)]) ?_ ⟨rfl, trivial⟩))
                            refine WC.ret (WE.block_ret (WE.then_ret (WE.then_ret (WE.block_ret (WE.then_ret ?_)))))
                            refine WE.lose ho4 ?_
                            refine WE.endR (.inl rfl) (res1 Tryd.results6 rfl) ?_
                            -- end 11
                            exact congrArg Value.bool (all_not hlt (decide_eq_false (by unfold fineV; omega))).symm
                          ·
                            try simp only [Z1, Z2, Z3, Z4, Z5, Z6, Z7, Z8, Z9, Z0] at s6_61
                            refine WQ.q (oq_fieldAddr fld33_2 rfl) rfl rfl rfl ?_
                            refine WQ.q (oq_load flat2 rfl (.head _) (List.mem_singleton.2 rfl) rfl) rfl rfl rfl ?_
                            refine WQ.q (oq_lss rfl rfl) rfl rfl rfl ?_
                            refine WQ.q (oq_pick_f rfl rfl) rfl rfl rfl ?_
                            refine WQ.q (oq_pick_t rfl rfl) rfl rfl rfl ?_
                            refine WQ.q (oq_pick_f rfl rfl) rfl rfl rfl ?_
                            refine WQ.nil (WE.then_normal (WC.sub (fr' := [(0, _), (3, _), (86, _)]) ?_ ⟨rfl, rfl, rfl, trivial⟩))
                            refine WC.cond rfl (fun q6 => ?_) (fun q6 => ?_)
                            ·
                              try simp only [Z1, Z2, Z3, Z4, Z5, Z6, Z7, Z8, Z9, Z0] at q6
                              refine WC.seq (WC.region ?_)
                              refine WL.q (oq_assign rfl) rfl rfl rfl ?_
                              refine WL.nil (WE.then_normal (WC.sub (fr' := [(2, _)]) ?_ ⟨rfl, trivial⟩))
                              refine WC.ret (WE.block_ret (WE.then_ret (WE.then_ret (WE.block_ret (WE.then_ret ?_)))))
                              refine WE.lose ho4 ?_
                              refine WE.endR (.inl rfl) (res1 Tryd.results6 rfl) ?_
                              -- end 12
                              exact congrArg Value.bool (all_not hlt (decide_eq_false (by unfold fineV; omega))).symm
                            ·
                              try simp only [Z1, Z2, Z3, Z4, Z5, Z6, Z7, Z8, Z9, Z0] at q6
                              refine WC.skip (WE.block_normal (WE.then_normal (WC.sub (fr' := [(0, _), (3, _)]) ?_ ⟨rfl, rfl, trivial⟩)))
                              refine WC.region ?_
                              refine WL.q (oq_move rfl) rfl rfl rfl ?_
                              refine WL.q (oq_add rfl rfl (by rw [i64_lo, i64_hi]; (first | omega | (simp only [List.length_cons, List.length_nil, List.length_append, List.length_drop, List.length_take]; omega)))) rfl rfl rfl ?_
                              refine WL.q (oq_assign rfl) rfl rfl rfl ?_
                              refine WL.nil ?_
                              refine WE.lose ho4 ?_
                              refine WE.again (i + 1) ?_ ?_ ⟨rfl, rfl, trivial⟩ (List.Perm.refl _)
                              · try dsimp only   -- again 4
                                exact ⟨by omega, all_snoc (by omega) hall (decide_eq_true (by unfold fineV; omega))⟩
                              · (try dsimp only); omega
                        ·
                          try simp only [Z1, Z2, Z3, Z4, Z5, Z6, Z7, Z8, Z9, Z0] at s6_57
                          refine WQ.skip rfl rfl rfl ?_
                          refine WQ.skip rfl rfl rfl ?_
                          refine WQ.skip rfl rfl rfl ?_
                          refine WQ.skip rfl rfl rfl ?_
                          refine WQ.skip rfl rfl rfl ?_
                          refine WQ.skip rfl rfl rfl ?_
                          refine WQ.skip rfl rfl rfl ?_
                          refine WQ.skip rfl rfl rfl ?_
                          refine WQ.q (oq_pick_f rfl rfl) rfl rfl rfl ?_
                          refine WQ.q (oq_pick_f rfl rfl) rfl rfl rfl ?_
                          refine WQ.nil (WE.then_normal (WC.sub (fr' := [(0, _), (3, _), (86, _)]) ?_ ⟨rfl, rfl, rfl, trivial⟩))
                          refine WC.cond_f rfl ?_
                          refine WC.skip (WE.block_normal (WE.then_normal (WC.sub (fr' := [(0, _), (3, _)]) ?_ ⟨rfl, rfl, trivial⟩)))
                          refine WC.region ?_
                          refine WL.q (oq_move rfl) rfl rfl rfl ?_
                          refine WL.q (oq_add rfl rfl (by rw [i64_lo, i64_hi]; (first | omega | (simp only [List.length_cons, List.length_nil, List.length_append, List.length_drop, List.length_take]; omega)))) rfl rfl rfl ?_
                          refine WL.q (oq_assign rfl) rfl rfl rfl ?_
                          refine WL.nil ?_
                          refine WE.lose ho4 ?_
                          refine WE.again (i + 1) ?_ ?_ ⟨rfl, rfl, trivial⟩ (List.Perm.refl _)
                          · try dsimp only   -- again 5
                            exact ⟨by omega, all_snoc (by omega) hall (decide_eq_true (by unfold fineV; omega))⟩
                          · (try dsimp only); omega
                    ·
                      try simp only [Z1, Z2, Z3, Z4, Z5, Z6, Z7, Z8, Z9, Z0] at s6_46
                      refine WQ.skip rfl rfl rfl ?_
                      refine WQ.skip rfl rfl rfl ?_
                      refine WQ.skip rfl rfl rfl ?_
                      refine WQ.skip rfl rfl rfl ?_
                      refine WQ.q (oq_pick_f rfl rfl) rfl rfl rfl ?_
                      refine WQ.q (oq_pick_f rfl rfl) rfl rfl rfl ?_
                      refine WQ.q (oq_move rfl) rfl rfl rfl ?_
                      refine WQ.q (oq_fieldAddr fld33_0 rfl) rfl rfl rfl ?_
                      refine WQ.q (oq_load flat3 rfl (.head _) (List.mem_singleton.2 rfl) rfl) rfl rfl rfl ?_
                      refine WQ.q (oq_eql rfl rfl) rfl rfl rfl ?_
                      refine WQ.q (oq_move rfl) rfl rfl rfl ?_
                      refine WQ.split 76 rfl (fun s6_57 => ?_) (fun s6_57 => ?_)
                      ·
                        try simp only [Z1, Z2, Z3, Z4, Z5, Z6, Z7, Z8, Z9, Z0] at s6_57
                        refine WQ.q (oq_fieldAddr fld33_2 rfl) rfl rfl rfl ?_
                        refine WQ.q (oq_load flat2 rfl (.head _) (List.mem_singleton.2 rfl) rfl) rfl rfl rfl ?_
                        refine WQ.q (oq_gtr rfl rfl) rfl rfl rfl ?_
                        refine WQ.q (oq_move rfl) rfl rfl rfl ?_
                        refine WQ.split 80 rfl (fun s6_61 => ?_) (fun s6_61 => ?_)
                        ·
                          try simp only [Z1, Z2, Z3, Z4, Z5, Z6, Z7, Z8, Z9, Z0] at s6_61
                          refine WQ.skip rfl rfl rfl ?_
                          refine WQ.skip rfl rfl rfl ?_
                          refine WQ.skip rfl rfl rfl ?_
                          refine WQ.q (oq_pick_t rfl rfl) rfl rfl rfl ?_
                          refine WQ.q (oq_pick_t rfl rfl) rfl rfl rfl ?_
                          refine WQ.q (oq_pick_f rfl rfl) rfl rfl rfl ?_
                          refine WQ.nil (WE.then_normal (WC.sub (fr' := [(0, _), (3, _), (86, _)]) ?_ ⟨rfl, rfl, rfl, trivial⟩))
                          refine WC.cond_t rfl ?_
                          refine WC.seq (WC.region ?_)
                          refine WL.q (oq_assign rfl) rfl rfl rfl ?_
                          refine WL.nil (WE.then_normal (WC.sub (fr' := [(2, _)]) ?_ ⟨rfl, trivial⟩))
                          refine WC.ret (WE.block_ret (WE.then_ret (WE.then_ret (WE.block_ret (WE.then_ret ?_)))))
                          refine WE.lose ho4 ?_
                          refine WE.endR (.inl rfl) (res1 Tryd.results6 rfl) ?_
                          -- end 13
                          exact congrArg Value.bool (all_not hlt (decide_eq_false (by unfold fineV; omega))).symm
                        ·
                          try simp only [Z1, Z2, Z3, Z4, Z5, Z6, Z7, Z8, Z9, Z0] at s6_61
                          refine WQ.q (oq_fieldAddr fld33_2 rfl) rfl rfl rfl ?_
                          refine WQ.q (oq_load flat2 rfl (.head _) (List.mem_singleton.2 rfl) rfl) rfl rfl rfl ?_
                          refine WQ.q (oq_lss rfl rfl) rfl rfl rfl ?_
                          refine WQ.q (oq_pick_f rfl rfl) rfl rfl rfl ?_
                          refine WQ.q (oq_pick_t rfl rfl) rfl rfl rfl ?_
                          refine WQ.q (oq_pick_f rfl rfl) rfl rfl rfl ?_
                          refine WQ.nil (WE.then_normal (WC.sub (fr' := [(0, _), (3, _), (86, _)]) ?_ ⟨rfl, rfl, rfl, trivial⟩))
                          refine WC.cond rfl (fun q6 => ?_) (fun q6 => ?_)
                          ·
                            try simp only [Z1, Z2, Z3, Z4, Z5, Z6, Z7, Z8, Z9, Z0] at q6
                            refine WC.seq (WC.region ?_)
                            refine WL.q (oq_assign rfl) rfl rfl rfl ?_
                            refine WL.nil (WE.then_normal (WC.sub (fr' := [(2, _)]) ?_ ⟨rfl, trivial⟩))
                            refine WC.ret (WE.block_ret (WE.then_ret (WE.then_ret (WE.block_ret (WE.then_ret ?_)))))
                            refine WE.lose ho4 ?_
                            refine WE.endR (.inl rfl) (res1 Tryd.results6 rfl) ?_
                            -- end 14
                            exact congrArg Value.bool (all_not hlt (decide_eq_false (by unfold fineV; omega))).symm
                          ·
                            try simp only [Z1, Z2, Z3, Z4, Z5, Z6, Z7, Z8, Z9, Z0] at q6
                            refine WC.skip (WE.block_normal (WE.then_normal (WC.sub (fr' := [(0, _), (3, _)]) ?_ ⟨rfl, rfl, trivial⟩)))
                            refine WC.region ?_
                            refine WL.q (oq_move rfl) rfl rfl rfl ?_
                            refine WL.q (oq_add rfl rfl (by rw [i64_lo, i64_hi]; (first | omega | (simp only [List.length_cons, List.length_nil, List.length_append, List.length_drop, List.length_take]; omega)))) rfl rfl rfl ?_
                            refine WL.q (oq_assign rfl) rfl rfl rfl ?_
                            refine WL.nil ?_
                            refine WE.lose ho4 ?_
                            refine WE.again (i + 1) ?_ ?_ ⟨rfl, rfl, trivial⟩ (List.Perm.refl _)
                            · try dsimp only   -- again 6
                              exact ⟨by omega, all_snoc (by omega) hall (decide_eq_true (by unfold fineV; omega))⟩
                            · (try dsimp only); omega
                      ·
                        try simp only [Z1, Z2, Z3, Z4, Z5, Z6, Z7, Z8, Z9, Z0] at s6_57
                        refine WQ.skip rfl rfl rfl ?_
                        refine WQ.skip rfl rfl rfl ?_
                        refine WQ.skip rfl rfl rfl ?_
                        refine WQ.skip rfl rfl rfl ?_
                        refine WQ.skip rfl rfl rfl ?_
                        refine WQ.skip rfl rfl rfl ?_
                        refine WQ.skip rfl rfl rfl ?_
                        refine WQ.skip rfl rfl rfl ?_
                        refine WQ.q (oq_pick_f rfl rfl) rfl rfl rfl ?_
                        refine WQ.q (oq_pick_f rfl rfl) rfl rfl rfl ?_
                        refine WQ.nil (WE.then_normal (WC.sub (fr' := [(0, _), (3, _), (86, _)]) ?_ ⟨rfl, rfl, rfl, trivial⟩))
                        refine WC.cond_f rfl ?_
                        refine WC.skip (WE.block_normal (WE.then_normal (WC.sub (fr' := [(0, _), (3, _)]) ?_ ⟨rfl, rfl, trivial⟩)))
                        refine WC.region ?_
                        refine WL.q (oq_move rfl) rfl rfl rfl ?_
                        refine WL.q (oq_add rfl rfl (by rw [i64_lo, i64_hi]; (first | omega | (simp only [List.length_cons, List.length_nil, List.length_append, List.length_drop, List.length_take]; omega)))) rfl rfl rfl ?_
                        refine WL.q (oq_assign rfl) rfl rfl rfl ?_
                        refine WL.nil ?_
                        refine WE.lose ho4 ?_
                        refine WE.again (i + 1) ?_ ?_ ⟨rfl, rfl, trivial⟩ (List.Perm.refl _)
                        · try dsimp only   -- again 7
                          exact ⟨by omega, all_snoc (by omega) hall (decide_eq_true (by unfold fineV; omega))⟩
                        · (try dsimp only); omega
              ·
                try simp only [Z1, Z2, Z3, Z4, Z5, Z6, Z7, Z8, Z9, Z0] at s6_19
                refine WQ.skip rfl rfl rfl ?_
                refine WQ.skip rfl rfl rfl ?_
                refine WQ.q (oq_pick_f rfl rfl) rfl rfl rfl ?_
                refine WQ.q (oq_move rfl) rfl rfl rfl ?_
                refine WQ.skip rfl rfl rfl ?_
                refine WQ.skip rfl rfl rfl ?_
                refine WQ.q (oq_pick_f rfl rfl) rfl rfl rfl ?_
                refine WQ.q (oq_move rfl) rfl rfl rfl ?_
                refine WQ.q (oq_fieldAddr fld33_2 rfl) rfl rfl rfl ?_
                refine WQ.q (oq_load flat2 rfl (.head _) (List.mem_singleton.2 rfl) rfl) rfl rfl rfl ?_
                refine WQ.q (oq_move rfl) rfl rfl rfl ?_
                refine WQ.q (oq_sub rfl rfl (by rw [i64_lo, i64_hi]; (first | omega | (simp only [List.length_cons, List.length_nil, List.length_append, List.length_drop, List.length_take]; omega)))) rfl rfl rfl ?_
                refine WQ.q (oq_shl rfl rfl (by omega)) rfl rfl rfl ?_
                refine WQ.q (oq_move rfl) rfl rfl rfl ?_
                refine WQ.q (oq_sub rfl rfl (by rw [i64_lo, i64_hi]; (first | omega | (simp only [List.length_cons, List.length_nil, List.length_append, List.length_drop, List.length_take]; omega)))) rfl rfl rfl ?_
                refine WQ.q (oq_shr rfl rfl (by omega)) rfl rfl rfl ?_
                refine WQ.q (oq_fieldAddr fld33_2 rfl) rfl rfl rfl ?_
                refine WQ.q (oq_load flat2 rfl (.head _) (List.mem_singleton.2 rfl) rfl) rfl rfl rfl ?_
                refine WQ.q (oq_neq rfl rfl) rfl rfl rfl ?_
                refine WQ.q (oq_pick_f rfl rfl) rfl rfl rfl ?_
                refine WQ.q (oq_pick_t rfl rfl) rfl rfl rfl ?_
                refine WQ.q (oq_pick_f rfl rfl) rfl rfl rfl ?_
                refine WQ.q (oq_move rfl) rfl rfl rfl ?_
                refine WQ.split 61 rfl (fun s6_42 => ?_) (fun s6_42 => ?_)
                ·
                  try simp only [Z1, Z2, Z3, Z4, Z5, Z6, Z7, Z8, Z9, Z0] at s6_42
                  refine WQ.skip rfl rfl rfl ?_
                  refine WQ.skip rfl rfl rfl ?_
                  refine WQ.skip rfl rfl rfl ?_
                  refine WQ.skip rfl rfl rfl ?_
                  refine WQ.skip rfl rfl rfl ?_
                  refine WQ.skip rfl rfl rfl ?_
                  refine WQ.skip rfl rfl rfl ?_
                  refine WQ.skip rfl rfl rfl ?_
                  refine WQ.skip rfl rfl rfl ?_
                  refine WQ.q (oq_pick_t rfl rfl) rfl rfl rfl ?_
                  refine WQ.q (oq_move rfl) rfl rfl rfl ?_
                  refine WQ.skip rfl rfl rfl ?_
                  refine WQ.skip rfl rfl rfl ?_
                  refine WQ.skip rfl rfl rfl ?_
                  refine WQ.skip rfl rfl rfl ?_
                  refine WQ.skip rfl rfl rfl ?_
                  refine WQ.skip rfl rfl rfl ?_
                  refine WQ.skip rfl rfl rfl ?_
                  refine WQ.skip rfl rfl rfl ?_
                  refine WQ.skip rfl rfl rfl ?_
                  refine WQ.skip rfl rfl rfl ?_
                  refine WQ.skip rfl rfl rfl ?_
                  refine WQ.skip rfl rfl rfl ?_
                  refine WQ.skip rfl rfl rfl ?_
                  refine WQ.q (oq_pick_t rfl rfl) rfl rfl rfl ?_
                  refine WQ.nil (WE.then_normal (WC.sub (fr' := [(0, _), (3, _), (86, _)]) ?_ ⟨rfl, rfl, rfl, trivial⟩))
                  refine WC.cond_t rfl ?_
                  refine WC.seq (WC.region ?_)
                  refine WL.q (oq_assign rfl) rfl rfl rfl ?_
                  refine WL.nil (WE.then_normal (WC.sub (fr' := [(2, _)]) ?_ ⟨rfl, trivial⟩))
                  refine WC.ret (WE.block_ret (WE.then_ret (WE.then_ret (WE.block_ret (WE.then_ret ?_)))))
                  refine WE.lose ho4 ?_
                  refine WE.endR (.inl rfl) (res1 Tryd.results6 rfl) ?_
                  -- end 15
                  exact congrArg Value.bool (all_not hlt (decide_eq_false (by unfold fineV; omega))).symm
                ·
                  try simp only [Z1, Z2, Z3, Z4, Z5, Z6, Z7, Z8, Z9, Z0] at s6_42
                  refine WQ.q (oq_fieldAddr fld33_0 rfl) rfl rfl rfl ?_
                  refine WQ.q (oq_load flat3 rfl (.head _) (List.mem_singleton.2 rfl) rfl) rfl rfl rfl ?_
                  refine WQ.q (oq_eql rfl rfl) rfl rfl rfl ?_
                  refine WQ.q (oq_move rfl) rfl rfl rfl ?_
                  refine WQ.split 65 rfl (fun s6_46 => ?_) (fun s6_46 => ?_)
                  ·
                    try simp only [Z1, Z2, Z3, Z4, Z5, Z6, Z7, Z8, Z9, Z0] at s6_46
                    refine WQ.q (oq_fieldAddr fld33_3 rfl) rfl rfl rfl ?_
                    refine WQ.q (oq_load flat9 rfl (.head _) (List.mem_singleton.2 rfl) rfl) rfl rfl rfl ?_
                    refine WQ.q (oq_len_s Tryd.underlying9 rfl) rfl rfl rfl ?_
                    refine WQ.q (oq_neq rfl rfl) rfl rfl rfl ?_
                    refine WQ.q (oq_pick_t rfl rfl) rfl rfl rfl ?_
                    refine WQ.q (oq_pick_f rfl rfl) rfl rfl rfl ?_
                    refine WQ.q (oq_move rfl) rfl rfl rfl ?_
                    refine WQ.split 72 rfl (fun s6_53 => ?_) (fun s6_53 => ?_)
                    ·
                      try simp only [Z1, Z2, Z3, Z4, Z5, Z6, Z7, Z8, Z9, Z0] at s6_53
                      refine WQ.skip rfl rfl rfl ?_
                      refine WQ.skip rfl rfl rfl ?_
                      refine WQ.skip rfl rfl rfl ?_
                      refine WQ.skip rfl rfl rfl ?_
                      refine WQ.skip rfl rfl rfl ?_
                      refine WQ.skip rfl rfl rfl ?_
                      refine WQ.skip rfl rfl rfl ?_
                      refine WQ.skip rfl rfl rfl ?_
                      refine WQ.skip rfl rfl rfl ?_
                      refine WQ.skip rfl rfl rfl ?_
                      refine WQ.skip rfl rfl rfl ?_
                      refine WQ.skip rfl rfl rfl ?_
                      refine WQ.skip rfl rfl rfl ?_
                      refine WQ.q (oq_pick_t rfl rfl) rfl rfl rfl ?_
                      refine WQ.nil (WE.then_normal (WC.sub (fr' := [(0, _), (3, _), (86, _)]) ?_ ⟨rfl, rfl, rfl, trivial⟩))
                      refine WC.cond_t rfl ?_
                      refine WC.seq (WC.region ?_)
                      refine WL.q (oq_assign rfl) rfl rfl rfl ?_
                      refine WL.nil (WE.then_normal (WC.sub (fr' := [(2, _)]) ?_ ⟨rfl, trivial⟩))
                      refine WC.ret (WE.block_ret (WE.then_ret (WE.then_ret (WE.block_ret (WE.then_ret ?_)))))
                      refine WE.lose ho4 ?_
                      refine WE.endR (.inl rfl) (res1 Tryd.results6 rfl) ?_
                      -- end 16
                      exact congrArg Value.bool (all_not hlt (decide_eq_false (by unfold fineV; omega))).symm
                    ·
                      try simp only [Z1, Z2, Z3, Z4, Z5, Z6, Z7, Z8, Z9, Z0] at s6_53
                      refine WQ.q (oq_fieldAddr fld33_0 rfl) rfl rfl rfl ?_
                      refine WQ.q (oq_load flat3 rfl (.head _) (List.mem_singleton.2 rfl) rfl) rfl rfl rfl ?_
                      refine WQ.q (oq_eql rfl rfl) rfl rfl rfl ?_
                      refine WQ.q (oq_move rfl) rfl rfl rfl ?_
                      refine WQ.split 76 rfl (fun s6_57 => ?_) (fun s6_57 => ?_)
                      ·
                        try simp only [Z1, Z2, Z3, Z4, Z5, Z6, Z7, Z8, Z9, Z0] at s6_57
                        refine WQ.q (oq_fieldAddr fld33_2 rfl) rfl rfl rfl ?_
                        refine WQ.q (oq_load flat2 rfl (.head _) (List.mem_singleton.2 rfl) rfl) rfl rfl rfl ?_
                        refine WQ.q (oq_gtr rfl rfl) rfl rfl rfl ?_
                        refine WQ.q (oq_move rfl) rfl rfl rfl ?_
                        refine WQ.split 80 rfl (fun s6_61 => ?_) (fun s6_61 => ?_)
                        ·
                          try simp only [Z1, Z2, Z3, Z4, Z5, Z6, Z7, Z8, Z9, Z0] at s6_61
                          refine WQ.skip rfl rfl rfl ?_
                          refine WQ.skip rfl rfl rfl ?_
                          refine WQ.skip rfl rfl rfl ?_
                          refine WQ.q (oq_pick_t rfl rfl) rfl rfl rfl ?_
                          refine WQ.q (oq_pick_t rfl rfl) rfl rfl rfl ?_
                          refine WQ.q (oq_pick_f rfl rfl) rfl rfl rfl ?_
                          refine WQ.nil (WE.then_normal (WC.sub (fr' := [(0, _), (3, _), (86, _)]) ?_ ⟨rfl, rfl, rfl, trivial⟩))
                          refine WC.cond_t rfl ?_
                          refine WC.seq (WC.region ?_)
                          refine WL.q (oq_assign rfl) rfl rfl rfl ?_
                          refine WL.nil (WE.then_normal (WC.sub (fr' := [(2, _)]) ?_ ⟨rfl, trivial⟩))
                          refine WC.ret (WE.block_ret (WE.then_ret (WE.then_ret (WE.block_ret (WE.then_ret ?_)))))
                          refine WE.lose ho4 ?_
                          refine WE.endR (.inl rfl) (res1 Tryd.results6 rfl) ?_
                          -- end 17
                          exact congrArg Value.bool (all_not hlt (decide_eq_false (by unfold fineV; omega))).symm
                        ·
                          try simp only [Z1, Z2, Z3, Z4, Z5, Z6, Z7, Z8, Z9, Z0] at s6_61
                          refine WQ.q (oq_fieldAddr fld33_2 rfl) rfl rfl rfl ?_
                          refine WQ.q (oq_load flat2 rfl (.head _) (List.mem_singleton.2 rfl) rfl) rfl rfl rfl ?_
                          refine WQ.q (oq_lss rfl rfl) rfl rfl rfl ?_
                          refine WQ.q (oq_pick_f rfl rfl) rfl rfl rfl ?_
                          refine WQ.q (oq_pick_t rfl rfl) rfl rfl rfl ?_
                          refine WQ.q (oq_pick_f rfl rfl) rfl rfl rfl ?_
                          refine WQ.nil (WE.then_normal (WC.sub (fr' := [(0, _), (3, _), (86, _)]) ?_ ⟨rfl, rfl, rfl, trivial⟩))
                          refine WC.cond rfl (fun q6 => ?_) (fun q6 => ?_)
                          ·
                            try simp only [Z1, Z2, Z3, Z4, Z5, Z6, Z7, Z8, Z9, Z0] at q6
                            refine WC.seq (WC.region ?_)
                            refine WL.q (oq_assign rfl) rfl rfl rfl ?_
                            refine WL.nil (WE.then_normal (WC.sub (fr' := [(2, _)]) ?_ ⟨rfl, trivial⟩))
                            refine WC.ret (WE.block_ret (WE.then_ret (WE.then_ret (WE.block_ret (WE.then_ret ?_)))))
                            refine WE.lose ho4 ?_
                            refine WE.endR (.inl rfl) (res1 Tryd.results6 rfl) ?_
                            -- end 18
                            exact congrArg Value.bool (all_not hlt (decide_eq_false (by unfold fineV; omega))).symm
                          ·
                            try simp only [Z1, Z2, Z3, Z4, Z5, Z6, Z7, Z8, Z9, Z0] at q6
                            refine WC.skip (WE.block_normal (WE.then_normal (WC.sub (fr' := [(0, _), (3, _)]) ?_ ⟨rfl, rfl, trivial⟩)))
                            refine WC.region ?_
                            refine WL.q (oq_move rfl) rfl rfl rfl ?_
                            refine WL.q (oq_add rfl rfl (by rw [i64_lo, i64_hi]; (first | omega | (simp only [List.length_cons, List.length_nil, List.length_append, List.length_drop, List.length_take]; omega)))) rfl rfl rfl ?_
                            refine WL.q (oq_assign rfl) rfl rfl rfl ?_
                            refine WL.nil ?_
                            refine WE.lose ho4 ?_
                            refine WE.again (i + 1) ?_ ?_ ⟨rfl, rfl, trivial⟩ (List.Perm.refl _)
                            · try dsimp only   -- again 8
                              exact ⟨by omega, all_snoc (by omega) hall (decide_eq_true (by unfold fineV; omega))⟩
                            · (try dsimp only); omega
                      ·
                        try simp only [Z1, Z2, Z3, Z4, Z5, Z6, Z7, Z8, Z9, Z0] at s6_57
                        refine WQ.skip rfl rfl rfl ?_
                        refine WQ.skip rfl rfl rfl ?_
                        refine WQ.skip rfl rfl rfl ?_
                        refine WQ.skip rfl rfl rfl ?_
                        refine WQ.skip rfl rfl rfl ?_
                        refine WQ.skip rfl rfl rfl ?_
                        refine WQ.skip rfl rfl rfl ?_
                        refine WQ.skip rfl rfl rfl ?_
                        refine WQ.q (oq_pick_f rfl rfl) rfl rfl rfl ?_
                        refine WQ.q (oq_pick_f rfl rfl) rfl rfl rfl ?_
                        refine WQ.nil (WE.then_normal (WC.sub (fr' := [(0, _), (3, _), (86, _)]) ?_ ⟨rfl, rfl, rfl, trivial⟩))
                        refine WC.cond_f rfl ?_
                        refine WC.skip (WE.block_normal (WE.then_normal (WC.sub (fr' := [(0, _), (3, _)]) ?_ ⟨rfl, rfl, trivial⟩)))
                        refine WC.region ?_
                        refine WL.q (oq_move rfl) rfl rfl rfl ?_
                        refine WL.q (oq_add rfl rfl (by rw [i64_lo, i64_hi]; (first | omega | (simp only [List.length_cons, List.length_nil, List.length_append, List.length_drop, List.length_take]; omega)))) rfl rfl rfl ?_
                        refine WL.q (oq_assign rfl) rfl rfl rfl ?_
                        refine WL.nil ?_
                        refine WE.lose ho4 ?_
                        refine WE.again (i + 1) ?_ ?_ ⟨rfl, rfl, trivial⟩ (List.Perm.refl _)
                        · try dsimp only   -- again 9
                          exact ⟨by omega, all_snoc (by omega) hall (decide_eq_true (by unfold fineV; omega))⟩
                        · (try dsimp only); omega
                  ·
                    try simp only [Z1, Z2, Z3, Z4, Z5, Z6, Z7, Z8, Z9, Z0] at s6_46
                    refine WQ.skip rfl rfl rfl ?_
                    refine WQ.skip rfl rfl rfl ?_
                    refine WQ.skip rfl rfl rfl ?_
                    refine WQ.skip rfl rfl rfl ?_
                    refine WQ.q (oq_pick_f rfl rfl) rfl rfl rfl ?_
                    refine WQ.q (oq_pick_f rfl rfl) rfl rfl rfl ?_
                    refine WQ.q (oq_move rfl) rfl rfl rfl ?_
                    refine WQ.q (oq_fieldAddr fld33_0 rfl) rfl rfl rfl ?_
                    refine WQ.q (oq_load flat3 rfl (.head _) (List.mem_singleton.2 rfl) rfl) rfl rfl rfl ?_
                    refine WQ.q (oq_eql rfl rfl) rfl rfl rfl ?_
                    refine WQ.q (oq_move rfl) rfl rfl rfl ?_
                    refine WQ.split 76 rfl (fun s6_57 => ?_) (fun s6_57 => ?_)
                    ·
                      try simp only [Z1, Z2, Z3, Z4, Z5, Z6, Z7, Z8, Z9, Z0] at s6_57
                      refine WQ.q (oq_fieldAddr fld33_2 rfl) rfl rfl rfl ?_
                      refine WQ.q (oq_load flat2 rfl (.head _) (List.mem_singleton.2 rfl) rfl) rfl rfl rfl ?_
                      refine WQ.q (oq_gtr rfl rfl) rfl rfl rfl ?_
                      refine WQ.q (oq_move rfl) rfl rfl rfl ?_
                      refine WQ.split 80 rfl (fun s6_61 => ?_) (fun s6_61 => ?_)
                      ·
                        try simp only [Z1, Z2, Z3, Z4, Z5, Z6, Z7, Z8, Z9, Z0] at s6_61
                        refine WQ.skip rfl rfl rfl ?_
                        refine WQ.skip rfl rfl rfl ?_
                        refine WQ.skip rfl rfl rfl ?_
                        refine WQ.q (oq_pick_t rfl rfl) rfl rfl rfl ?_
                        refine WQ.q (oq_pick_t rfl rfl) rfl rfl rfl ?_
                        refine WQ.q (oq_pick_f rfl rfl) rfl rfl rfl ?_
                        refine WQ.nil (WE.then_normal (WC.sub (fr' := [(0, _), (3, _), (86, _)]) ?_ ⟨rfl, rfl, rfl, trivial⟩))
                        refine WC.cond_t rfl ?_
                        refine WC.seq (WC.region ?_)
                        refine WL.q (oq_assign rfl) rfl rfl rfl ?_
                        refine WL.nil (WE.then_normal (WC.sub (fr' := [(2, _)]) ?_ ⟨rfl, trivial⟩))
                        refine WC.ret (WE.block_ret (WE.then_ret (WE.then_ret (WE.block_ret (WE.then_ret ?_)))))
                        refine WE.lose ho4 ?_
                        refine WE.endR (.inl rfl) (res1 Tryd.results6 rfl) ?_
                        -- end 19
                        exact congrArg Value.bool (all_not hlt (decide_eq_false (by unfold fineV; omega))).symm
                      ·
                        try simp only [Z1, Z2, Z3, Z4, Z5, Z6, Z7, Z8, Z9, Z0] at s6_61
                        refine WQ.q (oq_fieldAddr fld33_2 rfl) rfl rfl rfl ?_
                        refine WQ.q (oq_load flat2 rfl (.head _) (List.mem_singleton.2 rfl) rfl) rfl rfl rfl ?_
                        refine WQ.q (oq_lss rfl rfl) rfl rfl rfl ?_
                        refine WQ.q (oq_pick_f rfl rfl) rfl rfl rfl ?_
                        refine WQ.q (oq_pick_t rfl rfl) rfl rfl rfl ?_
                        refine WQ.q (oq_pick_f rfl rfl) rfl rfl rfl ?_
                        refine WQ.nil (WE.then_normal (WC.sub (fr' := [(0, _), (3, _), (86, _)]) ?_ ⟨rfl, rfl, rfl, trivial⟩))
                        refine WC.cond rfl (fun q6 => ?_) (fun q6 => ?_)
                        ·
                          try simp only [Z1, Z2, Z3, Z4, Z5, Z6, Z7, Z8, Z9, Z0] at q6
                          refine WC.seq (WC.region ?_)
                          refine WL.q (oq_assign rfl) rfl rfl rfl ?_
                          refine WL.nil (WE.then_normal (WC.sub (fr' := [(2, _)]) ?_ ⟨rfl, trivial⟩))
                          refine WC.ret (WE.block_ret (WE.then_ret (WE.then_ret (WE.block_ret (WE.then_ret ?_)))))
                          refine WE.lose ho4 ?_
                          refine WE.endR (.inl rfl) (res1 Tryd.results6 rfl) ?_
                          -- end 20
                          exact congrArg Value.bool (all_not hlt (decide_eq_false (by unfold fineV; omega))).symm
                        ·
                          try simp only [Z1, Z2, Z3, Z4, Z5, Z6, Z7, Z8, Z9, Z0] at q6
                          refine WC.skip (WE.block_normal (WE.then_normal (WC.sub (fr' := [(0, _), (3, _)]) ?_ ⟨rfl, rfl, trivial⟩)))
                          refine WC.region ?_
                          refine WL.q (oq_move rfl) rfl rfl rfl ?_
                          refine WL.q (oq_add rfl rfl (by rw [i64_lo, i64_hi]; (first | omega | (simp only [List.length_cons, List.length_nil, List.length_append, List.length_drop, List.length_take]; omega)))) rfl rfl rfl ?_
                          refine WL.q (oq_assign rfl) rfl rfl rfl ?_
                          refine WL.nil ?_
                          refine WE.lose ho4 ?_
                          refine WE.again (i + 1) ?_ ?_ ⟨rfl, rfl, trivial⟩ (List.Perm.refl _)
                          · try dsimp only   -- again 10
                            exact ⟨by omega, all_snoc (by omega) hall (decide_eq_true (by unfold fineV; omega))⟩
                          · (try dsimp only); omega
                    ·
                      try simp only [Z1, Z2, Z3, Z4, Z5, Z6, Z7, Z8, Z9, Z0] at s6_57
                      refine WQ.skip rfl rfl rfl ?_
                      refine WQ.skip rfl rfl rfl ?_
                      refine WQ.skip rfl rfl rfl ?_
                      refine WQ.skip rfl rfl rfl ?_
                      refine WQ.skip rfl rfl rfl ?_
                      refine WQ.skip rfl rfl rfl ?_
                      refine WQ.skip rfl rfl rfl ?_
                      refine WQ.skip rfl rfl rfl ?_
                      refine WQ.q (oq_pick_f rfl rfl) rfl rfl rfl ?_
                      refine WQ.q (oq_pick_f rfl rfl) rfl rfl rfl ?_
                      refine WQ.nil (WE.then_normal (WC.sub (fr' := [(0, _), (3, _), (86, _)]) ?_ ⟨rfl, rfl, rfl, trivial⟩))
                      refine WC.cond_f rfl ?_
                      refine WC.skip (WE.block_normal (WE.then_normal (WC.sub (fr' := [(0, _), (3, _)]) ?_ ⟨rfl, rfl, trivial⟩)))
                      refine WC.region ?_
                      refine WL.q (oq_move rfl) rfl rfl rfl ?_
                      refine WL.q (oq_add rfl rfl (by rw [i64_lo, i64_hi]; (first | omega | (simp only [List.length_cons, List.length_nil, List.length_append, List.length_drop, List.length_take]; omega)))) rfl rfl rfl ?_
                      refine WL.q (oq_assign rfl) rfl rfl rfl ?_
                      refine WL.nil ?_
                      refine WE.lose ho4 ?_
                      refine WE.again (i + 1) ?_ ?_ ⟨rfl, rfl, trivial⟩ (List.Perm.refl _)
                      · try dsimp only   -- again 11
                        exact ⟨by omega, all_snoc (by omega) hall (decide_eq_true (by unfold fineV; omega))⟩
                      · (try dsimp only); omega
            ·
              try simp only [Z1, Z2, Z3, Z4, Z5, Z6, Z7, Z8, Z9, Z0] at s6_15
              refine WQ.skip rfl rfl rfl ?_
              refine WQ.skip rfl rfl rfl ?_
              refine WQ.q (oq_pick_f rfl rfl) rfl rfl rfl ?_
              refine WQ.q (oq_move rfl) rfl rfl rfl ?_
              refine WQ.skip rfl rfl rfl ?_
              refine WQ.skip rfl rfl rfl ?_
              refine WQ.q (oq_pick_f rfl rfl) rfl rfl rfl ?_
              refine WQ.q (oq_move rfl) rfl rfl rfl ?_
              refine WQ.skip rfl rfl rfl ?_
              refine WQ.skip rfl rfl rfl ?_
              refine WQ.q (oq_pick_f rfl rfl) rfl rfl rfl ?_
              refine WQ.q (oq_move rfl) rfl rfl rfl ?_
              refine WQ.q (oq_fieldAddr fld33_2 rfl) rfl rfl rfl ?_
              refine WQ.q (oq_load flat2 rfl (.head _) (List.mem_singleton.2 rfl) rfl) rfl rfl rfl ?_
              refine WQ.q (oq_move rfl) rfl rfl rfl ?_
              refine WQ.q (oq_sub rfl rfl (by rw [i64_lo, i64_hi]; (first | omega | (simp only [List.length_cons, List.length_nil, List.length_append, List.length_drop, List.length_take]; omega)))) rfl rfl rfl ?_
              refine WQ.q (oq_shl rfl rfl (by omega)) rfl rfl rfl ?_
              refine WQ.q (oq_move rfl) rfl rfl rfl ?_
              refine WQ.q (oq_sub rfl rfl (by rw [i64_lo, i64_hi]; (first | omega | (simp only [List.length_cons, List.length_nil, List.length_append, List.length_drop, List.length_take]; omega)))) rfl rfl rfl ?_
              refine WQ.q (oq_shr rfl rfl (by omega)) rfl rfl rfl ?_
              refine WQ.q (oq_fieldAddr fld33_2 rfl) rfl rfl rfl ?_
              refine WQ.q (oq_load flat2 rfl (.head _) (List.mem_singleton.2 rfl) rfl) rfl rfl rfl ?_
              refine WQ.q (oq_neq rfl rfl) rfl rfl rfl ?_
              refine WQ.q (oq_pick_f rfl rfl) rfl rfl rfl ?_
              refine WQ.q (oq_pick_t rfl rfl) rfl rfl rfl ?_
              refine WQ.q (oq_pick_f rfl rfl) rfl rfl rfl ?_
              refine WQ.q (oq_move rfl) rfl rfl rfl ?_
              refine WQ.split 61 rfl (fun s6_42 => ?_) (fun s6_42 => ?_)
              ·
                try simp only [Z1, Z2, Z3, Z4, Z5, Z6, Z7, Z8, Z9, Z0] at s6_42
                refine WQ.skip rfl rfl rfl ?_
                refine WQ.skip rfl rfl rfl ?_
                refine WQ.skip rfl rfl rfl ?_
                refine WQ.skip rfl rfl rfl ?_
                refine WQ.skip rfl rfl rfl ?_
                refine WQ.skip rfl rfl rfl ?_
                refine WQ.skip rfl rfl rfl ?_
                refine WQ.skip rfl rfl rfl ?_
                refine WQ.skip rfl rfl rfl ?_
                refine WQ.q (oq_pick_t rfl rfl) rfl rfl rfl ?_
                refine WQ.q (oq_move rfl) rfl rfl rfl ?_
                refine WQ.skip rfl rfl rfl ?_
                refine WQ.skip rfl rfl rfl ?_
                refine WQ.skip rfl rfl rfl ?_
                refine WQ.skip rfl rfl rfl ?_
                refine WQ.skip rfl rfl rfl ?_
                refine WQ.skip rfl rfl rfl ?_
                refine WQ.skip rfl rfl rfl ?_
                refine WQ.skip rfl rfl rfl ?_
                refine WQ.skip rfl rfl rfl ?_
                refine WQ.skip rfl rfl rfl ?_
                refine WQ.skip rfl rfl rfl ?_
                refine WQ.skip rfl rfl rfl ?_
                refine WQ.skip rfl rfl rfl ?_
                refine WQ.q (oq_pick_t rfl rfl) rfl rfl rfl ?_
                refine WQ.nil (WE.then_normal (WC.sub (fr' := [(0, _), (3, _), (86, _)]) ?_ ⟨rfl, rfl, rfl, trivial⟩))
                refine WC.cond_t rfl ?_
                refine WC.seq (WC.region ?_)
                refine WL.q (oq_assign rfl) rfl rfl rfl ?_
                refine WL.nil (WE.then_normal (WC.sub (fr' := [(2, _)]) ?_ ⟨rfl, trivial⟩))
                refine WC.ret (WE.block_ret (WE.then_ret (WE.then_ret (WE.block_ret (WE.then_ret ?_)))))
                refine WE.lose ho4 ?_
                refine WE.endR (.inl rfl) (res1 Tryd.results6 rfl) ?_
                -- end 21
                exact congrArg Value.bool (all_not hlt (decide_eq_false (by unfold fineV; omega))).symm
              ·
                try simp only [Z1, Z2, Z3, Z4, Z5, Z6, Z7, Z8, Z9, Z0] at s6_42
                refine WQ.q (oq_fieldAddr fld33_0 rfl) rfl rfl rfl ?_
                refine WQ.q (oq_load flat3 rfl (.head _) (List.mem_singleton.2 rfl) rfl) rfl rfl rfl ?_
                refine WQ.q (oq_eql rfl rfl) rfl rfl rfl ?_
                refine WQ.q (oq_move rfl) rfl rfl rfl ?_
                refine WQ.split 65 rfl (fun s6_46 => ?_) (fun s6_46 => ?_)
                ·
                  try simp only [Z1, Z2, Z3, Z4, Z5, Z6, Z7, Z8, Z9, Z0] at s6_46
                  refine WQ.q (oq_fieldAddr fld33_3 rfl) rfl rfl rfl ?_
                  refine WQ.q (oq_load flat9 rfl (.head _) (List.mem_singleton.2 rfl) rfl) rfl rfl rfl ?_
                  refine WQ.q (oq_len_s Tryd.underlying9 rfl) rfl rfl rfl ?_
                  refine WQ.q (oq_neq rfl rfl) rfl rfl rfl ?_
                  refine WQ.q (oq_pick_t rfl rfl) rfl rfl rfl ?_
                  refine WQ.q (oq_pick_f rfl rfl) rfl rfl rfl ?_
                  refine WQ.q (oq_move rfl) rfl rfl rfl ?_
                  refine WQ.split 72 rfl (fun s6_53 => ?_) (fun s6_53 => ?_)
                  ·
                    try simp only [Z1, Z2, Z3, Z4, Z5, Z6, Z7, Z8, Z9, Z0] at s6_53
                    refine WQ.skip rfl rfl rfl ?_
                    refine WQ.skip rfl rfl rfl ?_
                    refine WQ.skip rfl rfl rfl ?_
                    refine WQ.skip rfl rfl rfl ?_
                    refine WQ.skip rfl rfl rfl ?_
                    refine WQ.skip rfl rfl rfl ?_
                    refine WQ.skip rfl rfl rfl ?_
                    refine WQ.skip rfl rfl rfl ?_
                    refine WQ.skip rfl rfl rfl ?_
                    refine WQ.skip rfl rfl rfl ?_
                    refine WQ.skip rfl rfl rfl ?_
                    refine WQ.skip rfl rfl rfl ?_
                    refine WQ.skip rfl rfl rfl ?_
                    refine WQ.q (oq_pick_t rfl rfl) rfl rfl rfl ?_
                    refine WQ.nil (WE.then_normal (WC.sub (fr' := [(0, _), (3, _), (86, _)]) ?_ ⟨rfl, rfl, rfl, trivial⟩))
                    refine WC.cond_t rfl ?_
                    refine WC.seq (WC.region ?_)
                    refine WL.q (oq_assign rfl) rfl rfl rfl ?_
                    refine WL.nil (WE.then_normal (WC.sub (fr' := [(2, _)]) ?_ ⟨rfl, trivial⟩))
                    refine WC.ret (WE.block_ret (WE.then_ret (WE.then_ret (WE.block_ret (WE.then_ret ?_)))))
                    refine WE.lose ho4 ?_
                    refine WE.endR (.inl rfl) (res1 Tryd.results6 rfl) ?_
                    -- end 22
                    exact congrArg Value.bool (all_not hlt (decide_eq_false (by unfold fineV; omega))).symm
                  ·
                    try simp only [Z1, Z2, Z3, Z4, Z5, Z6, Z7, Z8, Z9, Z0] at s6_53
                    refine WQ.q (oq_fieldAddr fld33_0 rfl) rfl rfl rfl ?_
                    refine WQ.q (oq_load flat3 rfl (.head _) (List.mem_singleton.2 rfl) rfl) rfl rfl rfl ?_
                    refine WQ.q (oq_eql rfl rfl) rfl rfl rfl ?_
                    refine WQ.q (oq_move rfl) rfl rfl rfl ?_
                    refine WQ.split 76 rfl (fun s6_57 => ?_) (fun s6_57 => ?_)
                    ·
                      try simp only [Z1, Z2, Z3, Z4, Z5, Z6, Z7, Z8, Z9, Z0] at s6_57
                      refine WQ.q (oq_fieldAddr fld33_2 rfl) rfl rfl rfl ?_
                      refine WQ.q (oq_load flat2 rfl (.head _) (List.mem_singleton.2 rfl) rfl) rfl rfl rfl ?_
                      refine WQ.q (oq_gtr rfl rfl) rfl rfl rfl ?_
                      refine WQ.q (oq_move rfl) rfl rfl rfl ?_
                      refine WQ.split 80 rfl (fun s6_61 => ?_) (fun s6_61 => ?_)
                      ·
                        try simp only [Z1, Z2, Z3, Z4, Z5, Z6, Z7, Z8, Z9, Z0] at s6_61
                        refine WQ.skip rfl rfl rfl ?_
                        refine WQ.skip rfl rfl rfl ?_
                        refine WQ.skip rfl rfl rfl ?_
                        refine WQ.q (oq_pick_t rfl rfl) rfl rfl rfl ?_
                        refine WQ.q (oq_pick_t rfl rfl) rfl rfl rfl ?_
                        refine WQ.q (oq_pick_f rfl rfl) rfl rfl rfl ?_
                        refine WQ.nil (WE.then_normal (WC.sub (fr' := [(0, _), (3, _), (86, _)]) ?_ ⟨rfl, rfl, rfl, trivial⟩))
                        refine WC.cond_t rfl ?_
                        refine WC.seq (WC.region ?_)
                        refine WL.q (oq_assign rfl) rfl rfl rfl ?_
                        refine WL.nil (WE.then_normal (WC.sub (fr' := [(2, _)]) ?_ ⟨rfl, trivial⟩))
                        refine WC.ret (WE.block_ret (WE.then_ret (WE.then_ret (WE.block_ret (WE.then_ret ?_)))))
                        refine WE.lose ho4 ?_
                        refine WE.endR (.inl rfl) (res1 Tryd.results6 rfl) ?_
                        -- end 23
                        exact congrArg Value.bool (all_not hlt (decide_eq_false (by unfold fineV; omega))).symm
                      ·
                        try simp only [Z1, Z2, Z3, Z4, Z5, Z6, Z7, Z8, Z9, Z0] at s6_61
                        refine WQ.q (oq_fieldAddr fld33_2 rfl) rfl rfl rfl ?_
                        refine WQ.q (oq_load flat2 rfl (.head _) (List.mem_singleton.2 rfl) rfl) rfl rfl rfl ?_
                        refine WQ.q (oq_lss rfl rfl) rfl rfl rfl ?_
                        refine WQ.q (oq_pick_f rfl rfl) rfl rfl rfl ?_
                        refine WQ.q (oq_pick_t rfl rfl) rfl rfl rfl ?_
                        refine WQ.q (oq_pick_f rfl rfl) rfl rfl rfl ?_
                        refine WQ.nil (WE.then_normal (WC.sub (fr' := [(0, _), (3, _), (86, _)]) ?_ ⟨rfl, rfl, rfl, trivial⟩))
                        refine WC.cond rfl (fun q6 => ?_) (fun q6 => ?_)
                        ·
                          try simp only [Z1, Z2, Z3, Z4, Z5, Z6, Z7, Z8, Z9, Z0] at q6
                          refine WC.seq (WC.region ?_)
                          refine WL.q (oq_assign rfl) rfl rfl rfl ?_
                          refine WL.nil (WE.then_normal (WC.sub (fr' := [(2, _)]) ?_ ⟨rfl, trivial⟩))
                          refine WC.ret (WE.block_ret (WE.then_ret (WE.then_ret (WE.block_ret (WE.then_ret ?_)))))
                          refine WE.lose ho4 ?_
                          refine WE.endR (.inl rfl) (res1 Tryd.results6 rfl) ?_
                          -- end 24
                          exact congrArg Value.bool (all_not hlt (decide_eq_false (by unfold fineV; omega))).symm
                        ·
                          try simp only [Z1, Z2, Z3, Z4, Z5, Z6, Z7, Z8, Z9, Z0] at q6
                          refine WC.skip (WE.block_normal (WE.then_normal (WC.sub (fr' := [(0, _), (3, _)]) ?_ ⟨rfl, rfl, trivial⟩)))
                          refine WC.region ?_
                          refine WL.q (oq_move rfl) rfl rfl rfl ?_
                          refine WL.q (oq_add rfl rfl (by rw [i64_lo, i64_hi]; (first | omega | (simp only [List.length_cons, List.length_nil, List.length_append, List.length_drop, List.length_take]; omega)))) rfl rfl rfl ?_
                          refine WL.q (oq_assign rfl) rfl rfl rfl ?_
                          refine WL.nil ?_
                          refine WE.lose ho4 ?_
                          refine WE.again (i + 1) ?_ ?_ ⟨rfl, rfl, trivial⟩ (List.Perm.refl _)
                          · try dsimp only   -- again 12
                            exact ⟨by omega, all_snoc (by omega) hall (decide_eq_true (by unfold fineV; omega))⟩
                          · (try dsimp only); omega
                    ·
                      try simp only [Z1, Z2, Z3, Z4, Z5, Z6, Z7, Z8, Z9, Z0] at s6_57
                      refine WQ.skip rfl rfl rfl ?_
                      refine WQ.skip rfl rfl rfl ?_
                      refine WQ.skip rfl rfl rfl ?_
                      refine WQ.skip rfl rfl rfl ?_
                      refine WQ.skip rfl rfl rfl ?_
                      refine WQ.skip rfl rfl rfl ?_
                      refine WQ.skip rfl rfl rfl ?_
                      refine WQ.skip rfl rfl rfl ?_
                      refine WQ.q (oq_pick_f rfl rfl) rfl rfl rfl ?_
                      refine WQ.q (oq_pick_f rfl rfl) rfl rfl rfl ?_
                      refine WQ.nil (WE.then_normal (WC.sub (fr' := [(0, _), (3, _), (86, _)]) ?_ ⟨rfl, rfl, rfl, trivial⟩))
                      refine WC.cond_f rfl ?_
                      refine WC.skip (WE.block_normal (WE.then_normal (WC.sub (fr' := [(0, _), (3, _)]) ?_ ⟨rfl, rfl, trivial⟩)))
                      refine WC.region ?_
                      refine WL.q (oq_move rfl) rfl rfl rfl ?_
                      refine WL.q (oq_add rfl rfl (by rw [i64_lo, i64_hi]; (first | omega | (simp only [List.length_cons, List.length_nil, List.length_append, List.length_drop, List.length_take]; omega)))) rfl rfl rfl ?_
                      refine WL.q (oq_assign rfl) rfl rfl rfl ?_
                      refine WL.nil ?_
                      refine WE.lose ho4 ?_
                      refine WE.again (i + 1) ?_ ?_ ⟨rfl, rfl, trivial⟩ (List.Perm.refl _)
                      · try dsimp only   -- again 13
                        exact ⟨by omega, all_snoc (by omega) hall (decide_eq_true (by unfold fineV; omega))⟩
                      · (try dsimp only); omega
                ·
                  try simp only [Z1, Z2, Z3, Z4, Z5, Z6, Z7, Z8, Z9, Z0] at s6_46
                  refine WQ.skip rfl rfl rfl ?_
                  refine WQ.skip rfl rfl rfl ?_
                  refine WQ.skip rfl rfl rfl ?_
                  refine WQ.skip rfl rfl rfl ?_
                  refine WQ.q (oq_pick_f rfl rfl) rfl rfl rfl ?_
                  refine WQ.q (oq_pick_f rfl rfl) rfl rfl rfl ?_
                  refine WQ.q (oq_move rfl) rfl rfl rfl ?_
                  refine WQ.q (oq_fieldAddr fld33_0 rfl) rfl rfl rfl ?_
                  refine WQ.q (oq_load flat3 rfl (.head _) (List.mem_singleton.2 rfl) rfl) rfl rfl rfl ?_
                  refine WQ.q (oq_eql rfl rfl) rfl rfl rfl ?_
                  refine WQ.q (oq_move rfl) rfl rfl rfl ?_
                  refine WQ.split 76 rfl (fun s6_57 => ?_) (fun s6_57 => ?_)
                  ·
                    try simp only [Z1, Z2, Z3, Z4, Z5, Z6, Z7, Z8, Z9, Z0] at s6_57
                    refine WQ.q (oq_fieldAddr fld33_2 rfl) rfl rfl rfl ?_
                    refine WQ.q (oq_load flat2 rfl (.head _) (List.mem_singleton.2 rfl) rfl) rfl rfl rfl ?_
                    refine WQ.q (oq_gtr rfl rfl) rfl rfl rfl ?_
                    refine WQ.q (oq_move rfl) rfl rfl rfl ?_
                    refine WQ.split 80 rfl (fun s6_61 => ?_) (fun s6_61 => ?_)
                    ·
                      try simp only [Z1, Z2, Z3, Z4, Z5, Z6, Z7, Z8, Z9, Z0] at s6_61
                      refine WQ.skip rfl rfl rfl ?_
                      refine WQ.skip rfl rfl rfl ?_
                      refine WQ.skip rfl rfl rfl ?_
                      refine WQ.q (oq_pick_t rfl rfl) rfl rfl rfl ?_
                      refine WQ.q (oq_pick_t rfl rfl) rfl rfl rfl ?_
                      refine WQ.q (oq_pick_f rfl rfl) rfl rfl rfl ?_
                      refine WQ.nil (WE.then_normal (WC.sub (fr' := [(0, _), (3, _), (86, _)]) ?_ ⟨rfl, rfl, rfl, trivial⟩))
                      refine WC.cond_t rfl ?_
                      refine WC.seq (WC.region ?_)
                      refine WL.q (oq_assign rfl) rfl rfl rfl ?_
                      refine WL.nil (WE.then_normal (WC.sub (fr' := [(2, _)]) ?_ ⟨rfl, trivial⟩))
                      refine WC.ret (WE.block_ret (WE.then_ret (WE.then_ret (WE.block_ret (WE.then_ret ?_)))))
                      refine WE.lose ho4 ?_
                      refine WE.endR (.inl rfl) (res1 Tryd.results6 rfl) ?_
                      -- end 25
                      exact congrArg Value.bool (all_not hlt (decide_eq_false (by unfold fineV; omega))).symm
                    ·
                      try simp only [Z1, Z2, Z3, Z4, Z5, Z6, Z7, Z8, Z9, Z0] at s6_61
                      refine WQ.q (oq_fieldAddr fld33_2 rfl) rfl rfl rfl ?_
                      refine WQ.q (oq_load flat2 rfl (.head _) (List.mem_singleton.2 rfl) rfl) rfl rfl rfl ?_
                      refine WQ.q (oq_lss rfl rfl) rfl rfl rfl ?_
                      refine WQ.q (oq_pick_f rfl rfl) rfl rfl rfl ?_
                      refine WQ.q (oq_pick_t rfl rfl) rfl rfl rfl ?_
                      refine WQ.q (oq_pick_f rfl rfl) rfl rfl rfl ?_
                      refine WQ.nil (WE.then_normal (WC.sub (fr' := [(0, _), (3, _), (86, _)]) ?_ ⟨rfl, rfl, rfl, trivial⟩))
                      refine WC.cond rfl (fun q6 => ?_) (fun q6 => ?_)
                      ·
                        try simp only [Z1, Z2, Z3, Z4, Z5, Z6, Z7, Z8, Z9, Z0] at q6
                        refine WC.seq (WC.region ?_)
                        refine WL.q (oq_assign rfl) rfl rfl rfl ?_
                        refine WL.nil (WE.then_normal (WC.sub (fr' := [(2, _)]) ?_ ⟨rfl, trivial⟩))
                        refine WC.ret (WE.block_ret (WE.then_ret (WE.then_ret (WE.block_ret (WE.then_ret ?_)))))
                        refine WE.lose ho4 ?_
                        refine WE.endR (.inl rfl) (res1 Tryd.results6 rfl) ?_
                        -- end 26
                        exact congrArg Value.bool (all_not hlt (decide_eq_false (by unfold fineV; omega))).symm
                      ·
                        try simp only [Z1, Z2, Z3, Z4, Z5, Z6, Z7, Z8, Z9, Z0] at q6
                        refine WC.skip (WE.block_normal (WE.then_normal (WC.sub (fr' := [(0, _), (3, _)]) ?_ ⟨rfl, rfl, trivial⟩)))
                        refine WC.region ?_
                        refine WL.q (oq_move rfl) rfl rfl rfl ?_
                        refine WL.q (oq_add rfl rfl (by rw [i64_lo, i64_hi]; (first | omega | (simp only [List.length_cons, List.length_nil, List.length_append, List.length_drop, List.length_take]; omega)))) rfl rfl rfl ?_
                        refine WL.q (oq_assign rfl) rfl rfl rfl ?_
                        refine WL.nil ?_
                        refine WE.lose ho4 ?_
                        refine WE.again (i + 1) ?_ ?_ ⟨rfl, rfl, trivial⟩ (List.Perm.refl _)
                        · try dsimp only   -- again 14
                          exact ⟨by omega, all_snoc (by omega) hall (decide_eq_true (by unfold fineV; omega))⟩
                        · (try dsimp only); omega
                  ·
                    try simp only [Z1, Z2, Z3, Z4, Z5, Z6, Z7, Z8, Z9, Z0] at s6_57
                    refine WQ.skip rfl rfl rfl ?_
                    refine WQ.skip rfl rfl rfl ?_
                    refine WQ.skip rfl rfl rfl ?_
                    refine WQ.skip rfl rfl rfl ?_
                    refine WQ.skip rfl rfl rfl ?_
                    refine WQ.skip rfl rfl rfl ?_
                    refine WQ.skip rfl rfl rfl ?_
                    refine WQ.skip rfl rfl rfl ?_
                    refine WQ.q (oq_pick_f rfl rfl) rfl rfl rfl ?_
                    refine WQ.q (oq_pick_f rfl rfl) rfl rfl rfl ?_
                    refine WQ.nil (WE.then_normal (WC.sub (fr' := [(0, _), (3, _), (86, _)]) ?_ ⟨rfl, rfl, rfl, trivial⟩))
                    refine WC.cond_f rfl ?_
                    refine WC.skip (WE.block_normal (WE.then_normal (WC.sub (fr' := [(0, _), (3, _)]) ?_ ⟨rfl, rfl, trivial⟩)))
                    refine WC.region ?_
                    refine WL.q (oq_move rfl) rfl rfl rfl ?_
                    refine WL.q (oq_add rfl rfl (by rw [i64_lo, i64_hi]; (first | omega | (simp only [List.length_cons, List.length_nil, List.length_append, List.length_drop, List.length_take]; omega)))) rfl rfl rfl ?_
                    refine WL.q (oq_assign rfl) rfl rfl rfl ?_
                    refine WL.nil ?_
                    refine WE.lose ho4 ?_
                    refine WE.again (i + 1) ?_ ?_ ⟨rfl, rfl, trivial⟩ (List.Perm.refl _)
                    · try dsimp only   -- again 15
                      exact ⟨by omega, all_snoc (by omega) hall (decide_eq_true (by unfold fineV; omega))⟩
                    · (try dsimp only); omega
          ·
            try simp only [Z1, Z2, Z3, Z4, Z5, Z6, Z7, Z8, Z9, Z0] at s6_12
            refine WQ.skip rfl rfl rfl ?_
            refine WQ.skip rfl rfl rfl ?_
            refine WQ.skip rfl rfl rfl ?_
            refine WQ.skip rfl rfl rfl ?_
            refine WQ.skip rfl rfl rfl ?_
            refine WQ.skip rfl rfl rfl ?_
            refine WQ.skip rfl rfl rfl ?_
            refine WQ.skip rfl rfl rfl ?_
            refine WQ.skip rfl rfl rfl ?_
            refine WQ.skip rfl rfl rfl ?_
            refine WQ.skip rfl rfl rfl ?_
            refine WQ.skip rfl rfl rfl ?_
            refine WQ.skip rfl rfl rfl ?_
            refine WQ.skip rfl rfl rfl ?_
            refine WQ.skip rfl rfl rfl ?_
            refine WQ.skip rfl rfl rfl ?_
            refine WQ.skip rfl rfl rfl ?_
            refine WQ.skip rfl rfl rfl ?_
            refine WQ.skip rfl rfl rfl ?_
            refine WQ.skip rfl rfl rfl ?_
            refine WQ.skip rfl rfl rfl ?_
            refine WQ.skip rfl rfl rfl ?_
            refine WQ.skip rfl rfl rfl ?_
            refine WQ.skip rfl rfl rfl ?_
            refine WQ.skip rfl rfl rfl ?_
            refine WQ.skip rfl rfl rfl ?_
            refine WQ.skip rfl rfl rfl ?_
            refine WQ.q (oq_pick_f rfl rfl) rfl rfl rfl ?_
            refine WQ.q (oq_pick_f rfl rfl) rfl rfl rfl ?_
            refine WQ.q (oq_move rfl) rfl rfl rfl ?_
            refine WQ.q (oq_fieldAddr fld33_0 rfl) rfl rfl rfl ?_
            refine WQ.q (oq_load flat3 rfl (.head _) (List.mem_singleton.2 rfl) rfl) rfl rfl rfl ?_
            refine WQ.q (oq_eql rfl rfl) rfl rfl rfl ?_
            refine WQ.q (oq_move rfl) rfl rfl rfl ?_
            refine WQ.split 65 rfl (fun s6_46 => ?_) (fun s6_46 => ?_)
            ·
              try simp only [Z1, Z2, Z3, Z4, Z5, Z6, Z7, Z8, Z9, Z0] at s6_46
              refine WQ.q (oq_fieldAddr fld33_3 rfl) rfl rfl rfl ?_
              refine WQ.q (oq_load flat9 rfl (.head _) (List.mem_singleton.2 rfl) rfl) rfl rfl rfl ?_
              refine WQ.q (oq_len_s Tryd.underlying9 rfl) rfl rfl rfl ?_
              refine WQ.q (oq_neq rfl rfl) rfl rfl rfl ?_
              refine WQ.q (oq_pick_t rfl rfl) rfl rfl rfl ?_
              refine WQ.q (oq_pick_f rfl rfl) rfl rfl rfl ?_
              refine WQ.q (oq_move rfl) rfl rfl rfl ?_
              refine WQ.split 72 rfl (fun s6_53 => ?_) (fun s6_53 => ?_)
              ·
                try simp only [Z1, Z2, Z3, Z4, Z5, Z6, Z7, Z8, Z9, Z0] at s6_53
                refine WQ.skip rfl rfl rfl ?_
                refine WQ.skip rfl rfl rfl ?_
                refine WQ.skip rfl rfl rfl ?_
                refine WQ.skip rfl rfl rfl ?_
                refine WQ.skip rfl rfl rfl ?_
                refine WQ.skip rfl rfl rfl ?_
                refine WQ.skip rfl rfl rfl ?_
                refine WQ.skip rfl rfl rfl ?_
                refine WQ.skip rfl rfl rfl ?_
                refine WQ.skip rfl rfl rfl ?_
                refine WQ.skip rfl rfl rfl ?_
                refine WQ.skip rfl rfl rfl ?_
                refine WQ.skip rfl rfl rfl ?_
                refine WQ.q (oq_pick_t rfl rfl) rfl rfl rfl ?_
                refine WQ.nil (WE.then_normal (WC.sub (fr' := [(0, _), (3, _), (86, _)]) ?_ ⟨rfl, rfl, rfl, trivial⟩))
                refine WC.cond_t rfl ?_
                refine WC.seq (WC.region ?_)
                refine WL.q (oq_assign rfl) rfl rfl rfl ?_
                refine WL.nil (WE.then_normal (WC.sub (fr' := [(2, _)]) ?_ ⟨rfl, trivial⟩))
                refine WC.ret (WE.block_ret (WE.then_ret (WE.then_ret (WE.block_ret (WE.then_ret ?_)))))
                refine WE.lose ho4 ?_
                refine WE.endR (.inl rfl) (res1 Tryd.results6 rfl) ?_
                -- end 27
                exact congrArg Value.bool (all_not hlt (decide_eq_false (by unfold fineV; omega))).symm
              ·
                try simp only [Z1, Z2, Z3, Z4, Z5, Z6, Z7, Z8, Z9, Z0] at s6_53
                refine WQ.q (oq_fieldAddr fld33_0 rfl) rfl rfl rfl ?_
                refine WQ.q (oq_load flat3 rfl (.head _) (List.mem_singleton.2 rfl) rfl) rfl rfl rfl ?_
                refine WQ.q (oq_eql rfl rfl) rfl rfl rfl ?_
                refine WQ.q (oq_move rfl) rfl rfl rfl ?_
                refine WQ.split 76 rfl (fun s6_57 => ?_) (fun s6_57 => ?_)
                ·
                  try simp only [Z1, Z2, Z3, Z4, Z5, Z6, Z7, Z8, Z9, Z0] at s6_57
                  refine WQ.q (oq_fieldAddr fld33_2 rfl) rfl rfl rfl ?_
                  refine WQ.q (oq_load flat2 rfl (.head _) (List.mem_singleton.2 rfl) rfl) rfl rfl rfl ?_
                  refine WQ.q (oq_gtr rfl rfl) rfl rfl rfl ?_
                  refine WQ.q (oq_move rfl) rfl rfl rfl ?_
                  refine WQ.split 80 rfl (fun s6_61 => ?_) (fun s6_61 => ?_)
                  ·
                    try simp only [Z1, Z2, Z3, Z4, Z5, Z6, Z7, Z8, Z9, Z0] at s6_61
                    refine WQ.skip rfl rfl rfl ?_
                    refine WQ.skip rfl rfl rfl ?_
                    refine WQ.skip rfl rfl rfl ?_
                    refine WQ.q (oq_pick_t rfl rfl) rfl rfl rfl ?_
                    refine WQ.q (oq_pick_t rfl rfl) rfl rfl rfl ?_
                    refine WQ.q (oq_pick_f rfl rfl) rfl rfl rfl ?_
                    refine WQ.nil (WE.then_normal (WC.sub (fr' := [(0, _), (3, _), (86, _)]) ?_ ⟨rfl, rfl, rfl, trivial⟩))
                    refine WC.cond_t rfl ?_
                    refine WC.seq (WC.region ?_)
                    refine WL.q (oq_assign rfl) rfl rfl rfl ?_
                    refine WL.nil (WE.then_normal (WC.sub (fr' := [(2, _)]) ?_ ⟨rfl, trivial⟩))
                    refine WC.ret (WE.block_ret (WE.then_ret (WE.then_ret (WE.block_ret (WE.then_ret ?_)))))
                    refine WE.lose ho4 ?_
                    refine WE.endR (.inl rfl) (res1 Tryd.results6 rfl) ?_
                    -- end 28
                    exact congrArg Value.bool (all_not hlt (decide_eq_false (by unfold fineV; omega))).symm
                  ·
                    try simp only [Z1, Z2, Z3, Z4, Z5, Z6, Z7, Z8, Z9, Z0] at s6_61
                    refine WQ.q (oq_fieldAddr fld33_2 rfl) rfl rfl rfl ?_
                    refine WQ.q (oq_load flat2 rfl (.head _) (List.mem_singleton.2 rfl) rfl) rfl rfl rfl ?_
                    refine WQ.q (oq_lss rfl rfl) rfl rfl rfl ?_
                    refine WQ.q (oq_pick_f rfl rfl) rfl rfl rfl ?_
                    refine WQ.q (oq_pick_t rfl rfl) rfl rfl rfl ?_
                    refine WQ.q (oq_pick_f rfl rfl) rfl rfl rfl ?_
                    refine WQ.nil (WE.then_normal (WC.sub (fr' := [(0, _), (3, _), (86, _)]) ?_ ⟨rfl, rfl, rfl, trivial⟩))
                    refine WC.cond rfl (fun q6 => ?_) (fun q6 => ?_)
                    ·
                      try simp only [Z1, Z2, Z3, Z4, Z5, Z6, Z7, Z8, Z9, Z0] at q6
                      refine WC.seq (WC.region ?_)
                      refine WL.q (oq_assign rfl) rfl rfl rfl ?_
                      refine WL.nil (WE.then_normal (WC.sub (fr' := [(2, _)]) ?_ ⟨rfl, trivial⟩))
                      refine WC.ret (WE.block_ret (WE.then_ret (WE.then_ret (WE.block_ret (WE.then_ret ?_)))))
                      refine WE.lose ho4 ?_
                      refine WE.endR (.inl rfl) (res1 Tryd.results6 rfl) ?_
                      -- end 29
                      exact congrArg Value.bool (all_not hlt (decide_eq_false (by unfold fineV; omega))).symm
                    ·
                      try simp only [Z1, Z2, Z3, Z4, Z5, Z6, Z7, Z8, Z9, Z0] at q6
                      refine WC.skip (WE.block_normal (WE.then_normal (WC.sub (fr' := [(0, _), (3, _)]) ?_ ⟨rfl, rfl, trivial⟩)))
                      refine WC.region ?_
                      refine WL.q (oq_move rfl) rfl rfl rfl ?_
                      refine WL.q (oq_add rfl rfl (by rw [i64_lo, i64_hi]; (first | omega | (simp only [List.length_cons, List.length_nil, List.length_append, List.length_drop, List.length_take]; omega)))) rfl rfl rfl ?_
                      refine WL.q (oq_assign rfl) rfl rfl rfl ?_
                      refine WL.nil ?_
                      refine WE.lose ho4 ?_
                      refine WE.again (i + 1) ?_ ?_ ⟨rfl, rfl, trivial⟩ (List.Perm.refl _)
                      · try dsimp only   -- again 16
                        exact ⟨by omega, all_snoc (by omega) hall (decide_eq_true (by unfold fineV; omega))⟩
                      · (try dsimp only); omega
                ·
                  try simp only [Z1, Z2, Z3, Z4, Z5, Z6, Z7, Z8, Z9, Z0] at s6_57
                  refine WQ.skip rfl rfl rfl ?_
                  refine WQ.skip rfl rfl rfl ?_
                  refine WQ.skip rfl rfl rfl ?_
                  refine WQ.skip rfl rfl rfl ?_
                  refine WQ.skip rfl rfl rfl ?_
                  refine WQ.skip rfl rfl rfl ?_
                  refine WQ.skip rfl rfl rfl ?_
                  refine WQ.skip rfl rfl rfl ?_
                  refine WQ.q (oq_pick_f rfl rfl) rfl rfl rfl ?_
                  refine WQ.q (oq_pick_f rfl rfl) rfl rfl rfl ?_
                  refine WQ.nil (WE.then_normal (WC.sub (fr' := [(0, _), (3, _), (86, _)]) ?_ ⟨rfl, rfl, rfl, trivial⟩))
                  refine WC.cond_f rfl ?_
                  refine WC.skip (WE.block_normal (WE.then_normal (WC.sub (fr' := [(0, _), (3, _)]) ?_ ⟨rfl, rfl, trivial⟩)))
                  refine WC.region ?_
                  refine WL.q (oq_move rfl) rfl rfl rfl ?_
                  refine WL.q (oq_add rfl rfl (by rw [i64_lo, i64_hi]; (first | omega | (simp only [List.length_cons, List.length_nil, List.length_append, List.length_drop, List.length_take]; omega)))) rfl rfl rfl ?_
                  refine WL.q (oq_assign rfl) rfl rfl rfl ?_
                  refine WL.nil ?_
                  refine WE.lose ho4 ?_
                  refine WE.again (i + 1) ?_ ?_ ⟨rfl, rfl, trivial⟩ (List.Perm.refl _)
                  · try dsimp only   -- again 17
                    exact ⟨by omega, all_snoc (by omega) hall (decide_eq_true (by unfold fineV; omega))⟩
                  · (try dsimp only); omega
            ·
              try simp only [Z1, Z2, Z3, Z4, Z5, Z6, Z7, Z8, Z9, Z0] at s6_46
              refine WQ.skip rfl rfl rfl ?_
              refine WQ.skip rfl rfl rfl ?_
              refine WQ.skip rfl rfl rfl ?_
              refine WQ.skip rfl rfl rfl ?_
              refine WQ.q (oq_pick_f rfl rfl) rfl rfl rfl ?_
              refine WQ.q (oq_pick_f rfl rfl) rfl rfl rfl ?_
              refine WQ.q (oq_move rfl) rfl rfl rfl ?_
              refine WQ.q (oq_fieldAddr fld33_0 rfl) rfl rfl rfl ?_
              refine WQ.q (oq_load flat3 rfl (.head _) (List.mem_singleton.2 rfl) rfl) rfl rfl rfl ?_
              refine WQ.q (oq_eql rfl rfl) rfl rfl rfl ?_
              refine WQ.q (oq_move rfl) rfl rfl rfl ?_
              refine WQ.split 76 rfl (fun s6_57 => ?_) (fun s6_57 => ?_)
              ·
                try simp only [Z1, Z2, Z3, Z4, Z5, Z6, Z7, Z8, Z9, Z0] at s6_57
                refine WQ.q (oq_fieldAddr fld33_2 rfl) rfl rfl rfl ?_
                refine WQ.q (oq_load flat2 rfl (.head _) (List.mem_singleton.2 rfl) rfl) rfl rfl rfl ?_
                refine WQ.q (oq_gtr rfl rfl) rfl rfl rfl ?_
                refine WQ.q (oq_move rfl) rfl rfl rfl ?_
                refine WQ.split 80 rfl (fun s6_61 => ?_) (fun s6_61 => ?_)
                ·
                  try simp only [Z1, Z2, Z3, Z4, Z5, Z6, Z7, Z8, Z9, Z0] at s6_61
                  refine WQ.skip rfl rfl rfl ?_
                  refine WQ.skip rfl rfl rfl ?_
                  refine WQ.skip rfl rfl rfl ?_
                  refine WQ.q (oq_pick_t rfl rfl) rfl rfl rfl ?_
                  refine WQ.q (oq_pick_t rfl rfl) rfl rfl rfl ?_
                  refine WQ.q (oq_pick_f rfl rfl) rfl rfl rfl ?_
                  refine WQ.nil (WE.then_normal (WC.sub (fr' := [(0, _), (3, _), (86, _)]) ?_ ⟨rfl, rfl, rfl, trivial⟩))
                  refine WC.cond_t rfl ?_
                  refine WC.seq (WC.region ?_)
                  refine WL.q (oq_assign rfl) rfl rfl rfl ?_
                  refine WL.nil (WE.then_normal (WC.sub (fr' := [(2, _)]) ?_ ⟨rfl, trivial⟩))
                  refine WC.ret (WE.block_ret (WE.then_ret (WE.then_ret (WE.block_ret (WE.then_ret ?_)))))
                  refine WE.lose ho4 ?_
                  refine WE.endR (.inl rfl) (res1 Tryd.results6 rfl) ?_
                  -- end 30
                  exact congrArg Value.bool (all_not hlt (decide_eq_false (by unfold fineV; omega))).symm
                ·
                  try simp only [Z1, Z2, Z3, Z4, Z5, Z6, Z7, Z8, Z9, Z0] at s6_61
                  refine WQ.q (oq_fieldAddr fld33_2 rfl) rfl rfl rfl ?_
                  refine WQ.q (oq_load flat2 rfl (.head _) (List.mem_singleton.2 rfl) rfl) rfl rfl rfl ?_
                  refine WQ.q (oq_lss rfl rfl) rfl rfl rfl ?_
                  refine WQ.q (oq_pick_f rfl rfl) rfl rfl rfl ?_
                  refine WQ.q (oq_pick_t rfl rfl) rfl rfl rfl ?_
                  refine WQ.q (oq_pick_f rfl rfl) rfl rfl rfl ?_
                  refine WQ.nil (WE.then_normal (WC.sub (fr' := [(0, _), (3, _), (86, _)]) ?_ ⟨rfl, rfl, rfl, trivial⟩))
                  refine WC.cond rfl (fun q6 => ?_) (fun q6 => ?_)
                  ·
                    try simp only [Z1, Z2, Z3, Z4, Z5, Z6, Z7, Z8, Z9, Z0] at q6
                    refine WC.seq (WC.region ?_)
                    refine WL.q (oq_assign rfl) rfl rfl rfl ?_
                    refine WL.nil (WE.then_normal (WC.sub (fr' := [(2, _)]) ?_ ⟨rfl, trivial⟩))
                    refine WC.ret (WE.block_ret (WE.then_ret (WE.then_ret (WE.block_ret (WE.then_ret ?_)))))
                    refine WE.lose ho4 ?_
                    refine WE.endR (.inl rfl) (res1 Tryd.results6 rfl) ?_
                    -- end 31
                    exact congrArg Value.bool (all_not hlt (decide_eq_false (by unfold fineV; omega))).symm
                  ·
                    try simp only [Z1, Z2, Z3, Z4, Z5, Z6, Z7, Z8, Z9, Z0] at q6
                    refine WC.skip (WE.block_normal (WE.then_normal (WC.sub (fr' := [(0, _), (3, _)]) ?_ ⟨rfl, rfl, trivial⟩)))
                    refine WC.region ?_
                    refine WL.q (oq_move rfl) rfl rfl rfl ?_
                    refine WL.q (oq_add rfl rfl (by rw [i64_lo, i64_hi]; (first | omega | (simp only [List.length_cons, List.length_nil, List.length_append, List.length_drop, List.length_take]; omega)))) rfl rfl rfl ?_
                    refine WL.q (oq_assign rfl) rfl rfl rfl ?_
                    refine WL.nil ?_
                    refine WE.lose ho4 ?_
                    refine WE.again (i + 1) ?_ ?_ ⟨rfl, rfl, trivial⟩ (List.Perm.refl _)
                    · try dsimp only   -- again 18
                      exact ⟨by omega, all_snoc (by omega) hall (decide_eq_true (by unfold fineV; omega))⟩
                    · (try dsimp only); omega
              ·
                try simp only [Z1, Z2, Z3, Z4, Z5, Z6, Z7, Z8, Z9, Z0] at s6_57
                refine WQ.skip rfl rfl rfl ?_
                refine WQ.skip rfl rfl rfl ?_
                refine WQ.skip rfl rfl rfl ?_
                refine WQ.skip rfl rfl rfl ?_
                refine WQ.skip rfl rfl rfl ?_
                refine WQ.skip rfl rfl rfl ?_
                refine WQ.skip rfl rfl rfl ?_
                refine WQ.skip rfl rfl rfl ?_
                refine WQ.q (oq_pick_f rfl rfl) rfl rfl rfl ?_
                refine WQ.q (oq_pick_f rfl rfl) rfl rfl rfl ?_
                refine WQ.nil (WE.then_normal (WC.sub (fr' := [(0, _), (3, _), (86, _)]) ?_ ⟨rfl, rfl, rfl, trivial⟩))
                refine WC.cond_f rfl ?_
                refine WC.skip (WE.block_normal (WE.then_normal (WC.sub (fr' := [(0, _), (3, _)]) ?_ ⟨rfl, rfl, trivial⟩)))
                refine WC.region ?_
                refine WL.q (oq_move rfl) rfl rfl rfl ?_
                refine WL.q (oq_add rfl rfl (by rw [i64_lo, i64_hi]; (first | omega | (simp only [List.length_cons, List.length_nil, List.length_append, List.length_drop, List.length_take]; omega)))) rfl rfl rfl ?_
                refine WL.q (oq_assign rfl) rfl rfl rfl ?_
                refine WL.nil ?_
                refine WE.lose ho4 ?_
                refine WE.again (i + 1) ?_ ?_ ⟨rfl, rfl, trivial⟩ (List.Perm.refl _)
                · try dsimp only   -- again 19
                  exact ⟨by omega, all_snoc (by omega) hall (decide_eq_true (by unfold fineV; omega))⟩
                · (try dsimp only); omega
    ·
      try simp only [Z1, Z2, Z3, Z4, Z5, Z6, Z7, Z8, Z9, Z0] at q2
      refine WC.exit (WE.then_exit (WE.then_exit (WE.block_same (WE.then_normal (WC.sub (fr' := []) ?_ trivial)))))
      refine WC.seq (WC.region ?_)
      refine WL.q (oq_assign rfl) rfl rfl rfl ?_
      refine WL.nil (WE.then_normal (WC.sub (fr' := [(2, _)]) ?_ ⟨rfl, trivial⟩))
      refine WC.ret ?_
      refine WE.endR (.inl rfl) (res1 Tryd.results6 rfl) ?_
      -- end 32
      obtain rfl : i = l.length := by omega
      rw [List.take_length] at hall
      rw [hall]

end ER
end Go.Proofs.YtodlhaghdplclaaDoor
