/- The walk of the reading of a character. -/
import Derived.Test.YthhankjineidiaaV8
import Derived.Test.YthhankjineidiaaP1
import Derived.Test.YthhankjineidiaaP0
import Derived.Test.YthhankjineidiaaProg
namespace Go.Proofs.Ythhankjineidiaa
open Go Go.RowKit V
set_option linter.unusedSimpArgs false
set_option linter.unusedVariables false
set_option maxRecDepth 10000
namespace E1
theorem flat21 : Flat Try.prog 21 := ⟨_, Try.underlying21, by simp⟩
theorem ty21 : Ty Try.prog 21 (.int .i32 0) 1 4 := ty_of (by kernel_rfl)

theorem cut_p (s : List UInt8) (i n : Nat) : cut s (i : Int) ((i : Int) + (n : Int)) = (s.drop i).take n := cut_nat s i n
theorem cut_le {α : Type} (l : List α) (i j : Int) : (cut l i j).length ≤ l.length := by
  unfold cut; rw [List.length_drop, List.length_take]; omega
theorem hit_r (s : List UInt8) (i n : Nat) (hn : 1 ≤ n) (hl : i + n ≤ s.length) (h1 : ((rlist (cut s (i : Int) ((i : Int) + (n : Int)))).length : Int) = 1) (h2 : (rlist (cut s (i : Int) ((i : Int) + (n : Int)))).flatMap encR = cut s (i : Int) ((i : Int) + (n : Int))) : (decAt s i).2 = n ∧ (rlist (cut s (i : Int) ((i : Int) + (n : Int)))).getD 0 0 = (decAt s i).1 := by
  rw [cut_p] at *
  have h := ((rune_hit s i n hn hl).1.1 ⟨by omega, h2⟩).2
  exact ⟨h, by rw [(rune_hit s i n hn hl).2 h]; rfl⟩
theorem miss_r (s : List UInt8) (i n : Nat) (hn : 1 ≤ n) (hl : i + n ≤ s.length) (h : ¬ (((rlist (cut s (i : Int) ((i : Int) + (n : Int)))).length : Int) = 1 ∧ (rlist (cut s (i : Int) ((i : Int) + (n : Int)))).flatMap encR = cut s (i : Int) ((i : Int) + (n : Int)))) (hv : vld s i → n ≤ (decAt s i).2) : vld s i → n + 1 ≤ (decAt s i).2 := by
  rw [cut_p] at *
  intro v
  have := hv v
  have k := (rune_hit s i n hn hl).1
  have : ¬ (decAt s i).2 = n := fun e => h (by have := k.2 ⟨v, e⟩; exact ⟨by omega, this.2⟩)
  omega
theorem bad_r (s : List UInt8) (i n : Nat) (hi : i < s.length) (hv : vld s i → n ≤ (decAt s i).2) (h : 4 < n ∨ s.length < i + n) : decAt s i = (65533, 1) := by
  refine not_vld s i fun v => ?_
  have := hv v
  have := decAt_4 s i
  have := decAt_width s i hi
  omega
/-- given.example/pub-tinwright/spec.xRune -/
theorem xRune (s : List UInt8) (i : Nat) (hs : s.length ≤ 4000000000) (hi : i < s.length) : Fn0 Try.prog 44 [S s, I (i : Int)] (.tuple #[.int .i32 ((decAt s i).1 : Int), I ((decAt s i).2 : Int)]) := by
  refine Fn0.enter (n := 45) Try.func44 rfl rfl fun w0 => ?_
  refine WC.sub (fr' := [(0, _), (1, _)]) ?_ ⟨rfl, rfl, trivial⟩
  refine WC.seq ?_
  refine WC.region ?_
  refine WL.q (oq_assign rfl) rfl rfl rfl ?_
  refine WL.q (oq_assign rfl) rfl rfl rfl ?_
  refine WL.nil ?_
  refine WE.then_normal ?_
  refine WC.sub (fr' := [(0, _), (1, _)]) ?_ ⟨rfl, rfl, trivial⟩
  refine WC.seq ?_
  refine WC.seq ?_
  refine WC.region ?_
  refine WL.q (oq_assign rfl) rfl rfl rfl ?_
  refine WL.nil ?_
  refine WE.then_normal ?_
  refine WC.sub (fr' := [(0, _), (1, _), (6, _)]) ?_ ⟨rfl, rfl, rfl, trivial⟩
  refine WC.block ?_
  refine WC.loop (ι := Nat) (fun (n : Nat) => [(0, S s), (1, I (i : Int)), (6, I (n : Int))]) (fun (n : Nat) => []) (fun (n : Nat) => 1 ≤ n ∧ (vld s i → n ≤ (decAt s i).2)) (fun (n : Nat) => 6 - n) (1) ?_ ⟨rfl, rfl, rfl, trivial⟩ (List.Perm.refl _) ?_
  · try dsimp only
    exact ⟨by omega, fun _ => (decAt_width s i hi).1⟩
  · rintro n hp
    try dsimp only at hp
    obtain ⟨hn, hv⟩ := hp
    show WC _ _ _ _ _ _ ([(0, S s), (1, I (i : Int)), (6, I (n : Int))]) ([])
    refine WC.seq ?_
    refine WC.seq ?_
    refine WC.region ?_
    refine WL.q (oq_move rfl) rfl rfl rfl ?_
    refine WL.q (oq_leq rfl rfl) rfl rfl rfl ?_
    refine WL.q (oq_move rfl) rfl rfl rfl ?_
    refine WL.split 10 rfl (fun s2_2 => ?_) (fun s2_2 => ?_)
    ·
      try simp only [Bool.not_eq_eq_eq_not, Bool.not_true, Bool.not_false, decide_eq_true_eq, decide_eq_false_iff_not, Int.not_lt, Int.not_le, ne_eq, Decidable.not_not, ← List.length_eq_zero_iff] at s2_2
      refine WL.q (oq_move rfl) rfl rfl rfl ?_
      refine WL.q (oq_move rfl) rfl rfl rfl ?_
      refine WL.q (oq_add rfl rfl (by rw [i64_lo, i64_hi]; (first | omega | (simp only [List.length_cons, List.length_nil, List.length_append, List.length_drop, List.length_take]; omega)))) rfl rfl rfl ?_
      refine WL.q (oq_move rfl) rfl rfl rfl ?_
      refine WL.q (oq_len_s Try.underlying9 rfl) rfl rfl rfl ?_
      refine WL.q (oq_leq rfl rfl) rfl rfl rfl ?_
      refine WL.q (oq_pick_t rfl rfl) rfl rfl rfl ?_
      refine WL.nil ?_
      refine WE.then_normal ?_
      refine WC.sub (fr' := [(0, _), (1, _), (6, _), (17, _)]) ?_ ⟨rfl, rfl, rfl, rfl, trivial⟩
      refine WC.cond rfl (fun q2 => ?_) (fun q2 => ?_)
      ·
        try simp only [Bool.not_eq_eq_eq_not, Bool.not_true, Bool.not_false, decide_eq_true_eq, decide_eq_false_iff_not, Int.not_lt, Int.not_le, ne_eq, Decidable.not_not, ← List.length_eq_zero_iff] at q2
        refine WC.skip ?_
        refine WE.then_normal ?_
        refine WC.sub (fr' := [(0, _), (1, _), (6, _)]) ?_ ⟨rfl, rfl, rfl, trivial⟩
        refine WC.seq ?_
        refine WC.block ?_
        refine WC.seq ?_
        refine WC.region ?_
        refine WL.q (oq_move rfl) rfl rfl rfl ?_
        refine WL.q (oq_move rfl) rfl rfl rfl ?_
        refine WL.q (oq_move rfl) rfl rfl rfl ?_
        refine WL.q (oq_move rfl) rfl rfl rfl ?_
        refine WL.q (oq_add rfl rfl (by rw [i64_lo, i64_hi]; (first | omega | (simp only [List.length_cons, List.length_nil, List.length_append, List.length_drop, List.length_take]; omega)))) rfl rfl rfl ?_
        refine WL.q (oq_slice_s2 Try.underlying9 rfl rfl rfl (by (first | omega | (simp only [List.length_cons, List.length_nil, List.length_append, List.length_drop, List.length_take]; omega)))) rfl rfl rfl ?_
        refine WL.toRunes Try.underlying9 Try.underlying45 Try.underlying21 rfl (by unfold maxLen; (have := cut_le s (i : Int) ((i : Int) + (n : Int)); omega)) rfl rfl fun v4_6 A4_6 ho4_6 => ?_
        refine WL.q (oq_assign rfl) rfl rfl rfl ?_
        refine WL.nil ?_
        refine WE.then_normal ?_
        refine WC.sub (fr' := [(0, _), (1, _), (6, _), (7, _)]) ?_ ⟨rfl, rfl, rfl, rfl, trivial⟩
        refine WC.seq ?_
        refine WC.quiet (by kernel_rfl) (by kernel_rfl) ?_
        refine WQ.q (oq_move rfl) rfl rfl rfl ?_
        refine WQ.q (oq_len_rd ho4_6.rd Try.underlying45 rfl) rfl rfl rfl ?_
        refine WQ.q (oq_eql rfl rfl) rfl rfl rfl ?_
        refine WQ.q (oq_move rfl) rfl rfl rfl ?_
        refine WQ.split 30 rfl (fun s5_3 => ?_) (fun s5_3 => ?_)
        ·
          try simp only [Bool.not_eq_eq_eq_not, Bool.not_true, Bool.not_false, decide_eq_true_eq, decide_eq_false_iff_not, Int.not_lt, Int.not_le, ne_eq, Decidable.not_not, ← List.length_eq_zero_iff] at s5_3
          refine WQ.q (oq_move rfl) rfl rfl rfl ?_
          refine WQ.q (oq_runesStr ho4_6.rd (.head _) Try.underlying9 Try.underlying45 Try.underlying21 rfl) rfl rfl rfl ?_
          refine WQ.q (oq_move rfl) rfl rfl rfl ?_
          refine WQ.q (oq_move rfl) rfl rfl rfl ?_
          refine WQ.q (oq_move rfl) rfl rfl rfl ?_
          refine WQ.q (oq_move rfl) rfl rfl rfl ?_
          refine WQ.q (oq_add rfl rfl (by rw [i64_lo, i64_hi]; (first | omega | (simp only [List.length_cons, List.length_nil, List.length_append, List.length_drop, List.length_take]; omega)))) rfl rfl rfl ?_
          refine WQ.q (oq_slice_s2 Try.underlying9 rfl rfl rfl (by (first | omega | (simp only [List.length_cons, List.length_nil, List.length_append, List.length_drop, List.length_take]; omega)))) rfl rfl rfl ?_
          refine WQ.q (oq_seql rfl rfl) rfl rfl rfl ?_
          refine WQ.q (oq_pick_t rfl rfl) rfl rfl rfl ?_
          refine WQ.nil ?_
          refine WE.then_normal ?_
          refine WC.sub (fr' := [(0, _), (1, _), (6, _), (7, _), (40, _)]) ?_ ⟨rfl, rfl, rfl, rfl, rfl, trivial⟩
          refine WC.cond rfl (fun q5 => ?_) (fun q5 => ?_)
          ·
            try simp only [Bool.not_eq_eq_eq_not, Bool.not_true, Bool.not_false, decide_eq_true_eq, decide_eq_false_iff_not, Int.not_lt, Int.not_le, ne_eq, Decidable.not_not, ← List.length_eq_zero_iff] at q5
            refine WC.seq ?_
            refine WC.region ?_
            refine WL.q (oq_move rfl) rfl rfl rfl ?_
            refine WL.q (oq_ixaddr ho4_6.rd Try.underlying45 ty21 rfl rfl (by (first | omega | (simp only [List.length_cons, List.length_nil, List.length_append, List.length_drop, List.length_take]; omega)))) rfl rfl rfl ?_
            refine WL.q (oq_load_rune ho4_6.rd (.head _) flat21 rfl (by (first | omega | (simp only [List.length_cons, List.length_nil, List.length_append, List.length_drop, List.length_take]; omega))) (by first | exact Int.toNat_natCast _ | exact rfl)) rfl rfl rfl ?_
            refine WL.q (oq_move rfl) rfl rfl rfl ?_
            refine WL.q (oq_assign rfl) rfl rfl rfl ?_
            refine WL.q (oq_assign rfl) rfl rfl rfl ?_
            refine WL.nil ?_
            refine WE.then_normal ?_
            refine WC.sub (fr' := [(4, _), (5, _)]) ?_ ⟨rfl, rfl, trivial⟩
            refine WC.ret ?_
            refine WE.block_ret ?_
            refine WE.then_ret ?_
            refine WE.then_ret ?_
            refine WE.block_ret ?_
            refine WE.then_ret ?_
            refine WE.forget ho4_6.fresh ?_
            refine WE.end0 (.inl rfl) (res2 Try.results44 rfl rfl) ?_
            -- end 0
            first | (rw [bad_r s i n hi hv (by omega)]; rfl) | (have hh := hit_r s i n hn (by omega) s5_3 q5; rw [hh.2, hh.1])
          ·
            try simp only [Bool.not_eq_eq_eq_not, Bool.not_true, Bool.not_false, decide_eq_true_eq, decide_eq_false_iff_not, Int.not_lt, Int.not_le, ne_eq, Decidable.not_not, ← List.length_eq_zero_iff] at q5
            refine WC.skip ?_
            refine WE.block_normal ?_
            refine WE.then_normal ?_
            refine WC.sub (fr' := [(0, _), (1, _), (6, _)]) ?_ ⟨rfl, rfl, rfl, trivial⟩
            refine WC.region ?_
            refine WL.q (oq_move rfl) rfl rfl rfl ?_
            refine WL.q (oq_add rfl rfl (by rw [i64_lo, i64_hi]; (first | omega | (simp only [List.length_cons, List.length_nil, List.length_append, List.length_drop, List.length_take]; omega)))) rfl rfl rfl ?_
            refine WL.q (oq_assign rfl) rfl rfl rfl ?_
            refine WL.nil ?_
            refine WE.forget ho4_6.fresh ?_
            refine WE.again (n + 1) ?_ ?_ ⟨rfl, rfl, rfl, trivial⟩ (List.Perm.refl _)
            · try dsimp only   -- again 0
              exact ⟨by omega, miss_r s i n hn (by omega) (fun h => q5 h.2) hv⟩
            · (try dsimp only); omega
        ·
          try simp only [Bool.not_eq_eq_eq_not, Bool.not_true, Bool.not_false, decide_eq_true_eq, decide_eq_false_iff_not, Int.not_lt, Int.not_le, ne_eq, Decidable.not_not, ← List.length_eq_zero_iff] at s5_3
          refine WQ.skip rfl rfl rfl ?_
          refine WQ.skip rfl rfl rfl ?_
          refine WQ.skip rfl rfl rfl ?_
          refine WQ.skip rfl rfl rfl ?_
          refine WQ.skip rfl rfl rfl ?_
          refine WQ.skip rfl rfl rfl ?_
          refine WQ.skip rfl rfl rfl ?_
          refine WQ.skip rfl rfl rfl ?_
          refine WQ.skip rfl rfl rfl ?_
          refine WQ.q (oq_pick_f rfl rfl) rfl rfl rfl ?_
          refine WQ.nil ?_
          refine WE.then_normal ?_
          refine WC.sub (fr' := [(0, _), (1, _), (6, _), (7, _), (40, _)]) ?_ ⟨rfl, rfl, rfl, rfl, rfl, trivial⟩
          refine WC.cond_f rfl ?_
          refine WC.skip ?_
          refine WE.block_normal ?_
          refine WE.then_normal ?_
          refine WC.sub (fr' := [(0, _), (1, _), (6, _)]) ?_ ⟨rfl, rfl, rfl, trivial⟩
          refine WC.region ?_
          refine WL.q (oq_move rfl) rfl rfl rfl ?_
          refine WL.q (oq_add rfl rfl (by rw [i64_lo, i64_hi]; (first | omega | (simp only [List.length_cons, List.length_nil, List.length_append, List.length_drop, List.length_take]; omega)))) rfl rfl rfl ?_
          refine WL.q (oq_assign rfl) rfl rfl rfl ?_
          refine WL.nil ?_
          refine WE.forget ho4_6.fresh ?_
          refine WE.again (n + 1) ?_ ?_ ⟨rfl, rfl, rfl, trivial⟩ (List.Perm.refl _)
          · try dsimp only   -- again 1
            exact ⟨by omega, miss_r s i n hn (by omega) (fun h => s5_3 h.1) hv⟩
          · (try dsimp only); omega
      ·
        try simp only [Bool.not_eq_eq_eq_not, Bool.not_true, Bool.not_false, decide_eq_true_eq, decide_eq_false_iff_not, Int.not_lt, Int.not_le, ne_eq, Decidable.not_not, ← List.length_eq_zero_iff] at q2
        refine WC.exit ?_
        refine WE.then_exit ?_
        refine WE.then_exit ?_
        refine WE.block_same ?_
        refine WE.then_normal ?_
        refine WC.sub (fr' := []) ?_ trivial
        refine WC.seq ?_
        refine WC.region ?_
        refine WL.q (oq_assign rfl) rfl rfl rfl ?_
        refine WL.q (oq_assign rfl) rfl rfl rfl ?_
        refine WL.nil ?_
        refine WE.then_normal ?_
        refine WC.sub (fr' := [(4, _), (5, _)]) ?_ ⟨rfl, rfl, trivial⟩
        refine WC.ret ?_
        refine WE.end0 (.inl rfl) (res2 Try.results44 rfl rfl) ?_
        -- end 1
        first | (rw [bad_r s i n hi hv (by omega)]; rfl) | (have hh := hit_r s i n hn (by omega) s5_3 q5; rw [hh.2, hh.1])
    ·
      try simp only [Bool.not_eq_eq_eq_not, Bool.not_true, Bool.not_false, decide_eq_true_eq, decide_eq_false_iff_not, Int.not_lt, Int.not_le, ne_eq, Decidable.not_not, ← List.length_eq_zero_iff] at s2_2
      refine WL.skip rfl rfl rfl ?_
      refine WL.skip rfl rfl rfl ?_
      refine WL.skip rfl rfl rfl ?_
      refine WL.skip rfl rfl rfl ?_
      refine WL.skip rfl rfl rfl ?_
      refine WL.skip rfl rfl rfl ?_
      refine WL.q (oq_pick_f rfl rfl) rfl rfl rfl ?_
      refine WL.nil ?_
      refine WE.then_normal ?_
      refine WC.sub (fr' := [(0, _), (1, _), (6, _), (17, _)]) ?_ ⟨rfl, rfl, rfl, rfl, trivial⟩
      refine WC.cond_f rfl ?_
      refine WC.exit ?_
      refine WE.then_exit ?_
      refine WE.then_exit ?_
      refine WE.block_same ?_
      refine WE.then_normal ?_
      refine WC.sub (fr' := []) ?_ trivial
      refine WC.seq ?_
      refine WC.region ?_
      refine WL.q (oq_assign rfl) rfl rfl rfl ?_
      refine WL.q (oq_assign rfl) rfl rfl rfl ?_
      refine WL.nil ?_
      refine WE.then_normal ?_
      refine WC.sub (fr' := [(4, _), (5, _)]) ?_ ⟨rfl, rfl, trivial⟩
      refine WC.ret ?_
      refine WE.end0 (.inl rfl) (res2 Try.results44 rfl rfl) ?_
      -- end 2
      first | (rw [bad_r s i n hi hv (by omega)]; rfl) | (have hh := hit_r s i n hn (by omega) s5_3 q5; rw [hh.2, hh.1])

end E1
end Go.Proofs.Ythhankjineidiaa
