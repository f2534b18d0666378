/- Walks of the law on texts as parts of a URI. -/
import Derived.Test.YthhankjineidiaaE5
namespace Go.Proofs.Ythhankjineidiaa
open Go Go.RowKit V L2 L1 E5
set_option linter.unusedSimpArgs false
set_option linter.unusedVariables false
set_option maxRecDepth 10000
namespace E6
theorem call20 : Callable Try.prog 20 := ⟨_, Try.func20, rfl, by kernel_rfl⟩
theorem call37 : Callable Try.prog 37 := ⟨_, Try.func37, rfl, by kernel_rfl⟩
theorem call38 : Callable Try.prog 38 := ⟨_, Try.func38, rfl, by kernel_rfl⟩
/-- given.example/pub-tinwright/spec.ECoded -/
theorem ecoded (s : List UInt8) (hs : s.length ≤ 2147483647) : Fn0 Try.prog 37 [S s] (.tuple #[S (if s.all saidB then esc s else []), .bool (s.all saidB)]) := by
  refine Fn0.enter (n := 80) Try.func37 rfl rfl fun w0 => ?_
  refine WC.sub (fr' := [(0, _)]) ?_ ⟨rfl, trivial⟩
  refine WC.seq ?_
  refine WC.region ?_
  refine WL.q (oq_assign rfl) rfl rfl rfl ?_
  refine WL.q (oq_assign rfl) rfl rfl rfl ?_
  refine WL.nil ?_
  refine WE.then_normal ?_
  refine WC.sub (fr' := [(0, _)]) ?_ ⟨rfl, trivial⟩
  refine WC.seq ?_
  refine WC.region ?_
  refine WL.q (oq_assign rfl) rfl rfl rfl ?_
  refine WL.nil ?_
  refine WE.then_normal ?_
  refine WC.sub (fr' := [(0, _), (4, _)]) ?_ ⟨rfl, rfl, trivial⟩
  refine WC.seq ?_
  refine WC.seq ?_
  refine WC.region ?_
  refine WL.q (oq_assign rfl) rfl rfl rfl ?_
  refine WL.nil ?_
  refine WE.then_normal ?_
  refine WC.sub (fr' := [(0, _), (4, _), (5, _)]) ?_ ⟨rfl, rfl, rfl, trivial⟩
  refine WC.block ?_
  refine WC.loop (ι := Nat × (List UInt8)) (fun i_ => (fun (i : Nat) (l : List UInt8) => [(0, S s), (4, S l), (5, I (i : Int))]) i_.1 i_.2) (fun i_ => (fun (i : Nat) (l : List UInt8) => []) i_.1 i_.2) (fun i_ => (fun (i : Nat) (l : List UInt8) => i ≤ s.length ∧ l.length ≤ 3 * i ∧ l ++ (s.drop i).flatMap encB = esc s ∧ s.all saidB = (s.drop i).all saidB) i_.1 i_.2) (fun i_ => (fun (i : Nat) (l : List UInt8) => s.length - i) i_.1 i_.2) ((0, [])) ?_ ⟨rfl, rfl, rfl, trivial⟩ (List.Perm.refl _) ?_
  · try dsimp only
    exact ⟨by omega, by simp, rfl, rfl⟩
  · rintro ⟨i, l⟩ hp
    try dsimp only at hp
    obtain ⟨hi, hl, hf, ha⟩ := hp
    show WC _ _ _ _ _ _ ([(0, S s), (4, S l), (5, I (i : Int))]) ([])
    refine WC.seq ?_
    refine WC.seq ?_
    refine WC.region ?_
    refine WL.q (oq_move rfl) rfl rfl rfl ?_
    refine WL.q (oq_move rfl) rfl rfl rfl ?_
    refine WL.q (oq_len_s Try.underlying9 rfl) rfl rfl rfl ?_
    refine WL.q (oq_lss rfl rfl) rfl rfl rfl ?_
    refine WL.nil ?_
    refine WE.then_normal ?_
    refine WC.sub (fr' := [(0, _), (4, _), (5, _), (10, _)]) ?_ ⟨rfl, rfl, rfl, rfl, trivial⟩
    refine WC.cond rfl (fun q3 => ?_) (fun q3 => ?_)
    ·
      try simp only [Bool.not_eq_eq_eq_not, Bool.not_true, Bool.not_false, decide_eq_true_eq, decide_eq_false_iff_not, Int.not_lt, Int.not_le, ne_eq, Decidable.not_not, ← List.length_eq_zero_iff] at q3
      refine WC.skip ?_
      refine WE.then_normal ?_
      refine WC.sub (fr' := [(0, _), (4, _), (5, _)]) ?_ ⟨rfl, rfl, rfl, trivial⟩
      refine WC.seq ?_
      refine WC.block ?_
      refine WC.seq ?_
      refine WC.region ?_
      refine WL.q (oq_move rfl) rfl rfl rfl ?_
      refine WL.q (oq_move rfl) rfl rfl rfl ?_
      refine WL.index_s Try.underlying9 rfl rfl (by (first | omega | (simp only [List.length_cons, List.length_nil, List.length_append, List.length_drop, List.length_take]; omega))) rfl rfl fun c5_2 hc5_2 hc5_2l hc5_2u => ?_
      refine WL.q (oq_assign rfl) rfl rfl rfl ?_
      refine WL.nil ?_
      refine WE.then_normal ?_
      refine WC.sub (fr' := [(0, _), (4, _), (5, _), (6, _)]) ?_ ⟨rfl, rfl, rfl, rfl, trivial⟩
      refine WC.cut (ι := Unit) (fun _ => [(0, S s), (4, S l), (5, I (i : Int)), (6, .int .u8 c5_2)]) (fun _ => []) (fun _ => okp (byteAt s i) = false) ?_ ?_
      ·
        refine WC.seq ?_
        refine WC.region ?_
        refine WL.q (oq_move rfl) rfl rfl rfl ?_
        refine WL.q (oq_geq rfl rfl) rfl rfl rfl ?_
        refine WL.q (oq_move rfl) rfl rfl rfl ?_
        refine WL.split 18 rfl (fun s6_2 => ?_) (fun s6_2 => ?_)
        ·
          try simp only [Bool.not_eq_eq_eq_not, Bool.not_true, Bool.not_false, decide_eq_true_eq, decide_eq_false_iff_not, Int.not_lt, Int.not_le, ne_eq, Decidable.not_not, ← List.length_eq_zero_iff] at s6_2
          refine WL.q (oq_move rfl) rfl rfl rfl ?_
          refine WL.q (oq_leq rfl rfl) rfl rfl rfl ?_
          refine WL.q (oq_pick_t rfl rfl) rfl rfl rfl ?_
          refine WL.q (oq_move rfl) rfl rfl rfl ?_
          refine WL.split 22 rfl (fun s6_6 => ?_) (fun s6_6 => ?_)
          ·
            try simp only [Bool.not_eq_eq_eq_not, Bool.not_true, Bool.not_false, decide_eq_true_eq, decide_eq_false_iff_not, Int.not_lt, Int.not_le, ne_eq, Decidable.not_not, ← List.length_eq_zero_iff] at s6_6
            refine WL.skip rfl rfl rfl ?_
            refine WL.skip rfl rfl rfl ?_
            refine WL.skip rfl rfl rfl ?_
            refine WL.skip rfl rfl rfl ?_
            refine WL.skip rfl rfl rfl ?_
            refine WL.skip rfl rfl rfl ?_
            refine WL.q (oq_pick_t rfl rfl) rfl rfl rfl ?_
            refine WL.q (oq_move rfl) rfl rfl rfl ?_
            refine WL.skip rfl rfl rfl ?_
            refine WL.skip rfl rfl rfl ?_
            refine WL.skip rfl rfl rfl ?_
            refine WL.skip rfl rfl rfl ?_
            refine WL.skip rfl rfl rfl ?_
            refine WL.skip rfl rfl rfl ?_
            refine WL.q (oq_pick_t rfl rfl) rfl rfl rfl ?_
            refine WL.q (oq_move rfl) rfl rfl rfl ?_
            refine WL.skip rfl rfl rfl ?_
            refine WL.skip rfl rfl rfl ?_
            refine WL.q (oq_pick_t rfl rfl) rfl rfl rfl ?_
            refine WL.q (oq_move rfl) rfl rfl rfl ?_
            refine WL.skip rfl rfl rfl ?_
            refine WL.skip rfl rfl rfl ?_
            refine WL.q (oq_pick_t rfl rfl) rfl rfl rfl ?_
            refine WL.q (oq_move rfl) rfl rfl rfl ?_
            refine WL.skip rfl rfl rfl ?_
            refine WL.skip rfl rfl rfl ?_
            refine WL.q (oq_pick_t rfl rfl) rfl rfl rfl ?_
            refine WL.q (oq_move rfl) rfl rfl rfl ?_
            refine WL.skip rfl rfl rfl ?_
            refine WL.skip rfl rfl rfl ?_
            refine WL.q (oq_pick_t rfl rfl) rfl rfl rfl ?_
            refine WL.nil ?_
            refine WE.then_normal ?_
            refine WC.sub (fr' := [(0, _), (4, _), (5, _), (6, _), (53, _)]) ?_ ⟨rfl, rfl, rfl, rfl, rfl, trivial⟩
            refine WC.cond_t rfl ?_
            refine WC.seq ?_
            have hk : okp (byteAt s i) = true := by unfold okp; rw [← hc5_2]; apply decide_eq_true; omega
            have he : enc1 (byteAt s i) = [UInt8.ofNat (byteAt s i).toNat] := if_pos hk
            have hok : (okp (byteAt s i) || decide (16 ≤ byteAt s i)) = true := by rw [hk]; rfl
            rw [← byte_one s i (by omega)] at he
            refine WC.region ?_
            refine WL.q (oq_move rfl) rfl rfl rfl ?_
            refine WL.q (oq_move rfl) rfl rfl rfl ?_
            refine WL.q (oq_move rfl) rfl rfl rfl ?_
            refine WL.q (oq_move rfl) rfl rfl rfl ?_
            refine WL.q (oq_add rfl rfl (by rw [i64_lo, i64_hi]; (first | omega | (simp only [List.length_cons, List.length_nil, List.length_append, List.length_drop, List.length_take]; omega)))) rfl rfl rfl ?_
            refine WL.q (oq_slice_s2 Try.underlying9 rfl rfl rfl (by (first | omega | (show _ ∧ _ ∧ _ ≤ ((16 : Nat) : Int); omega)))) rfl rfl rfl ?_
            refine WL.q (oq_concat rfl rfl (by ((try simp only [List.length_append, List.length_cons, List.length_nil]); first | omega | (have h1 := cut_len s (i : Int) ((i : Int) + 1) (by omega); omega) | (have h1 := congrArg List.length hx1; have h2 := congrArg List.length hx2; simp only [List.length_cons, List.length_nil] at h1 h2; omega)))) rfl rfl rfl ?_
            refine WL.q (oq_assign rfl) rfl rfl rfl ?_
            refine WL.nil ?_
            refine WE.then_normal ?_
            refine WC.sub (fr' := [(0, _), (4, _), (5, _)]) ?_ ⟨rfl, rfl, rfl, trivial⟩
            refine WC.exit ?_
            refine WE.then_exit ?_
            refine WE.block_same ?_
            refine WE.then_normal ?_
            refine WC.sub (fr' := [(0, _), (4, _), (5, _)]) ?_ ⟨rfl, rfl, rfl, trivial⟩
            refine WC.region ?_
            refine WL.q (oq_move rfl) rfl rfl rfl ?_
            refine WL.q (oq_add rfl rfl (by rw [i64_lo, i64_hi]; (first | omega | (simp only [List.length_cons, List.length_nil, List.length_append, List.length_drop, List.length_take]; omega)))) rfl rfl rfl ?_
            refine WL.q (oq_assign rfl) rfl rfl rfl ?_
            refine WL.nil ?_
            refine WE.again (i + 1, l ++ enc1 (byteAt s i)) ?_ ?_ ⟨rfl, (gtv rfl (by first | (dsimp only; rw [he]; done) | (dsimp only; rw [← hc5_2, he, hx1, hx2]; simp))), rfl, trivial⟩ (List.Perm.refl _)
            · try dsimp only   -- again 0
              exact ⟨by omega, by have := enc1_len (byteAt s i); simp; omega, by rw [← hf, esc_step s i (by omega), List.append_assoc], by rw [ha, said_step s i (by omega), hok, Bool.true_and]⟩
            · (try dsimp only); omega
          ·
            try simp only [Bool.not_eq_eq_eq_not, Bool.not_true, Bool.not_false, decide_eq_true_eq, decide_eq_false_iff_not, Int.not_lt, Int.not_le, ne_eq, Decidable.not_not, ← List.length_eq_zero_iff] at s6_6
            refine WL.q (oq_move rfl) rfl rfl rfl ?_
            refine WL.q (oq_geq rfl rfl) rfl rfl rfl ?_
            refine WL.q (oq_move rfl) rfl rfl rfl ?_
            refine WL.split 25 rfl (fun s6_9 => ?_) (fun s6_9 => ?_)
            ·
              try simp only [Bool.not_eq_eq_eq_not, Bool.not_true, Bool.not_false, decide_eq_true_eq, decide_eq_false_iff_not, Int.not_lt, Int.not_le, ne_eq, Decidable.not_not, ← List.length_eq_zero_iff] at s6_9
              refine WL.q (oq_move rfl) rfl rfl rfl ?_
              refine WL.q (oq_leq rfl rfl) rfl rfl rfl ?_
              refine WL.q (oq_pick_t rfl rfl) rfl rfl rfl ?_
              refine WL.q (oq_pick_f rfl rfl) rfl rfl rfl ?_
              refine WL.q (oq_move rfl) rfl rfl rfl ?_
              refine WL.split 30 rfl (fun s6_14 => ?_) (fun s6_14 => ?_)
              ·
                try simp only [Bool.not_eq_eq_eq_not, Bool.not_true, Bool.not_false, decide_eq_true_eq, decide_eq_false_iff_not, Int.not_lt, Int.not_le, ne_eq, Decidable.not_not, ← List.length_eq_zero_iff] at s6_14
                refine WL.skip rfl rfl rfl ?_
                refine WL.skip rfl rfl rfl ?_
                refine WL.skip rfl rfl rfl ?_
                refine WL.skip rfl rfl rfl ?_
                refine WL.skip rfl rfl rfl ?_
                refine WL.skip rfl rfl rfl ?_
                refine WL.q (oq_pick_t rfl rfl) rfl rfl rfl ?_
                refine WL.q (oq_move rfl) rfl rfl rfl ?_
                refine WL.skip rfl rfl rfl ?_
                refine WL.skip rfl rfl rfl ?_
                refine WL.q (oq_pick_t rfl rfl) rfl rfl rfl ?_
                refine WL.q (oq_move rfl) rfl rfl rfl ?_
                refine WL.skip rfl rfl rfl ?_
                refine WL.skip rfl rfl rfl ?_
                refine WL.q (oq_pick_t rfl rfl) rfl rfl rfl ?_
                refine WL.q (oq_move rfl) rfl rfl rfl ?_
                refine WL.skip rfl rfl rfl ?_
                refine WL.skip rfl rfl rfl ?_
                refine WL.q (oq_pick_t rfl rfl) rfl rfl rfl ?_
                refine WL.q (oq_move rfl) rfl rfl rfl ?_
                refine WL.skip rfl rfl rfl ?_
                refine WL.skip rfl rfl rfl ?_
                refine WL.q (oq_pick_t rfl rfl) rfl rfl rfl ?_
                refine WL.nil ?_
                refine WE.then_normal ?_
                refine WC.sub (fr' := [(0, _), (4, _), (5, _), (6, _), (53, _)]) ?_ ⟨rfl, rfl, rfl, rfl, rfl, trivial⟩
                refine WC.cond_t rfl ?_
                refine WC.seq ?_
                have hk : okp (byteAt s i) = true := by unfold okp; rw [← hc5_2]; apply decide_eq_true; omega
                have he : enc1 (byteAt s i) = [UInt8.ofNat (byteAt s i).toNat] := if_pos hk
                have hok : (okp (byteAt s i) || decide (16 ≤ byteAt s i)) = true := by rw [hk]; rfl
                rw [← byte_one s i (by omega)] at he
                refine WC.region ?_
                refine WL.q (oq_move rfl) rfl rfl rfl ?_
                refine WL.q (oq_move rfl) rfl rfl rfl ?_
                refine WL.q (oq_move rfl) rfl rfl rfl ?_
                refine WL.q (oq_move rfl) rfl rfl rfl ?_
                refine WL.q (oq_add rfl rfl (by rw [i64_lo, i64_hi]; (first | omega | (simp only [List.length_cons, List.length_nil, List.length_append, List.length_drop, List.length_take]; omega)))) rfl rfl rfl ?_
                refine WL.q (oq_slice_s2 Try.underlying9 rfl rfl rfl (by (first | omega | (show _ ∧ _ ∧ _ ≤ ((16 : Nat) : Int); omega)))) rfl rfl rfl ?_
                refine WL.q (oq_concat rfl rfl (by ((try simp only [List.length_append, List.length_cons, List.length_nil]); first | omega | (have h1 := cut_len s (i : Int) ((i : Int) + 1) (by omega); omega) | (have h1 := congrArg List.length hx1; have h2 := congrArg List.length hx2; simp only [List.length_cons, List.length_nil] at h1 h2; omega)))) rfl rfl rfl ?_
                refine WL.q (oq_assign rfl) rfl rfl rfl ?_
                refine WL.nil ?_
                refine WE.then_normal ?_
                refine WC.sub (fr' := [(0, _), (4, _), (5, _)]) ?_ ⟨rfl, rfl, rfl, trivial⟩
                refine WC.exit ?_
                refine WE.then_exit ?_
                refine WE.block_same ?_
                refine WE.then_normal ?_
                refine WC.sub (fr' := [(0, _), (4, _), (5, _)]) ?_ ⟨rfl, rfl, rfl, trivial⟩
                refine WC.region ?_
                refine WL.q (oq_move rfl) rfl rfl rfl ?_
                refine WL.q (oq_add rfl rfl (by rw [i64_lo, i64_hi]; (first | omega | (simp only [List.length_cons, List.length_nil, List.length_append, List.length_drop, List.length_take]; omega)))) rfl rfl rfl ?_
                refine WL.q (oq_assign rfl) rfl rfl rfl ?_
                refine WL.nil ?_
                refine WE.again (i + 1, l ++ enc1 (byteAt s i)) ?_ ?_ ⟨rfl, (gtv rfl (by first | (dsimp only; rw [he]; done) | (dsimp only; rw [← hc5_2, he, hx1, hx2]; simp))), rfl, trivial⟩ (List.Perm.refl _)
                · try dsimp only   -- again 1
                  exact ⟨by omega, by have := enc1_len (byteAt s i); simp; omega, by rw [← hf, esc_step s i (by omega), List.append_assoc], by rw [ha, said_step s i (by omega), hok, Bool.true_and]⟩
                · (try dsimp only); omega
              ·
                try simp only [Bool.not_eq_eq_eq_not, Bool.not_true, Bool.not_false, decide_eq_true_eq, decide_eq_false_iff_not, Int.not_lt, Int.not_le, ne_eq, Decidable.not_not, ← List.length_eq_zero_iff] at s6_14
                refine WL.q (oq_move rfl) rfl rfl rfl ?_
                refine WL.q (oq_geq rfl rfl) rfl rfl rfl ?_
                refine WL.q (oq_move rfl) rfl rfl rfl ?_
                refine WL.split 33 rfl (fun s6_17 => ?_) (fun s6_17 => ?_)
                ·
                  try simp only [Bool.not_eq_eq_eq_not, Bool.not_true, Bool.not_false, decide_eq_true_eq, decide_eq_false_iff_not, Int.not_lt, Int.not_le, ne_eq, Decidable.not_not, ← List.length_eq_zero_iff] at s6_17
                  refine WL.q (oq_move rfl) rfl rfl rfl ?_
                  refine WL.q (oq_leq rfl rfl) rfl rfl rfl ?_
                  refine WL.q (oq_pick_t rfl rfl) rfl rfl rfl ?_
                  refine WL.q (oq_pick_f rfl rfl) rfl rfl rfl ?_
                  refine WL.q (oq_move rfl) rfl rfl rfl ?_
                  refine WL.split 38 rfl (fun s6_22 => ?_) (fun s6_22 => ?_)
                  ·
                    try simp only [Bool.not_eq_eq_eq_not, Bool.not_true, Bool.not_false, decide_eq_true_eq, decide_eq_false_iff_not, Int.not_lt, Int.not_le, ne_eq, Decidable.not_not, ← List.length_eq_zero_iff] at s6_22
                    refine WL.skip rfl rfl rfl ?_
                    refine WL.skip rfl rfl rfl ?_
                    refine WL.q (oq_pick_t rfl rfl) rfl rfl rfl ?_
                    refine WL.q (oq_move rfl) rfl rfl rfl ?_
                    refine WL.skip rfl rfl rfl ?_
                    refine WL.skip rfl rfl rfl ?_
                    refine WL.q (oq_pick_t rfl rfl) rfl rfl rfl ?_
                    refine WL.q (oq_move rfl) rfl rfl rfl ?_
                    refine WL.skip rfl rfl rfl ?_
                    refine WL.skip rfl rfl rfl ?_
                    refine WL.q (oq_pick_t rfl rfl) rfl rfl rfl ?_
                    refine WL.q (oq_move rfl) rfl rfl rfl ?_
                    refine WL.skip rfl rfl rfl ?_
                    refine WL.skip rfl rfl rfl ?_
                    refine WL.q (oq_pick_t rfl rfl) rfl rfl rfl ?_
                    refine WL.nil ?_
                    refine WE.then_normal ?_
                    refine WC.sub (fr' := [(0, _), (4, _), (5, _), (6, _), (53, _)]) ?_ ⟨rfl, rfl, rfl, rfl, rfl, trivial⟩
                    refine WC.cond_t rfl ?_
                    refine WC.seq ?_
                    have hk : okp (byteAt s i) = true := by unfold okp; rw [← hc5_2]; apply decide_eq_true; omega
                    have he : enc1 (byteAt s i) = [UInt8.ofNat (byteAt s i).toNat] := if_pos hk
                    have hok : (okp (byteAt s i) || decide (16 ≤ byteAt s i)) = true := by rw [hk]; rfl
                    rw [← byte_one s i (by omega)] at he
                    refine WC.region ?_
                    refine WL.q (oq_move rfl) rfl rfl rfl ?_
                    refine WL.q (oq_move rfl) rfl rfl rfl ?_
                    refine WL.q (oq_move rfl) rfl rfl rfl ?_
                    refine WL.q (oq_move rfl) rfl rfl rfl ?_
                    refine WL.q (oq_add rfl rfl (by rw [i64_lo, i64_hi]; (first | omega | (simp only [List.length_cons, List.length_nil, List.length_append, List.length_drop, List.length_take]; omega)))) rfl rfl rfl ?_
                    refine WL.q (oq_slice_s2 Try.underlying9 rfl rfl rfl (by (first | omega | (show _ ∧ _ ∧ _ ≤ ((16 : Nat) : Int); omega)))) rfl rfl rfl ?_
                    refine WL.q (oq_concat rfl rfl (by ((try simp only [List.length_append, List.length_cons, List.length_nil]); first | omega | (have h1 := cut_len s (i : Int) ((i : Int) + 1) (by omega); omega) | (have h1 := congrArg List.length hx1; have h2 := congrArg List.length hx2; simp only [List.length_cons, List.length_nil] at h1 h2; omega)))) rfl rfl rfl ?_
                    refine WL.q (oq_assign rfl) rfl rfl rfl ?_
                    refine WL.nil ?_
                    refine WE.then_normal ?_
                    refine WC.sub (fr' := [(0, _), (4, _), (5, _)]) ?_ ⟨rfl, rfl, rfl, trivial⟩
                    refine WC.exit ?_
                    refine WE.then_exit ?_
                    refine WE.block_same ?_
                    refine WE.then_normal ?_
                    refine WC.sub (fr' := [(0, _), (4, _), (5, _)]) ?_ ⟨rfl, rfl, rfl, trivial⟩
                    refine WC.region ?_
                    refine WL.q (oq_move rfl) rfl rfl rfl ?_
                    refine WL.q (oq_add rfl rfl (by rw [i64_lo, i64_hi]; (first | omega | (simp only [List.length_cons, List.length_nil, List.length_append, List.length_drop, List.length_take]; omega)))) rfl rfl rfl ?_
                    refine WL.q (oq_assign rfl) rfl rfl rfl ?_
                    refine WL.nil ?_
                    refine WE.again (i + 1, l ++ enc1 (byteAt s i)) ?_ ?_ ⟨rfl, (gtv rfl (by first | (dsimp only; rw [he]; done) | (dsimp only; rw [← hc5_2, he, hx1, hx2]; simp))), rfl, trivial⟩ (List.Perm.refl _)
                    · try dsimp only   -- again 2
                      exact ⟨by omega, by have := enc1_len (byteAt s i); simp; omega, by rw [← hf, esc_step s i (by omega), List.append_assoc], by rw [ha, said_step s i (by omega), hok, Bool.true_and]⟩
                    · (try dsimp only); omega
                  ·
                    try simp only [Bool.not_eq_eq_eq_not, Bool.not_true, Bool.not_false, decide_eq_true_eq, decide_eq_false_iff_not, Int.not_lt, Int.not_le, ne_eq, Decidable.not_not, ← List.length_eq_zero_iff] at s6_22
                    refine WL.q (oq_move rfl) rfl rfl rfl ?_
                    refine WL.q (oq_eql rfl rfl) rfl rfl rfl ?_
                    refine WL.q (oq_pick_f rfl rfl) rfl rfl rfl ?_
                    refine WL.q (oq_move rfl) rfl rfl rfl ?_
                    refine WL.split 42 rfl (fun s6_26 => ?_) (fun s6_26 => ?_)
                    ·
                      try simp only [Bool.not_eq_eq_eq_not, Bool.not_true, Bool.not_false, decide_eq_true_eq, decide_eq_false_iff_not, Int.not_lt, Int.not_le, ne_eq, Decidable.not_not, ← List.length_eq_zero_iff] at s6_26
                      refine WL.skip rfl rfl rfl ?_
                      refine WL.skip rfl rfl rfl ?_
                      refine WL.q (oq_pick_t rfl rfl) rfl rfl rfl ?_
                      refine WL.q (oq_move rfl) rfl rfl rfl ?_
                      refine WL.skip rfl rfl rfl ?_
                      refine WL.skip rfl rfl rfl ?_
                      refine WL.q (oq_pick_t rfl rfl) rfl rfl rfl ?_
                      refine WL.q (oq_move rfl) rfl rfl rfl ?_
                      refine WL.skip rfl rfl rfl ?_
                      refine WL.skip rfl rfl rfl ?_
                      refine WL.q (oq_pick_t rfl rfl) rfl rfl rfl ?_
                      refine WL.nil ?_
                      refine WE.then_normal ?_
                      refine WC.sub (fr' := [(0, _), (4, _), (5, _), (6, _), (53, _)]) ?_ ⟨rfl, rfl, rfl, rfl, rfl, trivial⟩
                      refine WC.cond_t rfl ?_
                      refine WC.seq ?_
                      have hk : okp (byteAt s i) = true := by unfold okp; rw [← hc5_2]; apply decide_eq_true; omega
                      have he : enc1 (byteAt s i) = [UInt8.ofNat (byteAt s i).toNat] := if_pos hk
                      have hok : (okp (byteAt s i) || decide (16 ≤ byteAt s i)) = true := by rw [hk]; rfl
                      rw [← byte_one s i (by omega)] at he
                      refine WC.region ?_
                      refine WL.q (oq_move rfl) rfl rfl rfl ?_
                      refine WL.q (oq_move rfl) rfl rfl rfl ?_
                      refine WL.q (oq_move rfl) rfl rfl rfl ?_
                      refine WL.q (oq_move rfl) rfl rfl rfl ?_
                      refine WL.q (oq_add rfl rfl (by rw [i64_lo, i64_hi]; (first | omega | (simp only [List.length_cons, List.length_nil, List.length_append, List.length_drop, List.length_take]; omega)))) rfl rfl rfl ?_
                      refine WL.q (oq_slice_s2 Try.underlying9 rfl rfl rfl (by (first | omega | (show _ ∧ _ ∧ _ ≤ ((16 : Nat) : Int); omega)))) rfl rfl rfl ?_
                      refine WL.q (oq_concat rfl rfl (by ((try simp only [List.length_append, List.length_cons, List.length_nil]); first | omega | (have h1 := cut_len s (i : Int) ((i : Int) + 1) (by omega); omega) | (have h1 := congrArg List.length hx1; have h2 := congrArg List.length hx2; simp only [List.length_cons, List.length_nil] at h1 h2; omega)))) rfl rfl rfl ?_
                      refine WL.q (oq_assign rfl) rfl rfl rfl ?_
                      refine WL.nil ?_
                      refine WE.then_normal ?_
                      refine WC.sub (fr' := [(0, _), (4, _), (5, _)]) ?_ ⟨rfl, rfl, rfl, trivial⟩
                      refine WC.exit ?_
                      refine WE.then_exit ?_
                      refine WE.block_same ?_
                      refine WE.then_normal ?_
                      refine WC.sub (fr' := [(0, _), (4, _), (5, _)]) ?_ ⟨rfl, rfl, rfl, trivial⟩
                      refine WC.region ?_
                      refine WL.q (oq_move rfl) rfl rfl rfl ?_
                      refine WL.q (oq_add rfl rfl (by rw [i64_lo, i64_hi]; (first | omega | (simp only [List.length_cons, List.length_nil, List.length_append, List.length_drop, List.length_take]; omega)))) rfl rfl rfl ?_
                      refine WL.q (oq_assign rfl) rfl rfl rfl ?_
                      refine WL.nil ?_
                      refine WE.again (i + 1, l ++ enc1 (byteAt s i)) ?_ ?_ ⟨rfl, (gtv rfl (by first | (dsimp only; rw [he]; done) | (dsimp only; rw [← hc5_2, he, hx1, hx2]; simp))), rfl, trivial⟩ (List.Perm.refl _)
                      · try dsimp only   -- again 3
                        exact ⟨by omega, by have := enc1_len (byteAt s i); simp; omega, by rw [← hf, esc_step s i (by omega), List.append_assoc], by rw [ha, said_step s i (by omega), hok, Bool.true_and]⟩
                      · (try dsimp only); omega
                    ·
                      try simp only [Bool.not_eq_eq_eq_not, Bool.not_true, Bool.not_false, decide_eq_true_eq, decide_eq_false_iff_not, Int.not_lt, Int.not_le, ne_eq, Decidable.not_not, ← List.length_eq_zero_iff] at s6_26
                      refine WL.q (oq_move rfl) rfl rfl rfl ?_
                      refine WL.q (oq_eql rfl rfl) rfl rfl rfl ?_
                      refine WL.q (oq_pick_f rfl rfl) rfl rfl rfl ?_
                      refine WL.q (oq_move rfl) rfl rfl rfl ?_
                      refine WL.split 46 rfl (fun s6_30 => ?_) (fun s6_30 => ?_)
                      ·
                        try simp only [Bool.not_eq_eq_eq_not, Bool.not_true, Bool.not_false, decide_eq_true_eq, decide_eq_false_iff_not, Int.not_lt, Int.not_le, ne_eq, Decidable.not_not, ← List.length_eq_zero_iff] at s6_30
                        refine WL.skip rfl rfl rfl ?_
                        refine WL.skip rfl rfl rfl ?_
                        refine WL.q (oq_pick_t rfl rfl) rfl rfl rfl ?_
                        refine WL.q (oq_move rfl) rfl rfl rfl ?_
                        refine WL.skip rfl rfl rfl ?_
                        refine WL.skip rfl rfl rfl ?_
                        refine WL.q (oq_pick_t rfl rfl) rfl rfl rfl ?_
                        refine WL.nil ?_
                        refine WE.then_normal ?_
                        refine WC.sub (fr' := [(0, _), (4, _), (5, _), (6, _), (53, _)]) ?_ ⟨rfl, rfl, rfl, rfl, rfl, trivial⟩
                        refine WC.cond_t rfl ?_
                        refine WC.seq ?_
                        have hk : okp (byteAt s i) = true := by unfold okp; rw [← hc5_2]; apply decide_eq_true; omega
                        have he : enc1 (byteAt s i) = [UInt8.ofNat (byteAt s i).toNat] := if_pos hk
                        have hok : (okp (byteAt s i) || decide (16 ≤ byteAt s i)) = true := by rw [hk]; rfl
                        rw [← byte_one s i (by omega)] at he
                        refine WC.region ?_
                        refine WL.q (oq_move rfl) rfl rfl rfl ?_
                        refine WL.q (oq_move rfl) rfl rfl rfl ?_
                        refine WL.q (oq_move rfl) rfl rfl rfl ?_
                        refine WL.q (oq_move rfl) rfl rfl rfl ?_
                        refine WL.q (oq_add rfl rfl (by rw [i64_lo, i64_hi]; (first | omega | (simp only [List.length_cons, List.length_nil, List.length_append, List.length_drop, List.length_take]; omega)))) rfl rfl rfl ?_
                        refine WL.q (oq_slice_s2 Try.underlying9 rfl rfl rfl (by (first | omega | (show _ ∧ _ ∧ _ ≤ ((16 : Nat) : Int); omega)))) rfl rfl rfl ?_
                        refine WL.q (oq_concat rfl rfl (by ((try simp only [List.length_append, List.length_cons, List.length_nil]); first | omega | (have h1 := cut_len s (i : Int) ((i : Int) + 1) (by omega); omega) | (have h1 := congrArg List.length hx1; have h2 := congrArg List.length hx2; simp only [List.length_cons, List.length_nil] at h1 h2; omega)))) rfl rfl rfl ?_
                        refine WL.q (oq_assign rfl) rfl rfl rfl ?_
                        refine WL.nil ?_
                        refine WE.then_normal ?_
                        refine WC.sub (fr' := [(0, _), (4, _), (5, _)]) ?_ ⟨rfl, rfl, rfl, trivial⟩
                        refine WC.exit ?_
                        refine WE.then_exit ?_
                        refine WE.block_same ?_
                        refine WE.then_normal ?_
                        refine WC.sub (fr' := [(0, _), (4, _), (5, _)]) ?_ ⟨rfl, rfl, rfl, trivial⟩
                        refine WC.region ?_
                        refine WL.q (oq_move rfl) rfl rfl rfl ?_
                        refine WL.q (oq_add rfl rfl (by rw [i64_lo, i64_hi]; (first | omega | (simp only [List.length_cons, List.length_nil, List.length_append, List.length_drop, List.length_take]; omega)))) rfl rfl rfl ?_
                        refine WL.q (oq_assign rfl) rfl rfl rfl ?_
                        refine WL.nil ?_
                        refine WE.again (i + 1, l ++ enc1 (byteAt s i)) ?_ ?_ ⟨rfl, (gtv rfl (by first | (dsimp only; rw [he]; done) | (dsimp only; rw [← hc5_2, he, hx1, hx2]; simp))), rfl, trivial⟩ (List.Perm.refl _)
                        · try dsimp only   -- again 4
                          exact ⟨by omega, by have := enc1_len (byteAt s i); simp; omega, by rw [← hf, esc_step s i (by omega), List.append_assoc], by rw [ha, said_step s i (by omega), hok, Bool.true_and]⟩
                        · (try dsimp only); omega
                      ·
                        try simp only [Bool.not_eq_eq_eq_not, Bool.not_true, Bool.not_false, decide_eq_true_eq, decide_eq_false_iff_not, Int.not_lt, Int.not_le, ne_eq, Decidable.not_not, ← List.length_eq_zero_iff] at s6_30
                        refine WL.q (oq_move rfl) rfl rfl rfl ?_
                        refine WL.q (oq_eql rfl rfl) rfl rfl rfl ?_
                        refine WL.q (oq_pick_f rfl rfl) rfl rfl rfl ?_
                        refine WL.q (oq_move rfl) rfl rfl rfl ?_
                        refine WL.split 50 rfl (fun s6_34 => ?_) (fun s6_34 => ?_)
                        ·
                          try simp only [Bool.not_eq_eq_eq_not, Bool.not_true, Bool.not_false, decide_eq_true_eq, decide_eq_false_iff_not, Int.not_lt, Int.not_le, ne_eq, Decidable.not_not, ← List.length_eq_zero_iff] at s6_34
                          refine WL.skip rfl rfl rfl ?_
                          refine WL.skip rfl rfl rfl ?_
                          refine WL.q (oq_pick_t rfl rfl) rfl rfl rfl ?_
                          refine WL.nil ?_
                          refine WE.then_normal ?_
                          refine WC.sub (fr' := [(0, _), (4, _), (5, _), (6, _), (53, _)]) ?_ ⟨rfl, rfl, rfl, rfl, rfl, trivial⟩
                          refine WC.cond_t rfl ?_
                          refine WC.seq ?_
                          have hk : okp (byteAt s i) = true := by unfold okp; rw [← hc5_2]; apply decide_eq_true; omega
                          have he : enc1 (byteAt s i) = [UInt8.ofNat (byteAt s i).toNat] := if_pos hk
                          have hok : (okp (byteAt s i) || decide (16 ≤ byteAt s i)) = true := by rw [hk]; rfl
                          rw [← byte_one s i (by omega)] at he
                          refine WC.region ?_
                          refine WL.q (oq_move rfl) rfl rfl rfl ?_
                          refine WL.q (oq_move rfl) rfl rfl rfl ?_
                          refine WL.q (oq_move rfl) rfl rfl rfl ?_
                          refine WL.q (oq_move rfl) rfl rfl rfl ?_
                          refine WL.q (oq_add rfl rfl (by rw [i64_lo, i64_hi]; (first | omega | (simp only [List.length_cons, List.length_nil, List.length_append, List.length_drop, List.length_take]; omega)))) rfl rfl rfl ?_
                          refine WL.q (oq_slice_s2 Try.underlying9 rfl rfl rfl (by (first | omega | (show _ ∧ _ ∧ _ ≤ ((16 : Nat) : Int); omega)))) rfl rfl rfl ?_
                          refine WL.q (oq_concat rfl rfl (by ((try simp only [List.length_append, List.length_cons, List.length_nil]); first | omega | (have h1 := cut_len s (i : Int) ((i : Int) + 1) (by omega); omega) | (have h1 := congrArg List.length hx1; have h2 := congrArg List.length hx2; simp only [List.length_cons, List.length_nil] at h1 h2; omega)))) rfl rfl rfl ?_
                          refine WL.q (oq_assign rfl) rfl rfl rfl ?_
                          refine WL.nil ?_
                          refine WE.then_normal ?_
                          refine WC.sub (fr' := [(0, _), (4, _), (5, _)]) ?_ ⟨rfl, rfl, rfl, trivial⟩
                          refine WC.exit ?_
                          refine WE.then_exit ?_
                          refine WE.block_same ?_
                          refine WE.then_normal ?_
                          refine WC.sub (fr' := [(0, _), (4, _), (5, _)]) ?_ ⟨rfl, rfl, rfl, trivial⟩
                          refine WC.region ?_
                          refine WL.q (oq_move rfl) rfl rfl rfl ?_
                          refine WL.q (oq_add rfl rfl (by rw [i64_lo, i64_hi]; (first | omega | (simp only [List.length_cons, List.length_nil, List.length_append, List.length_drop, List.length_take]; omega)))) rfl rfl rfl ?_
                          refine WL.q (oq_assign rfl) rfl rfl rfl ?_
                          refine WL.nil ?_
                          refine WE.again (i + 1, l ++ enc1 (byteAt s i)) ?_ ?_ ⟨rfl, (gtv rfl (by first | (dsimp only; rw [he]; done) | (dsimp only; rw [← hc5_2, he, hx1, hx2]; simp))), rfl, trivial⟩ (List.Perm.refl _)
                          · try dsimp only   -- again 5
                            exact ⟨by omega, by have := enc1_len (byteAt s i); simp; omega, by rw [← hf, esc_step s i (by omega), List.append_assoc], by rw [ha, said_step s i (by omega), hok, Bool.true_and]⟩
                          · (try dsimp only); omega
                        ·
                          try simp only [Bool.not_eq_eq_eq_not, Bool.not_true, Bool.not_false, decide_eq_true_eq, decide_eq_false_iff_not, Int.not_lt, Int.not_le, ne_eq, Decidable.not_not, ← List.length_eq_zero_iff] at s6_34
                          refine WL.q (oq_move rfl) rfl rfl rfl ?_
                          refine WL.q (oq_eql rfl rfl) rfl rfl rfl ?_
                          refine WL.q (oq_pick_f rfl rfl) rfl rfl rfl ?_
                          refine WL.nil ?_
                          refine WE.then_normal ?_
                          refine WC.sub (fr' := [(0, _), (4, _), (5, _), (6, _), (53, _)]) ?_ ⟨rfl, rfl, rfl, rfl, rfl, trivial⟩
                          refine WC.cond rfl (fun q6 => ?_) (fun q6 => ?_)
                          ·
                            try simp only [Bool.not_eq_eq_eq_not, Bool.not_true, Bool.not_false, decide_eq_true_eq, decide_eq_false_iff_not, Int.not_lt, Int.not_le, ne_eq, Decidable.not_not, ← List.length_eq_zero_iff] at q6
                            refine WC.seq ?_
                            have hk : okp (byteAt s i) = true := by unfold okp; rw [← hc5_2]; apply decide_eq_true; omega
                            have he : enc1 (byteAt s i) = [UInt8.ofNat (byteAt s i).toNat] := if_pos hk
                            have hok : (okp (byteAt s i) || decide (16 ≤ byteAt s i)) = true := by rw [hk]; rfl
                            rw [← byte_one s i (by omega)] at he
                            refine WC.region ?_
                            refine WL.q (oq_move rfl) rfl rfl rfl ?_
                            refine WL.q (oq_move rfl) rfl rfl rfl ?_
                            refine WL.q (oq_move rfl) rfl rfl rfl ?_
                            refine WL.q (oq_move rfl) rfl rfl rfl ?_
                            refine WL.q (oq_add rfl rfl (by rw [i64_lo, i64_hi]; (first | omega | (simp only [List.length_cons, List.length_nil, List.length_append, List.length_drop, List.length_take]; omega)))) rfl rfl rfl ?_
                            refine WL.q (oq_slice_s2 Try.underlying9 rfl rfl rfl (by (first | omega | (show _ ∧ _ ∧ _ ≤ ((16 : Nat) : Int); omega)))) rfl rfl rfl ?_
                            refine WL.q (oq_concat rfl rfl (by ((try simp only [List.length_append, List.length_cons, List.length_nil]); first | omega | (have h1 := cut_len s (i : Int) ((i : Int) + 1) (by omega); omega) | (have h1 := congrArg List.length hx1; have h2 := congrArg List.length hx2; simp only [List.length_cons, List.length_nil] at h1 h2; omega)))) rfl rfl rfl ?_
                            refine WL.q (oq_assign rfl) rfl rfl rfl ?_
                            refine WL.nil ?_
                            refine WE.then_normal ?_
                            refine WC.sub (fr' := [(0, _), (4, _), (5, _)]) ?_ ⟨rfl, rfl, rfl, trivial⟩
                            refine WC.exit ?_
                            refine WE.then_exit ?_
                            refine WE.block_same ?_
                            refine WE.then_normal ?_
                            refine WC.sub (fr' := [(0, _), (4, _), (5, _)]) ?_ ⟨rfl, rfl, rfl, trivial⟩
                            refine WC.region ?_
                            refine WL.q (oq_move rfl) rfl rfl rfl ?_
                            refine WL.q (oq_add rfl rfl (by rw [i64_lo, i64_hi]; (first | omega | (simp only [List.length_cons, List.length_nil, List.length_append, List.length_drop, List.length_take]; omega)))) rfl rfl rfl ?_
                            refine WL.q (oq_assign rfl) rfl rfl rfl ?_
                            refine WL.nil ?_
                            refine WE.again (i + 1, l ++ enc1 (byteAt s i)) ?_ ?_ ⟨rfl, (gtv rfl (by first | (dsimp only; rw [he]; done) | (dsimp only; rw [← hc5_2, he, hx1, hx2]; simp))), rfl, trivial⟩ (List.Perm.refl _)
                            · try dsimp only   -- again 6
                              exact ⟨by omega, by have := enc1_len (byteAt s i); simp; omega, by rw [← hf, esc_step s i (by omega), List.append_assoc], by rw [ha, said_step s i (by omega), hok, Bool.true_and]⟩
                            · (try dsimp only); omega
                          ·
                            try simp only [Bool.not_eq_eq_eq_not, Bool.not_true, Bool.not_false, decide_eq_true_eq, decide_eq_false_iff_not, Int.not_lt, Int.not_le, ne_eq, Decidable.not_not, ← List.length_eq_zero_iff] at q6
                            refine WC.skip ?_
                            refine WE.meet () ?_ ⟨rfl, rfl, rfl, rfl, trivial⟩ (List.Perm.refl _)
                            try dsimp only
                            unfold okp; rw [← hc5_2]; apply decide_eq_false; omega   -- meet 0
                ·
                  try simp only [Bool.not_eq_eq_eq_not, Bool.not_true, Bool.not_false, decide_eq_true_eq, decide_eq_false_iff_not, Int.not_lt, Int.not_le, ne_eq, Decidable.not_not, ← List.length_eq_zero_iff] at s6_17
                  refine WL.skip rfl rfl rfl ?_
                  refine WL.skip rfl rfl rfl ?_
                  refine WL.q (oq_pick_f rfl rfl) rfl rfl rfl ?_
                  refine WL.q (oq_pick_f rfl rfl) rfl rfl rfl ?_
                  refine WL.q (oq_move rfl) rfl rfl rfl ?_
                  refine WL.q (oq_move rfl) rfl rfl rfl ?_
                  refine WL.q (oq_eql rfl rfl) rfl rfl rfl ?_
                  refine WL.q (oq_pick_f rfl rfl) rfl rfl rfl ?_
                  refine WL.q (oq_move rfl) rfl rfl rfl ?_
                  refine WL.split 42 rfl (fun s6_26 => ?_) (fun s6_26 => ?_)
                  ·
                    try simp only [Bool.not_eq_eq_eq_not, Bool.not_true, Bool.not_false, decide_eq_true_eq, decide_eq_false_iff_not, Int.not_lt, Int.not_le, ne_eq, Decidable.not_not, ← List.length_eq_zero_iff] at s6_26
                    refine WL.skip rfl rfl rfl ?_
                    refine WL.skip rfl rfl rfl ?_
                    refine WL.q (oq_pick_t rfl rfl) rfl rfl rfl ?_
                    refine WL.q (oq_move rfl) rfl rfl rfl ?_
                    refine WL.skip rfl rfl rfl ?_
                    refine WL.skip rfl rfl rfl ?_
                    refine WL.q (oq_pick_t rfl rfl) rfl rfl rfl ?_
                    refine WL.q (oq_move rfl) rfl rfl rfl ?_
                    refine WL.skip rfl rfl rfl ?_
                    refine WL.skip rfl rfl rfl ?_
                    refine WL.q (oq_pick_t rfl rfl) rfl rfl rfl ?_
                    refine WL.nil ?_
                    refine WE.then_normal ?_
                    refine WC.sub (fr' := [(0, _), (4, _), (5, _), (6, _), (53, _)]) ?_ ⟨rfl, rfl, rfl, rfl, rfl, trivial⟩
                    refine WC.cond_t rfl ?_
                    refine WC.seq ?_
                    have hk : okp (byteAt s i) = true := by unfold okp; rw [← hc5_2]; apply decide_eq_true; omega
                    have he : enc1 (byteAt s i) = [UInt8.ofNat (byteAt s i).toNat] := if_pos hk
                    have hok : (okp (byteAt s i) || decide (16 ≤ byteAt s i)) = true := by rw [hk]; rfl
                    rw [← byte_one s i (by omega)] at he
                    refine WC.region ?_
                    refine WL.q (oq_move rfl) rfl rfl rfl ?_
                    refine WL.q (oq_move rfl) rfl rfl rfl ?_
                    refine WL.q (oq_move rfl) rfl rfl rfl ?_
                    refine WL.q (oq_move rfl) rfl rfl rfl ?_
                    refine WL.q (oq_add rfl rfl (by rw [i64_lo, i64_hi]; (first | omega | (simp only [List.length_cons, List.length_nil, List.length_append, List.length_drop, List.length_take]; omega)))) rfl rfl rfl ?_
                    refine WL.q (oq_slice_s2 Try.underlying9 rfl rfl rfl (by (first | omega | (show _ ∧ _ ∧ _ ≤ ((16 : Nat) : Int); omega)))) rfl rfl rfl ?_
                    refine WL.q (oq_concat rfl rfl (by ((try simp only [List.length_append, List.length_cons, List.length_nil]); first | omega | (have h1 := cut_len s (i : Int) ((i : Int) + 1) (by omega); omega) | (have h1 := congrArg List.length hx1; have h2 := congrArg List.length hx2; simp only [List.length_cons, List.length_nil] at h1 h2; omega)))) rfl rfl rfl ?_
                    refine WL.q (oq_assign rfl) rfl rfl rfl ?_
                    refine WL.nil ?_
                    refine WE.then_normal ?_
                    refine WC.sub (fr' := [(0, _), (4, _), (5, _)]) ?_ ⟨rfl, rfl, rfl, trivial⟩
                    refine WC.exit ?_
                    refine WE.then_exit ?_
                    refine WE.block_same ?_
                    refine WE.then_normal ?_
                    refine WC.sub (fr' := [(0, _), (4, _), (5, _)]) ?_ ⟨rfl, rfl, rfl, trivial⟩
                    refine WC.region ?_
                    refine WL.q (oq_move rfl) rfl rfl rfl ?_
                    refine WL.q (oq_add rfl rfl (by rw [i64_lo, i64_hi]; (first | omega | (simp only [List.length_cons, List.length_nil, List.length_append, List.length_drop, List.length_take]; omega)))) rfl rfl rfl ?_
                    refine WL.q (oq_assign rfl) rfl rfl rfl ?_
                    refine WL.nil ?_
                    refine WE.again (i + 1, l ++ enc1 (byteAt s i)) ?_ ?_ ⟨rfl, (gtv rfl (by first | (dsimp only; rw [he]; done) | (dsimp only; rw [← hc5_2, he, hx1, hx2]; simp))), rfl, trivial⟩ (List.Perm.refl _)
                    · try dsimp only   -- again 7
                      exact ⟨by omega, by have := enc1_len (byteAt s i); simp; omega, by rw [← hf, esc_step s i (by omega), List.append_assoc], by rw [ha, said_step s i (by omega), hok, Bool.true_and]⟩
                    · (try dsimp only); omega
                  ·
                    try simp only [Bool.not_eq_eq_eq_not, Bool.not_true, Bool.not_false, decide_eq_true_eq, decide_eq_false_iff_not, Int.not_lt, Int.not_le, ne_eq, Decidable.not_not, ← List.length_eq_zero_iff] at s6_26
                    refine WL.q (oq_move rfl) rfl rfl rfl ?_
                    refine WL.q (oq_eql rfl rfl) rfl rfl rfl ?_
                    refine WL.q (oq_pick_f rfl rfl) rfl rfl rfl ?_
                    refine WL.q (oq_move rfl) rfl rfl rfl ?_
                    refine WL.split 46 rfl (fun s6_30 => ?_) (fun s6_30 => ?_)
                    ·
                      try simp only [Bool.not_eq_eq_eq_not, Bool.not_true, Bool.not_false, decide_eq_true_eq, decide_eq_false_iff_not, Int.not_lt, Int.not_le, ne_eq, Decidable.not_not, ← List.length_eq_zero_iff] at s6_30
                      refine WL.skip rfl rfl rfl ?_
                      refine WL.skip rfl rfl rfl ?_
                      refine WL.q (oq_pick_t rfl rfl) rfl rfl rfl ?_
                      refine WL.q (oq_move rfl) rfl rfl rfl ?_
                      refine WL.skip rfl rfl rfl ?_
                      refine WL.skip rfl rfl rfl ?_
                      refine WL.q (oq_pick_t rfl rfl) rfl rfl rfl ?_
                      refine WL.nil ?_
                      refine WE.then_normal ?_
                      refine WC.sub (fr' := [(0, _), (4, _), (5, _), (6, _), (53, _)]) ?_ ⟨rfl, rfl, rfl, rfl, rfl, trivial⟩
                      refine WC.cond_t rfl ?_
                      refine WC.seq ?_
                      have hk : okp (byteAt s i) = true := by unfold okp; rw [← hc5_2]; apply decide_eq_true; omega
                      have he : enc1 (byteAt s i) = [UInt8.ofNat (byteAt s i).toNat] := if_pos hk
                      have hok : (okp (byteAt s i) || decide (16 ≤ byteAt s i)) = true := by rw [hk]; rfl
                      rw [← byte_one s i (by omega)] at he
                      refine WC.region ?_
                      refine WL.q (oq_move rfl) rfl rfl rfl ?_
                      refine WL.q (oq_move rfl) rfl rfl rfl ?_
                      refine WL.q (oq_move rfl) rfl rfl rfl ?_
                      refine WL.q (oq_move rfl) rfl rfl rfl ?_
                      refine WL.q (oq_add rfl rfl (by rw [i64_lo, i64_hi]; (first | omega | (simp only [List.length_cons, List.length_nil, List.length_append, List.length_drop, List.length_take]; omega)))) rfl rfl rfl ?_
                      refine WL.q (oq_slice_s2 Try.underlying9 rfl rfl rfl (by (first | omega | (show _ ∧ _ ∧ _ ≤ ((16 : Nat) : Int); omega)))) rfl rfl rfl ?_
                      refine WL.q (oq_concat rfl rfl (by ((try simp only [List.length_append, List.length_cons, List.length_nil]); first | omega | (have h1 := cut_len s (i : Int) ((i : Int) + 1) (by omega); omega) | (have h1 := congrArg List.length hx1; have h2 := congrArg List.length hx2; simp only [List.length_cons, List.length_nil] at h1 h2; omega)))) rfl rfl rfl ?_
                      refine WL.q (oq_assign rfl) rfl rfl rfl ?_
                      refine WL.nil ?_
                      refine WE.then_normal ?_
                      refine WC.sub (fr' := [(0, _), (4, _), (5, _)]) ?_ ⟨rfl, rfl, rfl, trivial⟩
                      refine WC.exit ?_
                      refine WE.then_exit ?_
                      refine WE.block_same ?_
                      refine WE.then_normal ?_
                      refine WC.sub (fr' := [(0, _), (4, _), (5, _)]) ?_ ⟨rfl, rfl, rfl, trivial⟩
                      refine WC.region ?_
                      refine WL.q (oq_move rfl) rfl rfl rfl ?_
                      refine WL.q (oq_add rfl rfl (by rw [i64_lo, i64_hi]; (first | omega | (simp only [List.length_cons, List.length_nil, List.length_append, List.length_drop, List.length_take]; omega)))) rfl rfl rfl ?_
                      refine WL.q (oq_assign rfl) rfl rfl rfl ?_
                      refine WL.nil ?_
                      refine WE.again (i + 1, l ++ enc1 (byteAt s i)) ?_ ?_ ⟨rfl, (gtv rfl (by first | (dsimp only; rw [he]; done) | (dsimp only; rw [← hc5_2, he, hx1, hx2]; simp))), rfl, trivial⟩ (List.Perm.refl _)
                      · try dsimp only   -- again 8
                        exact ⟨by omega, by have := enc1_len (byteAt s i); simp; omega, by rw [← hf, esc_step s i (by omega), List.append_assoc], by rw [ha, said_step s i (by omega), hok, Bool.true_and]⟩
                      · (try dsimp only); omega
                    ·
                      try simp only [Bool.not_eq_eq_eq_not, Bool.not_true, Bool.not_false, decide_eq_true_eq, decide_eq_false_iff_not, Int.not_lt, Int.not_le, ne_eq, Decidable.not_not, ← List.length_eq_zero_iff] at s6_30
                      refine WL.q (oq_move rfl) rfl rfl rfl ?_
                      refine WL.q (oq_eql rfl rfl) rfl rfl rfl ?_
                      refine WL.q (oq_pick_f rfl rfl) rfl rfl rfl ?_
                      refine WL.q (oq_move rfl) rfl rfl rfl ?_
                      refine WL.split 50 rfl (fun s6_34 => ?_) (fun s6_34 => ?_)
                      ·
                        try simp only [Bool.not_eq_eq_eq_not, Bool.not_true, Bool.not_false, decide_eq_true_eq, decide_eq_false_iff_not, Int.not_lt, Int.not_le, ne_eq, Decidable.not_not, ← List.length_eq_zero_iff] at s6_34
                        refine WL.skip rfl rfl rfl ?_
                        refine WL.skip rfl rfl rfl ?_
                        refine WL.q (oq_pick_t rfl rfl) rfl rfl rfl ?_
                        refine WL.nil ?_
                        refine WE.then_normal ?_
                        refine WC.sub (fr' := [(0, _), (4, _), (5, _), (6, _), (53, _)]) ?_ ⟨rfl, rfl, rfl, rfl, rfl, trivial⟩
                        refine WC.cond_t rfl ?_
                        refine WC.seq ?_
                        have hk : okp (byteAt s i) = true := by unfold okp; rw [← hc5_2]; apply decide_eq_true; omega
                        have he : enc1 (byteAt s i) = [UInt8.ofNat (byteAt s i).toNat] := if_pos hk
                        have hok : (okp (byteAt s i) || decide (16 ≤ byteAt s i)) = true := by rw [hk]; rfl
                        rw [← byte_one s i (by omega)] at he
                        refine WC.region ?_
                        refine WL.q (oq_move rfl) rfl rfl rfl ?_
                        refine WL.q (oq_move rfl) rfl rfl rfl ?_
                        refine WL.q (oq_move rfl) rfl rfl rfl ?_
                        refine WL.q (oq_move rfl) rfl rfl rfl ?_
                        refine WL.q (oq_add rfl rfl (by rw [i64_lo, i64_hi]; (first | omega | (simp only [List.length_cons, List.length_nil, List.length_append, List.length_drop, List.length_take]; omega)))) rfl rfl rfl ?_
                        refine WL.q (oq_slice_s2 Try.underlying9 rfl rfl rfl (by (first | omega | (show _ ∧ _ ∧ _ ≤ ((16 : Nat) : Int); omega)))) rfl rfl rfl ?_
                        refine WL.q (oq_concat rfl rfl (by ((try simp only [List.length_append, List.length_cons, List.length_nil]); first | omega | (have h1 := cut_len s (i : Int) ((i : Int) + 1) (by omega); omega) | (have h1 := congrArg List.length hx1; have h2 := congrArg List.length hx2; simp only [List.length_cons, List.length_nil] at h1 h2; omega)))) rfl rfl rfl ?_
                        refine WL.q (oq_assign rfl) rfl rfl rfl ?_
                        refine WL.nil ?_
                        refine WE.then_normal ?_
                        refine WC.sub (fr' := [(0, _), (4, _), (5, _)]) ?_ ⟨rfl, rfl, rfl, trivial⟩
                        refine WC.exit ?_
                        refine WE.then_exit ?_
                        refine WE.block_same ?_
                        refine WE.then_normal ?_
                        refine WC.sub (fr' := [(0, _), (4, _), (5, _)]) ?_ ⟨rfl, rfl, rfl, trivial⟩
                        refine WC.region ?_
                        refine WL.q (oq_move rfl) rfl rfl rfl ?_
                        refine WL.q (oq_add rfl rfl (by rw [i64_lo, i64_hi]; (first | omega | (simp only [List.length_cons, List.length_nil, List.length_append, List.length_drop, List.length_take]; omega)))) rfl rfl rfl ?_
                        refine WL.q (oq_assign rfl) rfl rfl rfl ?_
                        refine WL.nil ?_
                        refine WE.again (i + 1, l ++ enc1 (byteAt s i)) ?_ ?_ ⟨rfl, (gtv rfl (by first | (dsimp only; rw [he]; done) | (dsimp only; rw [← hc5_2, he, hx1, hx2]; simp))), rfl, trivial⟩ (List.Perm.refl _)
                        · try dsimp only   -- again 9
                          exact ⟨by omega, by have := enc1_len (byteAt s i); simp; omega, by rw [← hf, esc_step s i (by omega), List.append_assoc], by rw [ha, said_step s i (by omega), hok, Bool.true_and]⟩
                        · (try dsimp only); omega
                      ·
                        try simp only [Bool.not_eq_eq_eq_not, Bool.not_true, Bool.not_false, decide_eq_true_eq, decide_eq_false_iff_not, Int.not_lt, Int.not_le, ne_eq, Decidable.not_not, ← List.length_eq_zero_iff] at s6_34
                        refine WL.q (oq_move rfl) rfl rfl rfl ?_
                        refine WL.q (oq_eql rfl rfl) rfl rfl rfl ?_
                        refine WL.q (oq_pick_f rfl rfl) rfl rfl rfl ?_
                        refine WL.nil ?_
                        refine WE.then_normal ?_
                        refine WC.sub (fr' := [(0, _), (4, _), (5, _), (6, _), (53, _)]) ?_ ⟨rfl, rfl, rfl, rfl, rfl, trivial⟩
                        refine WC.cond rfl (fun q6 => ?_) (fun q6 => ?_)
                        ·
                          try simp only [Bool.not_eq_eq_eq_not, Bool.not_true, Bool.not_false, decide_eq_true_eq, decide_eq_false_iff_not, Int.not_lt, Int.not_le, ne_eq, Decidable.not_not, ← List.length_eq_zero_iff] at q6
                          refine WC.seq ?_
                          have hk : okp (byteAt s i) = true := by unfold okp; rw [← hc5_2]; apply decide_eq_true; omega
                          have he : enc1 (byteAt s i) = [UInt8.ofNat (byteAt s i).toNat] := if_pos hk
                          have hok : (okp (byteAt s i) || decide (16 ≤ byteAt s i)) = true := by rw [hk]; rfl
                          rw [← byte_one s i (by omega)] at he
                          refine WC.region ?_
                          refine WL.q (oq_move rfl) rfl rfl rfl ?_
                          refine WL.q (oq_move rfl) rfl rfl rfl ?_
                          refine WL.q (oq_move rfl) rfl rfl rfl ?_
                          refine WL.q (oq_move rfl) rfl rfl rfl ?_
                          refine WL.q (oq_add rfl rfl (by rw [i64_lo, i64_hi]; (first | omega | (simp only [List.length_cons, List.length_nil, List.length_append, List.length_drop, List.length_take]; omega)))) rfl rfl rfl ?_
                          refine WL.q (oq_slice_s2 Try.underlying9 rfl rfl rfl (by (first | omega | (show _ ∧ _ ∧ _ ≤ ((16 : Nat) : Int); omega)))) rfl rfl rfl ?_
                          refine WL.q (oq_concat rfl rfl (by ((try simp only [List.length_append, List.length_cons, List.length_nil]); first | omega | (have h1 := cut_len s (i : Int) ((i : Int) + 1) (by omega); omega) | (have h1 := congrArg List.length hx1; have h2 := congrArg List.length hx2; simp only [List.length_cons, List.length_nil] at h1 h2; omega)))) rfl rfl rfl ?_
                          refine WL.q (oq_assign rfl) rfl rfl rfl ?_
                          refine WL.nil ?_
                          refine WE.then_normal ?_
                          refine WC.sub (fr' := [(0, _), (4, _), (5, _)]) ?_ ⟨rfl, rfl, rfl, trivial⟩
                          refine WC.exit ?_
                          refine WE.then_exit ?_
                          refine WE.block_same ?_
                          refine WE.then_normal ?_
                          refine WC.sub (fr' := [(0, _), (4, _), (5, _)]) ?_ ⟨rfl, rfl, rfl, trivial⟩
                          refine WC.region ?_
                          refine WL.q (oq_move rfl) rfl rfl rfl ?_
                          refine WL.q (oq_add rfl rfl (by rw [i64_lo, i64_hi]; (first | omega | (simp only [List.length_cons, List.length_nil, List.length_append, List.length_drop, List.length_take]; omega)))) rfl rfl rfl ?_
                          refine WL.q (oq_assign rfl) rfl rfl rfl ?_
                          refine WL.nil ?_
                          refine WE.again (i + 1, l ++ enc1 (byteAt s i)) ?_ ?_ ⟨rfl, (gtv rfl (by first | (dsimp only; rw [he]; done) | (dsimp only; rw [← hc5_2, he, hx1, hx2]; simp))), rfl, trivial⟩ (List.Perm.refl _)
                          · try dsimp only   -- again 10
                            exact ⟨by omega, by have := enc1_len (byteAt s i); simp; omega, by rw [← hf, esc_step s i (by omega), List.append_assoc], by rw [ha, said_step s i (by omega), hok, Bool.true_and]⟩
                          · (try dsimp only); omega
                        ·
                          try simp only [Bool.not_eq_eq_eq_not, Bool.not_true, Bool.not_false, decide_eq_true_eq, decide_eq_false_iff_not, Int.not_lt, Int.not_le, ne_eq, Decidable.not_not, ← List.length_eq_zero_iff] at q6
                          refine WC.skip ?_
                          refine WE.meet () ?_ ⟨rfl, rfl, rfl, rfl, trivial⟩ (List.Perm.refl _)
                          try dsimp only
                          unfold okp; rw [← hc5_2]; apply decide_eq_false; omega   -- meet 1
            ·
              try simp only [Bool.not_eq_eq_eq_not, Bool.not_true, Bool.not_false, decide_eq_true_eq, decide_eq_false_iff_not, Int.not_lt, Int.not_le, ne_eq, Decidable.not_not, ← List.length_eq_zero_iff] at s6_9
              refine WL.skip rfl rfl rfl ?_
              refine WL.skip rfl rfl rfl ?_
              refine WL.q (oq_pick_f rfl rfl) rfl rfl rfl ?_
              refine WL.q (oq_pick_f rfl rfl) rfl rfl rfl ?_
              refine WL.q (oq_move rfl) rfl rfl rfl ?_
              refine WL.q (oq_move rfl) rfl rfl rfl ?_
              refine WL.q (oq_geq rfl rfl) rfl rfl rfl ?_
              refine WL.q (oq_move rfl) rfl rfl rfl ?_
              refine WL.split 33 rfl (fun s6_17 => ?_) (fun s6_17 => ?_)
              ·
                try simp only [Bool.not_eq_eq_eq_not, Bool.not_true, Bool.not_false, decide_eq_true_eq, decide_eq_false_iff_not, Int.not_lt, Int.not_le, ne_eq, Decidable.not_not, ← List.length_eq_zero_iff] at s6_17
                refine WL.q (oq_move rfl) rfl rfl rfl ?_
                refine WL.q (oq_leq rfl rfl) rfl rfl rfl ?_
                refine WL.q (oq_pick_t rfl rfl) rfl rfl rfl ?_
                refine WL.q (oq_pick_f rfl rfl) rfl rfl rfl ?_
                refine WL.q (oq_move rfl) rfl rfl rfl ?_
                refine WL.split 38 rfl (fun s6_22 => ?_) (fun s6_22 => ?_)
                ·
                  try simp only [Bool.not_eq_eq_eq_not, Bool.not_true, Bool.not_false, decide_eq_true_eq, decide_eq_false_iff_not, Int.not_lt, Int.not_le, ne_eq, Decidable.not_not, ← List.length_eq_zero_iff] at s6_22
                  refine WL.skip rfl rfl rfl ?_
                  refine WL.skip rfl rfl rfl ?_
                  refine WL.q (oq_pick_t rfl rfl) rfl rfl rfl ?_
                  refine WL.q (oq_move rfl) rfl rfl rfl ?_
                  refine WL.skip rfl rfl rfl ?_
                  refine WL.skip rfl rfl rfl ?_
                  refine WL.q (oq_pick_t rfl rfl) rfl rfl rfl ?_
                  refine WL.q (oq_move rfl) rfl rfl rfl ?_
                  refine WL.skip rfl rfl rfl ?_
                  refine WL.skip rfl rfl rfl ?_
                  refine WL.q (oq_pick_t rfl rfl) rfl rfl rfl ?_
                  refine WL.q (oq_move rfl) rfl rfl rfl ?_
                  refine WL.skip rfl rfl rfl ?_
                  refine WL.skip rfl rfl rfl ?_
                  refine WL.q (oq_pick_t rfl rfl) rfl rfl rfl ?_
                  refine WL.nil ?_
                  refine WE.then_normal ?_
                  refine WC.sub (fr' := [(0, _), (4, _), (5, _), (6, _), (53, _)]) ?_ ⟨rfl, rfl, rfl, rfl, rfl, trivial⟩
                  refine WC.cond_t rfl ?_
                  refine WC.seq ?_
                  have hk : okp (byteAt s i) = true := by unfold okp; rw [← hc5_2]; apply decide_eq_true; omega
                  have he : enc1 (byteAt s i) = [UInt8.ofNat (byteAt s i).toNat] := if_pos hk
                  have hok : (okp (byteAt s i) || decide (16 ≤ byteAt s i)) = true := by rw [hk]; rfl
                  rw [← byte_one s i (by omega)] at he
                  refine WC.region ?_
                  refine WL.q (oq_move rfl) rfl rfl rfl ?_
                  refine WL.q (oq_move rfl) rfl rfl rfl ?_
                  refine WL.q (oq_move rfl) rfl rfl rfl ?_
                  refine WL.q (oq_move rfl) rfl rfl rfl ?_
                  refine WL.q (oq_add rfl rfl (by rw [i64_lo, i64_hi]; (first | omega | (simp only [List.length_cons, List.length_nil, List.length_append, List.length_drop, List.length_take]; omega)))) rfl rfl rfl ?_
                  refine WL.q (oq_slice_s2 Try.underlying9 rfl rfl rfl (by (first | omega | (show _ ∧ _ ∧ _ ≤ ((16 : Nat) : Int); omega)))) rfl rfl rfl ?_
                  refine WL.q (oq_concat rfl rfl (by ((try simp only [List.length_append, List.length_cons, List.length_nil]); first | omega | (have h1 := cut_len s (i : Int) ((i : Int) + 1) (by omega); omega) | (have h1 := congrArg List.length hx1; have h2 := congrArg List.length hx2; simp only [List.length_cons, List.length_nil] at h1 h2; omega)))) rfl rfl rfl ?_
                  refine WL.q (oq_assign rfl) rfl rfl rfl ?_
                  refine WL.nil ?_
                  refine WE.then_normal ?_
                  refine WC.sub (fr' := [(0, _), (4, _), (5, _)]) ?_ ⟨rfl, rfl, rfl, trivial⟩
                  refine WC.exit ?_
                  refine WE.then_exit ?_
                  refine WE.block_same ?_
                  refine WE.then_normal ?_
                  refine WC.sub (fr' := [(0, _), (4, _), (5, _)]) ?_ ⟨rfl, rfl, rfl, trivial⟩
                  refine WC.region ?_
                  refine WL.q (oq_move rfl) rfl rfl rfl ?_
                  refine WL.q (oq_add rfl rfl (by rw [i64_lo, i64_hi]; (first | omega | (simp only [List.length_cons, List.length_nil, List.length_append, List.length_drop, List.length_take]; omega)))) rfl rfl rfl ?_
                  refine WL.q (oq_assign rfl) rfl rfl rfl ?_
                  refine WL.nil ?_
                  refine WE.again (i + 1, l ++ enc1 (byteAt s i)) ?_ ?_ ⟨rfl, (gtv rfl (by first | (dsimp only; rw [he]; done) | (dsimp only; rw [← hc5_2, he, hx1, hx2]; simp))), rfl, trivial⟩ (List.Perm.refl _)
                  · try dsimp only   -- again 11
                    exact ⟨by omega, by have := enc1_len (byteAt s i); simp; omega, by rw [← hf, esc_step s i (by omega), List.append_assoc], by rw [ha, said_step s i (by omega), hok, Bool.true_and]⟩
                  · (try dsimp only); omega
                ·
                  try simp only [Bool.not_eq_eq_eq_not, Bool.not_true, Bool.not_false, decide_eq_true_eq, decide_eq_false_iff_not, Int.not_lt, Int.not_le, ne_eq, Decidable.not_not, ← List.length_eq_zero_iff] at s6_22
                  refine WL.q (oq_move rfl) rfl rfl rfl ?_
                  refine WL.q (oq_eql rfl rfl) rfl rfl rfl ?_
                  refine WL.q (oq_pick_f rfl rfl) rfl rfl rfl ?_
                  refine WL.q (oq_move rfl) rfl rfl rfl ?_
                  refine WL.split 42 rfl (fun s6_26 => ?_) (fun s6_26 => ?_)
                  ·
                    try simp only [Bool.not_eq_eq_eq_not, Bool.not_true, Bool.not_false, decide_eq_true_eq, decide_eq_false_iff_not, Int.not_lt, Int.not_le, ne_eq, Decidable.not_not, ← List.length_eq_zero_iff] at s6_26
                    refine WL.skip rfl rfl rfl ?_
                    refine WL.skip rfl rfl rfl ?_
                    refine WL.q (oq_pick_t rfl rfl) rfl rfl rfl ?_
                    refine WL.q (oq_move rfl) rfl rfl rfl ?_
                    refine WL.skip rfl rfl rfl ?_
                    refine WL.skip rfl rfl rfl ?_
                    refine WL.q (oq_pick_t rfl rfl) rfl rfl rfl ?_
                    refine WL.q (oq_move rfl) rfl rfl rfl ?_
                    refine WL.skip rfl rfl rfl ?_
                    refine WL.skip rfl rfl rfl ?_
                    refine WL.q (oq_pick_t rfl rfl) rfl rfl rfl ?_
                    refine WL.nil ?_
                    refine WE.then_normal ?_
                    refine WC.sub (fr' := [(0, _), (4, _), (5, _), (6, _), (53, _)]) ?_ ⟨rfl, rfl, rfl, rfl, rfl, trivial⟩
                    refine WC.cond_t rfl ?_
                    refine WC.seq ?_
                    have hk : okp (byteAt s i) = true := by unfold okp; rw [← hc5_2]; apply decide_eq_true; omega
                    have he : enc1 (byteAt s i) = [UInt8.ofNat (byteAt s i).toNat] := if_pos hk
                    have hok : (okp (byteAt s i) || decide (16 ≤ byteAt s i)) = true := by rw [hk]; rfl
                    rw [← byte_one s i (by omega)] at he
                    refine WC.region ?_
                    refine WL.q (oq_move rfl) rfl rfl rfl ?_
                    refine WL.q (oq_move rfl) rfl rfl rfl ?_
                    refine WL.q (oq_move rfl) rfl rfl rfl ?_
                    refine WL.q (oq_move rfl) rfl rfl rfl ?_
                    refine WL.q (oq_add rfl rfl (by rw [i64_lo, i64_hi]; (first | omega | (simp only [List.length_cons, List.length_nil, List.length_append, List.length_drop, List.length_take]; omega)))) rfl rfl rfl ?_
                    refine WL.q (oq_slice_s2 Try.underlying9 rfl rfl rfl (by (first | omega | (show _ ∧ _ ∧ _ ≤ ((16 : Nat) : Int); omega)))) rfl rfl rfl ?_
                    refine WL.q (oq_concat rfl rfl (by ((try simp only [List.length_append, List.length_cons, List.length_nil]); first | omega | (have h1 := cut_len s (i : Int) ((i : Int) + 1) (by omega); omega) | (have h1 := congrArg List.length hx1; have h2 := congrArg List.length hx2; simp only [List.length_cons, List.length_nil] at h1 h2; omega)))) rfl rfl rfl ?_
                    refine WL.q (oq_assign rfl) rfl rfl rfl ?_
                    refine WL.nil ?_
                    refine WE.then_normal ?_
                    refine WC.sub (fr' := [(0, _), (4, _), (5, _)]) ?_ ⟨rfl, rfl, rfl, trivial⟩
                    refine WC.exit ?_
                    refine WE.then_exit ?_
                    refine WE.block_same ?_
                    refine WE.then_normal ?_
                    refine WC.sub (fr' := [(0, _), (4, _), (5, _)]) ?_ ⟨rfl, rfl, rfl, trivial⟩
                    refine WC.region ?_
                    refine WL.q (oq_move rfl) rfl rfl rfl ?_
                    refine WL.q (oq_add rfl rfl (by rw [i64_lo, i64_hi]; (first | omega | (simp only [List.length_cons, List.length_nil, List.length_append, List.length_drop, List.length_take]; omega)))) rfl rfl rfl ?_
                    refine WL.q (oq_assign rfl) rfl rfl rfl ?_
                    refine WL.nil ?_
                    refine WE.again (i + 1, l ++ enc1 (byteAt s i)) ?_ ?_ ⟨rfl, (gtv rfl (by first | (dsimp only; rw [he]; done) | (dsimp only; rw [← hc5_2, he, hx1, hx2]; simp))), rfl, trivial⟩ (List.Perm.refl _)
                    · try dsimp only   -- again 12
                      exact ⟨by omega, by have := enc1_len (byteAt s i); simp; omega, by rw [← hf, esc_step s i (by omega), List.append_assoc], by rw [ha, said_step s i (by omega), hok, Bool.true_and]⟩
                    · (try dsimp only); omega
                  ·
                    try simp only [Bool.not_eq_eq_eq_not, Bool.not_true, Bool.not_false, decide_eq_true_eq, decide_eq_false_iff_not, Int.not_lt, Int.not_le, ne_eq, Decidable.not_not, ← List.length_eq_zero_iff] at s6_26
                    refine WL.q (oq_move rfl) rfl rfl rfl ?_
                    refine WL.q (oq_eql rfl rfl) rfl rfl rfl ?_
                    refine WL.q (oq_pick_f rfl rfl) rfl rfl rfl ?_
                    refine WL.q (oq_move rfl) rfl rfl rfl ?_
                    refine WL.split 46 rfl (fun s6_30 => ?_) (fun s6_30 => ?_)
                    ·
                      try simp only [Bool.not_eq_eq_eq_not, Bool.not_true, Bool.not_false, decide_eq_true_eq, decide_eq_false_iff_not, Int.not_lt, Int.not_le, ne_eq, Decidable.not_not, ← List.length_eq_zero_iff] at s6_30
                      refine WL.skip rfl rfl rfl ?_
                      refine WL.skip rfl rfl rfl ?_
                      refine WL.q (oq_pick_t rfl rfl) rfl rfl rfl ?_
                      refine WL.q (oq_move rfl) rfl rfl rfl ?_
                      refine WL.skip rfl rfl rfl ?_
                      refine WL.skip rfl rfl rfl ?_
                      refine WL.q (oq_pick_t rfl rfl) rfl rfl rfl ?_
                      refine WL.nil ?_
                      refine WE.then_normal ?_
                      refine WC.sub (fr' := [(0, _), (4, _), (5, _), (6, _), (53, _)]) ?_ ⟨rfl, rfl, rfl, rfl, rfl, trivial⟩
                      refine WC.cond_t rfl ?_
                      refine WC.seq ?_
                      have hk : okp (byteAt s i) = true := by unfold okp; rw [← hc5_2]; apply decide_eq_true; omega
                      have he : enc1 (byteAt s i) = [UInt8.ofNat (byteAt s i).toNat] := if_pos hk
                      have hok : (okp (byteAt s i) || decide (16 ≤ byteAt s i)) = true := by rw [hk]; rfl
                      rw [← byte_one s i (by omega)] at he
                      refine WC.region ?_
                      refine WL.q (oq_move rfl) rfl rfl rfl ?_
                      refine WL.q (oq_move rfl) rfl rfl rfl ?_
                      refine WL.q (oq_move rfl) rfl rfl rfl ?_
                      refine WL.q (oq_move rfl) rfl rfl rfl ?_
                      refine WL.q (oq_add rfl rfl (by rw [i64_lo, i64_hi]; (first | omega | (simp only [List.length_cons, List.length_nil, List.length_append, List.length_drop, List.length_take]; omega)))) rfl rfl rfl ?_
                      refine WL.q (oq_slice_s2 Try.underlying9 rfl rfl rfl (by (first | omega | (show _ ∧ _ ∧ _ ≤ ((16 : Nat) : Int); omega)))) rfl rfl rfl ?_
                      refine WL.q (oq_concat rfl rfl (by ((try simp only [List.length_append, List.length_cons, List.length_nil]); first | omega | (have h1 := cut_len s (i : Int) ((i : Int) + 1) (by omega); omega) | (have h1 := congrArg List.length hx1; have h2 := congrArg List.length hx2; simp only [List.length_cons, List.length_nil] at h1 h2; omega)))) rfl rfl rfl ?_
                      refine WL.q (oq_assign rfl) rfl rfl rfl ?_
                      refine WL.nil ?_
                      refine WE.then_normal ?_
                      refine WC.sub (fr' := [(0, _), (4, _), (5, _)]) ?_ ⟨rfl, rfl, rfl, trivial⟩
                      refine WC.exit ?_
                      refine WE.then_exit ?_
                      refine WE.block_same ?_
                      refine WE.then_normal ?_
                      refine WC.sub (fr' := [(0, _), (4, _), (5, _)]) ?_ ⟨rfl, rfl, rfl, trivial⟩
                      refine WC.region ?_
                      refine WL.q (oq_move rfl) rfl rfl rfl ?_
                      refine WL.q (oq_add rfl rfl (by rw [i64_lo, i64_hi]; (first | omega | (simp only [List.length_cons, List.length_nil, List.length_append, List.length_drop, List.length_take]; omega)))) rfl rfl rfl ?_
                      refine WL.q (oq_assign rfl) rfl rfl rfl ?_
                      refine WL.nil ?_
                      refine WE.again (i + 1, l ++ enc1 (byteAt s i)) ?_ ?_ ⟨rfl, (gtv rfl (by first | (dsimp only; rw [he]; done) | (dsimp only; rw [← hc5_2, he, hx1, hx2]; simp))), rfl, trivial⟩ (List.Perm.refl _)
                      · try dsimp only   -- again 13
                        exact ⟨by omega, by have := enc1_len (byteAt s i); simp; omega, by rw [← hf, esc_step s i (by omega), List.append_assoc], by rw [ha, said_step s i (by omega), hok, Bool.true_and]⟩
                      · (try dsimp only); omega
                    ·
                      try simp only [Bool.not_eq_eq_eq_not, Bool.not_true, Bool.not_false, decide_eq_true_eq, decide_eq_false_iff_not, Int.not_lt, Int.not_le, ne_eq, Decidable.not_not, ← List.length_eq_zero_iff] at s6_30
                      refine WL.q (oq_move rfl) rfl rfl rfl ?_
                      refine WL.q (oq_eql rfl rfl) rfl rfl rfl ?_
                      refine WL.q (oq_pick_f rfl rfl) rfl rfl rfl ?_
                      refine WL.q (oq_move rfl) rfl rfl rfl ?_
                      refine WL.split 50 rfl (fun s6_34 => ?_) (fun s6_34 => ?_)
                      ·
                        try simp only [Bool.not_eq_eq_eq_not, Bool.not_true, Bool.not_false, decide_eq_true_eq, decide_eq_false_iff_not, Int.not_lt, Int.not_le, ne_eq, Decidable.not_not, ← List.length_eq_zero_iff] at s6_34
                        refine WL.skip rfl rfl rfl ?_
                        refine WL.skip rfl rfl rfl ?_
                        refine WL.q (oq_pick_t rfl rfl) rfl rfl rfl ?_
                        refine WL.nil ?_
                        refine WE.then_normal ?_
                        refine WC.sub (fr' := [(0, _), (4, _), (5, _), (6, _), (53, _)]) ?_ ⟨rfl, rfl, rfl, rfl, rfl, trivial⟩
                        refine WC.cond_t rfl ?_
                        refine WC.seq ?_
                        have hk : okp (byteAt s i) = true := by unfold okp; rw [← hc5_2]; apply decide_eq_true; omega
                        have he : enc1 (byteAt s i) = [UInt8.ofNat (byteAt s i).toNat] := if_pos hk
                        have hok : (okp (byteAt s i) || decide (16 ≤ byteAt s i)) = true := by rw [hk]; rfl
                        rw [← byte_one s i (by omega)] at he
                        refine WC.region ?_
                        refine WL.q (oq_move rfl) rfl rfl rfl ?_
                        refine WL.q (oq_move rfl) rfl rfl rfl ?_
                        refine WL.q (oq_move rfl) rfl rfl rfl ?_
                        refine WL.q (oq_move rfl) rfl rfl rfl ?_
                        refine WL.q (oq_add rfl rfl (by rw [i64_lo, i64_hi]; (first | omega | (simp only [List.length_cons, List.length_nil, List.length_append, List.length_drop, List.length_take]; omega)))) rfl rfl rfl ?_
                        refine WL.q (oq_slice_s2 Try.underlying9 rfl rfl rfl (by (first | omega | (show _ ∧ _ ∧ _ ≤ ((16 : Nat) : Int); omega)))) rfl rfl rfl ?_
                        refine WL.q (oq_concat rfl rfl (by ((try simp only [List.length_append, List.length_cons, List.length_nil]); first | omega | (have h1 := cut_len s (i : Int) ((i : Int) + 1) (by omega); omega) | (have h1 := congrArg List.length hx1; have h2 := congrArg List.length hx2; simp only [List.length_cons, List.length_nil] at h1 h2; omega)))) rfl rfl rfl ?_
                        refine WL.q (oq_assign rfl) rfl rfl rfl ?_
                        refine WL.nil ?_
                        refine WE.then_normal ?_
                        refine WC.sub (fr' := [(0, _), (4, _), (5, _)]) ?_ ⟨rfl, rfl, rfl, trivial⟩
                        refine WC.exit ?_
                        refine WE.then_exit ?_
                        refine WE.block_same ?_
                        refine WE.then_normal ?_
                        refine WC.sub (fr' := [(0, _), (4, _), (5, _)]) ?_ ⟨rfl, rfl, rfl, trivial⟩
                        refine WC.region ?_
                        refine WL.q (oq_move rfl) rfl rfl rfl ?_
                        refine WL.q (oq_add rfl rfl (by rw [i64_lo, i64_hi]; (first | omega | (simp only [List.length_cons, List.length_nil, List.length_append, List.length_drop, List.length_take]; omega)))) rfl rfl rfl ?_
                        refine WL.q (oq_assign rfl) rfl rfl rfl ?_
                        refine WL.nil ?_
                        refine WE.again (i + 1, l ++ enc1 (byteAt s i)) ?_ ?_ ⟨rfl, (gtv rfl (by first | (dsimp only; rw [he]; done) | (dsimp only; rw [← hc5_2, he, hx1, hx2]; simp))), rfl, trivial⟩ (List.Perm.refl _)
                        · try dsimp only   -- again 14
                          exact ⟨by omega, by have := enc1_len (byteAt s i); simp; omega, by rw [← hf, esc_step s i (by omega), List.append_assoc], by rw [ha, said_step s i (by omega), hok, Bool.true_and]⟩
                        · (try dsimp only); omega
                      ·
                        try simp only [Bool.not_eq_eq_eq_not, Bool.not_true, Bool.not_false, decide_eq_true_eq, decide_eq_false_iff_not, Int.not_lt, Int.not_le, ne_eq, Decidable.not_not, ← List.length_eq_zero_iff] at s6_34
                        refine WL.q (oq_move rfl) rfl rfl rfl ?_
                        refine WL.q (oq_eql rfl rfl) rfl rfl rfl ?_
                        refine WL.q (oq_pick_f rfl rfl) rfl rfl rfl ?_
                        refine WL.nil ?_
                        refine WE.then_normal ?_
                        refine WC.sub (fr' := [(0, _), (4, _), (5, _), (6, _), (53, _)]) ?_ ⟨rfl, rfl, rfl, rfl, rfl, trivial⟩
                        refine WC.cond rfl (fun q6 => ?_) (fun q6 => ?_)
                        ·
                          try simp only [Bool.not_eq_eq_eq_not, Bool.not_true, Bool.not_false, decide_eq_true_eq, decide_eq_false_iff_not, Int.not_lt, Int.not_le, ne_eq, Decidable.not_not, ← List.length_eq_zero_iff] at q6
                          refine WC.seq ?_
                          have hk : okp (byteAt s i) = true := by unfold okp; rw [← hc5_2]; apply decide_eq_true; omega
                          have he : enc1 (byteAt s i) = [UInt8.ofNat (byteAt s i).toNat] := if_pos hk
                          have hok : (okp (byteAt s i) || decide (16 ≤ byteAt s i)) = true := by rw [hk]; rfl
                          rw [← byte_one s i (by omega)] at he
                          refine WC.region ?_
                          refine WL.q (oq_move rfl) rfl rfl rfl ?_
                          refine WL.q (oq_move rfl) rfl rfl rfl ?_
                          refine WL.q (oq_move rfl) rfl rfl rfl ?_
                          refine WL.q (oq_move rfl) rfl rfl rfl ?_
                          refine WL.q (oq_add rfl rfl (by rw [i64_lo, i64_hi]; (first | omega | (simp only [List.length_cons, List.length_nil, List.length_append, List.length_drop, List.length_take]; omega)))) rfl rfl rfl ?_
                          refine WL.q (oq_slice_s2 Try.underlying9 rfl rfl rfl (by (first | omega | (show _ ∧ _ ∧ _ ≤ ((16 : Nat) : Int); omega)))) rfl rfl rfl ?_
                          refine WL.q (oq_concat rfl rfl (by ((try simp only [List.length_append, List.length_cons, List.length_nil]); first | omega | (have h1 := cut_len s (i : Int) ((i : Int) + 1) (by omega); omega) | (have h1 := congrArg List.length hx1; have h2 := congrArg List.length hx2; simp only [List.length_cons, List.length_nil] at h1 h2; omega)))) rfl rfl rfl ?_
                          refine WL.q (oq_assign rfl) rfl rfl rfl ?_
                          refine WL.nil ?_
                          refine WE.then_normal ?_
                          refine WC.sub (fr' := [(0, _), (4, _), (5, _)]) ?_ ⟨rfl, rfl, rfl, trivial⟩
                          refine WC.exit ?_
                          refine WE.then_exit ?_
                          refine WE.block_same ?_
                          refine WE.then_normal ?_
                          refine WC.sub (fr' := [(0, _), (4, _), (5, _)]) ?_ ⟨rfl, rfl, rfl, trivial⟩
                          refine WC.region ?_
                          refine WL.q (oq_move rfl) rfl rfl rfl ?_
                          refine WL.q (oq_add rfl rfl (by rw [i64_lo, i64_hi]; (first | omega | (simp only [List.length_cons, List.length_nil, List.length_append, List.length_drop, List.length_take]; omega)))) rfl rfl rfl ?_
                          refine WL.q (oq_assign rfl) rfl rfl rfl ?_
                          refine WL.nil ?_
                          refine WE.again (i + 1, l ++ enc1 (byteAt s i)) ?_ ?_ ⟨rfl, (gtv rfl (by first | (dsimp only; rw [he]; done) | (dsimp only; rw [← hc5_2, he, hx1, hx2]; simp))), rfl, trivial⟩ (List.Perm.refl _)
                          · try dsimp only   -- again 15
                            exact ⟨by omega, by have := enc1_len (byteAt s i); simp; omega, by rw [← hf, esc_step s i (by omega), List.append_assoc], by rw [ha, said_step s i (by omega), hok, Bool.true_and]⟩
                          · (try dsimp only); omega
                        ·
                          try simp only [Bool.not_eq_eq_eq_not, Bool.not_true, Bool.not_false, decide_eq_true_eq, decide_eq_false_iff_not, Int.not_lt, Int.not_le, ne_eq, Decidable.not_not, ← List.length_eq_zero_iff] at q6
                          refine WC.skip ?_
                          refine WE.meet () ?_ ⟨rfl, rfl, rfl, rfl, trivial⟩ (List.Perm.refl _)
                          try dsimp only
                          unfold okp; rw [← hc5_2]; apply decide_eq_false; omega   -- meet 2
              ·
                try simp only [Bool.not_eq_eq_eq_not, Bool.not_true, Bool.not_false, decide_eq_true_eq, decide_eq_false_iff_not, Int.not_lt, Int.not_le, ne_eq, Decidable.not_not, ← List.length_eq_zero_iff] at s6_17
                refine WL.skip rfl rfl rfl ?_
                refine WL.skip rfl rfl rfl ?_
                refine WL.q (oq_pick_f rfl rfl) rfl rfl rfl ?_
                refine WL.q (oq_pick_f rfl rfl) rfl rfl rfl ?_
                refine WL.q (oq_move rfl) rfl rfl rfl ?_
                refine WL.q (oq_move rfl) rfl rfl rfl ?_
                refine WL.q (oq_eql rfl rfl) rfl rfl rfl ?_
                refine WL.q (oq_pick_f rfl rfl) rfl rfl rfl ?_
                refine WL.q (oq_move rfl) rfl rfl rfl ?_
                refine WL.split 42 rfl (fun s6_26 => ?_) (fun s6_26 => ?_)
                ·
                  try simp only [Bool.not_eq_eq_eq_not, Bool.not_true, Bool.not_false, decide_eq_true_eq, decide_eq_false_iff_not, Int.not_lt, Int.not_le, ne_eq, Decidable.not_not, ← List.length_eq_zero_iff] at s6_26
                  refine WL.skip rfl rfl rfl ?_
                  refine WL.skip rfl rfl rfl ?_
                  refine WL.q (oq_pick_t rfl rfl) rfl rfl rfl ?_
                  refine WL.q (oq_move rfl) rfl rfl rfl ?_
                  refine WL.skip rfl rfl rfl ?_
                  refine WL.skip rfl rfl rfl ?_
                  refine WL.q (oq_pick_t rfl rfl) rfl rfl rfl ?_
                  refine WL.q (oq_move rfl) rfl rfl rfl ?_
                  refine WL.skip rfl rfl rfl ?_
                  refine WL.skip rfl rfl rfl ?_
                  refine WL.q (oq_pick_t rfl rfl) rfl rfl rfl ?_
                  refine WL.nil ?_
                  refine WE.then_normal ?_
                  refine WC.sub (fr' := [(0, _), (4, _), (5, _), (6, _), (53, _)]) ?_ ⟨rfl, rfl, rfl, rfl, rfl, trivial⟩
                  refine WC.cond_t rfl ?_
                  refine WC.seq ?_
                  have hk : okp (byteAt s i) = true := by unfold okp; rw [← hc5_2]; apply decide_eq_true; omega
                  have he : enc1 (byteAt s i) = [UInt8.ofNat (byteAt s i).toNat] := if_pos hk
                  have hok : (okp (byteAt s i) || decide (16 ≤ byteAt s i)) = true := by rw [hk]; rfl
                  rw [← byte_one s i (by omega)] at he
                  refine WC.region ?_
                  refine WL.q (oq_move rfl) rfl rfl rfl ?_
                  refine WL.q (oq_move rfl) rfl rfl rfl ?_
                  refine WL.q (oq_move rfl) rfl rfl rfl ?_
                  refine WL.q (oq_move rfl) rfl rfl rfl ?_
                  refine WL.q (oq_add rfl rfl (by rw [i64_lo, i64_hi]; (first | omega | (simp only [List.length_cons, List.length_nil, List.length_append, List.length_drop, List.length_take]; omega)))) rfl rfl rfl ?_
                  refine WL.q (oq_slice_s2 Try.underlying9 rfl rfl rfl (by (first | omega | (show _ ∧ _ ∧ _ ≤ ((16 : Nat) : Int); omega)))) rfl rfl rfl ?_
                  refine WL.q (oq_concat rfl rfl (by ((try simp only [List.length_append, List.length_cons, List.length_nil]); first | omega | (have h1 := cut_len s (i : Int) ((i : Int) + 1) (by omega); omega) | (have h1 := congrArg List.length hx1; have h2 := congrArg List.length hx2; simp only [List.length_cons, List.length_nil] at h1 h2; omega)))) rfl rfl rfl ?_
                  refine WL.q (oq_assign rfl) rfl rfl rfl ?_
                  refine WL.nil ?_
                  refine WE.then_normal ?_
                  refine WC.sub (fr' := [(0, _), (4, _), (5, _)]) ?_ ⟨rfl, rfl, rfl, trivial⟩
                  refine WC.exit ?_
                  refine WE.then_exit ?_
                  refine WE.block_same ?_
                  refine WE.then_normal ?_
                  refine WC.sub (fr' := [(0, _), (4, _), (5, _)]) ?_ ⟨rfl, rfl, rfl, trivial⟩
                  refine WC.region ?_
                  refine WL.q (oq_move rfl) rfl rfl rfl ?_
                  refine WL.q (oq_add rfl rfl (by rw [i64_lo, i64_hi]; (first | omega | (simp only [List.length_cons, List.length_nil, List.length_append, List.length_drop, List.length_take]; omega)))) rfl rfl rfl ?_
                  refine WL.q (oq_assign rfl) rfl rfl rfl ?_
                  refine WL.nil ?_
                  refine WE.again (i + 1, l ++ enc1 (byteAt s i)) ?_ ?_ ⟨rfl, (gtv rfl (by first | (dsimp only; rw [he]; done) | (dsimp only; rw [← hc5_2, he, hx1, hx2]; simp))), rfl, trivial⟩ (List.Perm.refl _)
                  · try dsimp only   -- again 16
                    exact ⟨by omega, by have := enc1_len (byteAt s i); simp; omega, by rw [← hf, esc_step s i (by omega), List.append_assoc], by rw [ha, said_step s i (by omega), hok, Bool.true_and]⟩
                  · (try dsimp only); omega
                ·
                  try simp only [Bool.not_eq_eq_eq_not, Bool.not_true, Bool.not_false, decide_eq_true_eq, decide_eq_false_iff_not, Int.not_lt, Int.not_le, ne_eq, Decidable.not_not, ← List.length_eq_zero_iff] at s6_26
                  refine WL.q (oq_move rfl) rfl rfl rfl ?_
                  refine WL.q (oq_eql rfl rfl) rfl rfl rfl ?_
                  refine WL.q (oq_pick_f rfl rfl) rfl rfl rfl ?_
                  refine WL.q (oq_move rfl) rfl rfl rfl ?_
                  refine WL.split 46 rfl (fun s6_30 => ?_) (fun s6_30 => ?_)
                  ·
                    try simp only [Bool.not_eq_eq_eq_not, Bool.not_true, Bool.not_false, decide_eq_true_eq, decide_eq_false_iff_not, Int.not_lt, Int.not_le, ne_eq, Decidable.not_not, ← List.length_eq_zero_iff] at s6_30
                    refine WL.skip rfl rfl rfl ?_
                    refine WL.skip rfl rfl rfl ?_
                    refine WL.q (oq_pick_t rfl rfl) rfl rfl rfl ?_
                    refine WL.q (oq_move rfl) rfl rfl rfl ?_
                    refine WL.skip rfl rfl rfl ?_
                    refine WL.skip rfl rfl rfl ?_
                    refine WL.q (oq_pick_t rfl rfl) rfl rfl rfl ?_
                    refine WL.nil ?_
                    refine WE.then_normal ?_
                    refine WC.sub (fr' := [(0, _), (4, _), (5, _), (6, _), (53, _)]) ?_ ⟨rfl, rfl, rfl, rfl, rfl, trivial⟩
                    refine WC.cond_t rfl ?_
                    refine WC.seq ?_
                    have hk : okp (byteAt s i) = true := by unfold okp; rw [← hc5_2]; apply decide_eq_true; omega
                    have he : enc1 (byteAt s i) = [UInt8.ofNat (byteAt s i).toNat] := if_pos hk
                    have hok : (okp (byteAt s i) || decide (16 ≤ byteAt s i)) = true := by rw [hk]; rfl
                    rw [← byte_one s i (by omega)] at he
                    refine WC.region ?_
                    refine WL.q (oq_move rfl) rfl rfl rfl ?_
                    refine WL.q (oq_move rfl) rfl rfl rfl ?_
                    refine WL.q (oq_move rfl) rfl rfl rfl ?_
                    refine WL.q (oq_move rfl) rfl rfl rfl ?_
                    refine WL.q (oq_add rfl rfl (by rw [i64_lo, i64_hi]; (first | omega | (simp only [List.length_cons, List.length_nil, List.length_append, List.length_drop, List.length_take]; omega)))) rfl rfl rfl ?_
                    refine WL.q (oq_slice_s2 Try.underlying9 rfl rfl rfl (by (first | omega | (show _ ∧ _ ∧ _ ≤ ((16 : Nat) : Int); omega)))) rfl rfl rfl ?_
                    refine WL.q (oq_concat rfl rfl (by ((try simp only [List.length_append, List.length_cons, List.length_nil]); first | omega | (have h1 := cut_len s (i : Int) ((i : Int) + 1) (by omega); omega) | (have h1 := congrArg List.length hx1; have h2 := congrArg List.length hx2; simp only [List.length_cons, List.length_nil] at h1 h2; omega)))) rfl rfl rfl ?_
                    refine WL.q (oq_assign rfl) rfl rfl rfl ?_
                    refine WL.nil ?_
                    refine WE.then_normal ?_
                    refine WC.sub (fr' := [(0, _), (4, _), (5, _)]) ?_ ⟨rfl, rfl, rfl, trivial⟩
                    refine WC.exit ?_
                    refine WE.then_exit ?_
                    refine WE.block_same ?_
                    refine WE.then_normal ?_
                    refine WC.sub (fr' := [(0, _), (4, _), (5, _)]) ?_ ⟨rfl, rfl, rfl, trivial⟩
                    refine WC.region ?_
                    refine WL.q (oq_move rfl) rfl rfl rfl ?_
                    refine WL.q (oq_add rfl rfl (by rw [i64_lo, i64_hi]; (first | omega | (simp only [List.length_cons, List.length_nil, List.length_append, List.length_drop, List.length_take]; omega)))) rfl rfl rfl ?_
                    refine WL.q (oq_assign rfl) rfl rfl rfl ?_
                    refine WL.nil ?_
                    refine WE.again (i + 1, l ++ enc1 (byteAt s i)) ?_ ?_ ⟨rfl, (gtv rfl (by first | (dsimp only; rw [he]; done) | (dsimp only; rw [← hc5_2, he, hx1, hx2]; simp))), rfl, trivial⟩ (List.Perm.refl _)
                    · try dsimp only   -- again 17
                      exact ⟨by omega, by have := enc1_len (byteAt s i); simp; omega, by rw [← hf, esc_step s i (by omega), List.append_assoc], by rw [ha, said_step s i (by omega), hok, Bool.true_and]⟩
                    · (try dsimp only); omega
                  ·
                    try simp only [Bool.not_eq_eq_eq_not, Bool.not_true, Bool.not_false, decide_eq_true_eq, decide_eq_false_iff_not, Int.not_lt, Int.not_le, ne_eq, Decidable.not_not, ← List.length_eq_zero_iff] at s6_30
                    refine WL.q (oq_move rfl) rfl rfl rfl ?_
                    refine WL.q (oq_eql rfl rfl) rfl rfl rfl ?_
                    refine WL.q (oq_pick_f rfl rfl) rfl rfl rfl ?_
                    refine WL.q (oq_move rfl) rfl rfl rfl ?_
                    refine WL.split 50 rfl (fun s6_34 => ?_) (fun s6_34 => ?_)
                    ·
                      try simp only [Bool.not_eq_eq_eq_not, Bool.not_true, Bool.not_false, decide_eq_true_eq, decide_eq_false_iff_not, Int.not_lt, Int.not_le, ne_eq, Decidable.not_not, ← List.length_eq_zero_iff] at s6_34
                      refine WL.skip rfl rfl rfl ?_
                      refine WL.skip rfl rfl rfl ?_
                      refine WL.q (oq_pick_t rfl rfl) rfl rfl rfl ?_
                      refine WL.nil ?_
                      refine WE.then_normal ?_
                      refine WC.sub (fr' := [(0, _), (4, _), (5, _), (6, _), (53, _)]) ?_ ⟨rfl, rfl, rfl, rfl, rfl, trivial⟩
                      refine WC.cond_t rfl ?_
                      refine WC.seq ?_
                      have hk : okp (byteAt s i) = true := by unfold okp; rw [← hc5_2]; apply decide_eq_true; omega
                      have he : enc1 (byteAt s i) = [UInt8.ofNat (byteAt s i).toNat] := if_pos hk
                      have hok : (okp (byteAt s i) || decide (16 ≤ byteAt s i)) = true := by rw [hk]; rfl
                      rw [← byte_one s i (by omega)] at he
                      refine WC.region ?_
                      refine WL.q (oq_move rfl) rfl rfl rfl ?_
                      refine WL.q (oq_move rfl) rfl rfl rfl ?_
                      refine WL.q (oq_move rfl) rfl rfl rfl ?_
                      refine WL.q (oq_move rfl) rfl rfl rfl ?_
                      refine WL.q (oq_add rfl rfl (by rw [i64_lo, i64_hi]; (first | omega | (simp only [List.length_cons, List.length_nil, List.length_append, List.length_drop, List.length_take]; omega)))) rfl rfl rfl ?_
                      refine WL.q (oq_slice_s2 Try.underlying9 rfl rfl rfl (by (first | omega | (show _ ∧ _ ∧ _ ≤ ((16 : Nat) : Int); omega)))) rfl rfl rfl ?_
                      refine WL.q (oq_concat rfl rfl (by ((try simp only [List.length_append, List.length_cons, List.length_nil]); first | omega | (have h1 := cut_len s (i : Int) ((i : Int) + 1) (by omega); omega) | (have h1 := congrArg List.length hx1; have h2 := congrArg List.length hx2; simp only [List.length_cons, List.length_nil] at h1 h2; omega)))) rfl rfl rfl ?_
                      refine WL.q (oq_assign rfl) rfl rfl rfl ?_
                      refine WL.nil ?_
                      refine WE.then_normal ?_
                      refine WC.sub (fr' := [(0, _), (4, _), (5, _)]) ?_ ⟨rfl, rfl, rfl, trivial⟩
                      refine WC.exit ?_
                      refine WE.then_exit ?_
                      refine WE.block_same ?_
                      refine WE.then_normal ?_
                      refine WC.sub (fr' := [(0, _), (4, _), (5, _)]) ?_ ⟨rfl, rfl, rfl, trivial⟩
                      refine WC.region ?_
                      refine WL.q (oq_move rfl) rfl rfl rfl ?_
                      refine WL.q (oq_add rfl rfl (by rw [i64_lo, i64_hi]; (first | omega | (simp only [List.length_cons, List.length_nil, List.length_append, List.length_drop, List.length_take]; omega)))) rfl rfl rfl ?_
                      refine WL.q (oq_assign rfl) rfl rfl rfl ?_
                      refine WL.nil ?_
                      refine WE.again (i + 1, l ++ enc1 (byteAt s i)) ?_ ?_ ⟨rfl, (gtv rfl (by first | (dsimp only; rw [he]; done) | (dsimp only; rw [← hc5_2, he, hx1, hx2]; simp))), rfl, trivial⟩ (List.Perm.refl _)
                      · try dsimp only   -- again 18
                        exact ⟨by omega, by have := enc1_len (byteAt s i); simp; omega, by rw [← hf, esc_step s i (by omega), List.append_assoc], by rw [ha, said_step s i (by omega), hok, Bool.true_and]⟩
                      · (try dsimp only); omega
                    ·
                      try simp only [Bool.not_eq_eq_eq_not, Bool.not_true, Bool.not_false, decide_eq_true_eq, decide_eq_false_iff_not, Int.not_lt, Int.not_le, ne_eq, Decidable.not_not, ← List.length_eq_zero_iff] at s6_34
                      refine WL.q (oq_move rfl) rfl rfl rfl ?_
                      refine WL.q (oq_eql rfl rfl) rfl rfl rfl ?_
                      refine WL.q (oq_pick_f rfl rfl) rfl rfl rfl ?_
                      refine WL.nil ?_
                      refine WE.then_normal ?_
                      refine WC.sub (fr' := [(0, _), (4, _), (5, _), (6, _), (53, _)]) ?_ ⟨rfl, rfl, rfl, rfl, rfl, trivial⟩
                      refine WC.cond rfl (fun q6 => ?_) (fun q6 => ?_)
                      ·
                        try simp only [Bool.not_eq_eq_eq_not, Bool.not_true, Bool.not_false, decide_eq_true_eq, decide_eq_false_iff_not, Int.not_lt, Int.not_le, ne_eq, Decidable.not_not, ← List.length_eq_zero_iff] at q6
                        refine WC.seq ?_
                        have hk : okp (byteAt s i) = true := by unfold okp; rw [← hc5_2]; apply decide_eq_true; omega
                        have he : enc1 (byteAt s i) = [UInt8.ofNat (byteAt s i).toNat] := if_pos hk
                        have hok : (okp (byteAt s i) || decide (16 ≤ byteAt s i)) = true := by rw [hk]; rfl
                        rw [← byte_one s i (by omega)] at he
                        refine WC.region ?_
                        refine WL.q (oq_move rfl) rfl rfl rfl ?_
                        refine WL.q (oq_move rfl) rfl rfl rfl ?_
                        refine WL.q (oq_move rfl) rfl rfl rfl ?_
                        refine WL.q (oq_move rfl) rfl rfl rfl ?_
                        refine WL.q (oq_add rfl rfl (by rw [i64_lo, i64_hi]; (first | omega | (simp only [List.length_cons, List.length_nil, List.length_append, List.length_drop, List.length_take]; omega)))) rfl rfl rfl ?_
                        refine WL.q (oq_slice_s2 Try.underlying9 rfl rfl rfl (by (first | omega | (show _ ∧ _ ∧ _ ≤ ((16 : Nat) : Int); omega)))) rfl rfl rfl ?_
                        refine WL.q (oq_concat rfl rfl (by ((try simp only [List.length_append, List.length_cons, List.length_nil]); first | omega | (have h1 := cut_len s (i : Int) ((i : Int) + 1) (by omega); omega) | (have h1 := congrArg List.length hx1; have h2 := congrArg List.length hx2; simp only [List.length_cons, List.length_nil] at h1 h2; omega)))) rfl rfl rfl ?_
                        refine WL.q (oq_assign rfl) rfl rfl rfl ?_
                        refine WL.nil ?_
                        refine WE.then_normal ?_
                        refine WC.sub (fr' := [(0, _), (4, _), (5, _)]) ?_ ⟨rfl, rfl, rfl, trivial⟩
                        refine WC.exit ?_
                        refine WE.then_exit ?_
                        refine WE.block_same ?_
                        refine WE.then_normal ?_
                        refine WC.sub (fr' := [(0, _), (4, _), (5, _)]) ?_ ⟨rfl, rfl, rfl, trivial⟩
                        refine WC.region ?_
                        refine WL.q (oq_move rfl) rfl rfl rfl ?_
                        refine WL.q (oq_add rfl rfl (by rw [i64_lo, i64_hi]; (first | omega | (simp only [List.length_cons, List.length_nil, List.length_append, List.length_drop, List.length_take]; omega)))) rfl rfl rfl ?_
                        refine WL.q (oq_assign rfl) rfl rfl rfl ?_
                        refine WL.nil ?_
                        refine WE.again (i + 1, l ++ enc1 (byteAt s i)) ?_ ?_ ⟨rfl, (gtv rfl (by first | (dsimp only; rw [he]; done) | (dsimp only; rw [← hc5_2, he, hx1, hx2]; simp))), rfl, trivial⟩ (List.Perm.refl _)
                        · try dsimp only   -- again 19
                          exact ⟨by omega, by have := enc1_len (byteAt s i); simp; omega, by rw [← hf, esc_step s i (by omega), List.append_assoc], by rw [ha, said_step s i (by omega), hok, Bool.true_and]⟩
                        · (try dsimp only); omega
                      ·
                        try simp only [Bool.not_eq_eq_eq_not, Bool.not_true, Bool.not_false, decide_eq_true_eq, decide_eq_false_iff_not, Int.not_lt, Int.not_le, ne_eq, Decidable.not_not, ← List.length_eq_zero_iff] at q6
                        refine WC.skip ?_
                        refine WE.meet () ?_ ⟨rfl, rfl, rfl, rfl, trivial⟩ (List.Perm.refl _)
                        try dsimp only
                        unfold okp; rw [← hc5_2]; apply decide_eq_false; omega   -- meet 3
        ·
          try simp only [Bool.not_eq_eq_eq_not, Bool.not_true, Bool.not_false, decide_eq_true_eq, decide_eq_false_iff_not, Int.not_lt, Int.not_le, ne_eq, Decidable.not_not, ← List.length_eq_zero_iff] at s6_2
          refine WL.skip rfl rfl rfl ?_
          refine WL.skip rfl rfl rfl ?_
          refine WL.q (oq_pick_f rfl rfl) rfl rfl rfl ?_
          refine WL.q (oq_move rfl) rfl rfl rfl ?_
          refine WL.q (oq_move rfl) rfl rfl rfl ?_
          refine WL.q (oq_geq rfl rfl) rfl rfl rfl ?_
          refine WL.q (oq_move rfl) rfl rfl rfl ?_
          refine WL.split 25 rfl (fun s6_9 => ?_) (fun s6_9 => ?_)
          ·
            try simp only [Bool.not_eq_eq_eq_not, Bool.not_true, Bool.not_false, decide_eq_true_eq, decide_eq_false_iff_not, Int.not_lt, Int.not_le, ne_eq, Decidable.not_not, ← List.length_eq_zero_iff] at s6_9
            refine WL.q (oq_move rfl) rfl rfl rfl ?_
            refine WL.q (oq_leq rfl rfl) rfl rfl rfl ?_
            refine WL.q (oq_pick_t rfl rfl) rfl rfl rfl ?_
            refine WL.q (oq_pick_f rfl rfl) rfl rfl rfl ?_
            refine WL.q (oq_move rfl) rfl rfl rfl ?_
            refine WL.split 30 rfl (fun s6_14 => ?_) (fun s6_14 => ?_)
            ·
              try simp only [Bool.not_eq_eq_eq_not, Bool.not_true, Bool.not_false, decide_eq_true_eq, decide_eq_false_iff_not, Int.not_lt, Int.not_le, ne_eq, Decidable.not_not, ← List.length_eq_zero_iff] at s6_14
              refine WL.skip rfl rfl rfl ?_
              refine WL.skip rfl rfl rfl ?_
              refine WL.skip rfl rfl rfl ?_
              refine WL.skip rfl rfl rfl ?_
              refine WL.skip rfl rfl rfl ?_
              refine WL.skip rfl rfl rfl ?_
              refine WL.q (oq_pick_t rfl rfl) rfl rfl rfl ?_
              refine WL.q (oq_move rfl) rfl rfl rfl ?_
              refine WL.skip rfl rfl rfl ?_
              refine WL.skip rfl rfl rfl ?_
              refine WL.q (oq_pick_t rfl rfl) rfl rfl rfl ?_
              refine WL.q (oq_move rfl) rfl rfl rfl ?_
              refine WL.skip rfl rfl rfl ?_
              refine WL.skip rfl rfl rfl ?_
              refine WL.q (oq_pick_t rfl rfl) rfl rfl rfl ?_
              refine WL.q (oq_move rfl) rfl rfl rfl ?_
              refine WL.skip rfl rfl rfl ?_
              refine WL.skip rfl rfl rfl ?_
              refine WL.q (oq_pick_t rfl rfl) rfl rfl rfl ?_
              refine WL.q (oq_move rfl) rfl rfl rfl ?_
              refine WL.skip rfl rfl rfl ?_
              refine WL.skip rfl rfl rfl ?_
              refine WL.q (oq_pick_t rfl rfl) rfl rfl rfl ?_
              refine WL.nil ?_
              refine WE.then_normal ?_
              refine WC.sub (fr' := [(0, _), (4, _), (5, _), (6, _), (53, _)]) ?_ ⟨rfl, rfl, rfl, rfl, rfl, trivial⟩
              refine WC.cond_t rfl ?_
              refine WC.seq ?_
              have hk : okp (byteAt s i) = true := by unfold okp; rw [← hc5_2]; apply decide_eq_true; omega
              have he : enc1 (byteAt s i) = [UInt8.ofNat (byteAt s i).toNat] := if_pos hk
              have hok : (okp (byteAt s i) || decide (16 ≤ byteAt s i)) = true := by rw [hk]; rfl
              rw [← byte_one s i (by omega)] at he
              refine WC.region ?_
              refine WL.q (oq_move rfl) rfl rfl rfl ?_
              refine WL.q (oq_move rfl) rfl rfl rfl ?_
              refine WL.q (oq_move rfl) rfl rfl rfl ?_
              refine WL.q (oq_move rfl) rfl rfl rfl ?_
              refine WL.q (oq_add rfl rfl (by rw [i64_lo, i64_hi]; (first | omega | (simp only [List.length_cons, List.length_nil, List.length_append, List.length_drop, List.length_take]; omega)))) rfl rfl rfl ?_
              refine WL.q (oq_slice_s2 Try.underlying9 rfl rfl rfl (by (first | omega | (show _ ∧ _ ∧ _ ≤ ((16 : Nat) : Int); omega)))) rfl rfl rfl ?_
              refine WL.q (oq_concat rfl rfl (by ((try simp only [List.length_append, List.length_cons, List.length_nil]); first | omega | (have h1 := cut_len s (i : Int) ((i : Int) + 1) (by omega); omega) | (have h1 := congrArg List.length hx1; have h2 := congrArg List.length hx2; simp only [List.length_cons, List.length_nil] at h1 h2; omega)))) rfl rfl rfl ?_
              refine WL.q (oq_assign rfl) rfl rfl rfl ?_
              refine WL.nil ?_
              refine WE.then_normal ?_
              refine WC.sub (fr' := [(0, _), (4, _), (5, _)]) ?_ ⟨rfl, rfl, rfl, trivial⟩
              refine WC.exit ?_
              refine WE.then_exit ?_
              refine WE.block_same ?_
              refine WE.then_normal ?_
              refine WC.sub (fr' := [(0, _), (4, _), (5, _)]) ?_ ⟨rfl, rfl, rfl, trivial⟩
              refine WC.region ?_
              refine WL.q (oq_move rfl) rfl rfl rfl ?_
              refine WL.q (oq_add rfl rfl (by rw [i64_lo, i64_hi]; (first | omega | (simp only [List.length_cons, List.length_nil, List.length_append, List.length_drop, List.length_take]; omega)))) rfl rfl rfl ?_
              refine WL.q (oq_assign rfl) rfl rfl rfl ?_
              refine WL.nil ?_
              refine WE.again (i + 1, l ++ enc1 (byteAt s i)) ?_ ?_ ⟨rfl, (gtv rfl (by first | (dsimp only; rw [he]; done) | (dsimp only; rw [← hc5_2, he, hx1, hx2]; simp))), rfl, trivial⟩ (List.Perm.refl _)
              · try dsimp only   -- again 20
                exact ⟨by omega, by have := enc1_len (byteAt s i); simp; omega, by rw [← hf, esc_step s i (by omega), List.append_assoc], by rw [ha, said_step s i (by omega), hok, Bool.true_and]⟩
              · (try dsimp only); omega
            ·
              try simp only [Bool.not_eq_eq_eq_not, Bool.not_true, Bool.not_false, decide_eq_true_eq, decide_eq_false_iff_not, Int.not_lt, Int.not_le, ne_eq, Decidable.not_not, ← List.length_eq_zero_iff] at s6_14
              refine WL.q (oq_move rfl) rfl rfl rfl ?_
              refine WL.q (oq_geq rfl rfl) rfl rfl rfl ?_
              refine WL.q (oq_move rfl) rfl rfl rfl ?_
              refine WL.split 33 rfl (fun s6_17 => ?_) (fun s6_17 => ?_)
              ·
                try simp only [Bool.not_eq_eq_eq_not, Bool.not_true, Bool.not_false, decide_eq_true_eq, decide_eq_false_iff_not, Int.not_lt, Int.not_le, ne_eq, Decidable.not_not, ← List.length_eq_zero_iff] at s6_17
                refine WL.q (oq_move rfl) rfl rfl rfl ?_
                refine WL.q (oq_leq rfl rfl) rfl rfl rfl ?_
                refine WL.q (oq_pick_t rfl rfl) rfl rfl rfl ?_
                refine WL.q (oq_pick_f rfl rfl) rfl rfl rfl ?_
                refine WL.q (oq_move rfl) rfl rfl rfl ?_
                refine WL.split 38 rfl (fun s6_22 => ?_) (fun s6_22 => ?_)
                ·
                  try simp only [Bool.not_eq_eq_eq_not, Bool.not_true, Bool.not_false, decide_eq_true_eq, decide_eq_false_iff_not, Int.not_lt, Int.not_le, ne_eq, Decidable.not_not, ← List.length_eq_zero_iff] at s6_22
                  refine WL.skip rfl rfl rfl ?_
                  refine WL.skip rfl rfl rfl ?_
                  refine WL.q (oq_pick_t rfl rfl) rfl rfl rfl ?_
                  refine WL.q (oq_move rfl) rfl rfl rfl ?_
                  refine WL.skip rfl rfl rfl ?_
                  refine WL.skip rfl rfl rfl ?_
                  refine WL.q (oq_pick_t rfl rfl) rfl rfl rfl ?_
                  refine WL.q (oq_move rfl) rfl rfl rfl ?_
                  refine WL.skip rfl rfl rfl ?_
                  refine WL.skip rfl rfl rfl ?_
                  refine WL.q (oq_pick_t rfl rfl) rfl rfl rfl ?_
                  refine WL.q (oq_move rfl) rfl rfl rfl ?_
                  refine WL.skip rfl rfl rfl ?_
                  refine WL.skip rfl rfl rfl ?_
                  refine WL.q (oq_pick_t rfl rfl) rfl rfl rfl ?_
                  refine WL.nil ?_
                  refine WE.then_normal ?_
                  refine WC.sub (fr' := [(0, _), (4, _), (5, _), (6, _), (53, _)]) ?_ ⟨rfl, rfl, rfl, rfl, rfl, trivial⟩
                  refine WC.cond_t rfl ?_
                  refine WC.seq ?_
                  have hk : okp (byteAt s i) = true := by unfold okp; rw [← hc5_2]; apply decide_eq_true; omega
                  have he : enc1 (byteAt s i) = [UInt8.ofNat (byteAt s i).toNat] := if_pos hk
                  have hok : (okp (byteAt s i) || decide (16 ≤ byteAt s i)) = true := by rw [hk]; rfl
                  rw [← byte_one s i (by omega)] at he
                  refine WC.region ?_
                  refine WL.q (oq_move rfl) rfl rfl rfl ?_
                  refine WL.q (oq_move rfl) rfl rfl rfl ?_
                  refine WL.q (oq_move rfl) rfl rfl rfl ?_
                  refine WL.q (oq_move rfl) rfl rfl rfl ?_
                  refine WL.q (oq_add rfl rfl (by rw [i64_lo, i64_hi]; (first | omega | (simp only [List.length_cons, List.length_nil, List.length_append, List.length_drop, List.length_take]; omega)))) rfl rfl rfl ?_
                  refine WL.q (oq_slice_s2 Try.underlying9 rfl rfl rfl (by (first | omega | (show _ ∧ _ ∧ _ ≤ ((16 : Nat) : Int); omega)))) rfl rfl rfl ?_
                  refine WL.q (oq_concat rfl rfl (by ((try simp only [List.length_append, List.length_cons, List.length_nil]); first | omega | (have h1 := cut_len s (i : Int) ((i : Int) + 1) (by omega); omega) | (have h1 := congrArg List.length hx1; have h2 := congrArg List.length hx2; simp only [List.length_cons, List.length_nil] at h1 h2; omega)))) rfl rfl rfl ?_
                  refine WL.q (oq_assign rfl) rfl rfl rfl ?_
                  refine WL.nil ?_
                  refine WE.then_normal ?_
                  refine WC.sub (fr' := [(0, _), (4, _), (5, _)]) ?_ ⟨rfl, rfl, rfl, trivial⟩
                  refine WC.exit ?_
                  refine WE.then_exit ?_
                  refine WE.block_same ?_
                  refine WE.then_normal ?_
                  refine WC.sub (fr' := [(0, _), (4, _), (5, _)]) ?_ ⟨rfl, rfl, rfl, trivial⟩
                  refine WC.region ?_
                  refine WL.q (oq_move rfl) rfl rfl rfl ?_
                  refine WL.q (oq_add rfl rfl (by rw [i64_lo, i64_hi]; (first | omega | (simp only [List.length_cons, List.length_nil, List.length_append, List.length_drop, List.length_take]; omega)))) rfl rfl rfl ?_
                  refine WL.q (oq_assign rfl) rfl rfl rfl ?_
                  refine WL.nil ?_
                  refine WE.again (i + 1, l ++ enc1 (byteAt s i)) ?_ ?_ ⟨rfl, (gtv rfl (by first | (dsimp only; rw [he]; done) | (dsimp only; rw [← hc5_2, he, hx1, hx2]; simp))), rfl, trivial⟩ (List.Perm.refl _)
                  · try dsimp only   -- again 21
                    exact ⟨by omega, by have := enc1_len (byteAt s i); simp; omega, by rw [← hf, esc_step s i (by omega), List.append_assoc], by rw [ha, said_step s i (by omega), hok, Bool.true_and]⟩
                  · (try dsimp only); omega
                ·
                  try simp only [Bool.not_eq_eq_eq_not, Bool.not_true, Bool.not_false, decide_eq_true_eq, decide_eq_false_iff_not, Int.not_lt, Int.not_le, ne_eq, Decidable.not_not, ← List.length_eq_zero_iff] at s6_22
                  refine WL.q (oq_move rfl) rfl rfl rfl ?_
                  refine WL.q (oq_eql rfl rfl) rfl rfl rfl ?_
                  refine WL.q (oq_pick_f rfl rfl) rfl rfl rfl ?_
                  refine WL.q (oq_move rfl) rfl rfl rfl ?_
                  refine WL.split 42 rfl (fun s6_26 => ?_) (fun s6_26 => ?_)
                  ·
                    try simp only [Bool.not_eq_eq_eq_not, Bool.not_true, Bool.not_false, decide_eq_true_eq, decide_eq_false_iff_not, Int.not_lt, Int.not_le, ne_eq, Decidable.not_not, ← List.length_eq_zero_iff] at s6_26
                    refine WL.skip rfl rfl rfl ?_
                    refine WL.skip rfl rfl rfl ?_
                    refine WL.q (oq_pick_t rfl rfl) rfl rfl rfl ?_
                    refine WL.q (oq_move rfl) rfl rfl rfl ?_
                    refine WL.skip rfl rfl rfl ?_
                    refine WL.skip rfl rfl rfl ?_
                    refine WL.q (oq_pick_t rfl rfl) rfl rfl rfl ?_
                    refine WL.q (oq_move rfl) rfl rfl rfl ?_
                    refine WL.skip rfl rfl rfl ?_
                    refine WL.skip rfl rfl rfl ?_
                    refine WL.q (oq_pick_t rfl rfl) rfl rfl rfl ?_
                    refine WL.nil ?_
                    refine WE.then_normal ?_
                    refine WC.sub (fr' := [(0, _), (4, _), (5, _), (6, _), (53, _)]) ?_ ⟨rfl, rfl, rfl, rfl, rfl, trivial⟩
                    refine WC.cond_t rfl ?_
                    refine WC.seq ?_
                    have hk : okp (byteAt s i) = true := by unfold okp; rw [← hc5_2]; apply decide_eq_true; omega
                    have he : enc1 (byteAt s i) = [UInt8.ofNat (byteAt s i).toNat] := if_pos hk
                    have hok : (okp (byteAt s i) || decide (16 ≤ byteAt s i)) = true := by rw [hk]; rfl
                    rw [← byte_one s i (by omega)] at he
                    refine WC.region ?_
                    refine WL.q (oq_move rfl) rfl rfl rfl ?_
                    refine WL.q (oq_move rfl) rfl rfl rfl ?_
                    refine WL.q (oq_move rfl) rfl rfl rfl ?_
                    refine WL.q (oq_move rfl) rfl rfl rfl ?_
                    refine WL.q (oq_add rfl rfl (by rw [i64_lo, i64_hi]; (first | omega | (simp only [List.length_cons, List.length_nil, List.length_append, List.length_drop, List.length_take]; omega)))) rfl rfl rfl ?_
                    refine WL.q (oq_slice_s2 Try.underlying9 rfl rfl rfl (by (first | omega | (show _ ∧ _ ∧ _ ≤ ((16 : Nat) : Int); omega)))) rfl rfl rfl ?_
                    refine WL.q (oq_concat rfl rfl (by ((try simp only [List.length_append, List.length_cons, List.length_nil]); first | omega | (have h1 := cut_len s (i : Int) ((i : Int) + 1) (by omega); omega) | (have h1 := congrArg List.length hx1; have h2 := congrArg List.length hx2; simp only [List.length_cons, List.length_nil] at h1 h2; omega)))) rfl rfl rfl ?_
                    refine WL.q (oq_assign rfl) rfl rfl rfl ?_
                    refine WL.nil ?_
                    refine WE.then_normal ?_
                    refine WC.sub (fr' := [(0, _), (4, _), (5, _)]) ?_ ⟨rfl, rfl, rfl, trivial⟩
                    refine WC.exit ?_
                    refine WE.then_exit ?_
                    refine WE.block_same ?_
                    refine WE.then_normal ?_
                    refine WC.sub (fr' := [(0, _), (4, _), (5, _)]) ?_ ⟨rfl, rfl, rfl, trivial⟩
                    refine WC.region ?_
                    refine WL.q (oq_move rfl) rfl rfl rfl ?_
                    refine WL.q (oq_add rfl rfl (by rw [i64_lo, i64_hi]; (first | omega | (simp only [List.length_cons, List.length_nil, List.length_append, List.length_drop, List.length_take]; omega)))) rfl rfl rfl ?_
                    refine WL.q (oq_assign rfl) rfl rfl rfl ?_
                    refine WL.nil ?_
                    refine WE.again (i + 1, l ++ enc1 (byteAt s i)) ?_ ?_ ⟨rfl, (gtv rfl (by first | (dsimp only; rw [he]; done) | (dsimp only; rw [← hc5_2, he, hx1, hx2]; simp))), rfl, trivial⟩ (List.Perm.refl _)
                    · try dsimp only   -- again 22
                      exact ⟨by omega, by have := enc1_len (byteAt s i); simp; omega, by rw [← hf, esc_step s i (by omega), List.append_assoc], by rw [ha, said_step s i (by omega), hok, Bool.true_and]⟩
                    · (try dsimp only); omega
                  ·
                    try simp only [Bool.not_eq_eq_eq_not, Bool.not_true, Bool.not_false, decide_eq_true_eq, decide_eq_false_iff_not, Int.not_lt, Int.not_le, ne_eq, Decidable.not_not, ← List.length_eq_zero_iff] at s6_26
                    refine WL.q (oq_move rfl) rfl rfl rfl ?_
                    refine WL.q (oq_eql rfl rfl) rfl rfl rfl ?_
                    refine WL.q (oq_pick_f rfl rfl) rfl rfl rfl ?_
                    refine WL.q (oq_move rfl) rfl rfl rfl ?_
                    refine WL.split 46 rfl (fun s6_30 => ?_) (fun s6_30 => ?_)
                    ·
                      try simp only [Bool.not_eq_eq_eq_not, Bool.not_true, Bool.not_false, decide_eq_true_eq, decide_eq_false_iff_not, Int.not_lt, Int.not_le, ne_eq, Decidable.not_not, ← List.length_eq_zero_iff] at s6_30
                      refine WL.skip rfl rfl rfl ?_
                      refine WL.skip rfl rfl rfl ?_
                      refine WL.q (oq_pick_t rfl rfl) rfl rfl rfl ?_
                      refine WL.q (oq_move rfl) rfl rfl rfl ?_
                      refine WL.skip rfl rfl rfl ?_
                      refine WL.skip rfl rfl rfl ?_
                      refine WL.q (oq_pick_t rfl rfl) rfl rfl rfl ?_
                      refine WL.nil ?_
                      refine WE.then_normal ?_
                      refine WC.sub (fr' := [(0, _), (4, _), (5, _), (6, _), (53, _)]) ?_ ⟨rfl, rfl, rfl, rfl, rfl, trivial⟩
                      refine WC.cond_t rfl ?_
                      refine WC.seq ?_
                      have hk : okp (byteAt s i) = true := by unfold okp; rw [← hc5_2]; apply decide_eq_true; omega
                      have he : enc1 (byteAt s i) = [UInt8.ofNat (byteAt s i).toNat] := if_pos hk
                      have hok : (okp (byteAt s i) || decide (16 ≤ byteAt s i)) = true := by rw [hk]; rfl
                      rw [← byte_one s i (by omega)] at he
                      refine WC.region ?_
                      refine WL.q (oq_move rfl) rfl rfl rfl ?_
                      refine WL.q (oq_move rfl) rfl rfl rfl ?_
                      refine WL.q (oq_move rfl) rfl rfl rfl ?_
                      refine WL.q (oq_move rfl) rfl rfl rfl ?_
                      refine WL.q (oq_add rfl rfl (by rw [i64_lo, i64_hi]; (first | omega | (simp only [List.length_cons, List.length_nil, List.length_append, List.length_drop, List.length_take]; omega)))) rfl rfl rfl ?_
                      refine WL.q (oq_slice_s2 Try.underlying9 rfl rfl rfl (by (first | omega | (show _ ∧ _ ∧ _ ≤ ((16 : Nat) : Int); omega)))) rfl rfl rfl ?_
                      refine WL.q (oq_concat rfl rfl (by ((try simp only [List.length_append, List.length_cons, List.length_nil]); first | omega | (have h1 := cut_len s (i : Int) ((i : Int) + 1) (by omega); omega) | (have h1 := congrArg List.length hx1; have h2 := congrArg List.length hx2; simp only [List.length_cons, List.length_nil] at h1 h2; omega)))) rfl rfl rfl ?_
                      refine WL.q (oq_assign rfl) rfl rfl rfl ?_
                      refine WL.nil ?_
                      refine WE.then_normal ?_
                      refine WC.sub (fr' := [(0, _), (4, _), (5, _)]) ?_ ⟨rfl, rfl, rfl, trivial⟩
                      refine WC.exit ?_
                      refine WE.then_exit ?_
                      refine WE.block_same ?_
                      refine WE.then_normal ?_
                      refine WC.sub (fr' := [(0, _), (4, _), (5, _)]) ?_ ⟨rfl, rfl, rfl, trivial⟩
                      refine WC.region ?_
                      refine WL.q (oq_move rfl) rfl rfl rfl ?_
                      refine WL.q (oq_add rfl rfl (by rw [i64_lo, i64_hi]; (first | omega | (simp only [List.length_cons, List.length_nil, List.length_append, List.length_drop, List.length_take]; omega)))) rfl rfl rfl ?_
                      refine WL.q (oq_assign rfl) rfl rfl rfl ?_
                      refine WL.nil ?_
                      refine WE.again (i + 1, l ++ enc1 (byteAt s i)) ?_ ?_ ⟨rfl, (gtv rfl (by first | (dsimp only; rw [he]; done) | (dsimp only; rw [← hc5_2, he, hx1, hx2]; simp))), rfl, trivial⟩ (List.Perm.refl _)
                      · try dsimp only   -- again 23
                        exact ⟨by omega, by have := enc1_len (byteAt s i); simp; omega, by rw [← hf, esc_step s i (by omega), List.append_assoc], by rw [ha, said_step s i (by omega), hok, Bool.true_and]⟩
                      · (try dsimp only); omega
                    ·
                      try simp only [Bool.not_eq_eq_eq_not, Bool.not_true, Bool.not_false, decide_eq_true_eq, decide_eq_false_iff_not, Int.not_lt, Int.not_le, ne_eq, Decidable.not_not, ← List.length_eq_zero_iff] at s6_30
                      refine WL.q (oq_move rfl) rfl rfl rfl ?_
                      refine WL.q (oq_eql rfl rfl) rfl rfl rfl ?_
                      refine WL.q (oq_pick_f rfl rfl) rfl rfl rfl ?_
                      refine WL.q (oq_move rfl) rfl rfl rfl ?_
                      refine WL.split 50 rfl (fun s6_34 => ?_) (fun s6_34 => ?_)
                      ·
                        try simp only [Bool.not_eq_eq_eq_not, Bool.not_true, Bool.not_false, decide_eq_true_eq, decide_eq_false_iff_not, Int.not_lt, Int.not_le, ne_eq, Decidable.not_not, ← List.length_eq_zero_iff] at s6_34
                        refine WL.skip rfl rfl rfl ?_
                        refine WL.skip rfl rfl rfl ?_
                        refine WL.q (oq_pick_t rfl rfl) rfl rfl rfl ?_
                        refine WL.nil ?_
                        refine WE.then_normal ?_
                        refine WC.sub (fr' := [(0, _), (4, _), (5, _), (6, _), (53, _)]) ?_ ⟨rfl, rfl, rfl, rfl, rfl, trivial⟩
                        refine WC.cond_t rfl ?_
                        refine WC.seq ?_
                        have hk : okp (byteAt s i) = true := by unfold okp; rw [← hc5_2]; apply decide_eq_true; omega
                        have he : enc1 (byteAt s i) = [UInt8.ofNat (byteAt s i).toNat] := if_pos hk
                        have hok : (okp (byteAt s i) || decide (16 ≤ byteAt s i)) = true := by rw [hk]; rfl
                        rw [← byte_one s i (by omega)] at he
                        refine WC.region ?_
                        refine WL.q (oq_move rfl) rfl rfl rfl ?_
                        refine WL.q (oq_move rfl) rfl rfl rfl ?_
                        refine WL.q (oq_move rfl) rfl rfl rfl ?_
                        refine WL.q (oq_move rfl) rfl rfl rfl ?_
                        refine WL.q (oq_add rfl rfl (by rw [i64_lo, i64_hi]; (first | omega | (simp only [List.length_cons, List.length_nil, List.length_append, List.length_drop, List.length_take]; omega)))) rfl rfl rfl ?_
                        refine WL.q (oq_slice_s2 Try.underlying9 rfl rfl rfl (by (first | omega | (show _ ∧ _ ∧ _ ≤ ((16 : Nat) : Int); omega)))) rfl rfl rfl ?_
                        refine WL.q (oq_concat rfl rfl (by ((try simp only [List.length_append, List.length_cons, List.length_nil]); first | omega | (have h1 := cut_len s (i : Int) ((i : Int) + 1) (by omega); omega) | (have h1 := congrArg List.length hx1; have h2 := congrArg List.length hx2; simp only [List.length_cons, List.length_nil] at h1 h2; omega)))) rfl rfl rfl ?_
                        refine WL.q (oq_assign rfl) rfl rfl rfl ?_
                        refine WL.nil ?_
                        refine WE.then_normal ?_
                        refine WC.sub (fr' := [(0, _), (4, _), (5, _)]) ?_ ⟨rfl, rfl, rfl, trivial⟩
                        refine WC.exit ?_
                        refine WE.then_exit ?_
                        refine WE.block_same ?_
                        refine WE.then_normal ?_
                        refine WC.sub (fr' := [(0, _), (4, _), (5, _)]) ?_ ⟨rfl, rfl, rfl, trivial⟩
                        refine WC.region ?_
                        refine WL.q (oq_move rfl) rfl rfl rfl ?_
                        refine WL.q (oq_add rfl rfl (by rw [i64_lo, i64_hi]; (first | omega | (simp only [List.length_cons, List.length_nil, List.length_append, List.length_drop, List.length_take]; omega)))) rfl rfl rfl ?_
                        refine WL.q (oq_assign rfl) rfl rfl rfl ?_
                        refine WL.nil ?_
                        refine WE.again (i + 1, l ++ enc1 (byteAt s i)) ?_ ?_ ⟨rfl, (gtv rfl (by first | (dsimp only; rw [he]; done) | (dsimp only; rw [← hc5_2, he, hx1, hx2]; simp))), rfl, trivial⟩ (List.Perm.refl _)
                        · try dsimp only   -- again 24
                          exact ⟨by omega, by have := enc1_len (byteAt s i); simp; omega, by rw [← hf, esc_step s i (by omega), List.append_assoc], by rw [ha, said_step s i (by omega), hok, Bool.true_and]⟩
                        · (try dsimp only); omega
                      ·
                        try simp only [Bool.not_eq_eq_eq_not, Bool.not_true, Bool.not_false, decide_eq_true_eq, decide_eq_false_iff_not, Int.not_lt, Int.not_le, ne_eq, Decidable.not_not, ← List.length_eq_zero_iff] at s6_34
                        refine WL.q (oq_move rfl) rfl rfl rfl ?_
                        refine WL.q (oq_eql rfl rfl) rfl rfl rfl ?_
                        refine WL.q (oq_pick_f rfl rfl) rfl rfl rfl ?_
                        refine WL.nil ?_
                        refine WE.then_normal ?_
                        refine WC.sub (fr' := [(0, _), (4, _), (5, _), (6, _), (53, _)]) ?_ ⟨rfl, rfl, rfl, rfl, rfl, trivial⟩
                        refine WC.cond rfl (fun q6 => ?_) (fun q6 => ?_)
                        ·
                          try simp only [Bool.not_eq_eq_eq_not, Bool.not_true, Bool.not_false, decide_eq_true_eq, decide_eq_false_iff_not, Int.not_lt, Int.not_le, ne_eq, Decidable.not_not, ← List.length_eq_zero_iff] at q6
                          refine WC.seq ?_
                          have hk : okp (byteAt s i) = true := by unfold okp; rw [← hc5_2]; apply decide_eq_true; omega
                          have he : enc1 (byteAt s i) = [UInt8.ofNat (byteAt s i).toNat] := if_pos hk
                          have hok : (okp (byteAt s i) || decide (16 ≤ byteAt s i)) = true := by rw [hk]; rfl
                          rw [← byte_one s i (by omega)] at he
                          refine WC.region ?_
                          refine WL.q (oq_move rfl) rfl rfl rfl ?_
                          refine WL.q (oq_move rfl) rfl rfl rfl ?_
                          refine WL.q (oq_move rfl) rfl rfl rfl ?_
                          refine WL.q (oq_move rfl) rfl rfl rfl ?_
                          refine WL.q (oq_add rfl rfl (by rw [i64_lo, i64_hi]; (first | omega | (simp only [List.length_cons, List.length_nil, List.length_append, List.length_drop, List.length_take]; omega)))) rfl rfl rfl ?_
                          refine WL.q (oq_slice_s2 Try.underlying9 rfl rfl rfl (by (first | omega | (show _ ∧ _ ∧ _ ≤ ((16 : Nat) : Int); omega)))) rfl rfl rfl ?_
                          refine WL.q (oq_concat rfl rfl (by ((try simp only [List.length_append, List.length_cons, List.length_nil]); first | omega | (have h1 := cut_len s (i : Int) ((i : Int) + 1) (by omega); omega) | (have h1 := congrArg List.length hx1; have h2 := congrArg List.length hx2; simp only [List.length_cons, List.length_nil] at h1 h2; omega)))) rfl rfl rfl ?_
                          refine WL.q (oq_assign rfl) rfl rfl rfl ?_
                          refine WL.nil ?_
                          refine WE.then_normal ?_
                          refine WC.sub (fr' := [(0, _), (4, _), (5, _)]) ?_ ⟨rfl, rfl, rfl, trivial⟩
                          refine WC.exit ?_
                          refine WE.then_exit ?_
                          refine WE.block_same ?_
                          refine WE.then_normal ?_
                          refine WC.sub (fr' := [(0, _), (4, _), (5, _)]) ?_ ⟨rfl, rfl, rfl, trivial⟩
                          refine WC.region ?_
                          refine WL.q (oq_move rfl) rfl rfl rfl ?_
                          refine WL.q (oq_add rfl rfl (by rw [i64_lo, i64_hi]; (first | omega | (simp only [List.length_cons, List.length_nil, List.length_append, List.length_drop, List.length_take]; omega)))) rfl rfl rfl ?_
                          refine WL.q (oq_assign rfl) rfl rfl rfl ?_
                          refine WL.nil ?_
                          refine WE.again (i + 1, l ++ enc1 (byteAt s i)) ?_ ?_ ⟨rfl, (gtv rfl (by first | (dsimp only; rw [he]; done) | (dsimp only; rw [← hc5_2, he, hx1, hx2]; simp))), rfl, trivial⟩ (List.Perm.refl _)
                          · try dsimp only   -- again 25
                            exact ⟨by omega, by have := enc1_len (byteAt s i); simp; omega, by rw [← hf, esc_step s i (by omega), List.append_assoc], by rw [ha, said_step s i (by omega), hok, Bool.true_and]⟩
                          · (try dsimp only); omega
                        ·
                          try simp only [Bool.not_eq_eq_eq_not, Bool.not_true, Bool.not_false, decide_eq_true_eq, decide_eq_false_iff_not, Int.not_lt, Int.not_le, ne_eq, Decidable.not_not, ← List.length_eq_zero_iff] at q6
                          refine WC.skip ?_
                          refine WE.meet () ?_ ⟨rfl, rfl, rfl, rfl, trivial⟩ (List.Perm.refl _)
                          try dsimp only
                          unfold okp; rw [← hc5_2]; apply decide_eq_false; omega   -- meet 4
              ·
                try simp only [Bool.not_eq_eq_eq_not, Bool.not_true, Bool.not_false, decide_eq_true_eq, decide_eq_false_iff_not, Int.not_lt, Int.not_le, ne_eq, Decidable.not_not, ← List.length_eq_zero_iff] at s6_17
                refine WL.skip rfl rfl rfl ?_
                refine WL.skip rfl rfl rfl ?_
                refine WL.q (oq_pick_f rfl rfl) rfl rfl rfl ?_
                refine WL.q (oq_pick_f rfl rfl) rfl rfl rfl ?_
                refine WL.q (oq_move rfl) rfl rfl rfl ?_
                refine WL.q (oq_move rfl) rfl rfl rfl ?_
                refine WL.q (oq_eql rfl rfl) rfl rfl rfl ?_
                refine WL.q (oq_pick_f rfl rfl) rfl rfl rfl ?_
                refine WL.q (oq_move rfl) rfl rfl rfl ?_
                refine WL.split 42 rfl (fun s6_26 => ?_) (fun s6_26 => ?_)
                ·
                  try simp only [Bool.not_eq_eq_eq_not, Bool.not_true, Bool.not_false, decide_eq_true_eq, decide_eq_false_iff_not, Int.not_lt, Int.not_le, ne_eq, Decidable.not_not, ← List.length_eq_zero_iff] at s6_26
                  refine WL.skip rfl rfl rfl ?_
                  refine WL.skip rfl rfl rfl ?_
                  refine WL.q (oq_pick_t rfl rfl) rfl rfl rfl ?_
                  refine WL.q (oq_move rfl) rfl rfl rfl ?_
                  refine WL.skip rfl rfl rfl ?_
                  refine WL.skip rfl rfl rfl ?_
                  refine WL.q (oq_pick_t rfl rfl) rfl rfl rfl ?_
                  refine WL.q (oq_move rfl) rfl rfl rfl ?_
                  refine WL.skip rfl rfl rfl ?_
                  refine WL.skip rfl rfl rfl ?_
                  refine WL.q (oq_pick_t rfl rfl) rfl rfl rfl ?_
                  refine WL.nil ?_
                  refine WE.then_normal ?_
                  refine WC.sub (fr' := [(0, _), (4, _), (5, _), (6, _), (53, _)]) ?_ ⟨rfl, rfl, rfl, rfl, rfl, trivial⟩
                  refine WC.cond_t rfl ?_
                  refine WC.seq ?_
                  have hk : okp (byteAt s i) = true := by unfold okp; rw [← hc5_2]; apply decide_eq_true; omega
                  have he : enc1 (byteAt s i) = [UInt8.ofNat (byteAt s i).toNat] := if_pos hk
                  have hok : (okp (byteAt s i) || decide (16 ≤ byteAt s i)) = true := by rw [hk]; rfl
                  rw [← byte_one s i (by omega)] at he
                  refine WC.region ?_
                  refine WL.q (oq_move rfl) rfl rfl rfl ?_
                  refine WL.q (oq_move rfl) rfl rfl rfl ?_
                  refine WL.q (oq_move rfl) rfl rfl rfl ?_
                  refine WL.q (oq_move rfl) rfl rfl rfl ?_
                  refine WL.q (oq_add rfl rfl (by rw [i64_lo, i64_hi]; (first | omega | (simp only [List.length_cons, List.length_nil, List.length_append, List.length_drop, List.length_take]; omega)))) rfl rfl rfl ?_
                  refine WL.q (oq_slice_s2 Try.underlying9 rfl rfl rfl (by (first | omega | (show _ ∧ _ ∧ _ ≤ ((16 : Nat) : Int); omega)))) rfl rfl rfl ?_
                  refine WL.q (oq_concat rfl rfl (by ((try simp only [List.length_append, List.length_cons, List.length_nil]); first | omega | (have h1 := cut_len s (i : Int) ((i : Int) + 1) (by omega); omega) | (have h1 := congrArg List.length hx1; have h2 := congrArg List.length hx2; simp only [List.length_cons, List.length_nil] at h1 h2; omega)))) rfl rfl rfl ?_
                  refine WL.q (oq_assign rfl) rfl rfl rfl ?_
                  refine WL.nil ?_
                  refine WE.then_normal ?_
                  refine WC.sub (fr' := [(0, _), (4, _), (5, _)]) ?_ ⟨rfl, rfl, rfl, trivial⟩
                  refine WC.exit ?_
                  refine WE.then_exit ?_
                  refine WE.block_same ?_
                  refine WE.then_normal ?_
                  refine WC.sub (fr' := [(0, _), (4, _), (5, _)]) ?_ ⟨rfl, rfl, rfl, trivial⟩
                  refine WC.region ?_
                  refine WL.q (oq_move rfl) rfl rfl rfl ?_
                  refine WL.q (oq_add rfl rfl (by rw [i64_lo, i64_hi]; (first | omega | (simp only [List.length_cons, List.length_nil, List.length_append, List.length_drop, List.length_take]; omega)))) rfl rfl rfl ?_
                  refine WL.q (oq_assign rfl) rfl rfl rfl ?_
                  refine WL.nil ?_
                  refine WE.again (i + 1, l ++ enc1 (byteAt s i)) ?_ ?_ ⟨rfl, (gtv rfl (by first | (dsimp only; rw [he]; done) | (dsimp only; rw [← hc5_2, he, hx1, hx2]; simp))), rfl, trivial⟩ (List.Perm.refl _)
                  · try dsimp only   -- again 26
                    exact ⟨by omega, by have := enc1_len (byteAt s i); simp; omega, by rw [← hf, esc_step s i (by omega), List.append_assoc], by rw [ha, said_step s i (by omega), hok, Bool.true_and]⟩
                  · (try dsimp only); omega
                ·
                  try simp only [Bool.not_eq_eq_eq_not, Bool.not_true, Bool.not_false, decide_eq_true_eq, decide_eq_false_iff_not, Int.not_lt, Int.not_le, ne_eq, Decidable.not_not, ← List.length_eq_zero_iff] at s6_26
                  refine WL.q (oq_move rfl) rfl rfl rfl ?_
                  refine WL.q (oq_eql rfl rfl) rfl rfl rfl ?_
                  refine WL.q (oq_pick_f rfl rfl) rfl rfl rfl ?_
                  refine WL.q (oq_move rfl) rfl rfl rfl ?_
                  refine WL.split 46 rfl (fun s6_30 => ?_) (fun s6_30 => ?_)
                  ·
                    try simp only [Bool.not_eq_eq_eq_not, Bool.not_true, Bool.not_false, decide_eq_true_eq, decide_eq_false_iff_not, Int.not_lt, Int.not_le, ne_eq, Decidable.not_not, ← List.length_eq_zero_iff] at s6_30
                    refine WL.skip rfl rfl rfl ?_
                    refine WL.skip rfl rfl rfl ?_
                    refine WL.q (oq_pick_t rfl rfl) rfl rfl rfl ?_
                    refine WL.q (oq_move rfl) rfl rfl rfl ?_
                    refine WL.skip rfl rfl rfl ?_
                    refine WL.skip rfl rfl rfl ?_
                    refine WL.q (oq_pick_t rfl rfl) rfl rfl rfl ?_
                    refine WL.nil ?_
                    refine WE.then_normal ?_
                    refine WC.sub (fr' := [(0, _), (4, _), (5, _), (6, _), (53, _)]) ?_ ⟨rfl, rfl, rfl, rfl, rfl, trivial⟩
                    refine WC.cond_t rfl ?_
                    refine WC.seq ?_
                    have hk : okp (byteAt s i) = true := by unfold okp; rw [← hc5_2]; apply decide_eq_true; omega
                    have he : enc1 (byteAt s i) = [UInt8.ofNat (byteAt s i).toNat] := if_pos hk
                    have hok : (okp (byteAt s i) || decide (16 ≤ byteAt s i)) = true := by rw [hk]; rfl
                    rw [← byte_one s i (by omega)] at he
                    refine WC.region ?_
                    refine WL.q (oq_move rfl) rfl rfl rfl ?_
                    refine WL.q (oq_move rfl) rfl rfl rfl ?_
                    refine WL.q (oq_move rfl) rfl rfl rfl ?_
                    refine WL.q (oq_move rfl) rfl rfl rfl ?_
                    refine WL.q (oq_add rfl rfl (by rw [i64_lo, i64_hi]; (first | omega | (simp only [List.length_cons, List.length_nil, List.length_append, List.length_drop, List.length_take]; omega)))) rfl rfl rfl ?_
                    refine WL.q (oq_slice_s2 Try.underlying9 rfl rfl rfl (by (first | omega | (show _ ∧ _ ∧ _ ≤ ((16 : Nat) : Int); omega)))) rfl rfl rfl ?_
                    refine WL.q (oq_concat rfl rfl (by ((try simp only [List.length_append, List.length_cons, List.length_nil]); first | omega | (have h1 := cut_len s (i : Int) ((i : Int) + 1) (by omega); omega) | (have h1 := congrArg List.length hx1; have h2 := congrArg List.length hx2; simp only [List.length_cons, List.length_nil] at h1 h2; omega)))) rfl rfl rfl ?_
                    refine WL.q (oq_assign rfl) rfl rfl rfl ?_
                    refine WL.nil ?_
                    refine WE.then_normal ?_
                    refine WC.sub (fr' := [(0, _), (4, _), (5, _)]) ?_ ⟨rfl, rfl, rfl, trivial⟩
                    refine WC.exit ?_
                    refine WE.then_exit ?_
                    refine WE.block_same ?_
                    refine WE.then_normal ?_
                    refine WC.sub (fr' := [(0, _), (4, _), (5, _)]) ?_ ⟨rfl, rfl, rfl, trivial⟩
                    refine WC.region ?_
                    refine WL.q (oq_move rfl) rfl rfl rfl ?_
                    refine WL.q (oq_add rfl rfl (by rw [i64_lo, i64_hi]; (first | omega | (simp only [List.length_cons, List.length_nil, List.length_append, List.length_drop, List.length_take]; omega)))) rfl rfl rfl ?_
                    refine WL.q (oq_assign rfl) rfl rfl rfl ?_
                    refine WL.nil ?_
                    refine WE.again (i + 1, l ++ enc1 (byteAt s i)) ?_ ?_ ⟨rfl, (gtv rfl (by first | (dsimp only; rw [he]; done) | (dsimp only; rw [← hc5_2, he, hx1, hx2]; simp))), rfl, trivial⟩ (List.Perm.refl _)
                    · try dsimp only   -- again 27
                      exact ⟨by omega, by have := enc1_len (byteAt s i); simp; omega, by rw [← hf, esc_step s i (by omega), List.append_assoc], by rw [ha, said_step s i (by omega), hok, Bool.true_and]⟩
                    · (try dsimp only); omega
                  ·
                    try simp only [Bool.not_eq_eq_eq_not, Bool.not_true, Bool.not_false, decide_eq_true_eq, decide_eq_false_iff_not, Int.not_lt, Int.not_le, ne_eq, Decidable.not_not, ← List.length_eq_zero_iff] at s6_30
                    refine WL.q (oq_move rfl) rfl rfl rfl ?_
                    refine WL.q (oq_eql rfl rfl) rfl rfl rfl ?_
                    refine WL.q (oq_pick_f rfl rfl) rfl rfl rfl ?_
                    refine WL.q (oq_move rfl) rfl rfl rfl ?_
                    refine WL.split 50 rfl (fun s6_34 => ?_) (fun s6_34 => ?_)
                    ·
                      try simp only [Bool.not_eq_eq_eq_not, Bool.not_true, Bool.not_false, decide_eq_true_eq, decide_eq_false_iff_not, Int.not_lt, Int.not_le, ne_eq, Decidable.not_not, ← List.length_eq_zero_iff] at s6_34
                      refine WL.skip rfl rfl rfl ?_
                      refine WL.skip rfl rfl rfl ?_
                      refine WL.q (oq_pick_t rfl rfl) rfl rfl rfl ?_
                      refine WL.nil ?_
                      refine WE.then_normal ?_
                      refine WC.sub (fr' := [(0, _), (4, _), (5, _), (6, _), (53, _)]) ?_ ⟨rfl, rfl, rfl, rfl, rfl, trivial⟩
                      refine WC.cond_t rfl ?_
                      refine WC.seq ?_
                      have hk : okp (byteAt s i) = true := by unfold okp; rw [← hc5_2]; apply decide_eq_true; omega
                      have he : enc1 (byteAt s i) = [UInt8.ofNat (byteAt s i).toNat] := if_pos hk
                      have hok : (okp (byteAt s i) || decide (16 ≤ byteAt s i)) = true := by rw [hk]; rfl
                      rw [← byte_one s i (by omega)] at he
                      refine WC.region ?_
                      refine WL.q (oq_move rfl) rfl rfl rfl ?_
                      refine WL.q (oq_move rfl) rfl rfl rfl ?_
                      refine WL.q (oq_move rfl) rfl rfl rfl ?_
                      refine WL.q (oq_move rfl) rfl rfl rfl ?_
                      refine WL.q (oq_add rfl rfl (by rw [i64_lo, i64_hi]; (first | omega | (simp only [List.length_cons, List.length_nil, List.length_append, List.length_drop, List.length_take]; omega)))) rfl rfl rfl ?_
                      refine WL.q (oq_slice_s2 Try.underlying9 rfl rfl rfl (by (first | omega | (show _ ∧ _ ∧ _ ≤ ((16 : Nat) : Int); omega)))) rfl rfl rfl ?_
                      refine WL.q (oq_concat rfl rfl (by ((try simp only [List.length_append, List.length_cons, List.length_nil]); first | omega | (have h1 := cut_len s (i : Int) ((i : Int) + 1) (by omega); omega) | (have h1 := congrArg List.length hx1; have h2 := congrArg List.length hx2; simp only [List.length_cons, List.length_nil] at h1 h2; omega)))) rfl rfl rfl ?_
                      refine WL.q (oq_assign rfl) rfl rfl rfl ?_
                      refine WL.nil ?_
                      refine WE.then_normal ?_
                      refine WC.sub (fr' := [(0, _), (4, _), (5, _)]) ?_ ⟨rfl, rfl, rfl, trivial⟩
                      refine WC.exit ?_
                      refine WE.then_exit ?_
                      refine WE.block_same ?_
                      refine WE.then_normal ?_
                      refine WC.sub (fr' := [(0, _), (4, _), (5, _)]) ?_ ⟨rfl, rfl, rfl, trivial⟩
                      refine WC.region ?_
                      refine WL.q (oq_move rfl) rfl rfl rfl ?_
                      refine WL.q (oq_add rfl rfl (by rw [i64_lo, i64_hi]; (first | omega | (simp only [List.length_cons, List.length_nil, List.length_append, List.length_drop, List.length_take]; omega)))) rfl rfl rfl ?_
                      refine WL.q (oq_assign rfl) rfl rfl rfl ?_
                      refine WL.nil ?_
                      refine WE.again (i + 1, l ++ enc1 (byteAt s i)) ?_ ?_ ⟨rfl, (gtv rfl (by first | (dsimp only; rw [he]; done) | (dsimp only; rw [← hc5_2, he, hx1, hx2]; simp))), rfl, trivial⟩ (List.Perm.refl _)
                      · try dsimp only   -- again 28
                        exact ⟨by omega, by have := enc1_len (byteAt s i); simp; omega, by rw [← hf, esc_step s i (by omega), List.append_assoc], by rw [ha, said_step s i (by omega), hok, Bool.true_and]⟩
                      · (try dsimp only); omega
                    ·
                      try simp only [Bool.not_eq_eq_eq_not, Bool.not_true, Bool.not_false, decide_eq_true_eq, decide_eq_false_iff_not, Int.not_lt, Int.not_le, ne_eq, Decidable.not_not, ← List.length_eq_zero_iff] at s6_34
                      refine WL.q (oq_move rfl) rfl rfl rfl ?_
                      refine WL.q (oq_eql rfl rfl) rfl rfl rfl ?_
                      refine WL.q (oq_pick_f rfl rfl) rfl rfl rfl ?_
                      refine WL.nil ?_
                      refine WE.then_normal ?_
                      refine WC.sub (fr' := [(0, _), (4, _), (5, _), (6, _), (53, _)]) ?_ ⟨rfl, rfl, rfl, rfl, rfl, trivial⟩
                      refine WC.cond rfl (fun q6 => ?_) (fun q6 => ?_)
                      ·
                        try simp only [Bool.not_eq_eq_eq_not, Bool.not_true, Bool.not_false, decide_eq_true_eq, decide_eq_false_iff_not, Int.not_lt, Int.not_le, ne_eq, Decidable.not_not, ← List.length_eq_zero_iff] at q6
                        refine WC.seq ?_
                        have hk : okp (byteAt s i) = true := by unfold okp; rw [← hc5_2]; apply decide_eq_true; omega
                        have he : enc1 (byteAt s i) = [UInt8.ofNat (byteAt s i).toNat] := if_pos hk
                        have hok : (okp (byteAt s i) || decide (16 ≤ byteAt s i)) = true := by rw [hk]; rfl
                        rw [← byte_one s i (by omega)] at he
                        refine WC.region ?_
                        refine WL.q (oq_move rfl) rfl rfl rfl ?_
                        refine WL.q (oq_move rfl) rfl rfl rfl ?_
                        refine WL.q (oq_move rfl) rfl rfl rfl ?_
                        refine WL.q (oq_move rfl) rfl rfl rfl ?_
                        refine WL.q (oq_add rfl rfl (by rw [i64_lo, i64_hi]; (first | omega | (simp only [List.length_cons, List.length_nil, List.length_append, List.length_drop, List.length_take]; omega)))) rfl rfl rfl ?_
                        refine WL.q (oq_slice_s2 Try.underlying9 rfl rfl rfl (by (first | omega | (show _ ∧ _ ∧ _ ≤ ((16 : Nat) : Int); omega)))) rfl rfl rfl ?_
                        refine WL.q (oq_concat rfl rfl (by ((try simp only [List.length_append, List.length_cons, List.length_nil]); first | omega | (have h1 := cut_len s (i : Int) ((i : Int) + 1) (by omega); omega) | (have h1 := congrArg List.length hx1; have h2 := congrArg List.length hx2; simp only [List.length_cons, List.length_nil] at h1 h2; omega)))) rfl rfl rfl ?_
                        refine WL.q (oq_assign rfl) rfl rfl rfl ?_
                        refine WL.nil ?_
                        refine WE.then_normal ?_
                        refine WC.sub (fr' := [(0, _), (4, _), (5, _)]) ?_ ⟨rfl, rfl, rfl, trivial⟩
                        refine WC.exit ?_
                        refine WE.then_exit ?_
                        refine WE.block_same ?_
                        refine WE.then_normal ?_
                        refine WC.sub (fr' := [(0, _), (4, _), (5, _)]) ?_ ⟨rfl, rfl, rfl, trivial⟩
                        refine WC.region ?_
                        refine WL.q (oq_move rfl) rfl rfl rfl ?_
                        refine WL.q (oq_add rfl rfl (by rw [i64_lo, i64_hi]; (first | omega | (simp only [List.length_cons, List.length_nil, List.length_append, List.length_drop, List.length_take]; omega)))) rfl rfl rfl ?_
                        refine WL.q (oq_assign rfl) rfl rfl rfl ?_
                        refine WL.nil ?_
                        refine WE.again (i + 1, l ++ enc1 (byteAt s i)) ?_ ?_ ⟨rfl, (gtv rfl (by first | (dsimp only; rw [he]; done) | (dsimp only; rw [← hc5_2, he, hx1, hx2]; simp))), rfl, trivial⟩ (List.Perm.refl _)
                        · try dsimp only   -- again 29
                          exact ⟨by omega, by have := enc1_len (byteAt s i); simp; omega, by rw [← hf, esc_step s i (by omega), List.append_assoc], by rw [ha, said_step s i (by omega), hok, Bool.true_and]⟩
                        · (try dsimp only); omega
                      ·
                        try simp only [Bool.not_eq_eq_eq_not, Bool.not_true, Bool.not_false, decide_eq_true_eq, decide_eq_false_iff_not, Int.not_lt, Int.not_le, ne_eq, Decidable.not_not, ← List.length_eq_zero_iff] at q6
                        refine WC.skip ?_
                        refine WE.meet () ?_ ⟨rfl, rfl, rfl, rfl, trivial⟩ (List.Perm.refl _)
                        try dsimp only
                        unfold okp; rw [← hc5_2]; apply decide_eq_false; omega   -- meet 5
          ·
            try simp only [Bool.not_eq_eq_eq_not, Bool.not_true, Bool.not_false, decide_eq_true_eq, decide_eq_false_iff_not, Int.not_lt, Int.not_le, ne_eq, Decidable.not_not, ← List.length_eq_zero_iff] at s6_9
            refine WL.skip rfl rfl rfl ?_
            refine WL.skip rfl rfl rfl ?_
            refine WL.q (oq_pick_f rfl rfl) rfl rfl rfl ?_
            refine WL.q (oq_pick_f rfl rfl) rfl rfl rfl ?_
            refine WL.q (oq_move rfl) rfl rfl rfl ?_
            refine WL.q (oq_move rfl) rfl rfl rfl ?_
            refine WL.q (oq_geq rfl rfl) rfl rfl rfl ?_
            refine WL.q (oq_move rfl) rfl rfl rfl ?_
            refine WL.split 33 rfl (fun s6_17 => ?_) (fun s6_17 => ?_)
            ·
              try simp only [Bool.not_eq_eq_eq_not, Bool.not_true, Bool.not_false, decide_eq_true_eq, decide_eq_false_iff_not, Int.not_lt, Int.not_le, ne_eq, Decidable.not_not, ← List.length_eq_zero_iff] at s6_17
              refine WL.q (oq_move rfl) rfl rfl rfl ?_
              refine WL.q (oq_leq rfl rfl) rfl rfl rfl ?_
              refine WL.q (oq_pick_t rfl rfl) rfl rfl rfl ?_
              refine WL.q (oq_pick_f rfl rfl) rfl rfl rfl ?_
              refine WL.q (oq_move rfl) rfl rfl rfl ?_
              refine WL.split 38 rfl (fun s6_22 => ?_) (fun s6_22 => ?_)
              ·
                try simp only [Bool.not_eq_eq_eq_not, Bool.not_true, Bool.not_false, decide_eq_true_eq, decide_eq_false_iff_not, Int.not_lt, Int.not_le, ne_eq, Decidable.not_not, ← List.length_eq_zero_iff] at s6_22
                refine WL.skip rfl rfl rfl ?_
                refine WL.skip rfl rfl rfl ?_
                refine WL.q (oq_pick_t rfl rfl) rfl rfl rfl ?_
                refine WL.q (oq_move rfl) rfl rfl rfl ?_
                refine WL.skip rfl rfl rfl ?_
                refine WL.skip rfl rfl rfl ?_
                refine WL.q (oq_pick_t rfl rfl) rfl rfl rfl ?_
                refine WL.q (oq_move rfl) rfl rfl rfl ?_
                refine WL.skip rfl rfl rfl ?_
                refine WL.skip rfl rfl rfl ?_
                refine WL.q (oq_pick_t rfl rfl) rfl rfl rfl ?_
                refine WL.q (oq_move rfl) rfl rfl rfl ?_
                refine WL.skip rfl rfl rfl ?_
                refine WL.skip rfl rfl rfl ?_
                refine WL.q (oq_pick_t rfl rfl) rfl rfl rfl ?_
                refine WL.nil ?_
                refine WE.then_normal ?_
                refine WC.sub (fr' := [(0, _), (4, _), (5, _), (6, _), (53, _)]) ?_ ⟨rfl, rfl, rfl, rfl, rfl, trivial⟩
                refine WC.cond_t rfl ?_
                refine WC.seq ?_
                have hk : okp (byteAt s i) = true := by unfold okp; rw [← hc5_2]; apply decide_eq_true; omega
                have he : enc1 (byteAt s i) = [UInt8.ofNat (byteAt s i).toNat] := if_pos hk
                have hok : (okp (byteAt s i) || decide (16 ≤ byteAt s i)) = true := by rw [hk]; rfl
                rw [← byte_one s i (by omega)] at he
                refine WC.region ?_
                refine WL.q (oq_move rfl) rfl rfl rfl ?_
                refine WL.q (oq_move rfl) rfl rfl rfl ?_
                refine WL.q (oq_move rfl) rfl rfl rfl ?_
                refine WL.q (oq_move rfl) rfl rfl rfl ?_
                refine WL.q (oq_add rfl rfl (by rw [i64_lo, i64_hi]; (first | omega | (simp only [List.length_cons, List.length_nil, List.length_append, List.length_drop, List.length_take]; omega)))) rfl rfl rfl ?_
                refine WL.q (oq_slice_s2 Try.underlying9 rfl rfl rfl (by (first | omega | (show _ ∧ _ ∧ _ ≤ ((16 : Nat) : Int); omega)))) rfl rfl rfl ?_
                refine WL.q (oq_concat rfl rfl (by ((try simp only [List.length_append, List.length_cons, List.length_nil]); first | omega | (have h1 := cut_len s (i : Int) ((i : Int) + 1) (by omega); omega) | (have h1 := congrArg List.length hx1; have h2 := congrArg List.length hx2; simp only [List.length_cons, List.length_nil] at h1 h2; omega)))) rfl rfl rfl ?_
                refine WL.q (oq_assign rfl) rfl rfl rfl ?_
                refine WL.nil ?_
                refine WE.then_normal ?_
                refine WC.sub (fr' := [(0, _), (4, _), (5, _)]) ?_ ⟨rfl, rfl, rfl, trivial⟩
                refine WC.exit ?_
                refine WE.then_exit ?_
                refine WE.block_same ?_
                refine WE.then_normal ?_
                refine WC.sub (fr' := [(0, _), (4, _), (5, _)]) ?_ ⟨rfl, rfl, rfl, trivial⟩
                refine WC.region ?_
                refine WL.q (oq_move rfl) rfl rfl rfl ?_
                refine WL.q (oq_add rfl rfl (by rw [i64_lo, i64_hi]; (first | omega | (simp only [List.length_cons, List.length_nil, List.length_append, List.length_drop, List.length_take]; omega)))) rfl rfl rfl ?_
                refine WL.q (oq_assign rfl) rfl rfl rfl ?_
                refine WL.nil ?_
                refine WE.again (i + 1, l ++ enc1 (byteAt s i)) ?_ ?_ ⟨rfl, (gtv rfl (by first | (dsimp only; rw [he]; done) | (dsimp only; rw [← hc5_2, he, hx1, hx2]; simp))), rfl, trivial⟩ (List.Perm.refl _)
                · try dsimp only   -- again 30
                  exact ⟨by omega, by have := enc1_len (byteAt s i); simp; omega, by rw [← hf, esc_step s i (by omega), List.append_assoc], by rw [ha, said_step s i (by omega), hok, Bool.true_and]⟩
                · (try dsimp only); omega
              ·
                try simp only [Bool.not_eq_eq_eq_not, Bool.not_true, Bool.not_false, decide_eq_true_eq, decide_eq_false_iff_not, Int.not_lt, Int.not_le, ne_eq, Decidable.not_not, ← List.length_eq_zero_iff] at s6_22
                refine WL.q (oq_move rfl) rfl rfl rfl ?_
                refine WL.q (oq_eql rfl rfl) rfl rfl rfl ?_
                refine WL.q (oq_pick_f rfl rfl) rfl rfl rfl ?_
                refine WL.q (oq_move rfl) rfl rfl rfl ?_
                refine WL.split 42 rfl (fun s6_26 => ?_) (fun s6_26 => ?_)
                ·
                  try simp only [Bool.not_eq_eq_eq_not, Bool.not_true, Bool.not_false, decide_eq_true_eq, decide_eq_false_iff_not, Int.not_lt, Int.not_le, ne_eq, Decidable.not_not, ← List.length_eq_zero_iff] at s6_26
                  refine WL.skip rfl rfl rfl ?_
                  refine WL.skip rfl rfl rfl ?_
                  refine WL.q (oq_pick_t rfl rfl) rfl rfl rfl ?_
                  refine WL.q (oq_move rfl) rfl rfl rfl ?_
                  refine WL.skip rfl rfl rfl ?_
                  refine WL.skip rfl rfl rfl ?_
                  refine WL.q (oq_pick_t rfl rfl) rfl rfl rfl ?_
                  refine WL.q (oq_move rfl) rfl rfl rfl ?_
                  refine WL.skip rfl rfl rfl ?_
                  refine WL.skip rfl rfl rfl ?_
                  refine WL.q (oq_pick_t rfl rfl) rfl rfl rfl ?_
                  refine WL.nil ?_
                  refine WE.then_normal ?_
                  refine WC.sub (fr' := [(0, _), (4, _), (5, _), (6, _), (53, _)]) ?_ ⟨rfl, rfl, rfl, rfl, rfl, trivial⟩
                  refine WC.cond_t rfl ?_
                  refine WC.seq ?_
                  have hk : okp (byteAt s i) = true := by unfold okp; rw [← hc5_2]; apply decide_eq_true; omega
                  have he : enc1 (byteAt s i) = [UInt8.ofNat (byteAt s i).toNat] := if_pos hk
                  have hok : (okp (byteAt s i) || decide (16 ≤ byteAt s i)) = true := by rw [hk]; rfl
                  rw [← byte_one s i (by omega)] at he
                  refine WC.region ?_
                  refine WL.q (oq_move rfl) rfl rfl rfl ?_
                  refine WL.q (oq_move rfl) rfl rfl rfl ?_
                  refine WL.q (oq_move rfl) rfl rfl rfl ?_
                  refine WL.q (oq_move rfl) rfl rfl rfl ?_
                  refine WL.q (oq_add rfl rfl (by rw [i64_lo, i64_hi]; (first | omega | (simp only [List.length_cons, List.length_nil, List.length_append, List.length_drop, List.length_take]; omega)))) rfl rfl rfl ?_
                  refine WL.q (oq_slice_s2 Try.underlying9 rfl rfl rfl (by (first | omega | (show _ ∧ _ ∧ _ ≤ ((16 : Nat) : Int); omega)))) rfl rfl rfl ?_
                  refine WL.q (oq_concat rfl rfl (by ((try simp only [List.length_append, List.length_cons, List.length_nil]); first | omega | (have h1 := cut_len s (i : Int) ((i : Int) + 1) (by omega); omega) | (have h1 := congrArg List.length hx1; have h2 := congrArg List.length hx2; simp only [List.length_cons, List.length_nil] at h1 h2; omega)))) rfl rfl rfl ?_
                  refine WL.q (oq_assign rfl) rfl rfl rfl ?_
                  refine WL.nil ?_
                  refine WE.then_normal ?_
                  refine WC.sub (fr' := [(0, _), (4, _), (5, _)]) ?_ ⟨rfl, rfl, rfl, trivial⟩
                  refine WC.exit ?_
                  refine WE.then_exit ?_
                  refine WE.block_same ?_
                  refine WE.then_normal ?_
                  refine WC.sub (fr' := [(0, _), (4, _), (5, _)]) ?_ ⟨rfl, rfl, rfl, trivial⟩
                  refine WC.region ?_
                  refine WL.q (oq_move rfl) rfl rfl rfl ?_
                  refine WL.q (oq_add rfl rfl (by rw [i64_lo, i64_hi]; (first | omega | (simp only [List.length_cons, List.length_nil, List.length_append, List.length_drop, List.length_take]; omega)))) rfl rfl rfl ?_
                  refine WL.q (oq_assign rfl) rfl rfl rfl ?_
                  refine WL.nil ?_
                  refine WE.again (i + 1, l ++ enc1 (byteAt s i)) ?_ ?_ ⟨rfl, (gtv rfl (by first | (dsimp only; rw [he]; done) | (dsimp only; rw [← hc5_2, he, hx1, hx2]; simp))), rfl, trivial⟩ (List.Perm.refl _)
                  · try dsimp only   -- again 31
                    exact ⟨by omega, by have := enc1_len (byteAt s i); simp; omega, by rw [← hf, esc_step s i (by omega), List.append_assoc], by rw [ha, said_step s i (by omega), hok, Bool.true_and]⟩
                  · (try dsimp only); omega
                ·
                  try simp only [Bool.not_eq_eq_eq_not, Bool.not_true, Bool.not_false, decide_eq_true_eq, decide_eq_false_iff_not, Int.not_lt, Int.not_le, ne_eq, Decidable.not_not, ← List.length_eq_zero_iff] at s6_26
                  refine WL.q (oq_move rfl) rfl rfl rfl ?_
                  refine WL.q (oq_eql rfl rfl) rfl rfl rfl ?_
                  refine WL.q (oq_pick_f rfl rfl) rfl rfl rfl ?_
                  refine WL.q (oq_move rfl) rfl rfl rfl ?_
                  refine WL.split 46 rfl (fun s6_30 => ?_) (fun s6_30 => ?_)
                  ·
                    try simp only [Bool.not_eq_eq_eq_not, Bool.not_true, Bool.not_false, decide_eq_true_eq, decide_eq_false_iff_not, Int.not_lt, Int.not_le, ne_eq, Decidable.not_not, ← List.length_eq_zero_iff] at s6_30
                    refine WL.skip rfl rfl rfl ?_
                    refine WL.skip rfl rfl rfl ?_
                    refine WL.q (oq_pick_t rfl rfl) rfl rfl rfl ?_
                    refine WL.q (oq_move rfl) rfl rfl rfl ?_
                    refine WL.skip rfl rfl rfl ?_
                    refine WL.skip rfl rfl rfl ?_
                    refine WL.q (oq_pick_t rfl rfl) rfl rfl rfl ?_
                    refine WL.nil ?_
                    refine WE.then_normal ?_
                    refine WC.sub (fr' := [(0, _), (4, _), (5, _), (6, _), (53, _)]) ?_ ⟨rfl, rfl, rfl, rfl, rfl, trivial⟩
                    refine WC.cond_t rfl ?_
                    refine WC.seq ?_
                    have hk : okp (byteAt s i) = true := by unfold okp; rw [← hc5_2]; apply decide_eq_true; omega
                    have he : enc1 (byteAt s i) = [UInt8.ofNat (byteAt s i).toNat] := if_pos hk
                    have hok : (okp (byteAt s i) || decide (16 ≤ byteAt s i)) = true := by rw [hk]; rfl
                    rw [← byte_one s i (by omega)] at he
                    refine WC.region ?_
                    refine WL.q (oq_move rfl) rfl rfl rfl ?_
                    refine WL.q (oq_move rfl) rfl rfl rfl ?_
                    refine WL.q (oq_move rfl) rfl rfl rfl ?_
                    refine WL.q (oq_move rfl) rfl rfl rfl ?_
                    refine WL.q (oq_add rfl rfl (by rw [i64_lo, i64_hi]; (first | omega | (simp only [List.length_cons, List.length_nil, List.length_append, List.length_drop, List.length_take]; omega)))) rfl rfl rfl ?_
                    refine WL.q (oq_slice_s2 Try.underlying9 rfl rfl rfl (by (first | omega | (show _ ∧ _ ∧ _ ≤ ((16 : Nat) : Int); omega)))) rfl rfl rfl ?_
                    refine WL.q (oq_concat rfl rfl (by ((try simp only [List.length_append, List.length_cons, List.length_nil]); first | omega | (have h1 := cut_len s (i : Int) ((i : Int) + 1) (by omega); omega) | (have h1 := congrArg List.length hx1; have h2 := congrArg List.length hx2; simp only [List.length_cons, List.length_nil] at h1 h2; omega)))) rfl rfl rfl ?_
                    refine WL.q (oq_assign rfl) rfl rfl rfl ?_
                    refine WL.nil ?_
                    refine WE.then_normal ?_
                    refine WC.sub (fr' := [(0, _), (4, _), (5, _)]) ?_ ⟨rfl, rfl, rfl, trivial⟩
                    refine WC.exit ?_
                    refine WE.then_exit ?_
                    refine WE.block_same ?_
                    refine WE.then_normal ?_
                    refine WC.sub (fr' := [(0, _), (4, _), (5, _)]) ?_ ⟨rfl, rfl, rfl, trivial⟩
                    refine WC.region ?_
                    refine WL.q (oq_move rfl) rfl rfl rfl ?_
                    refine WL.q (oq_add rfl rfl (by rw [i64_lo, i64_hi]; (first | omega | (simp only [List.length_cons, List.length_nil, List.length_append, List.length_drop, List.length_take]; omega)))) rfl rfl rfl ?_
                    refine WL.q (oq_assign rfl) rfl rfl rfl ?_
                    refine WL.nil ?_
                    refine WE.again (i + 1, l ++ enc1 (byteAt s i)) ?_ ?_ ⟨rfl, (gtv rfl (by first | (dsimp only; rw [he]; done) | (dsimp only; rw [← hc5_2, he, hx1, hx2]; simp))), rfl, trivial⟩ (List.Perm.refl _)
                    · try dsimp only   -- again 32
                      exact ⟨by omega, by have := enc1_len (byteAt s i); simp; omega, by rw [← hf, esc_step s i (by omega), List.append_assoc], by rw [ha, said_step s i (by omega), hok, Bool.true_and]⟩
                    · (try dsimp only); omega
                  ·
                    try simp only [Bool.not_eq_eq_eq_not, Bool.not_true, Bool.not_false, decide_eq_true_eq, decide_eq_false_iff_not, Int.not_lt, Int.not_le, ne_eq, Decidable.not_not, ← List.length_eq_zero_iff] at s6_30
                    refine WL.q (oq_move rfl) rfl rfl rfl ?_
                    refine WL.q (oq_eql rfl rfl) rfl rfl rfl ?_
                    refine WL.q (oq_pick_f rfl rfl) rfl rfl rfl ?_
                    refine WL.q (oq_move rfl) rfl rfl rfl ?_
                    refine WL.split 50 rfl (fun s6_34 => ?_) (fun s6_34 => ?_)
                    ·
                      try simp only [Bool.not_eq_eq_eq_not, Bool.not_true, Bool.not_false, decide_eq_true_eq, decide_eq_false_iff_not, Int.not_lt, Int.not_le, ne_eq, Decidable.not_not, ← List.length_eq_zero_iff] at s6_34
                      refine WL.skip rfl rfl rfl ?_
                      refine WL.skip rfl rfl rfl ?_
                      refine WL.q (oq_pick_t rfl rfl) rfl rfl rfl ?_
                      refine WL.nil ?_
                      refine WE.then_normal ?_
                      refine WC.sub (fr' := [(0, _), (4, _), (5, _), (6, _), (53, _)]) ?_ ⟨rfl, rfl, rfl, rfl, rfl, trivial⟩
                      refine WC.cond_t rfl ?_
                      refine WC.seq ?_
                      have hk : okp (byteAt s i) = true := by unfold okp; rw [← hc5_2]; apply decide_eq_true; omega
                      have he : enc1 (byteAt s i) = [UInt8.ofNat (byteAt s i).toNat] := if_pos hk
                      have hok : (okp (byteAt s i) || decide (16 ≤ byteAt s i)) = true := by rw [hk]; rfl
                      rw [← byte_one s i (by omega)] at he
                      refine WC.region ?_
                      refine WL.q (oq_move rfl) rfl rfl rfl ?_
                      refine WL.q (oq_move rfl) rfl rfl rfl ?_
                      refine WL.q (oq_move rfl) rfl rfl rfl ?_
                      refine WL.q (oq_move rfl) rfl rfl rfl ?_
                      refine WL.q (oq_add rfl rfl (by rw [i64_lo, i64_hi]; (first | omega | (simp only [List.length_cons, List.length_nil, List.length_append, List.length_drop, List.length_take]; omega)))) rfl rfl rfl ?_
                      refine WL.q (oq_slice_s2 Try.underlying9 rfl rfl rfl (by (first | omega | (show _ ∧ _ ∧ _ ≤ ((16 : Nat) : Int); omega)))) rfl rfl rfl ?_
                      refine WL.q (oq_concat rfl rfl (by ((try simp only [List.length_append, List.length_cons, List.length_nil]); first | omega | (have h1 := cut_len s (i : Int) ((i : Int) + 1) (by omega); omega) | (have h1 := congrArg List.length hx1; have h2 := congrArg List.length hx2; simp only [List.length_cons, List.length_nil] at h1 h2; omega)))) rfl rfl rfl ?_
                      refine WL.q (oq_assign rfl) rfl rfl rfl ?_
                      refine WL.nil ?_
                      refine WE.then_normal ?_
                      refine WC.sub (fr' := [(0, _), (4, _), (5, _)]) ?_ ⟨rfl, rfl, rfl, trivial⟩
                      refine WC.exit ?_
                      refine WE.then_exit ?_
                      refine WE.block_same ?_
                      refine WE.then_normal ?_
                      refine WC.sub (fr' := [(0, _), (4, _), (5, _)]) ?_ ⟨rfl, rfl, rfl, trivial⟩
                      refine WC.region ?_
                      refine WL.q (oq_move rfl) rfl rfl rfl ?_
                      refine WL.q (oq_add rfl rfl (by rw [i64_lo, i64_hi]; (first | omega | (simp only [List.length_cons, List.length_nil, List.length_append, List.length_drop, List.length_take]; omega)))) rfl rfl rfl ?_
                      refine WL.q (oq_assign rfl) rfl rfl rfl ?_
                      refine WL.nil ?_
                      refine WE.again (i + 1, l ++ enc1 (byteAt s i)) ?_ ?_ ⟨rfl, (gtv rfl (by first | (dsimp only; rw [he]; done) | (dsimp only; rw [← hc5_2, he, hx1, hx2]; simp))), rfl, trivial⟩ (List.Perm.refl _)
                      · try dsimp only   -- again 33
                        exact ⟨by omega, by have := enc1_len (byteAt s i); simp; omega, by rw [← hf, esc_step s i (by omega), List.append_assoc], by rw [ha, said_step s i (by omega), hok, Bool.true_and]⟩
                      · (try dsimp only); omega
                    ·
                      try simp only [Bool.not_eq_eq_eq_not, Bool.not_true, Bool.not_false, decide_eq_true_eq, decide_eq_false_iff_not, Int.not_lt, Int.not_le, ne_eq, Decidable.not_not, ← List.length_eq_zero_iff] at s6_34
                      refine WL.q (oq_move rfl) rfl rfl rfl ?_
                      refine WL.q (oq_eql rfl rfl) rfl rfl rfl ?_
                      refine WL.q (oq_pick_f rfl rfl) rfl rfl rfl ?_
                      refine WL.nil ?_
                      refine WE.then_normal ?_
                      refine WC.sub (fr' := [(0, _), (4, _), (5, _), (6, _), (53, _)]) ?_ ⟨rfl, rfl, rfl, rfl, rfl, trivial⟩
                      refine WC.cond rfl (fun q6 => ?_) (fun q6 => ?_)
                      ·
                        try simp only [Bool.not_eq_eq_eq_not, Bool.not_true, Bool.not_false, decide_eq_true_eq, decide_eq_false_iff_not, Int.not_lt, Int.not_le, ne_eq, Decidable.not_not, ← List.length_eq_zero_iff] at q6
                        refine WC.seq ?_
                        have hk : okp (byteAt s i) = true := by unfold okp; rw [← hc5_2]; apply decide_eq_true; omega
                        have he : enc1 (byteAt s i) = [UInt8.ofNat (byteAt s i).toNat] := if_pos hk
                        have hok : (okp (byteAt s i) || decide (16 ≤ byteAt s i)) = true := by rw [hk]; rfl
                        rw [← byte_one s i (by omega)] at he
                        refine WC.region ?_
                        refine WL.q (oq_move rfl) rfl rfl rfl ?_
                        refine WL.q (oq_move rfl) rfl rfl rfl ?_
                        refine WL.q (oq_move rfl) rfl rfl rfl ?_
                        refine WL.q (oq_move rfl) rfl rfl rfl ?_
                        refine WL.q (oq_add rfl rfl (by rw [i64_lo, i64_hi]; (first | omega | (simp only [List.length_cons, List.length_nil, List.length_append, List.length_drop, List.length_take]; omega)))) rfl rfl rfl ?_
                        refine WL.q (oq_slice_s2 Try.underlying9 rfl rfl rfl (by (first | omega | (show _ ∧ _ ∧ _ ≤ ((16 : Nat) : Int); omega)))) rfl rfl rfl ?_
                        refine WL.q (oq_concat rfl rfl (by ((try simp only [List.length_append, List.length_cons, List.length_nil]); first | omega | (have h1 := cut_len s (i : Int) ((i : Int) + 1) (by omega); omega) | (have h1 := congrArg List.length hx1; have h2 := congrArg List.length hx2; simp only [List.length_cons, List.length_nil] at h1 h2; omega)))) rfl rfl rfl ?_
                        refine WL.q (oq_assign rfl) rfl rfl rfl ?_
                        refine WL.nil ?_
                        refine WE.then_normal ?_
                        refine WC.sub (fr' := [(0, _), (4, _), (5, _)]) ?_ ⟨rfl, rfl, rfl, trivial⟩
                        refine WC.exit ?_
                        refine WE.then_exit ?_
                        refine WE.block_same ?_
                        refine WE.then_normal ?_
                        refine WC.sub (fr' := [(0, _), (4, _), (5, _)]) ?_ ⟨rfl, rfl, rfl, trivial⟩
                        refine WC.region ?_
                        refine WL.q (oq_move rfl) rfl rfl rfl ?_
                        refine WL.q (oq_add rfl rfl (by rw [i64_lo, i64_hi]; (first | omega | (simp only [List.length_cons, List.length_nil, List.length_append, List.length_drop, List.length_take]; omega)))) rfl rfl rfl ?_
                        refine WL.q (oq_assign rfl) rfl rfl rfl ?_
                        refine WL.nil ?_
                        refine WE.again (i + 1, l ++ enc1 (byteAt s i)) ?_ ?_ ⟨rfl, (gtv rfl (by first | (dsimp only; rw [he]; done) | (dsimp only; rw [← hc5_2, he, hx1, hx2]; simp))), rfl, trivial⟩ (List.Perm.refl _)
                        · try dsimp only   -- again 34
                          exact ⟨by omega, by have := enc1_len (byteAt s i); simp; omega, by rw [← hf, esc_step s i (by omega), List.append_assoc], by rw [ha, said_step s i (by omega), hok, Bool.true_and]⟩
                        · (try dsimp only); omega
                      ·
                        try simp only [Bool.not_eq_eq_eq_not, Bool.not_true, Bool.not_false, decide_eq_true_eq, decide_eq_false_iff_not, Int.not_lt, Int.not_le, ne_eq, Decidable.not_not, ← List.length_eq_zero_iff] at q6
                        refine WC.skip ?_
                        refine WE.meet () ?_ ⟨rfl, rfl, rfl, rfl, trivial⟩ (List.Perm.refl _)
                        try dsimp only
                        unfold okp; rw [← hc5_2]; apply decide_eq_false; omega   -- meet 6
            ·
              try simp only [Bool.not_eq_eq_eq_not, Bool.not_true, Bool.not_false, decide_eq_true_eq, decide_eq_false_iff_not, Int.not_lt, Int.not_le, ne_eq, Decidable.not_not, ← List.length_eq_zero_iff] at s6_17
              refine WL.skip rfl rfl rfl ?_
              refine WL.skip rfl rfl rfl ?_
              refine WL.q (oq_pick_f rfl rfl) rfl rfl rfl ?_
              refine WL.q (oq_pick_f rfl rfl) rfl rfl rfl ?_
              refine WL.q (oq_move rfl) rfl rfl rfl ?_
              refine WL.q (oq_move rfl) rfl rfl rfl ?_
              refine WL.q (oq_eql rfl rfl) rfl rfl rfl ?_
              refine WL.q (oq_pick_f rfl rfl) rfl rfl rfl ?_
              refine WL.q (oq_move rfl) rfl rfl rfl ?_
              refine WL.split 42 rfl (fun s6_26 => ?_) (fun s6_26 => ?_)
              ·
                try simp only [Bool.not_eq_eq_eq_not, Bool.not_true, Bool.not_false, decide_eq_true_eq, decide_eq_false_iff_not, Int.not_lt, Int.not_le, ne_eq, Decidable.not_not, ← List.length_eq_zero_iff] at s6_26
                refine WL.skip rfl rfl rfl ?_
                refine WL.skip rfl rfl rfl ?_
                refine WL.q (oq_pick_t rfl rfl) rfl rfl rfl ?_
                refine WL.q (oq_move rfl) rfl rfl rfl ?_
                refine WL.skip rfl rfl rfl ?_
                refine WL.skip rfl rfl rfl ?_
                refine WL.q (oq_pick_t rfl rfl) rfl rfl rfl ?_
                refine WL.q (oq_move rfl) rfl rfl rfl ?_
                refine WL.skip rfl rfl rfl ?_
                refine WL.skip rfl rfl rfl ?_
                refine WL.q (oq_pick_t rfl rfl) rfl rfl rfl ?_
                refine WL.nil ?_
                refine WE.then_normal ?_
                refine WC.sub (fr' := [(0, _), (4, _), (5, _), (6, _), (53, _)]) ?_ ⟨rfl, rfl, rfl, rfl, rfl, trivial⟩
                refine WC.cond_t rfl ?_
                refine WC.seq ?_
                have hk : okp (byteAt s i) = true := by unfold okp; rw [← hc5_2]; apply decide_eq_true; omega
                have he : enc1 (byteAt s i) = [UInt8.ofNat (byteAt s i).toNat] := if_pos hk
                have hok : (okp (byteAt s i) || decide (16 ≤ byteAt s i)) = true := by rw [hk]; rfl
                rw [← byte_one s i (by omega)] at he
                refine WC.region ?_
                refine WL.q (oq_move rfl) rfl rfl rfl ?_
                refine WL.q (oq_move rfl) rfl rfl rfl ?_
                refine WL.q (oq_move rfl) rfl rfl rfl ?_
                refine WL.q (oq_move rfl) rfl rfl rfl ?_
                refine WL.q (oq_add rfl rfl (by rw [i64_lo, i64_hi]; (first | omega | (simp only [List.length_cons, List.length_nil, List.length_append, List.length_drop, List.length_take]; omega)))) rfl rfl rfl ?_
                refine WL.q (oq_slice_s2 Try.underlying9 rfl rfl rfl (by (first | omega | (show _ ∧ _ ∧ _ ≤ ((16 : Nat) : Int); omega)))) rfl rfl rfl ?_
                refine WL.q (oq_concat rfl rfl (by ((try simp only [List.length_append, List.length_cons, List.length_nil]); first | omega | (have h1 := cut_len s (i : Int) ((i : Int) + 1) (by omega); omega) | (have h1 := congrArg List.length hx1; have h2 := congrArg List.length hx2; simp only [List.length_cons, List.length_nil] at h1 h2; omega)))) rfl rfl rfl ?_
                refine WL.q (oq_assign rfl) rfl rfl rfl ?_
                refine WL.nil ?_
                refine WE.then_normal ?_
                refine WC.sub (fr' := [(0, _), (4, _), (5, _)]) ?_ ⟨rfl, rfl, rfl, trivial⟩
                refine WC.exit ?_
                refine WE.then_exit ?_
                refine WE.block_same ?_
                refine WE.then_normal ?_
                refine WC.sub (fr' := [(0, _), (4, _), (5, _)]) ?_ ⟨rfl, rfl, rfl, trivial⟩
                refine WC.region ?_
                refine WL.q (oq_move rfl) rfl rfl rfl ?_
                refine WL.q (oq_add rfl rfl (by rw [i64_lo, i64_hi]; (first | omega | (simp only [List.length_cons, List.length_nil, List.length_append, List.length_drop, List.length_take]; omega)))) rfl rfl rfl ?_
                refine WL.q (oq_assign rfl) rfl rfl rfl ?_
                refine WL.nil ?_
                refine WE.again (i + 1, l ++ enc1 (byteAt s i)) ?_ ?_ ⟨rfl, (gtv rfl (by first | (dsimp only; rw [he]; done) | (dsimp only; rw [← hc5_2, he, hx1, hx2]; simp))), rfl, trivial⟩ (List.Perm.refl _)
                · try dsimp only   -- again 35
                  exact ⟨by omega, by have := enc1_len (byteAt s i); simp; omega, by rw [← hf, esc_step s i (by omega), List.append_assoc], by rw [ha, said_step s i (by omega), hok, Bool.true_and]⟩
                · (try dsimp only); omega
              ·
                try simp only [Bool.not_eq_eq_eq_not, Bool.not_true, Bool.not_false, decide_eq_true_eq, decide_eq_false_iff_not, Int.not_lt, Int.not_le, ne_eq, Decidable.not_not, ← List.length_eq_zero_iff] at s6_26
                refine WL.q (oq_move rfl) rfl rfl rfl ?_
                refine WL.q (oq_eql rfl rfl) rfl rfl rfl ?_
                refine WL.q (oq_pick_f rfl rfl) rfl rfl rfl ?_
                refine WL.q (oq_move rfl) rfl rfl rfl ?_
                refine WL.split 46 rfl (fun s6_30 => ?_) (fun s6_30 => ?_)
                ·
                  try simp only [Bool.not_eq_eq_eq_not, Bool.not_true, Bool.not_false, decide_eq_true_eq, decide_eq_false_iff_not, Int.not_lt, Int.not_le, ne_eq, Decidable.not_not, ← List.length_eq_zero_iff] at s6_30
                  refine WL.skip rfl rfl rfl ?_
                  refine WL.skip rfl rfl rfl ?_
                  refine WL.q (oq_pick_t rfl rfl) rfl rfl rfl ?_
                  refine WL.q (oq_move rfl) rfl rfl rfl ?_
                  refine WL.skip rfl rfl rfl ?_
                  refine WL.skip rfl rfl rfl ?_
                  refine WL.q (oq_pick_t rfl rfl) rfl rfl rfl ?_
                  refine WL.nil ?_
                  refine WE.then_normal ?_
                  refine WC.sub (fr' := [(0, _), (4, _), (5, _), (6, _), (53, _)]) ?_ ⟨rfl, rfl, rfl, rfl, rfl, trivial⟩
                  refine WC.cond_t rfl ?_
                  refine WC.seq ?_
                  have hk : okp (byteAt s i) = true := by unfold okp; rw [← hc5_2]; apply decide_eq_true; omega
                  have he : enc1 (byteAt s i) = [UInt8.ofNat (byteAt s i).toNat] := if_pos hk
                  have hok : (okp (byteAt s i) || decide (16 ≤ byteAt s i)) = true := by rw [hk]; rfl
                  rw [← byte_one s i (by omega)] at he
                  refine WC.region ?_
                  refine WL.q (oq_move rfl) rfl rfl rfl ?_
                  refine WL.q (oq_move rfl) rfl rfl rfl ?_
                  refine WL.q (oq_move rfl) rfl rfl rfl ?_
                  refine WL.q (oq_move rfl) rfl rfl rfl ?_
                  refine WL.q (oq_add rfl rfl (by rw [i64_lo, i64_hi]; (first | omega | (simp only [List.length_cons, List.length_nil, List.length_append, List.length_drop, List.length_take]; omega)))) rfl rfl rfl ?_
                  refine WL.q (oq_slice_s2 Try.underlying9 rfl rfl rfl (by (first | omega | (show _ ∧ _ ∧ _ ≤ ((16 : Nat) : Int); omega)))) rfl rfl rfl ?_
                  refine WL.q (oq_concat rfl rfl (by ((try simp only [List.length_append, List.length_cons, List.length_nil]); first | omega | (have h1 := cut_len s (i : Int) ((i : Int) + 1) (by omega); omega) | (have h1 := congrArg List.length hx1; have h2 := congrArg List.length hx2; simp only [List.length_cons, List.length_nil] at h1 h2; omega)))) rfl rfl rfl ?_
                  refine WL.q (oq_assign rfl) rfl rfl rfl ?_
                  refine WL.nil ?_
                  refine WE.then_normal ?_
                  refine WC.sub (fr' := [(0, _), (4, _), (5, _)]) ?_ ⟨rfl, rfl, rfl, trivial⟩
                  refine WC.exit ?_
                  refine WE.then_exit ?_
                  refine WE.block_same ?_
                  refine WE.then_normal ?_
                  refine WC.sub (fr' := [(0, _), (4, _), (5, _)]) ?_ ⟨rfl, rfl, rfl, trivial⟩
                  refine WC.region ?_
                  refine WL.q (oq_move rfl) rfl rfl rfl ?_
                  refine WL.q (oq_add rfl rfl (by rw [i64_lo, i64_hi]; (first | omega | (simp only [List.length_cons, List.length_nil, List.length_append, List.length_drop, List.length_take]; omega)))) rfl rfl rfl ?_
                  refine WL.q (oq_assign rfl) rfl rfl rfl ?_
                  refine WL.nil ?_
                  refine WE.again (i + 1, l ++ enc1 (byteAt s i)) ?_ ?_ ⟨rfl, (gtv rfl (by first | (dsimp only; rw [he]; done) | (dsimp only; rw [← hc5_2, he, hx1, hx2]; simp))), rfl, trivial⟩ (List.Perm.refl _)
                  · try dsimp only   -- again 36
                    exact ⟨by omega, by have := enc1_len (byteAt s i); simp; omega, by rw [← hf, esc_step s i (by omega), List.append_assoc], by rw [ha, said_step s i (by omega), hok, Bool.true_and]⟩
                  · (try dsimp only); omega
                ·
                  try simp only [Bool.not_eq_eq_eq_not, Bool.not_true, Bool.not_false, decide_eq_true_eq, decide_eq_false_iff_not, Int.not_lt, Int.not_le, ne_eq, Decidable.not_not, ← List.length_eq_zero_iff] at s6_30
                  refine WL.q (oq_move rfl) rfl rfl rfl ?_
                  refine WL.q (oq_eql rfl rfl) rfl rfl rfl ?_
                  refine WL.q (oq_pick_f rfl rfl) rfl rfl rfl ?_
                  refine WL.q (oq_move rfl) rfl rfl rfl ?_
                  refine WL.split 50 rfl (fun s6_34 => ?_) (fun s6_34 => ?_)
                  ·
                    try simp only [Bool.not_eq_eq_eq_not, Bool.not_true, Bool.not_false, decide_eq_true_eq, decide_eq_false_iff_not, Int.not_lt, Int.not_le, ne_eq, Decidable.not_not, ← List.length_eq_zero_iff] at s6_34
                    refine WL.skip rfl rfl rfl ?_
                    refine WL.skip rfl rfl rfl ?_
                    refine WL.q (oq_pick_t rfl rfl) rfl rfl rfl ?_
                    refine WL.nil ?_
                    refine WE.then_normal ?_
                    refine WC.sub (fr' := [(0, _), (4, _), (5, _), (6, _), (53, _)]) ?_ ⟨rfl, rfl, rfl, rfl, rfl, trivial⟩
                    refine WC.cond_t rfl ?_
                    refine WC.seq ?_
                    have hk : okp (byteAt s i) = true := by unfold okp; rw [← hc5_2]; apply decide_eq_true; omega
                    have he : enc1 (byteAt s i) = [UInt8.ofNat (byteAt s i).toNat] := if_pos hk
                    have hok : (okp (byteAt s i) || decide (16 ≤ byteAt s i)) = true := by rw [hk]; rfl
                    rw [← byte_one s i (by omega)] at he
                    refine WC.region ?_
                    refine WL.q (oq_move rfl) rfl rfl rfl ?_
                    refine WL.q (oq_move rfl) rfl rfl rfl ?_
                    refine WL.q (oq_move rfl) rfl rfl rfl ?_
                    refine WL.q (oq_move rfl) rfl rfl rfl ?_
                    refine WL.q (oq_add rfl rfl (by rw [i64_lo, i64_hi]; (first | omega | (simp only [List.length_cons, List.length_nil, List.length_append, List.length_drop, List.length_take]; omega)))) rfl rfl rfl ?_
                    refine WL.q (oq_slice_s2 Try.underlying9 rfl rfl rfl (by (first | omega | (show _ ∧ _ ∧ _ ≤ ((16 : Nat) : Int); omega)))) rfl rfl rfl ?_
                    refine WL.q (oq_concat rfl rfl (by ((try simp only [List.length_append, List.length_cons, List.length_nil]); first | omega | (have h1 := cut_len s (i : Int) ((i : Int) + 1) (by omega); omega) | (have h1 := congrArg List.length hx1; have h2 := congrArg List.length hx2; simp only [List.length_cons, List.length_nil] at h1 h2; omega)))) rfl rfl rfl ?_
                    refine WL.q (oq_assign rfl) rfl rfl rfl ?_
                    refine WL.nil ?_
                    refine WE.then_normal ?_
                    refine WC.sub (fr' := [(0, _), (4, _), (5, _)]) ?_ ⟨rfl, rfl, rfl, trivial⟩
                    refine WC.exit ?_
                    refine WE.then_exit ?_
                    refine WE.block_same ?_
                    refine WE.then_normal ?_
                    refine WC.sub (fr' := [(0, _), (4, _), (5, _)]) ?_ ⟨rfl, rfl, rfl, trivial⟩
                    refine WC.region ?_
                    refine WL.q (oq_move rfl) rfl rfl rfl ?_
                    refine WL.q (oq_add rfl rfl (by rw [i64_lo, i64_hi]; (first | omega | (simp only [List.length_cons, List.length_nil, List.length_append, List.length_drop, List.length_take]; omega)))) rfl rfl rfl ?_
                    refine WL.q (oq_assign rfl) rfl rfl rfl ?_
                    refine WL.nil ?_
                    refine WE.again (i + 1, l ++ enc1 (byteAt s i)) ?_ ?_ ⟨rfl, (gtv rfl (by first | (dsimp only; rw [he]; done) | (dsimp only; rw [← hc5_2, he, hx1, hx2]; simp))), rfl, trivial⟩ (List.Perm.refl _)
                    · try dsimp only   -- again 37
                      exact ⟨by omega, by have := enc1_len (byteAt s i); simp; omega, by rw [← hf, esc_step s i (by omega), List.append_assoc], by rw [ha, said_step s i (by omega), hok, Bool.true_and]⟩
                    · (try dsimp only); omega
                  ·
                    try simp only [Bool.not_eq_eq_eq_not, Bool.not_true, Bool.not_false, decide_eq_true_eq, decide_eq_false_iff_not, Int.not_lt, Int.not_le, ne_eq, Decidable.not_not, ← List.length_eq_zero_iff] at s6_34
                    refine WL.q (oq_move rfl) rfl rfl rfl ?_
                    refine WL.q (oq_eql rfl rfl) rfl rfl rfl ?_
                    refine WL.q (oq_pick_f rfl rfl) rfl rfl rfl ?_
                    refine WL.nil ?_
                    refine WE.then_normal ?_
                    refine WC.sub (fr' := [(0, _), (4, _), (5, _), (6, _), (53, _)]) ?_ ⟨rfl, rfl, rfl, rfl, rfl, trivial⟩
                    refine WC.cond rfl (fun q6 => ?_) (fun q6 => ?_)
                    ·
                      try simp only [Bool.not_eq_eq_eq_not, Bool.not_true, Bool.not_false, decide_eq_true_eq, decide_eq_false_iff_not, Int.not_lt, Int.not_le, ne_eq, Decidable.not_not, ← List.length_eq_zero_iff] at q6
                      refine WC.seq ?_
                      have hk : okp (byteAt s i) = true := by unfold okp; rw [← hc5_2]; apply decide_eq_true; omega
                      have he : enc1 (byteAt s i) = [UInt8.ofNat (byteAt s i).toNat] := if_pos hk
                      have hok : (okp (byteAt s i) || decide (16 ≤ byteAt s i)) = true := by rw [hk]; rfl
                      rw [← byte_one s i (by omega)] at he
                      refine WC.region ?_
                      refine WL.q (oq_move rfl) rfl rfl rfl ?_
                      refine WL.q (oq_move rfl) rfl rfl rfl ?_
                      refine WL.q (oq_move rfl) rfl rfl rfl ?_
                      refine WL.q (oq_move rfl) rfl rfl rfl ?_
                      refine WL.q (oq_add rfl rfl (by rw [i64_lo, i64_hi]; (first | omega | (simp only [List.length_cons, List.length_nil, List.length_append, List.length_drop, List.length_take]; omega)))) rfl rfl rfl ?_
                      refine WL.q (oq_slice_s2 Try.underlying9 rfl rfl rfl (by (first | omega | (show _ ∧ _ ∧ _ ≤ ((16 : Nat) : Int); omega)))) rfl rfl rfl ?_
                      refine WL.q (oq_concat rfl rfl (by ((try simp only [List.length_append, List.length_cons, List.length_nil]); first | omega | (have h1 := cut_len s (i : Int) ((i : Int) + 1) (by omega); omega) | (have h1 := congrArg List.length hx1; have h2 := congrArg List.length hx2; simp only [List.length_cons, List.length_nil] at h1 h2; omega)))) rfl rfl rfl ?_
                      refine WL.q (oq_assign rfl) rfl rfl rfl ?_
                      refine WL.nil ?_
                      refine WE.then_normal ?_
                      refine WC.sub (fr' := [(0, _), (4, _), (5, _)]) ?_ ⟨rfl, rfl, rfl, trivial⟩
                      refine WC.exit ?_
                      refine WE.then_exit ?_
                      refine WE.block_same ?_
                      refine WE.then_normal ?_
                      refine WC.sub (fr' := [(0, _), (4, _), (5, _)]) ?_ ⟨rfl, rfl, rfl, trivial⟩
                      refine WC.region ?_
                      refine WL.q (oq_move rfl) rfl rfl rfl ?_
                      refine WL.q (oq_add rfl rfl (by rw [i64_lo, i64_hi]; (first | omega | (simp only [List.length_cons, List.length_nil, List.length_append, List.length_drop, List.length_take]; omega)))) rfl rfl rfl ?_
                      refine WL.q (oq_assign rfl) rfl rfl rfl ?_
                      refine WL.nil ?_
                      refine WE.again (i + 1, l ++ enc1 (byteAt s i)) ?_ ?_ ⟨rfl, (gtv rfl (by first | (dsimp only; rw [he]; done) | (dsimp only; rw [← hc5_2, he, hx1, hx2]; simp))), rfl, trivial⟩ (List.Perm.refl _)
                      · try dsimp only   -- again 38
                        exact ⟨by omega, by have := enc1_len (byteAt s i); simp; omega, by rw [← hf, esc_step s i (by omega), List.append_assoc], by rw [ha, said_step s i (by omega), hok, Bool.true_and]⟩
                      · (try dsimp only); omega
                    ·
                      try simp only [Bool.not_eq_eq_eq_not, Bool.not_true, Bool.not_false, decide_eq_true_eq, decide_eq_false_iff_not, Int.not_lt, Int.not_le, ne_eq, Decidable.not_not, ← List.length_eq_zero_iff] at q6
                      refine WC.skip ?_
                      refine WE.meet () ?_ ⟨rfl, rfl, rfl, rfl, trivial⟩ (List.Perm.refl _)
                      try dsimp only
                      unfold okp; rw [← hc5_2]; apply decide_eq_false; omega   -- meet 7
      · rintro _ hp
        try dsimp only at hp
        show WC _ _ _ _ _ _ ([(0, S s), (4, S l), (5, I (i : Int)), (6, .int .u8 c5_2)]) ([])
        have hk := hp
        refine WC.seq ?_
        refine WC.seq ?_
        refine WC.region ?_
        refine WL.q (oq_move rfl) rfl rfl rfl ?_
        refine WL.q (oq_lss rfl rfl) rfl rfl rfl ?_
        refine WL.nil ?_
        refine WE.then_normal ?_
        refine WC.sub (fr' := [(0, _), (4, _), (5, _), (6, _), (62, _)]) ?_ ⟨rfl, rfl, rfl, rfl, rfl, trivial⟩
        refine WC.cond rfl (fun q8 => ?_) (fun q8 => ?_)
        ·
          try simp only [Bool.not_eq_eq_eq_not, Bool.not_true, Bool.not_false, decide_eq_true_eq, decide_eq_false_iff_not, Int.not_lt, Int.not_le, ne_eq, Decidable.not_not, ← List.length_eq_zero_iff] at q8
          refine WC.seq ?_
          refine WC.region ?_
          refine WL.q (oq_assign rfl) rfl rfl rfl ?_
          refine WL.q (oq_assign rfl) rfl rfl rfl ?_
          refine WL.nil ?_
          refine WE.then_normal ?_
          refine WC.sub (fr' := [(2, _), (3, _)]) ?_ ⟨rfl, rfl, trivial⟩
          refine WC.ret ?_
          refine WE.then_ret ?_
          refine WE.block_ret ?_
          refine WE.then_ret ?_
          refine WE.then_ret ?_
          refine WE.block_ret ?_
          refine WE.then_ret ?_
          refine WE.end0 (.inl rfl) (res2 Try.results37 rfl rfl) ?_
          -- end 0
          first | (rw [ha, said_step s i (by omega), hk, decide_eq_false (by omega)]; rfl) | (rw [ha, List.drop_eq_nil_of_le (by omega)]; rw [← hf, List.drop_eq_nil_of_le (by omega)]; simp)
        ·
          try simp only [Bool.not_eq_eq_eq_not, Bool.not_true, Bool.not_false, decide_eq_true_eq, decide_eq_false_iff_not, Int.not_lt, Int.not_le, ne_eq, Decidable.not_not, ← List.length_eq_zero_iff] at q8
          refine WC.skip ?_
          refine WE.then_normal ?_
          refine WC.sub (fr' := [(0, _), (4, _), (5, _), (6, _)]) ?_ ⟨rfl, rfl, rfl, rfl, trivial⟩
          have he : enc1 (byteAt s i) = [37, hx (byteAt s i / 16), hx (byteAt s i % 16)] := by unfold enc1; rw [hk, if_neg (by decide), if_pos (by omega)]
          have hok : (okp (byteAt s i) || decide (16 ≤ byteAt s i)) = true := by rw [hk, decide_eq_true (by omega)]; rfl
          have hx1 := hx_cut (byteAt s i / 16) (by omega) (by omega)
          have hx2 := hx_cut (byteAt s i % 16) (by omega) (by omega)
          rw [← hc5_2] at hx1 hx2 he
          unfold hexL at hx1 hx2
          refine WC.quiet (by kernel_rfl) (by kernel_rfl) ?_
          refine WQ.q (oq_move rfl) rfl rfl rfl ?_
          refine WQ.q (oq_concat rfl rfl (by ((try simp only [List.length_append, List.length_cons, List.length_nil]); first | omega | (have h1 := cut_len s (i : Int) ((i : Int) + 1) (by omega); omega) | (have h1 := congrArg List.length hx1; have h2 := congrArg List.length hx2; simp only [List.length_cons, List.length_nil] at h1 h2; omega)))) rfl rfl rfl ?_
          refine WQ.q (oq_move rfl) rfl rfl rfl ?_
          refine WQ.q (oq_shrl 16 rfl rfl (by decide) (by decide)) rfl rfl rfl ?_
          refine WQ.q (oq_move rfl) rfl rfl rfl ?_
          refine WQ.q (oq_shrl 16 rfl rfl (by decide) (by decide)) rfl rfl rfl ?_
          refine WQ.q (oq_add rfl rfl (by rw [u8_lo, u8_hi]; (first | omega | (simp only [List.length_cons, List.length_nil, List.length_append, List.length_drop, List.length_take]; omega)))) rfl rfl rfl ?_
          refine WQ.q (oq_slice_s2 Try.underlying9 rfl rfl rfl (by (first | omega | (show _ ∧ _ ∧ _ ≤ ((16 : Nat) : Int); omega)))) rfl rfl rfl ?_
          refine WQ.q (oq_concat rfl rfl (by ((try simp only [List.length_append, List.length_cons, List.length_nil]); first | omega | (have h1 := cut_len s (i : Int) ((i : Int) + 1) (by omega); omega) | (have h1 := congrArg List.length hx1; have h2 := congrArg List.length hx2; simp only [List.length_cons, List.length_nil] at h1 h2; omega)))) rfl rfl rfl ?_
          refine WQ.q (oq_move rfl) rfl rfl rfl ?_
          refine WQ.q (oq_mask 4 16 rfl rfl (by rw [u8_hi]; omega) (by decide) (by decide) (by decide)) rfl rfl rfl ?_
          refine WQ.q (oq_move rfl) rfl rfl rfl ?_
          refine WQ.q (oq_mask 4 16 rfl rfl (by rw [u8_hi]; omega) (by decide) (by decide) (by decide)) rfl rfl rfl ?_
          refine WQ.q (oq_add rfl rfl (by rw [u8_lo, u8_hi]; (first | omega | (simp only [List.length_cons, List.length_nil, List.length_append, List.length_drop, List.length_take]; omega)))) rfl rfl rfl ?_
          refine WQ.q (oq_slice_s2 Try.underlying9 rfl rfl rfl (by (first | omega | (show _ ∧ _ ∧ _ ≤ ((16 : Nat) : Int); omega)))) rfl rfl rfl ?_
          refine WQ.q (oq_concat rfl rfl (by ((try simp only [List.length_append, List.length_cons, List.length_nil]); first | omega | (have h1 := cut_len s (i : Int) ((i : Int) + 1) (by omega); omega) | (have h1 := congrArg List.length hx1; have h2 := congrArg List.length hx2; simp only [List.length_cons, List.length_nil] at h1 h2; omega)))) rfl rfl rfl ?_
          refine WQ.q (oq_assign rfl) rfl rfl rfl ?_
          refine WQ.nil ?_
          refine WE.block_normal ?_
          refine WE.then_normal ?_
          refine WC.sub (fr' := [(0, _), (4, _), (5, _)]) ?_ ⟨rfl, rfl, rfl, trivial⟩
          refine WC.region ?_
          refine WL.q (oq_move rfl) rfl rfl rfl ?_
          refine WL.q (oq_add rfl rfl (by rw [i64_lo, i64_hi]; (first | omega | (simp only [List.length_cons, List.length_nil, List.length_append, List.length_drop, List.length_take]; omega)))) rfl rfl rfl ?_
          refine WL.q (oq_assign rfl) rfl rfl rfl ?_
          refine WL.nil ?_
          refine WE.again (i + 1, l ++ enc1 (byteAt s i)) ?_ ?_ ⟨rfl, (gtv rfl (by first | (dsimp only; rw [he]; done) | (dsimp only; rw [← hc5_2, he, hx1, hx2]; simp))), rfl, trivial⟩ (List.Perm.refl _)
          · try dsimp only   -- again 39
            exact ⟨by omega, by have := enc1_len (byteAt s i); simp; omega, by rw [← hf, esc_step s i (by omega), List.append_assoc], by rw [ha, said_step s i (by omega), hok, Bool.true_and]⟩
          · (try dsimp only); omega
    ·
      try simp only [Bool.not_eq_eq_eq_not, Bool.not_true, Bool.not_false, decide_eq_true_eq, decide_eq_false_iff_not, Int.not_lt, Int.not_le, ne_eq, Decidable.not_not, ← List.length_eq_zero_iff] at q3
      refine WC.exit ?_
      refine WE.then_exit ?_
      refine WE.then_exit ?_
      refine WE.block_same ?_
      refine WE.then_normal ?_
      refine WC.sub (fr' := [(4, _)]) ?_ ⟨rfl, trivial⟩
      refine WC.seq ?_
      refine WC.region ?_
      refine WL.q (oq_move rfl) rfl rfl rfl ?_
      refine WL.q (oq_assign rfl) rfl rfl rfl ?_
      refine WL.q (oq_assign rfl) rfl rfl rfl ?_
      refine WL.nil ?_
      refine WE.then_normal ?_
      refine WC.sub (fr' := [(2, _), (3, _)]) ?_ ⟨rfl, rfl, trivial⟩
      refine WC.ret ?_
      refine WE.end0 (.inl rfl) (res2 Try.results37 rfl rfl) ?_
      -- end 1
      first | (rw [ha, said_step s i (by omega), hk, decide_eq_false (by omega)]; rfl) | (rw [ha, List.drop_eq_nil_of_le (by omega)]; rw [← hf, List.drop_eq_nil_of_le (by omega)]; simp)

/-- given.example/pub-tinwright/laws.FnEEscapes -/
theorem law (s : List UInt8) : Fn0 Try.prog 14 [S s] (.bool true) := by
  refine Fn0.enter (n := 28) Try.func14 rfl rfl fun w0 => ?_
  refine WC.sub (fr' := [(0, _)]) ?_ ⟨rfl, trivial⟩
  refine WC.seq ?_
  refine WC.region ?_
  refine WL.q (oq_assign rfl) rfl rfl rfl ?_
  refine WL.nil ?_
  refine WE.then_normal ?_
  refine WC.sub (fr' := [(0, _)]) ?_ ⟨rfl, trivial⟩
  refine WC.seq ?_
  refine WC.seq ?_
  refine WC.region ?_
  refine WL.q (oq_move rfl) rfl rfl rfl ?_
  refine WL.q (oq_len_s Try.underlying9 rfl) rfl rfl rfl ?_
  refine WL.q (oq_gtr rfl rfl) rfl rfl rfl ?_
  refine WL.nil ?_
  refine WE.then_normal ?_
  refine WC.sub (fr' := [(0, _), (7, _)]) ?_ ⟨rfl, rfl, trivial⟩
  refine WC.cond rfl (fun q1 => ?_) (fun q1 => ?_)
  ·
    try simp only [Bool.not_eq_eq_eq_not, Bool.not_true, Bool.not_false, decide_eq_true_eq, decide_eq_false_iff_not, Int.not_lt, Int.not_le, ne_eq, Decidable.not_not, ← List.length_eq_zero_iff] at q1
    refine WC.seq ?_
    refine WC.region ?_
    refine WL.q (oq_assign rfl) rfl rfl rfl ?_
    refine WL.nil ?_
    refine WE.then_normal ?_
    refine WC.sub (fr' := [(2, _)]) ?_ ⟨rfl, trivial⟩
    refine WC.ret ?_
    refine WE.then_ret ?_
    refine WE.end0 (.inl rfl) (res1 Try.results14 rfl) ?_
    -- end 0
    first | rfl | (exfalso; simp_all)
  ·
    try simp only [Bool.not_eq_eq_eq_not, Bool.not_true, Bool.not_false, decide_eq_true_eq, decide_eq_false_iff_not, Int.not_lt, Int.not_le, ne_eq, Decidable.not_not, ← List.length_eq_zero_iff] at q1
    refine WC.skip ?_
    refine WE.then_normal ?_
    refine WC.sub (fr' := [(0, _)]) ?_ ⟨rfl, trivial⟩
    refine WC.seq ?_
    refine WC.region ?_
    refine WL.q (oq_move rfl) rfl rfl rfl ?_
    refine WL.qc (oq_call (ecoded s (by omega)) call37 rfl) rfl rfl rfl ?_
    refine WL.q (oq_move rfl) rfl rfl rfl ?_
    refine WL.q (oq_extract rfl rfl) rfl rfl rfl ?_
    refine WL.q (oq_extract rfl rfl) rfl rfl rfl ?_
    refine WL.q (oq_assign rfl) rfl rfl rfl ?_
    refine WL.q (oq_assign rfl) rfl rfl rfl ?_
    refine WL.nil ?_
    refine WE.then_normal ?_
    refine WC.sub (fr' := [(0, _), (3, _), (4, _)]) ?_ ⟨rfl, rfl, rfl, trivial⟩
    refine WC.seq ?_
    refine WC.seq ?_
    refine WC.region ?_
    refine WL.q (oq_move rfl) rfl rfl rfl ?_
    refine WL.q (oq_len_s Try.underlying9 rfl) rfl rfl rfl ?_
    refine WL.q (oq_gtr rfl rfl) rfl rfl rfl ?_
    refine WL.q (oq_move rfl) rfl rfl rfl ?_
    refine WL.split 16 rfl (fun s4_3 => ?_) (fun s4_3 => ?_)
    ·
      try simp only [Bool.not_eq_eq_eq_not, Bool.not_true, Bool.not_false, decide_eq_true_eq, decide_eq_false_iff_not, Int.not_lt, Int.not_le, ne_eq, Decidable.not_not, ← List.length_eq_zero_iff] at s4_3
      refine WL.skip rfl rfl rfl ?_
      refine WL.skip rfl rfl rfl ?_
      refine WL.q (oq_pick_t rfl rfl) rfl rfl rfl ?_
      refine WL.nil ?_
      refine WE.then_normal ?_
      refine WC.sub (fr' := [(0, _), (3, _), (19, _)]) ?_ ⟨rfl, rfl, rfl, trivial⟩
      refine WC.cond_t rfl ?_
      refine WC.seq ?_
      refine WC.region ?_
      refine WL.qc (oq_call (L2.eAwake) call20 rfl) rfl rfl rfl ?_
      refine WL.q (oq_assign rfl) rfl rfl rfl ?_
      refine WL.nil ?_
      refine WE.then_normal ?_
      refine WC.sub (fr' := [(2, _)]) ?_ ⟨rfl, trivial⟩
      refine WC.ret ?_
      refine WE.then_ret ?_
      refine WE.end0 (.inl rfl) (res1 Try.results14 rfl) ?_
      -- end 1
      first | rfl | (exfalso; simp_all)
    ·
      try simp only [Bool.not_eq_eq_eq_not, Bool.not_true, Bool.not_false, decide_eq_true_eq, decide_eq_false_iff_not, Int.not_lt, Int.not_le, ne_eq, Decidable.not_not, ← List.length_eq_zero_iff] at s4_3
      refine WL.q (oq_move rfl) rfl rfl rfl ?_
      refine WL.q (oq_not rfl) rfl rfl rfl ?_
      refine WL.q (oq_pick_f rfl rfl) rfl rfl rfl ?_
      refine WL.nil ?_
      refine WE.then_normal ?_
      refine WC.sub (fr' := [(0, _), (3, _), (19, _)]) ?_ ⟨rfl, rfl, rfl, trivial⟩
      refine WC.cond rfl (fun q4 => ?_) (fun q4 => ?_)
      ·
        try simp only [Bool.not_eq_eq_eq_not, Bool.not_true, Bool.not_false, decide_eq_true_eq, decide_eq_false_iff_not, Int.not_lt, Int.not_le, ne_eq, Decidable.not_not, ← List.length_eq_zero_iff] at q4
        refine WC.seq ?_
        refine WC.region ?_
        refine WL.qc (oq_call (L2.eAwake) call20 rfl) rfl rfl rfl ?_
        refine WL.q (oq_assign rfl) rfl rfl rfl ?_
        refine WL.nil ?_
        refine WE.then_normal ?_
        refine WC.sub (fr' := [(2, _)]) ?_ ⟨rfl, trivial⟩
        refine WC.ret ?_
        refine WE.then_ret ?_
        refine WE.end0 (.inl rfl) (res1 Try.results14 rfl) ?_
        -- end 2
        first | rfl | (exfalso; simp_all)
      ·
        try simp only [Bool.not_eq_eq_eq_not, Bool.not_true, Bool.not_false, decide_eq_true_eq, decide_eq_false_iff_not, Int.not_lt, Int.not_le, ne_eq, Decidable.not_not, ← List.length_eq_zero_iff] at q4
        refine WC.skip ?_
        refine WE.then_normal ?_
        refine WC.sub (fr' := [(0, _), (3, _)]) ?_ ⟨rfl, rfl, trivial⟩
        refine WC.seq ?_
        refine WC.region ?_
        refine WL.q (oq_move rfl) rfl rfl rfl ?_
        refine WL.qc (oq_call (iescape s (by omega)) call38 rfl) rfl rfl rfl ?_
        refine WL.q (oq_move rfl) rfl rfl rfl ?_
        refine WL.q (oq_seql rfl rfl) rfl rfl rfl ?_
        refine WL.q (oq_move rfl) rfl rfl rfl ?_
        refine WL.split 25 rfl (fun s6_4 => ?_) (fun s6_4 => ?_)
        ·
          try simp only [Bool.not_eq_eq_eq_not, Bool.not_true, Bool.not_false, decide_eq_true_eq, decide_eq_false_iff_not, Int.not_lt, Int.not_le, ne_eq, Decidable.not_not, ← List.length_eq_zero_iff] at s6_4
          refine WL.qc (oq_call (L2.eAwake) call20 rfl) rfl rfl rfl ?_
          refine WL.q (oq_pick_t rfl rfl) rfl rfl rfl ?_
          refine WL.q (oq_assign rfl) rfl rfl rfl ?_
          refine WL.nil ?_
          refine WE.then_normal ?_
          refine WC.sub (fr' := [(2, _)]) ?_ ⟨rfl, trivial⟩
          refine WC.ret ?_
          refine WE.end0 (.inl rfl) (res1 Try.results14 rfl) ?_
          -- end 3
          first | rfl | (exfalso; simp_all)
        ·
          try simp only [Bool.not_eq_eq_eq_not, Bool.not_true, Bool.not_false, decide_eq_true_eq, decide_eq_false_iff_not, Int.not_lt, Int.not_le, ne_eq, Decidable.not_not, ← List.length_eq_zero_iff] at s6_4
          refine WL.skip rfl rfl rfl ?_
          refine WL.q (oq_pick_f rfl rfl) rfl rfl rfl ?_
          refine WL.q (oq_assign rfl) rfl rfl rfl ?_
          refine WL.nil ?_
          refine WE.then_normal ?_
          refine WC.sub (fr' := [(2, _)]) ?_ ⟨rfl, trivial⟩
          refine WC.ret ?_
          refine WE.end0 (.inl rfl) (res1 Try.results14 rfl) ?_
          -- end 4
          first | rfl | (exfalso; simp_all)

end E6
end Go.Proofs.Ythhankjineidiaa
