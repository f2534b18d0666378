/- Walks of the law on the readings of a decision diagram. -/
import Derived.Test.YtkdahfnedlijgaaD1
namespace Go.Proofs.Ytkdahfnedlijgaa
open Go Go.RowKit V L2 D0 D1
set_option linter.unusedSimpArgs false
set_option linter.unusedVariables false
set_option maxRecDepth 10000
namespace D2
theorem call5 : Callable Try.prog 5 := ⟨_, Try.func5, rfl, by kernel_rfl⟩
theorem call6 : Callable Try.prog 6 := ⟨_, Try.func6, rfl, by kernel_rfl⟩
theorem call7 : Callable Try.prog 7 := ⟨_, Try.func7, rfl, by kernel_rfl⟩
theorem flat4 : Flat Try.prog 4 := ⟨_, Try.underlying4, by simp⟩
theorem flat21 : Flat Try.prog 21 := ⟨_, Try.underlying21, by simp⟩
theorem ty4 : Ty Try.prog 4 (.bool false) 1 1 := ty_of (by kernel_rfl)
theorem ty21 : Ty Try.prog 21 (.int .i32 0) 1 4 := ty_of (by kernel_rfl)

theorem node_rd {v : Value} {A : Hp} {ns : List Int} {a : Int} (h : RdS 1 v A (3 * a - (3 * a - 3)).toNat (cut (intsV .i32 ns) ((3 * a - 3) * ((1 : Nat) : Int)) ((3 * a) * ((1 : Nat) : Int)))) (h1 : 1 ≤ a) (h2 : 3 * a ≤ (ns.length : Int)) :
    RdS 1 v A 3 (intsV .i32 [ns.getD ((a - 1) * 3).toNat 0, ns.getD ((a - 1) * 3 + 1).toNat 0, ns.getD ((a - 1) * 3 + 2).toNat 0]) := by
  have e3 : (3 * a - (3 * a - 3)).toNat = 3 := by omega
  have e : cut (intsV .i32 ns) ((3 * a - 3) * ((1 : Nat) : Int)) ((3 * a) * ((1 : Nat) : Int)) = intsV .i32 [ns.getD ((a - 1) * 3).toNat 0, ns.getD ((a - 1) * 3 + 1).toNat 0, ns.getD ((a - 1) * 3 + 2).toNat 0] := by
    unfold cut intsV
    rw [show ((3 * a - 3) * ((1 : Nat) : Int)).toNat = ((a - 1) * 3).toNat by omega, show ((3 * a) * ((1 : Nat) : Int)).toNat = ((a - 1) * 3).toNat + 3 by omega, show ((a - 1) * 3 + 1).toNat = ((a - 1) * 3).toNat + 1 by omega, show ((a - 1) * 3 + 2).toNat = ((a - 1) * 3).toNat + 2 by omega]
    have hk : ((a - 1) * 3).toNat + 3 ≤ ns.length := by omega
    generalize ((a - 1) * 3).toNat = k at hk
    rw [← List.map_take, ← List.map_drop, List.drop_take, Nat.add_sub_cancel_left]
    rw [List.drop_eq_getElem_cons (by omega), List.drop_eq_getElem_cons (by omega), List.drop_eq_getElem_cons (by omega)]
    simp only [List.getD_eq_getElem?_getD]
    rw [List.getElem?_eq_getElem (by omega), List.getElem?_eq_getElem (by omega), List.getElem?_eq_getElem (by omega)]
    rfl
  rw [e3, e] at h; exact h

theorem nilN : RdS 1 (.slice none 0 0) [] ([] : List Int).length (intsV .i32 []) := ⟨rfl, .inl ⟨rfl, _, _, rfl⟩⟩
theorem nilT : RdS 1 (.slice none 0 0) [] ([] : List Bool).length (boolsV []) := ⟨rfl, .inl ⟨rfl, _, _, rfl⟩⟩
/-- given.example/pub-tinwright/spec.EDecided -/
theorem edecided (vn vt : Value) (A : Hp) (ns : List Int) (ts : List Bool) (hrn : RdS 1 vn A ns.length (intsV .i32 ns)) (hrt : RdS 1 vt A ts.length (boolsV ts)) (hl : ns.length ≤ 600) (hns : ∀ z ∈ ns, -100000000 ≤ z ∧ z ≤ 2147483647) (root : Int) (hroot : -100000000 ≤ root ∧ root ≤ 2147483647) : FnR Try.prog 7 [vn, .int .i32 root, vt] A (.int .i32 (edec ns ts ns.length root)) := by
  refine FnR.enter (n := 79) Try.func7 rfl rfl fun w0 => ?_
  refine WC.sub (fr' := [(0, _), (1, _), (2, _)]) ?_ ⟨rfl, rfl, rfl, trivial⟩
  refine WC.seq ?_
  refine WC.region ?_
  refine WL.q (oq_assign rfl) rfl rfl rfl ?_
  refine WL.nil ?_
  refine WE.then_normal ?_
  refine WC.sub (fr' := [(0, _), (1, _), (2, _)]) ?_ ⟨rfl, rfl, rfl, trivial⟩
  refine WC.seq ?_
  refine WC.region ?_
  refine WL.q (oq_move rfl) rfl rfl rfl ?_
  refine WL.q (oq_conv Try.underlying21 Try.underlying2 rfl (by rw [i64_lo, i64_hi]; (first | omega | (simp only [List.length_cons, List.length_nil, List.length_append, List.length_drop, List.length_take]; omega)))) rfl rfl rfl ?_
  refine WL.q (oq_assign rfl) rfl rfl rfl ?_
  refine WL.nil ?_
  refine WE.then_normal ?_
  refine WC.sub (fr' := [(0, _), (2, _), (7, _)]) ?_ ⟨rfl, rfl, rfl, trivial⟩
  refine WC.seq ?_
  refine WC.seq ?_
  refine WC.region ?_
  refine WL.q (oq_assign rfl) rfl rfl rfl ?_
  refine WL.nil ?_
  refine WE.then_normal ?_
  refine WC.sub (fr' := [(0, _), (2, _), (7, _), (8, _)]) ?_ ⟨rfl, rfl, rfl, rfl, trivial⟩
  refine WC.block ?_
  refine WC.loop (ι := Int × Nat) (fun i_ => (fun (r : Int) (n : Nat) => [(0, vn), (2, vt), (7, I r), (8, I (n : Int))]) i_.1 i_.2) (fun i_ => (fun (r : Int) (n : Nat) => [A]) i_.1 i_.2) (fun i_ => (fun (r : Int) (n : Nat) => n ≤ ns.length + 1 ∧ (-100000000 ≤ r ∧ r ≤ 2147483647) ∧ (n ≤ ns.length → edec ns ts (ns.length - n) r = edec ns ts ns.length root) ∧ (n = ns.length + 1 → edec ns ts ns.length root = 0)) i_.1 i_.2) (fun i_ => (fun (r : Int) (n : Nat) => ns.length + 1 - n) i_.1 i_.2) ((root, 0)) ?_ ⟨rfl, rfl, rfl, rfl, trivial⟩ (List.Perm.refl _) ?_
  · try dsimp only
    exact ⟨by omega, hroot, fun _ => by simp, fun h => by omega⟩
  · rintro ⟨r, n⟩ hp
    try dsimp only at hp
    obtain ⟨hn, hr, hf, hz⟩ := hp
    show WC _ _ _ _ _ _ ([(0, vn), (2, vt), (7, I r), (8, I (n : Int))]) ([A])
    refine WC.seq ?_
    refine WC.seq ?_
    refine WC.region ?_
    refine WL.q (oq_move rfl) rfl rfl rfl ?_
    refine WL.q (oq_move rfl) rfl rfl rfl ?_
    refine WL.q (oq_len_rd hrn Try.underlying22 rfl) rfl rfl rfl ?_
    refine WL.q (oq_leq rfl rfl) rfl rfl rfl ?_
    refine WL.nil ?_
    refine WE.then_normal ?_
    refine WC.sub (fr' := [(0, _), (2, _), (7, _), (8, _), (16, _)]) ?_ ⟨rfl, rfl, rfl, rfl, rfl, trivial⟩
    refine WC.cond rfl (fun q3 => ?_) (fun q3 => ?_)
    ·
      try simp only [Bool.not_eq_eq_eq_not, Bool.not_true, Bool.not_false, decide_eq_true_eq, decide_eq_false_iff_not, Int.not_lt, Int.not_le, ne_eq, Decidable.not_not, ← List.length_eq_zero_iff] at q3
      refine WC.skip ?_
      refine WE.then_normal ?_
      refine WC.sub (fr' := [(0, _), (2, _), (7, _), (8, _)]) ?_ ⟨rfl, rfl, rfl, rfl, trivial⟩
      refine WC.seq ?_
      refine WC.block ?_
      refine WC.seq ?_
      refine WC.seq ?_
      refine WC.region ?_
      refine WL.q (oq_move rfl) rfl rfl rfl ?_
      refine WL.q (oq_geq rfl rfl) rfl rfl rfl ?_
      refine WL.nil ?_
      refine WE.then_normal ?_
      refine WC.sub (fr' := [(0, _), (2, _), (7, _), (8, _), (20, _)]) ?_ ⟨rfl, rfl, rfl, rfl, rfl, trivial⟩
      refine WC.cond rfl (fun q5 => ?_) (fun q5 => ?_)
      ·
        try simp only [Bool.not_eq_eq_eq_not, Bool.not_true, Bool.not_false, decide_eq_true_eq, decide_eq_false_iff_not, Int.not_lt, Int.not_le, ne_eq, Decidable.not_not, ← List.length_eq_zero_iff] at q5
        refine WC.seq ?_
        refine WC.region ?_
        refine WL.q (oq_move rfl) rfl rfl rfl ?_
        refine WL.q (oq_sub rfl rfl (by rw [i64_lo, i64_hi]; (first | omega | (simp only [List.length_cons, List.length_nil, List.length_append, List.length_drop, List.length_take]; omega)))) rfl rfl rfl ?_
        refine WL.q (oq_conv Try.underlying2 Try.underlying21 rfl (by rw [i32_lo, i32_hi]; (first | omega | (simp only [List.length_cons, List.length_nil, List.length_append, List.length_drop, List.length_take]; omega)))) rfl rfl rfl ?_
        refine WL.q (oq_assign rfl) rfl rfl rfl ?_
        refine WL.nil ?_
        refine WE.then_normal ?_
        refine WC.sub (fr' := [(6, _)]) ?_ ⟨rfl, trivial⟩
        refine WC.ret ?_
        refine WE.then_ret ?_
        refine WE.block_ret ?_
        refine WE.then_ret ?_
        refine WE.then_ret ?_
        refine WE.block_ret ?_
        refine WE.then_ret ?_
        refine WE.endR (.inl rfl) (res1 Try.results7 rfl) ?_
        -- end 0
        rw [← hf (by omega), edec_step, estep_res (by omega)]
      ·
        try simp only [Bool.not_eq_eq_eq_not, Bool.not_true, Bool.not_false, decide_eq_true_eq, decide_eq_false_iff_not, Int.not_lt, Int.not_le, ne_eq, Decidable.not_not, ← List.length_eq_zero_iff] at q5
        refine WC.skip ?_
        refine WE.then_normal ?_
        refine WC.sub (fr' := [(0, _), (2, _), (7, _), (8, _)]) ?_ ⟨rfl, rfl, rfl, rfl, trivial⟩
        refine WC.seq ?_
        refine WC.region ?_
        refine WL.q (oq_move rfl) rfl rfl rfl ?_
        refine WL.q (oq_assign rfl) rfl rfl rfl ?_
        refine WL.nil ?_
        refine WE.then_normal ?_
        refine WC.sub (fr' := [(0, _), (2, _), (7, _), (8, _), (9, _)]) ?_ ⟨rfl, rfl, rfl, rfl, rfl, trivial⟩
        refine WC.cut (ι := Int) (fun (at_ : Int) => [(0, vn), (2, vt), (7, I r), (8, I (n : Int)), (9, I at_)]) (fun (at_ : Int) => [A]) (fun (at_ : Int) => at_ = if r < 0 then -r else r) ?_ ?_
        ·
          refine WC.seq ?_
          refine WC.region ?_
          refine WL.q (oq_move rfl) rfl rfl rfl ?_
          refine WL.q (oq_lss rfl rfl) rfl rfl rfl ?_
          refine WL.nil ?_
          refine WE.then_normal ?_
          refine WC.sub (fr' := [(0, _), (2, _), (7, _), (8, _), (9, _), (26, _)]) ?_ ⟨rfl, rfl, rfl, rfl, rfl, rfl, trivial⟩
          refine WC.cond rfl (fun q8 => ?_) (fun q8 => ?_)
          ·
            try simp only [Bool.not_eq_eq_eq_not, Bool.not_true, Bool.not_false, decide_eq_true_eq, decide_eq_false_iff_not, Int.not_lt, Int.not_le, ne_eq, Decidable.not_not, ← List.length_eq_zero_iff] at q8
            refine WC.region ?_
            refine WL.q (oq_move rfl) rfl rfl rfl ?_
            refine WL.q (oq_neg rfl (by rw [i64_lo, i64_hi]; (first | omega | (simp only [List.length_cons, List.length_nil, List.length_append, List.length_drop, List.length_take]; omega)))) rfl rfl rfl ?_
            refine WL.q (oq_assign rfl) rfl rfl rfl ?_
            refine WL.nil ?_
            refine WE.meet _ ?_ ⟨rfl, rfl, rfl, rfl, rfl, trivial⟩ (List.Perm.refl _)
            try dsimp only
            first | rw [if_pos (by simpa using q8)] | rw [if_neg (by simpa using q8)]   -- meet 0
          ·
            try simp only [Bool.not_eq_eq_eq_not, Bool.not_true, Bool.not_false, decide_eq_true_eq, decide_eq_false_iff_not, Int.not_lt, Int.not_le, ne_eq, Decidable.not_not, ← List.length_eq_zero_iff] at q8
            refine WC.skip ?_
            refine WE.meet _ ?_ ⟨rfl, rfl, rfl, rfl, rfl, trivial⟩ (List.Perm.refl _)
            try dsimp only
            first | rw [if_pos (by simpa using q8)] | rw [if_neg (by simpa using q8)]   -- meet 1
        · rintro at_ hp
          try dsimp only at hp
          show WC _ _ _ _ _ _ ([(0, vn), (2, vt), (7, I r), (8, I (n : Int)), (9, I at_)]) ([A])
          have hat : at_ ≤ 100000000 ∧ 0 ≤ at_ := by rw [hp]; split <;> omega
          have ha0 : at_ = 0 ↔ r = 0 := by rw [hp]; split <;> omega
          have ha1 : at_ = 1 ↔ (r = 1 ∨ r = -1) := by rw [hp]; split <;> omega
          refine WC.seq ?_
          refine WC.seq ?_
          refine WC.region ?_
          refine WL.q (oq_move rfl) rfl rfl rfl ?_
          refine WL.q (oq_eql rfl rfl) rfl rfl rfl ?_
          refine WL.q (oq_move rfl) rfl rfl rfl ?_
          refine WL.split 31 rfl (fun s10_2 => ?_) (fun s10_2 => ?_)
          ·
            try simp only [Bool.not_eq_eq_eq_not, Bool.not_true, Bool.not_false, decide_eq_true_eq, decide_eq_false_iff_not, Int.not_lt, Int.not_le, ne_eq, Decidable.not_not, ← List.length_eq_zero_iff] at s10_2
            refine WL.skip rfl rfl rfl ?_
            refine WL.skip rfl rfl rfl ?_
            refine WL.q (oq_pick_t rfl rfl) rfl rfl rfl ?_
            refine WL.q (oq_move rfl) rfl rfl rfl ?_
            refine WL.skip rfl rfl rfl ?_
            refine WL.skip rfl rfl rfl ?_
            refine WL.skip rfl rfl rfl ?_
            refine WL.skip rfl rfl rfl ?_
            refine WL.skip rfl rfl rfl ?_
            refine WL.q (oq_pick_t rfl rfl) rfl rfl rfl ?_
            refine WL.nil ?_
            refine WE.then_normal ?_
            refine WC.sub (fr' := [(0, _), (2, _), (7, _), (8, _), (9, _), (41, _)]) ?_ ⟨rfl, rfl, rfl, rfl, rfl, rfl, trivial⟩
            refine WC.cond_t rfl ?_
            refine WC.seq ?_
            refine WC.region ?_
            refine WL.q (oq_assign rfl) rfl rfl rfl ?_
            refine WL.nil ?_
            refine WE.then_normal ?_
            refine WC.sub (fr' := [(6, _)]) ?_ ⟨rfl, trivial⟩
            refine WC.ret ?_
            refine WE.then_ret ?_
            refine WE.block_ret ?_
            refine WE.then_ret ?_
            refine WE.then_ret ?_
            refine WE.block_ret ?_
            refine WE.then_ret ?_
            refine WE.endR (.inl rfl) (res1 Try.results7 rfl) ?_
            -- end 1
            first | (rw [← hf (by omega), edec_step, estep_zero (by omega) hp (by omega)]; done) | (rw [← hf (by omega), edec_step, estep_cond (by omega) hp (by rw [← hc0]; omega)]; done) | (rw [hz (by omega)])
          ·
            try simp only [Bool.not_eq_eq_eq_not, Bool.not_true, Bool.not_false, decide_eq_true_eq, decide_eq_false_iff_not, Int.not_lt, Int.not_le, ne_eq, Decidable.not_not, ← List.length_eq_zero_iff] at s10_2
            refine WL.q (oq_move rfl) rfl rfl rfl ?_
            refine WL.q (oq_eql rfl rfl) rfl rfl rfl ?_
            refine WL.q (oq_pick_f rfl rfl) rfl rfl rfl ?_
            refine WL.q (oq_move rfl) rfl rfl rfl ?_
            refine WL.split 35 rfl (fun s10_6 => ?_) (fun s10_6 => ?_)
            ·
              try simp only [Bool.not_eq_eq_eq_not, Bool.not_true, Bool.not_false, decide_eq_true_eq, decide_eq_false_iff_not, Int.not_lt, Int.not_le, ne_eq, Decidable.not_not, ← List.length_eq_zero_iff] at s10_6
              refine WL.skip rfl rfl rfl ?_
              refine WL.skip rfl rfl rfl ?_
              refine WL.skip rfl rfl rfl ?_
              refine WL.skip rfl rfl rfl ?_
              refine WL.skip rfl rfl rfl ?_
              refine WL.q (oq_pick_t rfl rfl) rfl rfl rfl ?_
              refine WL.nil ?_
              refine WE.then_normal ?_
              refine WC.sub (fr' := [(0, _), (2, _), (7, _), (8, _), (9, _), (41, _)]) ?_ ⟨rfl, rfl, rfl, rfl, rfl, rfl, trivial⟩
              refine WC.cond_t rfl ?_
              refine WC.seq ?_
              refine WC.region ?_
              refine WL.q (oq_assign rfl) rfl rfl rfl ?_
              refine WL.nil ?_
              refine WE.then_normal ?_
              refine WC.sub (fr' := [(6, _)]) ?_ ⟨rfl, trivial⟩
              refine WC.ret ?_
              refine WE.then_ret ?_
              refine WE.block_ret ?_
              refine WE.then_ret ?_
              refine WE.then_ret ?_
              refine WE.block_ret ?_
              refine WE.then_ret ?_
              refine WE.endR (.inl rfl) (res1 Try.results7 rfl) ?_
              -- end 2
              first | (rw [← hf (by omega), edec_step, estep_zero (by omega) hp (by omega)]; done) | (rw [← hf (by omega), edec_step, estep_cond (by omega) hp (by rw [← hc0]; omega)]; done) | (rw [hz (by omega)])
            ·
              try simp only [Bool.not_eq_eq_eq_not, Bool.not_true, Bool.not_false, decide_eq_true_eq, decide_eq_false_iff_not, Int.not_lt, Int.not_le, ne_eq, Decidable.not_not, ← List.length_eq_zero_iff] at s10_6
              refine WL.q (oq_move rfl) rfl rfl rfl ?_
              refine WL.q (oq_mul rfl rfl (by rw [i64_lo, i64_hi]; (first | omega | (simp only [List.length_cons, List.length_nil, List.length_append, List.length_drop, List.length_take]; omega)))) rfl rfl rfl ?_
              refine WL.q (oq_move rfl) rfl rfl rfl ?_
              refine WL.q (oq_len_rd hrn Try.underlying22 rfl) rfl rfl rfl ?_
              refine WL.q (oq_gtr rfl rfl) rfl rfl rfl ?_
              refine WL.q (oq_pick_f rfl rfl) rfl rfl rfl ?_
              refine WL.nil ?_
              refine WE.then_normal ?_
              refine WC.sub (fr' := [(0, _), (2, _), (7, _), (8, _), (9, _), (41, _)]) ?_ ⟨rfl, rfl, rfl, rfl, rfl, rfl, trivial⟩
              refine WC.cond rfl (fun q10 => ?_) (fun q10 => ?_)
              ·
                try simp only [Bool.not_eq_eq_eq_not, Bool.not_true, Bool.not_false, decide_eq_true_eq, decide_eq_false_iff_not, Int.not_lt, Int.not_le, ne_eq, Decidable.not_not, ← List.length_eq_zero_iff] at q10
                refine WC.seq ?_
                refine WC.region ?_
                refine WL.q (oq_assign rfl) rfl rfl rfl ?_
                refine WL.nil ?_
                refine WE.then_normal ?_
                refine WC.sub (fr' := [(6, _)]) ?_ ⟨rfl, trivial⟩
                refine WC.ret ?_
                refine WE.then_ret ?_
                refine WE.block_ret ?_
                refine WE.then_ret ?_
                refine WE.then_ret ?_
                refine WE.block_ret ?_
                refine WE.then_ret ?_
                refine WE.endR (.inl rfl) (res1 Try.results7 rfl) ?_
                -- end 3
                first | (rw [← hf (by omega), edec_step, estep_zero (by omega) hp (by omega)]; done) | (rw [← hf (by omega), edec_step, estep_cond (by omega) hp (by rw [← hc0]; omega)]; done) | (rw [hz (by omega)])
              ·
                try simp only [Bool.not_eq_eq_eq_not, Bool.not_true, Bool.not_false, decide_eq_true_eq, decide_eq_false_iff_not, Int.not_lt, Int.not_le, ne_eq, Decidable.not_not, ← List.length_eq_zero_iff] at q10
                refine WC.skip ?_
                refine WE.then_normal ?_
                refine WC.sub (fr' := [(0, _), (2, _), (7, _), (8, _), (9, _)]) ?_ ⟨rfl, rfl, rfl, rfl, rfl, trivial⟩
                refine WC.seq ?_
                refine WC.region ?_
                refine WL.q (oq_move rfl) rfl rfl rfl ?_
                refine WL.q (oq_move rfl) rfl rfl rfl ?_
                refine WL.q (oq_mul rfl rfl (by rw [i64_lo, i64_hi]; (first | omega | (simp only [List.length_cons, List.length_nil, List.length_append, List.length_drop, List.length_take]; omega)))) rfl rfl rfl ?_
                refine WL.q (oq_sub rfl rfl (by rw [i64_lo, i64_hi]; (first | omega | (simp only [List.length_cons, List.length_nil, List.length_append, List.length_drop, List.length_take]; omega)))) rfl rfl rfl ?_
                refine WL.q (oq_move rfl) rfl rfl rfl ?_
                refine WL.q (oq_mul rfl rfl (by rw [i64_lo, i64_hi]; (first | omega | (simp only [List.length_cons, List.length_nil, List.length_append, List.length_drop, List.length_take]; omega)))) rfl rfl rfl ?_
                refine WL.slice_rd hrn Try.underlying22 ty21 rfl ⟨_, rfl⟩ ⟨_, rfl⟩ (by (first | omega | (simp only [List.length_cons, List.length_nil, List.length_append, List.length_drop, List.length_take]; omega))) rfl rfl fun v12_6 hr12_6 => ?_
                obtain ⟨c0, hc0⟩ : ∃ c0, c0 = ns.getD ((at_ - 1) * 3).toNat 0 := ⟨_, rfl⟩
                obtain ⟨h0, hh0⟩ : ∃ c0, c0 = ns.getD ((at_ - 1) * 3 + 1).toNat 0 := ⟨_, rfl⟩
                obtain ⟨l0, hl0⟩ : ∃ c0, c0 = ns.getD ((at_ - 1) * 3 + 2).toNat 0 := ⟨_, rfl⟩
                have hrd := node_rd hr12_6 (by omega) (by omega)
                rw [← hc0, ← hh0, ← hl0] at hrd
                have bc := el_rng hns (by omega) ((at_ - 1) * 3).toNat
                have bh := el_rng hns (by omega) ((at_ - 1) * 3 + 1).toNat
                have bl := el_rng hns (by omega) ((at_ - 1) * 3 + 2).toNat
                rw [← hc0] at bc
                rw [← hh0] at bh
                rw [← hl0] at bl
                refine WL.q (oq_assign rfl) rfl rfl rfl ?_
                refine WL.nil ?_
                refine WE.then_normal ?_
                refine WC.sub (fr' := [(0, _), (2, _), (7, _), (8, _), (10, _)]) ?_ ⟨rfl, rfl, rfl, rfl, rfl, trivial⟩
                refine WC.seq ?_
                refine WC.seq ?_
                refine WC.region ?_
                refine WL.q (oq_move rfl) rfl rfl rfl ?_
                refine WL.q (oq_ixaddr hrd Try.underlying22 ty21 rfl rfl (by (first | omega | (simp only [List.length_cons, List.length_nil, List.length_append, List.length_drop, List.length_take]; omega)))) rfl rfl rfl ?_
                refine WL.q (oq_load_el (i := 0) (u := .int .i32 c0) hrd (.head _) flat21 rfl (by decide) rfl) rfl rfl rfl ?_
                refine WL.q (oq_lss rfl rfl) rfl rfl rfl ?_
                refine WL.q (oq_move rfl) rfl rfl rfl ?_
                refine WL.split 53 rfl (fun s13_4 => ?_) (fun s13_4 => ?_)
                ·
                  try simp only [Bool.not_eq_eq_eq_not, Bool.not_true, Bool.not_false, decide_eq_true_eq, decide_eq_false_iff_not, Int.not_lt, Int.not_le, ne_eq, Decidable.not_not, ← List.length_eq_zero_iff] at s13_4
                  refine WL.skip rfl rfl rfl ?_
                  refine WL.skip rfl rfl rfl ?_
                  refine WL.skip rfl rfl rfl ?_
                  refine WL.skip rfl rfl rfl ?_
                  refine WL.skip rfl rfl rfl ?_
                  refine WL.skip rfl rfl rfl ?_
                  refine WL.skip rfl rfl rfl ?_
                  refine WL.q (oq_pick_t rfl rfl) rfl rfl rfl ?_
                  refine WL.nil ?_
                  refine WE.then_normal ?_
                  refine WC.sub (fr' := [(0, _), (2, _), (7, _), (8, _), (10, _), (61, _)]) ?_ ⟨rfl, rfl, rfl, rfl, rfl, rfl, trivial⟩
                  refine WC.cond_t rfl ?_
                  refine WC.seq ?_
                  refine WC.region ?_
                  refine WL.q (oq_assign rfl) rfl rfl rfl ?_
                  refine WL.nil ?_
                  refine WE.then_normal ?_
                  refine WC.sub (fr' := [(6, _)]) ?_ ⟨rfl, trivial⟩
                  refine WC.ret ?_
                  refine WE.then_ret ?_
                  refine WE.block_ret ?_
                  refine WE.then_ret ?_
                  refine WE.then_ret ?_
                  refine WE.block_ret ?_
                  refine WE.then_ret ?_
                  refine WE.endR (.inl rfl) (res1 Try.results7 rfl) ?_
                  -- end 4
                  first | (rw [← hf (by omega), edec_step, estep_zero (by omega) hp (by omega)]; done) | (rw [← hf (by omega), edec_step, estep_cond (by omega) hp (by rw [← hc0]; omega)]; done) | (rw [hz (by omega)])
                ·
                  try simp only [Bool.not_eq_eq_eq_not, Bool.not_true, Bool.not_false, decide_eq_true_eq, decide_eq_false_iff_not, Int.not_lt, Int.not_le, ne_eq, Decidable.not_not, ← List.length_eq_zero_iff] at s13_4
                  refine WL.q (oq_move rfl) rfl rfl rfl ?_
                  refine WL.q (oq_ixaddr hrd Try.underlying22 ty21 rfl rfl (by (first | omega | (simp only [List.length_cons, List.length_nil, List.length_append, List.length_drop, List.length_take]; omega)))) rfl rfl rfl ?_
                  refine WL.q (oq_load_el (i := 0) (u := .int .i32 c0) hrd (.head _) flat21 rfl (by decide) rfl) rfl rfl rfl ?_
                  refine WL.q (oq_conv Try.underlying21 Try.underlying3 rfl (by rw [i64_lo, i64_hi]; (first | omega | (simp only [List.length_cons, List.length_nil, List.length_append, List.length_drop, List.length_take]; omega)))) rfl rfl rfl ?_
                  refine WL.q (oq_move rfl) rfl rfl rfl ?_
                  refine WL.q (oq_len_rd hrt Try.underlying23 rfl) rfl rfl rfl ?_
                  refine WL.q (oq_geq rfl rfl) rfl rfl rfl ?_
                  refine WL.q (oq_pick_f rfl rfl) rfl rfl rfl ?_
                  refine WL.nil ?_
                  refine WE.then_normal ?_
                  refine WC.sub (fr' := [(0, _), (2, _), (7, _), (8, _), (10, _), (61, _)]) ?_ ⟨rfl, rfl, rfl, rfl, rfl, rfl, trivial⟩
                  refine WC.cond rfl (fun q13 => ?_) (fun q13 => ?_)
                  ·
                    try simp only [Bool.not_eq_eq_eq_not, Bool.not_true, Bool.not_false, decide_eq_true_eq, decide_eq_false_iff_not, Int.not_lt, Int.not_le, ne_eq, Decidable.not_not, ← List.length_eq_zero_iff] at q13
                    refine WC.seq ?_
                    refine WC.region ?_
                    refine WL.q (oq_assign rfl) rfl rfl rfl ?_
                    refine WL.nil ?_
                    refine WE.then_normal ?_
                    refine WC.sub (fr' := [(6, _)]) ?_ ⟨rfl, trivial⟩
                    refine WC.ret ?_
                    refine WE.then_ret ?_
                    refine WE.block_ret ?_
                    refine WE.then_ret ?_
                    refine WE.then_ret ?_
                    refine WE.block_ret ?_
                    refine WE.then_ret ?_
                    refine WE.endR (.inl rfl) (res1 Try.results7 rfl) ?_
                    -- end 5
                    first | (rw [← hf (by omega), edec_step, estep_zero (by omega) hp (by omega)]; done) | (rw [← hf (by omega), edec_step, estep_cond (by omega) hp (by rw [← hc0]; omega)]; done) | (rw [hz (by omega)])
                  ·
                    try simp only [Bool.not_eq_eq_eq_not, Bool.not_true, Bool.not_false, decide_eq_true_eq, decide_eq_false_iff_not, Int.not_lt, Int.not_le, ne_eq, Decidable.not_not, ← List.length_eq_zero_iff] at q13
                    refine WC.skip ?_
                    refine WE.then_normal ?_
                    refine WC.sub (fr' := [(0, _), (2, _), (7, _), (8, _), (10, _)]) ?_ ⟨rfl, rfl, rfl, rfl, rfl, trivial⟩
                    refine WC.seq ?_
                    refine WC.region ?_
                    refine WL.q (oq_move rfl) rfl rfl rfl ?_
                    refine WL.q (oq_move rfl) rfl rfl rfl ?_
                    refine WL.q (oq_ixaddr hrd Try.underlying22 ty21 rfl rfl (by (first | omega | (simp only [List.length_cons, List.length_nil, List.length_append, List.length_drop, List.length_take]; omega)))) rfl rfl rfl ?_
                    refine WL.q (oq_load_el (i := 0) (u := .int .i32 c0) hrd (.head _) flat21 rfl (by decide) rfl) rfl rfl rfl ?_
                    refine WL.q (oq_ixaddr hrt Try.underlying23 ty4 rfl rfl (by (first | omega | (simp only [List.length_cons, List.length_nil, List.length_append, List.length_drop, List.length_take]; omega)))) rfl rfl rfl ?_
                    refine WL.q (oq_load_bool hrt (.head _) flat4 rfl (by (first | omega | (simp only [List.length_cons, List.length_nil, List.length_append, List.length_drop, List.length_take]; omega))) (by exact Eq.refl (Int.toNat _))) rfl rfl rfl ?_
                    refine WL.q (oq_move rfl) rfl rfl rfl ?_
                    refine WL.q (oq_lss rfl rfl) rfl rfl rfl ?_
                    refine WL.q (oq_bneq Try.underlying4 rfl rfl) rfl rfl rfl ?_
                    refine WL.nil ?_
                    refine WE.then_normal ?_
                    refine WC.sub (fr' := [(0, _), (2, _), (8, _), (10, _), (70, _)]) ?_ ⟨rfl, rfl, rfl, rfl, rfl, trivial⟩
                    refine WC.cond rfl (fun q15 => ?_) (fun q15 => ?_)
                    ·
                      try simp only [Bool.not_eq_eq_eq_not, Bool.not_true, Bool.not_false, decide_eq_true_eq, decide_eq_false_iff_not, Int.not_lt, Int.not_le, ne_eq, Decidable.not_not, ← List.length_eq_zero_iff] at q15
                      refine WC.region ?_
                      refine WL.q (oq_move rfl) rfl rfl rfl ?_
                      refine WL.q (oq_ixaddr hrd Try.underlying22 ty21 rfl rfl (by (first | omega | (simp only [List.length_cons, List.length_nil, List.length_append, List.length_drop, List.length_take]; omega)))) rfl rfl rfl ?_
                      refine WL.q (oq_load_el (i := 1) (u := .int .i32 h0) hrd (.head _) flat21 rfl (by decide) rfl) rfl rfl rfl ?_
                      refine WL.q (oq_conv Try.underlying21 Try.underlying2 rfl (by rw [i64_lo, i64_hi]; (first | omega | (simp only [List.length_cons, List.length_nil, List.length_append, List.length_drop, List.length_take]; omega)))) rfl rfl rfl ?_
                      refine WL.q (oq_assign rfl) rfl rfl rfl ?_
                      refine WL.nil ?_
                      refine WE.block_normal ?_
                      refine WE.then_normal ?_
                      refine WC.sub (fr' := [(0, _), (2, _), (7, _), (8, _)]) ?_ ⟨rfl, rfl, rfl, rfl, trivial⟩
                      refine WC.region ?_
                      refine WL.q (oq_move rfl) rfl rfl rfl ?_
                      refine WL.q (oq_add rfl rfl (by rw [i64_lo, i64_hi]; (first | omega | (simp only [List.length_cons, List.length_nil, List.length_append, List.length_drop, List.length_take]; omega)))) rfl rfl rfl ?_
                      refine WL.q (oq_assign rfl) rfl rfl rfl ?_
                      refine WL.nil ?_
                      refine WE.again (h0, n + 1) ?_ ?_ ⟨rfl, rfl, rfl, rfl, trivial⟩ (List.Perm.refl _)
                      · try dsimp only   -- again 0
                        refine ⟨by omega, by omega, fun hn2 => ?_, fun hn2 => ?_⟩
                        · rw [← hf (by omega), show ns.length - n = (ns.length - (n + 1)) + 1 by omega]
                          exact (edec_next q5 hp (by omega) (by omega) (by rw [← hc0]; omega) (by rw [← hc0, bne_comm, if_pos (by simpa using q15), ← hh0])).symm
                        · rw [← hf (by omega), show ns.length - n = 0 by omega]; exact edec_0 q5
                      · (try dsimp only); omega
                    ·
                      try simp only [Bool.not_eq_eq_eq_not, Bool.not_true, Bool.not_false, decide_eq_true_eq, decide_eq_false_iff_not, Int.not_lt, Int.not_le, ne_eq, Decidable.not_not, ← List.length_eq_zero_iff] at q15
                      refine WC.region ?_
                      refine WL.q (oq_move rfl) rfl rfl rfl ?_
                      refine WL.q (oq_ixaddr hrd Try.underlying22 ty21 rfl rfl (by (first | omega | (simp only [List.length_cons, List.length_nil, List.length_append, List.length_drop, List.length_take]; omega)))) rfl rfl rfl ?_
                      refine WL.q (oq_load_el (i := 2) (u := .int .i32 l0) hrd (.head _) flat21 rfl (by decide) rfl) rfl rfl rfl ?_
                      refine WL.q (oq_conv Try.underlying21 Try.underlying2 rfl (by rw [i64_lo, i64_hi]; (first | omega | (simp only [List.length_cons, List.length_nil, List.length_append, List.length_drop, List.length_take]; omega)))) rfl rfl rfl ?_
                      refine WL.q (oq_assign rfl) rfl rfl rfl ?_
                      refine WL.nil ?_
                      refine WE.block_normal ?_
                      refine WE.then_normal ?_
                      refine WC.sub (fr' := [(0, _), (2, _), (7, _), (8, _)]) ?_ ⟨rfl, rfl, rfl, rfl, trivial⟩
                      refine WC.region ?_
                      refine WL.q (oq_move rfl) rfl rfl rfl ?_
                      refine WL.q (oq_add rfl rfl (by rw [i64_lo, i64_hi]; (first | omega | (simp only [List.length_cons, List.length_nil, List.length_append, List.length_drop, List.length_take]; omega)))) rfl rfl rfl ?_
                      refine WL.q (oq_assign rfl) rfl rfl rfl ?_
                      refine WL.nil ?_
                      refine WE.again (l0, n + 1) ?_ ?_ ⟨rfl, rfl, rfl, rfl, trivial⟩ (List.Perm.refl _)
                      · try dsimp only   -- again 1
                        refine ⟨by omega, by omega, fun hn2 => ?_, fun hn2 => ?_⟩
                        · rw [← hf (by omega), show ns.length - n = (ns.length - (n + 1)) + 1 by omega]
                          exact (edec_next q5 hp (by omega) (by omega) (by rw [← hc0]; omega) (by rw [← hc0, bne_comm, if_neg (by simpa using q15), ← hl0])).symm
                        · rw [← hf (by omega), show ns.length - n = 0 by omega]; exact edec_0 q5
                      · (try dsimp only); omega
    ·
      try simp only [Bool.not_eq_eq_eq_not, Bool.not_true, Bool.not_false, decide_eq_true_eq, decide_eq_false_iff_not, Int.not_lt, Int.not_le, ne_eq, Decidable.not_not, ← List.length_eq_zero_iff] at q3
      refine WC.exit ?_
      refine WE.then_exit ?_
      refine WE.then_exit ?_
      refine WE.block_same ?_
      refine WE.then_normal ?_
      refine WC.sub (fr' := []) ?_ trivial
      refine WC.seq ?_
      refine WC.region ?_
      refine WL.q (oq_assign rfl) rfl rfl rfl ?_
      refine WL.nil ?_
      refine WE.then_normal ?_
      refine WC.sub (fr' := [(6, _)]) ?_ ⟨rfl, trivial⟩
      refine WC.ret ?_
      refine WE.endR (.inl rfl) (res1 Try.results7 rfl) ?_
      -- end 6
      first | (rw [← hf (by omega), edec_step, estep_zero (by omega) hp (by omega)]; done) | (rw [← hf (by omega), edec_step, estep_cond (by omega) hp (by rw [← hc0]; omega)]; done) | (rw [hz (by omega)])

/-- given.example/pub-tinwright/laws.FnEDecides -/
theorem law (vn vt : Value) (A : Hp) (ns : List Int) (ts : List Bool) (hrn : RdS 1 vn A ns.length (intsV .i32 ns)) (hrt : RdS 1 vt A ts.length (boolsV ts)) (hnr : ∀ z ∈ ns, -2147483648 ≤ z ∧ z ≤ 2147483647) (root : Int) (hroot : -2147483648 ≤ root ∧ root ≤ 2147483647) : FnR Try.prog 3 [vn, .int .i32 root, vt] A (.bool true) := by
  refine FnR.enter (n := 54) Try.func3 rfl rfl fun w0 => ?_
  refine WC.sub (fr' := [(0, _), (1, _), (2, _)]) ?_ ⟨rfl, rfl, rfl, trivial⟩
  refine WC.seq ?_
  refine WC.region ?_
  refine WL.q (oq_assign rfl) rfl rfl rfl ?_
  refine WL.nil ?_
  refine WE.then_normal ?_
  refine WC.sub (fr' := [(0, _), (1, _), (2, _)]) ?_ ⟨rfl, rfl, rfl, trivial⟩
  refine WC.seq ?_
  refine WC.seq ?_
  refine WC.region ?_
  refine WL.q (oq_move rfl) rfl rfl rfl ?_
  refine WL.q (oq_len_rd hrn Try.underlying22 rfl) rfl rfl rfl ?_
  refine WL.q (oq_gtr rfl rfl) rfl rfl rfl ?_
  refine WL.q (oq_move rfl) rfl rfl rfl ?_
  refine WL.split 11 rfl (fun s1_3 => ?_) (fun s1_3 => ?_)
  ·
    try simp only [Bool.not_eq_eq_eq_not, Bool.not_true, Bool.not_false, decide_eq_true_eq, decide_eq_false_iff_not, Int.not_lt, Int.not_le, ne_eq, Decidable.not_not, ← List.length_eq_zero_iff] at s1_3
    refine WL.skip rfl rfl rfl ?_
    refine WL.skip rfl rfl rfl ?_
    refine WL.skip rfl rfl rfl ?_
    refine WL.q (oq_pick_t rfl rfl) rfl rfl rfl ?_
    refine WL.nil ?_
    refine WE.then_normal ?_
    refine WC.sub (fr' := [(0, _), (1, _), (2, _), (15, _)]) ?_ ⟨rfl, rfl, rfl, rfl, trivial⟩
    refine WC.cond_t rfl ?_
    refine WC.seq ?_
    refine WC.region ?_
    refine WL.q (oq_assign rfl) rfl rfl rfl ?_
    refine WL.nil ?_
    refine WE.then_normal ?_
    refine WC.sub (fr' := [(6, _)]) ?_ ⟨rfl, trivial⟩
    refine WC.ret ?_
    refine WE.then_ret ?_
    refine WE.endR (.inl rfl) (res1 Try.results3 rfl) ?_
    -- end 0
    first | rfl | (exfalso; simp_all; done)
  ·
    try simp only [Bool.not_eq_eq_eq_not, Bool.not_true, Bool.not_false, decide_eq_true_eq, decide_eq_false_iff_not, Int.not_lt, Int.not_le, ne_eq, Decidable.not_not, ← List.length_eq_zero_iff] at s1_3
    refine WL.q (oq_move rfl) rfl rfl rfl ?_
    refine WL.q (oq_len_rd hrt Try.underlying23 rfl) rfl rfl rfl ?_
    refine WL.q (oq_gtr rfl rfl) rfl rfl rfl ?_
    refine WL.q (oq_pick_f rfl rfl) rfl rfl rfl ?_
    refine WL.nil ?_
    refine WE.then_normal ?_
    refine WC.sub (fr' := [(0, _), (1, _), (2, _), (15, _)]) ?_ ⟨rfl, rfl, rfl, rfl, trivial⟩
    refine WC.cond rfl (fun q1 => ?_) (fun q1 => ?_)
    ·
      try simp only [Bool.not_eq_eq_eq_not, Bool.not_true, Bool.not_false, decide_eq_true_eq, decide_eq_false_iff_not, Int.not_lt, Int.not_le, ne_eq, Decidable.not_not, ← List.length_eq_zero_iff] at q1
      refine WC.seq ?_
      refine WC.region ?_
      refine WL.q (oq_assign rfl) rfl rfl rfl ?_
      refine WL.nil ?_
      refine WE.then_normal ?_
      refine WC.sub (fr' := [(6, _)]) ?_ ⟨rfl, trivial⟩
      refine WC.ret ?_
      refine WE.then_ret ?_
      refine WE.endR (.inl rfl) (res1 Try.results3 rfl) ?_
      -- end 1
      first | rfl | (exfalso; simp_all; done)
    ·
      try simp only [Bool.not_eq_eq_eq_not, Bool.not_true, Bool.not_false, decide_eq_true_eq, decide_eq_false_iff_not, Int.not_lt, Int.not_le, ne_eq, Decidable.not_not, ← List.length_eq_zero_iff] at q1
      refine WC.skip ?_
      refine WE.then_normal ?_
      refine WC.sub (fr' := [(0, _), (1, _), (2, _)]) ?_ ⟨rfl, rfl, rfl, trivial⟩
      refine WC.seq ?_
      refine WC.seq ?_
      refine WC.region ?_
      refine WL.q (oq_move rfl) rfl rfl rfl ?_
      refine WL.q (oq_len_rd hrn Try.underlying22 rfl) rfl rfl rfl ?_
      refine WL.q (oq_gtr rfl rfl) rfl rfl rfl ?_
      refine WL.q (oq_move rfl) rfl rfl rfl ?_
      refine WL.split 19 rfl (fun s3_3 => ?_) (fun s3_3 => ?_)
      ·
        try simp only [Bool.not_eq_eq_eq_not, Bool.not_true, Bool.not_false, decide_eq_true_eq, decide_eq_false_iff_not, Int.not_lt, Int.not_le, ne_eq, Decidable.not_not, ← List.length_eq_zero_iff] at s3_3
        refine WL.skip rfl rfl rfl ?_
        refine WL.skip rfl rfl rfl ?_
        refine WL.skip rfl rfl rfl ?_
        refine WL.q (oq_pick_t rfl rfl) rfl rfl rfl ?_
        refine WL.q (oq_move rfl) rfl rfl rfl ?_
        refine WL.skip rfl rfl rfl ?_
        refine WL.skip rfl rfl rfl ?_
        refine WL.q (oq_pick_t rfl rfl) rfl rfl rfl ?_
        refine WL.nil ?_
        refine WE.then_normal ?_
        refine WC.sub (fr' := [(0, _), (1, _), (2, _), (27, _)]) ?_ ⟨rfl, rfl, rfl, rfl, trivial⟩
        refine WC.cond_t rfl ?_
        refine WC.seq ?_
        refine WC.region ?_
        refine WL.qc (oq_call (L2.eAwake) call5 rfl) rfl rfl rfl ?_
        refine WL.q (oq_assign rfl) rfl rfl rfl ?_
        refine WL.nil ?_
        refine WE.then_normal ?_
        refine WC.sub (fr' := [(6, _)]) ?_ ⟨rfl, trivial⟩
        refine WC.ret ?_
        refine WE.then_ret ?_
        refine WE.endR (.inl rfl) (res1 Try.results3 rfl) ?_
        -- end 2
        first | rfl | (exfalso; simp_all; done)
      ·
        try simp only [Bool.not_eq_eq_eq_not, Bool.not_true, Bool.not_false, decide_eq_true_eq, decide_eq_false_iff_not, Int.not_lt, Int.not_le, ne_eq, Decidable.not_not, ← List.length_eq_zero_iff] at s3_3
        refine WL.q (oq_move rfl) rfl rfl rfl ?_
        refine WL.q (oq_len_rd hrt Try.underlying23 rfl) rfl rfl rfl ?_
        refine WL.q (oq_gtr rfl rfl) rfl rfl rfl ?_
        refine WL.q (oq_pick_f rfl rfl) rfl rfl rfl ?_
        refine WL.q (oq_move rfl) rfl rfl rfl ?_
        refine WL.split 24 rfl (fun s3_8 => ?_) (fun s3_8 => ?_)
        ·
          try simp only [Bool.not_eq_eq_eq_not, Bool.not_true, Bool.not_false, decide_eq_true_eq, decide_eq_false_iff_not, Int.not_lt, Int.not_le, ne_eq, Decidable.not_not, ← List.length_eq_zero_iff] at s3_8
          refine WL.skip rfl rfl rfl ?_
          refine WL.skip rfl rfl rfl ?_
          refine WL.q (oq_pick_t rfl rfl) rfl rfl rfl ?_
          refine WL.nil ?_
          refine WE.then_normal ?_
          refine WC.sub (fr' := [(0, _), (1, _), (2, _), (27, _)]) ?_ ⟨rfl, rfl, rfl, rfl, trivial⟩
          refine WC.cond_t rfl ?_
          refine WC.seq ?_
          refine WC.region ?_
          refine WL.qc (oq_call (L2.eAwake) call5 rfl) rfl rfl rfl ?_
          refine WL.q (oq_assign rfl) rfl rfl rfl ?_
          refine WL.nil ?_
          refine WE.then_normal ?_
          refine WC.sub (fr' := [(6, _)]) ?_ ⟨rfl, trivial⟩
          refine WC.ret ?_
          refine WE.then_ret ?_
          refine WE.endR (.inl rfl) (res1 Try.results3 rfl) ?_
          -- end 3
          first | rfl | (exfalso; simp_all; done)
        ·
          try simp only [Bool.not_eq_eq_eq_not, Bool.not_true, Bool.not_false, decide_eq_true_eq, decide_eq_false_iff_not, Int.not_lt, Int.not_le, ne_eq, Decidable.not_not, ← List.length_eq_zero_iff] at s3_8
          refine WL.q (oq_move rfl) rfl rfl rfl ?_
          refine WL.q (oq_lss rfl rfl) rfl rfl rfl ?_
          refine WL.q (oq_pick_f rfl rfl) rfl rfl rfl ?_
          refine WL.nil ?_
          refine WE.then_normal ?_
          refine WC.sub (fr' := [(0, _), (1, _), (2, _), (27, _)]) ?_ ⟨rfl, rfl, rfl, rfl, trivial⟩
          refine WC.cond rfl (fun q3 => ?_) (fun q3 => ?_)
          ·
            try simp only [Bool.not_eq_eq_eq_not, Bool.not_true, Bool.not_false, decide_eq_true_eq, decide_eq_false_iff_not, Int.not_lt, Int.not_le, ne_eq, Decidable.not_not, ← List.length_eq_zero_iff] at q3
            refine WC.seq ?_
            refine WC.region ?_
            refine WL.qc (oq_call (L2.eAwake) call5 rfl) rfl rfl rfl ?_
            refine WL.q (oq_assign rfl) rfl rfl rfl ?_
            refine WL.nil ?_
            refine WE.then_normal ?_
            refine WC.sub (fr' := [(6, _)]) ?_ ⟨rfl, trivial⟩
            refine WC.ret ?_
            refine WE.then_ret ?_
            refine WE.endR (.inl rfl) (res1 Try.results3 rfl) ?_
            -- end 4
            first | rfl | (exfalso; simp_all; done)
          ·
            try simp only [Bool.not_eq_eq_eq_not, Bool.not_true, Bool.not_false, decide_eq_true_eq, decide_eq_false_iff_not, Int.not_lt, Int.not_le, ne_eq, Decidable.not_not, ← List.length_eq_zero_iff] at q3
            refine WC.skip ?_
            refine WE.then_normal ?_
            refine WC.sub (fr' := [(0, _), (1, _), (2, _)]) ?_ ⟨rfl, rfl, rfl, trivial⟩
            refine WC.seq ?_
            refine WC.seq ?_
            refine WC.region ?_
            refine WL.q (oq_assign rfl) rfl rfl rfl ?_
            refine WL.nil ?_
            refine WE.then_normal ?_
            refine WC.sub (fr' := [(0, _), (1, _), (2, _), (7, _)]) ?_ ⟨rfl, rfl, rfl, rfl, trivial⟩
            refine WC.block ?_
            refine WC.loop (ι := Nat) (fun (i : Nat) => [(0, vn), (1, .int .i32 root), (2, vt), (7, I (i : Int))]) (fun (i : Nat) => [A]) (fun (i : Nat) => i ≤ ns.length ∧ ∀ k, k < i → -100000000 ≤ ns.getD k 0) (fun (i : Nat) => ns.length - i) (0) ?_ ⟨rfl, rfl, rfl, rfl, trivial⟩ (List.Perm.refl _) ?_
            · try dsimp only
              exact ⟨by omega, fun k hk => by omega⟩
            · rintro i hp
              try dsimp only at hp
              obtain ⟨hi, hf⟩ := hp
              show WC _ _ _ _ _ _ ([(0, vn), (1, .int .i32 root), (2, vt), (7, I (i : Int))]) ([A])
              refine WC.seq ?_
              refine WC.seq ?_
              refine WC.region ?_
              refine WL.q (oq_move rfl) rfl rfl rfl ?_
              refine WL.q (oq_move rfl) rfl rfl rfl ?_
              refine WL.q (oq_len_rd hrn Try.underlying22 rfl) rfl rfl rfl ?_
              refine WL.q (oq_lss rfl rfl) rfl rfl rfl ?_
              refine WL.nil ?_
              refine WE.then_normal ?_
              refine WC.sub (fr' := [(0, _), (1, _), (2, _), (7, _), (32, _)]) ?_ ⟨rfl, rfl, rfl, rfl, rfl, trivial⟩
              refine WC.cond rfl (fun q6 => ?_) (fun q6 => ?_)
              ·
                try simp only [Bool.not_eq_eq_eq_not, Bool.not_true, Bool.not_false, decide_eq_true_eq, decide_eq_false_iff_not, Int.not_lt, Int.not_le, ne_eq, Decidable.not_not, ← List.length_eq_zero_iff] at q6
                refine WC.skip ?_
                refine WE.then_normal ?_
                refine WC.sub (fr' := [(0, _), (1, _), (2, _), (7, _)]) ?_ ⟨rfl, rfl, rfl, rfl, trivial⟩
                refine WC.seq ?_
                refine WC.block ?_
                refine WC.seq ?_
                refine WC.region ?_
                refine WL.q (oq_move rfl) rfl rfl rfl ?_
                refine WL.q (oq_move rfl) rfl rfl rfl ?_
                refine WL.q (oq_ixaddr hrn Try.underlying22 ty21 rfl rfl (by (first | omega | (simp only [List.length_cons, List.length_nil, List.length_append, List.length_drop, List.length_take]; omega)))) rfl rfl rfl ?_
                refine WL.q (oq_load_int hrn (.head _) flat21 rfl (by (first | omega | (simp only [List.length_cons, List.length_nil, List.length_append, List.length_drop, List.length_take]; omega))) (by first | exact Int.toNat_natCast _ | exact rfl)) rfl rfl rfl ?_
                refine WL.q (oq_lss rfl rfl) rfl rfl rfl ?_
                refine WL.nil ?_
                refine WE.then_normal ?_
                refine WC.sub (fr' := [(0, _), (1, _), (2, _), (7, _), (39, _)]) ?_ ⟨rfl, rfl, rfl, rfl, rfl, trivial⟩
                refine WC.cond rfl (fun q8 => ?_) (fun q8 => ?_)
                ·
                  try simp only [Bool.not_eq_eq_eq_not, Bool.not_true, Bool.not_false, decide_eq_true_eq, decide_eq_false_iff_not, Int.not_lt, Int.not_le, ne_eq, Decidable.not_not, ← List.length_eq_zero_iff] at q8
                  refine WC.seq ?_
                  refine WC.region ?_
                  refine WL.qc (oq_call (L2.eAwake) call5 rfl) rfl rfl rfl ?_
                  refine WL.q (oq_assign rfl) rfl rfl rfl ?_
                  refine WL.nil ?_
                  refine WE.then_normal ?_
                  refine WC.sub (fr' := [(6, _)]) ?_ ⟨rfl, trivial⟩
                  refine WC.ret ?_
                  refine WE.block_ret ?_
                  refine WE.then_ret ?_
                  refine WE.then_ret ?_
                  refine WE.block_ret ?_
                  refine WE.then_ret ?_
                  refine WE.endR (.inl rfl) (res1 Try.results3 rfl) ?_
                  -- end 5
                  first | rfl | (exfalso; simp_all; done)
                ·
                  try simp only [Bool.not_eq_eq_eq_not, Bool.not_true, Bool.not_false, decide_eq_true_eq, decide_eq_false_iff_not, Int.not_lt, Int.not_le, ne_eq, Decidable.not_not, ← List.length_eq_zero_iff] at q8
                  refine WC.skip ?_
                  refine WE.block_normal ?_
                  refine WE.then_normal ?_
                  refine WC.sub (fr' := [(0, _), (1, _), (2, _), (7, _)]) ?_ ⟨rfl, rfl, rfl, rfl, trivial⟩
                  refine WC.region ?_
                  refine WL.q (oq_move rfl) rfl rfl rfl ?_
                  refine WL.q (oq_add rfl rfl (by rw [i64_lo, i64_hi]; (first | omega | (simp only [List.length_cons, List.length_nil, List.length_append, List.length_drop, List.length_take]; omega)))) rfl rfl rfl ?_
                  refine WL.q (oq_assign rfl) rfl rfl rfl ?_
                  refine WL.nil ?_
                  refine WE.again (i + 1) ?_ ?_ ⟨rfl, rfl, rfl, rfl, trivial⟩ (List.Perm.refl _)
                  · try dsimp only   -- again 0
                    refine ⟨by omega, fun k hk => ?_⟩
                    rcases Nat.lt_or_ge k i with h | h
                    · exact hf k h
                    · rw [show k = i by omega]; omega
                  · (try dsimp only); omega
              ·
                try simp only [Bool.not_eq_eq_eq_not, Bool.not_true, Bool.not_false, decide_eq_true_eq, decide_eq_false_iff_not, Int.not_lt, Int.not_le, ne_eq, Decidable.not_not, ← List.length_eq_zero_iff] at q6
                refine WC.exit ?_
                refine WE.then_exit ?_
                refine WE.then_exit ?_
                refine WE.block_same ?_
                refine WE.then_normal ?_
                refine WC.sub (fr' := [(0, _), (1, _), (2, _)]) ?_ ⟨rfl, rfl, rfl, trivial⟩
                refine WC.seq ?_
                have hns : ∀ z ∈ ns, -100000000 ≤ z ∧ z ≤ 2147483647 := fun z hz => ⟨by
                  obtain ⟨k, hk, rfl⟩ := List.mem_iff_getElem.1 hz
                  have := hf k (by omega)
                  rwa [List.getD_eq_getElem?_getD, List.getElem?_eq_getElem hk] at this, (hnr z hz).2⟩
                refine WC.region ?_
                refine WL.q (oq_move rfl) rfl rfl rfl ?_
                refine WL.q (oq_move rfl) rfl rfl rfl ?_
                refine WL.q (oq_move rfl) rfl rfl rfl ?_
                refine WL.qc (oq_callRm (edecide vn vt A ns ts hrn hrt (by omega) hns root (by omega)) (.head _) call6 rfl) rfl rfl rfl ?_
                refine WL.q (oq_move rfl) rfl rfl rfl ?_
                refine WL.q (oq_move rfl) rfl rfl rfl ?_
                refine WL.q (oq_move rfl) rfl rfl rfl ?_
                refine WL.qc (oq_callRm (edecided vn vt A ns ts hrn hrt (by omega) hns root (by omega)) (.head _) call7 rfl) rfl rfl rfl ?_
                refine WL.q (oq_eql rfl rfl) rfl rfl rfl ?_
                refine WL.q (oq_move rfl) rfl rfl rfl ?_
                refine WL.split 50 rfl (fun s10_9 => ?_) (fun s10_9 => ?_)
                ·
                  try simp only [Bool.not_eq_eq_eq_not, Bool.not_true, Bool.not_false, decide_eq_true_eq, decide_eq_false_iff_not, Int.not_lt, Int.not_le, ne_eq, Decidable.not_not, ← List.length_eq_zero_iff] at s10_9
                  refine WL.add0 ?_
                  refine WL.qc (oq_callRm (edecide _ _ [] [] [] nilN nilT (by decide) (fun z hz => by cases hz) 100000005 (by decide)) (.head _) call6 rfl) rfl rfl rfl ?_
                  refine WL.nil0 ?_
                  refine WL.q (oq_eql rfl rfl) rfl rfl rfl ?_
                  refine WL.q (oq_pick_t rfl rfl) rfl rfl rfl ?_
                  refine WL.q (oq_assign rfl) rfl rfl rfl ?_
                  refine WL.nil ?_
                  refine WE.then_normal ?_
                  refine WC.sub (fr' := [(6, _)]) ?_ ⟨rfl, trivial⟩
                  refine WC.ret ?_
                  refine WE.endR (.inl rfl) (res1 Try.results3 rfl) ?_
                  -- end 6
                  first | rfl | (exfalso; simp_all; done)
                ·
                  try simp only [Bool.not_eq_eq_eq_not, Bool.not_true, Bool.not_false, decide_eq_true_eq, decide_eq_false_iff_not, Int.not_lt, Int.not_le, ne_eq, Decidable.not_not, ← List.length_eq_zero_iff] at s10_9
                  refine WL.skip rfl rfl rfl ?_
                  refine WL.skip rfl rfl rfl ?_
                  refine WL.q (oq_pick_f rfl rfl) rfl rfl rfl ?_
                  refine WL.q (oq_assign rfl) rfl rfl rfl ?_
                  refine WL.nil ?_
                  refine WE.then_normal ?_
                  refine WC.sub (fr' := [(6, _)]) ?_ ⟨rfl, trivial⟩
                  refine WC.ret ?_
                  refine WE.endR (.inl rfl) (res1 Try.results3 rfl) ?_
                  -- end 7
                  first | rfl | (exfalso; simp_all; done)

end D2
end Go.Proofs.Ytkdahfnedlijgaa
