/- Walks of the trimming of white space. -/
import Derived.Test.YtcgpajknehhdgaaDoorP3
import Derived.Test.YtcgpajknehhdgaaDoorVA
import Derived.Test.YtcgpajknehhdgaaDoorProg
namespace Go.Proofs.YtcgpajknehhdgaaDoor
open Go Go.RowKit V
set_option linter.unusedSimpArgs false
set_option linter.unusedVariables false
set_option maxRecDepth 10000
namespace H0
theorem call48 : Callable Tryd.prog 48 := ⟨_, Tryd.func48, rfl, by kernel_rfl⟩
/-- given.example/pub-tinwright/spec.hBlank -/
theorem hBlank (c : Int) : Fn0 Tryd.prog 48 [.int .u8 c] (.bool (blk c)) := by
  refine Fn0.enter (n := 13) Tryd.func48 rfl rfl fun w0 => ?_
  refine WC.sub (fr' := [(0, _)]) ?_ ⟨rfl, trivial⟩
  refine WC.seq ?_
  refine WC.region ?_
  refine WL.q (oq_assign rfl) rfl rfl rfl ?_
  refine WL.nil ?_
  refine WE.then_normal ?_
  refine WC.sub (fr' := [(0, _)]) ?_ ⟨rfl, trivial⟩
  refine WC.seq ?_
  refine WC.region ?_
  refine WL.q (oq_move rfl) rfl rfl rfl ?_
  refine WL.q (oq_eql rfl rfl) rfl rfl rfl ?_
  refine WL.q (oq_move rfl) rfl rfl rfl ?_
  refine WL.split 5 rfl (fun s1_2 => ?_) (fun s1_2 => ?_)
  ·
    try simp only [Bool.not_eq_eq_eq_not, Bool.not_true, Bool.not_false, decide_eq_true_eq, decide_eq_false_iff_not, Int.not_lt, Int.not_le, ne_eq, Decidable.not_not, ← List.length_eq_zero_iff] at s1_2
    refine WL.skip rfl rfl rfl ?_
    refine WL.skip rfl rfl rfl ?_
    refine WL.skip rfl rfl rfl ?_
    refine WL.skip rfl rfl rfl ?_
    refine WL.skip rfl rfl rfl ?_
    refine WL.skip rfl rfl rfl ?_
    refine WL.q (oq_pick_t rfl rfl) rfl rfl rfl ?_
    refine WL.q (oq_assign rfl) rfl rfl rfl ?_
    refine WL.nil ?_
    refine WE.then_normal ?_
    refine WC.sub (fr' := [(2, _)]) ?_ ⟨rfl, trivial⟩
    refine WC.ret ?_
    refine WE.end0 (.inl rfl) (res1 Tryd.results48 rfl) ?_
    -- end 0
    unfold blk; first | exact congrArg Value.bool (decide_eq_true (by omega)).symm | exact congrArg Value.bool (decide_eq_false (by omega)).symm | (congr 1; rw [Bool.eq_iff_iff]; simp only [decide_eq_true_eq]; omega)
  ·
    try simp only [Bool.not_eq_eq_eq_not, Bool.not_true, Bool.not_false, decide_eq_true_eq, decide_eq_false_iff_not, Int.not_lt, Int.not_le, ne_eq, Decidable.not_not, ← List.length_eq_zero_iff] at s1_2
    refine WL.q (oq_move rfl) rfl rfl rfl ?_
    refine WL.q (oq_geq rfl rfl) rfl rfl rfl ?_
    refine WL.q (oq_move rfl) rfl rfl rfl ?_
    refine WL.split 8 rfl (fun s1_5 => ?_) (fun s1_5 => ?_)
    ·
      try simp only [Bool.not_eq_eq_eq_not, Bool.not_true, Bool.not_false, decide_eq_true_eq, decide_eq_false_iff_not, Int.not_lt, Int.not_le, ne_eq, Decidable.not_not, ← List.length_eq_zero_iff] at s1_5
      refine WL.q (oq_move rfl) rfl rfl rfl ?_
      refine WL.q (oq_leq rfl rfl) rfl rfl rfl ?_
      refine WL.q (oq_pick_t rfl rfl) rfl rfl rfl ?_
      refine WL.q (oq_pick_f rfl rfl) rfl rfl rfl ?_
      refine WL.q (oq_assign rfl) rfl rfl rfl ?_
      refine WL.nil ?_
      refine WE.then_normal ?_
      refine WC.sub (fr' := [(2, _)]) ?_ ⟨rfl, trivial⟩
      refine WC.ret ?_
      refine WE.end0 (.inl rfl) (res1 Tryd.results48 rfl) ?_
      -- end 1
      unfold blk; first | exact congrArg Value.bool (decide_eq_true (by omega)).symm | exact congrArg Value.bool (decide_eq_false (by omega)).symm | (congr 1; rw [Bool.eq_iff_iff]; simp only [decide_eq_true_eq]; omega)
    ·
      try simp only [Bool.not_eq_eq_eq_not, Bool.not_true, Bool.not_false, decide_eq_true_eq, decide_eq_false_iff_not, Int.not_lt, Int.not_le, ne_eq, Decidable.not_not, ← List.length_eq_zero_iff] at s1_5
      refine WL.skip rfl rfl rfl ?_
      refine WL.skip rfl rfl rfl ?_
      refine WL.q (oq_pick_f rfl rfl) rfl rfl rfl ?_
      refine WL.q (oq_pick_f rfl rfl) rfl rfl rfl ?_
      refine WL.q (oq_assign rfl) rfl rfl rfl ?_
      refine WL.nil ?_
      refine WE.then_normal ?_
      refine WC.sub (fr' := [(2, _)]) ?_ ⟨rfl, trivial⟩
      refine WC.ret ?_
      refine WE.end0 (.inl rfl) (res1 Tryd.results48 rfl) ?_
      -- end 2
      unfold blk; first | exact congrArg Value.bool (decide_eq_true (by omega)).symm | exact congrArg Value.bool (decide_eq_false (by omega)).symm | (congr 1; rw [Bool.eq_iff_iff]; simp only [decide_eq_true_eq]; omega)

/-- given.example/pub-tinwright/spec.HTrim -/
theorem hTrim (s : List UInt8) (hs : s.length ≤ 4000000000) : Fn0 Tryd.prog 25 [S s] (S (trim s)) := by
  refine Fn0.enter (n := 28) Tryd.func25 rfl rfl fun w0 => ?_
  refine WC.sub (fr' := [(0, _)]) ?_ ⟨rfl, trivial⟩
  refine WC.seq ?_
  refine WC.region ?_
  refine WL.q (oq_assign rfl) rfl rfl rfl ?_
  refine WL.nil ?_
  refine WE.then_normal ?_
  refine WC.sub (fr' := [(0, _)]) ?_ ⟨rfl, trivial⟩
  refine WC.cut (ι := (List UInt8)) (fun (c1 : List UInt8) => [(0, S c1)]) (fun (c1 : List UInt8) => []) (fun (c1 : List UInt8) => c1.length ≤ s.length ∧ trimR c1 = trim s) ?_ ?_
  ·
    refine WC.block ?_
    refine WC.loop (ι := (List UInt8)) (fun (cur : List UInt8) => [(0, S cur)]) (fun (cur : List UInt8) => []) (fun (cur : List UInt8) => cur.length ≤ s.length ∧ trimL cur = trimL s) (fun (cur : List UInt8) => cur.length) (s) ?_ ⟨rfl, trivial⟩ (List.Perm.refl _) ?_
    · try dsimp only
      exact ⟨by omega, rfl⟩
    · rintro cur hp
      try dsimp only at hp
      obtain ⟨hl, hf⟩ := hp
      show WC _ _ _ _ _ _ ([(0, S cur)]) ([])
      refine WC.seq ?_
      refine WC.seq ?_
      refine WC.region ?_
      refine WL.q (oq_move rfl) rfl rfl rfl ?_
      refine WL.q (oq_sneq rfl rfl) rfl rfl rfl ?_
      refine WL.q (oq_move rfl) rfl rfl rfl ?_
      refine WL.split 5 rfl (fun s1_2 => ?_) (fun s1_2 => ?_)
      ·
        try simp only [Bool.not_eq_eq_eq_not, Bool.not_true, Bool.not_false, decide_eq_true_eq, decide_eq_false_iff_not, Int.not_lt, Int.not_le, ne_eq, Decidable.not_not, ← List.length_eq_zero_iff] at s1_2
        refine WL.q (oq_move rfl) rfl rfl rfl ?_
        refine WL.index_s Tryd.underlying9 rfl rfl (by (first | omega | (simp only [List.length_cons, List.length_nil, List.length_append, List.length_drop, List.length_take]; omega))) rfl rfl fun c1_4 hc1_4 hc1_4l hc1_4u => ?_
        refine WL.qc (oq_call (hBlank _) call48 rfl) rfl rfl rfl ?_
        refine WL.q (oq_pick_t rfl rfl) rfl rfl rfl ?_
        refine WL.nil ?_
        refine WE.then_normal ?_
        refine WC.sub (fr' := [(0, _), (9, _)]) ?_ ⟨rfl, rfl, trivial⟩
        refine WC.cond rfl (fun q1 => ?_) (fun q1 => ?_)
        ·
          try simp only [Bool.not_eq_eq_eq_not, Bool.not_true, Bool.not_false, decide_eq_true_eq, decide_eq_false_iff_not, Int.not_lt, Int.not_le, ne_eq, Decidable.not_not, ← List.length_eq_zero_iff] at q1
          refine WC.skip ?_
          refine WE.then_normal ?_
          refine WC.sub (fr' := [(0, _)]) ?_ ⟨rfl, trivial⟩
          refine WC.block ?_
          refine WC.region ?_
          refine WL.q (oq_move rfl) rfl rfl rfl ?_
          refine WL.q (oq_slice_s1 Tryd.underlying9 rfl rfl (by (first | omega | (simp only [List.length_cons, List.length_nil, List.length_append, List.length_drop, List.length_take]; omega)))) rfl rfl rfl ?_
          refine WL.q (oq_assign rfl) rfl rfl rfl ?_
          refine WL.nil ?_
          refine WE.block_normal ?_
          refine WE.again (cur.drop 1) ?_ ?_ ⟨rfl, trivial⟩ (List.Perm.refl _)
          · try dsimp only   -- again 0
            exact ⟨by simp; omega, by rw [← hf, trimL_step cur (by intro e; subst e; simp at s1_2) (by rw [← hc1_4]; exact q1)]⟩
          · (try dsimp only); simp; omega
        ·
          try simp only [Bool.not_eq_eq_eq_not, Bool.not_true, Bool.not_false, decide_eq_true_eq, decide_eq_false_iff_not, Int.not_lt, Int.not_le, ne_eq, Decidable.not_not, ← List.length_eq_zero_iff] at q1
          refine WC.exit ?_
          refine WE.then_exit ?_
          refine WE.then_exit ?_
          refine WE.block_same ?_
          refine WE.meet _ ?_ ⟨rfl, trivial⟩ (List.Perm.refl _)
          try dsimp only
          exact ⟨by omega, by unfold trim; rw [← hf]; first | rw [trimL_stop cur (.inr (by rw [← hc1_4]; simpa using q1))] | rw [trimL_stop cur (.inl (List.eq_nil_of_length_eq_zero (by omega)))]⟩   -- meet 0
      ·
        try simp only [Bool.not_eq_eq_eq_not, Bool.not_true, Bool.not_false, decide_eq_true_eq, decide_eq_false_iff_not, Int.not_lt, Int.not_le, ne_eq, Decidable.not_not, ← List.length_eq_zero_iff] at s1_2
        refine WL.skip rfl rfl rfl ?_
        refine WL.skip rfl rfl rfl ?_
        refine WL.skip rfl rfl rfl ?_
        refine WL.q (oq_pick_f rfl rfl) rfl rfl rfl ?_
        refine WL.nil ?_
        refine WE.then_normal ?_
        refine WC.sub (fr' := [(0, _), (9, _)]) ?_ ⟨rfl, rfl, trivial⟩
        refine WC.cond_f rfl ?_
        refine WC.exit ?_
        refine WE.then_exit ?_
        refine WE.then_exit ?_
        refine WE.block_same ?_
        refine WE.meet _ ?_ ⟨rfl, trivial⟩ (List.Perm.refl _)
        try dsimp only
        exact ⟨by omega, by unfold trim; rw [← hf]; first | rw [trimL_stop cur (.inr (by rw [← hc1_4]; simpa using q1))] | rw [trimL_stop cur (.inl (List.eq_nil_of_length_eq_zero (by omega)))]⟩   -- meet 1
  · rintro c1 hp
    try dsimp only at hp
    obtain ⟨hl1, hf1⟩ := hp
    show WC _ _ _ _ _ _ ([(0, S c1)]) ([])
    refine WC.seq ?_
    refine WC.block ?_
    refine WC.loop (ι := (List UInt8)) (fun (c2 : List UInt8) => [(0, S c2)]) (fun (c2 : List UInt8) => []) (fun (c2 : List UInt8) => c2.length ≤ s.length ∧ trimR c2 = trim s) (fun (c2 : List UInt8) => c2.length) (_) ?_ ⟨rfl, trivial⟩ (List.Perm.refl _) ?_
    · try dsimp only
      exact ⟨hl1, hf1⟩
    · rintro c2 hp
      try dsimp only at hp
      obtain ⟨hl2, hf2⟩ := hp
      show WC _ _ _ _ _ _ ([(0, S c2)]) ([])
      refine WC.seq ?_
      refine WC.seq ?_
      refine WC.region ?_
      refine WL.q (oq_move rfl) rfl rfl rfl ?_
      refine WL.q (oq_sneq rfl rfl) rfl rfl rfl ?_
      refine WL.q (oq_move rfl) rfl rfl rfl ?_
      refine WL.split 14 rfl (fun s3_2 => ?_) (fun s3_2 => ?_)
      ·
        try simp only [Bool.not_eq_eq_eq_not, Bool.not_true, Bool.not_false, decide_eq_true_eq, decide_eq_false_iff_not, Int.not_lt, Int.not_le, ne_eq, Decidable.not_not, ← List.length_eq_zero_iff] at s3_2
        refine WL.q (oq_move rfl) rfl rfl rfl ?_
        refine WL.q (oq_move rfl) rfl rfl rfl ?_
        refine WL.q (oq_len_s Tryd.underlying9 rfl) rfl rfl rfl ?_
        refine WL.q (oq_sub rfl rfl (by rw [i64_lo, i64_hi]; (first | omega | (simp only [List.length_cons, List.length_nil, List.length_append, List.length_drop, List.length_take]; omega)))) rfl rfl rfl ?_
        refine WL.index_s Tryd.underlying9 rfl rfl (by (first | omega | (simp only [List.length_cons, List.length_nil, List.length_append, List.length_drop, List.length_take]; omega))) rfl rfl fun c3_7 hc3_7 hc3_7l hc3_7u => ?_
        refine WL.qc (oq_call (hBlank _) call48 rfl) rfl rfl rfl ?_
        refine WL.q (oq_pick_t rfl rfl) rfl rfl rfl ?_
        refine WL.nil ?_
        refine WE.then_normal ?_
        refine WC.sub (fr' := [(0, _), (21, _)]) ?_ ⟨rfl, rfl, trivial⟩
        refine WC.cond rfl (fun q3 => ?_) (fun q3 => ?_)
        ·
          try simp only [Bool.not_eq_eq_eq_not, Bool.not_true, Bool.not_false, decide_eq_true_eq, decide_eq_false_iff_not, Int.not_lt, Int.not_le, ne_eq, Decidable.not_not, ← List.length_eq_zero_iff] at q3
          refine WC.skip ?_
          refine WE.then_normal ?_
          refine WC.sub (fr' := [(0, _)]) ?_ ⟨rfl, trivial⟩
          refine WC.block ?_
          refine WC.region ?_
          refine WL.q (oq_move rfl) rfl rfl rfl ?_
          refine WL.q (oq_move rfl) rfl rfl rfl ?_
          refine WL.q (oq_len_s Tryd.underlying9 rfl) rfl rfl rfl ?_
          refine WL.q (oq_sub rfl rfl (by rw [i64_lo, i64_hi]; (first | omega | (simp only [List.length_cons, List.length_nil, List.length_append, List.length_drop, List.length_take]; omega)))) rfl rfl rfl ?_
          refine WL.q (oq_slice_s0 Tryd.underlying9 rfl rfl (by (first | omega | (simp only [List.length_cons, List.length_nil, List.length_append, List.length_drop, List.length_take]; omega)))) rfl rfl rfl ?_
          refine WL.q (oq_assign rfl) rfl rfl rfl ?_
          refine WL.nil ?_
          refine WE.block_normal ?_
          refine WE.again (c2.take ((c2.length : Int) - 1).toNat) ?_ ?_ ⟨rfl, trivial⟩ (List.Perm.refl _)
          · try dsimp only   -- again 0
            exact ⟨by simp; omega, by rw [show ((c2.length : Int) - 1).toNat = c2.length - 1 by omega, trimR_step c2 (by intro e; subst e; simp at s3_2) (by rw [← hc3_7]; exact q3)]; exact hf2⟩
          · (try dsimp only); simp; omega
        ·
          try simp only [Bool.not_eq_eq_eq_not, Bool.not_true, Bool.not_false, decide_eq_true_eq, decide_eq_false_iff_not, Int.not_lt, Int.not_le, ne_eq, Decidable.not_not, ← List.length_eq_zero_iff] at q3
          refine WC.exit ?_
          refine WE.then_exit ?_
          refine WE.then_exit ?_
          refine WE.block_same ?_
          refine WE.then_normal ?_
          refine WC.sub (fr' := [(0, _)]) ?_ ⟨rfl, trivial⟩
          refine WC.seq ?_
          refine WC.region ?_
          refine WL.q (oq_move rfl) rfl rfl rfl ?_
          refine WL.q (oq_assign rfl) rfl rfl rfl ?_
          refine WL.nil ?_
          refine WE.then_normal ?_
          refine WC.sub (fr' := [(2, _)]) ?_ ⟨rfl, trivial⟩
          refine WC.ret ?_
          refine WE.end0 (.inl rfl) (res1 Tryd.results25 rfl) ?_
          -- end 0
          first | rw [← hf2, trimR_stop c2 (.inr (by rw [← hc3_7]; simpa using q3))] | rw [← hf2, trimR_stop c2 (.inl (List.eq_nil_of_length_eq_zero (by omega)))]
      ·
        try simp only [Bool.not_eq_eq_eq_not, Bool.not_true, Bool.not_false, decide_eq_true_eq, decide_eq_false_iff_not, Int.not_lt, Int.not_le, ne_eq, Decidable.not_not, ← List.length_eq_zero_iff] at s3_2
        refine WL.skip rfl rfl rfl ?_
        refine WL.skip rfl rfl rfl ?_
        refine WL.skip rfl rfl rfl ?_
        refine WL.skip rfl rfl rfl ?_
        refine WL.skip rfl rfl rfl ?_
        refine WL.skip rfl rfl rfl ?_
        refine WL.q (oq_pick_f rfl rfl) rfl rfl rfl ?_
        refine WL.nil ?_
        refine WE.then_normal ?_
        refine WC.sub (fr' := [(0, _), (21, _)]) ?_ ⟨rfl, rfl, trivial⟩
        refine WC.cond_f rfl ?_
        refine WC.exit ?_
        refine WE.then_exit ?_
        refine WE.then_exit ?_
        refine WE.block_same ?_
        refine WE.then_normal ?_
        refine WC.sub (fr' := [(0, _)]) ?_ ⟨rfl, trivial⟩
        refine WC.seq ?_
        refine WC.region ?_
        refine WL.q (oq_move rfl) rfl rfl rfl ?_
        refine WL.q (oq_assign rfl) rfl rfl rfl ?_
        refine WL.nil ?_
        refine WE.then_normal ?_
        refine WC.sub (fr' := [(2, _)]) ?_ ⟨rfl, trivial⟩
        refine WC.ret ?_
        refine WE.end0 (.inl rfl) (res1 Tryd.results25 rfl) ?_
        -- end 1
        first | rw [← hf2, trimR_stop c2 (.inr (by rw [← hc3_7]; simpa using q3))] | rw [← hf2, trimR_stop c2 (.inl (List.eq_nil_of_length_eq_zero (by omega)))]

end H0
end Go.Proofs.YtcgpajknehhdgaaDoor
