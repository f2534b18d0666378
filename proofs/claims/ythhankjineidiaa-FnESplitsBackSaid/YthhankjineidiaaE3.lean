/- The walk of the law on the parts of a text with the delimiter between them. -/
import Derived.Test.YthhankjineidiaaE2
namespace Go.Proofs.Ythhankjineidiaa
open Go Go.RowKit V L2 L1 E1 E2
set_option linter.unusedSimpArgs false
set_option linter.unusedVariables false
set_option maxRecDepth 10000
namespace E3
theorem call20 : Callable Try.prog 20 := ⟨_, Try.func20, rfl, by kernel_rfl⟩
theorem call29 : Callable Try.prog 29 := ⟨_, Try.func29, rfl, by kernel_rfl⟩
theorem flat9 : Flat Try.prog 9 := ⟨_, Try.underlying9, by simp⟩
theorem ty9 : Ty Try.prog 9 (S []) 1 16 := ty_of (by kernel_rfl)

/-- parts with a text between them -/
def jn (sep : List UInt8) : List (List UInt8) → List UInt8
  | [] => []
  | [a] => a
  | a :: b :: l => a ++ sep ++ jn sep (b :: l)
theorem jn_cons (sep a : List UInt8) (l : List (List UInt8)) (h : l ≠ []) : jn sep (a :: l) = a ++ sep ++ jn sep l := by
  cases l with
  | nil => exact absurd rfl h
  | cons b l => rfl
theorem jn_snoc (sep y : List UInt8) : ∀ (xs : List (List UInt8)), xs ≠ [] → jn sep (xs ++ [y]) = jn sep xs ++ sep ++ y := by
  intro xs
  induction xs with
  | nil => intro h; exact absurd rfl h
  | cons a xs ih =>
    intro _
    by_cases hx : xs = []
    · subst hx; rfl
    · rw [List.cons_append, jn_cons _ _ _ (by simp), ih hx, jn_cons _ _ _ hx]; simp
theorem jn_take (sep : List UInt8) (l : List (List UInt8)) (i : Nat) (h : i < l.length) : jn sep (l.take (i + 1)) = (if 0 < i then jn sep (l.take i) ++ sep else jn sep (l.take i)) ++ l.getD i [] := by
  rw [List.take_succ_eq_append_getElem h, List.getD_eq_getElem?_getD, List.getElem?_eq_getElem h]
  by_cases hi : 0 < i
  · rw [if_pos hi, jn_snoc _ _ _ (fun e => by have h2 := congrArg List.length e; rw [List.length_take, List.length_nil] at h2; omega)]; rfl
  · have h0 : i = 0 := by omega
    subst h0
    rw [if_neg hi]; rfl
theorem jn_take_len (sep : List UInt8) (l : List (List UInt8)) : ∀ (k i : Nat), i + k = l.length → (jn sep (l.take i)).length ≤ (jn sep l).length := by
  intro k
  induction k with
  | zero => intro i h; rw [List.take_of_length_le (by omega)]; omega
  | succ k ih =>
    intro i h
    have h1 := ih (i + 1) (by omega)
    rw [jn_take sep l i (by omega)] at h1
    split at h1 <;> simp at h1 <;> omega
theorem jn_take_le (sep s : List UInt8) (l : List (List UInt8)) (h : jn sep l = s) (i : Nat) (hi : i ≤ l.length) : (jn sep (l.take i)).length ≤ s.length := by
  rw [← h]; exact jn_take_len sep l (l.length - i) i (by omega)
theorem find_spec (sub : List UInt8) : ∀ (s : List UInt8) (i : Nat), find sub s = some i → (s.drop i).take sub.length = sub := by
  intro s
  induction s with
  | nil =>
    intro i h
    unfold find at h
    split at h
    · rename_i e; subst e; simp
    · cases h
  | cons c s ih =>
    intro i h
    unfold find at h
    split at h
    · rename_i e; cases h; simpa using e
    · cases hf : find sub s with
      | none => rw [hf] at h; cases h
      | some j =>
        rw [hf] at h
        simp at h
        subst h
        simpa using ih j hf
theorem splitS_ne (sep : List UInt8) (k : Nat) (s : List UInt8) : splitS sep k s ≠ [] := by
  cases k with
  | zero => simp [splitS]
  | succ k => unfold splitS; split <;> simp
theorem jn_splitS (sep : List UInt8) : ∀ (k : Nat) (s : List UInt8), jn sep (splitS sep k s) = s := by
  intro k
  induction k with
  | zero => intro s; rfl
  | succ k ih =>
    intro s
    show jn sep (match find sep s with | none => [s] | some i => s.take i :: splitS sep k (s.drop (i + sep.length))) = s
    cases hf : find sep s with
    | none => rfl
    | some i =>
      show jn sep (s.take i :: splitS sep k (s.drop (i + sep.length))) = s
      rw [jn_cons _ _ _ (splitS_ne _ _ _), ih]
      have h1 := find_spec sep s i hf
      have h2 : s.drop i = sep ++ s.drop (i + sep.length) := by
        rw [← List.drop_drop]
        conv => lhs; rw [← List.take_append_drop sep.length (s.drop i), h1]
      rw [List.append_assoc, ← h2, List.take_append_drop]
theorem jn_nil_cons (a : List UInt8) (l : List (List UInt8)) : jn [] (a :: l) = a ++ jn [] l := by
  cases l with
  | nil => simp [jn]
  | cons b l => simp [jn]
theorem jn_runes (s : List UInt8) : ∀ (m i : Nat), s.length ≤ i + m → jn [] (runes s i) = s.drop i := by
  intro m
  induction m with
  | zero => intro i h; rw [runes_end s i (by omega), List.drop_eq_nil_of_le (by omega)]; rfl
  | succ m ih =>
    intro i h
    by_cases hi : i < s.length
    · have hw := decAt_width s i hi
      rw [runes_step s i hi, jn_nil_cons, ih _ (by omega), ← List.drop_drop, List.take_append_drop]
    · rw [runes_end s i (by omega), List.drop_eq_nil_of_le (by omega)]; rfl
theorem jn_runesS (s : List UInt8) : ∀ (k i : Nat), jn [] (runesS s k i) = s.drop i := by
  intro k
  induction k with
  | zero =>
    intro i
    unfold runesS
    split
    · rfl
    · rw [List.drop_eq_nil_of_le (by omega)]; rfl
  | succ k ih =>
    intro i
    unfold runesS
    split
    · rw [jn_nil_cons, ih, ← List.drop_drop, List.take_append_drop]
    · rw [List.drop_eq_nil_of_le (by omega)]; rfl
theorem jn_want (s sep : List UInt8) (lim : Int) : jn sep (ewant s sep lim) = s := by
  unfold ewant
  split
  · rename_i h; subst h; rfl
  · split
    · rename_i h; subst h
      unfold erest
      split
      · exact jn_runesS s _ 0
      · exact jn_runes s s.length 0 (by omega)
    · unfold ecutR
      split
      · exact jn_splitS _ _ _
      · exact jn_splitS _ _ _
theorem splitS_len (sep : List UInt8) : ∀ (k : Nat) (s : List UInt8), (splitS sep k s).length ≤ k + 1 := by
  intro k
  induction k with
  | zero => intro s; simp [splitS]
  | succ k ih =>
    intro s
    unfold splitS
    split
    · simp
    · simp only [List.length_cons]; exact Nat.succ_le_succ (ih _)
theorem runesS_len (s : List UInt8) : ∀ (k i : Nat), (runesS s k i).length ≤ k + 1 := by
  intro k
  induction k with
  | zero => intro i; unfold runesS; split <;> simp
  | succ k ih =>
    intro i
    unfold runesS
    split
    · simp only [List.length_cons]; exact Nat.succ_le_succ (ih _)
    · simp
theorem want_len (s sep : List UInt8) (lim : Int) (h : 0 < lim) : ((ewant s sep lim).length : Int) ≤ lim := by
  unfold ewant
  split
  · simp; omega
  · split
    · unfold erest; rw [if_pos h]; have := runesS_len s (lim - 1 - ((0 : Nat) : Int)).toNat 0; omega
    · unfold ecutR; rw [if_pos h]; have := splitS_len sep (lim - 1 - ((0 : Nat) : Int)).toNat s; omega
theorem want_pos (s sep : List UInt8) (lim : Int) : 0 < (ewant s sep lim).length := by
  cases h : ewant s sep lim with
  | cons a l => simp
  | nil =>
    have h2 := jn_want s sep lim
    rw [h] at h2
    have h3 : s = [] := h2.symm
    unfold ewant at h; rw [if_pos h3] at h; cases h
/-- given.example/pub-tinwright/laws.FnESplitsBack -/
theorem law (s sep : List UInt8) (lim : Int) (hlim : -9223372036854775808 ≤ lim ∧ lim ≤ 9223372036854775807) : Fn0 Try.prog 9 [S s, S sep, I lim] (.bool true) := by
  obtain ⟨l, hl⟩ : ∃ l, ewant s sep lim = l := ⟨_, rfl⟩
  have hj := jn_want s sep lim
  have hp := want_pos s sep lim
  have hn := want_len s sep lim
  have hll := esplit_len s sep lim
  rw [esplit_want] at hll
  rw [hl] at hj hp hn hll
  have hjl := jn_take_le sep s l hj
  refine Fn0.enter (n := 64) Try.func9 rfl rfl fun w0 => ?_
  refine WC.sub (fr' := [(0, _), (1, _), (2, _)]) ?_ ⟨rfl, rfl, rfl, trivial⟩
  refine WC.seq ?_
  refine WC.region ?_
  refine WL.q (oq_assign rfl) rfl rfl rfl ?_
  refine WL.nil ?_
  refine WE.then_normal ?_
  refine WC.sub (fr' := [(0, _), (1, _), (2, _)]) ?_ ⟨rfl, rfl, rfl, trivial⟩
  refine WC.seq ?_
  refine WC.seq ?_
  refine WC.region ?_
  refine WL.q (oq_move rfl) rfl rfl rfl ?_
  refine WL.q (oq_len_s Try.underlying9 rfl) rfl rfl rfl ?_
  refine WL.q (oq_gtr rfl rfl) rfl rfl rfl ?_
  refine WL.q (oq_move rfl) rfl rfl rfl ?_
  refine WL.split 13 rfl (fun s1_3 => ?_) (fun s1_3 => ?_)
  ·
    try simp only [Bool.not_eq_eq_eq_not, Bool.not_true, Bool.not_false, decide_eq_true_eq, decide_eq_false_iff_not, Int.not_lt, Int.not_le, ne_eq, Decidable.not_not, ← List.length_eq_zero_iff] at s1_3
    refine WL.skip rfl rfl rfl ?_
    refine WL.skip rfl rfl rfl ?_
    refine WL.skip rfl rfl rfl ?_
    refine WL.q (oq_pick_t rfl rfl) rfl rfl rfl ?_
    refine WL.nil ?_
    refine WE.then_normal ?_
    refine WC.sub (fr' := [(0, _), (1, _), (2, _), (17, _)]) ?_ ⟨rfl, rfl, rfl, rfl, trivial⟩
    refine WC.cond_t rfl ?_
    refine WC.seq ?_
    refine WC.region ?_
    refine WL.q (oq_assign rfl) rfl rfl rfl ?_
    refine WL.nil ?_
    refine WE.then_normal ?_
    refine WC.sub (fr' := [(6, _)]) ?_ ⟨rfl, trivial⟩
    refine WC.ret ?_
    refine WE.then_ret ?_
    refine WE.end0 (.inl rfl) (res1 Try.results9 rfl) ?_
    -- end 0
    first | rfl | (rw [decide_eq_true (hn (by omega))]; done) | (exfalso; first | omega | simp_all)
  ·
    try simp only [Bool.not_eq_eq_eq_not, Bool.not_true, Bool.not_false, decide_eq_true_eq, decide_eq_false_iff_not, Int.not_lt, Int.not_le, ne_eq, Decidable.not_not, ← List.length_eq_zero_iff] at s1_3
    refine WL.q (oq_move rfl) rfl rfl rfl ?_
    refine WL.q (oq_len_s Try.underlying9 rfl) rfl rfl rfl ?_
    refine WL.q (oq_gtr rfl rfl) rfl rfl rfl ?_
    refine WL.q (oq_pick_f rfl rfl) rfl rfl rfl ?_
    refine WL.nil ?_
    refine WE.then_normal ?_
    refine WC.sub (fr' := [(0, _), (1, _), (2, _), (17, _)]) ?_ ⟨rfl, rfl, rfl, rfl, trivial⟩
    refine WC.cond rfl (fun q1 => ?_) (fun q1 => ?_)
    ·
      try simp only [Bool.not_eq_eq_eq_not, Bool.not_true, Bool.not_false, decide_eq_true_eq, decide_eq_false_iff_not, Int.not_lt, Int.not_le, ne_eq, Decidable.not_not, ← List.length_eq_zero_iff] at q1
      refine WC.seq ?_
      refine WC.region ?_
      refine WL.q (oq_assign rfl) rfl rfl rfl ?_
      refine WL.nil ?_
      refine WE.then_normal ?_
      refine WC.sub (fr' := [(6, _)]) ?_ ⟨rfl, trivial⟩
      refine WC.ret ?_
      refine WE.then_ret ?_
      refine WE.end0 (.inl rfl) (res1 Try.results9 rfl) ?_
      -- end 1
      first | rfl | (rw [decide_eq_true (hn (by omega))]; done) | (exfalso; first | omega | simp_all)
    ·
      try simp only [Bool.not_eq_eq_eq_not, Bool.not_true, Bool.not_false, decide_eq_true_eq, decide_eq_false_iff_not, Int.not_lt, Int.not_le, ne_eq, Decidable.not_not, ← List.length_eq_zero_iff] at q1
      refine WC.skip ?_
      refine WE.then_normal ?_
      refine WC.sub (fr' := [(0, _), (1, _), (2, _)]) ?_ ⟨rfl, rfl, rfl, trivial⟩
      refine WC.seq ?_
      refine WC.seq ?_
      refine WC.region ?_
      refine WL.q (oq_move rfl) rfl rfl rfl ?_
      refine WL.q (oq_len_s Try.underlying9 rfl) rfl rfl rfl ?_
      refine WL.q (oq_move rfl) rfl rfl rfl ?_
      refine WL.q (oq_len_s Try.underlying9 rfl) rfl rfl rfl ?_
      refine WL.q (oq_add rfl rfl (by rw [i64_lo, i64_hi]; (first | omega | (simp only [List.length_cons, List.length_nil, List.length_append, List.length_drop, List.length_take]; omega)))) rfl rfl rfl ?_
      refine WL.q (oq_gtr rfl rfl) rfl rfl rfl ?_
      refine WL.nil ?_
      refine WE.then_normal ?_
      refine WC.sub (fr' := [(0, _), (1, _), (2, _), (23, _)]) ?_ ⟨rfl, rfl, rfl, rfl, trivial⟩
      refine WC.cond rfl (fun q3 => ?_) (fun q3 => ?_)
      ·
        try simp only [Bool.not_eq_eq_eq_not, Bool.not_true, Bool.not_false, decide_eq_true_eq, decide_eq_false_iff_not, Int.not_lt, Int.not_le, ne_eq, Decidable.not_not, ← List.length_eq_zero_iff] at q3
        refine WC.seq ?_
        refine WC.region ?_
        refine WL.qc (oq_call (L2.eAwake) call20 rfl) rfl rfl rfl ?_
        refine WL.q (oq_assign rfl) rfl rfl rfl ?_
        refine WL.nil ?_
        refine WE.then_normal ?_
        refine WC.sub (fr' := [(6, _)]) ?_ ⟨rfl, trivial⟩
        refine WC.ret ?_
        refine WE.then_ret ?_
        refine WE.end0 (.inl rfl) (res1 Try.results9 rfl) ?_
        -- end 2
        first | rfl | (rw [decide_eq_true (hn (by omega))]; done) | (exfalso; first | omega | simp_all)
      ·
        try simp only [Bool.not_eq_eq_eq_not, Bool.not_true, Bool.not_false, decide_eq_true_eq, decide_eq_false_iff_not, Int.not_lt, Int.not_le, ne_eq, Decidable.not_not, ← List.length_eq_zero_iff] at q3
        refine WC.skip ?_
        refine WE.then_normal ?_
        refine WC.sub (fr' := [(0, _), (1, _), (2, _)]) ?_ ⟨rfl, rfl, rfl, trivial⟩
        refine WC.seq ?_
        refine WC.region ?_
        refine WL.q (oq_move rfl) rfl rfl rfl ?_
        refine WL.q (oq_move rfl) rfl rfl rfl ?_
        refine WL.q (oq_move rfl) rfl rfl rfl ?_
        refine WL.callA0 (isplit s sep lim (by omega) (by omega) hlim) call29 rfl rfl rfl fun v5_3 N5_3 hR5_3 hN5_3 => ?_
        have ho5_3 := hR5_3.rebase hN5_3
        rw [esplit_want, hl] at ho5_3
        refine WL.q (oq_assign rfl) rfl rfl rfl ?_
        refine WL.nil ?_
        refine WE.then_normal ?_
        refine WC.sub (fr' := [(0, _), (1, _), (2, _), (7, _)]) ?_ ⟨rfl, rfl, rfl, rfl, trivial⟩
        refine WC.seq ?_
        refine WC.region ?_
        refine WL.q (oq_assign rfl) rfl rfl rfl ?_
        refine WL.nil ?_
        refine WE.then_normal ?_
        refine WC.sub (fr' := [(0, _), (1, _), (2, _), (7, _), (8, _)]) ?_ ⟨rfl, rfl, rfl, rfl, rfl, trivial⟩
        refine WC.seq ?_
        refine WC.seq ?_
        refine WC.region ?_
        refine WL.q (oq_assign rfl) rfl rfl rfl ?_
        refine WL.nil ?_
        refine WE.then_normal ?_
        refine WC.sub (fr' := [(0, _), (1, _), (2, _), (7, _), (8, _), (9, _)]) ?_ ⟨rfl, rfl, rfl, rfl, rfl, rfl, trivial⟩
        refine WC.block ?_
        refine WC.loop (ι := Nat) (fun (i : Nat) => [(0, S s), (1, S sep), (2, I lim), (7, v5_3), (8, S (jn sep (l.take i))), (9, I (i : Int))]) (fun (i : Nat) => [N5_3]) (fun (i : Nat) => i ≤ l.length) (fun (i : Nat) => l.length - i) (0) ?_ ⟨rfl, rfl, rfl, rfl, rfl, rfl, trivial⟩ (List.Perm.refl _) ?_
        · try dsimp only
          show 0 ≤ l.length; omega
        · rintro i hp
          try dsimp only at hp
          show WC _ _ _ _ _ _ ([(0, S s), (1, S sep), (2, I lim), (7, v5_3), (8, S (jn sep (l.take i))), (9, I (i : Int))]) ([N5_3])
          refine WC.seq ?_
          refine WC.seq ?_
          refine WC.region ?_
          refine WL.q (oq_move rfl) rfl rfl rfl ?_
          refine WL.q (oq_move rfl) rfl rfl rfl ?_
          refine WL.q (oq_len_rd ho5_3.rd Try.underlying29 rfl) rfl rfl rfl ?_
          refine WL.q (oq_lss rfl rfl) rfl rfl rfl ?_
          refine WL.nil ?_
          refine WE.then_normal ?_
          refine WC.sub (fr' := [(0, _), (1, _), (2, _), (7, _), (8, _), (9, _), (32, _)]) ?_ ⟨rfl, rfl, rfl, rfl, rfl, rfl, rfl, trivial⟩
          refine WC.cond rfl (fun q8 => ?_) (fun q8 => ?_)
          ·
            try simp only [Bool.not_eq_eq_eq_not, Bool.not_true, Bool.not_false, decide_eq_true_eq, decide_eq_false_iff_not, Int.not_lt, Int.not_le, ne_eq, Decidable.not_not, ← List.length_eq_zero_iff] at q8
            refine WC.skip ?_
            refine WE.then_normal ?_
            refine WC.sub (fr' := [(0, _), (1, _), (2, _), (7, _), (8, _), (9, _)]) ?_ ⟨rfl, rfl, rfl, rfl, rfl, rfl, trivial⟩
            refine WC.seq ?_
            refine WC.block ?_
            refine WC.cut (ι := (List UInt8)) (fun (out : List UInt8) => [(0, S s), (1, S sep), (2, I lim), (7, v5_3), (8, S out), (9, I (i : Int))]) (fun (out : List UInt8) => [N5_3]) (fun (out : List UInt8) => out ++ l.getD i [] = jn sep (l.take (i + 1)) ∧ i < l.length) ?_ ?_
            ·
              refine WC.seq ?_
              refine WC.region ?_
              refine WL.q (oq_move rfl) rfl rfl rfl ?_
              refine WL.q (oq_gtr rfl rfl) rfl rfl rfl ?_
              refine WL.nil ?_
              refine WE.then_normal ?_
              refine WC.sub (fr' := [(0, _), (1, _), (2, _), (7, _), (8, _), (9, _), (36, _)]) ?_ ⟨rfl, rfl, rfl, rfl, rfl, rfl, rfl, trivial⟩
              refine WC.cond rfl (fun q10 => ?_) (fun q10 => ?_)
              ·
                try simp only [Bool.not_eq_eq_eq_not, Bool.not_true, Bool.not_false, decide_eq_true_eq, decide_eq_false_iff_not, Int.not_lt, Int.not_le, ne_eq, Decidable.not_not, ← List.length_eq_zero_iff] at q10
                have hb1 := hjl (i + 1) (by omega)
                rw [jn_take sep l i (by omega), if_pos (by omega)] at hb1
                simp only [List.length_append] at hb1
                refine WC.region ?_
                refine WL.q (oq_move rfl) rfl rfl rfl ?_
                refine WL.q (oq_move rfl) rfl rfl rfl ?_
                refine WL.q (oq_concat rfl rfl (by (first | omega | (simp only [List.length_cons, List.length_nil, List.length_append, List.length_drop, List.length_take]; omega)))) rfl rfl rfl ?_
                refine WL.q (oq_assign rfl) rfl rfl rfl ?_
                refine WL.nil ?_
                refine WE.meet _ ?_ ⟨rfl, rfl, rfl, rfl, rfl, rfl, trivial⟩ (List.Perm.refl _)
                try dsimp only
                exact ⟨by rw [jn_take sep l i (by omega)]; first | rw [if_pos (by omega)] | rw [if_neg (by omega)], by omega⟩   -- meet 0
              ·
                try simp only [Bool.not_eq_eq_eq_not, Bool.not_true, Bool.not_false, decide_eq_true_eq, decide_eq_false_iff_not, Int.not_lt, Int.not_le, ne_eq, Decidable.not_not, ← List.length_eq_zero_iff] at q10
                refine WC.skip ?_
                refine WE.meet _ ?_ ⟨rfl, rfl, rfl, rfl, rfl, rfl, trivial⟩ (List.Perm.refl _)
                try dsimp only
                exact ⟨by rw [jn_take sep l i (by omega)]; first | rw [if_pos (by omega)] | rw [if_neg (by omega)], by omega⟩   -- meet 1
            · rintro out hp
              try dsimp only at hp
              obtain ⟨hp1, hp2⟩ := hp
              show WC _ _ _ _ _ _ ([(0, S s), (1, S sep), (2, I lim), (7, v5_3), (8, S out), (9, I (i : Int))]) ([N5_3])
              have hb2 := hjl (i + 1) (by omega)
              rw [← hp1, List.length_append] at hb2
              refine WC.region ?_
              refine WL.q (oq_move rfl) rfl rfl rfl ?_
              refine WL.q (oq_move rfl) rfl rfl rfl ?_
              refine WL.q (oq_move rfl) rfl rfl rfl ?_
              refine WL.q (oq_ixaddr ho5_3.rd Try.underlying29 ty9 rfl rfl (by (first | omega | (simp only [List.length_cons, List.length_nil, List.length_append, List.length_drop, List.length_take]; omega)))) rfl rfl rfl ?_
              refine WL.q (oq_load_str ho5_3.rd (.head _) flat9 rfl (by (first | omega | (simp only [List.length_cons, List.length_nil, List.length_append, List.length_drop, List.length_take]; omega))) (by first | exact Int.toNat_natCast _ | exact rfl)) rfl rfl rfl ?_
              refine WL.q (oq_concat rfl rfl (by (first | omega | (simp only [List.length_cons, List.length_nil, List.length_append, List.length_drop, List.length_take]; omega)))) rfl rfl rfl ?_
              refine WL.q (oq_assign rfl) rfl rfl rfl ?_
              refine WL.nil ?_
              refine WE.block_normal ?_
              refine WE.then_normal ?_
              refine WC.sub (fr' := [(0, _), (1, _), (2, _), (7, _), (8, _), (9, _)]) ?_ ⟨rfl, rfl, rfl, rfl, rfl, rfl, trivial⟩
              refine WC.region ?_
              refine WL.q (oq_move rfl) rfl rfl rfl ?_
              refine WL.q (oq_add rfl rfl (by rw [i64_lo, i64_hi]; (first | omega | (simp only [List.length_cons, List.length_nil, List.length_append, List.length_drop, List.length_take]; omega)))) rfl rfl rfl ?_
              refine WL.q (oq_assign rfl) rfl rfl rfl ?_
              refine WL.nil ?_
              refine WE.again (i + 1) ?_ ?_ ⟨rfl, rfl, rfl, rfl, (gtv rfl (by first | rfl | exact congrArg S hp1)), rfl, trivial⟩ (List.Perm.refl _)
              · try dsimp only   -- again 0
                omega
              · (try dsimp only); omega
          ·
            try simp only [Bool.not_eq_eq_eq_not, Bool.not_true, Bool.not_false, decide_eq_true_eq, decide_eq_false_iff_not, Int.not_lt, Int.not_le, ne_eq, Decidable.not_not, ← List.length_eq_zero_iff] at q8
            refine WC.exit ?_
            refine WE.then_exit ?_
            refine WE.then_exit ?_
            refine WE.block_same ?_
            refine WE.then_normal ?_
            refine WC.sub (fr' := [(0, _), (2, _), (7, _), (8, _)]) ?_ ⟨rfl, rfl, rfl, rfl, trivial⟩
            refine WC.seq ?_
            have hi : i = l.length := by omega
            subst hi
            rw [List.take_length]
            try rw [hj]
            refine WC.region ?_
            refine WL.q (oq_move rfl) rfl rfl rfl ?_
            refine WL.q (oq_move rfl) rfl rfl rfl ?_
            refine WL.q (oq_seql rfl rfl) rfl rfl rfl ?_
            refine WL.q (oq_move rfl) rfl rfl rfl ?_
            refine WL.split 49 rfl (fun s13_3 => ?_) (fun s13_3 => ?_)
            ·
              try simp only [Bool.not_eq_eq_eq_not, Bool.not_true, Bool.not_false, decide_eq_true_eq, decide_eq_false_iff_not, Int.not_lt, Int.not_le, ne_eq, Decidable.not_not, ← List.length_eq_zero_iff] at s13_3
              refine WL.q (oq_move rfl) rfl rfl rfl ?_
              refine WL.q (oq_len_rd ho5_3.rd Try.underlying29 rfl) rfl rfl rfl ?_
              refine WL.q (oq_gtr rfl rfl) rfl rfl rfl ?_
              refine WL.q (oq_pick_t rfl rfl) rfl rfl rfl ?_
              refine WL.q (oq_move rfl) rfl rfl rfl ?_
              refine WL.split 54 rfl (fun s13_8 => ?_) (fun s13_8 => ?_)
              ·
                try simp only [Bool.not_eq_eq_eq_not, Bool.not_true, Bool.not_false, decide_eq_true_eq, decide_eq_false_iff_not, Int.not_lt, Int.not_le, ne_eq, Decidable.not_not, ← List.length_eq_zero_iff] at s13_8
                refine WL.q (oq_move rfl) rfl rfl rfl ?_
                refine WL.q (oq_leq rfl rfl) rfl rfl rfl ?_
                refine WL.q (oq_move rfl) rfl rfl rfl ?_
                refine WL.split 57 rfl (fun s13_11 => ?_) (fun s13_11 => ?_)
                ·
                  try simp only [Bool.not_eq_eq_eq_not, Bool.not_true, Bool.not_false, decide_eq_true_eq, decide_eq_false_iff_not, Int.not_lt, Int.not_le, ne_eq, Decidable.not_not, ← List.length_eq_zero_iff] at s13_11
                  refine WL.skip rfl rfl rfl ?_
                  refine WL.skip rfl rfl rfl ?_
                  refine WL.skip rfl rfl rfl ?_
                  refine WL.skip rfl rfl rfl ?_
                  refine WL.q (oq_pick_t rfl rfl) rfl rfl rfl ?_
                  refine WL.q (oq_pick_t rfl rfl) rfl rfl rfl ?_
                  refine WL.q (oq_assign rfl) rfl rfl rfl ?_
                  refine WL.nil ?_
                  refine WE.then_normal ?_
                  refine WC.sub (fr' := [(6, _)]) ?_ ⟨rfl, trivial⟩
                  refine WC.ret ?_
                  refine WE.forget hN5_3 ?_
                  refine WE.end0 (.inl rfl) (res1 Try.results9 rfl) ?_
                  -- end 3
                  first | rfl | (rw [decide_eq_true (hn (by omega))]; done) | (exfalso; first | omega | simp_all)
                ·
                  try simp only [Bool.not_eq_eq_eq_not, Bool.not_true, Bool.not_false, decide_eq_true_eq, decide_eq_false_iff_not, Int.not_lt, Int.not_le, ne_eq, Decidable.not_not, ← List.length_eq_zero_iff] at s13_11
                  refine WL.q (oq_move rfl) rfl rfl rfl ?_
                  refine WL.q (oq_len_rd ho5_3.rd Try.underlying29 rfl) rfl rfl rfl ?_
                  refine WL.q (oq_move rfl) rfl rfl rfl ?_
                  refine WL.q (oq_leq rfl rfl) rfl rfl rfl ?_
                  refine WL.q (oq_pick_f rfl rfl) rfl rfl rfl ?_
                  refine WL.q (oq_pick_t rfl rfl) rfl rfl rfl ?_
                  refine WL.q (oq_assign rfl) rfl rfl rfl ?_
                  refine WL.nil ?_
                  refine WE.then_normal ?_
                  refine WC.sub (fr' := [(6, _)]) ?_ ⟨rfl, trivial⟩
                  refine WC.ret ?_
                  refine WE.forget hN5_3 ?_
                  refine WE.end0 (.inl rfl) (res1 Try.results9 rfl) ?_
                  -- end 4
                  first | rfl | (rw [decide_eq_true (hn (by omega))]; done) | (exfalso; first | omega | simp_all)
              ·
                try simp only [Bool.not_eq_eq_eq_not, Bool.not_true, Bool.not_false, decide_eq_true_eq, decide_eq_false_iff_not, Int.not_lt, Int.not_le, ne_eq, Decidable.not_not, ← List.length_eq_zero_iff] at s13_8
                refine WL.skip rfl rfl rfl ?_
                refine WL.skip rfl rfl rfl ?_
                refine WL.skip rfl rfl rfl ?_
                refine WL.skip rfl rfl rfl ?_
                refine WL.skip rfl rfl rfl ?_
                refine WL.skip rfl rfl rfl ?_
                refine WL.skip rfl rfl rfl ?_
                refine WL.skip rfl rfl rfl ?_
                refine WL.q (oq_pick_f rfl rfl) rfl rfl rfl ?_
                refine WL.q (oq_assign rfl) rfl rfl rfl ?_
                refine WL.nil ?_
                refine WE.then_normal ?_
                refine WC.sub (fr' := [(6, _)]) ?_ ⟨rfl, trivial⟩
                refine WC.ret ?_
                refine WE.forget hN5_3 ?_
                refine WE.end0 (.inl rfl) (res1 Try.results9 rfl) ?_
                -- end 5
                first | rfl | (rw [decide_eq_true (hn (by omega))]; done) | (exfalso; first | omega | simp_all)
            ·
              try simp only [Bool.not_eq_eq_eq_not, Bool.not_true, Bool.not_false, decide_eq_true_eq, decide_eq_false_iff_not, Int.not_lt, Int.not_le, ne_eq, Decidable.not_not, ← List.length_eq_zero_iff] at s13_3
              refine WL.skip rfl rfl rfl ?_
              refine WL.skip rfl rfl rfl ?_
              refine WL.skip rfl rfl rfl ?_
              refine WL.q (oq_pick_f rfl rfl) rfl rfl rfl ?_
              refine WL.q (oq_move rfl) rfl rfl rfl ?_
              refine WL.skip rfl rfl rfl ?_
              refine WL.skip rfl rfl rfl ?_
              refine WL.skip rfl rfl rfl ?_
              refine WL.skip rfl rfl rfl ?_
              refine WL.skip rfl rfl rfl ?_
              refine WL.skip rfl rfl rfl ?_
              refine WL.skip rfl rfl rfl ?_
              refine WL.skip rfl rfl rfl ?_
              refine WL.q (oq_pick_f rfl rfl) rfl rfl rfl ?_
              refine WL.q (oq_assign rfl) rfl rfl rfl ?_
              refine WL.nil ?_
              refine WE.then_normal ?_
              refine WC.sub (fr' := [(6, _)]) ?_ ⟨rfl, trivial⟩
              refine WC.ret ?_
              refine WE.forget hN5_3 ?_
              refine WE.end0 (.inl rfl) (res1 Try.results9 rfl) ?_
              -- end 6
              first | rfl | (rw [decide_eq_true (hn (by omega))]; done) | (exfalso; first | omega | simp_all)

end E3
end Go.Proofs.Ythhankjineidiaa
