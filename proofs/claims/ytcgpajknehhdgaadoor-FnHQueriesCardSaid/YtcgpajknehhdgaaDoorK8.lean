/- Walks of the joining of two queries, and of the law on it. -/
import Derived.Test.YtcgpajknehhdgaaDoorK7
import Derived.Test.YtcgpajknehhdgaaDoorJ0
import Derived.Test.YtcgpajknehhdgaaDoorL2
namespace Go.Proofs.YtcgpajknehhdgaaDoor
open Go Go.RowKit V L2 K7
set_option linter.unusedSimpArgs false
set_option linter.unusedVariables false
set_option maxRecDepth 10000
namespace K8
theorem call15 : Callable Tryd.prog 15 := ⟨_, Tryd.func15, rfl, by kernel_rfl⟩
theorem call16 : Callable Tryd.prog 16 := ⟨_, Tryd.func16, rfl, by kernel_rfl⟩
theorem call17 : Callable Tryd.prog 17 := ⟨_, Tryd.func17, rfl, by kernel_rfl⟩
theorem call40 : Callable Tryd.prog 40 := ⟨_, Tryd.func40, rfl, by kernel_rfl⟩
theorem call63 : Callable Tryd.prog 63 := ⟨_, Tryd.func63, rfl, by kernel_rfl⟩

theorem TL_step (c : List UInt8) (h : c ≠ []) (hb : byteAt c 0 = 38) : TL (c.drop 1) = TL c := by
  have hl : 0 < c.length := by cases c with | nil => exact absurd rfl h | cons x r => simp
  have e : lead (c.drop 0) = if byteAt c 0 = 38 then lead (c.drop (0 + 1)) + 1 else 0 := lead_step c 0 hl
  rw [if_pos hb, List.drop_zero] at e
  unfold TL
  rw [e, List.drop_drop, Nat.zero_add, Nat.add_comm]
theorem TL_stop (c : List UInt8) (h : c = [] ∨ ¬ byteAt c 0 = 38) : TL c = c := by
  rcases h with rfl | h
  · rfl
  · cases c with
    | nil => rfl
    | cons x r =>
      have e : lead ((x :: r).drop 0) = if byteAt (x :: r) 0 = 38 then lead ((x :: r).drop (0 + 1)) + 1 else 0 := lead_step (x :: r) 0 (by simp)
      rw [if_neg h, List.drop_zero] at e
      unfold TL; rw [e]; rfl
theorem TR_step (c : List UInt8) (h : c ≠ []) (hb : byteAt c ((c.length : Int) - 1) = 38) : TR (c.take (c.length - 1)) = TR c := by
  have hl : 0 < c.length := by cases c with | nil => exact absurd rfl h | cons x r => simp
  have e := tl_step c c.length hl (Nat.le_refl _)
  rw [show ((c.length : Int) - 1) = ((c.length - 1 : Nat) : Int) by omega] at hb
  rw [if_pos hb, List.take_length] at e
  have h2 := tl_le (c.take (c.length - 1))
  rw [List.length_take] at h2
  unfold TR
  rw [List.take_take, e, Nat.min_eq_left (by omega)]
theorem TR_stop (c : List UInt8) (h : c = [] ∨ ¬ byteAt c ((c.length : Int) - 1) = 38) : TR c = c := by
  rcases h with rfl | h
  · rfl
  · rcases Nat.eq_zero_or_pos c.length with h0 | h0
    · rw [List.eq_nil_of_length_eq_zero h0]; rfl
    · have e := tl_step c c.length h0 (Nat.le_refl _)
      rw [show ((c.length : Int) - 1) = ((c.length - 1 : Nat) : Int) by omega] at h
      rw [if_neg h, List.take_length] at e
      unfold TR; rw [e, List.take_length]
def jq (a b : List UInt8) : List UInt8 := if trimA a = [] then trimA b else if trimA b = [] then trimA a else trimA a ++ [38] ++ trimA b
theorem jq_l {a b : List UInt8} (h : trimA a = []) : jq a b = trimA b := if_pos h
theorem jq_r {a b : List UInt8} (h : trimA b = []) : jq a b = trimA a := by
  unfold jq; split
  · rename_i h2; rw [h, h2]
  · rfl
theorem jq_n {a b : List UInt8} (h : ¬ trimA a = []) (h2 : ¬ trimA b = []) : jq a b = trimA a ++ [38] ++ trimA b := by unfold jq; rw [if_neg h, if_neg h2]
theorem nil_of {l : List UInt8} (h : l.length = 0) : l = [] := List.eq_nil_of_length_eq_zero h
theorem not_nil {l : List UInt8} (h : ¬ l.length = 0) : ¬ l = [] := fun e => h (by rw [e]; rfl)
/-- given.example/pub-tinwright/pub/smithy/transport/http.JoinRawQuery -/
theorem joinRaw (T : Hp) (hT : Tabs T) (a b : List UInt8) (ha : a.length ≤ 4000000000) (hb : b.length ≤ 4000000000) : FnR Tryd.prog 40 [S a, S b] T (S (jq a b)) := by
  have hla := trimA_len a
  have hlb := trimA_len b
  refine FnR.enter (n := 21) Tryd.func40 rfl rfl fun w0 => ?_
  refine WC.sub (fr' := [(0, _), (1, _)]) ?_ ⟨rfl, rfl, trivial⟩
  refine WC.seq ?_
  refine WC.region ?_
  refine WL.q (oq_assign rfl) rfl rfl rfl ?_
  refine WL.nil ?_
  refine WE.then_normal ?_
  refine WC.sub (fr' := [(0, _), (1, _)]) ?_ ⟨rfl, rfl, trivial⟩
  refine WC.seq ?_
  refine WC.region ?_
  refine WL.q (oq_move rfl) rfl rfl rfl ?_
  refine WL.qc (oq_callRm (trimFunc T hT _ (by omega)) (.head _) call63 rfl) rfl rfl rfl ?_
  refine WL.q (oq_assign rfl) rfl rfl rfl ?_
  refine WL.nil ?_
  refine WE.then_normal ?_
  refine WC.sub (fr' := [(0, _), (1, _)]) ?_ ⟨rfl, rfl, trivial⟩
  refine WC.seq ?_
  refine WC.region ?_
  refine WL.q (oq_move rfl) rfl rfl rfl ?_
  refine WL.qc (oq_callRm (trimFunc T hT _ (by omega)) (.head _) call63 rfl) rfl rfl rfl ?_
  refine WL.q (oq_assign rfl) rfl rfl rfl ?_
  refine WL.nil ?_
  refine WE.then_normal ?_
  refine WC.sub (fr' := [(0, _), (1, _)]) ?_ ⟨rfl, rfl, trivial⟩
  refine WC.seq ?_
  refine WC.seq ?_
  refine WC.region ?_
  refine WL.q (oq_move rfl) rfl rfl rfl ?_
  refine WL.q (oq_len_s Tryd.underlying9 rfl) rfl rfl rfl ?_
  refine WL.q (oq_eql rfl rfl) rfl rfl rfl ?_
  refine WL.nil ?_
  refine WE.then_normal ?_
  refine WC.sub (fr' := [(0, _), (1, _), (11, _)]) ?_ ⟨rfl, rfl, rfl, trivial⟩
  refine WC.cond rfl (fun q3 => ?_) (fun q3 => ?_)
  ·
    try simp only [Bool.not_eq_eq_eq_not, Bool.not_true, Bool.not_false, decide_eq_true_eq, decide_eq_false_iff_not, Int.not_lt, Int.not_le, ne_eq, Decidable.not_not, ← List.length_eq_zero_iff] at q3
    refine WC.seq ?_
    refine WC.region ?_
    refine WL.q (oq_move rfl) rfl rfl rfl ?_
    refine WL.q (oq_assign rfl) rfl rfl rfl ?_
    refine WL.nil ?_
    refine WE.then_normal ?_
    refine WC.sub (fr' := [(4, _)]) ?_ ⟨rfl, trivial⟩
    refine WC.ret ?_
    refine WE.then_ret ?_
    refine WE.endR (.inl rfl) (res1 Tryd.results40 rfl) ?_
    -- end 0
    rw [jq_l (nil_of (by omega))]
  ·
    try simp only [Bool.not_eq_eq_eq_not, Bool.not_true, Bool.not_false, decide_eq_true_eq, decide_eq_false_iff_not, Int.not_lt, Int.not_le, ne_eq, Decidable.not_not, ← List.length_eq_zero_iff] at q3
    refine WC.skip ?_
    refine WE.then_normal ?_
    refine WC.sub (fr' := [(0, _), (1, _)]) ?_ ⟨rfl, rfl, trivial⟩
    refine WC.seq ?_
    refine WC.seq ?_
    refine WC.region ?_
    refine WL.q (oq_move rfl) rfl rfl rfl ?_
    refine WL.q (oq_len_s Tryd.underlying9 rfl) rfl rfl rfl ?_
    refine WL.q (oq_eql rfl rfl) rfl rfl rfl ?_
    refine WL.nil ?_
    refine WE.then_normal ?_
    refine WC.sub (fr' := [(0, _), (1, _), (15, _)]) ?_ ⟨rfl, rfl, rfl, trivial⟩
    refine WC.cond rfl (fun q5 => ?_) (fun q5 => ?_)
    ·
      try simp only [Bool.not_eq_eq_eq_not, Bool.not_true, Bool.not_false, decide_eq_true_eq, decide_eq_false_iff_not, Int.not_lt, Int.not_le, ne_eq, Decidable.not_not, ← List.length_eq_zero_iff] at q5
      refine WC.seq ?_
      refine WC.region ?_
      refine WL.q (oq_move rfl) rfl rfl rfl ?_
      refine WL.q (oq_assign rfl) rfl rfl rfl ?_
      refine WL.nil ?_
      refine WE.then_normal ?_
      refine WC.sub (fr' := [(4, _)]) ?_ ⟨rfl, trivial⟩
      refine WC.ret ?_
      refine WE.then_ret ?_
      refine WE.endR (.inl rfl) (res1 Tryd.results40 rfl) ?_
      -- end 1
      rw [jq_r (nil_of (by omega))]
    ·
      try simp only [Bool.not_eq_eq_eq_not, Bool.not_true, Bool.not_false, decide_eq_true_eq, decide_eq_false_iff_not, Int.not_lt, Int.not_le, ne_eq, Decidable.not_not, ← List.length_eq_zero_iff] at q5
      refine WC.skip ?_
      refine WE.then_normal ?_
      refine WC.sub (fr' := [(0, _), (1, _)]) ?_ ⟨rfl, rfl, trivial⟩
      refine WC.seq ?_
      refine WC.region ?_
      refine WL.q (oq_move rfl) rfl rfl rfl ?_
      refine WL.q (oq_concat rfl rfl (by (first | omega | (simp only [List.length_cons, List.length_nil, List.length_append, List.length_drop, List.length_take]; omega)))) rfl rfl rfl ?_
      refine WL.q (oq_move rfl) rfl rfl rfl ?_
      refine WL.q (oq_concat rfl rfl (by (first | omega | (simp only [List.length_cons, List.length_nil, List.length_append, List.length_drop, List.length_take]; omega)))) rfl rfl rfl ?_
      refine WL.q (oq_assign rfl) rfl rfl rfl ?_
      refine WL.nil ?_
      refine WE.then_normal ?_
      refine WC.sub (fr' := [(4, _)]) ?_ ⟨rfl, trivial⟩
      refine WC.ret ?_
      refine WE.endR (.inl rfl) (res1 Tryd.results40 rfl) ?_
      -- end 2
      rw [jq_n (not_nil (by omega)) (not_nil (by omega))]

/-- given.example/pub-tinwright/impl.HJoinQuery -/
theorem hJoin (T : Hp) (hT : Tabs T) (a b : List UInt8) (ha : a.length ≤ 4000000000) (hb : b.length ≤ 4000000000) : FnR Tryd.prog 16 [S a, S b] T (S (jq a b)) := by
  refine FnR.enter (n := 8) Tryd.func16 rfl rfl fun w0 => ?_
  refine WC.sub (fr' := [(0, _), (1, _)]) ?_ ⟨rfl, rfl, trivial⟩
  refine WC.seq ?_
  refine WC.region ?_
  refine WL.q (oq_assign rfl) rfl rfl rfl ?_
  refine WL.nil ?_
  refine WE.then_normal ?_
  refine WC.sub (fr' := [(0, _), (1, _)]) ?_ ⟨rfl, rfl, trivial⟩
  refine WC.seq ?_
  refine WC.region ?_
  refine WL.q (oq_move rfl) rfl rfl rfl ?_
  refine WL.q (oq_move rfl) rfl rfl rfl ?_
  refine WL.qc (oq_callRm (joinRaw T hT a b ha hb) (.head _) call40 rfl) rfl rfl rfl ?_
  refine WL.q (oq_assign rfl) rfl rfl rfl ?_
  refine WL.nil ?_
  refine WE.then_normal ?_
  refine WC.sub (fr' := [(4, _)]) ?_ ⟨rfl, trivial⟩
  refine WC.ret ?_
  refine WE.endR (.inl rfl) (res1 Tryd.results16 rfl) ?_
  -- end 0
  rfl

/-- given.example/pub-tinwright/spec.HQuery -/
theorem hQuery (a b : List UInt8) (ha : a.length ≤ 4000000000) (hb : b.length ≤ 4000000000) : Fn0 Tryd.prog 17 [S a, S b] (S (jq a b)) := by
  have hla := trimA_len a
  have hlb := trimA_len b
  refine Fn0.enter (n := 66) Tryd.func17 rfl rfl fun w0 => ?_
  refine WC.sub (fr' := [(0, _), (1, _)]) ?_ ⟨rfl, rfl, trivial⟩
  refine WC.seq ?_
  refine WC.region ?_
  refine WL.q (oq_assign rfl) rfl rfl rfl ?_
  refine WL.nil ?_
  refine WE.then_normal ?_
  refine WC.sub (fr' := [(0, _), (1, _)]) ?_ ⟨rfl, rfl, trivial⟩
  refine WC.cut (ι := (List UInt8)) (fun (u1 : List UInt8) => [(0, S u1), (1, S b)]) (fun (u1 : List UInt8) => []) (fun (u1 : List UInt8) => u1.length ≤ a.length ∧ TR u1 = trimA a) ?_ ?_
  ·
    refine WC.block ?_
    refine WC.loop (ι := (List UInt8)) (fun (u : List UInt8) => [(0, S u), (1, S b)]) (fun (u : List UInt8) => []) (fun (u : List UInt8) => u.length ≤ a.length ∧ TL u = TL a) (fun (u : List UInt8) => u.length) (a) ?_ ⟨rfl, rfl, trivial⟩ (List.Perm.refl _) ?_
    · try dsimp only
      exact ⟨by omega, rfl⟩
    · rintro u hp
      try dsimp only at hp
      obtain ⟨hlu, hfu⟩ := hp
      show WC _ _ _ _ _ _ ([(0, S u), (1, S b)]) ([])
      refine WC.seq ?_
      refine WC.seq ?_
      refine WC.region ?_
      refine WL.q (oq_move rfl) rfl rfl rfl ?_
      refine WL.q (oq_sneq rfl rfl) rfl rfl rfl ?_
      refine WL.q (oq_move rfl) rfl rfl rfl ?_
      refine WL.split 7 rfl (fun s1_2 => ?_) (fun s1_2 => ?_)
      ·
        try simp only [Bool.not_eq_eq_eq_not, Bool.not_true, Bool.not_false, decide_eq_true_eq, decide_eq_false_iff_not, Int.not_lt, Int.not_le, ne_eq, Decidable.not_not, ← List.length_eq_zero_iff] at s1_2
        refine WL.q (oq_move rfl) rfl rfl rfl ?_
        refine WL.index_s Tryd.underlying9 rfl rfl (by (first | omega | (simp only [List.length_cons, List.length_nil, List.length_append, List.length_drop, List.length_take]; omega))) rfl rfl fun c1_4 hc1_4 hc1_4l hc1_4u => ?_
        refine WL.q (oq_eql rfl rfl) rfl rfl rfl ?_
        refine WL.q (oq_pick_t rfl rfl) rfl rfl rfl ?_
        refine WL.nil ?_
        refine WE.then_normal ?_
        refine WC.sub (fr' := [(0, _), (1, _), (11, _)]) ?_ ⟨rfl, rfl, rfl, trivial⟩
        refine WC.cond rfl (fun q1 => ?_) (fun q1 => ?_)
        ·
          try simp only [Bool.not_eq_eq_eq_not, Bool.not_true, Bool.not_false, decide_eq_true_eq, decide_eq_false_iff_not, Int.not_lt, Int.not_le, ne_eq, Decidable.not_not, ← List.length_eq_zero_iff] at q1
          refine WC.skip ?_
          refine WE.then_normal ?_
          refine WC.sub (fr' := [(0, _), (1, _)]) ?_ ⟨rfl, rfl, trivial⟩
          refine WC.block ?_
          refine WC.region ?_
          refine WL.q (oq_move rfl) rfl rfl rfl ?_
          refine WL.q (oq_slice_s1 Tryd.underlying9 rfl rfl (by (first | omega | (simp only [List.length_cons, List.length_nil, List.length_append, List.length_drop, List.length_take]; omega)))) rfl rfl rfl ?_
          refine WL.q (oq_assign rfl) rfl rfl rfl ?_
          refine WL.nil ?_
          refine WE.block_normal ?_
          refine WE.again (u.drop 1) ?_ ?_ ⟨rfl, rfl, trivial⟩ (List.Perm.refl _)
          · try dsimp only   -- again 0
            exact ⟨by simp; omega, by rw [← hfu, TL_step u (by intro e; subst e; simp at s1_2) (by rw [← hc1_4]; exact q1)]⟩
          · (try dsimp only); simp; omega
        ·
          try simp only [Bool.not_eq_eq_eq_not, Bool.not_true, Bool.not_false, decide_eq_true_eq, decide_eq_false_iff_not, Int.not_lt, Int.not_le, ne_eq, Decidable.not_not, ← List.length_eq_zero_iff] at q1
          refine WC.exit ?_
          refine WE.then_exit ?_
          refine WE.then_exit ?_
          refine WE.block_same ?_
          refine WE.meet _ ?_ ⟨rfl, rfl, trivial⟩ (List.Perm.refl _)
          try dsimp only
          exact ⟨by omega, by unfold trimA; rw [← hfu]; first | rw [TL_stop u (.inr (by rw [← hc1_4]; simpa using q1))] | rw [TL_stop u (.inl (List.eq_nil_of_length_eq_zero (by omega)))]⟩   -- meet 0
      ·
        try simp only [Bool.not_eq_eq_eq_not, Bool.not_true, Bool.not_false, decide_eq_true_eq, decide_eq_false_iff_not, Int.not_lt, Int.not_le, ne_eq, Decidable.not_not, ← List.length_eq_zero_iff] at s1_2
        refine WL.skip rfl rfl rfl ?_
        refine WL.skip rfl rfl rfl ?_
        refine WL.skip rfl rfl rfl ?_
        refine WL.q (oq_pick_f rfl rfl) rfl rfl rfl ?_
        refine WL.nil ?_
        refine WE.then_normal ?_
        refine WC.sub (fr' := [(0, _), (1, _), (11, _)]) ?_ ⟨rfl, rfl, rfl, trivial⟩
        refine WC.cond_f rfl ?_
        refine WC.exit ?_
        refine WE.then_exit ?_
        refine WE.then_exit ?_
        refine WE.block_same ?_
        refine WE.meet _ ?_ ⟨rfl, rfl, trivial⟩ (List.Perm.refl _)
        try dsimp only
        exact ⟨by omega, by unfold trimA; rw [← hfu]; first | rw [TL_stop u (.inr (by rw [← hc1_4]; simpa using q1))] | rw [TL_stop u (.inl (List.eq_nil_of_length_eq_zero (by omega)))]⟩   -- meet 1
  · rintro u1 hp
    try dsimp only at hp
    obtain ⟨hlu1, hfu1⟩ := hp
    show WC _ _ _ _ _ _ ([(0, S u1), (1, S b)]) ([])
    refine WC.cut (ι := Unit) (fun _ => [(0, S (trimA a)), (1, S b)]) (fun _ => []) (fun _ => True) ?_ ?_
    ·
      refine WC.block ?_
      refine WC.loop (ι := (List UInt8)) (fun (v : List UInt8) => [(0, S v), (1, S b)]) (fun (v : List UInt8) => []) (fun (v : List UInt8) => v.length ≤ a.length ∧ TR v = trimA a) (fun (v : List UInt8) => v.length) (_) ?_ ⟨rfl, rfl, trivial⟩ (List.Perm.refl _) ?_
      · try dsimp only
        exact ⟨hlu1, hfu1⟩
      · rintro v hp
        try dsimp only at hp
        obtain ⟨hlv, hfv⟩ := hp
        show WC _ _ _ _ _ _ ([(0, S v), (1, S b)]) ([])
        refine WC.seq ?_
        refine WC.seq ?_
        refine WC.region ?_
        refine WL.q (oq_move rfl) rfl rfl rfl ?_
        refine WL.q (oq_sneq rfl rfl) rfl rfl rfl ?_
        refine WL.q (oq_move rfl) rfl rfl rfl ?_
        refine WL.split 16 rfl (fun s3_2 => ?_) (fun s3_2 => ?_)
        ·
          try simp only [Bool.not_eq_eq_eq_not, Bool.not_true, Bool.not_false, decide_eq_true_eq, decide_eq_false_iff_not, Int.not_lt, Int.not_le, ne_eq, Decidable.not_not, ← List.length_eq_zero_iff] at s3_2
          refine WL.q (oq_move rfl) rfl rfl rfl ?_
          refine WL.q (oq_move rfl) rfl rfl rfl ?_
          refine WL.q (oq_len_s Tryd.underlying9 rfl) rfl rfl rfl ?_
          refine WL.q (oq_sub rfl rfl (by rw [i64_lo, i64_hi]; (first | omega | (simp only [List.length_cons, List.length_nil, List.length_append, List.length_drop, List.length_take]; omega)))) rfl rfl rfl ?_
          refine WL.index_s Tryd.underlying9 rfl rfl (by (first | omega | (simp only [List.length_cons, List.length_nil, List.length_append, List.length_drop, List.length_take]; omega))) rfl rfl fun c3_7 hc3_7 hc3_7l hc3_7u => ?_
          refine WL.q (oq_eql rfl rfl) rfl rfl rfl ?_
          refine WL.q (oq_pick_t rfl rfl) rfl rfl rfl ?_
          refine WL.nil ?_
          refine WE.then_normal ?_
          refine WC.sub (fr' := [(0, _), (1, _), (23, _)]) ?_ ⟨rfl, rfl, rfl, trivial⟩
          refine WC.cond rfl (fun q3 => ?_) (fun q3 => ?_)
          ·
            try simp only [Bool.not_eq_eq_eq_not, Bool.not_true, Bool.not_false, decide_eq_true_eq, decide_eq_false_iff_not, Int.not_lt, Int.not_le, ne_eq, Decidable.not_not, ← List.length_eq_zero_iff] at q3
            refine WC.skip ?_
            refine WE.then_normal ?_
            refine WC.sub (fr' := [(0, _), (1, _)]) ?_ ⟨rfl, rfl, trivial⟩
            refine WC.block ?_
            refine WC.region ?_
            refine WL.q (oq_move rfl) rfl rfl rfl ?_
            refine WL.q (oq_move rfl) rfl rfl rfl ?_
            refine WL.q (oq_len_s Tryd.underlying9 rfl) rfl rfl rfl ?_
            refine WL.q (oq_sub rfl rfl (by rw [i64_lo, i64_hi]; (first | omega | (simp only [List.length_cons, List.length_nil, List.length_append, List.length_drop, List.length_take]; omega)))) rfl rfl rfl ?_
            refine WL.q (oq_slice_s0 Tryd.underlying9 rfl rfl (by (first | omega | (simp only [List.length_cons, List.length_nil, List.length_append, List.length_drop, List.length_take]; omega)))) rfl rfl rfl ?_
            refine WL.q (oq_assign rfl) rfl rfl rfl ?_
            refine WL.nil ?_
            refine WE.block_normal ?_
            refine WE.again (v.take ((v.length : Int) - 1).toNat) ?_ ?_ ⟨rfl, rfl, trivial⟩ (List.Perm.refl _)
            · try dsimp only   -- again 0
              exact ⟨by simp; omega, by rw [show ((v.length : Int) - 1).toNat = v.length - 1 by omega, TR_step v (by intro e; subst e; simp at s3_2) (by rw [← hc3_7]; exact q3)]; exact hfv⟩
            · (try dsimp only); simp; omega
          ·
            try simp only [Bool.not_eq_eq_eq_not, Bool.not_true, Bool.not_false, decide_eq_true_eq, decide_eq_false_iff_not, Int.not_lt, Int.not_le, ne_eq, Decidable.not_not, ← List.length_eq_zero_iff] at q3
            refine WC.exit ?_
            refine WE.then_exit ?_
            refine WE.then_exit ?_
            refine WE.block_same ?_
            refine WE.meet () ?_ ⟨(gtv rfl (by first | rw [← hfv, TR_stop v (.inr (by rw [← hc3_7]; simpa using q3))] | rw [← hfv, TR_stop v (.inl (List.eq_nil_of_length_eq_zero (by omega)))])), rfl, trivial⟩ (List.Perm.refl _)
            try dsimp only
            all_goals trivial   -- meet 0
        ·
          try simp only [Bool.not_eq_eq_eq_not, Bool.not_true, Bool.not_false, decide_eq_true_eq, decide_eq_false_iff_not, Int.not_lt, Int.not_le, ne_eq, Decidable.not_not, ← List.length_eq_zero_iff] at s3_2
          refine WL.skip rfl rfl rfl ?_
          refine WL.skip rfl rfl rfl ?_
          refine WL.skip rfl rfl rfl ?_
          refine WL.skip rfl rfl rfl ?_
          refine WL.skip rfl rfl rfl ?_
          refine WL.skip rfl rfl rfl ?_
          refine WL.q (oq_pick_f rfl rfl) rfl rfl rfl ?_
          refine WL.nil ?_
          refine WE.then_normal ?_
          refine WC.sub (fr' := [(0, _), (1, _), (23, _)]) ?_ ⟨rfl, rfl, rfl, trivial⟩
          refine WC.cond_f rfl ?_
          refine WC.exit ?_
          refine WE.then_exit ?_
          refine WE.then_exit ?_
          refine WE.block_same ?_
          refine WE.meet () ?_ ⟨(gtv rfl (by first | rw [← hfv, TR_stop v (.inr (by rw [← hc3_7]; simpa using q3))] | rw [← hfv, TR_stop v (.inl (List.eq_nil_of_length_eq_zero (by omega)))])), rfl, trivial⟩ (List.Perm.refl _)
          try dsimp only
          all_goals trivial   -- meet 1
    · rintro _ hp
      try dsimp only at hp
      obtain _ := hp
      show WC _ _ _ _ _ _ ([(0, S (trimA a)), (1, S b)]) ([])
      refine WC.cut (ι := (List UInt8)) (fun (x1 : List UInt8) => [(0, S (trimA a)), (1, S x1)]) (fun (x1 : List UInt8) => []) (fun (x1 : List UInt8) => x1.length ≤ b.length ∧ TR x1 = trimA b) ?_ ?_
      ·
        refine WC.block ?_
        refine WC.loop (ι := (List UInt8)) (fun (x : List UInt8) => [(0, S (trimA a)), (1, S x)]) (fun (x : List UInt8) => []) (fun (x : List UInt8) => x.length ≤ b.length ∧ TL x = TL b) (fun (x : List UInt8) => x.length) (b) ?_ ⟨rfl, rfl, trivial⟩ (List.Perm.refl _) ?_
        · try dsimp only
          exact ⟨by omega, rfl⟩
        · rintro x hp
          try dsimp only at hp
          obtain ⟨hlx, hfx⟩ := hp
          show WC _ _ _ _ _ _ ([(0, S (trimA a)), (1, S x)]) ([])
          refine WC.seq ?_
          refine WC.seq ?_
          refine WC.region ?_
          refine WL.q (oq_move rfl) rfl rfl rfl ?_
          refine WL.q (oq_sneq rfl rfl) rfl rfl rfl ?_
          refine WL.q (oq_move rfl) rfl rfl rfl ?_
          refine WL.split 31 rfl (fun s5_2 => ?_) (fun s5_2 => ?_)
          ·
            try simp only [Bool.not_eq_eq_eq_not, Bool.not_true, Bool.not_false, decide_eq_true_eq, decide_eq_false_iff_not, Int.not_lt, Int.not_le, ne_eq, Decidable.not_not, ← List.length_eq_zero_iff] at s5_2
            refine WL.q (oq_move rfl) rfl rfl rfl ?_
            refine WL.index_s Tryd.underlying9 rfl rfl (by (first | omega | (simp only [List.length_cons, List.length_nil, List.length_append, List.length_drop, List.length_take]; omega))) rfl rfl fun c5_4 hc5_4 hc5_4l hc5_4u => ?_
            refine WL.q (oq_eql rfl rfl) rfl rfl rfl ?_
            refine WL.q (oq_pick_t rfl rfl) rfl rfl rfl ?_
            refine WL.nil ?_
            refine WE.then_normal ?_
            refine WC.sub (fr' := [(0, _), (1, _), (35, _)]) ?_ ⟨rfl, rfl, rfl, trivial⟩
            refine WC.cond rfl (fun q5 => ?_) (fun q5 => ?_)
            ·
              try simp only [Bool.not_eq_eq_eq_not, Bool.not_true, Bool.not_false, decide_eq_true_eq, decide_eq_false_iff_not, Int.not_lt, Int.not_le, ne_eq, Decidable.not_not, ← List.length_eq_zero_iff] at q5
              refine WC.skip ?_
              refine WE.then_normal ?_
              refine WC.sub (fr' := [(0, _), (1, _)]) ?_ ⟨rfl, rfl, trivial⟩
              refine WC.block ?_
              refine WC.region ?_
              refine WL.q (oq_move rfl) rfl rfl rfl ?_
              refine WL.q (oq_slice_s1 Tryd.underlying9 rfl rfl (by (first | omega | (simp only [List.length_cons, List.length_nil, List.length_append, List.length_drop, List.length_take]; omega)))) rfl rfl rfl ?_
              refine WL.q (oq_assign rfl) rfl rfl rfl ?_
              refine WL.nil ?_
              refine WE.block_normal ?_
              refine WE.again (x.drop 1) ?_ ?_ ⟨rfl, rfl, trivial⟩ (List.Perm.refl _)
              · try dsimp only   -- again 0
                exact ⟨by simp; omega, by rw [← hfx, TL_step x (by intro e; subst e; simp at s5_2) (by rw [← hc5_4]; exact q5)]⟩
              · (try dsimp only); simp; omega
            ·
              try simp only [Bool.not_eq_eq_eq_not, Bool.not_true, Bool.not_false, decide_eq_true_eq, decide_eq_false_iff_not, Int.not_lt, Int.not_le, ne_eq, Decidable.not_not, ← List.length_eq_zero_iff] at q5
              refine WC.exit ?_
              refine WE.then_exit ?_
              refine WE.then_exit ?_
              refine WE.block_same ?_
              refine WE.meet _ ?_ ⟨rfl, rfl, trivial⟩ (List.Perm.refl _)
              try dsimp only
              exact ⟨by omega, by unfold trimA; rw [← hfx]; first | rw [TL_stop x (.inr (by rw [← hc5_4]; simpa using q5))] | rw [TL_stop x (.inl (List.eq_nil_of_length_eq_zero (by omega)))]⟩   -- meet 0
          ·
            try simp only [Bool.not_eq_eq_eq_not, Bool.not_true, Bool.not_false, decide_eq_true_eq, decide_eq_false_iff_not, Int.not_lt, Int.not_le, ne_eq, Decidable.not_not, ← List.length_eq_zero_iff] at s5_2
            refine WL.skip rfl rfl rfl ?_
            refine WL.skip rfl rfl rfl ?_
            refine WL.skip rfl rfl rfl ?_
            refine WL.q (oq_pick_f rfl rfl) rfl rfl rfl ?_
            refine WL.nil ?_
            refine WE.then_normal ?_
            refine WC.sub (fr' := [(0, _), (1, _), (35, _)]) ?_ ⟨rfl, rfl, rfl, trivial⟩
            refine WC.cond_f rfl ?_
            refine WC.exit ?_
            refine WE.then_exit ?_
            refine WE.then_exit ?_
            refine WE.block_same ?_
            refine WE.meet _ ?_ ⟨rfl, rfl, trivial⟩ (List.Perm.refl _)
            try dsimp only
            exact ⟨by omega, by unfold trimA; rw [← hfx]; first | rw [TL_stop x (.inr (by rw [← hc5_4]; simpa using q5))] | rw [TL_stop x (.inl (List.eq_nil_of_length_eq_zero (by omega)))]⟩   -- meet 1
      · rintro x1 hp
        try dsimp only at hp
        obtain ⟨hlx1, hfx1⟩ := hp
        show WC _ _ _ _ _ _ ([(0, S (trimA a)), (1, S x1)]) ([])
        refine WC.cut (ι := Unit) (fun _ => [(0, S (trimA a)), (1, S (trimA b))]) (fun _ => []) (fun _ => True) ?_ ?_
        ·
          refine WC.block ?_
          refine WC.loop (ι := (List UInt8)) (fun (y : List UInt8) => [(0, S (trimA a)), (1, S y)]) (fun (y : List UInt8) => []) (fun (y : List UInt8) => y.length ≤ b.length ∧ TR y = trimA b) (fun (y : List UInt8) => y.length) (_) ?_ ⟨rfl, rfl, trivial⟩ (List.Perm.refl _) ?_
          · try dsimp only
            exact ⟨hlx1, hfx1⟩
          · rintro y hp
            try dsimp only at hp
            obtain ⟨hly, hfy⟩ := hp
            show WC _ _ _ _ _ _ ([(0, S (trimA a)), (1, S y)]) ([])
            refine WC.seq ?_
            refine WC.seq ?_
            refine WC.region ?_
            refine WL.q (oq_move rfl) rfl rfl rfl ?_
            refine WL.q (oq_sneq rfl rfl) rfl rfl rfl ?_
            refine WL.q (oq_move rfl) rfl rfl rfl ?_
            refine WL.split 40 rfl (fun s7_2 => ?_) (fun s7_2 => ?_)
            ·
              try simp only [Bool.not_eq_eq_eq_not, Bool.not_true, Bool.not_false, decide_eq_true_eq, decide_eq_false_iff_not, Int.not_lt, Int.not_le, ne_eq, Decidable.not_not, ← List.length_eq_zero_iff] at s7_2
              refine WL.q (oq_move rfl) rfl rfl rfl ?_
              refine WL.q (oq_move rfl) rfl rfl rfl ?_
              refine WL.q (oq_len_s Tryd.underlying9 rfl) rfl rfl rfl ?_
              refine WL.q (oq_sub rfl rfl (by rw [i64_lo, i64_hi]; (first | omega | (simp only [List.length_cons, List.length_nil, List.length_append, List.length_drop, List.length_take]; omega)))) rfl rfl rfl ?_
              refine WL.index_s Tryd.underlying9 rfl rfl (by (first | omega | (simp only [List.length_cons, List.length_nil, List.length_append, List.length_drop, List.length_take]; omega))) rfl rfl fun c7_7 hc7_7 hc7_7l hc7_7u => ?_
              refine WL.q (oq_eql rfl rfl) rfl rfl rfl ?_
              refine WL.q (oq_pick_t rfl rfl) rfl rfl rfl ?_
              refine WL.nil ?_
              refine WE.then_normal ?_
              refine WC.sub (fr' := [(0, _), (1, _), (47, _)]) ?_ ⟨rfl, rfl, rfl, trivial⟩
              refine WC.cond rfl (fun q7 => ?_) (fun q7 => ?_)
              ·
                try simp only [Bool.not_eq_eq_eq_not, Bool.not_true, Bool.not_false, decide_eq_true_eq, decide_eq_false_iff_not, Int.not_lt, Int.not_le, ne_eq, Decidable.not_not, ← List.length_eq_zero_iff] at q7
                refine WC.skip ?_
                refine WE.then_normal ?_
                refine WC.sub (fr' := [(0, _), (1, _)]) ?_ ⟨rfl, rfl, trivial⟩
                refine WC.block ?_
                refine WC.region ?_
                refine WL.q (oq_move rfl) rfl rfl rfl ?_
                refine WL.q (oq_move rfl) rfl rfl rfl ?_
                refine WL.q (oq_len_s Tryd.underlying9 rfl) rfl rfl rfl ?_
                refine WL.q (oq_sub rfl rfl (by rw [i64_lo, i64_hi]; (first | omega | (simp only [List.length_cons, List.length_nil, List.length_append, List.length_drop, List.length_take]; omega)))) rfl rfl rfl ?_
                refine WL.q (oq_slice_s0 Tryd.underlying9 rfl rfl (by (first | omega | (simp only [List.length_cons, List.length_nil, List.length_append, List.length_drop, List.length_take]; omega)))) rfl rfl rfl ?_
                refine WL.q (oq_assign rfl) rfl rfl rfl ?_
                refine WL.nil ?_
                refine WE.block_normal ?_
                refine WE.again (y.take ((y.length : Int) - 1).toNat) ?_ ?_ ⟨rfl, rfl, trivial⟩ (List.Perm.refl _)
                · try dsimp only   -- again 0
                  exact ⟨by simp; omega, by rw [show ((y.length : Int) - 1).toNat = y.length - 1 by omega, TR_step y (by intro e; subst e; simp at s7_2) (by rw [← hc7_7]; exact q7)]; exact hfy⟩
                · (try dsimp only); simp; omega
              ·
                try simp only [Bool.not_eq_eq_eq_not, Bool.not_true, Bool.not_false, decide_eq_true_eq, decide_eq_false_iff_not, Int.not_lt, Int.not_le, ne_eq, Decidable.not_not, ← List.length_eq_zero_iff] at q7
                refine WC.exit ?_
                refine WE.then_exit ?_
                refine WE.then_exit ?_
                refine WE.block_same ?_
                refine WE.meet () ?_ ⟨rfl, (gtv rfl (by first | rw [← hfy, TR_stop y (.inr (by rw [← hc7_7]; simpa using q7))] | rw [← hfy, TR_stop y (.inl (List.eq_nil_of_length_eq_zero (by omega)))])), trivial⟩ (List.Perm.refl _)
                try dsimp only
                all_goals trivial   -- meet 0
            ·
              try simp only [Bool.not_eq_eq_eq_not, Bool.not_true, Bool.not_false, decide_eq_true_eq, decide_eq_false_iff_not, Int.not_lt, Int.not_le, ne_eq, Decidable.not_not, ← List.length_eq_zero_iff] at s7_2
              refine WL.skip rfl rfl rfl ?_
              refine WL.skip rfl rfl rfl ?_
              refine WL.skip rfl rfl rfl ?_
              refine WL.skip rfl rfl rfl ?_
              refine WL.skip rfl rfl rfl ?_
              refine WL.skip rfl rfl rfl ?_
              refine WL.q (oq_pick_f rfl rfl) rfl rfl rfl ?_
              refine WL.nil ?_
              refine WE.then_normal ?_
              refine WC.sub (fr' := [(0, _), (1, _), (47, _)]) ?_ ⟨rfl, rfl, rfl, trivial⟩
              refine WC.cond_f rfl ?_
              refine WC.exit ?_
              refine WE.then_exit ?_
              refine WE.then_exit ?_
              refine WE.block_same ?_
              refine WE.meet () ?_ ⟨rfl, (gtv rfl (by first | rw [← hfy, TR_stop y (.inr (by rw [← hc7_7]; simpa using q7))] | rw [← hfy, TR_stop y (.inl (List.eq_nil_of_length_eq_zero (by omega)))])), trivial⟩ (List.Perm.refl _)
              try dsimp only
              all_goals trivial   -- meet 1
        · rintro _ hp
          try dsimp only at hp
          obtain _ := hp
          show WC _ _ _ _ _ _ ([(0, S (trimA a)), (1, S (trimA b))]) ([])
          refine WC.seq ?_
          refine WC.seq ?_
          refine WC.region ?_
          refine WL.q (oq_move rfl) rfl rfl rfl ?_
          refine WL.q (oq_seql rfl rfl) rfl rfl rfl ?_
          refine WL.q (oq_move rfl) rfl rfl rfl ?_
          refine WL.split 55 rfl (fun s9_2 => ?_) (fun s9_2 => ?_)
          ·
            try simp only [Bool.not_eq_eq_eq_not, Bool.not_true, Bool.not_false, decide_eq_true_eq, decide_eq_false_iff_not, Int.not_lt, Int.not_le, ne_eq, Decidable.not_not, ← List.length_eq_zero_iff] at s9_2
            refine WL.skip rfl rfl rfl ?_
            refine WL.skip rfl rfl rfl ?_
            refine WL.q (oq_pick_t rfl rfl) rfl rfl rfl ?_
            refine WL.nil ?_
            refine WE.then_normal ?_
            refine WC.sub (fr' := [(0, _), (1, _), (58, _)]) ?_ ⟨rfl, rfl, rfl, trivial⟩
            refine WC.cond_t rfl ?_
            refine WC.seq ?_
            refine WC.region ?_
            refine WL.q (oq_move rfl) rfl rfl rfl ?_
            refine WL.q (oq_move rfl) rfl rfl rfl ?_
            refine WL.q (oq_concat rfl rfl (by (first | omega | (simp only [List.length_cons, List.length_nil, List.length_append, List.length_drop, List.length_take]; omega)))) rfl rfl rfl ?_
            refine WL.q (oq_assign rfl) rfl rfl rfl ?_
            refine WL.nil ?_
            refine WE.then_normal ?_
            refine WC.sub (fr' := [(4, _)]) ?_ ⟨rfl, trivial⟩
            refine WC.ret ?_
            refine WE.then_ret ?_
            refine WE.end0 (.inl rfl) (res1 Tryd.results17 rfl) ?_
            -- end 0
            rw [jq_l (nil_of (by omega)), nil_of (l := trimA a) (by omega)]; rfl
          ·
            try simp only [Bool.not_eq_eq_eq_not, Bool.not_true, Bool.not_false, decide_eq_true_eq, decide_eq_false_iff_not, Int.not_lt, Int.not_le, ne_eq, Decidable.not_not, ← List.length_eq_zero_iff] at s9_2
            refine WL.q (oq_move rfl) rfl rfl rfl ?_
            refine WL.q (oq_seql rfl rfl) rfl rfl rfl ?_
            refine WL.q (oq_pick_f rfl rfl) rfl rfl rfl ?_
            refine WL.nil ?_
            refine WE.then_normal ?_
            refine WC.sub (fr' := [(0, _), (1, _), (58, _)]) ?_ ⟨rfl, rfl, rfl, trivial⟩
            refine WC.cond rfl (fun q9 => ?_) (fun q9 => ?_)
            ·
              try simp only [Bool.not_eq_eq_eq_not, Bool.not_true, Bool.not_false, decide_eq_true_eq, decide_eq_false_iff_not, Int.not_lt, Int.not_le, ne_eq, Decidable.not_not, ← List.length_eq_zero_iff] at q9
              refine WC.seq ?_
              refine WC.region ?_
              refine WL.q (oq_move rfl) rfl rfl rfl ?_
              refine WL.q (oq_move rfl) rfl rfl rfl ?_
              refine WL.q (oq_concat rfl rfl (by (first | omega | (simp only [List.length_cons, List.length_nil, List.length_append, List.length_drop, List.length_take]; omega)))) rfl rfl rfl ?_
              refine WL.q (oq_assign rfl) rfl rfl rfl ?_
              refine WL.nil ?_
              refine WE.then_normal ?_
              refine WC.sub (fr' := [(4, _)]) ?_ ⟨rfl, trivial⟩
              refine WC.ret ?_
              refine WE.then_ret ?_
              refine WE.end0 (.inl rfl) (res1 Tryd.results17 rfl) ?_
              -- end 1
              rw [jq_r (nil_of (by omega)), nil_of (l := trimA b) (by omega), List.append_nil]
            ·
              try simp only [Bool.not_eq_eq_eq_not, Bool.not_true, Bool.not_false, decide_eq_true_eq, decide_eq_false_iff_not, Int.not_lt, Int.not_le, ne_eq, Decidable.not_not, ← List.length_eq_zero_iff] at q9
              refine WC.skip ?_
              refine WE.then_normal ?_
              refine WC.sub (fr' := [(0, _), (1, _)]) ?_ ⟨rfl, rfl, trivial⟩
              refine WC.seq ?_
              refine WC.region ?_
              refine WL.q (oq_move rfl) rfl rfl rfl ?_
              refine WL.q (oq_concat rfl rfl (by (first | omega | (simp only [List.length_cons, List.length_nil, List.length_append, List.length_drop, List.length_take]; omega)))) rfl rfl rfl ?_
              refine WL.q (oq_move rfl) rfl rfl rfl ?_
              refine WL.q (oq_concat rfl rfl (by (first | omega | (simp only [List.length_cons, List.length_nil, List.length_append, List.length_drop, List.length_take]; omega)))) rfl rfl rfl ?_
              refine WL.q (oq_assign rfl) rfl rfl rfl ?_
              refine WL.nil ?_
              refine WE.then_normal ?_
              refine WC.sub (fr' := [(4, _)]) ?_ ⟨rfl, trivial⟩
              refine WC.ret ?_
              refine WE.end0 (.inl rfl) (res1 Tryd.results17 rfl) ?_
              -- end 2
              rw [jq_n (not_nil (by omega)) (not_nil (by omega))]

/-- given.example/pub-tinwright/laws.FnHQueries -/
theorem law (T : Hp) (hT : Tabs T) (a b : List UInt8) : FnR Tryd.prog 5 [S a, S b] T (.bool true) := by
  refine FnR.enter (n := 30) Tryd.func5 rfl rfl fun w0 => ?_
  refine WC.sub (fr' := [(0, _), (1, _)]) ?_ ⟨rfl, rfl, trivial⟩
  refine WC.seq ?_
  refine WC.region ?_
  refine WL.q (oq_assign rfl) rfl rfl rfl ?_
  refine WL.nil ?_
  refine WE.then_normal ?_
  refine WC.sub (fr' := [(0, _), (1, _)]) ?_ ⟨rfl, rfl, trivial⟩
  refine WC.seq ?_
  refine WC.seq ?_
  refine WC.region ?_
  refine WL.q (oq_move rfl) rfl rfl rfl ?_
  refine WL.q (oq_len_s Tryd.underlying9 rfl) rfl rfl rfl ?_
  refine WL.q (oq_gtr rfl rfl) rfl rfl rfl ?_
  refine WL.q (oq_move rfl) rfl rfl rfl ?_
  refine WL.split 8 rfl (fun s1_3 => ?_) (fun s1_3 => ?_)
  ·
    try simp only [Bool.not_eq_eq_eq_not, Bool.not_true, Bool.not_false, decide_eq_true_eq, decide_eq_false_iff_not, Int.not_lt, Int.not_le, ne_eq, Decidable.not_not, ← List.length_eq_zero_iff] at s1_3
    refine WL.skip rfl rfl rfl ?_
    refine WL.skip rfl rfl rfl ?_
    refine WL.skip rfl rfl rfl ?_
    refine WL.q (oq_pick_t rfl rfl) rfl rfl rfl ?_
    refine WL.nil ?_
    refine WE.then_normal ?_
    refine WC.sub (fr' := [(0, _), (1, _), (12, _)]) ?_ ⟨rfl, rfl, rfl, trivial⟩
    refine WC.cond_t rfl ?_
    refine WC.seq ?_
    refine WC.region ?_
    refine WL.q (oq_assign rfl) rfl rfl rfl ?_
    refine WL.nil ?_
    refine WE.then_normal ?_
    refine WC.sub (fr' := [(4, _)]) ?_ ⟨rfl, trivial⟩
    refine WC.ret ?_
    refine WE.then_ret ?_
    refine WE.endR (.inl rfl) (res1 Tryd.results5 rfl) ?_
    -- end 0
    first | rfl | (exfalso; simp_all)
  ·
    try simp only [Bool.not_eq_eq_eq_not, Bool.not_true, Bool.not_false, decide_eq_true_eq, decide_eq_false_iff_not, Int.not_lt, Int.not_le, ne_eq, Decidable.not_not, ← List.length_eq_zero_iff] at s1_3
    refine WL.q (oq_move rfl) rfl rfl rfl ?_
    refine WL.q (oq_len_s Tryd.underlying9 rfl) rfl rfl rfl ?_
    refine WL.q (oq_gtr rfl rfl) rfl rfl rfl ?_
    refine WL.q (oq_pick_f rfl rfl) rfl rfl rfl ?_
    refine WL.nil ?_
    refine WE.then_normal ?_
    refine WC.sub (fr' := [(0, _), (1, _), (12, _)]) ?_ ⟨rfl, rfl, rfl, trivial⟩
    refine WC.cond rfl (fun q1 => ?_) (fun q1 => ?_)
    ·
      try simp only [Bool.not_eq_eq_eq_not, Bool.not_true, Bool.not_false, decide_eq_true_eq, decide_eq_false_iff_not, Int.not_lt, Int.not_le, ne_eq, Decidable.not_not, ← List.length_eq_zero_iff] at q1
      refine WC.seq ?_
      refine WC.region ?_
      refine WL.q (oq_assign rfl) rfl rfl rfl ?_
      refine WL.nil ?_
      refine WE.then_normal ?_
      refine WC.sub (fr' := [(4, _)]) ?_ ⟨rfl, trivial⟩
      refine WC.ret ?_
      refine WE.then_ret ?_
      refine WE.endR (.inl rfl) (res1 Tryd.results5 rfl) ?_
      -- end 1
      first | rfl | (exfalso; simp_all)
    ·
      try simp only [Bool.not_eq_eq_eq_not, Bool.not_true, Bool.not_false, decide_eq_true_eq, decide_eq_false_iff_not, Int.not_lt, Int.not_le, ne_eq, Decidable.not_not, ← List.length_eq_zero_iff] at q1
      refine WC.skip ?_
      refine WE.then_normal ?_
      refine WC.sub (fr' := [(0, _), (1, _)]) ?_ ⟨rfl, rfl, trivial⟩
      refine WC.seq ?_
      refine WC.seq ?_
      refine WC.region ?_
      refine WL.q (oq_move rfl) rfl rfl rfl ?_
      refine WL.q (oq_len_s Tryd.underlying9 rfl) rfl rfl rfl ?_
      refine WL.q (oq_move rfl) rfl rfl rfl ?_
      refine WL.q (oq_len_s Tryd.underlying9 rfl) rfl rfl rfl ?_
      refine WL.q (oq_add rfl rfl (by rw [i64_lo, i64_hi]; (first | omega | (simp only [List.length_cons, List.length_nil, List.length_append, List.length_drop, List.length_take]; omega)))) rfl rfl rfl ?_
      refine WL.q (oq_gtr rfl rfl) rfl rfl rfl ?_
      refine WL.nil ?_
      refine WE.then_normal ?_
      refine WC.sub (fr' := [(0, _), (1, _), (18, _)]) ?_ ⟨rfl, rfl, rfl, trivial⟩
      refine WC.cond rfl (fun q3 => ?_) (fun q3 => ?_)
      ·
        try simp only [Bool.not_eq_eq_eq_not, Bool.not_true, Bool.not_false, decide_eq_true_eq, decide_eq_false_iff_not, Int.not_lt, Int.not_le, ne_eq, Decidable.not_not, ← List.length_eq_zero_iff] at q3
        refine WC.seq ?_
        refine WC.region ?_
        refine WL.qc (oq_call (J0.hAwake) call15 rfl) rfl rfl rfl ?_
        refine WL.q (oq_assign rfl) rfl rfl rfl ?_
        refine WL.nil ?_
        refine WE.then_normal ?_
        refine WC.sub (fr' := [(4, _)]) ?_ ⟨rfl, trivial⟩
        refine WC.ret ?_
        refine WE.then_ret ?_
        refine WE.endR (.inl rfl) (res1 Tryd.results5 rfl) ?_
        -- end 2
        first | rfl | (exfalso; simp_all)
      ·
        try simp only [Bool.not_eq_eq_eq_not, Bool.not_true, Bool.not_false, decide_eq_true_eq, decide_eq_false_iff_not, Int.not_lt, Int.not_le, ne_eq, Decidable.not_not, ← List.length_eq_zero_iff] at q3
        refine WC.skip ?_
        refine WE.then_normal ?_
        refine WC.sub (fr' := [(0, _), (1, _)]) ?_ ⟨rfl, rfl, trivial⟩
        refine WC.seq ?_
        refine WC.region ?_
        refine WL.q (oq_move rfl) rfl rfl rfl ?_
        refine WL.q (oq_move rfl) rfl rfl rfl ?_
        refine WL.qc (oq_callRm (hJoin T hT a b (by omega) (by omega)) (.head _) call16 rfl) rfl rfl rfl ?_
        refine WL.q (oq_move rfl) rfl rfl rfl ?_
        refine WL.q (oq_move rfl) rfl rfl rfl ?_
        refine WL.qc (oq_call (hQuery a b (by omega) (by omega)) call17 rfl) rfl rfl rfl ?_
        refine WL.q (oq_seql rfl rfl) rfl rfl rfl ?_
        refine WL.q (oq_move rfl) rfl rfl rfl ?_
        refine WL.split 27 rfl (fun s5_7 => ?_) (fun s5_7 => ?_)
        ·
          try simp only [Bool.not_eq_eq_eq_not, Bool.not_true, Bool.not_false, decide_eq_true_eq, decide_eq_false_iff_not, Int.not_lt, Int.not_le, ne_eq, Decidable.not_not, ← List.length_eq_zero_iff] at s5_7
          refine WL.qc (oq_call (J0.hAwake) call15 rfl) rfl rfl rfl ?_
          refine WL.q (oq_pick_t rfl rfl) rfl rfl rfl ?_
          refine WL.q (oq_assign rfl) rfl rfl rfl ?_
          refine WL.nil ?_
          refine WE.then_normal ?_
          refine WC.sub (fr' := [(4, _)]) ?_ ⟨rfl, trivial⟩
          refine WC.ret ?_
          refine WE.endR (.inl rfl) (res1 Tryd.results5 rfl) ?_
          -- end 3
          first | rfl | (exfalso; simp_all)
        ·
          try simp only [Bool.not_eq_eq_eq_not, Bool.not_true, Bool.not_false, decide_eq_true_eq, decide_eq_false_iff_not, Int.not_lt, Int.not_le, ne_eq, Decidable.not_not, ← List.length_eq_zero_iff] at s5_7
          refine WL.skip rfl rfl rfl ?_
          refine WL.q (oq_pick_f rfl rfl) rfl rfl rfl ?_
          refine WL.q (oq_assign rfl) rfl rfl rfl ?_
          refine WL.nil ?_
          refine WE.then_normal ?_
          refine WC.sub (fr' := [(4, _)]) ?_ ⟨rfl, trivial⟩
          refine WC.ret ?_
          refine WE.endR (.inl rfl) (res1 Tryd.results5 rfl) ?_
          -- end 4
          first | rfl | (exfalso; simp_all)

end K8
end Go.Proofs.YtcgpajknehhdgaaDoor
