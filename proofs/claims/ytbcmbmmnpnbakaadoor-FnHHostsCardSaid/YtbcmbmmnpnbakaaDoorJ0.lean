/- Walks of the joining of paths, and of the law on it. -/
import Derived.Test.YtbcmbmmnpnbakaaDoorV4
import Derived.Test.YtbcmbmmnpnbakaaDoorP0
import Derived.Test.YtbcmbmmnpnbakaaDoorProg
namespace Go.Proofs.YtbcmbmmnpnbakaaDoor
open Go Go.RowKit V
set_option linter.unusedSimpArgs false
set_option linter.unusedVariables false
set_option maxRecDepth 10000
namespace J0
theorem call11 : Callable Tryd.prog 11 := ⟨_, Tryd.func11, rfl, by kernel_rfl⟩
theorem call17 : Callable Tryd.prog 17 := ⟨_, Tryd.func17, rfl, by kernel_rfl⟩

def jhd (a : List UInt8) : List UInt8 := if (a.length : Int) = 0 then [47] else if byteAt a 0 = 47 then a else [47] ++ a
def jtl (b : List UInt8) : List UInt8 := if ¬ (b.length : Int) = 0 ∧ byteAt b 0 = 47 then b.drop 1 else b
def jmd (a b : List UInt8) : List UInt8 := if ¬ (b.length : Int) = 0 ∧ 1 < (a.length : Int) ∧ ¬ byteAt a ((a.length : Int) - 1) = 47 then a ++ [47] else a
def jp (a b : List UInt8) : List UInt8 := jmd (jhd a) (jtl b) ++ jtl b
theorem jhd_len (a : List UInt8) : (jhd a).length ≤ a.length + 1 ∧ 1 ≤ (jhd a).length := by
  unfold jhd; split
  · simp
  · split <;> simp; omega
theorem jtl_len (b : List UInt8) : (jtl b).length ≤ b.length := by unfold jtl; split <;> simp
theorem jmd_len (a b : List UInt8) : (jmd a b).length ≤ a.length + 1 := by unfold jmd; split <;> simp
theorem jp_len (a b : List UInt8) : (jp a b).length ≤ a.length + b.length + 2 := by
  unfold jp; have := jhd_len a; have := jtl_len b; have := jmd_len (jhd a) (jtl b); simp; omega
theorem jhd_0 (a : List UInt8) : byteAt (jhd a) 0 = 47 := by
  unfold jhd; split
  · rfl
  · split
    · assumption
    · rfl
theorem byteAt_app (a b : List UInt8) (h : 1 ≤ a.length) : byteAt (a ++ b) 0 = byteAt a 0 := by
  cases a with
  | nil => simp at h
  | cons c a => rfl
theorem jp_0 (a b : List UInt8) : 1 ≤ (jp a b).length ∧ byteAt (jp a b) 0 = 47 := by
  have h := jhd_len a
  have h0 := jhd_0 a
  unfold jp jmd
  split
  · rw [List.append_assoc, byteAt_app _ _ h.2]; exact ⟨by simp; omega, h0⟩
  · rw [byteAt_app _ _ h.2]; exact ⟨by simp; omega, h0⟩
theorem len0 {a : List UInt8} (h : a = []) : (a.length : Int) = 0 := by subst h; rfl
theorem len1 {a : List UInt8} (h : ¬ a = []) : ¬ (a.length : Int) = 0 := by
  intro e; exact h (List.eq_nil_of_length_eq_zero (by omega))
/-- given.example/pub-tinwright/pub/smithy/transport/http.JoinPath -/
theorem join (a b : List UInt8) (hs : a.length ≤ 4000000000) (hs2 : b.length ≤ 4000000000) : Fn0 Tryd.prog 17 [S a, S b] (S (jp a b)) := by
  refine Fn0.enter (n := 44) Tryd.func17 rfl rfl fun w0 => ?_
  refine WC.sub (fr' := [(0, _), (1, _)]) ?_ ⟨rfl, rfl, trivial⟩
  refine WC.seq ?_
  refine WC.region ?_
  refine WL.q (oq_assign rfl) rfl rfl rfl ?_
  refine WL.nil ?_
  refine WE.then_normal ?_
  refine WC.sub (fr' := [(0, _), (1, _)]) ?_ ⟨rfl, rfl, trivial⟩
  refine WC.cut (ι := (List UInt8)) (fun (a1 : List UInt8) => [(0, S a1), (1, S b)]) (fun (a1 : List UInt8) => []) (fun (a1 : List UInt8) => a1 = jhd a ∧ a1.length ≤ a.length + 1) ?_ ?_
  ·
    refine WC.seq ?_
    refine WC.region ?_
    refine WL.q (oq_move rfl) rfl rfl rfl ?_
    refine WL.q (oq_len_s Tryd.underlying9 rfl) rfl rfl rfl ?_
    refine WL.q (oq_eql rfl rfl) rfl rfl rfl ?_
    refine WL.nil ?_
    refine WE.then_normal ?_
    refine WC.sub (fr' := [(0, _), (1, _), (7, _)]) ?_ ⟨rfl, rfl, rfl, trivial⟩
    refine WC.cond rfl (fun q1 => ?_) (fun q1 => ?_)
    ·
      try simp only [Bool.not_eq_eq_eq_not, Bool.not_true, Bool.not_false, decide_eq_true_eq, decide_eq_false_iff_not, Int.not_lt, Int.not_le, ne_eq, Decidable.not_not, ← List.length_eq_zero_iff] at q1
      refine WC.region ?_
      refine WL.q (oq_assign rfl) rfl rfl rfl ?_
      refine WL.nil ?_
      refine WE.meet _ ?_ ⟨rfl, rfl, trivial⟩ (List.Perm.refl _)
      try dsimp only
      exact ⟨by unfold jhd; first | exact (if_pos (by omega)).symm | exact ((if_neg (by omega)).trans (if_pos (by omega))).symm | exact ((if_neg (by omega)).trans (if_neg (by omega))).symm | (have e : a = [] := List.eq_nil_of_length_eq_zero (by omega); subst e; rfl), by first | omega | (simp; done) | (simp; omega)⟩   -- meet 0
    ·
      try simp only [Bool.not_eq_eq_eq_not, Bool.not_true, Bool.not_false, decide_eq_true_eq, decide_eq_false_iff_not, Int.not_lt, Int.not_le, ne_eq, Decidable.not_not, ← List.length_eq_zero_iff] at q1
      refine WC.seq ?_
      refine WC.region ?_
      refine WL.q (oq_move rfl) rfl rfl rfl ?_
      refine WL.index_s Tryd.underlying9 rfl rfl (by (first | omega | (simp only [List.length_cons, List.length_nil, List.length_append, List.length_drop, List.length_take]; omega))) rfl rfl fun c3_1 hc3_1 hc3_1l hc3_1u => ?_
      refine WL.q (oq_neq rfl rfl) rfl rfl rfl ?_
      refine WL.nil ?_
      refine WE.then_normal ?_
      refine WC.sub (fr' := [(0, _), (1, _), (10, _)]) ?_ ⟨rfl, rfl, rfl, trivial⟩
      refine WC.cond rfl (fun q3 => ?_) (fun q3 => ?_)
      ·
        try simp only [Bool.not_eq_eq_eq_not, Bool.not_true, Bool.not_false, decide_eq_true_eq, decide_eq_false_iff_not, Int.not_lt, Int.not_le, ne_eq, Decidable.not_not, ← List.length_eq_zero_iff] at q3
        refine WC.region ?_
        refine WL.q (oq_move rfl) rfl rfl rfl ?_
        refine WL.q (oq_concat rfl rfl (by (first | omega | (simp only [List.length_cons, List.length_nil, List.length_append, List.length_drop, List.length_take]; omega)))) rfl rfl rfl ?_
        refine WL.q (oq_assign rfl) rfl rfl rfl ?_
        refine WL.nil ?_
        refine WE.meet _ ?_ ⟨rfl, rfl, trivial⟩ (List.Perm.refl _)
        try dsimp only
        exact ⟨by unfold jhd; first | exact (if_pos (by omega)).symm | exact ((if_neg (by omega)).trans (if_pos (by omega))).symm | exact ((if_neg (by omega)).trans (if_neg (by omega))).symm | (have e : a = [] := List.eq_nil_of_length_eq_zero (by omega); subst e; rfl), by first | omega | (simp; done) | (simp; omega)⟩   -- meet 1
      ·
        try simp only [Bool.not_eq_eq_eq_not, Bool.not_true, Bool.not_false, decide_eq_true_eq, decide_eq_false_iff_not, Int.not_lt, Int.not_le, ne_eq, Decidable.not_not, ← List.length_eq_zero_iff] at q3
        refine WC.skip ?_
        refine WE.meet _ ?_ ⟨rfl, rfl, trivial⟩ (List.Perm.refl _)
        try dsimp only
        exact ⟨by unfold jhd; first | exact (if_pos (by omega)).symm | exact ((if_neg (by omega)).trans (if_pos (by omega))).symm | exact ((if_neg (by omega)).trans (if_neg (by omega))).symm | (have e : a = [] := List.eq_nil_of_length_eq_zero (by omega); subst e; rfl), by first | omega | (simp; done) | (simp; omega)⟩   -- meet 2
  · rintro a1 hp
    try dsimp only at hp
    obtain ⟨ha, hal⟩ := hp
    show WC _ _ _ _ _ _ ([(0, S a1), (1, S b)]) ([])
    refine WC.cut (ι := (List UInt8)) (fun (b1 : List UInt8) => [(0, S a1), (1, S b1)]) (fun (b1 : List UInt8) => []) (fun (b1 : List UInt8) => b1 = jtl b ∧ b1.length ≤ b.length) ?_ ?_
    ·
      refine WC.seq ?_
      refine WC.region ?_
      refine WL.q (oq_move rfl) rfl rfl rfl ?_
      refine WL.q (oq_len_s Tryd.underlying9 rfl) rfl rfl rfl ?_
      refine WL.q (oq_neq rfl rfl) rfl rfl rfl ?_
      refine WL.q (oq_move rfl) rfl rfl rfl ?_
      refine WL.split 16 rfl (fun s5_3 => ?_) (fun s5_3 => ?_)
      ·
        try simp only [Bool.not_eq_eq_eq_not, Bool.not_true, Bool.not_false, decide_eq_true_eq, decide_eq_false_iff_not, Int.not_lt, Int.not_le, ne_eq, Decidable.not_not, ← List.length_eq_zero_iff] at s5_3
        refine WL.q (oq_move rfl) rfl rfl rfl ?_
        refine WL.index_s Tryd.underlying9 rfl rfl (by (first | omega | (simp only [List.length_cons, List.length_nil, List.length_append, List.length_drop, List.length_take]; omega))) rfl rfl fun c5_5 hc5_5 hc5_5l hc5_5u => ?_
        refine WL.q (oq_eql rfl rfl) rfl rfl rfl ?_
        refine WL.q (oq_pick_t rfl rfl) rfl rfl rfl ?_
        refine WL.nil ?_
        refine WE.then_normal ?_
        refine WC.sub (fr' := [(0, _), (1, _), (20, _)]) ?_ ⟨rfl, rfl, rfl, trivial⟩
        refine WC.cond rfl (fun q5 => ?_) (fun q5 => ?_)
        ·
          try simp only [Bool.not_eq_eq_eq_not, Bool.not_true, Bool.not_false, decide_eq_true_eq, decide_eq_false_iff_not, Int.not_lt, Int.not_le, ne_eq, Decidable.not_not, ← List.length_eq_zero_iff] at q5
          refine WC.region ?_
          refine WL.q (oq_move rfl) rfl rfl rfl ?_
          refine WL.q (oq_slice_s1 Tryd.underlying9 rfl rfl (by (first | omega | (simp only [List.length_cons, List.length_nil, List.length_append, List.length_drop, List.length_take]; omega)))) rfl rfl rfl ?_
          refine WL.q (oq_assign rfl) rfl rfl rfl ?_
          refine WL.nil ?_
          refine WE.meet _ ?_ ⟨rfl, rfl, trivial⟩ (List.Perm.refl _)
          try dsimp only
          exact ⟨by unfold jtl; first | exact (if_pos (by omega)).symm | exact (if_neg (by omega)).symm, by first | omega | (simp; done) | (simp; omega)⟩   -- meet 0
        ·
          try simp only [Bool.not_eq_eq_eq_not, Bool.not_true, Bool.not_false, decide_eq_true_eq, decide_eq_false_iff_not, Int.not_lt, Int.not_le, ne_eq, Decidable.not_not, ← List.length_eq_zero_iff] at q5
          refine WC.skip ?_
          refine WE.meet _ ?_ ⟨rfl, rfl, trivial⟩ (List.Perm.refl _)
          try dsimp only
          exact ⟨by unfold jtl; first | exact (if_pos (by omega)).symm | exact (if_neg (by omega)).symm, by first | omega | (simp; done) | (simp; omega)⟩   -- meet 1
      ·
        try simp only [Bool.not_eq_eq_eq_not, Bool.not_true, Bool.not_false, decide_eq_true_eq, decide_eq_false_iff_not, Int.not_lt, Int.not_le, ne_eq, Decidable.not_not, ← List.length_eq_zero_iff] at s5_3
        refine WL.skip rfl rfl rfl ?_
        refine WL.skip rfl rfl rfl ?_
        refine WL.skip rfl rfl rfl ?_
        refine WL.q (oq_pick_f rfl rfl) rfl rfl rfl ?_
        refine WL.nil ?_
        refine WE.then_normal ?_
        refine WC.sub (fr' := [(0, _), (1, _), (20, _)]) ?_ ⟨rfl, rfl, rfl, trivial⟩
        refine WC.cond_f rfl ?_
        refine WC.skip ?_
        refine WE.meet _ ?_ ⟨rfl, rfl, trivial⟩ (List.Perm.refl _)
        try dsimp only
        exact ⟨by unfold jtl; first | exact (if_pos (by omega)).symm | exact (if_neg (by omega)).symm, by first | omega | (simp; done) | (simp; omega)⟩   -- meet 2
    · rintro b1 hp
      try dsimp only at hp
      obtain ⟨hb, hbl⟩ := hp
      show WC _ _ _ _ _ _ ([(0, S a1), (1, S b1)]) ([])
      refine WC.cut (ι := (List UInt8)) (fun (a2 : List UInt8) => [(0, S a2), (1, S b1)]) (fun (a2 : List UInt8) => []) (fun (a2 : List UInt8) => a2 = jmd a1 b1 ∧ a2.length ≤ a.length + 2) ?_ ?_
      ·
        refine WC.seq ?_
        refine WC.region ?_
        refine WL.q (oq_move rfl) rfl rfl rfl ?_
        refine WL.q (oq_len_s Tryd.underlying9 rfl) rfl rfl rfl ?_
        refine WL.q (oq_neq rfl rfl) rfl rfl rfl ?_
        refine WL.q (oq_move rfl) rfl rfl rfl ?_
        refine WL.split 26 rfl (fun s7_3 => ?_) (fun s7_3 => ?_)
        ·
          try simp only [Bool.not_eq_eq_eq_not, Bool.not_true, Bool.not_false, decide_eq_true_eq, decide_eq_false_iff_not, Int.not_lt, Int.not_le, ne_eq, Decidable.not_not, ← List.length_eq_zero_iff] at s7_3
          refine WL.q (oq_move rfl) rfl rfl rfl ?_
          refine WL.q (oq_len_s Tryd.underlying9 rfl) rfl rfl rfl ?_
          refine WL.q (oq_gtr rfl rfl) rfl rfl rfl ?_
          refine WL.q (oq_pick_t rfl rfl) rfl rfl rfl ?_
          refine WL.q (oq_move rfl) rfl rfl rfl ?_
          refine WL.split 31 rfl (fun s7_8 => ?_) (fun s7_8 => ?_)
          ·
            try simp only [Bool.not_eq_eq_eq_not, Bool.not_true, Bool.not_false, decide_eq_true_eq, decide_eq_false_iff_not, Int.not_lt, Int.not_le, ne_eq, Decidable.not_not, ← List.length_eq_zero_iff] at s7_8
            refine WL.q (oq_move rfl) rfl rfl rfl ?_
            refine WL.q (oq_move rfl) rfl rfl rfl ?_
            refine WL.q (oq_len_s Tryd.underlying9 rfl) rfl rfl rfl ?_
            refine WL.q (oq_sub rfl rfl (by rw [i64_lo, i64_hi]; (first | omega | (simp only [List.length_cons, List.length_nil, List.length_append, List.length_drop, List.length_take]; omega)))) rfl rfl rfl ?_
            refine WL.index_s Tryd.underlying9 rfl rfl (by (first | omega | (simp only [List.length_cons, List.length_nil, List.length_append, List.length_drop, List.length_take]; omega))) rfl rfl fun c7_13 hc7_13 hc7_13l hc7_13u => ?_
            refine WL.q (oq_neq rfl rfl) rfl rfl rfl ?_
            refine WL.q (oq_pick_t rfl rfl) rfl rfl rfl ?_
            refine WL.nil ?_
            refine WE.then_normal ?_
            refine WC.sub (fr' := [(0, _), (1, _), (38, _)]) ?_ ⟨rfl, rfl, rfl, trivial⟩
            refine WC.cond rfl (fun q7 => ?_) (fun q7 => ?_)
            ·
              try simp only [Bool.not_eq_eq_eq_not, Bool.not_true, Bool.not_false, decide_eq_true_eq, decide_eq_false_iff_not, Int.not_lt, Int.not_le, ne_eq, Decidable.not_not, ← List.length_eq_zero_iff] at q7
              refine WC.region ?_
              refine WL.q (oq_move rfl) rfl rfl rfl ?_
              refine WL.q (oq_concat rfl rfl (by (first | omega | (simp only [List.length_cons, List.length_nil, List.length_append, List.length_drop, List.length_take]; omega)))) rfl rfl rfl ?_
              refine WL.q (oq_assign rfl) rfl rfl rfl ?_
              refine WL.nil ?_
              refine WE.meet _ ?_ ⟨rfl, rfl, trivial⟩ (List.Perm.refl _)
              try dsimp only
              exact ⟨by unfold jmd; first | exact (if_pos (by omega)).symm | exact (if_neg (by omega)).symm, by first | omega | (simp; done) | (simp; omega)⟩   -- meet 0
            ·
              try simp only [Bool.not_eq_eq_eq_not, Bool.not_true, Bool.not_false, decide_eq_true_eq, decide_eq_false_iff_not, Int.not_lt, Int.not_le, ne_eq, Decidable.not_not, ← List.length_eq_zero_iff] at q7
              refine WC.skip ?_
              refine WE.meet _ ?_ ⟨rfl, rfl, trivial⟩ (List.Perm.refl _)
              try dsimp only
              exact ⟨by unfold jmd; first | exact (if_pos (by omega)).symm | exact (if_neg (by omega)).symm, by first | omega | (simp; done) | (simp; omega)⟩   -- meet 1
          ·
            try simp only [Bool.not_eq_eq_eq_not, Bool.not_true, Bool.not_false, decide_eq_true_eq, decide_eq_false_iff_not, Int.not_lt, Int.not_le, ne_eq, Decidable.not_not, ← List.length_eq_zero_iff] at s7_8
            refine WL.skip rfl rfl rfl ?_
            refine WL.skip rfl rfl rfl ?_
            refine WL.skip rfl rfl rfl ?_
            refine WL.skip rfl rfl rfl ?_
            refine WL.skip rfl rfl rfl ?_
            refine WL.skip rfl rfl rfl ?_
            refine WL.q (oq_pick_f rfl rfl) rfl rfl rfl ?_
            refine WL.nil ?_
            refine WE.then_normal ?_
            refine WC.sub (fr' := [(0, _), (1, _), (38, _)]) ?_ ⟨rfl, rfl, rfl, trivial⟩
            refine WC.cond_f rfl ?_
            refine WC.skip ?_
            refine WE.meet _ ?_ ⟨rfl, rfl, trivial⟩ (List.Perm.refl _)
            try dsimp only
            exact ⟨by unfold jmd; first | exact (if_pos (by omega)).symm | exact (if_neg (by omega)).symm, by first | omega | (simp; done) | (simp; omega)⟩   -- meet 2
        ·
          try simp only [Bool.not_eq_eq_eq_not, Bool.not_true, Bool.not_false, decide_eq_true_eq, decide_eq_false_iff_not, Int.not_lt, Int.not_le, ne_eq, Decidable.not_not, ← List.length_eq_zero_iff] at s7_3
          refine WL.skip rfl rfl rfl ?_
          refine WL.skip rfl rfl rfl ?_
          refine WL.skip rfl rfl rfl ?_
          refine WL.q (oq_pick_f rfl rfl) rfl rfl rfl ?_
          refine WL.q (oq_move rfl) rfl rfl rfl ?_
          refine WL.skip rfl rfl rfl ?_
          refine WL.skip rfl rfl rfl ?_
          refine WL.skip rfl rfl rfl ?_
          refine WL.skip rfl rfl rfl ?_
          refine WL.skip rfl rfl rfl ?_
          refine WL.skip rfl rfl rfl ?_
          refine WL.q (oq_pick_f rfl rfl) rfl rfl rfl ?_
          refine WL.nil ?_
          refine WE.then_normal ?_
          refine WC.sub (fr' := [(0, _), (1, _), (38, _)]) ?_ ⟨rfl, rfl, rfl, trivial⟩
          refine WC.cond_f rfl ?_
          refine WC.skip ?_
          refine WE.meet _ ?_ ⟨rfl, rfl, trivial⟩ (List.Perm.refl _)
          try dsimp only
          exact ⟨by unfold jmd; first | exact (if_pos (by omega)).symm | exact (if_neg (by omega)).symm, by first | omega | (simp; done) | (simp; omega)⟩   -- meet 3
      · rintro a2 hp
        try dsimp only at hp
        obtain ⟨ha2, ha2l⟩ := hp
        show WC _ _ _ _ _ _ ([(0, S a2), (1, S b1)]) ([])
        refine WC.seq ?_
        refine WC.region ?_
        refine WL.q (oq_move rfl) rfl rfl rfl ?_
        refine WL.q (oq_move rfl) rfl rfl rfl ?_
        refine WL.q (oq_concat rfl rfl (by (first | omega | (simp only [List.length_cons, List.length_nil, List.length_append, List.length_drop, List.length_take]; omega)))) rfl rfl rfl ?_
        refine WL.q (oq_assign rfl) rfl rfl rfl ?_
        refine WL.nil ?_
        refine WE.then_normal ?_
        refine WC.sub (fr' := [(4, _)]) ?_ ⟨rfl, trivial⟩
        refine WC.ret ?_
        refine WE.end0 (.inl rfl) (res1 Tryd.results17 rfl) ?_
        -- end 0
        subst ha2; subst hb; subst ha; rfl

/-- given.example/pub-tinwright/impl.HJoinPath -/
theorem ijoin (a b : List UInt8) (hs : a.length ≤ 4000000000) (hs2 : b.length ≤ 4000000000) : Fn0 Tryd.prog 11 [S a, S b] (S (jp a b)) := by
  refine Fn0.enter (n := 8) Tryd.func11 rfl rfl fun w0 => ?_
  refine WC.sub (fr' := [(0, _), (1, _)]) ?_ ⟨rfl, rfl, trivial⟩
  refine WC.seq ?_
  refine WC.region ?_
  refine WL.q (oq_assign rfl) rfl rfl rfl ?_
  refine WL.nil ?_
  refine WE.then_normal ?_
  refine WC.sub (fr' := [(0, _), (1, _)]) ?_ ⟨rfl, rfl, trivial⟩
  refine WC.seq ?_
  refine WC.region ?_
  refine WL.q (oq_move rfl) rfl rfl rfl ?_
  refine WL.q (oq_move rfl) rfl rfl rfl ?_
  refine WL.qc (oq_call (join _ _ (by omega) (by omega)) call17 rfl) rfl rfl rfl ?_
  refine WL.q (oq_assign rfl) rfl rfl rfl ?_
  refine WL.nil ?_
  refine WE.then_normal ?_
  refine WC.sub (fr' := [(4, _)]) ?_ ⟨rfl, trivial⟩
  refine WC.ret ?_
  refine WE.end0 (.inl rfl) (res1 Tryd.results11 rfl) ?_
  -- end 0
  rfl

/-- given.example/pub-tinwright/laws.hAwake -/
theorem hAwake  : Fn0 Tryd.prog 4 [] (.bool true) := by
  refine Fn0.enter (n := 3) Tryd.func4 rfl rfl fun w0 => ?_
  refine WC.sub (fr' := []) ?_ trivial
  refine WC.seq ?_
  refine WC.region ?_
  refine WL.q (oq_assign rfl) rfl rfl rfl ?_
  refine WL.nil ?_
  refine WE.then_normal ?_
  refine WC.sub (fr' := []) ?_ trivial
  refine WC.seq ?_
  refine WC.region ?_
  refine WL.qc (oq_call (ijoin _ _ (by decide) (by decide)) call11 rfl) rfl rfl rfl ?_
  refine WL.q (oq_seql rfl rfl) rfl rfl rfl ?_
  refine WL.q (oq_assign rfl) rfl rfl rfl ?_
  refine WL.nil ?_
  refine WE.then_normal ?_
  refine WC.sub (fr' := [(0, _)]) ?_ ⟨rfl, trivial⟩
  refine WC.ret ?_
  refine WE.end0 (.inl rfl) (res1 Tryd.results4 rfl) ?_
  -- end 0
  rfl

end J0
end Go.Proofs.YtbcmbmmnpnbakaaDoor
