/- Walks of the law on three paths. -/
import Derived.Test.YthhankjineidiaaV6
import Derived.Test.YthhankjineidiaaJ0
import Derived.Test.YthhankjineidiaaP0
import Derived.Test.YthhankjineidiaaProg
namespace Go.Proofs.Ythhankjineidiaa
open Go Go.RowKit V
set_option linter.unusedSimpArgs false
set_option linter.unusedVariables false
set_option maxRecDepth 10000
namespace J1
theorem call15 : Callable Try.prog 15 := ⟨_, Try.func15, rfl, by kernel_rfl⟩
theorem call16 : Callable Try.prog 16 := ⟨_, Try.func16, rfl, by kernel_rfl⟩
theorem call18 : Callable Try.prog 18 := ⟨_, Try.func18, rfl, by kernel_rfl⟩

def two (s : List UInt8) : Bool := decide (1 < (s.length : Int)) && decide (byteAt s 0 = 47) && decide (byteAt s 1 = 47)
open J0 in
theorem jp_parts (a b c : List UInt8) (h0 : ¬ b = []) (h1 : ¬ b = [47]) : jp (jp a b) c = jp a (jp b c) := by
  have hb : jhd b = 47 :: jtl b := by
    cases b with
    | nil => exact absurd rfl h0
    | cons x t =>
      have e : byteAt (x :: t) 0 = (x.toNat : Int) := rfl
      have l : ¬ (((x :: t).length : Nat) : Int) = 0 := by simp; omega
      unfold jhd jtl; rw [if_neg l, e]
      by_cases hx : (x.toNat : Int) = 47
      · have hx' : x = 47 := UInt8.toNat_inj.1 (by have e : (47 : UInt8).toNat = 47 := rfl; omega)
        subst hx'; rw [if_pos hx, if_pos ⟨l, hx⟩]; rfl
      · rw [if_neg hx, if_neg (by intro h; exact hx h.2)]; rfl
  have hB : jtl b ≠ [] := by
    cases b with
    | nil => exact absurd rfl h0
    | cons x t =>
      have e : byteAt (x :: t) 0 = (x.toNat : Int) := rfl
      unfold jtl; rw [e]
      split
      · rename_i h
        have hx' : x = 47 := UInt8.toNat_inj.1 (by have e : (47 : UInt8).toNat = 47 := rfl; omega)
        cases t with
        | nil => exact absurd (by rw [hx']) h1
        | cons y t => simp
      · simp
  have hA := jhd_len a
  have hA0 := jhd_0 a
  have p1 := jp_0 a b
  have e1 : jhd (jp a b) = jp a b := by
    unfold jhd; rw [if_neg (by omega), if_pos p1.2]
  have p2 := jp_0 b c
  have e2 : jtl (jp b c) = (jp b c).drop 1 := by
    unfold jtl; rw [if_pos ⟨by omega, p2.2⟩]
  have hl : 1 ≤ (jtl b).length := by
    cases hh : jtl b with
    | nil => exact absurd hh hB
    | cons x t => simp
  have last : ∀ (u v : List UInt8), 1 ≤ v.length → byteAt (u ++ v) (((u ++ v).length : Nat) - 1 : Int) = byteAt v ((v.length : Nat) - 1 : Int) := by
    intro u v hv
    rw [show (((u ++ v).length : Nat) - 1 : Int) = ((u.length + (v.length - 1) : Nat) : Int) by simp; omega, show ((v.length : Nat) - 1 : Int) = ((v.length - 1 : Nat) : Int) by omega]
    unfold byteAt
    rw [Int.toNat_natCast, Int.toNat_natCast, List.getD_eq_getElem?_getD, List.getD_eq_getElem?_getD, List.getElem?_append_right (by omega), Nat.add_sub_cancel_left]
  have mdA : ∀ (x y : List UInt8), ¬ (x.length : Int) = 0 → ¬ (y.length : Int) = 0 → jmd (jhd a) x = jmd (jhd a) y := by
    intro x y hx hy; unfold jmd; simp only [hx, hy]
  have key : ∀ (u : List UInt8), 1 ≤ u.length → jmd (u ++ jtl b) (jtl c) = u ++ (jmd (jhd b) (jtl c)).drop 1 := by
    intro u hu
    rw [hb]
    unfold jmd
    rw [last u _ hl, show (47 :: jtl b : List UInt8) = [47] ++ jtl b from rfl, last [47] _ hl]
    have l1 : 1 < (((u ++ jtl b).length : Nat) : Int) := by simp; omega
    have l2 : 1 < ((([47] ++ jtl b).length : Nat) : Int) := by simp; omega
    simp only [l1, l2, true_and]
    split <;> simp
  have hX : (jp b c).drop 1 = (jmd (jhd b) (jtl c)).drop 1 ++ jtl c := by
    have : 1 ≤ (jmd (jhd b) (jtl c)).length := by unfold jmd; rw [hb]; split <;> simp
    unfold jp; rw [List.drop_append_of_le_length this]
  have hX1 : 1 ≤ ((jmd (jhd b) (jtl c)).drop 1).length := by unfold jmd; rw [hb]; split <;> simp <;> first | done | omega
  have r1 : jp (jp a b) c = jmd (jp a b) (jtl c) ++ jtl c := by
    show jmd (jhd (jp a b)) (jtl c) ++ jtl c = _
    rw [e1]
  have r2 : jp a (jp b c) = jmd (jhd a) (jtl (jp b c)) ++ jtl (jp b c) := rfl
  have hu : 1 ≤ (jmd (jhd a) (jtl b)).length := by unfold jmd; split <;> (try rw [List.length_append]) <;> omega
  rw [r1, r2, e2, hX, show jp a b = jmd (jhd a) (jtl b) ++ jtl b from rfl, key _ hu, mdA (_ ++ jtl c) (jtl b) (by rw [List.length_append]; omega) (by omega)]
  simp
/-- given.example/pub-tinwright/laws.FnHPathsParts$1 -/
theorem two_ (s : List UInt8) (hs : s.length ≤ 4000000000) : Fn0 Try.prog 18 [S s] (.bool (two s)) := by
  refine Fn0.enter (n := 16) Try.func18 rfl rfl fun w0 => ?_
  refine WC.sub (fr' := [(0, _)]) ?_ ⟨rfl, trivial⟩
  refine WC.seq ?_
  refine WC.region ?_
  refine WL.q (oq_assign rfl) rfl rfl rfl ?_
  refine WL.nil ?_
  refine WE.then_normal ?_
  refine WC.sub (fr' := [(0, _)]) ?_ ⟨rfl, trivial⟩
  refine WC.seq ?_
  refine WC.region ?_
  refine WL.q (oq_move rfl) rfl rfl rfl ?_
  refine WL.q (oq_len_s Try.underlying9 rfl) rfl rfl rfl ?_
  refine WL.q (oq_gtr rfl rfl) rfl rfl rfl ?_
  refine WL.q (oq_move rfl) rfl rfl rfl ?_
  refine WL.split 6 rfl (fun s1_3 => ?_) (fun s1_3 => ?_)
  ·
    try simp only [Bool.not_eq_eq_eq_not, Bool.not_true, Bool.not_false, decide_eq_true_eq, decide_eq_false_iff_not, Int.not_lt, Int.not_le, ne_eq, Decidable.not_not, ← List.length_eq_zero_iff] at s1_3
    refine WL.q (oq_move rfl) rfl rfl rfl ?_
    refine WL.index_s Try.underlying9 rfl rfl (by (first | omega | (simp only [List.length_cons, List.length_nil, List.length_append, List.length_drop, List.length_take]; omega))) rfl rfl fun c1_5 hc1_5 hc1_5l hc1_5u => ?_
    refine WL.q (oq_eql rfl rfl) rfl rfl rfl ?_
    refine WL.q (oq_pick_t rfl rfl) rfl rfl rfl ?_
    refine WL.q (oq_move rfl) rfl rfl rfl ?_
    refine WL.split 11 rfl (fun s1_8 => ?_) (fun s1_8 => ?_)
    ·
      try simp only [Bool.not_eq_eq_eq_not, Bool.not_true, Bool.not_false, decide_eq_true_eq, decide_eq_false_iff_not, Int.not_lt, Int.not_le, ne_eq, Decidable.not_not, ← List.length_eq_zero_iff] at s1_8
      refine WL.q (oq_move rfl) rfl rfl rfl ?_
      refine WL.index_s Try.underlying9 rfl rfl (by (first | omega | (simp only [List.length_cons, List.length_nil, List.length_append, List.length_drop, List.length_take]; omega))) rfl rfl fun c1_10 hc1_10 hc1_10l hc1_10u => ?_
      refine WL.q (oq_eql rfl rfl) rfl rfl rfl ?_
      refine WL.q (oq_pick_t rfl rfl) rfl rfl rfl ?_
      refine WL.q (oq_assign rfl) rfl rfl rfl ?_
      refine WL.nil ?_
      refine WE.then_normal ?_
      refine WC.sub (fr' := [(2, _)]) ?_ ⟨rfl, trivial⟩
      refine WC.ret ?_
      refine WE.end0 (.inl rfl) (res1 Try.results18 rfl) ?_
      -- end 0
      unfold two; first | (rw [decide_eq_false (by omega : ¬ 1 < (s.length : Int))]; rfl) | (simp_all; done) | (simp_all; omega)
    ·
      try simp only [Bool.not_eq_eq_eq_not, Bool.not_true, Bool.not_false, decide_eq_true_eq, decide_eq_false_iff_not, Int.not_lt, Int.not_le, ne_eq, Decidable.not_not, ← List.length_eq_zero_iff] at s1_8
      refine WL.skip rfl rfl rfl ?_
      refine WL.skip rfl rfl rfl ?_
      refine WL.skip rfl rfl rfl ?_
      refine WL.q (oq_pick_f rfl rfl) rfl rfl rfl ?_
      refine WL.q (oq_assign rfl) rfl rfl rfl ?_
      refine WL.nil ?_
      refine WE.then_normal ?_
      refine WC.sub (fr' := [(2, _)]) ?_ ⟨rfl, trivial⟩
      refine WC.ret ?_
      refine WE.end0 (.inl rfl) (res1 Try.results18 rfl) ?_
      -- end 1
      unfold two; first | (rw [decide_eq_false (by omega : ¬ 1 < (s.length : Int))]; rfl) | (simp_all; done) | (simp_all; omega)
  ·
    try simp only [Bool.not_eq_eq_eq_not, Bool.not_true, Bool.not_false, decide_eq_true_eq, decide_eq_false_iff_not, Int.not_lt, Int.not_le, ne_eq, Decidable.not_not, ← List.length_eq_zero_iff] at s1_3
    refine WL.skip rfl rfl rfl ?_
    refine WL.skip rfl rfl rfl ?_
    refine WL.skip rfl rfl rfl ?_
    refine WL.q (oq_pick_f rfl rfl) rfl rfl rfl ?_
    refine WL.q (oq_move rfl) rfl rfl rfl ?_
    refine WL.skip rfl rfl rfl ?_
    refine WL.skip rfl rfl rfl ?_
    refine WL.skip rfl rfl rfl ?_
    refine WL.q (oq_pick_f rfl rfl) rfl rfl rfl ?_
    refine WL.q (oq_assign rfl) rfl rfl rfl ?_
    refine WL.nil ?_
    refine WE.then_normal ?_
    refine WC.sub (fr' := [(2, _)]) ?_ ⟨rfl, trivial⟩
    refine WC.ret ?_
    refine WE.end0 (.inl rfl) (res1 Try.results18 rfl) ?_
    -- end 2
    unfold two; first | (rw [decide_eq_false (by omega : ¬ 1 < (s.length : Int))]; rfl) | (simp_all; done) | (simp_all; omega)

/-- given.example/pub-tinwright/laws.FnHPathsParts -/
theorem law (a b c : List UInt8) : Fn0 Try.prog 4 [S a, S b, S c] (.bool true) := by
  refine Fn0.enter (n := 63) Try.func4 rfl rfl fun w0 => ?_
  refine WC.sub (fr' := [(0, _), (1, _), (2, _)]) ?_ ⟨rfl, rfl, rfl, trivial⟩
  refine WC.seq ?_
  refine WC.region ?_
  refine WL.q (oq_assign rfl) rfl rfl rfl ?_
  refine WL.nil ?_
  refine WE.then_normal ?_
  refine WC.sub (fr' := [(0, _), (1, _), (2, _)]) ?_ ⟨rfl, rfl, rfl, trivial⟩
  refine WC.seq ?_
  refine WC.seq ?_
  refine WC.region ?_
  refine WL.q (oq_move rfl) rfl rfl rfl ?_
  refine WL.q (oq_len_s Try.underlying9 rfl) rfl rfl rfl ?_
  refine WL.q (oq_gtr rfl rfl) rfl rfl rfl ?_
  refine WL.q (oq_move rfl) rfl rfl rfl ?_
  refine WL.split 11 rfl (fun s1_3 => ?_) (fun s1_3 => ?_)
  ·
    try simp only [Bool.not_eq_eq_eq_not, Bool.not_true, Bool.not_false, decide_eq_true_eq, decide_eq_false_iff_not, Int.not_lt, Int.not_le, ne_eq, Decidable.not_not, ← List.length_eq_zero_iff] at s1_3
    refine WL.skip rfl rfl rfl ?_
    refine WL.skip rfl rfl rfl ?_
    refine WL.skip rfl rfl rfl ?_
    refine WL.q (oq_pick_t rfl rfl) rfl rfl rfl ?_
    refine WL.q (oq_move rfl) rfl rfl rfl ?_
    refine WL.skip rfl rfl rfl ?_
    refine WL.skip rfl rfl rfl ?_
    refine WL.skip rfl rfl rfl ?_
    refine WL.q (oq_pick_t rfl rfl) rfl rfl rfl ?_
    refine WL.nil ?_
    refine WE.then_normal ?_
    refine WC.sub (fr' := [(0, _), (1, _), (2, _), (20, _)]) ?_ ⟨rfl, rfl, rfl, rfl, trivial⟩
    refine WC.cond_t rfl ?_
    refine WC.seq ?_
    refine WC.region ?_
    refine WL.q (oq_assign rfl) rfl rfl rfl ?_
    refine WL.nil ?_
    refine WE.then_normal ?_
    refine WC.sub (fr' := [(6, _)]) ?_ ⟨rfl, trivial⟩
    refine WC.ret ?_
    refine WE.then_ret ?_
    refine WE.end0 (.inl rfl) (res1 Try.results4 rfl) ?_
    -- end 0
    first | rfl | (exfalso; have := jp_parts a b c (by simp_all) (by simp_all); simp_all)
  ·
    try simp only [Bool.not_eq_eq_eq_not, Bool.not_true, Bool.not_false, decide_eq_true_eq, decide_eq_false_iff_not, Int.not_lt, Int.not_le, ne_eq, Decidable.not_not, ← List.length_eq_zero_iff] at s1_3
    refine WL.q (oq_move rfl) rfl rfl rfl ?_
    refine WL.q (oq_len_s Try.underlying9 rfl) rfl rfl rfl ?_
    refine WL.q (oq_gtr rfl rfl) rfl rfl rfl ?_
    refine WL.q (oq_pick_f rfl rfl) rfl rfl rfl ?_
    refine WL.q (oq_move rfl) rfl rfl rfl ?_
    refine WL.split 16 rfl (fun s1_8 => ?_) (fun s1_8 => ?_)
    ·
      try simp only [Bool.not_eq_eq_eq_not, Bool.not_true, Bool.not_false, decide_eq_true_eq, decide_eq_false_iff_not, Int.not_lt, Int.not_le, ne_eq, Decidable.not_not, ← List.length_eq_zero_iff] at s1_8
      refine WL.skip rfl rfl rfl ?_
      refine WL.skip rfl rfl rfl ?_
      refine WL.skip rfl rfl rfl ?_
      refine WL.q (oq_pick_t rfl rfl) rfl rfl rfl ?_
      refine WL.nil ?_
      refine WE.then_normal ?_
      refine WC.sub (fr' := [(0, _), (1, _), (2, _), (20, _)]) ?_ ⟨rfl, rfl, rfl, rfl, trivial⟩
      refine WC.cond_t rfl ?_
      refine WC.seq ?_
      refine WC.region ?_
      refine WL.q (oq_assign rfl) rfl rfl rfl ?_
      refine WL.nil ?_
      refine WE.then_normal ?_
      refine WC.sub (fr' := [(6, _)]) ?_ ⟨rfl, trivial⟩
      refine WC.ret ?_
      refine WE.then_ret ?_
      refine WE.end0 (.inl rfl) (res1 Try.results4 rfl) ?_
      -- end 1
      first | rfl | (exfalso; have := jp_parts a b c (by simp_all) (by simp_all); simp_all)
    ·
      try simp only [Bool.not_eq_eq_eq_not, Bool.not_true, Bool.not_false, decide_eq_true_eq, decide_eq_false_iff_not, Int.not_lt, Int.not_le, ne_eq, Decidable.not_not, ← List.length_eq_zero_iff] at s1_8
      refine WL.q (oq_move rfl) rfl rfl rfl ?_
      refine WL.q (oq_len_s Try.underlying9 rfl) rfl rfl rfl ?_
      refine WL.q (oq_gtr rfl rfl) rfl rfl rfl ?_
      refine WL.q (oq_pick_f rfl rfl) rfl rfl rfl ?_
      refine WL.nil ?_
      refine WE.then_normal ?_
      refine WC.sub (fr' := [(0, _), (1, _), (2, _), (20, _)]) ?_ ⟨rfl, rfl, rfl, rfl, trivial⟩
      refine WC.cond rfl (fun q1 => ?_) (fun q1 => ?_)
      ·
        try simp only [Bool.not_eq_eq_eq_not, Bool.not_true, Bool.not_false, decide_eq_true_eq, decide_eq_false_iff_not, Int.not_lt, Int.not_le, ne_eq, Decidable.not_not, ← List.length_eq_zero_iff] at q1
        refine WC.seq ?_
        refine WC.region ?_
        refine WL.q (oq_assign rfl) rfl rfl rfl ?_
        refine WL.nil ?_
        refine WE.then_normal ?_
        refine WC.sub (fr' := [(6, _)]) ?_ ⟨rfl, trivial⟩
        refine WC.ret ?_
        refine WE.then_ret ?_
        refine WE.end0 (.inl rfl) (res1 Try.results4 rfl) ?_
        -- end 2
        first | rfl | (exfalso; have := jp_parts a b c (by simp_all) (by simp_all); simp_all)
      ·
        try simp only [Bool.not_eq_eq_eq_not, Bool.not_true, Bool.not_false, decide_eq_true_eq, decide_eq_false_iff_not, Int.not_lt, Int.not_le, ne_eq, Decidable.not_not, ← List.length_eq_zero_iff] at q1
        refine WC.skip ?_
        refine WE.then_normal ?_
        refine WC.sub (fr' := [(0, _), (1, _), (2, _)]) ?_ ⟨rfl, rfl, rfl, trivial⟩
        refine WC.seq ?_
        refine WC.region ?_
        refine WL.q (oq_assign rfl) rfl rfl rfl ?_
        refine WL.nil ?_
        refine WE.then_normal ?_
        refine WC.sub (fr' := [(0, _), (1, _), (2, _), (7, _)]) ?_ ⟨rfl, rfl, rfl, rfl, trivial⟩
        refine WC.seq ?_
        refine WC.seq ?_
        refine WC.region ?_
        refine WL.q (oq_move rfl) rfl rfl rfl ?_
        refine WL.q (oq_len_s Try.underlying9 rfl) rfl rfl rfl ?_
        refine WL.q (oq_move rfl) rfl rfl rfl ?_
        refine WL.q (oq_len_s Try.underlying9 rfl) rfl rfl rfl ?_
        refine WL.q (oq_add rfl rfl (by rw [i64_lo, i64_hi]; (first | omega | (simp only [List.length_cons, List.length_nil, List.length_append, List.length_drop, List.length_take]; omega)))) rfl rfl rfl ?_
        refine WL.q (oq_move rfl) rfl rfl rfl ?_
        refine WL.q (oq_len_s Try.underlying9 rfl) rfl rfl rfl ?_
        refine WL.q (oq_add rfl rfl (by rw [i64_lo, i64_hi]; (first | omega | (simp only [List.length_cons, List.length_nil, List.length_append, List.length_drop, List.length_take]; omega)))) rfl rfl rfl ?_
        refine WL.q (oq_gtr rfl rfl) rfl rfl rfl ?_
        refine WL.q (oq_move rfl) rfl rfl rfl ?_
        refine WL.split 30 rfl (fun s4_9 => ?_) (fun s4_9 => ?_)
        ·
          try simp only [Bool.not_eq_eq_eq_not, Bool.not_true, Bool.not_false, decide_eq_true_eq, decide_eq_false_iff_not, Int.not_lt, Int.not_le, ne_eq, Decidable.not_not, ← List.length_eq_zero_iff] at s4_9
          refine WL.skip rfl rfl rfl ?_
          refine WL.skip rfl rfl rfl ?_
          refine WL.q (oq_pick_t rfl rfl) rfl rfl rfl ?_
          refine WL.q (oq_move rfl) rfl rfl rfl ?_
          refine WL.skip rfl rfl rfl ?_
          refine WL.skip rfl rfl rfl ?_
          refine WL.q (oq_pick_t rfl rfl) rfl rfl rfl ?_
          refine WL.q (oq_move rfl) rfl rfl rfl ?_
          refine WL.skip rfl rfl rfl ?_
          refine WL.skip rfl rfl rfl ?_
          refine WL.skip rfl rfl rfl ?_
          refine WL.q (oq_pick_t rfl rfl) rfl rfl rfl ?_
          refine WL.q (oq_move rfl) rfl rfl rfl ?_
          refine WL.skip rfl rfl rfl ?_
          refine WL.skip rfl rfl rfl ?_
          refine WL.skip rfl rfl rfl ?_
          refine WL.q (oq_pick_t rfl rfl) rfl rfl rfl ?_
          refine WL.nil ?_
          refine WE.then_normal ?_
          refine WC.sub (fr' := [(0, _), (1, _), (2, _), (47, _)]) ?_ ⟨rfl, rfl, rfl, rfl, trivial⟩
          refine WC.cond_t rfl ?_
          refine WC.seq ?_
          refine WC.region ?_
          refine WL.qc (oq_call (J0.hAwake) call15 rfl) rfl rfl rfl ?_
          refine WL.q (oq_assign rfl) rfl rfl rfl ?_
          refine WL.nil ?_
          refine WE.then_normal ?_
          refine WC.sub (fr' := [(6, _)]) ?_ ⟨rfl, trivial⟩
          refine WC.ret ?_
          refine WE.then_ret ?_
          refine WE.end0 (.inl rfl) (res1 Try.results4 rfl) ?_
          -- end 3
          first | rfl | (exfalso; have := jp_parts a b c (by simp_all) (by simp_all); simp_all)
        ·
          try simp only [Bool.not_eq_eq_eq_not, Bool.not_true, Bool.not_false, decide_eq_true_eq, decide_eq_false_iff_not, Int.not_lt, Int.not_le, ne_eq, Decidable.not_not, ← List.length_eq_zero_iff] at s4_9
          refine WL.q (oq_move rfl) rfl rfl rfl ?_
          refine WL.q (oq_seql rfl rfl) rfl rfl rfl ?_
          refine WL.q (oq_pick_f rfl rfl) rfl rfl rfl ?_
          refine WL.q (oq_move rfl) rfl rfl rfl ?_
          refine WL.split 34 rfl (fun s4_13 => ?_) (fun s4_13 => ?_)
          ·
            try simp only [Bool.not_eq_eq_eq_not, Bool.not_true, Bool.not_false, decide_eq_true_eq, decide_eq_false_iff_not, Int.not_lt, Int.not_le, ne_eq, Decidable.not_not, ← List.length_eq_zero_iff] at s4_13
            refine WL.skip rfl rfl rfl ?_
            refine WL.skip rfl rfl rfl ?_
            refine WL.q (oq_pick_t rfl rfl) rfl rfl rfl ?_
            refine WL.q (oq_move rfl) rfl rfl rfl ?_
            refine WL.skip rfl rfl rfl ?_
            refine WL.skip rfl rfl rfl ?_
            refine WL.skip rfl rfl rfl ?_
            refine WL.q (oq_pick_t rfl rfl) rfl rfl rfl ?_
            refine WL.q (oq_move rfl) rfl rfl rfl ?_
            refine WL.skip rfl rfl rfl ?_
            refine WL.skip rfl rfl rfl ?_
            refine WL.skip rfl rfl rfl ?_
            refine WL.q (oq_pick_t rfl rfl) rfl rfl rfl ?_
            refine WL.nil ?_
            refine WE.then_normal ?_
            refine WC.sub (fr' := [(0, _), (1, _), (2, _), (47, _)]) ?_ ⟨rfl, rfl, rfl, rfl, trivial⟩
            refine WC.cond_t rfl ?_
            refine WC.seq ?_
            refine WC.region ?_
            refine WL.qc (oq_call (J0.hAwake) call15 rfl) rfl rfl rfl ?_
            refine WL.q (oq_assign rfl) rfl rfl rfl ?_
            refine WL.nil ?_
            refine WE.then_normal ?_
            refine WC.sub (fr' := [(6, _)]) ?_ ⟨rfl, trivial⟩
            refine WC.ret ?_
            refine WE.then_ret ?_
            refine WE.end0 (.inl rfl) (res1 Try.results4 rfl) ?_
            -- end 4
            first | rfl | (exfalso; have := jp_parts a b c (by simp_all) (by simp_all); simp_all)
          ·
            try simp only [Bool.not_eq_eq_eq_not, Bool.not_true, Bool.not_false, decide_eq_true_eq, decide_eq_false_iff_not, Int.not_lt, Int.not_le, ne_eq, Decidable.not_not, ← List.length_eq_zero_iff] at s4_13
            refine WL.q (oq_move rfl) rfl rfl rfl ?_
            refine WL.q (oq_seql rfl rfl) rfl rfl rfl ?_
            refine WL.q (oq_pick_f rfl rfl) rfl rfl rfl ?_
            refine WL.q (oq_move rfl) rfl rfl rfl ?_
            refine WL.split 38 rfl (fun s4_17 => ?_) (fun s4_17 => ?_)
            ·
              try simp only [Bool.not_eq_eq_eq_not, Bool.not_true, Bool.not_false, decide_eq_true_eq, decide_eq_false_iff_not, Int.not_lt, Int.not_le, ne_eq, Decidable.not_not, ← List.length_eq_zero_iff] at s4_17
              refine WL.skip rfl rfl rfl ?_
              refine WL.skip rfl rfl rfl ?_
              refine WL.skip rfl rfl rfl ?_
              refine WL.q (oq_pick_t rfl rfl) rfl rfl rfl ?_
              refine WL.q (oq_move rfl) rfl rfl rfl ?_
              refine WL.skip rfl rfl rfl ?_
              refine WL.skip rfl rfl rfl ?_
              refine WL.skip rfl rfl rfl ?_
              refine WL.q (oq_pick_t rfl rfl) rfl rfl rfl ?_
              refine WL.nil ?_
              refine WE.then_normal ?_
              refine WC.sub (fr' := [(0, _), (1, _), (2, _), (47, _)]) ?_ ⟨rfl, rfl, rfl, rfl, trivial⟩
              refine WC.cond_t rfl ?_
              refine WC.seq ?_
              refine WC.region ?_
              refine WL.qc (oq_call (J0.hAwake) call15 rfl) rfl rfl rfl ?_
              refine WL.q (oq_assign rfl) rfl rfl rfl ?_
              refine WL.nil ?_
              refine WE.then_normal ?_
              refine WC.sub (fr' := [(6, _)]) ?_ ⟨rfl, trivial⟩
              refine WC.ret ?_
              refine WE.then_ret ?_
              refine WE.end0 (.inl rfl) (res1 Try.results4 rfl) ?_
              -- end 5
              first | rfl | (exfalso; have := jp_parts a b c (by simp_all) (by simp_all); simp_all)
            ·
              try simp only [Bool.not_eq_eq_eq_not, Bool.not_true, Bool.not_false, decide_eq_true_eq, decide_eq_false_iff_not, Int.not_lt, Int.not_le, ne_eq, Decidable.not_not, ← List.length_eq_zero_iff] at s4_17
              refine WL.q (oq_move rfl) rfl rfl rfl ?_
              refine WL.q (oq_move rfl) rfl rfl rfl ?_
              refine WL.qc (oq_callv0 (two_ b (by omega)) call18 rfl rfl) rfl rfl rfl ?_
              refine WL.q (oq_pick_f rfl rfl) rfl rfl rfl ?_
              refine WL.q (oq_move rfl) rfl rfl rfl ?_
              refine WL.split 43 rfl (fun s4_22 => ?_) (fun s4_22 => ?_)
              ·
                try simp only [Bool.not_eq_eq_eq_not, Bool.not_true, Bool.not_false, decide_eq_true_eq, decide_eq_false_iff_not, Int.not_lt, Int.not_le, ne_eq, Decidable.not_not, ← List.length_eq_zero_iff] at s4_22
                refine WL.skip rfl rfl rfl ?_
                refine WL.skip rfl rfl rfl ?_
                refine WL.skip rfl rfl rfl ?_
                refine WL.q (oq_pick_t rfl rfl) rfl rfl rfl ?_
                refine WL.nil ?_
                refine WE.then_normal ?_
                refine WC.sub (fr' := [(0, _), (1, _), (2, _), (47, _)]) ?_ ⟨rfl, rfl, rfl, rfl, trivial⟩
                refine WC.cond_t rfl ?_
                refine WC.seq ?_
                refine WC.region ?_
                refine WL.qc (oq_call (J0.hAwake) call15 rfl) rfl rfl rfl ?_
                refine WL.q (oq_assign rfl) rfl rfl rfl ?_
                refine WL.nil ?_
                refine WE.then_normal ?_
                refine WC.sub (fr' := [(6, _)]) ?_ ⟨rfl, trivial⟩
                refine WC.ret ?_
                refine WE.then_ret ?_
                refine WE.end0 (.inl rfl) (res1 Try.results4 rfl) ?_
                -- end 6
                first | rfl | (exfalso; have := jp_parts a b c (by simp_all) (by simp_all); simp_all)
              ·
                try simp only [Bool.not_eq_eq_eq_not, Bool.not_true, Bool.not_false, decide_eq_true_eq, decide_eq_false_iff_not, Int.not_lt, Int.not_le, ne_eq, Decidable.not_not, ← List.length_eq_zero_iff] at s4_22
                refine WL.q (oq_move rfl) rfl rfl rfl ?_
                refine WL.q (oq_move rfl) rfl rfl rfl ?_
                refine WL.qc (oq_callv0 (two_ c (by omega)) call18 rfl rfl) rfl rfl rfl ?_
                refine WL.q (oq_pick_f rfl rfl) rfl rfl rfl ?_
                refine WL.nil ?_
                refine WE.then_normal ?_
                refine WC.sub (fr' := [(0, _), (1, _), (2, _), (47, _)]) ?_ ⟨rfl, rfl, rfl, rfl, trivial⟩
                refine WC.cond rfl (fun q4 => ?_) (fun q4 => ?_)
                ·
                  try simp only [Bool.not_eq_eq_eq_not, Bool.not_true, Bool.not_false, decide_eq_true_eq, decide_eq_false_iff_not, Int.not_lt, Int.not_le, ne_eq, Decidable.not_not, ← List.length_eq_zero_iff] at q4
                  refine WC.seq ?_
                  refine WC.region ?_
                  refine WL.qc (oq_call (J0.hAwake) call15 rfl) rfl rfl rfl ?_
                  refine WL.q (oq_assign rfl) rfl rfl rfl ?_
                  refine WL.nil ?_
                  refine WE.then_normal ?_
                  refine WC.sub (fr' := [(6, _)]) ?_ ⟨rfl, trivial⟩
                  refine WC.ret ?_
                  refine WE.then_ret ?_
                  refine WE.end0 (.inl rfl) (res1 Try.results4 rfl) ?_
                  -- end 7
                  first | rfl | (exfalso; have := jp_parts a b c (by simp_all) (by simp_all); simp_all)
                ·
                  try simp only [Bool.not_eq_eq_eq_not, Bool.not_true, Bool.not_false, decide_eq_true_eq, decide_eq_false_iff_not, Int.not_lt, Int.not_le, ne_eq, Decidable.not_not, ← List.length_eq_zero_iff] at q4
                  refine WC.skip ?_
                  refine WE.then_normal ?_
                  refine WC.sub (fr' := [(0, _), (1, _), (2, _)]) ?_ ⟨rfl, rfl, rfl, trivial⟩
                  refine WC.seq ?_
                  refine WC.region ?_
                  refine WL.q (oq_move rfl) rfl rfl rfl ?_
                  refine WL.q (oq_move rfl) rfl rfl rfl ?_
                  refine WL.qc (oq_call (J0.ijoin _ _ (by have := J0.jp_len a b; have := J0.jp_len b c; omega) (by have := J0.jp_len a b; have := J0.jp_len b c; omega)) call16 rfl) rfl rfl rfl ?_
                  refine WL.q (oq_move rfl) rfl rfl rfl ?_
                  refine WL.qc (oq_call (J0.ijoin _ _ (by have := J0.jp_len a b; have := J0.jp_len b c; omega) (by have := J0.jp_len a b; have := J0.jp_len b c; omega)) call16 rfl) rfl rfl rfl ?_
                  refine WL.q (oq_move rfl) rfl rfl rfl ?_
                  refine WL.q (oq_move rfl) rfl rfl rfl ?_
                  refine WL.q (oq_move rfl) rfl rfl rfl ?_
                  refine WL.qc (oq_call (J0.ijoin _ _ (by have := J0.jp_len a b; have := J0.jp_len b c; omega) (by have := J0.jp_len a b; have := J0.jp_len b c; omega)) call16 rfl) rfl rfl rfl ?_
                  refine WL.qc (oq_call (J0.ijoin _ _ (by have := J0.jp_len a b; have := J0.jp_len b c; omega) (by have := J0.jp_len a b; have := J0.jp_len b c; omega)) call16 rfl) rfl rfl rfl ?_
                  refine WL.q (oq_seql rfl rfl) rfl rfl rfl ?_
                  refine WL.q (oq_move rfl) rfl rfl rfl ?_
                  refine WL.split 60 rfl (fun s6_11 => ?_) (fun s6_11 => ?_)
                  ·
                    try simp only [Bool.not_eq_eq_eq_not, Bool.not_true, Bool.not_false, decide_eq_true_eq, decide_eq_false_iff_not, Int.not_lt, Int.not_le, ne_eq, Decidable.not_not, ← List.length_eq_zero_iff] at s6_11
                    refine WL.qc (oq_call (J0.hAwake) call15 rfl) rfl rfl rfl ?_
                    refine WL.q (oq_pick_t rfl rfl) rfl rfl rfl ?_
                    refine WL.q (oq_assign rfl) rfl rfl rfl ?_
                    refine WL.nil ?_
                    refine WE.then_normal ?_
                    refine WC.sub (fr' := [(6, _)]) ?_ ⟨rfl, trivial⟩
                    refine WC.ret ?_
                    refine WE.end0 (.inl rfl) (res1 Try.results4 rfl) ?_
                    -- end 8
                    first | rfl | (exfalso; have := jp_parts a b c (by simp_all) (by simp_all); simp_all)
                  ·
                    try simp only [Bool.not_eq_eq_eq_not, Bool.not_true, Bool.not_false, decide_eq_true_eq, decide_eq_false_iff_not, Int.not_lt, Int.not_le, ne_eq, Decidable.not_not, ← List.length_eq_zero_iff] at s6_11
                    refine WL.skip rfl rfl rfl ?_
                    refine WL.q (oq_pick_f rfl rfl) rfl rfl rfl ?_
                    refine WL.q (oq_assign rfl) rfl rfl rfl ?_
                    refine WL.nil ?_
                    refine WE.then_normal ?_
                    refine WC.sub (fr' := [(6, _)]) ?_ ⟨rfl, trivial⟩
                    refine WC.ret ?_
                    refine WE.end0 (.inl rfl) (res1 Try.results4 rfl) ?_
                    -- end 9
                    first | rfl | (exfalso; have := jp_parts a b c (by simp_all) (by simp_all); simp_all)

end J1
end Go.Proofs.Ythhankjineidiaa
