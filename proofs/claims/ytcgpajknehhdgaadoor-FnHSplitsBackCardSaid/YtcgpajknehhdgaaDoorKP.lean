/- Plain words on lists in headers, with quotes. -/
import Derived.Test.YtcgpajknehhdgaaDoorH2
import Derived.Lib.Bytealg
namespace Go.Proofs.YtcgpajknehhdgaaDoor
open Go V H1 H2
set_option linter.unusedSimpArgs false
set_option linter.unusedVariables false
namespace KP
/-! ### The first place of a byte -/
theorem ib_spec (c : UInt8) : ∀ l : List UInt8, (Lib.indexByte l c = -1 ∧ c ∉ l) ∨ ∃ k : Nat, Lib.indexByte l c = (k : Int) ∧ k < l.length ∧ l.drop k = c :: l.drop (k + 1) ∧ c ∉ l.take k
  | [] => .inl ⟨rfl, by simp⟩
  | b :: l => by
    by_cases hb : b = c
    · subst hb
      exact .inr ⟨0, by unfold Lib.indexByte; simp, by simp, rfl, by simp⟩
    · have hb' : (b == c) = false := by simpa using hb
      rcases ib_spec c l with ⟨h, hn⟩ | ⟨k, h, hk, hd, hn⟩
      · refine .inl ⟨?_, by simp [Ne.symm hb, hn]⟩
        unfold Lib.indexByte
        rw [hb', h]; simp
      · refine .inr ⟨k + 1, ?_, by simp; omega, hd, by simp [Ne.symm hb, hn]⟩
        unfold Lib.indexByte
        rw [hb', h]
        simp only [Bool.false_eq_true, if_false]
        rw [if_neg (by simp)]
        omega
theorem asc_mem {s : List UInt8} (h : Asc s) : ∀ c ∈ s, c.toNat < 128 := by
  intro c hc
  obtain ⟨i, hi, rfl⟩ := List.mem_iff_getElem.1 hc
  have := h i hi
  rw [byteAt_get s i hi] at this
  omega
theorem asc_of {s : List UInt8} (h : ∀ c ∈ s, c.toNat < 128) : Asc s := fun i hi => by
  rw [byteAt_get s i hi]
  have := h s[i] (List.getElem_mem hi)
  omega
theorem asc_drop {s : List UInt8} (h : Asc s) (k : Nat) : Asc (s.drop k) := asc_of fun c hc => asc_mem h c (List.mem_of_mem_drop hc)
theorem asc_take {s : List UInt8} (h : Asc s) (k : Nat) : Asc (s.take k) := asc_of fun c hc => asc_mem h c (List.mem_of_mem_take hc)
theorem asc_cons {c : UInt8} {s : List UInt8} (h : Asc (c :: s)) : c.toNat < 128 ∧ Asc s := ⟨asc_mem h c (by simp), asc_of fun d hd => asc_mem h d (by simp [hd])⟩

/-! ### A text in quotes, behind its first quote: what it says, what stands behind its last quote, and whether it is left open -/
def hq : List UInt8 → List UInt8 × Option (List UInt8) × Bool
  | [] => ([], none, false)
  | c :: r => if c = 34 then ([], some r, false) else if c = 92 then
      (match r with
       | [] => ([], none, false)
       | d :: r2 => (d :: (hq r2).1, (hq r2).2.1, decide (d ≠ 34 ∧ d ≠ 92) || (hq r2).2.2))
    else (c :: (hq r).1, (hq r).2.1, decide (c = 10) || (hq r).2.2)
theorem hq_nil : hq [] = ([], none, false) := by unfold hq; rfl
theorem hq_q (r : List UInt8) : hq (34 :: r) = ([], some r, false) := by unfold hq; rfl
theorem hq_b0 : hq [92] = ([], none, false) := by unfold hq; rfl
theorem hq_b (d : UInt8) (r : List UInt8) : hq (92 :: d :: r) = (d :: (hq r).1, (hq r).2.1, decide (d ≠ 34 ∧ d ≠ 92) || (hq r).2.2) := by
  rw [hq.eq_def]; rfl
theorem hq_c (c : UInt8) (r : List UInt8) (h1 : c ≠ 34) (h2 : c ≠ 92) : hq (c :: r) = (c :: (hq r).1, (hq r).2.1, decide (c = 10) || (hq r).2.2) := by
  rw [hq.eq_def]; simp only [h1, h2, if_false]
/-- how many bytes the program's scan takes before it stops -/
def cj : Bool → List UInt8 → Nat
  | _, [] => 0
  | b, c :: r => if c = 92 ∨ b = true then cj (!b) r + 1 else if c = 34 then 0 else cj b r + 1
theorem cj_le : ∀ (b : Bool) (l : List UInt8), cj b l ≤ l.length
  | _, [] => Nat.le_refl _
  | b, c :: r => by
    have h1 := cj_le (!b) r
    have h2 := cj_le b r
    unfold cj
    split
    · simp; omega
    · split
      · simp
      · simp; omega
theorem hq_cj : ∀ (n : Nat) (t : List UInt8), t.length ≤ n → ((hq t).2.1 = none ∧ cj false t = t.length) ∨ ∃ r, (hq t).2.1 = some r ∧ cj false t < t.length ∧ t.drop (cj false t) = 34 :: r ∧ hq (t.take (cj false t) ++ [34]) = ((hq t).1, some [], (hq t).2.2) ∧ ((hq t).1 = [] ↔ cj false t = 0)
  | _, [], _ => .inl ⟨by rw [hq_nil], rfl⟩
  | 0, c :: r, h => by simp at h
  | n + 1, c :: r, h => by
    by_cases h1 : c = 34
    · subst h1
      have e : cj false (34 :: r) = 0 := by unfold cj; simp
      refine .inr ⟨r, by rw [hq_q], by rw [e]; simp, by rw [e]; rfl, by rw [e, hq_q]; exact hq_q [], by rw [hq_q, e]; simp⟩
    · by_cases h2 : c = 92
      · subst h2
        cases r with
        | nil => exact .inl ⟨by rw [hq_b0], by unfold cj; simp [cj]⟩
        | cons d r2 =>
          have e : cj false (92 :: d :: r2) = cj false r2 + 2 := by
            rw [cj]; simp only [true_or, if_true]; rw [cj]; simp
          rw [hq_b, e]
          rcases hq_cj n r2 (by simp at h; omega) with ⟨k1, k2⟩ | ⟨x, k1, k2, k3, k4, k5⟩
          · exact .inl ⟨k1, by rw [k2]; simp⟩
          · refine .inr ⟨x, k1, by simp; omega, by rw [List.drop_succ_cons, List.drop_succ_cons]; exact k3, ?_, by simp⟩
            rw [List.take_succ_cons, List.take_succ_cons, List.cons_append, List.cons_append, hq_b, k4]
      · have e : cj false (c :: r) = cj false r + 1 := by rw [cj]; simp [h1, h2]
        rw [hq_c c r h1 h2, e]
        rcases hq_cj n r (by simp at h; omega) with ⟨k1, k2⟩ | ⟨x, k1, k2, k3, k4, k5⟩
        · exact .inl ⟨k1, by rw [k2]; simp⟩
        · refine .inr ⟨x, k1, by simp; omega, by rw [List.drop_succ_cons]; exact k3, ?_, by simp⟩
          rw [List.take_succ_cons, List.cons_append, hq_c _ _ h1 h2, k4]
/-- without a reverse solidus the first quote closes -/
theorem hq_plain : ∀ (p r : List UInt8), 34 ∉ p → 92 ∉ p → (hq (p ++ 34 :: r)).1 = p ∧ (hq (p ++ 34 :: r)).2.1 = some r
  | [], r, _, _ => by rw [List.nil_append, hq_q]; exact ⟨rfl, rfl⟩
  | c :: p, r, h1, h2 => by
    simp only [List.mem_cons, not_or] at h1 h2
    obtain ⟨k1, k2⟩ := hq_plain p r h1.2 h2.2
    rw [List.cons_append, hq_c _ _ (Ne.symm h1.1) (Ne.symm h2.1), k1, k2]
    exact ⟨rfl, rfl⟩
/-- one letter of a text in quotes -/
def un1 : List UInt8 → UInt8 × List UInt8
  | [] => (0, [])
  | c :: r => if c = 92 then (match r with | [] => (0, []) | d :: r2 => (d, r2)) else (c, r)
theorem hq_un1 {t o x : List UInt8} (h : hq t = (o, some x, false)) (h34 : ∀ r, t ≠ 34 :: r) :
    o = (un1 t).1 :: (hq (un1 t).2).1 ∧ hq (un1 t).2 = ((hq (un1 t).2).1, some x, false) ∧ (un1 t).2.length < t.length ∧ (un1 t).2 = t.drop (t.length - (un1 t).2.length) ∧
    ((∃ c, c ≠ 34 ∧ c ≠ 92 ∧ c ≠ 10 ∧ t = c :: (un1 t).2 ∧ (un1 t).1 = c) ∨ (∃ d, (d = 34 ∨ d = 92) ∧ t = 92 :: d :: (un1 t).2 ∧ (un1 t).1 = d)) := by
  cases t with
  | nil => rw [hq_nil] at h; cases h
  | cons c r =>
    by_cases h1 : c = 34
    · subst h1; exact absurd rfl (h34 r)
    · by_cases h2 : c = 92
      · subst h2
        cases r with
        | nil => rw [hq_b0] at h; cases h
        | cons d r2 =>
          have e : un1 (92 :: d :: r2) = (d, r2) := by unfold un1; simp
          rw [hq_b] at h
          simp only [Prod.mk.injEq, Bool.or_eq_false_iff, decide_eq_false_iff_not] at h
          obtain ⟨rfl, k1, k2, k3⟩ := h
          rw [e]
          refine ⟨rfl, by rw [← k1, ← k3], by simp only [List.length_cons]; omega, ?_, .inr ⟨d, ?_, rfl, rfl⟩⟩
          · simp only [List.length_cons]; rw [show r2.length + 1 + 1 - r2.length = 2 by omega]; rfl
          · by_cases h34' : d = 34
            · exact .inl h34'
            · by_cases h92' : d = 92
              · exact .inr h92'
              · exact absurd ⟨h34', h92'⟩ k2
      · have e : un1 (c :: r) = (c, r) := by unfold un1; simp only [h2, if_false]
        rw [hq_c c r h1 h2] at h
        simp only [Prod.mk.injEq, Bool.or_eq_false_iff, decide_eq_false_iff_not] at h
        obtain ⟨rfl, k1, k2, k3⟩ := h
        rw [e]
        refine ⟨rfl, by rw [← k1, ← k3], by simp, ?_, .inl ⟨c, h1, h2, k2, rfl, rfl⟩⟩
        simp only [List.length_cons]; rw [show r.length + 1 - r.length = 1 by omega]; rfl
theorem hq_end {r o x : List UInt8} (h : hq (34 :: r) = (o, some x, false)) : o = [] ∧ r = x := by
  rw [hq_q] at h; simp only [Prod.mk.injEq, Option.some.injEq] at h; exact ⟨h.1.symm, h.2.1⟩
theorem hq_asc : ∀ (n : Nat) (t : List UInt8), t.length ≤ n → Asc t → Asc (hq t).1 ∧ (hq t).1.length ≤ t.length
  | _, [], _, h => by rw [hq_nil]; exact ⟨h, Nat.le_refl _⟩
  | 0, c :: r, h, _ => by simp at h
  | n + 1, c :: r, hn, h => by
    obtain ⟨hc, hr⟩ := asc_cons h
    have mk : ∀ (d : UInt8) (l : List UInt8), d.toNat < 128 → Asc l → Asc (d :: l) := fun d l h1 h2 => asc_of fun e he => by
      rcases List.mem_cons.1 he with rfl | he
      · exact h1
      · exact asc_mem h2 e he
    by_cases h1 : c = 34
    · subst h1; rw [hq_q]; exact ⟨fun i hi => by simp at hi, by simp⟩
    · by_cases h2 : c = 92
      · subst h2
        cases r with
        | nil => rw [hq_b0]; exact ⟨fun i hi => by simp at hi, by simp⟩
        | cons d r2 =>
          obtain ⟨hd, hr2⟩ := asc_cons hr
          obtain ⟨k1, k2⟩ := hq_asc n r2 (by simp at hn; omega) hr2
          rw [hq_b]; exact ⟨mk _ _ hd k1, by simp; omega⟩
      · obtain ⟨k1, k2⟩ := hq_asc n r (by simp at hn; omega) hr
        rw [hq_c _ _ h1 h2]; exact ⟨mk _ _ hc k1, by simp; omega⟩
end KP
end Go.Proofs.YtcgpajknehhdgaaDoor
