/- Plain words on characters: a text's part of one character. -/
import Derived.Test.YtcgpajknehhdgaaDoorV8
import Derived.Test.YtcgpajknehhdgaaDoorP0
namespace Go.Proofs.YtcgpajknehhdgaaDoor
open Go V
set_option linter.unusedSimpArgs false
set_option linter.unusedVariables false
def c2 (b0 b1 : Nat) : Nat := b0 % 32 * 64 + b1 % 64
def c3 (b0 b1 b2 : Nat) : Nat := b0 % 16 * 4096 + b1 % 64 * 64 + b2 % 64
def c4 (b0 b1 b2 b3 : Nat) : Nat := b0 % 8 * 262144 + b1 % 64 * 4096 + b2 % 64 * 64 + b3 % 64
/-- a character of two, three, four bytes stands at the beginning of m bytes -/
def V2 (m b0 b1 : Nat) : Prop := b0 / 32 = 6 ∧ (1 < m ∧ b1 / 64 = 2) ∧ 128 ≤ c2 b0 b1
def V3 (m b0 b1 b2 : Nat) : Prop := b0 / 16 = 14 ∧ (1 < m ∧ b1 / 64 = 2) ∧ (2 < m ∧ b2 / 64 = 2) ∧ 2048 ≤ c3 b0 b1 b2 ∧ (c3 b0 b1 b2 < 55296 ∨ (57344 ≤ c3 b0 b1 b2 ∧ c3 b0 b1 b2 ≤ 1114111))
def V4 (m b0 b1 b2 b3 : Nat) : Prop := b0 / 8 = 30 ∧ (1 < m ∧ b1 / 64 = 2) ∧ (2 < m ∧ b2 / 64 = 2) ∧ (3 < m ∧ b3 / 64 = 2) ∧ 65536 ≤ c4 b0 b1 b2 b3 ∧ (c4 b0 b1 b2 b3 < 55296 ∨ (57344 ≤ c4 b0 b1 b2 b3 ∧ c4 b0 b1 b2 b3 ≤ 1114111))
open Classical in
/-- what the first bytes of a text of m bytes say -/
noncomputable def dec4 (m b0 b1 b2 b3 : Nat) : Nat × Nat :=
  if b0 < 128 then (b0, 1) else if V2 m b0 b1 then (c2 b0 b1, 2) else if V3 m b0 b1 b2 then (c3 b0 b1 b2, 3) else if V4 m b0 b1 b2 b3 then (c4 b0 b1 b2 b3, 4) else (65533, 1)
def bt (s : List UInt8) (i : Nat) : Nat := (s.getD i 0).toNat
theorem get_bt (s : List UInt8) (i : Nat) : ((⟨⟨s⟩⟩ : ByteArray).get! i).toNat = bt s i := by
  unfold bt
  show ((⟨s⟩ : Array UInt8)[i]!).toNat = _
  rw [List.getD_eq_getElem?_getD]
  by_cases h : i < s.length
  · rw [getElem!_pos _ _ (by simpa using h), List.getElem?_eq_getElem h]; rfl
  · rw [getElem!_neg _ _ (by simpa using h), List.getElem?_eq_none (by omega)]; rfl
theorem decAt_dec4 (s : List UInt8) (i : Nat) : decAt s i = dec4 (s.length - i) (bt s i) (bt s (i + 1)) (bt s (i + 2)) (bt s (i + 3)) := by
  unfold decAt Utf8.decode
  have hs : (⟨⟨s⟩⟩ : ByteArray).size = s.length := rfl
  simp only [get_bt, hs, Nat.add_zero]
  generalize bt s i = b0
  generalize bt s (i + 1) = b1
  generalize bt s (i + 2) = b2
  generalize bt s (i + 3) = b3
  have e1 : i + 1 < s.length ↔ 1 < s.length - i := by omega
  have e2 : i + 2 < s.length ↔ 2 < s.length - i := by omega
  have e3 : i + 3 < s.length ↔ 3 < s.length - i := by omega
  generalize hm : s.length - i = m at *
  unfold dec4
  by_cases h0 : b0 < 128
  · rw [if_pos h0, if_pos h0]
  rw [if_neg h0, if_neg h0]
  simp only [Bool.and_eq_true, decide_eq_true_eq, beq_iff_eq, e1, e2, e3]
  by_cases h6 : b0 / 32 = 6
  · have n14 : ¬ b0 / 16 = 14 := by omega
    have n30 : ¬ b0 / 8 = 30 := by omega
    have nV3 : ¬ V3 m b0 b1 b2 := fun h => n14 h.1
    have nV4 : ¬ V4 m b0 b1 b2 b3 := fun h => n30 h.1
    rw [if_neg nV3, if_neg nV4]
    by_cases hc : 1 < m ∧ b1 / 64 = 2
    · rw [if_pos ⟨h6, hc⟩]
      by_cases hh : 128 ≤ c2 b0 b1
      · rw [if_pos (show V2 m b0 b1 from ⟨h6, hc, hh⟩)]; exact if_pos hh
      · rw [if_neg (fun h : V2 m b0 b1 => hh h.2.2)]; exact if_neg hh
    · rw [if_neg (fun h => hc h.2), if_neg (fun h => n14 h.1.1), if_neg (fun h => n30 h.1.1.1), if_neg (fun h : V2 m b0 b1 => hc h.2.1)]; rfl
  · have nV2 : ¬ V2 m b0 b1 := fun h => h6 h.1
    rw [if_neg (fun h => h6 h.1), if_neg nV2]
    by_cases h14 : b0 / 16 = 14
    · have n30 : ¬ b0 / 8 = 30 := by omega
      have nV4 : ¬ V4 m b0 b1 b2 b3 := fun h => n30 h.1
      rw [if_neg nV4]
      by_cases hc : (1 < m ∧ b1 / 64 = 2) ∧ (2 < m ∧ b2 / 64 = 2)
      · rw [if_pos ⟨⟨h14, hc.1⟩, hc.2⟩]
        have hv : (c3 b0 b1 b2 ≥ 2048 ∧ Utf8.valid (c3 b0 b1 b2) = true) ↔ V3 m b0 b1 b2 := by
          unfold Utf8.valid V3
          simp only [Bool.and_eq_true, Bool.or_eq_true, decide_eq_true_eq]
          generalize c3 b0 b1 b2 = c
          constructor
          · intro h; exact ⟨h14, hc.1, hc.2, h.1, by omega⟩
          · intro h; exact ⟨h.2.2.2.1, by have := h.2.2.2.2; omega⟩
        by_cases hh : V3 m b0 b1 b2
        · rw [if_pos hh]; exact if_pos (hv.2 hh)
        · rw [if_neg hh]; exact if_neg fun h => hh (hv.1 h)
      · rw [if_neg (fun h => hc ⟨h.1.2, h.2⟩), if_neg (fun h => n30 h.1.1.1), if_neg (fun h : V3 m b0 b1 b2 => hc ⟨h.2.1, h.2.2.1⟩)]; rfl
    · have nV3 : ¬ V3 m b0 b1 b2 := fun h => h14 h.1
      rw [if_neg (fun h => h14 h.1.1), if_neg nV3]
      by_cases hc : b0 / 8 = 30 ∧ (1 < m ∧ b1 / 64 = 2) ∧ (2 < m ∧ b2 / 64 = 2) ∧ (3 < m ∧ b3 / 64 = 2)
      · rw [if_pos ⟨⟨⟨hc.1, hc.2.1⟩, hc.2.2.1⟩, hc.2.2.2⟩]
        have hv : (c4 b0 b1 b2 b3 ≥ 65536 ∧ Utf8.valid (c4 b0 b1 b2 b3) = true) ↔ V4 m b0 b1 b2 b3 := by
          unfold Utf8.valid V4
          simp only [Bool.and_eq_true, Bool.or_eq_true, decide_eq_true_eq]
          generalize c4 b0 b1 b2 b3 = c
          constructor
          · intro h; exact ⟨hc.1, hc.2.1, hc.2.2.1, hc.2.2.2, h.1, by omega⟩
          · intro h; exact ⟨h.2.2.2.2.1, by have := h.2.2.2.2.2; omega⟩
        by_cases hh : V4 m b0 b1 b2 b3
        · rw [if_pos hh]; exact if_pos (hv.2 hh)
        · rw [if_neg hh]; exact if_neg fun h => hh (hv.1 h)
      · rw [if_neg (fun h => hc ⟨h.1.1.1, h.1.1.2, h.1.2, h.2⟩), if_neg (fun h : V4 m b0 b1 b2 b3 => hc ⟨h.1, h.2.1, h.2.2.1, h.2.2.2.1⟩)]; rfl
/-- the same, of a text's part of n bytes -/
theorem dec4_cut (n m b0 b1 b2 b3 d1 d2 d3 : Nat) (hn : 1 ≤ n) (hm : n ≤ m) (h1 : 1 < n → d1 = b1) (h2 : 2 < n → d2 = b2) (h3 : 3 < n → d3 = b3) :
    dec4 n b0 d1 d2 d3 = if (dec4 m b0 b1 b2 b3).2 ≤ n then dec4 m b0 b1 b2 b3 else (65533, 1) := by
  have k2 : V2 n b0 d1 ↔ V2 m b0 b1 ∧ 2 ≤ n := by
    constructor
    · intro h; have := h.2.1.1; rw [h1 this] at h; exact ⟨⟨h.1, ⟨by omega, h.2.1.2⟩, h.2.2⟩, by omega⟩
    · intro ⟨h, hh⟩; rw [h1 (by omega)]; exact ⟨h.1, ⟨by omega, h.2.1.2⟩, h.2.2⟩
  have k3 : V3 n b0 d1 d2 ↔ V3 m b0 b1 b2 ∧ 3 ≤ n := by
    constructor
    · intro h; have := h.2.2.1.1; rw [h1 (by omega), h2 this] at h; exact ⟨⟨h.1, ⟨by omega, h.2.1.2⟩, ⟨by omega, h.2.2.1.2⟩, h.2.2.2⟩, by omega⟩
    · intro ⟨h, hh⟩; rw [h1 (by omega), h2 (by omega)]; exact ⟨h.1, ⟨by omega, h.2.1.2⟩, ⟨by omega, h.2.2.1.2⟩, h.2.2.2⟩
  have k4 : V4 n b0 d1 d2 d3 ↔ V4 m b0 b1 b2 b3 ∧ 4 ≤ n := by
    constructor
    · intro h; have := h.2.2.2.1.1; rw [h1 (by omega), h2 (by omega), h3 this] at h; exact ⟨⟨h.1, ⟨by omega, h.2.1.2⟩, ⟨by omega, h.2.2.1.2⟩, ⟨by omega, h.2.2.2.1.2⟩, h.2.2.2.2⟩, by omega⟩
    · intro ⟨h, hh⟩; rw [h1 (by omega), h2 (by omega), h3 (by omega)]; exact ⟨h.1, ⟨by omega, h.2.1.2⟩, ⟨by omega, h.2.2.1.2⟩, ⟨by omega, h.2.2.2.1.2⟩, h.2.2.2.2⟩
  unfold dec4
  by_cases h0 : b0 < 128
  · simp only [if_pos h0, if_pos hn]
  simp only [if_neg h0]
  by_cases a2 : V2 m b0 b1
  · have x3 : ¬ V3 m b0 b1 b2 := fun h => by have := a2.1; have := h.1; omega
    have x4 : ¬ V4 m b0 b1 b2 b3 := fun h => by have := a2.1; have := h.1; omega
    simp only [if_pos a2]
    by_cases hh : 2 ≤ n
    · rw [if_pos hh, if_pos (k2.2 ⟨a2, hh⟩), h1 (by omega)]
    · rw [if_neg hh, if_neg (fun h => hh (k2.1 h).2), if_neg (fun h => x3 (k3.1 h).1), if_neg (fun h => x4 (k4.1 h).1)]
  · simp only [if_neg a2, if_neg (fun h => a2 (k2.1 h).1)]
    by_cases a3 : V3 m b0 b1 b2
    · have x4 : ¬ V4 m b0 b1 b2 b3 := fun h => by have := a3.1; have := h.1; omega
      simp only [if_pos a3]
      by_cases hh : 3 ≤ n
      · rw [if_pos hh, if_pos (k3.2 ⟨a3, hh⟩), h1 (by omega), h2 (by omega)]
      · rw [if_neg hh, if_neg (fun h => hh (k3.1 h).2), if_neg (fun h => x4 (k4.1 h).1)]
    · simp only [if_neg a3, if_neg (fun h => a3 (k3.1 h).1)]
      by_cases a4 : V4 m b0 b1 b2 b3
      · simp only [if_pos a4]
        by_cases hh : 4 ≤ n
        · rw [if_pos hh, if_pos (k4.2 ⟨a4, hh⟩), h1 (by omega), h2 (by omega), h3 (by omega)]
        · rw [if_neg hh, if_neg (fun h => hh (k4.1 h).2)]
      · simp only [if_neg a4, if_neg (fun h => a4 (k4.1 h).1), if_pos hn]

/-- a character stands there: no byte that is none -/
def vld (s : List UInt8) (i : Nat) : Prop := (decAt s i).1 < 128 ∨ 2 ≤ (decAt s i).2
theorem dec4_bad (m b0 b1 b2 b3 : Nat) (h : ¬ ((dec4 m b0 b1 b2 b3).1 < 128 ∨ 2 ≤ (dec4 m b0 b1 b2 b3).2)) : dec4 m b0 b1 b2 b3 = (65533, 1) := by
  unfold dec4 at *
  split
  · rename_i h0; rw [if_pos h0] at h; exact absurd (.inl h0) h
  · rename_i h0; rw [if_neg h0] at h
    split
    · rename_i h2; rw [if_pos h2] at h; exact absurd (.inr (Nat.le_refl 2)) h
    · rename_i h2; rw [if_neg h2] at h
      split
      · rename_i h3; rw [if_pos h3] at h; exact absurd (.inr (show 2 ≤ 3 by omega)) h
      · rename_i h3; rw [if_neg h3] at h
        split
        · rename_i h4; rw [if_pos h4] at h; exact absurd (.inr (show 2 ≤ 4 by omega)) h
        · rfl
theorem not_vld (s : List UInt8) (i : Nat) (h : ¬ vld s i) : decAt s i = (65533, 1) := by
  unfold vld at h; rw [decAt_dec4] at *; exact dec4_bad _ _ _ _ _ h
theorem decAt_4 (s : List UInt8) (i : Nat) : (decAt s i).2 ≤ 4 := by
  rw [decAt_dec4]; unfold dec4
  repeat' split
  all_goals omega
theorem bt_get (s : List UInt8) (i : Nat) : UInt8.ofNat (bt s i) = s.getD i 0 := by unfold bt; exact UInt8.ofNat_toNat
theorem take_bt (s : List UInt8) (i w : Nat) (h : i + (w + 1) ≤ s.length) : (s.drop i).take (w + 1) = UInt8.ofNat (bt s i) :: (s.drop (i + 1)).take w := by
  rw [bt_get, List.drop_eq_getElem_cons (by omega), List.take_succ_cons, List.getD_eq_getElem?_getD, List.getElem?_eq_getElem (by omega)]; rfl
theorem bt_take (s : List UInt8) (i n k : Nat) (hk : k < n) : bt ((s.drop i).take n) k = bt s (i + k) := by
  unfold bt
  rw [List.getD_eq_getElem?_getD, List.getD_eq_getElem?_getD, List.getElem?_take, if_pos hk, List.getElem?_drop]
theorem bt_lt (s : List UInt8) (i : Nat) : bt s i < 256 := UInt8.toNat_lt _
theorem enc_at (r : Int) (hv : Utf8.valid r = true) : Utf8.encode r = if r.toNat < 128 then ⟨#[UInt8.ofNat r.toNat]⟩
  else if r.toNat < 2048 then ⟨#[UInt8.ofNat (192 + r.toNat / 64), UInt8.ofNat (128 + r.toNat % 64)]⟩
  else if r.toNat < 65536 then ⟨#[UInt8.ofNat (224 + r.toNat / 4096), UInt8.ofNat (128 + r.toNat / 64 % 64), UInt8.ofNat (128 + r.toNat % 64)]⟩
  else ⟨#[UInt8.ofNat (240 + r.toNat / 262144), UInt8.ofNat (128 + r.toNat / 4096 % 64), UInt8.ofNat (128 + r.toNat / 64 % 64), UInt8.ofNat (128 + r.toNat % 64)]⟩ := by
  unfold Utf8.encode
  rw [if_pos hv]
theorem valid_of (c : Nat) (h : c < 55296 ∨ (57344 ≤ c ∧ c ≤ 1114111)) : Utf8.valid (c : Int) = true := by
  unfold Utf8.valid
  rw [Bool.or_eq_true, Bool.and_eq_true, Bool.and_eq_true]
  rcases h with h | h
  · left; exact ⟨decide_eq_true (by omega), decide_eq_true (by omega)⟩
  · right; exact ⟨decide_eq_true (by omega), decide_eq_true (by omega)⟩
theorem encR_of (c : Nat) (z : ByteArray) (l : List UInt8) (h : Utf8.encode (c : Int) = z) (hz : bytesOf z = l) : encR c = l := by
  show bytesOf (Utf8.encode (c : Int)) = l
  rw [h, hz]
theorem encR_1 (c : Nat) (h : c < 128) : encR c = [UInt8.ofNat c] := by
  refine encR_of c ⟨#[UInt8.ofNat c]⟩ _ ?_ rfl
  rw [enc_at _ (valid_of c (by omega)), Int.toNat_natCast, if_pos h]
theorem encR_2 (c : Nat) (h : 128 ≤ c) (h2 : c < 2048) : encR c = [UInt8.ofNat (192 + c / 64), UInt8.ofNat (128 + c % 64)] := by
  refine encR_of c ⟨#[UInt8.ofNat (192 + c / 64), UInt8.ofNat (128 + c % 64)]⟩ _ ?_ rfl
  rw [enc_at _ (valid_of c (by omega)), Int.toNat_natCast, if_neg (by omega), if_pos h2]
theorem encR_3 (c : Nat) (h : 2048 ≤ c) (h2 : c < 65536) (hs : c < 55296 ∨ 57344 ≤ c) : encR c = [UInt8.ofNat (224 + c / 4096), UInt8.ofNat (128 + c / 64 % 64), UInt8.ofNat (128 + c % 64)] := by
  refine encR_of c ⟨#[UInt8.ofNat (224 + c / 4096), UInt8.ofNat (128 + c / 64 % 64), UInt8.ofNat (128 + c % 64)]⟩ _ ?_ rfl
  rw [enc_at _ (valid_of c (by omega)), Int.toNat_natCast, if_neg (by omega), if_neg (by omega), if_pos h2]
theorem encR_4 (c : Nat) (h : 65536 ≤ c) (h2 : c ≤ 1114111) : encR c = [UInt8.ofNat (240 + c / 262144), UInt8.ofNat (128 + c / 4096 % 64), UInt8.ofNat (128 + c / 64 % 64), UInt8.ofNat (128 + c % 64)] := by
  refine encR_of c ⟨#[UInt8.ofNat (240 + c / 262144), UInt8.ofNat (128 + c / 4096 % 64), UInt8.ofNat (128 + c / 64 % 64), UInt8.ofNat (128 + c % 64)]⟩ _ ?_ rfl
  rw [enc_at _ (valid_of c (by omega)), Int.toNat_natCast, if_neg (by omega), if_neg (by omega), if_neg (by omega)]
theorem enc_dec (s : List UInt8) (i : Nat) (hi : i < s.length) (hv : vld s i) : encR (decAt s i).1 = (s.drop i).take (decAt s i).2 := by
  have hw := decAt_width s i hi
  unfold vld at hv
  rw [decAt_dec4] at *
  have l0 := bt_lt s i
  have l1 := bt_lt s (i + 1)
  have l2 := bt_lt s (i + 2)
  have l3 := bt_lt s (i + 3)
  unfold dec4 at *
  by_cases h0 : bt s i < 128
  · simp only [if_pos h0] at *
    rw [encR_1 _ h0, take_bt s i 0 (by omega)]; simp
  simp only [if_neg h0] at *
  by_cases h2 : V2 (s.length - i) (bt s i) (bt s (i + 1))
  · simp only [if_pos h2] at *
    obtain ⟨x1, x2, x3⟩ := h2
    unfold c2 at *
    rw [encR_2 _ x3 (by omega), take_bt s i 1 (by omega), take_bt s (i + 1) 0 (by omega)]
    rw [show 192 + (bt s i % 32 * 64 + bt s (i + 1) % 64) / 64 = bt s i by omega, show 128 + (bt s i % 32 * 64 + bt s (i + 1) % 64) % 64 = bt s (i + 1) by omega]
    simp
  simp only [if_neg h2] at *
  by_cases h3 : V3 (s.length - i) (bt s i) (bt s (i + 1)) (bt s (i + 2))
  · simp only [if_pos h3] at *
    obtain ⟨x1, x2, x3, x4, x5⟩ := h3
    unfold c3 at *
    rw [encR_3 _ x4 (by omega) (by omega), take_bt s i 2 (by omega), take_bt s (i + 1) 1 (by omega), take_bt s (i + 1 + 1) 0 (by omega)]
    rw [show 224 + (bt s i % 16 * 4096 + bt s (i + 1) % 64 * 64 + bt s (i + 2) % 64) / 4096 = bt s i by omega, show 128 + (bt s i % 16 * 4096 + bt s (i + 1) % 64 * 64 + bt s (i + 2) % 64) / 64 % 64 = bt s (i + 1) by omega, show 128 + (bt s i % 16 * 4096 + bt s (i + 1) % 64 * 64 + bt s (i + 2) % 64) % 64 = bt s (i + 2) by omega]
    simp
  simp only [if_neg h3] at *
  by_cases h4 : V4 (s.length - i) (bt s i) (bt s (i + 1)) (bt s (i + 2)) (bt s (i + 3))
  · simp only [if_pos h4] at *
    obtain ⟨x1, x2, x3, x4, x5, x6⟩ := h4
    unfold c4 at *
    rw [encR_4 _ x5 (by omega), take_bt s i 3 (by omega), take_bt s (i + 1) 2 (by omega), take_bt s (i + 1 + 1) 1 (by omega), take_bt s (i + 1 + 1 + 1) 0 (by omega)]
    rw [show 240 + (bt s i % 8 * 262144 + bt s (i + 1) % 64 * 4096 + bt s (i + 2) % 64 * 64 + bt s (i + 3) % 64) / 262144 = bt s i by omega, show 128 + (bt s i % 8 * 262144 + bt s (i + 1) % 64 * 4096 + bt s (i + 2) % 64 * 64 + bt s (i + 3) % 64) / 4096 % 64 = bt s (i + 1) by omega, show 128 + (bt s i % 8 * 262144 + bt s (i + 1) % 64 * 4096 + bt s (i + 2) % 64 * 64 + bt s (i + 3) % 64) / 64 % 64 = bt s (i + 2) by omega, show 128 + (bt s i % 8 * 262144 + bt s (i + 1) % 64 * 4096 + bt s (i + 2) % 64 * 64 + bt s (i + 3) % 64) % 64 = bt s (i + 3) by omega]
    simp
  simp only [if_neg h4] at *
  omega
theorem rlistF_end (s : List UInt8) (f i : Nat) (h : s.length ≤ i) : rlistF s f i = [] := by
  cases f with
  | zero => rfl
  | succ f => unfold rlistF; rw [if_neg (by omega)]
theorem rlistF_two (s : List UInt8) (f i : Nat) (h : i < s.length) (hf : i + (decAt s i).2 < s.length) : 2 ≤ (rlistF s (f + 1 + 1) i).length := by
  unfold rlistF; rw [if_pos h]; unfold rlistF; rw [if_pos hf]; simp
/-- the characters of a text's part of n bytes: it is one character just if one stands there that has n bytes -/
theorem rune_hit (s : List UInt8) (i n : Nat) (hn : 1 ≤ n) (hl : i + n ≤ s.length) :
    (((rlist ((s.drop i).take n)).length = 1 ∧ (rlist ((s.drop i).take n)).flatMap encR = (s.drop i).take n) ↔ (vld s i ∧ (decAt s i).2 = n)) ∧
    ((decAt s i).2 = n → rlist ((s.drop i).take n) = [(decAt s i).1]) := by
  have hxl : ((s.drop i).take n).length = n := by simp; omega
  have hD : decAt ((s.drop i).take n) 0 = if (decAt s i).2 ≤ n then decAt s i else (65533, 1) := by
    rw [decAt_dec4 s i, decAt_dec4, hxl, Nat.sub_zero, bt_take s i n 0 (by omega)]
    exact dec4_cut n (s.length - i) _ _ _ _ _ _ _ hn (by omega) (fun h => bt_take s i n (0 + 1) h) (fun h => bt_take s i n (0 + 2) h) (fun h => bt_take s i n (0 + 3) h)
  have h65 : (encR 65533).length = 3 := by rw [encR_3 _ (by decide) (by decide) (by decide)]; rfl
  have hw := decAt_width s i (by omega)
  generalize hx : (s.drop i).take n = x at *
  have hstep : rlist x = (decAt x 0).1 :: rlistF x (n - 1) (0 + (decAt x 0).2) := by
    obtain ⟨k, rfl⟩ : ∃ k, n = k + 1 := ⟨n - 1, by omega⟩
    unfold rlist
    rw [hxl]
    show (if 0 < x.length then (decAt x 0).1 :: rlistF x k (0 + (decAt x 0).2) else []) = _
    rw [if_pos (by omega)]; rfl
  have key : (decAt s i).2 = n → rlist x = [(decAt s i).1] := by
    intro h
    rw [hstep, hD, if_pos (by omega), rlistF_end x _ _ (by omega)]
  refine ⟨?_, key⟩
  by_cases hle : (decAt s i).2 ≤ n
  · by_cases heq : (decAt s i).2 = n
    · rw [key heq]
      by_cases hv : vld s i
      · refine iff_of_true ⟨rfl, ?_⟩ ⟨hv, heq⟩
        simp only [List.flatMap_cons, List.flatMap_nil, List.append_nil]
        rw [enc_dec s i (by omega) hv, heq, hx]
      · refine iff_of_false (fun h => ?_) (fun h => hv h.1)
        have h2 := h.2
        rw [not_vld s i hv] at h2 heq
        simp only [List.flatMap_cons, List.flatMap_nil, List.append_nil] at h2
        rw [h2, hxl] at h65
        simp at heq
        omega
    · refine iff_of_false (fun h => ?_) (fun h => heq h.2)
      have := rlistF_two x (n - 2) 0 (by omega) (by rw [hD, if_pos hle, hxl]; omega)
      have h1 := h.1
      unfold rlist at h1
      rw [hxl] at h1
      rw [show n - 2 + 1 + 1 = n by omega] at this
      omega
  · refine iff_of_false (fun h => ?_) (fun h => hle (by omega))
    rw [if_neg hle] at hD
    by_cases h1n : n = 1
    · have h2 := h.2
      rw [hstep, hD, rlistF_end x _ _ (by simp; omega)] at h2
      simp only [List.flatMap_cons, List.flatMap_nil, List.append_nil] at h2
      rw [h2, hxl] at h65
      omega
    · have := rlistF_two x (n - 2) 0 (by omega) (by rw [hD, hxl]; simp; omega)
      have h1 := h.1
      unfold rlist at h1
      rw [hxl] at h1
      rw [show n - 2 + 1 + 1 = n by omega] at this
      omega
end Go.Proofs.YtcgpajknehhdgaaDoor
