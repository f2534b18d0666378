/- Plain words on lists of bytes: searching, labels. No program. -/
import Derived.Test.YtclafiglpcjhdaaGreatV3
namespace Go.Proofs.YtclafiglpcjhdaaGreat
open Go Go.RowKit V

theorem cut_nat {α : Type} (l : List α) (k m : Nat) : cut l (k : Int) ((k : Int) + (m : Int)) = (l.drop k).take m := by
  unfold cut
  rw [show ((k : Int) + (m : Int)).toNat = k + m from by omega, Int.toNat_natCast, List.drop_take, Nat.add_sub_cancel_left]
theorem cut_len {α : Type} (l : List α) (i j : Int) (h : 0 ≤ i ∧ i ≤ j ∧ j ≤ l.length) : ((cut l i j).length : Int) = j - i := by
  unfold cut
  rw [List.length_drop, List.length_take, Nat.min_eq_left (by omega)]
  omega
theorem byteAt_nat (l : List UInt8) (k : Nat) : byteAt l (k : Int) = ((l.getD k 0).toNat : Int) := by unfold byteAt; rw [Int.toNat_natCast]
theorem byteAt_get (l : List UInt8) (k : Nat) (h : k < l.length) : byteAt l (k : Int) = (l[k].toNat : Int) := by
  rw [byteAt_nat, List.getD_eq_getElem?_getD, List.getElem?_eq_getElem h]; rfl

/-! ### Searching -/
def find (sub : List UInt8) : List UInt8 → Option Nat
  | [] => if sub = [] then some 0 else none
  | c :: s => if (c :: s).take sub.length = sub then some 0 else (find sub s).map (· + 1)
def findI (sub s : List UInt8) : Int := match find sub s with | some i => (i : Int) | none => -1
theorem find_step (sub s : List UInt8) (k : Nat) (h : k < s.length) : find sub (s.drop k) = if (s.drop k).take sub.length = sub then some 0 else (find sub (s.drop (k + 1))).map (· + 1) := by
  rw [List.drop_eq_getElem_cons h]; rfl
theorem find_here (sub s : List UInt8) (h : s.take sub.length = sub) : find sub s = some 0 := by
  cases s with
  | nil => simp at h; subst h; rfl
  | cons c s => unfold find; rw [if_pos h]
theorem find_short (sub : List UInt8) : ∀ (s : List UInt8), s.length < sub.length → find sub s = none := by
  intro s
  induction s with
  | nil => intro h; unfold find; rw [if_neg (by intro e; rw [e] at h; simp at h)]
  | cons c s ih =>
    intro h
    unfold find
    rw [if_neg, ih (by simp at h; omega)]; rfl
    intro e
    have := congrArg List.length e
    simp at this h; omega
theorem find_le (sub : List UInt8) : ∀ (s : List UInt8) (i : Nat), find sub s = some i → i + sub.length ≤ s.length := by
  intro s
  induction s with
  | nil =>
    intro i h
    unfold find at h
    split at h
    · rename_i e; subst e; simp at h; subst h; simp
    · cases h
  | cons c s ih =>
    intro i h
    unfold find at h
    split at h
    · rename_i e
      have := congrArg List.length e
      simp at h this ⊢; omega
    · cases hf : find sub s with
      | none => rw [hf] at h; simp at h
      | some j => rw [hf] at h; have := ih j hf; simp at h ⊢; omega

/-! ### Labels of hosts -/
def okb (c : UInt8) : Bool := (48 ≤ c && c ≤ 57) || (65 ≤ c && c ≤ 90) || (97 ≤ c && c ≤ 122) || c == 45
def vlabel (s : List UInt8) : Bool := decide (1 ≤ s.length ∧ s.length ≤ 63) && s.all okb
/-- the range that Go's text asks of a character -/
def okr (c : Int) : Prop := (48 ≤ c ∧ c ≤ 57) ∨ (65 ≤ c ∧ c ≤ 90) ∨ (97 ≤ c ∧ c ≤ 122) ∨ c = 45
theorem okb_iff (c : UInt8) : okb c = true ↔ okr (c.toNat : Int) := by
  unfold okb okr
  simp only [Bool.or_eq_true, Bool.and_eq_true, decide_eq_true_eq, beq_iff_eq, UInt8.le_iff_toNat_le, ← UInt8.toNat_inj]
  simp
  omega

theorem decAt_ascii (l : List UInt8) (i : Nat) (h : i < l.length) (hc : l[i].toNat < 128) : (Utf8.decode ⟨⟨l⟩⟩ i) = (l[i].toNat, 1) := by
  unfold Utf8.decode
  have e : (⟨⟨l⟩⟩ : ByteArray).get! (i + 0) = l[i] := by
    show (⟨l⟩ : Array UInt8)[i]! = _
    rw [getElem!_pos _ _ (by simpa using h)]; rfl
  simp only [e]
  rw [if_pos (by omega)]
theorem decAt_wide (l : List UInt8) (i : Nat) (h : i < l.length) (hc : ¬ l[i].toNat < 128) : 128 ≤ (Utf8.decode ⟨⟨l⟩⟩ i).1 := by
  unfold Utf8.decode
  have e : (⟨⟨l⟩⟩ : ByteArray).get! (i + 0) = l[i] := by
    show (⟨l⟩ : Array UInt8)[i]! = _
    rw [getElem!_pos _ _ (by simpa using h)]; rfl
  simp only [e]
  rw [if_neg (by omega)]
  unfold Utf8.runeError
  repeat' split
  all_goals simp_all
  all_goals omega

theorem lab_yes (s : List UInt8) (i : Nat) (h : i < s.length) (hr : okr ((decAt s i).1 : Int)) : okb s[i] = true ∧ (decAt s i).2 = 1 := by
  by_cases hc : s[i].toNat < 128
  · have e : decAt s i = (s[i].toNat, 1) := decAt_ascii s i h hc
    rw [e] at hr ⊢
    exact ⟨(okb_iff _).2 hr, rfl⟩
  · have e : 128 ≤ (decAt s i).1 := decAt_wide s i h hc
    exfalso
    unfold okr at hr
    omega
theorem lab_no (s : List UInt8) (i : Nat) (h : i < s.length) (hr : ¬ okr ((decAt s i).1 : Int)) : okb s[i] = false := by
  by_cases hc : s[i].toNat < 128
  · have e : decAt s i = (s[i].toNat, 1) := decAt_ascii s i h hc
    rw [e] at hr
    cases hb : okb s[i] with
    | false => rfl
    | true => exact absurd ((okb_iff _).1 hb) hr
  · cases hb : okb s[i] with
    | false => rfl
    | true => have := (okb_iff _).1 hb; unfold okr at this; omega
theorem all_step {p : UInt8 → Bool} (s : List UInt8) (i : Nat) (h : i < s.length) : (s.drop i).all p = (p s[i] && (s.drop (i + 1)).all p) := by
  rw [List.drop_eq_getElem_cons h]; rfl
theorem vlabel_size (s : List UInt8) (h : (s.length : Int) = 0 ∨ 63 < (s.length : Int)) : vlabel s = false := by
  unfold vlabel
  rw [decide_eq_false (by omega)]; rfl
theorem vlabel_no (s : List UInt8) (i : Nat) (h : i < s.length) (hf : s.all okb = (s.drop i).all okb) (hr : ¬ okr ((decAt s i).1 : Int)) : vlabel s = false := by
  unfold vlabel
  rw [hf, all_step s i h, lab_no s i h hr]; simp
theorem vlabel_yes (s : List UInt8) (i : Nat) (h1 : ¬ (s.length : Int) = 0) (h2 : (s.length : Int) ≤ 63) (hi : s.length ≤ i) (hf : s.all okb = (s.drop i).all okb) : vlabel s = true := by
  unfold vlabel
  rw [hf, List.drop_eq_nil_of_le hi, decide_eq_true (by omega)]; rfl

/-! ### Splitting -/
def splitS (sep : List UInt8) : Nat → List UInt8 → List (List UInt8)
  | 0, s => [s]
  | f + 1, s => match find sep s with
    | none => [s]
    | some i => s.take i :: splitS sep f (s.drop (i + sep.length))
def split (sep s : List UInt8) : List (List UInt8) := splitS sep s.length s
theorem splitS_fuel (sep : List UInt8) (h : sep ≠ []) : ∀ (f g : Nat) (s : List UInt8), s.length ≤ f → s.length ≤ g → splitS sep f s = splitS sep g s := by
  have hl : 0 < sep.length := List.length_pos_iff.2 h
  intro f
  induction f with
  | zero =>
    intro g s hs _
    have : s = [] := List.eq_nil_of_length_eq_zero (by omega)
    subst this
    cases g with
    | zero => rfl
    | succ g => unfold splitS; rw [find_short sep [] (by simpa using hl)]
  | succ f ih =>
    intro g s hs hg
    cases g with
    | zero =>
      have : s = [] := List.eq_nil_of_length_eq_zero (by omega)
      subst this
      unfold splitS; rw [find_short sep [] (by simpa using hl)]
    | succ g =>
      unfold splitS
      cases hf : find sep s with
      | none => rfl
      | some i =>
        have := find_le sep s i hf
        simp only
        rw [ih g _ (by simp; omega) (by simp; omega)]
theorem split_none (sep s : List UInt8) (hf : find sep s = none) : split sep s = [s] := by
  unfold split
  cases hl : s.length with
  | zero => rfl
  | succ m => unfold splitS; rw [hf]
theorem split_some (sep s : List UInt8) (h : sep ≠ []) (i : Nat) (hf : find sep s = some i) : split sep s = s.take i :: split sep (s.drop (i + sep.length)) := by
  have hl : 0 < sep.length := List.length_pos_iff.2 h
  have := find_le sep s i hf
  unfold split
  rw [splitS_fuel sep h s.length (s.length - 1 + 1) s (by omega) (by omega)]
  show (match find sep s with | none => [s] | some i => _) = _
  rw [hf]
  simp only
  rw [splitS_fuel sep h (s.length - 1) (s.drop (i + sep.length)).length _ (by simp; omega) (Nat.le_refl _)]
theorem findI_neg (sub s : List UInt8) (h : findI sub s < 0) : find sub s = none := by
  unfold findI at h
  cases hf : find sub s with
  | none => rfl
  | some i => rw [hf] at h; simp at h; omega
theorem findI_pos (sub s : List UInt8) (h : 0 ≤ findI sub s) : find sub s = some (findI sub s).toNat ∧ (findI sub s).toNat + sub.length ≤ s.length := by
  unfold findI at h ⊢
  cases hf : find sub s with
  | none => rw [hf] at h; simp at h
  | some i => simp only; exact ⟨by rw [Int.toNat_natCast], by rw [Int.toNat_natCast]; exact find_le sub s i hf⟩
theorem split_length (sep : List UInt8) (h : sep ≠ []) : ∀ (m : Nat) (s : List UInt8), s.length ≤ m → (split sep s).length ≤ s.length + 1 := by
  intro m
  induction m with
  | zero =>
    intro s hs
    have : s = [] := List.eq_nil_of_length_eq_zero (by omega)
    subst this; exact Nat.le_refl _
  | succ m ih =>
    intro s hs
    have hl : 0 < sep.length := List.length_pos_iff.2 h
    cases hf : find sep s with
    | none => rw [split_none sep s hf]; simp
    | some i =>
      have := find_le sep s i hf
      rw [split_some sep s h i hf]
      have := ih (s.drop (i + sep.length)) (by simp; omega)
      simp at this ⊢; omega

/-! ### Characters -/
theorem decAt_width (l : List UInt8) (i : Nat) (h : i < l.length) : 1 ≤ (decAt l i).2 ∧ i + (decAt l i).2 ≤ l.length := by
  have hs : (⟨⟨l⟩⟩ : ByteArray).size = l.length := rfl
  unfold decAt Utf8.decode
  simp only [hs]
  repeat' split
  all_goals simp_all
  all_goals omega
/-- the characters from i on -/
def runesF (s : List UInt8) : Nat → Nat → List (List UInt8)
  | 0, _ => []
  | f + 1, i => if i < s.length then (s.drop i).take (decAt s i).2 :: runesF s f (i + (decAt s i).2) else []
def runes (s : List UInt8) (i : Nat) : List (List UInt8) := runesF s (s.length - i) i
theorem runesF_fuel (s : List UInt8) : ∀ (f g i : Nat), s.length ≤ f + i → s.length ≤ g + i → runesF s f i = runesF s g i := by
  intro f
  induction f with
  | zero =>
    intro g i hf _
    cases g with
    | zero => rfl
    | succ g => unfold runesF; rw [if_neg (by omega)]
  | succ f ih =>
    intro g i hf hg
    cases g with
    | zero => unfold runesF; rw [if_neg (by omega)]
    | succ g =>
      unfold runesF
      by_cases h : i < s.length
      · have := decAt_width s i h
        rw [if_pos h, if_pos h, ih g _ (by omega) (by omega)]
      · rw [if_neg h, if_neg h]
theorem runes_end (s : List UInt8) (i : Nat) (h : s.length ≤ i) : runes s i = [] := by
  unfold runes; rw [show s.length - i = 0 from by omega]; rfl
theorem runes_step (s : List UInt8) (i : Nat) (h : i < s.length) : runes s i = (s.drop i).take (decAt s i).2 :: runes s (i + (decAt s i).2) := by
  have := decAt_width s i h
  unfold runes
  rw [runesF_fuel s (s.length - i) (s.length - i - 1 + 1) i (by omega) (by omega)]
  show (if i < s.length then _ else _) = _
  rw [if_pos h, runesF_fuel s (s.length - i - 1) (s.length - (i + (decAt s i).2)) _ (by omega) (by omega)]
theorem runes_length (s : List UInt8) : ∀ (m i : Nat), s.length - i ≤ m → (runes s i).length ≤ s.length - i := by
  intro m
  induction m with
  | zero => intro i h; rw [runes_end s i (by omega)]; simp
  | succ m ih =>
    intro i h
    by_cases hi : i < s.length
    · have := decAt_width s i hi
      rw [runes_step s i hi]
      have := ih (i + (decAt s i).2) (by omega)
      simp; omega
    · rw [runes_end s i (by omega)]; simp
end Go.Proofs.YtclafiglpcjhdaaGreat
