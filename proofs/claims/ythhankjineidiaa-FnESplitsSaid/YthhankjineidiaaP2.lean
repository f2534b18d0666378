/- Plain words on the splitting of a text into at most so many parts. -/
import Derived.Test.YthhankjineidiaaL2
import Derived.Test.YthhankjineidiaaP1
namespace Go.Proofs.Ythhankjineidiaa
open Go V L1 L2
set_option linter.unusedSimpArgs false
set_option linter.unusedVariables false
theorem split_pos (sep s : List UInt8) : 1 ≤ (split sep s).length := by
  unfold split
  cases s.length with
  | zero => simp [splitS]
  | succ k => unfold splitS; split <;> simp

def atk (m : Nat) (l : List (List UInt8)) (k : Nat) : Nat := ((l.take k).map fun p => p.length + m).sum
theorem atk_0 (m : Nat) (l : List (List UInt8)) : atk m l 0 = 0 := by simp [atk]
theorem atk_cons (m : Nat) (a : List UInt8) (l : List (List UInt8)) (k : Nat) : atk m (a :: l) (k + 1) = a.length + m + atk m l k := by simp [atk]
theorem atk_succ (m : Nat) (l : List (List UInt8)) (k : Nat) (h : k < l.length) : atk m l (k + 1) = atk m l k + ((l.getD k []).length + m) := by
  unfold atk
  rw [List.getD_eq_getElem?_getD, List.getElem?_eq_getElem h, List.take_succ_eq_append_getElem h, List.map_append, List.sum_append]
  simp
/-- the first parts, at most k + 1; the rest of the text is the last one -/
theorem splitS_take (sep : List UInt8) (h : sep ≠ []) : ∀ (k : Nat) (s : List UInt8), splitS sep k s = if (split sep s).length ≤ k + 1 then split sep s else (split sep s).take k ++ [s.drop (atk sep.length (split sep s) k)] := by
  intro k
  induction k with
  | zero =>
    intro s
    show [s] = _
    cases hf : find sep s with
    | none => rw [split_none sep s hf]; rfl
    | some i =>
      rw [split_some sep s h i hf]
      have := split_pos sep (s.drop (i + sep.length))
      rw [if_neg (by rw [List.length_cons]; omega), atk_0]; simp
  | succ k ih =>
    intro s
    show (match find sep s with | none => [s] | some i => s.take i :: splitS sep k (s.drop (i + sep.length))) = _
    cases hf : find sep s with
    | none => rw [split_none sep s hf, if_pos (by simp)]
    | some i =>
      have hi := find_le sep s i hf
      rw [split_some sep s h i hf]
      show s.take i :: splitS sep k (s.drop (i + sep.length)) = _
      rw [ih (s.drop (i + sep.length))]
      by_cases hl : (split sep (s.drop (i + sep.length))).length ≤ k + 1
      · rw [if_pos hl, if_pos (by simp; omega)]
      · rw [if_neg hl, if_neg (by simp; omega), atk_cons, List.take_succ_cons, List.drop_drop, List.length_take, Nat.min_eq_left (by omega)]; rfl
theorem split_atk (sep : List UInt8) (h : sep ≠ []) : ∀ (k : Nat) (s : List UInt8), k < (split sep s).length → atk sep.length (split sep s) k ≤ s.length := by
  intro k
  induction k with
  | zero => intro s _; rw [atk_0]; omega
  | succ k ih =>
    intro s hk
    cases hf : find sep s with
    | none => rw [split_none sep s hf] at hk; simp at hk
    | some i =>
      have hi := find_le sep s i hf
      rw [split_some sep s h i hf] at hk ⊢
      have := ih (s.drop (i + sep.length)) (by simpa using hk)
      rw [atk_cons]
      simp at this ⊢
      omega
/-- the characters from a place on, at most k + 1; the rest is the last one -/
def runesS (s : List UInt8) : Nat → Nat → List (List UInt8)
  | 0, i => if i < s.length then [s.drop i] else []
  | k + 1, i => if i < s.length then (s.drop i).take (decAt s i).2 :: runesS s k (i + (decAt s i).2) else []
theorem runesS_take (s : List UInt8) : ∀ (k i : Nat), runesS s k i = if (runes s i).length ≤ k + 1 then runes s i else (runes s i).take k ++ [s.drop (i + atk 0 (runes s i) k)] := by
  intro k
  induction k with
  | zero =>
    intro i
    show (if i < s.length then [s.drop i] else []) = _
    by_cases hi : i < s.length
    · rw [if_pos hi, runes_step s i hi]
      have hw := decAt_width s i hi
      by_cases hl : i + (decAt s i).2 < s.length
      · rw [runes_step s _ hl, if_neg (by simp), atk_0]; simp
      · rw [runes_end s _ (by omega), if_pos (by simp), List.take_of_length_le (by simp; omega)]
    · rw [if_neg hi, runes_end s i (by omega), if_pos (by simp)]
  | succ k ih =>
    intro i
    show (if i < s.length then (s.drop i).take (decAt s i).2 :: runesS s k (i + (decAt s i).2) else []) = _
    by_cases hi : i < s.length
    · have hw := decAt_width s i hi
      rw [if_pos hi, runes_step s i hi, ih]
      by_cases hl : (runes s (i + (decAt s i).2)).length ≤ k + 1
      · rw [if_pos hl, if_pos (by simp; omega)]
      · rw [if_neg hl, if_neg (by simp; omega), atk_cons, List.take_succ_cons, List.length_take, List.length_drop, Nat.min_eq_left (by omega)]
        show _ = (s.drop i).take (decAt s i).2 :: ((runes s (i + (decAt s i).2)).take k ++ [s.drop (i + ((decAt s i).2 + 0 + atk 0 (runes s (i + (decAt s i).2)) k))])
        rw [show i + (decAt s i).2 + atk 0 (runes s (i + (decAt s i).2)) k = i + ((decAt s i).2 + 0 + atk 0 (runes s (i + (decAt s i).2)) k) by omega]
    · rw [if_neg hi, runes_end s i (by omega), if_pos (by simp)]
theorem runes_atk (s : List UInt8) : ∀ (k i : Nat), i ≤ s.length → i + atk 0 (runes s i) k ≤ s.length := by
  intro k
  induction k with
  | zero => intro i hi; rw [atk_0]; omega
  | succ k ih =>
    intro i hi
    by_cases h : i < s.length
    · have hw := decAt_width s i h
      have := ih (i + (decAt s i).2) (by omega)
      rw [runes_step s i h, atk_cons, List.length_take, List.length_drop, Nat.min_eq_left (by omega)]
      omega
    · rw [runes_end s i (by omega)]; simp [atk]; omega
/-- what is left of the characters, where n are there already -/
def erest (lim : Int) (n : Nat) (s : List UInt8) (i : Nat) : List (List UInt8) := if 0 < lim then runesS s (lim - 1 - n).toNat i else runes s i
theorem erest_end (lim : Int) (n : Nat) (s : List UInt8) (i : Nat) (h : s.length ≤ i) : erest lim n s i = [] := by
  unfold erest
  split
  · cases (lim - 1 - n).toNat <;> (unfold runesS; rw [if_neg (by omega)])
  · exact runes_end s i h
theorem erest_last (lim : Int) (n : Nat) (s : List UInt8) (i : Nat) (h : i < s.length) (h0 : 0 < lim) (hn : (n : Int) = lim - 1) : erest lim n s i = [s.drop i] := by
  unfold erest; rw [if_pos h0, show (lim - 1 - n).toNat = 0 by omega]; unfold runesS; rw [if_pos h]
theorem erest_step (lim : Int) (n : Nat) (s : List UInt8) (i : Nat) (h : i < s.length) (hn : 0 < lim → (n : Int) < lim - 1) : erest lim n s i = (s.drop i).take (decAt s i).2 :: erest lim (n + 1) s (i + (decAt s i).2) := by
  unfold erest
  by_cases h0 : 0 < lim
  · have := hn h0
    rw [if_pos h0, if_pos h0, show (lim - 1 - (n : Int)).toNat = (lim - 1 - ((n + 1 : Nat) : Int)).toNat + 1 by omega]
    show (if i < s.length then _ else _) = _
    rw [if_pos h]
  · rw [if_neg h0, if_neg h0]; exact runes_step s i h
/-- at most lim parts of a text -/
def zzspN (sep : List UInt8) (lim : Int) (s : List UInt8) : List (List UInt8) :=
  if ((zzsp sep s).length : Int) ≤ lim then zzsp sep s else (zzsp sep s).take (lim - 1).toNat ++ [s.drop (atk sep.length (zzsp sep s) (lim - 1).toNat)]
def esplit (s sep : List UInt8) (lim : Int) : List (List UInt8) := if s = [] then [[]] else if 0 < lim then zzspN sep lim s else zzsp sep s
def ewant (s sep : List UInt8) (lim : Int) : List (List UInt8) := if s = [] then [[]] else if sep = [] then erest lim 0 s 0 else ecutR sep lim 0 s
theorem zzsp_atk (sep s : List UInt8) (k : Nat) (h : k < (zzsp sep s).length) : atk sep.length (zzsp sep s) k ≤ s.length := by
  unfold zzsp at *
  by_cases hs : sep = []
  · rw [if_pos hs]; have := runes_atk s k 0 (by omega); subst hs; simpa using this
  · rw [if_neg hs] at h ⊢; exact split_atk sep hs k s h
theorem esplit_want (s sep : List UInt8) (lim : Int) : esplit s sep lim = ewant s sep lim := by
  unfold esplit ewant
  by_cases h : s = []
  · rw [if_pos h, if_pos h]
  rw [if_neg h, if_neg h]
  by_cases hs : sep = []
  · subst hs
    rw [if_pos rfl]
    unfold erest zzspN zzsp
    by_cases h0 : 0 < lim
    · simp only [if_true, if_pos h0]
      rw [runesS_take, show (lim - 1 - ((0 : Nat) : Int)).toNat = (lim - 1).toNat by omega]
      by_cases hl : ((runes s 0).length : Int) ≤ lim
      · rw [if_pos hl, if_pos (by omega)]
      · rw [if_neg hl, if_neg (by omega), Nat.zero_add]; rfl
    · simp only [if_true, if_neg h0]
  · rw [if_neg hs]
    unfold ecutR zzspN zzsp
    by_cases h0 : 0 < lim
    · simp only [if_neg hs, if_pos h0]
      rw [splitS_take sep hs, show (lim - 1 - ((0 : Nat) : Int)).toNat = (lim - 1).toNat by omega]
      by_cases hl : ((split sep s).length : Int) ≤ lim
      · rw [if_pos hl, if_pos (by omega)]
      · rw [if_neg hl, if_neg (by omega)]
    · simp only [if_neg hs, if_neg h0]

end Go.Proofs.Ythhankjineidiaa
