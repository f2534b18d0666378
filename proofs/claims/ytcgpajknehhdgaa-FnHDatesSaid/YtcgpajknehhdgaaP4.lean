/- Plain words on commas: lists cut at each second one. -/
import Derived.Test.YtcgpajknehhdgaaH2
namespace Go.Proofs.Ytcgpajknehhdgaa
open Go V H1 H2
set_option linter.unusedSimpArgs false
set_option linter.unusedVariables false
namespace H3
theorem cm_cons (c : UInt8) (s : List UInt8) : cm (c :: s) = (if c = 44 then 1 else 0) + cm s := by
  unfold cm
  by_cases hc : c = 44
  · rw [List.filter_cons_of_pos (by simpa using hc), if_pos hc, List.length_cons]; omega
  · rw [List.filter_cons_of_neg (by simpa using hc), if_neg hc]; omega
theorem cm_append (a b : List UInt8) : cm (a ++ b) = cm a + cm b := by unfold cm; rw [List.filter_append, List.length_append]
theorem find_comma : ∀ (a r : List UInt8), cm a = 0 → find [44] (a ++ 44 :: r) = some a.length
  | [], r, _ => by
    show find [44] (44 :: r) = _
    unfold find; rw [if_pos (by rfl)]; rfl
  | c :: a, r, h => by
    rw [cm_cons] at h
    have hc : c ≠ 44 := fun e => by rw [if_pos e] at h; omega
    rw [if_neg hc] at h
    show find [44] (c :: (a ++ 44 :: r)) = _
    unfold find
    rw [if_neg (by intro e; simp at e; exact hc e), find_comma a r (by omega)]; rfl
theorem find_nocomma : ∀ (a : List UInt8), cm a = 0 → find [44] a = none
  | [], _ => by rfl
  | c :: a, h => by
    rw [cm_cons] at h
    have hc : c ≠ 44 := fun e => by rw [if_pos e] at h; omega
    rw [if_neg hc] at h
    unfold find
    rw [if_neg (by intro e; simp at e; exact hc e), find_nocomma a (by omega)]; rfl
theorem split_comma (a r : List UInt8) (h : cm a = 0) : split [44] (a ++ 44 :: r) = a :: split [44] r := by
  rw [split_some [44] _ (by simp) _ (find_comma a r h)]
  congr 1
  · simp
  · simp
theorem split_nocomma (a : List UInt8) (h : cm a = 0) : split [44] a = [a] := split_none _ _ (find_nocomma a h)
theorem cut_comma : ∀ (s : List UInt8), 0 < cm s → ∃ a r, s = a ++ 44 :: r ∧ cm a = 0 ∧ cm s = cm r + 1
  | [], h => by simp [cm] at h
  | c :: s, h => by
    by_cases hc : c = 44
    · exact ⟨[], s, by rw [hc]; rfl, rfl, by rw [cm_cons, if_pos hc]; omega⟩
    · have h' := h
      rw [cm_cons, if_neg hc] at h'
      obtain ⟨a, r, e, ha, hr⟩ := cut_comma s (by omega)
      exact ⟨c :: a, r, by rw [e]; rfl, by rw [cm_cons, if_neg hc, ha], by rw [cm_cons, if_neg hc, hr]; omega⟩
theorem split_cm : ∀ (n : Nat) (s : List UInt8), cm s = n → (split [44] s).length = n + 1
  | 0, s, h => by rw [split_nocomma s h]; rfl
  | n + 1, s, h => by
    obtain ⟨a, r, e, ha, hr⟩ := cut_comma s (by omega)
    rw [e, split_comma a r ha, List.length_cons, split_cm n r (by omega)]
/-- each two parts, joined again and trimmed -/
def pairs : List (List UInt8) → List (List UInt8)
  | a :: b :: r => trim (a ++ [44] ++ b) :: pairs r
  | _ => []
def dates (s : List UInt8) : Option (List (List UInt8)) := if cm s ≤ 1 then some [s] else if cm s % 2 = 0 then none else some (pairs (split [44] s))
theorem pairs_one (x r : List UInt8) (h : cm x = 1) : pairs (split [44] (x ++ 44 :: r)) = trim x :: pairs (split [44] r) := by
  obtain ⟨a, b, e, ha, hb⟩ := cut_comma x (by omega)
  rw [e, List.append_assoc, List.cons_append, split_comma a _ ha, split_comma b r (by omega)]
  simp [pairs]
theorem pairs_last (x : List UInt8) (h : cm x = 1) : pairs (split [44] x) = [trim x] := by
  obtain ⟨a, b, e, ha, hb⟩ := cut_comma x (by omega)
  rw [e, split_comma a _ ha, split_nocomma b (by omega)]
  simp [pairs]
theorem pairs_len : ∀ (l : List (List UInt8)), (pairs l).length ≤ l.length
  | [] => by simp [pairs]
  | [_] => by simp [pairs]
  | _ :: _ :: r => by have := pairs_len r; simp [pairs]; omega
theorem dates_len (s : List UInt8) : ((dates s).getD []).length ≤ s.length + 1 := by
  unfold dates
  split
  · simp
  · split
    · simp
    · have := pairs_len (split [44] s)
      have := split_length [44] (by simp) s.length s (Nat.le_refl _)
      simp; omega
theorem cm_part (s : List UInt8) (j i : Nat) (hj : j ≤ i) (h : i < s.length) : cm ((s.take (i + 1)).drop j) = cm ((s.take i).drop j) + (if s[i] = 44 then 1 else 0) := by
  rw [part_snoc s j i hj h, cm_append, cm_cons]; simp [cm]
theorem asc_sub {s : List UInt8} (ha : Asc s) (j i : Nat) : Asc ((s.take i).drop j) := by
  intro k hk
  have hk' : k < i - j ∧ j + k < s.length := by simp at hk; omega
  have := ha (j + k) hk'.2
  rw [byteAt_get _ _ hk'.2] at this
  rw [byteAt_get _ _ hk]
  simpa using this
/-- all parts' dates -/
def allDates (ls : List (List UInt8)) : List (List UInt8) := ls.flatMap fun s => (dates s).getD []
def allRight (ls : List (List UInt8)) : Bool := ls.all fun s => (dates s).isSome
theorem dates_step (ls : List (List UInt8)) (i : Nat) (h : i < ls.length) : allDates (ls.drop i) = (dates (ls.getD i [])).getD [] ++ allDates (ls.drop (i + 1)) ∧ allRight (ls.drop i) = ((dates (ls.getD i [])).isSome && allRight (ls.drop (i + 1))) := by
  rw [List.drop_eq_getElem_cons h, List.getD_eq_getElem?_getD, List.getElem?_eq_getElem h]
  exact ⟨rfl, rfl⟩
theorem allDates_len : ∀ (ls : List (List UInt8)), (∀ s ∈ ls, s.length ≤ 500) → (allDates ls).length ≤ ls.length * 501
  | [], _ => by simp [allDates]
  | s :: ls, h => by
    have h1 := dates_len s
    have h2 := h s (by simp)
    have h3 := allDates_len ls (fun x hx => h x (by simp [hx]))
    show ((dates s).getD [] ++ allDates ls).length ≤ _
    rw [List.length_append, List.length_cons]; omega
theorem cm_take (s : List UInt8) (j k : Nat) (h : j ≤ k) : cm (s.take k) = cm (s.take j) + cm ((s.take k).drop j) := by
  rw [← cm_append]
  congr 1
  have e : (s.take k).take j = s.take j := by rw [List.take_take, Nat.min_eq_left h]
  rw [← e, List.take_append_drop]
theorem cm_rest (s : List UInt8) (j : Nat) : cm s = cm (s.take j) + cm (s.drop j) := by rw [← cm_append, List.take_append_drop]
theorem drop_comma (s : List UInt8) (j i : Nat) (hj : j ≤ i) (h : i < s.length) (hc : s[i] = 44) : s.drop j = (s.take i).drop j ++ 44 :: s.drop (i + 1) := by
  have e : s = s.take i ++ s.drop i := (List.take_append_drop i s).symm
  conv => lhs; rw [e]
  rw [List.drop_append_of_le_length (by simp; omega), List.drop_eq_getElem_cons h, hc]
theorem cut_part (s : List UInt8) (j i : Nat) : cut s (j : Int) (i : Int) = (s.take i).drop j := by unfold cut; rw [Int.toNat_natCast, Int.toNat_natCast]
theorem pairs_drop (l : List (List UInt8)) (i : Nat) (h : i + 1 < l.length) : pairs (l.drop i) = trim (l.getD i [] ++ [44] ++ l.getD (i + 1) []) :: pairs (l.drop (i + 2)) := by
  rw [List.drop_eq_getElem_cons (by omega), List.drop_eq_getElem_cons h, List.getD_eq_getElem?_getD, List.getD_eq_getElem?_getD, List.getElem?_eq_getElem (by omega), List.getElem?_eq_getElem h]
  rfl
theorem split_el (sep : List UInt8) (h : sep ≠ []) : ∀ (m : Nat) (s : List UInt8), s.length ≤ m → ∀ x ∈ split sep s, x.length ≤ s.length := by
  intro m
  induction m with
  | zero =>
    intro s hs x hx
    have : s = [] := List.eq_nil_of_length_eq_zero (by omega)
    subst this; simp [split, splitS] at hx; subst hx; exact Nat.le_refl _
  | succ m ih =>
    intro s hs x hx
    have hl : 0 < sep.length := List.length_pos_iff.2 h
    cases hf : find sep s with
    | none => rw [split_none sep s hf] at hx; simp at hx; subst hx; exact Nat.le_refl _
    | some i =>
      have := find_le sep s i hf
      rw [split_some sep s h i hf] at hx
      rcases List.mem_cons.1 hx with e | e
      · subst e; rw [List.length_take]; omega
      · have := ih (s.drop (i + sep.length)) (by simp; omega) x e
        simp at this; omega
theorem split_elD (s : List UInt8) (k : Nat) : ((split [44] s).getD k []).length ≤ s.length := by
  rw [List.getD_eq_getElem?_getD]
  cases hh : (split [44] s)[k]? with
  | none => simp
  | some x => exact split_el [44] (by simp) s.length s (Nat.le_refl _) x (List.mem_of_getElem? hh)
/-- what a reading of dates gives: a list, or an error -/
def DRes (o : Option (List (List UInt8))) (v : Value) (N : Hp) : Prop :=
  ∃ u e, v = .tuple #[u, e] ∧ (o.isSome = true → e = .nilIface ∧ OwS 0 9 1 u N (o.getD []).length (strsV (o.getD []))) ∧ (o.isSome = false → ∃ k x, e = .iface k x)
/-- the same, without the error -/
def BRes (o : Option (List (List UInt8))) (v : Value) (N : Hp) : Prop :=
  ∃ u, v = .tuple #[u, .bool o.isSome] ∧ OwS 0 9 1 u N (o.getD []).length (strsV (o.getD []))
def gathered (ls : List (List UInt8)) : Option (List (List UInt8)) := if allRight ls then some (allDates ls) else none
end H3
end Go.Proofs.Ytcgpajknehhdgaa
