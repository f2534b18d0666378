/- Plain words on lists in headers, with quotes: the values of a text. -/
import Derived.Test.YtcgpajknehhdgaaDoorKP
namespace Go.Proofs.YtcgpajknehhdgaaDoor
open Go V H1 H2 KP
set_option linter.unusedSimpArgs false
set_option linter.unusedVariables false
namespace KQ
def i44 : List UInt8 → Nat
  | [] => 0
  | c :: r => if c = 44 then 0 else i44 r + 1
theorem i44_le : ∀ l : List UInt8, i44 l ≤ l.length
  | [] => Nat.le_refl _
  | c :: r => by
    have := i44_le r
    unfold i44; split <;> simp <;> omega
theorem i44_step (l : List UInt8) (i : Nat) (h : i < l.length) : i44 (l.drop i) = if byteAt l i = 44 then 0 else i44 (l.drop (i + 1)) + 1 := by
  rw [List.drop_eq_getElem_cons h, byteAt_get l i h]
  show (if _ then _ else _) = _
  by_cases hc : l[i] = 44
  · rw [if_pos hc, if_pos (by rw [hc]; rfl)]
  · rw [if_neg hc, if_neg (by intro e; apply hc; apply UInt8.toNat_inj.1; have : (44 : UInt8).toNat = 44 := rfl; omega)]
abbrev HR := Option (List (List UInt8)) × Bool
def pre (acc : List (List UInt8)) (R : HR) : HR := (R.1.map (acc ++ ·), R.2)
theorem pre_pre (a b : List (List UInt8)) (R : HR) : pre a (pre b R) = pre (a ++ b) R := by
  obtain ⟨r, s⟩ := R
  cases r <;> simp [pre]
theorem pre_nil (R : HR) : pre [] R = R := by obtain ⟨r, s⟩ := R; cases r <;> simp [pre]
/-- the values of a text, that there are none, and whether anything is said -/
def hpF : Nat → List UInt8 → HR
  | 0, _ => (none, true)
  | f + 1, s => match trimL s with
    | [] => (some [[]], true)
    | c :: t => if c = 34 then
        (match (hq t).2.1 with
         | none => (none, !(hq t).2.2)
         | some r => if (hq t).1 = [] ∨ (hq t).2.2 = true then (none, !(hq t).2.2) else
            (match trimL r with
             | [] => (some [(hq t).1], true)
             | d :: y => if d = 44 then pre [(hq t).1] (hpF f y) else (none, true)))
      else if i44 (c :: t) = (c :: t).length then (some [trim (c :: t)], true) else pre [trim ((c :: t).take (i44 (c :: t)))] (hpF f ((c :: t).drop (i44 (c :: t) + 1)))
section
variable {f : Nat} {s t r y : List UInt8} {c d : UInt8}
theorem hp_e (h : trimL s = []) : hpF (f + 1) s = (some [[]], true) := by rw [hpF, h]
theorem hp_q0 (h : trimL s = 34 :: t) (h1 : (hq t).2.1 = none) : hpF (f + 1) s = (none, !(hq t).2.2) := by
  rw [hpF, h]; simp only [if_true, h1]
theorem hp_q1 (h : trimL s = 34 :: t) (h1 : (hq t).2.1 = some r) (h2 : (hq t).1 = [] ∨ (hq t).2.2 = true) : hpF (f + 1) s = (none, !(hq t).2.2) := by
  rw [hpF, h]; simp only [if_true, h1]; rw [if_pos h2]
theorem hp_q2 (h : trimL s = 34 :: t) (h1 : (hq t).2.1 = some r) (h2 : ¬ (hq t).1 = []) (h3 : (hq t).2.2 = false) (h4 : trimL r = []) : hpF (f + 1) s = (some [(hq t).1], true) := by
  rw [hpF, h]; simp only [if_true, h1]; rw [if_neg (by simp [h2, h3]), h4]
theorem hp_q3 (h : trimL s = 34 :: t) (h1 : (hq t).2.1 = some r) (h2 : ¬ (hq t).1 = []) (h3 : (hq t).2.2 = false) (h4 : trimL r = 44 :: y) : hpF (f + 1) s = pre [(hq t).1] (hpF f y) := by
  rw [hpF, h]; simp only [if_true, h1]; rw [if_neg (by simp [h2, h3]), h4]; simp
theorem hp_q4 (h : trimL s = 34 :: t) (h1 : (hq t).2.1 = some r) (h2 : ¬ (hq t).1 = []) (h3 : (hq t).2.2 = false) (h4 : trimL r = d :: y) (h5 : d ≠ 44) : hpF (f + 1) s = (none, true) := by
  rw [hpF, h]; simp only [if_true, h1]; rw [if_neg (by simp [h2, h3]), h4]; simp [h5]
theorem hp_u0 (h : trimL s = c :: t) (h1 : c ≠ 34) (h2 : i44 (c :: t) = (c :: t).length) : hpF (f + 1) s = (some [trim (c :: t)], true) := by
  rw [hpF, h]; simp only [h1, if_false]; rw [if_pos h2]
theorem hp_u1 (h : trimL s = c :: t) (h1 : c ≠ 34) (h2 : ¬ i44 (c :: t) = (c :: t).length) : hpF (f + 1) s = pre [trim ((c :: t).take (i44 (c :: t)))] (hpF f ((c :: t).drop (i44 (c :: t) + 1))) := by
  rw [hpF, h]; simp only [h1, if_false]; rw [if_neg h2]
theorem hp_blank (h : trimL s = trimL t) : hpF (f + 1) s = hpF (f + 1) t := by rw [hpF, hpF, h]
end
/-- no white space at the right end -/
def Rt (s : List UInt8) : Prop := s = [] ∨ blk (byteAt s ((s.length : Int) - 1)) = false
theorem Rt.trimR {s : List UInt8} (h : Rt s) : trimR s = s := trimR_stop s h
theorem Rt.drop {s : List UInt8} (h : Rt s) (i : Nat) : Rt (s.drop i) := by
  rcases Nat.lt_or_ge i s.length with hi | hi
  · rcases h with rfl | h
    · simp at hi
    · refine .inr ?_
      rw [List.length_drop, show (((s.length - i : Nat) : Int) - 1) = ((s.length - i - 1 : Nat) : Int) by omega]
      rw [show ((s.length : Int) - 1) = ((s.length - 1 : Nat) : Int) by omega, byteAt_get s _ (by omega)] at h
      rw [byteAt_get _ _ (by rw [List.length_drop]; omega), List.getElem_drop]
      simp only [show i + (s.length - i - 1) = s.length - 1 by omega]
      exact h
  · exact .inl (List.drop_eq_nil_of_le hi)
theorem trimL_suffix (s : List UInt8) : ∃ k, trimL s = s.drop k := by
  unfold trimL
  refine ⟨(s.takeWhile blkB).length, ?_⟩
  have h : s.takeWhile blkB ++ s.dropWhile blkB = s := List.takeWhile_append_dropWhile
  conv => rhs; rw [← h]
  rw [List.drop_left' (by simp)]
theorem rt_trimL {s : List UInt8} (h : Rt s) : Rt (trimL s) := by obtain ⟨k, e⟩ := trimL_suffix s; rw [e]; exact h.drop k
theorem rt_trim {s : List UInt8} (h : Rt s) : trim s = trimL s := (rt_trimL h).trimR
theorem rt_trimR : ∀ (n : Nat) (x : List UInt8), x.length ≤ n → Rt (trimR x)
  | _, [], _ => .inl rfl
  | 0, c :: x, h => by simp at h
  | n + 1, c :: x, h => by
    have e : c :: x = (c :: x).dropLast ++ [(c :: x).getLast (by simp)] := (List.dropLast_concat_getLast (by simp)).symm
    rw [e, trimR_snoc]
    split
    · exact rt_trimR n _ (by rw [List.length_dropLast]; simp at h ⊢; omega)
    · rename_i hb
      refine .inr ?_
      have hl : ((((c :: x).dropLast ++ [(c :: x).getLast (by simp)]).length : Int) - 1) = (((c :: x).dropLast.length : Nat) : Int) := by simp
      rw [hl, byteAt_get _ _ (by simp), List.getElem_append_right (by simp)]
      simpa [blkB] using hb
theorem rt_of_trim (v : List UInt8) : Rt (trim v) := rt_trimR _ _ (Nat.le_refl _)
theorem trimL_len (s : List UInt8) : (trimL s).length ≤ s.length := by obtain ⟨k, e⟩ := trimL_suffix s; rw [e, List.length_drop]; omega
theorem asc_trimL {s : List UInt8} (h : Asc s) : Asc (trimL s) := by obtain ⟨k, e⟩ := trimL_suffix s; rw [e]; exact asc_drop h k
theorem trimR_mem {s : List UInt8} {c : UInt8} (h : c ∈ trimR s) : c ∈ s := by
  unfold trimR at h
  rw [List.mem_reverse] at h
  exact List.mem_reverse.1 ((List.dropWhile_sublist _).subset h)
theorem trimL_mem {s : List UInt8} {c : UInt8} (h : c ∈ trimL s) : c ∈ s := by
  obtain ⟨k, e⟩ := trimL_suffix s; rw [e] at h; exact List.mem_of_mem_drop h
theorem asc_trim {s : List UInt8} (h : Asc s) : Asc (trim s) := asc_of fun c hc => asc_mem h c (trimL_mem (trimR_mem hc))
theorem trim_len (s : List UInt8) : (trim s).length ≤ s.length := by
  have h1 := trimL_len s
  have h2 : (trimR (trimL s)).length ≤ (trimL s).length := by
    unfold trimR; rw [List.length_reverse]
    have := (List.dropWhile_sublist (l := (trimL s).reverse) blkB).length_le
    rw [List.length_reverse] at this; exact this
  unfold trim; omega
/-- the first letter that is no white space -/
theorem trimL_cons {s : List UInt8} (h : s ≠ []) (hb : blk (byteAt s 0) = false) : trimL s = s := trimL_stop s (.inr hb)
/-- places -/
theorem trimL_all (s : List UInt8) (k : Nat) (hk : k ≤ s.length) (h : ∀ j, j < k → blk (byteAt s (j : Int)) = true) : trimL s = trimL (s.drop k) := by
  induction k with
  | zero => rfl
  | succ k ih => rw [ih (by omega) (fun j hj => h j (by omega)), ← trimL_drop s k (by omega) (h k (by omega))]
end KQ
end Go.Proofs.YtcgpajknehhdgaaDoor
