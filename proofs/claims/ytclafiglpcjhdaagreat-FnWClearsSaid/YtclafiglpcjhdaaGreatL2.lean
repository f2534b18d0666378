/- Walks of the checks of labels and of the cutting of a text. -/
import Derived.Test.YtclafiglpcjhdaaGreatL1
import Derived.Test.YtclafiglpcjhdaaGreatL0
namespace Go.Proofs.YtclafiglpcjhdaaGreat
open Go Go.RowKit V L1 L0
set_option linter.unusedSimpArgs false
set_option linter.unusedVariables false
set_option maxRecDepth 10000
namespace L2


/-! ### Words -/
def elab1 (s : List UInt8) : Bool := vlabel s && decide (byteAt s 0 ≠ 45 ∧ byteAt s ((s.length : Int) - 1) ≠ 45)
def evalid (s : List UInt8) (sub : Bool) : Bool := (if sub then zzsp [46] s else [s]).all elab1
theorem elab1_pos (s : List UInt8) (h : vlabel s = true) : 1 ≤ s.length ∧ s.length ≤ 63 := by
  unfold vlabel at h
  simp only [Bool.and_eq_true, decide_eq_true_eq] at h
  exact h.1
theorem all_get {α : Type} {p : α → Bool} (l : List α) (i : Nat) (d : α) (h : i < l.length) : (l.drop i).all p = (p (l.getD i d) && (l.drop (i + 1)).all p) := by
  rw [List.drop_eq_getElem_cons h, List.getD_eq_getElem?_getD, List.getElem?_eq_getElem h]; rfl
/-- a byte that may stand at place i of a label of n bytes -/
def okc (c i n : Int) : Prop := (48 ≤ c ∧ c ≤ 57) ∨ (97 ≤ c ∧ c ≤ 122) ∨ (65 ≤ c ∧ c ≤ 90) ∨ (c = 45 ∧ 0 < i ∧ i < n - 1)
theorem okc_all (s : List UInt8) (h : ∀ j : Nat, j < s.length → okc (byteAt s j) j s.length) : s.all okb = true := by
  rw [List.all_eq_true]
  intro c hc
  obtain ⟨j, hj, rfl⟩ := List.mem_iff_getElem.1 hc
  rw [okb_iff, ← byteAt_get s j hj]
  have := h j hj
  unfold okc at this; unfold okr; omega
theorem elab1_of (s : List UInt8) (h : ∀ j : Nat, j < s.length → okc (byteAt s j) j s.length) : elab1 s = decide (1 ≤ s.length ∧ s.length ≤ 63) := by
  unfold elab1 vlabel
  rw [okc_all s h, Bool.and_true]
  by_cases hl : 1 ≤ s.length ∧ s.length ≤ 63
  · rw [decide_eq_true hl, Bool.true_and]
    have h0 := h 0 (by omega)
    have h1 := h (s.length - 1) (by omega)
    rw [show ((s.length - 1 : Nat) : Int) = (s.length : Int) - 1 from by omega] at h1
    apply decide_eq_true
    unfold okc at h0 h1
    constructor
    · intro e; rw [show ((0 : Nat) : Int) = 0 from rfl] at h0; omega
    · intro e; omega
  · rw [decide_eq_false hl]; rfl
theorem elab1_no (s : List UInt8) (i : Nat) (h : i < s.length) (hn : ¬ okc (byteAt s i) i s.length) : elab1 s = false := by
  cases he : elab1 s with
  | false => rfl
  | true =>
    exfalso
    unfold elab1 vlabel at he
    simp only [Bool.and_eq_true, decide_eq_true_eq, List.all_eq_true] at he
    obtain ⟨⟨hl, ha⟩, h0, h1⟩ := he
    have hc := (okb_iff _).1 (ha _ (List.getElem_mem h))
    rw [← byteAt_get s i h] at hc
    have e0 : byteAt s i = 45 → i ≠ 0 := fun e hz => by subst hz; exact h0 e
    have e1 : byteAt s i = 45 → (i : Int) ≠ (s.length : Int) - 1 := fun e hz => by rw [hz] at e; exact h1 e
    unfold okr at hc; unfold okc at hn
    omega
/-- the parts of a text, at most 'lim' of them if that is above 0, where n are there already -/
def ecutR (sep : List UInt8) (lim : Int) (n : Nat) (s : List UInt8) : List (List UInt8) := if 0 < lim then splitS sep (lim - 1 - n).toNat s else split sep s
theorem ecutR_step (sep : List UInt8) (h : sep ≠ []) (lim : Int) (n : Nat) (s : List UInt8) (i : Nat) (hf : find sep s = some i) (hl : 0 < lim → (n : Int) < lim - 1) : ecutR sep lim n s = s.take i :: ecutR sep lim (n + 1) (s.drop (i + sep.length)) := by
  unfold ecutR
  by_cases hp : 0 < lim
  · rw [if_pos hp, if_pos hp, show (lim - 1 - (n : Int)).toNat = (lim - 1 - ((n + 1 : Nat) : Int)).toNat + 1 from by have := hl hp; omega]
    show (match find sep s with | none => [s] | some i => s.take i :: splitS sep _ (s.drop (i + sep.length))) = _
    rw [hf]
  · rw [if_neg hp, if_neg hp]; exact split_some sep s h i hf
theorem ecutR_none (sep : List UInt8) (lim : Int) (n : Nat) (s : List UInt8) (hf : find sep s = none) : ecutR sep lim n s = [s] := by
  unfold ecutR
  by_cases hp : 0 < lim
  · rw [if_pos hp]
    cases (lim - 1 - (n : Int)).toNat with
    | zero => rfl
    | succ f => unfold splitS; rw [hf]
  · rw [if_neg hp]; exact split_none sep s hf
theorem ecutR_full (sep : List UInt8) (lim : Int) (n : Nat) (s : List UInt8) (hp : 0 < lim) (hn : (n : Int) = lim - 1) : ecutR sep lim n s = [s] := by
  unfold ecutR
  rw [if_pos hp, show (lim - 1 - (n : Int)).toNat = 0 from by omega]; rfl
theorem cut_sub (s : List UInt8) (a i : Nat) (h : a ≤ i) : cut s (a : Int) (i : Int) = (s.drop a).take (i - a) := by
  rw [show (i : Int) = (a : Int) + ((i - a : Nat) : Int) from by omega, cut_nat]
theorem strs_eq {a b : Nat} {x y : List Value} {base e : Nat} {v : Value} {A : Hp} (h : OwS base e 1 v A a x) (h1 : a = b) (h2 : x = y) : OwS base e 1 v A b y := by subst h1; subst h2; exact h
end L2
end Go.Proofs.YtclafiglpcjhdaaGreat
