/- Metadata and the values of a stack: plain laws. -/
import Derived.Test.YtclafiglpcjhdaaGreatVR
import Derived.Test.YtclafiglpcjhdaaGreatVM
import Derived.Test.YtclafiglpcjhdaaGreatVB
namespace Go.Proofs.YtclafiglpcjhdaaGreat
open Go Go.RowKit V
set_option linter.unusedSimpArgs false
set_option linter.unusedVariables false
namespace GA
structure WP where
  k : List UInt8
  v : List UInt8
def WP0 : WP := ⟨[], []⟩
def pof (p : WP) : List Value := [S p.k, S p.v]
/-- the last value that a key was given -/
def lastOf (l : List WP) (k : List UInt8) : Option (List UInt8) := (l.reverse.find? fun p => decide (p.k = k)).map WP.v
theorem lastOf_snoc (l : List WP) (p : WP) (k : List UInt8) : lastOf (l ++ [p]) k = if p.k = k then some p.v else lastOf l k := by
  unfold lastOf
  rw [List.reverse_append, List.reverse_singleton, List.singleton_append, List.find?_cons]
  by_cases h : p.k = k
  · rw [if_pos h, decide_eq_true h]; rfl
  · rw [if_neg h, decide_eq_false h]
theorem lastOf_cons (l : List WP) (p : WP) (k : List UInt8) : lastOf (p :: l) k = match lastOf l k with | some v => some v | none => if p.k = k then some p.v else none := by
  unfold lastOf
  rw [List.reverse_cons, List.find?_append]
  cases h : l.reverse.find? fun p => decide (p.k = k) with
  | some q => rfl
  | none =>
    simp only [Option.none_or, Option.map_none]
    by_cases hk : p.k = k
    · simp [hk]
    · simp [hk]
theorem lastOf_none {l : List WP} {k : List UInt8} (h : ∀ p ∈ l, p.k ≠ k) : lastOf l k = none := by
  unfold lastOf
  rw [List.find?_eq_none.2 (fun p hp => by simpa using h p (List.mem_reverse.1 hp))]; rfl
theorem lastOf_app (a b : List WP) (k : List UInt8) : lastOf (a ++ b) k = match lastOf b k with | some v => some v | none => lastOf a k := by
  unfold lastOf
  rw [List.reverse_append, List.find?_append]
  cases b.reverse.find? fun p => decide (p.k = k) with
  | some q => rfl
  | none => simp
section
variable {α : Type} [DecidableEq α]
theorem mget_mset (x : α) (v : Value) (k : α) : ∀ (ms : List (α × Value × Nat)) (u : Value), mget x ms = some u → mget k (mset x v ms) = if k = x then some v else mget k ms
  | [], u, h => by cases h
  | e :: r, u, h => by
    unfold mget at h
    unfold mset
    by_cases hx : x = e.1
    · subst hx
      rw [if_pos rfl]
      show (if k = e.1 then some v else mget k r) = if k = e.1 then some v else (if k = e.1 then _ else mget k r)
      by_cases hk : k = e.1
      · rw [if_pos hk, if_pos hk]
      · rw [if_neg hk, if_neg hk, if_neg hk]
    · rw [if_neg hx]
      rw [if_neg hx] at h
      unfold mget
      by_cases hk : k = e.1
      · rw [if_pos hk, if_pos hk, if_neg (by intro h2; exact hx (h2.symm.trans hk))]
      · rw [if_neg hk, if_neg hk]; exact mget_mset x v k r u h
theorem mget_snoc (x : α) (v : Value) (c : Nat) (k : α) : ∀ (ms : List (α × Value × Nat)), mget x ms = none → mget k (ms ++ [(x, v, c)]) = if k = x then some v else mget k ms
  | [], _ => rfl
  | e :: r, h => by
    unfold mget at h
    by_cases hx : x = e.1
    · rw [if_pos hx] at h; cases h
    · rw [if_neg hx] at h
      rw [List.cons_append]
      unfold mget
      by_cases hk : k = e.1
      · rw [if_pos hk, if_pos hk, if_neg (by intro h2; exact hx (h2.symm.trans hk))]
      · rw [if_neg hk, if_neg hk]; exact mget_snoc x v c k r h
theorem mget_mput (x : α) (v : Value) (c : Nat) (k : α) (ms : List (α × Value × Nat)) : mget k (mput x v c ms) = if k = x then some v else mget k ms := by
  unfold mput
  cases h : mget x ms with
  | some u => exact mget_mset x v k ms u h
  | none => exact mget_snoc x v c k ms h
end
/-! ### What the walks speak of -/
abbrev KI (s : List UInt8) : Value := .iface 9 (S s)
abbrev KEY : Value := .iface 71 (.agg #[])
def par : List (Nat × WP) → Value
  | [] => .pointer none
  | (b, _) :: _ => Pt b 0
/-- values of a stack, one behind the other -/
def svg : List (Nat × WP) → Hp
  | [] => []
  | (b, p) :: r => (b, .cells #[KI p.k, KI p.v, par r] 97 (0, 0)) :: svg r
def top : List (Nat × WP) → Value
  | [] => .nilIface
  | (b, _) :: _ => .iface 72 (Pt b 0)
def lk (l : List WP) (k : List UInt8) : Option (List UInt8) := (l.find? fun p => decide (k = p.k)).map WP.v
theorem lk_cons (p : WP) (l : List WP) (k : List UInt8) : lk (p :: l) k = if k = p.k then some p.v else lk l k := by
  unfold lk
  rw [List.find?_cons]
  by_cases h : k = p.k
  · rw [if_pos h, decide_eq_true h]; rfl
  · rw [if_neg h, decide_eq_false h]
/-- a context, and the values that stand at its top -/
def CX (kx : TypeId) (vx : Value) (r : List (Nat × WP)) : Prop := (kx = 70 ∧ vx = .agg #[] ∧ r = []) ∨ (kx = 95 ∧ ∃ p, vx = .agg #[p, KEY, top r])
def clr : List UInt8 := [99, 108, 101, 97, 114]
def stkn (s : List WP) (p : WP) : List WP := if p.k = clr then [] else p :: s
def stkf (l : List WP) : List WP := l.foldl stkn []
theorem stkf_next {l : List WP} {i : Nat} (h : i < l.length) : stkf (l.take (i + 1)) = stkn (stkf (l.take i)) (l.getD i WP0) := by
  unfold stkf
  rw [List.take_succ_eq_append_getElem h, List.foldl_append, List.getD_eq_getElem?_getD, List.getElem?_eq_getElem h]; rfl
theorem lk_last (l : List WP) (k : List UInt8) : ∀ s, (∀ p ∈ l, p.k ≠ clr) → lk (l.foldl stkn s) k = match lastOf l k with | some v => some v | none => lk s k := by
  induction l with
  | nil => intro s _; rfl
  | cons p r ih =>
    intro s h
    rw [List.foldl_cons, ih _ (fun q hq => h q (List.mem_cons_of_mem _ hq)), lastOf_cons]
    cases lastOf r k with
    | some v => rfl
    | none =>
      have hp : stkn s p = p :: s := if_neg (h p List.mem_cons_self)
      rw [hp, lk_cons]
      by_cases hk : p.k = k
      · rw [if_pos hk, if_pos hk.symm]
      · rw [if_neg hk, if_neg (fun e => hk e.symm)]
theorem stk_meta {l : List WP} (h : ∀ p ∈ l, p.k ≠ clr) (k : List UInt8) : lk (stkf l) k = lastOf l k := by
  unfold stkf
  rw [lk_last l k [] h]
  cases lastOf l k <;> rfl
theorem stk_clears {a b : List WP} {x : WP} (hx : x.k = clr) (h : ∀ p ∈ b, p.k ≠ clr) (k : List UInt8) : lk (stkf (a ++ [x] ++ b)) k = lastOf b k := by
  unfold stkf
  rw [List.foldl_append, List.foldl_append]
  have e : [x].foldl stkn (a.foldl stkn []) = [] := if_pos hx
  rw [e, lk_last b k [] h]
  cases lastOf b k <;> rfl
/-- metadata: no map yet, or one -/
def cellM (mb : Nat) (om : Option (Nat × List (List UInt8 × Value × Nat) × Nat)) : Hp := [(mb, .cells #[.map (om.map fun x => x.1)] 50 (0, 0))]
def mapM (om : Option (Nat × List (List UInt8 × Value × Nat) × Nat)) : Hp := match om with
  | none => []
  | some (m, ms, clk) => MG KI m ms clk
def getM (om : Option (Nat × List (List UInt8 × Value × Nat) × Nat)) (k : List UInt8) : Option Value := match om with
  | none => none
  | some (_, ms, _) => mget k ms
def fit1 (p : WP) : Bool := decide ((p.k.length : Int) ≤ 2147483647) && decide ((p.v.length : Int) ≤ 2147483647)
def fits (l : List WP) : Bool := decide ((l.length : Int) ≤ 2147483647) && l.all fit1
def fitsK (l : List (List UInt8)) : Bool := decide ((l.length : Int) ≤ 2147483647) && l.all fun x => decide ((x.length : Int) ≤ 2147483647)
end GA
end Go.Proofs.YtclafiglpcjhdaaGreat
