/- The engine, part 11: slices of structs. Over any program. -/
import Derived.Test.YtodlhaghdplclaaDoorVA
namespace Go.Proofs.YtodlhaghdplclaaDoor.V
open Go Go.RowKit
set_option linter.unusedSimpArgs false
set_option linter.unusedVariables false
def recsV {α : Type} (f : α → List Value) (l : List α) : List Value := l.flatMap f
theorem recs_len {α : Type} {f : α → List Value} {sz : Nat} (hf : ∀ x, (f x).length = sz) (l : List α) : (recsV f l).length = l.length * sz := by
  induction l with
  | nil => simp [recsV]
  | cons a l ih => show (f a ++ recsV f l).length = _; rw [List.length_append, hf, ih, List.length_cons, Nat.add_mul, Nat.one_mul, Nat.add_comm]
theorem recs_get {α : Type} {f : α → List Value} {sz : Nat} (hf : ∀ x, (f x).length = sz) (d : α) : ∀ (l : List α) (i j : Nat), i < l.length → j < sz → (recsV f l)[i * sz + j]? = (f (l.getD i d))[j]? := by
  intro l
  induction l with
  | nil => intro i j h; simp at h
  | cons a l ih =>
    intro i j hi hj
    show (f a ++ recsV f l)[i * sz + j]? = _
    cases i with
    | zero => rw [Nat.zero_mul, Nat.zero_add, List.getElem?_append_left (by rw [hf]; exact hj)]; rfl
    | succ i =>
      rw [List.getElem?_append_right (by rw [hf, Nat.add_mul]; omega), hf, show (i + 1) * sz + j - sz = i * sz + j by rw [Nat.add_mul]; omega, ih i j (by simpa using hi) hj]
      rfl
def adOff : Value → Nat → Value
  | .pointer (some a), k => .pointer (some (a.add k))
  | v, _ => v
section
variable {P : Program} {n : Nat} {w0 : World} {ds : List Deferred} {fr : Fr} {H H' : List Hp} {dst : Option Tmp} {ty : TypeId} {pos : String} {aft : Array Edge} {g : Option (Nat × Bool)}
variable {ops : Array Oper} {Q : Post} {rest : List Oper} {d : Nat}
/-- the address of an element's field -/
theorem oq_fldEl {s k off sz m : Nat} {t : TypeId} {x : Operand} {v : Value} {A : Hp} {xs : List Value} {i : Int} (hf : Fld P s k off t) (hr : RdS sz v A m xs) (hx : ev fr x = some (elAddr sz v i)) (h : 0 ≤ i ∧ i < m) :
    OV P n w0 ⟨dst, .fieldAddr s x k, ty, pos, aft, g⟩ (adOff (elAddr sz v i) off) ds fr H := by
  obtain ⟨b, o, c, e, fz, he, _, _⟩ := elAddr_pt hr h
  rw [he] at hx ⊢
  have := oq_fieldAddr (P := P) (n := n) (w0 := w0) (ds := ds) (H := H) (dst := dst) (ty := ty) (pos := pos) (aft := aft) (g := g) hf hx
  rw [show adOff (Pt b o) off = Pt b (o + off) from by simp [adOff, add_none]]
  exact this
/-- an element's field -/
theorem oq_loadF {α : Type} {f : α → List Value} {l : List α} {sz off : Nat} {t : TypeId} {x : Operand} {v u : Value} {A : Hp} {i : Int} (dflt : α) (hf : ∀ x, (f x).length = sz) (ht : Flat P t) (hr : RdS sz v A l.length (recsV f l)) (hA : A ∈ H) (hx : ev fr x = some (adOff (elAddr sz v i) off)) (h : 0 ≤ i ∧ i < l.length) {j : Nat} (hj : i.toNat = j) (hoff : off < sz) (hu : (f (l.getD j dflt))[off]? = some u) :
    OV P n w0 ⟨dst, .load t x, ty, pos, aft, g⟩ u ds fr H := by
  obtain ⟨b, o, c, e, fz, he, hb, hc⟩ := elAddr_pt hr h
  rw [he, show adOff (Pt b o) off = Pt b (o + off) from by simp [adOff, add_none]] at hx
  refine oq_load ht hx hA hb ?_
  rw [hc off hoff, recs_get hf dflt l i.toNat off (by omega) hoff, hj, hu]
/-- an element whole -/
theorem oq_loadEl {α : Type} {f : α → List Value} {l : List α} {sz : Nat} {t : TypeId} {x : Operand} {v : Value} {A : Hp} {i : Int} {z : Value} {bytes : Nat} (dflt : α) (vs : List Value) (hf : ∀ x, (f x).length = sz) (hag : Agg P t) (hty : Ty P t z sz bytes) (hr : RdS sz v A l.length (recsV f l)) (hA : A ∈ H) (hx : ev fr x = some (elAddr sz v i)) (h : 0 ≤ i ∧ i < l.length) {j : Nat} (hj : i.toNat = j) (hu : f (l.getD j dflt) = vs) :
    OV P n w0 ⟨dst, .load t x, ty, pos, aft, g⟩ (.agg vs.toArray) ds fr H := by
  obtain ⟨b, o, c, e, fz, he, hb, hc⟩ := elAddr_pt hr h
  rw [he] at hx
  subst hu
  have hl : (f (l.getD j dflt)).length = sz := hf _
  refine oq_loadAgg hag (by rw [hl]; exact hty) hx hA hb fun q u hq => ?_
  have hq2 : q < sz := by rw [← hl]; exact (List.getElem?_eq_some_iff.1 hq).1
  rw [hc q hq2, recs_get hf dflt l i.toNat q (by omega) hq2, hj, hq]
end
end Go.Proofs.YtodlhaghdplclaaDoor.V
