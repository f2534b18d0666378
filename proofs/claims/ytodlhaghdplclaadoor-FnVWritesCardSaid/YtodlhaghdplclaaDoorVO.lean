/- The engine, part 23: chains of nodes with a next one and a value, each behind an interface. Over any program. -/
import Derived.Test.YtodlhaghdplclaaDoorVN
namespace Go.Proofs.YtodlhaghdplclaaDoor.V
open Go Go.RowKit
set_option linter.unusedSimpArgs false
set_option linter.unusedVariables false
/-- a node: its block, the name of its value, and what stands beside the name -/
structure Nd where
  b : Nat
  id : List UInt8
  fv : Value
def wv (MF : TypeId) (x : Nd) : Value := .iface MF (.agg #[S x.id, x.fv])
def nextOf (PD : TypeId) : List Nd → Value → Value
  | [], e => e
  | y :: _, _ => .iface PD (Pt y.b 0)
def nobj (PD tD MF : TypeId) (x : Nd) (r : List Nd) (e : Value) : Obj := .cells #[nextOf PD r e, wv MF x] tD (0, 0)
def ch (PD tD MF : TypeId) : List Nd → Value → Hp
  | [], _ => []
  | x :: r, e => (x.b, nobj PD tD MF x r e) :: ch PD tD MF r e
/-- pointers to the first and to the last node -/
def hdp : List Nd → Value
  | [] => .pointer none
  | x :: _ => Pt x.b 0
def lastp : List Nd → Value
  | [] => .pointer none
  | [x] => Pt x.b 0
  | _ :: y :: r => lastp (y :: r)
variable {PD tD MF : TypeId}
theorem nextOf_app (A B : List Nd) (e : Value) : nextOf PD (A ++ B) e = nextOf PD A (nextOf PD B e) := by cases A <;> rfl
theorem ch_app (A B : List Nd) (e : Value) : ch PD tD MF (A ++ B) e = ch PD tD MF A (nextOf PD B e) ++ ch PD tD MF B e := by
  induction A with
  | nil => rfl
  | cons x r ih =>
    show (x.b, nobj PD tD MF x (r ++ B) e) :: ch PD tD MF (r ++ B) e = _
    rw [ih]
    unfold nobj
    rw [nextOf_app]; rfl
theorem ch_ids (A : List Nd) (e : Value) : (ch PD tD MF A e).map Prod.fst = A.map Nd.b := by
  induction A with
  | nil => rfl
  | cons x r ih => show x.b :: (ch PD tD MF r e).map Prod.fst = _; rw [ih]; rfl
theorem ch_mem (A : List Nd) (x : Nd) (B : List Nd) (e : Value) : (x.b, .cells #[nextOf PD B e, wv MF x] tD (0, 0)) ∈ ch PD tD MF (A ++ x :: B) e := by
  rw [ch_app]; exact List.mem_append_right _ List.mem_cons_self
theorem ch_out (A : List Nd) (x : Nd) (B : List Nd) (e : Value) : (ch PD tD MF (A ++ x :: B) e).Perm ([(x.b, .cells #[nextOf PD B e, wv MF x] tD (0, 0))] ++ (ch PD tD MF A (.iface PD (Pt x.b 0)) ++ ch PD tD MF B e)) := by
  rw [ch_app]
  show (ch PD tD MF A (.iface PD (Pt x.b 0)) ++ (x.b, nobj PD tD MF x B e) :: ch PD tD MF B e).Perm _
  exact List.perm_middle
theorem lastp_snoc (A : List Nd) (x : Nd) : lastp (A ++ [x]) = Pt x.b 0 := by
  induction A with
  | nil => rfl
  | cons a r ih =>
    cases r with
    | nil => rfl
    | cons c r => exact ih
theorem hdp_app (A : List Nd) (x : Nd) (B : List Nd) : hdp (A ++ x :: B) = hdp (A ++ [x]) := by cases A <;> rfl
theorem lastp_app (A : List Nd) (x : Nd) (B : List Nd) : lastp (A ++ x :: B) = lastp (x :: B) := by
  induction A with
  | nil => rfl
  | cons a r ih =>
    cases r with
    | nil => rfl
    | cons c r => exact ih
/-- the first node of a name -/
theorem nd_split (id : List UInt8) : ∀ (l : List Nd), (∃ A x B, l = A ++ x :: B ∧ x.id = id ∧ ∀ y ∈ A, y.id ≠ id) ∨ ∀ y ∈ l, y.id ≠ id
  | [] => .inr (by simp)
  | a :: r => by
    by_cases h : a.id = id
    · exact .inl ⟨[], a, r, rfl, h, by simp⟩
    · rcases nd_split id r with ⟨A, x, B, rfl, h2, h3⟩ | h2
      · exact .inl ⟨a :: A, x, B, rfl, h2, fun y hy => by rcases List.mem_cons.1 hy with rfl | hy; exact h; exact h3 y hy⟩
      · exact .inr fun y hy => by rcases List.mem_cons.1 hy with rfl | hy; exact h; exact h2 y hy
theorem FnW.reg {P : Program} {f : FuncId} {args : List Value} {base : Nat} {Hs Hs0 : List Hp} {R R' : Value → List Hp → Prop} (h : FnW P f args base Hs R) (hin : Hs0.flatten.Perm Hs.flatten) (hr : ∀ v Hs1, R v Hs1 → ∃ Hs2, R' v Hs2 ∧ Hs1.flatten.Perm Hs2.flatten) : FnW P f args base Hs0 R' :=
  fun w0 R0 w hb hw => (h w0 R0 w hb (hw.perm (by simpa using hin.append_right R0))).mono fun _ _ ⟨v, N, h1, h2, h3⟩ => by
    obtain ⟨Hs2, h4, h5⟩ := hr v N h2
    exact ⟨v, Hs2, h1, h4, h3.perm (by simpa using h5.append_right R0)⟩
theorem ch_in (A : List Nd) (x : Nd) (B : List Nd) (e : Value) (X : Hp) : ([(x.b, Obj.cells #[nextOf PD B e, wv MF x] tD (0, 0))] ++ (ch PD tD MF A (.iface PD (Pt x.b 0)) ++ ch PD tD MF B e) ++ X).Perm (ch PD tD MF (A ++ x :: B) e ++ X) := ((ch_out A x B e).append_right X).symm
/-- a node put in behind another one -/
theorem ch_ins (A : List Nd) (x y : Nd) (B : List Nd) (e : Value) : ((x.b, Obj.cells #[.iface PD (Pt y.b 0), wv MF x] tD (0, 0)) :: (y.b, Obj.cells #[nextOf PD B e, wv MF y] tD (0, 0)) :: (ch PD tD MF A (.iface PD (Pt x.b 0)) ++ ch PD tD MF B e)).Perm (ch PD tD MF (A ++ x :: y :: B) e) := by
  refine List.Perm.trans ?_ (ch_out A x (y :: B) e).symm
  exact List.Perm.cons _ List.perm_middle.symm
/-- a node taken out behind another one -/
theorem ch_del (A : List Nd) (x : Nd) (B : List Nd) (e : Value) : ((x.b, Obj.cells #[nextOf PD B e, wv MF x] tD (0, 0)) :: (ch PD tD MF A (.iface PD (Pt x.b 0)) ++ ch PD tD MF B e)).Perm (ch PD tD MF (A ++ x :: B) e) := (ch_out A x B e).symm
theorem hdp_cons (A : List Nd) (x : Nd) (B C : List Nd) : hdp (A ++ x :: B) = hdp (A ++ x :: C) := by cases A <;> rfl
theorem lastp_cons (A : List Nd) (x y : Nd) (B : List Nd) : lastp (A ++ x :: y :: B) = lastp (y :: B) := by
  rw [lastp_app]; rfl
theorem Z1 {a b : Bool} : ((!a) = b) ↔ (a = !b) := by cases a <;> cases b <;> simp
theorem Z2 : (!true) = false := rfl
theorem Z3 : (!false) = true := rfl
theorem Z4 {p : Prop} [Decidable p] : (decide p = true) = p := decide_eq_true_eq
theorem Z5 {p : Prop} [Decidable p] : decide p = false ↔ ¬p := decide_eq_false_iff_not
theorem Z6 {a b : Int} : ¬a < b ↔ b ≤ a := Int.not_lt
theorem Z7 {a b : Int} : ¬a ≤ b ↔ b < a := Int.not_le
theorem Z8 {α : Sort _} (a b : α) : (a ≠ b) = ¬(a = b) := rfl
theorem Z9 {p : Prop} [Decidable p] : ¬¬p ↔ p := Decidable.not_not
theorem Z0 {α : Type _} {l : List α} : l = [] ↔ l.length = 0 := List.length_eq_zero_iff.symm
/-! ### Regions that draw their order: what reads one group that stays comes first; the rest in its order, that group kept -/
def QS (P : Program) (ops : Array Oper) (Q : Post) (A : Hp) (fuel : Nat) (l : Array Bool) : Post := fun e a w => match e with
  | .normal => Has A w ∧ wpAnyH P .any ops Q (Has A) fuel l a w
  | e => Q e a w
def WH (P : Program) (n : Nat) (w0 : World) (ops : Array Oper) (Q : Post) (A : Hp) (fuel : Nat) (l : Array Bool) (ds : List Deferred) (fr : Fr) (H : List Hp) : Prop :=
  ∀ a w, Fits n ds fr a → St w0 H.flatten w → wpAnyH P .any ops Q (Has A) fuel l a w
theorem Has.of_st {w0 w : World} {A : Hp} {H : List Hp} (h : St w0 H.flatten w) (hA : A ∈ H) : Has A w := by
  refine ⟨fun b o hb => h.now b o (mem_flat hA hb), ?_⟩
  have hn := h.nodup
  obtain ⟨X, Y, rfl⟩ := List.append_of_mem hA
  simp only [List.flatten_append, List.flatten_cons, List.map_append] at hn
  exact (List.nodup_append.1 (List.nodup_append.1 hn).2.1).1
section
variable {P : Program} {n : Nat} {w0 : World} {ds : List Deferred} {fr : Fr} {H : List Hp} {ops : Array Oper} {Q : Post} {A : Hp} {fuel : Nat} {l : Array Bool}
theorem WC.held {id : Nat} {ol : List Oper} (A : Hp) (hm : P.follows .mixedOrders = true) (h : WH P n w0 ol.toArray Q A ol.toArray.size (Array.replicate ol.toArray.size false) ds fr H) : WC P n w0 (.region id ol.toArray true) Q ds fr H :=
  fun a w hf hw => wp_region_held (S := Has A) hm (h _ _ hf (hw.drawn _))
theorem WH.q (i : Nat) {o : Oper} {v : Value} {d : Nat} (ho : ops[i]? = some o) (hA : A ∈ H) (h : ∀ w0', OV P n w0' o v ds fr [A])
    (hg : gd ops fr o = some true) (hd : o.dst = some d) (hn : Nat.blt d n = true) (hk : WH P n w0 ops Q A fuel (l.setIfInBounds i true) ds ((d, v) :: fr) H)
    (hsel : Region.noSelect ops = true := by kernel_rfl) (hf : Region.free .any ops l i = true := by kernel_rfl) (hr : (Region.ready .any ops l).contains i = true := by kernel_rfl) (hQ : QOk Q := by repeat (first | with_reducible exact QOk.body | with_reducible apply QOk.then | with_reducible apply QOk.block | exact QOk.body | apply QOk.then | apply QOk.block)) : WH P n w0 ops Q A (fuel + 1) l ds fr H := by
  intro a w hfit hw
  refine wpAnyH_take ho hsel hf hr (fun c a w => hQ c a _ v w) (.inl ⟨gd_wanted hfit hg, fun w' hw' => ?_⟩) (Has.of_st hw hA) (hk _ _ (by rw [hd]; exact hfit.put v hn) hw)
  exact h w' a w' hfit (by simpa using hw'.st)
theorem WH.step {i : Nat} {o : Oper} (hr : Region.ready .any ops l = [i]) (ho : ops[i]? = some o) (h : WL P n w0 ops (QS P ops Q A fuel (l.setIfInBounds i true)) [o] ds fr H) : WH P n w0 ops Q A (fuel + 1) l ds fr H := by
  intro a w hfit hw
  refine wpAnyH_all hr (by simp) fun j hj => ?_
  obtain rfl := List.mem_singleton.1 hj
  have h' := h a w hfit hw
  unfold wpList at h'
  unfold wpOp
  rw [ho]
  show if Region.wanted o (yielded ops a.tmps) = true then _ else _
  have go : ∀ a' w', wpList P ops (QS P ops Q A fuel (l.setIfInBounds j true)) [] a' w' → Has A w' ∧ wpAnyH P .any ops Q (Has A) fuel (l.setIfInBounds j true) a' w' := fun a' w' hl => hl
  split
  · rename_i hw2; rw [if_pos hw2] at h'
    rcases h' with h' | h'
    · left
      have h2 := Oper.wp_mono go h'
      unfold Oper.wp at h2 ⊢
      generalize (execOp a.eval o).run P w = r at h2 ⊢
      cases r with
      | ok x w' =>
        cases x <;> simp only [Oper.upon] at h2 ⊢ <;> exact h2
      | halt x w' => cases x <;> simp only [Oper.upon] at h2 ⊢ <;> exact h2
    · exact .inr h'
  · rename_i hw2; rw [if_neg hw2] at h'; exact go _ _ h'
theorem WE.toH (hA : A ∈ H) (h : WH P n w0 ops Q A fuel l ds fr H) : WE n w0 .normal (QS P ops Q A fuel l) ds fr H := fun a w hf hw => ⟨Has.of_st hw hA, h a w hf hw⟩
theorem WH.done (hr : Region.ready .any ops l = []) (h : WE n w0 .normal Q ds fr H) : WH P n w0 ops Q A fuel l ds fr H := fun a w hf hw => wpAnyH_done hr (h a w hf hw) fuel
end
end Go.Proofs.YtodlhaghdplclaaDoor.V
