/- The engine, part 25: methods of receivers that lie in memory, results in cells of functions that change told groups, regions whose readings come ahead of one operation. Over any program. -/
import Derived.Test.YtpjeiimlglgklaaGreatDoorQ0
import Derived.Test.YtpjeiimlglgklaaGreatDoorProg
namespace Go.Proofs.YtpjeiimlglgklaaGreatDoor.V
open Go Go.RowKit
set_option linter.unusedSimpArgs false
set_option linter.unusedVariables false
/-! ### Methods whose receiver may lie in memory -/
section
variable {P : Program} {n : Nat} {w0 : World} {ds : List Deferred} {fr : Fr} {H H' : List Hp} {dst : Option Tmp} {ty : TypeId} {pos : String} {aft : Array Edge} {g : Option (Nat × Bool)}
variable {ops : Array Oper} {Q : Post} {rest : List Oper} {d : Nat}
/-! ### Results in cells -/
theorem WE.endDW {fn : Func} {e : Exit} {v : Value} {R : Value → List Hp → Prop} {R0 : Hp} (Hs : List Hp) (he : e = .ret ∨ e = .normal) (hres : ∀ a w, Fits n [] fr a → St w0 H.flatten w → (results fn a.tmps).run P w = .ok v w) (hd : Drops w0 H (Hs ++ [R0])) (hR : R v Hs) :
  WE n w0 e (bodyPost P fn (postW w0 R0 R)) [] fr H :=
 WE.body he hres fun w hw => ⟨_, Hs, rfl, hR, hd w hw⟩
end
/-! ### Regions that draw their order: readings of one group that stays until the operation 't' has come up; 't' waits for them -/
section
variable {P : Program} {ops : Array Oper} {Q : Post} {S : Array Bool → World → Prop}
def wpAnyS (P : Program) (ops : Array Oper) (Q : Post) (S : Array Bool → World → Prop) : Nat → Array Bool → Act → World → Prop
 | 0, l, a, w => Region.ready .any ops l = [] ∧ Q .normal a w
 | fuel + 1, l, a, w => (Region.ready .any ops l = [] → Q .normal a w) ∧ ∀ i ∈ Region.ready .any ops l, wpOp P ops Q i (fun a' w' => S (l.setIfInBounds i true) w' ∧ wpAnyS P ops Q S fuel (l.setIfInBounds i true) a' w') a w
theorem wpAnyS_any : ∀ (fuel : Nat) (l : Array Bool) (a : Act) (w : World), wpAnyS P ops Q S fuel l a w → wpAny P .any ops Q fuel l a w
 | 0, _, _, _, h => h
 | fuel + 1, _, _, _, h => ⟨h.1, fun i hi => wpOp_mono (fun a' w' h' => wpAnyS_any fuel _ a' w' h'.2) (h.2 i hi)⟩
def Closed (ops : Array Oper) (l : Array Bool) : Prop := ∀ j oj, ops[j]? = some oj → l.getD j false = true → ∀ e ∈ oj.after, Region.binds .any e = true → l.getD e.on false = true
def closedB (ops : Array Oper) (l : Array Bool) : Bool := (List.range ops.size).all fun j => match ops[j]? with
 | some oj => !(l.getD j false) || oj.after.all fun e => !(Region.binds .any e) || l.getD e.on false
 | none => true
theorem closed_of {l : Array Bool} (h : closedB ops l = true) : Closed ops l := by
 intro j oj hj hl e he hb
 unfold closedB at h
 rw [List.all_eq_true] at h
 have h1 := h j (List.mem_range.2 (Array.getElem?_eq_some_iff.1 hj).1)
 rw [hj] at h1
 simp only [hl, Bool.not_true, Bool.false_or] at h1
 have h2 := (Array.all_eq_true_iff_forall_mem.1 h1) e he
 rw [hb] at h2
 simpa using h2
theorem Closed.step {l : Array Bool} (h : Closed ops l) {i : Nat} (hi : i ∈ Region.ready .any ops l) : Closed ops (l.setIfInBounds i true) := by
 obtain ⟨_, oi, hoi, hall⟩ := mem_ready.1 hi
 intro j oj hj hl e he hb
 have h1 : l.getD e.on false = true := by
  by_cases hji : j = i
  ·subst hji
   rw [hoi] at hj
   injection hj with hj
   subst hj
   exact hall e he hb
  ·rw [getD_set_ne false (fun h => hji h.symm)] at hl
   exact h j oj hj hl e he hb
 by_cases hei : i = e.on
 ·subst hei
  rw [Array.getD_eq_getD_getElem?, Array.getElem?_setIfInBounds]
  rw [if_pos rfl]
  rw [Array.getD_eq_getD_getElem?] at h1
  have h3 : e.on < l.size := by
   apply Decidable.byContradiction
   intro h4
   rw [Array.getElem?_eq_none (Nat.not_lt.1 h4)] at h1
   cases h1
  rw [if_pos h3]; rfl
 ·rw [getD_set_ne false hei]; exact h1
def pathB (ops : Array Oper) : Nat → List Nat → Nat → Bool
 | t, [], i => match ops[t]? with
  | some o => o.after.any fun e => Region.binds .any e && e.on == i
  | none => false
 | t, j :: r, i => (match ops[t]? with
  | some o => o.after.any fun e => Region.binds .any e && e.on == j
  | none => false) && pathB ops j r i
theorem path_one {t i : Nat} {l : Array Bool} (hsz : l.size = ops.size) (h : (match ops[t]? with
  | some o => o.after.any fun e => Region.binds .any e && e.on == i
  | none => false) = true) (hc : Closed ops l) (hi : i < ops.size) (ht : l.getD t false = true) : l.getD i false = true := by
 cases ho : ops[t]? with
 | none => rw [ho] at h; cases h
 | some o =>
  rw [ho] at h
  simp only at h
  obtain ⟨e, he, hb⟩ := Array.any_eq_true'.1 h
  simp only [Bool.and_eq_true, beq_iff_eq] at hb
  have := hc t o ho ht e he hb.1
  rw [hb.2] at this
  exact this
theorem path_all {l : Array Bool} (hsz : l.size = ops.size) (hc : Closed ops l) : ∀ (p : List Nat) (t i : Nat), pathB ops t p i = true → (∀ j ∈ p, j < ops.size) → i < ops.size → l.getD t false = true → l.getD i false = true
 | [], t, i, h, _, hi, ht => path_one hsz h hc hi ht
 | j :: r, t, i, h, hp, hi, ht => by
  unfold pathB at h
  rw [Bool.and_eq_true] at h
  exact path_all hsz hc r j i h.2 (fun k hk => hp k (List.mem_cons_of_mem _ hk)) hi (path_one hsz h.1 hc (hp j List.mem_cons_self) ht)
def GS (t : Nat) (A : Hp) (l : Array Bool) (w : World) : Prop := l.getD t false = true ∨ Has A w
theorem wpAnyS_first {A : Hp} {t i : Nat} {oi : Oper} {v : Value} {p : List Nat} (hi : ops[i]? = some oi) (hsel : ∀ (j : Nat) (o : Oper) cs b, ops[j]? = some o → o.op ≠ .select cs b)
  (hQ : ∀ c a w, Q (.panic c) (a.put oi.dst v) w → Q (.panic c) a w) (hpath : pathB ops t p i = true) (hp : ∀ j ∈ p, j < ops.size) (hti : t ≠ i) :
  ∀ (fuel : Nat) (l : Array Bool) (a : Act) (w : World), l.size = ops.size → Closed ops l → l.getD i false = false →
   (∀ j oj, ops[j]? = some oj → j ≠ i → l.getD j true = false → (∀ e ∈ oj.after, Region.binds .any e = true → e.on ≠ i) → oi.apart ops oj = true) →
   i ∈ Region.ready .any ops l → YieldsIf P ops (Has A) oi v a → Has A w →
   wpAnyS P ops Q (GS t A) fuel (l.setIfInBounds i true) (a.put oi.dst v) w → wpAnyS P ops Q (GS t A) (fuel + 1) l a w := by
 have hisz : i < ops.size := (Array.getElem?_eq_some_iff.1 hi).1
 intro fuel
 induction fuel with
 | zero =>
  intro l a w hsz hcl hun _ hr hy hS H
  refine ⟨fun h => (by rw [h] at hr; cases hr), fun j hj => ?_⟩
  by_cases hji : j = i
  ·subst hji; exact hy.wpOp hi hS ⟨.inr hS, H⟩
  ·have := ready_mono hj hji
   rw [H.1] at this
   cases this
 | succ fuel ih =>
  intro l a w hsz hcl hun hfree hr hy hS H
  refine ⟨fun h => (by rw [h] at hr; cases hr), fun j hj => ?_⟩
  by_cases hji : j = i
  ·subst hji; exact hy.wpOp hi hS ⟨.inr hS, H⟩
  ·have h1 := H.2 j (ready_mono hj hji)
   obtain ⟨hjun, oj, hoj, hall⟩ := mem_ready.1 hj
   have hnot : ∀ e ∈ oj.after, Region.binds .any e = true → e.on ≠ i := fun e he hb heq => by
    have h1 := hall e he hb
    have h0 := (mem_ready.1 hr).1
    rw [heq] at h1
    rcases Nat.lt_or_ge i l.size with h' | h'
    ·simp [h'] at h0 h1; rw [h0] at h1; cases h1
    ·simp [Array.getElem?_eq_none h'] at h1
   have h2 := wpOp_putIf hoj (hfree j oj hoj hji hjun hnot) (fun cs b => hsel i oi cs b hi) (fun cs b => hsel j oj cs b hoj) hQ hy h1
   have hcl2 := hcl.step hj
   have hun2 : (l.setIfInBounds j true).getD i false = false := by rw [getD_set_ne false hji]; exact hun
   have hfree' : ∀ k ok, ops[k]? = some ok → k ≠ i → (l.setIfInBounds j true).getD k true = false →
     (∀ e ∈ ok.after, Region.binds .any e = true → e.on ≠ i) → oi.apart ops ok = true := fun k ok hk hki hun' hno => by
    refine hfree k ok hk hki ?_ hno
    by_cases hjk : j = k
    ·subst hjk; exact hjun
    ·rw [getD_set_ne true hjk] at hun'; exact hun'
   refine wpOp_mono (fun a' w' h3 => ?_) h2
   have hA : Has A w' := by
    rcases h3.2.1 with h4 | h4
    ·exfalso
     rw [Array.setIfInBounds_comm _ _ (fun h => hji h.symm)] at h4
     rw [getD_set_ne false (fun h => hti h.symm)] at h4
     have h5 := path_all (by simpa using hsz) hcl2 p t i hpath hp hisz h4
     rw [hun2] at h5
     cases h5
    ·exact h4
   refine ⟨.inr hA, ih (l.setIfInBounds j true) a' w' (by simpa using hsz) hcl2 hun2 hfree' (ready_mono hr (Ne.symm hji)) h3.1 hA ?_⟩
   rw [Array.setIfInBounds_comm _ _ hji]
   exact h3.2.2
theorem wpAnyS_pure {A : Hp} {t i : Nat} {oi : Oper} {v : Value} (hi : ops[i]? = some oi) (hsel : ∀ (j : Nat) (o : Oper) cs b, ops[j]? = some o → o.op ≠ .select cs b)
  (hQ : ∀ c a w, Q (.panic c) (a.put oi.dst v) w → Q (.panic c) a w) (hti : t ≠ i) :
  ∀ (fuel : Nat) (l : Array Bool) (a : Act) (w : World), GS t A l w →
   (∀ j oj, ops[j]? = some oj → j ≠ i → l.getD j true = false → (∀ e ∈ oj.after, Region.binds .any e = true → e.on ≠ i) → oi.apart ops oj = true) →
   i ∈ Region.ready .any ops l → YieldsIf P ops (fun _ => True) oi v a →
   wpAnyS P ops Q (GS t A) fuel (l.setIfInBounds i true) (a.put oi.dst v) w → wpAnyS P ops Q (GS t A) (fuel + 1) l a w := by
 have keep : ∀ {l : Array Bool} {w : World}, GS t A l w → GS t A (l.setIfInBounds i true) w := fun h => h.imp (fun h => by rw [getD_set_ne false (fun h => hti h.symm)]; exact h) id
 intro fuel
 induction fuel with
 | zero =>
  intro l a w hG _ hr hy H
  refine ⟨fun h => (by rw [h] at hr; cases hr), fun j hj => ?_⟩
  by_cases hji : j = i
  ·subst hji; exact hy.wpOp hi trivial ⟨keep hG, H⟩
  ·have := ready_mono hj hji
   rw [H.1] at this
   cases this
 | succ fuel ih =>
  intro l a w hG hfree hr hy H
  refine ⟨fun h => (by rw [h] at hr; cases hr), fun j hj => ?_⟩
  by_cases hji : j = i
  ·subst hji; exact hy.wpOp hi trivial ⟨keep hG, H⟩
  ·have h1 := H.2 j (ready_mono hj hji)
   obtain ⟨hjun, oj, hoj, hall⟩ := mem_ready.1 hj
   have hnot : ∀ e ∈ oj.after, Region.binds .any e = true → e.on ≠ i := fun e he hb heq => by
    have h1 := hall e he hb
    have h0 := (mem_ready.1 hr).1
    rw [heq] at h1
    rcases Nat.lt_or_ge i l.size with h' | h'
    ·simp [h'] at h0 h1; rw [h0] at h1; cases h1
    ·simp [Array.getElem?_eq_none h'] at h1
   have h2 := wpOp_putIf hoj (hfree j oj hoj hji hjun hnot) (fun cs b => hsel i oi cs b hi) (fun cs b => hsel j oj cs b hoj) hQ hy h1
   have hfree' : ∀ k ok, ops[k]? = some ok → k ≠ i → (l.setIfInBounds j true).getD k true = false →
     (∀ e ∈ ok.after, Region.binds .any e = true → e.on ≠ i) → oi.apart ops ok = true := fun k ok hk hki hun' hno => by
    refine hfree k ok hk hki ?_ hno
    by_cases hjk : j = k
    ·subst hjk; exact hjun
    ·rw [getD_set_ne true hjk] at hun'; exact hun'
   refine wpOp_mono (fun a' w' h3 => ?_) h2
   have hA : GS t A (l.setIfInBounds j true) w' := by
    refine h3.2.1.imp (fun h4 => ?_) id
    rw [Array.setIfInBounds_comm _ _ (fun h => hji h.symm)] at h4
    rw [getD_set_ne false (fun h => hti h.symm)] at h4
    exact h4
   refine ⟨hA, ih (l.setIfInBounds j true) a' w' hA hfree' (ready_mono hr (Ne.symm hji)) h3.1 ?_⟩
   rw [Array.setIfInBounds_comm _ _ hji]
   exact h3.2.2
theorem wpAnyS_all {rs : List Nat} {fuel : Nat} {l : Array Bool} {a : Act} {w : World} (hr : Region.ready .any ops l = rs) (hne : rs ≠ [])
  (h : ∀ i ∈ rs, wpOp P ops Q i (fun a' w' => S (l.setIfInBounds i true) w' ∧ wpAnyS P ops Q S fuel (l.setIfInBounds i true) a' w') a w) : wpAnyS P ops Q S (fuel + 1) l a w :=
 ⟨fun h0 => absurd (hr ▸ h0) hne, hr ▸ h⟩
theorem wpAnyS_done {l : Array Bool} {a : Act} {w : World} (hr : Region.ready .any ops l = []) (h : Q .normal a w) : ∀ fuel, wpAnyS P ops Q S fuel l a w
 | 0 => ⟨hr, h⟩
 | _ + 1 => ⟨fun _ => h, by rw [hr]; simp⟩
def QG (P : Program) (ops : Array Oper) (Q : Post) (t : Nat) (A : Hp) (fuel : Nat) (l : Array Bool) : Post := fun e a w => match e with
 | .normal => GS t A l w ∧ wpAnyS P ops Q (GS t A) fuel l a w
 | e => Q e a w
def WG (P : Program) (n : Nat) (w0 : World) (ops : Array Oper) (Q : Post) (t : Nat) (A : Hp) (fuel : Nat) (l : Array Bool) (ds : List Deferred) (fr : Fr) (H : List Hp) : Prop :=
 ∀ a w, Fits n ds fr a → St w0 H.flatten w → wpAnyS P ops Q (GS t A) fuel l a w
variable {n : Nat} {w0 : World} {ds : List Deferred} {fr : Fr} {H : List Hp} {t : Nat} {A : Hp} {fuel : Nat} {l : Array Bool}
theorem WC.gate {id : Nat} {ol : List Oper} (t : Nat) (A : Hp) (hm : P.follows .mixedOrders = true) (h : WG P n w0 ol.toArray Q t A ol.toArray.size (Array.replicate ol.toArray.size false) ds fr H) : WC P n w0 (.region id ol.toArray true) Q ds fr H :=
 fun a w hf hw => wp_region_any hm (wpAnyS_any _ _ _ _ (h _ _ hf (hw.drawn _)))
theorem WG.q (i : Nat) (p : List Nat) {o : Oper} {v : Value} {d : Nat} (ho : ops[i]? = some o) (hA : A ∈ H) (h : ∀ w0', OV P n w0' o v ds fr [A])
  (hg : gd ops fr o = some true) (hd : o.dst = some d) (hn : Nat.blt d n = true) (hk : WG P n w0 ops Q t A fuel (l.setIfInBounds i true) ds ((d, v) :: fr) H)
  (hsel : Region.noSelect ops = true := by kernel_rfl) (hf : Region.free .any ops l i = true := by kernel_rfl) (hr : (Region.ready .any ops l).contains i = true := by kernel_rfl)
  (hpath : pathB ops t p i = true := by kernel_rfl) (hpp : (p.all fun j => decide (j < ops.size)) = true := by kernel_rfl) (hti : (t == i) = false := by kernel_rfl) (hsz : l.size = ops.size := by kernel_rfl) (hcl : closedB ops l = true := by kernel_rfl) (hun : l.getD i false = false := by kernel_rfl)
  (hQ : QOk Q := by repeat (first | with_reducible exact QOk.body | with_reducible apply QOk.then | with_reducible apply QOk.block | exact QOk.body | apply QOk.then | apply QOk.block)) : WG P n w0 ops Q t A (fuel + 1) l ds fr H := by
 intro a w hfit hw
 refine wpAnyS_first ho (Region.noSelect_spec hsel) (fun c a w => hQ c a _ v w) hpath (fun j hj => of_decide_eq_true (List.all_eq_true.1 hpp j hj)) (by simpa using hti) fuel l a w hsz (closed_of hcl) hun (Region.free_spec ho hf) (by simpa using hr) (.inl ⟨gd_wanted hfit hg, fun w' hw' => ?_⟩) (Has.of_st hw hA) (hk _ _ (by rw [hd]; exact hfit.put v hn) hw)
 exact h w' a w' hfit (by simpa using hw'.st)
theorem WG.p (i : Nat) {o : Oper} {v : Value} {d : Nat} (ho : ops[i]? = some o) (hG : l.getD t false = true ∨ A ∈ H) (h : ∀ w0', OV P n w0' o v ds fr [])
  (hg : gd ops fr o = some true) (hd : o.dst = some d) (hn : Nat.blt d n = true) (hk : WG P n w0 ops Q t A fuel (l.setIfInBounds i true) ds ((d, v) :: fr) H)
  (hsel : Region.noSelect ops = true := by kernel_rfl) (hf : Region.free .any ops l i = true := by kernel_rfl) (hr : (Region.ready .any ops l).contains i = true := by kernel_rfl) (hti : (t == i) = false := by kernel_rfl)
  (hQ : QOk Q := by repeat (first | with_reducible exact QOk.body | with_reducible apply QOk.then | with_reducible apply QOk.block | exact QOk.body | apply QOk.then | apply QOk.block)) : WG P n w0 ops Q t A (fuel + 1) l ds fr H := by
 intro a w hfit hw
 refine wpAnyS_pure ho (Region.noSelect_spec hsel) (fun c a w => hQ c a _ v w) (by simpa using hti) fuel l a w (hG.imp id fun h => Has.of_st hw h) (Region.free_spec ho hf) (by simpa using hr) (.inl ⟨gd_wanted hfit hg, fun w' _ => ?_⟩) (hk _ _ (by rw [hd]; exact hfit.put v hn) hw)
 exact h w' a w' hfit (St.refl w')
theorem wpOp_of_wg {K : Act → World → Prop} {i : Nat} {o : Oper} (ho : ops[i]? = some o) {a : Act} {w : World} (h' : wpList P ops (fun e a w => match e with | .normal => K a w | e => Q e a w) [o] a w) : wpOp P ops Q i K a w := by
 unfold wpList at h'
 unfold wpOp
 rw [ho]
 show if Region.wanted o (yielded ops a.tmps) = true then _ else _
 have go : ∀ a' w', wpList P ops (fun e a w => match e with | .normal => K a w | e => Q e a w) [] a' w' → K a' w' := fun a' w' hl => hl
 split
 ·rename_i hw2; rw [if_pos hw2] at h'
  rcases h' with h' | h'
  ·left
   have h2 := Oper.wp_mono go h'
   unfold Oper.wp at h2 ⊢
   generalize (execOp a.eval o).run P w = r at h2 ⊢
   cases r with
   | ok x w' =>
    cases x <;> simp only [Oper.upon] at h2 ⊢ <;> exact h2
   | halt x w' => cases x <;> simp only [Oper.upon] at h2 ⊢ <;> exact h2
  ·exact .inr h'
 ·rename_i hw2; rw [if_neg hw2] at h'; exact go _ _ h'
theorem WG.step {i : Nat} {o : Oper} (hr : Region.ready .any ops l = [i]) (ho : ops[i]? = some o) (h : WL P n w0 ops (QG P ops Q t A fuel (l.setIfInBounds i true)) [o] ds fr H) : WG P n w0 ops Q t A (fuel + 1) l ds fr H := by
 intro a w hfit hw
 refine wpAnyS_all hr (by simp) fun j hj => ?_
 obtain rfl := List.mem_singleton.1 hj
 exact wpOp_of_wg ho (h a w hfit hw)
theorem WE.toG (hA : A ∈ H) (h : WG P n w0 ops Q t A fuel l ds fr H) : WE n w0 .normal (QG P ops Q t A fuel l) ds fr H := fun a w hf hw => ⟨.inr (Has.of_st hw hA), h a w hf hw⟩
theorem WE.toG0 (ht : l.getD t false = true) (h : WG P n w0 ops Q t A fuel l ds fr H) : WE n w0 .normal (QG P ops Q t A fuel l) ds fr H := fun a w hf hw => ⟨.inl ht, h a w hf hw⟩
theorem WG.done (hr : Region.ready .any ops l = []) (h : WE n w0 .normal Q ds fr H) : WG P n w0 ops Q t A fuel l ds fr H := fun a w hf hw => wpAnyS_done hr (h a w hf hw) fuel
end
end Go.Proofs.YtpjeiimlglgklaaGreatDoor.V
/- The engine, part 26: values within interfaces compared, maps that are nil, look-ups without an answer whether. Over any program. -/
namespace Go.Proofs.YtpjeiimlglgklaaGreatDoor.V
open Go Go.RowKit
set_option linter.unusedSimpArgs false
set_option linter.unusedVariables false
theorem FnR.wide {P : Program} {f : FuncId} {args : List Value} {A C D : Hp} {v : Value} (h : FnR P f args A v) (p : C.Perm (A ++ D)) : FnR P f args C v := fun w hw => by
 have hs : St w (A ++ D) w := hw.st.perm p
 refine (h w hs.has).mono fun e w' hh => ?_
 obtain ⟨h1, h2⟩ := hh
 have := hs.trans (N := []) h2 rfl (fun _ _ h => nomatch h)
 exact ⟨h1, by simpa using this.perm (by simpa using p.symm)⟩
def EqI (P : Program) (t : TypeId) (x y : Value) (b : Bool) : Prop := ∀ w, (Op.equal t x y).run P w = .ok b w
theorem eqI_other {P : Program} {t k k' : TypeId} {ms' : Array (String × TypeId)} (hd : P.underlying t = some (.interface ms')) (hk : k ≠ k') (v v' : Value) : EqI P t (.iface k v) (.iface k' v') false := fun w => by
 show (Op.equalIn (9999 + 1) t _ _).run P w = _
 unfold Op.equalIn
 simp only [Sem.run_bind, run_underlying hd, Result.andThen_ok, ne_eq, hk, not_false_eq_true, if_true, Sem.run_pure]
section
variable {P : Program} {n : Nat} {w0 : World} {ds : List Deferred} {fr : Fr} {H H' : List Hp} {dst : Option Tmp} {ty : TypeId} {pos : String} {aft : Array Edge} {g : Option (Nat × Bool)}
theorem oq_eqI {t t' k k' : TypeId} {x y : Operand} {v v' : Value} {b : Bool} (h : EqI P t (.iface k v) (.iface k' v') b) (hx : ev fr x = some (.iface k v)) (hy : ev fr y = some (.iface k' v')) : OV P n w0 ⟨dst, .binOp .eql t x y t', ty, pos, aft, g⟩ (.bool b) ds fr H :=
 oq_of_run fun a w hf _ => by
  have he := h w
  simp [execOp, hf.eval hx, hf.eval hy, eqGuard, binOp, he]
section
variable {α : Type} [DecidableEq α] {K : α → Value} {m : Nat} {ms : List (α × Value × Nat)} {clk : Nat}
end
end
end Go.Proofs.YtpjeiimlglgklaaGreatDoor.V
/- The engine, part 27: bytes made at a length and a capacity, texts copied into a block, parts of nil. Over any program. -/
namespace Go.Proofs.YtpjeiimlglgklaaGreatDoor.V
open Go Go.RowKit
set_option linter.unusedSimpArgs false
set_option linter.unusedVariables false
section
variable {P : Program} {n : Nat} {w0 : World} {ds : List Deferred} {fr : Fr} {H H' : List Hp} {dst : Option Tmp} {ty : TypeId} {pos : String} {aft : Array Edge} {g : Option (Nat × Bool)}
variable {ops : Array Oper} {Q : Post} {rest : List Oper} {d : Nat}
theorem WL.makeBc {t e : TypeId} {x y : Operand} {kl kc : IntKind} {k c : Nat} {bytes : Nat} (ht : P.underlying t = some (.slice e)) (hty : Ty P e (.int .u8 0) 1 bytes) (hx : ev fr x = some (.int kl (k : Int))) (hy : ev fr y = some (.int kc (c : Int))) (hkc : k ≤ c) (hb : bytes * c ≤ 281474976710656) (h63 : c ≤ maxLen)
  (hg : gd ops fr ⟨some d, .makeSlice t x y, ty, pos, aft, g⟩ = some true) (hn : Nat.blt d n = true)
  (hk : ∀ b, w0.heap.size ≤ b → WL P n w0 ops Q rest ds ((d, Sl b 0 k c) :: fr) (Bf b e (List.replicate c 0) :: H)) : WL P n w0 ops Q (⟨some d, .makeSlice t x y, ty, pos, aft, g⟩ :: rest) ds fr H := by
 obtain ⟨i, hi, hz, hs, hby⟩ := hty
 have h63' : (c : Int) ≤ 9223372036854775807 := by have h := h63; unfold maxLen at h; omega
 have hb' : (i.bytes : Int) * (c : Int) ≤ 281474976710656 := by
  rw [hby, ← Int.natCast_mul]; omega
 refine WL.new (v := fun b => Sl b 0 k c) (obj := .cells (bytesV (List.replicate c 0)).toArray e (0, 0)) (fun a w hf _ => ?_) hg rfl hn hk
 have hr := run_make (P := P) w t e i (.int .u8 0) ht hi hz kl kc (k : Int) (c : Int) (by omega) (by omega) hb' h63'
 have hc : madeCells (Value.int .u8 0).cells (c * i.size) = (bytesV (List.replicate c 0)).toArray := by
  apply Array.toList_inj.1
  rw [hs, Nat.mul_one, show (Value.int .u8 0).cells = #[.int .u8 0] from rfl, ← one_cells (v := .int .u8 0) rfl, made_one rfl]
  simp [bytesV]
 simp only [Int.toNat_natCast, hc] at hr
 simp only [execOp, hf.eval hx, hf.eval hy, Sem.run_bind, hr, Result.andThen_ok, Sem.run_pure]
theorem oq_sliceNil0 {t e : TypeId} {x y : Operand} {z : Value} {bytes : Nat} (ht : P.underlying t = some (.slice e)) (hty : Ty P e z 1 bytes) (hx : ev fr x = some (.slice none 0 0)) (hy : ev fr y = some (I 0)) : OV P n w0 ⟨dst, .slice t x none (some y) none, ty, pos, aft, g⟩ (.slice none 0 0) ds fr H :=
 oq_of_run fun a w hf _ => by
  have h0 : (0 : Int) ≤ (0 : Int) ∧ (0 : Int) ≤ ((0 : Nat) : Int) := by omega
  have hb : ∀ c w, (Instr.sliceBound (.int .i64 0) 0 c).run P w = .ok 0 w := fun c w => run_sliceBound h0
  simp [execOp, hf.eval hx, hf.eval hy, Instr.sliceAt, Instr.slice, Instr.sliceBounds, run_underlying ht, run_size hty, hb]
theorem oq_sliceEnd {t e : TypeId} {x y : Operand} {k : IntKind} {c b off : Nat} {z : Value} {bytes : Nat} (ht : P.underlying t = some (.slice e)) (hty : Ty P e z 1 bytes) (hx : ev fr x = some (Sl b off c c)) (hy : ev fr y = some (.int k (c : Int))) :
  OV P n w0 ⟨dst, .slice t x (some y) none none, ty, pos, aft, g⟩ (Sl b off 0 0) ds fr H := by
 refine oq_of_run fun a w hf _ => ?_
 have hi2 : (0 : Int) ≤ (c : Int) ∧ (c : Int) ≤ ((c : Nat) : Int) := by omega
 have hna : ∀ w, (underlying t).run P w = .ok (.slice e) w := run_underlying ht
 simp [execOp, hf.eval hx, hf.eval hy, Instr.sliceAt, Instr.slice, Instr.sliceBounds, hna, run_size hty, run_sliceBound hi2]
theorem WL.copyBS {t t' e' : TypeId} {x y : Operand} {b off m c : Nat} {e : TypeId} {l xs : List UInt8} {z : Value} {bytes : Nat} (ht : P.underlying t = some (.slice e')) (hty : Ty P e' z 1 bytes) (hx : ev fr x = some (Sl b off m c)) (hy : ev fr y = some (S xs)) (hm : off + m ≤ l.length)
  (hg : gd ops fr ⟨some d, .call ⟨.builtin .copy, #[x, y], #[t, t']⟩, ty, pos, aft, g⟩ = some true) (hn : Nat.blt d n = true)
  (hk : WL P n w0 ops Q rest ds ((d, I ((min xs.length m : Nat) : Int)) :: fr) (Bf b e (l.take off ++ xs.take (min xs.length m) ++ l.drop (off + min xs.length m)) :: H)) : WL P n w0 ops Q (⟨some d, .call ⟨.builtin .copy, #[x, y], #[t, t']⟩, ty, pos, aft, g⟩ :: rest) ds fr (Bf b e l :: H) := by
 intro a w hf hw
 have hw' : St w0 ((b, .cells (bytesV l).toArray e (0, 0)) :: H.flatten) w := by simpa using hw
 unfold wpList
 rw [gd_wanted hf hg, if_pos rfl]
 left
 unfold Oper.wp
 have hmin1 : min xs.length m ≤ xs.length := Nat.min_le_left _ _
 have hmin2 : min xs.length m ≤ m := Nat.min_le_right _ _
 have hlen : (Builtin.lenOf (S xs)).run P w = .ok xs.length w := by simp [Builtin.lenOf]; rfl
 have hcells : (Builtin.firstCells 1 (min xs.length m) (S xs)).run P w = .ok (bytesV (xs.take (min xs.length m))).toArray w := by
  simp only [Builtin.firstCells, Sem.run_pure]
  congr 1
  apply Array.toList_inj.1
  simp [bytesV, ByteArray.extract, ByteArray.copySlice]
 obtain ⟨w', hs, hst⟩ := run_storeCells_st (P := P) (bytesV (xs.take (min xs.length m))) 0 off _ w hw' (by simp [bytesV]; omega) (bytesV_one _) (fun j _ _ => by simp)
 have hn' : ∀ w, (underlying t).run P w = .ok (.slice e') w := run_underlying ht
 have hrun : (execOp a.eval ⟨some d, .call ⟨.builtin .copy, #[x, y], #[t, t']⟩, ty, pos, aft, g⟩).run P w = .ok (.value (I ((min xs.length m : Nat) : Int))) w' := by
  simp [execOp, resolve, invoke, builtin, Builtin.copy_, hf.eval hx, hf.eval hy, hn', run_size hty, hlen, hcells, hs, goInt]
 rw [hrun, Oper.upon_value]
 refine hk _ _ (hf.put _ hn) ?_
 have e1 : putCells (bytesV l).toArray (off + 0) (bytesV (xs.take (min xs.length m))) = (bytesV (l.take off ++ xs.take (min xs.length m) ++ l.drop (off + min xs.length m))).toArray := by
  have hl2 : (xs.take (min xs.length m)).length = min xs.length m := by rw [List.length_take]; omega
  rw [Nat.add_zero, putCells_bytes _ _ _ (by omega), hl2]
 rw [e1] at hst
 simpa using hst
end
end Go.Proofs.YtpjeiimlglgklaaGreatDoor.V
/- Walks of a buffer of bytes. -/
namespace Go.Proofs.YtpjeiimlglgklaaGreatDoor
open Go Go.RowKit V
set_option linter.unusedSimpArgs false
set_option linter.unusedVariables false
set_option maxRecDepth 10000
namespace EA
theorem call27 : Callable Tryz.prog 27 := ⟨_, Tryz.func27, rfl, by kernel_rfl⟩
theorem call104 : Callable Tryz.prog 104 := ⟨_, Tryz.func104, rfl, by kernel_rfl⟩
theorem call105 : Callable Tryz.prog 105 := ⟨_, Tryz.func105, rfl, by kernel_rfl⟩
theorem call106 : Callable Tryz.prog 106 := ⟨_, Tryz.func106, rfl, by kernel_rfl⟩
theorem flat3 : Flat Tryz.prog 3 := ⟨_, Tryz.underlying3, by simp⟩
theorem flat25 : Flat Tryz.prog 25 := ⟨_, Tryz.underlying25, by simp⟩
theorem ty3 : Ty Tryz.prog 3 (.int .i64 0) 1 8 := ty_of (by kernel_rfl)
theorem ty5 : Ty Tryz.prog 5 (.int .u8 0) 1 1 := ty_of (by kernel_rfl)
theorem ty25 : Ty Tryz.prog 25 (.slice none 0 0) 1 24 := ty_of (by kernel_rfl)
theorem ty37 : Ty Tryz.prog 37 (.int .i8 0) 1 1 := ty_of (by kernel_rfl)
theorem fld39_0 : Fld Tryz.prog 39 0 0 25 := fld_of Tryz.underlying39 rfl rfl rfl ty25 (by decide)
theorem fld39_1 : Fld Tryz.prog 39 1 1 3 := fld_of Tryz.underlying39 rfl rfl rfl ty3 (by decide)
theorem fld39_2 : Fld Tryz.prog 39 2 2 37 := fld_of Tryz.underlying39 rfl rfl rfl ty37 (by decide)
abbrev BB (bb : Nat) (v : Value) (lr : Int) : Hp := [(bb, .cells #[v, I 0, .int .i8 lr] 39 (0, 0))]
def Buf (base : Nat) (v : Value) (A : Hp) (acc : List UInt8) : Prop :=
 (v = .slice none 0 0 ∧ A = [] ∧ acc = []) ∨ ∃ B cap L, v = Sl B 0 acc.length cap ∧ A = Bf B 5 L ∧ base ≤ B ∧ L.length = cap ∧ acc.length ≤ cap ∧ 0 < cap ∧ cap ≤ maxLen ∧ L.take acc.length = acc
def Grown (n base bb : Nat) (lr : Int) (acc : List UInt8) (r : Value) (Hs : List Hp) : Prop :=
 ∃ B cap L, r = I (acc.length : Int) ∧ Hs = [BB bb (Sl B 0 (acc.length + n) cap) lr, Bf B 5 L] ∧ base ≤ B ∧ L.length = cap ∧ acc.length + n ≤ cap ∧ cap ≤ maxLen ∧ L.take acc.length = acc
def NewRow (n : Nat) (l : List UInt8) (v : Value) (N : Hp) : Prop := ∃ B cap L, v = Sl B 0 l.length cap ∧ N = Bf B 5 L ∧ L.length = cap ∧ l.length + n ≤ cap ∧ cap ≤ maxLen ∧ L.take l.length = l
theorem Buf.fresh {base : Nat} {v : Value} {A : Hp} {acc : List UInt8} (h : Buf base v A acc) : ∀ b o, (b, o) ∈ A → base ≤ b := by
 rcases h with ⟨_, rfl, _⟩ | ⟨B, cap, L, _, rfl, hB, _⟩
 ·exact fun _ _ h => nomatch h
 ·exact fresh1 hB
theorem rec_ret {w0 w : World} {H : List Hp} (hw : St w0 H.flatten w) :
 CallsD Tryz.prog 106 #[] .returning w fun e u' w' => e = .returned (.tuple #[]) ∧ u' = .returning ∧ St w0 H.flatten w' := by
 refine callsD_of_wpS Tryz.func106 rfl fun c₀ cs hm => ?_
 refine wpS_seq (wpS_region ?_)
 refine (?_ : WS Tryz.prog 3 w0 _ _ [0, 1] [] (c₀ :: cs) H) _ _ (args_fit (args := []) rfl) hw
 refine WS.recover0 rfl rfl (recoverD_none hm) ?_
 refine WS.q (oq_ineq Tryz.underlying20 rfl (.inl rfl)) rfl rfl rfl rfl ?_
 refine WS.cond (b := false) rfl ?_
 refine WC.skip ?_
 exact WE.endS (.inr rfl) (by rw [← hm]) (res0 Tryz.results106) fun w hw => ⟨rfl, rfl, hw⟩
theorem growSlice (p : Option Addr) (c n : Nat) (A : Hp) (l : List UInt8) (hr : RdS 1 (.slice p l.length c) A l.length (bytesV l)) (hl : l.length + n ≤ 140737488355328) (hn : 0 < n) (hc : c ≤ 140737488355328) : FnA Tryz.prog 105 [.slice p l.length c, I (n : Int)] A (NewRow n l) := by
 refine FnA.enterD (n := 28) Tryz.func105 rfl rfl fun w0 => ?_
 refine WC.sub (fr' := [(0, _), (1, _)]) ?_ ⟨rfl, rfl, trivial⟩
 refine WC.seq (WC.region ?_)
 refine WL.q (oq_assign rfl) rfl rfl rfl ?_
 refine WL.nil (WE.then_normal (WC.sub (fr' := [(0, _), (1, _)]) ?_ ⟨rfl, rfl, trivial⟩))
 refine WC.seq (WC.region ?_)
 refine WL.defer (first := []) rfl rfl rfl ?_
 refine WL.nil (WE.then_normal (WC.sub (fr' := [(0, _), (1, _)]) ?_ ⟨rfl, rfl, trivial⟩))
 refine WC.seq (WC.region ?_)
 refine WL.q (oq_move rfl) rfl rfl rfl ?_
 refine WL.q (oq_len_sl Tryz.underlying25 rfl) rfl rfl rfl ?_
 refine WL.q (oq_move rfl) rfl rfl rfl ?_
 refine WL.q (oq_add rfl rfl (by rw [i64_lo, i64_hi]; (first | omega | (simp only [List.length_cons, List.length_nil, List.length_append, List.length_drop, List.length_take]; omega)))) rfl rfl rfl ?_
 refine WL.q (oq_assign rfl) rfl rfl rfl ?_
 refine WL.nil (WE.then_normal (WC.sub (fr' := [(0, _), (5, _)]) ?_ ⟨rfl, rfl, trivial⟩))
 refine WC.cut (ι := Nat) (fun (k : Nat) => [(0, .slice p l.length c), (5, I (k : Int))]) (fun (k : Nat) => [A]) (fun (k : Nat) => l.length + n ≤ k ∧ k ≤ 281474976710656) ?_ ?_
 ·
  refine WC.seq (WC.region ?_)
  refine WL.q (oq_move rfl) rfl rfl rfl ?_
  refine WL.q (oq_move rfl) rfl rfl rfl ?_
  refine WL.q (oq_cap_sl Tryz.underlying25 rfl) rfl rfl rfl ?_
  refine WL.q (oq_mul rfl rfl (by rw [i64_lo, i64_hi]; (first | omega | (simp only [List.length_cons, List.length_nil, List.length_append, List.length_drop, List.length_take]; omega)))) rfl rfl rfl ?_
  refine WL.q (oq_lss rfl rfl) rfl rfl rfl ?_
  refine WL.nil (WE.then_normal (WC.sub (fr' := [(0, _), (5, _), (16, _)]) ?_ ⟨rfl, rfl, rfl, trivial⟩))
  refine WC.cond rfl (fun q3 => ?_) (fun q3 => ?_)
  ·
   try simp only [Z1, Z2, Z3, Z4, Z5, Z6, Z7, Z8, Z9, Z0] at q3
   refine WC.region ?_
   refine WL.q (oq_move rfl) rfl rfl rfl ?_
   refine WL.q (oq_cap_sl Tryz.underlying25 rfl) rfl rfl rfl ?_
   refine WL.q (oq_mul rfl rfl (by rw [i64_lo, i64_hi]; (first | omega | (simp only [List.length_cons, List.length_nil, List.length_append, List.length_drop, List.length_take]; omega)))) rfl rfl rfl ?_
   refine WL.q (oq_assign rfl) rfl rfl rfl ?_
   refine WL.nil ?_
   refine WE.meet (2 * c) ?_ ⟨rfl, rfl, trivial⟩ (List.Perm.refl _)
   try dsimp only
   exact ⟨by omega, by omega⟩
  ·
   try simp only [Z1, Z2, Z3, Z4, Z5, Z6, Z7, Z8, Z9, Z0] at q3
   refine WC.skip ?_
   refine WE.meet (l.length + n) ?_ ⟨rfl, rfl, trivial⟩ (List.Perm.refl _)
   try dsimp only
   exact ⟨by omega, by omega⟩
 ·rintro k hp
  try dsimp only at hp
  obtain ⟨hk1, hk2⟩ := hp
  show WC _ _ _ _ _ _ ([(0, .slice p l.length c), (5, I (k : Int))]) ([A])
  refine WC.seq (WC.region ?_)
  refine WL.q (oq_move rfl) rfl rfl rfl ?_
  refine WL.appendMade Tryz.underlying25 Tryz.underlying3 ty5 rfl (by omega) (by decide) (by omega) (by unfold maxLen; omega) rfl rfl fun nb nbc hnb hnbc hnbm => ?_
  refine WL.q (oq_assign rfl) rfl rfl rfl ?_
  refine WL.nil (WE.then_normal (WC.sub (fr' := [(0, _), (6, _)]) ?_ ⟨rfl, rfl, trivial⟩))
  refine WC.seq (WC.region ?_)
  refine WL.q (oq_move rfl) rfl rfl rfl ?_
  refine WL.q (oq_move rfl) rfl rfl rfl ?_
  refine WL.copyB Tryz.underlying25 ty5 rfl rfl hr (.head _) (by (first | omega | (simp only [List.length_replicate]; omega))) rfl rfl ?_
  refine WL.q (oq_assign rfl) rfl rfl rfl ?_
  refine WL.nil (WE.then_normal (WC.sub (fr' := [(6, _), (7, _)]) ?_ ⟨rfl, rfl, trivial⟩))
  refine WC.seq (WC.region ?_)
  refine WL.q (oq_move rfl) rfl rfl rfl ?_
  refine WL.q (oq_move rfl) rfl rfl rfl ?_
  refine WL.q (oq_sliceSl Tryz.underlying25 ty5 rfl (by (first | omega | (simp only [List.length_replicate]; omega))) rfl ⟨_, rfl⟩ (by (first | omega | (simp only [List.length_replicate]; omega))) (by (first | omega | (simp only [List.length_replicate]; omega)))) rfl rfl rfl ?_
  refine WL.q (oq_assign rfl) rfl rfl rfl ?_
  refine WL.nil (WE.then_normal (WC.sub (fr' := [(4, _)]) ?_ ⟨rfl, trivial⟩))
  refine WC.ret ?_
  refine WE.deferred (args := []) (cap := []) (.inl rfl) call106 fun a w hf hw => ?_
  refine (rec_ret hw).mono fun e u w2 h => ?_
  obtain ⟨rfl, rfl, hw2⟩ := h
  refine ⟨_, rfl, rfl, _, (res1 Tryz.results105 rfl) a w2 hf hw2, _, Bf nb 5 _, rfl, ⟨nb, nbc, _, ?_, rfl, ?_, by omega, hnbm, ?_⟩, fresh1 hnb, by simpa using hw2⟩
  ·rw [show min l.length k - 0 = l.length by omega]; rfl
  ·simp; omega
  ·rw [show min l.length k = l.length by omega, List.take_length]; simp
theorem bufLen (bb len cap : Nat) (p : Option Addr) (lr : Int) (hl : len ≤ 9223372036854775807) : FnR Tryz.prog 27 [Pt bb 0] [(bb, .cells #[.slice p len cap, I 0, .int .i8 lr] 39 (0, 0))] (I (len : Int)) := by
 refine FnR.enter (n := 13) Tryz.func27 rfl rfl fun w0 => ?_
 refine WC.sub (fr' := [(0, _)]) ?_ ⟨rfl, trivial⟩
 refine WC.seq (WC.region ?_)
 refine WL.q (oq_assign rfl) rfl rfl rfl ?_
 refine WL.nil (WE.then_normal (WC.sub (fr' := [(0, _)]) ?_ ⟨rfl, trivial⟩))
 refine WC.seq (WC.quiet (by kernel_rfl) (by kernel_rfl) ?_)
 refine WQ.q (oq_move rfl) rfl rfl rfl ?_
 refine WQ.q (oq_nilCheck rfl) rfl rfl rfl ?_
 refine WQ.q (oq_fieldAddr fld39_0 rfl) rfl rfl rfl ?_
 refine WQ.q (oq_load flat25 rfl (.head _) (List.mem_singleton.2 rfl) rfl) rfl rfl rfl ?_
 refine WQ.q (oq_len_sl Tryz.underlying25 rfl) rfl rfl rfl ?_
 refine WQ.q (oq_move rfl) rfl rfl rfl ?_
 refine WQ.q (oq_nilCheck rfl) rfl rfl rfl ?_
 refine WQ.q (oq_fieldAddr fld39_1 rfl) rfl rfl rfl ?_
 refine WQ.q (oq_load flat3 rfl (.head _) (List.mem_singleton.2 rfl) rfl) rfl rfl rfl ?_
 refine WQ.q (oq_sub rfl rfl (by rw [i64_lo, i64_hi]; (first | omega | (simp only [List.length_cons, List.length_nil, List.length_append, List.length_drop, List.length_take]; omega)))) rfl rfl rfl ?_
 refine WQ.q (oq_assign rfl) rfl rfl rfl ?_
 refine WQ.nil (WE.then_normal (WC.sub (fr' := [(2, _)]) ?_ ⟨rfl, trivial⟩))
 refine WC.ret ?_
 refine WE.endR (.inl rfl) (res1 Tryz.results27 rfl) ?_
 rw [Int.sub_zero]
theorem reset1 (base bb : Nat) (lr off : Int) (B m cap : Nat) (hmc : m ≤ cap) (h0 : 0 < cap) : FnW Tryz.prog 24 [Pt bb 0] base [[(bb, .cells #[Sl B 0 m cap, I off, .int .i8 lr] 39 (0, 0))]] (fun w Hs => w = .tuple #[] ∧ Hs = [BB bb (Sl B 0 0 cap) 0]) := by
 refine FnW.enter (n := 16) Tryz.func24 rfl rfl fun w0 R0 hbase => ?_
 subst hbase
 show WC _ _ _ _ _ _ _ ([[(bb, .cells #[Sl B 0 m cap, I off, .int .i8 lr] 39 (0, 0))], R0])
 refine WC.sub (fr' := [(0, _)]) ?_ ⟨rfl, trivial⟩
 refine WC.seq (WC.region ?_)
 refine WL.q (oq_move rfl) rfl rfl rfl ?_
 refine WL.q (oq_move rfl) rfl rfl rfl ?_
 refine WL.q (oq_nilCheck rfl) rfl rfl rfl ?_
 refine WL.q (oq_fieldAddr fld39_0 rfl) rfl rfl rfl ?_
 refine WL.q (oq_load flat25 rfl (.head _) (List.mem_singleton.2 rfl) rfl) rfl rfl rfl ?_
 refine WL.q (oq_sliceSl (j := 0) Tryz.underlying25 ty5 rfl (by omega) rfl ⟨_, rfl⟩ (by omega) (by omega)) rfl rfl rfl ?_
 refine WL.q (oq_nilCheck rfl) rfl rfl rfl ?_
 refine WL.q (oq_fieldAddr fld39_0 rfl) rfl rfl rfl ?_
 refine WL.store1 #[_, _, _] ty25 rfl rfl (by first | rfl | exact OwS.one one_) (Nat.lt_of_lt_of_le (Nat.lt_succ_self _) (Nat.le_of_ble_eq_true rfl)) rfl rfl ?_
 refine WL.nil (WE.then_normal (WC.sub (fr' := [(0, _)]) ?_ ⟨rfl, trivial⟩))
 refine WC.seq (WC.region ?_)
 refine WL.q (oq_move rfl) rfl rfl rfl ?_
 refine WL.q (oq_nilCheck rfl) rfl rfl rfl ?_
 refine WL.q (oq_fieldAddr fld39_1 rfl) rfl rfl rfl ?_
 refine WL.store1 #[_, _, _] ty3 rfl rfl (by first | rfl | exact OwS.one one_) (Nat.lt_of_lt_of_le (Nat.lt_succ_self _) (Nat.le_of_ble_eq_true rfl)) rfl rfl ?_
 refine WL.nil (WE.then_normal (WC.sub (fr' := [(0, _)]) ?_ ⟨rfl, trivial⟩))
 refine WC.region ?_
 refine WL.q (oq_move rfl) rfl rfl rfl ?_
 refine WL.q (oq_nilCheck rfl) rfl rfl rfl ?_
 refine WL.q (oq_fieldAddr fld39_2 rfl) rfl rfl rfl ?_
 refine WL.store1 #[_, _, _] ty37 rfl rfl (by first | rfl | exact OwS.one one_) (Nat.lt_of_lt_of_le (Nat.lt_succ_self _) (Nat.le_of_ble_eq_true rfl)) rfl rfl ?_
 refine WL.nil ?_
 refine WE.endW1 (.inr rfl) (res0 Tryz.results24) ?_
 exact ⟨rfl, rfl⟩
theorem reset0 (base bb : Nat) (lr off : Int) : FnW Tryz.prog 24 [Pt bb 0] base [[(bb, .cells #[.slice none 0 0, I off, .int .i8 lr] 39 (0, 0))]] (fun w Hs => w = .tuple #[] ∧ Hs = [BB bb (.slice none 0 0) 0]) := by
 refine FnW.enter (n := 16) Tryz.func24 rfl rfl fun w0 R0 hbase => ?_
 subst hbase
 show WC _ _ _ _ _ _ _ ([[(bb, .cells #[.slice none 0 0, I off, .int .i8 lr] 39 (0, 0))], R0])
 refine WC.sub (fr' := [(0, _)]) ?_ ⟨rfl, trivial⟩
 refine WC.seq (WC.region ?_)
 refine WL.q (oq_move rfl) rfl rfl rfl ?_
 refine WL.q (oq_move rfl) rfl rfl rfl ?_
 refine WL.q (oq_nilCheck rfl) rfl rfl rfl ?_
 refine WL.q (oq_fieldAddr fld39_0 rfl) rfl rfl rfl ?_
 refine WL.q (oq_load flat25 rfl (.head _) (List.mem_singleton.2 rfl) rfl) rfl rfl rfl ?_
 refine WL.q (oq_sliceNil0 Tryz.underlying25 ty5 rfl rfl) rfl rfl rfl ?_
 refine WL.q (oq_nilCheck rfl) rfl rfl rfl ?_
 refine WL.q (oq_fieldAddr fld39_0 rfl) rfl rfl rfl ?_
 refine WL.store1 #[_, _, _] ty25 rfl rfl (by first | rfl | exact OwS.one one_) (Nat.lt_of_lt_of_le (Nat.lt_succ_self _) (Nat.le_of_ble_eq_true rfl)) rfl rfl ?_
 refine WL.nil (WE.then_normal (WC.sub (fr' := [(0, _)]) ?_ ⟨rfl, trivial⟩))
 refine WC.seq (WC.region ?_)
 refine WL.q (oq_move rfl) rfl rfl rfl ?_
 refine WL.q (oq_nilCheck rfl) rfl rfl rfl ?_
 refine WL.q (oq_fieldAddr fld39_1 rfl) rfl rfl rfl ?_
 refine WL.store1 #[_, _, _] ty3 rfl rfl (by first | rfl | exact OwS.one one_) (Nat.lt_of_lt_of_le (Nat.lt_succ_self _) (Nat.le_of_ble_eq_true rfl)) rfl rfl ?_
 refine WL.nil (WE.then_normal (WC.sub (fr' := [(0, _)]) ?_ ⟨rfl, trivial⟩))
 refine WC.region ?_
 refine WL.q (oq_move rfl) rfl rfl rfl ?_
 refine WL.q (oq_nilCheck rfl) rfl rfl rfl ?_
 refine WL.q (oq_fieldAddr fld39_2 rfl) rfl rfl rfl ?_
 refine WL.store1 #[_, _, _] ty37 rfl rfl (by first | rfl | exact OwS.one one_) (Nat.lt_of_lt_of_le (Nat.lt_succ_self _) (Nat.le_of_ble_eq_true rfl)) rfl rfl ?_
 refine WL.nil ?_
 refine WE.endW1 (.inr rfl) (res0 Tryz.results24) ?_
 exact ⟨rfl, rfl⟩
theorem tryGrow1 (base bb B len cap n : Nat) (lr : Int) (hlc : len ≤ cap) (hl : len + n ≤ 140737488355328) (hmx : cap ≤ maxLen) (h0 : 0 < cap) : FnW Tryz.prog 104 [Pt bb 0, I (n : Int)] base [[(bb, .cells #[Sl B 0 len cap, I 0, .int .i8 lr] 39 (0, 0))]] (fun w Hs => w = .tuple #[I ((if len + n ≤ cap then len else 0 : Nat) : Int), .bool (decide (len + n ≤ cap))] ∧ Hs = [BB bb (Sl B 0 (if len + n ≤ cap then len + n else len) cap) lr]) := by
 have hmx : maxLen ≤ 9223372036854775807 := by unfold maxLen; omega
 refine FnW.enter (n := 33) Tryz.func104 rfl rfl fun w0 R0 hbase => ?_
 subst hbase
 show WC _ _ _ _ _ _ _ ([[(bb, .cells #[Sl B 0 len cap, I 0, .int .i8 lr] 39 (0, 0))], R0])
 refine WC.sub (fr' := [(0, _), (1, _)]) ?_ ⟨rfl, rfl, trivial⟩
 refine WC.seq (WC.region ?_)
 refine WL.q (oq_assign rfl) rfl rfl rfl ?_
 refine WL.q (oq_assign rfl) rfl rfl rfl ?_
 refine WL.nil (WE.then_normal (WC.sub (fr' := [(0, _), (1, _)]) ?_ ⟨rfl, rfl, trivial⟩))
 refine WC.seq (WC.seq (WC.region ?_))
 refine WL.q (oq_move rfl) rfl rfl rfl ?_
 refine WL.q (oq_nilCheck rfl) rfl rfl rfl ?_
 refine WL.q (oq_fieldAddr fld39_0 rfl) rfl rfl rfl ?_
 refine WL.q (oq_load flat25 rfl (.head _) (List.mem_singleton.2 rfl) rfl) rfl rfl rfl ?_
 refine WL.q (oq_len_sl Tryz.underlying25 rfl) rfl rfl rfl ?_
 refine WL.q (oq_assign rfl) rfl rfl rfl ?_
 refine WL.nil (WE.then_normal (WC.sub (fr' := [(0, _), (1, _), (6, _)]) ?_ ⟨rfl, rfl, rfl, trivial⟩))
 refine WC.seq (WC.region ?_)
 refine WL.q (oq_move rfl) rfl rfl rfl ?_
 refine WL.q (oq_move rfl) rfl rfl rfl ?_
 refine WL.q (oq_nilCheck rfl) rfl rfl rfl ?_
 refine WL.q (oq_fieldAddr fld39_0 rfl) rfl rfl rfl ?_
 refine WL.q (oq_load flat25 rfl (.head _) (List.mem_singleton.2 rfl) rfl) rfl rfl rfl ?_
 refine WL.q (oq_cap_sl Tryz.underlying25 rfl) rfl rfl rfl ?_
 refine WL.q (oq_move rfl) rfl rfl rfl ?_
 refine WL.q (oq_sub rfl rfl (by rw [i64_lo, i64_hi]; (first | omega | (simp only [List.length_cons, List.length_nil, List.length_append, List.length_drop, List.length_take]; omega)))) rfl rfl rfl ?_
 refine WL.q (oq_leq rfl rfl) rfl rfl rfl ?_
 refine WL.nil (WE.then_normal (WC.sub (fr' := [(0, _), (1, _), (6, _), (20, _)]) ?_ ⟨rfl, rfl, rfl, rfl, trivial⟩))
 refine WC.cond rfl (fun q2 => ?_) (fun q2 => ?_)
 ·
  try simp only [Z1, Z2, Z3, Z4, Z5, Z6, Z7, Z8, Z9, Z0] at q2
  refine WC.seq (WC.region ?_)
  refine WL.q (oq_move rfl) rfl rfl rfl ?_
  refine WL.q (oq_move rfl) rfl rfl rfl ?_
  refine WL.q (oq_nilCheck rfl) rfl rfl rfl ?_
  refine WL.q (oq_fieldAddr fld39_0 rfl) rfl rfl rfl ?_
  refine WL.q (oq_load flat25 rfl (.head _) (List.mem_singleton.2 rfl) rfl) rfl rfl rfl ?_
  refine WL.q (oq_move rfl) rfl rfl rfl ?_
  refine WL.q (oq_move rfl) rfl rfl rfl ?_
  refine WL.q (oq_add rfl rfl (by rw [i64_lo, i64_hi]; (first | omega | (simp only [List.length_cons, List.length_nil, List.length_append, List.length_drop, List.length_take]; omega)))) rfl rfl rfl ?_
  refine WL.q (oq_sliceSl (j := (len + n)) Tryz.underlying25 ty5 rfl (by omega) rfl ⟨_, rfl⟩ (by omega) (by omega)) rfl rfl rfl ?_
  refine WL.q (oq_nilCheck rfl) rfl rfl rfl ?_
  refine WL.q (oq_fieldAddr fld39_0 rfl) rfl rfl rfl ?_
  refine WL.store1 #[_, _, _] ty25 rfl rfl (by first | rfl | exact OwS.one one_) (Nat.lt_of_lt_of_le (Nat.lt_succ_self _) (Nat.le_of_ble_eq_true rfl)) rfl rfl ?_
  refine WL.nil (WE.then_normal (WC.sub (fr' := [(6, _)]) ?_ ⟨rfl, trivial⟩))
  refine WC.seq (WC.region ?_)
  refine WL.q (oq_move rfl) rfl rfl rfl ?_
  refine WL.q (oq_assign rfl) rfl rfl rfl ?_
  refine WL.q (oq_assign rfl) rfl rfl rfl ?_
  refine WL.nil (WE.then_normal (WC.sub (fr' := [(4, _), (5, _)]) ?_ ⟨rfl, rfl, trivial⟩))
  refine WC.ret (WE.then_ret ?_)
  refine WE.endW1 (.inl rfl) (res2 Tryz.results104 rfl rfl) ?_
  exact ⟨by rw [if_pos (by omega), decide_eq_true (by omega)], by rw [if_pos (by omega)]; rfl⟩
 ·
  try simp only [Z1, Z2, Z3, Z4, Z5, Z6, Z7, Z8, Z9, Z0] at q2
  refine WC.skip (WE.then_normal (WC.sub (fr' := []) ?_ trivial))
  refine WC.seq (WC.region ?_)
  refine WL.q (oq_assign rfl) rfl rfl rfl ?_
  refine WL.q (oq_assign rfl) rfl rfl rfl ?_
  refine WL.nil (WE.then_normal (WC.sub (fr' := [(4, _), (5, _)]) ?_ ⟨rfl, rfl, trivial⟩))
  refine WC.ret ?_
  refine WE.endW1 (.inl rfl) (res2 Tryz.results104 rfl rfl) ?_
  exact ⟨by rw [if_neg (by omega), decide_eq_false (by omega)]; rfl, by rw [if_neg (by omega)]⟩
theorem tryGrow0 (base bb n : Nat) (lr : Int) (hn : 0 < n) : FnW Tryz.prog 104 [Pt bb 0, I (n : Int)] base [[(bb, .cells #[.slice none 0 0, I 0, .int .i8 lr] 39 (0, 0))]] (fun w Hs => w = .tuple #[I 0, .bool false] ∧ Hs = [BB bb (.slice none 0 0) lr]) := by
 refine FnW.enter (n := 33) Tryz.func104 rfl rfl fun w0 R0 hbase => ?_
 subst hbase
 show WC _ _ _ _ _ _ _ ([[(bb, .cells #[.slice none 0 0, I 0, .int .i8 lr] 39 (0, 0))], R0])
 refine WC.sub (fr' := [(0, _), (1, _)]) ?_ ⟨rfl, rfl, trivial⟩
 refine WC.seq (WC.region ?_)
 refine WL.q (oq_assign rfl) rfl rfl rfl ?_
 refine WL.q (oq_assign rfl) rfl rfl rfl ?_
 refine WL.nil (WE.then_normal (WC.sub (fr' := [(0, _), (1, _)]) ?_ ⟨rfl, rfl, trivial⟩))
 refine WC.seq (WC.seq (WC.region ?_))
 refine WL.q (oq_move rfl) rfl rfl rfl ?_
 refine WL.q (oq_nilCheck rfl) rfl rfl rfl ?_
 refine WL.q (oq_fieldAddr fld39_0 rfl) rfl rfl rfl ?_
 refine WL.q (oq_load flat25 rfl (.head _) (List.mem_singleton.2 rfl) rfl) rfl rfl rfl ?_
 refine WL.q (oq_len_sl Tryz.underlying25 rfl) rfl rfl rfl ?_
 refine WL.q (oq_assign rfl) rfl rfl rfl ?_
 refine WL.nil (WE.then_normal (WC.sub (fr' := [(0, _), (1, _), (6, _)]) ?_ ⟨rfl, rfl, rfl, trivial⟩))
 refine WC.seq (WC.region ?_)
 refine WL.q (oq_move rfl) rfl rfl rfl ?_
 refine WL.q (oq_move rfl) rfl rfl rfl ?_
 refine WL.q (oq_nilCheck rfl) rfl rfl rfl ?_
 refine WL.q (oq_fieldAddr fld39_0 rfl) rfl rfl rfl ?_
 refine WL.q (oq_load flat25 rfl (.head _) (List.mem_singleton.2 rfl) rfl) rfl rfl rfl ?_
 refine WL.q (oq_cap_sl Tryz.underlying25 rfl) rfl rfl rfl ?_
 refine WL.q (oq_move rfl) rfl rfl rfl ?_
 refine WL.q (oq_sub rfl rfl (by rw [i64_lo, i64_hi]; (first | omega | (simp only [List.length_cons, List.length_nil, List.length_append, List.length_drop, List.length_take]; omega)))) rfl rfl rfl ?_
 refine WL.q (oq_leq rfl rfl) rfl rfl rfl ?_
 refine WL.nil (WE.then_normal (WC.sub (fr' := [(0, _), (1, _), (6, _), (20, _)]) ?_ ⟨rfl, rfl, rfl, rfl, trivial⟩))
 refine WC.cond rfl (fun q2 => ?_) (fun q2 => ?_)
 ·
  try simp only [Z1, Z2, Z3, Z4, Z5, Z6, Z7, Z8, Z9, Z0] at q2
  refine WC.seq ?_
  exfalso; omega
 ·
  try simp only [Z1, Z2, Z3, Z4, Z5, Z6, Z7, Z8, Z9, Z0] at q2
  refine WC.skip (WE.then_normal (WC.sub (fr' := []) ?_ trivial))
  refine WC.seq (WC.region ?_)
  refine WL.q (oq_assign rfl) rfl rfl rfl ?_
  refine WL.q (oq_assign rfl) rfl rfl rfl ?_
  refine WL.nil (WE.then_normal (WC.sub (fr' := [(4, _), (5, _)]) ?_ ⟨rfl, rfl, trivial⟩))
  refine WC.ret ?_
  refine WE.endW1 (.inl rfl) (res2 Tryz.results104 rfl rfl) ?_
  exact ⟨rfl, rfl⟩
theorem grow0 (base bb n : Nat) (lr : Int) (hn : 0 < n) (hl : n ≤ 140737488355328) : FnW Tryz.prog 103 [Pt bb 0, I (n : Int)] base [[(bb, .cells #[.slice none 0 0, I 0, .int .i8 lr] 39 (0, 0))]] (Grown n base bb lr []) := by
 have hmx : maxLen ≤ 9223372036854775807 := by unfold maxLen; omega
 refine FnW.enter (n := 110) Tryz.func103 rfl rfl fun w0 R0 hbase => ?_
 subst hbase
 show WC _ _ _ _ _ _ _ ([[(bb, .cells #[.slice none 0 0, I 0, .int .i8 lr] 39 (0, 0))], R0])
 refine WC.sub (fr' := [(0, _), (1, _)]) ?_ ⟨rfl, rfl, trivial⟩
 refine WC.seq (WC.region ?_)
 refine WL.q (oq_assign rfl) rfl rfl rfl ?_
 refine WL.nil (WE.then_normal (WC.sub (fr' := [(0, _), (1, _)]) ?_ ⟨rfl, rfl, trivial⟩))
 refine WC.seq (WC.region ?_)
 refine WL.q (oq_move rfl) rfl rfl rfl ?_
 refine WL.qc (oq_callRm (bufLen bb 0 0 none lr (by omega)) (.head _) call27 rfl) rfl rfl rfl ?_
 refine WL.q (oq_assign rfl) rfl rfl rfl ?_
 refine WL.nil (WE.then_normal (WC.sub (fr' := [(0, _), (1, _), (5, _)]) ?_ ⟨rfl, rfl, rfl, trivial⟩))
 refine WC.cut (ι := Unit) (fun _ => [(0, Pt bb 0), (1, I (n : Int)), (5, I 0)]) (fun _ => [[(bb, .cells #[.slice none 0 0, I 0, .int .i8 lr] 39 (0, 0))], R0]) (fun _ => True) ?_ ?_
 ·
  refine WC.seq (WC.region ?_)
  refine WL.q (oq_move rfl) rfl rfl rfl ?_
  refine WL.q (oq_eql rfl rfl) rfl rfl rfl ?_
  refine WL.q (oq_move rfl) rfl rfl rfl ?_
  refine WL.split 13 rfl (fun s2_2 => ?_) (fun s2_2 => ?_)
  ·
   try simp only [Z1, Z2, Z3, Z4, Z5, Z6, Z7, Z8, Z9, Z0] at s2_2
   refine WL.q (oq_move rfl) rfl rfl rfl ?_
   refine WL.q (oq_nilCheck rfl) rfl rfl rfl ?_
   refine WL.q (oq_fieldAddr fld39_1 rfl) rfl rfl rfl ?_
   refine WL.q (oq_load flat3 rfl (.head _) (List.mem_singleton.2 rfl) rfl) rfl rfl rfl ?_
   refine WL.q (oq_neq rfl rfl) rfl rfl rfl ?_
   refine WL.q (oq_pick_t rfl rfl) rfl rfl rfl ?_
   refine WL.nil (WE.then_normal (WC.sub (fr' := [(0, _), (1, _), (5, _), (19, _)]) ?_ ⟨rfl, rfl, rfl, rfl, trivial⟩))
   refine WC.cond rfl (fun q2 => ?_) (fun q2 => ?_)
   ·
    try simp only [Z1, Z2, Z3, Z4, Z5, Z6, Z7, Z8, Z9, Z0] at q2
    first | contradiction | (exfalso; omega) | (exfalso; simp_all; done)
   ·
    try simp only [Z1, Z2, Z3, Z4, Z5, Z6, Z7, Z8, Z9, Z0] at q2
    refine WC.skip ?_
    refine WE.meet () ?_ ⟨rfl, rfl, rfl, trivial⟩ (List.Perm.refl _)
    try dsimp only
    all_goals trivial
  ·
   try simp only [Z1, Z2, Z3, Z4, Z5, Z6, Z7, Z8, Z9, Z0] at s2_2
   refine WL.skip rfl rfl rfl ?_
   refine WL.skip rfl rfl rfl ?_
   refine WL.skip rfl rfl rfl ?_
   refine WL.skip rfl rfl rfl ?_
   refine WL.skip rfl rfl rfl ?_
   refine WL.q (oq_pick_f rfl rfl) rfl rfl rfl ?_
   refine WL.nil (WE.then_normal (WC.sub (fr' := [(0, _), (1, _), (5, _), (19, _)]) ?_ ⟨rfl, rfl, rfl, rfl, trivial⟩))
   refine WC.cond_f rfl ?_
   refine WC.skip ?_
   refine WE.meet () ?_ ⟨rfl, rfl, rfl, trivial⟩ (List.Perm.refl _)
   try dsimp only
   all_goals trivial
 ·rintro _ hp
  try dsimp only at hp
  show WC _ _ _ _ _ _ ([(0, Pt bb 0), (1, I (n : Int)), (5, I 0)]) ([[(bb, .cells #[.slice none 0 0, I 0, .int .i8 lr] 39 (0, 0))], R0])
  refine WC.seq (WC.seq (WC.region ?_))
  refine WL.q (oq_move rfl) rfl rfl rfl ?_
  refine WL.q (oq_move rfl) rfl rfl rfl ?_
  refine WL.callW1 (tryGrow0 _ bb n lr hn) call104 rfl rfl rfl fun v4_2 Hs4_2 hR4_2 => ?_
  obtain ⟨rfl, rfl⟩ := hR4_2
  refine WL.to1 ?_
  refine WL.q (oq_move rfl) rfl rfl rfl ?_
  refine WL.q (oq_extract rfl rfl) rfl rfl rfl ?_
  refine WL.q (oq_extract rfl rfl) rfl rfl rfl ?_
  refine WL.q (oq_assign rfl) rfl rfl rfl ?_
  refine WL.q (oq_assign rfl) rfl rfl rfl ?_
  refine WL.nil (WE.then_normal (WC.sub (fr' := [(0, _), (1, _), (5, _), (6, _), (7, _)]) ?_ ⟨rfl, rfl, rfl, rfl, rfl, trivial⟩))
  refine WC.seq (WC.region ?_)
  refine WL.q (oq_move rfl) rfl rfl rfl ?_
  refine WL.nil (WE.then_normal (WC.sub (fr' := [(0, _), (1, _), (5, _), (6, _), (28, _)]) ?_ ⟨rfl, rfl, rfl, rfl, rfl, trivial⟩))
  refine WC.cond rfl (fun q5 => ?_) (fun q5 => ?_)
  ·
   try simp only [Z1, Z2, Z3, Z4, Z5, Z6, Z7, Z8, Z9, Z0] at q5
   refine WC.seq ?_
   first | contradiction | (exfalso; omega) | (exfalso; simp_all; done)
  ·
   try simp only [Z1, Z2, Z3, Z4, Z5, Z6, Z7, Z8, Z9, Z0] at q5
   refine WC.skip (WE.then_normal (WC.sub (fr' := [(0, _), (1, _), (5, _)]) ?_ ⟨rfl, rfl, rfl, trivial⟩))
   refine WC.seq (WC.seq (WC.region ?_))
   refine WL.q (oq_move rfl) rfl rfl rfl ?_
   refine WL.q (oq_nilCheck rfl) rfl rfl rfl ?_
   refine WL.q (oq_fieldAddr fld39_0 rfl) rfl rfl rfl ?_
   refine WL.q (oq_load flat25 rfl (.head _) (List.mem_singleton.2 rfl) rfl) rfl rfl rfl ?_
   refine WL.q (oq_sleql Tryz.underlying25 rfl rfl) rfl rfl rfl ?_
   refine WL.q (oq_move rfl) rfl rfl rfl ?_
   refine WL.split 35 rfl (fun s7_5 => ?_) (fun s7_5 => ?_)
   ·
    try simp only [Z1, Z2, Z3, Z4, Z5, Z6, Z7, Z8, Z9, Z0] at s7_5
    refine WL.q (oq_move rfl) rfl rfl rfl ?_
    refine WL.q (oq_leq rfl rfl) rfl rfl rfl ?_
    refine WL.q (oq_pick_t rfl rfl) rfl rfl rfl ?_
    refine WL.nil (WE.then_normal (WC.sub (fr' := [(0, _), (1, _), (5, _), (38, _)]) ?_ ⟨rfl, rfl, rfl, rfl, trivial⟩))
    refine WC.cond rfl (fun q7 => ?_) (fun q7 => ?_)
    ·
     try simp only [Z1, Z2, Z3, Z4, Z5, Z6, Z7, Z8, Z9, Z0] at q7
     refine WC.seq (WC.region ?_)
     refine WL.q (oq_move rfl) rfl rfl rfl ?_
     refine WL.q (oq_move rfl) rfl rfl rfl ?_
     refine WL.makeBc (k := n) (c := 64) Tryz.underlying25 ty5 rfl rfl (by omega) (by omega) (by unfold maxLen; omega) rfl rfl fun sb hsb => ?_
     refine WL.q (oq_nilCheck rfl) rfl rfl rfl ?_
     refine WL.q (oq_fieldAddr fld39_0 rfl) rfl rfl rfl ?_
     refine WL.f1 ?_
     refine WL.store1 #[_, _, _] ty25 rfl rfl (by first | rfl | exact OwS.one one_) (Nat.lt_of_lt_of_le (Nat.lt_succ_self _) (Nat.le_of_ble_eq_true rfl)) rfl rfl ?_
     refine WL.nil (WE.then_normal (WC.sub (fr' := []) ?_ trivial))
     refine WC.seq (WC.region ?_)
     refine WL.q (oq_assign rfl) rfl rfl rfl ?_
     refine WL.nil (WE.then_normal (WC.sub (fr' := [(4, _)]) ?_ ⟨rfl, trivial⟩))
     refine WC.ret (WE.then_ret ?_)
     refine WE.endW2 (.inl rfl) (res1 Tryz.results103 rfl) ?_
     exact ⟨sb, 64, _, rfl, by rw [List.length_nil, Nat.zero_add], hsb, by simp, by simp only [List.length_nil]; omega, by unfold maxLen; omega, by simp⟩
    ·
     try simp only [Z1, Z2, Z3, Z4, Z5, Z6, Z7, Z8, Z9, Z0] at q7
     refine WC.skip (WE.then_normal (WC.sub (fr' := [(0, _), (1, _), (5, _)]) ?_ ⟨rfl, rfl, rfl, trivial⟩))
     refine WC.seq (WC.region ?_)
     refine WL.q (oq_move rfl) rfl rfl rfl ?_
     refine WL.q (oq_nilCheck rfl) rfl rfl rfl ?_
     refine WL.q (oq_fieldAddr fld39_0 rfl) rfl rfl rfl ?_
     refine WL.q (oq_load flat25 rfl (.head _) (List.mem_singleton.2 rfl) rfl) rfl rfl rfl ?_
     refine WL.q (oq_cap_sl Tryz.underlying25 rfl) rfl rfl rfl ?_
     refine WL.q (oq_assign rfl) rfl rfl rfl ?_
     refine WL.nil (WE.then_normal (WC.sub (fr' := [(0, _), (1, _), (5, _), (8, _)]) ?_ ⟨rfl, rfl, rfl, rfl, trivial⟩))
     refine WC.seq (WC.seq (WC.region ?_))
     refine WL.q (oq_move rfl) rfl rfl rfl ?_
     refine WL.q (oq_move rfl) rfl rfl rfl ?_
     refine WL.q (oq_quo rfl rfl (by rw [i64_hi]; omega)) rfl rfl rfl ?_
     refine WL.q (oq_move rfl) rfl rfl rfl ?_
     refine WL.q (oq_sub rfl rfl (by rw [i64_lo, i64_hi]; (first | omega | (simp only [List.length_cons, List.length_nil, List.length_append, List.length_drop, List.length_take]; omega)))) rfl rfl rfl ?_
     refine WL.q (oq_leq rfl rfl) rfl rfl rfl ?_
     refine WL.nil (WE.then_normal (WC.sub (fr' := [(0, _), (1, _), (5, _), (8, _), (54, _)]) ?_ ⟨rfl, rfl, rfl, rfl, rfl, trivial⟩))
     refine WC.cond rfl (fun q11 => ?_) (fun q11 => ?_)
     ·
      try simp only [Z1, Z2, Z3, Z4, Z5, Z6, Z7, Z8, Z9, Z0] at q11
      first | contradiction | (exfalso; omega) | (exfalso; simp_all; done)
     ·
      try simp only [Z1, Z2, Z3, Z4, Z5, Z6, Z7, Z8, Z9, Z0] at q11
      refine WC.seq (WC.region ?_)
      refine WL.q (oq_move rfl) rfl rfl rfl ?_
      refine WL.q (oq_move rfl) rfl rfl rfl ?_
      refine WL.q (oq_sub rfl rfl (by rw [i64_lo, i64_hi]; (first | omega | (simp only [List.length_cons, List.length_nil, List.length_append, List.length_drop, List.length_take]; omega)))) rfl rfl rfl ?_
      refine WL.q (oq_move rfl) rfl rfl rfl ?_
      refine WL.q (oq_sub rfl rfl (by rw [i64_lo, i64_hi]; (first | omega | (simp only [List.length_cons, List.length_nil, List.length_append, List.length_drop, List.length_take]; omega)))) rfl rfl rfl ?_
      refine WL.q (oq_gtr rfl rfl) rfl rfl rfl ?_
      refine WL.nil (WE.then_normal (WC.sub (fr' := [(0, _), (1, _), (5, _), (74, _)]) ?_ ⟨rfl, rfl, rfl, rfl, trivial⟩))
      refine WC.cond rfl (fun q13 => ?_) (fun q13 => ?_)
      ·
       try simp only [Z1, Z2, Z3, Z4, Z5, Z6, Z7, Z8, Z9, Z0] at q13
       first | contradiction | (exfalso; omega) | (exfalso; simp_all; done)
      ·
       try simp only [Z1, Z2, Z3, Z4, Z5, Z6, Z7, Z8, Z9, Z0] at q13
       refine WC.tailM (pl := [_]) (ql := [_, _, _, _, _, _, _, _, _, _, _, _, _, _, _]) (tl := [_, _, _, _]) [0] [1, 2, 3, 4, 5, 6, 7, 8, 9, 10, 11, 12, 13, 14, 15] 16 [17, 18, 19] (by kernel_rfl) (by kernel_rfl) (by kernel_rfl) (by kernel_rfl) (by kernel_rfl) (by kernel_rfl) (by decide) rfl rfl rfl (by decide) (by repeat (first | with_reducible exact QOk.body | with_reducible apply QOk.then | with_reducible apply QOk.block | exact QOk.body | apply QOk.then | apply QOk.block)) ?_
       refine WM.q (fun w0 => oq_move rfl) rfl rfl rfl ?_
       refine WM.nil ?_
       refine WY.q (oq_move rfl) rfl rfl rfl ?_
       refine WY.q (oq_nilCheck rfl) rfl rfl rfl ?_
       refine WY.q (oq_fieldAddr fld39_0 rfl) rfl rfl rfl ?_
       refine WY.q (oq_load flat25 rfl (.head _) (List.mem_singleton.2 rfl) rfl) rfl rfl rfl ?_
       refine WY.q (oq_move rfl) rfl rfl rfl ?_
       refine WY.q (oq_nilCheck rfl) rfl rfl rfl ?_
       refine WY.q (oq_fieldAddr fld39_1 rfl) rfl rfl rfl ?_
       refine WY.q (oq_load flat3 rfl (.head _) (List.mem_singleton.2 rfl) rfl) rfl rfl rfl ?_
       refine WY.q (oq_sliceNil Tryz.underlying25 ty5 rfl rfl) rfl rfl rfl ?_
       refine WY.q (oq_move rfl) rfl rfl rfl ?_
       refine WY.q (oq_nilCheck rfl) rfl rfl rfl ?_
       refine WY.q (oq_fieldAddr fld39_1 rfl) rfl rfl rfl ?_
       refine WY.q (oq_load flat3 rfl (.head _) (List.mem_singleton.2 rfl) rfl) rfl rfl rfl ?_
       refine WY.q (oq_move rfl) rfl rfl rfl ?_
       refine WY.q (oq_add rfl rfl (by rw [i64_lo, i64_hi]; (first | omega | (simp only [List.length_cons, List.length_nil, List.length_append, List.length_drop, List.length_take]; omega)))) rfl rfl rfl ?_
       refine WY.nil ?_
       refine WL.callA0 (growSlice none 0 n [] [] ⟨rfl, .inl ⟨rfl, _, _, rfl⟩⟩ (by simp only [List.length_nil]; omega) hn (by omega)) call105 (by rw [Int.zero_add]; rfl) rfl rfl fun v15_16 N15_16 hR15_16 hN15_16 => ?_
       obtain ⟨B2, cap2, L2, rfl, rfl, hL2, hc2, hm2, ht2⟩ := hR15_16
       have hB2 := hN15_16 _ _ (List.mem_singleton.2 rfl)
       refine WL.q (oq_nilCheck rfl) rfl rfl rfl ?_
       refine WL.q (oq_fieldAddr fld39_0 rfl) rfl rfl rfl ?_
       refine WL.f1 ?_
       refine WL.store1 #[_, _, _] ty25 rfl rfl (by first | rfl | exact OwS.one one_) (Nat.lt_of_lt_of_le (Nat.lt_succ_self _) (Nat.le_of_ble_eq_true rfl)) rfl rfl ?_
       refine WL.nil (WE.then_normal (WC.sub (fr' := [(0, _), (1, _), (5, _)]) ?_ ⟨rfl, rfl, rfl, trivial⟩))
       refine WC.seq (WC.region ?_)
       refine WL.q (oq_move rfl) rfl rfl rfl ?_
       refine WL.q (oq_nilCheck rfl) rfl rfl rfl ?_
       refine WL.q (oq_fieldAddr fld39_1 rfl) rfl rfl rfl ?_
       refine WL.store1 #[_, _, _] ty3 rfl rfl (by first | rfl | exact OwS.one one_) (Nat.lt_of_lt_of_le (Nat.lt_succ_self _) (Nat.le_of_ble_eq_true rfl)) rfl rfl ?_
       refine WL.nil (WE.then_normal (WC.sub (fr' := [(0, _), (1, _), (5, _)]) ?_ ⟨rfl, rfl, rfl, trivial⟩))
       refine WC.seq (WC.region ?_)
       refine WL.q (oq_move rfl) rfl rfl rfl ?_
       refine WL.q (oq_move rfl) rfl rfl rfl ?_
       refine WL.q (oq_nilCheck rfl) rfl rfl rfl ?_
       refine WL.q (oq_fieldAddr fld39_0 rfl) rfl rfl rfl ?_
       refine WL.q (oq_load flat25 rfl (.head _) (List.mem_singleton.2 rfl) rfl) rfl rfl rfl ?_
       refine WL.q (oq_move rfl) rfl rfl rfl ?_
       refine WL.q (oq_move rfl) rfl rfl rfl ?_
       refine WL.q (oq_add rfl rfl (by rw [i64_lo, i64_hi]; (first | omega | (simp only [List.length_cons, List.length_nil, List.length_append, List.length_drop, List.length_take]; omega)))) rfl rfl rfl ?_
       refine WL.q (oq_sliceSl (j := (0 + n)) Tryz.underlying25 ty5 rfl (by (first | omega | (simp only [List.length_nil]; omega))) rfl ⟨_, rfl⟩ (by (first | omega | (simp only [List.length_nil]; omega))) (by (first | omega | (simp only [List.length_nil]; omega)))) rfl rfl rfl ?_
       refine WL.q (oq_nilCheck rfl) rfl rfl rfl ?_
       refine WL.q (oq_fieldAddr fld39_0 rfl) rfl rfl rfl ?_
       refine WL.store1 #[_, _, _] ty25 rfl rfl (by first | rfl | exact OwS.one one_) (Nat.lt_of_lt_of_le (Nat.lt_succ_self _) (Nat.le_of_ble_eq_true rfl)) rfl rfl ?_
       refine WL.nil (WE.then_normal (WC.sub (fr' := [(5, _)]) ?_ ⟨rfl, trivial⟩))
       refine WC.seq (WC.region ?_)
       refine WL.q (oq_move rfl) rfl rfl rfl ?_
       refine WL.q (oq_assign rfl) rfl rfl rfl ?_
       refine WL.nil (WE.then_normal (WC.sub (fr' := [(4, _)]) ?_ ⟨rfl, trivial⟩))
       refine WC.ret ?_
       refine WE.endW2 (.inl rfl) (res1 Tryz.results103 rfl) ?_
       refine ⟨B2, cap2, L2, rfl, ?_, hB2, hL2, hc2, hm2, ht2⟩
       rw [List.length_nil, Nat.zero_add, Nat.zero_add]; rfl
   ·
    try simp only [Z1, Z2, Z3, Z4, Z5, Z6, Z7, Z8, Z9, Z0] at s7_5
    refine WL.skip rfl rfl rfl ?_
    refine WL.skip rfl rfl rfl ?_
    refine WL.q (oq_pick_f rfl rfl) rfl rfl rfl ?_
    refine WL.nil (WE.then_normal (WC.sub (fr' := [(0, _), (1, _), (5, _), (38, _)]) ?_ ⟨rfl, rfl, rfl, rfl, trivial⟩))
    refine WC.cond_f rfl ?_
    refine WC.skip (WE.then_normal (WC.sub (fr' := [(0, _), (1, _), (5, _)]) ?_ ⟨rfl, rfl, rfl, trivial⟩))
    refine WC.seq (WC.region ?_)
    refine WL.q (oq_move rfl) rfl rfl rfl ?_
    refine WL.q (oq_nilCheck rfl) rfl rfl rfl ?_
    refine WL.q (oq_fieldAddr fld39_0 rfl) rfl rfl rfl ?_
    refine WL.q (oq_load flat25 rfl (.head _) (List.mem_singleton.2 rfl) rfl) rfl rfl rfl ?_
    refine WL.q (oq_cap_sl Tryz.underlying25 rfl) rfl rfl rfl ?_
    refine WL.q (oq_assign rfl) rfl rfl rfl ?_
    refine WL.nil (WE.then_normal (WC.sub (fr' := [(0, _), (1, _), (5, _), (8, _)]) ?_ ⟨rfl, rfl, rfl, rfl, trivial⟩))
    refine WC.seq (WC.seq (WC.region ?_))
    refine WL.q (oq_move rfl) rfl rfl rfl ?_
    refine WL.q (oq_move rfl) rfl rfl rfl ?_
    refine WL.q (oq_quo rfl rfl (by rw [i64_hi]; omega)) rfl rfl rfl ?_
    refine WL.q (oq_move rfl) rfl rfl rfl ?_
    refine WL.q (oq_sub rfl rfl (by rw [i64_lo, i64_hi]; (first | omega | (simp only [List.length_cons, List.length_nil, List.length_append, List.length_drop, List.length_take]; omega)))) rfl rfl rfl ?_
    refine WL.q (oq_leq rfl rfl) rfl rfl rfl ?_
    refine WL.nil (WE.then_normal (WC.sub (fr' := [(0, _), (1, _), (5, _), (8, _), (54, _)]) ?_ ⟨rfl, rfl, rfl, rfl, rfl, trivial⟩))
    refine WC.cond rfl (fun q11 => ?_) (fun q11 => ?_)
    ·
     try simp only [Z1, Z2, Z3, Z4, Z5, Z6, Z7, Z8, Z9, Z0] at q11
     first | contradiction | (exfalso; omega) | (exfalso; simp_all; done)
    ·
     try simp only [Z1, Z2, Z3, Z4, Z5, Z6, Z7, Z8, Z9, Z0] at q11
     refine WC.seq (WC.region ?_)
     refine WL.q (oq_move rfl) rfl rfl rfl ?_
     refine WL.q (oq_move rfl) rfl rfl rfl ?_
     refine WL.q (oq_sub rfl rfl (by rw [i64_lo, i64_hi]; (first | omega | (simp only [List.length_cons, List.length_nil, List.length_append, List.length_drop, List.length_take]; omega)))) rfl rfl rfl ?_
     refine WL.q (oq_move rfl) rfl rfl rfl ?_
     refine WL.q (oq_sub rfl rfl (by rw [i64_lo, i64_hi]; (first | omega | (simp only [List.length_cons, List.length_nil, List.length_append, List.length_drop, List.length_take]; omega)))) rfl rfl rfl ?_
     refine WL.q (oq_gtr rfl rfl) rfl rfl rfl ?_
     refine WL.nil (WE.then_normal (WC.sub (fr' := [(0, _), (1, _), (5, _), (74, _)]) ?_ ⟨rfl, rfl, rfl, rfl, trivial⟩))
     refine WC.cond rfl (fun q13 => ?_) (fun q13 => ?_)
     ·
      try simp only [Z1, Z2, Z3, Z4, Z5, Z6, Z7, Z8, Z9, Z0] at q13
      first | contradiction | (exfalso; omega) | (exfalso; simp_all; done)
     ·
      try simp only [Z1, Z2, Z3, Z4, Z5, Z6, Z7, Z8, Z9, Z0] at q13
      refine WC.tailM (pl := [_]) (ql := [_, _, _, _, _, _, _, _, _, _, _, _, _, _, _]) (tl := [_, _, _, _]) [0] [1, 2, 3, 4, 5, 6, 7, 8, 9, 10, 11, 12, 13, 14, 15] 16 [17, 18, 19] (by kernel_rfl) (by kernel_rfl) (by kernel_rfl) (by kernel_rfl) (by kernel_rfl) (by kernel_rfl) (by decide) rfl rfl rfl (by decide) (by repeat (first | with_reducible exact QOk.body | with_reducible apply QOk.then | with_reducible apply QOk.block | exact QOk.body | apply QOk.then | apply QOk.block)) ?_
      refine WM.q (fun w0 => oq_move rfl) rfl rfl rfl ?_
      refine WM.nil ?_
      refine WY.q (oq_move rfl) rfl rfl rfl ?_
      refine WY.q (oq_nilCheck rfl) rfl rfl rfl ?_
      refine WY.q (oq_fieldAddr fld39_0 rfl) rfl rfl rfl ?_
      refine WY.q (oq_load flat25 rfl (.head _) (List.mem_singleton.2 rfl) rfl) rfl rfl rfl ?_
      refine WY.q (oq_move rfl) rfl rfl rfl ?_
      refine WY.q (oq_nilCheck rfl) rfl rfl rfl ?_
      refine WY.q (oq_fieldAddr fld39_1 rfl) rfl rfl rfl ?_
      refine WY.q (oq_load flat3 rfl (.head _) (List.mem_singleton.2 rfl) rfl) rfl rfl rfl ?_
      refine WY.q (oq_sliceNil Tryz.underlying25 ty5 rfl rfl) rfl rfl rfl ?_
      refine WY.q (oq_move rfl) rfl rfl rfl ?_
      refine WY.q (oq_nilCheck rfl) rfl rfl rfl ?_
      refine WY.q (oq_fieldAddr fld39_1 rfl) rfl rfl rfl ?_
      refine WY.q (oq_load flat3 rfl (.head _) (List.mem_singleton.2 rfl) rfl) rfl rfl rfl ?_
      refine WY.q (oq_move rfl) rfl rfl rfl ?_
      refine WY.q (oq_add rfl rfl (by rw [i64_lo, i64_hi]; (first | omega | (simp only [List.length_cons, List.length_nil, List.length_append, List.length_drop, List.length_take]; omega)))) rfl rfl rfl ?_
      refine WY.nil ?_
      refine WL.callA0 (growSlice none 0 n [] [] ⟨rfl, .inl ⟨rfl, _, _, rfl⟩⟩ (by simp only [List.length_nil]; omega) hn (by omega)) call105 (by rw [Int.zero_add]; rfl) rfl rfl fun v15_16 N15_16 hR15_16 hN15_16 => ?_
      obtain ⟨B2, cap2, L2, rfl, rfl, hL2, hc2, hm2, ht2⟩ := hR15_16
      have hB2 := hN15_16 _ _ (List.mem_singleton.2 rfl)
      refine WL.q (oq_nilCheck rfl) rfl rfl rfl ?_
      refine WL.q (oq_fieldAddr fld39_0 rfl) rfl rfl rfl ?_
      refine WL.f1 ?_
      refine WL.store1 #[_, _, _] ty25 rfl rfl (by first | rfl | exact OwS.one one_) (Nat.lt_of_lt_of_le (Nat.lt_succ_self _) (Nat.le_of_ble_eq_true rfl)) rfl rfl ?_
      refine WL.nil (WE.then_normal (WC.sub (fr' := [(0, _), (1, _), (5, _)]) ?_ ⟨rfl, rfl, rfl, trivial⟩))
      refine WC.seq (WC.region ?_)
      refine WL.q (oq_move rfl) rfl rfl rfl ?_
      refine WL.q (oq_nilCheck rfl) rfl rfl rfl ?_
      refine WL.q (oq_fieldAddr fld39_1 rfl) rfl rfl rfl ?_
      refine WL.store1 #[_, _, _] ty3 rfl rfl (by first | rfl | exact OwS.one one_) (Nat.lt_of_lt_of_le (Nat.lt_succ_self _) (Nat.le_of_ble_eq_true rfl)) rfl rfl ?_
      refine WL.nil (WE.then_normal (WC.sub (fr' := [(0, _), (1, _), (5, _)]) ?_ ⟨rfl, rfl, rfl, trivial⟩))
      refine WC.seq (WC.region ?_)
      refine WL.q (oq_move rfl) rfl rfl rfl ?_
      refine WL.q (oq_move rfl) rfl rfl rfl ?_
      refine WL.q (oq_nilCheck rfl) rfl rfl rfl ?_
      refine WL.q (oq_fieldAddr fld39_0 rfl) rfl rfl rfl ?_
      refine WL.q (oq_load flat25 rfl (.head _) (List.mem_singleton.2 rfl) rfl) rfl rfl rfl ?_
      refine WL.q (oq_move rfl) rfl rfl rfl ?_
      refine WL.q (oq_move rfl) rfl rfl rfl ?_
      refine WL.q (oq_add rfl rfl (by rw [i64_lo, i64_hi]; (first | omega | (simp only [List.length_cons, List.length_nil, List.length_append, List.length_drop, List.length_take]; omega)))) rfl rfl rfl ?_
      refine WL.q (oq_sliceSl (j := (0 + n)) Tryz.underlying25 ty5 rfl (by (first | omega | (simp only [List.length_nil]; omega))) rfl ⟨_, rfl⟩ (by (first | omega | (simp only [List.length_nil]; omega))) (by (first | omega | (simp only [List.length_nil]; omega)))) rfl rfl rfl ?_
      refine WL.q (oq_nilCheck rfl) rfl rfl rfl ?_
      refine WL.q (oq_fieldAddr fld39_0 rfl) rfl rfl rfl ?_
      refine WL.store1 #[_, _, _] ty25 rfl rfl (by first | rfl | exact OwS.one one_) (Nat.lt_of_lt_of_le (Nat.lt_succ_self _) (Nat.le_of_ble_eq_true rfl)) rfl rfl ?_
      refine WL.nil (WE.then_normal (WC.sub (fr' := [(5, _)]) ?_ ⟨rfl, trivial⟩))
      refine WC.seq (WC.region ?_)
      refine WL.q (oq_move rfl) rfl rfl rfl ?_
      refine WL.q (oq_assign rfl) rfl rfl rfl ?_
      refine WL.nil (WE.then_normal (WC.sub (fr' := [(4, _)]) ?_ ⟨rfl, trivial⟩))
      refine WC.ret ?_
      refine WE.endW2 (.inl rfl) (res1 Tryz.results103 rfl) ?_
      refine ⟨B2, cap2, L2, rfl, ?_, hB2, hL2, hc2, hm2, ht2⟩
      rw [List.length_nil, Nat.zero_add, Nat.zero_add]; rfl
theorem grow1 (base bb B cap n : Nat) (lr : Int) (L acc : List UInt8) (hB : base ≤ B) (hLc : L.length = cap) (hac : acc.length ≤ cap) (hc0 : 0 < cap) (hmx : cap ≤ maxLen) (hLt : L.take acc.length = acc) (hn : 0 < n) (hal : acc.length + n ≤ 140737488355328) : FnW Tryz.prog 103 [Pt bb 0, I (n : Int)] base [[(bb, .cells #[Sl B 0 acc.length cap, I 0, .int .i8 lr] 39 (0, 0))], Bf B 5 L] (Grown n base bb lr acc) := by
 have hmy : maxLen ≤ 9223372036854775807 := by unfold maxLen; omega
 have hrd : RdS 1 (Sl B 0 acc.length cap) (Bf B 5 L) acc.length (bytesV acc) := by have := Sl.rd (b := B) (off := 0) (n := acc.length) (c := cap) (e := 5) (l := L) (by omega) hac; rw [List.drop_zero, hLt] at this; exact this
 refine FnW.enter (n := 110) Tryz.func103 rfl rfl fun w0 R0 hbase => ?_
 subst hbase
 show WC _ _ _ _ _ _ _ ([[(bb, .cells #[Sl B 0 acc.length cap, I 0, .int .i8 lr] 39 (0, 0))], Bf B 5 L, R0])
 refine WC.sub (fr' := [(0, _), (1, _)]) ?_ ⟨rfl, rfl, trivial⟩
 refine WC.seq (WC.region ?_)
 refine WL.q (oq_assign rfl) rfl rfl rfl ?_
 refine WL.nil (WE.then_normal (WC.sub (fr' := [(0, _), (1, _)]) ?_ ⟨rfl, rfl, trivial⟩))
 refine WC.seq (WC.region ?_)
 refine WL.q (oq_move rfl) rfl rfl rfl ?_
 refine WL.qc (oq_callRm (bufLen bb acc.length cap (some ⟨B, 0, none⟩) lr (by omega)) (.head _) call27 rfl) rfl rfl rfl ?_
 refine WL.q (oq_assign rfl) rfl rfl rfl ?_
 refine WL.nil (WE.then_normal (WC.sub (fr' := [(0, _), (1, _), (5, _)]) ?_ ⟨rfl, rfl, rfl, trivial⟩))
 refine WC.cut (ι := Unit) (fun _ => [(0, Pt bb 0), (1, I (n : Int)), (5, I (acc.length : Int))]) (fun _ => [[(bb, .cells #[Sl B 0 acc.length cap, I 0, .int .i8 lr] 39 (0, 0))], Bf B 5 L, R0]) (fun _ => True) ?_ ?_
 ·
  refine WC.seq (WC.region ?_)
  refine WL.q (oq_move rfl) rfl rfl rfl ?_
  refine WL.q (oq_eql rfl rfl) rfl rfl rfl ?_
  refine WL.q (oq_move rfl) rfl rfl rfl ?_
  refine WL.split 13 rfl (fun s2_2 => ?_) (fun s2_2 => ?_)
  ·
   try simp only [Z1, Z2, Z3, Z4, Z5, Z6, Z7, Z8, Z9, Z0] at s2_2
   refine WL.q (oq_move rfl) rfl rfl rfl ?_
   refine WL.q (oq_nilCheck rfl) rfl rfl rfl ?_
   refine WL.q (oq_fieldAddr fld39_1 rfl) rfl rfl rfl ?_
   refine WL.q (oq_load flat3 rfl (.head _) (List.mem_singleton.2 rfl) rfl) rfl rfl rfl ?_
   refine WL.q (oq_neq rfl rfl) rfl rfl rfl ?_
   refine WL.q (oq_pick_t rfl rfl) rfl rfl rfl ?_
   refine WL.nil (WE.then_normal (WC.sub (fr' := [(0, _), (1, _), (5, _), (19, _)]) ?_ ⟨rfl, rfl, rfl, rfl, trivial⟩))
   refine WC.cond rfl (fun q2 => ?_) (fun q2 => ?_)
   ·
    try simp only [Z1, Z2, Z3, Z4, Z5, Z6, Z7, Z8, Z9, Z0] at q2
    first | contradiction | (exfalso; omega) | (exfalso; simp_all; done)
   ·
    try simp only [Z1, Z2, Z3, Z4, Z5, Z6, Z7, Z8, Z9, Z0] at q2
    refine WC.skip ?_
    refine WE.meet () ?_ ⟨rfl, rfl, rfl, trivial⟩ (List.Perm.refl _)
    try dsimp only
    all_goals trivial
  ·
   try simp only [Z1, Z2, Z3, Z4, Z5, Z6, Z7, Z8, Z9, Z0] at s2_2
   refine WL.skip rfl rfl rfl ?_
   refine WL.skip rfl rfl rfl ?_
   refine WL.skip rfl rfl rfl ?_
   refine WL.skip rfl rfl rfl ?_
   refine WL.skip rfl rfl rfl ?_
   refine WL.q (oq_pick_f rfl rfl) rfl rfl rfl ?_
   refine WL.nil (WE.then_normal (WC.sub (fr' := [(0, _), (1, _), (5, _), (19, _)]) ?_ ⟨rfl, rfl, rfl, rfl, trivial⟩))
   refine WC.cond_f rfl ?_
   refine WC.skip ?_
   refine WE.meet () ?_ ⟨rfl, rfl, rfl, trivial⟩ (List.Perm.refl _)
   try dsimp only
   all_goals trivial
 ·rintro _ hp
  try dsimp only at hp
  show WC _ _ _ _ _ _ ([(0, Pt bb 0), (1, I (n : Int)), (5, I (acc.length : Int))]) ([[(bb, .cells #[Sl B 0 acc.length cap, I 0, .int .i8 lr] 39 (0, 0))], Bf B 5 L, R0])
  refine WC.seq (WC.seq (WC.region ?_))
  refine WL.q (oq_move rfl) rfl rfl rfl ?_
  refine WL.q (oq_move rfl) rfl rfl rfl ?_
  refine WL.callW1 (tryGrow1 _ bb B acc.length cap n lr hac (by omega) hmx hc0) call104 rfl rfl rfl fun v4_2 Hs4_2 hR4_2 => ?_
  obtain ⟨rfl, rfl⟩ := hR4_2
  refine WL.to1 ?_
  refine WL.q (oq_move rfl) rfl rfl rfl ?_
  refine WL.q (oq_extract rfl rfl) rfl rfl rfl ?_
  refine WL.q (oq_extract rfl rfl) rfl rfl rfl ?_
  refine WL.q (oq_assign rfl) rfl rfl rfl ?_
  refine WL.q (oq_assign rfl) rfl rfl rfl ?_
  refine WL.nil (WE.then_normal (WC.sub (fr' := [(0, _), (1, _), (5, _), (6, _), (7, _)]) ?_ ⟨rfl, rfl, rfl, rfl, rfl, trivial⟩))
  refine WC.seq (WC.region ?_)
  refine WL.q (oq_move rfl) rfl rfl rfl ?_
  refine WL.nil (WE.then_normal (WC.sub (fr' := [(0, _), (1, _), (5, _), (6, _), (28, _)]) ?_ ⟨rfl, rfl, rfl, rfl, rfl, trivial⟩))
  refine WC.cond rfl (fun q5 => ?_) (fun q5 => ?_)
  ·
   try simp only [Z1, Z2, Z3, Z4, Z5, Z6, Z7, Z8, Z9, Z0] at q5
   refine WC.seq (WC.region ?_)
   refine WL.q (oq_move rfl) rfl rfl rfl ?_
   refine WL.q (oq_assign rfl) rfl rfl rfl ?_
   refine WL.nil (WE.then_normal (WC.sub (fr' := [(4, _)]) ?_ ⟨rfl, trivial⟩))
   refine WC.ret (WE.then_ret ?_)
   refine WE.endW2 (.inl rfl) (res1 Tryz.results103 rfl) ?_
   rw [if_pos (by omega), if_pos (by omega)]
   exact ⟨B, cap, L, rfl, rfl, hB, hLc, by omega, hmx, hLt⟩
  ·
   try simp only [Z1, Z2, Z3, Z4, Z5, Z6, Z7, Z8, Z9, Z0] at q5
   refine WC.skip (WE.then_normal (WC.sub (fr' := [(0, _), (1, _), (5, _)]) ?_ ⟨rfl, rfl, rfl, trivial⟩))
   refine WC.seq (WC.seq ?_)
   rw [if_neg (show ¬ (acc.length + n ≤ cap) by omega)]
   refine WC.region ?_
   refine WL.q (oq_move rfl) rfl rfl rfl ?_
   refine WL.q (oq_nilCheck rfl) rfl rfl rfl ?_
   refine WL.q (oq_fieldAddr fld39_0 rfl) rfl rfl rfl ?_
   refine WL.q (oq_load flat25 rfl (.head _) (List.mem_singleton.2 rfl) rfl) rfl rfl rfl ?_
   refine WL.q (oq_sleql Tryz.underlying25 rfl rfl) rfl rfl rfl ?_
   refine WL.q (oq_move rfl) rfl rfl rfl ?_
   refine WL.split 35 rfl (fun s7_5 => ?_) (fun s7_5 => ?_)
   ·
    try simp only [Z1, Z2, Z3, Z4, Z5, Z6, Z7, Z8, Z9, Z0] at s7_5
    refine WL.q (oq_move rfl) rfl rfl rfl ?_
    refine WL.q (oq_leq rfl rfl) rfl rfl rfl ?_
    refine WL.q (oq_pick_t rfl rfl) rfl rfl rfl ?_
    refine WL.nil (WE.then_normal (WC.sub (fr' := [(0, _), (1, _), (5, _), (38, _)]) ?_ ⟨rfl, rfl, rfl, rfl, trivial⟩))
    refine WC.cond rfl (fun q7 => ?_) (fun q7 => ?_)
    ·
     try simp only [Z1, Z2, Z3, Z4, Z5, Z6, Z7, Z8, Z9, Z0] at q7
     refine WC.seq ?_
     first | contradiction | (exfalso; omega) | (exfalso; simp_all; done)
    ·
     try simp only [Z1, Z2, Z3, Z4, Z5, Z6, Z7, Z8, Z9, Z0] at q7
     refine WC.skip (WE.then_normal (WC.sub (fr' := [(0, _), (1, _), (5, _)]) ?_ ⟨rfl, rfl, rfl, trivial⟩))
     refine WC.seq (WC.region ?_)
     refine WL.q (oq_move rfl) rfl rfl rfl ?_
     refine WL.q (oq_nilCheck rfl) rfl rfl rfl ?_
     refine WL.q (oq_fieldAddr fld39_0 rfl) rfl rfl rfl ?_
     refine WL.q (oq_load flat25 rfl (.head _) (List.mem_singleton.2 rfl) rfl) rfl rfl rfl ?_
     refine WL.q (oq_cap_sl Tryz.underlying25 rfl) rfl rfl rfl ?_
     refine WL.q (oq_assign rfl) rfl rfl rfl ?_
     refine WL.nil (WE.then_normal (WC.sub (fr' := [(0, _), (1, _), (5, _), (8, _)]) ?_ ⟨rfl, rfl, rfl, rfl, trivial⟩))
     refine WC.seq (WC.seq (WC.region ?_))
     refine WL.q (oq_move rfl) rfl rfl rfl ?_
     refine WL.q (oq_move rfl) rfl rfl rfl ?_
     refine WL.q (oq_quo rfl rfl (by rw [i64_hi]; omega)) rfl rfl rfl ?_
     refine WL.q (oq_move rfl) rfl rfl rfl ?_
     refine WL.q (oq_sub rfl rfl (by rw [i64_lo, i64_hi]; (first | omega | (simp only [List.length_cons, List.length_nil, List.length_append, List.length_drop, List.length_take]; omega)))) rfl rfl rfl ?_
     refine WL.q (oq_leq rfl rfl) rfl rfl rfl ?_
     refine WL.nil (WE.then_normal (WC.sub (fr' := [(0, _), (1, _), (5, _), (8, _), (54, _)]) ?_ ⟨rfl, rfl, rfl, rfl, rfl, trivial⟩))
     refine WC.cond rfl (fun q11 => ?_) (fun q11 => ?_)
     ·
      try simp only [Z1, Z2, Z3, Z4, Z5, Z6, Z7, Z8, Z9, Z0] at q11
      first | contradiction | (exfalso; omega) | (exfalso; simp_all; done)
     ·
      try simp only [Z1, Z2, Z3, Z4, Z5, Z6, Z7, Z8, Z9, Z0] at q11
      refine WC.seq (WC.region ?_)
      refine WL.q (oq_move rfl) rfl rfl rfl ?_
      refine WL.q (oq_move rfl) rfl rfl rfl ?_
      refine WL.q (oq_sub rfl rfl (by rw [i64_lo, i64_hi]; (first | omega | (simp only [List.length_cons, List.length_nil, List.length_append, List.length_drop, List.length_take]; omega)))) rfl rfl rfl ?_
      refine WL.q (oq_move rfl) rfl rfl rfl ?_
      refine WL.q (oq_sub rfl rfl (by rw [i64_lo, i64_hi]; (first | omega | (simp only [List.length_cons, List.length_nil, List.length_append, List.length_drop, List.length_take]; omega)))) rfl rfl rfl ?_
      refine WL.q (oq_gtr rfl rfl) rfl rfl rfl ?_
      refine WL.nil (WE.then_normal (WC.sub (fr' := [(0, _), (1, _), (5, _), (74, _)]) ?_ ⟨rfl, rfl, rfl, rfl, trivial⟩))
      refine WC.cond rfl (fun q13 => ?_) (fun q13 => ?_)
      ·
       try simp only [Z1, Z2, Z3, Z4, Z5, Z6, Z7, Z8, Z9, Z0] at q13
       first | contradiction | (exfalso; omega) | (exfalso; simp_all; done)
      ·
       try simp only [Z1, Z2, Z3, Z4, Z5, Z6, Z7, Z8, Z9, Z0] at q13
       refine WC.tailM (pl := [_]) (ql := [_, _, _, _, _, _, _, _, _, _, _, _, _, _, _]) (tl := [_, _, _, _]) [0] [1, 2, 3, 4, 5, 6, 7, 8, 9, 10, 11, 12, 13, 14, 15] 16 [17, 18, 19] (by kernel_rfl) (by kernel_rfl) (by kernel_rfl) (by kernel_rfl) (by kernel_rfl) (by kernel_rfl) (by decide) rfl rfl rfl (by decide) (by repeat (first | with_reducible exact QOk.body | with_reducible apply QOk.then | with_reducible apply QOk.block | exact QOk.body | apply QOk.then | apply QOk.block)) ?_
       refine WM.q (fun w0 => oq_move rfl) rfl rfl rfl ?_
       refine WM.nil ?_
       refine WY.q (oq_move rfl) rfl rfl rfl ?_
       refine WY.q (oq_nilCheck rfl) rfl rfl rfl ?_
       refine WY.q (oq_fieldAddr fld39_0 rfl) rfl rfl rfl ?_
       refine WY.q (oq_load flat25 rfl (.head _) (List.mem_singleton.2 rfl) rfl) rfl rfl rfl ?_
       refine WY.q (oq_move rfl) rfl rfl rfl ?_
       refine WY.q (oq_nilCheck rfl) rfl rfl rfl ?_
       refine WY.q (oq_fieldAddr fld39_1 rfl) rfl rfl rfl ?_
       refine WY.q (oq_load flat3 rfl (.head _) (List.mem_singleton.2 rfl) rfl) rfl rfl rfl ?_
       refine WY.q (oq_sliceSl (i := 0) Tryz.underlying25 ty5 rfl (by omega) ⟨_, rfl⟩ rfl (by omega) (by omega)) rfl rfl rfl ?_
       refine WY.q (oq_move rfl) rfl rfl rfl ?_
       refine WY.q (oq_nilCheck rfl) rfl rfl rfl ?_
       refine WY.q (oq_fieldAddr fld39_1 rfl) rfl rfl rfl ?_
       refine WY.q (oq_load flat3 rfl (.head _) (List.mem_singleton.2 rfl) rfl) rfl rfl rfl ?_
       refine WY.q (oq_move rfl) rfl rfl rfl ?_
       refine WY.q (oq_add rfl rfl (by rw [i64_lo, i64_hi]; (first | omega | (simp only [List.length_cons, List.length_nil, List.length_append, List.length_drop, List.length_take]; omega)))) rfl rfl rfl ?_
       refine WY.nil ?_
       refine WL.f1 ?_
       refine WL.callA (growSlice (some ⟨B, 0, none⟩) cap n (Bf B 5 L) acc hrd (by omega) hn (by omega)) call105 (by rw [Int.zero_add]; rfl) rfl rfl fun v15_16 N15_16 hR15_16 hN15_16 => ?_
       obtain ⟨B2, cap2, L2, rfl, rfl, hL2, hc2, hm2, ht2⟩ := hR15_16
       have hB2 := hN15_16 _ _ (List.mem_singleton.2 rfl)
       refine WL.q (oq_nilCheck rfl) rfl rfl rfl ?_
       refine WL.q (oq_fieldAddr fld39_0 rfl) rfl rfl rfl ?_
       refine WL.f2 ?_
       refine WL.store1 #[_, _, _] ty25 rfl rfl (by first | rfl | exact OwS.one one_) (Nat.lt_of_lt_of_le (Nat.lt_succ_self _) (Nat.le_of_ble_eq_true rfl)) rfl rfl ?_
       refine WL.nil (WE.then_normal (WC.sub (fr' := [(0, _), (1, _), (5, _)]) ?_ ⟨rfl, rfl, rfl, trivial⟩))
       refine WC.seq (WC.region ?_)
       refine WL.q (oq_move rfl) rfl rfl rfl ?_
       refine WL.q (oq_nilCheck rfl) rfl rfl rfl ?_
       refine WL.q (oq_fieldAddr fld39_1 rfl) rfl rfl rfl ?_
       refine WL.store1 #[_, _, _] ty3 rfl rfl (by first | rfl | exact OwS.one one_) (Nat.lt_of_lt_of_le (Nat.lt_succ_self _) (Nat.le_of_ble_eq_true rfl)) rfl rfl ?_
       refine WL.nil (WE.then_normal (WC.sub (fr' := [(0, _), (1, _), (5, _)]) ?_ ⟨rfl, rfl, rfl, trivial⟩))
       refine WC.seq (WC.region ?_)
       refine WL.q (oq_move rfl) rfl rfl rfl ?_
       refine WL.q (oq_move rfl) rfl rfl rfl ?_
       refine WL.q (oq_nilCheck rfl) rfl rfl rfl ?_
       refine WL.q (oq_fieldAddr fld39_0 rfl) rfl rfl rfl ?_
       refine WL.q (oq_load flat25 rfl (.head _) (List.mem_singleton.2 rfl) rfl) rfl rfl rfl ?_
       refine WL.q (oq_move rfl) rfl rfl rfl ?_
       refine WL.q (oq_move rfl) rfl rfl rfl ?_
       refine WL.q (oq_add rfl rfl (by rw [i64_lo, i64_hi]; (first | omega | (simp only [List.length_cons, List.length_nil, List.length_append, List.length_drop, List.length_take]; omega)))) rfl rfl rfl ?_
       refine WL.q (oq_sliceSl (j := (acc.length + n)) Tryz.underlying25 ty5 rfl (by omega) rfl ⟨_, rfl⟩ (by omega) (by omega)) rfl rfl rfl ?_
       refine WL.q (oq_nilCheck rfl) rfl rfl rfl ?_
       refine WL.q (oq_fieldAddr fld39_0 rfl) rfl rfl rfl ?_
       refine WL.store1 #[_, _, _] ty25 rfl rfl (by first | rfl | exact OwS.one one_) (Nat.lt_of_lt_of_le (Nat.lt_succ_self _) (Nat.le_of_ble_eq_true rfl)) rfl rfl ?_
       refine WL.nil (WE.then_normal (WC.sub (fr' := [(5, _)]) ?_ ⟨rfl, trivial⟩))
       refine WC.seq (WC.region ?_)
       refine WL.q (oq_move rfl) rfl rfl rfl ?_
       refine WL.q (oq_assign rfl) rfl rfl rfl ?_
       refine WL.nil (WE.then_normal (WC.sub (fr' := [(4, _)]) ?_ ⟨rfl, trivial⟩))
       refine WC.ret ?_
       refine WE.f2 ?_
       refine WE.lose hB ?_
       refine WE.endW2 (.inl rfl) (res1 Tryz.results103 rfl) ?_
       exact ⟨B2, cap2, L2, rfl, rfl, hB2, hL2, hc2, hm2, ht2⟩
   ·
    try simp only [Z1, Z2, Z3, Z4, Z5, Z6, Z7, Z8, Z9, Z0] at s7_5
    refine WL.skip rfl rfl rfl ?_
    refine WL.skip rfl rfl rfl ?_
    refine WL.q (oq_pick_f rfl rfl) rfl rfl rfl ?_
    refine WL.nil (WE.then_normal (WC.sub (fr' := [(0, _), (1, _), (5, _), (38, _)]) ?_ ⟨rfl, rfl, rfl, rfl, trivial⟩))
    refine WC.cond_f rfl ?_
    refine WC.skip (WE.then_normal (WC.sub (fr' := [(0, _), (1, _), (5, _)]) ?_ ⟨rfl, rfl, rfl, trivial⟩))
    refine WC.seq (WC.region ?_)
    refine WL.q (oq_move rfl) rfl rfl rfl ?_
    refine WL.q (oq_nilCheck rfl) rfl rfl rfl ?_
    refine WL.q (oq_fieldAddr fld39_0 rfl) rfl rfl rfl ?_
    refine WL.q (oq_load flat25 rfl (.head _) (List.mem_singleton.2 rfl) rfl) rfl rfl rfl ?_
    refine WL.q (oq_cap_sl Tryz.underlying25 rfl) rfl rfl rfl ?_
    refine WL.q (oq_assign rfl) rfl rfl rfl ?_
    refine WL.nil (WE.then_normal (WC.sub (fr' := [(0, _), (1, _), (5, _), (8, _)]) ?_ ⟨rfl, rfl, rfl, rfl, trivial⟩))
    refine WC.seq (WC.seq (WC.region ?_))
    refine WL.q (oq_move rfl) rfl rfl rfl ?_
    refine WL.q (oq_move rfl) rfl rfl rfl ?_
    refine WL.q (oq_quo rfl rfl (by rw [i64_hi]; omega)) rfl rfl rfl ?_
    refine WL.q (oq_move rfl) rfl rfl rfl ?_
    refine WL.q (oq_sub rfl rfl (by rw [i64_lo, i64_hi]; (first | omega | (simp only [List.length_cons, List.length_nil, List.length_append, List.length_drop, List.length_take]; omega)))) rfl rfl rfl ?_
    refine WL.q (oq_leq rfl rfl) rfl rfl rfl ?_
    refine WL.nil (WE.then_normal (WC.sub (fr' := [(0, _), (1, _), (5, _), (8, _), (54, _)]) ?_ ⟨rfl, rfl, rfl, rfl, rfl, trivial⟩))
    refine WC.cond rfl (fun q11 => ?_) (fun q11 => ?_)
    ·
     try simp only [Z1, Z2, Z3, Z4, Z5, Z6, Z7, Z8, Z9, Z0] at q11
     first | contradiction | (exfalso; omega) | (exfalso; simp_all; done)
    ·
     try simp only [Z1, Z2, Z3, Z4, Z5, Z6, Z7, Z8, Z9, Z0] at q11
     refine WC.seq (WC.region ?_)
     refine WL.q (oq_move rfl) rfl rfl rfl ?_
     refine WL.q (oq_move rfl) rfl rfl rfl ?_
     refine WL.q (oq_sub rfl rfl (by rw [i64_lo, i64_hi]; (first | omega | (simp only [List.length_cons, List.length_nil, List.length_append, List.length_drop, List.length_take]; omega)))) rfl rfl rfl ?_
     refine WL.q (oq_move rfl) rfl rfl rfl ?_
     refine WL.q (oq_sub rfl rfl (by rw [i64_lo, i64_hi]; (first | omega | (simp only [List.length_cons, List.length_nil, List.length_append, List.length_drop, List.length_take]; omega)))) rfl rfl rfl ?_
     refine WL.q (oq_gtr rfl rfl) rfl rfl rfl ?_
     refine WL.nil (WE.then_normal (WC.sub (fr' := [(0, _), (1, _), (5, _), (74, _)]) ?_ ⟨rfl, rfl, rfl, rfl, trivial⟩))
     refine WC.cond rfl (fun q13 => ?_) (fun q13 => ?_)
     ·
      try simp only [Z1, Z2, Z3, Z4, Z5, Z6, Z7, Z8, Z9, Z0] at q13
      first | contradiction | (exfalso; omega) | (exfalso; simp_all; done)
     ·
      try simp only [Z1, Z2, Z3, Z4, Z5, Z6, Z7, Z8, Z9, Z0] at q13
      refine WC.tailM (pl := [_]) (ql := [_, _, _, _, _, _, _, _, _, _, _, _, _, _, _]) (tl := [_, _, _, _]) [0] [1, 2, 3, 4, 5, 6, 7, 8, 9, 10, 11, 12, 13, 14, 15] 16 [17, 18, 19] (by kernel_rfl) (by kernel_rfl) (by kernel_rfl) (by kernel_rfl) (by kernel_rfl) (by kernel_rfl) (by decide) rfl rfl rfl (by decide) (by repeat (first | with_reducible exact QOk.body | with_reducible apply QOk.then | with_reducible apply QOk.block | exact QOk.body | apply QOk.then | apply QOk.block)) ?_
      refine WM.q (fun w0 => oq_move rfl) rfl rfl rfl ?_
      refine WM.nil ?_
      refine WY.q (oq_move rfl) rfl rfl rfl ?_
      refine WY.q (oq_nilCheck rfl) rfl rfl rfl ?_
      refine WY.q (oq_fieldAddr fld39_0 rfl) rfl rfl rfl ?_
      refine WY.q (oq_load flat25 rfl (.head _) (List.mem_singleton.2 rfl) rfl) rfl rfl rfl ?_
      refine WY.q (oq_move rfl) rfl rfl rfl ?_
      refine WY.q (oq_nilCheck rfl) rfl rfl rfl ?_
      refine WY.q (oq_fieldAddr fld39_1 rfl) rfl rfl rfl ?_
      refine WY.q (oq_load flat3 rfl (.head _) (List.mem_singleton.2 rfl) rfl) rfl rfl rfl ?_
      refine WY.q (oq_sliceSl (i := 0) Tryz.underlying25 ty5 rfl (by omega) ⟨_, rfl⟩ rfl (by omega) (by omega)) rfl rfl rfl ?_
      refine WY.q (oq_move rfl) rfl rfl rfl ?_
      refine WY.q (oq_nilCheck rfl) rfl rfl rfl ?_
      refine WY.q (oq_fieldAddr fld39_1 rfl) rfl rfl rfl ?_
      refine WY.q (oq_load flat3 rfl (.head _) (List.mem_singleton.2 rfl) rfl) rfl rfl rfl ?_
      refine WY.q (oq_move rfl) rfl rfl rfl ?_
      refine WY.q (oq_add rfl rfl (by rw [i64_lo, i64_hi]; (first | omega | (simp only [List.length_cons, List.length_nil, List.length_append, List.length_drop, List.length_take]; omega)))) rfl rfl rfl ?_
      refine WY.nil ?_
      refine WL.f1 ?_
      refine WL.callA (growSlice (some ⟨B, 0, none⟩) cap n (Bf B 5 L) acc hrd (by omega) hn (by omega)) call105 (by rw [Int.zero_add]; rfl) rfl rfl fun v15_16 N15_16 hR15_16 hN15_16 => ?_
      obtain ⟨B2, cap2, L2, rfl, rfl, hL2, hc2, hm2, ht2⟩ := hR15_16
      have hB2 := hN15_16 _ _ (List.mem_singleton.2 rfl)
      refine WL.q (oq_nilCheck rfl) rfl rfl rfl ?_
      refine WL.q (oq_fieldAddr fld39_0 rfl) rfl rfl rfl ?_
      refine WL.f2 ?_
      refine WL.store1 #[_, _, _] ty25 rfl rfl (by first | rfl | exact OwS.one one_) (Nat.lt_of_lt_of_le (Nat.lt_succ_self _) (Nat.le_of_ble_eq_true rfl)) rfl rfl ?_
      refine WL.nil (WE.then_normal (WC.sub (fr' := [(0, _), (1, _), (5, _)]) ?_ ⟨rfl, rfl, rfl, trivial⟩))
      refine WC.seq (WC.region ?_)
      refine WL.q (oq_move rfl) rfl rfl rfl ?_
      refine WL.q (oq_nilCheck rfl) rfl rfl rfl ?_
      refine WL.q (oq_fieldAddr fld39_1 rfl) rfl rfl rfl ?_
      refine WL.store1 #[_, _, _] ty3 rfl rfl (by first | rfl | exact OwS.one one_) (Nat.lt_of_lt_of_le (Nat.lt_succ_self _) (Nat.le_of_ble_eq_true rfl)) rfl rfl ?_
      refine WL.nil (WE.then_normal (WC.sub (fr' := [(0, _), (1, _), (5, _)]) ?_ ⟨rfl, rfl, rfl, trivial⟩))
      refine WC.seq (WC.region ?_)
      refine WL.q (oq_move rfl) rfl rfl rfl ?_
      refine WL.q (oq_move rfl) rfl rfl rfl ?_
      refine WL.q (oq_nilCheck rfl) rfl rfl rfl ?_
      refine WL.q (oq_fieldAddr fld39_0 rfl) rfl rfl rfl ?_
      refine WL.q (oq_load flat25 rfl (.head _) (List.mem_singleton.2 rfl) rfl) rfl rfl rfl ?_
      refine WL.q (oq_move rfl) rfl rfl rfl ?_
      refine WL.q (oq_move rfl) rfl rfl rfl ?_
      refine WL.q (oq_add rfl rfl (by rw [i64_lo, i64_hi]; (first | omega | (simp only [List.length_cons, List.length_nil, List.length_append, List.length_drop, List.length_take]; omega)))) rfl rfl rfl ?_
      refine WL.q (oq_sliceSl (j := (acc.length + n)) Tryz.underlying25 ty5 rfl (by omega) rfl ⟨_, rfl⟩ (by omega) (by omega)) rfl rfl rfl ?_
      refine WL.q (oq_nilCheck rfl) rfl rfl rfl ?_
      refine WL.q (oq_fieldAddr fld39_0 rfl) rfl rfl rfl ?_
      refine WL.store1 #[_, _, _] ty25 rfl rfl (by first | rfl | exact OwS.one one_) (Nat.lt_of_lt_of_le (Nat.lt_succ_self _) (Nat.le_of_ble_eq_true rfl)) rfl rfl ?_
      refine WL.nil (WE.then_normal (WC.sub (fr' := [(5, _)]) ?_ ⟨rfl, trivial⟩))
      refine WC.seq (WC.region ?_)
      refine WL.q (oq_move rfl) rfl rfl rfl ?_
      refine WL.q (oq_assign rfl) rfl rfl rfl ?_
      refine WL.nil (WE.then_normal (WC.sub (fr' := [(4, _)]) ?_ ⟨rfl, trivial⟩))
      refine WC.ret ?_
      refine WE.f2 ?_
      refine WE.lose hB ?_
      refine WE.endW2 (.inl rfl) (res1 Tryz.results103 rfl) ?_
      exact ⟨B2, cap2, L2, rfl, rfl, hB2, hL2, hc2, hm2, ht2⟩
end EA
end Go.Proofs.YtpjeiimlglgklaaGreatDoor
/- Writing into a buffer of bytes. -/
namespace Go.Proofs.YtpjeiimlglgklaaGreatDoor
open Go Go.RowKit V EA
set_option linter.unusedSimpArgs false
set_option linter.unusedVariables false
set_option maxRecDepth 10000
namespace EB
theorem call103 : Callable Tryz.prog 103 := ⟨_, Tryz.func103, rfl, by kernel_rfl⟩
theorem call104 : Callable Tryz.prog 104 := ⟨_, Tryz.func104, rfl, by kernel_rfl⟩
theorem flat25 : Flat Tryz.prog 25 := ⟨_, Tryz.underlying25, by simp⟩
theorem ty5 : Ty Tryz.prog 5 (.int .u8 0) 1 1 := ty_of (by kernel_rfl)
theorem ty25 : Ty Tryz.prog 25 (.slice none 0 0) 1 24 := ty_of (by kernel_rfl)
theorem ty37 : Ty Tryz.prog 37 (.int .i8 0) 1 1 := ty_of (by kernel_rfl)
theorem fld39_0 : Fld Tryz.prog 39 0 0 25 := fld_of Tryz.underlying39 rfl rfl rfl ty25 (by decide)
theorem fld39_2 : Fld Tryz.prog 39 2 2 37 := fld_of Tryz.underlying39 rfl rfl rfl ty37 (by decide)
theorem tryYes (base bb B len cap n : Nat) (lr : Int) (hlc : len ≤ cap) (hl : len + n ≤ 140737488355328) (hmx : cap ≤ maxLen) (h0 : 0 < cap) (hf : len + n ≤ cap) : FnW Tryz.prog 104 [Pt bb 0, I (n : Int)] base [BB bb (Sl B 0 len cap) lr] (fun w Hs => w = .tuple #[I (len : Int), .bool true] ∧ Hs = [BB bb (Sl B 0 (len + n) cap) lr]) := by
 refine (tryGrow1 base bb B len cap n lr hlc hl hmx h0).mono ?_
 rintro v Hs ⟨rfl, rfl⟩
 rw [if_pos hf, if_pos hf, decide_eq_true hf]
 exact ⟨rfl, rfl⟩
theorem tryNo (base bb B len cap n : Nat) (lr : Int) (hlc : len ≤ cap) (hl : len + n ≤ 140737488355328) (hmx : cap ≤ maxLen) (h0 : 0 < cap) (hf : ¬ len + n ≤ cap) : FnW Tryz.prog 104 [Pt bb 0, I (n : Int)] base [BB bb (Sl B 0 len cap) lr] (fun w Hs => w = .tuple #[I 0, .bool false] ∧ Hs = [BB bb (Sl B 0 len cap) lr]) := by
 refine (tryGrow1 base bb B len cap n lr hlc hl hmx h0).mono ?_
 rintro v Hs ⟨rfl, rfl⟩
 rw [if_neg hf, if_neg hf, decide_eq_false hf]
 exact ⟨rfl, rfl⟩
def Wrote (base bb : Nat) (acc data : List UInt8) (C : List Hp) (w : Value) (Hs : List Hp) : Prop :=
 ∃ v A, w = .tuple #[I (data.length : Int), .nilIface] ∧ Hs = BB bb v 0 :: A :: C ∧ Buf base v A (acc ++ data)
theorem wrote_of {base bb B cap : Nat} {acc data L : List UInt8} {C : List Hp} {k : Int} {v : Value} {A : Hp} (hB : base ≤ B) (hL : L.length = cap) (hc : acc.length + data.length ≤ cap) (h0 : 0 < cap) (hm : cap ≤ maxLen) (ht : L.take acc.length = acc)
  (hk : k = (data.length : Int)) (hv : v = Sl B 0 (acc.length + data.length) cap) (hA : A = Bf B 5 (L.take acc.length ++ data ++ L.drop (acc.length + data.length))) : Wrote base bb acc data C (.tuple #[I k, .nilIface]) (BB bb v 0 :: A :: C) := by
 subst hk hv hA
 refine ⟨_, _, rfl, rfl, .inr ⟨B, cap, _, by rw [List.length_append], rfl, hB, ?_, by rw [List.length_append]; exact hc, h0, hm, ?_⟩⟩
 ·simp; omega
 ·rw [ht, List.take_left' rfl]
theorem writeY (base bb : Nat) (lr : Int) (data : List UInt8) (B cap : Nat) (L acc : List UInt8) (hB : base ≤ B) (hLc : L.length = cap) (hac : acc.length ≤ cap) (hc0 : 0 < cap) (hmx : cap ≤ maxLen) (hLt : L.take acc.length = acc) (hal : acc.length + data.length ≤ 140737488355328) (s : Value) (C : Hp) (hr : RdS 1 s C data.length (bytesV data)) (hfit : acc.length + data.length ≤ cap) (hlc : acc.length < cap) : FnW Tryz.prog 100 [Pt bb 0, s] base [[(bb, .cells #[Sl B 0 acc.length cap, I 0, .int .i8 lr] 39 (0, 0))], Bf B 5 L, C] (Wrote base bb acc data [C]) := by
 have hmz : maxLen ≤ 9223372036854775807 := by unfold maxLen; omega
 refine FnW.enter (n := 32) Tryz.func100 rfl rfl fun w0 R0 hbase => ?_
 subst hbase
 show WC _ _ _ _ _ _ _ ([[(bb, .cells #[Sl B 0 acc.length cap, I 0, .int .i8 lr] 39 (0, 0))], Bf B 5 L, C, R0])
 refine WC.sub (fr' := [(0, _), (1, _)]) ?_ ⟨rfl, rfl, trivial⟩
 refine WC.seq (WC.region ?_)
 refine WL.q (oq_assign rfl) rfl rfl rfl ?_
 refine WL.q (oq_assign rfl) rfl rfl rfl ?_
 refine WL.nil (WE.then_normal (WC.sub (fr' := [(0, _), (1, _)]) ?_ ⟨rfl, rfl, trivial⟩))
 refine WC.seq (WC.region ?_)
 refine WL.q (oq_move rfl) rfl rfl rfl ?_
 refine WL.q (oq_nilCheck rfl) rfl rfl rfl ?_
 refine WL.q (oq_fieldAddr fld39_2 rfl) rfl rfl rfl ?_
 refine WL.store1 #[_, _, _] ty37 rfl rfl (by first | rfl | exact OwS.one one_) (Nat.lt_of_lt_of_le (Nat.lt_succ_self _) (Nat.le_of_ble_eq_true rfl)) rfl rfl ?_
 refine WL.nil (WE.then_normal (WC.sub (fr' := [(0, _), (1, _)]) ?_ ⟨rfl, rfl, trivial⟩))
 refine WC.seq (WC.region ?_)
 refine WL.q (oq_move rfl) rfl rfl rfl ?_
 refine WL.q (oq_move rfl) rfl rfl rfl ?_
 refine WL.q (oq_len_rd hr Tryz.underlying25 rfl) rfl rfl rfl ?_
 refine WL.callW1 (tryYes _ bb B acc.length cap data.length 0 hac hal hmx hc0 hfit) call104 rfl rfl rfl fun v2_3 Hs2_3 hR2_3 => ?_
 obtain ⟨rfl, rfl⟩ := hR2_3
 refine WL.to1 ?_
 refine WL.q (oq_move rfl) rfl rfl rfl ?_
 refine WL.q (oq_extract rfl rfl) rfl rfl rfl ?_
 refine WL.q (oq_extract rfl rfl) rfl rfl rfl ?_
 refine WL.q (oq_assign rfl) rfl rfl rfl ?_
 refine WL.q (oq_assign rfl) rfl rfl rfl ?_
 refine WL.nil (WE.then_normal (WC.sub (fr' := [(0, _), (1, _), (6, _), (7, _)]) ?_ ⟨rfl, rfl, rfl, rfl, trivial⟩))
 refine WC.seq (WC.seq (WC.region ?_))
 refine WL.q (oq_move rfl) rfl rfl rfl ?_
 refine WL.q (oq_not rfl) rfl rfl rfl ?_
 refine WL.nil (WE.then_normal (WC.sub (fr' := [(0, _), (1, _), (6, _), (19, _)]) ?_ ⟨rfl, rfl, rfl, rfl, trivial⟩))
 refine WC.cond rfl (fun q3 => ?_) (fun q3 => ?_)
 ·
  try simp only [Z1, Z2, Z3, Z4, Z5, Z6, Z7, Z8, Z9, Z0] at q3
  first | contradiction | (exfalso; omega) | (exfalso; simp_all; done)
 ·
  try simp only [Z1, Z2, Z3, Z4, Z5, Z6, Z7, Z8, Z9, Z0] at q3
  refine WC.skip (WE.then_normal (WC.sub (fr' := [(0, _), (1, _), (6, _)]) ?_ ⟨rfl, rfl, rfl, trivial⟩))
  refine WC.seq (WC.region ?_)
  refine WL.q (oq_move rfl) rfl rfl rfl ?_
  refine WL.q (oq_nilCheck rfl) rfl rfl rfl ?_
  refine WL.q (oq_fieldAddr fld39_0 rfl) rfl rfl rfl ?_
  refine WL.q (oq_load flat25 rfl (.head _) (List.mem_singleton.2 rfl) rfl) rfl rfl rfl ?_
  refine WL.q (oq_move rfl) rfl rfl rfl ?_
  refine WL.q (oq_sliceSl (i := acc.length) Tryz.underlying25 ty5 rfl (by (first | (simp only [List.length_nil]; omega) | omega)) ⟨_, rfl⟩ rfl (by (first | (simp only [List.length_nil]; omega) | omega)) (by (first | (simp only [List.length_nil]; omega) | omega))) rfl rfl rfl ?_
  refine WL.q (oq_move rfl) rfl rfl rfl ?_
  refine WL.f1 ?_
  refine WL.copyB Tryz.underlying25 ty5 rfl rfl hr (.tail _ (.head _)) (by (first | (simp only [List.length_nil]; omega) | omega)) rfl rfl ?_
  refine WL.q (oq_assign rfl) rfl rfl rfl ?_
  refine WL.q (oq_assign rfl) rfl rfl rfl ?_
  refine WL.nil (WE.then_normal (WC.sub (fr' := [(4, _), (5, _)]) ?_ ⟨rfl, rfl, trivial⟩))
  refine WC.ret ?_
  refine WE.f3 ?_
  refine WE.f3 ?_
  refine WE.f2 ?_
  refine WE.f3 ?_
  refine WE.endW3 (.inl rfl) (res2 Tryz.results100 rfl rfl) ?_
  refine wrote_of hB hLc hfit hc0 hmx hLt (by omega) rfl ?_
  rw [show min data.length (acc.length + data.length - acc.length) = data.length by omega, Nat.zero_add, List.take_length]
theorem writeF (base bb : Nat) (lr : Int) (B : Nat) (L acc : List UInt8) (hB : base ≤ B) (hLc : L.length = acc.length) (hc0 : 0 < acc.length) (hmx : acc.length ≤ maxLen) (hLt : L.take acc.length = acc) (hal : acc.length + ([] : List UInt8).length ≤ 140737488355328) (s : Value) (C : Hp) (hr : RdS 1 s C ([] : List UInt8).length (bytesV ([] : List UInt8))) : FnW Tryz.prog 100 [Pt bb 0, s] base [[(bb, .cells #[Sl B 0 acc.length acc.length, I 0, .int .i8 lr] 39 (0, 0))], Bf B 5 L, C] (Wrote base bb acc ([] : List UInt8) [C]) := by
 have hac : acc.length ≤ acc.length := Nat.le_refl _
 have hfit : acc.length + ([] : List UInt8).length ≤ acc.length := Nat.le_refl _
 have hmz : maxLen ≤ 9223372036854775807 := by unfold maxLen; omega
 refine FnW.enter (n := 32) Tryz.func100 rfl rfl fun w0 R0 hbase => ?_
 subst hbase
 show WC _ _ _ _ _ _ _ ([[(bb, .cells #[Sl B 0 acc.length acc.length, I 0, .int .i8 lr] 39 (0, 0))], Bf B 5 L, C, R0])
 refine WC.sub (fr' := [(0, _), (1, _)]) ?_ ⟨rfl, rfl, trivial⟩
 refine WC.seq (WC.region ?_)
 refine WL.q (oq_assign rfl) rfl rfl rfl ?_
 refine WL.q (oq_assign rfl) rfl rfl rfl ?_
 refine WL.nil (WE.then_normal (WC.sub (fr' := [(0, _), (1, _)]) ?_ ⟨rfl, rfl, trivial⟩))
 refine WC.seq (WC.region ?_)
 refine WL.q (oq_move rfl) rfl rfl rfl ?_
 refine WL.q (oq_nilCheck rfl) rfl rfl rfl ?_
 refine WL.q (oq_fieldAddr fld39_2 rfl) rfl rfl rfl ?_
 refine WL.store1 #[_, _, _] ty37 rfl rfl (by first | rfl | exact OwS.one one_) (Nat.lt_of_lt_of_le (Nat.lt_succ_self _) (Nat.le_of_ble_eq_true rfl)) rfl rfl ?_
 refine WL.nil (WE.then_normal (WC.sub (fr' := [(0, _), (1, _)]) ?_ ⟨rfl, rfl, trivial⟩))
 refine WC.seq (WC.region ?_)
 refine WL.q (oq_move rfl) rfl rfl rfl ?_
 refine WL.q (oq_move rfl) rfl rfl rfl ?_
 refine WL.q (oq_len_rd hr Tryz.underlying25 rfl) rfl rfl rfl ?_
 refine WL.callW1 (tryYes _ bb B acc.length acc.length ([] : List UInt8).length 0 hac hal hmx hc0 hfit) call104 rfl rfl rfl fun v2_3 Hs2_3 hR2_3 => ?_
 obtain ⟨rfl, rfl⟩ := hR2_3
 refine WL.to1 ?_
 refine WL.q (oq_move rfl) rfl rfl rfl ?_
 refine WL.q (oq_extract rfl rfl) rfl rfl rfl ?_
 refine WL.q (oq_extract rfl rfl) rfl rfl rfl ?_
 refine WL.q (oq_assign rfl) rfl rfl rfl ?_
 refine WL.q (oq_assign rfl) rfl rfl rfl ?_
 refine WL.nil (WE.then_normal (WC.sub (fr' := [(0, _), (1, _), (6, _), (7, _)]) ?_ ⟨rfl, rfl, rfl, rfl, trivial⟩))
 refine WC.seq (WC.seq (WC.region ?_))
 refine WL.q (oq_move rfl) rfl rfl rfl ?_
 refine WL.q (oq_not rfl) rfl rfl rfl ?_
 refine WL.nil (WE.then_normal (WC.sub (fr' := [(0, _), (1, _), (6, _), (19, _)]) ?_ ⟨rfl, rfl, rfl, rfl, trivial⟩))
 refine WC.cond rfl (fun q3 => ?_) (fun q3 => ?_)
 ·
  try simp only [Z1, Z2, Z3, Z4, Z5, Z6, Z7, Z8, Z9, Z0] at q3
  first | contradiction | (exfalso; omega) | (exfalso; simp_all; done)
 ·
  try simp only [Z1, Z2, Z3, Z4, Z5, Z6, Z7, Z8, Z9, Z0] at q3
  refine WC.skip (WE.then_normal (WC.sub (fr' := [(0, _), (1, _), (6, _)]) ?_ ⟨rfl, rfl, rfl, trivial⟩))
  refine WC.seq (WC.region ?_)
  refine WL.q (oq_move rfl) rfl rfl rfl ?_
  refine WL.q (oq_nilCheck rfl) rfl rfl rfl ?_
  refine WL.q (oq_fieldAddr fld39_0 rfl) rfl rfl rfl ?_
  refine WL.q (oq_load flat25 rfl (.head _) (List.mem_singleton.2 rfl) rfl) rfl rfl rfl ?_
  refine WL.q (oq_move rfl) rfl rfl rfl ?_
  refine WL.q (oq_sliceEnd (b := B) (off := 0) (c := acc.length) Tryz.underlying25 ty5 rfl rfl) rfl rfl rfl ?_
  refine WL.q (oq_move rfl) rfl rfl rfl ?_
  refine WL.f1 ?_
  refine WL.copyB Tryz.underlying25 ty5 rfl rfl hr (.tail _ (.head _)) (by (first | (simp only [List.length_nil]; omega) | omega)) rfl rfl ?_
  refine WL.q (oq_assign rfl) rfl rfl rfl ?_
  refine WL.q (oq_assign rfl) rfl rfl rfl ?_
  refine WL.nil (WE.then_normal (WC.sub (fr' := [(4, _), (5, _)]) ?_ ⟨rfl, rfl, trivial⟩))
  refine WC.ret ?_
  refine WE.f3 ?_
  refine WE.f3 ?_
  refine WE.f2 ?_
  refine WE.f3 ?_
  refine WE.endW3 (.inl rfl) (res2 Tryz.results100 rfl rfl) ?_
  refine wrote_of (data := []) hB hLc hfit hc0 hmx hLt ?_ rfl ?_
  ·simp
  ·simp
theorem writeSF (base bb : Nat) (lr : Int) (B : Nat) (L acc : List UInt8) (hB : base ≤ B) (hLc : L.length = acc.length) (hc0 : 0 < acc.length) (hmx : acc.length ≤ maxLen) (hLt : L.take acc.length = acc) (hal : acc.length + ([] : List UInt8).length ≤ 140737488355328) (hsl : ([] : List UInt8).length ≤ maxLen) : FnW Tryz.prog 166 [Pt bb 0, S ([] : List UInt8)] base [[(bb, .cells #[Sl B 0 acc.length acc.length, I 0, .int .i8 lr] 39 (0, 0))], Bf B 5 L] (Wrote base bb acc ([] : List UInt8) []) := by
 have hac : acc.length ≤ acc.length := Nat.le_refl _
 have hfit : acc.length + ([] : List UInt8).length ≤ acc.length := Nat.le_refl _
 have hmz : maxLen ≤ 9223372036854775807 := by unfold maxLen; omega
 refine FnW.enter (n := 32) Tryz.func166 rfl rfl fun w0 R0 hbase => ?_
 subst hbase
 show WC _ _ _ _ _ _ _ ([[(bb, .cells #[Sl B 0 acc.length acc.length, I 0, .int .i8 lr] 39 (0, 0))], Bf B 5 L, R0])
 refine WC.sub (fr' := [(0, _), (1, _)]) ?_ ⟨rfl, rfl, trivial⟩
 refine WC.seq (WC.region ?_)
 refine WL.q (oq_assign rfl) rfl rfl rfl ?_
 refine WL.q (oq_assign rfl) rfl rfl rfl ?_
 refine WL.nil (WE.then_normal (WC.sub (fr' := [(0, _), (1, _)]) ?_ ⟨rfl, rfl, trivial⟩))
 refine WC.seq (WC.region ?_)
 refine WL.q (oq_move rfl) rfl rfl rfl ?_
 refine WL.q (oq_nilCheck rfl) rfl rfl rfl ?_
 refine WL.q (oq_fieldAddr fld39_2 rfl) rfl rfl rfl ?_
 refine WL.store1 #[_, _, _] ty37 rfl rfl (by first | rfl | exact OwS.one one_) (Nat.lt_of_lt_of_le (Nat.lt_succ_self _) (Nat.le_of_ble_eq_true rfl)) rfl rfl ?_
 refine WL.nil (WE.then_normal (WC.sub (fr' := [(0, _), (1, _)]) ?_ ⟨rfl, rfl, trivial⟩))
 refine WC.seq (WC.region ?_)
 refine WL.q (oq_move rfl) rfl rfl rfl ?_
 refine WL.q (oq_move rfl) rfl rfl rfl ?_
 refine WL.q (oq_len_s Tryz.underlying9 rfl) rfl rfl rfl ?_
 refine WL.callW1 (tryYes _ bb B acc.length acc.length ([] : List UInt8).length 0 hac hal hmx hc0 hfit) call104 rfl rfl rfl fun v2_3 Hs2_3 hR2_3 => ?_
 obtain ⟨rfl, rfl⟩ := hR2_3
 refine WL.to1 ?_
 refine WL.q (oq_move rfl) rfl rfl rfl ?_
 refine WL.q (oq_extract rfl rfl) rfl rfl rfl ?_
 refine WL.q (oq_extract rfl rfl) rfl rfl rfl ?_
 refine WL.q (oq_assign rfl) rfl rfl rfl ?_
 refine WL.q (oq_assign rfl) rfl rfl rfl ?_
 refine WL.nil (WE.then_normal (WC.sub (fr' := [(0, _), (1, _), (6, _), (7, _)]) ?_ ⟨rfl, rfl, rfl, rfl, trivial⟩))
 refine WC.seq (WC.seq (WC.region ?_))
 refine WL.q (oq_move rfl) rfl rfl rfl ?_
 refine WL.q (oq_not rfl) rfl rfl rfl ?_
 refine WL.nil (WE.then_normal (WC.sub (fr' := [(0, _), (1, _), (6, _), (19, _)]) ?_ ⟨rfl, rfl, rfl, rfl, trivial⟩))
 refine WC.cond rfl (fun q3 => ?_) (fun q3 => ?_)
 ·
  try simp only [Z1, Z2, Z3, Z4, Z5, Z6, Z7, Z8, Z9, Z0] at q3
  first | contradiction | (exfalso; omega) | (exfalso; simp_all; done)
 ·
  try simp only [Z1, Z2, Z3, Z4, Z5, Z6, Z7, Z8, Z9, Z0] at q3
  refine WC.skip (WE.then_normal (WC.sub (fr' := [(0, _), (1, _), (6, _)]) ?_ ⟨rfl, rfl, rfl, trivial⟩))
  refine WC.seq (WC.region ?_)
  refine WL.q (oq_move rfl) rfl rfl rfl ?_
  refine WL.q (oq_nilCheck rfl) rfl rfl rfl ?_
  refine WL.q (oq_fieldAddr fld39_0 rfl) rfl rfl rfl ?_
  refine WL.q (oq_load flat25 rfl (.head _) (List.mem_singleton.2 rfl) rfl) rfl rfl rfl ?_
  refine WL.q (oq_move rfl) rfl rfl rfl ?_
  refine WL.q (oq_sliceEnd (b := B) (off := 0) (c := acc.length) Tryz.underlying25 ty5 rfl rfl) rfl rfl rfl ?_
  refine WL.q (oq_move rfl) rfl rfl rfl ?_
  refine WL.f1 ?_
  refine WL.copyBS Tryz.underlying25 ty5 rfl rfl (by (first | (simp only [List.length_nil]; omega) | omega)) rfl rfl ?_
  refine WL.q (oq_assign rfl) rfl rfl rfl ?_
  refine WL.q (oq_assign rfl) rfl rfl rfl ?_
  refine WL.nil (WE.then_normal (WC.sub (fr' := [(4, _), (5, _)]) ?_ ⟨rfl, rfl, trivial⟩))
  refine WC.ret ?_
  refine WE.f2 ?_
  refine WE.f1 ?_
  refine WE.f2 ?_
  refine WE.endW2 (.inl rfl) (res2 Tryz.results166 rfl rfl) ?_
  refine wrote_of (data := []) hB hLc hfit hc0 hmx hLt ?_ rfl ?_
  ·simp
  ·simp
theorem writeN (base bb : Nat) (lr : Int) (data : List UInt8) (B cap : Nat) (L acc : List UInt8) (hB : base ≤ B) (hLc : L.length = cap) (hac : acc.length ≤ cap) (hc0 : 0 < cap) (hmx : cap ≤ maxLen) (hLt : L.take acc.length = acc) (hal : acc.length + data.length ≤ 140737488355328) (s : Value) (C : Hp) (hr : RdS 1 s C data.length (bytesV data)) (hfit : ¬ acc.length + data.length ≤ cap) : FnW Tryz.prog 100 [Pt bb 0, s] base [[(bb, .cells #[Sl B 0 acc.length cap, I 0, .int .i8 lr] 39 (0, 0))], Bf B 5 L, C] (Wrote base bb acc data [C]) := by
 have hmz : maxLen ≤ 9223372036854775807 := by unfold maxLen; omega
 refine FnW.enter (n := 32) Tryz.func100 rfl rfl fun w0 R0 hbase => ?_
 subst hbase
 show WC _ _ _ _ _ _ _ ([[(bb, .cells #[Sl B 0 acc.length cap, I 0, .int .i8 lr] 39 (0, 0))], Bf B 5 L, C, R0])
 refine WC.sub (fr' := [(0, _), (1, _)]) ?_ ⟨rfl, rfl, trivial⟩
 refine WC.seq (WC.region ?_)
 refine WL.q (oq_assign rfl) rfl rfl rfl ?_
 refine WL.q (oq_assign rfl) rfl rfl rfl ?_
 refine WL.nil (WE.then_normal (WC.sub (fr' := [(0, _), (1, _)]) ?_ ⟨rfl, rfl, trivial⟩))
 refine WC.seq (WC.region ?_)
 refine WL.q (oq_move rfl) rfl rfl rfl ?_
 refine WL.q (oq_nilCheck rfl) rfl rfl rfl ?_
 refine WL.q (oq_fieldAddr fld39_2 rfl) rfl rfl rfl ?_
 refine WL.store1 #[_, _, _] ty37 rfl rfl (by first | rfl | exact OwS.one one_) (Nat.lt_of_lt_of_le (Nat.lt_succ_self _) (Nat.le_of_ble_eq_true rfl)) rfl rfl ?_
 refine WL.nil (WE.then_normal (WC.sub (fr' := [(0, _), (1, _)]) ?_ ⟨rfl, rfl, trivial⟩))
 refine WC.seq (WC.region ?_)
 refine WL.q (oq_move rfl) rfl rfl rfl ?_
 refine WL.q (oq_move rfl) rfl rfl rfl ?_
 refine WL.q (oq_len_rd hr Tryz.underlying25 rfl) rfl rfl rfl ?_
 refine WL.callW1 (tryNo _ bb B acc.length cap data.length 0 hac hal hmx hc0 hfit) call104 rfl rfl rfl fun v2_3 Hs2_3 hR2_3 => ?_
 obtain ⟨rfl, rfl⟩ := hR2_3
 refine WL.to1 ?_
 refine WL.q (oq_move rfl) rfl rfl rfl ?_
 refine WL.q (oq_extract rfl rfl) rfl rfl rfl ?_
 refine WL.q (oq_extract rfl rfl) rfl rfl rfl ?_
 refine WL.q (oq_assign rfl) rfl rfl rfl ?_
 refine WL.q (oq_assign rfl) rfl rfl rfl ?_
 refine WL.nil (WE.then_normal (WC.sub (fr' := [(0, _), (1, _), (6, _), (7, _)]) ?_ ⟨rfl, rfl, rfl, rfl, trivial⟩))
 refine WC.seq (WC.seq (WC.region ?_))
 refine WL.q (oq_move rfl) rfl rfl rfl ?_
 refine WL.q (oq_not rfl) rfl rfl rfl ?_
 refine WL.nil (WE.then_normal (WC.sub (fr' := [(0, _), (1, _), (6, _), (19, _)]) ?_ ⟨rfl, rfl, rfl, rfl, trivial⟩))
 refine WC.cond rfl (fun q3 => ?_) (fun q3 => ?_)
 ·
  try simp only [Z1, Z2, Z3, Z4, Z5, Z6, Z7, Z8, Z9, Z0] at q3
  refine WC.region ?_
  refine WL.q (oq_move rfl) rfl rfl rfl ?_
  refine WL.q (oq_move rfl) rfl rfl rfl ?_
  refine WL.q (oq_len_rd hr Tryz.underlying25 rfl) rfl rfl rfl ?_
  refine WL.f1 ?_
  refine WL.f1 ?_
  refine WL.callW2 (grow1 _ bb B cap data.length 0 L acc hB hLc hac hc0 hmx hLt (by omega) hal) call103 rfl rfl rfl fun v4_3 Hs4_3 hR4_3 => ?_
  obtain ⟨B2, cap2, L2, rfl, rfl, hB2, hL2, hc2, hm2, ht2⟩ := hR4_3
  refine WL.to2 ?_
  refine WL.q (oq_assign rfl) rfl rfl rfl ?_
  refine WL.nil (WE.then_normal (WC.sub (fr' := [(0, _), (1, _), (6, _)]) ?_ ⟨rfl, rfl, rfl, trivial⟩))
  refine WC.seq (WC.region ?_)
  refine WL.q (oq_move rfl) rfl rfl rfl ?_
  refine WL.q (oq_nilCheck rfl) rfl rfl rfl ?_
  refine WL.q (oq_fieldAddr fld39_0 rfl) rfl rfl rfl ?_
  refine WL.q (oq_load flat25 rfl (.head _) (List.mem_singleton.2 rfl) rfl) rfl rfl rfl ?_
  refine WL.q (oq_move rfl) rfl rfl rfl ?_
  refine WL.q (oq_sliceSl (i := acc.length) Tryz.underlying25 ty5 rfl (by (first | (simp only [List.length_nil]; omega) | omega)) ⟨_, rfl⟩ rfl (by (first | (simp only [List.length_nil]; omega) | omega)) (by (first | (simp only [List.length_nil]; omega) | omega))) rfl rfl rfl ?_
  refine WL.q (oq_move rfl) rfl rfl rfl ?_
  refine WL.f1 ?_
  refine WL.copyB Tryz.underlying25 ty5 rfl rfl hr (.tail _ (.head _)) (by (first | (simp only [List.length_nil]; omega) | omega)) rfl rfl ?_
  refine WL.q (oq_assign rfl) rfl rfl rfl ?_
  refine WL.q (oq_assign rfl) rfl rfl rfl ?_
  refine WL.nil (WE.then_normal (WC.sub (fr' := [(4, _), (5, _)]) ?_ ⟨rfl, rfl, trivial⟩))
  refine WC.ret ?_
  refine WE.f3 ?_
  refine WE.f3 ?_
  refine WE.f2 ?_
  refine WE.f3 ?_
  refine WE.endW3 (.inl rfl) (res2 Tryz.results100 rfl rfl) ?_
  refine wrote_of hB2 hL2 hc2 (by omega) hm2 ht2 (by omega) rfl ?_
  rw [show min data.length (acc.length + data.length - acc.length) = data.length by omega, Nat.zero_add, List.take_length]
 ·
  try simp only [Z1, Z2, Z3, Z4, Z5, Z6, Z7, Z8, Z9, Z0] at q3
  first | contradiction | (exfalso; omega) | (exfalso; simp_all; done)
theorem write0 (base bb : Nat) (lr : Int) (data : List UInt8) (hal : data.length ≤ 140737488355328) (hne : 0 < data.length) (s : Value) (C : Hp) (hr : RdS 1 s C data.length (bytesV data)) : FnW Tryz.prog 100 [Pt bb 0, s] base [[(bb, .cells #[.slice none 0 0, I 0, .int .i8 lr] 39 (0, 0))], C] (Wrote base bb [] data [C]) := by
 have hmz : maxLen ≤ 9223372036854775807 := by unfold maxLen; omega
 refine FnW.enter (n := 32) Tryz.func100 rfl rfl fun w0 R0 hbase => ?_
 subst hbase
 show WC _ _ _ _ _ _ _ ([[(bb, .cells #[.slice none 0 0, I 0, .int .i8 lr] 39 (0, 0))], C, R0])
 refine WC.sub (fr' := [(0, _), (1, _)]) ?_ ⟨rfl, rfl, trivial⟩
 refine WC.seq (WC.region ?_)
 refine WL.q (oq_assign rfl) rfl rfl rfl ?_
 refine WL.q (oq_assign rfl) rfl rfl rfl ?_
 refine WL.nil (WE.then_normal (WC.sub (fr' := [(0, _), (1, _)]) ?_ ⟨rfl, rfl, trivial⟩))
 refine WC.seq (WC.region ?_)
 refine WL.q (oq_move rfl) rfl rfl rfl ?_
 refine WL.q (oq_nilCheck rfl) rfl rfl rfl ?_
 refine WL.q (oq_fieldAddr fld39_2 rfl) rfl rfl rfl ?_
 refine WL.store1 #[_, _, _] ty37 rfl rfl (by first | rfl | exact OwS.one one_) (Nat.lt_of_lt_of_le (Nat.lt_succ_self _) (Nat.le_of_ble_eq_true rfl)) rfl rfl ?_
 refine WL.nil (WE.then_normal (WC.sub (fr' := [(0, _), (1, _)]) ?_ ⟨rfl, rfl, trivial⟩))
 refine WC.seq (WC.region ?_)
 refine WL.q (oq_move rfl) rfl rfl rfl ?_
 refine WL.q (oq_move rfl) rfl rfl rfl ?_
 refine WL.q (oq_len_rd hr Tryz.underlying25 rfl) rfl rfl rfl ?_
 refine WL.callW1 (tryGrow0 _ bb data.length 0 hne) call104 rfl rfl rfl fun v2_3 Hs2_3 hR2_3 => ?_
 obtain ⟨rfl, rfl⟩ := hR2_3
 refine WL.to1 ?_
 refine WL.q (oq_move rfl) rfl rfl rfl ?_
 refine WL.q (oq_extract rfl rfl) rfl rfl rfl ?_
 refine WL.q (oq_extract rfl rfl) rfl rfl rfl ?_
 refine WL.q (oq_assign rfl) rfl rfl rfl ?_
 refine WL.q (oq_assign rfl) rfl rfl rfl ?_
 refine WL.nil (WE.then_normal (WC.sub (fr' := [(0, _), (1, _), (6, _), (7, _)]) ?_ ⟨rfl, rfl, rfl, rfl, trivial⟩))
 refine WC.seq (WC.seq (WC.region ?_))
 refine WL.q (oq_move rfl) rfl rfl rfl ?_
 refine WL.q (oq_not rfl) rfl rfl rfl ?_
 refine WL.nil (WE.then_normal (WC.sub (fr' := [(0, _), (1, _), (6, _), (19, _)]) ?_ ⟨rfl, rfl, rfl, rfl, trivial⟩))
 refine WC.cond rfl (fun q3 => ?_) (fun q3 => ?_)
 ·
  try simp only [Z1, Z2, Z3, Z4, Z5, Z6, Z7, Z8, Z9, Z0] at q3
  refine WC.region ?_
  refine WL.q (oq_move rfl) rfl rfl rfl ?_
  refine WL.q (oq_move rfl) rfl rfl rfl ?_
  refine WL.q (oq_len_rd hr Tryz.underlying25 rfl) rfl rfl rfl ?_
  refine WL.callW1 (grow0 _ bb data.length 0 hne hal) call103 rfl rfl rfl fun v4_3 Hs4_3 hR4_3 => ?_
  obtain ⟨B2, cap2, L2, rfl, rfl, hB2, hL2, hc2, hm2, ht2⟩ := hR4_3
  refine WL.to2 ?_
  refine WL.q (oq_assign rfl) rfl rfl rfl ?_
  refine WL.nil (WE.then_normal (WC.sub (fr' := [(0, _), (1, _), (6, _)]) ?_ ⟨rfl, rfl, rfl, trivial⟩))
  refine WC.seq (WC.region ?_)
  refine WL.q (oq_move rfl) rfl rfl rfl ?_
  refine WL.q (oq_nilCheck rfl) rfl rfl rfl ?_
  refine WL.q (oq_fieldAddr fld39_0 rfl) rfl rfl rfl ?_
  refine WL.q (oq_load flat25 rfl (.head _) (List.mem_singleton.2 rfl) rfl) rfl rfl rfl ?_
  refine WL.q (oq_move rfl) rfl rfl rfl ?_
  refine WL.q (oq_sliceSl (i := 0) Tryz.underlying25 ty5 rfl (by (first | (simp only [List.length_nil]; omega) | omega)) ⟨_, rfl⟩ rfl (by (first | (simp only [List.length_nil]; omega) | omega)) (by (first | (simp only [List.length_nil]; omega) | omega))) rfl rfl rfl ?_
  refine WL.q (oq_move rfl) rfl rfl rfl ?_
  refine WL.f1 ?_
  refine WL.copyB Tryz.underlying25 ty5 rfl rfl hr (.tail _ (.head _)) (by (first | (simp only [List.length_nil]; omega) | omega)) rfl rfl ?_
  refine WL.q (oq_assign rfl) rfl rfl rfl ?_
  refine WL.q (oq_assign rfl) rfl rfl rfl ?_
  refine WL.nil (WE.then_normal (WC.sub (fr' := [(4, _), (5, _)]) ?_ ⟨rfl, rfl, trivial⟩))
  refine WC.ret ?_
  refine WE.f3 ?_
  refine WE.f3 ?_
  refine WE.f2 ?_
  refine WE.f3 ?_
  refine WE.endW3 (.inl rfl) (res2 Tryz.results100 rfl rfl) ?_
  refine wrote_of hB2 hL2 hc2 (by simp only [List.length_nil] at hc2; omega) hm2 ht2 (by simp only [List.length_nil]; omega) rfl ?_
  rw [show min data.length ([].length + data.length - 0) = data.length by simp, List.take_length]; rfl
 ·
  try simp only [Z1, Z2, Z3, Z4, Z5, Z6, Z7, Z8, Z9, Z0] at q3
  first | contradiction | (exfalso; omega) | (exfalso; simp_all; done)
theorem writeSY (base bb : Nat) (lr : Int) (data : List UInt8) (B cap : Nat) (L acc : List UInt8) (hB : base ≤ B) (hLc : L.length = cap) (hac : acc.length ≤ cap) (hc0 : 0 < cap) (hmx : cap ≤ maxLen) (hLt : L.take acc.length = acc) (hal : acc.length + data.length ≤ 140737488355328) (hsl : data.length ≤ maxLen) (hfit : acc.length + data.length ≤ cap) (hlc : acc.length < cap) : FnW Tryz.prog 166 [Pt bb 0, S data] base [[(bb, .cells #[Sl B 0 acc.length cap, I 0, .int .i8 lr] 39 (0, 0))], Bf B 5 L] (Wrote base bb acc data []) := by
 have hmz : maxLen ≤ 9223372036854775807 := by unfold maxLen; omega
 refine FnW.enter (n := 32) Tryz.func166 rfl rfl fun w0 R0 hbase => ?_
 subst hbase
 show WC _ _ _ _ _ _ _ ([[(bb, .cells #[Sl B 0 acc.length cap, I 0, .int .i8 lr] 39 (0, 0))], Bf B 5 L, R0])
 refine WC.sub (fr' := [(0, _), (1, _)]) ?_ ⟨rfl, rfl, trivial⟩
 refine WC.seq (WC.region ?_)
 refine WL.q (oq_assign rfl) rfl rfl rfl ?_
 refine WL.q (oq_assign rfl) rfl rfl rfl ?_
 refine WL.nil (WE.then_normal (WC.sub (fr' := [(0, _), (1, _)]) ?_ ⟨rfl, rfl, trivial⟩))
 refine WC.seq (WC.region ?_)
 refine WL.q (oq_move rfl) rfl rfl rfl ?_
 refine WL.q (oq_nilCheck rfl) rfl rfl rfl ?_
 refine WL.q (oq_fieldAddr fld39_2 rfl) rfl rfl rfl ?_
 refine WL.store1 #[_, _, _] ty37 rfl rfl (by first | rfl | exact OwS.one one_) (Nat.lt_of_lt_of_le (Nat.lt_succ_self _) (Nat.le_of_ble_eq_true rfl)) rfl rfl ?_
 refine WL.nil (WE.then_normal (WC.sub (fr' := [(0, _), (1, _)]) ?_ ⟨rfl, rfl, trivial⟩))
 refine WC.seq (WC.region ?_)
 refine WL.q (oq_move rfl) rfl rfl rfl ?_
 refine WL.q (oq_move rfl) rfl rfl rfl ?_
 refine WL.q (oq_len_s Tryz.underlying9 rfl) rfl rfl rfl ?_
 refine WL.callW1 (tryYes _ bb B acc.length cap data.length 0 hac hal hmx hc0 hfit) call104 rfl rfl rfl fun v2_3 Hs2_3 hR2_3 => ?_
 obtain ⟨rfl, rfl⟩ := hR2_3
 refine WL.to1 ?_
 refine WL.q (oq_move rfl) rfl rfl rfl ?_
 refine WL.q (oq_extract rfl rfl) rfl rfl rfl ?_
 refine WL.q (oq_extract rfl rfl) rfl rfl rfl ?_
 refine WL.q (oq_assign rfl) rfl rfl rfl ?_
 refine WL.q (oq_assign rfl) rfl rfl rfl ?_
 refine WL.nil (WE.then_normal (WC.sub (fr' := [(0, _), (1, _), (6, _), (7, _)]) ?_ ⟨rfl, rfl, rfl, rfl, trivial⟩))
 refine WC.seq (WC.seq (WC.region ?_))
 refine WL.q (oq_move rfl) rfl rfl rfl ?_
 refine WL.q (oq_not rfl) rfl rfl rfl ?_
 refine WL.nil (WE.then_normal (WC.sub (fr' := [(0, _), (1, _), (6, _), (19, _)]) ?_ ⟨rfl, rfl, rfl, rfl, trivial⟩))
 refine WC.cond rfl (fun q3 => ?_) (fun q3 => ?_)
 ·
  try simp only [Z1, Z2, Z3, Z4, Z5, Z6, Z7, Z8, Z9, Z0] at q3
  first | contradiction | (exfalso; omega) | (exfalso; simp_all; done)
 ·
  try simp only [Z1, Z2, Z3, Z4, Z5, Z6, Z7, Z8, Z9, Z0] at q3
  refine WC.skip (WE.then_normal (WC.sub (fr' := [(0, _), (1, _), (6, _)]) ?_ ⟨rfl, rfl, rfl, trivial⟩))
  refine WC.seq (WC.region ?_)
  refine WL.q (oq_move rfl) rfl rfl rfl ?_
  refine WL.q (oq_nilCheck rfl) rfl rfl rfl ?_
  refine WL.q (oq_fieldAddr fld39_0 rfl) rfl rfl rfl ?_
  refine WL.q (oq_load flat25 rfl (.head _) (List.mem_singleton.2 rfl) rfl) rfl rfl rfl ?_
  refine WL.q (oq_move rfl) rfl rfl rfl ?_
  refine WL.q (oq_sliceSl (i := acc.length) Tryz.underlying25 ty5 rfl (by (first | (simp only [List.length_nil]; omega) | omega)) ⟨_, rfl⟩ rfl (by (first | (simp only [List.length_nil]; omega) | omega)) (by (first | (simp only [List.length_nil]; omega) | omega))) rfl rfl rfl ?_
  refine WL.q (oq_move rfl) rfl rfl rfl ?_
  refine WL.f1 ?_
  refine WL.copyBS Tryz.underlying25 ty5 rfl rfl (by (first | (simp only [List.length_nil]; omega) | omega)) rfl rfl ?_
  refine WL.q (oq_assign rfl) rfl rfl rfl ?_
  refine WL.q (oq_assign rfl) rfl rfl rfl ?_
  refine WL.nil (WE.then_normal (WC.sub (fr' := [(4, _), (5, _)]) ?_ ⟨rfl, rfl, trivial⟩))
  refine WC.ret ?_
  refine WE.f2 ?_
  refine WE.f1 ?_
  refine WE.f2 ?_
  refine WE.endW2 (.inl rfl) (res2 Tryz.results166 rfl rfl) ?_
  refine wrote_of hB hLc hfit hc0 hmx hLt (by omega) rfl ?_
  rw [show min data.length (acc.length + data.length - acc.length) = data.length by omega, Nat.zero_add, List.take_length]
theorem writeSN (base bb : Nat) (lr : Int) (data : List UInt8) (B cap : Nat) (L acc : List UInt8) (hB : base ≤ B) (hLc : L.length = cap) (hac : acc.length ≤ cap) (hc0 : 0 < cap) (hmx : cap ≤ maxLen) (hLt : L.take acc.length = acc) (hal : acc.length + data.length ≤ 140737488355328) (hsl : data.length ≤ maxLen) (hfit : ¬ acc.length + data.length ≤ cap) : FnW Tryz.prog 166 [Pt bb 0, S data] base [[(bb, .cells #[Sl B 0 acc.length cap, I 0, .int .i8 lr] 39 (0, 0))], Bf B 5 L] (Wrote base bb acc data []) := by
 have hmz : maxLen ≤ 9223372036854775807 := by unfold maxLen; omega
 refine FnW.enter (n := 32) Tryz.func166 rfl rfl fun w0 R0 hbase => ?_
 subst hbase
 show WC _ _ _ _ _ _ _ ([[(bb, .cells #[Sl B 0 acc.length cap, I 0, .int .i8 lr] 39 (0, 0))], Bf B 5 L, R0])
 refine WC.sub (fr' := [(0, _), (1, _)]) ?_ ⟨rfl, rfl, trivial⟩
 refine WC.seq (WC.region ?_)
 refine WL.q (oq_assign rfl) rfl rfl rfl ?_
 refine WL.q (oq_assign rfl) rfl rfl rfl ?_
 refine WL.nil (WE.then_normal (WC.sub (fr' := [(0, _), (1, _)]) ?_ ⟨rfl, rfl, trivial⟩))
 refine WC.seq (WC.region ?_)
 refine WL.q (oq_move rfl) rfl rfl rfl ?_
 refine WL.q (oq_nilCheck rfl) rfl rfl rfl ?_
 refine WL.q (oq_fieldAddr fld39_2 rfl) rfl rfl rfl ?_
 refine WL.store1 #[_, _, _] ty37 rfl rfl (by first | rfl | exact OwS.one one_) (Nat.lt_of_lt_of_le (Nat.lt_succ_self _) (Nat.le_of_ble_eq_true rfl)) rfl rfl ?_
 refine WL.nil (WE.then_normal (WC.sub (fr' := [(0, _), (1, _)]) ?_ ⟨rfl, rfl, trivial⟩))
 refine WC.seq (WC.region ?_)
 refine WL.q (oq_move rfl) rfl rfl rfl ?_
 refine WL.q (oq_move rfl) rfl rfl rfl ?_
 refine WL.q (oq_len_s Tryz.underlying9 rfl) rfl rfl rfl ?_
 refine WL.callW1 (tryNo _ bb B acc.length cap data.length 0 hac hal hmx hc0 hfit) call104 rfl rfl rfl fun v2_3 Hs2_3 hR2_3 => ?_
 obtain ⟨rfl, rfl⟩ := hR2_3
 refine WL.to1 ?_
 refine WL.q (oq_move rfl) rfl rfl rfl ?_
 refine WL.q (oq_extract rfl rfl) rfl rfl rfl ?_
 refine WL.q (oq_extract rfl rfl) rfl rfl rfl ?_
 refine WL.q (oq_assign rfl) rfl rfl rfl ?_
 refine WL.q (oq_assign rfl) rfl rfl rfl ?_
 refine WL.nil (WE.then_normal (WC.sub (fr' := [(0, _), (1, _), (6, _), (7, _)]) ?_ ⟨rfl, rfl, rfl, rfl, trivial⟩))
 refine WC.seq (WC.seq (WC.region ?_))
 refine WL.q (oq_move rfl) rfl rfl rfl ?_
 refine WL.q (oq_not rfl) rfl rfl rfl ?_
 refine WL.nil (WE.then_normal (WC.sub (fr' := [(0, _), (1, _), (6, _), (19, _)]) ?_ ⟨rfl, rfl, rfl, rfl, trivial⟩))
 refine WC.cond rfl (fun q3 => ?_) (fun q3 => ?_)
 ·
  try simp only [Z1, Z2, Z3, Z4, Z5, Z6, Z7, Z8, Z9, Z0] at q3
  refine WC.region ?_
  refine WL.q (oq_move rfl) rfl rfl rfl ?_
  refine WL.q (oq_move rfl) rfl rfl rfl ?_
  refine WL.q (oq_len_s Tryz.underlying9 rfl) rfl rfl rfl ?_
  refine WL.f1 ?_
  refine WL.f1 ?_
  refine WL.callW2 (grow1 _ bb B cap data.length 0 L acc hB hLc hac hc0 hmx hLt (by omega) hal) call103 rfl rfl rfl fun v4_3 Hs4_3 hR4_3 => ?_
  obtain ⟨B2, cap2, L2, rfl, rfl, hB2, hL2, hc2, hm2, ht2⟩ := hR4_3
  refine WL.to2 ?_
  refine WL.q (oq_assign rfl) rfl rfl rfl ?_
  refine WL.nil (WE.then_normal (WC.sub (fr' := [(0, _), (1, _), (6, _)]) ?_ ⟨rfl, rfl, rfl, trivial⟩))
  refine WC.seq (WC.region ?_)
  refine WL.q (oq_move rfl) rfl rfl rfl ?_
  refine WL.q (oq_nilCheck rfl) rfl rfl rfl ?_
  refine WL.q (oq_fieldAddr fld39_0 rfl) rfl rfl rfl ?_
  refine WL.q (oq_load flat25 rfl (.head _) (List.mem_singleton.2 rfl) rfl) rfl rfl rfl ?_
  refine WL.q (oq_move rfl) rfl rfl rfl ?_
  refine WL.q (oq_sliceSl (i := acc.length) Tryz.underlying25 ty5 rfl (by (first | (simp only [List.length_nil]; omega) | omega)) ⟨_, rfl⟩ rfl (by (first | (simp only [List.length_nil]; omega) | omega)) (by (first | (simp only [List.length_nil]; omega) | omega))) rfl rfl rfl ?_
  refine WL.q (oq_move rfl) rfl rfl rfl ?_
  refine WL.f1 ?_
  refine WL.copyBS Tryz.underlying25 ty5 rfl rfl (by (first | (simp only [List.length_nil]; omega) | omega)) rfl rfl ?_
  refine WL.q (oq_assign rfl) rfl rfl rfl ?_
  refine WL.q (oq_assign rfl) rfl rfl rfl ?_
  refine WL.nil (WE.then_normal (WC.sub (fr' := [(4, _), (5, _)]) ?_ ⟨rfl, rfl, trivial⟩))
  refine WC.ret ?_
  refine WE.f2 ?_
  refine WE.f1 ?_
  refine WE.f2 ?_
  refine WE.endW2 (.inl rfl) (res2 Tryz.results166 rfl rfl) ?_
  refine wrote_of hB2 hL2 hc2 (by omega) hm2 ht2 (by omega) rfl ?_
  rw [show min data.length (acc.length + data.length - acc.length) = data.length by omega, Nat.zero_add, List.take_length]
 ·
  try simp only [Z1, Z2, Z3, Z4, Z5, Z6, Z7, Z8, Z9, Z0] at q3
  first | contradiction | (exfalso; omega) | (exfalso; simp_all; done)
theorem writeS0 (base bb : Nat) (lr : Int) (data : List UInt8) (hal : data.length ≤ 140737488355328) (hne : 0 < data.length) (hsl : data.length ≤ maxLen) : FnW Tryz.prog 166 [Pt bb 0, S data] base [[(bb, .cells #[.slice none 0 0, I 0, .int .i8 lr] 39 (0, 0))]] (Wrote base bb [] data []) := by
 have hmz : maxLen ≤ 9223372036854775807 := by unfold maxLen; omega
 refine FnW.enter (n := 32) Tryz.func166 rfl rfl fun w0 R0 hbase => ?_
 subst hbase
 show WC _ _ _ _ _ _ _ ([[(bb, .cells #[.slice none 0 0, I 0, .int .i8 lr] 39 (0, 0))], R0])
 refine WC.sub (fr' := [(0, _), (1, _)]) ?_ ⟨rfl, rfl, trivial⟩
 refine WC.seq (WC.region ?_)
 refine WL.q (oq_assign rfl) rfl rfl rfl ?_
 refine WL.q (oq_assign rfl) rfl rfl rfl ?_
 refine WL.nil (WE.then_normal (WC.sub (fr' := [(0, _), (1, _)]) ?_ ⟨rfl, rfl, trivial⟩))
 refine WC.seq (WC.region ?_)
 refine WL.q (oq_move rfl) rfl rfl rfl ?_
 refine WL.q (oq_nilCheck rfl) rfl rfl rfl ?_
 refine WL.q (oq_fieldAddr fld39_2 rfl) rfl rfl rfl ?_
 refine WL.store1 #[_, _, _] ty37 rfl rfl (by first | rfl | exact OwS.one one_) (Nat.lt_of_lt_of_le (Nat.lt_succ_self _) (Nat.le_of_ble_eq_true rfl)) rfl rfl ?_
 refine WL.nil (WE.then_normal (WC.sub (fr' := [(0, _), (1, _)]) ?_ ⟨rfl, rfl, trivial⟩))
 refine WC.seq (WC.region ?_)
 refine WL.q (oq_move rfl) rfl rfl rfl ?_
 refine WL.q (oq_move rfl) rfl rfl rfl ?_
 refine WL.q (oq_len_s Tryz.underlying9 rfl) rfl rfl rfl ?_
 refine WL.callW1 (tryGrow0 _ bb data.length 0 hne) call104 rfl rfl rfl fun v2_3 Hs2_3 hR2_3 => ?_
 obtain ⟨rfl, rfl⟩ := hR2_3
 refine WL.to1 ?_
 refine WL.q (oq_move rfl) rfl rfl rfl ?_
 refine WL.q (oq_extract rfl rfl) rfl rfl rfl ?_
 refine WL.q (oq_extract rfl rfl) rfl rfl rfl ?_
 refine WL.q (oq_assign rfl) rfl rfl rfl ?_
 refine WL.q (oq_assign rfl) rfl rfl rfl ?_
 refine WL.nil (WE.then_normal (WC.sub (fr' := [(0, _), (1, _), (6, _), (7, _)]) ?_ ⟨rfl, rfl, rfl, rfl, trivial⟩))
 refine WC.seq (WC.seq (WC.region ?_))
 refine WL.q (oq_move rfl) rfl rfl rfl ?_
 refine WL.q (oq_not rfl) rfl rfl rfl ?_
 refine WL.nil (WE.then_normal (WC.sub (fr' := [(0, _), (1, _), (6, _), (19, _)]) ?_ ⟨rfl, rfl, rfl, rfl, trivial⟩))
 refine WC.cond rfl (fun q3 => ?_) (fun q3 => ?_)
 ·
  try simp only [Z1, Z2, Z3, Z4, Z5, Z6, Z7, Z8, Z9, Z0] at q3
  refine WC.region ?_
  refine WL.q (oq_move rfl) rfl rfl rfl ?_
  refine WL.q (oq_move rfl) rfl rfl rfl ?_
  refine WL.q (oq_len_s Tryz.underlying9 rfl) rfl rfl rfl ?_
  refine WL.callW1 (grow0 _ bb data.length 0 hne hal) call103 rfl rfl rfl fun v4_3 Hs4_3 hR4_3 => ?_
  obtain ⟨B2, cap2, L2, rfl, rfl, hB2, hL2, hc2, hm2, ht2⟩ := hR4_3
  refine WL.to2 ?_
  refine WL.q (oq_assign rfl) rfl rfl rfl ?_
  refine WL.nil (WE.then_normal (WC.sub (fr' := [(0, _), (1, _), (6, _)]) ?_ ⟨rfl, rfl, rfl, trivial⟩))
  refine WC.seq (WC.region ?_)
  refine WL.q (oq_move rfl) rfl rfl rfl ?_
  refine WL.q (oq_nilCheck rfl) rfl rfl rfl ?_
  refine WL.q (oq_fieldAddr fld39_0 rfl) rfl rfl rfl ?_
  refine WL.q (oq_load flat25 rfl (.head _) (List.mem_singleton.2 rfl) rfl) rfl rfl rfl ?_
  refine WL.q (oq_move rfl) rfl rfl rfl ?_
  refine WL.q (oq_sliceSl (i := 0) Tryz.underlying25 ty5 rfl (by (first | (simp only [List.length_nil]; omega) | omega)) ⟨_, rfl⟩ rfl (by (first | (simp only [List.length_nil]; omega) | omega)) (by (first | (simp only [List.length_nil]; omega) | omega))) rfl rfl rfl ?_
  refine WL.q (oq_move rfl) rfl rfl rfl ?_
  refine WL.f1 ?_
  refine WL.copyBS Tryz.underlying25 ty5 rfl rfl (by (first | (simp only [List.length_nil]; omega) | omega)) rfl rfl ?_
  refine WL.q (oq_assign rfl) rfl rfl rfl ?_
  refine WL.q (oq_assign rfl) rfl rfl rfl ?_
  refine WL.nil (WE.then_normal (WC.sub (fr' := [(4, _), (5, _)]) ?_ ⟨rfl, rfl, trivial⟩))
  refine WC.ret ?_
  refine WE.f2 ?_
  refine WE.f1 ?_
  refine WE.f2 ?_
  refine WE.endW2 (.inl rfl) (res2 Tryz.results166 rfl rfl) ?_
  refine wrote_of hB2 hL2 hc2 (by simp only [List.length_nil] at hc2; omega) hm2 ht2 (by simp only [List.length_nil]; omega) rfl ?_
  rw [show min data.length ([].length + data.length - 0) = data.length by simp, List.take_length]; rfl
 ·
  try simp only [Z1, Z2, Z3, Z4, Z5, Z6, Z7, Z8, Z9, Z0] at q3
  first | contradiction | (exfalso; omega) | (exfalso; simp_all; done)
theorem bufWrite (base bb : Nat) (lr : Int) (v : Value) (A : Hp) (acc data : List UInt8) (hb : Buf base v A acc) (s : Value) (C : Hp) (hr : RdS 1 s C data.length (bytesV data)) (hal : acc.length + data.length ≤ 140737488355328) (hne : 0 < acc.length + data.length) :
  FnW Tryz.prog 100 [Pt bb 0, s] base [BB bb v lr, A, C] (Wrote base bb acc data [C]) := by
 rcases hb with ⟨rfl, rfl, rfl⟩ | ⟨B, cap, L, rfl, rfl, hB, hL, hc, hc0, hm, ht⟩
 ·have h := write0 base bb lr data (by simpa using hal) (by simpa using hne) s C hr
  intro w0 R0 w hbase hw
  exact h w0 R0 w hbase (by simpa using hw)
 ·by_cases hf : acc.length + data.length ≤ cap
  ·rcases Nat.lt_or_ge acc.length cap with hl | hl
   ·exact writeY base bb lr data B cap L acc hB hL hc hc0 hm ht hal s C hr hf hl
   ·obtain rfl : cap = acc.length := by omega
    obtain rfl : data = [] := List.eq_nil_of_length_eq_zero (by omega)
    exact writeF base bb lr B L acc hB hL hc0 hm ht hal s C hr
  ·exact writeN base bb lr data B cap L acc hB hL hc hc0 hm ht hal s C hr hf
theorem bufWriteS (base bb : Nat) (lr : Int) (v : Value) (A : Hp) (acc data : List UInt8) (hb : Buf base v A acc) (hal : acc.length + data.length ≤ 140737488355328) (hne : 0 < acc.length + data.length) :
  FnW Tryz.prog 166 [Pt bb 0, S data] base [BB bb v lr, A] (Wrote base bb acc data []) := by
 have hsl : data.length ≤ maxLen := by unfold maxLen; omega
 rcases hb with ⟨rfl, rfl, rfl⟩ | ⟨B, cap, L, rfl, rfl, hB, hL, hc, hc0, hm, ht⟩
 ·have h := writeS0 base bb lr data (by simpa using hal) (by simpa using hne) hsl
  intro w0 R0 w hbase hw
  exact h w0 R0 w hbase (by simpa using hw)
 ·by_cases hf : acc.length + data.length ≤ cap
  ·rcases Nat.lt_or_ge acc.length cap with hl | hl
   ·exact writeSY base bb lr data B cap L acc hB hL hc hc0 hm ht hal hsl hf hl
   ·obtain rfl : cap = acc.length := by omega
    obtain rfl : data = [] := List.eq_nil_of_length_eq_zero (by omega)
    exact writeSF base bb lr B L acc hB hL hc0 hm ht hal hsl
  ·exact writeSN base bb lr data B cap L acc hB hL hc hc0 hm ht hal hsl hf
end EB
end Go.Proofs.YtpjeiimlglgklaaGreatDoor
/- The engine, part 28: numbers of 32 bits as bit vectors, the sum of a stream. Over any program. -/
namespace Go.Proofs.YtpjeiimlglgklaaGreatDoor.V
open Go Go.RowKit
set_option linter.unusedSimpArgs false
set_option linter.unusedVariables false
abbrev U32 (c : BitVec 32) : Value := .int .u32 (c.toNat : Int)
theorem ofInt_u32 (c : BitVec 32) : BitVec.ofInt IntKind.u32.bits (c.toNat : Int) = c := by
 show BitVec.ofInt 32 (c.toNat : Int) = c
 rw [BitVec.ofInt_natCast, BitVec.ofNat_toNat, BitVec.setWidth_eq]
theorem wrap_u32 (c : BitVec 32) : IntKind.u32.wrap (c.toNat : Int) = (c.toNat : Int) := wrap_in (by rw [u32_lo, u32_hi]; have := c.isLt; omega)
theorem bit_xor (a b : BitVec 32) : bitOp .xor .u32 (a.toNat : Int) (b.toNat : Int) = ((a ^^^ b).toNat : Int) := by
 unfold bitOp; simp only [ofInt_u32]; exact wrap_u32 _
theorem bit_and (a b : BitVec 32) : bitOp .and .u32 (a.toNat : Int) (b.toNat : Int) = ((a &&& b).toNat : Int) := by
 unfold bitOp; simp only [ofInt_u32]; exact wrap_u32 _
section
variable {P : Program} {n : Nat} {w0 : World} {ds : List Deferred} {fr : Fr} {H H' : List Hp} {dst : Option Tmp} {ty : TypeId} {pos : String} {aft : Array Edge} {g : Option (Nat × Bool)}
theorem oq_x32 {t t' : TypeId} {x y : Operand} {i j : Int} (a b : BitVec 32) (hx : ev fr x = some (.int .u32 i)) (hy : ev fr y = some (.int .u32 j)) (hi : i = (a.toNat : Int)) (hj : j = (b.toNat : Int)) : OV P n w0 ⟨dst, .binOp .xor t x y t', ty, pos, aft, g⟩ (U32 (a ^^^ b)) ds fr H := by
 subst hi hj
 have := oq_bits (op := .xor) (P := P) (n := n) (w0 := w0) (ds := ds) (H := H) (dst := dst) (ty := ty) (pos := pos) (aft := aft) (g := g) (t := t) (t' := t') hx hy (by simp)
 rwa [bit_xor] at this
theorem oq_a32 {t t' : TypeId} {x y : Operand} {i j : Int} (a b : BitVec 32) (hx : ev fr x = some (.int .u32 i)) (hy : ev fr y = some (.int .u32 j)) (hi : i = (a.toNat : Int)) (hj : j = (b.toNat : Int)) : OV P n w0 ⟨dst, .binOp .and t x y t', ty, pos, aft, g⟩ (U32 (a &&& b)) ds fr H := by
 subst hi hj
 have := oq_bits (op := .and) (P := P) (n := n) (w0 := w0) (ds := ds) (H := H) (dst := dst) (ty := ty) (pos := pos) (aft := aft) (g := g) (t := t) (t' := t') hx hy (by simp)
 rwa [bit_and] at this
theorem oq_s32 {t t' : TypeId} {x y : Operand} {k : IntKind} (a : BitVec 32) (hx : ev fr x = some (U32 a)) (hy : ev fr y = some (.int k 1)) : OV P n w0 ⟨dst, .binOp .shr t x y t', ty, pos, aft, g⟩ (U32 (a >>> 1)) ds fr H := by
 have := oq_shrl (P := P) (n := n) (w0 := w0) (ds := ds) (H := H) (dst := dst) (ty := ty) (pos := pos) (aft := aft) (g := g) (t := t) (t' := t') 2 hx hy (by decide) (by decide)
 have e : ((a.toNat : Int)) / (2 : Int) = ((a >>> 1).toNat : Int) := by
  rw [BitVec.toNat_ushiftRight, Nat.shiftRight_eq_div_pow]; omega
 rwa [e] at this
theorem oq_c32 {t : TypeId} {x : Operand} (a : BitVec 32) (hx : ev fr x = some (U32 a)) : OV P n w0 ⟨dst, .unOp .xor t x, ty, pos, aft, g⟩ (U32 (~~~ a)) ds fr H :=
 oq_of_run fun ac w hf _ => by
  have h1 : (Op.intBits .xor .u32 (IntKind.u32.max) (a.toNat : Int)).run P w = .ok (U32 (~~~ a)) w := by
   have h2 := bit_xor (BitVec.allOnes 32) a
   have h3 : ((BitVec.allOnes 32).toNat : Int) = IntKind.u32.max := by decide
   rw [h3, BitVec.allOnes_xor] at h2
   unfold bitOp at h2
   simp [Op.intBits, U32]
   simpa using h2
  have h4 : IntKind.u32.signed = false := rfl
  simp only [execOp, hf.eval hx, Op.unary, h4, Bool.false_eq_true, if_false, Sem.run_bind, h1, Result.andThen_ok, Sem.run_pure]
end
theorem OV.to {P : Program} {n : Nat} {w0 : World} {ds : List Deferred} {fr : Fr} {H : List Hp} {o : Oper} {v v' : Value} (h : OV P n w0 o v ds fr H) (e : v = v') : OV P n w0 o v' ds fr H := e ▸ h
theorem oq_askG {P : Program} {n : Nat} {w0 : World} {ds : List Deferred} {fr : Fr} {H : List Hp} {dst : Option Tmp} {ty : TypeId} {pos : String} {aft : Array Edge} {g : Option (Nat × Bool)} {k t u : TypeId} {x : Operand} {v z : Value} {size bytes : Nat} (hc : Conc P t) (hty : Ty P t z size bytes) (hx : ev fr x = some (.iface k v)) : OV P n w0 ⟨dst, .typeAssert x u t true, ty, pos, aft, g⟩ (.tuple #[if k = t then v else z, .bool (decide (k = t))]) ds fr H := by
 by_cases h : k = t
 ·subst h
  rw [if_pos rfl, decide_eq_true rfl]
  exact oq_askC hc hx
 ·rw [if_neg h, decide_eq_false h]
  refine oq_of_run fun a w hf _ => ?_
  obtain ⟨d', hd, hx'⟩ := hc
  obtain ⟨i, hi, hz, _⟩ := hty
  cases d' <;> simp_all [execOp, Instr.typeAssert, hf.eval hx, run_underlying hd, zeroValue, typeInfo]
section
variable {P : Program} {n : Nat} {w0 : World} {ds : List Deferred} {fr : Fr} {H H' : List Hp} {dst : Option Tmp} {ty : TypeId} {pos : String} {aft : Array Edge} {g : Option (Nat × Bool)}
variable {ops : Array Oper} {Q : Post} {rest : List Oper} {d : Nat}
theorem WE.endW7 {fn : Func} {e : Exit} {v : Value} {R : Value → List Hp → Prop} {R0 A B C D E F G : Hp} (he : e = .ret ∨ e = .normal) (hres : ∀ a w, Fits n [] fr a → St w0 ([A, B, C, D, E, F, G, R0] : List Hp).flatten w → (results fn a.tmps).run P w = .ok v w) (hR : R v [A, B, C, D, E, F, G]) :
  WE n w0 e (bodyPost P fn (postW w0 R0 R)) [] fr [A, B, C, D, E, F, G, R0] :=
 WE.body he hres fun w hw => ⟨_, [A, B, C, D, E, F, G], rfl, hR, by simpa using hw⟩
end
section
variable {P : Program} {n : Nat} {w0 : World} {ds : List Deferred} {fr : Fr} {H H' : List Hp} {dst : Option Tmp} {ty : TypeId} {pos : String} {aft : Array Edge} {g : Option (Nat × Bool)}
theorem oq_fldElF {s k o1 off sz m : Nat} {t : TypeId} {x : Operand} {v : Value} {A : Hp} {xs : List Value} {i : Int} (hf : Fld P s k off t) (hr : RdS sz v A m xs) (hx : ev fr x = some (adOff (elAddr sz v i) o1)) (h : 0 ≤ i ∧ i < m) :
  OV P n w0 ⟨dst, .fieldAddr s x k, ty, pos, aft, g⟩ (adOff (elAddr sz v i) (o1 + off)) ds fr H := by
 obtain ⟨b, o, c, e, fz, he, _, _⟩ := elAddr_pt hr h
 rw [he, show adOff (Pt b o) o1 = Pt b (o + o1) from by simp [adOff, add_none]] at hx
 have := oq_fieldAddr (P := P) (n := n) (w0 := w0) (ds := ds) (H := H) (dst := dst) (ty := ty) (pos := pos) (aft := aft) (g := g) hf hx
 rw [he, show adOff (Pt b o) (o1 + off) = Pt b (o + o1 + off) from by simp [adOff, add_none, Nat.add_assoc]]
 exact this
theorem oq_loadFS {α : Type} {f : α → List Value} {l : List α} {sz off size : Nat} {t : TypeId} {x : Operand} {v : Value} {A : Hp} {i : Int} {z : Value} {bytes : Nat} (dflt : α) (vs : List Value) (hf : ∀ x, (f x).length = sz) (hag : Agg P t) (hty : Ty P t z size bytes) (hr : RdS sz v A l.length (recsV f l)) (hA : A ∈ H) (hx : ev fr x = some (adOff (elAddr sz v i) off)) (h : 0 ≤ i ∧ i < l.length) {j : Nat} (hj : i.toNat = j) (hoff : off + size ≤ sz) (hl : vs.length = size) (hu : ((f (l.getD j dflt)).drop off).take size = vs) :
  OV P n w0 ⟨dst, .load t x, ty, pos, aft, g⟩ (.agg vs.toArray) ds fr H := by
 obtain ⟨b, o, c, e, fz, he, hb, hc⟩ := elAddr_pt hr h
 rw [he, show adOff (Pt b o) off = Pt b (o + off) from by simp [adOff, add_none]] at hx
 refine oq_loadAgg hag (by rw [hl]; exact hty) hx hA hb fun q u hq => ?_
 have hq2 : q < size := by rw [← hl]; exact (List.getElem?_eq_some_iff.1 hq).1
 rw [Nat.add_assoc, hc (off + q) (by omega), recs_get hf dflt l i.toNat (off + q) (by omega) (by omega), hj]
 rw [← hu, List.getElem?_take, if_pos hq2, List.getElem?_drop] at hq
 exact hq
end
/-! ### The sum -/
def crcBit (c : BitVec 32) : BitVec 32 := if (c &&& 1#32).toNat = 0 then c >>> 1 else (c >>> 1) ^^^ 3988292384#32
def crcBits : Nat → BitVec 32 → BitVec 32
 | 0, c => c
 | k + 1, c => crcBit (crcBits k c)
def crcByte (c : BitVec 32) (b : UInt8) : BitVec 32 := crcBits 8 (c ^^^ BitVec.ofNat 32 b.toNat)
def crcRaw (c : BitVec 32) (l : List UInt8) : BitVec 32 := l.foldl crcByte c
def crc (l : List UInt8) : BitVec 32 := ~~~ crcRaw (~~~ 0#32) l
theorem crcBits_odd {k : Nat} {c : BitVec 32} (h : ¬ ((crcBits k c &&& 1#32).toNat : Int) = 0) : U32 (crcBits k c >>> 1 ^^^ 3988292384#32) = U32 (crcBits (k + 1) c) := by
 show _ = U32 (crcBit (crcBits k c))
 unfold crcBit; rw [if_neg (by omega)]
theorem crcBits_even {k : Nat} {c : BitVec 32} (h : ((crcBits k c &&& 1#32).toNat : Int) = 0) : U32 (crcBits k c >>> 1) = U32 (crcBits (k + 1) c) := by
 show _ = U32 (crcBit (crcBits k c))
 unfold crcBit; rw [if_pos (by omega)]
theorem crcRaw_append (c : BitVec 32) (l m : List UInt8) : crcRaw c (l ++ m) = crcRaw (crcRaw c l) m := List.foldl_append
theorem crc_append (l m : List UInt8) : crc (l ++ m) = ~~~ crcRaw (~~~ crc l) m := by unfold crc; rw [BitVec.not_not, crcRaw_append]
theorem byte32 (b : UInt8) : ((BitVec.ofNat 32 b.toNat).toNat : Int) = (b.toNat : Int) := by
 rw [BitVec.toNat_ofNat]; have := b.toNat_lt; omega
theorem byteAt_get {l : List UInt8} {i : Nat} (h : i < l.length) : byteAt l (i : Int) = (l[i].toNat : Int) := by
 unfold byteAt; rw [Int.toNat_natCast, List.getD_eq_getElem?_getD, List.getElem?_eq_getElem h]; rfl
theorem crcRaw_step (c : BitVec 32) (l : List UInt8) (i : Nat) (h : i < l.length) : crcRaw c (l.take (i + 1)) = crcByte (crcRaw c (l.take i)) l[i] := by
 rw [List.take_add_one, crcRaw_append, List.getElem?_eq_getElem h]; rfl
/-! ### Numbers as bytes, the great end first -/
def beB (j : Nat) (x : Int) : UInt8 := UInt8.ofNat ((x / 2 ^ (8 * j)) % 256).toNat
def be : Nat → Int → List UInt8
 | 0, _ => []
 | w + 1, x => beB w x :: be w x
theorem be_len : ∀ (w : Nat) (x : Int), (be w x).length = w
 | 0, _ => rfl
 | w + 1, x => by rw [be, List.length_cons, be_len]
theorem be_get : ∀ (w m : Nat) (x : Int), m < w → (be w x)[m]? = some (beB (w - 1 - m) x)
 | w + 1, 0, x, _ => rfl
 | w + 1, m + 1, x, h => by
  rw [be, List.getElem?_cons_succ, be_get w m x (by omega), show w + 1 - 1 - (m + 1) = w - 1 - m by omega]
theorem beB_nat (j : Nat) (x : Int) : ((beB j x).toNat : Int) = (x / 2 ^ (8 * j)) % 256 := by
 unfold beB
 have h1 := Int.emod_nonneg (x / 2 ^ (8 * j)) (b := 256) (by decide)
 have h2 := Int.emod_lt_of_pos (x / 2 ^ (8 * j)) (b := 256) (by decide)
 rw [UInt8.toNat_ofNat']; omega
theorem wrap_u8 (i : Int) : IntKind.u8.wrap i = i % 256 := by simp [IntKind.wrap, IntKind.signed, IntKind.bits]
theorem be_shr {w m : Nat} {x : Int} (h : m < w) (hw : w ≤ 8) : Value.int .u8 (IntKind.u8.wrap (x.fdiv (2 ^ (min (8 * ((w : Int) - 1 - (m : Int))).toNat 64)))) = .int .u8 ((beB (w - 1 - m) x).toNat : Int) := by
 have e : min (8 * ((w : Int) - 1 - (m : Int))).toNat 64 = 8 * (w - 1 - m) := by omega
 rw [beB_nat, wrap_u8, e, Int.fdiv_eq_ediv_of_nonneg _ (Int.le_of_lt (Int.pow_pos (by decide)))]
theorem be_snoc {w m : Nat} {x : Int} (h : m < w) (hw : w ≤ 8) : bytesV ((be w x).take m) ++ [Value.int .u8 (IntKind.u8.wrap (x.fdiv (2 ^ (min (8 * ((w : Int) - 1 - (m : Int))).toNat 64))))] = bytesV ((be w x).take (m + 1)) := by
 rw [be_shr h hw, List.take_add_one, be_get w m x h]; simp [bytesV]
theorem Int.emul_emod_emod_helper (x : Int) (j d : Nat) : ((x % 2 ^ (8 * (j + 1 + d))) / 2 ^ (8 * j)) % 256 = (x / 2 ^ (8 * j)) % 256 := by
 have h1 : (2 : Int) ^ (8 * (j + 1 + d)) = 2 ^ (8 * j) * (256 * 2 ^ (8 * d)) := by
  rw [show 8 * (j + 1 + d) = 8 * j + (8 + 8 * d) by omega, Int.pow_add, Int.pow_add]; rfl
 have hp : (0 : Int) < 2 ^ (8 * j) := Int.pow_pos (by decide)
 rw [h1, Int.emod_def x, Int.mul_assoc, Int.sub_eq_add_neg, ← Int.mul_neg, Int.add_mul_ediv_left _ _ (Int.ne_of_gt hp), ← Int.mul_neg, Int.mul_assoc, Int.add_mul_emod_self_left]
theorem be_snocj {w j : Nat} {x : Int} (h : 0 < j) (hj : j ≤ w) (hw : w ≤ 8) : bytesV ((be w x).take (w - j)) ++ [Value.int .u8 (IntKind.u8.wrap (x.fdiv (2 ^ (min (8 * ((j : Int) - 1)).toNat IntKind.u64.bits))))] = bytesV ((be w x).take (w - (j - 1))) := by
 have h1 := be_snoc (w := w) (m := w - j) (x := x) (by omega) hw
 rw [show ((w : Int) - 1 - ((w - j : Nat) : Int)) = (j : Int) - 1 by omega, show w - j + 1 = w - (j - 1) by omega] at h1
 exact h1
theorem beB_mod (j w : Nat) (x : Int) (h : j < w) : beB j (x % 2 ^ (8 * w)) = beB j x := by
 have e : ((x % 2 ^ (8 * w)) / 2 ^ (8 * j)) % 256 = (x / 2 ^ (8 * j)) % 256 := by
  obtain ⟨d, rfl⟩ : ∃ d, w = j + 1 + d := ⟨w - (j + 1), by omega⟩
  have hx := Int.emul_emod_emod_helper x j d
  exact hx
 unfold beB; rw [e]
theorem be_mod : ∀ (w v : Nat) (x : Int), w ≤ v → be w (x % 2 ^ (8 * v)) = be w x
 | 0, _, _, _ => rfl
 | w + 1, v, x, h => by rw [be, be, beB_mod w v x (by omega), be_mod w v x (by omega)]
end Go.Proofs.YtpjeiimlglgklaaGreatDoor.V
/- The sum of a stream. -/
namespace Go.Proofs.YtpjeiimlglgklaaGreatDoor
open Go Go.RowKit V EA EB
set_option linter.unusedSimpArgs false
set_option linter.unusedVariables false
set_option maxRecDepth 10000
namespace EC
theorem flat5 : Flat Tryz.prog 5 := ⟨_, Tryz.underlying5, by simp⟩
theorem flat75 : Flat Tryz.prog 75 := ⟨_, Tryz.underlying75, by simp⟩
theorem ty5 : Ty Tryz.prog 5 (.int .u8 0) 1 1 := ty_of (by kernel_rfl)
theorem ty75 : Ty Tryz.prog 75 (.int .u32 0) 1 4 := ty_of (by kernel_rfl)
theorem fld77_0 : Fld Tryz.prog 77 0 0 75 := fld_of Tryz.underlying77 rfl rfl rfl ty75 (by decide)
theorem crcWrite (base hb : Nat) (acc : List UInt8) (v : Value) (A : Hp) (l : List UInt8) (hr : RdS 1 v A l.length (bytesV l)) (hl : l.length ≤ 140737488355328) : FnW Tryz.prog 114 [Pt hb 0, v] base [[(hb, .cells #[U32 (crc acc)] 77 (0, 0))], A] (fun w Hs => w = .tuple #[I (l.length : Int), .nilIface] ∧ Hs = [[(hb, .cells #[U32 (crc (acc ++ l))] 77 (0, 0))], A]) := by
 refine FnW.enter (n := 43) Tryz.func114 rfl rfl fun w0 R0 hbase => ?_
 subst hbase
 show WC _ _ _ _ _ _ _ ([[(hb, .cells #[U32 (crc acc)] 77 (0, 0))], A, R0])
 refine WC.sub (fr' := [(0, _), (1, _)]) ?_ ⟨rfl, rfl, trivial⟩
 refine WC.seq (WC.region ?_)
 refine WL.q (oq_assign rfl) rfl rfl rfl ?_
 refine WL.q (oq_assign rfl) rfl rfl rfl ?_
 refine WL.nil (WE.then_normal (WC.sub (fr' := [(0, _), (1, _)]) ?_ ⟨rfl, rfl, trivial⟩))
 refine WC.seq (WC.region ?_)
 refine WL.q (oq_move rfl) rfl rfl rfl ?_
 refine WL.q (oq_nilCheck rfl) rfl rfl rfl ?_
 refine WL.q (oq_fieldAddr fld77_0 rfl) rfl rfl rfl ?_
 refine WL.q (oq_load flat75 rfl (.head _) (List.mem_singleton.2 rfl) rfl) rfl rfl rfl ?_
 refine WL.q (oq_c32 _ rfl) rfl rfl rfl ?_
 refine WL.q (oq_assign rfl) rfl rfl rfl ?_
 refine WL.nil (WE.then_normal (WC.sub (fr' := [(0, _), (1, _), (6, _)]) ?_ ⟨rfl, rfl, rfl, trivial⟩))
 refine WC.seq (WC.seq (WC.region ?_))
 refine WL.q (oq_move rfl) rfl rfl rfl ?_
 refine WL.q (oq_len_rd hr Tryz.underlying25 rfl) rfl rfl rfl ?_
 refine WL.q (oq_move rfl) rfl rfl rfl ?_
 refine WL.nil (WE.then_normal (WC.sub (fr' := [(0, _), (1, _), (6, _), (14, _), (15, _), (16, _)]) ?_ ⟨rfl, rfl, rfl, rfl, rfl, rfl, trivial⟩))
 refine WC.block ?_
 refine WC.loop (ι := Nat) (fun (i : Nat) => [(0, Pt hb 0), (1, v), (6, U32 (crcRaw (~~~ crc acc) (l.take i))), (14, v), (15, I (l.length : Int)), (16, I (i : Int))]) (fun (i : Nat) => [[(hb, .cells #[U32 (crc acc)] 77 (0, 0))], A, R0]) (fun (i : Nat) => i ≤ l.length) (fun (i : Nat) => l.length - i) (0) ?_ ⟨rfl, rfl, rfl, rfl, rfl, rfl, trivial⟩ (List.Perm.refl _) ?_
 ·try dsimp only
  omega
 ·rintro i hp
  try dsimp only at hp
  obtain hi := hp
  show WC _ _ _ _ _ _ ([(0, Pt hb 0), (1, v), (6, U32 (crcRaw (~~~ crc acc) (l.take i))), (14, v), (15, I (l.length : Int)), (16, I (i : Int))]) ([[(hb, .cells #[U32 (crc acc)] 77 (0, 0))], A, R0])
  refine WC.seq (WC.region ?_)
  refine WL.q (oq_lss rfl rfl) rfl rfl rfl ?_
  refine WL.nil (WE.then_normal (WC.sub (fr' := [(0, _), (1, _), (6, _), (14, _), (15, _), (16, _), (17, _)]) ?_ ⟨rfl, rfl, rfl, rfl, rfl, rfl, rfl, trivial⟩))
  refine WC.seq ?_
  refine WC.cond rfl (fun q3 => ?_) (fun q3 => ?_)
  ·
   try simp only [Z1, Z2, Z3, Z4, Z5, Z6, Z7, Z8, Z9, Z0] at q3
   refine WC.skip (WE.then_normal (WC.sub (fr' := [(0, _), (1, _), (6, _), (14, _), (15, _), (16, _)]) ?_ ⟨rfl, rfl, rfl, rfl, rfl, rfl, trivial⟩))
   refine WC.seq (WC.block (WC.seq ?_))
   have hlt : i < l.length := by omega
   refine WC.region ?_
   refine WL.q (oq_ixaddr hr Tryz.underlying25 ty5 rfl rfl (by (first | omega | (simp only [List.length_cons, List.length_nil, List.length_append, List.length_drop, List.length_take]; omega)))) rfl rfl rfl ?_
   refine WL.load_byte hr (.tail _ (.head _)) flat5 rfl (by (first | omega | (simp only [List.length_cons, List.length_nil, List.length_append, List.length_drop, List.length_take]; omega))) rfl rfl fun c4_1 hc4_1 hc4_1l hc4_1u => ?_
   refine WL.q (oq_assign rfl) rfl rfl rfl ?_
   refine WL.nil (WE.then_normal (WC.sub (fr' := [(0, _), (1, _), (6, _), (8, _), (14, _), (15, _), (16, _)]) ?_ ⟨rfl, rfl, rfl, rfl, rfl, rfl, rfl, trivial⟩))
   refine WC.seq (WC.region ?_)
   refine WL.q (oq_move rfl) rfl rfl rfl ?_
   refine WL.q (oq_move rfl) rfl rfl rfl ?_
   refine WL.q (oq_conv Tryz.underlying5 Tryz.underlying75 rfl (by rw [u32_lo, u32_hi]; (first | omega | (simp only [List.length_cons, List.length_nil, List.length_append, List.length_drop, List.length_take]; omega)))) rfl rfl rfl ?_
   refine WL.q (oq_x32 _ (BitVec.ofNat 32 l[i].toNat) rfl rfl rfl (by rw [byte32, hc4_1, byteAt_get hlt])) rfl rfl rfl ?_
   refine WL.q (oq_assign rfl) rfl rfl rfl ?_
   refine WL.nil (WE.then_normal (WC.sub (fr' := [(0, _), (1, _), (6, _), (14, _), (15, _), (16, _)]) ?_ ⟨rfl, rfl, rfl, rfl, rfl, rfl, trivial⟩))
   refine WC.seq (WC.region ?_)
   refine WL.q (oq_move rfl) rfl rfl rfl ?_
   refine WL.nil (WE.then_normal (WC.sub (fr' := [(0, _), (1, _), (6, _), (14, _), (15, _), (16, _), (24, _)]) ?_ ⟨rfl, rfl, rfl, rfl, rfl, rfl, rfl, trivial⟩))
   refine WC.block ?_
   refine WC.loop (ι := Nat) (fun (k : Nat) => [(0, Pt hb 0), (1, v), (6, U32 (crcBits k (crcRaw (~~~ crc acc) (l.take i) ^^^ BitVec.ofNat 32 l[i].toNat))), (14, v), (15, I (l.length : Int)), (16, I (i : Int)), (24, I (k : Int))]) (fun (k : Nat) => [[(hb, .cells #[U32 (crc acc)] 77 (0, 0))], A, R0]) (fun (k : Nat) => k ≤ 8) (fun (k : Nat) => 8 - k) (0) ?_ ⟨rfl, rfl, rfl, rfl, rfl, rfl, rfl, trivial⟩ (List.Perm.refl _) ?_
   ·try dsimp only
    omega
   ·rintro k hp
    try dsimp only at hp
    obtain hk := hp
    show WC _ _ _ _ _ _ ([(0, Pt hb 0), (1, v), (6, U32 (crcBits k (crcRaw (~~~ crc acc) (l.take i) ^^^ BitVec.ofNat 32 l[i].toNat))), (14, v), (15, I (l.length : Int)), (16, I (i : Int)), (24, I (k : Int))]) ([[(hb, .cells #[U32 (crc acc)] 77 (0, 0))], A, R0])
    refine WC.seq (WC.region ?_)
    refine WL.q (oq_lss rfl rfl) rfl rfl rfl ?_
    refine WL.nil (WE.then_normal (WC.sub (fr' := [(0, _), (1, _), (6, _), (14, _), (15, _), (16, _), (24, _), (25, _)]) ?_ ⟨rfl, rfl, rfl, rfl, rfl, rfl, rfl, rfl, trivial⟩))
    refine WC.seq ?_
    refine WC.cond rfl (fun q7 => ?_) (fun q7 => ?_)
    ·
     try simp only [Z1, Z2, Z3, Z4, Z5, Z6, Z7, Z8, Z9, Z0] at q7
     refine WC.skip (WE.then_normal (WC.sub (fr' := [(0, _), (1, _), (6, _), (14, _), (15, _), (16, _), (24, _)]) ?_ ⟨rfl, rfl, rfl, rfl, rfl, rfl, rfl, trivial⟩))
     refine WC.seq (WC.block (WC.seq (WC.region ?_)))
     refine WL.q (oq_move rfl) rfl rfl rfl ?_
     refine WL.q (oq_a32 _ 1#32 rfl rfl rfl rfl) rfl rfl rfl ?_
     refine WL.q (oq_neq rfl rfl) rfl rfl rfl ?_
     refine WL.nil (WE.then_normal (WC.sub (fr' := [(0, _), (1, _), (6, _), (14, _), (15, _), (16, _), (24, _), (28, _)]) ?_ ⟨rfl, rfl, rfl, rfl, rfl, rfl, rfl, rfl, trivial⟩))
     refine WC.cond rfl (fun q8 => ?_) (fun q8 => ?_)
     ·
      try simp only [Z1, Z2, Z3, Z4, Z5, Z6, Z7, Z8, Z9, Z0] at q8
      refine WC.region ?_
      refine WL.q (oq_move rfl) rfl rfl rfl ?_
      refine WL.q (oq_s32 _ rfl rfl) rfl rfl rfl ?_
      refine WL.q ((oq_x32 _ 3988292384#32 rfl rfl rfl rfl).to (crcBits_odd q8)) rfl rfl rfl ?_
      refine WL.q (oq_assign rfl) rfl rfl rfl ?_
      refine WL.nil (WE.block_normal (WE.then_normal (WC.sub (fr' := [(0, _), (1, _), (6, _), (14, _), (15, _), (16, _), (24, _)]) ?_ ⟨rfl, rfl, rfl, rfl, rfl, rfl, rfl, trivial⟩)))
      refine WC.region ?_
      refine WL.q (oq_add rfl rfl (by rw [i64_lo, i64_hi]; (first | omega | (simp only [List.length_cons, List.length_nil, List.length_append, List.length_drop, List.length_take]; omega)))) rfl rfl rfl ?_
      refine WL.q (oq_move rfl) rfl rfl rfl ?_
      refine WL.nil ?_
      refine WE.again (k + 1) ?_ ?_ ⟨rfl, rfl, rfl, rfl, rfl, rfl, rfl, trivial⟩ (List.Perm.refl _)
      ·try dsimp only
       omega
      ·(try dsimp only); omega
     ·
      try simp only [Z1, Z2, Z3, Z4, Z5, Z6, Z7, Z8, Z9, Z0] at q8
      refine WC.region ?_
      refine WL.q (oq_move rfl) rfl rfl rfl ?_
      refine WL.q ((oq_s32 _ rfl rfl).to (crcBits_even q8)) rfl rfl rfl ?_
      refine WL.q (oq_assign rfl) rfl rfl rfl ?_
      refine WL.nil (WE.block_normal (WE.then_normal (WC.sub (fr' := [(0, _), (1, _), (6, _), (14, _), (15, _), (16, _), (24, _)]) ?_ ⟨rfl, rfl, rfl, rfl, rfl, rfl, rfl, trivial⟩)))
      refine WC.region ?_
      refine WL.q (oq_add rfl rfl (by rw [i64_lo, i64_hi]; (first | omega | (simp only [List.length_cons, List.length_nil, List.length_append, List.length_drop, List.length_take]; omega)))) rfl rfl rfl ?_
      refine WL.q (oq_move rfl) rfl rfl rfl ?_
      refine WL.nil ?_
      refine WE.again (k + 1) ?_ ?_ ⟨rfl, rfl, rfl, rfl, rfl, rfl, rfl, trivial⟩ (List.Perm.refl _)
      ·try dsimp only
       omega
      ·(try dsimp only); omega
    ·
     try simp only [Z1, Z2, Z3, Z4, Z5, Z6, Z7, Z8, Z9, Z0] at q7
     refine WC.exit (WE.then_exit (WE.then_exit (WE.block_same (WE.block_normal (WE.then_normal (WC.sub (fr' := [(0, _), (1, _), (6, _), (14, _), (15, _), (16, _)]) ?_ ⟨rfl, rfl, rfl, rfl, rfl, rfl, trivial⟩))))))
     obtain rfl : k = 8 := by omega
     rw [show crcBits 8 (crcRaw (~~~ crc acc) (l.take i) ^^^ BitVec.ofNat 32 l[i].toNat) = crcRaw (~~~ crc acc) (l.take (i + 1)) from (crcRaw_step _ l i _).symm]
     refine WC.region ?_
     refine WL.q (oq_add rfl rfl (by rw [i64_lo, i64_hi]; (first | omega | (simp only [List.length_cons, List.length_nil, List.length_append, List.length_drop, List.length_take]; omega)))) rfl rfl rfl ?_
     refine WL.q (oq_move rfl) rfl rfl rfl ?_
     refine WL.nil ?_
     refine WE.again (i + 1) ?_ ?_ ⟨rfl, rfl, rfl, rfl, rfl, rfl, trivial⟩ (List.Perm.refl _)
     ·try dsimp only
      omega
     ·(try dsimp only); omega
  ·
   try simp only [Z1, Z2, Z3, Z4, Z5, Z6, Z7, Z8, Z9, Z0] at q3
   refine WC.exit (WE.then_exit (WE.then_exit (WE.block_same (WE.then_normal (WC.sub (fr' := [(0, _), (1, _), (6, _)]) ?_ ⟨rfl, rfl, rfl, trivial⟩)))))
   refine WC.seq ?_
   obtain rfl : i = l.length := by omega
   rw [List.take_length]
   refine WC.region ?_
   refine WL.q (oq_move rfl) rfl rfl rfl ?_
   refine WL.q (oq_move rfl) rfl rfl rfl ?_
   refine WL.q (oq_c32 _ rfl) rfl rfl rfl ?_
   refine WL.q (oq_nilCheck rfl) rfl rfl rfl ?_
   refine WL.q (oq_fieldAddr fld77_0 rfl) rfl rfl rfl ?_
   refine WL.store ty75 rfl rfl rfl (by exact Nat.zero_lt_one) (by simp) rfl ?_
   refine WL.nil (WE.then_normal (WC.sub (fr' := [(1, _)]) ?_ ⟨rfl, trivial⟩))
   refine WC.seq (WC.region ?_)
   refine WL.q (oq_move rfl) rfl rfl rfl ?_
   refine WL.q (oq_len_rd hr Tryz.underlying25 rfl) rfl rfl rfl ?_
   refine WL.q (oq_assign rfl) rfl rfl rfl ?_
   refine WL.q (oq_assign rfl) rfl rfl rfl ?_
   refine WL.nil (WE.then_normal (WC.sub (fr' := [(4, _), (5, _)]) ?_ ⟨rfl, rfl, trivial⟩))
   refine WC.ret ?_
   refine WE.endW2 (.inl rfl) (res2 Tryz.results114 rfl rfl) ?_
   exact ⟨rfl, by rw [crc_append]; rfl⟩
theorem sum32 (hb : Nat) (c : BitVec 32) : FnR Tryz.prog 30 [Pt hb 0] [(hb, .cells #[U32 c] 77 (0, 0))] (U32 c) := by
 refine FnR.enter (n := 7) Tryz.func30 rfl rfl fun w0 => ?_
 refine WC.sub (fr' := [(0, _)]) ?_ ⟨rfl, trivial⟩
 refine WC.seq (WC.region ?_)
 refine WL.q (oq_assign rfl) rfl rfl rfl ?_
 refine WL.nil (WE.then_normal (WC.sub (fr' := [(0, _)]) ?_ ⟨rfl, trivial⟩))
 refine WC.seq (WC.region ?_)
 refine WL.q (oq_move rfl) rfl rfl rfl ?_
 refine WL.q (oq_nilCheck rfl) rfl rfl rfl ?_
 refine WL.q (oq_fieldAddr fld77_0 rfl) rfl rfl rfl ?_
 refine WL.q (oq_load flat75 rfl (.head _) (List.mem_singleton.2 rfl) rfl) rfl rfl rfl ?_
 refine WL.q (oq_assign rfl) rfl rfl rfl ?_
 refine WL.nil (WE.then_normal (WC.sub (fr' := [(2, _)]) ?_ ⟨rfl, trivial⟩))
 refine WC.ret ?_
 refine WE.endR (.inl rfl) (res1 Tryz.results30 rfl) ?_
 rfl
end EC
end Go.Proofs.YtpjeiimlglgklaaGreatDoor
/- Writers. -/
namespace Go.Proofs.YtpjeiimlglgklaaGreatDoor
open Go Go.RowKit V EA EB EC
set_option linter.unusedSimpArgs false
set_option linter.unusedVariables false
set_option maxRecDepth 10000
namespace ED
theorem call24 : Callable Tryz.prog 24 := ⟨_, Tryz.func24, rfl, by kernel_rfl⟩
theorem call27 : Callable Tryz.prog 27 := ⟨_, Tryz.func27, rfl, by kernel_rfl⟩
theorem call38 : Callable Tryz.prog 38 := ⟨_, Tryz.func38, rfl, by kernel_rfl⟩
theorem flat3 : Flat Tryz.prog 3 := ⟨_, Tryz.underlying3, by simp⟩
theorem flat25 : Flat Tryz.prog 25 := ⟨_, Tryz.underlying25, by simp⟩
theorem flat72 : Flat Tryz.prog 72 := ⟨_, Tryz.underlying72, by simp⟩
theorem flat102 : Flat Tryz.prog 102 := ⟨_, Tryz.underlying102, by simp⟩
theorem ty3 : Ty Tryz.prog 3 (.int .i64 0) 1 8 := ty_of (by kernel_rfl)
theorem ty5 : Ty Tryz.prog 5 (.int .u8 0) 1 1 := ty_of (by kernel_rfl)
theorem ty25 : Ty Tryz.prog 25 (.slice none 0 0) 1 24 := ty_of (by kernel_rfl)
theorem ty37 : Ty Tryz.prog 37 (.int .i8 0) 1 1 := ty_of (by kernel_rfl)
theorem ty39 : Ty Tryz.prog 39 (.agg #[(.slice none 0 0), (.int .i64 0), (.int .i8 0)]) 3 40 := ty_of (by kernel_rfl)
theorem ty72 : Ty Tryz.prog 72 .nilIface 1 16 := ty_of (by kernel_rfl)
theorem ty102 : Ty Tryz.prog 102 (.slice none 0 0) 1 24 := ty_of (by kernel_rfl)
theorem str39 : Str Tryz.prog 39 #[(0, 1), (1, 1), (2, 1)] := ⟨_, Tryz.underlying39, fun w => by kernel_rfl⟩
theorem fld39_0 : Fld Tryz.prog 39 0 0 25 := fld_of Tryz.underlying39 rfl rfl rfl ty25 (by decide)
theorem fld39_1 : Fld Tryz.prog 39 1 1 3 := fld_of Tryz.underlying39 rfl rfl rfl ty3 (by decide)
theorem fld39_2 : Fld Tryz.prog 39 2 2 37 := fld_of Tryz.underlying39 rfl rfl rfl ty37 (by decide)
theorem fld106_0 : Fld Tryz.prog 106 0 0 102 := fld_of Tryz.underlying106 rfl rfl rfl ty102 (by decide)
structure Wr (base : Nat) (k : TypeId) (r : Value) (f : FuncId) (Wt : List UInt8 → Hp → Prop) : Prop where
 inv : Inv1 Tryz.prog k "Write" f
 nok : NilOk Tryz.prog k r "Write"
 run : ∀ (acc : List UInt8) (G : Hp) (s : Value) (C : Hp) (data : List UInt8), Wt acc G → RdS 1 s C data.length (bytesV data) → acc.length + data.length ≤ 100000000000000 → 0 < acc.length + data.length →
  FnW Tryz.prog f [r, s] base [G, C] (fun w Hs => ∃ G', w = .tuple #[I (data.length : Int), .nilIface] ∧ Hs = [G', C] ∧ Wt (acc ++ data) G')
def BufG (base bb : Nat) (acc : List UInt8) (G : Hp) : Prop := ∃ v lr A, G = BB bb v lr ++ A ∧ Buf base v A acc
theorem invBW : Inv1 Tryz.prog 45 "Write" 100 := fun x a w => by kernel_rfl
theorem invBT : Inv1 Tryz.prog 45 "WriteTo" 101 := fun x a w => by kernel_rfl
theorem invCW : Inv1 Tryz.prog 74 "Write" 114 := fun x a w => by kernel_rfl
theorem invMW : Inv1 Tryz.prog 103 "Write" 115 := fun x a w => by kernel_rfl
theorem nokBW (p : Addr) : NilOk Tryz.prog 45 (.pointer (some p)) "Write" := fun w => by kernel_rfl
theorem nokMW (p : Addr) : NilOk Tryz.prog 103 (.pointer (some p)) "Write" := fun w => by kernel_rfl
theorem askBT : AskYes Tryz.prog 45 141 := fun x u w => by kernel_rfl
theorem bufWr (base bb : Nat) : Wr base 45 (Pt bb 0) 100 (BufG base bb) := by
 refine ⟨invBW, nokBW _, ?_⟩
 rintro acc G s C data ⟨v, lr, A, rfl, hb⟩ hr hl h0 w0 R0 w hbase hw
 refine (bufWrite base bb lr v A acc data hb s C hr (by omega) h0 w0 R0 w hbase (by simpa using hw)).mono ?_
 rintro e w' ⟨u, Hs, he, ⟨v2, A2, rfl, rfl, hb2⟩, hst⟩
 exact ⟨_, [BB bb v2 0 ++ A2, C], he, ⟨_, rfl, rfl, v2, 0, A2, rfl, hb2⟩, by simpa using hst⟩
def MwStep (base : Nat) (ws : List Value) (s : Value) (C : Hp) (n : Nat) (St2 : Nat → Hp → Prop) : Prop :=
 ∀ i, i < ws.length → ∃ k r f, ws[((i : Nat) : Int).toNat]? = some (.iface k r) ∧ Inv1 Tryz.prog k "Write" f ∧ ∀ G, St2 i G → FnW Tryz.prog f [r, s] base [G, C] (fun w Hs => ∃ G', w = .tuple #[I (n : Int), .nilIface] ∧ Hs = [G', C] ∧ St2 (i + 1) G')
theorem mwWrite (base mb : Nat) (v : Value) (Ws : Hp) (ws : List Value) (hrw : RdS 1 v Ws ws.length ws) (hn : ws.length ≤ 1000) (s : Value) (C : Hp) (l : List UInt8) (hr : RdS 1 s C l.length (bytesV l)) (hl : l.length ≤ 140737488355328) (St2 : Nat → Hp → Prop) (hstep : MwStep base ws s C l.length St2) (G : Hp) (hG : St2 0 G) : FnW Tryz.prog 115 [Pt mb 0, s] base [[(mb, .cells #[v] 106 (0, 0))], Ws, G, C] (fun w Hs => ∃ G2, w = .tuple #[I (l.length : Int), .nilIface] ∧ Hs = [[(mb, .cells #[v] 106 (0, 0))], Ws, G2, C] ∧ St2 ws.length G2) := by
 refine FnW.enter (n := 33) Tryz.func115 rfl rfl fun w0 R0 hbase => ?_
 subst hbase
 show WC _ _ _ _ _ _ _ ([[(mb, .cells #[v] 106 (0, 0))], Ws, G, C, R0])
 refine WC.sub (fr' := [(0, _), (1, _)]) ?_ ⟨rfl, rfl, trivial⟩
 refine WC.seq (WC.region ?_)
 refine WL.q (oq_assign rfl) rfl rfl rfl ?_
 refine WL.q (oq_assign rfl) rfl rfl rfl ?_
 refine WL.nil (WE.then_normal (WC.sub (fr' := [(0, _), (1, _)]) ?_ ⟨rfl, rfl, trivial⟩))
 refine WC.seq (WC.seq (WC.region ?_))
 refine WL.q (oq_move rfl) rfl rfl rfl ?_
 refine WL.q (oq_nilCheck rfl) rfl rfl rfl ?_
 refine WL.q (oq_fieldAddr fld106_0 rfl) rfl rfl rfl ?_
 refine WL.q (oq_load flat102 rfl (.head _) (List.mem_singleton.2 rfl) rfl) rfl rfl rfl ?_
 refine WL.q (oq_len_rd hrw Tryz.underlying102 rfl) rfl rfl rfl ?_
 refine WL.q (oq_move rfl) rfl rfl rfl ?_
 refine WL.nil (WE.then_normal (WC.sub (fr' := [(1, _), (11, _), (12, _), (13, _)]) ?_ ⟨rfl, rfl, rfl, rfl, trivial⟩))
 refine WC.block ?_
 refine WC.loop (ι := Nat × Hp) (fun i_ => (fun (i : Nat) (X : Hp) => [(1, s), (11, v), (12, I (ws.length : Int)), (13, I (i : Int))]) i_.1 i_.2) (fun i_ => (fun (i : Nat) (X : Hp) => [[(mb, .cells #[v] 106 (0, 0))], Ws, X, C, R0]) i_.1 i_.2) (fun i_ => (fun (i : Nat) (X : Hp) => i ≤ ws.length ∧ St2 i X) i_.1 i_.2) (fun i_ => (fun (i : Nat) (X : Hp) => ws.length - i) i_.1 i_.2) ((0, G)) ?_ ⟨rfl, rfl, rfl, rfl, trivial⟩ (List.Perm.refl _) ?_
 ·try dsimp only
  exact ⟨by omega, hG⟩
 ·rintro ⟨i, X⟩ hp
  try dsimp only at hp
  obtain ⟨hi, hX⟩ := hp
  show WC _ _ _ _ _ _ ([(1, s), (11, v), (12, I (ws.length : Int)), (13, I (i : Int))]) ([[(mb, .cells #[v] 106 (0, 0))], Ws, X, C, R0])
  refine WC.seq (WC.region ?_)
  refine WL.q (oq_lss rfl rfl) rfl rfl rfl ?_
  refine WL.nil (WE.then_normal (WC.sub (fr' := [(1, _), (11, _), (12, _), (13, _), (14, _)]) ?_ ⟨rfl, rfl, rfl, rfl, rfl, trivial⟩))
  refine WC.seq ?_
  refine WC.cond rfl (fun q2 => ?_) (fun q2 => ?_)
  ·
   try simp only [Z1, Z2, Z3, Z4, Z5, Z6, Z7, Z8, Z9, Z0] at q2
   refine WC.skip (WE.then_normal (WC.sub (fr' := [(1, _), (11, _), (12, _), (13, _)]) ?_ ⟨rfl, rfl, rfl, rfl, trivial⟩))
   refine WC.seq (WC.block (WC.seq ?_))
   obtain ⟨k, r, f, hwi, hinv, hrun⟩ := hstep i (by omega)
   refine WC.region ?_
   refine WL.q (oq_ixaddr hrw Tryz.underlying102 ty72 rfl rfl (by (first | omega | (simp only [List.length_cons, List.length_nil, List.length_append, List.length_drop, List.length_take]; omega)))) rfl rfl rfl ?_
   refine WL.q (oq_load_el hrw (by repeat (first | exact .head _ | apply List.Mem.tail)) flat72 rfl (by omega) hwi) rfl rfl rfl ?_
   refine WL.q (oq_assign rfl) rfl rfl rfl ?_
   refine WL.nil (WE.then_normal (WC.sub (fr' := [(1, _), (7, _), (11, _), (12, _), (13, _)]) ?_ ⟨rfl, rfl, rfl, rfl, rfl, trivial⟩))
   refine WC.seq (WC.region ?_)
   refine WL.q (oq_move rfl) rfl rfl rfl ?_
   refine WL.q (oq_move rfl) rfl rfl rfl ?_
   refine WL.f3 ?_
   refine WL.f3 ?_
   refine WL.callWE (fun a w hf => ent_inv1 hinv rfl rfl hf w) (hrun X hX) rfl rfl rfl rfl fun v4_2 Hs4_2 hR4_2 => ?_
   obtain ⟨X2, rfl, rfl, hX2⟩ := hR4_2
   refine WL.app2 ?_
   refine WL.q (oq_move rfl) rfl rfl rfl ?_
   refine WL.q (oq_extract rfl rfl) rfl rfl rfl ?_
   refine WL.q (oq_extract rfl rfl) rfl rfl rfl ?_
   refine WL.q (oq_assign rfl) rfl rfl rfl ?_
   refine WL.q (oq_assign rfl) rfl rfl rfl ?_
   refine WL.nil (WE.then_normal (WC.sub (fr' := [(1, _), (4, _), (5, _), (11, _), (12, _), (13, _)]) ?_ ⟨rfl, rfl, rfl, rfl, rfl, rfl, trivial⟩))
   refine WC.seq (WC.seq (WC.region ?_))
   refine WL.q (oq_move rfl) rfl rfl rfl ?_
   refine WL.q (oq_ineq Tryz.underlying41 rfl (.inl rfl)) rfl rfl rfl ?_
   refine WL.nil (WE.then_normal (WC.sub (fr' := [(1, _), (4, _), (5, _), (11, _), (12, _), (13, _), (24, _)]) ?_ ⟨rfl, rfl, rfl, rfl, rfl, rfl, rfl, trivial⟩))
   refine WC.cond rfl (fun q5 => ?_) (fun q5 => ?_)
   ·
    try simp only [Z1, Z2, Z3, Z4, Z5, Z6, Z7, Z8, Z9, Z0] at q5
    first | contradiction | (exfalso; omega) | (exfalso; simp_all; done)
   ·
    try simp only [Z1, Z2, Z3, Z4, Z5, Z6, Z7, Z8, Z9, Z0] at q5
    refine WC.skip (WE.then_normal (WC.sub (fr' := [(1, _), (4, _), (11, _), (12, _), (13, _)]) ?_ ⟨rfl, rfl, rfl, rfl, rfl, trivial⟩))
    refine WC.seq (WC.region ?_)
    refine WL.q (oq_move rfl) rfl rfl rfl ?_
    refine WL.q (oq_move rfl) rfl rfl rfl ?_
    refine WL.q (oq_len_rd hr Tryz.underlying25 rfl) rfl rfl rfl ?_
    refine WL.q (oq_neq rfl rfl) rfl rfl rfl ?_
    refine WL.nil (WE.then_normal (WC.sub (fr' := [(1, _), (4, _), (11, _), (12, _), (13, _), (28, _)]) ?_ ⟨rfl, rfl, rfl, rfl, rfl, rfl, trivial⟩))
    refine WC.cond rfl (fun q6 => ?_) (fun q6 => ?_)
    ·
     try simp only [Z1, Z2, Z3, Z4, Z5, Z6, Z7, Z8, Z9, Z0] at q6
     first | contradiction | (exfalso; omega) | (exfalso; simp_all; done)
    ·
     try simp only [Z1, Z2, Z3, Z4, Z5, Z6, Z7, Z8, Z9, Z0] at q6
     refine WC.skip (WE.block_normal (WE.then_normal (WC.sub (fr' := [(1, _), (11, _), (12, _), (13, _)]) ?_ ⟨rfl, rfl, rfl, rfl, trivial⟩)))
     refine WC.region ?_
     refine WL.q (oq_add rfl rfl (by rw [i64_lo, i64_hi]; (first | omega | (simp only [List.length_cons, List.length_nil, List.length_append, List.length_drop, List.length_take]; omega)))) rfl rfl rfl ?_
     refine WL.q (oq_move rfl) rfl rfl rfl ?_
     refine WL.nil ?_
     refine WE.f4 ?_
     refine WE.f2 ?_
     refine WE.f2 ?_
     refine WE.f4 ?_
     refine WE.f4 ?_
     refine WE.again (i + 1, X2) ?_ ?_ ⟨rfl, rfl, rfl, rfl, trivial⟩ (List.Perm.refl _)
     ·try dsimp only
      exact ⟨by omega, hX2⟩
     ·(try dsimp only); omega
  ·
   try simp only [Z1, Z2, Z3, Z4, Z5, Z6, Z7, Z8, Z9, Z0] at q2
   refine WC.exit (WE.then_exit (WE.then_exit (WE.block_same (WE.then_normal (WC.sub (fr' := [(1, _)]) ?_ ⟨rfl, trivial⟩)))))
   refine WC.seq ?_
   obtain rfl : i = ws.length := by omega
   refine WC.region ?_
   refine WL.q (oq_move rfl) rfl rfl rfl ?_
   refine WL.q (oq_len_rd hr Tryz.underlying25 rfl) rfl rfl rfl ?_
   refine WL.q (oq_assign rfl) rfl rfl rfl ?_
   refine WL.q (oq_assign rfl) rfl rfl rfl ?_
   refine WL.nil (WE.then_normal (WC.sub (fr' := [(4, _), (5, _)]) ?_ ⟨rfl, rfl, trivial⟩))
   refine WC.ret ?_
   refine WE.endW4 (.inl rfl) (res2 Tryz.results115 rfl rfl) ?_
   exact ⟨_, rfl, rfl, hX⟩
theorem writeTo (base : Nat) (k : TypeId) (r : Value) (f : FuncId) (Wt : List UInt8 → Hp → Prop) (hW : Wr base k r f Wt) (acc0 : List UInt8) (G : Hp) (hG : Wt acc0 G) (bb B cap : Nat) (lr : Int) (L acc : List UInt8) (hB : base ≤ B) (hLc : L.length = cap) (hac : acc.length ≤ cap) (hc0 : 0 < cap) (hmx : cap ≤ maxLen) (hLt : L.take acc.length = acc) (ha0 : 0 < acc.length) (hal : acc0.length + acc.length ≤ 100000000000000) : FnW Tryz.prog 101 [Pt bb 0, .iface k r] base [[(bb, .cells #[Sl B 0 acc.length cap, I 0, .int .i8 lr] 39 (0, 0))], Bf B 5 L, G] (fun w Hs => ∃ G2, w = .tuple #[I (acc.length : Int), .nilIface] ∧ Hs = [[(bb, .cells #[Sl B 0 0 cap, I 0, .int .i8 0] 39 (0, 0))], Bf B 5 L, G2] ∧ Wt (acc0 ++ acc) G2) := by
 have hmz : maxLen ≤ 9223372036854775807 := by unfold maxLen; omega
 have hrd : RdS 1 (Sl B 0 acc.length cap) (Bf B 5 L) acc.length (bytesV acc) := by have := Sl.rd (b := B) (off := 0) (n := acc.length) (c := cap) (e := 5) (l := L) (by omega) hac; rw [List.drop_zero, hLt] at this; exact this
 refine FnW.enter (n := 58) Tryz.func101 rfl rfl fun w0 R0 hbase => ?_
 subst hbase
 show WC _ _ _ _ _ _ _ ([[(bb, .cells #[Sl B 0 acc.length cap, I 0, .int .i8 lr] 39 (0, 0))], Bf B 5 L, G, R0])
 refine WC.sub (fr' := [(0, _), (1, _)]) ?_ ⟨rfl, rfl, trivial⟩
 refine WC.seq (WC.region ?_)
 refine WL.q (oq_assign rfl) rfl rfl rfl ?_
 refine WL.q (oq_assign rfl) rfl rfl rfl ?_
 refine WL.nil (WE.then_normal (WC.sub (fr' := [(0, _), (1, _), (4, _)]) ?_ ⟨rfl, rfl, rfl, trivial⟩))
 refine WC.seq (WC.region ?_)
 refine WL.q (oq_move rfl) rfl rfl rfl ?_
 refine WL.q (oq_nilCheck rfl) rfl rfl rfl ?_
 refine WL.q (oq_fieldAddr fld39_2 rfl) rfl rfl rfl ?_
 refine WL.store1 #[_, _, _] ty37 rfl rfl (by first | rfl | exact OwS.one one_) (Nat.lt_of_lt_of_le (Nat.lt_succ_self _) (Nat.le_of_ble_eq_true rfl)) rfl rfl ?_
 refine WL.nil (WE.then_normal (WC.sub (fr' := [(0, _), (1, _), (4, _)]) ?_ ⟨rfl, rfl, rfl, trivial⟩))
 refine WC.seq (WC.seq (WC.region ?_))
 refine WL.q (oq_move rfl) rfl rfl rfl ?_
 refine WL.qc (oq_callRm (bufLen bb acc.length cap (some ⟨B, 0, none⟩) 0 (by omega)) (.head _) call27 rfl) rfl rfl rfl ?_
 refine WL.q (oq_assign rfl) rfl rfl rfl ?_
 refine WL.nil (WE.then_normal (WC.sub (fr' := [(0, _), (1, _), (4, _), (6, _)]) ?_ ⟨rfl, rfl, rfl, rfl, trivial⟩))
 refine WC.seq (WC.region ?_)
 refine WL.q (oq_move rfl) rfl rfl rfl ?_
 refine WL.q (oq_gtr rfl rfl) rfl rfl rfl ?_
 refine WL.nil (WE.then_normal (WC.sub (fr' := [(0, _), (1, _), (4, _), (6, _), (15, _)]) ?_ ⟨rfl, rfl, rfl, rfl, rfl, trivial⟩))
 refine WC.cond rfl (fun q3 => ?_) (fun q3 => ?_)
 ·
  try simp only [Z1, Z2, Z3, Z4, Z5, Z6, Z7, Z8, Z9, Z0] at q3
  refine WC.seq ?_
  refine WC.tailM (pl := []) (ql := [_, _, _, _, _, _, _, _, _, _, _, _, _]) (tl := [_, _, _, _, _, _]) [] [0, 1, 2, 3, 4, 5, 6, 7, 8, 9, 10, 11, 12] 13 [14, 15, 16, 17, 18] (by kernel_rfl) (by kernel_rfl) (by kernel_rfl) (by kernel_rfl) (by kernel_rfl) (by kernel_rfl) (by decide) rfl rfl rfl (by decide) (by repeat (first | with_reducible exact QOk.body | with_reducible apply QOk.then | with_reducible apply QOk.block | exact QOk.body | apply QOk.then | apply QOk.block)) ?_
  refine WM.nil ?_
  refine WY.q (oq_move rfl) rfl rfl rfl ?_
  refine WY.q (oq_move rfl) rfl rfl rfl ?_
  refine WY.q (oq_nilCheck rfl) rfl rfl rfl ?_
  refine WY.q (oq_fieldAddr fld39_0 rfl) rfl rfl rfl ?_
  refine WY.q (oq_load flat25 rfl (.head _) (List.mem_singleton.2 rfl) rfl) rfl rfl rfl ?_
  refine WY.q (oq_move rfl) rfl rfl rfl ?_
  refine WY.q (oq_nilCheck rfl) rfl rfl rfl ?_
  refine WY.q (oq_fieldAddr fld39_1 rfl) rfl rfl rfl ?_
  refine WY.q (oq_load flat3 rfl (.head _) (List.mem_singleton.2 rfl) rfl) rfl rfl rfl ?_
  refine WY.q (oq_sliceSl (i := 0) Tryz.underlying25 ty5 rfl (by omega) ⟨_, rfl⟩ rfl (by omega) (by omega)) rfl rfl rfl ?_
  refine WY.q (oq_makeMeth rfl) rfl rfl rfl ?_
  refine WY.q (oq_nilMeth rfl (hW.nok)) rfl rfl rfl ?_
  refine WY.q (oq_move rfl) rfl rfl rfl ?_
  refine WY.nil ?_
  refine WL.f1 ?_
  refine WL.f2 ?_
  refine WL.callWE (fun a w hf => ent_inv1 hW.inv rfl rfl hf w) (hW.run acc0 G _ (Bf B 5 L) acc hG hrd hal (by omega)) rfl rfl rfl rfl fun v4_13 Hs4_13 hR4_13 => ?_
  obtain ⟨G2, rfl, rfl, hG2⟩ := hR4_13
  refine WL.app2 ?_
  refine WL.q (oq_move rfl) rfl rfl rfl ?_
  refine WL.q (oq_extract rfl rfl) rfl rfl rfl ?_
  refine WL.q (oq_extract rfl rfl) rfl rfl rfl ?_
  refine WL.q (oq_assign rfl) rfl rfl rfl ?_
  refine WL.q (oq_assign rfl) rfl rfl rfl ?_
  refine WL.nil (WE.then_normal (WC.sub (fr' := [(0, _), (6, _), (7, _), (8, _)]) ?_ ⟨rfl, rfl, rfl, rfl, trivial⟩))
  refine WC.seq (WC.seq (WC.region ?_))
  refine WL.q (oq_move rfl) rfl rfl rfl ?_
  refine WL.q (oq_move rfl) rfl rfl rfl ?_
  refine WL.q (oq_gtr rfl rfl) rfl rfl rfl ?_
  refine WL.nil (WE.then_normal (WC.sub (fr' := [(0, _), (6, _), (7, _), (8, _), (35, _)]) ?_ ⟨rfl, rfl, rfl, rfl, rfl, trivial⟩))
  refine WC.cond rfl (fun q5 => ?_) (fun q5 => ?_)
  ·
   try simp only [Z1, Z2, Z3, Z4, Z5, Z6, Z7, Z8, Z9, Z0] at q5
   first | contradiction | (exfalso; omega) | (exfalso; simp_all; done)
  ·
   try simp only [Z1, Z2, Z3, Z4, Z5, Z6, Z7, Z8, Z9, Z0] at q5
   refine WC.skip (WE.then_normal (WC.sub (fr' := [(0, _), (6, _), (7, _), (8, _)]) ?_ ⟨rfl, rfl, rfl, rfl, trivial⟩))
   refine WC.seq (WC.region ?_)
   refine WL.q (oq_move rfl) rfl rfl rfl ?_
   refine WL.q (oq_nilCheck rfl) rfl rfl rfl ?_
   refine WL.q (oq_fieldAddr fld39_1 rfl) rfl rfl rfl ?_
   refine WL.q (oq_load flat3 rfl (.tail _ (.tail _ (.head _))) (List.mem_singleton.2 rfl) rfl) rfl rfl rfl ?_
   refine WL.q (oq_move rfl) rfl rfl rfl ?_
   refine WL.q (oq_add rfl rfl (by rw [i64_lo, i64_hi]; (first | omega | (simp only [List.length_cons, List.length_nil, List.length_append, List.length_drop, List.length_take]; omega)))) rfl rfl rfl ?_
   refine WL.q (oq_nilCheck rfl) rfl rfl rfl ?_
   refine WL.q (oq_fieldAddr fld39_1 rfl) rfl rfl rfl ?_
   refine WL.f2 ?_
   refine WL.store1 #[_, _, _] ty3 rfl rfl (by first | rfl | exact OwS.one one_) (Nat.lt_of_lt_of_le (Nat.lt_succ_self _) (Nat.le_of_ble_eq_true rfl)) rfl rfl ?_
   refine WL.nil (WE.then_normal (WC.sub (fr' := [(0, _), (6, _), (7, _), (8, _)]) ?_ ⟨rfl, rfl, rfl, rfl, trivial⟩))
   refine WC.seq (WC.region ?_)
   refine WL.q (oq_move rfl) rfl rfl rfl ?_
   refine WL.q (oq_assign rfl) rfl rfl rfl ?_
   refine WL.nil (WE.then_normal (WC.sub (fr' := [(0, _), (4, _), (6, _), (7, _), (8, _)]) ?_ ⟨rfl, rfl, rfl, rfl, rfl, trivial⟩))
   refine WC.seq (WC.seq (WC.region ?_))
   refine WL.q (oq_move rfl) rfl rfl rfl ?_
   refine WL.q (oq_ineq Tryz.underlying41 rfl (.inl rfl)) rfl rfl rfl ?_
   refine WL.nil (WE.then_normal (WC.sub (fr' := [(0, _), (4, _), (6, _), (7, _), (8, _), (47, _)]) ?_ ⟨rfl, rfl, rfl, rfl, rfl, rfl, trivial⟩))
   refine WC.cond rfl (fun q9 => ?_) (fun q9 => ?_)
   ·
    try simp only [Z1, Z2, Z3, Z4, Z5, Z6, Z7, Z8, Z9, Z0] at q9
    first | contradiction | (exfalso; omega) | (exfalso; simp_all; done)
   ·
    try simp only [Z1, Z2, Z3, Z4, Z5, Z6, Z7, Z8, Z9, Z0] at q9
    refine WC.skip (WE.then_normal (WC.sub (fr' := [(0, _), (4, _), (6, _), (7, _)]) ?_ ⟨rfl, rfl, rfl, rfl, trivial⟩))
    refine WC.seq (WC.region ?_)
    refine WL.q (oq_move rfl) rfl rfl rfl ?_
    refine WL.q (oq_move rfl) rfl rfl rfl ?_
    refine WL.q (oq_neq rfl rfl) rfl rfl rfl ?_
    refine WL.nil (WE.then_normal (WC.sub (fr' := [(0, _), (4, _), (52, _)]) ?_ ⟨rfl, rfl, rfl, trivial⟩))
    refine WC.cond rfl (fun q11 => ?_) (fun q11 => ?_)
    ·
     try simp only [Z1, Z2, Z3, Z4, Z5, Z6, Z7, Z8, Z9, Z0] at q11
     first | contradiction | (exfalso; omega) | (exfalso; simp_all; done)
    ·
     try simp only [Z1, Z2, Z3, Z4, Z5, Z6, Z7, Z8, Z9, Z0] at q11
     refine WC.skip (WE.then_normal (WC.sub (fr' := [(0, _), (4, _)]) ?_ ⟨rfl, rfl, trivial⟩))
     refine WC.seq (WC.region ?_)
     refine WL.q (oq_move rfl) rfl rfl rfl ?_
     refine WL.callW1 (reset1 _ bb 0 _ B acc.length cap hac hc0) call24 rfl rfl rfl fun v13_1 Hs13_1 hR13_1 => ?_
     obtain ⟨rfl, rfl⟩ := hR13_1
     refine WL.to1 ?_
     refine WL.nil (WE.then_normal (WC.sub (fr' := [(4, _)]) ?_ ⟨rfl, trivial⟩))
     refine WC.seq (WC.region ?_)
     refine WL.q (oq_move rfl) rfl rfl rfl ?_
     refine WL.q (oq_assign rfl) rfl rfl rfl ?_
     refine WL.q (oq_assign rfl) rfl rfl rfl ?_
     refine WL.nil (WE.then_normal (WC.sub (fr' := [(4, _), (5, _)]) ?_ ⟨rfl, rfl, trivial⟩))
     refine WC.ret ?_
     refine WE.f3 ?_
     refine WE.f2 ?_
     refine WE.f3 ?_
     refine WE.f3 ?_
     refine WE.endW3 (.inl rfl) (res2 Tryz.results101 rfl rfl) ?_
     exact ⟨_, rfl, rfl, hG2⟩
 ·
  try simp only [Z1, Z2, Z3, Z4, Z5, Z6, Z7, Z8, Z9, Z0] at q3
  first | contradiction | (exfalso; omega) | (exfalso; simp_all; done)
theorem copyBuf (base : Nat) (k : TypeId) (r : Value) (f : FuncId) (Wt : List UInt8 → Hp → Prop) (hW : Wr base k r f Wt) (acc0 : List UInt8) (G : Hp) (hG : Wt acc0 G) (bb B cap : Nat) (lr : Int) (L acc : List UInt8) (hB : base ≤ B) (hLc : L.length = cap) (hac : acc.length ≤ cap) (hc0 : 0 < cap) (hmx : cap ≤ maxLen) (hLt : L.take acc.length = acc) (ha0 : 0 < acc.length) (hal : acc0.length + acc.length ≤ 100000000000000) : FnW Tryz.prog 38 [.iface k r, .iface 45 (Pt bb 0), .slice none 0 0] base [[(bb, .cells #[Sl B 0 acc.length cap, I 0, .int .i8 lr] 39 (0, 0))], Bf B 5 L, G] (fun w Hs => ∃ G2, w = .tuple #[I (acc.length : Int), .nilIface] ∧ Hs = [[(bb, .cells #[Sl B 0 0 cap, I 0, .int .i8 0] 39 (0, 0))], Bf B 5 L, G2] ∧ Wt (acc0 ++ acc) G2) := by
 refine FnW.enter (n := 115) Tryz.func38 rfl rfl fun w0 R0 hbase => ?_
 subst hbase
 show WC _ _ _ _ _ _ _ ([[(bb, .cells #[Sl B 0 acc.length cap, I 0, .int .i8 lr] 39 (0, 0))], Bf B 5 L, G, R0])
 refine WC.sub (fr' := [(0, _), (1, _), (2, _)]) ?_ ⟨rfl, rfl, rfl, trivial⟩
 refine WC.seq (WC.region ?_)
 refine WL.q (oq_assign rfl) rfl rfl rfl ?_
 refine WL.q (oq_assign rfl) rfl rfl rfl ?_
 refine WL.nil (WE.then_normal (WC.sub (fr' := [(0, _), (1, _), (2, _), (6, _), (7, _)]) ?_ ⟨rfl, rfl, rfl, rfl, rfl, trivial⟩))
 refine WC.seq (WC.seq (WC.region ?_))
 refine WL.q (oq_move rfl) rfl rfl rfl ?_
 refine WL.q (oq_askYes askBT rfl) rfl rfl rfl ?_
 refine WL.q (oq_move rfl) rfl rfl rfl ?_
 refine WL.q (oq_extract rfl rfl) rfl rfl rfl ?_
 refine WL.q (oq_extract rfl rfl) rfl rfl rfl ?_
 refine WL.q (oq_assign rfl) rfl rfl rfl ?_
 refine WL.q (oq_assign rfl) rfl rfl rfl ?_
 refine WL.nil (WE.then_normal (WC.sub (fr' := [(0, _), (1, _), (2, _), (6, _), (7, _), (8, _), (9, _)]) ?_ ⟨rfl, rfl, rfl, rfl, rfl, rfl, rfl, trivial⟩))
 refine WC.seq (WC.region ?_)
 refine WL.q (oq_move rfl) rfl rfl rfl ?_
 refine WL.nil (WE.then_normal (WC.sub (fr' := [(0, _), (1, _), (2, _), (6, _), (7, _), (8, _), (24, _)]) ?_ ⟨rfl, rfl, rfl, rfl, rfl, rfl, rfl, trivial⟩))
 refine WC.cond rfl (fun q2 => ?_) (fun q2 => ?_)
 ·
  try simp only [Z1, Z2, Z3, Z4, Z5, Z6, Z7, Z8, Z9, Z0] at q2
  refine WC.seq (WC.region ?_)
  refine WL.q (oq_move rfl) rfl rfl rfl ?_
  refine WL.q (oq_move rfl) rfl rfl rfl ?_
  refine WL.f2 ?_
  refine WL.f2 ?_
  refine WL.f2 ?_
  refine WL.callWE (fun a w hf => ent_inv1 invBT rfl rfl hf w) (writeTo _ k r f Wt hW acc0 G hG bb B cap lr L acc hB hLc hac hc0 hmx hLt ha0 hal) rfl rfl rfl rfl fun v3_2 Hs3_2 hR3_2 => ?_
  obtain ⟨G2, rfl, rfl, hG2⟩ := hR3_2
  refine WL.app3 ?_
  refine WL.q (oq_extract rfl rfl) rfl rfl rfl ?_
  refine WL.q (oq_extract rfl rfl) rfl rfl rfl ?_
  refine WL.q (oq_assign rfl) rfl rfl rfl ?_
  refine WL.q (oq_assign rfl) rfl rfl rfl ?_
  refine WL.nil (WE.then_normal (WC.sub (fr' := [(6, _), (7, _)]) ?_ ⟨rfl, rfl, trivial⟩))
  refine WC.ret (WE.then_ret ?_)
  refine WE.endW3 (.inl rfl) (res2 Tryz.results38 rfl rfl) ?_
  exact ⟨_, rfl, rfl, hG2⟩
 ·
  try simp only [Z1, Z2, Z3, Z4, Z5, Z6, Z7, Z8, Z9, Z0] at q2
  first | contradiction | (exfalso; omega) | (exfalso; simp_all; done)
theorem copy_ (base : Nat) (k : TypeId) (r : Value) (f : FuncId) (Wt : List UInt8 → Hp → Prop) (hW : Wr base k r f Wt) (acc0 : List UInt8) (G : Hp) (hG : Wt acc0 G) (bb B cap : Nat) (lr : Int) (L acc : List UInt8) (hB : base ≤ B) (hLc : L.length = cap) (hac : acc.length ≤ cap) (hc0 : 0 < cap) (hmx : cap ≤ maxLen) (hLt : L.take acc.length = acc) (ha0 : 0 < acc.length) (hal : acc0.length + acc.length ≤ 100000000000000) : FnW Tryz.prog 29 [.iface k r, .iface 45 (Pt bb 0)] base [[(bb, .cells #[Sl B 0 acc.length cap, I 0, .int .i8 lr] 39 (0, 0))], Bf B 5 L, G] (fun w Hs => ∃ G2, w = .tuple #[I (acc.length : Int), .nilIface] ∧ Hs = [[(bb, .cells #[Sl B 0 0 cap, I 0, .int .i8 0] 39 (0, 0))], Bf B 5 L, G2] ∧ Wt (acc0 ++ acc) G2) := by
 refine FnW.enter (n := 11) Tryz.func29 rfl rfl fun w0 R0 hbase => ?_
 subst hbase
 show WC _ _ _ _ _ _ _ ([[(bb, .cells #[Sl B 0 acc.length cap, I 0, .int .i8 lr] 39 (0, 0))], Bf B 5 L, G, R0])
 refine WC.sub (fr' := [(0, _), (1, _)]) ?_ ⟨rfl, rfl, trivial⟩
 refine WC.seq (WC.region ?_)
 refine WL.q (oq_assign rfl) rfl rfl rfl ?_
 refine WL.q (oq_assign rfl) rfl rfl rfl ?_
 refine WL.nil (WE.then_normal (WC.sub (fr' := [(0, _), (1, _)]) ?_ ⟨rfl, rfl, trivial⟩))
 refine WC.seq (WC.region ?_)
 refine WL.q (oq_move rfl) rfl rfl rfl ?_
 refine WL.q (oq_move rfl) rfl rfl rfl ?_
 refine WL.f2 ?_
 refine WL.f2 ?_
 refine WL.f2 ?_
 refine WL.callW3 (copyBuf _ k r f Wt hW acc0 G hG bb B cap lr L acc hB hLc hac hc0 hmx hLt ha0 hal) call38 rfl rfl rfl fun v1_2 Hs1_2 hR1_2 => ?_
 obtain ⟨G2, rfl, rfl, hG2⟩ := hR1_2
 refine WL.to3 ?_
 refine WL.q (oq_extract rfl rfl) rfl rfl rfl ?_
 refine WL.q (oq_extract rfl rfl) rfl rfl rfl ?_
 refine WL.q (oq_assign rfl) rfl rfl rfl ?_
 refine WL.q (oq_assign rfl) rfl rfl rfl ?_
 refine WL.nil (WE.then_normal (WC.sub (fr' := [(4, _), (5, _)]) ?_ ⟨rfl, rfl, trivial⟩))
 refine WC.ret ?_
 refine WE.endW3 (.inl rfl) (res2 Tryz.results29 rfl rfl) ?_
 exact ⟨_, rfl, rfl, hG2⟩
theorem bufBytes (bb B len cap : Nat) (lr : Int) (hlc : len ≤ cap) (hc0 : 0 < cap) : FnR Tryz.prog 16 [Pt bb 0] [(bb, .cells #[Sl B 0 len cap, I 0, .int .i8 lr] 39 (0, 0))] (Sl B 0 len cap) := by
 refine FnR.enter (n := 12) Tryz.func16 rfl rfl fun w0 => ?_
 refine WC.sub (fr' := [(0, _)]) ?_ ⟨rfl, trivial⟩
 refine WC.seq (WC.region ?_)
 refine WL.q (oq_assign rfl) rfl rfl rfl ?_
 refine WL.nil (WE.then_normal (WC.sub (fr' := [(0, _)]) ?_ ⟨rfl, trivial⟩))
 refine WC.seq (WC.quiet (by kernel_rfl) (by kernel_rfl) ?_)
 refine WQ.q (oq_move rfl) rfl rfl rfl ?_
 refine WQ.q (oq_nilCheck rfl) rfl rfl rfl ?_
 refine WQ.q (oq_fieldAddr fld39_0 rfl) rfl rfl rfl ?_
 refine WQ.q (oq_load flat25 rfl (.head _) (List.mem_singleton.2 rfl) rfl) rfl rfl rfl ?_
 refine WQ.q (oq_move rfl) rfl rfl rfl ?_
 refine WQ.q (oq_nilCheck rfl) rfl rfl rfl ?_
 refine WQ.q (oq_fieldAddr fld39_1 rfl) rfl rfl rfl ?_
 refine WQ.q (oq_load flat3 rfl (.head _) (List.mem_singleton.2 rfl) rfl) rfl rfl rfl ?_
 refine WQ.q (oq_sliceSl (i := 0) Tryz.underlying25 ty5 rfl (by omega) ⟨_, rfl⟩ rfl (by omega) (by omega)) rfl rfl rfl ?_
 refine WQ.q (oq_assign rfl) rfl rfl rfl ?_
 refine WQ.nil (WE.then_normal (WC.sub (fr' := [(2, _)]) ?_ ⟨rfl, trivial⟩))
 refine WC.ret ?_
 refine WE.endR (.inl rfl) (res1 Tryz.results16 rfl) ?_
 rfl
theorem bufBytes0 (bb : Nat) (lr : Int) : FnR Tryz.prog 16 [Pt bb 0] [(bb, .cells #[.slice none 0 0, I 0, .int .i8 lr] 39 (0, 0))] (.slice none 0 0) := by
 refine FnR.enter (n := 12) Tryz.func16 rfl rfl fun w0 => ?_
 refine WC.sub (fr' := [(0, _)]) ?_ ⟨rfl, trivial⟩
 refine WC.seq (WC.region ?_)
 refine WL.q (oq_assign rfl) rfl rfl rfl ?_
 refine WL.nil (WE.then_normal (WC.sub (fr' := [(0, _)]) ?_ ⟨rfl, trivial⟩))
 refine WC.seq (WC.quiet (by kernel_rfl) (by kernel_rfl) ?_)
 refine WQ.q (oq_move rfl) rfl rfl rfl ?_
 refine WQ.q (oq_nilCheck rfl) rfl rfl rfl ?_
 refine WQ.q (oq_fieldAddr fld39_0 rfl) rfl rfl rfl ?_
 refine WQ.q (oq_load flat25 rfl (.head _) (List.mem_singleton.2 rfl) rfl) rfl rfl rfl ?_
 refine WQ.q (oq_move rfl) rfl rfl rfl ?_
 refine WQ.q (oq_nilCheck rfl) rfl rfl rfl ?_
 refine WQ.q (oq_fieldAddr fld39_1 rfl) rfl rfl rfl ?_
 refine WQ.q (oq_load flat3 rfl (.head _) (List.mem_singleton.2 rfl) rfl) rfl rfl rfl ?_
 refine WQ.q (oq_sliceNil Tryz.underlying25 ty5 rfl rfl) rfl rfl rfl ?_
 refine WQ.q (oq_assign rfl) rfl rfl rfl ?_
 refine WQ.nil (WE.then_normal (WC.sub (fr' := [(2, _)]) ?_ ⟨rfl, trivial⟩))
 refine WC.ret ?_
 refine WE.endR (.inl rfl) (res1 Tryz.results16 rfl) ?_
 rfl
theorem newBuf  : FnA Tryz.prog 23 [.slice none 0 0] [] (fun w N => ∃ bb, w = Pt bb 0 ∧ N = BB bb (.slice none 0 0) 0) := by
 refine FnA.enter0 (n := 6) Tryz.func23 rfl rfl fun w0 => ?_
 refine WC.sub (fr' := [(0, _)]) ?_ ⟨rfl, trivial⟩
 refine WC.seq (WC.region ?_)
 refine WL.q (oq_assign rfl) rfl rfl rfl ?_
 refine WL.nil (WE.then_normal (WC.sub (fr' := [(0, _)]) ?_ ⟨rfl, trivial⟩))
 refine WC.seq (WC.region ?_)
 refine WL.q (oq_move rfl) rfl rfl rfl ?_
 refine WL.q (oq_build #[_, _, _] str39 ty39 rfl rfl) rfl rfl rfl ?_
 refine WL.box rfl rfl rfl fun b1_2 hb1_2 => ?_
 refine WL.q (oq_assign rfl) rfl rfl rfl ?_
 refine WL.nil (WE.then_normal (WC.sub (fr' := [(2, _)]) ?_ ⟨rfl, trivial⟩))
 refine WC.ret ?_
 refine WE.endA0 (.inl rfl) (res1 Tryz.results23 rfl) ?_ (fresh1 hb1_2)
 exact ⟨_, rfl, rfl⟩
end ED
end Go.Proofs.YtpjeiimlglgklaaGreatDoor
/- Numbers as bytes. -/
namespace Go.Proofs.YtpjeiimlglgklaaGreatDoor
open Go Go.RowKit V EA EB EC ED
set_option linter.unusedSimpArgs false
set_option linter.unusedVariables false
set_option maxRecDepth 10000
namespace EE
theorem flat20 : Flat Tryz.prog 20 := ⟨_, Tryz.underlying20, by simp⟩
theorem ty2 : Ty Tryz.prog 2 (.int .i64 0) 1 8 := ty_of (by kernel_rfl)
theorem ty5 : Ty Tryz.prog 5 (.int .u8 0) 1 1 := ty_of (by kernel_rfl)
theorem ty20 : Ty Tryz.prog 20 .nilIface 1 16 := ty_of (by kernel_rfl)
theorem ty75 : Ty Tryz.prog 75 (.int .u32 0) 1 4 := ty_of (by kernel_rfl)
theorem ty113 : Ty Tryz.prog 113 (.int .u8 0) 1 1 := ty_of (by kernel_rfl)
theorem ty114 : Ty Tryz.prog 114 (.int .i8 0) 1 1 := ty_of (by kernel_rfl)
theorem ty115 : Ty Tryz.prog 115 (.int .u16 0) 1 2 := ty_of (by kernel_rfl)
theorem ty117 : Ty Tryz.prog 117 (.int .i16 0) 1 2 := ty_of (by kernel_rfl)
theorem ty118 : Ty Tryz.prog 118 (.int .i32 0) 1 4 := ty_of (by kernel_rfl)
theorem ty119 : Ty Tryz.prog 119 (.int .i64 0) 1 8 := ty_of (by kernel_rfl)
theorem conc2 : Conc Tryz.prog 2 := ⟨_, Tryz.underlying2, by simp⟩
theorem conc5 : Conc Tryz.prog 5 := ⟨_, Tryz.underlying5, by simp⟩
theorem conc75 : Conc Tryz.prog 75 := ⟨_, Tryz.underlying75, by simp⟩
theorem conc113 : Conc Tryz.prog 113 := ⟨_, Tryz.underlying113, by simp⟩
theorem conc114 : Conc Tryz.prog 114 := ⟨_, Tryz.underlying114, by simp⟩
theorem conc115 : Conc Tryz.prog 115 := ⟨_, Tryz.underlying115, by simp⟩
theorem conc117 : Conc Tryz.prog 117 := ⟨_, Tryz.underlying117, by simp⟩
theorem conc118 : Conc Tryz.prog 118 := ⟨_, Tryz.underlying118, by simp⟩
theorem conc119 : Conc Tryz.prog 119 := ⟨_, Tryz.underlying119, by simp⟩
structure Num where
 k : TypeId
 ik : IntKind
 w : Nat
 x : Int
def Num.val (d : Num) : Value := .iface d.k (.int d.ik d.x)
def Num.kinds : List (TypeId × IntKind × Nat) := [(113, .u8, 1), (5, .u8, 1), (114, .i8, 1), (115, .u16, 2), (117, .i16, 2), (75, .u32, 4), (118, .i32, 4), (2, .i64, 8), (119, .i64, 8)]
def Num.ok (d : Num) : Prop := (d.k, d.ik, d.w) ∈ Num.kinds
theorem Num.ok.w8 {d : Num} (h : d.ok) : d.w ≤ 8 ∧ 1 ≤ d.w := by
 unfold Num.ok Num.kinds at h
 simp only [List.mem_cons, Prod.mk.injEq, List.not_mem_nil, or_false] at h
 omega
theorem Num.of {d : Num} {k : Nat} {ik : IntKind} {w : Nat} (h : d.ok) (hk : d.k = k) (hm : ((Num.kinds.find? (fun r => r.1 == k)).map fun r => (r.2.1, r.2.2)) = some (ik, w)) : d.ik = ik ∧ d.w = w := by
 obtain ⟨k', ik', w', x⟩ := d
 subst hk
 unfold Num.ok Num.kinds at h
 simp only [List.mem_cons, Prod.mk.injEq, List.not_mem_nil, or_false] at h
 rcases h with ⟨rfl, rfl, rfl⟩ | ⟨rfl, rfl, rfl⟩ | ⟨rfl, rfl, rfl⟩ | ⟨rfl, rfl, rfl⟩ | ⟨rfl, rfl, rfl⟩ | ⟨rfl, rfl, rfl⟩ | ⟨rfl, rfl, rfl⟩ | ⟨rfl, rfl, rfl⟩ | ⟨rfl, rfl, rfl⟩ <;> (simp [Num.kinds, List.find?] at hm; simp [hm])
def bytesN (ds : List Num) : List UInt8 := ds.flatMap fun d => be d.w d.x
theorem bytesN_snoc (ds : List Num) (i : Nat) (h : i < ds.length) : bytesN (ds.take (i + 1)) = bytesN (ds.take i) ++ be ds[i].w ds[i].x := by
 unfold bytesN; rw [List.take_add_one, List.flatMap_append, List.getElem?_eq_getElem h]; simp
theorem bytesN_len (ds : List Num) (h : ∀ d ∈ ds, d.ok) : (bytesN ds).length ≤ 8 * ds.length := by
 unfold bytesN
 induction ds with
 | nil => simp
 | cons d r ih =>
  have h1 := ih fun d hd => h d (List.mem_cons_of_mem _ hd)
  have h2 := (h d List.mem_cons_self).w8
  rw [List.flatMap_cons, List.length_append, be_len, List.length_cons]; omega
theorem be_u64 (w : Nat) (x : Int) (h : w ≤ 8) : be w (IntKind.u64.wrap x) = be w x := by
 have e : IntKind.u64.wrap x = x % 2 ^ (8 * 8) := by simp [IntKind.wrap, IntKind.signed, IntKind.bits]
 rw [e, be_mod w 8 x h]
theorem zzWrite (base : Nat) (k : TypeId) (r : Value) (f : FuncId) (Wt : List UInt8 → Hp → Prop) (hW : Wr base k r f Wt) (acc0 : List UInt8) (G : Hp) (hG : Wt acc0 G) (v : Value) (D : Hp) (ds : List Num) (hr : RdS 1 v D ds.length (ds.map Num.val)) (hds : ∀ d ∈ ds, d.ok) (hdn : ds.length ≤ 1000) (hal : acc0.length + 8 * ds.length ≤ 90000000000000) : FnW Tryz.prog 31 [.iface k r, v] base [D, G] (fun w Hs => ∃ G2, w = .nilIface ∧ Hs = [D, G2] ∧ Wt (acc0 ++ bytesN ds) G2) := by
 refine FnW.enter (n := 98) Tryz.func31 rfl rfl fun w0 R0 hbase => ?_
 subst hbase
 show WC _ _ _ _ _ _ _ ([D, G, R0])
 refine WC.sub (fr' := [(0, _), (1, _)]) ?_ ⟨rfl, rfl, trivial⟩
 refine WC.seq (WC.region ?_)
 refine WL.q (oq_assign rfl) rfl rfl rfl ?_
 refine WL.nil (WE.then_normal (WC.sub (fr' := [(0, _), (1, _)]) ?_ ⟨rfl, rfl, trivial⟩))
 refine WC.seq (WC.seq (WC.region ?_))
 refine WL.q (oq_move rfl) rfl rfl rfl ?_
 refine WL.q (oq_len_rd hr Tryz.underlying111 rfl) rfl rfl rfl ?_
 refine WL.q (oq_move rfl) rfl rfl rfl ?_
 refine WL.nil (WE.then_normal (WC.sub (fr' := [(0, _), (22, _), (23, _), (24, _)]) ?_ ⟨rfl, rfl, rfl, rfl, trivial⟩))
 refine WC.block ?_
 refine WC.loop (ι := Nat × Hp) (fun i_ => (fun (i : Nat) (X : Hp) => [(0, .iface k r), (22, v), (23, I (ds.length : Int)), (24, I (i : Int))]) i_.1 i_.2) (fun i_ => (fun (i : Nat) (X : Hp) => [D, X, R0]) i_.1 i_.2) (fun i_ => (fun (i : Nat) (X : Hp) => i ≤ ds.length ∧ Wt (acc0 ++ bytesN (ds.take i)) X) i_.1 i_.2) (fun i_ => (fun (i : Nat) (X : Hp) => ds.length - i) i_.1 i_.2) ((0, G)) ?_ ⟨rfl, rfl, rfl, rfl, trivial⟩ (List.Perm.refl _) ?_
 ·try dsimp only
  exact ⟨by omega, by simpa [bytesN] using hG⟩
 ·rintro ⟨i, X⟩ hp
  try dsimp only at hp
  obtain ⟨hi, hX⟩ := hp
  show WC _ _ _ _ _ _ ([(0, .iface k r), (22, v), (23, I (ds.length : Int)), (24, I (i : Int))]) ([D, X, R0])
  refine WC.seq (WC.region ?_)
  refine WL.q (oq_lss rfl rfl) rfl rfl rfl ?_
  refine WL.nil (WE.then_normal (WC.sub (fr' := [(0, _), (22, _), (23, _), (24, _), (25, _)]) ?_ ⟨rfl, rfl, rfl, rfl, rfl, trivial⟩))
  refine WC.seq ?_
  refine WC.cond rfl (fun q2 => ?_) (fun q2 => ?_)
  ·
   try simp only [Z1, Z2, Z3, Z4, Z5, Z6, Z7, Z8, Z9, Z0] at q2
   refine WC.skip (WE.then_normal (WC.sub (fr' := [(0, _), (22, _), (23, _), (24, _)]) ?_ ⟨rfl, rfl, rfl, rfl, trivial⟩))
   refine WC.seq (WC.block (WC.seq ?_))
   have hlt : i < ds.length := by omega
   have hok := hds ds[i] (List.getElem_mem hlt)
   obtain ⟨hw8, hw1⟩ := hok.w8
   refine WC.region ?_
   refine WL.q (oq_ixaddr hr Tryz.underlying111 ty20 rfl rfl (by (first | omega | (simp only [List.length_cons, List.length_nil, List.length_append, List.length_drop, List.length_take]; omega)))) rfl rfl rfl ?_
   refine WL.q (oq_load_el hr (by repeat (first | exact .head _ | apply List.Mem.tail)) flat20 rfl (by omega) (u := ds[i].val) (by rw [Int.toNat_natCast, List.getElem?_map, List.getElem?_eq_getElem hlt]; rfl)) rfl rfl rfl ?_
   refine WL.q (oq_assign rfl) rfl rfl rfl ?_
   refine WL.nil (WE.then_normal (WC.sub (fr' := [(0, _), (6, _), (22, _), (23, _), (24, _)]) ?_ ⟨rfl, rfl, rfl, rfl, rfl, trivial⟩))
   refine WC.seq (WC.region ?_)
   refine WL.q (oq_assign rfl) rfl rfl rfl ?_
   refine WL.nil (WE.then_normal (WC.sub (fr' := [(0, _), (6, _), (7, _), (22, _), (23, _), (24, _)]) ?_ ⟨rfl, rfl, rfl, rfl, rfl, rfl, trivial⟩))
   refine WC.seq (WC.region ?_)
   refine WL.q (oq_assign rfl) rfl rfl rfl ?_
   refine WL.nil (WE.then_normal (WC.sub (fr' := [(0, _), (6, _), (7, _), (8, _), (22, _), (23, _), (24, _)]) ?_ ⟨rfl, rfl, rfl, rfl, rfl, rfl, rfl, trivial⟩))
   refine WC.cut (ι := Unit) (fun _ => [(0, .iface k r), (7, .int .u64 (IntKind.u64.wrap ds[i].x)), (8, I (ds[i].w : Int)), (22, v), (23, I (ds.length : Int)), (24, I (i : Int))]) (fun _ => [D, X, R0]) (fun _ => True) ?_ ?_
   ·
    refine WC.seq (WC.region ?_)
    refine WL.q (oq_move rfl) rfl rfl rfl ?_
    refine WL.nil (WE.then_normal (WC.sub (fr' := [(0, _), (7, _), (8, _), (22, _), (23, _), (24, _), (28, _)]) ?_ ⟨rfl, rfl, rfl, rfl, rfl, rfl, rfl, trivial⟩))
    refine WC.block (WC.seq (WC.region ?_))
    refine WL.q (oq_askG conc113 ty113 rfl) rfl rfl rfl ?_
    refine WL.q (oq_extract rfl rfl) rfl rfl rfl ?_
    refine WL.q (oq_extract rfl rfl) rfl rfl rfl ?_
    refine WL.nil (WE.then_normal (WC.sub (fr' := [(0, _), (7, _), (8, _), (22, _), (23, _), (24, _), (28, _), (30, _), (31, _)]) ?_ ⟨rfl, rfl, rfl, rfl, rfl, rfl, rfl, rfl, rfl, trivial⟩))
    refine WC.cond rfl (fun q7 => ?_) (fun q7 => ?_)
    ·
     try simp only [Z1, Z2, Z3, Z4, Z5, Z6, Z7, Z8, Z9, Z0] at q7
     refine WC.seq ?_
     rw [if_pos q7]
     obtain ⟨hik, hwd⟩ := Num.of (ik := .u8) (w := 1) hok q7 (by decide)
     rw [hik]
     refine WC.region ?_
     refine WL.q (oq_assign rfl) rfl rfl rfl ?_
     refine WL.nil (WE.then_normal (WC.sub (fr' := [(0, _), (9, _), (22, _), (23, _), (24, _)]) ?_ ⟨rfl, rfl, rfl, rfl, rfl, trivial⟩))
     refine WC.region ?_
     refine WL.q (oq_move rfl) rfl rfl rfl ?_
     refine WL.q (oq_convw Tryz.underlying113 Tryz.underlying112 rfl) rfl rfl rfl ?_
     refine WL.q (oq_assign rfl) rfl rfl rfl ?_
     refine WL.q (oq_assign rfl) rfl rfl rfl ?_
     refine WL.nil (WE.block_normal ?_)
     refine WE.meet () ?_ ⟨rfl, rfl, (gti rfl (by (try dsimp only); omega)), rfl, rfl, rfl, trivial⟩ (List.Perm.refl _)
     try dsimp only
     all_goals trivial
    ·
     try simp only [Z1, Z2, Z3, Z4, Z5, Z6, Z7, Z8, Z9, Z0] at q7
     refine WC.seq (WC.region ?_)
     refine WL.q (oq_askG conc5 ty5 rfl) rfl rfl rfl ?_
     refine WL.q (oq_extract rfl rfl) rfl rfl rfl ?_
     refine WL.q (oq_extract rfl rfl) rfl rfl rfl ?_
     refine WL.nil (WE.then_normal (WC.sub (fr' := [(0, _), (7, _), (8, _), (22, _), (23, _), (24, _), (28, _), (35, _), (36, _)]) ?_ ⟨rfl, rfl, rfl, rfl, rfl, rfl, rfl, rfl, rfl, trivial⟩))
     refine WC.cond rfl (fun q10 => ?_) (fun q10 => ?_)
     ·
      try simp only [Z1, Z2, Z3, Z4, Z5, Z6, Z7, Z8, Z9, Z0] at q10
      refine WC.seq ?_
      rw [if_pos q10]
      obtain ⟨hik, hwd⟩ := Num.of (ik := .u8) (w := 1) hok q10 (by decide)
      rw [hik]
      refine WC.region ?_
      refine WL.q (oq_assign rfl) rfl rfl rfl ?_
      refine WL.nil (WE.then_normal (WC.sub (fr' := [(0, _), (10, _), (22, _), (23, _), (24, _)]) ?_ ⟨rfl, rfl, rfl, rfl, rfl, trivial⟩))
      refine WC.region ?_
      refine WL.q (oq_move rfl) rfl rfl rfl ?_
      refine WL.q (oq_convw Tryz.underlying5 Tryz.underlying112 rfl) rfl rfl rfl ?_
      refine WL.q (oq_assign rfl) rfl rfl rfl ?_
      refine WL.q (oq_assign rfl) rfl rfl rfl ?_
      refine WL.nil (WE.block_normal ?_)
      refine WE.meet () ?_ ⟨rfl, rfl, (gti rfl (by (try dsimp only); omega)), rfl, rfl, rfl, trivial⟩ (List.Perm.refl _)
      try dsimp only
      all_goals trivial
     ·
      try simp only [Z1, Z2, Z3, Z4, Z5, Z6, Z7, Z8, Z9, Z0] at q10
      refine WC.seq (WC.region ?_)
      refine WL.q (oq_askG conc114 ty114 rfl) rfl rfl rfl ?_
      refine WL.q (oq_extract rfl rfl) rfl rfl rfl ?_
      refine WL.q (oq_extract rfl rfl) rfl rfl rfl ?_
      refine WL.nil (WE.then_normal (WC.sub (fr' := [(0, _), (7, _), (8, _), (22, _), (23, _), (24, _), (28, _), (40, _), (41, _)]) ?_ ⟨rfl, rfl, rfl, rfl, rfl, rfl, rfl, rfl, rfl, trivial⟩))
      refine WC.cond rfl (fun q13 => ?_) (fun q13 => ?_)
      ·
       try simp only [Z1, Z2, Z3, Z4, Z5, Z6, Z7, Z8, Z9, Z0] at q13
       refine WC.seq ?_
       rw [if_pos q13]
       obtain ⟨hik, hwd⟩ := Num.of (ik := .i8) (w := 1) hok q13 (by decide)
       rw [hik]
       refine WC.region ?_
       refine WL.q (oq_assign rfl) rfl rfl rfl ?_
       refine WL.nil (WE.then_normal (WC.sub (fr' := [(0, _), (11, _), (22, _), (23, _), (24, _)]) ?_ ⟨rfl, rfl, rfl, rfl, rfl, trivial⟩))
       refine WC.region ?_
       refine WL.q (oq_move rfl) rfl rfl rfl ?_
       refine WL.q (oq_convw Tryz.underlying114 Tryz.underlying112 rfl) rfl rfl rfl ?_
       refine WL.q (oq_assign rfl) rfl rfl rfl ?_
       refine WL.q (oq_assign rfl) rfl rfl rfl ?_
       refine WL.nil (WE.block_normal ?_)
       refine WE.meet () ?_ ⟨rfl, rfl, (gti rfl (by (try dsimp only); omega)), rfl, rfl, rfl, trivial⟩ (List.Perm.refl _)
       try dsimp only
       all_goals trivial
      ·
       try simp only [Z1, Z2, Z3, Z4, Z5, Z6, Z7, Z8, Z9, Z0] at q13
       refine WC.seq (WC.region ?_)
       refine WL.q (oq_askG conc115 ty115 rfl) rfl rfl rfl ?_
       refine WL.q (oq_extract rfl rfl) rfl rfl rfl ?_
       refine WL.q (oq_extract rfl rfl) rfl rfl rfl ?_
       refine WL.nil (WE.then_normal (WC.sub (fr' := [(0, _), (7, _), (8, _), (22, _), (23, _), (24, _), (28, _), (45, _), (46, _)]) ?_ ⟨rfl, rfl, rfl, rfl, rfl, rfl, rfl, rfl, rfl, trivial⟩))
       refine WC.cond rfl (fun q16 => ?_) (fun q16 => ?_)
       ·
        try simp only [Z1, Z2, Z3, Z4, Z5, Z6, Z7, Z8, Z9, Z0] at q16
        refine WC.seq ?_
        rw [if_pos q16]
        obtain ⟨hik, hwd⟩ := Num.of (ik := .u16) (w := 2) hok q16 (by decide)
        rw [hik]
        refine WC.region ?_
        refine WL.q (oq_assign rfl) rfl rfl rfl ?_
        refine WL.nil (WE.then_normal (WC.sub (fr' := [(0, _), (12, _), (22, _), (23, _), (24, _)]) ?_ ⟨rfl, rfl, rfl, rfl, rfl, trivial⟩))
        refine WC.region ?_
        refine WL.q (oq_move rfl) rfl rfl rfl ?_
        refine WL.q (oq_convw Tryz.underlying115 Tryz.underlying112 rfl) rfl rfl rfl ?_
        refine WL.q (oq_assign rfl) rfl rfl rfl ?_
        refine WL.q (oq_assign rfl) rfl rfl rfl ?_
        refine WL.nil (WE.block_normal ?_)
        refine WE.meet () ?_ ⟨rfl, rfl, (gti rfl (by (try dsimp only); omega)), rfl, rfl, rfl, trivial⟩ (List.Perm.refl _)
        try dsimp only
        all_goals trivial
       ·
        try simp only [Z1, Z2, Z3, Z4, Z5, Z6, Z7, Z8, Z9, Z0] at q16
        refine WC.seq (WC.region ?_)
        refine WL.q (oq_askG conc117 ty117 rfl) rfl rfl rfl ?_
        refine WL.q (oq_extract rfl rfl) rfl rfl rfl ?_
        refine WL.q (oq_extract rfl rfl) rfl rfl rfl ?_
        refine WL.nil (WE.then_normal (WC.sub (fr' := [(0, _), (7, _), (8, _), (22, _), (23, _), (24, _), (28, _), (50, _), (51, _)]) ?_ ⟨rfl, rfl, rfl, rfl, rfl, rfl, rfl, rfl, rfl, trivial⟩))
        refine WC.cond rfl (fun q19 => ?_) (fun q19 => ?_)
        ·
         try simp only [Z1, Z2, Z3, Z4, Z5, Z6, Z7, Z8, Z9, Z0] at q19
         refine WC.seq ?_
         rw [if_pos q19]
         obtain ⟨hik, hwd⟩ := Num.of (ik := .i16) (w := 2) hok q19 (by decide)
         rw [hik]
         refine WC.region ?_
         refine WL.q (oq_assign rfl) rfl rfl rfl ?_
         refine WL.nil (WE.then_normal (WC.sub (fr' := [(0, _), (13, _), (22, _), (23, _), (24, _)]) ?_ ⟨rfl, rfl, rfl, rfl, rfl, trivial⟩))
         refine WC.region ?_
         refine WL.q (oq_move rfl) rfl rfl rfl ?_
         refine WL.q (oq_convw Tryz.underlying117 Tryz.underlying112 rfl) rfl rfl rfl ?_
         refine WL.q (oq_assign rfl) rfl rfl rfl ?_
         refine WL.q (oq_assign rfl) rfl rfl rfl ?_
         refine WL.nil (WE.block_normal ?_)
         refine WE.meet () ?_ ⟨rfl, rfl, (gti rfl (by (try dsimp only); omega)), rfl, rfl, rfl, trivial⟩ (List.Perm.refl _)
         try dsimp only
         all_goals trivial
        ·
         try simp only [Z1, Z2, Z3, Z4, Z5, Z6, Z7, Z8, Z9, Z0] at q19
         refine WC.seq (WC.region ?_)
         refine WL.q (oq_askG conc75 ty75 rfl) rfl rfl rfl ?_
         refine WL.q (oq_extract rfl rfl) rfl rfl rfl ?_
         refine WL.q (oq_extract rfl rfl) rfl rfl rfl ?_
         refine WL.nil (WE.then_normal (WC.sub (fr' := [(0, _), (7, _), (8, _), (22, _), (23, _), (24, _), (28, _), (55, _), (56, _)]) ?_ ⟨rfl, rfl, rfl, rfl, rfl, rfl, rfl, rfl, rfl, trivial⟩))
         refine WC.cond rfl (fun q22 => ?_) (fun q22 => ?_)
         ·
          try simp only [Z1, Z2, Z3, Z4, Z5, Z6, Z7, Z8, Z9, Z0] at q22
          refine WC.seq ?_
          rw [if_pos q22]
          obtain ⟨hik, hwd⟩ := Num.of (ik := .u32) (w := 4) hok q22 (by decide)
          rw [hik]
          refine WC.region ?_
          refine WL.q (oq_assign rfl) rfl rfl rfl ?_
          refine WL.nil (WE.then_normal (WC.sub (fr' := [(0, _), (14, _), (22, _), (23, _), (24, _)]) ?_ ⟨rfl, rfl, rfl, rfl, rfl, trivial⟩))
          refine WC.region ?_
          refine WL.q (oq_move rfl) rfl rfl rfl ?_
          refine WL.q (oq_convw Tryz.underlying75 Tryz.underlying112 rfl) rfl rfl rfl ?_
          refine WL.q (oq_assign rfl) rfl rfl rfl ?_
          refine WL.q (oq_assign rfl) rfl rfl rfl ?_
          refine WL.nil (WE.block_normal ?_)
          refine WE.meet () ?_ ⟨rfl, rfl, (gti rfl (by (try dsimp only); omega)), rfl, rfl, rfl, trivial⟩ (List.Perm.refl _)
          try dsimp only
          all_goals trivial
         ·
          try simp only [Z1, Z2, Z3, Z4, Z5, Z6, Z7, Z8, Z9, Z0] at q22
          refine WC.seq (WC.region ?_)
          refine WL.q (oq_askG conc118 ty118 rfl) rfl rfl rfl ?_
          refine WL.q (oq_extract rfl rfl) rfl rfl rfl ?_
          refine WL.q (oq_extract rfl rfl) rfl rfl rfl ?_
          refine WL.nil (WE.then_normal (WC.sub (fr' := [(0, _), (7, _), (8, _), (22, _), (23, _), (24, _), (28, _), (60, _), (61, _)]) ?_ ⟨rfl, rfl, rfl, rfl, rfl, rfl, rfl, rfl, rfl, trivial⟩))
          refine WC.cond rfl (fun q25 => ?_) (fun q25 => ?_)
          ·
           try simp only [Z1, Z2, Z3, Z4, Z5, Z6, Z7, Z8, Z9, Z0] at q25
           refine WC.seq ?_
           rw [if_pos q25]
           obtain ⟨hik, hwd⟩ := Num.of (ik := .i32) (w := 4) hok q25 (by decide)
           rw [hik]
           refine WC.region ?_
           refine WL.q (oq_assign rfl) rfl rfl rfl ?_
           refine WL.nil (WE.then_normal (WC.sub (fr' := [(0, _), (15, _), (22, _), (23, _), (24, _)]) ?_ ⟨rfl, rfl, rfl, rfl, rfl, trivial⟩))
           refine WC.region ?_
           refine WL.q (oq_move rfl) rfl rfl rfl ?_
           refine WL.q (oq_convw Tryz.underlying118 Tryz.underlying112 rfl) rfl rfl rfl ?_
           refine WL.q (oq_assign rfl) rfl rfl rfl ?_
           refine WL.q (oq_assign rfl) rfl rfl rfl ?_
           refine WL.nil (WE.block_normal ?_)
           refine WE.meet () ?_ ⟨rfl, rfl, (gti rfl (by (try dsimp only); omega)), rfl, rfl, rfl, trivial⟩ (List.Perm.refl _)
           try dsimp only
           all_goals trivial
          ·
           try simp only [Z1, Z2, Z3, Z4, Z5, Z6, Z7, Z8, Z9, Z0] at q25
           refine WC.seq (WC.region ?_)
           refine WL.q (oq_askG conc2 ty2 rfl) rfl rfl rfl ?_
           refine WL.q (oq_extract rfl rfl) rfl rfl rfl ?_
           refine WL.q (oq_extract rfl rfl) rfl rfl rfl ?_
           refine WL.nil (WE.then_normal (WC.sub (fr' := [(0, _), (7, _), (8, _), (22, _), (23, _), (24, _), (28, _), (65, _), (66, _)]) ?_ ⟨rfl, rfl, rfl, rfl, rfl, rfl, rfl, rfl, rfl, trivial⟩))
           refine WC.cond rfl (fun q28 => ?_) (fun q28 => ?_)
           ·
            try simp only [Z1, Z2, Z3, Z4, Z5, Z6, Z7, Z8, Z9, Z0] at q28
            refine WC.seq ?_
            rw [if_pos q28]
            obtain ⟨hik, hwd⟩ := Num.of (ik := .i64) (w := 8) hok q28 (by decide)
            rw [hik]
            refine WC.region ?_
            refine WL.q (oq_assign rfl) rfl rfl rfl ?_
            refine WL.nil (WE.then_normal (WC.sub (fr' := [(0, _), (8, _), (16, _), (22, _), (23, _), (24, _)]) ?_ ⟨rfl, rfl, rfl, rfl, rfl, rfl, trivial⟩))
            refine WC.region ?_
            refine WL.q (oq_move rfl) rfl rfl rfl ?_
            refine WL.q (oq_convw Tryz.underlying2 Tryz.underlying112 rfl) rfl rfl rfl ?_
            refine WL.q (oq_assign rfl) rfl rfl rfl ?_
            refine WL.nil (WE.block_normal ?_)
            refine WE.meet () ?_ ⟨rfl, rfl, (gti rfl (by (try dsimp only); omega)), rfl, rfl, rfl, trivial⟩ (List.Perm.refl _)
            try dsimp only
            all_goals trivial
           ·
            try simp only [Z1, Z2, Z3, Z4, Z5, Z6, Z7, Z8, Z9, Z0] at q28
            refine WC.seq (WC.region ?_)
            refine WL.q (oq_askG conc119 ty119 rfl) rfl rfl rfl ?_
            refine WL.q (oq_extract rfl rfl) rfl rfl rfl ?_
            refine WL.q (oq_extract rfl rfl) rfl rfl rfl ?_
            refine WL.nil (WE.then_normal (WC.sub (fr' := [(0, _), (7, _), (8, _), (22, _), (23, _), (24, _), (70, _), (71, _)]) ?_ ⟨rfl, rfl, rfl, rfl, rfl, rfl, rfl, rfl, trivial⟩))
            refine WC.cond rfl (fun q31 => ?_) (fun q31 => ?_)
            ·
             try simp only [Z1, Z2, Z3, Z4, Z5, Z6, Z7, Z8, Z9, Z0] at q31
             refine WC.seq ?_
             rw [if_pos q31]
             obtain ⟨hik, hwd⟩ := Num.of (ik := .i64) (w := 8) hok q31 (by decide)
             rw [hik]
             refine WC.region ?_
             refine WL.q (oq_assign rfl) rfl rfl rfl ?_
             refine WL.nil (WE.then_normal (WC.sub (fr' := [(0, _), (8, _), (17, _), (22, _), (23, _), (24, _)]) ?_ ⟨rfl, rfl, rfl, rfl, rfl, rfl, trivial⟩))
             refine WC.region ?_
             refine WL.q (oq_move rfl) rfl rfl rfl ?_
             refine WL.q (oq_convw Tryz.underlying119 Tryz.underlying112 rfl) rfl rfl rfl ?_
             refine WL.q (oq_assign rfl) rfl rfl rfl ?_
             refine WL.nil (WE.block_normal ?_)
             refine WE.meet () ?_ ⟨rfl, rfl, (gti rfl (by (try dsimp only); omega)), rfl, rfl, rfl, trivial⟩ (List.Perm.refl _)
             try dsimp only
             all_goals trivial
            ·
             try simp only [Z1, Z2, Z3, Z4, Z5, Z6, Z7, Z8, Z9, Z0] at q31
             first | contradiction | (exfalso; omega) | (exfalso; simp_all [Num.ok, Num.kinds]; done) | (exfalso; simp_all [Num.ok, Num.kinds]; omega)
   ·rintro _ hp
    try dsimp only at hp
    show WC _ _ _ _ _ _ ([(0, .iface k r), (7, .int .u64 (IntKind.u64.wrap ds[i].x)), (8, I (ds[i].w : Int)), (22, v), (23, I (ds.length : Int)), (24, I (i : Int))]) ([D, X, R0])
    refine WC.seq ?_
    refine WC.add0 ?_
    refine WC.region ?_
    refine WL.q (oq_assign rfl) rfl rfl rfl ?_
    refine WL.nil (WE.then_normal (WC.sub (fr' := [(0, _), (7, _), (8, _), (18, _), (22, _), (23, _), (24, _)]) ?_ ⟨rfl, rfl, rfl, rfl, rfl, rfl, rfl, trivial⟩))
    refine WC.seq (WC.seq (WC.region ?_))
    refine WL.q (oq_move rfl) rfl rfl rfl ?_
    refine WL.q (oq_sub rfl rfl (by rw [i64_lo, i64_hi]; (first | omega | (simp only [List.length_cons, List.length_nil, List.length_append, List.length_drop, List.length_take]; omega)))) rfl rfl rfl ?_
    refine WL.q (oq_assign rfl) rfl rfl rfl ?_
    refine WL.nil (WE.then_normal (WC.sub (fr' := [(0, _), (7, _), (18, _), (19, _), (22, _), (23, _), (24, _)]) ?_ ⟨rfl, rfl, rfl, rfl, rfl, rfl, rfl, trivial⟩))
    refine WC.block ?_
    refine WC.loop (ι := Nat × Value × Hp) (fun i_ => (fun (j : Nat) (u : Value) (B : Hp) => [(0, .iface k r), (7, .int .u64 (IntKind.u64.wrap ds[i].x)), (18, u), (19, I ((j : Int) - 1)), (22, v), (23, I (ds.length : Int)), (24, I (i : Int))]) i_.1 i_.2.1 i_.2.2) (fun i_ => (fun (j : Nat) (u : Value) (B : Hp) => [B, D, X, R0]) i_.1 i_.2.1 i_.2.2) (fun i_ => (fun (j : Nat) (u : Value) (B : Hp) => j ≤ ds[i].w ∧ OwS w0.heap.size 5 1 u B (ds[i].w - j) (bytesV ((be ds[i].w (IntKind.u64.wrap ds[i].x)).take (ds[i].w - j)))) i_.1 i_.2.1 i_.2.2) (fun i_ => (fun (j : Nat) (u : Value) (B : Hp) => j) i_.1 i_.2.1 i_.2.2) ((ds[i].w, _, _)) ?_ ⟨rfl, rfl, rfl, rfl, rfl, rfl, rfl, trivial⟩ (List.Perm.refl _) ?_
    ·try dsimp only
     exact ⟨by omega, by rw [Nat.sub_self]; exact OwS.nil _ _ _⟩
    ·rintro ⟨j, u, B⟩ hp
     try dsimp only at hp
     obtain ⟨hm, ho⟩ := hp
     show WC _ _ _ _ _ _ ([(0, .iface k r), (7, .int .u64 (IntKind.u64.wrap ds[i].x)), (18, u), (19, I ((j : Int) - 1)), (22, v), (23, I (ds.length : Int)), (24, I (i : Int))]) ([B, D, X, R0])
     refine WC.seq (WC.seq (WC.region ?_))
     refine WL.q (oq_move rfl) rfl rfl rfl ?_
     refine WL.q (oq_geq rfl rfl) rfl rfl rfl ?_
     refine WL.nil (WE.then_normal (WC.sub (fr' := [(0, _), (7, _), (18, _), (19, _), (22, _), (23, _), (24, _), (77, _)]) ?_ ⟨rfl, rfl, rfl, rfl, rfl, rfl, rfl, rfl, trivial⟩))
     refine WC.cond rfl (fun q36 => ?_) (fun q36 => ?_)
     ·
      try simp only [Z1, Z2, Z3, Z4, Z5, Z6, Z7, Z8, Z9, Z0] at q36
      refine WC.skip (WE.then_normal (WC.sub (fr' := [(0, _), (7, _), (18, _), (19, _), (22, _), (23, _), (24, _)]) ?_ ⟨rfl, rfl, rfl, rfl, rfl, rfl, rfl, trivial⟩))
      refine WC.seq (WC.block (WC.region ?_))
      refine WL.q (oq_move rfl) rfl rfl rfl ?_
      refine WL.q (oq_move rfl) rfl rfl rfl ?_
      refine WL.q (oq_move rfl) rfl rfl rfl ?_
      refine WL.q (oq_mul rfl rfl (by rw [i64_lo, i64_hi]; (first | omega | (simp only [List.length_cons, List.length_nil, List.length_append, List.length_drop, List.length_take]; omega)))) rfl rfl rfl ?_
      refine WL.q (oq_shr rfl rfl (by omega)) rfl rfl rfl ?_
      refine WL.q (oq_convw Tryz.underlying112 Tryz.underlying5 rfl) rfl rfl rfl ?_
      refine WL.append1 ho Tryz.underlying25 ty5 rfl (by decide) (fun _ => rfl) rfl rfl (by unfold maxLen; omega) (by omega) rfl rfl (fun _ => rfl) rfl fun v38 A38 u38 ho38 hne38 => ?_
      refine WL.q (oq_assign rfl) rfl rfl rfl ?_
      refine WL.nil (WE.block_normal (WE.then_normal (WC.sub (fr' := [(0, _), (7, _), (18, _), (19, _), (22, _), (23, _), (24, _)]) ?_ ⟨rfl, rfl, rfl, rfl, rfl, rfl, rfl, trivial⟩)))
      refine WC.region ?_
      rw [be_snocj (show 0 < j by omega) hm hw8] at ho38
      refine WL.q (oq_move rfl) rfl rfl rfl ?_
      refine WL.q (oq_sub rfl rfl (by rw [i64_lo, i64_hi]; (first | omega | (simp only [List.length_cons, List.length_nil, List.length_append, List.length_drop, List.length_take]; omega)))) rfl rfl rfl ?_
      refine WL.q (oq_assign rfl) rfl rfl rfl ?_
      refine WL.nil ?_
      refine WE.again (j - 1, _, _) ?_ ?_ ⟨rfl, rfl, rfl, (gti rfl (by (try dsimp only); omega)), rfl, rfl, rfl, trivial⟩ (List.Perm.refl _)
      ·try dsimp only
       exact ⟨by omega, by rw [show ds[i].w - (j - 1) = ds[i].w - j + 1 by omega] at ho38 ⊢; exact ho38⟩
      ·(try dsimp only); omega
     ·
      try simp only [Z1, Z2, Z3, Z4, Z5, Z6, Z7, Z8, Z9, Z0] at q36
      refine WC.exit (WE.then_exit (WE.then_exit (WE.block_same (WE.then_normal (WC.sub (fr' := [(0, _), (18, _), (22, _), (23, _), (24, _)]) ?_ ⟨rfl, rfl, rfl, rfl, rfl, trivial⟩)))))
      refine WC.seq ?_
      obtain rfl : j = 0 := by omega
      rw [Nat.sub_zero, be_u64 _ _ hw8, List.take_of_length_le (by rw [be_len]; omega)] at ho
      have hbl := be_len ds[i].w ds[i].x
      have hro : RdS 1 u B (be ds[i].w ds[i].x).length (bytesV (be ds[i].w ds[i].x)) := by rw [hbl]; exact ho.rd
      have hbn := bytesN_len (ds.take i) fun d hd => hds d (List.mem_of_mem_take hd)
      rw [List.length_take] at hbn
      refine WC.region ?_
      refine WL.q (oq_move rfl) rfl rfl rfl ?_
      refine WL.q (oq_move rfl) rfl rfl rfl ?_
      refine WL.f2 ?_
      refine WL.callWE (fun a w hf => ent_inv1 hW.inv rfl rfl hf w) (hW.run _ X u B _ hX hro (by rw [List.length_append]; omega) (by omega)) rfl rfl rfl rfl fun v39_2 Hs39_2 hR39_2 => ?_
      obtain ⟨X2, rfl, rfl, hX2⟩ := hR39_2
      refine WL.app2 ?_
      refine WL.q (oq_move rfl) rfl rfl rfl ?_
      refine WL.q (oq_extract rfl rfl) rfl rfl rfl ?_
      refine WL.q (oq_extract rfl rfl) rfl rfl rfl ?_
      refine WL.q (oq_assign rfl) rfl rfl rfl ?_
      refine WL.q (oq_assign rfl) rfl rfl rfl ?_
      refine WL.nil (WE.then_normal (WC.sub (fr' := [(0, _), (21, _), (22, _), (23, _), (24, _)]) ?_ ⟨rfl, rfl, rfl, rfl, rfl, trivial⟩))
      refine WC.seq (WC.region ?_)
      refine WL.q (oq_move rfl) rfl rfl rfl ?_
      refine WL.q (oq_ineq Tryz.underlying41 rfl (.inl rfl)) rfl rfl rfl ?_
      refine WL.nil (WE.then_normal (WC.sub (fr' := [(0, _), (21, _), (22, _), (23, _), (24, _), (95, _)]) ?_ ⟨rfl, rfl, rfl, rfl, rfl, rfl, trivial⟩))
      refine WC.cond rfl (fun q40 => ?_) (fun q40 => ?_)
      ·
       try simp only [Z1, Z2, Z3, Z4, Z5, Z6, Z7, Z8, Z9, Z0] at q40
       first | contradiction | (exfalso; omega) | (exfalso; simp_all [Num.ok, Num.kinds]; done) | (exfalso; simp_all [Num.ok, Num.kinds]; omega)
      ·
       try simp only [Z1, Z2, Z3, Z4, Z5, Z6, Z7, Z8, Z9, Z0] at q40
       refine WC.skip (WE.block_normal (WE.then_normal (WC.sub (fr' := [(0, _), (22, _), (23, _), (24, _)]) ?_ ⟨rfl, rfl, rfl, rfl, trivial⟩)))
       refine WC.region ?_
       refine WL.q (oq_add rfl rfl (by rw [i64_lo, i64_hi]; (first | omega | (simp only [List.length_cons, List.length_nil, List.length_append, List.length_drop, List.length_take]; omega)))) rfl rfl rfl ?_
       refine WL.q (oq_move rfl) rfl rfl rfl ?_
       refine WL.nil ?_
       refine WE.f1 ?_
       refine WE.forget ho.fresh ?_
       refine WE.f2 ?_
       refine WE.f1 ?_
       refine WE.f2 ?_
       refine WE.again (i + 1, X2) ?_ ?_ ⟨rfl, rfl, rfl, rfl, trivial⟩ (List.Perm.refl _)
       ·try dsimp only
        exact ⟨by omega, by rw [bytesN_snoc ds i hlt, ← List.append_assoc]; exact hX2⟩
       ·(try dsimp only); omega
  ·
   try simp only [Z1, Z2, Z3, Z4, Z5, Z6, Z7, Z8, Z9, Z0] at q2
   refine WC.exit (WE.then_exit (WE.then_exit (WE.block_same (WE.then_normal (WC.sub (fr' := []) ?_ trivial)))))
   refine WC.seq ?_
   obtain rfl : i = ds.length := by omega
   rw [List.take_length] at hX
   refine WC.region ?_
   refine WL.q (oq_assign rfl) rfl rfl rfl ?_
   refine WL.nil (WE.then_normal (WC.sub (fr' := [(4, _)]) ?_ ⟨rfl, trivial⟩))
   refine WC.ret ?_
   refine WE.endW2 (.inl rfl) (res1 Tryz.results31 rfl) ?_
   exact ⟨_, rfl, rfl, hX⟩
end EE
end Go.Proofs.YtpjeiimlglgklaaGreatDoor
/- Values written. -/
namespace Go.Proofs.YtpjeiimlglgklaaGreatDoor
open Go Go.RowKit V EA EB EC ED EE
set_option linter.unusedSimpArgs false
set_option linter.unusedVariables false
set_option maxRecDepth 10000
namespace EF
theorem call31 : Callable Tryz.prog 31 := ⟨_, Tryz.func31, rfl, by kernel_rfl⟩
theorem flat5 : Flat Tryz.prog 5 := ⟨_, Tryz.underlying5, by simp⟩
theorem flat113 : Flat Tryz.prog 113 := ⟨_, Tryz.underlying113, by simp⟩
theorem flat115 : Flat Tryz.prog 115 := ⟨_, Tryz.underlying115, by simp⟩
theorem ty5 : Ty Tryz.prog 5 (.int .u8 0) 1 1 := ty_of (by kernel_rfl)
theorem ty20 : Ty Tryz.prog 20 .nilIface 1 16 := ty_of (by kernel_rfl)
theorem ty98 : Ty Tryz.prog 98 (.agg #[(.int .u8 0), (.int .u8 0), (.int .u8 0), (.int .u8 0), (.int .u8 0), (.int .u8 0), (.int .u8 0), (.int .u8 0), (.int .u8 0), (.int .u8 0), (.int .u8 0), (.int .u8 0), (.int .u8 0), (.int .u8 0), (.int .u8 0), (.int .u8 0), (.int .u8 0), (.int .u8 0), (.int .u8 0), (.int .u8 0), (.int .u8 0), (.int .u8 0), (.int .u8 0), (.int .u8 0), (.int .u8 0), (.int .u8 0), (.int .u8 0), (.int .u8 0), (.int .u8 0), (.int .u8 0), (.int .u8 0), (.int .u8 0), (.int .u8 0), (.int .u8 0), (.int .u8 0), (.int .u8 0), (.int .u8 0), (.int .u8 0), (.int .u8 0), (.int .u8 0), (.int .u8 0), (.int .u8 0), (.int .u8 0), (.int .u8 0), (.int .u8 0), (.int .u8 0), (.int .u8 0), (.int .u8 0), (.int .u8 0), (.int .u8 0), (.int .u8 0), (.int .u8 0), (.int .u8 0), (.int .u8 0), (.int .u8 0), (.int .u8 0), (.int .u8 0), (.int .u8 0), (.int .u8 0), (.int .u8 0), (.int .u8 0), (.int .u8 0), (.int .u8 0), (.int .u8 0), (.int .u8 0), (.int .u8 0), (.int .u8 0), (.int .u8 0), (.int .u8 0), (.int .u8 0), (.int .u8 0), (.int .u8 0), (.int .u8 0), (.int .u8 0), (.int .u8 0), (.int .u8 0), (.int .u8 0), (.int .u8 0), (.int .u8 0), (.int .u8 0), (.int .u8 0), (.int .u8 0), (.int .u8 0), (.int .u8 0), (.int .u8 0), (.int .u8 0), (.int .u8 0), (.int .u8 0), (.int .u8 0), (.int .u8 0), (.int .u8 0), (.int .u8 0), (.int .u8 0), (.int .u8 0), (.int .u8 0), (.int .u8 0), (.int .u8 0), (.int .u8 0), (.int .u8 0), (.int .u8 0), (.int .u8 0), (.int .u8 0), (.int .u8 0), (.int .u8 0), (.int .u8 0), (.int .u8 0), (.int .u8 0), (.int .u8 0), (.int .u8 0), (.int .u8 0), (.int .u8 0), (.int .u8 0), (.int .u8 0), (.int .u8 0), (.int .u8 0), (.int .u8 0), (.int .u8 0), (.int .u8 0), (.int .u8 0), (.int .u8 0), (.int .u8 0), (.int .u8 0), (.int .u8 0), (.int .u8 0), (.int .u8 0), (.int .u8 0), (.int .u8 0), (.int .u8 0), (.int .u8 0), (.int .u8 0), (.int .u8 0), (.int .u8 0), (.int .u8 0), (.int .u8 0), (.int .u8 0), (.int .u8 0), (.int .u8 0), (.int .u8 0), (.int .u8 0), (.int .u8 0), (.int .u8 0), (.int .u8 0), (.int .u8 0), (.int .u8 0), (.int .u8 0), (.int .u8 0), (.int .u8 0), (.int .u8 0), (.int .u8 0), (.int .u8 0), (.int .u8 0), (.int .u8 0), (.int .u8 0), (.int .u8 0), (.int .u8 0), (.int .u8 0), (.int .u8 0), (.int .u8 0), (.int .u8 0), (.int .u8 0), (.int .u8 0), (.int .u8 0), (.int .u8 0), (.int .u8 0), (.int .u8 0), (.int .u8 0), (.int .u8 0), (.int .u8 0), (.int .u8 0), (.int .u8 0), (.int .u8 0), (.int .u8 0), (.int .u8 0), (.int .u8 0), (.int .u8 0), (.int .u8 0), (.int .u8 0), (.int .u8 0), (.int .u8 0), (.int .u8 0), (.int .u8 0), (.int .u8 0), (.int .u8 0), (.int .u8 0), (.int .u8 0), (.int .u8 0), (.int .u8 0), (.int .u8 0), (.int .u8 0), (.int .u8 0), (.int .u8 0), (.int .u8 0), (.int .u8 0), (.int .u8 0), (.int .u8 0), (.int .u8 0), (.int .u8 0), (.int .u8 0), (.int .u8 0), (.int .u8 0), (.int .u8 0), (.int .u8 0), (.int .u8 0), (.int .u8 0), (.int .u8 0), (.int .u8 0), (.int .u8 0), (.int .u8 0), (.int .u8 0), (.int .u8 0), (.int .u8 0), (.int .u8 0), (.int .u8 0), (.int .u8 0), (.int .u8 0), (.int .u8 0), (.int .u8 0), (.int .u8 0), (.int .u8 0), (.int .u8 0), (.int .u8 0), (.int .u8 0), (.int .u8 0), (.int .u8 0), (.int .u8 0), (.int .u8 0), (.int .u8 0), (.int .u8 0), (.int .u8 0), (.int .u8 0), (.int .u8 0), (.int .u8 0), (.int .u8 0), (.int .u8 0), (.int .u8 0), (.int .u8 0), (.int .u8 0), (.int .u8 0), (.int .u8 0), (.int .u8 0), (.int .u8 0), (.int .u8 0), (.int .u8 0), (.int .u8 0), (.int .u8 0), (.int .u8 0), (.int .u8 0), (.int .u8 0), (.int .u8 0), (.int .u8 0), (.int .u8 0), (.int .u8 0), (.int .u8 0), (.int .u8 0), (.int .u8 0)]) 255 255 := ty_of (by kernel_rfl)
theorem ty113 : Ty Tryz.prog 113 (.int .u8 0) 1 1 := ty_of (by kernel_rfl)
theorem ty115 : Ty Tryz.prog 115 (.int .u16 0) 1 2 := ty_of (by kernel_rfl)
theorem conc5 : Conc Tryz.prog 5 := ⟨_, Tryz.underlying5, by simp⟩
theorem conc113 : Conc Tryz.prog 113 := ⟨_, Tryz.underlying113, by simp⟩
theorem conc115 : Conc Tryz.prog 115 := ⟨_, Tryz.underlying115, by simp⟩
theorem fld100_0 : Fld Tryz.prog 100 0 0 5 := fld_of Tryz.underlying100 rfl rfl rfl ty5 (by decide)
theorem fld100_1 : Fld Tryz.prog 100 1 1 98 := fld_of Tryz.underlying100 rfl rfl rfl ty98 (by decide)
theorem fld170_0 : Fld Tryz.prog 170 0 0 113 := fld_of Tryz.underlying170 rfl rfl rfl ty113 (by decide)
theorem fld170_1 : Fld Tryz.prog 170 1 1 115 := fld_of Tryz.underlying170 rfl rfl rfl ty115 (by decide)
theorem be1 (b : UInt8) : be 1 (b.toNat : Int) = [b] := by
 have e : beB 0 (b.toNat : Int) = b := by
  apply UInt8.toNat_inj.1
  have h := beB_nat 0 (b.toNat : Int)
  have := b.toNat_lt
  simp at h
  omega
 show [beB 0 _] = [b]
 rw [e]
theorem ok1 {a : Num} (h : a.ok) : ∀ d ∈ [a], d.ok := fun d hd => by rw [List.mem_singleton] at hd; subst hd; exact h
theorem ok2 {a b : Num} (h : a.ok) (h2 : b.ok) : ∀ d ∈ [a, b], d.ok := fun d hd => by
 rcases List.mem_cons.1 hd with rfl | hd
 ·exact h
 ·exact ok1 h2 d hd
theorem okT (x : Int) : Num.ok ⟨113, .u8, 1, x⟩ := by simp [Num.ok, Num.kinds]
theorem okB (x : Int) : Num.ok ⟨5, .u8, 1, x⟩ := by simp [Num.ok, Num.kinds]
theorem bytesN1 (k : TypeId) (ik : IntKind) (b : UInt8) : bytesN [⟨k, ik, 1, (b.toNat : Int)⟩] = [b] := by simp [bytesN, be1]
theorem bytesN2 (k : TypeId) (ik : IntKind) (b : UInt8) (d : Num) : bytesN [⟨k, ik, 1, (b.toNat : Int)⟩, d] = b :: be d.w d.x := by simp [bytesN, be1]
abbrev Then (Wt : List UInt8 → Hp → Prop) (acc : List UInt8) (R : List Hp) (w : Value) (Hs : List Hp) : Prop := ∃ G2, w = .nilIface ∧ Hs = G2 :: R ∧ Wt acc G2
theorem nameEnc (base : Nat) (k : TypeId) (r : Value) (f : FuncId) (Wt : List UInt8 → Hp → Prop) (hW : Wr base k r f Wt) (acc0 : List UInt8) (G : Hp) (hG : Wt acc0 G) (b0 : UInt8) (nm : List UInt8) (hnm : nm.length = 255) (hal : acc0.length ≤ 80000000000000) : FnW Tryz.prog 36 [.agg (bytesV (b0 :: nm)).toArray, .iface k r] base [G] (Then Wt (acc0 ++ (b0 :: nm.take b0.toNat)) []) := by
 have hb8 := b0.toNat_lt
 refine FnW.enter (n := 30) Tryz.func36 rfl rfl fun w0 R0 hbase => ?_
 subst hbase
 show WC _ _ _ _ _ _ _ ([G, R0])
 refine WC.sub (fr' := [(0, _), (1, _)]) ?_ ⟨rfl, rfl, trivial⟩
 refine WC.seq (WC.region ?_)
 refine WL.box rfl rfl rfl fun hb hhb => ?_
 refine WL.asB (b0 :: nm) rfl ?_
 refine WL.q (oq_assign rfl) rfl rfl rfl ?_
 refine WL.nil (WE.then_normal (WC.sub (fr' := [(1, _), (2, _)]) ?_ ⟨rfl, rfl, trivial⟩))
 refine WC.seq (WC.seq (WC.region ?_))
 refine WL.q (oq_move rfl) rfl rfl rfl ?_
 refine WL.q (oq_fieldAddr fld100_0 rfl) rfl rfl rfl ?_
 refine WL.q (oq_load flat5 rfl (.head _) (List.mem_singleton.2 rfl) rfl) rfl rfl rfl ?_
 refine WL.q (oq_makeI conc5 rfl) rfl rfl rfl ?_
 refine WL.buildL Tryz.underlying111 ty20 rfl rfl (by decide) (by decide) rfl rfl rfl fun v1 A1 ho1 hne1 => ?_
 refine WL.f2 ?_
 refine WL.f1 ?_
 refine WL.callW2 (zzWrite _ k r f Wt hW acc0 G hG v1 A1 [⟨5, .u8, 1, (b0.toNat : Int)⟩] ho1.rd (ok1 (okB _)) (by simp) (by simp; omega)) call31 rfl rfl rfl fun v1_5 Hs1_5 hR1_5 => ?_
 obtain ⟨G2, rfl, rfl, hG2⟩ := hR1_5
 rw [bytesN1] at hG2
 refine WL.to2 ?_
 refine WL.q (oq_assign rfl) rfl rfl rfl ?_
 refine WL.nil (WE.then_normal (WC.sub (fr' := [(1, _), (2, _), (5, _)]) ?_ ⟨rfl, rfl, rfl, trivial⟩))
 refine WC.seq (WC.region ?_)
 refine WL.q (oq_move rfl) rfl rfl rfl ?_
 refine WL.q (oq_ineq Tryz.underlying41 rfl (.inl rfl)) rfl rfl rfl ?_
 refine WL.nil (WE.then_normal (WC.sub (fr' := [(1, _), (2, _), (5, _), (15, _)]) ?_ ⟨rfl, rfl, rfl, rfl, trivial⟩))
 refine WC.cond rfl (fun q2 => ?_) (fun q2 => ?_)
 ·
  try simp only [Z1, Z2, Z3, Z4, Z5, Z6, Z7, Z8, Z9, Z0] at q2
  first | contradiction | (exfalso; omega) | (exfalso; simp_all; done)
 ·
  try simp only [Z1, Z2, Z3, Z4, Z5, Z6, Z7, Z8, Z9, Z0] at q2
  refine WC.skip (WE.then_normal (WC.sub (fr' := [(1, _), (2, _)]) ?_ ⟨rfl, rfl, trivial⟩))
  refine WC.seq ?_
  have hnl : (nm.take b0.toNat).length = b0.toNat := by rw [List.length_take]; omega
  have hrd : RdS 1 (Sl hb (0 + 1 + 0) (b0.toNat - 0) (255 - 0)) (Bf hb 100 (b0 :: nm)) (nm.take b0.toNat).length (bytesV (nm.take b0.toNat)) := by
   rw [hnl]; exact Sl.rd (b := hb) (off := 1) (n := b0.toNat) (c := 255) (e := 100) (l := b0 :: nm) (by rw [List.length_cons]; omega) (by omega)
  refine WC.tailM (pl := []) (ql := [_, _, _, _, _, _, _, _]) (tl := [_, _, _, _, _, _]) [] [0, 1, 2, 3, 4, 5, 6, 7] 8 [9, 10, 11, 12, 13] (by kernel_rfl) (by kernel_rfl) (by kernel_rfl) (by kernel_rfl) (by kernel_rfl) (by kernel_rfl) (by decide) rfl rfl rfl (by decide) (by repeat (first | with_reducible exact QOk.body | with_reducible apply QOk.then | with_reducible apply QOk.block | exact QOk.body | apply QOk.then | apply QOk.block)) ?_
  refine WM.nil ?_
  refine WY.q (oq_move rfl) rfl rfl rfl ?_
  refine WY.q (oq_fieldAddr fld100_1 rfl) rfl rfl rfl ?_
  refine WY.q (oq_fieldAddr fld100_0 rfl) rfl rfl rfl ?_
  refine WY.q (oq_load flat5 rfl (.tail _ (.tail _ (.head _))) (List.mem_singleton.2 rfl) rfl) rfl rfl rfl ?_
  refine WY.q (oq_sliceArr (j := b0.toNat) Tryz.underlying98 ty5 rfl rfl ⟨_, rfl⟩ (by omega) (by omega)) rfl rfl rfl ?_
  refine WY.q (oq_makeMeth rfl) rfl rfl rfl ?_
  refine WY.q (oq_nilMeth rfl (hW.nok)) rfl rfl rfl ?_
  refine WY.q (oq_move rfl) rfl rfl rfl ?_
  refine WY.nil ?_
  refine WL.f2 ?_
  refine WL.f2 ?_
  refine WL.callWE (fun a w hf => ent_inv1 hW.inv rfl rfl hf w) (hW.run _ G2 _ (Bf hb 100 (b0 :: nm)) (nm.take b0.toNat) hG2 hrd (by rw [List.length_append]; simp only [List.length_singleton]; omega) (by rw [List.length_append]; simp only [List.length_singleton]; omega)) rfl rfl rfl rfl fun v4_8 Hs4_8 hR4_8 => ?_
  obtain ⟨G3, rfl, rfl, hG3⟩ := hR4_8
  refine WL.app2 ?_
  refine WL.q (oq_move rfl) rfl rfl rfl ?_
  refine WL.q (oq_extract rfl rfl) rfl rfl rfl ?_
  refine WL.q (oq_extract rfl rfl) rfl rfl rfl ?_
  refine WL.q (oq_assign rfl) rfl rfl rfl ?_
  refine WL.q (oq_assign rfl) rfl rfl rfl ?_
  refine WL.nil (WE.then_normal (WC.sub (fr' := [(7, _)]) ?_ ⟨rfl, trivial⟩))
  refine WC.seq (WC.region ?_)
  refine WL.q (oq_move rfl) rfl rfl rfl ?_
  refine WL.q (oq_assign rfl) rfl rfl rfl ?_
  refine WL.nil (WE.then_normal (WC.sub (fr' := [(4, _)]) ?_ ⟨rfl, trivial⟩))
  refine WC.ret ?_
  refine WE.f1 ?_
  refine WE.lose hhb ?_
  refine WE.f1 ?_
  refine WE.forget ho1.fresh ?_
  refine WE.endW1 (.inl rfl) (res1 Tryz.results36 rfl) ?_
  exact ⟨_, rfl, rfl, by rw [List.append_assoc] at hG3; exact hG3⟩
theorem encScalar (base : Nat) (k : TypeId) (r : Value) (f : FuncId) (Wt : List UInt8 → Hp → Prop) (hW : Wr base k r f Wt) (acc0 : List UInt8) (G : Hp) (hG : Wt acc0 G) (t : UInt8) (l1 l2 : Value) (d : Num) (hd : d.ok) (hal : acc0.length ≤ 80000000000000) : FnW Tryz.prog 122 [.agg #[.int .u8 (t.toNat : Int), l1, l2], .iface k r, d.val] base [G] (Then Wt (acc0 ++ (t :: be d.w d.x)) []) := by
 refine FnW.enter (n := 14) Tryz.func122 rfl rfl fun w0 R0 hbase => ?_
 subst hbase
 show WC _ _ _ _ _ _ _ ([G, R0])
 refine WC.sub (fr' := [(0, _), (1, _), (2, _)]) ?_ ⟨rfl, rfl, rfl, trivial⟩
 refine WC.seq (WC.region ?_)
 refine WL.box rfl rfl rfl fun b0_0 hb0_0 => ?_
 refine WL.q (oq_assign rfl) rfl rfl rfl ?_
 refine WL.nil (WE.then_normal (WC.sub (fr' := [(1, _), (2, _), (3, _)]) ?_ ⟨rfl, rfl, rfl, trivial⟩))
 refine WC.seq (WC.region ?_)
 refine WL.q (oq_move rfl) rfl rfl rfl ?_
 refine WL.q (oq_fieldAddr fld170_0 rfl) rfl rfl rfl ?_
 refine WL.q (oq_load flat113 rfl (.head _) (List.mem_singleton.2 rfl) rfl) rfl rfl rfl ?_
 refine WL.q (oq_makeI conc113 rfl) rfl rfl rfl ?_
 refine WL.q (oq_move rfl) rfl rfl rfl ?_
 refine WL.buildL Tryz.underlying111 ty20 rfl rfl (by decide) (by decide) rfl rfl rfl fun v1 A1 ho1 hne1 => ?_
 refine WL.f2 ?_
 refine WL.f1 ?_
 refine WL.callW2 (zzWrite _ k r f Wt hW acc0 G hG v1 A1 [⟨113, .u8, 1, (t.toNat : Int)⟩, d] ho1.rd (ok2 (okT _) hd) (by simp) (by simp; omega)) call31 rfl rfl rfl fun v1_6 Hs1_6 hR1_6 => ?_
 obtain ⟨G2, rfl, rfl, hG2⟩ := hR1_6
 rw [bytesN2] at hG2
 refine WL.to2 ?_
 refine WL.q (oq_assign rfl) rfl rfl rfl ?_
 refine WL.nil (WE.then_normal (WC.sub (fr' := [(6, _)]) ?_ ⟨rfl, trivial⟩))
 refine WC.ret ?_
 refine WE.forget ho1.fresh ?_
 refine WE.f1 ?_
 refine WE.lose hb0_0 ?_
 refine WE.endW1 (.inl rfl) (res1 Tryz.results122 rfl) ?_
 exact ⟨_, rfl, rfl, hG2⟩
theorem encBytes (base : Nat) (k : TypeId) (r : Value) (f : FuncId) (Wt : List UInt8 → Hp → Prop) (hW : Wr base k r f Wt) (acc0 : List UInt8) (G : Hp) (hG : Wt acc0 G) (t : UInt8) (l1 l2 : Value) (s : Value) (Z : Hp) (data : List UInt8) (hr : RdS 1 s Z data.length (bytesV data)) (hdl : data.length ≤ 32767) (hal : acc0.length ≤ 80000000000000) : FnW Tryz.prog 139 [.agg #[.int .u8 (t.toNat : Int), l1, l2], .iface k r, s] base [G, Z] (Then Wt (acc0 ++ (t :: be 2 data.length ++ data)) [Z]) := by
 refine FnW.enter (n := 40) Tryz.func139 rfl rfl fun w0 R0 hbase => ?_
 subst hbase
 show WC _ _ _ _ _ _ _ ([G, Z, R0])
 refine WC.sub (fr' := [(0, _), (1, _), (2, _)]) ?_ ⟨rfl, rfl, rfl, trivial⟩
 refine WC.seq (WC.region ?_)
 refine WL.box rfl rfl rfl fun b0_0 hb0_0 => ?_
 refine WL.q (oq_assign rfl) rfl rfl rfl ?_
 refine WL.nil (WE.then_normal (WC.sub (fr' := [(1, _), (2, _), (3, _)]) ?_ ⟨rfl, rfl, rfl, trivial⟩))
 refine WC.seq (WC.seq (WC.region ?_))
 refine WL.q (oq_move rfl) rfl rfl rfl ?_
 refine WL.q (oq_len_rd hr Tryz.underlying25 rfl) rfl rfl rfl ?_
 refine WL.q (oq_gtr rfl rfl) rfl rfl rfl ?_
 refine WL.nil (WE.then_normal (WC.sub (fr' := [(1, _), (2, _), (3, _), (10, _)]) ?_ ⟨rfl, rfl, rfl, rfl, trivial⟩))
 refine WC.cond rfl (fun q1 => ?_) (fun q1 => ?_)
 ·
  try simp only [Z1, Z2, Z3, Z4, Z5, Z6, Z7, Z8, Z9, Z0] at q1
  first | contradiction | (exfalso; omega) | (exfalso; simp_all; done)
 ·
  try simp only [Z1, Z2, Z3, Z4, Z5, Z6, Z7, Z8, Z9, Z0] at q1
  refine WC.skip (WE.then_normal (WC.sub (fr' := [(1, _), (2, _), (3, _)]) ?_ ⟨rfl, rfl, rfl, trivial⟩))
  refine WC.seq (WC.region ?_)
  refine WL.q (oq_move rfl) rfl rfl rfl ?_
  refine WL.q (oq_len_rd hr Tryz.underlying25 rfl) rfl rfl rfl ?_
  refine WL.q (oq_conv Tryz.underlying3 Tryz.underlying115 rfl (by rw [u16_lo, u16_hi]; (first | omega | (simp only [List.length_cons, List.length_nil, List.length_append, List.length_drop, List.length_take]; omega)))) rfl rfl rfl ?_
  refine WL.q (oq_fieldAddr fld170_1 rfl) rfl rfl rfl ?_
  refine WL.store1 #[_, _, _] ty115 rfl rfl (by first | rfl | exact OwS.one one_) (Nat.lt_of_lt_of_le (Nat.lt_succ_self _) (Nat.le_of_ble_eq_true rfl)) rfl rfl ?_
  refine WL.nil (WE.then_normal (WC.sub (fr' := [(1, _), (2, _), (3, _)]) ?_ ⟨rfl, rfl, rfl, trivial⟩))
  refine WC.seq (WC.region ?_)
  refine WL.q (oq_move rfl) rfl rfl rfl ?_
  refine WL.q (oq_fieldAddr fld170_0 rfl) rfl rfl rfl ?_
  refine WL.q (oq_load flat113 rfl (.head _) (List.mem_singleton.2 rfl) rfl) rfl rfl rfl ?_
  refine WL.q (oq_makeI conc113 rfl) rfl rfl rfl ?_
  refine WL.q (oq_fieldAddr fld170_1 rfl) rfl rfl rfl ?_
  refine WL.q (oq_load flat115 rfl (.head _) (List.mem_singleton.2 rfl) rfl) rfl rfl rfl ?_
  refine WL.q (oq_makeI conc115 rfl) rfl rfl rfl ?_
  refine WL.buildL Tryz.underlying111 ty20 rfl rfl (by decide) (by decide) rfl rfl rfl fun v4 A4 ho4 hne4 => ?_
  refine WL.f2 ?_
  refine WL.f1 ?_
  refine WL.callW2 (zzWrite _ k r f Wt hW acc0 G hG v4 A4 [⟨113, .u8, 1, (t.toNat : Int)⟩, ⟨115, .u16, 2, (data.length : Int)⟩] ho4.rd (ok2 (okT _) (by simp [Num.ok, Num.kinds])) (by simp) (by simp; omega)) call31 rfl rfl rfl fun v4_8 Hs4_8 hR4_8 => ?_
  obtain ⟨G2, rfl, rfl, hG2⟩ := hR4_8
  rw [bytesN2] at hG2
  refine WL.to2 ?_
  refine WL.q (oq_assign rfl) rfl rfl rfl ?_
  refine WL.nil (WE.then_normal (WC.sub (fr' := [(1, _), (2, _), (7, _)]) ?_ ⟨rfl, rfl, rfl, trivial⟩))
  refine WC.seq (WC.seq (WC.region ?_))
  refine WL.q (oq_move rfl) rfl rfl rfl ?_
  refine WL.q (oq_ineq Tryz.underlying41 rfl (.inl rfl)) rfl rfl rfl ?_
  refine WL.nil (WE.then_normal (WC.sub (fr' := [(1, _), (2, _), (7, _), (31, _)]) ?_ ⟨rfl, rfl, rfl, rfl, trivial⟩))
  refine WC.cond rfl (fun q5 => ?_) (fun q5 => ?_)
  ·
   try simp only [Z1, Z2, Z3, Z4, Z5, Z6, Z7, Z8, Z9, Z0] at q5
   first | contradiction | (exfalso; omega) | (exfalso; simp_all; done)
  ·
   try simp only [Z1, Z2, Z3, Z4, Z5, Z6, Z7, Z8, Z9, Z0] at q5
   refine WC.skip (WE.then_normal (WC.sub (fr' := [(1, _), (2, _)]) ?_ ⟨rfl, rfl, trivial⟩))
   refine WC.seq (WC.region ?_)
   refine WL.q (oq_move rfl) rfl rfl rfl ?_
   refine WL.q (oq_move rfl) rfl rfl rfl ?_
   refine WL.f3 ?_
   refine WL.f2 ?_
   refine WL.callWE (fun a w hf => ent_inv1 hW.inv rfl rfl hf w) (hW.run _ G2 s Z data hG2 hr (by simp [be_len]; omega) (by simp; omega)) rfl rfl rfl rfl fun v7_2 Hs7_2 hR7_2 => ?_
   obtain ⟨G3, rfl, rfl, hG3⟩ := hR7_2
   refine WL.app2 ?_
   refine WL.q (oq_move rfl) rfl rfl rfl ?_
   refine WL.q (oq_extract rfl rfl) rfl rfl rfl ?_
   refine WL.q (oq_extract rfl rfl) rfl rfl rfl ?_
   refine WL.q (oq_assign rfl) rfl rfl rfl ?_
   refine WL.nil (WE.then_normal (WC.sub (fr' := [(7, _)]) ?_ ⟨rfl, trivial⟩))
   refine WC.seq (WC.region ?_)
   refine WL.q (oq_move rfl) rfl rfl rfl ?_
   refine WL.q (oq_assign rfl) rfl rfl rfl ?_
   refine WL.nil (WE.then_normal (WC.sub (fr' := [(6, _)]) ?_ ⟨rfl, trivial⟩))
   refine WC.ret ?_
   refine WE.f2 ?_
   refine WE.forget ho4.fresh ?_
   refine WE.f2 ?_
   refine WE.lose hb0_0 ?_
   refine WE.endW2 (.inl rfl) (res1 Tryz.results139 rfl) ?_
   exact ⟨_, rfl, rfl, by rw [List.append_assoc] at hG3; exact hG3⟩
theorem encFixed (base : Nat) (k : TypeId) (r : Value) (f : FuncId) (Wt : List UInt8 → Hp → Prop) (hW : Wr base k r f Wt) (acc0 : List UInt8) (G : Hp) (hG : Wt acc0 G) (t : UInt8) (l1 l2 : Value) (s : Value) (Z : Hp) (data : List UInt8) (hr : RdS 1 s Z data.length (bytesV data)) (hdl : data.length ≤ 32767) (hal : acc0.length ≤ 80000000000000) : FnW Tryz.prog 156 [.agg #[.int .u8 (t.toNat : Int), l1, l2], .iface k r, s] base [G, Z] (Then Wt (acc0 ++ (t :: data)) [Z]) := by
 refine FnW.enter (n := 22) Tryz.func156 rfl rfl fun w0 R0 hbase => ?_
 subst hbase
 show WC _ _ _ _ _ _ _ ([G, Z, R0])
 refine WC.sub (fr' := [(0, _), (1, _), (2, _)]) ?_ ⟨rfl, rfl, rfl, trivial⟩
 refine WC.seq (WC.region ?_)
 refine WL.box rfl rfl rfl fun b0_0 hb0_0 => ?_
 refine WL.q (oq_assign rfl) rfl rfl rfl ?_
 refine WL.nil (WE.then_normal (WC.sub (fr' := [(1, _), (2, _), (3, _)]) ?_ ⟨rfl, rfl, rfl, trivial⟩))
 refine WC.seq (WC.region ?_)
 refine WL.q (oq_move rfl) rfl rfl rfl ?_
 refine WL.q (oq_fieldAddr fld170_0 rfl) rfl rfl rfl ?_
 refine WL.q (oq_load flat113 rfl (.head _) (List.mem_singleton.2 rfl) rfl) rfl rfl rfl ?_
 refine WL.q (oq_makeI conc113 rfl) rfl rfl rfl ?_
 refine WL.buildL Tryz.underlying111 ty20 rfl rfl (by decide) (by decide) rfl rfl rfl fun v1 A1 ho1 hne1 => ?_
 refine WL.f2 ?_
 refine WL.f1 ?_
 refine WL.callW2 (zzWrite _ k r f Wt hW acc0 G hG v1 A1 [⟨113, .u8, 1, (t.toNat : Int)⟩] ho1.rd (ok1 (okT _)) (by simp) (by simp; omega)) call31 rfl rfl rfl fun v1_5 Hs1_5 hR1_5 => ?_
 obtain ⟨G2, rfl, rfl, hG2⟩ := hR1_5
 rw [bytesN1] at hG2
 refine WL.to2 ?_
 refine WL.nil (WE.then_normal (WC.sub (fr' := [(1, _), (2, _)]) ?_ ⟨rfl, rfl, trivial⟩))
 refine WC.seq (WC.region ?_)
 refine WL.q (oq_move rfl) rfl rfl rfl ?_
 refine WL.q (oq_move rfl) rfl rfl rfl ?_
 refine WL.f3 ?_
 refine WL.f2 ?_
 refine WL.callWE (fun a w hf => ent_inv1 hW.inv rfl rfl hf w) (hW.run _ G2 s Z data hG2 hr (by simp; omega) (by simp; omega)) rfl rfl rfl rfl fun v2_2 Hs2_2 hR2_2 => ?_
 obtain ⟨G3, rfl, rfl, hG3⟩ := hR2_2
 refine WL.app2 ?_
 refine WL.q (oq_move rfl) rfl rfl rfl ?_
 refine WL.q (oq_extract rfl rfl) rfl rfl rfl ?_
 refine WL.q (oq_extract rfl rfl) rfl rfl rfl ?_
 refine WL.q (oq_assign rfl) rfl rfl rfl ?_
 refine WL.q (oq_assign rfl) rfl rfl rfl ?_
 refine WL.nil (WE.then_normal (WC.sub (fr' := [(8, _)]) ?_ ⟨rfl, trivial⟩))
 refine WC.seq (WC.region ?_)
 refine WL.q (oq_move rfl) rfl rfl rfl ?_
 refine WL.q (oq_assign rfl) rfl rfl rfl ?_
 refine WL.nil (WE.then_normal (WC.sub (fr' := [(6, _)]) ?_ ⟨rfl, trivial⟩))
 refine WC.ret ?_
 refine WE.f2 ?_
 refine WE.forget ho1.fresh ?_
 refine WE.f2 ?_
 refine WE.lose hb0_0 ?_
 refine WE.endW2 (.inl rfl) (res1 Tryz.results156 rfl) ?_
 exact ⟨_, rfl, rfl, by rw [List.append_assoc] at hG3; exact hG3⟩
theorem invBS : Inv1 Tryz.prog 45 "WriteString" 166 := fun x a w => by kernel_rfl
theorem askBS : AskYes Tryz.prog 45 231 := fun x u w => by kernel_rfl
theorem bufWrS (base bb : Nat) (acc : List UInt8) (G : Hp) (data : List UInt8) (hG : BufG base bb acc G) (hl : acc.length + data.length ≤ 100000000000000) (h0 : 0 < acc.length + data.length) :
  FnW Tryz.prog 166 [Pt bb 0, S data] base [G] (fun w Hs => ∃ G', w = .tuple #[I (data.length : Int), .nilIface] ∧ Hs = [G'] ∧ BufG base bb (acc ++ data) G') := by
 obtain ⟨v, lr, A, rfl, hb⟩ := hG
 intro w0 R0 w hbase hw
 refine (bufWriteS base bb lr v A acc data hb (by omega) h0 w0 R0 w hbase (by simpa using hw)).mono ?_
 rintro e w' ⟨u, Hs, he, ⟨v2, A2, rfl, rfl, hb2⟩, hst⟩
 exact ⟨_, [BB bb v2 0 ++ A2], he, ⟨_, rfl, rfl, v2, 0, A2, rfl, hb2⟩, by simpa using hst⟩
theorem encString (base bb : Nat) (acc0 : List UInt8) (G : Hp) (hG : BufG base bb acc0 G) (t : UInt8) (l1 l2 : Value) (data : List UInt8) (hdl : data.length ≤ 32767) (hal : acc0.length ≤ 80000000000000) : FnW Tryz.prog 144 [.agg #[.int .u8 (t.toNat : Int), l1, l2], .iface 45 (Pt bb 0), S data] base [G] (Then (BufG base bb) (acc0 ++ (t :: be 2 data.length ++ data)) []) := by
 refine FnW.enter (n := 55) Tryz.func144 rfl rfl fun w0 R0 hbase => ?_
 subst hbase
 show WC _ _ _ _ _ _ _ ([G, R0])
 refine WC.sub (fr' := [(0, _), (1, _), (2, _)]) ?_ ⟨rfl, rfl, rfl, trivial⟩
 refine WC.seq (WC.region ?_)
 refine WL.box rfl rfl rfl fun b0_0 hb0_0 => ?_
 refine WL.q (oq_assign rfl) rfl rfl rfl ?_
 refine WL.nil (WE.then_normal (WC.sub (fr' := [(1, _), (2, _), (3, _)]) ?_ ⟨rfl, rfl, rfl, trivial⟩))
 refine WC.seq (WC.seq (WC.region ?_))
 refine WL.q (oq_move rfl) rfl rfl rfl ?_
 refine WL.q (oq_len_s Tryz.underlying9 rfl) rfl rfl rfl ?_
 refine WL.q (oq_gtr rfl rfl) rfl rfl rfl ?_
 refine WL.nil (WE.then_normal (WC.sub (fr' := [(1, _), (2, _), (3, _), (12, _)]) ?_ ⟨rfl, rfl, rfl, rfl, trivial⟩))
 refine WC.cond rfl (fun q1 => ?_) (fun q1 => ?_)
 ·
  try simp only [Z1, Z2, Z3, Z4, Z5, Z6, Z7, Z8, Z9, Z0] at q1
  first | contradiction | (exfalso; omega) | (exfalso; simp_all; done)
 ·
  try simp only [Z1, Z2, Z3, Z4, Z5, Z6, Z7, Z8, Z9, Z0] at q1
  refine WC.skip (WE.then_normal (WC.sub (fr' := [(1, _), (2, _), (3, _)]) ?_ ⟨rfl, rfl, rfl, trivial⟩))
  refine WC.seq (WC.region ?_)
  refine WL.q (oq_move rfl) rfl rfl rfl ?_
  refine WL.q (oq_len_s Tryz.underlying9 rfl) rfl rfl rfl ?_
  refine WL.q (oq_conv Tryz.underlying3 Tryz.underlying115 rfl (by rw [u16_lo, u16_hi]; (first | omega | (simp only [List.length_cons, List.length_nil, List.length_append, List.length_drop, List.length_take]; omega)))) rfl rfl rfl ?_
  refine WL.q (oq_fieldAddr fld170_1 rfl) rfl rfl rfl ?_
  refine WL.store1 #[_, _, _] ty115 rfl rfl (by first | rfl | exact OwS.one one_) (Nat.lt_of_lt_of_le (Nat.lt_succ_self _) (Nat.le_of_ble_eq_true rfl)) rfl rfl ?_
  refine WL.nil (WE.then_normal (WC.sub (fr' := [(1, _), (2, _), (3, _)]) ?_ ⟨rfl, rfl, rfl, trivial⟩))
  refine WC.seq (WC.region ?_)
  refine WL.q (oq_move rfl) rfl rfl rfl ?_
  refine WL.q (oq_fieldAddr fld170_0 rfl) rfl rfl rfl ?_
  refine WL.q (oq_load flat113 rfl (.head _) (List.mem_singleton.2 rfl) rfl) rfl rfl rfl ?_
  refine WL.q (oq_makeI conc113 rfl) rfl rfl rfl ?_
  refine WL.q (oq_fieldAddr fld170_1 rfl) rfl rfl rfl ?_
  refine WL.q (oq_load flat115 rfl (.head _) (List.mem_singleton.2 rfl) rfl) rfl rfl rfl ?_
  refine WL.q (oq_makeI conc115 rfl) rfl rfl rfl ?_
  refine WL.buildL Tryz.underlying111 ty20 rfl rfl (by decide) (by decide) rfl rfl rfl fun v4 A4 ho4 hne4 => ?_
  refine WL.f2 ?_
  refine WL.f1 ?_
  refine WL.callW2 (zzWrite _ _ _ _ _ (bufWr _ bb) acc0 G hG v4 A4 [⟨113, .u8, 1, (t.toNat : Int)⟩, ⟨115, .u16, 2, (data.length : Int)⟩] ho4.rd (ok2 (okT _) (by simp [Num.ok, Num.kinds])) (by simp) (by simp; omega)) call31 rfl rfl rfl fun v4_8 Hs4_8 hR4_8 => ?_
  obtain ⟨G2, rfl, rfl, hG2⟩ := hR4_8
  rw [bytesN2] at hG2
  refine WL.to2 ?_
  refine WL.q (oq_assign rfl) rfl rfl rfl ?_
  refine WL.nil (WE.then_normal (WC.sub (fr' := [(1, _), (2, _), (7, _)]) ?_ ⟨rfl, rfl, rfl, trivial⟩))
  refine WC.seq (WC.seq (WC.region ?_))
  refine WL.q (oq_move rfl) rfl rfl rfl ?_
  refine WL.q (oq_ineq Tryz.underlying41 rfl (.inl rfl)) rfl rfl rfl ?_
  refine WL.nil (WE.then_normal (WC.sub (fr' := [(1, _), (2, _), (7, _), (33, _)]) ?_ ⟨rfl, rfl, rfl, rfl, trivial⟩))
  refine WC.cond rfl (fun q5 => ?_) (fun q5 => ?_)
  ·
   try simp only [Z1, Z2, Z3, Z4, Z5, Z6, Z7, Z8, Z9, Z0] at q5
   first | contradiction | (exfalso; omega) | (exfalso; simp_all; done)
  ·
   try simp only [Z1, Z2, Z3, Z4, Z5, Z6, Z7, Z8, Z9, Z0] at q5
   refine WC.skip (WE.then_normal (WC.sub (fr' := [(1, _), (2, _)]) ?_ ⟨rfl, rfl, trivial⟩))
   refine WC.seq (WC.seq (WC.region ?_))
   refine WL.q (oq_move rfl) rfl rfl rfl ?_
   refine WL.q (oq_askYes askBS rfl) rfl rfl rfl ?_
   refine WL.q (oq_move rfl) rfl rfl rfl ?_
   refine WL.q (oq_extract rfl rfl) rfl rfl rfl ?_
   refine WL.q (oq_extract rfl rfl) rfl rfl rfl ?_
   refine WL.q (oq_assign rfl) rfl rfl rfl ?_
   refine WL.q (oq_assign rfl) rfl rfl rfl ?_
   refine WL.nil (WE.then_normal (WC.sub (fr' := [(1, _), (2, _), (8, _), (9, _)]) ?_ ⟨rfl, rfl, rfl, rfl, trivial⟩))
   refine WC.seq (WC.region ?_)
   refine WL.q (oq_move rfl) rfl rfl rfl ?_
   refine WL.nil (WE.then_normal (WC.sub (fr' := [(1, _), (2, _), (8, _), (40, _)]) ?_ ⟨rfl, rfl, rfl, rfl, trivial⟩))
   refine WC.cond rfl (fun q8 => ?_) (fun q8 => ?_)
   ·
    try simp only [Z1, Z2, Z3, Z4, Z5, Z6, Z7, Z8, Z9, Z0] at q8
    refine WC.region ?_
    refine WL.q (oq_move rfl) rfl rfl rfl ?_
    refine WL.q (oq_move rfl) rfl rfl rfl ?_
    refine WL.f1 ?_
    refine WL.callWE (fun a w hf => ent_inv1 invBS rfl rfl hf w) (bufWrS _ bb _ G2 data hG2 (by simp [be_len]; omega) (by simp; omega)) rfl rfl rfl rfl fun v9_2 Hs9_2 hR9_2 => ?_
    obtain ⟨G3, rfl, rfl, hG3⟩ := hR9_2
    refine WL.app1 ?_
    refine WL.q (oq_move rfl) rfl rfl rfl ?_
    refine WL.q (oq_extract rfl rfl) rfl rfl rfl ?_
    refine WL.q (oq_extract rfl rfl) rfl rfl rfl ?_
    refine WL.q (oq_assign rfl) rfl rfl rfl ?_
    refine WL.nil (WE.then_normal (WC.sub (fr' := [(7, _)]) ?_ ⟨rfl, trivial⟩))
    refine WC.seq (WC.region ?_)
    refine WL.q (oq_move rfl) rfl rfl rfl ?_
    refine WL.q (oq_assign rfl) rfl rfl rfl ?_
    refine WL.nil (WE.then_normal (WC.sub (fr' := [(6, _)]) ?_ ⟨rfl, trivial⟩))
    refine WC.ret ?_
    refine WE.f1 ?_
    refine WE.forget ho4.fresh ?_
    refine WE.f1 ?_
    refine WE.lose hb0_0 ?_
    refine WE.endW1 (.inl rfl) (res1 Tryz.results144 rfl) ?_
    exact ⟨_, rfl, rfl, by rw [List.append_assoc] at hG3; exact hG3⟩
   ·
    try simp only [Z1, Z2, Z3, Z4, Z5, Z6, Z7, Z8, Z9, Z0] at q8
    first | contradiction | (exfalso; omega) | (exfalso; simp_all; done)
end EF
end Go.Proofs.YtpjeiimlglgklaaGreatDoor
