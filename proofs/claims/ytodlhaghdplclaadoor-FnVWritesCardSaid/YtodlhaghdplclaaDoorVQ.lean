/- The engine, part 25: methods of receivers that lie in memory, results in cells of functions that change told groups, regions whose readings come ahead of one operation. Over any program. -/
import Derived.Test.YtodlhaghdplclaaDoorVP
namespace Go.Proofs.YtodlhaghdplclaaDoor.V
open Go Go.RowKit
set_option linter.unusedSimpArgs false
set_option linter.unusedVariables false
/-! ### Methods whose receiver may lie in memory -/
/-- calling the method 'name' of 'h' with 'vs' enters 'f' with 'args', where the blocks of Z are -/
def InvH (P : Program) (Z : Hp) (name : String) (h : Value) (vs : List Value) (f : FuncId) (args : List Value) : Prop :=
  ∀ w, Has Z w → (invoke (.fn (.method name) #[]) (h :: vs).toArray).run P w = .ok (.enter f args.toArray) w
theorem InvH.weaken {P : Program} {Z Z' : Hp} {name : String} {h : Value} {vs : List Value} {f : FuncId} {args : List Value} (hi : InvH P Z name h vs f args) (hz : ∀ w, Has Z' w → Has Z w) : InvH P Z' name h vs f args := fun w hw => hi w (hz w hw)
theorem Has.right {A B : Hp} {w : World} (h : Has (A ++ B) w) : Has B w :=
  ⟨fun b o hb => h.now b o (List.mem_append_right _ hb), by have := h.nodup; rw [List.map_append] at this; exact (List.nodup_append.1 this).2.1⟩
theorem Has.left {A B : Hp} {w : World} (h : Has (A ++ B) w) : Has A w :=
  ⟨fun b o hb => h.now b o (List.mem_append_left _ hb), by have := h.nodup; rw [List.map_append] at this; exact (List.nodup_append.1 this).1⟩
/-- a method of a struct, called by way of a pointer to it -/
def InvP2 (P : Program) (k e : TypeId) (name : String) (f : FuncId) : Prop :=
  ∀ (p : Addr) (a b : Value) (w : World), (invoke (.fn (.method name) #[]) #[.iface k (.pointer (some p)), a, b]).run P w = ((loadVar e p).run P w).andThen fun v w => .ok (.enter f #[v, a, b]) w
/-- a row of a type's methods: a value's method 'f' of the type that 'k' points to -/
def MRow (P : Program) (k e : TypeId) (name : String) (f : FuncId) : Prop := P.underlying k = some (.pointer e) ∧ Callable P f ∧ ∃ inf m, P.info? k = some inf ∧ inf.methods.find? (·.name == name) = some m ∧ m.path = #[] ∧ m.func = some (f, false)
def mrowB (P : Program) (k : TypeId) (name : String) (f : FuncId) : Bool := match P.info? k with
  | some inf => match inf.methods.find? (·.name == name) with
    | some m => m.path.size == 0 && (match m.func with | some (g, b) => Nat.beq g f && !b | none => false)
    | none => false
  | none => false
theorem mrow_of {P : Program} {k e : TypeId} {name : String} {f : FuncId} (hu : P.underlying k = some (.pointer e)) (hc : Callable P f) (h : mrowB P k name f = true) : MRow P k e name f := by
  refine ⟨hu, hc, ?_⟩
  unfold mrowB at h
  split at h
  · rename_i inf hi
    split at h
    · rename_i m hm
      rw [Bool.and_eq_true] at h
      obtain ⟨h1, h2⟩ := h
      split at h2
      · rename_i g b hg
        rw [Bool.and_eq_true] at h2
        refine ⟨inf, m, hi, hm, Array.eq_empty_of_size_eq_zero (by simpa using h1), ?_⟩
        rw [hg, Nat.eq_of_beq_eq_true h2.1]
        have := h2.2
        cases b
        · rfl
        · cases this
      · cases h2
    · cases h
  · cases h
theorem run_wrapchk {P : Program} (ts : Array TypeId) (t : TypeId) (p : Addr) (a b : String) (w : World) : (Builtin.ssaWrapNilChk_ ts t #[.pointer (some p), strVal a, strVal b]).run P w = .ok (.pointer (some p)) w := rfl
theorem invp2_of {P : Program} {k e : TypeId} {name : String} {f : FuncId} (h : MRow P k e name f) : InvP2 P k e name f := by
  obtain ⟨hu, ⟨fn, hf, hb, hn⟩, inf, m, hi, hm, hp, hfn⟩ := h
  intro p a b w
  have h0 : 0 < Made.depth := by decide
  obtain ⟨n, hfuel⟩ : ∃ n, P.types.size + Made.depth = n + 1 := ⟨P.types.size + Made.depth - 1, by omega⟩
  have h1 : (method (P.types.size + Made.depth) k (.pointer (some p)) name).run P w = ((loadVar e p).run P w).andThen fun v w => .ok (f, v) w := by
    rw [hfuel]
    unfold method
    simp [typeInfo, hi, hm, hp, hfn, follow, receiverAt, run_underlying hu, Place.get, run_wrapchk, asAddr]
  simp only [invoke, callMethod, Sem.run_bind, run_program, Result.andThen_ok, List.getElem?_toArray, List.size_toArray, Array.getElem?_toList]
  show (((program >>= fun P => method (P.types.size + Made.depth) k (.pointer (some p)) name) >>= fun (x : FuncId × Value) => callFunc x.1 (#[x.2] ++ (#[Value.iface k (.pointer (some p)), a, b] : Array Value).extract 1 3)).run P w) = _
  rw [Sem.run_bind, Sem.run_bind, run_program]
  simp only [Result.andThen_ok, h1]
  cases hr : (loadVar e p).run P w with
  | ok v w' =>
    simp only [Result.andThen]
    simp only [callFunc, Sem.run_bind, run_program, Result.andThen_ok, hf, hb, hn, Bool.false_eq_true, if_false, Sem.run_pure]
    simp
  | halt x w' => rfl
theorem inv_of_p2 {P : Program} {k e : TypeId} {name : String} {f : FuncId} {Z : Hp} {b size bytes : Nat} {cells : List Value} {t : TypeId} {fz : Nat × Nat} {z : Value} {x y : Value} (hp : InvP2 P k e name f) (hag : Agg P e) (hty : Ty P e z size bytes) (hl : cells.length = size) (hb : (b, .cells cells.toArray t fz) ∈ Z) :
    InvH P Z name (.iface k (Pt b 0)) [x, y] f [.agg cells.toArray, x, y] := fun w hw => by
  have h1 := hw.now b _ hb
  obtain ⟨i, hi, _, hs, _⟩ := hty
  have h2 := run_loadCells (P := P) (off := 0) h1 cells fun j u hj => by rw [Nat.zero_add]; simpa using hj
  have h3 := hp ⟨b, 0, none⟩ x y w
  rw [hl] at h2
  have h4 : (loadVar e ⟨b, 0, none⟩).run P w = .ok (.agg cells.toArray) w := by simp [loadVar, hag w, sizeOf, typeInfo, hi, hs, h2]
  rw [h4] at h3
  exact h3
section
variable {P : Program} {n : Nat} {w0 : World} {ds : List Deferred} {fr : Fr} {H H' : List Hp} {dst : Option Tmp} {ty : TypeId} {pos : String} {aft : Array Edge} {g : Option (Nat × Bool)}
variable {ops : Array Oper} {Q : Post} {rest : List Oper} {d : Nat}
theorem WL.callWF {o : Oper} {f : FuncId} {args : List Value} {R : Value → List Hp → Prop} {Hs : List Hp} (he : ∀ a w, Fits n ds fr a → St w0 H.flatten w → (execOp a.eval o).run P w = .ok (.enter f args.toArray) w) (hc : FnW P f args w0.heap.size Hs R) (hH : H = Hs ++ H') (hg : gd ops fr o = some true) (hd : o.dst = some d) (hn : Nat.blt d n = true)
    (hk : ∀ v Hs', R v Hs' → WL P n w0 ops Q rest ds ((d, v) :: fr) (Hs' ++ H')) : WL P n w0 ops Q (o :: rest) ds fr H := by
  subst hH
  intro a w hfit hw
  unfold wpList
  rw [gd_wanted hfit hg, if_pos rfl]
  left
  unfold Oper.wp
  rw [he a w hfit hw, Oper.upon_enter]
  refine (hc w0 H'.flatten w rfl (by simpa using hw)).mono fun e w' h => ?_
  obtain ⟨v, Hs', rfl, hR, hst⟩ := h
  rw [hd]
  exact hk v Hs' hR _ _ (hfit.put v hn) (by simpa using hst)
theorem ent_invH {recv : Operand} {name : String} {xs : Array Operand} {ts : Array TypeId} {h : Value} {vs args : List Value} {f : FuncId} {Z : Hp} (hi : InvH P Z name h vs f args) (hZ : Z ∈ H) (hr : ev fr recv = some h) (ha : evs fr xs.toList = some vs) (a : Act) (w : World) (hf : Fits n ds fr a) (hw : St w0 H.flatten w) :
    (execOp a.eval ⟨dst, .call ⟨.invoke recv name, xs, ts⟩, ty, pos, aft, g⟩).run P w = .ok (.enter f args.toArray) w := by
  have h1 := hi w (Has.of_st hw hZ)
  have e := hf.evalsA ha
  have e2 : (#[h] ++ vs.toArray : Array Value) = (h :: vs).toArray := by simp
  simp only [execOp, resolve, Sem.run_bind, Sem.run_pure, Result.andThen_ok, hf.eval hr, e, e2]
  exact h1
theorem WL.callW6 {f : FuncId} {xs : Array Operand} {ts : Array TypeId} {args : List Value} {R : Value → List Hp → Prop} {A B C D E F : Hp} (hc : FnW P f args w0.heap.size [A, B, C, D, E, F] R) (hf : Callable P f) (ha : evs fr xs.toList = some args) (hg : gd ops fr ⟨some d, .call ⟨.value (.func f), xs, ts⟩, ty, pos, aft, g⟩ = some true) (hn : Nat.blt d n = true)
    (hk : ∀ v Hs', R v Hs' → WL P n w0 ops Q rest ds ((d, v) :: fr) (Hs' ++ H)) :
    WL P n w0 ops Q (⟨some d, .call ⟨.value (.func f), xs, ts⟩, ty, pos, aft, g⟩ :: rest) ds fr (A :: B :: C :: D :: E :: F :: H) := WL.callW hc hf ha hg hn hk
/-! ### Results in cells -/
theorem WE.endDW {fn : Func} {e : Exit} {v : Value} {R : Value → List Hp → Prop} {R0 : Hp} (Hs : List Hp) (he : e = .ret ∨ e = .normal) (hres : ∀ a w, Fits n [] fr a → St w0 H.flatten w → (results fn a.tmps).run P w = .ok v w) (hd : Drops w0 H (Hs ++ [R0])) (hR : R v Hs) :
    WE n w0 e (bodyPost P fn (postW w0 R0 R)) [] fr H :=
  WE.body he hres fun w hw => ⟨_, Hs, rfl, hR, hd w hw⟩
end
/-! ### Regions that draw their order: readings of one group that stays until the operation 't' has come up; 't' waits for them -/
section
variable {P : Program} {ops : Array Oper} {Q : Post} {S : Array Bool → World → Prop}
def wpAnyS (P : Program) (ops : Array Oper) (Q : Post) (S : Array Bool → World → Prop) : Nat → Array Bool → Act → World → Prop
  | 0, l, a, w => Region.ready .any ops l = [] ∧ Q .normal a w
  | fuel + 1, l, a, w => (Region.ready .any ops l = [] → Q .normal a w) ∧ ∀ i ∈ Region.ready .any ops l, wpOp P ops Q i (fun a' w' => S (l.setIfInBounds i true) w' ∧ wpAnyS P ops Q S fuel (l.setIfInBounds i true) a' w') a w
theorem wpAnyS_any : ∀ (fuel : Nat) (l : Array Bool) (a : Act) (w : World), wpAnyS P ops Q S fuel l a w → wpAny P .any ops Q fuel l a w
  | 0, _, _, _, h => h
  | fuel + 1, _, _, _, h => ⟨h.1, fun i hi => wpOp_mono (fun a' w' h' => wpAnyS_any fuel _ a' w' h'.2) (h.2 i hi)⟩
/-- what has come up waits for nothing that has not -/
def Closed (ops : Array Oper) (l : Array Bool) : Prop := ∀ j oj, ops[j]? = some oj → l.getD j false = true → ∀ e ∈ oj.after, Region.binds .any e = true → l.getD e.on false = true
def closedB (ops : Array Oper) (l : Array Bool) : Bool := (List.range ops.size).all fun j => match ops[j]? with
  | some oj => !(l.getD j false) || oj.after.all fun e => !(Region.binds .any e) || l.getD e.on false
  | none => true
theorem closed_of {l : Array Bool} (h : closedB ops l = true) : Closed ops l := by
  intro j oj hj hl e he hb
  unfold closedB at h
  rw [List.all_eq_true] at h
  have h1 := h j (List.mem_range.2 (Array.getElem?_eq_some_iff.1 hj).1)
  rw [hj] at h1
  simp only [hl, Bool.not_true, Bool.false_or] at h1
  have h2 := (Array.all_eq_true_iff_forall_mem.1 h1) e he
  rw [hb] at h2
  simpa using h2
theorem Closed.step {l : Array Bool} (h : Closed ops l) {i : Nat} (hi : i ∈ Region.ready .any ops l) : Closed ops (l.setIfInBounds i true) := by
  obtain ⟨_, oi, hoi, hall⟩ := mem_ready.1 hi
  intro j oj hj hl e he hb
  have h1 : l.getD e.on false = true := by
    by_cases hji : j = i
    · subst hji
      rw [hoi] at hj
      injection hj with hj
      subst hj
      exact hall e he hb
    · rw [getD_set_ne false (fun h => hji h.symm)] at hl
      exact h j oj hj hl e he hb
  by_cases hei : i = e.on
  · subst hei
    rw [Array.getD_eq_getD_getElem?, Array.getElem?_setIfInBounds]
    rw [if_pos rfl]
    rw [Array.getD_eq_getD_getElem?] at h1
    have h3 : e.on < l.size := by
      apply Decidable.byContradiction
      intro h4
      rw [Array.getElem?_eq_none (Nat.not_lt.1 h4)] at h1
      cases h1
    rw [if_pos h3]; rfl
  · rw [getD_set_ne false hei]; exact h1
/-- 't' waits for 'i' along a path -/
def pathB (ops : Array Oper) : Nat → List Nat → Nat → Bool
  | t, [], i => match ops[t]? with
    | some o => o.after.any fun e => Region.binds .any e && e.on == i
    | none => false
  | t, j :: r, i => (match ops[t]? with
    | some o => o.after.any fun e => Region.binds .any e && e.on == j
    | none => false) && pathB ops j r i
theorem path_one {t i : Nat} {l : Array Bool} (hsz : l.size = ops.size) (h : (match ops[t]? with
    | some o => o.after.any fun e => Region.binds .any e && e.on == i
    | none => false) = true) (hc : Closed ops l) (hi : i < ops.size) (ht : l.getD t false = true) : l.getD i false = true := by
  cases ho : ops[t]? with
  | none => rw [ho] at h; cases h
  | some o =>
    rw [ho] at h
    simp only at h
    obtain ⟨e, he, hb⟩ := Array.any_eq_true'.1 h
    simp only [Bool.and_eq_true, beq_iff_eq] at hb
    have := hc t o ho ht e he hb.1
    rw [hb.2] at this
    exact this
theorem path_all {l : Array Bool} (hsz : l.size = ops.size) (hc : Closed ops l) : ∀ (p : List Nat) (t i : Nat), pathB ops t p i = true → (∀ j ∈ p, j < ops.size) → i < ops.size → l.getD t false = true → l.getD i false = true
  | [], t, i, h, _, hi, ht => path_one hsz h hc hi ht
  | j :: r, t, i, h, hp, hi, ht => by
    unfold pathB at h
    rw [Bool.and_eq_true] at h
    exact path_all hsz hc r j i h.2 (fun k hk => hp k (List.mem_cons_of_mem _ hk)) hi (path_one hsz h.1 hc (hp j List.mem_cons_self) ht)
def GS (t : Nat) (A : Hp) (l : Array Bool) (w : World) : Prop := l.getD t false = true ∨ Has A w
theorem wpAnyS_first {A : Hp} {t i : Nat} {oi : Oper} {v : Value} {p : List Nat} (hi : ops[i]? = some oi) (hsel : ∀ (j : Nat) (o : Oper) cs b, ops[j]? = some o → o.op ≠ .select cs b)
    (hQ : ∀ c a w, Q (.panic c) (a.put oi.dst v) w → Q (.panic c) a w) (hpath : pathB ops t p i = true) (hp : ∀ j ∈ p, j < ops.size) (hti : t ≠ i) :
    ∀ (fuel : Nat) (l : Array Bool) (a : Act) (w : World), l.size = ops.size → Closed ops l → l.getD i false = false →
      (∀ j oj, ops[j]? = some oj → j ≠ i → l.getD j true = false → (∀ e ∈ oj.after, Region.binds .any e = true → e.on ≠ i) → oi.apart ops oj = true) →
      i ∈ Region.ready .any ops l → YieldsIf P ops (Has A) oi v a → Has A w →
      wpAnyS P ops Q (GS t A) fuel (l.setIfInBounds i true) (a.put oi.dst v) w → wpAnyS P ops Q (GS t A) (fuel + 1) l a w := by
  have hisz : i < ops.size := (Array.getElem?_eq_some_iff.1 hi).1
  intro fuel
  induction fuel with
  | zero =>
    intro l a w hsz hcl hun _ hr hy hS H
    refine ⟨fun h => (by rw [h] at hr; cases hr), fun j hj => ?_⟩
    by_cases hji : j = i
    · subst hji; exact hy.wpOp hi hS ⟨.inr hS, H⟩
    · have := ready_mono hj hji
      rw [H.1] at this
      cases this
  | succ fuel ih =>
    intro l a w hsz hcl hun hfree hr hy hS H
    refine ⟨fun h => (by rw [h] at hr; cases hr), fun j hj => ?_⟩
    by_cases hji : j = i
    · subst hji; exact hy.wpOp hi hS ⟨.inr hS, H⟩
    · have h1 := H.2 j (ready_mono hj hji)
      obtain ⟨hjun, oj, hoj, hall⟩ := mem_ready.1 hj
      have hnot : ∀ e ∈ oj.after, Region.binds .any e = true → e.on ≠ i := fun e he hb heq => by
        have h1 := hall e he hb
        have h0 := (mem_ready.1 hr).1
        rw [heq] at h1
        rcases Nat.lt_or_ge i l.size with h' | h'
        · simp [h'] at h0 h1; rw [h0] at h1; cases h1
        · simp [Array.getElem?_eq_none h'] at h1
      have h2 := wpOp_putIf hoj (hfree j oj hoj hji hjun hnot) (fun cs b => hsel i oi cs b hi) (fun cs b => hsel j oj cs b hoj) hQ hy h1
      have hcl2 := hcl.step hj
      have hun2 : (l.setIfInBounds j true).getD i false = false := by rw [getD_set_ne false hji]; exact hun
      have hfree' : ∀ k ok, ops[k]? = some ok → k ≠ i → (l.setIfInBounds j true).getD k true = false →
          (∀ e ∈ ok.after, Region.binds .any e = true → e.on ≠ i) → oi.apart ops ok = true := fun k ok hk hki hun' hno => by
        refine hfree k ok hk hki ?_ hno
        by_cases hjk : j = k
        · subst hjk; exact hjun
        · rw [getD_set_ne true hjk] at hun'; exact hun'
      refine wpOp_mono (fun a' w' h3 => ?_) h2
      have hA : Has A w' := by
        rcases h3.2.1 with h4 | h4
        · exfalso
          rw [Array.setIfInBounds_comm _ _ (fun h => hji h.symm)] at h4
          rw [getD_set_ne false (fun h => hti h.symm)] at h4
          have h5 := path_all (by simpa using hsz) hcl2 p t i hpath hp hisz h4
          rw [hun2] at h5
          cases h5
        · exact h4
      refine ⟨.inr hA, ih (l.setIfInBounds j true) a' w' (by simpa using hsz) hcl2 hun2 hfree' (ready_mono hr (Ne.symm hji)) h3.1 hA ?_⟩
      rw [Array.setIfInBounds_comm _ _ hji]
      exact h3.2.2
theorem wpAnyS_pure {A : Hp} {t i : Nat} {oi : Oper} {v : Value} (hi : ops[i]? = some oi) (hsel : ∀ (j : Nat) (o : Oper) cs b, ops[j]? = some o → o.op ≠ .select cs b)
    (hQ : ∀ c a w, Q (.panic c) (a.put oi.dst v) w → Q (.panic c) a w) (hti : t ≠ i) :
    ∀ (fuel : Nat) (l : Array Bool) (a : Act) (w : World), GS t A l w →
      (∀ j oj, ops[j]? = some oj → j ≠ i → l.getD j true = false → (∀ e ∈ oj.after, Region.binds .any e = true → e.on ≠ i) → oi.apart ops oj = true) →
      i ∈ Region.ready .any ops l → YieldsIf P ops (fun _ => True) oi v a →
      wpAnyS P ops Q (GS t A) fuel (l.setIfInBounds i true) (a.put oi.dst v) w → wpAnyS P ops Q (GS t A) (fuel + 1) l a w := by
  have keep : ∀ {l : Array Bool} {w : World}, GS t A l w → GS t A (l.setIfInBounds i true) w := fun h => h.imp (fun h => by rw [getD_set_ne false (fun h => hti h.symm)]; exact h) id
  intro fuel
  induction fuel with
  | zero =>
    intro l a w hG _ hr hy H
    refine ⟨fun h => (by rw [h] at hr; cases hr), fun j hj => ?_⟩
    by_cases hji : j = i
    · subst hji; exact hy.wpOp hi trivial ⟨keep hG, H⟩
    · have := ready_mono hj hji
      rw [H.1] at this
      cases this
  | succ fuel ih =>
    intro l a w hG hfree hr hy H
    refine ⟨fun h => (by rw [h] at hr; cases hr), fun j hj => ?_⟩
    by_cases hji : j = i
    · subst hji; exact hy.wpOp hi trivial ⟨keep hG, H⟩
    · have h1 := H.2 j (ready_mono hj hji)
      obtain ⟨hjun, oj, hoj, hall⟩ := mem_ready.1 hj
      have hnot : ∀ e ∈ oj.after, Region.binds .any e = true → e.on ≠ i := fun e he hb heq => by
        have h1 := hall e he hb
        have h0 := (mem_ready.1 hr).1
        rw [heq] at h1
        rcases Nat.lt_or_ge i l.size with h' | h'
        · simp [h'] at h0 h1; rw [h0] at h1; cases h1
        · simp [Array.getElem?_eq_none h'] at h1
      have h2 := wpOp_putIf hoj (hfree j oj hoj hji hjun hnot) (fun cs b => hsel i oi cs b hi) (fun cs b => hsel j oj cs b hoj) hQ hy h1
      have hfree' : ∀ k ok, ops[k]? = some ok → k ≠ i → (l.setIfInBounds j true).getD k true = false →
          (∀ e ∈ ok.after, Region.binds .any e = true → e.on ≠ i) → oi.apart ops ok = true := fun k ok hk hki hun' hno => by
        refine hfree k ok hk hki ?_ hno
        by_cases hjk : j = k
        · subst hjk; exact hjun
        · rw [getD_set_ne true hjk] at hun'; exact hun'
      refine wpOp_mono (fun a' w' h3 => ?_) h2
      have hA : GS t A (l.setIfInBounds j true) w' := by
        refine h3.2.1.imp (fun h4 => ?_) id
        rw [Array.setIfInBounds_comm _ _ (fun h => hji h.symm)] at h4
        rw [getD_set_ne false (fun h => hti h.symm)] at h4
        exact h4
      refine ⟨hA, ih (l.setIfInBounds j true) a' w' hA hfree' (ready_mono hr (Ne.symm hji)) h3.1 ?_⟩
      rw [Array.setIfInBounds_comm _ _ hji]
      exact h3.2.2
theorem wpAnyS_all {rs : List Nat} {fuel : Nat} {l : Array Bool} {a : Act} {w : World} (hr : Region.ready .any ops l = rs) (hne : rs ≠ [])
    (h : ∀ i ∈ rs, wpOp P ops Q i (fun a' w' => S (l.setIfInBounds i true) w' ∧ wpAnyS P ops Q S fuel (l.setIfInBounds i true) a' w') a w) : wpAnyS P ops Q S (fuel + 1) l a w :=
  ⟨fun h0 => absurd (hr ▸ h0) hne, hr ▸ h⟩
theorem wpAnyS_done {l : Array Bool} {a : Act} {w : World} (hr : Region.ready .any ops l = []) (h : Q .normal a w) : ∀ fuel, wpAnyS P ops Q S fuel l a w
  | 0 => ⟨hr, h⟩
  | _ + 1 => ⟨fun _ => h, by rw [hr]; simp⟩
def QG (P : Program) (ops : Array Oper) (Q : Post) (t : Nat) (A : Hp) (fuel : Nat) (l : Array Bool) : Post := fun e a w => match e with
  | .normal => GS t A l w ∧ wpAnyS P ops Q (GS t A) fuel l a w
  | e => Q e a w
def WG (P : Program) (n : Nat) (w0 : World) (ops : Array Oper) (Q : Post) (t : Nat) (A : Hp) (fuel : Nat) (l : Array Bool) (ds : List Deferred) (fr : Fr) (H : List Hp) : Prop :=
  ∀ a w, Fits n ds fr a → St w0 H.flatten w → wpAnyS P ops Q (GS t A) fuel l a w
variable {n : Nat} {w0 : World} {ds : List Deferred} {fr : Fr} {H : List Hp} {t : Nat} {A : Hp} {fuel : Nat} {l : Array Bool}
theorem WC.gate {id : Nat} {ol : List Oper} (t : Nat) (A : Hp) (hm : P.follows .mixedOrders = true) (h : WG P n w0 ol.toArray Q t A ol.toArray.size (Array.replicate ol.toArray.size false) ds fr H) : WC P n w0 (.region id ol.toArray true) Q ds fr H :=
  fun a w hf hw => wp_region_any hm (wpAnyS_any _ _ _ _ (h _ _ hf (hw.drawn _)))
theorem WG.q (i : Nat) (p : List Nat) {o : Oper} {v : Value} {d : Nat} (ho : ops[i]? = some o) (hA : A ∈ H) (h : ∀ w0', OV P n w0' o v ds fr [A])
    (hg : gd ops fr o = some true) (hd : o.dst = some d) (hn : Nat.blt d n = true) (hk : WG P n w0 ops Q t A fuel (l.setIfInBounds i true) ds ((d, v) :: fr) H)
    (hsel : Region.noSelect ops = true := by kernel_rfl) (hf : Region.free .any ops l i = true := by kernel_rfl) (hr : (Region.ready .any ops l).contains i = true := by kernel_rfl)
    (hpath : pathB ops t p i = true := by kernel_rfl) (hpp : (p.all fun j => decide (j < ops.size)) = true := by kernel_rfl) (hti : (t == i) = false := by kernel_rfl) (hsz : l.size = ops.size := by kernel_rfl) (hcl : closedB ops l = true := by kernel_rfl) (hun : l.getD i false = false := by kernel_rfl)
    (hQ : QOk Q := by repeat (first | with_reducible exact QOk.body | with_reducible apply QOk.then | with_reducible apply QOk.block | exact QOk.body | apply QOk.then | apply QOk.block)) : WG P n w0 ops Q t A (fuel + 1) l ds fr H := by
  intro a w hfit hw
  refine wpAnyS_first ho (Region.noSelect_spec hsel) (fun c a w => hQ c a _ v w) hpath (fun j hj => of_decide_eq_true (List.all_eq_true.1 hpp j hj)) (by simpa using hti) fuel l a w hsz (closed_of hcl) hun (Region.free_spec ho hf) (by simpa using hr) (.inl ⟨gd_wanted hfit hg, fun w' hw' => ?_⟩) (Has.of_st hw hA) (hk _ _ (by rw [hd]; exact hfit.put v hn) hw)
  exact h w' a w' hfit (by simpa using hw'.st)
theorem WG.p (i : Nat) {o : Oper} {v : Value} {d : Nat} (ho : ops[i]? = some o) (hG : l.getD t false = true ∨ A ∈ H) (h : ∀ w0', OV P n w0' o v ds fr [])
    (hg : gd ops fr o = some true) (hd : o.dst = some d) (hn : Nat.blt d n = true) (hk : WG P n w0 ops Q t A fuel (l.setIfInBounds i true) ds ((d, v) :: fr) H)
    (hsel : Region.noSelect ops = true := by kernel_rfl) (hf : Region.free .any ops l i = true := by kernel_rfl) (hr : (Region.ready .any ops l).contains i = true := by kernel_rfl) (hti : (t == i) = false := by kernel_rfl)
    (hQ : QOk Q := by repeat (first | with_reducible exact QOk.body | with_reducible apply QOk.then | with_reducible apply QOk.block | exact QOk.body | apply QOk.then | apply QOk.block)) : WG P n w0 ops Q t A (fuel + 1) l ds fr H := by
  intro a w hfit hw
  refine wpAnyS_pure ho (Region.noSelect_spec hsel) (fun c a w => hQ c a _ v w) (by simpa using hti) fuel l a w (hG.imp id fun h => Has.of_st hw h) (Region.free_spec ho hf) (by simpa using hr) (.inl ⟨gd_wanted hfit hg, fun w' _ => ?_⟩) (hk _ _ (by rw [hd]; exact hfit.put v hn) hw)
  exact h w' a w' hfit (St.refl w')
theorem wpOp_of_wg {K : Act → World → Prop} {i : Nat} {o : Oper} (ho : ops[i]? = some o) {a : Act} {w : World} (h' : wpList P ops (fun e a w => match e with | .normal => K a w | e => Q e a w) [o] a w) : wpOp P ops Q i K a w := by
  unfold wpList at h'
  unfold wpOp
  rw [ho]
  show if Region.wanted o (yielded ops a.tmps) = true then _ else _
  have go : ∀ a' w', wpList P ops (fun e a w => match e with | .normal => K a w | e => Q e a w) [] a' w' → K a' w' := fun a' w' hl => hl
  split
  · rename_i hw2; rw [if_pos hw2] at h'
    rcases h' with h' | h'
    · left
      have h2 := Oper.wp_mono go h'
      unfold Oper.wp at h2 ⊢
      generalize (execOp a.eval o).run P w = r at h2 ⊢
      cases r with
      | ok x w' =>
        cases x <;> simp only [Oper.upon] at h2 ⊢ <;> exact h2
      | halt x w' => cases x <;> simp only [Oper.upon] at h2 ⊢ <;> exact h2
    · exact .inr h'
  · rename_i hw2; rw [if_neg hw2] at h'; exact go _ _ h'
theorem WG.step {i : Nat} {o : Oper} (hr : Region.ready .any ops l = [i]) (ho : ops[i]? = some o) (h : WL P n w0 ops (QG P ops Q t A fuel (l.setIfInBounds i true)) [o] ds fr H) : WG P n w0 ops Q t A (fuel + 1) l ds fr H := by
  intro a w hfit hw
  refine wpAnyS_all hr (by simp) fun j hj => ?_
  obtain rfl := List.mem_singleton.1 hj
  exact wpOp_of_wg ho (h a w hfit hw)
theorem WG.fork2 {i j : Nat} {o u : Oper} (hr : Region.ready .any ops l = [i, j]) (ho : ops[i]? = some o) (hu : ops[j]? = some u) (h1 : WL P n w0 ops (QG P ops Q t A fuel (l.setIfInBounds i true)) [o] ds fr H) (h2 : WL P n w0 ops (QG P ops Q t A fuel (l.setIfInBounds j true)) [u] ds fr H) : WG P n w0 ops Q t A (fuel + 1) l ds fr H := by
  intro a w hfit hw
  refine wpAnyS_all hr (by simp) fun k hk => ?_
  rcases List.mem_cons.1 hk with rfl | hk
  · exact wpOp_of_wg ho (h1 a w hfit hw)
  · obtain rfl := List.mem_singleton.1 hk
    exact wpOp_of_wg hu (h2 a w hfit hw)
theorem WG.fork3 {i j m : Nat} {o u x : Oper} (hr : Region.ready .any ops l = [i, j, m]) (ho : ops[i]? = some o) (hu : ops[j]? = some u) (hx : ops[m]? = some x) (h1 : WL P n w0 ops (QG P ops Q t A fuel (l.setIfInBounds i true)) [o] ds fr H) (h2 : WL P n w0 ops (QG P ops Q t A fuel (l.setIfInBounds j true)) [u] ds fr H) (h3 : WL P n w0 ops (QG P ops Q t A fuel (l.setIfInBounds m true)) [x] ds fr H) : WG P n w0 ops Q t A (fuel + 1) l ds fr H := by
  intro a w hfit hw
  refine wpAnyS_all hr (by simp) fun k hk => ?_
  rcases List.mem_cons.1 hk with rfl | hk
  · exact wpOp_of_wg ho (h1 a w hfit hw)
  · rcases List.mem_cons.1 hk with rfl | hk
    · exact wpOp_of_wg hu (h2 a w hfit hw)
    · obtain rfl := List.mem_singleton.1 hk
      exact wpOp_of_wg hx (h3 a w hfit hw)
theorem WE.toG (hA : A ∈ H) (h : WG P n w0 ops Q t A fuel l ds fr H) : WE n w0 .normal (QG P ops Q t A fuel l) ds fr H := fun a w hf hw => ⟨.inr (Has.of_st hw hA), h a w hf hw⟩
theorem WE.toG0 (ht : l.getD t false = true) (h : WG P n w0 ops Q t A fuel l ds fr H) : WE n w0 .normal (QG P ops Q t A fuel l) ds fr H := fun a w hf hw => ⟨.inl ht, h a w hf hw⟩
theorem WG.done (hr : Region.ready .any ops l = []) (h : WE n w0 .normal Q ds fr H) : WG P n w0 ops Q t A fuel l ds fr H := fun a w hf hw => wpAnyS_done hr (h a w hf hw) fuel
end
end Go.Proofs.YtodlhaghdplclaaDoor.V
