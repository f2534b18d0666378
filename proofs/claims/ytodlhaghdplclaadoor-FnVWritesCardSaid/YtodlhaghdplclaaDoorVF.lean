/- The engine, part 14: panics, deferred calls, recovering. Over any program. -/
import Derived.Test.YtodlhaghdplclaaDoorVE
import Derived.Laws.Panics
namespace Go.Proofs.YtodlhaghdplclaaDoor.V
open Go Go.RowKit
set_option linter.unusedSimpArgs false
set_option linter.unusedVariables false
/-- a panic that nobody has caught -/
def PE (t : TypeId) (v : Value) : List PanicEntry := [{ v := .iface t v, recovered := false }]
abbrev postG (w0 : World) (R0 : Hp) (R : Value → List Hp → Prop) (Rp : List Hp → Prop) : Ending → World → Prop := fun e w' =>
  (∃ v Hs', e = .returned v ∧ R v Hs' ∧ St w0 (Hs' ++ [R0]).flatten w') ∨ (∃ t v Hs', e = .panicked (PE t v) ∧ Rp Hs' ∧ St w0 (Hs' ++ [R0]).flatten w')
/-- A function that is given groups of blocks, changes them and gives groups back, or panics; 'base': where the caller's own blocks begin. -/
def FnG (P : Program) (f : FuncId) (args : List Value) (base : Nat) (Hs : List Hp) (R : Value → List Hp → Prop) (Rp : List Hp → Prop) : Prop :=
  ∀ (w0 : World) (R0 : Hp) (w : World), w0.heap.size = base → St w0 (Hs ++ [R0]).flatten w → Calls P f args.toArray w (postG w0 R0 R Rp)
section
variable {P : Program} {n : Nat} {w0 : World} {ds : List Deferred} {fr : Fr} {H H' : List Hp} {dst : Option Tmp} {ty : TypeId} {pos : String} {aft : Array Edge} {g : Option (Nat × Bool)}
variable {ops : Array Oper} {Q : Post} {rest : List Oper} {d : Nat}

theorem run_bounds {α : Type} (k : IntKind) (x y : Int) (code : BoundsCode) (w : World) : ∃ t v d, (boundsPanic k x y code : Sem α).run P w = .halt (.panic (.iface t v)) { w with drawn := d } := by
  unfold boundsPanic
  split
  · exact ⟨_, _, w.drawn + 1, by simp [runtimePanic, goPanic, go_sem]; exact ⟨rfl, rfl⟩⟩
  · exact ⟨_, _, w.drawn, by simp [runtimePanic, goPanic, go_sem]; exact ⟨rfl, rfl⟩⟩

theorem WL.halt {o : Oper} (hrun : ∀ a w, Fits n ds fr a → St w0 H.flatten w → ∃ t v d, (execOp a.eval o).run P w = .halt (.panic (.iface t v)) { w with drawn := d }) (hg : gd ops fr o = some true) (hk : ∀ t v, WE n w0 (.panic (PE t v)) Q ds fr H) : WL P n w0 ops Q (o :: rest) ds fr H := by
  intro a w hf hw
  unfold wpList
  rw [gd_wanted hf hg, if_pos rfl]
  left
  unfold Oper.wp
  obtain ⟨t, v, d, hr⟩ := hrun a w hf hw
  rw [hr, Oper.upon_panic]
  exact hk t v a _ hf (hw.drawn d)
/-- an element's address, or a panic -/
theorem WL.ixp {t e : TypeId} {x y : Operand} {k : IntKind} {i : Int} {z : Value} {size bytes m : Nat} {v : Value} {A : Hp} {xs : List Value} (hr : RdS size v A m xs) (ht : P.underlying t = some (.slice e)) (hty : Ty P e z size bytes) (hx : ev fr x = some v) (hy : ev fr y = some (.int k i))
    (hg : gd ops fr ⟨some d, .indexAddr t x y, ty, pos, aft, g⟩ = some true) (hn : Nat.blt d n = true) (h1 : 0 ≤ i ∧ i < m → WL P n w0 ops Q rest ds ((d, elAddr size v i) :: fr) H) (h2 : ¬ (0 ≤ i ∧ i < m) → ∀ t v, WE n w0 (.panic (PE t v)) Q ds fr H) :
    WL P n w0 ops Q (⟨some d, .indexAddr t x y, ty, pos, aft, g⟩ :: rest) ds fr H := by
  by_cases h : 0 ≤ i ∧ i < m
  · exact WL.q (oq_ixaddr hr ht hty hx hy h) hg rfl hn (h1 h)
  · refine WL.halt (fun a w hf _ => ?_) hg (h2 h)
    rcases hr.2 with ⟨rfl, p, c, rfl⟩ | ⟨b, off, c, cells, e', fz, rfl, _, _, _⟩
    · cases p with
      | none =>
        obtain ⟨t', v', d', hb⟩ := run_bounds (α := Value) (P := P) k i 0 .index w
        exact ⟨t', v', d', by simp [execOp, hf.eval hx, hf.eval hy, Instr.indexAt, asIntOf, run_underlying ht, hb]⟩
      | some p =>
        obtain ⟨t', v', d', hb⟩ := run_bounds (α := Value) (P := P) k i 0 .index w
        have h' : ¬ (0 ≤ i ∧ i < 0) := by omega
        exact ⟨t', v', d', by simp [execOp, hf.eval hx, hf.eval hy, Instr.indexAt, asIntOf, run_underlying ht, h', hb]⟩
    · obtain ⟨t', v', d', hb⟩ := run_bounds (α := Value) (P := P) k i (m : Int) .index w
      exact ⟨t', v', d', by simp [execOp, hf.eval hx, hf.eval hy, Instr.indexAt, asIntOf, run_underlying ht, h, hb]⟩
/-- panic(x) -/
theorem WL.panic {x : Operand} {t : TypeId} {v : Value} (hx : ev fr x = some (.iface t v)) (hg : gd ops fr ⟨none, .panic x, ty, pos, aft, g⟩ = some true) (hk : ∀ t v, WE n w0 (.panic (PE t v)) Q ds fr H) : WL P n w0 ops Q (⟨none, .panic x, ty, pos, aft, g⟩ :: rest) ds fr H :=
  WL.halt (fun a w hf _ => ⟨t, v, w.drawn, by simp [execOp, hf.eval hx, Instr.panic, goPanic]⟩) hg hk
theorem WE.then_panic {k : Act → World → Prop} {c : List PanicEntry} (h : WE n w0 (.panic c) Q ds fr H) : WE n w0 (.panic c) (Exit.then k Q) ds fr H := h
theorem WE.block_panic {id : Nat} {c : List PanicEntry} (h : WE n w0 (.panic c) Q ds fr H) : WE n w0 (.panic c) (Exit.inBlock id Q) ds fr H := h

/-! ### Contracts of functions that may panic -/
theorem FnG.enter {f : FuncId} {fn : Func} {c : Code} {args : List Value} {base : Nat} {Hs : List Hp} {R : Value → List Hp → Prop} {Rp : List Hp → Prop} {n : Nat} (hf : P.funcs[f]? = some fn) (hb : fn.body = some c) (hn : args.length + (fn.ntmps - args.length) = n)
    (h : ∀ w0 R0, w0.heap.size = base → WC P n w0 c (bodyPost P fn (postG w0 R0 R Rp)) [] (args.zipIdx.map fun (v, i) => (i, v)) (Hs ++ [R0])) : FnG P f args base Hs R Rp := by
  intro w0 R0 w hb0 hw
  exact calls_of_wp hf hb (h w0 R0 hb0 _ w (args_fit hn) hw)
theorem WE.endG {fn : Func} {e : Exit} {v : Value} {R : Value → List Hp → Prop} {Rp : List Hp → Prop} {R0 : Hp} (Hs : List Hp) (hH : H = Hs ++ [R0]) (he : e = .ret ∨ e = .normal) (hres : ∀ a w, Fits n [] fr a → St w0 H.flatten w → (results fn a.tmps).run P w = .ok v w) (hR : R v Hs) :
    WE n w0 e (bodyPost P fn (postG w0 R0 R Rp)) [] fr H :=
  WE.body he hres fun w hw => .inl ⟨_, Hs, rfl, hR, by rw [← hH]; exact hw⟩
theorem WE.endP {fn : Func} {t : TypeId} {v : Value} {R : Value → List Hp → Prop} {Rp : List Hp → Prop} {R0 : Hp} (Hs : List Hp) (hH : H = Hs ++ [R0]) (hR : Rp Hs) : WE n w0 (.panic (PE t v)) (bodyPost P fn (postG w0 R0 R Rp)) [] fr H :=
  fun a w hf hw => ⟨hf.defers, .inr ⟨t, v, Hs, rfl, hR, by rw [← hH]; exact hw⟩⟩
theorem WL.callG {f : FuncId} {y : Operand} {xs : Array Operand} {ts : Array TypeId} {first vs cap : List Value} {R : Value → List Hp → Prop} {Rp : List Hp → Prop} {Hs : List Hp} (hc : FnG P f (first ++ vs ++ cap) w0.heap.size Hs R Rp) (hf : Callable P f) (hy : ev fr y = some (.func (.func f) first.toArray cap.toArray)) (ha : evs fr xs.toList = some vs)
    (hH : H = Hs ++ H') (hg : gd ops fr ⟨some d, .call ⟨.value y, xs, ts⟩, ty, pos, aft, g⟩ = some true) (hn : Nat.blt d n = true)
    (h1 : ∀ v Hs', R v Hs' → WL P n w0 ops Q rest ds ((d, v) :: fr) (Hs' ++ H')) (h2 : ∀ Hs', Rp Hs' → ∀ t v, WE n w0 (.panic (PE t v)) Q ds fr (Hs' ++ H')) :
    WL P n w0 ops Q (⟨some d, .call ⟨.value y, xs, ts⟩, ty, pos, aft, g⟩ :: rest) ds fr H := by
  subst hH
  intro a w hfit hw
  unfold wpList
  rw [gd_wanted hfit hg, if_pos rfl]
  left
  unfold Oper.wp
  rw [run_enterv hf hy ha hfit w, Oper.upon_enter]
  refine (hc w0 H'.flatten w rfl (by simpa using hw)).mono fun e w' h => ?_
  rcases h with ⟨v, Hs', rfl, hR, hst⟩ | ⟨t, v, Hs', rfl, hR, hst⟩
  · exact h1 v Hs' hR _ _ (hfit.put v hn) (by simpa using hst)
  · exact h2 Hs' hR t v _ _ hfit (by simpa using hst)

theorem WL.app3 {l : List Oper} {A B C : Hp} (h : WL P n w0 ops Q l ds fr (A :: B :: C :: H)) : WL P n w0 ops Q l ds fr ([A, B, C] ++ H) := h
theorem WE.app3 {e : Exit} {A B C : Hp} (h : WE n w0 e Q ds fr (A :: B :: C :: H)) : WE n w0 e Q ds fr ([A, B, C] ++ H) := h
theorem WL.app4 {l : List Oper} {A B C D : Hp} (h : WL P n w0 ops Q l ds fr (A :: B :: C :: D :: H)) : WL P n w0 ops Q l ds fr ([A, B, C, D] ++ H) := h
theorem WE.app4 {e : Exit} {A B C D : Hp} (h : WE n w0 e Q ds fr (A :: B :: C :: D :: H)) : WE n w0 e Q ds fr ([A, B, C, D] ++ H) := h

/-! ### Functions made, deferred calls -/
theorem oq_makeFn {f : FuncId} {x : Array Operand} {xs : List Value} (hx : evs fr x.toList = some xs) : OV P n w0 ⟨dst, .makeFunc (.func f) #[] x, ty, pos, aft, g⟩ (.func (.func f) #[] xs.toArray) ds fr H :=
  oq_of_run fun a w hf _ => by
    have e := hf.evalsA hx
    simp [execOp, Instr.makeFunc, e]
theorem WL.defer {f : FuncId} {y : Operand} {xs : Array Operand} {ts : Array TypeId} {first vs cap : List Value} (hy : ev fr y = some (.func (.func f) first.toArray cap.toArray)) (ha : evs fr xs.toList = some vs) (hg : gd ops fr ⟨none, .defer ⟨.value y, xs, ts⟩, ty, pos, aft, g⟩ = some true)
    (hk : WL P n w0 ops Q rest ({ target := .fn (.func f) cap.toArray, args := (first ++ vs).toArray } :: ds) fr H) : WL P n w0 ops Q (⟨none, .defer ⟨.value y, xs, ts⟩, ty, pos, aft, g⟩ :: rest) ds fr H := by
  intro a w hfit hw
  unfold wpList
  rw [gd_wanted hfit hg, if_pos rfl]
  left
  unfold Oper.wp
  have e := hfit.evalsA ha
  have hr : (execOp a.eval ⟨none, .defer ⟨.value y, xs, ts⟩, ty, pos, aft, g⟩).run P w = .ok (.defer { target := .fn (.func f) cap.toArray, args := (first ++ vs).toArray }) w := by
    simp [execOp, resolve, hfit.eval hy, Deferred.ofValue, e]
  rw [hr, Oper.upon_defer]
  exact hk _ _ ⟨hfit.size, by show _ :: a.defers = _; rw [hfit.defers], hfit.get⟩ hw
theorem inv_fn {f : FuncId} {cap args : List Value} (hf : Callable P f) (w : World) : (invoke (.fn (.func f) cap.toArray) args.toArray).run P w = .ok (.enter f (args ++ cap).toArray) w := by
  obtain ⟨fn, hf, hb, hnm⟩ := hf
  simp only [invoke, callFunc, Sem.run_bind, run_program, Result.andThen_ok, Sem.run_pure, hf, hnm, hb, Bool.false_eq_true, ↓reduceIte, List.append_toArray]
/-- the end of a function with one deferred call: at a return, and at a panic -/
theorem WE.deferred {fn : Func} {R : Ending → World → Prop} {e : Exit} {f : FuncId} {cap args : List Value} (he : e = .ret ∨ e = .normal) (hf : Callable P f)
    (h : ∀ a w, Fits n [{ target := .fn (.func f) cap.toArray, args := args.toArray }] fr a → St w0 H.flatten w → CallsD P f (args ++ cap).toArray .returning w fun e' u' w' => ∃ u, e' = .returned u ∧ settle u' = .returning ∧ ∃ v, (results fn a.tmps).run P w' = .ok v w' ∧ R (.returned v) w') :
    WE n w0 e (bodyPostD P fn R) [{ target := .fn (.func f) cap.toArray, args := args.toArray }] fr H := by
  intro a w hfit hw
  have key : Leaves P fn a.tmps R a.defers .returning w := by
    rw [hfit.defers]
    refine leaves_cons (by simp) (inv_fn hf w) ((h a w hfit hw).mono fun e' u' w' hh => ?_)
    obtain ⟨u, rfl, hs, v, hv, hR⟩ := hh
    show Leaves P fn a.tmps R [] (settle u') w'
    rw [hs]; exact ⟨v, hv, hR⟩
  rcases he with rfl | rfl <;> exact key
theorem WE.deferredP {fn : Func} {R : Ending → World → Prop} {c : List PanicEntry} {f : FuncId} {cap args : List Value} (hf : Callable P f)
    (h : ∀ a w, Fits n [{ target := .fn (.func f) cap.toArray, args := args.toArray }] fr a → St w0 H.flatten w → CallsD P f (args ++ cap).toArray (.panicking c) w fun e' u' w' => ∃ u, e' = .returned u ∧ settle u' = .returning ∧ ∃ v, (results fn a.tmps).run P w' = .ok v w' ∧ R (.returned v) w') :
    WE n w0 (.panic c) (bodyPostD P fn R) [{ target := .fn (.func f) cap.toArray, args := args.toArray }] fr H := by
  intro a w hfit hw
  show Leaves P fn a.tmps R a.defers (.panicking c) w
  rw [hfit.defers]
  refine leaves_cons (by simp) (inv_fn hf w) ((h a w hfit hw).mono fun e' u' w' hh => ?_)
  obtain ⟨u, rfl, hs, v, hv, hR⟩ := hh
  show Leaves P fn a.tmps R [] (settle u') w'
  rw [hs]; exact ⟨v, hv, hR⟩
theorem FnR.enterD {f : FuncId} {fn : Func} {c : Code} {args : List Value} {Hr : Hp} {v : Value} {n : Nat} (hf : P.funcs[f]? = some fn) (hb : fn.body = some c) (hn : args.length + (fn.ntmps - args.length) = n)
    (h : ∀ w0, WC P n w0 c (bodyPostD P fn fun e w' => e = .returned v ∧ St w0 Hr w') [] (args.zipIdx.map fun (v, i) => (i, v)) [Hr]) : FnR P f args Hr v := by
  intro w hw
  exact calls_of_wp_defers hf hb (h w _ w (args_fit hn) (by simpa using hw.st))

/-! ### Inside a deferred function: recover -/
/-- inside a region; 'l': the numbers of the operations that are left -/
def WS (P : Program) (n : Nat) (w0 : World) (ops : Array Oper) (Q : Exit → Act → List Frame → World → Prop) (l : List Nat) (fr : Fr) (cs : List Frame) (H : List Hp) : Prop :=
  ∀ a w, Fits n [] fr a → St w0 H.flatten w → wpOpsS P ops Q l a cs w
variable {QS : Exit → Act → List Frame → World → Prop} {cs cs' : List Frame} {l : List Nat}
theorem WS.q {o : Oper} {i : Nat} {v : Value} (h : OV P n w0 o v [] fr H) (ho : ops[i]? = some o) (hg : gd ops fr o = some true) (hd : o.dst = some d) (hn : Nat.blt d n = true) (hk : WS P n w0 ops QS l ((d, v) :: fr) cs H) : WS P n w0 ops QS (i :: l) fr cs H := by
  intro a w hf hw
  simp only [wpOpsS, ho]
  rw [if_pos (gd_wanted hf hg), h a w hf hw]
  show wpOpsS P ops QS l (a.put o.dst v) cs w
  rw [hd]; exact hk _ _ (hf.put v hn) hw
theorem WS.recover {i : Nat} {ts : Array TypeId} {v : Value} (ho : ops[i]? = some ⟨some d, .call ⟨.builtin .recover, #[], ts⟩, ty, pos, aft, none⟩) (hn : Nat.blt d n = true) (hr : recoverD cs = some (v, cs')) (hk : WS P n w0 ops QS l ((d, v) :: fr) cs' H) : WS P n w0 ops QS (i :: l) fr cs H := by
  intro a w hf hw
  have e : (execOp a.eval ⟨some d, .call ⟨.builtin .recover, #[], ts⟩, ty, pos, aft, none⟩).run P w = .ok .recover w := by simp [execOp, resolve, invoke, builtin]
  simp only [wpOpsS, ho]
  rw [if_pos (by simp [Region.wanted]), e]
  simp only [hr]
  exact hk _ _ (hf.put v hn) hw
theorem WS.recover0 {i : Nat} {ts : Array TypeId} (ho : ops[i]? = some ⟨some d, .call ⟨.builtin .recover, #[], ts⟩, ty, pos, aft, none⟩) (hn : Nat.blt d n = true) (hr : recoverD cs = none) (hk : WS P n w0 ops QS l ((d, .nilIface) :: fr) cs H) : WS P n w0 ops QS (i :: l) fr cs H := by
  intro a w hf hw
  have e : (execOp a.eval ⟨some d, .call ⟨.builtin .recover, #[], ts⟩, ty, pos, aft, none⟩).run P w = .ok .recover w := by simp [execOp, resolve, invoke, builtin]
  simp only [wpOpsS, ho]
  rw [if_pos (by simp [Region.wanted]), e]
  simp only [hr]
  exact hk _ _ (hf.put _ hn) hw
/-- the region is done; a condition follows -/
theorem WS.cond {c : Operand} {x y : Code} {b : Bool} (hc : ev fr c = some (.bool b)) (h : WC P n w0 (if b then x else y) (fun e a w => QS e a cs w) [] fr H) : WS P n w0 ops (Exit.thenS ((Code.cond c x y).wpS P QS) QS) [] fr cs H :=
  fun a w hf hw => wpS_cond (hf.eval hc) (wpS_of_wp (h a w hf hw))
theorem recoverD_none {c : Frame} (h : c.mode = .returning) : recoverD (c :: cs) = none := by unfold recoverD; simp only [h]
theorem recoverD_some {c : Frame} {t : TypeId} {v : Value} (h : c.mode = .panicking (PE t v)) : recoverD (c :: cs) = some (.iface t v, { c with mode := .panicking [{ v := .iface t v, recovered := true }] } :: cs) := by unfold recoverD PE at *; simp only [h]
theorem WE.endS {fn : Func} {c₀ c₁ : Frame} {R : Ending → FrameMode → World → Prop} {e : Exit} {u : FrameMode} {v : Value} (he : e = .ret ∨ e = .normal) (hc : c₁ = { c₀ with mode := u }) (hres : ∀ a w, Fits n [] fr a → St w0 H.flatten w → (results fn a.tmps).run P w = .ok v w) (hR : ∀ w, St w0 H.flatten w → R (.returned v) u w) : WE n w0 e (fun e a w => bodyPostS P fn c₀ cs R e a (c₁ :: cs) w) [] fr H := by
  intro a w hf hw
  rcases he with rfl | rfl <;> exact ⟨hf.defers, u, by rw [hc], v, hres a w hf hw, hR w hw⟩
end
end Go.Proofs.YtodlhaghdplclaaDoor.V
