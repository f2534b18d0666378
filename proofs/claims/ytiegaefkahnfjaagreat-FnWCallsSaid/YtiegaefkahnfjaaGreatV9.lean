/- The engine, part 9: contracts of functions that change memory that their callers made; builders of texts. Over any program. -/
import Derived.Test.YtiegaefkahnfjaaGreatV8
import Derived.Lib.Builder
import Derived.Lib.UnsafeStr
namespace Go.Proofs.YtiegaefkahnfjaaGreat.V
open Go Go.RowKit
set_option linter.unusedSimpArgs false
set_option linter.unusedVariables false
def FnW (P : Program) (f : FuncId) (args : List Value) (base : Nat) (Hs : List Hp) (R : Value → List Hp → Prop) : Prop :=
 ∀ (w0 : World) (R0 : Hp) (w : World), w0.heap.size = base → St w0 (Hs ++ [R0]).flatten w → Calls P f args.toArray w fun e w' => ∃ v Hs', e = .returned v ∧ R v Hs' ∧ St w0 (Hs' ++ [R0]).flatten w'
abbrev postW (w0 : World) (R0 : Hp) (R : Value → List Hp → Prop) : Ending → World → Prop := fun e w' => ∃ v Hs', e = .returned v ∧ R v Hs' ∧ St w0 (Hs' ++ [R0]).flatten w'
section
variable {P : Program} {n : Nat} {w0 : World} {ds : List Deferred} {fr : Fr} {H H' : List Hp} {dst : Option Tmp} {ty : TypeId} {pos : String} {aft : Array Edge} {g : Option (Nat × Bool)}
variable {ops : Array Oper} {Q : Post} {rest : List Oper} {d : Nat}
theorem FnW.enter {f : FuncId} {fn : Func} {c : Code} {args : List Value} {base : Nat} {Hs : List Hp} {R : Value → List Hp → Prop} {n : Nat} (hf : P.funcs[f]? = some fn) (hb : fn.body = some c) (hn : args.length + (fn.ntmps - args.length) = n)
  (h : ∀ w0 R0, w0.heap.size = base → WC P n w0 c (bodyPost P fn (postW w0 R0 R)) [] (args.zipIdx.map fun (v, i) => (i, v)) (Hs ++ [R0])) : FnW P f args base Hs R := by
 intro w0 R0 w hb0 hw
 exact calls_of_wp hf hb (h w0 R0 hb0 _ w (args_fit hn) hw)
theorem FnW.mono {f : FuncId} {args : List Value} {base : Nat} {Hs : List Hp} {R R' : Value → List Hp → Prop} (h : FnW P f args base Hs R) (hr : ∀ v Hs', R v Hs' → R' v Hs') : FnW P f args base Hs R' :=
 fun w0 R0 w hb hw => (h w0 R0 w hb hw).mono fun _ _ ⟨v, N, h1, h2, h3⟩ => ⟨v, N, h1, hr v N h2, h3⟩
theorem WE.endW0 {fn : Func} {e : Exit} {v : Value} {R : Value → List Hp → Prop} {R0 : Hp} (he : e = .ret ∨ e = .normal) (hres : ∀ a w, Fits n [] fr a → St w0 ([R0] : List Hp).flatten w → (results fn a.tmps).run P w = .ok v w) (hR : R v []) :
  WE n w0 e (bodyPost P fn (postW w0 R0 R)) [] fr [R0] :=
 WE.body he hres fun _ hw => ⟨_, [], rfl, hR, hw⟩
theorem WE.endW1 {fn : Func} {e : Exit} {v : Value} {R : Value → List Hp → Prop} {R0 A : Hp} (he : e = .ret ∨ e = .normal) (hres : ∀ a w, Fits n [] fr a → St w0 ([A, R0] : List Hp).flatten w → (results fn a.tmps).run P w = .ok v w) (hR : R v [A]) :
  WE n w0 e (bodyPost P fn (postW w0 R0 R)) [] fr [A, R0] :=
 WE.body he hres fun _ hw => ⟨_, [A], rfl, hR, hw⟩
theorem WE.endW2 {fn : Func} {e : Exit} {v : Value} {R : Value → List Hp → Prop} {R0 A B : Hp} (he : e = .ret ∨ e = .normal) (hres : ∀ a w, Fits n [] fr a → St w0 ([A, B, R0] : List Hp).flatten w → (results fn a.tmps).run P w = .ok v w) (hR : R v [A, B]) :
  WE n w0 e (bodyPost P fn (postW w0 R0 R)) [] fr [A, B, R0] :=
 WE.body he hres fun _ hw => ⟨_, [A, B], rfl, hR, hw⟩
theorem WE.endW3 {fn : Func} {e : Exit} {v : Value} {R : Value → List Hp → Prop} {R0 A B C : Hp} (he : e = .ret ∨ e = .normal) (hres : ∀ a w, Fits n [] fr a → St w0 ([A, B, C, R0] : List Hp).flatten w → (results fn a.tmps).run P w = .ok v w) (hR : R v [A, B, C]) :
  WE n w0 e (bodyPost P fn (postW w0 R0 R)) [] fr [A, B, C, R0] :=
 WE.body he hres fun _ hw => ⟨_, [A, B, C], rfl, hR, hw⟩
theorem WL.callW {f : FuncId} {xs : Array Operand} {ts : Array TypeId} {args : List Value} {R : Value → List Hp → Prop} {Hs : List Hp} (hc : FnW P f args w0.heap.size Hs R) (hf : Callable P f) (ha : evs fr xs.toList = some args) (hg : gd ops fr ⟨some d, .call ⟨.value (.func f), xs, ts⟩, ty, pos, aft, g⟩ = some true) (hn : Nat.blt d n = true)
  (hk : ∀ v Hs', R v Hs' → WL P n w0 ops Q rest ds ((d, v) :: fr) (Hs' ++ H)) :
  WL P n w0 ops Q (⟨some d, .call ⟨.value (.func f), xs, ts⟩, ty, pos, aft, g⟩ :: rest) ds fr (Hs ++ H) := by
 intro a w hfit hw
 unfold wpList
 rw [gd_wanted hfit hg, if_pos rfl]
 left
 unfold Oper.wp
 rw [run_enter hf ha hfit w, Oper.upon_enter]
 refine (hc w0 H.flatten w rfl (by simpa using hw)).mono fun e w' h => ?_
 obtain ⟨v, Hs', rfl, hR, hst⟩ := h
 exact hk v Hs' hR _ _ (hfit.put v hn) (by simpa using hst)
theorem WL.callW1 {f : FuncId} {xs : Array Operand} {ts : Array TypeId} {args : List Value} {R : Value → List Hp → Prop} {A : Hp} (hc : FnW P f args w0.heap.size [A] R) (hf : Callable P f) (ha : evs fr xs.toList = some args) (hg : gd ops fr ⟨some d, .call ⟨.value (.func f), xs, ts⟩, ty, pos, aft, g⟩ = some true) (hn : Nat.blt d n = true)
  (hk : ∀ v Hs', R v Hs' → WL P n w0 ops Q rest ds ((d, v) :: fr) (Hs' ++ H)) :
  WL P n w0 ops Q (⟨some d, .call ⟨.value (.func f), xs, ts⟩, ty, pos, aft, g⟩ :: rest) ds fr (A :: H) := WL.callW hc hf ha hg hn hk
theorem WL.callW2 {f : FuncId} {xs : Array Operand} {ts : Array TypeId} {args : List Value} {R : Value → List Hp → Prop} {A B : Hp} (hc : FnW P f args w0.heap.size [A, B] R) (hf : Callable P f) (ha : evs fr xs.toList = some args) (hg : gd ops fr ⟨some d, .call ⟨.value (.func f), xs, ts⟩, ty, pos, aft, g⟩ = some true) (hn : Nat.blt d n = true)
  (hk : ∀ v Hs', R v Hs' → WL P n w0 ops Q rest ds ((d, v) :: fr) (Hs' ++ H)) :
  WL P n w0 ops Q (⟨some d, .call ⟨.value (.func f), xs, ts⟩, ty, pos, aft, g⟩ :: rest) ds fr (A :: B :: H) := WL.callW hc hf ha hg hn hk
theorem WL.to1 {l : List Oper} {A : Hp} (h : WL P n w0 ops Q l ds fr (A :: H)) : WL P n w0 ops Q l ds fr ([A] ++ H) := h
theorem WL.to2 {l : List Oper} {A B : Hp} (h : WL P n w0 ops Q l ds fr (A :: B :: H)) : WL P n w0 ops Q l ds fr ([A, B] ++ H) := h
/-! ### Bits -/
/-! ### Pointers -/
/-! ### A buffer of bytes, and its text -/
theorem OwS.one {base : Nat} {e : TypeId} {size m : Nat} {v : Value} {A : Hp} {xs : List Value} (h : OwS base e size v A m xs) : v.oneCell' = true := by
 rcases h.2 with ⟨rfl, _⟩ | ⟨b, cap, cur, rfl, _⟩ <;> rfl
end
end Go.Proofs.YtiegaefkahnfjaaGreat.V
