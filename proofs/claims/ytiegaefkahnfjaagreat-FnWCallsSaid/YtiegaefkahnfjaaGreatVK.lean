/- The engine, part 19: asking an interface value for another interface, appending a slice that is made, the deferred end of a function that makes memory, ends with four and five groups. Over any program. -/
import Derived.Test.YtiegaefkahnfjaaGreatVI
import Derived.Lib.Bytealg
namespace Go.Proofs.YtiegaefkahnfjaaGreat.V
open Go Go.RowKit
set_option linter.unusedSimpArgs false
set_option linter.unusedVariables false
section
variable {P : Program} {n : Nat} {w0 : World} {ds : List Deferred} {fr : Fr} {H H' : List Hp} {dst : Option Tmp} {ty : TypeId} {pos : String} {aft : Array Edge} {g : Option (Nat × Bool)}
variable {ops : Array Oper} {Q : Post} {rest : List Oper} {d : Nat}
theorem WE.endW4 {fn : Func} {e : Exit} {v : Value} {R : Value → List Hp → Prop} {R0 A B C D : Hp} (he : e = .ret ∨ e = .normal) (hres : ∀ a w, Fits n [] fr a → St w0 ([A, B, C, D, R0] : List Hp).flatten w → (results fn a.tmps).run P w = .ok v w) (hR : R v [A, B, C, D]) :
  WE n w0 e (bodyPost P fn (postW w0 R0 R)) [] fr [A, B, C, D, R0] :=
 WE.body he hres fun _ hw => ⟨_, [A, B, C, D], rfl, hR, hw⟩
theorem WL.callW5 {f : FuncId} {xs : Array Operand} {ts : Array TypeId} {args : List Value} {R : Value → List Hp → Prop} {A B C D E : Hp} (hc : FnW P f args w0.heap.size [A, B, C, D, E] R) (hf : Callable P f) (ha : evs fr xs.toList = some args) (hg : gd ops fr ⟨some d, .call ⟨.value (.func f), xs, ts⟩, ty, pos, aft, g⟩ = some true) (hn : Nat.blt d n = true)
  (hk : ∀ v Hs', R v Hs' → WL P n w0 ops Q rest ds ((d, v) :: fr) (Hs' ++ H)) :
  WL P n w0 ops Q (⟨some d, .call ⟨.value (.func f), xs, ts⟩, ty, pos, aft, g⟩ :: rest) ds fr (A :: B :: C :: D :: E :: H) := WL.callW hc hf ha hg hn hk
theorem WL.to5 {l : List Oper} {A B C D E : Hp} (h : WL P n w0 ops Q l ds fr (A :: B :: C :: D :: E :: H)) : WL P n w0 ops Q l ds fr ([A, B, C, D, E] ++ H) := h
theorem WL.f5 {a0 a1 a2 a3 a4 a5 : Hp} {r : List Hp} {l : List Oper} (h : WL P n w0 ops Q l ds fr (a5 :: a0 :: a1 :: a2 :: a3 :: a4 :: r)) : WL P n w0 ops Q l ds fr (a0 :: a1 :: a2 :: a3 :: a4 :: a5 :: r) := h.perm (List.perm_middle (l₁ := [a0, a1, a2, a3, a4]) (l₂ := r))
theorem WE.f5 {a0 a1 a2 a3 a4 a5 : Hp} {r : List Hp} {e : Exit} (h : WE n w0 e Q ds fr (a5 :: a0 :: a1 :: a2 :: a3 :: a4 :: r)) : WE n w0 e Q ds fr (a0 :: a1 :: a2 :: a3 :: a4 :: a5 :: r) := h.perm (List.perm_middle (l₁ := [a0, a1, a2, a3, a4]) (l₂ := r))
theorem WL.f6 {a0 a1 a2 a3 a4 a5 a6 : Hp} {r : List Hp} {l : List Oper} (h : WL P n w0 ops Q l ds fr (a6 :: a0 :: a1 :: a2 :: a3 :: a4 :: a5 :: r)) : WL P n w0 ops Q l ds fr (a0 :: a1 :: a2 :: a3 :: a4 :: a5 :: a6 :: r) := h.perm (List.perm_middle (l₁ := [a0, a1, a2, a3, a4, a5]) (l₂ := r))
theorem WC.f6 {a0 a1 a2 a3 a4 a5 a6 : Hp} {r : List Hp} {c : Code} (h : WC P n w0 c Q ds fr (a6 :: a0 :: a1 :: a2 :: a3 :: a4 :: a5 :: r)) : WC P n w0 c Q ds fr (a0 :: a1 :: a2 :: a3 :: a4 :: a5 :: a6 :: r) := h.perm (List.perm_middle (l₁ := [a0, a1, a2, a3, a4, a5]) (l₂ := r))
theorem WE.f6 {a0 a1 a2 a3 a4 a5 a6 : Hp} {r : List Hp} {e : Exit} (h : WE n w0 e Q ds fr (a6 :: a0 :: a1 :: a2 :: a3 :: a4 :: a5 :: r)) : WE n w0 e Q ds fr (a0 :: a1 :: a2 :: a3 :: a4 :: a5 :: a6 :: r) := h.perm (List.perm_middle (l₁ := [a0, a1, a2, a3, a4, a5]) (l₂ := r))
theorem WL.f7 {a0 a1 a2 a3 a4 a5 a6 a7 : Hp} {r : List Hp} {l : List Oper} (h : WL P n w0 ops Q l ds fr (a7 :: a0 :: a1 :: a2 :: a3 :: a4 :: a5 :: a6 :: r)) : WL P n w0 ops Q l ds fr (a0 :: a1 :: a2 :: a3 :: a4 :: a5 :: a6 :: a7 :: r) := h.perm (List.perm_middle (l₁ := [a0, a1, a2, a3, a4, a5, a6]) (l₂ := r))
theorem WC.f7 {a0 a1 a2 a3 a4 a5 a6 a7 : Hp} {r : List Hp} {c : Code} (h : WC P n w0 c Q ds fr (a7 :: a0 :: a1 :: a2 :: a3 :: a4 :: a5 :: a6 :: r)) : WC P n w0 c Q ds fr (a0 :: a1 :: a2 :: a3 :: a4 :: a5 :: a6 :: a7 :: r) := h.perm (List.perm_middle (l₁ := [a0, a1, a2, a3, a4, a5, a6]) (l₂ := r))
theorem WE.f7 {a0 a1 a2 a3 a4 a5 a6 a7 : Hp} {r : List Hp} {e : Exit} (h : WE n w0 e Q ds fr (a7 :: a0 :: a1 :: a2 :: a3 :: a4 :: a5 :: a6 :: r)) : WE n w0 e Q ds fr (a0 :: a1 :: a2 :: a3 :: a4 :: a5 :: a6 :: a7 :: r) := h.perm (List.perm_middle (l₁ := [a0, a1, a2, a3, a4, a5, a6]) (l₂ := r))
theorem WL.f8 {a0 a1 a2 a3 a4 a5 a6 a7 a8 : Hp} {r : List Hp} {l : List Oper} (h : WL P n w0 ops Q l ds fr (a8 :: a0 :: a1 :: a2 :: a3 :: a4 :: a5 :: a6 :: a7 :: r)) : WL P n w0 ops Q l ds fr (a0 :: a1 :: a2 :: a3 :: a4 :: a5 :: a6 :: a7 :: a8 :: r) := h.perm (List.perm_middle (l₁ := [a0, a1, a2, a3, a4, a5, a6, a7]) (l₂ := r))
theorem WC.f8 {a0 a1 a2 a3 a4 a5 a6 a7 a8 : Hp} {r : List Hp} {c : Code} (h : WC P n w0 c Q ds fr (a8 :: a0 :: a1 :: a2 :: a3 :: a4 :: a5 :: a6 :: a7 :: r)) : WC P n w0 c Q ds fr (a0 :: a1 :: a2 :: a3 :: a4 :: a5 :: a6 :: a7 :: a8 :: r) := h.perm (List.perm_middle (l₁ := [a0, a1, a2, a3, a4, a5, a6, a7]) (l₂ := r))
theorem WE.f8 {a0 a1 a2 a3 a4 a5 a6 a7 a8 : Hp} {r : List Hp} {e : Exit} (h : WE n w0 e Q ds fr (a8 :: a0 :: a1 :: a2 :: a3 :: a4 :: a5 :: a6 :: a7 :: r)) : WE n w0 e Q ds fr (a0 :: a1 :: a2 :: a3 :: a4 :: a5 :: a6 :: a7 :: a8 :: r) := h.perm (List.perm_middle (l₁ := [a0, a1, a2, a3, a4, a5, a6, a7]) (l₂ := r))
/-! ### min and max of two whole numbers -/
/-! ### Asking for an interface -/
/-! ### append(nil, make(k)...) of bytes -/
end
end Go.Proofs.YtiegaefkahnfjaaGreat.V
