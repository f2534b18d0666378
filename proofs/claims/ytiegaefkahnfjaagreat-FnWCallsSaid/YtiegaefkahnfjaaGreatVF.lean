/- The engine, part 14: panics, deferred calls, recovering. Over any program. -/
import Derived.Test.YtiegaefkahnfjaaGreatVE
import Derived.Laws.Panics
namespace Go.Proofs.YtiegaefkahnfjaaGreat.V
open Go Go.RowKit
set_option linter.unusedSimpArgs false
set_option linter.unusedVariables false
section
variable {P : Program} {n : Nat} {w0 : World} {ds : List Deferred} {fr : Fr} {H H' : List Hp} {dst : Option Tmp} {ty : TypeId} {pos : String} {aft : Array Edge} {g : Option (Nat × Bool)}
variable {ops : Array Oper} {Q : Post} {rest : List Oper} {d : Nat}
/-! ### Contracts of functions that may panic -/
/-! ### Functions made, deferred calls -/
theorem oq_makeFn {f : FuncId} {x : Array Operand} {xs : List Value} (hx : evs fr x.toList = some xs) : OV P n w0 ⟨dst, .makeFunc (.func f) #[] x, ty, pos, aft, g⟩ (.func (.func f) #[] xs.toArray) ds fr H :=
 oq_of_run fun a w hf _ => by
  have e := hf.evalsA hx
  simp [execOp, Instr.makeFunc, e]
/-! ### Inside a deferred function: recover -/
variable {QS : Exit → Act → List Frame → World → Prop} {cs cs' : List Frame} {l : List Nat}
end
end Go.Proofs.YtiegaefkahnfjaaGreat.V
