/- The engine, part 20: rings of nodes; maps. Over any program. -/
import Derived.Test.YtiegaefkahnfjaaGreatVK
import Derived.LaidEqlPtr
namespace Go.Proofs.YtiegaefkahnfjaaGreat.V
open Go Go.RowKit
set_option linter.unusedSimpArgs false
set_option linter.unusedVariables false
/-! ### Blocks by a function -/
section
variable {P : Program} {n : Nat} {w0 : World} {ds : List Deferred} {fr : Fr} {H H' : List Hp} {dst : Option Tmp} {ty : TypeId} {pos : String} {aft : Array Edge} {g : Option (Nat × Bool)}
variable {ops : Array Oper} {Q : Post} {rest : List Oper} {d : Nat}
variable {tE tL bl : Nat} {els : List Nat} {nx pv : Nat → Nat} {vl : Nat → Value} {len : Int}
theorem oq_peq {t t' te : TypeId} {x y : Operand} {b c : Nat} {z : Value} {size bytes : Nat} {cb cc : Array Value} {eb ec : TypeId} {A B : Hp} (ht : P.underlying t = some (.pointer te)) (hty : Ty P te z size bytes) (h0 : size ≠ 0) (hA : A ∈ H) (hb : (b, .cells cb eb (0, 0)) ∈ A) (hB : B ∈ H) (hc : (c, .cells cc ec (0, 0)) ∈ B) (hx : ev fr x = some (Pt b 0)) (hy : ev fr y = some (Pt c 0)) :
  OV P n w0 ⟨dst, .binOp .eql t x y t', ty, pos, aft, g⟩ (.bool (decide (b = c))) ds fr H :=
 oq_of_run fun a w hf hw => by
  obtain ⟨j, hj, _, hsz, _⟩ := hty
  by_cases e : b = c
  ·subst e
   have h := run_eql_ptr_same (P := P) w ⟨b, 0, none⟩ ht hj
   simp [execOp, hf.eval hx, hf.eval hy, eqGuard, h]
  ·have h := run_eql_ptr_other (P := P) w (a := ⟨b, 0, none⟩) (b := ⟨c, 0, none⟩) ht hj (by rw [hsz]; exact h0) (by simp [e]) (hw.now b _ (mem_flat hA hb)) (hw.now c _ (mem_flat hB hc))
   simp [execOp, hf.eval hx, hf.eval hy, eqGuard, h, e]
theorem oq_pesame {t t' te : TypeId} {x y : Operand} {q : Addr} {z : Value} {size bytes : Nat} (ht : P.underlying t = some (.pointer te)) (hty : Ty P te z size bytes) (hx : ev fr x = some (.pointer (some q))) (hy : ev fr y = some (.pointer (some q))) : OV P n w0 ⟨dst, .binOp .eql t x y t', ty, pos, aft, g⟩ (.bool true) ds fr H :=
 oq_of_run fun a w hf _ => by
  obtain ⟨j, hj, _⟩ := hty
  have h := run_eql_ptr_same (P := P) w q ht hj
  simp [execOp, hf.eval hx, hf.eval hy, eqGuard, h]
theorem oq_askT {k u : TypeId} {x : Operand} {v : Value} (hc : Conc P k) (hx : ev fr x = some (.iface k v)) : OV P n w0 ⟨dst, .typeAssert x u k false, ty, pos, aft, g⟩ v ds fr H :=
 oq_of_run fun a w hf _ => by
  obtain ⟨d', hd, hx'⟩ := hc
  cases d' <;> simp_all [execOp, Instr.typeAssert, hf.eval hx, run_underlying hd]
theorem oq_askC {k u : TypeId} {x : Operand} {v : Value} (hc : Conc P k) (hx : ev fr x = some (.iface k v)) : OV P n w0 ⟨dst, .typeAssert x u k true, ty, pos, aft, g⟩ (.tuple #[v, .bool true]) ds fr H :=
 oq_of_run fun a w hf _ => by
  obtain ⟨d', hd, hx'⟩ := hc
  cases d' <;> simp_all [execOp, Instr.typeAssert, hf.eval hx, run_underlying hd]
end
end Go.Proofs.YtiegaefkahnfjaaGreat.V
