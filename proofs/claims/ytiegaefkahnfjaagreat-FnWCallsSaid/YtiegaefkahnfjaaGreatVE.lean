/- The engine, part 13: slices made at a length, values put into interfaces, calls of function values that make memory. Over any program. -/
import Derived.Test.YtiegaefkahnfjaaGreatVD
namespace Go.Proofs.YtiegaefkahnfjaaGreat.V
open Go Go.RowKit
set_option linter.unusedSimpArgs false
set_option linter.unusedVariables false
section
variable {P : Program} {n : Nat} {w0 : World} {ds : List Deferred} {fr : Fr} {H H' : List Hp} {dst : Option Tmp} {ty : TypeId} {pos : String} {aft : Array Edge} {g : Option (Nat × Bool)}
variable {ops : Array Oper} {Q : Post} {rest : List Oper} {d : Nat}
def Conc (P : Program) (t : TypeId) : Prop := ∃ u, P.underlying t = some u ∧ (match u with | .interface _ => True | _ => False) = False
theorem oq_makeI {t : TypeId} {x : Operand} {v : Value} (ht : Conc P t) (hx : ev fr x = some v) : OV P n w0 ⟨dst, .makeInterface t x, ty, pos, aft, g⟩ (.iface t v) ds fr H :=
 oq_of_run fun a w hf _ => by
  obtain ⟨u, hu, hn⟩ := ht
  cases u <;> simp_all [execOp, Instr.makeInterface, run_underlying hu, hf.eval hx]
/-! ### Calls of function values that make memory -/
theorem WL.appendS {t e : TypeId} {s x : Operand} {z : Value} {size bytes m k : Nat} {v y : Value} {xs news : List Value} {A B : Hp} (hown : OwS w0.heap.size e size v A k xs) (ht : P.underlying t = some (.slice e)) (hty : Ty P e z size bytes) (hzs : z.cells.size = size) (hb0 : bytes ≠ 0)
  (hs : ev fr s = some v) (hx : ev fr x = some y) (hr : RdS size y B m news) (hB : B ∈ H) (h1 : ∀ u ∈ news, u.oneCell' = true) (h63 : k + m ≤ maxLen) (hbytes : (k + m) * bytes ≤ 140737488355328)
  (hg : gd ops fr ⟨some d, .call ⟨.builtin .append, #[s, x], #[t, t]⟩, ty, pos, aft, g⟩ = some true) (hn : Nat.blt d n = true)
  (hk : ∀ v' A', OwS w0.heap.size e size v' A' (k + m) (xs ++ news) → (v' = .slice none 0 0 ↔ v = .slice none 0 0 ∧ m = 0) → WL P n w0 ops Q rest ds ((d, v') :: fr) (A' :: H)) :
  WL P n w0 ops Q (⟨some d, .call ⟨.builtin .append, #[s, x], #[t, t]⟩, ty, pos, aft, g⟩ :: rest) ds fr (A :: H) :=
 WL.append hown ht (.inl ⟨_, ht⟩) hty hzs hb0 hs hx (SrcS.rd hr (List.mem_cons_of_mem _ hB) h1) h63 hbytes hg hn hk
end
end Go.Proofs.YtiegaefkahnfjaaGreat.V
