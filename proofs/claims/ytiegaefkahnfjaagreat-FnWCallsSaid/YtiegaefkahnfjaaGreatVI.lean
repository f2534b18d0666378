/- The engine, part 17: bytes as a text, arrays whole, stores into slices of the call's own. Over any program. -/
import Derived.Test.YtiegaefkahnfjaaGreatVH
namespace Go.Proofs.YtiegaefkahnfjaaGreat.V
open Go Go.RowKit
set_option linter.unusedSimpArgs false
set_option linter.unusedVariables false
theorem listSet_take {α : Type} : ∀ (l : List α) (n i : Nat) (x : α), i < n → (l.set i x).take n = (l.take n).set i x
 | [], n, i, x, _ => by simp
 | a :: l, 0, i, x, h => by omega
 | a :: l, n + 1, 0, x, _ => by simp
 | a :: l, n + 1, i + 1, x, h => by simp [listSet_take l n i x (by omega)]
section
variable {P : Program} {n : Nat} {w0 : World} {ds : List Deferred} {fr : Fr} {H H' : List Hp} {dst : Option Tmp} {ty : TypeId} {pos : String} {aft : Array Edge} {g : Option (Nat × Bool)}
variable {ops : Array Oper} {Q : Post} {rest : List Oper} {d : Nat}
theorem WL.build0 {t e : TypeId} {z : Value} {size bytes : Nat} (ht : P.underlying t = some (.slice e)) (hty : Ty P e z size bytes) (hg : gd ops fr ⟨some d, .buildSlice t 0 #[], ty, pos, aft, g⟩ = some true) (hn : Nat.blt d n = true)
  (hk : ∀ v A, OwS w0.heap.size e size v A 0 [] → v ≠ .slice none 0 0 → WL P n w0 ops Q rest ds ((d, v) :: fr) (A :: H)) : WL P n w0 ops Q (⟨some d, .buildSlice t 0 #[], ty, pos, aft, g⟩ :: rest) ds fr H := by
 refine WL.new (v := fun b => .slice (some ⟨b, 0, none⟩) 0 0) (obj := .cells #[] e (0, 0)) (fun a w hf _ => ?_) hg rfl hn fun b hb => ?_
 ·obtain ⟨i, hi, hz, hs, _⟩ := hty
  simp [execOp, Instr.buildSlice, run_underlying ht, sizeOf, typeInfo, hi, Instr.fill, newRow, Array.range_zero']
 ·exact hk _ _ ⟨by simp, .inr ⟨b, 0, #[], rfl, rfl, hb, Nat.le_refl _, by unfold maxLen; omega, by simp, by simp⟩⟩ (by simp)
theorem WL.storeOw {t e : TypeId} {x y : Operand} {m i : Nat} {v u z : Value} {A : Hp} {xs : List Value} {bytes : Nat} (ho : OwS w0.heap.size e 1 v A m xs) (hty : Ty P t z 1 bytes) (hx : ev fr x = some (elAddr 1 v (i : Int))) (hy : ev fr y = some u) (h1 : u.oneCell' = true) (hi : i < m)
  (hg : gd ops fr ⟨none, .store t x y, ty, pos, aft, g⟩ = some true) (hk : ∀ A', OwS w0.heap.size e 1 v A' m (xs.set i u) → WL P n w0 ops Q rest ds fr (A' :: H)) : WL P n w0 ops Q (⟨none, .store t x y, ty, pos, aft, g⟩ :: rest) ds fr (A :: H) := by
 rcases ho.2 with ⟨_, _, rfl⟩ | ⟨b, cap, cur, rfl, rfl, hb, hmc, hcm, hcs, hct⟩
 ·omega
 ·have hxa : ev fr x = some (Pt b i) := by rw [hx]; simp [elAddr]
  refine WL.store hty hxa hy h1 (by rw [hcs]; omega) (by simp) hg (hk _ ⟨by rw [List.length_set]; exact ho.1, .inr ⟨b, cap, _, rfl, rfl, hb, hmc, hcm, by simp [hcs], ?_⟩⟩)
  rw [Array.toList_setIfInBounds, listSet_take _ _ _ _ (by omega), hct]
end
end Go.Proofs.YtiegaefkahnfjaaGreat.V
