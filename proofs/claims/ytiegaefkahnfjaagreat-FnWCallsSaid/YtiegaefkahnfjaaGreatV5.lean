/- The engine, part 5: from a law's contract to its row. Over any program. -/
import Derived.Test.YtiegaefkahnfjaaGreatV4
import Derived.ProofKit
import Derived.SliceStrings
import Derived.OpenShut
namespace Go.Proofs.YtiegaefkahnfjaaGreat.V
open Go Go.RowKit Go.ChangeShapes Go.WideShapes
set_option linter.unusedSimpArgs false
set_option linter.unusedVariables false
theorem St.below0 {W w : World} (h : St W [] w) : Below W.heap.size W w := ⟨h.os, h.tape, h.output, h.size, fun k hk => h.old k hk (fun _ hm => by cases hm)⟩
theorem St.belowR {W w : World} {A : Hp} (ha : Has A W) (h : St W A w) : Below W.heap.size W w :=
 St.below0 (St.drop (N := A) (H := []) (by simpa using h) fun b o hb => .inr (ha.now b o hb))
theorem RdS.weaken {size : Nat} {v : Value} {A C : Hp} {n : Nat} {xs : List Value} (h : RdS size v A n xs) (hs : ∀ x ∈ A, x ∈ C) : RdS size v C n xs := by
 refine ⟨h.1, ?_⟩
 rcases h.2 with h1 | ⟨b, off, c, cells, e, fz, h1, h2, h3, h4⟩
 ·exact .inl h1
 ·exact .inr ⟨b, off, c, cells, e, fz, h1, h2, hs _ h3, h4⟩
theorem has_all1 {W : World} {A : Hp} (ha : Has A W) : ∃ C, Has C W ∧ (∀ x ∈ A, x ∈ C) := ⟨A, ha, fun _ h => h⟩
section
variable {H : Type} {enc : TypeId × Value → H} {P : Program} {w : World} {base : Nat}
end
end Go.Proofs.YtiegaefkahnfjaaGreat.V
