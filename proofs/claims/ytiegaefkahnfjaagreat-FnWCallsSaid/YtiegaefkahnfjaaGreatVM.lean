/- The engine, part 21: maps. Over any program. -/
import Derived.Test.YtiegaefkahnfjaaGreatVL
import Derived.MapKept
namespace Go.Proofs.YtiegaefkahnfjaaGreat.V
open Go Go.RowKit
set_option linter.unusedSimpArgs false
set_option linter.unusedVariables false
section
variable {α : Type} [DecidableEq α]
end
section
variable {P : Program} {n : Nat} {w0 : World} {ds : List Deferred} {fr : Fr} {H H' : List Hp} {dst : Option Tmp} {ty : TypeId} {pos : String} {aft : Array Edge} {g : Option (Nat × Bool)}
variable {ops : Array Oper} {Q : Post} {rest : List Oper} {d : Nat}
variable {α : Type} [DecidableEq α] {K : α → Value} {m : Nat} {ms : List (α × Value × Nat)} {clk : Nat}
end
section
variable {P : Program} {n : Nat} {w0 : World} {ds : List Deferred} {fr : Fr} {H H' : List Hp} {dst : Option Tmp} {ty : TypeId} {pos : String} {aft : Array Edge} {g : Option (Nat × Bool)}
variable {ops : Array Oper} {Q : Post} {rest : List Oper} {d : Nat} {α : Type} {K : α → Value} {m : Nat} {ms : List (α × Value × Nat)} {clk : Nat}
end
section
variable {P : Program} {n : Nat} {w0 : World} {ds : List Deferred} {fr : Fr} {H H' : List Hp} {dst : Option Tmp} {ty : TypeId} {pos : String} {aft : Array Edge} {g : Option (Nat × Bool)}
variable {ops : Array Oper} {Q : Post} {rest : List Oper} {d : Nat}
theorem WC.distinct {c : Code} (h : (H.flatten.map Prod.fst).Nodup → WC P n w0 c Q ds fr H) : WC P n w0 c Q ds fr H := fun a w hf hw => h hw.nodup a w hf hw
end
section
variable {P : Program} {n : Nat} {w0 : World} {ds : List Deferred} {fr : Fr} {H H' : List Hp} {ops : Array Oper} {Q : Post}
theorem WL.reg {l : List Oper} (p : H.flatten.Perm H'.flatten) (h : WL P n w0 ops Q l ds fr H') : WL P n w0 ops Q l ds fr H := fun a w hf hw => h a w hf (hw.perm p)
theorem WC.reg {c : Code} (p : H.flatten.Perm H'.flatten) (h : WC P n w0 c Q ds fr H') : WC P n w0 c Q ds fr H := fun a w hf hw => h a w hf (hw.perm p)
theorem WE.reg {e : Exit} (p : H.flatten.Perm H'.flatten) (h : WE n w0 e Q ds fr H') : WE n w0 e Q ds fr H := fun a w hf hw => h a w hf (hw.perm p)
end
theorem reg_out {A B C : Hp} {H : List Hp} (p : A.Perm (B ++ C)) : (A :: H).flatten.Perm (B :: C :: H).flatten := by
 simp only [List.flatten_cons, ← List.append_assoc]; exact p.append_right _
theorem reg_in {A B C : Hp} {H : List Hp} (p : (B ++ C).Perm A) : (B :: C :: H).flatten.Perm (A :: H).flatten := (reg_out p.symm).symm
/-! ### Rings: who stands beside whom -/
/-! ### Regions that draw their order: reading operations and calls that only read come first, the rest waits for all of them -/
/-! ### Two operations that make memory, in either order -/
end Go.Proofs.YtiegaefkahnfjaaGreat.V
