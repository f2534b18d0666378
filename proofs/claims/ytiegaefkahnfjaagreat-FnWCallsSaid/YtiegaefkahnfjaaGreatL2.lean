/- Walks of the checks of labels and of the cutting of a text. -/
import Derived.Test.YtiegaefkahnfjaaGreatL1
import Derived.Test.YtiegaefkahnfjaaGreatL0
namespace Go.Proofs.YtiegaefkahnfjaaGreat
open Go Go.RowKit V L1 L0
set_option linter.unusedSimpArgs false
set_option linter.unusedVariables false
set_option maxRecDepth 10000
namespace L2
/-! ### Words -/
theorem all_get {α : Type} {p : α → Bool} (l : List α) (i : Nat) (d : α) (h : i < l.length) : (l.drop i).all p = (p (l.getD i d) && (l.drop (i + 1)).all p) := by
 rw [List.drop_eq_getElem_cons h, List.getD_eq_getElem?_getD, List.getElem?_eq_getElem h]; rfl
end L2
end Go.Proofs.YtiegaefkahnfjaaGreat
