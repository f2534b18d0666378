/- The engine, part 8: texts as characters and as bytes, and back. Over any program. -/
import Derived.Test.YtiegaefkahnfjaaGreatV7
namespace Go.Proofs.YtiegaefkahnfjaaGreat.V
open Go Go.RowKit
set_option linter.unusedSimpArgs false
set_option linter.unusedVariables false
section
variable {P : Program} {n : Nat} {w0 : World} {ds : List Deferred} {fr : Fr} {H H' : List Hp} {dst : Option Tmp} {ty : TypeId} {pos : String} {aft : Array Edge} {g : Option (Nat × Bool)}
variable {ops : Array Oper} {Q : Post} {rest : List Oper} {d : Nat}
/-! ### s[:j:j], and append to it -/
end
end Go.Proofs.YtiegaefkahnfjaaGreat.V
