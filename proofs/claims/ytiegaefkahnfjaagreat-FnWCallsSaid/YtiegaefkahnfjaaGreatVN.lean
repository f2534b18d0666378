/- The engine, part 22: slices of the call's own that begin behind the head of their block; a struct is appended. Over any program. -/
import Derived.Test.YtiegaefkahnfjaaGreatVM
namespace Go.Proofs.YtiegaefkahnfjaaGreat.V
open Go Go.RowKit
set_option linter.unusedSimpArgs false
set_option linter.unusedVariables false
section
variable {P : Program} {n : Nat} {w0 : World} {ds : List Deferred} {fr : Fr} {H : List Hp} {dst : Option Tmp} {ty : TypeId} {pos : String} {aft : Array Edge} {g : Option (Nat × Bool)}
variable {ops : Array Oper} {Q : Post} {rest : List Oper} {d : Nat}
end
end Go.Proofs.YtiegaefkahnfjaaGreat.V
