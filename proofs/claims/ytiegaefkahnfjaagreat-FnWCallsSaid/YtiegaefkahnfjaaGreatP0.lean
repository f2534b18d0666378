/- Plain words on lists of bytes: searching, labels. No program. -/
import Derived.Test.YtiegaefkahnfjaaGreatV3
namespace Go.Proofs.YtiegaefkahnfjaaGreat
open Go Go.RowKit V
/-! ### Searching -/
/-! ### Labels of hosts -/
/-! ### Splitting -/
/-! ### Characters -/
end Go.Proofs.YtiegaefkahnfjaaGreat
