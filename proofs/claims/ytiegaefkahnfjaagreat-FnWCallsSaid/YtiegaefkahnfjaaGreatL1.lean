/- The walk of the splitting of a text. -/
import Derived.Test.YtiegaefkahnfjaaGreatL0
import Derived.Test.YtiegaefkahnfjaaGreatV4
namespace Go.Proofs.YtiegaefkahnfjaaGreat
open Go Go.RowKit V L0
set_option linter.unusedSimpArgs false
set_option linter.unusedVariables false
set_option maxRecDepth 10000
namespace L1
end L1
end Go.Proofs.YtiegaefkahnfjaaGreat
