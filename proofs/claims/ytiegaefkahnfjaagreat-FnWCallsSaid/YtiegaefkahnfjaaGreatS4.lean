/- Walks of a step: its names. -/
import Derived.Test.YtiegaefkahnfjaaGreatS2
import Derived.Test.YtiegaefkahnfjaaGreatL2
namespace Go.Proofs.YtiegaefkahnfjaaGreat
open Go Go.RowKit V S0 S1 S2 L2
set_option linter.unusedSimpArgs false
set_option linter.unusedVariables false
set_option maxRecDepth 10000
namespace S4
end S4
end Go.Proofs.YtiegaefkahnfjaaGreat
