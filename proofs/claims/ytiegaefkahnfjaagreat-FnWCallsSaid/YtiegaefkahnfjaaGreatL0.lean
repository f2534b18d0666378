/- Walks of the text search and of the check of a label. -/
import Derived.Test.YtiegaefkahnfjaaGreatP0
import Derived.Test.YtiegaefkahnfjaaGreatV3
import Derived.Test.YtiegaefkahnfjaaGreatProg
namespace Go.Proofs.YtiegaefkahnfjaaGreat
open Go Go.RowKit V
set_option linter.unusedSimpArgs false
set_option linter.unusedVariables false
set_option maxRecDepth 10000
namespace L0
end L0
end Go.Proofs.YtiegaefkahnfjaaGreat
