/- Walks of the text search and of the check of a label. -/
import Derived.Test.YtclafiglpcjhdaaGreatP0
import Derived.Test.YtclafiglpcjhdaaGreatV3
import Derived.Test.YtclafiglpcjhdaaGreatProg
namespace Go.Proofs.YtclafiglpcjhdaaGreat
open Go Go.RowKit V
set_option linter.unusedSimpArgs false
set_option linter.unusedVariables false
set_option maxRecDepth 10000
namespace L0

end L0
end Go.Proofs.YtclafiglpcjhdaaGreat
