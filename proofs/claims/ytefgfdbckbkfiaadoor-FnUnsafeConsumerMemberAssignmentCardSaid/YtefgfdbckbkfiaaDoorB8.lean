
/- Sorting the keys. -/
import Derived.Test.YtefgfdbckbkfiaaDoorB7
set_option linter.unusedVariables false
set_option linter.unusedSimpArgs false
namespace Go.Proofs.YtefgfdbckbkfiaaDoor.K
open Go
set_option maxHeartbeats 800000

end Go.Proofs.YtefgfdbckbkfiaaDoor.K
