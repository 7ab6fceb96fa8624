/- What the field of a number says, in the program. -/
import Derived.Test.YtefgfdbckbkfiaaDoorG3
set_option linter.unusedVariables false
set_option linter.unusedSimpArgs false
namespace Go.Proofs.YtefgfdbckbkfiaaDoor.K
open Go
set_option maxHeartbeats 400000

end Go.Proofs.YtefgfdbckbkfiaaDoor.K
