/- What the field of a number says, in the program. -/
import Derived.Test.YtjepglidlblmlaaDoorG3
set_option linter.unusedVariables false
set_option linter.unusedSimpArgs false
namespace Go.Proofs.YtjepglidlblmlaaDoor.K
open Go
set_option maxHeartbeats 400000

end Go.Proofs.YtjepglidlblmlaaDoor.K
