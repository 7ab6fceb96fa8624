/- What fits of a part. -/
import Derived.Test.YtmmieooipcfbiabDoorRG11
set_option linter.unusedVariables false
set_option linter.unusedSimpArgs false
namespace Go.Proofs.YtmmieooipcfbiabDoorR.K
open Go
set_option maxHeartbeats 1600000

end Go.Proofs.YtmmieooipcfbiabDoorR.K
