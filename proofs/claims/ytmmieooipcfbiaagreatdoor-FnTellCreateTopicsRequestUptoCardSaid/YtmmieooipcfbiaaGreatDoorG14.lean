/- Trees are handed on. -/
import Derived.Test.YtmmieooipcfbiaaGreatDoorG13
set_option linter.unusedVariables false
set_option linter.unusedSimpArgs false
namespace Go.Proofs.YtmmieooipcfbiaaGreatDoor.K
open Go
set_option maxHeartbeats 1600000

abbrev ImplTreeT : TypeId := 37
end Go.Proofs.YtmmieooipcfbiaaGreatDoor.K
