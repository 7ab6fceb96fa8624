/- Trees are handed on. -/
import Derived.Test.YtmhodiipnljemaaGreatDoorG13
set_option linter.unusedVariables false
set_option linter.unusedSimpArgs false
namespace Go.Proofs.YtmhodiipnljemaaGreatDoor.K
open Go
set_option maxHeartbeats 1600000

end Go.Proofs.YtmhodiipnljemaaGreatDoor.K
