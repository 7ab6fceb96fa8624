/- What the field of a number says, in the program. -/
import Derived.Test.YtabhhkdgfdjicaaGreatDoorG3
set_option linter.unusedVariables false
set_option linter.unusedSimpArgs false
namespace Go.Proofs.YtabhhkdgfdjicaaGreatDoor.K
open Go
set_option maxHeartbeats 400000

end Go.Proofs.YtabhhkdgfdjicaaGreatDoor.K
