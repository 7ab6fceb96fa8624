/- What the field of a number says, in the program. -/
import Derived.Test.YtepamajphjgigaaGreatDoorG3
set_option linter.unusedVariables false
set_option linter.unusedSimpArgs false
namespace Go.Proofs.YtepamajphjgigaaGreatDoor.K
open Go
set_option maxHeartbeats 400000

end Go.Proofs.YtepamajphjgigaaGreatDoor.K
