/- Trees are handed on. -/
import Derived.Test.YtnoknmaoophaoaaGreatDoorG13
set_option linter.unusedVariables false
set_option linter.unusedSimpArgs false
namespace Go.Proofs.YtnoknmaoophaoaaGreatDoor.K
open Go
set_option maxHeartbeats 1600000

end Go.Proofs.YtnoknmaoophaoaaGreatDoor.K
