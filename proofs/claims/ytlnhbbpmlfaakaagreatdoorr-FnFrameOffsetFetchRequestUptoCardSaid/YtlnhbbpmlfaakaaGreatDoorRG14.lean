/- Trees are handed on. -/
import Derived.Test.YtlnhbbpmlfaakaaGreatDoorRG13
set_option linter.unusedVariables false
set_option linter.unusedSimpArgs false
namespace Go.Proofs.YtlnhbbpmlfaakaaGreatDoorR.K
open Go
set_option maxHeartbeats 1600000

end Go.Proofs.YtlnhbbpmlfaakaaGreatDoorR.K
