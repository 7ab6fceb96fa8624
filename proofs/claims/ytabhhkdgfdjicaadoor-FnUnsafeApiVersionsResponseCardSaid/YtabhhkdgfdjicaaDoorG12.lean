/- What fits of a part. -/
import Derived.Test.YtabhhkdgfdjicaaDoorG11
set_option linter.unusedVariables false
set_option linter.unusedSimpArgs false
namespace Go.Proofs.YtabhhkdgfdjicaaDoor.K
open Go
set_option maxHeartbeats 1600000

end Go.Proofs.YtabhhkdgfdjicaaDoor.K
