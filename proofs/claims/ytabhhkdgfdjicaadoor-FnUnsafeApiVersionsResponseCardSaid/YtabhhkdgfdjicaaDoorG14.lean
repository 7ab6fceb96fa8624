/- Trees are handed on. -/
import Derived.Test.YtabhhkdgfdjicaaDoorG13
set_option linter.unusedVariables false
set_option linter.unusedSimpArgs false
namespace Go.Proofs.YtabhhkdgfdjicaaDoor.K
open Go
set_option maxHeartbeats 1600000

abbrev ImplTreeT : TypeId := 27
end Go.Proofs.YtabhhkdgfdjicaaDoor.K
