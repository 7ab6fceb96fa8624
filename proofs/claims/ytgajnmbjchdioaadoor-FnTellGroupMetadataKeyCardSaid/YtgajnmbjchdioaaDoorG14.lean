/- Trees are handed on. -/
import Derived.Test.YtgajnmbjchdioaaDoorG13
set_option linter.unusedVariables false
set_option linter.unusedSimpArgs false
namespace Go.Proofs.YtgajnmbjchdioaaDoor.K
open Go
set_option maxHeartbeats 1600000

abbrev ImplTreeT : TypeId := 35
end Go.Proofs.YtgajnmbjchdioaaDoor.K
