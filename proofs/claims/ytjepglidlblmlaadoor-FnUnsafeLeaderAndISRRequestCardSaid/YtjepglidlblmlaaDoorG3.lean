
/- Small functions over fields and trees. -/
import Derived.Test.YtjepglidlblmlaaDoorG2
set_option linter.unusedVariables false
set_option linter.unusedSimpArgs false
namespace Go.Proofs.YtjepglidlblmlaaDoor.K
open Go
set_option maxHeartbeats 400000

theorem hasF_eq (kind fr to nul tag df of : Int) (sub : List Fd) (v : Int) : hasF (.mk kind fr to nul tag df of sub) v = (decide (fr ≤ v) && (decide (to < 0) || decide (v ≤ to))) := rfl
theorem nullF_eq (kind fr to nul tag df of : Int) (sub : List Fd) (v n : Int) (s : List UInt8) (nl : Bool) (l : List T) (u : List Tg) : nullF (.mk kind fr to nul tag df of sub) v (.mk n s nl l u) = (nl && (decide (0 ≤ nul) && decide (nul ≤ v))) := rfl
end Go.Proofs.YtjepglidlblmlaaDoor.K
