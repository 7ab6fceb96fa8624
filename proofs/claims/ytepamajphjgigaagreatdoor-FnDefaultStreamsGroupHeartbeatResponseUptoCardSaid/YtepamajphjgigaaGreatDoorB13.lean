
/- More of what is appended. -/
import Derived.Test.YtepamajphjgigaaGreatDoorB3
import Derived.Laws.Externs
set_option linter.unusedVariables false
set_option linter.unusedSimpArgs false
namespace Go.Proofs.YtepamajphjgigaaGreatDoor.K
open Go
set_option maxHeartbeats 800000

/-- The 64 bits of a number, as a float has them. -/
abbrev fb (n : Int) : Nat := (n % 18446744073709551616).toNat
end Go.Proofs.YtepamajphjgigaaGreatDoor.K
