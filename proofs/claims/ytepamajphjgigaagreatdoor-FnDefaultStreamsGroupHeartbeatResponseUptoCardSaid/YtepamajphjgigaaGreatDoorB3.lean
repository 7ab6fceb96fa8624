
/- Appending numbers in groups of seven bits. -/
import Derived.Test.YtepamajphjgigaaGreatDoorB2
set_option linter.unusedVariables false
set_option linter.unusedSimpArgs false
namespace Go.Proofs.YtepamajphjgigaaGreatDoor.K
open Go
set_option maxHeartbeats 800000

theorem uvar_big {n : Nat} (h : 127 < n) : uvar n = b8 ((n % 128 + 128 : Nat) : Int) :: uvar (n / 128) := by
  rw [uvar, if_pos h]
  rfl
theorem uvar_small {n : Nat} (h : ¬ 127 < n) : uvar n = [b8 (n : Int)] := by rw [uvar, if_neg h]
end Go.Proofs.YtepamajphjgigaaGreatDoor.K
