/- More of what is appended. -/
import Derived.Test.YtjepglidlblmlaaDoorB3
import Derived.Laws.Externs
set_option linter.unusedVariables false
set_option linter.unusedSimpArgs false
namespace Go.Proofs.YtjepglidlblmlaaDoor.K
open Go
set_option maxHeartbeats 800000

theorem fixed_neg1_2 : fixed (-1) 2 = [b8 (-1), b8 (-1)] := by rw [fixed2]; rfl
theorem uvar_0 : uvar 0 = [0] := by rw [uvar_small (by decide)]; rfl
theorem u32_add1 {n : Nat} (h : n + 1 < 2 ^ 32) : IntKind.u32.wrap (1 + IntKind.u32.wrap (n : Int)) = ((n + 1 : Nat) : Int) := by rw [wrap_u32, wrap_u32]; omega
theorem u32_add0 {n : Nat} (h : n < 2 ^ 32) : IntKind.u32.wrap (0 + IntKind.u32.wrap (n : Int)) = ((n : Nat) : Int) := by rw [wrap_u32, wrap_u32]; omega
/-- The 64 bits of a number, as a float has them. -/
abbrev fb (n : Int) : Nat := (n % 18446744073709551616).toNat
theorem fb_lt (n : Int) : ((fb n : Nat) : Int) = n % 18446744073709551616 := by unfold fb; omega
end Go.Proofs.YtjepglidlblmlaaDoor.K
