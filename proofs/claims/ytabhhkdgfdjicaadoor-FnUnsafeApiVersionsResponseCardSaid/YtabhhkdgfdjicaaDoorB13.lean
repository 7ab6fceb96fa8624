/- More of what is appended. -/
import Derived.Test.YtabhhkdgfdjicaaDoorB3
set_option linter.unusedVariables false
set_option linter.unusedSimpArgs false
namespace Go.Proofs.YtabhhkdgfdjicaaDoor.K
open Go
set_option maxHeartbeats 800000

theorem fixed_neg1_2 : fixed (-1) 2 = [b8 (-1), b8 (-1)] := by rw [fixed2]; rfl
theorem uvar_0 : uvar 0 = [0] := by rw [uvar_small (by decide)]; rfl
theorem u32_add1 {n : Nat} (h : n + 1 < 2 ^ 32) : IntKind.u32.wrap (1 + IntKind.u32.wrap (n : Int)) = ((n + 1 : Nat) : Int) := by rw [wrap_u32, wrap_u32]; omega
theorem u32_add0 {n : Nat} (h : n < 2 ^ 32) : IntKind.u32.wrap (0 + IntKind.u32.wrap (n : Int)) = ((n : Nat) : Int) := by rw [wrap_u32, wrap_u32]; omega
end Go.Proofs.YtabhhkdgfdjicaaDoor.K
