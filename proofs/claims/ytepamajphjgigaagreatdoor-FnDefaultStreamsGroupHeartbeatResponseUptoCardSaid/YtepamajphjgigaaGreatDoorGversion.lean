/- Versions. -/
import Derived.Test.YtepamajphjgigaaGreatDoorG15
set_option linter.unusedVariables false
set_option linter.unusedSimpArgs false
namespace Go.Proofs.YtepamajphjgigaaGreatDoor.K
open Go
set_option maxHeartbeats 1600000

theorem version_does (n : Nat) (most : Nat) (hn : n < 256) (hm : most < 32768) (w : World) : Does X.P 7 #[.int .u8 n, .int .i64 most] w fun r w' => r = .int .i64 ((n % (most + 1) : Nat) : Int) ∧ w' = w := by
  have e1 : IntKind.i64.wrap (n : Int) = (n : Int) := i64_of (by omega) (by omega)
  have e2 : IntKind.i64.wrap ((most : Int) + 1) = ((most + 1 : Nat) : Int) := i64_of (by omega) (by omega)
  refine Does.go (X := X) (l := [_, _]) Tryz.func7 rfl (by kernel_rfl) (by kernel_rfl) _ rfl ?_
  ((conv=>whnf);repeat((first|refine mvT ?_|refine mvF ?_|refine yT ?_|refine yF ?_);conv=>whnf))
  refine ⟨rfl, by rw [e2]; omega, ?_⟩
  ((conv=>whnf);repeat((first|refine mvT ?_|refine mvF ?_|refine yT ?_|refine yF ?_);conv=>whnf))
  refine ⟨?_, rfl⟩
  rw [e1, e2]
  rfl
end Go.Proofs.YtepamajphjgigaaGreatDoor.K
