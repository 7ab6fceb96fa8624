/- Sorting the keys. -/
import Derived.Test.YtepamajphjgigaaGreatDoorB7
set_option linter.unusedVariables false
set_option linter.unusedSimpArgs false
namespace Go.Proofs.YtepamajphjgigaaGreatDoor.K
open Go
set_option maxHeartbeats 800000

theorem less_does {w : World} {pv blk n c : Nat} {G : Nat → Int} (hs : w.cell? ⟨pv, 0, none⟩ = some (.slice (some ⟨blk, 0, none⟩) n c)) (hc : ∀ t, t < n → w.cell? ⟨blk, 0 + t, none⟩ = some (.int .u32 (G t))) {i j : Nat} (hi : i < n) (hj : j < n) :
    Does X.P 77 #[.int .i64 i, .int .i64 j, .pointer (some ⟨pv, 0, none⟩)] w fun r w' => r = .bool (decide (G i < G j)) ∧ w' = w.drew := by
  have hs' : w.drew.cell? ⟨pv, 0, none⟩ = some (.slice (some ⟨blk, 0, none⟩) n c) := hs
  have hc' : ∀ t, t < n → w.drew.cell? ⟨blk, 0 + t, none⟩ = some (.int .u32 (G t)) := hc
  refine Does.go (X := X) (l := [_, _, _]) Tryz.func77 rfl (by kernel_rfl) (by kernel_rfl) _ rfl ?_
  ((conv=>whnf);repeat((first|refine mvT ?_|refine mvF ?_|refine yT ?_|refine yF ?_);conv=>whnf))
  refine VD.draw mixed (.q 0 (.q 1 (.q 2 (.q 3 (.q 4 (.q 5 (.q 6 (.q 7 (.q 8 (.eff 9 [] (.done))))))))))) (by kernel_rfl) ?_;((conv=>whnf);repeat((first|refine mvT ?_|refine mvF ?_|refine yT ?_|refine yF ?_);conv=>whnf))
  refine ldS (hs') ?_;((conv=>whnf);repeat((first|refine mvT ?_|refine mvF ?_|refine yT ?_|refine yF ?_);conv=>whnf))
  refine ⟨blk, 0, rfl, ⟨by omega, by omega⟩, ?_⟩
  refine ⟨_, ld (hc' i hi) (by simp), ?_⟩
  ((conv=>whnf);repeat((first|refine mvT ?_|refine mvF ?_|refine yT ?_|refine yF ?_);conv=>whnf))
  refine ldS (hs') ?_;((conv=>whnf);repeat((first|refine mvT ?_|refine mvF ?_|refine yT ?_|refine yF ?_);conv=>whnf))
  refine ⟨blk, 0, rfl, ⟨by omega, by omega⟩, ?_⟩
  refine ⟨_, ld (hc' j hj) (by simp), ?_⟩
  ((conv=>whnf);repeat((first|refine mvT ?_|refine mvF ?_|refine yT ?_|refine yF ?_);conv=>whnf))
  exact ⟨rfl, rfl⟩
end Go.Proofs.YtepamajphjgigaaGreatDoor.K
