/- More of what is appended. -/
import Derived.Test.YtnoknmaoophaoaaGreatDoorB3
set_option linter.unusedVariables false
set_option linter.unusedSimpArgs false
namespace Go.Proofs.YtnoknmaoophaoaaGreatDoor.K
open Go
set_option maxHeartbeats 800000

theorem fixed_neg1_2 : fixed (-1) 2 = [b8 (-1), b8 (-1)] := by rw [fixed2]; rfl
theorem uvar_0 : uvar 0 = [0] := by rw [uvar_small (by decide)]; rfl
theorem u32_add1 {n : Nat} (h : n + 1 < 2 ^ 32) : IntKind.u32.wrap (1 + IntKind.u32.wrap (n : Int)) = ((n + 1 : Nat) : Int) := by rw [wrap_u32, wrap_u32]; omega
theorem u32_add0 {n : Nat} (h : n < 2 ^ 32) : IntKind.u32.wrap (0 + IntKind.u32.wrap (n : Int)) = ((n : Nat) : Int) := by rw [wrap_u32, wrap_u32]; omega
theorem AppendNullableString_nil {w : World} {B : Nat} {v : Value} {l : List UInt8} (h : OB w B v l) (hB : B ≤ w.heap.size) (hl : l.length + 2 ≤ 140737488355328) : Does X.P 47 #[v, .pointer none] w fun r w' => Apd w B v l (fixed (-1) 2) r w' := by
  refine Does.go (X := X) (l := [_, _]) Tryz.func47 rfl (by kernel_rfl) (by kernel_rfl) _ rfl ?_
  ((conv=>whnf);repeat(first|(refine mvT ?_;conv=>whnf)|(refine mvF ?_;conv=>whnf)|(refine cT (by rfl) ?_;conv=>whnf)|(refine cF (by rfl) ?_;conv=>whnf)))
  refine Does.mono (AppendInt16_does h hB hl _) ?_;rintro r w1 h1;((conv=>whnf);repeat(first|(refine mvT ?_;conv=>whnf)|(refine mvF ?_;conv=>whnf)|(refine cT (by rfl) ?_;conv=>whnf)|(refine cF (by rfl) ?_;conv=>whnf)))
  exact h1
theorem AppendNullableString_some {w : World} {B : Nat} {v : Value} {l : List UInt8} (h : OB w B v l) (hB : B ≤ w.heap.size) {b o : Nat} {s : List UInt8} (hc : w.cell? ⟨b, o, none⟩ = some (str s)) (hl : l.length + (s.length + 2) ≤ 140737488355328) : Does X.P 47 #[v, .pointer (some ⟨b, o, none⟩)] w fun r w' => Apd w B v l (fixed s.length 2 ++ s) r w' := by
  refine Does.go (X := X) (l := [_, _]) Tryz.func47 rfl (by kernel_rfl) (by kernel_rfl) _ rfl ?_
  ((conv=>whnf);repeat(first|(refine mvT ?_;conv=>whnf)|(refine mvF ?_;conv=>whnf)|(refine cT (by rfl) ?_;conv=>whnf)|(refine cF (by rfl) ?_;conv=>whnf)))
  refine ldS (hc) ?_;((conv=>whnf);repeat(first|(refine mvT ?_;conv=>whnf)|(refine mvF ?_;conv=>whnf)|(refine cT (by rfl) ?_;conv=>whnf)|(refine cF (by rfl) ?_;conv=>whnf)))
  refine Does.mono (AppendString_does h hB s hl) ?_;rintro r w1 h1;((conv=>whnf);repeat(first|(refine mvT ?_;conv=>whnf)|(refine mvF ?_;conv=>whnf)|(refine cT (by rfl) ?_;conv=>whnf)|(refine cF (by rfl) ?_;conv=>whnf)))
  exact h1
end Go.Proofs.YtnoknmaoophaoaaGreatDoor.K
