/- More of what is appended. -/
import Derived.Test.YtegijdjnjeneaaaDoorB3
set_option linter.unusedVariables false
set_option linter.unusedSimpArgs false
namespace Go.Proofs.YtegijdjnjeneaaaDoor.K
open Go
set_option maxHeartbeats 800000

theorem fixed_neg1_2 : fixed (-1) 2 = [b8 (-1), b8 (-1)] := by rw [fixed2]; rfl
theorem uvar_0 : uvar 0 = [0] := by rw [uvar_small (by decide)]; rfl
theorem u32_add1 {n : Nat} (h : n + 1 < 2 ^ 32) : IntKind.u32.wrap (1 + IntKind.u32.wrap (n : Int)) = ((n + 1 : Nat) : Int) := by rw [wrap_u32, wrap_u32]; omega
theorem u32_add0 {n : Nat} (h : n < 2 ^ 32) : IntKind.u32.wrap (0 + IntKind.u32.wrap (n : Int)) = ((n : Nat) : Int) := by rw [wrap_u32, wrap_u32]; omega
theorem AppendBool_does {w : World} {B : Nat} {v : Value} {l : List UInt8} (h : OB w B v l) (hB : B ≤ w.heap.size) (hl : l.length + 1 ≤ 140737488355328) (b : Bool) : Does X.P 31 #[v, .bool b] w fun r w' => Apd w B v l [if b = true then 1 else 0] r w' := by
  cases b
  all_goals
    refine Does.go (X := X) (l := [_, _]) Tryd.func31 rfl (by kernel_rfl) (by kernel_rfl) _ rfl ?_
    ((conv=>whnf);repeat(first|(refine mvT ?_;conv=>whnf)|(refine mvF ?_;conv=>whnf)|(refine cT (by rfl) ?_;conv=>whnf)|(refine cF (by rfl) ?_;conv=>whnf)))
  · intro b1 w1 hb ho hx
    ((conv=>whnf);repeat(first|(refine mvT ?_;conv=>whnf)|(refine mvF ?_;conv=>whnf)|(refine cT (by rfl) ?_;conv=>whnf)|(refine cF (by rfl) ?_;conv=>whnf)))
    refine app_apd (m := [0]) rfl rfl (h.e0 hx) (src_own ho rfl) rfl (by simp only [List.length_cons, List.length_nil]; omega) (Nat.le_trans hB hx.size) ?_
    intro r w2 hr
    ((conv=>whnf);repeat(first|(refine mvT ?_;conv=>whnf)|(refine mvF ?_;conv=>whnf)|(refine cT (by rfl) ?_;conv=>whnf)|(refine cF (by rfl) ?_;conv=>whnf)))
    exact Apd.pre hx hr
  · intro b1 w1 hb ho hx
    ((conv=>whnf);repeat(first|(refine mvT ?_;conv=>whnf)|(refine mvF ?_;conv=>whnf)|(refine cT (by rfl) ?_;conv=>whnf)|(refine cF (by rfl) ?_;conv=>whnf)))
    refine app_apd (m := [1]) rfl rfl (h.e0 hx) (src_own ho rfl) rfl (by simp only [List.length_cons, List.length_nil]; omega) (Nat.le_trans hB hx.size) ?_
    intro r w2 hr
    ((conv=>whnf);repeat(first|(refine mvT ?_;conv=>whnf)|(refine mvF ?_;conv=>whnf)|(refine cT (by rfl) ?_;conv=>whnf)|(refine cF (by rfl) ?_;conv=>whnf)))
    exact Apd.pre hx hr
theorem AppendInt8_does {w : World} {B : Nat} {v : Value} {l : List UInt8} (h : OB w B v l) (hB : B ≤ w.heap.size) (hl : l.length + 1 ≤ 140737488355328) (n : Int) : Does X.P 32 #[v, .int .i8 n] w fun r w' => Apd w B v l (fixed n 1) r w' := by
  refine Does.go (X := X) (l := [_, _]) Tryd.func32 rfl (by kernel_rfl) (by kernel_rfl) _ rfl ?_
  ((conv=>whnf);repeat(first|(refine mvT ?_;conv=>whnf)|(refine mvF ?_;conv=>whnf)|(refine cT (by rfl) ?_;conv=>whnf)|(refine cF (by rfl) ?_;conv=>whnf)))
  intro b w1 hb ho hx
  have ho : Own w1 b U8 ((fixed n 1).map bcell) := by
    rw [wrap_u8] at ho
    rw [fixed1]
    exact ho
  ((conv=>whnf);repeat(first|(refine mvT ?_;conv=>whnf)|(refine mvF ?_;conv=>whnf)|(refine cT (by rfl) ?_;conv=>whnf)|(refine cF (by rfl) ?_;conv=>whnf)))
  refine app_apd rfl rfl (h.e0 hx) (src_own ho rfl) rfl (by rw [fixed_length]; omega) (Nat.le_trans hB hx.size) ?_
  intro r w2 hr
  ((conv=>whnf);repeat(first|(refine mvT ?_;conv=>whnf)|(refine mvF ?_;conv=>whnf)|(refine cT (by rfl) ?_;conv=>whnf)|(refine cF (by rfl) ?_;conv=>whnf)))
  exact Apd.pre hx hr
theorem AppendBytes_does {w : World} {F : Nat → Prop} {B : Nat} {v x : Value} {l s : List UInt8} (h : OB w B v l) (hB : B ≤ w.heap.size) (hx : Bytes w F x s) (hF : ∀ j, j < w.heap.size → F j → v.ownBlock ≠ some j) (hl : l.length + (s.length + 4) ≤ 140737488355328) : Does X.P 34 #[v, x] w fun r w' => Apd w B v l (fixed s.length 4 ++ s) r w' := by
  obtain ⟨a, c, rfl, _⟩ := hx.view
  refine Does.go (X := X) (l := [_, _]) Tryd.func34 rfl (by kernel_rfl) (by kernel_rfl) _ rfl ?_
  ((conv=>whnf);repeat(first|(refine mvT ?_;conv=>whnf)|(refine mvF ?_;conv=>whnf)|(refine cT (by rfl) ?_;conv=>whnf)|(refine cF (by rfl) ?_;conv=>whnf)))
  refine Does.mono (AppendInt32_does h hB (by omega) (IntKind.i32.wrap (s.length : Int))) ?_;rintro r w1 h1;((conv=>whnf);repeat(first|(refine mvT ?_;conv=>whnf)|(refine mvF ?_;conv=>whnf)|(refine cT (by rfl) ?_;conv=>whnf)|(refine cF (by rfl) ?_;conv=>whnf)))
  refine app_apd rfl rfl h1.ob (hx.ext h1.ext hF).src rfl (by rw [List.length_append, fixed_length]; omega) (Nat.le_trans hB h1.size) ?_
  intro r2 w2 h2
  ((conv=>whnf);repeat(first|(refine mvT ?_;conv=>whnf)|(refine mvF ?_;conv=>whnf)|(refine cT (by rfl) ?_;conv=>whnf)|(refine cF (by rfl) ?_;conv=>whnf)))
  have h3 := h1.tr h2
  rw [fixed4_mod (n := IntKind.i32.wrap _) (m := s.length) (wrap_i32m _)] at h3
  exact h3
theorem AppendCompactBytes_does {w : World} {F : Nat → Prop} {B : Nat} {v x : Value} {l s : List UInt8} (h : OB w B v l) (hB : B ≤ w.heap.size) (hx : Bytes w F x s) (hF : ∀ j, j < w.heap.size → F j → v.ownBlock ≠ some j) (hs : s.length + 1 < 4294967296) (hl : l.length + (s.length + 10) ≤ 140737488355328) : Does X.P 33 #[v, x] w fun r w' => Apd w B v l (uvar (s.length + 1) ++ s) r w' := by
  obtain ⟨a, c, rfl, _⟩ := hx.view
  refine Does.go (X := X) (l := [_, _]) Tryd.func33 rfl (by kernel_rfl) (by kernel_rfl) _ rfl ?_
  ((conv=>whnf);repeat(first|(refine mvT ?_;conv=>whnf)|(refine mvF ?_;conv=>whnf)|(refine cT (by rfl) ?_;conv=>whnf)|(refine cF (by rfl) ?_;conv=>whnf)))
  rw [u32_add1 hs]
  refine Does.mono (AppendUvarint_does h hB (s.length + 1) hs (by omega)) ?_;rintro r w1 h1;((conv=>whnf);repeat(first|(refine mvT ?_;conv=>whnf)|(refine mvF ?_;conv=>whnf)|(refine cT (by rfl) ?_;conv=>whnf)|(refine cF (by rfl) ?_;conv=>whnf)))
  have hu : (uvar (s.length + 1)).length ≤ 10 := by rcases uvar_length (s.length + 1) with h | h <;> omega
  refine app_apd rfl rfl h1.ob (hx.ext h1.ext hF).src rfl (by rw [List.length_append]; omega) (Nat.le_trans hB h1.size) ?_
  intro r2 w2 h2
  ((conv=>whnf);repeat(first|(refine mvT ?_;conv=>whnf)|(refine mvF ?_;conv=>whnf)|(refine cT (by rfl) ?_;conv=>whnf)|(refine cF (by rfl) ?_;conv=>whnf)))
  exact h1.tr h2
end Go.Proofs.YtegijdjnjeneaaaDoor.K
