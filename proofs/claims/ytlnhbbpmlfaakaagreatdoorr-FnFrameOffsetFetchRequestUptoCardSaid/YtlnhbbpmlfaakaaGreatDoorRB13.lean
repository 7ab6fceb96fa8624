/- More of what is appended. -/
import Derived.Test.YtlnhbbpmlfaakaaGreatDoorRB3
set_option linter.unusedVariables false
set_option linter.unusedSimpArgs false
namespace Go.Proofs.YtlnhbbpmlfaakaaGreatDoorR.K
open Go
set_option maxHeartbeats 800000

theorem fixed_neg1_2 : fixed (-1) 2 = [b8 (-1), b8 (-1)] := by rw [fixed2]; rfl
theorem uvar_0 : uvar 0 = [0] := by rw [uvar_small (by decide)]; rfl
theorem u32_add1 {n : Nat} (h : n + 1 < 2 ^ 32) : IntKind.u32.wrap (1 + IntKind.u32.wrap (n : Int)) = ((n + 1 : Nat) : Int) := by rw [wrap_u32, wrap_u32]; omega
theorem u32_add0 {n : Nat} (h : n < 2 ^ 32) : IntKind.u32.wrap (0 + IntKind.u32.wrap (n : Int)) = ((n : Nat) : Int) := by rw [wrap_u32, wrap_u32]; omega
theorem AppendBool_does {w : World} {B : Nat} {v : Value} {l : List UInt8} (h : OB w B v l) (hB : B ≤ w.heap.size) (hl : l.length + 1 ≤ 140737488355328) (b : Bool) : Does X.P 108 #[v, .bool b] w fun r w' => Apd w B v l [if b = true then 1 else 0] r w' := by
  cases b
  all_goals
    refine Does.go (X := X) (l := [_, _]) Tryz.func108 rfl (by kernel_rfl) (by kernel_rfl) _ rfl ?_
    ((conv=>whnf);repeat(first|(refine mvT ?_;conv=>whnf)|(refine mvF ?_;conv=>whnf)|(refine cT (by rfl) ?_;conv=>whnf)|(refine cF (by rfl) ?_;conv=>whnf)))
  · intro b1 w1 hb ho hx
    ((conv=>whnf);repeat(first|(refine mvT ?_;conv=>whnf)|(refine mvF ?_;conv=>whnf)|(refine cT (by rfl) ?_;conv=>whnf)|(refine cF (by rfl) ?_;conv=>whnf)))
    refine app_apd (m := [0]) rfl rfl (h.e0 hx) (src_own ho rfl) rfl (by simp only [List.length_cons, List.length_nil]; omega) (Nat.le_trans hB hx.size) ?_
    intro r w2 hr
    ((conv=>whnf);repeat(first|(refine mvT ?_;conv=>whnf)|(refine mvF ?_;conv=>whnf)|(refine cT (by rfl) ?_;conv=>whnf)|(refine cF (by rfl) ?_;conv=>whnf)))
    exact Apd.pre hx hr
  · intro b1 w1 hb ho hx
    ((conv=>whnf);repeat(first|(refine mvT ?_;conv=>whnf)|(refine mvF ?_;conv=>whnf)|(refine cT (by rfl) ?_;conv=>whnf)|(refine cF (by rfl) ?_;conv=>whnf)))
    refine app_apd (m := [1]) rfl rfl (h.e0 hx) (src_own ho rfl) rfl (by simp only [List.length_cons, List.length_nil]; omega) (Nat.le_trans hB hx.size) ?_
    intro r w2 hr
    ((conv=>whnf);repeat(first|(refine mvT ?_;conv=>whnf)|(refine mvF ?_;conv=>whnf)|(refine cT (by rfl) ?_;conv=>whnf)|(refine cF (by rfl) ?_;conv=>whnf)))
    exact Apd.pre hx hr
theorem AppendCompactString_does {w : World} {B : Nat} {v : Value} {l : List UInt8} (h : OB w B v l) (hB : B ≤ w.heap.size) (s : List UInt8) (hs : s.length + 1 < 4294967296) (hl : l.length + (s.length + 10) ≤ 140737488355328) : Does X.P 98 #[v, str s] w fun r w' => Apd w B v l (uvar (s.length + 1) ++ s) r w' := by
  refine Does.go (X := X) (l := [_, _]) Tryz.func98 rfl (by kernel_rfl) (by kernel_rfl) _ rfl ?_
  ((conv=>whnf);repeat(first|(refine mvT ?_;conv=>whnf)|(refine mvF ?_;conv=>whnf)|(refine cT (by rfl) ?_;conv=>whnf)|(refine cF (by rfl) ?_;conv=>whnf)))
  have e : IntKind.u32.wrap (1 + IntKind.u32.wrap ((ByteArray.size ⟨s.toArray⟩ : Nat) : Int)) = ((s.length + 1 : Nat) : Int) := u32_add1 hs
  rw [e]
  refine Does.mono (AppendUvarint_does h hB (s.length + 1) hs (by omega)) ?_;rintro r w1 h1;((conv=>whnf);repeat(first|(refine mvT ?_;conv=>whnf)|(refine mvF ?_;conv=>whnf)|(refine cT (by rfl) ?_;conv=>whnf)|(refine cF (by rfl) ?_;conv=>whnf)))
  have hu : (uvar (s.length + 1)).length ≤ 10 := by rcases uvar_length (s.length + 1) with h | h <;> omega
  refine app_apd rfl rfl h1.ob (src_str s) rfl (by rw [List.length_append]; omega) (Nat.le_trans hB h1.size) ?_
  intro r2 w2 h2
  ((conv=>whnf);repeat(first|(refine mvT ?_;conv=>whnf)|(refine mvF ?_;conv=>whnf)|(refine cT (by rfl) ?_;conv=>whnf)|(refine cF (by rfl) ?_;conv=>whnf)))
  exact h1.tr h2
theorem AppendNullableString_nil {w : World} {B : Nat} {v : Value} {l : List UInt8} (h : OB w B v l) (hB : B ≤ w.heap.size) (hl : l.length + 2 ≤ 140737488355328) : Does X.P 66 #[v, .pointer none] w fun r w' => Apd w B v l (fixed (-1) 2) r w' := by
  refine Does.go (X := X) (l := [_, _]) Tryz.func66 rfl (by kernel_rfl) (by kernel_rfl) _ rfl ?_
  ((conv=>whnf);repeat(first|(refine mvT ?_;conv=>whnf)|(refine mvF ?_;conv=>whnf)|(refine cT (by rfl) ?_;conv=>whnf)|(refine cF (by rfl) ?_;conv=>whnf)))
  refine Does.mono (AppendInt16_does h hB hl _) ?_;rintro r w1 h1;((conv=>whnf);repeat(first|(refine mvT ?_;conv=>whnf)|(refine mvF ?_;conv=>whnf)|(refine cT (by rfl) ?_;conv=>whnf)|(refine cF (by rfl) ?_;conv=>whnf)))
  exact h1
theorem AppendNullableString_some {w : World} {B : Nat} {v : Value} {l : List UInt8} (h : OB w B v l) (hB : B ≤ w.heap.size) {b o : Nat} {s : List UInt8} (hc : w.cell? ⟨b, o, none⟩ = some (str s)) (hl : l.length + (s.length + 2) ≤ 140737488355328) : Does X.P 66 #[v, .pointer (some ⟨b, o, none⟩)] w fun r w' => Apd w B v l (fixed s.length 2 ++ s) r w' := by
  refine Does.go (X := X) (l := [_, _]) Tryz.func66 rfl (by kernel_rfl) (by kernel_rfl) _ rfl ?_
  ((conv=>whnf);repeat(first|(refine mvT ?_;conv=>whnf)|(refine mvF ?_;conv=>whnf)|(refine cT (by rfl) ?_;conv=>whnf)|(refine cF (by rfl) ?_;conv=>whnf)))
  refine ldS (hc) ?_;((conv=>whnf);repeat(first|(refine mvT ?_;conv=>whnf)|(refine mvF ?_;conv=>whnf)|(refine cT (by rfl) ?_;conv=>whnf)|(refine cF (by rfl) ?_;conv=>whnf)))
  refine Does.mono (AppendString_does h hB s hl) ?_;rintro r w1 h1;((conv=>whnf);repeat(first|(refine mvT ?_;conv=>whnf)|(refine mvF ?_;conv=>whnf)|(refine cT (by rfl) ?_;conv=>whnf)|(refine cF (by rfl) ?_;conv=>whnf)))
  exact h1
theorem AppendCompactNullableString_nil {w : World} {B : Nat} {v : Value} {l : List UInt8} (h : OB w B v l) (hB : B ≤ w.heap.size) (hl : l.length + 5 ≤ 140737488355328) : Does X.P 106 #[v, .pointer none] w fun r w' => Apd w B v l [0] r w' := by
  refine Does.go (X := X) (l := [_, _]) Tryz.func106 rfl (by kernel_rfl) (by kernel_rfl) _ rfl ?_
  ((conv=>whnf);repeat(first|(refine mvT ?_;conv=>whnf)|(refine mvF ?_;conv=>whnf)|(refine cT (by rfl) ?_;conv=>whnf)|(refine cF (by rfl) ?_;conv=>whnf)))
  refine Does.mono (AppendUvarint_does h hB 0 (by omega) hl) ?_;rintro r w1 h1;((conv=>whnf);repeat(first|(refine mvT ?_;conv=>whnf)|(refine mvF ?_;conv=>whnf)|(refine cT (by rfl) ?_;conv=>whnf)|(refine cF (by rfl) ?_;conv=>whnf)))
  rw [uvar_0] at h1
  exact h1
theorem AppendCompactNullableString_some {w : World} {B : Nat} {v : Value} {l : List UInt8} (h : OB w B v l) (hB : B ≤ w.heap.size) {b o : Nat} {s : List UInt8} (hc : w.cell? ⟨b, o, none⟩ = some (str s)) (hs : s.length + 1 < 4294967296) (hl : l.length + (s.length + 10) ≤ 140737488355328) : Does X.P 106 #[v, .pointer (some ⟨b, o, none⟩)] w fun r w' => Apd w B v l (uvar (s.length + 1) ++ s) r w' := by
  refine Does.go (X := X) (l := [_, _]) Tryz.func106 rfl (by kernel_rfl) (by kernel_rfl) _ rfl ?_
  ((conv=>whnf);repeat(first|(refine mvT ?_;conv=>whnf)|(refine mvF ?_;conv=>whnf)|(refine cT (by rfl) ?_;conv=>whnf)|(refine cF (by rfl) ?_;conv=>whnf)))
  refine ldS (hc) ?_;((conv=>whnf);repeat(first|(refine mvT ?_;conv=>whnf)|(refine mvF ?_;conv=>whnf)|(refine cT (by rfl) ?_;conv=>whnf)|(refine cF (by rfl) ?_;conv=>whnf)))
  refine Does.mono (AppendCompactString_does h hB s hs hl) ?_;rintro r w1 h1;((conv=>whnf);repeat(first|(refine mvT ?_;conv=>whnf)|(refine mvF ?_;conv=>whnf)|(refine cT (by rfl) ?_;conv=>whnf)|(refine cF (by rfl) ?_;conv=>whnf)))
  exact h1
theorem AppendCompactArrayLen_does {w : World} {B : Nat} {v : Value} {l : List UInt8} (h : OB w B v l) (hB : B ≤ w.heap.size) (hl : l.length + 5 ≤ 140737488355328) (n : Nat) (hn : n + 1 < 4294967296) : Does X.P 101 #[v, .int .i64 n] w fun r w' => Apd w B v l (uvar (n + 1)) r w' := by
  refine Does.go (X := X) (l := [_, _]) Tryz.func101 rfl (by kernel_rfl) (by kernel_rfl) _ rfl ?_
  ((conv=>whnf);repeat(first|(refine mvT ?_;conv=>whnf)|(refine mvF ?_;conv=>whnf)|(refine cT (by rfl) ?_;conv=>whnf)|(refine cF (by rfl) ?_;conv=>whnf)))
  rw [u32_add1 hn]
  refine Does.mono (AppendUvarint_does h hB (n + 1) hn hl) ?_;rintro r w1 h1;((conv=>whnf);repeat(first|(refine mvT ?_;conv=>whnf)|(refine mvF ?_;conv=>whnf)|(refine cT (by rfl) ?_;conv=>whnf)|(refine cF (by rfl) ?_;conv=>whnf)))
  exact h1
theorem AppendNullableArrayLen_does {w : World} {B : Nat} {v : Value} {l : List UInt8} (h : OB w B v l) (hB : B ≤ w.heap.size) (hl : l.length + 4 ≤ 140737488355328) (n : Nat) (b : Bool) : Does X.P 100 #[v, .int .i64 n, .bool b] w fun r w' => Apd w B v l (if b = true then fixed (-1) 4 else fixed n 4) r w' := by
  cases b
  all_goals
    refine Does.go (X := X) (l := [_, _, _]) Tryz.func100 rfl (by kernel_rfl) (by kernel_rfl) _ rfl ?_
    ((conv=>whnf);repeat(first|(refine mvT ?_;conv=>whnf)|(refine mvF ?_;conv=>whnf)|(refine cT (by rfl) ?_;conv=>whnf)|(refine cF (by rfl) ?_;conv=>whnf)))
  · refine Does.mono (AppendInt32_does h hB hl _) ?_;rintro r w1 h1;((conv=>whnf);repeat(first|(refine mvT ?_;conv=>whnf)|(refine mvF ?_;conv=>whnf)|(refine cT (by rfl) ?_;conv=>whnf)|(refine cF (by rfl) ?_;conv=>whnf)))
    rw [fixed4_mod (n := IntKind.i32.wrap n) (m := n) (wrap_i32m _)] at h1
    exact h1
  · refine Does.mono (AppendInt32_does h hB hl _) ?_;rintro r w1 h1;((conv=>whnf);repeat(first|(refine mvT ?_;conv=>whnf)|(refine mvF ?_;conv=>whnf)|(refine cT (by rfl) ?_;conv=>whnf)|(refine cF (by rfl) ?_;conv=>whnf)))
    exact h1
theorem AppendCompactNullableArrayLen_does {w : World} {B : Nat} {v : Value} {l : List UInt8} (h : OB w B v l) (hB : B ≤ w.heap.size) (hl : l.length + 5 ≤ 140737488355328) (n : Nat) (hn : n + 1 < 4294967296) (b : Bool) : Does X.P 99 #[v, .int .i64 n, .bool b] w fun r w' => Apd w B v l (if b = true then [0] else uvar (n + 1)) r w' := by
  cases b
  all_goals
    refine Does.go (X := X) (l := [_, _, _]) Tryz.func99 rfl (by kernel_rfl) (by kernel_rfl) _ rfl ?_
    ((conv=>whnf);repeat(first|(refine mvT ?_;conv=>whnf)|(refine mvF ?_;conv=>whnf)|(refine cT (by rfl) ?_;conv=>whnf)|(refine cF (by rfl) ?_;conv=>whnf)))
  · rw [u32_add1 hn]
    refine Does.mono (AppendUvarint_does h hB (n + 1) hn hl) ?_;rintro r w1 h1;((conv=>whnf);repeat(first|(refine mvT ?_;conv=>whnf)|(refine mvF ?_;conv=>whnf)|(refine cT (by rfl) ?_;conv=>whnf)|(refine cF (by rfl) ?_;conv=>whnf)))
    exact h1
  · refine Does.mono (AppendUvarint_does h hB 0 (by omega) hl) ?_;rintro r w1 h1;((conv=>whnf);repeat(first|(refine mvT ?_;conv=>whnf)|(refine mvF ?_;conv=>whnf)|(refine cT (by rfl) ?_;conv=>whnf)|(refine cF (by rfl) ?_;conv=>whnf)))
    rw [uvar_0] at h1
    exact h1
end Go.Proofs.YtlnhbbpmlfaakaaGreatDoorR.K
