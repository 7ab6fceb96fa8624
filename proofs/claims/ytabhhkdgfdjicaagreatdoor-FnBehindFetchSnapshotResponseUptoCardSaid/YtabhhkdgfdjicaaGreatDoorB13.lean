/- More of what is appended. -/
import Derived.Test.YtabhhkdgfdjicaaGreatDoorB3
set_option linter.unusedVariables false
set_option linter.unusedSimpArgs false
namespace Go.Proofs.YtabhhkdgfdjicaaGreatDoor.K
open Go
set_option maxHeartbeats 800000

theorem fixed_neg1_2 : fixed (-1) 2 = [b8 (-1), b8 (-1)] := by rw [fixed2]; rfl
theorem uvar_0 : uvar 0 = [0] := by rw [uvar_small (by decide)]; rfl
theorem u32_add1 {n : Nat} (h : n + 1 < 2 ^ 32) : IntKind.u32.wrap (1 + IntKind.u32.wrap (n : Int)) = ((n + 1 : Nat) : Int) := by rw [wrap_u32, wrap_u32]; omega
theorem u32_add0 {n : Nat} (h : n < 2 ^ 32) : IntKind.u32.wrap (0 + IntKind.u32.wrap (n : Int)) = ((n : Nat) : Int) := by rw [wrap_u32, wrap_u32]; omega
theorem AppendBool_does {w : World} {B : Nat} {v : Value} {l : List UInt8} (h : OB w B v l) (hB : B ≤ w.heap.size) (hl : l.length + 1 ≤ 140737488355328) (b : Bool) : Does X.P 166 #[v, .bool b] w fun r w' => Apd w B v l [if b = true then 1 else 0] r w' := by
  cases b
  all_goals
    refine Does.go (X := X) (l := [_, _]) Tryz.func166 rfl (by kernel_rfl) (by kernel_rfl) _ rfl ?_
    ((conv=>whnf);repeat(first|(refine mvT ?_;conv=>whnf)|(refine mvF ?_;conv=>whnf)|(refine cT (by rfl) ?_;conv=>whnf)|(refine cF (by rfl) ?_;conv=>whnf)))
  · intro b1 w1 hb ho hx
    ((conv=>whnf);repeat(first|(refine mvT ?_;conv=>whnf)|(refine mvF ?_;conv=>whnf)|(refine cT (by rfl) ?_;conv=>whnf)|(refine cF (by rfl) ?_;conv=>whnf)))
    refine app_apd (m := [0]) rfl rfl (h.e0 hx) (src_own ho rfl) rfl (by simp only [List.length_cons, List.length_nil]; omega) (Nat.le_trans hB hx.size) ?_
    intro r w2 hr
    ((conv=>whnf);repeat(first|(refine mvT ?_;conv=>whnf)|(refine mvF ?_;conv=>whnf)|(refine cT (by rfl) ?_;conv=>whnf)|(refine cF (by rfl) ?_;conv=>whnf)))
    exact Apd.pre hx hr
  · intro b1 w1 hb ho hx
    ((conv=>whnf);repeat(first|(refine mvT ?_;conv=>whnf)|(refine mvF ?_;conv=>whnf)|(refine cT (by rfl) ?_;conv=>whnf)|(refine cF (by rfl) ?_;conv=>whnf)))
    refine app_apd (m := [1]) rfl rfl (h.e0 hx) (src_own ho rfl) rfl (by simp only [List.length_cons, List.length_nil]; omega) (Nat.le_trans hB hx.size) ?_
    intro r w2 hr
    ((conv=>whnf);repeat(first|(refine mvT ?_;conv=>whnf)|(refine mvF ?_;conv=>whnf)|(refine cT (by rfl) ?_;conv=>whnf)|(refine cF (by rfl) ?_;conv=>whnf)))
    exact Apd.pre hx hr
theorem appendUint64_does {w : World} {B : Nat} {v : Value} {l : List UInt8} (h : OB w B v l) (hB : B ≤ w.heap.size) (hl : l.length + 8 ≤ 140737488355328) (n : Int) : Does X.P 96 #[v, .int .u64 n] w fun r w' => Apd w B v l (fixed n 8) r w' := by
  refine Does.go (X := X) (l := [_, _]) Tryz.func96 rfl (by kernel_rfl) (by kernel_rfl) _ rfl ?_
  ((conv=>whnf);repeat(first|(refine mvT ?_;conv=>whnf)|(refine mvF ?_;conv=>whnf)|(refine cT (by rfl) ?_;conv=>whnf)|(refine cF (by rfl) ?_;conv=>whnf)))
  refine ⟨by decide, ?_⟩
  ((conv=>whnf);repeat(first|(refine mvT ?_;conv=>whnf)|(refine mvF ?_;conv=>whnf)|(refine cT (by rfl) ?_;conv=>whnf)|(refine cF (by rfl) ?_;conv=>whnf)))
  refine ⟨by decide, ?_⟩
  ((conv=>whnf);repeat(first|(refine mvT ?_;conv=>whnf)|(refine mvF ?_;conv=>whnf)|(refine cT (by rfl) ?_;conv=>whnf)|(refine cF (by rfl) ?_;conv=>whnf)))
  refine ⟨by decide, ?_⟩
  ((conv=>whnf);repeat(first|(refine mvT ?_;conv=>whnf)|(refine mvF ?_;conv=>whnf)|(refine cT (by rfl) ?_;conv=>whnf)|(refine cF (by rfl) ?_;conv=>whnf)))
  refine ⟨by decide, ?_⟩
  ((conv=>whnf);repeat(first|(refine mvT ?_;conv=>whnf)|(refine mvF ?_;conv=>whnf)|(refine cT (by rfl) ?_;conv=>whnf)|(refine cF (by rfl) ?_;conv=>whnf)))
  refine ⟨by decide, ?_⟩
  ((conv=>whnf);repeat(first|(refine mvT ?_;conv=>whnf)|(refine mvF ?_;conv=>whnf)|(refine cT (by rfl) ?_;conv=>whnf)|(refine cF (by rfl) ?_;conv=>whnf)))
  refine ⟨by decide, ?_⟩
  ((conv=>whnf);repeat(first|(refine mvT ?_;conv=>whnf)|(refine mvF ?_;conv=>whnf)|(refine cT (by rfl) ?_;conv=>whnf)|(refine cF (by rfl) ?_;conv=>whnf)))
  refine ⟨by decide, ?_⟩
  ((conv=>whnf);repeat(first|(refine mvT ?_;conv=>whnf)|(refine mvF ?_;conv=>whnf)|(refine cT (by rfl) ?_;conv=>whnf)|(refine cF (by rfl) ?_;conv=>whnf)))
  intro b w1 hb ho hx
  have ho : Own w1 b U8 ((fixed n 8).map bcell) := by
    rw [wrap_u8, wrap_u8, wrap_u8, wrap_u8, wrap_u8, wrap_u8, wrap_u8, wrap_u8] at ho
    rw [fixed8]
    rw [show (n.fdiv (2 ^ min (8 : Int).toNat IntKind.u64.bits)) = n / 256 from fd n 8, show (n.fdiv (2 ^ min (16 : Int).toNat IntKind.u64.bits)) = n / 65536 from fd n 16, show (n.fdiv (2 ^ min (24 : Int).toNat IntKind.u64.bits)) = n / 16777216 from fd n 24, show (n.fdiv (2 ^ min (32 : Int).toNat IntKind.u64.bits)) = n / 4294967296 from fd n 32,
      show (n.fdiv (2 ^ min (40 : Int).toNat IntKind.u64.bits)) = n / 1099511627776 from fd n 40, show (n.fdiv (2 ^ min (48 : Int).toNat IntKind.u64.bits)) = n / 281474976710656 from fd n 48, show (n.fdiv (2 ^ min (56 : Int).toNat IntKind.u64.bits)) = n / 72057594037927936 from fd n 56] at ho
    exact ho
  ((conv=>whnf);repeat(first|(refine mvT ?_;conv=>whnf)|(refine mvF ?_;conv=>whnf)|(refine cT (by rfl) ?_;conv=>whnf)|(refine cF (by rfl) ?_;conv=>whnf)))
  refine app_apd rfl rfl (h.e0 hx) (src_own ho rfl) rfl (by rw [fixed_length]; omega) (Nat.le_trans hB hx.size) ?_
  intro r w2 hr
  ((conv=>whnf);repeat(first|(refine mvT ?_;conv=>whnf)|(refine mvF ?_;conv=>whnf)|(refine cT (by rfl) ?_;conv=>whnf)|(refine cF (by rfl) ?_;conv=>whnf)))
  exact Apd.pre hx hr
theorem AppendInt64_does {w : World} {B : Nat} {v : Value} {l : List UInt8} (h : OB w B v l) (hB : B ≤ w.heap.size) (hl : l.length + 8 ≤ 140737488355328) (n : Int) : Does X.P 51 #[v, .int .i64 n] w fun r w' => Apd w B v l (fixed n 8) r w' := by
  refine Does.go (X := X) (l := [_, _]) Tryz.func51 rfl (by kernel_rfl) (by kernel_rfl) _ rfl ?_
  ((conv=>whnf);repeat(first|(refine mvT ?_;conv=>whnf)|(refine mvF ?_;conv=>whnf)|(refine cT (by rfl) ?_;conv=>whnf)|(refine cF (by rfl) ?_;conv=>whnf)))
  refine Does.mono (appendUint64_does h hB hl _) ?_;rintro r w1 h1;((conv=>whnf);repeat(first|(refine mvT ?_;conv=>whnf)|(refine mvF ?_;conv=>whnf)|(refine cT (by rfl) ?_;conv=>whnf)|(refine cF (by rfl) ?_;conv=>whnf)))
  rw [fixed8_mod (n := IntKind.u64.wrap n) (m := n) (by rw [wrap_u64]; omega)] at h1
  exact h1
theorem AppendCompactString_does {w : World} {B : Nat} {v : Value} {l : List UInt8} (h : OB w B v l) (hB : B ≤ w.heap.size) (s : List UInt8) (hs : s.length + 1 < 4294967296) (hl : l.length + (s.length + 10) ≤ 140737488355328) : Does X.P 49 #[v, str s] w fun r w' => Apd w B v l (uvar (s.length + 1) ++ s) r w' := by
  refine Does.go (X := X) (l := [_, _]) Tryz.func49 rfl (by kernel_rfl) (by kernel_rfl) _ rfl ?_
  ((conv=>whnf);repeat(first|(refine mvT ?_;conv=>whnf)|(refine mvF ?_;conv=>whnf)|(refine cT (by rfl) ?_;conv=>whnf)|(refine cF (by rfl) ?_;conv=>whnf)))
  have e : IntKind.u32.wrap (1 + IntKind.u32.wrap ((ByteArray.size ⟨s.toArray⟩ : Nat) : Int)) = ((s.length + 1 : Nat) : Int) := u32_add1 hs
  rw [e]
  refine Does.mono (AppendUvarint_does h hB (s.length + 1) hs (by omega)) ?_;rintro r w1 h1;((conv=>whnf);repeat(first|(refine mvT ?_;conv=>whnf)|(refine mvF ?_;conv=>whnf)|(refine cT (by rfl) ?_;conv=>whnf)|(refine cF (by rfl) ?_;conv=>whnf)))
  have hu : (uvar (s.length + 1)).length ≤ 10 := by rcases uvar_length (s.length + 1) with h | h <;> omega
  refine app_apd rfl rfl h1.ob (src_str s) rfl (by rw [List.length_append]; omega) (Nat.le_trans hB h1.size) ?_
  intro r2 w2 h2
  ((conv=>whnf);repeat(first|(refine mvT ?_;conv=>whnf)|(refine mvF ?_;conv=>whnf)|(refine cT (by rfl) ?_;conv=>whnf)|(refine cF (by rfl) ?_;conv=>whnf)))
  exact h1.tr h2
theorem AppendNullableString_nil {w : World} {B : Nat} {v : Value} {l : List UInt8} (h : OB w B v l) (hB : B ≤ w.heap.size) (hl : l.length + 2 ≤ 140737488355328) : Does X.P 104 #[v, .pointer none] w fun r w' => Apd w B v l (fixed (-1) 2) r w' := by
  refine Does.go (X := X) (l := [_, _]) Tryz.func104 rfl (by kernel_rfl) (by kernel_rfl) _ rfl ?_
  ((conv=>whnf);repeat(first|(refine mvT ?_;conv=>whnf)|(refine mvF ?_;conv=>whnf)|(refine cT (by rfl) ?_;conv=>whnf)|(refine cF (by rfl) ?_;conv=>whnf)))
  refine Does.mono (AppendInt16_does h hB hl _) ?_;rintro r w1 h1;((conv=>whnf);repeat(first|(refine mvT ?_;conv=>whnf)|(refine mvF ?_;conv=>whnf)|(refine cT (by rfl) ?_;conv=>whnf)|(refine cF (by rfl) ?_;conv=>whnf)))
  exact h1
theorem AppendNullableString_some {w : World} {B : Nat} {v : Value} {l : List UInt8} (h : OB w B v l) (hB : B ≤ w.heap.size) {b o : Nat} {s : List UInt8} (hc : w.cell? ⟨b, o, none⟩ = some (str s)) (hl : l.length + (s.length + 2) ≤ 140737488355328) : Does X.P 104 #[v, .pointer (some ⟨b, o, none⟩)] w fun r w' => Apd w B v l (fixed s.length 2 ++ s) r w' := by
  refine Does.go (X := X) (l := [_, _]) Tryz.func104 rfl (by kernel_rfl) (by kernel_rfl) _ rfl ?_
  ((conv=>whnf);repeat(first|(refine mvT ?_;conv=>whnf)|(refine mvF ?_;conv=>whnf)|(refine cT (by rfl) ?_;conv=>whnf)|(refine cF (by rfl) ?_;conv=>whnf)))
  refine ldS (hc) ?_;((conv=>whnf);repeat(first|(refine mvT ?_;conv=>whnf)|(refine mvF ?_;conv=>whnf)|(refine cT (by rfl) ?_;conv=>whnf)|(refine cF (by rfl) ?_;conv=>whnf)))
  refine Does.mono (AppendString_does h hB s hl) ?_;rintro r w1 h1;((conv=>whnf);repeat(first|(refine mvT ?_;conv=>whnf)|(refine mvF ?_;conv=>whnf)|(refine cT (by rfl) ?_;conv=>whnf)|(refine cF (by rfl) ?_;conv=>whnf)))
  exact h1
theorem AppendBytes_does {w : World} {F : Nat → Prop} {B : Nat} {v x : Value} {l s : List UInt8} (h : OB w B v l) (hB : B ≤ w.heap.size) (hx : Bytes w F x s) (hF : ∀ j, j < w.heap.size → F j → v.ownBlock ≠ some j) (hl : l.length + (s.length + 4) ≤ 140737488355328) : Does X.P 56 #[v, x] w fun r w' => Apd w B v l (fixed s.length 4 ++ s) r w' := by
  obtain ⟨a, c, rfl, _⟩ := hx.view
  refine Does.go (X := X) (l := [_, _]) Tryz.func56 rfl (by kernel_rfl) (by kernel_rfl) _ rfl ?_
  ((conv=>whnf);repeat(first|(refine mvT ?_;conv=>whnf)|(refine mvF ?_;conv=>whnf)|(refine cT (by rfl) ?_;conv=>whnf)|(refine cF (by rfl) ?_;conv=>whnf)))
  refine Does.mono (AppendInt32_does h hB (by omega) (IntKind.i32.wrap (s.length : Int))) ?_;rintro r w1 h1;((conv=>whnf);repeat(first|(refine mvT ?_;conv=>whnf)|(refine mvF ?_;conv=>whnf)|(refine cT (by rfl) ?_;conv=>whnf)|(refine cF (by rfl) ?_;conv=>whnf)))
  refine app_apd rfl rfl h1.ob (hx.ext h1.ext hF).src rfl (by rw [List.length_append, fixed_length]; omega) (Nat.le_trans hB h1.size) ?_
  intro r2 w2 h2
  ((conv=>whnf);repeat(first|(refine mvT ?_;conv=>whnf)|(refine mvF ?_;conv=>whnf)|(refine cT (by rfl) ?_;conv=>whnf)|(refine cF (by rfl) ?_;conv=>whnf)))
  have h3 := h1.tr h2
  rw [fixed4_mod (n := IntKind.i32.wrap _) (m := s.length) (wrap_i32m _)] at h3
  exact h3
theorem AppendCompactBytes_does {w : World} {F : Nat → Prop} {B : Nat} {v x : Value} {l s : List UInt8} (h : OB w B v l) (hB : B ≤ w.heap.size) (hx : Bytes w F x s) (hF : ∀ j, j < w.heap.size → F j → v.ownBlock ≠ some j) (hs : s.length + 1 < 4294967296) (hl : l.length + (s.length + 10) ≤ 140737488355328) : Does X.P 55 #[v, x] w fun r w' => Apd w B v l (uvar (s.length + 1) ++ s) r w' := by
  obtain ⟨a, c, rfl, _⟩ := hx.view
  refine Does.go (X := X) (l := [_, _]) Tryz.func55 rfl (by kernel_rfl) (by kernel_rfl) _ rfl ?_
  ((conv=>whnf);repeat(first|(refine mvT ?_;conv=>whnf)|(refine mvF ?_;conv=>whnf)|(refine cT (by rfl) ?_;conv=>whnf)|(refine cF (by rfl) ?_;conv=>whnf)))
  rw [u32_add1 hs]
  refine Does.mono (AppendUvarint_does h hB (s.length + 1) hs (by omega)) ?_;rintro r w1 h1;((conv=>whnf);repeat(first|(refine mvT ?_;conv=>whnf)|(refine mvF ?_;conv=>whnf)|(refine cT (by rfl) ?_;conv=>whnf)|(refine cF (by rfl) ?_;conv=>whnf)))
  have hu : (uvar (s.length + 1)).length ≤ 10 := by rcases uvar_length (s.length + 1) with h | h <;> omega
  refine app_apd rfl rfl h1.ob (hx.ext h1.ext hF).src rfl (by rw [List.length_append]; omega) (Nat.le_trans hB h1.size) ?_
  intro r2 w2 h2
  ((conv=>whnf);repeat(first|(refine mvT ?_;conv=>whnf)|(refine mvF ?_;conv=>whnf)|(refine cT (by rfl) ?_;conv=>whnf)|(refine cF (by rfl) ?_;conv=>whnf)))
  exact h1.tr h2
theorem AppendCompactArrayLen_does {w : World} {B : Nat} {v : Value} {l : List UInt8} (h : OB w B v l) (hB : B ≤ w.heap.size) (hl : l.length + 5 ≤ 140737488355328) (n : Nat) (hn : n + 1 < 4294967296) : Does X.P 47 #[v, .int .i64 n] w fun r w' => Apd w B v l (uvar (n + 1)) r w' := by
  refine Does.go (X := X) (l := [_, _]) Tryz.func47 rfl (by kernel_rfl) (by kernel_rfl) _ rfl ?_
  ((conv=>whnf);repeat(first|(refine mvT ?_;conv=>whnf)|(refine mvF ?_;conv=>whnf)|(refine cT (by rfl) ?_;conv=>whnf)|(refine cF (by rfl) ?_;conv=>whnf)))
  rw [u32_add1 hn]
  refine Does.mono (AppendUvarint_does h hB (n + 1) hn hl) ?_;rintro r w1 h1;((conv=>whnf);repeat(first|(refine mvT ?_;conv=>whnf)|(refine mvF ?_;conv=>whnf)|(refine cT (by rfl) ?_;conv=>whnf)|(refine cF (by rfl) ?_;conv=>whnf)))
  exact h1
theorem AppendNullableArrayLen_does {w : World} {B : Nat} {v : Value} {l : List UInt8} (h : OB w B v l) (hB : B ≤ w.heap.size) (hl : l.length + 4 ≤ 140737488355328) (n : Nat) (b : Bool) : Does X.P 169 #[v, .int .i64 n, .bool b] w fun r w' => Apd w B v l (if b = true then fixed (-1) 4 else fixed n 4) r w' := by
  cases b
  all_goals
    refine Does.go (X := X) (l := [_, _, _]) Tryz.func169 rfl (by kernel_rfl) (by kernel_rfl) _ rfl ?_
    ((conv=>whnf);repeat(first|(refine mvT ?_;conv=>whnf)|(refine mvF ?_;conv=>whnf)|(refine cT (by rfl) ?_;conv=>whnf)|(refine cF (by rfl) ?_;conv=>whnf)))
  · refine Does.mono (AppendInt32_does h hB hl _) ?_;rintro r w1 h1;((conv=>whnf);repeat(first|(refine mvT ?_;conv=>whnf)|(refine mvF ?_;conv=>whnf)|(refine cT (by rfl) ?_;conv=>whnf)|(refine cF (by rfl) ?_;conv=>whnf)))
    rw [fixed4_mod (n := IntKind.i32.wrap n) (m := n) (wrap_i32m _)] at h1
    exact h1
  · refine Does.mono (AppendInt32_does h hB hl _) ?_;rintro r w1 h1;((conv=>whnf);repeat(first|(refine mvT ?_;conv=>whnf)|(refine mvF ?_;conv=>whnf)|(refine cT (by rfl) ?_;conv=>whnf)|(refine cF (by rfl) ?_;conv=>whnf)))
    exact h1
theorem AppendCompactNullableArrayLen_does {w : World} {B : Nat} {v : Value} {l : List UInt8} (h : OB w B v l) (hB : B ≤ w.heap.size) (hl : l.length + 5 ≤ 140737488355328) (n : Nat) (hn : n + 1 < 4294967296) (b : Bool) : Does X.P 168 #[v, .int .i64 n, .bool b] w fun r w' => Apd w B v l (if b = true then [0] else uvar (n + 1)) r w' := by
  cases b
  all_goals
    refine Does.go (X := X) (l := [_, _, _]) Tryz.func168 rfl (by kernel_rfl) (by kernel_rfl) _ rfl ?_
    ((conv=>whnf);repeat(first|(refine mvT ?_;conv=>whnf)|(refine mvF ?_;conv=>whnf)|(refine cT (by rfl) ?_;conv=>whnf)|(refine cF (by rfl) ?_;conv=>whnf)))
  · rw [u32_add1 hn]
    refine Does.mono (AppendUvarint_does h hB (n + 1) hn hl) ?_;rintro r w1 h1;((conv=>whnf);repeat(first|(refine mvT ?_;conv=>whnf)|(refine mvF ?_;conv=>whnf)|(refine cT (by rfl) ?_;conv=>whnf)|(refine cF (by rfl) ?_;conv=>whnf)))
    exact h1
  · refine Does.mono (AppendUvarint_does h hB 0 (by omega) hl) ?_;rintro r w1 h1;((conv=>whnf);repeat(first|(refine mvT ?_;conv=>whnf)|(refine mvF ?_;conv=>whnf)|(refine cT (by rfl) ?_;conv=>whnf)|(refine cF (by rfl) ?_;conv=>whnf)))
    rw [uvar_0] at h1
    exact h1
end Go.Proofs.YtabhhkdgfdjicaaGreatDoor.K
