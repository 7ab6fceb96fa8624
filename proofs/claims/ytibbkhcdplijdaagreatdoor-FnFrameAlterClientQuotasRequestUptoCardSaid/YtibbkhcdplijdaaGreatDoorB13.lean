/- More of what is appended. -/
import Derived.Test.YtibbkhcdplijdaaGreatDoorB3
import Derived.Laws.Externs
set_option linter.unusedVariables false
set_option linter.unusedSimpArgs false
namespace Go.Proofs.YtibbkhcdplijdaaGreatDoor.K
open Go
set_option maxHeartbeats 800000

theorem fixed_neg1_2 : fixed (-1) 2 = [b8 (-1), b8 (-1)] := by rw [fixed2]; rfl
theorem uvar_0 : uvar 0 = [0] := by rw [uvar_small (by decide)]; rfl
theorem u32_add1 {n : Nat} (h : n + 1 < 2 ^ 32) : IntKind.u32.wrap (1 + IntKind.u32.wrap (n : Int)) = ((n + 1 : Nat) : Int) := by rw [wrap_u32, wrap_u32]; omega
theorem u32_add0 {n : Nat} (h : n < 2 ^ 32) : IntKind.u32.wrap (0 + IntKind.u32.wrap (n : Int)) = ((n : Nat) : Int) := by rw [wrap_u32, wrap_u32]; omega
theorem AppendBool_does {w : World} {B : Nat} {v : Value} {l : List UInt8} (h : OB w B v l) (hB : B ≤ w.heap.size) (hl : l.length + 1 ≤ 140737488355328) (b : Bool) : Does X.P 109 #[v, .bool b] w fun r w' => Apd w B v l [if b = true then 1 else 0] r w' := by
  cases b
  all_goals
    refine Does.go (X := X) (l := [_, _]) Tryz.func109 rfl (by kernel_rfl) (by kernel_rfl) _ rfl ?_
    ((conv=>whnf);repeat((first|refine mvT ?_|refine mvF ?_|refine yT ?_|refine yF ?_);conv=>whnf))
  · intro b1 w1 hb ho hx
    ((conv=>whnf);repeat((first|refine mvT ?_|refine mvF ?_|refine yT ?_|refine yF ?_);conv=>whnf))
    refine app_apd (m := [0]) rfl rfl (h.e0 hx) (src_own ho rfl) rfl (by simp only [List.length_cons, List.length_nil]; omega) (Nat.le_trans hB hx.size) ?_
    intro r w2 hr
    ((conv=>whnf);repeat((first|refine mvT ?_|refine mvF ?_|refine yT ?_|refine yF ?_);conv=>whnf))
    exact Apd.pre hx hr
  · intro b1 w1 hb ho hx
    ((conv=>whnf);repeat((first|refine mvT ?_|refine mvF ?_|refine yT ?_|refine yF ?_);conv=>whnf))
    refine app_apd (m := [1]) rfl rfl (h.e0 hx) (src_own ho rfl) rfl (by simp only [List.length_cons, List.length_nil]; omega) (Nat.le_trans hB hx.size) ?_
    intro r w2 hr
    ((conv=>whnf);repeat((first|refine mvT ?_|refine mvF ?_|refine yT ?_|refine yF ?_);conv=>whnf))
    exact Apd.pre hx hr
theorem appendUint64_does {w : World} {B : Nat} {v : Value} {l : List UInt8} (h : OB w B v l) (hB : B ≤ w.heap.size) (hl : l.length + 8 ≤ 140737488355328) (n : Int) : Does X.P 113 #[v, .int .u64 n] w fun r w' => Apd w B v l (fixed n 8) r w' := by
  refine Does.go (X := X) (l := [_, _]) Tryz.func113 rfl (by kernel_rfl) (by kernel_rfl) _ rfl ?_
  ((conv=>whnf);repeat((first|refine mvT ?_|refine mvF ?_|refine yT ?_|refine yF ?_);conv=>whnf))
  refine ⟨by decide, ?_⟩
  ((conv=>whnf);repeat((first|refine mvT ?_|refine mvF ?_|refine yT ?_|refine yF ?_);conv=>whnf))
  refine ⟨by decide, ?_⟩
  ((conv=>whnf);repeat((first|refine mvT ?_|refine mvF ?_|refine yT ?_|refine yF ?_);conv=>whnf))
  refine ⟨by decide, ?_⟩
  ((conv=>whnf);repeat((first|refine mvT ?_|refine mvF ?_|refine yT ?_|refine yF ?_);conv=>whnf))
  refine ⟨by decide, ?_⟩
  ((conv=>whnf);repeat((first|refine mvT ?_|refine mvF ?_|refine yT ?_|refine yF ?_);conv=>whnf))
  refine ⟨by decide, ?_⟩
  ((conv=>whnf);repeat((first|refine mvT ?_|refine mvF ?_|refine yT ?_|refine yF ?_);conv=>whnf))
  refine ⟨by decide, ?_⟩
  ((conv=>whnf);repeat((first|refine mvT ?_|refine mvF ?_|refine yT ?_|refine yF ?_);conv=>whnf))
  refine ⟨by decide, ?_⟩
  ((conv=>whnf);repeat((first|refine mvT ?_|refine mvF ?_|refine yT ?_|refine yF ?_);conv=>whnf))
  intro b w1 hb ho hx
  have ho : Own w1 b U8 ((fixed n 8).map bcell) := by
    rw [wrap_u8, wrap_u8, wrap_u8, wrap_u8, wrap_u8, wrap_u8, wrap_u8, wrap_u8] at ho
    rw [fixed8]
    rw [show (n.fdiv (2 ^ min (8 : Int).toNat IntKind.u64.bits)) = n / 256 from fd n 8, show (n.fdiv (2 ^ min (16 : Int).toNat IntKind.u64.bits)) = n / 65536 from fd n 16, show (n.fdiv (2 ^ min (24 : Int).toNat IntKind.u64.bits)) = n / 16777216 from fd n 24, show (n.fdiv (2 ^ min (32 : Int).toNat IntKind.u64.bits)) = n / 4294967296 from fd n 32,
      show (n.fdiv (2 ^ min (40 : Int).toNat IntKind.u64.bits)) = n / 1099511627776 from fd n 40, show (n.fdiv (2 ^ min (48 : Int).toNat IntKind.u64.bits)) = n / 281474976710656 from fd n 48, show (n.fdiv (2 ^ min (56 : Int).toNat IntKind.u64.bits)) = n / 72057594037927936 from fd n 56] at ho
    exact ho
  ((conv=>whnf);repeat((first|refine mvT ?_|refine mvF ?_|refine yT ?_|refine yF ?_);conv=>whnf))
  refine app_apd rfl rfl (h.e0 hx) (src_own ho rfl) rfl (by rw [fixed_length]; omega) (Nat.le_trans hB hx.size) ?_
  intro r w2 hr
  ((conv=>whnf);repeat((first|refine mvT ?_|refine mvF ?_|refine yT ?_|refine yF ?_);conv=>whnf))
  exact Apd.pre hx hr
theorem AppendCompactString_does {w : World} {B : Nat} {v : Value} {l : List UInt8} (h : OB w B v l) (hB : B ≤ w.heap.size) (s : List UInt8) (hs : s.length + 1 < 4294967296) (hl : l.length + (s.length + 10) ≤ 140737488355328) : Does X.P 103 #[v, str s] w fun r w' => Apd w B v l (uvar (s.length + 1) ++ s) r w' := by
  refine Does.go (X := X) (l := [_, _]) Tryz.func103 rfl (by kernel_rfl) (by kernel_rfl) _ rfl ?_
  ((conv=>whnf);repeat((first|refine mvT ?_|refine mvF ?_|refine yT ?_|refine yF ?_);conv=>whnf))
  have e : IntKind.u32.wrap (1 + IntKind.u32.wrap ((ByteArray.size ⟨s.toArray⟩ : Nat) : Int)) = ((s.length + 1 : Nat) : Int) := u32_add1 hs
  rw [e]
  refine Does.mono (AppendUvarint_does h hB (s.length + 1) hs (by omega)) ?_;rintro r w1 h1;((conv=>whnf);repeat((first|refine mvT ?_|refine mvF ?_|refine yT ?_|refine yF ?_);conv=>whnf))
  have hu : (uvar (s.length + 1)).length ≤ 10 := by rcases uvar_length (s.length + 1) with h | h <;> omega
  refine app_apd rfl rfl h1.ob (src_str s) rfl (by rw [List.length_append]; omega) (Nat.le_trans hB h1.size) ?_
  intro r2 w2 h2
  ((conv=>whnf);repeat((first|refine mvT ?_|refine mvF ?_|refine yT ?_|refine yF ?_);conv=>whnf))
  exact h1.tr h2
theorem AppendNullableString_nil {w : World} {B : Nat} {v : Value} {l : List UInt8} (h : OB w B v l) (hB : B ≤ w.heap.size) (hl : l.length + 2 ≤ 140737488355328) : Does X.P 65 #[v, .pointer none] w fun r w' => Apd w B v l (fixed (-1) 2) r w' := by
  refine Does.go (X := X) (l := [_, _]) Tryz.func65 rfl (by kernel_rfl) (by kernel_rfl) _ rfl ?_
  ((conv=>whnf);repeat((first|refine mvT ?_|refine mvF ?_|refine yT ?_|refine yF ?_);conv=>whnf))
  refine Does.mono (AppendInt16_does h hB hl _) ?_;rintro r w1 h1;((conv=>whnf);repeat((first|refine mvT ?_|refine mvF ?_|refine yT ?_|refine yF ?_);conv=>whnf))
  exact h1
theorem AppendNullableString_some {w : World} {B : Nat} {v : Value} {l : List UInt8} (h : OB w B v l) (hB : B ≤ w.heap.size) {b o : Nat} {s : List UInt8} (hc : w.cell? ⟨b, o, none⟩ = some (str s)) (hl : l.length + (s.length + 2) ≤ 140737488355328) : Does X.P 65 #[v, .pointer (some ⟨b, o, none⟩)] w fun r w' => Apd w B v l (fixed s.length 2 ++ s) r w' := by
  refine Does.go (X := X) (l := [_, _]) Tryz.func65 rfl (by kernel_rfl) (by kernel_rfl) _ rfl ?_
  ((conv=>whnf);repeat((first|refine mvT ?_|refine mvF ?_|refine yT ?_|refine yF ?_);conv=>whnf))
  refine ldS (hc) ?_;((conv=>whnf);repeat((first|refine mvT ?_|refine mvF ?_|refine yT ?_|refine yF ?_);conv=>whnf))
  refine Does.mono (AppendString_does h hB s hl) ?_;rintro r w1 h1;((conv=>whnf);repeat((first|refine mvT ?_|refine mvF ?_|refine yT ?_|refine yF ?_);conv=>whnf))
  exact h1
theorem AppendCompactNullableString_nil {w : World} {B : Nat} {v : Value} {l : List UInt8} (h : OB w B v l) (hB : B ≤ w.heap.size) (hl : l.length + 5 ≤ 140737488355328) : Does X.P 104 #[v, .pointer none] w fun r w' => Apd w B v l [0] r w' := by
  refine Does.go (X := X) (l := [_, _]) Tryz.func104 rfl (by kernel_rfl) (by kernel_rfl) _ rfl ?_
  ((conv=>whnf);repeat((first|refine mvT ?_|refine mvF ?_|refine yT ?_|refine yF ?_);conv=>whnf))
  refine Does.mono (AppendUvarint_does h hB 0 (by omega) hl) ?_;rintro r w1 h1;((conv=>whnf);repeat((first|refine mvT ?_|refine mvF ?_|refine yT ?_|refine yF ?_);conv=>whnf))
  rw [uvar_0] at h1
  exact h1
theorem AppendCompactNullableString_some {w : World} {B : Nat} {v : Value} {l : List UInt8} (h : OB w B v l) (hB : B ≤ w.heap.size) {b o : Nat} {s : List UInt8} (hc : w.cell? ⟨b, o, none⟩ = some (str s)) (hs : s.length + 1 < 4294967296) (hl : l.length + (s.length + 10) ≤ 140737488355328) : Does X.P 104 #[v, .pointer (some ⟨b, o, none⟩)] w fun r w' => Apd w B v l (uvar (s.length + 1) ++ s) r w' := by
  refine Does.go (X := X) (l := [_, _]) Tryz.func104 rfl (by kernel_rfl) (by kernel_rfl) _ rfl ?_
  ((conv=>whnf);repeat((first|refine mvT ?_|refine mvF ?_|refine yT ?_|refine yF ?_);conv=>whnf))
  refine ldS (hc) ?_;((conv=>whnf);repeat((first|refine mvT ?_|refine mvF ?_|refine yT ?_|refine yF ?_);conv=>whnf))
  refine Does.mono (AppendCompactString_does h hB s hs hl) ?_;rintro r w1 h1;((conv=>whnf);repeat((first|refine mvT ?_|refine mvF ?_|refine yT ?_|refine yF ?_);conv=>whnf))
  exact h1
theorem AppendCompactArrayLen_does {w : World} {B : Nat} {v : Value} {l : List UInt8} (h : OB w B v l) (hB : B ≤ w.heap.size) (hl : l.length + 5 ≤ 140737488355328) (n : Nat) (hn : n + 1 < 4294967296) : Does X.P 101 #[v, .int .i64 n] w fun r w' => Apd w B v l (uvar (n + 1)) r w' := by
  refine Does.go (X := X) (l := [_, _]) Tryz.func101 rfl (by kernel_rfl) (by kernel_rfl) _ rfl ?_
  ((conv=>whnf);repeat((first|refine mvT ?_|refine mvF ?_|refine yT ?_|refine yF ?_);conv=>whnf))
  rw [u32_add1 hn]
  refine Does.mono (AppendUvarint_does h hB (n + 1) hn hl) ?_;rintro r w1 h1;((conv=>whnf);repeat((first|refine mvT ?_|refine mvF ?_|refine yT ?_|refine yF ?_);conv=>whnf))
  exact h1
/-- The 64 bits of a number, as a float has them. -/
abbrev fb (n : Int) : Nat := (n % 18446744073709551616).toNat
theorem fb_lt (n : Int) : ((fb n : Nat) : Int) = n % 18446744073709551616 := by unfold fb; omega
theorem Float64bits_does {w : World} (b : Nat) : Does X.P 114 #[.float .f64 b] w fun r w' => r = .int .u64 (b : Int) ∧ w' = w := by
  refine ⟨.inr ⟨.int .u64 (b : Int), w, ?_, rfl, rfl⟩⟩
  rw [run_callFunc_extern (P := X.P) (fn := Tryz.f114) (e := Extern.MathFloatBits.float64bits) Tryz.func114 (by kernel_rfl) (by kernel_rfl) (by kernel_rfl) (by kernel_rfl)]
  rfl
theorem Float64frombits_does {w : World} (n : Int) : Does X.P 72 #[.int .u64 n] w fun r w' => r = .float .f64 n.toNat ∧ w' = w := by
  refine ⟨.inr ⟨.float .f64 n.toNat, w, ?_, rfl, rfl⟩⟩
  rw [run_callFunc_extern (P := X.P) (fn := Tryz.f72) (e := Extern.MathFloatBits.float64frombits) Tryz.func72 (by kernel_rfl) (by kernel_rfl) (by kernel_rfl) (by kernel_rfl)]
  rfl
theorem AppendFloat64_does {w : World} {B : Nat} {v : Value} {l : List UInt8} (h : OB w B v l) (hB : B ≤ w.heap.size) (hl : l.length + 8 ≤ 140737488355328) (n : Int) : Does X.P 108 #[v, .float .f64 (fb n)] w fun r w' => Apd w B v l (fixed n 8) r w' := by
  refine Does.go (X := X) (l := [_, _]) Tryz.func108 rfl (by kernel_rfl) (by kernel_rfl) _ rfl ?_
  ((conv=>whnf);repeat((first|refine mvT ?_|refine mvF ?_|refine yT ?_|refine yF ?_);conv=>whnf))
  refine Does.mono (Float64bits_does (fb n)) ?_;rintro r0 w0 ⟨rfl, rfl⟩;((conv=>whnf);repeat((first|refine mvT ?_|refine mvF ?_|refine yT ?_|refine yF ?_);conv=>whnf))
  refine Does.mono (appendUint64_does h hB hl _) ?_;rintro r w1 h1;((conv=>whnf);repeat((first|refine mvT ?_|refine mvF ?_|refine yT ?_|refine yF ?_);conv=>whnf))
  rw [fixed8_mod (m := n) (by rw [fb_lt]; omega)] at h1
  exact h1
end Go.Proofs.YtibbkhcdplijdaaGreatDoor.K
