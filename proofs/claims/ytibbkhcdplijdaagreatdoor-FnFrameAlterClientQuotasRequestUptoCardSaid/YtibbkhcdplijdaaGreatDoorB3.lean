/- Appending numbers in groups of seven bits. -/
import Derived.Test.YtibbkhcdplijdaaGreatDoorB2
set_option linter.unusedVariables false
set_option linter.unusedSimpArgs false
namespace Go.Proofs.YtibbkhcdplijdaaGreatDoor.K
open Go
set_option maxHeartbeats 800000

theorem or128_32 (m : Nat) (hm : m < 128) : (BitVec.ofInt 32 (m : Int) ||| BitVec.ofInt 32 128).toNat = m + 128 := by
  rw [BitVec.toNat_or, bv_ofInt_nat, show (128 : Int) = ((128 : Nat) : Int) from rfl, bv_ofInt_nat, Nat.mod_eq_of_lt (by omega : m < 2 ^ 32), Nat.mod_eq_of_lt (by decide : 128 < 2 ^ 32)]
  rw [Nat.or_comm]
  have := Nat.two_pow_add_eq_or_of_lt (i := 7) (b := m) (by omega) 1
  simp at this
  omega
theorem u32_nat {n : Nat} (h : n < 2 ^ 32) : IntKind.u32.wrap (n : Int) = (n : Int) := by rw [wrap_u32]; omega
theorem grp7b (m : Nat) (hm : m < 2 ^ 32) : Value.int .u8 (IntKind.u8.wrap (IntKind.u32.wrap ((BitVec.ofInt IntKind.u32.bits (IntKind.u32.wrap ((BitVec.ofInt IntKind.u32.bits (m : Int) &&& BitVec.ofInt IntKind.u32.bits 127).toNat : Int)) ||| BitVec.ofInt IntKind.u32.bits 128).toNat : Int))) = bcell (b8 ((m % 128 + 128 : Nat) : Int)) := by
  rw [show IntKind.u32.bits = 32 from rfl, and127 m 32 (by decide) hm, u32_nat (n := m % 128) (by omega), or128_32 _ (by omega), u32_nat (by omega), wrap_u8]
theorem uvar_big {n : Nat} (h : 127 < n) : uvar n = b8 ((n % 128 + 128 : Nat) : Int) :: uvar (n / 128) := by
  rw [uvar, if_pos h]
  rfl
theorem uvar_small {n : Nat} (h : ¬ 127 < n) : uvar n = [b8 (n : Int)] := by rw [uvar, if_neg h]
theorem shr32 (n k : Nat) (hk : k ≤ 32) : (n : Int).fdiv (2 ^ (min ((k : Nat) : Int).toNat IntKind.u32.bits)) = ((n / 2 ^ k : Nat) : Int) := by
  rw [Int.toNat_natCast, show IntKind.u32.bits = 32 from rfl, Nat.min_eq_left hk, fd]
  norm_cast
theorem AppendUvarint_does {w : World} {B : Nat} {v : Value} {l : List UInt8} (h : OB w B v l) (hB : B ≤ w.heap.size) (n : Nat) (hn : n < 2 ^ 32) (hl : l.length + 5 ≤ 140737488355328) : Does X.P 105 #[v, .int .u32 n] w fun r w' => Apd w B v l (uvar n) r w' := by
  refine Does.go (X := X) (l := [_, _]) Tryz.func105 rfl (by kernel_rfl) (by kernel_rfl) _ rfl ?_
  ((conv=>whnf);repeat((first|refine mvT ?_|refine mvF ?_|refine yT ?_|refine yF ?_);conv=>whnf))
  refine Does.mono (UvarintLen_does n hn w) ?_;rintro r1 w1 ⟨rfl, rfl⟩;((conv=>whnf);repeat((first|refine mvT ?_|refine mvF ?_|refine yT ?_|refine yF ?_);conv=>whnf))
  have e7 : (n : Int).fdiv (2 ^ (min (7 : Int).toNat IntKind.u32.bits)) = ((n / 2 ^ 7 : Nat) : Int) := shr32 n 7 (by omega)
  have e14 : (n : Int).fdiv (2 ^ (min (14 : Int).toNat IntKind.u32.bits)) = ((n / 2 ^ 14 : Nat) : Int) := shr32 n 14 (by omega)
  have e21 : (n : Int).fdiv (2 ^ (min (21 : Int).toNat IntKind.u32.bits)) = ((n / 2 ^ 21 : Nat) : Int) := shr32 n 21 (by omega)
  have e28 : (n : Int).fdiv (2 ^ (min (28 : Int).toNat IntKind.u32.bits)) = ((n / 2 ^ 28 : Nat) : Int) := shr32 n 28 (by omega)
  rcases Nat.lt_or_ge n 128 with h1 | h1
  · have hg : groups n = 1 := by rw [groups, if_pos h1]
    rw [hg]
    ((conv=>whnf);repeat((first|refine mvT ?_|refine mvF ?_|refine yT ?_|refine yF ?_);conv=>whnf))
    intro b w2 hb ho hx
    rw [wrap_u8] at ho
    have hu := uvar_small (n := n) (by omega)
    rw [hu]
    ((conv=>whnf);repeat((first|refine mvT ?_|refine mvF ?_|refine yT ?_|refine yF ?_);conv=>whnf))
    refine app_apd (m := [b8 (n : Int)]) rfl rfl (h.e0 hx) (src_own ho rfl) rfl (by simp only [List.length_cons, List.length_nil]; omega) (Nat.le_trans hB hx.size) ?_
    intro r w3 hr
    ((conv=>whnf);repeat((first|refine mvT ?_|refine mvF ?_|refine yT ?_|refine yF ?_);conv=>whnf))
    exact Apd.pre hx hr
  · rcases Nat.lt_or_ge n 16384 with h2 | h2
    · skip
      have hg : groups n = 2 := by rw [groups, if_neg (show ¬ n < 128 by omega), if_pos (show n < 16384 by omega)]
      rw [hg]
      ((conv=>whnf);repeat((first|refine mvT ?_|refine mvF ?_|refine yT ?_|refine yF ?_);conv=>whnf))
      refine ⟨by decide, ?_⟩
      ((conv=>whnf);repeat((first|refine mvT ?_|refine mvF ?_|refine yT ?_|refine yF ?_);conv=>whnf))
      intro b w2 hb ho hx
      rw [grp7b n hn, e7, wrap_u8] at ho
      have hu : uvar n = [b8 ((n % 128 + 128 : Nat) : Int), b8 ((n / 2 ^ 7 : Nat) : Int)] := by
        rw [uvar_big (show 127 < n by omega), show n / 128 = n / 2 ^ 7 from rfl, uvar_small (show ¬ 127 < n / 2 ^ 7 by omega)]
      rw [hu]
      ((conv=>whnf);repeat((first|refine mvT ?_|refine mvF ?_|refine yT ?_|refine yF ?_);conv=>whnf))
      refine app_apd (m := [b8 ((n % 128 + 128 : Nat) : Int), b8 ((n / 2 ^ 7 : Nat) : Int)]) rfl rfl (h.e0 hx) (src_own ho rfl) rfl (by simp only [List.length_cons, List.length_nil]; omega) (Nat.le_trans hB hx.size) ?_
      intro r w3 hr
      ((conv=>whnf);repeat((first|refine mvT ?_|refine mvF ?_|refine yT ?_|refine yF ?_);conv=>whnf))
      exact Apd.pre hx hr
    rcases Nat.lt_or_ge n 2097152 with h3 | h3
    · skip
      have hg : groups n = 3 := by rw [groups, if_neg (show ¬ n < 128 by omega), if_neg (show ¬ n < 16384 by omega), if_pos (show n < 2097152 by omega)]
      rw [hg]
      ((conv=>whnf);repeat((first|refine mvT ?_|refine mvF ?_|refine yT ?_|refine yF ?_);conv=>whnf))
      refine ⟨by decide, ?_⟩
      ((conv=>whnf);repeat((first|refine mvT ?_|refine mvF ?_|refine yT ?_|refine yF ?_);conv=>whnf))
      refine ⟨by decide, ?_⟩
      ((conv=>whnf);repeat((first|refine mvT ?_|refine mvF ?_|refine yT ?_|refine yF ?_);conv=>whnf))
      intro b w2 hb ho hx
      rw [grp7b n hn, e7, grp7b (n / 2 ^ 7) (by omega), e14, wrap_u8] at ho
      have hu : uvar n = [b8 ((n % 128 + 128 : Nat) : Int), b8 ((n / 2 ^ 7 % 128 + 128 : Nat) : Int), b8 ((n / 2 ^ 14 : Nat) : Int)] := by
        rw [uvar_big (show 127 < n by omega), show n / 128 = n / 2 ^ 7 from rfl, uvar_big (show 127 < n / 2 ^ 7 by omega), show n / 2 ^ 7 / 128 = n / 2 ^ 14 from by rw [Nat.div_div_eq_div_mul], uvar_small (show ¬ 127 < n / 2 ^ 14 by omega)]
      rw [hu]
      ((conv=>whnf);repeat((first|refine mvT ?_|refine mvF ?_|refine yT ?_|refine yF ?_);conv=>whnf))
      refine app_apd (m := [b8 ((n % 128 + 128 : Nat) : Int), b8 ((n / 2 ^ 7 % 128 + 128 : Nat) : Int), b8 ((n / 2 ^ 14 : Nat) : Int)]) rfl rfl (h.e0 hx) (src_own ho rfl) rfl (by simp only [List.length_cons, List.length_nil]; omega) (Nat.le_trans hB hx.size) ?_
      intro r w3 hr
      ((conv=>whnf);repeat((first|refine mvT ?_|refine mvF ?_|refine yT ?_|refine yF ?_);conv=>whnf))
      exact Apd.pre hx hr
    rcases Nat.lt_or_ge n 268435456 with h4 | h4
    · skip
      have hg : groups n = 4 := by rw [groups, if_neg (show ¬ n < 128 by omega), if_neg (show ¬ n < 16384 by omega), if_neg (show ¬ n < 2097152 by omega), if_pos (show n < 268435456 by omega)]
      rw [hg]
      ((conv=>whnf);repeat((first|refine mvT ?_|refine mvF ?_|refine yT ?_|refine yF ?_);conv=>whnf))
      refine ⟨by decide, ?_⟩
      ((conv=>whnf);repeat((first|refine mvT ?_|refine mvF ?_|refine yT ?_|refine yF ?_);conv=>whnf))
      refine ⟨by decide, ?_⟩
      ((conv=>whnf);repeat((first|refine mvT ?_|refine mvF ?_|refine yT ?_|refine yF ?_);conv=>whnf))
      refine ⟨by decide, ?_⟩
      ((conv=>whnf);repeat((first|refine mvT ?_|refine mvF ?_|refine yT ?_|refine yF ?_);conv=>whnf))
      intro b w2 hb ho hx
      rw [grp7b n hn, e7, grp7b (n / 2 ^ 7) (by omega), e14, grp7b (n / 2 ^ 14) (by omega), e21, wrap_u8] at ho
      have hu : uvar n = [b8 ((n % 128 + 128 : Nat) : Int), b8 ((n / 2 ^ 7 % 128 + 128 : Nat) : Int), b8 ((n / 2 ^ 14 % 128 + 128 : Nat) : Int), b8 ((n / 2 ^ 21 : Nat) : Int)] := by
        rw [uvar_big (show 127 < n by omega), show n / 128 = n / 2 ^ 7 from rfl, uvar_big (show 127 < n / 2 ^ 7 by omega), show n / 2 ^ 7 / 128 = n / 2 ^ 14 from by rw [Nat.div_div_eq_div_mul], uvar_big (show 127 < n / 2 ^ 14 by omega), show n / 2 ^ 14 / 128 = n / 2 ^ 21 from by rw [Nat.div_div_eq_div_mul], uvar_small (show ¬ 127 < n / 2 ^ 21 by omega)]
      rw [hu]
      ((conv=>whnf);repeat((first|refine mvT ?_|refine mvF ?_|refine yT ?_|refine yF ?_);conv=>whnf))
      refine app_apd (m := [b8 ((n % 128 + 128 : Nat) : Int), b8 ((n / 2 ^ 7 % 128 + 128 : Nat) : Int), b8 ((n / 2 ^ 14 % 128 + 128 : Nat) : Int), b8 ((n / 2 ^ 21 : Nat) : Int)]) rfl rfl (h.e0 hx) (src_own ho rfl) rfl (by simp only [List.length_cons, List.length_nil]; omega) (Nat.le_trans hB hx.size) ?_
      intro r w3 hr
      ((conv=>whnf);repeat((first|refine mvT ?_|refine mvF ?_|refine yT ?_|refine yF ?_);conv=>whnf))
      exact Apd.pre hx hr
    have hg : groups n = 5 := by rw [groups, if_neg (show ¬ n < 128 by omega), if_neg (show ¬ n < 16384 by omega), if_neg (show ¬ n < 2097152 by omega), if_neg (show ¬ n < 268435456 by omega)]
    rw [hg]
    ((conv=>whnf);repeat((first|refine mvT ?_|refine mvF ?_|refine yT ?_|refine yF ?_);conv=>whnf))
    refine ⟨by decide, ?_⟩
    ((conv=>whnf);repeat((first|refine mvT ?_|refine mvF ?_|refine yT ?_|refine yF ?_);conv=>whnf))
    refine ⟨by decide, ?_⟩
    ((conv=>whnf);repeat((first|refine mvT ?_|refine mvF ?_|refine yT ?_|refine yF ?_);conv=>whnf))
    refine ⟨by decide, ?_⟩
    ((conv=>whnf);repeat((first|refine mvT ?_|refine mvF ?_|refine yT ?_|refine yF ?_);conv=>whnf))
    refine ⟨by decide, ?_⟩
    ((conv=>whnf);repeat((first|refine mvT ?_|refine mvF ?_|refine yT ?_|refine yF ?_);conv=>whnf))
    intro b w2 hb ho hx
    rw [grp7b n hn, e7, grp7b (n / 2 ^ 7) (by omega), e14, grp7b (n / 2 ^ 14) (by omega), e21, grp7b (n / 2 ^ 21) (by omega), e28, wrap_u8] at ho
    have hu : uvar n = [b8 ((n % 128 + 128 : Nat) : Int), b8 ((n / 2 ^ 7 % 128 + 128 : Nat) : Int), b8 ((n / 2 ^ 14 % 128 + 128 : Nat) : Int), b8 ((n / 2 ^ 21 % 128 + 128 : Nat) : Int), b8 ((n / 2 ^ 28 : Nat) : Int)] := by
      rw [uvar_big (show 127 < n by omega), show n / 128 = n / 2 ^ 7 from rfl, uvar_big (show 127 < n / 2 ^ 7 by omega), show n / 2 ^ 7 / 128 = n / 2 ^ 14 from by rw [Nat.div_div_eq_div_mul], uvar_big (show 127 < n / 2 ^ 14 by omega), show n / 2 ^ 14 / 128 = n / 2 ^ 21 from by rw [Nat.div_div_eq_div_mul], uvar_big (show 127 < n / 2 ^ 21 by omega), show n / 2 ^ 21 / 128 = n / 2 ^ 28 from by rw [Nat.div_div_eq_div_mul], uvar_small (show ¬ 127 < n / 2 ^ 28 by omega)]
    rw [hu]
    ((conv=>whnf);repeat((first|refine mvT ?_|refine mvF ?_|refine yT ?_|refine yF ?_);conv=>whnf))
    refine app_apd (m := [b8 ((n % 128 + 128 : Nat) : Int), b8 ((n / 2 ^ 7 % 128 + 128 : Nat) : Int), b8 ((n / 2 ^ 14 % 128 + 128 : Nat) : Int), b8 ((n / 2 ^ 21 % 128 + 128 : Nat) : Int), b8 ((n / 2 ^ 28 : Nat) : Int)]) rfl rfl (h.e0 hx) (src_own ho rfl) rfl (by simp only [List.length_cons, List.length_nil]; omega) (Nat.le_trans hB hx.size) ?_
    intro r w3 hr
    ((conv=>whnf);repeat((first|refine mvT ?_|refine mvF ?_|refine yT ?_|refine yF ?_);conv=>whnf))
    exact Apd.pre hx hr
end Go.Proofs.YtibbkhcdplijdaaGreatDoor.K
