/- Appending numbers in groups of seven bits. -/
import Derived.Test.YtjepglidlblmlaaDoorB2
set_option linter.unusedVariables false
set_option linter.unusedSimpArgs false
namespace Go.Proofs.YtjepglidlblmlaaDoor.K
open Go
set_option maxHeartbeats 800000

theorem or128_32 (m : Nat) (hm : m < 128) : (BitVec.ofInt 32 (m : Int) ||| BitVec.ofInt 32 128).toNat = m + 128 := by
  rw [BitVec.toNat_or, bv_ofInt_nat, show (128 : Int) = ((128 : Nat) : Int) from rfl, bv_ofInt_nat, Nat.mod_eq_of_lt (by omega : m < 2 ^ 32), Nat.mod_eq_of_lt (by decide : 128 < 2 ^ 32)]
  rw [Nat.or_comm]
  have := Nat.two_pow_add_eq_or_of_lt (i := 7) (b := m) (by omega) 1
  simp at this
  omega
theorem u32_nat {n : Nat} (h : n < 2 ^ 32) : IntKind.u32.wrap (n : Int) = (n : Int) := by rw [wrap_u32]; omega
theorem grp7b (m : Nat) (hm : m < 2 ^ 32) : Value.int .u8 (IntKind.u8.wrap (IntKind.u32.wrap ((BitVec.ofInt IntKind.u32.bits (IntKind.u32.wrap ((BitVec.ofInt IntKind.u32.bits (m : Int) &&& BitVec.ofInt IntKind.u32.bits 127).toNat : Int)) ||| BitVec.ofInt IntKind.u32.bits 128).toNat : Int))) = bcell (b8 ((m % 128 + 128 : Nat) : Int)) := by
  rw [show IntKind.u32.bits = 32 from rfl, and127 m 32 (by decide) hm, u32_nat (n := m % 128) (by omega), or128_32 _ (by omega), u32_nat (by omega), wrap_u8]
theorem uvar_big {n : Nat} (h : 127 < n) : uvar n = b8 ((n % 128 + 128 : Nat) : Int) :: uvar (n / 128) := by
  rw [uvar, if_pos h]
  rfl
theorem uvar_small {n : Nat} (h : ¬ 127 < n) : uvar n = [b8 (n : Int)] := by rw [uvar, if_neg h]
theorem shr32 (n k : Nat) (hk : k ≤ 32) : (n : Int).fdiv (2 ^ (min ((k : Nat) : Int).toNat IntKind.u32.bits)) = ((n / 2 ^ k : Nat) : Int) := by
  rw [Int.toNat_natCast, show IntKind.u32.bits = 32 from rfl, Nat.min_eq_left hk, fd]
  norm_cast
end Go.Proofs.YtjepglidlblmlaaDoor.K
