/- How many bits, how many groups of seven. -/
import Derived.Test.YtjepglidlblmlaaDoorB1
set_option linter.unusedVariables false
set_option linter.unusedSimpArgs false
namespace Go.Proofs.YtjepglidlblmlaaDoor.K
open Go
set_option maxHeartbeats 400000

theorem index_str {o : Oper} {e : Env} {w : World} {K : Value → World → Prop} {t : TypeId} {x y : Operand} {s : ByteArray} {k : IntKind} {n : Int} {by' sz : Nat} {z : List Value} (b : UInt8) (ho : o.op = .index t x y) (hx : ev e x = some (.string s)) (hy : ev e y = some (.int k n))
    (ht : tlook X.tab t = some ⟨.str, sz, by', z⟩) (h0 : 0 ≤ n) (hb : s[n.toNat]? = some b) (hk : K (.int .u8 (b.toNat : Int)) w) : semVC X o e w K := by
  refine .inl ⟨_, w, fun ρ hρ => .inl ?_, hk⟩
  obtain ⟨d, inf, zv, hr⟩ := X.row ht
  have hd := hr.desc
  cases d <;> simp [descOf] at hd
  have h1 := hρ x _ hx
  have h2 := hρ y _ hy
  simp [execOp, ho, h1, h2, Instr.index, asIntOf, hr.run_und, h0, hb]
def bl : Nat → Nat → Nat
  | 0, _ => 0
  | f + 1, n => if n = 0 then 0 else bl f (n / 2) + 1
/-- How many bits a number has. -/
def bitLen (n : Nat) : Nat := bl 64 n
theorem bl_enough : ∀ (f n : Nat), n < 2 ^ f → bl (f + 1) n = bl f n
  | 0, n, h => by
    have : n = 0 := by simpa using h
    simp [bl, this]
  | f + 1, n, h => by
    show (if n = 0 then 0 else bl (f + 1) (n / 2) + 1) = (if n = 0 then 0 else bl f (n / 2) + 1)
    split
    · rfl
    · rw [bl_enough f (n / 2) (by rw [Nat.pow_succ] at h; omega)]
theorem bitLen_half {n : Nat} (h : n < 2 ^ 63) (h0 : 0 < n) : bitLen n = bitLen (n / 2) + 1 := by
  unfold bitLen
  rw [bl, if_neg (by omega), bl_enough 63 (n / 2) (by omega)]
theorem bitLen_shift : ∀ (k n : Nat), n < 2 ^ 63 → 2 ^ k ≤ n → bitLen n = bitLen (n / 2 ^ k) + k
  | 0, n, _, _ => by simp
  | k + 1, n, h, hk => by
    have h0 : 0 < n := Nat.lt_of_lt_of_le (Nat.pow_pos (by decide)) hk
    rw [bitLen_half h h0, bitLen_shift k (n / 2) (by omega) (by rw [Nat.pow_succ] at hk; omega), Nat.div_div_eq_div_mul, Nat.pow_succ, Nat.mul_comm 2 (2 ^ k)]
    omega
theorem tab_of {s : ByteArray} {f : Nat → Nat} {N : Nat} (h : ∀ x, x < N → s[x]? = some (UInt8.ofNat (f x))) (m : Nat) (hm : m < N) : s[(m : Int).toNat]? = some (UInt8.ofNat (f m)) := by
  rw [Int.toNat_natCast]
  exact h m hm
theorem bitLen_256 : ∀ x, x < 256 → bitLen x ≤ 8 := by decide +kernel
theorem pow_of_bitLen : ∀ (k n : Nat), n < 2 ^ 63 → (bitLen n ≤ k ↔ n < 2 ^ k)
  | 0, n, h => by
    rcases Nat.eq_zero_or_pos n with h0 | h0
    · subst h0
      simp [bitLen, bl]
    · rw [bitLen_half h h0]
      simp
      omega
  | k + 1, n, h => by
    rcases Nat.eq_zero_or_pos n with h0 | h0
    · subst h0
      simp [bitLen, bl]
      exact Nat.pow_pos (by decide)
    · have := pow_of_bitLen k (n / 2) (by omega)
      rw [bitLen_half h h0, Nat.pow_succ]
      omega
/-- How many groups of seven bits a number of 32 bits has. -/
def groups (n : Nat) : Nat := if n < 128 then 1 else if n < 16384 then 2 else if n < 2097152 then 3 else if n < 268435456 then 4 else 5
def groupsL (k : Nat) : Nat := if k ≤ 7 then 1 else if k ≤ 14 then 2 else if k ≤ 21 then 3 else if k ≤ 28 then 4 else 5
theorem groups_of (n : Nat) (h : n < 2 ^ 32) : groupsL (bitLen n) = groups n := by
  have h7 := pow_of_bitLen 7 n (by omega)
  have h14 := pow_of_bitLen 14 n (by omega)
  have h21 := pow_of_bitLen 21 n (by omega)
  have h28 := pow_of_bitLen 28 n (by omega)
  unfold groupsL groups
  simp only [h7, h14, h21, h28]
end Go.Proofs.YtjepglidlblmlaaDoor.K
