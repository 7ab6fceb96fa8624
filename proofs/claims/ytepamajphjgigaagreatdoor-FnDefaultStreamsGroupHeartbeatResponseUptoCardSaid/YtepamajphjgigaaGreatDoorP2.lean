/- Reading of octets, in plain Lean: numbers. -/
import Derived.Test.YtepamajphjgigaaGreatDoorB3
set_option linter.unusedVariables false
set_option linter.unusedSimpArgs false
namespace Go.Proofs.YtepamajphjgigaaGreatDoor.K
open Go

/-- What is left of the octets, and whether too few were there. -/
abbrev Rd := List UInt8 × Bool
def beN (l : List UInt8) : Nat := l.foldl (fun a b => a * 256 + b.toNat) 0
/-- k octets, the high ones ahead. -/
def rdK (k : Nat) (s : Rd) : Nat × Rd := if s.1.length < k then (0, ([], true)) else (beN (s.1.take k), (s.1.drop k, s.2))
/-- A number of seven bits an octet, of at most five octets. -/
def rdUv (s : Rd) : Nat × Rd :=
  match s.1 with
  | [] => (0, ([], true))
  | a :: r1 => if a.toNat < 128 then (a.toNat % 128, (r1, s.2)) else
    match r1 with
    | [] => (0, ([], true))
    | b :: r2 => if b.toNat < 128 then (a.toNat % 128 + b.toNat % 128 * 128, (r2, s.2)) else
      match r2 with
      | [] => (0, ([], true))
      | c :: r3 => if c.toNat < 128 then (a.toNat % 128 + b.toNat % 128 * 128 + c.toNat % 128 * 16384, (r3, s.2)) else
        match r3 with
        | [] => (0, ([], true))
        | d :: r4 => if d.toNat < 128 then (a.toNat % 128 + b.toNat % 128 * 128 + c.toNat % 128 * 16384 + d.toNat % 128 * 2097152, (r4, s.2)) else
          match r4 with
          | [] => (0, ([], true))
          | e :: r5 => if e.toNat < 16 then (a.toNat % 128 + b.toNat % 128 * 128 + c.toNat % 128 * 16384 + d.toNat % 128 * 2097152 + e.toNat * 268435456, (r5, s.2)) else (0, ([], true))
theorem b8_val (x : Int) : ((b8 x).toNat : Int) = x % 256 := by
  unfold b8
  rw [UInt8.toNat_ofNat']
  omega
theorem rdK_append (k : Nat) (l r : List UInt8) (b : Bool) (h : l.length = k) : rdK k (l ++ r, b) = (beN l, (r, b)) := by
  unfold rdK
  simp only [List.length_append]
  rw [if_neg (by omega), ← h, List.take_left, List.drop_left]
theorem be1 (n : Int) : (beN (fixed n 1) : Int) = n % 256 := by
  have h0 := b8_val n
  rw [fixed1]
  simp only [beN, List.foldl_cons, List.foldl_nil]
  omega
theorem be2 (n : Int) : (beN (fixed n 2) : Int) = n % 65536 := by
  have h0 := b8_val n
  have h1 := b8_val (n / 256)
  rw [fixed2]
  simp only [beN, List.foldl_cons, List.foldl_nil]
  omega
theorem be4 (n : Int) : (beN (fixed n 4) : Int) = n % 4294967296 := by
  have h0 := b8_val n
  have h1 := b8_val (n / 256)
  have h2 := b8_val (n / 65536)
  have h3 := b8_val (n / 16777216)
  rw [fixed4]
  simp only [beN, List.foldl_cons, List.foldl_nil]
  omega
theorem be8 (n : Int) : (beN (fixed n 8) : Int) = n % 18446744073709551616 := by
  have h0 := b8_val n
  have h1 := b8_val (n / 256)
  have h2 := b8_val (n / 65536)
  have h3 := b8_val (n / 16777216)
  have h4 := b8_val (n / 4294967296)
  have h5 := b8_val (n / 1099511627776)
  have h6 := b8_val (n / 281474976710656)
  have h7 := b8_val (n / 72057594037927936)
  rw [fixed8]
  simp only [beN, List.foldl_cons, List.foldl_nil]
  omega
theorem b8_nat (n : Nat) (h : n < 256) : (b8 (n : Int)).toNat = n := by
  have := b8_val (n : Int)
  omega
theorem rdUv_uvar (n : Nat) (hn : n < 2 ^ 32) (r : List UInt8) (b : Bool) : rdUv (uvar n ++ r, b) = (n, (r, b)) := by
  by_cases h1 : 127 < n
  · rw [uvar_big h1]
    have e1 : (b8 ((n % 128 + 128 : Nat) : Int)).toNat = n % 128 + 128 := b8_nat _ (by omega)
    by_cases h2 : 127 < n / 128
    · rw [uvar_big h2]
      have e2 : (b8 ((n / 128 % 128 + 128 : Nat) : Int)).toNat = n / 128 % 128 + 128 := b8_nat _ (by omega)
      by_cases h3 : 127 < n / 128 / 128
      · rw [uvar_big h3]
        have e3 : (b8 ((n / 128 / 128 % 128 + 128 : Nat) : Int)).toNat = n / 128 / 128 % 128 + 128 := b8_nat _ (by omega)
        by_cases h4 : 127 < n / 128 / 128 / 128
        · rw [uvar_big h4, uvar_small (by omega)]
          have e4 : (b8 ((n / 128 / 128 / 128 % 128 + 128 : Nat) : Int)).toNat = n / 128 / 128 / 128 % 128 + 128 := b8_nat _ (by omega)
          have e5 : (b8 ((n / 128 / 128 / 128 / 128 : Nat) : Int)).toNat = n / 128 / 128 / 128 / 128 := b8_nat _ (by omega)
          simp only [rdUv, List.cons_append, List.nil_append, e1, e2, e3, e4, e5]
          rw [if_neg (by omega), if_neg (by omega), if_neg (by omega), if_neg (by omega), if_pos (by omega)]
          refine Prod.ext ?_ rfl
          simp only
          omega
        · rw [uvar_small h4]
          have e4 : (b8 ((n / 128 / 128 / 128 : Nat) : Int)).toNat = n / 128 / 128 / 128 := b8_nat _ (by omega)
          simp only [rdUv, List.cons_append, List.nil_append, e1, e2, e3, e4]
          rw [if_neg (by omega), if_neg (by omega), if_neg (by omega), if_pos (by omega)]
          refine Prod.ext ?_ rfl
          simp only
          omega
      · rw [uvar_small h3]
        have e3 : (b8 ((n / 128 / 128 : Nat) : Int)).toNat = n / 128 / 128 := b8_nat _ (by omega)
        simp only [rdUv, List.cons_append, List.nil_append, e1, e2, e3]
        rw [if_neg (by omega), if_neg (by omega), if_pos (by omega)]
        refine Prod.ext ?_ rfl
        simp only
        omega
    · rw [uvar_small h2]
      have e2 : (b8 ((n / 128 : Nat) : Int)).toNat = n / 128 := b8_nat _ (by omega)
      simp only [rdUv, List.cons_append, List.nil_append, e1, e2]
      rw [if_neg (by omega), if_pos (by omega)]
      refine Prod.ext ?_ rfl
      simp only
      omega
  · rw [uvar_small h1]
    have e1 : (b8 (n : Int)).toNat = n := b8_nat _ (by omega)
    simp only [rdUv, List.cons_append, List.nil_append, e1]
    rw [if_pos (by omega)]
    refine Prod.ext ?_ rfl
    simp only
    omega
/-- So many octets, or none. -/
def rdSpan (n : Int) (s : Rd) : List UInt8 × Rd := if (s.1.length : Int) < n ∨ n < 0 then ([], ([], true)) else (s.1.take n.toNat, (s.1.drop n.toNat, s.2))
theorem rdSpan_append (l r : List UInt8) (b : Bool) : rdSpan (l.length : Int) (l ++ r, b) = (l, (r, b)) := by
  unfold rdSpan
  simp only [List.length_append]
  rw [if_neg (by omega), Int.toNat_natCast, List.take_left, List.drop_left]
end Go.Proofs.YtepamajphjgigaaGreatDoor.K
