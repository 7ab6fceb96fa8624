
/- Appending to octets. -/
import Derived.Test.YtepamajphjgigaaGreatDoorG2
set_option linter.unusedVariables false
set_option linter.unusedSimpArgs false
namespace Go.Proofs.YtepamajphjgigaaGreatDoor.K
open Go
set_option maxHeartbeats 400000

/-- v, of the octets l, has become r, of the octets l and m. -/
structure Apd (w : World) (B : Nat) (v : Value) (l m : List UInt8) (r : Value) (w' : World) : Prop where
  ob : OB w' B r (l ++ m)
  ext : Ext (fun k => v.ownBlock = some k) w w'
  blk : r.ownBlock = v.ownBlock ∨ ∃ k, r.ownBlock = some k ∧ w.heap.size ≤ k
theorem Apd.start {w : World} {B : Nat} {v : Value} {l : List UInt8} (h : OB w B v l) : Apd w B v l [] v w := ⟨by rw [List.append_nil]; exact h, Ext.refl _ _, .inl rfl⟩
theorem Apd.e0 {w w1 w2 : World} {B : Nat} {v r : Value} {l m : List UInt8} (h : Apd w B v l m r w1) (x : Ext nob w1 w2) : Apd w B v l m r w2 := ⟨h.ob.e0 x, h.ext.tr0 x, h.blk⟩
theorem Apd.pre {w w1 w2 : World} {B : Nat} {v r : Value} {l m : List UInt8} (x : Ext nob w w1) (h : Apd w1 B v l m r w2) : Apd w B v l m r w2 :=
  ⟨h.ob, (x.mono fun _ _ f => f.elim).trans h.ext fun _ _ h => h, h.blk.imp id fun ⟨k, h1, h2⟩ => ⟨k, h1, Nat.le_trans x.size h2⟩⟩
theorem Apd.tr {w w1 w2 : World} {B : Nat} {v r r2 : Value} {l m m2 : List UInt8} (h : Apd w B v l m r w1) (h2 : Apd w1 B r (l ++ m) m2 r2 w2) : Apd w B v l (m ++ m2) r2 w2 := by
  refine ⟨by rw [← List.append_assoc]; exact h2.ob, h.ext.trans h2.ext fun k hk hr => ?_, ?_⟩
  · rcases h.blk with e | ⟨q, hq, hle⟩
    · rw [← e]; exact hr
    · rw [hq, Option.some.injEq] at hr
      omega
  · rcases h2.blk with e | ⟨q, hq, hle⟩
    · rw [e]
      exact h.blk
    · exact .inr ⟨q, hq, Nat.le_trans h.ext.size hle⟩
theorem Apd.size {w w' : World} {B : Nat} {v r : Value} {l m : List UInt8} (h : Apd w B v l m r w') : w.heap.size ≤ w'.heap.size := h.ext.size
theorem fd (n : Int) (k : Nat) : n.fdiv (2 ^ k) = n / 2 ^ k := Int.fdiv_eq_ediv_of_nonneg _ (Int.le_of_lt (Int.pow_pos (by decide)))
theorem fixed1 (n : Int) : fixed n 1 = [b8 n] := by simp [fixed, Int.fdiv_eq_ediv_of_nonneg]
theorem fixed2 (n : Int) : fixed n 2 = [b8 (n / 256), b8 n] := by simp [fixed, Int.fdiv_eq_ediv_of_nonneg]
theorem fixed4 (n : Int) : fixed n 4 = [b8 (n / 16777216), b8 (n / 65536), b8 (n / 256), b8 n] := by simp [fixed, Int.fdiv_eq_ediv_of_nonneg]
theorem fixed8 (n : Int) : fixed n 8 = [b8 (n / 72057594037927936), b8 (n / 281474976710656), b8 (n / 1099511627776), b8 (n / 4294967296), b8 (n / 16777216), b8 (n / 65536), b8 (n / 256), b8 n] := by simp [fixed, Int.fdiv_eq_ediv_of_nonneg]
theorem wrap_u16 (n : Int) : IntKind.u16.wrap n = n % 65536 := by simp [IntKind.wrap, IntKind.bits, IntKind.signed]
theorem wrap_u32 (n : Int) : IntKind.u32.wrap n = n % 4294967296 := by simp [IntKind.wrap, IntKind.bits, IntKind.signed]
theorem wrap_u64 (n : Int) : IntKind.u64.wrap n = n % 18446744073709551616 := by simp [IntKind.wrap, IntKind.bits, IntKind.signed]
end Go.Proofs.YtepamajphjgigaaGreatDoor.K
