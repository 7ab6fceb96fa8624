
/- Appending one tag; going over the tags by rising numbers. -/
import Derived.Test.YtepamajphjgigaaGreatDoorB9
set_option linter.unusedVariables false
set_option linter.unusedSimpArgs false
namespace Go.Proofs.YtepamajphjgigaaGreatDoor.K
open Go
set_option maxHeartbeats 800000

/-- What block p holds has grown from v, of l, to v', of l and m. -/
structure Grew (w : World) (B p : Nat) (v : Value) (l m : List UInt8) (v' : Value) (w' : World) : Prop where
  ob : OB w' B v' (l ++ m)
  ext : Ext (fun j => j = p ∨ v.ownBlock = some j) w w'
  blk : v'.ownBlock = v.ownBlock ∨ ∃ k, v'.ownBlock = some k ∧ w.heap.size ≤ k
theorem Grew.start {w : World} {B p : Nat} {v : Value} {l : List UInt8} (h : OB w B v l) : Grew w B p v l [] v w := ⟨by rw [List.append_nil]; exact h, Ext.refl _ _, .inl rfl⟩
theorem Grew.tr {w w1 w2 : World} {B p : Nat} {v r r2 : Value} {l m m2 : List UInt8} (h : Grew w B p v l m r w1) (h2 : Grew w1 B p r (l ++ m) m2 r2 w2) : Grew w B p v l (m ++ m2) r2 w2 := by
  refine ⟨by rw [← List.append_assoc]; exact h2.ob, h.ext.trans h2.ext fun k hk hr => ?_, ?_⟩
  · rcases hr with hr | hr
    · exact .inl hr
    rcases h.blk with e | ⟨q, hq, hle⟩
    · rw [← e]; exact .inr hr
    · rw [hq, Option.some.injEq] at hr
      omega
  · rcases h2.blk with e | ⟨q, hq, hle⟩
    · rw [e]
      exact h.blk
    · exact .inr ⟨q, hq, Nat.le_trans h.ext.size hle⟩
end Go.Proofs.YtepamajphjgigaaGreatDoor.K
