
/- What is written of values, fields and parts. -/
import Derived.Test.YtjepglidlblmlaaDoorG6
set_option linter.unusedVariables false
set_option linter.unusedSimpArgs false
namespace Go.Proofs.YtjepglidlblmlaaDoor.K
open Go
set_option maxHeartbeats 800000

theorem counted_length (flex null : Bool) (n k : Nat) (hn : n < 2 ^ 62) (hk : k ≤ 8) : (countedB flex null n k).length ≤ 10 := by
  have := uvar_length (n + 1)
  unfold countedB
  split
  · split
    · simp
    · omega
  · split <;> rw [fixed_length] <;> omega
/-- Counted octets. -/
theorem OB.own1 {w : World} {b : Nat} {l : List UInt8} (h : Own w b U8 (l.map bcell)) {n : Nat} (hn : n = l.length) (hm : n ≤ maxLen) {B : Nat} (hB : B ≤ b) : OB w B (.slice (some ⟨b, 0, none⟩) n n) l := by
  subst hn
  refine ⟨?_, fun k hk => ?_⟩
  · have := OwnSl.of_own (sz := 1) (n := l.length) (cap := l.length) h (Nat.le_refl _) hm (by simp)
    rw [Nat.mul_one, List.take_of_length_le (by simp)] at this
    exact this
  · simp only [Value.ownBlock, Option.some.injEq] at hk
    omega
theorem uuid_cells (s : List UInt8) : splice ((List.replicate 16 [Value.int IntKind.u8 0]).flatten) 0 ((s.map bcell).take (Nat.min s.length 16 * 1)) = (uuidB s).map bcell := by
  have e1 : (List.replicate 16 [Value.int IntKind.u8 0]).flatten = (List.replicate 16 (0 : UInt8)).map bcell := rfl
  rw [e1, Nat.mul_one]
  simp only [splice, List.take_zero, List.nil_append, Nat.zero_add]
  unfold uuidB
  rw [← List.map_take, List.length_map, List.length_take, ← List.map_drop, ← List.map_append]
  congr 1
  rcases Nat.le_total s.length 16 with h | h
  · rw [show Nat.min s.length 16 = s.length from Nat.min_eq_left h, Nat.min_self, List.take_of_length_le (Nat.le_refl _)]
    rw [List.take_append, List.take_of_length_le h, List.take_replicate, List.drop_replicate]
    congr 2
    omega
  · rw [show Nat.min s.length 16 = 16 from Nat.min_eq_right h, Nat.min_eq_left h]
    rw [List.take_append, show 16 - s.length = 0 by omega]
    simp
end Go.Proofs.YtjepglidlblmlaaDoor.K
