
/- Going over the tags by rising numbers. -/
import Derived.Test.YtefgfdbckbkfiaaDoorB11
set_option linter.unusedVariables false
set_option linter.unusedSimpArgs false
namespace Go.Proofs.YtefgfdbckbkfiaaDoor.K
open Go
set_option maxHeartbeats 1600000

theorem perm_map_inv {α β : Type} (f : α → β) : ∀ (d : List β) (l : List α), d.Perm (l.map f) → ∃ l' : List α, l'.Perm l ∧ l'.map f = d
  | [], l, h => by
    have : l = [] := by simpa using (List.nil_perm.1 h)
    subst this
    exact ⟨[], List.Perm.refl _, rfl⟩
  | x :: r, l, h => by
    have hx : x ∈ l.map f := h.subset (by simp)
    obtain ⟨y, hy, rfl⟩ := List.mem_map.1 hx
    obtain ⟨s, t, rfl⟩ := List.append_of_mem hy
    have h2 : r.Perm ((s ++ t).map f) := by
      have h3 : ((s ++ y :: t).map f).Perm (f y :: (s ++ t).map f) := by
        rw [List.map_append, List.map_cons, List.map_append]
        exact List.perm_middle
      exact (List.perm_cons _).1 (h.trans h3)
    obtain ⟨l', h4, h5⟩ := perm_map_inv f r (s ++ t) h2
    exact ⟨y :: l', ((List.perm_cons y).2 h4).trans List.perm_middle.symm, by rw [List.map_cons, h5]⟩
theorem range_left {n : Nat} {seen left : List Nat} (h : (seen ++ left).Perm (List.range n)) (hall : ∀ i, i < n → i ∈ seen) : left = [] := by
  have hn : (seen ++ left).Nodup := h.nodup_iff.2 List.nodup_range
  match left, h, hn with
  | [], _, _ => rfl
  | x :: r, h, hn =>
    have hx : x ∈ List.range n := h.subset (by simp)
    have hs := hall x (by simpa using hx)
    have := (List.nodup_append.1 hn).2.2 x hs x (by simp)
    exact absurd rfl this
theorem range_add {n i : Nat} {seen left : List Nat} (h : (seen ++ left).Perm (List.range n)) (hi : i < n) (hns : i ∉ seen) : ((seen ++ [i]) ++ left.erase i).Perm (List.range n) ∧ (left.erase i).length < left.length := by
  have hm : i ∈ seen ++ left := h.symm.subset (by simpa using hi)
  have hl : i ∈ left := (List.mem_append.1 hm).resolve_left hns
  refine ⟨?_, ?_⟩
  · rw [List.append_assoc]
    exact ((List.perm_append_left_iff seen).2 (List.perm_cons_erase hl).symm).trans h
  · rw [List.length_erase_of_mem hl]
    have := List.length_pos_of_mem hl
    omega
theorem flat_u32 (d : List Int) : (d.map fun k => [Value.int .u32 k]).flatten = d.map (Value.int .u32) := by
  induction d with
  | nil => rfl
  | cons x r ih => simp [ih]
def keyI (y : Nat × Value) : Int := (y.1 : Int)
theorem map_range_keys (kvs : List (Nat × Value)) : (List.range kvs.length).map (fun i => keyI (kvs.getD i (0, undef))) = kvs.map keyI := by
  apply List.ext_getElem
  · simp
  · intro i h1 h2
    simp at h1
    simp [List.getD_eq_getElem?_getD, h1]
end Go.Proofs.YtefgfdbckbkfiaaDoor.K
