/- Going over a map. -/
import Derived.Test.YtepamajphjgigaaGreatDoorB4
import Derived.Maps.RangeRun
set_option linter.unusedVariables false
set_option linter.unusedSimpArgs false
namespace Go.Proofs.YtepamajphjgigaaGreatDoor.K
open Go
set_option maxHeartbeats 800000

/-- Block r goes over the map in block b of n entries; those of the numbers in seen have been. -/
def IterO (w : World) (r b n : Nat) (seen : List Nat) : Prop := w.heap[r]? = some (.mapIter (some b) n seen.toArray n)
theorem IterO.ext {M : Nat → Prop} {w w' : World} {r b n : Nat} {seen : List Nat} (h : IterO w r b n seen) (x : Ext M w w') (hb : ¬ M r) : IterO w' r b n seen := x.obj h hb
theorem range_map {o : Oper} {e : Env} {w : World} {K : Value → World → Prop} {t : TypeId} {x : Operand} {b kt et s1 b1 : Nat} {z1 : List Value} {kvs : List (Nat × Value)} (ho : o.op = .range t x) (hx : ev e x = some (.map (some b))) (ht : tlook X.tab t = some ⟨.map kt et, s1, b1, z1⟩) (hm : MapO w b kvs)
    (hk : ∀ r w', w.heap.size ≤ r → IterO w' r b kvs.length [] → Ext nob w w' → K (.pointer (some ⟨r, 0, none⟩)) w') : semVC X o e w K := by
  obtain ⟨d, inf, zv, hr⟩ := X.row ht
  have hd := hr.desc
  cases d <;> simp [descOf] at hd
  have hb : w.heap[b]? = some (.map (kvs.zipIdx.map ent).toArray kvs.length) := hm
  refine .inl ⟨.pointer (some ⟨w.heap.size, 0, none⟩), w.alloc (.mapIter (some b) kvs.length #[] kvs.length), fun ρ hρ => .inl ?_, hk _ _ (Nat.le_refl _) ?_ (Ext.alloc w _)⟩
  · have h1 := hρ x _ hx
    simp [execOp, ho, h1, Instr.range, hr.run_und, getObj, Sem.run, hb, Result.andThen, newObj]
  · show (w.heap.push _)[w.heap.size]? = _
    simp
theorem next_map {o : Oper} {e : Env} {w : World} {K : Value → World → Prop} {x : Operand} {r b : Nat} {kvs : List (Nat × Value)} {seen : List Nat} (ho : o.op = .next x false) (hx : ev e x = some (.pointer (some ⟨r, 0, none⟩))) (hm : MapO w b kvs) (hi : IterO w r b kvs.length seen) (hrb : r ≠ b)
    (h0 : (∀ i, i < kvs.length → i ∈ seen) → K (.tuple #[.bool false]) w)
    (h1 : ∀ i y, kvs[i]? = some y → i ∉ seen → ∀ w', IterO w' r b kvs.length (seen ++ [i]) → Ext (fun k => k = r) w w' → K (.tuple #[.bool true, .int .u32 (y.1 : Int), y.2]) w') : semVC X o e w K := by
  have hb : w.heap[b]? = some (.map (kvs.zipIdx.map ent).toArray kvs.length) := hm
  have hborn : ∀ z, z ∈ (kvs.zipIdx.map ent) → ∃ i y, kvs[i]? = some y ∧ z = ent (y, i) := by
    intro z hz
    obtain ⟨⟨y, i⟩, hy, rfl⟩ := List.mem_map.1 hz
    have := List.mem_zipIdx_iff_getElem?.1 hy
    exact ⟨i, y, this, rfl⟩
  have hold : ∀ z, z ∈ (kvs.zipIdx.map ent).toArray.toList → z.born < kvs.length := by
    intro z hz
    obtain ⟨i, y, hy, rfl⟩ := hborn z (by simpa using hz)
    exact (List.getElem?_eq_some_iff.1 hy).1
  rcases run_next_at (P := X.P) w o.type r b kvs.length kvs.length seen.toArray _ kvs.length hi hb hold (Nat.le_refl _) with ⟨hz, hrun⟩ | ⟨z, hz, w1, hw1, hrun⟩
  · refine .inl ⟨_, _, fun ρ hρ => .inl ?_, h0 fun i hi' => ?_⟩
    · have h2 := hρ x _ hx
      simp [execOp, ho, h2, hrun]
    · have hns : seen.toArray.contains i = true := by
        cases hc : seen.toArray.contains i with
        | true => rfl
        | false =>
          have hmem : ent (kvs[i], i) ∈ leftOf (kvs.zipIdx.map ent).toArray seen.toArray := by
            unfold leftOf
            rw [Array.mem_filter]
            refine ⟨?_, ?_⟩
            · rw [List.mem_toArray]
              exact List.mem_map.2 ⟨(kvs[i], i), List.mem_zipIdx_iff_getElem?.2 (by simp [hi']), rfl⟩
            · show (!seen.toArray.contains i) = true
              rw [hc]
              rfl
          have hpos : 0 < (leftOf (kvs.zipIdx.map ent).toArray seen.toArray).size := Array.size_pos_of_mem hmem
          omega
      simpa using hns
  · unfold leftOf at hz
    have hz := Array.mem_filter.1 (Array.mem_toList_iff.1 hz)
    obtain ⟨i, y, hy, rfl⟩ := hborn z (List.mem_toArray.1 hz.1)
    have hns : i ∉ seen := by
      have := hz.2
      simpa [ent] using this
    refine .inl ⟨_, _, fun ρ hρ => .inl ?_, h1 i y hy hns (ChangeMaps.setBlock w1 r (.mapIter (some b) kvs.length (seen.toArray.push i) kvs.length)) ?_ ?_⟩
    · have h2 := hρ x _ hx
      simp only [ent] at hrun
      simp [execOp, ho, h2, hrun]
    · have hr1 : r < w1.heap.size := by
        have : r < w.heap.size := (Array.getElem?_eq_some_iff.1 hi).1
        rcases hw1 with rfl | rfl <;> exact this
      show (w1.heap.setIfInBounds r _)[r]? = _
      rw [Array.getElem?_setIfInBounds_self_of_lt hr1]
      simp
    · have hx1 : Ext nob w w1 := by
        rcases hw1 with rfl | rfl
        · exact Ext.refl _ _
        · exact ext_drew _
      refine (hx1.mono fun _ _ f => f.elim).trans (M' := fun k => k = r) ⟨rfl, rfl, rfl, by simp [ChangeMaps.setBlock], fun k hk hn => ?_⟩ fun _ _ h => h
      show (w1.heap.setIfInBounds r _)[k]? = _
      rw [Array.getElem?_setIfInBounds_ne (fun h => hn h.symm)]
theorem entry_map {o : Oper} {e : Env} {w : World} {K : Value → World → Prop} {x : Operand} {r b i : Nat} {kvs : List (Nat × Value)} {seen : List Nat} {y : Nat × Value} (ho : o.op = .entry x) (hx : ev e x = some (.pointer (some ⟨r, 0, none⟩))) (hm : MapO w b kvs) (hi : IterO w r b kvs.length (seen ++ [i])) (hy : kvs[i]? = some y)
    (hk : K (.tuple #[.int .u32 (y.1 : Int), y.2]) w) : semVC X o e w K := by
  have hb : w.heap[b]? = some (.map (kvs.zipIdx.map ent).toArray kvs.length) := hm
  have hi' : w.heap[r]? = some (.mapIter (some b) kvs.length (seen.toArray.push (ent (y, i)).born) kvs.length) := by
    have : w.heap[r]? = some (.mapIter (some b) kvs.length (seen ++ [i]).toArray kvs.length) := hi
    rw [this]
    simp [ent]
  have hmem : ent (y, i) ∈ (kvs.zipIdx.map ent).toArray.toList := by
    simp only [List.mem_map]
    exact ⟨(y, i), List.mem_zipIdx_iff_getElem?.2 hy, rfl⟩
  have hnd : ((kvs.zipIdx.map ent).toArray.toList.map (·.born)).Nodup := by
    have : (kvs.zipIdx.map ent).toArray.toList.map (·.born) = List.range kvs.length := by
      simp only [List.map_map]
      rw [List.range_eq_range', ← List.zipIdx_map_snd 0 kvs]
      rfl
    rw [this]
    exact List.nodup_range
  have hrun := run_entry_at (P := X.P) w r b kvs.length seen.toArray _ kvs.length _ hi' hb hmem hnd
  refine .inl ⟨_, _, fun ρ hρ => .inl ?_, hk⟩
  have h2 := hρ x _ hx
  simp only [ent] at hrun
  simp [execOp, ho, h2, hrun]
end Go.Proofs.YtepamajphjgigaaGreatDoor.K
