
/- sort.Slice over own keys, in own terms. -/
import Derived.Test.YtefgfdbckbkfiaaDoorB8
import Derived.Shelf.GgSortFunc.Whole
import Derived.Shelf.GgSortFunc.Tiny
set_option linter.unusedVariables false
set_option linter.unusedSimpArgs false
namespace Go.Proofs.YtefgfdbckbkfiaaDoor.K
open Go Go.Shelf Go.RowKit Go.Lib Go.Sort
set_option maxHeartbeats 800000

noncomputable def siE : TypeInfo := (Tryd.prog.info? 56).get (by kernel_rfl)
theorem siK (n : Nat) (h2 : 2 ≤ n) : Lib.swapperK n siE 10 = 6 := by
  have a : siE.hasPointers = false := by kernel_rfl
  have b : siE.bytes = 4 := by kernel_rfl
  have c : (n == 0) = false := by simp; omega
  have d : (n == 1) = false := by simp; omega
  simp [Lib.swapperK, a, b, c, d]
abbrev ltU (x y : Int) : Bool := decide (x < y)
theorem own_holds {w : World} {blk : Nat} {T : TypeId} {d : List Int} {rest : List Value} (h : Own w blk T (d.map (Value.int .u32) ++ rest)) : Holds (Value.int .u32) w blk 0 d.toArray := by
  intro j hj
  have hj' : j < d.length := by simpa using hj
  refine ⟨?_, ?_⟩
  · have := h.cell (o := j) (v := .int .u32 d[j]) (by rw [List.getElem?_append_left (by simpa using hj')]; simp [hj'])
    simpa [hj'] using this
  · unfold Own at h
    simp [World.frozen?, h]
theorem swo_ltU : SWO ltU := swo_ltInt
theorem own_putRow {w : World} {blk n : Nat} {T : TypeId} {d : List Int} {d' : Array Int} {os : Array Obj} {rest : List Value} (h : Own w blk T (d.map (Value.int .u32) ++ rest)) (hs : d'.size = d.length) :
    Own (grow (putRow (Value.int .u32) (Sort.ahead w n) blk 0 d') os) blk T (d'.toList.map (Value.int .u32) ++ rest) ∧ Ext (fun k => k = blk) w (grow (putRow (Value.int .u32) (Sort.ahead w n) blk 0 d') os) := by
  have hb := h.lt
  refine ⟨?_, ⟨rfl, rfl, rfl, ?_, ?_⟩⟩
  · unfold Own at h ⊢
    have h1 : (w.heap.modify blk (onCells (putCells (Value.int .u32) 0 d')))[blk]? = some (.cells (d'.toList.map (Value.int .u32) ++ rest).toArray T (0, 0)) := by
      rw [Array.getElem?_modify]
      simp [h, onCells]
      apply Array.ext
      · simp [putCells, hs]
      · intro i h1 h2
        simp only [putCells, Array.getElem_mapIdx, List.getElem_toArray]
        by_cases hi : i < d'.size
        · rw [List.getElem_append_left (by simp; omega), List.getElem_append_left (by simpa using hi)]
          simp [hi]
        · rw [if_neg (by omega), List.getElem_append_right (by simp; omega), List.getElem_append_right (by simp; omega)]
          simp [hs]
    show (w.heap.modify blk (onCells (putCells (Value.int .u32) 0 d')) ++ os)[blk]? = _
    rw [Array.getElem?_append_left (by simpa using hb)]
    exact h1
  · show w.heap.size ≤ (w.heap.modify blk (onCells (putCells (Value.int .u32) 0 d')) ++ os).size
    simp
  · intro k hk hn
    show (w.heap.modify blk (onCells (putCells (Value.int .u32) 0 d')) ++ os)[k]? = _
    rw [Array.getElem?_append_left (by simpa using hk), Array.getElem?_modify]
    rw [if_neg (fun e => hn e.symm)]
end Go.Proofs.YtefgfdbckbkfiaaDoor.K
