/- sort.Slice over own keys, in own terms. -/
import Derived.Test.YtepamajphjgigaaGreatDoorB8
import Derived.Shelf.GgSortFunc.Whole
import Derived.Shelf.GgSortFunc.Tiny
set_option linter.unusedVariables false
set_option linter.unusedSimpArgs false
namespace Go.Proofs.YtepamajphjgigaaGreatDoor.K
open Go Go.Shelf Go.RowKit Go.Lib Go.Sort
set_option maxHeartbeats 800000

noncomputable def siT : TypeInfo := (Tryz.prog.info? 129).get (by kernel_rfl)
noncomputable def siE : TypeInfo := (Tryz.prog.info? 60).get (by kernel_rfl)
theorem siK (n : Nat) (h2 : 2 ≤ n) : Lib.swapperK n siE 10 = 6 := by
  have a : siE.hasPointers = false := by kernel_rfl
  have b : siE.bytes = 4 := by kernel_rfl
  have c : (n == 0) = false := by simp; omega
  have d : (n == 1) = false := by simp; omega
  simp [Lib.swapperK, a, b, c, d]
abbrev ltU (x y : Int) : Bool := decide (x < y)
theorem own_holds {w : World} {blk : Nat} {T : TypeId} {d : List Int} {rest : List Value} (h : Own w blk T (d.map (Value.int .u32) ++ rest)) : Holds (Value.int .u32) w blk 0 d.toArray := by
  intro j hj
  have hj' : j < d.length := by simpa using hj
  refine ⟨?_, ?_⟩
  · have := h.cell (o := j) (v := .int .u32 d[j]) (by rw [List.getElem?_append_left (by simpa using hj')]; simp [hj'])
    simpa [hj'] using this
  · unfold Own at h
    simp [World.frozen?, h]
theorem sort_tiny {w : World} {p : Option Addr} {n c : Nat} (h1 : n ≤ 1) (lb : Array Value) :
    Calls Tryz.prog 76 #[.iface 129 (.slice p n c), .func (.func 77) #[] lb] w fun e w' => e = .returned (.tuple #[]) ∧ ∃ os, w' = grow w os := by
  have hK : Lib.swapperK n siE 10 = n + 1 := by
    rcases Nat.eq_zero_or_pos n with h | h
    · subst h; simp [Lib.swapperK]
    · obtain rfl : n = 1 := by omega
      simp [Lib.swapperK]
  exact Any.sort_Slice_tiny sa6 129 60 siT siE (by kernel_rfl) (by kernel_rfl) (by kernel_rfl) (by kernel_rfl) 10 (fun _ => by kernel_rfl) p n c h1 (102 + n) (by
    rw [hK]
    rcases Nat.eq_zero_or_pos n with h | h
    · subst h; kernel_rfl
    · obtain rfl : n = 1 := by omega
      kernel_rfl) _ #[] lb w
theorem swo_ltU : SWO ltU := swo_ltInt
theorem sort_many {w : World} {blk pv c : Nat} {T T' : TypeId} {d : List Int} {rest : List Value} (h2 : 2 ≤ d.length) (hsz : d.length < 4611686018427387904) (hd : Own w blk T (d.map (Value.int .u32) ++ rest)) (hp : Own w pv T' [.slice (some ⟨blk, 0, none⟩) d.length c]) (hne : pv ≠ blk) :
    Calls Tryz.prog 76 #[.iface 129 (.slice (some ⟨blk, 0, none⟩) d.length c), .func (.func 77) #[] #[.pointer (some ⟨pv, 0, none⟩)]] w fun e w' =>
      e = .returned (.tuple #[]) ∧ ∃ d' n os, PermIn 0 d.toArray.size d.toArray d' ∧ SortedIn ltU 0 d.toArray.size d' ∧ w' = grow (putRow (Value.int .u32) (Sort.ahead w n) blk 0 d') os := by
  have hH := own_holds hd
  have hb := hd.lt
  have hb' := hp.lt
  have hcp := hp.cell (o := 0) (v := .slice (some ⟨blk, 0, none⟩) d.length c) rfl
  have hless : LessReads Tryz.prog 77 #[.pointer (some ⟨pv, 0, none⟩)] (Value.int .u32) ltU blk 0 d.toArray.size w := by
    intro m os dk hs i j hi hj
    have e : sortWorld (Value.int .u32) w blk 0 m dk os = putRow (Value.int .u32) (grow (Sort.ahead w m) os) blk 0 dk := by
      unfold sortWorld; rw [putRow_grow _ (Sort.ahead w m) _ blk 0 _ hb]
    have hHg : Holds (Value.int .u32) (grow (Sort.ahead w m) os) blk 0 d.toArray := holds_grow _ _ _ blk 0 _ hb (holds_ahead _ _ _ _ _ _ hH)
    have hl := less_does (w := sortWorld (Value.int .u32) w blk 0 m dk os) (pv := pv) (blk := blk) (n := d.toArray.size) (c := c) (G := fun t => dk[t]!)
      (by
        rw [e, cell?_putRow_other _ _ blk 0 dk _ (Or.inl hne), cell?_grow _ _ _ (by exact hb')]
        simpa using hcp)
      (fun t ht => by rw [e]; exact cell?_putRow _ _ blk 0 _ dk hHg hs t (by omega)) hi hj
    rcases hl.run with ⟨_, hc⟩ | ⟨v, w', hr, _⟩
    · refine hc.mono ?_
      rintro e' w' h
      cases e' with
      | returned v => obtain ⟨rfl, rfl⟩ := h; exact ⟨rfl, 1, rfl⟩
      | _ => exact h.elim
    · have hr' := hr.symm.trans (enters_of (P := Tryz.prog) Tryz.func77 (by kernel_rfl) rfl _ _)
      simp at hr'
  have hS := Any.sort_Slice_sorted sa6 129 60 siT siE (by kernel_rfl) (by kernel_rfl) (by kernel_rfl) (by kernel_rfl) 10 (fun _ => by kernel_rfl) (by kernel_rfl) (fun _ => by kernel_rfl) (Value.int .u32) (fun _ => rfl) ltU swo_ltU 77 _
    (enters_of Tryz.func77 (by kernel_rfl) rfl) blk 0 c d.toArray (by simpa using h2) (by simpa using hsz) 107 (by rw [siK _ (by simpa using h2)]; kernel_rfl) true
    (fun args W => run_callFunc_extern Tryz.func107 (by kernel_rfl) (by kernel_rfl) (by kernel_rfl) (e := Extern.ReflectliteSwapper.swap true) (by kernel_rfl) args W) w hless hH hb
  have hz : d.toArray.size = d.length := by simp
  rw [hz] at hS ⊢
  exact hS
theorem own_putRow {w : World} {blk n : Nat} {T : TypeId} {d : List Int} {d' : Array Int} {os : Array Obj} {rest : List Value} (h : Own w blk T (d.map (Value.int .u32) ++ rest)) (hs : d'.size = d.length) :
    Own (grow (putRow (Value.int .u32) (Sort.ahead w n) blk 0 d') os) blk T (d'.toList.map (Value.int .u32) ++ rest) ∧ Ext (fun k => k = blk) w (grow (putRow (Value.int .u32) (Sort.ahead w n) blk 0 d') os) := by
  have hb := h.lt
  refine ⟨?_, ⟨rfl, rfl, rfl, ?_, ?_⟩⟩
  · unfold Own at h ⊢
    have h1 : (w.heap.modify blk (onCells (putCells (Value.int .u32) 0 d')))[blk]? = some (.cells (d'.toList.map (Value.int .u32) ++ rest).toArray T (0, 0)) := by
      rw [Array.getElem?_modify]
      simp [h, onCells]
      apply Array.ext
      · simp [putCells, hs]
      · intro i h1 h2
        simp only [putCells, Array.getElem_mapIdx, List.getElem_toArray]
        by_cases hi : i < d'.size
        · rw [List.getElem_append_left (by simp; omega), List.getElem_append_left (by simpa using hi)]
          simp [hi]
        · rw [if_neg (by omega), List.getElem_append_right (by simp; omega), List.getElem_append_right (by simp; omega)]
          simp [hs]
    show (w.heap.modify blk (onCells (putCells (Value.int .u32) 0 d')) ++ os)[blk]? = _
    rw [Array.getElem?_append_left (by simpa using hb)]
    exact h1
  · show w.heap.size ≤ (w.heap.modify blk (onCells (putCells (Value.int .u32) 0 d')) ++ os).size
    simp
  · intro k hk hn
    show (w.heap.modify blk (onCells (putCells (Value.int .u32) 0 d')) ++ os)[k]? = _
    rw [Array.getElem?_append_left (by simpa using hk), Array.getElem?_modify]
    rw [if_neg (fun e => hn e.symm)]
theorem sort_keys {w : World} {blk pv c : Nat} {T T' : TypeId} {d : List Int} {rest : List Value} (hsz : d.length < 4611686018427387904) (hd : Own w blk T (d.map (Value.int .u32) ++ rest)) (hp : Own w pv T' [.slice (some ⟨blk, 0, none⟩) d.length c]) (hne : pv ≠ blk) :
    Does X.P 76 #[.iface 129 (.slice (some ⟨blk, 0, none⟩) d.length c), .func (.func 77) #[] #[.pointer (some ⟨pv, 0, none⟩)]] w fun r w' =>
      ∃ d' : List Int, d'.Perm d ∧ d'.Pairwise (fun x y => x ≤ y) ∧ Own w' blk T (d'.map (Value.int .u32) ++ rest) ∧ Ext (fun k => k = blk) w w' := by
  refine ⟨.inl ⟨callOK_of (P := Tryz.prog) Tryz.func76 (by kernel_rfl) (by kernel_rfl), ?_⟩⟩
  by_cases h2 : 2 ≤ d.length
  · refine (sort_many h2 hsz hd hp hne).mono ?_
    rintro e w' ⟨rfl, d', n, os, hperm, hsrt, rfl⟩
    have hs : d'.size = d.length := by simpa using hperm.1
    have h := own_putRow (n := n) (os := os) hd hs
    refine ⟨d'.toList, ?_, ?_, h.1, h.2⟩
    · have h3 := hperm.2.2
      have e1 : d'.extract 0 d.toArray.size = d' := by rw [show d.toArray.size = d'.size by simp [hs]]; exact Array.extract_size
      have e2 : d.toArray.extract 0 d.toArray.size = d.toArray := Array.extract_size
      rw [e1, e2] at h3
      exact h3
    · rw [List.pairwise_iff_getElem]
      intro i j hi hj hij
      have := hsrt i j (Nat.zero_le _) hij (by rw [show d.toArray.size = d'.size by simp [hs]]; simpa using hj)
      have hi' : i < d'.size := by simpa using hi
      have hj' : j < d'.size := by simpa using hj
      simp [ltU, hi', hj'] at this
      simpa using this
  · refine (sort_tiny (by omega) _).mono ?_
    rintro e w' ⟨rfl, os, rfl⟩
    refine ⟨d, List.Perm.refl _, ?_, ?_, ?_⟩
    · match d, h2 with
      | [], _ => simp
      | [x], _ => simp
      | x :: y :: r, h => simp at h
    · unfold Own at hd ⊢
      show (w.heap ++ os)[blk]? = _
      rw [Array.getElem?_append_left (Array.getElem?_eq_some_iff.1 hd).1]; exact hd
    · refine ⟨rfl, rfl, rfl, ?_, fun k hk _ => ?_⟩
      · show w.heap.size ≤ (w.heap ++ os).size
        simp
      · show (w.heap ++ os)[k]? = _
        rw [Array.getElem?_append_left hk]
end Go.Proofs.YtepamajphjgigaaGreatDoor.K
