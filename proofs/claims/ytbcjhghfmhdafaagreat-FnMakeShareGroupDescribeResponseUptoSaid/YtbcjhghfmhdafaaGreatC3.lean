/- Setting texts and octets. -/
import Derived.Test.YtbcjhghfmhdafaaGreatC2
set_option linter.unusedVariables false
set_option linter.unusedSimpArgs false
namespace Go.Proofs.YtbcjhghfmhdafaaGreat.K
open Go
set_option maxHeartbeats 800000
theorem ok_nil : okCells [] = true := rfl
theorem ok_cons {c : Value} {l : List Value} (h : c.oneCell' = true) (h2 : okCells l = true) : okCells (c :: l) = true := by
  simp only [okCells, List.all_cons, Bool.and_eq_true] at h2 ⊢
  exact ⟨h, h2⟩
theorem ok_at {l : List Value} {c : Value} (h : okCells l = true) (j : Nat) (hj : l[j]? = some c) : c.oneCell' = true := by
  simp only [okCells, List.all_eq_true] at h
  exact h c (List.mem_of_getElem? hj)
theorem NTextR.one {w : World} {F : Nat → Prop} {c : Value} {t : T} (h : NTextR w F c t) : c.oneCell' = true := by
  rcases h with ⟨_, rfl⟩ | ⟨_, b, o, rfl, _⟩ <;> rfl
theorem OctR.one {nb : Bool} {w : World} {F : Nat → Prop} {c : Value} {t : T} (h : OctR nb w F c t) : c.oneCell' = true := by
  rcases h with ⟨_, rfl⟩ | ⟨_, _, h⟩
  · rfl
  · exact Sl.one h
theorem ListR.one {nb : Bool} {sz : Nat} {R : List Value → T → Prop} {w : World} {F : Nat → Prop} {c : Value} {t : T} (h : ListR nb sz R w F c t) : c.oneCell' = true := by
  obtain ⟨a, k, ls, rfl, _⟩ := h.view
  rfl
theorem TagM.one {w : World} {F : Nat → Prop} {c : Value} {kvs : List (Nat × Value)} (h : TagM w F c kvs) : c.oneCell' = true := by cases h <;> rfl
theorem TagsR.one {w : World} {F : Nat → Prop} {c : Value} {u : List Tg} (h : TagsR w F c u) : c.oneCell' = true := by
  obtain ⟨kvs, h, _⟩ := h
  exact h.one
theorem and1_bool (n : Int) : (IntKind.i64.wrap ((BitVec.ofInt IntKind.i64.bits n &&& BitVec.ofInt IntKind.i64.bits 1).toNat : Int) == 1) = decide (n % 2 = 1) := by
  rw [and1]
  rfl
theorem bo_eq (n : Int) : [if (decide (n % 2 = 1)) = true then (1 : UInt8) else 0] = boA n := by
  unfold boA
  rcases (show n % 2 = 0 ∨ n % 2 = 1 by omega) with h | h <;> rw [h] <;> rfl
theorem cells_one {v : Value} (h : v.oneCell' = true) : v.cells.toList = [v] := by
  cases v <;> first | rfl | exact Bool.noConfusion h
theorem textOf_does {F : Nat → Prop} {w : World} {x : Value} {t : T} (ht : Tr w F x t) : Does X.P 90 #[x] w fun r w' => NTextR w' (fun k => w.heap.size ≤ k) r t ∧ r.oneCell' = true ∧ Ext nob w w' := by
  obtain ⟨sv, lv, uv, ls, rfl, _, hs, _⟩ := ht.open
  refine Does.go (X := X) (l := [_]) Tryz.func90 rfl (by kernel_rfl) (by kernel_rfl) _ rfl ?_
  ((conv=>whnf);repeat(first|(refine mvT ?_;conv=>whnf)|(refine mvF ?_;conv=>whnf)|(refine cT (by rfl) ?_;conv=>whnf)|(refine cF (by rfl) ?_;conv=>whnf)))
  intro b w1 hb ho hx
  ((conv=>whnf);repeat(first|(refine mvT ?_;conv=>whnf)|(refine mvF ?_;conv=>whnf)|(refine cT (by rfl) ?_;conv=>whnf)|(refine cF (by rfl) ?_;conv=>whnf)))
  refine ldS (ho.cell rfl) ?_;((conv=>whnf);repeat(first|(refine mvT ?_;conv=>whnf)|(refine mvF ?_;conv=>whnf)|(refine cT (by rfl) ?_;conv=>whnf)|(refine cF (by rfl) ?_;conv=>whnf)))
  refine cI (by rfl) (fun h=>?_) (fun h=>?_)
  · ((conv=>whnf);repeat(first|(refine mvT ?_;conv=>whnf)|(refine mvF ?_;conv=>whnf)|(refine cT (by rfl) ?_;conv=>whnf)|(refine cF (by rfl) ?_;conv=>whnf)))
    exact ⟨.inl ⟨h, rfl⟩, rfl, hx⟩
  · ((conv=>whnf);repeat(first|(refine mvT ?_;conv=>whnf)|(refine mvF ?_;conv=>whnf)|(refine cT (by rfl) ?_;conv=>whnf)|(refine cF (by rfl) ?_;conv=>whnf)))
    refine ldS (ho.cell rfl) ?_;((conv=>whnf);repeat(first|(refine mvT ?_;conv=>whnf)|(refine mvF ?_;conv=>whnf)|(refine cT (by rfl) ?_;conv=>whnf)|(refine cF (by rfl) ?_;conv=>whnf)))
    refine ⟨_, _, hs.e0 hx, ?_⟩
    ((conv=>whnf);repeat(first|(refine mvT ?_;conv=>whnf)|(refine mvF ?_;conv=>whnf)|(refine cT (by rfl) ?_;conv=>whnf)|(refine cF (by rfl) ?_;conv=>whnf)))
    intro b2 w2 hb2 ho2 hx2
    ((conv=>whnf);repeat(first|(refine mvT ?_;conv=>whnf)|(refine mvF ?_;conv=>whnf)|(refine cT (by rfl) ?_;conv=>whnf)|(refine cF (by rfl) ?_;conv=>whnf)))
    refine st_cell (o := 0) (v := str t.s) ho2 rfl (by omega) rfl (by simp) rfl ?_
    intro w3 ho3 hx3
    ((conv=>whnf);repeat(first|(refine mvT ?_;conv=>whnf)|(refine mvF ?_;conv=>whnf)|(refine cT (by rfl) ?_;conv=>whnf)|(refine cF (by rfl) ?_;conv=>whnf)))
    have hx03 := hx.trans (hx2.trans hx3 fun k hk h => by omega) fun _ _ h => h
    refine ⟨.inr ⟨h, b2, 0, rfl, ?_, ho3.lt, ho3.cell rfl⟩, rfl, hx03⟩
    have := hx.size
    omega
theorem uuid_len (s : List UInt8) : (uuidB s).length = 16 := by simp [uuidB]
theorem uuid_lit (s : List UInt8) : ∃ u0 u1 u2 u3 u4 u5 u6 u7 u8 u9 u10 u11 u12 u13 u14 u15, uuidB s = [u0, u1, u2, u3, u4, u5, u6, u7, u8, u9, u10, u11, u12, u13, u14, u15] := by
  have h := uuid_len s
  match uuidB s, h with
  | [u0, u1, u2, u3, u4, u5, u6, u7, u8, u9, u10, u11, u12, u13, u14, u15], _ => exact ⟨u0, u1, u2, u3, u4, u5, u6, u7, u8, u9, u10, u11, u12, u13, u14, u15, rfl⟩
theorem Cells.sub {w : World} {b : Nat} {l : List Value} (h : Cells w b 0 l) (j n : Nat) {m : List Value} (hm : (l.drop j).take n = m) : Cells w b (0 + j) m := by
  intro i u hi
  rw [← hm, List.getElem?_take] at hi
  split at hi
  · rw [List.getElem?_drop] at hi
    have := h (j + i) u hi
    rw [show 0 + j + i = 0 + (j + i) by omega]
    exact this
  · simp at hi
theorem Cells.sub2 {w : World} {b o o' : Nat} {l : List Value} (h : Cells w b o l) (j n : Nat) {m : List Value} (hm : (l.drop j).take n = m) (ho : o' = o + j) : Cells w b o' m := by
  subst ho
  intro i u hi
  rw [← hm, List.getElem?_take] at hi
  split at hi
  · rw [List.getElem?_drop] at hi
    have := h (j + i) u hi
    rw [show o + j + i = o + (j + i) by omega]
    exact this
  · simp at hi
theorem uuid_splice (s : List UInt8) : splice (List.replicate 16 (Value.int .u8 0)) 0 ((s.map bcell).take (Nat.min s.length 16 * 1)) = (uuidB s).map bcell := by
  unfold splice uuidB
  apply List.ext_getElem?
  intro i
  rw [List.take_zero, List.nil_append, Nat.mul_one]
  have hmin : Nat.min s.length 16 = min s.length 16 := rfl
  rw [hmin]
  simp only [List.length_take, List.length_map, Nat.zero_add]
  rcases Nat.lt_or_ge i (min s.length 16) with hi | hi
  · rw [List.getElem?_append_left (by simp; omega), List.getElem?_take, if_pos hi, List.getElem?_map, List.getElem?_map, List.getElem?_take, if_pos (by omega), List.getElem?_append_left (by omega)]
  · rw [List.getElem?_append_right (by simp; omega), List.getElem?_drop, List.getElem?_map, List.getElem?_take]
    simp only [List.length_take, List.length_map]
    by_cases h16 : i < 16
    · rw [if_pos h16, List.getElem?_append_right (by omega), List.getElem?_replicate, List.getElem?_replicate, if_pos (by omega), if_pos (by omega)]
      rfl
    · rw [if_neg h16, List.getElem?_replicate, if_neg (by omega)]
      rfl
theorem sixteen_does {F : Nat → Prop} {w : World} {x : Value} {s : List UInt8} (hs : Bytes w F x s) : Does X.P 115 #[x] w fun r w' => r = .agg ((uuidB s).map bcell).toArray ∧ Ext nob w w' := by
  obtain ⟨a, c, rfl, _⟩ := hs.view
  refine Does.go (X := X) (l := [_]) Tryz.func115 rfl (by kernel_rfl) (by kernel_rfl) _ rfl ?_
  ((conv=>whnf);repeat(first|(refine mvT ?_;conv=>whnf)|(refine mvF ?_;conv=>whnf)|(refine cT (by rfl) ?_;conv=>whnf)|(refine cF (by rfl) ?_;conv=>whnf)))
  intro b w1 hb ho hx
  have ho : Own w1 b _ (List.replicate 16 (Value.int .u8 0)) := ho
  ((conv=>whnf);repeat(first|(refine mvT ?_;conv=>whnf)|(refine mvF ?_;conv=>whnf)|(refine cT (by rfl) ?_;conv=>whnf)|(refine cF (by rfl) ?_;conv=>whnf)))
  refine ⟨_, _, s.length, s.map bcell, ho, (hs.e0 hx).src, okCells_bytes s, by simp, ?_⟩
  intro w2 ho2 hx2
  have ho2 : Own w2 b _ (splice (List.replicate 16 (Value.int .u8 0)) 0 ((s.map bcell).take (Nat.min s.length 16 * 1))) := ho2
  rw [uuid_splice] at ho2
  have hlen : ((uuidB s).map bcell).length = 16 := by rw [List.length_map, uuid_len]
  ((conv=>whnf);repeat(first|(refine mvT ?_;conv=>whnf)|(refine mvF ?_;conv=>whnf)|(refine cT (by rfl) ?_;conv=>whnf)|(refine cF (by rfl) ?_;conv=>whnf)))
  refine ⟨_, hlen, ho2.cells, ?_⟩
  ((conv=>whnf);repeat(first|(refine mvT ?_;conv=>whnf)|(refine mvF ?_;conv=>whnf)|(refine cT (by rfl) ?_;conv=>whnf)|(refine cF (by rfl) ?_;conv=>whnf)))
  refine st_all ((uuidB s).map bcell) ho2 hlen hlen (okCells_bytes _) ?_
  intro w3 ho3 hx3
  ((conv=>whnf);repeat(first|(refine mvT ?_;conv=>whnf)|(refine mvF ?_;conv=>whnf)|(refine cT (by rfl) ?_;conv=>whnf)|(refine cF (by rfl) ?_;conv=>whnf)))
  refine ⟨_, hlen, ho3.cells, ?_⟩
  ((conv=>whnf);repeat(first|(refine mvT ?_;conv=>whnf)|(refine mvF ?_;conv=>whnf)|(refine cT (by rfl) ?_;conv=>whnf)|(refine cF (by rfl) ?_;conv=>whnf)))
  exact ⟨rfl, (hx.trans hx2 fun k hk e => by omega).trans hx3 fun k hk e => by omega⟩
theorem AppendUuid_does {w : World} {B : Nat} {v : Value} {l s : List UInt8} (h : OB w B v l) (hB : B ≤ w.heap.size) (hl : l.length + s.length ≤ 140737488355328) (hs : s.length = 16 := by rfl) : Does X.P 68 #[v, .agg (s.map bcell).toArray] w fun r w' => Apd w B v l s r w' := by
  refine Does.go (X := X) (l := [_, _]) Tryz.func68 rfl (by kernel_rfl) (by kernel_rfl) _ rfl ?_
  ((conv=>whnf);repeat(first|(refine mvT ?_;conv=>whnf)|(refine mvF ?_;conv=>whnf)|(refine cT (by rfl) ?_;conv=>whnf)|(refine cF (by rfl) ?_;conv=>whnf)))
  intro b w1 hb ho hx
  ((conv=>whnf);repeat(first|(refine mvT ?_;conv=>whnf)|(refine mvF ?_;conv=>whnf)|(refine cT (by rfl) ?_;conv=>whnf)|(refine cF (by rfl) ?_;conv=>whnf)))
  refine app_apd rfl rfl (h.e0 hx) (src_own (l := s) (by simpa [Value.cells] using ho) hs.symm) rfl hl (Nat.le_trans hB hx.size) ?_
  intro r w2 hr
  ((conv=>whnf);repeat(first|(refine mvT ?_;conv=>whnf)|(refine mvF ?_;conv=>whnf)|(refine cT (by rfl) ?_;conv=>whnf)|(refine cF (by rfl) ?_;conv=>whnf)))
  exact Apd.pre hx hr
end Go.Proofs.YtbcjhghfmhdafaaGreat.K
