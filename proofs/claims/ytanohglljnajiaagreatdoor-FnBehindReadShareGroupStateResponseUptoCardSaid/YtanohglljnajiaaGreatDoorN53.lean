/- ReadShareGroupStateResponse is read and written behind octets. -/
import Derived.Test.YtanohglljnajiaaGreatDoorF1
import Derived.Test.YtanohglljnajiaaGreatDoorV53
import Derived.Test.YtanohglljnajiaaGreatDoorGversion
set_option linter.unusedVariables false
set_option linter.unusedSimpArgs false
namespace Go.Proofs.YtanohglljnajiaaGreatDoor.K
open Go
set_option maxHeartbeats 1600000
set_option maxRecDepth 100000

def rReadShareGroupStateResponseTopicPartitionStateBatch (w : World) (F : Nat → Prop) (cs : List Value) (t : T) : Prop := ∃ m, cs = [.int .i64 (atT t 0).n, .int .i64 (atT t 1).n, .int .i8 (IntKind.i8.wrap (atT t 2).n), .int .i16 (IntKind.i16.wrap (atT t 3).n), m] ∧ TagsR w F m t.u
theorem rReadShareGroupStateResponseTopicPartitionStateBatch_ext {M F : Nat → Prop} {w w' : World} {cs : List Value} {t : T} (h : rReadShareGroupStateResponseTopicPartitionStateBatch w F cs t) (x : Ext M w w') (hF : ∀ k, k < w.heap.size → F k → ¬ M k) : rReadShareGroupStateResponseTopicPartitionStateBatch w' F cs t := by
  obtain ⟨m, rfl, hm⟩ := h
  exact ⟨m, rfl, hm.ext x hF⟩
theorem rReadShareGroupStateResponseTopicPartitionStateBatch_mono {F F' : Nat → Prop} {w : World} {cs : List Value} {t : T} (h : rReadShareGroupStateResponseTopicPartitionStateBatch w F cs t) (hF : ∀ k, k < w.heap.size → F k → F' k) : rReadShareGroupStateResponseTopicPartitionStateBatch w F' cs t := by
  obtain ⟨m, rfl, hm⟩ := h
  exact ⟨m, rfl, hm.mono hF⟩
theorem rReadShareGroupStateResponseTopicPartitionStateBatch_len {F : Nat → Prop} {w : World} {cs : List Value} {t : T} (h : rReadShareGroupStateResponseTopicPartitionStateBatch w F cs t) : cs.length = 5 := by
  obtain ⟨m, rfl, hm⟩ := h
  rfl
def rReadShareGroupStateResponseTopicPartition (w : World) (F : Nat → Prop) (cs : List Value) (t : T) : Prop := ∃ c2 c5 m, cs = [.int .i32 (IntKind.i32.wrap (atT t 0).n), .int .i16 (IntKind.i16.wrap (atT t 1).n), c2, .int .i32 (IntKind.i32.wrap (atT t 3).n), .int .i64 (atT t 4).n, c5, m] ∧ NTextR w F c2 (atT t 2) ∧ ListR true 5 (rReadShareGroupStateResponseTopicPartitionStateBatch w F) w F c5 (atT t 5) ∧ TagsR w F m t.u
theorem rReadShareGroupStateResponseTopicPartition_ext {M F : Nat → Prop} {w w' : World} {cs : List Value} {t : T} (h : rReadShareGroupStateResponseTopicPartition w F cs t) (x : Ext M w w') (hF : ∀ k, k < w.heap.size → F k → ¬ M k) : rReadShareGroupStateResponseTopicPartition w' F cs t := by
  obtain ⟨c2, c5, m, rfl, h2, h5, hm⟩ := h
  exact ⟨c2, c5, m, rfl, h2.ext x hF, h5.ext x hF (fun _ _ h => rReadShareGroupStateResponseTopicPartitionStateBatch_ext h x hF), hm.ext x hF⟩
theorem rReadShareGroupStateResponseTopicPartition_mono {F F' : Nat → Prop} {w : World} {cs : List Value} {t : T} (h : rReadShareGroupStateResponseTopicPartition w F cs t) (hF : ∀ k, k < w.heap.size → F k → F' k) : rReadShareGroupStateResponseTopicPartition w F' cs t := by
  obtain ⟨c2, c5, m, rfl, h2, h5, hm⟩ := h
  exact ⟨c2, c5, m, rfl, h2.mono hF, h5.mono hF (fun _ _ h => rReadShareGroupStateResponseTopicPartitionStateBatch_mono h hF), hm.mono hF⟩
theorem rReadShareGroupStateResponseTopicPartition_len {F : Nat → Prop} {w : World} {cs : List Value} {t : T} (h : rReadShareGroupStateResponseTopicPartition w F cs t) : cs.length = 7 := by
  obtain ⟨c2, c5, m, rfl, h2, h5, hm⟩ := h
  rfl
def rReadShareGroupStateResponseTopic (w : World) (F : Nat → Prop) (cs : List Value) (t : T) : Prop := ∃ u0_0 u0_1 u0_2 u0_3 u0_4 u0_5 u0_6 u0_7 u0_8 u0_9 u0_10 u0_11 u0_12 u0_13 u0_14 u0_15 c1 m, cs = [bcell u0_0, bcell u0_1, bcell u0_2, bcell u0_3, bcell u0_4, bcell u0_5, bcell u0_6, bcell u0_7, bcell u0_8, bcell u0_9, bcell u0_10, bcell u0_11, bcell u0_12, bcell u0_13, bcell u0_14, bcell u0_15, c1, m] ∧ uuidB (atT t 0).s = [u0_0, u0_1, u0_2, u0_3, u0_4, u0_5, u0_6, u0_7, u0_8, u0_9, u0_10, u0_11, u0_12, u0_13, u0_14, u0_15] ∧ ListR true 7 (rReadShareGroupStateResponseTopicPartition w F) w F c1 (atT t 1) ∧ TagsR w F m t.u
theorem rReadShareGroupStateResponseTopic_ext {M F : Nat → Prop} {w w' : World} {cs : List Value} {t : T} (h : rReadShareGroupStateResponseTopic w F cs t) (x : Ext M w w') (hF : ∀ k, k < w.heap.size → F k → ¬ M k) : rReadShareGroupStateResponseTopic w' F cs t := by
  obtain ⟨u0_0, u0_1, u0_2, u0_3, u0_4, u0_5, u0_6, u0_7, u0_8, u0_9, u0_10, u0_11, u0_12, u0_13, u0_14, u0_15, c1, m, rfl, h0, h1, hm⟩ := h
  exact ⟨u0_0, u0_1, u0_2, u0_3, u0_4, u0_5, u0_6, u0_7, u0_8, u0_9, u0_10, u0_11, u0_12, u0_13, u0_14, u0_15, c1, m, rfl, h0, h1.ext x hF (fun _ _ h => rReadShareGroupStateResponseTopicPartition_ext h x hF), hm.ext x hF⟩
theorem rReadShareGroupStateResponseTopic_mono {F F' : Nat → Prop} {w : World} {cs : List Value} {t : T} (h : rReadShareGroupStateResponseTopic w F cs t) (hF : ∀ k, k < w.heap.size → F k → F' k) : rReadShareGroupStateResponseTopic w F' cs t := by
  obtain ⟨u0_0, u0_1, u0_2, u0_3, u0_4, u0_5, u0_6, u0_7, u0_8, u0_9, u0_10, u0_11, u0_12, u0_13, u0_14, u0_15, c1, m, rfl, h0, h1, hm⟩ := h
  exact ⟨u0_0, u0_1, u0_2, u0_3, u0_4, u0_5, u0_6, u0_7, u0_8, u0_9, u0_10, u0_11, u0_12, u0_13, u0_14, u0_15, c1, m, rfl, h0, h1.mono hF (fun _ _ h => rReadShareGroupStateResponseTopicPartition_mono h hF), hm.mono hF⟩
theorem rReadShareGroupStateResponseTopic_len {F : Nat → Prop} {w : World} {cs : List Value} {t : T} (h : rReadShareGroupStateResponseTopic w F cs t) : cs.length = 18 := by
  obtain ⟨u0_0, u0_1, u0_2, u0_3, u0_4, u0_5, u0_6, u0_7, u0_8, u0_9, u0_10, u0_11, u0_12, u0_13, u0_14, u0_15, c1, m, rfl, h0, h1, hm⟩ := h
  rfl
def bReadShareGroupStateResponseTopicPartitionStateBatch (v : Int) (fx : Bool) (t : T) : List UInt8 := ((fixed (atT t 0).n 8) ++ ((fixed (atT t 1).n 8) ++ ((fixed (atT t 2).n 1) ++ ((fixed (atT t 3).n 2) ++ ([]))))) ++ tgsB fx t.u
theorem bReadShareGroupStateResponseTopicPartitionStateBatch_eq {v : Int} {fx : Bool} {t : T} (hv : 0 ≤ v) (hok : partOK 6 v dReadShareGroupStateResponseTopicPartitionStateBatch t) : partA 6 v fx dReadShareGroupStateResponseTopicPartitionStateBatch t = bReadShareGroupStateResponseTopicPartitionStateBatch v fx t := by
  unfold partA partAW bReadShareGroupStateResponseTopicPartitionStateBatch
  have hf := hok.1 0 _ rfl
  rw [plainW_all hv]
  have hf := hok.1 1 _ rfl
  rw [plainW_all hv]
  have hf := hok.1 2 _ rfl
  rw [plainW_all hv]
  have hf := hok.1 3 _ rfl
  rw [plainW_all hv]
  rfl
def bReadShareGroupStateResponseTopicPartition (v : Int) (fx : Bool) (t : T) : List UInt8 := ((fixed (atT t 0).n 4) ++ ((fixed (atT t 1).n 2) ++ ((ntA fx (atT t 2).nl (atT t 2).s) ++ ((fixed (atT t 3).n 4) ++ ((fixed (atT t 4).n 8) ++ ((arA fx (lsT (atT t 5)).length ++ (lsT (atT t 5)).flatMap (bReadShareGroupStateResponseTopicPartitionStateBatch v fx)) ++ ([]))))))) ++ tgsB fx t.u
theorem bReadShareGroupStateResponseTopicPartition_eq {v : Int} {fx : Bool} {t : T} (hv : 0 ≤ v) (hok : partOK 7 v dReadShareGroupStateResponseTopicPartition t) : partA 7 v fx dReadShareGroupStateResponseTopicPartition t = bReadShareGroupStateResponseTopicPartition v fx t := by
  unfold partA partAW bReadShareGroupStateResponseTopicPartition
  have hf := hok.1 0 _ rfl
  rw [plainW_all hv]
  have hf := hok.1 1 _ rfl
  rw [plainW_all hv]
  have hf := hok.1 2 _ rfl
  rw [plainW_all hv]
  rw [nt_eq hf (by decide) (.inr hv)]
  have hf := hok.1 3 _ rfl
  rw [plainW_all hv]
  have hf := hok.1 4 _ rfl
  rw [plainW_all hv]
  have hf := hok.1 5 _ rfl
  rw [plainW_all hv]
  rw [ar_eq (g := (bReadShareGroupStateResponseTopicPartitionStateBatch v fx)) hf fun y hy => bReadShareGroupStateResponseTopicPartitionStateBatch_eq hv ((lsT_ok hf y hy).2.2 rfl)]
  rfl
def bReadShareGroupStateResponseTopic (v : Int) (fx : Bool) (t : T) : List UInt8 := ((uuidB (atT t 0).s) ++ ((arA fx (lsT (atT t 1)).length ++ (lsT (atT t 1)).flatMap (bReadShareGroupStateResponseTopicPartition v fx)) ++ ([]))) ++ tgsB fx t.u
theorem bReadShareGroupStateResponseTopic_eq {v : Int} {fx : Bool} {t : T} (hv : 0 ≤ v) (hok : partOK 8 v dReadShareGroupStateResponseTopic t) : partA 8 v fx dReadShareGroupStateResponseTopic t = bReadShareGroupStateResponseTopic v fx t := by
  unfold partA partAW bReadShareGroupStateResponseTopic
  have hf := hok.1 0 _ rfl
  rw [plainW_all hv]
  have hf := hok.1 1 _ rfl
  rw [plainW_all hv]
  rw [ar_eq (g := (bReadShareGroupStateResponseTopicPartition v fx)) hf fun y hy => bReadShareGroupStateResponseTopicPartition_eq hv ((lsT_ok hf y hy).2.2 rfl)]
  rfl
def bReadShareGroupStateResponse (v : Int) (fx : Bool) (t : T) : List UInt8 := ((arA fx (lsT (atT t 0)).length ++ (lsT (atT t 0)).flatMap (bReadShareGroupStateResponseTopic v fx)) ++ ([])) ++ tgsB fx t.u
theorem bReadShareGroupStateResponse_eq {v : Int} {fx : Bool} {t : T} (hv : 0 ≤ v) (hok : partOK 9 v dReadShareGroupStateResponse t) : partA 9 v fx dReadShareGroupStateResponse t = bReadShareGroupStateResponse v fx t := by
  unfold partA partAW bReadShareGroupStateResponse
  have hf := hok.1 0 _ rfl
  rw [plainW_all hv]
  rw [ar_eq (g := (bReadShareGroupStateResponseTopic v fx)) hf fun y hy => bReadShareGroupStateResponseTopic_eq hv ((lsT_ok hf y hy).2.2 rfl)]
  rfl
theorem appReadShareGroupStateResponse {F : Nat → Prop} {w0 : World} {p B : Nat} {ty : TypeId} {v : Int} {x c0 m : Value} {l : List UInt8} {t : T} (hp : Own w0 p ty [.int .i16 v, c0, m]) (hc0 : ListR true 18 (rReadShareGroupStateResponseTopic w0 F) w0 F c0 (atT t 0)) (hm : TagsR w0 F m t.u) (hok : partOK 9 v dReadShareGroupStateResponse t)
    (hF : ∀ j, j < w0.heap.size → F j → x.ownBlock ≠ some j) (hxp : x.ownBlock ≠ some p) (hx : OB w0 B x l) (hB : B ≤ w0.heap.size) (hv : 0 ≤ v) (hl : l.length + (bReadShareGroupStateResponse v (decide (v ≥ 0)) t).length ≤ 70000000000000) :
    Does X.P 68 #[.pointer (some ⟨p, 0, none⟩), x] w0 fun r w' => Apd w0 B x l (bReadShareGroupStateResponse v (decide (v ≥ 0)) t) r w' := by
  have hpl := hp.lt
  obtain ⟨fx, hfx⟩ : ∃ fx, fx = decide (v ≥ 0) := ⟨_, rfl⟩
  rw [← hfx] at hl ⊢
  unfold bReadShareGroupStateResponse at hl
  simp only [List.length_append, List.length_nil] at hl
  obtain ⟨F0, hFR, hFx, hcs⟩ : ∃ F0 : Nat → Prop, (∀ j, F0 j → j < w0.heap.size ∧ x.ownBlock ≠ some j) ∧ (∀ j, j < w0.heap.size → F0 j → ¬ x.ownBlock = some j) ∧ (ListR true 18 (rReadShareGroupStateResponseTopic w0 F0) w0 F0 c0 (atT t 0) ∧ TagsR w0 F0 m t.u) :=
    ⟨fun j => F j ∧ j < w0.heap.size, fun j h => ⟨h.2, hF j h.2 h.1⟩, fun j _ h => hF j h.2 h.1, hc0.mono (fun k h1 h2 => ⟨h2, h1⟩) (fun _ _ h => rReadShareGroupStateResponseTopic_mono h fun k h1 h2 => ⟨h2, h1⟩), hm.mono fun k h1 h2 => ⟨h2, h1⟩⟩
  clear hm hc0 hF
  obtain ⟨hc0, hm⟩ := hcs
  obtain ⟨a0, k0, l0, rfl, hkm0, hll0, hnn0, hcl0, hrl0⟩ := hc0.view
  have hA := Apd.start hx
  obtain ⟨m0, hm0⟩ : ∃ m0 : List UInt8, m0 = [] := ⟨_, rfl⟩
  rw [← hm0] at hA
  have hl0 : m0.length = 0 := by rw [hm0]; rfl
  refine Does.go (X := X) (l := [_, _]) Tryz.func68 rfl (by kernel_rfl) (by kernel_rfl) _ rfl ?_
  ((conv=>whnf);repeat(first|(refine mvT ?_;conv=>whnf)|(refine mvF ?_;conv=>whnf)|(refine cT (by rfl) ?_;conv=>whnf)|(refine cF (by rfl) ?_;conv=>whnf)))
  refine ldS (hp.cell rfl) ?_;((conv=>whnf);repeat(first|(refine mvT ?_;conv=>whnf)|(refine mvF ?_;conv=>whnf)|(refine cT (by rfl) ?_;conv=>whnf)|(refine cF (by rfl) ?_;conv=>whnf)))
  rw [← hfx]
  (refine mvB ?_;((conv=>whnf);repeat(first|(refine mvT ?_;conv=>whnf)|(refine mvF ?_;conv=>whnf)|(refine cT (by rfl) ?_;conv=>whnf)|(refine cF (by rfl) ?_;conv=>whnf))))
  refine ldS ((hp.ext hA.ext hxp).cell rfl) ?_;((conv=>whnf);repeat(first|(refine mvT ?_;conv=>whnf)|(refine mvF ?_;conv=>whnf)|(refine cT (by rfl) ?_;conv=>whnf)|(refine cF (by rfl) ?_;conv=>whnf)))
  have hml0 := lsT_len (hok.1 0 _ rfl)
  (refine mvB ?_;((conv=>whnf);repeat(first|(refine mvT ?_;conv=>whnf)|(refine mvF ?_;conv=>whnf)|(refine cT (by rfl) ?_;conv=>whnf)|(refine cF (by rfl) ?_;conv=>whnf))))
  refine VC.cutE (fun r => [(1, r), (0, .pointer (some ⟨p, 0, none⟩)), (5, .int .i16 v), (6, .bool fx), (7, .slice a0 l0.length k0)]) (fun r w' => Apd w0 B x l (m0 ++ (arA fx (lsT (atT t 0)).length)) r w') ?_ ?_
  · refine cI (by rfl) (fun hc=>?_) (fun hc=>?_)
    · ((conv=>whnf);repeat(first|(refine mvT ?_;conv=>whnf)|(refine mvF ?_;conv=>whnf)|(refine cT (by rfl) ?_;conv=>whnf)|(refine cF (by rfl) ?_;conv=>whnf)))
      refine Does.mono (AppendCompactArrayLen_does hA.ob (Nat.le_trans hB hA.size) (by simp only [List.length_append]; omega) l0.length (by omega)) ?_;rintro r w h;((conv=>whnf);repeat(first|(refine mvT ?_;conv=>whnf)|(refine mvF ?_;conv=>whnf)|(refine cT (by rfl) ?_;conv=>whnf)|(refine cF (by rfl) ?_;conv=>whnf)))
      rw [hll0] at h
      replace hA := hA.tr h
      clear h
      refine ⟨_, ⟨rfl, rfl, rfl, rfl, rfl, trivial⟩, ?_⟩
      rw [hc]
      exact hA
    · ((conv=>whnf);repeat(first|(refine mvT ?_;conv=>whnf)|(refine mvF ?_;conv=>whnf)|(refine cT (by rfl) ?_;conv=>whnf)|(refine cF (by rfl) ?_;conv=>whnf)))
      refine Does.mono (AppendArrayLen_does hA.ob (Nat.le_trans hB hA.size) (by simp only [List.length_append]; omega) l0.length) ?_;rintro r w h;((conv=>whnf);repeat(first|(refine mvT ?_;conv=>whnf)|(refine mvF ?_;conv=>whnf)|(refine cT (by rfl) ?_;conv=>whnf)|(refine cF (by rfl) ?_;conv=>whnf)))
      rw [hll0] at h
      replace hA := hA.tr h
      clear h
      refine ⟨_, ⟨rfl, rfl, rfl, rfl, rfl, trivial⟩, ?_⟩
      rw [hc]
      exact hA
  clear hA
  rintro r w hA
  ((conv=>whnf);repeat(first|(refine mvT ?_;conv=>whnf)|(refine mvF ?_;conv=>whnf)|(refine cT (by rfl) ?_;conv=>whnf)|(refine cF (by rfl) ?_;conv=>whnf)))
  generalize hm1 : m0 ++ (arA fx (lsT (atT t 0)).length) = m1 at hA
  have hl1 : m1.length = m0.length + (arA fx (lsT (atT t 0)).length).length := by rw [← hm1, List.length_append]
  refine VL.loop (fun s : Nat × Value => [(1, s.2), (0, .pointer (some ⟨p, 0, none⟩)), (5, .int .i16 v), (6, .bool fx), (7, .slice a0 l0.length k0), (47, .slice a0 l0.length k0), (48, .int .i64 l0.length), (49, .int .i64 s.1)])
    (fun s w' => s.1 ≤ l0.length ∧ Apd w0 B x l (m1 ++ ((lsT (atT t 0)).take s.1).flatMap (bReadShareGroupStateResponseTopic v fx)) s.2 w') (fun s => l0.length - s.1) (0, r) ⟨rfl, rfl, rfl, rfl, rfl, rfl, rfl, rfl, trivial⟩ ⟨Nat.zero_le _, by rw [List.take_zero, List.flatMap_nil, List.append_nil]; exact hA⟩ ?_
  clear hA
  rintro ⟨i1, r⟩ w ⟨hi1, hA⟩
  dsimp only at hi1 hA
  ((conv=>whnf);repeat(first|(refine mvT ?_;conv=>whnf)|(refine mvF ?_;conv=>whnf)|(refine cT (by rfl) ?_;conv=>whnf)|(refine cF (by rfl) ?_;conv=>whnf)))
  refine cI (by rfl) (fun h9=>?_) (fun h9=>?_)
  · have hil : i1 < l0.length := by have := of_decide_eq_true h9; simp only at this; omega
    have hiL1 : i1 < (lsT (atT t 0)).length := by omega
    obtain ⟨hft, hfl⟩ := flat_take (bReadShareGroupStateResponseTopic v fx) (lsT (atT t 0)) i1 hiL1
    obtain ⟨b0, o0, rfl, hF0, hb0, hce0⟩ := hcl0 i1 l0[i1] (by simp [hil])
    have hre0 := hrl0 i1 l0[i1] ((lsT (atT t 0))[i1]) (by simp [hil]) (by simp [hiL1])
    have hlo0 := lsT_ok (hok.1 0 _ rfl) ((lsT (atT t 0))[i1]) (List.getElem_mem hiL1)
    generalize hm2 : m1 ++ ((lsT (atT t 0)).take i1).flatMap (bReadShareGroupStateResponseTopic v fx) = m2 at hA
    have hl2 : m2.length = m1.length + (((lsT (atT t 0)).take i1).flatMap (bReadShareGroupStateResponseTopic v fx)).length := by rw [← hm2, List.length_append]
    obtain ⟨x1, hx1⟩ : ∃ y, y = (lsT (atT t 0))[i1] := ⟨_, rfl⟩
    rw [← hx1] at hft hfl hre0 hlo0
    obtain ⟨u1_0_0, u1_0_1, u1_0_2, u1_0_3, u1_0_4, u1_0_5, u1_0_6, u1_0_7, u1_0_8, u1_0_9, u1_0_10, u1_0_11, u1_0_12, u1_0_13, u1_0_14, u1_0_15, c1_1, m1_, hcells, hc1_0, hc1_1, hm1_⟩ := hre0
    rw [hcells] at hce0
    have hok1_ := hlo0.2.2 rfl
    obtain ⟨a1_1, k1_1, l1_1, rfl, hkm1_1, hll1_1, hnn1_1, hcl1_1, hrl1_1⟩ := hc1_1.view
    have hgl : (bReadShareGroupStateResponseTopic v fx x1).length = (bReadShareGroupStateResponseTopic v fx x1).length := rfl
    conv at hgl => rhs; unfold bReadShareGroupStateResponseTopic
    simp only [List.length_append, List.length_nil] at hgl
    ((conv=>whnf);repeat(first|(refine mvT ?_;conv=>whnf)|(refine mvF ?_;conv=>whnf)|(refine cT (by rfl) ?_;conv=>whnf)|(refine cF (by rfl) ?_;conv=>whnf)))
    refine ⟨b0, o0, rfl, ⟨by omega, by omega⟩, ?_⟩
    ((conv=>whnf);repeat(first|(refine mvT ?_;conv=>whnf)|(refine mvF ?_;conv=>whnf)|(refine cT (by rfl) ?_;conv=>whnf)|(refine cF (by rfl) ?_;conv=>whnf)))
    refine ⟨_, rfl, Cells.sub2 (hce0.ext hA.ext (hFx _ hb0 hF0)) 0 16 rfl (by simp <;> omega), ?_⟩; ((conv=>whnf);repeat(first|(refine mvT ?_;conv=>whnf)|(refine mvF ?_;conv=>whnf)|(refine cT (by rfl) ?_;conv=>whnf)|(refine cF (by rfl) ?_;conv=>whnf)))
    intro bu wu hbu hou hxu
    ((conv=>whnf);repeat(first|(refine mvT ?_;conv=>whnf)|(refine mvF ?_;conv=>whnf)|(refine cT (by rfl) ?_;conv=>whnf)|(refine cF (by rfl) ?_;conv=>whnf)))
    refine st_all [bcell u1_0_0, bcell u1_0_1, bcell u1_0_2, bcell u1_0_3, bcell u1_0_4, bcell u1_0_5, bcell u1_0_6, bcell u1_0_7, bcell u1_0_8, bcell u1_0_9, bcell u1_0_10, bcell u1_0_11, bcell u1_0_12, bcell u1_0_13, bcell u1_0_14, bcell u1_0_15] hou rfl rfl rfl ?_
    intro wv hov hxv
    ((conv=>whnf);repeat(first|(refine mvT ?_;conv=>whnf)|(refine mvF ?_;conv=>whnf)|(refine cT (by rfl) ?_;conv=>whnf)|(refine cF (by rfl) ?_;conv=>whnf)))
    replace hA := hA.e0 ((Ext.refl nob _).trans (hxu.trans hxv (M' := fun k => k = bu) fun k hk e => by omega) fun _ _ h => h)
    refine ⟨_, rfl, hov.cells, ?_⟩
    ((conv=>whnf);repeat(first|(refine mvT ?_;conv=>whnf)|(refine mvF ?_;conv=>whnf)|(refine cT (by rfl) ?_;conv=>whnf)|(refine cF (by rfl) ?_;conv=>whnf)))
    refine Does.mono (AppendUuid_does (s := [u1_0_0, u1_0_1, u1_0_2, u1_0_3, u1_0_4, u1_0_5, u1_0_6, u1_0_7, u1_0_8, u1_0_9, u1_0_10, u1_0_11, u1_0_12, u1_0_13, u1_0_14, u1_0_15]) hA.ob (Nat.le_trans hB hA.size) (by simp only [List.length_append, List.length_cons, List.length_nil]; omega)) ?_;rintro r w h;((conv=>whnf);repeat(first|(refine mvT ?_;conv=>whnf)|(refine mvF ?_;conv=>whnf)|(refine cT (by rfl) ?_;conv=>whnf)|(refine cF (by rfl) ?_;conv=>whnf)))
    replace hA := hA.tr h
    clear h
    rw [← hc1_0] at hA
    generalize hm3 : m2 ++ (uuidB (atT x1 0).s) = m3 at hA
    have hl3 : m3.length = m2.length + (uuidB (atT x1 0).s).length := by rw [← hm3, List.length_append]
    refine ⟨_, ld ((hce0.ext hA.ext (hFx _ hb0 hF0)).cell (j := 16) rfl) (by simp <;> omega), ?_⟩; ((conv=>whnf);repeat(first|(refine mvT ?_;conv=>whnf)|(refine mvF ?_;conv=>whnf)|(refine cT (by rfl) ?_;conv=>whnf)|(refine cF (by rfl) ?_;conv=>whnf)))
    have hml1_1 := lsT_len (hok1_.1 1 _ rfl)
    (refine mvB ?_;((conv=>whnf);repeat(first|(refine mvT ?_;conv=>whnf)|(refine mvF ?_;conv=>whnf)|(refine cT (by rfl) ?_;conv=>whnf)|(refine cF (by rfl) ?_;conv=>whnf))))
    refine VC.cutE (fun r => [(1, r), (0, .pointer (some ⟨p, 0, none⟩)), (5, .int .i16 v), (6, .bool fx), (7, .slice (some ⟨b0, o0, none⟩) l0.length k0), (47, .slice (some ⟨b0, o0, none⟩) l0.length k0), (48, .int .i64 l0.length), (49, .int .i64 i1), (9, .pointer (some ⟨b0, o0 + i1 * 18, none⟩)), (11, .slice a1_1 l1_1.length k1_1)]) (fun r w' => Apd w0 B x l (m3 ++ (arA fx (lsT (atT x1 1)).length)) r w') ?_ ?_
    · refine cI (by rfl) (fun hc=>?_) (fun hc=>?_)
      · ((conv=>whnf);repeat(first|(refine mvT ?_;conv=>whnf)|(refine mvF ?_;conv=>whnf)|(refine cT (by rfl) ?_;conv=>whnf)|(refine cF (by rfl) ?_;conv=>whnf)))
        refine Does.mono (AppendCompactArrayLen_does hA.ob (Nat.le_trans hB hA.size) (by simp only [List.length_append]; omega) l1_1.length (by omega)) ?_;rintro r w h;((conv=>whnf);repeat(first|(refine mvT ?_;conv=>whnf)|(refine mvF ?_;conv=>whnf)|(refine cT (by rfl) ?_;conv=>whnf)|(refine cF (by rfl) ?_;conv=>whnf)))
        rw [hll1_1] at h
        replace hA := hA.tr h
        clear h
        refine ⟨_, ⟨rfl, rfl, rfl, rfl, rfl, rfl, rfl, rfl, rfl, rfl, trivial⟩, ?_⟩
        rw [hc]
        exact hA
      · ((conv=>whnf);repeat(first|(refine mvT ?_;conv=>whnf)|(refine mvF ?_;conv=>whnf)|(refine cT (by rfl) ?_;conv=>whnf)|(refine cF (by rfl) ?_;conv=>whnf)))
        refine Does.mono (AppendArrayLen_does hA.ob (Nat.le_trans hB hA.size) (by simp only [List.length_append]; omega) l1_1.length) ?_;rintro r w h;((conv=>whnf);repeat(first|(refine mvT ?_;conv=>whnf)|(refine mvF ?_;conv=>whnf)|(refine cT (by rfl) ?_;conv=>whnf)|(refine cF (by rfl) ?_;conv=>whnf)))
        rw [hll1_1] at h
        replace hA := hA.tr h
        clear h
        refine ⟨_, ⟨rfl, rfl, rfl, rfl, rfl, rfl, rfl, rfl, rfl, rfl, trivial⟩, ?_⟩
        rw [hc]
        exact hA
    clear hA
    rintro r w hA
    ((conv=>whnf);repeat(first|(refine mvT ?_;conv=>whnf)|(refine mvF ?_;conv=>whnf)|(refine cT (by rfl) ?_;conv=>whnf)|(refine cF (by rfl) ?_;conv=>whnf)))
    generalize hm4 : m3 ++ (arA fx (lsT (atT x1 1)).length) = m4 at hA
    have hl4 : m4.length = m3.length + (arA fx (lsT (atT x1 1)).length).length := by rw [← hm4, List.length_append]
    refine VL.loop (fun s : Nat × Value => [(1, s.2), (0, .pointer (some ⟨p, 0, none⟩)), (5, .int .i16 v), (6, .bool fx), (7, .slice (some ⟨b0, o0, none⟩) l0.length k0), (47, .slice (some ⟨b0, o0, none⟩) l0.length k0), (48, .int .i64 l0.length), (49, .int .i64 i1), (9, .pointer (some ⟨b0, o0 + i1 * 18, none⟩)), (11, .slice a1_1 l1_1.length k1_1), (75, .slice a1_1 l1_1.length k1_1), (76, .int .i64 l1_1.length), (77, .int .i64 s.1)])
      (fun s w' => s.1 ≤ l1_1.length ∧ Apd w0 B x l (m4 ++ ((lsT (atT x1 1)).take s.1).flatMap (bReadShareGroupStateResponseTopicPartition v fx)) s.2 w') (fun s => l1_1.length - s.1) (0, r) ⟨rfl, rfl, rfl, rfl, rfl, rfl, rfl, rfl, rfl, rfl, rfl, rfl, rfl, trivial⟩ ⟨Nat.zero_le _, by rw [List.take_zero, List.flatMap_nil, List.append_nil]; exact hA⟩ ?_
    clear hA
    rintro ⟨i2, r⟩ w ⟨hi2, hA⟩
    dsimp only at hi2 hA
    ((conv=>whnf);repeat(first|(refine mvT ?_;conv=>whnf)|(refine mvF ?_;conv=>whnf)|(refine cT (by rfl) ?_;conv=>whnf)|(refine cF (by rfl) ?_;conv=>whnf)))
    refine cI (by rfl) (fun h9=>?_) (fun h9=>?_)
    · have hil : i2 < l1_1.length := by have := of_decide_eq_true h9; simp only at this; omega
      have hiL2 : i2 < (lsT (atT x1 1)).length := by omega
      obtain ⟨hft, hfl⟩ := flat_take (bReadShareGroupStateResponseTopicPartition v fx) (lsT (atT x1 1)) i2 hiL2
      obtain ⟨b1_1, o1_1, rfl, hF1_1, hb1_1, hce1_1⟩ := hcl1_1 i2 l1_1[i2] (by simp [hil])
      have hre1_1 := hrl1_1 i2 l1_1[i2] ((lsT (atT x1 1))[i2]) (by simp [hil]) (by simp [hiL2])
      have hlo1_1 := lsT_ok (hok1_.1 1 _ rfl) ((lsT (atT x1 1))[i2]) (List.getElem_mem hiL2)
      generalize hm5 : m4 ++ ((lsT (atT x1 1)).take i2).flatMap (bReadShareGroupStateResponseTopicPartition v fx) = m5 at hA
      have hl5 : m5.length = m4.length + (((lsT (atT x1 1)).take i2).flatMap (bReadShareGroupStateResponseTopicPartition v fx)).length := by rw [← hm5, List.length_append]
      obtain ⟨x2, hx2⟩ : ∃ y, y = (lsT (atT x1 1))[i2] := ⟨_, rfl⟩
      rw [← hx2] at hft hfl hre1_1 hlo1_1
      obtain ⟨c2_2, c2_5, m2_, hcells, hc2_2, hc2_5, hm2_⟩ := hre1_1
      rw [hcells] at hce1_1
      have hok2_ := hlo1_1.2.2 rfl
      obtain ⟨a2_5, k2_5, l2_5, rfl, hkm2_5, hll2_5, hnn2_5, hcl2_5, hrl2_5⟩ := hc2_5.view
      have hgl : (bReadShareGroupStateResponseTopicPartition v fx x2).length = (bReadShareGroupStateResponseTopicPartition v fx x2).length := rfl
      conv at hgl => rhs; unfold bReadShareGroupStateResponseTopicPartition
      simp only [List.length_append, List.length_nil] at hgl
      ((conv=>whnf);repeat(first|(refine mvT ?_;conv=>whnf)|(refine mvF ?_;conv=>whnf)|(refine cT (by rfl) ?_;conv=>whnf)|(refine cF (by rfl) ?_;conv=>whnf)))
      refine ⟨b1_1, o1_1, rfl, ⟨by omega, by omega⟩, ?_⟩
      ((conv=>whnf);repeat(first|(refine mvT ?_;conv=>whnf)|(refine mvF ?_;conv=>whnf)|(refine cT (by rfl) ?_;conv=>whnf)|(refine cF (by rfl) ?_;conv=>whnf)))
      refine ⟨_, ld ((hce1_1.ext hA.ext (hFx _ hb1_1 hF1_1)).cell (j := 0) rfl) (by simp <;> omega), ?_⟩; ((conv=>whnf);repeat(first|(refine mvT ?_;conv=>whnf)|(refine mvF ?_;conv=>whnf)|(refine cT (by rfl) ?_;conv=>whnf)|(refine cF (by rfl) ?_;conv=>whnf)))
      refine Does.mono (AppendInt32_does hA.ob (Nat.le_trans hB hA.size) (by simp only [List.length_append]; omega) _) ?_;rintro r w h;((conv=>whnf);repeat(first|(refine mvT ?_;conv=>whnf)|(refine mvF ?_;conv=>whnf)|(refine cT (by rfl) ?_;conv=>whnf)|(refine cF (by rfl) ?_;conv=>whnf)))
      rw [fixed4_mod (wrap_i32m _)] at h
      replace hA := hA.tr h
      clear h
      generalize hm6 : m5 ++ (fixed (atT x2 0).n 4) = m6 at hA
      have hl6 : m6.length = m5.length + (fixed (atT x2 0).n 4).length := by rw [← hm6, List.length_append]
      refine ⟨_, ld ((hce1_1.ext hA.ext (hFx _ hb1_1 hF1_1)).cell (j := 1) rfl) (by simp <;> omega), ?_⟩; ((conv=>whnf);repeat(first|(refine mvT ?_;conv=>whnf)|(refine mvF ?_;conv=>whnf)|(refine cT (by rfl) ?_;conv=>whnf)|(refine cF (by rfl) ?_;conv=>whnf)))
      refine Does.mono (AppendInt16_does hA.ob (Nat.le_trans hB hA.size) (by simp only [List.length_append]; omega) _) ?_;rintro r w h;((conv=>whnf);repeat(first|(refine mvT ?_;conv=>whnf)|(refine mvF ?_;conv=>whnf)|(refine cT (by rfl) ?_;conv=>whnf)|(refine cF (by rfl) ?_;conv=>whnf)))
      rw [fixed2_mod (wrap_i16m _)] at h
      replace hA := hA.tr h
      clear h
      generalize hm7 : m6 ++ (fixed (atT x2 1).n 2) = m7 at hA
      have hl7 : m7.length = m6.length + (fixed (atT x2 1).n 2).length := by rw [← hm7, List.length_append]
      refine ⟨_, ld ((hce1_1.ext hA.ext (hFx _ hb1_1 hF1_1)).cell (j := 2) rfl) (by simp <;> omega), ?_⟩; ((conv=>whnf);repeat(first|(refine mvT ?_;conv=>whnf)|(refine mvF ?_;conv=>whnf)|(refine cT (by rfl) ?_;conv=>whnf)|(refine cF (by rfl) ?_;conv=>whnf)))
      have hsl := fieldOK_text (hok2_.1 2 _ rfl)
      (refine mvB ?_;((conv=>whnf);repeat(first|(refine mvT ?_;conv=>whnf)|(refine mvF ?_;conv=>whnf)|(refine cT (by rfl) ?_;conv=>whnf)|(refine cF (by rfl) ?_;conv=>whnf))))
      refine VC.cutE (fun r => [(1, r), (0, .pointer (some ⟨p, 0, none⟩)), (5, .int .i16 v), (6, .bool fx), (7, .slice (some ⟨b0, o0, none⟩) l0.length k0), (47, .slice (some ⟨b0, o0, none⟩) l0.length k0), (48, .int .i64 l0.length), (49, .int .i64 i1), (9, .pointer (some ⟨b0, o0 + i1 * 18, none⟩)), (11, .slice (some ⟨b1_1, o1_1, none⟩) l1_1.length k1_1), (75, .slice (some ⟨b1_1, o1_1, none⟩) l1_1.length k1_1), (76, .int .i64 l1_1.length), (77, .int .i64 i2), (13, .pointer (some ⟨b1_1, o1_1 + i2 * 7, none⟩))]) (fun r w' => Apd w0 B x l (m7 ++ (ntA fx (atT x2 2).nl (atT x2 2).s)) r w') ?_ ?_
      · refine cI (by rfl) (fun hc=>?_) (fun hc=>?_)
        · ((conv=>whnf);repeat(first|(refine mvT ?_;conv=>whnf)|(refine mvF ?_;conv=>whnf)|(refine cT (by rfl) ?_;conv=>whnf)|(refine cF (by rfl) ?_;conv=>whnf)))
          refine Does.mono (AppendCompactNullableString_R hA.ob (Nat.le_trans hB hA.size) (hc2_2.ext hA.ext hFx) hsl (by simp only [List.length_append]; omega)) ?_;rintro r w h;((conv=>whnf);repeat(first|(refine mvT ?_;conv=>whnf)|(refine mvF ?_;conv=>whnf)|(refine cT (by rfl) ?_;conv=>whnf)|(refine cF (by rfl) ?_;conv=>whnf)))
          replace hA := hA.tr h
          clear h
          refine ⟨_, ⟨rfl, rfl, rfl, rfl, rfl, rfl, rfl, rfl, rfl, rfl, rfl, rfl, rfl, rfl, trivial⟩, ?_⟩
          rw [hc]
          exact hA
        · ((conv=>whnf);repeat(first|(refine mvT ?_;conv=>whnf)|(refine mvF ?_;conv=>whnf)|(refine cT (by rfl) ?_;conv=>whnf)|(refine cF (by rfl) ?_;conv=>whnf)))
          refine Does.mono (AppendNullableString_R hA.ob (Nat.le_trans hB hA.size) (hc2_2.ext hA.ext hFx) (by simp only [List.length_append]; omega)) ?_;rintro r w h;((conv=>whnf);repeat(first|(refine mvT ?_;conv=>whnf)|(refine mvF ?_;conv=>whnf)|(refine cT (by rfl) ?_;conv=>whnf)|(refine cF (by rfl) ?_;conv=>whnf)))
          replace hA := hA.tr h
          clear h
          refine ⟨_, ⟨rfl, rfl, rfl, rfl, rfl, rfl, rfl, rfl, rfl, rfl, rfl, rfl, rfl, rfl, trivial⟩, ?_⟩
          rw [hc]
          exact hA
      clear hA
      rintro r w hA
      ((conv=>whnf);repeat(first|(refine mvT ?_;conv=>whnf)|(refine mvF ?_;conv=>whnf)|(refine cT (by rfl) ?_;conv=>whnf)|(refine cF (by rfl) ?_;conv=>whnf)))
      generalize hm8 : m7 ++ (ntA fx (atT x2 2).nl (atT x2 2).s) = m8 at hA
      have hl8 : m8.length = m7.length + (ntA fx (atT x2 2).nl (atT x2 2).s).length := by rw [← hm8, List.length_append]
      refine ⟨_, ld ((hce1_1.ext hA.ext (hFx _ hb1_1 hF1_1)).cell (j := 3) rfl) (by simp <;> omega), ?_⟩; ((conv=>whnf);repeat(first|(refine mvT ?_;conv=>whnf)|(refine mvF ?_;conv=>whnf)|(refine cT (by rfl) ?_;conv=>whnf)|(refine cF (by rfl) ?_;conv=>whnf)))
      refine Does.mono (AppendInt32_does hA.ob (Nat.le_trans hB hA.size) (by simp only [List.length_append]; omega) _) ?_;rintro r w h;((conv=>whnf);repeat(first|(refine mvT ?_;conv=>whnf)|(refine mvF ?_;conv=>whnf)|(refine cT (by rfl) ?_;conv=>whnf)|(refine cF (by rfl) ?_;conv=>whnf)))
      rw [fixed4_mod (wrap_i32m _)] at h
      replace hA := hA.tr h
      clear h
      generalize hm9 : m8 ++ (fixed (atT x2 3).n 4) = m9 at hA
      have hl9 : m9.length = m8.length + (fixed (atT x2 3).n 4).length := by rw [← hm9, List.length_append]
      refine ⟨_, ld ((hce1_1.ext hA.ext (hFx _ hb1_1 hF1_1)).cell (j := 4) rfl) (by simp <;> omega), ?_⟩; ((conv=>whnf);repeat(first|(refine mvT ?_;conv=>whnf)|(refine mvF ?_;conv=>whnf)|(refine cT (by rfl) ?_;conv=>whnf)|(refine cF (by rfl) ?_;conv=>whnf)))
      refine Does.mono (AppendInt64_does hA.ob (Nat.le_trans hB hA.size) (by simp only [List.length_append]; omega) _) ?_;rintro r w h;((conv=>whnf);repeat(first|(refine mvT ?_;conv=>whnf)|(refine mvF ?_;conv=>whnf)|(refine cT (by rfl) ?_;conv=>whnf)|(refine cF (by rfl) ?_;conv=>whnf)))
      replace hA := hA.tr h
      clear h
      generalize hm10 : m9 ++ (fixed (atT x2 4).n 8) = m10 at hA
      have hl10 : m10.length = m9.length + (fixed (atT x2 4).n 8).length := by rw [← hm10, List.length_append]
      refine ⟨_, ld ((hce1_1.ext hA.ext (hFx _ hb1_1 hF1_1)).cell (j := 5) rfl) (by simp <;> omega), ?_⟩; ((conv=>whnf);repeat(first|(refine mvT ?_;conv=>whnf)|(refine mvF ?_;conv=>whnf)|(refine cT (by rfl) ?_;conv=>whnf)|(refine cF (by rfl) ?_;conv=>whnf)))
      have hml2_5 := lsT_len (hok2_.1 5 _ rfl)
      (refine mvB ?_;((conv=>whnf);repeat(first|(refine mvT ?_;conv=>whnf)|(refine mvF ?_;conv=>whnf)|(refine cT (by rfl) ?_;conv=>whnf)|(refine cF (by rfl) ?_;conv=>whnf))))
      refine VC.cutE (fun r => [(1, r), (0, .pointer (some ⟨p, 0, none⟩)), (5, .int .i16 v), (6, .bool fx), (7, .slice (some ⟨b0, o0, none⟩) l0.length k0), (47, .slice (some ⟨b0, o0, none⟩) l0.length k0), (48, .int .i64 l0.length), (49, .int .i64 i1), (9, .pointer (some ⟨b0, o0 + i1 * 18, none⟩)), (11, .slice (some ⟨b1_1, o1_1, none⟩) l1_1.length k1_1), (75, .slice (some ⟨b1_1, o1_1, none⟩) l1_1.length k1_1), (76, .int .i64 l1_1.length), (77, .int .i64 i2), (13, .pointer (some ⟨b1_1, o1_1 + i2 * 7, none⟩)), (19, .slice a2_5 l2_5.length k2_5)]) (fun r w' => Apd w0 B x l (m10 ++ (arA fx (lsT (atT x2 5)).length)) r w') ?_ ?_
      · refine cI (by rfl) (fun hc=>?_) (fun hc=>?_)
        · ((conv=>whnf);repeat(first|(refine mvT ?_;conv=>whnf)|(refine mvF ?_;conv=>whnf)|(refine cT (by rfl) ?_;conv=>whnf)|(refine cF (by rfl) ?_;conv=>whnf)))
          refine Does.mono (AppendCompactArrayLen_does hA.ob (Nat.le_trans hB hA.size) (by simp only [List.length_append]; omega) l2_5.length (by omega)) ?_;rintro r w h;((conv=>whnf);repeat(first|(refine mvT ?_;conv=>whnf)|(refine mvF ?_;conv=>whnf)|(refine cT (by rfl) ?_;conv=>whnf)|(refine cF (by rfl) ?_;conv=>whnf)))
          rw [hll2_5] at h
          replace hA := hA.tr h
          clear h
          refine ⟨_, ⟨rfl, rfl, rfl, rfl, rfl, rfl, rfl, rfl, rfl, rfl, rfl, rfl, rfl, rfl, rfl, trivial⟩, ?_⟩
          rw [hc]
          exact hA
        · ((conv=>whnf);repeat(first|(refine mvT ?_;conv=>whnf)|(refine mvF ?_;conv=>whnf)|(refine cT (by rfl) ?_;conv=>whnf)|(refine cF (by rfl) ?_;conv=>whnf)))
          refine Does.mono (AppendArrayLen_does hA.ob (Nat.le_trans hB hA.size) (by simp only [List.length_append]; omega) l2_5.length) ?_;rintro r w h;((conv=>whnf);repeat(first|(refine mvT ?_;conv=>whnf)|(refine mvF ?_;conv=>whnf)|(refine cT (by rfl) ?_;conv=>whnf)|(refine cF (by rfl) ?_;conv=>whnf)))
          rw [hll2_5] at h
          replace hA := hA.tr h
          clear h
          refine ⟨_, ⟨rfl, rfl, rfl, rfl, rfl, rfl, rfl, rfl, rfl, rfl, rfl, rfl, rfl, rfl, rfl, trivial⟩, ?_⟩
          rw [hc]
          exact hA
      clear hA
      rintro r w hA
      ((conv=>whnf);repeat(first|(refine mvT ?_;conv=>whnf)|(refine mvF ?_;conv=>whnf)|(refine cT (by rfl) ?_;conv=>whnf)|(refine cF (by rfl) ?_;conv=>whnf)))
      generalize hm11 : m10 ++ (arA fx (lsT (atT x2 5)).length) = m11 at hA
      have hl11 : m11.length = m10.length + (arA fx (lsT (atT x2 5)).length).length := by rw [← hm11, List.length_append]
      refine VL.loop (fun s : Nat × Value => [(1, s.2), (0, .pointer (some ⟨p, 0, none⟩)), (5, .int .i16 v), (6, .bool fx), (7, .slice (some ⟨b0, o0, none⟩) l0.length k0), (47, .slice (some ⟨b0, o0, none⟩) l0.length k0), (48, .int .i64 l0.length), (49, .int .i64 i1), (9, .pointer (some ⟨b0, o0 + i1 * 18, none⟩)), (11, .slice (some ⟨b1_1, o1_1, none⟩) l1_1.length k1_1), (75, .slice (some ⟨b1_1, o1_1, none⟩) l1_1.length k1_1), (76, .int .i64 l1_1.length), (77, .int .i64 i2), (13, .pointer (some ⟨b1_1, o1_1 + i2 * 7, none⟩)), (19, .slice a2_5 l2_5.length k2_5), (135, .slice a2_5 l2_5.length k2_5), (136, .int .i64 l2_5.length), (137, .int .i64 s.1)])
        (fun s w' => s.1 ≤ l2_5.length ∧ Apd w0 B x l (m11 ++ ((lsT (atT x2 5)).take s.1).flatMap (bReadShareGroupStateResponseTopicPartitionStateBatch v fx)) s.2 w') (fun s => l2_5.length - s.1) (0, r) ⟨rfl, rfl, rfl, rfl, rfl, rfl, rfl, rfl, rfl, rfl, rfl, rfl, rfl, rfl, rfl, rfl, rfl, rfl, trivial⟩ ⟨Nat.zero_le _, by rw [List.take_zero, List.flatMap_nil, List.append_nil]; exact hA⟩ ?_
      clear hA
      rintro ⟨i3, r⟩ w ⟨hi3, hA⟩
      dsimp only at hi3 hA
      ((conv=>whnf);repeat(first|(refine mvT ?_;conv=>whnf)|(refine mvF ?_;conv=>whnf)|(refine cT (by rfl) ?_;conv=>whnf)|(refine cF (by rfl) ?_;conv=>whnf)))
      refine cI (by rfl) (fun h9=>?_) (fun h9=>?_)
      · have hil : i3 < l2_5.length := by have := of_decide_eq_true h9; simp only at this; omega
        have hiL3 : i3 < (lsT (atT x2 5)).length := by omega
        obtain ⟨hft, hfl⟩ := flat_take (bReadShareGroupStateResponseTopicPartitionStateBatch v fx) (lsT (atT x2 5)) i3 hiL3
        obtain ⟨b2_5, o2_5, rfl, hF2_5, hb2_5, hce2_5⟩ := hcl2_5 i3 l2_5[i3] (by simp [hil])
        have hre2_5 := hrl2_5 i3 l2_5[i3] ((lsT (atT x2 5))[i3]) (by simp [hil]) (by simp [hiL3])
        have hlo2_5 := lsT_ok (hok2_.1 5 _ rfl) ((lsT (atT x2 5))[i3]) (List.getElem_mem hiL3)
        generalize hm12 : m11 ++ ((lsT (atT x2 5)).take i3).flatMap (bReadShareGroupStateResponseTopicPartitionStateBatch v fx) = m12 at hA
        have hl12 : m12.length = m11.length + (((lsT (atT x2 5)).take i3).flatMap (bReadShareGroupStateResponseTopicPartitionStateBatch v fx)).length := by rw [← hm12, List.length_append]
        obtain ⟨x3, hx3⟩ : ∃ y, y = (lsT (atT x2 5))[i3] := ⟨_, rfl⟩
        rw [← hx3] at hft hfl hre2_5 hlo2_5
        obtain ⟨m3_, hcells, hm3_⟩ := hre2_5
        rw [hcells] at hce2_5
        have hok3_ := hlo2_5.2.2 rfl
        have hgl : (bReadShareGroupStateResponseTopicPartitionStateBatch v fx x3).length = (bReadShareGroupStateResponseTopicPartitionStateBatch v fx x3).length := rfl
        conv at hgl => rhs; unfold bReadShareGroupStateResponseTopicPartitionStateBatch
        simp only [List.length_append, List.length_nil] at hgl
        ((conv=>whnf);repeat(first|(refine mvT ?_;conv=>whnf)|(refine mvF ?_;conv=>whnf)|(refine cT (by rfl) ?_;conv=>whnf)|(refine cF (by rfl) ?_;conv=>whnf)))
        refine ⟨b2_5, o2_5, rfl, ⟨by omega, by omega⟩, ?_⟩
        ((conv=>whnf);repeat(first|(refine mvT ?_;conv=>whnf)|(refine mvF ?_;conv=>whnf)|(refine cT (by rfl) ?_;conv=>whnf)|(refine cF (by rfl) ?_;conv=>whnf)))
        refine ⟨_, ld ((hce2_5.ext hA.ext (hFx _ hb2_5 hF2_5)).cell (j := 0) rfl) (by simp <;> omega), ?_⟩; ((conv=>whnf);repeat(first|(refine mvT ?_;conv=>whnf)|(refine mvF ?_;conv=>whnf)|(refine cT (by rfl) ?_;conv=>whnf)|(refine cF (by rfl) ?_;conv=>whnf)))
        refine Does.mono (AppendInt64_does hA.ob (Nat.le_trans hB hA.size) (by simp only [List.length_append]; omega) _) ?_;rintro r w h;((conv=>whnf);repeat(first|(refine mvT ?_;conv=>whnf)|(refine mvF ?_;conv=>whnf)|(refine cT (by rfl) ?_;conv=>whnf)|(refine cF (by rfl) ?_;conv=>whnf)))
        replace hA := hA.tr h
        clear h
        generalize hm13 : m12 ++ (fixed (atT x3 0).n 8) = m13 at hA
        have hl13 : m13.length = m12.length + (fixed (atT x3 0).n 8).length := by rw [← hm13, List.length_append]
        refine ⟨_, ld ((hce2_5.ext hA.ext (hFx _ hb2_5 hF2_5)).cell (j := 1) rfl) (by simp <;> omega), ?_⟩; ((conv=>whnf);repeat(first|(refine mvT ?_;conv=>whnf)|(refine mvF ?_;conv=>whnf)|(refine cT (by rfl) ?_;conv=>whnf)|(refine cF (by rfl) ?_;conv=>whnf)))
        refine Does.mono (AppendInt64_does hA.ob (Nat.le_trans hB hA.size) (by simp only [List.length_append]; omega) _) ?_;rintro r w h;((conv=>whnf);repeat(first|(refine mvT ?_;conv=>whnf)|(refine mvF ?_;conv=>whnf)|(refine cT (by rfl) ?_;conv=>whnf)|(refine cF (by rfl) ?_;conv=>whnf)))
        replace hA := hA.tr h
        clear h
        generalize hm14 : m13 ++ (fixed (atT x3 1).n 8) = m14 at hA
        have hl14 : m14.length = m13.length + (fixed (atT x3 1).n 8).length := by rw [← hm14, List.length_append]
        refine ⟨_, ld ((hce2_5.ext hA.ext (hFx _ hb2_5 hF2_5)).cell (j := 2) rfl) (by simp <;> omega), ?_⟩; ((conv=>whnf);repeat(first|(refine mvT ?_;conv=>whnf)|(refine mvF ?_;conv=>whnf)|(refine cT (by rfl) ?_;conv=>whnf)|(refine cF (by rfl) ?_;conv=>whnf)))
        refine Does.mono (AppendInt8_does hA.ob (Nat.le_trans hB hA.size) (by simp only [List.length_append]; omega) _) ?_;rintro r w h;((conv=>whnf);repeat(first|(refine mvT ?_;conv=>whnf)|(refine mvF ?_;conv=>whnf)|(refine cT (by rfl) ?_;conv=>whnf)|(refine cF (by rfl) ?_;conv=>whnf)))
        rw [fixed1_mod (wrap_i8m _)] at h
        replace hA := hA.tr h
        clear h
        generalize hm15 : m14 ++ (fixed (atT x3 2).n 1) = m15 at hA
        have hl15 : m15.length = m14.length + (fixed (atT x3 2).n 1).length := by rw [← hm15, List.length_append]
        refine ⟨_, ld ((hce2_5.ext hA.ext (hFx _ hb2_5 hF2_5)).cell (j := 3) rfl) (by simp <;> omega), ?_⟩; ((conv=>whnf);repeat(first|(refine mvT ?_;conv=>whnf)|(refine mvF ?_;conv=>whnf)|(refine cT (by rfl) ?_;conv=>whnf)|(refine cF (by rfl) ?_;conv=>whnf)))
        refine Does.mono (AppendInt16_does hA.ob (Nat.le_trans hB hA.size) (by simp only [List.length_append]; omega) _) ?_;rintro r w h;((conv=>whnf);repeat(first|(refine mvT ?_;conv=>whnf)|(refine mvF ?_;conv=>whnf)|(refine cT (by rfl) ?_;conv=>whnf)|(refine cF (by rfl) ?_;conv=>whnf)))
        rw [fixed2_mod (wrap_i16m _)] at h
        replace hA := hA.tr h
        clear h
        generalize hm16 : m15 ++ (fixed (atT x3 3).n 2) = m16 at hA
        have hl16 : m16.length = m15.length + (fixed (atT x3 3).n 2).length := by rw [← hm16, List.length_append]
        (refine mvB ?_;((conv=>whnf);repeat(first|(refine mvT ?_;conv=>whnf)|(refine mvF ?_;conv=>whnf)|(refine cT (by rfl) ?_;conv=>whnf)|(refine cF (by rfl) ?_;conv=>whnf))))
        refine VC.cutB (fun r => [(1, r), (0, .pointer (some ⟨p, 0, none⟩)), (5, .int .i16 v), (6, .bool fx), (7, .slice (some ⟨b0, o0, none⟩) l0.length k0), (47, .slice (some ⟨b0, o0, none⟩) l0.length k0), (48, .int .i64 l0.length), (49, .int .i64 i1), (9, .pointer (some ⟨b0, o0 + i1 * 18, none⟩)), (11, .slice (some ⟨b1_1, o1_1, none⟩) l1_1.length k1_1), (75, .slice (some ⟨b1_1, o1_1, none⟩) l1_1.length k1_1), (76, .int .i64 l1_1.length), (77, .int .i64 i2), (13, .pointer (some ⟨b1_1, o1_1 + i2 * 7, none⟩)), (19, .slice (some ⟨b2_5, o2_5, none⟩) l2_5.length k2_5), (135, .slice (some ⟨b2_5, o2_5, none⟩) l2_5.length k2_5), (136, .int .i64 l2_5.length), (137, .int .i64 i3), (21, .pointer (some ⟨b2_5, o2_5 + i3 * 5, none⟩))]) (fun r w' => Apd w0 B x l (m16 ++ (tgsB fx (x3).u)) r w') ?_ ?_
        · refine cI (by rfl) (fun hc=>?_) (fun hc=>?_)
          · ((conv=>whnf);repeat(first|(refine mvT ?_;conv=>whnf)|(refine mvF ?_;conv=>whnf)|(refine cT (by rfl) ?_;conv=>whnf)|(refine cF (by rfl) ?_;conv=>whnf)))
            have hul := hok3_.2.len
            refine Does.mono (Tags_Len_does (ld ((hce2_5.ext hA.ext (hFx _ hb2_5 hF2_5)).cell (j := 4) rfl) (by simp <;> omega)) (hm3_.ext hA.ext hFx)) ?_;rintro r w ⟨rfl, rfl⟩;((conv=>whnf);repeat(first|(refine mvT ?_;conv=>whnf)|(refine mvF ?_;conv=>whnf)|(refine cT (by rfl) ?_;conv=>whnf)|(refine cF (by rfl) ?_;conv=>whnf)))
            rw [u32_add0 (by omega)]
            refine Does.mono (AppendUvarint_does hA.ob (Nat.le_trans hB hA.size) (x3).u.length (by omega) (by simp only [List.length_append]; omega)) ?_;rintro r w h;((conv=>whnf);repeat(first|(refine mvT ?_;conv=>whnf)|(refine mvF ?_;conv=>whnf)|(refine cT (by rfl) ?_;conv=>whnf)|(refine cF (by rfl) ?_;conv=>whnf)))
            have hul2 := uvar10 (n := (x3).u.length) (by omega)
            replace hA := hA.tr h
            clear h
            refine Does.mono (AppendEach_does (ld ((hce2_5.ext hA.ext (hFx _ hb2_5 hF2_5)).cell (j := 4) rfl) (by simp <;> omega)) (hm3_.ext hA.ext hFx) hok3_.2 hA.ob (Nat.le_trans hB hA.size) (hA.ne (hFR _ hF2_5).2 (hFR _ hF2_5).1) (fun j _ hf => hA.ne (hFR j hf).2 (hFR j hf).1) (by simp only [List.length_append]; omega)) ?_;rintro r w h;((conv=>whnf);repeat(first|(refine mvT ?_;conv=>whnf)|(refine mvF ?_;conv=>whnf)|(refine cT (by rfl) ?_;conv=>whnf)|(refine cF (by rfl) ?_;conv=>whnf)))
            replace hA := hA.tr h
            clear h
            refine ⟨_, ⟨rfl, rfl, rfl, rfl, rfl, rfl, rfl, rfl, rfl, rfl, rfl, rfl, rfl, rfl, rfl, rfl, rfl, rfl, rfl, trivial⟩, ?_⟩
            rw [tgsB, if_pos hc, ← List.append_assoc]
            exact hA
          · ((conv=>whnf);repeat(first|(refine mvT ?_;conv=>whnf)|(refine mvF ?_;conv=>whnf)|(refine cT (by rfl) ?_;conv=>whnf)|(refine cF (by rfl) ?_;conv=>whnf)))
            refine ⟨_, ⟨rfl, rfl, rfl, rfl, rfl, rfl, rfl, rfl, rfl, rfl, rfl, rfl, rfl, rfl, rfl, rfl, rfl, rfl, rfl, trivial⟩, ?_⟩
            rw [tgsB, if_neg (by rw [hc]; decide), List.append_nil]
            exact hA
        clear hA
        rintro r w hA
        ((conv=>whnf);repeat(first|(refine mvT ?_;conv=>whnf)|(refine mvF ?_;conv=>whnf)|(refine cT (by rfl) ?_;conv=>whnf)|(refine cF (by rfl) ?_;conv=>whnf)))
        generalize hm17 : m16 ++ (tgsB fx (x3).u) = m17 at hA
        have hl17 : m17.length = m16.length + (tgsB fx (x3).u).length := by rw [← hm17, List.length_append]
        have hfin : m12 ++ (bReadShareGroupStateResponseTopicPartitionStateBatch v fx) x3 = m17 := by unfold bReadShareGroupStateResponseTopicPartitionStateBatch; simp only [← hm17, ← hm16, ← hm15, ← hm14, ← hm13, List.append_assoc, List.nil_append, List.append_nil]
        refine ⟨(i3 + 1, r), ⟨rfl, rfl, rfl, rfl, rfl, rfl, rfl, rfl, rfl, rfl, rfl, rfl, rfl, rfl, rfl, rfl, rfl, inc_eq (by rw [maxLen_eq] at hkm2_5; omega), trivial⟩, ⟨by simp only; omega, ?_⟩, by simp only; omega⟩
        rw [hft, ← List.append_assoc, hm12, hfin]
        exact hA
      have hil : i3 = l2_5.length := by have := of_decide_eq_false h9; simp only at this; omega
      ((conv=>whnf);repeat(first|(refine mvT ?_;conv=>whnf)|(refine mvF ?_;conv=>whnf)|(refine cT (by rfl) ?_;conv=>whnf)|(refine cF (by rfl) ?_;conv=>whnf)))
      rw [hil, hll2_5, List.take_length] at hA
      generalize hm12 : m11 ++ ((lsT (atT x2 5)).flatMap (bReadShareGroupStateResponseTopicPartitionStateBatch v fx)) = m12 at hA
      have hl12 : m12.length = m11.length + ((lsT (atT x2 5)).flatMap (bReadShareGroupStateResponseTopicPartitionStateBatch v fx)).length := by rw [← hm12, List.length_append]
      (refine mvB ?_;((conv=>whnf);repeat(first|(refine mvT ?_;conv=>whnf)|(refine mvF ?_;conv=>whnf)|(refine cT (by rfl) ?_;conv=>whnf)|(refine cF (by rfl) ?_;conv=>whnf))))
      refine VC.cutB (fun r => [(1, r), (0, .pointer (some ⟨p, 0, none⟩)), (5, .int .i16 v), (6, .bool fx), (7, .slice (some ⟨b0, o0, none⟩) l0.length k0), (47, .slice (some ⟨b0, o0, none⟩) l0.length k0), (48, .int .i64 l0.length), (49, .int .i64 i1), (9, .pointer (some ⟨b0, o0 + i1 * 18, none⟩)), (11, .slice (some ⟨b1_1, o1_1, none⟩) l1_1.length k1_1), (75, .slice (some ⟨b1_1, o1_1, none⟩) l1_1.length k1_1), (76, .int .i64 l1_1.length), (77, .int .i64 i2), (13, .pointer (some ⟨b1_1, o1_1 + i2 * 7, none⟩))]) (fun r w' => Apd w0 B x l (m12 ++ (tgsB fx (x2).u)) r w') ?_ ?_
      · refine cI (by rfl) (fun hc=>?_) (fun hc=>?_)
        · ((conv=>whnf);repeat(first|(refine mvT ?_;conv=>whnf)|(refine mvF ?_;conv=>whnf)|(refine cT (by rfl) ?_;conv=>whnf)|(refine cF (by rfl) ?_;conv=>whnf)))
          have hul := hok2_.2.len
          refine Does.mono (Tags_Len_does (ld ((hce1_1.ext hA.ext (hFx _ hb1_1 hF1_1)).cell (j := 6) rfl) (by simp <;> omega)) (hm2_.ext hA.ext hFx)) ?_;rintro r w ⟨rfl, rfl⟩;((conv=>whnf);repeat(first|(refine mvT ?_;conv=>whnf)|(refine mvF ?_;conv=>whnf)|(refine cT (by rfl) ?_;conv=>whnf)|(refine cF (by rfl) ?_;conv=>whnf)))
          rw [u32_add0 (by omega)]
          refine Does.mono (AppendUvarint_does hA.ob (Nat.le_trans hB hA.size) (x2).u.length (by omega) (by simp only [List.length_append]; omega)) ?_;rintro r w h;((conv=>whnf);repeat(first|(refine mvT ?_;conv=>whnf)|(refine mvF ?_;conv=>whnf)|(refine cT (by rfl) ?_;conv=>whnf)|(refine cF (by rfl) ?_;conv=>whnf)))
          have hul2 := uvar10 (n := (x2).u.length) (by omega)
          replace hA := hA.tr h
          clear h
          refine Does.mono (AppendEach_does (ld ((hce1_1.ext hA.ext (hFx _ hb1_1 hF1_1)).cell (j := 6) rfl) (by simp <;> omega)) (hm2_.ext hA.ext hFx) hok2_.2 hA.ob (Nat.le_trans hB hA.size) (hA.ne (hFR _ hF1_1).2 (hFR _ hF1_1).1) (fun j _ hf => hA.ne (hFR j hf).2 (hFR j hf).1) (by simp only [List.length_append]; omega)) ?_;rintro r w h;((conv=>whnf);repeat(first|(refine mvT ?_;conv=>whnf)|(refine mvF ?_;conv=>whnf)|(refine cT (by rfl) ?_;conv=>whnf)|(refine cF (by rfl) ?_;conv=>whnf)))
          replace hA := hA.tr h
          clear h
          refine ⟨_, ⟨rfl, rfl, rfl, rfl, rfl, rfl, rfl, rfl, rfl, rfl, rfl, rfl, rfl, rfl, trivial⟩, ?_⟩
          rw [tgsB, if_pos hc, ← List.append_assoc]
          exact hA
        · ((conv=>whnf);repeat(first|(refine mvT ?_;conv=>whnf)|(refine mvF ?_;conv=>whnf)|(refine cT (by rfl) ?_;conv=>whnf)|(refine cF (by rfl) ?_;conv=>whnf)))
          refine ⟨_, ⟨rfl, rfl, rfl, rfl, rfl, rfl, rfl, rfl, rfl, rfl, rfl, rfl, rfl, rfl, trivial⟩, ?_⟩
          rw [tgsB, if_neg (by rw [hc]; decide), List.append_nil]
          exact hA
      clear hA
      rintro r w hA
      ((conv=>whnf);repeat(first|(refine mvT ?_;conv=>whnf)|(refine mvF ?_;conv=>whnf)|(refine cT (by rfl) ?_;conv=>whnf)|(refine cF (by rfl) ?_;conv=>whnf)))
      generalize hm13 : m12 ++ (tgsB fx (x2).u) = m13 at hA
      have hl13 : m13.length = m12.length + (tgsB fx (x2).u).length := by rw [← hm13, List.length_append]
      have hfin : m5 ++ (bReadShareGroupStateResponseTopicPartition v fx) x2 = m13 := by unfold bReadShareGroupStateResponseTopicPartition; simp only [← hm13, ← hm12, ← hm11, ← hm10, ← hm9, ← hm8, ← hm7, ← hm6, List.append_assoc, List.nil_append, List.append_nil]
      refine ⟨(i2 + 1, r), ⟨rfl, rfl, rfl, rfl, rfl, rfl, rfl, rfl, rfl, rfl, rfl, rfl, inc_eq (by rw [maxLen_eq] at hkm1_1; omega), trivial⟩, ⟨by simp only; omega, ?_⟩, by simp only; omega⟩
      rw [hft, ← List.append_assoc, hm5, hfin]
      exact hA
    have hil : i2 = l1_1.length := by have := of_decide_eq_false h9; simp only at this; omega
    ((conv=>whnf);repeat(first|(refine mvT ?_;conv=>whnf)|(refine mvF ?_;conv=>whnf)|(refine cT (by rfl) ?_;conv=>whnf)|(refine cF (by rfl) ?_;conv=>whnf)))
    rw [hil, hll1_1, List.take_length] at hA
    generalize hm5 : m4 ++ ((lsT (atT x1 1)).flatMap (bReadShareGroupStateResponseTopicPartition v fx)) = m5 at hA
    have hl5 : m5.length = m4.length + ((lsT (atT x1 1)).flatMap (bReadShareGroupStateResponseTopicPartition v fx)).length := by rw [← hm5, List.length_append]
    (refine mvB ?_;((conv=>whnf);repeat(first|(refine mvT ?_;conv=>whnf)|(refine mvF ?_;conv=>whnf)|(refine cT (by rfl) ?_;conv=>whnf)|(refine cF (by rfl) ?_;conv=>whnf))))
    refine VC.cutB (fun r => [(1, r), (0, .pointer (some ⟨p, 0, none⟩)), (5, .int .i16 v), (6, .bool fx), (7, .slice (some ⟨b0, o0, none⟩) l0.length k0), (47, .slice (some ⟨b0, o0, none⟩) l0.length k0), (48, .int .i64 l0.length), (49, .int .i64 i1), (9, .pointer (some ⟨b0, o0 + i1 * 18, none⟩))]) (fun r w' => Apd w0 B x l (m5 ++ (tgsB fx (x1).u)) r w') ?_ ?_
    · refine cI (by rfl) (fun hc=>?_) (fun hc=>?_)
      · ((conv=>whnf);repeat(first|(refine mvT ?_;conv=>whnf)|(refine mvF ?_;conv=>whnf)|(refine cT (by rfl) ?_;conv=>whnf)|(refine cF (by rfl) ?_;conv=>whnf)))
        have hul := hok1_.2.len
        refine Does.mono (Tags_Len_does (ld ((hce0.ext hA.ext (hFx _ hb0 hF0)).cell (j := 17) rfl) (by simp <;> omega)) (hm1_.ext hA.ext hFx)) ?_;rintro r w ⟨rfl, rfl⟩;((conv=>whnf);repeat(first|(refine mvT ?_;conv=>whnf)|(refine mvF ?_;conv=>whnf)|(refine cT (by rfl) ?_;conv=>whnf)|(refine cF (by rfl) ?_;conv=>whnf)))
        rw [u32_add0 (by omega)]
        refine Does.mono (AppendUvarint_does hA.ob (Nat.le_trans hB hA.size) (x1).u.length (by omega) (by simp only [List.length_append]; omega)) ?_;rintro r w h;((conv=>whnf);repeat(first|(refine mvT ?_;conv=>whnf)|(refine mvF ?_;conv=>whnf)|(refine cT (by rfl) ?_;conv=>whnf)|(refine cF (by rfl) ?_;conv=>whnf)))
        have hul2 := uvar10 (n := (x1).u.length) (by omega)
        replace hA := hA.tr h
        clear h
        refine Does.mono (AppendEach_does (ld ((hce0.ext hA.ext (hFx _ hb0 hF0)).cell (j := 17) rfl) (by simp <;> omega)) (hm1_.ext hA.ext hFx) hok1_.2 hA.ob (Nat.le_trans hB hA.size) (hA.ne (hFR _ hF0).2 (hFR _ hF0).1) (fun j _ hf => hA.ne (hFR j hf).2 (hFR j hf).1) (by simp only [List.length_append]; omega)) ?_;rintro r w h;((conv=>whnf);repeat(first|(refine mvT ?_;conv=>whnf)|(refine mvF ?_;conv=>whnf)|(refine cT (by rfl) ?_;conv=>whnf)|(refine cF (by rfl) ?_;conv=>whnf)))
        replace hA := hA.tr h
        clear h
        refine ⟨_, ⟨rfl, rfl, rfl, rfl, rfl, rfl, rfl, rfl, rfl, trivial⟩, ?_⟩
        rw [tgsB, if_pos hc, ← List.append_assoc]
        exact hA
      · ((conv=>whnf);repeat(first|(refine mvT ?_;conv=>whnf)|(refine mvF ?_;conv=>whnf)|(refine cT (by rfl) ?_;conv=>whnf)|(refine cF (by rfl) ?_;conv=>whnf)))
        refine ⟨_, ⟨rfl, rfl, rfl, rfl, rfl, rfl, rfl, rfl, rfl, trivial⟩, ?_⟩
        rw [tgsB, if_neg (by rw [hc]; decide), List.append_nil]
        exact hA
    clear hA
    rintro r w hA
    ((conv=>whnf);repeat(first|(refine mvT ?_;conv=>whnf)|(refine mvF ?_;conv=>whnf)|(refine cT (by rfl) ?_;conv=>whnf)|(refine cF (by rfl) ?_;conv=>whnf)))
    generalize hm6 : m5 ++ (tgsB fx (x1).u) = m6 at hA
    have hl6 : m6.length = m5.length + (tgsB fx (x1).u).length := by rw [← hm6, List.length_append]
    have hfin : m2 ++ (bReadShareGroupStateResponseTopic v fx) x1 = m6 := by unfold bReadShareGroupStateResponseTopic; simp only [← hm6, ← hm5, ← hm4, ← hm3, List.append_assoc, List.nil_append, List.append_nil]
    refine ⟨(i1 + 1, r), ⟨rfl, rfl, rfl, rfl, rfl, rfl, rfl, inc_eq (by rw [maxLen_eq] at hkm0; omega), trivial⟩, ⟨by simp only; omega, ?_⟩, by simp only; omega⟩
    rw [hft, ← List.append_assoc, hm2, hfin]
    exact hA
  have hil : i1 = l0.length := by have := of_decide_eq_false h9; simp only at this; omega
  ((conv=>whnf);repeat(first|(refine mvT ?_;conv=>whnf)|(refine mvF ?_;conv=>whnf)|(refine cT (by rfl) ?_;conv=>whnf)|(refine cF (by rfl) ?_;conv=>whnf)))
  rw [hil, hll0, List.take_length] at hA
  generalize hm2 : m1 ++ ((lsT (atT t 0)).flatMap (bReadShareGroupStateResponseTopic v fx)) = m2 at hA
  have hl2 : m2.length = m1.length + ((lsT (atT t 0)).flatMap (bReadShareGroupStateResponseTopic v fx)).length := by rw [← hm2, List.length_append]
  (refine mvB ?_;((conv=>whnf);repeat(first|(refine mvT ?_;conv=>whnf)|(refine mvF ?_;conv=>whnf)|(refine cT (by rfl) ?_;conv=>whnf)|(refine cF (by rfl) ?_;conv=>whnf))))
  refine VC.cutE (fun r => [(1, r), (0, .pointer (some ⟨p, 0, none⟩)), (5, .int .i16 v), (6, .bool fx)]) (fun r w' => Apd w0 B x l (m2 ++ (tgsB fx (t).u)) r w') ?_ ?_
  · refine cI (by rfl) (fun hc=>?_) (fun hc=>?_)
    · ((conv=>whnf);repeat(first|(refine mvT ?_;conv=>whnf)|(refine mvF ?_;conv=>whnf)|(refine cT (by rfl) ?_;conv=>whnf)|(refine cF (by rfl) ?_;conv=>whnf)))
      have hul := hok.2.len
      refine Does.mono (Tags_Len_does ((hp.ext hA.ext hxp).cell rfl) (hm.ext hA.ext hFx)) ?_;rintro r w ⟨rfl, rfl⟩;((conv=>whnf);repeat(first|(refine mvT ?_;conv=>whnf)|(refine mvF ?_;conv=>whnf)|(refine cT (by rfl) ?_;conv=>whnf)|(refine cF (by rfl) ?_;conv=>whnf)))
      rw [u32_add0 (by omega)]
      refine Does.mono (AppendUvarint_does hA.ob (Nat.le_trans hB hA.size) (t).u.length (by omega) (by simp only [List.length_append]; omega)) ?_;rintro r w h;((conv=>whnf);repeat(first|(refine mvT ?_;conv=>whnf)|(refine mvF ?_;conv=>whnf)|(refine cT (by rfl) ?_;conv=>whnf)|(refine cF (by rfl) ?_;conv=>whnf)))
      have hul2 := uvar10 (n := (t).u.length) (by omega)
      replace hA := hA.tr h
      clear h
      refine Does.mono (AppendEach_does ((hp.ext hA.ext hxp).cell rfl) (hm.ext hA.ext hFx) hok.2 hA.ob (Nat.le_trans hB hA.size) (hA.ne hxp hpl) (fun j _ hf => hA.ne (hFR j hf).2 (hFR j hf).1) (by simp only [List.length_append]; omega)) ?_;rintro r w h;((conv=>whnf);repeat(first|(refine mvT ?_;conv=>whnf)|(refine mvF ?_;conv=>whnf)|(refine cT (by rfl) ?_;conv=>whnf)|(refine cF (by rfl) ?_;conv=>whnf)))
      replace hA := hA.tr h
      clear h
      refine ⟨_, ⟨rfl, rfl, rfl, rfl, trivial⟩, ?_⟩
      rw [tgsB, if_pos hc, ← List.append_assoc]
      exact hA
    · ((conv=>whnf);repeat(first|(refine mvT ?_;conv=>whnf)|(refine mvF ?_;conv=>whnf)|(refine cT (by rfl) ?_;conv=>whnf)|(refine cF (by rfl) ?_;conv=>whnf)))
      refine ⟨_, ⟨rfl, rfl, rfl, rfl, trivial⟩, ?_⟩
      rw [tgsB, if_neg (by rw [hc]; decide), List.append_nil]
      exact hA
  clear hA
  rintro r w hA
  ((conv=>whnf);repeat(first|(refine mvT ?_;conv=>whnf)|(refine mvF ?_;conv=>whnf)|(refine cT (by rfl) ?_;conv=>whnf)|(refine cF (by rfl) ?_;conv=>whnf)))
  generalize hm3 : m2 ++ (tgsB fx (t).u) = m3 at hA
  have hl3 : m3.length = m2.length + (tgsB fx (t).u).length := by rw [← hm3, List.length_append]
  show Apd w0 B x l _ r w
  rw [show bReadShareGroupStateResponse v fx t = m3 by unfold bReadShareGroupStateResponse; simp only [← hm3, ← hm2, ← hm1, hm0, List.append_assoc, List.nil_append, List.append_nil]]
  exact hA
theorem qReadShareGroupStateResponseTopicPartitionStateBatch {w : World} {F : Nat → Prop} {cs : List Value} {t : T} (h : QPart true 6 dReadShareGroupStateResponseTopicPartitionStateBatch ⟨w, F⟩ cs t) : rReadShareGroupStateResponseTopicPartitionStateBatch w F cs t := by
  obtain ⟨_, _, u_, m, rfl, rfl, hA0, hm⟩ := iP h
  clear h
  obtain ⟨_, _, x0, _, rfl, rfl, h0, hA1⟩ := iA hA0
  obtain ⟨n0, rfl, rfl⟩ := iF4 h0
  obtain ⟨_, _, x1, _, rfl, rfl, h1, hA2⟩ := iA hA1
  obtain ⟨n1, rfl, rfl⟩ := iF4 h1
  obtain ⟨_, _, x2, _, rfl, rfl, h2, hA3⟩ := iA hA2
  obtain ⟨n2, rfl, rfl⟩ := iF1 h2
  obtain ⟨_, _, x3, _, rfl, rfl, h3, hA4⟩ := iA hA3
  obtain ⟨n3, rfl, rfl⟩ := iF2 h3
  obtain ⟨rfl, rfl⟩ := hA4
  exact ⟨m, rfl, hm⟩
theorem qReadShareGroupStateResponseTopicPartition {w : World} {F : Nat → Prop} {cs : List Value} {t : T} (h : QPart true 7 dReadShareGroupStateResponseTopicPartition ⟨w, F⟩ cs t) : rReadShareGroupStateResponseTopicPartition w F cs t := by
  obtain ⟨_, _, u_, m, rfl, rfl, hA0, hm⟩ := iP h
  clear h
  obtain ⟨_, _, x0, _, rfl, rfl, h0, hA1⟩ := iA hA0
  obtain ⟨n0, rfl, rfl⟩ := iF3 h0
  obtain ⟨_, _, x1, _, rfl, rfl, h1, hA2⟩ := iA hA1
  obtain ⟨n1, rfl, rfl⟩ := iF2 h1
  obtain ⟨_, _, x2, _, rfl, rfl, h2, hA3⟩ := iA hA2
  obtain ⟨c2, rfl, hh2⟩ := iF8n (by decide) h2
  obtain ⟨_, _, x3, _, rfl, rfl, h3, hA4⟩ := iA hA3
  obtain ⟨n3, rfl, rfl⟩ := iF3 h3
  obtain ⟨_, _, x4, _, rfl, rfl, h4, hA5⟩ := iA hA4
  obtain ⟨n4, rfl, rfl⟩ := iF4 h4
  obtain ⟨_, _, x5, _, rfl, rfl, h5, hA6⟩ := iA hA5
  obtain ⟨c5, rfl, hh5⟩ := iF11 (tg := true) (d := 6) (wf := ⟨w, F⟩) (of := 10) (sub := dReadShareGroupStateResponseTopicPartitionStateBatch) (sz := 5) (R := (rReadShareGroupStateResponseTopicPartitionStateBatch w F)) rfl (fun c y hc => qReadShareGroupStateResponseTopicPartitionStateBatch hc) h5
  obtain ⟨rfl, rfl⟩ := hA6
  exact ⟨c2, c5, m, rfl, hh2, hh5, hm⟩
theorem qReadShareGroupStateResponseTopic {w : World} {F : Nat → Prop} {cs : List Value} {t : T} (h : QPart true 8 dReadShareGroupStateResponseTopic ⟨w, F⟩ cs t) : rReadShareGroupStateResponseTopic w F cs t := by
  obtain ⟨_, _, u_, m, rfl, rfl, hA0, hm⟩ := iP h
  clear h
  obtain ⟨_, _, x0, _, rfl, rfl, h0, hA1⟩ := iA hA0
  obtain ⟨u0_0, u0_1, u0_2, u0_3, u0_4, u0_5, u0_6, u0_7, u0_8, u0_9, u0_10, u0_11, u0_12, u0_13, u0_14, u0_15, rfl, rfl⟩ := iF7 h0
  obtain ⟨_, _, x1, _, rfl, rfl, h1, hA2⟩ := iA hA1
  obtain ⟨c1, rfl, hh1⟩ := iF11 (tg := true) (d := 7) (wf := ⟨w, F⟩) (of := 10) (sub := dReadShareGroupStateResponseTopicPartition) (sz := 7) (R := (rReadShareGroupStateResponseTopicPartition w F)) rfl (fun c y hc => qReadShareGroupStateResponseTopicPartition hc) h1
  obtain ⟨rfl, rfl⟩ := hA2
  exact ⟨u0_0, u0_1, u0_2, u0_3, u0_4, u0_5, u0_6, u0_7, u0_8, u0_9, u0_10, u0_11, u0_12, u0_13, u0_14, u0_15, c1, m, rfl, rfl, hh1, hm⟩
theorem qReadShareGroupStateResponse {w : World} {F : Nat → Prop} {cs : List Value} {t : T} (h : QPart true 9 dReadShareGroupStateResponse ⟨w, F⟩ cs t) : ∃ c0 m, cs = [c0, m] ∧ ListR true 18 (rReadShareGroupStateResponseTopic w F) w F c0 (atT t 0) ∧ TagsR w F m t.u := by
  obtain ⟨_, _, u_, m, rfl, rfl, hA0, hm⟩ := iP h
  clear h
  obtain ⟨_, _, x0, _, rfl, rfl, h0, hA1⟩ := iA hA0
  obtain ⟨c0, rfl, hh0⟩ := iF11 (tg := true) (d := 8) (wf := ⟨w, F⟩) (of := 10) (sub := dReadShareGroupStateResponseTopic) (sz := 18) (R := (rReadShareGroupStateResponseTopic w F)) rfl (fun c y hc => qReadShareGroupStateResponseTopic hc) h0
  obtain ⟨rfl, rfl⟩ := hA1
  exact ⟨c0, m, rfl, hh0, hm⟩
theorem newReadShareGroupStateResponse (w : World) : Does X.P 63 #[] w fun r w' => ∃ p, r = .pointer (some ⟨p, 0, none⟩) ∧ w.heap.size ≤ p ∧ Own w' p 138 [.int .i16 0, .slice none 0 0, .map none] ∧ Ext nob w w' := by
  refine Does.go (X := X) (l := []) Tryz.func63 rfl (by kernel_rfl) (by kernel_rfl) _ rfl ?_
  ((conv=>whnf);repeat(first|(refine mvT ?_;conv=>whnf)|(refine mvF ?_;conv=>whnf)|(refine cT (by rfl) ?_;conv=>whnf)|(refine cF (by rfl) ?_;conv=>whnf)))
  intro p w1 hp ho hx
  ((conv=>whnf);repeat(first|(refine mvT ?_;conv=>whnf)|(refine mvF ?_;conv=>whnf)|(refine cT (by rfl) ?_;conv=>whnf)|(refine cF (by rfl) ?_;conv=>whnf)))
  refine Does.mono (dfReadShareGroupStateResponse (pre := []) (cur := [.int .i16 0, .slice none 0 0, .map none]) (post := []) (by simpa using ho) rfl rfl) ?_;rintro r2 w2 ⟨hd, hx2⟩;((conv=>whnf);repeat(first|(refine mvT ?_;conv=>whnf)|(refine mvF ?_;conv=>whnf)|(refine cT (by rfl) ?_;conv=>whnf)|(refine cF (by rfl) ?_;conv=>whnf)))
  exact ⟨p, rfl, hp, by simpa using hd, hx.st hx2 hp⟩
theorem maxReadShareGroupStateResponse (w : World) : Does X.P 26 #[] w fun r w' => r = .int .i64 0 ∧ Ext nob w w' := by
  have hmax : ∀ (p : Nat) (w : World), Does X.P 64 #[.pointer (some ⟨p, 0, none⟩)] w fun r w' => r = .int .i16 0 ∧ w' = w := by
    intro p w
    refine Does.go (X := X) (l := [_]) Tryz.func64 rfl (by kernel_rfl) (by kernel_rfl) _ rfl ?_
    ((conv=>whnf);repeat(first|(refine mvT ?_;conv=>whnf)|(refine mvF ?_;conv=>whnf)|(refine cT (by rfl) ?_;conv=>whnf)|(refine cF (by rfl) ?_;conv=>whnf)))
    exact ⟨rfl, rfl⟩
  refine Does.go (X := X) (l := []) Tryz.func26 rfl (by kernel_rfl) (by kernel_rfl) _ rfl ?_
  ((conv=>whnf);repeat(first|(refine mvT ?_;conv=>whnf)|(refine mvF ?_;conv=>whnf)|(refine cT (by rfl) ?_;conv=>whnf)|(refine cF (by rfl) ?_;conv=>whnf)))
  refine Does.mono (newReadShareGroupStateResponse w) ?_;rintro r1 w1 ⟨p, rfl, _, _, hx⟩;((conv=>whnf);repeat(first|(refine mvT ?_;conv=>whnf)|(refine mvF ?_;conv=>whnf)|(refine cT (by rfl) ?_;conv=>whnf)|(refine cF (by rfl) ?_;conv=>whnf)))
  refine Does.mono (hmax p w1) ?_;rintro r2 w2 ⟨rfl, rfl⟩;((conv=>whnf);repeat(first|(refine mvT ?_;conv=>whnf)|(refine mvF ?_;conv=>whnf)|(refine cT (by rfl) ?_;conv=>whnf)|(refine cF (by rfl) ?_;conv=>whnf)))
  exact ⟨rfl, hx⟩
theorem backReadShareGroupStateResponse {G F : Nat → Prop} {w : World} {v : Int} {y x ev : Value} {l s : List UInt8} {t : T} (hL : Laid w ev) (hy : Bytes w F y l) (hx : Bytes w G x s) (hv : 0 ≤ v) (hv2 : v < 32768)
    (hrd : rdPart 9 v (decide (v ≥ 0)) dReadShareGroupStateResponse (s, false) = (t, ([], false))) (hok : partOK 9 v dReadShareGroupStateResponse t) (hs : s.length ≤ 70000000000000) (hl : l.length + (bReadShareGroupStateResponse v (decide (v ≥ 0)) t).length ≤ 70000000000000) :
    Does X.P 28 #[.int .i64 v, y, x] w fun r w' => ∃ o, r = .tuple #[o, .bool true] ∧ OB w' w.heap.size o (l ++ bReadShareGroupStateResponse v (decide (v ≥ 0)) t) ∧ Ext nob w w' := by
  have hv16 : IntKind.i16.wrap v = v := by
    simp only [IntKind.wrap, IntKind.bits, IntKind.signed]
    simp
    omega
  obtain ⟨ay, cy, rfl, _⟩ := hy.view
  obtain ⟨ax, cx, rfl, _⟩ := hx.view
  have hy : Bytes w (fun k => F k ∧ k < w.heap.size) (.slice ay l.length cy) l := Sl.mono hy fun k h1 h2 => ⟨h2, h1⟩
  have hL1 := hL.lt
  refine Does.go (X := X) (l := [_, _, _]) Tryz.func28 rfl (by kernel_rfl) (by kernel_rfl) _ rfl ?_
  ((conv=>whnf);repeat(first|(refine mvT ?_;conv=>whnf)|(refine mvF ?_;conv=>whnf)|(refine cT (by rfl) ?_;conv=>whnf)|(refine cF (by rfl) ?_;conv=>whnf)))
  refine Does.mono (newReadShareGroupStateResponse w) ?_;rintro r1 w1 ⟨p, rfl, hwp, hop, hx1⟩;((conv=>whnf);repeat(first|(refine mvT ?_;conv=>whnf)|(refine mvF ?_;conv=>whnf)|(refine cT (by rfl) ?_;conv=>whnf)|(refine cF (by rfl) ?_;conv=>whnf)))
  have hset : Does X.P 66 #[.pointer (some ⟨p, 0, none⟩), .int .i16 (IntKind.i16.wrap v)] w1 fun r w' => Own w' p 138 [.int .i16 v, .slice none 0 0, .map none] ∧ Ext (fun k => k = p) w1 w' := by
    rw [hv16]
    refine Does.go (X := X) (l := [_, _]) Tryz.func66 rfl (by kernel_rfl) (by kernel_rfl) _ rfl ?_
    ((conv=>whnf);repeat(first|(refine mvT ?_;conv=>whnf)|(refine mvF ?_;conv=>whnf)|(refine cT (by rfl) ?_;conv=>whnf)|(refine cF (by rfl) ?_;conv=>whnf)))
    refine ⟨_, _, hop, rfl, rfl, rfl, ?_⟩
    intro w3 ho3 hx3
    ((conv=>whnf);repeat(first|(refine mvT ?_;conv=>whnf)|(refine mvF ?_;conv=>whnf)|(refine cT (by rfl) ?_;conv=>whnf)|(refine cF (by rfl) ?_;conv=>whnf)))
    exact ⟨ho3, hx3⟩
  refine Does.mono (hset) ?_;rintro r2 w2 ⟨hop2, hx2⟩;((conv=>whnf);repeat(first|(refine mvT ?_;conv=>whnf)|(refine mvF ?_;conv=>whnf)|(refine cT (by rfl) ?_;conv=>whnf)|(refine cF (by rfl) ?_;conv=>whnf)))
  have hx02 := hx1.st hx2 hwp
  refine app_bytes rfl rfl (OB.nil w2 w2.heap.size) (hx.e0 hx02).src rfl (by simp only [List.length_nil]; omega) (Nat.le_refl _) ?_
  intro x3 w3 h3 hx3 _ _
  ((conv=>whnf);repeat(first|(refine mvT ?_;conv=>whnf)|(refine mvF ?_;conv=>whnf)|(refine cT (by rfl) ?_;conv=>whnf)|(refine cF (by rfl) ?_;conv=>whnf)))
  rw [List.nil_append] at h3
  have hx3 : Ext nob w2 w3 := hx3.mono fun k _ h => by simp [Value.ownBlock] at h
  have hx03 := hx02.e0 hx3
  have hpl := hop2.lt
  have hread : Does X.P 67 #[.pointer (some ⟨p, 0, none⟩), x3] w3 fun r w' => RdPost w3 p 138 v (decide (v ≥ 0)) true dReadShareGroupStateResponse ev s r w' := by
    obtain ⟨a3, c3, rfl, _⟩ := h3.shape
    refine Does.go (X := X) (l := [_, _]) Tryz.func67 rfl (by kernel_rfl) (by kernel_rfl) _ rfl ?_
    ((conv=>whnf);repeat(first|(refine mvT ?_;conv=>whnf)|(refine mvF ?_;conv=>whnf)|(refine cT (by rfl) ?_;conv=>whnf)|(refine cF (by rfl) ?_;conv=>whnf)))
    refine Does.mono (readReadShareGroupStateResponse (hL.ext hx03 fun f => f) (hop2.e0 hx3) (h3.bytes (F := fun k => k ≠ p) fun k hk => by omega) (fun k h => h) hv (by omega)) ?_;rintro r w' h;((conv=>whnf);repeat(first|(refine mvT ?_;conv=>whnf)|(refine mvF ?_;conv=>whnf)|(refine cT (by rfl) ?_;conv=>whnf)|(refine cF (by rfl) ?_;conv=>whnf)))
    exact h
  refine Does.mono hread ?_
  rintro r4 w4 ⟨hr4, hx4, hpost⟩
  rw [hrd] at hr4 hpost
  obtain rfl : r4 = .nilIface := hr4.trans (if_neg Bool.false_ne_true)
  obtain ⟨cs, hop4, hq⟩ := hpost rfl
  obtain ⟨c0, m, rfl, hc0, hm⟩ := qReadShareGroupStateResponse hq
  ((conv=>whnf);repeat(first|(refine mvT ?_;conv=>whnf)|(refine mvF ?_;conv=>whnf)|(refine cT (by rfl) ?_;conv=>whnf)|(refine cF (by rfl) ?_;conv=>whnf)))
  have hx04 := hx03.st hx4 hwp
  refine app_bytes rfl rfl (OB.nil w4 w4.heap.size) (hy.e0 hx04).src rfl (by simp only [List.length_nil]; omega) (Nat.le_refl _) ?_
  intro y5 w5 h5 hx5 _ _
  ((conv=>whnf);repeat(first|(refine mvT ?_;conv=>whnf)|(refine mvF ?_;conv=>whnf)|(refine cT (by rfl) ?_;conv=>whnf)|(refine cF (by rfl) ?_;conv=>whnf)))
  rw [List.nil_append] at h5
  have hx5 : Ext nob w4 w5 := hx5.mono fun k _ h => by simp [Value.ownBlock] at h
  obtain ⟨F4, hF4⟩ : ∃ F4 : Nat → Prop, F4 = fun k => k ≠ p ∧ k < w4.heap.size := ⟨_, rfl⟩
  have hpl4 := hop4.lt
  refine Does.mono (appReadShareGroupStateResponse (F := fun k => k ≠ p ∧ k < w4.heap.size) (hop4.e0 hx5) (by have := (hc0.mono (F' := F4) (fun k h1 h2 => by rw [hF4]; exact ⟨h2, h1⟩) (fun _ _ h => rReadShareGroupStateResponseTopic_mono (F' := F4) h fun k h1 h2 => by rw [hF4]; exact ⟨h2, h1⟩)).ext hx5 (fun _ _ _ f => f) (fun _ _ h => rReadShareGroupStateResponseTopic_ext h hx5 fun _ _ _ f => f); rw [hF4] at this; exact this) (by have := (hm.mono (F' := F4) fun k h1 h2 => by rw [hF4]; exact ⟨h2, h1⟩).ext hx5 fun _ _ _ f => f; rw [hF4] at this; exact this) hok (fun j _ hj e => by have := h5.blk j e; have := hj.2; omega) (fun e => by have := h5.blk p e; omega) h5 hx5.size hv hl) ?_
  rintro r6 w6 h6
  ((conv=>whnf);repeat(first|(refine mvT ?_;conv=>whnf)|(refine mvF ?_;conv=>whnf)|(refine cT (by rfl) ?_;conv=>whnf)|(refine cF (by rfl) ?_;conv=>whnf)))
  exact ⟨r6, rfl, h6.ob.mono hx04.size, (hx04.e0 hx5).own h6.ext (B := w4.heap.size) h5.blk hx04.size⟩
theorem walkReadShareGroupStateResponse {w : World} {n : Nat} (hn : n < 256) {y x ev : Value} {l : List UInt8} {t : T} (hL : Laid w ev) (hy : Bytes w anyB y l) (ht : Tr w anyB x t) (hsz : wtT t ≤ 1048576) : Does X.P 7 #[.int .u8 n, y, x] w fun r w' => r = .bool true ∧ Ext nob w w' := by
  have hkeys := ht.keys
  obtain ⟨ay, cy, rfl, _⟩ := hy.view
  obtain ⟨sv, lv, uv, ls, rfl, _⟩ := ht.open
  refine Does.go (X := X) (l := [_, _, _]) Tryz.func7 rfl (by kernel_rfl) (by kernel_rfl) _ rfl ?_
  ((conv=>whnf);repeat(first|(refine mvT ?_;conv=>whnf)|(refine mvF ?_;conv=>whnf)|(refine cT (by rfl) ?_;conv=>whnf)|(refine cF (by rfl) ?_;conv=>whnf)))
  intro b w1 hb ho hx
  ((conv=>whnf);repeat(first|(refine mvT ?_;conv=>whnf)|(refine mvF ?_;conv=>whnf)|(refine cT (by rfl) ?_;conv=>whnf)|(refine cF (by rfl) ?_;conv=>whnf)))
  intro cq hcq
  cases cq with
  | true =>
    ((conv=>whnf);repeat(first|(refine mvT ?_;conv=>whnf)|(refine mvF ?_;conv=>whnf)|(refine cT (by rfl) ?_;conv=>whnf)|(refine cF (by rfl) ?_;conv=>whnf)))
    exact ⟨rfl, hx⟩
  | false =>
  ((conv=>whnf);repeat(first|(refine mvT ?_;conv=>whnf)|(refine mvF ?_;conv=>whnf)|(refine cT (by rfl) ?_;conv=>whnf)|(refine cF (by rfl) ?_;conv=>whnf)))
  ((conv=>whnf);repeat(first|(refine mvT ?_;conv=>whnf)|(refine mvF ?_;conv=>whnf)|(refine cT (by rfl) ?_;conv=>whnf)|(refine cF (by rfl) ?_;conv=>whnf)))
  refine ⟨_, rfl, ho.cells, ?_⟩
  ((conv=>whnf);repeat(first|(refine mvT ?_;conv=>whnf)|(refine mvF ?_;conv=>whnf)|(refine cT (by rfl) ?_;conv=>whnf)|(refine cF (by rfl) ?_;conv=>whnf)))
  refine Does.mono (zzFits1_does (ht.e0 hx)) ?_;rintro r2 w2 ⟨⟨b2, rfl⟩, hx2⟩;((conv=>whnf);repeat(first|(refine mvT ?_;conv=>whnf)|(refine mvF ?_;conv=>whnf)|(refine cT (by rfl) ?_;conv=>whnf)|(refine cF (by rfl) ?_;conv=>whnf)))
  have hx02 := hx.e0 hx2
  refine cI (by rfl) (fun h1=>?_) (fun h1=>?_)
  · ((conv=>whnf);repeat(first|(refine mvT ?_;conv=>whnf)|(refine mvF ?_;conv=>whnf)|(refine cT (by rfl) ?_;conv=>whnf)|(refine cF (by rfl) ?_;conv=>whnf)))
    exact ⟨rfl, hx02⟩
  · ((conv=>whnf);repeat(first|(refine mvT ?_;conv=>whnf)|(refine mvF ?_;conv=>whnf)|(refine cT (by rfl) ?_;conv=>whnf)|(refine cF (by rfl) ?_;conv=>whnf)))
    refine Does.mono (maxReadShareGroupStateResponse w2) ?_;rintro r3 w3 ⟨rfl, hx3⟩;((conv=>whnf);repeat(first|(refine mvT ?_;conv=>whnf)|(refine mvF ?_;conv=>whnf)|(refine cT (by rfl) ?_;conv=>whnf)|(refine cF (by rfl) ?_;conv=>whnf)))
    refine Does.mono (sReadShareGroupStateResponse w3) ?_;rintro r4 w4 ⟨⟨fv, rfl, hfd⟩, hx4⟩;((conv=>whnf);repeat(first|(refine mvT ?_;conv=>whnf)|(refine mvF ?_;conv=>whnf)|(refine cT (by rfl) ?_;conv=>whnf)|(refine cF (by rfl) ?_;conv=>whnf)))
    have hone := hfd
    obtain ⟨ls3, hsl3, _⟩ := hone
    obtain ⟨a3, c3, rfl, _⟩ := hsl3.view
    refine Does.mono (version_does n 0 hn (by omega) w4) ?_;rintro r5 w5 ⟨rfl, rfl⟩;((conv=>whnf);repeat(first|(refine mvT ?_;conv=>whnf)|(refine mvF ?_;conv=>whnf)|(refine cT (by rfl) ?_;conv=>whnf)|(refine cF (by rfl) ?_;conv=>whnf)))
    intro b6 w6 hb6 ho6 hx6
    ((conv=>whnf);repeat(first|(refine mvT ?_;conv=>whnf)|(refine mvF ?_;conv=>whnf)|(refine cT (by rfl) ?_;conv=>whnf)|(refine cF (by rfl) ?_;conv=>whnf)))
    refine ⟨_, _, ho6, rfl, rfl, rfl, ?_⟩
    intro w7 ho7 hx7
    have hx57 : Ext nob w5 w7 := hx6.st hx7 hb6
    ((conv=>whnf);repeat(first|(refine mvT ?_;conv=>whnf)|(refine mvF ?_;conv=>whnf)|(refine cT (by rfl) ?_;conv=>whnf)|(refine cF (by rfl) ?_;conv=>whnf)))
    have hx07 : Ext nob w w7 := ((hx02.e0 hx3).e0 hx4).e0 hx57
    have ho1 := (((ho.e0 hx2).e0 hx3).e0 hx4).e0 hx57
    generalize hvv : ((n % (0 + 1) : Nat) : Int) = v
    have hv0 : 0 ≤ v := by omega
    have hv1 : v < 32768 := by omega
    have hok : ∀ f, f ∈ dReadShareGroupStateResponse → okF 9 f = true := List.all_eq_true.1 (show (dReadShareGroupStateResponse).all (okF 9) = true by decide)
    have hnt : ∀ f, f ∈ dReadShareGroupStateResponse → ntF 9 f = true := List.all_eq_true.1 (show (dReadShareGroupStateResponse).all (ntF 9) = true by decide)
    have hrr : ∀ f, f ∈ dReadShareGroupStateResponse → okR 0 9 f = true := List.all_eq_true.1 (show (dReadShareGroupStateResponse).all (okR 0 9) = true by decide)
    have hww : ∀ f, f ∈ dReadShareGroupStateResponse → okW 9 f = true := List.all_eq_true.1 (show (dReadShareGroupStateResponse).all (okW 9) = true by decide)
    refine cI (by rfl) (fun hd=>?_) (fun hd=>?_)
    · ((conv=>whnf);repeat(first|(refine mvT ?_;conv=>whnf)|(refine mvF ?_;conv=>whnf)|(refine cT (by rfl) ?_;conv=>whnf)|(refine cF (by rfl) ?_;conv=>whnf)))
      exact ⟨rfl, hx07⟩
    · have hl1 : l.length ≤ 1000 := by have := of_decide_eq_false hd; omega
      ((conv=>whnf);repeat(first|(refine mvT ?_;conv=>whnf)|(refine mvF ?_;conv=>whnf)|(refine cT (by rfl) ?_;conv=>whnf)|(refine cF (by rfl) ?_;conv=>whnf)))
      refine ⟨_, rfl, ho7.cells, ?_⟩
      ((conv=>whnf);repeat(first|(refine mvT ?_;conv=>whnf)|(refine mvF ?_;conv=>whnf)|(refine cT (by rfl) ?_;conv=>whnf)|(refine cF (by rfl) ?_;conv=>whnf)))
      refine ⟨_, rfl, ho1.cells, ?_⟩
      ((conv=>whnf);repeat(first|(refine mvT ?_;conv=>whnf)|(refine mvF ?_;conv=>whnf)|(refine cT (by rfl) ?_;conv=>whnf)|(refine cF (by rfl) ?_;conv=>whnf)))
      have hfx : decide (v ≥ 0) = flexB 0 v := by simp [flexB]
      have hlen : (partB 9 v (flexB 0 v) dReadShareGroupStateResponse t).length ≤ 60000000000000 := Nat.le_trans (partB_wt 9 v _ dReadShareGroupStateResponse t hnt hkeys) (Nat.le_trans (Nat.mul_le_mul_left _ hsz) (Nat.le_of_ble_eq_true rfl))
      refine Does.mono (write_does 9 (v := v) ⟨_, rfl, hfd.e0 hx57⟩ (ht.e0 hx07) hok (by decide) (Nat.le_trans hlen (by decide))) ?_
      rintro r8 w8 ⟨hr8, hx8⟩
      obtain ⟨a8, c8, rfl, _⟩ := hr8.shape
      ((conv=>whnf);repeat(first|(refine mvT ?_;conv=>whnf)|(refine mvF ?_;conv=>whnf)|(refine cT (by rfl) ?_;conv=>whnf)|(refine cF (by rfl) ?_;conv=>whnf)))
      have hx08 := hx07.e0 hx8
      have hrd : rdPart 9 v (decide (v ≥ 0)) dReadShareGroupStateResponse (partB 9 v (flexB 0 v) dReadShareGroupStateResponse t, false) = (toPart 9 v (decide (v ≥ 0)) dReadShareGroupStateResponse t, ([], false)) := by
        have := part_read 9 0 v dReadShareGroupStateResponse t hnt hrr hkeys hv0 []
        rw [List.append_nil] at this
        rw [hfx]
        exact this
      have hokT := part_okT 9 v (decide (v ≥ 0)) dReadShareGroupStateResponse t hnt hww hkeys hv0
      have hlaw : bReadShareGroupStateResponse v (decide (v ≥ 0)) (toPart 9 v (decide (v ≥ 0)) dReadShareGroupStateResponse t) = partB 9 v (flexB 0 v) dReadShareGroupStateResponse t := by
        rw [← bReadShareGroupStateResponse_eq hv0 hokT, hfx]
        exact partT_law 9 v _ dReadShareGroupStateResponse t hnt hww
      refine Does.mono (backReadShareGroupStateResponse (v := v) (hL.ext hx08 fun f => f) (hy.e0 hx08) hr8.bytesAny hv0 hv1 hrd hokT (by omega) (by rw [hlaw]; omega)) ?_
      rintro r9 w9 ⟨o9, rfl, ho9, hx9⟩
      rw [hlaw] at ho9
      obtain ⟨a9, c9, rfl, _⟩ := ho9.shape
      ((conv=>whnf);repeat(first|(refine mvT ?_;conv=>whnf)|(refine mvF ?_;conv=>whnf)|(refine cT (by rfl) ?_;conv=>whnf)|(refine cF (by rfl) ?_;conv=>whnf)))
      have hx09 := hx08.e0 hx9
      intro b10 w10 hb10 ho10 hx10
      ((conv=>whnf);repeat(first|(refine mvT ?_;conv=>whnf)|(refine mvF ?_;conv=>whnf)|(refine cT (by rfl) ?_;conv=>whnf)|(refine cF (by rfl) ?_;conv=>whnf)))
      have hob : OB w10 w9.heap.size (.slice (some ⟨b10, 0, none⟩) 0 0) [] := ⟨OwnSl.of_own (sz := 1) (n := 0) (cap := 0) ho10 (Nat.le_refl _) (by rw [maxLen_eq]; omega) rfl, fun k hk => by simp only [Value.ownBlock, Option.some.injEq] at hk; omega⟩
      refine app_bytes rfl rfl hob (hy.e0 (hx09.e0 hx10)).src rfl (by simp only [List.length_nil]; omega) hx10.size ?_
      intro v11 w11 h11 hx11 _ _
      have hx911 : Ext nob w9 w11 := hx10.trans hx11 fun k hk e => by simp only [Value.ownBlock, Option.some.injEq] at e; omega
      obtain ⟨a11, c11, rfl, _⟩ := h11.shape
      ((conv=>whnf);repeat(first|(refine mvT ?_;conv=>whnf)|(refine mvF ?_;conv=>whnf)|(refine cT (by rfl) ?_;conv=>whnf)|(refine cF (by rfl) ?_;conv=>whnf)))
      rw [List.nil_append] at h11
      refine app_bytes rfl rfl h11 ((hr8.e0 hx9).e0 hx911).bytesAny.src rfl (by omega) hx911.size ?_
      intro v12 w12 h12 hx12 _ _
      have hx912 : Ext nob w9 w12 := hx911.own hx12 (B := w9.heap.size) h11.blk (Nat.le_refl _)
      obtain ⟨a12, c12, rfl, _⟩ := h12.shape
      ((conv=>whnf);repeat(first|(refine mvT ?_;conv=>whnf)|(refine mvF ?_;conv=>whnf)|(refine cT (by rfl) ?_;conv=>whnf)|(refine cF (by rfl) ?_;conv=>whnf)))
      refine Does.mono (Same_does (ho9.e0 hx912).bytesAny h12.bytesAny) ?_
      rintro r13 w13 ⟨rfl, hx13⟩
      ((conv=>whnf);repeat(first|(refine mvT ?_;conv=>whnf)|(refine mvF ?_;conv=>whnf)|(refine cT (by rfl) ?_;conv=>whnf)|(refine cF (by rfl) ?_;conv=>whnf)))
      exact ⟨by simp [oneOr], (hx09.e0 hx912).e0 hx13⟩
end Go.Proofs.YtanohglljnajiaaGreatDoor.K
