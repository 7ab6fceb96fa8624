/- DescribeShareGroupOffsetsResponse. -/
import Derived.Test.YtbcjhghfmhdafaaGreatC3
import Derived.Test.YtbcjhghfmhdafaaGreatP1
import Derived.Test.YtbcjhghfmhdafaaGreatGversion
set_option linter.unusedVariables false
set_option linter.unusedSimpArgs false
namespace Go.Proofs.YtbcjhghfmhdafaaGreat.K
open Go
set_option maxHeartbeats 1600000
set_option maxRecDepth 100000

abbrev dDescribeShareGroupOffsetsResponseGroupTopicPartition : List Fd := [.mk 3 0 (-1) (-1) (-1) 0 0 [], .mk 4 0 (-1) (-1) (-1) 0 0 [], .mk 3 0 (-1) (-1) (-1) 0 0 [], .mk 4 1 (-1) (-1) (-1) (-1) 0 [], .mk 2 0 (-1) (-1) (-1) 0 0 [], .mk 8 0 (-1) 0 (-1) 0 0 []]
abbrev dDescribeShareGroupOffsetsResponseGroupTopic : List Fd := [.mk 8 0 (-1) (-1) (-1) 0 0 [], .mk 7 0 (-1) (-1) (-1) 0 0 [], .mk 11 0 (-1) (-1) (-1) 0 10 dDescribeShareGroupOffsetsResponseGroupTopicPartition]
abbrev dDescribeShareGroupOffsetsResponseGroup : List Fd := [.mk 8 0 (-1) (-1) (-1) 0 0 [], .mk 11 0 (-1) (-1) (-1) 0 10 dDescribeShareGroupOffsetsResponseGroupTopic, .mk 2 0 (-1) (-1) (-1) 0 0 [], .mk 8 0 (-1) 0 (-1) 0 0 []]
abbrev dDescribeShareGroupOffsetsResponse : List Fd := [.mk 3 0 (-1) (-1) (-1) 0 0 [], .mk 11 0 (-1) (-1) (-1) 0 10 dDescribeShareGroupOffsetsResponseGroup]
theorem sDescribeShareGroupOffsetsResponseGroupTopicPartition (w : World) : Does X.P 97 #[] w fun r w' => FdsR w' (fun k => w.heap.size ≤ k) r dDescribeShareGroupOffsetsResponseGroupTopicPartition ∧ Ext nob w w' := by
  have hx0 : Ext nob w w := Ext.refl _ _
  refine Does.go (X := X) (l := []) Tryz.func97 rfl (by kernel_rfl) (by kernel_rfl) _ rfl ?_
  ((conv=>whnf);repeat(first|(refine mvT ?_;conv=>whnf)|(refine mvF ?_;conv=>whnf)|(refine cT (by rfl) ?_;conv=>whnf)|(refine cF (by rfl) ?_;conv=>whnf)))
  have hxs := hx0
  intro b wb hb ho hx
  have hx0 := hx0.e0 hx
  ((conv=>whnf);repeat(first|(refine mvT ?_;conv=>whnf)|(refine mvF ?_;conv=>whnf)|(refine cT (by rfl) ?_;conv=>whnf)|(refine cF (by rfl) ?_;conv=>whnf)))
  refine ⟨?_, hx0⟩
  exact FdL.fds (cs := [[.int .i64 3, .int .i64 0, .int .i64 (-1), .int .i64 (-1), .int .i64 (-1), .int .i64 0, .int .i64 0, .slice none 0 0], [.int .i64 4, .int .i64 0, .int .i64 (-1), .int .i64 (-1), .int .i64 (-1), .int .i64 0, .int .i64 0, .slice none 0 0], [.int .i64 3, .int .i64 0, .int .i64 (-1), .int .i64 (-1), .int .i64 (-1), .int .i64 0, .int .i64 0, .slice none 0 0], [.int .i64 4, .int .i64 1, .int .i64 (-1), .int .i64 (-1), .int .i64 (-1), .int .i64 (-1), .int .i64 0, .slice none 0 0], [.int .i64 2, .int .i64 0, .int .i64 (-1), .int .i64 (-1), .int .i64 (-1), .int .i64 0, .int .i64 0, .slice none 0 0], [.int .i64 8, .int .i64 0, .int .i64 (-1), .int .i64 0, .int .i64 (-1), .int .i64 0, .int .i64 0, .slice none 0 0]])
    ⟨fdLeaf _ _ _ _ _ _ _ _ _, fdLeaf _ _ _ _ _ _ _ _ _, fdLeaf _ _ _ _ _ _ _ _ _, fdLeaf _ _ _ _ _ _ _ _ _, fdLeaf _ _ _ _ _ _ _ _ _, fdLeaf _ _ _ _ _ _ _ _ _, trivial⟩ ho rfl (by decide) (by have := hxs.size; omega)
theorem sDescribeShareGroupOffsetsResponseGroupTopic (w : World) : Does X.P 59 #[] w fun r w' => FdsR w' (fun k => w.heap.size ≤ k) r dDescribeShareGroupOffsetsResponseGroupTopic ∧ Ext nob w w' := by
  have hx0 : Ext nob w w := Ext.refl _ _
  refine Does.go (X := X) (l := []) Tryz.func59 rfl (by kernel_rfl) (by kernel_rfl) _ rfl ?_
  ((conv=>whnf);repeat(first|(refine mvT ?_;conv=>whnf)|(refine mvF ?_;conv=>whnf)|(refine cT (by rfl) ?_;conv=>whnf)|(refine cF (by rfl) ?_;conv=>whnf)))
  refine Does.mono (sDescribeShareGroupOffsetsResponseGroupTopicPartition w) ?_
  rintro v2 wv2 ⟨hv2, hc⟩
  have hv2 := hv2.mono (F' := fun k => w.heap.size ≤ k) fun k _ h => Nat.le_trans hx0.size h
  obtain ⟨lv2, gv2, _⟩ := id hv2
  obtain ⟨av2, kv2, rfl, _⟩ := gv2.view
  ((conv=>whnf);repeat(first|(refine mvT ?_;conv=>whnf)|(refine mvF ?_;conv=>whnf)|(refine cT (by rfl) ?_;conv=>whnf)|(refine cF (by rfl) ?_;conv=>whnf)))
  have hx0 := hx0.e0 hc
  have hxs := hx0
  intro b wb hb ho hx
  have hx0 := hx0.e0 hx
  ((conv=>whnf);repeat(first|(refine mvT ?_;conv=>whnf)|(refine mvF ?_;conv=>whnf)|(refine cT (by rfl) ?_;conv=>whnf)|(refine cF (by rfl) ?_;conv=>whnf)))
  refine ⟨?_, hx0⟩
  exact FdL.fds (cs := [[.int .i64 8, .int .i64 0, .int .i64 (-1), .int .i64 (-1), .int .i64 (-1), .int .i64 0, .int .i64 0, .slice none 0 0], [.int .i64 7, .int .i64 0, .int .i64 (-1), .int .i64 (-1), .int .i64 (-1), .int .i64 0, .int .i64 0, .slice none 0 0], [.int .i64 11, .int .i64 0, .int .i64 (-1), .int .i64 (-1), .int .i64 (-1), .int .i64 0, .int .i64 10, .slice av2 lv2.length kv2]])
    ⟨fdLeaf _ _ _ _ _ _ _ _ _, fdLeaf _ _ _ _ _ _ _ _ _, FdC.of (hv2.e0 hx) _ _ _ _ _ _ _, trivial⟩ ho rfl (by decide) (by have := hxs.size; omega)
theorem sDescribeShareGroupOffsetsResponseGroup (w : World) : Does X.P 28 #[] w fun r w' => FdsR w' (fun k => w.heap.size ≤ k) r dDescribeShareGroupOffsetsResponseGroup ∧ Ext nob w w' := by
  have hx0 : Ext nob w w := Ext.refl _ _
  refine Does.go (X := X) (l := []) Tryz.func28 rfl (by kernel_rfl) (by kernel_rfl) _ rfl ?_
  ((conv=>whnf);repeat(first|(refine mvT ?_;conv=>whnf)|(refine mvF ?_;conv=>whnf)|(refine cT (by rfl) ?_;conv=>whnf)|(refine cF (by rfl) ?_;conv=>whnf)))
  refine Does.mono (sDescribeShareGroupOffsetsResponseGroupTopic w) ?_
  rintro v1 wv1 ⟨hv1, hc⟩
  have hv1 := hv1.mono (F' := fun k => w.heap.size ≤ k) fun k _ h => Nat.le_trans hx0.size h
  obtain ⟨lv1, gv1, _⟩ := id hv1
  obtain ⟨av1, kv1, rfl, _⟩ := gv1.view
  ((conv=>whnf);repeat(first|(refine mvT ?_;conv=>whnf)|(refine mvF ?_;conv=>whnf)|(refine cT (by rfl) ?_;conv=>whnf)|(refine cF (by rfl) ?_;conv=>whnf)))
  have hx0 := hx0.e0 hc
  have hxs := hx0
  intro b wb hb ho hx
  have hx0 := hx0.e0 hx
  ((conv=>whnf);repeat(first|(refine mvT ?_;conv=>whnf)|(refine mvF ?_;conv=>whnf)|(refine cT (by rfl) ?_;conv=>whnf)|(refine cF (by rfl) ?_;conv=>whnf)))
  refine ⟨?_, hx0⟩
  exact FdL.fds (cs := [[.int .i64 8, .int .i64 0, .int .i64 (-1), .int .i64 (-1), .int .i64 (-1), .int .i64 0, .int .i64 0, .slice none 0 0], [.int .i64 11, .int .i64 0, .int .i64 (-1), .int .i64 (-1), .int .i64 (-1), .int .i64 0, .int .i64 10, .slice av1 lv1.length kv1], [.int .i64 2, .int .i64 0, .int .i64 (-1), .int .i64 (-1), .int .i64 (-1), .int .i64 0, .int .i64 0, .slice none 0 0], [.int .i64 8, .int .i64 0, .int .i64 (-1), .int .i64 0, .int .i64 (-1), .int .i64 0, .int .i64 0, .slice none 0 0]])
    ⟨fdLeaf _ _ _ _ _ _ _ _ _, FdC.of (hv1.e0 hx) _ _ _ _ _ _ _, fdLeaf _ _ _ _ _ _ _ _ _, fdLeaf _ _ _ _ _ _ _ _ _, trivial⟩ ho rfl (by decide) (by have := hxs.size; omega)
theorem sDescribeShareGroupOffsetsResponse (w : World) : Does X.P 9 #[] w fun r w' => Msg w' (fun k => w.heap.size ≤ k) r dDescribeShareGroupOffsetsResponse 0 ∧ Ext nob w w' := by
  have hx0 : Ext nob w w := Ext.refl _ _
  refine Does.go (X := X) (l := []) Tryz.func9 rfl (by kernel_rfl) (by kernel_rfl) _ rfl ?_
  ((conv=>whnf);repeat(first|(refine mvT ?_;conv=>whnf)|(refine mvF ?_;conv=>whnf)|(refine cT (by rfl) ?_;conv=>whnf)|(refine cF (by rfl) ?_;conv=>whnf)))
  intro b w1 hb ho hx
  have hx0 := hx0.e0 hx
  have ho := ho
  ((conv=>whnf);repeat(first|(refine mvT ?_;conv=>whnf)|(refine mvF ?_;conv=>whnf)|(refine cT (by rfl) ?_;conv=>whnf)|(refine cF (by rfl) ?_;conv=>whnf)))
  refine Does.mono (sDescribeShareGroupOffsetsResponseGroup w1) ?_
  rintro v1 wv1 ⟨hv1, hc⟩
  have hv1 := hv1.mono (F' := fun k => w.heap.size ≤ k ∧ b < k) fun k _ h => ⟨Nat.le_trans hx0.size h, Nat.lt_of_lt_of_le ho.lt h⟩
  obtain ⟨lv1, gv1, _⟩ := id hv1
  obtain ⟨av1, kv1, rfl, _⟩ := gv1.view
  ((conv=>whnf);repeat(first|(refine mvT ?_;conv=>whnf)|(refine mvF ?_;conv=>whnf)|(refine cT (by rfl) ?_;conv=>whnf)|(refine cF (by rfl) ?_;conv=>whnf)))
  have hx0 := hx0.e0 hc
  have ho := ho.e0 hc
  have hxs := hx0
  intro b2 w2 hb2 ho2 hx2
  ((conv=>whnf);repeat(first|(refine mvT ?_;conv=>whnf)|(refine mvF ?_;conv=>whnf)|(refine cT (by rfl) ?_;conv=>whnf)|(refine cF (by rfl) ?_;conv=>whnf)))
  have hx0 := hx0.e0 hx2
  refine ⟨_, _, ho.e0 hx2, rfl, rfl, rfl, ?_⟩
  intro w3 ho3 hx3
  have hx03 := hx0.st hx3 hb
  ((conv=>whnf);repeat(first|(refine mvT ?_;conv=>whnf)|(refine mvF ?_;conv=>whnf)|(refine cT (by rfl) ?_;conv=>whnf)|(refine cF (by rfl) ?_;conv=>whnf)))
  refine ⟨_, rfl, ho3.cells, ?_⟩
  refine ⟨⟨_, rfl, ?_⟩, hx03⟩
  have ho2 := ho2.ext hx3 (by have := ho.lt; omega)
  have hs := hx0.size
  have hs2 : w.heap.size ≤ b2 := Nat.le_trans hxs.size hb2
  exact FdL.fds (cs := [[.int .i64 3, .int .i64 0, .int .i64 (-1), .int .i64 (-1), .int .i64 (-1), .int .i64 0, .int .i64 0, .slice none 0 0], [.int .i64 11, .int .i64 0, .int .i64 (-1), .int .i64 (-1), .int .i64 (-1), .int .i64 0, .int .i64 10, .slice av1 lv1.length kv1]])
    ⟨fdLeaf _ _ _ _ _ _ _ _ _, FdC.of (FdsR.mono (FdsR.ext (FdsR.e0 hv1 hx2) hx3 fun k _ h1 h2 => by omega) fun k _ h => h.1) _ _ _ _ _ _ _, trivial⟩ ho2 rfl (by decide) (by omega)
def rDescribeShareGroupOffsetsResponseGroupTopicPartition (w : World) (F : Nat → Prop) (cs : List Value) (t : T) : Prop := ∃ c5 m, cs = [.int .i32 (IntKind.i32.wrap (atT t 0).n), .int .i64 (atT t 1).n, .int .i32 (IntKind.i32.wrap (atT t 2).n), .int .i64 (atT t 3).n, .int .i16 (IntKind.i16.wrap (atT t 4).n), c5, m] ∧ NTextR w F c5 (atT t 5) ∧ TagsR w F m t.u
theorem rDescribeShareGroupOffsetsResponseGroupTopicPartition_ext {M F : Nat → Prop} {w w' : World} {cs : List Value} {t : T} (h : rDescribeShareGroupOffsetsResponseGroupTopicPartition w F cs t) (x : Ext M w w') (hF : ∀ k, k < w.heap.size → F k → ¬ M k) : rDescribeShareGroupOffsetsResponseGroupTopicPartition w' F cs t := by
  obtain ⟨c5, m, rfl, h5, hm⟩ := h
  exact ⟨c5, m, rfl, h5.ext x hF, hm.ext x hF⟩
theorem rDescribeShareGroupOffsetsResponseGroupTopicPartition_mono {F F' : Nat → Prop} {w : World} {cs : List Value} {t : T} (h : rDescribeShareGroupOffsetsResponseGroupTopicPartition w F cs t) (hF : ∀ k, k < w.heap.size → F k → F' k) : rDescribeShareGroupOffsetsResponseGroupTopicPartition w F' cs t := by
  obtain ⟨c5, m, rfl, h5, hm⟩ := h
  exact ⟨c5, m, rfl, h5.mono hF, hm.mono hF⟩
theorem rDescribeShareGroupOffsetsResponseGroupTopicPartition_len {F : Nat → Prop} {w : World} {cs : List Value} {t : T} (h : rDescribeShareGroupOffsetsResponseGroupTopicPartition w F cs t) : cs.length = 7 := by
  obtain ⟨c5, m, rfl, h5, hm⟩ := h
  rfl
def rDescribeShareGroupOffsetsResponseGroupTopic (w : World) (F : Nat → Prop) (cs : List Value) (t : T) : Prop := ∃ u1_0 u1_1 u1_2 u1_3 u1_4 u1_5 u1_6 u1_7 u1_8 u1_9 u1_10 u1_11 u1_12 u1_13 u1_14 u1_15 c2 m, cs = [str (atT t 0).s, bcell u1_0, bcell u1_1, bcell u1_2, bcell u1_3, bcell u1_4, bcell u1_5, bcell u1_6, bcell u1_7, bcell u1_8, bcell u1_9, bcell u1_10, bcell u1_11, bcell u1_12, bcell u1_13, bcell u1_14, bcell u1_15, c2, m] ∧ uuidB (atT t 1).s = [u1_0, u1_1, u1_2, u1_3, u1_4, u1_5, u1_6, u1_7, u1_8, u1_9, u1_10, u1_11, u1_12, u1_13, u1_14, u1_15] ∧ ListR true 7 (rDescribeShareGroupOffsetsResponseGroupTopicPartition w F) w F c2 (atT t 2) ∧ TagsR w F m t.u
theorem rDescribeShareGroupOffsetsResponseGroupTopic_ext {M F : Nat → Prop} {w w' : World} {cs : List Value} {t : T} (h : rDescribeShareGroupOffsetsResponseGroupTopic w F cs t) (x : Ext M w w') (hF : ∀ k, k < w.heap.size → F k → ¬ M k) : rDescribeShareGroupOffsetsResponseGroupTopic w' F cs t := by
  obtain ⟨u1_0, u1_1, u1_2, u1_3, u1_4, u1_5, u1_6, u1_7, u1_8, u1_9, u1_10, u1_11, u1_12, u1_13, u1_14, u1_15, c2, m, rfl, h1, h2, hm⟩ := h
  exact ⟨u1_0, u1_1, u1_2, u1_3, u1_4, u1_5, u1_6, u1_7, u1_8, u1_9, u1_10, u1_11, u1_12, u1_13, u1_14, u1_15, c2, m, rfl, h1, h2.ext x hF (fun _ _ h => rDescribeShareGroupOffsetsResponseGroupTopicPartition_ext h x hF), hm.ext x hF⟩
theorem rDescribeShareGroupOffsetsResponseGroupTopic_mono {F F' : Nat → Prop} {w : World} {cs : List Value} {t : T} (h : rDescribeShareGroupOffsetsResponseGroupTopic w F cs t) (hF : ∀ k, k < w.heap.size → F k → F' k) : rDescribeShareGroupOffsetsResponseGroupTopic w F' cs t := by
  obtain ⟨u1_0, u1_1, u1_2, u1_3, u1_4, u1_5, u1_6, u1_7, u1_8, u1_9, u1_10, u1_11, u1_12, u1_13, u1_14, u1_15, c2, m, rfl, h1, h2, hm⟩ := h
  exact ⟨u1_0, u1_1, u1_2, u1_3, u1_4, u1_5, u1_6, u1_7, u1_8, u1_9, u1_10, u1_11, u1_12, u1_13, u1_14, u1_15, c2, m, rfl, h1, h2.mono hF (fun _ _ h => rDescribeShareGroupOffsetsResponseGroupTopicPartition_mono h hF), hm.mono hF⟩
theorem rDescribeShareGroupOffsetsResponseGroupTopic_len {F : Nat → Prop} {w : World} {cs : List Value} {t : T} (h : rDescribeShareGroupOffsetsResponseGroupTopic w F cs t) : cs.length = 19 := by
  obtain ⟨u1_0, u1_1, u1_2, u1_3, u1_4, u1_5, u1_6, u1_7, u1_8, u1_9, u1_10, u1_11, u1_12, u1_13, u1_14, u1_15, c2, m, rfl, h1, h2, hm⟩ := h
  rfl
def rDescribeShareGroupOffsetsResponseGroup (w : World) (F : Nat → Prop) (cs : List Value) (t : T) : Prop := ∃ c1 c3 m, cs = [str (atT t 0).s, c1, .int .i16 (IntKind.i16.wrap (atT t 2).n), c3, m] ∧ ListR true 19 (rDescribeShareGroupOffsetsResponseGroupTopic w F) w F c1 (atT t 1) ∧ NTextR w F c3 (atT t 3) ∧ TagsR w F m t.u
theorem rDescribeShareGroupOffsetsResponseGroup_ext {M F : Nat → Prop} {w w' : World} {cs : List Value} {t : T} (h : rDescribeShareGroupOffsetsResponseGroup w F cs t) (x : Ext M w w') (hF : ∀ k, k < w.heap.size → F k → ¬ M k) : rDescribeShareGroupOffsetsResponseGroup w' F cs t := by
  obtain ⟨c1, c3, m, rfl, h1, h3, hm⟩ := h
  exact ⟨c1, c3, m, rfl, h1.ext x hF (fun _ _ h => rDescribeShareGroupOffsetsResponseGroupTopic_ext h x hF), h3.ext x hF, hm.ext x hF⟩
theorem rDescribeShareGroupOffsetsResponseGroup_mono {F F' : Nat → Prop} {w : World} {cs : List Value} {t : T} (h : rDescribeShareGroupOffsetsResponseGroup w F cs t) (hF : ∀ k, k < w.heap.size → F k → F' k) : rDescribeShareGroupOffsetsResponseGroup w F' cs t := by
  obtain ⟨c1, c3, m, rfl, h1, h3, hm⟩ := h
  exact ⟨c1, c3, m, rfl, h1.mono hF (fun _ _ h => rDescribeShareGroupOffsetsResponseGroupTopic_mono h hF), h3.mono hF, hm.mono hF⟩
theorem rDescribeShareGroupOffsetsResponseGroup_len {F : Nat → Prop} {w : World} {cs : List Value} {t : T} (h : rDescribeShareGroupOffsetsResponseGroup w F cs t) : cs.length = 5 := by
  obtain ⟨c1, c3, m, rfl, h1, h3, hm⟩ := h
  rfl
theorem makeDescribeShareGroupOffsetsResponseGroupTopicPartition {F : Nat → Prop} {w0 : World} {u : Int} {x : Value} {t : T} (ht : Tr w0 F x t) (hok : partOK 6 u dDescribeShareGroupOffsetsResponseGroupTopicPartition t) :
    Does X.P 116 #[x] w0 fun r w' => ∃ cs : List Value, r = .agg cs.toArray ∧ okCells cs = true ∧ rDescribeShareGroupOffsetsResponseGroupTopicPartition w' (fun k => F k ∨ w0.heap.size ≤ k) cs t ∧ Ext nob w0 w' := by
  obtain ⟨R0, hR0, hRF, ht0⟩ : ∃ R0 : Nat → Prop, (∀ k, R0 k → k < w0.heap.size) ∧ (∀ k, R0 k → F k) ∧ Tr w0 R0 x t := ⟨fun k => k < w0.heap.size ∧ F k, fun k h => h.1, fun k h => h.2, ht.mono fun k h1 h2 => ⟨h1, h2⟩⟩
  clear ht
  obtain ⟨sv, lv, uv, ls, rfl, hn, hs, hl, hels, htg⟩ := ht0.open
  obtain ⟨us, hus, husl, huc⟩ := id htg
  obtain ⟨au, cu, rfl, husc, husm, husF, _, husC⟩ := hus.view
  refine Does.go (X := X) (l := [_]) Tryz.func116 rfl (by kernel_rfl) (by kernel_rfl) _ rfl ?_
  ((conv=>whnf);repeat(first|(refine mvT ?_;conv=>whnf)|(refine mvF ?_;conv=>whnf)|(refine cT (by rfl) ?_;conv=>whnf)|(refine cF (by rfl) ?_;conv=>whnf)))
  intro b wb hb ho hx
  ((conv=>whnf);repeat(first|(refine mvT ?_;conv=>whnf)|(refine mvF ?_;conv=>whnf)|(refine cT (by rfl) ?_;conv=>whnf)|(refine cF (by rfl) ?_;conv=>whnf)))
  intro q wq hqb hoq hxq
  ((conv=>whnf);repeat(first|(refine mvT ?_;conv=>whnf)|(refine mvF ?_;conv=>whnf)|(refine cT (by rfl) ?_;conv=>whnf)|(refine cF (by rfl) ?_;conv=>whnf)))
  intro p wc hpB hp hxp
  have hbl := ho.lt
  have hql := hoq.lt
  have hs1 := hx.size
  have hs2 := hxq.size
  have hpb : p ≠ b := by omega
  have hpq : p ≠ q := by omega
  have hwp : w0.heap.size ≤ p := by omega
  have hR0 : ∀ k, R0 k → k < w0.heap.size ∧ k ≠ p := fun k h => ⟨hR0 k h, by have := hR0 k h; omega⟩
  obtain ⟨ty, hp⟩ : ∃ T, Own wc p T [.int .i32 0, .int .i64 0, .int .i32 0, .int .i64 0, .int .i16 0, .pointer none, .map none] := ⟨_, hp⟩
  have ho : Own wc b ImplTreeT [.int .i64 t.n, sv, .bool t.nl, lv, .slice au us.length cu] := (ho.e0 hxq).e0 hxp
  have hoq := hoq.e0 hxp
  obtain ⟨qT, qL, hqlen, hoq⟩ : ∃ T L, L.length = 7 ∧ Own wc q T L := ⟨_, _, rfl, hoq⟩
  have hx0 : Ext (fun k => k = p) w0 wc := ((hx.e0 hxq).e0 hxp).mono fun _ _ f => f.elim
  ((conv=>whnf);repeat(first|(refine mvT ?_;conv=>whnf)|(refine mvF ?_;conv=>whnf)|(refine cT (by rfl) ?_;conv=>whnf)|(refine cF (by rfl) ?_;conv=>whnf)))
  refine ⟨_, rfl, ho.cells, ?_⟩
  ((conv=>whnf);repeat(first|(refine mvT ?_;conv=>whnf)|(refine mvF ?_;conv=>whnf)|(refine cT (by rfl) ?_;conv=>whnf)|(refine cF (by rfl) ?_;conv=>whnf)))
  refine Does.mono (iat_does (ht0.ext hx0 fun k _ h => (hR0 k h).2) 0) ?_
  rintro ra wa ⟨hra, hxa⟩
  obtain ⟨sva, lva, uva, lsa, rfl, hna, hsa, hla, helsa, hua⟩ := hra.open
  ((conv=>whnf);repeat(first|(refine mvT ?_;conv=>whnf)|(refine mvF ?_;conv=>whnf)|(refine cT (by rfl) ?_;conv=>whnf)|(refine cF (by rfl) ?_;conv=>whnf)))
  refine st_cell (o := 0) (v := .int .i32 (IntKind.i32.wrap (atT t 0).n)) (hp.e0 hxa) (rfl) (by omega) rfl (by simp) (rfl) ?_
  intro wc hoc hxc
  have hp : Own wc p ty [.int .i32 (IntKind.i32.wrap (atT t 0).n), .int .i64 0, .int .i32 0, .int .i64 0, .int .i16 0, .pointer none, .map none] := hoc
  have ho := (ho.e0 hxa).ext hxc (Ne.symm hpb)
  have hx0 := (hx0.tr0 hxa).trans hxc fun _ _ h => h
  have hoq := (hoq.e0 hxa).ext hxc (Ne.symm hpq)
  ((conv=>whnf);repeat(first|(refine mvT ?_;conv=>whnf)|(refine mvF ?_;conv=>whnf)|(refine cT (by rfl) ?_;conv=>whnf)|(refine cF (by rfl) ?_;conv=>whnf)))
  refine ⟨_, rfl, ho.cells, ?_⟩
  ((conv=>whnf);repeat(first|(refine mvT ?_;conv=>whnf)|(refine mvF ?_;conv=>whnf)|(refine cT (by rfl) ?_;conv=>whnf)|(refine cF (by rfl) ?_;conv=>whnf)))
  refine Does.mono (iat_does (ht0.ext hx0 fun k _ h => (hR0 k h).2) 1) ?_
  rintro ra wa ⟨hra, hxa⟩
  obtain ⟨sva, lva, uva, lsa, rfl, hna, hsa, hla, helsa, hua⟩ := hra.open
  ((conv=>whnf);repeat(first|(refine mvT ?_;conv=>whnf)|(refine mvF ?_;conv=>whnf)|(refine cT (by rfl) ?_;conv=>whnf)|(refine cF (by rfl) ?_;conv=>whnf)))
  refine st_cell (o := 1) (v := .int .i64 (atT t 1).n) (hp.e0 hxa) (rfl) (by omega) rfl (by simp) (rfl) ?_
  intro wc hoc hxc
  have hp : Own wc p ty [.int .i32 (IntKind.i32.wrap (atT t 0).n), .int .i64 (atT t 1).n, .int .i32 0, .int .i64 0, .int .i16 0, .pointer none, .map none] := hoc
  have ho := (ho.e0 hxa).ext hxc (Ne.symm hpb)
  have hx0 := (hx0.tr0 hxa).trans hxc fun _ _ h => h
  have hoq := (hoq.e0 hxa).ext hxc (Ne.symm hpq)
  ((conv=>whnf);repeat(first|(refine mvT ?_;conv=>whnf)|(refine mvF ?_;conv=>whnf)|(refine cT (by rfl) ?_;conv=>whnf)|(refine cF (by rfl) ?_;conv=>whnf)))
  refine ⟨_, rfl, ho.cells, ?_⟩
  ((conv=>whnf);repeat(first|(refine mvT ?_;conv=>whnf)|(refine mvF ?_;conv=>whnf)|(refine cT (by rfl) ?_;conv=>whnf)|(refine cF (by rfl) ?_;conv=>whnf)))
  refine Does.mono (iat_does (ht0.ext hx0 fun k _ h => (hR0 k h).2) 2) ?_
  rintro ra wa ⟨hra, hxa⟩
  obtain ⟨sva, lva, uva, lsa, rfl, hna, hsa, hla, helsa, hua⟩ := hra.open
  ((conv=>whnf);repeat(first|(refine mvT ?_;conv=>whnf)|(refine mvF ?_;conv=>whnf)|(refine cT (by rfl) ?_;conv=>whnf)|(refine cF (by rfl) ?_;conv=>whnf)))
  refine st_cell (o := 2) (v := .int .i32 (IntKind.i32.wrap (atT t 2).n)) (hp.e0 hxa) (rfl) (by omega) rfl (by simp) (rfl) ?_
  intro wc hoc hxc
  have hp : Own wc p ty [.int .i32 (IntKind.i32.wrap (atT t 0).n), .int .i64 (atT t 1).n, .int .i32 (IntKind.i32.wrap (atT t 2).n), .int .i64 0, .int .i16 0, .pointer none, .map none] := hoc
  have ho := (ho.e0 hxa).ext hxc (Ne.symm hpb)
  have hx0 := (hx0.tr0 hxa).trans hxc fun _ _ h => h
  have hoq := (hoq.e0 hxa).ext hxc (Ne.symm hpq)
  ((conv=>whnf);repeat(first|(refine mvT ?_;conv=>whnf)|(refine mvF ?_;conv=>whnf)|(refine cT (by rfl) ?_;conv=>whnf)|(refine cF (by rfl) ?_;conv=>whnf)))
  refine ⟨_, rfl, ho.cells, ?_⟩
  ((conv=>whnf);repeat(first|(refine mvT ?_;conv=>whnf)|(refine mvF ?_;conv=>whnf)|(refine cT (by rfl) ?_;conv=>whnf)|(refine cF (by rfl) ?_;conv=>whnf)))
  refine Does.mono (iat_does (ht0.ext hx0 fun k _ h => (hR0 k h).2) 3) ?_
  rintro ra wa ⟨hra, hxa⟩
  obtain ⟨sva, lva, uva, lsa, rfl, hna, hsa, hla, helsa, hua⟩ := hra.open
  ((conv=>whnf);repeat(first|(refine mvT ?_;conv=>whnf)|(refine mvF ?_;conv=>whnf)|(refine cT (by rfl) ?_;conv=>whnf)|(refine cF (by rfl) ?_;conv=>whnf)))
  refine st_cell (o := 3) (v := .int .i64 (atT t 3).n) (hp.e0 hxa) (rfl) (by omega) rfl (by simp) (rfl) ?_
  intro wc hoc hxc
  have hp : Own wc p ty [.int .i32 (IntKind.i32.wrap (atT t 0).n), .int .i64 (atT t 1).n, .int .i32 (IntKind.i32.wrap (atT t 2).n), .int .i64 (atT t 3).n, .int .i16 0, .pointer none, .map none] := hoc
  have ho := (ho.e0 hxa).ext hxc (Ne.symm hpb)
  have hx0 := (hx0.tr0 hxa).trans hxc fun _ _ h => h
  have hoq := (hoq.e0 hxa).ext hxc (Ne.symm hpq)
  ((conv=>whnf);repeat(first|(refine mvT ?_;conv=>whnf)|(refine mvF ?_;conv=>whnf)|(refine cT (by rfl) ?_;conv=>whnf)|(refine cF (by rfl) ?_;conv=>whnf)))
  refine ⟨_, rfl, ho.cells, ?_⟩
  ((conv=>whnf);repeat(first|(refine mvT ?_;conv=>whnf)|(refine mvF ?_;conv=>whnf)|(refine cT (by rfl) ?_;conv=>whnf)|(refine cF (by rfl) ?_;conv=>whnf)))
  refine Does.mono (iat_does (ht0.ext hx0 fun k _ h => (hR0 k h).2) 4) ?_
  rintro ra wa ⟨hra, hxa⟩
  obtain ⟨sva, lva, uva, lsa, rfl, hna, hsa, hla, helsa, hua⟩ := hra.open
  ((conv=>whnf);repeat(first|(refine mvT ?_;conv=>whnf)|(refine mvF ?_;conv=>whnf)|(refine cT (by rfl) ?_;conv=>whnf)|(refine cF (by rfl) ?_;conv=>whnf)))
  refine st_cell (o := 4) (v := .int .i16 (IntKind.i16.wrap (atT t 4).n)) (hp.e0 hxa) (rfl) (by omega) rfl (by simp) (rfl) ?_
  intro wc hoc hxc
  have hp : Own wc p ty [.int .i32 (IntKind.i32.wrap (atT t 0).n), .int .i64 (atT t 1).n, .int .i32 (IntKind.i32.wrap (atT t 2).n), .int .i64 (atT t 3).n, .int .i16 (IntKind.i16.wrap (atT t 4).n), .pointer none, .map none] := hoc
  have ho := (ho.e0 hxa).ext hxc (Ne.symm hpb)
  have hx0 := (hx0.tr0 hxa).trans hxc fun _ _ h => h
  have hoq := (hoq.e0 hxa).ext hxc (Ne.symm hpq)
  ((conv=>whnf);repeat(first|(refine mvT ?_;conv=>whnf)|(refine mvF ?_;conv=>whnf)|(refine cT (by rfl) ?_;conv=>whnf)|(refine cF (by rfl) ?_;conv=>whnf)))
  refine ⟨_, rfl, ho.cells, ?_⟩
  ((conv=>whnf);repeat(first|(refine mvT ?_;conv=>whnf)|(refine mvF ?_;conv=>whnf)|(refine cT (by rfl) ?_;conv=>whnf)|(refine cF (by rfl) ?_;conv=>whnf)))
  refine Does.mono (iat_does (ht0.ext hx0 fun k _ h => (hR0 k h).2) 5) ?_
  rintro ra wa ⟨hra, hxa⟩
  ((conv=>whnf);repeat(first|(refine mvT ?_;conv=>whnf)|(refine mvF ?_;conv=>whnf)|(refine cT (by rfl) ?_;conv=>whnf)|(refine cF (by rfl) ?_;conv=>whnf)))
  have hq := (hp.e0 hxa).lt
  have hq2 := (hx0.tr0 hxa).size
  refine Does.mono (textOf_does hra) ?_
  rintro c5 wb ⟨hc5, h1, hxb⟩
  have hc5 := hc5.mono (F' := (fun k => k ≠ p ∧ k ≠ q ∧ (R0 k ∨ w0.heap.size ≤ k))) fun k _ h => ⟨by omega, by omega, .inr (by omega)⟩
  have hxa := hxa.e0 hxb
  ((conv=>whnf);repeat(first|(refine mvT ?_;conv=>whnf)|(refine mvF ?_;conv=>whnf)|(refine cT (by rfl) ?_;conv=>whnf)|(refine cF (by rfl) ?_;conv=>whnf)))
  refine st_cell (o := 5) (v := c5) (hp.e0 hxa) (cells_one h1) (by omega) rfl (by simp) (h1) ?_
  intro wc hoc hxc
  have hp : Own wc p ty [.int .i32 (IntKind.i32.wrap (atT t 0).n), .int .i64 (atT t 1).n, .int .i32 (IntKind.i32.wrap (atT t 2).n), .int .i64 (atT t 3).n, .int .i16 (IntKind.i16.wrap (atT t 4).n), c5, .map none] := hoc
  have ho := (ho.e0 hxa).ext hxc (Ne.symm hpb)
  have hx0 := (hx0.tr0 hxa).trans hxc fun _ _ h => h
  have hoq := (hoq.e0 hxa).ext hxc (Ne.symm hpq)
  have hc5 := hc5.ext hxc fun k _ h => h.1
  ((conv=>whnf);repeat(first|(refine mvT ?_;conv=>whnf)|(refine mvF ?_;conv=>whnf)|(refine cT (by rfl) ?_;conv=>whnf)|(refine cF (by rfl) ?_;conv=>whnf)))
  refine ldS (ho.cell rfl) ?_;((conv=>whnf);repeat(first|(refine mvT ?_;conv=>whnf)|(refine mvF ?_;conv=>whnf)|(refine cT (by rfl) ?_;conv=>whnf)|(refine cF (by rfl) ?_;conv=>whnf)))
  have hpN := hp.lt
  have h0N := hx0.size
  refine VL.loop (fun s : Nat × Value => [(1, .pointer (some ⟨b, 0, none⟩)), (2, .pointer (some ⟨q, 0, none⟩)), (3, .pointer (some ⟨p, 0, none⟩)), (34, .slice au us.length cu), (35, .int .i64 us.length), (36, .int .i64 s.1)])
    (fun s w' => (Ext (fun k => k = p) w0 w' ∧ Ext (fun k => k = p ∨ wc.heap.size ≤ k) wc w' ∧ s.1 ≤ us.length) ∧ Own w' p ty [.int .i32 (IntKind.i32.wrap (atT t 0).n), .int .i64 (atT t 1).n, .int .i32 (IntKind.i32.wrap (atT t 2).n), .int .i64 (atT t 3).n, .int .i16 (IntKind.i16.wrap (atT t 4).n), c5, s.2] ∧ TagsO w' wc.heap.size R0 s.2 (t.u.take s.1)) (fun s => us.length - s.1) (0, .map none)
    ⟨rfl, rfl, rfl, rfl, rfl, rfl, trivial⟩ ⟨⟨hx0, Ext.refl _ _, Nat.zero_le _⟩, hp, TagsO.nil _ _ _⟩ ?_
  rintro ⟨i, m⟩ w9 ⟨⟨hx09, hxc9, hi⟩, hp9, hm9⟩
  dsimp only at hi hp9 hm9
  ((conv=>whnf);repeat(first|(refine mvT ?_;conv=>whnf)|(refine mvF ?_;conv=>whnf)|(refine cT (by rfl) ?_;conv=>whnf)|(refine cF (by rfl) ?_;conv=>whnf)))
  refine cI (by rfl) (fun h9=>?_) (fun h9=>?_)
  · have hil : i < us.length := by have := of_decide_eq_true h9; simp only at this; omega
    have hilu : i < t.u.length := by omega
    obtain ⟨hkey, bv, hci, hbv⟩ := huc i us[i] t.u[i] (by simp [hil]) (by simp [hilu])
    obtain ⟨b10, o10, rfl, hc10⟩ := husC i us[i] (by simp [hil])
    have hb10 := husF b10 o10 rfl (by omega)
    rw [hci] at hc10
    obtain ⟨av, cv, rfl, _⟩ := hbv.view
    have hc10 := hc10.ext hx09 (hR0 _ hb10.1).2
    have hbv9 := hbv.ext hx09 fun k _ h => (hR0 k h).2
    ((conv=>whnf);repeat(first|(refine mvT ?_;conv=>whnf)|(refine mvF ?_;conv=>whnf)|(refine cT (by rfl) ?_;conv=>whnf)|(refine cF (by rfl) ?_;conv=>whnf)))
    refine ⟨b10, o10, rfl, ⟨by omega, by omega⟩, ?_⟩
    ((conv=>whnf);repeat(first|(refine mvT ?_;conv=>whnf)|(refine mvF ?_;conv=>whnf)|(refine cT (by rfl) ?_;conv=>whnf)|(refine cF (by rfl) ?_;conv=>whnf)))
    refine ⟨_, rfl, by rw [Int.toNat_natCast]; exact hc10, ?_⟩
    ((conv=>whnf);repeat(first|(refine mvT ?_;conv=>whnf)|(refine mvF ?_;conv=>whnf)|(refine cT (by rfl) ?_;conv=>whnf)|(refine cF (by rfl) ?_;conv=>whnf)))
    intro b11 w11 hb11 ho11 hx11
    ((conv=>whnf);repeat(first|(refine mvT ?_;conv=>whnf)|(refine mvF ?_;conv=>whnf)|(refine cT (by rfl) ?_;conv=>whnf)|(refine cF (by rfl) ?_;conv=>whnf)))
    refine st_all [.int .u32 (t.u[i].1 : Int), .slice av (t.u[i]).2.length cv] ho11 rfl rfl rfl ?_
    intro w12 ho12 hx12
    have hx912 : Ext nob w9 w12 := (hx11.st hx12 hb11)
    ((conv=>whnf);repeat(first|(refine mvT ?_;conv=>whnf)|(refine mvF ?_;conv=>whnf)|(refine cT (by rfl) ?_;conv=>whnf)|(refine cF (by rfl) ?_;conv=>whnf)))
    refine ldS (ho12.cell rfl) ?_;((conv=>whnf);repeat(first|(refine mvT ?_;conv=>whnf)|(refine mvF ?_;conv=>whnf)|(refine cT (by rfl) ?_;conv=>whnf)|(refine cF (by rfl) ?_;conv=>whnf)))
    refine ldS (ho12.cell rfl) ?_;((conv=>whnf);repeat(first|(refine mvT ?_;conv=>whnf)|(refine mvF ?_;conv=>whnf)|(refine cT (by rfl) ?_;conv=>whnf)|(refine cF (by rfl) ?_;conv=>whnf)))
    have hnew : ∀ x, x ∈ t.u.take i → x.1 ≠ (t.u[i]).1 := by
      intro x hx
      obtain ⟨j, hj, rfl⟩ := List.mem_take_iff_getElem.1 hx
      have := List.pairwise_iff_getElem.1 hok.2.rise j i (by omega) hilu (by omega)
      omega
    refine Does.mono (Tags_Set_does (o := 6) (N := wc.heap.size) (hp9.e0 hx912) rfl (hm9.e0 hx912) (Nat.le_trans hxc9.size hx912.size) hpN (fun k h => ⟨by have := (hR0 k h).1; omega, (hR0 k h).2⟩) (hbv9.e0 hx912) hnew) ?_
    rintro r13 w13 ⟨m13, hone, hp13, hm13, hx13⟩
    ((conv=>whnf);repeat(first|(refine mvT ?_;conv=>whnf)|(refine mvF ?_;conv=>whnf)|(refine cT (by rfl) ?_;conv=>whnf)|(refine cF (by rfl) ?_;conv=>whnf)))
    have hx913 : Ext (fun k => k = p ∨ wc.heap.size ≤ k) w9 w13 := (hx912.mono fun _ _ f => f.elim).trans hx13 fun _ _ h => h
    refine ⟨(i + 1, m13), ⟨rfl, rfl, rfl, rfl, rfl, inc_eq (by rw [maxLen_eq] at husm; omega), trivial⟩, ⟨⟨hx09.trans hx913 fun k hk h => by omega, hxc9.trans hx913 fun _ _ h => h, by simp only; omega⟩, hp13, ?_⟩, by simp only; omega⟩
    rw [List.take_succ_eq_append_getElem hilu]
    exact hm13
  have hil : i = us.length := by have := of_decide_eq_false h9; simp only at this; omega
  ((conv=>whnf);repeat(first|(refine mvT ?_;conv=>whnf)|(refine mvF ?_;conv=>whnf)|(refine cT (by rfl) ?_;conv=>whnf)|(refine cF (by rfl) ?_;conv=>whnf)))
  rw [hil, husl, List.take_length] at hm9
  refine ⟨_, rfl, hp9.cells, ?_⟩
  ((conv=>whnf);repeat(first|(refine mvT ?_;conv=>whnf)|(refine mvF ?_;conv=>whnf)|(refine cT (by rfl) ?_;conv=>whnf)|(refine cF (by rfl) ?_;conv=>whnf)))
  have hoq9 := hoq.ext hxc9 (by have := hoq.lt; omega)
  have hc5 := hc5.ext hxc9 (fun k _ h => by have := h.1; omega)
  have hokc : okCells [.int .i32 (IntKind.i32.wrap (atT t 0).n), .int .i64 (atT t 1).n, .int .i32 (IntKind.i32.wrap (atT t 2).n), .int .i64 (atT t 3).n, .int .i16 (IntKind.i16.wrap (atT t 4).n), c5, m] = true := ok_cons rfl (ok_cons rfl (ok_cons rfl (ok_cons rfl (ok_cons rfl (ok_cons hc5.one (ok_cons hm9.tags.one (ok_nil)))))))
  refine st_all [.int .i32 (IntKind.i32.wrap (atT t 0).n), .int .i64 (atT t 1).n, .int .i32 (IntKind.i32.wrap (atT t 2).n), .int .i64 (atT t 3).n, .int .i16 (IntKind.i16.wrap (atT t 4).n), c5, m] hoq9 rfl hqlen hokc ?_
  intro we hoe hxe
  ((conv=>whnf);repeat(first|(refine mvT ?_;conv=>whnf)|(refine mvF ?_;conv=>whnf)|(refine cT (by rfl) ?_;conv=>whnf)|(refine cF (by rfl) ?_;conv=>whnf)))
  refine ⟨_, rfl, hoe.cells, ?_⟩
  have hxn : Ext nob w0 w9 := (Ext.refl nob w0).trans hx09 fun k hk e => by omega
  exact ⟨_, rfl, hokc, ⟨c5, m, rfl, (hc5.ext hxe (fun k _ h => h.2.1)).mono (fun k _ h => h.2.2.imp (hRF k) id), (hm9.tags.ext hxe (fun k _ h e => by rcases h with h | h; (have := (hR0 k h).1; omega); omega)).mono fun k _ h => h.imp (hRF k) (fun h => by omega)⟩, hxn.trans hxe fun k hk e => by omega⟩
theorem makeDescribeShareGroupOffsetsResponseGroupTopic {F : Nat → Prop} {w0 : World} {u : Int} {x : Value} {t : T} (ht : Tr w0 F x t) (hok : partOK 7 u dDescribeShareGroupOffsetsResponseGroupTopic t) :
    Does X.P 98 #[x] w0 fun r w' => ∃ cs : List Value, r = .agg cs.toArray ∧ okCells cs = true ∧ rDescribeShareGroupOffsetsResponseGroupTopic w' (fun k => F k ∨ w0.heap.size ≤ k) cs t ∧ Ext nob w0 w' := by
  obtain ⟨R0, hR0, hRF, ht0⟩ : ∃ R0 : Nat → Prop, (∀ k, R0 k → k < w0.heap.size) ∧ (∀ k, R0 k → F k) ∧ Tr w0 R0 x t := ⟨fun k => k < w0.heap.size ∧ F k, fun k h => h.1, fun k h => h.2, ht.mono fun k h1 h2 => ⟨h1, h2⟩⟩
  clear ht
  obtain ⟨sv, lv, uv, ls, rfl, hn, hs, hl, hels, htg⟩ := ht0.open
  obtain ⟨us, hus, husl, huc⟩ := id htg
  obtain ⟨au, cu, rfl, husc, husm, husF, _, husC⟩ := hus.view
  refine Does.go (X := X) (l := [_]) Tryz.func98 rfl (by kernel_rfl) (by kernel_rfl) _ rfl ?_
  ((conv=>whnf);repeat(first|(refine mvT ?_;conv=>whnf)|(refine mvF ?_;conv=>whnf)|(refine cT (by rfl) ?_;conv=>whnf)|(refine cF (by rfl) ?_;conv=>whnf)))
  intro b wb hb ho hx
  ((conv=>whnf);repeat(first|(refine mvT ?_;conv=>whnf)|(refine mvF ?_;conv=>whnf)|(refine cT (by rfl) ?_;conv=>whnf)|(refine cF (by rfl) ?_;conv=>whnf)))
  intro q wq hqb hoq hxq
  ((conv=>whnf);repeat(first|(refine mvT ?_;conv=>whnf)|(refine mvF ?_;conv=>whnf)|(refine cT (by rfl) ?_;conv=>whnf)|(refine cF (by rfl) ?_;conv=>whnf)))
  intro p wc hpB hp hxp
  have hbl := ho.lt
  have hql := hoq.lt
  have hs1 := hx.size
  have hs2 := hxq.size
  have hpb : p ≠ b := by omega
  have hpq : p ≠ q := by omega
  have hwp : w0.heap.size ≤ p := by omega
  have hR0 : ∀ k, R0 k → k < w0.heap.size ∧ k ≠ p := fun k h => ⟨hR0 k h, by have := hR0 k h; omega⟩
  obtain ⟨ty, hp⟩ : ∃ T, Own wc p T [str [], .int .u8 0, .int .u8 0, .int .u8 0, .int .u8 0, .int .u8 0, .int .u8 0, .int .u8 0, .int .u8 0, .int .u8 0, .int .u8 0, .int .u8 0, .int .u8 0, .int .u8 0, .int .u8 0, .int .u8 0, .int .u8 0, .slice none 0 0, .map none] := ⟨_, hp⟩
  have ho : Own wc b ImplTreeT [.int .i64 t.n, sv, .bool t.nl, lv, .slice au us.length cu] := (ho.e0 hxq).e0 hxp
  have hoq := hoq.e0 hxp
  obtain ⟨qT, qL, hqlen, hoq⟩ : ∃ T L, L.length = 19 ∧ Own wc q T L := ⟨_, _, rfl, hoq⟩
  have hx0 : Ext (fun k => k = p) w0 wc := ((hx.e0 hxq).e0 hxp).mono fun _ _ f => f.elim
  ((conv=>whnf);repeat(first|(refine mvT ?_;conv=>whnf)|(refine mvF ?_;conv=>whnf)|(refine cT (by rfl) ?_;conv=>whnf)|(refine cF (by rfl) ?_;conv=>whnf)))
  refine ⟨_, rfl, ho.cells, ?_⟩
  ((conv=>whnf);repeat(first|(refine mvT ?_;conv=>whnf)|(refine mvF ?_;conv=>whnf)|(refine cT (by rfl) ?_;conv=>whnf)|(refine cF (by rfl) ?_;conv=>whnf)))
  refine Does.mono (iat_does (ht0.ext hx0 fun k _ h => (hR0 k h).2) 0) ?_
  rintro ra wa ⟨hra, hxa⟩
  obtain ⟨sva, lva, uva, lsa, rfl, hna, hsa, hla, helsa, hua⟩ := hra.open
  ((conv=>whnf);repeat(first|(refine mvT ?_;conv=>whnf)|(refine mvF ?_;conv=>whnf)|(refine cT (by rfl) ?_;conv=>whnf)|(refine cF (by rfl) ?_;conv=>whnf)))
  refine ⟨_, _, hsa, ?_⟩
  ((conv=>whnf);repeat(first|(refine mvT ?_;conv=>whnf)|(refine mvF ?_;conv=>whnf)|(refine cT (by rfl) ?_;conv=>whnf)|(refine cF (by rfl) ?_;conv=>whnf)))
  refine st_cell (o := 0) (v := str (atT t 0).s) (hp.e0 hxa) (rfl) (by omega) rfl (by simp) (rfl) ?_
  intro wc hoc hxc
  have hp : Own wc p ty [str (atT t 0).s, .int .u8 0, .int .u8 0, .int .u8 0, .int .u8 0, .int .u8 0, .int .u8 0, .int .u8 0, .int .u8 0, .int .u8 0, .int .u8 0, .int .u8 0, .int .u8 0, .int .u8 0, .int .u8 0, .int .u8 0, .int .u8 0, .slice none 0 0, .map none] := hoc
  have ho := (ho.e0 hxa).ext hxc (Ne.symm hpb)
  have hx0 := (hx0.tr0 hxa).trans hxc fun _ _ h => h
  have hoq := (hoq.e0 hxa).ext hxc (Ne.symm hpq)
  ((conv=>whnf);repeat(first|(refine mvT ?_;conv=>whnf)|(refine mvF ?_;conv=>whnf)|(refine cT (by rfl) ?_;conv=>whnf)|(refine cF (by rfl) ?_;conv=>whnf)))
  refine ⟨_, rfl, ho.cells, ?_⟩
  ((conv=>whnf);repeat(first|(refine mvT ?_;conv=>whnf)|(refine mvF ?_;conv=>whnf)|(refine cT (by rfl) ?_;conv=>whnf)|(refine cF (by rfl) ?_;conv=>whnf)))
  refine Does.mono (iat_does (ht0.ext hx0 fun k _ h => (hR0 k h).2) 1) ?_
  rintro ra wa ⟨hra, hxa⟩
  obtain ⟨sva, lva, uva, lsa, rfl, hna, hsa, hla, helsa, hua⟩ := hra.open
  ((conv=>whnf);repeat(first|(refine mvT ?_;conv=>whnf)|(refine mvF ?_;conv=>whnf)|(refine cT (by rfl) ?_;conv=>whnf)|(refine cF (by rfl) ?_;conv=>whnf)))
  refine Does.mono (sixteen_does hsa) ?_
  rintro rb wb ⟨hrb, hxb⟩
  obtain ⟨u1_0, u1_1, u1_2, u1_3, u1_4, u1_5, u1_6, u1_7, u1_8, u1_9, u1_10, u1_11, u1_12, u1_13, u1_14, u1_15, hc1⟩ := uuid_lit (atT t 1).s
  rw [hc1] at hrb
  subst hrb
  have hxa := hxa.e0 hxb
  ((conv=>whnf);repeat(first|(refine mvT ?_;conv=>whnf)|(refine mvF ?_;conv=>whnf)|(refine cT (by rfl) ?_;conv=>whnf)|(refine cF (by rfl) ?_;conv=>whnf)))
  refine ⟨_, _, hp.e0 hxa, rfl, rfl, rfl, ?_⟩
  intro wc hoc hxc
  have hp : Own wc p ty [str (atT t 0).s, bcell u1_0, bcell u1_1, bcell u1_2, bcell u1_3, bcell u1_4, bcell u1_5, bcell u1_6, bcell u1_7, bcell u1_8, bcell u1_9, bcell u1_10, bcell u1_11, bcell u1_12, bcell u1_13, bcell u1_14, bcell u1_15, .slice none 0 0, .map none] := hoc
  have ho := (ho.e0 hxa).ext hxc (Ne.symm hpb)
  have hx0 := (hx0.tr0 hxa).trans hxc fun _ _ h => h
  have hoq := (hoq.e0 hxa).ext hxc (Ne.symm hpq)
  ((conv=>whnf);repeat(first|(refine mvT ?_;conv=>whnf)|(refine mvF ?_;conv=>whnf)|(refine cT (by rfl) ?_;conv=>whnf)|(refine cF (by rfl) ?_;conv=>whnf)))
  have hfl := fieldOK_list (hok.1 2 _ rfl)
  refine ⟨_, rfl, ho.cells, ?_⟩
  ((conv=>whnf);repeat(first|(refine mvT ?_;conv=>whnf)|(refine mvF ?_;conv=>whnf)|(refine cT (by rfl) ?_;conv=>whnf)|(refine cF (by rfl) ?_;conv=>whnf)))
  refine Does.mono (iat_does (ht0.ext hx0 fun k _ h => (hR0 k h).2) 2) ?_
  rintro ra wa ⟨hra, hxa⟩
  obtain ⟨sva, lva, uva, lsa, rfl, hna, hsa, hla, helsa, hua⟩ := hra.open
  ((conv=>whnf);repeat(first|(refine mvT ?_;conv=>whnf)|(refine mvF ?_;conv=>whnf)|(refine cT (by rfl) ?_;conv=>whnf)|(refine cF (by rfl) ?_;conv=>whnf)))
  refine VC.cutE (fun c : Value => [(1, .pointer (some ⟨b, 0, none⟩)), (2, .pointer (some ⟨q, 0, none⟩)), (3, .pointer (some ⟨p, 0, none⟩))]) (fun c w' => Ext (fun k => k = p) w0 w' ∧ Own w' p ty [str (atT t 0).s, bcell u1_0, bcell u1_1, bcell u1_2, bcell u1_3, bcell u1_4, bcell u1_5, bcell u1_6, bcell u1_7, bcell u1_8, bcell u1_9, bcell u1_10, bcell u1_11, bcell u1_12, bcell u1_13, bcell u1_14, bcell u1_15, c, .map none] ∧ Own w' b ImplTreeT [.int .i64 t.n, sv, .bool t.nl, lv, .slice au us.length cu] ∧ Own w' q qT qL ∧ uuidB (atT t 1).s = [u1_0, u1_1, u1_2, u1_3, u1_4, u1_5, u1_6, u1_7, u1_8, u1_9, u1_10, u1_11, u1_12, u1_13, u1_14, u1_15] ∧ ListR true 7 (rDescribeShareGroupOffsetsResponseGroupTopicPartition w' (fun k => k ≠ p ∧ k ≠ q ∧ (R0 k ∨ w0.heap.size ≤ k))) w' (fun k => k ≠ p ∧ k ≠ q ∧ (R0 k ∨ w0.heap.size ≤ k)) c (atT t 2)) ?_ ?_
  · refine cI (by rfl) (fun hnl=>?_) (fun hnl=>?_)
    · have hnl : (atT t 2).nl = false := by simpa using hnl
      ((conv=>whnf);repeat(first|(refine mvT ?_;conv=>whnf)|(refine mvF ?_;conv=>whnf)|(refine cT (by rfl) ?_;conv=>whnf)|(refine cF (by rfl) ?_;conv=>whnf)))
      have hx1 := hx0.tr0 hxa
      refine ⟨_, rfl, (ho.e0 hxa).cells, ?_⟩
      ((conv=>whnf);repeat(first|(refine mvT ?_;conv=>whnf)|(refine mvF ?_;conv=>whnf)|(refine cT (by rfl) ?_;conv=>whnf)|(refine cF (by rfl) ?_;conv=>whnf)))
      refine Does.mono (iat_does (ht0.ext hx1 fun k _ h => (hR0 k h).2) 2) ?_
      rintro r5 w5 ⟨hr5, hx5⟩
      obtain ⟨sv5, lv5, uv5, ls5, rfl, hn5, hs5, hl5, hels5, hu5⟩ := hr5.open
      obtain ⟨a5, c5, rfl, _⟩ := hl5.view
      have hlen5 := hels5.len
      ((conv=>whnf);repeat(first|(refine mvT ?_;conv=>whnf)|(refine mvF ?_;conv=>whnf)|(refine cT (by rfl) ?_;conv=>whnf)|(refine cF (by rfl) ?_;conv=>whnf)))
      refine ⟨⟨by omega, by omega, by omega, by simp only [Int.toNat_natCast]; omega⟩, ⟨by decide, rfl⟩, ?_⟩
      intro b6 w6 hb6 ho6 hx6
      ((conv=>whnf);repeat(first|(refine mvT ?_;conv=>whnf)|(refine mvF ?_;conv=>whnf)|(refine cT (by rfl) ?_;conv=>whnf)|(refine cF (by rfl) ?_;conv=>whnf)))
      have hx56 := (hxa.e0 hx5).e0 hx6
      have hsz5 := (hxa.e0 hx5).size
      have hszc := hx0.size
      have hb6l := ho6.lt
      have hplc := hp.lt
      have hblc := ho.lt
      refine st_cell (o := 17) (v := .slice (some ⟨b6, 0, none⟩) 0 ls5.length) (hp.e0 hx56) rfl (by omega) rfl (by simp) rfl ?_
      intro w7 ho7 hx7
      ((conv=>whnf);repeat(first|(refine mvT ?_;conv=>whnf)|(refine mvF ?_;conv=>whnf)|(refine cT (by rfl) ?_;conv=>whnf)|(refine cF (by rfl) ?_;conv=>whnf)))
      have hx7c : Ext (fun k => k = p) wc w7 := (hx56.mono fun _ _ f => f.elim).trans hx7 fun _ _ h => h
      have hx07 := hx0.trans hx7c fun _ _ h => h
      refine ⟨_, rfl, (ho.ext hx7c (Ne.symm hpb)).cells, ?_⟩
      ((conv=>whnf);repeat(first|(refine mvT ?_;conv=>whnf)|(refine mvF ?_;conv=>whnf)|(refine cT (by rfl) ?_;conv=>whnf)|(refine cF (by rfl) ?_;conv=>whnf)))
      refine Does.mono (iat_does (ht0.ext hx07 fun k _ h => (hR0 k h).2) 2) ?_
      rintro r8 w8 ⟨hr8, hx8⟩
      obtain ⟨sv8, lv8, uv8, ls8, rfl, hn8, hs8, hl8, hels8, hu8⟩ := hr8.open
      obtain ⟨a8, c8, rfl, hc8, hm8, hF8, _, hC8⟩ := hl8.view
      have hlen8 := hels8.len
      ((conv=>whnf);repeat(first|(refine mvT ?_;conv=>whnf)|(refine mvF ?_;conv=>whnf)|(refine cT (by rfl) ?_;conv=>whnf)|(refine cF (by rfl) ?_;conv=>whnf)))
      have hx8c : Ext (fun k => k = p ∨ wc.heap.size ≤ k) wc w8 := (hx7c.tr0 hx8).mono fun _ _ h => .inl h
      have hx08 := hx07.tr0 hx8
      have hos8 := (OSl.mk0 (sz := 7) (n := ls5.length) (ho6.ext hx7 (by omega)) (by simp) (by rw [maxLen_eq]; omega) (B := wc.heap.size) (by omega)).e0 hx8
      refine VL.loop (fun s : Nat × Value => [(1, .pointer (some ⟨b, 0, none⟩)), (2, .pointer (some ⟨q, 0, none⟩)), (3, .pointer (some ⟨p, 0, none⟩)), (30, .slice a8 ls8.length c8), (31, .int .i64 ls8.length), (32, .int .i64 s.1)])
        (fun s w' => (Ext (fun k => k = p) w0 w' ∧ Ext (fun k => k = p ∨ wc.heap.size ≤ k) wc w' ∧ Ext (fun k => k = p ∨ w0.heap.size ≤ k) w8 w' ∧ s.1 ≤ ls8.length ∧ s.2 ≠ .slice none 0 0) ∧ Own w' p ty [str (atT t 0).s, bcell u1_0, bcell u1_1, bcell u1_2, bcell u1_3, bcell u1_4, bcell u1_5, bcell u1_6, bcell u1_7, bcell u1_8, bcell u1_9, bcell u1_10, bcell u1_11, bcell u1_12, bcell u1_13, bcell u1_14, bcell u1_15, s.2, .map none] ∧ ∃ es : List (List Value), OSl w' wc.heap.size 109 7 s.2 es ∧ es.length = s.1 ∧ ∀ (j : Nat) (c : List Value) (x : T), es[j]? = some c → (atT t 2).l[j]? = some x → rDescribeShareGroupOffsetsResponseGroupTopicPartition w' (fun k => k ≠ p ∧ k ≠ q ∧ (R0 k ∨ w0.heap.size ≤ k) ∧ s.2.ownBlock ≠ some k) c x) (fun s => ls8.length - s.1) (0, .slice (some ⟨b6, 0, none⟩) 0 ls5.length)
        ⟨rfl, rfl, rfl, rfl, rfl, rfl, trivial⟩ ⟨⟨hx08, hx8c, Ext.refl _ _, Nat.zero_le _, by simp⟩, ho7.e0 hx8, [], hos8, rfl, by simp⟩ ?_
      rintro ⟨i, sl⟩ w9 ⟨⟨hx09, hxc9, hx89, hi, hnn⟩, hp9, es, hos9, hesl, hesr⟩
      dsimp only at hi hp9 hos9 hesl hesr hnn
      ((conv=>whnf);repeat(first|(refine mvT ?_;conv=>whnf)|(refine mvF ?_;conv=>whnf)|(refine cT (by rfl) ?_;conv=>whnf)|(refine cF (by rfl) ?_;conv=>whnf)))
      refine cI (by rfl) (fun h9=>?_) (fun h9=>?_)
      · have hil : i < ls8.length := by have := of_decide_eq_true h9; simp only at this; omega
        have hill : i < (atT t 2).l.length := by omega
        have htr := hels8.at' i ls8[i] (atT t 2).l[i] (by simp [hil]) (by simp [hill])
        obtain ⟨b10, o10, rfl, hc10⟩ := hC8 i ls8[i] (by simp [hil])
        have hb10 := hF8 b10 o10 rfl (by omega)
        have hc10 := hc10.ext hx89 (by have := hR0 _ hb10.1; omega)
        have htr9 := htr.ext hx89 fun k _ h => by have := hR0 _ h; omega
        ((conv=>whnf);repeat(first|(refine mvT ?_;conv=>whnf)|(refine mvF ?_;conv=>whnf)|(refine cT (by rfl) ?_;conv=>whnf)|(refine cF (by rfl) ?_;conv=>whnf)))
        refine ⟨b10, o10, rfl, ⟨by omega, by omega⟩, ?_⟩
        ((conv=>whnf);repeat(first|(refine mvT ?_;conv=>whnf)|(refine mvF ?_;conv=>whnf)|(refine cT (by rfl) ?_;conv=>whnf)|(refine cF (by rfl) ?_;conv=>whnf)))
        refine ⟨ls8[i], htr.len, by rw [Int.toNat_natCast]; exact hc10, ?_⟩
        ((conv=>whnf);repeat(first|(refine mvT ?_;conv=>whnf)|(refine mvF ?_;conv=>whnf)|(refine cT (by rfl) ?_;conv=>whnf)|(refine cF (by rfl) ?_;conv=>whnf)))
        intro b11 w11 hb11 ho11 hx11
        ((conv=>whnf);repeat(first|(refine mvT ?_;conv=>whnf)|(refine mvF ?_;conv=>whnf)|(refine cT (by rfl) ?_;conv=>whnf)|(refine cF (by rfl) ?_;conv=>whnf)))
        refine st_all ls8[i] ho11 htr.len rfl htr.ok ?_
        intro w12 ho12 hx12
        have hx912 : Ext nob w9 w12.drew := (hx11.st hx12 hb11).e0 (ext_drew _)
        have ho12 := ho12.e0 (ext_drew _)
        have htr12 := htr9.e0 hx912
        obtain ⟨sv6, lv6, uv6, ls6, hy, hn6, hsy, _⟩ := Tr.open ⟨ls8[i], rfl, htr12⟩
        have hci : ls8[i] = [.int .i64 ((atT t 2).l[i]).n, sv6, .bool ((atT t 2).l[i]).nl, lv6, uv6] := by
          have := congrArg Value.cells hy
          exact congrArg Array.toList this
        rw [hci] at ho12 htr12
        have hs912 := hx912.size
        have hs9c := hxc9.size
        ((conv=>whnf);repeat(first|(refine mvT ?_;conv=>whnf)|(refine mvF ?_;conv=>whnf)|(refine cT (by rfl) ?_;conv=>whnf)|(refine cF (by rfl) ?_;conv=>whnf)))
        refine VD.draw mixed (.q 0 (.q 1 (.q 2 (.eff 3 [1] (.eff 4 [1] (.eff 5 [] (.q 6 (.eff 7 [] (.done))))))))) (by kernel_rfl) ?_;((conv=>whnf);repeat(first|(refine mvT ?_;conv=>whnf)|(refine mvF ?_;conv=>whnf)|(refine cT (by rfl) ?_;conv=>whnf)|(refine cF (by rfl) ?_;conv=>whnf)))
        refine ldS ((hp9.e0 hx912).cell rfl) ?_;((conv=>whnf);repeat(first|(refine mvT ?_;conv=>whnf)|(refine mvF ?_;conv=>whnf)|(refine cT (by rfl) ?_;conv=>whnf)|(refine cF (by rfl) ?_;conv=>whnf)))
        refine ⟨_, rfl, ho12.cells, ?_⟩
        ((conv=>whnf);repeat(first|(refine mvT ?_;conv=>whnf)|(refine mvF ?_;conv=>whnf)|(refine cT (by rfl) ?_;conv=>whnf)|(refine cF (by rfl) ?_;conv=>whnf)))
        refine Does.mono (makeDescribeShareGroupOffsetsResponseGroupTopicPartition (u := u) ⟨_, rfl, htr12⟩ ((hfl.2 _ (List.getElem_mem hill)).2.2 rfl)) ?_
        rintro r13 w13 ⟨es13, rfl, hok13, hr13, hxm13⟩
        obtain ⟨zc5, zm, rfl, _⟩ := id hr13
        have hx913 := hx912.e0 hxm13
        refine ⟨by (conv => whnf); exact ⟨⟨_, (hp9.e0 hx913).cell rfl, rfl, rfl⟩, trivial⟩, ?_⟩
        ((conv=>whnf);repeat(first|(refine mvT ?_;conv=>whnf)|(refine mvF ?_;conv=>whnf)|(refine cT (by rfl) ?_;conv=>whnf)|(refine cF (by rfl) ?_;conv=>whnf)))
        intro b13 w14 hb13 ho13 hx13
        have ho13 : Own w14 b13 109 [.int .i32 (IntKind.i32.wrap (atT (atT t 2).l[i] 0).n), .int .i64 (atT (atT t 2).l[i] 1).n, .int .i32 (IntKind.i32.wrap (atT (atT t 2).l[i] 2).n), .int .i64 (atT (atT t 2).l[i] 3).n, .int .i16 (IntKind.i16.wrap (atT (atT t 2).l[i] 4).n), zc5, zm] := ho13
        have hr13 := rDescribeShareGroupOffsetsResponseGroupTopicPartition_ext hr13 hx13 fun _ _ _ f => f
        have hx913 := hx913.e0 hx13
        refine ⟨by (conv => whnf); exact ⟨⟨_, (hp9.e0 hx913).cell rfl, rfl, rfl⟩, trivial⟩, ?_⟩
        have hs913 := hx913.size
        ((conv=>whnf);repeat(first|(refine mvT ?_;conv=>whnf)|(refine mvF ?_;conv=>whnf)|(refine cT (by rfl) ?_;conv=>whnf)|(refine cF (by rfl) ?_;conv=>whnf)))
        refine app_struct (ms := [[.int .i32 (IntKind.i32.wrap (atT (atT t 2).l[i] 0).n), .int .i64 (atT (atT t 2).l[i] 1).n, .int .i32 (IntKind.i32.wrap (atT (atT t 2).l[i] 2).n), .int .i64 (atT (atT t 2).l[i] 3).n, .int .i16 (IntKind.i16.wrap (atT (atT t 2).l[i] 4).n), zc5, zm]]) rfl (hos9.e0 hx913) (src_one ho13 (rDescribeShareGroupOffsetsResponseGroupTopicPartition_len hr13) rfl) (by simp) (by simpa only [List.flatten_cons, List.flatten_nil, List.append_nil] using hok13) rfl ⟨by simp only [List.length_singleton, hesl]; omega, by simp only [List.length_singleton, hesl]; omega⟩ (by omega) ?_
        intro v15 w15 hos15 hx15 hb15 hnn15
        obtain ⟨a15, n15, c15, rfl⟩ : ∃ a n c, v15 = .slice a n c := by
          obtain ⟨a, c, h, _⟩ := hos15.shape
          exact ⟨a, _, c, h⟩
        have hpsl : ¬ sl.ownBlock = some p := fun h => by have := hos9.blk p h; omega
        have ho15 := (hp9.e0 hx913).ext hx15 hpsl
        ((conv=>whnf);repeat(first|(refine mvT ?_;conv=>whnf)|(refine mvF ?_;conv=>whnf)|(refine cT (by rfl) ?_;conv=>whnf)|(refine cF (by rfl) ?_;conv=>whnf)))
        refine st_cell (o := 17) (v := .slice a15 n15 c15) ho15 rfl (by omega) rfl (by simp) rfl ?_
        intro w16 ho16 hx16
        ((conv=>whnf);repeat(first|(refine mvT ?_;conv=>whnf)|(refine mvF ?_;conv=>whnf)|(refine cT (by rfl) ?_;conv=>whnf)|(refine cF (by rfl) ?_;conv=>whnf)))
        have hx916 : Ext (fun k => k = p ∨ wc.heap.size ≤ k) w9 w16 := ((hx913.mono fun _ _ f => f.elim).trans hx15 fun k _ h => .inr (hos9.blk k h)).trans hx16 fun _ _ h => .inl h
        have hos16 := hos15.ext hx16 fun k hk h => by have := hos15.blk k hk; omega
        refine ⟨(i + 1, _), ⟨rfl, rfl, rfl, rfl, rfl, inc_eq (by rw [maxLen_eq] at hm8; omega), trivial⟩, ⟨⟨hx09.trans hx916 fun k hk h => by omega, hxc9.trans hx916 fun _ _ h => h, hx89.trans hx916 fun k hk h => by omega, by simp only; omega, hnn15 hnn⟩, ho16, es ++ [[.int .i32 (IntKind.i32.wrap (atT (atT t 2).l[i] 0).n), .int .i64 (atT (atT t 2).l[i] 1).n, .int .i32 (IntKind.i32.wrap (atT (atT t 2).l[i] 2).n), .int .i64 (atT (atT t 2).l[i] 3).n, .int .i16 (IntKind.i16.wrap (atT (atT t 2).l[i] 4).n), zc5, zm]], hos16, by simp [hesl], ?_⟩, by simp only; omega⟩
        intro j c x hj hx
        have key : rDescribeShareGroupOffsetsResponseGroupTopicPartition w14 (fun k => k ≠ p ∧ k ≠ q ∧ (R0 k ∨ w0.heap.size ≤ k) ∧ sl.ownBlock ≠ some k) c x := by
          rcases Nat.lt_or_ge j es.length with hjl | hjl
          · rw [List.getElem?_append_left hjl] at hj
            exact rDescribeShareGroupOffsetsResponseGroupTopicPartition_ext (hesr j c x hj hx) hx913 fun _ _ _ f => f
          · have hj0 : j = es.length := by have := (List.getElem?_eq_some_iff.1 hj).1; simp at this; omega
            subst hj0
            rw [List.getElem?_append_right (Nat.le_refl _), Nat.sub_self, List.getElem?_cons_zero, Option.some.injEq] at hj
            subst hj
            rw [hesl, List.getElem?_eq_getElem hill, Option.some.injEq] at hx
            subst hx
            exact rDescribeShareGroupOffsetsResponseGroupTopicPartition_mono hr13 fun k hk h => by
              have hkp : k ≠ p := by rcases h with h | h; exact (hR0 k h).2; omega
              have hkq : k ≠ q := by rcases h with h | h; (have := (hR0 k h).1; omega); omega
              exact ⟨hkp, hkq, h.imp id (fun h => by omega), fun e => by have := hos9.own.lt k e; rcases h with h | h; (have := (hR0 k h).1; have := hos9.blk k e; omega); omega⟩
        have key2 := rDescribeShareGroupOffsetsResponseGroupTopicPartition_ext (rDescribeShareGroupOffsetsResponseGroupTopicPartition_ext (rDescribeShareGroupOffsetsResponseGroupTopicPartition_mono key (F' := fun k => (fun k => k ≠ p ∧ k ≠ q ∧ (R0 k ∨ w0.heap.size ≤ k) ∧ sl.ownBlock ≠ some k) k ∧ k < w14.heap.size) fun k hk h => ⟨h, hk⟩) hx15 fun k _ h => h.1.2.2.2) hx16 fun k _ h => h.1.1
        exact rDescribeShareGroupOffsetsResponseGroupTopicPartition_mono key2 fun k _ h => ⟨h.1.1, h.1.2.1, h.1.2.2.1, fun e => by
          rcases hb15 with e2 | ⟨g, hg, hle⟩
          · exact h.1.2.2.2 (e2 ▸ e)
          · have e : (Value.slice a15 n15 c15).ownBlock = some k := e
            rw [hg, Option.some.injEq] at e
            have := h.2
            omega⟩
      have hil : i = ls8.length := by have := of_decide_eq_false h9; simp only at this; omega
      ((conv=>whnf);repeat(first|(refine mvT ?_;conv=>whnf)|(refine mvF ?_;conv=>whnf)|(refine cT (by rfl) ?_;conv=>whnf)|(refine cF (by rfl) ?_;conv=>whnf)))
      have hli : ListR true 7 (rDescribeShareGroupOffsetsResponseGroupTopicPartition w9 (fun k => k ≠ p ∧ k ≠ q ∧ (R0 k ∨ w0.heap.size ≤ k))) w9 (fun k => k ≠ p ∧ k ≠ q ∧ (R0 k ∨ w0.heap.size ≤ k)) sl (atT t 2) := by
        refine .inr ⟨hnl, fun _ => ?_, es, hos9.sl fun k hk => ⟨by omega, by omega, .inr (by omega)⟩, by omega, fun j c x hj hx => rDescribeShareGroupOffsetsResponseGroupTopicPartition_mono (hesr j c x hj hx) fun k _ h => ⟨h.1, h.2.1, h.2.2.1⟩⟩
        rcases hos9.own.2 with ⟨e, _⟩ | ⟨g, cap, cur, e, _⟩
        · exact absurd e hnn
        · exact ⟨_, _, _, e⟩
      exact ⟨sl, ⟨rfl, rfl, rfl, trivial⟩, hx09, hp9, ho.ext hxc9 (by omega), hoq.ext hxc9 (by have := hoq.lt; omega), hc1, hli⟩
    · have hnl : (atT t 2).nl = true := by simpa using hnl
      ((conv=>whnf);repeat(first|(refine mvT ?_;conv=>whnf)|(refine mvF ?_;conv=>whnf)|(refine cT (by rfl) ?_;conv=>whnf)|(refine cF (by rfl) ?_;conv=>whnf)))
      exact ⟨_, ⟨rfl, rfl, rfl, trivial⟩, hx0.tr0 hxa, hp.e0 hxa, ho.e0 hxa, hoq.e0 hxa, hc1, .inl ⟨hnl, rfl⟩⟩
  clear hfl
  rintro c2 wc ⟨hx0, hp, ho, hoq, hc1, hc2⟩
  ((conv=>whnf);repeat(first|(refine mvT ?_;conv=>whnf)|(refine mvF ?_;conv=>whnf)|(refine cT (by rfl) ?_;conv=>whnf)|(refine cF (by rfl) ?_;conv=>whnf)))
  refine ldS (ho.cell rfl) ?_;((conv=>whnf);repeat(first|(refine mvT ?_;conv=>whnf)|(refine mvF ?_;conv=>whnf)|(refine cT (by rfl) ?_;conv=>whnf)|(refine cF (by rfl) ?_;conv=>whnf)))
  have hpN := hp.lt
  have h0N := hx0.size
  refine VL.loop (fun s : Nat × Value => [(1, .pointer (some ⟨b, 0, none⟩)), (2, .pointer (some ⟨q, 0, none⟩)), (3, .pointer (some ⟨p, 0, none⟩)), (45, .slice au us.length cu), (46, .int .i64 us.length), (47, .int .i64 s.1)])
    (fun s w' => (Ext (fun k => k = p) w0 w' ∧ Ext (fun k => k = p ∨ wc.heap.size ≤ k) wc w' ∧ s.1 ≤ us.length) ∧ Own w' p ty [str (atT t 0).s, bcell u1_0, bcell u1_1, bcell u1_2, bcell u1_3, bcell u1_4, bcell u1_5, bcell u1_6, bcell u1_7, bcell u1_8, bcell u1_9, bcell u1_10, bcell u1_11, bcell u1_12, bcell u1_13, bcell u1_14, bcell u1_15, c2, s.2] ∧ TagsO w' wc.heap.size R0 s.2 (t.u.take s.1)) (fun s => us.length - s.1) (0, .map none)
    ⟨rfl, rfl, rfl, rfl, rfl, rfl, trivial⟩ ⟨⟨hx0, Ext.refl _ _, Nat.zero_le _⟩, hp, TagsO.nil _ _ _⟩ ?_
  rintro ⟨i, m⟩ w9 ⟨⟨hx09, hxc9, hi⟩, hp9, hm9⟩
  dsimp only at hi hp9 hm9
  ((conv=>whnf);repeat(first|(refine mvT ?_;conv=>whnf)|(refine mvF ?_;conv=>whnf)|(refine cT (by rfl) ?_;conv=>whnf)|(refine cF (by rfl) ?_;conv=>whnf)))
  refine cI (by rfl) (fun h9=>?_) (fun h9=>?_)
  · have hil : i < us.length := by have := of_decide_eq_true h9; simp only at this; omega
    have hilu : i < t.u.length := by omega
    obtain ⟨hkey, bv, hci, hbv⟩ := huc i us[i] t.u[i] (by simp [hil]) (by simp [hilu])
    obtain ⟨b10, o10, rfl, hc10⟩ := husC i us[i] (by simp [hil])
    have hb10 := husF b10 o10 rfl (by omega)
    rw [hci] at hc10
    obtain ⟨av, cv, rfl, _⟩ := hbv.view
    have hc10 := hc10.ext hx09 (hR0 _ hb10.1).2
    have hbv9 := hbv.ext hx09 fun k _ h => (hR0 k h).2
    ((conv=>whnf);repeat(first|(refine mvT ?_;conv=>whnf)|(refine mvF ?_;conv=>whnf)|(refine cT (by rfl) ?_;conv=>whnf)|(refine cF (by rfl) ?_;conv=>whnf)))
    refine ⟨b10, o10, rfl, ⟨by omega, by omega⟩, ?_⟩
    ((conv=>whnf);repeat(first|(refine mvT ?_;conv=>whnf)|(refine mvF ?_;conv=>whnf)|(refine cT (by rfl) ?_;conv=>whnf)|(refine cF (by rfl) ?_;conv=>whnf)))
    refine ⟨_, rfl, by rw [Int.toNat_natCast]; exact hc10, ?_⟩
    ((conv=>whnf);repeat(first|(refine mvT ?_;conv=>whnf)|(refine mvF ?_;conv=>whnf)|(refine cT (by rfl) ?_;conv=>whnf)|(refine cF (by rfl) ?_;conv=>whnf)))
    intro b11 w11 hb11 ho11 hx11
    ((conv=>whnf);repeat(first|(refine mvT ?_;conv=>whnf)|(refine mvF ?_;conv=>whnf)|(refine cT (by rfl) ?_;conv=>whnf)|(refine cF (by rfl) ?_;conv=>whnf)))
    refine st_all [.int .u32 (t.u[i].1 : Int), .slice av (t.u[i]).2.length cv] ho11 rfl rfl rfl ?_
    intro w12 ho12 hx12
    have hx912 : Ext nob w9 w12 := (hx11.st hx12 hb11)
    ((conv=>whnf);repeat(first|(refine mvT ?_;conv=>whnf)|(refine mvF ?_;conv=>whnf)|(refine cT (by rfl) ?_;conv=>whnf)|(refine cF (by rfl) ?_;conv=>whnf)))
    refine ldS (ho12.cell rfl) ?_;((conv=>whnf);repeat(first|(refine mvT ?_;conv=>whnf)|(refine mvF ?_;conv=>whnf)|(refine cT (by rfl) ?_;conv=>whnf)|(refine cF (by rfl) ?_;conv=>whnf)))
    refine ldS (ho12.cell rfl) ?_;((conv=>whnf);repeat(first|(refine mvT ?_;conv=>whnf)|(refine mvF ?_;conv=>whnf)|(refine cT (by rfl) ?_;conv=>whnf)|(refine cF (by rfl) ?_;conv=>whnf)))
    have hnew : ∀ x, x ∈ t.u.take i → x.1 ≠ (t.u[i]).1 := by
      intro x hx
      obtain ⟨j, hj, rfl⟩ := List.mem_take_iff_getElem.1 hx
      have := List.pairwise_iff_getElem.1 hok.2.rise j i (by omega) hilu (by omega)
      omega
    refine Does.mono (Tags_Set_does (o := 18) (N := wc.heap.size) (hp9.e0 hx912) rfl (hm9.e0 hx912) (Nat.le_trans hxc9.size hx912.size) hpN (fun k h => ⟨by have := (hR0 k h).1; omega, (hR0 k h).2⟩) (hbv9.e0 hx912) hnew) ?_
    rintro r13 w13 ⟨m13, hone, hp13, hm13, hx13⟩
    ((conv=>whnf);repeat(first|(refine mvT ?_;conv=>whnf)|(refine mvF ?_;conv=>whnf)|(refine cT (by rfl) ?_;conv=>whnf)|(refine cF (by rfl) ?_;conv=>whnf)))
    have hx913 : Ext (fun k => k = p ∨ wc.heap.size ≤ k) w9 w13 := (hx912.mono fun _ _ f => f.elim).trans hx13 fun _ _ h => h
    refine ⟨(i + 1, m13), ⟨rfl, rfl, rfl, rfl, rfl, inc_eq (by rw [maxLen_eq] at husm; omega), trivial⟩, ⟨⟨hx09.trans hx913 fun k hk h => by omega, hxc9.trans hx913 fun _ _ h => h, by simp only; omega⟩, hp13, ?_⟩, by simp only; omega⟩
    rw [List.take_succ_eq_append_getElem hilu]
    exact hm13
  have hil : i = us.length := by have := of_decide_eq_false h9; simp only at this; omega
  ((conv=>whnf);repeat(first|(refine mvT ?_;conv=>whnf)|(refine mvF ?_;conv=>whnf)|(refine cT (by rfl) ?_;conv=>whnf)|(refine cF (by rfl) ?_;conv=>whnf)))
  rw [hil, husl, List.take_length] at hm9
  refine ⟨_, rfl, hp9.cells, ?_⟩
  ((conv=>whnf);repeat(first|(refine mvT ?_;conv=>whnf)|(refine mvF ?_;conv=>whnf)|(refine cT (by rfl) ?_;conv=>whnf)|(refine cF (by rfl) ?_;conv=>whnf)))
  have hoq9 := hoq.ext hxc9 (by have := hoq.lt; omega)
  have hc2 := hc2.ext hxc9 (fun k _ h => by have := h.1; omega) (fun _ _ h => rDescribeShareGroupOffsetsResponseGroupTopicPartition_ext h hxc9 (fun k _ h => by have := h.1; omega))
  have hokc : okCells [str (atT t 0).s, bcell u1_0, bcell u1_1, bcell u1_2, bcell u1_3, bcell u1_4, bcell u1_5, bcell u1_6, bcell u1_7, bcell u1_8, bcell u1_9, bcell u1_10, bcell u1_11, bcell u1_12, bcell u1_13, bcell u1_14, bcell u1_15, c2, m] = true := ok_cons rfl (ok_cons rfl (ok_cons rfl (ok_cons rfl (ok_cons rfl (ok_cons rfl (ok_cons rfl (ok_cons rfl (ok_cons rfl (ok_cons rfl (ok_cons rfl (ok_cons rfl (ok_cons rfl (ok_cons rfl (ok_cons rfl (ok_cons rfl (ok_cons rfl (ok_cons hc2.one (ok_cons hm9.tags.one (ok_nil)))))))))))))))))))
  refine st_all [str (atT t 0).s, bcell u1_0, bcell u1_1, bcell u1_2, bcell u1_3, bcell u1_4, bcell u1_5, bcell u1_6, bcell u1_7, bcell u1_8, bcell u1_9, bcell u1_10, bcell u1_11, bcell u1_12, bcell u1_13, bcell u1_14, bcell u1_15, c2, m] hoq9 rfl hqlen hokc ?_
  intro we hoe hxe
  ((conv=>whnf);repeat(first|(refine mvT ?_;conv=>whnf)|(refine mvF ?_;conv=>whnf)|(refine cT (by rfl) ?_;conv=>whnf)|(refine cF (by rfl) ?_;conv=>whnf)))
  refine ⟨_, rfl, hoe.cells, ?_⟩
  have hxn : Ext nob w0 w9 := (Ext.refl nob w0).trans hx09 fun k hk e => by omega
  exact ⟨_, rfl, hokc, ⟨u1_0, u1_1, u1_2, u1_3, u1_4, u1_5, u1_6, u1_7, u1_8, u1_9, u1_10, u1_11, u1_12, u1_13, u1_14, u1_15, c2, m, rfl, hc1, (hc2.ext hxe (fun k _ h => h.2.1) (fun _ _ h => rDescribeShareGroupOffsetsResponseGroupTopicPartition_ext h hxe (fun k _ h => h.2.1))).mono (fun k _ h => h.2.2.imp (hRF k) id) (fun _ _ h => rDescribeShareGroupOffsetsResponseGroupTopicPartition_mono h fun k _ h => h.2.2.imp (hRF k) id), (hm9.tags.ext hxe (fun k _ h e => by rcases h with h | h; (have := (hR0 k h).1; omega); omega)).mono fun k _ h => h.imp (hRF k) (fun h => by omega)⟩, hxn.trans hxe fun k hk e => by omega⟩
theorem makeDescribeShareGroupOffsetsResponseGroup {F : Nat → Prop} {w0 : World} {u : Int} {x : Value} {t : T} (ht : Tr w0 F x t) (hok : partOK 8 u dDescribeShareGroupOffsetsResponseGroup t) :
    Does X.P 61 #[x] w0 fun r w' => ∃ cs : List Value, r = .agg cs.toArray ∧ okCells cs = true ∧ rDescribeShareGroupOffsetsResponseGroup w' (fun k => F k ∨ w0.heap.size ≤ k) cs t ∧ Ext nob w0 w' := by
  obtain ⟨R0, hR0, hRF, ht0⟩ : ∃ R0 : Nat → Prop, (∀ k, R0 k → k < w0.heap.size) ∧ (∀ k, R0 k → F k) ∧ Tr w0 R0 x t := ⟨fun k => k < w0.heap.size ∧ F k, fun k h => h.1, fun k h => h.2, ht.mono fun k h1 h2 => ⟨h1, h2⟩⟩
  clear ht
  obtain ⟨sv, lv, uv, ls, rfl, hn, hs, hl, hels, htg⟩ := ht0.open
  obtain ⟨us, hus, husl, huc⟩ := id htg
  obtain ⟨au, cu, rfl, husc, husm, husF, _, husC⟩ := hus.view
  refine Does.go (X := X) (l := [_]) Tryz.func61 rfl (by kernel_rfl) (by kernel_rfl) _ rfl ?_
  ((conv=>whnf);repeat(first|(refine mvT ?_;conv=>whnf)|(refine mvF ?_;conv=>whnf)|(refine cT (by rfl) ?_;conv=>whnf)|(refine cF (by rfl) ?_;conv=>whnf)))
  intro b wb hb ho hx
  ((conv=>whnf);repeat(first|(refine mvT ?_;conv=>whnf)|(refine mvF ?_;conv=>whnf)|(refine cT (by rfl) ?_;conv=>whnf)|(refine cF (by rfl) ?_;conv=>whnf)))
  intro q wq hqb hoq hxq
  ((conv=>whnf);repeat(first|(refine mvT ?_;conv=>whnf)|(refine mvF ?_;conv=>whnf)|(refine cT (by rfl) ?_;conv=>whnf)|(refine cF (by rfl) ?_;conv=>whnf)))
  intro p wc hpB hp hxp
  have hbl := ho.lt
  have hql := hoq.lt
  have hs1 := hx.size
  have hs2 := hxq.size
  have hpb : p ≠ b := by omega
  have hpq : p ≠ q := by omega
  have hwp : w0.heap.size ≤ p := by omega
  have hR0 : ∀ k, R0 k → k < w0.heap.size ∧ k ≠ p := fun k h => ⟨hR0 k h, by have := hR0 k h; omega⟩
  obtain ⟨ty, hp⟩ : ∃ T, Own wc p T [str [], .slice none 0 0, .int .i16 0, .pointer none, .map none] := ⟨_, hp⟩
  have ho : Own wc b ImplTreeT [.int .i64 t.n, sv, .bool t.nl, lv, .slice au us.length cu] := (ho.e0 hxq).e0 hxp
  have hoq := hoq.e0 hxp
  obtain ⟨qT, qL, hqlen, hoq⟩ : ∃ T L, L.length = 5 ∧ Own wc q T L := ⟨_, _, rfl, hoq⟩
  have hx0 : Ext (fun k => k = p) w0 wc := ((hx.e0 hxq).e0 hxp).mono fun _ _ f => f.elim
  ((conv=>whnf);repeat(first|(refine mvT ?_;conv=>whnf)|(refine mvF ?_;conv=>whnf)|(refine cT (by rfl) ?_;conv=>whnf)|(refine cF (by rfl) ?_;conv=>whnf)))
  refine ⟨_, rfl, ho.cells, ?_⟩
  ((conv=>whnf);repeat(first|(refine mvT ?_;conv=>whnf)|(refine mvF ?_;conv=>whnf)|(refine cT (by rfl) ?_;conv=>whnf)|(refine cF (by rfl) ?_;conv=>whnf)))
  refine Does.mono (iat_does (ht0.ext hx0 fun k _ h => (hR0 k h).2) 0) ?_
  rintro ra wa ⟨hra, hxa⟩
  obtain ⟨sva, lva, uva, lsa, rfl, hna, hsa, hla, helsa, hua⟩ := hra.open
  ((conv=>whnf);repeat(first|(refine mvT ?_;conv=>whnf)|(refine mvF ?_;conv=>whnf)|(refine cT (by rfl) ?_;conv=>whnf)|(refine cF (by rfl) ?_;conv=>whnf)))
  refine ⟨_, _, hsa, ?_⟩
  ((conv=>whnf);repeat(first|(refine mvT ?_;conv=>whnf)|(refine mvF ?_;conv=>whnf)|(refine cT (by rfl) ?_;conv=>whnf)|(refine cF (by rfl) ?_;conv=>whnf)))
  refine st_cell (o := 0) (v := str (atT t 0).s) (hp.e0 hxa) (rfl) (by omega) rfl (by simp) (rfl) ?_
  intro wc hoc hxc
  have hp : Own wc p ty [str (atT t 0).s, .slice none 0 0, .int .i16 0, .pointer none, .map none] := hoc
  have ho := (ho.e0 hxa).ext hxc (Ne.symm hpb)
  have hx0 := (hx0.tr0 hxa).trans hxc fun _ _ h => h
  have hoq := (hoq.e0 hxa).ext hxc (Ne.symm hpq)
  ((conv=>whnf);repeat(first|(refine mvT ?_;conv=>whnf)|(refine mvF ?_;conv=>whnf)|(refine cT (by rfl) ?_;conv=>whnf)|(refine cF (by rfl) ?_;conv=>whnf)))
  have hfl := fieldOK_list (hok.1 1 _ rfl)
  refine ⟨_, rfl, ho.cells, ?_⟩
  ((conv=>whnf);repeat(first|(refine mvT ?_;conv=>whnf)|(refine mvF ?_;conv=>whnf)|(refine cT (by rfl) ?_;conv=>whnf)|(refine cF (by rfl) ?_;conv=>whnf)))
  refine Does.mono (iat_does (ht0.ext hx0 fun k _ h => (hR0 k h).2) 1) ?_
  rintro ra wa ⟨hra, hxa⟩
  obtain ⟨sva, lva, uva, lsa, rfl, hna, hsa, hla, helsa, hua⟩ := hra.open
  ((conv=>whnf);repeat(first|(refine mvT ?_;conv=>whnf)|(refine mvF ?_;conv=>whnf)|(refine cT (by rfl) ?_;conv=>whnf)|(refine cF (by rfl) ?_;conv=>whnf)))
  refine VC.cutE (fun c : Value => [(1, .pointer (some ⟨b, 0, none⟩)), (2, .pointer (some ⟨q, 0, none⟩)), (3, .pointer (some ⟨p, 0, none⟩))]) (fun c w' => Ext (fun k => k = p) w0 w' ∧ Own w' p ty [str (atT t 0).s, c, .int .i16 0, .pointer none, .map none] ∧ Own w' b ImplTreeT [.int .i64 t.n, sv, .bool t.nl, lv, .slice au us.length cu] ∧ Own w' q qT qL ∧ ListR true 19 (rDescribeShareGroupOffsetsResponseGroupTopic w' (fun k => k ≠ p ∧ k ≠ q ∧ (R0 k ∨ w0.heap.size ≤ k))) w' (fun k => k ≠ p ∧ k ≠ q ∧ (R0 k ∨ w0.heap.size ≤ k)) c (atT t 1)) ?_ ?_
  · refine cI (by rfl) (fun hnl=>?_) (fun hnl=>?_)
    · have hnl : (atT t 1).nl = false := by simpa using hnl
      ((conv=>whnf);repeat(first|(refine mvT ?_;conv=>whnf)|(refine mvF ?_;conv=>whnf)|(refine cT (by rfl) ?_;conv=>whnf)|(refine cF (by rfl) ?_;conv=>whnf)))
      have hx1 := hx0.tr0 hxa
      refine ⟨_, rfl, (ho.e0 hxa).cells, ?_⟩
      ((conv=>whnf);repeat(first|(refine mvT ?_;conv=>whnf)|(refine mvF ?_;conv=>whnf)|(refine cT (by rfl) ?_;conv=>whnf)|(refine cF (by rfl) ?_;conv=>whnf)))
      refine Does.mono (iat_does (ht0.ext hx1 fun k _ h => (hR0 k h).2) 1) ?_
      rintro r5 w5 ⟨hr5, hx5⟩
      obtain ⟨sv5, lv5, uv5, ls5, rfl, hn5, hs5, hl5, hels5, hu5⟩ := hr5.open
      obtain ⟨a5, c5, rfl, _⟩ := hl5.view
      have hlen5 := hels5.len
      ((conv=>whnf);repeat(first|(refine mvT ?_;conv=>whnf)|(refine mvF ?_;conv=>whnf)|(refine cT (by rfl) ?_;conv=>whnf)|(refine cF (by rfl) ?_;conv=>whnf)))
      refine ⟨⟨by omega, by omega, by omega, by simp only [Int.toNat_natCast]; omega⟩, ⟨by decide, rfl⟩, ?_⟩
      intro b6 w6 hb6 ho6 hx6
      ((conv=>whnf);repeat(first|(refine mvT ?_;conv=>whnf)|(refine mvF ?_;conv=>whnf)|(refine cT (by rfl) ?_;conv=>whnf)|(refine cF (by rfl) ?_;conv=>whnf)))
      have hx56 := (hxa.e0 hx5).e0 hx6
      have hsz5 := (hxa.e0 hx5).size
      have hszc := hx0.size
      have hb6l := ho6.lt
      have hplc := hp.lt
      have hblc := ho.lt
      refine st_cell (o := 1) (v := .slice (some ⟨b6, 0, none⟩) 0 ls5.length) (hp.e0 hx56) rfl (by omega) rfl (by simp) rfl ?_
      intro w7 ho7 hx7
      ((conv=>whnf);repeat(first|(refine mvT ?_;conv=>whnf)|(refine mvF ?_;conv=>whnf)|(refine cT (by rfl) ?_;conv=>whnf)|(refine cF (by rfl) ?_;conv=>whnf)))
      have hx7c : Ext (fun k => k = p) wc w7 := (hx56.mono fun _ _ f => f.elim).trans hx7 fun _ _ h => h
      have hx07 := hx0.trans hx7c fun _ _ h => h
      refine ⟨_, rfl, (ho.ext hx7c (Ne.symm hpb)).cells, ?_⟩
      ((conv=>whnf);repeat(first|(refine mvT ?_;conv=>whnf)|(refine mvF ?_;conv=>whnf)|(refine cT (by rfl) ?_;conv=>whnf)|(refine cF (by rfl) ?_;conv=>whnf)))
      refine Does.mono (iat_does (ht0.ext hx07 fun k _ h => (hR0 k h).2) 1) ?_
      rintro r8 w8 ⟨hr8, hx8⟩
      obtain ⟨sv8, lv8, uv8, ls8, rfl, hn8, hs8, hl8, hels8, hu8⟩ := hr8.open
      obtain ⟨a8, c8, rfl, hc8, hm8, hF8, _, hC8⟩ := hl8.view
      have hlen8 := hels8.len
      ((conv=>whnf);repeat(first|(refine mvT ?_;conv=>whnf)|(refine mvF ?_;conv=>whnf)|(refine cT (by rfl) ?_;conv=>whnf)|(refine cF (by rfl) ?_;conv=>whnf)))
      have hx8c : Ext (fun k => k = p ∨ wc.heap.size ≤ k) wc w8 := (hx7c.tr0 hx8).mono fun _ _ h => .inl h
      have hx08 := hx07.tr0 hx8
      have hos8 := (OSl.mk0 (sz := 19) (n := ls5.length) (ho6.ext hx7 (by omega)) (by simp) (by rw [maxLen_eq]; omega) (B := wc.heap.size) (by omega)).e0 hx8
      refine VL.loop (fun s : Nat × Value => [(1, .pointer (some ⟨b, 0, none⟩)), (2, .pointer (some ⟨q, 0, none⟩)), (3, .pointer (some ⟨p, 0, none⟩)), (25, .slice a8 ls8.length c8), (26, .int .i64 ls8.length), (27, .int .i64 s.1)])
        (fun s w' => (Ext (fun k => k = p) w0 w' ∧ Ext (fun k => k = p ∨ wc.heap.size ≤ k) wc w' ∧ Ext (fun k => k = p ∨ w0.heap.size ≤ k) w8 w' ∧ s.1 ≤ ls8.length ∧ s.2 ≠ .slice none 0 0) ∧ Own w' p ty [str (atT t 0).s, s.2, .int .i16 0, .pointer none, .map none] ∧ ∃ es : List (List Value), OSl w' wc.heap.size 105 19 s.2 es ∧ es.length = s.1 ∧ ∀ (j : Nat) (c : List Value) (x : T), es[j]? = some c → (atT t 1).l[j]? = some x → rDescribeShareGroupOffsetsResponseGroupTopic w' (fun k => k ≠ p ∧ k ≠ q ∧ (R0 k ∨ w0.heap.size ≤ k) ∧ s.2.ownBlock ≠ some k) c x) (fun s => ls8.length - s.1) (0, .slice (some ⟨b6, 0, none⟩) 0 ls5.length)
        ⟨rfl, rfl, rfl, rfl, rfl, rfl, trivial⟩ ⟨⟨hx08, hx8c, Ext.refl _ _, Nat.zero_le _, by simp⟩, ho7.e0 hx8, [], hos8, rfl, by simp⟩ ?_
      rintro ⟨i, sl⟩ w9 ⟨⟨hx09, hxc9, hx89, hi, hnn⟩, hp9, es, hos9, hesl, hesr⟩
      dsimp only at hi hp9 hos9 hesl hesr hnn
      ((conv=>whnf);repeat(first|(refine mvT ?_;conv=>whnf)|(refine mvF ?_;conv=>whnf)|(refine cT (by rfl) ?_;conv=>whnf)|(refine cF (by rfl) ?_;conv=>whnf)))
      refine cI (by rfl) (fun h9=>?_) (fun h9=>?_)
      · have hil : i < ls8.length := by have := of_decide_eq_true h9; simp only at this; omega
        have hill : i < (atT t 1).l.length := by omega
        have htr := hels8.at' i ls8[i] (atT t 1).l[i] (by simp [hil]) (by simp [hill])
        obtain ⟨b10, o10, rfl, hc10⟩ := hC8 i ls8[i] (by simp [hil])
        have hb10 := hF8 b10 o10 rfl (by omega)
        have hc10 := hc10.ext hx89 (by have := hR0 _ hb10.1; omega)
        have htr9 := htr.ext hx89 fun k _ h => by have := hR0 _ h; omega
        ((conv=>whnf);repeat(first|(refine mvT ?_;conv=>whnf)|(refine mvF ?_;conv=>whnf)|(refine cT (by rfl) ?_;conv=>whnf)|(refine cF (by rfl) ?_;conv=>whnf)))
        refine ⟨b10, o10, rfl, ⟨by omega, by omega⟩, ?_⟩
        ((conv=>whnf);repeat(first|(refine mvT ?_;conv=>whnf)|(refine mvF ?_;conv=>whnf)|(refine cT (by rfl) ?_;conv=>whnf)|(refine cF (by rfl) ?_;conv=>whnf)))
        refine ⟨ls8[i], htr.len, by rw [Int.toNat_natCast]; exact hc10, ?_⟩
        ((conv=>whnf);repeat(first|(refine mvT ?_;conv=>whnf)|(refine mvF ?_;conv=>whnf)|(refine cT (by rfl) ?_;conv=>whnf)|(refine cF (by rfl) ?_;conv=>whnf)))
        intro b11 w11 hb11 ho11 hx11
        ((conv=>whnf);repeat(first|(refine mvT ?_;conv=>whnf)|(refine mvF ?_;conv=>whnf)|(refine cT (by rfl) ?_;conv=>whnf)|(refine cF (by rfl) ?_;conv=>whnf)))
        refine st_all ls8[i] ho11 htr.len rfl htr.ok ?_
        intro w12 ho12 hx12
        have hx912 : Ext nob w9 w12.drew := (hx11.st hx12 hb11).e0 (ext_drew _)
        have ho12 := ho12.e0 (ext_drew _)
        have htr12 := htr9.e0 hx912
        obtain ⟨sv6, lv6, uv6, ls6, hy, hn6, hsy, _⟩ := Tr.open ⟨ls8[i], rfl, htr12⟩
        have hci : ls8[i] = [.int .i64 ((atT t 1).l[i]).n, sv6, .bool ((atT t 1).l[i]).nl, lv6, uv6] := by
          have := congrArg Value.cells hy
          exact congrArg Array.toList this
        rw [hci] at ho12 htr12
        have hs912 := hx912.size
        have hs9c := hxc9.size
        ((conv=>whnf);repeat(first|(refine mvT ?_;conv=>whnf)|(refine mvF ?_;conv=>whnf)|(refine cT (by rfl) ?_;conv=>whnf)|(refine cF (by rfl) ?_;conv=>whnf)))
        refine VD.draw mixed (.q 0 (.q 1 (.q 2 (.eff 3 [1] (.eff 4 [1] (.eff 5 [] (.q 6 (.eff 7 [] (.done))))))))) (by kernel_rfl) ?_;((conv=>whnf);repeat(first|(refine mvT ?_;conv=>whnf)|(refine mvF ?_;conv=>whnf)|(refine cT (by rfl) ?_;conv=>whnf)|(refine cF (by rfl) ?_;conv=>whnf)))
        refine ldS ((hp9.e0 hx912).cell rfl) ?_;((conv=>whnf);repeat(first|(refine mvT ?_;conv=>whnf)|(refine mvF ?_;conv=>whnf)|(refine cT (by rfl) ?_;conv=>whnf)|(refine cF (by rfl) ?_;conv=>whnf)))
        refine ⟨_, rfl, ho12.cells, ?_⟩
        ((conv=>whnf);repeat(first|(refine mvT ?_;conv=>whnf)|(refine mvF ?_;conv=>whnf)|(refine cT (by rfl) ?_;conv=>whnf)|(refine cF (by rfl) ?_;conv=>whnf)))
        refine Does.mono (makeDescribeShareGroupOffsetsResponseGroupTopic (u := u) ⟨_, rfl, htr12⟩ ((hfl.2 _ (List.getElem_mem hill)).2.2 rfl)) ?_
        rintro r13 w13 ⟨es13, rfl, hok13, hr13, hxm13⟩
        obtain ⟨zu1_0, zu1_1, zu1_2, zu1_3, zu1_4, zu1_5, zu1_6, zu1_7, zu1_8, zu1_9, zu1_10, zu1_11, zu1_12, zu1_13, zu1_14, zu1_15, zc2, zm, rfl, _⟩ := id hr13
        have hx913 := hx912.e0 hxm13
        refine ⟨by (conv => whnf); exact ⟨⟨_, (hp9.e0 hx913).cell rfl, rfl, rfl⟩, trivial⟩, ?_⟩
        ((conv=>whnf);repeat(first|(refine mvT ?_;conv=>whnf)|(refine mvF ?_;conv=>whnf)|(refine cT (by rfl) ?_;conv=>whnf)|(refine cF (by rfl) ?_;conv=>whnf)))
        intro b13 w14 hb13 ho13 hx13
        have ho13 : Own w14 b13 105 [str (atT (atT t 1).l[i] 0).s, bcell zu1_0, bcell zu1_1, bcell zu1_2, bcell zu1_3, bcell zu1_4, bcell zu1_5, bcell zu1_6, bcell zu1_7, bcell zu1_8, bcell zu1_9, bcell zu1_10, bcell zu1_11, bcell zu1_12, bcell zu1_13, bcell zu1_14, bcell zu1_15, zc2, zm] := ho13
        have hr13 := rDescribeShareGroupOffsetsResponseGroupTopic_ext hr13 hx13 fun _ _ _ f => f
        have hx913 := hx913.e0 hx13
        refine ⟨by (conv => whnf); exact ⟨⟨_, (hp9.e0 hx913).cell rfl, rfl, rfl⟩, trivial⟩, ?_⟩
        have hs913 := hx913.size
        ((conv=>whnf);repeat(first|(refine mvT ?_;conv=>whnf)|(refine mvF ?_;conv=>whnf)|(refine cT (by rfl) ?_;conv=>whnf)|(refine cF (by rfl) ?_;conv=>whnf)))
        refine app_struct (ms := [[str (atT (atT t 1).l[i] 0).s, bcell zu1_0, bcell zu1_1, bcell zu1_2, bcell zu1_3, bcell zu1_4, bcell zu1_5, bcell zu1_6, bcell zu1_7, bcell zu1_8, bcell zu1_9, bcell zu1_10, bcell zu1_11, bcell zu1_12, bcell zu1_13, bcell zu1_14, bcell zu1_15, zc2, zm]]) rfl (hos9.e0 hx913) (src_one ho13 (rDescribeShareGroupOffsetsResponseGroupTopic_len hr13) rfl) (by simp) (by simpa only [List.flatten_cons, List.flatten_nil, List.append_nil] using hok13) rfl ⟨by simp only [List.length_singleton, hesl]; omega, by simp only [List.length_singleton, hesl]; omega⟩ (by omega) ?_
        intro v15 w15 hos15 hx15 hb15 hnn15
        obtain ⟨a15, n15, c15, rfl⟩ : ∃ a n c, v15 = .slice a n c := by
          obtain ⟨a, c, h, _⟩ := hos15.shape
          exact ⟨a, _, c, h⟩
        have hpsl : ¬ sl.ownBlock = some p := fun h => by have := hos9.blk p h; omega
        have ho15 := (hp9.e0 hx913).ext hx15 hpsl
        ((conv=>whnf);repeat(first|(refine mvT ?_;conv=>whnf)|(refine mvF ?_;conv=>whnf)|(refine cT (by rfl) ?_;conv=>whnf)|(refine cF (by rfl) ?_;conv=>whnf)))
        refine st_cell (o := 1) (v := .slice a15 n15 c15) ho15 rfl (by omega) rfl (by simp) rfl ?_
        intro w16 ho16 hx16
        ((conv=>whnf);repeat(first|(refine mvT ?_;conv=>whnf)|(refine mvF ?_;conv=>whnf)|(refine cT (by rfl) ?_;conv=>whnf)|(refine cF (by rfl) ?_;conv=>whnf)))
        have hx916 : Ext (fun k => k = p ∨ wc.heap.size ≤ k) w9 w16 := ((hx913.mono fun _ _ f => f.elim).trans hx15 fun k _ h => .inr (hos9.blk k h)).trans hx16 fun _ _ h => .inl h
        have hos16 := hos15.ext hx16 fun k hk h => by have := hos15.blk k hk; omega
        refine ⟨(i + 1, _), ⟨rfl, rfl, rfl, rfl, rfl, inc_eq (by rw [maxLen_eq] at hm8; omega), trivial⟩, ⟨⟨hx09.trans hx916 fun k hk h => by omega, hxc9.trans hx916 fun _ _ h => h, hx89.trans hx916 fun k hk h => by omega, by simp only; omega, hnn15 hnn⟩, ho16, es ++ [[str (atT (atT t 1).l[i] 0).s, bcell zu1_0, bcell zu1_1, bcell zu1_2, bcell zu1_3, bcell zu1_4, bcell zu1_5, bcell zu1_6, bcell zu1_7, bcell zu1_8, bcell zu1_9, bcell zu1_10, bcell zu1_11, bcell zu1_12, bcell zu1_13, bcell zu1_14, bcell zu1_15, zc2, zm]], hos16, by simp [hesl], ?_⟩, by simp only; omega⟩
        intro j c x hj hx
        have key : rDescribeShareGroupOffsetsResponseGroupTopic w14 (fun k => k ≠ p ∧ k ≠ q ∧ (R0 k ∨ w0.heap.size ≤ k) ∧ sl.ownBlock ≠ some k) c x := by
          rcases Nat.lt_or_ge j es.length with hjl | hjl
          · rw [List.getElem?_append_left hjl] at hj
            exact rDescribeShareGroupOffsetsResponseGroupTopic_ext (hesr j c x hj hx) hx913 fun _ _ _ f => f
          · have hj0 : j = es.length := by have := (List.getElem?_eq_some_iff.1 hj).1; simp at this; omega
            subst hj0
            rw [List.getElem?_append_right (Nat.le_refl _), Nat.sub_self, List.getElem?_cons_zero, Option.some.injEq] at hj
            subst hj
            rw [hesl, List.getElem?_eq_getElem hill, Option.some.injEq] at hx
            subst hx
            exact rDescribeShareGroupOffsetsResponseGroupTopic_mono hr13 fun k hk h => by
              have hkp : k ≠ p := by rcases h with h | h; exact (hR0 k h).2; omega
              have hkq : k ≠ q := by rcases h with h | h; (have := (hR0 k h).1; omega); omega
              exact ⟨hkp, hkq, h.imp id (fun h => by omega), fun e => by have := hos9.own.lt k e; rcases h with h | h; (have := (hR0 k h).1; have := hos9.blk k e; omega); omega⟩
        have key2 := rDescribeShareGroupOffsetsResponseGroupTopic_ext (rDescribeShareGroupOffsetsResponseGroupTopic_ext (rDescribeShareGroupOffsetsResponseGroupTopic_mono key (F' := fun k => (fun k => k ≠ p ∧ k ≠ q ∧ (R0 k ∨ w0.heap.size ≤ k) ∧ sl.ownBlock ≠ some k) k ∧ k < w14.heap.size) fun k hk h => ⟨h, hk⟩) hx15 fun k _ h => h.1.2.2.2) hx16 fun k _ h => h.1.1
        exact rDescribeShareGroupOffsetsResponseGroupTopic_mono key2 fun k _ h => ⟨h.1.1, h.1.2.1, h.1.2.2.1, fun e => by
          rcases hb15 with e2 | ⟨g, hg, hle⟩
          · exact h.1.2.2.2 (e2 ▸ e)
          · have e : (Value.slice a15 n15 c15).ownBlock = some k := e
            rw [hg, Option.some.injEq] at e
            have := h.2
            omega⟩
      have hil : i = ls8.length := by have := of_decide_eq_false h9; simp only at this; omega
      ((conv=>whnf);repeat(first|(refine mvT ?_;conv=>whnf)|(refine mvF ?_;conv=>whnf)|(refine cT (by rfl) ?_;conv=>whnf)|(refine cF (by rfl) ?_;conv=>whnf)))
      have hli : ListR true 19 (rDescribeShareGroupOffsetsResponseGroupTopic w9 (fun k => k ≠ p ∧ k ≠ q ∧ (R0 k ∨ w0.heap.size ≤ k))) w9 (fun k => k ≠ p ∧ k ≠ q ∧ (R0 k ∨ w0.heap.size ≤ k)) sl (atT t 1) := by
        refine .inr ⟨hnl, fun _ => ?_, es, hos9.sl fun k hk => ⟨by omega, by omega, .inr (by omega)⟩, by omega, fun j c x hj hx => rDescribeShareGroupOffsetsResponseGroupTopic_mono (hesr j c x hj hx) fun k _ h => ⟨h.1, h.2.1, h.2.2.1⟩⟩
        rcases hos9.own.2 with ⟨e, _⟩ | ⟨g, cap, cur, e, _⟩
        · exact absurd e hnn
        · exact ⟨_, _, _, e⟩
      exact ⟨sl, ⟨rfl, rfl, rfl, trivial⟩, hx09, hp9, ho.ext hxc9 (by omega), hoq.ext hxc9 (by have := hoq.lt; omega), hli⟩
    · have hnl : (atT t 1).nl = true := by simpa using hnl
      ((conv=>whnf);repeat(first|(refine mvT ?_;conv=>whnf)|(refine mvF ?_;conv=>whnf)|(refine cT (by rfl) ?_;conv=>whnf)|(refine cF (by rfl) ?_;conv=>whnf)))
      exact ⟨_, ⟨rfl, rfl, rfl, trivial⟩, hx0.tr0 hxa, hp.e0 hxa, ho.e0 hxa, hoq.e0 hxa, .inl ⟨hnl, rfl⟩⟩
  clear hfl
  rintro c1 wc ⟨hx0, hp, ho, hoq, hc1⟩
  ((conv=>whnf);repeat(first|(refine mvT ?_;conv=>whnf)|(refine mvF ?_;conv=>whnf)|(refine cT (by rfl) ?_;conv=>whnf)|(refine cF (by rfl) ?_;conv=>whnf)))
  refine ⟨_, rfl, ho.cells, ?_⟩
  ((conv=>whnf);repeat(first|(refine mvT ?_;conv=>whnf)|(refine mvF ?_;conv=>whnf)|(refine cT (by rfl) ?_;conv=>whnf)|(refine cF (by rfl) ?_;conv=>whnf)))
  refine Does.mono (iat_does (ht0.ext hx0 fun k _ h => (hR0 k h).2) 2) ?_
  rintro ra wa ⟨hra, hxa⟩
  obtain ⟨sva, lva, uva, lsa, rfl, hna, hsa, hla, helsa, hua⟩ := hra.open
  ((conv=>whnf);repeat(first|(refine mvT ?_;conv=>whnf)|(refine mvF ?_;conv=>whnf)|(refine cT (by rfl) ?_;conv=>whnf)|(refine cF (by rfl) ?_;conv=>whnf)))
  refine st_cell (o := 2) (v := .int .i16 (IntKind.i16.wrap (atT t 2).n)) (hp.e0 hxa) (rfl) (by omega) rfl (by simp) (rfl) ?_
  intro wc hoc hxc
  have hp : Own wc p ty [str (atT t 0).s, c1, .int .i16 (IntKind.i16.wrap (atT t 2).n), .pointer none, .map none] := hoc
  have ho := (ho.e0 hxa).ext hxc (Ne.symm hpb)
  have hx0 := (hx0.tr0 hxa).trans hxc fun _ _ h => h
  have hc1 := (hc1.ext hxa (fun _ _ _ f => f) (fun _ _ h => rDescribeShareGroupOffsetsResponseGroupTopic_ext h hxa (fun _ _ _ f => f))).ext hxc (fun k _ h => h.1) (fun _ _ h => rDescribeShareGroupOffsetsResponseGroupTopic_ext h hxc (fun k _ h => h.1))
  have hoq := (hoq.e0 hxa).ext hxc (Ne.symm hpq)
  ((conv=>whnf);repeat(first|(refine mvT ?_;conv=>whnf)|(refine mvF ?_;conv=>whnf)|(refine cT (by rfl) ?_;conv=>whnf)|(refine cF (by rfl) ?_;conv=>whnf)))
  refine ⟨_, rfl, ho.cells, ?_⟩
  ((conv=>whnf);repeat(first|(refine mvT ?_;conv=>whnf)|(refine mvF ?_;conv=>whnf)|(refine cT (by rfl) ?_;conv=>whnf)|(refine cF (by rfl) ?_;conv=>whnf)))
  refine Does.mono (iat_does (ht0.ext hx0 fun k _ h => (hR0 k h).2) 3) ?_
  rintro ra wa ⟨hra, hxa⟩
  ((conv=>whnf);repeat(first|(refine mvT ?_;conv=>whnf)|(refine mvF ?_;conv=>whnf)|(refine cT (by rfl) ?_;conv=>whnf)|(refine cF (by rfl) ?_;conv=>whnf)))
  have hq := (hp.e0 hxa).lt
  have hq2 := (hx0.tr0 hxa).size
  refine Does.mono (textOf_does hra) ?_
  rintro c3 wb ⟨hc3, h1, hxb⟩
  have hc3 := hc3.mono (F' := (fun k => k ≠ p ∧ k ≠ q ∧ (R0 k ∨ w0.heap.size ≤ k))) fun k _ h => ⟨by omega, by omega, .inr (by omega)⟩
  have hxa := hxa.e0 hxb
  ((conv=>whnf);repeat(first|(refine mvT ?_;conv=>whnf)|(refine mvF ?_;conv=>whnf)|(refine cT (by rfl) ?_;conv=>whnf)|(refine cF (by rfl) ?_;conv=>whnf)))
  refine st_cell (o := 3) (v := c3) (hp.e0 hxa) (cells_one h1) (by omega) rfl (by simp) (h1) ?_
  intro wc hoc hxc
  have hp : Own wc p ty [str (atT t 0).s, c1, .int .i16 (IntKind.i16.wrap (atT t 2).n), c3, .map none] := hoc
  have ho := (ho.e0 hxa).ext hxc (Ne.symm hpb)
  have hx0 := (hx0.tr0 hxa).trans hxc fun _ _ h => h
  have hc1 := (hc1.ext hxa (fun _ _ _ f => f) (fun _ _ h => rDescribeShareGroupOffsetsResponseGroupTopic_ext h hxa (fun _ _ _ f => f))).ext hxc (fun k _ h => h.1) (fun _ _ h => rDescribeShareGroupOffsetsResponseGroupTopic_ext h hxc (fun k _ h => h.1))
  have hoq := (hoq.e0 hxa).ext hxc (Ne.symm hpq)
  have hc3 := hc3.ext hxc fun k _ h => h.1
  ((conv=>whnf);repeat(first|(refine mvT ?_;conv=>whnf)|(refine mvF ?_;conv=>whnf)|(refine cT (by rfl) ?_;conv=>whnf)|(refine cF (by rfl) ?_;conv=>whnf)))
  refine ldS (ho.cell rfl) ?_;((conv=>whnf);repeat(first|(refine mvT ?_;conv=>whnf)|(refine mvF ?_;conv=>whnf)|(refine cT (by rfl) ?_;conv=>whnf)|(refine cF (by rfl) ?_;conv=>whnf)))
  have hpN := hp.lt
  have h0N := hx0.size
  refine VL.loop (fun s : Nat × Value => [(1, .pointer (some ⟨b, 0, none⟩)), (2, .pointer (some ⟨q, 0, none⟩)), (3, .pointer (some ⟨p, 0, none⟩)), (49, .slice au us.length cu), (50, .int .i64 us.length), (51, .int .i64 s.1)])
    (fun s w' => (Ext (fun k => k = p) w0 w' ∧ Ext (fun k => k = p ∨ wc.heap.size ≤ k) wc w' ∧ s.1 ≤ us.length) ∧ Own w' p ty [str (atT t 0).s, c1, .int .i16 (IntKind.i16.wrap (atT t 2).n), c3, s.2] ∧ TagsO w' wc.heap.size R0 s.2 (t.u.take s.1)) (fun s => us.length - s.1) (0, .map none)
    ⟨rfl, rfl, rfl, rfl, rfl, rfl, trivial⟩ ⟨⟨hx0, Ext.refl _ _, Nat.zero_le _⟩, hp, TagsO.nil _ _ _⟩ ?_
  rintro ⟨i, m⟩ w9 ⟨⟨hx09, hxc9, hi⟩, hp9, hm9⟩
  dsimp only at hi hp9 hm9
  ((conv=>whnf);repeat(first|(refine mvT ?_;conv=>whnf)|(refine mvF ?_;conv=>whnf)|(refine cT (by rfl) ?_;conv=>whnf)|(refine cF (by rfl) ?_;conv=>whnf)))
  refine cI (by rfl) (fun h9=>?_) (fun h9=>?_)
  · have hil : i < us.length := by have := of_decide_eq_true h9; simp only at this; omega
    have hilu : i < t.u.length := by omega
    obtain ⟨hkey, bv, hci, hbv⟩ := huc i us[i] t.u[i] (by simp [hil]) (by simp [hilu])
    obtain ⟨b10, o10, rfl, hc10⟩ := husC i us[i] (by simp [hil])
    have hb10 := husF b10 o10 rfl (by omega)
    rw [hci] at hc10
    obtain ⟨av, cv, rfl, _⟩ := hbv.view
    have hc10 := hc10.ext hx09 (hR0 _ hb10.1).2
    have hbv9 := hbv.ext hx09 fun k _ h => (hR0 k h).2
    ((conv=>whnf);repeat(first|(refine mvT ?_;conv=>whnf)|(refine mvF ?_;conv=>whnf)|(refine cT (by rfl) ?_;conv=>whnf)|(refine cF (by rfl) ?_;conv=>whnf)))
    refine ⟨b10, o10, rfl, ⟨by omega, by omega⟩, ?_⟩
    ((conv=>whnf);repeat(first|(refine mvT ?_;conv=>whnf)|(refine mvF ?_;conv=>whnf)|(refine cT (by rfl) ?_;conv=>whnf)|(refine cF (by rfl) ?_;conv=>whnf)))
    refine ⟨_, rfl, by rw [Int.toNat_natCast]; exact hc10, ?_⟩
    ((conv=>whnf);repeat(first|(refine mvT ?_;conv=>whnf)|(refine mvF ?_;conv=>whnf)|(refine cT (by rfl) ?_;conv=>whnf)|(refine cF (by rfl) ?_;conv=>whnf)))
    intro b11 w11 hb11 ho11 hx11
    ((conv=>whnf);repeat(first|(refine mvT ?_;conv=>whnf)|(refine mvF ?_;conv=>whnf)|(refine cT (by rfl) ?_;conv=>whnf)|(refine cF (by rfl) ?_;conv=>whnf)))
    refine st_all [.int .u32 (t.u[i].1 : Int), .slice av (t.u[i]).2.length cv] ho11 rfl rfl rfl ?_
    intro w12 ho12 hx12
    have hx912 : Ext nob w9 w12 := (hx11.st hx12 hb11)
    ((conv=>whnf);repeat(first|(refine mvT ?_;conv=>whnf)|(refine mvF ?_;conv=>whnf)|(refine cT (by rfl) ?_;conv=>whnf)|(refine cF (by rfl) ?_;conv=>whnf)))
    refine ldS (ho12.cell rfl) ?_;((conv=>whnf);repeat(first|(refine mvT ?_;conv=>whnf)|(refine mvF ?_;conv=>whnf)|(refine cT (by rfl) ?_;conv=>whnf)|(refine cF (by rfl) ?_;conv=>whnf)))
    refine ldS (ho12.cell rfl) ?_;((conv=>whnf);repeat(first|(refine mvT ?_;conv=>whnf)|(refine mvF ?_;conv=>whnf)|(refine cT (by rfl) ?_;conv=>whnf)|(refine cF (by rfl) ?_;conv=>whnf)))
    have hnew : ∀ x, x ∈ t.u.take i → x.1 ≠ (t.u[i]).1 := by
      intro x hx
      obtain ⟨j, hj, rfl⟩ := List.mem_take_iff_getElem.1 hx
      have := List.pairwise_iff_getElem.1 hok.2.rise j i (by omega) hilu (by omega)
      omega
    refine Does.mono (Tags_Set_does (o := 4) (N := wc.heap.size) (hp9.e0 hx912) rfl (hm9.e0 hx912) (Nat.le_trans hxc9.size hx912.size) hpN (fun k h => ⟨by have := (hR0 k h).1; omega, (hR0 k h).2⟩) (hbv9.e0 hx912) hnew) ?_
    rintro r13 w13 ⟨m13, hone, hp13, hm13, hx13⟩
    ((conv=>whnf);repeat(first|(refine mvT ?_;conv=>whnf)|(refine mvF ?_;conv=>whnf)|(refine cT (by rfl) ?_;conv=>whnf)|(refine cF (by rfl) ?_;conv=>whnf)))
    have hx913 : Ext (fun k => k = p ∨ wc.heap.size ≤ k) w9 w13 := (hx912.mono fun _ _ f => f.elim).trans hx13 fun _ _ h => h
    refine ⟨(i + 1, m13), ⟨rfl, rfl, rfl, rfl, rfl, inc_eq (by rw [maxLen_eq] at husm; omega), trivial⟩, ⟨⟨hx09.trans hx913 fun k hk h => by omega, hxc9.trans hx913 fun _ _ h => h, by simp only; omega⟩, hp13, ?_⟩, by simp only; omega⟩
    rw [List.take_succ_eq_append_getElem hilu]
    exact hm13
  have hil : i = us.length := by have := of_decide_eq_false h9; simp only at this; omega
  ((conv=>whnf);repeat(first|(refine mvT ?_;conv=>whnf)|(refine mvF ?_;conv=>whnf)|(refine cT (by rfl) ?_;conv=>whnf)|(refine cF (by rfl) ?_;conv=>whnf)))
  rw [hil, husl, List.take_length] at hm9
  refine ⟨_, rfl, hp9.cells, ?_⟩
  ((conv=>whnf);repeat(first|(refine mvT ?_;conv=>whnf)|(refine mvF ?_;conv=>whnf)|(refine cT (by rfl) ?_;conv=>whnf)|(refine cF (by rfl) ?_;conv=>whnf)))
  have hoq9 := hoq.ext hxc9 (by have := hoq.lt; omega)
  have hc1 := hc1.ext hxc9 (fun k _ h => by have := h.1; omega) (fun _ _ h => rDescribeShareGroupOffsetsResponseGroupTopic_ext h hxc9 (fun k _ h => by have := h.1; omega))
  have hc3 := hc3.ext hxc9 (fun k _ h => by have := h.1; omega)
  have hokc : okCells [str (atT t 0).s, c1, .int .i16 (IntKind.i16.wrap (atT t 2).n), c3, m] = true := ok_cons rfl (ok_cons hc1.one (ok_cons rfl (ok_cons hc3.one (ok_cons hm9.tags.one (ok_nil)))))
  refine st_all [str (atT t 0).s, c1, .int .i16 (IntKind.i16.wrap (atT t 2).n), c3, m] hoq9 rfl hqlen hokc ?_
  intro we hoe hxe
  ((conv=>whnf);repeat(first|(refine mvT ?_;conv=>whnf)|(refine mvF ?_;conv=>whnf)|(refine cT (by rfl) ?_;conv=>whnf)|(refine cF (by rfl) ?_;conv=>whnf)))
  refine ⟨_, rfl, hoe.cells, ?_⟩
  have hxn : Ext nob w0 w9 := (Ext.refl nob w0).trans hx09 fun k hk e => by omega
  exact ⟨_, rfl, hokc, ⟨c1, c3, m, rfl, (hc1.ext hxe (fun k _ h => h.2.1) (fun _ _ h => rDescribeShareGroupOffsetsResponseGroupTopic_ext h hxe (fun k _ h => h.2.1))).mono (fun k _ h => h.2.2.imp (hRF k) id) (fun _ _ h => rDescribeShareGroupOffsetsResponseGroupTopic_mono h fun k _ h => h.2.2.imp (hRF k) id), (hc3.ext hxe (fun k _ h => h.2.1)).mono (fun k _ h => h.2.2.imp (hRF k) id), (hm9.tags.ext hxe (fun k _ h e => by rcases h with h | h; (have := (hR0 k h).1; omega); omega)).mono fun k _ h => h.imp (hRF k) (fun h => by omega)⟩, hxn.trans hxe fun k hk e => by omega⟩
theorem fillDescribeShareGroupOffsetsResponse {F : Nat → Prop} {w0 : World} {p : Nat} {ty : TypeId} {v u : Int} {x : Value} {t : T} (hp : Own w0 p ty [.int .i16 v, .int .i32 0, .slice none 0 0, .map none]) (ht : Tr w0 F x t) (hF : ∀ k, F k → k ≠ p) (hok : partOK 9 u dDescribeShareGroupOffsetsResponse t) :
    Does X.P 30 #[.pointer (some ⟨p, 0, none⟩), x] w0 fun r w' => Ext (fun k => k = p) w0 w' ∧ ∃ c1 m, Own w' p ty [.int .i16 v, .int .i32 (IntKind.i32.wrap (atT t 0).n), c1, m] ∧ ListR true 5 (rDescribeShareGroupOffsetsResponseGroup w' (fun k => k ≠ p)) w' (fun k => k ≠ p) c1 (atT t 1) ∧ TagsR w' (fun k => k ≠ p) m t.u := by
  have hpl := hp.lt
  obtain ⟨R0, hR0, ht0⟩ : ∃ R0 : Nat → Prop, (∀ k, R0 k → k < w0.heap.size ∧ k ≠ p) ∧ Tr w0 R0 x t := ⟨fun k => k < w0.heap.size ∧ k ≠ p, fun k h => h, ht.mono fun k h1 h2 => ⟨h1, hF k h2⟩⟩
  clear ht hF
  obtain ⟨sv, lv, uv, ls, rfl, hn, hs, hl, hels, htg⟩ := ht0.open
  obtain ⟨us, hus, husl, huc⟩ := id htg
  obtain ⟨au, cu, rfl, husc, husm, husF, _, husC⟩ := hus.view
  refine Does.go (X := X) (l := [_, _]) Tryz.func30 rfl (by kernel_rfl) (by kernel_rfl) _ rfl ?_
  ((conv=>whnf);repeat(first|(refine mvT ?_;conv=>whnf)|(refine mvF ?_;conv=>whnf)|(refine cT (by rfl) ?_;conv=>whnf)|(refine cF (by rfl) ?_;conv=>whnf)))
  intro b wc hb ho hx
  have hpb : p ≠ b := by omega
  have ho : Own wc b ImplTreeT [.int .i64 t.n, sv, .bool t.nl, lv, .slice au us.length cu] := ho
  have hx0 : Ext (fun k => k = p) w0 wc := hx.mono fun _ _ f => f.elim
  have hp := hp.e0 hx
  ((conv=>whnf);repeat(first|(refine mvT ?_;conv=>whnf)|(refine mvF ?_;conv=>whnf)|(refine cT (by rfl) ?_;conv=>whnf)|(refine cF (by rfl) ?_;conv=>whnf)))
  refine ⟨_, rfl, ho.cells, ?_⟩
  ((conv=>whnf);repeat(first|(refine mvT ?_;conv=>whnf)|(refine mvF ?_;conv=>whnf)|(refine cT (by rfl) ?_;conv=>whnf)|(refine cF (by rfl) ?_;conv=>whnf)))
  refine Does.mono (iat_does (ht0.ext hx0 fun k _ h => (hR0 k h).2) 0) ?_
  rintro ra wa ⟨hra, hxa⟩
  obtain ⟨sva, lva, uva, lsa, rfl, hna, hsa, hla, helsa, hua⟩ := hra.open
  ((conv=>whnf);repeat(first|(refine mvT ?_;conv=>whnf)|(refine mvF ?_;conv=>whnf)|(refine cT (by rfl) ?_;conv=>whnf)|(refine cF (by rfl) ?_;conv=>whnf)))
  refine st_cell (o := 1) (v := .int .i32 (IntKind.i32.wrap (atT t 0).n)) (hp.e0 hxa) (rfl) (by omega) rfl (by simp) (rfl) ?_
  intro wc hoc hxc
  have hp : Own wc p ty [.int .i16 v, .int .i32 (IntKind.i32.wrap (atT t 0).n), .slice none 0 0, .map none] := hoc
  have ho := (ho.e0 hxa).ext hxc (Ne.symm hpb)
  have hx0 := (hx0.tr0 hxa).trans hxc fun _ _ h => h
  ((conv=>whnf);repeat(first|(refine mvT ?_;conv=>whnf)|(refine mvF ?_;conv=>whnf)|(refine cT (by rfl) ?_;conv=>whnf)|(refine cF (by rfl) ?_;conv=>whnf)))
  have hfl := fieldOK_list (hok.1 1 _ rfl)
  refine ⟨_, rfl, ho.cells, ?_⟩
  ((conv=>whnf);repeat(first|(refine mvT ?_;conv=>whnf)|(refine mvF ?_;conv=>whnf)|(refine cT (by rfl) ?_;conv=>whnf)|(refine cF (by rfl) ?_;conv=>whnf)))
  refine Does.mono (iat_does (ht0.ext hx0 fun k _ h => (hR0 k h).2) 1) ?_
  rintro ra wa ⟨hra, hxa⟩
  obtain ⟨sva, lva, uva, lsa, rfl, hna, hsa, hla, helsa, hua⟩ := hra.open
  ((conv=>whnf);repeat(first|(refine mvT ?_;conv=>whnf)|(refine mvF ?_;conv=>whnf)|(refine cT (by rfl) ?_;conv=>whnf)|(refine cF (by rfl) ?_;conv=>whnf)))
  refine VC.cutE (fun c : Value => [(0, .pointer (some ⟨p, 0, none⟩)), (3, .pointer (some ⟨b, 0, none⟩))]) (fun c w' => Ext (fun k => k = p) w0 w' ∧ Own w' p ty [.int .i16 v, .int .i32 (IntKind.i32.wrap (atT t 0).n), c, .map none] ∧ Own w' b ImplTreeT [.int .i64 t.n, sv, .bool t.nl, lv, .slice au us.length cu] ∧ ListR true 5 (rDescribeShareGroupOffsetsResponseGroup w' (fun k => k ≠ p ∧ (R0 k ∨ w0.heap.size ≤ k))) w' (fun k => k ≠ p ∧ (R0 k ∨ w0.heap.size ≤ k)) c (atT t 1)) ?_ ?_
  · refine cI (by rfl) (fun hnl=>?_) (fun hnl=>?_)
    · have hnl : (atT t 1).nl = false := by simpa using hnl
      ((conv=>whnf);repeat(first|(refine mvT ?_;conv=>whnf)|(refine mvF ?_;conv=>whnf)|(refine cT (by rfl) ?_;conv=>whnf)|(refine cF (by rfl) ?_;conv=>whnf)))
      have hx1 := hx0.tr0 hxa
      refine ⟨_, rfl, (ho.e0 hxa).cells, ?_⟩
      ((conv=>whnf);repeat(first|(refine mvT ?_;conv=>whnf)|(refine mvF ?_;conv=>whnf)|(refine cT (by rfl) ?_;conv=>whnf)|(refine cF (by rfl) ?_;conv=>whnf)))
      refine Does.mono (iat_does (ht0.ext hx1 fun k _ h => (hR0 k h).2) 1) ?_
      rintro r5 w5 ⟨hr5, hx5⟩
      obtain ⟨sv5, lv5, uv5, ls5, rfl, hn5, hs5, hl5, hels5, hu5⟩ := hr5.open
      obtain ⟨a5, c5, rfl, _⟩ := hl5.view
      have hlen5 := hels5.len
      ((conv=>whnf);repeat(first|(refine mvT ?_;conv=>whnf)|(refine mvF ?_;conv=>whnf)|(refine cT (by rfl) ?_;conv=>whnf)|(refine cF (by rfl) ?_;conv=>whnf)))
      refine ⟨⟨by omega, by omega, by omega, by simp only [Int.toNat_natCast]; omega⟩, ⟨by decide, rfl⟩, ?_⟩
      intro b6 w6 hb6 ho6 hx6
      ((conv=>whnf);repeat(first|(refine mvT ?_;conv=>whnf)|(refine mvF ?_;conv=>whnf)|(refine cT (by rfl) ?_;conv=>whnf)|(refine cF (by rfl) ?_;conv=>whnf)))
      have hx56 := (hxa.e0 hx5).e0 hx6
      have hsz5 := (hxa.e0 hx5).size
      have hszc := hx0.size
      have hb6l := ho6.lt
      have hplc := hp.lt
      have hblc := ho.lt
      refine st_cell (o := 2) (v := .slice (some ⟨b6, 0, none⟩) 0 ls5.length) (hp.e0 hx56) rfl (by omega) rfl (by simp) rfl ?_
      intro w7 ho7 hx7
      ((conv=>whnf);repeat(first|(refine mvT ?_;conv=>whnf)|(refine mvF ?_;conv=>whnf)|(refine cT (by rfl) ?_;conv=>whnf)|(refine cF (by rfl) ?_;conv=>whnf)))
      have hx7c : Ext (fun k => k = p) wc w7 := (hx56.mono fun _ _ f => f.elim).trans hx7 fun _ _ h => h
      have hx07 := hx0.trans hx7c fun _ _ h => h
      refine ⟨_, rfl, (ho.ext hx7c (Ne.symm hpb)).cells, ?_⟩
      ((conv=>whnf);repeat(first|(refine mvT ?_;conv=>whnf)|(refine mvF ?_;conv=>whnf)|(refine cT (by rfl) ?_;conv=>whnf)|(refine cF (by rfl) ?_;conv=>whnf)))
      refine Does.mono (iat_does (ht0.ext hx07 fun k _ h => (hR0 k h).2) 1) ?_
      rintro r8 w8 ⟨hr8, hx8⟩
      obtain ⟨sv8, lv8, uv8, ls8, rfl, hn8, hs8, hl8, hels8, hu8⟩ := hr8.open
      obtain ⟨a8, c8, rfl, hc8, hm8, hF8, _, hC8⟩ := hl8.view
      have hlen8 := hels8.len
      ((conv=>whnf);repeat(first|(refine mvT ?_;conv=>whnf)|(refine mvF ?_;conv=>whnf)|(refine cT (by rfl) ?_;conv=>whnf)|(refine cF (by rfl) ?_;conv=>whnf)))
      have hx8c : Ext (fun k => k = p ∨ wc.heap.size ≤ k) wc w8 := (hx7c.tr0 hx8).mono fun _ _ h => .inl h
      have hx08 := hx07.tr0 hx8
      have hos8 := (OSl.mk0 (sz := 5) (n := ls5.length) (ho6.ext hx7 (by omega)) (by simp) (by rw [maxLen_eq]; omega) (B := wc.heap.size) (by omega)).e0 hx8
      refine VL.loop (fun s : Nat × Value => [(0, .pointer (some ⟨p, 0, none⟩)), (3, .pointer (some ⟨b, 0, none⟩)), (29, .slice a8 ls8.length c8), (30, .int .i64 ls8.length), (31, .int .i64 s.1)])
        (fun s w' => (Ext (fun k => k = p) w0 w' ∧ Ext (fun k => k = p ∨ wc.heap.size ≤ k) wc w' ∧ Ext (fun k => k = p ∨ w0.heap.size ≤ k) w8 w' ∧ s.1 ≤ ls8.length ∧ s.2 ≠ .slice none 0 0) ∧ Own w' p ty [.int .i16 v, .int .i32 (IntKind.i32.wrap (atT t 0).n), s.2, .map none] ∧ ∃ es : List (List Value), OSl w' wc.heap.size 94 5 s.2 es ∧ es.length = s.1 ∧ ∀ (j : Nat) (c : List Value) (x : T), es[j]? = some c → (atT t 1).l[j]? = some x → rDescribeShareGroupOffsetsResponseGroup w' (fun k => k ≠ p ∧ (R0 k ∨ w0.heap.size ≤ k) ∧ s.2.ownBlock ≠ some k) c x) (fun s => ls8.length - s.1) (0, .slice (some ⟨b6, 0, none⟩) 0 ls5.length)
        ⟨rfl, rfl, rfl, rfl, rfl, trivial⟩ ⟨⟨hx08, hx8c, Ext.refl _ _, Nat.zero_le _, by simp⟩, ho7.e0 hx8, [], hos8, rfl, by simp⟩ ?_
      rintro ⟨i, sl⟩ w9 ⟨⟨hx09, hxc9, hx89, hi, hnn⟩, hp9, es, hos9, hesl, hesr⟩
      dsimp only at hi hp9 hos9 hesl hesr hnn
      ((conv=>whnf);repeat(first|(refine mvT ?_;conv=>whnf)|(refine mvF ?_;conv=>whnf)|(refine cT (by rfl) ?_;conv=>whnf)|(refine cF (by rfl) ?_;conv=>whnf)))
      refine cI (by rfl) (fun h9=>?_) (fun h9=>?_)
      · have hil : i < ls8.length := by have := of_decide_eq_true h9; simp only at this; omega
        have hill : i < (atT t 1).l.length := by omega
        have htr := hels8.at' i ls8[i] (atT t 1).l[i] (by simp [hil]) (by simp [hill])
        obtain ⟨b10, o10, rfl, hc10⟩ := hC8 i ls8[i] (by simp [hil])
        have hb10 := hF8 b10 o10 rfl (by omega)
        have hc10 := hc10.ext hx89 (by have := hR0 _ hb10.1; omega)
        have htr9 := htr.ext hx89 fun k _ h => by have := hR0 _ h; omega
        ((conv=>whnf);repeat(first|(refine mvT ?_;conv=>whnf)|(refine mvF ?_;conv=>whnf)|(refine cT (by rfl) ?_;conv=>whnf)|(refine cF (by rfl) ?_;conv=>whnf)))
        refine ⟨b10, o10, rfl, ⟨by omega, by omega⟩, ?_⟩
        ((conv=>whnf);repeat(first|(refine mvT ?_;conv=>whnf)|(refine mvF ?_;conv=>whnf)|(refine cT (by rfl) ?_;conv=>whnf)|(refine cF (by rfl) ?_;conv=>whnf)))
        refine ⟨ls8[i], htr.len, by rw [Int.toNat_natCast]; exact hc10, ?_⟩
        ((conv=>whnf);repeat(first|(refine mvT ?_;conv=>whnf)|(refine mvF ?_;conv=>whnf)|(refine cT (by rfl) ?_;conv=>whnf)|(refine cF (by rfl) ?_;conv=>whnf)))
        intro b11 w11 hb11 ho11 hx11
        ((conv=>whnf);repeat(first|(refine mvT ?_;conv=>whnf)|(refine mvF ?_;conv=>whnf)|(refine cT (by rfl) ?_;conv=>whnf)|(refine cF (by rfl) ?_;conv=>whnf)))
        refine st_all ls8[i] ho11 htr.len rfl htr.ok ?_
        intro w12 ho12 hx12
        have hx912 : Ext nob w9 w12.drew := (hx11.st hx12 hb11).e0 (ext_drew _)
        have ho12 := ho12.e0 (ext_drew _)
        have htr12 := htr9.e0 hx912
        obtain ⟨sv6, lv6, uv6, ls6, hy, hn6, hsy, _⟩ := Tr.open ⟨ls8[i], rfl, htr12⟩
        have hci : ls8[i] = [.int .i64 ((atT t 1).l[i]).n, sv6, .bool ((atT t 1).l[i]).nl, lv6, uv6] := by
          have := congrArg Value.cells hy
          exact congrArg Array.toList this
        rw [hci] at ho12 htr12
        have hs912 := hx912.size
        have hs9c := hxc9.size
        ((conv=>whnf);repeat(first|(refine mvT ?_;conv=>whnf)|(refine mvF ?_;conv=>whnf)|(refine cT (by rfl) ?_;conv=>whnf)|(refine cF (by rfl) ?_;conv=>whnf)))
        refine VD.draw mixed (.q 0 (.q 1 (.q 2 (.q 3 (.q 4 (.q 5 (.eff 6 [4] (.eff 7 [4] (.eff 8 [] (.q 9 (.q 10 (.eff 11 [] (.done))))))))))))) (by kernel_rfl) ?_;((conv=>whnf);repeat(first|(refine mvT ?_;conv=>whnf)|(refine mvF ?_;conv=>whnf)|(refine cT (by rfl) ?_;conv=>whnf)|(refine cF (by rfl) ?_;conv=>whnf)))
        refine ldS ((hp9.e0 hx912).cell rfl) ?_;((conv=>whnf);repeat(first|(refine mvT ?_;conv=>whnf)|(refine mvF ?_;conv=>whnf)|(refine cT (by rfl) ?_;conv=>whnf)|(refine cF (by rfl) ?_;conv=>whnf)))
        refine ⟨_, rfl, ho12.cells, ?_⟩
        ((conv=>whnf);repeat(first|(refine mvT ?_;conv=>whnf)|(refine mvF ?_;conv=>whnf)|(refine cT (by rfl) ?_;conv=>whnf)|(refine cF (by rfl) ?_;conv=>whnf)))
        refine Does.mono (makeDescribeShareGroupOffsetsResponseGroup (u := u) ⟨_, rfl, htr12⟩ ((hfl.2 _ (List.getElem_mem hill)).2.2 rfl)) ?_
        rintro r13 w13 ⟨es13, rfl, hok13, hr13, hxm13⟩
        obtain ⟨zc1, zc3, zm, rfl, _⟩ := id hr13
        have hx913 := hx912.e0 hxm13
        refine ⟨by (conv => whnf); exact ⟨⟨_, (hp9.e0 hx913).cell rfl, rfl, rfl⟩, trivial⟩, ?_⟩
        ((conv=>whnf);repeat(first|(refine mvT ?_;conv=>whnf)|(refine mvF ?_;conv=>whnf)|(refine cT (by rfl) ?_;conv=>whnf)|(refine cF (by rfl) ?_;conv=>whnf)))
        intro b13 w14 hb13 ho13 hx13
        have ho13 : Own w14 b13 94 [str (atT (atT t 1).l[i] 0).s, zc1, .int .i16 (IntKind.i16.wrap (atT (atT t 1).l[i] 2).n), zc3, zm] := ho13
        have hr13 := rDescribeShareGroupOffsetsResponseGroup_ext hr13 hx13 fun _ _ _ f => f
        have hx913 := hx913.e0 hx13
        refine ⟨by (conv => whnf); exact ⟨⟨_, (hp9.e0 hx913).cell rfl, rfl, rfl⟩, trivial⟩, ?_⟩
        have hs913 := hx913.size
        ((conv=>whnf);repeat(first|(refine mvT ?_;conv=>whnf)|(refine mvF ?_;conv=>whnf)|(refine cT (by rfl) ?_;conv=>whnf)|(refine cF (by rfl) ?_;conv=>whnf)))
        refine app_struct (ms := [[str (atT (atT t 1).l[i] 0).s, zc1, .int .i16 (IntKind.i16.wrap (atT (atT t 1).l[i] 2).n), zc3, zm]]) rfl (hos9.e0 hx913) (src_one ho13 (rDescribeShareGroupOffsetsResponseGroup_len hr13) rfl) (by simp) (by simpa only [List.flatten_cons, List.flatten_nil, List.append_nil] using hok13) rfl ⟨by simp only [List.length_singleton, hesl]; omega, by simp only [List.length_singleton, hesl]; omega⟩ (by omega) ?_
        intro v15 w15 hos15 hx15 hb15 hnn15
        obtain ⟨a15, n15, c15, rfl⟩ : ∃ a n c, v15 = .slice a n c := by
          obtain ⟨a, c, h, _⟩ := hos15.shape
          exact ⟨a, _, c, h⟩
        have hpsl : ¬ sl.ownBlock = some p := fun h => by have := hos9.blk p h; omega
        have ho15 := (hp9.e0 hx913).ext hx15 hpsl
        ((conv=>whnf);repeat(first|(refine mvT ?_;conv=>whnf)|(refine mvF ?_;conv=>whnf)|(refine cT (by rfl) ?_;conv=>whnf)|(refine cF (by rfl) ?_;conv=>whnf)))
        refine st_cell (o := 2) (v := .slice a15 n15 c15) ho15 rfl (by omega) rfl (by simp) rfl ?_
        intro w16 ho16 hx16
        ((conv=>whnf);repeat(first|(refine mvT ?_;conv=>whnf)|(refine mvF ?_;conv=>whnf)|(refine cT (by rfl) ?_;conv=>whnf)|(refine cF (by rfl) ?_;conv=>whnf)))
        have hx916 : Ext (fun k => k = p ∨ wc.heap.size ≤ k) w9 w16 := ((hx913.mono fun _ _ f => f.elim).trans hx15 fun k _ h => .inr (hos9.blk k h)).trans hx16 fun _ _ h => .inl h
        have hos16 := hos15.ext hx16 fun k hk h => by have := hos15.blk k hk; omega
        refine ⟨(i + 1, _), ⟨rfl, rfl, rfl, rfl, inc_eq (by rw [maxLen_eq] at hm8; omega), trivial⟩, ⟨⟨hx09.trans hx916 fun k hk h => by omega, hxc9.trans hx916 fun _ _ h => h, hx89.trans hx916 fun k hk h => by omega, by simp only; omega, hnn15 hnn⟩, ho16, es ++ [[str (atT (atT t 1).l[i] 0).s, zc1, .int .i16 (IntKind.i16.wrap (atT (atT t 1).l[i] 2).n), zc3, zm]], hos16, by simp [hesl], ?_⟩, by simp only; omega⟩
        intro j c x hj hx
        have key : rDescribeShareGroupOffsetsResponseGroup w14 (fun k => k ≠ p ∧ (R0 k ∨ w0.heap.size ≤ k) ∧ sl.ownBlock ≠ some k) c x := by
          rcases Nat.lt_or_ge j es.length with hjl | hjl
          · rw [List.getElem?_append_left hjl] at hj
            exact rDescribeShareGroupOffsetsResponseGroup_ext (hesr j c x hj hx) hx913 fun _ _ _ f => f
          · have hj0 : j = es.length := by have := (List.getElem?_eq_some_iff.1 hj).1; simp at this; omega
            subst hj0
            rw [List.getElem?_append_right (Nat.le_refl _), Nat.sub_self, List.getElem?_cons_zero, Option.some.injEq] at hj
            subst hj
            rw [hesl, List.getElem?_eq_getElem hill, Option.some.injEq] at hx
            subst hx
            exact rDescribeShareGroupOffsetsResponseGroup_mono hr13 fun k hk h => by
              have hkp : k ≠ p := by rcases h with h | h; exact (hR0 k h).2; omega
              exact ⟨hkp, h.imp id (fun h => by omega), fun e => by have := hos9.own.lt k e; rcases h with h | h; (have := (hR0 k h).1; have := hos9.blk k e; omega); omega⟩
        have key2 := rDescribeShareGroupOffsetsResponseGroup_ext (rDescribeShareGroupOffsetsResponseGroup_ext (rDescribeShareGroupOffsetsResponseGroup_mono key (F' := fun k => (fun k => k ≠ p ∧ (R0 k ∨ w0.heap.size ≤ k) ∧ sl.ownBlock ≠ some k) k ∧ k < w14.heap.size) fun k hk h => ⟨h, hk⟩) hx15 fun k _ h => h.1.2.2) hx16 fun k _ h => h.1.1
        exact rDescribeShareGroupOffsetsResponseGroup_mono key2 fun k _ h => ⟨h.1.1, h.1.2.1, fun e => by
          rcases hb15 with e2 | ⟨g, hg, hle⟩
          · exact h.1.2.2 (e2 ▸ e)
          · have e : (Value.slice a15 n15 c15).ownBlock = some k := e
            rw [hg, Option.some.injEq] at e
            have := h.2
            omega⟩
      have hil : i = ls8.length := by have := of_decide_eq_false h9; simp only at this; omega
      ((conv=>whnf);repeat(first|(refine mvT ?_;conv=>whnf)|(refine mvF ?_;conv=>whnf)|(refine cT (by rfl) ?_;conv=>whnf)|(refine cF (by rfl) ?_;conv=>whnf)))
      have hli : ListR true 5 (rDescribeShareGroupOffsetsResponseGroup w9 (fun k => k ≠ p ∧ (R0 k ∨ w0.heap.size ≤ k))) w9 (fun k => k ≠ p ∧ (R0 k ∨ w0.heap.size ≤ k)) sl (atT t 1) := by
        refine .inr ⟨hnl, fun _ => ?_, es, hos9.sl fun k hk => ⟨by omega, .inr (by omega)⟩, by omega, fun j c x hj hx => rDescribeShareGroupOffsetsResponseGroup_mono (hesr j c x hj hx) fun k _ h => ⟨h.1, h.2.1⟩⟩
        rcases hos9.own.2 with ⟨e, _⟩ | ⟨g, cap, cur, e, _⟩
        · exact absurd e hnn
        · exact ⟨_, _, _, e⟩
      exact ⟨sl, ⟨rfl, rfl, trivial⟩, hx09, hp9, ho.ext hxc9 (by omega), hli⟩
    · have hnl : (atT t 1).nl = true := by simpa using hnl
      ((conv=>whnf);repeat(first|(refine mvT ?_;conv=>whnf)|(refine mvF ?_;conv=>whnf)|(refine cT (by rfl) ?_;conv=>whnf)|(refine cF (by rfl) ?_;conv=>whnf)))
      exact ⟨_, ⟨rfl, rfl, trivial⟩, hx0.tr0 hxa, hp.e0 hxa, ho.e0 hxa, .inl ⟨hnl, rfl⟩⟩
  clear hfl
  rintro c1 wc ⟨hx0, hp, ho, hc1⟩
  ((conv=>whnf);repeat(first|(refine mvT ?_;conv=>whnf)|(refine mvF ?_;conv=>whnf)|(refine cT (by rfl) ?_;conv=>whnf)|(refine cF (by rfl) ?_;conv=>whnf)))
  refine ldS (ho.cell rfl) ?_;((conv=>whnf);repeat(first|(refine mvT ?_;conv=>whnf)|(refine mvF ?_;conv=>whnf)|(refine cT (by rfl) ?_;conv=>whnf)|(refine cF (by rfl) ?_;conv=>whnf)))
  have hpN := hp.lt
  have h0N := hx0.size
  refine VL.loop (fun s : Nat × Value => [(0, .pointer (some ⟨p, 0, none⟩)), (3, .pointer (some ⟨b, 0, none⟩)), (48, .slice au us.length cu), (49, .int .i64 us.length), (50, .int .i64 s.1)])
    (fun s w' => (Ext (fun k => k = p) w0 w' ∧ Ext (fun k => k = p ∨ wc.heap.size ≤ k) wc w' ∧ s.1 ≤ us.length) ∧ Own w' p ty [.int .i16 v, .int .i32 (IntKind.i32.wrap (atT t 0).n), c1, s.2] ∧ TagsO w' wc.heap.size R0 s.2 (t.u.take s.1)) (fun s => us.length - s.1) (0, .map none)
    ⟨rfl, rfl, rfl, rfl, rfl, trivial⟩ ⟨⟨hx0, Ext.refl _ _, Nat.zero_le _⟩, hp, TagsO.nil _ _ _⟩ ?_
  rintro ⟨i, m⟩ w9 ⟨⟨hx09, hxc9, hi⟩, hp9, hm9⟩
  dsimp only at hi hp9 hm9
  ((conv=>whnf);repeat(first|(refine mvT ?_;conv=>whnf)|(refine mvF ?_;conv=>whnf)|(refine cT (by rfl) ?_;conv=>whnf)|(refine cF (by rfl) ?_;conv=>whnf)))
  refine cI (by rfl) (fun h9=>?_) (fun h9=>?_)
  · have hil : i < us.length := by have := of_decide_eq_true h9; simp only at this; omega
    have hilu : i < t.u.length := by omega
    obtain ⟨hkey, bv, hci, hbv⟩ := huc i us[i] t.u[i] (by simp [hil]) (by simp [hilu])
    obtain ⟨b10, o10, rfl, hc10⟩ := husC i us[i] (by simp [hil])
    have hb10 := husF b10 o10 rfl (by omega)
    rw [hci] at hc10
    obtain ⟨av, cv, rfl, _⟩ := hbv.view
    have hc10 := hc10.ext hx09 (hR0 _ hb10.1).2
    have hbv9 := hbv.ext hx09 fun k _ h => (hR0 k h).2
    ((conv=>whnf);repeat(first|(refine mvT ?_;conv=>whnf)|(refine mvF ?_;conv=>whnf)|(refine cT (by rfl) ?_;conv=>whnf)|(refine cF (by rfl) ?_;conv=>whnf)))
    refine ⟨b10, o10, rfl, ⟨by omega, by omega⟩, ?_⟩
    ((conv=>whnf);repeat(first|(refine mvT ?_;conv=>whnf)|(refine mvF ?_;conv=>whnf)|(refine cT (by rfl) ?_;conv=>whnf)|(refine cF (by rfl) ?_;conv=>whnf)))
    refine ⟨_, rfl, by rw [Int.toNat_natCast]; exact hc10, ?_⟩
    ((conv=>whnf);repeat(first|(refine mvT ?_;conv=>whnf)|(refine mvF ?_;conv=>whnf)|(refine cT (by rfl) ?_;conv=>whnf)|(refine cF (by rfl) ?_;conv=>whnf)))
    intro b11 w11 hb11 ho11 hx11
    ((conv=>whnf);repeat(first|(refine mvT ?_;conv=>whnf)|(refine mvF ?_;conv=>whnf)|(refine cT (by rfl) ?_;conv=>whnf)|(refine cF (by rfl) ?_;conv=>whnf)))
    refine st_all [.int .u32 (t.u[i].1 : Int), .slice av (t.u[i]).2.length cv] ho11 rfl rfl rfl ?_
    intro w12 ho12 hx12
    have hx912 : Ext nob w9 w12.drew := (hx11.st hx12 hb11).e0 (ext_drew _)
    have ho12 := ho12.e0 (ext_drew _)
    ((conv=>whnf);repeat(first|(refine mvT ?_;conv=>whnf)|(refine mvF ?_;conv=>whnf)|(refine cT (by rfl) ?_;conv=>whnf)|(refine cF (by rfl) ?_;conv=>whnf)))
    refine VD.draw mixed (.q 0 (.q 1 (.q 2 (.q 3 (.q 4 (.q 5 (.q 6 (.eff 7 [] (.done))))))))) (by kernel_rfl) ?_;((conv=>whnf);repeat(first|(refine mvT ?_;conv=>whnf)|(refine mvF ?_;conv=>whnf)|(refine cT (by rfl) ?_;conv=>whnf)|(refine cF (by rfl) ?_;conv=>whnf)))
    refine ldS (ho12.cell rfl) ?_;((conv=>whnf);repeat(first|(refine mvT ?_;conv=>whnf)|(refine mvF ?_;conv=>whnf)|(refine cT (by rfl) ?_;conv=>whnf)|(refine cF (by rfl) ?_;conv=>whnf)))
    refine ldS (ho12.cell rfl) ?_;((conv=>whnf);repeat(first|(refine mvT ?_;conv=>whnf)|(refine mvF ?_;conv=>whnf)|(refine cT (by rfl) ?_;conv=>whnf)|(refine cF (by rfl) ?_;conv=>whnf)))
    have hnew : ∀ x, x ∈ t.u.take i → x.1 ≠ (t.u[i]).1 := by
      intro x hx
      obtain ⟨j, hj, rfl⟩ := List.mem_take_iff_getElem.1 hx
      have := List.pairwise_iff_getElem.1 hok.2.rise j i (by omega) hilu (by omega)
      omega
    refine Does.mono (Tags_Set_does (o := 3) (N := wc.heap.size) (hp9.e0 hx912) rfl (hm9.e0 hx912) (Nat.le_trans hxc9.size hx912.size) hpN (fun k h => ⟨by have := (hR0 k h).1; omega, (hR0 k h).2⟩) (hbv9.e0 hx912) hnew) ?_
    rintro r13 w13 ⟨m13, hone, hp13, hm13, hx13⟩
    ((conv=>whnf);repeat(first|(refine mvT ?_;conv=>whnf)|(refine mvF ?_;conv=>whnf)|(refine cT (by rfl) ?_;conv=>whnf)|(refine cF (by rfl) ?_;conv=>whnf)))
    have hx913 : Ext (fun k => k = p ∨ wc.heap.size ≤ k) w9 w13 := (hx912.mono fun _ _ f => f.elim).trans hx13 fun _ _ h => h
    refine ⟨(i + 1, m13), ⟨rfl, rfl, rfl, rfl, inc_eq (by rw [maxLen_eq] at husm; omega), trivial⟩, ⟨⟨hx09.trans hx913 fun k hk h => by omega, hxc9.trans hx913 fun _ _ h => h, by simp only; omega⟩, hp13, ?_⟩, by simp only; omega⟩
    rw [List.take_succ_eq_append_getElem hilu]
    exact hm13
  have hil : i = us.length := by have := of_decide_eq_false h9; simp only at this; omega
  ((conv=>whnf);repeat(first|(refine mvT ?_;conv=>whnf)|(refine mvF ?_;conv=>whnf)|(refine cT (by rfl) ?_;conv=>whnf)|(refine cF (by rfl) ?_;conv=>whnf)))
  rw [hil, husl, List.take_length] at hm9
  exact ⟨hx09, c1, m, hp9, (hc1.ext hxc9 (fun k _ h => by have := h.1; omega) (fun _ _ h => rDescribeShareGroupOffsetsResponseGroup_ext h hxc9 (fun k _ h => by have := h.1; omega))).mono (fun k _ h => h.1) (fun _ _ h => rDescribeShareGroupOffsetsResponseGroup_mono h fun k _ h => h.1), hm9.tags.mono fun k hk h => by rcases h with h | h; exact (hR0 k h).2; omega⟩
def bDescribeShareGroupOffsetsResponseGroupTopicPartition (v : Int) (fx : Bool) (t : T) : List UInt8 := ((fixed (atT t 0).n 4) ++ ((fixed (atT t 1).n 8) ++ ((fixed (atT t 2).n 4) ++ (((if (decide (1 ≤ v) && (decide ((-1 : Int) < 0) || decide (v ≤ (-1)))) = true then fixed (atT t 3).n 8 else [])) ++ ((fixed (atT t 4).n 2) ++ ((ntA fx (atT t 5).nl (atT t 5).s) ++ ([]))))))) ++ tgsB fx t.u
theorem bDescribeShareGroupOffsetsResponseGroupTopicPartition_eq {v : Int} {fx : Bool} {t : T} (hv : 0 ≤ v) (hok : partOK 6 v dDescribeShareGroupOffsetsResponseGroupTopicPartition t) : partA 6 v fx dDescribeShareGroupOffsetsResponseGroupTopicPartition t = bDescribeShareGroupOffsetsResponseGroupTopicPartition v fx t := by
  unfold partA partAW bDescribeShareGroupOffsetsResponseGroupTopicPartition
  have hf := hok.1 0 _ rfl
  rw [plainW_all hv]
  have hf := hok.1 1 _ rfl
  rw [plainW_all hv]
  have hf := hok.1 2 _ rfl
  rw [plainW_all hv]
  have hf := hok.1 3 _ rfl
  rw [plainW_ver]
  have hf := hok.1 4 _ rfl
  rw [plainW_all hv]
  have hf := hok.1 5 _ rfl
  rw [plainW_all hv]
  rw [nt_eq hf]
  rfl
def bDescribeShareGroupOffsetsResponseGroupTopic (v : Int) (fx : Bool) (t : T) : List UInt8 := ((txA fx (atT t 0).s) ++ ((uuidB (atT t 1).s) ++ ((arA fx (lsT (atT t 2)).length ++ (lsT (atT t 2)).flatMap (bDescribeShareGroupOffsetsResponseGroupTopicPartition v fx)) ++ ([])))) ++ tgsB fx t.u
theorem bDescribeShareGroupOffsetsResponseGroupTopic_eq {v : Int} {fx : Bool} {t : T} (hv : 0 ≤ v) (hok : partOK 7 v dDescribeShareGroupOffsetsResponseGroupTopic t) : partA 7 v fx dDescribeShareGroupOffsetsResponseGroupTopic t = bDescribeShareGroupOffsetsResponseGroupTopic v fx t := by
  unfold partA partAW bDescribeShareGroupOffsetsResponseGroupTopic
  have hf := hok.1 0 _ rfl
  rw [plainW_all hv]
  rw [tx_eq hf]
  have hf := hok.1 1 _ rfl
  rw [plainW_all hv]
  have hf := hok.1 2 _ rfl
  rw [plainW_all hv]
  rw [ar_eq (g := (bDescribeShareGroupOffsetsResponseGroupTopicPartition v fx)) hf fun y hy => bDescribeShareGroupOffsetsResponseGroupTopicPartition_eq hv ((lsT_ok hf y hy).2.2 rfl)]
  rfl
def bDescribeShareGroupOffsetsResponseGroup (v : Int) (fx : Bool) (t : T) : List UInt8 := ((txA fx (atT t 0).s) ++ ((arA fx (lsT (atT t 1)).length ++ (lsT (atT t 1)).flatMap (bDescribeShareGroupOffsetsResponseGroupTopic v fx)) ++ ((fixed (atT t 2).n 2) ++ ((ntA fx (atT t 3).nl (atT t 3).s) ++ ([]))))) ++ tgsB fx t.u
theorem bDescribeShareGroupOffsetsResponseGroup_eq {v : Int} {fx : Bool} {t : T} (hv : 0 ≤ v) (hok : partOK 8 v dDescribeShareGroupOffsetsResponseGroup t) : partA 8 v fx dDescribeShareGroupOffsetsResponseGroup t = bDescribeShareGroupOffsetsResponseGroup v fx t := by
  unfold partA partAW bDescribeShareGroupOffsetsResponseGroup
  have hf := hok.1 0 _ rfl
  rw [plainW_all hv]
  rw [tx_eq hf]
  have hf := hok.1 1 _ rfl
  rw [plainW_all hv]
  rw [ar_eq (g := (bDescribeShareGroupOffsetsResponseGroupTopic v fx)) hf fun y hy => bDescribeShareGroupOffsetsResponseGroupTopic_eq hv ((lsT_ok hf y hy).2.2 rfl)]
  have hf := hok.1 2 _ rfl
  rw [plainW_all hv]
  have hf := hok.1 3 _ rfl
  rw [plainW_all hv]
  rw [nt_eq hf]
  rfl
def bDescribeShareGroupOffsetsResponse (v : Int) (fx : Bool) (t : T) : List UInt8 := ((fixed (atT t 0).n 4) ++ ((arA fx (lsT (atT t 1)).length ++ (lsT (atT t 1)).flatMap (bDescribeShareGroupOffsetsResponseGroup v fx)) ++ ([]))) ++ tgsB fx t.u
theorem bDescribeShareGroupOffsetsResponse_eq {v : Int} {fx : Bool} {t : T} (hv : 0 ≤ v) (hok : partOK 9 v dDescribeShareGroupOffsetsResponse t) : partA 9 v fx dDescribeShareGroupOffsetsResponse t = bDescribeShareGroupOffsetsResponse v fx t := by
  unfold partA partAW bDescribeShareGroupOffsetsResponse
  have hf := hok.1 0 _ rfl
  rw [plainW_all hv]
  have hf := hok.1 1 _ rfl
  rw [plainW_all hv]
  rw [ar_eq (g := (bDescribeShareGroupOffsetsResponseGroup v fx)) hf fun y hy => bDescribeShareGroupOffsetsResponseGroup_eq hv ((lsT_ok hf y hy).2.2 rfl)]
  rfl
theorem appDescribeShareGroupOffsetsResponse {F : Nat → Prop} {w0 : World} {p B : Nat} {ty : TypeId} {v : Int} {x c1 m : Value} {l : List UInt8} {t : T} (hp : Own w0 p ty [.int .i16 v, .int .i32 (IntKind.i32.wrap (atT t 0).n), c1, m]) (hc1 : ListR true 5 (rDescribeShareGroupOffsetsResponseGroup w0 F) w0 F c1 (atT t 1)) (hm : TagsR w0 F m t.u) (hok : partOK 9 v dDescribeShareGroupOffsetsResponse t)
    (hF : ∀ j, j < w0.heap.size → F j → x.ownBlock ≠ some j) (hxp : x.ownBlock ≠ some p) (hx : OB w0 B x l) (hB : B ≤ w0.heap.size) (hv : 0 ≤ v) (hl : l.length + (bDescribeShareGroupOffsetsResponse v (decide (v ≥ 0)) t).length ≤ 70000000000000) :
    Does X.P 31 #[.pointer (some ⟨p, 0, none⟩), x] w0 fun r w' => Apd w0 B x l (bDescribeShareGroupOffsetsResponse v (decide (v ≥ 0)) t) r w' := by
  have hpl := hp.lt
  obtain ⟨fx, hfx⟩ : ∃ fx, fx = decide (v ≥ 0) := ⟨_, rfl⟩
  rw [← hfx] at hl ⊢
  unfold bDescribeShareGroupOffsetsResponse at hl ⊢
  simp only [List.length_append, List.length_nil] at hl
  obtain ⟨F0, hFR, hFx, hcs⟩ : ∃ F0 : Nat → Prop, (∀ j, F0 j → j < w0.heap.size ∧ x.ownBlock ≠ some j) ∧ (∀ j, j < w0.heap.size → F0 j → ¬ x.ownBlock = some j) ∧ (ListR true 5 (rDescribeShareGroupOffsetsResponseGroup w0 F0) w0 F0 c1 (atT t 1) ∧ TagsR w0 F0 m t.u) :=
    ⟨fun j => F j ∧ j < w0.heap.size, fun j h => ⟨h.2, hF j h.2 h.1⟩, fun j _ h => hF j h.2 h.1, hc1.mono (fun k h1 h2 => ⟨h2, h1⟩) (fun _ _ h => rDescribeShareGroupOffsetsResponseGroup_mono h fun k h1 h2 => ⟨h2, h1⟩), hm.mono fun k h1 h2 => ⟨h2, h1⟩⟩
  clear hm hc1 hF
  obtain ⟨hc1, hm⟩ := hcs
  obtain ⟨a1, k1, l1, rfl, hkm1, hll1, hnn1, hcl1, hrl1⟩ := hc1.view
  have hA := Apd.start hx
  obtain ⟨m0, hm0⟩ : ∃ m0 : List UInt8, m0 = [] := ⟨_, rfl⟩
  rw [← hm0] at hA
  have hl0 : m0.length = 0 := by rw [hm0]; rfl
  refine Does.go (X := X) (l := [_, _]) Tryz.func31 rfl (by kernel_rfl) (by kernel_rfl) _ rfl ?_
  ((conv=>whnf);repeat(first|(refine mvT ?_;conv=>whnf)|(refine mvF ?_;conv=>whnf)|(refine cT (by rfl) ?_;conv=>whnf)|(refine cF (by rfl) ?_;conv=>whnf)))
  refine ldS (hp.cell rfl) ?_;((conv=>whnf);repeat(first|(refine mvT ?_;conv=>whnf)|(refine mvF ?_;conv=>whnf)|(refine cT (by rfl) ?_;conv=>whnf)|(refine cF (by rfl) ?_;conv=>whnf)))
  rw [← hfx]
  (refine mvB ?_;((conv=>whnf);repeat(first|(refine mvT ?_;conv=>whnf)|(refine mvF ?_;conv=>whnf)|(refine cT (by rfl) ?_;conv=>whnf)|(refine cF (by rfl) ?_;conv=>whnf))))
  refine ldS ((hp.ext hA.ext hxp).cell rfl) ?_;((conv=>whnf);repeat(first|(refine mvT ?_;conv=>whnf)|(refine mvF ?_;conv=>whnf)|(refine cT (by rfl) ?_;conv=>whnf)|(refine cF (by rfl) ?_;conv=>whnf)))
  refine Does.mono (AppendInt32_does hA.ob (Nat.le_trans hB hA.size) (by simp only [List.length_append]; omega) _) ?_;rintro r w h;((conv=>whnf);repeat(first|(refine mvT ?_;conv=>whnf)|(refine mvF ?_;conv=>whnf)|(refine cT (by rfl) ?_;conv=>whnf)|(refine cF (by rfl) ?_;conv=>whnf)))
  rw [fixed4_mod (wrap_i32m _)] at h
  replace hA := hA.tr h
  clear h
  generalize hm1 : m0 ++ (fixed (atT t 0).n 4) = m1 at hA
  have hl1 : m1.length = m0.length + (fixed (atT t 0).n 4).length := by rw [← hm1, List.length_append]
  refine ldS ((hp.ext hA.ext hxp).cell rfl) ?_;((conv=>whnf);repeat(first|(refine mvT ?_;conv=>whnf)|(refine mvF ?_;conv=>whnf)|(refine cT (by rfl) ?_;conv=>whnf)|(refine cF (by rfl) ?_;conv=>whnf)))
  have hml1 := lsT_len (hok.1 1 _ rfl)
  (refine mvB ?_;((conv=>whnf);repeat(first|(refine mvT ?_;conv=>whnf)|(refine mvF ?_;conv=>whnf)|(refine cT (by rfl) ?_;conv=>whnf)|(refine cF (by rfl) ?_;conv=>whnf))))
  refine VC.cutE (fun r => [(1, r), (0, .pointer (some ⟨p, 0, none⟩)), (5, .int .i16 v), (6, .bool fx), (8, .slice a1 l1.length k1)]) (fun r w' => Apd w0 B x l (m1 ++ (arA fx (lsT (atT t 1)).length)) r w') ?_ ?_
  · refine cI (by rfl) (fun hc=>?_) (fun hc=>?_)
    · ((conv=>whnf);repeat(first|(refine mvT ?_;conv=>whnf)|(refine mvF ?_;conv=>whnf)|(refine cT (by rfl) ?_;conv=>whnf)|(refine cF (by rfl) ?_;conv=>whnf)))
      refine Does.mono (AppendCompactArrayLen_does hA.ob (Nat.le_trans hB hA.size) (by simp only [List.length_append]; omega) l1.length (by omega)) ?_;rintro r w h;((conv=>whnf);repeat(first|(refine mvT ?_;conv=>whnf)|(refine mvF ?_;conv=>whnf)|(refine cT (by rfl) ?_;conv=>whnf)|(refine cF (by rfl) ?_;conv=>whnf)))
      rw [hll1] at h
      replace hA := hA.tr h
      clear h
      refine ⟨_, ⟨rfl, rfl, rfl, rfl, rfl, trivial⟩, ?_⟩
      rw [hc]
      exact hA
    · ((conv=>whnf);repeat(first|(refine mvT ?_;conv=>whnf)|(refine mvF ?_;conv=>whnf)|(refine cT (by rfl) ?_;conv=>whnf)|(refine cF (by rfl) ?_;conv=>whnf)))
      refine Does.mono (AppendArrayLen_does hA.ob (Nat.le_trans hB hA.size) (by simp only [List.length_append]; omega) l1.length) ?_;rintro r w h;((conv=>whnf);repeat(first|(refine mvT ?_;conv=>whnf)|(refine mvF ?_;conv=>whnf)|(refine cT (by rfl) ?_;conv=>whnf)|(refine cF (by rfl) ?_;conv=>whnf)))
      rw [hll1] at h
      replace hA := hA.tr h
      clear h
      refine ⟨_, ⟨rfl, rfl, rfl, rfl, rfl, trivial⟩, ?_⟩
      rw [hc]
      exact hA
  clear hA
  rintro r w hA
  ((conv=>whnf);repeat(first|(refine mvT ?_;conv=>whnf)|(refine mvF ?_;conv=>whnf)|(refine cT (by rfl) ?_;conv=>whnf)|(refine cF (by rfl) ?_;conv=>whnf)))
  generalize hm2 : m1 ++ (arA fx (lsT (atT t 1)).length) = m2 at hA
  have hl2 : m2.length = m1.length + (arA fx (lsT (atT t 1)).length).length := by rw [← hm2, List.length_append]
  refine VL.loop (fun s : Nat × Value => [(1, s.2), (0, .pointer (some ⟨p, 0, none⟩)), (5, .int .i16 v), (6, .bool fx), (8, .slice a1 l1.length k1), (56, .slice a1 l1.length k1), (57, .int .i64 l1.length), (58, .int .i64 s.1)])
    (fun s w' => s.1 ≤ l1.length ∧ Apd w0 B x l (m2 ++ ((lsT (atT t 1)).take s.1).flatMap (bDescribeShareGroupOffsetsResponseGroup v fx)) s.2 w') (fun s => l1.length - s.1) (0, r) ⟨rfl, rfl, rfl, rfl, rfl, rfl, rfl, rfl, trivial⟩ ⟨Nat.zero_le _, by rw [List.take_zero, List.flatMap_nil, List.append_nil]; exact hA⟩ ?_
  clear hA
  rintro ⟨i1, r⟩ w ⟨hi1, hA⟩
  dsimp only at hi1 hA
  ((conv=>whnf);repeat(first|(refine mvT ?_;conv=>whnf)|(refine mvF ?_;conv=>whnf)|(refine cT (by rfl) ?_;conv=>whnf)|(refine cF (by rfl) ?_;conv=>whnf)))
  refine cI (by rfl) (fun h9=>?_) (fun h9=>?_)
  · have hil : i1 < l1.length := by have := of_decide_eq_true h9; simp only at this; omega
    have hiL1 : i1 < (lsT (atT t 1)).length := by omega
    obtain ⟨hft, hfl⟩ := flat_take (bDescribeShareGroupOffsetsResponseGroup v fx) (lsT (atT t 1)) i1 hiL1
    obtain ⟨b1, o1, rfl, hF1, hb1, hce1⟩ := hcl1 i1 l1[i1] (by simp [hil])
    have hre1 := hrl1 i1 l1[i1] ((lsT (atT t 1))[i1]) (by simp [hil]) (by simp [hiL1])
    have hlo1 := lsT_ok (hok.1 1 _ rfl) ((lsT (atT t 1))[i1]) (List.getElem_mem hiL1)
    generalize hm3 : m2 ++ ((lsT (atT t 1)).take i1).flatMap (bDescribeShareGroupOffsetsResponseGroup v fx) = m3 at hA
    have hl3 : m3.length = m2.length + (((lsT (atT t 1)).take i1).flatMap (bDescribeShareGroupOffsetsResponseGroup v fx)).length := by rw [← hm3, List.length_append]
    obtain ⟨x1, hx1⟩ : ∃ y, y = (lsT (atT t 1))[i1] := ⟨_, rfl⟩
    rw [← hx1] at hft hfl hre1 hlo1
    obtain ⟨c1_1, c1_3, m1_, hcells, hc1_1, hc1_3, hm1_⟩ := hre1
    rw [hcells] at hce1
    have hok1_ := hlo1.2.2 rfl
    obtain ⟨a1_1, k1_1, l1_1, rfl, hkm1_1, hll1_1, hnn1_1, hcl1_1, hrl1_1⟩ := hc1_1.view
    have hgl : (bDescribeShareGroupOffsetsResponseGroup v fx x1).length = (bDescribeShareGroupOffsetsResponseGroup v fx x1).length := rfl
    conv at hgl => rhs; unfold bDescribeShareGroupOffsetsResponseGroup
    simp only [List.length_append, List.length_nil] at hgl
    ((conv=>whnf);repeat(first|(refine mvT ?_;conv=>whnf)|(refine mvF ?_;conv=>whnf)|(refine cT (by rfl) ?_;conv=>whnf)|(refine cF (by rfl) ?_;conv=>whnf)))
    refine ⟨b1, o1, rfl, ⟨by omega, by omega⟩, ?_⟩
    ((conv=>whnf);repeat(first|(refine mvT ?_;conv=>whnf)|(refine mvF ?_;conv=>whnf)|(refine cT (by rfl) ?_;conv=>whnf)|(refine cF (by rfl) ?_;conv=>whnf)))
    refine ⟨_, ld ((hce1.ext hA.ext (hFx _ hb1 hF1)).cell (j := 0) rfl) (by simp <;> omega), ?_⟩; ((conv=>whnf);repeat(first|(refine mvT ?_;conv=>whnf)|(refine mvF ?_;conv=>whnf)|(refine cT (by rfl) ?_;conv=>whnf)|(refine cF (by rfl) ?_;conv=>whnf)))
    have hsl := fieldOK_text (hok1_.1 0 _ rfl)
    (refine mvB ?_;((conv=>whnf);repeat(first|(refine mvT ?_;conv=>whnf)|(refine mvF ?_;conv=>whnf)|(refine cT (by rfl) ?_;conv=>whnf)|(refine cF (by rfl) ?_;conv=>whnf))))
    refine VC.cutE (fun r => [(1, r), (0, .pointer (some ⟨p, 0, none⟩)), (5, .int .i16 v), (6, .bool fx), (8, .slice (some ⟨b1, o1, none⟩) l1.length k1), (56, .slice (some ⟨b1, o1, none⟩) l1.length k1), (57, .int .i64 l1.length), (58, .int .i64 i1), (10, .pointer (some ⟨b1, o1 + i1 * 5, none⟩))]) (fun r w' => Apd w0 B x l (m3 ++ (txA fx (atT x1 0).s)) r w') ?_ ?_
    · refine cI (by rfl) (fun hc=>?_) (fun hc=>?_)
      · ((conv=>whnf);repeat(first|(refine mvT ?_;conv=>whnf)|(refine mvF ?_;conv=>whnf)|(refine cT (by rfl) ?_;conv=>whnf)|(refine cF (by rfl) ?_;conv=>whnf)))
        refine Does.mono (AppendCompactString_does hA.ob (Nat.le_trans hB hA.size) _ (by omega) (by simp only [List.length_append]; omega)) ?_;rintro r w h;((conv=>whnf);repeat(first|(refine mvT ?_;conv=>whnf)|(refine mvF ?_;conv=>whnf)|(refine cT (by rfl) ?_;conv=>whnf)|(refine cF (by rfl) ?_;conv=>whnf)))
        replace hA := hA.tr h
        clear h
        refine ⟨_, ⟨rfl, rfl, rfl, rfl, rfl, rfl, rfl, rfl, rfl, trivial⟩, ?_⟩
        rw [hc]
        exact hA
      · ((conv=>whnf);repeat(first|(refine mvT ?_;conv=>whnf)|(refine mvF ?_;conv=>whnf)|(refine cT (by rfl) ?_;conv=>whnf)|(refine cF (by rfl) ?_;conv=>whnf)))
        refine Does.mono (AppendString_does hA.ob (Nat.le_trans hB hA.size) _ (by simp only [List.length_append]; omega)) ?_;rintro r w h;((conv=>whnf);repeat(first|(refine mvT ?_;conv=>whnf)|(refine mvF ?_;conv=>whnf)|(refine cT (by rfl) ?_;conv=>whnf)|(refine cF (by rfl) ?_;conv=>whnf)))
        replace hA := hA.tr h
        clear h
        refine ⟨_, ⟨rfl, rfl, rfl, rfl, rfl, rfl, rfl, rfl, rfl, trivial⟩, ?_⟩
        rw [hc]
        exact hA
    clear hA
    rintro r w hA
    ((conv=>whnf);repeat(first|(refine mvT ?_;conv=>whnf)|(refine mvF ?_;conv=>whnf)|(refine cT (by rfl) ?_;conv=>whnf)|(refine cF (by rfl) ?_;conv=>whnf)))
    generalize hm4 : m3 ++ (txA fx (atT x1 0).s) = m4 at hA
    have hl4 : m4.length = m3.length + (txA fx (atT x1 0).s).length := by rw [← hm4, List.length_append]
    refine ⟨_, ld ((hce1.ext hA.ext (hFx _ hb1 hF1)).cell (j := 1) rfl) (by simp <;> omega), ?_⟩; ((conv=>whnf);repeat(first|(refine mvT ?_;conv=>whnf)|(refine mvF ?_;conv=>whnf)|(refine cT (by rfl) ?_;conv=>whnf)|(refine cF (by rfl) ?_;conv=>whnf)))
    have hml1_1 := lsT_len (hok1_.1 1 _ rfl)
    (refine mvB ?_;((conv=>whnf);repeat(first|(refine mvT ?_;conv=>whnf)|(refine mvF ?_;conv=>whnf)|(refine cT (by rfl) ?_;conv=>whnf)|(refine cF (by rfl) ?_;conv=>whnf))))
    refine VC.cutE (fun r => [(1, r), (0, .pointer (some ⟨p, 0, none⟩)), (5, .int .i16 v), (6, .bool fx), (8, .slice (some ⟨b1, o1, none⟩) l1.length k1), (56, .slice (some ⟨b1, o1, none⟩) l1.length k1), (57, .int .i64 l1.length), (58, .int .i64 i1), (10, .pointer (some ⟨b1, o1 + i1 * 5, none⟩)), (12, .slice a1_1 l1_1.length k1_1)]) (fun r w' => Apd w0 B x l (m4 ++ (arA fx (lsT (atT x1 1)).length)) r w') ?_ ?_
    · refine cI (by rfl) (fun hc=>?_) (fun hc=>?_)
      · ((conv=>whnf);repeat(first|(refine mvT ?_;conv=>whnf)|(refine mvF ?_;conv=>whnf)|(refine cT (by rfl) ?_;conv=>whnf)|(refine cF (by rfl) ?_;conv=>whnf)))
        refine Does.mono (AppendCompactArrayLen_does hA.ob (Nat.le_trans hB hA.size) (by simp only [List.length_append]; omega) l1_1.length (by omega)) ?_;rintro r w h;((conv=>whnf);repeat(first|(refine mvT ?_;conv=>whnf)|(refine mvF ?_;conv=>whnf)|(refine cT (by rfl) ?_;conv=>whnf)|(refine cF (by rfl) ?_;conv=>whnf)))
        rw [hll1_1] at h
        replace hA := hA.tr h
        clear h
        refine ⟨_, ⟨rfl, rfl, rfl, rfl, rfl, rfl, rfl, rfl, rfl, rfl, trivial⟩, ?_⟩
        rw [hc]
        exact hA
      · ((conv=>whnf);repeat(first|(refine mvT ?_;conv=>whnf)|(refine mvF ?_;conv=>whnf)|(refine cT (by rfl) ?_;conv=>whnf)|(refine cF (by rfl) ?_;conv=>whnf)))
        refine Does.mono (AppendArrayLen_does hA.ob (Nat.le_trans hB hA.size) (by simp only [List.length_append]; omega) l1_1.length) ?_;rintro r w h;((conv=>whnf);repeat(first|(refine mvT ?_;conv=>whnf)|(refine mvF ?_;conv=>whnf)|(refine cT (by rfl) ?_;conv=>whnf)|(refine cF (by rfl) ?_;conv=>whnf)))
        rw [hll1_1] at h
        replace hA := hA.tr h
        clear h
        refine ⟨_, ⟨rfl, rfl, rfl, rfl, rfl, rfl, rfl, rfl, rfl, rfl, trivial⟩, ?_⟩
        rw [hc]
        exact hA
    clear hA
    rintro r w hA
    ((conv=>whnf);repeat(first|(refine mvT ?_;conv=>whnf)|(refine mvF ?_;conv=>whnf)|(refine cT (by rfl) ?_;conv=>whnf)|(refine cF (by rfl) ?_;conv=>whnf)))
    generalize hm5 : m4 ++ (arA fx (lsT (atT x1 1)).length) = m5 at hA
    have hl5 : m5.length = m4.length + (arA fx (lsT (atT x1 1)).length).length := by rw [← hm5, List.length_append]
    refine VL.loop (fun s : Nat × Value => [(1, s.2), (0, .pointer (some ⟨p, 0, none⟩)), (5, .int .i16 v), (6, .bool fx), (8, .slice (some ⟨b1, o1, none⟩) l1.length k1), (56, .slice (some ⟨b1, o1, none⟩) l1.length k1), (57, .int .i64 l1.length), (58, .int .i64 i1), (10, .pointer (some ⟨b1, o1 + i1 * 5, none⟩)), (12, .slice a1_1 l1_1.length k1_1), (88, .slice a1_1 l1_1.length k1_1), (89, .int .i64 l1_1.length), (90, .int .i64 s.1)])
      (fun s w' => s.1 ≤ l1_1.length ∧ Apd w0 B x l (m5 ++ ((lsT (atT x1 1)).take s.1).flatMap (bDescribeShareGroupOffsetsResponseGroupTopic v fx)) s.2 w') (fun s => l1_1.length - s.1) (0, r) ⟨rfl, rfl, rfl, rfl, rfl, rfl, rfl, rfl, rfl, rfl, rfl, rfl, rfl, trivial⟩ ⟨Nat.zero_le _, by rw [List.take_zero, List.flatMap_nil, List.append_nil]; exact hA⟩ ?_
    clear hA
    rintro ⟨i2, r⟩ w ⟨hi2, hA⟩
    dsimp only at hi2 hA
    ((conv=>whnf);repeat(first|(refine mvT ?_;conv=>whnf)|(refine mvF ?_;conv=>whnf)|(refine cT (by rfl) ?_;conv=>whnf)|(refine cF (by rfl) ?_;conv=>whnf)))
    refine cI (by rfl) (fun h9=>?_) (fun h9=>?_)
    · have hil : i2 < l1_1.length := by have := of_decide_eq_true h9; simp only at this; omega
      have hiL2 : i2 < (lsT (atT x1 1)).length := by omega
      obtain ⟨hft, hfl⟩ := flat_take (bDescribeShareGroupOffsetsResponseGroupTopic v fx) (lsT (atT x1 1)) i2 hiL2
      obtain ⟨b1_1, o1_1, rfl, hF1_1, hb1_1, hce1_1⟩ := hcl1_1 i2 l1_1[i2] (by simp [hil])
      have hre1_1 := hrl1_1 i2 l1_1[i2] ((lsT (atT x1 1))[i2]) (by simp [hil]) (by simp [hiL2])
      have hlo1_1 := lsT_ok (hok1_.1 1 _ rfl) ((lsT (atT x1 1))[i2]) (List.getElem_mem hiL2)
      generalize hm6 : m5 ++ ((lsT (atT x1 1)).take i2).flatMap (bDescribeShareGroupOffsetsResponseGroupTopic v fx) = m6 at hA
      have hl6 : m6.length = m5.length + (((lsT (atT x1 1)).take i2).flatMap (bDescribeShareGroupOffsetsResponseGroupTopic v fx)).length := by rw [← hm6, List.length_append]
      obtain ⟨x2, hx2⟩ : ∃ y, y = (lsT (atT x1 1))[i2] := ⟨_, rfl⟩
      rw [← hx2] at hft hfl hre1_1 hlo1_1
      obtain ⟨u2_1_0, u2_1_1, u2_1_2, u2_1_3, u2_1_4, u2_1_5, u2_1_6, u2_1_7, u2_1_8, u2_1_9, u2_1_10, u2_1_11, u2_1_12, u2_1_13, u2_1_14, u2_1_15, c2_2, m2_, hcells, hc2_1, hc2_2, hm2_⟩ := hre1_1
      rw [hcells] at hce1_1
      have hok2_ := hlo1_1.2.2 rfl
      obtain ⟨a2_2, k2_2, l2_2, rfl, hkm2_2, hll2_2, hnn2_2, hcl2_2, hrl2_2⟩ := hc2_2.view
      have hgl : (bDescribeShareGroupOffsetsResponseGroupTopic v fx x2).length = (bDescribeShareGroupOffsetsResponseGroupTopic v fx x2).length := rfl
      conv at hgl => rhs; unfold bDescribeShareGroupOffsetsResponseGroupTopic
      simp only [List.length_append, List.length_nil] at hgl
      ((conv=>whnf);repeat(first|(refine mvT ?_;conv=>whnf)|(refine mvF ?_;conv=>whnf)|(refine cT (by rfl) ?_;conv=>whnf)|(refine cF (by rfl) ?_;conv=>whnf)))
      refine ⟨b1_1, o1_1, rfl, ⟨by omega, by omega⟩, ?_⟩
      ((conv=>whnf);repeat(first|(refine mvT ?_;conv=>whnf)|(refine mvF ?_;conv=>whnf)|(refine cT (by rfl) ?_;conv=>whnf)|(refine cF (by rfl) ?_;conv=>whnf)))
      refine ⟨_, ld ((hce1_1.ext hA.ext (hFx _ hb1_1 hF1_1)).cell (j := 0) rfl) (by simp <;> omega), ?_⟩; ((conv=>whnf);repeat(first|(refine mvT ?_;conv=>whnf)|(refine mvF ?_;conv=>whnf)|(refine cT (by rfl) ?_;conv=>whnf)|(refine cF (by rfl) ?_;conv=>whnf)))
      have hsl := fieldOK_text (hok2_.1 0 _ rfl)
      (refine mvB ?_;((conv=>whnf);repeat(first|(refine mvT ?_;conv=>whnf)|(refine mvF ?_;conv=>whnf)|(refine cT (by rfl) ?_;conv=>whnf)|(refine cF (by rfl) ?_;conv=>whnf))))
      refine VC.cutE (fun r => [(1, r), (0, .pointer (some ⟨p, 0, none⟩)), (5, .int .i16 v), (6, .bool fx), (8, .slice (some ⟨b1, o1, none⟩) l1.length k1), (56, .slice (some ⟨b1, o1, none⟩) l1.length k1), (57, .int .i64 l1.length), (58, .int .i64 i1), (10, .pointer (some ⟨b1, o1 + i1 * 5, none⟩)), (12, .slice (some ⟨b1_1, o1_1, none⟩) l1_1.length k1_1), (88, .slice (some ⟨b1_1, o1_1, none⟩) l1_1.length k1_1), (89, .int .i64 l1_1.length), (90, .int .i64 i2), (14, .pointer (some ⟨b1_1, o1_1 + i2 * 19, none⟩))]) (fun r w' => Apd w0 B x l (m6 ++ (txA fx (atT x2 0).s)) r w') ?_ ?_
      · refine cI (by rfl) (fun hc=>?_) (fun hc=>?_)
        · ((conv=>whnf);repeat(first|(refine mvT ?_;conv=>whnf)|(refine mvF ?_;conv=>whnf)|(refine cT (by rfl) ?_;conv=>whnf)|(refine cF (by rfl) ?_;conv=>whnf)))
          refine Does.mono (AppendCompactString_does hA.ob (Nat.le_trans hB hA.size) _ (by omega) (by simp only [List.length_append]; omega)) ?_;rintro r w h;((conv=>whnf);repeat(first|(refine mvT ?_;conv=>whnf)|(refine mvF ?_;conv=>whnf)|(refine cT (by rfl) ?_;conv=>whnf)|(refine cF (by rfl) ?_;conv=>whnf)))
          replace hA := hA.tr h
          clear h
          refine ⟨_, ⟨rfl, rfl, rfl, rfl, rfl, rfl, rfl, rfl, rfl, rfl, rfl, rfl, rfl, rfl, trivial⟩, ?_⟩
          rw [hc]
          exact hA
        · ((conv=>whnf);repeat(first|(refine mvT ?_;conv=>whnf)|(refine mvF ?_;conv=>whnf)|(refine cT (by rfl) ?_;conv=>whnf)|(refine cF (by rfl) ?_;conv=>whnf)))
          refine Does.mono (AppendString_does hA.ob (Nat.le_trans hB hA.size) _ (by simp only [List.length_append]; omega)) ?_;rintro r w h;((conv=>whnf);repeat(first|(refine mvT ?_;conv=>whnf)|(refine mvF ?_;conv=>whnf)|(refine cT (by rfl) ?_;conv=>whnf)|(refine cF (by rfl) ?_;conv=>whnf)))
          replace hA := hA.tr h
          clear h
          refine ⟨_, ⟨rfl, rfl, rfl, rfl, rfl, rfl, rfl, rfl, rfl, rfl, rfl, rfl, rfl, rfl, trivial⟩, ?_⟩
          rw [hc]
          exact hA
      clear hA
      rintro r w hA
      ((conv=>whnf);repeat(first|(refine mvT ?_;conv=>whnf)|(refine mvF ?_;conv=>whnf)|(refine cT (by rfl) ?_;conv=>whnf)|(refine cF (by rfl) ?_;conv=>whnf)))
      generalize hm7 : m6 ++ (txA fx (atT x2 0).s) = m7 at hA
      have hl7 : m7.length = m6.length + (txA fx (atT x2 0).s).length := by rw [← hm7, List.length_append]
      refine ⟨_, rfl, Cells.sub2 (hce1_1.ext hA.ext (hFx _ hb1_1 hF1_1)) 1 16 rfl (by simp <;> omega), ?_⟩; ((conv=>whnf);repeat(first|(refine mvT ?_;conv=>whnf)|(refine mvF ?_;conv=>whnf)|(refine cT (by rfl) ?_;conv=>whnf)|(refine cF (by rfl) ?_;conv=>whnf)))
      intro bu wu hbu hou hxu
      ((conv=>whnf);repeat(first|(refine mvT ?_;conv=>whnf)|(refine mvF ?_;conv=>whnf)|(refine cT (by rfl) ?_;conv=>whnf)|(refine cF (by rfl) ?_;conv=>whnf)))
      refine st_all [bcell u2_1_0, bcell u2_1_1, bcell u2_1_2, bcell u2_1_3, bcell u2_1_4, bcell u2_1_5, bcell u2_1_6, bcell u2_1_7, bcell u2_1_8, bcell u2_1_9, bcell u2_1_10, bcell u2_1_11, bcell u2_1_12, bcell u2_1_13, bcell u2_1_14, bcell u2_1_15] hou rfl rfl rfl ?_
      intro wv hov hxv
      ((conv=>whnf);repeat(first|(refine mvT ?_;conv=>whnf)|(refine mvF ?_;conv=>whnf)|(refine cT (by rfl) ?_;conv=>whnf)|(refine cF (by rfl) ?_;conv=>whnf)))
      replace hA := hA.e0 ((Ext.refl nob _).trans (hxu.trans hxv (M' := fun k => k = bu) fun k hk e => by omega) fun _ _ h => h)
      refine ⟨_, rfl, hov.cells, ?_⟩
      ((conv=>whnf);repeat(first|(refine mvT ?_;conv=>whnf)|(refine mvF ?_;conv=>whnf)|(refine cT (by rfl) ?_;conv=>whnf)|(refine cF (by rfl) ?_;conv=>whnf)))
      refine Does.mono (AppendUuid_does (s := [u2_1_0, u2_1_1, u2_1_2, u2_1_3, u2_1_4, u2_1_5, u2_1_6, u2_1_7, u2_1_8, u2_1_9, u2_1_10, u2_1_11, u2_1_12, u2_1_13, u2_1_14, u2_1_15]) hA.ob (Nat.le_trans hB hA.size) (by simp only [List.length_append, List.length_cons, List.length_nil]; omega)) ?_;rintro r w h;((conv=>whnf);repeat(first|(refine mvT ?_;conv=>whnf)|(refine mvF ?_;conv=>whnf)|(refine cT (by rfl) ?_;conv=>whnf)|(refine cF (by rfl) ?_;conv=>whnf)))
      replace hA := hA.tr h
      clear h
      rw [← hc2_1] at hA
      generalize hm8 : m7 ++ (uuidB (atT x2 1).s) = m8 at hA
      have hl8 : m8.length = m7.length + (uuidB (atT x2 1).s).length := by rw [← hm8, List.length_append]
      refine ⟨_, ld ((hce1_1.ext hA.ext (hFx _ hb1_1 hF1_1)).cell (j := 17) rfl) (by simp <;> omega), ?_⟩; ((conv=>whnf);repeat(first|(refine mvT ?_;conv=>whnf)|(refine mvF ?_;conv=>whnf)|(refine cT (by rfl) ?_;conv=>whnf)|(refine cF (by rfl) ?_;conv=>whnf)))
      have hml2_2 := lsT_len (hok2_.1 2 _ rfl)
      (refine mvB ?_;((conv=>whnf);repeat(first|(refine mvT ?_;conv=>whnf)|(refine mvF ?_;conv=>whnf)|(refine cT (by rfl) ?_;conv=>whnf)|(refine cF (by rfl) ?_;conv=>whnf))))
      refine VC.cutE (fun r => [(1, r), (0, .pointer (some ⟨p, 0, none⟩)), (5, .int .i16 v), (6, .bool fx), (8, .slice (some ⟨b1, o1, none⟩) l1.length k1), (56, .slice (some ⟨b1, o1, none⟩) l1.length k1), (57, .int .i64 l1.length), (58, .int .i64 i1), (10, .pointer (some ⟨b1, o1 + i1 * 5, none⟩)), (12, .slice (some ⟨b1_1, o1_1, none⟩) l1_1.length k1_1), (88, .slice (some ⟨b1_1, o1_1, none⟩) l1_1.length k1_1), (89, .int .i64 l1_1.length), (90, .int .i64 i2), (14, .pointer (some ⟨b1_1, o1_1 + i2 * 19, none⟩)), (17, .slice a2_2 l2_2.length k2_2)]) (fun r w' => Apd w0 B x l (m8 ++ (arA fx (lsT (atT x2 2)).length)) r w') ?_ ?_
      · refine cI (by rfl) (fun hc=>?_) (fun hc=>?_)
        · ((conv=>whnf);repeat(first|(refine mvT ?_;conv=>whnf)|(refine mvF ?_;conv=>whnf)|(refine cT (by rfl) ?_;conv=>whnf)|(refine cF (by rfl) ?_;conv=>whnf)))
          refine Does.mono (AppendCompactArrayLen_does hA.ob (Nat.le_trans hB hA.size) (by simp only [List.length_append]; omega) l2_2.length (by omega)) ?_;rintro r w h;((conv=>whnf);repeat(first|(refine mvT ?_;conv=>whnf)|(refine mvF ?_;conv=>whnf)|(refine cT (by rfl) ?_;conv=>whnf)|(refine cF (by rfl) ?_;conv=>whnf)))
          rw [hll2_2] at h
          replace hA := hA.tr h
          clear h
          refine ⟨_, ⟨rfl, rfl, rfl, rfl, rfl, rfl, rfl, rfl, rfl, rfl, rfl, rfl, rfl, rfl, rfl, trivial⟩, ?_⟩
          rw [hc]
          exact hA
        · ((conv=>whnf);repeat(first|(refine mvT ?_;conv=>whnf)|(refine mvF ?_;conv=>whnf)|(refine cT (by rfl) ?_;conv=>whnf)|(refine cF (by rfl) ?_;conv=>whnf)))
          refine Does.mono (AppendArrayLen_does hA.ob (Nat.le_trans hB hA.size) (by simp only [List.length_append]; omega) l2_2.length) ?_;rintro r w h;((conv=>whnf);repeat(first|(refine mvT ?_;conv=>whnf)|(refine mvF ?_;conv=>whnf)|(refine cT (by rfl) ?_;conv=>whnf)|(refine cF (by rfl) ?_;conv=>whnf)))
          rw [hll2_2] at h
          replace hA := hA.tr h
          clear h
          refine ⟨_, ⟨rfl, rfl, rfl, rfl, rfl, rfl, rfl, rfl, rfl, rfl, rfl, rfl, rfl, rfl, rfl, trivial⟩, ?_⟩
          rw [hc]
          exact hA
      clear hA
      rintro r w hA
      ((conv=>whnf);repeat(first|(refine mvT ?_;conv=>whnf)|(refine mvF ?_;conv=>whnf)|(refine cT (by rfl) ?_;conv=>whnf)|(refine cF (by rfl) ?_;conv=>whnf)))
      generalize hm9 : m8 ++ (arA fx (lsT (atT x2 2)).length) = m9 at hA
      have hl9 : m9.length = m8.length + (arA fx (lsT (atT x2 2)).length).length := by rw [← hm9, List.length_append]
      refine VL.loop (fun s : Nat × Value => [(1, s.2), (0, .pointer (some ⟨p, 0, none⟩)), (5, .int .i16 v), (6, .bool fx), (8, .slice (some ⟨b1, o1, none⟩) l1.length k1), (56, .slice (some ⟨b1, o1, none⟩) l1.length k1), (57, .int .i64 l1.length), (58, .int .i64 i1), (10, .pointer (some ⟨b1, o1 + i1 * 5, none⟩)), (12, .slice (some ⟨b1_1, o1_1, none⟩) l1_1.length k1_1), (88, .slice (some ⟨b1_1, o1_1, none⟩) l1_1.length k1_1), (89, .int .i64 l1_1.length), (90, .int .i64 i2), (14, .pointer (some ⟨b1_1, o1_1 + i2 * 19, none⟩)), (17, .slice a2_2 l2_2.length k2_2), (127, .slice a2_2 l2_2.length k2_2), (128, .int .i64 l2_2.length), (129, .int .i64 s.1)])
        (fun s w' => s.1 ≤ l2_2.length ∧ Apd w0 B x l (m9 ++ ((lsT (atT x2 2)).take s.1).flatMap (bDescribeShareGroupOffsetsResponseGroupTopicPartition v fx)) s.2 w') (fun s => l2_2.length - s.1) (0, r) ⟨rfl, rfl, rfl, rfl, rfl, rfl, rfl, rfl, rfl, rfl, rfl, rfl, rfl, rfl, rfl, rfl, rfl, rfl, trivial⟩ ⟨Nat.zero_le _, by rw [List.take_zero, List.flatMap_nil, List.append_nil]; exact hA⟩ ?_
      clear hA
      rintro ⟨i3, r⟩ w ⟨hi3, hA⟩
      dsimp only at hi3 hA
      ((conv=>whnf);repeat(first|(refine mvT ?_;conv=>whnf)|(refine mvF ?_;conv=>whnf)|(refine cT (by rfl) ?_;conv=>whnf)|(refine cF (by rfl) ?_;conv=>whnf)))
      refine cI (by rfl) (fun h9=>?_) (fun h9=>?_)
      · have hil : i3 < l2_2.length := by have := of_decide_eq_true h9; simp only at this; omega
        have hiL3 : i3 < (lsT (atT x2 2)).length := by omega
        obtain ⟨hft, hfl⟩ := flat_take (bDescribeShareGroupOffsetsResponseGroupTopicPartition v fx) (lsT (atT x2 2)) i3 hiL3
        obtain ⟨b2_2, o2_2, rfl, hF2_2, hb2_2, hce2_2⟩ := hcl2_2 i3 l2_2[i3] (by simp [hil])
        have hre2_2 := hrl2_2 i3 l2_2[i3] ((lsT (atT x2 2))[i3]) (by simp [hil]) (by simp [hiL3])
        have hlo2_2 := lsT_ok (hok2_.1 2 _ rfl) ((lsT (atT x2 2))[i3]) (List.getElem_mem hiL3)
        generalize hm10 : m9 ++ ((lsT (atT x2 2)).take i3).flatMap (bDescribeShareGroupOffsetsResponseGroupTopicPartition v fx) = m10 at hA
        have hl10 : m10.length = m9.length + (((lsT (atT x2 2)).take i3).flatMap (bDescribeShareGroupOffsetsResponseGroupTopicPartition v fx)).length := by rw [← hm10, List.length_append]
        obtain ⟨x3, hx3⟩ : ∃ y, y = (lsT (atT x2 2))[i3] := ⟨_, rfl⟩
        rw [← hx3] at hft hfl hre2_2 hlo2_2
        obtain ⟨c3_5, m3_, hcells, hc3_5, hm3_⟩ := hre2_2
        rw [hcells] at hce2_2
        have hok3_ := hlo2_2.2.2 rfl
        have hgl : (bDescribeShareGroupOffsetsResponseGroupTopicPartition v fx x3).length = (bDescribeShareGroupOffsetsResponseGroupTopicPartition v fx x3).length := rfl
        conv at hgl => rhs; unfold bDescribeShareGroupOffsetsResponseGroupTopicPartition
        simp only [List.length_append, List.length_nil] at hgl
        ((conv=>whnf);repeat(first|(refine mvT ?_;conv=>whnf)|(refine mvF ?_;conv=>whnf)|(refine cT (by rfl) ?_;conv=>whnf)|(refine cF (by rfl) ?_;conv=>whnf)))
        refine ⟨b2_2, o2_2, rfl, ⟨by omega, by omega⟩, ?_⟩
        ((conv=>whnf);repeat(first|(refine mvT ?_;conv=>whnf)|(refine mvF ?_;conv=>whnf)|(refine cT (by rfl) ?_;conv=>whnf)|(refine cF (by rfl) ?_;conv=>whnf)))
        refine ⟨_, ld ((hce2_2.ext hA.ext (hFx _ hb2_2 hF2_2)).cell (j := 0) rfl) (by simp <;> omega), ?_⟩; ((conv=>whnf);repeat(first|(refine mvT ?_;conv=>whnf)|(refine mvF ?_;conv=>whnf)|(refine cT (by rfl) ?_;conv=>whnf)|(refine cF (by rfl) ?_;conv=>whnf)))
        refine Does.mono (AppendInt32_does hA.ob (Nat.le_trans hB hA.size) (by simp only [List.length_append]; omega) _) ?_;rintro r w h;((conv=>whnf);repeat(first|(refine mvT ?_;conv=>whnf)|(refine mvF ?_;conv=>whnf)|(refine cT (by rfl) ?_;conv=>whnf)|(refine cF (by rfl) ?_;conv=>whnf)))
        rw [fixed4_mod (wrap_i32m _)] at h
        replace hA := hA.tr h
        clear h
        generalize hm11 : m10 ++ (fixed (atT x3 0).n 4) = m11 at hA
        have hl11 : m11.length = m10.length + (fixed (atT x3 0).n 4).length := by rw [← hm11, List.length_append]
        refine ⟨_, ld ((hce2_2.ext hA.ext (hFx _ hb2_2 hF2_2)).cell (j := 1) rfl) (by simp <;> omega), ?_⟩; ((conv=>whnf);repeat(first|(refine mvT ?_;conv=>whnf)|(refine mvF ?_;conv=>whnf)|(refine cT (by rfl) ?_;conv=>whnf)|(refine cF (by rfl) ?_;conv=>whnf)))
        refine Does.mono (AppendInt64_does hA.ob (Nat.le_trans hB hA.size) (by simp only [List.length_append]; omega) _) ?_;rintro r w h;((conv=>whnf);repeat(first|(refine mvT ?_;conv=>whnf)|(refine mvF ?_;conv=>whnf)|(refine cT (by rfl) ?_;conv=>whnf)|(refine cF (by rfl) ?_;conv=>whnf)))
        replace hA := hA.tr h
        clear h
        generalize hm12 : m11 ++ (fixed (atT x3 1).n 8) = m12 at hA
        have hl12 : m12.length = m11.length + (fixed (atT x3 1).n 8).length := by rw [← hm12, List.length_append]
        refine ⟨_, ld ((hce2_2.ext hA.ext (hFx _ hb2_2 hF2_2)).cell (j := 2) rfl) (by simp <;> omega), ?_⟩; ((conv=>whnf);repeat(first|(refine mvT ?_;conv=>whnf)|(refine mvF ?_;conv=>whnf)|(refine cT (by rfl) ?_;conv=>whnf)|(refine cF (by rfl) ?_;conv=>whnf)))
        refine Does.mono (AppendInt32_does hA.ob (Nat.le_trans hB hA.size) (by simp only [List.length_append]; omega) _) ?_;rintro r w h;((conv=>whnf);repeat(first|(refine mvT ?_;conv=>whnf)|(refine mvF ?_;conv=>whnf)|(refine cT (by rfl) ?_;conv=>whnf)|(refine cF (by rfl) ?_;conv=>whnf)))
        rw [fixed4_mod (wrap_i32m _)] at h
        replace hA := hA.tr h
        clear h
        generalize hm13 : m12 ++ (fixed (atT x3 2).n 4) = m13 at hA
        have hl13 : m13.length = m12.length + (fixed (atT x3 2).n 4).length := by rw [← hm13, List.length_append]
        refine VC.cutE (fun r => [(1, r), (0, .pointer (some ⟨p, 0, none⟩)), (5, .int .i16 v), (6, .bool fx), (8, .slice (some ⟨b1, o1, none⟩) l1.length k1), (56, .slice (some ⟨b1, o1, none⟩) l1.length k1), (57, .int .i64 l1.length), (58, .int .i64 i1), (10, .pointer (some ⟨b1, o1 + i1 * 5, none⟩)), (12, .slice (some ⟨b1_1, o1_1, none⟩) l1_1.length k1_1), (88, .slice (some ⟨b1_1, o1_1, none⟩) l1_1.length k1_1), (89, .int .i64 l1_1.length), (90, .int .i64 i2), (14, .pointer (some ⟨b1_1, o1_1 + i2 * 19, none⟩)), (17, .slice (some ⟨b2_2, o2_2, none⟩) l2_2.length k2_2), (127, .slice (some ⟨b2_2, o2_2, none⟩) l2_2.length k2_2), (128, .int .i64 l2_2.length), (129, .int .i64 i3), (19, .pointer (some ⟨b2_2, o2_2 + i3 * 7, none⟩))]) (fun r w' => Apd w0 B x l (m13 ++ ((if (decide (1 ≤ v) && (decide ((-1 : Int) < 0) || decide (v ≤ (-1)))) = true then fixed (atT x3 3).n 8 else []))) r w') ?_ ?_
        · refine cI (by rfl) (fun hcv=>?_) (fun hcv=>?_)
          · ((conv=>whnf);repeat(first|(refine mvT ?_;conv=>whnf)|(refine mvF ?_;conv=>whnf)|(refine cT (by rfl) ?_;conv=>whnf)|(refine cF (by rfl) ?_;conv=>whnf)))
            refine ⟨_, ld ((hce2_2.ext hA.ext (hFx _ hb2_2 hF2_2)).cell (j := 3) rfl) (by simp <;> omega), ?_⟩; ((conv=>whnf);repeat(first|(refine mvT ?_;conv=>whnf)|(refine mvF ?_;conv=>whnf)|(refine cT (by rfl) ?_;conv=>whnf)|(refine cF (by rfl) ?_;conv=>whnf)))
            refine Does.mono (AppendInt64_does hA.ob (Nat.le_trans hB hA.size) (by simp only [List.length_append]; omega) _) ?_;rintro r w h;((conv=>whnf);repeat(first|(refine mvT ?_;conv=>whnf)|(refine mvF ?_;conv=>whnf)|(refine cT (by rfl) ?_;conv=>whnf)|(refine cF (by rfl) ?_;conv=>whnf)))
            replace hA := hA.tr h
            clear h
            generalize hm14 : m13 ++ (fixed (atT x3 3).n 8) = m14 at hA
            have hl14 : m14.length = m13.length + (fixed (atT x3 3).n 8).length := by rw [← hm14, List.length_append]
            refine ⟨_, ⟨rfl, rfl, rfl, rfl, rfl, rfl, rfl, rfl, rfl, rfl, rfl, rfl, rfl, rfl, rfl, rfl, rfl, rfl, rfl, trivial⟩, ?_⟩
            rw [if_pos (by simp only [ge_iff_le, decide_eq_true_eq] at hcv; simp; omega)]
            rw [hm14]
            exact hA
          · ((conv=>whnf);repeat(first|(refine mvT ?_;conv=>whnf)|(refine mvF ?_;conv=>whnf)|(refine cT (by rfl) ?_;conv=>whnf)|(refine cF (by rfl) ?_;conv=>whnf)))
            refine ⟨_, ⟨rfl, rfl, rfl, rfl, rfl, rfl, rfl, rfl, rfl, rfl, rfl, rfl, rfl, rfl, rfl, rfl, rfl, rfl, rfl, trivial⟩, ?_⟩
            rw [if_neg (by simp only [ge_iff_le, decide_eq_false_iff_not] at hcv; simp; omega), List.append_nil]
            exact hA
        clear hA
        rintro r w hA
        ((conv=>whnf);repeat(first|(refine mvT ?_;conv=>whnf)|(refine mvF ?_;conv=>whnf)|(refine cT (by rfl) ?_;conv=>whnf)|(refine cF (by rfl) ?_;conv=>whnf)))
        generalize hm14 : m13 ++ ((if (decide (1 ≤ v) && (decide ((-1 : Int) < 0) || decide (v ≤ (-1)))) = true then fixed (atT x3 3).n 8 else [])) = m14 at hA
        have hl14 : m14.length = m13.length + ((if (decide (1 ≤ v) && (decide ((-1 : Int) < 0) || decide (v ≤ (-1)))) = true then fixed (atT x3 3).n 8 else [])).length := by rw [← hm14, List.length_append]
        refine ⟨_, ld ((hce2_2.ext hA.ext (hFx _ hb2_2 hF2_2)).cell (j := 4) rfl) (by simp <;> omega), ?_⟩; ((conv=>whnf);repeat(first|(refine mvT ?_;conv=>whnf)|(refine mvF ?_;conv=>whnf)|(refine cT (by rfl) ?_;conv=>whnf)|(refine cF (by rfl) ?_;conv=>whnf)))
        refine Does.mono (AppendInt16_does hA.ob (Nat.le_trans hB hA.size) (by simp only [List.length_append]; omega) _) ?_;rintro r w h;((conv=>whnf);repeat(first|(refine mvT ?_;conv=>whnf)|(refine mvF ?_;conv=>whnf)|(refine cT (by rfl) ?_;conv=>whnf)|(refine cF (by rfl) ?_;conv=>whnf)))
        rw [fixed2_mod (wrap_i16m _)] at h
        replace hA := hA.tr h
        clear h
        generalize hm15 : m14 ++ (fixed (atT x3 4).n 2) = m15 at hA
        have hl15 : m15.length = m14.length + (fixed (atT x3 4).n 2).length := by rw [← hm15, List.length_append]
        refine ⟨_, ld ((hce2_2.ext hA.ext (hFx _ hb2_2 hF2_2)).cell (j := 5) rfl) (by simp <;> omega), ?_⟩; ((conv=>whnf);repeat(first|(refine mvT ?_;conv=>whnf)|(refine mvF ?_;conv=>whnf)|(refine cT (by rfl) ?_;conv=>whnf)|(refine cF (by rfl) ?_;conv=>whnf)))
        have hsl := fieldOK_text (hok3_.1 5 _ rfl)
        (refine mvB ?_;((conv=>whnf);repeat(first|(refine mvT ?_;conv=>whnf)|(refine mvF ?_;conv=>whnf)|(refine cT (by rfl) ?_;conv=>whnf)|(refine cF (by rfl) ?_;conv=>whnf))))
        refine VC.cutE (fun r => [(1, r), (0, .pointer (some ⟨p, 0, none⟩)), (5, .int .i16 v), (6, .bool fx), (8, .slice (some ⟨b1, o1, none⟩) l1.length k1), (56, .slice (some ⟨b1, o1, none⟩) l1.length k1), (57, .int .i64 l1.length), (58, .int .i64 i1), (10, .pointer (some ⟨b1, o1 + i1 * 5, none⟩)), (12, .slice (some ⟨b1_1, o1_1, none⟩) l1_1.length k1_1), (88, .slice (some ⟨b1_1, o1_1, none⟩) l1_1.length k1_1), (89, .int .i64 l1_1.length), (90, .int .i64 i2), (14, .pointer (some ⟨b1_1, o1_1 + i2 * 19, none⟩)), (17, .slice (some ⟨b2_2, o2_2, none⟩) l2_2.length k2_2), (127, .slice (some ⟨b2_2, o2_2, none⟩) l2_2.length k2_2), (128, .int .i64 l2_2.length), (129, .int .i64 i3), (19, .pointer (some ⟨b2_2, o2_2 + i3 * 7, none⟩))]) (fun r w' => Apd w0 B x l (m15 ++ (ntA fx (atT x3 5).nl (atT x3 5).s)) r w') ?_ ?_
        · refine cI (by rfl) (fun hc=>?_) (fun hc=>?_)
          · ((conv=>whnf);repeat(first|(refine mvT ?_;conv=>whnf)|(refine mvF ?_;conv=>whnf)|(refine cT (by rfl) ?_;conv=>whnf)|(refine cF (by rfl) ?_;conv=>whnf)))
            refine Does.mono (AppendCompactNullableString_R hA.ob (Nat.le_trans hB hA.size) (hc3_5.ext hA.ext hFx) hsl (by simp only [List.length_append]; omega)) ?_;rintro r w h;((conv=>whnf);repeat(first|(refine mvT ?_;conv=>whnf)|(refine mvF ?_;conv=>whnf)|(refine cT (by rfl) ?_;conv=>whnf)|(refine cF (by rfl) ?_;conv=>whnf)))
            replace hA := hA.tr h
            clear h
            refine ⟨_, ⟨rfl, rfl, rfl, rfl, rfl, rfl, rfl, rfl, rfl, rfl, rfl, rfl, rfl, rfl, rfl, rfl, rfl, rfl, rfl, trivial⟩, ?_⟩
            rw [hc]
            exact hA
          · ((conv=>whnf);repeat(first|(refine mvT ?_;conv=>whnf)|(refine mvF ?_;conv=>whnf)|(refine cT (by rfl) ?_;conv=>whnf)|(refine cF (by rfl) ?_;conv=>whnf)))
            refine Does.mono (AppendNullableString_R hA.ob (Nat.le_trans hB hA.size) (hc3_5.ext hA.ext hFx) (by simp only [List.length_append]; omega)) ?_;rintro r w h;((conv=>whnf);repeat(first|(refine mvT ?_;conv=>whnf)|(refine mvF ?_;conv=>whnf)|(refine cT (by rfl) ?_;conv=>whnf)|(refine cF (by rfl) ?_;conv=>whnf)))
            replace hA := hA.tr h
            clear h
            refine ⟨_, ⟨rfl, rfl, rfl, rfl, rfl, rfl, rfl, rfl, rfl, rfl, rfl, rfl, rfl, rfl, rfl, rfl, rfl, rfl, rfl, trivial⟩, ?_⟩
            rw [hc]
            exact hA
        clear hA
        rintro r w hA
        ((conv=>whnf);repeat(first|(refine mvT ?_;conv=>whnf)|(refine mvF ?_;conv=>whnf)|(refine cT (by rfl) ?_;conv=>whnf)|(refine cF (by rfl) ?_;conv=>whnf)))
        generalize hm16 : m15 ++ (ntA fx (atT x3 5).nl (atT x3 5).s) = m16 at hA
        have hl16 : m16.length = m15.length + (ntA fx (atT x3 5).nl (atT x3 5).s).length := by rw [← hm16, List.length_append]
        (refine mvB ?_;((conv=>whnf);repeat(first|(refine mvT ?_;conv=>whnf)|(refine mvF ?_;conv=>whnf)|(refine cT (by rfl) ?_;conv=>whnf)|(refine cF (by rfl) ?_;conv=>whnf))))
        refine VC.cutB (fun r => [(1, r), (0, .pointer (some ⟨p, 0, none⟩)), (5, .int .i16 v), (6, .bool fx), (8, .slice (some ⟨b1, o1, none⟩) l1.length k1), (56, .slice (some ⟨b1, o1, none⟩) l1.length k1), (57, .int .i64 l1.length), (58, .int .i64 i1), (10, .pointer (some ⟨b1, o1 + i1 * 5, none⟩)), (12, .slice (some ⟨b1_1, o1_1, none⟩) l1_1.length k1_1), (88, .slice (some ⟨b1_1, o1_1, none⟩) l1_1.length k1_1), (89, .int .i64 l1_1.length), (90, .int .i64 i2), (14, .pointer (some ⟨b1_1, o1_1 + i2 * 19, none⟩)), (17, .slice (some ⟨b2_2, o2_2, none⟩) l2_2.length k2_2), (127, .slice (some ⟨b2_2, o2_2, none⟩) l2_2.length k2_2), (128, .int .i64 l2_2.length), (129, .int .i64 i3), (19, .pointer (some ⟨b2_2, o2_2 + i3 * 7, none⟩))]) (fun r w' => Apd w0 B x l (m16 ++ (tgsB fx (x3).u)) r w') ?_ ?_
        · refine cI (by rfl) (fun hc=>?_) (fun hc=>?_)
          · ((conv=>whnf);repeat(first|(refine mvT ?_;conv=>whnf)|(refine mvF ?_;conv=>whnf)|(refine cT (by rfl) ?_;conv=>whnf)|(refine cF (by rfl) ?_;conv=>whnf)))
            have hul := hok3_.2.len
            refine Does.mono (Tags_Len_does (ld ((hce2_2.ext hA.ext (hFx _ hb2_2 hF2_2)).cell (j := 6) rfl) (by simp <;> omega)) (hm3_.ext hA.ext hFx)) ?_;rintro r w ⟨rfl, rfl⟩;((conv=>whnf);repeat(first|(refine mvT ?_;conv=>whnf)|(refine mvF ?_;conv=>whnf)|(refine cT (by rfl) ?_;conv=>whnf)|(refine cF (by rfl) ?_;conv=>whnf)))
            rw [u32_add0 (by omega)]
            refine Does.mono (AppendUvarint_does hA.ob (Nat.le_trans hB hA.size) (x3).u.length (by omega) (by simp only [List.length_append]; omega)) ?_;rintro r w h;((conv=>whnf);repeat(first|(refine mvT ?_;conv=>whnf)|(refine mvF ?_;conv=>whnf)|(refine cT (by rfl) ?_;conv=>whnf)|(refine cF (by rfl) ?_;conv=>whnf)))
            have hul2 := uvar10 (n := (x3).u.length) (by omega)
            replace hA := hA.tr h
            clear h
            refine Does.mono (AppendEach_does (ld ((hce2_2.ext hA.ext (hFx _ hb2_2 hF2_2)).cell (j := 6) rfl) (by simp <;> omega)) (hm3_.ext hA.ext hFx) hok3_.2 hA.ob (Nat.le_trans hB hA.size) (hA.ne (hFR _ hF2_2).2 (hFR _ hF2_2).1) (fun j _ hf => hA.ne (hFR j hf).2 (hFR j hf).1) (by simp only [List.length_append]; omega)) ?_;rintro r w h;((conv=>whnf);repeat(first|(refine mvT ?_;conv=>whnf)|(refine mvF ?_;conv=>whnf)|(refine cT (by rfl) ?_;conv=>whnf)|(refine cF (by rfl) ?_;conv=>whnf)))
            replace hA := hA.tr h
            clear h
            refine ⟨_, ⟨rfl, rfl, rfl, rfl, rfl, rfl, rfl, rfl, rfl, rfl, rfl, rfl, rfl, rfl, rfl, rfl, rfl, rfl, rfl, trivial⟩, ?_⟩
            rw [tgsB, if_pos hc, ← List.append_assoc]
            exact hA
          · ((conv=>whnf);repeat(first|(refine mvT ?_;conv=>whnf)|(refine mvF ?_;conv=>whnf)|(refine cT (by rfl) ?_;conv=>whnf)|(refine cF (by rfl) ?_;conv=>whnf)))
            refine ⟨_, ⟨rfl, rfl, rfl, rfl, rfl, rfl, rfl, rfl, rfl, rfl, rfl, rfl, rfl, rfl, rfl, rfl, rfl, rfl, rfl, trivial⟩, ?_⟩
            rw [tgsB, if_neg (by rw [hc]; decide), List.append_nil]
            exact hA
        clear hA
        rintro r w hA
        ((conv=>whnf);repeat(first|(refine mvT ?_;conv=>whnf)|(refine mvF ?_;conv=>whnf)|(refine cT (by rfl) ?_;conv=>whnf)|(refine cF (by rfl) ?_;conv=>whnf)))
        generalize hm17 : m16 ++ (tgsB fx (x3).u) = m17 at hA
        have hl17 : m17.length = m16.length + (tgsB fx (x3).u).length := by rw [← hm17, List.length_append]
        have hfin : m10 ++ (bDescribeShareGroupOffsetsResponseGroupTopicPartition v fx) x3 = m17 := by unfold bDescribeShareGroupOffsetsResponseGroupTopicPartition; simp only [← hm17, ← hm16, ← hm15, ← hm14, ← hm13, ← hm12, ← hm11, List.append_assoc, List.nil_append, List.append_nil]
        refine ⟨(i3 + 1, r), ⟨rfl, rfl, rfl, rfl, rfl, rfl, rfl, rfl, rfl, rfl, rfl, rfl, rfl, rfl, rfl, rfl, rfl, inc_eq (by rw [maxLen_eq] at hkm2_2; omega), trivial⟩, ⟨by simp only; omega, ?_⟩, by simp only; omega⟩
        rw [hft, ← List.append_assoc, hm10, hfin]
        exact hA
      have hil : i3 = l2_2.length := by have := of_decide_eq_false h9; simp only at this; omega
      ((conv=>whnf);repeat(first|(refine mvT ?_;conv=>whnf)|(refine mvF ?_;conv=>whnf)|(refine cT (by rfl) ?_;conv=>whnf)|(refine cF (by rfl) ?_;conv=>whnf)))
      rw [hil, hll2_2, List.take_length] at hA
      generalize hm10 : m9 ++ ((lsT (atT x2 2)).flatMap (bDescribeShareGroupOffsetsResponseGroupTopicPartition v fx)) = m10 at hA
      have hl10 : m10.length = m9.length + ((lsT (atT x2 2)).flatMap (bDescribeShareGroupOffsetsResponseGroupTopicPartition v fx)).length := by rw [← hm10, List.length_append]
      (refine mvB ?_;((conv=>whnf);repeat(first|(refine mvT ?_;conv=>whnf)|(refine mvF ?_;conv=>whnf)|(refine cT (by rfl) ?_;conv=>whnf)|(refine cF (by rfl) ?_;conv=>whnf))))
      refine VC.cutB (fun r => [(1, r), (0, .pointer (some ⟨p, 0, none⟩)), (5, .int .i16 v), (6, .bool fx), (8, .slice (some ⟨b1, o1, none⟩) l1.length k1), (56, .slice (some ⟨b1, o1, none⟩) l1.length k1), (57, .int .i64 l1.length), (58, .int .i64 i1), (10, .pointer (some ⟨b1, o1 + i1 * 5, none⟩)), (12, .slice (some ⟨b1_1, o1_1, none⟩) l1_1.length k1_1), (88, .slice (some ⟨b1_1, o1_1, none⟩) l1_1.length k1_1), (89, .int .i64 l1_1.length), (90, .int .i64 i2), (14, .pointer (some ⟨b1_1, o1_1 + i2 * 19, none⟩))]) (fun r w' => Apd w0 B x l (m10 ++ (tgsB fx (x2).u)) r w') ?_ ?_
      · refine cI (by rfl) (fun hc=>?_) (fun hc=>?_)
        · ((conv=>whnf);repeat(first|(refine mvT ?_;conv=>whnf)|(refine mvF ?_;conv=>whnf)|(refine cT (by rfl) ?_;conv=>whnf)|(refine cF (by rfl) ?_;conv=>whnf)))
          have hul := hok2_.2.len
          refine Does.mono (Tags_Len_does (ld ((hce1_1.ext hA.ext (hFx _ hb1_1 hF1_1)).cell (j := 18) rfl) (by simp <;> omega)) (hm2_.ext hA.ext hFx)) ?_;rintro r w ⟨rfl, rfl⟩;((conv=>whnf);repeat(first|(refine mvT ?_;conv=>whnf)|(refine mvF ?_;conv=>whnf)|(refine cT (by rfl) ?_;conv=>whnf)|(refine cF (by rfl) ?_;conv=>whnf)))
          rw [u32_add0 (by omega)]
          refine Does.mono (AppendUvarint_does hA.ob (Nat.le_trans hB hA.size) (x2).u.length (by omega) (by simp only [List.length_append]; omega)) ?_;rintro r w h;((conv=>whnf);repeat(first|(refine mvT ?_;conv=>whnf)|(refine mvF ?_;conv=>whnf)|(refine cT (by rfl) ?_;conv=>whnf)|(refine cF (by rfl) ?_;conv=>whnf)))
          have hul2 := uvar10 (n := (x2).u.length) (by omega)
          replace hA := hA.tr h
          clear h
          refine Does.mono (AppendEach_does (ld ((hce1_1.ext hA.ext (hFx _ hb1_1 hF1_1)).cell (j := 18) rfl) (by simp <;> omega)) (hm2_.ext hA.ext hFx) hok2_.2 hA.ob (Nat.le_trans hB hA.size) (hA.ne (hFR _ hF1_1).2 (hFR _ hF1_1).1) (fun j _ hf => hA.ne (hFR j hf).2 (hFR j hf).1) (by simp only [List.length_append]; omega)) ?_;rintro r w h;((conv=>whnf);repeat(first|(refine mvT ?_;conv=>whnf)|(refine mvF ?_;conv=>whnf)|(refine cT (by rfl) ?_;conv=>whnf)|(refine cF (by rfl) ?_;conv=>whnf)))
          replace hA := hA.tr h
          clear h
          refine ⟨_, ⟨rfl, rfl, rfl, rfl, rfl, rfl, rfl, rfl, rfl, rfl, rfl, rfl, rfl, rfl, trivial⟩, ?_⟩
          rw [tgsB, if_pos hc, ← List.append_assoc]
          exact hA
        · ((conv=>whnf);repeat(first|(refine mvT ?_;conv=>whnf)|(refine mvF ?_;conv=>whnf)|(refine cT (by rfl) ?_;conv=>whnf)|(refine cF (by rfl) ?_;conv=>whnf)))
          refine ⟨_, ⟨rfl, rfl, rfl, rfl, rfl, rfl, rfl, rfl, rfl, rfl, rfl, rfl, rfl, rfl, trivial⟩, ?_⟩
          rw [tgsB, if_neg (by rw [hc]; decide), List.append_nil]
          exact hA
      clear hA
      rintro r w hA
      ((conv=>whnf);repeat(first|(refine mvT ?_;conv=>whnf)|(refine mvF ?_;conv=>whnf)|(refine cT (by rfl) ?_;conv=>whnf)|(refine cF (by rfl) ?_;conv=>whnf)))
      generalize hm11 : m10 ++ (tgsB fx (x2).u) = m11 at hA
      have hl11 : m11.length = m10.length + (tgsB fx (x2).u).length := by rw [← hm11, List.length_append]
      have hfin : m6 ++ (bDescribeShareGroupOffsetsResponseGroupTopic v fx) x2 = m11 := by unfold bDescribeShareGroupOffsetsResponseGroupTopic; simp only [← hm11, ← hm10, ← hm9, ← hm8, ← hm7, List.append_assoc, List.nil_append, List.append_nil]
      refine ⟨(i2 + 1, r), ⟨rfl, rfl, rfl, rfl, rfl, rfl, rfl, rfl, rfl, rfl, rfl, rfl, inc_eq (by rw [maxLen_eq] at hkm1_1; omega), trivial⟩, ⟨by simp only; omega, ?_⟩, by simp only; omega⟩
      rw [hft, ← List.append_assoc, hm6, hfin]
      exact hA
    have hil : i2 = l1_1.length := by have := of_decide_eq_false h9; simp only at this; omega
    ((conv=>whnf);repeat(first|(refine mvT ?_;conv=>whnf)|(refine mvF ?_;conv=>whnf)|(refine cT (by rfl) ?_;conv=>whnf)|(refine cF (by rfl) ?_;conv=>whnf)))
    rw [hil, hll1_1, List.take_length] at hA
    generalize hm6 : m5 ++ ((lsT (atT x1 1)).flatMap (bDescribeShareGroupOffsetsResponseGroupTopic v fx)) = m6 at hA
    have hl6 : m6.length = m5.length + ((lsT (atT x1 1)).flatMap (bDescribeShareGroupOffsetsResponseGroupTopic v fx)).length := by rw [← hm6, List.length_append]
    refine ⟨_, ld ((hce1.ext hA.ext (hFx _ hb1 hF1)).cell (j := 2) rfl) (by simp <;> omega), ?_⟩; ((conv=>whnf);repeat(first|(refine mvT ?_;conv=>whnf)|(refine mvF ?_;conv=>whnf)|(refine cT (by rfl) ?_;conv=>whnf)|(refine cF (by rfl) ?_;conv=>whnf)))
    refine Does.mono (AppendInt16_does hA.ob (Nat.le_trans hB hA.size) (by simp only [List.length_append]; omega) _) ?_;rintro r w h;((conv=>whnf);repeat(first|(refine mvT ?_;conv=>whnf)|(refine mvF ?_;conv=>whnf)|(refine cT (by rfl) ?_;conv=>whnf)|(refine cF (by rfl) ?_;conv=>whnf)))
    rw [fixed2_mod (wrap_i16m _)] at h
    replace hA := hA.tr h
    clear h
    generalize hm7 : m6 ++ (fixed (atT x1 2).n 2) = m7 at hA
    have hl7 : m7.length = m6.length + (fixed (atT x1 2).n 2).length := by rw [← hm7, List.length_append]
    refine ⟨_, ld ((hce1.ext hA.ext (hFx _ hb1 hF1)).cell (j := 3) rfl) (by simp <;> omega), ?_⟩; ((conv=>whnf);repeat(first|(refine mvT ?_;conv=>whnf)|(refine mvF ?_;conv=>whnf)|(refine cT (by rfl) ?_;conv=>whnf)|(refine cF (by rfl) ?_;conv=>whnf)))
    have hsl := fieldOK_text (hok1_.1 3 _ rfl)
    (refine mvB ?_;((conv=>whnf);repeat(first|(refine mvT ?_;conv=>whnf)|(refine mvF ?_;conv=>whnf)|(refine cT (by rfl) ?_;conv=>whnf)|(refine cF (by rfl) ?_;conv=>whnf))))
    refine VC.cutE (fun r => [(1, r), (0, .pointer (some ⟨p, 0, none⟩)), (5, .int .i16 v), (6, .bool fx), (8, .slice (some ⟨b1, o1, none⟩) l1.length k1), (56, .slice (some ⟨b1, o1, none⟩) l1.length k1), (57, .int .i64 l1.length), (58, .int .i64 i1), (10, .pointer (some ⟨b1, o1 + i1 * 5, none⟩))]) (fun r w' => Apd w0 B x l (m7 ++ (ntA fx (atT x1 3).nl (atT x1 3).s)) r w') ?_ ?_
    · refine cI (by rfl) (fun hc=>?_) (fun hc=>?_)
      · ((conv=>whnf);repeat(first|(refine mvT ?_;conv=>whnf)|(refine mvF ?_;conv=>whnf)|(refine cT (by rfl) ?_;conv=>whnf)|(refine cF (by rfl) ?_;conv=>whnf)))
        refine Does.mono (AppendCompactNullableString_R hA.ob (Nat.le_trans hB hA.size) (hc1_3.ext hA.ext hFx) hsl (by simp only [List.length_append]; omega)) ?_;rintro r w h;((conv=>whnf);repeat(first|(refine mvT ?_;conv=>whnf)|(refine mvF ?_;conv=>whnf)|(refine cT (by rfl) ?_;conv=>whnf)|(refine cF (by rfl) ?_;conv=>whnf)))
        replace hA := hA.tr h
        clear h
        refine ⟨_, ⟨rfl, rfl, rfl, rfl, rfl, rfl, rfl, rfl, rfl, trivial⟩, ?_⟩
        rw [hc]
        exact hA
      · ((conv=>whnf);repeat(first|(refine mvT ?_;conv=>whnf)|(refine mvF ?_;conv=>whnf)|(refine cT (by rfl) ?_;conv=>whnf)|(refine cF (by rfl) ?_;conv=>whnf)))
        refine Does.mono (AppendNullableString_R hA.ob (Nat.le_trans hB hA.size) (hc1_3.ext hA.ext hFx) (by simp only [List.length_append]; omega)) ?_;rintro r w h;((conv=>whnf);repeat(first|(refine mvT ?_;conv=>whnf)|(refine mvF ?_;conv=>whnf)|(refine cT (by rfl) ?_;conv=>whnf)|(refine cF (by rfl) ?_;conv=>whnf)))
        replace hA := hA.tr h
        clear h
        refine ⟨_, ⟨rfl, rfl, rfl, rfl, rfl, rfl, rfl, rfl, rfl, trivial⟩, ?_⟩
        rw [hc]
        exact hA
    clear hA
    rintro r w hA
    ((conv=>whnf);repeat(first|(refine mvT ?_;conv=>whnf)|(refine mvF ?_;conv=>whnf)|(refine cT (by rfl) ?_;conv=>whnf)|(refine cF (by rfl) ?_;conv=>whnf)))
    generalize hm8 : m7 ++ (ntA fx (atT x1 3).nl (atT x1 3).s) = m8 at hA
    have hl8 : m8.length = m7.length + (ntA fx (atT x1 3).nl (atT x1 3).s).length := by rw [← hm8, List.length_append]
    (refine mvB ?_;((conv=>whnf);repeat(first|(refine mvT ?_;conv=>whnf)|(refine mvF ?_;conv=>whnf)|(refine cT (by rfl) ?_;conv=>whnf)|(refine cF (by rfl) ?_;conv=>whnf))))
    refine VC.cutB (fun r => [(1, r), (0, .pointer (some ⟨p, 0, none⟩)), (5, .int .i16 v), (6, .bool fx), (8, .slice (some ⟨b1, o1, none⟩) l1.length k1), (56, .slice (some ⟨b1, o1, none⟩) l1.length k1), (57, .int .i64 l1.length), (58, .int .i64 i1), (10, .pointer (some ⟨b1, o1 + i1 * 5, none⟩))]) (fun r w' => Apd w0 B x l (m8 ++ (tgsB fx (x1).u)) r w') ?_ ?_
    · refine cI (by rfl) (fun hc=>?_) (fun hc=>?_)
      · ((conv=>whnf);repeat(first|(refine mvT ?_;conv=>whnf)|(refine mvF ?_;conv=>whnf)|(refine cT (by rfl) ?_;conv=>whnf)|(refine cF (by rfl) ?_;conv=>whnf)))
        have hul := hok1_.2.len
        refine Does.mono (Tags_Len_does (ld ((hce1.ext hA.ext (hFx _ hb1 hF1)).cell (j := 4) rfl) (by simp <;> omega)) (hm1_.ext hA.ext hFx)) ?_;rintro r w ⟨rfl, rfl⟩;((conv=>whnf);repeat(first|(refine mvT ?_;conv=>whnf)|(refine mvF ?_;conv=>whnf)|(refine cT (by rfl) ?_;conv=>whnf)|(refine cF (by rfl) ?_;conv=>whnf)))
        rw [u32_add0 (by omega)]
        refine Does.mono (AppendUvarint_does hA.ob (Nat.le_trans hB hA.size) (x1).u.length (by omega) (by simp only [List.length_append]; omega)) ?_;rintro r w h;((conv=>whnf);repeat(first|(refine mvT ?_;conv=>whnf)|(refine mvF ?_;conv=>whnf)|(refine cT (by rfl) ?_;conv=>whnf)|(refine cF (by rfl) ?_;conv=>whnf)))
        have hul2 := uvar10 (n := (x1).u.length) (by omega)
        replace hA := hA.tr h
        clear h
        refine Does.mono (AppendEach_does (ld ((hce1.ext hA.ext (hFx _ hb1 hF1)).cell (j := 4) rfl) (by simp <;> omega)) (hm1_.ext hA.ext hFx) hok1_.2 hA.ob (Nat.le_trans hB hA.size) (hA.ne (hFR _ hF1).2 (hFR _ hF1).1) (fun j _ hf => hA.ne (hFR j hf).2 (hFR j hf).1) (by simp only [List.length_append]; omega)) ?_;rintro r w h;((conv=>whnf);repeat(first|(refine mvT ?_;conv=>whnf)|(refine mvF ?_;conv=>whnf)|(refine cT (by rfl) ?_;conv=>whnf)|(refine cF (by rfl) ?_;conv=>whnf)))
        replace hA := hA.tr h
        clear h
        refine ⟨_, ⟨rfl, rfl, rfl, rfl, rfl, rfl, rfl, rfl, rfl, trivial⟩, ?_⟩
        rw [tgsB, if_pos hc, ← List.append_assoc]
        exact hA
      · ((conv=>whnf);repeat(first|(refine mvT ?_;conv=>whnf)|(refine mvF ?_;conv=>whnf)|(refine cT (by rfl) ?_;conv=>whnf)|(refine cF (by rfl) ?_;conv=>whnf)))
        refine ⟨_, ⟨rfl, rfl, rfl, rfl, rfl, rfl, rfl, rfl, rfl, trivial⟩, ?_⟩
        rw [tgsB, if_neg (by rw [hc]; decide), List.append_nil]
        exact hA
    clear hA
    rintro r w hA
    ((conv=>whnf);repeat(first|(refine mvT ?_;conv=>whnf)|(refine mvF ?_;conv=>whnf)|(refine cT (by rfl) ?_;conv=>whnf)|(refine cF (by rfl) ?_;conv=>whnf)))
    generalize hm9 : m8 ++ (tgsB fx (x1).u) = m9 at hA
    have hl9 : m9.length = m8.length + (tgsB fx (x1).u).length := by rw [← hm9, List.length_append]
    have hfin : m3 ++ (bDescribeShareGroupOffsetsResponseGroup v fx) x1 = m9 := by unfold bDescribeShareGroupOffsetsResponseGroup; simp only [← hm9, ← hm8, ← hm7, ← hm6, ← hm5, ← hm4, List.append_assoc, List.nil_append, List.append_nil]
    refine ⟨(i1 + 1, r), ⟨rfl, rfl, rfl, rfl, rfl, rfl, rfl, inc_eq (by rw [maxLen_eq] at hkm1; omega), trivial⟩, ⟨by simp only; omega, ?_⟩, by simp only; omega⟩
    rw [hft, ← List.append_assoc, hm3, hfin]
    exact hA
  have hil : i1 = l1.length := by have := of_decide_eq_false h9; simp only at this; omega
  ((conv=>whnf);repeat(first|(refine mvT ?_;conv=>whnf)|(refine mvF ?_;conv=>whnf)|(refine cT (by rfl) ?_;conv=>whnf)|(refine cF (by rfl) ?_;conv=>whnf)))
  rw [hil, hll1, List.take_length] at hA
  generalize hm3 : m2 ++ ((lsT (atT t 1)).flatMap (bDescribeShareGroupOffsetsResponseGroup v fx)) = m3 at hA
  have hl3 : m3.length = m2.length + ((lsT (atT t 1)).flatMap (bDescribeShareGroupOffsetsResponseGroup v fx)).length := by rw [← hm3, List.length_append]
  (refine mvB ?_;((conv=>whnf);repeat(first|(refine mvT ?_;conv=>whnf)|(refine mvF ?_;conv=>whnf)|(refine cT (by rfl) ?_;conv=>whnf)|(refine cF (by rfl) ?_;conv=>whnf))))
  refine VC.cutE (fun r => [(1, r), (0, .pointer (some ⟨p, 0, none⟩)), (5, .int .i16 v), (6, .bool fx)]) (fun r w' => Apd w0 B x l (m3 ++ (tgsB fx (t).u)) r w') ?_ ?_
  · refine cI (by rfl) (fun hc=>?_) (fun hc=>?_)
    · ((conv=>whnf);repeat(first|(refine mvT ?_;conv=>whnf)|(refine mvF ?_;conv=>whnf)|(refine cT (by rfl) ?_;conv=>whnf)|(refine cF (by rfl) ?_;conv=>whnf)))
      have hul := hok.2.len
      refine Does.mono (Tags_Len_does ((hp.ext hA.ext hxp).cell rfl) (hm.ext hA.ext hFx)) ?_;rintro r w ⟨rfl, rfl⟩;((conv=>whnf);repeat(first|(refine mvT ?_;conv=>whnf)|(refine mvF ?_;conv=>whnf)|(refine cT (by rfl) ?_;conv=>whnf)|(refine cF (by rfl) ?_;conv=>whnf)))
      rw [u32_add0 (by omega)]
      refine Does.mono (AppendUvarint_does hA.ob (Nat.le_trans hB hA.size) (t).u.length (by omega) (by simp only [List.length_append]; omega)) ?_;rintro r w h;((conv=>whnf);repeat(first|(refine mvT ?_;conv=>whnf)|(refine mvF ?_;conv=>whnf)|(refine cT (by rfl) ?_;conv=>whnf)|(refine cF (by rfl) ?_;conv=>whnf)))
      have hul2 := uvar10 (n := (t).u.length) (by omega)
      replace hA := hA.tr h
      clear h
      refine Does.mono (AppendEach_does ((hp.ext hA.ext hxp).cell rfl) (hm.ext hA.ext hFx) hok.2 hA.ob (Nat.le_trans hB hA.size) (hA.ne hxp hpl) (fun j _ hf => hA.ne (hFR j hf).2 (hFR j hf).1) (by simp only [List.length_append]; omega)) ?_;rintro r w h;((conv=>whnf);repeat(first|(refine mvT ?_;conv=>whnf)|(refine mvF ?_;conv=>whnf)|(refine cT (by rfl) ?_;conv=>whnf)|(refine cF (by rfl) ?_;conv=>whnf)))
      replace hA := hA.tr h
      clear h
      refine ⟨_, ⟨rfl, rfl, rfl, rfl, trivial⟩, ?_⟩
      rw [tgsB, if_pos hc, ← List.append_assoc]
      exact hA
    · ((conv=>whnf);repeat(first|(refine mvT ?_;conv=>whnf)|(refine mvF ?_;conv=>whnf)|(refine cT (by rfl) ?_;conv=>whnf)|(refine cF (by rfl) ?_;conv=>whnf)))
      refine ⟨_, ⟨rfl, rfl, rfl, rfl, trivial⟩, ?_⟩
      rw [tgsB, if_neg (by rw [hc]; decide), List.append_nil]
      exact hA
  clear hA
  rintro r w hA
  ((conv=>whnf);repeat(first|(refine mvT ?_;conv=>whnf)|(refine mvF ?_;conv=>whnf)|(refine cT (by rfl) ?_;conv=>whnf)|(refine cF (by rfl) ?_;conv=>whnf)))
  generalize hm4 : m3 ++ (tgsB fx (t).u) = m4 at hA
  have hl4 : m4.length = m3.length + (tgsB fx (t).u).length := by rw [← hm4, List.length_append]
  show Apd w0 B x l _ r w
  rw [show ((fixed (atT t 0).n 4) ++ ((arA fx (lsT (atT t 1)).length ++ (lsT (atT t 1)).flatMap (bDescribeShareGroupOffsetsResponseGroup v fx)) ++ ([]))) ++ tgsB fx t.u = m4 by simp only [← hm4, ← hm3, ← hm2, ← hm1, hm0, List.append_assoc, List.nil_append, List.append_nil]]
  exact hA
theorem makeDescribeShareGroupOffsetsResponse {F : Nat → Prop} {w : World} {v : Int} {x : Value} {t : T} (ht : Tr w F x t) (hok : partOK 9 v dDescribeShareGroupOffsetsResponse t) (hv : 0 ≤ v) (hv2 : v < 32768) (hl : (bDescribeShareGroupOffsetsResponse v (decide (v ≥ 0)) t).length ≤ 70000000000000) :
    Does X.P 12 #[.int .i64 v, x] w fun r w' => OB w' w.heap.size r (bDescribeShareGroupOffsetsResponse v (decide (v ≥ 0)) t) ∧ Ext nob w w' := by
  have htm := ht.mono (F' := fun k => k < w.heap.size) fun k h1 h2 => h1
  clear ht
  obtain ⟨sv, lv, uv, ls, rfl, _⟩ := htm.open
  have hv16 : IntKind.i16.wrap v = v := by
    simp only [IntKind.wrap, IntKind.bits, IntKind.signed]
    simp
    omega
  refine Does.go (X := X) (l := [_, _]) Tryz.func12 rfl (by kernel_rfl) (by kernel_rfl) _ rfl ?_
  ((conv=>whnf);repeat(first|(refine mvT ?_;conv=>whnf)|(refine mvF ?_;conv=>whnf)|(refine cT (by rfl) ?_;conv=>whnf)|(refine cF (by rfl) ?_;conv=>whnf)))
  intro b w1 hb ho hx
  ((conv=>whnf);repeat(first|(refine mvT ?_;conv=>whnf)|(refine mvF ?_;conv=>whnf)|(refine cT (by rfl) ?_;conv=>whnf)|(refine cF (by rfl) ?_;conv=>whnf)))
  intro p w2 hp hop hx2
  have hx02 := hx.e0 hx2
  have hwp : w.heap.size ≤ p := by have := hx.size; omega
  ((conv=>whnf);repeat(first|(refine mvT ?_;conv=>whnf)|(refine mvF ?_;conv=>whnf)|(refine cT (by rfl) ?_;conv=>whnf)|(refine cF (by rfl) ?_;conv=>whnf)))
  have hset : Does X.P 29 #[.pointer (some ⟨p, 0, none⟩), .int .i16 (IntKind.i16.wrap v)] w2 fun r w' => Own w' p 57 [.int .i16 v, .int .i32 0, .slice none 0 0, .map none] ∧ Ext (fun k => k = p) w2 w' := by
    rw [hv16]
    refine Does.go (X := X) (l := [_, _]) Tryz.func29 rfl (by kernel_rfl) (by kernel_rfl) _ rfl ?_
    ((conv=>whnf);repeat(first|(refine mvT ?_;conv=>whnf)|(refine mvF ?_;conv=>whnf)|(refine cT (by rfl) ?_;conv=>whnf)|(refine cF (by rfl) ?_;conv=>whnf)))
    refine ⟨_, _, hop, rfl, rfl, rfl, ?_⟩
    intro w3 ho3 hx3
    ((conv=>whnf);repeat(first|(refine mvT ?_;conv=>whnf)|(refine mvF ?_;conv=>whnf)|(refine cT (by rfl) ?_;conv=>whnf)|(refine cF (by rfl) ?_;conv=>whnf)))
    exact ⟨ho3, hx3⟩
  refine Does.mono (hset) ?_;rintro r3 w3 ⟨hop3, hx3⟩;((conv=>whnf);repeat(first|(refine mvT ?_;conv=>whnf)|(refine mvF ?_;conv=>whnf)|(refine cT (by rfl) ?_;conv=>whnf)|(refine cF (by rfl) ?_;conv=>whnf)))
  have hx03 := hx02.st hx3 hwp
  have hpb : p ≠ b := by have := ho.lt; omega
  refine ⟨_, rfl, ((ho.e0 hx2).ext hx3 fun h => hpb h.symm).cells, ?_⟩
  ((conv=>whnf);repeat(first|(refine mvT ?_;conv=>whnf)|(refine mvF ?_;conv=>whnf)|(refine cT (by rfl) ?_;conv=>whnf)|(refine cF (by rfl) ?_;conv=>whnf)))
  refine Does.mono (fillDescribeShareGroupOffsetsResponse hop3 (htm.e0 hx03) (fun k h1 h2 => by omega) hok) ?_;rintro r4 w4 ⟨hx4, c1, m, hop4, hc1, hm4⟩;((conv=>whnf);repeat(first|(refine mvT ?_;conv=>whnf)|(refine mvF ?_;conv=>whnf)|(refine cT (by rfl) ?_;conv=>whnf)|(refine cF (by rfl) ?_;conv=>whnf)))
  have hx04 := hx03.st hx4 hwp
  refine Does.mono (appDescribeShareGroupOffsetsResponse (F := anyB) hop4 (hc1.mono (fun _ _ _ => trivial) (fun _ _ h => rDescribeShareGroupOffsetsResponseGroup_mono h fun _ _ _ => trivial)) (hm4.mono fun _ _ _ => trivial) hok (fun _ _ _ => by simp [Value.ownBlock]) (by simp [Value.ownBlock]) (OB.nil _ _) (Nat.le_refl _) hv (by rw [List.length_nil, Nat.zero_add]; exact hl)) ?_;rintro r5 w5 h5;((conv=>whnf);repeat(first|(refine mvT ?_;conv=>whnf)|(refine mvF ?_;conv=>whnf)|(refine cT (by rfl) ?_;conv=>whnf)|(refine cF (by rfl) ?_;conv=>whnf)))
  refine ⟨?_, hx04.own h5.ext (B := w.heap.size) (by simp [Value.ownBlock]) (Nat.le_refl _)⟩
  have := h5.ob
  rw [List.nil_append] at this
  exact this.mono hx04.size
theorem defaultDescribeShareGroupOffsetsResponse (p : Nat) (w : World) (T : TypeId) (l : List Value) (h : Own w p T l) (hl : l.length = 4) : Does X.P 58 #[.pointer (some ⟨p, 0, none⟩)] w fun r w' => Ext (fun k => k = p) w w' := by
  have hx0 : Ext (fun k => k = p) w w := Ext.refl _ _
  refine Does.go (X := X) (l := [_]) Tryz.func58 rfl (by kernel_rfl) (by kernel_rfl) _ rfl ?_
  ((conv=>whnf);repeat(first|(refine mvT ?_;conv=>whnf)|(refine mvF ?_;conv=>whnf)|(refine cT (by rfl) ?_;conv=>whnf)|(refine cF (by rfl) ?_;conv=>whnf)))
  exact hx0
theorem maxDescribeShareGroupOffsetsResponse (w : World) : Does X.P 8 #[] w fun r w' => r = .int .i64 1 ∧ Ext nob w w' := by
  have hmax : ∀ (p : Nat) (w : World), Does X.P 27 #[.pointer (some ⟨p, 0, none⟩)] w fun r w' => r = .int .i16 1 ∧ w' = w := by
    intro p w
    refine Does.go (X := X) (l := [_]) Tryz.func27 rfl (by kernel_rfl) (by kernel_rfl) _ rfl ?_
    ((conv=>whnf);repeat(first|(refine mvT ?_;conv=>whnf)|(refine mvF ?_;conv=>whnf)|(refine cT (by rfl) ?_;conv=>whnf)|(refine cF (by rfl) ?_;conv=>whnf)))
    exact ⟨rfl, rfl⟩
  have hnew : Does X.P 26 #[] w fun r w' => (∃ p, r = .pointer (some ⟨p, 0, none⟩)) ∧ Ext nob w w' := by
    refine Does.go (X := X) (l := []) Tryz.func26 rfl (by kernel_rfl) (by kernel_rfl) _ rfl ?_
    ((conv=>whnf);repeat(first|(refine mvT ?_;conv=>whnf)|(refine mvF ?_;conv=>whnf)|(refine cT (by rfl) ?_;conv=>whnf)|(refine cF (by rfl) ?_;conv=>whnf)))
    intro p w1 hp ho hx
    ((conv=>whnf);repeat(first|(refine mvT ?_;conv=>whnf)|(refine mvF ?_;conv=>whnf)|(refine cT (by rfl) ?_;conv=>whnf)|(refine cF (by rfl) ?_;conv=>whnf)))
    refine Does.mono (defaultDescribeShareGroupOffsetsResponse p w1 _ _ ho rfl) ?_;rintro r2 w2 hx2;((conv=>whnf);repeat(first|(refine mvT ?_;conv=>whnf)|(refine mvF ?_;conv=>whnf)|(refine cT (by rfl) ?_;conv=>whnf)|(refine cF (by rfl) ?_;conv=>whnf)))
    exact ⟨⟨p, rfl⟩, hx.st hx2 hp⟩
  refine Does.go (X := X) (l := []) Tryz.func8 rfl (by kernel_rfl) (by kernel_rfl) _ rfl ?_
  ((conv=>whnf);repeat(first|(refine mvT ?_;conv=>whnf)|(refine mvF ?_;conv=>whnf)|(refine cT (by rfl) ?_;conv=>whnf)|(refine cF (by rfl) ?_;conv=>whnf)))
  refine Does.mono (hnew) ?_;rintro r1 w1 ⟨⟨p, rfl⟩, hx⟩;((conv=>whnf);repeat(first|(refine mvT ?_;conv=>whnf)|(refine mvF ?_;conv=>whnf)|(refine cT (by rfl) ?_;conv=>whnf)|(refine cF (by rfl) ?_;conv=>whnf)))
  refine Does.mono (hmax p w1) ?_;rintro r2 w2 ⟨rfl, rfl⟩;((conv=>whnf);repeat(first|(refine mvT ?_;conv=>whnf)|(refine mvF ?_;conv=>whnf)|(refine cT (by rfl) ?_;conv=>whnf)|(refine cF (by rfl) ?_;conv=>whnf)))
  exact ⟨rfl, hx⟩
theorem walkDescribeShareGroupOffsetsResponse {w : World} {n : Nat} (hn : n < 256) {x : Value} {t : T} (ht : Tr w anyB x t) (hsz : wtT t ≤ 1048576) : Does X.P 3 #[.int .u8 n, x] w fun r w' => r = .bool true ∧ Ext nob w w' := by
  have hkeys := ht.keys
  obtain ⟨sv, lv, uv, ls, rfl, _⟩ := ht.open
  refine Does.go (X := X) (l := [_, _]) Tryz.func3 rfl (by kernel_rfl) (by kernel_rfl) _ rfl ?_
  ((conv=>whnf);repeat(first|(refine mvT ?_;conv=>whnf)|(refine mvF ?_;conv=>whnf)|(refine cT (by rfl) ?_;conv=>whnf)|(refine cF (by rfl) ?_;conv=>whnf)))
  intro b w1 hb ho hx
  ((conv=>whnf);repeat(first|(refine mvT ?_;conv=>whnf)|(refine mvF ?_;conv=>whnf)|(refine cT (by rfl) ?_;conv=>whnf)|(refine cF (by rfl) ?_;conv=>whnf)))
  refine ⟨_, rfl, ho.cells, ?_⟩
  ((conv=>whnf);repeat(first|(refine mvT ?_;conv=>whnf)|(refine mvF ?_;conv=>whnf)|(refine cT (by rfl) ?_;conv=>whnf)|(refine cF (by rfl) ?_;conv=>whnf)))
  refine Does.mono (zzFits1_does (ht.e0 hx)) ?_;rintro r2 w2 ⟨⟨b2, rfl⟩, hx2⟩;((conv=>whnf);repeat(first|(refine mvT ?_;conv=>whnf)|(refine mvF ?_;conv=>whnf)|(refine cT (by rfl) ?_;conv=>whnf)|(refine cF (by rfl) ?_;conv=>whnf)))
  have hx02 := hx.e0 hx2
  refine cI (by rfl) (fun h1=>?_) (fun h1=>?_)
  · ((conv=>whnf);repeat(first|(refine mvT ?_;conv=>whnf)|(refine mvF ?_;conv=>whnf)|(refine cT (by rfl) ?_;conv=>whnf)|(refine cF (by rfl) ?_;conv=>whnf)))
    exact ⟨rfl, hx02⟩
  · ((conv=>whnf);repeat(first|(refine mvT ?_;conv=>whnf)|(refine mvF ?_;conv=>whnf)|(refine cT (by rfl) ?_;conv=>whnf)|(refine cF (by rfl) ?_;conv=>whnf)))
    refine Does.mono (maxDescribeShareGroupOffsetsResponse w2) ?_;rintro r3 w3 ⟨rfl, hx3⟩;((conv=>whnf);repeat(first|(refine mvT ?_;conv=>whnf)|(refine mvF ?_;conv=>whnf)|(refine cT (by rfl) ?_;conv=>whnf)|(refine cF (by rfl) ?_;conv=>whnf)))
    refine Does.mono (sDescribeShareGroupOffsetsResponse w3) ?_;rintro r4 w4 ⟨⟨fv, rfl, hfd⟩, hx4⟩;((conv=>whnf);repeat(first|(refine mvT ?_;conv=>whnf)|(refine mvF ?_;conv=>whnf)|(refine cT (by rfl) ?_;conv=>whnf)|(refine cF (by rfl) ?_;conv=>whnf)))
    have hone := hfd
    obtain ⟨ls3, hsl3, _⟩ := hone
    obtain ⟨a3, c3, rfl, _⟩ := hsl3.view
    refine Does.mono (version_does n 1 hn (by omega) w4) ?_;rintro r5 w5 ⟨rfl, rfl⟩;((conv=>whnf);repeat(first|(refine mvT ?_;conv=>whnf)|(refine mvF ?_;conv=>whnf)|(refine cT (by rfl) ?_;conv=>whnf)|(refine cF (by rfl) ?_;conv=>whnf)))
    intro b6 w6 hb6 ho6 hx6
    ((conv=>whnf);repeat(first|(refine mvT ?_;conv=>whnf)|(refine mvF ?_;conv=>whnf)|(refine cT (by rfl) ?_;conv=>whnf)|(refine cF (by rfl) ?_;conv=>whnf)))
    refine ⟨_, _, ho6, rfl, rfl, rfl, ?_⟩
    intro w7 ho7 hx7
    have hx57 : Ext nob w5 w7 := hx6.st hx7 hb6
    ((conv=>whnf);repeat(first|(refine mvT ?_;conv=>whnf)|(refine mvF ?_;conv=>whnf)|(refine cT (by rfl) ?_;conv=>whnf)|(refine cF (by rfl) ?_;conv=>whnf)))
    have hx07 : Ext nob w w7 := ((hx02.e0 hx3).e0 hx4).e0 hx57
    have hxd := hx07.e0 (ext_drew _)
    have hod := ((((ho.e0 hx2).e0 hx3).e0 hx4).e0 hx57).e0 (ext_drew _)
    have ho7d := ho7.e0 (ext_drew _)
    have hfdd := (hfd.e0 hx57).e0 (ext_drew _)
    generalize hvv : ((n % (1 + 1) : Nat) : Int) = v
    have hv0 : 0 ≤ v := by omega
    have hv1 : v < 32768 := by omega
    have hok : ∀ f, f ∈ dDescribeShareGroupOffsetsResponse → okF 9 f = true := List.all_eq_true.1 (show (dDescribeShareGroupOffsetsResponse).all (okF 9) = true by decide)
    have hnt : ∀ f, f ∈ dDescribeShareGroupOffsetsResponse → ntF 9 f = true := List.all_eq_true.1 (show (dDescribeShareGroupOffsetsResponse).all (ntF 9) = true by decide)
    refine VD.draw mixed (.q 0 (.q 1 (.q 2 (.q 3 (.q 4 (.q 8 (.q 9 (.q 10 (.eff 5 [8, 10] (.eff 6 [8, 10] (.eff 7 [8, 10] (.eff 11 [] (.eff 12 [] (.eff 13 [] (.done))))))))))))))) (by kernel_rfl) ?_;((conv=>whnf);repeat(first|(refine mvT ?_;conv=>whnf)|(refine mvF ?_;conv=>whnf)|(refine cT (by rfl) ?_;conv=>whnf)|(refine cF (by rfl) ?_;conv=>whnf)))
    refine ldS (ho7d.cell rfl) ?_;((conv=>whnf);repeat(first|(refine mvT ?_;conv=>whnf)|(refine mvF ?_;conv=>whnf)|(refine cT (by rfl) ?_;conv=>whnf)|(refine cF (by rfl) ?_;conv=>whnf)))
    refine ⟨_, rfl, hod.cells, ?_⟩
    ((conv=>whnf);repeat(first|(refine mvT ?_;conv=>whnf)|(refine mvF ?_;conv=>whnf)|(refine cT (by rfl) ?_;conv=>whnf)|(refine cF (by rfl) ?_;conv=>whnf)))
    refine ⟨_, rfl, ho7d.cells, ?_⟩
    ((conv=>whnf);repeat(first|(refine mvT ?_;conv=>whnf)|(refine mvF ?_;conv=>whnf)|(refine cT (by rfl) ?_;conv=>whnf)|(refine cF (by rfl) ?_;conv=>whnf)))
    refine ⟨_, rfl, hod.cells, ?_⟩
    ((conv=>whnf);repeat(first|(refine mvT ?_;conv=>whnf)|(refine mvF ?_;conv=>whnf)|(refine cT (by rfl) ?_;conv=>whnf)|(refine cF (by rfl) ?_;conv=>whnf)))
    refine Does.mono (fit_does (fits_do 9) (v := v) hfdd (ht.e0 hxd) hok (by decide)) ?_
    rintro r8 w8 ⟨hr8, hx8⟩
    refine ⟨by (conv => whnf); exact ⟨⟨_, rfl, (ho7d.e0 hx8).cells, rfl, rfl⟩, ⟨_, rfl, (hod.e0 hx8).cells, rfl, rfl⟩, trivial⟩, ?_⟩
    ((conv=>whnf);repeat(first|(refine mvT ?_;conv=>whnf)|(refine mvF ?_;conv=>whnf)|(refine cT (by rfl) ?_;conv=>whnf)|(refine cF (by rfl) ?_;conv=>whnf)))
    have hsmall := fit_small 9 _ (by decide) v hok t
    refine Does.mono (given_does hr8 hsmall) ?_
    rintro r9 w9 ⟨hr9, hx9⟩
    have hx89 := hx8.e0 hx9
    refine ⟨by (conv => whnf); exact ⟨⟨_, rfl, (ho7d.e0 hx89).cells, rfl, rfl⟩, ⟨_, rfl, (hod.e0 hx89).cells, rfl, rfl⟩, trivial⟩, ?_⟩
    ((conv=>whnf);repeat(first|(refine mvT ?_;conv=>whnf)|(refine mvF ?_;conv=>whnf)|(refine cT (by rfl) ?_;conv=>whnf)|(refine cF (by rfl) ?_;conv=>whnf)))
    have hfx : decide (v ≥ 0) = flexB 0 v := by simp [flexB]
    have hfit := part_ok 9 v dDescribeShareGroupOffsetsResponse t hnt hkeys
    have hlaw : bDescribeShareGroupOffsetsResponse v (decide (v ≥ 0)) (fitB 9 v dDescribeShareGroupOffsetsResponse t) = partB 9 v (flexB 0 v) dDescribeShareGroupOffsetsResponse t := by
      rw [← bDescribeShareGroupOffsetsResponse_eq hv0 hfit, hfx]
      exact part_law 9 v _ dDescribeShareGroupOffsetsResponse t hnt
    have hlen : (partB 9 v (flexB 0 v) dDescribeShareGroupOffsetsResponse t).length ≤ 70000000000000 := Nat.le_trans (partB_wt 9 v _ dDescribeShareGroupOffsetsResponse t hnt hkeys) (Nat.le_trans (Nat.mul_le_mul_left _ hsz) (Nat.le_of_ble_eq_true rfl))
    refine Does.mono (makeDescribeShareGroupOffsetsResponse (v := v) hr9 hfit hv0 hv1 (by rw [hlaw]; exact hlen)) ?_
    rintro r10 w10 ⟨hr10, hx10⟩
    have hx810 := hx89.e0 hx10
    refine ⟨by (conv => whnf); exact ⟨⟨_, rfl, (ho7d.e0 hx810).cells, rfl, rfl⟩, ⟨_, rfl, (hod.e0 hx810).cells, rfl, rfl⟩, trivial⟩, ?_⟩
    ((conv=>whnf);repeat(first|(refine mvT ?_;conv=>whnf)|(refine mvF ?_;conv=>whnf)|(refine cT (by rfl) ?_;conv=>whnf)|(refine cF (by rfl) ?_;conv=>whnf)))
    rw [hlaw] at hr10
    refine Does.mono (write_does 9 (v := v) ⟨_, rfl, hfdd.e0 hx810⟩ (ht.e0 (hxd.e0 hx810)) hok (by decide) (Nat.le_trans hlen (by decide))) ?_
    rintro r11 w11 ⟨hr11, hx11⟩
    ((conv=>whnf);repeat(first|(refine mvT ?_;conv=>whnf)|(refine mvF ?_;conv=>whnf)|(refine cT (by rfl) ?_;conv=>whnf)|(refine cF (by rfl) ?_;conv=>whnf)))
    refine Does.mono (Same_does (hr10.e0 hx11).bytesAny hr11.bytesAny) ?_
    rintro r12 w12 ⟨rfl, hx12⟩
    ((conv=>whnf);repeat(first|(refine mvT ?_;conv=>whnf)|(refine mvF ?_;conv=>whnf)|(refine cT (by rfl) ?_;conv=>whnf)|(refine cF (by rfl) ?_;conv=>whnf)))
    exact ⟨by simp [oneOr], ((hxd.e0 hx810).e0 hx11).e0 hx12⟩
end Go.Proofs.YtbcjhghfmhdafaaGreat.K
