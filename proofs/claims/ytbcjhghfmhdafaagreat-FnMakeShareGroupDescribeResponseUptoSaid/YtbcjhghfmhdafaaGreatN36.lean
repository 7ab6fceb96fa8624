/- ShareGroupDescribeResponse. -/
import Derived.Test.YtbcjhghfmhdafaaGreatC3
import Derived.Test.YtbcjhghfmhdafaaGreatP1
import Derived.Test.YtbcjhghfmhdafaaGreatGversion
set_option linter.unusedVariables false
set_option linter.unusedSimpArgs false
namespace Go.Proofs.YtbcjhghfmhdafaaGreat.K
open Go
set_option maxHeartbeats 1600000
set_option maxRecDepth 100000

abbrev dShareGroupDescribeResponseGroupMemberAssignmentTopicPartition : List Fd := [.mk 7 0 (-1) (-1) (-1) 0 0 [], .mk 8 0 (-1) (-1) (-1) 0 0 [], .mk 11 0 (-1) (-1) (-1) 0 3 []]
abbrev dShareGroupDescribeResponseGroupMemberAssignment : List Fd := [.mk 11 0 (-1) (-1) (-1) 0 10 dShareGroupDescribeResponseGroupMemberAssignmentTopicPartition]
abbrev dShareGroupDescribeResponseGroupMember : List Fd := [.mk 8 0 (-1) (-1) (-1) 0 0 [], .mk 8 0 (-1) 0 (-1) 0 0 [], .mk 3 0 (-1) (-1) (-1) 0 0 [], .mk 8 0 (-1) (-1) (-1) 0 0 [], .mk 8 0 (-1) (-1) (-1) 0 0 [], .mk 11 0 (-1) (-1) (-1) 0 8 [], .mk 10 0 (-1) (-1) (-1) 0 0 dShareGroupDescribeResponseGroupMemberAssignment]
abbrev dShareGroupDescribeResponseGroup : List Fd := [.mk 2 0 (-1) (-1) (-1) 0 0 [], .mk 8 0 (-1) 0 (-1) 0 0 [], .mk 8 0 (-1) (-1) (-1) 0 0 [], .mk 8 0 (-1) (-1) (-1) 0 0 [], .mk 3 0 (-1) (-1) (-1) 0 0 [], .mk 3 0 (-1) (-1) (-1) 0 0 [], .mk 8 0 (-1) (-1) (-1) 0 0 [], .mk 11 0 (-1) (-1) (-1) 0 10 dShareGroupDescribeResponseGroupMember, .mk 3 0 (-1) (-1) (-1) (-2147483648) 0 []]
abbrev dShareGroupDescribeResponse : List Fd := [.mk 3 0 (-1) (-1) (-1) 0 0 [], .mk 11 0 (-1) (-1) (-1) 0 10 dShareGroupDescribeResponseGroup]
theorem sShareGroupDescribeResponseGroupMemberAssignmentTopicPartition (w : World) : Does X.P 122 #[] w fun r w' => FdsR w' (fun k => w.heap.size ≤ k) r dShareGroupDescribeResponseGroupMemberAssignmentTopicPartition ∧ Ext nob w w' := by
  have hx0 : Ext nob w w := Ext.refl _ _
  refine Does.go (X := X) (l := []) Tryz.func122 rfl (by kernel_rfl) (by kernel_rfl) _ rfl ?_
  ((conv=>whnf);repeat(first|(refine mvT ?_;conv=>whnf)|(refine mvF ?_;conv=>whnf)|(refine cT (by rfl) ?_;conv=>whnf)|(refine cF (by rfl) ?_;conv=>whnf)))
  have hxs := hx0
  intro b wb hb ho hx
  have hx0 := hx0.e0 hx
  ((conv=>whnf);repeat(first|(refine mvT ?_;conv=>whnf)|(refine mvF ?_;conv=>whnf)|(refine cT (by rfl) ?_;conv=>whnf)|(refine cF (by rfl) ?_;conv=>whnf)))
  refine ⟨?_, hx0⟩
  exact FdL.fds (cs := [[.int .i64 7, .int .i64 0, .int .i64 (-1), .int .i64 (-1), .int .i64 (-1), .int .i64 0, .int .i64 0, .slice none 0 0], [.int .i64 8, .int .i64 0, .int .i64 (-1), .int .i64 (-1), .int .i64 (-1), .int .i64 0, .int .i64 0, .slice none 0 0], [.int .i64 11, .int .i64 0, .int .i64 (-1), .int .i64 (-1), .int .i64 (-1), .int .i64 0, .int .i64 3, .slice none 0 0]])
    ⟨fdLeaf _ _ _ _ _ _ _ _ _, fdLeaf _ _ _ _ _ _ _ _ _, fdLeaf _ _ _ _ _ _ _ _ _, trivial⟩ ho rfl (by decide) (by have := hxs.size; omega)
theorem sShareGroupDescribeResponseGroupMemberAssignment (w : World) : Does X.P 113 #[] w fun r w' => FdsR w' (fun k => w.heap.size ≤ k) r dShareGroupDescribeResponseGroupMemberAssignment ∧ Ext nob w w' := by
  have hx0 : Ext nob w w := Ext.refl _ _
  refine Does.go (X := X) (l := []) Tryz.func113 rfl (by kernel_rfl) (by kernel_rfl) _ rfl ?_
  ((conv=>whnf);repeat(first|(refine mvT ?_;conv=>whnf)|(refine mvF ?_;conv=>whnf)|(refine cT (by rfl) ?_;conv=>whnf)|(refine cF (by rfl) ?_;conv=>whnf)))
  refine Does.mono (sShareGroupDescribeResponseGroupMemberAssignmentTopicPartition w) ?_
  rintro v0 wv0 ⟨hv0, hc⟩
  have hv0 := hv0.mono (F' := fun k => w.heap.size ≤ k) fun k _ h => Nat.le_trans hx0.size h
  obtain ⟨lv0, gv0, _⟩ := id hv0
  obtain ⟨av0, kv0, rfl, _⟩ := gv0.view
  ((conv=>whnf);repeat(first|(refine mvT ?_;conv=>whnf)|(refine mvF ?_;conv=>whnf)|(refine cT (by rfl) ?_;conv=>whnf)|(refine cF (by rfl) ?_;conv=>whnf)))
  have hx0 := hx0.e0 hc
  have hxs := hx0
  intro b wb hb ho hx
  have hx0 := hx0.e0 hx
  ((conv=>whnf);repeat(first|(refine mvT ?_;conv=>whnf)|(refine mvF ?_;conv=>whnf)|(refine cT (by rfl) ?_;conv=>whnf)|(refine cF (by rfl) ?_;conv=>whnf)))
  refine ⟨?_, hx0⟩
  exact FdL.fds (cs := [[.int .i64 11, .int .i64 0, .int .i64 (-1), .int .i64 (-1), .int .i64 (-1), .int .i64 0, .int .i64 10, .slice av0 lv0.length kv0]])
    ⟨FdC.of (hv0.e0 hx) _ _ _ _ _ _ _, trivial⟩ ho rfl (by decide) (by have := hxs.size; omega)
theorem sShareGroupDescribeResponseGroupMember (w : World) : Does X.P 95 #[] w fun r w' => FdsR w' (fun k => w.heap.size ≤ k) r dShareGroupDescribeResponseGroupMember ∧ Ext nob w w' := by
  have hx0 : Ext nob w w := Ext.refl _ _
  refine Does.go (X := X) (l := []) Tryz.func95 rfl (by kernel_rfl) (by kernel_rfl) _ rfl ?_
  ((conv=>whnf);repeat(first|(refine mvT ?_;conv=>whnf)|(refine mvF ?_;conv=>whnf)|(refine cT (by rfl) ?_;conv=>whnf)|(refine cF (by rfl) ?_;conv=>whnf)))
  refine Does.mono (sShareGroupDescribeResponseGroupMemberAssignment w) ?_
  rintro v6 wv6 ⟨hv6, hc⟩
  have hv6 := hv6.mono (F' := fun k => w.heap.size ≤ k) fun k _ h => Nat.le_trans hx0.size h
  obtain ⟨lv6, gv6, _⟩ := id hv6
  obtain ⟨av6, kv6, rfl, _⟩ := gv6.view
  ((conv=>whnf);repeat(first|(refine mvT ?_;conv=>whnf)|(refine mvF ?_;conv=>whnf)|(refine cT (by rfl) ?_;conv=>whnf)|(refine cF (by rfl) ?_;conv=>whnf)))
  have hx0 := hx0.e0 hc
  have hxs := hx0
  intro b wb hb ho hx
  have hx0 := hx0.e0 hx
  ((conv=>whnf);repeat(first|(refine mvT ?_;conv=>whnf)|(refine mvF ?_;conv=>whnf)|(refine cT (by rfl) ?_;conv=>whnf)|(refine cF (by rfl) ?_;conv=>whnf)))
  refine ⟨?_, hx0⟩
  exact FdL.fds (cs := [[.int .i64 8, .int .i64 0, .int .i64 (-1), .int .i64 (-1), .int .i64 (-1), .int .i64 0, .int .i64 0, .slice none 0 0], [.int .i64 8, .int .i64 0, .int .i64 (-1), .int .i64 0, .int .i64 (-1), .int .i64 0, .int .i64 0, .slice none 0 0], [.int .i64 3, .int .i64 0, .int .i64 (-1), .int .i64 (-1), .int .i64 (-1), .int .i64 0, .int .i64 0, .slice none 0 0], [.int .i64 8, .int .i64 0, .int .i64 (-1), .int .i64 (-1), .int .i64 (-1), .int .i64 0, .int .i64 0, .slice none 0 0], [.int .i64 8, .int .i64 0, .int .i64 (-1), .int .i64 (-1), .int .i64 (-1), .int .i64 0, .int .i64 0, .slice none 0 0], [.int .i64 11, .int .i64 0, .int .i64 (-1), .int .i64 (-1), .int .i64 (-1), .int .i64 0, .int .i64 8, .slice none 0 0], [.int .i64 10, .int .i64 0, .int .i64 (-1), .int .i64 (-1), .int .i64 (-1), .int .i64 0, .int .i64 0, .slice av6 lv6.length kv6]])
    ⟨fdLeaf _ _ _ _ _ _ _ _ _, fdLeaf _ _ _ _ _ _ _ _ _, fdLeaf _ _ _ _ _ _ _ _ _, fdLeaf _ _ _ _ _ _ _ _ _, fdLeaf _ _ _ _ _ _ _ _ _, fdLeaf _ _ _ _ _ _ _ _ _, FdC.of (hv6.e0 hx) _ _ _ _ _ _ _, trivial⟩ ho rfl (by decide) (by have := hxs.size; omega)
theorem sShareGroupDescribeResponseGroup (w : World) : Does X.P 53 #[] w fun r w' => FdsR w' (fun k => w.heap.size ≤ k) r dShareGroupDescribeResponseGroup ∧ Ext nob w w' := by
  have hx0 : Ext nob w w := Ext.refl _ _
  refine Does.go (X := X) (l := []) Tryz.func53 rfl (by kernel_rfl) (by kernel_rfl) _ rfl ?_
  ((conv=>whnf);repeat(first|(refine mvT ?_;conv=>whnf)|(refine mvF ?_;conv=>whnf)|(refine cT (by rfl) ?_;conv=>whnf)|(refine cF (by rfl) ?_;conv=>whnf)))
  refine Does.mono (sShareGroupDescribeResponseGroupMember w) ?_
  rintro v7 wv7 ⟨hv7, hc⟩
  have hv7 := hv7.mono (F' := fun k => w.heap.size ≤ k) fun k _ h => Nat.le_trans hx0.size h
  obtain ⟨lv7, gv7, _⟩ := id hv7
  obtain ⟨av7, kv7, rfl, _⟩ := gv7.view
  ((conv=>whnf);repeat(first|(refine mvT ?_;conv=>whnf)|(refine mvF ?_;conv=>whnf)|(refine cT (by rfl) ?_;conv=>whnf)|(refine cF (by rfl) ?_;conv=>whnf)))
  have hx0 := hx0.e0 hc
  have hxs := hx0
  intro b wb hb ho hx
  have hx0 := hx0.e0 hx
  ((conv=>whnf);repeat(first|(refine mvT ?_;conv=>whnf)|(refine mvF ?_;conv=>whnf)|(refine cT (by rfl) ?_;conv=>whnf)|(refine cF (by rfl) ?_;conv=>whnf)))
  refine ⟨?_, hx0⟩
  exact FdL.fds (cs := [[.int .i64 2, .int .i64 0, .int .i64 (-1), .int .i64 (-1), .int .i64 (-1), .int .i64 0, .int .i64 0, .slice none 0 0], [.int .i64 8, .int .i64 0, .int .i64 (-1), .int .i64 0, .int .i64 (-1), .int .i64 0, .int .i64 0, .slice none 0 0], [.int .i64 8, .int .i64 0, .int .i64 (-1), .int .i64 (-1), .int .i64 (-1), .int .i64 0, .int .i64 0, .slice none 0 0], [.int .i64 8, .int .i64 0, .int .i64 (-1), .int .i64 (-1), .int .i64 (-1), .int .i64 0, .int .i64 0, .slice none 0 0], [.int .i64 3, .int .i64 0, .int .i64 (-1), .int .i64 (-1), .int .i64 (-1), .int .i64 0, .int .i64 0, .slice none 0 0], [.int .i64 3, .int .i64 0, .int .i64 (-1), .int .i64 (-1), .int .i64 (-1), .int .i64 0, .int .i64 0, .slice none 0 0], [.int .i64 8, .int .i64 0, .int .i64 (-1), .int .i64 (-1), .int .i64 (-1), .int .i64 0, .int .i64 0, .slice none 0 0], [.int .i64 11, .int .i64 0, .int .i64 (-1), .int .i64 (-1), .int .i64 (-1), .int .i64 0, .int .i64 10, .slice av7 lv7.length kv7], [.int .i64 3, .int .i64 0, .int .i64 (-1), .int .i64 (-1), .int .i64 (-1), .int .i64 (-2147483648), .int .i64 0, .slice none 0 0]])
    ⟨fdLeaf _ _ _ _ _ _ _ _ _, fdLeaf _ _ _ _ _ _ _ _ _, fdLeaf _ _ _ _ _ _ _ _ _, fdLeaf _ _ _ _ _ _ _ _ _, fdLeaf _ _ _ _ _ _ _ _ _, fdLeaf _ _ _ _ _ _ _ _ _, fdLeaf _ _ _ _ _ _ _ _ _, FdC.of (hv7.e0 hx) _ _ _ _ _ _ _, fdLeaf _ _ _ _ _ _ _ _ _, trivial⟩ ho rfl (by decide) (by have := hxs.size; omega)
theorem sShareGroupDescribeResponse (w : World) : Does X.P 23 #[] w fun r w' => Msg w' (fun k => w.heap.size ≤ k) r dShareGroupDescribeResponse 0 ∧ Ext nob w w' := by
  have hx0 : Ext nob w w := Ext.refl _ _
  refine Does.go (X := X) (l := []) Tryz.func23 rfl (by kernel_rfl) (by kernel_rfl) _ rfl ?_
  ((conv=>whnf);repeat(first|(refine mvT ?_;conv=>whnf)|(refine mvF ?_;conv=>whnf)|(refine cT (by rfl) ?_;conv=>whnf)|(refine cF (by rfl) ?_;conv=>whnf)))
  intro b w1 hb ho hx
  have hx0 := hx0.e0 hx
  have ho := ho
  ((conv=>whnf);repeat(first|(refine mvT ?_;conv=>whnf)|(refine mvF ?_;conv=>whnf)|(refine cT (by rfl) ?_;conv=>whnf)|(refine cF (by rfl) ?_;conv=>whnf)))
  refine Does.mono (sShareGroupDescribeResponseGroup w1) ?_
  rintro v1 wv1 ⟨hv1, hc⟩
  have hv1 := hv1.mono (F' := fun k => w.heap.size ≤ k ∧ b < k) fun k _ h => ⟨Nat.le_trans hx0.size h, Nat.lt_of_lt_of_le ho.lt h⟩
  obtain ⟨lv1, gv1, _⟩ := id hv1
  obtain ⟨av1, kv1, rfl, _⟩ := gv1.view
  ((conv=>whnf);repeat(first|(refine mvT ?_;conv=>whnf)|(refine mvF ?_;conv=>whnf)|(refine cT (by rfl) ?_;conv=>whnf)|(refine cF (by rfl) ?_;conv=>whnf)))
  have hx0 := hx0.e0 hc
  have ho := ho.e0 hc
  have hxs := hx0
  intro b2 w2 hb2 ho2 hx2
  ((conv=>whnf);repeat(first|(refine mvT ?_;conv=>whnf)|(refine mvF ?_;conv=>whnf)|(refine cT (by rfl) ?_;conv=>whnf)|(refine cF (by rfl) ?_;conv=>whnf)))
  have hx0 := hx0.e0 hx2
  refine ⟨_, _, ho.e0 hx2, rfl, rfl, rfl, ?_⟩
  intro w3 ho3 hx3
  have hx03 := hx0.st hx3 hb
  ((conv=>whnf);repeat(first|(refine mvT ?_;conv=>whnf)|(refine mvF ?_;conv=>whnf)|(refine cT (by rfl) ?_;conv=>whnf)|(refine cF (by rfl) ?_;conv=>whnf)))
  refine ⟨_, rfl, ho3.cells, ?_⟩
  refine ⟨⟨_, rfl, ?_⟩, hx03⟩
  have ho2 := ho2.ext hx3 (by have := ho.lt; omega)
  have hs := hx0.size
  have hs2 : w.heap.size ≤ b2 := Nat.le_trans hxs.size hb2
  exact FdL.fds (cs := [[.int .i64 3, .int .i64 0, .int .i64 (-1), .int .i64 (-1), .int .i64 (-1), .int .i64 0, .int .i64 0, .slice none 0 0], [.int .i64 11, .int .i64 0, .int .i64 (-1), .int .i64 (-1), .int .i64 (-1), .int .i64 0, .int .i64 10, .slice av1 lv1.length kv1]])
    ⟨fdLeaf _ _ _ _ _ _ _ _ _, FdC.of (FdsR.mono (FdsR.ext (FdsR.e0 hv1 hx2) hx3 fun k _ h1 h2 => by omega) fun k _ h => h.1) _ _ _ _ _ _ _, trivial⟩ ho2 rfl (by decide) (by omega)
def rShareGroupDescribeResponseGroupMemberAssignmentTopicPartition (w : World) (F : Nat → Prop) (cs : List Value) (t : T) : Prop := ∃ u0_0 u0_1 u0_2 u0_3 u0_4 u0_5 u0_6 u0_7 u0_8 u0_9 u0_10 u0_11 u0_12 u0_13 u0_14 u0_15 c2 m, cs = [bcell u0_0, bcell u0_1, bcell u0_2, bcell u0_3, bcell u0_4, bcell u0_5, bcell u0_6, bcell u0_7, bcell u0_8, bcell u0_9, bcell u0_10, bcell u0_11, bcell u0_12, bcell u0_13, bcell u0_14, bcell u0_15, str (atT t 1).s, c2, m] ∧ uuidB (atT t 0).s = [u0_0, u0_1, u0_2, u0_3, u0_4, u0_5, u0_6, u0_7, u0_8, u0_9, u0_10, u0_11, u0_12, u0_13, u0_14, u0_15] ∧ ListR true 1 (fun c x => c = [.int .i32 (IntKind.i32.wrap x.n)]) w F c2 (atT t 2) ∧ TagsR w F m t.u
theorem rShareGroupDescribeResponseGroupMemberAssignmentTopicPartition_ext {M F : Nat → Prop} {w w' : World} {cs : List Value} {t : T} (h : rShareGroupDescribeResponseGroupMemberAssignmentTopicPartition w F cs t) (x : Ext M w w') (hF : ∀ k, k < w.heap.size → F k → ¬ M k) : rShareGroupDescribeResponseGroupMemberAssignmentTopicPartition w' F cs t := by
  obtain ⟨u0_0, u0_1, u0_2, u0_3, u0_4, u0_5, u0_6, u0_7, u0_8, u0_9, u0_10, u0_11, u0_12, u0_13, u0_14, u0_15, c2, m, rfl, h0, h2, hm⟩ := h
  exact ⟨u0_0, u0_1, u0_2, u0_3, u0_4, u0_5, u0_6, u0_7, u0_8, u0_9, u0_10, u0_11, u0_12, u0_13, u0_14, u0_15, c2, m, rfl, h0, h2.ext x hF (fun _ _ h => h), hm.ext x hF⟩
theorem rShareGroupDescribeResponseGroupMemberAssignmentTopicPartition_mono {F F' : Nat → Prop} {w : World} {cs : List Value} {t : T} (h : rShareGroupDescribeResponseGroupMemberAssignmentTopicPartition w F cs t) (hF : ∀ k, k < w.heap.size → F k → F' k) : rShareGroupDescribeResponseGroupMemberAssignmentTopicPartition w F' cs t := by
  obtain ⟨u0_0, u0_1, u0_2, u0_3, u0_4, u0_5, u0_6, u0_7, u0_8, u0_9, u0_10, u0_11, u0_12, u0_13, u0_14, u0_15, c2, m, rfl, h0, h2, hm⟩ := h
  exact ⟨u0_0, u0_1, u0_2, u0_3, u0_4, u0_5, u0_6, u0_7, u0_8, u0_9, u0_10, u0_11, u0_12, u0_13, u0_14, u0_15, c2, m, rfl, h0, h2.mono hF (fun _ _ h => h), hm.mono hF⟩
theorem rShareGroupDescribeResponseGroupMemberAssignmentTopicPartition_len {F : Nat → Prop} {w : World} {cs : List Value} {t : T} (h : rShareGroupDescribeResponseGroupMemberAssignmentTopicPartition w F cs t) : cs.length = 19 := by
  obtain ⟨u0_0, u0_1, u0_2, u0_3, u0_4, u0_5, u0_6, u0_7, u0_8, u0_9, u0_10, u0_11, u0_12, u0_13, u0_14, u0_15, c2, m, rfl, h0, h2, hm⟩ := h
  rfl
def rShareGroupDescribeResponseGroupMemberAssignment (w : World) (F : Nat → Prop) (cs : List Value) (t : T) : Prop := ∃ c0 m, cs = [c0, m] ∧ ListR true 19 (rShareGroupDescribeResponseGroupMemberAssignmentTopicPartition w F) w F c0 (atT t 0) ∧ TagsR w F m t.u
theorem rShareGroupDescribeResponseGroupMemberAssignment_ext {M F : Nat → Prop} {w w' : World} {cs : List Value} {t : T} (h : rShareGroupDescribeResponseGroupMemberAssignment w F cs t) (x : Ext M w w') (hF : ∀ k, k < w.heap.size → F k → ¬ M k) : rShareGroupDescribeResponseGroupMemberAssignment w' F cs t := by
  obtain ⟨c0, m, rfl, h0, hm⟩ := h
  exact ⟨c0, m, rfl, h0.ext x hF (fun _ _ h => rShareGroupDescribeResponseGroupMemberAssignmentTopicPartition_ext h x hF), hm.ext x hF⟩
theorem rShareGroupDescribeResponseGroupMemberAssignment_mono {F F' : Nat → Prop} {w : World} {cs : List Value} {t : T} (h : rShareGroupDescribeResponseGroupMemberAssignment w F cs t) (hF : ∀ k, k < w.heap.size → F k → F' k) : rShareGroupDescribeResponseGroupMemberAssignment w F' cs t := by
  obtain ⟨c0, m, rfl, h0, hm⟩ := h
  exact ⟨c0, m, rfl, h0.mono hF (fun _ _ h => rShareGroupDescribeResponseGroupMemberAssignmentTopicPartition_mono h hF), hm.mono hF⟩
theorem rShareGroupDescribeResponseGroupMemberAssignment_len {F : Nat → Prop} {w : World} {cs : List Value} {t : T} (h : rShareGroupDescribeResponseGroupMemberAssignment w F cs t) : cs.length = 2 := by
  obtain ⟨c0, m, rfl, h0, hm⟩ := h
  rfl
def rShareGroupDescribeResponseGroupMember (w : World) (F : Nat → Prop) (cs : List Value) (t : T) : Prop := ∃ c1 c5 c6_0 c6_1 m, cs = [str (atT t 0).s, c1, .int .i32 (IntKind.i32.wrap (atT t 2).n), str (atT t 3).s, str (atT t 4).s, c5, c6_0, c6_1, m] ∧ NTextR w F c1 (atT t 1) ∧ ListR true 1 (fun c x => c = [str x.s]) w F c5 (atT t 5) ∧ rShareGroupDescribeResponseGroupMemberAssignment w F [c6_0, c6_1] (atT t 6) ∧ TagsR w F m t.u
theorem rShareGroupDescribeResponseGroupMember_ext {M F : Nat → Prop} {w w' : World} {cs : List Value} {t : T} (h : rShareGroupDescribeResponseGroupMember w F cs t) (x : Ext M w w') (hF : ∀ k, k < w.heap.size → F k → ¬ M k) : rShareGroupDescribeResponseGroupMember w' F cs t := by
  obtain ⟨c1, c5, c6_0, c6_1, m, rfl, h1, h5, h6, hm⟩ := h
  exact ⟨c1, c5, c6_0, c6_1, m, rfl, h1.ext x hF, h5.ext x hF (fun _ _ h => h), rShareGroupDescribeResponseGroupMemberAssignment_ext h6 x hF, hm.ext x hF⟩
theorem rShareGroupDescribeResponseGroupMember_mono {F F' : Nat → Prop} {w : World} {cs : List Value} {t : T} (h : rShareGroupDescribeResponseGroupMember w F cs t) (hF : ∀ k, k < w.heap.size → F k → F' k) : rShareGroupDescribeResponseGroupMember w F' cs t := by
  obtain ⟨c1, c5, c6_0, c6_1, m, rfl, h1, h5, h6, hm⟩ := h
  exact ⟨c1, c5, c6_0, c6_1, m, rfl, h1.mono hF, h5.mono hF (fun _ _ h => h), rShareGroupDescribeResponseGroupMemberAssignment_mono h6 hF, hm.mono hF⟩
theorem rShareGroupDescribeResponseGroupMember_len {F : Nat → Prop} {w : World} {cs : List Value} {t : T} (h : rShareGroupDescribeResponseGroupMember w F cs t) : cs.length = 9 := by
  obtain ⟨c1, c5, c6_0, c6_1, m, rfl, h1, h5, h6, hm⟩ := h
  rfl
def rShareGroupDescribeResponseGroup (w : World) (F : Nat → Prop) (cs : List Value) (t : T) : Prop := ∃ c1 c7 m, cs = [.int .i16 (IntKind.i16.wrap (atT t 0).n), c1, str (atT t 2).s, str (atT t 3).s, .int .i32 (IntKind.i32.wrap (atT t 4).n), .int .i32 (IntKind.i32.wrap (atT t 5).n), str (atT t 6).s, c7, .int .i32 (IntKind.i32.wrap (atT t 8).n), m] ∧ NTextR w F c1 (atT t 1) ∧ ListR true 9 (rShareGroupDescribeResponseGroupMember w F) w F c7 (atT t 7) ∧ TagsR w F m t.u
theorem rShareGroupDescribeResponseGroup_ext {M F : Nat → Prop} {w w' : World} {cs : List Value} {t : T} (h : rShareGroupDescribeResponseGroup w F cs t) (x : Ext M w w') (hF : ∀ k, k < w.heap.size → F k → ¬ M k) : rShareGroupDescribeResponseGroup w' F cs t := by
  obtain ⟨c1, c7, m, rfl, h1, h7, hm⟩ := h
  exact ⟨c1, c7, m, rfl, h1.ext x hF, h7.ext x hF (fun _ _ h => rShareGroupDescribeResponseGroupMember_ext h x hF), hm.ext x hF⟩
theorem rShareGroupDescribeResponseGroup_mono {F F' : Nat → Prop} {w : World} {cs : List Value} {t : T} (h : rShareGroupDescribeResponseGroup w F cs t) (hF : ∀ k, k < w.heap.size → F k → F' k) : rShareGroupDescribeResponseGroup w F' cs t := by
  obtain ⟨c1, c7, m, rfl, h1, h7, hm⟩ := h
  exact ⟨c1, c7, m, rfl, h1.mono hF, h7.mono hF (fun _ _ h => rShareGroupDescribeResponseGroupMember_mono h hF), hm.mono hF⟩
theorem rShareGroupDescribeResponseGroup_len {F : Nat → Prop} {w : World} {cs : List Value} {t : T} (h : rShareGroupDescribeResponseGroup w F cs t) : cs.length = 10 := by
  obtain ⟨c1, c7, m, rfl, h1, h7, hm⟩ := h
  rfl
theorem makeShareGroupDescribeResponseGroupMemberAssignmentTopicPartition {F : Nat → Prop} {w0 : World} {u : Int} {x : Value} {t : T} (ht : Tr w0 F x t) (hok : partOK 5 u dShareGroupDescribeResponseGroupMemberAssignmentTopicPartition t) :
    Does X.P 129 #[x] w0 fun r w' => ∃ cs : List Value, r = .agg cs.toArray ∧ okCells cs = true ∧ rShareGroupDescribeResponseGroupMemberAssignmentTopicPartition w' (fun k => F k ∨ w0.heap.size ≤ k) cs t ∧ Ext nob w0 w' := by
  obtain ⟨R0, hR0, hRF, ht0⟩ : ∃ R0 : Nat → Prop, (∀ k, R0 k → k < w0.heap.size) ∧ (∀ k, R0 k → F k) ∧ Tr w0 R0 x t := ⟨fun k => k < w0.heap.size ∧ F k, fun k h => h.1, fun k h => h.2, ht.mono fun k h1 h2 => ⟨h1, h2⟩⟩
  clear ht
  obtain ⟨sv, lv, uv, ls, rfl, hn, hs, hl, hels, htg⟩ := ht0.open
  obtain ⟨us, hus, husl, huc⟩ := id htg
  obtain ⟨au, cu, rfl, husc, husm, husF, _, husC⟩ := hus.view
  refine Does.go (X := X) (l := [_]) Tryz.func129 rfl (by kernel_rfl) (by kernel_rfl) _ rfl ?_
  ((conv=>whnf);repeat(first|(refine mvT ?_;conv=>whnf)|(refine mvF ?_;conv=>whnf)|(refine cT (by rfl) ?_;conv=>whnf)|(refine cF (by rfl) ?_;conv=>whnf)))
  intro b wb hb ho hx
  ((conv=>whnf);repeat(first|(refine mvT ?_;conv=>whnf)|(refine mvF ?_;conv=>whnf)|(refine cT (by rfl) ?_;conv=>whnf)|(refine cF (by rfl) ?_;conv=>whnf)))
  intro q wq hqb hoq hxq
  ((conv=>whnf);repeat(first|(refine mvT ?_;conv=>whnf)|(refine mvF ?_;conv=>whnf)|(refine cT (by rfl) ?_;conv=>whnf)|(refine cF (by rfl) ?_;conv=>whnf)))
  intro p wc hpB hp hxp
  have hbl := ho.lt
  have hql := hoq.lt
  have hs1 := hx.size
  have hs2 := hxq.size
  have hpb : p ≠ b := by omega
  have hpq : p ≠ q := by omega
  have hwp : w0.heap.size ≤ p := by omega
  have hR0 : ∀ k, R0 k → k < w0.heap.size ∧ k ≠ p := fun k h => ⟨hR0 k h, by have := hR0 k h; omega⟩
  obtain ⟨ty, hp⟩ : ∃ T, Own wc p T [.int .u8 0, .int .u8 0, .int .u8 0, .int .u8 0, .int .u8 0, .int .u8 0, .int .u8 0, .int .u8 0, .int .u8 0, .int .u8 0, .int .u8 0, .int .u8 0, .int .u8 0, .int .u8 0, .int .u8 0, .int .u8 0, str [], .slice none 0 0, .map none] := ⟨_, hp⟩
  have ho : Own wc b ImplTreeT [.int .i64 t.n, sv, .bool t.nl, lv, .slice au us.length cu] := (ho.e0 hxq).e0 hxp
  have hoq := hoq.e0 hxp
  obtain ⟨qT, qL, hqlen, hoq⟩ : ∃ T L, L.length = 19 ∧ Own wc q T L := ⟨_, _, rfl, hoq⟩
  have hx0 : Ext (fun k => k = p) w0 wc := ((hx.e0 hxq).e0 hxp).mono fun _ _ f => f.elim
  ((conv=>whnf);repeat(first|(refine mvT ?_;conv=>whnf)|(refine mvF ?_;conv=>whnf)|(refine cT (by rfl) ?_;conv=>whnf)|(refine cF (by rfl) ?_;conv=>whnf)))
  refine ⟨_, rfl, ho.cells, ?_⟩
  ((conv=>whnf);repeat(first|(refine mvT ?_;conv=>whnf)|(refine mvF ?_;conv=>whnf)|(refine cT (by rfl) ?_;conv=>whnf)|(refine cF (by rfl) ?_;conv=>whnf)))
  refine Does.mono (iat_does (ht0.ext hx0 fun k _ h => (hR0 k h).2) 0) ?_
  rintro ra wa ⟨hra, hxa⟩
  obtain ⟨sva, lva, uva, lsa, rfl, hna, hsa, hla, helsa, hua⟩ := hra.open
  ((conv=>whnf);repeat(first|(refine mvT ?_;conv=>whnf)|(refine mvF ?_;conv=>whnf)|(refine cT (by rfl) ?_;conv=>whnf)|(refine cF (by rfl) ?_;conv=>whnf)))
  refine Does.mono (sixteen_does hsa) ?_
  rintro rb wb ⟨hrb, hxb⟩
  obtain ⟨u0_0, u0_1, u0_2, u0_3, u0_4, u0_5, u0_6, u0_7, u0_8, u0_9, u0_10, u0_11, u0_12, u0_13, u0_14, u0_15, hc0⟩ := uuid_lit (atT t 0).s
  rw [hc0] at hrb
  subst hrb
  have hxa := hxa.e0 hxb
  ((conv=>whnf);repeat(first|(refine mvT ?_;conv=>whnf)|(refine mvF ?_;conv=>whnf)|(refine cT (by rfl) ?_;conv=>whnf)|(refine cF (by rfl) ?_;conv=>whnf)))
  refine ⟨_, _, hp.e0 hxa, rfl, rfl, rfl, ?_⟩
  intro wc hoc hxc
  have hp : Own wc p ty [bcell u0_0, bcell u0_1, bcell u0_2, bcell u0_3, bcell u0_4, bcell u0_5, bcell u0_6, bcell u0_7, bcell u0_8, bcell u0_9, bcell u0_10, bcell u0_11, bcell u0_12, bcell u0_13, bcell u0_14, bcell u0_15, str [], .slice none 0 0, .map none] := hoc
  have ho := (ho.e0 hxa).ext hxc (Ne.symm hpb)
  have hx0 := (hx0.tr0 hxa).trans hxc fun _ _ h => h
  have hoq := (hoq.e0 hxa).ext hxc (Ne.symm hpq)
  ((conv=>whnf);repeat(first|(refine mvT ?_;conv=>whnf)|(refine mvF ?_;conv=>whnf)|(refine cT (by rfl) ?_;conv=>whnf)|(refine cF (by rfl) ?_;conv=>whnf)))
  refine ⟨_, rfl, ho.cells, ?_⟩
  ((conv=>whnf);repeat(first|(refine mvT ?_;conv=>whnf)|(refine mvF ?_;conv=>whnf)|(refine cT (by rfl) ?_;conv=>whnf)|(refine cF (by rfl) ?_;conv=>whnf)))
  refine Does.mono (iat_does (ht0.ext hx0 fun k _ h => (hR0 k h).2) 1) ?_
  rintro ra wa ⟨hra, hxa⟩
  obtain ⟨sva, lva, uva, lsa, rfl, hna, hsa, hla, helsa, hua⟩ := hra.open
  ((conv=>whnf);repeat(first|(refine mvT ?_;conv=>whnf)|(refine mvF ?_;conv=>whnf)|(refine cT (by rfl) ?_;conv=>whnf)|(refine cF (by rfl) ?_;conv=>whnf)))
  refine ⟨_, _, hsa, ?_⟩
  ((conv=>whnf);repeat(first|(refine mvT ?_;conv=>whnf)|(refine mvF ?_;conv=>whnf)|(refine cT (by rfl) ?_;conv=>whnf)|(refine cF (by rfl) ?_;conv=>whnf)))
  refine st_cell (o := 16) (v := str (atT t 1).s) (hp.e0 hxa) (rfl) (by omega) rfl (by simp) (rfl) ?_
  intro wc hoc hxc
  have hp : Own wc p ty [bcell u0_0, bcell u0_1, bcell u0_2, bcell u0_3, bcell u0_4, bcell u0_5, bcell u0_6, bcell u0_7, bcell u0_8, bcell u0_9, bcell u0_10, bcell u0_11, bcell u0_12, bcell u0_13, bcell u0_14, bcell u0_15, str (atT t 1).s, .slice none 0 0, .map none] := hoc
  have ho := (ho.e0 hxa).ext hxc (Ne.symm hpb)
  have hx0 := (hx0.tr0 hxa).trans hxc fun _ _ h => h
  have hoq := (hoq.e0 hxa).ext hxc (Ne.symm hpq)
  ((conv=>whnf);repeat(first|(refine mvT ?_;conv=>whnf)|(refine mvF ?_;conv=>whnf)|(refine cT (by rfl) ?_;conv=>whnf)|(refine cF (by rfl) ?_;conv=>whnf)))
  have hfl := fieldOK_list (hok.1 2 _ rfl)
  refine ⟨_, rfl, ho.cells, ?_⟩
  ((conv=>whnf);repeat(first|(refine mvT ?_;conv=>whnf)|(refine mvF ?_;conv=>whnf)|(refine cT (by rfl) ?_;conv=>whnf)|(refine cF (by rfl) ?_;conv=>whnf)))
  refine Does.mono (iat_does (ht0.ext hx0 fun k _ h => (hR0 k h).2) 2) ?_
  rintro ra wa ⟨hra, hxa⟩
  obtain ⟨sva, lva, uva, lsa, rfl, hna, hsa, hla, helsa, hua⟩ := hra.open
  ((conv=>whnf);repeat(first|(refine mvT ?_;conv=>whnf)|(refine mvF ?_;conv=>whnf)|(refine cT (by rfl) ?_;conv=>whnf)|(refine cF (by rfl) ?_;conv=>whnf)))
  refine VC.cutE (fun c : Value => [(1, .pointer (some ⟨b, 0, none⟩)), (2, .pointer (some ⟨q, 0, none⟩)), (3, .pointer (some ⟨p, 0, none⟩))]) (fun c w' => Ext (fun k => k = p) w0 w' ∧ Own w' p ty [bcell u0_0, bcell u0_1, bcell u0_2, bcell u0_3, bcell u0_4, bcell u0_5, bcell u0_6, bcell u0_7, bcell u0_8, bcell u0_9, bcell u0_10, bcell u0_11, bcell u0_12, bcell u0_13, bcell u0_14, bcell u0_15, str (atT t 1).s, c, .map none] ∧ Own w' b ImplTreeT [.int .i64 t.n, sv, .bool t.nl, lv, .slice au us.length cu] ∧ Own w' q qT qL ∧ uuidB (atT t 0).s = [u0_0, u0_1, u0_2, u0_3, u0_4, u0_5, u0_6, u0_7, u0_8, u0_9, u0_10, u0_11, u0_12, u0_13, u0_14, u0_15] ∧ ListR true 1 (fun c x => c = [.int .i32 (IntKind.i32.wrap x.n)]) w' (fun k => k ≠ p ∧ k ≠ q ∧ (R0 k ∨ w0.heap.size ≤ k)) c (atT t 2)) ?_ ?_
  · refine cI (by rfl) (fun hnl=>?_) (fun hnl=>?_)
    · have hnl : (atT t 2).nl = false := by simpa using hnl
      ((conv=>whnf);repeat(first|(refine mvT ?_;conv=>whnf)|(refine mvF ?_;conv=>whnf)|(refine cT (by rfl) ?_;conv=>whnf)|(refine cF (by rfl) ?_;conv=>whnf)))
      have hx1 := hx0.tr0 hxa
      refine ⟨_, rfl, (ho.e0 hxa).cells, ?_⟩
      ((conv=>whnf);repeat(first|(refine mvT ?_;conv=>whnf)|(refine mvF ?_;conv=>whnf)|(refine cT (by rfl) ?_;conv=>whnf)|(refine cF (by rfl) ?_;conv=>whnf)))
      refine Does.mono (iat_does (ht0.ext hx1 fun k _ h => (hR0 k h).2) 2) ?_
      rintro r5 w5 ⟨hr5, hx5⟩
      obtain ⟨sv5, lv5, uv5, ls5, rfl, hn5, hs5, hl5, hels5, hu5⟩ := hr5.open
      obtain ⟨a5, c5, rfl, _⟩ := hl5.view
      have hlen5 := hels5.len
      ((conv=>whnf);repeat(first|(refine mvT ?_;conv=>whnf)|(refine mvF ?_;conv=>whnf)|(refine cT (by rfl) ?_;conv=>whnf)|(refine cF (by rfl) ?_;conv=>whnf)))
      refine ⟨⟨by omega, by omega, by omega, by simp only [Int.toNat_natCast]; omega⟩, ⟨by decide, rfl⟩, ?_⟩
      intro b6 w6 hb6 ho6 hx6
      ((conv=>whnf);repeat(first|(refine mvT ?_;conv=>whnf)|(refine mvF ?_;conv=>whnf)|(refine cT (by rfl) ?_;conv=>whnf)|(refine cF (by rfl) ?_;conv=>whnf)))
      have hx56 := (hxa.e0 hx5).e0 hx6
      have hsz5 := (hxa.e0 hx5).size
      have hszc := hx0.size
      have hb6l := ho6.lt
      have hplc := hp.lt
      have hblc := ho.lt
      refine st_cell (o := 17) (v := .slice (some ⟨b6, 0, none⟩) 0 ls5.length) (hp.e0 hx56) rfl (by omega) rfl (by simp) rfl ?_
      intro w7 ho7 hx7
      ((conv=>whnf);repeat(first|(refine mvT ?_;conv=>whnf)|(refine mvF ?_;conv=>whnf)|(refine cT (by rfl) ?_;conv=>whnf)|(refine cF (by rfl) ?_;conv=>whnf)))
      have hx7c : Ext (fun k => k = p) wc w7 := (hx56.mono fun _ _ f => f.elim).trans hx7 fun _ _ h => h
      have hx07 := hx0.trans hx7c fun _ _ h => h
      refine ⟨_, rfl, (ho.ext hx7c (Ne.symm hpb)).cells, ?_⟩
      ((conv=>whnf);repeat(first|(refine mvT ?_;conv=>whnf)|(refine mvF ?_;conv=>whnf)|(refine cT (by rfl) ?_;conv=>whnf)|(refine cF (by rfl) ?_;conv=>whnf)))
      refine Does.mono (iat_does (ht0.ext hx07 fun k _ h => (hR0 k h).2) 2) ?_
      rintro r8 w8 ⟨hr8, hx8⟩
      obtain ⟨sv8, lv8, uv8, ls8, rfl, hn8, hs8, hl8, hels8, hu8⟩ := hr8.open
      obtain ⟨a8, c8, rfl, hc8, hm8, hF8, _, hC8⟩ := hl8.view
      have hlen8 := hels8.len
      ((conv=>whnf);repeat(first|(refine mvT ?_;conv=>whnf)|(refine mvF ?_;conv=>whnf)|(refine cT (by rfl) ?_;conv=>whnf)|(refine cF (by rfl) ?_;conv=>whnf)))
      have hx8c : Ext (fun k => k = p ∨ wc.heap.size ≤ k) wc w8 := (hx7c.tr0 hx8).mono fun _ _ h => .inl h
      have hx08 := hx07.tr0 hx8
      have hos8 := (OSl.mk0 (sz := 1) (n := ls5.length) (ho6.ext hx7 (by omega)) (by simp) (by rw [maxLen_eq]; omega) (B := wc.heap.size) (by omega)).e0 hx8
      refine VL.loop (fun s : Nat × Value => [(1, .pointer (some ⟨b, 0, none⟩)), (2, .pointer (some ⟨q, 0, none⟩)), (3, .pointer (some ⟨p, 0, none⟩)), (30, .slice a8 ls8.length c8), (31, .int .i64 ls8.length), (32, .int .i64 s.1)])
        (fun s w' => (Ext (fun k => k = p) w0 w' ∧ Ext (fun k => k = p ∨ wc.heap.size ≤ k) wc w' ∧ Ext (fun k => k = p ∨ w0.heap.size ≤ k) w8 w' ∧ s.1 ≤ ls8.length ∧ s.2 ≠ .slice none 0 0) ∧ Own w' p ty [bcell u0_0, bcell u0_1, bcell u0_2, bcell u0_3, bcell u0_4, bcell u0_5, bcell u0_6, bcell u0_7, bcell u0_8, bcell u0_9, bcell u0_10, bcell u0_11, bcell u0_12, bcell u0_13, bcell u0_14, bcell u0_15, str (atT t 1).s, s.2, .map none] ∧ ∃ es : List (List Value), OSl w' wc.heap.size 21 1 s.2 es ∧ es.length = s.1 ∧ ∀ (j : Nat) (c : List Value) (x : T), es[j]? = some c → (atT t 2).l[j]? = some x → c = [.int .i32 (IntKind.i32.wrap (x).n)]) (fun s => ls8.length - s.1) (0, .slice (some ⟨b6, 0, none⟩) 0 ls5.length)
        ⟨rfl, rfl, rfl, rfl, rfl, rfl, trivial⟩ ⟨⟨hx08, hx8c, Ext.refl _ _, Nat.zero_le _, by simp⟩, ho7.e0 hx8, [], hos8, rfl, by simp⟩ ?_
      rintro ⟨i, sl⟩ w9 ⟨⟨hx09, hxc9, hx89, hi, hnn⟩, hp9, es, hos9, hesl, hesr⟩
      dsimp only at hi hp9 hos9 hesl hesr hnn
      ((conv=>whnf);repeat(first|(refine mvT ?_;conv=>whnf)|(refine mvF ?_;conv=>whnf)|(refine cT (by rfl) ?_;conv=>whnf)|(refine cF (by rfl) ?_;conv=>whnf)))
      refine cI (by rfl) (fun h9=>?_) (fun h9=>?_)
      · have hil : i < ls8.length := by have := of_decide_eq_true h9; simp only at this; omega
        have hill : i < (atT t 2).l.length := by omega
        have htr := hels8.at' i ls8[i] (atT t 2).l[i] (by simp [hil]) (by simp [hill])
        obtain ⟨b10, o10, rfl, hc10⟩ := hC8 i ls8[i] (by simp [hil])
        have hb10 := hF8 b10 o10 rfl (by omega)
        have hc10 := hc10.ext hx89 (by have := hR0 _ hb10.1; omega)
        have htr9 := htr.ext hx89 fun k _ h => by have := hR0 _ h; omega
        ((conv=>whnf);repeat(first|(refine mvT ?_;conv=>whnf)|(refine mvF ?_;conv=>whnf)|(refine cT (by rfl) ?_;conv=>whnf)|(refine cF (by rfl) ?_;conv=>whnf)))
        refine ⟨b10, o10, rfl, ⟨by omega, by omega⟩, ?_⟩
        ((conv=>whnf);repeat(first|(refine mvT ?_;conv=>whnf)|(refine mvF ?_;conv=>whnf)|(refine cT (by rfl) ?_;conv=>whnf)|(refine cF (by rfl) ?_;conv=>whnf)))
        refine ⟨ls8[i], htr.len, by rw [Int.toNat_natCast]; exact hc10, ?_⟩
        ((conv=>whnf);repeat(first|(refine mvT ?_;conv=>whnf)|(refine mvF ?_;conv=>whnf)|(refine cT (by rfl) ?_;conv=>whnf)|(refine cF (by rfl) ?_;conv=>whnf)))
        intro b11 w11 hb11 ho11 hx11
        ((conv=>whnf);repeat(first|(refine mvT ?_;conv=>whnf)|(refine mvF ?_;conv=>whnf)|(refine cT (by rfl) ?_;conv=>whnf)|(refine cF (by rfl) ?_;conv=>whnf)))
        refine st_all ls8[i] ho11 htr.len rfl htr.ok ?_
        intro w12 ho12 hx12
        have hx912 : Ext nob w9 w12 := (hx11.st hx12 hb11)
        have htr12 := htr9.e0 hx912
        obtain ⟨sv6, lv6, uv6, ls6, hy, hn6, hsy, _⟩ := Tr.open ⟨ls8[i], rfl, htr12⟩
        have hci : ls8[i] = [.int .i64 ((atT t 2).l[i]).n, sv6, .bool ((atT t 2).l[i]).nl, lv6, uv6] := by
          have := congrArg Value.cells hy
          exact congrArg Array.toList this
        rw [hci] at ho12 htr12
        have hs912 := hx912.size
        have hs9c := hxc9.size
        ((conv=>whnf);repeat(first|(refine mvT ?_;conv=>whnf)|(refine mvF ?_;conv=>whnf)|(refine cT (by rfl) ?_;conv=>whnf)|(refine cF (by rfl) ?_;conv=>whnf)))
        refine ldS ((hp9.e0 hx912).cell rfl) ?_;((conv=>whnf);repeat(first|(refine mvT ?_;conv=>whnf)|(refine mvF ?_;conv=>whnf)|(refine cT (by rfl) ?_;conv=>whnf)|(refine cF (by rfl) ?_;conv=>whnf)))
        refine ldS (ho12.cell rfl) ?_;((conv=>whnf);repeat(first|(refine mvT ?_;conv=>whnf)|(refine mvF ?_;conv=>whnf)|(refine cT (by rfl) ?_;conv=>whnf)|(refine cF (by rfl) ?_;conv=>whnf)))
        intro b13 w14 hb13 ho13 hx13
        have hx913 := hx912.e0 hx13
        have hs913 := hx913.size
        ((conv=>whnf);repeat(first|(refine mvT ?_;conv=>whnf)|(refine mvF ?_;conv=>whnf)|(refine cT (by rfl) ?_;conv=>whnf)|(refine cF (by rfl) ?_;conv=>whnf)))
        refine app_struct (ms := [[.int .i32 (IntKind.i32.wrap ((atT t 2).l[i]).n)]]) rfl (hos9.e0 hx913) (src_one ho13 rfl rfl) (by simp) (rfl) rfl ⟨by simp only [List.length_singleton, hesl]; omega, by simp only [List.length_singleton, hesl]; omega⟩ (by omega) ?_
        intro v15 w15 hos15 hx15 hb15 hnn15
        obtain ⟨a15, n15, c15, rfl⟩ : ∃ a n c, v15 = .slice a n c := by
          obtain ⟨a, c, h, _⟩ := hos15.shape
          exact ⟨a, _, c, h⟩
        have hpsl : ¬ sl.ownBlock = some p := fun h => by have := hos9.blk p h; omega
        have ho15 := (hp9.e0 hx913).ext hx15 hpsl
        ((conv=>whnf);repeat(first|(refine mvT ?_;conv=>whnf)|(refine mvF ?_;conv=>whnf)|(refine cT (by rfl) ?_;conv=>whnf)|(refine cF (by rfl) ?_;conv=>whnf)))
        refine st_cell (o := 17) (v := .slice a15 n15 c15) ho15 rfl (by omega) rfl (by simp) rfl ?_
        intro w16 ho16 hx16
        ((conv=>whnf);repeat(first|(refine mvT ?_;conv=>whnf)|(refine mvF ?_;conv=>whnf)|(refine cT (by rfl) ?_;conv=>whnf)|(refine cF (by rfl) ?_;conv=>whnf)))
        have hx916 : Ext (fun k => k = p ∨ wc.heap.size ≤ k) w9 w16 := ((hx913.mono fun _ _ f => f.elim).trans hx15 fun k _ h => .inr (hos9.blk k h)).trans hx16 fun _ _ h => .inl h
        have hos16 := hos15.ext hx16 fun k hk h => by have := hos15.blk k hk; omega
        refine ⟨(i + 1, _), ⟨rfl, rfl, rfl, rfl, rfl, inc_eq (by rw [maxLen_eq] at hm8; omega), trivial⟩, ⟨⟨hx09.trans hx916 fun k hk h => by omega, hxc9.trans hx916 fun _ _ h => h, hx89.trans hx916 fun k hk h => by omega, by simp only; omega, hnn15 hnn⟩, ho16, es ++ [[.int .i32 (IntKind.i32.wrap ((atT t 2).l[i]).n)]], hos16, by simp [hesl], ?_⟩, by simp only; omega⟩
        intro j c x hj hx
        rcases Nat.lt_or_ge j es.length with hjl | hjl
        · rw [List.getElem?_append_left hjl] at hj
          exact hesr j c x hj hx
        · have hj0 : j = es.length := by have := (List.getElem?_eq_some_iff.1 hj).1; simp at this; omega
          subst hj0
          rw [List.getElem?_append_right (Nat.le_refl _), Nat.sub_self, List.getElem?_cons_zero, Option.some.injEq] at hj
          subst hj
          rw [hesl, List.getElem?_eq_getElem hill, Option.some.injEq] at hx
          subst hx
          rfl
      have hil : i = ls8.length := by have := of_decide_eq_false h9; simp only at this; omega
      ((conv=>whnf);repeat(first|(refine mvT ?_;conv=>whnf)|(refine mvF ?_;conv=>whnf)|(refine cT (by rfl) ?_;conv=>whnf)|(refine cF (by rfl) ?_;conv=>whnf)))
      have hli : ListR true 1 (fun c x => c = [.int .i32 (IntKind.i32.wrap x.n)]) w9 (fun k => k ≠ p ∧ k ≠ q ∧ (R0 k ∨ w0.heap.size ≤ k)) sl (atT t 2) := by
        refine .inr ⟨hnl, fun _ => ?_, es, hos9.sl fun k hk => ⟨by omega, by omega, .inr (by omega)⟩, by omega, fun j c x hj hx => hesr j c x hj hx⟩
        rcases hos9.own.2 with ⟨e, _⟩ | ⟨g, cap, cur, e, _⟩
        · exact absurd e hnn
        · exact ⟨_, _, _, e⟩
      exact ⟨sl, ⟨rfl, rfl, rfl, trivial⟩, hx09, hp9, ho.ext hxc9 (by omega), hoq.ext hxc9 (by have := hoq.lt; omega), hc0, hli⟩
    · have hnl : (atT t 2).nl = true := by simpa using hnl
      ((conv=>whnf);repeat(first|(refine mvT ?_;conv=>whnf)|(refine mvF ?_;conv=>whnf)|(refine cT (by rfl) ?_;conv=>whnf)|(refine cF (by rfl) ?_;conv=>whnf)))
      exact ⟨_, ⟨rfl, rfl, rfl, trivial⟩, hx0.tr0 hxa, hp.e0 hxa, ho.e0 hxa, hoq.e0 hxa, hc0, .inl ⟨hnl, rfl⟩⟩
  clear hfl
  rintro c2 wc ⟨hx0, hp, ho, hoq, hc0, hc2⟩
  ((conv=>whnf);repeat(first|(refine mvT ?_;conv=>whnf)|(refine mvF ?_;conv=>whnf)|(refine cT (by rfl) ?_;conv=>whnf)|(refine cF (by rfl) ?_;conv=>whnf)))
  refine ldS (ho.cell rfl) ?_;((conv=>whnf);repeat(first|(refine mvT ?_;conv=>whnf)|(refine mvF ?_;conv=>whnf)|(refine cT (by rfl) ?_;conv=>whnf)|(refine cF (by rfl) ?_;conv=>whnf)))
  have hpN := hp.lt
  have h0N := hx0.size
  refine VL.loop (fun s : Nat × Value => [(1, .pointer (some ⟨b, 0, none⟩)), (2, .pointer (some ⟨q, 0, none⟩)), (3, .pointer (some ⟨p, 0, none⟩)), (46, .slice au us.length cu), (47, .int .i64 us.length), (48, .int .i64 s.1)])
    (fun s w' => (Ext (fun k => k = p) w0 w' ∧ Ext (fun k => k = p ∨ wc.heap.size ≤ k) wc w' ∧ s.1 ≤ us.length) ∧ Own w' p ty [bcell u0_0, bcell u0_1, bcell u0_2, bcell u0_3, bcell u0_4, bcell u0_5, bcell u0_6, bcell u0_7, bcell u0_8, bcell u0_9, bcell u0_10, bcell u0_11, bcell u0_12, bcell u0_13, bcell u0_14, bcell u0_15, str (atT t 1).s, c2, s.2] ∧ TagsO w' wc.heap.size R0 s.2 (t.u.take s.1)) (fun s => us.length - s.1) (0, .map none)
    ⟨rfl, rfl, rfl, rfl, rfl, rfl, trivial⟩ ⟨⟨hx0, Ext.refl _ _, Nat.zero_le _⟩, hp, TagsO.nil _ _ _⟩ ?_
  rintro ⟨i, m⟩ w9 ⟨⟨hx09, hxc9, hi⟩, hp9, hm9⟩
  dsimp only at hi hp9 hm9
  ((conv=>whnf);repeat(first|(refine mvT ?_;conv=>whnf)|(refine mvF ?_;conv=>whnf)|(refine cT (by rfl) ?_;conv=>whnf)|(refine cF (by rfl) ?_;conv=>whnf)))
  refine cI (by rfl) (fun h9=>?_) (fun h9=>?_)
  · have hil : i < us.length := by have := of_decide_eq_true h9; simp only at this; omega
    have hilu : i < t.u.length := by omega
    obtain ⟨hkey, bv, hci, hbv⟩ := huc i us[i] t.u[i] (by simp [hil]) (by simp [hilu])
    obtain ⟨b10, o10, rfl, hc10⟩ := husC i us[i] (by simp [hil])
    have hb10 := husF b10 o10 rfl (by omega)
    rw [hci] at hc10
    obtain ⟨av, cv, rfl, _⟩ := hbv.view
    have hc10 := hc10.ext hx09 (hR0 _ hb10.1).2
    have hbv9 := hbv.ext hx09 fun k _ h => (hR0 k h).2
    ((conv=>whnf);repeat(first|(refine mvT ?_;conv=>whnf)|(refine mvF ?_;conv=>whnf)|(refine cT (by rfl) ?_;conv=>whnf)|(refine cF (by rfl) ?_;conv=>whnf)))
    refine ⟨b10, o10, rfl, ⟨by omega, by omega⟩, ?_⟩
    ((conv=>whnf);repeat(first|(refine mvT ?_;conv=>whnf)|(refine mvF ?_;conv=>whnf)|(refine cT (by rfl) ?_;conv=>whnf)|(refine cF (by rfl) ?_;conv=>whnf)))
    refine ⟨_, rfl, by rw [Int.toNat_natCast]; exact hc10, ?_⟩
    ((conv=>whnf);repeat(first|(refine mvT ?_;conv=>whnf)|(refine mvF ?_;conv=>whnf)|(refine cT (by rfl) ?_;conv=>whnf)|(refine cF (by rfl) ?_;conv=>whnf)))
    intro b11 w11 hb11 ho11 hx11
    ((conv=>whnf);repeat(first|(refine mvT ?_;conv=>whnf)|(refine mvF ?_;conv=>whnf)|(refine cT (by rfl) ?_;conv=>whnf)|(refine cF (by rfl) ?_;conv=>whnf)))
    refine st_all [.int .u32 (t.u[i].1 : Int), .slice av (t.u[i]).2.length cv] ho11 rfl rfl rfl ?_
    intro w12 ho12 hx12
    have hx912 : Ext nob w9 w12 := (hx11.st hx12 hb11)
    ((conv=>whnf);repeat(first|(refine mvT ?_;conv=>whnf)|(refine mvF ?_;conv=>whnf)|(refine cT (by rfl) ?_;conv=>whnf)|(refine cF (by rfl) ?_;conv=>whnf)))
    refine ldS (ho12.cell rfl) ?_;((conv=>whnf);repeat(first|(refine mvT ?_;conv=>whnf)|(refine mvF ?_;conv=>whnf)|(refine cT (by rfl) ?_;conv=>whnf)|(refine cF (by rfl) ?_;conv=>whnf)))
    refine ldS (ho12.cell rfl) ?_;((conv=>whnf);repeat(first|(refine mvT ?_;conv=>whnf)|(refine mvF ?_;conv=>whnf)|(refine cT (by rfl) ?_;conv=>whnf)|(refine cF (by rfl) ?_;conv=>whnf)))
    have hnew : ∀ x, x ∈ t.u.take i → x.1 ≠ (t.u[i]).1 := by
      intro x hx
      obtain ⟨j, hj, rfl⟩ := List.mem_take_iff_getElem.1 hx
      have := List.pairwise_iff_getElem.1 hok.2.rise j i (by omega) hilu (by omega)
      omega
    refine Does.mono (Tags_Set_does (o := 18) (N := wc.heap.size) (hp9.e0 hx912) rfl (hm9.e0 hx912) (Nat.le_trans hxc9.size hx912.size) hpN (fun k h => ⟨by have := (hR0 k h).1; omega, (hR0 k h).2⟩) (hbv9.e0 hx912) hnew) ?_
    rintro r13 w13 ⟨m13, hone, hp13, hm13, hx13⟩
    ((conv=>whnf);repeat(first|(refine mvT ?_;conv=>whnf)|(refine mvF ?_;conv=>whnf)|(refine cT (by rfl) ?_;conv=>whnf)|(refine cF (by rfl) ?_;conv=>whnf)))
    have hx913 : Ext (fun k => k = p ∨ wc.heap.size ≤ k) w9 w13 := (hx912.mono fun _ _ f => f.elim).trans hx13 fun _ _ h => h
    refine ⟨(i + 1, m13), ⟨rfl, rfl, rfl, rfl, rfl, inc_eq (by rw [maxLen_eq] at husm; omega), trivial⟩, ⟨⟨hx09.trans hx913 fun k hk h => by omega, hxc9.trans hx913 fun _ _ h => h, by simp only; omega⟩, hp13, ?_⟩, by simp only; omega⟩
    rw [List.take_succ_eq_append_getElem hilu]
    exact hm13
  have hil : i = us.length := by have := of_decide_eq_false h9; simp only at this; omega
  ((conv=>whnf);repeat(first|(refine mvT ?_;conv=>whnf)|(refine mvF ?_;conv=>whnf)|(refine cT (by rfl) ?_;conv=>whnf)|(refine cF (by rfl) ?_;conv=>whnf)))
  rw [hil, husl, List.take_length] at hm9
  refine ⟨_, rfl, hp9.cells, ?_⟩
  ((conv=>whnf);repeat(first|(refine mvT ?_;conv=>whnf)|(refine mvF ?_;conv=>whnf)|(refine cT (by rfl) ?_;conv=>whnf)|(refine cF (by rfl) ?_;conv=>whnf)))
  have hoq9 := hoq.ext hxc9 (by have := hoq.lt; omega)
  have hc2 := hc2.ext hxc9 (fun k _ h => by have := h.1; omega) (fun _ _ h => h)
  have hokc : okCells [bcell u0_0, bcell u0_1, bcell u0_2, bcell u0_3, bcell u0_4, bcell u0_5, bcell u0_6, bcell u0_7, bcell u0_8, bcell u0_9, bcell u0_10, bcell u0_11, bcell u0_12, bcell u0_13, bcell u0_14, bcell u0_15, str (atT t 1).s, c2, m] = true := ok_cons rfl (ok_cons rfl (ok_cons rfl (ok_cons rfl (ok_cons rfl (ok_cons rfl (ok_cons rfl (ok_cons rfl (ok_cons rfl (ok_cons rfl (ok_cons rfl (ok_cons rfl (ok_cons rfl (ok_cons rfl (ok_cons rfl (ok_cons rfl (ok_cons rfl (ok_cons hc2.one (ok_cons hm9.tags.one (ok_nil)))))))))))))))))))
  refine st_all [bcell u0_0, bcell u0_1, bcell u0_2, bcell u0_3, bcell u0_4, bcell u0_5, bcell u0_6, bcell u0_7, bcell u0_8, bcell u0_9, bcell u0_10, bcell u0_11, bcell u0_12, bcell u0_13, bcell u0_14, bcell u0_15, str (atT t 1).s, c2, m] hoq9 rfl hqlen hokc ?_
  intro we hoe hxe
  ((conv=>whnf);repeat(first|(refine mvT ?_;conv=>whnf)|(refine mvF ?_;conv=>whnf)|(refine cT (by rfl) ?_;conv=>whnf)|(refine cF (by rfl) ?_;conv=>whnf)))
  refine ⟨_, rfl, hoe.cells, ?_⟩
  have hxn : Ext nob w0 w9 := (Ext.refl nob w0).trans hx09 fun k hk e => by omega
  exact ⟨_, rfl, hokc, ⟨u0_0, u0_1, u0_2, u0_3, u0_4, u0_5, u0_6, u0_7, u0_8, u0_9, u0_10, u0_11, u0_12, u0_13, u0_14, u0_15, c2, m, rfl, hc0, (hc2.ext hxe (fun k _ h => h.2.1) (fun _ _ h => h)).mono (fun k _ h => h.2.2.imp (hRF k) id) (fun _ _ h => h), (hm9.tags.ext hxe (fun k _ h e => by rcases h with h | h; (have := (hR0 k h).1; omega); omega)).mono fun k _ h => h.imp (hRF k) (fun h => by omega)⟩, hxn.trans hxe fun k hk e => by omega⟩
theorem makeShareGroupDescribeResponseGroupMemberAssignment {F : Nat → Prop} {w0 : World} {u : Int} {x : Value} {t : T} (ht : Tr w0 F x t) (hok : partOK 6 u dShareGroupDescribeResponseGroupMemberAssignment t) :
    Does X.P 123 #[x] w0 fun r w' => ∃ cs : List Value, r = .agg cs.toArray ∧ okCells cs = true ∧ rShareGroupDescribeResponseGroupMemberAssignment w' (fun k => F k ∨ w0.heap.size ≤ k) cs t ∧ Ext nob w0 w' := by
  obtain ⟨R0, hR0, hRF, ht0⟩ : ∃ R0 : Nat → Prop, (∀ k, R0 k → k < w0.heap.size) ∧ (∀ k, R0 k → F k) ∧ Tr w0 R0 x t := ⟨fun k => k < w0.heap.size ∧ F k, fun k h => h.1, fun k h => h.2, ht.mono fun k h1 h2 => ⟨h1, h2⟩⟩
  clear ht
  obtain ⟨sv, lv, uv, ls, rfl, hn, hs, hl, hels, htg⟩ := ht0.open
  obtain ⟨us, hus, husl, huc⟩ := id htg
  obtain ⟨au, cu, rfl, husc, husm, husF, _, husC⟩ := hus.view
  refine Does.go (X := X) (l := [_]) Tryz.func123 rfl (by kernel_rfl) (by kernel_rfl) _ rfl ?_
  ((conv=>whnf);repeat(first|(refine mvT ?_;conv=>whnf)|(refine mvF ?_;conv=>whnf)|(refine cT (by rfl) ?_;conv=>whnf)|(refine cF (by rfl) ?_;conv=>whnf)))
  intro b wb hb ho hx
  ((conv=>whnf);repeat(first|(refine mvT ?_;conv=>whnf)|(refine mvF ?_;conv=>whnf)|(refine cT (by rfl) ?_;conv=>whnf)|(refine cF (by rfl) ?_;conv=>whnf)))
  intro q wq hqb hoq hxq
  ((conv=>whnf);repeat(first|(refine mvT ?_;conv=>whnf)|(refine mvF ?_;conv=>whnf)|(refine cT (by rfl) ?_;conv=>whnf)|(refine cF (by rfl) ?_;conv=>whnf)))
  intro p wc hpB hp hxp
  have hbl := ho.lt
  have hql := hoq.lt
  have hs1 := hx.size
  have hs2 := hxq.size
  have hpb : p ≠ b := by omega
  have hpq : p ≠ q := by omega
  have hwp : w0.heap.size ≤ p := by omega
  have hR0 : ∀ k, R0 k → k < w0.heap.size ∧ k ≠ p := fun k h => ⟨hR0 k h, by have := hR0 k h; omega⟩
  obtain ⟨ty, hp⟩ : ∃ T, Own wc p T [.slice none 0 0, .map none] := ⟨_, hp⟩
  have ho : Own wc b ImplTreeT [.int .i64 t.n, sv, .bool t.nl, lv, .slice au us.length cu] := (ho.e0 hxq).e0 hxp
  have hoq := hoq.e0 hxp
  obtain ⟨qT, qL, hqlen, hoq⟩ : ∃ T L, L.length = 2 ∧ Own wc q T L := ⟨_, _, rfl, hoq⟩
  have hx0 : Ext (fun k => k = p) w0 wc := ((hx.e0 hxq).e0 hxp).mono fun _ _ f => f.elim
  ((conv=>whnf);repeat(first|(refine mvT ?_;conv=>whnf)|(refine mvF ?_;conv=>whnf)|(refine cT (by rfl) ?_;conv=>whnf)|(refine cF (by rfl) ?_;conv=>whnf)))
  have hfl := fieldOK_list (hok.1 0 _ rfl)
  refine ⟨_, rfl, ho.cells, ?_⟩
  ((conv=>whnf);repeat(first|(refine mvT ?_;conv=>whnf)|(refine mvF ?_;conv=>whnf)|(refine cT (by rfl) ?_;conv=>whnf)|(refine cF (by rfl) ?_;conv=>whnf)))
  refine Does.mono (iat_does (ht0.ext hx0 fun k _ h => (hR0 k h).2) 0) ?_
  rintro ra wa ⟨hra, hxa⟩
  obtain ⟨sva, lva, uva, lsa, rfl, hna, hsa, hla, helsa, hua⟩ := hra.open
  ((conv=>whnf);repeat(first|(refine mvT ?_;conv=>whnf)|(refine mvF ?_;conv=>whnf)|(refine cT (by rfl) ?_;conv=>whnf)|(refine cF (by rfl) ?_;conv=>whnf)))
  refine VC.cutE (fun c : Value => [(1, .pointer (some ⟨b, 0, none⟩)), (2, .pointer (some ⟨q, 0, none⟩)), (3, .pointer (some ⟨p, 0, none⟩))]) (fun c w' => Ext (fun k => k = p) w0 w' ∧ Own w' p ty [c, .map none] ∧ Own w' b ImplTreeT [.int .i64 t.n, sv, .bool t.nl, lv, .slice au us.length cu] ∧ Own w' q qT qL ∧ ListR true 19 (rShareGroupDescribeResponseGroupMemberAssignmentTopicPartition w' (fun k => k ≠ p ∧ k ≠ q ∧ (R0 k ∨ w0.heap.size ≤ k))) w' (fun k => k ≠ p ∧ k ≠ q ∧ (R0 k ∨ w0.heap.size ≤ k)) c (atT t 0)) ?_ ?_
  · refine cI (by rfl) (fun hnl=>?_) (fun hnl=>?_)
    · have hnl : (atT t 0).nl = false := by simpa using hnl
      ((conv=>whnf);repeat(first|(refine mvT ?_;conv=>whnf)|(refine mvF ?_;conv=>whnf)|(refine cT (by rfl) ?_;conv=>whnf)|(refine cF (by rfl) ?_;conv=>whnf)))
      have hx1 := hx0.tr0 hxa
      refine ⟨_, rfl, (ho.e0 hxa).cells, ?_⟩
      ((conv=>whnf);repeat(first|(refine mvT ?_;conv=>whnf)|(refine mvF ?_;conv=>whnf)|(refine cT (by rfl) ?_;conv=>whnf)|(refine cF (by rfl) ?_;conv=>whnf)))
      refine Does.mono (iat_does (ht0.ext hx1 fun k _ h => (hR0 k h).2) 0) ?_
      rintro r5 w5 ⟨hr5, hx5⟩
      obtain ⟨sv5, lv5, uv5, ls5, rfl, hn5, hs5, hl5, hels5, hu5⟩ := hr5.open
      obtain ⟨a5, c5, rfl, _⟩ := hl5.view
      have hlen5 := hels5.len
      ((conv=>whnf);repeat(first|(refine mvT ?_;conv=>whnf)|(refine mvF ?_;conv=>whnf)|(refine cT (by rfl) ?_;conv=>whnf)|(refine cF (by rfl) ?_;conv=>whnf)))
      refine ⟨⟨by omega, by omega, by omega, by simp only [Int.toNat_natCast]; omega⟩, ⟨by decide, rfl⟩, ?_⟩
      intro b6 w6 hb6 ho6 hx6
      ((conv=>whnf);repeat(first|(refine mvT ?_;conv=>whnf)|(refine mvF ?_;conv=>whnf)|(refine cT (by rfl) ?_;conv=>whnf)|(refine cF (by rfl) ?_;conv=>whnf)))
      have hx56 := (hxa.e0 hx5).e0 hx6
      have hsz5 := (hxa.e0 hx5).size
      have hszc := hx0.size
      have hb6l := ho6.lt
      have hplc := hp.lt
      have hblc := ho.lt
      refine st_cell (o := 0) (v := .slice (some ⟨b6, 0, none⟩) 0 ls5.length) (hp.e0 hx56) rfl (by omega) rfl (by simp) rfl ?_
      intro w7 ho7 hx7
      ((conv=>whnf);repeat(first|(refine mvT ?_;conv=>whnf)|(refine mvF ?_;conv=>whnf)|(refine cT (by rfl) ?_;conv=>whnf)|(refine cF (by rfl) ?_;conv=>whnf)))
      have hx7c : Ext (fun k => k = p) wc w7 := (hx56.mono fun _ _ f => f.elim).trans hx7 fun _ _ h => h
      have hx07 := hx0.trans hx7c fun _ _ h => h
      refine ⟨_, rfl, (ho.ext hx7c (Ne.symm hpb)).cells, ?_⟩
      ((conv=>whnf);repeat(first|(refine mvT ?_;conv=>whnf)|(refine mvF ?_;conv=>whnf)|(refine cT (by rfl) ?_;conv=>whnf)|(refine cF (by rfl) ?_;conv=>whnf)))
      refine Does.mono (iat_does (ht0.ext hx07 fun k _ h => (hR0 k h).2) 0) ?_
      rintro r8 w8 ⟨hr8, hx8⟩
      obtain ⟨sv8, lv8, uv8, ls8, rfl, hn8, hs8, hl8, hels8, hu8⟩ := hr8.open
      obtain ⟨a8, c8, rfl, hc8, hm8, hF8, _, hC8⟩ := hl8.view
      have hlen8 := hels8.len
      ((conv=>whnf);repeat(first|(refine mvT ?_;conv=>whnf)|(refine mvF ?_;conv=>whnf)|(refine cT (by rfl) ?_;conv=>whnf)|(refine cF (by rfl) ?_;conv=>whnf)))
      have hx8c : Ext (fun k => k = p ∨ wc.heap.size ≤ k) wc w8 := (hx7c.tr0 hx8).mono fun _ _ h => .inl h
      have hx08 := hx07.tr0 hx8
      have hos8 := (OSl.mk0 (sz := 19) (n := ls5.length) (ho6.ext hx7 (by omega)) (by simp) (by rw [maxLen_eq]; omega) (B := wc.heap.size) (by omega)).e0 hx8
      refine VL.loop (fun s : Nat × Value => [(1, .pointer (some ⟨b, 0, none⟩)), (2, .pointer (some ⟨q, 0, none⟩)), (3, .pointer (some ⟨p, 0, none⟩)), (20, .slice a8 ls8.length c8), (21, .int .i64 ls8.length), (22, .int .i64 s.1)])
        (fun s w' => (Ext (fun k => k = p) w0 w' ∧ Ext (fun k => k = p ∨ wc.heap.size ≤ k) wc w' ∧ Ext (fun k => k = p ∨ w0.heap.size ≤ k) w8 w' ∧ s.1 ≤ ls8.length ∧ s.2 ≠ .slice none 0 0) ∧ Own w' p ty [s.2, .map none] ∧ ∃ es : List (List Value), OSl w' wc.heap.size 176 19 s.2 es ∧ es.length = s.1 ∧ ∀ (j : Nat) (c : List Value) (x : T), es[j]? = some c → (atT t 0).l[j]? = some x → rShareGroupDescribeResponseGroupMemberAssignmentTopicPartition w' (fun k => k ≠ p ∧ k ≠ q ∧ (R0 k ∨ w0.heap.size ≤ k) ∧ s.2.ownBlock ≠ some k) c x) (fun s => ls8.length - s.1) (0, .slice (some ⟨b6, 0, none⟩) 0 ls5.length)
        ⟨rfl, rfl, rfl, rfl, rfl, rfl, trivial⟩ ⟨⟨hx08, hx8c, Ext.refl _ _, Nat.zero_le _, by simp⟩, ho7.e0 hx8, [], hos8, rfl, by simp⟩ ?_
      rintro ⟨i, sl⟩ w9 ⟨⟨hx09, hxc9, hx89, hi, hnn⟩, hp9, es, hos9, hesl, hesr⟩
      dsimp only at hi hp9 hos9 hesl hesr hnn
      ((conv=>whnf);repeat(first|(refine mvT ?_;conv=>whnf)|(refine mvF ?_;conv=>whnf)|(refine cT (by rfl) ?_;conv=>whnf)|(refine cF (by rfl) ?_;conv=>whnf)))
      refine cI (by rfl) (fun h9=>?_) (fun h9=>?_)
      · have hil : i < ls8.length := by have := of_decide_eq_true h9; simp only at this; omega
        have hill : i < (atT t 0).l.length := by omega
        have htr := hels8.at' i ls8[i] (atT t 0).l[i] (by simp [hil]) (by simp [hill])
        obtain ⟨b10, o10, rfl, hc10⟩ := hC8 i ls8[i] (by simp [hil])
        have hb10 := hF8 b10 o10 rfl (by omega)
        have hc10 := hc10.ext hx89 (by have := hR0 _ hb10.1; omega)
        have htr9 := htr.ext hx89 fun k _ h => by have := hR0 _ h; omega
        ((conv=>whnf);repeat(first|(refine mvT ?_;conv=>whnf)|(refine mvF ?_;conv=>whnf)|(refine cT (by rfl) ?_;conv=>whnf)|(refine cF (by rfl) ?_;conv=>whnf)))
        refine ⟨b10, o10, rfl, ⟨by omega, by omega⟩, ?_⟩
        ((conv=>whnf);repeat(first|(refine mvT ?_;conv=>whnf)|(refine mvF ?_;conv=>whnf)|(refine cT (by rfl) ?_;conv=>whnf)|(refine cF (by rfl) ?_;conv=>whnf)))
        refine ⟨ls8[i], htr.len, by rw [Int.toNat_natCast]; exact hc10, ?_⟩
        ((conv=>whnf);repeat(first|(refine mvT ?_;conv=>whnf)|(refine mvF ?_;conv=>whnf)|(refine cT (by rfl) ?_;conv=>whnf)|(refine cF (by rfl) ?_;conv=>whnf)))
        intro b11 w11 hb11 ho11 hx11
        ((conv=>whnf);repeat(first|(refine mvT ?_;conv=>whnf)|(refine mvF ?_;conv=>whnf)|(refine cT (by rfl) ?_;conv=>whnf)|(refine cF (by rfl) ?_;conv=>whnf)))
        refine st_all ls8[i] ho11 htr.len rfl htr.ok ?_
        intro w12 ho12 hx12
        have hx912 : Ext nob w9 w12.drew := (hx11.st hx12 hb11).e0 (ext_drew _)
        have ho12 := ho12.e0 (ext_drew _)
        have htr12 := htr9.e0 hx912
        obtain ⟨sv6, lv6, uv6, ls6, hy, hn6, hsy, _⟩ := Tr.open ⟨ls8[i], rfl, htr12⟩
        have hci : ls8[i] = [.int .i64 ((atT t 0).l[i]).n, sv6, .bool ((atT t 0).l[i]).nl, lv6, uv6] := by
          have := congrArg Value.cells hy
          exact congrArg Array.toList this
        rw [hci] at ho12 htr12
        have hs912 := hx912.size
        have hs9c := hxc9.size
        ((conv=>whnf);repeat(first|(refine mvT ?_;conv=>whnf)|(refine mvF ?_;conv=>whnf)|(refine cT (by rfl) ?_;conv=>whnf)|(refine cF (by rfl) ?_;conv=>whnf)))
        refine VD.draw mixed (.q 0 (.q 1 (.q 2 (.eff 3 [1] (.eff 4 [1] (.eff 5 [] (.q 6 (.eff 7 [] (.done))))))))) (by kernel_rfl) ?_;((conv=>whnf);repeat(first|(refine mvT ?_;conv=>whnf)|(refine mvF ?_;conv=>whnf)|(refine cT (by rfl) ?_;conv=>whnf)|(refine cF (by rfl) ?_;conv=>whnf)))
        refine ldS ((hp9.e0 hx912).cell rfl) ?_;((conv=>whnf);repeat(first|(refine mvT ?_;conv=>whnf)|(refine mvF ?_;conv=>whnf)|(refine cT (by rfl) ?_;conv=>whnf)|(refine cF (by rfl) ?_;conv=>whnf)))
        refine ⟨_, rfl, ho12.cells, ?_⟩
        ((conv=>whnf);repeat(first|(refine mvT ?_;conv=>whnf)|(refine mvF ?_;conv=>whnf)|(refine cT (by rfl) ?_;conv=>whnf)|(refine cF (by rfl) ?_;conv=>whnf)))
        refine Does.mono (makeShareGroupDescribeResponseGroupMemberAssignmentTopicPartition (u := u) ⟨_, rfl, htr12⟩ ((hfl.2 _ (List.getElem_mem hill)).2.2 rfl)) ?_
        rintro r13 w13 ⟨es13, rfl, hok13, hr13, hxm13⟩
        obtain ⟨zu0_0, zu0_1, zu0_2, zu0_3, zu0_4, zu0_5, zu0_6, zu0_7, zu0_8, zu0_9, zu0_10, zu0_11, zu0_12, zu0_13, zu0_14, zu0_15, zc2, zm, rfl, _⟩ := id hr13
        have hx913 := hx912.e0 hxm13
        refine ⟨by (conv => whnf); exact ⟨⟨_, (hp9.e0 hx913).cell rfl, rfl, rfl⟩, trivial⟩, ?_⟩
        ((conv=>whnf);repeat(first|(refine mvT ?_;conv=>whnf)|(refine mvF ?_;conv=>whnf)|(refine cT (by rfl) ?_;conv=>whnf)|(refine cF (by rfl) ?_;conv=>whnf)))
        intro b13 w14 hb13 ho13 hx13
        have ho13 : Own w14 b13 176 [bcell zu0_0, bcell zu0_1, bcell zu0_2, bcell zu0_3, bcell zu0_4, bcell zu0_5, bcell zu0_6, bcell zu0_7, bcell zu0_8, bcell zu0_9, bcell zu0_10, bcell zu0_11, bcell zu0_12, bcell zu0_13, bcell zu0_14, bcell zu0_15, str (atT (atT t 0).l[i] 1).s, zc2, zm] := ho13
        have hr13 := rShareGroupDescribeResponseGroupMemberAssignmentTopicPartition_ext hr13 hx13 fun _ _ _ f => f
        have hx913 := hx913.e0 hx13
        refine ⟨by (conv => whnf); exact ⟨⟨_, (hp9.e0 hx913).cell rfl, rfl, rfl⟩, trivial⟩, ?_⟩
        have hs913 := hx913.size
        ((conv=>whnf);repeat(first|(refine mvT ?_;conv=>whnf)|(refine mvF ?_;conv=>whnf)|(refine cT (by rfl) ?_;conv=>whnf)|(refine cF (by rfl) ?_;conv=>whnf)))
        refine app_struct (ms := [[bcell zu0_0, bcell zu0_1, bcell zu0_2, bcell zu0_3, bcell zu0_4, bcell zu0_5, bcell zu0_6, bcell zu0_7, bcell zu0_8, bcell zu0_9, bcell zu0_10, bcell zu0_11, bcell zu0_12, bcell zu0_13, bcell zu0_14, bcell zu0_15, str (atT (atT t 0).l[i] 1).s, zc2, zm]]) rfl (hos9.e0 hx913) (src_one ho13 (rShareGroupDescribeResponseGroupMemberAssignmentTopicPartition_len hr13) rfl) (by simp) (by simpa only [List.flatten_cons, List.flatten_nil, List.append_nil] using hok13) rfl ⟨by simp only [List.length_singleton, hesl]; omega, by simp only [List.length_singleton, hesl]; omega⟩ (by omega) ?_
        intro v15 w15 hos15 hx15 hb15 hnn15
        obtain ⟨a15, n15, c15, rfl⟩ : ∃ a n c, v15 = .slice a n c := by
          obtain ⟨a, c, h, _⟩ := hos15.shape
          exact ⟨a, _, c, h⟩
        have hpsl : ¬ sl.ownBlock = some p := fun h => by have := hos9.blk p h; omega
        have ho15 := (hp9.e0 hx913).ext hx15 hpsl
        ((conv=>whnf);repeat(first|(refine mvT ?_;conv=>whnf)|(refine mvF ?_;conv=>whnf)|(refine cT (by rfl) ?_;conv=>whnf)|(refine cF (by rfl) ?_;conv=>whnf)))
        refine st_cell (o := 0) (v := .slice a15 n15 c15) ho15 rfl (by omega) rfl (by simp) rfl ?_
        intro w16 ho16 hx16
        ((conv=>whnf);repeat(first|(refine mvT ?_;conv=>whnf)|(refine mvF ?_;conv=>whnf)|(refine cT (by rfl) ?_;conv=>whnf)|(refine cF (by rfl) ?_;conv=>whnf)))
        have hx916 : Ext (fun k => k = p ∨ wc.heap.size ≤ k) w9 w16 := ((hx913.mono fun _ _ f => f.elim).trans hx15 fun k _ h => .inr (hos9.blk k h)).trans hx16 fun _ _ h => .inl h
        have hos16 := hos15.ext hx16 fun k hk h => by have := hos15.blk k hk; omega
        refine ⟨(i + 1, _), ⟨rfl, rfl, rfl, rfl, rfl, inc_eq (by rw [maxLen_eq] at hm8; omega), trivial⟩, ⟨⟨hx09.trans hx916 fun k hk h => by omega, hxc9.trans hx916 fun _ _ h => h, hx89.trans hx916 fun k hk h => by omega, by simp only; omega, hnn15 hnn⟩, ho16, es ++ [[bcell zu0_0, bcell zu0_1, bcell zu0_2, bcell zu0_3, bcell zu0_4, bcell zu0_5, bcell zu0_6, bcell zu0_7, bcell zu0_8, bcell zu0_9, bcell zu0_10, bcell zu0_11, bcell zu0_12, bcell zu0_13, bcell zu0_14, bcell zu0_15, str (atT (atT t 0).l[i] 1).s, zc2, zm]], hos16, by simp [hesl], ?_⟩, by simp only; omega⟩
        intro j c x hj hx
        have key : rShareGroupDescribeResponseGroupMemberAssignmentTopicPartition w14 (fun k => k ≠ p ∧ k ≠ q ∧ (R0 k ∨ w0.heap.size ≤ k) ∧ sl.ownBlock ≠ some k) c x := by
          rcases Nat.lt_or_ge j es.length with hjl | hjl
          · rw [List.getElem?_append_left hjl] at hj
            exact rShareGroupDescribeResponseGroupMemberAssignmentTopicPartition_ext (hesr j c x hj hx) hx913 fun _ _ _ f => f
          · have hj0 : j = es.length := by have := (List.getElem?_eq_some_iff.1 hj).1; simp at this; omega
            subst hj0
            rw [List.getElem?_append_right (Nat.le_refl _), Nat.sub_self, List.getElem?_cons_zero, Option.some.injEq] at hj
            subst hj
            rw [hesl, List.getElem?_eq_getElem hill, Option.some.injEq] at hx
            subst hx
            exact rShareGroupDescribeResponseGroupMemberAssignmentTopicPartition_mono hr13 fun k hk h => by
              have hkp : k ≠ p := by rcases h with h | h; exact (hR0 k h).2; omega
              have hkq : k ≠ q := by rcases h with h | h; (have := (hR0 k h).1; omega); omega
              exact ⟨hkp, hkq, h.imp id (fun h => by omega), fun e => by have := hos9.own.lt k e; rcases h with h | h; (have := (hR0 k h).1; have := hos9.blk k e; omega); omega⟩
        have key2 := rShareGroupDescribeResponseGroupMemberAssignmentTopicPartition_ext (rShareGroupDescribeResponseGroupMemberAssignmentTopicPartition_ext (rShareGroupDescribeResponseGroupMemberAssignmentTopicPartition_mono key (F' := fun k => (fun k => k ≠ p ∧ k ≠ q ∧ (R0 k ∨ w0.heap.size ≤ k) ∧ sl.ownBlock ≠ some k) k ∧ k < w14.heap.size) fun k hk h => ⟨h, hk⟩) hx15 fun k _ h => h.1.2.2.2) hx16 fun k _ h => h.1.1
        exact rShareGroupDescribeResponseGroupMemberAssignmentTopicPartition_mono key2 fun k _ h => ⟨h.1.1, h.1.2.1, h.1.2.2.1, fun e => by
          rcases hb15 with e2 | ⟨g, hg, hle⟩
          · exact h.1.2.2.2 (e2 ▸ e)
          · have e : (Value.slice a15 n15 c15).ownBlock = some k := e
            rw [hg, Option.some.injEq] at e
            have := h.2
            omega⟩
      have hil : i = ls8.length := by have := of_decide_eq_false h9; simp only at this; omega
      ((conv=>whnf);repeat(first|(refine mvT ?_;conv=>whnf)|(refine mvF ?_;conv=>whnf)|(refine cT (by rfl) ?_;conv=>whnf)|(refine cF (by rfl) ?_;conv=>whnf)))
      have hli : ListR true 19 (rShareGroupDescribeResponseGroupMemberAssignmentTopicPartition w9 (fun k => k ≠ p ∧ k ≠ q ∧ (R0 k ∨ w0.heap.size ≤ k))) w9 (fun k => k ≠ p ∧ k ≠ q ∧ (R0 k ∨ w0.heap.size ≤ k)) sl (atT t 0) := by
        refine .inr ⟨hnl, fun _ => ?_, es, hos9.sl fun k hk => ⟨by omega, by omega, .inr (by omega)⟩, by omega, fun j c x hj hx => rShareGroupDescribeResponseGroupMemberAssignmentTopicPartition_mono (hesr j c x hj hx) fun k _ h => ⟨h.1, h.2.1, h.2.2.1⟩⟩
        rcases hos9.own.2 with ⟨e, _⟩ | ⟨g, cap, cur, e, _⟩
        · exact absurd e hnn
        · exact ⟨_, _, _, e⟩
      exact ⟨sl, ⟨rfl, rfl, rfl, trivial⟩, hx09, hp9, ho.ext hxc9 (by omega), hoq.ext hxc9 (by have := hoq.lt; omega), hli⟩
    · have hnl : (atT t 0).nl = true := by simpa using hnl
      ((conv=>whnf);repeat(first|(refine mvT ?_;conv=>whnf)|(refine mvF ?_;conv=>whnf)|(refine cT (by rfl) ?_;conv=>whnf)|(refine cF (by rfl) ?_;conv=>whnf)))
      exact ⟨_, ⟨rfl, rfl, rfl, trivial⟩, hx0.tr0 hxa, hp.e0 hxa, ho.e0 hxa, hoq.e0 hxa, .inl ⟨hnl, rfl⟩⟩
  clear hfl
  rintro c0 wc ⟨hx0, hp, ho, hoq, hc0⟩
  ((conv=>whnf);repeat(first|(refine mvT ?_;conv=>whnf)|(refine mvF ?_;conv=>whnf)|(refine cT (by rfl) ?_;conv=>whnf)|(refine cF (by rfl) ?_;conv=>whnf)))
  refine ldS (ho.cell rfl) ?_;((conv=>whnf);repeat(first|(refine mvT ?_;conv=>whnf)|(refine mvF ?_;conv=>whnf)|(refine cT (by rfl) ?_;conv=>whnf)|(refine cF (by rfl) ?_;conv=>whnf)))
  have hpN := hp.lt
  have h0N := hx0.size
  refine VL.loop (fun s : Nat × Value => [(1, .pointer (some ⟨b, 0, none⟩)), (2, .pointer (some ⟨q, 0, none⟩)), (3, .pointer (some ⟨p, 0, none⟩)), (35, .slice au us.length cu), (36, .int .i64 us.length), (37, .int .i64 s.1)])
    (fun s w' => (Ext (fun k => k = p) w0 w' ∧ Ext (fun k => k = p ∨ wc.heap.size ≤ k) wc w' ∧ s.1 ≤ us.length) ∧ Own w' p ty [c0, s.2] ∧ TagsO w' wc.heap.size R0 s.2 (t.u.take s.1)) (fun s => us.length - s.1) (0, .map none)
    ⟨rfl, rfl, rfl, rfl, rfl, rfl, trivial⟩ ⟨⟨hx0, Ext.refl _ _, Nat.zero_le _⟩, hp, TagsO.nil _ _ _⟩ ?_
  rintro ⟨i, m⟩ w9 ⟨⟨hx09, hxc9, hi⟩, hp9, hm9⟩
  dsimp only at hi hp9 hm9
  ((conv=>whnf);repeat(first|(refine mvT ?_;conv=>whnf)|(refine mvF ?_;conv=>whnf)|(refine cT (by rfl) ?_;conv=>whnf)|(refine cF (by rfl) ?_;conv=>whnf)))
  refine cI (by rfl) (fun h9=>?_) (fun h9=>?_)
  · have hil : i < us.length := by have := of_decide_eq_true h9; simp only at this; omega
    have hilu : i < t.u.length := by omega
    obtain ⟨hkey, bv, hci, hbv⟩ := huc i us[i] t.u[i] (by simp [hil]) (by simp [hilu])
    obtain ⟨b10, o10, rfl, hc10⟩ := husC i us[i] (by simp [hil])
    have hb10 := husF b10 o10 rfl (by omega)
    rw [hci] at hc10
    obtain ⟨av, cv, rfl, _⟩ := hbv.view
    have hc10 := hc10.ext hx09 (hR0 _ hb10.1).2
    have hbv9 := hbv.ext hx09 fun k _ h => (hR0 k h).2
    ((conv=>whnf);repeat(first|(refine mvT ?_;conv=>whnf)|(refine mvF ?_;conv=>whnf)|(refine cT (by rfl) ?_;conv=>whnf)|(refine cF (by rfl) ?_;conv=>whnf)))
    refine ⟨b10, o10, rfl, ⟨by omega, by omega⟩, ?_⟩
    ((conv=>whnf);repeat(first|(refine mvT ?_;conv=>whnf)|(refine mvF ?_;conv=>whnf)|(refine cT (by rfl) ?_;conv=>whnf)|(refine cF (by rfl) ?_;conv=>whnf)))
    refine ⟨_, rfl, by rw [Int.toNat_natCast]; exact hc10, ?_⟩
    ((conv=>whnf);repeat(first|(refine mvT ?_;conv=>whnf)|(refine mvF ?_;conv=>whnf)|(refine cT (by rfl) ?_;conv=>whnf)|(refine cF (by rfl) ?_;conv=>whnf)))
    intro b11 w11 hb11 ho11 hx11
    ((conv=>whnf);repeat(first|(refine mvT ?_;conv=>whnf)|(refine mvF ?_;conv=>whnf)|(refine cT (by rfl) ?_;conv=>whnf)|(refine cF (by rfl) ?_;conv=>whnf)))
    refine st_all [.int .u32 (t.u[i].1 : Int), .slice av (t.u[i]).2.length cv] ho11 rfl rfl rfl ?_
    intro w12 ho12 hx12
    have hx912 : Ext nob w9 w12 := (hx11.st hx12 hb11)
    ((conv=>whnf);repeat(first|(refine mvT ?_;conv=>whnf)|(refine mvF ?_;conv=>whnf)|(refine cT (by rfl) ?_;conv=>whnf)|(refine cF (by rfl) ?_;conv=>whnf)))
    refine ldS (ho12.cell rfl) ?_;((conv=>whnf);repeat(first|(refine mvT ?_;conv=>whnf)|(refine mvF ?_;conv=>whnf)|(refine cT (by rfl) ?_;conv=>whnf)|(refine cF (by rfl) ?_;conv=>whnf)))
    refine ldS (ho12.cell rfl) ?_;((conv=>whnf);repeat(first|(refine mvT ?_;conv=>whnf)|(refine mvF ?_;conv=>whnf)|(refine cT (by rfl) ?_;conv=>whnf)|(refine cF (by rfl) ?_;conv=>whnf)))
    have hnew : ∀ x, x ∈ t.u.take i → x.1 ≠ (t.u[i]).1 := by
      intro x hx
      obtain ⟨j, hj, rfl⟩ := List.mem_take_iff_getElem.1 hx
      have := List.pairwise_iff_getElem.1 hok.2.rise j i (by omega) hilu (by omega)
      omega
    refine Does.mono (Tags_Set_does (o := 1) (N := wc.heap.size) (hp9.e0 hx912) rfl (hm9.e0 hx912) (Nat.le_trans hxc9.size hx912.size) hpN (fun k h => ⟨by have := (hR0 k h).1; omega, (hR0 k h).2⟩) (hbv9.e0 hx912) hnew) ?_
    rintro r13 w13 ⟨m13, hone, hp13, hm13, hx13⟩
    ((conv=>whnf);repeat(first|(refine mvT ?_;conv=>whnf)|(refine mvF ?_;conv=>whnf)|(refine cT (by rfl) ?_;conv=>whnf)|(refine cF (by rfl) ?_;conv=>whnf)))
    have hx913 : Ext (fun k => k = p ∨ wc.heap.size ≤ k) w9 w13 := (hx912.mono fun _ _ f => f.elim).trans hx13 fun _ _ h => h
    refine ⟨(i + 1, m13), ⟨rfl, rfl, rfl, rfl, rfl, inc_eq (by rw [maxLen_eq] at husm; omega), trivial⟩, ⟨⟨hx09.trans hx913 fun k hk h => by omega, hxc9.trans hx913 fun _ _ h => h, by simp only; omega⟩, hp13, ?_⟩, by simp only; omega⟩
    rw [List.take_succ_eq_append_getElem hilu]
    exact hm13
  have hil : i = us.length := by have := of_decide_eq_false h9; simp only at this; omega
  ((conv=>whnf);repeat(first|(refine mvT ?_;conv=>whnf)|(refine mvF ?_;conv=>whnf)|(refine cT (by rfl) ?_;conv=>whnf)|(refine cF (by rfl) ?_;conv=>whnf)))
  rw [hil, husl, List.take_length] at hm9
  refine ⟨_, rfl, hp9.cells, ?_⟩
  ((conv=>whnf);repeat(first|(refine mvT ?_;conv=>whnf)|(refine mvF ?_;conv=>whnf)|(refine cT (by rfl) ?_;conv=>whnf)|(refine cF (by rfl) ?_;conv=>whnf)))
  have hoq9 := hoq.ext hxc9 (by have := hoq.lt; omega)
  have hc0 := hc0.ext hxc9 (fun k _ h => by have := h.1; omega) (fun _ _ h => rShareGroupDescribeResponseGroupMemberAssignmentTopicPartition_ext h hxc9 (fun k _ h => by have := h.1; omega))
  have hokc : okCells [c0, m] = true := ok_cons hc0.one (ok_cons hm9.tags.one (ok_nil))
  refine st_all [c0, m] hoq9 rfl hqlen hokc ?_
  intro we hoe hxe
  ((conv=>whnf);repeat(first|(refine mvT ?_;conv=>whnf)|(refine mvF ?_;conv=>whnf)|(refine cT (by rfl) ?_;conv=>whnf)|(refine cF (by rfl) ?_;conv=>whnf)))
  refine ⟨_, rfl, hoe.cells, ?_⟩
  have hxn : Ext nob w0 w9 := (Ext.refl nob w0).trans hx09 fun k hk e => by omega
  exact ⟨_, rfl, hokc, ⟨c0, m, rfl, (hc0.ext hxe (fun k _ h => h.2.1) (fun _ _ h => rShareGroupDescribeResponseGroupMemberAssignmentTopicPartition_ext h hxe (fun k _ h => h.2.1))).mono (fun k _ h => h.2.2.imp (hRF k) id) (fun _ _ h => rShareGroupDescribeResponseGroupMemberAssignmentTopicPartition_mono h fun k _ h => h.2.2.imp (hRF k) id), (hm9.tags.ext hxe (fun k _ h e => by rcases h with h | h; (have := (hR0 k h).1; omega); omega)).mono fun k _ h => h.imp (hRF k) (fun h => by omega)⟩, hxn.trans hxe fun k hk e => by omega⟩
theorem makeShareGroupDescribeResponseGroupMember {F : Nat → Prop} {w0 : World} {u : Int} {x : Value} {t : T} (ht : Tr w0 F x t) (hok : partOK 7 u dShareGroupDescribeResponseGroupMember t) :
    Does X.P 114 #[x] w0 fun r w' => ∃ cs : List Value, r = .agg cs.toArray ∧ okCells cs = true ∧ rShareGroupDescribeResponseGroupMember w' (fun k => F k ∨ w0.heap.size ≤ k) cs t ∧ Ext nob w0 w' := by
  obtain ⟨R0, hR0, hRF, ht0⟩ : ∃ R0 : Nat → Prop, (∀ k, R0 k → k < w0.heap.size) ∧ (∀ k, R0 k → F k) ∧ Tr w0 R0 x t := ⟨fun k => k < w0.heap.size ∧ F k, fun k h => h.1, fun k h => h.2, ht.mono fun k h1 h2 => ⟨h1, h2⟩⟩
  clear ht
  obtain ⟨sv, lv, uv, ls, rfl, hn, hs, hl, hels, htg⟩ := ht0.open
  obtain ⟨us, hus, husl, huc⟩ := id htg
  obtain ⟨au, cu, rfl, husc, husm, husF, _, husC⟩ := hus.view
  refine Does.go (X := X) (l := [_]) Tryz.func114 rfl (by kernel_rfl) (by kernel_rfl) _ rfl ?_
  ((conv=>whnf);repeat(first|(refine mvT ?_;conv=>whnf)|(refine mvF ?_;conv=>whnf)|(refine cT (by rfl) ?_;conv=>whnf)|(refine cF (by rfl) ?_;conv=>whnf)))
  intro b wb hb ho hx
  ((conv=>whnf);repeat(first|(refine mvT ?_;conv=>whnf)|(refine mvF ?_;conv=>whnf)|(refine cT (by rfl) ?_;conv=>whnf)|(refine cF (by rfl) ?_;conv=>whnf)))
  intro q wq hqb hoq hxq
  ((conv=>whnf);repeat(first|(refine mvT ?_;conv=>whnf)|(refine mvF ?_;conv=>whnf)|(refine cT (by rfl) ?_;conv=>whnf)|(refine cF (by rfl) ?_;conv=>whnf)))
  intro p wc hpB hp hxp
  have hbl := ho.lt
  have hql := hoq.lt
  have hs1 := hx.size
  have hs2 := hxq.size
  have hpb : p ≠ b := by omega
  have hpq : p ≠ q := by omega
  have hwp : w0.heap.size ≤ p := by omega
  have hR0 : ∀ k, R0 k → k < w0.heap.size ∧ k ≠ p := fun k h => ⟨hR0 k h, by have := hR0 k h; omega⟩
  obtain ⟨ty, hp⟩ : ∃ T, Own wc p T [str [], .pointer none, .int .i32 0, str [], str [], .slice none 0 0, .slice none 0 0, .map none, .map none] := ⟨_, hp⟩
  have ho : Own wc b ImplTreeT [.int .i64 t.n, sv, .bool t.nl, lv, .slice au us.length cu] := (ho.e0 hxq).e0 hxp
  have hoq := hoq.e0 hxp
  obtain ⟨qT, qL, hqlen, hoq⟩ : ∃ T L, L.length = 9 ∧ Own wc q T L := ⟨_, _, rfl, hoq⟩
  have hx0 : Ext (fun k => k = p) w0 wc := ((hx.e0 hxq).e0 hxp).mono fun _ _ f => f.elim
  ((conv=>whnf);repeat(first|(refine mvT ?_;conv=>whnf)|(refine mvF ?_;conv=>whnf)|(refine cT (by rfl) ?_;conv=>whnf)|(refine cF (by rfl) ?_;conv=>whnf)))
  refine ⟨_, rfl, ho.cells, ?_⟩
  ((conv=>whnf);repeat(first|(refine mvT ?_;conv=>whnf)|(refine mvF ?_;conv=>whnf)|(refine cT (by rfl) ?_;conv=>whnf)|(refine cF (by rfl) ?_;conv=>whnf)))
  refine Does.mono (iat_does (ht0.ext hx0 fun k _ h => (hR0 k h).2) 0) ?_
  rintro ra wa ⟨hra, hxa⟩
  obtain ⟨sva, lva, uva, lsa, rfl, hna, hsa, hla, helsa, hua⟩ := hra.open
  ((conv=>whnf);repeat(first|(refine mvT ?_;conv=>whnf)|(refine mvF ?_;conv=>whnf)|(refine cT (by rfl) ?_;conv=>whnf)|(refine cF (by rfl) ?_;conv=>whnf)))
  refine ⟨_, _, hsa, ?_⟩
  ((conv=>whnf);repeat(first|(refine mvT ?_;conv=>whnf)|(refine mvF ?_;conv=>whnf)|(refine cT (by rfl) ?_;conv=>whnf)|(refine cF (by rfl) ?_;conv=>whnf)))
  refine st_cell (o := 0) (v := str (atT t 0).s) (hp.e0 hxa) (rfl) (by omega) rfl (by simp) (rfl) ?_
  intro wc hoc hxc
  have hp : Own wc p ty [str (atT t 0).s, .pointer none, .int .i32 0, str [], str [], .slice none 0 0, .slice none 0 0, .map none, .map none] := hoc
  have ho := (ho.e0 hxa).ext hxc (Ne.symm hpb)
  have hx0 := (hx0.tr0 hxa).trans hxc fun _ _ h => h
  have hoq := (hoq.e0 hxa).ext hxc (Ne.symm hpq)
  ((conv=>whnf);repeat(first|(refine mvT ?_;conv=>whnf)|(refine mvF ?_;conv=>whnf)|(refine cT (by rfl) ?_;conv=>whnf)|(refine cF (by rfl) ?_;conv=>whnf)))
  refine ⟨_, rfl, ho.cells, ?_⟩
  ((conv=>whnf);repeat(first|(refine mvT ?_;conv=>whnf)|(refine mvF ?_;conv=>whnf)|(refine cT (by rfl) ?_;conv=>whnf)|(refine cF (by rfl) ?_;conv=>whnf)))
  refine Does.mono (iat_does (ht0.ext hx0 fun k _ h => (hR0 k h).2) 1) ?_
  rintro ra wa ⟨hra, hxa⟩
  ((conv=>whnf);repeat(first|(refine mvT ?_;conv=>whnf)|(refine mvF ?_;conv=>whnf)|(refine cT (by rfl) ?_;conv=>whnf)|(refine cF (by rfl) ?_;conv=>whnf)))
  have hq := (hp.e0 hxa).lt
  have hq2 := (hx0.tr0 hxa).size
  refine Does.mono (textOf_does hra) ?_
  rintro c1 wb ⟨hc1, h1, hxb⟩
  have hc1 := hc1.mono (F' := (fun k => k ≠ p ∧ k ≠ q ∧ (R0 k ∨ w0.heap.size ≤ k))) fun k _ h => ⟨by omega, by omega, .inr (by omega)⟩
  have hxa := hxa.e0 hxb
  ((conv=>whnf);repeat(first|(refine mvT ?_;conv=>whnf)|(refine mvF ?_;conv=>whnf)|(refine cT (by rfl) ?_;conv=>whnf)|(refine cF (by rfl) ?_;conv=>whnf)))
  refine st_cell (o := 1) (v := c1) (hp.e0 hxa) (cells_one h1) (by omega) rfl (by simp) (h1) ?_
  intro wc hoc hxc
  have hp : Own wc p ty [str (atT t 0).s, c1, .int .i32 0, str [], str [], .slice none 0 0, .slice none 0 0, .map none, .map none] := hoc
  have ho := (ho.e0 hxa).ext hxc (Ne.symm hpb)
  have hx0 := (hx0.tr0 hxa).trans hxc fun _ _ h => h
  have hoq := (hoq.e0 hxa).ext hxc (Ne.symm hpq)
  have hc1 := hc1.ext hxc fun k _ h => h.1
  ((conv=>whnf);repeat(first|(refine mvT ?_;conv=>whnf)|(refine mvF ?_;conv=>whnf)|(refine cT (by rfl) ?_;conv=>whnf)|(refine cF (by rfl) ?_;conv=>whnf)))
  refine ⟨_, rfl, ho.cells, ?_⟩
  ((conv=>whnf);repeat(first|(refine mvT ?_;conv=>whnf)|(refine mvF ?_;conv=>whnf)|(refine cT (by rfl) ?_;conv=>whnf)|(refine cF (by rfl) ?_;conv=>whnf)))
  refine Does.mono (iat_does (ht0.ext hx0 fun k _ h => (hR0 k h).2) 2) ?_
  rintro ra wa ⟨hra, hxa⟩
  obtain ⟨sva, lva, uva, lsa, rfl, hna, hsa, hla, helsa, hua⟩ := hra.open
  ((conv=>whnf);repeat(first|(refine mvT ?_;conv=>whnf)|(refine mvF ?_;conv=>whnf)|(refine cT (by rfl) ?_;conv=>whnf)|(refine cF (by rfl) ?_;conv=>whnf)))
  refine st_cell (o := 2) (v := .int .i32 (IntKind.i32.wrap (atT t 2).n)) (hp.e0 hxa) (rfl) (by omega) rfl (by simp) (rfl) ?_
  intro wc hoc hxc
  have hp : Own wc p ty [str (atT t 0).s, c1, .int .i32 (IntKind.i32.wrap (atT t 2).n), str [], str [], .slice none 0 0, .slice none 0 0, .map none, .map none] := hoc
  have ho := (ho.e0 hxa).ext hxc (Ne.symm hpb)
  have hx0 := (hx0.tr0 hxa).trans hxc fun _ _ h => h
  have hc1 := (hc1.ext hxa fun _ _ _ f => f).ext hxc fun k _ h => h.1
  have hoq := (hoq.e0 hxa).ext hxc (Ne.symm hpq)
  ((conv=>whnf);repeat(first|(refine mvT ?_;conv=>whnf)|(refine mvF ?_;conv=>whnf)|(refine cT (by rfl) ?_;conv=>whnf)|(refine cF (by rfl) ?_;conv=>whnf)))
  refine ⟨_, rfl, ho.cells, ?_⟩
  ((conv=>whnf);repeat(first|(refine mvT ?_;conv=>whnf)|(refine mvF ?_;conv=>whnf)|(refine cT (by rfl) ?_;conv=>whnf)|(refine cF (by rfl) ?_;conv=>whnf)))
  refine Does.mono (iat_does (ht0.ext hx0 fun k _ h => (hR0 k h).2) 3) ?_
  rintro ra wa ⟨hra, hxa⟩
  obtain ⟨sva, lva, uva, lsa, rfl, hna, hsa, hla, helsa, hua⟩ := hra.open
  ((conv=>whnf);repeat(first|(refine mvT ?_;conv=>whnf)|(refine mvF ?_;conv=>whnf)|(refine cT (by rfl) ?_;conv=>whnf)|(refine cF (by rfl) ?_;conv=>whnf)))
  refine ⟨_, _, hsa, ?_⟩
  ((conv=>whnf);repeat(first|(refine mvT ?_;conv=>whnf)|(refine mvF ?_;conv=>whnf)|(refine cT (by rfl) ?_;conv=>whnf)|(refine cF (by rfl) ?_;conv=>whnf)))
  refine st_cell (o := 3) (v := str (atT t 3).s) (hp.e0 hxa) (rfl) (by omega) rfl (by simp) (rfl) ?_
  intro wc hoc hxc
  have hp : Own wc p ty [str (atT t 0).s, c1, .int .i32 (IntKind.i32.wrap (atT t 2).n), str (atT t 3).s, str [], .slice none 0 0, .slice none 0 0, .map none, .map none] := hoc
  have ho := (ho.e0 hxa).ext hxc (Ne.symm hpb)
  have hx0 := (hx0.tr0 hxa).trans hxc fun _ _ h => h
  have hc1 := (hc1.ext hxa fun _ _ _ f => f).ext hxc fun k _ h => h.1
  have hoq := (hoq.e0 hxa).ext hxc (Ne.symm hpq)
  ((conv=>whnf);repeat(first|(refine mvT ?_;conv=>whnf)|(refine mvF ?_;conv=>whnf)|(refine cT (by rfl) ?_;conv=>whnf)|(refine cF (by rfl) ?_;conv=>whnf)))
  refine ⟨_, rfl, ho.cells, ?_⟩
  ((conv=>whnf);repeat(first|(refine mvT ?_;conv=>whnf)|(refine mvF ?_;conv=>whnf)|(refine cT (by rfl) ?_;conv=>whnf)|(refine cF (by rfl) ?_;conv=>whnf)))
  refine Does.mono (iat_does (ht0.ext hx0 fun k _ h => (hR0 k h).2) 4) ?_
  rintro ra wa ⟨hra, hxa⟩
  obtain ⟨sva, lva, uva, lsa, rfl, hna, hsa, hla, helsa, hua⟩ := hra.open
  ((conv=>whnf);repeat(first|(refine mvT ?_;conv=>whnf)|(refine mvF ?_;conv=>whnf)|(refine cT (by rfl) ?_;conv=>whnf)|(refine cF (by rfl) ?_;conv=>whnf)))
  refine ⟨_, _, hsa, ?_⟩
  ((conv=>whnf);repeat(first|(refine mvT ?_;conv=>whnf)|(refine mvF ?_;conv=>whnf)|(refine cT (by rfl) ?_;conv=>whnf)|(refine cF (by rfl) ?_;conv=>whnf)))
  refine st_cell (o := 4) (v := str (atT t 4).s) (hp.e0 hxa) (rfl) (by omega) rfl (by simp) (rfl) ?_
  intro wc hoc hxc
  have hp : Own wc p ty [str (atT t 0).s, c1, .int .i32 (IntKind.i32.wrap (atT t 2).n), str (atT t 3).s, str (atT t 4).s, .slice none 0 0, .slice none 0 0, .map none, .map none] := hoc
  have ho := (ho.e0 hxa).ext hxc (Ne.symm hpb)
  have hx0 := (hx0.tr0 hxa).trans hxc fun _ _ h => h
  have hc1 := (hc1.ext hxa fun _ _ _ f => f).ext hxc fun k _ h => h.1
  have hoq := (hoq.e0 hxa).ext hxc (Ne.symm hpq)
  ((conv=>whnf);repeat(first|(refine mvT ?_;conv=>whnf)|(refine mvF ?_;conv=>whnf)|(refine cT (by rfl) ?_;conv=>whnf)|(refine cF (by rfl) ?_;conv=>whnf)))
  have hfl := fieldOK_list (hok.1 5 _ rfl)
  refine ⟨_, rfl, ho.cells, ?_⟩
  ((conv=>whnf);repeat(first|(refine mvT ?_;conv=>whnf)|(refine mvF ?_;conv=>whnf)|(refine cT (by rfl) ?_;conv=>whnf)|(refine cF (by rfl) ?_;conv=>whnf)))
  refine Does.mono (iat_does (ht0.ext hx0 fun k _ h => (hR0 k h).2) 5) ?_
  rintro ra wa ⟨hra, hxa⟩
  obtain ⟨sva, lva, uva, lsa, rfl, hna, hsa, hla, helsa, hua⟩ := hra.open
  ((conv=>whnf);repeat(first|(refine mvT ?_;conv=>whnf)|(refine mvF ?_;conv=>whnf)|(refine cT (by rfl) ?_;conv=>whnf)|(refine cF (by rfl) ?_;conv=>whnf)))
  refine VC.cutE (fun c : Value => [(1, .pointer (some ⟨b, 0, none⟩)), (2, .pointer (some ⟨q, 0, none⟩)), (3, .pointer (some ⟨p, 0, none⟩))]) (fun c w' => Ext (fun k => k = p) w0 w' ∧ Own w' p ty [str (atT t 0).s, c1, .int .i32 (IntKind.i32.wrap (atT t 2).n), str (atT t 3).s, str (atT t 4).s, c, .slice none 0 0, .map none, .map none] ∧ Own w' b ImplTreeT [.int .i64 t.n, sv, .bool t.nl, lv, .slice au us.length cu] ∧ Own w' q qT qL ∧ NTextR w' (fun k => k ≠ p ∧ k ≠ q ∧ (R0 k ∨ w0.heap.size ≤ k)) c1 (atT t 1) ∧ ListR true 1 (fun c x => c = [str x.s]) w' (fun k => k ≠ p ∧ k ≠ q ∧ (R0 k ∨ w0.heap.size ≤ k)) c (atT t 5)) ?_ ?_
  · refine cI (by rfl) (fun hnl=>?_) (fun hnl=>?_)
    · have hnl : (atT t 5).nl = false := by simpa using hnl
      ((conv=>whnf);repeat(first|(refine mvT ?_;conv=>whnf)|(refine mvF ?_;conv=>whnf)|(refine cT (by rfl) ?_;conv=>whnf)|(refine cF (by rfl) ?_;conv=>whnf)))
      have hx1 := hx0.tr0 hxa
      refine ⟨_, rfl, (ho.e0 hxa).cells, ?_⟩
      ((conv=>whnf);repeat(first|(refine mvT ?_;conv=>whnf)|(refine mvF ?_;conv=>whnf)|(refine cT (by rfl) ?_;conv=>whnf)|(refine cF (by rfl) ?_;conv=>whnf)))
      refine Does.mono (iat_does (ht0.ext hx1 fun k _ h => (hR0 k h).2) 5) ?_
      rintro r5 w5 ⟨hr5, hx5⟩
      obtain ⟨sv5, lv5, uv5, ls5, rfl, hn5, hs5, hl5, hels5, hu5⟩ := hr5.open
      obtain ⟨a5, c5, rfl, _⟩ := hl5.view
      have hlen5 := hels5.len
      ((conv=>whnf);repeat(first|(refine mvT ?_;conv=>whnf)|(refine mvF ?_;conv=>whnf)|(refine cT (by rfl) ?_;conv=>whnf)|(refine cF (by rfl) ?_;conv=>whnf)))
      refine ⟨⟨by omega, by omega, by omega, by simp only [Int.toNat_natCast]; omega⟩, ⟨by decide, rfl⟩, ?_⟩
      intro b6 w6 hb6 ho6 hx6
      ((conv=>whnf);repeat(first|(refine mvT ?_;conv=>whnf)|(refine mvF ?_;conv=>whnf)|(refine cT (by rfl) ?_;conv=>whnf)|(refine cF (by rfl) ?_;conv=>whnf)))
      have hx56 := (hxa.e0 hx5).e0 hx6
      have hsz5 := (hxa.e0 hx5).size
      have hszc := hx0.size
      have hb6l := ho6.lt
      have hplc := hp.lt
      have hblc := ho.lt
      refine st_cell (o := 5) (v := .slice (some ⟨b6, 0, none⟩) 0 ls5.length) (hp.e0 hx56) rfl (by omega) rfl (by simp) rfl ?_
      intro w7 ho7 hx7
      ((conv=>whnf);repeat(first|(refine mvT ?_;conv=>whnf)|(refine mvF ?_;conv=>whnf)|(refine cT (by rfl) ?_;conv=>whnf)|(refine cF (by rfl) ?_;conv=>whnf)))
      have hx7c : Ext (fun k => k = p) wc w7 := (hx56.mono fun _ _ f => f.elim).trans hx7 fun _ _ h => h
      have hx07 := hx0.trans hx7c fun _ _ h => h
      refine ⟨_, rfl, (ho.ext hx7c (Ne.symm hpb)).cells, ?_⟩
      ((conv=>whnf);repeat(first|(refine mvT ?_;conv=>whnf)|(refine mvF ?_;conv=>whnf)|(refine cT (by rfl) ?_;conv=>whnf)|(refine cF (by rfl) ?_;conv=>whnf)))
      refine Does.mono (iat_does (ht0.ext hx07 fun k _ h => (hR0 k h).2) 5) ?_
      rintro r8 w8 ⟨hr8, hx8⟩
      obtain ⟨sv8, lv8, uv8, ls8, rfl, hn8, hs8, hl8, hels8, hu8⟩ := hr8.open
      obtain ⟨a8, c8, rfl, hc8, hm8, hF8, _, hC8⟩ := hl8.view
      have hlen8 := hels8.len
      ((conv=>whnf);repeat(first|(refine mvT ?_;conv=>whnf)|(refine mvF ?_;conv=>whnf)|(refine cT (by rfl) ?_;conv=>whnf)|(refine cF (by rfl) ?_;conv=>whnf)))
      have hx8c : Ext (fun k => k = p ∨ wc.heap.size ≤ k) wc w8 := (hx7c.tr0 hx8).mono fun _ _ h => .inl h
      have hx08 := hx07.tr0 hx8
      have hos8 := (OSl.mk0 (sz := 1) (n := ls5.length) (ho6.ext hx7 (by omega)) (by simp) (by rw [maxLen_eq]; omega) (B := wc.heap.size) (by omega)).e0 hx8
      refine VL.loop (fun s : Nat × Value => [(1, .pointer (some ⟨b, 0, none⟩)), (2, .pointer (some ⟨q, 0, none⟩)), (3, .pointer (some ⟨p, 0, none⟩)), (44, .slice a8 ls8.length c8), (45, .int .i64 ls8.length), (46, .int .i64 s.1)])
        (fun s w' => (Ext (fun k => k = p) w0 w' ∧ Ext (fun k => k = p ∨ wc.heap.size ≤ k) wc w' ∧ Ext (fun k => k = p ∨ w0.heap.size ≤ k) w8 w' ∧ s.1 ≤ ls8.length ∧ s.2 ≠ .slice none 0 0) ∧ Own w' p ty [str (atT t 0).s, c1, .int .i32 (IntKind.i32.wrap (atT t 2).n), str (atT t 3).s, str (atT t 4).s, s.2, .slice none 0 0, .map none, .map none] ∧ ∃ es : List (List Value), OSl w' wc.heap.size 9 1 s.2 es ∧ es.length = s.1 ∧ ∀ (j : Nat) (c : List Value) (x : T), es[j]? = some c → (atT t 5).l[j]? = some x → c = [str (x).s]) (fun s => ls8.length - s.1) (0, .slice (some ⟨b6, 0, none⟩) 0 ls5.length)
        ⟨rfl, rfl, rfl, rfl, rfl, rfl, trivial⟩ ⟨⟨hx08, hx8c, Ext.refl _ _, Nat.zero_le _, by simp⟩, ho7.e0 hx8, [], hos8, rfl, by simp⟩ ?_
      rintro ⟨i, sl⟩ w9 ⟨⟨hx09, hxc9, hx89, hi, hnn⟩, hp9, es, hos9, hesl, hesr⟩
      dsimp only at hi hp9 hos9 hesl hesr hnn
      ((conv=>whnf);repeat(first|(refine mvT ?_;conv=>whnf)|(refine mvF ?_;conv=>whnf)|(refine cT (by rfl) ?_;conv=>whnf)|(refine cF (by rfl) ?_;conv=>whnf)))
      refine cI (by rfl) (fun h9=>?_) (fun h9=>?_)
      · have hil : i < ls8.length := by have := of_decide_eq_true h9; simp only at this; omega
        have hill : i < (atT t 5).l.length := by omega
        have htr := hels8.at' i ls8[i] (atT t 5).l[i] (by simp [hil]) (by simp [hill])
        obtain ⟨b10, o10, rfl, hc10⟩ := hC8 i ls8[i] (by simp [hil])
        have hb10 := hF8 b10 o10 rfl (by omega)
        have hc10 := hc10.ext hx89 (by have := hR0 _ hb10.1; omega)
        have htr9 := htr.ext hx89 fun k _ h => by have := hR0 _ h; omega
        ((conv=>whnf);repeat(first|(refine mvT ?_;conv=>whnf)|(refine mvF ?_;conv=>whnf)|(refine cT (by rfl) ?_;conv=>whnf)|(refine cF (by rfl) ?_;conv=>whnf)))
        refine ⟨b10, o10, rfl, ⟨by omega, by omega⟩, ?_⟩
        ((conv=>whnf);repeat(first|(refine mvT ?_;conv=>whnf)|(refine mvF ?_;conv=>whnf)|(refine cT (by rfl) ?_;conv=>whnf)|(refine cF (by rfl) ?_;conv=>whnf)))
        refine ⟨ls8[i], htr.len, by rw [Int.toNat_natCast]; exact hc10, ?_⟩
        ((conv=>whnf);repeat(first|(refine mvT ?_;conv=>whnf)|(refine mvF ?_;conv=>whnf)|(refine cT (by rfl) ?_;conv=>whnf)|(refine cF (by rfl) ?_;conv=>whnf)))
        intro b11 w11 hb11 ho11 hx11
        ((conv=>whnf);repeat(first|(refine mvT ?_;conv=>whnf)|(refine mvF ?_;conv=>whnf)|(refine cT (by rfl) ?_;conv=>whnf)|(refine cF (by rfl) ?_;conv=>whnf)))
        refine st_all ls8[i] ho11 htr.len rfl htr.ok ?_
        intro w12 ho12 hx12
        have hx912 : Ext nob w9 w12 := (hx11.st hx12 hb11)
        have htr12 := htr9.e0 hx912
        obtain ⟨sv6, lv6, uv6, ls6, hy, hn6, hsy, _⟩ := Tr.open ⟨ls8[i], rfl, htr12⟩
        have hci : ls8[i] = [.int .i64 ((atT t 5).l[i]).n, sv6, .bool ((atT t 5).l[i]).nl, lv6, uv6] := by
          have := congrArg Value.cells hy
          exact congrArg Array.toList this
        rw [hci] at ho12 htr12
        have hs912 := hx912.size
        have hs9c := hxc9.size
        ((conv=>whnf);repeat(first|(refine mvT ?_;conv=>whnf)|(refine mvF ?_;conv=>whnf)|(refine cT (by rfl) ?_;conv=>whnf)|(refine cF (by rfl) ?_;conv=>whnf)))
        refine ldS ((hp9.e0 hx912).cell rfl) ?_;((conv=>whnf);repeat(first|(refine mvT ?_;conv=>whnf)|(refine mvF ?_;conv=>whnf)|(refine cT (by rfl) ?_;conv=>whnf)|(refine cF (by rfl) ?_;conv=>whnf)))
        refine ldS (ho12.cell rfl) ?_;((conv=>whnf);repeat(first|(refine mvT ?_;conv=>whnf)|(refine mvF ?_;conv=>whnf)|(refine cT (by rfl) ?_;conv=>whnf)|(refine cF (by rfl) ?_;conv=>whnf)))
        refine ⟨_, _, hsy, ?_⟩
        ((conv=>whnf);repeat(first|(refine mvT ?_;conv=>whnf)|(refine mvF ?_;conv=>whnf)|(refine cT (by rfl) ?_;conv=>whnf)|(refine cF (by rfl) ?_;conv=>whnf)))
        intro b13 w14 hb13 ho13 hx13
        have hx913 := hx912.e0 hx13
        have hs913 := hx913.size
        ((conv=>whnf);repeat(first|(refine mvT ?_;conv=>whnf)|(refine mvF ?_;conv=>whnf)|(refine cT (by rfl) ?_;conv=>whnf)|(refine cF (by rfl) ?_;conv=>whnf)))
        refine app_struct (ms := [[str ((atT t 5).l[i]).s]]) rfl (hos9.e0 hx913) (src_one ho13 rfl rfl) (by simp) (rfl) rfl ⟨by simp only [List.length_singleton, hesl]; omega, by simp only [List.length_singleton, hesl]; omega⟩ (by omega) ?_
        intro v15 w15 hos15 hx15 hb15 hnn15
        obtain ⟨a15, n15, c15, rfl⟩ : ∃ a n c, v15 = .slice a n c := by
          obtain ⟨a, c, h, _⟩ := hos15.shape
          exact ⟨a, _, c, h⟩
        have hpsl : ¬ sl.ownBlock = some p := fun h => by have := hos9.blk p h; omega
        have ho15 := (hp9.e0 hx913).ext hx15 hpsl
        ((conv=>whnf);repeat(first|(refine mvT ?_;conv=>whnf)|(refine mvF ?_;conv=>whnf)|(refine cT (by rfl) ?_;conv=>whnf)|(refine cF (by rfl) ?_;conv=>whnf)))
        refine st_cell (o := 5) (v := .slice a15 n15 c15) ho15 rfl (by omega) rfl (by simp) rfl ?_
        intro w16 ho16 hx16
        ((conv=>whnf);repeat(first|(refine mvT ?_;conv=>whnf)|(refine mvF ?_;conv=>whnf)|(refine cT (by rfl) ?_;conv=>whnf)|(refine cF (by rfl) ?_;conv=>whnf)))
        have hx916 : Ext (fun k => k = p ∨ wc.heap.size ≤ k) w9 w16 := ((hx913.mono fun _ _ f => f.elim).trans hx15 fun k _ h => .inr (hos9.blk k h)).trans hx16 fun _ _ h => .inl h
        have hos16 := hos15.ext hx16 fun k hk h => by have := hos15.blk k hk; omega
        refine ⟨(i + 1, _), ⟨rfl, rfl, rfl, rfl, rfl, inc_eq (by rw [maxLen_eq] at hm8; omega), trivial⟩, ⟨⟨hx09.trans hx916 fun k hk h => by omega, hxc9.trans hx916 fun _ _ h => h, hx89.trans hx916 fun k hk h => by omega, by simp only; omega, hnn15 hnn⟩, ho16, es ++ [[str ((atT t 5).l[i]).s]], hos16, by simp [hesl], ?_⟩, by simp only; omega⟩
        intro j c x hj hx
        rcases Nat.lt_or_ge j es.length with hjl | hjl
        · rw [List.getElem?_append_left hjl] at hj
          exact hesr j c x hj hx
        · have hj0 : j = es.length := by have := (List.getElem?_eq_some_iff.1 hj).1; simp at this; omega
          subst hj0
          rw [List.getElem?_append_right (Nat.le_refl _), Nat.sub_self, List.getElem?_cons_zero, Option.some.injEq] at hj
          subst hj
          rw [hesl, List.getElem?_eq_getElem hill, Option.some.injEq] at hx
          subst hx
          rfl
      have hil : i = ls8.length := by have := of_decide_eq_false h9; simp only at this; omega
      ((conv=>whnf);repeat(first|(refine mvT ?_;conv=>whnf)|(refine mvF ?_;conv=>whnf)|(refine cT (by rfl) ?_;conv=>whnf)|(refine cF (by rfl) ?_;conv=>whnf)))
      have hli : ListR true 1 (fun c x => c = [str x.s]) w9 (fun k => k ≠ p ∧ k ≠ q ∧ (R0 k ∨ w0.heap.size ≤ k)) sl (atT t 5) := by
        refine .inr ⟨hnl, fun _ => ?_, es, hos9.sl fun k hk => ⟨by omega, by omega, .inr (by omega)⟩, by omega, fun j c x hj hx => hesr j c x hj hx⟩
        rcases hos9.own.2 with ⟨e, _⟩ | ⟨g, cap, cur, e, _⟩
        · exact absurd e hnn
        · exact ⟨_, _, _, e⟩
      exact ⟨sl, ⟨rfl, rfl, rfl, trivial⟩, hx09, hp9, ho.ext hxc9 (by omega), hoq.ext hxc9 (by have := hoq.lt; omega), hc1.ext hxc9 (fun k _ h => by have := h.1; omega), hli⟩
    · have hnl : (atT t 5).nl = true := by simpa using hnl
      ((conv=>whnf);repeat(first|(refine mvT ?_;conv=>whnf)|(refine mvF ?_;conv=>whnf)|(refine cT (by rfl) ?_;conv=>whnf)|(refine cF (by rfl) ?_;conv=>whnf)))
      exact ⟨_, ⟨rfl, rfl, rfl, trivial⟩, hx0.tr0 hxa, hp.e0 hxa, ho.e0 hxa, hoq.e0 hxa, hc1.ext hxa (fun _ _ _ f => f), .inl ⟨hnl, rfl⟩⟩
  clear hfl
  rintro c5 wc ⟨hx0, hp, ho, hoq, hc1, hc5⟩
  ((conv=>whnf);repeat(first|(refine mvT ?_;conv=>whnf)|(refine mvF ?_;conv=>whnf)|(refine cT (by rfl) ?_;conv=>whnf)|(refine cF (by rfl) ?_;conv=>whnf)))
  refine ⟨_, rfl, ho.cells, ?_⟩
  ((conv=>whnf);repeat(first|(refine mvT ?_;conv=>whnf)|(refine mvF ?_;conv=>whnf)|(refine cT (by rfl) ?_;conv=>whnf)|(refine cF (by rfl) ?_;conv=>whnf)))
  refine Does.mono (iat_does (ht0.ext hx0 fun k _ h => (hR0 k h).2) 6) ?_
  rintro ra wa ⟨hra, hxa⟩
  ((conv=>whnf);repeat(first|(refine mvT ?_;conv=>whnf)|(refine mvF ?_;conv=>whnf)|(refine cT (by rfl) ?_;conv=>whnf)|(refine cF (by rfl) ?_;conv=>whnf)))
  have hq := (hp.e0 hxa).lt
  have hq2 := (hx0.tr0 hxa).size
  refine Does.mono (makeShareGroupDescribeResponseGroupMemberAssignment (u := u) hra (fieldOK_part (hok.1 6 _ rfl))) ?_
  rintro rb wb ⟨es, rfl, hok6, hc6, hxb⟩
  obtain ⟨c6_0, c6_1, rfl⟩ : ∃ c6_0 c6_1, es = [c6_0, c6_1] := by
    match es, rShareGroupDescribeResponseGroupMemberAssignment_len hc6 with
    | [c6_0, c6_1], _ => exact ⟨c6_0, c6_1, rfl⟩
  have hc6 := rShareGroupDescribeResponseGroupMemberAssignment_mono hc6 (F' := (fun k => k ≠ p ∧ k ≠ q ∧ (R0 k ∨ w0.heap.size ≤ k))) fun k _ h => by
    have hkp : k ≠ p := by rcases h with h | h; exact (hR0 k h).2; omega
    have hkq : k ≠ q := by rcases h with h | h; (have := (hR0 k h).1; omega); omega
    exact ⟨hkp, hkq, h.imp id fun h => by omega⟩
  have hxa := hxa.e0 hxb
  ((conv=>whnf);repeat(first|(refine mvT ?_;conv=>whnf)|(refine mvF ?_;conv=>whnf)|(refine cT (by rfl) ?_;conv=>whnf)|(refine cF (by rfl) ?_;conv=>whnf)))
  refine ⟨_, _, hp.e0 hxa, rfl, hok6, rfl, ?_⟩
  intro wc hoc hxc
  have hp : Own wc p ty [str (atT t 0).s, c1, .int .i32 (IntKind.i32.wrap (atT t 2).n), str (atT t 3).s, str (atT t 4).s, c5, c6_0, c6_1, .map none] := hoc
  have ho := (ho.e0 hxa).ext hxc (Ne.symm hpb)
  have hx0 := (hx0.tr0 hxa).trans hxc fun _ _ h => h
  have hc1 := (hc1.ext hxa fun _ _ _ f => f).ext hxc fun k _ h => h.1
  have hc5 := (hc5.ext hxa (fun _ _ _ f => f) (fun _ _ h => h)).ext hxc (fun k _ h => h.1) (fun _ _ h => h)
  have hoq := (hoq.e0 hxa).ext hxc (Ne.symm hpq)
  have hc6 := rShareGroupDescribeResponseGroupMemberAssignment_ext hc6 hxc fun k _ h => h.1
  ((conv=>whnf);repeat(first|(refine mvT ?_;conv=>whnf)|(refine mvF ?_;conv=>whnf)|(refine cT (by rfl) ?_;conv=>whnf)|(refine cF (by rfl) ?_;conv=>whnf)))
  refine ldS (ho.cell rfl) ?_;((conv=>whnf);repeat(first|(refine mvT ?_;conv=>whnf)|(refine mvF ?_;conv=>whnf)|(refine cT (by rfl) ?_;conv=>whnf)|(refine cF (by rfl) ?_;conv=>whnf)))
  have hpN := hp.lt
  have h0N := hx0.size
  refine VL.loop (fun s : Nat × Value => [(1, .pointer (some ⟨b, 0, none⟩)), (2, .pointer (some ⟨q, 0, none⟩)), (3, .pointer (some ⟨p, 0, none⟩)), (64, .slice au us.length cu), (65, .int .i64 us.length), (66, .int .i64 s.1)])
    (fun s w' => (Ext (fun k => k = p) w0 w' ∧ Ext (fun k => k = p ∨ wc.heap.size ≤ k) wc w' ∧ s.1 ≤ us.length) ∧ Own w' p ty [str (atT t 0).s, c1, .int .i32 (IntKind.i32.wrap (atT t 2).n), str (atT t 3).s, str (atT t 4).s, c5, c6_0, c6_1, s.2] ∧ TagsO w' wc.heap.size R0 s.2 (t.u.take s.1)) (fun s => us.length - s.1) (0, .map none)
    ⟨rfl, rfl, rfl, rfl, rfl, rfl, trivial⟩ ⟨⟨hx0, Ext.refl _ _, Nat.zero_le _⟩, hp, TagsO.nil _ _ _⟩ ?_
  rintro ⟨i, m⟩ w9 ⟨⟨hx09, hxc9, hi⟩, hp9, hm9⟩
  dsimp only at hi hp9 hm9
  ((conv=>whnf);repeat(first|(refine mvT ?_;conv=>whnf)|(refine mvF ?_;conv=>whnf)|(refine cT (by rfl) ?_;conv=>whnf)|(refine cF (by rfl) ?_;conv=>whnf)))
  refine cI (by rfl) (fun h9=>?_) (fun h9=>?_)
  · have hil : i < us.length := by have := of_decide_eq_true h9; simp only at this; omega
    have hilu : i < t.u.length := by omega
    obtain ⟨hkey, bv, hci, hbv⟩ := huc i us[i] t.u[i] (by simp [hil]) (by simp [hilu])
    obtain ⟨b10, o10, rfl, hc10⟩ := husC i us[i] (by simp [hil])
    have hb10 := husF b10 o10 rfl (by omega)
    rw [hci] at hc10
    obtain ⟨av, cv, rfl, _⟩ := hbv.view
    have hc10 := hc10.ext hx09 (hR0 _ hb10.1).2
    have hbv9 := hbv.ext hx09 fun k _ h => (hR0 k h).2
    ((conv=>whnf);repeat(first|(refine mvT ?_;conv=>whnf)|(refine mvF ?_;conv=>whnf)|(refine cT (by rfl) ?_;conv=>whnf)|(refine cF (by rfl) ?_;conv=>whnf)))
    refine ⟨b10, o10, rfl, ⟨by omega, by omega⟩, ?_⟩
    ((conv=>whnf);repeat(first|(refine mvT ?_;conv=>whnf)|(refine mvF ?_;conv=>whnf)|(refine cT (by rfl) ?_;conv=>whnf)|(refine cF (by rfl) ?_;conv=>whnf)))
    refine ⟨_, rfl, by rw [Int.toNat_natCast]; exact hc10, ?_⟩
    ((conv=>whnf);repeat(first|(refine mvT ?_;conv=>whnf)|(refine mvF ?_;conv=>whnf)|(refine cT (by rfl) ?_;conv=>whnf)|(refine cF (by rfl) ?_;conv=>whnf)))
    intro b11 w11 hb11 ho11 hx11
    ((conv=>whnf);repeat(first|(refine mvT ?_;conv=>whnf)|(refine mvF ?_;conv=>whnf)|(refine cT (by rfl) ?_;conv=>whnf)|(refine cF (by rfl) ?_;conv=>whnf)))
    refine st_all [.int .u32 (t.u[i].1 : Int), .slice av (t.u[i]).2.length cv] ho11 rfl rfl rfl ?_
    intro w12 ho12 hx12
    have hx912 : Ext nob w9 w12 := (hx11.st hx12 hb11)
    ((conv=>whnf);repeat(first|(refine mvT ?_;conv=>whnf)|(refine mvF ?_;conv=>whnf)|(refine cT (by rfl) ?_;conv=>whnf)|(refine cF (by rfl) ?_;conv=>whnf)))
    refine ldS (ho12.cell rfl) ?_;((conv=>whnf);repeat(first|(refine mvT ?_;conv=>whnf)|(refine mvF ?_;conv=>whnf)|(refine cT (by rfl) ?_;conv=>whnf)|(refine cF (by rfl) ?_;conv=>whnf)))
    refine ldS (ho12.cell rfl) ?_;((conv=>whnf);repeat(first|(refine mvT ?_;conv=>whnf)|(refine mvF ?_;conv=>whnf)|(refine cT (by rfl) ?_;conv=>whnf)|(refine cF (by rfl) ?_;conv=>whnf)))
    have hnew : ∀ x, x ∈ t.u.take i → x.1 ≠ (t.u[i]).1 := by
      intro x hx
      obtain ⟨j, hj, rfl⟩ := List.mem_take_iff_getElem.1 hx
      have := List.pairwise_iff_getElem.1 hok.2.rise j i (by omega) hilu (by omega)
      omega
    refine Does.mono (Tags_Set_does (o := 8) (N := wc.heap.size) (hp9.e0 hx912) rfl (hm9.e0 hx912) (Nat.le_trans hxc9.size hx912.size) hpN (fun k h => ⟨by have := (hR0 k h).1; omega, (hR0 k h).2⟩) (hbv9.e0 hx912) hnew) ?_
    rintro r13 w13 ⟨m13, hone, hp13, hm13, hx13⟩
    ((conv=>whnf);repeat(first|(refine mvT ?_;conv=>whnf)|(refine mvF ?_;conv=>whnf)|(refine cT (by rfl) ?_;conv=>whnf)|(refine cF (by rfl) ?_;conv=>whnf)))
    have hx913 : Ext (fun k => k = p ∨ wc.heap.size ≤ k) w9 w13 := (hx912.mono fun _ _ f => f.elim).trans hx13 fun _ _ h => h
    refine ⟨(i + 1, m13), ⟨rfl, rfl, rfl, rfl, rfl, inc_eq (by rw [maxLen_eq] at husm; omega), trivial⟩, ⟨⟨hx09.trans hx913 fun k hk h => by omega, hxc9.trans hx913 fun _ _ h => h, by simp only; omega⟩, hp13, ?_⟩, by simp only; omega⟩
    rw [List.take_succ_eq_append_getElem hilu]
    exact hm13
  have hil : i = us.length := by have := of_decide_eq_false h9; simp only at this; omega
  ((conv=>whnf);repeat(first|(refine mvT ?_;conv=>whnf)|(refine mvF ?_;conv=>whnf)|(refine cT (by rfl) ?_;conv=>whnf)|(refine cF (by rfl) ?_;conv=>whnf)))
  rw [hil, husl, List.take_length] at hm9
  refine ⟨_, rfl, hp9.cells, ?_⟩
  ((conv=>whnf);repeat(first|(refine mvT ?_;conv=>whnf)|(refine mvF ?_;conv=>whnf)|(refine cT (by rfl) ?_;conv=>whnf)|(refine cF (by rfl) ?_;conv=>whnf)))
  have hoq9 := hoq.ext hxc9 (by have := hoq.lt; omega)
  have hc6 := rShareGroupDescribeResponseGroupMemberAssignment_ext hc6 hxc9 (fun k _ h => by have := h.1; omega)
  have hc1 := hc1.ext hxc9 (fun k _ h => by have := h.1; omega)
  have hc5 := hc5.ext hxc9 (fun k _ h => by have := h.1; omega) (fun _ _ h => h)
  have hokc : okCells [str (atT t 0).s, c1, .int .i32 (IntKind.i32.wrap (atT t 2).n), str (atT t 3).s, str (atT t 4).s, c5, c6_0, c6_1, m] = true := ok_cons rfl (ok_cons hc1.one (ok_cons rfl (ok_cons rfl (ok_cons rfl (ok_cons hc5.one (ok_cons (ok_at hok6 0 rfl) (ok_cons (ok_at hok6 1 rfl) (ok_cons hm9.tags.one (ok_nil)))))))))
  refine st_all [str (atT t 0).s, c1, .int .i32 (IntKind.i32.wrap (atT t 2).n), str (atT t 3).s, str (atT t 4).s, c5, c6_0, c6_1, m] hoq9 rfl hqlen hokc ?_
  intro we hoe hxe
  ((conv=>whnf);repeat(first|(refine mvT ?_;conv=>whnf)|(refine mvF ?_;conv=>whnf)|(refine cT (by rfl) ?_;conv=>whnf)|(refine cF (by rfl) ?_;conv=>whnf)))
  refine ⟨_, rfl, hoe.cells, ?_⟩
  have hxn : Ext nob w0 w9 := (Ext.refl nob w0).trans hx09 fun k hk e => by omega
  exact ⟨_, rfl, hokc, ⟨c1, c5, c6_0, c6_1, m, rfl, (hc1.ext hxe (fun k _ h => h.2.1)).mono (fun k _ h => h.2.2.imp (hRF k) id), (hc5.ext hxe (fun k _ h => h.2.1) (fun _ _ h => h)).mono (fun k _ h => h.2.2.imp (hRF k) id) (fun _ _ h => h), rShareGroupDescribeResponseGroupMemberAssignment_mono (rShareGroupDescribeResponseGroupMemberAssignment_ext hc6 hxe (fun k _ h => h.2.1)) (fun k _ h => h.2.2.imp (hRF k) id), (hm9.tags.ext hxe (fun k _ h e => by rcases h with h | h; (have := (hR0 k h).1; omega); omega)).mono fun k _ h => h.imp (hRF k) (fun h => by omega)⟩, hxn.trans hxe fun k hk e => by omega⟩
theorem makeShareGroupDescribeResponseGroup {F : Nat → Prop} {w0 : World} {u : Int} {x : Value} {t : T} (ht : Tr w0 F x t) (hok : partOK 8 u dShareGroupDescribeResponseGroup t) :
    Does X.P 96 #[x] w0 fun r w' => ∃ cs : List Value, r = .agg cs.toArray ∧ okCells cs = true ∧ rShareGroupDescribeResponseGroup w' (fun k => F k ∨ w0.heap.size ≤ k) cs t ∧ Ext nob w0 w' := by
  obtain ⟨R0, hR0, hRF, ht0⟩ : ∃ R0 : Nat → Prop, (∀ k, R0 k → k < w0.heap.size) ∧ (∀ k, R0 k → F k) ∧ Tr w0 R0 x t := ⟨fun k => k < w0.heap.size ∧ F k, fun k h => h.1, fun k h => h.2, ht.mono fun k h1 h2 => ⟨h1, h2⟩⟩
  clear ht
  obtain ⟨sv, lv, uv, ls, rfl, hn, hs, hl, hels, htg⟩ := ht0.open
  obtain ⟨us, hus, husl, huc⟩ := id htg
  obtain ⟨au, cu, rfl, husc, husm, husF, _, husC⟩ := hus.view
  refine Does.go (X := X) (l := [_]) Tryz.func96 rfl (by kernel_rfl) (by kernel_rfl) _ rfl ?_
  ((conv=>whnf);repeat(first|(refine mvT ?_;conv=>whnf)|(refine mvF ?_;conv=>whnf)|(refine cT (by rfl) ?_;conv=>whnf)|(refine cF (by rfl) ?_;conv=>whnf)))
  intro b wb hb ho hx
  ((conv=>whnf);repeat(first|(refine mvT ?_;conv=>whnf)|(refine mvF ?_;conv=>whnf)|(refine cT (by rfl) ?_;conv=>whnf)|(refine cF (by rfl) ?_;conv=>whnf)))
  intro q wq hqb hoq hxq
  ((conv=>whnf);repeat(first|(refine mvT ?_;conv=>whnf)|(refine mvF ?_;conv=>whnf)|(refine cT (by rfl) ?_;conv=>whnf)|(refine cF (by rfl) ?_;conv=>whnf)))
  intro p wc hpB hp hxp
  have hbl := ho.lt
  have hql := hoq.lt
  have hs1 := hx.size
  have hs2 := hxq.size
  have hpb : p ≠ b := by omega
  have hpq : p ≠ q := by omega
  have hwp : w0.heap.size ≤ p := by omega
  have hR0 : ∀ k, R0 k → k < w0.heap.size ∧ k ≠ p := fun k h => ⟨hR0 k h, by have := hR0 k h; omega⟩
  obtain ⟨ty, hp⟩ : ∃ T, Own wc p T [.int .i16 0, .pointer none, str [], str [], .int .i32 0, .int .i32 0, str [], .slice none 0 0, .int .i32 0, .map none] := ⟨_, hp⟩
  have ho : Own wc b ImplTreeT [.int .i64 t.n, sv, .bool t.nl, lv, .slice au us.length cu] := (ho.e0 hxq).e0 hxp
  have hoq := hoq.e0 hxp
  obtain ⟨qT, qL, hqlen, hoq⟩ : ∃ T L, L.length = 10 ∧ Own wc q T L := ⟨_, _, rfl, hoq⟩
  have hx0 : Ext (fun k => k = p) w0 wc := ((hx.e0 hxq).e0 hxp).mono fun _ _ f => f.elim
  ((conv=>whnf);repeat(first|(refine mvT ?_;conv=>whnf)|(refine mvF ?_;conv=>whnf)|(refine cT (by rfl) ?_;conv=>whnf)|(refine cF (by rfl) ?_;conv=>whnf)))
  refine ⟨_, rfl, ho.cells, ?_⟩
  ((conv=>whnf);repeat(first|(refine mvT ?_;conv=>whnf)|(refine mvF ?_;conv=>whnf)|(refine cT (by rfl) ?_;conv=>whnf)|(refine cF (by rfl) ?_;conv=>whnf)))
  refine Does.mono (iat_does (ht0.ext hx0 fun k _ h => (hR0 k h).2) 0) ?_
  rintro ra wa ⟨hra, hxa⟩
  obtain ⟨sva, lva, uva, lsa, rfl, hna, hsa, hla, helsa, hua⟩ := hra.open
  ((conv=>whnf);repeat(first|(refine mvT ?_;conv=>whnf)|(refine mvF ?_;conv=>whnf)|(refine cT (by rfl) ?_;conv=>whnf)|(refine cF (by rfl) ?_;conv=>whnf)))
  refine st_cell (o := 0) (v := .int .i16 (IntKind.i16.wrap (atT t 0).n)) (hp.e0 hxa) (rfl) (by omega) rfl (by simp) (rfl) ?_
  intro wc hoc hxc
  have hp : Own wc p ty [.int .i16 (IntKind.i16.wrap (atT t 0).n), .pointer none, str [], str [], .int .i32 0, .int .i32 0, str [], .slice none 0 0, .int .i32 0, .map none] := hoc
  have ho := (ho.e0 hxa).ext hxc (Ne.symm hpb)
  have hx0 := (hx0.tr0 hxa).trans hxc fun _ _ h => h
  have hoq := (hoq.e0 hxa).ext hxc (Ne.symm hpq)
  ((conv=>whnf);repeat(first|(refine mvT ?_;conv=>whnf)|(refine mvF ?_;conv=>whnf)|(refine cT (by rfl) ?_;conv=>whnf)|(refine cF (by rfl) ?_;conv=>whnf)))
  refine ⟨_, rfl, ho.cells, ?_⟩
  ((conv=>whnf);repeat(first|(refine mvT ?_;conv=>whnf)|(refine mvF ?_;conv=>whnf)|(refine cT (by rfl) ?_;conv=>whnf)|(refine cF (by rfl) ?_;conv=>whnf)))
  refine Does.mono (iat_does (ht0.ext hx0 fun k _ h => (hR0 k h).2) 1) ?_
  rintro ra wa ⟨hra, hxa⟩
  ((conv=>whnf);repeat(first|(refine mvT ?_;conv=>whnf)|(refine mvF ?_;conv=>whnf)|(refine cT (by rfl) ?_;conv=>whnf)|(refine cF (by rfl) ?_;conv=>whnf)))
  have hq := (hp.e0 hxa).lt
  have hq2 := (hx0.tr0 hxa).size
  refine Does.mono (textOf_does hra) ?_
  rintro c1 wb ⟨hc1, h1, hxb⟩
  have hc1 := hc1.mono (F' := (fun k => k ≠ p ∧ k ≠ q ∧ (R0 k ∨ w0.heap.size ≤ k))) fun k _ h => ⟨by omega, by omega, .inr (by omega)⟩
  have hxa := hxa.e0 hxb
  ((conv=>whnf);repeat(first|(refine mvT ?_;conv=>whnf)|(refine mvF ?_;conv=>whnf)|(refine cT (by rfl) ?_;conv=>whnf)|(refine cF (by rfl) ?_;conv=>whnf)))
  refine st_cell (o := 1) (v := c1) (hp.e0 hxa) (cells_one h1) (by omega) rfl (by simp) (h1) ?_
  intro wc hoc hxc
  have hp : Own wc p ty [.int .i16 (IntKind.i16.wrap (atT t 0).n), c1, str [], str [], .int .i32 0, .int .i32 0, str [], .slice none 0 0, .int .i32 0, .map none] := hoc
  have ho := (ho.e0 hxa).ext hxc (Ne.symm hpb)
  have hx0 := (hx0.tr0 hxa).trans hxc fun _ _ h => h
  have hoq := (hoq.e0 hxa).ext hxc (Ne.symm hpq)
  have hc1 := hc1.ext hxc fun k _ h => h.1
  ((conv=>whnf);repeat(first|(refine mvT ?_;conv=>whnf)|(refine mvF ?_;conv=>whnf)|(refine cT (by rfl) ?_;conv=>whnf)|(refine cF (by rfl) ?_;conv=>whnf)))
  refine ⟨_, rfl, ho.cells, ?_⟩
  ((conv=>whnf);repeat(first|(refine mvT ?_;conv=>whnf)|(refine mvF ?_;conv=>whnf)|(refine cT (by rfl) ?_;conv=>whnf)|(refine cF (by rfl) ?_;conv=>whnf)))
  refine Does.mono (iat_does (ht0.ext hx0 fun k _ h => (hR0 k h).2) 2) ?_
  rintro ra wa ⟨hra, hxa⟩
  obtain ⟨sva, lva, uva, lsa, rfl, hna, hsa, hla, helsa, hua⟩ := hra.open
  ((conv=>whnf);repeat(first|(refine mvT ?_;conv=>whnf)|(refine mvF ?_;conv=>whnf)|(refine cT (by rfl) ?_;conv=>whnf)|(refine cF (by rfl) ?_;conv=>whnf)))
  refine ⟨_, _, hsa, ?_⟩
  ((conv=>whnf);repeat(first|(refine mvT ?_;conv=>whnf)|(refine mvF ?_;conv=>whnf)|(refine cT (by rfl) ?_;conv=>whnf)|(refine cF (by rfl) ?_;conv=>whnf)))
  refine st_cell (o := 2) (v := str (atT t 2).s) (hp.e0 hxa) (rfl) (by omega) rfl (by simp) (rfl) ?_
  intro wc hoc hxc
  have hp : Own wc p ty [.int .i16 (IntKind.i16.wrap (atT t 0).n), c1, str (atT t 2).s, str [], .int .i32 0, .int .i32 0, str [], .slice none 0 0, .int .i32 0, .map none] := hoc
  have ho := (ho.e0 hxa).ext hxc (Ne.symm hpb)
  have hx0 := (hx0.tr0 hxa).trans hxc fun _ _ h => h
  have hc1 := (hc1.ext hxa fun _ _ _ f => f).ext hxc fun k _ h => h.1
  have hoq := (hoq.e0 hxa).ext hxc (Ne.symm hpq)
  ((conv=>whnf);repeat(first|(refine mvT ?_;conv=>whnf)|(refine mvF ?_;conv=>whnf)|(refine cT (by rfl) ?_;conv=>whnf)|(refine cF (by rfl) ?_;conv=>whnf)))
  refine ⟨_, rfl, ho.cells, ?_⟩
  ((conv=>whnf);repeat(first|(refine mvT ?_;conv=>whnf)|(refine mvF ?_;conv=>whnf)|(refine cT (by rfl) ?_;conv=>whnf)|(refine cF (by rfl) ?_;conv=>whnf)))
  refine Does.mono (iat_does (ht0.ext hx0 fun k _ h => (hR0 k h).2) 3) ?_
  rintro ra wa ⟨hra, hxa⟩
  obtain ⟨sva, lva, uva, lsa, rfl, hna, hsa, hla, helsa, hua⟩ := hra.open
  ((conv=>whnf);repeat(first|(refine mvT ?_;conv=>whnf)|(refine mvF ?_;conv=>whnf)|(refine cT (by rfl) ?_;conv=>whnf)|(refine cF (by rfl) ?_;conv=>whnf)))
  refine ⟨_, _, hsa, ?_⟩
  ((conv=>whnf);repeat(first|(refine mvT ?_;conv=>whnf)|(refine mvF ?_;conv=>whnf)|(refine cT (by rfl) ?_;conv=>whnf)|(refine cF (by rfl) ?_;conv=>whnf)))
  refine st_cell (o := 3) (v := str (atT t 3).s) (hp.e0 hxa) (rfl) (by omega) rfl (by simp) (rfl) ?_
  intro wc hoc hxc
  have hp : Own wc p ty [.int .i16 (IntKind.i16.wrap (atT t 0).n), c1, str (atT t 2).s, str (atT t 3).s, .int .i32 0, .int .i32 0, str [], .slice none 0 0, .int .i32 0, .map none] := hoc
  have ho := (ho.e0 hxa).ext hxc (Ne.symm hpb)
  have hx0 := (hx0.tr0 hxa).trans hxc fun _ _ h => h
  have hc1 := (hc1.ext hxa fun _ _ _ f => f).ext hxc fun k _ h => h.1
  have hoq := (hoq.e0 hxa).ext hxc (Ne.symm hpq)
  ((conv=>whnf);repeat(first|(refine mvT ?_;conv=>whnf)|(refine mvF ?_;conv=>whnf)|(refine cT (by rfl) ?_;conv=>whnf)|(refine cF (by rfl) ?_;conv=>whnf)))
  refine ⟨_, rfl, ho.cells, ?_⟩
  ((conv=>whnf);repeat(first|(refine mvT ?_;conv=>whnf)|(refine mvF ?_;conv=>whnf)|(refine cT (by rfl) ?_;conv=>whnf)|(refine cF (by rfl) ?_;conv=>whnf)))
  refine Does.mono (iat_does (ht0.ext hx0 fun k _ h => (hR0 k h).2) 4) ?_
  rintro ra wa ⟨hra, hxa⟩
  obtain ⟨sva, lva, uva, lsa, rfl, hna, hsa, hla, helsa, hua⟩ := hra.open
  ((conv=>whnf);repeat(first|(refine mvT ?_;conv=>whnf)|(refine mvF ?_;conv=>whnf)|(refine cT (by rfl) ?_;conv=>whnf)|(refine cF (by rfl) ?_;conv=>whnf)))
  refine st_cell (o := 4) (v := .int .i32 (IntKind.i32.wrap (atT t 4).n)) (hp.e0 hxa) (rfl) (by omega) rfl (by simp) (rfl) ?_
  intro wc hoc hxc
  have hp : Own wc p ty [.int .i16 (IntKind.i16.wrap (atT t 0).n), c1, str (atT t 2).s, str (atT t 3).s, .int .i32 (IntKind.i32.wrap (atT t 4).n), .int .i32 0, str [], .slice none 0 0, .int .i32 0, .map none] := hoc
  have ho := (ho.e0 hxa).ext hxc (Ne.symm hpb)
  have hx0 := (hx0.tr0 hxa).trans hxc fun _ _ h => h
  have hc1 := (hc1.ext hxa fun _ _ _ f => f).ext hxc fun k _ h => h.1
  have hoq := (hoq.e0 hxa).ext hxc (Ne.symm hpq)
  ((conv=>whnf);repeat(first|(refine mvT ?_;conv=>whnf)|(refine mvF ?_;conv=>whnf)|(refine cT (by rfl) ?_;conv=>whnf)|(refine cF (by rfl) ?_;conv=>whnf)))
  refine ⟨_, rfl, ho.cells, ?_⟩
  ((conv=>whnf);repeat(first|(refine mvT ?_;conv=>whnf)|(refine mvF ?_;conv=>whnf)|(refine cT (by rfl) ?_;conv=>whnf)|(refine cF (by rfl) ?_;conv=>whnf)))
  refine Does.mono (iat_does (ht0.ext hx0 fun k _ h => (hR0 k h).2) 5) ?_
  rintro ra wa ⟨hra, hxa⟩
  obtain ⟨sva, lva, uva, lsa, rfl, hna, hsa, hla, helsa, hua⟩ := hra.open
  ((conv=>whnf);repeat(first|(refine mvT ?_;conv=>whnf)|(refine mvF ?_;conv=>whnf)|(refine cT (by rfl) ?_;conv=>whnf)|(refine cF (by rfl) ?_;conv=>whnf)))
  refine st_cell (o := 5) (v := .int .i32 (IntKind.i32.wrap (atT t 5).n)) (hp.e0 hxa) (rfl) (by omega) rfl (by simp) (rfl) ?_
  intro wc hoc hxc
  have hp : Own wc p ty [.int .i16 (IntKind.i16.wrap (atT t 0).n), c1, str (atT t 2).s, str (atT t 3).s, .int .i32 (IntKind.i32.wrap (atT t 4).n), .int .i32 (IntKind.i32.wrap (atT t 5).n), str [], .slice none 0 0, .int .i32 0, .map none] := hoc
  have ho := (ho.e0 hxa).ext hxc (Ne.symm hpb)
  have hx0 := (hx0.tr0 hxa).trans hxc fun _ _ h => h
  have hc1 := (hc1.ext hxa fun _ _ _ f => f).ext hxc fun k _ h => h.1
  have hoq := (hoq.e0 hxa).ext hxc (Ne.symm hpq)
  ((conv=>whnf);repeat(first|(refine mvT ?_;conv=>whnf)|(refine mvF ?_;conv=>whnf)|(refine cT (by rfl) ?_;conv=>whnf)|(refine cF (by rfl) ?_;conv=>whnf)))
  refine ⟨_, rfl, ho.cells, ?_⟩
  ((conv=>whnf);repeat(first|(refine mvT ?_;conv=>whnf)|(refine mvF ?_;conv=>whnf)|(refine cT (by rfl) ?_;conv=>whnf)|(refine cF (by rfl) ?_;conv=>whnf)))
  refine Does.mono (iat_does (ht0.ext hx0 fun k _ h => (hR0 k h).2) 6) ?_
  rintro ra wa ⟨hra, hxa⟩
  obtain ⟨sva, lva, uva, lsa, rfl, hna, hsa, hla, helsa, hua⟩ := hra.open
  ((conv=>whnf);repeat(first|(refine mvT ?_;conv=>whnf)|(refine mvF ?_;conv=>whnf)|(refine cT (by rfl) ?_;conv=>whnf)|(refine cF (by rfl) ?_;conv=>whnf)))
  refine ⟨_, _, hsa, ?_⟩
  ((conv=>whnf);repeat(first|(refine mvT ?_;conv=>whnf)|(refine mvF ?_;conv=>whnf)|(refine cT (by rfl) ?_;conv=>whnf)|(refine cF (by rfl) ?_;conv=>whnf)))
  refine st_cell (o := 6) (v := str (atT t 6).s) (hp.e0 hxa) (rfl) (by omega) rfl (by simp) (rfl) ?_
  intro wc hoc hxc
  have hp : Own wc p ty [.int .i16 (IntKind.i16.wrap (atT t 0).n), c1, str (atT t 2).s, str (atT t 3).s, .int .i32 (IntKind.i32.wrap (atT t 4).n), .int .i32 (IntKind.i32.wrap (atT t 5).n), str (atT t 6).s, .slice none 0 0, .int .i32 0, .map none] := hoc
  have ho := (ho.e0 hxa).ext hxc (Ne.symm hpb)
  have hx0 := (hx0.tr0 hxa).trans hxc fun _ _ h => h
  have hc1 := (hc1.ext hxa fun _ _ _ f => f).ext hxc fun k _ h => h.1
  have hoq := (hoq.e0 hxa).ext hxc (Ne.symm hpq)
  ((conv=>whnf);repeat(first|(refine mvT ?_;conv=>whnf)|(refine mvF ?_;conv=>whnf)|(refine cT (by rfl) ?_;conv=>whnf)|(refine cF (by rfl) ?_;conv=>whnf)))
  have hfl := fieldOK_list (hok.1 7 _ rfl)
  refine ⟨_, rfl, ho.cells, ?_⟩
  ((conv=>whnf);repeat(first|(refine mvT ?_;conv=>whnf)|(refine mvF ?_;conv=>whnf)|(refine cT (by rfl) ?_;conv=>whnf)|(refine cF (by rfl) ?_;conv=>whnf)))
  refine Does.mono (iat_does (ht0.ext hx0 fun k _ h => (hR0 k h).2) 7) ?_
  rintro ra wa ⟨hra, hxa⟩
  obtain ⟨sva, lva, uva, lsa, rfl, hna, hsa, hla, helsa, hua⟩ := hra.open
  ((conv=>whnf);repeat(first|(refine mvT ?_;conv=>whnf)|(refine mvF ?_;conv=>whnf)|(refine cT (by rfl) ?_;conv=>whnf)|(refine cF (by rfl) ?_;conv=>whnf)))
  refine VC.cutE (fun c : Value => [(1, .pointer (some ⟨b, 0, none⟩)), (2, .pointer (some ⟨q, 0, none⟩)), (3, .pointer (some ⟨p, 0, none⟩))]) (fun c w' => Ext (fun k => k = p) w0 w' ∧ Own w' p ty [.int .i16 (IntKind.i16.wrap (atT t 0).n), c1, str (atT t 2).s, str (atT t 3).s, .int .i32 (IntKind.i32.wrap (atT t 4).n), .int .i32 (IntKind.i32.wrap (atT t 5).n), str (atT t 6).s, c, .int .i32 0, .map none] ∧ Own w' b ImplTreeT [.int .i64 t.n, sv, .bool t.nl, lv, .slice au us.length cu] ∧ Own w' q qT qL ∧ NTextR w' (fun k => k ≠ p ∧ k ≠ q ∧ (R0 k ∨ w0.heap.size ≤ k)) c1 (atT t 1) ∧ ListR true 9 (rShareGroupDescribeResponseGroupMember w' (fun k => k ≠ p ∧ k ≠ q ∧ (R0 k ∨ w0.heap.size ≤ k))) w' (fun k => k ≠ p ∧ k ≠ q ∧ (R0 k ∨ w0.heap.size ≤ k)) c (atT t 7)) ?_ ?_
  · refine cI (by rfl) (fun hnl=>?_) (fun hnl=>?_)
    · have hnl : (atT t 7).nl = false := by simpa using hnl
      ((conv=>whnf);repeat(first|(refine mvT ?_;conv=>whnf)|(refine mvF ?_;conv=>whnf)|(refine cT (by rfl) ?_;conv=>whnf)|(refine cF (by rfl) ?_;conv=>whnf)))
      have hx1 := hx0.tr0 hxa
      refine ⟨_, rfl, (ho.e0 hxa).cells, ?_⟩
      ((conv=>whnf);repeat(first|(refine mvT ?_;conv=>whnf)|(refine mvF ?_;conv=>whnf)|(refine cT (by rfl) ?_;conv=>whnf)|(refine cF (by rfl) ?_;conv=>whnf)))
      refine Does.mono (iat_does (ht0.ext hx1 fun k _ h => (hR0 k h).2) 7) ?_
      rintro r5 w5 ⟨hr5, hx5⟩
      obtain ⟨sv5, lv5, uv5, ls5, rfl, hn5, hs5, hl5, hels5, hu5⟩ := hr5.open
      obtain ⟨a5, c5, rfl, _⟩ := hl5.view
      have hlen5 := hels5.len
      ((conv=>whnf);repeat(first|(refine mvT ?_;conv=>whnf)|(refine mvF ?_;conv=>whnf)|(refine cT (by rfl) ?_;conv=>whnf)|(refine cF (by rfl) ?_;conv=>whnf)))
      refine ⟨⟨by omega, by omega, by omega, by simp only [Int.toNat_natCast]; omega⟩, ⟨by decide, rfl⟩, ?_⟩
      intro b6 w6 hb6 ho6 hx6
      ((conv=>whnf);repeat(first|(refine mvT ?_;conv=>whnf)|(refine mvF ?_;conv=>whnf)|(refine cT (by rfl) ?_;conv=>whnf)|(refine cF (by rfl) ?_;conv=>whnf)))
      have hx56 := (hxa.e0 hx5).e0 hx6
      have hsz5 := (hxa.e0 hx5).size
      have hszc := hx0.size
      have hb6l := ho6.lt
      have hplc := hp.lt
      have hblc := ho.lt
      refine st_cell (o := 7) (v := .slice (some ⟨b6, 0, none⟩) 0 ls5.length) (hp.e0 hx56) rfl (by omega) rfl (by simp) rfl ?_
      intro w7 ho7 hx7
      ((conv=>whnf);repeat(first|(refine mvT ?_;conv=>whnf)|(refine mvF ?_;conv=>whnf)|(refine cT (by rfl) ?_;conv=>whnf)|(refine cF (by rfl) ?_;conv=>whnf)))
      have hx7c : Ext (fun k => k = p) wc w7 := (hx56.mono fun _ _ f => f.elim).trans hx7 fun _ _ h => h
      have hx07 := hx0.trans hx7c fun _ _ h => h
      refine ⟨_, rfl, (ho.ext hx7c (Ne.symm hpb)).cells, ?_⟩
      ((conv=>whnf);repeat(first|(refine mvT ?_;conv=>whnf)|(refine mvF ?_;conv=>whnf)|(refine cT (by rfl) ?_;conv=>whnf)|(refine cF (by rfl) ?_;conv=>whnf)))
      refine Does.mono (iat_does (ht0.ext hx07 fun k _ h => (hR0 k h).2) 7) ?_
      rintro r8 w8 ⟨hr8, hx8⟩
      obtain ⟨sv8, lv8, uv8, ls8, rfl, hn8, hs8, hl8, hels8, hu8⟩ := hr8.open
      obtain ⟨a8, c8, rfl, hc8, hm8, hF8, _, hC8⟩ := hl8.view
      have hlen8 := hels8.len
      ((conv=>whnf);repeat(first|(refine mvT ?_;conv=>whnf)|(refine mvF ?_;conv=>whnf)|(refine cT (by rfl) ?_;conv=>whnf)|(refine cF (by rfl) ?_;conv=>whnf)))
      have hx8c : Ext (fun k => k = p ∨ wc.heap.size ≤ k) wc w8 := (hx7c.tr0 hx8).mono fun _ _ h => .inl h
      have hx08 := hx07.tr0 hx8
      have hos8 := (OSl.mk0 (sz := 9) (n := ls5.length) (ho6.ext hx7 (by omega)) (by simp) (by rw [maxLen_eq]; omega) (B := wc.heap.size) (by omega)).e0 hx8
      refine VL.loop (fun s : Nat × Value => [(1, .pointer (some ⟨b, 0, none⟩)), (2, .pointer (some ⟨q, 0, none⟩)), (3, .pointer (some ⟨p, 0, none⟩)), (54, .slice a8 ls8.length c8), (55, .int .i64 ls8.length), (56, .int .i64 s.1)])
        (fun s w' => (Ext (fun k => k = p) w0 w' ∧ Ext (fun k => k = p ∨ wc.heap.size ≤ k) wc w' ∧ Ext (fun k => k = p ∨ w0.heap.size ≤ k) w8 w' ∧ s.1 ≤ ls8.length ∧ s.2 ≠ .slice none 0 0) ∧ Own w' p ty [.int .i16 (IntKind.i16.wrap (atT t 0).n), c1, str (atT t 2).s, str (atT t 3).s, .int .i32 (IntKind.i32.wrap (atT t 4).n), .int .i32 (IntKind.i32.wrap (atT t 5).n), str (atT t 6).s, s.2, .int .i32 0, .map none] ∧ ∃ es : List (List Value), OSl w' wc.heap.size 172 9 s.2 es ∧ es.length = s.1 ∧ ∀ (j : Nat) (c : List Value) (x : T), es[j]? = some c → (atT t 7).l[j]? = some x → rShareGroupDescribeResponseGroupMember w' (fun k => k ≠ p ∧ k ≠ q ∧ (R0 k ∨ w0.heap.size ≤ k) ∧ s.2.ownBlock ≠ some k) c x) (fun s => ls8.length - s.1) (0, .slice (some ⟨b6, 0, none⟩) 0 ls5.length)
        ⟨rfl, rfl, rfl, rfl, rfl, rfl, trivial⟩ ⟨⟨hx08, hx8c, Ext.refl _ _, Nat.zero_le _, by simp⟩, ho7.e0 hx8, [], hos8, rfl, by simp⟩ ?_
      rintro ⟨i, sl⟩ w9 ⟨⟨hx09, hxc9, hx89, hi, hnn⟩, hp9, es, hos9, hesl, hesr⟩
      dsimp only at hi hp9 hos9 hesl hesr hnn
      ((conv=>whnf);repeat(first|(refine mvT ?_;conv=>whnf)|(refine mvF ?_;conv=>whnf)|(refine cT (by rfl) ?_;conv=>whnf)|(refine cF (by rfl) ?_;conv=>whnf)))
      refine cI (by rfl) (fun h9=>?_) (fun h9=>?_)
      · have hil : i < ls8.length := by have := of_decide_eq_true h9; simp only at this; omega
        have hill : i < (atT t 7).l.length := by omega
        have htr := hels8.at' i ls8[i] (atT t 7).l[i] (by simp [hil]) (by simp [hill])
        obtain ⟨b10, o10, rfl, hc10⟩ := hC8 i ls8[i] (by simp [hil])
        have hb10 := hF8 b10 o10 rfl (by omega)
        have hc10 := hc10.ext hx89 (by have := hR0 _ hb10.1; omega)
        have htr9 := htr.ext hx89 fun k _ h => by have := hR0 _ h; omega
        ((conv=>whnf);repeat(first|(refine mvT ?_;conv=>whnf)|(refine mvF ?_;conv=>whnf)|(refine cT (by rfl) ?_;conv=>whnf)|(refine cF (by rfl) ?_;conv=>whnf)))
        refine ⟨b10, o10, rfl, ⟨by omega, by omega⟩, ?_⟩
        ((conv=>whnf);repeat(first|(refine mvT ?_;conv=>whnf)|(refine mvF ?_;conv=>whnf)|(refine cT (by rfl) ?_;conv=>whnf)|(refine cF (by rfl) ?_;conv=>whnf)))
        refine ⟨ls8[i], htr.len, by rw [Int.toNat_natCast]; exact hc10, ?_⟩
        ((conv=>whnf);repeat(first|(refine mvT ?_;conv=>whnf)|(refine mvF ?_;conv=>whnf)|(refine cT (by rfl) ?_;conv=>whnf)|(refine cF (by rfl) ?_;conv=>whnf)))
        intro b11 w11 hb11 ho11 hx11
        ((conv=>whnf);repeat(first|(refine mvT ?_;conv=>whnf)|(refine mvF ?_;conv=>whnf)|(refine cT (by rfl) ?_;conv=>whnf)|(refine cF (by rfl) ?_;conv=>whnf)))
        refine st_all ls8[i] ho11 htr.len rfl htr.ok ?_
        intro w12 ho12 hx12
        have hx912 : Ext nob w9 w12.drew := (hx11.st hx12 hb11).e0 (ext_drew _)
        have ho12 := ho12.e0 (ext_drew _)
        have htr12 := htr9.e0 hx912
        obtain ⟨sv6, lv6, uv6, ls6, hy, hn6, hsy, _⟩ := Tr.open ⟨ls8[i], rfl, htr12⟩
        have hci : ls8[i] = [.int .i64 ((atT t 7).l[i]).n, sv6, .bool ((atT t 7).l[i]).nl, lv6, uv6] := by
          have := congrArg Value.cells hy
          exact congrArg Array.toList this
        rw [hci] at ho12 htr12
        have hs912 := hx912.size
        have hs9c := hxc9.size
        ((conv=>whnf);repeat(first|(refine mvT ?_;conv=>whnf)|(refine mvF ?_;conv=>whnf)|(refine cT (by rfl) ?_;conv=>whnf)|(refine cF (by rfl) ?_;conv=>whnf)))
        refine VD.draw mixed (.q 0 (.q 1 (.q 2 (.eff 3 [1] (.eff 4 [1] (.eff 5 [] (.q 6 (.eff 7 [] (.done))))))))) (by kernel_rfl) ?_;((conv=>whnf);repeat(first|(refine mvT ?_;conv=>whnf)|(refine mvF ?_;conv=>whnf)|(refine cT (by rfl) ?_;conv=>whnf)|(refine cF (by rfl) ?_;conv=>whnf)))
        refine ldS ((hp9.e0 hx912).cell rfl) ?_;((conv=>whnf);repeat(first|(refine mvT ?_;conv=>whnf)|(refine mvF ?_;conv=>whnf)|(refine cT (by rfl) ?_;conv=>whnf)|(refine cF (by rfl) ?_;conv=>whnf)))
        refine ⟨_, rfl, ho12.cells, ?_⟩
        ((conv=>whnf);repeat(first|(refine mvT ?_;conv=>whnf)|(refine mvF ?_;conv=>whnf)|(refine cT (by rfl) ?_;conv=>whnf)|(refine cF (by rfl) ?_;conv=>whnf)))
        refine Does.mono (makeShareGroupDescribeResponseGroupMember (u := u) ⟨_, rfl, htr12⟩ ((hfl.2 _ (List.getElem_mem hill)).2.2 rfl)) ?_
        rintro r13 w13 ⟨es13, rfl, hok13, hr13, hxm13⟩
        obtain ⟨zc1, zc5, zc6_0, zc6_1, zm, rfl, _⟩ := id hr13
        have hx913 := hx912.e0 hxm13
        refine ⟨by (conv => whnf); exact ⟨⟨_, (hp9.e0 hx913).cell rfl, rfl, rfl⟩, trivial⟩, ?_⟩
        ((conv=>whnf);repeat(first|(refine mvT ?_;conv=>whnf)|(refine mvF ?_;conv=>whnf)|(refine cT (by rfl) ?_;conv=>whnf)|(refine cF (by rfl) ?_;conv=>whnf)))
        intro b13 w14 hb13 ho13 hx13
        have ho13 : Own w14 b13 172 [str (atT (atT t 7).l[i] 0).s, zc1, .int .i32 (IntKind.i32.wrap (atT (atT t 7).l[i] 2).n), str (atT (atT t 7).l[i] 3).s, str (atT (atT t 7).l[i] 4).s, zc5, zc6_0, zc6_1, zm] := ho13
        have hr13 := rShareGroupDescribeResponseGroupMember_ext hr13 hx13 fun _ _ _ f => f
        have hx913 := hx913.e0 hx13
        refine ⟨by (conv => whnf); exact ⟨⟨_, (hp9.e0 hx913).cell rfl, rfl, rfl⟩, trivial⟩, ?_⟩
        have hs913 := hx913.size
        ((conv=>whnf);repeat(first|(refine mvT ?_;conv=>whnf)|(refine mvF ?_;conv=>whnf)|(refine cT (by rfl) ?_;conv=>whnf)|(refine cF (by rfl) ?_;conv=>whnf)))
        refine app_struct (ms := [[str (atT (atT t 7).l[i] 0).s, zc1, .int .i32 (IntKind.i32.wrap (atT (atT t 7).l[i] 2).n), str (atT (atT t 7).l[i] 3).s, str (atT (atT t 7).l[i] 4).s, zc5, zc6_0, zc6_1, zm]]) rfl (hos9.e0 hx913) (src_one ho13 (rShareGroupDescribeResponseGroupMember_len hr13) rfl) (by simp) (by simpa only [List.flatten_cons, List.flatten_nil, List.append_nil] using hok13) rfl ⟨by simp only [List.length_singleton, hesl]; omega, by simp only [List.length_singleton, hesl]; omega⟩ (by omega) ?_
        intro v15 w15 hos15 hx15 hb15 hnn15
        obtain ⟨a15, n15, c15, rfl⟩ : ∃ a n c, v15 = .slice a n c := by
          obtain ⟨a, c, h, _⟩ := hos15.shape
          exact ⟨a, _, c, h⟩
        have hpsl : ¬ sl.ownBlock = some p := fun h => by have := hos9.blk p h; omega
        have ho15 := (hp9.e0 hx913).ext hx15 hpsl
        ((conv=>whnf);repeat(first|(refine mvT ?_;conv=>whnf)|(refine mvF ?_;conv=>whnf)|(refine cT (by rfl) ?_;conv=>whnf)|(refine cF (by rfl) ?_;conv=>whnf)))
        refine st_cell (o := 7) (v := .slice a15 n15 c15) ho15 rfl (by omega) rfl (by simp) rfl ?_
        intro w16 ho16 hx16
        ((conv=>whnf);repeat(first|(refine mvT ?_;conv=>whnf)|(refine mvF ?_;conv=>whnf)|(refine cT (by rfl) ?_;conv=>whnf)|(refine cF (by rfl) ?_;conv=>whnf)))
        have hx916 : Ext (fun k => k = p ∨ wc.heap.size ≤ k) w9 w16 := ((hx913.mono fun _ _ f => f.elim).trans hx15 fun k _ h => .inr (hos9.blk k h)).trans hx16 fun _ _ h => .inl h
        have hos16 := hos15.ext hx16 fun k hk h => by have := hos15.blk k hk; omega
        refine ⟨(i + 1, _), ⟨rfl, rfl, rfl, rfl, rfl, inc_eq (by rw [maxLen_eq] at hm8; omega), trivial⟩, ⟨⟨hx09.trans hx916 fun k hk h => by omega, hxc9.trans hx916 fun _ _ h => h, hx89.trans hx916 fun k hk h => by omega, by simp only; omega, hnn15 hnn⟩, ho16, es ++ [[str (atT (atT t 7).l[i] 0).s, zc1, .int .i32 (IntKind.i32.wrap (atT (atT t 7).l[i] 2).n), str (atT (atT t 7).l[i] 3).s, str (atT (atT t 7).l[i] 4).s, zc5, zc6_0, zc6_1, zm]], hos16, by simp [hesl], ?_⟩, by simp only; omega⟩
        intro j c x hj hx
        have key : rShareGroupDescribeResponseGroupMember w14 (fun k => k ≠ p ∧ k ≠ q ∧ (R0 k ∨ w0.heap.size ≤ k) ∧ sl.ownBlock ≠ some k) c x := by
          rcases Nat.lt_or_ge j es.length with hjl | hjl
          · rw [List.getElem?_append_left hjl] at hj
            exact rShareGroupDescribeResponseGroupMember_ext (hesr j c x hj hx) hx913 fun _ _ _ f => f
          · have hj0 : j = es.length := by have := (List.getElem?_eq_some_iff.1 hj).1; simp at this; omega
            subst hj0
            rw [List.getElem?_append_right (Nat.le_refl _), Nat.sub_self, List.getElem?_cons_zero, Option.some.injEq] at hj
            subst hj
            rw [hesl, List.getElem?_eq_getElem hill, Option.some.injEq] at hx
            subst hx
            exact rShareGroupDescribeResponseGroupMember_mono hr13 fun k hk h => by
              have hkp : k ≠ p := by rcases h with h | h; exact (hR0 k h).2; omega
              have hkq : k ≠ q := by rcases h with h | h; (have := (hR0 k h).1; omega); omega
              exact ⟨hkp, hkq, h.imp id (fun h => by omega), fun e => by have := hos9.own.lt k e; rcases h with h | h; (have := (hR0 k h).1; have := hos9.blk k e; omega); omega⟩
        have key2 := rShareGroupDescribeResponseGroupMember_ext (rShareGroupDescribeResponseGroupMember_ext (rShareGroupDescribeResponseGroupMember_mono key (F' := fun k => (fun k => k ≠ p ∧ k ≠ q ∧ (R0 k ∨ w0.heap.size ≤ k) ∧ sl.ownBlock ≠ some k) k ∧ k < w14.heap.size) fun k hk h => ⟨h, hk⟩) hx15 fun k _ h => h.1.2.2.2) hx16 fun k _ h => h.1.1
        exact rShareGroupDescribeResponseGroupMember_mono key2 fun k _ h => ⟨h.1.1, h.1.2.1, h.1.2.2.1, fun e => by
          rcases hb15 with e2 | ⟨g, hg, hle⟩
          · exact h.1.2.2.2 (e2 ▸ e)
          · have e : (Value.slice a15 n15 c15).ownBlock = some k := e
            rw [hg, Option.some.injEq] at e
            have := h.2
            omega⟩
      have hil : i = ls8.length := by have := of_decide_eq_false h9; simp only at this; omega
      ((conv=>whnf);repeat(first|(refine mvT ?_;conv=>whnf)|(refine mvF ?_;conv=>whnf)|(refine cT (by rfl) ?_;conv=>whnf)|(refine cF (by rfl) ?_;conv=>whnf)))
      have hli : ListR true 9 (rShareGroupDescribeResponseGroupMember w9 (fun k => k ≠ p ∧ k ≠ q ∧ (R0 k ∨ w0.heap.size ≤ k))) w9 (fun k => k ≠ p ∧ k ≠ q ∧ (R0 k ∨ w0.heap.size ≤ k)) sl (atT t 7) := by
        refine .inr ⟨hnl, fun _ => ?_, es, hos9.sl fun k hk => ⟨by omega, by omega, .inr (by omega)⟩, by omega, fun j c x hj hx => rShareGroupDescribeResponseGroupMember_mono (hesr j c x hj hx) fun k _ h => ⟨h.1, h.2.1, h.2.2.1⟩⟩
        rcases hos9.own.2 with ⟨e, _⟩ | ⟨g, cap, cur, e, _⟩
        · exact absurd e hnn
        · exact ⟨_, _, _, e⟩
      exact ⟨sl, ⟨rfl, rfl, rfl, trivial⟩, hx09, hp9, ho.ext hxc9 (by omega), hoq.ext hxc9 (by have := hoq.lt; omega), hc1.ext hxc9 (fun k _ h => by have := h.1; omega), hli⟩
    · have hnl : (atT t 7).nl = true := by simpa using hnl
      ((conv=>whnf);repeat(first|(refine mvT ?_;conv=>whnf)|(refine mvF ?_;conv=>whnf)|(refine cT (by rfl) ?_;conv=>whnf)|(refine cF (by rfl) ?_;conv=>whnf)))
      exact ⟨_, ⟨rfl, rfl, rfl, trivial⟩, hx0.tr0 hxa, hp.e0 hxa, ho.e0 hxa, hoq.e0 hxa, hc1.ext hxa (fun _ _ _ f => f), .inl ⟨hnl, rfl⟩⟩
  clear hfl
  rintro c7 wc ⟨hx0, hp, ho, hoq, hc1, hc7⟩
  ((conv=>whnf);repeat(first|(refine mvT ?_;conv=>whnf)|(refine mvF ?_;conv=>whnf)|(refine cT (by rfl) ?_;conv=>whnf)|(refine cF (by rfl) ?_;conv=>whnf)))
  refine ⟨_, rfl, ho.cells, ?_⟩
  ((conv=>whnf);repeat(first|(refine mvT ?_;conv=>whnf)|(refine mvF ?_;conv=>whnf)|(refine cT (by rfl) ?_;conv=>whnf)|(refine cF (by rfl) ?_;conv=>whnf)))
  refine Does.mono (iat_does (ht0.ext hx0 fun k _ h => (hR0 k h).2) 8) ?_
  rintro ra wa ⟨hra, hxa⟩
  obtain ⟨sva, lva, uva, lsa, rfl, hna, hsa, hla, helsa, hua⟩ := hra.open
  ((conv=>whnf);repeat(first|(refine mvT ?_;conv=>whnf)|(refine mvF ?_;conv=>whnf)|(refine cT (by rfl) ?_;conv=>whnf)|(refine cF (by rfl) ?_;conv=>whnf)))
  refine st_cell (o := 8) (v := .int .i32 (IntKind.i32.wrap (atT t 8).n)) (hp.e0 hxa) (rfl) (by omega) rfl (by simp) (rfl) ?_
  intro wc hoc hxc
  have hp : Own wc p ty [.int .i16 (IntKind.i16.wrap (atT t 0).n), c1, str (atT t 2).s, str (atT t 3).s, .int .i32 (IntKind.i32.wrap (atT t 4).n), .int .i32 (IntKind.i32.wrap (atT t 5).n), str (atT t 6).s, c7, .int .i32 (IntKind.i32.wrap (atT t 8).n), .map none] := hoc
  have ho := (ho.e0 hxa).ext hxc (Ne.symm hpb)
  have hx0 := (hx0.tr0 hxa).trans hxc fun _ _ h => h
  have hc1 := (hc1.ext hxa fun _ _ _ f => f).ext hxc fun k _ h => h.1
  have hc7 := (hc7.ext hxa (fun _ _ _ f => f) (fun _ _ h => rShareGroupDescribeResponseGroupMember_ext h hxa (fun _ _ _ f => f))).ext hxc (fun k _ h => h.1) (fun _ _ h => rShareGroupDescribeResponseGroupMember_ext h hxc (fun k _ h => h.1))
  have hoq := (hoq.e0 hxa).ext hxc (Ne.symm hpq)
  ((conv=>whnf);repeat(first|(refine mvT ?_;conv=>whnf)|(refine mvF ?_;conv=>whnf)|(refine cT (by rfl) ?_;conv=>whnf)|(refine cF (by rfl) ?_;conv=>whnf)))
  refine ldS (ho.cell rfl) ?_;((conv=>whnf);repeat(first|(refine mvT ?_;conv=>whnf)|(refine mvF ?_;conv=>whnf)|(refine cT (by rfl) ?_;conv=>whnf)|(refine cF (by rfl) ?_;conv=>whnf)))
  have hpN := hp.lt
  have h0N := hx0.size
  refine VL.loop (fun s : Nat × Value => [(1, .pointer (some ⟨b, 0, none⟩)), (2, .pointer (some ⟨q, 0, none⟩)), (3, .pointer (some ⟨p, 0, none⟩)), (74, .slice au us.length cu), (75, .int .i64 us.length), (76, .int .i64 s.1)])
    (fun s w' => (Ext (fun k => k = p) w0 w' ∧ Ext (fun k => k = p ∨ wc.heap.size ≤ k) wc w' ∧ s.1 ≤ us.length) ∧ Own w' p ty [.int .i16 (IntKind.i16.wrap (atT t 0).n), c1, str (atT t 2).s, str (atT t 3).s, .int .i32 (IntKind.i32.wrap (atT t 4).n), .int .i32 (IntKind.i32.wrap (atT t 5).n), str (atT t 6).s, c7, .int .i32 (IntKind.i32.wrap (atT t 8).n), s.2] ∧ TagsO w' wc.heap.size R0 s.2 (t.u.take s.1)) (fun s => us.length - s.1) (0, .map none)
    ⟨rfl, rfl, rfl, rfl, rfl, rfl, trivial⟩ ⟨⟨hx0, Ext.refl _ _, Nat.zero_le _⟩, hp, TagsO.nil _ _ _⟩ ?_
  rintro ⟨i, m⟩ w9 ⟨⟨hx09, hxc9, hi⟩, hp9, hm9⟩
  dsimp only at hi hp9 hm9
  ((conv=>whnf);repeat(first|(refine mvT ?_;conv=>whnf)|(refine mvF ?_;conv=>whnf)|(refine cT (by rfl) ?_;conv=>whnf)|(refine cF (by rfl) ?_;conv=>whnf)))
  refine cI (by rfl) (fun h9=>?_) (fun h9=>?_)
  · have hil : i < us.length := by have := of_decide_eq_true h9; simp only at this; omega
    have hilu : i < t.u.length := by omega
    obtain ⟨hkey, bv, hci, hbv⟩ := huc i us[i] t.u[i] (by simp [hil]) (by simp [hilu])
    obtain ⟨b10, o10, rfl, hc10⟩ := husC i us[i] (by simp [hil])
    have hb10 := husF b10 o10 rfl (by omega)
    rw [hci] at hc10
    obtain ⟨av, cv, rfl, _⟩ := hbv.view
    have hc10 := hc10.ext hx09 (hR0 _ hb10.1).2
    have hbv9 := hbv.ext hx09 fun k _ h => (hR0 k h).2
    ((conv=>whnf);repeat(first|(refine mvT ?_;conv=>whnf)|(refine mvF ?_;conv=>whnf)|(refine cT (by rfl) ?_;conv=>whnf)|(refine cF (by rfl) ?_;conv=>whnf)))
    refine ⟨b10, o10, rfl, ⟨by omega, by omega⟩, ?_⟩
    ((conv=>whnf);repeat(first|(refine mvT ?_;conv=>whnf)|(refine mvF ?_;conv=>whnf)|(refine cT (by rfl) ?_;conv=>whnf)|(refine cF (by rfl) ?_;conv=>whnf)))
    refine ⟨_, rfl, by rw [Int.toNat_natCast]; exact hc10, ?_⟩
    ((conv=>whnf);repeat(first|(refine mvT ?_;conv=>whnf)|(refine mvF ?_;conv=>whnf)|(refine cT (by rfl) ?_;conv=>whnf)|(refine cF (by rfl) ?_;conv=>whnf)))
    intro b11 w11 hb11 ho11 hx11
    ((conv=>whnf);repeat(first|(refine mvT ?_;conv=>whnf)|(refine mvF ?_;conv=>whnf)|(refine cT (by rfl) ?_;conv=>whnf)|(refine cF (by rfl) ?_;conv=>whnf)))
    refine st_all [.int .u32 (t.u[i].1 : Int), .slice av (t.u[i]).2.length cv] ho11 rfl rfl rfl ?_
    intro w12 ho12 hx12
    have hx912 : Ext nob w9 w12 := (hx11.st hx12 hb11)
    ((conv=>whnf);repeat(first|(refine mvT ?_;conv=>whnf)|(refine mvF ?_;conv=>whnf)|(refine cT (by rfl) ?_;conv=>whnf)|(refine cF (by rfl) ?_;conv=>whnf)))
    refine ldS (ho12.cell rfl) ?_;((conv=>whnf);repeat(first|(refine mvT ?_;conv=>whnf)|(refine mvF ?_;conv=>whnf)|(refine cT (by rfl) ?_;conv=>whnf)|(refine cF (by rfl) ?_;conv=>whnf)))
    refine ldS (ho12.cell rfl) ?_;((conv=>whnf);repeat(first|(refine mvT ?_;conv=>whnf)|(refine mvF ?_;conv=>whnf)|(refine cT (by rfl) ?_;conv=>whnf)|(refine cF (by rfl) ?_;conv=>whnf)))
    have hnew : ∀ x, x ∈ t.u.take i → x.1 ≠ (t.u[i]).1 := by
      intro x hx
      obtain ⟨j, hj, rfl⟩ := List.mem_take_iff_getElem.1 hx
      have := List.pairwise_iff_getElem.1 hok.2.rise j i (by omega) hilu (by omega)
      omega
    refine Does.mono (Tags_Set_does (o := 9) (N := wc.heap.size) (hp9.e0 hx912) rfl (hm9.e0 hx912) (Nat.le_trans hxc9.size hx912.size) hpN (fun k h => ⟨by have := (hR0 k h).1; omega, (hR0 k h).2⟩) (hbv9.e0 hx912) hnew) ?_
    rintro r13 w13 ⟨m13, hone, hp13, hm13, hx13⟩
    ((conv=>whnf);repeat(first|(refine mvT ?_;conv=>whnf)|(refine mvF ?_;conv=>whnf)|(refine cT (by rfl) ?_;conv=>whnf)|(refine cF (by rfl) ?_;conv=>whnf)))
    have hx913 : Ext (fun k => k = p ∨ wc.heap.size ≤ k) w9 w13 := (hx912.mono fun _ _ f => f.elim).trans hx13 fun _ _ h => h
    refine ⟨(i + 1, m13), ⟨rfl, rfl, rfl, rfl, rfl, inc_eq (by rw [maxLen_eq] at husm; omega), trivial⟩, ⟨⟨hx09.trans hx913 fun k hk h => by omega, hxc9.trans hx913 fun _ _ h => h, by simp only; omega⟩, hp13, ?_⟩, by simp only; omega⟩
    rw [List.take_succ_eq_append_getElem hilu]
    exact hm13
  have hil : i = us.length := by have := of_decide_eq_false h9; simp only at this; omega
  ((conv=>whnf);repeat(first|(refine mvT ?_;conv=>whnf)|(refine mvF ?_;conv=>whnf)|(refine cT (by rfl) ?_;conv=>whnf)|(refine cF (by rfl) ?_;conv=>whnf)))
  rw [hil, husl, List.take_length] at hm9
  refine ⟨_, rfl, hp9.cells, ?_⟩
  ((conv=>whnf);repeat(first|(refine mvT ?_;conv=>whnf)|(refine mvF ?_;conv=>whnf)|(refine cT (by rfl) ?_;conv=>whnf)|(refine cF (by rfl) ?_;conv=>whnf)))
  have hoq9 := hoq.ext hxc9 (by have := hoq.lt; omega)
  have hc1 := hc1.ext hxc9 (fun k _ h => by have := h.1; omega)
  have hc7 := hc7.ext hxc9 (fun k _ h => by have := h.1; omega) (fun _ _ h => rShareGroupDescribeResponseGroupMember_ext h hxc9 (fun k _ h => by have := h.1; omega))
  have hokc : okCells [.int .i16 (IntKind.i16.wrap (atT t 0).n), c1, str (atT t 2).s, str (atT t 3).s, .int .i32 (IntKind.i32.wrap (atT t 4).n), .int .i32 (IntKind.i32.wrap (atT t 5).n), str (atT t 6).s, c7, .int .i32 (IntKind.i32.wrap (atT t 8).n), m] = true := ok_cons rfl (ok_cons hc1.one (ok_cons rfl (ok_cons rfl (ok_cons rfl (ok_cons rfl (ok_cons rfl (ok_cons hc7.one (ok_cons rfl (ok_cons hm9.tags.one (ok_nil))))))))))
  refine st_all [.int .i16 (IntKind.i16.wrap (atT t 0).n), c1, str (atT t 2).s, str (atT t 3).s, .int .i32 (IntKind.i32.wrap (atT t 4).n), .int .i32 (IntKind.i32.wrap (atT t 5).n), str (atT t 6).s, c7, .int .i32 (IntKind.i32.wrap (atT t 8).n), m] hoq9 rfl hqlen hokc ?_
  intro we hoe hxe
  ((conv=>whnf);repeat(first|(refine mvT ?_;conv=>whnf)|(refine mvF ?_;conv=>whnf)|(refine cT (by rfl) ?_;conv=>whnf)|(refine cF (by rfl) ?_;conv=>whnf)))
  refine ⟨_, rfl, hoe.cells, ?_⟩
  have hxn : Ext nob w0 w9 := (Ext.refl nob w0).trans hx09 fun k hk e => by omega
  exact ⟨_, rfl, hokc, ⟨c1, c7, m, rfl, (hc1.ext hxe (fun k _ h => h.2.1)).mono (fun k _ h => h.2.2.imp (hRF k) id), (hc7.ext hxe (fun k _ h => h.2.1) (fun _ _ h => rShareGroupDescribeResponseGroupMember_ext h hxe (fun k _ h => h.2.1))).mono (fun k _ h => h.2.2.imp (hRF k) id) (fun _ _ h => rShareGroupDescribeResponseGroupMember_mono h fun k _ h => h.2.2.imp (hRF k) id), (hm9.tags.ext hxe (fun k _ h e => by rcases h with h | h; (have := (hR0 k h).1; omega); omega)).mono fun k _ h => h.imp (hRF k) (fun h => by omega)⟩, hxn.trans hxe fun k hk e => by omega⟩
theorem fillShareGroupDescribeResponse {F : Nat → Prop} {w0 : World} {p : Nat} {ty : TypeId} {v u : Int} {x : Value} {t : T} (hp : Own w0 p ty [.int .i16 v, .int .i32 0, .slice none 0 0, .map none]) (ht : Tr w0 F x t) (hF : ∀ k, F k → k ≠ p) (hok : partOK 9 u dShareGroupDescribeResponse t) :
    Does X.P 55 #[.pointer (some ⟨p, 0, none⟩), x] w0 fun r w' => Ext (fun k => k = p) w0 w' ∧ ∃ c1 m, Own w' p ty [.int .i16 v, .int .i32 (IntKind.i32.wrap (atT t 0).n), c1, m] ∧ ListR true 10 (rShareGroupDescribeResponseGroup w' (fun k => k ≠ p)) w' (fun k => k ≠ p) c1 (atT t 1) ∧ TagsR w' (fun k => k ≠ p) m t.u := by
  have hpl := hp.lt
  obtain ⟨R0, hR0, ht0⟩ : ∃ R0 : Nat → Prop, (∀ k, R0 k → k < w0.heap.size ∧ k ≠ p) ∧ Tr w0 R0 x t := ⟨fun k => k < w0.heap.size ∧ k ≠ p, fun k h => h, ht.mono fun k h1 h2 => ⟨h1, hF k h2⟩⟩
  clear ht hF
  obtain ⟨sv, lv, uv, ls, rfl, hn, hs, hl, hels, htg⟩ := ht0.open
  obtain ⟨us, hus, husl, huc⟩ := id htg
  obtain ⟨au, cu, rfl, husc, husm, husF, _, husC⟩ := hus.view
  refine Does.go (X := X) (l := [_, _]) Tryz.func55 rfl (by kernel_rfl) (by kernel_rfl) _ rfl ?_
  ((conv=>whnf);repeat(first|(refine mvT ?_;conv=>whnf)|(refine mvF ?_;conv=>whnf)|(refine cT (by rfl) ?_;conv=>whnf)|(refine cF (by rfl) ?_;conv=>whnf)))
  intro b wc hb ho hx
  have hpb : p ≠ b := by omega
  have ho : Own wc b ImplTreeT [.int .i64 t.n, sv, .bool t.nl, lv, .slice au us.length cu] := ho
  have hx0 : Ext (fun k => k = p) w0 wc := hx.mono fun _ _ f => f.elim
  have hp := hp.e0 hx
  ((conv=>whnf);repeat(first|(refine mvT ?_;conv=>whnf)|(refine mvF ?_;conv=>whnf)|(refine cT (by rfl) ?_;conv=>whnf)|(refine cF (by rfl) ?_;conv=>whnf)))
  refine ⟨_, rfl, ho.cells, ?_⟩
  ((conv=>whnf);repeat(first|(refine mvT ?_;conv=>whnf)|(refine mvF ?_;conv=>whnf)|(refine cT (by rfl) ?_;conv=>whnf)|(refine cF (by rfl) ?_;conv=>whnf)))
  refine Does.mono (iat_does (ht0.ext hx0 fun k _ h => (hR0 k h).2) 0) ?_
  rintro ra wa ⟨hra, hxa⟩
  obtain ⟨sva, lva, uva, lsa, rfl, hna, hsa, hla, helsa, hua⟩ := hra.open
  ((conv=>whnf);repeat(first|(refine mvT ?_;conv=>whnf)|(refine mvF ?_;conv=>whnf)|(refine cT (by rfl) ?_;conv=>whnf)|(refine cF (by rfl) ?_;conv=>whnf)))
  refine st_cell (o := 1) (v := .int .i32 (IntKind.i32.wrap (atT t 0).n)) (hp.e0 hxa) (rfl) (by omega) rfl (by simp) (rfl) ?_
  intro wc hoc hxc
  have hp : Own wc p ty [.int .i16 v, .int .i32 (IntKind.i32.wrap (atT t 0).n), .slice none 0 0, .map none] := hoc
  have ho := (ho.e0 hxa).ext hxc (Ne.symm hpb)
  have hx0 := (hx0.tr0 hxa).trans hxc fun _ _ h => h
  ((conv=>whnf);repeat(first|(refine mvT ?_;conv=>whnf)|(refine mvF ?_;conv=>whnf)|(refine cT (by rfl) ?_;conv=>whnf)|(refine cF (by rfl) ?_;conv=>whnf)))
  have hfl := fieldOK_list (hok.1 1 _ rfl)
  refine ⟨_, rfl, ho.cells, ?_⟩
  ((conv=>whnf);repeat(first|(refine mvT ?_;conv=>whnf)|(refine mvF ?_;conv=>whnf)|(refine cT (by rfl) ?_;conv=>whnf)|(refine cF (by rfl) ?_;conv=>whnf)))
  refine Does.mono (iat_does (ht0.ext hx0 fun k _ h => (hR0 k h).2) 1) ?_
  rintro ra wa ⟨hra, hxa⟩
  obtain ⟨sva, lva, uva, lsa, rfl, hna, hsa, hla, helsa, hua⟩ := hra.open
  ((conv=>whnf);repeat(first|(refine mvT ?_;conv=>whnf)|(refine mvF ?_;conv=>whnf)|(refine cT (by rfl) ?_;conv=>whnf)|(refine cF (by rfl) ?_;conv=>whnf)))
  refine VC.cutE (fun c : Value => [(0, .pointer (some ⟨p, 0, none⟩)), (3, .pointer (some ⟨b, 0, none⟩))]) (fun c w' => Ext (fun k => k = p) w0 w' ∧ Own w' p ty [.int .i16 v, .int .i32 (IntKind.i32.wrap (atT t 0).n), c, .map none] ∧ Own w' b ImplTreeT [.int .i64 t.n, sv, .bool t.nl, lv, .slice au us.length cu] ∧ ListR true 10 (rShareGroupDescribeResponseGroup w' (fun k => k ≠ p ∧ (R0 k ∨ w0.heap.size ≤ k))) w' (fun k => k ≠ p ∧ (R0 k ∨ w0.heap.size ≤ k)) c (atT t 1)) ?_ ?_
  · refine cI (by rfl) (fun hnl=>?_) (fun hnl=>?_)
    · have hnl : (atT t 1).nl = false := by simpa using hnl
      ((conv=>whnf);repeat(first|(refine mvT ?_;conv=>whnf)|(refine mvF ?_;conv=>whnf)|(refine cT (by rfl) ?_;conv=>whnf)|(refine cF (by rfl) ?_;conv=>whnf)))
      have hx1 := hx0.tr0 hxa
      refine ⟨_, rfl, (ho.e0 hxa).cells, ?_⟩
      ((conv=>whnf);repeat(first|(refine mvT ?_;conv=>whnf)|(refine mvF ?_;conv=>whnf)|(refine cT (by rfl) ?_;conv=>whnf)|(refine cF (by rfl) ?_;conv=>whnf)))
      refine Does.mono (iat_does (ht0.ext hx1 fun k _ h => (hR0 k h).2) 1) ?_
      rintro r5 w5 ⟨hr5, hx5⟩
      obtain ⟨sv5, lv5, uv5, ls5, rfl, hn5, hs5, hl5, hels5, hu5⟩ := hr5.open
      obtain ⟨a5, c5, rfl, _⟩ := hl5.view
      have hlen5 := hels5.len
      ((conv=>whnf);repeat(first|(refine mvT ?_;conv=>whnf)|(refine mvF ?_;conv=>whnf)|(refine cT (by rfl) ?_;conv=>whnf)|(refine cF (by rfl) ?_;conv=>whnf)))
      refine ⟨⟨by omega, by omega, by omega, by simp only [Int.toNat_natCast]; omega⟩, ⟨by decide, rfl⟩, ?_⟩
      intro b6 w6 hb6 ho6 hx6
      ((conv=>whnf);repeat(first|(refine mvT ?_;conv=>whnf)|(refine mvF ?_;conv=>whnf)|(refine cT (by rfl) ?_;conv=>whnf)|(refine cF (by rfl) ?_;conv=>whnf)))
      have hx56 := (hxa.e0 hx5).e0 hx6
      have hsz5 := (hxa.e0 hx5).size
      have hszc := hx0.size
      have hb6l := ho6.lt
      have hplc := hp.lt
      have hblc := ho.lt
      refine st_cell (o := 2) (v := .slice (some ⟨b6, 0, none⟩) 0 ls5.length) (hp.e0 hx56) rfl (by omega) rfl (by simp) rfl ?_
      intro w7 ho7 hx7
      ((conv=>whnf);repeat(first|(refine mvT ?_;conv=>whnf)|(refine mvF ?_;conv=>whnf)|(refine cT (by rfl) ?_;conv=>whnf)|(refine cF (by rfl) ?_;conv=>whnf)))
      have hx7c : Ext (fun k => k = p) wc w7 := (hx56.mono fun _ _ f => f.elim).trans hx7 fun _ _ h => h
      have hx07 := hx0.trans hx7c fun _ _ h => h
      refine ⟨_, rfl, (ho.ext hx7c (Ne.symm hpb)).cells, ?_⟩
      ((conv=>whnf);repeat(first|(refine mvT ?_;conv=>whnf)|(refine mvF ?_;conv=>whnf)|(refine cT (by rfl) ?_;conv=>whnf)|(refine cF (by rfl) ?_;conv=>whnf)))
      refine Does.mono (iat_does (ht0.ext hx07 fun k _ h => (hR0 k h).2) 1) ?_
      rintro r8 w8 ⟨hr8, hx8⟩
      obtain ⟨sv8, lv8, uv8, ls8, rfl, hn8, hs8, hl8, hels8, hu8⟩ := hr8.open
      obtain ⟨a8, c8, rfl, hc8, hm8, hF8, _, hC8⟩ := hl8.view
      have hlen8 := hels8.len
      ((conv=>whnf);repeat(first|(refine mvT ?_;conv=>whnf)|(refine mvF ?_;conv=>whnf)|(refine cT (by rfl) ?_;conv=>whnf)|(refine cF (by rfl) ?_;conv=>whnf)))
      have hx8c : Ext (fun k => k = p ∨ wc.heap.size ≤ k) wc w8 := (hx7c.tr0 hx8).mono fun _ _ h => .inl h
      have hx08 := hx07.tr0 hx8
      have hos8 := (OSl.mk0 (sz := 10) (n := ls5.length) (ho6.ext hx7 (by omega)) (by simp) (by rw [maxLen_eq]; omega) (B := wc.heap.size) (by omega)).e0 hx8
      refine VL.loop (fun s : Nat × Value => [(0, .pointer (some ⟨p, 0, none⟩)), (3, .pointer (some ⟨b, 0, none⟩)), (29, .slice a8 ls8.length c8), (30, .int .i64 ls8.length), (31, .int .i64 s.1)])
        (fun s w' => (Ext (fun k => k = p) w0 w' ∧ Ext (fun k => k = p ∨ wc.heap.size ≤ k) wc w' ∧ Ext (fun k => k = p ∨ w0.heap.size ≤ k) w8 w' ∧ s.1 ≤ ls8.length ∧ s.2 ≠ .slice none 0 0) ∧ Own w' p ty [.int .i16 v, .int .i32 (IntKind.i32.wrap (atT t 0).n), s.2, .map none] ∧ ∃ es : List (List Value), OSl w' wc.heap.size 163 10 s.2 es ∧ es.length = s.1 ∧ ∀ (j : Nat) (c : List Value) (x : T), es[j]? = some c → (atT t 1).l[j]? = some x → rShareGroupDescribeResponseGroup w' (fun k => k ≠ p ∧ (R0 k ∨ w0.heap.size ≤ k) ∧ s.2.ownBlock ≠ some k) c x) (fun s => ls8.length - s.1) (0, .slice (some ⟨b6, 0, none⟩) 0 ls5.length)
        ⟨rfl, rfl, rfl, rfl, rfl, trivial⟩ ⟨⟨hx08, hx8c, Ext.refl _ _, Nat.zero_le _, by simp⟩, ho7.e0 hx8, [], hos8, rfl, by simp⟩ ?_
      rintro ⟨i, sl⟩ w9 ⟨⟨hx09, hxc9, hx89, hi, hnn⟩, hp9, es, hos9, hesl, hesr⟩
      dsimp only at hi hp9 hos9 hesl hesr hnn
      ((conv=>whnf);repeat(first|(refine mvT ?_;conv=>whnf)|(refine mvF ?_;conv=>whnf)|(refine cT (by rfl) ?_;conv=>whnf)|(refine cF (by rfl) ?_;conv=>whnf)))
      refine cI (by rfl) (fun h9=>?_) (fun h9=>?_)
      · have hil : i < ls8.length := by have := of_decide_eq_true h9; simp only at this; omega
        have hill : i < (atT t 1).l.length := by omega
        have htr := hels8.at' i ls8[i] (atT t 1).l[i] (by simp [hil]) (by simp [hill])
        obtain ⟨b10, o10, rfl, hc10⟩ := hC8 i ls8[i] (by simp [hil])
        have hb10 := hF8 b10 o10 rfl (by omega)
        have hc10 := hc10.ext hx89 (by have := hR0 _ hb10.1; omega)
        have htr9 := htr.ext hx89 fun k _ h => by have := hR0 _ h; omega
        ((conv=>whnf);repeat(first|(refine mvT ?_;conv=>whnf)|(refine mvF ?_;conv=>whnf)|(refine cT (by rfl) ?_;conv=>whnf)|(refine cF (by rfl) ?_;conv=>whnf)))
        refine ⟨b10, o10, rfl, ⟨by omega, by omega⟩, ?_⟩
        ((conv=>whnf);repeat(first|(refine mvT ?_;conv=>whnf)|(refine mvF ?_;conv=>whnf)|(refine cT (by rfl) ?_;conv=>whnf)|(refine cF (by rfl) ?_;conv=>whnf)))
        refine ⟨ls8[i], htr.len, by rw [Int.toNat_natCast]; exact hc10, ?_⟩
        ((conv=>whnf);repeat(first|(refine mvT ?_;conv=>whnf)|(refine mvF ?_;conv=>whnf)|(refine cT (by rfl) ?_;conv=>whnf)|(refine cF (by rfl) ?_;conv=>whnf)))
        intro b11 w11 hb11 ho11 hx11
        ((conv=>whnf);repeat(first|(refine mvT ?_;conv=>whnf)|(refine mvF ?_;conv=>whnf)|(refine cT (by rfl) ?_;conv=>whnf)|(refine cF (by rfl) ?_;conv=>whnf)))
        refine st_all ls8[i] ho11 htr.len rfl htr.ok ?_
        intro w12 ho12 hx12
        have hx912 : Ext nob w9 w12.drew := (hx11.st hx12 hb11).e0 (ext_drew _)
        have ho12 := ho12.e0 (ext_drew _)
        have htr12 := htr9.e0 hx912
        obtain ⟨sv6, lv6, uv6, ls6, hy, hn6, hsy, _⟩ := Tr.open ⟨ls8[i], rfl, htr12⟩
        have hci : ls8[i] = [.int .i64 ((atT t 1).l[i]).n, sv6, .bool ((atT t 1).l[i]).nl, lv6, uv6] := by
          have := congrArg Value.cells hy
          exact congrArg Array.toList this
        rw [hci] at ho12 htr12
        have hs912 := hx912.size
        have hs9c := hxc9.size
        ((conv=>whnf);repeat(first|(refine mvT ?_;conv=>whnf)|(refine mvF ?_;conv=>whnf)|(refine cT (by rfl) ?_;conv=>whnf)|(refine cF (by rfl) ?_;conv=>whnf)))
        refine VD.draw mixed (.q 0 (.q 1 (.q 2 (.q 3 (.q 4 (.q 5 (.eff 6 [4] (.eff 7 [4] (.eff 8 [] (.q 9 (.q 10 (.eff 11 [] (.done))))))))))))) (by kernel_rfl) ?_;((conv=>whnf);repeat(first|(refine mvT ?_;conv=>whnf)|(refine mvF ?_;conv=>whnf)|(refine cT (by rfl) ?_;conv=>whnf)|(refine cF (by rfl) ?_;conv=>whnf)))
        refine ldS ((hp9.e0 hx912).cell rfl) ?_;((conv=>whnf);repeat(first|(refine mvT ?_;conv=>whnf)|(refine mvF ?_;conv=>whnf)|(refine cT (by rfl) ?_;conv=>whnf)|(refine cF (by rfl) ?_;conv=>whnf)))
        refine ⟨_, rfl, ho12.cells, ?_⟩
        ((conv=>whnf);repeat(first|(refine mvT ?_;conv=>whnf)|(refine mvF ?_;conv=>whnf)|(refine cT (by rfl) ?_;conv=>whnf)|(refine cF (by rfl) ?_;conv=>whnf)))
        refine Does.mono (makeShareGroupDescribeResponseGroup (u := u) ⟨_, rfl, htr12⟩ ((hfl.2 _ (List.getElem_mem hill)).2.2 rfl)) ?_
        rintro r13 w13 ⟨es13, rfl, hok13, hr13, hxm13⟩
        obtain ⟨zc1, zc7, zm, rfl, _⟩ := id hr13
        have hx913 := hx912.e0 hxm13
        refine ⟨by (conv => whnf); exact ⟨⟨_, (hp9.e0 hx913).cell rfl, rfl, rfl⟩, trivial⟩, ?_⟩
        ((conv=>whnf);repeat(first|(refine mvT ?_;conv=>whnf)|(refine mvF ?_;conv=>whnf)|(refine cT (by rfl) ?_;conv=>whnf)|(refine cF (by rfl) ?_;conv=>whnf)))
        intro b13 w14 hb13 ho13 hx13
        have ho13 : Own w14 b13 163 [.int .i16 (IntKind.i16.wrap (atT (atT t 1).l[i] 0).n), zc1, str (atT (atT t 1).l[i] 2).s, str (atT (atT t 1).l[i] 3).s, .int .i32 (IntKind.i32.wrap (atT (atT t 1).l[i] 4).n), .int .i32 (IntKind.i32.wrap (atT (atT t 1).l[i] 5).n), str (atT (atT t 1).l[i] 6).s, zc7, .int .i32 (IntKind.i32.wrap (atT (atT t 1).l[i] 8).n), zm] := ho13
        have hr13 := rShareGroupDescribeResponseGroup_ext hr13 hx13 fun _ _ _ f => f
        have hx913 := hx913.e0 hx13
        refine ⟨by (conv => whnf); exact ⟨⟨_, (hp9.e0 hx913).cell rfl, rfl, rfl⟩, trivial⟩, ?_⟩
        have hs913 := hx913.size
        ((conv=>whnf);repeat(first|(refine mvT ?_;conv=>whnf)|(refine mvF ?_;conv=>whnf)|(refine cT (by rfl) ?_;conv=>whnf)|(refine cF (by rfl) ?_;conv=>whnf)))
        refine app_struct (ms := [[.int .i16 (IntKind.i16.wrap (atT (atT t 1).l[i] 0).n), zc1, str (atT (atT t 1).l[i] 2).s, str (atT (atT t 1).l[i] 3).s, .int .i32 (IntKind.i32.wrap (atT (atT t 1).l[i] 4).n), .int .i32 (IntKind.i32.wrap (atT (atT t 1).l[i] 5).n), str (atT (atT t 1).l[i] 6).s, zc7, .int .i32 (IntKind.i32.wrap (atT (atT t 1).l[i] 8).n), zm]]) rfl (hos9.e0 hx913) (src_one ho13 (rShareGroupDescribeResponseGroup_len hr13) rfl) (by simp) (by simpa only [List.flatten_cons, List.flatten_nil, List.append_nil] using hok13) rfl ⟨by simp only [List.length_singleton, hesl]; omega, by simp only [List.length_singleton, hesl]; omega⟩ (by omega) ?_
        intro v15 w15 hos15 hx15 hb15 hnn15
        obtain ⟨a15, n15, c15, rfl⟩ : ∃ a n c, v15 = .slice a n c := by
          obtain ⟨a, c, h, _⟩ := hos15.shape
          exact ⟨a, _, c, h⟩
        have hpsl : ¬ sl.ownBlock = some p := fun h => by have := hos9.blk p h; omega
        have ho15 := (hp9.e0 hx913).ext hx15 hpsl
        ((conv=>whnf);repeat(first|(refine mvT ?_;conv=>whnf)|(refine mvF ?_;conv=>whnf)|(refine cT (by rfl) ?_;conv=>whnf)|(refine cF (by rfl) ?_;conv=>whnf)))
        refine st_cell (o := 2) (v := .slice a15 n15 c15) ho15 rfl (by omega) rfl (by simp) rfl ?_
        intro w16 ho16 hx16
        ((conv=>whnf);repeat(first|(refine mvT ?_;conv=>whnf)|(refine mvF ?_;conv=>whnf)|(refine cT (by rfl) ?_;conv=>whnf)|(refine cF (by rfl) ?_;conv=>whnf)))
        have hx916 : Ext (fun k => k = p ∨ wc.heap.size ≤ k) w9 w16 := ((hx913.mono fun _ _ f => f.elim).trans hx15 fun k _ h => .inr (hos9.blk k h)).trans hx16 fun _ _ h => .inl h
        have hos16 := hos15.ext hx16 fun k hk h => by have := hos15.blk k hk; omega
        refine ⟨(i + 1, _), ⟨rfl, rfl, rfl, rfl, inc_eq (by rw [maxLen_eq] at hm8; omega), trivial⟩, ⟨⟨hx09.trans hx916 fun k hk h => by omega, hxc9.trans hx916 fun _ _ h => h, hx89.trans hx916 fun k hk h => by omega, by simp only; omega, hnn15 hnn⟩, ho16, es ++ [[.int .i16 (IntKind.i16.wrap (atT (atT t 1).l[i] 0).n), zc1, str (atT (atT t 1).l[i] 2).s, str (atT (atT t 1).l[i] 3).s, .int .i32 (IntKind.i32.wrap (atT (atT t 1).l[i] 4).n), .int .i32 (IntKind.i32.wrap (atT (atT t 1).l[i] 5).n), str (atT (atT t 1).l[i] 6).s, zc7, .int .i32 (IntKind.i32.wrap (atT (atT t 1).l[i] 8).n), zm]], hos16, by simp [hesl], ?_⟩, by simp only; omega⟩
        intro j c x hj hx
        have key : rShareGroupDescribeResponseGroup w14 (fun k => k ≠ p ∧ (R0 k ∨ w0.heap.size ≤ k) ∧ sl.ownBlock ≠ some k) c x := by
          rcases Nat.lt_or_ge j es.length with hjl | hjl
          · rw [List.getElem?_append_left hjl] at hj
            exact rShareGroupDescribeResponseGroup_ext (hesr j c x hj hx) hx913 fun _ _ _ f => f
          · have hj0 : j = es.length := by have := (List.getElem?_eq_some_iff.1 hj).1; simp at this; omega
            subst hj0
            rw [List.getElem?_append_right (Nat.le_refl _), Nat.sub_self, List.getElem?_cons_zero, Option.some.injEq] at hj
            subst hj
            rw [hesl, List.getElem?_eq_getElem hill, Option.some.injEq] at hx
            subst hx
            exact rShareGroupDescribeResponseGroup_mono hr13 fun k hk h => by
              have hkp : k ≠ p := by rcases h with h | h; exact (hR0 k h).2; omega
              exact ⟨hkp, h.imp id (fun h => by omega), fun e => by have := hos9.own.lt k e; rcases h with h | h; (have := (hR0 k h).1; have := hos9.blk k e; omega); omega⟩
        have key2 := rShareGroupDescribeResponseGroup_ext (rShareGroupDescribeResponseGroup_ext (rShareGroupDescribeResponseGroup_mono key (F' := fun k => (fun k => k ≠ p ∧ (R0 k ∨ w0.heap.size ≤ k) ∧ sl.ownBlock ≠ some k) k ∧ k < w14.heap.size) fun k hk h => ⟨h, hk⟩) hx15 fun k _ h => h.1.2.2) hx16 fun k _ h => h.1.1
        exact rShareGroupDescribeResponseGroup_mono key2 fun k _ h => ⟨h.1.1, h.1.2.1, fun e => by
          rcases hb15 with e2 | ⟨g, hg, hle⟩
          · exact h.1.2.2 (e2 ▸ e)
          · have e : (Value.slice a15 n15 c15).ownBlock = some k := e
            rw [hg, Option.some.injEq] at e
            have := h.2
            omega⟩
      have hil : i = ls8.length := by have := of_decide_eq_false h9; simp only at this; omega
      ((conv=>whnf);repeat(first|(refine mvT ?_;conv=>whnf)|(refine mvF ?_;conv=>whnf)|(refine cT (by rfl) ?_;conv=>whnf)|(refine cF (by rfl) ?_;conv=>whnf)))
      have hli : ListR true 10 (rShareGroupDescribeResponseGroup w9 (fun k => k ≠ p ∧ (R0 k ∨ w0.heap.size ≤ k))) w9 (fun k => k ≠ p ∧ (R0 k ∨ w0.heap.size ≤ k)) sl (atT t 1) := by
        refine .inr ⟨hnl, fun _ => ?_, es, hos9.sl fun k hk => ⟨by omega, .inr (by omega)⟩, by omega, fun j c x hj hx => rShareGroupDescribeResponseGroup_mono (hesr j c x hj hx) fun k _ h => ⟨h.1, h.2.1⟩⟩
        rcases hos9.own.2 with ⟨e, _⟩ | ⟨g, cap, cur, e, _⟩
        · exact absurd e hnn
        · exact ⟨_, _, _, e⟩
      exact ⟨sl, ⟨rfl, rfl, trivial⟩, hx09, hp9, ho.ext hxc9 (by omega), hli⟩
    · have hnl : (atT t 1).nl = true := by simpa using hnl
      ((conv=>whnf);repeat(first|(refine mvT ?_;conv=>whnf)|(refine mvF ?_;conv=>whnf)|(refine cT (by rfl) ?_;conv=>whnf)|(refine cF (by rfl) ?_;conv=>whnf)))
      exact ⟨_, ⟨rfl, rfl, trivial⟩, hx0.tr0 hxa, hp.e0 hxa, ho.e0 hxa, .inl ⟨hnl, rfl⟩⟩
  clear hfl
  rintro c1 wc ⟨hx0, hp, ho, hc1⟩
  ((conv=>whnf);repeat(first|(refine mvT ?_;conv=>whnf)|(refine mvF ?_;conv=>whnf)|(refine cT (by rfl) ?_;conv=>whnf)|(refine cF (by rfl) ?_;conv=>whnf)))
  refine ldS (ho.cell rfl) ?_;((conv=>whnf);repeat(first|(refine mvT ?_;conv=>whnf)|(refine mvF ?_;conv=>whnf)|(refine cT (by rfl) ?_;conv=>whnf)|(refine cF (by rfl) ?_;conv=>whnf)))
  have hpN := hp.lt
  have h0N := hx0.size
  refine VL.loop (fun s : Nat × Value => [(0, .pointer (some ⟨p, 0, none⟩)), (3, .pointer (some ⟨b, 0, none⟩)), (48, .slice au us.length cu), (49, .int .i64 us.length), (50, .int .i64 s.1)])
    (fun s w' => (Ext (fun k => k = p) w0 w' ∧ Ext (fun k => k = p ∨ wc.heap.size ≤ k) wc w' ∧ s.1 ≤ us.length) ∧ Own w' p ty [.int .i16 v, .int .i32 (IntKind.i32.wrap (atT t 0).n), c1, s.2] ∧ TagsO w' wc.heap.size R0 s.2 (t.u.take s.1)) (fun s => us.length - s.1) (0, .map none)
    ⟨rfl, rfl, rfl, rfl, rfl, trivial⟩ ⟨⟨hx0, Ext.refl _ _, Nat.zero_le _⟩, hp, TagsO.nil _ _ _⟩ ?_
  rintro ⟨i, m⟩ w9 ⟨⟨hx09, hxc9, hi⟩, hp9, hm9⟩
  dsimp only at hi hp9 hm9
  ((conv=>whnf);repeat(first|(refine mvT ?_;conv=>whnf)|(refine mvF ?_;conv=>whnf)|(refine cT (by rfl) ?_;conv=>whnf)|(refine cF (by rfl) ?_;conv=>whnf)))
  refine cI (by rfl) (fun h9=>?_) (fun h9=>?_)
  · have hil : i < us.length := by have := of_decide_eq_true h9; simp only at this; omega
    have hilu : i < t.u.length := by omega
    obtain ⟨hkey, bv, hci, hbv⟩ := huc i us[i] t.u[i] (by simp [hil]) (by simp [hilu])
    obtain ⟨b10, o10, rfl, hc10⟩ := husC i us[i] (by simp [hil])
    have hb10 := husF b10 o10 rfl (by omega)
    rw [hci] at hc10
    obtain ⟨av, cv, rfl, _⟩ := hbv.view
    have hc10 := hc10.ext hx09 (hR0 _ hb10.1).2
    have hbv9 := hbv.ext hx09 fun k _ h => (hR0 k h).2
    ((conv=>whnf);repeat(first|(refine mvT ?_;conv=>whnf)|(refine mvF ?_;conv=>whnf)|(refine cT (by rfl) ?_;conv=>whnf)|(refine cF (by rfl) ?_;conv=>whnf)))
    refine ⟨b10, o10, rfl, ⟨by omega, by omega⟩, ?_⟩
    ((conv=>whnf);repeat(first|(refine mvT ?_;conv=>whnf)|(refine mvF ?_;conv=>whnf)|(refine cT (by rfl) ?_;conv=>whnf)|(refine cF (by rfl) ?_;conv=>whnf)))
    refine ⟨_, rfl, by rw [Int.toNat_natCast]; exact hc10, ?_⟩
    ((conv=>whnf);repeat(first|(refine mvT ?_;conv=>whnf)|(refine mvF ?_;conv=>whnf)|(refine cT (by rfl) ?_;conv=>whnf)|(refine cF (by rfl) ?_;conv=>whnf)))
    intro b11 w11 hb11 ho11 hx11
    ((conv=>whnf);repeat(first|(refine mvT ?_;conv=>whnf)|(refine mvF ?_;conv=>whnf)|(refine cT (by rfl) ?_;conv=>whnf)|(refine cF (by rfl) ?_;conv=>whnf)))
    refine st_all [.int .u32 (t.u[i].1 : Int), .slice av (t.u[i]).2.length cv] ho11 rfl rfl rfl ?_
    intro w12 ho12 hx12
    have hx912 : Ext nob w9 w12.drew := (hx11.st hx12 hb11).e0 (ext_drew _)
    have ho12 := ho12.e0 (ext_drew _)
    ((conv=>whnf);repeat(first|(refine mvT ?_;conv=>whnf)|(refine mvF ?_;conv=>whnf)|(refine cT (by rfl) ?_;conv=>whnf)|(refine cF (by rfl) ?_;conv=>whnf)))
    refine VD.draw mixed (.q 0 (.q 1 (.q 2 (.q 3 (.q 4 (.q 5 (.q 6 (.eff 7 [] (.done))))))))) (by kernel_rfl) ?_;((conv=>whnf);repeat(first|(refine mvT ?_;conv=>whnf)|(refine mvF ?_;conv=>whnf)|(refine cT (by rfl) ?_;conv=>whnf)|(refine cF (by rfl) ?_;conv=>whnf)))
    refine ldS (ho12.cell rfl) ?_;((conv=>whnf);repeat(first|(refine mvT ?_;conv=>whnf)|(refine mvF ?_;conv=>whnf)|(refine cT (by rfl) ?_;conv=>whnf)|(refine cF (by rfl) ?_;conv=>whnf)))
    refine ldS (ho12.cell rfl) ?_;((conv=>whnf);repeat(first|(refine mvT ?_;conv=>whnf)|(refine mvF ?_;conv=>whnf)|(refine cT (by rfl) ?_;conv=>whnf)|(refine cF (by rfl) ?_;conv=>whnf)))
    have hnew : ∀ x, x ∈ t.u.take i → x.1 ≠ (t.u[i]).1 := by
      intro x hx
      obtain ⟨j, hj, rfl⟩ := List.mem_take_iff_getElem.1 hx
      have := List.pairwise_iff_getElem.1 hok.2.rise j i (by omega) hilu (by omega)
      omega
    refine Does.mono (Tags_Set_does (o := 3) (N := wc.heap.size) (hp9.e0 hx912) rfl (hm9.e0 hx912) (Nat.le_trans hxc9.size hx912.size) hpN (fun k h => ⟨by have := (hR0 k h).1; omega, (hR0 k h).2⟩) (hbv9.e0 hx912) hnew) ?_
    rintro r13 w13 ⟨m13, hone, hp13, hm13, hx13⟩
    ((conv=>whnf);repeat(first|(refine mvT ?_;conv=>whnf)|(refine mvF ?_;conv=>whnf)|(refine cT (by rfl) ?_;conv=>whnf)|(refine cF (by rfl) ?_;conv=>whnf)))
    have hx913 : Ext (fun k => k = p ∨ wc.heap.size ≤ k) w9 w13 := (hx912.mono fun _ _ f => f.elim).trans hx13 fun _ _ h => h
    refine ⟨(i + 1, m13), ⟨rfl, rfl, rfl, rfl, inc_eq (by rw [maxLen_eq] at husm; omega), trivial⟩, ⟨⟨hx09.trans hx913 fun k hk h => by omega, hxc9.trans hx913 fun _ _ h => h, by simp only; omega⟩, hp13, ?_⟩, by simp only; omega⟩
    rw [List.take_succ_eq_append_getElem hilu]
    exact hm13
  have hil : i = us.length := by have := of_decide_eq_false h9; simp only at this; omega
  ((conv=>whnf);repeat(first|(refine mvT ?_;conv=>whnf)|(refine mvF ?_;conv=>whnf)|(refine cT (by rfl) ?_;conv=>whnf)|(refine cF (by rfl) ?_;conv=>whnf)))
  rw [hil, husl, List.take_length] at hm9
  exact ⟨hx09, c1, m, hp9, (hc1.ext hxc9 (fun k _ h => by have := h.1; omega) (fun _ _ h => rShareGroupDescribeResponseGroup_ext h hxc9 (fun k _ h => by have := h.1; omega))).mono (fun k _ h => h.1) (fun _ _ h => rShareGroupDescribeResponseGroup_mono h fun k _ h => h.1), hm9.tags.mono fun k hk h => by rcases h with h | h; exact (hR0 k h).2; omega⟩
def bShareGroupDescribeResponseGroupMemberAssignmentTopicPartition (v : Int) (fx : Bool) (t : T) : List UInt8 := ((uuidB (atT t 0).s) ++ ((txA fx (atT t 1).s) ++ ((arA fx (lsT (atT t 2)).length ++ (lsT (atT t 2)).flatMap (fun x => fixed x.n 4)) ++ ([])))) ++ tgsB fx t.u
theorem bShareGroupDescribeResponseGroupMemberAssignmentTopicPartition_eq {v : Int} {fx : Bool} {t : T} (hv : 0 ≤ v) (hok : partOK 5 v dShareGroupDescribeResponseGroupMemberAssignmentTopicPartition t) : partA 5 v fx dShareGroupDescribeResponseGroupMemberAssignmentTopicPartition t = bShareGroupDescribeResponseGroupMemberAssignmentTopicPartition v fx t := by
  unfold partA partAW bShareGroupDescribeResponseGroupMemberAssignmentTopicPartition
  have hf := hok.1 0 _ rfl
  rw [plainW_all hv]
  have hf := hok.1 1 _ rfl
  rw [plainW_all hv]
  rw [tx_eq hf]
  have hf := hok.1 2 _ rfl
  rw [plainW_all hv]
  rw [ar_eq (g := (fun x => fixed x.n 4)) hf fun y hy => rfl]
  rfl
def bShareGroupDescribeResponseGroupMemberAssignment (v : Int) (fx : Bool) (t : T) : List UInt8 := ((arA fx (lsT (atT t 0)).length ++ (lsT (atT t 0)).flatMap (bShareGroupDescribeResponseGroupMemberAssignmentTopicPartition v fx)) ++ ([])) ++ tgsB fx t.u
theorem bShareGroupDescribeResponseGroupMemberAssignment_eq {v : Int} {fx : Bool} {t : T} (hv : 0 ≤ v) (hok : partOK 6 v dShareGroupDescribeResponseGroupMemberAssignment t) : partA 6 v fx dShareGroupDescribeResponseGroupMemberAssignment t = bShareGroupDescribeResponseGroupMemberAssignment v fx t := by
  unfold partA partAW bShareGroupDescribeResponseGroupMemberAssignment
  have hf := hok.1 0 _ rfl
  rw [plainW_all hv]
  rw [ar_eq (g := (bShareGroupDescribeResponseGroupMemberAssignmentTopicPartition v fx)) hf fun y hy => bShareGroupDescribeResponseGroupMemberAssignmentTopicPartition_eq hv ((lsT_ok hf y hy).2.2 rfl)]
  rfl
def bShareGroupDescribeResponseGroupMember (v : Int) (fx : Bool) (t : T) : List UInt8 := ((txA fx (atT t 0).s) ++ ((ntA fx (atT t 1).nl (atT t 1).s) ++ ((fixed (atT t 2).n 4) ++ ((txA fx (atT t 3).s) ++ ((txA fx (atT t 4).s) ++ ((arA fx (lsT (atT t 5)).length ++ (lsT (atT t 5)).flatMap (fun x => txA fx x.s)) ++ ((bShareGroupDescribeResponseGroupMemberAssignment v fx (atT t 6)) ++ ([])))))))) ++ tgsB fx t.u
theorem bShareGroupDescribeResponseGroupMember_eq {v : Int} {fx : Bool} {t : T} (hv : 0 ≤ v) (hok : partOK 7 v dShareGroupDescribeResponseGroupMember t) : partA 7 v fx dShareGroupDescribeResponseGroupMember t = bShareGroupDescribeResponseGroupMember v fx t := by
  unfold partA partAW bShareGroupDescribeResponseGroupMember
  have hf := hok.1 0 _ rfl
  rw [plainW_all hv]
  rw [tx_eq hf]
  have hf := hok.1 1 _ rfl
  rw [plainW_all hv]
  rw [nt_eq hf]
  have hf := hok.1 2 _ rfl
  rw [plainW_all hv]
  have hf := hok.1 3 _ rfl
  rw [plainW_all hv]
  rw [tx_eq hf]
  have hf := hok.1 4 _ rfl
  rw [plainW_all hv]
  rw [tx_eq hf]
  have hf := hok.1 5 _ rfl
  rw [plainW_all hv]
  rw [ar_eq (g := (fun x => txA fx x.s)) hf fun y hy => vtx_eq]
  have hf := hok.1 6 _ rfl
  rw [plainW_all hv]
  rw [show fieldA 7 v fx (.mk 10 0 (-1) (-1) (-1) 0 0 dShareGroupDescribeResponseGroupMemberAssignment) (atT t 6) = partA 6 v fx dShareGroupDescribeResponseGroupMemberAssignment (atT t 6) from rfl, bShareGroupDescribeResponseGroupMemberAssignment_eq hv (fieldOK_part hf)]
  rfl
def bShareGroupDescribeResponseGroup (v : Int) (fx : Bool) (t : T) : List UInt8 := ((fixed (atT t 0).n 2) ++ ((ntA fx (atT t 1).nl (atT t 1).s) ++ ((txA fx (atT t 2).s) ++ ((txA fx (atT t 3).s) ++ ((fixed (atT t 4).n 4) ++ ((fixed (atT t 5).n 4) ++ ((txA fx (atT t 6).s) ++ ((arA fx (lsT (atT t 7)).length ++ (lsT (atT t 7)).flatMap (bShareGroupDescribeResponseGroupMember v fx)) ++ ((fixed (atT t 8).n 4) ++ ([])))))))))) ++ tgsB fx t.u
theorem bShareGroupDescribeResponseGroup_eq {v : Int} {fx : Bool} {t : T} (hv : 0 ≤ v) (hok : partOK 8 v dShareGroupDescribeResponseGroup t) : partA 8 v fx dShareGroupDescribeResponseGroup t = bShareGroupDescribeResponseGroup v fx t := by
  unfold partA partAW bShareGroupDescribeResponseGroup
  have hf := hok.1 0 _ rfl
  rw [plainW_all hv]
  have hf := hok.1 1 _ rfl
  rw [plainW_all hv]
  rw [nt_eq hf]
  have hf := hok.1 2 _ rfl
  rw [plainW_all hv]
  rw [tx_eq hf]
  have hf := hok.1 3 _ rfl
  rw [plainW_all hv]
  rw [tx_eq hf]
  have hf := hok.1 4 _ rfl
  rw [plainW_all hv]
  have hf := hok.1 5 _ rfl
  rw [plainW_all hv]
  have hf := hok.1 6 _ rfl
  rw [plainW_all hv]
  rw [tx_eq hf]
  have hf := hok.1 7 _ rfl
  rw [plainW_all hv]
  rw [ar_eq (g := (bShareGroupDescribeResponseGroupMember v fx)) hf fun y hy => bShareGroupDescribeResponseGroupMember_eq hv ((lsT_ok hf y hy).2.2 rfl)]
  have hf := hok.1 8 _ rfl
  rw [plainW_all hv]
  rfl
def bShareGroupDescribeResponse (v : Int) (fx : Bool) (t : T) : List UInt8 := ((fixed (atT t 0).n 4) ++ ((arA fx (lsT (atT t 1)).length ++ (lsT (atT t 1)).flatMap (bShareGroupDescribeResponseGroup v fx)) ++ ([]))) ++ tgsB fx t.u
theorem bShareGroupDescribeResponse_eq {v : Int} {fx : Bool} {t : T} (hv : 0 ≤ v) (hok : partOK 9 v dShareGroupDescribeResponse t) : partA 9 v fx dShareGroupDescribeResponse t = bShareGroupDescribeResponse v fx t := by
  unfold partA partAW bShareGroupDescribeResponse
  have hf := hok.1 0 _ rfl
  rw [plainW_all hv]
  have hf := hok.1 1 _ rfl
  rw [plainW_all hv]
  rw [ar_eq (g := (bShareGroupDescribeResponseGroup v fx)) hf fun y hy => bShareGroupDescribeResponseGroup_eq hv ((lsT_ok hf y hy).2.2 rfl)]
  rfl
theorem appShareGroupDescribeResponse {F : Nat → Prop} {w0 : World} {p B : Nat} {ty : TypeId} {v : Int} {x c1 m : Value} {l : List UInt8} {t : T} (hp : Own w0 p ty [.int .i16 v, .int .i32 (IntKind.i32.wrap (atT t 0).n), c1, m]) (hc1 : ListR true 10 (rShareGroupDescribeResponseGroup w0 F) w0 F c1 (atT t 1)) (hm : TagsR w0 F m t.u) (hok : partOK 9 v dShareGroupDescribeResponse t)
    (hF : ∀ j, j < w0.heap.size → F j → x.ownBlock ≠ some j) (hxp : x.ownBlock ≠ some p) (hx : OB w0 B x l) (hB : B ≤ w0.heap.size) (hv : 0 ≤ v) (hl : l.length + (bShareGroupDescribeResponse v (decide (v ≥ 0)) t).length ≤ 70000000000000) :
    Does X.P 56 #[.pointer (some ⟨p, 0, none⟩), x] w0 fun r w' => Apd w0 B x l (bShareGroupDescribeResponse v (decide (v ≥ 0)) t) r w' := by
  have hpl := hp.lt
  obtain ⟨fx, hfx⟩ : ∃ fx, fx = decide (v ≥ 0) := ⟨_, rfl⟩
  rw [← hfx] at hl ⊢
  unfold bShareGroupDescribeResponse at hl
  simp only [List.length_append, List.length_nil] at hl
  obtain ⟨F0, hFR, hFx, hcs⟩ : ∃ F0 : Nat → Prop, (∀ j, F0 j → j < w0.heap.size ∧ x.ownBlock ≠ some j) ∧ (∀ j, j < w0.heap.size → F0 j → ¬ x.ownBlock = some j) ∧ (ListR true 10 (rShareGroupDescribeResponseGroup w0 F0) w0 F0 c1 (atT t 1) ∧ TagsR w0 F0 m t.u) :=
    ⟨fun j => F j ∧ j < w0.heap.size, fun j h => ⟨h.2, hF j h.2 h.1⟩, fun j _ h => hF j h.2 h.1, hc1.mono (fun k h1 h2 => ⟨h2, h1⟩) (fun _ _ h => rShareGroupDescribeResponseGroup_mono h fun k h1 h2 => ⟨h2, h1⟩), hm.mono fun k h1 h2 => ⟨h2, h1⟩⟩
  clear hm hc1 hF
  obtain ⟨hc1, hm⟩ := hcs
  obtain ⟨a1, k1, l1, rfl, hkm1, hll1, hnn1, hcl1, hrl1⟩ := hc1.view
  have hA := Apd.start hx
  obtain ⟨m0, hm0⟩ : ∃ m0 : List UInt8, m0 = [] := ⟨_, rfl⟩
  rw [← hm0] at hA
  have hl0 : m0.length = 0 := by rw [hm0]; rfl
  refine Does.go (X := X) (l := [_, _]) Tryz.func56 rfl (by kernel_rfl) (by kernel_rfl) _ rfl ?_
  ((conv=>whnf);repeat(first|(refine mvT ?_;conv=>whnf)|(refine mvF ?_;conv=>whnf)|(refine cT (by rfl) ?_;conv=>whnf)|(refine cF (by rfl) ?_;conv=>whnf)))
  refine ldS (hp.cell rfl) ?_;((conv=>whnf);repeat(first|(refine mvT ?_;conv=>whnf)|(refine mvF ?_;conv=>whnf)|(refine cT (by rfl) ?_;conv=>whnf)|(refine cF (by rfl) ?_;conv=>whnf)))
  rw [← hfx]
  (refine mvB ?_;((conv=>whnf);repeat(first|(refine mvT ?_;conv=>whnf)|(refine mvF ?_;conv=>whnf)|(refine cT (by rfl) ?_;conv=>whnf)|(refine cF (by rfl) ?_;conv=>whnf))))
  refine ldS ((hp.ext hA.ext hxp).cell rfl) ?_;((conv=>whnf);repeat(first|(refine mvT ?_;conv=>whnf)|(refine mvF ?_;conv=>whnf)|(refine cT (by rfl) ?_;conv=>whnf)|(refine cF (by rfl) ?_;conv=>whnf)))
  refine Does.mono (AppendInt32_does hA.ob (Nat.le_trans hB hA.size) (by simp only [List.length_append]; omega) _) ?_;rintro r w h;((conv=>whnf);repeat(first|(refine mvT ?_;conv=>whnf)|(refine mvF ?_;conv=>whnf)|(refine cT (by rfl) ?_;conv=>whnf)|(refine cF (by rfl) ?_;conv=>whnf)))
  rw [fixed4_mod (wrap_i32m _)] at h
  replace hA := hA.tr h
  clear h
  generalize hm1 : m0 ++ (fixed (atT t 0).n 4) = m1 at hA
  have hl1 : m1.length = m0.length + (fixed (atT t 0).n 4).length := by rw [← hm1, List.length_append]
  refine ldS ((hp.ext hA.ext hxp).cell rfl) ?_;((conv=>whnf);repeat(first|(refine mvT ?_;conv=>whnf)|(refine mvF ?_;conv=>whnf)|(refine cT (by rfl) ?_;conv=>whnf)|(refine cF (by rfl) ?_;conv=>whnf)))
  have hml1 := lsT_len (hok.1 1 _ rfl)
  (refine mvB ?_;((conv=>whnf);repeat(first|(refine mvT ?_;conv=>whnf)|(refine mvF ?_;conv=>whnf)|(refine cT (by rfl) ?_;conv=>whnf)|(refine cF (by rfl) ?_;conv=>whnf))))
  refine VC.cutE (fun r => [(1, r), (0, .pointer (some ⟨p, 0, none⟩)), (5, .int .i16 v), (6, .bool fx), (8, .slice a1 l1.length k1)]) (fun r w' => Apd w0 B x l (m1 ++ (arA fx (lsT (atT t 1)).length)) r w') ?_ ?_
  · refine cI (by rfl) (fun hc=>?_) (fun hc=>?_)
    · ((conv=>whnf);repeat(first|(refine mvT ?_;conv=>whnf)|(refine mvF ?_;conv=>whnf)|(refine cT (by rfl) ?_;conv=>whnf)|(refine cF (by rfl) ?_;conv=>whnf)))
      refine Does.mono (AppendCompactArrayLen_does hA.ob (Nat.le_trans hB hA.size) (by simp only [List.length_append]; omega) l1.length (by omega)) ?_;rintro r w h;((conv=>whnf);repeat(first|(refine mvT ?_;conv=>whnf)|(refine mvF ?_;conv=>whnf)|(refine cT (by rfl) ?_;conv=>whnf)|(refine cF (by rfl) ?_;conv=>whnf)))
      rw [hll1] at h
      replace hA := hA.tr h
      clear h
      refine ⟨_, ⟨rfl, rfl, rfl, rfl, rfl, trivial⟩, ?_⟩
      rw [hc]
      exact hA
    · ((conv=>whnf);repeat(first|(refine mvT ?_;conv=>whnf)|(refine mvF ?_;conv=>whnf)|(refine cT (by rfl) ?_;conv=>whnf)|(refine cF (by rfl) ?_;conv=>whnf)))
      refine Does.mono (AppendArrayLen_does hA.ob (Nat.le_trans hB hA.size) (by simp only [List.length_append]; omega) l1.length) ?_;rintro r w h;((conv=>whnf);repeat(first|(refine mvT ?_;conv=>whnf)|(refine mvF ?_;conv=>whnf)|(refine cT (by rfl) ?_;conv=>whnf)|(refine cF (by rfl) ?_;conv=>whnf)))
      rw [hll1] at h
      replace hA := hA.tr h
      clear h
      refine ⟨_, ⟨rfl, rfl, rfl, rfl, rfl, trivial⟩, ?_⟩
      rw [hc]
      exact hA
  clear hA
  rintro r w hA
  ((conv=>whnf);repeat(first|(refine mvT ?_;conv=>whnf)|(refine mvF ?_;conv=>whnf)|(refine cT (by rfl) ?_;conv=>whnf)|(refine cF (by rfl) ?_;conv=>whnf)))
  generalize hm2 : m1 ++ (arA fx (lsT (atT t 1)).length) = m2 at hA
  have hl2 : m2.length = m1.length + (arA fx (lsT (atT t 1)).length).length := by rw [← hm2, List.length_append]
  refine VL.loop (fun s : Nat × Value => [(1, s.2), (0, .pointer (some ⟨p, 0, none⟩)), (5, .int .i16 v), (6, .bool fx), (8, .slice a1 l1.length k1), (67, .slice a1 l1.length k1), (68, .int .i64 l1.length), (69, .int .i64 s.1)])
    (fun s w' => s.1 ≤ l1.length ∧ Apd w0 B x l (m2 ++ ((lsT (atT t 1)).take s.1).flatMap (bShareGroupDescribeResponseGroup v fx)) s.2 w') (fun s => l1.length - s.1) (0, r) ⟨rfl, rfl, rfl, rfl, rfl, rfl, rfl, rfl, trivial⟩ ⟨Nat.zero_le _, by rw [List.take_zero, List.flatMap_nil, List.append_nil]; exact hA⟩ ?_
  clear hA
  rintro ⟨i1, r⟩ w ⟨hi1, hA⟩
  dsimp only at hi1 hA
  ((conv=>whnf);repeat(first|(refine mvT ?_;conv=>whnf)|(refine mvF ?_;conv=>whnf)|(refine cT (by rfl) ?_;conv=>whnf)|(refine cF (by rfl) ?_;conv=>whnf)))
  refine cI (by rfl) (fun h9=>?_) (fun h9=>?_)
  · have hil : i1 < l1.length := by have := of_decide_eq_true h9; simp only at this; omega
    have hiL1 : i1 < (lsT (atT t 1)).length := by omega
    obtain ⟨hft, hfl⟩ := flat_take (bShareGroupDescribeResponseGroup v fx) (lsT (atT t 1)) i1 hiL1
    obtain ⟨b1, o1, rfl, hF1, hb1, hce1⟩ := hcl1 i1 l1[i1] (by simp [hil])
    have hre1 := hrl1 i1 l1[i1] ((lsT (atT t 1))[i1]) (by simp [hil]) (by simp [hiL1])
    have hlo1 := lsT_ok (hok.1 1 _ rfl) ((lsT (atT t 1))[i1]) (List.getElem_mem hiL1)
    generalize hm3 : m2 ++ ((lsT (atT t 1)).take i1).flatMap (bShareGroupDescribeResponseGroup v fx) = m3 at hA
    have hl3 : m3.length = m2.length + (((lsT (atT t 1)).take i1).flatMap (bShareGroupDescribeResponseGroup v fx)).length := by rw [← hm3, List.length_append]
    obtain ⟨x1, hx1⟩ : ∃ y, y = (lsT (atT t 1))[i1] := ⟨_, rfl⟩
    rw [← hx1] at hft hfl hre1 hlo1
    obtain ⟨c1_1, c1_7, m1_, hcells, hc1_1, hc1_7, hm1_⟩ := hre1
    rw [hcells] at hce1
    have hok1_ := hlo1.2.2 rfl
    obtain ⟨a1_7, k1_7, l1_7, rfl, hkm1_7, hll1_7, hnn1_7, hcl1_7, hrl1_7⟩ := hc1_7.view
    have hgl : (bShareGroupDescribeResponseGroup v fx x1).length = (bShareGroupDescribeResponseGroup v fx x1).length := rfl
    conv at hgl => rhs; unfold bShareGroupDescribeResponseGroup
    simp only [List.length_append, List.length_nil] at hgl
    ((conv=>whnf);repeat(first|(refine mvT ?_;conv=>whnf)|(refine mvF ?_;conv=>whnf)|(refine cT (by rfl) ?_;conv=>whnf)|(refine cF (by rfl) ?_;conv=>whnf)))
    refine ⟨b1, o1, rfl, ⟨by omega, by omega⟩, ?_⟩
    ((conv=>whnf);repeat(first|(refine mvT ?_;conv=>whnf)|(refine mvF ?_;conv=>whnf)|(refine cT (by rfl) ?_;conv=>whnf)|(refine cF (by rfl) ?_;conv=>whnf)))
    refine ⟨_, ld ((hce1.ext hA.ext (hFx _ hb1 hF1)).cell (j := 0) rfl) (by simp <;> omega), ?_⟩; ((conv=>whnf);repeat(first|(refine mvT ?_;conv=>whnf)|(refine mvF ?_;conv=>whnf)|(refine cT (by rfl) ?_;conv=>whnf)|(refine cF (by rfl) ?_;conv=>whnf)))
    refine Does.mono (AppendInt16_does hA.ob (Nat.le_trans hB hA.size) (by simp only [List.length_append]; omega) _) ?_;rintro r w h;((conv=>whnf);repeat(first|(refine mvT ?_;conv=>whnf)|(refine mvF ?_;conv=>whnf)|(refine cT (by rfl) ?_;conv=>whnf)|(refine cF (by rfl) ?_;conv=>whnf)))
    rw [fixed2_mod (wrap_i16m _)] at h
    replace hA := hA.tr h
    clear h
    generalize hm4 : m3 ++ (fixed (atT x1 0).n 2) = m4 at hA
    have hl4 : m4.length = m3.length + (fixed (atT x1 0).n 2).length := by rw [← hm4, List.length_append]
    refine ⟨_, ld ((hce1.ext hA.ext (hFx _ hb1 hF1)).cell (j := 1) rfl) (by simp <;> omega), ?_⟩; ((conv=>whnf);repeat(first|(refine mvT ?_;conv=>whnf)|(refine mvF ?_;conv=>whnf)|(refine cT (by rfl) ?_;conv=>whnf)|(refine cF (by rfl) ?_;conv=>whnf)))
    have hsl := fieldOK_text (hok1_.1 1 _ rfl)
    (refine mvB ?_;((conv=>whnf);repeat(first|(refine mvT ?_;conv=>whnf)|(refine mvF ?_;conv=>whnf)|(refine cT (by rfl) ?_;conv=>whnf)|(refine cF (by rfl) ?_;conv=>whnf))))
    refine VC.cutE (fun r => [(1, r), (0, .pointer (some ⟨p, 0, none⟩)), (5, .int .i16 v), (6, .bool fx), (8, .slice (some ⟨b1, o1, none⟩) l1.length k1), (67, .slice (some ⟨b1, o1, none⟩) l1.length k1), (68, .int .i64 l1.length), (69, .int .i64 i1), (10, .pointer (some ⟨b1, o1 + i1 * 10, none⟩))]) (fun r w' => Apd w0 B x l (m4 ++ (ntA fx (atT x1 1).nl (atT x1 1).s)) r w') ?_ ?_
    · refine cI (by rfl) (fun hc=>?_) (fun hc=>?_)
      · ((conv=>whnf);repeat(first|(refine mvT ?_;conv=>whnf)|(refine mvF ?_;conv=>whnf)|(refine cT (by rfl) ?_;conv=>whnf)|(refine cF (by rfl) ?_;conv=>whnf)))
        refine Does.mono (AppendCompactNullableString_R hA.ob (Nat.le_trans hB hA.size) (hc1_1.ext hA.ext hFx) hsl (by simp only [List.length_append]; omega)) ?_;rintro r w h;((conv=>whnf);repeat(first|(refine mvT ?_;conv=>whnf)|(refine mvF ?_;conv=>whnf)|(refine cT (by rfl) ?_;conv=>whnf)|(refine cF (by rfl) ?_;conv=>whnf)))
        replace hA := hA.tr h
        clear h
        refine ⟨_, ⟨rfl, rfl, rfl, rfl, rfl, rfl, rfl, rfl, rfl, trivial⟩, ?_⟩
        rw [hc]
        exact hA
      · ((conv=>whnf);repeat(first|(refine mvT ?_;conv=>whnf)|(refine mvF ?_;conv=>whnf)|(refine cT (by rfl) ?_;conv=>whnf)|(refine cF (by rfl) ?_;conv=>whnf)))
        refine Does.mono (AppendNullableString_R hA.ob (Nat.le_trans hB hA.size) (hc1_1.ext hA.ext hFx) (by simp only [List.length_append]; omega)) ?_;rintro r w h;((conv=>whnf);repeat(first|(refine mvT ?_;conv=>whnf)|(refine mvF ?_;conv=>whnf)|(refine cT (by rfl) ?_;conv=>whnf)|(refine cF (by rfl) ?_;conv=>whnf)))
        replace hA := hA.tr h
        clear h
        refine ⟨_, ⟨rfl, rfl, rfl, rfl, rfl, rfl, rfl, rfl, rfl, trivial⟩, ?_⟩
        rw [hc]
        exact hA
    clear hA
    rintro r w hA
    ((conv=>whnf);repeat(first|(refine mvT ?_;conv=>whnf)|(refine mvF ?_;conv=>whnf)|(refine cT (by rfl) ?_;conv=>whnf)|(refine cF (by rfl) ?_;conv=>whnf)))
    generalize hm5 : m4 ++ (ntA fx (atT x1 1).nl (atT x1 1).s) = m5 at hA
    have hl5 : m5.length = m4.length + (ntA fx (atT x1 1).nl (atT x1 1).s).length := by rw [← hm5, List.length_append]
    refine ⟨_, ld ((hce1.ext hA.ext (hFx _ hb1 hF1)).cell (j := 2) rfl) (by simp <;> omega), ?_⟩; ((conv=>whnf);repeat(first|(refine mvT ?_;conv=>whnf)|(refine mvF ?_;conv=>whnf)|(refine cT (by rfl) ?_;conv=>whnf)|(refine cF (by rfl) ?_;conv=>whnf)))
    have hsl := fieldOK_text (hok1_.1 2 _ rfl)
    (refine mvB ?_;((conv=>whnf);repeat(first|(refine mvT ?_;conv=>whnf)|(refine mvF ?_;conv=>whnf)|(refine cT (by rfl) ?_;conv=>whnf)|(refine cF (by rfl) ?_;conv=>whnf))))
    refine VC.cutE (fun r => [(1, r), (0, .pointer (some ⟨p, 0, none⟩)), (5, .int .i16 v), (6, .bool fx), (8, .slice (some ⟨b1, o1, none⟩) l1.length k1), (67, .slice (some ⟨b1, o1, none⟩) l1.length k1), (68, .int .i64 l1.length), (69, .int .i64 i1), (10, .pointer (some ⟨b1, o1 + i1 * 10, none⟩))]) (fun r w' => Apd w0 B x l (m5 ++ (txA fx (atT x1 2).s)) r w') ?_ ?_
    · refine cI (by rfl) (fun hc=>?_) (fun hc=>?_)
      · ((conv=>whnf);repeat(first|(refine mvT ?_;conv=>whnf)|(refine mvF ?_;conv=>whnf)|(refine cT (by rfl) ?_;conv=>whnf)|(refine cF (by rfl) ?_;conv=>whnf)))
        refine Does.mono (AppendCompactString_does hA.ob (Nat.le_trans hB hA.size) _ (by omega) (by simp only [List.length_append]; omega)) ?_;rintro r w h;((conv=>whnf);repeat(first|(refine mvT ?_;conv=>whnf)|(refine mvF ?_;conv=>whnf)|(refine cT (by rfl) ?_;conv=>whnf)|(refine cF (by rfl) ?_;conv=>whnf)))
        replace hA := hA.tr h
        clear h
        refine ⟨_, ⟨rfl, rfl, rfl, rfl, rfl, rfl, rfl, rfl, rfl, trivial⟩, ?_⟩
        rw [hc]
        exact hA
      · ((conv=>whnf);repeat(first|(refine mvT ?_;conv=>whnf)|(refine mvF ?_;conv=>whnf)|(refine cT (by rfl) ?_;conv=>whnf)|(refine cF (by rfl) ?_;conv=>whnf)))
        refine Does.mono (AppendString_does hA.ob (Nat.le_trans hB hA.size) _ (by simp only [List.length_append]; omega)) ?_;rintro r w h;((conv=>whnf);repeat(first|(refine mvT ?_;conv=>whnf)|(refine mvF ?_;conv=>whnf)|(refine cT (by rfl) ?_;conv=>whnf)|(refine cF (by rfl) ?_;conv=>whnf)))
        replace hA := hA.tr h
        clear h
        refine ⟨_, ⟨rfl, rfl, rfl, rfl, rfl, rfl, rfl, rfl, rfl, trivial⟩, ?_⟩
        rw [hc]
        exact hA
    clear hA
    rintro r w hA
    ((conv=>whnf);repeat(first|(refine mvT ?_;conv=>whnf)|(refine mvF ?_;conv=>whnf)|(refine cT (by rfl) ?_;conv=>whnf)|(refine cF (by rfl) ?_;conv=>whnf)))
    generalize hm6 : m5 ++ (txA fx (atT x1 2).s) = m6 at hA
    have hl6 : m6.length = m5.length + (txA fx (atT x1 2).s).length := by rw [← hm6, List.length_append]
    refine ⟨_, ld ((hce1.ext hA.ext (hFx _ hb1 hF1)).cell (j := 3) rfl) (by simp <;> omega), ?_⟩; ((conv=>whnf);repeat(first|(refine mvT ?_;conv=>whnf)|(refine mvF ?_;conv=>whnf)|(refine cT (by rfl) ?_;conv=>whnf)|(refine cF (by rfl) ?_;conv=>whnf)))
    have hsl := fieldOK_text (hok1_.1 3 _ rfl)
    (refine mvB ?_;((conv=>whnf);repeat(first|(refine mvT ?_;conv=>whnf)|(refine mvF ?_;conv=>whnf)|(refine cT (by rfl) ?_;conv=>whnf)|(refine cF (by rfl) ?_;conv=>whnf))))
    refine VC.cutE (fun r => [(1, r), (0, .pointer (some ⟨p, 0, none⟩)), (5, .int .i16 v), (6, .bool fx), (8, .slice (some ⟨b1, o1, none⟩) l1.length k1), (67, .slice (some ⟨b1, o1, none⟩) l1.length k1), (68, .int .i64 l1.length), (69, .int .i64 i1), (10, .pointer (some ⟨b1, o1 + i1 * 10, none⟩))]) (fun r w' => Apd w0 B x l (m6 ++ (txA fx (atT x1 3).s)) r w') ?_ ?_
    · refine cI (by rfl) (fun hc=>?_) (fun hc=>?_)
      · ((conv=>whnf);repeat(first|(refine mvT ?_;conv=>whnf)|(refine mvF ?_;conv=>whnf)|(refine cT (by rfl) ?_;conv=>whnf)|(refine cF (by rfl) ?_;conv=>whnf)))
        refine Does.mono (AppendCompactString_does hA.ob (Nat.le_trans hB hA.size) _ (by omega) (by simp only [List.length_append]; omega)) ?_;rintro r w h;((conv=>whnf);repeat(first|(refine mvT ?_;conv=>whnf)|(refine mvF ?_;conv=>whnf)|(refine cT (by rfl) ?_;conv=>whnf)|(refine cF (by rfl) ?_;conv=>whnf)))
        replace hA := hA.tr h
        clear h
        refine ⟨_, ⟨rfl, rfl, rfl, rfl, rfl, rfl, rfl, rfl, rfl, trivial⟩, ?_⟩
        rw [hc]
        exact hA
      · ((conv=>whnf);repeat(first|(refine mvT ?_;conv=>whnf)|(refine mvF ?_;conv=>whnf)|(refine cT (by rfl) ?_;conv=>whnf)|(refine cF (by rfl) ?_;conv=>whnf)))
        refine Does.mono (AppendString_does hA.ob (Nat.le_trans hB hA.size) _ (by simp only [List.length_append]; omega)) ?_;rintro r w h;((conv=>whnf);repeat(first|(refine mvT ?_;conv=>whnf)|(refine mvF ?_;conv=>whnf)|(refine cT (by rfl) ?_;conv=>whnf)|(refine cF (by rfl) ?_;conv=>whnf)))
        replace hA := hA.tr h
        clear h
        refine ⟨_, ⟨rfl, rfl, rfl, rfl, rfl, rfl, rfl, rfl, rfl, trivial⟩, ?_⟩
        rw [hc]
        exact hA
    clear hA
    rintro r w hA
    ((conv=>whnf);repeat(first|(refine mvT ?_;conv=>whnf)|(refine mvF ?_;conv=>whnf)|(refine cT (by rfl) ?_;conv=>whnf)|(refine cF (by rfl) ?_;conv=>whnf)))
    generalize hm7 : m6 ++ (txA fx (atT x1 3).s) = m7 at hA
    have hl7 : m7.length = m6.length + (txA fx (atT x1 3).s).length := by rw [← hm7, List.length_append]
    refine ⟨_, ld ((hce1.ext hA.ext (hFx _ hb1 hF1)).cell (j := 4) rfl) (by simp <;> omega), ?_⟩; ((conv=>whnf);repeat(first|(refine mvT ?_;conv=>whnf)|(refine mvF ?_;conv=>whnf)|(refine cT (by rfl) ?_;conv=>whnf)|(refine cF (by rfl) ?_;conv=>whnf)))
    refine Does.mono (AppendInt32_does hA.ob (Nat.le_trans hB hA.size) (by simp only [List.length_append]; omega) _) ?_;rintro r w h;((conv=>whnf);repeat(first|(refine mvT ?_;conv=>whnf)|(refine mvF ?_;conv=>whnf)|(refine cT (by rfl) ?_;conv=>whnf)|(refine cF (by rfl) ?_;conv=>whnf)))
    rw [fixed4_mod (wrap_i32m _)] at h
    replace hA := hA.tr h
    clear h
    generalize hm8 : m7 ++ (fixed (atT x1 4).n 4) = m8 at hA
    have hl8 : m8.length = m7.length + (fixed (atT x1 4).n 4).length := by rw [← hm8, List.length_append]
    refine ⟨_, ld ((hce1.ext hA.ext (hFx _ hb1 hF1)).cell (j := 5) rfl) (by simp <;> omega), ?_⟩; ((conv=>whnf);repeat(first|(refine mvT ?_;conv=>whnf)|(refine mvF ?_;conv=>whnf)|(refine cT (by rfl) ?_;conv=>whnf)|(refine cF (by rfl) ?_;conv=>whnf)))
    refine Does.mono (AppendInt32_does hA.ob (Nat.le_trans hB hA.size) (by simp only [List.length_append]; omega) _) ?_;rintro r w h;((conv=>whnf);repeat(first|(refine mvT ?_;conv=>whnf)|(refine mvF ?_;conv=>whnf)|(refine cT (by rfl) ?_;conv=>whnf)|(refine cF (by rfl) ?_;conv=>whnf)))
    rw [fixed4_mod (wrap_i32m _)] at h
    replace hA := hA.tr h
    clear h
    generalize hm9 : m8 ++ (fixed (atT x1 5).n 4) = m9 at hA
    have hl9 : m9.length = m8.length + (fixed (atT x1 5).n 4).length := by rw [← hm9, List.length_append]
    refine ⟨_, ld ((hce1.ext hA.ext (hFx _ hb1 hF1)).cell (j := 6) rfl) (by simp <;> omega), ?_⟩; ((conv=>whnf);repeat(first|(refine mvT ?_;conv=>whnf)|(refine mvF ?_;conv=>whnf)|(refine cT (by rfl) ?_;conv=>whnf)|(refine cF (by rfl) ?_;conv=>whnf)))
    have hsl := fieldOK_text (hok1_.1 6 _ rfl)
    (refine mvB ?_;((conv=>whnf);repeat(first|(refine mvT ?_;conv=>whnf)|(refine mvF ?_;conv=>whnf)|(refine cT (by rfl) ?_;conv=>whnf)|(refine cF (by rfl) ?_;conv=>whnf))))
    refine VC.cutE (fun r => [(1, r), (0, .pointer (some ⟨p, 0, none⟩)), (5, .int .i16 v), (6, .bool fx), (8, .slice (some ⟨b1, o1, none⟩) l1.length k1), (67, .slice (some ⟨b1, o1, none⟩) l1.length k1), (68, .int .i64 l1.length), (69, .int .i64 i1), (10, .pointer (some ⟨b1, o1 + i1 * 10, none⟩))]) (fun r w' => Apd w0 B x l (m9 ++ (txA fx (atT x1 6).s)) r w') ?_ ?_
    · refine cI (by rfl) (fun hc=>?_) (fun hc=>?_)
      · ((conv=>whnf);repeat(first|(refine mvT ?_;conv=>whnf)|(refine mvF ?_;conv=>whnf)|(refine cT (by rfl) ?_;conv=>whnf)|(refine cF (by rfl) ?_;conv=>whnf)))
        refine Does.mono (AppendCompactString_does hA.ob (Nat.le_trans hB hA.size) _ (by omega) (by simp only [List.length_append]; omega)) ?_;rintro r w h;((conv=>whnf);repeat(first|(refine mvT ?_;conv=>whnf)|(refine mvF ?_;conv=>whnf)|(refine cT (by rfl) ?_;conv=>whnf)|(refine cF (by rfl) ?_;conv=>whnf)))
        replace hA := hA.tr h
        clear h
        refine ⟨_, ⟨rfl, rfl, rfl, rfl, rfl, rfl, rfl, rfl, rfl, trivial⟩, ?_⟩
        rw [hc]
        exact hA
      · ((conv=>whnf);repeat(first|(refine mvT ?_;conv=>whnf)|(refine mvF ?_;conv=>whnf)|(refine cT (by rfl) ?_;conv=>whnf)|(refine cF (by rfl) ?_;conv=>whnf)))
        refine Does.mono (AppendString_does hA.ob (Nat.le_trans hB hA.size) _ (by simp only [List.length_append]; omega)) ?_;rintro r w h;((conv=>whnf);repeat(first|(refine mvT ?_;conv=>whnf)|(refine mvF ?_;conv=>whnf)|(refine cT (by rfl) ?_;conv=>whnf)|(refine cF (by rfl) ?_;conv=>whnf)))
        replace hA := hA.tr h
        clear h
        refine ⟨_, ⟨rfl, rfl, rfl, rfl, rfl, rfl, rfl, rfl, rfl, trivial⟩, ?_⟩
        rw [hc]
        exact hA
    clear hA
    rintro r w hA
    ((conv=>whnf);repeat(first|(refine mvT ?_;conv=>whnf)|(refine mvF ?_;conv=>whnf)|(refine cT (by rfl) ?_;conv=>whnf)|(refine cF (by rfl) ?_;conv=>whnf)))
    generalize hm10 : m9 ++ (txA fx (atT x1 6).s) = m10 at hA
    have hl10 : m10.length = m9.length + (txA fx (atT x1 6).s).length := by rw [← hm10, List.length_append]
    refine ⟨_, ld ((hce1.ext hA.ext (hFx _ hb1 hF1)).cell (j := 7) rfl) (by simp <;> omega), ?_⟩; ((conv=>whnf);repeat(first|(refine mvT ?_;conv=>whnf)|(refine mvF ?_;conv=>whnf)|(refine cT (by rfl) ?_;conv=>whnf)|(refine cF (by rfl) ?_;conv=>whnf)))
    have hml1_7 := lsT_len (hok1_.1 7 _ rfl)
    (refine mvB ?_;((conv=>whnf);repeat(first|(refine mvT ?_;conv=>whnf)|(refine mvF ?_;conv=>whnf)|(refine cT (by rfl) ?_;conv=>whnf)|(refine cF (by rfl) ?_;conv=>whnf))))
    refine VC.cutE (fun r => [(1, r), (0, .pointer (some ⟨p, 0, none⟩)), (5, .int .i16 v), (6, .bool fx), (8, .slice (some ⟨b1, o1, none⟩) l1.length k1), (67, .slice (some ⟨b1, o1, none⟩) l1.length k1), (68, .int .i64 l1.length), (69, .int .i64 i1), (10, .pointer (some ⟨b1, o1 + i1 * 10, none⟩)), (18, .slice a1_7 l1_7.length k1_7)]) (fun r w' => Apd w0 B x l (m10 ++ (arA fx (lsT (atT x1 7)).length)) r w') ?_ ?_
    · refine cI (by rfl) (fun hc=>?_) (fun hc=>?_)
      · ((conv=>whnf);repeat(first|(refine mvT ?_;conv=>whnf)|(refine mvF ?_;conv=>whnf)|(refine cT (by rfl) ?_;conv=>whnf)|(refine cF (by rfl) ?_;conv=>whnf)))
        refine Does.mono (AppendCompactArrayLen_does hA.ob (Nat.le_trans hB hA.size) (by simp only [List.length_append]; omega) l1_7.length (by omega)) ?_;rintro r w h;((conv=>whnf);repeat(first|(refine mvT ?_;conv=>whnf)|(refine mvF ?_;conv=>whnf)|(refine cT (by rfl) ?_;conv=>whnf)|(refine cF (by rfl) ?_;conv=>whnf)))
        rw [hll1_7] at h
        replace hA := hA.tr h
        clear h
        refine ⟨_, ⟨rfl, rfl, rfl, rfl, rfl, rfl, rfl, rfl, rfl, rfl, trivial⟩, ?_⟩
        rw [hc]
        exact hA
      · ((conv=>whnf);repeat(first|(refine mvT ?_;conv=>whnf)|(refine mvF ?_;conv=>whnf)|(refine cT (by rfl) ?_;conv=>whnf)|(refine cF (by rfl) ?_;conv=>whnf)))
        refine Does.mono (AppendArrayLen_does hA.ob (Nat.le_trans hB hA.size) (by simp only [List.length_append]; omega) l1_7.length) ?_;rintro r w h;((conv=>whnf);repeat(first|(refine mvT ?_;conv=>whnf)|(refine mvF ?_;conv=>whnf)|(refine cT (by rfl) ?_;conv=>whnf)|(refine cF (by rfl) ?_;conv=>whnf)))
        rw [hll1_7] at h
        replace hA := hA.tr h
        clear h
        refine ⟨_, ⟨rfl, rfl, rfl, rfl, rfl, rfl, rfl, rfl, rfl, rfl, trivial⟩, ?_⟩
        rw [hc]
        exact hA
    clear hA
    rintro r w hA
    ((conv=>whnf);repeat(first|(refine mvT ?_;conv=>whnf)|(refine mvF ?_;conv=>whnf)|(refine cT (by rfl) ?_;conv=>whnf)|(refine cF (by rfl) ?_;conv=>whnf)))
    generalize hm11 : m10 ++ (arA fx (lsT (atT x1 7)).length) = m11 at hA
    have hl11 : m11.length = m10.length + (arA fx (lsT (atT x1 7)).length).length := by rw [← hm11, List.length_append]
    refine VL.loop (fun s : Nat × Value => [(1, s.2), (0, .pointer (some ⟨p, 0, none⟩)), (5, .int .i16 v), (6, .bool fx), (8, .slice (some ⟨b1, o1, none⟩) l1.length k1), (67, .slice (some ⟨b1, o1, none⟩) l1.length k1), (68, .int .i64 l1.length), (69, .int .i64 i1), (10, .pointer (some ⟨b1, o1 + i1 * 10, none⟩)), (18, .slice a1_7 l1_7.length k1_7), (153, .slice a1_7 l1_7.length k1_7), (154, .int .i64 l1_7.length), (155, .int .i64 s.1)])
      (fun s w' => s.1 ≤ l1_7.length ∧ Apd w0 B x l (m11 ++ ((lsT (atT x1 7)).take s.1).flatMap (bShareGroupDescribeResponseGroupMember v fx)) s.2 w') (fun s => l1_7.length - s.1) (0, r) ⟨rfl, rfl, rfl, rfl, rfl, rfl, rfl, rfl, rfl, rfl, rfl, rfl, rfl, trivial⟩ ⟨Nat.zero_le _, by rw [List.take_zero, List.flatMap_nil, List.append_nil]; exact hA⟩ ?_
    clear hA
    rintro ⟨i2, r⟩ w ⟨hi2, hA⟩
    dsimp only at hi2 hA
    ((conv=>whnf);repeat(first|(refine mvT ?_;conv=>whnf)|(refine mvF ?_;conv=>whnf)|(refine cT (by rfl) ?_;conv=>whnf)|(refine cF (by rfl) ?_;conv=>whnf)))
    refine cI (by rfl) (fun h9=>?_) (fun h9=>?_)
    · have hil : i2 < l1_7.length := by have := of_decide_eq_true h9; simp only at this; omega
      have hiL2 : i2 < (lsT (atT x1 7)).length := by omega
      obtain ⟨hft, hfl⟩ := flat_take (bShareGroupDescribeResponseGroupMember v fx) (lsT (atT x1 7)) i2 hiL2
      obtain ⟨b1_7, o1_7, rfl, hF1_7, hb1_7, hce1_7⟩ := hcl1_7 i2 l1_7[i2] (by simp [hil])
      have hre1_7 := hrl1_7 i2 l1_7[i2] ((lsT (atT x1 7))[i2]) (by simp [hil]) (by simp [hiL2])
      have hlo1_7 := lsT_ok (hok1_.1 7 _ rfl) ((lsT (atT x1 7))[i2]) (List.getElem_mem hiL2)
      generalize hm12 : m11 ++ ((lsT (atT x1 7)).take i2).flatMap (bShareGroupDescribeResponseGroupMember v fx) = m12 at hA
      have hl12 : m12.length = m11.length + (((lsT (atT x1 7)).take i2).flatMap (bShareGroupDescribeResponseGroupMember v fx)).length := by rw [← hm12, List.length_append]
      obtain ⟨x2, hx2⟩ : ∃ y, y = (lsT (atT x1 7))[i2] := ⟨_, rfl⟩
      rw [← hx2] at hft hfl hre1_7 hlo1_7
      obtain ⟨c2_1, c2_5, c2_6_0, c2_6_1, m2_, hcells, hc2_1, hc2_5, hc2_6, hm2_⟩ := hre1_7
      rw [hcells] at hce1_7
      have hok2_ := hlo1_7.2.2 rfl
      obtain ⟨a2_5, k2_5, l2_5, rfl, hkm2_5, hll2_5, hnn2_5, hcl2_5, hrl2_5⟩ := hc2_5.view
      have hgl : (bShareGroupDescribeResponseGroupMember v fx x2).length = (bShareGroupDescribeResponseGroupMember v fx x2).length := rfl
      conv at hgl => rhs; unfold bShareGroupDescribeResponseGroupMember
      simp only [List.length_append, List.length_nil] at hgl
      ((conv=>whnf);repeat(first|(refine mvT ?_;conv=>whnf)|(refine mvF ?_;conv=>whnf)|(refine cT (by rfl) ?_;conv=>whnf)|(refine cF (by rfl) ?_;conv=>whnf)))
      refine ⟨b1_7, o1_7, rfl, ⟨by omega, by omega⟩, ?_⟩
      ((conv=>whnf);repeat(first|(refine mvT ?_;conv=>whnf)|(refine mvF ?_;conv=>whnf)|(refine cT (by rfl) ?_;conv=>whnf)|(refine cF (by rfl) ?_;conv=>whnf)))
      refine ⟨_, ld ((hce1_7.ext hA.ext (hFx _ hb1_7 hF1_7)).cell (j := 0) rfl) (by simp <;> omega), ?_⟩; ((conv=>whnf);repeat(first|(refine mvT ?_;conv=>whnf)|(refine mvF ?_;conv=>whnf)|(refine cT (by rfl) ?_;conv=>whnf)|(refine cF (by rfl) ?_;conv=>whnf)))
      have hsl := fieldOK_text (hok2_.1 0 _ rfl)
      (refine mvB ?_;((conv=>whnf);repeat(first|(refine mvT ?_;conv=>whnf)|(refine mvF ?_;conv=>whnf)|(refine cT (by rfl) ?_;conv=>whnf)|(refine cF (by rfl) ?_;conv=>whnf))))
      refine VC.cutE (fun r => [(1, r), (0, .pointer (some ⟨p, 0, none⟩)), (5, .int .i16 v), (6, .bool fx), (8, .slice (some ⟨b1, o1, none⟩) l1.length k1), (67, .slice (some ⟨b1, o1, none⟩) l1.length k1), (68, .int .i64 l1.length), (69, .int .i64 i1), (10, .pointer (some ⟨b1, o1 + i1 * 10, none⟩)), (18, .slice (some ⟨b1_7, o1_7, none⟩) l1_7.length k1_7), (153, .slice (some ⟨b1_7, o1_7, none⟩) l1_7.length k1_7), (154, .int .i64 l1_7.length), (155, .int .i64 i2), (20, .pointer (some ⟨b1_7, o1_7 + i2 * 9, none⟩))]) (fun r w' => Apd w0 B x l (m12 ++ (txA fx (atT x2 0).s)) r w') ?_ ?_
      · refine cI (by rfl) (fun hc=>?_) (fun hc=>?_)
        · ((conv=>whnf);repeat(first|(refine mvT ?_;conv=>whnf)|(refine mvF ?_;conv=>whnf)|(refine cT (by rfl) ?_;conv=>whnf)|(refine cF (by rfl) ?_;conv=>whnf)))
          refine Does.mono (AppendCompactString_does hA.ob (Nat.le_trans hB hA.size) _ (by omega) (by simp only [List.length_append]; omega)) ?_;rintro r w h;((conv=>whnf);repeat(first|(refine mvT ?_;conv=>whnf)|(refine mvF ?_;conv=>whnf)|(refine cT (by rfl) ?_;conv=>whnf)|(refine cF (by rfl) ?_;conv=>whnf)))
          replace hA := hA.tr h
          clear h
          refine ⟨_, ⟨rfl, rfl, rfl, rfl, rfl, rfl, rfl, rfl, rfl, rfl, rfl, rfl, rfl, rfl, trivial⟩, ?_⟩
          rw [hc]
          exact hA
        · ((conv=>whnf);repeat(first|(refine mvT ?_;conv=>whnf)|(refine mvF ?_;conv=>whnf)|(refine cT (by rfl) ?_;conv=>whnf)|(refine cF (by rfl) ?_;conv=>whnf)))
          refine Does.mono (AppendString_does hA.ob (Nat.le_trans hB hA.size) _ (by simp only [List.length_append]; omega)) ?_;rintro r w h;((conv=>whnf);repeat(first|(refine mvT ?_;conv=>whnf)|(refine mvF ?_;conv=>whnf)|(refine cT (by rfl) ?_;conv=>whnf)|(refine cF (by rfl) ?_;conv=>whnf)))
          replace hA := hA.tr h
          clear h
          refine ⟨_, ⟨rfl, rfl, rfl, rfl, rfl, rfl, rfl, rfl, rfl, rfl, rfl, rfl, rfl, rfl, trivial⟩, ?_⟩
          rw [hc]
          exact hA
      clear hA
      rintro r w hA
      ((conv=>whnf);repeat(first|(refine mvT ?_;conv=>whnf)|(refine mvF ?_;conv=>whnf)|(refine cT (by rfl) ?_;conv=>whnf)|(refine cF (by rfl) ?_;conv=>whnf)))
      generalize hm13 : m12 ++ (txA fx (atT x2 0).s) = m13 at hA
      have hl13 : m13.length = m12.length + (txA fx (atT x2 0).s).length := by rw [← hm13, List.length_append]
      refine ⟨_, ld ((hce1_7.ext hA.ext (hFx _ hb1_7 hF1_7)).cell (j := 1) rfl) (by simp <;> omega), ?_⟩; ((conv=>whnf);repeat(first|(refine mvT ?_;conv=>whnf)|(refine mvF ?_;conv=>whnf)|(refine cT (by rfl) ?_;conv=>whnf)|(refine cF (by rfl) ?_;conv=>whnf)))
      have hsl := fieldOK_text (hok2_.1 1 _ rfl)
      (refine mvB ?_;((conv=>whnf);repeat(first|(refine mvT ?_;conv=>whnf)|(refine mvF ?_;conv=>whnf)|(refine cT (by rfl) ?_;conv=>whnf)|(refine cF (by rfl) ?_;conv=>whnf))))
      refine VC.cutE (fun r => [(1, r), (0, .pointer (some ⟨p, 0, none⟩)), (5, .int .i16 v), (6, .bool fx), (8, .slice (some ⟨b1, o1, none⟩) l1.length k1), (67, .slice (some ⟨b1, o1, none⟩) l1.length k1), (68, .int .i64 l1.length), (69, .int .i64 i1), (10, .pointer (some ⟨b1, o1 + i1 * 10, none⟩)), (18, .slice (some ⟨b1_7, o1_7, none⟩) l1_7.length k1_7), (153, .slice (some ⟨b1_7, o1_7, none⟩) l1_7.length k1_7), (154, .int .i64 l1_7.length), (155, .int .i64 i2), (20, .pointer (some ⟨b1_7, o1_7 + i2 * 9, none⟩))]) (fun r w' => Apd w0 B x l (m13 ++ (ntA fx (atT x2 1).nl (atT x2 1).s)) r w') ?_ ?_
      · refine cI (by rfl) (fun hc=>?_) (fun hc=>?_)
        · ((conv=>whnf);repeat(first|(refine mvT ?_;conv=>whnf)|(refine mvF ?_;conv=>whnf)|(refine cT (by rfl) ?_;conv=>whnf)|(refine cF (by rfl) ?_;conv=>whnf)))
          refine Does.mono (AppendCompactNullableString_R hA.ob (Nat.le_trans hB hA.size) (hc2_1.ext hA.ext hFx) hsl (by simp only [List.length_append]; omega)) ?_;rintro r w h;((conv=>whnf);repeat(first|(refine mvT ?_;conv=>whnf)|(refine mvF ?_;conv=>whnf)|(refine cT (by rfl) ?_;conv=>whnf)|(refine cF (by rfl) ?_;conv=>whnf)))
          replace hA := hA.tr h
          clear h
          refine ⟨_, ⟨rfl, rfl, rfl, rfl, rfl, rfl, rfl, rfl, rfl, rfl, rfl, rfl, rfl, rfl, trivial⟩, ?_⟩
          rw [hc]
          exact hA
        · ((conv=>whnf);repeat(first|(refine mvT ?_;conv=>whnf)|(refine mvF ?_;conv=>whnf)|(refine cT (by rfl) ?_;conv=>whnf)|(refine cF (by rfl) ?_;conv=>whnf)))
          refine Does.mono (AppendNullableString_R hA.ob (Nat.le_trans hB hA.size) (hc2_1.ext hA.ext hFx) (by simp only [List.length_append]; omega)) ?_;rintro r w h;((conv=>whnf);repeat(first|(refine mvT ?_;conv=>whnf)|(refine mvF ?_;conv=>whnf)|(refine cT (by rfl) ?_;conv=>whnf)|(refine cF (by rfl) ?_;conv=>whnf)))
          replace hA := hA.tr h
          clear h
          refine ⟨_, ⟨rfl, rfl, rfl, rfl, rfl, rfl, rfl, rfl, rfl, rfl, rfl, rfl, rfl, rfl, trivial⟩, ?_⟩
          rw [hc]
          exact hA
      clear hA
      rintro r w hA
      ((conv=>whnf);repeat(first|(refine mvT ?_;conv=>whnf)|(refine mvF ?_;conv=>whnf)|(refine cT (by rfl) ?_;conv=>whnf)|(refine cF (by rfl) ?_;conv=>whnf)))
      generalize hm14 : m13 ++ (ntA fx (atT x2 1).nl (atT x2 1).s) = m14 at hA
      have hl14 : m14.length = m13.length + (ntA fx (atT x2 1).nl (atT x2 1).s).length := by rw [← hm14, List.length_append]
      refine ⟨_, ld ((hce1_7.ext hA.ext (hFx _ hb1_7 hF1_7)).cell (j := 2) rfl) (by simp <;> omega), ?_⟩; ((conv=>whnf);repeat(first|(refine mvT ?_;conv=>whnf)|(refine mvF ?_;conv=>whnf)|(refine cT (by rfl) ?_;conv=>whnf)|(refine cF (by rfl) ?_;conv=>whnf)))
      refine Does.mono (AppendInt32_does hA.ob (Nat.le_trans hB hA.size) (by simp only [List.length_append]; omega) _) ?_;rintro r w h;((conv=>whnf);repeat(first|(refine mvT ?_;conv=>whnf)|(refine mvF ?_;conv=>whnf)|(refine cT (by rfl) ?_;conv=>whnf)|(refine cF (by rfl) ?_;conv=>whnf)))
      rw [fixed4_mod (wrap_i32m _)] at h
      replace hA := hA.tr h
      clear h
      generalize hm15 : m14 ++ (fixed (atT x2 2).n 4) = m15 at hA
      have hl15 : m15.length = m14.length + (fixed (atT x2 2).n 4).length := by rw [← hm15, List.length_append]
      refine ⟨_, ld ((hce1_7.ext hA.ext (hFx _ hb1_7 hF1_7)).cell (j := 3) rfl) (by simp <;> omega), ?_⟩; ((conv=>whnf);repeat(first|(refine mvT ?_;conv=>whnf)|(refine mvF ?_;conv=>whnf)|(refine cT (by rfl) ?_;conv=>whnf)|(refine cF (by rfl) ?_;conv=>whnf)))
      have hsl := fieldOK_text (hok2_.1 3 _ rfl)
      (refine mvB ?_;((conv=>whnf);repeat(first|(refine mvT ?_;conv=>whnf)|(refine mvF ?_;conv=>whnf)|(refine cT (by rfl) ?_;conv=>whnf)|(refine cF (by rfl) ?_;conv=>whnf))))
      refine VC.cutE (fun r => [(1, r), (0, .pointer (some ⟨p, 0, none⟩)), (5, .int .i16 v), (6, .bool fx), (8, .slice (some ⟨b1, o1, none⟩) l1.length k1), (67, .slice (some ⟨b1, o1, none⟩) l1.length k1), (68, .int .i64 l1.length), (69, .int .i64 i1), (10, .pointer (some ⟨b1, o1 + i1 * 10, none⟩)), (18, .slice (some ⟨b1_7, o1_7, none⟩) l1_7.length k1_7), (153, .slice (some ⟨b1_7, o1_7, none⟩) l1_7.length k1_7), (154, .int .i64 l1_7.length), (155, .int .i64 i2), (20, .pointer (some ⟨b1_7, o1_7 + i2 * 9, none⟩))]) (fun r w' => Apd w0 B x l (m15 ++ (txA fx (atT x2 3).s)) r w') ?_ ?_
      · refine cI (by rfl) (fun hc=>?_) (fun hc=>?_)
        · ((conv=>whnf);repeat(first|(refine mvT ?_;conv=>whnf)|(refine mvF ?_;conv=>whnf)|(refine cT (by rfl) ?_;conv=>whnf)|(refine cF (by rfl) ?_;conv=>whnf)))
          refine Does.mono (AppendCompactString_does hA.ob (Nat.le_trans hB hA.size) _ (by omega) (by simp only [List.length_append]; omega)) ?_;rintro r w h;((conv=>whnf);repeat(first|(refine mvT ?_;conv=>whnf)|(refine mvF ?_;conv=>whnf)|(refine cT (by rfl) ?_;conv=>whnf)|(refine cF (by rfl) ?_;conv=>whnf)))
          replace hA := hA.tr h
          clear h
          refine ⟨_, ⟨rfl, rfl, rfl, rfl, rfl, rfl, rfl, rfl, rfl, rfl, rfl, rfl, rfl, rfl, trivial⟩, ?_⟩
          rw [hc]
          exact hA
        · ((conv=>whnf);repeat(first|(refine mvT ?_;conv=>whnf)|(refine mvF ?_;conv=>whnf)|(refine cT (by rfl) ?_;conv=>whnf)|(refine cF (by rfl) ?_;conv=>whnf)))
          refine Does.mono (AppendString_does hA.ob (Nat.le_trans hB hA.size) _ (by simp only [List.length_append]; omega)) ?_;rintro r w h;((conv=>whnf);repeat(first|(refine mvT ?_;conv=>whnf)|(refine mvF ?_;conv=>whnf)|(refine cT (by rfl) ?_;conv=>whnf)|(refine cF (by rfl) ?_;conv=>whnf)))
          replace hA := hA.tr h
          clear h
          refine ⟨_, ⟨rfl, rfl, rfl, rfl, rfl, rfl, rfl, rfl, rfl, rfl, rfl, rfl, rfl, rfl, trivial⟩, ?_⟩
          rw [hc]
          exact hA
      clear hA
      rintro r w hA
      ((conv=>whnf);repeat(first|(refine mvT ?_;conv=>whnf)|(refine mvF ?_;conv=>whnf)|(refine cT (by rfl) ?_;conv=>whnf)|(refine cF (by rfl) ?_;conv=>whnf)))
      generalize hm16 : m15 ++ (txA fx (atT x2 3).s) = m16 at hA
      have hl16 : m16.length = m15.length + (txA fx (atT x2 3).s).length := by rw [← hm16, List.length_append]
      refine ⟨_, ld ((hce1_7.ext hA.ext (hFx _ hb1_7 hF1_7)).cell (j := 4) rfl) (by simp <;> omega), ?_⟩; ((conv=>whnf);repeat(first|(refine mvT ?_;conv=>whnf)|(refine mvF ?_;conv=>whnf)|(refine cT (by rfl) ?_;conv=>whnf)|(refine cF (by rfl) ?_;conv=>whnf)))
      have hsl := fieldOK_text (hok2_.1 4 _ rfl)
      (refine mvB ?_;((conv=>whnf);repeat(first|(refine mvT ?_;conv=>whnf)|(refine mvF ?_;conv=>whnf)|(refine cT (by rfl) ?_;conv=>whnf)|(refine cF (by rfl) ?_;conv=>whnf))))
      refine VC.cutE (fun r => [(1, r), (0, .pointer (some ⟨p, 0, none⟩)), (5, .int .i16 v), (6, .bool fx), (8, .slice (some ⟨b1, o1, none⟩) l1.length k1), (67, .slice (some ⟨b1, o1, none⟩) l1.length k1), (68, .int .i64 l1.length), (69, .int .i64 i1), (10, .pointer (some ⟨b1, o1 + i1 * 10, none⟩)), (18, .slice (some ⟨b1_7, o1_7, none⟩) l1_7.length k1_7), (153, .slice (some ⟨b1_7, o1_7, none⟩) l1_7.length k1_7), (154, .int .i64 l1_7.length), (155, .int .i64 i2), (20, .pointer (some ⟨b1_7, o1_7 + i2 * 9, none⟩))]) (fun r w' => Apd w0 B x l (m16 ++ (txA fx (atT x2 4).s)) r w') ?_ ?_
      · refine cI (by rfl) (fun hc=>?_) (fun hc=>?_)
        · ((conv=>whnf);repeat(first|(refine mvT ?_;conv=>whnf)|(refine mvF ?_;conv=>whnf)|(refine cT (by rfl) ?_;conv=>whnf)|(refine cF (by rfl) ?_;conv=>whnf)))
          refine Does.mono (AppendCompactString_does hA.ob (Nat.le_trans hB hA.size) _ (by omega) (by simp only [List.length_append]; omega)) ?_;rintro r w h;((conv=>whnf);repeat(first|(refine mvT ?_;conv=>whnf)|(refine mvF ?_;conv=>whnf)|(refine cT (by rfl) ?_;conv=>whnf)|(refine cF (by rfl) ?_;conv=>whnf)))
          replace hA := hA.tr h
          clear h
          refine ⟨_, ⟨rfl, rfl, rfl, rfl, rfl, rfl, rfl, rfl, rfl, rfl, rfl, rfl, rfl, rfl, trivial⟩, ?_⟩
          rw [hc]
          exact hA
        · ((conv=>whnf);repeat(first|(refine mvT ?_;conv=>whnf)|(refine mvF ?_;conv=>whnf)|(refine cT (by rfl) ?_;conv=>whnf)|(refine cF (by rfl) ?_;conv=>whnf)))
          refine Does.mono (AppendString_does hA.ob (Nat.le_trans hB hA.size) _ (by simp only [List.length_append]; omega)) ?_;rintro r w h;((conv=>whnf);repeat(first|(refine mvT ?_;conv=>whnf)|(refine mvF ?_;conv=>whnf)|(refine cT (by rfl) ?_;conv=>whnf)|(refine cF (by rfl) ?_;conv=>whnf)))
          replace hA := hA.tr h
          clear h
          refine ⟨_, ⟨rfl, rfl, rfl, rfl, rfl, rfl, rfl, rfl, rfl, rfl, rfl, rfl, rfl, rfl, trivial⟩, ?_⟩
          rw [hc]
          exact hA
      clear hA
      rintro r w hA
      ((conv=>whnf);repeat(first|(refine mvT ?_;conv=>whnf)|(refine mvF ?_;conv=>whnf)|(refine cT (by rfl) ?_;conv=>whnf)|(refine cF (by rfl) ?_;conv=>whnf)))
      generalize hm17 : m16 ++ (txA fx (atT x2 4).s) = m17 at hA
      have hl17 : m17.length = m16.length + (txA fx (atT x2 4).s).length := by rw [← hm17, List.length_append]
      refine ⟨_, ld ((hce1_7.ext hA.ext (hFx _ hb1_7 hF1_7)).cell (j := 5) rfl) (by simp <;> omega), ?_⟩; ((conv=>whnf);repeat(first|(refine mvT ?_;conv=>whnf)|(refine mvF ?_;conv=>whnf)|(refine cT (by rfl) ?_;conv=>whnf)|(refine cF (by rfl) ?_;conv=>whnf)))
      have hml2_5 := lsT_len (hok2_.1 5 _ rfl)
      (refine mvB ?_;((conv=>whnf);repeat(first|(refine mvT ?_;conv=>whnf)|(refine mvF ?_;conv=>whnf)|(refine cT (by rfl) ?_;conv=>whnf)|(refine cF (by rfl) ?_;conv=>whnf))))
      refine VC.cutE (fun r => [(1, r), (0, .pointer (some ⟨p, 0, none⟩)), (5, .int .i16 v), (6, .bool fx), (8, .slice (some ⟨b1, o1, none⟩) l1.length k1), (67, .slice (some ⟨b1, o1, none⟩) l1.length k1), (68, .int .i64 l1.length), (69, .int .i64 i1), (10, .pointer (some ⟨b1, o1 + i1 * 10, none⟩)), (18, .slice (some ⟨b1_7, o1_7, none⟩) l1_7.length k1_7), (153, .slice (some ⟨b1_7, o1_7, none⟩) l1_7.length k1_7), (154, .int .i64 l1_7.length), (155, .int .i64 i2), (20, .pointer (some ⟨b1_7, o1_7 + i2 * 9, none⟩)), (26, .slice a2_5 l2_5.length k2_5)]) (fun r w' => Apd w0 B x l (m17 ++ (arA fx (lsT (atT x2 5)).length)) r w') ?_ ?_
      · refine cI (by rfl) (fun hc=>?_) (fun hc=>?_)
        · ((conv=>whnf);repeat(first|(refine mvT ?_;conv=>whnf)|(refine mvF ?_;conv=>whnf)|(refine cT (by rfl) ?_;conv=>whnf)|(refine cF (by rfl) ?_;conv=>whnf)))
          refine Does.mono (AppendCompactArrayLen_does hA.ob (Nat.le_trans hB hA.size) (by simp only [List.length_append]; omega) l2_5.length (by omega)) ?_;rintro r w h;((conv=>whnf);repeat(first|(refine mvT ?_;conv=>whnf)|(refine mvF ?_;conv=>whnf)|(refine cT (by rfl) ?_;conv=>whnf)|(refine cF (by rfl) ?_;conv=>whnf)))
          rw [hll2_5] at h
          replace hA := hA.tr h
          clear h
          refine ⟨_, ⟨rfl, rfl, rfl, rfl, rfl, rfl, rfl, rfl, rfl, rfl, rfl, rfl, rfl, rfl, rfl, trivial⟩, ?_⟩
          rw [hc]
          exact hA
        · ((conv=>whnf);repeat(first|(refine mvT ?_;conv=>whnf)|(refine mvF ?_;conv=>whnf)|(refine cT (by rfl) ?_;conv=>whnf)|(refine cF (by rfl) ?_;conv=>whnf)))
          refine Does.mono (AppendArrayLen_does hA.ob (Nat.le_trans hB hA.size) (by simp only [List.length_append]; omega) l2_5.length) ?_;rintro r w h;((conv=>whnf);repeat(first|(refine mvT ?_;conv=>whnf)|(refine mvF ?_;conv=>whnf)|(refine cT (by rfl) ?_;conv=>whnf)|(refine cF (by rfl) ?_;conv=>whnf)))
          rw [hll2_5] at h
          replace hA := hA.tr h
          clear h
          refine ⟨_, ⟨rfl, rfl, rfl, rfl, rfl, rfl, rfl, rfl, rfl, rfl, rfl, rfl, rfl, rfl, rfl, trivial⟩, ?_⟩
          rw [hc]
          exact hA
      clear hA
      rintro r w hA
      ((conv=>whnf);repeat(first|(refine mvT ?_;conv=>whnf)|(refine mvF ?_;conv=>whnf)|(refine cT (by rfl) ?_;conv=>whnf)|(refine cF (by rfl) ?_;conv=>whnf)))
      generalize hm18 : m17 ++ (arA fx (lsT (atT x2 5)).length) = m18 at hA
      have hl18 : m18.length = m17.length + (arA fx (lsT (atT x2 5)).length).length := by rw [← hm18, List.length_append]
      refine VL.loop (fun s : Nat × Value => [(1, s.2), (0, .pointer (some ⟨p, 0, none⟩)), (5, .int .i16 v), (6, .bool fx), (8, .slice (some ⟨b1, o1, none⟩) l1.length k1), (67, .slice (some ⟨b1, o1, none⟩) l1.length k1), (68, .int .i64 l1.length), (69, .int .i64 i1), (10, .pointer (some ⟨b1, o1 + i1 * 10, none⟩)), (18, .slice (some ⟨b1_7, o1_7, none⟩) l1_7.length k1_7), (153, .slice (some ⟨b1_7, o1_7, none⟩) l1_7.length k1_7), (154, .int .i64 l1_7.length), (155, .int .i64 i2), (20, .pointer (some ⟨b1_7, o1_7 + i2 * 9, none⟩)), (26, .slice a2_5 l2_5.length k2_5), (225, .slice a2_5 l2_5.length k2_5), (226, .int .i64 l2_5.length), (227, .int .i64 s.1)])
        (fun s w' => s.1 ≤ l2_5.length ∧ Apd w0 B x l (m18 ++ ((lsT (atT x2 5)).take s.1).flatMap (fun x => txA fx x.s)) s.2 w') (fun s => l2_5.length - s.1) (0, r) ⟨rfl, rfl, rfl, rfl, rfl, rfl, rfl, rfl, rfl, rfl, rfl, rfl, rfl, rfl, rfl, rfl, rfl, rfl, trivial⟩ ⟨Nat.zero_le _, by rw [List.take_zero, List.flatMap_nil, List.append_nil]; exact hA⟩ ?_
      clear hA
      rintro ⟨i3, r⟩ w ⟨hi3, hA⟩
      dsimp only at hi3 hA
      ((conv=>whnf);repeat(first|(refine mvT ?_;conv=>whnf)|(refine mvF ?_;conv=>whnf)|(refine cT (by rfl) ?_;conv=>whnf)|(refine cF (by rfl) ?_;conv=>whnf)))
      refine cI (by rfl) (fun h9=>?_) (fun h9=>?_)
      · have hil : i3 < l2_5.length := by have := of_decide_eq_true h9; simp only at this; omega
        have hiL3 : i3 < (lsT (atT x2 5)).length := by omega
        obtain ⟨hft, hfl⟩ := flat_take (fun x => txA fx x.s) (lsT (atT x2 5)) i3 hiL3
        obtain ⟨b2_5, o2_5, rfl, hF2_5, hb2_5, hce2_5⟩ := hcl2_5 i3 l2_5[i3] (by simp [hil])
        have hre2_5 := hrl2_5 i3 l2_5[i3] ((lsT (atT x2 5))[i3]) (by simp [hil]) (by simp [hiL3])
        have hlo2_5 := lsT_ok (hok2_.1 5 _ rfl) ((lsT (atT x2 5))[i3]) (List.getElem_mem hiL3)
        generalize hm19 : m18 ++ ((lsT (atT x2 5)).take i3).flatMap (fun x => txA fx x.s) = m19 at hA
        have hl19 : m19.length = m18.length + (((lsT (atT x2 5)).take i3).flatMap (fun x => txA fx x.s)).length := by rw [← hm19, List.length_append]
        obtain ⟨x3, hx3⟩ : ∃ y, y = (lsT (atT x2 5))[i3] := ⟨_, rfl⟩
        rw [← hx3] at hft hfl hre2_5 hlo2_5
        rw [hre2_5] at hce2_5
        ((conv=>whnf);repeat(first|(refine mvT ?_;conv=>whnf)|(refine mvF ?_;conv=>whnf)|(refine cT (by rfl) ?_;conv=>whnf)|(refine cF (by rfl) ?_;conv=>whnf)))
        refine ⟨b2_5, o2_5, rfl, ⟨by omega, by omega⟩, ?_⟩
        ((conv=>whnf);repeat(first|(refine mvT ?_;conv=>whnf)|(refine mvF ?_;conv=>whnf)|(refine cT (by rfl) ?_;conv=>whnf)|(refine cF (by rfl) ?_;conv=>whnf)))
        refine ⟨_, ld ((hce2_5.ext hA.ext (hFx _ hb2_5 hF2_5)).cell (j := 0) rfl) (by simp), ?_⟩
        ((conv=>whnf);repeat(first|(refine mvT ?_;conv=>whnf)|(refine mvF ?_;conv=>whnf)|(refine cT (by rfl) ?_;conv=>whnf)|(refine cF (by rfl) ?_;conv=>whnf)))
        have hsl := hlo2_5.2.1 (.inl rfl)
        (refine mvB ?_;((conv=>whnf);repeat(first|(refine mvT ?_;conv=>whnf)|(refine mvF ?_;conv=>whnf)|(refine cT (by rfl) ?_;conv=>whnf)|(refine cF (by rfl) ?_;conv=>whnf))))
        refine VC.cutB (fun r => [(1, r), (0, .pointer (some ⟨p, 0, none⟩)), (5, .int .i16 v), (6, .bool fx), (8, .slice (some ⟨b1, o1, none⟩) l1.length k1), (67, .slice (some ⟨b1, o1, none⟩) l1.length k1), (68, .int .i64 l1.length), (69, .int .i64 i1), (10, .pointer (some ⟨b1, o1 + i1 * 10, none⟩)), (18, .slice (some ⟨b1_7, o1_7, none⟩) l1_7.length k1_7), (153, .slice (some ⟨b1_7, o1_7, none⟩) l1_7.length k1_7), (154, .int .i64 l1_7.length), (155, .int .i64 i2), (20, .pointer (some ⟨b1_7, o1_7 + i2 * 9, none⟩)), (26, .slice (some ⟨b2_5, o2_5, none⟩) l2_5.length k2_5), (225, .slice (some ⟨b2_5, o2_5, none⟩) l2_5.length k2_5), (226, .int .i64 l2_5.length), (227, .int .i64 i3)]) (fun r w' => Apd w0 B x l (m19 ++ (txA fx x3.s)) r w') ?_ ?_
        · refine cI (by rfl) (fun hc=>?_) (fun hc=>?_)
          · ((conv=>whnf);repeat(first|(refine mvT ?_;conv=>whnf)|(refine mvF ?_;conv=>whnf)|(refine cT (by rfl) ?_;conv=>whnf)|(refine cF (by rfl) ?_;conv=>whnf)))
            refine Does.mono (AppendCompactString_does hA.ob (Nat.le_trans hB hA.size) _ (by omega) (by simp only [List.length_append]; omega)) ?_;rintro r w h;((conv=>whnf);repeat(first|(refine mvT ?_;conv=>whnf)|(refine mvF ?_;conv=>whnf)|(refine cT (by rfl) ?_;conv=>whnf)|(refine cF (by rfl) ?_;conv=>whnf)))
            replace hA := hA.tr h
            clear h
            refine ⟨_, ⟨rfl, rfl, rfl, rfl, rfl, rfl, rfl, rfl, rfl, rfl, rfl, rfl, rfl, rfl, rfl, rfl, rfl, rfl, trivial⟩, ?_⟩
            rw [hc]
            exact hA
          · ((conv=>whnf);repeat(first|(refine mvT ?_;conv=>whnf)|(refine mvF ?_;conv=>whnf)|(refine cT (by rfl) ?_;conv=>whnf)|(refine cF (by rfl) ?_;conv=>whnf)))
            refine Does.mono (AppendString_does hA.ob (Nat.le_trans hB hA.size) _ (by simp only [List.length_append]; omega)) ?_;rintro r w h;((conv=>whnf);repeat(first|(refine mvT ?_;conv=>whnf)|(refine mvF ?_;conv=>whnf)|(refine cT (by rfl) ?_;conv=>whnf)|(refine cF (by rfl) ?_;conv=>whnf)))
            replace hA := hA.tr h
            clear h
            refine ⟨_, ⟨rfl, rfl, rfl, rfl, rfl, rfl, rfl, rfl, rfl, rfl, rfl, rfl, rfl, rfl, rfl, rfl, rfl, rfl, trivial⟩, ?_⟩
            rw [hc]
            exact hA
        clear hA
        rintro r w hA
        ((conv=>whnf);repeat(first|(refine mvT ?_;conv=>whnf)|(refine mvF ?_;conv=>whnf)|(refine cT (by rfl) ?_;conv=>whnf)|(refine cF (by rfl) ?_;conv=>whnf)))
        generalize hm20 : m19 ++ (txA fx x3.s) = m20 at hA
        have hl20 : m20.length = m19.length + (txA fx x3.s).length := by rw [← hm20, List.length_append]
        have hfin : m19 ++ (fun x => txA fx x.s) x3 = m20 := by simp only [← hm20, List.append_assoc, List.nil_append, List.append_nil]
        refine ⟨(i3 + 1, r), ⟨rfl, rfl, rfl, rfl, rfl, rfl, rfl, rfl, rfl, rfl, rfl, rfl, rfl, rfl, rfl, rfl, rfl, inc_eq (by rw [maxLen_eq] at hkm2_5; omega), trivial⟩, ⟨by simp only; omega, ?_⟩, by simp only; omega⟩
        rw [hft, ← List.append_assoc, hm19, hfin]
        exact hA
      have hil : i3 = l2_5.length := by have := of_decide_eq_false h9; simp only at this; omega
      ((conv=>whnf);repeat(first|(refine mvT ?_;conv=>whnf)|(refine mvF ?_;conv=>whnf)|(refine cT (by rfl) ?_;conv=>whnf)|(refine cF (by rfl) ?_;conv=>whnf)))
      rw [hil, hll2_5, List.take_length] at hA
      generalize hm19 : m18 ++ ((lsT (atT x2 5)).flatMap (fun x => txA fx x.s)) = m19 at hA
      have hl19 : m19.length = m18.length + ((lsT (atT x2 5)).flatMap (fun x => txA fx x.s)).length := by rw [← hm19, List.length_append]
      obtain ⟨c2_6_0, m2_6_, hcells, hc2_6_0, hm2_6_⟩ := hc2_6
      simp only [List.cons.injEq, and_true] at hcells
      obtain ⟨rfl, rfl⟩ := hcells
      obtain ⟨a2_6_0, k2_6_0, l2_6_0, rfl, hkm2_6_0, hll2_6_0, hnn2_6_0, hcl2_6_0, hrl2_6_0⟩ := hc2_6_0.view
      have hok2_6_ := fieldOK_part (hok2_.1 6 _ rfl)
      have hgl2_6_ : (bShareGroupDescribeResponseGroupMemberAssignment v fx (atT x2 6)).length = (bShareGroupDescribeResponseGroupMemberAssignment v fx (atT x2 6)).length := rfl
      conv at hgl2_6_ => rhs; unfold bShareGroupDescribeResponseGroupMemberAssignment
      simp only [List.length_append, List.length_nil] at hgl2_6_
      refine ⟨_, ld ((hce1_7.ext hA.ext (hFx _ hb1_7 hF1_7)).cell (j := 6) rfl) (by simp <;> omega), ?_⟩; ((conv=>whnf);repeat(first|(refine mvT ?_;conv=>whnf)|(refine mvF ?_;conv=>whnf)|(refine cT (by rfl) ?_;conv=>whnf)|(refine cF (by rfl) ?_;conv=>whnf)))
      have hml2_6_0 := lsT_len (hok2_6_.1 0 _ rfl)
      (refine mvB ?_;((conv=>whnf);repeat(first|(refine mvT ?_;conv=>whnf)|(refine mvF ?_;conv=>whnf)|(refine cT (by rfl) ?_;conv=>whnf)|(refine cF (by rfl) ?_;conv=>whnf))))
      refine VC.cutE (fun r => [(1, r), (0, .pointer (some ⟨p, 0, none⟩)), (5, .int .i16 v), (6, .bool fx), (8, .slice (some ⟨b1, o1, none⟩) l1.length k1), (67, .slice (some ⟨b1, o1, none⟩) l1.length k1), (68, .int .i64 l1.length), (69, .int .i64 i1), (10, .pointer (some ⟨b1, o1 + i1 * 10, none⟩)), (18, .slice (some ⟨b1_7, o1_7, none⟩) l1_7.length k1_7), (153, .slice (some ⟨b1_7, o1_7, none⟩) l1_7.length k1_7), (154, .int .i64 l1_7.length), (155, .int .i64 i2), (20, .pointer (some ⟨b1_7, o1_7 + i2 * 9, none⟩)), (29, .pointer (some ⟨b1_7, o1_7 + i2 * 9 + 6, none⟩)), (30, .slice a2_6_0 l2_6_0.length k2_6_0)]) (fun r w' => Apd w0 B x l (m19 ++ (arA fx (lsT (atT (atT x2 6) 0)).length)) r w') ?_ ?_
      · refine cI (by rfl) (fun hc=>?_) (fun hc=>?_)
        · ((conv=>whnf);repeat(first|(refine mvT ?_;conv=>whnf)|(refine mvF ?_;conv=>whnf)|(refine cT (by rfl) ?_;conv=>whnf)|(refine cF (by rfl) ?_;conv=>whnf)))
          refine Does.mono (AppendCompactArrayLen_does hA.ob (Nat.le_trans hB hA.size) (by simp only [List.length_append]; omega) l2_6_0.length (by omega)) ?_;rintro r w h;((conv=>whnf);repeat(first|(refine mvT ?_;conv=>whnf)|(refine mvF ?_;conv=>whnf)|(refine cT (by rfl) ?_;conv=>whnf)|(refine cF (by rfl) ?_;conv=>whnf)))
          rw [hll2_6_0] at h
          replace hA := hA.tr h
          clear h
          refine ⟨_, ⟨rfl, rfl, rfl, rfl, rfl, rfl, rfl, rfl, rfl, rfl, rfl, rfl, rfl, rfl, rfl, rfl, trivial⟩, ?_⟩
          rw [hc]
          exact hA
        · ((conv=>whnf);repeat(first|(refine mvT ?_;conv=>whnf)|(refine mvF ?_;conv=>whnf)|(refine cT (by rfl) ?_;conv=>whnf)|(refine cF (by rfl) ?_;conv=>whnf)))
          refine Does.mono (AppendArrayLen_does hA.ob (Nat.le_trans hB hA.size) (by simp only [List.length_append]; omega) l2_6_0.length) ?_;rintro r w h;((conv=>whnf);repeat(first|(refine mvT ?_;conv=>whnf)|(refine mvF ?_;conv=>whnf)|(refine cT (by rfl) ?_;conv=>whnf)|(refine cF (by rfl) ?_;conv=>whnf)))
          rw [hll2_6_0] at h
          replace hA := hA.tr h
          clear h
          refine ⟨_, ⟨rfl, rfl, rfl, rfl, rfl, rfl, rfl, rfl, rfl, rfl, rfl, rfl, rfl, rfl, rfl, rfl, trivial⟩, ?_⟩
          rw [hc]
          exact hA
      clear hA
      rintro r w hA
      ((conv=>whnf);repeat(first|(refine mvT ?_;conv=>whnf)|(refine mvF ?_;conv=>whnf)|(refine cT (by rfl) ?_;conv=>whnf)|(refine cF (by rfl) ?_;conv=>whnf)))
      generalize hm20 : m19 ++ (arA fx (lsT (atT (atT x2 6) 0)).length) = m20 at hA
      have hl20 : m20.length = m19.length + (arA fx (lsT (atT (atT x2 6) 0)).length).length := by rw [← hm20, List.length_append]
      refine VL.loop (fun s : Nat × Value => [(1, s.2), (0, .pointer (some ⟨p, 0, none⟩)), (5, .int .i16 v), (6, .bool fx), (8, .slice (some ⟨b1, o1, none⟩) l1.length k1), (67, .slice (some ⟨b1, o1, none⟩) l1.length k1), (68, .int .i64 l1.length), (69, .int .i64 i1), (10, .pointer (some ⟨b1, o1 + i1 * 10, none⟩)), (18, .slice (some ⟨b1_7, o1_7, none⟩) l1_7.length k1_7), (153, .slice (some ⟨b1_7, o1_7, none⟩) l1_7.length k1_7), (154, .int .i64 l1_7.length), (155, .int .i64 i2), (20, .pointer (some ⟨b1_7, o1_7 + i2 * 9, none⟩)), (29, .pointer (some ⟨b1_7, o1_7 + i2 * 9 + 6, none⟩)), (30, .slice a2_6_0 l2_6_0.length k2_6_0), (258, .slice a2_6_0 l2_6_0.length k2_6_0), (259, .int .i64 l2_6_0.length), (260, .int .i64 s.1)])
        (fun s w' => s.1 ≤ l2_6_0.length ∧ Apd w0 B x l (m20 ++ ((lsT (atT (atT x2 6) 0)).take s.1).flatMap (bShareGroupDescribeResponseGroupMemberAssignmentTopicPartition v fx)) s.2 w') (fun s => l2_6_0.length - s.1) (0, r) ⟨rfl, rfl, rfl, rfl, rfl, rfl, rfl, rfl, rfl, rfl, rfl, rfl, rfl, rfl, rfl, rfl, rfl, rfl, rfl, trivial⟩ ⟨Nat.zero_le _, by rw [List.take_zero, List.flatMap_nil, List.append_nil]; exact hA⟩ ?_
      clear hA
      rintro ⟨i4, r⟩ w ⟨hi4, hA⟩
      dsimp only at hi4 hA
      ((conv=>whnf);repeat(first|(refine mvT ?_;conv=>whnf)|(refine mvF ?_;conv=>whnf)|(refine cT (by rfl) ?_;conv=>whnf)|(refine cF (by rfl) ?_;conv=>whnf)))
      refine cI (by rfl) (fun h9=>?_) (fun h9=>?_)
      · have hil : i4 < l2_6_0.length := by have := of_decide_eq_true h9; simp only at this; omega
        have hiL4 : i4 < (lsT (atT (atT x2 6) 0)).length := by omega
        obtain ⟨hft, hfl⟩ := flat_take (bShareGroupDescribeResponseGroupMemberAssignmentTopicPartition v fx) (lsT (atT (atT x2 6) 0)) i4 hiL4
        obtain ⟨b2_6_0, o2_6_0, rfl, hF2_6_0, hb2_6_0, hce2_6_0⟩ := hcl2_6_0 i4 l2_6_0[i4] (by simp [hil])
        have hre2_6_0 := hrl2_6_0 i4 l2_6_0[i4] ((lsT (atT (atT x2 6) 0))[i4]) (by simp [hil]) (by simp [hiL4])
        have hlo2_6_0 := lsT_ok (hok2_6_.1 0 _ rfl) ((lsT (atT (atT x2 6) 0))[i4]) (List.getElem_mem hiL4)
        generalize hm21 : m20 ++ ((lsT (atT (atT x2 6) 0)).take i4).flatMap (bShareGroupDescribeResponseGroupMemberAssignmentTopicPartition v fx) = m21 at hA
        have hl21 : m21.length = m20.length + (((lsT (atT (atT x2 6) 0)).take i4).flatMap (bShareGroupDescribeResponseGroupMemberAssignmentTopicPartition v fx)).length := by rw [← hm21, List.length_append]
        obtain ⟨x4, hx4⟩ : ∃ y, y = (lsT (atT (atT x2 6) 0))[i4] := ⟨_, rfl⟩
        rw [← hx4] at hft hfl hre2_6_0 hlo2_6_0
        obtain ⟨u4_0_0, u4_0_1, u4_0_2, u4_0_3, u4_0_4, u4_0_5, u4_0_6, u4_0_7, u4_0_8, u4_0_9, u4_0_10, u4_0_11, u4_0_12, u4_0_13, u4_0_14, u4_0_15, c4_2, m4_, hcells, hc4_0, hc4_2, hm4_⟩ := hre2_6_0
        rw [hcells] at hce2_6_0
        have hok4_ := hlo2_6_0.2.2 rfl
        obtain ⟨a4_2, k4_2, l4_2, rfl, hkm4_2, hll4_2, hnn4_2, hcl4_2, hrl4_2⟩ := hc4_2.view
        have hgl : (bShareGroupDescribeResponseGroupMemberAssignmentTopicPartition v fx x4).length = (bShareGroupDescribeResponseGroupMemberAssignmentTopicPartition v fx x4).length := rfl
        conv at hgl => rhs; unfold bShareGroupDescribeResponseGroupMemberAssignmentTopicPartition
        simp only [List.length_append, List.length_nil] at hgl
        ((conv=>whnf);repeat(first|(refine mvT ?_;conv=>whnf)|(refine mvF ?_;conv=>whnf)|(refine cT (by rfl) ?_;conv=>whnf)|(refine cF (by rfl) ?_;conv=>whnf)))
        refine ⟨b2_6_0, o2_6_0, rfl, ⟨by omega, by omega⟩, ?_⟩
        ((conv=>whnf);repeat(first|(refine mvT ?_;conv=>whnf)|(refine mvF ?_;conv=>whnf)|(refine cT (by rfl) ?_;conv=>whnf)|(refine cF (by rfl) ?_;conv=>whnf)))
        refine ⟨_, rfl, Cells.sub2 (hce2_6_0.ext hA.ext (hFx _ hb2_6_0 hF2_6_0)) 0 16 rfl (by simp <;> omega), ?_⟩; ((conv=>whnf);repeat(first|(refine mvT ?_;conv=>whnf)|(refine mvF ?_;conv=>whnf)|(refine cT (by rfl) ?_;conv=>whnf)|(refine cF (by rfl) ?_;conv=>whnf)))
        intro bu wu hbu hou hxu
        ((conv=>whnf);repeat(first|(refine mvT ?_;conv=>whnf)|(refine mvF ?_;conv=>whnf)|(refine cT (by rfl) ?_;conv=>whnf)|(refine cF (by rfl) ?_;conv=>whnf)))
        refine st_all [bcell u4_0_0, bcell u4_0_1, bcell u4_0_2, bcell u4_0_3, bcell u4_0_4, bcell u4_0_5, bcell u4_0_6, bcell u4_0_7, bcell u4_0_8, bcell u4_0_9, bcell u4_0_10, bcell u4_0_11, bcell u4_0_12, bcell u4_0_13, bcell u4_0_14, bcell u4_0_15] hou rfl rfl rfl ?_
        intro wv hov hxv
        ((conv=>whnf);repeat(first|(refine mvT ?_;conv=>whnf)|(refine mvF ?_;conv=>whnf)|(refine cT (by rfl) ?_;conv=>whnf)|(refine cF (by rfl) ?_;conv=>whnf)))
        replace hA := hA.e0 ((Ext.refl nob _).trans (hxu.trans hxv (M' := fun k => k = bu) fun k hk e => by omega) fun _ _ h => h)
        refine ⟨_, rfl, hov.cells, ?_⟩
        ((conv=>whnf);repeat(first|(refine mvT ?_;conv=>whnf)|(refine mvF ?_;conv=>whnf)|(refine cT (by rfl) ?_;conv=>whnf)|(refine cF (by rfl) ?_;conv=>whnf)))
        refine Does.mono (AppendUuid_does (s := [u4_0_0, u4_0_1, u4_0_2, u4_0_3, u4_0_4, u4_0_5, u4_0_6, u4_0_7, u4_0_8, u4_0_9, u4_0_10, u4_0_11, u4_0_12, u4_0_13, u4_0_14, u4_0_15]) hA.ob (Nat.le_trans hB hA.size) (by simp only [List.length_append, List.length_cons, List.length_nil]; omega)) ?_;rintro r w h;((conv=>whnf);repeat(first|(refine mvT ?_;conv=>whnf)|(refine mvF ?_;conv=>whnf)|(refine cT (by rfl) ?_;conv=>whnf)|(refine cF (by rfl) ?_;conv=>whnf)))
        replace hA := hA.tr h
        clear h
        rw [← hc4_0] at hA
        generalize hm22 : m21 ++ (uuidB (atT x4 0).s) = m22 at hA
        have hl22 : m22.length = m21.length + (uuidB (atT x4 0).s).length := by rw [← hm22, List.length_append]
        refine ⟨_, ld ((hce2_6_0.ext hA.ext (hFx _ hb2_6_0 hF2_6_0)).cell (j := 16) rfl) (by simp <;> omega), ?_⟩; ((conv=>whnf);repeat(first|(refine mvT ?_;conv=>whnf)|(refine mvF ?_;conv=>whnf)|(refine cT (by rfl) ?_;conv=>whnf)|(refine cF (by rfl) ?_;conv=>whnf)))
        have hsl := fieldOK_text (hok4_.1 1 _ rfl)
        (refine mvB ?_;((conv=>whnf);repeat(first|(refine mvT ?_;conv=>whnf)|(refine mvF ?_;conv=>whnf)|(refine cT (by rfl) ?_;conv=>whnf)|(refine cF (by rfl) ?_;conv=>whnf))))
        refine VC.cutE (fun r => [(1, r), (0, .pointer (some ⟨p, 0, none⟩)), (5, .int .i16 v), (6, .bool fx), (8, .slice (some ⟨b1, o1, none⟩) l1.length k1), (67, .slice (some ⟨b1, o1, none⟩) l1.length k1), (68, .int .i64 l1.length), (69, .int .i64 i1), (10, .pointer (some ⟨b1, o1 + i1 * 10, none⟩)), (18, .slice (some ⟨b1_7, o1_7, none⟩) l1_7.length k1_7), (153, .slice (some ⟨b1_7, o1_7, none⟩) l1_7.length k1_7), (154, .int .i64 l1_7.length), (155, .int .i64 i2), (20, .pointer (some ⟨b1_7, o1_7 + i2 * 9, none⟩)), (29, .pointer (some ⟨b1_7, o1_7 + i2 * 9 + 6, none⟩)), (30, .slice (some ⟨b2_6_0, o2_6_0, none⟩) l2_6_0.length k2_6_0), (258, .slice (some ⟨b2_6_0, o2_6_0, none⟩) l2_6_0.length k2_6_0), (259, .int .i64 l2_6_0.length), (260, .int .i64 i4), (32, .pointer (some ⟨b2_6_0, o2_6_0 + i4 * 19, none⟩))]) (fun r w' => Apd w0 B x l (m22 ++ (txA fx (atT x4 1).s)) r w') ?_ ?_
        · refine cI (by rfl) (fun hc=>?_) (fun hc=>?_)
          · ((conv=>whnf);repeat(first|(refine mvT ?_;conv=>whnf)|(refine mvF ?_;conv=>whnf)|(refine cT (by rfl) ?_;conv=>whnf)|(refine cF (by rfl) ?_;conv=>whnf)))
            refine Does.mono (AppendCompactString_does hA.ob (Nat.le_trans hB hA.size) _ (by omega) (by simp only [List.length_append]; omega)) ?_;rintro r w h;((conv=>whnf);repeat(first|(refine mvT ?_;conv=>whnf)|(refine mvF ?_;conv=>whnf)|(refine cT (by rfl) ?_;conv=>whnf)|(refine cF (by rfl) ?_;conv=>whnf)))
            replace hA := hA.tr h
            clear h
            refine ⟨_, ⟨rfl, rfl, rfl, rfl, rfl, rfl, rfl, rfl, rfl, rfl, rfl, rfl, rfl, rfl, rfl, rfl, rfl, rfl, rfl, rfl, trivial⟩, ?_⟩
            rw [hc]
            exact hA
          · ((conv=>whnf);repeat(first|(refine mvT ?_;conv=>whnf)|(refine mvF ?_;conv=>whnf)|(refine cT (by rfl) ?_;conv=>whnf)|(refine cF (by rfl) ?_;conv=>whnf)))
            refine Does.mono (AppendString_does hA.ob (Nat.le_trans hB hA.size) _ (by simp only [List.length_append]; omega)) ?_;rintro r w h;((conv=>whnf);repeat(first|(refine mvT ?_;conv=>whnf)|(refine mvF ?_;conv=>whnf)|(refine cT (by rfl) ?_;conv=>whnf)|(refine cF (by rfl) ?_;conv=>whnf)))
            replace hA := hA.tr h
            clear h
            refine ⟨_, ⟨rfl, rfl, rfl, rfl, rfl, rfl, rfl, rfl, rfl, rfl, rfl, rfl, rfl, rfl, rfl, rfl, rfl, rfl, rfl, rfl, trivial⟩, ?_⟩
            rw [hc]
            exact hA
        clear hA
        rintro r w hA
        ((conv=>whnf);repeat(first|(refine mvT ?_;conv=>whnf)|(refine mvF ?_;conv=>whnf)|(refine cT (by rfl) ?_;conv=>whnf)|(refine cF (by rfl) ?_;conv=>whnf)))
        generalize hm23 : m22 ++ (txA fx (atT x4 1).s) = m23 at hA
        have hl23 : m23.length = m22.length + (txA fx (atT x4 1).s).length := by rw [← hm23, List.length_append]
        refine ⟨_, ld ((hce2_6_0.ext hA.ext (hFx _ hb2_6_0 hF2_6_0)).cell (j := 17) rfl) (by simp <;> omega), ?_⟩; ((conv=>whnf);repeat(first|(refine mvT ?_;conv=>whnf)|(refine mvF ?_;conv=>whnf)|(refine cT (by rfl) ?_;conv=>whnf)|(refine cF (by rfl) ?_;conv=>whnf)))
        have hml4_2 := lsT_len (hok4_.1 2 _ rfl)
        (refine mvB ?_;((conv=>whnf);repeat(first|(refine mvT ?_;conv=>whnf)|(refine mvF ?_;conv=>whnf)|(refine cT (by rfl) ?_;conv=>whnf)|(refine cF (by rfl) ?_;conv=>whnf))))
        refine VC.cutE (fun r => [(1, r), (0, .pointer (some ⟨p, 0, none⟩)), (5, .int .i16 v), (6, .bool fx), (8, .slice (some ⟨b1, o1, none⟩) l1.length k1), (67, .slice (some ⟨b1, o1, none⟩) l1.length k1), (68, .int .i64 l1.length), (69, .int .i64 i1), (10, .pointer (some ⟨b1, o1 + i1 * 10, none⟩)), (18, .slice (some ⟨b1_7, o1_7, none⟩) l1_7.length k1_7), (153, .slice (some ⟨b1_7, o1_7, none⟩) l1_7.length k1_7), (154, .int .i64 l1_7.length), (155, .int .i64 i2), (20, .pointer (some ⟨b1_7, o1_7 + i2 * 9, none⟩)), (29, .pointer (some ⟨b1_7, o1_7 + i2 * 9 + 6, none⟩)), (30, .slice (some ⟨b2_6_0, o2_6_0, none⟩) l2_6_0.length k2_6_0), (258, .slice (some ⟨b2_6_0, o2_6_0, none⟩) l2_6_0.length k2_6_0), (259, .int .i64 l2_6_0.length), (260, .int .i64 i4), (32, .pointer (some ⟨b2_6_0, o2_6_0 + i4 * 19, none⟩)), (35, .slice a4_2 l4_2.length k4_2)]) (fun r w' => Apd w0 B x l (m23 ++ (arA fx (lsT (atT x4 2)).length)) r w') ?_ ?_
        · refine cI (by rfl) (fun hc=>?_) (fun hc=>?_)
          · ((conv=>whnf);repeat(first|(refine mvT ?_;conv=>whnf)|(refine mvF ?_;conv=>whnf)|(refine cT (by rfl) ?_;conv=>whnf)|(refine cF (by rfl) ?_;conv=>whnf)))
            refine Does.mono (AppendCompactArrayLen_does hA.ob (Nat.le_trans hB hA.size) (by simp only [List.length_append]; omega) l4_2.length (by omega)) ?_;rintro r w h;((conv=>whnf);repeat(first|(refine mvT ?_;conv=>whnf)|(refine mvF ?_;conv=>whnf)|(refine cT (by rfl) ?_;conv=>whnf)|(refine cF (by rfl) ?_;conv=>whnf)))
            rw [hll4_2] at h
            replace hA := hA.tr h
            clear h
            refine ⟨_, ⟨rfl, rfl, rfl, rfl, rfl, rfl, rfl, rfl, rfl, rfl, rfl, rfl, rfl, rfl, rfl, rfl, rfl, rfl, rfl, rfl, rfl, trivial⟩, ?_⟩
            rw [hc]
            exact hA
          · ((conv=>whnf);repeat(first|(refine mvT ?_;conv=>whnf)|(refine mvF ?_;conv=>whnf)|(refine cT (by rfl) ?_;conv=>whnf)|(refine cF (by rfl) ?_;conv=>whnf)))
            refine Does.mono (AppendArrayLen_does hA.ob (Nat.le_trans hB hA.size) (by simp only [List.length_append]; omega) l4_2.length) ?_;rintro r w h;((conv=>whnf);repeat(first|(refine mvT ?_;conv=>whnf)|(refine mvF ?_;conv=>whnf)|(refine cT (by rfl) ?_;conv=>whnf)|(refine cF (by rfl) ?_;conv=>whnf)))
            rw [hll4_2] at h
            replace hA := hA.tr h
            clear h
            refine ⟨_, ⟨rfl, rfl, rfl, rfl, rfl, rfl, rfl, rfl, rfl, rfl, rfl, rfl, rfl, rfl, rfl, rfl, rfl, rfl, rfl, rfl, rfl, trivial⟩, ?_⟩
            rw [hc]
            exact hA
        clear hA
        rintro r w hA
        ((conv=>whnf);repeat(first|(refine mvT ?_;conv=>whnf)|(refine mvF ?_;conv=>whnf)|(refine cT (by rfl) ?_;conv=>whnf)|(refine cF (by rfl) ?_;conv=>whnf)))
        generalize hm24 : m23 ++ (arA fx (lsT (atT x4 2)).length) = m24 at hA
        have hl24 : m24.length = m23.length + (arA fx (lsT (atT x4 2)).length).length := by rw [← hm24, List.length_append]
        refine VL.loop (fun s : Nat × Value => [(1, s.2), (0, .pointer (some ⟨p, 0, none⟩)), (5, .int .i16 v), (6, .bool fx), (8, .slice (some ⟨b1, o1, none⟩) l1.length k1), (67, .slice (some ⟨b1, o1, none⟩) l1.length k1), (68, .int .i64 l1.length), (69, .int .i64 i1), (10, .pointer (some ⟨b1, o1 + i1 * 10, none⟩)), (18, .slice (some ⟨b1_7, o1_7, none⟩) l1_7.length k1_7), (153, .slice (some ⟨b1_7, o1_7, none⟩) l1_7.length k1_7), (154, .int .i64 l1_7.length), (155, .int .i64 i2), (20, .pointer (some ⟨b1_7, o1_7 + i2 * 9, none⟩)), (29, .pointer (some ⟨b1_7, o1_7 + i2 * 9 + 6, none⟩)), (30, .slice (some ⟨b2_6_0, o2_6_0, none⟩) l2_6_0.length k2_6_0), (258, .slice (some ⟨b2_6_0, o2_6_0, none⟩) l2_6_0.length k2_6_0), (259, .int .i64 l2_6_0.length), (260, .int .i64 i4), (32, .pointer (some ⟨b2_6_0, o2_6_0 + i4 * 19, none⟩)), (35, .slice a4_2 l4_2.length k4_2), (297, .slice a4_2 l4_2.length k4_2), (298, .int .i64 l4_2.length), (299, .int .i64 s.1)])
          (fun s w' => s.1 ≤ l4_2.length ∧ Apd w0 B x l (m24 ++ ((lsT (atT x4 2)).take s.1).flatMap (fun x => fixed x.n 4)) s.2 w') (fun s => l4_2.length - s.1) (0, r) ⟨rfl, rfl, rfl, rfl, rfl, rfl, rfl, rfl, rfl, rfl, rfl, rfl, rfl, rfl, rfl, rfl, rfl, rfl, rfl, rfl, rfl, rfl, rfl, rfl, trivial⟩ ⟨Nat.zero_le _, by rw [List.take_zero, List.flatMap_nil, List.append_nil]; exact hA⟩ ?_
        clear hA
        rintro ⟨i5, r⟩ w ⟨hi5, hA⟩
        dsimp only at hi5 hA
        ((conv=>whnf);repeat(first|(refine mvT ?_;conv=>whnf)|(refine mvF ?_;conv=>whnf)|(refine cT (by rfl) ?_;conv=>whnf)|(refine cF (by rfl) ?_;conv=>whnf)))
        refine cI (by rfl) (fun h9=>?_) (fun h9=>?_)
        · have hil : i5 < l4_2.length := by have := of_decide_eq_true h9; simp only at this; omega
          have hiL5 : i5 < (lsT (atT x4 2)).length := by omega
          obtain ⟨hft, hfl⟩ := flat_take (fun x => fixed x.n 4) (lsT (atT x4 2)) i5 hiL5
          obtain ⟨b4_2, o4_2, rfl, hF4_2, hb4_2, hce4_2⟩ := hcl4_2 i5 l4_2[i5] (by simp [hil])
          have hre4_2 := hrl4_2 i5 l4_2[i5] ((lsT (atT x4 2))[i5]) (by simp [hil]) (by simp [hiL5])
          have hlo4_2 := lsT_ok (hok4_.1 2 _ rfl) ((lsT (atT x4 2))[i5]) (List.getElem_mem hiL5)
          generalize hm25 : m24 ++ ((lsT (atT x4 2)).take i5).flatMap (fun x => fixed x.n 4) = m25 at hA
          have hl25 : m25.length = m24.length + (((lsT (atT x4 2)).take i5).flatMap (fun x => fixed x.n 4)).length := by rw [← hm25, List.length_append]
          obtain ⟨x5, hx5⟩ : ∃ y, y = (lsT (atT x4 2))[i5] := ⟨_, rfl⟩
          rw [← hx5] at hft hfl hre4_2 hlo4_2
          rw [hre4_2] at hce4_2
          ((conv=>whnf);repeat(first|(refine mvT ?_;conv=>whnf)|(refine mvF ?_;conv=>whnf)|(refine cT (by rfl) ?_;conv=>whnf)|(refine cF (by rfl) ?_;conv=>whnf)))
          refine ⟨b4_2, o4_2, rfl, ⟨by omega, by omega⟩, ?_⟩
          ((conv=>whnf);repeat(first|(refine mvT ?_;conv=>whnf)|(refine mvF ?_;conv=>whnf)|(refine cT (by rfl) ?_;conv=>whnf)|(refine cF (by rfl) ?_;conv=>whnf)))
          refine ⟨_, ld ((hce4_2.ext hA.ext (hFx _ hb4_2 hF4_2)).cell (j := 0) rfl) (by simp), ?_⟩
          ((conv=>whnf);repeat(first|(refine mvT ?_;conv=>whnf)|(refine mvF ?_;conv=>whnf)|(refine cT (by rfl) ?_;conv=>whnf)|(refine cF (by rfl) ?_;conv=>whnf)))
          refine Does.mono (AppendInt32_does hA.ob (Nat.le_trans hB hA.size) (by simp only [List.length_append]; omega) _) ?_;rintro r w h;((conv=>whnf);repeat(first|(refine mvT ?_;conv=>whnf)|(refine mvF ?_;conv=>whnf)|(refine cT (by rfl) ?_;conv=>whnf)|(refine cF (by rfl) ?_;conv=>whnf)))
          rw [fixed4_mod (wrap_i32m _)] at h
          replace hA := hA.tr h
          clear h
          generalize hm26 : m25 ++ (fixed (x5).n 4) = m26 at hA
          have hl26 : m26.length = m25.length + (fixed (x5).n 4).length := by rw [← hm26, List.length_append]
          have hfin : m25 ++ (fun x => fixed x.n 4) x5 = m26 := by simp only [← hm26, List.append_assoc, List.nil_append, List.append_nil]
          refine ⟨(i5 + 1, r), ⟨rfl, rfl, rfl, rfl, rfl, rfl, rfl, rfl, rfl, rfl, rfl, rfl, rfl, rfl, rfl, rfl, rfl, rfl, rfl, rfl, rfl, rfl, rfl, inc_eq (by rw [maxLen_eq] at hkm4_2; omega), trivial⟩, ⟨by simp only; omega, ?_⟩, by simp only; omega⟩
          rw [hft, ← List.append_assoc, hm25, hfin]
          exact hA
        have hil : i5 = l4_2.length := by have := of_decide_eq_false h9; simp only at this; omega
        ((conv=>whnf);repeat(first|(refine mvT ?_;conv=>whnf)|(refine mvF ?_;conv=>whnf)|(refine cT (by rfl) ?_;conv=>whnf)|(refine cF (by rfl) ?_;conv=>whnf)))
        rw [hil, hll4_2, List.take_length] at hA
        generalize hm25 : m24 ++ ((lsT (atT x4 2)).flatMap (fun x => fixed x.n 4)) = m25 at hA
        have hl25 : m25.length = m24.length + ((lsT (atT x4 2)).flatMap (fun x => fixed x.n 4)).length := by rw [← hm25, List.length_append]
        (refine mvB ?_;((conv=>whnf);repeat(first|(refine mvT ?_;conv=>whnf)|(refine mvF ?_;conv=>whnf)|(refine cT (by rfl) ?_;conv=>whnf)|(refine cF (by rfl) ?_;conv=>whnf))))
        refine VC.cutB (fun r => [(1, r), (0, .pointer (some ⟨p, 0, none⟩)), (5, .int .i16 v), (6, .bool fx), (8, .slice (some ⟨b1, o1, none⟩) l1.length k1), (67, .slice (some ⟨b1, o1, none⟩) l1.length k1), (68, .int .i64 l1.length), (69, .int .i64 i1), (10, .pointer (some ⟨b1, o1 + i1 * 10, none⟩)), (18, .slice (some ⟨b1_7, o1_7, none⟩) l1_7.length k1_7), (153, .slice (some ⟨b1_7, o1_7, none⟩) l1_7.length k1_7), (154, .int .i64 l1_7.length), (155, .int .i64 i2), (20, .pointer (some ⟨b1_7, o1_7 + i2 * 9, none⟩)), (29, .pointer (some ⟨b1_7, o1_7 + i2 * 9 + 6, none⟩)), (30, .slice (some ⟨b2_6_0, o2_6_0, none⟩) l2_6_0.length k2_6_0), (258, .slice (some ⟨b2_6_0, o2_6_0, none⟩) l2_6_0.length k2_6_0), (259, .int .i64 l2_6_0.length), (260, .int .i64 i4), (32, .pointer (some ⟨b2_6_0, o2_6_0 + i4 * 19, none⟩))]) (fun r w' => Apd w0 B x l (m25 ++ (tgsB fx (x4).u)) r w') ?_ ?_
        · refine cI (by rfl) (fun hc=>?_) (fun hc=>?_)
          · ((conv=>whnf);repeat(first|(refine mvT ?_;conv=>whnf)|(refine mvF ?_;conv=>whnf)|(refine cT (by rfl) ?_;conv=>whnf)|(refine cF (by rfl) ?_;conv=>whnf)))
            have hul := hok4_.2.len
            refine Does.mono (Tags_Len_does (ld ((hce2_6_0.ext hA.ext (hFx _ hb2_6_0 hF2_6_0)).cell (j := 18) rfl) (by simp <;> omega)) (hm4_.ext hA.ext hFx)) ?_;rintro r w ⟨rfl, rfl⟩;((conv=>whnf);repeat(first|(refine mvT ?_;conv=>whnf)|(refine mvF ?_;conv=>whnf)|(refine cT (by rfl) ?_;conv=>whnf)|(refine cF (by rfl) ?_;conv=>whnf)))
            rw [u32_add0 (by omega)]
            refine Does.mono (AppendUvarint_does hA.ob (Nat.le_trans hB hA.size) (x4).u.length (by omega) (by simp only [List.length_append]; omega)) ?_;rintro r w h;((conv=>whnf);repeat(first|(refine mvT ?_;conv=>whnf)|(refine mvF ?_;conv=>whnf)|(refine cT (by rfl) ?_;conv=>whnf)|(refine cF (by rfl) ?_;conv=>whnf)))
            have hul2 := uvar10 (n := (x4).u.length) (by omega)
            replace hA := hA.tr h
            clear h
            refine Does.mono (AppendEach_does (ld ((hce2_6_0.ext hA.ext (hFx _ hb2_6_0 hF2_6_0)).cell (j := 18) rfl) (by simp <;> omega)) (hm4_.ext hA.ext hFx) hok4_.2 hA.ob (Nat.le_trans hB hA.size) (hA.ne (hFR _ hF2_6_0).2 (hFR _ hF2_6_0).1) (fun j _ hf => hA.ne (hFR j hf).2 (hFR j hf).1) (by simp only [List.length_append]; omega)) ?_;rintro r w h;((conv=>whnf);repeat(first|(refine mvT ?_;conv=>whnf)|(refine mvF ?_;conv=>whnf)|(refine cT (by rfl) ?_;conv=>whnf)|(refine cF (by rfl) ?_;conv=>whnf)))
            replace hA := hA.tr h
            clear h
            refine ⟨_, ⟨rfl, rfl, rfl, rfl, rfl, rfl, rfl, rfl, rfl, rfl, rfl, rfl, rfl, rfl, rfl, rfl, rfl, rfl, rfl, rfl, trivial⟩, ?_⟩
            rw [tgsB, if_pos hc, ← List.append_assoc]
            exact hA
          · ((conv=>whnf);repeat(first|(refine mvT ?_;conv=>whnf)|(refine mvF ?_;conv=>whnf)|(refine cT (by rfl) ?_;conv=>whnf)|(refine cF (by rfl) ?_;conv=>whnf)))
            refine ⟨_, ⟨rfl, rfl, rfl, rfl, rfl, rfl, rfl, rfl, rfl, rfl, rfl, rfl, rfl, rfl, rfl, rfl, rfl, rfl, rfl, rfl, trivial⟩, ?_⟩
            rw [tgsB, if_neg (by rw [hc]; decide), List.append_nil]
            exact hA
        clear hA
        rintro r w hA
        ((conv=>whnf);repeat(first|(refine mvT ?_;conv=>whnf)|(refine mvF ?_;conv=>whnf)|(refine cT (by rfl) ?_;conv=>whnf)|(refine cF (by rfl) ?_;conv=>whnf)))
        generalize hm26 : m25 ++ (tgsB fx (x4).u) = m26 at hA
        have hl26 : m26.length = m25.length + (tgsB fx (x4).u).length := by rw [← hm26, List.length_append]
        have hfin : m21 ++ (bShareGroupDescribeResponseGroupMemberAssignmentTopicPartition v fx) x4 = m26 := by unfold bShareGroupDescribeResponseGroupMemberAssignmentTopicPartition; simp only [← hm26, ← hm25, ← hm24, ← hm23, ← hm22, List.append_assoc, List.nil_append, List.append_nil]
        refine ⟨(i4 + 1, r), ⟨rfl, rfl, rfl, rfl, rfl, rfl, rfl, rfl, rfl, rfl, rfl, rfl, rfl, rfl, rfl, rfl, rfl, rfl, inc_eq (by rw [maxLen_eq] at hkm2_6_0; omega), trivial⟩, ⟨by simp only; omega, ?_⟩, by simp only; omega⟩
        rw [hft, ← List.append_assoc, hm21, hfin]
        exact hA
      have hil : i4 = l2_6_0.length := by have := of_decide_eq_false h9; simp only at this; omega
      ((conv=>whnf);repeat(first|(refine mvT ?_;conv=>whnf)|(refine mvF ?_;conv=>whnf)|(refine cT (by rfl) ?_;conv=>whnf)|(refine cF (by rfl) ?_;conv=>whnf)))
      rw [hil, hll2_6_0, List.take_length] at hA
      generalize hm21 : m20 ++ ((lsT (atT (atT x2 6) 0)).flatMap (bShareGroupDescribeResponseGroupMemberAssignmentTopicPartition v fx)) = m21 at hA
      have hl21 : m21.length = m20.length + ((lsT (atT (atT x2 6) 0)).flatMap (bShareGroupDescribeResponseGroupMemberAssignmentTopicPartition v fx)).length := by rw [← hm21, List.length_append]
      (refine mvB ?_;((conv=>whnf);repeat(first|(refine mvT ?_;conv=>whnf)|(refine mvF ?_;conv=>whnf)|(refine cT (by rfl) ?_;conv=>whnf)|(refine cF (by rfl) ?_;conv=>whnf))))
      refine VC.cutE (fun r => [(1, r), (0, .pointer (some ⟨p, 0, none⟩)), (5, .int .i16 v), (6, .bool fx), (8, .slice (some ⟨b1, o1, none⟩) l1.length k1), (67, .slice (some ⟨b1, o1, none⟩) l1.length k1), (68, .int .i64 l1.length), (69, .int .i64 i1), (10, .pointer (some ⟨b1, o1 + i1 * 10, none⟩)), (18, .slice (some ⟨b1_7, o1_7, none⟩) l1_7.length k1_7), (153, .slice (some ⟨b1_7, o1_7, none⟩) l1_7.length k1_7), (154, .int .i64 l1_7.length), (155, .int .i64 i2), (20, .pointer (some ⟨b1_7, o1_7 + i2 * 9, none⟩)), (29, .pointer (some ⟨b1_7, o1_7 + i2 * 9 + 6, none⟩))]) (fun r w' => Apd w0 B x l (m21 ++ (tgsB fx (atT x2 6).u)) r w') ?_ ?_
      · refine cI (by rfl) (fun hc=>?_) (fun hc=>?_)
        · ((conv=>whnf);repeat(first|(refine mvT ?_;conv=>whnf)|(refine mvF ?_;conv=>whnf)|(refine cT (by rfl) ?_;conv=>whnf)|(refine cF (by rfl) ?_;conv=>whnf)))
          have hul := hok2_6_.2.len
          refine Does.mono (Tags_Len_does (ld ((hce1_7.ext hA.ext (hFx _ hb1_7 hF1_7)).cell (j := 7) rfl) (by simp <;> omega)) (hm2_6_.ext hA.ext hFx)) ?_;rintro r w ⟨rfl, rfl⟩;((conv=>whnf);repeat(first|(refine mvT ?_;conv=>whnf)|(refine mvF ?_;conv=>whnf)|(refine cT (by rfl) ?_;conv=>whnf)|(refine cF (by rfl) ?_;conv=>whnf)))
          rw [u32_add0 (by omega)]
          refine Does.mono (AppendUvarint_does hA.ob (Nat.le_trans hB hA.size) (atT x2 6).u.length (by omega) (by simp only [List.length_append]; omega)) ?_;rintro r w h;((conv=>whnf);repeat(first|(refine mvT ?_;conv=>whnf)|(refine mvF ?_;conv=>whnf)|(refine cT (by rfl) ?_;conv=>whnf)|(refine cF (by rfl) ?_;conv=>whnf)))
          have hul2 := uvar10 (n := (atT x2 6).u.length) (by omega)
          replace hA := hA.tr h
          clear h
          refine Does.mono (AppendEach_does (ld ((hce1_7.ext hA.ext (hFx _ hb1_7 hF1_7)).cell (j := 7) rfl) (by simp <;> omega)) (hm2_6_.ext hA.ext hFx) hok2_6_.2 hA.ob (Nat.le_trans hB hA.size) (hA.ne (hFR _ hF1_7).2 (hFR _ hF1_7).1) (fun j _ hf => hA.ne (hFR j hf).2 (hFR j hf).1) (by simp only [List.length_append]; omega)) ?_;rintro r w h;((conv=>whnf);repeat(first|(refine mvT ?_;conv=>whnf)|(refine mvF ?_;conv=>whnf)|(refine cT (by rfl) ?_;conv=>whnf)|(refine cF (by rfl) ?_;conv=>whnf)))
          replace hA := hA.tr h
          clear h
          refine ⟨_, ⟨rfl, rfl, rfl, rfl, rfl, rfl, rfl, rfl, rfl, rfl, rfl, rfl, rfl, rfl, rfl, trivial⟩, ?_⟩
          rw [tgsB, if_pos hc, ← List.append_assoc]
          exact hA
        · ((conv=>whnf);repeat(first|(refine mvT ?_;conv=>whnf)|(refine mvF ?_;conv=>whnf)|(refine cT (by rfl) ?_;conv=>whnf)|(refine cF (by rfl) ?_;conv=>whnf)))
          refine ⟨_, ⟨rfl, rfl, rfl, rfl, rfl, rfl, rfl, rfl, rfl, rfl, rfl, rfl, rfl, rfl, rfl, trivial⟩, ?_⟩
          rw [tgsB, if_neg (by rw [hc]; decide), List.append_nil]
          exact hA
      clear hA
      rintro r w hA
      ((conv=>whnf);repeat(first|(refine mvT ?_;conv=>whnf)|(refine mvF ?_;conv=>whnf)|(refine cT (by rfl) ?_;conv=>whnf)|(refine cF (by rfl) ?_;conv=>whnf)))
      generalize hm22 : m21 ++ (tgsB fx (atT x2 6).u) = m22 at hA
      have hl22 : m22.length = m21.length + (tgsB fx (atT x2 6).u).length := by rw [← hm22, List.length_append]
      rw [show m22 = m19 ++ (bShareGroupDescribeResponseGroupMemberAssignment v fx (atT x2 6)) by unfold bShareGroupDescribeResponseGroupMemberAssignment; simp only [← hm22, ← hm21, ← hm20, List.append_assoc, List.nil_append, List.append_nil]] at hA
      generalize hm23 : m19 ++ (bShareGroupDescribeResponseGroupMemberAssignment v fx (atT x2 6)) = m23 at hA
      have hl23 : m23.length = m19.length + (bShareGroupDescribeResponseGroupMemberAssignment v fx (atT x2 6)).length := by rw [← hm23, List.length_append]
      (refine mvB ?_;((conv=>whnf);repeat(first|(refine mvT ?_;conv=>whnf)|(refine mvF ?_;conv=>whnf)|(refine cT (by rfl) ?_;conv=>whnf)|(refine cF (by rfl) ?_;conv=>whnf))))
      refine VC.cutB (fun r => [(1, r), (0, .pointer (some ⟨p, 0, none⟩)), (5, .int .i16 v), (6, .bool fx), (8, .slice (some ⟨b1, o1, none⟩) l1.length k1), (67, .slice (some ⟨b1, o1, none⟩) l1.length k1), (68, .int .i64 l1.length), (69, .int .i64 i1), (10, .pointer (some ⟨b1, o1 + i1 * 10, none⟩)), (18, .slice (some ⟨b1_7, o1_7, none⟩) l1_7.length k1_7), (153, .slice (some ⟨b1_7, o1_7, none⟩) l1_7.length k1_7), (154, .int .i64 l1_7.length), (155, .int .i64 i2), (20, .pointer (some ⟨b1_7, o1_7 + i2 * 9, none⟩))]) (fun r w' => Apd w0 B x l (m23 ++ (tgsB fx (x2).u)) r w') ?_ ?_
      · refine cI (by rfl) (fun hc=>?_) (fun hc=>?_)
        · ((conv=>whnf);repeat(first|(refine mvT ?_;conv=>whnf)|(refine mvF ?_;conv=>whnf)|(refine cT (by rfl) ?_;conv=>whnf)|(refine cF (by rfl) ?_;conv=>whnf)))
          have hul := hok2_.2.len
          refine Does.mono (Tags_Len_does (ld ((hce1_7.ext hA.ext (hFx _ hb1_7 hF1_7)).cell (j := 8) rfl) (by simp <;> omega)) (hm2_.ext hA.ext hFx)) ?_;rintro r w ⟨rfl, rfl⟩;((conv=>whnf);repeat(first|(refine mvT ?_;conv=>whnf)|(refine mvF ?_;conv=>whnf)|(refine cT (by rfl) ?_;conv=>whnf)|(refine cF (by rfl) ?_;conv=>whnf)))
          rw [u32_add0 (by omega)]
          refine Does.mono (AppendUvarint_does hA.ob (Nat.le_trans hB hA.size) (x2).u.length (by omega) (by simp only [List.length_append]; omega)) ?_;rintro r w h;((conv=>whnf);repeat(first|(refine mvT ?_;conv=>whnf)|(refine mvF ?_;conv=>whnf)|(refine cT (by rfl) ?_;conv=>whnf)|(refine cF (by rfl) ?_;conv=>whnf)))
          have hul2 := uvar10 (n := (x2).u.length) (by omega)
          replace hA := hA.tr h
          clear h
          refine Does.mono (AppendEach_does (ld ((hce1_7.ext hA.ext (hFx _ hb1_7 hF1_7)).cell (j := 8) rfl) (by simp <;> omega)) (hm2_.ext hA.ext hFx) hok2_.2 hA.ob (Nat.le_trans hB hA.size) (hA.ne (hFR _ hF1_7).2 (hFR _ hF1_7).1) (fun j _ hf => hA.ne (hFR j hf).2 (hFR j hf).1) (by simp only [List.length_append]; omega)) ?_;rintro r w h;((conv=>whnf);repeat(first|(refine mvT ?_;conv=>whnf)|(refine mvF ?_;conv=>whnf)|(refine cT (by rfl) ?_;conv=>whnf)|(refine cF (by rfl) ?_;conv=>whnf)))
          replace hA := hA.tr h
          clear h
          refine ⟨_, ⟨rfl, rfl, rfl, rfl, rfl, rfl, rfl, rfl, rfl, rfl, rfl, rfl, rfl, rfl, trivial⟩, ?_⟩
          rw [tgsB, if_pos hc, ← List.append_assoc]
          exact hA
        · ((conv=>whnf);repeat(first|(refine mvT ?_;conv=>whnf)|(refine mvF ?_;conv=>whnf)|(refine cT (by rfl) ?_;conv=>whnf)|(refine cF (by rfl) ?_;conv=>whnf)))
          refine ⟨_, ⟨rfl, rfl, rfl, rfl, rfl, rfl, rfl, rfl, rfl, rfl, rfl, rfl, rfl, rfl, trivial⟩, ?_⟩
          rw [tgsB, if_neg (by rw [hc]; decide), List.append_nil]
          exact hA
      clear hA
      rintro r w hA
      ((conv=>whnf);repeat(first|(refine mvT ?_;conv=>whnf)|(refine mvF ?_;conv=>whnf)|(refine cT (by rfl) ?_;conv=>whnf)|(refine cF (by rfl) ?_;conv=>whnf)))
      generalize hm24 : m23 ++ (tgsB fx (x2).u) = m24 at hA
      have hl24 : m24.length = m23.length + (tgsB fx (x2).u).length := by rw [← hm24, List.length_append]
      have hfin : m12 ++ (bShareGroupDescribeResponseGroupMember v fx) x2 = m24 := by unfold bShareGroupDescribeResponseGroupMember; simp only [← hm24, ← hm23, ← hm19, ← hm18, ← hm17, ← hm16, ← hm15, ← hm14, ← hm13, List.append_assoc, List.nil_append, List.append_nil]
      refine ⟨(i2 + 1, r), ⟨rfl, rfl, rfl, rfl, rfl, rfl, rfl, rfl, rfl, rfl, rfl, rfl, inc_eq (by rw [maxLen_eq] at hkm1_7; omega), trivial⟩, ⟨by simp only; omega, ?_⟩, by simp only; omega⟩
      rw [hft, ← List.append_assoc, hm12, hfin]
      exact hA
    have hil : i2 = l1_7.length := by have := of_decide_eq_false h9; simp only at this; omega
    ((conv=>whnf);repeat(first|(refine mvT ?_;conv=>whnf)|(refine mvF ?_;conv=>whnf)|(refine cT (by rfl) ?_;conv=>whnf)|(refine cF (by rfl) ?_;conv=>whnf)))
    rw [hil, hll1_7, List.take_length] at hA
    generalize hm12 : m11 ++ ((lsT (atT x1 7)).flatMap (bShareGroupDescribeResponseGroupMember v fx)) = m12 at hA
    have hl12 : m12.length = m11.length + ((lsT (atT x1 7)).flatMap (bShareGroupDescribeResponseGroupMember v fx)).length := by rw [← hm12, List.length_append]
    refine ⟨_, ld ((hce1.ext hA.ext (hFx _ hb1 hF1)).cell (j := 8) rfl) (by simp <;> omega), ?_⟩; ((conv=>whnf);repeat(first|(refine mvT ?_;conv=>whnf)|(refine mvF ?_;conv=>whnf)|(refine cT (by rfl) ?_;conv=>whnf)|(refine cF (by rfl) ?_;conv=>whnf)))
    refine Does.mono (AppendInt32_does hA.ob (Nat.le_trans hB hA.size) (by simp only [List.length_append]; omega) _) ?_;rintro r w h;((conv=>whnf);repeat(first|(refine mvT ?_;conv=>whnf)|(refine mvF ?_;conv=>whnf)|(refine cT (by rfl) ?_;conv=>whnf)|(refine cF (by rfl) ?_;conv=>whnf)))
    rw [fixed4_mod (wrap_i32m _)] at h
    replace hA := hA.tr h
    clear h
    generalize hm13 : m12 ++ (fixed (atT x1 8).n 4) = m13 at hA
    have hl13 : m13.length = m12.length + (fixed (atT x1 8).n 4).length := by rw [← hm13, List.length_append]
    (refine mvB ?_;((conv=>whnf);repeat(first|(refine mvT ?_;conv=>whnf)|(refine mvF ?_;conv=>whnf)|(refine cT (by rfl) ?_;conv=>whnf)|(refine cF (by rfl) ?_;conv=>whnf))))
    refine VC.cutB (fun r => [(1, r), (0, .pointer (some ⟨p, 0, none⟩)), (5, .int .i16 v), (6, .bool fx), (8, .slice (some ⟨b1, o1, none⟩) l1.length k1), (67, .slice (some ⟨b1, o1, none⟩) l1.length k1), (68, .int .i64 l1.length), (69, .int .i64 i1), (10, .pointer (some ⟨b1, o1 + i1 * 10, none⟩))]) (fun r w' => Apd w0 B x l (m13 ++ (tgsB fx (x1).u)) r w') ?_ ?_
    · refine cI (by rfl) (fun hc=>?_) (fun hc=>?_)
      · ((conv=>whnf);repeat(first|(refine mvT ?_;conv=>whnf)|(refine mvF ?_;conv=>whnf)|(refine cT (by rfl) ?_;conv=>whnf)|(refine cF (by rfl) ?_;conv=>whnf)))
        have hul := hok1_.2.len
        refine Does.mono (Tags_Len_does (ld ((hce1.ext hA.ext (hFx _ hb1 hF1)).cell (j := 9) rfl) (by simp <;> omega)) (hm1_.ext hA.ext hFx)) ?_;rintro r w ⟨rfl, rfl⟩;((conv=>whnf);repeat(first|(refine mvT ?_;conv=>whnf)|(refine mvF ?_;conv=>whnf)|(refine cT (by rfl) ?_;conv=>whnf)|(refine cF (by rfl) ?_;conv=>whnf)))
        rw [u32_add0 (by omega)]
        refine Does.mono (AppendUvarint_does hA.ob (Nat.le_trans hB hA.size) (x1).u.length (by omega) (by simp only [List.length_append]; omega)) ?_;rintro r w h;((conv=>whnf);repeat(first|(refine mvT ?_;conv=>whnf)|(refine mvF ?_;conv=>whnf)|(refine cT (by rfl) ?_;conv=>whnf)|(refine cF (by rfl) ?_;conv=>whnf)))
        have hul2 := uvar10 (n := (x1).u.length) (by omega)
        replace hA := hA.tr h
        clear h
        refine Does.mono (AppendEach_does (ld ((hce1.ext hA.ext (hFx _ hb1 hF1)).cell (j := 9) rfl) (by simp <;> omega)) (hm1_.ext hA.ext hFx) hok1_.2 hA.ob (Nat.le_trans hB hA.size) (hA.ne (hFR _ hF1).2 (hFR _ hF1).1) (fun j _ hf => hA.ne (hFR j hf).2 (hFR j hf).1) (by simp only [List.length_append]; omega)) ?_;rintro r w h;((conv=>whnf);repeat(first|(refine mvT ?_;conv=>whnf)|(refine mvF ?_;conv=>whnf)|(refine cT (by rfl) ?_;conv=>whnf)|(refine cF (by rfl) ?_;conv=>whnf)))
        replace hA := hA.tr h
        clear h
        refine ⟨_, ⟨rfl, rfl, rfl, rfl, rfl, rfl, rfl, rfl, rfl, trivial⟩, ?_⟩
        rw [tgsB, if_pos hc, ← List.append_assoc]
        exact hA
      · ((conv=>whnf);repeat(first|(refine mvT ?_;conv=>whnf)|(refine mvF ?_;conv=>whnf)|(refine cT (by rfl) ?_;conv=>whnf)|(refine cF (by rfl) ?_;conv=>whnf)))
        refine ⟨_, ⟨rfl, rfl, rfl, rfl, rfl, rfl, rfl, rfl, rfl, trivial⟩, ?_⟩
        rw [tgsB, if_neg (by rw [hc]; decide), List.append_nil]
        exact hA
    clear hA
    rintro r w hA
    ((conv=>whnf);repeat(first|(refine mvT ?_;conv=>whnf)|(refine mvF ?_;conv=>whnf)|(refine cT (by rfl) ?_;conv=>whnf)|(refine cF (by rfl) ?_;conv=>whnf)))
    generalize hm14 : m13 ++ (tgsB fx (x1).u) = m14 at hA
    have hl14 : m14.length = m13.length + (tgsB fx (x1).u).length := by rw [← hm14, List.length_append]
    have hfin : m3 ++ (bShareGroupDescribeResponseGroup v fx) x1 = m14 := by unfold bShareGroupDescribeResponseGroup; simp only [← hm14, ← hm13, ← hm12, ← hm11, ← hm10, ← hm9, ← hm8, ← hm7, ← hm6, ← hm5, ← hm4, List.append_assoc, List.nil_append, List.append_nil]
    refine ⟨(i1 + 1, r), ⟨rfl, rfl, rfl, rfl, rfl, rfl, rfl, inc_eq (by rw [maxLen_eq] at hkm1; omega), trivial⟩, ⟨by simp only; omega, ?_⟩, by simp only; omega⟩
    rw [hft, ← List.append_assoc, hm3, hfin]
    exact hA
  have hil : i1 = l1.length := by have := of_decide_eq_false h9; simp only at this; omega
  ((conv=>whnf);repeat(first|(refine mvT ?_;conv=>whnf)|(refine mvF ?_;conv=>whnf)|(refine cT (by rfl) ?_;conv=>whnf)|(refine cF (by rfl) ?_;conv=>whnf)))
  rw [hil, hll1, List.take_length] at hA
  generalize hm3 : m2 ++ ((lsT (atT t 1)).flatMap (bShareGroupDescribeResponseGroup v fx)) = m3 at hA
  have hl3 : m3.length = m2.length + ((lsT (atT t 1)).flatMap (bShareGroupDescribeResponseGroup v fx)).length := by rw [← hm3, List.length_append]
  (refine mvB ?_;((conv=>whnf);repeat(first|(refine mvT ?_;conv=>whnf)|(refine mvF ?_;conv=>whnf)|(refine cT (by rfl) ?_;conv=>whnf)|(refine cF (by rfl) ?_;conv=>whnf))))
  refine VC.cutE (fun r => [(1, r), (0, .pointer (some ⟨p, 0, none⟩)), (5, .int .i16 v), (6, .bool fx)]) (fun r w' => Apd w0 B x l (m3 ++ (tgsB fx (t).u)) r w') ?_ ?_
  · refine cI (by rfl) (fun hc=>?_) (fun hc=>?_)
    · ((conv=>whnf);repeat(first|(refine mvT ?_;conv=>whnf)|(refine mvF ?_;conv=>whnf)|(refine cT (by rfl) ?_;conv=>whnf)|(refine cF (by rfl) ?_;conv=>whnf)))
      have hul := hok.2.len
      refine Does.mono (Tags_Len_does ((hp.ext hA.ext hxp).cell rfl) (hm.ext hA.ext hFx)) ?_;rintro r w ⟨rfl, rfl⟩;((conv=>whnf);repeat(first|(refine mvT ?_;conv=>whnf)|(refine mvF ?_;conv=>whnf)|(refine cT (by rfl) ?_;conv=>whnf)|(refine cF (by rfl) ?_;conv=>whnf)))
      rw [u32_add0 (by omega)]
      refine Does.mono (AppendUvarint_does hA.ob (Nat.le_trans hB hA.size) (t).u.length (by omega) (by simp only [List.length_append]; omega)) ?_;rintro r w h;((conv=>whnf);repeat(first|(refine mvT ?_;conv=>whnf)|(refine mvF ?_;conv=>whnf)|(refine cT (by rfl) ?_;conv=>whnf)|(refine cF (by rfl) ?_;conv=>whnf)))
      have hul2 := uvar10 (n := (t).u.length) (by omega)
      replace hA := hA.tr h
      clear h
      refine Does.mono (AppendEach_does ((hp.ext hA.ext hxp).cell rfl) (hm.ext hA.ext hFx) hok.2 hA.ob (Nat.le_trans hB hA.size) (hA.ne hxp hpl) (fun j _ hf => hA.ne (hFR j hf).2 (hFR j hf).1) (by simp only [List.length_append]; omega)) ?_;rintro r w h;((conv=>whnf);repeat(first|(refine mvT ?_;conv=>whnf)|(refine mvF ?_;conv=>whnf)|(refine cT (by rfl) ?_;conv=>whnf)|(refine cF (by rfl) ?_;conv=>whnf)))
      replace hA := hA.tr h
      clear h
      refine ⟨_, ⟨rfl, rfl, rfl, rfl, trivial⟩, ?_⟩
      rw [tgsB, if_pos hc, ← List.append_assoc]
      exact hA
    · ((conv=>whnf);repeat(first|(refine mvT ?_;conv=>whnf)|(refine mvF ?_;conv=>whnf)|(refine cT (by rfl) ?_;conv=>whnf)|(refine cF (by rfl) ?_;conv=>whnf)))
      refine ⟨_, ⟨rfl, rfl, rfl, rfl, trivial⟩, ?_⟩
      rw [tgsB, if_neg (by rw [hc]; decide), List.append_nil]
      exact hA
  clear hA
  rintro r w hA
  ((conv=>whnf);repeat(first|(refine mvT ?_;conv=>whnf)|(refine mvF ?_;conv=>whnf)|(refine cT (by rfl) ?_;conv=>whnf)|(refine cF (by rfl) ?_;conv=>whnf)))
  generalize hm4 : m3 ++ (tgsB fx (t).u) = m4 at hA
  have hl4 : m4.length = m3.length + (tgsB fx (t).u).length := by rw [← hm4, List.length_append]
  show Apd w0 B x l _ r w
  rw [show bShareGroupDescribeResponse v fx t = m4 by unfold bShareGroupDescribeResponse; simp only [← hm4, ← hm3, ← hm2, ← hm1, hm0, List.append_assoc, List.nil_append, List.append_nil]]
  exact hA
theorem makeShareGroupDescribeResponse {F : Nat → Prop} {w : World} {v : Int} {x : Value} {t : T} (ht : Tr w F x t) (hok : partOK 9 v dShareGroupDescribeResponse t) (hv : 0 ≤ v) (hv2 : v < 32768) (hl : (bShareGroupDescribeResponse v (decide (v ≥ 0)) t).length ≤ 70000000000000) :
    Does X.P 24 #[.int .i64 v, x] w fun r w' => OB w' w.heap.size r (bShareGroupDescribeResponse v (decide (v ≥ 0)) t) ∧ Ext nob w w' := by
  have htm := ht.mono (F' := fun k => k < w.heap.size) fun k h1 h2 => h1
  clear ht
  obtain ⟨sv, lv, uv, ls, rfl, _⟩ := htm.open
  have hv16 : IntKind.i16.wrap v = v := by
    simp only [IntKind.wrap, IntKind.bits, IntKind.signed]
    simp
    omega
  refine Does.go (X := X) (l := [_, _]) Tryz.func24 rfl (by kernel_rfl) (by kernel_rfl) _ rfl ?_
  ((conv=>whnf);repeat(first|(refine mvT ?_;conv=>whnf)|(refine mvF ?_;conv=>whnf)|(refine cT (by rfl) ?_;conv=>whnf)|(refine cF (by rfl) ?_;conv=>whnf)))
  intro b w1 hb ho hx
  ((conv=>whnf);repeat(first|(refine mvT ?_;conv=>whnf)|(refine mvF ?_;conv=>whnf)|(refine cT (by rfl) ?_;conv=>whnf)|(refine cF (by rfl) ?_;conv=>whnf)))
  intro p w2 hp hop hx2
  have hx02 := hx.e0 hx2
  have hwp : w.heap.size ≤ p := by have := hx.size; omega
  ((conv=>whnf);repeat(first|(refine mvT ?_;conv=>whnf)|(refine mvF ?_;conv=>whnf)|(refine cT (by rfl) ?_;conv=>whnf)|(refine cF (by rfl) ?_;conv=>whnf)))
  have hset : Does X.P 54 #[.pointer (some ⟨p, 0, none⟩), .int .i16 (IntKind.i16.wrap v)] w2 fun r w' => Own w' p 88 [.int .i16 v, .int .i32 0, .slice none 0 0, .map none] ∧ Ext (fun k => k = p) w2 w' := by
    rw [hv16]
    refine Does.go (X := X) (l := [_, _]) Tryz.func54 rfl (by kernel_rfl) (by kernel_rfl) _ rfl ?_
    ((conv=>whnf);repeat(first|(refine mvT ?_;conv=>whnf)|(refine mvF ?_;conv=>whnf)|(refine cT (by rfl) ?_;conv=>whnf)|(refine cF (by rfl) ?_;conv=>whnf)))
    refine ⟨_, _, hop, rfl, rfl, rfl, ?_⟩
    intro w3 ho3 hx3
    ((conv=>whnf);repeat(first|(refine mvT ?_;conv=>whnf)|(refine mvF ?_;conv=>whnf)|(refine cT (by rfl) ?_;conv=>whnf)|(refine cF (by rfl) ?_;conv=>whnf)))
    exact ⟨ho3, hx3⟩
  refine Does.mono (hset) ?_;rintro r3 w3 ⟨hop3, hx3⟩;((conv=>whnf);repeat(first|(refine mvT ?_;conv=>whnf)|(refine mvF ?_;conv=>whnf)|(refine cT (by rfl) ?_;conv=>whnf)|(refine cF (by rfl) ?_;conv=>whnf)))
  have hx03 := hx02.st hx3 hwp
  have hpb : p ≠ b := by have := ho.lt; omega
  refine ⟨_, rfl, ((ho.e0 hx2).ext hx3 fun h => hpb h.symm).cells, ?_⟩
  ((conv=>whnf);repeat(first|(refine mvT ?_;conv=>whnf)|(refine mvF ?_;conv=>whnf)|(refine cT (by rfl) ?_;conv=>whnf)|(refine cF (by rfl) ?_;conv=>whnf)))
  refine Does.mono (fillShareGroupDescribeResponse hop3 (htm.e0 hx03) (fun k h1 h2 => by omega) hok) ?_;rintro r4 w4 ⟨hx4, c1, m, hop4, hc1, hm4⟩;((conv=>whnf);repeat(first|(refine mvT ?_;conv=>whnf)|(refine mvF ?_;conv=>whnf)|(refine cT (by rfl) ?_;conv=>whnf)|(refine cF (by rfl) ?_;conv=>whnf)))
  have hx04 := hx03.st hx4 hwp
  refine Does.mono (appShareGroupDescribeResponse (F := anyB) hop4 (hc1.mono (fun _ _ _ => trivial) (fun _ _ h => rShareGroupDescribeResponseGroup_mono h fun _ _ _ => trivial)) (hm4.mono fun _ _ _ => trivial) hok (fun _ _ _ => by simp [Value.ownBlock]) (by simp [Value.ownBlock]) (OB.nil _ _) (Nat.le_refl _) hv (by rw [List.length_nil, Nat.zero_add]; exact hl)) ?_;rintro r5 w5 h5;((conv=>whnf);repeat(first|(refine mvT ?_;conv=>whnf)|(refine mvF ?_;conv=>whnf)|(refine cT (by rfl) ?_;conv=>whnf)|(refine cF (by rfl) ?_;conv=>whnf)))
  refine ⟨?_, hx04.own h5.ext (B := w.heap.size) (by simp [Value.ownBlock]) (Nat.le_refl _)⟩
  have := h5.ob
  rw [List.nil_append] at this
  exact this.mono hx04.size
theorem defaultShareGroupDescribeResponse (p : Nat) (w : World) (T : TypeId) (l : List Value) (h : Own w p T l) (hl : l.length = 4) : Does X.P 94 #[.pointer (some ⟨p, 0, none⟩)] w fun r w' => Ext (fun k => k = p) w w' := by
  have hx0 : Ext (fun k => k = p) w w := Ext.refl _ _
  refine Does.go (X := X) (l := [_]) Tryz.func94 rfl (by kernel_rfl) (by kernel_rfl) _ rfl ?_
  ((conv=>whnf);repeat(first|(refine mvT ?_;conv=>whnf)|(refine mvF ?_;conv=>whnf)|(refine cT (by rfl) ?_;conv=>whnf)|(refine cF (by rfl) ?_;conv=>whnf)))
  exact hx0
theorem maxShareGroupDescribeResponse (w : World) : Does X.P 22 #[] w fun r w' => r = .int .i64 1 ∧ Ext nob w w' := by
  have hmax : ∀ (p : Nat) (w : World), Does X.P 52 #[.pointer (some ⟨p, 0, none⟩)] w fun r w' => r = .int .i16 1 ∧ w' = w := by
    intro p w
    refine Does.go (X := X) (l := [_]) Tryz.func52 rfl (by kernel_rfl) (by kernel_rfl) _ rfl ?_
    ((conv=>whnf);repeat(first|(refine mvT ?_;conv=>whnf)|(refine mvF ?_;conv=>whnf)|(refine cT (by rfl) ?_;conv=>whnf)|(refine cF (by rfl) ?_;conv=>whnf)))
    exact ⟨rfl, rfl⟩
  have hnew : Does X.P 51 #[] w fun r w' => (∃ p, r = .pointer (some ⟨p, 0, none⟩)) ∧ Ext nob w w' := by
    refine Does.go (X := X) (l := []) Tryz.func51 rfl (by kernel_rfl) (by kernel_rfl) _ rfl ?_
    ((conv=>whnf);repeat(first|(refine mvT ?_;conv=>whnf)|(refine mvF ?_;conv=>whnf)|(refine cT (by rfl) ?_;conv=>whnf)|(refine cF (by rfl) ?_;conv=>whnf)))
    intro p w1 hp ho hx
    ((conv=>whnf);repeat(first|(refine mvT ?_;conv=>whnf)|(refine mvF ?_;conv=>whnf)|(refine cT (by rfl) ?_;conv=>whnf)|(refine cF (by rfl) ?_;conv=>whnf)))
    refine Does.mono (defaultShareGroupDescribeResponse p w1 _ _ ho rfl) ?_;rintro r2 w2 hx2;((conv=>whnf);repeat(first|(refine mvT ?_;conv=>whnf)|(refine mvF ?_;conv=>whnf)|(refine cT (by rfl) ?_;conv=>whnf)|(refine cF (by rfl) ?_;conv=>whnf)))
    exact ⟨⟨p, rfl⟩, hx.st hx2 hp⟩
  refine Does.go (X := X) (l := []) Tryz.func22 rfl (by kernel_rfl) (by kernel_rfl) _ rfl ?_
  ((conv=>whnf);repeat(first|(refine mvT ?_;conv=>whnf)|(refine mvF ?_;conv=>whnf)|(refine cT (by rfl) ?_;conv=>whnf)|(refine cF (by rfl) ?_;conv=>whnf)))
  refine Does.mono (hnew) ?_;rintro r1 w1 ⟨⟨p, rfl⟩, hx⟩;((conv=>whnf);repeat(first|(refine mvT ?_;conv=>whnf)|(refine mvF ?_;conv=>whnf)|(refine cT (by rfl) ?_;conv=>whnf)|(refine cF (by rfl) ?_;conv=>whnf)))
  refine Does.mono (hmax p w1) ?_;rintro r2 w2 ⟨rfl, rfl⟩;((conv=>whnf);repeat(first|(refine mvT ?_;conv=>whnf)|(refine mvF ?_;conv=>whnf)|(refine cT (by rfl) ?_;conv=>whnf)|(refine cF (by rfl) ?_;conv=>whnf)))
  exact ⟨rfl, hx⟩
theorem walkShareGroupDescribeResponse {w : World} {n : Nat} (hn : n < 256) {x : Value} {t : T} (ht : Tr w anyB x t) (hsz : wtT t ≤ 1048576) : Does X.P 6 #[.int .u8 n, x] w fun r w' => r = .bool true ∧ Ext nob w w' := by
  have hkeys := ht.keys
  obtain ⟨sv, lv, uv, ls, rfl, _⟩ := ht.open
  refine Does.go (X := X) (l := [_, _]) Tryz.func6 rfl (by kernel_rfl) (by kernel_rfl) _ rfl ?_
  ((conv=>whnf);repeat(first|(refine mvT ?_;conv=>whnf)|(refine mvF ?_;conv=>whnf)|(refine cT (by rfl) ?_;conv=>whnf)|(refine cF (by rfl) ?_;conv=>whnf)))
  intro b w1 hb ho hx
  ((conv=>whnf);repeat(first|(refine mvT ?_;conv=>whnf)|(refine mvF ?_;conv=>whnf)|(refine cT (by rfl) ?_;conv=>whnf)|(refine cF (by rfl) ?_;conv=>whnf)))
  refine ⟨_, rfl, ho.cells, ?_⟩
  ((conv=>whnf);repeat(first|(refine mvT ?_;conv=>whnf)|(refine mvF ?_;conv=>whnf)|(refine cT (by rfl) ?_;conv=>whnf)|(refine cF (by rfl) ?_;conv=>whnf)))
  refine Does.mono (zzFits1_does (ht.e0 hx)) ?_;rintro r2 w2 ⟨⟨b2, rfl⟩, hx2⟩;((conv=>whnf);repeat(first|(refine mvT ?_;conv=>whnf)|(refine mvF ?_;conv=>whnf)|(refine cT (by rfl) ?_;conv=>whnf)|(refine cF (by rfl) ?_;conv=>whnf)))
  have hx02 := hx.e0 hx2
  refine cI (by rfl) (fun h1=>?_) (fun h1=>?_)
  · ((conv=>whnf);repeat(first|(refine mvT ?_;conv=>whnf)|(refine mvF ?_;conv=>whnf)|(refine cT (by rfl) ?_;conv=>whnf)|(refine cF (by rfl) ?_;conv=>whnf)))
    exact ⟨rfl, hx02⟩
  · ((conv=>whnf);repeat(first|(refine mvT ?_;conv=>whnf)|(refine mvF ?_;conv=>whnf)|(refine cT (by rfl) ?_;conv=>whnf)|(refine cF (by rfl) ?_;conv=>whnf)))
    refine Does.mono (maxShareGroupDescribeResponse w2) ?_;rintro r3 w3 ⟨rfl, hx3⟩;((conv=>whnf);repeat(first|(refine mvT ?_;conv=>whnf)|(refine mvF ?_;conv=>whnf)|(refine cT (by rfl) ?_;conv=>whnf)|(refine cF (by rfl) ?_;conv=>whnf)))
    refine Does.mono (sShareGroupDescribeResponse w3) ?_;rintro r4 w4 ⟨⟨fv, rfl, hfd⟩, hx4⟩;((conv=>whnf);repeat(first|(refine mvT ?_;conv=>whnf)|(refine mvF ?_;conv=>whnf)|(refine cT (by rfl) ?_;conv=>whnf)|(refine cF (by rfl) ?_;conv=>whnf)))
    have hone := hfd
    obtain ⟨ls3, hsl3, _⟩ := hone
    obtain ⟨a3, c3, rfl, _⟩ := hsl3.view
    refine Does.mono (version_does n 1 hn (by omega) w4) ?_;rintro r5 w5 ⟨rfl, rfl⟩;((conv=>whnf);repeat(first|(refine mvT ?_;conv=>whnf)|(refine mvF ?_;conv=>whnf)|(refine cT (by rfl) ?_;conv=>whnf)|(refine cF (by rfl) ?_;conv=>whnf)))
    intro b6 w6 hb6 ho6 hx6
    ((conv=>whnf);repeat(first|(refine mvT ?_;conv=>whnf)|(refine mvF ?_;conv=>whnf)|(refine cT (by rfl) ?_;conv=>whnf)|(refine cF (by rfl) ?_;conv=>whnf)))
    refine ⟨_, _, ho6, rfl, rfl, rfl, ?_⟩
    intro w7 ho7 hx7
    have hx57 : Ext nob w5 w7 := hx6.st hx7 hb6
    ((conv=>whnf);repeat(first|(refine mvT ?_;conv=>whnf)|(refine mvF ?_;conv=>whnf)|(refine cT (by rfl) ?_;conv=>whnf)|(refine cF (by rfl) ?_;conv=>whnf)))
    have hx07 : Ext nob w w7 := ((hx02.e0 hx3).e0 hx4).e0 hx57
    have hxd := hx07.e0 (ext_drew _)
    have hod := ((((ho.e0 hx2).e0 hx3).e0 hx4).e0 hx57).e0 (ext_drew _)
    have ho7d := ho7.e0 (ext_drew _)
    have hfdd := (hfd.e0 hx57).e0 (ext_drew _)
    generalize hvv : ((n % (1 + 1) : Nat) : Int) = v
    have hv0 : 0 ≤ v := by omega
    have hv1 : v < 32768 := by omega
    have hok : ∀ f, f ∈ dShareGroupDescribeResponse → okF 9 f = true := List.all_eq_true.1 (show (dShareGroupDescribeResponse).all (okF 9) = true by decide)
    have hnt : ∀ f, f ∈ dShareGroupDescribeResponse → ntF 9 f = true := List.all_eq_true.1 (show (dShareGroupDescribeResponse).all (ntF 9) = true by decide)
    refine VD.draw mixed (.q 0 (.q 1 (.q 2 (.q 3 (.q 4 (.q 8 (.q 9 (.q 10 (.eff 5 [8, 10] (.eff 6 [8, 10] (.eff 7 [8, 10] (.eff 11 [] (.eff 12 [] (.eff 13 [] (.done))))))))))))))) (by kernel_rfl) ?_;((conv=>whnf);repeat(first|(refine mvT ?_;conv=>whnf)|(refine mvF ?_;conv=>whnf)|(refine cT (by rfl) ?_;conv=>whnf)|(refine cF (by rfl) ?_;conv=>whnf)))
    refine ldS (ho7d.cell rfl) ?_;((conv=>whnf);repeat(first|(refine mvT ?_;conv=>whnf)|(refine mvF ?_;conv=>whnf)|(refine cT (by rfl) ?_;conv=>whnf)|(refine cF (by rfl) ?_;conv=>whnf)))
    refine ⟨_, rfl, hod.cells, ?_⟩
    ((conv=>whnf);repeat(first|(refine mvT ?_;conv=>whnf)|(refine mvF ?_;conv=>whnf)|(refine cT (by rfl) ?_;conv=>whnf)|(refine cF (by rfl) ?_;conv=>whnf)))
    refine ⟨_, rfl, ho7d.cells, ?_⟩
    ((conv=>whnf);repeat(first|(refine mvT ?_;conv=>whnf)|(refine mvF ?_;conv=>whnf)|(refine cT (by rfl) ?_;conv=>whnf)|(refine cF (by rfl) ?_;conv=>whnf)))
    refine ⟨_, rfl, hod.cells, ?_⟩
    ((conv=>whnf);repeat(first|(refine mvT ?_;conv=>whnf)|(refine mvF ?_;conv=>whnf)|(refine cT (by rfl) ?_;conv=>whnf)|(refine cF (by rfl) ?_;conv=>whnf)))
    refine Does.mono (fit_does (fits_do 9) (v := v) hfdd (ht.e0 hxd) hok (by decide)) ?_
    rintro r8 w8 ⟨hr8, hx8⟩
    refine ⟨by (conv => whnf); exact ⟨⟨_, rfl, (ho7d.e0 hx8).cells, rfl, rfl⟩, ⟨_, rfl, (hod.e0 hx8).cells, rfl, rfl⟩, trivial⟩, ?_⟩
    ((conv=>whnf);repeat(first|(refine mvT ?_;conv=>whnf)|(refine mvF ?_;conv=>whnf)|(refine cT (by rfl) ?_;conv=>whnf)|(refine cF (by rfl) ?_;conv=>whnf)))
    have hsmall := fit_small 9 _ (by decide) v hok t
    refine Does.mono (given_does hr8 hsmall) ?_
    rintro r9 w9 ⟨hr9, hx9⟩
    have hx89 := hx8.e0 hx9
    refine ⟨by (conv => whnf); exact ⟨⟨_, rfl, (ho7d.e0 hx89).cells, rfl, rfl⟩, ⟨_, rfl, (hod.e0 hx89).cells, rfl, rfl⟩, trivial⟩, ?_⟩
    ((conv=>whnf);repeat(first|(refine mvT ?_;conv=>whnf)|(refine mvF ?_;conv=>whnf)|(refine cT (by rfl) ?_;conv=>whnf)|(refine cF (by rfl) ?_;conv=>whnf)))
    have hfx : decide (v ≥ 0) = flexB 0 v := by simp [flexB]
    have hfit := part_ok 9 v dShareGroupDescribeResponse t hnt hkeys
    have hlaw : bShareGroupDescribeResponse v (decide (v ≥ 0)) (fitB 9 v dShareGroupDescribeResponse t) = partB 9 v (flexB 0 v) dShareGroupDescribeResponse t := by
      rw [← bShareGroupDescribeResponse_eq hv0 hfit, hfx]
      exact part_law 9 v _ dShareGroupDescribeResponse t hnt
    have hlen : (partB 9 v (flexB 0 v) dShareGroupDescribeResponse t).length ≤ 70000000000000 := Nat.le_trans (partB_wt 9 v _ dShareGroupDescribeResponse t hnt hkeys) (Nat.le_trans (Nat.mul_le_mul_left _ hsz) (Nat.le_of_ble_eq_true rfl))
    refine Does.mono (makeShareGroupDescribeResponse (v := v) hr9 hfit hv0 hv1 (by rw [hlaw]; exact hlen)) ?_
    rintro r10 w10 ⟨hr10, hx10⟩
    have hx810 := hx89.e0 hx10
    refine ⟨by (conv => whnf); exact ⟨⟨_, rfl, (ho7d.e0 hx810).cells, rfl, rfl⟩, ⟨_, rfl, (hod.e0 hx810).cells, rfl, rfl⟩, trivial⟩, ?_⟩
    ((conv=>whnf);repeat(first|(refine mvT ?_;conv=>whnf)|(refine mvF ?_;conv=>whnf)|(refine cT (by rfl) ?_;conv=>whnf)|(refine cF (by rfl) ?_;conv=>whnf)))
    rw [hlaw] at hr10
    refine Does.mono (write_does 9 (v := v) ⟨_, rfl, hfdd.e0 hx810⟩ (ht.e0 (hxd.e0 hx810)) hok (by decide) (Nat.le_trans hlen (by decide))) ?_
    rintro r11 w11 ⟨hr11, hx11⟩
    ((conv=>whnf);repeat(first|(refine mvT ?_;conv=>whnf)|(refine mvF ?_;conv=>whnf)|(refine cT (by rfl) ?_;conv=>whnf)|(refine cF (by rfl) ?_;conv=>whnf)))
    refine Does.mono (Same_does (hr10.e0 hx11).bytesAny hr11.bytesAny) ?_
    rintro r12 w12 ⟨rfl, hx12⟩
    ((conv=>whnf);repeat(first|(refine mvT ?_;conv=>whnf)|(refine mvF ?_;conv=>whnf)|(refine cT (by rfl) ?_;conv=>whnf)|(refine cF (by rfl) ?_;conv=>whnf)))
    exact ⟨by simp [oneOr], ((hxd.e0 hx810).e0 hx11).e0 hx12⟩
end Go.Proofs.YtbcjhghfmhdafaaGreat.K
