/- EndQuorumEpochRequest. -/
import Derived.Test.YtbcjhghfmhdafaaGreatC3
import Derived.Test.YtbcjhghfmhdafaaGreatP1
import Derived.Test.YtbcjhghfmhdafaaGreatGversion
set_option linter.unusedVariables false
set_option linter.unusedSimpArgs false
namespace Go.Proofs.YtbcjhghfmhdafaaGreat.K
open Go
set_option maxHeartbeats 1600000
set_option maxRecDepth 100000

abbrev dEndQuorumEpochRequestTopicPartitionPreferredCandidate : List Fd := [.mk 3 0 (-1) (-1) (-1) 0 0 [], .mk 7 0 (-1) (-1) (-1) 0 0 []]
abbrev dEndQuorumEpochRequestTopicPartition : List Fd := [.mk 3 0 (-1) (-1) (-1) 0 0 [], .mk 3 0 (-1) (-1) (-1) 0 0 [], .mk 3 0 (-1) (-1) (-1) 0 0 [], .mk 11 0 0 (-1) (-1) 0 3 [], .mk 11 1 (-1) (-1) (-1) 0 10 dEndQuorumEpochRequestTopicPartitionPreferredCandidate]
abbrev dEndQuorumEpochRequestTopic : List Fd := [.mk 8 0 (-1) (-1) (-1) 0 0 [], .mk 11 0 (-1) (-1) (-1) 0 10 dEndQuorumEpochRequestTopicPartition]
abbrev dEndQuorumEpochRequestLeaderEndpoint : List Fd := [.mk 8 0 (-1) (-1) (-1) 0 0 [], .mk 8 0 (-1) (-1) (-1) 0 0 [], .mk 5 0 (-1) (-1) (-1) 0 0 []]
abbrev dEndQuorumEpochRequest : List Fd := [.mk 8 0 (-1) 0 (-1) 0 0 [], .mk 11 0 (-1) (-1) (-1) 0 10 dEndQuorumEpochRequestTopic, .mk 11 1 (-1) (-1) (-1) 0 10 dEndQuorumEpochRequestLeaderEndpoint]
theorem sEndQuorumEpochRequestTopicPartitionPreferredCandidate (w : World) : Does X.P 111 #[] w fun r w' => FdsR w' (fun k => w.heap.size ≤ k) r dEndQuorumEpochRequestTopicPartitionPreferredCandidate ∧ Ext nob w w' := by
  have hx0 : Ext nob w w := Ext.refl _ _
  refine Does.go (X := X) (l := []) Tryz.func111 rfl (by kernel_rfl) (by kernel_rfl) _ rfl ?_
  ((conv=>whnf);repeat(first|(refine mvT ?_;conv=>whnf)|(refine mvF ?_;conv=>whnf)|(refine cT (by rfl) ?_;conv=>whnf)|(refine cF (by rfl) ?_;conv=>whnf)))
  have hxs := hx0
  intro b wb hb ho hx
  have hx0 := hx0.e0 hx
  ((conv=>whnf);repeat(first|(refine mvT ?_;conv=>whnf)|(refine mvF ?_;conv=>whnf)|(refine cT (by rfl) ?_;conv=>whnf)|(refine cF (by rfl) ?_;conv=>whnf)))
  refine ⟨?_, hx0⟩
  exact FdL.fds (cs := [[.int .i64 3, .int .i64 0, .int .i64 (-1), .int .i64 (-1), .int .i64 (-1), .int .i64 0, .int .i64 0, .slice none 0 0], [.int .i64 7, .int .i64 0, .int .i64 (-1), .int .i64 (-1), .int .i64 (-1), .int .i64 0, .int .i64 0, .slice none 0 0]])
    ⟨fdLeaf _ _ _ _ _ _ _ _ _, fdLeaf _ _ _ _ _ _ _ _ _, trivial⟩ ho rfl (by decide) (by have := hxs.size; omega)
theorem sEndQuorumEpochRequestTopicPartition (w : World) : Does X.P 89 #[] w fun r w' => FdsR w' (fun k => w.heap.size ≤ k) r dEndQuorumEpochRequestTopicPartition ∧ Ext nob w w' := by
  have hx0 : Ext nob w w := Ext.refl _ _
  refine Does.go (X := X) (l := []) Tryz.func89 rfl (by kernel_rfl) (by kernel_rfl) _ rfl ?_
  ((conv=>whnf);repeat(first|(refine mvT ?_;conv=>whnf)|(refine mvF ?_;conv=>whnf)|(refine cT (by rfl) ?_;conv=>whnf)|(refine cF (by rfl) ?_;conv=>whnf)))
  refine Does.mono (sEndQuorumEpochRequestTopicPartitionPreferredCandidate w) ?_
  rintro v4 wv4 ⟨hv4, hc⟩
  have hv4 := hv4.mono (F' := fun k => w.heap.size ≤ k) fun k _ h => Nat.le_trans hx0.size h
  obtain ⟨lv4, gv4, _⟩ := id hv4
  obtain ⟨av4, kv4, rfl, _⟩ := gv4.view
  ((conv=>whnf);repeat(first|(refine mvT ?_;conv=>whnf)|(refine mvF ?_;conv=>whnf)|(refine cT (by rfl) ?_;conv=>whnf)|(refine cF (by rfl) ?_;conv=>whnf)))
  have hx0 := hx0.e0 hc
  have hxs := hx0
  intro b wb hb ho hx
  have hx0 := hx0.e0 hx
  ((conv=>whnf);repeat(first|(refine mvT ?_;conv=>whnf)|(refine mvF ?_;conv=>whnf)|(refine cT (by rfl) ?_;conv=>whnf)|(refine cF (by rfl) ?_;conv=>whnf)))
  refine ⟨?_, hx0⟩
  exact FdL.fds (cs := [[.int .i64 3, .int .i64 0, .int .i64 (-1), .int .i64 (-1), .int .i64 (-1), .int .i64 0, .int .i64 0, .slice none 0 0], [.int .i64 3, .int .i64 0, .int .i64 (-1), .int .i64 (-1), .int .i64 (-1), .int .i64 0, .int .i64 0, .slice none 0 0], [.int .i64 3, .int .i64 0, .int .i64 (-1), .int .i64 (-1), .int .i64 (-1), .int .i64 0, .int .i64 0, .slice none 0 0], [.int .i64 11, .int .i64 0, .int .i64 0, .int .i64 (-1), .int .i64 (-1), .int .i64 0, .int .i64 3, .slice none 0 0], [.int .i64 11, .int .i64 1, .int .i64 (-1), .int .i64 (-1), .int .i64 (-1), .int .i64 0, .int .i64 10, .slice av4 lv4.length kv4]])
    ⟨fdLeaf _ _ _ _ _ _ _ _ _, fdLeaf _ _ _ _ _ _ _ _ _, fdLeaf _ _ _ _ _ _ _ _ _, fdLeaf _ _ _ _ _ _ _ _ _, FdC.of (hv4.e0 hx) _ _ _ _ _ _ _, trivial⟩ ho rfl (by decide) (by have := hxs.size; omega)
theorem sEndQuorumEpochRequestTopic (w : World) : Does X.P 46 #[] w fun r w' => FdsR w' (fun k => w.heap.size ≤ k) r dEndQuorumEpochRequestTopic ∧ Ext nob w w' := by
  have hx0 : Ext nob w w := Ext.refl _ _
  refine Does.go (X := X) (l := []) Tryz.func46 rfl (by kernel_rfl) (by kernel_rfl) _ rfl ?_
  ((conv=>whnf);repeat(first|(refine mvT ?_;conv=>whnf)|(refine mvF ?_;conv=>whnf)|(refine cT (by rfl) ?_;conv=>whnf)|(refine cF (by rfl) ?_;conv=>whnf)))
  refine Does.mono (sEndQuorumEpochRequestTopicPartition w) ?_
  rintro v1 wv1 ⟨hv1, hc⟩
  have hv1 := hv1.mono (F' := fun k => w.heap.size ≤ k) fun k _ h => Nat.le_trans hx0.size h
  obtain ⟨lv1, gv1, _⟩ := id hv1
  obtain ⟨av1, kv1, rfl, _⟩ := gv1.view
  ((conv=>whnf);repeat(first|(refine mvT ?_;conv=>whnf)|(refine mvF ?_;conv=>whnf)|(refine cT (by rfl) ?_;conv=>whnf)|(refine cF (by rfl) ?_;conv=>whnf)))
  have hx0 := hx0.e0 hc
  have hxs := hx0
  intro b wb hb ho hx
  have hx0 := hx0.e0 hx
  ((conv=>whnf);repeat(first|(refine mvT ?_;conv=>whnf)|(refine mvF ?_;conv=>whnf)|(refine cT (by rfl) ?_;conv=>whnf)|(refine cF (by rfl) ?_;conv=>whnf)))
  refine ⟨?_, hx0⟩
  exact FdL.fds (cs := [[.int .i64 8, .int .i64 0, .int .i64 (-1), .int .i64 (-1), .int .i64 (-1), .int .i64 0, .int .i64 0, .slice none 0 0], [.int .i64 11, .int .i64 0, .int .i64 (-1), .int .i64 (-1), .int .i64 (-1), .int .i64 0, .int .i64 10, .slice av1 lv1.length kv1]])
    ⟨fdLeaf _ _ _ _ _ _ _ _ _, FdC.of (hv1.e0 hx) _ _ _ _ _ _ _, trivial⟩ ho rfl (by decide) (by have := hxs.size; omega)
theorem sEndQuorumEpochRequestLeaderEndpoint (w : World) : Does X.P 47 #[] w fun r w' => FdsR w' (fun k => w.heap.size ≤ k) r dEndQuorumEpochRequestLeaderEndpoint ∧ Ext nob w w' := by
  have hx0 : Ext nob w w := Ext.refl _ _
  refine Does.go (X := X) (l := []) Tryz.func47 rfl (by kernel_rfl) (by kernel_rfl) _ rfl ?_
  ((conv=>whnf);repeat(first|(refine mvT ?_;conv=>whnf)|(refine mvF ?_;conv=>whnf)|(refine cT (by rfl) ?_;conv=>whnf)|(refine cF (by rfl) ?_;conv=>whnf)))
  have hxs := hx0
  intro b wb hb ho hx
  have hx0 := hx0.e0 hx
  ((conv=>whnf);repeat(first|(refine mvT ?_;conv=>whnf)|(refine mvF ?_;conv=>whnf)|(refine cT (by rfl) ?_;conv=>whnf)|(refine cF (by rfl) ?_;conv=>whnf)))
  refine ⟨?_, hx0⟩
  exact FdL.fds (cs := [[.int .i64 8, .int .i64 0, .int .i64 (-1), .int .i64 (-1), .int .i64 (-1), .int .i64 0, .int .i64 0, .slice none 0 0], [.int .i64 8, .int .i64 0, .int .i64 (-1), .int .i64 (-1), .int .i64 (-1), .int .i64 0, .int .i64 0, .slice none 0 0], [.int .i64 5, .int .i64 0, .int .i64 (-1), .int .i64 (-1), .int .i64 (-1), .int .i64 0, .int .i64 0, .slice none 0 0]])
    ⟨fdLeaf _ _ _ _ _ _ _ _ _, fdLeaf _ _ _ _ _ _ _ _ _, fdLeaf _ _ _ _ _ _ _ _ _, trivial⟩ ho rfl (by decide) (by have := hxs.size; omega)
theorem sEndQuorumEpochRequest (w : World) : Does X.P 20 #[] w fun r w' => Msg w' (fun k => w.heap.size ≤ k) r dEndQuorumEpochRequest 1 ∧ Ext nob w w' := by
  have hx0 : Ext nob w w := Ext.refl _ _
  refine Does.go (X := X) (l := []) Tryz.func20 rfl (by kernel_rfl) (by kernel_rfl) _ rfl ?_
  ((conv=>whnf);repeat(first|(refine mvT ?_;conv=>whnf)|(refine mvF ?_;conv=>whnf)|(refine cT (by rfl) ?_;conv=>whnf)|(refine cF (by rfl) ?_;conv=>whnf)))
  intro b w1 hb ho hx
  have hx0 := hx0.e0 hx
  have ho := ho
  ((conv=>whnf);repeat(first|(refine mvT ?_;conv=>whnf)|(refine mvF ?_;conv=>whnf)|(refine cT (by rfl) ?_;conv=>whnf)|(refine cF (by rfl) ?_;conv=>whnf)))
  refine Does.mono (sEndQuorumEpochRequestTopic w1) ?_
  rintro v1 wv1 ⟨hv1, hc⟩
  have hv1 := hv1.mono (F' := fun k => w.heap.size ≤ k ∧ b < k) fun k _ h => ⟨Nat.le_trans hx0.size h, Nat.lt_of_lt_of_le ho.lt h⟩
  obtain ⟨lv1, gv1, _⟩ := id hv1
  obtain ⟨av1, kv1, rfl, _⟩ := gv1.view
  ((conv=>whnf);repeat(first|(refine mvT ?_;conv=>whnf)|(refine mvF ?_;conv=>whnf)|(refine cT (by rfl) ?_;conv=>whnf)|(refine cF (by rfl) ?_;conv=>whnf)))
  have hx0 := hx0.e0 hc
  have ho := ho.e0 hc
  refine Does.mono (sEndQuorumEpochRequestLeaderEndpoint wv1) ?_
  rintro v2 wv2 ⟨hv2, hc⟩
  have hv2 := hv2.mono (F' := fun k => w.heap.size ≤ k ∧ b < k) fun k _ h => ⟨Nat.le_trans hx0.size h, Nat.lt_of_lt_of_le ho.lt h⟩
  obtain ⟨lv2, gv2, _⟩ := id hv2
  obtain ⟨av2, kv2, rfl, _⟩ := gv2.view
  ((conv=>whnf);repeat(first|(refine mvT ?_;conv=>whnf)|(refine mvF ?_;conv=>whnf)|(refine cT (by rfl) ?_;conv=>whnf)|(refine cF (by rfl) ?_;conv=>whnf)))
  have hv1 := hv1.e0 hc
  have hx0 := hx0.e0 hc
  have ho := ho.e0 hc
  have hxs := hx0
  intro b2 w2 hb2 ho2 hx2
  ((conv=>whnf);repeat(first|(refine mvT ?_;conv=>whnf)|(refine mvF ?_;conv=>whnf)|(refine cT (by rfl) ?_;conv=>whnf)|(refine cF (by rfl) ?_;conv=>whnf)))
  have hx0 := hx0.e0 hx2
  refine ⟨_, _, ho.e0 hx2, rfl, rfl, rfl, ?_⟩
  intro w3 ho3 hx3
  have hx03 := hx0.st hx3 hb
  ((conv=>whnf);repeat(first|(refine mvT ?_;conv=>whnf)|(refine mvF ?_;conv=>whnf)|(refine cT (by rfl) ?_;conv=>whnf)|(refine cF (by rfl) ?_;conv=>whnf)))
  refine ⟨_, rfl, ho3.cells, ?_⟩
  refine ⟨⟨_, rfl, ?_⟩, hx03⟩
  have ho2 := ho2.ext hx3 (by have := ho.lt; omega)
  have hs := hx0.size
  have hs2 : w.heap.size ≤ b2 := Nat.le_trans hxs.size hb2
  exact FdL.fds (cs := [[.int .i64 8, .int .i64 0, .int .i64 (-1), .int .i64 0, .int .i64 (-1), .int .i64 0, .int .i64 0, .slice none 0 0], [.int .i64 11, .int .i64 0, .int .i64 (-1), .int .i64 (-1), .int .i64 (-1), .int .i64 0, .int .i64 10, .slice av1 lv1.length kv1], [.int .i64 11, .int .i64 1, .int .i64 (-1), .int .i64 (-1), .int .i64 (-1), .int .i64 0, .int .i64 10, .slice av2 lv2.length kv2]])
    ⟨fdLeaf _ _ _ _ _ _ _ _ _, FdC.of (FdsR.mono (FdsR.ext (FdsR.e0 hv1 hx2) hx3 fun k _ h1 h2 => by omega) fun k _ h => h.1) _ _ _ _ _ _ _, FdC.of (FdsR.mono (FdsR.ext (FdsR.e0 hv2 hx2) hx3 fun k _ h1 h2 => by omega) fun k _ h => h.1) _ _ _ _ _ _ _, trivial⟩ ho2 rfl (by decide) (by omega)
def rEndQuorumEpochRequestTopicPartitionPreferredCandidate (w : World) (F : Nat → Prop) (cs : List Value) (t : T) : Prop := ∃ u1_0 u1_1 u1_2 u1_3 u1_4 u1_5 u1_6 u1_7 u1_8 u1_9 u1_10 u1_11 u1_12 u1_13 u1_14 u1_15 m, cs = [.int .i32 (IntKind.i32.wrap (atT t 0).n), bcell u1_0, bcell u1_1, bcell u1_2, bcell u1_3, bcell u1_4, bcell u1_5, bcell u1_6, bcell u1_7, bcell u1_8, bcell u1_9, bcell u1_10, bcell u1_11, bcell u1_12, bcell u1_13, bcell u1_14, bcell u1_15, m] ∧ uuidB (atT t 1).s = [u1_0, u1_1, u1_2, u1_3, u1_4, u1_5, u1_6, u1_7, u1_8, u1_9, u1_10, u1_11, u1_12, u1_13, u1_14, u1_15] ∧ TagsR w F m t.u
theorem rEndQuorumEpochRequestTopicPartitionPreferredCandidate_ext {M F : Nat → Prop} {w w' : World} {cs : List Value} {t : T} (h : rEndQuorumEpochRequestTopicPartitionPreferredCandidate w F cs t) (x : Ext M w w') (hF : ∀ k, k < w.heap.size → F k → ¬ M k) : rEndQuorumEpochRequestTopicPartitionPreferredCandidate w' F cs t := by
  obtain ⟨u1_0, u1_1, u1_2, u1_3, u1_4, u1_5, u1_6, u1_7, u1_8, u1_9, u1_10, u1_11, u1_12, u1_13, u1_14, u1_15, m, rfl, h1, hm⟩ := h
  exact ⟨u1_0, u1_1, u1_2, u1_3, u1_4, u1_5, u1_6, u1_7, u1_8, u1_9, u1_10, u1_11, u1_12, u1_13, u1_14, u1_15, m, rfl, h1, hm.ext x hF⟩
theorem rEndQuorumEpochRequestTopicPartitionPreferredCandidate_mono {F F' : Nat → Prop} {w : World} {cs : List Value} {t : T} (h : rEndQuorumEpochRequestTopicPartitionPreferredCandidate w F cs t) (hF : ∀ k, k < w.heap.size → F k → F' k) : rEndQuorumEpochRequestTopicPartitionPreferredCandidate w F' cs t := by
  obtain ⟨u1_0, u1_1, u1_2, u1_3, u1_4, u1_5, u1_6, u1_7, u1_8, u1_9, u1_10, u1_11, u1_12, u1_13, u1_14, u1_15, m, rfl, h1, hm⟩ := h
  exact ⟨u1_0, u1_1, u1_2, u1_3, u1_4, u1_5, u1_6, u1_7, u1_8, u1_9, u1_10, u1_11, u1_12, u1_13, u1_14, u1_15, m, rfl, h1, hm.mono hF⟩
theorem rEndQuorumEpochRequestTopicPartitionPreferredCandidate_len {F : Nat → Prop} {w : World} {cs : List Value} {t : T} (h : rEndQuorumEpochRequestTopicPartitionPreferredCandidate w F cs t) : cs.length = 18 := by
  obtain ⟨u1_0, u1_1, u1_2, u1_3, u1_4, u1_5, u1_6, u1_7, u1_8, u1_9, u1_10, u1_11, u1_12, u1_13, u1_14, u1_15, m, rfl, h1, hm⟩ := h
  rfl
def rEndQuorumEpochRequestTopicPartition (w : World) (F : Nat → Prop) (cs : List Value) (t : T) : Prop := ∃ c3 c4 m, cs = [.int .i32 (IntKind.i32.wrap (atT t 0).n), .int .i32 (IntKind.i32.wrap (atT t 1).n), .int .i32 (IntKind.i32.wrap (atT t 2).n), c3, c4, m] ∧ ListR true 1 (fun c x => c = [.int .i32 (IntKind.i32.wrap x.n)]) w F c3 (atT t 3) ∧ ListR true 18 (rEndQuorumEpochRequestTopicPartitionPreferredCandidate w F) w F c4 (atT t 4) ∧ TagsR w F m t.u
theorem rEndQuorumEpochRequestTopicPartition_ext {M F : Nat → Prop} {w w' : World} {cs : List Value} {t : T} (h : rEndQuorumEpochRequestTopicPartition w F cs t) (x : Ext M w w') (hF : ∀ k, k < w.heap.size → F k → ¬ M k) : rEndQuorumEpochRequestTopicPartition w' F cs t := by
  obtain ⟨c3, c4, m, rfl, h3, h4, hm⟩ := h
  exact ⟨c3, c4, m, rfl, h3.ext x hF (fun _ _ h => h), h4.ext x hF (fun _ _ h => rEndQuorumEpochRequestTopicPartitionPreferredCandidate_ext h x hF), hm.ext x hF⟩
theorem rEndQuorumEpochRequestTopicPartition_mono {F F' : Nat → Prop} {w : World} {cs : List Value} {t : T} (h : rEndQuorumEpochRequestTopicPartition w F cs t) (hF : ∀ k, k < w.heap.size → F k → F' k) : rEndQuorumEpochRequestTopicPartition w F' cs t := by
  obtain ⟨c3, c4, m, rfl, h3, h4, hm⟩ := h
  exact ⟨c3, c4, m, rfl, h3.mono hF (fun _ _ h => h), h4.mono hF (fun _ _ h => rEndQuorumEpochRequestTopicPartitionPreferredCandidate_mono h hF), hm.mono hF⟩
theorem rEndQuorumEpochRequestTopicPartition_len {F : Nat → Prop} {w : World} {cs : List Value} {t : T} (h : rEndQuorumEpochRequestTopicPartition w F cs t) : cs.length = 6 := by
  obtain ⟨c3, c4, m, rfl, h3, h4, hm⟩ := h
  rfl
def rEndQuorumEpochRequestTopic (w : World) (F : Nat → Prop) (cs : List Value) (t : T) : Prop := ∃ c1 m, cs = [str (atT t 0).s, c1, m] ∧ ListR true 6 (rEndQuorumEpochRequestTopicPartition w F) w F c1 (atT t 1) ∧ TagsR w F m t.u
theorem rEndQuorumEpochRequestTopic_ext {M F : Nat → Prop} {w w' : World} {cs : List Value} {t : T} (h : rEndQuorumEpochRequestTopic w F cs t) (x : Ext M w w') (hF : ∀ k, k < w.heap.size → F k → ¬ M k) : rEndQuorumEpochRequestTopic w' F cs t := by
  obtain ⟨c1, m, rfl, h1, hm⟩ := h
  exact ⟨c1, m, rfl, h1.ext x hF (fun _ _ h => rEndQuorumEpochRequestTopicPartition_ext h x hF), hm.ext x hF⟩
theorem rEndQuorumEpochRequestTopic_mono {F F' : Nat → Prop} {w : World} {cs : List Value} {t : T} (h : rEndQuorumEpochRequestTopic w F cs t) (hF : ∀ k, k < w.heap.size → F k → F' k) : rEndQuorumEpochRequestTopic w F' cs t := by
  obtain ⟨c1, m, rfl, h1, hm⟩ := h
  exact ⟨c1, m, rfl, h1.mono hF (fun _ _ h => rEndQuorumEpochRequestTopicPartition_mono h hF), hm.mono hF⟩
theorem rEndQuorumEpochRequestTopic_len {F : Nat → Prop} {w : World} {cs : List Value} {t : T} (h : rEndQuorumEpochRequestTopic w F cs t) : cs.length = 3 := by
  obtain ⟨c1, m, rfl, h1, hm⟩ := h
  rfl
def rEndQuorumEpochRequestLeaderEndpoint (w : World) (F : Nat → Prop) (cs : List Value) (t : T) : Prop := ∃ m, cs = [str (atT t 0).s, str (atT t 1).s, .int .u16 (IntKind.u16.wrap (atT t 2).n), m] ∧ TagsR w F m t.u
theorem rEndQuorumEpochRequestLeaderEndpoint_ext {M F : Nat → Prop} {w w' : World} {cs : List Value} {t : T} (h : rEndQuorumEpochRequestLeaderEndpoint w F cs t) (x : Ext M w w') (hF : ∀ k, k < w.heap.size → F k → ¬ M k) : rEndQuorumEpochRequestLeaderEndpoint w' F cs t := by
  obtain ⟨m, rfl, hm⟩ := h
  exact ⟨m, rfl, hm.ext x hF⟩
theorem rEndQuorumEpochRequestLeaderEndpoint_mono {F F' : Nat → Prop} {w : World} {cs : List Value} {t : T} (h : rEndQuorumEpochRequestLeaderEndpoint w F cs t) (hF : ∀ k, k < w.heap.size → F k → F' k) : rEndQuorumEpochRequestLeaderEndpoint w F' cs t := by
  obtain ⟨m, rfl, hm⟩ := h
  exact ⟨m, rfl, hm.mono hF⟩
theorem rEndQuorumEpochRequestLeaderEndpoint_len {F : Nat → Prop} {w : World} {cs : List Value} {t : T} (h : rEndQuorumEpochRequestLeaderEndpoint w F cs t) : cs.length = 4 := by
  obtain ⟨m, rfl, hm⟩ := h
  rfl
theorem makeEndQuorumEpochRequestTopicPartitionPreferredCandidate {F : Nat → Prop} {w0 : World} {u : Int} {x : Value} {t : T} (ht : Tr w0 F x t) (hok : partOK 6 u dEndQuorumEpochRequestTopicPartitionPreferredCandidate t) :
    Does X.P 121 #[x] w0 fun r w' => ∃ cs : List Value, r = .agg cs.toArray ∧ okCells cs = true ∧ rEndQuorumEpochRequestTopicPartitionPreferredCandidate w' (fun k => F k ∨ w0.heap.size ≤ k) cs t ∧ Ext nob w0 w' := by
  obtain ⟨R0, hR0, hRF, ht0⟩ : ∃ R0 : Nat → Prop, (∀ k, R0 k → k < w0.heap.size) ∧ (∀ k, R0 k → F k) ∧ Tr w0 R0 x t := ⟨fun k => k < w0.heap.size ∧ F k, fun k h => h.1, fun k h => h.2, ht.mono fun k h1 h2 => ⟨h1, h2⟩⟩
  clear ht
  obtain ⟨sv, lv, uv, ls, rfl, hn, hs, hl, hels, htg⟩ := ht0.open
  obtain ⟨us, hus, husl, huc⟩ := id htg
  obtain ⟨au, cu, rfl, husc, husm, husF, _, husC⟩ := hus.view
  refine Does.go (X := X) (l := [_]) Tryz.func121 rfl (by kernel_rfl) (by kernel_rfl) _ rfl ?_
  ((conv=>whnf);repeat(first|(refine mvT ?_;conv=>whnf)|(refine mvF ?_;conv=>whnf)|(refine cT (by rfl) ?_;conv=>whnf)|(refine cF (by rfl) ?_;conv=>whnf)))
  intro b wb hb ho hx
  ((conv=>whnf);repeat(first|(refine mvT ?_;conv=>whnf)|(refine mvF ?_;conv=>whnf)|(refine cT (by rfl) ?_;conv=>whnf)|(refine cF (by rfl) ?_;conv=>whnf)))
  intro q wq hqb hoq hxq
  ((conv=>whnf);repeat(first|(refine mvT ?_;conv=>whnf)|(refine mvF ?_;conv=>whnf)|(refine cT (by rfl) ?_;conv=>whnf)|(refine cF (by rfl) ?_;conv=>whnf)))
  intro p wc hpB hp hxp
  have hbl := ho.lt
  have hql := hoq.lt
  have hs1 := hx.size
  have hs2 := hxq.size
  have hpb : p ≠ b := by omega
  have hpq : p ≠ q := by omega
  have hwp : w0.heap.size ≤ p := by omega
  have hR0 : ∀ k, R0 k → k < w0.heap.size ∧ k ≠ p := fun k h => ⟨hR0 k h, by have := hR0 k h; omega⟩
  obtain ⟨ty, hp⟩ : ∃ T, Own wc p T [.int .i32 0, .int .u8 0, .int .u8 0, .int .u8 0, .int .u8 0, .int .u8 0, .int .u8 0, .int .u8 0, .int .u8 0, .int .u8 0, .int .u8 0, .int .u8 0, .int .u8 0, .int .u8 0, .int .u8 0, .int .u8 0, .int .u8 0, .map none] := ⟨_, hp⟩
  have ho : Own wc b ImplTreeT [.int .i64 t.n, sv, .bool t.nl, lv, .slice au us.length cu] := (ho.e0 hxq).e0 hxp
  have hoq := hoq.e0 hxp
  obtain ⟨qT, qL, hqlen, hoq⟩ : ∃ T L, L.length = 18 ∧ Own wc q T L := ⟨_, _, rfl, hoq⟩
  have hx0 : Ext (fun k => k = p) w0 wc := ((hx.e0 hxq).e0 hxp).mono fun _ _ f => f.elim
  ((conv=>whnf);repeat(first|(refine mvT ?_;conv=>whnf)|(refine mvF ?_;conv=>whnf)|(refine cT (by rfl) ?_;conv=>whnf)|(refine cF (by rfl) ?_;conv=>whnf)))
  refine ⟨_, rfl, ho.cells, ?_⟩
  ((conv=>whnf);repeat(first|(refine mvT ?_;conv=>whnf)|(refine mvF ?_;conv=>whnf)|(refine cT (by rfl) ?_;conv=>whnf)|(refine cF (by rfl) ?_;conv=>whnf)))
  refine Does.mono (iat_does (ht0.ext hx0 fun k _ h => (hR0 k h).2) 0) ?_
  rintro ra wa ⟨hra, hxa⟩
  obtain ⟨sva, lva, uva, lsa, rfl, hna, hsa, hla, helsa, hua⟩ := hra.open
  ((conv=>whnf);repeat(first|(refine mvT ?_;conv=>whnf)|(refine mvF ?_;conv=>whnf)|(refine cT (by rfl) ?_;conv=>whnf)|(refine cF (by rfl) ?_;conv=>whnf)))
  refine st_cell (o := 0) (v := .int .i32 (IntKind.i32.wrap (atT t 0).n)) (hp.e0 hxa) (rfl) (by omega) rfl (by simp) (rfl) ?_
  intro wc hoc hxc
  have hp : Own wc p ty [.int .i32 (IntKind.i32.wrap (atT t 0).n), .int .u8 0, .int .u8 0, .int .u8 0, .int .u8 0, .int .u8 0, .int .u8 0, .int .u8 0, .int .u8 0, .int .u8 0, .int .u8 0, .int .u8 0, .int .u8 0, .int .u8 0, .int .u8 0, .int .u8 0, .int .u8 0, .map none] := hoc
  have ho := (ho.e0 hxa).ext hxc (Ne.symm hpb)
  have hx0 := (hx0.tr0 hxa).trans hxc fun _ _ h => h
  have hoq := (hoq.e0 hxa).ext hxc (Ne.symm hpq)
  ((conv=>whnf);repeat(first|(refine mvT ?_;conv=>whnf)|(refine mvF ?_;conv=>whnf)|(refine cT (by rfl) ?_;conv=>whnf)|(refine cF (by rfl) ?_;conv=>whnf)))
  refine ⟨_, rfl, ho.cells, ?_⟩
  ((conv=>whnf);repeat(first|(refine mvT ?_;conv=>whnf)|(refine mvF ?_;conv=>whnf)|(refine cT (by rfl) ?_;conv=>whnf)|(refine cF (by rfl) ?_;conv=>whnf)))
  refine Does.mono (iat_does (ht0.ext hx0 fun k _ h => (hR0 k h).2) 1) ?_
  rintro ra wa ⟨hra, hxa⟩
  obtain ⟨sva, lva, uva, lsa, rfl, hna, hsa, hla, helsa, hua⟩ := hra.open
  ((conv=>whnf);repeat(first|(refine mvT ?_;conv=>whnf)|(refine mvF ?_;conv=>whnf)|(refine cT (by rfl) ?_;conv=>whnf)|(refine cF (by rfl) ?_;conv=>whnf)))
  refine Does.mono (sixteen_does hsa) ?_
  rintro rb wb ⟨hrb, hxb⟩
  obtain ⟨u1_0, u1_1, u1_2, u1_3, u1_4, u1_5, u1_6, u1_7, u1_8, u1_9, u1_10, u1_11, u1_12, u1_13, u1_14, u1_15, hc1⟩ := uuid_lit (atT t 1).s
  rw [hc1] at hrb
  subst hrb
  have hxa := hxa.e0 hxb
  ((conv=>whnf);repeat(first|(refine mvT ?_;conv=>whnf)|(refine mvF ?_;conv=>whnf)|(refine cT (by rfl) ?_;conv=>whnf)|(refine cF (by rfl) ?_;conv=>whnf)))
  refine ⟨_, _, hp.e0 hxa, rfl, rfl, rfl, ?_⟩
  intro wc hoc hxc
  have hp : Own wc p ty [.int .i32 (IntKind.i32.wrap (atT t 0).n), bcell u1_0, bcell u1_1, bcell u1_2, bcell u1_3, bcell u1_4, bcell u1_5, bcell u1_6, bcell u1_7, bcell u1_8, bcell u1_9, bcell u1_10, bcell u1_11, bcell u1_12, bcell u1_13, bcell u1_14, bcell u1_15, .map none] := hoc
  have ho := (ho.e0 hxa).ext hxc (Ne.symm hpb)
  have hx0 := (hx0.tr0 hxa).trans hxc fun _ _ h => h
  have hoq := (hoq.e0 hxa).ext hxc (Ne.symm hpq)
  ((conv=>whnf);repeat(first|(refine mvT ?_;conv=>whnf)|(refine mvF ?_;conv=>whnf)|(refine cT (by rfl) ?_;conv=>whnf)|(refine cF (by rfl) ?_;conv=>whnf)))
  refine ldS (ho.cell rfl) ?_;((conv=>whnf);repeat(first|(refine mvT ?_;conv=>whnf)|(refine mvF ?_;conv=>whnf)|(refine cT (by rfl) ?_;conv=>whnf)|(refine cF (by rfl) ?_;conv=>whnf)))
  have hpN := hp.lt
  have h0N := hx0.size
  refine VL.loop (fun s : Nat × Value => [(1, .pointer (some ⟨b, 0, none⟩)), (2, .pointer (some ⟨q, 0, none⟩)), (3, .pointer (some ⟨p, 0, none⟩)), (17, .slice au us.length cu), (18, .int .i64 us.length), (19, .int .i64 s.1)])
    (fun s w' => (Ext (fun k => k = p) w0 w' ∧ Ext (fun k => k = p ∨ wc.heap.size ≤ k) wc w' ∧ s.1 ≤ us.length) ∧ Own w' p ty [.int .i32 (IntKind.i32.wrap (atT t 0).n), bcell u1_0, bcell u1_1, bcell u1_2, bcell u1_3, bcell u1_4, bcell u1_5, bcell u1_6, bcell u1_7, bcell u1_8, bcell u1_9, bcell u1_10, bcell u1_11, bcell u1_12, bcell u1_13, bcell u1_14, bcell u1_15, s.2] ∧ TagsO w' wc.heap.size R0 s.2 (t.u.take s.1)) (fun s => us.length - s.1) (0, .map none)
    ⟨rfl, rfl, rfl, rfl, rfl, rfl, trivial⟩ ⟨⟨hx0, Ext.refl _ _, Nat.zero_le _⟩, hp, TagsO.nil _ _ _⟩ ?_
  rintro ⟨i, m⟩ w9 ⟨⟨hx09, hxc9, hi⟩, hp9, hm9⟩
  dsimp only at hi hp9 hm9
  ((conv=>whnf);repeat(first|(refine mvT ?_;conv=>whnf)|(refine mvF ?_;conv=>whnf)|(refine cT (by rfl) ?_;conv=>whnf)|(refine cF (by rfl) ?_;conv=>whnf)))
  refine cI (by rfl) (fun h9=>?_) (fun h9=>?_)
  · have hil : i < us.length := by have := of_decide_eq_true h9; simp only at this; omega
    have hilu : i < t.u.length := by omega
    obtain ⟨hkey, bv, hci, hbv⟩ := huc i us[i] t.u[i] (by simp [hil]) (by simp [hilu])
    obtain ⟨b10, o10, rfl, hc10⟩ := husC i us[i] (by simp [hil])
    have hb10 := husF b10 o10 rfl (by omega)
    rw [hci] at hc10
    obtain ⟨av, cv, rfl, _⟩ := hbv.view
    have hc10 := hc10.ext hx09 (hR0 _ hb10.1).2
    have hbv9 := hbv.ext hx09 fun k _ h => (hR0 k h).2
    ((conv=>whnf);repeat(first|(refine mvT ?_;conv=>whnf)|(refine mvF ?_;conv=>whnf)|(refine cT (by rfl) ?_;conv=>whnf)|(refine cF (by rfl) ?_;conv=>whnf)))
    refine ⟨b10, o10, rfl, ⟨by omega, by omega⟩, ?_⟩
    ((conv=>whnf);repeat(first|(refine mvT ?_;conv=>whnf)|(refine mvF ?_;conv=>whnf)|(refine cT (by rfl) ?_;conv=>whnf)|(refine cF (by rfl) ?_;conv=>whnf)))
    refine ⟨_, rfl, by rw [Int.toNat_natCast]; exact hc10, ?_⟩
    ((conv=>whnf);repeat(first|(refine mvT ?_;conv=>whnf)|(refine mvF ?_;conv=>whnf)|(refine cT (by rfl) ?_;conv=>whnf)|(refine cF (by rfl) ?_;conv=>whnf)))
    intro b11 w11 hb11 ho11 hx11
    ((conv=>whnf);repeat(first|(refine mvT ?_;conv=>whnf)|(refine mvF ?_;conv=>whnf)|(refine cT (by rfl) ?_;conv=>whnf)|(refine cF (by rfl) ?_;conv=>whnf)))
    refine st_all [.int .u32 (t.u[i].1 : Int), .slice av (t.u[i]).2.length cv] ho11 rfl rfl rfl ?_
    intro w12 ho12 hx12
    have hx912 : Ext nob w9 w12 := (hx11.st hx12 hb11)
    ((conv=>whnf);repeat(first|(refine mvT ?_;conv=>whnf)|(refine mvF ?_;conv=>whnf)|(refine cT (by rfl) ?_;conv=>whnf)|(refine cF (by rfl) ?_;conv=>whnf)))
    refine ldS (ho12.cell rfl) ?_;((conv=>whnf);repeat(first|(refine mvT ?_;conv=>whnf)|(refine mvF ?_;conv=>whnf)|(refine cT (by rfl) ?_;conv=>whnf)|(refine cF (by rfl) ?_;conv=>whnf)))
    refine ldS (ho12.cell rfl) ?_;((conv=>whnf);repeat(first|(refine mvT ?_;conv=>whnf)|(refine mvF ?_;conv=>whnf)|(refine cT (by rfl) ?_;conv=>whnf)|(refine cF (by rfl) ?_;conv=>whnf)))
    have hnew : ∀ x, x ∈ t.u.take i → x.1 ≠ (t.u[i]).1 := by
      intro x hx
      obtain ⟨j, hj, rfl⟩ := List.mem_take_iff_getElem.1 hx
      have := List.pairwise_iff_getElem.1 hok.2.rise j i (by omega) hilu (by omega)
      omega
    refine Does.mono (Tags_Set_does (o := 17) (N := wc.heap.size) (hp9.e0 hx912) rfl (hm9.e0 hx912) (Nat.le_trans hxc9.size hx912.size) hpN (fun k h => ⟨by have := (hR0 k h).1; omega, (hR0 k h).2⟩) (hbv9.e0 hx912) hnew) ?_
    rintro r13 w13 ⟨m13, hone, hp13, hm13, hx13⟩
    ((conv=>whnf);repeat(first|(refine mvT ?_;conv=>whnf)|(refine mvF ?_;conv=>whnf)|(refine cT (by rfl) ?_;conv=>whnf)|(refine cF (by rfl) ?_;conv=>whnf)))
    have hx913 : Ext (fun k => k = p ∨ wc.heap.size ≤ k) w9 w13 := (hx912.mono fun _ _ f => f.elim).trans hx13 fun _ _ h => h
    refine ⟨(i + 1, m13), ⟨rfl, rfl, rfl, rfl, rfl, inc_eq (by rw [maxLen_eq] at husm; omega), trivial⟩, ⟨⟨hx09.trans hx913 fun k hk h => by omega, hxc9.trans hx913 fun _ _ h => h, by simp only; omega⟩, hp13, ?_⟩, by simp only; omega⟩
    rw [List.take_succ_eq_append_getElem hilu]
    exact hm13
  have hil : i = us.length := by have := of_decide_eq_false h9; simp only at this; omega
  ((conv=>whnf);repeat(first|(refine mvT ?_;conv=>whnf)|(refine mvF ?_;conv=>whnf)|(refine cT (by rfl) ?_;conv=>whnf)|(refine cF (by rfl) ?_;conv=>whnf)))
  rw [hil, husl, List.take_length] at hm9
  refine ⟨_, rfl, hp9.cells, ?_⟩
  ((conv=>whnf);repeat(first|(refine mvT ?_;conv=>whnf)|(refine mvF ?_;conv=>whnf)|(refine cT (by rfl) ?_;conv=>whnf)|(refine cF (by rfl) ?_;conv=>whnf)))
  have hoq9 := hoq.ext hxc9 (by have := hoq.lt; omega)
  have hokc : okCells [.int .i32 (IntKind.i32.wrap (atT t 0).n), bcell u1_0, bcell u1_1, bcell u1_2, bcell u1_3, bcell u1_4, bcell u1_5, bcell u1_6, bcell u1_7, bcell u1_8, bcell u1_9, bcell u1_10, bcell u1_11, bcell u1_12, bcell u1_13, bcell u1_14, bcell u1_15, m] = true := ok_cons rfl (ok_cons rfl (ok_cons rfl (ok_cons rfl (ok_cons rfl (ok_cons rfl (ok_cons rfl (ok_cons rfl (ok_cons rfl (ok_cons rfl (ok_cons rfl (ok_cons rfl (ok_cons rfl (ok_cons rfl (ok_cons rfl (ok_cons rfl (ok_cons rfl (ok_cons hm9.tags.one (ok_nil))))))))))))))))))
  refine st_all [.int .i32 (IntKind.i32.wrap (atT t 0).n), bcell u1_0, bcell u1_1, bcell u1_2, bcell u1_3, bcell u1_4, bcell u1_5, bcell u1_6, bcell u1_7, bcell u1_8, bcell u1_9, bcell u1_10, bcell u1_11, bcell u1_12, bcell u1_13, bcell u1_14, bcell u1_15, m] hoq9 rfl hqlen hokc ?_
  intro we hoe hxe
  ((conv=>whnf);repeat(first|(refine mvT ?_;conv=>whnf)|(refine mvF ?_;conv=>whnf)|(refine cT (by rfl) ?_;conv=>whnf)|(refine cF (by rfl) ?_;conv=>whnf)))
  refine ⟨_, rfl, hoe.cells, ?_⟩
  have hxn : Ext nob w0 w9 := (Ext.refl nob w0).trans hx09 fun k hk e => by omega
  exact ⟨_, rfl, hokc, ⟨u1_0, u1_1, u1_2, u1_3, u1_4, u1_5, u1_6, u1_7, u1_8, u1_9, u1_10, u1_11, u1_12, u1_13, u1_14, u1_15, m, rfl, hc1, (hm9.tags.ext hxe (fun k _ h e => by rcases h with h | h; (have := (hR0 k h).1; omega); omega)).mono fun k _ h => h.imp (hRF k) (fun h => by omega)⟩, hxn.trans hxe fun k hk e => by omega⟩
theorem makeEndQuorumEpochRequestTopicPartition {F : Nat → Prop} {w0 : World} {u : Int} {x : Value} {t : T} (ht : Tr w0 F x t) (hok : partOK 7 u dEndQuorumEpochRequestTopicPartition t) :
    Does X.P 112 #[x] w0 fun r w' => ∃ cs : List Value, r = .agg cs.toArray ∧ okCells cs = true ∧ rEndQuorumEpochRequestTopicPartition w' (fun k => F k ∨ w0.heap.size ≤ k) cs t ∧ Ext nob w0 w' := by
  obtain ⟨R0, hR0, hRF, ht0⟩ : ∃ R0 : Nat → Prop, (∀ k, R0 k → k < w0.heap.size) ∧ (∀ k, R0 k → F k) ∧ Tr w0 R0 x t := ⟨fun k => k < w0.heap.size ∧ F k, fun k h => h.1, fun k h => h.2, ht.mono fun k h1 h2 => ⟨h1, h2⟩⟩
  clear ht
  obtain ⟨sv, lv, uv, ls, rfl, hn, hs, hl, hels, htg⟩ := ht0.open
  obtain ⟨us, hus, husl, huc⟩ := id htg
  obtain ⟨au, cu, rfl, husc, husm, husF, _, husC⟩ := hus.view
  refine Does.go (X := X) (l := [_]) Tryz.func112 rfl (by kernel_rfl) (by kernel_rfl) _ rfl ?_
  ((conv=>whnf);repeat(first|(refine mvT ?_;conv=>whnf)|(refine mvF ?_;conv=>whnf)|(refine cT (by rfl) ?_;conv=>whnf)|(refine cF (by rfl) ?_;conv=>whnf)))
  intro b wb hb ho hx
  ((conv=>whnf);repeat(first|(refine mvT ?_;conv=>whnf)|(refine mvF ?_;conv=>whnf)|(refine cT (by rfl) ?_;conv=>whnf)|(refine cF (by rfl) ?_;conv=>whnf)))
  intro q wq hqb hoq hxq
  ((conv=>whnf);repeat(first|(refine mvT ?_;conv=>whnf)|(refine mvF ?_;conv=>whnf)|(refine cT (by rfl) ?_;conv=>whnf)|(refine cF (by rfl) ?_;conv=>whnf)))
  intro p wc hpB hp hxp
  have hbl := ho.lt
  have hql := hoq.lt
  have hs1 := hx.size
  have hs2 := hxq.size
  have hpb : p ≠ b := by omega
  have hpq : p ≠ q := by omega
  have hwp : w0.heap.size ≤ p := by omega
  have hR0 : ∀ k, R0 k → k < w0.heap.size ∧ k ≠ p := fun k h => ⟨hR0 k h, by have := hR0 k h; omega⟩
  obtain ⟨ty, hp⟩ : ∃ T, Own wc p T [.int .i32 0, .int .i32 0, .int .i32 0, .slice none 0 0, .slice none 0 0, .map none] := ⟨_, hp⟩
  have ho : Own wc b ImplTreeT [.int .i64 t.n, sv, .bool t.nl, lv, .slice au us.length cu] := (ho.e0 hxq).e0 hxp
  have hoq := hoq.e0 hxp
  obtain ⟨qT, qL, hqlen, hoq⟩ : ∃ T L, L.length = 6 ∧ Own wc q T L := ⟨_, _, rfl, hoq⟩
  have hx0 : Ext (fun k => k = p) w0 wc := ((hx.e0 hxq).e0 hxp).mono fun _ _ f => f.elim
  ((conv=>whnf);repeat(first|(refine mvT ?_;conv=>whnf)|(refine mvF ?_;conv=>whnf)|(refine cT (by rfl) ?_;conv=>whnf)|(refine cF (by rfl) ?_;conv=>whnf)))
  refine ⟨_, rfl, ho.cells, ?_⟩
  ((conv=>whnf);repeat(first|(refine mvT ?_;conv=>whnf)|(refine mvF ?_;conv=>whnf)|(refine cT (by rfl) ?_;conv=>whnf)|(refine cF (by rfl) ?_;conv=>whnf)))
  refine Does.mono (iat_does (ht0.ext hx0 fun k _ h => (hR0 k h).2) 0) ?_
  rintro ra wa ⟨hra, hxa⟩
  obtain ⟨sva, lva, uva, lsa, rfl, hna, hsa, hla, helsa, hua⟩ := hra.open
  ((conv=>whnf);repeat(first|(refine mvT ?_;conv=>whnf)|(refine mvF ?_;conv=>whnf)|(refine cT (by rfl) ?_;conv=>whnf)|(refine cF (by rfl) ?_;conv=>whnf)))
  refine st_cell (o := 0) (v := .int .i32 (IntKind.i32.wrap (atT t 0).n)) (hp.e0 hxa) (rfl) (by omega) rfl (by simp) (rfl) ?_
  intro wc hoc hxc
  have hp : Own wc p ty [.int .i32 (IntKind.i32.wrap (atT t 0).n), .int .i32 0, .int .i32 0, .slice none 0 0, .slice none 0 0, .map none] := hoc
  have ho := (ho.e0 hxa).ext hxc (Ne.symm hpb)
  have hx0 := (hx0.tr0 hxa).trans hxc fun _ _ h => h
  have hoq := (hoq.e0 hxa).ext hxc (Ne.symm hpq)
  ((conv=>whnf);repeat(first|(refine mvT ?_;conv=>whnf)|(refine mvF ?_;conv=>whnf)|(refine cT (by rfl) ?_;conv=>whnf)|(refine cF (by rfl) ?_;conv=>whnf)))
  refine ⟨_, rfl, ho.cells, ?_⟩
  ((conv=>whnf);repeat(first|(refine mvT ?_;conv=>whnf)|(refine mvF ?_;conv=>whnf)|(refine cT (by rfl) ?_;conv=>whnf)|(refine cF (by rfl) ?_;conv=>whnf)))
  refine Does.mono (iat_does (ht0.ext hx0 fun k _ h => (hR0 k h).2) 1) ?_
  rintro ra wa ⟨hra, hxa⟩
  obtain ⟨sva, lva, uva, lsa, rfl, hna, hsa, hla, helsa, hua⟩ := hra.open
  ((conv=>whnf);repeat(first|(refine mvT ?_;conv=>whnf)|(refine mvF ?_;conv=>whnf)|(refine cT (by rfl) ?_;conv=>whnf)|(refine cF (by rfl) ?_;conv=>whnf)))
  refine st_cell (o := 1) (v := .int .i32 (IntKind.i32.wrap (atT t 1).n)) (hp.e0 hxa) (rfl) (by omega) rfl (by simp) (rfl) ?_
  intro wc hoc hxc
  have hp : Own wc p ty [.int .i32 (IntKind.i32.wrap (atT t 0).n), .int .i32 (IntKind.i32.wrap (atT t 1).n), .int .i32 0, .slice none 0 0, .slice none 0 0, .map none] := hoc
  have ho := (ho.e0 hxa).ext hxc (Ne.symm hpb)
  have hx0 := (hx0.tr0 hxa).trans hxc fun _ _ h => h
  have hoq := (hoq.e0 hxa).ext hxc (Ne.symm hpq)
  ((conv=>whnf);repeat(first|(refine mvT ?_;conv=>whnf)|(refine mvF ?_;conv=>whnf)|(refine cT (by rfl) ?_;conv=>whnf)|(refine cF (by rfl) ?_;conv=>whnf)))
  refine ⟨_, rfl, ho.cells, ?_⟩
  ((conv=>whnf);repeat(first|(refine mvT ?_;conv=>whnf)|(refine mvF ?_;conv=>whnf)|(refine cT (by rfl) ?_;conv=>whnf)|(refine cF (by rfl) ?_;conv=>whnf)))
  refine Does.mono (iat_does (ht0.ext hx0 fun k _ h => (hR0 k h).2) 2) ?_
  rintro ra wa ⟨hra, hxa⟩
  obtain ⟨sva, lva, uva, lsa, rfl, hna, hsa, hla, helsa, hua⟩ := hra.open
  ((conv=>whnf);repeat(first|(refine mvT ?_;conv=>whnf)|(refine mvF ?_;conv=>whnf)|(refine cT (by rfl) ?_;conv=>whnf)|(refine cF (by rfl) ?_;conv=>whnf)))
  refine st_cell (o := 2) (v := .int .i32 (IntKind.i32.wrap (atT t 2).n)) (hp.e0 hxa) (rfl) (by omega) rfl (by simp) (rfl) ?_
  intro wc hoc hxc
  have hp : Own wc p ty [.int .i32 (IntKind.i32.wrap (atT t 0).n), .int .i32 (IntKind.i32.wrap (atT t 1).n), .int .i32 (IntKind.i32.wrap (atT t 2).n), .slice none 0 0, .slice none 0 0, .map none] := hoc
  have ho := (ho.e0 hxa).ext hxc (Ne.symm hpb)
  have hx0 := (hx0.tr0 hxa).trans hxc fun _ _ h => h
  have hoq := (hoq.e0 hxa).ext hxc (Ne.symm hpq)
  ((conv=>whnf);repeat(first|(refine mvT ?_;conv=>whnf)|(refine mvF ?_;conv=>whnf)|(refine cT (by rfl) ?_;conv=>whnf)|(refine cF (by rfl) ?_;conv=>whnf)))
  have hfl := fieldOK_list (hok.1 3 _ rfl)
  refine ⟨_, rfl, ho.cells, ?_⟩
  ((conv=>whnf);repeat(first|(refine mvT ?_;conv=>whnf)|(refine mvF ?_;conv=>whnf)|(refine cT (by rfl) ?_;conv=>whnf)|(refine cF (by rfl) ?_;conv=>whnf)))
  refine Does.mono (iat_does (ht0.ext hx0 fun k _ h => (hR0 k h).2) 3) ?_
  rintro ra wa ⟨hra, hxa⟩
  obtain ⟨sva, lva, uva, lsa, rfl, hna, hsa, hla, helsa, hua⟩ := hra.open
  ((conv=>whnf);repeat(first|(refine mvT ?_;conv=>whnf)|(refine mvF ?_;conv=>whnf)|(refine cT (by rfl) ?_;conv=>whnf)|(refine cF (by rfl) ?_;conv=>whnf)))
  refine VC.cutE (fun c : Value => [(1, .pointer (some ⟨b, 0, none⟩)), (2, .pointer (some ⟨q, 0, none⟩)), (3, .pointer (some ⟨p, 0, none⟩))]) (fun c w' => Ext (fun k => k = p) w0 w' ∧ Own w' p ty [.int .i32 (IntKind.i32.wrap (atT t 0).n), .int .i32 (IntKind.i32.wrap (atT t 1).n), .int .i32 (IntKind.i32.wrap (atT t 2).n), c, .slice none 0 0, .map none] ∧ Own w' b ImplTreeT [.int .i64 t.n, sv, .bool t.nl, lv, .slice au us.length cu] ∧ Own w' q qT qL ∧ ListR true 1 (fun c x => c = [.int .i32 (IntKind.i32.wrap x.n)]) w' (fun k => k ≠ p ∧ k ≠ q ∧ (R0 k ∨ w0.heap.size ≤ k)) c (atT t 3)) ?_ ?_
  · refine cI (by rfl) (fun hnl=>?_) (fun hnl=>?_)
    · have hnl : (atT t 3).nl = false := by simpa using hnl
      ((conv=>whnf);repeat(first|(refine mvT ?_;conv=>whnf)|(refine mvF ?_;conv=>whnf)|(refine cT (by rfl) ?_;conv=>whnf)|(refine cF (by rfl) ?_;conv=>whnf)))
      have hx1 := hx0.tr0 hxa
      refine ⟨_, rfl, (ho.e0 hxa).cells, ?_⟩
      ((conv=>whnf);repeat(first|(refine mvT ?_;conv=>whnf)|(refine mvF ?_;conv=>whnf)|(refine cT (by rfl) ?_;conv=>whnf)|(refine cF (by rfl) ?_;conv=>whnf)))
      refine Does.mono (iat_does (ht0.ext hx1 fun k _ h => (hR0 k h).2) 3) ?_
      rintro r5 w5 ⟨hr5, hx5⟩
      obtain ⟨sv5, lv5, uv5, ls5, rfl, hn5, hs5, hl5, hels5, hu5⟩ := hr5.open
      obtain ⟨a5, c5, rfl, _⟩ := hl5.view
      have hlen5 := hels5.len
      ((conv=>whnf);repeat(first|(refine mvT ?_;conv=>whnf)|(refine mvF ?_;conv=>whnf)|(refine cT (by rfl) ?_;conv=>whnf)|(refine cF (by rfl) ?_;conv=>whnf)))
      refine ⟨⟨by omega, by omega, by omega, by simp only [Int.toNat_natCast]; omega⟩, ⟨by decide, rfl⟩, ?_⟩
      intro b6 w6 hb6 ho6 hx6
      ((conv=>whnf);repeat(first|(refine mvT ?_;conv=>whnf)|(refine mvF ?_;conv=>whnf)|(refine cT (by rfl) ?_;conv=>whnf)|(refine cF (by rfl) ?_;conv=>whnf)))
      have hx56 := (hxa.e0 hx5).e0 hx6
      have hsz5 := (hxa.e0 hx5).size
      have hszc := hx0.size
      have hb6l := ho6.lt
      have hplc := hp.lt
      have hblc := ho.lt
      refine st_cell (o := 3) (v := .slice (some ⟨b6, 0, none⟩) 0 ls5.length) (hp.e0 hx56) rfl (by omega) rfl (by simp) rfl ?_
      intro w7 ho7 hx7
      ((conv=>whnf);repeat(first|(refine mvT ?_;conv=>whnf)|(refine mvF ?_;conv=>whnf)|(refine cT (by rfl) ?_;conv=>whnf)|(refine cF (by rfl) ?_;conv=>whnf)))
      have hx7c : Ext (fun k => k = p) wc w7 := (hx56.mono fun _ _ f => f.elim).trans hx7 fun _ _ h => h
      have hx07 := hx0.trans hx7c fun _ _ h => h
      refine ⟨_, rfl, (ho.ext hx7c (Ne.symm hpb)).cells, ?_⟩
      ((conv=>whnf);repeat(first|(refine mvT ?_;conv=>whnf)|(refine mvF ?_;conv=>whnf)|(refine cT (by rfl) ?_;conv=>whnf)|(refine cF (by rfl) ?_;conv=>whnf)))
      refine Does.mono (iat_does (ht0.ext hx07 fun k _ h => (hR0 k h).2) 3) ?_
      rintro r8 w8 ⟨hr8, hx8⟩
      obtain ⟨sv8, lv8, uv8, ls8, rfl, hn8, hs8, hl8, hels8, hu8⟩ := hr8.open
      obtain ⟨a8, c8, rfl, hc8, hm8, hF8, _, hC8⟩ := hl8.view
      have hlen8 := hels8.len
      ((conv=>whnf);repeat(first|(refine mvT ?_;conv=>whnf)|(refine mvF ?_;conv=>whnf)|(refine cT (by rfl) ?_;conv=>whnf)|(refine cF (by rfl) ?_;conv=>whnf)))
      have hx8c : Ext (fun k => k = p ∨ wc.heap.size ≤ k) wc w8 := (hx7c.tr0 hx8).mono fun _ _ h => .inl h
      have hx08 := hx07.tr0 hx8
      have hos8 := (OSl.mk0 (sz := 1) (n := ls5.length) (ho6.ext hx7 (by omega)) (by simp) (by rw [maxLen_eq]; omega) (B := wc.heap.size) (by omega)).e0 hx8
      refine VL.loop (fun s : Nat × Value => [(1, .pointer (some ⟨b, 0, none⟩)), (2, .pointer (some ⟨q, 0, none⟩)), (3, .pointer (some ⟨p, 0, none⟩)), (37, .slice a8 ls8.length c8), (38, .int .i64 ls8.length), (39, .int .i64 s.1)])
        (fun s w' => (Ext (fun k => k = p) w0 w' ∧ Ext (fun k => k = p ∨ wc.heap.size ≤ k) wc w' ∧ Ext (fun k => k = p ∨ w0.heap.size ≤ k) w8 w' ∧ s.1 ≤ ls8.length ∧ s.2 ≠ .slice none 0 0) ∧ Own w' p ty [.int .i32 (IntKind.i32.wrap (atT t 0).n), .int .i32 (IntKind.i32.wrap (atT t 1).n), .int .i32 (IntKind.i32.wrap (atT t 2).n), s.2, .slice none 0 0, .map none] ∧ ∃ es : List (List Value), OSl w' wc.heap.size 21 1 s.2 es ∧ es.length = s.1 ∧ ∀ (j : Nat) (c : List Value) (x : T), es[j]? = some c → (atT t 3).l[j]? = some x → c = [.int .i32 (IntKind.i32.wrap (x).n)]) (fun s => ls8.length - s.1) (0, .slice (some ⟨b6, 0, none⟩) 0 ls5.length)
        ⟨rfl, rfl, rfl, rfl, rfl, rfl, trivial⟩ ⟨⟨hx08, hx8c, Ext.refl _ _, Nat.zero_le _, by simp⟩, ho7.e0 hx8, [], hos8, rfl, by simp⟩ ?_
      rintro ⟨i, sl⟩ w9 ⟨⟨hx09, hxc9, hx89, hi, hnn⟩, hp9, es, hos9, hesl, hesr⟩
      dsimp only at hi hp9 hos9 hesl hesr hnn
      ((conv=>whnf);repeat(first|(refine mvT ?_;conv=>whnf)|(refine mvF ?_;conv=>whnf)|(refine cT (by rfl) ?_;conv=>whnf)|(refine cF (by rfl) ?_;conv=>whnf)))
      refine cI (by rfl) (fun h9=>?_) (fun h9=>?_)
      · have hil : i < ls8.length := by have := of_decide_eq_true h9; simp only at this; omega
        have hill : i < (atT t 3).l.length := by omega
        have htr := hels8.at' i ls8[i] (atT t 3).l[i] (by simp [hil]) (by simp [hill])
        obtain ⟨b10, o10, rfl, hc10⟩ := hC8 i ls8[i] (by simp [hil])
        have hb10 := hF8 b10 o10 rfl (by omega)
        have hc10 := hc10.ext hx89 (by have := hR0 _ hb10.1; omega)
        have htr9 := htr.ext hx89 fun k _ h => by have := hR0 _ h; omega
        ((conv=>whnf);repeat(first|(refine mvT ?_;conv=>whnf)|(refine mvF ?_;conv=>whnf)|(refine cT (by rfl) ?_;conv=>whnf)|(refine cF (by rfl) ?_;conv=>whnf)))
        refine ⟨b10, o10, rfl, ⟨by omega, by omega⟩, ?_⟩
        ((conv=>whnf);repeat(first|(refine mvT ?_;conv=>whnf)|(refine mvF ?_;conv=>whnf)|(refine cT (by rfl) ?_;conv=>whnf)|(refine cF (by rfl) ?_;conv=>whnf)))
        refine ⟨ls8[i], htr.len, by rw [Int.toNat_natCast]; exact hc10, ?_⟩
        ((conv=>whnf);repeat(first|(refine mvT ?_;conv=>whnf)|(refine mvF ?_;conv=>whnf)|(refine cT (by rfl) ?_;conv=>whnf)|(refine cF (by rfl) ?_;conv=>whnf)))
        intro b11 w11 hb11 ho11 hx11
        ((conv=>whnf);repeat(first|(refine mvT ?_;conv=>whnf)|(refine mvF ?_;conv=>whnf)|(refine cT (by rfl) ?_;conv=>whnf)|(refine cF (by rfl) ?_;conv=>whnf)))
        refine st_all ls8[i] ho11 htr.len rfl htr.ok ?_
        intro w12 ho12 hx12
        have hx912 : Ext nob w9 w12 := (hx11.st hx12 hb11)
        have htr12 := htr9.e0 hx912
        obtain ⟨sv6, lv6, uv6, ls6, hy, hn6, hsy, _⟩ := Tr.open ⟨ls8[i], rfl, htr12⟩
        have hci : ls8[i] = [.int .i64 ((atT t 3).l[i]).n, sv6, .bool ((atT t 3).l[i]).nl, lv6, uv6] := by
          have := congrArg Value.cells hy
          exact congrArg Array.toList this
        rw [hci] at ho12 htr12
        have hs912 := hx912.size
        have hs9c := hxc9.size
        ((conv=>whnf);repeat(first|(refine mvT ?_;conv=>whnf)|(refine mvF ?_;conv=>whnf)|(refine cT (by rfl) ?_;conv=>whnf)|(refine cF (by rfl) ?_;conv=>whnf)))
        refine ldS ((hp9.e0 hx912).cell rfl) ?_;((conv=>whnf);repeat(first|(refine mvT ?_;conv=>whnf)|(refine mvF ?_;conv=>whnf)|(refine cT (by rfl) ?_;conv=>whnf)|(refine cF (by rfl) ?_;conv=>whnf)))
        refine ldS (ho12.cell rfl) ?_;((conv=>whnf);repeat(first|(refine mvT ?_;conv=>whnf)|(refine mvF ?_;conv=>whnf)|(refine cT (by rfl) ?_;conv=>whnf)|(refine cF (by rfl) ?_;conv=>whnf)))
        intro b13 w14 hb13 ho13 hx13
        have hx913 := hx912.e0 hx13
        have hs913 := hx913.size
        ((conv=>whnf);repeat(first|(refine mvT ?_;conv=>whnf)|(refine mvF ?_;conv=>whnf)|(refine cT (by rfl) ?_;conv=>whnf)|(refine cF (by rfl) ?_;conv=>whnf)))
        refine app_struct (ms := [[.int .i32 (IntKind.i32.wrap ((atT t 3).l[i]).n)]]) rfl (hos9.e0 hx913) (src_one ho13 rfl rfl) (by simp) (rfl) rfl ⟨by simp only [List.length_singleton, hesl]; omega, by simp only [List.length_singleton, hesl]; omega⟩ (by omega) ?_
        intro v15 w15 hos15 hx15 hb15 hnn15
        obtain ⟨a15, n15, c15, rfl⟩ : ∃ a n c, v15 = .slice a n c := by
          obtain ⟨a, c, h, _⟩ := hos15.shape
          exact ⟨a, _, c, h⟩
        have hpsl : ¬ sl.ownBlock = some p := fun h => by have := hos9.blk p h; omega
        have ho15 := (hp9.e0 hx913).ext hx15 hpsl
        ((conv=>whnf);repeat(first|(refine mvT ?_;conv=>whnf)|(refine mvF ?_;conv=>whnf)|(refine cT (by rfl) ?_;conv=>whnf)|(refine cF (by rfl) ?_;conv=>whnf)))
        refine st_cell (o := 3) (v := .slice a15 n15 c15) ho15 rfl (by omega) rfl (by simp) rfl ?_
        intro w16 ho16 hx16
        ((conv=>whnf);repeat(first|(refine mvT ?_;conv=>whnf)|(refine mvF ?_;conv=>whnf)|(refine cT (by rfl) ?_;conv=>whnf)|(refine cF (by rfl) ?_;conv=>whnf)))
        have hx916 : Ext (fun k => k = p ∨ wc.heap.size ≤ k) w9 w16 := ((hx913.mono fun _ _ f => f.elim).trans hx15 fun k _ h => .inr (hos9.blk k h)).trans hx16 fun _ _ h => .inl h
        have hos16 := hos15.ext hx16 fun k hk h => by have := hos15.blk k hk; omega
        refine ⟨(i + 1, _), ⟨rfl, rfl, rfl, rfl, rfl, inc_eq (by rw [maxLen_eq] at hm8; omega), trivial⟩, ⟨⟨hx09.trans hx916 fun k hk h => by omega, hxc9.trans hx916 fun _ _ h => h, hx89.trans hx916 fun k hk h => by omega, by simp only; omega, hnn15 hnn⟩, ho16, es ++ [[.int .i32 (IntKind.i32.wrap ((atT t 3).l[i]).n)]], hos16, by simp [hesl], ?_⟩, by simp only; omega⟩
        intro j c x hj hx
        rcases Nat.lt_or_ge j es.length with hjl | hjl
        · rw [List.getElem?_append_left hjl] at hj
          exact hesr j c x hj hx
        · have hj0 : j = es.length := by have := (List.getElem?_eq_some_iff.1 hj).1; simp at this; omega
          subst hj0
          rw [List.getElem?_append_right (Nat.le_refl _), Nat.sub_self, List.getElem?_cons_zero, Option.some.injEq] at hj
          subst hj
          rw [hesl, List.getElem?_eq_getElem hill, Option.some.injEq] at hx
          subst hx
          rfl
      have hil : i = ls8.length := by have := of_decide_eq_false h9; simp only at this; omega
      ((conv=>whnf);repeat(first|(refine mvT ?_;conv=>whnf)|(refine mvF ?_;conv=>whnf)|(refine cT (by rfl) ?_;conv=>whnf)|(refine cF (by rfl) ?_;conv=>whnf)))
      have hli : ListR true 1 (fun c x => c = [.int .i32 (IntKind.i32.wrap x.n)]) w9 (fun k => k ≠ p ∧ k ≠ q ∧ (R0 k ∨ w0.heap.size ≤ k)) sl (atT t 3) := by
        refine .inr ⟨hnl, fun _ => ?_, es, hos9.sl fun k hk => ⟨by omega, by omega, .inr (by omega)⟩, by omega, fun j c x hj hx => hesr j c x hj hx⟩
        rcases hos9.own.2 with ⟨e, _⟩ | ⟨g, cap, cur, e, _⟩
        · exact absurd e hnn
        · exact ⟨_, _, _, e⟩
      exact ⟨sl, ⟨rfl, rfl, rfl, trivial⟩, hx09, hp9, ho.ext hxc9 (by omega), hoq.ext hxc9 (by have := hoq.lt; omega), hli⟩
    · have hnl : (atT t 3).nl = true := by simpa using hnl
      ((conv=>whnf);repeat(first|(refine mvT ?_;conv=>whnf)|(refine mvF ?_;conv=>whnf)|(refine cT (by rfl) ?_;conv=>whnf)|(refine cF (by rfl) ?_;conv=>whnf)))
      exact ⟨_, ⟨rfl, rfl, rfl, trivial⟩, hx0.tr0 hxa, hp.e0 hxa, ho.e0 hxa, hoq.e0 hxa, .inl ⟨hnl, rfl⟩⟩
  clear hfl
  rintro c3 wc ⟨hx0, hp, ho, hoq, hc3⟩
  ((conv=>whnf);repeat(first|(refine mvT ?_;conv=>whnf)|(refine mvF ?_;conv=>whnf)|(refine cT (by rfl) ?_;conv=>whnf)|(refine cF (by rfl) ?_;conv=>whnf)))
  have hfl := fieldOK_list (hok.1 4 _ rfl)
  refine ⟨_, rfl, ho.cells, ?_⟩
  ((conv=>whnf);repeat(first|(refine mvT ?_;conv=>whnf)|(refine mvF ?_;conv=>whnf)|(refine cT (by rfl) ?_;conv=>whnf)|(refine cF (by rfl) ?_;conv=>whnf)))
  refine Does.mono (iat_does (ht0.ext hx0 fun k _ h => (hR0 k h).2) 4) ?_
  rintro ra wa ⟨hra, hxa⟩
  obtain ⟨sva, lva, uva, lsa, rfl, hna, hsa, hla, helsa, hua⟩ := hra.open
  ((conv=>whnf);repeat(first|(refine mvT ?_;conv=>whnf)|(refine mvF ?_;conv=>whnf)|(refine cT (by rfl) ?_;conv=>whnf)|(refine cF (by rfl) ?_;conv=>whnf)))
  refine VC.cutE (fun c : Value => [(1, .pointer (some ⟨b, 0, none⟩)), (2, .pointer (some ⟨q, 0, none⟩)), (3, .pointer (some ⟨p, 0, none⟩))]) (fun c w' => Ext (fun k => k = p) w0 w' ∧ Own w' p ty [.int .i32 (IntKind.i32.wrap (atT t 0).n), .int .i32 (IntKind.i32.wrap (atT t 1).n), .int .i32 (IntKind.i32.wrap (atT t 2).n), c3, c, .map none] ∧ Own w' b ImplTreeT [.int .i64 t.n, sv, .bool t.nl, lv, .slice au us.length cu] ∧ Own w' q qT qL ∧ ListR true 1 (fun c x => c = [.int .i32 (IntKind.i32.wrap x.n)]) w' (fun k => k ≠ p ∧ k ≠ q ∧ (R0 k ∨ w0.heap.size ≤ k)) c3 (atT t 3) ∧ ListR true 18 (rEndQuorumEpochRequestTopicPartitionPreferredCandidate w' (fun k => k ≠ p ∧ k ≠ q ∧ (R0 k ∨ w0.heap.size ≤ k))) w' (fun k => k ≠ p ∧ k ≠ q ∧ (R0 k ∨ w0.heap.size ≤ k)) c (atT t 4)) ?_ ?_
  · refine cI (by rfl) (fun hnl=>?_) (fun hnl=>?_)
    · have hnl : (atT t 4).nl = false := by simpa using hnl
      ((conv=>whnf);repeat(first|(refine mvT ?_;conv=>whnf)|(refine mvF ?_;conv=>whnf)|(refine cT (by rfl) ?_;conv=>whnf)|(refine cF (by rfl) ?_;conv=>whnf)))
      have hx1 := hx0.tr0 hxa
      refine ⟨_, rfl, (ho.e0 hxa).cells, ?_⟩
      ((conv=>whnf);repeat(first|(refine mvT ?_;conv=>whnf)|(refine mvF ?_;conv=>whnf)|(refine cT (by rfl) ?_;conv=>whnf)|(refine cF (by rfl) ?_;conv=>whnf)))
      refine Does.mono (iat_does (ht0.ext hx1 fun k _ h => (hR0 k h).2) 4) ?_
      rintro r5 w5 ⟨hr5, hx5⟩
      obtain ⟨sv5, lv5, uv5, ls5, rfl, hn5, hs5, hl5, hels5, hu5⟩ := hr5.open
      obtain ⟨a5, c5, rfl, _⟩ := hl5.view
      have hlen5 := hels5.len
      ((conv=>whnf);repeat(first|(refine mvT ?_;conv=>whnf)|(refine mvF ?_;conv=>whnf)|(refine cT (by rfl) ?_;conv=>whnf)|(refine cF (by rfl) ?_;conv=>whnf)))
      refine ⟨⟨by omega, by omega, by omega, by simp only [Int.toNat_natCast]; omega⟩, ⟨by decide, rfl⟩, ?_⟩
      intro b6 w6 hb6 ho6 hx6
      ((conv=>whnf);repeat(first|(refine mvT ?_;conv=>whnf)|(refine mvF ?_;conv=>whnf)|(refine cT (by rfl) ?_;conv=>whnf)|(refine cF (by rfl) ?_;conv=>whnf)))
      have hx56 := (hxa.e0 hx5).e0 hx6
      have hsz5 := (hxa.e0 hx5).size
      have hszc := hx0.size
      have hb6l := ho6.lt
      have hplc := hp.lt
      have hblc := ho.lt
      refine st_cell (o := 4) (v := .slice (some ⟨b6, 0, none⟩) 0 ls5.length) (hp.e0 hx56) rfl (by omega) rfl (by simp) rfl ?_
      intro w7 ho7 hx7
      ((conv=>whnf);repeat(first|(refine mvT ?_;conv=>whnf)|(refine mvF ?_;conv=>whnf)|(refine cT (by rfl) ?_;conv=>whnf)|(refine cF (by rfl) ?_;conv=>whnf)))
      have hx7c : Ext (fun k => k = p) wc w7 := (hx56.mono fun _ _ f => f.elim).trans hx7 fun _ _ h => h
      have hx07 := hx0.trans hx7c fun _ _ h => h
      refine ⟨_, rfl, (ho.ext hx7c (Ne.symm hpb)).cells, ?_⟩
      ((conv=>whnf);repeat(first|(refine mvT ?_;conv=>whnf)|(refine mvF ?_;conv=>whnf)|(refine cT (by rfl) ?_;conv=>whnf)|(refine cF (by rfl) ?_;conv=>whnf)))
      refine Does.mono (iat_does (ht0.ext hx07 fun k _ h => (hR0 k h).2) 4) ?_
      rintro r8 w8 ⟨hr8, hx8⟩
      obtain ⟨sv8, lv8, uv8, ls8, rfl, hn8, hs8, hl8, hels8, hu8⟩ := hr8.open
      obtain ⟨a8, c8, rfl, hc8, hm8, hF8, _, hC8⟩ := hl8.view
      have hlen8 := hels8.len
      ((conv=>whnf);repeat(first|(refine mvT ?_;conv=>whnf)|(refine mvF ?_;conv=>whnf)|(refine cT (by rfl) ?_;conv=>whnf)|(refine cF (by rfl) ?_;conv=>whnf)))
      have hx8c : Ext (fun k => k = p ∨ wc.heap.size ≤ k) wc w8 := (hx7c.tr0 hx8).mono fun _ _ h => .inl h
      have hx08 := hx07.tr0 hx8
      have hos8 := (OSl.mk0 (sz := 18) (n := ls5.length) (ho6.ext hx7 (by omega)) (by simp) (by rw [maxLen_eq]; omega) (B := wc.heap.size) (by omega)).e0 hx8
      refine VL.loop (fun s : Nat × Value => [(1, .pointer (some ⟨b, 0, none⟩)), (2, .pointer (some ⟨q, 0, none⟩)), (3, .pointer (some ⟨p, 0, none⟩)), (64, .slice a8 ls8.length c8), (65, .int .i64 ls8.length), (66, .int .i64 s.1)])
        (fun s w' => (Ext (fun k => k = p) w0 w' ∧ Ext (fun k => k = p ∨ wc.heap.size ≤ k) wc w' ∧ Ext (fun k => k = p ∨ w0.heap.size ≤ k) w8 w' ∧ s.1 ≤ ls8.length ∧ s.2 ≠ .slice none 0 0) ∧ Own w' p ty [.int .i32 (IntKind.i32.wrap (atT t 0).n), .int .i32 (IntKind.i32.wrap (atT t 1).n), .int .i32 (IntKind.i32.wrap (atT t 2).n), c3, s.2, .map none] ∧ ∃ es : List (List Value), OSl w' wc.heap.size 158 18 s.2 es ∧ es.length = s.1 ∧ ∀ (j : Nat) (c : List Value) (x : T), es[j]? = some c → (atT t 4).l[j]? = some x → rEndQuorumEpochRequestTopicPartitionPreferredCandidate w' (fun k => k ≠ p ∧ k ≠ q ∧ (R0 k ∨ w0.heap.size ≤ k) ∧ s.2.ownBlock ≠ some k) c x) (fun s => ls8.length - s.1) (0, .slice (some ⟨b6, 0, none⟩) 0 ls5.length)
        ⟨rfl, rfl, rfl, rfl, rfl, rfl, trivial⟩ ⟨⟨hx08, hx8c, Ext.refl _ _, Nat.zero_le _, by simp⟩, ho7.e0 hx8, [], hos8, rfl, by simp⟩ ?_
      rintro ⟨i, sl⟩ w9 ⟨⟨hx09, hxc9, hx89, hi, hnn⟩, hp9, es, hos9, hesl, hesr⟩
      dsimp only at hi hp9 hos9 hesl hesr hnn
      ((conv=>whnf);repeat(first|(refine mvT ?_;conv=>whnf)|(refine mvF ?_;conv=>whnf)|(refine cT (by rfl) ?_;conv=>whnf)|(refine cF (by rfl) ?_;conv=>whnf)))
      refine cI (by rfl) (fun h9=>?_) (fun h9=>?_)
      · have hil : i < ls8.length := by have := of_decide_eq_true h9; simp only at this; omega
        have hill : i < (atT t 4).l.length := by omega
        have htr := hels8.at' i ls8[i] (atT t 4).l[i] (by simp [hil]) (by simp [hill])
        obtain ⟨b10, o10, rfl, hc10⟩ := hC8 i ls8[i] (by simp [hil])
        have hb10 := hF8 b10 o10 rfl (by omega)
        have hc10 := hc10.ext hx89 (by have := hR0 _ hb10.1; omega)
        have htr9 := htr.ext hx89 fun k _ h => by have := hR0 _ h; omega
        ((conv=>whnf);repeat(first|(refine mvT ?_;conv=>whnf)|(refine mvF ?_;conv=>whnf)|(refine cT (by rfl) ?_;conv=>whnf)|(refine cF (by rfl) ?_;conv=>whnf)))
        refine ⟨b10, o10, rfl, ⟨by omega, by omega⟩, ?_⟩
        ((conv=>whnf);repeat(first|(refine mvT ?_;conv=>whnf)|(refine mvF ?_;conv=>whnf)|(refine cT (by rfl) ?_;conv=>whnf)|(refine cF (by rfl) ?_;conv=>whnf)))
        refine ⟨ls8[i], htr.len, by rw [Int.toNat_natCast]; exact hc10, ?_⟩
        ((conv=>whnf);repeat(first|(refine mvT ?_;conv=>whnf)|(refine mvF ?_;conv=>whnf)|(refine cT (by rfl) ?_;conv=>whnf)|(refine cF (by rfl) ?_;conv=>whnf)))
        intro b11 w11 hb11 ho11 hx11
        ((conv=>whnf);repeat(first|(refine mvT ?_;conv=>whnf)|(refine mvF ?_;conv=>whnf)|(refine cT (by rfl) ?_;conv=>whnf)|(refine cF (by rfl) ?_;conv=>whnf)))
        refine st_all ls8[i] ho11 htr.len rfl htr.ok ?_
        intro w12 ho12 hx12
        have hx912 : Ext nob w9 w12.drew := (hx11.st hx12 hb11).e0 (ext_drew _)
        have ho12 := ho12.e0 (ext_drew _)
        have htr12 := htr9.e0 hx912
        obtain ⟨sv6, lv6, uv6, ls6, hy, hn6, hsy, _⟩ := Tr.open ⟨ls8[i], rfl, htr12⟩
        have hci : ls8[i] = [.int .i64 ((atT t 4).l[i]).n, sv6, .bool ((atT t 4).l[i]).nl, lv6, uv6] := by
          have := congrArg Value.cells hy
          exact congrArg Array.toList this
        rw [hci] at ho12 htr12
        have hs912 := hx912.size
        have hs9c := hxc9.size
        ((conv=>whnf);repeat(first|(refine mvT ?_;conv=>whnf)|(refine mvF ?_;conv=>whnf)|(refine cT (by rfl) ?_;conv=>whnf)|(refine cF (by rfl) ?_;conv=>whnf)))
        refine VD.draw mixed (.q 0 (.q 1 (.q 2 (.eff 3 [1] (.eff 4 [1] (.eff 5 [] (.q 6 (.eff 7 [] (.done))))))))) (by kernel_rfl) ?_;((conv=>whnf);repeat(first|(refine mvT ?_;conv=>whnf)|(refine mvF ?_;conv=>whnf)|(refine cT (by rfl) ?_;conv=>whnf)|(refine cF (by rfl) ?_;conv=>whnf)))
        refine ldS ((hp9.e0 hx912).cell rfl) ?_;((conv=>whnf);repeat(first|(refine mvT ?_;conv=>whnf)|(refine mvF ?_;conv=>whnf)|(refine cT (by rfl) ?_;conv=>whnf)|(refine cF (by rfl) ?_;conv=>whnf)))
        refine ⟨_, rfl, ho12.cells, ?_⟩
        ((conv=>whnf);repeat(first|(refine mvT ?_;conv=>whnf)|(refine mvF ?_;conv=>whnf)|(refine cT (by rfl) ?_;conv=>whnf)|(refine cF (by rfl) ?_;conv=>whnf)))
        refine Does.mono (makeEndQuorumEpochRequestTopicPartitionPreferredCandidate (u := u) ⟨_, rfl, htr12⟩ ((hfl.2 _ (List.getElem_mem hill)).2.2 rfl)) ?_
        rintro r13 w13 ⟨es13, rfl, hok13, hr13, hxm13⟩
        obtain ⟨zu1_0, zu1_1, zu1_2, zu1_3, zu1_4, zu1_5, zu1_6, zu1_7, zu1_8, zu1_9, zu1_10, zu1_11, zu1_12, zu1_13, zu1_14, zu1_15, zm, rfl, _⟩ := id hr13
        have hx913 := hx912.e0 hxm13
        refine ⟨by (conv => whnf); exact ⟨⟨_, (hp9.e0 hx913).cell rfl, rfl, rfl⟩, trivial⟩, ?_⟩
        ((conv=>whnf);repeat(first|(refine mvT ?_;conv=>whnf)|(refine mvF ?_;conv=>whnf)|(refine cT (by rfl) ?_;conv=>whnf)|(refine cF (by rfl) ?_;conv=>whnf)))
        intro b13 w14 hb13 ho13 hx13
        have ho13 : Own w14 b13 158 [.int .i32 (IntKind.i32.wrap (atT (atT t 4).l[i] 0).n), bcell zu1_0, bcell zu1_1, bcell zu1_2, bcell zu1_3, bcell zu1_4, bcell zu1_5, bcell zu1_6, bcell zu1_7, bcell zu1_8, bcell zu1_9, bcell zu1_10, bcell zu1_11, bcell zu1_12, bcell zu1_13, bcell zu1_14, bcell zu1_15, zm] := ho13
        have hr13 := rEndQuorumEpochRequestTopicPartitionPreferredCandidate_ext hr13 hx13 fun _ _ _ f => f
        have hx913 := hx913.e0 hx13
        refine ⟨by (conv => whnf); exact ⟨⟨_, (hp9.e0 hx913).cell rfl, rfl, rfl⟩, trivial⟩, ?_⟩
        have hs913 := hx913.size
        ((conv=>whnf);repeat(first|(refine mvT ?_;conv=>whnf)|(refine mvF ?_;conv=>whnf)|(refine cT (by rfl) ?_;conv=>whnf)|(refine cF (by rfl) ?_;conv=>whnf)))
        refine app_struct (ms := [[.int .i32 (IntKind.i32.wrap (atT (atT t 4).l[i] 0).n), bcell zu1_0, bcell zu1_1, bcell zu1_2, bcell zu1_3, bcell zu1_4, bcell zu1_5, bcell zu1_6, bcell zu1_7, bcell zu1_8, bcell zu1_9, bcell zu1_10, bcell zu1_11, bcell zu1_12, bcell zu1_13, bcell zu1_14, bcell zu1_15, zm]]) rfl (hos9.e0 hx913) (src_one ho13 (rEndQuorumEpochRequestTopicPartitionPreferredCandidate_len hr13) rfl) (by simp) (by simpa only [List.flatten_cons, List.flatten_nil, List.append_nil] using hok13) rfl ⟨by simp only [List.length_singleton, hesl]; omega, by simp only [List.length_singleton, hesl]; omega⟩ (by omega) ?_
        intro v15 w15 hos15 hx15 hb15 hnn15
        obtain ⟨a15, n15, c15, rfl⟩ : ∃ a n c, v15 = .slice a n c := by
          obtain ⟨a, c, h, _⟩ := hos15.shape
          exact ⟨a, _, c, h⟩
        have hpsl : ¬ sl.ownBlock = some p := fun h => by have := hos9.blk p h; omega
        have ho15 := (hp9.e0 hx913).ext hx15 hpsl
        ((conv=>whnf);repeat(first|(refine mvT ?_;conv=>whnf)|(refine mvF ?_;conv=>whnf)|(refine cT (by rfl) ?_;conv=>whnf)|(refine cF (by rfl) ?_;conv=>whnf)))
        refine st_cell (o := 4) (v := .slice a15 n15 c15) ho15 rfl (by omega) rfl (by simp) rfl ?_
        intro w16 ho16 hx16
        ((conv=>whnf);repeat(first|(refine mvT ?_;conv=>whnf)|(refine mvF ?_;conv=>whnf)|(refine cT (by rfl) ?_;conv=>whnf)|(refine cF (by rfl) ?_;conv=>whnf)))
        have hx916 : Ext (fun k => k = p ∨ wc.heap.size ≤ k) w9 w16 := ((hx913.mono fun _ _ f => f.elim).trans hx15 fun k _ h => .inr (hos9.blk k h)).trans hx16 fun _ _ h => .inl h
        have hos16 := hos15.ext hx16 fun k hk h => by have := hos15.blk k hk; omega
        refine ⟨(i + 1, _), ⟨rfl, rfl, rfl, rfl, rfl, inc_eq (by rw [maxLen_eq] at hm8; omega), trivial⟩, ⟨⟨hx09.trans hx916 fun k hk h => by omega, hxc9.trans hx916 fun _ _ h => h, hx89.trans hx916 fun k hk h => by omega, by simp only; omega, hnn15 hnn⟩, ho16, es ++ [[.int .i32 (IntKind.i32.wrap (atT (atT t 4).l[i] 0).n), bcell zu1_0, bcell zu1_1, bcell zu1_2, bcell zu1_3, bcell zu1_4, bcell zu1_5, bcell zu1_6, bcell zu1_7, bcell zu1_8, bcell zu1_9, bcell zu1_10, bcell zu1_11, bcell zu1_12, bcell zu1_13, bcell zu1_14, bcell zu1_15, zm]], hos16, by simp [hesl], ?_⟩, by simp only; omega⟩
        intro j c x hj hx
        have key : rEndQuorumEpochRequestTopicPartitionPreferredCandidate w14 (fun k => k ≠ p ∧ k ≠ q ∧ (R0 k ∨ w0.heap.size ≤ k) ∧ sl.ownBlock ≠ some k) c x := by
          rcases Nat.lt_or_ge j es.length with hjl | hjl
          · rw [List.getElem?_append_left hjl] at hj
            exact rEndQuorumEpochRequestTopicPartitionPreferredCandidate_ext (hesr j c x hj hx) hx913 fun _ _ _ f => f
          · have hj0 : j = es.length := by have := (List.getElem?_eq_some_iff.1 hj).1; simp at this; omega
            subst hj0
            rw [List.getElem?_append_right (Nat.le_refl _), Nat.sub_self, List.getElem?_cons_zero, Option.some.injEq] at hj
            subst hj
            rw [hesl, List.getElem?_eq_getElem hill, Option.some.injEq] at hx
            subst hx
            exact rEndQuorumEpochRequestTopicPartitionPreferredCandidate_mono hr13 fun k hk h => by
              have hkp : k ≠ p := by rcases h with h | h; exact (hR0 k h).2; omega
              have hkq : k ≠ q := by rcases h with h | h; (have := (hR0 k h).1; omega); omega
              exact ⟨hkp, hkq, h.imp id (fun h => by omega), fun e => by have := hos9.own.lt k e; rcases h with h | h; (have := (hR0 k h).1; have := hos9.blk k e; omega); omega⟩
        have key2 := rEndQuorumEpochRequestTopicPartitionPreferredCandidate_ext (rEndQuorumEpochRequestTopicPartitionPreferredCandidate_ext (rEndQuorumEpochRequestTopicPartitionPreferredCandidate_mono key (F' := fun k => (fun k => k ≠ p ∧ k ≠ q ∧ (R0 k ∨ w0.heap.size ≤ k) ∧ sl.ownBlock ≠ some k) k ∧ k < w14.heap.size) fun k hk h => ⟨h, hk⟩) hx15 fun k _ h => h.1.2.2.2) hx16 fun k _ h => h.1.1
        exact rEndQuorumEpochRequestTopicPartitionPreferredCandidate_mono key2 fun k _ h => ⟨h.1.1, h.1.2.1, h.1.2.2.1, fun e => by
          rcases hb15 with e2 | ⟨g, hg, hle⟩
          · exact h.1.2.2.2 (e2 ▸ e)
          · have e : (Value.slice a15 n15 c15).ownBlock = some k := e
            rw [hg, Option.some.injEq] at e
            have := h.2
            omega⟩
      have hil : i = ls8.length := by have := of_decide_eq_false h9; simp only at this; omega
      ((conv=>whnf);repeat(first|(refine mvT ?_;conv=>whnf)|(refine mvF ?_;conv=>whnf)|(refine cT (by rfl) ?_;conv=>whnf)|(refine cF (by rfl) ?_;conv=>whnf)))
      have hli : ListR true 18 (rEndQuorumEpochRequestTopicPartitionPreferredCandidate w9 (fun k => k ≠ p ∧ k ≠ q ∧ (R0 k ∨ w0.heap.size ≤ k))) w9 (fun k => k ≠ p ∧ k ≠ q ∧ (R0 k ∨ w0.heap.size ≤ k)) sl (atT t 4) := by
        refine .inr ⟨hnl, fun _ => ?_, es, hos9.sl fun k hk => ⟨by omega, by omega, .inr (by omega)⟩, by omega, fun j c x hj hx => rEndQuorumEpochRequestTopicPartitionPreferredCandidate_mono (hesr j c x hj hx) fun k _ h => ⟨h.1, h.2.1, h.2.2.1⟩⟩
        rcases hos9.own.2 with ⟨e, _⟩ | ⟨g, cap, cur, e, _⟩
        · exact absurd e hnn
        · exact ⟨_, _, _, e⟩
      exact ⟨sl, ⟨rfl, rfl, rfl, trivial⟩, hx09, hp9, ho.ext hxc9 (by omega), hoq.ext hxc9 (by have := hoq.lt; omega), hc3.ext hxc9 (fun k _ h => by have := h.1; omega) (fun _ _ h => h), hli⟩
    · have hnl : (atT t 4).nl = true := by simpa using hnl
      ((conv=>whnf);repeat(first|(refine mvT ?_;conv=>whnf)|(refine mvF ?_;conv=>whnf)|(refine cT (by rfl) ?_;conv=>whnf)|(refine cF (by rfl) ?_;conv=>whnf)))
      exact ⟨_, ⟨rfl, rfl, rfl, trivial⟩, hx0.tr0 hxa, hp.e0 hxa, ho.e0 hxa, hoq.e0 hxa, hc3.ext hxa (fun _ _ _ f => f) (fun _ _ h => h), .inl ⟨hnl, rfl⟩⟩
  clear hfl
  rintro c4 wc ⟨hx0, hp, ho, hoq, hc3, hc4⟩
  ((conv=>whnf);repeat(first|(refine mvT ?_;conv=>whnf)|(refine mvF ?_;conv=>whnf)|(refine cT (by rfl) ?_;conv=>whnf)|(refine cF (by rfl) ?_;conv=>whnf)))
  refine ldS (ho.cell rfl) ?_;((conv=>whnf);repeat(first|(refine mvT ?_;conv=>whnf)|(refine mvF ?_;conv=>whnf)|(refine cT (by rfl) ?_;conv=>whnf)|(refine cF (by rfl) ?_;conv=>whnf)))
  have hpN := hp.lt
  have h0N := hx0.size
  refine VL.loop (fun s : Nat × Value => [(1, .pointer (some ⟨b, 0, none⟩)), (2, .pointer (some ⟨q, 0, none⟩)), (3, .pointer (some ⟨p, 0, none⟩)), (79, .slice au us.length cu), (80, .int .i64 us.length), (81, .int .i64 s.1)])
    (fun s w' => (Ext (fun k => k = p) w0 w' ∧ Ext (fun k => k = p ∨ wc.heap.size ≤ k) wc w' ∧ s.1 ≤ us.length) ∧ Own w' p ty [.int .i32 (IntKind.i32.wrap (atT t 0).n), .int .i32 (IntKind.i32.wrap (atT t 1).n), .int .i32 (IntKind.i32.wrap (atT t 2).n), c3, c4, s.2] ∧ TagsO w' wc.heap.size R0 s.2 (t.u.take s.1)) (fun s => us.length - s.1) (0, .map none)
    ⟨rfl, rfl, rfl, rfl, rfl, rfl, trivial⟩ ⟨⟨hx0, Ext.refl _ _, Nat.zero_le _⟩, hp, TagsO.nil _ _ _⟩ ?_
  rintro ⟨i, m⟩ w9 ⟨⟨hx09, hxc9, hi⟩, hp9, hm9⟩
  dsimp only at hi hp9 hm9
  ((conv=>whnf);repeat(first|(refine mvT ?_;conv=>whnf)|(refine mvF ?_;conv=>whnf)|(refine cT (by rfl) ?_;conv=>whnf)|(refine cF (by rfl) ?_;conv=>whnf)))
  refine cI (by rfl) (fun h9=>?_) (fun h9=>?_)
  · have hil : i < us.length := by have := of_decide_eq_true h9; simp only at this; omega
    have hilu : i < t.u.length := by omega
    obtain ⟨hkey, bv, hci, hbv⟩ := huc i us[i] t.u[i] (by simp [hil]) (by simp [hilu])
    obtain ⟨b10, o10, rfl, hc10⟩ := husC i us[i] (by simp [hil])
    have hb10 := husF b10 o10 rfl (by omega)
    rw [hci] at hc10
    obtain ⟨av, cv, rfl, _⟩ := hbv.view
    have hc10 := hc10.ext hx09 (hR0 _ hb10.1).2
    have hbv9 := hbv.ext hx09 fun k _ h => (hR0 k h).2
    ((conv=>whnf);repeat(first|(refine mvT ?_;conv=>whnf)|(refine mvF ?_;conv=>whnf)|(refine cT (by rfl) ?_;conv=>whnf)|(refine cF (by rfl) ?_;conv=>whnf)))
    refine ⟨b10, o10, rfl, ⟨by omega, by omega⟩, ?_⟩
    ((conv=>whnf);repeat(first|(refine mvT ?_;conv=>whnf)|(refine mvF ?_;conv=>whnf)|(refine cT (by rfl) ?_;conv=>whnf)|(refine cF (by rfl) ?_;conv=>whnf)))
    refine ⟨_, rfl, by rw [Int.toNat_natCast]; exact hc10, ?_⟩
    ((conv=>whnf);repeat(first|(refine mvT ?_;conv=>whnf)|(refine mvF ?_;conv=>whnf)|(refine cT (by rfl) ?_;conv=>whnf)|(refine cF (by rfl) ?_;conv=>whnf)))
    intro b11 w11 hb11 ho11 hx11
    ((conv=>whnf);repeat(first|(refine mvT ?_;conv=>whnf)|(refine mvF ?_;conv=>whnf)|(refine cT (by rfl) ?_;conv=>whnf)|(refine cF (by rfl) ?_;conv=>whnf)))
    refine st_all [.int .u32 (t.u[i].1 : Int), .slice av (t.u[i]).2.length cv] ho11 rfl rfl rfl ?_
    intro w12 ho12 hx12
    have hx912 : Ext nob w9 w12 := (hx11.st hx12 hb11)
    ((conv=>whnf);repeat(first|(refine mvT ?_;conv=>whnf)|(refine mvF ?_;conv=>whnf)|(refine cT (by rfl) ?_;conv=>whnf)|(refine cF (by rfl) ?_;conv=>whnf)))
    refine ldS (ho12.cell rfl) ?_;((conv=>whnf);repeat(first|(refine mvT ?_;conv=>whnf)|(refine mvF ?_;conv=>whnf)|(refine cT (by rfl) ?_;conv=>whnf)|(refine cF (by rfl) ?_;conv=>whnf)))
    refine ldS (ho12.cell rfl) ?_;((conv=>whnf);repeat(first|(refine mvT ?_;conv=>whnf)|(refine mvF ?_;conv=>whnf)|(refine cT (by rfl) ?_;conv=>whnf)|(refine cF (by rfl) ?_;conv=>whnf)))
    have hnew : ∀ x, x ∈ t.u.take i → x.1 ≠ (t.u[i]).1 := by
      intro x hx
      obtain ⟨j, hj, rfl⟩ := List.mem_take_iff_getElem.1 hx
      have := List.pairwise_iff_getElem.1 hok.2.rise j i (by omega) hilu (by omega)
      omega
    refine Does.mono (Tags_Set_does (o := 5) (N := wc.heap.size) (hp9.e0 hx912) rfl (hm9.e0 hx912) (Nat.le_trans hxc9.size hx912.size) hpN (fun k h => ⟨by have := (hR0 k h).1; omega, (hR0 k h).2⟩) (hbv9.e0 hx912) hnew) ?_
    rintro r13 w13 ⟨m13, hone, hp13, hm13, hx13⟩
    ((conv=>whnf);repeat(first|(refine mvT ?_;conv=>whnf)|(refine mvF ?_;conv=>whnf)|(refine cT (by rfl) ?_;conv=>whnf)|(refine cF (by rfl) ?_;conv=>whnf)))
    have hx913 : Ext (fun k => k = p ∨ wc.heap.size ≤ k) w9 w13 := (hx912.mono fun _ _ f => f.elim).trans hx13 fun _ _ h => h
    refine ⟨(i + 1, m13), ⟨rfl, rfl, rfl, rfl, rfl, inc_eq (by rw [maxLen_eq] at husm; omega), trivial⟩, ⟨⟨hx09.trans hx913 fun k hk h => by omega, hxc9.trans hx913 fun _ _ h => h, by simp only; omega⟩, hp13, ?_⟩, by simp only; omega⟩
    rw [List.take_succ_eq_append_getElem hilu]
    exact hm13
  have hil : i = us.length := by have := of_decide_eq_false h9; simp only at this; omega
  ((conv=>whnf);repeat(first|(refine mvT ?_;conv=>whnf)|(refine mvF ?_;conv=>whnf)|(refine cT (by rfl) ?_;conv=>whnf)|(refine cF (by rfl) ?_;conv=>whnf)))
  rw [hil, husl, List.take_length] at hm9
  refine ⟨_, rfl, hp9.cells, ?_⟩
  ((conv=>whnf);repeat(first|(refine mvT ?_;conv=>whnf)|(refine mvF ?_;conv=>whnf)|(refine cT (by rfl) ?_;conv=>whnf)|(refine cF (by rfl) ?_;conv=>whnf)))
  have hoq9 := hoq.ext hxc9 (by have := hoq.lt; omega)
  have hc3 := hc3.ext hxc9 (fun k _ h => by have := h.1; omega) (fun _ _ h => h)
  have hc4 := hc4.ext hxc9 (fun k _ h => by have := h.1; omega) (fun _ _ h => rEndQuorumEpochRequestTopicPartitionPreferredCandidate_ext h hxc9 (fun k _ h => by have := h.1; omega))
  have hokc : okCells [.int .i32 (IntKind.i32.wrap (atT t 0).n), .int .i32 (IntKind.i32.wrap (atT t 1).n), .int .i32 (IntKind.i32.wrap (atT t 2).n), c3, c4, m] = true := ok_cons rfl (ok_cons rfl (ok_cons rfl (ok_cons hc3.one (ok_cons hc4.one (ok_cons hm9.tags.one (ok_nil))))))
  refine st_all [.int .i32 (IntKind.i32.wrap (atT t 0).n), .int .i32 (IntKind.i32.wrap (atT t 1).n), .int .i32 (IntKind.i32.wrap (atT t 2).n), c3, c4, m] hoq9 rfl hqlen hokc ?_
  intro we hoe hxe
  ((conv=>whnf);repeat(first|(refine mvT ?_;conv=>whnf)|(refine mvF ?_;conv=>whnf)|(refine cT (by rfl) ?_;conv=>whnf)|(refine cF (by rfl) ?_;conv=>whnf)))
  refine ⟨_, rfl, hoe.cells, ?_⟩
  have hxn : Ext nob w0 w9 := (Ext.refl nob w0).trans hx09 fun k hk e => by omega
  exact ⟨_, rfl, hokc, ⟨c3, c4, m, rfl, (hc3.ext hxe (fun k _ h => h.2.1) (fun _ _ h => h)).mono (fun k _ h => h.2.2.imp (hRF k) id) (fun _ _ h => h), (hc4.ext hxe (fun k _ h => h.2.1) (fun _ _ h => rEndQuorumEpochRequestTopicPartitionPreferredCandidate_ext h hxe (fun k _ h => h.2.1))).mono (fun k _ h => h.2.2.imp (hRF k) id) (fun _ _ h => rEndQuorumEpochRequestTopicPartitionPreferredCandidate_mono h fun k _ h => h.2.2.imp (hRF k) id), (hm9.tags.ext hxe (fun k _ h e => by rcases h with h | h; (have := (hR0 k h).1; omega); omega)).mono fun k _ h => h.imp (hRF k) (fun h => by omega)⟩, hxn.trans hxe fun k hk e => by omega⟩
theorem makeEndQuorumEpochRequestTopic {F : Nat → Prop} {w0 : World} {u : Int} {x : Value} {t : T} (ht : Tr w0 F x t) (hok : partOK 8 u dEndQuorumEpochRequestTopic t) :
    Does X.P 91 #[x] w0 fun r w' => ∃ cs : List Value, r = .agg cs.toArray ∧ okCells cs = true ∧ rEndQuorumEpochRequestTopic w' (fun k => F k ∨ w0.heap.size ≤ k) cs t ∧ Ext nob w0 w' := by
  obtain ⟨R0, hR0, hRF, ht0⟩ : ∃ R0 : Nat → Prop, (∀ k, R0 k → k < w0.heap.size) ∧ (∀ k, R0 k → F k) ∧ Tr w0 R0 x t := ⟨fun k => k < w0.heap.size ∧ F k, fun k h => h.1, fun k h => h.2, ht.mono fun k h1 h2 => ⟨h1, h2⟩⟩
  clear ht
  obtain ⟨sv, lv, uv, ls, rfl, hn, hs, hl, hels, htg⟩ := ht0.open
  obtain ⟨us, hus, husl, huc⟩ := id htg
  obtain ⟨au, cu, rfl, husc, husm, husF, _, husC⟩ := hus.view
  refine Does.go (X := X) (l := [_]) Tryz.func91 rfl (by kernel_rfl) (by kernel_rfl) _ rfl ?_
  ((conv=>whnf);repeat(first|(refine mvT ?_;conv=>whnf)|(refine mvF ?_;conv=>whnf)|(refine cT (by rfl) ?_;conv=>whnf)|(refine cF (by rfl) ?_;conv=>whnf)))
  intro b wb hb ho hx
  ((conv=>whnf);repeat(first|(refine mvT ?_;conv=>whnf)|(refine mvF ?_;conv=>whnf)|(refine cT (by rfl) ?_;conv=>whnf)|(refine cF (by rfl) ?_;conv=>whnf)))
  intro q wq hqb hoq hxq
  ((conv=>whnf);repeat(first|(refine mvT ?_;conv=>whnf)|(refine mvF ?_;conv=>whnf)|(refine cT (by rfl) ?_;conv=>whnf)|(refine cF (by rfl) ?_;conv=>whnf)))
  intro p wc hpB hp hxp
  have hbl := ho.lt
  have hql := hoq.lt
  have hs1 := hx.size
  have hs2 := hxq.size
  have hpb : p ≠ b := by omega
  have hpq : p ≠ q := by omega
  have hwp : w0.heap.size ≤ p := by omega
  have hR0 : ∀ k, R0 k → k < w0.heap.size ∧ k ≠ p := fun k h => ⟨hR0 k h, by have := hR0 k h; omega⟩
  obtain ⟨ty, hp⟩ : ∃ T, Own wc p T [str [], .slice none 0 0, .map none] := ⟨_, hp⟩
  have ho : Own wc b ImplTreeT [.int .i64 t.n, sv, .bool t.nl, lv, .slice au us.length cu] := (ho.e0 hxq).e0 hxp
  have hoq := hoq.e0 hxp
  obtain ⟨qT, qL, hqlen, hoq⟩ : ∃ T L, L.length = 3 ∧ Own wc q T L := ⟨_, _, rfl, hoq⟩
  have hx0 : Ext (fun k => k = p) w0 wc := ((hx.e0 hxq).e0 hxp).mono fun _ _ f => f.elim
  ((conv=>whnf);repeat(first|(refine mvT ?_;conv=>whnf)|(refine mvF ?_;conv=>whnf)|(refine cT (by rfl) ?_;conv=>whnf)|(refine cF (by rfl) ?_;conv=>whnf)))
  refine ⟨_, rfl, ho.cells, ?_⟩
  ((conv=>whnf);repeat(first|(refine mvT ?_;conv=>whnf)|(refine mvF ?_;conv=>whnf)|(refine cT (by rfl) ?_;conv=>whnf)|(refine cF (by rfl) ?_;conv=>whnf)))
  refine Does.mono (iat_does (ht0.ext hx0 fun k _ h => (hR0 k h).2) 0) ?_
  rintro ra wa ⟨hra, hxa⟩
  obtain ⟨sva, lva, uva, lsa, rfl, hna, hsa, hla, helsa, hua⟩ := hra.open
  ((conv=>whnf);repeat(first|(refine mvT ?_;conv=>whnf)|(refine mvF ?_;conv=>whnf)|(refine cT (by rfl) ?_;conv=>whnf)|(refine cF (by rfl) ?_;conv=>whnf)))
  refine ⟨_, _, hsa, ?_⟩
  ((conv=>whnf);repeat(first|(refine mvT ?_;conv=>whnf)|(refine mvF ?_;conv=>whnf)|(refine cT (by rfl) ?_;conv=>whnf)|(refine cF (by rfl) ?_;conv=>whnf)))
  refine st_cell (o := 0) (v := str (atT t 0).s) (hp.e0 hxa) (rfl) (by omega) rfl (by simp) (rfl) ?_
  intro wc hoc hxc
  have hp : Own wc p ty [str (atT t 0).s, .slice none 0 0, .map none] := hoc
  have ho := (ho.e0 hxa).ext hxc (Ne.symm hpb)
  have hx0 := (hx0.tr0 hxa).trans hxc fun _ _ h => h
  have hoq := (hoq.e0 hxa).ext hxc (Ne.symm hpq)
  ((conv=>whnf);repeat(first|(refine mvT ?_;conv=>whnf)|(refine mvF ?_;conv=>whnf)|(refine cT (by rfl) ?_;conv=>whnf)|(refine cF (by rfl) ?_;conv=>whnf)))
  have hfl := fieldOK_list (hok.1 1 _ rfl)
  refine ⟨_, rfl, ho.cells, ?_⟩
  ((conv=>whnf);repeat(first|(refine mvT ?_;conv=>whnf)|(refine mvF ?_;conv=>whnf)|(refine cT (by rfl) ?_;conv=>whnf)|(refine cF (by rfl) ?_;conv=>whnf)))
  refine Does.mono (iat_does (ht0.ext hx0 fun k _ h => (hR0 k h).2) 1) ?_
  rintro ra wa ⟨hra, hxa⟩
  obtain ⟨sva, lva, uva, lsa, rfl, hna, hsa, hla, helsa, hua⟩ := hra.open
  ((conv=>whnf);repeat(first|(refine mvT ?_;conv=>whnf)|(refine mvF ?_;conv=>whnf)|(refine cT (by rfl) ?_;conv=>whnf)|(refine cF (by rfl) ?_;conv=>whnf)))
  refine VC.cutE (fun c : Value => [(1, .pointer (some ⟨b, 0, none⟩)), (2, .pointer (some ⟨q, 0, none⟩)), (3, .pointer (some ⟨p, 0, none⟩))]) (fun c w' => Ext (fun k => k = p) w0 w' ∧ Own w' p ty [str (atT t 0).s, c, .map none] ∧ Own w' b ImplTreeT [.int .i64 t.n, sv, .bool t.nl, lv, .slice au us.length cu] ∧ Own w' q qT qL ∧ ListR true 6 (rEndQuorumEpochRequestTopicPartition w' (fun k => k ≠ p ∧ k ≠ q ∧ (R0 k ∨ w0.heap.size ≤ k))) w' (fun k => k ≠ p ∧ k ≠ q ∧ (R0 k ∨ w0.heap.size ≤ k)) c (atT t 1)) ?_ ?_
  · refine cI (by rfl) (fun hnl=>?_) (fun hnl=>?_)
    · have hnl : (atT t 1).nl = false := by simpa using hnl
      ((conv=>whnf);repeat(first|(refine mvT ?_;conv=>whnf)|(refine mvF ?_;conv=>whnf)|(refine cT (by rfl) ?_;conv=>whnf)|(refine cF (by rfl) ?_;conv=>whnf)))
      have hx1 := hx0.tr0 hxa
      refine ⟨_, rfl, (ho.e0 hxa).cells, ?_⟩
      ((conv=>whnf);repeat(first|(refine mvT ?_;conv=>whnf)|(refine mvF ?_;conv=>whnf)|(refine cT (by rfl) ?_;conv=>whnf)|(refine cF (by rfl) ?_;conv=>whnf)))
      refine Does.mono (iat_does (ht0.ext hx1 fun k _ h => (hR0 k h).2) 1) ?_
      rintro r5 w5 ⟨hr5, hx5⟩
      obtain ⟨sv5, lv5, uv5, ls5, rfl, hn5, hs5, hl5, hels5, hu5⟩ := hr5.open
      obtain ⟨a5, c5, rfl, _⟩ := hl5.view
      have hlen5 := hels5.len
      ((conv=>whnf);repeat(first|(refine mvT ?_;conv=>whnf)|(refine mvF ?_;conv=>whnf)|(refine cT (by rfl) ?_;conv=>whnf)|(refine cF (by rfl) ?_;conv=>whnf)))
      refine ⟨⟨by omega, by omega, by omega, by simp only [Int.toNat_natCast]; omega⟩, ⟨by decide, rfl⟩, ?_⟩
      intro b6 w6 hb6 ho6 hx6
      ((conv=>whnf);repeat(first|(refine mvT ?_;conv=>whnf)|(refine mvF ?_;conv=>whnf)|(refine cT (by rfl) ?_;conv=>whnf)|(refine cF (by rfl) ?_;conv=>whnf)))
      have hx56 := (hxa.e0 hx5).e0 hx6
      have hsz5 := (hxa.e0 hx5).size
      have hszc := hx0.size
      have hb6l := ho6.lt
      have hplc := hp.lt
      have hblc := ho.lt
      refine st_cell (o := 1) (v := .slice (some ⟨b6, 0, none⟩) 0 ls5.length) (hp.e0 hx56) rfl (by omega) rfl (by simp) rfl ?_
      intro w7 ho7 hx7
      ((conv=>whnf);repeat(first|(refine mvT ?_;conv=>whnf)|(refine mvF ?_;conv=>whnf)|(refine cT (by rfl) ?_;conv=>whnf)|(refine cF (by rfl) ?_;conv=>whnf)))
      have hx7c : Ext (fun k => k = p) wc w7 := (hx56.mono fun _ _ f => f.elim).trans hx7 fun _ _ h => h
      have hx07 := hx0.trans hx7c fun _ _ h => h
      refine ⟨_, rfl, (ho.ext hx7c (Ne.symm hpb)).cells, ?_⟩
      ((conv=>whnf);repeat(first|(refine mvT ?_;conv=>whnf)|(refine mvF ?_;conv=>whnf)|(refine cT (by rfl) ?_;conv=>whnf)|(refine cF (by rfl) ?_;conv=>whnf)))
      refine Does.mono (iat_does (ht0.ext hx07 fun k _ h => (hR0 k h).2) 1) ?_
      rintro r8 w8 ⟨hr8, hx8⟩
      obtain ⟨sv8, lv8, uv8, ls8, rfl, hn8, hs8, hl8, hels8, hu8⟩ := hr8.open
      obtain ⟨a8, c8, rfl, hc8, hm8, hF8, _, hC8⟩ := hl8.view
      have hlen8 := hels8.len
      ((conv=>whnf);repeat(first|(refine mvT ?_;conv=>whnf)|(refine mvF ?_;conv=>whnf)|(refine cT (by rfl) ?_;conv=>whnf)|(refine cF (by rfl) ?_;conv=>whnf)))
      have hx8c : Ext (fun k => k = p ∨ wc.heap.size ≤ k) wc w8 := (hx7c.tr0 hx8).mono fun _ _ h => .inl h
      have hx08 := hx07.tr0 hx8
      have hos8 := (OSl.mk0 (sz := 6) (n := ls5.length) (ho6.ext hx7 (by omega)) (by simp) (by rw [maxLen_eq]; omega) (B := wc.heap.size) (by omega)).e0 hx8
      refine VL.loop (fun s : Nat × Value => [(1, .pointer (some ⟨b, 0, none⟩)), (2, .pointer (some ⟨q, 0, none⟩)), (3, .pointer (some ⟨p, 0, none⟩)), (25, .slice a8 ls8.length c8), (26, .int .i64 ls8.length), (27, .int .i64 s.1)])
        (fun s w' => (Ext (fun k => k = p) w0 w' ∧ Ext (fun k => k = p ∨ wc.heap.size ≤ k) wc w' ∧ Ext (fun k => k = p ∨ w0.heap.size ≤ k) w8 w' ∧ s.1 ≤ ls8.length ∧ s.2 ≠ .slice none 0 0) ∧ Own w' p ty [str (atT t 0).s, s.2, .map none] ∧ ∃ es : List (List Value), OSl w' wc.heap.size 155 6 s.2 es ∧ es.length = s.1 ∧ ∀ (j : Nat) (c : List Value) (x : T), es[j]? = some c → (atT t 1).l[j]? = some x → rEndQuorumEpochRequestTopicPartition w' (fun k => k ≠ p ∧ k ≠ q ∧ (R0 k ∨ w0.heap.size ≤ k) ∧ s.2.ownBlock ≠ some k) c x) (fun s => ls8.length - s.1) (0, .slice (some ⟨b6, 0, none⟩) 0 ls5.length)
        ⟨rfl, rfl, rfl, rfl, rfl, rfl, trivial⟩ ⟨⟨hx08, hx8c, Ext.refl _ _, Nat.zero_le _, by simp⟩, ho7.e0 hx8, [], hos8, rfl, by simp⟩ ?_
      rintro ⟨i, sl⟩ w9 ⟨⟨hx09, hxc9, hx89, hi, hnn⟩, hp9, es, hos9, hesl, hesr⟩
      dsimp only at hi hp9 hos9 hesl hesr hnn
      ((conv=>whnf);repeat(first|(refine mvT ?_;conv=>whnf)|(refine mvF ?_;conv=>whnf)|(refine cT (by rfl) ?_;conv=>whnf)|(refine cF (by rfl) ?_;conv=>whnf)))
      refine cI (by rfl) (fun h9=>?_) (fun h9=>?_)
      · have hil : i < ls8.length := by have := of_decide_eq_true h9; simp only at this; omega
        have hill : i < (atT t 1).l.length := by omega
        have htr := hels8.at' i ls8[i] (atT t 1).l[i] (by simp [hil]) (by simp [hill])
        obtain ⟨b10, o10, rfl, hc10⟩ := hC8 i ls8[i] (by simp [hil])
        have hb10 := hF8 b10 o10 rfl (by omega)
        have hc10 := hc10.ext hx89 (by have := hR0 _ hb10.1; omega)
        have htr9 := htr.ext hx89 fun k _ h => by have := hR0 _ h; omega
        ((conv=>whnf);repeat(first|(refine mvT ?_;conv=>whnf)|(refine mvF ?_;conv=>whnf)|(refine cT (by rfl) ?_;conv=>whnf)|(refine cF (by rfl) ?_;conv=>whnf)))
        refine ⟨b10, o10, rfl, ⟨by omega, by omega⟩, ?_⟩
        ((conv=>whnf);repeat(first|(refine mvT ?_;conv=>whnf)|(refine mvF ?_;conv=>whnf)|(refine cT (by rfl) ?_;conv=>whnf)|(refine cF (by rfl) ?_;conv=>whnf)))
        refine ⟨ls8[i], htr.len, by rw [Int.toNat_natCast]; exact hc10, ?_⟩
        ((conv=>whnf);repeat(first|(refine mvT ?_;conv=>whnf)|(refine mvF ?_;conv=>whnf)|(refine cT (by rfl) ?_;conv=>whnf)|(refine cF (by rfl) ?_;conv=>whnf)))
        intro b11 w11 hb11 ho11 hx11
        ((conv=>whnf);repeat(first|(refine mvT ?_;conv=>whnf)|(refine mvF ?_;conv=>whnf)|(refine cT (by rfl) ?_;conv=>whnf)|(refine cF (by rfl) ?_;conv=>whnf)))
        refine st_all ls8[i] ho11 htr.len rfl htr.ok ?_
        intro w12 ho12 hx12
        have hx912 : Ext nob w9 w12.drew := (hx11.st hx12 hb11).e0 (ext_drew _)
        have ho12 := ho12.e0 (ext_drew _)
        have htr12 := htr9.e0 hx912
        obtain ⟨sv6, lv6, uv6, ls6, hy, hn6, hsy, _⟩ := Tr.open ⟨ls8[i], rfl, htr12⟩
        have hci : ls8[i] = [.int .i64 ((atT t 1).l[i]).n, sv6, .bool ((atT t 1).l[i]).nl, lv6, uv6] := by
          have := congrArg Value.cells hy
          exact congrArg Array.toList this
        rw [hci] at ho12 htr12
        have hs912 := hx912.size
        have hs9c := hxc9.size
        ((conv=>whnf);repeat(first|(refine mvT ?_;conv=>whnf)|(refine mvF ?_;conv=>whnf)|(refine cT (by rfl) ?_;conv=>whnf)|(refine cF (by rfl) ?_;conv=>whnf)))
        refine VD.draw mixed (.q 0 (.q 1 (.q 2 (.eff 3 [1] (.eff 4 [1] (.eff 5 [] (.q 6 (.eff 7 [] (.done))))))))) (by kernel_rfl) ?_;((conv=>whnf);repeat(first|(refine mvT ?_;conv=>whnf)|(refine mvF ?_;conv=>whnf)|(refine cT (by rfl) ?_;conv=>whnf)|(refine cF (by rfl) ?_;conv=>whnf)))
        refine ldS ((hp9.e0 hx912).cell rfl) ?_;((conv=>whnf);repeat(first|(refine mvT ?_;conv=>whnf)|(refine mvF ?_;conv=>whnf)|(refine cT (by rfl) ?_;conv=>whnf)|(refine cF (by rfl) ?_;conv=>whnf)))
        refine ⟨_, rfl, ho12.cells, ?_⟩
        ((conv=>whnf);repeat(first|(refine mvT ?_;conv=>whnf)|(refine mvF ?_;conv=>whnf)|(refine cT (by rfl) ?_;conv=>whnf)|(refine cF (by rfl) ?_;conv=>whnf)))
        refine Does.mono (makeEndQuorumEpochRequestTopicPartition (u := u) ⟨_, rfl, htr12⟩ ((hfl.2 _ (List.getElem_mem hill)).2.2 rfl)) ?_
        rintro r13 w13 ⟨es13, rfl, hok13, hr13, hxm13⟩
        obtain ⟨zc3, zc4, zm, rfl, _⟩ := id hr13
        have hx913 := hx912.e0 hxm13
        refine ⟨by (conv => whnf); exact ⟨⟨_, (hp9.e0 hx913).cell rfl, rfl, rfl⟩, trivial⟩, ?_⟩
        ((conv=>whnf);repeat(first|(refine mvT ?_;conv=>whnf)|(refine mvF ?_;conv=>whnf)|(refine cT (by rfl) ?_;conv=>whnf)|(refine cF (by rfl) ?_;conv=>whnf)))
        intro b13 w14 hb13 ho13 hx13
        have ho13 : Own w14 b13 155 [.int .i32 (IntKind.i32.wrap (atT (atT t 1).l[i] 0).n), .int .i32 (IntKind.i32.wrap (atT (atT t 1).l[i] 1).n), .int .i32 (IntKind.i32.wrap (atT (atT t 1).l[i] 2).n), zc3, zc4, zm] := ho13
        have hr13 := rEndQuorumEpochRequestTopicPartition_ext hr13 hx13 fun _ _ _ f => f
        have hx913 := hx913.e0 hx13
        refine ⟨by (conv => whnf); exact ⟨⟨_, (hp9.e0 hx913).cell rfl, rfl, rfl⟩, trivial⟩, ?_⟩
        have hs913 := hx913.size
        ((conv=>whnf);repeat(first|(refine mvT ?_;conv=>whnf)|(refine mvF ?_;conv=>whnf)|(refine cT (by rfl) ?_;conv=>whnf)|(refine cF (by rfl) ?_;conv=>whnf)))
        refine app_struct (ms := [[.int .i32 (IntKind.i32.wrap (atT (atT t 1).l[i] 0).n), .int .i32 (IntKind.i32.wrap (atT (atT t 1).l[i] 1).n), .int .i32 (IntKind.i32.wrap (atT (atT t 1).l[i] 2).n), zc3, zc4, zm]]) rfl (hos9.e0 hx913) (src_one ho13 (rEndQuorumEpochRequestTopicPartition_len hr13) rfl) (by simp) (by simpa only [List.flatten_cons, List.flatten_nil, List.append_nil] using hok13) rfl ⟨by simp only [List.length_singleton, hesl]; omega, by simp only [List.length_singleton, hesl]; omega⟩ (by omega) ?_
        intro v15 w15 hos15 hx15 hb15 hnn15
        obtain ⟨a15, n15, c15, rfl⟩ : ∃ a n c, v15 = .slice a n c := by
          obtain ⟨a, c, h, _⟩ := hos15.shape
          exact ⟨a, _, c, h⟩
        have hpsl : ¬ sl.ownBlock = some p := fun h => by have := hos9.blk p h; omega
        have ho15 := (hp9.e0 hx913).ext hx15 hpsl
        ((conv=>whnf);repeat(first|(refine mvT ?_;conv=>whnf)|(refine mvF ?_;conv=>whnf)|(refine cT (by rfl) ?_;conv=>whnf)|(refine cF (by rfl) ?_;conv=>whnf)))
        refine st_cell (o := 1) (v := .slice a15 n15 c15) ho15 rfl (by omega) rfl (by simp) rfl ?_
        intro w16 ho16 hx16
        ((conv=>whnf);repeat(first|(refine mvT ?_;conv=>whnf)|(refine mvF ?_;conv=>whnf)|(refine cT (by rfl) ?_;conv=>whnf)|(refine cF (by rfl) ?_;conv=>whnf)))
        have hx916 : Ext (fun k => k = p ∨ wc.heap.size ≤ k) w9 w16 := ((hx913.mono fun _ _ f => f.elim).trans hx15 fun k _ h => .inr (hos9.blk k h)).trans hx16 fun _ _ h => .inl h
        have hos16 := hos15.ext hx16 fun k hk h => by have := hos15.blk k hk; omega
        refine ⟨(i + 1, _), ⟨rfl, rfl, rfl, rfl, rfl, inc_eq (by rw [maxLen_eq] at hm8; omega), trivial⟩, ⟨⟨hx09.trans hx916 fun k hk h => by omega, hxc9.trans hx916 fun _ _ h => h, hx89.trans hx916 fun k hk h => by omega, by simp only; omega, hnn15 hnn⟩, ho16, es ++ [[.int .i32 (IntKind.i32.wrap (atT (atT t 1).l[i] 0).n), .int .i32 (IntKind.i32.wrap (atT (atT t 1).l[i] 1).n), .int .i32 (IntKind.i32.wrap (atT (atT t 1).l[i] 2).n), zc3, zc4, zm]], hos16, by simp [hesl], ?_⟩, by simp only; omega⟩
        intro j c x hj hx
        have key : rEndQuorumEpochRequestTopicPartition w14 (fun k => k ≠ p ∧ k ≠ q ∧ (R0 k ∨ w0.heap.size ≤ k) ∧ sl.ownBlock ≠ some k) c x := by
          rcases Nat.lt_or_ge j es.length with hjl | hjl
          · rw [List.getElem?_append_left hjl] at hj
            exact rEndQuorumEpochRequestTopicPartition_ext (hesr j c x hj hx) hx913 fun _ _ _ f => f
          · have hj0 : j = es.length := by have := (List.getElem?_eq_some_iff.1 hj).1; simp at this; omega
            subst hj0
            rw [List.getElem?_append_right (Nat.le_refl _), Nat.sub_self, List.getElem?_cons_zero, Option.some.injEq] at hj
            subst hj
            rw [hesl, List.getElem?_eq_getElem hill, Option.some.injEq] at hx
            subst hx
            exact rEndQuorumEpochRequestTopicPartition_mono hr13 fun k hk h => by
              have hkp : k ≠ p := by rcases h with h | h; exact (hR0 k h).2; omega
              have hkq : k ≠ q := by rcases h with h | h; (have := (hR0 k h).1; omega); omega
              exact ⟨hkp, hkq, h.imp id (fun h => by omega), fun e => by have := hos9.own.lt k e; rcases h with h | h; (have := (hR0 k h).1; have := hos9.blk k e; omega); omega⟩
        have key2 := rEndQuorumEpochRequestTopicPartition_ext (rEndQuorumEpochRequestTopicPartition_ext (rEndQuorumEpochRequestTopicPartition_mono key (F' := fun k => (fun k => k ≠ p ∧ k ≠ q ∧ (R0 k ∨ w0.heap.size ≤ k) ∧ sl.ownBlock ≠ some k) k ∧ k < w14.heap.size) fun k hk h => ⟨h, hk⟩) hx15 fun k _ h => h.1.2.2.2) hx16 fun k _ h => h.1.1
        exact rEndQuorumEpochRequestTopicPartition_mono key2 fun k _ h => ⟨h.1.1, h.1.2.1, h.1.2.2.1, fun e => by
          rcases hb15 with e2 | ⟨g, hg, hle⟩
          · exact h.1.2.2.2 (e2 ▸ e)
          · have e : (Value.slice a15 n15 c15).ownBlock = some k := e
            rw [hg, Option.some.injEq] at e
            have := h.2
            omega⟩
      have hil : i = ls8.length := by have := of_decide_eq_false h9; simp only at this; omega
      ((conv=>whnf);repeat(first|(refine mvT ?_;conv=>whnf)|(refine mvF ?_;conv=>whnf)|(refine cT (by rfl) ?_;conv=>whnf)|(refine cF (by rfl) ?_;conv=>whnf)))
      have hli : ListR true 6 (rEndQuorumEpochRequestTopicPartition w9 (fun k => k ≠ p ∧ k ≠ q ∧ (R0 k ∨ w0.heap.size ≤ k))) w9 (fun k => k ≠ p ∧ k ≠ q ∧ (R0 k ∨ w0.heap.size ≤ k)) sl (atT t 1) := by
        refine .inr ⟨hnl, fun _ => ?_, es, hos9.sl fun k hk => ⟨by omega, by omega, .inr (by omega)⟩, by omega, fun j c x hj hx => rEndQuorumEpochRequestTopicPartition_mono (hesr j c x hj hx) fun k _ h => ⟨h.1, h.2.1, h.2.2.1⟩⟩
        rcases hos9.own.2 with ⟨e, _⟩ | ⟨g, cap, cur, e, _⟩
        · exact absurd e hnn
        · exact ⟨_, _, _, e⟩
      exact ⟨sl, ⟨rfl, rfl, rfl, trivial⟩, hx09, hp9, ho.ext hxc9 (by omega), hoq.ext hxc9 (by have := hoq.lt; omega), hli⟩
    · have hnl : (atT t 1).nl = true := by simpa using hnl
      ((conv=>whnf);repeat(first|(refine mvT ?_;conv=>whnf)|(refine mvF ?_;conv=>whnf)|(refine cT (by rfl) ?_;conv=>whnf)|(refine cF (by rfl) ?_;conv=>whnf)))
      exact ⟨_, ⟨rfl, rfl, rfl, trivial⟩, hx0.tr0 hxa, hp.e0 hxa, ho.e0 hxa, hoq.e0 hxa, .inl ⟨hnl, rfl⟩⟩
  clear hfl
  rintro c1 wc ⟨hx0, hp, ho, hoq, hc1⟩
  ((conv=>whnf);repeat(first|(refine mvT ?_;conv=>whnf)|(refine mvF ?_;conv=>whnf)|(refine cT (by rfl) ?_;conv=>whnf)|(refine cF (by rfl) ?_;conv=>whnf)))
  refine ldS (ho.cell rfl) ?_;((conv=>whnf);repeat(first|(refine mvT ?_;conv=>whnf)|(refine mvF ?_;conv=>whnf)|(refine cT (by rfl) ?_;conv=>whnf)|(refine cF (by rfl) ?_;conv=>whnf)))
  have hpN := hp.lt
  have h0N := hx0.size
  refine VL.loop (fun s : Nat × Value => [(1, .pointer (some ⟨b, 0, none⟩)), (2, .pointer (some ⟨q, 0, none⟩)), (3, .pointer (some ⟨p, 0, none⟩)), (40, .slice au us.length cu), (41, .int .i64 us.length), (42, .int .i64 s.1)])
    (fun s w' => (Ext (fun k => k = p) w0 w' ∧ Ext (fun k => k = p ∨ wc.heap.size ≤ k) wc w' ∧ s.1 ≤ us.length) ∧ Own w' p ty [str (atT t 0).s, c1, s.2] ∧ TagsO w' wc.heap.size R0 s.2 (t.u.take s.1)) (fun s => us.length - s.1) (0, .map none)
    ⟨rfl, rfl, rfl, rfl, rfl, rfl, trivial⟩ ⟨⟨hx0, Ext.refl _ _, Nat.zero_le _⟩, hp, TagsO.nil _ _ _⟩ ?_
  rintro ⟨i, m⟩ w9 ⟨⟨hx09, hxc9, hi⟩, hp9, hm9⟩
  dsimp only at hi hp9 hm9
  ((conv=>whnf);repeat(first|(refine mvT ?_;conv=>whnf)|(refine mvF ?_;conv=>whnf)|(refine cT (by rfl) ?_;conv=>whnf)|(refine cF (by rfl) ?_;conv=>whnf)))
  refine cI (by rfl) (fun h9=>?_) (fun h9=>?_)
  · have hil : i < us.length := by have := of_decide_eq_true h9; simp only at this; omega
    have hilu : i < t.u.length := by omega
    obtain ⟨hkey, bv, hci, hbv⟩ := huc i us[i] t.u[i] (by simp [hil]) (by simp [hilu])
    obtain ⟨b10, o10, rfl, hc10⟩ := husC i us[i] (by simp [hil])
    have hb10 := husF b10 o10 rfl (by omega)
    rw [hci] at hc10
    obtain ⟨av, cv, rfl, _⟩ := hbv.view
    have hc10 := hc10.ext hx09 (hR0 _ hb10.1).2
    have hbv9 := hbv.ext hx09 fun k _ h => (hR0 k h).2
    ((conv=>whnf);repeat(first|(refine mvT ?_;conv=>whnf)|(refine mvF ?_;conv=>whnf)|(refine cT (by rfl) ?_;conv=>whnf)|(refine cF (by rfl) ?_;conv=>whnf)))
    refine ⟨b10, o10, rfl, ⟨by omega, by omega⟩, ?_⟩
    ((conv=>whnf);repeat(first|(refine mvT ?_;conv=>whnf)|(refine mvF ?_;conv=>whnf)|(refine cT (by rfl) ?_;conv=>whnf)|(refine cF (by rfl) ?_;conv=>whnf)))
    refine ⟨_, rfl, by rw [Int.toNat_natCast]; exact hc10, ?_⟩
    ((conv=>whnf);repeat(first|(refine mvT ?_;conv=>whnf)|(refine mvF ?_;conv=>whnf)|(refine cT (by rfl) ?_;conv=>whnf)|(refine cF (by rfl) ?_;conv=>whnf)))
    intro b11 w11 hb11 ho11 hx11
    ((conv=>whnf);repeat(first|(refine mvT ?_;conv=>whnf)|(refine mvF ?_;conv=>whnf)|(refine cT (by rfl) ?_;conv=>whnf)|(refine cF (by rfl) ?_;conv=>whnf)))
    refine st_all [.int .u32 (t.u[i].1 : Int), .slice av (t.u[i]).2.length cv] ho11 rfl rfl rfl ?_
    intro w12 ho12 hx12
    have hx912 : Ext nob w9 w12 := (hx11.st hx12 hb11)
    ((conv=>whnf);repeat(first|(refine mvT ?_;conv=>whnf)|(refine mvF ?_;conv=>whnf)|(refine cT (by rfl) ?_;conv=>whnf)|(refine cF (by rfl) ?_;conv=>whnf)))
    refine ldS (ho12.cell rfl) ?_;((conv=>whnf);repeat(first|(refine mvT ?_;conv=>whnf)|(refine mvF ?_;conv=>whnf)|(refine cT (by rfl) ?_;conv=>whnf)|(refine cF (by rfl) ?_;conv=>whnf)))
    refine ldS (ho12.cell rfl) ?_;((conv=>whnf);repeat(first|(refine mvT ?_;conv=>whnf)|(refine mvF ?_;conv=>whnf)|(refine cT (by rfl) ?_;conv=>whnf)|(refine cF (by rfl) ?_;conv=>whnf)))
    have hnew : ∀ x, x ∈ t.u.take i → x.1 ≠ (t.u[i]).1 := by
      intro x hx
      obtain ⟨j, hj, rfl⟩ := List.mem_take_iff_getElem.1 hx
      have := List.pairwise_iff_getElem.1 hok.2.rise j i (by omega) hilu (by omega)
      omega
    refine Does.mono (Tags_Set_does (o := 2) (N := wc.heap.size) (hp9.e0 hx912) rfl (hm9.e0 hx912) (Nat.le_trans hxc9.size hx912.size) hpN (fun k h => ⟨by have := (hR0 k h).1; omega, (hR0 k h).2⟩) (hbv9.e0 hx912) hnew) ?_
    rintro r13 w13 ⟨m13, hone, hp13, hm13, hx13⟩
    ((conv=>whnf);repeat(first|(refine mvT ?_;conv=>whnf)|(refine mvF ?_;conv=>whnf)|(refine cT (by rfl) ?_;conv=>whnf)|(refine cF (by rfl) ?_;conv=>whnf)))
    have hx913 : Ext (fun k => k = p ∨ wc.heap.size ≤ k) w9 w13 := (hx912.mono fun _ _ f => f.elim).trans hx13 fun _ _ h => h
    refine ⟨(i + 1, m13), ⟨rfl, rfl, rfl, rfl, rfl, inc_eq (by rw [maxLen_eq] at husm; omega), trivial⟩, ⟨⟨hx09.trans hx913 fun k hk h => by omega, hxc9.trans hx913 fun _ _ h => h, by simp only; omega⟩, hp13, ?_⟩, by simp only; omega⟩
    rw [List.take_succ_eq_append_getElem hilu]
    exact hm13
  have hil : i = us.length := by have := of_decide_eq_false h9; simp only at this; omega
  ((conv=>whnf);repeat(first|(refine mvT ?_;conv=>whnf)|(refine mvF ?_;conv=>whnf)|(refine cT (by rfl) ?_;conv=>whnf)|(refine cF (by rfl) ?_;conv=>whnf)))
  rw [hil, husl, List.take_length] at hm9
  refine ⟨_, rfl, hp9.cells, ?_⟩
  ((conv=>whnf);repeat(first|(refine mvT ?_;conv=>whnf)|(refine mvF ?_;conv=>whnf)|(refine cT (by rfl) ?_;conv=>whnf)|(refine cF (by rfl) ?_;conv=>whnf)))
  have hoq9 := hoq.ext hxc9 (by have := hoq.lt; omega)
  have hc1 := hc1.ext hxc9 (fun k _ h => by have := h.1; omega) (fun _ _ h => rEndQuorumEpochRequestTopicPartition_ext h hxc9 (fun k _ h => by have := h.1; omega))
  have hokc : okCells [str (atT t 0).s, c1, m] = true := ok_cons rfl (ok_cons hc1.one (ok_cons hm9.tags.one (ok_nil)))
  refine st_all [str (atT t 0).s, c1, m] hoq9 rfl hqlen hokc ?_
  intro we hoe hxe
  ((conv=>whnf);repeat(first|(refine mvT ?_;conv=>whnf)|(refine mvF ?_;conv=>whnf)|(refine cT (by rfl) ?_;conv=>whnf)|(refine cF (by rfl) ?_;conv=>whnf)))
  refine ⟨_, rfl, hoe.cells, ?_⟩
  have hxn : Ext nob w0 w9 := (Ext.refl nob w0).trans hx09 fun k hk e => by omega
  exact ⟨_, rfl, hokc, ⟨c1, m, rfl, (hc1.ext hxe (fun k _ h => h.2.1) (fun _ _ h => rEndQuorumEpochRequestTopicPartition_ext h hxe (fun k _ h => h.2.1))).mono (fun k _ h => h.2.2.imp (hRF k) id) (fun _ _ h => rEndQuorumEpochRequestTopicPartition_mono h fun k _ h => h.2.2.imp (hRF k) id), (hm9.tags.ext hxe (fun k _ h e => by rcases h with h | h; (have := (hR0 k h).1; omega); omega)).mono fun k _ h => h.imp (hRF k) (fun h => by omega)⟩, hxn.trans hxe fun k hk e => by omega⟩
theorem makeEndQuorumEpochRequestLeaderEndpoint {F : Nat → Prop} {w0 : World} {u : Int} {x : Value} {t : T} (ht : Tr w0 F x t) (hok : partOK 8 u dEndQuorumEpochRequestLeaderEndpoint t) :
    Does X.P 92 #[x] w0 fun r w' => ∃ cs : List Value, r = .agg cs.toArray ∧ okCells cs = true ∧ rEndQuorumEpochRequestLeaderEndpoint w' (fun k => F k ∨ w0.heap.size ≤ k) cs t ∧ Ext nob w0 w' := by
  obtain ⟨R0, hR0, hRF, ht0⟩ : ∃ R0 : Nat → Prop, (∀ k, R0 k → k < w0.heap.size) ∧ (∀ k, R0 k → F k) ∧ Tr w0 R0 x t := ⟨fun k => k < w0.heap.size ∧ F k, fun k h => h.1, fun k h => h.2, ht.mono fun k h1 h2 => ⟨h1, h2⟩⟩
  clear ht
  obtain ⟨sv, lv, uv, ls, rfl, hn, hs, hl, hels, htg⟩ := ht0.open
  obtain ⟨us, hus, husl, huc⟩ := id htg
  obtain ⟨au, cu, rfl, husc, husm, husF, _, husC⟩ := hus.view
  refine Does.go (X := X) (l := [_]) Tryz.func92 rfl (by kernel_rfl) (by kernel_rfl) _ rfl ?_
  ((conv=>whnf);repeat(first|(refine mvT ?_;conv=>whnf)|(refine mvF ?_;conv=>whnf)|(refine cT (by rfl) ?_;conv=>whnf)|(refine cF (by rfl) ?_;conv=>whnf)))
  intro b wb hb ho hx
  ((conv=>whnf);repeat(first|(refine mvT ?_;conv=>whnf)|(refine mvF ?_;conv=>whnf)|(refine cT (by rfl) ?_;conv=>whnf)|(refine cF (by rfl) ?_;conv=>whnf)))
  intro q wq hqb hoq hxq
  ((conv=>whnf);repeat(first|(refine mvT ?_;conv=>whnf)|(refine mvF ?_;conv=>whnf)|(refine cT (by rfl) ?_;conv=>whnf)|(refine cF (by rfl) ?_;conv=>whnf)))
  intro p wc hpB hp hxp
  have hbl := ho.lt
  have hql := hoq.lt
  have hs1 := hx.size
  have hs2 := hxq.size
  have hpb : p ≠ b := by omega
  have hpq : p ≠ q := by omega
  have hwp : w0.heap.size ≤ p := by omega
  have hR0 : ∀ k, R0 k → k < w0.heap.size ∧ k ≠ p := fun k h => ⟨hR0 k h, by have := hR0 k h; omega⟩
  obtain ⟨ty, hp⟩ : ∃ T, Own wc p T [str [], str [], .int .u16 0, .map none] := ⟨_, hp⟩
  have ho : Own wc b ImplTreeT [.int .i64 t.n, sv, .bool t.nl, lv, .slice au us.length cu] := (ho.e0 hxq).e0 hxp
  have hoq := hoq.e0 hxp
  obtain ⟨qT, qL, hqlen, hoq⟩ : ∃ T L, L.length = 4 ∧ Own wc q T L := ⟨_, _, rfl, hoq⟩
  have hx0 : Ext (fun k => k = p) w0 wc := ((hx.e0 hxq).e0 hxp).mono fun _ _ f => f.elim
  ((conv=>whnf);repeat(first|(refine mvT ?_;conv=>whnf)|(refine mvF ?_;conv=>whnf)|(refine cT (by rfl) ?_;conv=>whnf)|(refine cF (by rfl) ?_;conv=>whnf)))
  refine ⟨_, rfl, ho.cells, ?_⟩
  ((conv=>whnf);repeat(first|(refine mvT ?_;conv=>whnf)|(refine mvF ?_;conv=>whnf)|(refine cT (by rfl) ?_;conv=>whnf)|(refine cF (by rfl) ?_;conv=>whnf)))
  refine Does.mono (iat_does (ht0.ext hx0 fun k _ h => (hR0 k h).2) 0) ?_
  rintro ra wa ⟨hra, hxa⟩
  obtain ⟨sva, lva, uva, lsa, rfl, hna, hsa, hla, helsa, hua⟩ := hra.open
  ((conv=>whnf);repeat(first|(refine mvT ?_;conv=>whnf)|(refine mvF ?_;conv=>whnf)|(refine cT (by rfl) ?_;conv=>whnf)|(refine cF (by rfl) ?_;conv=>whnf)))
  refine ⟨_, _, hsa, ?_⟩
  ((conv=>whnf);repeat(first|(refine mvT ?_;conv=>whnf)|(refine mvF ?_;conv=>whnf)|(refine cT (by rfl) ?_;conv=>whnf)|(refine cF (by rfl) ?_;conv=>whnf)))
  refine st_cell (o := 0) (v := str (atT t 0).s) (hp.e0 hxa) (rfl) (by omega) rfl (by simp) (rfl) ?_
  intro wc hoc hxc
  have hp : Own wc p ty [str (atT t 0).s, str [], .int .u16 0, .map none] := hoc
  have ho := (ho.e0 hxa).ext hxc (Ne.symm hpb)
  have hx0 := (hx0.tr0 hxa).trans hxc fun _ _ h => h
  have hoq := (hoq.e0 hxa).ext hxc (Ne.symm hpq)
  ((conv=>whnf);repeat(first|(refine mvT ?_;conv=>whnf)|(refine mvF ?_;conv=>whnf)|(refine cT (by rfl) ?_;conv=>whnf)|(refine cF (by rfl) ?_;conv=>whnf)))
  refine ⟨_, rfl, ho.cells, ?_⟩
  ((conv=>whnf);repeat(first|(refine mvT ?_;conv=>whnf)|(refine mvF ?_;conv=>whnf)|(refine cT (by rfl) ?_;conv=>whnf)|(refine cF (by rfl) ?_;conv=>whnf)))
  refine Does.mono (iat_does (ht0.ext hx0 fun k _ h => (hR0 k h).2) 1) ?_
  rintro ra wa ⟨hra, hxa⟩
  obtain ⟨sva, lva, uva, lsa, rfl, hna, hsa, hla, helsa, hua⟩ := hra.open
  ((conv=>whnf);repeat(first|(refine mvT ?_;conv=>whnf)|(refine mvF ?_;conv=>whnf)|(refine cT (by rfl) ?_;conv=>whnf)|(refine cF (by rfl) ?_;conv=>whnf)))
  refine ⟨_, _, hsa, ?_⟩
  ((conv=>whnf);repeat(first|(refine mvT ?_;conv=>whnf)|(refine mvF ?_;conv=>whnf)|(refine cT (by rfl) ?_;conv=>whnf)|(refine cF (by rfl) ?_;conv=>whnf)))
  refine st_cell (o := 1) (v := str (atT t 1).s) (hp.e0 hxa) (rfl) (by omega) rfl (by simp) (rfl) ?_
  intro wc hoc hxc
  have hp : Own wc p ty [str (atT t 0).s, str (atT t 1).s, .int .u16 0, .map none] := hoc
  have ho := (ho.e0 hxa).ext hxc (Ne.symm hpb)
  have hx0 := (hx0.tr0 hxa).trans hxc fun _ _ h => h
  have hoq := (hoq.e0 hxa).ext hxc (Ne.symm hpq)
  ((conv=>whnf);repeat(first|(refine mvT ?_;conv=>whnf)|(refine mvF ?_;conv=>whnf)|(refine cT (by rfl) ?_;conv=>whnf)|(refine cF (by rfl) ?_;conv=>whnf)))
  refine ⟨_, rfl, ho.cells, ?_⟩
  ((conv=>whnf);repeat(first|(refine mvT ?_;conv=>whnf)|(refine mvF ?_;conv=>whnf)|(refine cT (by rfl) ?_;conv=>whnf)|(refine cF (by rfl) ?_;conv=>whnf)))
  refine Does.mono (iat_does (ht0.ext hx0 fun k _ h => (hR0 k h).2) 2) ?_
  rintro ra wa ⟨hra, hxa⟩
  obtain ⟨sva, lva, uva, lsa, rfl, hna, hsa, hla, helsa, hua⟩ := hra.open
  ((conv=>whnf);repeat(first|(refine mvT ?_;conv=>whnf)|(refine mvF ?_;conv=>whnf)|(refine cT (by rfl) ?_;conv=>whnf)|(refine cF (by rfl) ?_;conv=>whnf)))
  refine st_cell (o := 2) (v := .int .u16 (IntKind.u16.wrap (atT t 2).n)) (hp.e0 hxa) (rfl) (by omega) rfl (by simp) (rfl) ?_
  intro wc hoc hxc
  have hp : Own wc p ty [str (atT t 0).s, str (atT t 1).s, .int .u16 (IntKind.u16.wrap (atT t 2).n), .map none] := hoc
  have ho := (ho.e0 hxa).ext hxc (Ne.symm hpb)
  have hx0 := (hx0.tr0 hxa).trans hxc fun _ _ h => h
  have hoq := (hoq.e0 hxa).ext hxc (Ne.symm hpq)
  ((conv=>whnf);repeat(first|(refine mvT ?_;conv=>whnf)|(refine mvF ?_;conv=>whnf)|(refine cT (by rfl) ?_;conv=>whnf)|(refine cF (by rfl) ?_;conv=>whnf)))
  refine ldS (ho.cell rfl) ?_;((conv=>whnf);repeat(first|(refine mvT ?_;conv=>whnf)|(refine mvF ?_;conv=>whnf)|(refine cT (by rfl) ?_;conv=>whnf)|(refine cF (by rfl) ?_;conv=>whnf)))
  have hpN := hp.lt
  have h0N := hx0.size
  refine VL.loop (fun s : Nat × Value => [(1, .pointer (some ⟨b, 0, none⟩)), (2, .pointer (some ⟨q, 0, none⟩)), (3, .pointer (some ⟨p, 0, none⟩)), (22, .slice au us.length cu), (23, .int .i64 us.length), (24, .int .i64 s.1)])
    (fun s w' => (Ext (fun k => k = p) w0 w' ∧ Ext (fun k => k = p ∨ wc.heap.size ≤ k) wc w' ∧ s.1 ≤ us.length) ∧ Own w' p ty [str (atT t 0).s, str (atT t 1).s, .int .u16 (IntKind.u16.wrap (atT t 2).n), s.2] ∧ TagsO w' wc.heap.size R0 s.2 (t.u.take s.1)) (fun s => us.length - s.1) (0, .map none)
    ⟨rfl, rfl, rfl, rfl, rfl, rfl, trivial⟩ ⟨⟨hx0, Ext.refl _ _, Nat.zero_le _⟩, hp, TagsO.nil _ _ _⟩ ?_
  rintro ⟨i, m⟩ w9 ⟨⟨hx09, hxc9, hi⟩, hp9, hm9⟩
  dsimp only at hi hp9 hm9
  ((conv=>whnf);repeat(first|(refine mvT ?_;conv=>whnf)|(refine mvF ?_;conv=>whnf)|(refine cT (by rfl) ?_;conv=>whnf)|(refine cF (by rfl) ?_;conv=>whnf)))
  refine cI (by rfl) (fun h9=>?_) (fun h9=>?_)
  · have hil : i < us.length := by have := of_decide_eq_true h9; simp only at this; omega
    have hilu : i < t.u.length := by omega
    obtain ⟨hkey, bv, hci, hbv⟩ := huc i us[i] t.u[i] (by simp [hil]) (by simp [hilu])
    obtain ⟨b10, o10, rfl, hc10⟩ := husC i us[i] (by simp [hil])
    have hb10 := husF b10 o10 rfl (by omega)
    rw [hci] at hc10
    obtain ⟨av, cv, rfl, _⟩ := hbv.view
    have hc10 := hc10.ext hx09 (hR0 _ hb10.1).2
    have hbv9 := hbv.ext hx09 fun k _ h => (hR0 k h).2
    ((conv=>whnf);repeat(first|(refine mvT ?_;conv=>whnf)|(refine mvF ?_;conv=>whnf)|(refine cT (by rfl) ?_;conv=>whnf)|(refine cF (by rfl) ?_;conv=>whnf)))
    refine ⟨b10, o10, rfl, ⟨by omega, by omega⟩, ?_⟩
    ((conv=>whnf);repeat(first|(refine mvT ?_;conv=>whnf)|(refine mvF ?_;conv=>whnf)|(refine cT (by rfl) ?_;conv=>whnf)|(refine cF (by rfl) ?_;conv=>whnf)))
    refine ⟨_, rfl, by rw [Int.toNat_natCast]; exact hc10, ?_⟩
    ((conv=>whnf);repeat(first|(refine mvT ?_;conv=>whnf)|(refine mvF ?_;conv=>whnf)|(refine cT (by rfl) ?_;conv=>whnf)|(refine cF (by rfl) ?_;conv=>whnf)))
    intro b11 w11 hb11 ho11 hx11
    ((conv=>whnf);repeat(first|(refine mvT ?_;conv=>whnf)|(refine mvF ?_;conv=>whnf)|(refine cT (by rfl) ?_;conv=>whnf)|(refine cF (by rfl) ?_;conv=>whnf)))
    refine st_all [.int .u32 (t.u[i].1 : Int), .slice av (t.u[i]).2.length cv] ho11 rfl rfl rfl ?_
    intro w12 ho12 hx12
    have hx912 : Ext nob w9 w12 := (hx11.st hx12 hb11)
    ((conv=>whnf);repeat(first|(refine mvT ?_;conv=>whnf)|(refine mvF ?_;conv=>whnf)|(refine cT (by rfl) ?_;conv=>whnf)|(refine cF (by rfl) ?_;conv=>whnf)))
    refine ldS (ho12.cell rfl) ?_;((conv=>whnf);repeat(first|(refine mvT ?_;conv=>whnf)|(refine mvF ?_;conv=>whnf)|(refine cT (by rfl) ?_;conv=>whnf)|(refine cF (by rfl) ?_;conv=>whnf)))
    refine ldS (ho12.cell rfl) ?_;((conv=>whnf);repeat(first|(refine mvT ?_;conv=>whnf)|(refine mvF ?_;conv=>whnf)|(refine cT (by rfl) ?_;conv=>whnf)|(refine cF (by rfl) ?_;conv=>whnf)))
    have hnew : ∀ x, x ∈ t.u.take i → x.1 ≠ (t.u[i]).1 := by
      intro x hx
      obtain ⟨j, hj, rfl⟩ := List.mem_take_iff_getElem.1 hx
      have := List.pairwise_iff_getElem.1 hok.2.rise j i (by omega) hilu (by omega)
      omega
    refine Does.mono (Tags_Set_does (o := 3) (N := wc.heap.size) (hp9.e0 hx912) rfl (hm9.e0 hx912) (Nat.le_trans hxc9.size hx912.size) hpN (fun k h => ⟨by have := (hR0 k h).1; omega, (hR0 k h).2⟩) (hbv9.e0 hx912) hnew) ?_
    rintro r13 w13 ⟨m13, hone, hp13, hm13, hx13⟩
    ((conv=>whnf);repeat(first|(refine mvT ?_;conv=>whnf)|(refine mvF ?_;conv=>whnf)|(refine cT (by rfl) ?_;conv=>whnf)|(refine cF (by rfl) ?_;conv=>whnf)))
    have hx913 : Ext (fun k => k = p ∨ wc.heap.size ≤ k) w9 w13 := (hx912.mono fun _ _ f => f.elim).trans hx13 fun _ _ h => h
    refine ⟨(i + 1, m13), ⟨rfl, rfl, rfl, rfl, rfl, inc_eq (by rw [maxLen_eq] at husm; omega), trivial⟩, ⟨⟨hx09.trans hx913 fun k hk h => by omega, hxc9.trans hx913 fun _ _ h => h, by simp only; omega⟩, hp13, ?_⟩, by simp only; omega⟩
    rw [List.take_succ_eq_append_getElem hilu]
    exact hm13
  have hil : i = us.length := by have := of_decide_eq_false h9; simp only at this; omega
  ((conv=>whnf);repeat(first|(refine mvT ?_;conv=>whnf)|(refine mvF ?_;conv=>whnf)|(refine cT (by rfl) ?_;conv=>whnf)|(refine cF (by rfl) ?_;conv=>whnf)))
  rw [hil, husl, List.take_length] at hm9
  refine ⟨_, rfl, hp9.cells, ?_⟩
  ((conv=>whnf);repeat(first|(refine mvT ?_;conv=>whnf)|(refine mvF ?_;conv=>whnf)|(refine cT (by rfl) ?_;conv=>whnf)|(refine cF (by rfl) ?_;conv=>whnf)))
  have hoq9 := hoq.ext hxc9 (by have := hoq.lt; omega)
  have hokc : okCells [str (atT t 0).s, str (atT t 1).s, .int .u16 (IntKind.u16.wrap (atT t 2).n), m] = true := ok_cons rfl (ok_cons rfl (ok_cons rfl (ok_cons hm9.tags.one (ok_nil))))
  refine st_all [str (atT t 0).s, str (atT t 1).s, .int .u16 (IntKind.u16.wrap (atT t 2).n), m] hoq9 rfl hqlen hokc ?_
  intro we hoe hxe
  ((conv=>whnf);repeat(first|(refine mvT ?_;conv=>whnf)|(refine mvF ?_;conv=>whnf)|(refine cT (by rfl) ?_;conv=>whnf)|(refine cF (by rfl) ?_;conv=>whnf)))
  refine ⟨_, rfl, hoe.cells, ?_⟩
  have hxn : Ext nob w0 w9 := (Ext.refl nob w0).trans hx09 fun k hk e => by omega
  exact ⟨_, rfl, hokc, ⟨m, rfl, (hm9.tags.ext hxe (fun k _ h e => by rcases h with h | h; (have := (hR0 k h).1; omega); omega)).mono fun k _ h => h.imp (hRF k) (fun h => by omega)⟩, hxn.trans hxe fun k hk e => by omega⟩
theorem fillEndQuorumEpochRequest {F : Nat → Prop} {w0 : World} {p : Nat} {ty : TypeId} {v u : Int} {x : Value} {t : T} (hp : Own w0 p ty [.int .i16 v, .pointer none, .slice none 0 0, .slice none 0 0, .map none]) (ht : Tr w0 F x t) (hF : ∀ k, F k → k ≠ p) (hok : partOK 9 u dEndQuorumEpochRequest t) :
    Does X.P 49 #[.pointer (some ⟨p, 0, none⟩), x] w0 fun r w' => Ext (fun k => k = p) w0 w' ∧ ∃ c0 c1 c2 m, Own w' p ty [.int .i16 v, c0, c1, c2, m] ∧ NTextR w' (fun k => k ≠ p) c0 (atT t 0) ∧ ListR true 3 (rEndQuorumEpochRequestTopic w' (fun k => k ≠ p)) w' (fun k => k ≠ p) c1 (atT t 1) ∧ ListR true 4 (rEndQuorumEpochRequestLeaderEndpoint w' (fun k => k ≠ p)) w' (fun k => k ≠ p) c2 (atT t 2) ∧ TagsR w' (fun k => k ≠ p) m t.u := by
  have hpl := hp.lt
  obtain ⟨R0, hR0, ht0⟩ : ∃ R0 : Nat → Prop, (∀ k, R0 k → k < w0.heap.size ∧ k ≠ p) ∧ Tr w0 R0 x t := ⟨fun k => k < w0.heap.size ∧ k ≠ p, fun k h => h, ht.mono fun k h1 h2 => ⟨h1, hF k h2⟩⟩
  clear ht hF
  obtain ⟨sv, lv, uv, ls, rfl, hn, hs, hl, hels, htg⟩ := ht0.open
  obtain ⟨us, hus, husl, huc⟩ := id htg
  obtain ⟨au, cu, rfl, husc, husm, husF, _, husC⟩ := hus.view
  refine Does.go (X := X) (l := [_, _]) Tryz.func49 rfl (by kernel_rfl) (by kernel_rfl) _ rfl ?_
  ((conv=>whnf);repeat(first|(refine mvT ?_;conv=>whnf)|(refine mvF ?_;conv=>whnf)|(refine cT (by rfl) ?_;conv=>whnf)|(refine cF (by rfl) ?_;conv=>whnf)))
  intro b wc hb ho hx
  have hpb : p ≠ b := by omega
  have ho : Own wc b ImplTreeT [.int .i64 t.n, sv, .bool t.nl, lv, .slice au us.length cu] := ho
  have hx0 : Ext (fun k => k = p) w0 wc := hx.mono fun _ _ f => f.elim
  have hp := hp.e0 hx
  ((conv=>whnf);repeat(first|(refine mvT ?_;conv=>whnf)|(refine mvF ?_;conv=>whnf)|(refine cT (by rfl) ?_;conv=>whnf)|(refine cF (by rfl) ?_;conv=>whnf)))
  refine ⟨_, rfl, ho.cells, ?_⟩
  ((conv=>whnf);repeat(first|(refine mvT ?_;conv=>whnf)|(refine mvF ?_;conv=>whnf)|(refine cT (by rfl) ?_;conv=>whnf)|(refine cF (by rfl) ?_;conv=>whnf)))
  refine Does.mono (iat_does (ht0.ext hx0 fun k _ h => (hR0 k h).2) 0) ?_
  rintro ra wa ⟨hra, hxa⟩
  ((conv=>whnf);repeat(first|(refine mvT ?_;conv=>whnf)|(refine mvF ?_;conv=>whnf)|(refine cT (by rfl) ?_;conv=>whnf)|(refine cF (by rfl) ?_;conv=>whnf)))
  have hq := (hp.e0 hxa).lt
  have hq2 := (hx0.tr0 hxa).size
  refine Does.mono (textOf_does hra) ?_
  rintro c0 wb ⟨hc0, h1, hxb⟩
  have hc0 := hc0.mono (F' := (fun k => k ≠ p ∧ (R0 k ∨ w0.heap.size ≤ k))) fun k _ h => ⟨by omega, .inr (by omega)⟩
  have hxa := hxa.e0 hxb
  ((conv=>whnf);repeat(first|(refine mvT ?_;conv=>whnf)|(refine mvF ?_;conv=>whnf)|(refine cT (by rfl) ?_;conv=>whnf)|(refine cF (by rfl) ?_;conv=>whnf)))
  refine st_cell (o := 1) (v := c0) (hp.e0 hxa) (cells_one h1) (by omega) rfl (by simp) (h1) ?_
  intro wc hoc hxc
  have hp : Own wc p ty [.int .i16 v, c0, .slice none 0 0, .slice none 0 0, .map none] := hoc
  have ho := (ho.e0 hxa).ext hxc (Ne.symm hpb)
  have hx0 := (hx0.tr0 hxa).trans hxc fun _ _ h => h
  have hc0 := hc0.ext hxc fun k _ h => h.1
  ((conv=>whnf);repeat(first|(refine mvT ?_;conv=>whnf)|(refine mvF ?_;conv=>whnf)|(refine cT (by rfl) ?_;conv=>whnf)|(refine cF (by rfl) ?_;conv=>whnf)))
  have hfl := fieldOK_list (hok.1 1 _ rfl)
  refine ⟨_, rfl, ho.cells, ?_⟩
  ((conv=>whnf);repeat(first|(refine mvT ?_;conv=>whnf)|(refine mvF ?_;conv=>whnf)|(refine cT (by rfl) ?_;conv=>whnf)|(refine cF (by rfl) ?_;conv=>whnf)))
  refine Does.mono (iat_does (ht0.ext hx0 fun k _ h => (hR0 k h).2) 1) ?_
  rintro ra wa ⟨hra, hxa⟩
  obtain ⟨sva, lva, uva, lsa, rfl, hna, hsa, hla, helsa, hua⟩ := hra.open
  ((conv=>whnf);repeat(first|(refine mvT ?_;conv=>whnf)|(refine mvF ?_;conv=>whnf)|(refine cT (by rfl) ?_;conv=>whnf)|(refine cF (by rfl) ?_;conv=>whnf)))
  refine VC.cutE (fun c : Value => [(0, .pointer (some ⟨p, 0, none⟩)), (3, .pointer (some ⟨b, 0, none⟩))]) (fun c w' => Ext (fun k => k = p) w0 w' ∧ Own w' p ty [.int .i16 v, c0, c, .slice none 0 0, .map none] ∧ Own w' b ImplTreeT [.int .i64 t.n, sv, .bool t.nl, lv, .slice au us.length cu] ∧ NTextR w' (fun k => k ≠ p ∧ (R0 k ∨ w0.heap.size ≤ k)) c0 (atT t 0) ∧ ListR true 3 (rEndQuorumEpochRequestTopic w' (fun k => k ≠ p ∧ (R0 k ∨ w0.heap.size ≤ k))) w' (fun k => k ≠ p ∧ (R0 k ∨ w0.heap.size ≤ k)) c (atT t 1)) ?_ ?_
  · refine cI (by rfl) (fun hnl=>?_) (fun hnl=>?_)
    · have hnl : (atT t 1).nl = false := by simpa using hnl
      ((conv=>whnf);repeat(first|(refine mvT ?_;conv=>whnf)|(refine mvF ?_;conv=>whnf)|(refine cT (by rfl) ?_;conv=>whnf)|(refine cF (by rfl) ?_;conv=>whnf)))
      have hx1 := hx0.tr0 hxa
      refine ⟨_, rfl, (ho.e0 hxa).cells, ?_⟩
      ((conv=>whnf);repeat(first|(refine mvT ?_;conv=>whnf)|(refine mvF ?_;conv=>whnf)|(refine cT (by rfl) ?_;conv=>whnf)|(refine cF (by rfl) ?_;conv=>whnf)))
      refine Does.mono (iat_does (ht0.ext hx1 fun k _ h => (hR0 k h).2) 1) ?_
      rintro r5 w5 ⟨hr5, hx5⟩
      obtain ⟨sv5, lv5, uv5, ls5, rfl, hn5, hs5, hl5, hels5, hu5⟩ := hr5.open
      obtain ⟨a5, c5, rfl, _⟩ := hl5.view
      have hlen5 := hels5.len
      ((conv=>whnf);repeat(first|(refine mvT ?_;conv=>whnf)|(refine mvF ?_;conv=>whnf)|(refine cT (by rfl) ?_;conv=>whnf)|(refine cF (by rfl) ?_;conv=>whnf)))
      refine ⟨⟨by omega, by omega, by omega, by simp only [Int.toNat_natCast]; omega⟩, ⟨by decide, rfl⟩, ?_⟩
      intro b6 w6 hb6 ho6 hx6
      ((conv=>whnf);repeat(first|(refine mvT ?_;conv=>whnf)|(refine mvF ?_;conv=>whnf)|(refine cT (by rfl) ?_;conv=>whnf)|(refine cF (by rfl) ?_;conv=>whnf)))
      have hx56 := (hxa.e0 hx5).e0 hx6
      have hsz5 := (hxa.e0 hx5).size
      have hszc := hx0.size
      have hb6l := ho6.lt
      have hplc := hp.lt
      have hblc := ho.lt
      refine st_cell (o := 2) (v := .slice (some ⟨b6, 0, none⟩) 0 ls5.length) (hp.e0 hx56) rfl (by omega) rfl (by simp) rfl ?_
      intro w7 ho7 hx7
      ((conv=>whnf);repeat(first|(refine mvT ?_;conv=>whnf)|(refine mvF ?_;conv=>whnf)|(refine cT (by rfl) ?_;conv=>whnf)|(refine cF (by rfl) ?_;conv=>whnf)))
      have hx7c : Ext (fun k => k = p) wc w7 := (hx56.mono fun _ _ f => f.elim).trans hx7 fun _ _ h => h
      have hx07 := hx0.trans hx7c fun _ _ h => h
      refine ⟨_, rfl, (ho.ext hx7c (Ne.symm hpb)).cells, ?_⟩
      ((conv=>whnf);repeat(first|(refine mvT ?_;conv=>whnf)|(refine mvF ?_;conv=>whnf)|(refine cT (by rfl) ?_;conv=>whnf)|(refine cF (by rfl) ?_;conv=>whnf)))
      refine Does.mono (iat_does (ht0.ext hx07 fun k _ h => (hR0 k h).2) 1) ?_
      rintro r8 w8 ⟨hr8, hx8⟩
      obtain ⟨sv8, lv8, uv8, ls8, rfl, hn8, hs8, hl8, hels8, hu8⟩ := hr8.open
      obtain ⟨a8, c8, rfl, hc8, hm8, hF8, _, hC8⟩ := hl8.view
      have hlen8 := hels8.len
      ((conv=>whnf);repeat(first|(refine mvT ?_;conv=>whnf)|(refine mvF ?_;conv=>whnf)|(refine cT (by rfl) ?_;conv=>whnf)|(refine cF (by rfl) ?_;conv=>whnf)))
      have hx8c : Ext (fun k => k = p ∨ wc.heap.size ≤ k) wc w8 := (hx7c.tr0 hx8).mono fun _ _ h => .inl h
      have hx08 := hx07.tr0 hx8
      have hos8 := (OSl.mk0 (sz := 3) (n := ls5.length) (ho6.ext hx7 (by omega)) (by simp) (by rw [maxLen_eq]; omega) (B := wc.heap.size) (by omega)).e0 hx8
      refine VL.loop (fun s : Nat × Value => [(0, .pointer (some ⟨p, 0, none⟩)), (3, .pointer (some ⟨b, 0, none⟩)), (30, .slice a8 ls8.length c8), (31, .int .i64 ls8.length), (32, .int .i64 s.1)])
        (fun s w' => (Ext (fun k => k = p) w0 w' ∧ Ext (fun k => k = p ∨ wc.heap.size ≤ k) wc w' ∧ Ext (fun k => k = p ∨ w0.heap.size ≤ k) w8 w' ∧ s.1 ≤ ls8.length ∧ s.2 ≠ .slice none 0 0) ∧ Own w' p ty [.int .i16 v, c0, s.2, .slice none 0 0, .map none] ∧ ∃ es : List (List Value), OSl w' wc.heap.size 144 3 s.2 es ∧ es.length = s.1 ∧ ∀ (j : Nat) (c : List Value) (x : T), es[j]? = some c → (atT t 1).l[j]? = some x → rEndQuorumEpochRequestTopic w' (fun k => k ≠ p ∧ (R0 k ∨ w0.heap.size ≤ k) ∧ s.2.ownBlock ≠ some k) c x) (fun s => ls8.length - s.1) (0, .slice (some ⟨b6, 0, none⟩) 0 ls5.length)
        ⟨rfl, rfl, rfl, rfl, rfl, trivial⟩ ⟨⟨hx08, hx8c, Ext.refl _ _, Nat.zero_le _, by simp⟩, ho7.e0 hx8, [], hos8, rfl, by simp⟩ ?_
      rintro ⟨i, sl⟩ w9 ⟨⟨hx09, hxc9, hx89, hi, hnn⟩, hp9, es, hos9, hesl, hesr⟩
      dsimp only at hi hp9 hos9 hesl hesr hnn
      ((conv=>whnf);repeat(first|(refine mvT ?_;conv=>whnf)|(refine mvF ?_;conv=>whnf)|(refine cT (by rfl) ?_;conv=>whnf)|(refine cF (by rfl) ?_;conv=>whnf)))
      refine cI (by rfl) (fun h9=>?_) (fun h9=>?_)
      · have hil : i < ls8.length := by have := of_decide_eq_true h9; simp only at this; omega
        have hill : i < (atT t 1).l.length := by omega
        have htr := hels8.at' i ls8[i] (atT t 1).l[i] (by simp [hil]) (by simp [hill])
        obtain ⟨b10, o10, rfl, hc10⟩ := hC8 i ls8[i] (by simp [hil])
        have hb10 := hF8 b10 o10 rfl (by omega)
        have hc10 := hc10.ext hx89 (by have := hR0 _ hb10.1; omega)
        have htr9 := htr.ext hx89 fun k _ h => by have := hR0 _ h; omega
        ((conv=>whnf);repeat(first|(refine mvT ?_;conv=>whnf)|(refine mvF ?_;conv=>whnf)|(refine cT (by rfl) ?_;conv=>whnf)|(refine cF (by rfl) ?_;conv=>whnf)))
        refine ⟨b10, o10, rfl, ⟨by omega, by omega⟩, ?_⟩
        ((conv=>whnf);repeat(first|(refine mvT ?_;conv=>whnf)|(refine mvF ?_;conv=>whnf)|(refine cT (by rfl) ?_;conv=>whnf)|(refine cF (by rfl) ?_;conv=>whnf)))
        refine ⟨ls8[i], htr.len, by rw [Int.toNat_natCast]; exact hc10, ?_⟩
        ((conv=>whnf);repeat(first|(refine mvT ?_;conv=>whnf)|(refine mvF ?_;conv=>whnf)|(refine cT (by rfl) ?_;conv=>whnf)|(refine cF (by rfl) ?_;conv=>whnf)))
        intro b11 w11 hb11 ho11 hx11
        ((conv=>whnf);repeat(first|(refine mvT ?_;conv=>whnf)|(refine mvF ?_;conv=>whnf)|(refine cT (by rfl) ?_;conv=>whnf)|(refine cF (by rfl) ?_;conv=>whnf)))
        refine st_all ls8[i] ho11 htr.len rfl htr.ok ?_
        intro w12 ho12 hx12
        have hx912 : Ext nob w9 w12.drew := (hx11.st hx12 hb11).e0 (ext_drew _)
        have ho12 := ho12.e0 (ext_drew _)
        have htr12 := htr9.e0 hx912
        obtain ⟨sv6, lv6, uv6, ls6, hy, hn6, hsy, _⟩ := Tr.open ⟨ls8[i], rfl, htr12⟩
        have hci : ls8[i] = [.int .i64 ((atT t 1).l[i]).n, sv6, .bool ((atT t 1).l[i]).nl, lv6, uv6] := by
          have := congrArg Value.cells hy
          exact congrArg Array.toList this
        rw [hci] at ho12 htr12
        have hs912 := hx912.size
        have hs9c := hxc9.size
        ((conv=>whnf);repeat(first|(refine mvT ?_;conv=>whnf)|(refine mvF ?_;conv=>whnf)|(refine cT (by rfl) ?_;conv=>whnf)|(refine cF (by rfl) ?_;conv=>whnf)))
        refine VD.draw mixed (.q 0 (.q 1 (.q 2 (.q 3 (.q 4 (.q 5 (.eff 6 [4] (.eff 7 [4] (.eff 8 [] (.q 9 (.q 10 (.eff 11 [] (.done))))))))))))) (by kernel_rfl) ?_;((conv=>whnf);repeat(first|(refine mvT ?_;conv=>whnf)|(refine mvF ?_;conv=>whnf)|(refine cT (by rfl) ?_;conv=>whnf)|(refine cF (by rfl) ?_;conv=>whnf)))
        refine ldS ((hp9.e0 hx912).cell rfl) ?_;((conv=>whnf);repeat(first|(refine mvT ?_;conv=>whnf)|(refine mvF ?_;conv=>whnf)|(refine cT (by rfl) ?_;conv=>whnf)|(refine cF (by rfl) ?_;conv=>whnf)))
        refine ⟨_, rfl, ho12.cells, ?_⟩
        ((conv=>whnf);repeat(first|(refine mvT ?_;conv=>whnf)|(refine mvF ?_;conv=>whnf)|(refine cT (by rfl) ?_;conv=>whnf)|(refine cF (by rfl) ?_;conv=>whnf)))
        refine Does.mono (makeEndQuorumEpochRequestTopic (u := u) ⟨_, rfl, htr12⟩ ((hfl.2 _ (List.getElem_mem hill)).2.2 rfl)) ?_
        rintro r13 w13 ⟨es13, rfl, hok13, hr13, hxm13⟩
        obtain ⟨zc1, zm, rfl, _⟩ := id hr13
        have hx913 := hx912.e0 hxm13
        refine ⟨by (conv => whnf); exact ⟨⟨_, (hp9.e0 hx913).cell rfl, rfl, rfl⟩, trivial⟩, ?_⟩
        ((conv=>whnf);repeat(first|(refine mvT ?_;conv=>whnf)|(refine mvF ?_;conv=>whnf)|(refine cT (by rfl) ?_;conv=>whnf)|(refine cF (by rfl) ?_;conv=>whnf)))
        intro b13 w14 hb13 ho13 hx13
        have ho13 : Own w14 b13 144 [str (atT (atT t 1).l[i] 0).s, zc1, zm] := ho13
        have hr13 := rEndQuorumEpochRequestTopic_ext hr13 hx13 fun _ _ _ f => f
        have hx913 := hx913.e0 hx13
        refine ⟨by (conv => whnf); exact ⟨⟨_, (hp9.e0 hx913).cell rfl, rfl, rfl⟩, trivial⟩, ?_⟩
        have hs913 := hx913.size
        ((conv=>whnf);repeat(first|(refine mvT ?_;conv=>whnf)|(refine mvF ?_;conv=>whnf)|(refine cT (by rfl) ?_;conv=>whnf)|(refine cF (by rfl) ?_;conv=>whnf)))
        refine app_struct (ms := [[str (atT (atT t 1).l[i] 0).s, zc1, zm]]) rfl (hos9.e0 hx913) (src_one ho13 (rEndQuorumEpochRequestTopic_len hr13) rfl) (by simp) (by simpa only [List.flatten_cons, List.flatten_nil, List.append_nil] using hok13) rfl ⟨by simp only [List.length_singleton, hesl]; omega, by simp only [List.length_singleton, hesl]; omega⟩ (by omega) ?_
        intro v15 w15 hos15 hx15 hb15 hnn15
        obtain ⟨a15, n15, c15, rfl⟩ : ∃ a n c, v15 = .slice a n c := by
          obtain ⟨a, c, h, _⟩ := hos15.shape
          exact ⟨a, _, c, h⟩
        have hpsl : ¬ sl.ownBlock = some p := fun h => by have := hos9.blk p h; omega
        have ho15 := (hp9.e0 hx913).ext hx15 hpsl
        ((conv=>whnf);repeat(first|(refine mvT ?_;conv=>whnf)|(refine mvF ?_;conv=>whnf)|(refine cT (by rfl) ?_;conv=>whnf)|(refine cF (by rfl) ?_;conv=>whnf)))
        refine st_cell (o := 2) (v := .slice a15 n15 c15) ho15 rfl (by omega) rfl (by simp) rfl ?_
        intro w16 ho16 hx16
        ((conv=>whnf);repeat(first|(refine mvT ?_;conv=>whnf)|(refine mvF ?_;conv=>whnf)|(refine cT (by rfl) ?_;conv=>whnf)|(refine cF (by rfl) ?_;conv=>whnf)))
        have hx916 : Ext (fun k => k = p ∨ wc.heap.size ≤ k) w9 w16 := ((hx913.mono fun _ _ f => f.elim).trans hx15 fun k _ h => .inr (hos9.blk k h)).trans hx16 fun _ _ h => .inl h
        have hos16 := hos15.ext hx16 fun k hk h => by have := hos15.blk k hk; omega
        refine ⟨(i + 1, _), ⟨rfl, rfl, rfl, rfl, inc_eq (by rw [maxLen_eq] at hm8; omega), trivial⟩, ⟨⟨hx09.trans hx916 fun k hk h => by omega, hxc9.trans hx916 fun _ _ h => h, hx89.trans hx916 fun k hk h => by omega, by simp only; omega, hnn15 hnn⟩, ho16, es ++ [[str (atT (atT t 1).l[i] 0).s, zc1, zm]], hos16, by simp [hesl], ?_⟩, by simp only; omega⟩
        intro j c x hj hx
        have key : rEndQuorumEpochRequestTopic w14 (fun k => k ≠ p ∧ (R0 k ∨ w0.heap.size ≤ k) ∧ sl.ownBlock ≠ some k) c x := by
          rcases Nat.lt_or_ge j es.length with hjl | hjl
          · rw [List.getElem?_append_left hjl] at hj
            exact rEndQuorumEpochRequestTopic_ext (hesr j c x hj hx) hx913 fun _ _ _ f => f
          · have hj0 : j = es.length := by have := (List.getElem?_eq_some_iff.1 hj).1; simp at this; omega
            subst hj0
            rw [List.getElem?_append_right (Nat.le_refl _), Nat.sub_self, List.getElem?_cons_zero, Option.some.injEq] at hj
            subst hj
            rw [hesl, List.getElem?_eq_getElem hill, Option.some.injEq] at hx
            subst hx
            exact rEndQuorumEpochRequestTopic_mono hr13 fun k hk h => by
              have hkp : k ≠ p := by rcases h with h | h; exact (hR0 k h).2; omega
              exact ⟨hkp, h.imp id (fun h => by omega), fun e => by have := hos9.own.lt k e; rcases h with h | h; (have := (hR0 k h).1; have := hos9.blk k e; omega); omega⟩
        have key2 := rEndQuorumEpochRequestTopic_ext (rEndQuorumEpochRequestTopic_ext (rEndQuorumEpochRequestTopic_mono key (F' := fun k => (fun k => k ≠ p ∧ (R0 k ∨ w0.heap.size ≤ k) ∧ sl.ownBlock ≠ some k) k ∧ k < w14.heap.size) fun k hk h => ⟨h, hk⟩) hx15 fun k _ h => h.1.2.2) hx16 fun k _ h => h.1.1
        exact rEndQuorumEpochRequestTopic_mono key2 fun k _ h => ⟨h.1.1, h.1.2.1, fun e => by
          rcases hb15 with e2 | ⟨g, hg, hle⟩
          · exact h.1.2.2 (e2 ▸ e)
          · have e : (Value.slice a15 n15 c15).ownBlock = some k := e
            rw [hg, Option.some.injEq] at e
            have := h.2
            omega⟩
      have hil : i = ls8.length := by have := of_decide_eq_false h9; simp only at this; omega
      ((conv=>whnf);repeat(first|(refine mvT ?_;conv=>whnf)|(refine mvF ?_;conv=>whnf)|(refine cT (by rfl) ?_;conv=>whnf)|(refine cF (by rfl) ?_;conv=>whnf)))
      have hli : ListR true 3 (rEndQuorumEpochRequestTopic w9 (fun k => k ≠ p ∧ (R0 k ∨ w0.heap.size ≤ k))) w9 (fun k => k ≠ p ∧ (R0 k ∨ w0.heap.size ≤ k)) sl (atT t 1) := by
        refine .inr ⟨hnl, fun _ => ?_, es, hos9.sl fun k hk => ⟨by omega, .inr (by omega)⟩, by omega, fun j c x hj hx => rEndQuorumEpochRequestTopic_mono (hesr j c x hj hx) fun k _ h => ⟨h.1, h.2.1⟩⟩
        rcases hos9.own.2 with ⟨e, _⟩ | ⟨g, cap, cur, e, _⟩
        · exact absurd e hnn
        · exact ⟨_, _, _, e⟩
      exact ⟨sl, ⟨rfl, rfl, trivial⟩, hx09, hp9, ho.ext hxc9 (by omega), hc0.ext hxc9 (fun k _ h => by have := h.1; omega), hli⟩
    · have hnl : (atT t 1).nl = true := by simpa using hnl
      ((conv=>whnf);repeat(first|(refine mvT ?_;conv=>whnf)|(refine mvF ?_;conv=>whnf)|(refine cT (by rfl) ?_;conv=>whnf)|(refine cF (by rfl) ?_;conv=>whnf)))
      exact ⟨_, ⟨rfl, rfl, trivial⟩, hx0.tr0 hxa, hp.e0 hxa, ho.e0 hxa, hc0.ext hxa (fun _ _ _ f => f), .inl ⟨hnl, rfl⟩⟩
  clear hfl
  rintro c1 wc ⟨hx0, hp, ho, hc0, hc1⟩
  ((conv=>whnf);repeat(first|(refine mvT ?_;conv=>whnf)|(refine mvF ?_;conv=>whnf)|(refine cT (by rfl) ?_;conv=>whnf)|(refine cF (by rfl) ?_;conv=>whnf)))
  have hfl := fieldOK_list (hok.1 2 _ rfl)
  refine ⟨_, rfl, ho.cells, ?_⟩
  ((conv=>whnf);repeat(first|(refine mvT ?_;conv=>whnf)|(refine mvF ?_;conv=>whnf)|(refine cT (by rfl) ?_;conv=>whnf)|(refine cF (by rfl) ?_;conv=>whnf)))
  refine Does.mono (iat_does (ht0.ext hx0 fun k _ h => (hR0 k h).2) 2) ?_
  rintro ra wa ⟨hra, hxa⟩
  obtain ⟨sva, lva, uva, lsa, rfl, hna, hsa, hla, helsa, hua⟩ := hra.open
  ((conv=>whnf);repeat(first|(refine mvT ?_;conv=>whnf)|(refine mvF ?_;conv=>whnf)|(refine cT (by rfl) ?_;conv=>whnf)|(refine cF (by rfl) ?_;conv=>whnf)))
  refine VC.cutE (fun c : Value => [(0, .pointer (some ⟨p, 0, none⟩)), (3, .pointer (some ⟨b, 0, none⟩))]) (fun c w' => Ext (fun k => k = p) w0 w' ∧ Own w' p ty [.int .i16 v, c0, c1, c, .map none] ∧ Own w' b ImplTreeT [.int .i64 t.n, sv, .bool t.nl, lv, .slice au us.length cu] ∧ NTextR w' (fun k => k ≠ p ∧ (R0 k ∨ w0.heap.size ≤ k)) c0 (atT t 0) ∧ ListR true 3 (rEndQuorumEpochRequestTopic w' (fun k => k ≠ p ∧ (R0 k ∨ w0.heap.size ≤ k))) w' (fun k => k ≠ p ∧ (R0 k ∨ w0.heap.size ≤ k)) c1 (atT t 1) ∧ ListR true 4 (rEndQuorumEpochRequestLeaderEndpoint w' (fun k => k ≠ p ∧ (R0 k ∨ w0.heap.size ≤ k))) w' (fun k => k ≠ p ∧ (R0 k ∨ w0.heap.size ≤ k)) c (atT t 2)) ?_ ?_
  · refine cI (by rfl) (fun hnl=>?_) (fun hnl=>?_)
    · have hnl : (atT t 2).nl = false := by simpa using hnl
      ((conv=>whnf);repeat(first|(refine mvT ?_;conv=>whnf)|(refine mvF ?_;conv=>whnf)|(refine cT (by rfl) ?_;conv=>whnf)|(refine cF (by rfl) ?_;conv=>whnf)))
      have hx1 := hx0.tr0 hxa
      refine ⟨_, rfl, (ho.e0 hxa).cells, ?_⟩
      ((conv=>whnf);repeat(first|(refine mvT ?_;conv=>whnf)|(refine mvF ?_;conv=>whnf)|(refine cT (by rfl) ?_;conv=>whnf)|(refine cF (by rfl) ?_;conv=>whnf)))
      refine Does.mono (iat_does (ht0.ext hx1 fun k _ h => (hR0 k h).2) 2) ?_
      rintro r5 w5 ⟨hr5, hx5⟩
      obtain ⟨sv5, lv5, uv5, ls5, rfl, hn5, hs5, hl5, hels5, hu5⟩ := hr5.open
      obtain ⟨a5, c5, rfl, _⟩ := hl5.view
      have hlen5 := hels5.len
      ((conv=>whnf);repeat(first|(refine mvT ?_;conv=>whnf)|(refine mvF ?_;conv=>whnf)|(refine cT (by rfl) ?_;conv=>whnf)|(refine cF (by rfl) ?_;conv=>whnf)))
      refine ⟨⟨by omega, by omega, by omega, by simp only [Int.toNat_natCast]; omega⟩, ⟨by decide, rfl⟩, ?_⟩
      intro b6 w6 hb6 ho6 hx6
      ((conv=>whnf);repeat(first|(refine mvT ?_;conv=>whnf)|(refine mvF ?_;conv=>whnf)|(refine cT (by rfl) ?_;conv=>whnf)|(refine cF (by rfl) ?_;conv=>whnf)))
      have hx56 := (hxa.e0 hx5).e0 hx6
      have hsz5 := (hxa.e0 hx5).size
      have hszc := hx0.size
      have hb6l := ho6.lt
      have hplc := hp.lt
      have hblc := ho.lt
      refine st_cell (o := 3) (v := .slice (some ⟨b6, 0, none⟩) 0 ls5.length) (hp.e0 hx56) rfl (by omega) rfl (by simp) rfl ?_
      intro w7 ho7 hx7
      ((conv=>whnf);repeat(first|(refine mvT ?_;conv=>whnf)|(refine mvF ?_;conv=>whnf)|(refine cT (by rfl) ?_;conv=>whnf)|(refine cF (by rfl) ?_;conv=>whnf)))
      have hx7c : Ext (fun k => k = p) wc w7 := (hx56.mono fun _ _ f => f.elim).trans hx7 fun _ _ h => h
      have hx07 := hx0.trans hx7c fun _ _ h => h
      refine ⟨_, rfl, (ho.ext hx7c (Ne.symm hpb)).cells, ?_⟩
      ((conv=>whnf);repeat(first|(refine mvT ?_;conv=>whnf)|(refine mvF ?_;conv=>whnf)|(refine cT (by rfl) ?_;conv=>whnf)|(refine cF (by rfl) ?_;conv=>whnf)))
      refine Does.mono (iat_does (ht0.ext hx07 fun k _ h => (hR0 k h).2) 2) ?_
      rintro r8 w8 ⟨hr8, hx8⟩
      obtain ⟨sv8, lv8, uv8, ls8, rfl, hn8, hs8, hl8, hels8, hu8⟩ := hr8.open
      obtain ⟨a8, c8, rfl, hc8, hm8, hF8, _, hC8⟩ := hl8.view
      have hlen8 := hels8.len
      ((conv=>whnf);repeat(first|(refine mvT ?_;conv=>whnf)|(refine mvF ?_;conv=>whnf)|(refine cT (by rfl) ?_;conv=>whnf)|(refine cF (by rfl) ?_;conv=>whnf)))
      have hx8c : Ext (fun k => k = p ∨ wc.heap.size ≤ k) wc w8 := (hx7c.tr0 hx8).mono fun _ _ h => .inl h
      have hx08 := hx07.tr0 hx8
      have hos8 := (OSl.mk0 (sz := 4) (n := ls5.length) (ho6.ext hx7 (by omega)) (by simp) (by rw [maxLen_eq]; omega) (B := wc.heap.size) (by omega)).e0 hx8
      refine VL.loop (fun s : Nat × Value => [(0, .pointer (some ⟨p, 0, none⟩)), (3, .pointer (some ⟨b, 0, none⟩)), (62, .slice a8 ls8.length c8), (63, .int .i64 ls8.length), (64, .int .i64 s.1)])
        (fun s w' => (Ext (fun k => k = p) w0 w' ∧ Ext (fun k => k = p ∨ wc.heap.size ≤ k) wc w' ∧ Ext (fun k => k = p ∨ w0.heap.size ≤ k) w8 w' ∧ s.1 ≤ ls8.length ∧ s.2 ≠ .slice none 0 0) ∧ Own w' p ty [.int .i16 v, c0, c1, s.2, .map none] ∧ ∃ es : List (List Value), OSl w' wc.heap.size 148 4 s.2 es ∧ es.length = s.1 ∧ ∀ (j : Nat) (c : List Value) (x : T), es[j]? = some c → (atT t 2).l[j]? = some x → rEndQuorumEpochRequestLeaderEndpoint w' (fun k => k ≠ p ∧ (R0 k ∨ w0.heap.size ≤ k) ∧ s.2.ownBlock ≠ some k) c x) (fun s => ls8.length - s.1) (0, .slice (some ⟨b6, 0, none⟩) 0 ls5.length)
        ⟨rfl, rfl, rfl, rfl, rfl, trivial⟩ ⟨⟨hx08, hx8c, Ext.refl _ _, Nat.zero_le _, by simp⟩, ho7.e0 hx8, [], hos8, rfl, by simp⟩ ?_
      rintro ⟨i, sl⟩ w9 ⟨⟨hx09, hxc9, hx89, hi, hnn⟩, hp9, es, hos9, hesl, hesr⟩
      dsimp only at hi hp9 hos9 hesl hesr hnn
      ((conv=>whnf);repeat(first|(refine mvT ?_;conv=>whnf)|(refine mvF ?_;conv=>whnf)|(refine cT (by rfl) ?_;conv=>whnf)|(refine cF (by rfl) ?_;conv=>whnf)))
      refine cI (by rfl) (fun h9=>?_) (fun h9=>?_)
      · have hil : i < ls8.length := by have := of_decide_eq_true h9; simp only at this; omega
        have hill : i < (atT t 2).l.length := by omega
        have htr := hels8.at' i ls8[i] (atT t 2).l[i] (by simp [hil]) (by simp [hill])
        obtain ⟨b10, o10, rfl, hc10⟩ := hC8 i ls8[i] (by simp [hil])
        have hb10 := hF8 b10 o10 rfl (by omega)
        have hc10 := hc10.ext hx89 (by have := hR0 _ hb10.1; omega)
        have htr9 := htr.ext hx89 fun k _ h => by have := hR0 _ h; omega
        ((conv=>whnf);repeat(first|(refine mvT ?_;conv=>whnf)|(refine mvF ?_;conv=>whnf)|(refine cT (by rfl) ?_;conv=>whnf)|(refine cF (by rfl) ?_;conv=>whnf)))
        refine ⟨b10, o10, rfl, ⟨by omega, by omega⟩, ?_⟩
        ((conv=>whnf);repeat(first|(refine mvT ?_;conv=>whnf)|(refine mvF ?_;conv=>whnf)|(refine cT (by rfl) ?_;conv=>whnf)|(refine cF (by rfl) ?_;conv=>whnf)))
        refine ⟨ls8[i], htr.len, by rw [Int.toNat_natCast]; exact hc10, ?_⟩
        ((conv=>whnf);repeat(first|(refine mvT ?_;conv=>whnf)|(refine mvF ?_;conv=>whnf)|(refine cT (by rfl) ?_;conv=>whnf)|(refine cF (by rfl) ?_;conv=>whnf)))
        intro b11 w11 hb11 ho11 hx11
        ((conv=>whnf);repeat(first|(refine mvT ?_;conv=>whnf)|(refine mvF ?_;conv=>whnf)|(refine cT (by rfl) ?_;conv=>whnf)|(refine cF (by rfl) ?_;conv=>whnf)))
        refine st_all ls8[i] ho11 htr.len rfl htr.ok ?_
        intro w12 ho12 hx12
        have hx912 : Ext nob w9 w12.drew := (hx11.st hx12 hb11).e0 (ext_drew _)
        have ho12 := ho12.e0 (ext_drew _)
        have htr12 := htr9.e0 hx912
        obtain ⟨sv6, lv6, uv6, ls6, hy, hn6, hsy, _⟩ := Tr.open ⟨ls8[i], rfl, htr12⟩
        have hci : ls8[i] = [.int .i64 ((atT t 2).l[i]).n, sv6, .bool ((atT t 2).l[i]).nl, lv6, uv6] := by
          have := congrArg Value.cells hy
          exact congrArg Array.toList this
        rw [hci] at ho12 htr12
        have hs912 := hx912.size
        have hs9c := hxc9.size
        ((conv=>whnf);repeat(first|(refine mvT ?_;conv=>whnf)|(refine mvF ?_;conv=>whnf)|(refine cT (by rfl) ?_;conv=>whnf)|(refine cF (by rfl) ?_;conv=>whnf)))
        refine VD.draw mixed (.q 0 (.q 1 (.q 2 (.q 3 (.q 4 (.q 5 (.eff 6 [4] (.eff 7 [4] (.eff 8 [] (.q 9 (.q 10 (.eff 11 [] (.done))))))))))))) (by kernel_rfl) ?_;((conv=>whnf);repeat(first|(refine mvT ?_;conv=>whnf)|(refine mvF ?_;conv=>whnf)|(refine cT (by rfl) ?_;conv=>whnf)|(refine cF (by rfl) ?_;conv=>whnf)))
        refine ldS ((hp9.e0 hx912).cell rfl) ?_;((conv=>whnf);repeat(first|(refine mvT ?_;conv=>whnf)|(refine mvF ?_;conv=>whnf)|(refine cT (by rfl) ?_;conv=>whnf)|(refine cF (by rfl) ?_;conv=>whnf)))
        refine ⟨_, rfl, ho12.cells, ?_⟩
        ((conv=>whnf);repeat(first|(refine mvT ?_;conv=>whnf)|(refine mvF ?_;conv=>whnf)|(refine cT (by rfl) ?_;conv=>whnf)|(refine cF (by rfl) ?_;conv=>whnf)))
        refine Does.mono (makeEndQuorumEpochRequestLeaderEndpoint (u := u) ⟨_, rfl, htr12⟩ ((hfl.2 _ (List.getElem_mem hill)).2.2 rfl)) ?_
        rintro r13 w13 ⟨es13, rfl, hok13, hr13, hxm13⟩
        obtain ⟨zm, rfl, _⟩ := id hr13
        have hx913 := hx912.e0 hxm13
        refine ⟨by (conv => whnf); exact ⟨⟨_, (hp9.e0 hx913).cell rfl, rfl, rfl⟩, trivial⟩, ?_⟩
        ((conv=>whnf);repeat(first|(refine mvT ?_;conv=>whnf)|(refine mvF ?_;conv=>whnf)|(refine cT (by rfl) ?_;conv=>whnf)|(refine cF (by rfl) ?_;conv=>whnf)))
        intro b13 w14 hb13 ho13 hx13
        have ho13 : Own w14 b13 148 [str (atT (atT t 2).l[i] 0).s, str (atT (atT t 2).l[i] 1).s, .int .u16 (IntKind.u16.wrap (atT (atT t 2).l[i] 2).n), zm] := ho13
        have hr13 := rEndQuorumEpochRequestLeaderEndpoint_ext hr13 hx13 fun _ _ _ f => f
        have hx913 := hx913.e0 hx13
        refine ⟨by (conv => whnf); exact ⟨⟨_, (hp9.e0 hx913).cell rfl, rfl, rfl⟩, trivial⟩, ?_⟩
        have hs913 := hx913.size
        ((conv=>whnf);repeat(first|(refine mvT ?_;conv=>whnf)|(refine mvF ?_;conv=>whnf)|(refine cT (by rfl) ?_;conv=>whnf)|(refine cF (by rfl) ?_;conv=>whnf)))
        refine app_struct (ms := [[str (atT (atT t 2).l[i] 0).s, str (atT (atT t 2).l[i] 1).s, .int .u16 (IntKind.u16.wrap (atT (atT t 2).l[i] 2).n), zm]]) rfl (hos9.e0 hx913) (src_one ho13 (rEndQuorumEpochRequestLeaderEndpoint_len hr13) rfl) (by simp) (by simpa only [List.flatten_cons, List.flatten_nil, List.append_nil] using hok13) rfl ⟨by simp only [List.length_singleton, hesl]; omega, by simp only [List.length_singleton, hesl]; omega⟩ (by omega) ?_
        intro v15 w15 hos15 hx15 hb15 hnn15
        obtain ⟨a15, n15, c15, rfl⟩ : ∃ a n c, v15 = .slice a n c := by
          obtain ⟨a, c, h, _⟩ := hos15.shape
          exact ⟨a, _, c, h⟩
        have hpsl : ¬ sl.ownBlock = some p := fun h => by have := hos9.blk p h; omega
        have ho15 := (hp9.e0 hx913).ext hx15 hpsl
        ((conv=>whnf);repeat(first|(refine mvT ?_;conv=>whnf)|(refine mvF ?_;conv=>whnf)|(refine cT (by rfl) ?_;conv=>whnf)|(refine cF (by rfl) ?_;conv=>whnf)))
        refine st_cell (o := 3) (v := .slice a15 n15 c15) ho15 rfl (by omega) rfl (by simp) rfl ?_
        intro w16 ho16 hx16
        ((conv=>whnf);repeat(first|(refine mvT ?_;conv=>whnf)|(refine mvF ?_;conv=>whnf)|(refine cT (by rfl) ?_;conv=>whnf)|(refine cF (by rfl) ?_;conv=>whnf)))
        have hx916 : Ext (fun k => k = p ∨ wc.heap.size ≤ k) w9 w16 := ((hx913.mono fun _ _ f => f.elim).trans hx15 fun k _ h => .inr (hos9.blk k h)).trans hx16 fun _ _ h => .inl h
        have hos16 := hos15.ext hx16 fun k hk h => by have := hos15.blk k hk; omega
        refine ⟨(i + 1, _), ⟨rfl, rfl, rfl, rfl, inc_eq (by rw [maxLen_eq] at hm8; omega), trivial⟩, ⟨⟨hx09.trans hx916 fun k hk h => by omega, hxc9.trans hx916 fun _ _ h => h, hx89.trans hx916 fun k hk h => by omega, by simp only; omega, hnn15 hnn⟩, ho16, es ++ [[str (atT (atT t 2).l[i] 0).s, str (atT (atT t 2).l[i] 1).s, .int .u16 (IntKind.u16.wrap (atT (atT t 2).l[i] 2).n), zm]], hos16, by simp [hesl], ?_⟩, by simp only; omega⟩
        intro j c x hj hx
        have key : rEndQuorumEpochRequestLeaderEndpoint w14 (fun k => k ≠ p ∧ (R0 k ∨ w0.heap.size ≤ k) ∧ sl.ownBlock ≠ some k) c x := by
          rcases Nat.lt_or_ge j es.length with hjl | hjl
          · rw [List.getElem?_append_left hjl] at hj
            exact rEndQuorumEpochRequestLeaderEndpoint_ext (hesr j c x hj hx) hx913 fun _ _ _ f => f
          · have hj0 : j = es.length := by have := (List.getElem?_eq_some_iff.1 hj).1; simp at this; omega
            subst hj0
            rw [List.getElem?_append_right (Nat.le_refl _), Nat.sub_self, List.getElem?_cons_zero, Option.some.injEq] at hj
            subst hj
            rw [hesl, List.getElem?_eq_getElem hill, Option.some.injEq] at hx
            subst hx
            exact rEndQuorumEpochRequestLeaderEndpoint_mono hr13 fun k hk h => by
              have hkp : k ≠ p := by rcases h with h | h; exact (hR0 k h).2; omega
              exact ⟨hkp, h.imp id (fun h => by omega), fun e => by have := hos9.own.lt k e; rcases h with h | h; (have := (hR0 k h).1; have := hos9.blk k e; omega); omega⟩
        have key2 := rEndQuorumEpochRequestLeaderEndpoint_ext (rEndQuorumEpochRequestLeaderEndpoint_ext (rEndQuorumEpochRequestLeaderEndpoint_mono key (F' := fun k => (fun k => k ≠ p ∧ (R0 k ∨ w0.heap.size ≤ k) ∧ sl.ownBlock ≠ some k) k ∧ k < w14.heap.size) fun k hk h => ⟨h, hk⟩) hx15 fun k _ h => h.1.2.2) hx16 fun k _ h => h.1.1
        exact rEndQuorumEpochRequestLeaderEndpoint_mono key2 fun k _ h => ⟨h.1.1, h.1.2.1, fun e => by
          rcases hb15 with e2 | ⟨g, hg, hle⟩
          · exact h.1.2.2 (e2 ▸ e)
          · have e : (Value.slice a15 n15 c15).ownBlock = some k := e
            rw [hg, Option.some.injEq] at e
            have := h.2
            omega⟩
      have hil : i = ls8.length := by have := of_decide_eq_false h9; simp only at this; omega
      ((conv=>whnf);repeat(first|(refine mvT ?_;conv=>whnf)|(refine mvF ?_;conv=>whnf)|(refine cT (by rfl) ?_;conv=>whnf)|(refine cF (by rfl) ?_;conv=>whnf)))
      have hli : ListR true 4 (rEndQuorumEpochRequestLeaderEndpoint w9 (fun k => k ≠ p ∧ (R0 k ∨ w0.heap.size ≤ k))) w9 (fun k => k ≠ p ∧ (R0 k ∨ w0.heap.size ≤ k)) sl (atT t 2) := by
        refine .inr ⟨hnl, fun _ => ?_, es, hos9.sl fun k hk => ⟨by omega, .inr (by omega)⟩, by omega, fun j c x hj hx => rEndQuorumEpochRequestLeaderEndpoint_mono (hesr j c x hj hx) fun k _ h => ⟨h.1, h.2.1⟩⟩
        rcases hos9.own.2 with ⟨e, _⟩ | ⟨g, cap, cur, e, _⟩
        · exact absurd e hnn
        · exact ⟨_, _, _, e⟩
      exact ⟨sl, ⟨rfl, rfl, trivial⟩, hx09, hp9, ho.ext hxc9 (by omega), hc0.ext hxc9 (fun k _ h => by have := h.1; omega), hc1.ext hxc9 (fun k _ h => by have := h.1; omega) (fun _ _ h => rEndQuorumEpochRequestTopic_ext h hxc9 (fun k _ h => by have := h.1; omega)), hli⟩
    · have hnl : (atT t 2).nl = true := by simpa using hnl
      ((conv=>whnf);repeat(first|(refine mvT ?_;conv=>whnf)|(refine mvF ?_;conv=>whnf)|(refine cT (by rfl) ?_;conv=>whnf)|(refine cF (by rfl) ?_;conv=>whnf)))
      exact ⟨_, ⟨rfl, rfl, trivial⟩, hx0.tr0 hxa, hp.e0 hxa, ho.e0 hxa, hc0.ext hxa (fun _ _ _ f => f), hc1.ext hxa (fun _ _ _ f => f) (fun _ _ h => rEndQuorumEpochRequestTopic_ext h hxa (fun _ _ _ f => f)), .inl ⟨hnl, rfl⟩⟩
  clear hfl
  rintro c2 wc ⟨hx0, hp, ho, hc0, hc1, hc2⟩
  ((conv=>whnf);repeat(first|(refine mvT ?_;conv=>whnf)|(refine mvF ?_;conv=>whnf)|(refine cT (by rfl) ?_;conv=>whnf)|(refine cF (by rfl) ?_;conv=>whnf)))
  refine ldS (ho.cell rfl) ?_;((conv=>whnf);repeat(first|(refine mvT ?_;conv=>whnf)|(refine mvF ?_;conv=>whnf)|(refine cT (by rfl) ?_;conv=>whnf)|(refine cF (by rfl) ?_;conv=>whnf)))
  have hpN := hp.lt
  have h0N := hx0.size
  refine VL.loop (fun s : Nat × Value => [(0, .pointer (some ⟨p, 0, none⟩)), (3, .pointer (some ⟨b, 0, none⟩)), (81, .slice au us.length cu), (82, .int .i64 us.length), (83, .int .i64 s.1)])
    (fun s w' => (Ext (fun k => k = p) w0 w' ∧ Ext (fun k => k = p ∨ wc.heap.size ≤ k) wc w' ∧ s.1 ≤ us.length) ∧ Own w' p ty [.int .i16 v, c0, c1, c2, s.2] ∧ TagsO w' wc.heap.size R0 s.2 (t.u.take s.1)) (fun s => us.length - s.1) (0, .map none)
    ⟨rfl, rfl, rfl, rfl, rfl, trivial⟩ ⟨⟨hx0, Ext.refl _ _, Nat.zero_le _⟩, hp, TagsO.nil _ _ _⟩ ?_
  rintro ⟨i, m⟩ w9 ⟨⟨hx09, hxc9, hi⟩, hp9, hm9⟩
  dsimp only at hi hp9 hm9
  ((conv=>whnf);repeat(first|(refine mvT ?_;conv=>whnf)|(refine mvF ?_;conv=>whnf)|(refine cT (by rfl) ?_;conv=>whnf)|(refine cF (by rfl) ?_;conv=>whnf)))
  refine cI (by rfl) (fun h9=>?_) (fun h9=>?_)
  · have hil : i < us.length := by have := of_decide_eq_true h9; simp only at this; omega
    have hilu : i < t.u.length := by omega
    obtain ⟨hkey, bv, hci, hbv⟩ := huc i us[i] t.u[i] (by simp [hil]) (by simp [hilu])
    obtain ⟨b10, o10, rfl, hc10⟩ := husC i us[i] (by simp [hil])
    have hb10 := husF b10 o10 rfl (by omega)
    rw [hci] at hc10
    obtain ⟨av, cv, rfl, _⟩ := hbv.view
    have hc10 := hc10.ext hx09 (hR0 _ hb10.1).2
    have hbv9 := hbv.ext hx09 fun k _ h => (hR0 k h).2
    ((conv=>whnf);repeat(first|(refine mvT ?_;conv=>whnf)|(refine mvF ?_;conv=>whnf)|(refine cT (by rfl) ?_;conv=>whnf)|(refine cF (by rfl) ?_;conv=>whnf)))
    refine ⟨b10, o10, rfl, ⟨by omega, by omega⟩, ?_⟩
    ((conv=>whnf);repeat(first|(refine mvT ?_;conv=>whnf)|(refine mvF ?_;conv=>whnf)|(refine cT (by rfl) ?_;conv=>whnf)|(refine cF (by rfl) ?_;conv=>whnf)))
    refine ⟨_, rfl, by rw [Int.toNat_natCast]; exact hc10, ?_⟩
    ((conv=>whnf);repeat(first|(refine mvT ?_;conv=>whnf)|(refine mvF ?_;conv=>whnf)|(refine cT (by rfl) ?_;conv=>whnf)|(refine cF (by rfl) ?_;conv=>whnf)))
    intro b11 w11 hb11 ho11 hx11
    ((conv=>whnf);repeat(first|(refine mvT ?_;conv=>whnf)|(refine mvF ?_;conv=>whnf)|(refine cT (by rfl) ?_;conv=>whnf)|(refine cF (by rfl) ?_;conv=>whnf)))
    refine st_all [.int .u32 (t.u[i].1 : Int), .slice av (t.u[i]).2.length cv] ho11 rfl rfl rfl ?_
    intro w12 ho12 hx12
    have hx912 : Ext nob w9 w12.drew := (hx11.st hx12 hb11).e0 (ext_drew _)
    have ho12 := ho12.e0 (ext_drew _)
    ((conv=>whnf);repeat(first|(refine mvT ?_;conv=>whnf)|(refine mvF ?_;conv=>whnf)|(refine cT (by rfl) ?_;conv=>whnf)|(refine cF (by rfl) ?_;conv=>whnf)))
    refine VD.draw mixed (.q 0 (.q 1 (.q 2 (.q 3 (.q 4 (.q 5 (.q 6 (.eff 7 [] (.done))))))))) (by kernel_rfl) ?_;((conv=>whnf);repeat(first|(refine mvT ?_;conv=>whnf)|(refine mvF ?_;conv=>whnf)|(refine cT (by rfl) ?_;conv=>whnf)|(refine cF (by rfl) ?_;conv=>whnf)))
    refine ldS (ho12.cell rfl) ?_;((conv=>whnf);repeat(first|(refine mvT ?_;conv=>whnf)|(refine mvF ?_;conv=>whnf)|(refine cT (by rfl) ?_;conv=>whnf)|(refine cF (by rfl) ?_;conv=>whnf)))
    refine ldS (ho12.cell rfl) ?_;((conv=>whnf);repeat(first|(refine mvT ?_;conv=>whnf)|(refine mvF ?_;conv=>whnf)|(refine cT (by rfl) ?_;conv=>whnf)|(refine cF (by rfl) ?_;conv=>whnf)))
    have hnew : ∀ x, x ∈ t.u.take i → x.1 ≠ (t.u[i]).1 := by
      intro x hx
      obtain ⟨j, hj, rfl⟩ := List.mem_take_iff_getElem.1 hx
      have := List.pairwise_iff_getElem.1 hok.2.rise j i (by omega) hilu (by omega)
      omega
    refine Does.mono (Tags_Set_does (o := 4) (N := wc.heap.size) (hp9.e0 hx912) rfl (hm9.e0 hx912) (Nat.le_trans hxc9.size hx912.size) hpN (fun k h => ⟨by have := (hR0 k h).1; omega, (hR0 k h).2⟩) (hbv9.e0 hx912) hnew) ?_
    rintro r13 w13 ⟨m13, hone, hp13, hm13, hx13⟩
    ((conv=>whnf);repeat(first|(refine mvT ?_;conv=>whnf)|(refine mvF ?_;conv=>whnf)|(refine cT (by rfl) ?_;conv=>whnf)|(refine cF (by rfl) ?_;conv=>whnf)))
    have hx913 : Ext (fun k => k = p ∨ wc.heap.size ≤ k) w9 w13 := (hx912.mono fun _ _ f => f.elim).trans hx13 fun _ _ h => h
    refine ⟨(i + 1, m13), ⟨rfl, rfl, rfl, rfl, inc_eq (by rw [maxLen_eq] at husm; omega), trivial⟩, ⟨⟨hx09.trans hx913 fun k hk h => by omega, hxc9.trans hx913 fun _ _ h => h, by simp only; omega⟩, hp13, ?_⟩, by simp only; omega⟩
    rw [List.take_succ_eq_append_getElem hilu]
    exact hm13
  have hil : i = us.length := by have := of_decide_eq_false h9; simp only at this; omega
  ((conv=>whnf);repeat(first|(refine mvT ?_;conv=>whnf)|(refine mvF ?_;conv=>whnf)|(refine cT (by rfl) ?_;conv=>whnf)|(refine cF (by rfl) ?_;conv=>whnf)))
  rw [hil, husl, List.take_length] at hm9
  exact ⟨hx09, c0, c1, c2, m, hp9, (hc0.ext hxc9 (fun k _ h => by have := h.1; omega)).mono (fun k _ h => h.1), (hc1.ext hxc9 (fun k _ h => by have := h.1; omega) (fun _ _ h => rEndQuorumEpochRequestTopic_ext h hxc9 (fun k _ h => by have := h.1; omega))).mono (fun k _ h => h.1) (fun _ _ h => rEndQuorumEpochRequestTopic_mono h fun k _ h => h.1), (hc2.ext hxc9 (fun k _ h => by have := h.1; omega) (fun _ _ h => rEndQuorumEpochRequestLeaderEndpoint_ext h hxc9 (fun k _ h => by have := h.1; omega))).mono (fun k _ h => h.1) (fun _ _ h => rEndQuorumEpochRequestLeaderEndpoint_mono h fun k _ h => h.1), hm9.tags.mono fun k hk h => by rcases h with h | h; exact (hR0 k h).2; omega⟩
def bEndQuorumEpochRequestTopicPartitionPreferredCandidate (v : Int) (fx : Bool) (t : T) : List UInt8 := ((fixed (atT t 0).n 4) ++ ((uuidB (atT t 1).s) ++ ([]))) ++ tgsB fx t.u
theorem bEndQuorumEpochRequestTopicPartitionPreferredCandidate_eq {v : Int} {fx : Bool} {t : T} (hv : 0 ≤ v) (hok : partOK 6 v dEndQuorumEpochRequestTopicPartitionPreferredCandidate t) : partA 6 v fx dEndQuorumEpochRequestTopicPartitionPreferredCandidate t = bEndQuorumEpochRequestTopicPartitionPreferredCandidate v fx t := by
  unfold partA partAW bEndQuorumEpochRequestTopicPartitionPreferredCandidate
  have hf := hok.1 0 _ rfl
  rw [plainW_all hv]
  have hf := hok.1 1 _ rfl
  rw [plainW_all hv]
  rfl
def bEndQuorumEpochRequestTopicPartition (v : Int) (fx : Bool) (t : T) : List UInt8 := ((fixed (atT t 0).n 4) ++ ((fixed (atT t 1).n 4) ++ ((fixed (atT t 2).n 4) ++ (((if (decide (0 ≤ v) && (decide ((0 : Int) < 0) || decide (v ≤ 0))) = true then arA fx (lsT (atT t 3)).length ++ (lsT (atT t 3)).flatMap (fun x => fixed x.n 4) else [])) ++ (((if (decide (1 ≤ v) && (decide ((-1 : Int) < 0) || decide (v ≤ (-1)))) = true then arA fx (lsT (atT t 4)).length ++ (lsT (atT t 4)).flatMap (bEndQuorumEpochRequestTopicPartitionPreferredCandidate v fx) else [])) ++ ([])))))) ++ tgsB fx t.u
theorem bEndQuorumEpochRequestTopicPartition_eq {v : Int} {fx : Bool} {t : T} (hv : 0 ≤ v) (hok : partOK 7 v dEndQuorumEpochRequestTopicPartition t) : partA 7 v fx dEndQuorumEpochRequestTopicPartition t = bEndQuorumEpochRequestTopicPartition v fx t := by
  unfold partA partAW bEndQuorumEpochRequestTopicPartition
  have hf := hok.1 0 _ rfl
  rw [plainW_all hv]
  have hf := hok.1 1 _ rfl
  rw [plainW_all hv]
  have hf := hok.1 2 _ rfl
  rw [plainW_all hv]
  have hf := hok.1 3 _ rfl
  rw [plainW_ver]
  rw [ar_eq (g := (fun x => fixed x.n 4)) hf fun y hy => rfl]
  have hf := hok.1 4 _ rfl
  rw [plainW_ver]
  rw [ar_eq (g := (bEndQuorumEpochRequestTopicPartitionPreferredCandidate v fx)) hf fun y hy => bEndQuorumEpochRequestTopicPartitionPreferredCandidate_eq hv ((lsT_ok hf y hy).2.2 rfl)]
  rfl
def bEndQuorumEpochRequestTopic (v : Int) (fx : Bool) (t : T) : List UInt8 := ((txA fx (atT t 0).s) ++ ((arA fx (lsT (atT t 1)).length ++ (lsT (atT t 1)).flatMap (bEndQuorumEpochRequestTopicPartition v fx)) ++ ([]))) ++ tgsB fx t.u
theorem bEndQuorumEpochRequestTopic_eq {v : Int} {fx : Bool} {t : T} (hv : 0 ≤ v) (hok : partOK 8 v dEndQuorumEpochRequestTopic t) : partA 8 v fx dEndQuorumEpochRequestTopic t = bEndQuorumEpochRequestTopic v fx t := by
  unfold partA partAW bEndQuorumEpochRequestTopic
  have hf := hok.1 0 _ rfl
  rw [plainW_all hv]
  rw [tx_eq hf]
  have hf := hok.1 1 _ rfl
  rw [plainW_all hv]
  rw [ar_eq (g := (bEndQuorumEpochRequestTopicPartition v fx)) hf fun y hy => bEndQuorumEpochRequestTopicPartition_eq hv ((lsT_ok hf y hy).2.2 rfl)]
  rfl
def bEndQuorumEpochRequestLeaderEndpoint (v : Int) (fx : Bool) (t : T) : List UInt8 := ((txA fx (atT t 0).s) ++ ((txA fx (atT t 1).s) ++ ((fixed (atT t 2).n 2) ++ ([])))) ++ tgsB fx t.u
theorem bEndQuorumEpochRequestLeaderEndpoint_eq {v : Int} {fx : Bool} {t : T} (hv : 0 ≤ v) (hok : partOK 8 v dEndQuorumEpochRequestLeaderEndpoint t) : partA 8 v fx dEndQuorumEpochRequestLeaderEndpoint t = bEndQuorumEpochRequestLeaderEndpoint v fx t := by
  unfold partA partAW bEndQuorumEpochRequestLeaderEndpoint
  have hf := hok.1 0 _ rfl
  rw [plainW_all hv]
  rw [tx_eq hf]
  have hf := hok.1 1 _ rfl
  rw [plainW_all hv]
  rw [tx_eq hf]
  have hf := hok.1 2 _ rfl
  rw [plainW_all hv]
  rfl
def bEndQuorumEpochRequest (v : Int) (fx : Bool) (t : T) : List UInt8 := ((ntA fx (atT t 0).nl (atT t 0).s) ++ ((arA fx (lsT (atT t 1)).length ++ (lsT (atT t 1)).flatMap (bEndQuorumEpochRequestTopic v fx)) ++ (((if (decide (1 ≤ v) && (decide ((-1 : Int) < 0) || decide (v ≤ (-1)))) = true then arA fx (lsT (atT t 2)).length ++ (lsT (atT t 2)).flatMap (bEndQuorumEpochRequestLeaderEndpoint v fx) else [])) ++ ([])))) ++ tgsB fx t.u
theorem bEndQuorumEpochRequest_eq {v : Int} {fx : Bool} {t : T} (hv : 0 ≤ v) (hok : partOK 9 v dEndQuorumEpochRequest t) : partA 9 v fx dEndQuorumEpochRequest t = bEndQuorumEpochRequest v fx t := by
  unfold partA partAW bEndQuorumEpochRequest
  have hf := hok.1 0 _ rfl
  rw [plainW_all hv]
  rw [nt_eq hf]
  have hf := hok.1 1 _ rfl
  rw [plainW_all hv]
  rw [ar_eq (g := (bEndQuorumEpochRequestTopic v fx)) hf fun y hy => bEndQuorumEpochRequestTopic_eq hv ((lsT_ok hf y hy).2.2 rfl)]
  have hf := hok.1 2 _ rfl
  rw [plainW_ver]
  rw [ar_eq (g := (bEndQuorumEpochRequestLeaderEndpoint v fx)) hf fun y hy => bEndQuorumEpochRequestLeaderEndpoint_eq hv ((lsT_ok hf y hy).2.2 rfl)]
  rfl
theorem appEndQuorumEpochRequest {F : Nat → Prop} {w0 : World} {p B : Nat} {ty : TypeId} {v : Int} {x c0 c1 c2 m : Value} {l : List UInt8} {t : T} (hp : Own w0 p ty [.int .i16 v, c0, c1, c2, m]) (hc0 : NTextR w0 F c0 (atT t 0)) (hc1 : ListR true 3 (rEndQuorumEpochRequestTopic w0 F) w0 F c1 (atT t 1)) (hc2 : ListR true 4 (rEndQuorumEpochRequestLeaderEndpoint w0 F) w0 F c2 (atT t 2)) (hm : TagsR w0 F m t.u) (hok : partOK 9 v dEndQuorumEpochRequest t)
    (hF : ∀ j, j < w0.heap.size → F j → x.ownBlock ≠ some j) (hxp : x.ownBlock ≠ some p) (hx : OB w0 B x l) (hB : B ≤ w0.heap.size) (hv : 0 ≤ v) (hl : l.length + (bEndQuorumEpochRequest v (decide (v ≥ 1)) t).length ≤ 70000000000000) :
    Does X.P 50 #[.pointer (some ⟨p, 0, none⟩), x] w0 fun r w' => Apd w0 B x l (bEndQuorumEpochRequest v (decide (v ≥ 1)) t) r w' := by
  have hpl := hp.lt
  obtain ⟨fx, hfx⟩ : ∃ fx, fx = decide (v ≥ 1) := ⟨_, rfl⟩
  rw [← hfx] at hl ⊢
  unfold bEndQuorumEpochRequest at hl
  simp only [List.length_append, List.length_nil] at hl
  obtain ⟨F0, hFR, hFx, hcs⟩ : ∃ F0 : Nat → Prop, (∀ j, F0 j → j < w0.heap.size ∧ x.ownBlock ≠ some j) ∧ (∀ j, j < w0.heap.size → F0 j → ¬ x.ownBlock = some j) ∧ (NTextR w0 F0 c0 (atT t 0) ∧ ListR true 3 (rEndQuorumEpochRequestTopic w0 F0) w0 F0 c1 (atT t 1) ∧ ListR true 4 (rEndQuorumEpochRequestLeaderEndpoint w0 F0) w0 F0 c2 (atT t 2) ∧ TagsR w0 F0 m t.u) :=
    ⟨fun j => F j ∧ j < w0.heap.size, fun j h => ⟨h.2, hF j h.2 h.1⟩, fun j _ h => hF j h.2 h.1, hc0.mono (fun k h1 h2 => ⟨h2, h1⟩), hc1.mono (fun k h1 h2 => ⟨h2, h1⟩) (fun _ _ h => rEndQuorumEpochRequestTopic_mono h fun k h1 h2 => ⟨h2, h1⟩), hc2.mono (fun k h1 h2 => ⟨h2, h1⟩) (fun _ _ h => rEndQuorumEpochRequestLeaderEndpoint_mono h fun k h1 h2 => ⟨h2, h1⟩), hm.mono fun k h1 h2 => ⟨h2, h1⟩⟩
  clear hm hc0 hc1 hc2 hF
  obtain ⟨hc0, hc1, hc2, hm⟩ := hcs
  obtain ⟨a1, k1, l1, rfl, hkm1, hll1, hnn1, hcl1, hrl1⟩ := hc1.view
  obtain ⟨a2, k2, l2, rfl, hkm2, hll2, hnn2, hcl2, hrl2⟩ := hc2.view
  have hA := Apd.start hx
  obtain ⟨m0, hm0⟩ : ∃ m0 : List UInt8, m0 = [] := ⟨_, rfl⟩
  rw [← hm0] at hA
  have hl0 : m0.length = 0 := by rw [hm0]; rfl
  refine Does.go (X := X) (l := [_, _]) Tryz.func50 rfl (by kernel_rfl) (by kernel_rfl) _ rfl ?_
  ((conv=>whnf);repeat(first|(refine mvT ?_;conv=>whnf)|(refine mvF ?_;conv=>whnf)|(refine cT (by rfl) ?_;conv=>whnf)|(refine cF (by rfl) ?_;conv=>whnf)))
  refine ldS (hp.cell rfl) ?_;((conv=>whnf);repeat(first|(refine mvT ?_;conv=>whnf)|(refine mvF ?_;conv=>whnf)|(refine cT (by rfl) ?_;conv=>whnf)|(refine cF (by rfl) ?_;conv=>whnf)))
  rw [← hfx]
  (refine mvB ?_;((conv=>whnf);repeat(first|(refine mvT ?_;conv=>whnf)|(refine mvF ?_;conv=>whnf)|(refine cT (by rfl) ?_;conv=>whnf)|(refine cF (by rfl) ?_;conv=>whnf))))
  refine ldS ((hp.ext hA.ext hxp).cell rfl) ?_;((conv=>whnf);repeat(first|(refine mvT ?_;conv=>whnf)|(refine mvF ?_;conv=>whnf)|(refine cT (by rfl) ?_;conv=>whnf)|(refine cF (by rfl) ?_;conv=>whnf)))
  have hsl := fieldOK_text (hok.1 0 _ rfl)
  (refine mvB ?_;((conv=>whnf);repeat(first|(refine mvT ?_;conv=>whnf)|(refine mvF ?_;conv=>whnf)|(refine cT (by rfl) ?_;conv=>whnf)|(refine cF (by rfl) ?_;conv=>whnf))))
  refine VC.cutE (fun r => [(1, r), (0, .pointer (some ⟨p, 0, none⟩)), (5, .int .i16 v), (6, .bool fx)]) (fun r w' => Apd w0 B x l (m0 ++ (ntA fx (atT t 0).nl (atT t 0).s)) r w') ?_ ?_
  · refine cI (by rfl) (fun hc=>?_) (fun hc=>?_)
    · ((conv=>whnf);repeat(first|(refine mvT ?_;conv=>whnf)|(refine mvF ?_;conv=>whnf)|(refine cT (by rfl) ?_;conv=>whnf)|(refine cF (by rfl) ?_;conv=>whnf)))
      refine Does.mono (AppendCompactNullableString_R hA.ob (Nat.le_trans hB hA.size) (hc0.ext hA.ext hFx) hsl (by simp only [List.length_append]; omega)) ?_;rintro r w h;((conv=>whnf);repeat(first|(refine mvT ?_;conv=>whnf)|(refine mvF ?_;conv=>whnf)|(refine cT (by rfl) ?_;conv=>whnf)|(refine cF (by rfl) ?_;conv=>whnf)))
      replace hA := hA.tr h
      clear h
      refine ⟨_, ⟨rfl, rfl, rfl, rfl, trivial⟩, ?_⟩
      rw [hc]
      exact hA
    · ((conv=>whnf);repeat(first|(refine mvT ?_;conv=>whnf)|(refine mvF ?_;conv=>whnf)|(refine cT (by rfl) ?_;conv=>whnf)|(refine cF (by rfl) ?_;conv=>whnf)))
      refine Does.mono (AppendNullableString_R hA.ob (Nat.le_trans hB hA.size) (hc0.ext hA.ext hFx) (by simp only [List.length_append]; omega)) ?_;rintro r w h;((conv=>whnf);repeat(first|(refine mvT ?_;conv=>whnf)|(refine mvF ?_;conv=>whnf)|(refine cT (by rfl) ?_;conv=>whnf)|(refine cF (by rfl) ?_;conv=>whnf)))
      replace hA := hA.tr h
      clear h
      refine ⟨_, ⟨rfl, rfl, rfl, rfl, trivial⟩, ?_⟩
      rw [hc]
      exact hA
  clear hA
  rintro r w hA
  ((conv=>whnf);repeat(first|(refine mvT ?_;conv=>whnf)|(refine mvF ?_;conv=>whnf)|(refine cT (by rfl) ?_;conv=>whnf)|(refine cF (by rfl) ?_;conv=>whnf)))
  generalize hm1 : m0 ++ (ntA fx (atT t 0).nl (atT t 0).s) = m1 at hA
  have hl1 : m1.length = m0.length + (ntA fx (atT t 0).nl (atT t 0).s).length := by rw [← hm1, List.length_append]
  refine ldS ((hp.ext hA.ext hxp).cell rfl) ?_;((conv=>whnf);repeat(first|(refine mvT ?_;conv=>whnf)|(refine mvF ?_;conv=>whnf)|(refine cT (by rfl) ?_;conv=>whnf)|(refine cF (by rfl) ?_;conv=>whnf)))
  have hml1 := lsT_len (hok.1 1 _ rfl)
  (refine mvB ?_;((conv=>whnf);repeat(first|(refine mvT ?_;conv=>whnf)|(refine mvF ?_;conv=>whnf)|(refine cT (by rfl) ?_;conv=>whnf)|(refine cF (by rfl) ?_;conv=>whnf))))
  refine VC.cutE (fun r => [(1, r), (0, .pointer (some ⟨p, 0, none⟩)), (5, .int .i16 v), (6, .bool fx), (8, .slice a1 l1.length k1)]) (fun r w' => Apd w0 B x l (m1 ++ (arA fx (lsT (atT t 1)).length)) r w') ?_ ?_
  · refine cI (by rfl) (fun hc=>?_) (fun hc=>?_)
    · ((conv=>whnf);repeat(first|(refine mvT ?_;conv=>whnf)|(refine mvF ?_;conv=>whnf)|(refine cT (by rfl) ?_;conv=>whnf)|(refine cF (by rfl) ?_;conv=>whnf)))
      refine Does.mono (AppendCompactArrayLen_does hA.ob (Nat.le_trans hB hA.size) (by simp only [List.length_append]; omega) l1.length (by omega)) ?_;rintro r w h;((conv=>whnf);repeat(first|(refine mvT ?_;conv=>whnf)|(refine mvF ?_;conv=>whnf)|(refine cT (by rfl) ?_;conv=>whnf)|(refine cF (by rfl) ?_;conv=>whnf)))
      rw [hll1] at h
      replace hA := hA.tr h
      clear h
      refine ⟨_, ⟨rfl, rfl, rfl, rfl, rfl, trivial⟩, ?_⟩
      rw [hc]
      exact hA
    · ((conv=>whnf);repeat(first|(refine mvT ?_;conv=>whnf)|(refine mvF ?_;conv=>whnf)|(refine cT (by rfl) ?_;conv=>whnf)|(refine cF (by rfl) ?_;conv=>whnf)))
      refine Does.mono (AppendArrayLen_does hA.ob (Nat.le_trans hB hA.size) (by simp only [List.length_append]; omega) l1.length) ?_;rintro r w h;((conv=>whnf);repeat(first|(refine mvT ?_;conv=>whnf)|(refine mvF ?_;conv=>whnf)|(refine cT (by rfl) ?_;conv=>whnf)|(refine cF (by rfl) ?_;conv=>whnf)))
      rw [hll1] at h
      replace hA := hA.tr h
      clear h
      refine ⟨_, ⟨rfl, rfl, rfl, rfl, rfl, trivial⟩, ?_⟩
      rw [hc]
      exact hA
  clear hA
  rintro r w hA
  ((conv=>whnf);repeat(first|(refine mvT ?_;conv=>whnf)|(refine mvF ?_;conv=>whnf)|(refine cT (by rfl) ?_;conv=>whnf)|(refine cF (by rfl) ?_;conv=>whnf)))
  generalize hm2 : m1 ++ (arA fx (lsT (atT t 1)).length) = m2 at hA
  have hl2 : m2.length = m1.length + (arA fx (lsT (atT t 1)).length).length := by rw [← hm2, List.length_append]
  refine VL.loop (fun s : Nat × Value => [(1, s.2), (0, .pointer (some ⟨p, 0, none⟩)), (5, .int .i16 v), (6, .bool fx), (8, .slice a1 l1.length k1), (64, .slice a1 l1.length k1), (65, .int .i64 l1.length), (66, .int .i64 s.1)])
    (fun s w' => s.1 ≤ l1.length ∧ Apd w0 B x l (m2 ++ ((lsT (atT t 1)).take s.1).flatMap (bEndQuorumEpochRequestTopic v fx)) s.2 w') (fun s => l1.length - s.1) (0, r) ⟨rfl, rfl, rfl, rfl, rfl, rfl, rfl, rfl, trivial⟩ ⟨Nat.zero_le _, by rw [List.take_zero, List.flatMap_nil, List.append_nil]; exact hA⟩ ?_
  clear hA
  rintro ⟨i1, r⟩ w ⟨hi1, hA⟩
  dsimp only at hi1 hA
  ((conv=>whnf);repeat(first|(refine mvT ?_;conv=>whnf)|(refine mvF ?_;conv=>whnf)|(refine cT (by rfl) ?_;conv=>whnf)|(refine cF (by rfl) ?_;conv=>whnf)))
  refine cI (by rfl) (fun h9=>?_) (fun h9=>?_)
  · have hil : i1 < l1.length := by have := of_decide_eq_true h9; simp only at this; omega
    have hiL1 : i1 < (lsT (atT t 1)).length := by omega
    obtain ⟨hft, hfl⟩ := flat_take (bEndQuorumEpochRequestTopic v fx) (lsT (atT t 1)) i1 hiL1
    obtain ⟨b1, o1, rfl, hF1, hb1, hce1⟩ := hcl1 i1 l1[i1] (by simp [hil])
    have hre1 := hrl1 i1 l1[i1] ((lsT (atT t 1))[i1]) (by simp [hil]) (by simp [hiL1])
    have hlo1 := lsT_ok (hok.1 1 _ rfl) ((lsT (atT t 1))[i1]) (List.getElem_mem hiL1)
    generalize hm3 : m2 ++ ((lsT (atT t 1)).take i1).flatMap (bEndQuorumEpochRequestTopic v fx) = m3 at hA
    have hl3 : m3.length = m2.length + (((lsT (atT t 1)).take i1).flatMap (bEndQuorumEpochRequestTopic v fx)).length := by rw [← hm3, List.length_append]
    obtain ⟨x1, hx1⟩ : ∃ y, y = (lsT (atT t 1))[i1] := ⟨_, rfl⟩
    rw [← hx1] at hft hfl hre1 hlo1
    obtain ⟨c1_1, m1_, hcells, hc1_1, hm1_⟩ := hre1
    rw [hcells] at hce1
    have hok1_ := hlo1.2.2 rfl
    obtain ⟨a1_1, k1_1, l1_1, rfl, hkm1_1, hll1_1, hnn1_1, hcl1_1, hrl1_1⟩ := hc1_1.view
    have hgl : (bEndQuorumEpochRequestTopic v fx x1).length = (bEndQuorumEpochRequestTopic v fx x1).length := rfl
    conv at hgl => rhs; unfold bEndQuorumEpochRequestTopic
    simp only [List.length_append, List.length_nil] at hgl
    ((conv=>whnf);repeat(first|(refine mvT ?_;conv=>whnf)|(refine mvF ?_;conv=>whnf)|(refine cT (by rfl) ?_;conv=>whnf)|(refine cF (by rfl) ?_;conv=>whnf)))
    refine ⟨b1, o1, rfl, ⟨by omega, by omega⟩, ?_⟩
    ((conv=>whnf);repeat(first|(refine mvT ?_;conv=>whnf)|(refine mvF ?_;conv=>whnf)|(refine cT (by rfl) ?_;conv=>whnf)|(refine cF (by rfl) ?_;conv=>whnf)))
    refine ⟨_, ld ((hce1.ext hA.ext (hFx _ hb1 hF1)).cell (j := 0) rfl) (by simp <;> omega), ?_⟩; ((conv=>whnf);repeat(first|(refine mvT ?_;conv=>whnf)|(refine mvF ?_;conv=>whnf)|(refine cT (by rfl) ?_;conv=>whnf)|(refine cF (by rfl) ?_;conv=>whnf)))
    have hsl := fieldOK_text (hok1_.1 0 _ rfl)
    (refine mvB ?_;((conv=>whnf);repeat(first|(refine mvT ?_;conv=>whnf)|(refine mvF ?_;conv=>whnf)|(refine cT (by rfl) ?_;conv=>whnf)|(refine cF (by rfl) ?_;conv=>whnf))))
    refine VC.cutE (fun r => [(1, r), (0, .pointer (some ⟨p, 0, none⟩)), (5, .int .i16 v), (6, .bool fx), (8, .slice (some ⟨b1, o1, none⟩) l1.length k1), (64, .slice (some ⟨b1, o1, none⟩) l1.length k1), (65, .int .i64 l1.length), (66, .int .i64 i1), (10, .pointer (some ⟨b1, o1 + i1 * 3, none⟩))]) (fun r w' => Apd w0 B x l (m3 ++ (txA fx (atT x1 0).s)) r w') ?_ ?_
    · refine cI (by rfl) (fun hc=>?_) (fun hc=>?_)
      · ((conv=>whnf);repeat(first|(refine mvT ?_;conv=>whnf)|(refine mvF ?_;conv=>whnf)|(refine cT (by rfl) ?_;conv=>whnf)|(refine cF (by rfl) ?_;conv=>whnf)))
        refine Does.mono (AppendCompactString_does hA.ob (Nat.le_trans hB hA.size) _ (by omega) (by simp only [List.length_append]; omega)) ?_;rintro r w h;((conv=>whnf);repeat(first|(refine mvT ?_;conv=>whnf)|(refine mvF ?_;conv=>whnf)|(refine cT (by rfl) ?_;conv=>whnf)|(refine cF (by rfl) ?_;conv=>whnf)))
        replace hA := hA.tr h
        clear h
        refine ⟨_, ⟨rfl, rfl, rfl, rfl, rfl, rfl, rfl, rfl, rfl, trivial⟩, ?_⟩
        rw [hc]
        exact hA
      · ((conv=>whnf);repeat(first|(refine mvT ?_;conv=>whnf)|(refine mvF ?_;conv=>whnf)|(refine cT (by rfl) ?_;conv=>whnf)|(refine cF (by rfl) ?_;conv=>whnf)))
        refine Does.mono (AppendString_does hA.ob (Nat.le_trans hB hA.size) _ (by simp only [List.length_append]; omega)) ?_;rintro r w h;((conv=>whnf);repeat(first|(refine mvT ?_;conv=>whnf)|(refine mvF ?_;conv=>whnf)|(refine cT (by rfl) ?_;conv=>whnf)|(refine cF (by rfl) ?_;conv=>whnf)))
        replace hA := hA.tr h
        clear h
        refine ⟨_, ⟨rfl, rfl, rfl, rfl, rfl, rfl, rfl, rfl, rfl, trivial⟩, ?_⟩
        rw [hc]
        exact hA
    clear hA
    rintro r w hA
    ((conv=>whnf);repeat(first|(refine mvT ?_;conv=>whnf)|(refine mvF ?_;conv=>whnf)|(refine cT (by rfl) ?_;conv=>whnf)|(refine cF (by rfl) ?_;conv=>whnf)))
    generalize hm4 : m3 ++ (txA fx (atT x1 0).s) = m4 at hA
    have hl4 : m4.length = m3.length + (txA fx (atT x1 0).s).length := by rw [← hm4, List.length_append]
    refine ⟨_, ld ((hce1.ext hA.ext (hFx _ hb1 hF1)).cell (j := 1) rfl) (by simp <;> omega), ?_⟩; ((conv=>whnf);repeat(first|(refine mvT ?_;conv=>whnf)|(refine mvF ?_;conv=>whnf)|(refine cT (by rfl) ?_;conv=>whnf)|(refine cF (by rfl) ?_;conv=>whnf)))
    have hml1_1 := lsT_len (hok1_.1 1 _ rfl)
    (refine mvB ?_;((conv=>whnf);repeat(first|(refine mvT ?_;conv=>whnf)|(refine mvF ?_;conv=>whnf)|(refine cT (by rfl) ?_;conv=>whnf)|(refine cF (by rfl) ?_;conv=>whnf))))
    refine VC.cutE (fun r => [(1, r), (0, .pointer (some ⟨p, 0, none⟩)), (5, .int .i16 v), (6, .bool fx), (8, .slice (some ⟨b1, o1, none⟩) l1.length k1), (64, .slice (some ⟨b1, o1, none⟩) l1.length k1), (65, .int .i64 l1.length), (66, .int .i64 i1), (10, .pointer (some ⟨b1, o1 + i1 * 3, none⟩)), (12, .slice a1_1 l1_1.length k1_1)]) (fun r w' => Apd w0 B x l (m4 ++ (arA fx (lsT (atT x1 1)).length)) r w') ?_ ?_
    · refine cI (by rfl) (fun hc=>?_) (fun hc=>?_)
      · ((conv=>whnf);repeat(first|(refine mvT ?_;conv=>whnf)|(refine mvF ?_;conv=>whnf)|(refine cT (by rfl) ?_;conv=>whnf)|(refine cF (by rfl) ?_;conv=>whnf)))
        refine Does.mono (AppendCompactArrayLen_does hA.ob (Nat.le_trans hB hA.size) (by simp only [List.length_append]; omega) l1_1.length (by omega)) ?_;rintro r w h;((conv=>whnf);repeat(first|(refine mvT ?_;conv=>whnf)|(refine mvF ?_;conv=>whnf)|(refine cT (by rfl) ?_;conv=>whnf)|(refine cF (by rfl) ?_;conv=>whnf)))
        rw [hll1_1] at h
        replace hA := hA.tr h
        clear h
        refine ⟨_, ⟨rfl, rfl, rfl, rfl, rfl, rfl, rfl, rfl, rfl, rfl, trivial⟩, ?_⟩
        rw [hc]
        exact hA
      · ((conv=>whnf);repeat(first|(refine mvT ?_;conv=>whnf)|(refine mvF ?_;conv=>whnf)|(refine cT (by rfl) ?_;conv=>whnf)|(refine cF (by rfl) ?_;conv=>whnf)))
        refine Does.mono (AppendArrayLen_does hA.ob (Nat.le_trans hB hA.size) (by simp only [List.length_append]; omega) l1_1.length) ?_;rintro r w h;((conv=>whnf);repeat(first|(refine mvT ?_;conv=>whnf)|(refine mvF ?_;conv=>whnf)|(refine cT (by rfl) ?_;conv=>whnf)|(refine cF (by rfl) ?_;conv=>whnf)))
        rw [hll1_1] at h
        replace hA := hA.tr h
        clear h
        refine ⟨_, ⟨rfl, rfl, rfl, rfl, rfl, rfl, rfl, rfl, rfl, rfl, trivial⟩, ?_⟩
        rw [hc]
        exact hA
    clear hA
    rintro r w hA
    ((conv=>whnf);repeat(first|(refine mvT ?_;conv=>whnf)|(refine mvF ?_;conv=>whnf)|(refine cT (by rfl) ?_;conv=>whnf)|(refine cF (by rfl) ?_;conv=>whnf)))
    generalize hm5 : m4 ++ (arA fx (lsT (atT x1 1)).length) = m5 at hA
    have hl5 : m5.length = m4.length + (arA fx (lsT (atT x1 1)).length).length := by rw [← hm5, List.length_append]
    refine VL.loop (fun s : Nat × Value => [(1, s.2), (0, .pointer (some ⟨p, 0, none⟩)), (5, .int .i16 v), (6, .bool fx), (8, .slice (some ⟨b1, o1, none⟩) l1.length k1), (64, .slice (some ⟨b1, o1, none⟩) l1.length k1), (65, .int .i64 l1.length), (66, .int .i64 i1), (10, .pointer (some ⟨b1, o1 + i1 * 3, none⟩)), (12, .slice a1_1 l1_1.length k1_1), (96, .slice a1_1 l1_1.length k1_1), (97, .int .i64 l1_1.length), (98, .int .i64 s.1)])
      (fun s w' => s.1 ≤ l1_1.length ∧ Apd w0 B x l (m5 ++ ((lsT (atT x1 1)).take s.1).flatMap (bEndQuorumEpochRequestTopicPartition v fx)) s.2 w') (fun s => l1_1.length - s.1) (0, r) ⟨rfl, rfl, rfl, rfl, rfl, rfl, rfl, rfl, rfl, rfl, rfl, rfl, rfl, trivial⟩ ⟨Nat.zero_le _, by rw [List.take_zero, List.flatMap_nil, List.append_nil]; exact hA⟩ ?_
    clear hA
    rintro ⟨i2, r⟩ w ⟨hi2, hA⟩
    dsimp only at hi2 hA
    ((conv=>whnf);repeat(first|(refine mvT ?_;conv=>whnf)|(refine mvF ?_;conv=>whnf)|(refine cT (by rfl) ?_;conv=>whnf)|(refine cF (by rfl) ?_;conv=>whnf)))
    refine cI (by rfl) (fun h9=>?_) (fun h9=>?_)
    · have hil : i2 < l1_1.length := by have := of_decide_eq_true h9; simp only at this; omega
      have hiL2 : i2 < (lsT (atT x1 1)).length := by omega
      obtain ⟨hft, hfl⟩ := flat_take (bEndQuorumEpochRequestTopicPartition v fx) (lsT (atT x1 1)) i2 hiL2
      obtain ⟨b1_1, o1_1, rfl, hF1_1, hb1_1, hce1_1⟩ := hcl1_1 i2 l1_1[i2] (by simp [hil])
      have hre1_1 := hrl1_1 i2 l1_1[i2] ((lsT (atT x1 1))[i2]) (by simp [hil]) (by simp [hiL2])
      have hlo1_1 := lsT_ok (hok1_.1 1 _ rfl) ((lsT (atT x1 1))[i2]) (List.getElem_mem hiL2)
      generalize hm6 : m5 ++ ((lsT (atT x1 1)).take i2).flatMap (bEndQuorumEpochRequestTopicPartition v fx) = m6 at hA
      have hl6 : m6.length = m5.length + (((lsT (atT x1 1)).take i2).flatMap (bEndQuorumEpochRequestTopicPartition v fx)).length := by rw [← hm6, List.length_append]
      obtain ⟨x2, hx2⟩ : ∃ y, y = (lsT (atT x1 1))[i2] := ⟨_, rfl⟩
      rw [← hx2] at hft hfl hre1_1 hlo1_1
      obtain ⟨c2_3, c2_4, m2_, hcells, hc2_3, hc2_4, hm2_⟩ := hre1_1
      rw [hcells] at hce1_1
      have hok2_ := hlo1_1.2.2 rfl
      obtain ⟨a2_3, k2_3, l2_3, rfl, hkm2_3, hll2_3, hnn2_3, hcl2_3, hrl2_3⟩ := hc2_3.view
      obtain ⟨a2_4, k2_4, l2_4, rfl, hkm2_4, hll2_4, hnn2_4, hcl2_4, hrl2_4⟩ := hc2_4.view
      have hgl : (bEndQuorumEpochRequestTopicPartition v fx x2).length = (bEndQuorumEpochRequestTopicPartition v fx x2).length := rfl
      conv at hgl => rhs; unfold bEndQuorumEpochRequestTopicPartition
      simp only [List.length_append, List.length_nil] at hgl
      ((conv=>whnf);repeat(first|(refine mvT ?_;conv=>whnf)|(refine mvF ?_;conv=>whnf)|(refine cT (by rfl) ?_;conv=>whnf)|(refine cF (by rfl) ?_;conv=>whnf)))
      refine ⟨b1_1, o1_1, rfl, ⟨by omega, by omega⟩, ?_⟩
      ((conv=>whnf);repeat(first|(refine mvT ?_;conv=>whnf)|(refine mvF ?_;conv=>whnf)|(refine cT (by rfl) ?_;conv=>whnf)|(refine cF (by rfl) ?_;conv=>whnf)))
      refine ⟨_, ld ((hce1_1.ext hA.ext (hFx _ hb1_1 hF1_1)).cell (j := 0) rfl) (by simp <;> omega), ?_⟩; ((conv=>whnf);repeat(first|(refine mvT ?_;conv=>whnf)|(refine mvF ?_;conv=>whnf)|(refine cT (by rfl) ?_;conv=>whnf)|(refine cF (by rfl) ?_;conv=>whnf)))
      refine Does.mono (AppendInt32_does hA.ob (Nat.le_trans hB hA.size) (by simp only [List.length_append]; omega) _) ?_;rintro r w h;((conv=>whnf);repeat(first|(refine mvT ?_;conv=>whnf)|(refine mvF ?_;conv=>whnf)|(refine cT (by rfl) ?_;conv=>whnf)|(refine cF (by rfl) ?_;conv=>whnf)))
      rw [fixed4_mod (wrap_i32m _)] at h
      replace hA := hA.tr h
      clear h
      generalize hm7 : m6 ++ (fixed (atT x2 0).n 4) = m7 at hA
      have hl7 : m7.length = m6.length + (fixed (atT x2 0).n 4).length := by rw [← hm7, List.length_append]
      refine ⟨_, ld ((hce1_1.ext hA.ext (hFx _ hb1_1 hF1_1)).cell (j := 1) rfl) (by simp <;> omega), ?_⟩; ((conv=>whnf);repeat(first|(refine mvT ?_;conv=>whnf)|(refine mvF ?_;conv=>whnf)|(refine cT (by rfl) ?_;conv=>whnf)|(refine cF (by rfl) ?_;conv=>whnf)))
      refine Does.mono (AppendInt32_does hA.ob (Nat.le_trans hB hA.size) (by simp only [List.length_append]; omega) _) ?_;rintro r w h;((conv=>whnf);repeat(first|(refine mvT ?_;conv=>whnf)|(refine mvF ?_;conv=>whnf)|(refine cT (by rfl) ?_;conv=>whnf)|(refine cF (by rfl) ?_;conv=>whnf)))
      rw [fixed4_mod (wrap_i32m _)] at h
      replace hA := hA.tr h
      clear h
      generalize hm8 : m7 ++ (fixed (atT x2 1).n 4) = m8 at hA
      have hl8 : m8.length = m7.length + (fixed (atT x2 1).n 4).length := by rw [← hm8, List.length_append]
      refine ⟨_, ld ((hce1_1.ext hA.ext (hFx _ hb1_1 hF1_1)).cell (j := 2) rfl) (by simp <;> omega), ?_⟩; ((conv=>whnf);repeat(first|(refine mvT ?_;conv=>whnf)|(refine mvF ?_;conv=>whnf)|(refine cT (by rfl) ?_;conv=>whnf)|(refine cF (by rfl) ?_;conv=>whnf)))
      refine Does.mono (AppendInt32_does hA.ob (Nat.le_trans hB hA.size) (by simp only [List.length_append]; omega) _) ?_;rintro r w h;((conv=>whnf);repeat(first|(refine mvT ?_;conv=>whnf)|(refine mvF ?_;conv=>whnf)|(refine cT (by rfl) ?_;conv=>whnf)|(refine cF (by rfl) ?_;conv=>whnf)))
      rw [fixed4_mod (wrap_i32m _)] at h
      replace hA := hA.tr h
      clear h
      generalize hm9 : m8 ++ (fixed (atT x2 2).n 4) = m9 at hA
      have hl9 : m9.length = m8.length + (fixed (atT x2 2).n 4).length := by rw [← hm9, List.length_append]
      intro cq hcq
      obtain rfl : cq = true := by rw [← hcq]; exact decide_eq_true hv
      ((conv=>whnf);repeat(first|(refine mvT ?_;conv=>whnf)|(refine mvF ?_;conv=>whnf)|(refine cT (by rfl) ?_;conv=>whnf)|(refine cF (by rfl) ?_;conv=>whnf)))
      refine VC.cutE (fun r => [(1, r), (0, .pointer (some ⟨p, 0, none⟩)), (5, .int .i16 v), (6, .bool fx), (8, .slice (some ⟨b1, o1, none⟩) l1.length k1), (64, .slice (some ⟨b1, o1, none⟩) l1.length k1), (65, .int .i64 l1.length), (66, .int .i64 i1), (10, .pointer (some ⟨b1, o1 + i1 * 3, none⟩)), (12, .slice (some ⟨b1_1, o1_1, none⟩) l1_1.length k1_1), (96, .slice (some ⟨b1_1, o1_1, none⟩) l1_1.length k1_1), (97, .int .i64 l1_1.length), (98, .int .i64 i2), (14, .pointer (some ⟨b1_1, o1_1 + i2 * 6, none⟩))]) (fun r w' => Apd w0 B x l (m9 ++ ((if (decide (0 ≤ v) && (decide ((0 : Int) < 0) || decide (v ≤ 0))) = true then arA fx (lsT (atT x2 3)).length ++ (lsT (atT x2 3)).flatMap (fun x => fixed x.n 4) else []))) r w') ?_ ?_
      · refine cI (by rfl) (fun hcv=>?_) (fun hcv=>?_)
        · ((conv=>whnf);repeat(first|(refine mvT ?_;conv=>whnf)|(refine mvF ?_;conv=>whnf)|(refine cT (by rfl) ?_;conv=>whnf)|(refine cF (by rfl) ?_;conv=>whnf)))
          refine ⟨_, ld ((hce1_1.ext hA.ext (hFx _ hb1_1 hF1_1)).cell (j := 3) rfl) (by simp <;> omega), ?_⟩; ((conv=>whnf);repeat(first|(refine mvT ?_;conv=>whnf)|(refine mvF ?_;conv=>whnf)|(refine cT (by rfl) ?_;conv=>whnf)|(refine cF (by rfl) ?_;conv=>whnf)))
          have hvl9 : ((if (decide (0 ≤ v) && (decide ((0 : Int) < 0) || decide (v ≤ 0))) = true then arA fx (lsT (atT x2 3)).length ++ (lsT (atT x2 3)).flatMap (fun x => fixed x.n 4) else [])).length = (arA fx (lsT (atT x2 3)).length ++ (lsT (atT x2 3)).flatMap (fun x => fixed x.n 4)).length := by rw [if_pos (by simp only [ge_iff_le, decide_eq_true_eq] at hcv; simp; omega)]
          simp only [List.length_append] at hvl9
          have hml2_3 := lsT_len (hok2_.1 3 _ rfl)
          (refine mvB ?_;((conv=>whnf);repeat(first|(refine mvT ?_;conv=>whnf)|(refine mvF ?_;conv=>whnf)|(refine cT (by rfl) ?_;conv=>whnf)|(refine cF (by rfl) ?_;conv=>whnf))))
          refine VC.cutE (fun r => [(1, r), (0, .pointer (some ⟨p, 0, none⟩)), (5, .int .i16 v), (6, .bool fx), (8, .slice (some ⟨b1, o1, none⟩) l1.length k1), (64, .slice (some ⟨b1, o1, none⟩) l1.length k1), (65, .int .i64 l1.length), (66, .int .i64 i1), (10, .pointer (some ⟨b1, o1 + i1 * 3, none⟩)), (12, .slice (some ⟨b1_1, o1_1, none⟩) l1_1.length k1_1), (96, .slice (some ⟨b1_1, o1_1, none⟩) l1_1.length k1_1), (97, .int .i64 l1_1.length), (98, .int .i64 i2), (14, .pointer (some ⟨b1_1, o1_1 + i2 * 6, none⟩)), (18, .slice a2_3 l2_3.length k2_3)]) (fun r w' => Apd w0 B x l (m9 ++ (arA fx (lsT (atT x2 3)).length)) r w') ?_ ?_
          · refine cI (by rfl) (fun hc=>?_) (fun hc=>?_)
            · ((conv=>whnf);repeat(first|(refine mvT ?_;conv=>whnf)|(refine mvF ?_;conv=>whnf)|(refine cT (by rfl) ?_;conv=>whnf)|(refine cF (by rfl) ?_;conv=>whnf)))
              refine Does.mono (AppendCompactArrayLen_does hA.ob (Nat.le_trans hB hA.size) (by simp only [List.length_append]; omega) l2_3.length (by omega)) ?_;rintro r w h;((conv=>whnf);repeat(first|(refine mvT ?_;conv=>whnf)|(refine mvF ?_;conv=>whnf)|(refine cT (by rfl) ?_;conv=>whnf)|(refine cF (by rfl) ?_;conv=>whnf)))
              rw [hll2_3] at h
              replace hA := hA.tr h
              clear h
              refine ⟨_, ⟨rfl, rfl, rfl, rfl, rfl, rfl, rfl, rfl, rfl, rfl, rfl, rfl, rfl, rfl, rfl, trivial⟩, ?_⟩
              rw [hc]
              exact hA
            · ((conv=>whnf);repeat(first|(refine mvT ?_;conv=>whnf)|(refine mvF ?_;conv=>whnf)|(refine cT (by rfl) ?_;conv=>whnf)|(refine cF (by rfl) ?_;conv=>whnf)))
              refine Does.mono (AppendArrayLen_does hA.ob (Nat.le_trans hB hA.size) (by simp only [List.length_append]; omega) l2_3.length) ?_;rintro r w h;((conv=>whnf);repeat(first|(refine mvT ?_;conv=>whnf)|(refine mvF ?_;conv=>whnf)|(refine cT (by rfl) ?_;conv=>whnf)|(refine cF (by rfl) ?_;conv=>whnf)))
              rw [hll2_3] at h
              replace hA := hA.tr h
              clear h
              refine ⟨_, ⟨rfl, rfl, rfl, rfl, rfl, rfl, rfl, rfl, rfl, rfl, rfl, rfl, rfl, rfl, rfl, trivial⟩, ?_⟩
              rw [hc]
              exact hA
          clear hA
          rintro r w hA
          ((conv=>whnf);repeat(first|(refine mvT ?_;conv=>whnf)|(refine mvF ?_;conv=>whnf)|(refine cT (by rfl) ?_;conv=>whnf)|(refine cF (by rfl) ?_;conv=>whnf)))
          generalize hm10 : m9 ++ (arA fx (lsT (atT x2 3)).length) = m10 at hA
          have hl10 : m10.length = m9.length + (arA fx (lsT (atT x2 3)).length).length := by rw [← hm10, List.length_append]
          refine VL.loop (fun s : Nat × Value => [(1, s.2), (0, .pointer (some ⟨p, 0, none⟩)), (5, .int .i16 v), (6, .bool fx), (8, .slice (some ⟨b1, o1, none⟩) l1.length k1), (64, .slice (some ⟨b1, o1, none⟩) l1.length k1), (65, .int .i64 l1.length), (66, .int .i64 i1), (10, .pointer (some ⟨b1, o1 + i1 * 3, none⟩)), (12, .slice (some ⟨b1_1, o1_1, none⟩) l1_1.length k1_1), (96, .slice (some ⟨b1_1, o1_1, none⟩) l1_1.length k1_1), (97, .int .i64 l1_1.length), (98, .int .i64 i2), (14, .pointer (some ⟨b1_1, o1_1 + i2 * 6, none⟩)), (18, .slice a2_3 l2_3.length k2_3), (144, .slice a2_3 l2_3.length k2_3), (145, .int .i64 l2_3.length), (146, .int .i64 s.1)])
            (fun s w' => s.1 ≤ l2_3.length ∧ Apd w0 B x l (m10 ++ ((lsT (atT x2 3)).take s.1).flatMap (fun x => fixed x.n 4)) s.2 w') (fun s => l2_3.length - s.1) (0, r) ⟨rfl, rfl, rfl, rfl, rfl, rfl, rfl, rfl, rfl, rfl, rfl, rfl, rfl, rfl, rfl, rfl, rfl, rfl, trivial⟩ ⟨Nat.zero_le _, by rw [List.take_zero, List.flatMap_nil, List.append_nil]; exact hA⟩ ?_
          clear hA
          rintro ⟨i3, r⟩ w ⟨hi3, hA⟩
          dsimp only at hi3 hA
          ((conv=>whnf);repeat(first|(refine mvT ?_;conv=>whnf)|(refine mvF ?_;conv=>whnf)|(refine cT (by rfl) ?_;conv=>whnf)|(refine cF (by rfl) ?_;conv=>whnf)))
          refine cI (by rfl) (fun h9=>?_) (fun h9=>?_)
          · have hil : i3 < l2_3.length := by have := of_decide_eq_true h9; simp only at this; omega
            have hiL3 : i3 < (lsT (atT x2 3)).length := by omega
            obtain ⟨hft, hfl⟩ := flat_take (fun x => fixed x.n 4) (lsT (atT x2 3)) i3 hiL3
            obtain ⟨b2_3, o2_3, rfl, hF2_3, hb2_3, hce2_3⟩ := hcl2_3 i3 l2_3[i3] (by simp [hil])
            have hre2_3 := hrl2_3 i3 l2_3[i3] ((lsT (atT x2 3))[i3]) (by simp [hil]) (by simp [hiL3])
            have hlo2_3 := lsT_ok (hok2_.1 3 _ rfl) ((lsT (atT x2 3))[i3]) (List.getElem_mem hiL3)
            generalize hm11 : m10 ++ ((lsT (atT x2 3)).take i3).flatMap (fun x => fixed x.n 4) = m11 at hA
            have hl11 : m11.length = m10.length + (((lsT (atT x2 3)).take i3).flatMap (fun x => fixed x.n 4)).length := by rw [← hm11, List.length_append]
            obtain ⟨x3, hx3⟩ : ∃ y, y = (lsT (atT x2 3))[i3] := ⟨_, rfl⟩
            rw [← hx3] at hft hfl hre2_3 hlo2_3
            rw [hre2_3] at hce2_3
            ((conv=>whnf);repeat(first|(refine mvT ?_;conv=>whnf)|(refine mvF ?_;conv=>whnf)|(refine cT (by rfl) ?_;conv=>whnf)|(refine cF (by rfl) ?_;conv=>whnf)))
            refine ⟨b2_3, o2_3, rfl, ⟨by omega, by omega⟩, ?_⟩
            ((conv=>whnf);repeat(first|(refine mvT ?_;conv=>whnf)|(refine mvF ?_;conv=>whnf)|(refine cT (by rfl) ?_;conv=>whnf)|(refine cF (by rfl) ?_;conv=>whnf)))
            refine ⟨_, ld ((hce2_3.ext hA.ext (hFx _ hb2_3 hF2_3)).cell (j := 0) rfl) (by simp), ?_⟩
            ((conv=>whnf);repeat(first|(refine mvT ?_;conv=>whnf)|(refine mvF ?_;conv=>whnf)|(refine cT (by rfl) ?_;conv=>whnf)|(refine cF (by rfl) ?_;conv=>whnf)))
            refine Does.mono (AppendInt32_does hA.ob (Nat.le_trans hB hA.size) (by simp only [List.length_append]; omega) _) ?_;rintro r w h;((conv=>whnf);repeat(first|(refine mvT ?_;conv=>whnf)|(refine mvF ?_;conv=>whnf)|(refine cT (by rfl) ?_;conv=>whnf)|(refine cF (by rfl) ?_;conv=>whnf)))
            rw [fixed4_mod (wrap_i32m _)] at h
            replace hA := hA.tr h
            clear h
            generalize hm12 : m11 ++ (fixed (x3).n 4) = m12 at hA
            have hl12 : m12.length = m11.length + (fixed (x3).n 4).length := by rw [← hm12, List.length_append]
            have hfin : m11 ++ (fun x => fixed x.n 4) x3 = m12 := by simp only [← hm12, List.append_assoc, List.nil_append, List.append_nil]
            refine ⟨(i3 + 1, r), ⟨rfl, rfl, rfl, rfl, rfl, rfl, rfl, rfl, rfl, rfl, rfl, rfl, rfl, rfl, rfl, rfl, rfl, inc_eq (by rw [maxLen_eq] at hkm2_3; omega), trivial⟩, ⟨by simp only; omega, ?_⟩, by simp only; omega⟩
            rw [hft, ← List.append_assoc, hm11, hfin]
            exact hA
          have hil : i3 = l2_3.length := by have := of_decide_eq_false h9; simp only at this; omega
          ((conv=>whnf);repeat(first|(refine mvT ?_;conv=>whnf)|(refine mvF ?_;conv=>whnf)|(refine cT (by rfl) ?_;conv=>whnf)|(refine cF (by rfl) ?_;conv=>whnf)))
          rw [hil, hll2_3, List.take_length] at hA
          generalize hm11 : m10 ++ ((lsT (atT x2 3)).flatMap (fun x => fixed x.n 4)) = m11 at hA
          have hl11 : m11.length = m10.length + ((lsT (atT x2 3)).flatMap (fun x => fixed x.n 4)).length := by rw [← hm11, List.length_append]
          refine ⟨_, ⟨rfl, rfl, rfl, rfl, rfl, rfl, rfl, rfl, rfl, rfl, rfl, rfl, rfl, rfl, trivial⟩, ?_⟩
          rw [if_pos (by simp only [ge_iff_le, decide_eq_true_eq] at hcv; simp; omega)]
          rw [show m9 ++ (arA fx (lsT (atT x2 3)).length ++ (lsT (atT x2 3)).flatMap (fun x => fixed x.n 4)) = m11 by simp only [← hm11, ← hm10, List.append_assoc]]
          exact hA
        · ((conv=>whnf);repeat(first|(refine mvT ?_;conv=>whnf)|(refine mvF ?_;conv=>whnf)|(refine cT (by rfl) ?_;conv=>whnf)|(refine cF (by rfl) ?_;conv=>whnf)))
          refine ⟨_, ⟨rfl, rfl, rfl, rfl, rfl, rfl, rfl, rfl, rfl, rfl, rfl, rfl, rfl, rfl, trivial⟩, ?_⟩
          rw [if_neg (by simp only [ge_iff_le, decide_eq_false_iff_not] at hcv; simp; omega), List.append_nil]
          exact hA
      clear hA
      rintro r w hA
      ((conv=>whnf);repeat(first|(refine mvT ?_;conv=>whnf)|(refine mvF ?_;conv=>whnf)|(refine cT (by rfl) ?_;conv=>whnf)|(refine cF (by rfl) ?_;conv=>whnf)))
      generalize hm10 : m9 ++ ((if (decide (0 ≤ v) && (decide ((0 : Int) < 0) || decide (v ≤ 0))) = true then arA fx (lsT (atT x2 3)).length ++ (lsT (atT x2 3)).flatMap (fun x => fixed x.n 4) else [])) = m10 at hA
      have hl10 : m10.length = m9.length + ((if (decide (0 ≤ v) && (decide ((0 : Int) < 0) || decide (v ≤ 0))) = true then arA fx (lsT (atT x2 3)).length ++ (lsT (atT x2 3)).flatMap (fun x => fixed x.n 4) else [])).length := by rw [← hm10, List.length_append]
      refine VC.cutE (fun r => [(1, r), (0, .pointer (some ⟨p, 0, none⟩)), (5, .int .i16 v), (6, .bool fx), (8, .slice (some ⟨b1, o1, none⟩) l1.length k1), (64, .slice (some ⟨b1, o1, none⟩) l1.length k1), (65, .int .i64 l1.length), (66, .int .i64 i1), (10, .pointer (some ⟨b1, o1 + i1 * 3, none⟩)), (12, .slice (some ⟨b1_1, o1_1, none⟩) l1_1.length k1_1), (96, .slice (some ⟨b1_1, o1_1, none⟩) l1_1.length k1_1), (97, .int .i64 l1_1.length), (98, .int .i64 i2), (14, .pointer (some ⟨b1_1, o1_1 + i2 * 6, none⟩))]) (fun r w' => Apd w0 B x l (m10 ++ ((if (decide (1 ≤ v) && (decide ((-1 : Int) < 0) || decide (v ≤ (-1)))) = true then arA fx (lsT (atT x2 4)).length ++ (lsT (atT x2 4)).flatMap (bEndQuorumEpochRequestTopicPartitionPreferredCandidate v fx) else []))) r w') ?_ ?_
      · refine cI (by rfl) (fun hcv=>?_) (fun hcv=>?_)
        · ((conv=>whnf);repeat(first|(refine mvT ?_;conv=>whnf)|(refine mvF ?_;conv=>whnf)|(refine cT (by rfl) ?_;conv=>whnf)|(refine cF (by rfl) ?_;conv=>whnf)))
          refine ⟨_, ld ((hce1_1.ext hA.ext (hFx _ hb1_1 hF1_1)).cell (j := 4) rfl) (by simp <;> omega), ?_⟩; ((conv=>whnf);repeat(first|(refine mvT ?_;conv=>whnf)|(refine mvF ?_;conv=>whnf)|(refine cT (by rfl) ?_;conv=>whnf)|(refine cF (by rfl) ?_;conv=>whnf)))
          have hvl10 : ((if (decide (1 ≤ v) && (decide ((-1 : Int) < 0) || decide (v ≤ (-1)))) = true then arA fx (lsT (atT x2 4)).length ++ (lsT (atT x2 4)).flatMap (bEndQuorumEpochRequestTopicPartitionPreferredCandidate v fx) else [])).length = (arA fx (lsT (atT x2 4)).length ++ (lsT (atT x2 4)).flatMap (bEndQuorumEpochRequestTopicPartitionPreferredCandidate v fx)).length := by rw [if_pos (by simp only [ge_iff_le, decide_eq_true_eq] at hcv; simp; omega)]
          simp only [List.length_append] at hvl10
          have hml2_4 := lsT_len (hok2_.1 4 _ rfl)
          (refine mvB ?_;((conv=>whnf);repeat(first|(refine mvT ?_;conv=>whnf)|(refine mvF ?_;conv=>whnf)|(refine cT (by rfl) ?_;conv=>whnf)|(refine cF (by rfl) ?_;conv=>whnf))))
          refine VC.cutE (fun r => [(1, r), (0, .pointer (some ⟨p, 0, none⟩)), (5, .int .i16 v), (6, .bool fx), (8, .slice (some ⟨b1, o1, none⟩) l1.length k1), (64, .slice (some ⟨b1, o1, none⟩) l1.length k1), (65, .int .i64 l1.length), (66, .int .i64 i1), (10, .pointer (some ⟨b1, o1 + i1 * 3, none⟩)), (12, .slice (some ⟨b1_1, o1_1, none⟩) l1_1.length k1_1), (96, .slice (some ⟨b1_1, o1_1, none⟩) l1_1.length k1_1), (97, .int .i64 l1_1.length), (98, .int .i64 i2), (14, .pointer (some ⟨b1_1, o1_1 + i2 * 6, none⟩)), (21, .slice a2_4 l2_4.length k2_4)]) (fun r w' => Apd w0 B x l (m10 ++ (arA fx (lsT (atT x2 4)).length)) r w') ?_ ?_
          · refine cI (by rfl) (fun hc=>?_) (fun hc=>?_)
            · ((conv=>whnf);repeat(first|(refine mvT ?_;conv=>whnf)|(refine mvF ?_;conv=>whnf)|(refine cT (by rfl) ?_;conv=>whnf)|(refine cF (by rfl) ?_;conv=>whnf)))
              refine Does.mono (AppendCompactArrayLen_does hA.ob (Nat.le_trans hB hA.size) (by simp only [List.length_append]; omega) l2_4.length (by omega)) ?_;rintro r w h;((conv=>whnf);repeat(first|(refine mvT ?_;conv=>whnf)|(refine mvF ?_;conv=>whnf)|(refine cT (by rfl) ?_;conv=>whnf)|(refine cF (by rfl) ?_;conv=>whnf)))
              rw [hll2_4] at h
              replace hA := hA.tr h
              clear h
              refine ⟨_, ⟨rfl, rfl, rfl, rfl, rfl, rfl, rfl, rfl, rfl, rfl, rfl, rfl, rfl, rfl, rfl, trivial⟩, ?_⟩
              rw [hc]
              exact hA
            · ((conv=>whnf);repeat(first|(refine mvT ?_;conv=>whnf)|(refine mvF ?_;conv=>whnf)|(refine cT (by rfl) ?_;conv=>whnf)|(refine cF (by rfl) ?_;conv=>whnf)))
              refine Does.mono (AppendArrayLen_does hA.ob (Nat.le_trans hB hA.size) (by simp only [List.length_append]; omega) l2_4.length) ?_;rintro r w h;((conv=>whnf);repeat(first|(refine mvT ?_;conv=>whnf)|(refine mvF ?_;conv=>whnf)|(refine cT (by rfl) ?_;conv=>whnf)|(refine cF (by rfl) ?_;conv=>whnf)))
              rw [hll2_4] at h
              replace hA := hA.tr h
              clear h
              refine ⟨_, ⟨rfl, rfl, rfl, rfl, rfl, rfl, rfl, rfl, rfl, rfl, rfl, rfl, rfl, rfl, rfl, trivial⟩, ?_⟩
              rw [hc]
              exact hA
          clear hA
          rintro r w hA
          ((conv=>whnf);repeat(first|(refine mvT ?_;conv=>whnf)|(refine mvF ?_;conv=>whnf)|(refine cT (by rfl) ?_;conv=>whnf)|(refine cF (by rfl) ?_;conv=>whnf)))
          generalize hm11 : m10 ++ (arA fx (lsT (atT x2 4)).length) = m11 at hA
          have hl11 : m11.length = m10.length + (arA fx (lsT (atT x2 4)).length).length := by rw [← hm11, List.length_append]
          refine VL.loop (fun s : Nat × Value => [(1, s.2), (0, .pointer (some ⟨p, 0, none⟩)), (5, .int .i16 v), (6, .bool fx), (8, .slice (some ⟨b1, o1, none⟩) l1.length k1), (64, .slice (some ⟨b1, o1, none⟩) l1.length k1), (65, .int .i64 l1.length), (66, .int .i64 i1), (10, .pointer (some ⟨b1, o1 + i1 * 3, none⟩)), (12, .slice (some ⟨b1_1, o1_1, none⟩) l1_1.length k1_1), (96, .slice (some ⟨b1_1, o1_1, none⟩) l1_1.length k1_1), (97, .int .i64 l1_1.length), (98, .int .i64 i2), (14, .pointer (some ⟨b1_1, o1_1 + i2 * 6, none⟩)), (21, .slice a2_4 l2_4.length k2_4), (172, .slice a2_4 l2_4.length k2_4), (173, .int .i64 l2_4.length), (174, .int .i64 s.1)])
            (fun s w' => s.1 ≤ l2_4.length ∧ Apd w0 B x l (m11 ++ ((lsT (atT x2 4)).take s.1).flatMap (bEndQuorumEpochRequestTopicPartitionPreferredCandidate v fx)) s.2 w') (fun s => l2_4.length - s.1) (0, r) ⟨rfl, rfl, rfl, rfl, rfl, rfl, rfl, rfl, rfl, rfl, rfl, rfl, rfl, rfl, rfl, rfl, rfl, rfl, trivial⟩ ⟨Nat.zero_le _, by rw [List.take_zero, List.flatMap_nil, List.append_nil]; exact hA⟩ ?_
          clear hA
          rintro ⟨i4, r⟩ w ⟨hi4, hA⟩
          dsimp only at hi4 hA
          ((conv=>whnf);repeat(first|(refine mvT ?_;conv=>whnf)|(refine mvF ?_;conv=>whnf)|(refine cT (by rfl) ?_;conv=>whnf)|(refine cF (by rfl) ?_;conv=>whnf)))
          refine cI (by rfl) (fun h9=>?_) (fun h9=>?_)
          · have hil : i4 < l2_4.length := by have := of_decide_eq_true h9; simp only at this; omega
            have hiL4 : i4 < (lsT (atT x2 4)).length := by omega
            obtain ⟨hft, hfl⟩ := flat_take (bEndQuorumEpochRequestTopicPartitionPreferredCandidate v fx) (lsT (atT x2 4)) i4 hiL4
            obtain ⟨b2_4, o2_4, rfl, hF2_4, hb2_4, hce2_4⟩ := hcl2_4 i4 l2_4[i4] (by simp [hil])
            have hre2_4 := hrl2_4 i4 l2_4[i4] ((lsT (atT x2 4))[i4]) (by simp [hil]) (by simp [hiL4])
            have hlo2_4 := lsT_ok (hok2_.1 4 _ rfl) ((lsT (atT x2 4))[i4]) (List.getElem_mem hiL4)
            generalize hm12 : m11 ++ ((lsT (atT x2 4)).take i4).flatMap (bEndQuorumEpochRequestTopicPartitionPreferredCandidate v fx) = m12 at hA
            have hl12 : m12.length = m11.length + (((lsT (atT x2 4)).take i4).flatMap (bEndQuorumEpochRequestTopicPartitionPreferredCandidate v fx)).length := by rw [← hm12, List.length_append]
            obtain ⟨x4, hx4⟩ : ∃ y, y = (lsT (atT x2 4))[i4] := ⟨_, rfl⟩
            rw [← hx4] at hft hfl hre2_4 hlo2_4
            obtain ⟨u4_1_0, u4_1_1, u4_1_2, u4_1_3, u4_1_4, u4_1_5, u4_1_6, u4_1_7, u4_1_8, u4_1_9, u4_1_10, u4_1_11, u4_1_12, u4_1_13, u4_1_14, u4_1_15, m4_, hcells, hc4_1, hm4_⟩ := hre2_4
            rw [hcells] at hce2_4
            have hok4_ := hlo2_4.2.2 rfl
            have hgl : (bEndQuorumEpochRequestTopicPartitionPreferredCandidate v fx x4).length = (bEndQuorumEpochRequestTopicPartitionPreferredCandidate v fx x4).length := rfl
            conv at hgl => rhs; unfold bEndQuorumEpochRequestTopicPartitionPreferredCandidate
            simp only [List.length_append, List.length_nil] at hgl
            ((conv=>whnf);repeat(first|(refine mvT ?_;conv=>whnf)|(refine mvF ?_;conv=>whnf)|(refine cT (by rfl) ?_;conv=>whnf)|(refine cF (by rfl) ?_;conv=>whnf)))
            refine ⟨b2_4, o2_4, rfl, ⟨by omega, by omega⟩, ?_⟩
            ((conv=>whnf);repeat(first|(refine mvT ?_;conv=>whnf)|(refine mvF ?_;conv=>whnf)|(refine cT (by rfl) ?_;conv=>whnf)|(refine cF (by rfl) ?_;conv=>whnf)))
            refine ⟨_, ld ((hce2_4.ext hA.ext (hFx _ hb2_4 hF2_4)).cell (j := 0) rfl) (by simp <;> omega), ?_⟩; ((conv=>whnf);repeat(first|(refine mvT ?_;conv=>whnf)|(refine mvF ?_;conv=>whnf)|(refine cT (by rfl) ?_;conv=>whnf)|(refine cF (by rfl) ?_;conv=>whnf)))
            refine Does.mono (AppendInt32_does hA.ob (Nat.le_trans hB hA.size) (by simp only [List.length_append]; omega) _) ?_;rintro r w h;((conv=>whnf);repeat(first|(refine mvT ?_;conv=>whnf)|(refine mvF ?_;conv=>whnf)|(refine cT (by rfl) ?_;conv=>whnf)|(refine cF (by rfl) ?_;conv=>whnf)))
            rw [fixed4_mod (wrap_i32m _)] at h
            replace hA := hA.tr h
            clear h
            generalize hm13 : m12 ++ (fixed (atT x4 0).n 4) = m13 at hA
            have hl13 : m13.length = m12.length + (fixed (atT x4 0).n 4).length := by rw [← hm13, List.length_append]
            refine ⟨_, rfl, Cells.sub2 (hce2_4.ext hA.ext (hFx _ hb2_4 hF2_4)) 1 16 rfl (by simp <;> omega), ?_⟩; ((conv=>whnf);repeat(first|(refine mvT ?_;conv=>whnf)|(refine mvF ?_;conv=>whnf)|(refine cT (by rfl) ?_;conv=>whnf)|(refine cF (by rfl) ?_;conv=>whnf)))
            intro bu wu hbu hou hxu
            ((conv=>whnf);repeat(first|(refine mvT ?_;conv=>whnf)|(refine mvF ?_;conv=>whnf)|(refine cT (by rfl) ?_;conv=>whnf)|(refine cF (by rfl) ?_;conv=>whnf)))
            refine st_all [bcell u4_1_0, bcell u4_1_1, bcell u4_1_2, bcell u4_1_3, bcell u4_1_4, bcell u4_1_5, bcell u4_1_6, bcell u4_1_7, bcell u4_1_8, bcell u4_1_9, bcell u4_1_10, bcell u4_1_11, bcell u4_1_12, bcell u4_1_13, bcell u4_1_14, bcell u4_1_15] hou rfl rfl rfl ?_
            intro wv hov hxv
            ((conv=>whnf);repeat(first|(refine mvT ?_;conv=>whnf)|(refine mvF ?_;conv=>whnf)|(refine cT (by rfl) ?_;conv=>whnf)|(refine cF (by rfl) ?_;conv=>whnf)))
            replace hA := hA.e0 ((Ext.refl nob _).trans (hxu.trans hxv (M' := fun k => k = bu) fun k hk e => by omega) fun _ _ h => h)
            refine ⟨_, rfl, hov.cells, ?_⟩
            ((conv=>whnf);repeat(first|(refine mvT ?_;conv=>whnf)|(refine mvF ?_;conv=>whnf)|(refine cT (by rfl) ?_;conv=>whnf)|(refine cF (by rfl) ?_;conv=>whnf)))
            refine Does.mono (AppendUuid_does (s := [u4_1_0, u4_1_1, u4_1_2, u4_1_3, u4_1_4, u4_1_5, u4_1_6, u4_1_7, u4_1_8, u4_1_9, u4_1_10, u4_1_11, u4_1_12, u4_1_13, u4_1_14, u4_1_15]) hA.ob (Nat.le_trans hB hA.size) (by simp only [List.length_append, List.length_cons, List.length_nil]; omega)) ?_;rintro r w h;((conv=>whnf);repeat(first|(refine mvT ?_;conv=>whnf)|(refine mvF ?_;conv=>whnf)|(refine cT (by rfl) ?_;conv=>whnf)|(refine cF (by rfl) ?_;conv=>whnf)))
            replace hA := hA.tr h
            clear h
            rw [← hc4_1] at hA
            generalize hm14 : m13 ++ (uuidB (atT x4 1).s) = m14 at hA
            have hl14 : m14.length = m13.length + (uuidB (atT x4 1).s).length := by rw [← hm14, List.length_append]
            (refine mvB ?_;((conv=>whnf);repeat(first|(refine mvT ?_;conv=>whnf)|(refine mvF ?_;conv=>whnf)|(refine cT (by rfl) ?_;conv=>whnf)|(refine cF (by rfl) ?_;conv=>whnf))))
            refine VC.cutB (fun r => [(1, r), (0, .pointer (some ⟨p, 0, none⟩)), (5, .int .i16 v), (6, .bool fx), (8, .slice (some ⟨b1, o1, none⟩) l1.length k1), (64, .slice (some ⟨b1, o1, none⟩) l1.length k1), (65, .int .i64 l1.length), (66, .int .i64 i1), (10, .pointer (some ⟨b1, o1 + i1 * 3, none⟩)), (12, .slice (some ⟨b1_1, o1_1, none⟩) l1_1.length k1_1), (96, .slice (some ⟨b1_1, o1_1, none⟩) l1_1.length k1_1), (97, .int .i64 l1_1.length), (98, .int .i64 i2), (14, .pointer (some ⟨b1_1, o1_1 + i2 * 6, none⟩)), (21, .slice (some ⟨b2_4, o2_4, none⟩) l2_4.length k2_4), (172, .slice (some ⟨b2_4, o2_4, none⟩) l2_4.length k2_4), (173, .int .i64 l2_4.length), (174, .int .i64 i4), (23, .pointer (some ⟨b2_4, o2_4 + i4 * 18, none⟩))]) (fun r w' => Apd w0 B x l (m14 ++ (tgsB fx (x4).u)) r w') ?_ ?_
            · refine cI (by rfl) (fun hc=>?_) (fun hc=>?_)
              · ((conv=>whnf);repeat(first|(refine mvT ?_;conv=>whnf)|(refine mvF ?_;conv=>whnf)|(refine cT (by rfl) ?_;conv=>whnf)|(refine cF (by rfl) ?_;conv=>whnf)))
                have hul := hok4_.2.len
                refine Does.mono (Tags_Len_does (ld ((hce2_4.ext hA.ext (hFx _ hb2_4 hF2_4)).cell (j := 17) rfl) (by simp <;> omega)) (hm4_.ext hA.ext hFx)) ?_;rintro r w ⟨rfl, rfl⟩;((conv=>whnf);repeat(first|(refine mvT ?_;conv=>whnf)|(refine mvF ?_;conv=>whnf)|(refine cT (by rfl) ?_;conv=>whnf)|(refine cF (by rfl) ?_;conv=>whnf)))
                rw [u32_add0 (by omega)]
                refine Does.mono (AppendUvarint_does hA.ob (Nat.le_trans hB hA.size) (x4).u.length (by omega) (by simp only [List.length_append]; omega)) ?_;rintro r w h;((conv=>whnf);repeat(first|(refine mvT ?_;conv=>whnf)|(refine mvF ?_;conv=>whnf)|(refine cT (by rfl) ?_;conv=>whnf)|(refine cF (by rfl) ?_;conv=>whnf)))
                have hul2 := uvar10 (n := (x4).u.length) (by omega)
                replace hA := hA.tr h
                clear h
                refine Does.mono (AppendEach_does (ld ((hce2_4.ext hA.ext (hFx _ hb2_4 hF2_4)).cell (j := 17) rfl) (by simp <;> omega)) (hm4_.ext hA.ext hFx) hok4_.2 hA.ob (Nat.le_trans hB hA.size) (hA.ne (hFR _ hF2_4).2 (hFR _ hF2_4).1) (fun j _ hf => hA.ne (hFR j hf).2 (hFR j hf).1) (by simp only [List.length_append]; omega)) ?_;rintro r w h;((conv=>whnf);repeat(first|(refine mvT ?_;conv=>whnf)|(refine mvF ?_;conv=>whnf)|(refine cT (by rfl) ?_;conv=>whnf)|(refine cF (by rfl) ?_;conv=>whnf)))
                replace hA := hA.tr h
                clear h
                refine ⟨_, ⟨rfl, rfl, rfl, rfl, rfl, rfl, rfl, rfl, rfl, rfl, rfl, rfl, rfl, rfl, rfl, rfl, rfl, rfl, rfl, trivial⟩, ?_⟩
                rw [tgsB, if_pos hc, ← List.append_assoc]
                exact hA
              · ((conv=>whnf);repeat(first|(refine mvT ?_;conv=>whnf)|(refine mvF ?_;conv=>whnf)|(refine cT (by rfl) ?_;conv=>whnf)|(refine cF (by rfl) ?_;conv=>whnf)))
                refine ⟨_, ⟨rfl, rfl, rfl, rfl, rfl, rfl, rfl, rfl, rfl, rfl, rfl, rfl, rfl, rfl, rfl, rfl, rfl, rfl, rfl, trivial⟩, ?_⟩
                rw [tgsB, if_neg (by rw [hc]; decide), List.append_nil]
                exact hA
            clear hA
            rintro r w hA
            ((conv=>whnf);repeat(first|(refine mvT ?_;conv=>whnf)|(refine mvF ?_;conv=>whnf)|(refine cT (by rfl) ?_;conv=>whnf)|(refine cF (by rfl) ?_;conv=>whnf)))
            generalize hm15 : m14 ++ (tgsB fx (x4).u) = m15 at hA
            have hl15 : m15.length = m14.length + (tgsB fx (x4).u).length := by rw [← hm15, List.length_append]
            have hfin : m12 ++ (bEndQuorumEpochRequestTopicPartitionPreferredCandidate v fx) x4 = m15 := by unfold bEndQuorumEpochRequestTopicPartitionPreferredCandidate; simp only [← hm15, ← hm14, ← hm13, List.append_assoc, List.nil_append, List.append_nil]
            refine ⟨(i4 + 1, r), ⟨rfl, rfl, rfl, rfl, rfl, rfl, rfl, rfl, rfl, rfl, rfl, rfl, rfl, rfl, rfl, rfl, rfl, inc_eq (by rw [maxLen_eq] at hkm2_4; omega), trivial⟩, ⟨by simp only; omega, ?_⟩, by simp only; omega⟩
            rw [hft, ← List.append_assoc, hm12, hfin]
            exact hA
          have hil : i4 = l2_4.length := by have := of_decide_eq_false h9; simp only at this; omega
          ((conv=>whnf);repeat(first|(refine mvT ?_;conv=>whnf)|(refine mvF ?_;conv=>whnf)|(refine cT (by rfl) ?_;conv=>whnf)|(refine cF (by rfl) ?_;conv=>whnf)))
          rw [hil, hll2_4, List.take_length] at hA
          generalize hm12 : m11 ++ ((lsT (atT x2 4)).flatMap (bEndQuorumEpochRequestTopicPartitionPreferredCandidate v fx)) = m12 at hA
          have hl12 : m12.length = m11.length + ((lsT (atT x2 4)).flatMap (bEndQuorumEpochRequestTopicPartitionPreferredCandidate v fx)).length := by rw [← hm12, List.length_append]
          refine ⟨_, ⟨rfl, rfl, rfl, rfl, rfl, rfl, rfl, rfl, rfl, rfl, rfl, rfl, rfl, rfl, trivial⟩, ?_⟩
          rw [if_pos (by simp only [ge_iff_le, decide_eq_true_eq] at hcv; simp; omega)]
          rw [show m10 ++ (arA fx (lsT (atT x2 4)).length ++ (lsT (atT x2 4)).flatMap (bEndQuorumEpochRequestTopicPartitionPreferredCandidate v fx)) = m12 by simp only [← hm12, ← hm11, List.append_assoc]]
          exact hA
        · ((conv=>whnf);repeat(first|(refine mvT ?_;conv=>whnf)|(refine mvF ?_;conv=>whnf)|(refine cT (by rfl) ?_;conv=>whnf)|(refine cF (by rfl) ?_;conv=>whnf)))
          refine ⟨_, ⟨rfl, rfl, rfl, rfl, rfl, rfl, rfl, rfl, rfl, rfl, rfl, rfl, rfl, rfl, trivial⟩, ?_⟩
          rw [if_neg (by simp only [ge_iff_le, decide_eq_false_iff_not] at hcv; simp; omega), List.append_nil]
          exact hA
      clear hA
      rintro r w hA
      ((conv=>whnf);repeat(first|(refine mvT ?_;conv=>whnf)|(refine mvF ?_;conv=>whnf)|(refine cT (by rfl) ?_;conv=>whnf)|(refine cF (by rfl) ?_;conv=>whnf)))
      generalize hm11 : m10 ++ ((if (decide (1 ≤ v) && (decide ((-1 : Int) < 0) || decide (v ≤ (-1)))) = true then arA fx (lsT (atT x2 4)).length ++ (lsT (atT x2 4)).flatMap (bEndQuorumEpochRequestTopicPartitionPreferredCandidate v fx) else [])) = m11 at hA
      have hl11 : m11.length = m10.length + ((if (decide (1 ≤ v) && (decide ((-1 : Int) < 0) || decide (v ≤ (-1)))) = true then arA fx (lsT (atT x2 4)).length ++ (lsT (atT x2 4)).flatMap (bEndQuorumEpochRequestTopicPartitionPreferredCandidate v fx) else [])).length := by rw [← hm11, List.length_append]
      (refine mvB ?_;((conv=>whnf);repeat(first|(refine mvT ?_;conv=>whnf)|(refine mvF ?_;conv=>whnf)|(refine cT (by rfl) ?_;conv=>whnf)|(refine cF (by rfl) ?_;conv=>whnf))))
      refine VC.cutB (fun r => [(1, r), (0, .pointer (some ⟨p, 0, none⟩)), (5, .int .i16 v), (6, .bool fx), (8, .slice (some ⟨b1, o1, none⟩) l1.length k1), (64, .slice (some ⟨b1, o1, none⟩) l1.length k1), (65, .int .i64 l1.length), (66, .int .i64 i1), (10, .pointer (some ⟨b1, o1 + i1 * 3, none⟩)), (12, .slice (some ⟨b1_1, o1_1, none⟩) l1_1.length k1_1), (96, .slice (some ⟨b1_1, o1_1, none⟩) l1_1.length k1_1), (97, .int .i64 l1_1.length), (98, .int .i64 i2), (14, .pointer (some ⟨b1_1, o1_1 + i2 * 6, none⟩))]) (fun r w' => Apd w0 B x l (m11 ++ (tgsB fx (x2).u)) r w') ?_ ?_
      · refine cI (by rfl) (fun hc=>?_) (fun hc=>?_)
        · ((conv=>whnf);repeat(first|(refine mvT ?_;conv=>whnf)|(refine mvF ?_;conv=>whnf)|(refine cT (by rfl) ?_;conv=>whnf)|(refine cF (by rfl) ?_;conv=>whnf)))
          have hul := hok2_.2.len
          refine Does.mono (Tags_Len_does (ld ((hce1_1.ext hA.ext (hFx _ hb1_1 hF1_1)).cell (j := 5) rfl) (by simp <;> omega)) (hm2_.ext hA.ext hFx)) ?_;rintro r w ⟨rfl, rfl⟩;((conv=>whnf);repeat(first|(refine mvT ?_;conv=>whnf)|(refine mvF ?_;conv=>whnf)|(refine cT (by rfl) ?_;conv=>whnf)|(refine cF (by rfl) ?_;conv=>whnf)))
          rw [u32_add0 (by omega)]
          refine Does.mono (AppendUvarint_does hA.ob (Nat.le_trans hB hA.size) (x2).u.length (by omega) (by simp only [List.length_append]; omega)) ?_;rintro r w h;((conv=>whnf);repeat(first|(refine mvT ?_;conv=>whnf)|(refine mvF ?_;conv=>whnf)|(refine cT (by rfl) ?_;conv=>whnf)|(refine cF (by rfl) ?_;conv=>whnf)))
          have hul2 := uvar10 (n := (x2).u.length) (by omega)
          replace hA := hA.tr h
          clear h
          refine Does.mono (AppendEach_does (ld ((hce1_1.ext hA.ext (hFx _ hb1_1 hF1_1)).cell (j := 5) rfl) (by simp <;> omega)) (hm2_.ext hA.ext hFx) hok2_.2 hA.ob (Nat.le_trans hB hA.size) (hA.ne (hFR _ hF1_1).2 (hFR _ hF1_1).1) (fun j _ hf => hA.ne (hFR j hf).2 (hFR j hf).1) (by simp only [List.length_append]; omega)) ?_;rintro r w h;((conv=>whnf);repeat(first|(refine mvT ?_;conv=>whnf)|(refine mvF ?_;conv=>whnf)|(refine cT (by rfl) ?_;conv=>whnf)|(refine cF (by rfl) ?_;conv=>whnf)))
          replace hA := hA.tr h
          clear h
          refine ⟨_, ⟨rfl, rfl, rfl, rfl, rfl, rfl, rfl, rfl, rfl, rfl, rfl, rfl, rfl, rfl, trivial⟩, ?_⟩
          rw [tgsB, if_pos hc, ← List.append_assoc]
          exact hA
        · ((conv=>whnf);repeat(first|(refine mvT ?_;conv=>whnf)|(refine mvF ?_;conv=>whnf)|(refine cT (by rfl) ?_;conv=>whnf)|(refine cF (by rfl) ?_;conv=>whnf)))
          refine ⟨_, ⟨rfl, rfl, rfl, rfl, rfl, rfl, rfl, rfl, rfl, rfl, rfl, rfl, rfl, rfl, trivial⟩, ?_⟩
          rw [tgsB, if_neg (by rw [hc]; decide), List.append_nil]
          exact hA
      clear hA
      rintro r w hA
      ((conv=>whnf);repeat(first|(refine mvT ?_;conv=>whnf)|(refine mvF ?_;conv=>whnf)|(refine cT (by rfl) ?_;conv=>whnf)|(refine cF (by rfl) ?_;conv=>whnf)))
      generalize hm12 : m11 ++ (tgsB fx (x2).u) = m12 at hA
      have hl12 : m12.length = m11.length + (tgsB fx (x2).u).length := by rw [← hm12, List.length_append]
      have hfin : m6 ++ (bEndQuorumEpochRequestTopicPartition v fx) x2 = m12 := by unfold bEndQuorumEpochRequestTopicPartition; simp only [← hm12, ← hm11, ← hm10, ← hm9, ← hm8, ← hm7, List.append_assoc, List.nil_append, List.append_nil]
      refine ⟨(i2 + 1, r), ⟨rfl, rfl, rfl, rfl, rfl, rfl, rfl, rfl, rfl, rfl, rfl, rfl, inc_eq (by rw [maxLen_eq] at hkm1_1; omega), trivial⟩, ⟨by simp only; omega, ?_⟩, by simp only; omega⟩
      rw [hft, ← List.append_assoc, hm6, hfin]
      exact hA
    have hil : i2 = l1_1.length := by have := of_decide_eq_false h9; simp only at this; omega
    ((conv=>whnf);repeat(first|(refine mvT ?_;conv=>whnf)|(refine mvF ?_;conv=>whnf)|(refine cT (by rfl) ?_;conv=>whnf)|(refine cF (by rfl) ?_;conv=>whnf)))
    rw [hil, hll1_1, List.take_length] at hA
    generalize hm6 : m5 ++ ((lsT (atT x1 1)).flatMap (bEndQuorumEpochRequestTopicPartition v fx)) = m6 at hA
    have hl6 : m6.length = m5.length + ((lsT (atT x1 1)).flatMap (bEndQuorumEpochRequestTopicPartition v fx)).length := by rw [← hm6, List.length_append]
    (refine mvB ?_;((conv=>whnf);repeat(first|(refine mvT ?_;conv=>whnf)|(refine mvF ?_;conv=>whnf)|(refine cT (by rfl) ?_;conv=>whnf)|(refine cF (by rfl) ?_;conv=>whnf))))
    refine VC.cutB (fun r => [(1, r), (0, .pointer (some ⟨p, 0, none⟩)), (5, .int .i16 v), (6, .bool fx), (8, .slice (some ⟨b1, o1, none⟩) l1.length k1), (64, .slice (some ⟨b1, o1, none⟩) l1.length k1), (65, .int .i64 l1.length), (66, .int .i64 i1), (10, .pointer (some ⟨b1, o1 + i1 * 3, none⟩))]) (fun r w' => Apd w0 B x l (m6 ++ (tgsB fx (x1).u)) r w') ?_ ?_
    · refine cI (by rfl) (fun hc=>?_) (fun hc=>?_)
      · ((conv=>whnf);repeat(first|(refine mvT ?_;conv=>whnf)|(refine mvF ?_;conv=>whnf)|(refine cT (by rfl) ?_;conv=>whnf)|(refine cF (by rfl) ?_;conv=>whnf)))
        have hul := hok1_.2.len
        refine Does.mono (Tags_Len_does (ld ((hce1.ext hA.ext (hFx _ hb1 hF1)).cell (j := 2) rfl) (by simp <;> omega)) (hm1_.ext hA.ext hFx)) ?_;rintro r w ⟨rfl, rfl⟩;((conv=>whnf);repeat(first|(refine mvT ?_;conv=>whnf)|(refine mvF ?_;conv=>whnf)|(refine cT (by rfl) ?_;conv=>whnf)|(refine cF (by rfl) ?_;conv=>whnf)))
        rw [u32_add0 (by omega)]
        refine Does.mono (AppendUvarint_does hA.ob (Nat.le_trans hB hA.size) (x1).u.length (by omega) (by simp only [List.length_append]; omega)) ?_;rintro r w h;((conv=>whnf);repeat(first|(refine mvT ?_;conv=>whnf)|(refine mvF ?_;conv=>whnf)|(refine cT (by rfl) ?_;conv=>whnf)|(refine cF (by rfl) ?_;conv=>whnf)))
        have hul2 := uvar10 (n := (x1).u.length) (by omega)
        replace hA := hA.tr h
        clear h
        refine Does.mono (AppendEach_does (ld ((hce1.ext hA.ext (hFx _ hb1 hF1)).cell (j := 2) rfl) (by simp <;> omega)) (hm1_.ext hA.ext hFx) hok1_.2 hA.ob (Nat.le_trans hB hA.size) (hA.ne (hFR _ hF1).2 (hFR _ hF1).1) (fun j _ hf => hA.ne (hFR j hf).2 (hFR j hf).1) (by simp only [List.length_append]; omega)) ?_;rintro r w h;((conv=>whnf);repeat(first|(refine mvT ?_;conv=>whnf)|(refine mvF ?_;conv=>whnf)|(refine cT (by rfl) ?_;conv=>whnf)|(refine cF (by rfl) ?_;conv=>whnf)))
        replace hA := hA.tr h
        clear h
        refine ⟨_, ⟨rfl, rfl, rfl, rfl, rfl, rfl, rfl, rfl, rfl, trivial⟩, ?_⟩
        rw [tgsB, if_pos hc, ← List.append_assoc]
        exact hA
      · ((conv=>whnf);repeat(first|(refine mvT ?_;conv=>whnf)|(refine mvF ?_;conv=>whnf)|(refine cT (by rfl) ?_;conv=>whnf)|(refine cF (by rfl) ?_;conv=>whnf)))
        refine ⟨_, ⟨rfl, rfl, rfl, rfl, rfl, rfl, rfl, rfl, rfl, trivial⟩, ?_⟩
        rw [tgsB, if_neg (by rw [hc]; decide), List.append_nil]
        exact hA
    clear hA
    rintro r w hA
    ((conv=>whnf);repeat(first|(refine mvT ?_;conv=>whnf)|(refine mvF ?_;conv=>whnf)|(refine cT (by rfl) ?_;conv=>whnf)|(refine cF (by rfl) ?_;conv=>whnf)))
    generalize hm7 : m6 ++ (tgsB fx (x1).u) = m7 at hA
    have hl7 : m7.length = m6.length + (tgsB fx (x1).u).length := by rw [← hm7, List.length_append]
    have hfin : m3 ++ (bEndQuorumEpochRequestTopic v fx) x1 = m7 := by unfold bEndQuorumEpochRequestTopic; simp only [← hm7, ← hm6, ← hm5, ← hm4, List.append_assoc, List.nil_append, List.append_nil]
    refine ⟨(i1 + 1, r), ⟨rfl, rfl, rfl, rfl, rfl, rfl, rfl, inc_eq (by rw [maxLen_eq] at hkm1; omega), trivial⟩, ⟨by simp only; omega, ?_⟩, by simp only; omega⟩
    rw [hft, ← List.append_assoc, hm3, hfin]
    exact hA
  have hil : i1 = l1.length := by have := of_decide_eq_false h9; simp only at this; omega
  ((conv=>whnf);repeat(first|(refine mvT ?_;conv=>whnf)|(refine mvF ?_;conv=>whnf)|(refine cT (by rfl) ?_;conv=>whnf)|(refine cF (by rfl) ?_;conv=>whnf)))
  rw [hil, hll1, List.take_length] at hA
  generalize hm3 : m2 ++ ((lsT (atT t 1)).flatMap (bEndQuorumEpochRequestTopic v fx)) = m3 at hA
  have hl3 : m3.length = m2.length + ((lsT (atT t 1)).flatMap (bEndQuorumEpochRequestTopic v fx)).length := by rw [← hm3, List.length_append]
  refine VC.cutE (fun r => [(1, r), (0, .pointer (some ⟨p, 0, none⟩)), (5, .int .i16 v), (6, .bool fx)]) (fun r w' => Apd w0 B x l (m3 ++ ((if (decide (1 ≤ v) && (decide ((-1 : Int) < 0) || decide (v ≤ (-1)))) = true then arA fx (lsT (atT t 2)).length ++ (lsT (atT t 2)).flatMap (bEndQuorumEpochRequestLeaderEndpoint v fx) else []))) r w') ?_ ?_
  · refine cI (by rfl) (fun hcv=>?_) (fun hcv=>?_)
    · ((conv=>whnf);repeat(first|(refine mvT ?_;conv=>whnf)|(refine mvF ?_;conv=>whnf)|(refine cT (by rfl) ?_;conv=>whnf)|(refine cF (by rfl) ?_;conv=>whnf)))
      refine ldS ((hp.ext hA.ext hxp).cell rfl) ?_;((conv=>whnf);repeat(first|(refine mvT ?_;conv=>whnf)|(refine mvF ?_;conv=>whnf)|(refine cT (by rfl) ?_;conv=>whnf)|(refine cF (by rfl) ?_;conv=>whnf)))
      have hvl3 : ((if (decide (1 ≤ v) && (decide ((-1 : Int) < 0) || decide (v ≤ (-1)))) = true then arA fx (lsT (atT t 2)).length ++ (lsT (atT t 2)).flatMap (bEndQuorumEpochRequestLeaderEndpoint v fx) else [])).length = (arA fx (lsT (atT t 2)).length ++ (lsT (atT t 2)).flatMap (bEndQuorumEpochRequestLeaderEndpoint v fx)).length := by rw [if_pos (by simp only [ge_iff_le, decide_eq_true_eq] at hcv; simp; omega)]
      simp only [List.length_append] at hvl3
      have hml2 := lsT_len (hok.1 2 _ rfl)
      (refine mvB ?_;((conv=>whnf);repeat(first|(refine mvT ?_;conv=>whnf)|(refine mvF ?_;conv=>whnf)|(refine cT (by rfl) ?_;conv=>whnf)|(refine cF (by rfl) ?_;conv=>whnf))))
      refine VC.cutE (fun r => [(1, r), (0, .pointer (some ⟨p, 0, none⟩)), (5, .int .i16 v), (6, .bool fx), (26, .slice a2 l2.length k2)]) (fun r w' => Apd w0 B x l (m3 ++ (arA fx (lsT (atT t 2)).length)) r w') ?_ ?_
      · refine cI (by rfl) (fun hc=>?_) (fun hc=>?_)
        · ((conv=>whnf);repeat(first|(refine mvT ?_;conv=>whnf)|(refine mvF ?_;conv=>whnf)|(refine cT (by rfl) ?_;conv=>whnf)|(refine cF (by rfl) ?_;conv=>whnf)))
          refine Does.mono (AppendCompactArrayLen_does hA.ob (Nat.le_trans hB hA.size) (by simp only [List.length_append]; omega) l2.length (by omega)) ?_;rintro r w h;((conv=>whnf);repeat(first|(refine mvT ?_;conv=>whnf)|(refine mvF ?_;conv=>whnf)|(refine cT (by rfl) ?_;conv=>whnf)|(refine cF (by rfl) ?_;conv=>whnf)))
          rw [hll2] at h
          replace hA := hA.tr h
          clear h
          refine ⟨_, ⟨rfl, rfl, rfl, rfl, rfl, trivial⟩, ?_⟩
          rw [hc]
          exact hA
        · ((conv=>whnf);repeat(first|(refine mvT ?_;conv=>whnf)|(refine mvF ?_;conv=>whnf)|(refine cT (by rfl) ?_;conv=>whnf)|(refine cF (by rfl) ?_;conv=>whnf)))
          refine Does.mono (AppendArrayLen_does hA.ob (Nat.le_trans hB hA.size) (by simp only [List.length_append]; omega) l2.length) ?_;rintro r w h;((conv=>whnf);repeat(first|(refine mvT ?_;conv=>whnf)|(refine mvF ?_;conv=>whnf)|(refine cT (by rfl) ?_;conv=>whnf)|(refine cF (by rfl) ?_;conv=>whnf)))
          rw [hll2] at h
          replace hA := hA.tr h
          clear h
          refine ⟨_, ⟨rfl, rfl, rfl, rfl, rfl, trivial⟩, ?_⟩
          rw [hc]
          exact hA
      clear hA
      rintro r w hA
      ((conv=>whnf);repeat(first|(refine mvT ?_;conv=>whnf)|(refine mvF ?_;conv=>whnf)|(refine cT (by rfl) ?_;conv=>whnf)|(refine cF (by rfl) ?_;conv=>whnf)))
      generalize hm4 : m3 ++ (arA fx (lsT (atT t 2)).length) = m4 at hA
      have hl4 : m4.length = m3.length + (arA fx (lsT (atT t 2)).length).length := by rw [← hm4, List.length_append]
      refine VL.loop (fun s : Nat × Value => [(1, s.2), (0, .pointer (some ⟨p, 0, none⟩)), (5, .int .i16 v), (6, .bool fx), (26, .slice a2 l2.length k2), (254, .slice a2 l2.length k2), (255, .int .i64 l2.length), (256, .int .i64 s.1)])
        (fun s w' => s.1 ≤ l2.length ∧ Apd w0 B x l (m4 ++ ((lsT (atT t 2)).take s.1).flatMap (bEndQuorumEpochRequestLeaderEndpoint v fx)) s.2 w') (fun s => l2.length - s.1) (0, r) ⟨rfl, rfl, rfl, rfl, rfl, rfl, rfl, rfl, trivial⟩ ⟨Nat.zero_le _, by rw [List.take_zero, List.flatMap_nil, List.append_nil]; exact hA⟩ ?_
      clear hA
      rintro ⟨i2, r⟩ w ⟨hi2, hA⟩
      dsimp only at hi2 hA
      ((conv=>whnf);repeat(first|(refine mvT ?_;conv=>whnf)|(refine mvF ?_;conv=>whnf)|(refine cT (by rfl) ?_;conv=>whnf)|(refine cF (by rfl) ?_;conv=>whnf)))
      refine cI (by rfl) (fun h9=>?_) (fun h9=>?_)
      · have hil : i2 < l2.length := by have := of_decide_eq_true h9; simp only at this; omega
        have hiL2 : i2 < (lsT (atT t 2)).length := by omega
        obtain ⟨hft, hfl⟩ := flat_take (bEndQuorumEpochRequestLeaderEndpoint v fx) (lsT (atT t 2)) i2 hiL2
        obtain ⟨b2, o2, rfl, hF2, hb2, hce2⟩ := hcl2 i2 l2[i2] (by simp [hil])
        have hre2 := hrl2 i2 l2[i2] ((lsT (atT t 2))[i2]) (by simp [hil]) (by simp [hiL2])
        have hlo2 := lsT_ok (hok.1 2 _ rfl) ((lsT (atT t 2))[i2]) (List.getElem_mem hiL2)
        generalize hm5 : m4 ++ ((lsT (atT t 2)).take i2).flatMap (bEndQuorumEpochRequestLeaderEndpoint v fx) = m5 at hA
        have hl5 : m5.length = m4.length + (((lsT (atT t 2)).take i2).flatMap (bEndQuorumEpochRequestLeaderEndpoint v fx)).length := by rw [← hm5, List.length_append]
        obtain ⟨x2, hx2⟩ : ∃ y, y = (lsT (atT t 2))[i2] := ⟨_, rfl⟩
        rw [← hx2] at hft hfl hre2 hlo2
        obtain ⟨m2_, hcells, hm2_⟩ := hre2
        rw [hcells] at hce2
        have hok2_ := hlo2.2.2 rfl
        have hgl : (bEndQuorumEpochRequestLeaderEndpoint v fx x2).length = (bEndQuorumEpochRequestLeaderEndpoint v fx x2).length := rfl
        conv at hgl => rhs; unfold bEndQuorumEpochRequestLeaderEndpoint
        simp only [List.length_append, List.length_nil] at hgl
        ((conv=>whnf);repeat(first|(refine mvT ?_;conv=>whnf)|(refine mvF ?_;conv=>whnf)|(refine cT (by rfl) ?_;conv=>whnf)|(refine cF (by rfl) ?_;conv=>whnf)))
        refine ⟨b2, o2, rfl, ⟨by omega, by omega⟩, ?_⟩
        ((conv=>whnf);repeat(first|(refine mvT ?_;conv=>whnf)|(refine mvF ?_;conv=>whnf)|(refine cT (by rfl) ?_;conv=>whnf)|(refine cF (by rfl) ?_;conv=>whnf)))
        refine ⟨_, ld ((hce2.ext hA.ext (hFx _ hb2 hF2)).cell (j := 0) rfl) (by simp <;> omega), ?_⟩; ((conv=>whnf);repeat(first|(refine mvT ?_;conv=>whnf)|(refine mvF ?_;conv=>whnf)|(refine cT (by rfl) ?_;conv=>whnf)|(refine cF (by rfl) ?_;conv=>whnf)))
        have hsl := fieldOK_text (hok2_.1 0 _ rfl)
        (refine mvB ?_;((conv=>whnf);repeat(first|(refine mvT ?_;conv=>whnf)|(refine mvF ?_;conv=>whnf)|(refine cT (by rfl) ?_;conv=>whnf)|(refine cF (by rfl) ?_;conv=>whnf))))
        refine VC.cutE (fun r => [(1, r), (0, .pointer (some ⟨p, 0, none⟩)), (5, .int .i16 v), (6, .bool fx), (26, .slice (some ⟨b2, o2, none⟩) l2.length k2), (254, .slice (some ⟨b2, o2, none⟩) l2.length k2), (255, .int .i64 l2.length), (256, .int .i64 i2), (28, .pointer (some ⟨b2, o2 + i2 * 4, none⟩))]) (fun r w' => Apd w0 B x l (m5 ++ (txA fx (atT x2 0).s)) r w') ?_ ?_
        · refine cI (by rfl) (fun hc=>?_) (fun hc=>?_)
          · ((conv=>whnf);repeat(first|(refine mvT ?_;conv=>whnf)|(refine mvF ?_;conv=>whnf)|(refine cT (by rfl) ?_;conv=>whnf)|(refine cF (by rfl) ?_;conv=>whnf)))
            refine Does.mono (AppendCompactString_does hA.ob (Nat.le_trans hB hA.size) _ (by omega) (by simp only [List.length_append]; omega)) ?_;rintro r w h;((conv=>whnf);repeat(first|(refine mvT ?_;conv=>whnf)|(refine mvF ?_;conv=>whnf)|(refine cT (by rfl) ?_;conv=>whnf)|(refine cF (by rfl) ?_;conv=>whnf)))
            replace hA := hA.tr h
            clear h
            refine ⟨_, ⟨rfl, rfl, rfl, rfl, rfl, rfl, rfl, rfl, rfl, trivial⟩, ?_⟩
            rw [hc]
            exact hA
          · ((conv=>whnf);repeat(first|(refine mvT ?_;conv=>whnf)|(refine mvF ?_;conv=>whnf)|(refine cT (by rfl) ?_;conv=>whnf)|(refine cF (by rfl) ?_;conv=>whnf)))
            refine Does.mono (AppendString_does hA.ob (Nat.le_trans hB hA.size) _ (by simp only [List.length_append]; omega)) ?_;rintro r w h;((conv=>whnf);repeat(first|(refine mvT ?_;conv=>whnf)|(refine mvF ?_;conv=>whnf)|(refine cT (by rfl) ?_;conv=>whnf)|(refine cF (by rfl) ?_;conv=>whnf)))
            replace hA := hA.tr h
            clear h
            refine ⟨_, ⟨rfl, rfl, rfl, rfl, rfl, rfl, rfl, rfl, rfl, trivial⟩, ?_⟩
            rw [hc]
            exact hA
        clear hA
        rintro r w hA
        ((conv=>whnf);repeat(first|(refine mvT ?_;conv=>whnf)|(refine mvF ?_;conv=>whnf)|(refine cT (by rfl) ?_;conv=>whnf)|(refine cF (by rfl) ?_;conv=>whnf)))
        generalize hm6 : m5 ++ (txA fx (atT x2 0).s) = m6 at hA
        have hl6 : m6.length = m5.length + (txA fx (atT x2 0).s).length := by rw [← hm6, List.length_append]
        refine ⟨_, ld ((hce2.ext hA.ext (hFx _ hb2 hF2)).cell (j := 1) rfl) (by simp <;> omega), ?_⟩; ((conv=>whnf);repeat(first|(refine mvT ?_;conv=>whnf)|(refine mvF ?_;conv=>whnf)|(refine cT (by rfl) ?_;conv=>whnf)|(refine cF (by rfl) ?_;conv=>whnf)))
        have hsl := fieldOK_text (hok2_.1 1 _ rfl)
        (refine mvB ?_;((conv=>whnf);repeat(first|(refine mvT ?_;conv=>whnf)|(refine mvF ?_;conv=>whnf)|(refine cT (by rfl) ?_;conv=>whnf)|(refine cF (by rfl) ?_;conv=>whnf))))
        refine VC.cutE (fun r => [(1, r), (0, .pointer (some ⟨p, 0, none⟩)), (5, .int .i16 v), (6, .bool fx), (26, .slice (some ⟨b2, o2, none⟩) l2.length k2), (254, .slice (some ⟨b2, o2, none⟩) l2.length k2), (255, .int .i64 l2.length), (256, .int .i64 i2), (28, .pointer (some ⟨b2, o2 + i2 * 4, none⟩))]) (fun r w' => Apd w0 B x l (m6 ++ (txA fx (atT x2 1).s)) r w') ?_ ?_
        · refine cI (by rfl) (fun hc=>?_) (fun hc=>?_)
          · ((conv=>whnf);repeat(first|(refine mvT ?_;conv=>whnf)|(refine mvF ?_;conv=>whnf)|(refine cT (by rfl) ?_;conv=>whnf)|(refine cF (by rfl) ?_;conv=>whnf)))
            refine Does.mono (AppendCompactString_does hA.ob (Nat.le_trans hB hA.size) _ (by omega) (by simp only [List.length_append]; omega)) ?_;rintro r w h;((conv=>whnf);repeat(first|(refine mvT ?_;conv=>whnf)|(refine mvF ?_;conv=>whnf)|(refine cT (by rfl) ?_;conv=>whnf)|(refine cF (by rfl) ?_;conv=>whnf)))
            replace hA := hA.tr h
            clear h
            refine ⟨_, ⟨rfl, rfl, rfl, rfl, rfl, rfl, rfl, rfl, rfl, trivial⟩, ?_⟩
            rw [hc]
            exact hA
          · ((conv=>whnf);repeat(first|(refine mvT ?_;conv=>whnf)|(refine mvF ?_;conv=>whnf)|(refine cT (by rfl) ?_;conv=>whnf)|(refine cF (by rfl) ?_;conv=>whnf)))
            refine Does.mono (AppendString_does hA.ob (Nat.le_trans hB hA.size) _ (by simp only [List.length_append]; omega)) ?_;rintro r w h;((conv=>whnf);repeat(first|(refine mvT ?_;conv=>whnf)|(refine mvF ?_;conv=>whnf)|(refine cT (by rfl) ?_;conv=>whnf)|(refine cF (by rfl) ?_;conv=>whnf)))
            replace hA := hA.tr h
            clear h
            refine ⟨_, ⟨rfl, rfl, rfl, rfl, rfl, rfl, rfl, rfl, rfl, trivial⟩, ?_⟩
            rw [hc]
            exact hA
        clear hA
        rintro r w hA
        ((conv=>whnf);repeat(first|(refine mvT ?_;conv=>whnf)|(refine mvF ?_;conv=>whnf)|(refine cT (by rfl) ?_;conv=>whnf)|(refine cF (by rfl) ?_;conv=>whnf)))
        generalize hm7 : m6 ++ (txA fx (atT x2 1).s) = m7 at hA
        have hl7 : m7.length = m6.length + (txA fx (atT x2 1).s).length := by rw [← hm7, List.length_append]
        refine ⟨_, ld ((hce2.ext hA.ext (hFx _ hb2 hF2)).cell (j := 2) rfl) (by simp <;> omega), ?_⟩; ((conv=>whnf);repeat(first|(refine mvT ?_;conv=>whnf)|(refine mvF ?_;conv=>whnf)|(refine cT (by rfl) ?_;conv=>whnf)|(refine cF (by rfl) ?_;conv=>whnf)))
        refine Does.mono (AppendUint16_does hA.ob (Nat.le_trans hB hA.size) (by simp only [List.length_append]; omega) _) ?_;rintro r w h;((conv=>whnf);repeat(first|(refine mvT ?_;conv=>whnf)|(refine mvF ?_;conv=>whnf)|(refine cT (by rfl) ?_;conv=>whnf)|(refine cF (by rfl) ?_;conv=>whnf)))
        rw [fixed2_mod (m := (atT x2 2).n) (by rw [wrap_u16]; omega)] at h
        replace hA := hA.tr h
        clear h
        generalize hm8 : m7 ++ (fixed (atT x2 2).n 2) = m8 at hA
        have hl8 : m8.length = m7.length + (fixed (atT x2 2).n 2).length := by rw [← hm8, List.length_append]
        (refine mvB ?_;((conv=>whnf);repeat(first|(refine mvT ?_;conv=>whnf)|(refine mvF ?_;conv=>whnf)|(refine cT (by rfl) ?_;conv=>whnf)|(refine cF (by rfl) ?_;conv=>whnf))))
        refine VC.cutB (fun r => [(1, r), (0, .pointer (some ⟨p, 0, none⟩)), (5, .int .i16 v), (6, .bool fx), (26, .slice (some ⟨b2, o2, none⟩) l2.length k2), (254, .slice (some ⟨b2, o2, none⟩) l2.length k2), (255, .int .i64 l2.length), (256, .int .i64 i2), (28, .pointer (some ⟨b2, o2 + i2 * 4, none⟩))]) (fun r w' => Apd w0 B x l (m8 ++ (tgsB fx (x2).u)) r w') ?_ ?_
        · refine cI (by rfl) (fun hc=>?_) (fun hc=>?_)
          · ((conv=>whnf);repeat(first|(refine mvT ?_;conv=>whnf)|(refine mvF ?_;conv=>whnf)|(refine cT (by rfl) ?_;conv=>whnf)|(refine cF (by rfl) ?_;conv=>whnf)))
            have hul := hok2_.2.len
            refine Does.mono (Tags_Len_does (ld ((hce2.ext hA.ext (hFx _ hb2 hF2)).cell (j := 3) rfl) (by simp <;> omega)) (hm2_.ext hA.ext hFx)) ?_;rintro r w ⟨rfl, rfl⟩;((conv=>whnf);repeat(first|(refine mvT ?_;conv=>whnf)|(refine mvF ?_;conv=>whnf)|(refine cT (by rfl) ?_;conv=>whnf)|(refine cF (by rfl) ?_;conv=>whnf)))
            rw [u32_add0 (by omega)]
            refine Does.mono (AppendUvarint_does hA.ob (Nat.le_trans hB hA.size) (x2).u.length (by omega) (by simp only [List.length_append]; omega)) ?_;rintro r w h;((conv=>whnf);repeat(first|(refine mvT ?_;conv=>whnf)|(refine mvF ?_;conv=>whnf)|(refine cT (by rfl) ?_;conv=>whnf)|(refine cF (by rfl) ?_;conv=>whnf)))
            have hul2 := uvar10 (n := (x2).u.length) (by omega)
            replace hA := hA.tr h
            clear h
            refine Does.mono (AppendEach_does (ld ((hce2.ext hA.ext (hFx _ hb2 hF2)).cell (j := 3) rfl) (by simp <;> omega)) (hm2_.ext hA.ext hFx) hok2_.2 hA.ob (Nat.le_trans hB hA.size) (hA.ne (hFR _ hF2).2 (hFR _ hF2).1) (fun j _ hf => hA.ne (hFR j hf).2 (hFR j hf).1) (by simp only [List.length_append]; omega)) ?_;rintro r w h;((conv=>whnf);repeat(first|(refine mvT ?_;conv=>whnf)|(refine mvF ?_;conv=>whnf)|(refine cT (by rfl) ?_;conv=>whnf)|(refine cF (by rfl) ?_;conv=>whnf)))
            replace hA := hA.tr h
            clear h
            refine ⟨_, ⟨rfl, rfl, rfl, rfl, rfl, rfl, rfl, rfl, rfl, trivial⟩, ?_⟩
            rw [tgsB, if_pos hc, ← List.append_assoc]
            exact hA
          · ((conv=>whnf);repeat(first|(refine mvT ?_;conv=>whnf)|(refine mvF ?_;conv=>whnf)|(refine cT (by rfl) ?_;conv=>whnf)|(refine cF (by rfl) ?_;conv=>whnf)))
            refine ⟨_, ⟨rfl, rfl, rfl, rfl, rfl, rfl, rfl, rfl, rfl, trivial⟩, ?_⟩
            rw [tgsB, if_neg (by rw [hc]; decide), List.append_nil]
            exact hA
        clear hA
        rintro r w hA
        ((conv=>whnf);repeat(first|(refine mvT ?_;conv=>whnf)|(refine mvF ?_;conv=>whnf)|(refine cT (by rfl) ?_;conv=>whnf)|(refine cF (by rfl) ?_;conv=>whnf)))
        generalize hm9 : m8 ++ (tgsB fx (x2).u) = m9 at hA
        have hl9 : m9.length = m8.length + (tgsB fx (x2).u).length := by rw [← hm9, List.length_append]
        have hfin : m5 ++ (bEndQuorumEpochRequestLeaderEndpoint v fx) x2 = m9 := by unfold bEndQuorumEpochRequestLeaderEndpoint; simp only [← hm9, ← hm8, ← hm7, ← hm6, List.append_assoc, List.nil_append, List.append_nil]
        refine ⟨(i2 + 1, r), ⟨rfl, rfl, rfl, rfl, rfl, rfl, rfl, inc_eq (by rw [maxLen_eq] at hkm2; omega), trivial⟩, ⟨by simp only; omega, ?_⟩, by simp only; omega⟩
        rw [hft, ← List.append_assoc, hm5, hfin]
        exact hA
      have hil : i2 = l2.length := by have := of_decide_eq_false h9; simp only at this; omega
      ((conv=>whnf);repeat(first|(refine mvT ?_;conv=>whnf)|(refine mvF ?_;conv=>whnf)|(refine cT (by rfl) ?_;conv=>whnf)|(refine cF (by rfl) ?_;conv=>whnf)))
      rw [hil, hll2, List.take_length] at hA
      generalize hm5 : m4 ++ ((lsT (atT t 2)).flatMap (bEndQuorumEpochRequestLeaderEndpoint v fx)) = m5 at hA
      have hl5 : m5.length = m4.length + ((lsT (atT t 2)).flatMap (bEndQuorumEpochRequestLeaderEndpoint v fx)).length := by rw [← hm5, List.length_append]
      refine ⟨_, ⟨rfl, rfl, rfl, rfl, trivial⟩, ?_⟩
      rw [if_pos (by simp only [ge_iff_le, decide_eq_true_eq] at hcv; simp; omega)]
      rw [show m3 ++ (arA fx (lsT (atT t 2)).length ++ (lsT (atT t 2)).flatMap (bEndQuorumEpochRequestLeaderEndpoint v fx)) = m5 by simp only [← hm5, ← hm4, List.append_assoc]]
      exact hA
    · ((conv=>whnf);repeat(first|(refine mvT ?_;conv=>whnf)|(refine mvF ?_;conv=>whnf)|(refine cT (by rfl) ?_;conv=>whnf)|(refine cF (by rfl) ?_;conv=>whnf)))
      refine ⟨_, ⟨rfl, rfl, rfl, rfl, trivial⟩, ?_⟩
      rw [if_neg (by simp only [ge_iff_le, decide_eq_false_iff_not] at hcv; simp; omega), List.append_nil]
      exact hA
  clear hA
  rintro r w hA
  ((conv=>whnf);repeat(first|(refine mvT ?_;conv=>whnf)|(refine mvF ?_;conv=>whnf)|(refine cT (by rfl) ?_;conv=>whnf)|(refine cF (by rfl) ?_;conv=>whnf)))
  generalize hm4 : m3 ++ ((if (decide (1 ≤ v) && (decide ((-1 : Int) < 0) || decide (v ≤ (-1)))) = true then arA fx (lsT (atT t 2)).length ++ (lsT (atT t 2)).flatMap (bEndQuorumEpochRequestLeaderEndpoint v fx) else [])) = m4 at hA
  have hl4 : m4.length = m3.length + ((if (decide (1 ≤ v) && (decide ((-1 : Int) < 0) || decide (v ≤ (-1)))) = true then arA fx (lsT (atT t 2)).length ++ (lsT (atT t 2)).flatMap (bEndQuorumEpochRequestLeaderEndpoint v fx) else [])).length := by rw [← hm4, List.length_append]
  (refine mvB ?_;((conv=>whnf);repeat(first|(refine mvT ?_;conv=>whnf)|(refine mvF ?_;conv=>whnf)|(refine cT (by rfl) ?_;conv=>whnf)|(refine cF (by rfl) ?_;conv=>whnf))))
  refine VC.cutE (fun r => [(1, r), (0, .pointer (some ⟨p, 0, none⟩)), (5, .int .i16 v), (6, .bool fx)]) (fun r w' => Apd w0 B x l (m4 ++ (tgsB fx (t).u)) r w') ?_ ?_
  · refine cI (by rfl) (fun hc=>?_) (fun hc=>?_)
    · ((conv=>whnf);repeat(first|(refine mvT ?_;conv=>whnf)|(refine mvF ?_;conv=>whnf)|(refine cT (by rfl) ?_;conv=>whnf)|(refine cF (by rfl) ?_;conv=>whnf)))
      have hul := hok.2.len
      refine Does.mono (Tags_Len_does ((hp.ext hA.ext hxp).cell rfl) (hm.ext hA.ext hFx)) ?_;rintro r w ⟨rfl, rfl⟩;((conv=>whnf);repeat(first|(refine mvT ?_;conv=>whnf)|(refine mvF ?_;conv=>whnf)|(refine cT (by rfl) ?_;conv=>whnf)|(refine cF (by rfl) ?_;conv=>whnf)))
      rw [u32_add0 (by omega)]
      refine Does.mono (AppendUvarint_does hA.ob (Nat.le_trans hB hA.size) (t).u.length (by omega) (by simp only [List.length_append]; omega)) ?_;rintro r w h;((conv=>whnf);repeat(first|(refine mvT ?_;conv=>whnf)|(refine mvF ?_;conv=>whnf)|(refine cT (by rfl) ?_;conv=>whnf)|(refine cF (by rfl) ?_;conv=>whnf)))
      have hul2 := uvar10 (n := (t).u.length) (by omega)
      replace hA := hA.tr h
      clear h
      refine Does.mono (AppendEach_does ((hp.ext hA.ext hxp).cell rfl) (hm.ext hA.ext hFx) hok.2 hA.ob (Nat.le_trans hB hA.size) (hA.ne hxp hpl) (fun j _ hf => hA.ne (hFR j hf).2 (hFR j hf).1) (by simp only [List.length_append]; omega)) ?_;rintro r w h;((conv=>whnf);repeat(first|(refine mvT ?_;conv=>whnf)|(refine mvF ?_;conv=>whnf)|(refine cT (by rfl) ?_;conv=>whnf)|(refine cF (by rfl) ?_;conv=>whnf)))
      replace hA := hA.tr h
      clear h
      refine ⟨_, ⟨rfl, rfl, rfl, rfl, trivial⟩, ?_⟩
      rw [tgsB, if_pos hc, ← List.append_assoc]
      exact hA
    · ((conv=>whnf);repeat(first|(refine mvT ?_;conv=>whnf)|(refine mvF ?_;conv=>whnf)|(refine cT (by rfl) ?_;conv=>whnf)|(refine cF (by rfl) ?_;conv=>whnf)))
      refine ⟨_, ⟨rfl, rfl, rfl, rfl, trivial⟩, ?_⟩
      rw [tgsB, if_neg (by rw [hc]; decide), List.append_nil]
      exact hA
  clear hA
  rintro r w hA
  ((conv=>whnf);repeat(first|(refine mvT ?_;conv=>whnf)|(refine mvF ?_;conv=>whnf)|(refine cT (by rfl) ?_;conv=>whnf)|(refine cF (by rfl) ?_;conv=>whnf)))
  generalize hm5 : m4 ++ (tgsB fx (t).u) = m5 at hA
  have hl5 : m5.length = m4.length + (tgsB fx (t).u).length := by rw [← hm5, List.length_append]
  show Apd w0 B x l _ r w
  rw [show bEndQuorumEpochRequest v fx t = m5 by unfold bEndQuorumEpochRequest; simp only [← hm5, ← hm4, ← hm3, ← hm2, ← hm1, hm0, List.append_assoc, List.nil_append, List.append_nil]]
  exact hA
theorem makeEndQuorumEpochRequest {F : Nat → Prop} {w : World} {v : Int} {x : Value} {t : T} (ht : Tr w F x t) (hok : partOK 9 v dEndQuorumEpochRequest t) (hv : 0 ≤ v) (hv2 : v < 32768) (hl : (bEndQuorumEpochRequest v (decide (v ≥ 1)) t).length ≤ 70000000000000) :
    Does X.P 21 #[.int .i64 v, x] w fun r w' => OB w' w.heap.size r (bEndQuorumEpochRequest v (decide (v ≥ 1)) t) ∧ Ext nob w w' := by
  have htm := ht.mono (F' := fun k => k < w.heap.size) fun k h1 h2 => h1
  clear ht
  obtain ⟨sv, lv, uv, ls, rfl, _⟩ := htm.open
  have hv16 : IntKind.i16.wrap v = v := by
    simp only [IntKind.wrap, IntKind.bits, IntKind.signed]
    simp
    omega
  refine Does.go (X := X) (l := [_, _]) Tryz.func21 rfl (by kernel_rfl) (by kernel_rfl) _ rfl ?_
  ((conv=>whnf);repeat(first|(refine mvT ?_;conv=>whnf)|(refine mvF ?_;conv=>whnf)|(refine cT (by rfl) ?_;conv=>whnf)|(refine cF (by rfl) ?_;conv=>whnf)))
  intro b w1 hb ho hx
  ((conv=>whnf);repeat(first|(refine mvT ?_;conv=>whnf)|(refine mvF ?_;conv=>whnf)|(refine cT (by rfl) ?_;conv=>whnf)|(refine cF (by rfl) ?_;conv=>whnf)))
  intro p w2 hp hop hx2
  have hx02 := hx.e0 hx2
  have hwp : w.heap.size ≤ p := by have := hx.size; omega
  ((conv=>whnf);repeat(first|(refine mvT ?_;conv=>whnf)|(refine mvF ?_;conv=>whnf)|(refine cT (by rfl) ?_;conv=>whnf)|(refine cF (by rfl) ?_;conv=>whnf)))
  have hset : Does X.P 48 #[.pointer (some ⟨p, 0, none⟩), .int .i16 (IntKind.i16.wrap v)] w2 fun r w' => Own w' p 82 [.int .i16 v, .pointer none, .slice none 0 0, .slice none 0 0, .map none] ∧ Ext (fun k => k = p) w2 w' := by
    rw [hv16]
    refine Does.go (X := X) (l := [_, _]) Tryz.func48 rfl (by kernel_rfl) (by kernel_rfl) _ rfl ?_
    ((conv=>whnf);repeat(first|(refine mvT ?_;conv=>whnf)|(refine mvF ?_;conv=>whnf)|(refine cT (by rfl) ?_;conv=>whnf)|(refine cF (by rfl) ?_;conv=>whnf)))
    refine ⟨_, _, hop, rfl, rfl, rfl, ?_⟩
    intro w3 ho3 hx3
    ((conv=>whnf);repeat(first|(refine mvT ?_;conv=>whnf)|(refine mvF ?_;conv=>whnf)|(refine cT (by rfl) ?_;conv=>whnf)|(refine cF (by rfl) ?_;conv=>whnf)))
    exact ⟨ho3, hx3⟩
  refine Does.mono (hset) ?_;rintro r3 w3 ⟨hop3, hx3⟩;((conv=>whnf);repeat(first|(refine mvT ?_;conv=>whnf)|(refine mvF ?_;conv=>whnf)|(refine cT (by rfl) ?_;conv=>whnf)|(refine cF (by rfl) ?_;conv=>whnf)))
  have hx03 := hx02.st hx3 hwp
  have hpb : p ≠ b := by have := ho.lt; omega
  refine ⟨_, rfl, ((ho.e0 hx2).ext hx3 fun h => hpb h.symm).cells, ?_⟩
  ((conv=>whnf);repeat(first|(refine mvT ?_;conv=>whnf)|(refine mvF ?_;conv=>whnf)|(refine cT (by rfl) ?_;conv=>whnf)|(refine cF (by rfl) ?_;conv=>whnf)))
  refine Does.mono (fillEndQuorumEpochRequest hop3 (htm.e0 hx03) (fun k h1 h2 => by omega) hok) ?_;rintro r4 w4 ⟨hx4, c0, c1, c2, m, hop4, hc0, hc1, hc2, hm4⟩;((conv=>whnf);repeat(first|(refine mvT ?_;conv=>whnf)|(refine mvF ?_;conv=>whnf)|(refine cT (by rfl) ?_;conv=>whnf)|(refine cF (by rfl) ?_;conv=>whnf)))
  have hx04 := hx03.st hx4 hwp
  refine Does.mono (appEndQuorumEpochRequest (F := anyB) hop4 (hc0.mono (fun _ _ _ => trivial)) (hc1.mono (fun _ _ _ => trivial) (fun _ _ h => rEndQuorumEpochRequestTopic_mono h fun _ _ _ => trivial)) (hc2.mono (fun _ _ _ => trivial) (fun _ _ h => rEndQuorumEpochRequestLeaderEndpoint_mono h fun _ _ _ => trivial)) (hm4.mono fun _ _ _ => trivial) hok (fun _ _ _ => by simp [Value.ownBlock]) (by simp [Value.ownBlock]) (OB.nil _ _) (Nat.le_refl _) hv (by rw [List.length_nil, Nat.zero_add]; exact hl)) ?_;rintro r5 w5 h5;((conv=>whnf);repeat(first|(refine mvT ?_;conv=>whnf)|(refine mvF ?_;conv=>whnf)|(refine cT (by rfl) ?_;conv=>whnf)|(refine cF (by rfl) ?_;conv=>whnf)))
  refine ⟨?_, hx04.own h5.ext (B := w.heap.size) (by simp [Value.ownBlock]) (Nat.le_refl _)⟩
  have := h5.ob
  rw [List.nil_append] at this
  exact this.mono hx04.size
theorem defaultEndQuorumEpochRequest (p : Nat) (w : World) (T : TypeId) (l : List Value) (h : Own w p T l) (hl : l.length = 5) : Does X.P 88 #[.pointer (some ⟨p, 0, none⟩)] w fun r w' => Ext (fun k => k = p) w w' := by
  have hx0 : Ext (fun k => k = p) w w := Ext.refl _ _
  refine Does.go (X := X) (l := [_]) Tryz.func88 rfl (by kernel_rfl) (by kernel_rfl) _ rfl ?_
  ((conv=>whnf);repeat(first|(refine mvT ?_;conv=>whnf)|(refine mvF ?_;conv=>whnf)|(refine cT (by rfl) ?_;conv=>whnf)|(refine cF (by rfl) ?_;conv=>whnf)))
  exact hx0
theorem maxEndQuorumEpochRequest (w : World) : Does X.P 19 #[] w fun r w' => r = .int .i64 1 ∧ Ext nob w w' := by
  have hmax : ∀ (p : Nat) (w : World), Does X.P 45 #[.pointer (some ⟨p, 0, none⟩)] w fun r w' => r = .int .i16 1 ∧ w' = w := by
    intro p w
    refine Does.go (X := X) (l := [_]) Tryz.func45 rfl (by kernel_rfl) (by kernel_rfl) _ rfl ?_
    ((conv=>whnf);repeat(first|(refine mvT ?_;conv=>whnf)|(refine mvF ?_;conv=>whnf)|(refine cT (by rfl) ?_;conv=>whnf)|(refine cF (by rfl) ?_;conv=>whnf)))
    exact ⟨rfl, rfl⟩
  have hnew : Does X.P 44 #[] w fun r w' => (∃ p, r = .pointer (some ⟨p, 0, none⟩)) ∧ Ext nob w w' := by
    refine Does.go (X := X) (l := []) Tryz.func44 rfl (by kernel_rfl) (by kernel_rfl) _ rfl ?_
    ((conv=>whnf);repeat(first|(refine mvT ?_;conv=>whnf)|(refine mvF ?_;conv=>whnf)|(refine cT (by rfl) ?_;conv=>whnf)|(refine cF (by rfl) ?_;conv=>whnf)))
    intro p w1 hp ho hx
    ((conv=>whnf);repeat(first|(refine mvT ?_;conv=>whnf)|(refine mvF ?_;conv=>whnf)|(refine cT (by rfl) ?_;conv=>whnf)|(refine cF (by rfl) ?_;conv=>whnf)))
    refine Does.mono (defaultEndQuorumEpochRequest p w1 _ _ ho rfl) ?_;rintro r2 w2 hx2;((conv=>whnf);repeat(first|(refine mvT ?_;conv=>whnf)|(refine mvF ?_;conv=>whnf)|(refine cT (by rfl) ?_;conv=>whnf)|(refine cF (by rfl) ?_;conv=>whnf)))
    exact ⟨⟨p, rfl⟩, hx.st hx2 hp⟩
  refine Does.go (X := X) (l := []) Tryz.func19 rfl (by kernel_rfl) (by kernel_rfl) _ rfl ?_
  ((conv=>whnf);repeat(first|(refine mvT ?_;conv=>whnf)|(refine mvF ?_;conv=>whnf)|(refine cT (by rfl) ?_;conv=>whnf)|(refine cF (by rfl) ?_;conv=>whnf)))
  refine Does.mono (hnew) ?_;rintro r1 w1 ⟨⟨p, rfl⟩, hx⟩;((conv=>whnf);repeat(first|(refine mvT ?_;conv=>whnf)|(refine mvF ?_;conv=>whnf)|(refine cT (by rfl) ?_;conv=>whnf)|(refine cF (by rfl) ?_;conv=>whnf)))
  refine Does.mono (hmax p w1) ?_;rintro r2 w2 ⟨rfl, rfl⟩;((conv=>whnf);repeat(first|(refine mvT ?_;conv=>whnf)|(refine mvF ?_;conv=>whnf)|(refine cT (by rfl) ?_;conv=>whnf)|(refine cF (by rfl) ?_;conv=>whnf)))
  exact ⟨rfl, hx⟩
theorem walkEndQuorumEpochRequest {w : World} {n : Nat} (hn : n < 256) {x : Value} {t : T} (ht : Tr w anyB x t) (hsz : wtT t ≤ 1048576) : Does X.P 5 #[.int .u8 n, x] w fun r w' => r = .bool true ∧ Ext nob w w' := by
  have hkeys := ht.keys
  obtain ⟨sv, lv, uv, ls, rfl, _⟩ := ht.open
  refine Does.go (X := X) (l := [_, _]) Tryz.func5 rfl (by kernel_rfl) (by kernel_rfl) _ rfl ?_
  ((conv=>whnf);repeat(first|(refine mvT ?_;conv=>whnf)|(refine mvF ?_;conv=>whnf)|(refine cT (by rfl) ?_;conv=>whnf)|(refine cF (by rfl) ?_;conv=>whnf)))
  intro b w1 hb ho hx
  ((conv=>whnf);repeat(first|(refine mvT ?_;conv=>whnf)|(refine mvF ?_;conv=>whnf)|(refine cT (by rfl) ?_;conv=>whnf)|(refine cF (by rfl) ?_;conv=>whnf)))
  refine ⟨_, rfl, ho.cells, ?_⟩
  ((conv=>whnf);repeat(first|(refine mvT ?_;conv=>whnf)|(refine mvF ?_;conv=>whnf)|(refine cT (by rfl) ?_;conv=>whnf)|(refine cF (by rfl) ?_;conv=>whnf)))
  refine Does.mono (zzFits1_does (ht.e0 hx)) ?_;rintro r2 w2 ⟨⟨b2, rfl⟩, hx2⟩;((conv=>whnf);repeat(first|(refine mvT ?_;conv=>whnf)|(refine mvF ?_;conv=>whnf)|(refine cT (by rfl) ?_;conv=>whnf)|(refine cF (by rfl) ?_;conv=>whnf)))
  have hx02 := hx.e0 hx2
  refine cI (by rfl) (fun h1=>?_) (fun h1=>?_)
  · ((conv=>whnf);repeat(first|(refine mvT ?_;conv=>whnf)|(refine mvF ?_;conv=>whnf)|(refine cT (by rfl) ?_;conv=>whnf)|(refine cF (by rfl) ?_;conv=>whnf)))
    exact ⟨rfl, hx02⟩
  · ((conv=>whnf);repeat(first|(refine mvT ?_;conv=>whnf)|(refine mvF ?_;conv=>whnf)|(refine cT (by rfl) ?_;conv=>whnf)|(refine cF (by rfl) ?_;conv=>whnf)))
    refine Does.mono (maxEndQuorumEpochRequest w2) ?_;rintro r3 w3 ⟨rfl, hx3⟩;((conv=>whnf);repeat(first|(refine mvT ?_;conv=>whnf)|(refine mvF ?_;conv=>whnf)|(refine cT (by rfl) ?_;conv=>whnf)|(refine cF (by rfl) ?_;conv=>whnf)))
    refine Does.mono (sEndQuorumEpochRequest w3) ?_;rintro r4 w4 ⟨⟨fv, rfl, hfd⟩, hx4⟩;((conv=>whnf);repeat(first|(refine mvT ?_;conv=>whnf)|(refine mvF ?_;conv=>whnf)|(refine cT (by rfl) ?_;conv=>whnf)|(refine cF (by rfl) ?_;conv=>whnf)))
    have hone := hfd
    obtain ⟨ls3, hsl3, _⟩ := hone
    obtain ⟨a3, c3, rfl, _⟩ := hsl3.view
    refine Does.mono (version_does n 1 hn (by omega) w4) ?_;rintro r5 w5 ⟨rfl, rfl⟩;((conv=>whnf);repeat(first|(refine mvT ?_;conv=>whnf)|(refine mvF ?_;conv=>whnf)|(refine cT (by rfl) ?_;conv=>whnf)|(refine cF (by rfl) ?_;conv=>whnf)))
    intro b6 w6 hb6 ho6 hx6
    ((conv=>whnf);repeat(first|(refine mvT ?_;conv=>whnf)|(refine mvF ?_;conv=>whnf)|(refine cT (by rfl) ?_;conv=>whnf)|(refine cF (by rfl) ?_;conv=>whnf)))
    refine ⟨_, _, ho6, rfl, rfl, rfl, ?_⟩
    intro w7 ho7 hx7
    have hx57 : Ext nob w5 w7 := hx6.st hx7 hb6
    ((conv=>whnf);repeat(first|(refine mvT ?_;conv=>whnf)|(refine mvF ?_;conv=>whnf)|(refine cT (by rfl) ?_;conv=>whnf)|(refine cF (by rfl) ?_;conv=>whnf)))
    have hx07 : Ext nob w w7 := ((hx02.e0 hx3).e0 hx4).e0 hx57
    have hxd := hx07.e0 (ext_drew _)
    have hod := ((((ho.e0 hx2).e0 hx3).e0 hx4).e0 hx57).e0 (ext_drew _)
    have ho7d := ho7.e0 (ext_drew _)
    have hfdd := (hfd.e0 hx57).e0 (ext_drew _)
    generalize hvv : ((n % (1 + 1) : Nat) : Int) = v
    have hv0 : 0 ≤ v := by omega
    have hv1 : v < 32768 := by omega
    have hok : ∀ f, f ∈ dEndQuorumEpochRequest → okF 9 f = true := List.all_eq_true.1 (show (dEndQuorumEpochRequest).all (okF 9) = true by decide)
    have hnt : ∀ f, f ∈ dEndQuorumEpochRequest → ntF 9 f = true := List.all_eq_true.1 (show (dEndQuorumEpochRequest).all (ntF 9) = true by decide)
    refine VD.draw mixed (.q 0 (.q 1 (.q 2 (.q 3 (.q 4 (.q 8 (.q 9 (.q 10 (.eff 5 [8, 10] (.eff 6 [8, 10] (.eff 7 [8, 10] (.eff 11 [] (.eff 12 [] (.eff 13 [] (.done))))))))))))))) (by kernel_rfl) ?_;((conv=>whnf);repeat(first|(refine mvT ?_;conv=>whnf)|(refine mvF ?_;conv=>whnf)|(refine cT (by rfl) ?_;conv=>whnf)|(refine cF (by rfl) ?_;conv=>whnf)))
    refine ldS (ho7d.cell rfl) ?_;((conv=>whnf);repeat(first|(refine mvT ?_;conv=>whnf)|(refine mvF ?_;conv=>whnf)|(refine cT (by rfl) ?_;conv=>whnf)|(refine cF (by rfl) ?_;conv=>whnf)))
    refine ⟨_, rfl, hod.cells, ?_⟩
    ((conv=>whnf);repeat(first|(refine mvT ?_;conv=>whnf)|(refine mvF ?_;conv=>whnf)|(refine cT (by rfl) ?_;conv=>whnf)|(refine cF (by rfl) ?_;conv=>whnf)))
    refine ⟨_, rfl, ho7d.cells, ?_⟩
    ((conv=>whnf);repeat(first|(refine mvT ?_;conv=>whnf)|(refine mvF ?_;conv=>whnf)|(refine cT (by rfl) ?_;conv=>whnf)|(refine cF (by rfl) ?_;conv=>whnf)))
    refine ⟨_, rfl, hod.cells, ?_⟩
    ((conv=>whnf);repeat(first|(refine mvT ?_;conv=>whnf)|(refine mvF ?_;conv=>whnf)|(refine cT (by rfl) ?_;conv=>whnf)|(refine cF (by rfl) ?_;conv=>whnf)))
    refine Does.mono (fit_does (fits_do 9) (v := v) hfdd (ht.e0 hxd) hok (by decide)) ?_
    rintro r8 w8 ⟨hr8, hx8⟩
    refine ⟨by (conv => whnf); exact ⟨⟨_, rfl, (ho7d.e0 hx8).cells, rfl, rfl⟩, ⟨_, rfl, (hod.e0 hx8).cells, rfl, rfl⟩, trivial⟩, ?_⟩
    ((conv=>whnf);repeat(first|(refine mvT ?_;conv=>whnf)|(refine mvF ?_;conv=>whnf)|(refine cT (by rfl) ?_;conv=>whnf)|(refine cF (by rfl) ?_;conv=>whnf)))
    have hsmall := fit_small 9 _ (by decide) v hok t
    refine Does.mono (given_does hr8 hsmall) ?_
    rintro r9 w9 ⟨hr9, hx9⟩
    have hx89 := hx8.e0 hx9
    refine ⟨by (conv => whnf); exact ⟨⟨_, rfl, (ho7d.e0 hx89).cells, rfl, rfl⟩, ⟨_, rfl, (hod.e0 hx89).cells, rfl, rfl⟩, trivial⟩, ?_⟩
    ((conv=>whnf);repeat(first|(refine mvT ?_;conv=>whnf)|(refine mvF ?_;conv=>whnf)|(refine cT (by rfl) ?_;conv=>whnf)|(refine cF (by rfl) ?_;conv=>whnf)))
    have hfx : decide (v ≥ 1) = flexB 1 v := by simp [flexB]
    have hfit := part_ok 9 v dEndQuorumEpochRequest t hnt hkeys
    have hlaw : bEndQuorumEpochRequest v (decide (v ≥ 1)) (fitB 9 v dEndQuorumEpochRequest t) = partB 9 v (flexB 1 v) dEndQuorumEpochRequest t := by
      rw [← bEndQuorumEpochRequest_eq hv0 hfit, hfx]
      exact part_law 9 v _ dEndQuorumEpochRequest t hnt
    have hlen : (partB 9 v (flexB 1 v) dEndQuorumEpochRequest t).length ≤ 70000000000000 := Nat.le_trans (partB_wt 9 v _ dEndQuorumEpochRequest t hnt hkeys) (Nat.le_trans (Nat.mul_le_mul_left _ hsz) (Nat.le_of_ble_eq_true rfl))
    refine Does.mono (makeEndQuorumEpochRequest (v := v) hr9 hfit hv0 hv1 (by rw [hlaw]; exact hlen)) ?_
    rintro r10 w10 ⟨hr10, hx10⟩
    have hx810 := hx89.e0 hx10
    refine ⟨by (conv => whnf); exact ⟨⟨_, rfl, (ho7d.e0 hx810).cells, rfl, rfl⟩, ⟨_, rfl, (hod.e0 hx810).cells, rfl, rfl⟩, trivial⟩, ?_⟩
    ((conv=>whnf);repeat(first|(refine mvT ?_;conv=>whnf)|(refine mvF ?_;conv=>whnf)|(refine cT (by rfl) ?_;conv=>whnf)|(refine cF (by rfl) ?_;conv=>whnf)))
    rw [hlaw] at hr10
    refine Does.mono (write_does 9 (v := v) ⟨_, rfl, hfdd.e0 hx810⟩ (ht.e0 (hxd.e0 hx810)) hok (by decide) (Nat.le_trans hlen (by decide))) ?_
    rintro r11 w11 ⟨hr11, hx11⟩
    ((conv=>whnf);repeat(first|(refine mvT ?_;conv=>whnf)|(refine mvF ?_;conv=>whnf)|(refine cT (by rfl) ?_;conv=>whnf)|(refine cF (by rfl) ?_;conv=>whnf)))
    refine Does.mono (Same_does (hr10.e0 hx11).bytesAny hr11.bytesAny) ?_
    rintro r12 w12 ⟨rfl, hx12⟩
    ((conv=>whnf);repeat(first|(refine mvT ?_;conv=>whnf)|(refine mvF ?_;conv=>whnf)|(refine cT (by rfl) ?_;conv=>whnf)|(refine cF (by rfl) ?_;conv=>whnf)))
    exact ⟨by simp [oneOr], ((hxd.e0 hx810).e0 hx11).e0 hx12⟩
end Go.Proofs.YtbcjhghfmhdafaaGreat.K
