/- Reading of FetchSnapshotResponse. -/
import Derived.Test.YtabhhkdgfdjicaaGreatDoorE7
set_option linter.unusedVariables false
set_option linter.unusedSimpArgs false
namespace Go.Proofs.YtabhhkdgfdjicaaGreatDoor.K
open Go
set_option maxHeartbeats 4000000
set_option maxRecDepth 100000

abbrev dFetchSnapshotResponseTopicPartitionSnapshotID : List Fd := [.mk 4 0 (-1) (-1) (-1) 0 0 [], .mk 3 0 (-1) (-1) (-1) 0 0 []]
abbrev dFetchSnapshotResponseTopicPartitionCurrentLeader : List Fd := [.mk 3 0 (-1) (-1) (-1) 0 0 [], .mk 3 0 (-1) (-1) (-1) 0 0 []]
abbrev dFetchSnapshotResponseTopicPartition : List Fd := [.mk 3 0 (-1) (-1) (-1) 0 0 [], .mk 2 0 (-1) (-1) (-1) 0 0 [], .mk 10 0 (-1) (-1) (-1) 0 0 dFetchSnapshotResponseTopicPartitionSnapshotID, .mk 10 0 (-1) (-1) 0 0 0 dFetchSnapshotResponseTopicPartitionCurrentLeader, .mk 4 0 (-1) (-1) (-1) 0 0 [], .mk 4 0 (-1) (-1) (-1) 0 0 [], .mk 9 0 (-1) (-1) (-1) 0 0 []]
abbrev dFetchSnapshotResponseTopic : List Fd := [.mk 8 0 (-1) (-1) (-1) 0 0 [], .mk 11 0 (-1) (-1) (-1) 0 10 dFetchSnapshotResponseTopicPartition]
abbrev dFetchSnapshotResponseNodeEndpoint : List Fd := [.mk 3 1 (-1) (-1) (-1) 0 0 [], .mk 8 1 (-1) (-1) (-1) 0 0 [], .mk 5 1 (-1) (-1) (-1) 0 0 []]
abbrev dFetchSnapshotResponse : List Fd := [.mk 3 0 (-1) (-1) (-1) 0 0 [], .mk 2 0 (-1) (-1) (-1) 0 0 [], .mk 11 0 (-1) (-1) (-1) 0 10 dFetchSnapshotResponseTopic, .mk 11 0 (-1) (-1) 0 0 10 dFetchSnapshotResponseNodeEndpoint]
theorem sFetchSnapshotResponseTopicPartitionSnapshotID (w : World) : Does X.P 66 #[] w fun r w' => FdsR w' (fun k => w.heap.size ≤ k) r dFetchSnapshotResponseTopicPartitionSnapshotID ∧ Ext nob w w' := by
  have hx0 : Ext nob w w := Ext.refl _ _
  refine Does.go (X := X) (l := []) Tryz.func66 rfl (by kernel_rfl) (by kernel_rfl) _ rfl ?_
  ((conv=>whnf);repeat(first|(refine mvT ?_;conv=>whnf)|(refine mvF ?_;conv=>whnf)|(refine cT (by rfl) ?_;conv=>whnf)|(refine cF (by rfl) ?_;conv=>whnf)))
  have hxs := hx0
  intro b wb hb ho hx
  have hx0 := hx0.e0 hx
  ((conv=>whnf);repeat(first|(refine mvT ?_;conv=>whnf)|(refine mvF ?_;conv=>whnf)|(refine cT (by rfl) ?_;conv=>whnf)|(refine cF (by rfl) ?_;conv=>whnf)))
  refine ⟨?_, hx0⟩
  exact FdL.fds (cs := [[.int .i64 4, .int .i64 0, .int .i64 (-1), .int .i64 (-1), .int .i64 (-1), .int .i64 0, .int .i64 0, .slice none 0 0], [.int .i64 3, .int .i64 0, .int .i64 (-1), .int .i64 (-1), .int .i64 (-1), .int .i64 0, .int .i64 0, .slice none 0 0]])
    ⟨fdLeaf _ _ _ _ _ _ _ _ _, fdLeaf _ _ _ _ _ _ _ _ _, trivial⟩ ho rfl (by decide) (by have := hxs.size; omega)
theorem sFetchSnapshotResponseTopicPartitionCurrentLeader (w : World) : Does X.P 67 #[] w fun r w' => FdsR w' (fun k => w.heap.size ≤ k) r dFetchSnapshotResponseTopicPartitionCurrentLeader ∧ Ext nob w w' := by
  have hx0 : Ext nob w w := Ext.refl _ _
  refine Does.go (X := X) (l := []) Tryz.func67 rfl (by kernel_rfl) (by kernel_rfl) _ rfl ?_
  ((conv=>whnf);repeat(first|(refine mvT ?_;conv=>whnf)|(refine mvF ?_;conv=>whnf)|(refine cT (by rfl) ?_;conv=>whnf)|(refine cF (by rfl) ?_;conv=>whnf)))
  have hxs := hx0
  intro b wb hb ho hx
  have hx0 := hx0.e0 hx
  ((conv=>whnf);repeat(first|(refine mvT ?_;conv=>whnf)|(refine mvF ?_;conv=>whnf)|(refine cT (by rfl) ?_;conv=>whnf)|(refine cF (by rfl) ?_;conv=>whnf)))
  refine ⟨?_, hx0⟩
  exact FdL.fds (cs := [[.int .i64 3, .int .i64 0, .int .i64 (-1), .int .i64 (-1), .int .i64 (-1), .int .i64 0, .int .i64 0, .slice none 0 0], [.int .i64 3, .int .i64 0, .int .i64 (-1), .int .i64 (-1), .int .i64 (-1), .int .i64 0, .int .i64 0, .slice none 0 0]])
    ⟨fdLeaf _ _ _ _ _ _ _ _ _, fdLeaf _ _ _ _ _ _ _ _ _, trivial⟩ ho rfl (by decide) (by have := hxs.size; omega)
theorem sFetchSnapshotResponseTopicPartition (w : World) : Does X.P 35 #[] w fun r w' => FdsR w' (fun k => w.heap.size ≤ k) r dFetchSnapshotResponseTopicPartition ∧ Ext nob w w' := by
  have hx0 : Ext nob w w := Ext.refl _ _
  refine Does.go (X := X) (l := []) Tryz.func35 rfl (by kernel_rfl) (by kernel_rfl) _ rfl ?_
  ((conv=>whnf);repeat(first|(refine mvT ?_;conv=>whnf)|(refine mvF ?_;conv=>whnf)|(refine cT (by rfl) ?_;conv=>whnf)|(refine cF (by rfl) ?_;conv=>whnf)))
  refine Does.mono (sFetchSnapshotResponseTopicPartitionSnapshotID w) ?_
  rintro v2 wv2 ⟨hv2, hc⟩
  have hv2 := hv2.mono (F' := fun k => w.heap.size ≤ k) fun k _ h => Nat.le_trans hx0.size h
  obtain ⟨lv2, gv2, _⟩ := id hv2
  obtain ⟨av2, kv2, rfl, _⟩ := gv2.view
  ((conv=>whnf);repeat(first|(refine mvT ?_;conv=>whnf)|(refine mvF ?_;conv=>whnf)|(refine cT (by rfl) ?_;conv=>whnf)|(refine cF (by rfl) ?_;conv=>whnf)))
  have hx0 := hx0.e0 hc
  refine Does.mono (sFetchSnapshotResponseTopicPartitionCurrentLeader wv2) ?_
  rintro v3 wv3 ⟨hv3, hc⟩
  have hv3 := hv3.mono (F' := fun k => w.heap.size ≤ k) fun k _ h => Nat.le_trans hx0.size h
  obtain ⟨lv3, gv3, _⟩ := id hv3
  obtain ⟨av3, kv3, rfl, _⟩ := gv3.view
  ((conv=>whnf);repeat(first|(refine mvT ?_;conv=>whnf)|(refine mvF ?_;conv=>whnf)|(refine cT (by rfl) ?_;conv=>whnf)|(refine cF (by rfl) ?_;conv=>whnf)))
  have hv2 := hv2.e0 hc
  have hx0 := hx0.e0 hc
  have hxs := hx0
  intro b wb hb ho hx
  have hx0 := hx0.e0 hx
  ((conv=>whnf);repeat(first|(refine mvT ?_;conv=>whnf)|(refine mvF ?_;conv=>whnf)|(refine cT (by rfl) ?_;conv=>whnf)|(refine cF (by rfl) ?_;conv=>whnf)))
  refine ⟨?_, hx0⟩
  exact FdL.fds (cs := [[.int .i64 3, .int .i64 0, .int .i64 (-1), .int .i64 (-1), .int .i64 (-1), .int .i64 0, .int .i64 0, .slice none 0 0], [.int .i64 2, .int .i64 0, .int .i64 (-1), .int .i64 (-1), .int .i64 (-1), .int .i64 0, .int .i64 0, .slice none 0 0], [.int .i64 10, .int .i64 0, .int .i64 (-1), .int .i64 (-1), .int .i64 (-1), .int .i64 0, .int .i64 0, .slice av2 lv2.length kv2], [.int .i64 10, .int .i64 0, .int .i64 (-1), .int .i64 (-1), .int .i64 0, .int .i64 0, .int .i64 0, .slice av3 lv3.length kv3], [.int .i64 4, .int .i64 0, .int .i64 (-1), .int .i64 (-1), .int .i64 (-1), .int .i64 0, .int .i64 0, .slice none 0 0], [.int .i64 4, .int .i64 0, .int .i64 (-1), .int .i64 (-1), .int .i64 (-1), .int .i64 0, .int .i64 0, .slice none 0 0], [.int .i64 9, .int .i64 0, .int .i64 (-1), .int .i64 (-1), .int .i64 (-1), .int .i64 0, .int .i64 0, .slice none 0 0]])
    ⟨fdLeaf _ _ _ _ _ _ _ _ _, fdLeaf _ _ _ _ _ _ _ _ _, FdC.of (hv2.e0 hx) _ _ _ _ _ _ _, FdC.of (hv3.e0 hx) _ _ _ _ _ _ _, fdLeaf _ _ _ _ _ _ _ _ _, fdLeaf _ _ _ _ _ _ _ _ _, fdLeaf _ _ _ _ _ _ _ _ _, trivial⟩ ho rfl (by decide) (by have := hxs.size; omega)
theorem sFetchSnapshotResponseTopic (w : World) : Does X.P 21 #[] w fun r w' => FdsR w' (fun k => w.heap.size ≤ k) r dFetchSnapshotResponseTopic ∧ Ext nob w w' := by
  have hx0 : Ext nob w w := Ext.refl _ _
  refine Does.go (X := X) (l := []) Tryz.func21 rfl (by kernel_rfl) (by kernel_rfl) _ rfl ?_
  ((conv=>whnf);repeat(first|(refine mvT ?_;conv=>whnf)|(refine mvF ?_;conv=>whnf)|(refine cT (by rfl) ?_;conv=>whnf)|(refine cF (by rfl) ?_;conv=>whnf)))
  refine Does.mono (sFetchSnapshotResponseTopicPartition w) ?_
  rintro v1 wv1 ⟨hv1, hc⟩
  have hv1 := hv1.mono (F' := fun k => w.heap.size ≤ k) fun k _ h => Nat.le_trans hx0.size h
  obtain ⟨lv1, gv1, _⟩ := id hv1
  obtain ⟨av1, kv1, rfl, _⟩ := gv1.view
  ((conv=>whnf);repeat(first|(refine mvT ?_;conv=>whnf)|(refine mvF ?_;conv=>whnf)|(refine cT (by rfl) ?_;conv=>whnf)|(refine cF (by rfl) ?_;conv=>whnf)))
  have hx0 := hx0.e0 hc
  have hxs := hx0
  intro b wb hb ho hx
  have hx0 := hx0.e0 hx
  ((conv=>whnf);repeat(first|(refine mvT ?_;conv=>whnf)|(refine mvF ?_;conv=>whnf)|(refine cT (by rfl) ?_;conv=>whnf)|(refine cF (by rfl) ?_;conv=>whnf)))
  refine ⟨?_, hx0⟩
  exact FdL.fds (cs := [[.int .i64 8, .int .i64 0, .int .i64 (-1), .int .i64 (-1), .int .i64 (-1), .int .i64 0, .int .i64 0, .slice none 0 0], [.int .i64 11, .int .i64 0, .int .i64 (-1), .int .i64 (-1), .int .i64 (-1), .int .i64 0, .int .i64 10, .slice av1 lv1.length kv1]])
    ⟨fdLeaf _ _ _ _ _ _ _ _ _, FdC.of (hv1.e0 hx) _ _ _ _ _ _ _, trivial⟩ ho rfl (by decide) (by have := hxs.size; omega)
theorem sFetchSnapshotResponseNodeEndpoint (w : World) : Does X.P 22 #[] w fun r w' => FdsR w' (fun k => w.heap.size ≤ k) r dFetchSnapshotResponseNodeEndpoint ∧ Ext nob w w' := by
  have hx0 : Ext nob w w := Ext.refl _ _
  refine Does.go (X := X) (l := []) Tryz.func22 rfl (by kernel_rfl) (by kernel_rfl) _ rfl ?_
  ((conv=>whnf);repeat(first|(refine mvT ?_;conv=>whnf)|(refine mvF ?_;conv=>whnf)|(refine cT (by rfl) ?_;conv=>whnf)|(refine cF (by rfl) ?_;conv=>whnf)))
  have hxs := hx0
  intro b wb hb ho hx
  have hx0 := hx0.e0 hx
  ((conv=>whnf);repeat(first|(refine mvT ?_;conv=>whnf)|(refine mvF ?_;conv=>whnf)|(refine cT (by rfl) ?_;conv=>whnf)|(refine cF (by rfl) ?_;conv=>whnf)))
  refine ⟨?_, hx0⟩
  exact FdL.fds (cs := [[.int .i64 3, .int .i64 1, .int .i64 (-1), .int .i64 (-1), .int .i64 (-1), .int .i64 0, .int .i64 0, .slice none 0 0], [.int .i64 8, .int .i64 1, .int .i64 (-1), .int .i64 (-1), .int .i64 (-1), .int .i64 0, .int .i64 0, .slice none 0 0], [.int .i64 5, .int .i64 1, .int .i64 (-1), .int .i64 (-1), .int .i64 (-1), .int .i64 0, .int .i64 0, .slice none 0 0]])
    ⟨fdLeaf _ _ _ _ _ _ _ _ _, fdLeaf _ _ _ _ _ _ _ _ _, fdLeaf _ _ _ _ _ _ _ _ _, trivial⟩ ho rfl (by decide) (by have := hxs.size; omega)
theorem sFetchSnapshotResponse (w : World) : Does X.P 7 #[] w fun r w' => Msg w' (fun k => w.heap.size ≤ k) r dFetchSnapshotResponse 0 ∧ Ext nob w w' := by
  have hx0 : Ext nob w w := Ext.refl _ _
  refine Does.go (X := X) (l := []) Tryz.func7 rfl (by kernel_rfl) (by kernel_rfl) _ rfl ?_
  ((conv=>whnf);repeat(first|(refine mvT ?_;conv=>whnf)|(refine mvF ?_;conv=>whnf)|(refine cT (by rfl) ?_;conv=>whnf)|(refine cF (by rfl) ?_;conv=>whnf)))
  intro b w1 hb ho hx
  have hx0 := hx0.e0 hx
  have ho := ho
  ((conv=>whnf);repeat(first|(refine mvT ?_;conv=>whnf)|(refine mvF ?_;conv=>whnf)|(refine cT (by rfl) ?_;conv=>whnf)|(refine cF (by rfl) ?_;conv=>whnf)))
  refine Does.mono (sFetchSnapshotResponseTopic w1) ?_
  rintro v2 wv2 ⟨hv2, hc⟩
  have hv2 := hv2.mono (F' := fun k => w.heap.size ≤ k ∧ b < k) fun k _ h => ⟨Nat.le_trans hx0.size h, Nat.lt_of_lt_of_le ho.lt h⟩
  obtain ⟨lv2, gv2, _⟩ := id hv2
  obtain ⟨av2, kv2, rfl, _⟩ := gv2.view
  ((conv=>whnf);repeat(first|(refine mvT ?_;conv=>whnf)|(refine mvF ?_;conv=>whnf)|(refine cT (by rfl) ?_;conv=>whnf)|(refine cF (by rfl) ?_;conv=>whnf)))
  have hx0 := hx0.e0 hc
  have ho := ho.e0 hc
  refine Does.mono (sFetchSnapshotResponseNodeEndpoint wv2) ?_
  rintro v3 wv3 ⟨hv3, hc⟩
  have hv3 := hv3.mono (F' := fun k => w.heap.size ≤ k ∧ b < k) fun k _ h => ⟨Nat.le_trans hx0.size h, Nat.lt_of_lt_of_le ho.lt h⟩
  obtain ⟨lv3, gv3, _⟩ := id hv3
  obtain ⟨av3, kv3, rfl, _⟩ := gv3.view
  ((conv=>whnf);repeat(first|(refine mvT ?_;conv=>whnf)|(refine mvF ?_;conv=>whnf)|(refine cT (by rfl) ?_;conv=>whnf)|(refine cF (by rfl) ?_;conv=>whnf)))
  have hv2 := hv2.e0 hc
  have hx0 := hx0.e0 hc
  have ho := ho.e0 hc
  have hxs := hx0
  intro b2 w2 hb2 ho2 hx2
  ((conv=>whnf);repeat(first|(refine mvT ?_;conv=>whnf)|(refine mvF ?_;conv=>whnf)|(refine cT (by rfl) ?_;conv=>whnf)|(refine cF (by rfl) ?_;conv=>whnf)))
  have hx0 := hx0.e0 hx2
  refine ⟨_, _, ho.e0 hx2, rfl, rfl, rfl, ?_⟩
  intro w3 ho3 hx3
  have hx03 := hx0.st hx3 hb
  ((conv=>whnf);repeat(first|(refine mvT ?_;conv=>whnf)|(refine mvF ?_;conv=>whnf)|(refine cT (by rfl) ?_;conv=>whnf)|(refine cF (by rfl) ?_;conv=>whnf)))
  refine ⟨_, rfl, ho3.cells, ?_⟩
  refine ⟨⟨_, rfl, ?_⟩, hx03⟩
  have ho2 := ho2.ext hx3 (by have := ho.lt; omega)
  have hs := hx0.size
  have hs2 : w.heap.size ≤ b2 := Nat.le_trans hxs.size hb2
  exact FdL.fds (cs := [[.int .i64 3, .int .i64 0, .int .i64 (-1), .int .i64 (-1), .int .i64 (-1), .int .i64 0, .int .i64 0, .slice none 0 0], [.int .i64 2, .int .i64 0, .int .i64 (-1), .int .i64 (-1), .int .i64 (-1), .int .i64 0, .int .i64 0, .slice none 0 0], [.int .i64 11, .int .i64 0, .int .i64 (-1), .int .i64 (-1), .int .i64 (-1), .int .i64 0, .int .i64 10, .slice av2 lv2.length kv2], [.int .i64 11, .int .i64 0, .int .i64 (-1), .int .i64 (-1), .int .i64 0, .int .i64 0, .int .i64 10, .slice av3 lv3.length kv3]])
    ⟨fdLeaf _ _ _ _ _ _ _ _ _, fdLeaf _ _ _ _ _ _ _ _ _, FdC.of (FdsR.mono (FdsR.ext (FdsR.e0 hv2 hx2) hx3 fun k _ h1 h2 => by omega) fun k _ h => h.1) _ _ _ _ _ _ _, FdC.of (FdsR.mono (FdsR.ext (FdsR.e0 hv3 hx2) hx3 fun k _ h1 h2 => by omega) fun k _ h => h.1) _ _ _ _ _ _ _, trivial⟩ ho2 rfl (by decide) (by omega)
theorem dfFetchSnapshotResponseTopicPartitionSnapshotID {w : World} {q o : Nat} {T : TypeId} {pre cur post : List Value} (ho : Own w q T (pre ++ cur ++ post)) (hp : pre.length = o) (hl : cur.length = 3) :
    Does X.P 85 #[.pointer (some ⟨q, o, none⟩)] w fun r w' => Own w' q T (pre ++ cur ++ post) ∧ Ext (fun k => k = q) w w' := by
  have hx : Ext (fun k => k = q) w w := Ext.refl _ _
  refine Does.go (X := X) (l := [_]) Tryz.func85 rfl (by kernel_rfl) (by kernel_rfl) _ rfl ?_
  ((conv=>whnf);repeat(first|(refine mvT ?_;conv=>whnf)|(refine mvF ?_;conv=>whnf)|(refine cT (by rfl) ?_;conv=>whnf)|(refine cF (by rfl) ?_;conv=>whnf)))
  exact ⟨ho, hx⟩
theorem dfFetchSnapshotResponseTopicPartitionCurrentLeader {w : World} {q o : Nat} {T : TypeId} {pre cur post : List Value} (ho : Own w q T (pre ++ cur ++ post)) (hp : pre.length = o) (hl : cur.length = 3) :
    Does X.P 59 #[.pointer (some ⟨q, o, none⟩)] w fun r w' => Own w' q T (pre ++ cur ++ post) ∧ Ext (fun k => k = q) w w' := by
  have hx : Ext (fun k => k = q) w w := Ext.refl _ _
  refine Does.go (X := X) (l := [_]) Tryz.func59 rfl (by kernel_rfl) (by kernel_rfl) _ rfl ?_
  ((conv=>whnf);repeat(first|(refine mvT ?_;conv=>whnf)|(refine mvF ?_;conv=>whnf)|(refine cT (by rfl) ?_;conv=>whnf)|(refine cF (by rfl) ?_;conv=>whnf)))
  exact ⟨ho, hx⟩
theorem dfFetchSnapshotResponseTopicPartition {w : World} {q o : Nat} {T : TypeId} {pre cur post : List Value} (ho : Own w q T (pre ++ cur ++ post)) (hp : pre.length = o) (hl : cur.length = 12) :
    Does X.P 84 #[.pointer (some ⟨q, o, none⟩)] w fun r w' => Own w' q T (pre ++ cur ++ post) ∧ Ext (fun k => k = q) w w' := by
  have hx : Ext (fun k => k = q) w w := Ext.refl _ _
  refine Does.go (X := X) (l := [_]) Tryz.func84 rfl (by kernel_rfl) (by kernel_rfl) _ rfl ?_
  ((conv=>whnf);repeat(first|(refine mvT ?_;conv=>whnf)|(refine mvF ?_;conv=>whnf)|(refine cT (by rfl) ?_;conv=>whnf)|(refine cF (by rfl) ?_;conv=>whnf)))
  exact ⟨ho, hx⟩
theorem dfFetchSnapshotResponseTopic {w : World} {q o : Nat} {T : TypeId} {pre cur post : List Value} (ho : Own w q T (pre ++ cur ++ post)) (hp : pre.length = o) (hl : cur.length = 3) :
    Does X.P 79 #[.pointer (some ⟨q, o, none⟩)] w fun r w' => Own w' q T (pre ++ cur ++ post) ∧ Ext (fun k => k = q) w w' := by
  have hx : Ext (fun k => k = q) w w := Ext.refl _ _
  refine Does.go (X := X) (l := [_]) Tryz.func79 rfl (by kernel_rfl) (by kernel_rfl) _ rfl ?_
  ((conv=>whnf);repeat(first|(refine mvT ?_;conv=>whnf)|(refine mvF ?_;conv=>whnf)|(refine cT (by rfl) ?_;conv=>whnf)|(refine cF (by rfl) ?_;conv=>whnf)))
  exact ⟨ho, hx⟩
theorem dfFetchSnapshotResponseNodeEndpoint {w : World} {q o : Nat} {T : TypeId} {pre cur post : List Value} (ho : Own w q T (pre ++ cur ++ post)) (hp : pre.length = o) (hl : cur.length = 4) :
    Does X.P 93 #[.pointer (some ⟨q, o, none⟩)] w fun r w' => Own w' q T (pre ++ cur ++ post) ∧ Ext (fun k => k = q) w w' := by
  have hx : Ext (fun k => k = q) w w := Ext.refl _ _
  refine Does.go (X := X) (l := [_]) Tryz.func93 rfl (by kernel_rfl) (by kernel_rfl) _ rfl ?_
  ((conv=>whnf);repeat(first|(refine mvT ?_;conv=>whnf)|(refine mvF ?_;conv=>whnf)|(refine cT (by rfl) ?_;conv=>whnf)|(refine cF (by rfl) ?_;conv=>whnf)))
  exact ⟨ho, hx⟩
theorem dfFetchSnapshotResponse {w : World} {q o : Nat} {T : TypeId} {pre cur post : List Value} (ho : Own w q T (pre ++ cur ++ post)) (hp : pre.length = o) (hl : cur.length = 6) :
    Does X.P 34 #[.pointer (some ⟨q, o, none⟩)] w fun r w' => Own w' q T (pre ++ cur ++ post) ∧ Ext (fun k => k = q) w w' := by
  have hx : Ext (fun k => k = q) w w := Ext.refl _ _
  refine Does.go (X := X) (l := [_]) Tryz.func34 rfl (by kernel_rfl) (by kernel_rfl) _ rfl ?_
  ((conv=>whnf);repeat(first|(refine mvT ?_;conv=>whnf)|(refine mvF ?_;conv=>whnf)|(refine cT (by rfl) ?_;conv=>whnf)|(refine cF (by rfl) ?_;conv=>whnf)))
  exact ⟨ho, hx⟩
theorem readFetchSnapshotResponse {w0 : World} {F : Nat → Prop} {p : Nat} {ty : TypeId} {v : Int} {x ev : Value} {l : List UInt8} (hL : Laid w0 ev) (hp : Own w0 p ty [.int .i16 v, .int .i32 0, .int .i16 0, .slice none 0 0, .slice none 0 0, .map none]) (hx : Bytes w0 F x l) (hF : ∀ k, F k → k ≠ p) (hv : 0 ≤ v) (hp1 : p ≠ errG) :
    Does X.P 44 #[.pointer (some ⟨p, 0, none⟩), x, .bool false] w0 fun r w' => RdPost w0 p ty v (decide (v ≥ 0)) true dFetchSnapshotResponse ev l r w' := by
  have hpl := hp.lt
  obtain ⟨fx, hfx⟩ : ∃ fx, fx = decide (v ≥ 0) := ⟨_, rfl⟩
  rw [← hfx]
  obtain ⟨G0, hG0, hx⟩ : ∃ G0 : Nat → Prop, (∀ k, G0 k → k < w0.heap.size ∧ k ≠ p) ∧ Bytes w0 G0 x l := ⟨fun k => F k ∧ k < w0.heap.size, fun k h => ⟨h.2, hF k h.1⟩, Sl.mono hx fun k hk h => ⟨h, hk⟩⟩
  obtain ⟨a0, c0, rfl, _⟩ := hx.view
  refine Does.go (X := X) (l := [_, _, _]) Tryz.func44 rfl (by kernel_rfl) (by kernel_rfl) _ rfl ?_
  ((conv=>whnf);repeat(first|(refine mvT ?_;conv=>whnf)|(refine mvF ?_;conv=>whnf)|(refine cT (by rfl) ?_;conv=>whnf)|(refine cF (by rfl) ?_;conv=>whnf)))
  refine Does.mono (dfFetchSnapshotResponse (pre := []) (cur := [.int .i16 v, .int .i32 0, .int .i16 0, .slice none 0 0, .slice none 0 0, .map none]) (post := []) (by simpa using hp) rfl rfl) ?_
  rintro rd wd ⟨hpd, hxd⟩
  ((conv=>whnf);repeat(first|(refine mvT ?_;conv=>whnf)|(refine mvF ?_;conv=>whnf)|(refine cT (by rfl) ?_;conv=>whnf)|(refine cF (by rfl) ?_;conv=>whnf)))
  intro pb w1 hpb hb hx1
  ((conv=>whnf);repeat(first|(refine mvT ?_;conv=>whnf)|(refine mvF ?_;conv=>whnf)|(refine cT (by rfl) ?_;conv=>whnf)|(refine cF (by rfl) ?_;conv=>whnf)))
  refine st_all [.slice a0 l.length c0, .bool false] hb rfl rfl rfl ?_
  intro w hb hx2
  ((conv=>whnf);repeat(first|(refine mvT ?_;conv=>whnf)|(refine mvF ?_;conv=>whnf)|(refine cT (by rfl) ?_;conv=>whnf)|(refine cF (by rfl) ?_;conv=>whnf)))
  have hsd := hxd.size
  have hwp : w0.heap.size ≤ pb := by omega
  have he1 : Ext nob wd w := hx1.trans hx2 fun k hk h => by omega
  have hpw : Own w p ty [.int .i16 v, .int .i32 0, .int .i16 0, .slice none 0 0, .slice none 0 0, .map none] := by have := hpd.e0 he1; simpa using this
  have he := hxd.tr0 he1
  have H := St.init hpw hb (hx.ext he fun k _ h => (hG0 k h).2) hG0 he hpl hwp
  clear hpd hxd hx1 hx2 hb hpw he1 hp
  refine ldS (H.cell (o := 0) rfl (k := 0) rfl) ?_;((conv=>whnf);repeat(first|(refine mvT ?_;conv=>whnf)|(refine mvF ?_;conv=>whnf)|(refine cT (by rfl) ?_;conv=>whnf)|(refine cF (by rfl) ?_;conv=>whnf)))
  rw [← hfx]
  (refine mvB ?_;((conv=>whnf);repeat(first|(refine mvT ?_;conv=>whnf)|(refine mvF ?_;conv=>whnf)|(refine cT (by rfl) ?_;conv=>whnf)|(refine cF (by rfl) ?_;conv=>whnf))))
  have hup0 : tailBad 9 v fx dFetchSnapshotResponse dFetchSnapshotResponse (l, false) = true → (rdPart 9 v fx dFetchSnapshotResponse (l, false)).2.2 = true := fun h => (tailBad_part _ _ _ _ _).symm.trans h
  refine Does.mono H.int32 ?_
  rintro r w ⟨n1, s1, rfl, hn1, hr1, H⟩
  ((conv=>whnf);repeat(first|(refine mvT ?_;conv=>whnf)|(refine mvF ?_;conv=>whnf)|(refine cT (by rfl) ?_;conv=>whnf)|(refine cF (by rfl) ?_;conv=>whnf)))
  refine H.st1 (v := .int .i32 n1) 1 (rfl) (rfl) rfl (by simp) rfl (Nat.lt_of_lt_of_le (Nat.lt_succ_self _) (Nat.le_of_ble_eq_true rfl)) ?_
  intro w H
  ((conv=>whnf);repeat(first|(refine mvT ?_;conv=>whnf)|(refine mvF ?_;conv=>whnf)|(refine cT (by rfl) ?_;conv=>whnf)|(refine cF (by rfl) ?_;conv=>whnf)))
  replace H : St w0 G0 p pb s1 ((p, ty, [] ++ [.int .i16 v, .int .i32 n1, .int .i16 0, .slice none 0 0, .slice none 0 0, .map none] ++ []) :: []) (fun _ => True) w := H
  refine Does.mono H.int16 ?_
  rintro r w ⟨n3, s3, rfl, hn3, hr3, H⟩
  ((conv=>whnf);repeat(first|(refine mvT ?_;conv=>whnf)|(refine mvF ?_;conv=>whnf)|(refine cT (by rfl) ?_;conv=>whnf)|(refine cF (by rfl) ?_;conv=>whnf)))
  refine H.st1 (v := .int .i16 n3) 2 (rfl) (rfl) rfl (by simp) rfl (Nat.lt_of_lt_of_le (Nat.lt_succ_self _) (Nat.le_of_ble_eq_true rfl)) ?_
  intro w H
  ((conv=>whnf);repeat(first|(refine mvT ?_;conv=>whnf)|(refine mvF ?_;conv=>whnf)|(refine cT (by rfl) ?_;conv=>whnf)|(refine cF (by rfl) ?_;conv=>whnf)))
  replace H : St w0 G0 p pb s3 ((p, ty, [] ++ [.int .i16 v, .int .i32 n1, .int .i16 n3, .slice none 0 0, .slice none 0 0, .map none] ++ []) :: []) (fun _ => True) w := H
  refine ldS (H.cell (o := 0) rfl (k := 3) rfl) ?_;((conv=>whnf);repeat(first|(refine mvT ?_;conv=>whnf)|(refine mvF ?_;conv=>whnf)|(refine cT (by rfl) ?_;conv=>whnf)|(refine cF (by rfl) ?_;conv=>whnf)))
  (refine mvB ?_;((conv=>whnf);repeat(first|(refine mvT ?_;conv=>whnf)|(refine mvF ?_;conv=>whnf)|(refine cT (by rfl) ?_;conv=>whnf)|(refine cF (by rfl) ?_;conv=>whnf))))
  refine VC.cutE (fun q : Int × Rd => [(15, .int .i32 q.1), (14, .slice none 0 0), (0, .pointer (some ⟨p, 0, none⟩)), (2, .bool false), (7, .pointer (some ⟨pb, 0, none⟩)), (8, .int .i16 v), (9, .bool fx), (10, .pointer (some ⟨p, 0, none⟩))]) (fun q w' => (-2147483648 ≤ q.1 ∧ q.1 ≤ 2147483647) ∧ rdLn fx s3 = q ∧ St w0 G0 p pb q.2 ((p, ty, [] ++ [.int .i16 v, .int .i32 n1, .int .i16 n3, .slice none 0 0, .slice none 0 0, .map none] ++ []) :: []) (fun _ => True) w') ?_ ?_
  · refine cI (by rfl) (fun hc=>?_) (fun hc=>?_)
    · ((conv=>whnf);repeat(first|(refine mvT ?_;conv=>whnf)|(refine mvF ?_;conv=>whnf)|(refine cT (by rfl) ?_;conv=>whnf)|(refine cF (by rfl) ?_;conv=>whnf)))
      refine Does.mono H.lnc ?_
      rintro r w ⟨n, s', rfl, hn, hr, H⟩
      ((conv=>whnf);repeat(first|(refine mvT ?_;conv=>whnf)|(refine mvF ?_;conv=>whnf)|(refine cT (by rfl) ?_;conv=>whnf)|(refine cF (by rfl) ?_;conv=>whnf)))
      exact ⟨(n, s'), ⟨rfl, rfl, rfl, rfl, rfl, rfl, rfl, rfl, trivial⟩, hn, by rw [hc]; exact hr, H⟩
    · ((conv=>whnf);repeat(first|(refine mvT ?_;conv=>whnf)|(refine mvF ?_;conv=>whnf)|(refine cT (by rfl) ?_;conv=>whnf)|(refine cF (by rfl) ?_;conv=>whnf)))
      refine Does.mono H.lnp ?_
      rintro r w ⟨n, s', rfl, hn, hr, H⟩
      ((conv=>whnf);repeat(first|(refine mvT ?_;conv=>whnf)|(refine mvF ?_;conv=>whnf)|(refine cT (by rfl) ?_;conv=>whnf)|(refine cF (by rfl) ?_;conv=>whnf)))
      exact ⟨(n, s'), ⟨rfl, rfl, rfl, rfl, rfl, rfl, rfl, rfl, trivial⟩, hn, by rw [hc]; exact hr, H⟩
  clear H
  rintro ⟨n5, s5⟩ w ⟨hn5, hln5, H⟩
  dsimp only at hn5 hln5 H
  ((conv=>whnf);repeat(first|(refine mvT ?_;conv=>whnf)|(refine mvF ?_;conv=>whnf)|(refine cT (by rfl) ?_;conv=>whnf)|(refine cF (by rfl) ?_;conv=>whnf)))
  refine Does.mono H.ok ?_
  rintro r w ⟨rfl, H⟩
  ((conv=>whnf);repeat(first|(refine mvT ?_;conv=>whnf)|(refine mvF ?_;conv=>whnf)|(refine cT (by rfl) ?_;conv=>whnf)|(refine cF (by rfl) ?_;conv=>whnf)))
  refine cI (by rfl) (fun hbd=>?_) (fun hbd=>?_)
  · have hbd : s5.2 = true := by simpa using hbd
    ((conv=>whnf);repeat(first|(refine mvT ?_;conv=>whnf)|(refine mvF ?_;conv=>whnf)|(refine cT (by rfl) ?_;conv=>whnf)|(refine cF (by rfl) ?_;conv=>whnf)))
    refine Does.mono (H.done hL hp1) ?_
    rintro r w ⟨rfl, H⟩
    ((conv=>whnf);repeat(first|(refine mvT ?_;conv=>whnf)|(refine mvF ?_;conv=>whnf)|(refine cT (by rfl) ?_;conv=>whnf)|(refine cF (by rfl) ?_;conv=>whnf)))
    refine RdPost.early hbd (hup0 (?_)) H
    rw [tail_yes (rdField3.trans hr1) ⟨by decide, has_all hv⟩, tail_yes (rdField2.trans hr3) ⟨by decide, has_all hv⟩, tail_len ⟨by decide, has_all hv⟩ hln5 hbd]
  have hbd : s5.2 = false := by simpa using hbd
  clear hbd
  ((conv=>whnf);repeat(first|(refine mvT ?_;conv=>whnf)|(refine mvF ?_;conv=>whnf)|(refine cT (by rfl) ?_;conv=>whnf)|(refine cF (by rfl) ?_;conv=>whnf)))
  refine cut_zero ?_
  ((conv=>whnf);repeat(first|(refine mvT ?_;conv=>whnf)|(refine mvF ?_;conv=>whnf)|(refine cT (by rfl) ?_;conv=>whnf)|(refine cF (by rfl) ?_;conv=>whnf)))
  refine VC.cutE (fun a : Value => [(15, .int .i32 n5), (14, a), (0, .pointer (some ⟨p, 0, none⟩)), (2, .bool false), (7, .pointer (some ⟨pb, 0, none⟩)), (8, .int .i16 v), (9, .bool fx), (10, .pointer (some ⟨p, 0, none⟩))]) (fun a w' => ListI w0 G0 p pb 89 [str [], .slice none 0 0, .map none] (elR 8 v fx 10 dFetchSnapshotResponseTopic) (elQ true 8 10 dFetchSnapshotResponseTopic) s5 n5 (decide (n5 ≤ 0)) ((p, ty, [] ++ [.int .i16 v, .int .i32 n1, .int .i16 n3, .slice none 0 0, .slice none 0 0, .map none] ++ []) :: []) (fun _ => True) a 0 w') ?_ ?_
  · refine cI (by rfl) (fun hps=>?_) (fun hps=>?_)
    · have hps : 0 < n5 := by have := of_decide_eq_true hps; omega
      ((conv=>whnf);repeat(first|(refine mvT ?_;conv=>whnf)|(refine mvF ?_;conv=>whnf)|(refine cT (by rfl) ?_;conv=>whnf)|(refine cF (by rfl) ?_;conv=>whnf)))
      refine H.grow hps hn5.2 (by decide) rfl rfl (by decide) ?_
      intro g cap post w hc1 hc2 H
      ((conv=>whnf);repeat(first|(refine mvT ?_;conv=>whnf)|(refine mvF ?_;conv=>whnf)|(refine cT (by rfl) ?_;conv=>whnf)|(refine cF (by rfl) ?_;conv=>whnf)))
      exact ⟨_, ⟨rfl, rfl, rfl, rfl, rfl, rfl, rfl, rfl, trivial⟩, ListI.some hps (decide_eq_false (by omega)) hc1 hc2 H⟩
    · have hps : n5 ≤ 0 := by have := of_decide_eq_false hps; omega
      ((conv=>whnf);repeat(first|(refine mvT ?_;conv=>whnf)|(refine mvF ?_;conv=>whnf)|(refine cT (by rfl) ?_;conv=>whnf)|(refine cF (by rfl) ?_;conv=>whnf)))
      exact ⟨_, ⟨rfl, rfl, rfl, rfl, rfl, rfl, rfl, rfl, trivial⟩, ListI.none hps (decide_eq_true hps) H⟩
  clear H
  rintro a5 w H
  ((conv=>whnf);repeat(first|(refine mvT ?_;conv=>whnf)|(refine mvF ?_;conv=>whnf)|(refine cT (by rfl) ?_;conv=>whnf)|(refine cF (by rfl) ?_;conv=>whnf)))
  have hpL5 : inL ((p, ty, [] ++ [.int .i16 v, .int .i32 n1, .int .i16 n3, .slice none 0 0, .slice none 0 0, .map none] ++ []) :: []) p := inL.head _ _
  refine VL.loop (fun i : Nat => [(15, .int .i32 n5), (14, a5), (16, .int .i32 i), (0, .pointer (some ⟨p, 0, none⟩)), (2, .bool false), (7, .pointer (some ⟨pb, 0, none⟩)), (8, .int .i16 v), (9, .bool fx), (10, .pointer (some ⟨p, 0, none⟩))]) (fun i w' => i ≤ 2147483647 ∧ ListI w0 G0 p pb 89 [str [], .slice none 0 0, .map none] (elR 8 v fx 10 dFetchSnapshotResponseTopic) (elQ true 8 10 dFetchSnapshotResponseTopic) s5 n5 (decide (n5 ≤ 0)) ((p, ty, [] ++ [.int .i16 v, .int .i32 n1, .int .i16 n3, .slice none 0 0, .slice none 0 0, .map none] ++ []) :: []) (fun _ => True) a5 i w') (fun i => n5.toNat - i) 0 ⟨rfl, rfl, rfl, rfl, rfl, rfl, rfl, rfl, rfl, trivial⟩ ⟨by decide, H⟩ ?_
  clear H
  rintro i5 w ⟨hi5, H⟩
  ((conv=>whnf);repeat(first|(refine mvT ?_;conv=>whnf)|(refine mvF ?_;conv=>whnf)|(refine cT (by rfl) ?_;conv=>whnf)|(refine cF (by rfl) ?_;conv=>whnf)))
  refine cI (by rfl) (fun h9=>?_) (fun h9=>?_)
  · have hlt5 : (i5 : Int) < n5 := of_decide_eq_true h9
    obtain ⟨g5, cap5, post5, rfl, hgo5, HI⟩ := H.go hlt5
    obtain ⟨es5, ts5, si5, hes5, hez5, hrn5, hts5, hlen1, H⟩ := HI.open hgo5.2.2.2.2
    obtain ⟨L5, hL5⟩ : ∃ L : List Ob, L = ((p, ty, [] ++ [.int .i16 v, .int .i32 n1, .int .i16 n3, .slice none 0 0, .slice none 0 0, .map none] ++ []) :: []) := ⟨_, rfl⟩
    rw [← hL5] at H hpL5
    obtain ⟨P5, hP5⟩ : ∃ P : World → Prop, P = fun w => (∀ (j : Nat) (c : List Value) (y : T), es5[j]? = some c → ts5[j]? = some y → elQ true 8 10 dFetchSnapshotResponseTopic ⟨w, FG w0 G0⟩ c y) ∧ (fun _ => True) w := ⟨_, rfl⟩
    rw [← hP5] at H
    replace H : St w0 G0 p pb si5 ((g5, 89, es5.flatten ++ [str [], .slice none 0 0, .map none] ++ ((List.replicate (n5.toNat - (i5 + 1)) [str [], .slice none 0 0, .map none]).flatten ++ post5)) :: L5) P5 w := H
    ((conv=>whnf);repeat(first|(refine mvT ?_;conv=>whnf)|(refine mvF ?_;conv=>whnf)|(refine cT (by rfl) ?_;conv=>whnf)|(refine cF (by rfl) ?_;conv=>whnf)))
    refine ⟨g5, 0, rfl, ⟨by omega, by omega⟩, ?_⟩
    ((conv=>whnf);repeat(first|(refine mvT ?_;conv=>whnf)|(refine mvF ?_;conv=>whnf)|(refine cT (by rfl) ?_;conv=>whnf)|(refine cF (by rfl) ?_;conv=>whnf)))
    refine Does.mono (dfFetchSnapshotResponseTopic (pre := es5.flatten) (cur := [str [], .slice none 0 0, .map none]) (post := ((List.replicate (n5.toNat - (i5 + 1)) [str [], .slice none 0 0, .map none]).flatten ++ post5)) H.head (by first | (rw [hlen1]; simp; done) | (simp [hlen1]; done) | (simp [hlen1]; omega)) rfl) ?_
    rintro rd w2 ⟨hdf, hxd⟩
    replace H := H.put hdf hxd
    clear hdf hxd
    replace H : St w0 G0 p pb si5 ((g5, 89, es5.flatten ++ [str [], .slice none 0 0, .map none] ++ ((List.replicate (n5.toNat - (i5 + 1)) [str [], .slice none 0 0, .map none]).flatten ++ post5)) :: L5) P5 w2 := H
    ((conv=>whnf);repeat(first|(refine mvT ?_;conv=>whnf)|(refine mvF ?_;conv=>whnf)|(refine cT (by rfl) ?_;conv=>whnf)|(refine cF (by rfl) ?_;conv=>whnf)))
    have hup5 : tailBad 8 v fx dFetchSnapshotResponseTopic dFetchSnapshotResponseTopic si5 = true → (rdPart 9 v fx dFetchSnapshotResponse (l, false)).2.2 = true := by
      intro hb
      refine hup0 ?_
      rw [tail_yes (rdField3.trans hr1) ⟨by decide, has_all hv⟩, tail_yes (rdField2.trans hr3) ⟨by decide, has_all hv⟩, tail_el ⟨by decide, has_all hv⟩ hln5 hgo5.2.2.2.2 hrn5 ((tailBad_part _ _ _ _ _).symm.trans hb)]
    (refine mvB ?_;((conv=>whnf);repeat(first|(refine mvT ?_;conv=>whnf)|(refine mvF ?_;conv=>whnf)|(refine cT (by rfl) ?_;conv=>whnf)|(refine cF (by rfl) ?_;conv=>whnf))))
    refine VC.cutE (fun q : List UInt8 × Rd => [(19, str q.1), (0, .pointer (some ⟨p, 0, none⟩)), (2, .bool false), (7, .pointer (some ⟨pb, 0, none⟩)), (8, .int .i16 v), (9, .bool fx), (10, .pointer (some ⟨p, 0, none⟩)), (15, .int .i32 n5), (14, .slice (some ⟨g5, 0, none⟩) n5.toNat cap5), (16, .int .i32 i5), (17, .pointer (some ⟨g5, 0 + (i5 : Int).toNat * 3, none⟩)), (18, .pointer (some ⟨g5, 0 + (i5 : Int).toNat * 3, none⟩))]) (fun q w' => rdTx fx si5 = q ∧ St w0 G0 p pb q.2 ((g5, 89, es5.flatten ++ [str [], .slice none 0 0, .map none] ++ ((List.replicate (n5.toNat - (i5 + 1)) [str [], .slice none 0 0, .map none]).flatten ++ post5)) :: L5) P5 w') ?_ ?_
    · refine cI (by rfl) (fun hc=>?_) (fun hc=>?_)
      · ((conv=>whnf);repeat(first|(refine mvT ?_;conv=>whnf)|(refine mvF ?_;conv=>whnf)|(refine cT (by rfl) ?_;conv=>whnf)|(refine cF (by rfl) ?_;conv=>whnf)))
        refine Does.mono H.txc ?_
        rintro r w ⟨u, s', rfl, hr, H⟩
        ((conv=>whnf);repeat(first|(refine mvT ?_;conv=>whnf)|(refine mvF ?_;conv=>whnf)|(refine cT (by rfl) ?_;conv=>whnf)|(refine cF (by rfl) ?_;conv=>whnf)))
        exact ⟨(u, s'), ⟨rfl, rfl, rfl, rfl, rfl, rfl, rfl, rfl, rfl, rfl, rfl, rfl, trivial⟩, by rw [hc]; exact hr, H⟩
      · ((conv=>whnf);repeat(first|(refine mvT ?_;conv=>whnf)|(refine mvF ?_;conv=>whnf)|(refine cT (by rfl) ?_;conv=>whnf)|(refine cF (by rfl) ?_;conv=>whnf)))
        refine Does.mono H.txp ?_
        rintro r w ⟨u, s', rfl, hr, H⟩
        ((conv=>whnf);repeat(first|(refine mvT ?_;conv=>whnf)|(refine mvF ?_;conv=>whnf)|(refine cT (by rfl) ?_;conv=>whnf)|(refine cF (by rfl) ?_;conv=>whnf)))
        exact ⟨(u, s'), ⟨rfl, rfl, rfl, rfl, rfl, rfl, rfl, rfl, rfl, rfl, rfl, rfl, trivial⟩, by rw [hc]; exact hr, H⟩
    clear H
    rintro ⟨u6, s6⟩ w ⟨hr6, H⟩
    dsimp only at hr6 H
    ((conv=>whnf);repeat(first|(refine mvT ?_;conv=>whnf)|(refine mvF ?_;conv=>whnf)|(refine cT (by rfl) ?_;conv=>whnf)|(refine cF (by rfl) ?_;conv=>whnf)))
    refine H.st1 (v := str u6) 0 (rfl) (rfl) rfl (by first | omega | (simp [hlen1]; done) | (simp [hlen1]; omega)) rfl (Nat.lt_of_lt_of_le (Nat.lt_succ_self _) (Nat.le_of_ble_eq_true rfl)) ?_
    intro w H
    ((conv=>whnf);repeat(first|(refine mvT ?_;conv=>whnf)|(refine mvF ?_;conv=>whnf)|(refine cT (by rfl) ?_;conv=>whnf)|(refine cF (by rfl) ?_;conv=>whnf)))
    replace H : St w0 G0 p pb s6 ((g5, 89, es5.flatten ++ [str u6, .slice none 0 0, .map none] ++ ((List.replicate (n5.toNat - (i5 + 1)) [str [], .slice none 0 0, .map none]).flatten ++ post5)) :: L5) P5 w := H
    refine ⟨_, ld (H.cell rfl (k := 1) rfl) (by first | omega | (simp [hlen1]; done) | (simp [hlen1]; omega)), ?_⟩; ((conv=>whnf);repeat(first|(refine mvT ?_;conv=>whnf)|(refine mvF ?_;conv=>whnf)|(refine cT (by rfl) ?_;conv=>whnf)|(refine cF (by rfl) ?_;conv=>whnf)))
    (refine mvB ?_;((conv=>whnf);repeat(first|(refine mvT ?_;conv=>whnf)|(refine mvF ?_;conv=>whnf)|(refine cT (by rfl) ?_;conv=>whnf)|(refine cF (by rfl) ?_;conv=>whnf))))
    refine VC.cutE (fun q : Int × Rd => [(22, .int .i32 q.1), (21, .slice none 0 0), (0, .pointer (some ⟨p, 0, none⟩)), (2, .bool false), (7, .pointer (some ⟨pb, 0, none⟩)), (8, .int .i16 v), (9, .bool fx), (10, .pointer (some ⟨p, 0, none⟩)), (15, .int .i32 n5), (14, .slice (some ⟨g5, 0, none⟩) n5.toNat cap5), (16, .int .i32 i5), (17, .pointer (some ⟨g5, 0 + (i5 : Int).toNat * 3, none⟩)), (18, .pointer (some ⟨g5, 0 + (i5 : Int).toNat * 3, none⟩))]) (fun q w' => (-2147483648 ≤ q.1 ∧ q.1 ≤ 2147483647) ∧ rdLn fx s6 = q ∧ St w0 G0 p pb q.2 ((g5, 89, es5.flatten ++ [str u6, .slice none 0 0, .map none] ++ ((List.replicate (n5.toNat - (i5 + 1)) [str [], .slice none 0 0, .map none]).flatten ++ post5)) :: L5) P5 w') ?_ ?_
    · refine cI (by rfl) (fun hc=>?_) (fun hc=>?_)
      · ((conv=>whnf);repeat(first|(refine mvT ?_;conv=>whnf)|(refine mvF ?_;conv=>whnf)|(refine cT (by rfl) ?_;conv=>whnf)|(refine cF (by rfl) ?_;conv=>whnf)))
        refine Does.mono H.lnc ?_
        rintro r w ⟨n, s', rfl, hn, hr, H⟩
        ((conv=>whnf);repeat(first|(refine mvT ?_;conv=>whnf)|(refine mvF ?_;conv=>whnf)|(refine cT (by rfl) ?_;conv=>whnf)|(refine cF (by rfl) ?_;conv=>whnf)))
        exact ⟨(n, s'), ⟨rfl, rfl, rfl, rfl, rfl, rfl, rfl, rfl, rfl, rfl, rfl, rfl, rfl, trivial⟩, hn, by rw [hc]; exact hr, H⟩
      · ((conv=>whnf);repeat(first|(refine mvT ?_;conv=>whnf)|(refine mvF ?_;conv=>whnf)|(refine cT (by rfl) ?_;conv=>whnf)|(refine cF (by rfl) ?_;conv=>whnf)))
        refine Does.mono H.lnp ?_
        rintro r w ⟨n, s', rfl, hn, hr, H⟩
        ((conv=>whnf);repeat(first|(refine mvT ?_;conv=>whnf)|(refine mvF ?_;conv=>whnf)|(refine cT (by rfl) ?_;conv=>whnf)|(refine cF (by rfl) ?_;conv=>whnf)))
        exact ⟨(n, s'), ⟨rfl, rfl, rfl, rfl, rfl, rfl, rfl, rfl, rfl, rfl, rfl, rfl, rfl, trivial⟩, hn, by rw [hc]; exact hr, H⟩
    clear H
    rintro ⟨n8, s8⟩ w ⟨hn8, hln8, H⟩
    dsimp only at hn8 hln8 H
    ((conv=>whnf);repeat(first|(refine mvT ?_;conv=>whnf)|(refine mvF ?_;conv=>whnf)|(refine cT (by rfl) ?_;conv=>whnf)|(refine cF (by rfl) ?_;conv=>whnf)))
    refine Does.mono H.ok ?_
    rintro r w ⟨rfl, H⟩
    ((conv=>whnf);repeat(first|(refine mvT ?_;conv=>whnf)|(refine mvF ?_;conv=>whnf)|(refine cT (by rfl) ?_;conv=>whnf)|(refine cF (by rfl) ?_;conv=>whnf)))
    refine cI (by rfl) (fun hbd=>?_) (fun hbd=>?_)
    · have hbd : s8.2 = true := by simpa using hbd
      ((conv=>whnf);repeat(first|(refine mvT ?_;conv=>whnf)|(refine mvF ?_;conv=>whnf)|(refine cT (by rfl) ?_;conv=>whnf)|(refine cF (by rfl) ?_;conv=>whnf)))
      refine Does.mono (H.done hL hp1) ?_
      rintro r w ⟨rfl, H⟩
      ((conv=>whnf);repeat(first|(refine mvT ?_;conv=>whnf)|(refine mvF ?_;conv=>whnf)|(refine cT (by rfl) ?_;conv=>whnf)|(refine cF (by rfl) ?_;conv=>whnf)))
      refine RdPost.early hbd (hup5 (?_)) H
      rw [tail_yes (rdField8 (by decide) hr6) ⟨by decide, has_all hv⟩, tail_len ⟨by decide, has_all hv⟩ hln8 hbd]
    have hbd : s8.2 = false := by simpa using hbd
    clear hbd
    ((conv=>whnf);repeat(first|(refine mvT ?_;conv=>whnf)|(refine mvF ?_;conv=>whnf)|(refine cT (by rfl) ?_;conv=>whnf)|(refine cF (by rfl) ?_;conv=>whnf)))
    refine cut_zero ?_
    ((conv=>whnf);repeat(first|(refine mvT ?_;conv=>whnf)|(refine mvF ?_;conv=>whnf)|(refine cT (by rfl) ?_;conv=>whnf)|(refine cF (by rfl) ?_;conv=>whnf)))
    refine VC.cutE (fun a : Value => [(22, .int .i32 n8), (21, a), (0, .pointer (some ⟨p, 0, none⟩)), (2, .bool false), (7, .pointer (some ⟨pb, 0, none⟩)), (8, .int .i16 v), (9, .bool fx), (10, .pointer (some ⟨p, 0, none⟩)), (15, .int .i32 n5), (14, .slice (some ⟨g5, 0, none⟩) n5.toNat cap5), (16, .int .i32 i5), (17, .pointer (some ⟨g5, 0 + (i5 : Int).toNat * 3, none⟩)), (18, .pointer (some ⟨g5, 0 + (i5 : Int).toNat * 3, none⟩))]) (fun a w' => ListI w0 G0 p pb 97 [.int .i32 0, .int .i16 0, .int .i64 0, .int .i32 0, .map none, .int .i32 0, .int .i32 0, .map none, .int .i64 0, .int .i64 0, .slice none 0 0, .map none] (elR 7 v fx 10 dFetchSnapshotResponseTopicPartition) (elQ true 7 10 dFetchSnapshotResponseTopicPartition) s8 n8 (decide (n8 ≤ 0)) ((g5, 89, es5.flatten ++ [str u6, .slice none 0 0, .map none] ++ ((List.replicate (n5.toNat - (i5 + 1)) [str [], .slice none 0 0, .map none]).flatten ++ post5)) :: L5) P5 a 0 w') ?_ ?_
    · refine cI (by rfl) (fun hps=>?_) (fun hps=>?_)
      · have hps : 0 < n8 := by have := of_decide_eq_true hps; omega
        ((conv=>whnf);repeat(first|(refine mvT ?_;conv=>whnf)|(refine mvF ?_;conv=>whnf)|(refine cT (by rfl) ?_;conv=>whnf)|(refine cF (by rfl) ?_;conv=>whnf)))
        refine H.grow hps hn8.2 (by decide) rfl rfl (by decide) ?_
        intro g cap post w hc1 hc2 H
        ((conv=>whnf);repeat(first|(refine mvT ?_;conv=>whnf)|(refine mvF ?_;conv=>whnf)|(refine cT (by rfl) ?_;conv=>whnf)|(refine cF (by rfl) ?_;conv=>whnf)))
        exact ⟨_, ⟨rfl, rfl, rfl, rfl, rfl, rfl, rfl, rfl, rfl, rfl, rfl, rfl, rfl, trivial⟩, ListI.some hps (decide_eq_false (by omega)) hc1 hc2 H⟩
      · have hps : n8 ≤ 0 := by have := of_decide_eq_false hps; omega
        ((conv=>whnf);repeat(first|(refine mvT ?_;conv=>whnf)|(refine mvF ?_;conv=>whnf)|(refine cT (by rfl) ?_;conv=>whnf)|(refine cF (by rfl) ?_;conv=>whnf)))
        exact ⟨_, ⟨rfl, rfl, rfl, rfl, rfl, rfl, rfl, rfl, rfl, rfl, rfl, rfl, rfl, trivial⟩, ListI.none hps (decide_eq_true hps) H⟩
    clear H
    rintro a8 w H
    ((conv=>whnf);repeat(first|(refine mvT ?_;conv=>whnf)|(refine mvF ?_;conv=>whnf)|(refine cT (by rfl) ?_;conv=>whnf)|(refine cF (by rfl) ?_;conv=>whnf)))
    have hpL8 : inL ((g5, 89, es5.flatten ++ [str u6, .slice none 0 0, .map none] ++ ((List.replicate (n5.toNat - (i5 + 1)) [str [], .slice none 0 0, .map none]).flatten ++ post5)) :: L5) p := inL.tail hpL5
    refine VL.loop (fun i : Nat => [(22, .int .i32 n8), (21, a8), (23, .int .i32 i), (0, .pointer (some ⟨p, 0, none⟩)), (2, .bool false), (7, .pointer (some ⟨pb, 0, none⟩)), (8, .int .i16 v), (9, .bool fx), (10, .pointer (some ⟨p, 0, none⟩)), (15, .int .i32 n5), (14, .slice (some ⟨g5, 0, none⟩) n5.toNat cap5), (16, .int .i32 i5), (17, .pointer (some ⟨g5, 0 + (i5 : Int).toNat * 3, none⟩)), (18, .pointer (some ⟨g5, 0 + (i5 : Int).toNat * 3, none⟩))]) (fun i w' => i ≤ 2147483647 ∧ ListI w0 G0 p pb 97 [.int .i32 0, .int .i16 0, .int .i64 0, .int .i32 0, .map none, .int .i32 0, .int .i32 0, .map none, .int .i64 0, .int .i64 0, .slice none 0 0, .map none] (elR 7 v fx 10 dFetchSnapshotResponseTopicPartition) (elQ true 7 10 dFetchSnapshotResponseTopicPartition) s8 n8 (decide (n8 ≤ 0)) ((g5, 89, es5.flatten ++ [str u6, .slice none 0 0, .map none] ++ ((List.replicate (n5.toNat - (i5 + 1)) [str [], .slice none 0 0, .map none]).flatten ++ post5)) :: L5) P5 a8 i w') (fun i => n8.toNat - i) 0 ⟨rfl, rfl, rfl, rfl, rfl, rfl, rfl, rfl, rfl, rfl, rfl, rfl, rfl, rfl, trivial⟩ ⟨by decide, H⟩ ?_
    clear H
    rintro i8 w ⟨hi8, H⟩
    ((conv=>whnf);repeat(first|(refine mvT ?_;conv=>whnf)|(refine mvF ?_;conv=>whnf)|(refine cT (by rfl) ?_;conv=>whnf)|(refine cF (by rfl) ?_;conv=>whnf)))
    refine cI (by rfl) (fun h9=>?_) (fun h9=>?_)
    · have hlt8 : (i8 : Int) < n8 := of_decide_eq_true h9
      obtain ⟨g8, cap8, post8, rfl, hgo8, HI⟩ := H.go hlt8
      obtain ⟨es8, ts8, si8, hes8, hez8, hrn8, hts8, hlen2, H⟩ := HI.open hgo8.2.2.2.2
      obtain ⟨L8, hL8⟩ : ∃ L : List Ob, L = ((g5, 89, es5.flatten ++ [str u6, .slice none 0 0, .map none] ++ ((List.replicate (n5.toNat - (i5 + 1)) [str [], .slice none 0 0, .map none]).flatten ++ post5)) :: L5) := ⟨_, rfl⟩
      rw [← hL8] at H hpL8
      obtain ⟨P8, hP8⟩ : ∃ P : World → Prop, P = fun w => (∀ (j : Nat) (c : List Value) (y : T), es8[j]? = some c → ts8[j]? = some y → elQ true 7 10 dFetchSnapshotResponseTopicPartition ⟨w, FG w0 G0⟩ c y) ∧ P5 w := ⟨_, rfl⟩
      rw [← hP8] at H
      replace H : St w0 G0 p pb si8 ((g8, 97, es8.flatten ++ [.int .i32 0, .int .i16 0, .int .i64 0, .int .i32 0, .map none, .int .i32 0, .int .i32 0, .map none, .int .i64 0, .int .i64 0, .slice none 0 0, .map none] ++ ((List.replicate (n8.toNat - (i8 + 1)) [.int .i32 0, .int .i16 0, .int .i64 0, .int .i32 0, .map none, .int .i32 0, .int .i32 0, .map none, .int .i64 0, .int .i64 0, .slice none 0 0, .map none]).flatten ++ post8)) :: L8) P8 w := H
      ((conv=>whnf);repeat(first|(refine mvT ?_;conv=>whnf)|(refine mvF ?_;conv=>whnf)|(refine cT (by rfl) ?_;conv=>whnf)|(refine cF (by rfl) ?_;conv=>whnf)))
      refine ⟨g8, 0, rfl, ⟨by omega, by omega⟩, ?_⟩
      ((conv=>whnf);repeat(first|(refine mvT ?_;conv=>whnf)|(refine mvF ?_;conv=>whnf)|(refine cT (by rfl) ?_;conv=>whnf)|(refine cF (by rfl) ?_;conv=>whnf)))
      refine Does.mono (dfFetchSnapshotResponseTopicPartition (pre := es8.flatten) (cur := [.int .i32 0, .int .i16 0, .int .i64 0, .int .i32 0, .map none, .int .i32 0, .int .i32 0, .map none, .int .i64 0, .int .i64 0, .slice none 0 0, .map none]) (post := ((List.replicate (n8.toNat - (i8 + 1)) [.int .i32 0, .int .i16 0, .int .i64 0, .int .i32 0, .map none, .int .i32 0, .int .i32 0, .map none, .int .i64 0, .int .i64 0, .slice none 0 0, .map none]).flatten ++ post8)) H.head (by first | (rw [hlen2]; simp; done) | (simp [hlen2]; done) | (simp [hlen2]; omega)) rfl) ?_
      rintro rd w2 ⟨hdf, hxd⟩
      replace H := H.put hdf hxd
      clear hdf hxd
      replace H : St w0 G0 p pb si8 ((g8, 97, es8.flatten ++ [.int .i32 0, .int .i16 0, .int .i64 0, .int .i32 0, .map none, .int .i32 0, .int .i32 0, .map none, .int .i64 0, .int .i64 0, .slice none 0 0, .map none] ++ ((List.replicate (n8.toNat - (i8 + 1)) [.int .i32 0, .int .i16 0, .int .i64 0, .int .i32 0, .map none, .int .i32 0, .int .i32 0, .map none, .int .i64 0, .int .i64 0, .slice none 0 0, .map none]).flatten ++ post8)) :: L8) P8 w2 := H
      ((conv=>whnf);repeat(first|(refine mvT ?_;conv=>whnf)|(refine mvF ?_;conv=>whnf)|(refine cT (by rfl) ?_;conv=>whnf)|(refine cF (by rfl) ?_;conv=>whnf)))
      have hup8 : tailBad 7 v fx dFetchSnapshotResponseTopicPartition dFetchSnapshotResponseTopicPartition si8 = true → (rdPart 9 v fx dFetchSnapshotResponse (l, false)).2.2 = true := by
        intro hb
        refine hup5 ?_
        rw [tail_yes (rdField8 (by decide) hr6) ⟨by decide, has_all hv⟩, tail_el ⟨by decide, has_all hv⟩ hln8 hgo8.2.2.2.2 hrn8 ((tailBad_part _ _ _ _ _).symm.trans hb)]
      refine Does.mono H.int32 ?_
      rintro r w ⟨n9, s9, rfl, hn9, hr9, H⟩
      ((conv=>whnf);repeat(first|(refine mvT ?_;conv=>whnf)|(refine mvF ?_;conv=>whnf)|(refine cT (by rfl) ?_;conv=>whnf)|(refine cF (by rfl) ?_;conv=>whnf)))
      refine H.st1 (v := .int .i32 n9) 0 (rfl) (rfl) rfl (by first | omega | (simp [hlen2]; done) | (simp [hlen2]; omega)) rfl (Nat.lt_of_lt_of_le (Nat.lt_succ_self _) (Nat.le_of_ble_eq_true rfl)) ?_
      intro w H
      ((conv=>whnf);repeat(first|(refine mvT ?_;conv=>whnf)|(refine mvF ?_;conv=>whnf)|(refine cT (by rfl) ?_;conv=>whnf)|(refine cF (by rfl) ?_;conv=>whnf)))
      replace H : St w0 G0 p pb s9 ((g8, 97, es8.flatten ++ [.int .i32 n9, .int .i16 0, .int .i64 0, .int .i32 0, .map none, .int .i32 0, .int .i32 0, .map none, .int .i64 0, .int .i64 0, .slice none 0 0, .map none] ++ ((List.replicate (n8.toNat - (i8 + 1)) [.int .i32 0, .int .i16 0, .int .i64 0, .int .i32 0, .map none, .int .i32 0, .int .i32 0, .map none, .int .i64 0, .int .i64 0, .slice none 0 0, .map none]).flatten ++ post8)) :: L8) P8 w := H
      refine Does.mono H.int16 ?_
      rintro r w ⟨n11, s11, rfl, hn11, hr11, H⟩
      ((conv=>whnf);repeat(first|(refine mvT ?_;conv=>whnf)|(refine mvF ?_;conv=>whnf)|(refine cT (by rfl) ?_;conv=>whnf)|(refine cF (by rfl) ?_;conv=>whnf)))
      refine H.st1 (v := .int .i16 n11) 1 (rfl) (rfl) rfl (by first | omega | (simp [hlen2]; done) | (simp [hlen2]; omega)) rfl (Nat.lt_of_lt_of_le (Nat.lt_succ_self _) (Nat.le_of_ble_eq_true rfl)) ?_
      intro w H
      ((conv=>whnf);repeat(first|(refine mvT ?_;conv=>whnf)|(refine mvF ?_;conv=>whnf)|(refine cT (by rfl) ?_;conv=>whnf)|(refine cF (by rfl) ?_;conv=>whnf)))
      replace H : St w0 G0 p pb s11 ((g8, 97, es8.flatten ++ [.int .i32 n9, .int .i16 n11, .int .i64 0, .int .i32 0, .map none, .int .i32 0, .int .i32 0, .map none, .int .i64 0, .int .i64 0, .slice none 0 0, .map none] ++ ((List.replicate (n8.toNat - (i8 + 1)) [.int .i32 0, .int .i16 0, .int .i64 0, .int .i32 0, .map none, .int .i32 0, .int .i32 0, .map none, .int .i64 0, .int .i64 0, .slice none 0 0, .map none]).flatten ++ post8)) :: L8) P8 w := H
      refine Does.mono (dfFetchSnapshotResponseTopicPartitionSnapshotID (pre := es8.flatten ++ [.int .i32 n9, .int .i16 n11]) (cur := [.int .i64 0, .int .i32 0, .map none]) (post := [.int .i32 0, .int .i32 0, .map none, .int .i64 0, .int .i64 0, .slice none 0 0, .map none] ++ ((List.replicate (n8.toNat - (i8 + 1)) [.int .i32 0, .int .i16 0, .int .i64 0, .int .i32 0, .map none, .int .i32 0, .int .i32 0, .map none, .int .i64 0, .int .i64 0, .slice none 0 0, .map none]).flatten ++ post8)) (by have := H.head; simpa using this) (by first | (simp [hlen2]; done) | (simp [hlen2]; omega)) rfl) ?_
      rintro rd w2 ⟨hdf, hxd⟩
      replace hdf : Own w2 g8 97 (es8.flatten ++ [.int .i32 n9, .int .i16 n11, .int .i64 0, .int .i32 0, .map none, .int .i32 0, .int .i32 0, .map none, .int .i64 0, .int .i64 0, .slice none 0 0, .map none] ++ ((List.replicate (n8.toNat - (i8 + 1)) [.int .i32 0, .int .i16 0, .int .i64 0, .int .i32 0, .map none, .int .i32 0, .int .i32 0, .map none, .int .i64 0, .int .i64 0, .slice none 0 0, .map none]).flatten ++ post8)) := by simpa using hdf
      replace H := H.put hdf hxd
      clear hdf hxd
      replace H : St w0 G0 p pb s11 ((g8, 97, es8.flatten ++ [.int .i32 n9, .int .i16 n11, .int .i64 0, .int .i32 0, .map none, .int .i32 0, .int .i32 0, .map none, .int .i64 0, .int .i64 0, .slice none 0 0, .map none] ++ ((List.replicate (n8.toNat - (i8 + 1)) [.int .i32 0, .int .i16 0, .int .i64 0, .int .i32 0, .map none, .int .i32 0, .int .i32 0, .map none, .int .i64 0, .int .i64 0, .slice none 0 0, .map none]).flatten ++ post8)) :: L8) P8 w2 := H
      ((conv=>whnf);repeat(first|(refine mvT ?_;conv=>whnf)|(refine mvF ?_;conv=>whnf)|(refine cT (by rfl) ?_;conv=>whnf)|(refine cF (by rfl) ?_;conv=>whnf)))
      refine Does.mono H.int64 ?_
      rintro r w ⟨n14, s14, rfl, hn14, hr14, H⟩
      ((conv=>whnf);repeat(first|(refine mvT ?_;conv=>whnf)|(refine mvF ?_;conv=>whnf)|(refine cT (by rfl) ?_;conv=>whnf)|(refine cF (by rfl) ?_;conv=>whnf)))
      refine H.st1 (v := .int .i64 n14) 2 (rfl) (rfl) rfl (by first | omega | (simp [hlen2]; done) | (simp [hlen2]; omega)) rfl (Nat.lt_of_lt_of_le (Nat.lt_succ_self _) (Nat.le_of_ble_eq_true rfl)) ?_
      intro w H
      ((conv=>whnf);repeat(first|(refine mvT ?_;conv=>whnf)|(refine mvF ?_;conv=>whnf)|(refine cT (by rfl) ?_;conv=>whnf)|(refine cF (by rfl) ?_;conv=>whnf)))
      replace H : St w0 G0 p pb s14 ((g8, 97, es8.flatten ++ [.int .i32 n9, .int .i16 n11, .int .i64 n14, .int .i32 0, .map none, .int .i32 0, .int .i32 0, .map none, .int .i64 0, .int .i64 0, .slice none 0 0, .map none] ++ ((List.replicate (n8.toNat - (i8 + 1)) [.int .i32 0, .int .i16 0, .int .i64 0, .int .i32 0, .map none, .int .i32 0, .int .i32 0, .map none, .int .i64 0, .int .i64 0, .slice none 0 0, .map none]).flatten ++ post8)) :: L8) P8 w := H
      refine Does.mono H.int32 ?_
      rintro r w ⟨n16, s16, rfl, hn16, hr16, H⟩
      ((conv=>whnf);repeat(first|(refine mvT ?_;conv=>whnf)|(refine mvF ?_;conv=>whnf)|(refine cT (by rfl) ?_;conv=>whnf)|(refine cF (by rfl) ?_;conv=>whnf)))
      refine H.st1 (v := .int .i32 n16) 3 (rfl) (rfl) rfl (by first | omega | (simp [hlen2]; done) | (simp [hlen2]; omega)) rfl (Nat.lt_of_lt_of_le (Nat.lt_succ_self _) (Nat.le_of_ble_eq_true rfl)) ?_
      intro w H
      ((conv=>whnf);repeat(first|(refine mvT ?_;conv=>whnf)|(refine mvF ?_;conv=>whnf)|(refine cT (by rfl) ?_;conv=>whnf)|(refine cF (by rfl) ?_;conv=>whnf)))
      replace H : St w0 G0 p pb s16 ((g8, 97, es8.flatten ++ [.int .i32 n9, .int .i16 n11, .int .i64 n14, .int .i32 n16, .map none, .int .i32 0, .int .i32 0, .map none, .int .i64 0, .int .i64 0, .slice none 0 0, .map none] ++ ((List.replicate (n8.toNat - (i8 + 1)) [.int .i32 0, .int .i16 0, .int .i64 0, .int .i32 0, .map none, .int .i32 0, .int .i32 0, .map none, .int .i64 0, .int .i64 0, .slice none 0 0, .map none]).flatten ++ post8)) :: L8) P8 w := H
      (refine mvB ?_;((conv=>whnf);repeat(first|(refine mvT ?_;conv=>whnf)|(refine mvF ?_;conv=>whnf)|(refine cT (by rfl) ?_;conv=>whnf)|(refine cF (by rfl) ?_;conv=>whnf))))
      refine VC.cutE (fun q : Value × List Tg × Rd => [(0, .pointer (some ⟨p, 0, none⟩)), (2, .bool false), (7, .pointer (some ⟨pb, 0, none⟩)), (8, .int .i16 v), (9, .bool fx), (10, .pointer (some ⟨p, 0, none⟩)), (15, .int .i32 n5), (14, .slice (some ⟨g5, 0, none⟩) n5.toNat cap5), (16, .int .i32 i5), (17, .pointer (some ⟨g5, 0 + (i5 : Int).toNat * 3, none⟩)), (18, .pointer (some ⟨g5, 0 + (i5 : Int).toNat * 3, none⟩)), (22, .int .i32 n8), (21, .slice (some ⟨g8, 0, none⟩) n8.toNat cap8), (23, .int .i32 i8), (24, .pointer (some ⟨g8, 0 + (i8 : Int).toNat * 12, none⟩)), (25, .pointer (some ⟨g8, 0 + (i8 : Int).toNat * 12, none⟩)), (29, .pointer (some ⟨g8, 0 + (i8 : Int).toNat * 12 + 2, none⟩))]) (fun q w' => rdTagsF fx s16 = q.2 ∧ St w0 G0 p pb q.2.2 ((g8, 97, es8.flatten ++ [.int .i32 n9, .int .i16 n11, .int .i64 n14, .int .i32 n16, q.1, .int .i32 0, .int .i32 0, .map none, .int .i64 0, .int .i64 0, .slice none 0 0, .map none] ++ ((List.replicate (n8.toNat - (i8 + 1)) [.int .i32 0, .int .i16 0, .int .i64 0, .int .i32 0, .map none, .int .i32 0, .int .i32 0, .map none, .int .i64 0, .int .i64 0, .slice none 0 0, .map none]).flatten ++ post8)) :: L8) (fun w => TGf w0 G0 q.1 q.2.1 w ∧ P8 w) w') ?_ ?_
      · refine cI (by rfl) (fun hc=>?_) (fun hc=>?_)
        · ((conv=>whnf);repeat(first|(refine mvT ?_;conv=>whnf)|(refine mvF ?_;conv=>whnf)|(refine cT (by rfl) ?_;conv=>whnf)|(refine cF (by rfl) ?_;conv=>whnf)))
          refine Does.mono H.tags ?_
          rintro r w ⟨m, u, s', rfl, hone, hr, H⟩
          ((conv=>whnf);repeat(first|(refine mvT ?_;conv=>whnf)|(refine mvF ?_;conv=>whnf)|(refine cT (by rfl) ?_;conv=>whnf)|(refine cF (by rfl) ?_;conv=>whnf)))
          refine H.st1 (v := m) 4 (rfl) (hone) rfl (by first | omega | (simp [hlen2]; done) | (simp [hlen2]; omega)) rfl (Nat.lt_of_lt_of_le (Nat.lt_succ_self _) (Nat.le_of_ble_eq_true rfl)) ?_
          intro w H
          ((conv=>whnf);repeat(first|(refine mvT ?_;conv=>whnf)|(refine mvF ?_;conv=>whnf)|(refine cT (by rfl) ?_;conv=>whnf)|(refine cF (by rfl) ?_;conv=>whnf)))
          exact ⟨(m, u, s'), ⟨rfl, rfl, rfl, rfl, rfl, rfl, rfl, rfl, rfl, rfl, rfl, rfl, rfl, rfl, rfl, rfl, rfl, trivial⟩, by rw [rdTagsF, if_pos hc]; exact hr, H⟩
        · ((conv=>whnf);repeat(first|(refine mvT ?_;conv=>whnf)|(refine mvF ?_;conv=>whnf)|(refine cT (by rfl) ?_;conv=>whnf)|(refine cF (by rfl) ?_;conv=>whnf)))
          exact ⟨(.map none, [], s16), ⟨rfl, rfl, rfl, rfl, rfl, rfl, rfl, rfl, rfl, rfl, rfl, rfl, rfl, rfl, rfl, rfl, rfl, trivial⟩, by rw [rdTagsF, if_neg (by rw [hc]; decide)], H.add fun w' _ => TagsR.nil _ _⟩
      clear H
      rintro ⟨m18, u18, s18⟩ w ⟨htg, H⟩
      dsimp only at htg H
      ((conv=>whnf);repeat(first|(refine mvT ?_;conv=>whnf)|(refine mvF ?_;conv=>whnf)|(refine cT (by rfl) ?_;conv=>whnf)|(refine cF (by rfl) ?_;conv=>whnf)))
      obtain ⟨P19, hP19⟩ : ∃ P : World → Prop, P = fun w => TGf w0 G0 m18 u18 w ∧ P8 w := ⟨_, rfl⟩
      replace H : St w0 G0 p pb s18 ((g8, 97, es8.flatten ++ [.int .i32 n9, .int .i16 n11, .int .i64 n14, .int .i32 n16, m18, .int .i32 0, .int .i32 0, .map none, .int .i64 0, .int .i64 0, .slice none 0 0, .map none] ++ ((List.replicate (n8.toNat - (i8 + 1)) [.int .i32 0, .int .i16 0, .int .i64 0, .int .i32 0, .map none, .int .i32 0, .int .i32 0, .map none, .int .i64 0, .int .i64 0, .slice none 0 0, .map none]).flatten ++ post8)) :: L8) P19 w := by rw [hP19]; exact H
      have hpart : rdPart 6 v fx dFetchSnapshotResponseTopicPartitionSnapshotID s11 = (.mk 0 [] false [numT n14, numT n16] u18, s18) := by
        unfold rdPart rdPartW
        rw [rdTail_plain (by decide)]
        rw [rdAll_yes (df := dfT 6) (rdField4.trans hr14) ⟨by decide, has_all hv⟩, rdAll_yes (df := dfT 6) (rdField3.trans hr16) ⟨by decide, has_all hv⟩]
        simp only [rdAll]
        rw [htg]
      have hpi13 := hpart
      clear hpart
      refine Does.mono H.int64 ?_
      rintro r w ⟨n20, s20, rfl, hn20, hr20, H⟩
      ((conv=>whnf);repeat(first|(refine mvT ?_;conv=>whnf)|(refine mvF ?_;conv=>whnf)|(refine cT (by rfl) ?_;conv=>whnf)|(refine cF (by rfl) ?_;conv=>whnf)))
      refine H.st1 (v := .int .i64 n20) 8 (rfl) (rfl) rfl (by first | omega | (simp [hlen2]; done) | (simp [hlen2]; omega)) rfl (Nat.lt_of_lt_of_le (Nat.lt_succ_self _) (Nat.le_of_ble_eq_true rfl)) ?_
      intro w H
      ((conv=>whnf);repeat(first|(refine mvT ?_;conv=>whnf)|(refine mvF ?_;conv=>whnf)|(refine cT (by rfl) ?_;conv=>whnf)|(refine cF (by rfl) ?_;conv=>whnf)))
      replace H : St w0 G0 p pb s20 ((g8, 97, es8.flatten ++ [.int .i32 n9, .int .i16 n11, .int .i64 n14, .int .i32 n16, m18, .int .i32 0, .int .i32 0, .map none, .int .i64 n20, .int .i64 0, .slice none 0 0, .map none] ++ ((List.replicate (n8.toNat - (i8 + 1)) [.int .i32 0, .int .i16 0, .int .i64 0, .int .i32 0, .map none, .int .i32 0, .int .i32 0, .map none, .int .i64 0, .int .i64 0, .slice none 0 0, .map none]).flatten ++ post8)) :: L8) P19 w := H
      refine Does.mono H.int64 ?_
      rintro r w ⟨n22, s22, rfl, hn22, hr22, H⟩
      ((conv=>whnf);repeat(first|(refine mvT ?_;conv=>whnf)|(refine mvF ?_;conv=>whnf)|(refine cT (by rfl) ?_;conv=>whnf)|(refine cF (by rfl) ?_;conv=>whnf)))
      refine H.st1 (v := .int .i64 n22) 9 (rfl) (rfl) rfl (by first | omega | (simp [hlen2]; done) | (simp [hlen2]; omega)) rfl (Nat.lt_of_lt_of_le (Nat.lt_succ_self _) (Nat.le_of_ble_eq_true rfl)) ?_
      intro w H
      ((conv=>whnf);repeat(first|(refine mvT ?_;conv=>whnf)|(refine mvF ?_;conv=>whnf)|(refine cT (by rfl) ?_;conv=>whnf)|(refine cF (by rfl) ?_;conv=>whnf)))
      replace H : St w0 G0 p pb s22 ((g8, 97, es8.flatten ++ [.int .i32 n9, .int .i16 n11, .int .i64 n14, .int .i32 n16, m18, .int .i32 0, .int .i32 0, .map none, .int .i64 n20, .int .i64 n22, .slice none 0 0, .map none] ++ ((List.replicate (n8.toNat - (i8 + 1)) [.int .i32 0, .int .i16 0, .int .i64 0, .int .i32 0, .map none, .int .i32 0, .int .i32 0, .map none, .int .i64 0, .int .i64 0, .slice none 0 0, .map none]).flatten ++ post8)) :: L8) P19 w := H
      (refine mvB ?_;((conv=>whnf);repeat(first|(refine mvT ?_;conv=>whnf)|(refine mvF ?_;conv=>whnf)|(refine cT (by rfl) ?_;conv=>whnf)|(refine cF (by rfl) ?_;conv=>whnf))))
      refine VC.cutE (fun q : Value × Bool × List UInt8 × Rd => [(34, q.1), (0, .pointer (some ⟨p, 0, none⟩)), (2, .bool false), (7, .pointer (some ⟨pb, 0, none⟩)), (8, .int .i16 v), (9, .bool fx), (10, .pointer (some ⟨p, 0, none⟩)), (15, .int .i32 n5), (14, .slice (some ⟨g5, 0, none⟩) n5.toNat cap5), (16, .int .i32 i5), (17, .pointer (some ⟨g5, 0 + (i5 : Int).toNat * 3, none⟩)), (18, .pointer (some ⟨g5, 0 + (i5 : Int).toNat * 3, none⟩)), (22, .int .i32 n8), (21, .slice (some ⟨g8, 0, none⟩) n8.toNat cap8), (23, .int .i32 i8), (24, .pointer (some ⟨g8, 0 + (i8 : Int).toNat * 12, none⟩)), (25, .pointer (some ⟨g8, 0 + (i8 : Int).toNat * 12, none⟩))]) (fun q w' => q.1.oneCell' = true ∧ (q.2.1 = true → q.2.2.1 = []) ∧ rdOc fx s22 = (.mk 0 q.2.2.1 q.2.1 [] [], q.2.2.2) ∧ St w0 G0 p pb q.2.2.2 ((g8, 97, es8.flatten ++ [.int .i32 n9, .int .i16 n11, .int .i64 n14, .int .i32 n16, m18, .int .i32 0, .int .i32 0, .map none, .int .i64 n20, .int .i64 n22, .slice none 0 0, .map none] ++ ((List.replicate (n8.toNat - (i8 + 1)) [.int .i32 0, .int .i16 0, .int .i64 0, .int .i32 0, .map none, .int .i32 0, .int .i32 0, .map none, .int .i64 0, .int .i64 0, .slice none 0 0, .map none]).flatten ++ post8)) :: L8) (fun w => OCf w0 G0 q.1 (.mk 0 q.2.2.1 q.2.1 [] []) w ∧ P19 w) w') ?_ ?_
      · refine cI (by rfl) (fun hc=>?_) (fun hc=>?_)
        · ((conv=>whnf);repeat(first|(refine mvT ?_;conv=>whnf)|(refine mvF ?_;conv=>whnf)|(refine cT (by rfl) ?_;conv=>whnf)|(refine cF (by rfl) ?_;conv=>whnf)))
          refine Does.mono H.occ ?_
          rintro r w ⟨c, nl, u, s', rfl, hone, hnl, hr, H⟩
          ((conv=>whnf);repeat(first|(refine mvT ?_;conv=>whnf)|(refine mvF ?_;conv=>whnf)|(refine cT (by rfl) ?_;conv=>whnf)|(refine cF (by rfl) ?_;conv=>whnf)))
          exact ⟨(r, nl, u, s'), ⟨rfl, rfl, rfl, rfl, rfl, rfl, rfl, rfl, rfl, rfl, rfl, rfl, rfl, rfl, rfl, rfl, rfl, trivial⟩, hone, hnl, by rw [hc]; exact hr, H⟩
        · ((conv=>whnf);repeat(first|(refine mvT ?_;conv=>whnf)|(refine mvF ?_;conv=>whnf)|(refine cT (by rfl) ?_;conv=>whnf)|(refine cF (by rfl) ?_;conv=>whnf)))
          refine Does.mono H.ocp ?_
          rintro r w ⟨c, nl, u, s', rfl, hone, hnl, hr, H⟩
          ((conv=>whnf);repeat(first|(refine mvT ?_;conv=>whnf)|(refine mvF ?_;conv=>whnf)|(refine cT (by rfl) ?_;conv=>whnf)|(refine cF (by rfl) ?_;conv=>whnf)))
          exact ⟨(r, nl, u, s'), ⟨rfl, rfl, rfl, rfl, rfl, rfl, rfl, rfl, rfl, rfl, rfl, rfl, rfl, rfl, rfl, rfl, rfl, trivial⟩, hone, hnl, by rw [hc]; exact hr, H⟩
      clear H
      rintro ⟨c24, nl24, u24, s24⟩ w ⟨hone24, hnl24, hr24, H⟩
      dsimp only at hone24 hnl24 hr24 H
      ((conv=>whnf);repeat(first|(refine mvT ?_;conv=>whnf)|(refine mvF ?_;conv=>whnf)|(refine cT (by rfl) ?_;conv=>whnf)|(refine cF (by rfl) ?_;conv=>whnf)))
      obtain ⟨P25, hP25⟩ : ∃ P : World → Prop, P = fun w => OCf w0 G0 c24 (.mk 0 u24 nl24 [] []) w ∧ P19 w := ⟨_, rfl⟩
      replace H : St w0 G0 p pb s24 ((g8, 97, es8.flatten ++ [.int .i32 n9, .int .i16 n11, .int .i64 n14, .int .i32 n16, m18, .int .i32 0, .int .i32 0, .map none, .int .i64 n20, .int .i64 n22, .slice none 0 0, .map none] ++ ((List.replicate (n8.toNat - (i8 + 1)) [.int .i32 0, .int .i16 0, .int .i64 0, .int .i32 0, .map none, .int .i32 0, .int .i32 0, .map none, .int .i64 0, .int .i64 0, .slice none 0 0, .map none]).flatten ++ post8)) :: L8) P25 w := by rw [hP25]; exact H
      refine H.st1 (v := c24) 10 (cells_one hone24) (hone24) rfl (by first | omega | (simp [hlen2]; done) | (simp [hlen2]; omega)) rfl (Nat.lt_of_lt_of_le (Nat.lt_succ_self _) (Nat.le_of_ble_eq_true rfl)) ?_
      intro w H
      ((conv=>whnf);repeat(first|(refine mvT ?_;conv=>whnf)|(refine mvF ?_;conv=>whnf)|(refine cT (by rfl) ?_;conv=>whnf)|(refine cF (by rfl) ?_;conv=>whnf)))
      replace H : St w0 G0 p pb s24 ((g8, 97, es8.flatten ++ [.int .i32 n9, .int .i16 n11, .int .i64 n14, .int .i32 n16, m18, .int .i32 0, .int .i32 0, .map none, .int .i64 n20, .int .i64 n22, c24, .map none] ++ ((List.replicate (n8.toNat - (i8 + 1)) [.int .i32 0, .int .i16 0, .int .i64 0, .int .i32 0, .map none, .int .i32 0, .int .i32 0, .map none, .int .i64 0, .int .i64 0, .slice none 0 0, .map none]).flatten ++ post8)) :: L8) P25 w := H
      (refine mvB ?_;((conv=>whnf);repeat(first|(refine mvT ?_;conv=>whnf)|(refine mvF ?_;conv=>whnf)|(refine cT (by rfl) ?_;conv=>whnf)|(refine cF (by rfl) ?_;conv=>whnf))))
      refine VC.cutB (fun q : Value × List Tg × Rd × Value × Value × Value × T => [(0, .pointer (some ⟨p, 0, none⟩)), (2, .bool false), (7, .pointer (some ⟨pb, 0, none⟩)), (8, .int .i16 v), (9, .bool fx), (10, .pointer (some ⟨p, 0, none⟩)), (15, .int .i32 n5), (14, .slice (some ⟨g5, 0, none⟩) n5.toNat cap5), (16, .int .i32 i5), (17, .pointer (some ⟨g5, 0 + (i5 : Int).toNat * 3, none⟩)), (18, .pointer (some ⟨g5, 0 + (i5 : Int).toNat * 3, none⟩)), (22, .int .i32 n8), (21, .slice (some ⟨g8, 0, none⟩) n8.toNat cap8), (23, .int .i32 i8), (24, .pointer (some ⟨g8, 0 + (i8 : Int).toNat * 12, none⟩)), (25, .pointer (some ⟨g8, 0 + (i8 : Int).toNat * 12, none⟩))]) (fun q w' => rdTail (rdField 7 v fx) dFetchSnapshotResponseTopicPartition fx [numT n9, numT n11, .mk 0 [] false [numT n14, numT n16] u18, .mk 0 [] false [numT 0, numT 0] [], numT n20, numT n22, .mk 0 u24 nl24 [] []] s24 = (([numT n9, numT n11, .mk 0 [] false [numT n14, numT n16] u18, q.2.2.2.2.2.2, numT n20, numT n22, .mk 0 u24 nl24 [] []], q.2.1), q.2.2.1) ∧ St w0 G0 p pb q.2.2.1 ((g8, 97, es8.flatten ++ [.int .i32 n9, .int .i16 n11, .int .i64 n14, .int .i32 n16, m18, q.2.2.2.1, q.2.2.2.2.1, q.2.2.2.2.2.1, .int .i64 n20, .int .i64 n22, c24, q.1] ++ ((List.replicate (n8.toNat - (i8 + 1)) [.int .i32 0, .int .i16 0, .int .i64 0, .int .i32 0, .map none, .int .i32 0, .int .i32 0, .map none, .int .i64 0, .int .i64 0, .slice none 0 0, .map none]).flatten ++ post8)) :: L8) (fun w => QField true 7 (.mk 10 0 (-1) (-1) 0 0 0 dFetchSnapshotResponseTopicPartitionCurrentLeader) ⟨w, FG w0 G0⟩ [q.2.2.2.1, q.2.2.2.2.1, q.2.2.2.2.2.1] (q.2.2.2.2.2.2) ∧ TGf w0 G0 q.1 q.2.1 w ∧ P25 w) w') ?_ ?_
      · refine cI (by rfl) (fun hc=>?_) (fun hc=>?_)
        · ((conv=>whnf);repeat(first|(refine mvT ?_;conv=>whnf)|(refine mvF ?_;conv=>whnf)|(refine cT (by rfl) ?_;conv=>whnf)|(refine cF (by rfl) ?_;conv=>whnf)))
          obtain ⟨wA27, rfl⟩ : ∃ x, x = w := ⟨w, rfl⟩
          have HA27 := H
          have hA27 := HA27.tgA
          have hlt0 := rdUv_lt s24
          refine Does.mono (rdUvarint_does HA27.rd HA27.Gpb) ?_
          rintro r w ⟨rfl, hr⟩
          ((conv=>whnf);repeat(first|(refine mvT ?_;conv=>whnf)|(refine mvF ?_;conv=>whnf)|(refine cT (by rfl) ?_;conv=>whnf)|(refine cF (by rfl) ?_;conv=>whnf)))
          have HT : TgS wA27 G0 pb g8 97 es8.flatten [.int .i32 n9, .int .i16 n11, .int .i64 n14, .int .i32 n16, m18, .int .i32 0, .int .i32 0, .map none, .int .i64 n20, .int .i64 n22, c24, (.map none)] ((List.replicate (n8.toNat - (i8 + 1)) [.int .i32 0, .int .i16 0, .int .i64 0, .int .i32 0, .map none, .int .i32 0, .int .i32 0, .map none, .int .i64 0, .int .i64 0, .slice none 0 0, .map none]).flatten ++ post8) L8 (rdUv s24).2 (.map none) [] (fun m w => Slot w wA27 G0 7 (.mk 10 0 (-1) (-1) 0 0 0 dFetchSnapshotResponseTopicPartitionCurrentLeader) 0 0 [m] [.int .i32 0, .int .i32 0, .map none] (.mk 0 [] false [numT 0, numT 0] [])) w := TgS.start HA27 hr (Slot.none (fun _ => QF10 (QPt (QA1 (QF3 rfl) (QA1 (QF3 rfl) (QA0))) (TagsR.nil _ _))) (fun h => absurd h (by decide))) (fun w w' m m' h hx hm => (Slot.clo hA27 (h) hx hm))
          clear H hr
          refine VL.loop (fun i : Nat => [(35, .int .u32 i), (0, .pointer (some ⟨p, 0, none⟩)), (2, .bool false), (7, .pointer (some ⟨pb, 0, none⟩)), (8, .int .i16 v), (9, .bool fx), (10, .pointer (some ⟨p, 0, none⟩)), (15, .int .i32 n5), (14, .slice (some ⟨g5, 0, none⟩) n5.toNat cap5), (16, .int .i32 i5), (17, .pointer (some ⟨g5, 0 + (i5 : Int).toNat * 3, none⟩)), (18, .pointer (some ⟨g5, 0 + (i5 : Int).toNat * 3, none⟩)), (22, .int .i32 n8), (21, .slice (some ⟨g8, 0, none⟩) n8.toNat cap8), (23, .int .i32 i8), (24, .pointer (some ⟨g8, 0 + (i8 : Int).toNat * 12, none⟩)), (25, .pointer (some ⟨g8, 0 + (i8 : Int).toNat * 12, none⟩))]) (fun i w' => ∃ (st : Rd) (m : Value) (u : List Tg) (c0_0 c0_1 c0_2 : Value) (xc0 : T), rdTgX (rdField 7 v fx) dFetchSnapshotResponseTopicPartition i [numT n9, numT n11, .mk 0 [] false [numT n14, numT n16] u18, xc0, numT n20, numT n22, .mk 0 u24 nl24 [] []] u st = rdTgX (rdField 7 v fx) dFetchSnapshotResponseTopicPartition (rdUv s24).1 [numT n9, numT n11, .mk 0 [] false [numT n14, numT n16] u18, .mk 0 [] false [numT 0, numT 0] [], numT n20, numT n22, .mk 0 u24 nl24 [] []] [] (rdUv s24).2 ∧ i < 4294967296 ∧ TgS wA27 G0 pb g8 97 es8.flatten [.int .i32 n9, .int .i16 n11, .int .i64 n14, .int .i32 n16, m18, c0_0, c0_1, c0_2, .int .i64 n20, .int .i64 n22, c24, m] ((List.replicate (n8.toNat - (i8 + 1)) [.int .i32 0, .int .i16 0, .int .i64 0, .int .i32 0, .map none, .int .i32 0, .int .i32 0, .map none, .int .i64 0, .int .i64 0, .slice none 0 0, .map none]).flatten ++ post8) L8 st m u (fun m w => Slot w wA27 G0 7 (.mk 10 0 (-1) (-1) 0 0 0 dFetchSnapshotResponseTopicPartitionCurrentLeader) 0 0 [m] [c0_0, c0_1, c0_2] (xc0)) w') (fun i => i) (rdUv s24).1 ⟨rfl, rfl, rfl, rfl, rfl, rfl, rfl, rfl, rfl, rfl, rfl, rfl, rfl, rfl, rfl, rfl, rfl, trivial⟩ ⟨_, _, _, _, _, _, _, rfl, hlt0, HT⟩ ?_
          clear HT
          rintro i w ⟨st, m, u, c0_0, c0_1, c0_2, xc0, hrun, hi, HT⟩
          ((conv=>whnf);repeat(first|(refine mvT ?_;conv=>whnf)|(refine mvF ?_;conv=>whnf)|(refine cT (by rfl) ?_;conv=>whnf)|(refine cF (by rfl) ?_;conv=>whnf)))
          refine cI (by rfl) (fun h9=>?_) (fun h9=>?_)
          · obtain ⟨j, rfl⟩ : ∃ j, i = j + 1 := ⟨i - 1, by have := of_decide_eq_true h9; omega⟩
            ((conv=>whnf);repeat(first|(refine mvT ?_;conv=>whnf)|(refine mvF ?_;conv=>whnf)|(refine cT (by rfl) ?_;conv=>whnf)|(refine cF (by rfl) ?_;conv=>whnf)))
            refine Does.mono (HT.uv hA27) ?_
            rintro r w ⟨key, st1, rfl, hkey, hu1, HT⟩
            ((conv=>whnf);repeat(first|(refine mvT ?_;conv=>whnf)|(refine mvF ?_;conv=>whnf)|(refine cT (by rfl) ?_;conv=>whnf)|(refine cF (by rfl) ?_;conv=>whnf)))
            refine cI (by rfl) (fun hk0=>?_) (fun hk0=>?_)
            · have hk0 : key = 0 := by have h := hk0; simp at h; omega
              subst hk0
              ((conv=>whnf);repeat(first|(refine mvT ?_;conv=>whnf)|(refine mvF ?_;conv=>whnf)|(refine cT (by rfl) ?_;conv=>whnf)|(refine cF (by rfl) ?_;conv=>whnf)))
              refine Does.mono (HT.uv hA27) ?_
              rintro r w ⟨z, st2, rfl, hz, hu2, HT⟩
              ((conv=>whnf);repeat(first|(refine mvT ?_;conv=>whnf)|(refine mvF ?_;conv=>whnf)|(refine cT (by rfl) ?_;conv=>whnf)|(refine cF (by rfl) ?_;conv=>whnf)))
              rw [i64_of (n := (z : Int)) (by omega) (by omega)]
              refine Does.mono (HT.span hA27 z) ?_
              rintro r w ⟨bb, st3, hsp, hbb, HT⟩
              obtain ⟨a7, c7, rfl, _⟩ := hbb.view
              ((conv=>whnf);repeat(first|(refine mvT ?_;conv=>whnf)|(refine mvF ?_;conv=>whnf)|(refine cT (by rfl) ?_;conv=>whnf)|(refine cF (by rfl) ?_;conv=>whnf)))
              obtain ⟨w1_28, rfl⟩ : ∃ x, x = w := ⟨w, rfl⟩
              intro pb28 wb hpb hb2 hxb1
              ((conv=>whnf);repeat(first|(refine mvT ?_;conv=>whnf)|(refine mvF ?_;conv=>whnf)|(refine cT (by rfl) ?_;conv=>whnf)|(refine cF (by rfl) ?_;conv=>whnf)))
              refine st_all [.slice a7 bb.length c7, .bool false] hb2 rfl rfl rfl ?_
              intro w hb2 hxb2
              ((conv=>whnf);repeat(first|(refine mvT ?_;conv=>whnf)|(refine mvF ?_;conv=>whnf)|(refine cT (by rfl) ?_;conv=>whnf)|(refine cF (by rfl) ?_;conv=>whnf)))
              have he : Ext nob w1_28 w := hxb1.trans hxb2 fun k hk h => by omega
              have H := HT.tagq hA27 hb2 (hbb.e0 he) he hpb
              clear hb2 hxb1 hxb2 he
              replace H : St w1_28 G0 g8 pb28 (bb, false) ((g8, 97, es8.flatten ++ [.int .i32 n9, .int .i16 n11, .int .i64 n14, .int .i32 n16, m18, c0_0, c0_1, c0_2, .int .i64 n20, .int .i64 n22, c24, m] ++ ((List.replicate (n8.toNat - (i8 + 1)) [.int .i32 0, .int .i16 0, .int .i64 0, .int .i32 0, .map none, .int .i32 0, .int .i32 0, .map none, .int .i64 0, .int .i64 0, .slice none 0 0, .map none]).flatten ++ post8)) :: []) (fun w' => Ext (fun k => k = g8) w1_28 w') w := H
              have hfxT := hc
              refine Does.mono (dfFetchSnapshotResponseTopicPartitionCurrentLeader (pre := es8.flatten ++ [.int .i32 n9, .int .i16 n11, .int .i64 n14, .int .i32 n16, m18]) (cur := [c0_0, c0_1, c0_2]) (post := [.int .i64 n20, .int .i64 n22, c24, m] ++ ((List.replicate (n8.toNat - (i8 + 1)) [.int .i32 0, .int .i16 0, .int .i64 0, .int .i32 0, .map none, .int .i32 0, .int .i32 0, .map none, .int .i64 0, .int .i64 0, .slice none 0 0, .map none]).flatten ++ post8)) (by have := H.head; simpa using this) (by first | (simp [hlen2]; done) | (simp [hlen2]; omega)) rfl) ?_
              rintro rd w2 ⟨hdf, hxd⟩
              replace hdf : Own w2 g8 97 (es8.flatten ++ [.int .i32 n9, .int .i16 n11, .int .i64 n14, .int .i32 n16, m18, c0_0, c0_1, c0_2, .int .i64 n20, .int .i64 n22, c24, m] ++ ((List.replicate (n8.toNat - (i8 + 1)) [.int .i32 0, .int .i16 0, .int .i64 0, .int .i32 0, .map none, .int .i32 0, .int .i32 0, .map none, .int .i64 0, .int .i64 0, .slice none 0 0, .map none]).flatten ++ post8)) := by simpa using hdf
              replace H := H.put hdf hxd
              clear hdf hxd
              replace H : St w1_28 G0 g8 pb28 (bb, false) ((g8, 97, es8.flatten ++ [.int .i32 n9, .int .i16 n11, .int .i64 n14, .int .i32 n16, m18, c0_0, c0_1, c0_2, .int .i64 n20, .int .i64 n22, c24, m] ++ ((List.replicate (n8.toNat - (i8 + 1)) [.int .i32 0, .int .i16 0, .int .i64 0, .int .i32 0, .map none, .int .i32 0, .int .i32 0, .map none, .int .i64 0, .int .i64 0, .slice none 0 0, .map none]).flatten ++ post8)) :: []) (fun w' => Ext (fun k => k = g8) w1_28 w') w2 := H
              ((conv=>whnf);repeat(first|(refine mvT ?_;conv=>whnf)|(refine mvF ?_;conv=>whnf)|(refine cT (by rfl) ?_;conv=>whnf)|(refine cF (by rfl) ?_;conv=>whnf)))
              refine Does.mono H.int32 ?_
              rintro r w ⟨n30, s30, rfl, hn30, hr30, H⟩
              ((conv=>whnf);repeat(first|(refine mvT ?_;conv=>whnf)|(refine mvF ?_;conv=>whnf)|(refine cT (by rfl) ?_;conv=>whnf)|(refine cF (by rfl) ?_;conv=>whnf)))
              refine H.st1 (v := .int .i32 n30) 5 (rfl) (rfl) rfl (by first | omega | (simp [hlen2]; done) | (simp [hlen2]; omega)) rfl (Nat.lt_of_lt_of_le (Nat.lt_succ_self _) (Nat.le_of_ble_eq_true rfl)) ?_
              intro w H
              ((conv=>whnf);repeat(first|(refine mvT ?_;conv=>whnf)|(refine mvF ?_;conv=>whnf)|(refine cT (by rfl) ?_;conv=>whnf)|(refine cF (by rfl) ?_;conv=>whnf)))
              replace H : St w1_28 G0 g8 pb28 s30 ((g8, 97, es8.flatten ++ [.int .i32 n9, .int .i16 n11, .int .i64 n14, .int .i32 n16, m18, .int .i32 n30, c0_1, c0_2, .int .i64 n20, .int .i64 n22, c24, m] ++ ((List.replicate (n8.toNat - (i8 + 1)) [.int .i32 0, .int .i16 0, .int .i64 0, .int .i32 0, .map none, .int .i32 0, .int .i32 0, .map none, .int .i64 0, .int .i64 0, .slice none 0 0, .map none]).flatten ++ post8)) :: []) (fun w' => Ext (fun k => k = g8) w1_28 w') w := H
              refine Does.mono H.int32 ?_
              rintro r w ⟨n32, s32, rfl, hn32, hr32, H⟩
              ((conv=>whnf);repeat(first|(refine mvT ?_;conv=>whnf)|(refine mvF ?_;conv=>whnf)|(refine cT (by rfl) ?_;conv=>whnf)|(refine cF (by rfl) ?_;conv=>whnf)))
              refine H.st1 (v := .int .i32 n32) 6 (rfl) (rfl) rfl (by first | omega | (simp [hlen2]; done) | (simp [hlen2]; omega)) rfl (Nat.lt_of_lt_of_le (Nat.lt_succ_self _) (Nat.le_of_ble_eq_true rfl)) ?_
              intro w H
              ((conv=>whnf);repeat(first|(refine mvT ?_;conv=>whnf)|(refine mvF ?_;conv=>whnf)|(refine cT (by rfl) ?_;conv=>whnf)|(refine cF (by rfl) ?_;conv=>whnf)))
              replace H : St w1_28 G0 g8 pb28 s32 ((g8, 97, es8.flatten ++ [.int .i32 n9, .int .i16 n11, .int .i64 n14, .int .i32 n16, m18, .int .i32 n30, .int .i32 n32, c0_2, .int .i64 n20, .int .i64 n22, c24, m] ++ ((List.replicate (n8.toNat - (i8 + 1)) [.int .i32 0, .int .i16 0, .int .i64 0, .int .i32 0, .map none, .int .i32 0, .int .i32 0, .map none, .int .i64 0, .int .i64 0, .slice none 0 0, .map none]).flatten ++ post8)) :: []) (fun w' => Ext (fun k => k = g8) w1_28 w') w := H
              (refine mvB ?_;((conv=>whnf);repeat(first|(refine mvT ?_;conv=>whnf)|(refine mvF ?_;conv=>whnf)|(refine cT (by rfl) ?_;conv=>whnf)|(refine cF (by rfl) ?_;conv=>whnf))))
              refine VC.cutE (fun q : Value × List Tg × Rd => [(0, .pointer (some ⟨p, 0, none⟩)), (2, .bool false), (7, .pointer (some ⟨pb, 0, none⟩)), (8, .int .i16 v), (9, .bool fx), (10, .pointer (some ⟨p, 0, none⟩)), (15, .int .i32 n5), (14, .slice (some ⟨g5, 0, none⟩) n5.toNat cap5), (16, .int .i32 i5), (17, .pointer (some ⟨g5, 0 + (i5 : Int).toNat * 3, none⟩)), (18, .pointer (some ⟨g5, 0 + (i5 : Int).toNat * 3, none⟩)), (22, .int .i32 n8), (21, .slice (some ⟨g8, 0, none⟩) n8.toNat cap8), (23, .int .i32 i8), (24, .pointer (some ⟨g8, 0 + (i8 : Int).toNat * 12, none⟩)), (25, .pointer (some ⟨g8, 0 + (i8 : Int).toNat * 12, none⟩)), (35, .int .u32 ((j + 1 : Nat) : Int)), (37, .pointer (some ⟨pb28, 0, none⟩)), (39, .pointer (some ⟨g8, 0 + (i8 : Int).toNat * 12 + 5, none⟩))]) (fun q w' => rdTagsF fx s32 = q.2 ∧ St w1_28 G0 g8 pb28 q.2.2 ((g8, 97, es8.flatten ++ [.int .i32 n9, .int .i16 n11, .int .i64 n14, .int .i32 n16, m18, .int .i32 n30, .int .i32 n32, q.1, .int .i64 n20, .int .i64 n22, c24, m] ++ ((List.replicate (n8.toNat - (i8 + 1)) [.int .i32 0, .int .i16 0, .int .i64 0, .int .i32 0, .map none, .int .i32 0, .int .i32 0, .map none, .int .i64 0, .int .i64 0, .slice none 0 0, .map none]).flatten ++ post8)) :: []) (fun w => TGf w1_28 G0 q.1 q.2.1 w ∧ (fun w' => Ext (fun k => k = g8) w1_28 w') w) w') ?_ ?_
              · refine cI (by rfl) (fun hc=>?_) (fun hc=>?_)
                · ((conv=>whnf);repeat(first|(refine mvT ?_;conv=>whnf)|(refine mvF ?_;conv=>whnf)|(refine cT (by rfl) ?_;conv=>whnf)|(refine cF (by rfl) ?_;conv=>whnf)))
                  refine Does.mono H.tags ?_
                  rintro r w ⟨m, u, s', rfl, hone, hr, H⟩
                  ((conv=>whnf);repeat(first|(refine mvT ?_;conv=>whnf)|(refine mvF ?_;conv=>whnf)|(refine cT (by rfl) ?_;conv=>whnf)|(refine cF (by rfl) ?_;conv=>whnf)))
                  refine H.st1 (v := m) 7 (rfl) (hone) rfl (by first | omega | (simp [hlen2]; done) | (simp [hlen2]; omega)) rfl (Nat.lt_of_lt_of_le (Nat.lt_succ_self _) (Nat.le_of_ble_eq_true rfl)) ?_
                  intro w H
                  ((conv=>whnf);repeat(first|(refine mvT ?_;conv=>whnf)|(refine mvF ?_;conv=>whnf)|(refine cT (by rfl) ?_;conv=>whnf)|(refine cF (by rfl) ?_;conv=>whnf)))
                  exact ⟨(m, u, s'), ⟨rfl, rfl, rfl, rfl, rfl, rfl, rfl, rfl, rfl, rfl, rfl, rfl, rfl, rfl, rfl, rfl, rfl, rfl, rfl, trivial⟩, by rw [rdTagsF, if_pos hc]; exact hr, H⟩
                · ((conv=>whnf);repeat(first|(refine mvT ?_;conv=>whnf)|(refine mvF ?_;conv=>whnf)|(refine cT (by rfl) ?_;conv=>whnf)|(refine cF (by rfl) ?_;conv=>whnf)))
                  rw [hfxT] at hc
                  cases hc
              clear H
              rintro ⟨m34, u34, s34⟩ w ⟨htg, H⟩
              dsimp only at htg H
              ((conv=>whnf);repeat(first|(refine mvT ?_;conv=>whnf)|(refine mvF ?_;conv=>whnf)|(refine cT (by rfl) ?_;conv=>whnf)|(refine cF (by rfl) ?_;conv=>whnf)))
              obtain ⟨P35, hP35⟩ : ∃ P : World → Prop, P = fun w => TGf w1_28 G0 m34 u34 w ∧ (fun w' => Ext (fun k => k = g8) w1_28 w') w := ⟨_, rfl⟩
              replace H : St w1_28 G0 g8 pb28 s34 ((g8, 97, es8.flatten ++ [.int .i32 n9, .int .i16 n11, .int .i64 n14, .int .i32 n16, m18, .int .i32 n30, .int .i32 n32, m34, .int .i64 n20, .int .i64 n22, c24, m] ++ ((List.replicate (n8.toNat - (i8 + 1)) [.int .i32 0, .int .i16 0, .int .i64 0, .int .i32 0, .map none, .int .i32 0, .int .i32 0, .map none, .int .i64 0, .int .i64 0, .slice none 0 0, .map none]).flatten ++ post8)) :: []) P35 w := by rw [hP35]; exact H
              have hpart : rdPart 6 v fx dFetchSnapshotResponseTopicPartitionCurrentLeader (bb, false) = (.mk 0 [] false [numT n30, numT n32] u34, s34) := by
                unfold rdPart rdPartW
                rw [rdTail_plain (by decide)]
                rw [rdAll_yes (df := dfT 6) (rdField3.trans hr30) ⟨by decide, has_all hv⟩, rdAll_yes (df := dfT 6) (rdField3.trans hr32) ⟨by decide, has_all hv⟩]
                simp only [rdAll]
                rw [htg]
              have hpi29 := hpart
              clear hpart
              have hP := H.now
              rw [hP35] at hP
              obtain ⟨hf35_, hP⟩ := hP
              have hq : QField true 7 (.mk 10 0 (-1) (-1) 0 0 0 dFetchSnapshotResponseTopicPartitionCurrentLeader) ⟨w, FG w1_28 G0⟩ [.int .i32 n30, .int .i32 n32, m34] (.mk 0 [] false [numT n30, numT n32] u34) := QF10 (QPt (QA1 (QF3 hn30) (QA1 (QF3 hn32) (QA0))) hf35_)
              have hx := H.ext.mono (M' := fun k => OwnB (.slice none 0 0) k ∨ k = g8) fun _ _ h => .inr h
              have hx2 : Ext (fun k => k = g8) w w := Ext.refl _ _
              have HT2 : TgS wA27 G0 pb g8 97 es8.flatten [.int .i32 n9, .int .i16 n11, .int .i64 n14, .int .i32 n16, m18, .int .i32 n30, .int .i32 n32, m34, .int .i64 n20, .int .i64 n22, c24, m] ((List.replicate (n8.toNat - (i8 + 1)) [.int .i32 0, .int .i16 0, .int .i64 0, .int .i32 0, .map none, .int .i32 0, .int .i32 0, .map none, .int .i64 0, .int .i64 0, .slice none 0 0, .map none]).flatten ++ post8) L8 st3 m u (fun m w => Slot w wA27 G0 7 (.mk 10 0 (-1) (-1) 0 0 0 dFetchSnapshotResponseTopicPartitionCurrentLeader) 0 0 [m] [.int .i32 n30, .int .i32 n32, m34] (.mk 0 [] false [numT n30, numT n32] u34)) w := HT.put hA27 hx H.own.1 (fun k h => absurd h (no_own k)) (Slot.readq hA27 HT hq (by decide) (fun c hc k hk => by
                  simp only [List.mem_cons, List.not_mem_nil, or_false] at hc)) (fun w w' m m' h hx hm => (Slot.clo hA27 (h) hx hm))
              have hfield : rdField 7 v fx (.mk 10 0 (-1) (-1) 0 0 0 dFetchSnapshotResponseTopicPartitionCurrentLeader) (bb, false) = (.mk 0 [] false [numT n30, numT n32] u34, s34) := ((rdField10 : rdField 7 v fx (.mk 10 0 (-1) (-1) 0 0 0 dFetchSnapshotResponseTopicPartitionCurrentLeader) _ = _).trans hpi29)
              refine Does.mono (Complete_does (HT2.laid HA27 hL hp1) (HT.rd2 hA27 hpb H.rd hx2)) ?_
              rintro r _ ⟨hr9, rfl⟩
              cases hbd9 : s34.2 with
              | true =>
                rw [hbd9, if_pos rfl] at hr9
                obtain ⟨te, xe, hev⟩ := hL.iface
                rw [hev] at hr9
                subst hr9
                ((conv=>whnf);repeat(first|(refine mvT ?_;conv=>whnf)|(refine mvF ?_;conv=>whnf)|(refine cT (by rfl) ?_;conv=>whnf)|(refine cF (by rfl) ?_;conv=>whnf)))
                rw [← hev]
                refine RdPost.fell (hup8 ?_) (HT2.ext0 HA27)
                rw [tail_yes (rdField3.trans hr9) ⟨by decide, has_all hv⟩, tail_yes (rdField2.trans hr11) ⟨by decide, has_all hv⟩, tail_yes ((rdField10 : rdField 7 v fx (.mk 10 0 (-1) (-1) (-1) 0 0 dFetchSnapshotResponseTopicPartitionSnapshotID) _ = _).trans hpi13) ⟨by decide, has_all hv⟩, tail_tag (f := (.mk 10 0 (-1) (-1) 0 0 0 dFetchSnapshotResponseTopicPartitionCurrentLeader)) (by decide), tail_yes (rdField4.trans hr20) ⟨by decide, has_all hv⟩, tail_yes (rdField4.trans hr22) ⟨by decide, has_all hv⟩, tail_yes (rdField9.trans hr24) ⟨by decide, has_all hv⟩, tail_run (by decide) hc hrun]
                exact rdTgX_fell hu1 hu2 hsp rfl (by rw [hfield]; exact hbd9)
              | false =>
                rw [hbd9, if_neg Bool.false_ne_true] at hr9
                subst hr9
                ((conv=>whnf);repeat(first|(refine mvT ?_;conv=>whnf)|(refine mvF ?_;conv=>whnf)|(refine cT (by rfl) ?_;conv=>whnf)|(refine cF (by rfl) ?_;conv=>whnf)))
                refine ⟨j, ⟨?_, rfl, rfl, rfl, rfl, rfl, rfl, rfl, rfl, rfl, rfl, rfl, rfl, rfl, rfl, rfl, rfl, trivial⟩, ⟨st3, m, u, .int .i32 n30, .int .i32 n32, m34, .mk 0 [] false [numT n30, numT n32] u34, rdTgX_next hrun hu1 hu2 hsp rfl hfield hbd9 (by rw [tgX_ne (show ((.mk 10 0 (-1) (-1) 0 0 0 dFetchSnapshotResponseTopicPartitionCurrentLeader) : Fd).kind ≠ 11 by decide)]; rfl), by omega, HT2⟩, by omega⟩
                show some (Value.int .u32 _) = _
                rw [wrap_u32]
                simp only [Option.some.injEq, Value.int.injEq, true_and]
                omega
            · have hk0 : key ≠ 0 := by have h := hk0; simp at h; omega
              ((conv=>whnf);repeat(first|(refine mvT ?_;conv=>whnf)|(refine mvF ?_;conv=>whnf)|(refine cT (by rfl) ?_;conv=>whnf)|(refine cF (by rfl) ?_;conv=>whnf)))
              refine VD.draw mixed (.q 0 (.q 1 (.q 2 (.q 3 (.eff 4 [] (.q 5 (.eff 6 [] (.eff 7 [] (.done))))))))) (by kernel_rfl) ?_;((conv=>whnf);repeat(first|(refine mvT ?_;conv=>whnf)|(refine mvF ?_;conv=>whnf)|(refine cT (by rfl) ?_;conv=>whnf)|(refine cF (by rfl) ?_;conv=>whnf)))
              replace HT := HT.e0 (ext_drew _)
              skip
              refine Does.mono (HT.uv hA27) ?_
              rintro r w ⟨z, st2, rfl, hz, hu2, HT⟩
              ((conv=>whnf);repeat(first|(refine mvT ?_;conv=>whnf)|(refine mvF ?_;conv=>whnf)|(refine cT (by rfl) ?_;conv=>whnf)|(refine cF (by rfl) ?_;conv=>whnf)))
              rw [i64_of (n := (z : Int)) (by omega) (by omega)]
              refine Does.mono (HT.span hA27 z) ?_
              rintro r w ⟨bb, st3, hsp, hbb, HT⟩
              obtain ⟨a7, c7, rfl, _⟩ := hbb.view
              ((conv=>whnf);repeat(first|(refine mvT ?_;conv=>whnf)|(refine mvF ?_;conv=>whnf)|(refine cT (by rfl) ?_;conv=>whnf)|(refine cF (by rfl) ?_;conv=>whnf)))
              refine Does.mono (HT.set hA27 (om := 11) (key := key) (b := bb) rfl (by first | omega | (simp [hlen2]; done) | (simp [hlen2]; omega)) hbb) ?_
              rintro r w ⟨m', HT⟩
              ((conv=>whnf);repeat(first|(refine mvT ?_;conv=>whnf)|(refine mvF ?_;conv=>whnf)|(refine cT (by rfl) ?_;conv=>whnf)|(refine cF (by rfl) ?_;conv=>whnf)))
              have htag : tagIx dFetchSnapshotResponseTopicPartition 0 key = none := tagIx_no fun f hf => by
                simp only [dFetchSnapshotResponseTopicPartition, List.mem_cons, List.not_mem_nil, or_false] at hf
                rcases hf with rfl | rfl | rfl | rfl | rfl | rfl | rfl <;> (simp only [Fd.tag]; omega)
              refine ⟨j, ⟨?_, rfl, rfl, rfl, rfl, rfl, rfl, rfl, rfl, rfl, rfl, rfl, rfl, rfl, rfl, rfl, rfl, trivial⟩, ⟨st3, m', _, _, _, _, _, (rdTgX_none hu1 hu2 hsp htag).symm.trans hrun, by omega, HT⟩, by omega⟩
              show some (Value.int .u32 _) = _
              rw [wrap_u32]
              simp only [Option.some.injEq, Value.int.injEq, true_and]
              omega
          · have hi0 : i = 0 := by have := of_decide_eq_false h9; omega
            subst hi0
            ((conv=>whnf);repeat(first|(refine mvT ?_;conv=>whnf)|(refine mvF ?_;conv=>whnf)|(refine cT (by rfl) ?_;conv=>whnf)|(refine cF (by rfl) ?_;conv=>whnf)))
            have H := TgS.out HA27 HT
            have H := Slot.out HA27 (HT.slots) H
            exact ⟨(m, u, st, c0_0, c0_1, c0_2, xc0), ⟨rfl, rfl, rfl, rfl, rfl, rfl, rfl, rfl, rfl, rfl, rfl, rfl, rfl, rfl, rfl, rfl, trivial⟩, tail_end (by decide) hc hrun, H⟩
        · ((conv=>whnf);repeat(first|(refine mvT ?_;conv=>whnf)|(refine mvF ?_;conv=>whnf)|(refine cT (by rfl) ?_;conv=>whnf)|(refine cF (by rfl) ?_;conv=>whnf)))
          have H := H.add (Q := fun w => TGf w0 G0 (.map none) [] w) fun w' _ => TagsR.nil _ _
          have H := H.add (Q := fun w => QField true 7 (.mk 10 0 (-1) (-1) 0 0 0 dFetchSnapshotResponseTopicPartitionCurrentLeader) ⟨w, FG w0 G0⟩ [.int .i32 0, .int .i32 0, .map none] (.mk 0 [] false [numT 0, numT 0] [])) fun w' _ => QF10 (QPt (QA1 (QF3 rfl) (QA1 (QF3 rfl) (QA0))) (TagsR.nil _ _))
          exact ⟨(.map none, [], s24, .int .i32 0, .int .i32 0, .map none, .mk 0 [] false [numT 0, numT 0] []), ⟨rfl, rfl, rfl, rfl, rfl, rfl, rfl, rfl, rfl, rfl, rfl, rfl, rfl, rfl, rfl, rfl, trivial⟩, tail_none (by decide) hc, H⟩
      clear H
      rintro ⟨m36, u36, s36, t36_0_0, t36_0_1, t36_0_2, xt36_0⟩ w ⟨htl, H⟩
      dsimp only at htl H
      ((conv=>whnf);repeat(first|(refine mvT ?_;conv=>whnf)|(refine mvF ?_;conv=>whnf)|(refine cT (by rfl) ?_;conv=>whnf)|(refine cF (by rfl) ?_;conv=>whnf)))
      obtain ⟨P37, hP37⟩ : ∃ P : World → Prop, P = fun w => TGf w0 G0 m36 u36 w ∧ P25 w := ⟨_, rfl⟩
      obtain ⟨P38, hP38⟩ : ∃ P : World → Prop, P = fun w => QField true 7 (.mk 10 0 (-1) (-1) 0 0 0 dFetchSnapshotResponseTopicPartitionCurrentLeader) ⟨w, FG w0 G0⟩ [t36_0_0, t36_0_1, t36_0_2] (xt36_0) ∧ P37 w := ⟨_, rfl⟩
      replace H : St w0 G0 p pb s36 ((g8, 97, es8.flatten ++ [.int .i32 n9, .int .i16 n11, .int .i64 n14, .int .i32 n16, m18, t36_0_0, t36_0_1, t36_0_2, .int .i64 n20, .int .i64 n22, c24, m36] ++ ((List.replicate (n8.toNat - (i8 + 1)) [.int .i32 0, .int .i16 0, .int .i64 0, .int .i32 0, .map none, .int .i32 0, .int .i32 0, .map none, .int .i64 0, .int .i64 0, .slice none 0 0, .map none]).flatten ++ post8)) :: L8) P38 w := by rw [hP38, hP37]; exact H
      have hall : rdAll (rdField 7 v fx) (dfT 7) v dFetchSnapshotResponseTopicPartition si8 = ([numT n9, numT n11, .mk 0 [] false [numT n14, numT n16] u18, .mk 0 [] false [numT 0, numT 0] [], numT n20, numT n22, .mk 0 u24 nl24 [] []], s24) := by
        rw [rdAll_yes (df := dfT 7) (rdField3.trans hr9) ⟨by decide, has_all hv⟩, rdAll_yes (df := dfT 7) (rdField2.trans hr11) ⟨by decide, has_all hv⟩, rdAll_yes (df := dfT 7) ((rdField10 : rdField 7 v fx (.mk 10 0 (-1) (-1) (-1) 0 0 dFetchSnapshotResponseTopicPartitionSnapshotID) _ = _).trans hpi13) ⟨by decide, has_all hv⟩, rdAll_tag (f := (.mk 10 0 (-1) (-1) 0 0 0 dFetchSnapshotResponseTopicPartitionCurrentLeader)) (by decide), rdAll_yes (df := dfT 7) (rdField4.trans hr20) ⟨by decide, has_all hv⟩, rdAll_yes (df := dfT 7) (rdField4.trans hr22) ⟨by decide, has_all hv⟩, rdAll_yes (df := dfT 7) (rdField9.trans hr24) ⟨by decide, has_all hv⟩]
        rfl
      have hpart : rdPart 7 v fx dFetchSnapshotResponseTopicPartition si8 = (.mk 0 [] false [numT n9, numT n11, .mk 0 [] false [numT n14, numT n16] u18, xt36_0, numT n20, numT n22, .mk 0 u24 nl24 [] []] u36, s36) := by
        simp only [rdPart, rdPartW, hall, htl]
      refine ⟨i8 + 1, ⟨rfl, rfl, ?_, rfl, rfl, rfl, rfl, rfl, rfl, rfl, rfl, rfl, rfl, rfl, trivial⟩, ⟨by omega, ListI.back hgo8 (LoopI.next hes8 hez8 hrn8 hts8 (cur := [.int .i32 n9, .int .i16 n11, .int .i64 n14, .int .i32 n16, m18, t36_0_0, t36_0_1, t36_0_2, .int .i64 n20, .int .i64 n22, c24, m36]) (x := .mk 0 [] false [numT n9, numT n11, .mk 0 [] false [numT n14, numT n16] u18, xt36_0, numT n20, numT n22, .mk 0 u24 nl24 [] []] u36) (hpart) rfl (by rw [← hL8]; exact H) fun w hP => ?_)⟩, by omega⟩
      · show some (Value.int .i32 _) = _
        rw [IntKind.wrap_i32]
        simp only [Option.some.injEq, Value.int.injEq, true_and]
        omega
      · skip
        rw [hP38] at hP
        obtain ⟨hf38_, hP⟩ := hP
        rw [hP37] at hP
        obtain ⟨hf37_, hP⟩ := hP
        rw [hP25] at hP
        obtain ⟨hf25_, hP⟩ := hP
        rw [hP19] at hP
        obtain ⟨hf19_, hP⟩ := hP
        rw [hP8] at hP
        exact ⟨QPt (QA1 (QF3 hn9) (QA1 (QF2 hn11) (QA1 (QF10 (QPt (QA1 (QF4 hn14) (QA1 (QF3 hn16) (QA0))) hf19_)) (QA1 (hf38_) (QA1 (QF4 hn20) (QA1 (QF4 hn22) (QA1 (QF9 hnl24 hf25_) (QA0)))))))) hf37_, hP⟩
    have hge8 : ¬ (i8 : Int) < n8 := of_decide_eq_false h9
    obtain ⟨l39, s39, hone39, hl39, hr39, H⟩ := H.done hge8 hln8 (nl := nlF (.mk 11 0 (-1) (-1) (-1) 0 10 dFetchSnapshotResponseTopicPartition) v) (sz := elZ true 7 10 dFetchSnapshotResponseTopicPartition) rfl hpL8 rfl
    ((conv=>whnf);repeat(first|(refine mvT ?_;conv=>whnf)|(refine mvF ?_;conv=>whnf)|(refine cT (by rfl) ?_;conv=>whnf)|(refine cF (by rfl) ?_;conv=>whnf)))
    obtain ⟨P40, hP40⟩ : ∃ P : World → Prop, P = fun w => ListR true (elZ true 7 10 dFetchSnapshotResponseTopicPartition) (elQ true 7 10 dFetchSnapshotResponseTopicPartition ⟨w, FG w0 G0⟩) w (FG w0 G0) a8 (.mk 0 [] (decide (n8 ≤ 0)) l39 []) ∧ P5 w := ⟨_, rfl⟩
    replace H : St w0 G0 p pb s39 ((g5, 89, es5.flatten ++ [str u6, .slice none 0 0, .map none] ++ ((List.replicate (n5.toNat - (i5 + 1)) [str [], .slice none 0 0, .map none]).flatten ++ post5)) :: L5) P40 w := by rw [hP40]; exact H
    refine H.st1 (v := a8) 1 (cells_one hone39) (hone39) rfl (by first | omega | (simp [hlen1]; done) | (simp [hlen1]; omega)) rfl (Nat.lt_of_lt_of_le (Nat.lt_succ_self _) (Nat.le_of_ble_eq_true rfl)) ?_
    intro w H
    ((conv=>whnf);repeat(first|(refine mvT ?_;conv=>whnf)|(refine mvF ?_;conv=>whnf)|(refine cT (by rfl) ?_;conv=>whnf)|(refine cF (by rfl) ?_;conv=>whnf)))
    replace H : St w0 G0 p pb s39 ((g5, 89, es5.flatten ++ [str u6, a8, .map none] ++ ((List.replicate (n5.toNat - (i5 + 1)) [str [], .slice none 0 0, .map none]).flatten ++ post5)) :: L5) P40 w := H
    (refine mvB ?_;((conv=>whnf);repeat(first|(refine mvT ?_;conv=>whnf)|(refine mvF ?_;conv=>whnf)|(refine cT (by rfl) ?_;conv=>whnf)|(refine cF (by rfl) ?_;conv=>whnf))))
    refine VC.cutB (fun q : Value × List Tg × Rd => [(0, .pointer (some ⟨p, 0, none⟩)), (2, .bool false), (7, .pointer (some ⟨pb, 0, none⟩)), (8, .int .i16 v), (9, .bool fx), (10, .pointer (some ⟨p, 0, none⟩)), (15, .int .i32 n5), (14, .slice (some ⟨g5, 0, none⟩) n5.toNat cap5), (16, .int .i32 i5), (17, .pointer (some ⟨g5, 0 + (i5 : Int).toNat * 3, none⟩)), (18, .pointer (some ⟨g5, 0 + (i5 : Int).toNat * 3, none⟩))]) (fun q w' => rdTagsF fx s39 = q.2 ∧ St w0 G0 p pb q.2.2 ((g5, 89, es5.flatten ++ [str u6, a8, q.1] ++ ((List.replicate (n5.toNat - (i5 + 1)) [str [], .slice none 0 0, .map none]).flatten ++ post5)) :: L5) (fun w => TGf w0 G0 q.1 q.2.1 w ∧ P40 w) w') ?_ ?_
    · refine cI (by rfl) (fun hc=>?_) (fun hc=>?_)
      · ((conv=>whnf);repeat(first|(refine mvT ?_;conv=>whnf)|(refine mvF ?_;conv=>whnf)|(refine cT (by rfl) ?_;conv=>whnf)|(refine cF (by rfl) ?_;conv=>whnf)))
        refine Does.mono H.tags ?_
        rintro r w ⟨m, u, s', rfl, hone, hr, H⟩
        ((conv=>whnf);repeat(first|(refine mvT ?_;conv=>whnf)|(refine mvF ?_;conv=>whnf)|(refine cT (by rfl) ?_;conv=>whnf)|(refine cF (by rfl) ?_;conv=>whnf)))
        refine H.st1 (v := m) 2 (rfl) (hone) rfl (by first | omega | (simp [hlen1]; done) | (simp [hlen1]; omega)) rfl (Nat.lt_of_lt_of_le (Nat.lt_succ_self _) (Nat.le_of_ble_eq_true rfl)) ?_
        intro w H
        ((conv=>whnf);repeat(first|(refine mvT ?_;conv=>whnf)|(refine mvF ?_;conv=>whnf)|(refine cT (by rfl) ?_;conv=>whnf)|(refine cF (by rfl) ?_;conv=>whnf)))
        exact ⟨(m, u, s'), ⟨rfl, rfl, rfl, rfl, rfl, rfl, rfl, rfl, rfl, rfl, rfl, trivial⟩, by rw [rdTagsF, if_pos hc]; exact hr, H⟩
      · ((conv=>whnf);repeat(first|(refine mvT ?_;conv=>whnf)|(refine mvF ?_;conv=>whnf)|(refine cT (by rfl) ?_;conv=>whnf)|(refine cF (by rfl) ?_;conv=>whnf)))
        exact ⟨(.map none, [], s39), ⟨rfl, rfl, rfl, rfl, rfl, rfl, rfl, rfl, rfl, rfl, rfl, trivial⟩, by rw [rdTagsF, if_neg (by rw [hc]; decide)], H.add fun w' _ => TagsR.nil _ _⟩
    clear H
    rintro ⟨m42, u42, s42⟩ w ⟨htg, H⟩
    dsimp only at htg H
    ((conv=>whnf);repeat(first|(refine mvT ?_;conv=>whnf)|(refine mvF ?_;conv=>whnf)|(refine cT (by rfl) ?_;conv=>whnf)|(refine cF (by rfl) ?_;conv=>whnf)))
    obtain ⟨P43, hP43⟩ : ∃ P : World → Prop, P = fun w => TGf w0 G0 m42 u42 w ∧ P40 w := ⟨_, rfl⟩
    replace H : St w0 G0 p pb s42 ((g5, 89, es5.flatten ++ [str u6, a8, m42] ++ ((List.replicate (n5.toNat - (i5 + 1)) [str [], .slice none 0 0, .map none]).flatten ++ post5)) :: L5) P43 w := by rw [hP43]; exact H
    have hpart : rdPart 8 v fx dFetchSnapshotResponseTopic si5 = (.mk 0 [] false [.mk 0 u6 false [] [], .mk 0 [] (decide (n8 ≤ 0)) l39 []] u42, s42) := by
      unfold rdPart rdPartW
      rw [rdTail_plain (by decide)]
      rw [rdAll_yes (df := dfT 8) (rdField8 (by decide) hr6) ⟨by decide, has_all hv⟩, rdAll_yes (df := dfT 8) ((rdField_list _ _ _ _ _ _ _ _ _ _ _).trans hr39) ⟨by decide, has_all hv⟩]
      simp only [rdAll]
      rw [htg]
    refine ⟨i5 + 1, ⟨rfl, rfl, ?_, rfl, rfl, rfl, rfl, rfl, rfl, trivial⟩, ⟨by omega, ListI.back hgo5 (LoopI.next hes5 hez5 hrn5 hts5 (cur := [str u6, a8, m42]) (x := .mk 0 [] false [.mk 0 u6 false [] [], .mk 0 [] (decide (n8 ≤ 0)) l39 []] u42) (hpart) rfl (by rw [← hL5]; exact H) fun w hP => ?_)⟩, by omega⟩
    · show some (Value.int .i32 _) = _
      rw [IntKind.wrap_i32]
      simp only [Option.some.injEq, Value.int.injEq, true_and]
      omega
    · skip
      rw [hP43] at hP
      obtain ⟨hf43_, hP⟩ := hP
      rw [hP40] at hP
      obtain ⟨hf40_, hP⟩ := hP
      rw [hP5] at hP
      exact ⟨QPt (QA1 (QF8 (by decide) u6) (QA1 (QF11 hl39 hf40_) (QA0))) hf43_, hP⟩
  have hge5 : ¬ (i5 : Int) < n5 := of_decide_eq_false h9
  obtain ⟨l44, s44, hone44, hl44, hr44, H⟩ := H.done hge5 hln5 (nl := nlF (.mk 11 0 (-1) (-1) (-1) 0 10 dFetchSnapshotResponseTopic) v) (sz := elZ true 8 10 dFetchSnapshotResponseTopic) rfl hpL5 rfl
  ((conv=>whnf);repeat(first|(refine mvT ?_;conv=>whnf)|(refine mvF ?_;conv=>whnf)|(refine cT (by rfl) ?_;conv=>whnf)|(refine cF (by rfl) ?_;conv=>whnf)))
  obtain ⟨P45, hP45⟩ : ∃ P : World → Prop, P = fun w => ListR true (elZ true 8 10 dFetchSnapshotResponseTopic) (elQ true 8 10 dFetchSnapshotResponseTopic ⟨w, FG w0 G0⟩) w (FG w0 G0) a5 (.mk 0 [] (decide (n5 ≤ 0)) l44 []) ∧ (fun _ => True) w := ⟨_, rfl⟩
  replace H : St w0 G0 p pb s44 ((p, ty, [] ++ [.int .i16 v, .int .i32 n1, .int .i16 n3, .slice none 0 0, .slice none 0 0, .map none] ++ []) :: []) P45 w := by rw [hP45]; exact H
  refine H.st1 (v := a5) 3 (cells_one hone44) (hone44) rfl (by simp) rfl (Nat.lt_of_lt_of_le (Nat.lt_succ_self _) (Nat.le_of_ble_eq_true rfl)) ?_
  intro w H
  ((conv=>whnf);repeat(first|(refine mvT ?_;conv=>whnf)|(refine mvF ?_;conv=>whnf)|(refine cT (by rfl) ?_;conv=>whnf)|(refine cF (by rfl) ?_;conv=>whnf)))
  replace H : St w0 G0 p pb s44 ((p, ty, [] ++ [.int .i16 v, .int .i32 n1, .int .i16 n3, a5, .slice none 0 0, .map none] ++ []) :: []) P45 w := H
  (refine mvB ?_;((conv=>whnf);repeat(first|(refine mvT ?_;conv=>whnf)|(refine mvF ?_;conv=>whnf)|(refine cT (by rfl) ?_;conv=>whnf)|(refine cF (by rfl) ?_;conv=>whnf))))
  refine VC.cutE (fun q : Value × List Tg × Rd × Value × T => [(0, .pointer (some ⟨p, 0, none⟩)), (2, .bool false), (7, .pointer (some ⟨pb, 0, none⟩)), (8, .int .i16 v), (9, .bool fx), (10, .pointer (some ⟨p, 0, none⟩))]) (fun q w' => rdTail (rdField 9 v fx) dFetchSnapshotResponse fx [numT n1, numT n3, .mk 0 [] (decide (n5 ≤ 0)) l44 [], .mk 0 [] true [] []] s44 = (([numT n1, numT n3, .mk 0 [] (decide (n5 ≤ 0)) l44 [], q.2.2.2.2], q.2.1), q.2.2.1) ∧ St w0 G0 p pb q.2.2.1 ((p, ty, [] ++ [.int .i16 v, .int .i32 n1, .int .i16 n3, a5, q.2.2.2.1, q.1] ++ []) :: []) (fun w => QField true 9 (.mk 11 0 (-1) (-1) 0 0 10 dFetchSnapshotResponseNodeEndpoint) ⟨w, FG w0 G0⟩ [q.2.2.2.1] (q.2.2.2.2) ∧ TGf w0 G0 q.1 q.2.1 w ∧ P45 w) w') ?_ ?_
  · refine cI (by rfl) (fun hc=>?_) (fun hc=>?_)
    · ((conv=>whnf);repeat(first|(refine mvT ?_;conv=>whnf)|(refine mvF ?_;conv=>whnf)|(refine cT (by rfl) ?_;conv=>whnf)|(refine cF (by rfl) ?_;conv=>whnf)))
      obtain ⟨wA47, rfl⟩ : ∃ x, x = w := ⟨w, rfl⟩
      have HA47 := H
      have hA47 := HA47.tgA
      have hlt0 := rdUv_lt s44
      refine Does.mono (rdUvarint_does HA47.rd HA47.Gpb) ?_
      rintro r w ⟨rfl, hr⟩
      ((conv=>whnf);repeat(first|(refine mvT ?_;conv=>whnf)|(refine mvF ?_;conv=>whnf)|(refine cT (by rfl) ?_;conv=>whnf)|(refine cF (by rfl) ?_;conv=>whnf)))
      have HT : TgS wA47 G0 pb p ty [] [.int .i16 v, .int .i32 n1, .int .i16 n3, a5, .slice none 0 0, (.map none)] [] [] (rdUv s44).2 (.map none) [] (fun m w => Slot w wA47 G0 9 (.mk 11 0 (-1) (-1) 0 0 10 dFetchSnapshotResponseNodeEndpoint) 108 4 [m] [.slice none 0 0] (.mk 0 [] true [] [])) w := TgS.start HA47 hr (Slot.none (fun _ => QF11 (fun _ => rfl) (.inl ⟨rfl, rfl⟩)) (fun _ => ⟨rfl, rfl⟩)) (fun w w' m m' h hx hm => (Slot.clo hA47 (h) hx hm))
      clear H hr
      refine VL.loop (fun i : Nat => [(43, .int .u32 i), (0, .pointer (some ⟨p, 0, none⟩)), (2, .bool false), (7, .pointer (some ⟨pb, 0, none⟩)), (8, .int .i16 v), (9, .bool fx), (10, .pointer (some ⟨p, 0, none⟩))]) (fun i w' => ∃ (st : Rd) (m : Value) (u : List Tg) (c0_0 : Value) (xc0 : T), rdTgX (rdField 9 v fx) dFetchSnapshotResponse i [numT n1, numT n3, .mk 0 [] (decide (n5 ≤ 0)) l44 [], xc0] u st = rdTgX (rdField 9 v fx) dFetchSnapshotResponse (rdUv s44).1 [numT n1, numT n3, .mk 0 [] (decide (n5 ≤ 0)) l44 [], .mk 0 [] true [] []] [] (rdUv s44).2 ∧ i < 4294967296 ∧ TgS wA47 G0 pb p ty [] [.int .i16 v, .int .i32 n1, .int .i16 n3, a5, c0_0, m] [] [] st m u (fun m w => Slot w wA47 G0 9 (.mk 11 0 (-1) (-1) 0 0 10 dFetchSnapshotResponseNodeEndpoint) 108 4 [m] [c0_0] (xc0)) w') (fun i => i) (rdUv s44).1 ⟨rfl, rfl, rfl, rfl, rfl, rfl, rfl, trivial⟩ ⟨_, _, _, _, _, rfl, hlt0, HT⟩ ?_
      clear HT
      rintro i w ⟨st, m, u, c0_0, xc0, hrun, hi, HT⟩
      ((conv=>whnf);repeat(first|(refine mvT ?_;conv=>whnf)|(refine mvF ?_;conv=>whnf)|(refine cT (by rfl) ?_;conv=>whnf)|(refine cF (by rfl) ?_;conv=>whnf)))
      refine cI (by rfl) (fun h9=>?_) (fun h9=>?_)
      · obtain ⟨j, rfl⟩ : ∃ j, i = j + 1 := ⟨i - 1, by have := of_decide_eq_true h9; omega⟩
        ((conv=>whnf);repeat(first|(refine mvT ?_;conv=>whnf)|(refine mvF ?_;conv=>whnf)|(refine cT (by rfl) ?_;conv=>whnf)|(refine cF (by rfl) ?_;conv=>whnf)))
        refine Does.mono (HT.uv hA47) ?_
        rintro r w ⟨key, st1, rfl, hkey, hu1, HT⟩
        ((conv=>whnf);repeat(first|(refine mvT ?_;conv=>whnf)|(refine mvF ?_;conv=>whnf)|(refine cT (by rfl) ?_;conv=>whnf)|(refine cF (by rfl) ?_;conv=>whnf)))
        refine cI (by rfl) (fun hk0=>?_) (fun hk0=>?_)
        · have hk0 : key = 0 := by have h := hk0; simp at h; omega
          subst hk0
          ((conv=>whnf);repeat(first|(refine mvT ?_;conv=>whnf)|(refine mvF ?_;conv=>whnf)|(refine cT (by rfl) ?_;conv=>whnf)|(refine cF (by rfl) ?_;conv=>whnf)))
          refine Does.mono (HT.uv hA47) ?_
          rintro r w ⟨z, st2, rfl, hz, hu2, HT⟩
          ((conv=>whnf);repeat(first|(refine mvT ?_;conv=>whnf)|(refine mvF ?_;conv=>whnf)|(refine cT (by rfl) ?_;conv=>whnf)|(refine cF (by rfl) ?_;conv=>whnf)))
          rw [i64_of (n := (z : Int)) (by omega) (by omega)]
          refine Does.mono (HT.span hA47 z) ?_
          rintro r w ⟨bb, st3, hsp, hbb, HT⟩
          obtain ⟨a7, c7, rfl, _⟩ := hbb.view
          ((conv=>whnf);repeat(first|(refine mvT ?_;conv=>whnf)|(refine mvF ?_;conv=>whnf)|(refine cT (by rfl) ?_;conv=>whnf)|(refine cF (by rfl) ?_;conv=>whnf)))
          obtain ⟨w1_48, rfl⟩ : ∃ x, x = w := ⟨w, rfl⟩
          intro pb48 wb hpb hb2 hxb1
          ((conv=>whnf);repeat(first|(refine mvT ?_;conv=>whnf)|(refine mvF ?_;conv=>whnf)|(refine cT (by rfl) ?_;conv=>whnf)|(refine cF (by rfl) ?_;conv=>whnf)))
          refine st_all [.slice a7 bb.length c7, .bool false] hb2 rfl rfl rfl ?_
          intro w hb2 hxb2
          ((conv=>whnf);repeat(first|(refine mvT ?_;conv=>whnf)|(refine mvF ?_;conv=>whnf)|(refine cT (by rfl) ?_;conv=>whnf)|(refine cF (by rfl) ?_;conv=>whnf)))
          have he : Ext nob w1_48 w := hxb1.trans hxb2 fun k hk h => by omega
          obtain ⟨hG1, hb1⟩ := HT.src hA47
          have H := St.tag hb2 (hbb.e0 he) hG1 he hb1 hpb
          clear hb2 hxb1 hxb2 he
          obtain ⟨hown, hsep⟩ := (HT.slots).ownL rfl
          obtain ⟨qa, na, ca, rfl, hqa, hna⟩ := hown.slice
          refine ldS (own_cell (HT.own.1.e0 H.now) (o := 0) rfl (k := 4) rfl) ?_;((conv=>whnf);repeat(first|(refine mvT ?_;conv=>whnf)|(refine mvF ?_;conv=>whnf)|(refine cT (by rfl) ?_;conv=>whnf)|(refine cF (by rfl) ?_;conv=>whnf)))
          (refine mvB ?_;((conv=>whnf);repeat(first|(refine mvT ?_;conv=>whnf)|(refine mvF ?_;conv=>whnf)|(refine cT (by rfl) ?_;conv=>whnf)|(refine cF (by rfl) ?_;conv=>whnf))))
          refine VC.cutE (fun q : Int × Rd => [(48, .int .i32 q.1), (47, .slice qa na ca), (0, .pointer (some ⟨p, 0, none⟩)), (2, .bool false), (7, .pointer (some ⟨pb, 0, none⟩)), (8, .int .i16 v), (9, .bool fx), (10, .pointer (some ⟨p, 0, none⟩)), (43, .int .u32 ((j + 1 : Nat) : Int)), (45, .pointer (some ⟨pb48, 0, none⟩))]) (fun q w' => (-2147483648 ≤ q.1 ∧ q.1 ≤ 2147483647) ∧ rdLn fx (bb, false) = q ∧ St w1_48 G0 pb pb48 q.2 [] (fun w' => Ext nob w1_48 w') w') ?_ ?_
          · refine cI (by rfl) (fun hc2=>?_) (fun hc2=>?_)
            · ((conv=>whnf);repeat(first|(refine mvT ?_;conv=>whnf)|(refine mvF ?_;conv=>whnf)|(refine cT (by rfl) ?_;conv=>whnf)|(refine cF (by rfl) ?_;conv=>whnf)))
              refine Does.mono H.lnc ?_
              rintro r w ⟨n, s', rfl, hn, hr, H⟩
              ((conv=>whnf);repeat(first|(refine mvT ?_;conv=>whnf)|(refine mvF ?_;conv=>whnf)|(refine cT (by rfl) ?_;conv=>whnf)|(refine cF (by rfl) ?_;conv=>whnf)))
              exact ⟨(n, s'), ⟨rfl, rfl, rfl, rfl, rfl, rfl, rfl, rfl, rfl, rfl, trivial⟩, hn, by rw [hc2]; exact hr, H⟩
            · ((conv=>whnf);repeat(first|(refine mvT ?_;conv=>whnf)|(refine mvF ?_;conv=>whnf)|(refine cT (by rfl) ?_;conv=>whnf)|(refine cF (by rfl) ?_;conv=>whnf)))
              refine Does.mono H.lnp ?_
              rintro r w ⟨n, s', rfl, hn, hr, H⟩
              ((conv=>whnf);repeat(first|(refine mvT ?_;conv=>whnf)|(refine mvF ?_;conv=>whnf)|(refine cT (by rfl) ?_;conv=>whnf)|(refine cF (by rfl) ?_;conv=>whnf)))
              exact ⟨(n, s'), ⟨rfl, rfl, rfl, rfl, rfl, rfl, rfl, rfl, rfl, rfl, trivial⟩, hn, by rw [hc2]; exact hr, H⟩
          clear H
          rintro ⟨n48, s48⟩ w ⟨hn48, hln48, H⟩
          dsimp only at hn48 hln48 H
          ((conv=>whnf);repeat(first|(refine mvT ?_;conv=>whnf)|(refine mvF ?_;conv=>whnf)|(refine cT (by rfl) ?_;conv=>whnf)|(refine cF (by rfl) ?_;conv=>whnf)))
          refine Does.mono H.ok ?_
          rintro r w ⟨rfl, H⟩
          ((conv=>whnf);repeat(first|(refine mvT ?_;conv=>whnf)|(refine mvF ?_;conv=>whnf)|(refine cT (by rfl) ?_;conv=>whnf)|(refine cF (by rfl) ?_;conv=>whnf)))
          refine cI (by rfl) (fun hbd=>?_) (fun hbd=>?_)
          · have hbd : s48.2 = true := by simpa using hbd
            ((conv=>whnf);repeat(first|(refine mvT ?_;conv=>whnf)|(refine mvF ?_;conv=>whnf)|(refine cT (by rfl) ?_;conv=>whnf)|(refine cF (by rfl) ?_;conv=>whnf)))
            refine Does.mono (Complete_does ((HT.laid HA47 hL hp1).ext H.now fun f => f) H.rd) ?_
            rintro r _ ⟨rfl, rfl⟩
            ((conv=>whnf);repeat(first|(refine mvT ?_;conv=>whnf)|(refine mvF ?_;conv=>whnf)|(refine cT (by rfl) ?_;conv=>whnf)|(refine cF (by rfl) ?_;conv=>whnf)))
            rw [if_pos hbd]
            refine RdPost.fell (hup0 ?_) ((HT.ext0 HA47).tr0 H.now)
            rw [tail_yes (rdField3.trans hr1) ⟨by decide, has_all hv⟩, tail_yes (rdField2.trans hr3) ⟨by decide, has_all hv⟩, tail_yes ((rdField_list _ _ _ _ _ _ _ _ _ _ _).trans hr44) ⟨by decide, has_all hv⟩, tail_tag (f := (.mk 11 0 (-1) (-1) 0 0 10 dFetchSnapshotResponseNodeEndpoint)) (by decide), tail_run (by decide) hc hrun]
            exact rdTgX_fell hu1 hu2 hsp rfl (field_len hln48 hbd)
          have hbd : s48.2 = false := by simpa using hbd
          clear hbd
          ((conv=>whnf);repeat(first|(refine mvT ?_;conv=>whnf)|(refine mvF ?_;conv=>whnf)|(refine cT (by rfl) ?_;conv=>whnf)|(refine cF (by rfl) ?_;conv=>whnf)))
          refine cut0_slice hna hqa ?_
          ((conv=>whnf);repeat(first|(refine mvT ?_;conv=>whnf)|(refine mvF ?_;conv=>whnf)|(refine cT (by rfl) ?_;conv=>whnf)|(refine cF (by rfl) ?_;conv=>whnf)))
          refine VC.cutE (fun a : Value => [(48, .int .i32 n48), (47, a), (0, .pointer (some ⟨p, 0, none⟩)), (2, .bool false), (7, .pointer (some ⟨pb, 0, none⟩)), (8, .int .i16 v), (9, .bool fx), (10, .pointer (some ⟨p, 0, none⟩)), (43, .int .u32 ((j + 1 : Nat) : Int)), (45, .pointer (some ⟨pb48, 0, none⟩))]) (fun a w' => TagI w1_48 G0 pb pb48 108 [.int .i32 0, str [], .int .u16 0, .map none] (elR 8 v fx 10 dFetchSnapshotResponseNodeEndpoint) (elQ true 8 10 dFetchSnapshotResponseNodeEndpoint) s48 n48 (decide (n48 ≤ 0)) (.slice qa na ca) a 0 w') ?_ ?_
          · refine cI (by rfl) (fun hps=>?_) (fun hps=>?_)
            · have hps : 0 < n48 := by have := of_decide_eq_true hps; omega
              ((conv=>whnf);repeat(first|(refine mvT ?_;conv=>whnf)|(refine mvF ?_;conv=>whnf)|(refine cT (by rfl) ?_;conv=>whnf)|(refine cF (by rfl) ?_;conv=>whnf)))
              refine TagI.grow (rd := elR 8 v fx 10 dFetchSnapshotResponseNodeEndpoint) (R := elQ true 8 10 dFetchSnapshotResponseNodeEndpoint) H hown hA47.old hps hn48.2 (by decide) rfl rfl (by decide) ?_
              intro a w H
              ((conv=>whnf);repeat(first|(refine mvT ?_;conv=>whnf)|(refine mvF ?_;conv=>whnf)|(refine cT (by rfl) ?_;conv=>whnf)|(refine cF (by rfl) ?_;conv=>whnf)))
              exact ⟨_, ⟨rfl, rfl, rfl, rfl, rfl, rfl, rfl, rfl, rfl, rfl, trivial⟩, by rw [show (decide (n48 ≤ 0)) = false by simp; omega]; exact H⟩
            · have hps : n48 ≤ 0 := by have := of_decide_eq_false hps; omega
              ((conv=>whnf);repeat(first|(refine mvT ?_;conv=>whnf)|(refine mvF ?_;conv=>whnf)|(refine cT (by rfl) ?_;conv=>whnf)|(refine cF (by rfl) ?_;conv=>whnf)))
              exact ⟨_, ⟨rfl, rfl, rfl, rfl, rfl, rfl, rfl, rfl, rfl, rfl, trivial⟩, TagI.none hps (decide_eq_true hps) H⟩
          clear H
          rintro a48 w H
          ((conv=>whnf);repeat(first|(refine mvT ?_;conv=>whnf)|(refine mvF ?_;conv=>whnf)|(refine cT (by rfl) ?_;conv=>whnf)|(refine cF (by rfl) ?_;conv=>whnf)))
          refine VL.loop (fun i : Nat => [(48, .int .i32 n48), (47, a48), (49, .int .i32 i), (0, .pointer (some ⟨p, 0, none⟩)), (2, .bool false), (7, .pointer (some ⟨pb, 0, none⟩)), (8, .int .i16 v), (9, .bool fx), (10, .pointer (some ⟨p, 0, none⟩)), (43, .int .u32 ((j + 1 : Nat) : Int)), (45, .pointer (some ⟨pb48, 0, none⟩))]) (fun i w' => i ≤ 2147483647 ∧ TagI w1_48 G0 pb pb48 108 [.int .i32 0, str [], .int .u16 0, .map none] (elR 8 v fx 10 dFetchSnapshotResponseNodeEndpoint) (elQ true 8 10 dFetchSnapshotResponseNodeEndpoint) s48 n48 (decide (n48 ≤ 0)) (.slice qa na ca) a48 i w') (fun i => n48.toNat - i) 0 ⟨rfl, rfl, rfl, rfl, rfl, rfl, rfl, rfl, rfl, rfl, rfl, trivial⟩ ⟨by decide, H⟩ ?_
          clear H
          rintro i48 w ⟨hi48, H⟩
          ((conv=>whnf);repeat(first|(refine mvT ?_;conv=>whnf)|(refine mvF ?_;conv=>whnf)|(refine cT (by rfl) ?_;conv=>whnf)|(refine cF (by rfl) ?_;conv=>whnf)))
          refine cI (by rfl) (fun h9=>?_) (fun h9=>?_)
          · have hlt48 : (i48 : Int) < n48 := of_decide_eq_true h9
            obtain ⟨p48, g48, cap48, post48, rfl, hgo48, HI⟩ := H.go hlt48
            obtain ⟨es48, ts48, si48, hes48, hez48, hrn48, hts48, hlen1, H⟩ := HI.open hgo48.2.2.2.2
            obtain ⟨P48, hP48⟩ : ∃ P : World → Prop, P = fun w => (∀ (j : Nat) (c : List Value) (y : T), es48[j]? = some c → ts48[j]? = some y → elQ true 8 10 dFetchSnapshotResponseNodeEndpoint ⟨w, FG w1_48 G0⟩ c y) ∧ Ext (OwnB (.slice qa na ca)) w1_48 w := ⟨_, rfl⟩
            replace H : St w1_48 G0 p48 pb48 si48 ((g48, 108, es48.flatten ++ [.int .i32 0, str [], .int .u16 0, .map none] ++ ((List.replicate (n48.toNat - (i48 + 1)) [.int .i32 0, str [], .int .u16 0, .map none]).flatten ++ post48)) :: []) P48 w := by rw [hP48]; exact H
            ((conv=>whnf);repeat(first|(refine mvT ?_;conv=>whnf)|(refine mvF ?_;conv=>whnf)|(refine cT (by rfl) ?_;conv=>whnf)|(refine cF (by rfl) ?_;conv=>whnf)))
            refine ⟨g48, 0, rfl, ⟨by omega, by omega⟩, ?_⟩
            ((conv=>whnf);repeat(first|(refine mvT ?_;conv=>whnf)|(refine mvF ?_;conv=>whnf)|(refine cT (by rfl) ?_;conv=>whnf)|(refine cF (by rfl) ?_;conv=>whnf)))
            refine Does.mono (dfFetchSnapshotResponseNodeEndpoint (pre := es48.flatten) (cur := [.int .i32 0, str [], .int .u16 0, .map none]) (post := ((List.replicate (n48.toNat - (i48 + 1)) [.int .i32 0, str [], .int .u16 0, .map none]).flatten ++ post48)) H.head (by first | (rw [hlen1]; simp; done) | (simp [hlen1]; done) | (simp [hlen1]; omega)) rfl) ?_
            rintro rd w2 ⟨hdf, hxd⟩
            replace H := H.put hdf hxd
            clear hdf hxd
            replace H : St w1_48 G0 p48 pb48 si48 ((g48, 108, es48.flatten ++ [.int .i32 0, str [], .int .u16 0, .map none] ++ ((List.replicate (n48.toNat - (i48 + 1)) [.int .i32 0, str [], .int .u16 0, .map none]).flatten ++ post48)) :: []) P48 w2 := H
            ((conv=>whnf);repeat(first|(refine mvT ?_;conv=>whnf)|(refine mvF ?_;conv=>whnf)|(refine cT (by rfl) ?_;conv=>whnf)|(refine cF (by rfl) ?_;conv=>whnf)))
            refine VC.cutE (fun q : Int × Rd => [(0, .pointer (some ⟨p, 0, none⟩)), (2, .bool false), (7, .pointer (some ⟨pb, 0, none⟩)), (8, .int .i16 v), (9, .bool fx), (10, .pointer (some ⟨p, 0, none⟩)), (43, .int .u32 ((j + 1 : Nat) : Int)), (45, .pointer (some ⟨pb48, 0, none⟩)), (48, .int .i32 n48), (47, .slice (some ⟨g48, 0, none⟩) n48.toNat cap48), (49, .int .i32 i48), (50, .pointer (some ⟨g48, 0 + (i48 : Int).toNat * 4, none⟩)), (51, .pointer (some ⟨g48, 0 + (i48 : Int).toNat * 4, none⟩))]) (fun q w' => IntKind.i32.wrap q.1 = q.1 ∧ (if hasF (.mk 3 1 (-1) (-1) (-1) 0 0 []) v = true then rdField 8 v fx (.mk 3 1 (-1) (-1) (-1) 0 0 []) si48 else (dfT 8 (.mk 3 1 (-1) (-1) (-1) 0 0 []), si48)) = (numT q.1, q.2) ∧ St w1_48 G0 p48 pb48 q.2 ((g48, 108, es48.flatten ++ [.int .i32 q.1, str [], .int .u16 0, .map none] ++ ((List.replicate (n48.toNat - (i48 + 1)) [.int .i32 0, str [], .int .u16 0, .map none]).flatten ++ post48)) :: []) P48 w') ?_ ?_
            · refine cI (by rfl) (fun hcv=>?_) (fun hcv=>?_)
              · ((conv=>whnf);repeat(first|(refine mvT ?_;conv=>whnf)|(refine mvF ?_;conv=>whnf)|(refine cT (by rfl) ?_;conv=>whnf)|(refine cF (by rfl) ?_;conv=>whnf)))
                refine Does.mono H.int32 ?_
                rintro r w ⟨n50, s50, rfl, hn50, hr50, H⟩
                ((conv=>whnf);repeat(first|(refine mvT ?_;conv=>whnf)|(refine mvF ?_;conv=>whnf)|(refine cT (by rfl) ?_;conv=>whnf)|(refine cF (by rfl) ?_;conv=>whnf)))
                refine H.st1 (v := .int .i32 n50) 0 (rfl) (rfl) rfl (by first | omega | (simp [hlen1]; done) | (simp [hlen1]; omega)) rfl (Nat.lt_of_lt_of_le (Nat.lt_succ_self _) (Nat.le_of_ble_eq_true rfl)) ?_
                intro w H
                ((conv=>whnf);repeat(first|(refine mvT ?_;conv=>whnf)|(refine mvF ?_;conv=>whnf)|(refine cT (by rfl) ?_;conv=>whnf)|(refine cF (by rfl) ?_;conv=>whnf)))
                replace H : St w1_48 G0 p48 pb48 s50 ((g48, 108, es48.flatten ++ [.int .i32 n50, str [], .int .u16 0, .map none] ++ ((List.replicate (n48.toNat - (i48 + 1)) [.int .i32 0, str [], .int .u16 0, .map none]).flatten ++ post48)) :: []) P48 w := H
                have hh : hasF (.mk 3 1 (-1) (-1) (-1) 0 0 []) v = true := by have := of_decide_eq_true hcv; rw [hasF_iff]; omega
                exact ⟨(n50, s50), ⟨rfl, rfl, rfl, rfl, rfl, rfl, rfl, rfl, rfl, rfl, rfl, rfl, rfl, trivial⟩, hn50, by rw [if_pos hh]; exact (rdField3.trans hr50), H⟩
              · ((conv=>whnf);repeat(first|(refine mvT ?_;conv=>whnf)|(refine mvF ?_;conv=>whnf)|(refine cT (by rfl) ?_;conv=>whnf)|(refine cF (by rfl) ?_;conv=>whnf)))
                have hh : ¬ hasF (.mk 3 1 (-1) (-1) (-1) 0 0 []) v = true := by have := of_decide_eq_false hcv; rw [hasF_iff]; omega
                exact ⟨(0, si48), ⟨rfl, rfl, rfl, rfl, rfl, rfl, rfl, rfl, rfl, rfl, rfl, rfl, rfl, trivial⟩, rfl, by rw [if_neg hh]; rfl, H⟩
            clear H
            rintro ⟨n49, s49⟩ w ⟨hn49, hr49, H⟩
            dsimp only at hn49 hr49 H
            ((conv=>whnf);repeat(first|(refine mvT ?_;conv=>whnf)|(refine mvF ?_;conv=>whnf)|(refine cT (by rfl) ?_;conv=>whnf)|(refine cF (by rfl) ?_;conv=>whnf)))
            replace H : St w1_48 G0 p48 pb48 s49 ((g48, 108, es48.flatten ++ [.int .i32 n49, str [], .int .u16 0, .map none] ++ ((List.replicate (n48.toNat - (i48 + 1)) [.int .i32 0, str [], .int .u16 0, .map none]).flatten ++ post48)) :: []) P48 w := H
            refine VC.cutE (fun q : List UInt8 × Rd => [(0, .pointer (some ⟨p, 0, none⟩)), (2, .bool false), (7, .pointer (some ⟨pb, 0, none⟩)), (8, .int .i16 v), (9, .bool fx), (10, .pointer (some ⟨p, 0, none⟩)), (43, .int .u32 ((j + 1 : Nat) : Int)), (45, .pointer (some ⟨pb48, 0, none⟩)), (48, .int .i32 n48), (47, .slice (some ⟨g48, 0, none⟩) n48.toNat cap48), (49, .int .i32 i48), (50, .pointer (some ⟨g48, 0 + (i48 : Int).toNat * 4, none⟩)), (51, .pointer (some ⟨g48, 0 + (i48 : Int).toNat * 4, none⟩))]) (fun q w' => (if hasF (.mk 8 1 (-1) (-1) (-1) 0 0 []) v = true then rdField 8 v fx (.mk 8 1 (-1) (-1) (-1) 0 0 []) s49 else (dfT 8 (.mk 8 1 (-1) (-1) (-1) 0 0 []), s49)) = (.mk 0 q.1 false [] [], q.2) ∧ St w1_48 G0 p48 pb48 q.2 ((g48, 108, es48.flatten ++ [.int .i32 n49, str q.1, .int .u16 0, .map none] ++ ((List.replicate (n48.toNat - (i48 + 1)) [.int .i32 0, str [], .int .u16 0, .map none]).flatten ++ post48)) :: []) P48 w') ?_ ?_
            · refine cI (by rfl) (fun hcv=>?_) (fun hcv=>?_)
              · ((conv=>whnf);repeat(first|(refine mvT ?_;conv=>whnf)|(refine mvF ?_;conv=>whnf)|(refine cT (by rfl) ?_;conv=>whnf)|(refine cF (by rfl) ?_;conv=>whnf)))
                (refine mvB ?_;((conv=>whnf);repeat(first|(refine mvT ?_;conv=>whnf)|(refine mvF ?_;conv=>whnf)|(refine cT (by rfl) ?_;conv=>whnf)|(refine cF (by rfl) ?_;conv=>whnf))))
                refine VC.cutE (fun q : List UInt8 × Rd => [(53, str q.1), (0, .pointer (some ⟨p, 0, none⟩)), (2, .bool false), (7, .pointer (some ⟨pb, 0, none⟩)), (8, .int .i16 v), (9, .bool fx), (10, .pointer (some ⟨p, 0, none⟩)), (43, .int .u32 ((j + 1 : Nat) : Int)), (45, .pointer (some ⟨pb48, 0, none⟩)), (48, .int .i32 n48), (47, .slice (some ⟨g48, 0, none⟩) n48.toNat cap48), (49, .int .i32 i48), (50, .pointer (some ⟨g48, 0 + (i48 : Int).toNat * 4, none⟩)), (51, .pointer (some ⟨g48, 0 + (i48 : Int).toNat * 4, none⟩))]) (fun q w' => rdTx fx s49 = q ∧ St w1_48 G0 p48 pb48 q.2 ((g48, 108, es48.flatten ++ [.int .i32 n49, str [], .int .u16 0, .map none] ++ ((List.replicate (n48.toNat - (i48 + 1)) [.int .i32 0, str [], .int .u16 0, .map none]).flatten ++ post48)) :: []) P48 w') ?_ ?_
                · refine cI (by rfl) (fun hc=>?_) (fun hc=>?_)
                  · ((conv=>whnf);repeat(first|(refine mvT ?_;conv=>whnf)|(refine mvF ?_;conv=>whnf)|(refine cT (by rfl) ?_;conv=>whnf)|(refine cF (by rfl) ?_;conv=>whnf)))
                    refine Does.mono H.txc ?_
                    rintro r w ⟨u, s', rfl, hr, H⟩
                    ((conv=>whnf);repeat(first|(refine mvT ?_;conv=>whnf)|(refine mvF ?_;conv=>whnf)|(refine cT (by rfl) ?_;conv=>whnf)|(refine cF (by rfl) ?_;conv=>whnf)))
                    exact ⟨(u, s'), ⟨rfl, rfl, rfl, rfl, rfl, rfl, rfl, rfl, rfl, rfl, rfl, rfl, rfl, rfl, trivial⟩, by rw [hc]; exact hr, H⟩
                  · ((conv=>whnf);repeat(first|(refine mvT ?_;conv=>whnf)|(refine mvF ?_;conv=>whnf)|(refine cT (by rfl) ?_;conv=>whnf)|(refine cF (by rfl) ?_;conv=>whnf)))
                    refine Does.mono H.txp ?_
                    rintro r w ⟨u, s', rfl, hr, H⟩
                    ((conv=>whnf);repeat(first|(refine mvT ?_;conv=>whnf)|(refine mvF ?_;conv=>whnf)|(refine cT (by rfl) ?_;conv=>whnf)|(refine cF (by rfl) ?_;conv=>whnf)))
                    exact ⟨(u, s'), ⟨rfl, rfl, rfl, rfl, rfl, rfl, rfl, rfl, rfl, rfl, rfl, rfl, rfl, rfl, trivial⟩, by rw [hc]; exact hr, H⟩
                clear H
                rintro ⟨u53, s53⟩ w ⟨hr53, H⟩
                dsimp only at hr53 H
                ((conv=>whnf);repeat(first|(refine mvT ?_;conv=>whnf)|(refine mvF ?_;conv=>whnf)|(refine cT (by rfl) ?_;conv=>whnf)|(refine cF (by rfl) ?_;conv=>whnf)))
                refine H.st1 (v := str u53) 1 (rfl) (rfl) rfl (by first | omega | (simp [hlen1]; done) | (simp [hlen1]; omega)) rfl (Nat.lt_of_lt_of_le (Nat.lt_succ_self _) (Nat.le_of_ble_eq_true rfl)) ?_
                intro w H
                ((conv=>whnf);repeat(first|(refine mvT ?_;conv=>whnf)|(refine mvF ?_;conv=>whnf)|(refine cT (by rfl) ?_;conv=>whnf)|(refine cF (by rfl) ?_;conv=>whnf)))
                replace H : St w1_48 G0 p48 pb48 s53 ((g48, 108, es48.flatten ++ [.int .i32 n49, str u53, .int .u16 0, .map none] ++ ((List.replicate (n48.toNat - (i48 + 1)) [.int .i32 0, str [], .int .u16 0, .map none]).flatten ++ post48)) :: []) P48 w := H
                have hh : hasF (.mk 8 1 (-1) (-1) (-1) 0 0 []) v = true := by have := of_decide_eq_true hcv; rw [hasF_iff]; omega
                exact ⟨(u53, s53), ⟨rfl, rfl, rfl, rfl, rfl, rfl, rfl, rfl, rfl, rfl, rfl, rfl, rfl, trivial⟩, by rw [if_pos hh]; exact (rdField8 (by decide) hr53), H⟩
              · ((conv=>whnf);repeat(first|(refine mvT ?_;conv=>whnf)|(refine mvF ?_;conv=>whnf)|(refine cT (by rfl) ?_;conv=>whnf)|(refine cF (by rfl) ?_;conv=>whnf)))
                have hh : ¬ hasF (.mk 8 1 (-1) (-1) (-1) 0 0 []) v = true := by have := of_decide_eq_false hcv; rw [hasF_iff]; omega
                exact ⟨([], s49), ⟨rfl, rfl, rfl, rfl, rfl, rfl, rfl, rfl, rfl, rfl, rfl, rfl, rfl, trivial⟩, by rw [if_neg hh]; rfl, H⟩
            clear H
            rintro ⟨u52, s52⟩ w ⟨hr52, H⟩
            dsimp only at hr52 H
            ((conv=>whnf);repeat(first|(refine mvT ?_;conv=>whnf)|(refine mvF ?_;conv=>whnf)|(refine cT (by rfl) ?_;conv=>whnf)|(refine cF (by rfl) ?_;conv=>whnf)))
            replace H : St w1_48 G0 p48 pb48 s52 ((g48, 108, es48.flatten ++ [.int .i32 n49, str u52, .int .u16 0, .map none] ++ ((List.replicate (n48.toNat - (i48 + 1)) [.int .i32 0, str [], .int .u16 0, .map none]).flatten ++ post48)) :: []) P48 w := H
            refine VC.cutE (fun q : Int × Rd => [(0, .pointer (some ⟨p, 0, none⟩)), (2, .bool false), (7, .pointer (some ⟨pb, 0, none⟩)), (8, .int .i16 v), (9, .bool fx), (10, .pointer (some ⟨p, 0, none⟩)), (43, .int .u32 ((j + 1 : Nat) : Int)), (45, .pointer (some ⟨pb48, 0, none⟩)), (48, .int .i32 n48), (47, .slice (some ⟨g48, 0, none⟩) n48.toNat cap48), (49, .int .i32 i48), (50, .pointer (some ⟨g48, 0 + (i48 : Int).toNat * 4, none⟩)), (51, .pointer (some ⟨g48, 0 + (i48 : Int).toNat * 4, none⟩))]) (fun q w' => IntKind.u16.wrap q.1 = q.1 ∧ (if hasF (.mk 5 1 (-1) (-1) (-1) 0 0 []) v = true then rdField 8 v fx (.mk 5 1 (-1) (-1) (-1) 0 0 []) s52 else (dfT 8 (.mk 5 1 (-1) (-1) (-1) 0 0 []), s52)) = (numT q.1, q.2) ∧ St w1_48 G0 p48 pb48 q.2 ((g48, 108, es48.flatten ++ [.int .i32 n49, str u52, .int .u16 q.1, .map none] ++ ((List.replicate (n48.toNat - (i48 + 1)) [.int .i32 0, str [], .int .u16 0, .map none]).flatten ++ post48)) :: []) P48 w') ?_ ?_
            · refine cI (by rfl) (fun hcv=>?_) (fun hcv=>?_)
              · ((conv=>whnf);repeat(first|(refine mvT ?_;conv=>whnf)|(refine mvF ?_;conv=>whnf)|(refine cT (by rfl) ?_;conv=>whnf)|(refine cF (by rfl) ?_;conv=>whnf)))
                refine Does.mono H.uint16 ?_
                rintro r w ⟨n56, s56, rfl, hn56, hr56, H⟩
                ((conv=>whnf);repeat(first|(refine mvT ?_;conv=>whnf)|(refine mvF ?_;conv=>whnf)|(refine cT (by rfl) ?_;conv=>whnf)|(refine cF (by rfl) ?_;conv=>whnf)))
                refine H.st1 (v := .int .u16 n56) 2 (rfl) (rfl) rfl (by first | omega | (simp [hlen1]; done) | (simp [hlen1]; omega)) rfl (Nat.lt_of_lt_of_le (Nat.lt_succ_self _) (Nat.le_of_ble_eq_true rfl)) ?_
                intro w H
                ((conv=>whnf);repeat(first|(refine mvT ?_;conv=>whnf)|(refine mvF ?_;conv=>whnf)|(refine cT (by rfl) ?_;conv=>whnf)|(refine cF (by rfl) ?_;conv=>whnf)))
                replace H : St w1_48 G0 p48 pb48 s56 ((g48, 108, es48.flatten ++ [.int .i32 n49, str u52, .int .u16 n56, .map none] ++ ((List.replicate (n48.toNat - (i48 + 1)) [.int .i32 0, str [], .int .u16 0, .map none]).flatten ++ post48)) :: []) P48 w := H
                have hh : hasF (.mk 5 1 (-1) (-1) (-1) 0 0 []) v = true := by have := of_decide_eq_true hcv; rw [hasF_iff]; omega
                exact ⟨(n56, s56), ⟨rfl, rfl, rfl, rfl, rfl, rfl, rfl, rfl, rfl, rfl, rfl, rfl, rfl, trivial⟩, hn56, by rw [if_pos hh]; exact (rdField5.trans hr56), H⟩
              · ((conv=>whnf);repeat(first|(refine mvT ?_;conv=>whnf)|(refine mvF ?_;conv=>whnf)|(refine cT (by rfl) ?_;conv=>whnf)|(refine cF (by rfl) ?_;conv=>whnf)))
                have hh : ¬ hasF (.mk 5 1 (-1) (-1) (-1) 0 0 []) v = true := by have := of_decide_eq_false hcv; rw [hasF_iff]; omega
                exact ⟨(0, s52), ⟨rfl, rfl, rfl, rfl, rfl, rfl, rfl, rfl, rfl, rfl, rfl, rfl, rfl, trivial⟩, rfl, by rw [if_neg hh]; rfl, H⟩
            clear H
            rintro ⟨n55, s55⟩ w ⟨hn55, hr55, H⟩
            dsimp only at hn55 hr55 H
            ((conv=>whnf);repeat(first|(refine mvT ?_;conv=>whnf)|(refine mvF ?_;conv=>whnf)|(refine cT (by rfl) ?_;conv=>whnf)|(refine cF (by rfl) ?_;conv=>whnf)))
            replace H : St w1_48 G0 p48 pb48 s55 ((g48, 108, es48.flatten ++ [.int .i32 n49, str u52, .int .u16 n55, .map none] ++ ((List.replicate (n48.toNat - (i48 + 1)) [.int .i32 0, str [], .int .u16 0, .map none]).flatten ++ post48)) :: []) P48 w := H
            (refine mvB ?_;((conv=>whnf);repeat(first|(refine mvT ?_;conv=>whnf)|(refine mvF ?_;conv=>whnf)|(refine cT (by rfl) ?_;conv=>whnf)|(refine cF (by rfl) ?_;conv=>whnf))))
            refine VC.cutB (fun q : Value × List Tg × Rd => [(0, .pointer (some ⟨p, 0, none⟩)), (2, .bool false), (7, .pointer (some ⟨pb, 0, none⟩)), (8, .int .i16 v), (9, .bool fx), (10, .pointer (some ⟨p, 0, none⟩)), (43, .int .u32 ((j + 1 : Nat) : Int)), (45, .pointer (some ⟨pb48, 0, none⟩)), (48, .int .i32 n48), (47, .slice (some ⟨g48, 0, none⟩) n48.toNat cap48), (49, .int .i32 i48), (50, .pointer (some ⟨g48, 0 + (i48 : Int).toNat * 4, none⟩)), (51, .pointer (some ⟨g48, 0 + (i48 : Int).toNat * 4, none⟩))]) (fun q w' => rdTagsF fx s55 = q.2 ∧ St w1_48 G0 p48 pb48 q.2.2 ((g48, 108, es48.flatten ++ [.int .i32 n49, str u52, .int .u16 n55, q.1] ++ ((List.replicate (n48.toNat - (i48 + 1)) [.int .i32 0, str [], .int .u16 0, .map none]).flatten ++ post48)) :: []) (fun w => TGf w1_48 G0 q.1 q.2.1 w ∧ P48 w) w') ?_ ?_
            · refine cI (by rfl) (fun hc=>?_) (fun hc=>?_)
              · ((conv=>whnf);repeat(first|(refine mvT ?_;conv=>whnf)|(refine mvF ?_;conv=>whnf)|(refine cT (by rfl) ?_;conv=>whnf)|(refine cF (by rfl) ?_;conv=>whnf)))
                refine Does.mono H.tags ?_
                rintro r w ⟨m, u, s', rfl, hone, hr, H⟩
                ((conv=>whnf);repeat(first|(refine mvT ?_;conv=>whnf)|(refine mvF ?_;conv=>whnf)|(refine cT (by rfl) ?_;conv=>whnf)|(refine cF (by rfl) ?_;conv=>whnf)))
                refine H.st1 (v := m) 3 (rfl) (hone) rfl (by first | omega | (simp [hlen1]; done) | (simp [hlen1]; omega)) rfl (Nat.lt_of_lt_of_le (Nat.lt_succ_self _) (Nat.le_of_ble_eq_true rfl)) ?_
                intro w H
                ((conv=>whnf);repeat(first|(refine mvT ?_;conv=>whnf)|(refine mvF ?_;conv=>whnf)|(refine cT (by rfl) ?_;conv=>whnf)|(refine cF (by rfl) ?_;conv=>whnf)))
                exact ⟨(m, u, s'), ⟨rfl, rfl, rfl, rfl, rfl, rfl, rfl, rfl, rfl, rfl, rfl, rfl, rfl, trivial⟩, by rw [rdTagsF, if_pos hc]; exact hr, H⟩
              · ((conv=>whnf);repeat(first|(refine mvT ?_;conv=>whnf)|(refine mvF ?_;conv=>whnf)|(refine cT (by rfl) ?_;conv=>whnf)|(refine cF (by rfl) ?_;conv=>whnf)))
                exact ⟨(.map none, [], s55), ⟨rfl, rfl, rfl, rfl, rfl, rfl, rfl, rfl, rfl, rfl, rfl, rfl, rfl, trivial⟩, by rw [rdTagsF, if_neg (by rw [hc]; decide)], H.add fun w' _ => TagsR.nil _ _⟩
            clear H
            rintro ⟨m58, u58, s58⟩ w ⟨htg, H⟩
            dsimp only at htg H
            ((conv=>whnf);repeat(first|(refine mvT ?_;conv=>whnf)|(refine mvF ?_;conv=>whnf)|(refine cT (by rfl) ?_;conv=>whnf)|(refine cF (by rfl) ?_;conv=>whnf)))
            obtain ⟨P59, hP59⟩ : ∃ P : World → Prop, P = fun w => TGf w1_48 G0 m58 u58 w ∧ P48 w := ⟨_, rfl⟩
            replace H : St w1_48 G0 p48 pb48 s58 ((g48, 108, es48.flatten ++ [.int .i32 n49, str u52, .int .u16 n55, m58] ++ ((List.replicate (n48.toNat - (i48 + 1)) [.int .i32 0, str [], .int .u16 0, .map none]).flatten ++ post48)) :: []) P59 w := by rw [hP59]; exact H
            have hpart : rdPart 8 v fx dFetchSnapshotResponseNodeEndpoint si48 = (.mk 0 [] false [numT n49, .mk 0 u52 false [] [], numT n55] u58, s58) := by
              unfold rdPart rdPartW
              rw [rdTail_plain (by decide)]
              rw [rdAll_ver hr49 (by decide), rdAll_ver hr52 (by decide), rdAll_ver hr55 (by decide)]
              simp only [rdAll]
              rw [htg]
            refine ⟨i48 + 1, ⟨rfl, rfl, ?_, rfl, rfl, rfl, rfl, rfl, rfl, rfl, rfl, trivial⟩, ⟨by omega, TagI.back hgo48 (LoopI.next hes48 hez48 hrn48 hts48 (cur := [.int .i32 n49, str u52, .int .u16 n55, m58]) (x := .mk 0 [] false [numT n49, .mk 0 u52 false [] [], numT n55] u58) (hpart) rfl H fun w hP => ?_)⟩, by omega⟩
            · show some (Value.int .i32 _) = _
              rw [IntKind.wrap_i32]
              simp only [Option.some.injEq, Value.int.injEq, true_and]
              omega
            · skip
              rw [hP59] at hP
              obtain ⟨hf59_, hP⟩ := hP
              rw [hP48] at hP
              exact ⟨QPt (QA1 (QF3 hn49) (QA1 (QF8 (by decide) u52) (QA1 (QF5 hn55) (QA0)))) hf59_, hP⟩
          · skip
            have hge48 : ¬ (i48 : Int) < n48 := of_decide_eq_false h9
            have hsA1 := HT.ext.size
            obtain ⟨l60, s60, hone60, hl60, hr60, hrd, hx1, hownN, hob, hlist⟩ := H.done hge48 hln48 (nl := nlF (.mk 11 0 (-1) (-1) 0 0 10 dFetchSnapshotResponseNodeEndpoint) v) rfl rfl (elQ_later 8 10 dFetchSnapshotResponseNodeEndpoint) hown hsA1
            ((conv=>whnf);repeat(first|(refine mvT ?_;conv=>whnf)|(refine mvF ?_;conv=>whnf)|(refine cT (by rfl) ?_;conv=>whnf)|(refine cF (by rfl) ?_;conv=>whnf)))
            have howq := HT.ownq hA47 hx1 fun k h => (hown.lt k h).1
            refine stm howq (v := a48) 4 (cells_one hone60) hone60 rfl (by simp) rfl (Nat.lt_of_lt_of_le (Nat.lt_succ_self _) (Nat.le_of_ble_eq_true rfl)) ?_
            obtain ⟨w5, rfl⟩ : ∃ x, x = w := ⟨w, rfl⟩
            intro w ho hx2
            ((conv=>whnf);repeat(first|(refine mvT ?_;conv=>whnf)|(refine mvF ?_;conv=>whnf)|(refine cT (by rfl) ?_;conv=>whnf)|(refine cF (by rfl) ?_;conv=>whnf)))
            have hx := (hx1.mono (M' := fun k => OwnB (.slice qa na ca) k ∨ k = p) fun _ _ h => .inl h).trans hx2 fun k _ h => .inr h
            have hoth : ∀ c, c ∈ [m] → ∀ k, OwnB c k → wA47.heap.size ≤ k ∧ k < w1_48.heap.size := fun c hc k hk => by
                simp only [List.mem_cons, List.not_mem_nil, or_false] at hc
                rcases hc with rfl
                · exact HT.tagb k hk
            have hnew : Slot w wA47 G0 9 (.mk 11 0 (-1) (-1) 0 0 10 dFetchSnapshotResponseNodeEndpoint) 108 4 [m] [a48] (.mk 0 [] ((decide (n48 ≤ 0)) && (xc0).nl) l60 []) := Slot.read hA47 (QF11 hl60 hlist) (fun _ => ⟨_, rfl, hownN, hob⟩) hsep hoth hsA1 (fun k h => (hown.lt k h).1) hx2
            have HT2 : TgS wA47 G0 pb p ty [] [.int .i16 v, .int .i32 n1, .int .i16 n3, a5, a48, m] [] [] st3 m u (fun m w => Slot w wA47 G0 9 (.mk 11 0 (-1) (-1) 0 0 10 dFetchSnapshotResponseNodeEndpoint) 108 4 [m] [a48] (.mk 0 [] ((decide (n48 ≤ 0)) && (xc0).nl) l60 [])) w := HT.put hA47 hx ho (fun k h => ⟨(hown.lt k h).1, hsep m (by simp) k h⟩) (hnew) (fun w w' m m' h hx hm => (Slot.clo hA47 (h) hx hm))
            have hfield : rdField 9 v fx (.mk 11 0 (-1) (-1) 0 0 10 dFetchSnapshotResponseNodeEndpoint) (bb, false) = (.mk 0 [] (decide (n48 ≤ 0)) l60 [], s60) := (rdField_list _ _ _ _ _ _ _ _ _ _ _).trans hr60
            refine Does.mono (Complete_does (HT2.laid HA47 hL hp1) (HT.rd2 hA47 hpb hrd hx2)) ?_
            rintro r _ ⟨hr9, rfl⟩
            cases hbd9 : s60.2 with
            | true =>
              rw [hbd9, if_pos rfl] at hr9
              obtain ⟨te, xe, hev⟩ := hL.iface
              rw [hev] at hr9
              subst hr9
              ((conv=>whnf);repeat(first|(refine mvT ?_;conv=>whnf)|(refine mvF ?_;conv=>whnf)|(refine cT (by rfl) ?_;conv=>whnf)|(refine cF (by rfl) ?_;conv=>whnf)))
              rw [← hev]
              refine RdPost.fell (hup0 ?_) (HT2.ext0 HA47)
              rw [tail_yes (rdField3.trans hr1) ⟨by decide, has_all hv⟩, tail_yes (rdField2.trans hr3) ⟨by decide, has_all hv⟩, tail_yes ((rdField_list _ _ _ _ _ _ _ _ _ _ _).trans hr44) ⟨by decide, has_all hv⟩, tail_tag (f := (.mk 11 0 (-1) (-1) 0 0 10 dFetchSnapshotResponseNodeEndpoint)) (by decide), tail_run (by decide) hc hrun]
              exact rdTgX_fell hu1 hu2 hsp rfl (by rw [hfield]; exact hbd9)
            | false =>
              rw [hbd9, if_neg Bool.false_ne_true] at hr9
              subst hr9
              ((conv=>whnf);repeat(first|(refine mvT ?_;conv=>whnf)|(refine mvF ?_;conv=>whnf)|(refine cT (by rfl) ?_;conv=>whnf)|(refine cF (by rfl) ?_;conv=>whnf)))
              refine ⟨j, ⟨?_, rfl, rfl, rfl, rfl, rfl, rfl, trivial⟩, ⟨st3, m, u, a48, .mk 0 [] ((decide (n48 ≤ 0)) && (xc0).nl) l60 [], rdTgX_next hrun hu1 hu2 hsp rfl hfield hbd9 (by
                show List.set _ _ (tgX _ (xc0) _) = _
                rw [tgX_list]
                rfl), by omega, HT2⟩, by omega⟩
              show some (Value.int .u32 _) = _
              rw [wrap_u32]
              simp only [Option.some.injEq, Value.int.injEq, true_and]
              omega
        · have hk0 : key ≠ 0 := by have h := hk0; simp at h; omega
          ((conv=>whnf);repeat(first|(refine mvT ?_;conv=>whnf)|(refine mvF ?_;conv=>whnf)|(refine cT (by rfl) ?_;conv=>whnf)|(refine cF (by rfl) ?_;conv=>whnf)))
          refine VD.draw mixed (.q 0 (.q 1 (.q 2 (.q 3 (.eff 4 [] (.q 5 (.eff 6 [] (.eff 7 [] (.done))))))))) (by kernel_rfl) ?_;((conv=>whnf);repeat(first|(refine mvT ?_;conv=>whnf)|(refine mvF ?_;conv=>whnf)|(refine cT (by rfl) ?_;conv=>whnf)|(refine cF (by rfl) ?_;conv=>whnf)))
          replace HT := HT.e0 (ext_drew _)
          skip
          refine Does.mono (HT.uv hA47) ?_
          rintro r w ⟨z, st2, rfl, hz, hu2, HT⟩
          ((conv=>whnf);repeat(first|(refine mvT ?_;conv=>whnf)|(refine mvF ?_;conv=>whnf)|(refine cT (by rfl) ?_;conv=>whnf)|(refine cF (by rfl) ?_;conv=>whnf)))
          rw [i64_of (n := (z : Int)) (by omega) (by omega)]
          refine Does.mono (HT.span hA47 z) ?_
          rintro r w ⟨bb, st3, hsp, hbb, HT⟩
          obtain ⟨a7, c7, rfl, _⟩ := hbb.view
          ((conv=>whnf);repeat(first|(refine mvT ?_;conv=>whnf)|(refine mvF ?_;conv=>whnf)|(refine cT (by rfl) ?_;conv=>whnf)|(refine cF (by rfl) ?_;conv=>whnf)))
          refine Does.mono (HT.set hA47 (om := 5) (key := key) (b := bb) rfl (by simp) hbb) ?_
          rintro r w ⟨m', HT⟩
          ((conv=>whnf);repeat(first|(refine mvT ?_;conv=>whnf)|(refine mvF ?_;conv=>whnf)|(refine cT (by rfl) ?_;conv=>whnf)|(refine cF (by rfl) ?_;conv=>whnf)))
          have htag : tagIx dFetchSnapshotResponse 0 key = none := tagIx_no fun f hf => by
            simp only [dFetchSnapshotResponse, List.mem_cons, List.not_mem_nil, or_false] at hf
            rcases hf with rfl | rfl | rfl | rfl <;> (simp only [Fd.tag]; omega)
          refine ⟨j, ⟨?_, rfl, rfl, rfl, rfl, rfl, rfl, trivial⟩, ⟨st3, m', _, _, _, (rdTgX_none hu1 hu2 hsp htag).symm.trans hrun, by omega, HT⟩, by omega⟩
          show some (Value.int .u32 _) = _
          rw [wrap_u32]
          simp only [Option.some.injEq, Value.int.injEq, true_and]
          omega
      · have hi0 : i = 0 := by have := of_decide_eq_false h9; omega
        subst hi0
        ((conv=>whnf);repeat(first|(refine mvT ?_;conv=>whnf)|(refine mvF ?_;conv=>whnf)|(refine cT (by rfl) ?_;conv=>whnf)|(refine cF (by rfl) ?_;conv=>whnf)))
        have H := TgS.out HA47 HT
        have H := Slot.out HA47 (HT.slots) H
        exact ⟨(m, u, st, c0_0, xc0), ⟨rfl, rfl, rfl, rfl, rfl, rfl, trivial⟩, tail_end (by decide) hc hrun, H⟩
    · ((conv=>whnf);repeat(first|(refine mvT ?_;conv=>whnf)|(refine mvF ?_;conv=>whnf)|(refine cT (by rfl) ?_;conv=>whnf)|(refine cF (by rfl) ?_;conv=>whnf)))
      have H := H.add (Q := fun w => TGf w0 G0 (.map none) [] w) fun w' _ => TagsR.nil _ _
      have H := H.add (Q := fun w => QField true 9 (.mk 11 0 (-1) (-1) 0 0 10 dFetchSnapshotResponseNodeEndpoint) ⟨w, FG w0 G0⟩ [.slice none 0 0] (.mk 0 [] true [] [])) fun w' _ => QF11 (fun _ => rfl) (.inl ⟨rfl, rfl⟩)
      exact ⟨(.map none, [], s44, .slice none 0 0, .mk 0 [] true [] []), ⟨rfl, rfl, rfl, rfl, rfl, rfl, trivial⟩, tail_none (by decide) hc, H⟩
  clear H
  rintro ⟨m61, u61, s61, t61_0_0, xt61_0⟩ w ⟨htl, H⟩
  dsimp only at htl H
  ((conv=>whnf);repeat(first|(refine mvT ?_;conv=>whnf)|(refine mvF ?_;conv=>whnf)|(refine cT (by rfl) ?_;conv=>whnf)|(refine cF (by rfl) ?_;conv=>whnf)))
  obtain ⟨P62, hP62⟩ : ∃ P : World → Prop, P = fun w => TGf w0 G0 m61 u61 w ∧ P45 w := ⟨_, rfl⟩
  obtain ⟨P63, hP63⟩ : ∃ P : World → Prop, P = fun w => QField true 9 (.mk 11 0 (-1) (-1) 0 0 10 dFetchSnapshotResponseNodeEndpoint) ⟨w, FG w0 G0⟩ [t61_0_0] (xt61_0) ∧ P62 w := ⟨_, rfl⟩
  replace H : St w0 G0 p pb s61 ((p, ty, [] ++ [.int .i16 v, .int .i32 n1, .int .i16 n3, a5, t61_0_0, m61] ++ []) :: []) P63 w := by rw [hP63, hP62]; exact H
  have hall : rdAll (rdField 9 v fx) (dfT 9) v dFetchSnapshotResponse (l, false) = ([numT n1, numT n3, .mk 0 [] (decide (n5 ≤ 0)) l44 [], .mk 0 [] true [] []], s44) := by
    rw [rdAll_yes (df := dfT 9) (rdField3.trans hr1) ⟨by decide, has_all hv⟩, rdAll_yes (df := dfT 9) (rdField2.trans hr3) ⟨by decide, has_all hv⟩, rdAll_yes (df := dfT 9) ((rdField_list _ _ _ _ _ _ _ _ _ _ _).trans hr44) ⟨by decide, has_all hv⟩, rdAll_tag (f := (.mk 11 0 (-1) (-1) 0 0 10 dFetchSnapshotResponseNodeEndpoint)) (by decide)]
    rfl
  have hpart : rdPart 9 v fx dFetchSnapshotResponse (l, false) = (.mk 0 [] false [numT n1, numT n3, .mk 0 [] (decide (n5 ≤ 0)) l44 [], xt61_0] u61, s61) := by
    simp only [rdPart, rdPartW, hall, htl]
  refine Does.mono (H.done hL hp1) ?_
  rintro r w ⟨rfl, H⟩
  ((conv=>whnf);repeat(first|(refine mvT ?_;conv=>whnf)|(refine mvF ?_;conv=>whnf)|(refine cT (by rfl) ?_;conv=>whnf)|(refine cF (by rfl) ?_;conv=>whnf)))
  refine RdPost.end hpart H fun hP => ?_
  rw [hP63] at hP
  obtain ⟨hf63_, hP⟩ := hP
  rw [hP62] at hP
  obtain ⟨hf62_, hP⟩ := hP
  rw [hP45] at hP
  obtain ⟨hf45_, hP⟩ := hP
  exact QPt (QA1 (QF3 hn1) (QA1 (QF2 hn3) (QA1 (QF11 hl44 hf45_) (QA1 (hf63_) (QA0))))) hf62_
end Go.Proofs.YtabhhkdgfdjicaaGreatDoor.K
