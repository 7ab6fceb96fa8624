/- Reading of StreamsGroupHeartbeatResponse. -/
import Derived.Test.YtepamajphjgigaaGreatDoorE5
set_option linter.unusedVariables false
set_option linter.unusedSimpArgs false
namespace Go.Proofs.YtepamajphjgigaaGreatDoor.K
open Go
set_option maxHeartbeats 4000000
set_option maxRecDepth 100000

abbrev dStreamsGroupHeartbeatResponseStatus : List Fd := [.mk 1 0 (-1) (-1) (-1) 0 0 [], .mk 8 0 (-1) (-1) (-1) 0 0 []]
abbrev dTaskIDs : List Fd := [.mk 8 0 (-1) (-1) (-1) 0 0 [], .mk 11 0 (-1) (-1) (-1) 0 3 []]
abbrev dEndpoint : List Fd := [.mk 8 0 (-1) (-1) (-1) 0 0 [], .mk 5 0 (-1) (-1) (-1) 0 0 []]
abbrev dStreamsGroupHeartbeatResponsePartitionsByUserEndpointActivePartition : List Fd := [.mk 8 0 (-1) (-1) (-1) 0 0 [], .mk 11 0 (-1) (-1) (-1) 0 3 []]
abbrev dStreamsGroupHeartbeatResponsePartitionsByUserEndpointStandbyPartition : List Fd := [.mk 8 0 (-1) (-1) (-1) 0 0 [], .mk 11 0 (-1) (-1) (-1) 0 3 []]
abbrev dStreamsGroupHeartbeatResponsePartitionsByUserEndpoint : List Fd := [.mk 10 0 (-1) (-1) (-1) 0 0 dEndpoint, .mk 11 0 (-1) (-1) (-1) 0 10 dStreamsGroupHeartbeatResponsePartitionsByUserEndpointActivePartition, .mk 11 0 (-1) (-1) (-1) 0 10 dStreamsGroupHeartbeatResponsePartitionsByUserEndpointStandbyPartition]
abbrev dStreamsGroupHeartbeatResponse : List Fd := [.mk 3 0 (-1) (-1) (-1) 0 0 [], .mk 2 0 (-1) (-1) (-1) 0 0 [], .mk 8 0 (-1) 0 (-1) 0 0 [], .mk 8 0 (-1) (-1) (-1) 0 0 [], .mk 3 0 (-1) (-1) (-1) 0 0 [], .mk 3 0 (-1) (-1) (-1) 0 0 [], .mk 3 0 0 (-1) (-1) 0 0 [], .mk 3 0 (-1) (-1) (-1) 0 0 [], .mk 4 1 (-1) (-1) (-1) (-1) 0 [], .mk 11 0 (-1) 0 (-1) 0 10 dStreamsGroupHeartbeatResponseStatus, .mk 11 0 (-1) 0 (-1) 0 10 dTaskIDs, .mk 11 0 (-1) 0 (-1) 0 10 dTaskIDs, .mk 11 0 (-1) 0 (-1) 0 10 dTaskIDs, .mk 0 1 (-1) (-1) (-1) 0 0 [], .mk 3 0 (-1) (-1) (-1) 0 0 [], .mk 11 0 (-1) 0 (-1) 0 10 dStreamsGroupHeartbeatResponsePartitionsByUserEndpoint]
theorem sStreamsGroupHeartbeatResponseStatus (w : World) : Does X.P 15 #[] w fun r w' => FdsR w' (fun k => w.heap.size ≤ k) r dStreamsGroupHeartbeatResponseStatus ∧ Ext nob w w' := by
  have hx0 : Ext nob w w := Ext.refl _ _
  refine Does.go (X := X) (l := []) Tryz.func15 rfl (by kernel_rfl) (by kernel_rfl) _ rfl ?_
  ((conv=>whnf);repeat((first|refine mvT ?_|refine mvF ?_|refine yT ?_|refine yF ?_);conv=>whnf))
  have hxs := hx0
  intro b wb hb ho hx
  have hx0 := hx0.e0 hx
  ((conv=>whnf);repeat((first|refine mvT ?_|refine mvF ?_|refine yT ?_|refine yF ?_);conv=>whnf))
  refine ⟨?_, hx0⟩
  exact FdL.fds (cs := [[.int .i64 1, .int .i64 0, .int .i64 (-1), .int .i64 (-1), .int .i64 (-1), .int .i64 0, .int .i64 0, .slice none 0 0], [.int .i64 8, .int .i64 0, .int .i64 (-1), .int .i64 (-1), .int .i64 (-1), .int .i64 0, .int .i64 0, .slice none 0 0]])
    ⟨fdLeaf _ _ _ _ _ _ _ _ _, fdLeaf _ _ _ _ _ _ _ _ _, trivial⟩ ho rfl (by decide) (by have := hxs.size; omega)
theorem sTaskIDs (w : World) : Does X.P 16 #[] w fun r w' => FdsR w' (fun k => w.heap.size ≤ k) r dTaskIDs ∧ Ext nob w w' := by
  have hx0 : Ext nob w w := Ext.refl _ _
  refine Does.go (X := X) (l := []) Tryz.func16 rfl (by kernel_rfl) (by kernel_rfl) _ rfl ?_
  ((conv=>whnf);repeat((first|refine mvT ?_|refine mvF ?_|refine yT ?_|refine yF ?_);conv=>whnf))
  have hxs := hx0
  intro b wb hb ho hx
  have hx0 := hx0.e0 hx
  ((conv=>whnf);repeat((first|refine mvT ?_|refine mvF ?_|refine yT ?_|refine yF ?_);conv=>whnf))
  refine ⟨?_, hx0⟩
  exact FdL.fds (cs := [[.int .i64 8, .int .i64 0, .int .i64 (-1), .int .i64 (-1), .int .i64 (-1), .int .i64 0, .int .i64 0, .slice none 0 0], [.int .i64 11, .int .i64 0, .int .i64 (-1), .int .i64 (-1), .int .i64 (-1), .int .i64 0, .int .i64 3, .slice none 0 0]])
    ⟨fdLeaf _ _ _ _ _ _ _ _ _, fdLeaf _ _ _ _ _ _ _ _ _, trivial⟩ ho rfl (by decide) (by have := hxs.size; omega)
theorem sEndpoint (w : World) : Does X.P 26 #[] w fun r w' => FdsR w' (fun k => w.heap.size ≤ k) r dEndpoint ∧ Ext nob w w' := by
  have hx0 : Ext nob w w := Ext.refl _ _
  refine Does.go (X := X) (l := []) Tryz.func26 rfl (by kernel_rfl) (by kernel_rfl) _ rfl ?_
  ((conv=>whnf);repeat((first|refine mvT ?_|refine mvF ?_|refine yT ?_|refine yF ?_);conv=>whnf))
  have hxs := hx0
  intro b wb hb ho hx
  have hx0 := hx0.e0 hx
  ((conv=>whnf);repeat((first|refine mvT ?_|refine mvF ?_|refine yT ?_|refine yF ?_);conv=>whnf))
  refine ⟨?_, hx0⟩
  exact FdL.fds (cs := [[.int .i64 8, .int .i64 0, .int .i64 (-1), .int .i64 (-1), .int .i64 (-1), .int .i64 0, .int .i64 0, .slice none 0 0], [.int .i64 5, .int .i64 0, .int .i64 (-1), .int .i64 (-1), .int .i64 (-1), .int .i64 0, .int .i64 0, .slice none 0 0]])
    ⟨fdLeaf _ _ _ _ _ _ _ _ _, fdLeaf _ _ _ _ _ _ _ _ _, trivial⟩ ho rfl (by decide) (by have := hxs.size; omega)
theorem sStreamsGroupHeartbeatResponsePartitionsByUserEndpointActivePartition (w : World) : Does X.P 27 #[] w fun r w' => FdsR w' (fun k => w.heap.size ≤ k) r dStreamsGroupHeartbeatResponsePartitionsByUserEndpointActivePartition ∧ Ext nob w w' := by
  have hx0 : Ext nob w w := Ext.refl _ _
  refine Does.go (X := X) (l := []) Tryz.func27 rfl (by kernel_rfl) (by kernel_rfl) _ rfl ?_
  ((conv=>whnf);repeat((first|refine mvT ?_|refine mvF ?_|refine yT ?_|refine yF ?_);conv=>whnf))
  have hxs := hx0
  intro b wb hb ho hx
  have hx0 := hx0.e0 hx
  ((conv=>whnf);repeat((first|refine mvT ?_|refine mvF ?_|refine yT ?_|refine yF ?_);conv=>whnf))
  refine ⟨?_, hx0⟩
  exact FdL.fds (cs := [[.int .i64 8, .int .i64 0, .int .i64 (-1), .int .i64 (-1), .int .i64 (-1), .int .i64 0, .int .i64 0, .slice none 0 0], [.int .i64 11, .int .i64 0, .int .i64 (-1), .int .i64 (-1), .int .i64 (-1), .int .i64 0, .int .i64 3, .slice none 0 0]])
    ⟨fdLeaf _ _ _ _ _ _ _ _ _, fdLeaf _ _ _ _ _ _ _ _ _, trivial⟩ ho rfl (by decide) (by have := hxs.size; omega)
theorem sStreamsGroupHeartbeatResponsePartitionsByUserEndpointStandbyPartition (w : World) : Does X.P 28 #[] w fun r w' => FdsR w' (fun k => w.heap.size ≤ k) r dStreamsGroupHeartbeatResponsePartitionsByUserEndpointStandbyPartition ∧ Ext nob w w' := by
  have hx0 : Ext nob w w := Ext.refl _ _
  refine Does.go (X := X) (l := []) Tryz.func28 rfl (by kernel_rfl) (by kernel_rfl) _ rfl ?_
  ((conv=>whnf);repeat((first|refine mvT ?_|refine mvF ?_|refine yT ?_|refine yF ?_);conv=>whnf))
  have hxs := hx0
  intro b wb hb ho hx
  have hx0 := hx0.e0 hx
  ((conv=>whnf);repeat((first|refine mvT ?_|refine mvF ?_|refine yT ?_|refine yF ?_);conv=>whnf))
  refine ⟨?_, hx0⟩
  exact FdL.fds (cs := [[.int .i64 8, .int .i64 0, .int .i64 (-1), .int .i64 (-1), .int .i64 (-1), .int .i64 0, .int .i64 0, .slice none 0 0], [.int .i64 11, .int .i64 0, .int .i64 (-1), .int .i64 (-1), .int .i64 (-1), .int .i64 0, .int .i64 3, .slice none 0 0]])
    ⟨fdLeaf _ _ _ _ _ _ _ _ _, fdLeaf _ _ _ _ _ _ _ _ _, trivial⟩ ho rfl (by decide) (by have := hxs.size; omega)
theorem sStreamsGroupHeartbeatResponsePartitionsByUserEndpoint (w : World) : Does X.P 17 #[] w fun r w' => FdsR w' (fun k => w.heap.size ≤ k) r dStreamsGroupHeartbeatResponsePartitionsByUserEndpoint ∧ Ext nob w w' := by
  have hx0 : Ext nob w w := Ext.refl _ _
  refine Does.go (X := X) (l := []) Tryz.func17 rfl (by kernel_rfl) (by kernel_rfl) _ rfl ?_
  ((conv=>whnf);repeat((first|refine mvT ?_|refine mvF ?_|refine yT ?_|refine yF ?_);conv=>whnf))
  refine Does.mono (sEndpoint w) ?_
  rintro v0 wv0 ⟨hv0, hc⟩
  have hv0 := hv0.mono (F' := fun k => w.heap.size ≤ k) fun k _ h => Nat.le_trans hx0.size h
  obtain ⟨lv0, gv0, _⟩ := id hv0
  obtain ⟨av0, kv0, rfl, _⟩ := gv0.view
  ((conv=>whnf);repeat((first|refine mvT ?_|refine mvF ?_|refine yT ?_|refine yF ?_);conv=>whnf))
  have hx0 := hx0.e0 hc
  refine Does.mono (sStreamsGroupHeartbeatResponsePartitionsByUserEndpointActivePartition wv0) ?_
  rintro v1 wv1 ⟨hv1, hc⟩
  have hv1 := hv1.mono (F' := fun k => w.heap.size ≤ k) fun k _ h => Nat.le_trans hx0.size h
  obtain ⟨lv1, gv1, _⟩ := id hv1
  obtain ⟨av1, kv1, rfl, _⟩ := gv1.view
  ((conv=>whnf);repeat((first|refine mvT ?_|refine mvF ?_|refine yT ?_|refine yF ?_);conv=>whnf))
  have hv0 := hv0.e0 hc
  have hx0 := hx0.e0 hc
  refine Does.mono (sStreamsGroupHeartbeatResponsePartitionsByUserEndpointStandbyPartition wv1) ?_
  rintro v2 wv2 ⟨hv2, hc⟩
  have hv2 := hv2.mono (F' := fun k => w.heap.size ≤ k) fun k _ h => Nat.le_trans hx0.size h
  obtain ⟨lv2, gv2, _⟩ := id hv2
  obtain ⟨av2, kv2, rfl, _⟩ := gv2.view
  ((conv=>whnf);repeat((first|refine mvT ?_|refine mvF ?_|refine yT ?_|refine yF ?_);conv=>whnf))
  have hv0 := hv0.e0 hc
  have hv1 := hv1.e0 hc
  have hx0 := hx0.e0 hc
  have hxs := hx0
  intro b wb hb ho hx
  have hx0 := hx0.e0 hx
  ((conv=>whnf);repeat((first|refine mvT ?_|refine mvF ?_|refine yT ?_|refine yF ?_);conv=>whnf))
  refine ⟨?_, hx0⟩
  exact FdL.fds (cs := [[.int .i64 10, .int .i64 0, .int .i64 (-1), .int .i64 (-1), .int .i64 (-1), .int .i64 0, .int .i64 0, .slice av0 lv0.length kv0], [.int .i64 11, .int .i64 0, .int .i64 (-1), .int .i64 (-1), .int .i64 (-1), .int .i64 0, .int .i64 10, .slice av1 lv1.length kv1], [.int .i64 11, .int .i64 0, .int .i64 (-1), .int .i64 (-1), .int .i64 (-1), .int .i64 0, .int .i64 10, .slice av2 lv2.length kv2]])
    ⟨FdC.of (hv0.e0 hx) _ _ _ _ _ _ _, FdC.of (hv1.e0 hx) _ _ _ _ _ _ _, FdC.of (hv2.e0 hx) _ _ _ _ _ _ _, trivial⟩ ho rfl (by decide) (by have := hxs.size; omega)
theorem sStreamsGroupHeartbeatResponse (w : World) : Does X.P 6 #[] w fun r w' => Msg w' (fun k => w.heap.size ≤ k) r dStreamsGroupHeartbeatResponse 0 ∧ Ext nob w w' := by
  have hx0 : Ext nob w w := Ext.refl _ _
  refine Does.go (X := X) (l := []) Tryz.func6 rfl (by kernel_rfl) (by kernel_rfl) _ rfl ?_
  ((conv=>whnf);repeat((first|refine mvT ?_|refine mvF ?_|refine yT ?_|refine yF ?_);conv=>whnf))
  intro b w1 hb ho hx
  have hx0 := hx0.e0 hx
  have ho := ho
  ((conv=>whnf);repeat((first|refine mvT ?_|refine mvF ?_|refine yT ?_|refine yF ?_);conv=>whnf))
  refine Does.mono (sStreamsGroupHeartbeatResponseStatus w1) ?_
  rintro v9 wv9 ⟨hv9, hc⟩
  have hv9 := hv9.mono (F' := fun k => w.heap.size ≤ k ∧ b < k) fun k _ h => ⟨Nat.le_trans hx0.size h, Nat.lt_of_lt_of_le ho.lt h⟩
  obtain ⟨lv9, gv9, _⟩ := id hv9
  obtain ⟨av9, kv9, rfl, _⟩ := gv9.view
  ((conv=>whnf);repeat((first|refine mvT ?_|refine mvF ?_|refine yT ?_|refine yF ?_);conv=>whnf))
  have hx0 := hx0.e0 hc
  have ho := ho.e0 hc
  refine Does.mono (sTaskIDs wv9) ?_
  rintro v10 wv10 ⟨hv10, hc⟩
  have hv10 := hv10.mono (F' := fun k => w.heap.size ≤ k ∧ b < k) fun k _ h => ⟨Nat.le_trans hx0.size h, Nat.lt_of_lt_of_le ho.lt h⟩
  obtain ⟨lv10, gv10, _⟩ := id hv10
  obtain ⟨av10, kv10, rfl, _⟩ := gv10.view
  ((conv=>whnf);repeat((first|refine mvT ?_|refine mvF ?_|refine yT ?_|refine yF ?_);conv=>whnf))
  have hv9 := hv9.e0 hc
  have hx0 := hx0.e0 hc
  have ho := ho.e0 hc
  refine Does.mono (sTaskIDs wv10) ?_
  rintro v11 wv11 ⟨hv11, hc⟩
  have hv11 := hv11.mono (F' := fun k => w.heap.size ≤ k ∧ b < k) fun k _ h => ⟨Nat.le_trans hx0.size h, Nat.lt_of_lt_of_le ho.lt h⟩
  obtain ⟨lv11, gv11, _⟩ := id hv11
  obtain ⟨av11, kv11, rfl, _⟩ := gv11.view
  ((conv=>whnf);repeat((first|refine mvT ?_|refine mvF ?_|refine yT ?_|refine yF ?_);conv=>whnf))
  have hv9 := hv9.e0 hc
  have hv10 := hv10.e0 hc
  have hx0 := hx0.e0 hc
  have ho := ho.e0 hc
  refine Does.mono (sTaskIDs wv11) ?_
  rintro v12 wv12 ⟨hv12, hc⟩
  have hv12 := hv12.mono (F' := fun k => w.heap.size ≤ k ∧ b < k) fun k _ h => ⟨Nat.le_trans hx0.size h, Nat.lt_of_lt_of_le ho.lt h⟩
  obtain ⟨lv12, gv12, _⟩ := id hv12
  obtain ⟨av12, kv12, rfl, _⟩ := gv12.view
  ((conv=>whnf);repeat((first|refine mvT ?_|refine mvF ?_|refine yT ?_|refine yF ?_);conv=>whnf))
  have hv9 := hv9.e0 hc
  have hv10 := hv10.e0 hc
  have hv11 := hv11.e0 hc
  have hx0 := hx0.e0 hc
  have ho := ho.e0 hc
  refine Does.mono (sStreamsGroupHeartbeatResponsePartitionsByUserEndpoint wv12) ?_
  rintro v15 wv15 ⟨hv15, hc⟩
  have hv15 := hv15.mono (F' := fun k => w.heap.size ≤ k ∧ b < k) fun k _ h => ⟨Nat.le_trans hx0.size h, Nat.lt_of_lt_of_le ho.lt h⟩
  obtain ⟨lv15, gv15, _⟩ := id hv15
  obtain ⟨av15, kv15, rfl, _⟩ := gv15.view
  ((conv=>whnf);repeat((first|refine mvT ?_|refine mvF ?_|refine yT ?_|refine yF ?_);conv=>whnf))
  have hv9 := hv9.e0 hc
  have hv10 := hv10.e0 hc
  have hv11 := hv11.e0 hc
  have hv12 := hv12.e0 hc
  have hx0 := hx0.e0 hc
  have ho := ho.e0 hc
  have hxs := hx0
  intro b2 w2 hb2 ho2 hx2
  ((conv=>whnf);repeat((first|refine mvT ?_|refine mvF ?_|refine yT ?_|refine yF ?_);conv=>whnf))
  have hx0 := hx0.e0 hx2
  refine ⟨_, _, ho.e0 hx2, rfl, rfl, rfl, ?_⟩
  intro w3 ho3 hx3
  have hx03 := hx0.st hx3 hb
  ((conv=>whnf);repeat((first|refine mvT ?_|refine mvF ?_|refine yT ?_|refine yF ?_);conv=>whnf))
  refine ⟨_, rfl, ho3.cells, ?_⟩
  refine ⟨⟨_, rfl, ?_⟩, hx03⟩
  have ho2 := ho2.ext hx3 (by have := ho.lt; omega)
  have hs := hx0.size
  have hs2 : w.heap.size ≤ b2 := Nat.le_trans hxs.size hb2
  exact FdL.fds (cs := [[.int .i64 3, .int .i64 0, .int .i64 (-1), .int .i64 (-1), .int .i64 (-1), .int .i64 0, .int .i64 0, .slice none 0 0], [.int .i64 2, .int .i64 0, .int .i64 (-1), .int .i64 (-1), .int .i64 (-1), .int .i64 0, .int .i64 0, .slice none 0 0], [.int .i64 8, .int .i64 0, .int .i64 (-1), .int .i64 0, .int .i64 (-1), .int .i64 0, .int .i64 0, .slice none 0 0], [.int .i64 8, .int .i64 0, .int .i64 (-1), .int .i64 (-1), .int .i64 (-1), .int .i64 0, .int .i64 0, .slice none 0 0], [.int .i64 3, .int .i64 0, .int .i64 (-1), .int .i64 (-1), .int .i64 (-1), .int .i64 0, .int .i64 0, .slice none 0 0], [.int .i64 3, .int .i64 0, .int .i64 (-1), .int .i64 (-1), .int .i64 (-1), .int .i64 0, .int .i64 0, .slice none 0 0], [.int .i64 3, .int .i64 0, .int .i64 0, .int .i64 (-1), .int .i64 (-1), .int .i64 0, .int .i64 0, .slice none 0 0], [.int .i64 3, .int .i64 0, .int .i64 (-1), .int .i64 (-1), .int .i64 (-1), .int .i64 0, .int .i64 0, .slice none 0 0], [.int .i64 4, .int .i64 1, .int .i64 (-1), .int .i64 (-1), .int .i64 (-1), .int .i64 (-1), .int .i64 0, .slice none 0 0], [.int .i64 11, .int .i64 0, .int .i64 (-1), .int .i64 0, .int .i64 (-1), .int .i64 0, .int .i64 10, .slice av9 lv9.length kv9], [.int .i64 11, .int .i64 0, .int .i64 (-1), .int .i64 0, .int .i64 (-1), .int .i64 0, .int .i64 10, .slice av10 lv10.length kv10], [.int .i64 11, .int .i64 0, .int .i64 (-1), .int .i64 0, .int .i64 (-1), .int .i64 0, .int .i64 10, .slice av11 lv11.length kv11], [.int .i64 11, .int .i64 0, .int .i64 (-1), .int .i64 0, .int .i64 (-1), .int .i64 0, .int .i64 10, .slice av12 lv12.length kv12], [.int .i64 0, .int .i64 1, .int .i64 (-1), .int .i64 (-1), .int .i64 (-1), .int .i64 0, .int .i64 0, .slice none 0 0], [.int .i64 3, .int .i64 0, .int .i64 (-1), .int .i64 (-1), .int .i64 (-1), .int .i64 0, .int .i64 0, .slice none 0 0], [.int .i64 11, .int .i64 0, .int .i64 (-1), .int .i64 0, .int .i64 (-1), .int .i64 0, .int .i64 10, .slice av15 lv15.length kv15]])
    ⟨fdLeaf _ _ _ _ _ _ _ _ _, fdLeaf _ _ _ _ _ _ _ _ _, fdLeaf _ _ _ _ _ _ _ _ _, fdLeaf _ _ _ _ _ _ _ _ _, fdLeaf _ _ _ _ _ _ _ _ _, fdLeaf _ _ _ _ _ _ _ _ _, fdLeaf _ _ _ _ _ _ _ _ _, fdLeaf _ _ _ _ _ _ _ _ _, fdLeaf _ _ _ _ _ _ _ _ _, FdC.of (FdsR.mono (FdsR.ext (FdsR.e0 hv9 hx2) hx3 fun k _ h1 h2 => by omega) fun k _ h => h.1) _ _ _ _ _ _ _, FdC.of (FdsR.mono (FdsR.ext (FdsR.e0 hv10 hx2) hx3 fun k _ h1 h2 => by omega) fun k _ h => h.1) _ _ _ _ _ _ _, FdC.of (FdsR.mono (FdsR.ext (FdsR.e0 hv11 hx2) hx3 fun k _ h1 h2 => by omega) fun k _ h => h.1) _ _ _ _ _ _ _, FdC.of (FdsR.mono (FdsR.ext (FdsR.e0 hv12 hx2) hx3 fun k _ h1 h2 => by omega) fun k _ h => h.1) _ _ _ _ _ _ _, fdLeaf _ _ _ _ _ _ _ _ _, fdLeaf _ _ _ _ _ _ _ _ _, FdC.of (FdsR.mono (FdsR.ext (FdsR.e0 hv15 hx2) hx3 fun k _ h1 h2 => by omega) fun k _ h => h.1) _ _ _ _ _ _ _, trivial⟩ ho2 rfl (by decide) (by omega)
theorem dfStreamsGroupHeartbeatResponseStatus {w : World} {q o : Nat} {T : TypeId} {pre cur post : List Value} (ho : Own w q T (pre ++ cur ++ post)) (hp : pre.length = o) (hl : cur.length = 3) :
    Does X.P 60 #[.pointer (some ⟨q, o, none⟩)] w fun r w' => Own w' q T (pre ++ cur ++ post) ∧ Ext (fun k => k = q) w w' := by
  have hx : Ext (fun k => k = q) w w := Ext.refl _ _
  refine Does.go (X := X) (l := [_]) Tryz.func60 rfl (by kernel_rfl) (by kernel_rfl) _ rfl ?_
  ((conv=>whnf);repeat((first|refine mvT ?_|refine mvF ?_|refine yT ?_|refine yF ?_);conv=>whnf))
  exact ⟨ho, hx⟩
theorem dfTaskIDs {w : World} {q o : Nat} {T : TypeId} {pre cur post : List Value} (ho : Own w q T (pre ++ cur ++ post)) (hp : pre.length = o) (hl : cur.length = 3) :
    Does X.P 63 #[.pointer (some ⟨q, o, none⟩)] w fun r w' => Own w' q T (pre ++ cur ++ post) ∧ Ext (fun k => k = q) w w' := by
  have hx : Ext (fun k => k = q) w w := Ext.refl _ _
  refine Does.go (X := X) (l := [_]) Tryz.func63 rfl (by kernel_rfl) (by kernel_rfl) _ rfl ?_
  ((conv=>whnf);repeat((first|refine mvT ?_|refine mvF ?_|refine yT ?_|refine yF ?_);conv=>whnf))
  exact ⟨ho, hx⟩
theorem dfEndpoint {w : World} {q o : Nat} {T : TypeId} {pre cur post : List Value} (ho : Own w q T (pre ++ cur ++ post)) (hp : pre.length = o) (hl : cur.length = 3) :
    Does X.P 66 #[.pointer (some ⟨q, o, none⟩)] w fun r w' => Own w' q T (pre ++ cur ++ post) ∧ Ext (fun k => k = q) w w' := by
  have hx : Ext (fun k => k = q) w w := Ext.refl _ _
  refine Does.go (X := X) (l := [_]) Tryz.func66 rfl (by kernel_rfl) (by kernel_rfl) _ rfl ?_
  ((conv=>whnf);repeat((first|refine mvT ?_|refine mvF ?_|refine yT ?_|refine yF ?_);conv=>whnf))
  exact ⟨ho, hx⟩
theorem dfStreamsGroupHeartbeatResponsePartitionsByUserEndpointActivePartition {w : World} {q o : Nat} {T : TypeId} {pre cur post : List Value} (ho : Own w q T (pre ++ cur ++ post)) (hp : pre.length = o) (hl : cur.length = 3) :
    Does X.P 68 #[.pointer (some ⟨q, o, none⟩)] w fun r w' => Own w' q T (pre ++ cur ++ post) ∧ Ext (fun k => k = q) w w' := by
  have hx : Ext (fun k => k = q) w w := Ext.refl _ _
  refine Does.go (X := X) (l := [_]) Tryz.func68 rfl (by kernel_rfl) (by kernel_rfl) _ rfl ?_
  ((conv=>whnf);repeat((first|refine mvT ?_|refine mvF ?_|refine yT ?_|refine yF ?_);conv=>whnf))
  exact ⟨ho, hx⟩
theorem dfStreamsGroupHeartbeatResponsePartitionsByUserEndpointStandbyPartition {w : World} {q o : Nat} {T : TypeId} {pre cur post : List Value} (ho : Own w q T (pre ++ cur ++ post)) (hp : pre.length = o) (hl : cur.length = 3) :
    Does X.P 69 #[.pointer (some ⟨q, o, none⟩)] w fun r w' => Own w' q T (pre ++ cur ++ post) ∧ Ext (fun k => k = q) w w' := by
  have hx : Ext (fun k => k = q) w w := Ext.refl _ _
  refine Does.go (X := X) (l := [_]) Tryz.func69 rfl (by kernel_rfl) (by kernel_rfl) _ rfl ?_
  ((conv=>whnf);repeat((first|refine mvT ?_|refine mvF ?_|refine yT ?_|refine yF ?_);conv=>whnf))
  exact ⟨ho, hx⟩
theorem dfStreamsGroupHeartbeatResponsePartitionsByUserEndpoint {w : World} {q o : Nat} {T : TypeId} {pre cur post : List Value} (ho : Own w q T (pre ++ cur ++ post)) (hp : pre.length = o) (hl : cur.length = 6) :
    Does X.P 65 #[.pointer (some ⟨q, o, none⟩)] w fun r w' => Own w' q T (pre ++ cur ++ post) ∧ Ext (fun k => k = q) w w' := by
  have hx : Ext (fun k => k = q) w w := Ext.refl _ _
  refine Does.go (X := X) (l := [_]) Tryz.func65 rfl (by kernel_rfl) (by kernel_rfl) _ rfl ?_
  ((conv=>whnf);repeat((first|refine mvT ?_|refine mvF ?_|refine yT ?_|refine yF ?_);conv=>whnf))
  exact ⟨ho, hx⟩
theorem dfStreamsGroupHeartbeatResponse {w : World} {q o : Nat} {T : TypeId} {pre cur post : List Value} (ho : Own w q T (pre ++ cur ++ post)) (hp : pre.length = o) (hl : cur.length = 18) :
    Does X.P 20 #[.pointer (some ⟨q, o, none⟩)] w fun r w' => Own w' q T (pre ++ (cur.set 9 (.int .i64 (-1))) ++ post) ∧ Ext (fun k => k = q) w w' := by
  have hx : Ext (fun k => k = q) w w := Ext.refl _ _
  refine Does.go (X := X) (l := [_]) Tryz.func20 rfl (by kernel_rfl) (by kernel_rfl) _ rfl ?_
  ((conv=>whnf);repeat((first|refine mvT ?_|refine mvF ?_|refine yT ?_|refine yF ?_);conv=>whnf))
  refine stm ho 9 rfl rfl hp (by omega) rfl (by first | omega | (simp only [List.length_set]; omega)) ?_
  intro w0 ho hxd
  have hx := hx.trans hxd fun _ _ h => h
  ((conv=>whnf);repeat((first|refine mvT ?_|refine mvF ?_|refine yT ?_|refine yF ?_);conv=>whnf))
  exact ⟨ho, hx⟩
theorem readStreamsGroupHeartbeatResponse {w0 : World} {F : Nat → Prop} {p : Nat} {ty : TypeId} {v : Int} {x ev : Value} {l : List UInt8} (hL : Laid w0 ev) (hp : Own w0 p ty [.int .i16 v, .int .i32 0, .int .i16 0, .pointer none, str [], .int .i32 0, .int .i32 0, .int .i32 0, .int .i32 0, .int .i64 (-1), .slice none 0 0, .slice none 0 0, .slice none 0 0, .slice none 0 0, .bool false, .int .i32 0, .slice none 0 0, .map none]) (hx : Bytes w0 F x l) (hF : ∀ k, F k → k ≠ p) (hv : 0 ≤ v) (hp1 : p ≠ errG) :
    Does X.P 29 #[.pointer (some ⟨p, 0, none⟩), x, .bool false] w0 fun r w' => RdPost w0 p ty v (decide (v ≥ 0)) true dStreamsGroupHeartbeatResponse ev l r w' := by
  have hpl := hp.lt
  obtain ⟨fx, hfx⟩ : ∃ fx, fx = decide (v ≥ 0) := ⟨_, rfl⟩
  rw [← hfx]
  obtain ⟨G0, hG0, hx⟩ : ∃ G0 : Nat → Prop, (∀ k, G0 k → k < w0.heap.size ∧ k ≠ p) ∧ Bytes w0 G0 x l := ⟨fun k => F k ∧ k < w0.heap.size, fun k h => ⟨h.2, hF k h.1⟩, Sl.mono hx fun k hk h => ⟨h, hk⟩⟩
  obtain ⟨a0, c0, rfl, _⟩ := hx.view
  refine Does.go (X := X) (l := [_, _, _]) Tryz.func29 rfl (by kernel_rfl) (by kernel_rfl) _ rfl ?_
  ((conv=>whnf);repeat((first|refine mvT ?_|refine mvF ?_|refine yT ?_|refine yF ?_);conv=>whnf))
  refine Does.mono (dfStreamsGroupHeartbeatResponse (pre := []) (cur := [.int .i16 v, .int .i32 0, .int .i16 0, .pointer none, str [], .int .i32 0, .int .i32 0, .int .i32 0, .int .i32 0, .int .i64 (-1), .slice none 0 0, .slice none 0 0, .slice none 0 0, .slice none 0 0, .bool false, .int .i32 0, .slice none 0 0, .map none]) (post := []) (by simpa using hp) rfl rfl) ?_
  rintro rd wd ⟨hpd, hxd⟩
  ((conv=>whnf);repeat((first|refine mvT ?_|refine mvF ?_|refine yT ?_|refine yF ?_);conv=>whnf))
  intro pb w1 hpb hb hx1
  ((conv=>whnf);repeat((first|refine mvT ?_|refine mvF ?_|refine yT ?_|refine yF ?_);conv=>whnf))
  refine st_all [.slice a0 l.length c0, .bool false] hb rfl rfl rfl ?_
  intro w hb hx2
  ((conv=>whnf);repeat((first|refine mvT ?_|refine mvF ?_|refine yT ?_|refine yF ?_);conv=>whnf))
  have hsd := hxd.size
  have hwp : w0.heap.size ≤ pb := by omega
  have he1 : Ext nob wd w := hx1.trans hx2 fun k hk h => by omega
  have hpw : Own w p ty [.int .i16 v, .int .i32 0, .int .i16 0, .pointer none, str [], .int .i32 0, .int .i32 0, .int .i32 0, .int .i32 0, .int .i64 (-1), .slice none 0 0, .slice none 0 0, .slice none 0 0, .slice none 0 0, .bool false, .int .i32 0, .slice none 0 0, .map none] := by have := hpd.e0 he1; simpa using this
  have he := hxd.tr0 he1
  have H := St.init hpw hb (hx.ext he fun k _ h => (hG0 k h).2) hG0 he hpl hwp
  clear hpd hxd hx1 hx2 hb hpw he1 hp
  refine ldS (H.cell (o := 0) rfl (k := 0) rfl) ?_;((conv=>whnf);repeat((first|refine mvT ?_|refine mvF ?_|refine yT ?_|refine yF ?_);conv=>whnf))
  rw [← hfx]
  (refine mvB ?_;((conv=>whnf);repeat((first|refine mvT ?_|refine mvF ?_|refine yT ?_|refine yF ?_);conv=>whnf)))
  have hup0 : tailBad 9 v fx dStreamsGroupHeartbeatResponse dStreamsGroupHeartbeatResponse (l, false) = true → (rdPart 9 v fx dStreamsGroupHeartbeatResponse (l, false)).2.2 = true := fun h => (tailBad_part _ _ _ _ _).symm.trans h
  refine Does.mono H.int32 ?_
  rintro r w ⟨n1, s1, rfl, hn1, hr1, H⟩
  ((conv=>whnf);repeat((first|refine mvT ?_|refine mvF ?_|refine yT ?_|refine yF ?_);conv=>whnf))
  refine H.st1 (v := .int .i32 n1) 1 (rfl) (rfl) rfl (by simp) rfl (Nat.lt_of_lt_of_le (Nat.lt_succ_self _) (Nat.le_of_ble_eq_true rfl)) ?_
  intro w H
  ((conv=>whnf);repeat((first|refine mvT ?_|refine mvF ?_|refine yT ?_|refine yF ?_);conv=>whnf))
  replace H : St w0 G0 p pb s1 ((p, ty, [] ++ [.int .i16 v, .int .i32 n1, .int .i16 0, .pointer none, str [], .int .i32 0, .int .i32 0, .int .i32 0, .int .i32 0, .int .i64 (-1), .slice none 0 0, .slice none 0 0, .slice none 0 0, .slice none 0 0, .bool false, .int .i32 0, .slice none 0 0, .map none] ++ []) :: []) (fun _ => True) w := H
  refine Does.mono H.int16 ?_
  rintro r w ⟨n3, s3, rfl, hn3, hr3, H⟩
  ((conv=>whnf);repeat((first|refine mvT ?_|refine mvF ?_|refine yT ?_|refine yF ?_);conv=>whnf))
  refine H.st1 (v := .int .i16 n3) 2 (rfl) (rfl) rfl (by simp) rfl (Nat.lt_of_lt_of_le (Nat.lt_succ_self _) (Nat.le_of_ble_eq_true rfl)) ?_
  intro w H
  ((conv=>whnf);repeat((first|refine mvT ?_|refine mvF ?_|refine yT ?_|refine yF ?_);conv=>whnf))
  replace H : St w0 G0 p pb s3 ((p, ty, [] ++ [.int .i16 v, .int .i32 n1, .int .i16 n3, .pointer none, str [], .int .i32 0, .int .i32 0, .int .i32 0, .int .i32 0, .int .i64 (-1), .slice none 0 0, .slice none 0 0, .slice none 0 0, .slice none 0 0, .bool false, .int .i32 0, .slice none 0 0, .map none] ++ []) :: []) (fun _ => True) w := H
  (refine mvB ?_;((conv=>whnf);repeat((first|refine mvT ?_|refine mvF ?_|refine yT ?_|refine yF ?_);conv=>whnf)))
  refine VC.cutE (fun q : Value × Bool × List UInt8 × Rd => [(13, q.1), (0, .pointer (some ⟨p, 0, none⟩)), (2, .bool false), (7, .pointer (some ⟨pb, 0, none⟩)), (8, .int .i16 v), (9, .bool fx), (10, .pointer (some ⟨p, 0, none⟩))]) (fun q w' => q.1.oneCell' = true ∧ (q.2.1 = true → q.2.2.1 = []) ∧ rdNt fx s3 = (.mk 0 q.2.2.1 q.2.1 [] [], q.2.2.2) ∧ St w0 G0 p pb q.2.2.2 ((p, ty, [] ++ [.int .i16 v, .int .i32 n1, .int .i16 n3, .pointer none, str [], .int .i32 0, .int .i32 0, .int .i32 0, .int .i32 0, .int .i64 (-1), .slice none 0 0, .slice none 0 0, .slice none 0 0, .slice none 0 0, .bool false, .int .i32 0, .slice none 0 0, .map none] ++ []) :: []) (fun w => NTf w0 G0 q.1 (.mk 0 q.2.2.1 q.2.1 [] []) w ∧ (fun _ => True) w) w') ?_ ?_
  · refine cI (by rfl) (fun hc=>?_) (fun hc=>?_)
    · ((conv=>whnf);repeat((first|refine mvT ?_|refine mvF ?_|refine yT ?_|refine yF ?_);conv=>whnf))
      refine Does.mono H.ntc ?_
      rintro r w ⟨c, nl, u, s', rfl, hone, hnl, hr, H⟩
      ((conv=>whnf);repeat((first|refine mvT ?_|refine mvF ?_|refine yT ?_|refine yF ?_);conv=>whnf))
      exact ⟨(r, nl, u, s'), ⟨rfl, rfl, rfl, rfl, rfl, rfl, rfl, trivial⟩, hone, hnl, by rw [hc]; exact hr, H⟩
    · ((conv=>whnf);repeat((first|refine mvT ?_|refine mvF ?_|refine yT ?_|refine yF ?_);conv=>whnf))
      refine Does.mono H.ntp ?_
      rintro r w ⟨c, nl, u, s', rfl, hone, hnl, hr, H⟩
      ((conv=>whnf);repeat((first|refine mvT ?_|refine mvF ?_|refine yT ?_|refine yF ?_);conv=>whnf))
      exact ⟨(r, nl, u, s'), ⟨rfl, rfl, rfl, rfl, rfl, rfl, rfl, trivial⟩, hone, hnl, by rw [hc]; exact hr, H⟩
  clear H
  rintro ⟨c5, nl5, u5, s5⟩ w ⟨hone5, hnl5, hr5, H⟩
  dsimp only at hone5 hnl5 hr5 H
  ((conv=>whnf);repeat((first|refine mvT ?_|refine mvF ?_|refine yT ?_|refine yF ?_);conv=>whnf))
  obtain ⟨P6, hP6⟩ : ∃ P : World → Prop, P = fun w => NTf w0 G0 c5 (.mk 0 u5 nl5 [] []) w ∧ (fun _ => True) w := ⟨_, rfl⟩
  replace H : St w0 G0 p pb s5 ((p, ty, [] ++ [.int .i16 v, .int .i32 n1, .int .i16 n3, .pointer none, str [], .int .i32 0, .int .i32 0, .int .i32 0, .int .i32 0, .int .i64 (-1), .slice none 0 0, .slice none 0 0, .slice none 0 0, .slice none 0 0, .bool false, .int .i32 0, .slice none 0 0, .map none] ++ []) :: []) P6 w := by rw [hP6]; exact H
  refine H.st1 (v := c5) 3 (cells_one hone5) (hone5) rfl (by simp) rfl (Nat.lt_of_lt_of_le (Nat.lt_succ_self _) (Nat.le_of_ble_eq_true rfl)) ?_
  intro w H
  ((conv=>whnf);repeat((first|refine mvT ?_|refine mvF ?_|refine yT ?_|refine yF ?_);conv=>whnf))
  replace H : St w0 G0 p pb s5 ((p, ty, [] ++ [.int .i16 v, .int .i32 n1, .int .i16 n3, c5, str [], .int .i32 0, .int .i32 0, .int .i32 0, .int .i32 0, .int .i64 (-1), .slice none 0 0, .slice none 0 0, .slice none 0 0, .slice none 0 0, .bool false, .int .i32 0, .slice none 0 0, .map none] ++ []) :: []) P6 w := H
  (refine mvB ?_;((conv=>whnf);repeat((first|refine mvT ?_|refine mvF ?_|refine yT ?_|refine yF ?_);conv=>whnf)))
  refine VC.cutE (fun q : List UInt8 × Rd => [(14, str q.1), (0, .pointer (some ⟨p, 0, none⟩)), (2, .bool false), (7, .pointer (some ⟨pb, 0, none⟩)), (8, .int .i16 v), (9, .bool fx), (10, .pointer (some ⟨p, 0, none⟩))]) (fun q w' => rdTx fx s5 = q ∧ St w0 G0 p pb q.2 ((p, ty, [] ++ [.int .i16 v, .int .i32 n1, .int .i16 n3, c5, str [], .int .i32 0, .int .i32 0, .int .i32 0, .int .i32 0, .int .i64 (-1), .slice none 0 0, .slice none 0 0, .slice none 0 0, .slice none 0 0, .bool false, .int .i32 0, .slice none 0 0, .map none] ++ []) :: []) P6 w') ?_ ?_
  · refine cI (by rfl) (fun hc=>?_) (fun hc=>?_)
    · ((conv=>whnf);repeat((first|refine mvT ?_|refine mvF ?_|refine yT ?_|refine yF ?_);conv=>whnf))
      refine Does.mono H.txc ?_
      rintro r w ⟨u, s', rfl, hr, H⟩
      ((conv=>whnf);repeat((first|refine mvT ?_|refine mvF ?_|refine yT ?_|refine yF ?_);conv=>whnf))
      exact ⟨(u, s'), ⟨rfl, rfl, rfl, rfl, rfl, rfl, rfl, trivial⟩, by rw [hc]; exact hr, H⟩
    · ((conv=>whnf);repeat((first|refine mvT ?_|refine mvF ?_|refine yT ?_|refine yF ?_);conv=>whnf))
      refine Does.mono H.txp ?_
      rintro r w ⟨u, s', rfl, hr, H⟩
      ((conv=>whnf);repeat((first|refine mvT ?_|refine mvF ?_|refine yT ?_|refine yF ?_);conv=>whnf))
      exact ⟨(u, s'), ⟨rfl, rfl, rfl, rfl, rfl, rfl, rfl, trivial⟩, by rw [hc]; exact hr, H⟩
  clear H
  rintro ⟨u8, s8⟩ w ⟨hr8, H⟩
  dsimp only at hr8 H
  ((conv=>whnf);repeat((first|refine mvT ?_|refine mvF ?_|refine yT ?_|refine yF ?_);conv=>whnf))
  refine H.st1 (v := str u8) 4 (rfl) (rfl) rfl (by simp) rfl (Nat.lt_of_lt_of_le (Nat.lt_succ_self _) (Nat.le_of_ble_eq_true rfl)) ?_
  intro w H
  ((conv=>whnf);repeat((first|refine mvT ?_|refine mvF ?_|refine yT ?_|refine yF ?_);conv=>whnf))
  replace H : St w0 G0 p pb s8 ((p, ty, [] ++ [.int .i16 v, .int .i32 n1, .int .i16 n3, c5, str u8, .int .i32 0, .int .i32 0, .int .i32 0, .int .i32 0, .int .i64 (-1), .slice none 0 0, .slice none 0 0, .slice none 0 0, .slice none 0 0, .bool false, .int .i32 0, .slice none 0 0, .map none] ++ []) :: []) P6 w := H
  refine Does.mono H.int32 ?_
  rintro r w ⟨n10, s10, rfl, hn10, hr10, H⟩
  ((conv=>whnf);repeat((first|refine mvT ?_|refine mvF ?_|refine yT ?_|refine yF ?_);conv=>whnf))
  refine H.st1 (v := .int .i32 n10) 5 (rfl) (rfl) rfl (by simp) rfl (Nat.lt_of_lt_of_le (Nat.lt_succ_self _) (Nat.le_of_ble_eq_true rfl)) ?_
  intro w H
  ((conv=>whnf);repeat((first|refine mvT ?_|refine mvF ?_|refine yT ?_|refine yF ?_);conv=>whnf))
  replace H : St w0 G0 p pb s10 ((p, ty, [] ++ [.int .i16 v, .int .i32 n1, .int .i16 n3, c5, str u8, .int .i32 n10, .int .i32 0, .int .i32 0, .int .i32 0, .int .i64 (-1), .slice none 0 0, .slice none 0 0, .slice none 0 0, .slice none 0 0, .bool false, .int .i32 0, .slice none 0 0, .map none] ++ []) :: []) P6 w := H
  refine Does.mono H.int32 ?_
  rintro r w ⟨n12, s12, rfl, hn12, hr12, H⟩
  ((conv=>whnf);repeat((first|refine mvT ?_|refine mvF ?_|refine yT ?_|refine yF ?_);conv=>whnf))
  refine H.st1 (v := .int .i32 n12) 6 (rfl) (rfl) rfl (by simp) rfl (Nat.lt_of_lt_of_le (Nat.lt_succ_self _) (Nat.le_of_ble_eq_true rfl)) ?_
  intro w H
  ((conv=>whnf);repeat((first|refine mvT ?_|refine mvF ?_|refine yT ?_|refine yF ?_);conv=>whnf))
  replace H : St w0 G0 p pb s12 ((p, ty, [] ++ [.int .i16 v, .int .i32 n1, .int .i16 n3, c5, str u8, .int .i32 n10, .int .i32 n12, .int .i32 0, .int .i32 0, .int .i64 (-1), .slice none 0 0, .slice none 0 0, .slice none 0 0, .slice none 0 0, .bool false, .int .i32 0, .slice none 0 0, .map none] ++ []) :: []) P6 w := H
  intro cq hcq
  obtain rfl : cq = true := by rw [← hcq]; exact decide_eq_true hv
  ((conv=>whnf);repeat((first|refine mvT ?_|refine mvF ?_|refine yT ?_|refine yF ?_);conv=>whnf))
  refine VC.cutE (fun q : Int × Rd => [(0, .pointer (some ⟨p, 0, none⟩)), (2, .bool false), (7, .pointer (some ⟨pb, 0, none⟩)), (8, .int .i16 v), (9, .bool fx), (10, .pointer (some ⟨p, 0, none⟩))]) (fun q w' => IntKind.i32.wrap q.1 = q.1 ∧ (if hasF (.mk 3 0 0 (-1) (-1) 0 0 []) v = true then rdField 9 v fx (.mk 3 0 0 (-1) (-1) 0 0 []) s12 else (dfT 9 (.mk 3 0 0 (-1) (-1) 0 0 []), s12)) = (numT q.1, q.2) ∧ St w0 G0 p pb q.2 ((p, ty, [] ++ [.int .i16 v, .int .i32 n1, .int .i16 n3, c5, str u8, .int .i32 n10, .int .i32 n12, .int .i32 q.1, .int .i32 0, .int .i64 (-1), .slice none 0 0, .slice none 0 0, .slice none 0 0, .slice none 0 0, .bool false, .int .i32 0, .slice none 0 0, .map none] ++ []) :: []) P6 w') ?_ ?_
  · refine cI (by rfl) (fun hcv=>?_) (fun hcv=>?_)
    · ((conv=>whnf);repeat((first|refine mvT ?_|refine mvF ?_|refine yT ?_|refine yF ?_);conv=>whnf))
      refine Does.mono H.int32 ?_
      rintro r w ⟨n15, s15, rfl, hn15, hr15, H⟩
      ((conv=>whnf);repeat((first|refine mvT ?_|refine mvF ?_|refine yT ?_|refine yF ?_);conv=>whnf))
      refine H.st1 (v := .int .i32 n15) 7 (rfl) (rfl) rfl (by simp) rfl (Nat.lt_of_lt_of_le (Nat.lt_succ_self _) (Nat.le_of_ble_eq_true rfl)) ?_
      intro w H
      ((conv=>whnf);repeat((first|refine mvT ?_|refine mvF ?_|refine yT ?_|refine yF ?_);conv=>whnf))
      replace H : St w0 G0 p pb s15 ((p, ty, [] ++ [.int .i16 v, .int .i32 n1, .int .i16 n3, c5, str u8, .int .i32 n10, .int .i32 n12, .int .i32 n15, .int .i32 0, .int .i64 (-1), .slice none 0 0, .slice none 0 0, .slice none 0 0, .slice none 0 0, .bool false, .int .i32 0, .slice none 0 0, .map none] ++ []) :: []) P6 w := H
      have hh : hasF (.mk 3 0 0 (-1) (-1) 0 0 []) v = true := by have := of_decide_eq_true hcv; rw [hasF_iff]; omega
      exact ⟨(n15, s15), ⟨rfl, rfl, rfl, rfl, rfl, rfl, trivial⟩, hn15, by rw [if_pos hh]; exact (rdField3.trans hr15), H⟩
    · ((conv=>whnf);repeat((first|refine mvT ?_|refine mvF ?_|refine yT ?_|refine yF ?_);conv=>whnf))
      have hh : ¬ hasF (.mk 3 0 0 (-1) (-1) 0 0 []) v = true := by have := of_decide_eq_false hcv; rw [hasF_iff]; omega
      exact ⟨(0, s12), ⟨rfl, rfl, rfl, rfl, rfl, rfl, trivial⟩, rfl, by rw [if_neg hh]; rfl, H⟩
  clear H
  rintro ⟨n14, s14⟩ w ⟨hn14, hr14, H⟩
  dsimp only at hn14 hr14 H
  ((conv=>whnf);repeat((first|refine mvT ?_|refine mvF ?_|refine yT ?_|refine yF ?_);conv=>whnf))
  replace H : St w0 G0 p pb s14 ((p, ty, [] ++ [.int .i16 v, .int .i32 n1, .int .i16 n3, c5, str u8, .int .i32 n10, .int .i32 n12, .int .i32 n14, .int .i32 0, .int .i64 (-1), .slice none 0 0, .slice none 0 0, .slice none 0 0, .slice none 0 0, .bool false, .int .i32 0, .slice none 0 0, .map none] ++ []) :: []) P6 w := H
  refine Does.mono H.int32 ?_
  rintro r w ⟨n17, s17, rfl, hn17, hr17, H⟩
  ((conv=>whnf);repeat((first|refine mvT ?_|refine mvF ?_|refine yT ?_|refine yF ?_);conv=>whnf))
  refine H.st1 (v := .int .i32 n17) 8 (rfl) (rfl) rfl (by simp) rfl (Nat.lt_of_lt_of_le (Nat.lt_succ_self _) (Nat.le_of_ble_eq_true rfl)) ?_
  intro w H
  ((conv=>whnf);repeat((first|refine mvT ?_|refine mvF ?_|refine yT ?_|refine yF ?_);conv=>whnf))
  replace H : St w0 G0 p pb s17 ((p, ty, [] ++ [.int .i16 v, .int .i32 n1, .int .i16 n3, c5, str u8, .int .i32 n10, .int .i32 n12, .int .i32 n14, .int .i32 n17, .int .i64 (-1), .slice none 0 0, .slice none 0 0, .slice none 0 0, .slice none 0 0, .bool false, .int .i32 0, .slice none 0 0, .map none] ++ []) :: []) P6 w := H
  refine VC.cutE (fun q : Int × Rd => [(0, .pointer (some ⟨p, 0, none⟩)), (2, .bool false), (7, .pointer (some ⟨pb, 0, none⟩)), (8, .int .i16 v), (9, .bool fx), (10, .pointer (some ⟨p, 0, none⟩))]) (fun q w' => IntKind.i64.wrap q.1 = q.1 ∧ (if hasF (.mk 4 1 (-1) (-1) (-1) (-1) 0 []) v = true then rdField 9 v fx (.mk 4 1 (-1) (-1) (-1) (-1) 0 []) s17 else (dfT 9 (.mk 4 1 (-1) (-1) (-1) (-1) 0 []), s17)) = (numT q.1, q.2) ∧ St w0 G0 p pb q.2 ((p, ty, [] ++ [.int .i16 v, .int .i32 n1, .int .i16 n3, c5, str u8, .int .i32 n10, .int .i32 n12, .int .i32 n14, .int .i32 n17, .int .i64 q.1, .slice none 0 0, .slice none 0 0, .slice none 0 0, .slice none 0 0, .bool false, .int .i32 0, .slice none 0 0, .map none] ++ []) :: []) P6 w') ?_ ?_
  · refine cI (by rfl) (fun hcv=>?_) (fun hcv=>?_)
    · ((conv=>whnf);repeat((first|refine mvT ?_|refine mvF ?_|refine yT ?_|refine yF ?_);conv=>whnf))
      refine Does.mono H.int64 ?_
      rintro r w ⟨n20, s20, rfl, hn20, hr20, H⟩
      ((conv=>whnf);repeat((first|refine mvT ?_|refine mvF ?_|refine yT ?_|refine yF ?_);conv=>whnf))
      refine H.st1 (v := .int .i64 n20) 9 (rfl) (rfl) rfl (by simp) rfl (Nat.lt_of_lt_of_le (Nat.lt_succ_self _) (Nat.le_of_ble_eq_true rfl)) ?_
      intro w H
      ((conv=>whnf);repeat((first|refine mvT ?_|refine mvF ?_|refine yT ?_|refine yF ?_);conv=>whnf))
      replace H : St w0 G0 p pb s20 ((p, ty, [] ++ [.int .i16 v, .int .i32 n1, .int .i16 n3, c5, str u8, .int .i32 n10, .int .i32 n12, .int .i32 n14, .int .i32 n17, .int .i64 n20, .slice none 0 0, .slice none 0 0, .slice none 0 0, .slice none 0 0, .bool false, .int .i32 0, .slice none 0 0, .map none] ++ []) :: []) P6 w := H
      have hh : hasF (.mk 4 1 (-1) (-1) (-1) (-1) 0 []) v = true := by have := of_decide_eq_true hcv; rw [hasF_iff]; omega
      exact ⟨(n20, s20), ⟨rfl, rfl, rfl, rfl, rfl, rfl, trivial⟩, hn20, by rw [if_pos hh]; exact (rdField4.trans hr20), H⟩
    · ((conv=>whnf);repeat((first|refine mvT ?_|refine mvF ?_|refine yT ?_|refine yF ?_);conv=>whnf))
      have hh : ¬ hasF (.mk 4 1 (-1) (-1) (-1) (-1) 0 []) v = true := by have := of_decide_eq_false hcv; rw [hasF_iff]; omega
      exact ⟨((-1), s17), ⟨rfl, rfl, rfl, rfl, rfl, rfl, trivial⟩, rfl, by rw [if_neg hh]; rfl, H⟩
  clear H
  rintro ⟨n19, s19⟩ w ⟨hn19, hr19, H⟩
  dsimp only at hn19 hr19 H
  ((conv=>whnf);repeat((first|refine mvT ?_|refine mvF ?_|refine yT ?_|refine yF ?_);conv=>whnf))
  replace H : St w0 G0 p pb s19 ((p, ty, [] ++ [.int .i16 v, .int .i32 n1, .int .i16 n3, c5, str u8, .int .i32 n10, .int .i32 n12, .int .i32 n14, .int .i32 n17, .int .i64 n19, .slice none 0 0, .slice none 0 0, .slice none 0 0, .slice none 0 0, .bool false, .int .i32 0, .slice none 0 0, .map none] ++ []) :: []) P6 w := H
  refine ldS (H.cell (o := 0) rfl (k := 10) rfl) ?_;((conv=>whnf);repeat((first|refine mvT ?_|refine mvF ?_|refine yT ?_|refine yF ?_);conv=>whnf))
  (refine mvB ?_;((conv=>whnf);repeat((first|refine mvT ?_|refine mvF ?_|refine yT ?_|refine yF ?_);conv=>whnf)))
  refine VC.cutE (fun q : Int × Rd => [(22, .int .i32 q.1), (21, .slice none 0 0), (0, .pointer (some ⟨p, 0, none⟩)), (2, .bool false), (7, .pointer (some ⟨pb, 0, none⟩)), (8, .int .i16 v), (9, .bool fx), (10, .pointer (some ⟨p, 0, none⟩))]) (fun q w' => (-2147483648 ≤ q.1 ∧ q.1 ≤ 2147483647) ∧ rdLn fx s19 = q ∧ St w0 G0 p pb q.2 ((p, ty, [] ++ [.int .i16 v, .int .i32 n1, .int .i16 n3, c5, str u8, .int .i32 n10, .int .i32 n12, .int .i32 n14, .int .i32 n17, .int .i64 n19, .slice none 0 0, .slice none 0 0, .slice none 0 0, .slice none 0 0, .bool false, .int .i32 0, .slice none 0 0, .map none] ++ []) :: []) P6 w') ?_ ?_
  · refine cI (by rfl) (fun hc=>?_) (fun hc=>?_)
    · ((conv=>whnf);repeat((first|refine mvT ?_|refine mvF ?_|refine yT ?_|refine yF ?_);conv=>whnf))
      refine Does.mono H.lnc ?_
      rintro r w ⟨n, s', rfl, hn, hr, H⟩
      ((conv=>whnf);repeat((first|refine mvT ?_|refine mvF ?_|refine yT ?_|refine yF ?_);conv=>whnf))
      exact ⟨(n, s'), ⟨rfl, rfl, rfl, rfl, rfl, rfl, rfl, rfl, trivial⟩, hn, by rw [hc]; exact hr, H⟩
    · ((conv=>whnf);repeat((first|refine mvT ?_|refine mvF ?_|refine yT ?_|refine yF ?_);conv=>whnf))
      refine Does.mono H.lnp ?_
      rintro r w ⟨n, s', rfl, hn, hr, H⟩
      ((conv=>whnf);repeat((first|refine mvT ?_|refine mvF ?_|refine yT ?_|refine yF ?_);conv=>whnf))
      exact ⟨(n, s'), ⟨rfl, rfl, rfl, rfl, rfl, rfl, rfl, rfl, trivial⟩, hn, by rw [hc]; exact hr, H⟩
  clear H
  rintro ⟨n22, s22⟩ w ⟨hn22, hln22, H⟩
  dsimp only at hn22 hln22 H
  ((conv=>whnf);repeat((first|refine mvT ?_|refine mvF ?_|refine yT ?_|refine yF ?_);conv=>whnf))
  intro cq hcq
  obtain rfl : cq = false := by rw [← hcq]; exact decide_eq_false (by omega)
  ((conv=>whnf);repeat((first|refine mvT ?_|refine mvF ?_|refine yT ?_|refine yF ?_);conv=>whnf))
  refine VC.cutE (fun a : Option Addr => [(22, .int .i32 n22), (21, .slice a 0 0), (0, .pointer (some ⟨p, 0, none⟩)), (2, .bool false), (7, .pointer (some ⟨pb, 0, none⟩)), (8, .int .i16 v), (9, .bool fx), (10, .pointer (some ⟨p, 0, none⟩))]) (fun a w' => StE w0 G0 p pb s22 80 ((p, ty, [] ++ [.int .i16 v, .int .i32 n1, .int .i16 n3, c5, str u8, .int .i32 n10, .int .i32 n12, .int .i32 n14, .int .i32 n17, .int .i64 n19, .slice none 0 0, .slice none 0 0, .slice none 0 0, .slice none 0 0, .bool false, .int .i32 0, .slice none 0 0, .map none] ++ []) :: []) P6 (v < 0 ∨ n22 = 0) a w') ?_ ?_
  · refine cI (by rfl) (fun hz=>?_) (fun hz=>?_)
    · have hz : n22 = 0 := by simpa using hz
      ((conv=>whnf);repeat((first|refine mvT ?_|refine mvF ?_|refine yT ?_|refine yF ?_);conv=>whnf))
      intro be we hbe hoe hxe
      ((conv=>whnf);repeat((first|refine mvT ?_|refine mvF ?_|refine yT ?_|refine yF ?_);conv=>whnf))
      exact ⟨_, ⟨rfl, rfl, rfl, rfl, rfl, rfl, rfl, rfl, trivial⟩, .inr ⟨.inr hz, be, rfl, H.push hxe hoe hbe⟩⟩
    · have hz : ¬ n22 = 0 := by simpa using hz
      ((conv=>whnf);repeat((first|refine mvT ?_|refine mvF ?_|refine yT ?_|refine yF ?_);conv=>whnf))
      exact ⟨_, ⟨rfl, rfl, rfl, rfl, rfl, rfl, rfl, rfl, trivial⟩, .inl ⟨by omega, rfl, H⟩⟩
  clear H
  rintro ae22 w H
  ((conv=>whnf);repeat((first|refine mvT ?_|refine mvF ?_|refine yT ?_|refine yF ?_);conv=>whnf))
  refine Does.mono H.ok ?_
  rintro r w ⟨rfl, H⟩
  ((conv=>whnf);repeat((first|refine mvT ?_|refine mvF ?_|refine yT ?_|refine yF ?_);conv=>whnf))
  refine cI (by rfl) (fun hbd=>?_) (fun hbd=>?_)
  · have hbd : s22.2 = true := by simpa using hbd
    ((conv=>whnf);repeat((first|refine mvT ?_|refine mvF ?_|refine yT ?_|refine yF ?_);conv=>whnf))
    refine Does.mono (H.done hL hp1) ?_
    rintro r w ⟨rfl, H⟩
    ((conv=>whnf);repeat((first|refine mvT ?_|refine mvF ?_|refine yT ?_|refine yF ?_);conv=>whnf))
    obtain ⟨_, H⟩ := H
    refine RdPost.early hbd (hup0 (?_)) H
    rw [tail_yes (rdField3.trans hr1) ⟨by decide, has_all hv⟩, tail_yes (rdField2.trans hr3) ⟨by decide, has_all hv⟩, tail_yes ((rdField8n (by decide)).trans hr5) ⟨by decide, has_all hv⟩, tail_yes (rdField8 (by decide) hr8) ⟨by decide, has_all hv⟩, tail_yes (rdField3.trans hr10) ⟨by decide, has_all hv⟩, tail_yes (rdField3.trans hr12) ⟨by decide, has_all hv⟩, tail_ver hr14 (by decide), tail_yes (rdField3.trans hr17) ⟨by decide, has_all hv⟩, tail_ver hr19 (by decide), tail_len ⟨by decide, has_all hv⟩ hln22 hbd]
  have hbd : s22.2 = false := by simpa using hbd
  clear hbd
  ((conv=>whnf);repeat((first|refine mvT ?_|refine mvF ?_|refine yT ?_|refine yF ?_);conv=>whnf))
  refine cut_zero ?_
  ((conv=>whnf);repeat((first|refine mvT ?_|refine mvF ?_|refine yT ?_|refine yF ?_);conv=>whnf))
  refine VC.cutE (fun a : Value => [(22, .int .i32 n22), (21, a), (0, .pointer (some ⟨p, 0, none⟩)), (2, .bool false), (7, .pointer (some ⟨pb, 0, none⟩)), (8, .int .i16 v), (9, .bool fx), (10, .pointer (some ⟨p, 0, none⟩))]) (fun a w' => ListI w0 G0 p pb 80 [.int .i8 0, str [], .map none] (elR 8 v fx 10 dStreamsGroupHeartbeatResponseStatus) (elQ true 8 10 dStreamsGroupHeartbeatResponseStatus) s22 n22 ((decide (n22 < 0) && decide (0 ≤ v))) ((p, ty, [] ++ [.int .i16 v, .int .i32 n1, .int .i16 n3, c5, str u8, .int .i32 n10, .int .i32 n12, .int .i32 n14, .int .i32 n17, .int .i64 n19, .slice none 0 0, .slice none 0 0, .slice none 0 0, .slice none 0 0, .bool false, .int .i32 0, .slice none 0 0, .map none] ++ []) :: []) P6 a 0 w') ?_ ?_
  · refine cI (by rfl) (fun hps=>?_) (fun hps=>?_)
    · have hps : 0 < n22 := by have := of_decide_eq_true hps; omega
      ((conv=>whnf);repeat((first|refine mvT ?_|refine mvF ?_|refine yT ?_|refine yF ?_);conv=>whnf))
      refine H.grow hps hn22.2 (by decide) rfl rfl (by decide) ?_
      intro g cap post w hc1 hc2 H
      ((conv=>whnf);repeat((first|refine mvT ?_|refine mvF ?_|refine yT ?_|refine yF ?_);conv=>whnf))
      exact ⟨_, ⟨rfl, rfl, rfl, rfl, rfl, rfl, rfl, rfl, trivial⟩, ListI.some hps (by simp; omega) hc1 hc2 H⟩
    · have hps : n22 ≤ 0 := by have := of_decide_eq_false hps; omega
      ((conv=>whnf);repeat((first|refine mvT ?_|refine mvF ?_|refine yT ?_|refine yF ?_);conv=>whnf))
      exact ⟨_, ⟨rfl, rfl, rfl, rfl, rfl, rfl, rfl, rfl, trivial⟩, H.none hps (fun h => by rcases h with h | h <;> (simp; omega)) (fun h => by simp; omega)⟩
  clear H
  rintro a22 w H
  ((conv=>whnf);repeat((first|refine mvT ?_|refine mvF ?_|refine yT ?_|refine yF ?_);conv=>whnf))
  have hpL22 : inL ((p, ty, [] ++ [.int .i16 v, .int .i32 n1, .int .i16 n3, c5, str u8, .int .i32 n10, .int .i32 n12, .int .i32 n14, .int .i32 n17, .int .i64 n19, .slice none 0 0, .slice none 0 0, .slice none 0 0, .slice none 0 0, .bool false, .int .i32 0, .slice none 0 0, .map none] ++ []) :: []) p := inL.head _ _
  refine VL.loop (fun i : Nat => [(22, .int .i32 n22), (21, a22), (23, .int .i32 i), (0, .pointer (some ⟨p, 0, none⟩)), (2, .bool false), (7, .pointer (some ⟨pb, 0, none⟩)), (8, .int .i16 v), (9, .bool fx), (10, .pointer (some ⟨p, 0, none⟩))]) (fun i w' => i ≤ 2147483647 ∧ ListI w0 G0 p pb 80 [.int .i8 0, str [], .map none] (elR 8 v fx 10 dStreamsGroupHeartbeatResponseStatus) (elQ true 8 10 dStreamsGroupHeartbeatResponseStatus) s22 n22 ((decide (n22 < 0) && decide (0 ≤ v))) ((p, ty, [] ++ [.int .i16 v, .int .i32 n1, .int .i16 n3, c5, str u8, .int .i32 n10, .int .i32 n12, .int .i32 n14, .int .i32 n17, .int .i64 n19, .slice none 0 0, .slice none 0 0, .slice none 0 0, .slice none 0 0, .bool false, .int .i32 0, .slice none 0 0, .map none] ++ []) :: []) P6 a22 i w') (fun i => n22.toNat - i) 0 ⟨rfl, rfl, rfl, rfl, rfl, rfl, rfl, rfl, rfl, trivial⟩ ⟨by decide, H⟩ ?_
  clear H
  rintro i22 w ⟨hi22, H⟩
  ((conv=>whnf);repeat((first|refine mvT ?_|refine mvF ?_|refine yT ?_|refine yF ?_);conv=>whnf))
  refine cI (by rfl) (fun h9=>?_) (fun h9=>?_)
  · have hlt22 : (i22 : Int) < n22 := of_decide_eq_true h9
    obtain ⟨g22, cap22, post22, rfl, hgo22, HI⟩ := H.go hlt22
    obtain ⟨es22, ts22, si22, hes22, hez22, hrn22, hts22, hlen1, H⟩ := HI.open hgo22.2.2.2.2
    obtain ⟨L22, hL22⟩ : ∃ L : List Ob, L = ((p, ty, [] ++ [.int .i16 v, .int .i32 n1, .int .i16 n3, c5, str u8, .int .i32 n10, .int .i32 n12, .int .i32 n14, .int .i32 n17, .int .i64 n19, .slice none 0 0, .slice none 0 0, .slice none 0 0, .slice none 0 0, .bool false, .int .i32 0, .slice none 0 0, .map none] ++ []) :: []) := ⟨_, rfl⟩
    rw [← hL22] at H hpL22
    obtain ⟨P22, hP22⟩ : ∃ P : World → Prop, P = fun w => (∀ (j : Nat) (c : List Value) (y : T), es22[j]? = some c → ts22[j]? = some y → elQ true 8 10 dStreamsGroupHeartbeatResponseStatus ⟨w, FG w0 G0⟩ c y) ∧ P6 w := ⟨_, rfl⟩
    rw [← hP22] at H
    replace H : St w0 G0 p pb si22 ((g22, 80, es22.flatten ++ [.int .i8 0, str [], .map none] ++ ((List.replicate (n22.toNat - (i22 + 1)) [.int .i8 0, str [], .map none]).flatten ++ post22)) :: L22) P22 w := H
    ((conv=>whnf);repeat((first|refine mvT ?_|refine mvF ?_|refine yT ?_|refine yF ?_);conv=>whnf))
    refine ⟨g22, 0, rfl, ⟨by omega, by omega⟩, ?_⟩
    ((conv=>whnf);repeat((first|refine mvT ?_|refine mvF ?_|refine yT ?_|refine yF ?_);conv=>whnf))
    refine Does.mono (dfStreamsGroupHeartbeatResponseStatus (pre := es22.flatten) (cur := [.int .i8 0, str [], .map none]) (post := ((List.replicate (n22.toNat - (i22 + 1)) [.int .i8 0, str [], .map none]).flatten ++ post22)) H.head (by first | (rw [hlen1]; simp; done) | (simp [hlen1]; done) | (simp [hlen1]; omega)) rfl) ?_
    rintro rd w2 ⟨hdf, hxd⟩
    replace H := H.put hdf hxd
    clear hdf hxd
    replace H : St w0 G0 p pb si22 ((g22, 80, es22.flatten ++ [.int .i8 0, str [], .map none] ++ ((List.replicate (n22.toNat - (i22 + 1)) [.int .i8 0, str [], .map none]).flatten ++ post22)) :: L22) P22 w2 := H
    ((conv=>whnf);repeat((first|refine mvT ?_|refine mvF ?_|refine yT ?_|refine yF ?_);conv=>whnf))
    have hup22 : tailBad 8 v fx dStreamsGroupHeartbeatResponseStatus dStreamsGroupHeartbeatResponseStatus si22 = true → (rdPart 9 v fx dStreamsGroupHeartbeatResponse (l, false)).2.2 = true := by
      intro hb
      refine hup0 ?_
      rw [tail_yes (rdField3.trans hr1) ⟨by decide, has_all hv⟩, tail_yes (rdField2.trans hr3) ⟨by decide, has_all hv⟩, tail_yes ((rdField8n (by decide)).trans hr5) ⟨by decide, has_all hv⟩, tail_yes (rdField8 (by decide) hr8) ⟨by decide, has_all hv⟩, tail_yes (rdField3.trans hr10) ⟨by decide, has_all hv⟩, tail_yes (rdField3.trans hr12) ⟨by decide, has_all hv⟩, tail_ver hr14 (by decide), tail_yes (rdField3.trans hr17) ⟨by decide, has_all hv⟩, tail_ver hr19 (by decide), tail_el ⟨by decide, has_all hv⟩ hln22 hgo22.2.2.2.2 hrn22 ((tailBad_part _ _ _ _ _).symm.trans hb)]
    refine Does.mono H.int8 ?_
    rintro r w ⟨n23, s23, rfl, hn23, hr23, H⟩
    ((conv=>whnf);repeat((first|refine mvT ?_|refine mvF ?_|refine yT ?_|refine yF ?_);conv=>whnf))
    refine H.st1 (v := .int .i8 n23) 0 (rfl) (rfl) rfl (by first | omega | (simp [hlen1]; done) | (simp [hlen1]; omega)) rfl (Nat.lt_of_lt_of_le (Nat.lt_succ_self _) (Nat.le_of_ble_eq_true rfl)) ?_
    intro w H
    ((conv=>whnf);repeat((first|refine mvT ?_|refine mvF ?_|refine yT ?_|refine yF ?_);conv=>whnf))
    replace H : St w0 G0 p pb s23 ((g22, 80, es22.flatten ++ [.int .i8 n23, str [], .map none] ++ ((List.replicate (n22.toNat - (i22 + 1)) [.int .i8 0, str [], .map none]).flatten ++ post22)) :: L22) P22 w := H
    (refine mvB ?_;((conv=>whnf);repeat((first|refine mvT ?_|refine mvF ?_|refine yT ?_|refine yF ?_);conv=>whnf)))
    refine VC.cutE (fun q : List UInt8 × Rd => [(27, str q.1), (0, .pointer (some ⟨p, 0, none⟩)), (2, .bool false), (7, .pointer (some ⟨pb, 0, none⟩)), (8, .int .i16 v), (9, .bool fx), (10, .pointer (some ⟨p, 0, none⟩)), (22, .int .i32 n22), (21, .slice (some ⟨g22, 0, none⟩) n22.toNat cap22), (23, .int .i32 i22), (24, .pointer (some ⟨g22, 0 + (i22 : Int).toNat * 3, none⟩)), (25, .pointer (some ⟨g22, 0 + (i22 : Int).toNat * 3, none⟩))]) (fun q w' => rdTx fx s23 = q ∧ St w0 G0 p pb q.2 ((g22, 80, es22.flatten ++ [.int .i8 n23, str [], .map none] ++ ((List.replicate (n22.toNat - (i22 + 1)) [.int .i8 0, str [], .map none]).flatten ++ post22)) :: L22) P22 w') ?_ ?_
    · refine cI (by rfl) (fun hc=>?_) (fun hc=>?_)
      · ((conv=>whnf);repeat((first|refine mvT ?_|refine mvF ?_|refine yT ?_|refine yF ?_);conv=>whnf))
        refine Does.mono H.txc ?_
        rintro r w ⟨u, s', rfl, hr, H⟩
        ((conv=>whnf);repeat((first|refine mvT ?_|refine mvF ?_|refine yT ?_|refine yF ?_);conv=>whnf))
        exact ⟨(u, s'), ⟨rfl, rfl, rfl, rfl, rfl, rfl, rfl, rfl, rfl, rfl, rfl, rfl, trivial⟩, by rw [hc]; exact hr, H⟩
      · ((conv=>whnf);repeat((first|refine mvT ?_|refine mvF ?_|refine yT ?_|refine yF ?_);conv=>whnf))
        refine Does.mono H.txp ?_
        rintro r w ⟨u, s', rfl, hr, H⟩
        ((conv=>whnf);repeat((first|refine mvT ?_|refine mvF ?_|refine yT ?_|refine yF ?_);conv=>whnf))
        exact ⟨(u, s'), ⟨rfl, rfl, rfl, rfl, rfl, rfl, rfl, rfl, rfl, rfl, rfl, rfl, trivial⟩, by rw [hc]; exact hr, H⟩
    clear H
    rintro ⟨u25, s25⟩ w ⟨hr25, H⟩
    dsimp only at hr25 H
    ((conv=>whnf);repeat((first|refine mvT ?_|refine mvF ?_|refine yT ?_|refine yF ?_);conv=>whnf))
    refine H.st1 (v := str u25) 1 (rfl) (rfl) rfl (by first | omega | (simp [hlen1]; done) | (simp [hlen1]; omega)) rfl (Nat.lt_of_lt_of_le (Nat.lt_succ_self _) (Nat.le_of_ble_eq_true rfl)) ?_
    intro w H
    ((conv=>whnf);repeat((first|refine mvT ?_|refine mvF ?_|refine yT ?_|refine yF ?_);conv=>whnf))
    replace H : St w0 G0 p pb s25 ((g22, 80, es22.flatten ++ [.int .i8 n23, str u25, .map none] ++ ((List.replicate (n22.toNat - (i22 + 1)) [.int .i8 0, str [], .map none]).flatten ++ post22)) :: L22) P22 w := H
    (refine mvB ?_;((conv=>whnf);repeat((first|refine mvT ?_|refine mvF ?_|refine yT ?_|refine yF ?_);conv=>whnf)))
    refine VC.cutB (fun q : Value × List Tg × Rd => [(0, .pointer (some ⟨p, 0, none⟩)), (2, .bool false), (7, .pointer (some ⟨pb, 0, none⟩)), (8, .int .i16 v), (9, .bool fx), (10, .pointer (some ⟨p, 0, none⟩)), (22, .int .i32 n22), (21, .slice (some ⟨g22, 0, none⟩) n22.toNat cap22), (23, .int .i32 i22), (24, .pointer (some ⟨g22, 0 + (i22 : Int).toNat * 3, none⟩)), (25, .pointer (some ⟨g22, 0 + (i22 : Int).toNat * 3, none⟩))]) (fun q w' => rdTagsF fx s25 = q.2 ∧ St w0 G0 p pb q.2.2 ((g22, 80, es22.flatten ++ [.int .i8 n23, str u25, q.1] ++ ((List.replicate (n22.toNat - (i22 + 1)) [.int .i8 0, str [], .map none]).flatten ++ post22)) :: L22) (fun w => TGf w0 G0 q.1 q.2.1 w ∧ P22 w) w') ?_ ?_
    · refine cI (by rfl) (fun hc=>?_) (fun hc=>?_)
      · ((conv=>whnf);repeat((first|refine mvT ?_|refine mvF ?_|refine yT ?_|refine yF ?_);conv=>whnf))
        refine Does.mono H.tags ?_
        rintro r w ⟨m, u, s', rfl, hone, hr, H⟩
        ((conv=>whnf);repeat((first|refine mvT ?_|refine mvF ?_|refine yT ?_|refine yF ?_);conv=>whnf))
        refine H.st1 (v := m) 2 (rfl) (hone) rfl (by first | omega | (simp [hlen1]; done) | (simp [hlen1]; omega)) rfl (Nat.lt_of_lt_of_le (Nat.lt_succ_self _) (Nat.le_of_ble_eq_true rfl)) ?_
        intro w H
        ((conv=>whnf);repeat((first|refine mvT ?_|refine mvF ?_|refine yT ?_|refine yF ?_);conv=>whnf))
        exact ⟨(m, u, s'), ⟨rfl, rfl, rfl, rfl, rfl, rfl, rfl, rfl, rfl, rfl, rfl, trivial⟩, by rw [rdTagsF, if_pos hc]; exact hr, H⟩
      · ((conv=>whnf);repeat((first|refine mvT ?_|refine mvF ?_|refine yT ?_|refine yF ?_);conv=>whnf))
        exact ⟨(.map none, [], s25), ⟨rfl, rfl, rfl, rfl, rfl, rfl, rfl, rfl, rfl, rfl, rfl, trivial⟩, by rw [rdTagsF, if_neg (by rw [hc]; decide)], H.add fun w' _ => TagsR.nil _ _⟩
    clear H
    rintro ⟨m27, u27, s27⟩ w ⟨htg, H⟩
    dsimp only at htg H
    ((conv=>whnf);repeat((first|refine mvT ?_|refine mvF ?_|refine yT ?_|refine yF ?_);conv=>whnf))
    obtain ⟨P28, hP28⟩ : ∃ P : World → Prop, P = fun w => TGf w0 G0 m27 u27 w ∧ P22 w := ⟨_, rfl⟩
    replace H : St w0 G0 p pb s27 ((g22, 80, es22.flatten ++ [.int .i8 n23, str u25, m27] ++ ((List.replicate (n22.toNat - (i22 + 1)) [.int .i8 0, str [], .map none]).flatten ++ post22)) :: L22) P28 w := by rw [hP28]; exact H
    have hpart : rdPart 8 v fx dStreamsGroupHeartbeatResponseStatus si22 = (.mk 0 [] false [numT n23, .mk 0 u25 false [] []] u27, s27) := by
      unfold rdPart rdPartW
      rw [rdTail_plain (by decide)]
      rw [rdAll_yes (df := dfT 8) (rdField1.trans hr23) ⟨by decide, has_all hv⟩, rdAll_yes (df := dfT 8) (rdField8 (by decide) hr25) ⟨by decide, has_all hv⟩]
      simp only [rdAll]
      rw [htg]
    refine ⟨i22 + 1, ⟨rfl, rfl, ?_, rfl, rfl, rfl, rfl, rfl, rfl, trivial⟩, ⟨by omega, ListI.back hgo22 (LoopI.next hes22 hez22 hrn22 hts22 (cur := [.int .i8 n23, str u25, m27]) (x := .mk 0 [] false [numT n23, .mk 0 u25 false [] []] u27) (hpart) rfl (by rw [← hL22]; exact H) fun w hP => ?_)⟩, by omega⟩
    · show some (Value.int .i32 _) = _
      rw [IntKind.wrap_i32]
      simp only [Option.some.injEq, Value.int.injEq, true_and]
      omega
    · skip
      rw [hP28] at hP
      obtain ⟨hf28_, hP⟩ := hP
      rw [hP22] at hP
      exact ⟨QPt (QA1 (QF1 hn23) (QA1 (QF8 (by decide) u25) (QA0))) hf28_, hP⟩
  have hge22 : ¬ (i22 : Int) < n22 := of_decide_eq_false h9
  obtain ⟨l29, s29, hone29, hl29, hr29, H⟩ := H.done hge22 hln22 (nl := nlF (.mk 11 0 (-1) 0 (-1) 0 10 dStreamsGroupHeartbeatResponseStatus) v) (sz := elZ true 8 10 dStreamsGroupHeartbeatResponseStatus) rfl hpL22 rfl
  ((conv=>whnf);repeat((first|refine mvT ?_|refine mvF ?_|refine yT ?_|refine yF ?_);conv=>whnf))
  obtain ⟨P30, hP30⟩ : ∃ P : World → Prop, P = fun w => ListR true (elZ true 8 10 dStreamsGroupHeartbeatResponseStatus) (elQ true 8 10 dStreamsGroupHeartbeatResponseStatus ⟨w, FG w0 G0⟩) w (FG w0 G0) a22 (.mk 0 [] ((decide (n22 < 0) && decide (0 ≤ v))) l29 []) ∧ P6 w := ⟨_, rfl⟩
  replace H : St w0 G0 p pb s29 ((p, ty, [] ++ [.int .i16 v, .int .i32 n1, .int .i16 n3, c5, str u8, .int .i32 n10, .int .i32 n12, .int .i32 n14, .int .i32 n17, .int .i64 n19, .slice none 0 0, .slice none 0 0, .slice none 0 0, .slice none 0 0, .bool false, .int .i32 0, .slice none 0 0, .map none] ++ []) :: []) P30 w := by rw [hP30]; exact H
  refine H.st1 (v := a22) 10 (cells_one hone29) (hone29) rfl (by simp) rfl (Nat.lt_of_lt_of_le (Nat.lt_succ_self _) (Nat.le_of_ble_eq_true rfl)) ?_
  intro w H
  ((conv=>whnf);repeat((first|refine mvT ?_|refine mvF ?_|refine yT ?_|refine yF ?_);conv=>whnf))
  replace H : St w0 G0 p pb s29 ((p, ty, [] ++ [.int .i16 v, .int .i32 n1, .int .i16 n3, c5, str u8, .int .i32 n10, .int .i32 n12, .int .i32 n14, .int .i32 n17, .int .i64 n19, a22, .slice none 0 0, .slice none 0 0, .slice none 0 0, .bool false, .int .i32 0, .slice none 0 0, .map none] ++ []) :: []) P30 w := H
  refine ldS (H.cell (o := 0) rfl (k := 11) rfl) ?_;((conv=>whnf);repeat((first|refine mvT ?_|refine mvF ?_|refine yT ?_|refine yF ?_);conv=>whnf))
  (refine mvB ?_;((conv=>whnf);repeat((first|refine mvT ?_|refine mvF ?_|refine yT ?_|refine yF ?_);conv=>whnf)))
  refine VC.cutE (fun q : Int × Rd => [(30, .int .i32 q.1), (29, .slice none 0 0), (0, .pointer (some ⟨p, 0, none⟩)), (2, .bool false), (7, .pointer (some ⟨pb, 0, none⟩)), (8, .int .i16 v), (9, .bool fx), (10, .pointer (some ⟨p, 0, none⟩))]) (fun q w' => (-2147483648 ≤ q.1 ∧ q.1 ≤ 2147483647) ∧ rdLn fx s29 = q ∧ St w0 G0 p pb q.2 ((p, ty, [] ++ [.int .i16 v, .int .i32 n1, .int .i16 n3, c5, str u8, .int .i32 n10, .int .i32 n12, .int .i32 n14, .int .i32 n17, .int .i64 n19, a22, .slice none 0 0, .slice none 0 0, .slice none 0 0, .bool false, .int .i32 0, .slice none 0 0, .map none] ++ []) :: []) P30 w') ?_ ?_
  · refine cI (by rfl) (fun hc=>?_) (fun hc=>?_)
    · ((conv=>whnf);repeat((first|refine mvT ?_|refine mvF ?_|refine yT ?_|refine yF ?_);conv=>whnf))
      refine Does.mono H.lnc ?_
      rintro r w ⟨n, s', rfl, hn, hr, H⟩
      ((conv=>whnf);repeat((first|refine mvT ?_|refine mvF ?_|refine yT ?_|refine yF ?_);conv=>whnf))
      exact ⟨(n, s'), ⟨rfl, rfl, rfl, rfl, rfl, rfl, rfl, rfl, trivial⟩, hn, by rw [hc]; exact hr, H⟩
    · ((conv=>whnf);repeat((first|refine mvT ?_|refine mvF ?_|refine yT ?_|refine yF ?_);conv=>whnf))
      refine Does.mono H.lnp ?_
      rintro r w ⟨n, s', rfl, hn, hr, H⟩
      ((conv=>whnf);repeat((first|refine mvT ?_|refine mvF ?_|refine yT ?_|refine yF ?_);conv=>whnf))
      exact ⟨(n, s'), ⟨rfl, rfl, rfl, rfl, rfl, rfl, rfl, rfl, trivial⟩, hn, by rw [hc]; exact hr, H⟩
  clear H
  rintro ⟨n32, s32⟩ w ⟨hn32, hln32, H⟩
  dsimp only at hn32 hln32 H
  ((conv=>whnf);repeat((first|refine mvT ?_|refine mvF ?_|refine yT ?_|refine yF ?_);conv=>whnf))
  intro cq hcq
  obtain rfl : cq = false := by rw [← hcq]; exact decide_eq_false (by omega)
  ((conv=>whnf);repeat((first|refine mvT ?_|refine mvF ?_|refine yT ?_|refine yF ?_);conv=>whnf))
  refine VC.cutE (fun a : Option Addr => [(30, .int .i32 n32), (29, .slice a 0 0), (0, .pointer (some ⟨p, 0, none⟩)), (2, .bool false), (7, .pointer (some ⟨pb, 0, none⟩)), (8, .int .i16 v), (9, .bool fx), (10, .pointer (some ⟨p, 0, none⟩))]) (fun a w' => StE w0 G0 p pb s32 85 ((p, ty, [] ++ [.int .i16 v, .int .i32 n1, .int .i16 n3, c5, str u8, .int .i32 n10, .int .i32 n12, .int .i32 n14, .int .i32 n17, .int .i64 n19, a22, .slice none 0 0, .slice none 0 0, .slice none 0 0, .bool false, .int .i32 0, .slice none 0 0, .map none] ++ []) :: []) P30 (v < 0 ∨ n32 = 0) a w') ?_ ?_
  · refine cI (by rfl) (fun hz=>?_) (fun hz=>?_)
    · have hz : n32 = 0 := by simpa using hz
      ((conv=>whnf);repeat((first|refine mvT ?_|refine mvF ?_|refine yT ?_|refine yF ?_);conv=>whnf))
      intro be we hbe hoe hxe
      ((conv=>whnf);repeat((first|refine mvT ?_|refine mvF ?_|refine yT ?_|refine yF ?_);conv=>whnf))
      exact ⟨_, ⟨rfl, rfl, rfl, rfl, rfl, rfl, rfl, rfl, trivial⟩, .inr ⟨.inr hz, be, rfl, H.push hxe hoe hbe⟩⟩
    · have hz : ¬ n32 = 0 := by simpa using hz
      ((conv=>whnf);repeat((first|refine mvT ?_|refine mvF ?_|refine yT ?_|refine yF ?_);conv=>whnf))
      exact ⟨_, ⟨rfl, rfl, rfl, rfl, rfl, rfl, rfl, rfl, trivial⟩, .inl ⟨by omega, rfl, H⟩⟩
  clear H
  rintro ae32 w H
  ((conv=>whnf);repeat((first|refine mvT ?_|refine mvF ?_|refine yT ?_|refine yF ?_);conv=>whnf))
  refine Does.mono H.ok ?_
  rintro r w ⟨rfl, H⟩
  ((conv=>whnf);repeat((first|refine mvT ?_|refine mvF ?_|refine yT ?_|refine yF ?_);conv=>whnf))
  refine cI (by rfl) (fun hbd=>?_) (fun hbd=>?_)
  · have hbd : s32.2 = true := by simpa using hbd
    ((conv=>whnf);repeat((first|refine mvT ?_|refine mvF ?_|refine yT ?_|refine yF ?_);conv=>whnf))
    refine Does.mono (H.done hL hp1) ?_
    rintro r w ⟨rfl, H⟩
    ((conv=>whnf);repeat((first|refine mvT ?_|refine mvF ?_|refine yT ?_|refine yF ?_);conv=>whnf))
    obtain ⟨_, H⟩ := H
    refine RdPost.early hbd (hup0 (?_)) H
    rw [tail_yes (rdField3.trans hr1) ⟨by decide, has_all hv⟩, tail_yes (rdField2.trans hr3) ⟨by decide, has_all hv⟩, tail_yes ((rdField8n (by decide)).trans hr5) ⟨by decide, has_all hv⟩, tail_yes (rdField8 (by decide) hr8) ⟨by decide, has_all hv⟩, tail_yes (rdField3.trans hr10) ⟨by decide, has_all hv⟩, tail_yes (rdField3.trans hr12) ⟨by decide, has_all hv⟩, tail_ver hr14 (by decide), tail_yes (rdField3.trans hr17) ⟨by decide, has_all hv⟩, tail_ver hr19 (by decide), tail_yes ((rdField_list _ _ _ _ _ _ _ _ _ _ _).trans hr29) ⟨by decide, has_all hv⟩, tail_len ⟨by decide, has_all hv⟩ hln32 hbd]
  have hbd : s32.2 = false := by simpa using hbd
  clear hbd
  ((conv=>whnf);repeat((first|refine mvT ?_|refine mvF ?_|refine yT ?_|refine yF ?_);conv=>whnf))
  refine cut_zero ?_
  ((conv=>whnf);repeat((first|refine mvT ?_|refine mvF ?_|refine yT ?_|refine yF ?_);conv=>whnf))
  refine VC.cutE (fun a : Value => [(30, .int .i32 n32), (29, a), (0, .pointer (some ⟨p, 0, none⟩)), (2, .bool false), (7, .pointer (some ⟨pb, 0, none⟩)), (8, .int .i16 v), (9, .bool fx), (10, .pointer (some ⟨p, 0, none⟩))]) (fun a w' => ListI w0 G0 p pb 85 [str [], .slice none 0 0, .map none] (elR 8 v fx 10 dTaskIDs) (elQ true 8 10 dTaskIDs) s32 n32 ((decide (n32 < 0) && decide (0 ≤ v))) ((p, ty, [] ++ [.int .i16 v, .int .i32 n1, .int .i16 n3, c5, str u8, .int .i32 n10, .int .i32 n12, .int .i32 n14, .int .i32 n17, .int .i64 n19, a22, .slice none 0 0, .slice none 0 0, .slice none 0 0, .bool false, .int .i32 0, .slice none 0 0, .map none] ++ []) :: []) P30 a 0 w') ?_ ?_
  · refine cI (by rfl) (fun hps=>?_) (fun hps=>?_)
    · have hps : 0 < n32 := by have := of_decide_eq_true hps; omega
      ((conv=>whnf);repeat((first|refine mvT ?_|refine mvF ?_|refine yT ?_|refine yF ?_);conv=>whnf))
      refine H.grow hps hn32.2 (by decide) rfl rfl (by decide) ?_
      intro g cap post w hc1 hc2 H
      ((conv=>whnf);repeat((first|refine mvT ?_|refine mvF ?_|refine yT ?_|refine yF ?_);conv=>whnf))
      exact ⟨_, ⟨rfl, rfl, rfl, rfl, rfl, rfl, rfl, rfl, trivial⟩, ListI.some hps (by simp; omega) hc1 hc2 H⟩
    · have hps : n32 ≤ 0 := by have := of_decide_eq_false hps; omega
      ((conv=>whnf);repeat((first|refine mvT ?_|refine mvF ?_|refine yT ?_|refine yF ?_);conv=>whnf))
      exact ⟨_, ⟨rfl, rfl, rfl, rfl, rfl, rfl, rfl, rfl, trivial⟩, H.none hps (fun h => by rcases h with h | h <;> (simp; omega)) (fun h => by simp; omega)⟩
  clear H
  rintro a32 w H
  ((conv=>whnf);repeat((first|refine mvT ?_|refine mvF ?_|refine yT ?_|refine yF ?_);conv=>whnf))
  have hpL32 : inL ((p, ty, [] ++ [.int .i16 v, .int .i32 n1, .int .i16 n3, c5, str u8, .int .i32 n10, .int .i32 n12, .int .i32 n14, .int .i32 n17, .int .i64 n19, a22, .slice none 0 0, .slice none 0 0, .slice none 0 0, .bool false, .int .i32 0, .slice none 0 0, .map none] ++ []) :: []) p := inL.head _ _
  refine VL.loop (fun i : Nat => [(30, .int .i32 n32), (29, a32), (31, .int .i32 i), (0, .pointer (some ⟨p, 0, none⟩)), (2, .bool false), (7, .pointer (some ⟨pb, 0, none⟩)), (8, .int .i16 v), (9, .bool fx), (10, .pointer (some ⟨p, 0, none⟩))]) (fun i w' => i ≤ 2147483647 ∧ ListI w0 G0 p pb 85 [str [], .slice none 0 0, .map none] (elR 8 v fx 10 dTaskIDs) (elQ true 8 10 dTaskIDs) s32 n32 ((decide (n32 < 0) && decide (0 ≤ v))) ((p, ty, [] ++ [.int .i16 v, .int .i32 n1, .int .i16 n3, c5, str u8, .int .i32 n10, .int .i32 n12, .int .i32 n14, .int .i32 n17, .int .i64 n19, a22, .slice none 0 0, .slice none 0 0, .slice none 0 0, .bool false, .int .i32 0, .slice none 0 0, .map none] ++ []) :: []) P30 a32 i w') (fun i => n32.toNat - i) 0 ⟨rfl, rfl, rfl, rfl, rfl, rfl, rfl, rfl, rfl, trivial⟩ ⟨by decide, H⟩ ?_
  clear H
  rintro i32 w ⟨hi32, H⟩
  ((conv=>whnf);repeat((first|refine mvT ?_|refine mvF ?_|refine yT ?_|refine yF ?_);conv=>whnf))
  refine cI (by rfl) (fun h9=>?_) (fun h9=>?_)
  · have hlt32 : (i32 : Int) < n32 := of_decide_eq_true h9
    obtain ⟨g32, cap32, post32, rfl, hgo32, HI⟩ := H.go hlt32
    obtain ⟨es32, ts32, si32, hes32, hez32, hrn32, hts32, hlen1, H⟩ := HI.open hgo32.2.2.2.2
    obtain ⟨L32, hL32⟩ : ∃ L : List Ob, L = ((p, ty, [] ++ [.int .i16 v, .int .i32 n1, .int .i16 n3, c5, str u8, .int .i32 n10, .int .i32 n12, .int .i32 n14, .int .i32 n17, .int .i64 n19, a22, .slice none 0 0, .slice none 0 0, .slice none 0 0, .bool false, .int .i32 0, .slice none 0 0, .map none] ++ []) :: []) := ⟨_, rfl⟩
    rw [← hL32] at H hpL32
    obtain ⟨P32, hP32⟩ : ∃ P : World → Prop, P = fun w => (∀ (j : Nat) (c : List Value) (y : T), es32[j]? = some c → ts32[j]? = some y → elQ true 8 10 dTaskIDs ⟨w, FG w0 G0⟩ c y) ∧ P30 w := ⟨_, rfl⟩
    rw [← hP32] at H
    replace H : St w0 G0 p pb si32 ((g32, 85, es32.flatten ++ [str [], .slice none 0 0, .map none] ++ ((List.replicate (n32.toNat - (i32 + 1)) [str [], .slice none 0 0, .map none]).flatten ++ post32)) :: L32) P32 w := H
    ((conv=>whnf);repeat((first|refine mvT ?_|refine mvF ?_|refine yT ?_|refine yF ?_);conv=>whnf))
    refine ⟨g32, 0, rfl, ⟨by omega, by omega⟩, ?_⟩
    ((conv=>whnf);repeat((first|refine mvT ?_|refine mvF ?_|refine yT ?_|refine yF ?_);conv=>whnf))
    refine Does.mono (dfTaskIDs (pre := es32.flatten) (cur := [str [], .slice none 0 0, .map none]) (post := ((List.replicate (n32.toNat - (i32 + 1)) [str [], .slice none 0 0, .map none]).flatten ++ post32)) H.head (by first | (rw [hlen1]; simp; done) | (simp [hlen1]; done) | (simp [hlen1]; omega)) rfl) ?_
    rintro rd w2 ⟨hdf, hxd⟩
    replace H := H.put hdf hxd
    clear hdf hxd
    replace H : St w0 G0 p pb si32 ((g32, 85, es32.flatten ++ [str [], .slice none 0 0, .map none] ++ ((List.replicate (n32.toNat - (i32 + 1)) [str [], .slice none 0 0, .map none]).flatten ++ post32)) :: L32) P32 w2 := H
    ((conv=>whnf);repeat((first|refine mvT ?_|refine mvF ?_|refine yT ?_|refine yF ?_);conv=>whnf))
    have hup32 : tailBad 8 v fx dTaskIDs dTaskIDs si32 = true → (rdPart 9 v fx dStreamsGroupHeartbeatResponse (l, false)).2.2 = true := by
      intro hb
      refine hup0 ?_
      rw [tail_yes (rdField3.trans hr1) ⟨by decide, has_all hv⟩, tail_yes (rdField2.trans hr3) ⟨by decide, has_all hv⟩, tail_yes ((rdField8n (by decide)).trans hr5) ⟨by decide, has_all hv⟩, tail_yes (rdField8 (by decide) hr8) ⟨by decide, has_all hv⟩, tail_yes (rdField3.trans hr10) ⟨by decide, has_all hv⟩, tail_yes (rdField3.trans hr12) ⟨by decide, has_all hv⟩, tail_ver hr14 (by decide), tail_yes (rdField3.trans hr17) ⟨by decide, has_all hv⟩, tail_ver hr19 (by decide), tail_yes ((rdField_list _ _ _ _ _ _ _ _ _ _ _).trans hr29) ⟨by decide, has_all hv⟩, tail_el ⟨by decide, has_all hv⟩ hln32 hgo32.2.2.2.2 hrn32 ((tailBad_part _ _ _ _ _).symm.trans hb)]
    (refine mvB ?_;((conv=>whnf);repeat((first|refine mvT ?_|refine mvF ?_|refine yT ?_|refine yF ?_);conv=>whnf)))
    refine VC.cutE (fun q : List UInt8 × Rd => [(34, str q.1), (0, .pointer (some ⟨p, 0, none⟩)), (2, .bool false), (7, .pointer (some ⟨pb, 0, none⟩)), (8, .int .i16 v), (9, .bool fx), (10, .pointer (some ⟨p, 0, none⟩)), (30, .int .i32 n32), (29, .slice (some ⟨g32, 0, none⟩) n32.toNat cap32), (31, .int .i32 i32), (32, .pointer (some ⟨g32, 0 + (i32 : Int).toNat * 3, none⟩)), (33, .pointer (some ⟨g32, 0 + (i32 : Int).toNat * 3, none⟩))]) (fun q w' => rdTx fx si32 = q ∧ St w0 G0 p pb q.2 ((g32, 85, es32.flatten ++ [str [], .slice none 0 0, .map none] ++ ((List.replicate (n32.toNat - (i32 + 1)) [str [], .slice none 0 0, .map none]).flatten ++ post32)) :: L32) P32 w') ?_ ?_
    · refine cI (by rfl) (fun hc=>?_) (fun hc=>?_)
      · ((conv=>whnf);repeat((first|refine mvT ?_|refine mvF ?_|refine yT ?_|refine yF ?_);conv=>whnf))
        refine Does.mono H.txc ?_
        rintro r w ⟨u, s', rfl, hr, H⟩
        ((conv=>whnf);repeat((first|refine mvT ?_|refine mvF ?_|refine yT ?_|refine yF ?_);conv=>whnf))
        exact ⟨(u, s'), ⟨rfl, rfl, rfl, rfl, rfl, rfl, rfl, rfl, rfl, rfl, rfl, rfl, trivial⟩, by rw [hc]; exact hr, H⟩
      · ((conv=>whnf);repeat((first|refine mvT ?_|refine mvF ?_|refine yT ?_|refine yF ?_);conv=>whnf))
        refine Does.mono H.txp ?_
        rintro r w ⟨u, s', rfl, hr, H⟩
        ((conv=>whnf);repeat((first|refine mvT ?_|refine mvF ?_|refine yT ?_|refine yF ?_);conv=>whnf))
        exact ⟨(u, s'), ⟨rfl, rfl, rfl, rfl, rfl, rfl, rfl, rfl, rfl, rfl, rfl, rfl, trivial⟩, by rw [hc]; exact hr, H⟩
    clear H
    rintro ⟨u33, s33⟩ w ⟨hr33, H⟩
    dsimp only at hr33 H
    ((conv=>whnf);repeat((first|refine mvT ?_|refine mvF ?_|refine yT ?_|refine yF ?_);conv=>whnf))
    refine H.st1 (v := str u33) 0 (rfl) (rfl) rfl (by first | omega | (simp [hlen1]; done) | (simp [hlen1]; omega)) rfl (Nat.lt_of_lt_of_le (Nat.lt_succ_self _) (Nat.le_of_ble_eq_true rfl)) ?_
    intro w H
    ((conv=>whnf);repeat((first|refine mvT ?_|refine mvF ?_|refine yT ?_|refine yF ?_);conv=>whnf))
    replace H : St w0 G0 p pb s33 ((g32, 85, es32.flatten ++ [str u33, .slice none 0 0, .map none] ++ ((List.replicate (n32.toNat - (i32 + 1)) [str [], .slice none 0 0, .map none]).flatten ++ post32)) :: L32) P32 w := H
    refine ⟨_, ld (H.cell rfl (k := 1) rfl) (by first | omega | (simp [hlen1]; done) | (simp [hlen1]; omega)), ?_⟩; ((conv=>whnf);repeat((first|refine mvT ?_|refine mvF ?_|refine yT ?_|refine yF ?_);conv=>whnf))
    (refine mvB ?_;((conv=>whnf);repeat((first|refine mvT ?_|refine mvF ?_|refine yT ?_|refine yF ?_);conv=>whnf)))
    refine VC.cutE (fun q : Int × Rd => [(37, .int .i32 q.1), (36, .slice none 0 0), (0, .pointer (some ⟨p, 0, none⟩)), (2, .bool false), (7, .pointer (some ⟨pb, 0, none⟩)), (8, .int .i16 v), (9, .bool fx), (10, .pointer (some ⟨p, 0, none⟩)), (30, .int .i32 n32), (29, .slice (some ⟨g32, 0, none⟩) n32.toNat cap32), (31, .int .i32 i32), (32, .pointer (some ⟨g32, 0 + (i32 : Int).toNat * 3, none⟩)), (33, .pointer (some ⟨g32, 0 + (i32 : Int).toNat * 3, none⟩))]) (fun q w' => (-2147483648 ≤ q.1 ∧ q.1 ≤ 2147483647) ∧ rdLn fx s33 = q ∧ St w0 G0 p pb q.2 ((g32, 85, es32.flatten ++ [str u33, .slice none 0 0, .map none] ++ ((List.replicate (n32.toNat - (i32 + 1)) [str [], .slice none 0 0, .map none]).flatten ++ post32)) :: L32) P32 w') ?_ ?_
    · refine cI (by rfl) (fun hc=>?_) (fun hc=>?_)
      · ((conv=>whnf);repeat((first|refine mvT ?_|refine mvF ?_|refine yT ?_|refine yF ?_);conv=>whnf))
        refine Does.mono H.lnc ?_
        rintro r w ⟨n, s', rfl, hn, hr, H⟩
        ((conv=>whnf);repeat((first|refine mvT ?_|refine mvF ?_|refine yT ?_|refine yF ?_);conv=>whnf))
        exact ⟨(n, s'), ⟨rfl, rfl, rfl, rfl, rfl, rfl, rfl, rfl, rfl, rfl, rfl, rfl, rfl, trivial⟩, hn, by rw [hc]; exact hr, H⟩
      · ((conv=>whnf);repeat((first|refine mvT ?_|refine mvF ?_|refine yT ?_|refine yF ?_);conv=>whnf))
        refine Does.mono H.lnp ?_
        rintro r w ⟨n, s', rfl, hn, hr, H⟩
        ((conv=>whnf);repeat((first|refine mvT ?_|refine mvF ?_|refine yT ?_|refine yF ?_);conv=>whnf))
        exact ⟨(n, s'), ⟨rfl, rfl, rfl, rfl, rfl, rfl, rfl, rfl, rfl, rfl, rfl, rfl, rfl, trivial⟩, hn, by rw [hc]; exact hr, H⟩
    clear H
    rintro ⟨n35, s35⟩ w ⟨hn35, hln35, H⟩
    dsimp only at hn35 hln35 H
    ((conv=>whnf);repeat((first|refine mvT ?_|refine mvF ?_|refine yT ?_|refine yF ?_);conv=>whnf))
    refine Does.mono H.ok ?_
    rintro r w ⟨rfl, H⟩
    ((conv=>whnf);repeat((first|refine mvT ?_|refine mvF ?_|refine yT ?_|refine yF ?_);conv=>whnf))
    refine cI (by rfl) (fun hbd=>?_) (fun hbd=>?_)
    · have hbd : s35.2 = true := by simpa using hbd
      ((conv=>whnf);repeat((first|refine mvT ?_|refine mvF ?_|refine yT ?_|refine yF ?_);conv=>whnf))
      refine Does.mono (H.done hL hp1) ?_
      rintro r w ⟨rfl, H⟩
      ((conv=>whnf);repeat((first|refine mvT ?_|refine mvF ?_|refine yT ?_|refine yF ?_);conv=>whnf))
      refine RdPost.early hbd (hup32 (?_)) H
      rw [tail_yes (rdField8 (by decide) hr33) ⟨by decide, has_all hv⟩, tail_len ⟨by decide, has_all hv⟩ hln35 hbd]
    have hbd : s35.2 = false := by simpa using hbd
    clear hbd
    ((conv=>whnf);repeat((first|refine mvT ?_|refine mvF ?_|refine yT ?_|refine yF ?_);conv=>whnf))
    refine cut_zero ?_
    ((conv=>whnf);repeat((first|refine mvT ?_|refine mvF ?_|refine yT ?_|refine yF ?_);conv=>whnf))
    refine VC.cutE (fun a : Value => [(37, .int .i32 n35), (36, a), (0, .pointer (some ⟨p, 0, none⟩)), (2, .bool false), (7, .pointer (some ⟨pb, 0, none⟩)), (8, .int .i16 v), (9, .bool fx), (10, .pointer (some ⟨p, 0, none⟩)), (30, .int .i32 n32), (29, .slice (some ⟨g32, 0, none⟩) n32.toNat cap32), (31, .int .i32 i32), (32, .pointer (some ⟨g32, 0 + (i32 : Int).toNat * 3, none⟩)), (33, .pointer (some ⟨g32, 0 + (i32 : Int).toNat * 3, none⟩))]) (fun a w' => ListI w0 G0 p pb 21 [.int .i32 0] (elR 7 v fx 3 []) (elQ true 7 3 []) s35 n35 (decide (n35 ≤ 0)) ((g32, 85, es32.flatten ++ [str u33, .slice none 0 0, .map none] ++ ((List.replicate (n32.toNat - (i32 + 1)) [str [], .slice none 0 0, .map none]).flatten ++ post32)) :: L32) P32 a 0 w') ?_ ?_
    · refine cI (by rfl) (fun hps=>?_) (fun hps=>?_)
      · have hps : 0 < n35 := by have := of_decide_eq_true hps; omega
        ((conv=>whnf);repeat((first|refine mvT ?_|refine mvF ?_|refine yT ?_|refine yF ?_);conv=>whnf))
        refine H.grow hps hn35.2 (by decide) rfl rfl (by decide) ?_
        intro g cap post w hc1 hc2 H
        ((conv=>whnf);repeat((first|refine mvT ?_|refine mvF ?_|refine yT ?_|refine yF ?_);conv=>whnf))
        exact ⟨_, ⟨rfl, rfl, rfl, rfl, rfl, rfl, rfl, rfl, rfl, rfl, rfl, rfl, rfl, trivial⟩, ListI.some hps (decide_eq_false (by omega)) hc1 hc2 H⟩
      · have hps : n35 ≤ 0 := by have := of_decide_eq_false hps; omega
        ((conv=>whnf);repeat((first|refine mvT ?_|refine mvF ?_|refine yT ?_|refine yF ?_);conv=>whnf))
        exact ⟨_, ⟨rfl, rfl, rfl, rfl, rfl, rfl, rfl, rfl, rfl, rfl, rfl, rfl, rfl, trivial⟩, ListI.none hps (decide_eq_true hps) H⟩
    clear H
    rintro a35 w H
    ((conv=>whnf);repeat((first|refine mvT ?_|refine mvF ?_|refine yT ?_|refine yF ?_);conv=>whnf))
    have hpL35 : inL ((g32, 85, es32.flatten ++ [str u33, .slice none 0 0, .map none] ++ ((List.replicate (n32.toNat - (i32 + 1)) [str [], .slice none 0 0, .map none]).flatten ++ post32)) :: L32) p := inL.tail hpL32
    refine VL.loop (fun i : Nat => [(37, .int .i32 n35), (36, a35), (38, .int .i32 i), (0, .pointer (some ⟨p, 0, none⟩)), (2, .bool false), (7, .pointer (some ⟨pb, 0, none⟩)), (8, .int .i16 v), (9, .bool fx), (10, .pointer (some ⟨p, 0, none⟩)), (30, .int .i32 n32), (29, .slice (some ⟨g32, 0, none⟩) n32.toNat cap32), (31, .int .i32 i32), (32, .pointer (some ⟨g32, 0 + (i32 : Int).toNat * 3, none⟩)), (33, .pointer (some ⟨g32, 0 + (i32 : Int).toNat * 3, none⟩))]) (fun i w' => i ≤ 2147483647 ∧ ListI w0 G0 p pb 21 [.int .i32 0] (elR 7 v fx 3 []) (elQ true 7 3 []) s35 n35 (decide (n35 ≤ 0)) ((g32, 85, es32.flatten ++ [str u33, .slice none 0 0, .map none] ++ ((List.replicate (n32.toNat - (i32 + 1)) [str [], .slice none 0 0, .map none]).flatten ++ post32)) :: L32) P32 a35 i w') (fun i => n35.toNat - i) 0 ⟨rfl, rfl, rfl, rfl, rfl, rfl, rfl, rfl, rfl, rfl, rfl, rfl, rfl, rfl, trivial⟩ ⟨by decide, H⟩ ?_
    clear H
    rintro i35 w ⟨hi35, H⟩
    ((conv=>whnf);repeat((first|refine mvT ?_|refine mvF ?_|refine yT ?_|refine yF ?_);conv=>whnf))
    refine cI (by rfl) (fun h9=>?_) (fun h9=>?_)
    · have hlt35 : (i35 : Int) < n35 := of_decide_eq_true h9
      obtain ⟨g35, cap35, post35, rfl, hgo35, HI⟩ := H.go hlt35
      obtain ⟨es35, ts35, si35, hes35, hez35, hrn35, hts35, hlen2, H⟩ := HI.open hgo35.2.2.2.2
      obtain ⟨L35, hL35⟩ : ∃ L : List Ob, L = ((g32, 85, es32.flatten ++ [str u33, .slice none 0 0, .map none] ++ ((List.replicate (n32.toNat - (i32 + 1)) [str [], .slice none 0 0, .map none]).flatten ++ post32)) :: L32) := ⟨_, rfl⟩
      rw [← hL35] at H hpL35
      obtain ⟨P35, hP35⟩ : ∃ P : World → Prop, P = fun w => (∀ (j : Nat) (c : List Value) (y : T), es35[j]? = some c → ts35[j]? = some y → elQ true 7 3 [] ⟨w, FG w0 G0⟩ c y) ∧ P32 w := ⟨_, rfl⟩
      rw [← hP35] at H
      replace H : St w0 G0 p pb si35 ((g35, 21, es35.flatten ++ [.int .i32 0] ++ ((List.replicate (n35.toNat - (i35 + 1)) [.int .i32 0]).flatten ++ post35)) :: L35) P35 w := H
      ((conv=>whnf);repeat((first|refine mvT ?_|refine mvF ?_|refine yT ?_|refine yF ?_);conv=>whnf))
      refine Does.mono H.int32 ?_
      rintro r w ⟨n36, s36, rfl, hn36, hr36, H⟩
      ((conv=>whnf);repeat((first|refine mvT ?_|refine mvF ?_|refine yT ?_|refine yF ?_);conv=>whnf))
      refine ⟨g35, 0, rfl, ⟨by omega, by omega⟩, ?_⟩
      ((conv=>whnf);repeat((first|refine mvT ?_|refine mvF ?_|refine yT ?_|refine yF ?_);conv=>whnf))
      refine H.st1 (v := .int .i32 n36) 0 (rfl) (rfl) rfl (by first | omega | (simp [hlen2]; done) | (simp [hlen2]; omega)) rfl (Nat.lt_of_lt_of_le (Nat.lt_succ_self _) (Nat.le_of_ble_eq_true rfl)) ?_
      intro w H
      ((conv=>whnf);repeat((first|refine mvT ?_|refine mvF ?_|refine yT ?_|refine yF ?_);conv=>whnf))
      replace H : St w0 G0 p pb s36 ((g35, 21, es35.flatten ++ [.int .i32 n36] ++ ((List.replicate (n35.toNat - (i35 + 1)) [.int .i32 0]).flatten ++ post35)) :: L35) P35 w := H
      refine ⟨i35 + 1, ⟨rfl, rfl, ?_, rfl, rfl, rfl, rfl, rfl, rfl, rfl, rfl, rfl, rfl, rfl, trivial⟩, ⟨by omega, ListI.back hgo35 (LoopI.next hes35 hez35 hrn35 hts35 (cur := [.int .i32 n36]) (x := numT n36) (hr36) rfl (by rw [← hL35]; exact H) fun w hP => ?_)⟩, by omega⟩
      · show some (Value.int .i32 _) = _
        rw [IntKind.wrap_i32]
        simp only [Option.some.injEq, Value.int.injEq, true_and]
        omega
      · skip
        rw [hP35] at hP
        exact ⟨⟨_, hn36, rfl, rfl⟩, hP⟩
    have hge35 : ¬ (i35 : Int) < n35 := of_decide_eq_false h9
    obtain ⟨l37, s37, hone37, hl37, hr37, H⟩ := H.done hge35 hln35 (nl := nlF (.mk 11 0 (-1) (-1) (-1) 0 3 []) v) (sz := elZ true 7 3 []) rfl hpL35 rfl
    ((conv=>whnf);repeat((first|refine mvT ?_|refine mvF ?_|refine yT ?_|refine yF ?_);conv=>whnf))
    obtain ⟨P38, hP38⟩ : ∃ P : World → Prop, P = fun w => ListR true (elZ true 7 3 []) (elQ true 7 3 [] ⟨w, FG w0 G0⟩) w (FG w0 G0) a35 (.mk 0 [] (decide (n35 ≤ 0)) l37 []) ∧ P32 w := ⟨_, rfl⟩
    replace H : St w0 G0 p pb s37 ((g32, 85, es32.flatten ++ [str u33, .slice none 0 0, .map none] ++ ((List.replicate (n32.toNat - (i32 + 1)) [str [], .slice none 0 0, .map none]).flatten ++ post32)) :: L32) P38 w := by rw [hP38]; exact H
    refine H.st1 (v := a35) 1 (cells_one hone37) (hone37) rfl (by first | omega | (simp [hlen1]; done) | (simp [hlen1]; omega)) rfl (Nat.lt_of_lt_of_le (Nat.lt_succ_self _) (Nat.le_of_ble_eq_true rfl)) ?_
    intro w H
    ((conv=>whnf);repeat((first|refine mvT ?_|refine mvF ?_|refine yT ?_|refine yF ?_);conv=>whnf))
    replace H : St w0 G0 p pb s37 ((g32, 85, es32.flatten ++ [str u33, a35, .map none] ++ ((List.replicate (n32.toNat - (i32 + 1)) [str [], .slice none 0 0, .map none]).flatten ++ post32)) :: L32) P38 w := H
    (refine mvB ?_;((conv=>whnf);repeat((first|refine mvT ?_|refine mvF ?_|refine yT ?_|refine yF ?_);conv=>whnf)))
    refine VC.cutB (fun q : Value × List Tg × Rd => [(0, .pointer (some ⟨p, 0, none⟩)), (2, .bool false), (7, .pointer (some ⟨pb, 0, none⟩)), (8, .int .i16 v), (9, .bool fx), (10, .pointer (some ⟨p, 0, none⟩)), (30, .int .i32 n32), (29, .slice (some ⟨g32, 0, none⟩) n32.toNat cap32), (31, .int .i32 i32), (32, .pointer (some ⟨g32, 0 + (i32 : Int).toNat * 3, none⟩)), (33, .pointer (some ⟨g32, 0 + (i32 : Int).toNat * 3, none⟩))]) (fun q w' => rdTagsF fx s37 = q.2 ∧ St w0 G0 p pb q.2.2 ((g32, 85, es32.flatten ++ [str u33, a35, q.1] ++ ((List.replicate (n32.toNat - (i32 + 1)) [str [], .slice none 0 0, .map none]).flatten ++ post32)) :: L32) (fun w => TGf w0 G0 q.1 q.2.1 w ∧ P38 w) w') ?_ ?_
    · refine cI (by rfl) (fun hc=>?_) (fun hc=>?_)
      · ((conv=>whnf);repeat((first|refine mvT ?_|refine mvF ?_|refine yT ?_|refine yF ?_);conv=>whnf))
        refine Does.mono H.tags ?_
        rintro r w ⟨m, u, s', rfl, hone, hr, H⟩
        ((conv=>whnf);repeat((first|refine mvT ?_|refine mvF ?_|refine yT ?_|refine yF ?_);conv=>whnf))
        refine H.st1 (v := m) 2 (rfl) (hone) rfl (by first | omega | (simp [hlen1]; done) | (simp [hlen1]; omega)) rfl (Nat.lt_of_lt_of_le (Nat.lt_succ_self _) (Nat.le_of_ble_eq_true rfl)) ?_
        intro w H
        ((conv=>whnf);repeat((first|refine mvT ?_|refine mvF ?_|refine yT ?_|refine yF ?_);conv=>whnf))
        exact ⟨(m, u, s'), ⟨rfl, rfl, rfl, rfl, rfl, rfl, rfl, rfl, rfl, rfl, rfl, trivial⟩, by rw [rdTagsF, if_pos hc]; exact hr, H⟩
      · ((conv=>whnf);repeat((first|refine mvT ?_|refine mvF ?_|refine yT ?_|refine yF ?_);conv=>whnf))
        exact ⟨(.map none, [], s37), ⟨rfl, rfl, rfl, rfl, rfl, rfl, rfl, rfl, rfl, rfl, rfl, trivial⟩, by rw [rdTagsF, if_neg (by rw [hc]; decide)], H.add fun w' _ => TagsR.nil _ _⟩
    clear H
    rintro ⟨m40, u40, s40⟩ w ⟨htg, H⟩
    dsimp only at htg H
    ((conv=>whnf);repeat((first|refine mvT ?_|refine mvF ?_|refine yT ?_|refine yF ?_);conv=>whnf))
    obtain ⟨P41, hP41⟩ : ∃ P : World → Prop, P = fun w => TGf w0 G0 m40 u40 w ∧ P38 w := ⟨_, rfl⟩
    replace H : St w0 G0 p pb s40 ((g32, 85, es32.flatten ++ [str u33, a35, m40] ++ ((List.replicate (n32.toNat - (i32 + 1)) [str [], .slice none 0 0, .map none]).flatten ++ post32)) :: L32) P41 w := by rw [hP41]; exact H
    have hpart : rdPart 8 v fx dTaskIDs si32 = (.mk 0 [] false [.mk 0 u33 false [] [], .mk 0 [] (decide (n35 ≤ 0)) l37 []] u40, s40) := by
      unfold rdPart rdPartW
      rw [rdTail_plain (by decide)]
      rw [rdAll_yes (df := dfT 8) (rdField8 (by decide) hr33) ⟨by decide, has_all hv⟩, rdAll_yes (df := dfT 8) ((rdField_list _ _ _ _ _ _ _ _ _ _ _).trans hr37) ⟨by decide, has_all hv⟩]
      simp only [rdAll]
      rw [htg]
    refine ⟨i32 + 1, ⟨rfl, rfl, ?_, rfl, rfl, rfl, rfl, rfl, rfl, trivial⟩, ⟨by omega, ListI.back hgo32 (LoopI.next hes32 hez32 hrn32 hts32 (cur := [str u33, a35, m40]) (x := .mk 0 [] false [.mk 0 u33 false [] [], .mk 0 [] (decide (n35 ≤ 0)) l37 []] u40) (hpart) rfl (by rw [← hL32]; exact H) fun w hP => ?_)⟩, by omega⟩
    · show some (Value.int .i32 _) = _
      rw [IntKind.wrap_i32]
      simp only [Option.some.injEq, Value.int.injEq, true_and]
      omega
    · skip
      rw [hP41] at hP
      obtain ⟨hf41_, hP⟩ := hP
      rw [hP38] at hP
      obtain ⟨hf38_, hP⟩ := hP
      rw [hP32] at hP
      exact ⟨QPt (QA1 (QF8 (by decide) u33) (QA1 (QF11 hl37 hf38_) (QA0))) hf41_, hP⟩
  have hge32 : ¬ (i32 : Int) < n32 := of_decide_eq_false h9
  obtain ⟨l42, s42, hone42, hl42, hr42, H⟩ := H.done hge32 hln32 (nl := nlF (.mk 11 0 (-1) 0 (-1) 0 10 dTaskIDs) v) (sz := elZ true 8 10 dTaskIDs) rfl hpL32 rfl
  ((conv=>whnf);repeat((first|refine mvT ?_|refine mvF ?_|refine yT ?_|refine yF ?_);conv=>whnf))
  obtain ⟨P43, hP43⟩ : ∃ P : World → Prop, P = fun w => ListR true (elZ true 8 10 dTaskIDs) (elQ true 8 10 dTaskIDs ⟨w, FG w0 G0⟩) w (FG w0 G0) a32 (.mk 0 [] ((decide (n32 < 0) && decide (0 ≤ v))) l42 []) ∧ P30 w := ⟨_, rfl⟩
  replace H : St w0 G0 p pb s42 ((p, ty, [] ++ [.int .i16 v, .int .i32 n1, .int .i16 n3, c5, str u8, .int .i32 n10, .int .i32 n12, .int .i32 n14, .int .i32 n17, .int .i64 n19, a22, .slice none 0 0, .slice none 0 0, .slice none 0 0, .bool false, .int .i32 0, .slice none 0 0, .map none] ++ []) :: []) P43 w := by rw [hP43]; exact H
  refine H.st1 (v := a32) 11 (cells_one hone42) (hone42) rfl (by simp) rfl (Nat.lt_of_lt_of_le (Nat.lt_succ_self _) (Nat.le_of_ble_eq_true rfl)) ?_
  intro w H
  ((conv=>whnf);repeat((first|refine mvT ?_|refine mvF ?_|refine yT ?_|refine yF ?_);conv=>whnf))
  replace H : St w0 G0 p pb s42 ((p, ty, [] ++ [.int .i16 v, .int .i32 n1, .int .i16 n3, c5, str u8, .int .i32 n10, .int .i32 n12, .int .i32 n14, .int .i32 n17, .int .i64 n19, a22, a32, .slice none 0 0, .slice none 0 0, .bool false, .int .i32 0, .slice none 0 0, .map none] ++ []) :: []) P43 w := H
  refine ldS (H.cell (o := 0) rfl (k := 12) rfl) ?_;((conv=>whnf);repeat((first|refine mvT ?_|refine mvF ?_|refine yT ?_|refine yF ?_);conv=>whnf))
  (refine mvB ?_;((conv=>whnf);repeat((first|refine mvT ?_|refine mvF ?_|refine yT ?_|refine yF ?_);conv=>whnf)))
  refine VC.cutE (fun q : Int × Rd => [(42, .int .i32 q.1), (41, .slice none 0 0), (0, .pointer (some ⟨p, 0, none⟩)), (2, .bool false), (7, .pointer (some ⟨pb, 0, none⟩)), (8, .int .i16 v), (9, .bool fx), (10, .pointer (some ⟨p, 0, none⟩))]) (fun q w' => (-2147483648 ≤ q.1 ∧ q.1 ≤ 2147483647) ∧ rdLn fx s42 = q ∧ St w0 G0 p pb q.2 ((p, ty, [] ++ [.int .i16 v, .int .i32 n1, .int .i16 n3, c5, str u8, .int .i32 n10, .int .i32 n12, .int .i32 n14, .int .i32 n17, .int .i64 n19, a22, a32, .slice none 0 0, .slice none 0 0, .bool false, .int .i32 0, .slice none 0 0, .map none] ++ []) :: []) P43 w') ?_ ?_
  · refine cI (by rfl) (fun hc=>?_) (fun hc=>?_)
    · ((conv=>whnf);repeat((first|refine mvT ?_|refine mvF ?_|refine yT ?_|refine yF ?_);conv=>whnf))
      refine Does.mono H.lnc ?_
      rintro r w ⟨n, s', rfl, hn, hr, H⟩
      ((conv=>whnf);repeat((first|refine mvT ?_|refine mvF ?_|refine yT ?_|refine yF ?_);conv=>whnf))
      exact ⟨(n, s'), ⟨rfl, rfl, rfl, rfl, rfl, rfl, rfl, rfl, trivial⟩, hn, by rw [hc]; exact hr, H⟩
    · ((conv=>whnf);repeat((first|refine mvT ?_|refine mvF ?_|refine yT ?_|refine yF ?_);conv=>whnf))
      refine Does.mono H.lnp ?_
      rintro r w ⟨n, s', rfl, hn, hr, H⟩
      ((conv=>whnf);repeat((first|refine mvT ?_|refine mvF ?_|refine yT ?_|refine yF ?_);conv=>whnf))
      exact ⟨(n, s'), ⟨rfl, rfl, rfl, rfl, rfl, rfl, rfl, rfl, trivial⟩, hn, by rw [hc]; exact hr, H⟩
  clear H
  rintro ⟨n45, s45⟩ w ⟨hn45, hln45, H⟩
  dsimp only at hn45 hln45 H
  ((conv=>whnf);repeat((first|refine mvT ?_|refine mvF ?_|refine yT ?_|refine yF ?_);conv=>whnf))
  intro cq hcq
  obtain rfl : cq = false := by rw [← hcq]; exact decide_eq_false (by omega)
  ((conv=>whnf);repeat((first|refine mvT ?_|refine mvF ?_|refine yT ?_|refine yF ?_);conv=>whnf))
  refine VC.cutE (fun a : Option Addr => [(42, .int .i32 n45), (41, .slice a 0 0), (0, .pointer (some ⟨p, 0, none⟩)), (2, .bool false), (7, .pointer (some ⟨pb, 0, none⟩)), (8, .int .i16 v), (9, .bool fx), (10, .pointer (some ⟨p, 0, none⟩))]) (fun a w' => StE w0 G0 p pb s45 85 ((p, ty, [] ++ [.int .i16 v, .int .i32 n1, .int .i16 n3, c5, str u8, .int .i32 n10, .int .i32 n12, .int .i32 n14, .int .i32 n17, .int .i64 n19, a22, a32, .slice none 0 0, .slice none 0 0, .bool false, .int .i32 0, .slice none 0 0, .map none] ++ []) :: []) P43 (v < 0 ∨ n45 = 0) a w') ?_ ?_
  · refine cI (by rfl) (fun hz=>?_) (fun hz=>?_)
    · have hz : n45 = 0 := by simpa using hz
      ((conv=>whnf);repeat((first|refine mvT ?_|refine mvF ?_|refine yT ?_|refine yF ?_);conv=>whnf))
      intro be we hbe hoe hxe
      ((conv=>whnf);repeat((first|refine mvT ?_|refine mvF ?_|refine yT ?_|refine yF ?_);conv=>whnf))
      exact ⟨_, ⟨rfl, rfl, rfl, rfl, rfl, rfl, rfl, rfl, trivial⟩, .inr ⟨.inr hz, be, rfl, H.push hxe hoe hbe⟩⟩
    · have hz : ¬ n45 = 0 := by simpa using hz
      ((conv=>whnf);repeat((first|refine mvT ?_|refine mvF ?_|refine yT ?_|refine yF ?_);conv=>whnf))
      exact ⟨_, ⟨rfl, rfl, rfl, rfl, rfl, rfl, rfl, rfl, trivial⟩, .inl ⟨by omega, rfl, H⟩⟩
  clear H
  rintro ae45 w H
  ((conv=>whnf);repeat((first|refine mvT ?_|refine mvF ?_|refine yT ?_|refine yF ?_);conv=>whnf))
  refine Does.mono H.ok ?_
  rintro r w ⟨rfl, H⟩
  ((conv=>whnf);repeat((first|refine mvT ?_|refine mvF ?_|refine yT ?_|refine yF ?_);conv=>whnf))
  refine cI (by rfl) (fun hbd=>?_) (fun hbd=>?_)
  · have hbd : s45.2 = true := by simpa using hbd
    ((conv=>whnf);repeat((first|refine mvT ?_|refine mvF ?_|refine yT ?_|refine yF ?_);conv=>whnf))
    refine Does.mono (H.done hL hp1) ?_
    rintro r w ⟨rfl, H⟩
    ((conv=>whnf);repeat((first|refine mvT ?_|refine mvF ?_|refine yT ?_|refine yF ?_);conv=>whnf))
    obtain ⟨_, H⟩ := H
    refine RdPost.early hbd (hup0 (?_)) H
    rw [tail_yes (rdField3.trans hr1) ⟨by decide, has_all hv⟩, tail_yes (rdField2.trans hr3) ⟨by decide, has_all hv⟩, tail_yes ((rdField8n (by decide)).trans hr5) ⟨by decide, has_all hv⟩, tail_yes (rdField8 (by decide) hr8) ⟨by decide, has_all hv⟩, tail_yes (rdField3.trans hr10) ⟨by decide, has_all hv⟩, tail_yes (rdField3.trans hr12) ⟨by decide, has_all hv⟩, tail_ver hr14 (by decide), tail_yes (rdField3.trans hr17) ⟨by decide, has_all hv⟩, tail_ver hr19 (by decide), tail_yes ((rdField_list _ _ _ _ _ _ _ _ _ _ _).trans hr29) ⟨by decide, has_all hv⟩, tail_yes ((rdField_list _ _ _ _ _ _ _ _ _ _ _).trans hr42) ⟨by decide, has_all hv⟩, tail_len ⟨by decide, has_all hv⟩ hln45 hbd]
  have hbd : s45.2 = false := by simpa using hbd
  clear hbd
  ((conv=>whnf);repeat((first|refine mvT ?_|refine mvF ?_|refine yT ?_|refine yF ?_);conv=>whnf))
  refine cut_zero ?_
  ((conv=>whnf);repeat((first|refine mvT ?_|refine mvF ?_|refine yT ?_|refine yF ?_);conv=>whnf))
  refine VC.cutE (fun a : Value => [(42, .int .i32 n45), (41, a), (0, .pointer (some ⟨p, 0, none⟩)), (2, .bool false), (7, .pointer (some ⟨pb, 0, none⟩)), (8, .int .i16 v), (9, .bool fx), (10, .pointer (some ⟨p, 0, none⟩))]) (fun a w' => ListI w0 G0 p pb 85 [str [], .slice none 0 0, .map none] (elR 8 v fx 10 dTaskIDs) (elQ true 8 10 dTaskIDs) s45 n45 ((decide (n45 < 0) && decide (0 ≤ v))) ((p, ty, [] ++ [.int .i16 v, .int .i32 n1, .int .i16 n3, c5, str u8, .int .i32 n10, .int .i32 n12, .int .i32 n14, .int .i32 n17, .int .i64 n19, a22, a32, .slice none 0 0, .slice none 0 0, .bool false, .int .i32 0, .slice none 0 0, .map none] ++ []) :: []) P43 a 0 w') ?_ ?_
  · refine cI (by rfl) (fun hps=>?_) (fun hps=>?_)
    · have hps : 0 < n45 := by have := of_decide_eq_true hps; omega
      ((conv=>whnf);repeat((first|refine mvT ?_|refine mvF ?_|refine yT ?_|refine yF ?_);conv=>whnf))
      refine H.grow hps hn45.2 (by decide) rfl rfl (by decide) ?_
      intro g cap post w hc1 hc2 H
      ((conv=>whnf);repeat((first|refine mvT ?_|refine mvF ?_|refine yT ?_|refine yF ?_);conv=>whnf))
      exact ⟨_, ⟨rfl, rfl, rfl, rfl, rfl, rfl, rfl, rfl, trivial⟩, ListI.some hps (by simp; omega) hc1 hc2 H⟩
    · have hps : n45 ≤ 0 := by have := of_decide_eq_false hps; omega
      ((conv=>whnf);repeat((first|refine mvT ?_|refine mvF ?_|refine yT ?_|refine yF ?_);conv=>whnf))
      exact ⟨_, ⟨rfl, rfl, rfl, rfl, rfl, rfl, rfl, rfl, trivial⟩, H.none hps (fun h => by rcases h with h | h <;> (simp; omega)) (fun h => by simp; omega)⟩
  clear H
  rintro a45 w H
  ((conv=>whnf);repeat((first|refine mvT ?_|refine mvF ?_|refine yT ?_|refine yF ?_);conv=>whnf))
  have hpL45 : inL ((p, ty, [] ++ [.int .i16 v, .int .i32 n1, .int .i16 n3, c5, str u8, .int .i32 n10, .int .i32 n12, .int .i32 n14, .int .i32 n17, .int .i64 n19, a22, a32, .slice none 0 0, .slice none 0 0, .bool false, .int .i32 0, .slice none 0 0, .map none] ++ []) :: []) p := inL.head _ _
  refine VL.loop (fun i : Nat => [(42, .int .i32 n45), (41, a45), (43, .int .i32 i), (0, .pointer (some ⟨p, 0, none⟩)), (2, .bool false), (7, .pointer (some ⟨pb, 0, none⟩)), (8, .int .i16 v), (9, .bool fx), (10, .pointer (some ⟨p, 0, none⟩))]) (fun i w' => i ≤ 2147483647 ∧ ListI w0 G0 p pb 85 [str [], .slice none 0 0, .map none] (elR 8 v fx 10 dTaskIDs) (elQ true 8 10 dTaskIDs) s45 n45 ((decide (n45 < 0) && decide (0 ≤ v))) ((p, ty, [] ++ [.int .i16 v, .int .i32 n1, .int .i16 n3, c5, str u8, .int .i32 n10, .int .i32 n12, .int .i32 n14, .int .i32 n17, .int .i64 n19, a22, a32, .slice none 0 0, .slice none 0 0, .bool false, .int .i32 0, .slice none 0 0, .map none] ++ []) :: []) P43 a45 i w') (fun i => n45.toNat - i) 0 ⟨rfl, rfl, rfl, rfl, rfl, rfl, rfl, rfl, rfl, trivial⟩ ⟨by decide, H⟩ ?_
  clear H
  rintro i45 w ⟨hi45, H⟩
  ((conv=>whnf);repeat((first|refine mvT ?_|refine mvF ?_|refine yT ?_|refine yF ?_);conv=>whnf))
  refine cI (by rfl) (fun h9=>?_) (fun h9=>?_)
  · have hlt45 : (i45 : Int) < n45 := of_decide_eq_true h9
    obtain ⟨g45, cap45, post45, rfl, hgo45, HI⟩ := H.go hlt45
    obtain ⟨es45, ts45, si45, hes45, hez45, hrn45, hts45, hlen1, H⟩ := HI.open hgo45.2.2.2.2
    obtain ⟨L45, hL45⟩ : ∃ L : List Ob, L = ((p, ty, [] ++ [.int .i16 v, .int .i32 n1, .int .i16 n3, c5, str u8, .int .i32 n10, .int .i32 n12, .int .i32 n14, .int .i32 n17, .int .i64 n19, a22, a32, .slice none 0 0, .slice none 0 0, .bool false, .int .i32 0, .slice none 0 0, .map none] ++ []) :: []) := ⟨_, rfl⟩
    rw [← hL45] at H hpL45
    obtain ⟨P45, hP45⟩ : ∃ P : World → Prop, P = fun w => (∀ (j : Nat) (c : List Value) (y : T), es45[j]? = some c → ts45[j]? = some y → elQ true 8 10 dTaskIDs ⟨w, FG w0 G0⟩ c y) ∧ P43 w := ⟨_, rfl⟩
    rw [← hP45] at H
    replace H : St w0 G0 p pb si45 ((g45, 85, es45.flatten ++ [str [], .slice none 0 0, .map none] ++ ((List.replicate (n45.toNat - (i45 + 1)) [str [], .slice none 0 0, .map none]).flatten ++ post45)) :: L45) P45 w := H
    ((conv=>whnf);repeat((first|refine mvT ?_|refine mvF ?_|refine yT ?_|refine yF ?_);conv=>whnf))
    refine ⟨g45, 0, rfl, ⟨by omega, by omega⟩, ?_⟩
    ((conv=>whnf);repeat((first|refine mvT ?_|refine mvF ?_|refine yT ?_|refine yF ?_);conv=>whnf))
    refine Does.mono (dfTaskIDs (pre := es45.flatten) (cur := [str [], .slice none 0 0, .map none]) (post := ((List.replicate (n45.toNat - (i45 + 1)) [str [], .slice none 0 0, .map none]).flatten ++ post45)) H.head (by first | (rw [hlen1]; simp; done) | (simp [hlen1]; done) | (simp [hlen1]; omega)) rfl) ?_
    rintro rd w2 ⟨hdf, hxd⟩
    replace H := H.put hdf hxd
    clear hdf hxd
    replace H : St w0 G0 p pb si45 ((g45, 85, es45.flatten ++ [str [], .slice none 0 0, .map none] ++ ((List.replicate (n45.toNat - (i45 + 1)) [str [], .slice none 0 0, .map none]).flatten ++ post45)) :: L45) P45 w2 := H
    ((conv=>whnf);repeat((first|refine mvT ?_|refine mvF ?_|refine yT ?_|refine yF ?_);conv=>whnf))
    have hup45 : tailBad 8 v fx dTaskIDs dTaskIDs si45 = true → (rdPart 9 v fx dStreamsGroupHeartbeatResponse (l, false)).2.2 = true := by
      intro hb
      refine hup0 ?_
      rw [tail_yes (rdField3.trans hr1) ⟨by decide, has_all hv⟩, tail_yes (rdField2.trans hr3) ⟨by decide, has_all hv⟩, tail_yes ((rdField8n (by decide)).trans hr5) ⟨by decide, has_all hv⟩, tail_yes (rdField8 (by decide) hr8) ⟨by decide, has_all hv⟩, tail_yes (rdField3.trans hr10) ⟨by decide, has_all hv⟩, tail_yes (rdField3.trans hr12) ⟨by decide, has_all hv⟩, tail_ver hr14 (by decide), tail_yes (rdField3.trans hr17) ⟨by decide, has_all hv⟩, tail_ver hr19 (by decide), tail_yes ((rdField_list _ _ _ _ _ _ _ _ _ _ _).trans hr29) ⟨by decide, has_all hv⟩, tail_yes ((rdField_list _ _ _ _ _ _ _ _ _ _ _).trans hr42) ⟨by decide, has_all hv⟩, tail_el ⟨by decide, has_all hv⟩ hln45 hgo45.2.2.2.2 hrn45 ((tailBad_part _ _ _ _ _).symm.trans hb)]
    (refine mvB ?_;((conv=>whnf);repeat((first|refine mvT ?_|refine mvF ?_|refine yT ?_|refine yF ?_);conv=>whnf)))
    refine VC.cutE (fun q : List UInt8 × Rd => [(46, str q.1), (0, .pointer (some ⟨p, 0, none⟩)), (2, .bool false), (7, .pointer (some ⟨pb, 0, none⟩)), (8, .int .i16 v), (9, .bool fx), (10, .pointer (some ⟨p, 0, none⟩)), (42, .int .i32 n45), (41, .slice (some ⟨g45, 0, none⟩) n45.toNat cap45), (43, .int .i32 i45), (44, .pointer (some ⟨g45, 0 + (i45 : Int).toNat * 3, none⟩)), (45, .pointer (some ⟨g45, 0 + (i45 : Int).toNat * 3, none⟩))]) (fun q w' => rdTx fx si45 = q ∧ St w0 G0 p pb q.2 ((g45, 85, es45.flatten ++ [str [], .slice none 0 0, .map none] ++ ((List.replicate (n45.toNat - (i45 + 1)) [str [], .slice none 0 0, .map none]).flatten ++ post45)) :: L45) P45 w') ?_ ?_
    · refine cI (by rfl) (fun hc=>?_) (fun hc=>?_)
      · ((conv=>whnf);repeat((first|refine mvT ?_|refine mvF ?_|refine yT ?_|refine yF ?_);conv=>whnf))
        refine Does.mono H.txc ?_
        rintro r w ⟨u, s', rfl, hr, H⟩
        ((conv=>whnf);repeat((first|refine mvT ?_|refine mvF ?_|refine yT ?_|refine yF ?_);conv=>whnf))
        exact ⟨(u, s'), ⟨rfl, rfl, rfl, rfl, rfl, rfl, rfl, rfl, rfl, rfl, rfl, rfl, trivial⟩, by rw [hc]; exact hr, H⟩
      · ((conv=>whnf);repeat((first|refine mvT ?_|refine mvF ?_|refine yT ?_|refine yF ?_);conv=>whnf))
        refine Does.mono H.txp ?_
        rintro r w ⟨u, s', rfl, hr, H⟩
        ((conv=>whnf);repeat((first|refine mvT ?_|refine mvF ?_|refine yT ?_|refine yF ?_);conv=>whnf))
        exact ⟨(u, s'), ⟨rfl, rfl, rfl, rfl, rfl, rfl, rfl, rfl, rfl, rfl, rfl, rfl, trivial⟩, by rw [hc]; exact hr, H⟩
    clear H
    rintro ⟨u46, s46⟩ w ⟨hr46, H⟩
    dsimp only at hr46 H
    ((conv=>whnf);repeat((first|refine mvT ?_|refine mvF ?_|refine yT ?_|refine yF ?_);conv=>whnf))
    refine H.st1 (v := str u46) 0 (rfl) (rfl) rfl (by first | omega | (simp [hlen1]; done) | (simp [hlen1]; omega)) rfl (Nat.lt_of_lt_of_le (Nat.lt_succ_self _) (Nat.le_of_ble_eq_true rfl)) ?_
    intro w H
    ((conv=>whnf);repeat((first|refine mvT ?_|refine mvF ?_|refine yT ?_|refine yF ?_);conv=>whnf))
    replace H : St w0 G0 p pb s46 ((g45, 85, es45.flatten ++ [str u46, .slice none 0 0, .map none] ++ ((List.replicate (n45.toNat - (i45 + 1)) [str [], .slice none 0 0, .map none]).flatten ++ post45)) :: L45) P45 w := H
    refine ⟨_, ld (H.cell rfl (k := 1) rfl) (by first | omega | (simp [hlen1]; done) | (simp [hlen1]; omega)), ?_⟩; ((conv=>whnf);repeat((first|refine mvT ?_|refine mvF ?_|refine yT ?_|refine yF ?_);conv=>whnf))
    (refine mvB ?_;((conv=>whnf);repeat((first|refine mvT ?_|refine mvF ?_|refine yT ?_|refine yF ?_);conv=>whnf)))
    refine VC.cutE (fun q : Int × Rd => [(49, .int .i32 q.1), (48, .slice none 0 0), (0, .pointer (some ⟨p, 0, none⟩)), (2, .bool false), (7, .pointer (some ⟨pb, 0, none⟩)), (8, .int .i16 v), (9, .bool fx), (10, .pointer (some ⟨p, 0, none⟩)), (42, .int .i32 n45), (41, .slice (some ⟨g45, 0, none⟩) n45.toNat cap45), (43, .int .i32 i45), (44, .pointer (some ⟨g45, 0 + (i45 : Int).toNat * 3, none⟩)), (45, .pointer (some ⟨g45, 0 + (i45 : Int).toNat * 3, none⟩))]) (fun q w' => (-2147483648 ≤ q.1 ∧ q.1 ≤ 2147483647) ∧ rdLn fx s46 = q ∧ St w0 G0 p pb q.2 ((g45, 85, es45.flatten ++ [str u46, .slice none 0 0, .map none] ++ ((List.replicate (n45.toNat - (i45 + 1)) [str [], .slice none 0 0, .map none]).flatten ++ post45)) :: L45) P45 w') ?_ ?_
    · refine cI (by rfl) (fun hc=>?_) (fun hc=>?_)
      · ((conv=>whnf);repeat((first|refine mvT ?_|refine mvF ?_|refine yT ?_|refine yF ?_);conv=>whnf))
        refine Does.mono H.lnc ?_
        rintro r w ⟨n, s', rfl, hn, hr, H⟩
        ((conv=>whnf);repeat((first|refine mvT ?_|refine mvF ?_|refine yT ?_|refine yF ?_);conv=>whnf))
        exact ⟨(n, s'), ⟨rfl, rfl, rfl, rfl, rfl, rfl, rfl, rfl, rfl, rfl, rfl, rfl, rfl, trivial⟩, hn, by rw [hc]; exact hr, H⟩
      · ((conv=>whnf);repeat((first|refine mvT ?_|refine mvF ?_|refine yT ?_|refine yF ?_);conv=>whnf))
        refine Does.mono H.lnp ?_
        rintro r w ⟨n, s', rfl, hn, hr, H⟩
        ((conv=>whnf);repeat((first|refine mvT ?_|refine mvF ?_|refine yT ?_|refine yF ?_);conv=>whnf))
        exact ⟨(n, s'), ⟨rfl, rfl, rfl, rfl, rfl, rfl, rfl, rfl, rfl, rfl, rfl, rfl, rfl, trivial⟩, hn, by rw [hc]; exact hr, H⟩
    clear H
    rintro ⟨n48, s48⟩ w ⟨hn48, hln48, H⟩
    dsimp only at hn48 hln48 H
    ((conv=>whnf);repeat((first|refine mvT ?_|refine mvF ?_|refine yT ?_|refine yF ?_);conv=>whnf))
    refine Does.mono H.ok ?_
    rintro r w ⟨rfl, H⟩
    ((conv=>whnf);repeat((first|refine mvT ?_|refine mvF ?_|refine yT ?_|refine yF ?_);conv=>whnf))
    refine cI (by rfl) (fun hbd=>?_) (fun hbd=>?_)
    · have hbd : s48.2 = true := by simpa using hbd
      ((conv=>whnf);repeat((first|refine mvT ?_|refine mvF ?_|refine yT ?_|refine yF ?_);conv=>whnf))
      refine Does.mono (H.done hL hp1) ?_
      rintro r w ⟨rfl, H⟩
      ((conv=>whnf);repeat((first|refine mvT ?_|refine mvF ?_|refine yT ?_|refine yF ?_);conv=>whnf))
      refine RdPost.early hbd (hup45 (?_)) H
      rw [tail_yes (rdField8 (by decide) hr46) ⟨by decide, has_all hv⟩, tail_len ⟨by decide, has_all hv⟩ hln48 hbd]
    have hbd : s48.2 = false := by simpa using hbd
    clear hbd
    ((conv=>whnf);repeat((first|refine mvT ?_|refine mvF ?_|refine yT ?_|refine yF ?_);conv=>whnf))
    refine cut_zero ?_
    ((conv=>whnf);repeat((first|refine mvT ?_|refine mvF ?_|refine yT ?_|refine yF ?_);conv=>whnf))
    refine VC.cutE (fun a : Value => [(49, .int .i32 n48), (48, a), (0, .pointer (some ⟨p, 0, none⟩)), (2, .bool false), (7, .pointer (some ⟨pb, 0, none⟩)), (8, .int .i16 v), (9, .bool fx), (10, .pointer (some ⟨p, 0, none⟩)), (42, .int .i32 n45), (41, .slice (some ⟨g45, 0, none⟩) n45.toNat cap45), (43, .int .i32 i45), (44, .pointer (some ⟨g45, 0 + (i45 : Int).toNat * 3, none⟩)), (45, .pointer (some ⟨g45, 0 + (i45 : Int).toNat * 3, none⟩))]) (fun a w' => ListI w0 G0 p pb 21 [.int .i32 0] (elR 7 v fx 3 []) (elQ true 7 3 []) s48 n48 (decide (n48 ≤ 0)) ((g45, 85, es45.flatten ++ [str u46, .slice none 0 0, .map none] ++ ((List.replicate (n45.toNat - (i45 + 1)) [str [], .slice none 0 0, .map none]).flatten ++ post45)) :: L45) P45 a 0 w') ?_ ?_
    · refine cI (by rfl) (fun hps=>?_) (fun hps=>?_)
      · have hps : 0 < n48 := by have := of_decide_eq_true hps; omega
        ((conv=>whnf);repeat((first|refine mvT ?_|refine mvF ?_|refine yT ?_|refine yF ?_);conv=>whnf))
        refine H.grow hps hn48.2 (by decide) rfl rfl (by decide) ?_
        intro g cap post w hc1 hc2 H
        ((conv=>whnf);repeat((first|refine mvT ?_|refine mvF ?_|refine yT ?_|refine yF ?_);conv=>whnf))
        exact ⟨_, ⟨rfl, rfl, rfl, rfl, rfl, rfl, rfl, rfl, rfl, rfl, rfl, rfl, rfl, trivial⟩, ListI.some hps (decide_eq_false (by omega)) hc1 hc2 H⟩
      · have hps : n48 ≤ 0 := by have := of_decide_eq_false hps; omega
        ((conv=>whnf);repeat((first|refine mvT ?_|refine mvF ?_|refine yT ?_|refine yF ?_);conv=>whnf))
        exact ⟨_, ⟨rfl, rfl, rfl, rfl, rfl, rfl, rfl, rfl, rfl, rfl, rfl, rfl, rfl, trivial⟩, ListI.none hps (decide_eq_true hps) H⟩
    clear H
    rintro a48 w H
    ((conv=>whnf);repeat((first|refine mvT ?_|refine mvF ?_|refine yT ?_|refine yF ?_);conv=>whnf))
    have hpL48 : inL ((g45, 85, es45.flatten ++ [str u46, .slice none 0 0, .map none] ++ ((List.replicate (n45.toNat - (i45 + 1)) [str [], .slice none 0 0, .map none]).flatten ++ post45)) :: L45) p := inL.tail hpL45
    refine VL.loop (fun i : Nat => [(49, .int .i32 n48), (48, a48), (50, .int .i32 i), (0, .pointer (some ⟨p, 0, none⟩)), (2, .bool false), (7, .pointer (some ⟨pb, 0, none⟩)), (8, .int .i16 v), (9, .bool fx), (10, .pointer (some ⟨p, 0, none⟩)), (42, .int .i32 n45), (41, .slice (some ⟨g45, 0, none⟩) n45.toNat cap45), (43, .int .i32 i45), (44, .pointer (some ⟨g45, 0 + (i45 : Int).toNat * 3, none⟩)), (45, .pointer (some ⟨g45, 0 + (i45 : Int).toNat * 3, none⟩))]) (fun i w' => i ≤ 2147483647 ∧ ListI w0 G0 p pb 21 [.int .i32 0] (elR 7 v fx 3 []) (elQ true 7 3 []) s48 n48 (decide (n48 ≤ 0)) ((g45, 85, es45.flatten ++ [str u46, .slice none 0 0, .map none] ++ ((List.replicate (n45.toNat - (i45 + 1)) [str [], .slice none 0 0, .map none]).flatten ++ post45)) :: L45) P45 a48 i w') (fun i => n48.toNat - i) 0 ⟨rfl, rfl, rfl, rfl, rfl, rfl, rfl, rfl, rfl, rfl, rfl, rfl, rfl, rfl, trivial⟩ ⟨by decide, H⟩ ?_
    clear H
    rintro i48 w ⟨hi48, H⟩
    ((conv=>whnf);repeat((first|refine mvT ?_|refine mvF ?_|refine yT ?_|refine yF ?_);conv=>whnf))
    refine cI (by rfl) (fun h9=>?_) (fun h9=>?_)
    · have hlt48 : (i48 : Int) < n48 := of_decide_eq_true h9
      obtain ⟨g48, cap48, post48, rfl, hgo48, HI⟩ := H.go hlt48
      obtain ⟨es48, ts48, si48, hes48, hez48, hrn48, hts48, hlen2, H⟩ := HI.open hgo48.2.2.2.2
      obtain ⟨L48, hL48⟩ : ∃ L : List Ob, L = ((g45, 85, es45.flatten ++ [str u46, .slice none 0 0, .map none] ++ ((List.replicate (n45.toNat - (i45 + 1)) [str [], .slice none 0 0, .map none]).flatten ++ post45)) :: L45) := ⟨_, rfl⟩
      rw [← hL48] at H hpL48
      obtain ⟨P48, hP48⟩ : ∃ P : World → Prop, P = fun w => (∀ (j : Nat) (c : List Value) (y : T), es48[j]? = some c → ts48[j]? = some y → elQ true 7 3 [] ⟨w, FG w0 G0⟩ c y) ∧ P45 w := ⟨_, rfl⟩
      rw [← hP48] at H
      replace H : St w0 G0 p pb si48 ((g48, 21, es48.flatten ++ [.int .i32 0] ++ ((List.replicate (n48.toNat - (i48 + 1)) [.int .i32 0]).flatten ++ post48)) :: L48) P48 w := H
      ((conv=>whnf);repeat((first|refine mvT ?_|refine mvF ?_|refine yT ?_|refine yF ?_);conv=>whnf))
      refine Does.mono H.int32 ?_
      rintro r w ⟨n49, s49, rfl, hn49, hr49, H⟩
      ((conv=>whnf);repeat((first|refine mvT ?_|refine mvF ?_|refine yT ?_|refine yF ?_);conv=>whnf))
      refine ⟨g48, 0, rfl, ⟨by omega, by omega⟩, ?_⟩
      ((conv=>whnf);repeat((first|refine mvT ?_|refine mvF ?_|refine yT ?_|refine yF ?_);conv=>whnf))
      refine H.st1 (v := .int .i32 n49) 0 (rfl) (rfl) rfl (by first | omega | (simp [hlen2]; done) | (simp [hlen2]; omega)) rfl (Nat.lt_of_lt_of_le (Nat.lt_succ_self _) (Nat.le_of_ble_eq_true rfl)) ?_
      intro w H
      ((conv=>whnf);repeat((first|refine mvT ?_|refine mvF ?_|refine yT ?_|refine yF ?_);conv=>whnf))
      replace H : St w0 G0 p pb s49 ((g48, 21, es48.flatten ++ [.int .i32 n49] ++ ((List.replicate (n48.toNat - (i48 + 1)) [.int .i32 0]).flatten ++ post48)) :: L48) P48 w := H
      refine ⟨i48 + 1, ⟨rfl, rfl, ?_, rfl, rfl, rfl, rfl, rfl, rfl, rfl, rfl, rfl, rfl, rfl, trivial⟩, ⟨by omega, ListI.back hgo48 (LoopI.next hes48 hez48 hrn48 hts48 (cur := [.int .i32 n49]) (x := numT n49) (hr49) rfl (by rw [← hL48]; exact H) fun w hP => ?_)⟩, by omega⟩
      · show some (Value.int .i32 _) = _
        rw [IntKind.wrap_i32]
        simp only [Option.some.injEq, Value.int.injEq, true_and]
        omega
      · skip
        rw [hP48] at hP
        exact ⟨⟨_, hn49, rfl, rfl⟩, hP⟩
    have hge48 : ¬ (i48 : Int) < n48 := of_decide_eq_false h9
    obtain ⟨l50, s50, hone50, hl50, hr50, H⟩ := H.done hge48 hln48 (nl := nlF (.mk 11 0 (-1) (-1) (-1) 0 3 []) v) (sz := elZ true 7 3 []) rfl hpL48 rfl
    ((conv=>whnf);repeat((first|refine mvT ?_|refine mvF ?_|refine yT ?_|refine yF ?_);conv=>whnf))
    obtain ⟨P51, hP51⟩ : ∃ P : World → Prop, P = fun w => ListR true (elZ true 7 3 []) (elQ true 7 3 [] ⟨w, FG w0 G0⟩) w (FG w0 G0) a48 (.mk 0 [] (decide (n48 ≤ 0)) l50 []) ∧ P45 w := ⟨_, rfl⟩
    replace H : St w0 G0 p pb s50 ((g45, 85, es45.flatten ++ [str u46, .slice none 0 0, .map none] ++ ((List.replicate (n45.toNat - (i45 + 1)) [str [], .slice none 0 0, .map none]).flatten ++ post45)) :: L45) P51 w := by rw [hP51]; exact H
    refine H.st1 (v := a48) 1 (cells_one hone50) (hone50) rfl (by first | omega | (simp [hlen1]; done) | (simp [hlen1]; omega)) rfl (Nat.lt_of_lt_of_le (Nat.lt_succ_self _) (Nat.le_of_ble_eq_true rfl)) ?_
    intro w H
    ((conv=>whnf);repeat((first|refine mvT ?_|refine mvF ?_|refine yT ?_|refine yF ?_);conv=>whnf))
    replace H : St w0 G0 p pb s50 ((g45, 85, es45.flatten ++ [str u46, a48, .map none] ++ ((List.replicate (n45.toNat - (i45 + 1)) [str [], .slice none 0 0, .map none]).flatten ++ post45)) :: L45) P51 w := H
    (refine mvB ?_;((conv=>whnf);repeat((first|refine mvT ?_|refine mvF ?_|refine yT ?_|refine yF ?_);conv=>whnf)))
    refine VC.cutB (fun q : Value × List Tg × Rd => [(0, .pointer (some ⟨p, 0, none⟩)), (2, .bool false), (7, .pointer (some ⟨pb, 0, none⟩)), (8, .int .i16 v), (9, .bool fx), (10, .pointer (some ⟨p, 0, none⟩)), (42, .int .i32 n45), (41, .slice (some ⟨g45, 0, none⟩) n45.toNat cap45), (43, .int .i32 i45), (44, .pointer (some ⟨g45, 0 + (i45 : Int).toNat * 3, none⟩)), (45, .pointer (some ⟨g45, 0 + (i45 : Int).toNat * 3, none⟩))]) (fun q w' => rdTagsF fx s50 = q.2 ∧ St w0 G0 p pb q.2.2 ((g45, 85, es45.flatten ++ [str u46, a48, q.1] ++ ((List.replicate (n45.toNat - (i45 + 1)) [str [], .slice none 0 0, .map none]).flatten ++ post45)) :: L45) (fun w => TGf w0 G0 q.1 q.2.1 w ∧ P51 w) w') ?_ ?_
    · refine cI (by rfl) (fun hc=>?_) (fun hc=>?_)
      · ((conv=>whnf);repeat((first|refine mvT ?_|refine mvF ?_|refine yT ?_|refine yF ?_);conv=>whnf))
        refine Does.mono H.tags ?_
        rintro r w ⟨m, u, s', rfl, hone, hr, H⟩
        ((conv=>whnf);repeat((first|refine mvT ?_|refine mvF ?_|refine yT ?_|refine yF ?_);conv=>whnf))
        refine H.st1 (v := m) 2 (rfl) (hone) rfl (by first | omega | (simp [hlen1]; done) | (simp [hlen1]; omega)) rfl (Nat.lt_of_lt_of_le (Nat.lt_succ_self _) (Nat.le_of_ble_eq_true rfl)) ?_
        intro w H
        ((conv=>whnf);repeat((first|refine mvT ?_|refine mvF ?_|refine yT ?_|refine yF ?_);conv=>whnf))
        exact ⟨(m, u, s'), ⟨rfl, rfl, rfl, rfl, rfl, rfl, rfl, rfl, rfl, rfl, rfl, trivial⟩, by rw [rdTagsF, if_pos hc]; exact hr, H⟩
      · ((conv=>whnf);repeat((first|refine mvT ?_|refine mvF ?_|refine yT ?_|refine yF ?_);conv=>whnf))
        exact ⟨(.map none, [], s50), ⟨rfl, rfl, rfl, rfl, rfl, rfl, rfl, rfl, rfl, rfl, rfl, trivial⟩, by rw [rdTagsF, if_neg (by rw [hc]; decide)], H.add fun w' _ => TagsR.nil _ _⟩
    clear H
    rintro ⟨m53, u53, s53⟩ w ⟨htg, H⟩
    dsimp only at htg H
    ((conv=>whnf);repeat((first|refine mvT ?_|refine mvF ?_|refine yT ?_|refine yF ?_);conv=>whnf))
    obtain ⟨P54, hP54⟩ : ∃ P : World → Prop, P = fun w => TGf w0 G0 m53 u53 w ∧ P51 w := ⟨_, rfl⟩
    replace H : St w0 G0 p pb s53 ((g45, 85, es45.flatten ++ [str u46, a48, m53] ++ ((List.replicate (n45.toNat - (i45 + 1)) [str [], .slice none 0 0, .map none]).flatten ++ post45)) :: L45) P54 w := by rw [hP54]; exact H
    have hpart : rdPart 8 v fx dTaskIDs si45 = (.mk 0 [] false [.mk 0 u46 false [] [], .mk 0 [] (decide (n48 ≤ 0)) l50 []] u53, s53) := by
      unfold rdPart rdPartW
      rw [rdTail_plain (by decide)]
      rw [rdAll_yes (df := dfT 8) (rdField8 (by decide) hr46) ⟨by decide, has_all hv⟩, rdAll_yes (df := dfT 8) ((rdField_list _ _ _ _ _ _ _ _ _ _ _).trans hr50) ⟨by decide, has_all hv⟩]
      simp only [rdAll]
      rw [htg]
    refine ⟨i45 + 1, ⟨rfl, rfl, ?_, rfl, rfl, rfl, rfl, rfl, rfl, trivial⟩, ⟨by omega, ListI.back hgo45 (LoopI.next hes45 hez45 hrn45 hts45 (cur := [str u46, a48, m53]) (x := .mk 0 [] false [.mk 0 u46 false [] [], .mk 0 [] (decide (n48 ≤ 0)) l50 []] u53) (hpart) rfl (by rw [← hL45]; exact H) fun w hP => ?_)⟩, by omega⟩
    · show some (Value.int .i32 _) = _
      rw [IntKind.wrap_i32]
      simp only [Option.some.injEq, Value.int.injEq, true_and]
      omega
    · skip
      rw [hP54] at hP
      obtain ⟨hf54_, hP⟩ := hP
      rw [hP51] at hP
      obtain ⟨hf51_, hP⟩ := hP
      rw [hP45] at hP
      exact ⟨QPt (QA1 (QF8 (by decide) u46) (QA1 (QF11 hl50 hf51_) (QA0))) hf54_, hP⟩
  have hge45 : ¬ (i45 : Int) < n45 := of_decide_eq_false h9
  obtain ⟨l55, s55, hone55, hl55, hr55, H⟩ := H.done hge45 hln45 (nl := nlF (.mk 11 0 (-1) 0 (-1) 0 10 dTaskIDs) v) (sz := elZ true 8 10 dTaskIDs) rfl hpL45 rfl
  ((conv=>whnf);repeat((first|refine mvT ?_|refine mvF ?_|refine yT ?_|refine yF ?_);conv=>whnf))
  obtain ⟨P56, hP56⟩ : ∃ P : World → Prop, P = fun w => ListR true (elZ true 8 10 dTaskIDs) (elQ true 8 10 dTaskIDs ⟨w, FG w0 G0⟩) w (FG w0 G0) a45 (.mk 0 [] ((decide (n45 < 0) && decide (0 ≤ v))) l55 []) ∧ P43 w := ⟨_, rfl⟩
  replace H : St w0 G0 p pb s55 ((p, ty, [] ++ [.int .i16 v, .int .i32 n1, .int .i16 n3, c5, str u8, .int .i32 n10, .int .i32 n12, .int .i32 n14, .int .i32 n17, .int .i64 n19, a22, a32, .slice none 0 0, .slice none 0 0, .bool false, .int .i32 0, .slice none 0 0, .map none] ++ []) :: []) P56 w := by rw [hP56]; exact H
  refine H.st1 (v := a45) 12 (cells_one hone55) (hone55) rfl (by simp) rfl (Nat.lt_of_lt_of_le (Nat.lt_succ_self _) (Nat.le_of_ble_eq_true rfl)) ?_
  intro w H
  ((conv=>whnf);repeat((first|refine mvT ?_|refine mvF ?_|refine yT ?_|refine yF ?_);conv=>whnf))
  replace H : St w0 G0 p pb s55 ((p, ty, [] ++ [.int .i16 v, .int .i32 n1, .int .i16 n3, c5, str u8, .int .i32 n10, .int .i32 n12, .int .i32 n14, .int .i32 n17, .int .i64 n19, a22, a32, a45, .slice none 0 0, .bool false, .int .i32 0, .slice none 0 0, .map none] ++ []) :: []) P56 w := H
  refine ldS (H.cell (o := 0) rfl (k := 13) rfl) ?_;((conv=>whnf);repeat((first|refine mvT ?_|refine mvF ?_|refine yT ?_|refine yF ?_);conv=>whnf))
  (refine mvB ?_;((conv=>whnf);repeat((first|refine mvT ?_|refine mvF ?_|refine yT ?_|refine yF ?_);conv=>whnf)))
  refine VC.cutE (fun q : Int × Rd => [(54, .int .i32 q.1), (53, .slice none 0 0), (0, .pointer (some ⟨p, 0, none⟩)), (2, .bool false), (7, .pointer (some ⟨pb, 0, none⟩)), (8, .int .i16 v), (9, .bool fx), (10, .pointer (some ⟨p, 0, none⟩))]) (fun q w' => (-2147483648 ≤ q.1 ∧ q.1 ≤ 2147483647) ∧ rdLn fx s55 = q ∧ St w0 G0 p pb q.2 ((p, ty, [] ++ [.int .i16 v, .int .i32 n1, .int .i16 n3, c5, str u8, .int .i32 n10, .int .i32 n12, .int .i32 n14, .int .i32 n17, .int .i64 n19, a22, a32, a45, .slice none 0 0, .bool false, .int .i32 0, .slice none 0 0, .map none] ++ []) :: []) P56 w') ?_ ?_
  · refine cI (by rfl) (fun hc=>?_) (fun hc=>?_)
    · ((conv=>whnf);repeat((first|refine mvT ?_|refine mvF ?_|refine yT ?_|refine yF ?_);conv=>whnf))
      refine Does.mono H.lnc ?_
      rintro r w ⟨n, s', rfl, hn, hr, H⟩
      ((conv=>whnf);repeat((first|refine mvT ?_|refine mvF ?_|refine yT ?_|refine yF ?_);conv=>whnf))
      exact ⟨(n, s'), ⟨rfl, rfl, rfl, rfl, rfl, rfl, rfl, rfl, trivial⟩, hn, by rw [hc]; exact hr, H⟩
    · ((conv=>whnf);repeat((first|refine mvT ?_|refine mvF ?_|refine yT ?_|refine yF ?_);conv=>whnf))
      refine Does.mono H.lnp ?_
      rintro r w ⟨n, s', rfl, hn, hr, H⟩
      ((conv=>whnf);repeat((first|refine mvT ?_|refine mvF ?_|refine yT ?_|refine yF ?_);conv=>whnf))
      exact ⟨(n, s'), ⟨rfl, rfl, rfl, rfl, rfl, rfl, rfl, rfl, trivial⟩, hn, by rw [hc]; exact hr, H⟩
  clear H
  rintro ⟨n58, s58⟩ w ⟨hn58, hln58, H⟩
  dsimp only at hn58 hln58 H
  ((conv=>whnf);repeat((first|refine mvT ?_|refine mvF ?_|refine yT ?_|refine yF ?_);conv=>whnf))
  intro cq hcq
  obtain rfl : cq = false := by rw [← hcq]; exact decide_eq_false (by omega)
  ((conv=>whnf);repeat((first|refine mvT ?_|refine mvF ?_|refine yT ?_|refine yF ?_);conv=>whnf))
  refine VC.cutE (fun a : Option Addr => [(54, .int .i32 n58), (53, .slice a 0 0), (0, .pointer (some ⟨p, 0, none⟩)), (2, .bool false), (7, .pointer (some ⟨pb, 0, none⟩)), (8, .int .i16 v), (9, .bool fx), (10, .pointer (some ⟨p, 0, none⟩))]) (fun a w' => StE w0 G0 p pb s58 85 ((p, ty, [] ++ [.int .i16 v, .int .i32 n1, .int .i16 n3, c5, str u8, .int .i32 n10, .int .i32 n12, .int .i32 n14, .int .i32 n17, .int .i64 n19, a22, a32, a45, .slice none 0 0, .bool false, .int .i32 0, .slice none 0 0, .map none] ++ []) :: []) P56 (v < 0 ∨ n58 = 0) a w') ?_ ?_
  · refine cI (by rfl) (fun hz=>?_) (fun hz=>?_)
    · have hz : n58 = 0 := by simpa using hz
      ((conv=>whnf);repeat((first|refine mvT ?_|refine mvF ?_|refine yT ?_|refine yF ?_);conv=>whnf))
      intro be we hbe hoe hxe
      ((conv=>whnf);repeat((first|refine mvT ?_|refine mvF ?_|refine yT ?_|refine yF ?_);conv=>whnf))
      exact ⟨_, ⟨rfl, rfl, rfl, rfl, rfl, rfl, rfl, rfl, trivial⟩, .inr ⟨.inr hz, be, rfl, H.push hxe hoe hbe⟩⟩
    · have hz : ¬ n58 = 0 := by simpa using hz
      ((conv=>whnf);repeat((first|refine mvT ?_|refine mvF ?_|refine yT ?_|refine yF ?_);conv=>whnf))
      exact ⟨_, ⟨rfl, rfl, rfl, rfl, rfl, rfl, rfl, rfl, trivial⟩, .inl ⟨by omega, rfl, H⟩⟩
  clear H
  rintro ae58 w H
  ((conv=>whnf);repeat((first|refine mvT ?_|refine mvF ?_|refine yT ?_|refine yF ?_);conv=>whnf))
  refine Does.mono H.ok ?_
  rintro r w ⟨rfl, H⟩
  ((conv=>whnf);repeat((first|refine mvT ?_|refine mvF ?_|refine yT ?_|refine yF ?_);conv=>whnf))
  refine cI (by rfl) (fun hbd=>?_) (fun hbd=>?_)
  · have hbd : s58.2 = true := by simpa using hbd
    ((conv=>whnf);repeat((first|refine mvT ?_|refine mvF ?_|refine yT ?_|refine yF ?_);conv=>whnf))
    refine Does.mono (H.done hL hp1) ?_
    rintro r w ⟨rfl, H⟩
    ((conv=>whnf);repeat((first|refine mvT ?_|refine mvF ?_|refine yT ?_|refine yF ?_);conv=>whnf))
    obtain ⟨_, H⟩ := H
    refine RdPost.early hbd (hup0 (?_)) H
    rw [tail_yes (rdField3.trans hr1) ⟨by decide, has_all hv⟩, tail_yes (rdField2.trans hr3) ⟨by decide, has_all hv⟩, tail_yes ((rdField8n (by decide)).trans hr5) ⟨by decide, has_all hv⟩, tail_yes (rdField8 (by decide) hr8) ⟨by decide, has_all hv⟩, tail_yes (rdField3.trans hr10) ⟨by decide, has_all hv⟩, tail_yes (rdField3.trans hr12) ⟨by decide, has_all hv⟩, tail_ver hr14 (by decide), tail_yes (rdField3.trans hr17) ⟨by decide, has_all hv⟩, tail_ver hr19 (by decide), tail_yes ((rdField_list _ _ _ _ _ _ _ _ _ _ _).trans hr29) ⟨by decide, has_all hv⟩, tail_yes ((rdField_list _ _ _ _ _ _ _ _ _ _ _).trans hr42) ⟨by decide, has_all hv⟩, tail_yes ((rdField_list _ _ _ _ _ _ _ _ _ _ _).trans hr55) ⟨by decide, has_all hv⟩, tail_len ⟨by decide, has_all hv⟩ hln58 hbd]
  have hbd : s58.2 = false := by simpa using hbd
  clear hbd
  ((conv=>whnf);repeat((first|refine mvT ?_|refine mvF ?_|refine yT ?_|refine yF ?_);conv=>whnf))
  refine cut_zero ?_
  ((conv=>whnf);repeat((first|refine mvT ?_|refine mvF ?_|refine yT ?_|refine yF ?_);conv=>whnf))
  refine VC.cutE (fun a : Value => [(54, .int .i32 n58), (53, a), (0, .pointer (some ⟨p, 0, none⟩)), (2, .bool false), (7, .pointer (some ⟨pb, 0, none⟩)), (8, .int .i16 v), (9, .bool fx), (10, .pointer (some ⟨p, 0, none⟩))]) (fun a w' => ListI w0 G0 p pb 85 [str [], .slice none 0 0, .map none] (elR 8 v fx 10 dTaskIDs) (elQ true 8 10 dTaskIDs) s58 n58 ((decide (n58 < 0) && decide (0 ≤ v))) ((p, ty, [] ++ [.int .i16 v, .int .i32 n1, .int .i16 n3, c5, str u8, .int .i32 n10, .int .i32 n12, .int .i32 n14, .int .i32 n17, .int .i64 n19, a22, a32, a45, .slice none 0 0, .bool false, .int .i32 0, .slice none 0 0, .map none] ++ []) :: []) P56 a 0 w') ?_ ?_
  · refine cI (by rfl) (fun hps=>?_) (fun hps=>?_)
    · have hps : 0 < n58 := by have := of_decide_eq_true hps; omega
      ((conv=>whnf);repeat((first|refine mvT ?_|refine mvF ?_|refine yT ?_|refine yF ?_);conv=>whnf))
      refine H.grow hps hn58.2 (by decide) rfl rfl (by decide) ?_
      intro g cap post w hc1 hc2 H
      ((conv=>whnf);repeat((first|refine mvT ?_|refine mvF ?_|refine yT ?_|refine yF ?_);conv=>whnf))
      exact ⟨_, ⟨rfl, rfl, rfl, rfl, rfl, rfl, rfl, rfl, trivial⟩, ListI.some hps (by simp; omega) hc1 hc2 H⟩
    · have hps : n58 ≤ 0 := by have := of_decide_eq_false hps; omega
      ((conv=>whnf);repeat((first|refine mvT ?_|refine mvF ?_|refine yT ?_|refine yF ?_);conv=>whnf))
      exact ⟨_, ⟨rfl, rfl, rfl, rfl, rfl, rfl, rfl, rfl, trivial⟩, H.none hps (fun h => by rcases h with h | h <;> (simp; omega)) (fun h => by simp; omega)⟩
  clear H
  rintro a58 w H
  ((conv=>whnf);repeat((first|refine mvT ?_|refine mvF ?_|refine yT ?_|refine yF ?_);conv=>whnf))
  have hpL58 : inL ((p, ty, [] ++ [.int .i16 v, .int .i32 n1, .int .i16 n3, c5, str u8, .int .i32 n10, .int .i32 n12, .int .i32 n14, .int .i32 n17, .int .i64 n19, a22, a32, a45, .slice none 0 0, .bool false, .int .i32 0, .slice none 0 0, .map none] ++ []) :: []) p := inL.head _ _
  refine VL.loop (fun i : Nat => [(54, .int .i32 n58), (53, a58), (55, .int .i32 i), (0, .pointer (some ⟨p, 0, none⟩)), (2, .bool false), (7, .pointer (some ⟨pb, 0, none⟩)), (8, .int .i16 v), (9, .bool fx), (10, .pointer (some ⟨p, 0, none⟩))]) (fun i w' => i ≤ 2147483647 ∧ ListI w0 G0 p pb 85 [str [], .slice none 0 0, .map none] (elR 8 v fx 10 dTaskIDs) (elQ true 8 10 dTaskIDs) s58 n58 ((decide (n58 < 0) && decide (0 ≤ v))) ((p, ty, [] ++ [.int .i16 v, .int .i32 n1, .int .i16 n3, c5, str u8, .int .i32 n10, .int .i32 n12, .int .i32 n14, .int .i32 n17, .int .i64 n19, a22, a32, a45, .slice none 0 0, .bool false, .int .i32 0, .slice none 0 0, .map none] ++ []) :: []) P56 a58 i w') (fun i => n58.toNat - i) 0 ⟨rfl, rfl, rfl, rfl, rfl, rfl, rfl, rfl, rfl, trivial⟩ ⟨by decide, H⟩ ?_
  clear H
  rintro i58 w ⟨hi58, H⟩
  ((conv=>whnf);repeat((first|refine mvT ?_|refine mvF ?_|refine yT ?_|refine yF ?_);conv=>whnf))
  refine cI (by rfl) (fun h9=>?_) (fun h9=>?_)
  · have hlt58 : (i58 : Int) < n58 := of_decide_eq_true h9
    obtain ⟨g58, cap58, post58, rfl, hgo58, HI⟩ := H.go hlt58
    obtain ⟨es58, ts58, si58, hes58, hez58, hrn58, hts58, hlen1, H⟩ := HI.open hgo58.2.2.2.2
    obtain ⟨L58, hL58⟩ : ∃ L : List Ob, L = ((p, ty, [] ++ [.int .i16 v, .int .i32 n1, .int .i16 n3, c5, str u8, .int .i32 n10, .int .i32 n12, .int .i32 n14, .int .i32 n17, .int .i64 n19, a22, a32, a45, .slice none 0 0, .bool false, .int .i32 0, .slice none 0 0, .map none] ++ []) :: []) := ⟨_, rfl⟩
    rw [← hL58] at H hpL58
    obtain ⟨P58, hP58⟩ : ∃ P : World → Prop, P = fun w => (∀ (j : Nat) (c : List Value) (y : T), es58[j]? = some c → ts58[j]? = some y → elQ true 8 10 dTaskIDs ⟨w, FG w0 G0⟩ c y) ∧ P56 w := ⟨_, rfl⟩
    rw [← hP58] at H
    replace H : St w0 G0 p pb si58 ((g58, 85, es58.flatten ++ [str [], .slice none 0 0, .map none] ++ ((List.replicate (n58.toNat - (i58 + 1)) [str [], .slice none 0 0, .map none]).flatten ++ post58)) :: L58) P58 w := H
    ((conv=>whnf);repeat((first|refine mvT ?_|refine mvF ?_|refine yT ?_|refine yF ?_);conv=>whnf))
    refine ⟨g58, 0, rfl, ⟨by omega, by omega⟩, ?_⟩
    ((conv=>whnf);repeat((first|refine mvT ?_|refine mvF ?_|refine yT ?_|refine yF ?_);conv=>whnf))
    refine Does.mono (dfTaskIDs (pre := es58.flatten) (cur := [str [], .slice none 0 0, .map none]) (post := ((List.replicate (n58.toNat - (i58 + 1)) [str [], .slice none 0 0, .map none]).flatten ++ post58)) H.head (by first | (rw [hlen1]; simp; done) | (simp [hlen1]; done) | (simp [hlen1]; omega)) rfl) ?_
    rintro rd w2 ⟨hdf, hxd⟩
    replace H := H.put hdf hxd
    clear hdf hxd
    replace H : St w0 G0 p pb si58 ((g58, 85, es58.flatten ++ [str [], .slice none 0 0, .map none] ++ ((List.replicate (n58.toNat - (i58 + 1)) [str [], .slice none 0 0, .map none]).flatten ++ post58)) :: L58) P58 w2 := H
    ((conv=>whnf);repeat((first|refine mvT ?_|refine mvF ?_|refine yT ?_|refine yF ?_);conv=>whnf))
    have hup58 : tailBad 8 v fx dTaskIDs dTaskIDs si58 = true → (rdPart 9 v fx dStreamsGroupHeartbeatResponse (l, false)).2.2 = true := by
      intro hb
      refine hup0 ?_
      rw [tail_yes (rdField3.trans hr1) ⟨by decide, has_all hv⟩, tail_yes (rdField2.trans hr3) ⟨by decide, has_all hv⟩, tail_yes ((rdField8n (by decide)).trans hr5) ⟨by decide, has_all hv⟩, tail_yes (rdField8 (by decide) hr8) ⟨by decide, has_all hv⟩, tail_yes (rdField3.trans hr10) ⟨by decide, has_all hv⟩, tail_yes (rdField3.trans hr12) ⟨by decide, has_all hv⟩, tail_ver hr14 (by decide), tail_yes (rdField3.trans hr17) ⟨by decide, has_all hv⟩, tail_ver hr19 (by decide), tail_yes ((rdField_list _ _ _ _ _ _ _ _ _ _ _).trans hr29) ⟨by decide, has_all hv⟩, tail_yes ((rdField_list _ _ _ _ _ _ _ _ _ _ _).trans hr42) ⟨by decide, has_all hv⟩, tail_yes ((rdField_list _ _ _ _ _ _ _ _ _ _ _).trans hr55) ⟨by decide, has_all hv⟩, tail_el ⟨by decide, has_all hv⟩ hln58 hgo58.2.2.2.2 hrn58 ((tailBad_part _ _ _ _ _).symm.trans hb)]
    (refine mvB ?_;((conv=>whnf);repeat((first|refine mvT ?_|refine mvF ?_|refine yT ?_|refine yF ?_);conv=>whnf)))
    refine VC.cutE (fun q : List UInt8 × Rd => [(58, str q.1), (0, .pointer (some ⟨p, 0, none⟩)), (2, .bool false), (7, .pointer (some ⟨pb, 0, none⟩)), (8, .int .i16 v), (9, .bool fx), (10, .pointer (some ⟨p, 0, none⟩)), (54, .int .i32 n58), (53, .slice (some ⟨g58, 0, none⟩) n58.toNat cap58), (55, .int .i32 i58), (56, .pointer (some ⟨g58, 0 + (i58 : Int).toNat * 3, none⟩)), (57, .pointer (some ⟨g58, 0 + (i58 : Int).toNat * 3, none⟩))]) (fun q w' => rdTx fx si58 = q ∧ St w0 G0 p pb q.2 ((g58, 85, es58.flatten ++ [str [], .slice none 0 0, .map none] ++ ((List.replicate (n58.toNat - (i58 + 1)) [str [], .slice none 0 0, .map none]).flatten ++ post58)) :: L58) P58 w') ?_ ?_
    · refine cI (by rfl) (fun hc=>?_) (fun hc=>?_)
      · ((conv=>whnf);repeat((first|refine mvT ?_|refine mvF ?_|refine yT ?_|refine yF ?_);conv=>whnf))
        refine Does.mono H.txc ?_
        rintro r w ⟨u, s', rfl, hr, H⟩
        ((conv=>whnf);repeat((first|refine mvT ?_|refine mvF ?_|refine yT ?_|refine yF ?_);conv=>whnf))
        exact ⟨(u, s'), ⟨rfl, rfl, rfl, rfl, rfl, rfl, rfl, rfl, rfl, rfl, rfl, rfl, trivial⟩, by rw [hc]; exact hr, H⟩
      · ((conv=>whnf);repeat((first|refine mvT ?_|refine mvF ?_|refine yT ?_|refine yF ?_);conv=>whnf))
        refine Does.mono H.txp ?_
        rintro r w ⟨u, s', rfl, hr, H⟩
        ((conv=>whnf);repeat((first|refine mvT ?_|refine mvF ?_|refine yT ?_|refine yF ?_);conv=>whnf))
        exact ⟨(u, s'), ⟨rfl, rfl, rfl, rfl, rfl, rfl, rfl, rfl, rfl, rfl, rfl, rfl, trivial⟩, by rw [hc]; exact hr, H⟩
    clear H
    rintro ⟨u59, s59⟩ w ⟨hr59, H⟩
    dsimp only at hr59 H
    ((conv=>whnf);repeat((first|refine mvT ?_|refine mvF ?_|refine yT ?_|refine yF ?_);conv=>whnf))
    refine H.st1 (v := str u59) 0 (rfl) (rfl) rfl (by first | omega | (simp [hlen1]; done) | (simp [hlen1]; omega)) rfl (Nat.lt_of_lt_of_le (Nat.lt_succ_self _) (Nat.le_of_ble_eq_true rfl)) ?_
    intro w H
    ((conv=>whnf);repeat((first|refine mvT ?_|refine mvF ?_|refine yT ?_|refine yF ?_);conv=>whnf))
    replace H : St w0 G0 p pb s59 ((g58, 85, es58.flatten ++ [str u59, .slice none 0 0, .map none] ++ ((List.replicate (n58.toNat - (i58 + 1)) [str [], .slice none 0 0, .map none]).flatten ++ post58)) :: L58) P58 w := H
    refine ⟨_, ld (H.cell rfl (k := 1) rfl) (by first | omega | (simp [hlen1]; done) | (simp [hlen1]; omega)), ?_⟩; ((conv=>whnf);repeat((first|refine mvT ?_|refine mvF ?_|refine yT ?_|refine yF ?_);conv=>whnf))
    (refine mvB ?_;((conv=>whnf);repeat((first|refine mvT ?_|refine mvF ?_|refine yT ?_|refine yF ?_);conv=>whnf)))
    refine VC.cutE (fun q : Int × Rd => [(61, .int .i32 q.1), (60, .slice none 0 0), (0, .pointer (some ⟨p, 0, none⟩)), (2, .bool false), (7, .pointer (some ⟨pb, 0, none⟩)), (8, .int .i16 v), (9, .bool fx), (10, .pointer (some ⟨p, 0, none⟩)), (54, .int .i32 n58), (53, .slice (some ⟨g58, 0, none⟩) n58.toNat cap58), (55, .int .i32 i58), (56, .pointer (some ⟨g58, 0 + (i58 : Int).toNat * 3, none⟩)), (57, .pointer (some ⟨g58, 0 + (i58 : Int).toNat * 3, none⟩))]) (fun q w' => (-2147483648 ≤ q.1 ∧ q.1 ≤ 2147483647) ∧ rdLn fx s59 = q ∧ St w0 G0 p pb q.2 ((g58, 85, es58.flatten ++ [str u59, .slice none 0 0, .map none] ++ ((List.replicate (n58.toNat - (i58 + 1)) [str [], .slice none 0 0, .map none]).flatten ++ post58)) :: L58) P58 w') ?_ ?_
    · refine cI (by rfl) (fun hc=>?_) (fun hc=>?_)
      · ((conv=>whnf);repeat((first|refine mvT ?_|refine mvF ?_|refine yT ?_|refine yF ?_);conv=>whnf))
        refine Does.mono H.lnc ?_
        rintro r w ⟨n, s', rfl, hn, hr, H⟩
        ((conv=>whnf);repeat((first|refine mvT ?_|refine mvF ?_|refine yT ?_|refine yF ?_);conv=>whnf))
        exact ⟨(n, s'), ⟨rfl, rfl, rfl, rfl, rfl, rfl, rfl, rfl, rfl, rfl, rfl, rfl, rfl, trivial⟩, hn, by rw [hc]; exact hr, H⟩
      · ((conv=>whnf);repeat((first|refine mvT ?_|refine mvF ?_|refine yT ?_|refine yF ?_);conv=>whnf))
        refine Does.mono H.lnp ?_
        rintro r w ⟨n, s', rfl, hn, hr, H⟩
        ((conv=>whnf);repeat((first|refine mvT ?_|refine mvF ?_|refine yT ?_|refine yF ?_);conv=>whnf))
        exact ⟨(n, s'), ⟨rfl, rfl, rfl, rfl, rfl, rfl, rfl, rfl, rfl, rfl, rfl, rfl, rfl, trivial⟩, hn, by rw [hc]; exact hr, H⟩
    clear H
    rintro ⟨n61, s61⟩ w ⟨hn61, hln61, H⟩
    dsimp only at hn61 hln61 H
    ((conv=>whnf);repeat((first|refine mvT ?_|refine mvF ?_|refine yT ?_|refine yF ?_);conv=>whnf))
    refine Does.mono H.ok ?_
    rintro r w ⟨rfl, H⟩
    ((conv=>whnf);repeat((first|refine mvT ?_|refine mvF ?_|refine yT ?_|refine yF ?_);conv=>whnf))
    refine cI (by rfl) (fun hbd=>?_) (fun hbd=>?_)
    · have hbd : s61.2 = true := by simpa using hbd
      ((conv=>whnf);repeat((first|refine mvT ?_|refine mvF ?_|refine yT ?_|refine yF ?_);conv=>whnf))
      refine Does.mono (H.done hL hp1) ?_
      rintro r w ⟨rfl, H⟩
      ((conv=>whnf);repeat((first|refine mvT ?_|refine mvF ?_|refine yT ?_|refine yF ?_);conv=>whnf))
      refine RdPost.early hbd (hup58 (?_)) H
      rw [tail_yes (rdField8 (by decide) hr59) ⟨by decide, has_all hv⟩, tail_len ⟨by decide, has_all hv⟩ hln61 hbd]
    have hbd : s61.2 = false := by simpa using hbd
    clear hbd
    ((conv=>whnf);repeat((first|refine mvT ?_|refine mvF ?_|refine yT ?_|refine yF ?_);conv=>whnf))
    refine cut_zero ?_
    ((conv=>whnf);repeat((first|refine mvT ?_|refine mvF ?_|refine yT ?_|refine yF ?_);conv=>whnf))
    refine VC.cutE (fun a : Value => [(61, .int .i32 n61), (60, a), (0, .pointer (some ⟨p, 0, none⟩)), (2, .bool false), (7, .pointer (some ⟨pb, 0, none⟩)), (8, .int .i16 v), (9, .bool fx), (10, .pointer (some ⟨p, 0, none⟩)), (54, .int .i32 n58), (53, .slice (some ⟨g58, 0, none⟩) n58.toNat cap58), (55, .int .i32 i58), (56, .pointer (some ⟨g58, 0 + (i58 : Int).toNat * 3, none⟩)), (57, .pointer (some ⟨g58, 0 + (i58 : Int).toNat * 3, none⟩))]) (fun a w' => ListI w0 G0 p pb 21 [.int .i32 0] (elR 7 v fx 3 []) (elQ true 7 3 []) s61 n61 (decide (n61 ≤ 0)) ((g58, 85, es58.flatten ++ [str u59, .slice none 0 0, .map none] ++ ((List.replicate (n58.toNat - (i58 + 1)) [str [], .slice none 0 0, .map none]).flatten ++ post58)) :: L58) P58 a 0 w') ?_ ?_
    · refine cI (by rfl) (fun hps=>?_) (fun hps=>?_)
      · have hps : 0 < n61 := by have := of_decide_eq_true hps; omega
        ((conv=>whnf);repeat((first|refine mvT ?_|refine mvF ?_|refine yT ?_|refine yF ?_);conv=>whnf))
        refine H.grow hps hn61.2 (by decide) rfl rfl (by decide) ?_
        intro g cap post w hc1 hc2 H
        ((conv=>whnf);repeat((first|refine mvT ?_|refine mvF ?_|refine yT ?_|refine yF ?_);conv=>whnf))
        exact ⟨_, ⟨rfl, rfl, rfl, rfl, rfl, rfl, rfl, rfl, rfl, rfl, rfl, rfl, rfl, trivial⟩, ListI.some hps (decide_eq_false (by omega)) hc1 hc2 H⟩
      · have hps : n61 ≤ 0 := by have := of_decide_eq_false hps; omega
        ((conv=>whnf);repeat((first|refine mvT ?_|refine mvF ?_|refine yT ?_|refine yF ?_);conv=>whnf))
        exact ⟨_, ⟨rfl, rfl, rfl, rfl, rfl, rfl, rfl, rfl, rfl, rfl, rfl, rfl, rfl, trivial⟩, ListI.none hps (decide_eq_true hps) H⟩
    clear H
    rintro a61 w H
    ((conv=>whnf);repeat((first|refine mvT ?_|refine mvF ?_|refine yT ?_|refine yF ?_);conv=>whnf))
    have hpL61 : inL ((g58, 85, es58.flatten ++ [str u59, .slice none 0 0, .map none] ++ ((List.replicate (n58.toNat - (i58 + 1)) [str [], .slice none 0 0, .map none]).flatten ++ post58)) :: L58) p := inL.tail hpL58
    refine VL.loop (fun i : Nat => [(61, .int .i32 n61), (60, a61), (62, .int .i32 i), (0, .pointer (some ⟨p, 0, none⟩)), (2, .bool false), (7, .pointer (some ⟨pb, 0, none⟩)), (8, .int .i16 v), (9, .bool fx), (10, .pointer (some ⟨p, 0, none⟩)), (54, .int .i32 n58), (53, .slice (some ⟨g58, 0, none⟩) n58.toNat cap58), (55, .int .i32 i58), (56, .pointer (some ⟨g58, 0 + (i58 : Int).toNat * 3, none⟩)), (57, .pointer (some ⟨g58, 0 + (i58 : Int).toNat * 3, none⟩))]) (fun i w' => i ≤ 2147483647 ∧ ListI w0 G0 p pb 21 [.int .i32 0] (elR 7 v fx 3 []) (elQ true 7 3 []) s61 n61 (decide (n61 ≤ 0)) ((g58, 85, es58.flatten ++ [str u59, .slice none 0 0, .map none] ++ ((List.replicate (n58.toNat - (i58 + 1)) [str [], .slice none 0 0, .map none]).flatten ++ post58)) :: L58) P58 a61 i w') (fun i => n61.toNat - i) 0 ⟨rfl, rfl, rfl, rfl, rfl, rfl, rfl, rfl, rfl, rfl, rfl, rfl, rfl, rfl, trivial⟩ ⟨by decide, H⟩ ?_
    clear H
    rintro i61 w ⟨hi61, H⟩
    ((conv=>whnf);repeat((first|refine mvT ?_|refine mvF ?_|refine yT ?_|refine yF ?_);conv=>whnf))
    refine cI (by rfl) (fun h9=>?_) (fun h9=>?_)
    · have hlt61 : (i61 : Int) < n61 := of_decide_eq_true h9
      obtain ⟨g61, cap61, post61, rfl, hgo61, HI⟩ := H.go hlt61
      obtain ⟨es61, ts61, si61, hes61, hez61, hrn61, hts61, hlen2, H⟩ := HI.open hgo61.2.2.2.2
      obtain ⟨L61, hL61⟩ : ∃ L : List Ob, L = ((g58, 85, es58.flatten ++ [str u59, .slice none 0 0, .map none] ++ ((List.replicate (n58.toNat - (i58 + 1)) [str [], .slice none 0 0, .map none]).flatten ++ post58)) :: L58) := ⟨_, rfl⟩
      rw [← hL61] at H hpL61
      obtain ⟨P61, hP61⟩ : ∃ P : World → Prop, P = fun w => (∀ (j : Nat) (c : List Value) (y : T), es61[j]? = some c → ts61[j]? = some y → elQ true 7 3 [] ⟨w, FG w0 G0⟩ c y) ∧ P58 w := ⟨_, rfl⟩
      rw [← hP61] at H
      replace H : St w0 G0 p pb si61 ((g61, 21, es61.flatten ++ [.int .i32 0] ++ ((List.replicate (n61.toNat - (i61 + 1)) [.int .i32 0]).flatten ++ post61)) :: L61) P61 w := H
      ((conv=>whnf);repeat((first|refine mvT ?_|refine mvF ?_|refine yT ?_|refine yF ?_);conv=>whnf))
      refine Does.mono H.int32 ?_
      rintro r w ⟨n62, s62, rfl, hn62, hr62, H⟩
      ((conv=>whnf);repeat((first|refine mvT ?_|refine mvF ?_|refine yT ?_|refine yF ?_);conv=>whnf))
      refine ⟨g61, 0, rfl, ⟨by omega, by omega⟩, ?_⟩
      ((conv=>whnf);repeat((first|refine mvT ?_|refine mvF ?_|refine yT ?_|refine yF ?_);conv=>whnf))
      refine H.st1 (v := .int .i32 n62) 0 (rfl) (rfl) rfl (by first | omega | (simp [hlen2]; done) | (simp [hlen2]; omega)) rfl (Nat.lt_of_lt_of_le (Nat.lt_succ_self _) (Nat.le_of_ble_eq_true rfl)) ?_
      intro w H
      ((conv=>whnf);repeat((first|refine mvT ?_|refine mvF ?_|refine yT ?_|refine yF ?_);conv=>whnf))
      replace H : St w0 G0 p pb s62 ((g61, 21, es61.flatten ++ [.int .i32 n62] ++ ((List.replicate (n61.toNat - (i61 + 1)) [.int .i32 0]).flatten ++ post61)) :: L61) P61 w := H
      refine ⟨i61 + 1, ⟨rfl, rfl, ?_, rfl, rfl, rfl, rfl, rfl, rfl, rfl, rfl, rfl, rfl, rfl, trivial⟩, ⟨by omega, ListI.back hgo61 (LoopI.next hes61 hez61 hrn61 hts61 (cur := [.int .i32 n62]) (x := numT n62) (hr62) rfl (by rw [← hL61]; exact H) fun w hP => ?_)⟩, by omega⟩
      · show some (Value.int .i32 _) = _
        rw [IntKind.wrap_i32]
        simp only [Option.some.injEq, Value.int.injEq, true_and]
        omega
      · skip
        rw [hP61] at hP
        exact ⟨⟨_, hn62, rfl, rfl⟩, hP⟩
    have hge61 : ¬ (i61 : Int) < n61 := of_decide_eq_false h9
    obtain ⟨l63, s63, hone63, hl63, hr63, H⟩ := H.done hge61 hln61 (nl := nlF (.mk 11 0 (-1) (-1) (-1) 0 3 []) v) (sz := elZ true 7 3 []) rfl hpL61 rfl
    ((conv=>whnf);repeat((first|refine mvT ?_|refine mvF ?_|refine yT ?_|refine yF ?_);conv=>whnf))
    obtain ⟨P64, hP64⟩ : ∃ P : World → Prop, P = fun w => ListR true (elZ true 7 3 []) (elQ true 7 3 [] ⟨w, FG w0 G0⟩) w (FG w0 G0) a61 (.mk 0 [] (decide (n61 ≤ 0)) l63 []) ∧ P58 w := ⟨_, rfl⟩
    replace H : St w0 G0 p pb s63 ((g58, 85, es58.flatten ++ [str u59, .slice none 0 0, .map none] ++ ((List.replicate (n58.toNat - (i58 + 1)) [str [], .slice none 0 0, .map none]).flatten ++ post58)) :: L58) P64 w := by rw [hP64]; exact H
    refine H.st1 (v := a61) 1 (cells_one hone63) (hone63) rfl (by first | omega | (simp [hlen1]; done) | (simp [hlen1]; omega)) rfl (Nat.lt_of_lt_of_le (Nat.lt_succ_self _) (Nat.le_of_ble_eq_true rfl)) ?_
    intro w H
    ((conv=>whnf);repeat((first|refine mvT ?_|refine mvF ?_|refine yT ?_|refine yF ?_);conv=>whnf))
    replace H : St w0 G0 p pb s63 ((g58, 85, es58.flatten ++ [str u59, a61, .map none] ++ ((List.replicate (n58.toNat - (i58 + 1)) [str [], .slice none 0 0, .map none]).flatten ++ post58)) :: L58) P64 w := H
    (refine mvB ?_;((conv=>whnf);repeat((first|refine mvT ?_|refine mvF ?_|refine yT ?_|refine yF ?_);conv=>whnf)))
    refine VC.cutB (fun q : Value × List Tg × Rd => [(0, .pointer (some ⟨p, 0, none⟩)), (2, .bool false), (7, .pointer (some ⟨pb, 0, none⟩)), (8, .int .i16 v), (9, .bool fx), (10, .pointer (some ⟨p, 0, none⟩)), (54, .int .i32 n58), (53, .slice (some ⟨g58, 0, none⟩) n58.toNat cap58), (55, .int .i32 i58), (56, .pointer (some ⟨g58, 0 + (i58 : Int).toNat * 3, none⟩)), (57, .pointer (some ⟨g58, 0 + (i58 : Int).toNat * 3, none⟩))]) (fun q w' => rdTagsF fx s63 = q.2 ∧ St w0 G0 p pb q.2.2 ((g58, 85, es58.flatten ++ [str u59, a61, q.1] ++ ((List.replicate (n58.toNat - (i58 + 1)) [str [], .slice none 0 0, .map none]).flatten ++ post58)) :: L58) (fun w => TGf w0 G0 q.1 q.2.1 w ∧ P64 w) w') ?_ ?_
    · refine cI (by rfl) (fun hc=>?_) (fun hc=>?_)
      · ((conv=>whnf);repeat((first|refine mvT ?_|refine mvF ?_|refine yT ?_|refine yF ?_);conv=>whnf))
        refine Does.mono H.tags ?_
        rintro r w ⟨m, u, s', rfl, hone, hr, H⟩
        ((conv=>whnf);repeat((first|refine mvT ?_|refine mvF ?_|refine yT ?_|refine yF ?_);conv=>whnf))
        refine H.st1 (v := m) 2 (rfl) (hone) rfl (by first | omega | (simp [hlen1]; done) | (simp [hlen1]; omega)) rfl (Nat.lt_of_lt_of_le (Nat.lt_succ_self _) (Nat.le_of_ble_eq_true rfl)) ?_
        intro w H
        ((conv=>whnf);repeat((first|refine mvT ?_|refine mvF ?_|refine yT ?_|refine yF ?_);conv=>whnf))
        exact ⟨(m, u, s'), ⟨rfl, rfl, rfl, rfl, rfl, rfl, rfl, rfl, rfl, rfl, rfl, trivial⟩, by rw [rdTagsF, if_pos hc]; exact hr, H⟩
      · ((conv=>whnf);repeat((first|refine mvT ?_|refine mvF ?_|refine yT ?_|refine yF ?_);conv=>whnf))
        exact ⟨(.map none, [], s63), ⟨rfl, rfl, rfl, rfl, rfl, rfl, rfl, rfl, rfl, rfl, rfl, trivial⟩, by rw [rdTagsF, if_neg (by rw [hc]; decide)], H.add fun w' _ => TagsR.nil _ _⟩
    clear H
    rintro ⟨m66, u66, s66⟩ w ⟨htg, H⟩
    dsimp only at htg H
    ((conv=>whnf);repeat((first|refine mvT ?_|refine mvF ?_|refine yT ?_|refine yF ?_);conv=>whnf))
    obtain ⟨P67, hP67⟩ : ∃ P : World → Prop, P = fun w => TGf w0 G0 m66 u66 w ∧ P64 w := ⟨_, rfl⟩
    replace H : St w0 G0 p pb s66 ((g58, 85, es58.flatten ++ [str u59, a61, m66] ++ ((List.replicate (n58.toNat - (i58 + 1)) [str [], .slice none 0 0, .map none]).flatten ++ post58)) :: L58) P67 w := by rw [hP67]; exact H
    have hpart : rdPart 8 v fx dTaskIDs si58 = (.mk 0 [] false [.mk 0 u59 false [] [], .mk 0 [] (decide (n61 ≤ 0)) l63 []] u66, s66) := by
      unfold rdPart rdPartW
      rw [rdTail_plain (by decide)]
      rw [rdAll_yes (df := dfT 8) (rdField8 (by decide) hr59) ⟨by decide, has_all hv⟩, rdAll_yes (df := dfT 8) ((rdField_list _ _ _ _ _ _ _ _ _ _ _).trans hr63) ⟨by decide, has_all hv⟩]
      simp only [rdAll]
      rw [htg]
    refine ⟨i58 + 1, ⟨rfl, rfl, ?_, rfl, rfl, rfl, rfl, rfl, rfl, trivial⟩, ⟨by omega, ListI.back hgo58 (LoopI.next hes58 hez58 hrn58 hts58 (cur := [str u59, a61, m66]) (x := .mk 0 [] false [.mk 0 u59 false [] [], .mk 0 [] (decide (n61 ≤ 0)) l63 []] u66) (hpart) rfl (by rw [← hL58]; exact H) fun w hP => ?_)⟩, by omega⟩
    · show some (Value.int .i32 _) = _
      rw [IntKind.wrap_i32]
      simp only [Option.some.injEq, Value.int.injEq, true_and]
      omega
    · skip
      rw [hP67] at hP
      obtain ⟨hf67_, hP⟩ := hP
      rw [hP64] at hP
      obtain ⟨hf64_, hP⟩ := hP
      rw [hP58] at hP
      exact ⟨QPt (QA1 (QF8 (by decide) u59) (QA1 (QF11 hl63 hf64_) (QA0))) hf67_, hP⟩
  have hge58 : ¬ (i58 : Int) < n58 := of_decide_eq_false h9
  obtain ⟨l68, s68, hone68, hl68, hr68, H⟩ := H.done hge58 hln58 (nl := nlF (.mk 11 0 (-1) 0 (-1) 0 10 dTaskIDs) v) (sz := elZ true 8 10 dTaskIDs) rfl hpL58 rfl
  ((conv=>whnf);repeat((first|refine mvT ?_|refine mvF ?_|refine yT ?_|refine yF ?_);conv=>whnf))
  obtain ⟨P69, hP69⟩ : ∃ P : World → Prop, P = fun w => ListR true (elZ true 8 10 dTaskIDs) (elQ true 8 10 dTaskIDs ⟨w, FG w0 G0⟩) w (FG w0 G0) a58 (.mk 0 [] ((decide (n58 < 0) && decide (0 ≤ v))) l68 []) ∧ P56 w := ⟨_, rfl⟩
  replace H : St w0 G0 p pb s68 ((p, ty, [] ++ [.int .i16 v, .int .i32 n1, .int .i16 n3, c5, str u8, .int .i32 n10, .int .i32 n12, .int .i32 n14, .int .i32 n17, .int .i64 n19, a22, a32, a45, .slice none 0 0, .bool false, .int .i32 0, .slice none 0 0, .map none] ++ []) :: []) P69 w := by rw [hP69]; exact H
  refine H.st1 (v := a58) 13 (cells_one hone68) (hone68) rfl (by simp) rfl (Nat.lt_of_lt_of_le (Nat.lt_succ_self _) (Nat.le_of_ble_eq_true rfl)) ?_
  intro w H
  ((conv=>whnf);repeat((first|refine mvT ?_|refine mvF ?_|refine yT ?_|refine yF ?_);conv=>whnf))
  replace H : St w0 G0 p pb s68 ((p, ty, [] ++ [.int .i16 v, .int .i32 n1, .int .i16 n3, c5, str u8, .int .i32 n10, .int .i32 n12, .int .i32 n14, .int .i32 n17, .int .i64 n19, a22, a32, a45, a58, .bool false, .int .i32 0, .slice none 0 0, .map none] ++ []) :: []) P69 w := H
  refine VC.cutE (fun q : Bool × Rd => [(0, .pointer (some ⟨p, 0, none⟩)), (2, .bool false), (7, .pointer (some ⟨pb, 0, none⟩)), (8, .int .i16 v), (9, .bool fx), (10, .pointer (some ⟨p, 0, none⟩))]) (fun q w' => (if hasF (.mk 0 1 (-1) (-1) (-1) 0 0 []) v = true then rdField 9 v fx (.mk 0 1 (-1) (-1) (-1) 0 0 []) s68 else (dfT 9 (.mk 0 1 (-1) (-1) (-1) 0 0 []), s68)) = (numT (if q.1 = true then 1 else 0), q.2) ∧ St w0 G0 p pb q.2 ((p, ty, [] ++ [.int .i16 v, .int .i32 n1, .int .i16 n3, c5, str u8, .int .i32 n10, .int .i32 n12, .int .i32 n14, .int .i32 n17, .int .i64 n19, a22, a32, a45, a58, .bool q.1, .int .i32 0, .slice none 0 0, .map none] ++ []) :: []) P69 w') ?_ ?_
  · refine cI (by rfl) (fun hcv=>?_) (fun hcv=>?_)
    · ((conv=>whnf);repeat((first|refine mvT ?_|refine mvF ?_|refine yT ?_|refine yF ?_);conv=>whnf))
      refine Does.mono H.bool ?_
      rintro r w ⟨b72, s72, rfl, hr72, H⟩
      ((conv=>whnf);repeat((first|refine mvT ?_|refine mvF ?_|refine yT ?_|refine yF ?_);conv=>whnf))
      (refine mvB ?_;((conv=>whnf);repeat((first|refine mvT ?_|refine mvF ?_|refine yT ?_|refine yF ?_);conv=>whnf)))
      refine H.st1 (v := .bool b72) 14 (rfl) (rfl) rfl (by simp) rfl (Nat.lt_of_lt_of_le (Nat.lt_succ_self _) (Nat.le_of_ble_eq_true rfl)) ?_
      intro w H
      ((conv=>whnf);repeat((first|refine mvT ?_|refine mvF ?_|refine yT ?_|refine yF ?_);conv=>whnf))
      replace H : St w0 G0 p pb s72 ((p, ty, [] ++ [.int .i16 v, .int .i32 n1, .int .i16 n3, c5, str u8, .int .i32 n10, .int .i32 n12, .int .i32 n14, .int .i32 n17, .int .i64 n19, a22, a32, a45, a58, .bool b72, .int .i32 0, .slice none 0 0, .map none] ++ []) :: []) P69 w := H
      have hh : hasF (.mk 0 1 (-1) (-1) (-1) 0 0 []) v = true := by have := of_decide_eq_true hcv; rw [hasF_iff]; omega
      exact ⟨(b72, s72), ⟨rfl, rfl, rfl, rfl, rfl, rfl, trivial⟩, by rw [if_pos hh]; exact (rdField0.trans hr72), H⟩
    · ((conv=>whnf);repeat((first|refine mvT ?_|refine mvF ?_|refine yT ?_|refine yF ?_);conv=>whnf))
      have hh : ¬ hasF (.mk 0 1 (-1) (-1) (-1) 0 0 []) v = true := by have := of_decide_eq_false hcv; rw [hasF_iff]; omega
      exact ⟨(false, s68), ⟨rfl, rfl, rfl, rfl, rfl, rfl, trivial⟩, by rw [if_neg hh]; rfl, H⟩
  clear H
  rintro ⟨n71, s71⟩ w ⟨hr71, H⟩
  dsimp only at hr71 H
  ((conv=>whnf);repeat((first|refine mvT ?_|refine mvF ?_|refine yT ?_|refine yF ?_);conv=>whnf))
  replace H : St w0 G0 p pb s71 ((p, ty, [] ++ [.int .i16 v, .int .i32 n1, .int .i16 n3, c5, str u8, .int .i32 n10, .int .i32 n12, .int .i32 n14, .int .i32 n17, .int .i64 n19, a22, a32, a45, a58, .bool n71, .int .i32 0, .slice none 0 0, .map none] ++ []) :: []) P69 w := H
  refine Does.mono H.int32 ?_
  rintro r w ⟨n74, s74, rfl, hn74, hr74, H⟩
  ((conv=>whnf);repeat((first|refine mvT ?_|refine mvF ?_|refine yT ?_|refine yF ?_);conv=>whnf))
  refine H.st1 (v := .int .i32 n74) 15 (rfl) (rfl) rfl (by simp) rfl (Nat.lt_of_lt_of_le (Nat.lt_succ_self _) (Nat.le_of_ble_eq_true rfl)) ?_
  intro w H
  ((conv=>whnf);repeat((first|refine mvT ?_|refine mvF ?_|refine yT ?_|refine yF ?_);conv=>whnf))
  replace H : St w0 G0 p pb s74 ((p, ty, [] ++ [.int .i16 v, .int .i32 n1, .int .i16 n3, c5, str u8, .int .i32 n10, .int .i32 n12, .int .i32 n14, .int .i32 n17, .int .i64 n19, a22, a32, a45, a58, .bool n71, .int .i32 n74, .slice none 0 0, .map none] ++ []) :: []) P69 w := H
  refine ldS (H.cell (o := 0) rfl (k := 16) rfl) ?_;((conv=>whnf);repeat((first|refine mvT ?_|refine mvF ?_|refine yT ?_|refine yF ?_);conv=>whnf))
  (refine mvB ?_;((conv=>whnf);repeat((first|refine mvT ?_|refine mvF ?_|refine yT ?_|refine yF ?_);conv=>whnf)))
  refine VC.cutE (fun q : Int × Rd => [(68, .int .i32 q.1), (67, .slice none 0 0), (0, .pointer (some ⟨p, 0, none⟩)), (2, .bool false), (7, .pointer (some ⟨pb, 0, none⟩)), (8, .int .i16 v), (9, .bool fx), (10, .pointer (some ⟨p, 0, none⟩))]) (fun q w' => (-2147483648 ≤ q.1 ∧ q.1 ≤ 2147483647) ∧ rdLn fx s74 = q ∧ St w0 G0 p pb q.2 ((p, ty, [] ++ [.int .i16 v, .int .i32 n1, .int .i16 n3, c5, str u8, .int .i32 n10, .int .i32 n12, .int .i32 n14, .int .i32 n17, .int .i64 n19, a22, a32, a45, a58, .bool n71, .int .i32 n74, .slice none 0 0, .map none] ++ []) :: []) P69 w') ?_ ?_
  · refine cI (by rfl) (fun hc=>?_) (fun hc=>?_)
    · ((conv=>whnf);repeat((first|refine mvT ?_|refine mvF ?_|refine yT ?_|refine yF ?_);conv=>whnf))
      refine Does.mono H.lnc ?_
      rintro r w ⟨n, s', rfl, hn, hr, H⟩
      ((conv=>whnf);repeat((first|refine mvT ?_|refine mvF ?_|refine yT ?_|refine yF ?_);conv=>whnf))
      exact ⟨(n, s'), ⟨rfl, rfl, rfl, rfl, rfl, rfl, rfl, rfl, trivial⟩, hn, by rw [hc]; exact hr, H⟩
    · ((conv=>whnf);repeat((first|refine mvT ?_|refine mvF ?_|refine yT ?_|refine yF ?_);conv=>whnf))
      refine Does.mono H.lnp ?_
      rintro r w ⟨n, s', rfl, hn, hr, H⟩
      ((conv=>whnf);repeat((first|refine mvT ?_|refine mvF ?_|refine yT ?_|refine yF ?_);conv=>whnf))
      exact ⟨(n, s'), ⟨rfl, rfl, rfl, rfl, rfl, rfl, rfl, rfl, trivial⟩, hn, by rw [hc]; exact hr, H⟩
  clear H
  rintro ⟨n76, s76⟩ w ⟨hn76, hln76, H⟩
  dsimp only at hn76 hln76 H
  ((conv=>whnf);repeat((first|refine mvT ?_|refine mvF ?_|refine yT ?_|refine yF ?_);conv=>whnf))
  intro cq hcq
  obtain rfl : cq = false := by rw [← hcq]; exact decide_eq_false (by omega)
  ((conv=>whnf);repeat((first|refine mvT ?_|refine mvF ?_|refine yT ?_|refine yF ?_);conv=>whnf))
  refine VC.cutE (fun a : Option Addr => [(68, .int .i32 n76), (67, .slice a 0 0), (0, .pointer (some ⟨p, 0, none⟩)), (2, .bool false), (7, .pointer (some ⟨pb, 0, none⟩)), (8, .int .i16 v), (9, .bool fx), (10, .pointer (some ⟨p, 0, none⟩))]) (fun a w' => StE w0 G0 p pb s76 95 ((p, ty, [] ++ [.int .i16 v, .int .i32 n1, .int .i16 n3, c5, str u8, .int .i32 n10, .int .i32 n12, .int .i32 n14, .int .i32 n17, .int .i64 n19, a22, a32, a45, a58, .bool n71, .int .i32 n74, .slice none 0 0, .map none] ++ []) :: []) P69 (v < 0 ∨ n76 = 0) a w') ?_ ?_
  · refine cI (by rfl) (fun hz=>?_) (fun hz=>?_)
    · have hz : n76 = 0 := by simpa using hz
      ((conv=>whnf);repeat((first|refine mvT ?_|refine mvF ?_|refine yT ?_|refine yF ?_);conv=>whnf))
      intro be we hbe hoe hxe
      ((conv=>whnf);repeat((first|refine mvT ?_|refine mvF ?_|refine yT ?_|refine yF ?_);conv=>whnf))
      exact ⟨_, ⟨rfl, rfl, rfl, rfl, rfl, rfl, rfl, rfl, trivial⟩, .inr ⟨.inr hz, be, rfl, H.push hxe hoe hbe⟩⟩
    · have hz : ¬ n76 = 0 := by simpa using hz
      ((conv=>whnf);repeat((first|refine mvT ?_|refine mvF ?_|refine yT ?_|refine yF ?_);conv=>whnf))
      exact ⟨_, ⟨rfl, rfl, rfl, rfl, rfl, rfl, rfl, rfl, trivial⟩, .inl ⟨by omega, rfl, H⟩⟩
  clear H
  rintro ae76 w H
  ((conv=>whnf);repeat((first|refine mvT ?_|refine mvF ?_|refine yT ?_|refine yF ?_);conv=>whnf))
  refine Does.mono H.ok ?_
  rintro r w ⟨rfl, H⟩
  ((conv=>whnf);repeat((first|refine mvT ?_|refine mvF ?_|refine yT ?_|refine yF ?_);conv=>whnf))
  refine cI (by rfl) (fun hbd=>?_) (fun hbd=>?_)
  · have hbd : s76.2 = true := by simpa using hbd
    ((conv=>whnf);repeat((first|refine mvT ?_|refine mvF ?_|refine yT ?_|refine yF ?_);conv=>whnf))
    refine Does.mono (H.done hL hp1) ?_
    rintro r w ⟨rfl, H⟩
    ((conv=>whnf);repeat((first|refine mvT ?_|refine mvF ?_|refine yT ?_|refine yF ?_);conv=>whnf))
    obtain ⟨_, H⟩ := H
    refine RdPost.early hbd (hup0 (?_)) H
    rw [tail_yes (rdField3.trans hr1) ⟨by decide, has_all hv⟩, tail_yes (rdField2.trans hr3) ⟨by decide, has_all hv⟩, tail_yes ((rdField8n (by decide)).trans hr5) ⟨by decide, has_all hv⟩, tail_yes (rdField8 (by decide) hr8) ⟨by decide, has_all hv⟩, tail_yes (rdField3.trans hr10) ⟨by decide, has_all hv⟩, tail_yes (rdField3.trans hr12) ⟨by decide, has_all hv⟩, tail_ver hr14 (by decide), tail_yes (rdField3.trans hr17) ⟨by decide, has_all hv⟩, tail_ver hr19 (by decide), tail_yes ((rdField_list _ _ _ _ _ _ _ _ _ _ _).trans hr29) ⟨by decide, has_all hv⟩, tail_yes ((rdField_list _ _ _ _ _ _ _ _ _ _ _).trans hr42) ⟨by decide, has_all hv⟩, tail_yes ((rdField_list _ _ _ _ _ _ _ _ _ _ _).trans hr55) ⟨by decide, has_all hv⟩, tail_yes ((rdField_list _ _ _ _ _ _ _ _ _ _ _).trans hr68) ⟨by decide, has_all hv⟩, tail_ver hr71 (by decide), tail_yes (rdField3.trans hr74) ⟨by decide, has_all hv⟩, tail_len ⟨by decide, has_all hv⟩ hln76 hbd]
  have hbd : s76.2 = false := by simpa using hbd
  clear hbd
  ((conv=>whnf);repeat((first|refine mvT ?_|refine mvF ?_|refine yT ?_|refine yF ?_);conv=>whnf))
  refine cut_zero ?_
  ((conv=>whnf);repeat((first|refine mvT ?_|refine mvF ?_|refine yT ?_|refine yF ?_);conv=>whnf))
  refine VC.cutE (fun a : Value => [(68, .int .i32 n76), (67, a), (0, .pointer (some ⟨p, 0, none⟩)), (2, .bool false), (7, .pointer (some ⟨pb, 0, none⟩)), (8, .int .i16 v), (9, .bool fx), (10, .pointer (some ⟨p, 0, none⟩))]) (fun a w' => ListI w0 G0 p pb 95 [str [], .int .u16 0, .map none, .slice none 0 0, .slice none 0 0, .map none] (elR 8 v fx 10 dStreamsGroupHeartbeatResponsePartitionsByUserEndpoint) (elQ true 8 10 dStreamsGroupHeartbeatResponsePartitionsByUserEndpoint) s76 n76 ((decide (n76 < 0) && decide (0 ≤ v))) ((p, ty, [] ++ [.int .i16 v, .int .i32 n1, .int .i16 n3, c5, str u8, .int .i32 n10, .int .i32 n12, .int .i32 n14, .int .i32 n17, .int .i64 n19, a22, a32, a45, a58, .bool n71, .int .i32 n74, .slice none 0 0, .map none] ++ []) :: []) P69 a 0 w') ?_ ?_
  · refine cI (by rfl) (fun hps=>?_) (fun hps=>?_)
    · have hps : 0 < n76 := by have := of_decide_eq_true hps; omega
      ((conv=>whnf);repeat((first|refine mvT ?_|refine mvF ?_|refine yT ?_|refine yF ?_);conv=>whnf))
      refine H.grow hps hn76.2 (by decide) rfl rfl (by decide) ?_
      intro g cap post w hc1 hc2 H
      ((conv=>whnf);repeat((first|refine mvT ?_|refine mvF ?_|refine yT ?_|refine yF ?_);conv=>whnf))
      exact ⟨_, ⟨rfl, rfl, rfl, rfl, rfl, rfl, rfl, rfl, trivial⟩, ListI.some hps (by simp; omega) hc1 hc2 H⟩
    · have hps : n76 ≤ 0 := by have := of_decide_eq_false hps; omega
      ((conv=>whnf);repeat((first|refine mvT ?_|refine mvF ?_|refine yT ?_|refine yF ?_);conv=>whnf))
      exact ⟨_, ⟨rfl, rfl, rfl, rfl, rfl, rfl, rfl, rfl, trivial⟩, H.none hps (fun h => by rcases h with h | h <;> (simp; omega)) (fun h => by simp; omega)⟩
  clear H
  rintro a76 w H
  ((conv=>whnf);repeat((first|refine mvT ?_|refine mvF ?_|refine yT ?_|refine yF ?_);conv=>whnf))
  have hpL76 : inL ((p, ty, [] ++ [.int .i16 v, .int .i32 n1, .int .i16 n3, c5, str u8, .int .i32 n10, .int .i32 n12, .int .i32 n14, .int .i32 n17, .int .i64 n19, a22, a32, a45, a58, .bool n71, .int .i32 n74, .slice none 0 0, .map none] ++ []) :: []) p := inL.head _ _
  refine VL.loop (fun i : Nat => [(68, .int .i32 n76), (67, a76), (69, .int .i32 i), (0, .pointer (some ⟨p, 0, none⟩)), (2, .bool false), (7, .pointer (some ⟨pb, 0, none⟩)), (8, .int .i16 v), (9, .bool fx), (10, .pointer (some ⟨p, 0, none⟩))]) (fun i w' => i ≤ 2147483647 ∧ ListI w0 G0 p pb 95 [str [], .int .u16 0, .map none, .slice none 0 0, .slice none 0 0, .map none] (elR 8 v fx 10 dStreamsGroupHeartbeatResponsePartitionsByUserEndpoint) (elQ true 8 10 dStreamsGroupHeartbeatResponsePartitionsByUserEndpoint) s76 n76 ((decide (n76 < 0) && decide (0 ≤ v))) ((p, ty, [] ++ [.int .i16 v, .int .i32 n1, .int .i16 n3, c5, str u8, .int .i32 n10, .int .i32 n12, .int .i32 n14, .int .i32 n17, .int .i64 n19, a22, a32, a45, a58, .bool n71, .int .i32 n74, .slice none 0 0, .map none] ++ []) :: []) P69 a76 i w') (fun i => n76.toNat - i) 0 ⟨rfl, rfl, rfl, rfl, rfl, rfl, rfl, rfl, rfl, trivial⟩ ⟨by decide, H⟩ ?_
  clear H
  rintro i76 w ⟨hi76, H⟩
  ((conv=>whnf);repeat((first|refine mvT ?_|refine mvF ?_|refine yT ?_|refine yF ?_);conv=>whnf))
  refine cI (by rfl) (fun h9=>?_) (fun h9=>?_)
  · have hlt76 : (i76 : Int) < n76 := of_decide_eq_true h9
    obtain ⟨g76, cap76, post76, rfl, hgo76, HI⟩ := H.go hlt76
    obtain ⟨es76, ts76, si76, hes76, hez76, hrn76, hts76, hlen1, H⟩ := HI.open hgo76.2.2.2.2
    obtain ⟨L76, hL76⟩ : ∃ L : List Ob, L = ((p, ty, [] ++ [.int .i16 v, .int .i32 n1, .int .i16 n3, c5, str u8, .int .i32 n10, .int .i32 n12, .int .i32 n14, .int .i32 n17, .int .i64 n19, a22, a32, a45, a58, .bool n71, .int .i32 n74, .slice none 0 0, .map none] ++ []) :: []) := ⟨_, rfl⟩
    rw [← hL76] at H hpL76
    obtain ⟨P76, hP76⟩ : ∃ P : World → Prop, P = fun w => (∀ (j : Nat) (c : List Value) (y : T), es76[j]? = some c → ts76[j]? = some y → elQ true 8 10 dStreamsGroupHeartbeatResponsePartitionsByUserEndpoint ⟨w, FG w0 G0⟩ c y) ∧ P69 w := ⟨_, rfl⟩
    rw [← hP76] at H
    replace H : St w0 G0 p pb si76 ((g76, 95, es76.flatten ++ [str [], .int .u16 0, .map none, .slice none 0 0, .slice none 0 0, .map none] ++ ((List.replicate (n76.toNat - (i76 + 1)) [str [], .int .u16 0, .map none, .slice none 0 0, .slice none 0 0, .map none]).flatten ++ post76)) :: L76) P76 w := H
    ((conv=>whnf);repeat((first|refine mvT ?_|refine mvF ?_|refine yT ?_|refine yF ?_);conv=>whnf))
    refine ⟨g76, 0, rfl, ⟨by omega, by omega⟩, ?_⟩
    ((conv=>whnf);repeat((first|refine mvT ?_|refine mvF ?_|refine yT ?_|refine yF ?_);conv=>whnf))
    refine Does.mono (dfStreamsGroupHeartbeatResponsePartitionsByUserEndpoint (pre := es76.flatten) (cur := [str [], .int .u16 0, .map none, .slice none 0 0, .slice none 0 0, .map none]) (post := ((List.replicate (n76.toNat - (i76 + 1)) [str [], .int .u16 0, .map none, .slice none 0 0, .slice none 0 0, .map none]).flatten ++ post76)) H.head (by first | (rw [hlen1]; simp; done) | (simp [hlen1]; done) | (simp [hlen1]; omega)) rfl) ?_
    rintro rd w2 ⟨hdf, hxd⟩
    replace H := H.put hdf hxd
    clear hdf hxd
    replace H : St w0 G0 p pb si76 ((g76, 95, es76.flatten ++ [str [], .int .u16 0, .map none, .slice none 0 0, .slice none 0 0, .map none] ++ ((List.replicate (n76.toNat - (i76 + 1)) [str [], .int .u16 0, .map none, .slice none 0 0, .slice none 0 0, .map none]).flatten ++ post76)) :: L76) P76 w2 := H
    ((conv=>whnf);repeat((first|refine mvT ?_|refine mvF ?_|refine yT ?_|refine yF ?_);conv=>whnf))
    have hup76 : tailBad 8 v fx dStreamsGroupHeartbeatResponsePartitionsByUserEndpoint dStreamsGroupHeartbeatResponsePartitionsByUserEndpoint si76 = true → (rdPart 9 v fx dStreamsGroupHeartbeatResponse (l, false)).2.2 = true := by
      intro hb
      refine hup0 ?_
      rw [tail_yes (rdField3.trans hr1) ⟨by decide, has_all hv⟩, tail_yes (rdField2.trans hr3) ⟨by decide, has_all hv⟩, tail_yes ((rdField8n (by decide)).trans hr5) ⟨by decide, has_all hv⟩, tail_yes (rdField8 (by decide) hr8) ⟨by decide, has_all hv⟩, tail_yes (rdField3.trans hr10) ⟨by decide, has_all hv⟩, tail_yes (rdField3.trans hr12) ⟨by decide, has_all hv⟩, tail_ver hr14 (by decide), tail_yes (rdField3.trans hr17) ⟨by decide, has_all hv⟩, tail_ver hr19 (by decide), tail_yes ((rdField_list _ _ _ _ _ _ _ _ _ _ _).trans hr29) ⟨by decide, has_all hv⟩, tail_yes ((rdField_list _ _ _ _ _ _ _ _ _ _ _).trans hr42) ⟨by decide, has_all hv⟩, tail_yes ((rdField_list _ _ _ _ _ _ _ _ _ _ _).trans hr55) ⟨by decide, has_all hv⟩, tail_yes ((rdField_list _ _ _ _ _ _ _ _ _ _ _).trans hr68) ⟨by decide, has_all hv⟩, tail_ver hr71 (by decide), tail_yes (rdField3.trans hr74) ⟨by decide, has_all hv⟩, tail_el ⟨by decide, has_all hv⟩ hln76 hgo76.2.2.2.2 hrn76 ((tailBad_part _ _ _ _ _).symm.trans hb)]
    refine Does.mono (dfEndpoint (pre := es76.flatten ++ []) (cur := [str [], .int .u16 0, .map none]) (post := [.slice none 0 0, .slice none 0 0, .map none] ++ ((List.replicate (n76.toNat - (i76 + 1)) [str [], .int .u16 0, .map none, .slice none 0 0, .slice none 0 0, .map none]).flatten ++ post76)) (by have := H.head; simpa using this) (by first | (simp [hlen1]; done) | (simp [hlen1]; omega)) rfl) ?_
    rintro rd w2 ⟨hdf, hxd⟩
    replace hdf : Own w2 g76 95 (es76.flatten ++ [str [], .int .u16 0, .map none, .slice none 0 0, .slice none 0 0, .map none] ++ ((List.replicate (n76.toNat - (i76 + 1)) [str [], .int .u16 0, .map none, .slice none 0 0, .slice none 0 0, .map none]).flatten ++ post76)) := by simpa using hdf
    replace H := H.put hdf hxd
    clear hdf hxd
    replace H : St w0 G0 p pb si76 ((g76, 95, es76.flatten ++ [str [], .int .u16 0, .map none, .slice none 0 0, .slice none 0 0, .map none] ++ ((List.replicate (n76.toNat - (i76 + 1)) [str [], .int .u16 0, .map none, .slice none 0 0, .slice none 0 0, .map none]).flatten ++ post76)) :: L76) P76 w2 := H
    ((conv=>whnf);repeat((first|refine mvT ?_|refine mvF ?_|refine yT ?_|refine yF ?_);conv=>whnf))
    (refine mvB ?_;((conv=>whnf);repeat((first|refine mvT ?_|refine mvF ?_|refine yT ?_|refine yF ?_);conv=>whnf)))
    refine VC.cutE (fun q : List UInt8 × Rd => [(74, str q.1), (0, .pointer (some ⟨p, 0, none⟩)), (2, .bool false), (7, .pointer (some ⟨pb, 0, none⟩)), (8, .int .i16 v), (9, .bool fx), (10, .pointer (some ⟨p, 0, none⟩)), (68, .int .i32 n76), (67, .slice (some ⟨g76, 0, none⟩) n76.toNat cap76), (69, .int .i32 i76), (70, .pointer (some ⟨g76, 0 + (i76 : Int).toNat * 6, none⟩)), (71, .pointer (some ⟨g76, 0 + (i76 : Int).toNat * 6, none⟩)), (73, .pointer (some ⟨g76, 0 + (i76 : Int).toNat * 6 + 0, none⟩))]) (fun q w' => rdTx fx si76 = q ∧ St w0 G0 p pb q.2 ((g76, 95, es76.flatten ++ [str [], .int .u16 0, .map none, .slice none 0 0, .slice none 0 0, .map none] ++ ((List.replicate (n76.toNat - (i76 + 1)) [str [], .int .u16 0, .map none, .slice none 0 0, .slice none 0 0, .map none]).flatten ++ post76)) :: L76) P76 w') ?_ ?_
    · refine cI (by rfl) (fun hc=>?_) (fun hc=>?_)
      · ((conv=>whnf);repeat((first|refine mvT ?_|refine mvF ?_|refine yT ?_|refine yF ?_);conv=>whnf))
        refine Does.mono H.txc ?_
        rintro r w ⟨u, s', rfl, hr, H⟩
        ((conv=>whnf);repeat((first|refine mvT ?_|refine mvF ?_|refine yT ?_|refine yF ?_);conv=>whnf))
        exact ⟨(u, s'), ⟨rfl, rfl, rfl, rfl, rfl, rfl, rfl, rfl, rfl, rfl, rfl, rfl, rfl, trivial⟩, by rw [hc]; exact hr, H⟩
      · ((conv=>whnf);repeat((first|refine mvT ?_|refine mvF ?_|refine yT ?_|refine yF ?_);conv=>whnf))
        refine Does.mono H.txp ?_
        rintro r w ⟨u, s', rfl, hr, H⟩
        ((conv=>whnf);repeat((first|refine mvT ?_|refine mvF ?_|refine yT ?_|refine yF ?_);conv=>whnf))
        exact ⟨(u, s'), ⟨rfl, rfl, rfl, rfl, rfl, rfl, rfl, rfl, rfl, rfl, rfl, rfl, rfl, trivial⟩, by rw [hc]; exact hr, H⟩
    clear H
    rintro ⟨u78, s78⟩ w ⟨hr78, H⟩
    dsimp only at hr78 H
    ((conv=>whnf);repeat((first|refine mvT ?_|refine mvF ?_|refine yT ?_|refine yF ?_);conv=>whnf))
    refine H.st1 (v := str u78) 0 (rfl) (rfl) rfl (by first | omega | (simp [hlen1]; done) | (simp [hlen1]; omega)) rfl (Nat.lt_of_lt_of_le (Nat.lt_succ_self _) (Nat.le_of_ble_eq_true rfl)) ?_
    intro w H
    ((conv=>whnf);repeat((first|refine mvT ?_|refine mvF ?_|refine yT ?_|refine yF ?_);conv=>whnf))
    replace H : St w0 G0 p pb s78 ((g76, 95, es76.flatten ++ [str u78, .int .u16 0, .map none, .slice none 0 0, .slice none 0 0, .map none] ++ ((List.replicate (n76.toNat - (i76 + 1)) [str [], .int .u16 0, .map none, .slice none 0 0, .slice none 0 0, .map none]).flatten ++ post76)) :: L76) P76 w := H
    refine Does.mono H.uint16 ?_
    rintro r w ⟨n80, s80, rfl, hn80, hr80, H⟩
    ((conv=>whnf);repeat((first|refine mvT ?_|refine mvF ?_|refine yT ?_|refine yF ?_);conv=>whnf))
    refine H.st1 (v := .int .u16 n80) 1 (rfl) (rfl) rfl (by first | omega | (simp [hlen1]; done) | (simp [hlen1]; omega)) rfl (Nat.lt_of_lt_of_le (Nat.lt_succ_self _) (Nat.le_of_ble_eq_true rfl)) ?_
    intro w H
    ((conv=>whnf);repeat((first|refine mvT ?_|refine mvF ?_|refine yT ?_|refine yF ?_);conv=>whnf))
    replace H : St w0 G0 p pb s80 ((g76, 95, es76.flatten ++ [str u78, .int .u16 n80, .map none, .slice none 0 0, .slice none 0 0, .map none] ++ ((List.replicate (n76.toNat - (i76 + 1)) [str [], .int .u16 0, .map none, .slice none 0 0, .slice none 0 0, .map none]).flatten ++ post76)) :: L76) P76 w := H
    (refine mvB ?_;((conv=>whnf);repeat((first|refine mvT ?_|refine mvF ?_|refine yT ?_|refine yF ?_);conv=>whnf)))
    refine VC.cutE (fun q : Value × List Tg × Rd => [(0, .pointer (some ⟨p, 0, none⟩)), (2, .bool false), (7, .pointer (some ⟨pb, 0, none⟩)), (8, .int .i16 v), (9, .bool fx), (10, .pointer (some ⟨p, 0, none⟩)), (68, .int .i32 n76), (67, .slice (some ⟨g76, 0, none⟩) n76.toNat cap76), (69, .int .i32 i76), (70, .pointer (some ⟨g76, 0 + (i76 : Int).toNat * 6, none⟩)), (71, .pointer (some ⟨g76, 0 + (i76 : Int).toNat * 6, none⟩)), (73, .pointer (some ⟨g76, 0 + (i76 : Int).toNat * 6 + 0, none⟩))]) (fun q w' => rdTagsF fx s80 = q.2 ∧ St w0 G0 p pb q.2.2 ((g76, 95, es76.flatten ++ [str u78, .int .u16 n80, q.1, .slice none 0 0, .slice none 0 0, .map none] ++ ((List.replicate (n76.toNat - (i76 + 1)) [str [], .int .u16 0, .map none, .slice none 0 0, .slice none 0 0, .map none]).flatten ++ post76)) :: L76) (fun w => TGf w0 G0 q.1 q.2.1 w ∧ P76 w) w') ?_ ?_
    · refine cI (by rfl) (fun hc=>?_) (fun hc=>?_)
      · ((conv=>whnf);repeat((first|refine mvT ?_|refine mvF ?_|refine yT ?_|refine yF ?_);conv=>whnf))
        refine Does.mono H.tags ?_
        rintro r w ⟨m, u, s', rfl, hone, hr, H⟩
        ((conv=>whnf);repeat((first|refine mvT ?_|refine mvF ?_|refine yT ?_|refine yF ?_);conv=>whnf))
        refine H.st1 (v := m) 2 (rfl) (hone) rfl (by first | omega | (simp [hlen1]; done) | (simp [hlen1]; omega)) rfl (Nat.lt_of_lt_of_le (Nat.lt_succ_self _) (Nat.le_of_ble_eq_true rfl)) ?_
        intro w H
        ((conv=>whnf);repeat((first|refine mvT ?_|refine mvF ?_|refine yT ?_|refine yF ?_);conv=>whnf))
        exact ⟨(m, u, s'), ⟨rfl, rfl, rfl, rfl, rfl, rfl, rfl, rfl, rfl, rfl, rfl, rfl, trivial⟩, by rw [rdTagsF, if_pos hc]; exact hr, H⟩
      · ((conv=>whnf);repeat((first|refine mvT ?_|refine mvF ?_|refine yT ?_|refine yF ?_);conv=>whnf))
        exact ⟨(.map none, [], s80), ⟨rfl, rfl, rfl, rfl, rfl, rfl, rfl, rfl, rfl, rfl, rfl, rfl, trivial⟩, by rw [rdTagsF, if_neg (by rw [hc]; decide)], H.add fun w' _ => TagsR.nil _ _⟩
    clear H
    rintro ⟨m82, u82, s82⟩ w ⟨htg, H⟩
    dsimp only at htg H
    ((conv=>whnf);repeat((first|refine mvT ?_|refine mvF ?_|refine yT ?_|refine yF ?_);conv=>whnf))
    obtain ⟨P83, hP83⟩ : ∃ P : World → Prop, P = fun w => TGf w0 G0 m82 u82 w ∧ P76 w := ⟨_, rfl⟩
    replace H : St w0 G0 p pb s82 ((g76, 95, es76.flatten ++ [str u78, .int .u16 n80, m82, .slice none 0 0, .slice none 0 0, .map none] ++ ((List.replicate (n76.toNat - (i76 + 1)) [str [], .int .u16 0, .map none, .slice none 0 0, .slice none 0 0, .map none]).flatten ++ post76)) :: L76) P83 w := by rw [hP83]; exact H
    have hpart : rdPart 7 v fx dEndpoint si76 = (.mk 0 [] false [.mk 0 u78 false [] [], numT n80] u82, s82) := by
      unfold rdPart rdPartW
      rw [rdTail_plain (by decide)]
      rw [rdAll_yes (df := dfT 7) (rdField8 (by decide) hr78) ⟨by decide, has_all hv⟩, rdAll_yes (df := dfT 7) (rdField5.trans hr80) ⟨by decide, has_all hv⟩]
      simp only [rdAll]
      rw [htg]
    have hpi77 := hpart
    clear hpart
    refine ⟨_, ld (H.cell rfl (k := 3) rfl) (by first | omega | (simp [hlen1]; done) | (simp [hlen1]; omega)), ?_⟩; ((conv=>whnf);repeat((first|refine mvT ?_|refine mvF ?_|refine yT ?_|refine yF ?_);conv=>whnf))
    (refine mvB ?_;((conv=>whnf);repeat((first|refine mvT ?_|refine mvF ?_|refine yT ?_|refine yF ?_);conv=>whnf)))
    refine VC.cutE (fun q : Int × Rd => [(78, .int .i32 q.1), (77, .slice none 0 0), (0, .pointer (some ⟨p, 0, none⟩)), (2, .bool false), (7, .pointer (some ⟨pb, 0, none⟩)), (8, .int .i16 v), (9, .bool fx), (10, .pointer (some ⟨p, 0, none⟩)), (68, .int .i32 n76), (67, .slice (some ⟨g76, 0, none⟩) n76.toNat cap76), (69, .int .i32 i76), (70, .pointer (some ⟨g76, 0 + (i76 : Int).toNat * 6, none⟩)), (71, .pointer (some ⟨g76, 0 + (i76 : Int).toNat * 6, none⟩))]) (fun q w' => (-2147483648 ≤ q.1 ∧ q.1 ≤ 2147483647) ∧ rdLn fx s82 = q ∧ St w0 G0 p pb q.2 ((g76, 95, es76.flatten ++ [str u78, .int .u16 n80, m82, .slice none 0 0, .slice none 0 0, .map none] ++ ((List.replicate (n76.toNat - (i76 + 1)) [str [], .int .u16 0, .map none, .slice none 0 0, .slice none 0 0, .map none]).flatten ++ post76)) :: L76) P83 w') ?_ ?_
    · refine cI (by rfl) (fun hc=>?_) (fun hc=>?_)
      · ((conv=>whnf);repeat((first|refine mvT ?_|refine mvF ?_|refine yT ?_|refine yF ?_);conv=>whnf))
        refine Does.mono H.lnc ?_
        rintro r w ⟨n, s', rfl, hn, hr, H⟩
        ((conv=>whnf);repeat((first|refine mvT ?_|refine mvF ?_|refine yT ?_|refine yF ?_);conv=>whnf))
        exact ⟨(n, s'), ⟨rfl, rfl, rfl, rfl, rfl, rfl, rfl, rfl, rfl, rfl, rfl, rfl, rfl, trivial⟩, hn, by rw [hc]; exact hr, H⟩
      · ((conv=>whnf);repeat((first|refine mvT ?_|refine mvF ?_|refine yT ?_|refine yF ?_);conv=>whnf))
        refine Does.mono H.lnp ?_
        rintro r w ⟨n, s', rfl, hn, hr, H⟩
        ((conv=>whnf);repeat((first|refine mvT ?_|refine mvF ?_|refine yT ?_|refine yF ?_);conv=>whnf))
        exact ⟨(n, s'), ⟨rfl, rfl, rfl, rfl, rfl, rfl, rfl, rfl, rfl, rfl, rfl, rfl, rfl, trivial⟩, hn, by rw [hc]; exact hr, H⟩
    clear H
    rintro ⟨n84, s84⟩ w ⟨hn84, hln84, H⟩
    dsimp only at hn84 hln84 H
    ((conv=>whnf);repeat((first|refine mvT ?_|refine mvF ?_|refine yT ?_|refine yF ?_);conv=>whnf))
    refine Does.mono H.ok ?_
    rintro r w ⟨rfl, H⟩
    ((conv=>whnf);repeat((first|refine mvT ?_|refine mvF ?_|refine yT ?_|refine yF ?_);conv=>whnf))
    refine cI (by rfl) (fun hbd=>?_) (fun hbd=>?_)
    · have hbd : s84.2 = true := by simpa using hbd
      ((conv=>whnf);repeat((first|refine mvT ?_|refine mvF ?_|refine yT ?_|refine yF ?_);conv=>whnf))
      refine Does.mono (H.done hL hp1) ?_
      rintro r w ⟨rfl, H⟩
      ((conv=>whnf);repeat((first|refine mvT ?_|refine mvF ?_|refine yT ?_|refine yF ?_);conv=>whnf))
      refine RdPost.early hbd (hup76 (?_)) H
      rw [tail_yes ((rdField10 : rdField 8 v fx (.mk 10 0 (-1) (-1) (-1) 0 0 dEndpoint) _ = _).trans hpi77) ⟨by decide, has_all hv⟩, tail_len ⟨by decide, has_all hv⟩ hln84 hbd]
    have hbd : s84.2 = false := by simpa using hbd
    clear hbd
    ((conv=>whnf);repeat((first|refine mvT ?_|refine mvF ?_|refine yT ?_|refine yF ?_);conv=>whnf))
    refine cut_zero ?_
    ((conv=>whnf);repeat((first|refine mvT ?_|refine mvF ?_|refine yT ?_|refine yF ?_);conv=>whnf))
    refine VC.cutE (fun a : Value => [(78, .int .i32 n84), (77, a), (0, .pointer (some ⟨p, 0, none⟩)), (2, .bool false), (7, .pointer (some ⟨pb, 0, none⟩)), (8, .int .i16 v), (9, .bool fx), (10, .pointer (some ⟨p, 0, none⟩)), (68, .int .i32 n76), (67, .slice (some ⟨g76, 0, none⟩) n76.toNat cap76), (69, .int .i32 i76), (70, .pointer (some ⟨g76, 0 + (i76 : Int).toNat * 6, none⟩)), (71, .pointer (some ⟨g76, 0 + (i76 : Int).toNat * 6, none⟩))]) (fun a w' => ListI w0 G0 p pb 122 [str [], .slice none 0 0, .map none] (elR 7 v fx 10 dStreamsGroupHeartbeatResponsePartitionsByUserEndpointActivePartition) (elQ true 7 10 dStreamsGroupHeartbeatResponsePartitionsByUserEndpointActivePartition) s84 n84 (decide (n84 ≤ 0)) ((g76, 95, es76.flatten ++ [str u78, .int .u16 n80, m82, .slice none 0 0, .slice none 0 0, .map none] ++ ((List.replicate (n76.toNat - (i76 + 1)) [str [], .int .u16 0, .map none, .slice none 0 0, .slice none 0 0, .map none]).flatten ++ post76)) :: L76) P83 a 0 w') ?_ ?_
    · refine cI (by rfl) (fun hps=>?_) (fun hps=>?_)
      · have hps : 0 < n84 := by have := of_decide_eq_true hps; omega
        ((conv=>whnf);repeat((first|refine mvT ?_|refine mvF ?_|refine yT ?_|refine yF ?_);conv=>whnf))
        refine H.grow hps hn84.2 (by decide) rfl rfl (by decide) ?_
        intro g cap post w hc1 hc2 H
        ((conv=>whnf);repeat((first|refine mvT ?_|refine mvF ?_|refine yT ?_|refine yF ?_);conv=>whnf))
        exact ⟨_, ⟨rfl, rfl, rfl, rfl, rfl, rfl, rfl, rfl, rfl, rfl, rfl, rfl, rfl, trivial⟩, ListI.some hps (decide_eq_false (by omega)) hc1 hc2 H⟩
      · have hps : n84 ≤ 0 := by have := of_decide_eq_false hps; omega
        ((conv=>whnf);repeat((first|refine mvT ?_|refine mvF ?_|refine yT ?_|refine yF ?_);conv=>whnf))
        exact ⟨_, ⟨rfl, rfl, rfl, rfl, rfl, rfl, rfl, rfl, rfl, rfl, rfl, rfl, rfl, trivial⟩, ListI.none hps (decide_eq_true hps) H⟩
    clear H
    rintro a84 w H
    ((conv=>whnf);repeat((first|refine mvT ?_|refine mvF ?_|refine yT ?_|refine yF ?_);conv=>whnf))
    have hpL84 : inL ((g76, 95, es76.flatten ++ [str u78, .int .u16 n80, m82, .slice none 0 0, .slice none 0 0, .map none] ++ ((List.replicate (n76.toNat - (i76 + 1)) [str [], .int .u16 0, .map none, .slice none 0 0, .slice none 0 0, .map none]).flatten ++ post76)) :: L76) p := inL.tail hpL76
    refine VL.loop (fun i : Nat => [(78, .int .i32 n84), (77, a84), (79, .int .i32 i), (0, .pointer (some ⟨p, 0, none⟩)), (2, .bool false), (7, .pointer (some ⟨pb, 0, none⟩)), (8, .int .i16 v), (9, .bool fx), (10, .pointer (some ⟨p, 0, none⟩)), (68, .int .i32 n76), (67, .slice (some ⟨g76, 0, none⟩) n76.toNat cap76), (69, .int .i32 i76), (70, .pointer (some ⟨g76, 0 + (i76 : Int).toNat * 6, none⟩)), (71, .pointer (some ⟨g76, 0 + (i76 : Int).toNat * 6, none⟩))]) (fun i w' => i ≤ 2147483647 ∧ ListI w0 G0 p pb 122 [str [], .slice none 0 0, .map none] (elR 7 v fx 10 dStreamsGroupHeartbeatResponsePartitionsByUserEndpointActivePartition) (elQ true 7 10 dStreamsGroupHeartbeatResponsePartitionsByUserEndpointActivePartition) s84 n84 (decide (n84 ≤ 0)) ((g76, 95, es76.flatten ++ [str u78, .int .u16 n80, m82, .slice none 0 0, .slice none 0 0, .map none] ++ ((List.replicate (n76.toNat - (i76 + 1)) [str [], .int .u16 0, .map none, .slice none 0 0, .slice none 0 0, .map none]).flatten ++ post76)) :: L76) P83 a84 i w') (fun i => n84.toNat - i) 0 ⟨rfl, rfl, rfl, rfl, rfl, rfl, rfl, rfl, rfl, rfl, rfl, rfl, rfl, rfl, trivial⟩ ⟨by decide, H⟩ ?_
    clear H
    rintro i84 w ⟨hi84, H⟩
    ((conv=>whnf);repeat((first|refine mvT ?_|refine mvF ?_|refine yT ?_|refine yF ?_);conv=>whnf))
    refine cI (by rfl) (fun h9=>?_) (fun h9=>?_)
    · have hlt84 : (i84 : Int) < n84 := of_decide_eq_true h9
      obtain ⟨g84, cap84, post84, rfl, hgo84, HI⟩ := H.go hlt84
      obtain ⟨es84, ts84, si84, hes84, hez84, hrn84, hts84, hlen2, H⟩ := HI.open hgo84.2.2.2.2
      obtain ⟨L84, hL84⟩ : ∃ L : List Ob, L = ((g76, 95, es76.flatten ++ [str u78, .int .u16 n80, m82, .slice none 0 0, .slice none 0 0, .map none] ++ ((List.replicate (n76.toNat - (i76 + 1)) [str [], .int .u16 0, .map none, .slice none 0 0, .slice none 0 0, .map none]).flatten ++ post76)) :: L76) := ⟨_, rfl⟩
      rw [← hL84] at H hpL84
      obtain ⟨P84, hP84⟩ : ∃ P : World → Prop, P = fun w => (∀ (j : Nat) (c : List Value) (y : T), es84[j]? = some c → ts84[j]? = some y → elQ true 7 10 dStreamsGroupHeartbeatResponsePartitionsByUserEndpointActivePartition ⟨w, FG w0 G0⟩ c y) ∧ P83 w := ⟨_, rfl⟩
      rw [← hP84] at H
      replace H : St w0 G0 p pb si84 ((g84, 122, es84.flatten ++ [str [], .slice none 0 0, .map none] ++ ((List.replicate (n84.toNat - (i84 + 1)) [str [], .slice none 0 0, .map none]).flatten ++ post84)) :: L84) P84 w := H
      ((conv=>whnf);repeat((first|refine mvT ?_|refine mvF ?_|refine yT ?_|refine yF ?_);conv=>whnf))
      refine ⟨g84, 0, rfl, ⟨by omega, by omega⟩, ?_⟩
      ((conv=>whnf);repeat((first|refine mvT ?_|refine mvF ?_|refine yT ?_|refine yF ?_);conv=>whnf))
      refine Does.mono (dfStreamsGroupHeartbeatResponsePartitionsByUserEndpointActivePartition (pre := es84.flatten) (cur := [str [], .slice none 0 0, .map none]) (post := ((List.replicate (n84.toNat - (i84 + 1)) [str [], .slice none 0 0, .map none]).flatten ++ post84)) H.head (by first | (rw [hlen2]; simp; done) | (simp [hlen2]; done) | (simp [hlen2]; omega)) rfl) ?_
      rintro rd w2 ⟨hdf, hxd⟩
      replace H := H.put hdf hxd
      clear hdf hxd
      replace H : St w0 G0 p pb si84 ((g84, 122, es84.flatten ++ [str [], .slice none 0 0, .map none] ++ ((List.replicate (n84.toNat - (i84 + 1)) [str [], .slice none 0 0, .map none]).flatten ++ post84)) :: L84) P84 w2 := H
      ((conv=>whnf);repeat((first|refine mvT ?_|refine mvF ?_|refine yT ?_|refine yF ?_);conv=>whnf))
      have hup84 : tailBad 7 v fx dStreamsGroupHeartbeatResponsePartitionsByUserEndpointActivePartition dStreamsGroupHeartbeatResponsePartitionsByUserEndpointActivePartition si84 = true → (rdPart 9 v fx dStreamsGroupHeartbeatResponse (l, false)).2.2 = true := by
        intro hb
        refine hup76 ?_
        rw [tail_yes ((rdField10 : rdField 8 v fx (.mk 10 0 (-1) (-1) (-1) 0 0 dEndpoint) _ = _).trans hpi77) ⟨by decide, has_all hv⟩, tail_el ⟨by decide, has_all hv⟩ hln84 hgo84.2.2.2.2 hrn84 ((tailBad_part _ _ _ _ _).symm.trans hb)]
      (refine mvB ?_;((conv=>whnf);repeat((first|refine mvT ?_|refine mvF ?_|refine yT ?_|refine yF ?_);conv=>whnf)))
      refine VC.cutE (fun q : List UInt8 × Rd => [(82, str q.1), (0, .pointer (some ⟨p, 0, none⟩)), (2, .bool false), (7, .pointer (some ⟨pb, 0, none⟩)), (8, .int .i16 v), (9, .bool fx), (10, .pointer (some ⟨p, 0, none⟩)), (68, .int .i32 n76), (67, .slice (some ⟨g76, 0, none⟩) n76.toNat cap76), (69, .int .i32 i76), (70, .pointer (some ⟨g76, 0 + (i76 : Int).toNat * 6, none⟩)), (71, .pointer (some ⟨g76, 0 + (i76 : Int).toNat * 6, none⟩)), (78, .int .i32 n84), (77, .slice (some ⟨g84, 0, none⟩) n84.toNat cap84), (79, .int .i32 i84), (80, .pointer (some ⟨g84, 0 + (i84 : Int).toNat * 3, none⟩)), (81, .pointer (some ⟨g84, 0 + (i84 : Int).toNat * 3, none⟩))]) (fun q w' => rdTx fx si84 = q ∧ St w0 G0 p pb q.2 ((g84, 122, es84.flatten ++ [str [], .slice none 0 0, .map none] ++ ((List.replicate (n84.toNat - (i84 + 1)) [str [], .slice none 0 0, .map none]).flatten ++ post84)) :: L84) P84 w') ?_ ?_
      · refine cI (by rfl) (fun hc=>?_) (fun hc=>?_)
        · ((conv=>whnf);repeat((first|refine mvT ?_|refine mvF ?_|refine yT ?_|refine yF ?_);conv=>whnf))
          refine Does.mono H.txc ?_
          rintro r w ⟨u, s', rfl, hr, H⟩
          ((conv=>whnf);repeat((first|refine mvT ?_|refine mvF ?_|refine yT ?_|refine yF ?_);conv=>whnf))
          exact ⟨(u, s'), ⟨rfl, rfl, rfl, rfl, rfl, rfl, rfl, rfl, rfl, rfl, rfl, rfl, rfl, rfl, rfl, rfl, rfl, trivial⟩, by rw [hc]; exact hr, H⟩
        · ((conv=>whnf);repeat((first|refine mvT ?_|refine mvF ?_|refine yT ?_|refine yF ?_);conv=>whnf))
          refine Does.mono H.txp ?_
          rintro r w ⟨u, s', rfl, hr, H⟩
          ((conv=>whnf);repeat((first|refine mvT ?_|refine mvF ?_|refine yT ?_|refine yF ?_);conv=>whnf))
          exact ⟨(u, s'), ⟨rfl, rfl, rfl, rfl, rfl, rfl, rfl, rfl, rfl, rfl, rfl, rfl, rfl, rfl, rfl, rfl, rfl, trivial⟩, by rw [hc]; exact hr, H⟩
      clear H
      rintro ⟨u85, s85⟩ w ⟨hr85, H⟩
      dsimp only at hr85 H
      ((conv=>whnf);repeat((first|refine mvT ?_|refine mvF ?_|refine yT ?_|refine yF ?_);conv=>whnf))
      refine H.st1 (v := str u85) 0 (rfl) (rfl) rfl (by first | omega | (simp [hlen2]; done) | (simp [hlen2]; omega)) rfl (Nat.lt_of_lt_of_le (Nat.lt_succ_self _) (Nat.le_of_ble_eq_true rfl)) ?_
      intro w H
      ((conv=>whnf);repeat((first|refine mvT ?_|refine mvF ?_|refine yT ?_|refine yF ?_);conv=>whnf))
      replace H : St w0 G0 p pb s85 ((g84, 122, es84.flatten ++ [str u85, .slice none 0 0, .map none] ++ ((List.replicate (n84.toNat - (i84 + 1)) [str [], .slice none 0 0, .map none]).flatten ++ post84)) :: L84) P84 w := H
      refine ⟨_, ld (H.cell rfl (k := 1) rfl) (by first | omega | (simp [hlen2]; done) | (simp [hlen2]; omega)), ?_⟩; ((conv=>whnf);repeat((first|refine mvT ?_|refine mvF ?_|refine yT ?_|refine yF ?_);conv=>whnf))
      (refine mvB ?_;((conv=>whnf);repeat((first|refine mvT ?_|refine mvF ?_|refine yT ?_|refine yF ?_);conv=>whnf)))
      refine VC.cutE (fun q : Int × Rd => [(85, .int .i32 q.1), (84, .slice none 0 0), (0, .pointer (some ⟨p, 0, none⟩)), (2, .bool false), (7, .pointer (some ⟨pb, 0, none⟩)), (8, .int .i16 v), (9, .bool fx), (10, .pointer (some ⟨p, 0, none⟩)), (68, .int .i32 n76), (67, .slice (some ⟨g76, 0, none⟩) n76.toNat cap76), (69, .int .i32 i76), (70, .pointer (some ⟨g76, 0 + (i76 : Int).toNat * 6, none⟩)), (71, .pointer (some ⟨g76, 0 + (i76 : Int).toNat * 6, none⟩)), (78, .int .i32 n84), (77, .slice (some ⟨g84, 0, none⟩) n84.toNat cap84), (79, .int .i32 i84), (80, .pointer (some ⟨g84, 0 + (i84 : Int).toNat * 3, none⟩)), (81, .pointer (some ⟨g84, 0 + (i84 : Int).toNat * 3, none⟩))]) (fun q w' => (-2147483648 ≤ q.1 ∧ q.1 ≤ 2147483647) ∧ rdLn fx s85 = q ∧ St w0 G0 p pb q.2 ((g84, 122, es84.flatten ++ [str u85, .slice none 0 0, .map none] ++ ((List.replicate (n84.toNat - (i84 + 1)) [str [], .slice none 0 0, .map none]).flatten ++ post84)) :: L84) P84 w') ?_ ?_
      · refine cI (by rfl) (fun hc=>?_) (fun hc=>?_)
        · ((conv=>whnf);repeat((first|refine mvT ?_|refine mvF ?_|refine yT ?_|refine yF ?_);conv=>whnf))
          refine Does.mono H.lnc ?_
          rintro r w ⟨n, s', rfl, hn, hr, H⟩
          ((conv=>whnf);repeat((first|refine mvT ?_|refine mvF ?_|refine yT ?_|refine yF ?_);conv=>whnf))
          exact ⟨(n, s'), ⟨rfl, rfl, rfl, rfl, rfl, rfl, rfl, rfl, rfl, rfl, rfl, rfl, rfl, rfl, rfl, rfl, rfl, rfl, trivial⟩, hn, by rw [hc]; exact hr, H⟩
        · ((conv=>whnf);repeat((first|refine mvT ?_|refine mvF ?_|refine yT ?_|refine yF ?_);conv=>whnf))
          refine Does.mono H.lnp ?_
          rintro r w ⟨n, s', rfl, hn, hr, H⟩
          ((conv=>whnf);repeat((first|refine mvT ?_|refine mvF ?_|refine yT ?_|refine yF ?_);conv=>whnf))
          exact ⟨(n, s'), ⟨rfl, rfl, rfl, rfl, rfl, rfl, rfl, rfl, rfl, rfl, rfl, rfl, rfl, rfl, rfl, rfl, rfl, rfl, trivial⟩, hn, by rw [hc]; exact hr, H⟩
      clear H
      rintro ⟨n87, s87⟩ w ⟨hn87, hln87, H⟩
      dsimp only at hn87 hln87 H
      ((conv=>whnf);repeat((first|refine mvT ?_|refine mvF ?_|refine yT ?_|refine yF ?_);conv=>whnf))
      refine Does.mono H.ok ?_
      rintro r w ⟨rfl, H⟩
      ((conv=>whnf);repeat((first|refine mvT ?_|refine mvF ?_|refine yT ?_|refine yF ?_);conv=>whnf))
      refine cI (by rfl) (fun hbd=>?_) (fun hbd=>?_)
      · have hbd : s87.2 = true := by simpa using hbd
        ((conv=>whnf);repeat((first|refine mvT ?_|refine mvF ?_|refine yT ?_|refine yF ?_);conv=>whnf))
        refine Does.mono (H.done hL hp1) ?_
        rintro r w ⟨rfl, H⟩
        ((conv=>whnf);repeat((first|refine mvT ?_|refine mvF ?_|refine yT ?_|refine yF ?_);conv=>whnf))
        refine RdPost.early hbd (hup84 (?_)) H
        rw [tail_yes (rdField8 (by decide) hr85) ⟨by decide, has_all hv⟩, tail_len ⟨by decide, has_all hv⟩ hln87 hbd]
      have hbd : s87.2 = false := by simpa using hbd
      clear hbd
      ((conv=>whnf);repeat((first|refine mvT ?_|refine mvF ?_|refine yT ?_|refine yF ?_);conv=>whnf))
      refine cut_zero ?_
      ((conv=>whnf);repeat((first|refine mvT ?_|refine mvF ?_|refine yT ?_|refine yF ?_);conv=>whnf))
      refine VC.cutE (fun a : Value => [(85, .int .i32 n87), (84, a), (0, .pointer (some ⟨p, 0, none⟩)), (2, .bool false), (7, .pointer (some ⟨pb, 0, none⟩)), (8, .int .i16 v), (9, .bool fx), (10, .pointer (some ⟨p, 0, none⟩)), (68, .int .i32 n76), (67, .slice (some ⟨g76, 0, none⟩) n76.toNat cap76), (69, .int .i32 i76), (70, .pointer (some ⟨g76, 0 + (i76 : Int).toNat * 6, none⟩)), (71, .pointer (some ⟨g76, 0 + (i76 : Int).toNat * 6, none⟩)), (78, .int .i32 n84), (77, .slice (some ⟨g84, 0, none⟩) n84.toNat cap84), (79, .int .i32 i84), (80, .pointer (some ⟨g84, 0 + (i84 : Int).toNat * 3, none⟩)), (81, .pointer (some ⟨g84, 0 + (i84 : Int).toNat * 3, none⟩))]) (fun a w' => ListI w0 G0 p pb 21 [.int .i32 0] (elR 6 v fx 3 []) (elQ true 6 3 []) s87 n87 (decide (n87 ≤ 0)) ((g84, 122, es84.flatten ++ [str u85, .slice none 0 0, .map none] ++ ((List.replicate (n84.toNat - (i84 + 1)) [str [], .slice none 0 0, .map none]).flatten ++ post84)) :: L84) P84 a 0 w') ?_ ?_
      · refine cI (by rfl) (fun hps=>?_) (fun hps=>?_)
        · have hps : 0 < n87 := by have := of_decide_eq_true hps; omega
          ((conv=>whnf);repeat((first|refine mvT ?_|refine mvF ?_|refine yT ?_|refine yF ?_);conv=>whnf))
          refine H.grow hps hn87.2 (by decide) rfl rfl (by decide) ?_
          intro g cap post w hc1 hc2 H
          ((conv=>whnf);repeat((first|refine mvT ?_|refine mvF ?_|refine yT ?_|refine yF ?_);conv=>whnf))
          exact ⟨_, ⟨rfl, rfl, rfl, rfl, rfl, rfl, rfl, rfl, rfl, rfl, rfl, rfl, rfl, rfl, rfl, rfl, rfl, rfl, trivial⟩, ListI.some hps (decide_eq_false (by omega)) hc1 hc2 H⟩
        · have hps : n87 ≤ 0 := by have := of_decide_eq_false hps; omega
          ((conv=>whnf);repeat((first|refine mvT ?_|refine mvF ?_|refine yT ?_|refine yF ?_);conv=>whnf))
          exact ⟨_, ⟨rfl, rfl, rfl, rfl, rfl, rfl, rfl, rfl, rfl, rfl, rfl, rfl, rfl, rfl, rfl, rfl, rfl, rfl, trivial⟩, ListI.none hps (decide_eq_true hps) H⟩
      clear H
      rintro a87 w H
      ((conv=>whnf);repeat((first|refine mvT ?_|refine mvF ?_|refine yT ?_|refine yF ?_);conv=>whnf))
      have hpL87 : inL ((g84, 122, es84.flatten ++ [str u85, .slice none 0 0, .map none] ++ ((List.replicate (n84.toNat - (i84 + 1)) [str [], .slice none 0 0, .map none]).flatten ++ post84)) :: L84) p := inL.tail hpL84
      refine VL.loop (fun i : Nat => [(85, .int .i32 n87), (84, a87), (86, .int .i32 i), (0, .pointer (some ⟨p, 0, none⟩)), (2, .bool false), (7, .pointer (some ⟨pb, 0, none⟩)), (8, .int .i16 v), (9, .bool fx), (10, .pointer (some ⟨p, 0, none⟩)), (68, .int .i32 n76), (67, .slice (some ⟨g76, 0, none⟩) n76.toNat cap76), (69, .int .i32 i76), (70, .pointer (some ⟨g76, 0 + (i76 : Int).toNat * 6, none⟩)), (71, .pointer (some ⟨g76, 0 + (i76 : Int).toNat * 6, none⟩)), (78, .int .i32 n84), (77, .slice (some ⟨g84, 0, none⟩) n84.toNat cap84), (79, .int .i32 i84), (80, .pointer (some ⟨g84, 0 + (i84 : Int).toNat * 3, none⟩)), (81, .pointer (some ⟨g84, 0 + (i84 : Int).toNat * 3, none⟩))]) (fun i w' => i ≤ 2147483647 ∧ ListI w0 G0 p pb 21 [.int .i32 0] (elR 6 v fx 3 []) (elQ true 6 3 []) s87 n87 (decide (n87 ≤ 0)) ((g84, 122, es84.flatten ++ [str u85, .slice none 0 0, .map none] ++ ((List.replicate (n84.toNat - (i84 + 1)) [str [], .slice none 0 0, .map none]).flatten ++ post84)) :: L84) P84 a87 i w') (fun i => n87.toNat - i) 0 ⟨rfl, rfl, rfl, rfl, rfl, rfl, rfl, rfl, rfl, rfl, rfl, rfl, rfl, rfl, rfl, rfl, rfl, rfl, rfl, trivial⟩ ⟨by decide, H⟩ ?_
      clear H
      rintro i87 w ⟨hi87, H⟩
      ((conv=>whnf);repeat((first|refine mvT ?_|refine mvF ?_|refine yT ?_|refine yF ?_);conv=>whnf))
      refine cI (by rfl) (fun h9=>?_) (fun h9=>?_)
      · have hlt87 : (i87 : Int) < n87 := of_decide_eq_true h9
        obtain ⟨g87, cap87, post87, rfl, hgo87, HI⟩ := H.go hlt87
        obtain ⟨es87, ts87, si87, hes87, hez87, hrn87, hts87, hlen3, H⟩ := HI.open hgo87.2.2.2.2
        obtain ⟨L87, hL87⟩ : ∃ L : List Ob, L = ((g84, 122, es84.flatten ++ [str u85, .slice none 0 0, .map none] ++ ((List.replicate (n84.toNat - (i84 + 1)) [str [], .slice none 0 0, .map none]).flatten ++ post84)) :: L84) := ⟨_, rfl⟩
        rw [← hL87] at H hpL87
        obtain ⟨P87, hP87⟩ : ∃ P : World → Prop, P = fun w => (∀ (j : Nat) (c : List Value) (y : T), es87[j]? = some c → ts87[j]? = some y → elQ true 6 3 [] ⟨w, FG w0 G0⟩ c y) ∧ P84 w := ⟨_, rfl⟩
        rw [← hP87] at H
        replace H : St w0 G0 p pb si87 ((g87, 21, es87.flatten ++ [.int .i32 0] ++ ((List.replicate (n87.toNat - (i87 + 1)) [.int .i32 0]).flatten ++ post87)) :: L87) P87 w := H
        ((conv=>whnf);repeat((first|refine mvT ?_|refine mvF ?_|refine yT ?_|refine yF ?_);conv=>whnf))
        refine Does.mono H.int32 ?_
        rintro r w ⟨n88, s88, rfl, hn88, hr88, H⟩
        ((conv=>whnf);repeat((first|refine mvT ?_|refine mvF ?_|refine yT ?_|refine yF ?_);conv=>whnf))
        refine ⟨g87, 0, rfl, ⟨by omega, by omega⟩, ?_⟩
        ((conv=>whnf);repeat((first|refine mvT ?_|refine mvF ?_|refine yT ?_|refine yF ?_);conv=>whnf))
        refine H.st1 (v := .int .i32 n88) 0 (rfl) (rfl) rfl (by first | omega | (simp [hlen3]; done) | (simp [hlen3]; omega)) rfl (Nat.lt_of_lt_of_le (Nat.lt_succ_self _) (Nat.le_of_ble_eq_true rfl)) ?_
        intro w H
        ((conv=>whnf);repeat((first|refine mvT ?_|refine mvF ?_|refine yT ?_|refine yF ?_);conv=>whnf))
        replace H : St w0 G0 p pb s88 ((g87, 21, es87.flatten ++ [.int .i32 n88] ++ ((List.replicate (n87.toNat - (i87 + 1)) [.int .i32 0]).flatten ++ post87)) :: L87) P87 w := H
        refine ⟨i87 + 1, ⟨rfl, rfl, ?_, rfl, rfl, rfl, rfl, rfl, rfl, rfl, rfl, rfl, rfl, rfl, rfl, rfl, rfl, rfl, rfl, trivial⟩, ⟨by omega, ListI.back hgo87 (LoopI.next hes87 hez87 hrn87 hts87 (cur := [.int .i32 n88]) (x := numT n88) (hr88) rfl (by rw [← hL87]; exact H) fun w hP => ?_)⟩, by omega⟩
        · show some (Value.int .i32 _) = _
          rw [IntKind.wrap_i32]
          simp only [Option.some.injEq, Value.int.injEq, true_and]
          omega
        · skip
          rw [hP87] at hP
          exact ⟨⟨_, hn88, rfl, rfl⟩, hP⟩
      have hge87 : ¬ (i87 : Int) < n87 := of_decide_eq_false h9
      obtain ⟨l89, s89, hone89, hl89, hr89, H⟩ := H.done hge87 hln87 (nl := nlF (.mk 11 0 (-1) (-1) (-1) 0 3 []) v) (sz := elZ true 6 3 []) rfl hpL87 rfl
      ((conv=>whnf);repeat((first|refine mvT ?_|refine mvF ?_|refine yT ?_|refine yF ?_);conv=>whnf))
      obtain ⟨P90, hP90⟩ : ∃ P : World → Prop, P = fun w => ListR true (elZ true 6 3 []) (elQ true 6 3 [] ⟨w, FG w0 G0⟩) w (FG w0 G0) a87 (.mk 0 [] (decide (n87 ≤ 0)) l89 []) ∧ P84 w := ⟨_, rfl⟩
      replace H : St w0 G0 p pb s89 ((g84, 122, es84.flatten ++ [str u85, .slice none 0 0, .map none] ++ ((List.replicate (n84.toNat - (i84 + 1)) [str [], .slice none 0 0, .map none]).flatten ++ post84)) :: L84) P90 w := by rw [hP90]; exact H
      refine H.st1 (v := a87) 1 (cells_one hone89) (hone89) rfl (by first | omega | (simp [hlen2]; done) | (simp [hlen2]; omega)) rfl (Nat.lt_of_lt_of_le (Nat.lt_succ_self _) (Nat.le_of_ble_eq_true rfl)) ?_
      intro w H
      ((conv=>whnf);repeat((first|refine mvT ?_|refine mvF ?_|refine yT ?_|refine yF ?_);conv=>whnf))
      replace H : St w0 G0 p pb s89 ((g84, 122, es84.flatten ++ [str u85, a87, .map none] ++ ((List.replicate (n84.toNat - (i84 + 1)) [str [], .slice none 0 0, .map none]).flatten ++ post84)) :: L84) P90 w := H
      (refine mvB ?_;((conv=>whnf);repeat((first|refine mvT ?_|refine mvF ?_|refine yT ?_|refine yF ?_);conv=>whnf)))
      refine VC.cutB (fun q : Value × List Tg × Rd => [(0, .pointer (some ⟨p, 0, none⟩)), (2, .bool false), (7, .pointer (some ⟨pb, 0, none⟩)), (8, .int .i16 v), (9, .bool fx), (10, .pointer (some ⟨p, 0, none⟩)), (68, .int .i32 n76), (67, .slice (some ⟨g76, 0, none⟩) n76.toNat cap76), (69, .int .i32 i76), (70, .pointer (some ⟨g76, 0 + (i76 : Int).toNat * 6, none⟩)), (71, .pointer (some ⟨g76, 0 + (i76 : Int).toNat * 6, none⟩)), (78, .int .i32 n84), (77, .slice (some ⟨g84, 0, none⟩) n84.toNat cap84), (79, .int .i32 i84), (80, .pointer (some ⟨g84, 0 + (i84 : Int).toNat * 3, none⟩)), (81, .pointer (some ⟨g84, 0 + (i84 : Int).toNat * 3, none⟩))]) (fun q w' => rdTagsF fx s89 = q.2 ∧ St w0 G0 p pb q.2.2 ((g84, 122, es84.flatten ++ [str u85, a87, q.1] ++ ((List.replicate (n84.toNat - (i84 + 1)) [str [], .slice none 0 0, .map none]).flatten ++ post84)) :: L84) (fun w => TGf w0 G0 q.1 q.2.1 w ∧ P90 w) w') ?_ ?_
      · refine cI (by rfl) (fun hc=>?_) (fun hc=>?_)
        · ((conv=>whnf);repeat((first|refine mvT ?_|refine mvF ?_|refine yT ?_|refine yF ?_);conv=>whnf))
          refine Does.mono H.tags ?_
          rintro r w ⟨m, u, s', rfl, hone, hr, H⟩
          ((conv=>whnf);repeat((first|refine mvT ?_|refine mvF ?_|refine yT ?_|refine yF ?_);conv=>whnf))
          refine H.st1 (v := m) 2 (rfl) (hone) rfl (by first | omega | (simp [hlen2]; done) | (simp [hlen2]; omega)) rfl (Nat.lt_of_lt_of_le (Nat.lt_succ_self _) (Nat.le_of_ble_eq_true rfl)) ?_
          intro w H
          ((conv=>whnf);repeat((first|refine mvT ?_|refine mvF ?_|refine yT ?_|refine yF ?_);conv=>whnf))
          exact ⟨(m, u, s'), ⟨rfl, rfl, rfl, rfl, rfl, rfl, rfl, rfl, rfl, rfl, rfl, rfl, rfl, rfl, rfl, rfl, trivial⟩, by rw [rdTagsF, if_pos hc]; exact hr, H⟩
        · ((conv=>whnf);repeat((first|refine mvT ?_|refine mvF ?_|refine yT ?_|refine yF ?_);conv=>whnf))
          exact ⟨(.map none, [], s89), ⟨rfl, rfl, rfl, rfl, rfl, rfl, rfl, rfl, rfl, rfl, rfl, rfl, rfl, rfl, rfl, rfl, trivial⟩, by rw [rdTagsF, if_neg (by rw [hc]; decide)], H.add fun w' _ => TagsR.nil _ _⟩
      clear H
      rintro ⟨m92, u92, s92⟩ w ⟨htg, H⟩
      dsimp only at htg H
      ((conv=>whnf);repeat((first|refine mvT ?_|refine mvF ?_|refine yT ?_|refine yF ?_);conv=>whnf))
      obtain ⟨P93, hP93⟩ : ∃ P : World → Prop, P = fun w => TGf w0 G0 m92 u92 w ∧ P90 w := ⟨_, rfl⟩
      replace H : St w0 G0 p pb s92 ((g84, 122, es84.flatten ++ [str u85, a87, m92] ++ ((List.replicate (n84.toNat - (i84 + 1)) [str [], .slice none 0 0, .map none]).flatten ++ post84)) :: L84) P93 w := by rw [hP93]; exact H
      have hpart : rdPart 7 v fx dStreamsGroupHeartbeatResponsePartitionsByUserEndpointActivePartition si84 = (.mk 0 [] false [.mk 0 u85 false [] [], .mk 0 [] (decide (n87 ≤ 0)) l89 []] u92, s92) := by
        unfold rdPart rdPartW
        rw [rdTail_plain (by decide)]
        rw [rdAll_yes (df := dfT 7) (rdField8 (by decide) hr85) ⟨by decide, has_all hv⟩, rdAll_yes (df := dfT 7) ((rdField_list _ _ _ _ _ _ _ _ _ _ _).trans hr89) ⟨by decide, has_all hv⟩]
        simp only [rdAll]
        rw [htg]
      refine ⟨i84 + 1, ⟨rfl, rfl, ?_, rfl, rfl, rfl, rfl, rfl, rfl, rfl, rfl, rfl, rfl, rfl, trivial⟩, ⟨by omega, ListI.back hgo84 (LoopI.next hes84 hez84 hrn84 hts84 (cur := [str u85, a87, m92]) (x := .mk 0 [] false [.mk 0 u85 false [] [], .mk 0 [] (decide (n87 ≤ 0)) l89 []] u92) (hpart) rfl (by rw [← hL84]; exact H) fun w hP => ?_)⟩, by omega⟩
      · show some (Value.int .i32 _) = _
        rw [IntKind.wrap_i32]
        simp only [Option.some.injEq, Value.int.injEq, true_and]
        omega
      · skip
        rw [hP93] at hP
        obtain ⟨hf93_, hP⟩ := hP
        rw [hP90] at hP
        obtain ⟨hf90_, hP⟩ := hP
        rw [hP84] at hP
        exact ⟨QPt (QA1 (QF8 (by decide) u85) (QA1 (QF11 hl89 hf90_) (QA0))) hf93_, hP⟩
    have hge84 : ¬ (i84 : Int) < n84 := of_decide_eq_false h9
    obtain ⟨l94, s94, hone94, hl94, hr94, H⟩ := H.done hge84 hln84 (nl := nlF (.mk 11 0 (-1) (-1) (-1) 0 10 dStreamsGroupHeartbeatResponsePartitionsByUserEndpointActivePartition) v) (sz := elZ true 7 10 dStreamsGroupHeartbeatResponsePartitionsByUserEndpointActivePartition) rfl hpL84 rfl
    ((conv=>whnf);repeat((first|refine mvT ?_|refine mvF ?_|refine yT ?_|refine yF ?_);conv=>whnf))
    obtain ⟨P95, hP95⟩ : ∃ P : World → Prop, P = fun w => ListR true (elZ true 7 10 dStreamsGroupHeartbeatResponsePartitionsByUserEndpointActivePartition) (elQ true 7 10 dStreamsGroupHeartbeatResponsePartitionsByUserEndpointActivePartition ⟨w, FG w0 G0⟩) w (FG w0 G0) a84 (.mk 0 [] (decide (n84 ≤ 0)) l94 []) ∧ P83 w := ⟨_, rfl⟩
    replace H : St w0 G0 p pb s94 ((g76, 95, es76.flatten ++ [str u78, .int .u16 n80, m82, .slice none 0 0, .slice none 0 0, .map none] ++ ((List.replicate (n76.toNat - (i76 + 1)) [str [], .int .u16 0, .map none, .slice none 0 0, .slice none 0 0, .map none]).flatten ++ post76)) :: L76) P95 w := by rw [hP95]; exact H
    refine H.st1 (v := a84) 3 (cells_one hone94) (hone94) rfl (by first | omega | (simp [hlen1]; done) | (simp [hlen1]; omega)) rfl (Nat.lt_of_lt_of_le (Nat.lt_succ_self _) (Nat.le_of_ble_eq_true rfl)) ?_
    intro w H
    ((conv=>whnf);repeat((first|refine mvT ?_|refine mvF ?_|refine yT ?_|refine yF ?_);conv=>whnf))
    replace H : St w0 G0 p pb s94 ((g76, 95, es76.flatten ++ [str u78, .int .u16 n80, m82, a84, .slice none 0 0, .map none] ++ ((List.replicate (n76.toNat - (i76 + 1)) [str [], .int .u16 0, .map none, .slice none 0 0, .slice none 0 0, .map none]).flatten ++ post76)) :: L76) P95 w := H
    refine ⟨_, ld (H.cell rfl (k := 4) rfl) (by first | omega | (simp [hlen1]; done) | (simp [hlen1]; omega)), ?_⟩; ((conv=>whnf);repeat((first|refine mvT ?_|refine mvF ?_|refine yT ?_|refine yF ?_);conv=>whnf))
    (refine mvB ?_;((conv=>whnf);repeat((first|refine mvT ?_|refine mvF ?_|refine yT ?_|refine yF ?_);conv=>whnf)))
    refine VC.cutE (fun q : Int × Rd => [(90, .int .i32 q.1), (89, .slice none 0 0), (0, .pointer (some ⟨p, 0, none⟩)), (2, .bool false), (7, .pointer (some ⟨pb, 0, none⟩)), (8, .int .i16 v), (9, .bool fx), (10, .pointer (some ⟨p, 0, none⟩)), (68, .int .i32 n76), (67, .slice (some ⟨g76, 0, none⟩) n76.toNat cap76), (69, .int .i32 i76), (70, .pointer (some ⟨g76, 0 + (i76 : Int).toNat * 6, none⟩)), (71, .pointer (some ⟨g76, 0 + (i76 : Int).toNat * 6, none⟩))]) (fun q w' => (-2147483648 ≤ q.1 ∧ q.1 ≤ 2147483647) ∧ rdLn fx s94 = q ∧ St w0 G0 p pb q.2 ((g76, 95, es76.flatten ++ [str u78, .int .u16 n80, m82, a84, .slice none 0 0, .map none] ++ ((List.replicate (n76.toNat - (i76 + 1)) [str [], .int .u16 0, .map none, .slice none 0 0, .slice none 0 0, .map none]).flatten ++ post76)) :: L76) P95 w') ?_ ?_
    · refine cI (by rfl) (fun hc=>?_) (fun hc=>?_)
      · ((conv=>whnf);repeat((first|refine mvT ?_|refine mvF ?_|refine yT ?_|refine yF ?_);conv=>whnf))
        refine Does.mono H.lnc ?_
        rintro r w ⟨n, s', rfl, hn, hr, H⟩
        ((conv=>whnf);repeat((first|refine mvT ?_|refine mvF ?_|refine yT ?_|refine yF ?_);conv=>whnf))
        exact ⟨(n, s'), ⟨rfl, rfl, rfl, rfl, rfl, rfl, rfl, rfl, rfl, rfl, rfl, rfl, rfl, trivial⟩, hn, by rw [hc]; exact hr, H⟩
      · ((conv=>whnf);repeat((first|refine mvT ?_|refine mvF ?_|refine yT ?_|refine yF ?_);conv=>whnf))
        refine Does.mono H.lnp ?_
        rintro r w ⟨n, s', rfl, hn, hr, H⟩
        ((conv=>whnf);repeat((first|refine mvT ?_|refine mvF ?_|refine yT ?_|refine yF ?_);conv=>whnf))
        exact ⟨(n, s'), ⟨rfl, rfl, rfl, rfl, rfl, rfl, rfl, rfl, rfl, rfl, rfl, rfl, rfl, trivial⟩, hn, by rw [hc]; exact hr, H⟩
    clear H
    rintro ⟨n97, s97⟩ w ⟨hn97, hln97, H⟩
    dsimp only at hn97 hln97 H
    ((conv=>whnf);repeat((first|refine mvT ?_|refine mvF ?_|refine yT ?_|refine yF ?_);conv=>whnf))
    refine Does.mono H.ok ?_
    rintro r w ⟨rfl, H⟩
    ((conv=>whnf);repeat((first|refine mvT ?_|refine mvF ?_|refine yT ?_|refine yF ?_);conv=>whnf))
    refine cI (by rfl) (fun hbd=>?_) (fun hbd=>?_)
    · have hbd : s97.2 = true := by simpa using hbd
      ((conv=>whnf);repeat((first|refine mvT ?_|refine mvF ?_|refine yT ?_|refine yF ?_);conv=>whnf))
      refine Does.mono (H.done hL hp1) ?_
      rintro r w ⟨rfl, H⟩
      ((conv=>whnf);repeat((first|refine mvT ?_|refine mvF ?_|refine yT ?_|refine yF ?_);conv=>whnf))
      refine RdPost.early hbd (hup76 (?_)) H
      rw [tail_yes ((rdField10 : rdField 8 v fx (.mk 10 0 (-1) (-1) (-1) 0 0 dEndpoint) _ = _).trans hpi77) ⟨by decide, has_all hv⟩, tail_yes ((rdField_list _ _ _ _ _ _ _ _ _ _ _).trans hr94) ⟨by decide, has_all hv⟩, tail_len ⟨by decide, has_all hv⟩ hln97 hbd]
    have hbd : s97.2 = false := by simpa using hbd
    clear hbd
    ((conv=>whnf);repeat((first|refine mvT ?_|refine mvF ?_|refine yT ?_|refine yF ?_);conv=>whnf))
    refine cut_zero ?_
    ((conv=>whnf);repeat((first|refine mvT ?_|refine mvF ?_|refine yT ?_|refine yF ?_);conv=>whnf))
    refine VC.cutE (fun a : Value => [(90, .int .i32 n97), (89, a), (0, .pointer (some ⟨p, 0, none⟩)), (2, .bool false), (7, .pointer (some ⟨pb, 0, none⟩)), (8, .int .i16 v), (9, .bool fx), (10, .pointer (some ⟨p, 0, none⟩)), (68, .int .i32 n76), (67, .slice (some ⟨g76, 0, none⟩) n76.toNat cap76), (69, .int .i32 i76), (70, .pointer (some ⟨g76, 0 + (i76 : Int).toNat * 6, none⟩)), (71, .pointer (some ⟨g76, 0 + (i76 : Int).toNat * 6, none⟩))]) (fun a w' => ListI w0 G0 p pb 124 [str [], .slice none 0 0, .map none] (elR 7 v fx 10 dStreamsGroupHeartbeatResponsePartitionsByUserEndpointStandbyPartition) (elQ true 7 10 dStreamsGroupHeartbeatResponsePartitionsByUserEndpointStandbyPartition) s97 n97 (decide (n97 ≤ 0)) ((g76, 95, es76.flatten ++ [str u78, .int .u16 n80, m82, a84, .slice none 0 0, .map none] ++ ((List.replicate (n76.toNat - (i76 + 1)) [str [], .int .u16 0, .map none, .slice none 0 0, .slice none 0 0, .map none]).flatten ++ post76)) :: L76) P95 a 0 w') ?_ ?_
    · refine cI (by rfl) (fun hps=>?_) (fun hps=>?_)
      · have hps : 0 < n97 := by have := of_decide_eq_true hps; omega
        ((conv=>whnf);repeat((first|refine mvT ?_|refine mvF ?_|refine yT ?_|refine yF ?_);conv=>whnf))
        refine H.grow hps hn97.2 (by decide) rfl rfl (by decide) ?_
        intro g cap post w hc1 hc2 H
        ((conv=>whnf);repeat((first|refine mvT ?_|refine mvF ?_|refine yT ?_|refine yF ?_);conv=>whnf))
        exact ⟨_, ⟨rfl, rfl, rfl, rfl, rfl, rfl, rfl, rfl, rfl, rfl, rfl, rfl, rfl, trivial⟩, ListI.some hps (decide_eq_false (by omega)) hc1 hc2 H⟩
      · have hps : n97 ≤ 0 := by have := of_decide_eq_false hps; omega
        ((conv=>whnf);repeat((first|refine mvT ?_|refine mvF ?_|refine yT ?_|refine yF ?_);conv=>whnf))
        exact ⟨_, ⟨rfl, rfl, rfl, rfl, rfl, rfl, rfl, rfl, rfl, rfl, rfl, rfl, rfl, trivial⟩, ListI.none hps (decide_eq_true hps) H⟩
    clear H
    rintro a97 w H
    ((conv=>whnf);repeat((first|refine mvT ?_|refine mvF ?_|refine yT ?_|refine yF ?_);conv=>whnf))
    have hpL97 : inL ((g76, 95, es76.flatten ++ [str u78, .int .u16 n80, m82, a84, .slice none 0 0, .map none] ++ ((List.replicate (n76.toNat - (i76 + 1)) [str [], .int .u16 0, .map none, .slice none 0 0, .slice none 0 0, .map none]).flatten ++ post76)) :: L76) p := inL.tail hpL76
    refine VL.loop (fun i : Nat => [(90, .int .i32 n97), (89, a97), (91, .int .i32 i), (0, .pointer (some ⟨p, 0, none⟩)), (2, .bool false), (7, .pointer (some ⟨pb, 0, none⟩)), (8, .int .i16 v), (9, .bool fx), (10, .pointer (some ⟨p, 0, none⟩)), (68, .int .i32 n76), (67, .slice (some ⟨g76, 0, none⟩) n76.toNat cap76), (69, .int .i32 i76), (70, .pointer (some ⟨g76, 0 + (i76 : Int).toNat * 6, none⟩)), (71, .pointer (some ⟨g76, 0 + (i76 : Int).toNat * 6, none⟩))]) (fun i w' => i ≤ 2147483647 ∧ ListI w0 G0 p pb 124 [str [], .slice none 0 0, .map none] (elR 7 v fx 10 dStreamsGroupHeartbeatResponsePartitionsByUserEndpointStandbyPartition) (elQ true 7 10 dStreamsGroupHeartbeatResponsePartitionsByUserEndpointStandbyPartition) s97 n97 (decide (n97 ≤ 0)) ((g76, 95, es76.flatten ++ [str u78, .int .u16 n80, m82, a84, .slice none 0 0, .map none] ++ ((List.replicate (n76.toNat - (i76 + 1)) [str [], .int .u16 0, .map none, .slice none 0 0, .slice none 0 0, .map none]).flatten ++ post76)) :: L76) P95 a97 i w') (fun i => n97.toNat - i) 0 ⟨rfl, rfl, rfl, rfl, rfl, rfl, rfl, rfl, rfl, rfl, rfl, rfl, rfl, rfl, trivial⟩ ⟨by decide, H⟩ ?_
    clear H
    rintro i97 w ⟨hi97, H⟩
    ((conv=>whnf);repeat((first|refine mvT ?_|refine mvF ?_|refine yT ?_|refine yF ?_);conv=>whnf))
    refine cI (by rfl) (fun h9=>?_) (fun h9=>?_)
    · have hlt97 : (i97 : Int) < n97 := of_decide_eq_true h9
      obtain ⟨g97, cap97, post97, rfl, hgo97, HI⟩ := H.go hlt97
      obtain ⟨es97, ts97, si97, hes97, hez97, hrn97, hts97, hlen2, H⟩ := HI.open hgo97.2.2.2.2
      obtain ⟨L97, hL97⟩ : ∃ L : List Ob, L = ((g76, 95, es76.flatten ++ [str u78, .int .u16 n80, m82, a84, .slice none 0 0, .map none] ++ ((List.replicate (n76.toNat - (i76 + 1)) [str [], .int .u16 0, .map none, .slice none 0 0, .slice none 0 0, .map none]).flatten ++ post76)) :: L76) := ⟨_, rfl⟩
      rw [← hL97] at H hpL97
      obtain ⟨P97, hP97⟩ : ∃ P : World → Prop, P = fun w => (∀ (j : Nat) (c : List Value) (y : T), es97[j]? = some c → ts97[j]? = some y → elQ true 7 10 dStreamsGroupHeartbeatResponsePartitionsByUserEndpointStandbyPartition ⟨w, FG w0 G0⟩ c y) ∧ P95 w := ⟨_, rfl⟩
      rw [← hP97] at H
      replace H : St w0 G0 p pb si97 ((g97, 124, es97.flatten ++ [str [], .slice none 0 0, .map none] ++ ((List.replicate (n97.toNat - (i97 + 1)) [str [], .slice none 0 0, .map none]).flatten ++ post97)) :: L97) P97 w := H
      ((conv=>whnf);repeat((first|refine mvT ?_|refine mvF ?_|refine yT ?_|refine yF ?_);conv=>whnf))
      refine ⟨g97, 0, rfl, ⟨by omega, by omega⟩, ?_⟩
      ((conv=>whnf);repeat((first|refine mvT ?_|refine mvF ?_|refine yT ?_|refine yF ?_);conv=>whnf))
      refine Does.mono (dfStreamsGroupHeartbeatResponsePartitionsByUserEndpointStandbyPartition (pre := es97.flatten) (cur := [str [], .slice none 0 0, .map none]) (post := ((List.replicate (n97.toNat - (i97 + 1)) [str [], .slice none 0 0, .map none]).flatten ++ post97)) H.head (by first | (rw [hlen2]; simp; done) | (simp [hlen2]; done) | (simp [hlen2]; omega)) rfl) ?_
      rintro rd w2 ⟨hdf, hxd⟩
      replace H := H.put hdf hxd
      clear hdf hxd
      replace H : St w0 G0 p pb si97 ((g97, 124, es97.flatten ++ [str [], .slice none 0 0, .map none] ++ ((List.replicate (n97.toNat - (i97 + 1)) [str [], .slice none 0 0, .map none]).flatten ++ post97)) :: L97) P97 w2 := H
      ((conv=>whnf);repeat((first|refine mvT ?_|refine mvF ?_|refine yT ?_|refine yF ?_);conv=>whnf))
      have hup97 : tailBad 7 v fx dStreamsGroupHeartbeatResponsePartitionsByUserEndpointStandbyPartition dStreamsGroupHeartbeatResponsePartitionsByUserEndpointStandbyPartition si97 = true → (rdPart 9 v fx dStreamsGroupHeartbeatResponse (l, false)).2.2 = true := by
        intro hb
        refine hup76 ?_
        rw [tail_yes ((rdField10 : rdField 8 v fx (.mk 10 0 (-1) (-1) (-1) 0 0 dEndpoint) _ = _).trans hpi77) ⟨by decide, has_all hv⟩, tail_yes ((rdField_list _ _ _ _ _ _ _ _ _ _ _).trans hr94) ⟨by decide, has_all hv⟩, tail_el ⟨by decide, has_all hv⟩ hln97 hgo97.2.2.2.2 hrn97 ((tailBad_part _ _ _ _ _).symm.trans hb)]
      (refine mvB ?_;((conv=>whnf);repeat((first|refine mvT ?_|refine mvF ?_|refine yT ?_|refine yF ?_);conv=>whnf)))
      refine VC.cutE (fun q : List UInt8 × Rd => [(94, str q.1), (0, .pointer (some ⟨p, 0, none⟩)), (2, .bool false), (7, .pointer (some ⟨pb, 0, none⟩)), (8, .int .i16 v), (9, .bool fx), (10, .pointer (some ⟨p, 0, none⟩)), (68, .int .i32 n76), (67, .slice (some ⟨g76, 0, none⟩) n76.toNat cap76), (69, .int .i32 i76), (70, .pointer (some ⟨g76, 0 + (i76 : Int).toNat * 6, none⟩)), (71, .pointer (some ⟨g76, 0 + (i76 : Int).toNat * 6, none⟩)), (90, .int .i32 n97), (89, .slice (some ⟨g97, 0, none⟩) n97.toNat cap97), (91, .int .i32 i97), (92, .pointer (some ⟨g97, 0 + (i97 : Int).toNat * 3, none⟩)), (93, .pointer (some ⟨g97, 0 + (i97 : Int).toNat * 3, none⟩))]) (fun q w' => rdTx fx si97 = q ∧ St w0 G0 p pb q.2 ((g97, 124, es97.flatten ++ [str [], .slice none 0 0, .map none] ++ ((List.replicate (n97.toNat - (i97 + 1)) [str [], .slice none 0 0, .map none]).flatten ++ post97)) :: L97) P97 w') ?_ ?_
      · refine cI (by rfl) (fun hc=>?_) (fun hc=>?_)
        · ((conv=>whnf);repeat((first|refine mvT ?_|refine mvF ?_|refine yT ?_|refine yF ?_);conv=>whnf))
          refine Does.mono H.txc ?_
          rintro r w ⟨u, s', rfl, hr, H⟩
          ((conv=>whnf);repeat((first|refine mvT ?_|refine mvF ?_|refine yT ?_|refine yF ?_);conv=>whnf))
          exact ⟨(u, s'), ⟨rfl, rfl, rfl, rfl, rfl, rfl, rfl, rfl, rfl, rfl, rfl, rfl, rfl, rfl, rfl, rfl, rfl, trivial⟩, by rw [hc]; exact hr, H⟩
        · ((conv=>whnf);repeat((first|refine mvT ?_|refine mvF ?_|refine yT ?_|refine yF ?_);conv=>whnf))
          refine Does.mono H.txp ?_
          rintro r w ⟨u, s', rfl, hr, H⟩
          ((conv=>whnf);repeat((first|refine mvT ?_|refine mvF ?_|refine yT ?_|refine yF ?_);conv=>whnf))
          exact ⟨(u, s'), ⟨rfl, rfl, rfl, rfl, rfl, rfl, rfl, rfl, rfl, rfl, rfl, rfl, rfl, rfl, rfl, rfl, rfl, trivial⟩, by rw [hc]; exact hr, H⟩
      clear H
      rintro ⟨u98, s98⟩ w ⟨hr98, H⟩
      dsimp only at hr98 H
      ((conv=>whnf);repeat((first|refine mvT ?_|refine mvF ?_|refine yT ?_|refine yF ?_);conv=>whnf))
      refine H.st1 (v := str u98) 0 (rfl) (rfl) rfl (by first | omega | (simp [hlen2]; done) | (simp [hlen2]; omega)) rfl (Nat.lt_of_lt_of_le (Nat.lt_succ_self _) (Nat.le_of_ble_eq_true rfl)) ?_
      intro w H
      ((conv=>whnf);repeat((first|refine mvT ?_|refine mvF ?_|refine yT ?_|refine yF ?_);conv=>whnf))
      replace H : St w0 G0 p pb s98 ((g97, 124, es97.flatten ++ [str u98, .slice none 0 0, .map none] ++ ((List.replicate (n97.toNat - (i97 + 1)) [str [], .slice none 0 0, .map none]).flatten ++ post97)) :: L97) P97 w := H
      refine ⟨_, ld (H.cell rfl (k := 1) rfl) (by first | omega | (simp [hlen2]; done) | (simp [hlen2]; omega)), ?_⟩; ((conv=>whnf);repeat((first|refine mvT ?_|refine mvF ?_|refine yT ?_|refine yF ?_);conv=>whnf))
      (refine mvB ?_;((conv=>whnf);repeat((first|refine mvT ?_|refine mvF ?_|refine yT ?_|refine yF ?_);conv=>whnf)))
      refine VC.cutE (fun q : Int × Rd => [(97, .int .i32 q.1), (96, .slice none 0 0), (0, .pointer (some ⟨p, 0, none⟩)), (2, .bool false), (7, .pointer (some ⟨pb, 0, none⟩)), (8, .int .i16 v), (9, .bool fx), (10, .pointer (some ⟨p, 0, none⟩)), (68, .int .i32 n76), (67, .slice (some ⟨g76, 0, none⟩) n76.toNat cap76), (69, .int .i32 i76), (70, .pointer (some ⟨g76, 0 + (i76 : Int).toNat * 6, none⟩)), (71, .pointer (some ⟨g76, 0 + (i76 : Int).toNat * 6, none⟩)), (90, .int .i32 n97), (89, .slice (some ⟨g97, 0, none⟩) n97.toNat cap97), (91, .int .i32 i97), (92, .pointer (some ⟨g97, 0 + (i97 : Int).toNat * 3, none⟩)), (93, .pointer (some ⟨g97, 0 + (i97 : Int).toNat * 3, none⟩))]) (fun q w' => (-2147483648 ≤ q.1 ∧ q.1 ≤ 2147483647) ∧ rdLn fx s98 = q ∧ St w0 G0 p pb q.2 ((g97, 124, es97.flatten ++ [str u98, .slice none 0 0, .map none] ++ ((List.replicate (n97.toNat - (i97 + 1)) [str [], .slice none 0 0, .map none]).flatten ++ post97)) :: L97) P97 w') ?_ ?_
      · refine cI (by rfl) (fun hc=>?_) (fun hc=>?_)
        · ((conv=>whnf);repeat((first|refine mvT ?_|refine mvF ?_|refine yT ?_|refine yF ?_);conv=>whnf))
          refine Does.mono H.lnc ?_
          rintro r w ⟨n, s', rfl, hn, hr, H⟩
          ((conv=>whnf);repeat((first|refine mvT ?_|refine mvF ?_|refine yT ?_|refine yF ?_);conv=>whnf))
          exact ⟨(n, s'), ⟨rfl, rfl, rfl, rfl, rfl, rfl, rfl, rfl, rfl, rfl, rfl, rfl, rfl, rfl, rfl, rfl, rfl, rfl, trivial⟩, hn, by rw [hc]; exact hr, H⟩
        · ((conv=>whnf);repeat((first|refine mvT ?_|refine mvF ?_|refine yT ?_|refine yF ?_);conv=>whnf))
          refine Does.mono H.lnp ?_
          rintro r w ⟨n, s', rfl, hn, hr, H⟩
          ((conv=>whnf);repeat((first|refine mvT ?_|refine mvF ?_|refine yT ?_|refine yF ?_);conv=>whnf))
          exact ⟨(n, s'), ⟨rfl, rfl, rfl, rfl, rfl, rfl, rfl, rfl, rfl, rfl, rfl, rfl, rfl, rfl, rfl, rfl, rfl, rfl, trivial⟩, hn, by rw [hc]; exact hr, H⟩
      clear H
      rintro ⟨n100, s100⟩ w ⟨hn100, hln100, H⟩
      dsimp only at hn100 hln100 H
      ((conv=>whnf);repeat((first|refine mvT ?_|refine mvF ?_|refine yT ?_|refine yF ?_);conv=>whnf))
      refine Does.mono H.ok ?_
      rintro r w ⟨rfl, H⟩
      ((conv=>whnf);repeat((first|refine mvT ?_|refine mvF ?_|refine yT ?_|refine yF ?_);conv=>whnf))
      refine cI (by rfl) (fun hbd=>?_) (fun hbd=>?_)
      · have hbd : s100.2 = true := by simpa using hbd
        ((conv=>whnf);repeat((first|refine mvT ?_|refine mvF ?_|refine yT ?_|refine yF ?_);conv=>whnf))
        refine Does.mono (H.done hL hp1) ?_
        rintro r w ⟨rfl, H⟩
        ((conv=>whnf);repeat((first|refine mvT ?_|refine mvF ?_|refine yT ?_|refine yF ?_);conv=>whnf))
        refine RdPost.early hbd (hup97 (?_)) H
        rw [tail_yes (rdField8 (by decide) hr98) ⟨by decide, has_all hv⟩, tail_len ⟨by decide, has_all hv⟩ hln100 hbd]
      have hbd : s100.2 = false := by simpa using hbd
      clear hbd
      ((conv=>whnf);repeat((first|refine mvT ?_|refine mvF ?_|refine yT ?_|refine yF ?_);conv=>whnf))
      refine cut_zero ?_
      ((conv=>whnf);repeat((first|refine mvT ?_|refine mvF ?_|refine yT ?_|refine yF ?_);conv=>whnf))
      refine VC.cutE (fun a : Value => [(97, .int .i32 n100), (96, a), (0, .pointer (some ⟨p, 0, none⟩)), (2, .bool false), (7, .pointer (some ⟨pb, 0, none⟩)), (8, .int .i16 v), (9, .bool fx), (10, .pointer (some ⟨p, 0, none⟩)), (68, .int .i32 n76), (67, .slice (some ⟨g76, 0, none⟩) n76.toNat cap76), (69, .int .i32 i76), (70, .pointer (some ⟨g76, 0 + (i76 : Int).toNat * 6, none⟩)), (71, .pointer (some ⟨g76, 0 + (i76 : Int).toNat * 6, none⟩)), (90, .int .i32 n97), (89, .slice (some ⟨g97, 0, none⟩) n97.toNat cap97), (91, .int .i32 i97), (92, .pointer (some ⟨g97, 0 + (i97 : Int).toNat * 3, none⟩)), (93, .pointer (some ⟨g97, 0 + (i97 : Int).toNat * 3, none⟩))]) (fun a w' => ListI w0 G0 p pb 21 [.int .i32 0] (elR 6 v fx 3 []) (elQ true 6 3 []) s100 n100 (decide (n100 ≤ 0)) ((g97, 124, es97.flatten ++ [str u98, .slice none 0 0, .map none] ++ ((List.replicate (n97.toNat - (i97 + 1)) [str [], .slice none 0 0, .map none]).flatten ++ post97)) :: L97) P97 a 0 w') ?_ ?_
      · refine cI (by rfl) (fun hps=>?_) (fun hps=>?_)
        · have hps : 0 < n100 := by have := of_decide_eq_true hps; omega
          ((conv=>whnf);repeat((first|refine mvT ?_|refine mvF ?_|refine yT ?_|refine yF ?_);conv=>whnf))
          refine H.grow hps hn100.2 (by decide) rfl rfl (by decide) ?_
          intro g cap post w hc1 hc2 H
          ((conv=>whnf);repeat((first|refine mvT ?_|refine mvF ?_|refine yT ?_|refine yF ?_);conv=>whnf))
          exact ⟨_, ⟨rfl, rfl, rfl, rfl, rfl, rfl, rfl, rfl, rfl, rfl, rfl, rfl, rfl, rfl, rfl, rfl, rfl, rfl, trivial⟩, ListI.some hps (decide_eq_false (by omega)) hc1 hc2 H⟩
        · have hps : n100 ≤ 0 := by have := of_decide_eq_false hps; omega
          ((conv=>whnf);repeat((first|refine mvT ?_|refine mvF ?_|refine yT ?_|refine yF ?_);conv=>whnf))
          exact ⟨_, ⟨rfl, rfl, rfl, rfl, rfl, rfl, rfl, rfl, rfl, rfl, rfl, rfl, rfl, rfl, rfl, rfl, rfl, rfl, trivial⟩, ListI.none hps (decide_eq_true hps) H⟩
      clear H
      rintro a100 w H
      ((conv=>whnf);repeat((first|refine mvT ?_|refine mvF ?_|refine yT ?_|refine yF ?_);conv=>whnf))
      have hpL100 : inL ((g97, 124, es97.flatten ++ [str u98, .slice none 0 0, .map none] ++ ((List.replicate (n97.toNat - (i97 + 1)) [str [], .slice none 0 0, .map none]).flatten ++ post97)) :: L97) p := inL.tail hpL97
      refine VL.loop (fun i : Nat => [(97, .int .i32 n100), (96, a100), (98, .int .i32 i), (0, .pointer (some ⟨p, 0, none⟩)), (2, .bool false), (7, .pointer (some ⟨pb, 0, none⟩)), (8, .int .i16 v), (9, .bool fx), (10, .pointer (some ⟨p, 0, none⟩)), (68, .int .i32 n76), (67, .slice (some ⟨g76, 0, none⟩) n76.toNat cap76), (69, .int .i32 i76), (70, .pointer (some ⟨g76, 0 + (i76 : Int).toNat * 6, none⟩)), (71, .pointer (some ⟨g76, 0 + (i76 : Int).toNat * 6, none⟩)), (90, .int .i32 n97), (89, .slice (some ⟨g97, 0, none⟩) n97.toNat cap97), (91, .int .i32 i97), (92, .pointer (some ⟨g97, 0 + (i97 : Int).toNat * 3, none⟩)), (93, .pointer (some ⟨g97, 0 + (i97 : Int).toNat * 3, none⟩))]) (fun i w' => i ≤ 2147483647 ∧ ListI w0 G0 p pb 21 [.int .i32 0] (elR 6 v fx 3 []) (elQ true 6 3 []) s100 n100 (decide (n100 ≤ 0)) ((g97, 124, es97.flatten ++ [str u98, .slice none 0 0, .map none] ++ ((List.replicate (n97.toNat - (i97 + 1)) [str [], .slice none 0 0, .map none]).flatten ++ post97)) :: L97) P97 a100 i w') (fun i => n100.toNat - i) 0 ⟨rfl, rfl, rfl, rfl, rfl, rfl, rfl, rfl, rfl, rfl, rfl, rfl, rfl, rfl, rfl, rfl, rfl, rfl, rfl, trivial⟩ ⟨by decide, H⟩ ?_
      clear H
      rintro i100 w ⟨hi100, H⟩
      ((conv=>whnf);repeat((first|refine mvT ?_|refine mvF ?_|refine yT ?_|refine yF ?_);conv=>whnf))
      refine cI (by rfl) (fun h9=>?_) (fun h9=>?_)
      · have hlt100 : (i100 : Int) < n100 := of_decide_eq_true h9
        obtain ⟨g100, cap100, post100, rfl, hgo100, HI⟩ := H.go hlt100
        obtain ⟨es100, ts100, si100, hes100, hez100, hrn100, hts100, hlen3, H⟩ := HI.open hgo100.2.2.2.2
        obtain ⟨L100, hL100⟩ : ∃ L : List Ob, L = ((g97, 124, es97.flatten ++ [str u98, .slice none 0 0, .map none] ++ ((List.replicate (n97.toNat - (i97 + 1)) [str [], .slice none 0 0, .map none]).flatten ++ post97)) :: L97) := ⟨_, rfl⟩
        rw [← hL100] at H hpL100
        obtain ⟨P100, hP100⟩ : ∃ P : World → Prop, P = fun w => (∀ (j : Nat) (c : List Value) (y : T), es100[j]? = some c → ts100[j]? = some y → elQ true 6 3 [] ⟨w, FG w0 G0⟩ c y) ∧ P97 w := ⟨_, rfl⟩
        rw [← hP100] at H
        replace H : St w0 G0 p pb si100 ((g100, 21, es100.flatten ++ [.int .i32 0] ++ ((List.replicate (n100.toNat - (i100 + 1)) [.int .i32 0]).flatten ++ post100)) :: L100) P100 w := H
        ((conv=>whnf);repeat((first|refine mvT ?_|refine mvF ?_|refine yT ?_|refine yF ?_);conv=>whnf))
        refine Does.mono H.int32 ?_
        rintro r w ⟨n101, s101, rfl, hn101, hr101, H⟩
        ((conv=>whnf);repeat((first|refine mvT ?_|refine mvF ?_|refine yT ?_|refine yF ?_);conv=>whnf))
        refine ⟨g100, 0, rfl, ⟨by omega, by omega⟩, ?_⟩
        ((conv=>whnf);repeat((first|refine mvT ?_|refine mvF ?_|refine yT ?_|refine yF ?_);conv=>whnf))
        refine H.st1 (v := .int .i32 n101) 0 (rfl) (rfl) rfl (by first | omega | (simp [hlen3]; done) | (simp [hlen3]; omega)) rfl (Nat.lt_of_lt_of_le (Nat.lt_succ_self _) (Nat.le_of_ble_eq_true rfl)) ?_
        intro w H
        ((conv=>whnf);repeat((first|refine mvT ?_|refine mvF ?_|refine yT ?_|refine yF ?_);conv=>whnf))
        replace H : St w0 G0 p pb s101 ((g100, 21, es100.flatten ++ [.int .i32 n101] ++ ((List.replicate (n100.toNat - (i100 + 1)) [.int .i32 0]).flatten ++ post100)) :: L100) P100 w := H
        refine ⟨i100 + 1, ⟨rfl, rfl, ?_, rfl, rfl, rfl, rfl, rfl, rfl, rfl, rfl, rfl, rfl, rfl, rfl, rfl, rfl, rfl, rfl, trivial⟩, ⟨by omega, ListI.back hgo100 (LoopI.next hes100 hez100 hrn100 hts100 (cur := [.int .i32 n101]) (x := numT n101) (hr101) rfl (by rw [← hL100]; exact H) fun w hP => ?_)⟩, by omega⟩
        · show some (Value.int .i32 _) = _
          rw [IntKind.wrap_i32]
          simp only [Option.some.injEq, Value.int.injEq, true_and]
          omega
        · skip
          rw [hP100] at hP
          exact ⟨⟨_, hn101, rfl, rfl⟩, hP⟩
      have hge100 : ¬ (i100 : Int) < n100 := of_decide_eq_false h9
      obtain ⟨l102, s102, hone102, hl102, hr102, H⟩ := H.done hge100 hln100 (nl := nlF (.mk 11 0 (-1) (-1) (-1) 0 3 []) v) (sz := elZ true 6 3 []) rfl hpL100 rfl
      ((conv=>whnf);repeat((first|refine mvT ?_|refine mvF ?_|refine yT ?_|refine yF ?_);conv=>whnf))
      obtain ⟨P103, hP103⟩ : ∃ P : World → Prop, P = fun w => ListR true (elZ true 6 3 []) (elQ true 6 3 [] ⟨w, FG w0 G0⟩) w (FG w0 G0) a100 (.mk 0 [] (decide (n100 ≤ 0)) l102 []) ∧ P97 w := ⟨_, rfl⟩
      replace H : St w0 G0 p pb s102 ((g97, 124, es97.flatten ++ [str u98, .slice none 0 0, .map none] ++ ((List.replicate (n97.toNat - (i97 + 1)) [str [], .slice none 0 0, .map none]).flatten ++ post97)) :: L97) P103 w := by rw [hP103]; exact H
      refine H.st1 (v := a100) 1 (cells_one hone102) (hone102) rfl (by first | omega | (simp [hlen2]; done) | (simp [hlen2]; omega)) rfl (Nat.lt_of_lt_of_le (Nat.lt_succ_self _) (Nat.le_of_ble_eq_true rfl)) ?_
      intro w H
      ((conv=>whnf);repeat((first|refine mvT ?_|refine mvF ?_|refine yT ?_|refine yF ?_);conv=>whnf))
      replace H : St w0 G0 p pb s102 ((g97, 124, es97.flatten ++ [str u98, a100, .map none] ++ ((List.replicate (n97.toNat - (i97 + 1)) [str [], .slice none 0 0, .map none]).flatten ++ post97)) :: L97) P103 w := H
      (refine mvB ?_;((conv=>whnf);repeat((first|refine mvT ?_|refine mvF ?_|refine yT ?_|refine yF ?_);conv=>whnf)))
      refine VC.cutB (fun q : Value × List Tg × Rd => [(0, .pointer (some ⟨p, 0, none⟩)), (2, .bool false), (7, .pointer (some ⟨pb, 0, none⟩)), (8, .int .i16 v), (9, .bool fx), (10, .pointer (some ⟨p, 0, none⟩)), (68, .int .i32 n76), (67, .slice (some ⟨g76, 0, none⟩) n76.toNat cap76), (69, .int .i32 i76), (70, .pointer (some ⟨g76, 0 + (i76 : Int).toNat * 6, none⟩)), (71, .pointer (some ⟨g76, 0 + (i76 : Int).toNat * 6, none⟩)), (90, .int .i32 n97), (89, .slice (some ⟨g97, 0, none⟩) n97.toNat cap97), (91, .int .i32 i97), (92, .pointer (some ⟨g97, 0 + (i97 : Int).toNat * 3, none⟩)), (93, .pointer (some ⟨g97, 0 + (i97 : Int).toNat * 3, none⟩))]) (fun q w' => rdTagsF fx s102 = q.2 ∧ St w0 G0 p pb q.2.2 ((g97, 124, es97.flatten ++ [str u98, a100, q.1] ++ ((List.replicate (n97.toNat - (i97 + 1)) [str [], .slice none 0 0, .map none]).flatten ++ post97)) :: L97) (fun w => TGf w0 G0 q.1 q.2.1 w ∧ P103 w) w') ?_ ?_
      · refine cI (by rfl) (fun hc=>?_) (fun hc=>?_)
        · ((conv=>whnf);repeat((first|refine mvT ?_|refine mvF ?_|refine yT ?_|refine yF ?_);conv=>whnf))
          refine Does.mono H.tags ?_
          rintro r w ⟨m, u, s', rfl, hone, hr, H⟩
          ((conv=>whnf);repeat((first|refine mvT ?_|refine mvF ?_|refine yT ?_|refine yF ?_);conv=>whnf))
          refine H.st1 (v := m) 2 (rfl) (hone) rfl (by first | omega | (simp [hlen2]; done) | (simp [hlen2]; omega)) rfl (Nat.lt_of_lt_of_le (Nat.lt_succ_self _) (Nat.le_of_ble_eq_true rfl)) ?_
          intro w H
          ((conv=>whnf);repeat((first|refine mvT ?_|refine mvF ?_|refine yT ?_|refine yF ?_);conv=>whnf))
          exact ⟨(m, u, s'), ⟨rfl, rfl, rfl, rfl, rfl, rfl, rfl, rfl, rfl, rfl, rfl, rfl, rfl, rfl, rfl, rfl, trivial⟩, by rw [rdTagsF, if_pos hc]; exact hr, H⟩
        · ((conv=>whnf);repeat((first|refine mvT ?_|refine mvF ?_|refine yT ?_|refine yF ?_);conv=>whnf))
          exact ⟨(.map none, [], s102), ⟨rfl, rfl, rfl, rfl, rfl, rfl, rfl, rfl, rfl, rfl, rfl, rfl, rfl, rfl, rfl, rfl, trivial⟩, by rw [rdTagsF, if_neg (by rw [hc]; decide)], H.add fun w' _ => TagsR.nil _ _⟩
      clear H
      rintro ⟨m105, u105, s105⟩ w ⟨htg, H⟩
      dsimp only at htg H
      ((conv=>whnf);repeat((first|refine mvT ?_|refine mvF ?_|refine yT ?_|refine yF ?_);conv=>whnf))
      obtain ⟨P106, hP106⟩ : ∃ P : World → Prop, P = fun w => TGf w0 G0 m105 u105 w ∧ P103 w := ⟨_, rfl⟩
      replace H : St w0 G0 p pb s105 ((g97, 124, es97.flatten ++ [str u98, a100, m105] ++ ((List.replicate (n97.toNat - (i97 + 1)) [str [], .slice none 0 0, .map none]).flatten ++ post97)) :: L97) P106 w := by rw [hP106]; exact H
      have hpart : rdPart 7 v fx dStreamsGroupHeartbeatResponsePartitionsByUserEndpointStandbyPartition si97 = (.mk 0 [] false [.mk 0 u98 false [] [], .mk 0 [] (decide (n100 ≤ 0)) l102 []] u105, s105) := by
        unfold rdPart rdPartW
        rw [rdTail_plain (by decide)]
        rw [rdAll_yes (df := dfT 7) (rdField8 (by decide) hr98) ⟨by decide, has_all hv⟩, rdAll_yes (df := dfT 7) ((rdField_list _ _ _ _ _ _ _ _ _ _ _).trans hr102) ⟨by decide, has_all hv⟩]
        simp only [rdAll]
        rw [htg]
      refine ⟨i97 + 1, ⟨rfl, rfl, ?_, rfl, rfl, rfl, rfl, rfl, rfl, rfl, rfl, rfl, rfl, rfl, trivial⟩, ⟨by omega, ListI.back hgo97 (LoopI.next hes97 hez97 hrn97 hts97 (cur := [str u98, a100, m105]) (x := .mk 0 [] false [.mk 0 u98 false [] [], .mk 0 [] (decide (n100 ≤ 0)) l102 []] u105) (hpart) rfl (by rw [← hL97]; exact H) fun w hP => ?_)⟩, by omega⟩
      · show some (Value.int .i32 _) = _
        rw [IntKind.wrap_i32]
        simp only [Option.some.injEq, Value.int.injEq, true_and]
        omega
      · skip
        rw [hP106] at hP
        obtain ⟨hf106_, hP⟩ := hP
        rw [hP103] at hP
        obtain ⟨hf103_, hP⟩ := hP
        rw [hP97] at hP
        exact ⟨QPt (QA1 (QF8 (by decide) u98) (QA1 (QF11 hl102 hf103_) (QA0))) hf106_, hP⟩
    have hge97 : ¬ (i97 : Int) < n97 := of_decide_eq_false h9
    obtain ⟨l107, s107, hone107, hl107, hr107, H⟩ := H.done hge97 hln97 (nl := nlF (.mk 11 0 (-1) (-1) (-1) 0 10 dStreamsGroupHeartbeatResponsePartitionsByUserEndpointStandbyPartition) v) (sz := elZ true 7 10 dStreamsGroupHeartbeatResponsePartitionsByUserEndpointStandbyPartition) rfl hpL97 rfl
    ((conv=>whnf);repeat((first|refine mvT ?_|refine mvF ?_|refine yT ?_|refine yF ?_);conv=>whnf))
    obtain ⟨P108, hP108⟩ : ∃ P : World → Prop, P = fun w => ListR true (elZ true 7 10 dStreamsGroupHeartbeatResponsePartitionsByUserEndpointStandbyPartition) (elQ true 7 10 dStreamsGroupHeartbeatResponsePartitionsByUserEndpointStandbyPartition ⟨w, FG w0 G0⟩) w (FG w0 G0) a97 (.mk 0 [] (decide (n97 ≤ 0)) l107 []) ∧ P95 w := ⟨_, rfl⟩
    replace H : St w0 G0 p pb s107 ((g76, 95, es76.flatten ++ [str u78, .int .u16 n80, m82, a84, .slice none 0 0, .map none] ++ ((List.replicate (n76.toNat - (i76 + 1)) [str [], .int .u16 0, .map none, .slice none 0 0, .slice none 0 0, .map none]).flatten ++ post76)) :: L76) P108 w := by rw [hP108]; exact H
    refine H.st1 (v := a97) 4 (cells_one hone107) (hone107) rfl (by first | omega | (simp [hlen1]; done) | (simp [hlen1]; omega)) rfl (Nat.lt_of_lt_of_le (Nat.lt_succ_self _) (Nat.le_of_ble_eq_true rfl)) ?_
    intro w H
    ((conv=>whnf);repeat((first|refine mvT ?_|refine mvF ?_|refine yT ?_|refine yF ?_);conv=>whnf))
    replace H : St w0 G0 p pb s107 ((g76, 95, es76.flatten ++ [str u78, .int .u16 n80, m82, a84, a97, .map none] ++ ((List.replicate (n76.toNat - (i76 + 1)) [str [], .int .u16 0, .map none, .slice none 0 0, .slice none 0 0, .map none]).flatten ++ post76)) :: L76) P108 w := H
    (refine mvB ?_;((conv=>whnf);repeat((first|refine mvT ?_|refine mvF ?_|refine yT ?_|refine yF ?_);conv=>whnf)))
    refine VC.cutB (fun q : Value × List Tg × Rd => [(0, .pointer (some ⟨p, 0, none⟩)), (2, .bool false), (7, .pointer (some ⟨pb, 0, none⟩)), (8, .int .i16 v), (9, .bool fx), (10, .pointer (some ⟨p, 0, none⟩)), (68, .int .i32 n76), (67, .slice (some ⟨g76, 0, none⟩) n76.toNat cap76), (69, .int .i32 i76), (70, .pointer (some ⟨g76, 0 + (i76 : Int).toNat * 6, none⟩)), (71, .pointer (some ⟨g76, 0 + (i76 : Int).toNat * 6, none⟩))]) (fun q w' => rdTagsF fx s107 = q.2 ∧ St w0 G0 p pb q.2.2 ((g76, 95, es76.flatten ++ [str u78, .int .u16 n80, m82, a84, a97, q.1] ++ ((List.replicate (n76.toNat - (i76 + 1)) [str [], .int .u16 0, .map none, .slice none 0 0, .slice none 0 0, .map none]).flatten ++ post76)) :: L76) (fun w => TGf w0 G0 q.1 q.2.1 w ∧ P108 w) w') ?_ ?_
    · refine cI (by rfl) (fun hc=>?_) (fun hc=>?_)
      · ((conv=>whnf);repeat((first|refine mvT ?_|refine mvF ?_|refine yT ?_|refine yF ?_);conv=>whnf))
        refine Does.mono H.tags ?_
        rintro r w ⟨m, u, s', rfl, hone, hr, H⟩
        ((conv=>whnf);repeat((first|refine mvT ?_|refine mvF ?_|refine yT ?_|refine yF ?_);conv=>whnf))
        refine H.st1 (v := m) 5 (rfl) (hone) rfl (by first | omega | (simp [hlen1]; done) | (simp [hlen1]; omega)) rfl (Nat.lt_of_lt_of_le (Nat.lt_succ_self _) (Nat.le_of_ble_eq_true rfl)) ?_
        intro w H
        ((conv=>whnf);repeat((first|refine mvT ?_|refine mvF ?_|refine yT ?_|refine yF ?_);conv=>whnf))
        exact ⟨(m, u, s'), ⟨rfl, rfl, rfl, rfl, rfl, rfl, rfl, rfl, rfl, rfl, rfl, trivial⟩, by rw [rdTagsF, if_pos hc]; exact hr, H⟩
      · ((conv=>whnf);repeat((first|refine mvT ?_|refine mvF ?_|refine yT ?_|refine yF ?_);conv=>whnf))
        exact ⟨(.map none, [], s107), ⟨rfl, rfl, rfl, rfl, rfl, rfl, rfl, rfl, rfl, rfl, rfl, trivial⟩, by rw [rdTagsF, if_neg (by rw [hc]; decide)], H.add fun w' _ => TagsR.nil _ _⟩
    clear H
    rintro ⟨m110, u110, s110⟩ w ⟨htg, H⟩
    dsimp only at htg H
    ((conv=>whnf);repeat((first|refine mvT ?_|refine mvF ?_|refine yT ?_|refine yF ?_);conv=>whnf))
    obtain ⟨P111, hP111⟩ : ∃ P : World → Prop, P = fun w => TGf w0 G0 m110 u110 w ∧ P108 w := ⟨_, rfl⟩
    replace H : St w0 G0 p pb s110 ((g76, 95, es76.flatten ++ [str u78, .int .u16 n80, m82, a84, a97, m110] ++ ((List.replicate (n76.toNat - (i76 + 1)) [str [], .int .u16 0, .map none, .slice none 0 0, .slice none 0 0, .map none]).flatten ++ post76)) :: L76) P111 w := by rw [hP111]; exact H
    have hpart : rdPart 8 v fx dStreamsGroupHeartbeatResponsePartitionsByUserEndpoint si76 = (.mk 0 [] false [.mk 0 [] false [.mk 0 u78 false [] [], numT n80] u82, .mk 0 [] (decide (n84 ≤ 0)) l94 [], .mk 0 [] (decide (n97 ≤ 0)) l107 []] u110, s110) := by
      unfold rdPart rdPartW
      rw [rdTail_plain (by decide)]
      rw [rdAll_yes (df := dfT 8) ((rdField10 : rdField 8 v fx (.mk 10 0 (-1) (-1) (-1) 0 0 dEndpoint) _ = _).trans hpi77) ⟨by decide, has_all hv⟩, rdAll_yes (df := dfT 8) ((rdField_list _ _ _ _ _ _ _ _ _ _ _).trans hr94) ⟨by decide, has_all hv⟩, rdAll_yes (df := dfT 8) ((rdField_list _ _ _ _ _ _ _ _ _ _ _).trans hr107) ⟨by decide, has_all hv⟩]
      simp only [rdAll]
      rw [htg]
    refine ⟨i76 + 1, ⟨rfl, rfl, ?_, rfl, rfl, rfl, rfl, rfl, rfl, trivial⟩, ⟨by omega, ListI.back hgo76 (LoopI.next hes76 hez76 hrn76 hts76 (cur := [str u78, .int .u16 n80, m82, a84, a97, m110]) (x := .mk 0 [] false [.mk 0 [] false [.mk 0 u78 false [] [], numT n80] u82, .mk 0 [] (decide (n84 ≤ 0)) l94 [], .mk 0 [] (decide (n97 ≤ 0)) l107 []] u110) (hpart) rfl (by rw [← hL76]; exact H) fun w hP => ?_)⟩, by omega⟩
    · show some (Value.int .i32 _) = _
      rw [IntKind.wrap_i32]
      simp only [Option.some.injEq, Value.int.injEq, true_and]
      omega
    · skip
      rw [hP111] at hP
      obtain ⟨hf111_, hP⟩ := hP
      rw [hP108] at hP
      obtain ⟨hf108_, hP⟩ := hP
      rw [hP95] at hP
      obtain ⟨hf95_, hP⟩ := hP
      rw [hP83] at hP
      obtain ⟨hf83_, hP⟩ := hP
      rw [hP76] at hP
      exact ⟨QPt (QA1 (QF10 (QPt (QA1 (QF8 (by decide) u78) (QA1 (QF5 hn80) (QA0))) hf83_)) (QA1 (QF11 hl94 hf95_) (QA1 (QF11 hl107 hf108_) (QA0)))) hf111_, hP⟩
  have hge76 : ¬ (i76 : Int) < n76 := of_decide_eq_false h9
  obtain ⟨l112, s112, hone112, hl112, hr112, H⟩ := H.done hge76 hln76 (nl := nlF (.mk 11 0 (-1) 0 (-1) 0 10 dStreamsGroupHeartbeatResponsePartitionsByUserEndpoint) v) (sz := elZ true 8 10 dStreamsGroupHeartbeatResponsePartitionsByUserEndpoint) rfl hpL76 rfl
  ((conv=>whnf);repeat((first|refine mvT ?_|refine mvF ?_|refine yT ?_|refine yF ?_);conv=>whnf))
  obtain ⟨P113, hP113⟩ : ∃ P : World → Prop, P = fun w => ListR true (elZ true 8 10 dStreamsGroupHeartbeatResponsePartitionsByUserEndpoint) (elQ true 8 10 dStreamsGroupHeartbeatResponsePartitionsByUserEndpoint ⟨w, FG w0 G0⟩) w (FG w0 G0) a76 (.mk 0 [] ((decide (n76 < 0) && decide (0 ≤ v))) l112 []) ∧ P69 w := ⟨_, rfl⟩
  replace H : St w0 G0 p pb s112 ((p, ty, [] ++ [.int .i16 v, .int .i32 n1, .int .i16 n3, c5, str u8, .int .i32 n10, .int .i32 n12, .int .i32 n14, .int .i32 n17, .int .i64 n19, a22, a32, a45, a58, .bool n71, .int .i32 n74, .slice none 0 0, .map none] ++ []) :: []) P113 w := by rw [hP113]; exact H
  refine H.st1 (v := a76) 16 (cells_one hone112) (hone112) rfl (by simp) rfl (Nat.lt_of_lt_of_le (Nat.lt_succ_self _) (Nat.le_of_ble_eq_true rfl)) ?_
  intro w H
  ((conv=>whnf);repeat((first|refine mvT ?_|refine mvF ?_|refine yT ?_|refine yF ?_);conv=>whnf))
  replace H : St w0 G0 p pb s112 ((p, ty, [] ++ [.int .i16 v, .int .i32 n1, .int .i16 n3, c5, str u8, .int .i32 n10, .int .i32 n12, .int .i32 n14, .int .i32 n17, .int .i64 n19, a22, a32, a45, a58, .bool n71, .int .i32 n74, a76, .map none] ++ []) :: []) P113 w := H
  (refine mvB ?_;((conv=>whnf);repeat((first|refine mvT ?_|refine mvF ?_|refine yT ?_|refine yF ?_);conv=>whnf)))
  refine VC.cutE (fun q : Value × List Tg × Rd => [(0, .pointer (some ⟨p, 0, none⟩)), (2, .bool false), (7, .pointer (some ⟨pb, 0, none⟩)), (8, .int .i16 v), (9, .bool fx), (10, .pointer (some ⟨p, 0, none⟩))]) (fun q w' => rdTagsF fx s112 = q.2 ∧ St w0 G0 p pb q.2.2 ((p, ty, [] ++ [.int .i16 v, .int .i32 n1, .int .i16 n3, c5, str u8, .int .i32 n10, .int .i32 n12, .int .i32 n14, .int .i32 n17, .int .i64 n19, a22, a32, a45, a58, .bool n71, .int .i32 n74, a76, q.1] ++ []) :: []) (fun w => TGf w0 G0 q.1 q.2.1 w ∧ P113 w) w') ?_ ?_
  · refine cI (by rfl) (fun hc=>?_) (fun hc=>?_)
    · ((conv=>whnf);repeat((first|refine mvT ?_|refine mvF ?_|refine yT ?_|refine yF ?_);conv=>whnf))
      refine Does.mono H.tags ?_
      rintro r w ⟨m, u, s', rfl, hone, hr, H⟩
      ((conv=>whnf);repeat((first|refine mvT ?_|refine mvF ?_|refine yT ?_|refine yF ?_);conv=>whnf))
      refine H.st1 (v := m) 17 (rfl) (hone) rfl (by simp) rfl (Nat.lt_of_lt_of_le (Nat.lt_succ_self _) (Nat.le_of_ble_eq_true rfl)) ?_
      intro w H
      ((conv=>whnf);repeat((first|refine mvT ?_|refine mvF ?_|refine yT ?_|refine yF ?_);conv=>whnf))
      exact ⟨(m, u, s'), ⟨rfl, rfl, rfl, rfl, rfl, rfl, trivial⟩, by rw [rdTagsF, if_pos hc]; exact hr, H⟩
    · ((conv=>whnf);repeat((first|refine mvT ?_|refine mvF ?_|refine yT ?_|refine yF ?_);conv=>whnf))
      exact ⟨(.map none, [], s112), ⟨rfl, rfl, rfl, rfl, rfl, rfl, trivial⟩, by rw [rdTagsF, if_neg (by rw [hc]; decide)], H.add fun w' _ => TagsR.nil _ _⟩
  clear H
  rintro ⟨m115, u115, s115⟩ w ⟨htg, H⟩
  dsimp only at htg H
  ((conv=>whnf);repeat((first|refine mvT ?_|refine mvF ?_|refine yT ?_|refine yF ?_);conv=>whnf))
  obtain ⟨P116, hP116⟩ : ∃ P : World → Prop, P = fun w => TGf w0 G0 m115 u115 w ∧ P113 w := ⟨_, rfl⟩
  replace H : St w0 G0 p pb s115 ((p, ty, [] ++ [.int .i16 v, .int .i32 n1, .int .i16 n3, c5, str u8, .int .i32 n10, .int .i32 n12, .int .i32 n14, .int .i32 n17, .int .i64 n19, a22, a32, a45, a58, .bool n71, .int .i32 n74, a76, m115] ++ []) :: []) P116 w := by rw [hP116]; exact H
  have hpart : rdPart 9 v fx dStreamsGroupHeartbeatResponse (l, false) = (.mk 0 [] false [numT n1, numT n3, .mk 0 u5 nl5 [] [], .mk 0 u8 false [] [], numT n10, numT n12, numT n14, numT n17, numT n19, .mk 0 [] ((decide (n22 < 0) && decide (0 ≤ v))) l29 [], .mk 0 [] ((decide (n32 < 0) && decide (0 ≤ v))) l42 [], .mk 0 [] ((decide (n45 < 0) && decide (0 ≤ v))) l55 [], .mk 0 [] ((decide (n58 < 0) && decide (0 ≤ v))) l68 [], numT (if n71 = true then 1 else 0), numT n74, .mk 0 [] ((decide (n76 < 0) && decide (0 ≤ v))) l112 []] u115, s115) := by
    unfold rdPart rdPartW
    rw [rdTail_plain (by decide)]
    rw [rdAll_yes (df := dfT 9) (rdField3.trans hr1) ⟨by decide, has_all hv⟩, rdAll_yes (df := dfT 9) (rdField2.trans hr3) ⟨by decide, has_all hv⟩, rdAll_yes (df := dfT 9) ((rdField8n (by decide)).trans hr5) ⟨by decide, has_all hv⟩, rdAll_yes (df := dfT 9) (rdField8 (by decide) hr8) ⟨by decide, has_all hv⟩, rdAll_yes (df := dfT 9) (rdField3.trans hr10) ⟨by decide, has_all hv⟩, rdAll_yes (df := dfT 9) (rdField3.trans hr12) ⟨by decide, has_all hv⟩, rdAll_ver hr14 (by decide), rdAll_yes (df := dfT 9) (rdField3.trans hr17) ⟨by decide, has_all hv⟩, rdAll_ver hr19 (by decide), rdAll_yes (df := dfT 9) ((rdField_list _ _ _ _ _ _ _ _ _ _ _).trans hr29) ⟨by decide, has_all hv⟩, rdAll_yes (df := dfT 9) ((rdField_list _ _ _ _ _ _ _ _ _ _ _).trans hr42) ⟨by decide, has_all hv⟩, rdAll_yes (df := dfT 9) ((rdField_list _ _ _ _ _ _ _ _ _ _ _).trans hr55) ⟨by decide, has_all hv⟩, rdAll_yes (df := dfT 9) ((rdField_list _ _ _ _ _ _ _ _ _ _ _).trans hr68) ⟨by decide, has_all hv⟩, rdAll_ver hr71 (by decide), rdAll_yes (df := dfT 9) (rdField3.trans hr74) ⟨by decide, has_all hv⟩, rdAll_yes (df := dfT 9) ((rdField_list _ _ _ _ _ _ _ _ _ _ _).trans hr112) ⟨by decide, has_all hv⟩]
    simp only [rdAll]
    rw [htg]
  refine Does.mono (H.done hL hp1) ?_
  rintro r w ⟨rfl, H⟩
  ((conv=>whnf);repeat((first|refine mvT ?_|refine mvF ?_|refine yT ?_|refine yF ?_);conv=>whnf))
  refine RdPost.end hpart H fun hP => ?_
  rw [hP116] at hP
  obtain ⟨hf116_, hP⟩ := hP
  rw [hP113] at hP
  obtain ⟨hf113_, hP⟩ := hP
  rw [hP69] at hP
  obtain ⟨hf69_, hP⟩ := hP
  rw [hP56] at hP
  obtain ⟨hf56_, hP⟩ := hP
  rw [hP43] at hP
  obtain ⟨hf43_, hP⟩ := hP
  rw [hP30] at hP
  obtain ⟨hf30_, hP⟩ := hP
  rw [hP6] at hP
  obtain ⟨hf6_, hP⟩ := hP
  exact QPt (QA1 (QF3 hn1) (QA1 (QF2 hn3) (QA1 (QF8n (by decide) hnl5 hf6_) (QA1 (QF8 (by decide) u8) (QA1 (QF3 hn10) (QA1 (QF3 hn12) (QA1 (QF3 hn14) (QA1 (QF3 hn17) (QA1 (QF4 hn19) (QA1 (QF11 hl29 hf30_) (QA1 (QF11 hl42 hf43_) (QA1 (QF11 hl55 hf56_) (QA1 (QF11 hl68 hf69_) (QA1 (QF0 n71) (QA1 (QF3 hn74) (QA1 (QF11 hl112 hf113_) (QA0))))))))))))))))) hf116_
end Go.Proofs.YtepamajphjgigaaGreatDoor.K
