/- Reading of ShareFetchRequest. -/
import Derived.Test.YtmmieooipcfbiaaGreatDoorE5
set_option linter.unusedVariables false
set_option linter.unusedSimpArgs false
namespace Go.Proofs.YtmmieooipcfbiaaGreatDoor.K
open Go
set_option maxHeartbeats 4000000
set_option maxRecDepth 100000

abbrev dShareFetchRequestTopicPartitionAcknowledgementBatch : List Fd := [.mk 4 0 (-1) (-1) (-1) 0 0 [], .mk 4 0 (-1) (-1) (-1) 0 0 [], .mk 11 0 (-1) (-1) (-1) 0 1 []]
abbrev dShareFetchRequestTopicPartition : List Fd := [.mk 3 0 (-1) (-1) (-1) 0 0 [], .mk 3 0 0 (-1) (-1) 0 0 [], .mk 11 0 (-1) (-1) (-1) 0 10 dShareFetchRequestTopicPartitionAcknowledgementBatch]
abbrev dShareFetchRequestTopic : List Fd := [.mk 7 0 (-1) (-1) (-1) 0 0 [], .mk 11 0 (-1) (-1) (-1) 0 10 dShareFetchRequestTopicPartition]
abbrev dShareFetchRequestForgottenTopicsData : List Fd := [.mk 7 0 (-1) (-1) (-1) 0 0 [], .mk 11 0 (-1) (-1) (-1) 0 3 []]
abbrev dShareFetchRequest : List Fd := [.mk 8 0 (-1) 0 (-1) 0 0 [], .mk 8 0 (-1) 0 (-1) 0 0 [], .mk 3 0 (-1) (-1) (-1) 0 0 [], .mk 3 0 (-1) (-1) (-1) 0 0 [], .mk 3 0 (-1) (-1) (-1) 0 0 [], .mk 3 0 (-1) (-1) (-1) 2147483647 0 [], .mk 3 1 (-1) (-1) (-1) 0 0 [], .mk 3 1 (-1) (-1) (-1) 0 0 [], .mk 1 2 (-1) (-1) (-1) 0 0 [], .mk 0 2 (-1) (-1) (-1) 0 0 [], .mk 11 0 (-1) (-1) (-1) 0 10 dShareFetchRequestTopic, .mk 11 0 (-1) (-1) (-1) 0 10 dShareFetchRequestForgottenTopicsData]
theorem sShareFetchRequestTopicPartitionAcknowledgementBatch (w : World) : Does X.P 148 #[] w fun r w' => FdsR w' (fun k => w.heap.size ≤ k) r dShareFetchRequestTopicPartitionAcknowledgementBatch ∧ Ext nob w w' := by
  have hx0 : Ext nob w w := Ext.refl _ _
  refine Does.go (X := X) (l := []) Tryz.func148 rfl (by kernel_rfl) (by kernel_rfl) _ rfl ?_
  ((conv=>whnf);repeat(first|(refine mvT ?_;conv=>whnf)|(refine mvF ?_;conv=>whnf)|(refine cT (by rfl) ?_;conv=>whnf)|(refine cF (by rfl) ?_;conv=>whnf)))
  have hxs := hx0
  intro b wb hb ho hx
  have hx0 := hx0.e0 hx
  ((conv=>whnf);repeat(first|(refine mvT ?_;conv=>whnf)|(refine mvF ?_;conv=>whnf)|(refine cT (by rfl) ?_;conv=>whnf)|(refine cF (by rfl) ?_;conv=>whnf)))
  refine ⟨?_, hx0⟩
  exact FdL.fds (cs := [[.int .i64 4, .int .i64 0, .int .i64 (-1), .int .i64 (-1), .int .i64 (-1), .int .i64 0, .int .i64 0, .slice none 0 0], [.int .i64 4, .int .i64 0, .int .i64 (-1), .int .i64 (-1), .int .i64 (-1), .int .i64 0, .int .i64 0, .slice none 0 0], [.int .i64 11, .int .i64 0, .int .i64 (-1), .int .i64 (-1), .int .i64 (-1), .int .i64 0, .int .i64 1, .slice none 0 0]])
    ⟨fdLeaf _ _ _ _ _ _ _ _ _, fdLeaf _ _ _ _ _ _ _ _ _, fdLeaf _ _ _ _ _ _ _ _ _, trivial⟩ ho rfl (by decide) (by have := hxs.size; omega)
theorem sShareFetchRequestTopicPartition (w : World) : Does X.P 104 #[] w fun r w' => FdsR w' (fun k => w.heap.size ≤ k) r dShareFetchRequestTopicPartition ∧ Ext nob w w' := by
  have hx0 : Ext nob w w := Ext.refl _ _
  refine Does.go (X := X) (l := []) Tryz.func104 rfl (by kernel_rfl) (by kernel_rfl) _ rfl ?_
  ((conv=>whnf);repeat(first|(refine mvT ?_;conv=>whnf)|(refine mvF ?_;conv=>whnf)|(refine cT (by rfl) ?_;conv=>whnf)|(refine cF (by rfl) ?_;conv=>whnf)))
  refine Does.mono (sShareFetchRequestTopicPartitionAcknowledgementBatch w) ?_
  rintro v2 wv2 ⟨hv2, hc⟩
  have hv2 := hv2.mono (F' := fun k => w.heap.size ≤ k) fun k _ h => Nat.le_trans hx0.size h
  obtain ⟨lv2, gv2, _⟩ := id hv2
  obtain ⟨av2, kv2, rfl, _⟩ := gv2.view
  ((conv=>whnf);repeat(first|(refine mvT ?_;conv=>whnf)|(refine mvF ?_;conv=>whnf)|(refine cT (by rfl) ?_;conv=>whnf)|(refine cF (by rfl) ?_;conv=>whnf)))
  have hx0 := hx0.e0 hc
  have hxs := hx0
  intro b wb hb ho hx
  have hx0 := hx0.e0 hx
  ((conv=>whnf);repeat(first|(refine mvT ?_;conv=>whnf)|(refine mvF ?_;conv=>whnf)|(refine cT (by rfl) ?_;conv=>whnf)|(refine cF (by rfl) ?_;conv=>whnf)))
  refine ⟨?_, hx0⟩
  exact FdL.fds (cs := [[.int .i64 3, .int .i64 0, .int .i64 (-1), .int .i64 (-1), .int .i64 (-1), .int .i64 0, .int .i64 0, .slice none 0 0], [.int .i64 3, .int .i64 0, .int .i64 0, .int .i64 (-1), .int .i64 (-1), .int .i64 0, .int .i64 0, .slice none 0 0], [.int .i64 11, .int .i64 0, .int .i64 (-1), .int .i64 (-1), .int .i64 (-1), .int .i64 0, .int .i64 10, .slice av2 lv2.length kv2]])
    ⟨fdLeaf _ _ _ _ _ _ _ _ _, fdLeaf _ _ _ _ _ _ _ _ _, FdC.of (hv2.e0 hx) _ _ _ _ _ _ _, trivial⟩ ho rfl (by decide) (by have := hxs.size; omega)
theorem sShareFetchRequestTopic (w : World) : Does X.P 65 #[] w fun r w' => FdsR w' (fun k => w.heap.size ≤ k) r dShareFetchRequestTopic ∧ Ext nob w w' := by
  have hx0 : Ext nob w w := Ext.refl _ _
  refine Does.go (X := X) (l := []) Tryz.func65 rfl (by kernel_rfl) (by kernel_rfl) _ rfl ?_
  ((conv=>whnf);repeat(first|(refine mvT ?_;conv=>whnf)|(refine mvF ?_;conv=>whnf)|(refine cT (by rfl) ?_;conv=>whnf)|(refine cF (by rfl) ?_;conv=>whnf)))
  refine Does.mono (sShareFetchRequestTopicPartition w) ?_
  rintro v1 wv1 ⟨hv1, hc⟩
  have hv1 := hv1.mono (F' := fun k => w.heap.size ≤ k) fun k _ h => Nat.le_trans hx0.size h
  obtain ⟨lv1, gv1, _⟩ := id hv1
  obtain ⟨av1, kv1, rfl, _⟩ := gv1.view
  ((conv=>whnf);repeat(first|(refine mvT ?_;conv=>whnf)|(refine mvF ?_;conv=>whnf)|(refine cT (by rfl) ?_;conv=>whnf)|(refine cF (by rfl) ?_;conv=>whnf)))
  have hx0 := hx0.e0 hc
  have hxs := hx0
  intro b wb hb ho hx
  have hx0 := hx0.e0 hx
  ((conv=>whnf);repeat(first|(refine mvT ?_;conv=>whnf)|(refine mvF ?_;conv=>whnf)|(refine cT (by rfl) ?_;conv=>whnf)|(refine cF (by rfl) ?_;conv=>whnf)))
  refine ⟨?_, hx0⟩
  exact FdL.fds (cs := [[.int .i64 7, .int .i64 0, .int .i64 (-1), .int .i64 (-1), .int .i64 (-1), .int .i64 0, .int .i64 0, .slice none 0 0], [.int .i64 11, .int .i64 0, .int .i64 (-1), .int .i64 (-1), .int .i64 (-1), .int .i64 0, .int .i64 10, .slice av1 lv1.length kv1]])
    ⟨fdLeaf _ _ _ _ _ _ _ _ _, FdC.of (hv1.e0 hx) _ _ _ _ _ _ _, trivial⟩ ho rfl (by decide) (by have := hxs.size; omega)
theorem sShareFetchRequestForgottenTopicsData (w : World) : Does X.P 66 #[] w fun r w' => FdsR w' (fun k => w.heap.size ≤ k) r dShareFetchRequestForgottenTopicsData ∧ Ext nob w w' := by
  have hx0 : Ext nob w w := Ext.refl _ _
  refine Does.go (X := X) (l := []) Tryz.func66 rfl (by kernel_rfl) (by kernel_rfl) _ rfl ?_
  ((conv=>whnf);repeat(first|(refine mvT ?_;conv=>whnf)|(refine mvF ?_;conv=>whnf)|(refine cT (by rfl) ?_;conv=>whnf)|(refine cF (by rfl) ?_;conv=>whnf)))
  have hxs := hx0
  intro b wb hb ho hx
  have hx0 := hx0.e0 hx
  ((conv=>whnf);repeat(first|(refine mvT ?_;conv=>whnf)|(refine mvF ?_;conv=>whnf)|(refine cT (by rfl) ?_;conv=>whnf)|(refine cF (by rfl) ?_;conv=>whnf)))
  refine ⟨?_, hx0⟩
  exact FdL.fds (cs := [[.int .i64 7, .int .i64 0, .int .i64 (-1), .int .i64 (-1), .int .i64 (-1), .int .i64 0, .int .i64 0, .slice none 0 0], [.int .i64 11, .int .i64 0, .int .i64 (-1), .int .i64 (-1), .int .i64 (-1), .int .i64 0, .int .i64 3, .slice none 0 0]])
    ⟨fdLeaf _ _ _ _ _ _ _ _ _, fdLeaf _ _ _ _ _ _ _ _ _, trivial⟩ ho rfl (by decide) (by have := hxs.size; omega)
theorem sShareFetchRequest (w : World) : Does X.P 27 #[] w fun r w' => Msg w' (fun k => w.heap.size ≤ k) r dShareFetchRequest 0 ∧ Ext nob w w' := by
  have hx0 : Ext nob w w := Ext.refl _ _
  refine Does.go (X := X) (l := []) Tryz.func27 rfl (by kernel_rfl) (by kernel_rfl) _ rfl ?_
  ((conv=>whnf);repeat(first|(refine mvT ?_;conv=>whnf)|(refine mvF ?_;conv=>whnf)|(refine cT (by rfl) ?_;conv=>whnf)|(refine cF (by rfl) ?_;conv=>whnf)))
  intro b w1 hb ho hx
  have hx0 := hx0.e0 hx
  have ho := ho
  ((conv=>whnf);repeat(first|(refine mvT ?_;conv=>whnf)|(refine mvF ?_;conv=>whnf)|(refine cT (by rfl) ?_;conv=>whnf)|(refine cF (by rfl) ?_;conv=>whnf)))
  refine Does.mono (sShareFetchRequestTopic w1) ?_
  rintro v10 wv10 ⟨hv10, hc⟩
  have hv10 := hv10.mono (F' := fun k => w.heap.size ≤ k ∧ b < k) fun k _ h => ⟨Nat.le_trans hx0.size h, Nat.lt_of_lt_of_le ho.lt h⟩
  obtain ⟨lv10, gv10, _⟩ := id hv10
  obtain ⟨av10, kv10, rfl, _⟩ := gv10.view
  ((conv=>whnf);repeat(first|(refine mvT ?_;conv=>whnf)|(refine mvF ?_;conv=>whnf)|(refine cT (by rfl) ?_;conv=>whnf)|(refine cF (by rfl) ?_;conv=>whnf)))
  have hx0 := hx0.e0 hc
  have ho := ho.e0 hc
  refine Does.mono (sShareFetchRequestForgottenTopicsData wv10) ?_
  rintro v11 wv11 ⟨hv11, hc⟩
  have hv11 := hv11.mono (F' := fun k => w.heap.size ≤ k ∧ b < k) fun k _ h => ⟨Nat.le_trans hx0.size h, Nat.lt_of_lt_of_le ho.lt h⟩
  obtain ⟨lv11, gv11, _⟩ := id hv11
  obtain ⟨av11, kv11, rfl, _⟩ := gv11.view
  ((conv=>whnf);repeat(first|(refine mvT ?_;conv=>whnf)|(refine mvF ?_;conv=>whnf)|(refine cT (by rfl) ?_;conv=>whnf)|(refine cF (by rfl) ?_;conv=>whnf)))
  have hv10 := hv10.e0 hc
  have hx0 := hx0.e0 hc
  have ho := ho.e0 hc
  have hxs := hx0
  intro b2 w2 hb2 ho2 hx2
  ((conv=>whnf);repeat(first|(refine mvT ?_;conv=>whnf)|(refine mvF ?_;conv=>whnf)|(refine cT (by rfl) ?_;conv=>whnf)|(refine cF (by rfl) ?_;conv=>whnf)))
  have hx0 := hx0.e0 hx2
  refine ⟨_, _, ho.e0 hx2, rfl, rfl, rfl, ?_⟩
  intro w3 ho3 hx3
  have hx03 := hx0.st hx3 hb
  ((conv=>whnf);repeat(first|(refine mvT ?_;conv=>whnf)|(refine mvF ?_;conv=>whnf)|(refine cT (by rfl) ?_;conv=>whnf)|(refine cF (by rfl) ?_;conv=>whnf)))
  refine ⟨_, rfl, ho3.cells, ?_⟩
  refine ⟨⟨_, rfl, ?_⟩, hx03⟩
  have ho2 := ho2.ext hx3 (by have := ho.lt; omega)
  have hs := hx0.size
  have hs2 : w.heap.size ≤ b2 := Nat.le_trans hxs.size hb2
  exact FdL.fds (cs := [[.int .i64 8, .int .i64 0, .int .i64 (-1), .int .i64 0, .int .i64 (-1), .int .i64 0, .int .i64 0, .slice none 0 0], [.int .i64 8, .int .i64 0, .int .i64 (-1), .int .i64 0, .int .i64 (-1), .int .i64 0, .int .i64 0, .slice none 0 0], [.int .i64 3, .int .i64 0, .int .i64 (-1), .int .i64 (-1), .int .i64 (-1), .int .i64 0, .int .i64 0, .slice none 0 0], [.int .i64 3, .int .i64 0, .int .i64 (-1), .int .i64 (-1), .int .i64 (-1), .int .i64 0, .int .i64 0, .slice none 0 0], [.int .i64 3, .int .i64 0, .int .i64 (-1), .int .i64 (-1), .int .i64 (-1), .int .i64 0, .int .i64 0, .slice none 0 0], [.int .i64 3, .int .i64 0, .int .i64 (-1), .int .i64 (-1), .int .i64 (-1), .int .i64 2147483647, .int .i64 0, .slice none 0 0], [.int .i64 3, .int .i64 1, .int .i64 (-1), .int .i64 (-1), .int .i64 (-1), .int .i64 0, .int .i64 0, .slice none 0 0], [.int .i64 3, .int .i64 1, .int .i64 (-1), .int .i64 (-1), .int .i64 (-1), .int .i64 0, .int .i64 0, .slice none 0 0], [.int .i64 1, .int .i64 2, .int .i64 (-1), .int .i64 (-1), .int .i64 (-1), .int .i64 0, .int .i64 0, .slice none 0 0], [.int .i64 0, .int .i64 2, .int .i64 (-1), .int .i64 (-1), .int .i64 (-1), .int .i64 0, .int .i64 0, .slice none 0 0], [.int .i64 11, .int .i64 0, .int .i64 (-1), .int .i64 (-1), .int .i64 (-1), .int .i64 0, .int .i64 10, .slice av10 lv10.length kv10], [.int .i64 11, .int .i64 0, .int .i64 (-1), .int .i64 (-1), .int .i64 (-1), .int .i64 0, .int .i64 10, .slice av11 lv11.length kv11]])
    ⟨fdLeaf _ _ _ _ _ _ _ _ _, fdLeaf _ _ _ _ _ _ _ _ _, fdLeaf _ _ _ _ _ _ _ _ _, fdLeaf _ _ _ _ _ _ _ _ _, fdLeaf _ _ _ _ _ _ _ _ _, fdLeaf _ _ _ _ _ _ _ _ _, fdLeaf _ _ _ _ _ _ _ _ _, fdLeaf _ _ _ _ _ _ _ _ _, fdLeaf _ _ _ _ _ _ _ _ _, fdLeaf _ _ _ _ _ _ _ _ _, FdC.of (FdsR.mono (FdsR.ext (FdsR.e0 hv10 hx2) hx3 fun k _ h1 h2 => by omega) fun k _ h => h.1) _ _ _ _ _ _ _, FdC.of (FdsR.mono (FdsR.ext (FdsR.e0 hv11 hx2) hx3 fun k _ h1 h2 => by omega) fun k _ h => h.1) _ _ _ _ _ _ _, trivial⟩ ho2 rfl (by decide) (by omega)
theorem dfShareFetchRequestTopicPartitionAcknowledgementBatch {w : World} {q o : Nat} {T : TypeId} {pre cur post : List Value} (ho : Own w q T (pre ++ cur ++ post)) (hp : pre.length = o) (hl : cur.length = 4) :
    Does X.P 152 #[.pointer (some ⟨q, o, none⟩)] w fun r w' => Own w' q T (pre ++ cur ++ post) ∧ Ext (fun k => k = q) w w' := by
  have hx : Ext (fun k => k = q) w w := Ext.refl _ _
  refine Does.go (X := X) (l := [_]) Tryz.func152 rfl (by kernel_rfl) (by kernel_rfl) _ rfl ?_
  ((conv=>whnf);repeat(first|(refine mvT ?_;conv=>whnf)|(refine mvF ?_;conv=>whnf)|(refine cT (by rfl) ?_;conv=>whnf)|(refine cF (by rfl) ?_;conv=>whnf)))
  exact ⟨ho, hx⟩
theorem dfShareFetchRequestTopicPartition {w : World} {q o : Nat} {T : TypeId} {pre cur post : List Value} (ho : Own w q T (pre ++ cur ++ post)) (hp : pre.length = o) (hl : cur.length = 4) :
    Does X.P 151 #[.pointer (some ⟨q, o, none⟩)] w fun r w' => Own w' q T (pre ++ cur ++ post) ∧ Ext (fun k => k = q) w w' := by
  have hx : Ext (fun k => k = q) w w := Ext.refl _ _
  refine Does.go (X := X) (l := [_]) Tryz.func151 rfl (by kernel_rfl) (by kernel_rfl) _ rfl ?_
  ((conv=>whnf);repeat(first|(refine mvT ?_;conv=>whnf)|(refine mvF ?_;conv=>whnf)|(refine cT (by rfl) ?_;conv=>whnf)|(refine cF (by rfl) ?_;conv=>whnf)))
  exact ⟨ho, hx⟩
theorem dfShareFetchRequestTopic {w : World} {q o : Nat} {T : TypeId} {pre cur post : List Value} (ho : Own w q T (pre ++ cur ++ post)) (hp : pre.length = o) (hl : cur.length = 18) :
    Does X.P 150 #[.pointer (some ⟨q, o, none⟩)] w fun r w' => Own w' q T (pre ++ cur ++ post) ∧ Ext (fun k => k = q) w w' := by
  have hx : Ext (fun k => k = q) w w := Ext.refl _ _
  refine Does.go (X := X) (l := [_]) Tryz.func150 rfl (by kernel_rfl) (by kernel_rfl) _ rfl ?_
  ((conv=>whnf);repeat(first|(refine mvT ?_;conv=>whnf)|(refine mvF ?_;conv=>whnf)|(refine cT (by rfl) ?_;conv=>whnf)|(refine cF (by rfl) ?_;conv=>whnf)))
  exact ⟨ho, hx⟩
theorem dfShareFetchRequestForgottenTopicsData {w : World} {q o : Nat} {T : TypeId} {pre cur post : List Value} (ho : Own w q T (pre ++ cur ++ post)) (hp : pre.length = o) (hl : cur.length = 18) :
    Does X.P 153 #[.pointer (some ⟨q, o, none⟩)] w fun r w' => Own w' q T (pre ++ cur ++ post) ∧ Ext (fun k => k = q) w w' := by
  have hx : Ext (fun k => k = q) w w := Ext.refl _ _
  refine Does.go (X := X) (l := [_]) Tryz.func153 rfl (by kernel_rfl) (by kernel_rfl) _ rfl ?_
  ((conv=>whnf);repeat(first|(refine mvT ?_;conv=>whnf)|(refine mvF ?_;conv=>whnf)|(refine cT (by rfl) ?_;conv=>whnf)|(refine cF (by rfl) ?_;conv=>whnf)))
  exact ⟨ho, hx⟩
theorem dfShareFetchRequest {w : World} {q o : Nat} {T : TypeId} {pre cur post : List Value} (ho : Own w q T (pre ++ cur ++ post)) (hp : pre.length = o) (hl : cur.length = 14) :
    Does X.P 103 #[.pointer (some ⟨q, o, none⟩)] w fun r w' => Own w' q T (pre ++ (cur.set 6 (.int .i32 2147483647)) ++ post) ∧ Ext (fun k => k = q) w w' := by
  have hx : Ext (fun k => k = q) w w := Ext.refl _ _
  refine Does.go (X := X) (l := [_]) Tryz.func103 rfl (by kernel_rfl) (by kernel_rfl) _ rfl ?_
  ((conv=>whnf);repeat(first|(refine mvT ?_;conv=>whnf)|(refine mvF ?_;conv=>whnf)|(refine cT (by rfl) ?_;conv=>whnf)|(refine cF (by rfl) ?_;conv=>whnf)))
  refine stm ho 6 rfl rfl hp (by omega) rfl (by first | omega | (simp only [List.length_set]; omega)) ?_
  intro w0 ho hxd
  have hx := hx.trans hxd fun _ _ h => h
  ((conv=>whnf);repeat(first|(refine mvT ?_;conv=>whnf)|(refine mvF ?_;conv=>whnf)|(refine cT (by rfl) ?_;conv=>whnf)|(refine cF (by rfl) ?_;conv=>whnf)))
  exact ⟨ho, hx⟩
theorem readShareFetchRequest {w0 : World} {F : Nat → Prop} {p : Nat} {ty : TypeId} {v : Int} {x ev : Value} {l : List UInt8} (hL : Laid w0 ev) (hp : Own w0 p ty [.int .i16 v, .pointer none, .pointer none, .int .i32 0, .int .i32 0, .int .i32 0, .int .i32 2147483647, .int .i32 0, .int .i32 0, .int .i8 0, .bool false, .slice none 0 0, .slice none 0 0, .map none]) (hx : Bytes w0 F x l) (hF : ∀ k, F k → k ≠ p) (hv : 0 ≤ v) (hp1 : p ≠ errG) :
    Does X.P 105 #[.pointer (some ⟨p, 0, none⟩), x, .bool false] w0 fun r w' => RdPost w0 p ty v (decide (v ≥ 0)) true dShareFetchRequest ev l r w' := by
  have hpl := hp.lt
  obtain ⟨fx, hfx⟩ : ∃ fx, fx = decide (v ≥ 0) := ⟨_, rfl⟩
  rw [← hfx]
  obtain ⟨G0, hG0, hx⟩ : ∃ G0 : Nat → Prop, (∀ k, G0 k → k < w0.heap.size ∧ k ≠ p) ∧ Bytes w0 G0 x l := ⟨fun k => F k ∧ k < w0.heap.size, fun k h => ⟨h.2, hF k h.1⟩, Sl.mono hx fun k hk h => ⟨h, hk⟩⟩
  obtain ⟨a0, c0, rfl, _⟩ := hx.view
  refine Does.go (X := X) (l := [_, _, _]) Tryz.func105 rfl (by kernel_rfl) (by kernel_rfl) _ rfl ?_
  ((conv=>whnf);repeat(first|(refine mvT ?_;conv=>whnf)|(refine mvF ?_;conv=>whnf)|(refine cT (by rfl) ?_;conv=>whnf)|(refine cF (by rfl) ?_;conv=>whnf)))
  refine Does.mono (dfShareFetchRequest (pre := []) (cur := [.int .i16 v, .pointer none, .pointer none, .int .i32 0, .int .i32 0, .int .i32 0, .int .i32 2147483647, .int .i32 0, .int .i32 0, .int .i8 0, .bool false, .slice none 0 0, .slice none 0 0, .map none]) (post := []) (by simpa using hp) rfl rfl) ?_
  rintro rd wd ⟨hpd, hxd⟩
  ((conv=>whnf);repeat(first|(refine mvT ?_;conv=>whnf)|(refine mvF ?_;conv=>whnf)|(refine cT (by rfl) ?_;conv=>whnf)|(refine cF (by rfl) ?_;conv=>whnf)))
  intro pb w1 hpb hb hx1
  ((conv=>whnf);repeat(first|(refine mvT ?_;conv=>whnf)|(refine mvF ?_;conv=>whnf)|(refine cT (by rfl) ?_;conv=>whnf)|(refine cF (by rfl) ?_;conv=>whnf)))
  refine st_all [.slice a0 l.length c0, .bool false] hb rfl rfl rfl ?_
  intro w hb hx2
  ((conv=>whnf);repeat(first|(refine mvT ?_;conv=>whnf)|(refine mvF ?_;conv=>whnf)|(refine cT (by rfl) ?_;conv=>whnf)|(refine cF (by rfl) ?_;conv=>whnf)))
  have hsd := hxd.size
  have hwp : w0.heap.size ≤ pb := by omega
  have he1 : Ext nob wd w := hx1.trans hx2 fun k hk h => by omega
  have hpw : Own w p ty [.int .i16 v, .pointer none, .pointer none, .int .i32 0, .int .i32 0, .int .i32 0, .int .i32 2147483647, .int .i32 0, .int .i32 0, .int .i8 0, .bool false, .slice none 0 0, .slice none 0 0, .map none] := by have := hpd.e0 he1; simpa using this
  have he := hxd.tr0 he1
  have H := St.init hpw hb (hx.ext he fun k _ h => (hG0 k h).2) hG0 he hpl hwp
  clear hpd hxd hx1 hx2 hb hpw he1 hp
  refine ldS (H.cell (o := 0) rfl (k := 0) rfl) ?_;((conv=>whnf);repeat(first|(refine mvT ?_;conv=>whnf)|(refine mvF ?_;conv=>whnf)|(refine cT (by rfl) ?_;conv=>whnf)|(refine cF (by rfl) ?_;conv=>whnf)))
  rw [← hfx]
  (refine mvB ?_;((conv=>whnf);repeat(first|(refine mvT ?_;conv=>whnf)|(refine mvF ?_;conv=>whnf)|(refine cT (by rfl) ?_;conv=>whnf)|(refine cF (by rfl) ?_;conv=>whnf))))
  have hup0 : tailBad 9 v fx dShareFetchRequest (l, false) = true → (rdPart 9 v fx dShareFetchRequest (l, false)).2.2 = true := id
  (refine mvB ?_;((conv=>whnf);repeat(first|(refine mvT ?_;conv=>whnf)|(refine mvF ?_;conv=>whnf)|(refine cT (by rfl) ?_;conv=>whnf)|(refine cF (by rfl) ?_;conv=>whnf))))
  refine VC.cutE (fun q : Value × Bool × List UInt8 × Rd => [(11, q.1), (0, .pointer (some ⟨p, 0, none⟩)), (2, .bool false), (7, .pointer (some ⟨pb, 0, none⟩)), (8, .int .i16 v), (9, .bool fx), (10, .pointer (some ⟨p, 0, none⟩))]) (fun q w' => q.1.oneCell' = true ∧ (q.2.1 = true → q.2.2.1 = []) ∧ rdNt fx (l, false) = (.mk 0 q.2.2.1 q.2.1 [] [], q.2.2.2) ∧ St w0 G0 p pb q.2.2.2 ((p, ty, [] ++ [.int .i16 v, .pointer none, .pointer none, .int .i32 0, .int .i32 0, .int .i32 0, .int .i32 2147483647, .int .i32 0, .int .i32 0, .int .i8 0, .bool false, .slice none 0 0, .slice none 0 0, .map none] ++ []) :: []) (fun w => NTf p q.1 (.mk 0 q.2.2.1 q.2.1 [] []) w ∧ (fun _ => True) w) w') ?_ ?_
  · refine cI (by rfl) (fun hc=>?_) (fun hc=>?_)
    · ((conv=>whnf);repeat(first|(refine mvT ?_;conv=>whnf)|(refine mvF ?_;conv=>whnf)|(refine cT (by rfl) ?_;conv=>whnf)|(refine cF (by rfl) ?_;conv=>whnf)))
      refine Does.mono H.ntc ?_
      rintro r w ⟨c, nl, u, s', rfl, hone, hnl, hr, H⟩
      ((conv=>whnf);repeat(first|(refine mvT ?_;conv=>whnf)|(refine mvF ?_;conv=>whnf)|(refine cT (by rfl) ?_;conv=>whnf)|(refine cF (by rfl) ?_;conv=>whnf)))
      exact ⟨(r, nl, u, s'), ⟨rfl, rfl, rfl, rfl, rfl, rfl, rfl, trivial⟩, hone, hnl, by rw [hc]; exact hr, H⟩
    · ((conv=>whnf);repeat(first|(refine mvT ?_;conv=>whnf)|(refine mvF ?_;conv=>whnf)|(refine cT (by rfl) ?_;conv=>whnf)|(refine cF (by rfl) ?_;conv=>whnf)))
      refine Does.mono H.ntp ?_
      rintro r w ⟨c, nl, u, s', rfl, hone, hnl, hr, H⟩
      ((conv=>whnf);repeat(first|(refine mvT ?_;conv=>whnf)|(refine mvF ?_;conv=>whnf)|(refine cT (by rfl) ?_;conv=>whnf)|(refine cF (by rfl) ?_;conv=>whnf)))
      exact ⟨(r, nl, u, s'), ⟨rfl, rfl, rfl, rfl, rfl, rfl, rfl, trivial⟩, hone, hnl, by rw [hc]; exact hr, H⟩
  clear H
  rintro ⟨c1, nl1, u1, s1⟩ w ⟨hone1, hnl1, hr1, H⟩
  dsimp only at hone1 hnl1 hr1 H
  ((conv=>whnf);repeat(first|(refine mvT ?_;conv=>whnf)|(refine mvF ?_;conv=>whnf)|(refine cT (by rfl) ?_;conv=>whnf)|(refine cF (by rfl) ?_;conv=>whnf)))
  obtain ⟨P2, hP2⟩ : ∃ P : World → Prop, P = fun w => NTf p c1 (.mk 0 u1 nl1 [] []) w ∧ (fun _ => True) w := ⟨_, rfl⟩
  replace H : St w0 G0 p pb s1 ((p, ty, [] ++ [.int .i16 v, .pointer none, .pointer none, .int .i32 0, .int .i32 0, .int .i32 0, .int .i32 2147483647, .int .i32 0, .int .i32 0, .int .i8 0, .bool false, .slice none 0 0, .slice none 0 0, .map none] ++ []) :: []) P2 w := by rw [hP2]; exact H
  refine H.st1 (v := c1) 1 (cells_one hone1) (hone1) rfl (by simp) rfl (Nat.lt_of_lt_of_le (Nat.lt_succ_self _) (Nat.le_of_ble_eq_true rfl)) ?_
  intro w H
  ((conv=>whnf);repeat(first|(refine mvT ?_;conv=>whnf)|(refine mvF ?_;conv=>whnf)|(refine cT (by rfl) ?_;conv=>whnf)|(refine cF (by rfl) ?_;conv=>whnf)))
  replace H : St w0 G0 p pb s1 ((p, ty, [] ++ [.int .i16 v, c1, .pointer none, .int .i32 0, .int .i32 0, .int .i32 0, .int .i32 2147483647, .int .i32 0, .int .i32 0, .int .i8 0, .bool false, .slice none 0 0, .slice none 0 0, .map none] ++ []) :: []) P2 w := H
  (refine mvB ?_;((conv=>whnf);repeat(first|(refine mvT ?_;conv=>whnf)|(refine mvF ?_;conv=>whnf)|(refine cT (by rfl) ?_;conv=>whnf)|(refine cF (by rfl) ?_;conv=>whnf))))
  refine VC.cutE (fun q : Value × Bool × List UInt8 × Rd => [(12, q.1), (0, .pointer (some ⟨p, 0, none⟩)), (2, .bool false), (7, .pointer (some ⟨pb, 0, none⟩)), (8, .int .i16 v), (9, .bool fx), (10, .pointer (some ⟨p, 0, none⟩))]) (fun q w' => q.1.oneCell' = true ∧ (q.2.1 = true → q.2.2.1 = []) ∧ rdNt fx s1 = (.mk 0 q.2.2.1 q.2.1 [] [], q.2.2.2) ∧ St w0 G0 p pb q.2.2.2 ((p, ty, [] ++ [.int .i16 v, c1, .pointer none, .int .i32 0, .int .i32 0, .int .i32 0, .int .i32 2147483647, .int .i32 0, .int .i32 0, .int .i8 0, .bool false, .slice none 0 0, .slice none 0 0, .map none] ++ []) :: []) (fun w => NTf p q.1 (.mk 0 q.2.2.1 q.2.1 [] []) w ∧ P2 w) w') ?_ ?_
  · refine cI (by rfl) (fun hc=>?_) (fun hc=>?_)
    · ((conv=>whnf);repeat(first|(refine mvT ?_;conv=>whnf)|(refine mvF ?_;conv=>whnf)|(refine cT (by rfl) ?_;conv=>whnf)|(refine cF (by rfl) ?_;conv=>whnf)))
      refine Does.mono H.ntc ?_
      rintro r w ⟨c, nl, u, s', rfl, hone, hnl, hr, H⟩
      ((conv=>whnf);repeat(first|(refine mvT ?_;conv=>whnf)|(refine mvF ?_;conv=>whnf)|(refine cT (by rfl) ?_;conv=>whnf)|(refine cF (by rfl) ?_;conv=>whnf)))
      exact ⟨(r, nl, u, s'), ⟨rfl, rfl, rfl, rfl, rfl, rfl, rfl, trivial⟩, hone, hnl, by rw [hc]; exact hr, H⟩
    · ((conv=>whnf);repeat(first|(refine mvT ?_;conv=>whnf)|(refine mvF ?_;conv=>whnf)|(refine cT (by rfl) ?_;conv=>whnf)|(refine cF (by rfl) ?_;conv=>whnf)))
      refine Does.mono H.ntp ?_
      rintro r w ⟨c, nl, u, s', rfl, hone, hnl, hr, H⟩
      ((conv=>whnf);repeat(first|(refine mvT ?_;conv=>whnf)|(refine mvF ?_;conv=>whnf)|(refine cT (by rfl) ?_;conv=>whnf)|(refine cF (by rfl) ?_;conv=>whnf)))
      exact ⟨(r, nl, u, s'), ⟨rfl, rfl, rfl, rfl, rfl, rfl, rfl, trivial⟩, hone, hnl, by rw [hc]; exact hr, H⟩
  clear H
  rintro ⟨c4, nl4, u4, s4⟩ w ⟨hone4, hnl4, hr4, H⟩
  dsimp only at hone4 hnl4 hr4 H
  ((conv=>whnf);repeat(first|(refine mvT ?_;conv=>whnf)|(refine mvF ?_;conv=>whnf)|(refine cT (by rfl) ?_;conv=>whnf)|(refine cF (by rfl) ?_;conv=>whnf)))
  obtain ⟨P5, hP5⟩ : ∃ P : World → Prop, P = fun w => NTf p c4 (.mk 0 u4 nl4 [] []) w ∧ P2 w := ⟨_, rfl⟩
  replace H : St w0 G0 p pb s4 ((p, ty, [] ++ [.int .i16 v, c1, .pointer none, .int .i32 0, .int .i32 0, .int .i32 0, .int .i32 2147483647, .int .i32 0, .int .i32 0, .int .i8 0, .bool false, .slice none 0 0, .slice none 0 0, .map none] ++ []) :: []) P5 w := by rw [hP5]; exact H
  refine H.st1 (v := c4) 2 (cells_one hone4) (hone4) rfl (by simp) rfl (Nat.lt_of_lt_of_le (Nat.lt_succ_self _) (Nat.le_of_ble_eq_true rfl)) ?_
  intro w H
  ((conv=>whnf);repeat(first|(refine mvT ?_;conv=>whnf)|(refine mvF ?_;conv=>whnf)|(refine cT (by rfl) ?_;conv=>whnf)|(refine cF (by rfl) ?_;conv=>whnf)))
  replace H : St w0 G0 p pb s4 ((p, ty, [] ++ [.int .i16 v, c1, c4, .int .i32 0, .int .i32 0, .int .i32 0, .int .i32 2147483647, .int .i32 0, .int .i32 0, .int .i8 0, .bool false, .slice none 0 0, .slice none 0 0, .map none] ++ []) :: []) P5 w := H
  refine Does.mono H.int32 ?_
  rintro r w ⟨n7, s7, rfl, hn7, hr7, H⟩
  ((conv=>whnf);repeat(first|(refine mvT ?_;conv=>whnf)|(refine mvF ?_;conv=>whnf)|(refine cT (by rfl) ?_;conv=>whnf)|(refine cF (by rfl) ?_;conv=>whnf)))
  refine H.st1 (v := .int .i32 n7) 3 (rfl) (rfl) rfl (by simp) rfl (Nat.lt_of_lt_of_le (Nat.lt_succ_self _) (Nat.le_of_ble_eq_true rfl)) ?_
  intro w H
  ((conv=>whnf);repeat(first|(refine mvT ?_;conv=>whnf)|(refine mvF ?_;conv=>whnf)|(refine cT (by rfl) ?_;conv=>whnf)|(refine cF (by rfl) ?_;conv=>whnf)))
  replace H : St w0 G0 p pb s7 ((p, ty, [] ++ [.int .i16 v, c1, c4, .int .i32 n7, .int .i32 0, .int .i32 0, .int .i32 2147483647, .int .i32 0, .int .i32 0, .int .i8 0, .bool false, .slice none 0 0, .slice none 0 0, .map none] ++ []) :: []) P5 w := H
  refine Does.mono H.int32 ?_
  rintro r w ⟨n9, s9, rfl, hn9, hr9, H⟩
  ((conv=>whnf);repeat(first|(refine mvT ?_;conv=>whnf)|(refine mvF ?_;conv=>whnf)|(refine cT (by rfl) ?_;conv=>whnf)|(refine cF (by rfl) ?_;conv=>whnf)))
  refine H.st1 (v := .int .i32 n9) 4 (rfl) (rfl) rfl (by simp) rfl (Nat.lt_of_lt_of_le (Nat.lt_succ_self _) (Nat.le_of_ble_eq_true rfl)) ?_
  intro w H
  ((conv=>whnf);repeat(first|(refine mvT ?_;conv=>whnf)|(refine mvF ?_;conv=>whnf)|(refine cT (by rfl) ?_;conv=>whnf)|(refine cF (by rfl) ?_;conv=>whnf)))
  replace H : St w0 G0 p pb s9 ((p, ty, [] ++ [.int .i16 v, c1, c4, .int .i32 n7, .int .i32 n9, .int .i32 0, .int .i32 2147483647, .int .i32 0, .int .i32 0, .int .i8 0, .bool false, .slice none 0 0, .slice none 0 0, .map none] ++ []) :: []) P5 w := H
  refine Does.mono H.int32 ?_
  rintro r w ⟨n11, s11, rfl, hn11, hr11, H⟩
  ((conv=>whnf);repeat(first|(refine mvT ?_;conv=>whnf)|(refine mvF ?_;conv=>whnf)|(refine cT (by rfl) ?_;conv=>whnf)|(refine cF (by rfl) ?_;conv=>whnf)))
  refine H.st1 (v := .int .i32 n11) 5 (rfl) (rfl) rfl (by simp) rfl (Nat.lt_of_lt_of_le (Nat.lt_succ_self _) (Nat.le_of_ble_eq_true rfl)) ?_
  intro w H
  ((conv=>whnf);repeat(first|(refine mvT ?_;conv=>whnf)|(refine mvF ?_;conv=>whnf)|(refine cT (by rfl) ?_;conv=>whnf)|(refine cF (by rfl) ?_;conv=>whnf)))
  replace H : St w0 G0 p pb s11 ((p, ty, [] ++ [.int .i16 v, c1, c4, .int .i32 n7, .int .i32 n9, .int .i32 n11, .int .i32 2147483647, .int .i32 0, .int .i32 0, .int .i8 0, .bool false, .slice none 0 0, .slice none 0 0, .map none] ++ []) :: []) P5 w := H
  refine Does.mono H.int32 ?_
  rintro r w ⟨n13, s13, rfl, hn13, hr13, H⟩
  ((conv=>whnf);repeat(first|(refine mvT ?_;conv=>whnf)|(refine mvF ?_;conv=>whnf)|(refine cT (by rfl) ?_;conv=>whnf)|(refine cF (by rfl) ?_;conv=>whnf)))
  refine H.st1 (v := .int .i32 n13) 6 (rfl) (rfl) rfl (by simp) rfl (Nat.lt_of_lt_of_le (Nat.lt_succ_self _) (Nat.le_of_ble_eq_true rfl)) ?_
  intro w H
  ((conv=>whnf);repeat(first|(refine mvT ?_;conv=>whnf)|(refine mvF ?_;conv=>whnf)|(refine cT (by rfl) ?_;conv=>whnf)|(refine cF (by rfl) ?_;conv=>whnf)))
  replace H : St w0 G0 p pb s13 ((p, ty, [] ++ [.int .i16 v, c1, c4, .int .i32 n7, .int .i32 n9, .int .i32 n11, .int .i32 n13, .int .i32 0, .int .i32 0, .int .i8 0, .bool false, .slice none 0 0, .slice none 0 0, .map none] ++ []) :: []) P5 w := H
  refine VC.cutE (fun q : Int × Rd => [(0, .pointer (some ⟨p, 0, none⟩)), (2, .bool false), (7, .pointer (some ⟨pb, 0, none⟩)), (8, .int .i16 v), (9, .bool fx), (10, .pointer (some ⟨p, 0, none⟩))]) (fun q w' => IntKind.i32.wrap q.1 = q.1 ∧ (if hasF (.mk 3 1 (-1) (-1) (-1) 0 0 []) v = true then rdField 9 v fx (.mk 3 1 (-1) (-1) (-1) 0 0 []) s13 else (dfT 9 (.mk 3 1 (-1) (-1) (-1) 0 0 []), s13)) = (numT q.1, q.2) ∧ St w0 G0 p pb q.2 ((p, ty, [] ++ [.int .i16 v, c1, c4, .int .i32 n7, .int .i32 n9, .int .i32 n11, .int .i32 n13, .int .i32 q.1, .int .i32 0, .int .i8 0, .bool false, .slice none 0 0, .slice none 0 0, .map none] ++ []) :: []) P5 w') ?_ ?_
  · refine cI (by rfl) (fun hcv=>?_) (fun hcv=>?_)
    · ((conv=>whnf);repeat(first|(refine mvT ?_;conv=>whnf)|(refine mvF ?_;conv=>whnf)|(refine cT (by rfl) ?_;conv=>whnf)|(refine cF (by rfl) ?_;conv=>whnf)))
      refine Does.mono H.int32 ?_
      rintro r w ⟨n16, s16, rfl, hn16, hr16, H⟩
      ((conv=>whnf);repeat(first|(refine mvT ?_;conv=>whnf)|(refine mvF ?_;conv=>whnf)|(refine cT (by rfl) ?_;conv=>whnf)|(refine cF (by rfl) ?_;conv=>whnf)))
      refine H.st1 (v := .int .i32 n16) 7 (rfl) (rfl) rfl (by simp) rfl (Nat.lt_of_lt_of_le (Nat.lt_succ_self _) (Nat.le_of_ble_eq_true rfl)) ?_
      intro w H
      ((conv=>whnf);repeat(first|(refine mvT ?_;conv=>whnf)|(refine mvF ?_;conv=>whnf)|(refine cT (by rfl) ?_;conv=>whnf)|(refine cF (by rfl) ?_;conv=>whnf)))
      replace H : St w0 G0 p pb s16 ((p, ty, [] ++ [.int .i16 v, c1, c4, .int .i32 n7, .int .i32 n9, .int .i32 n11, .int .i32 n13, .int .i32 n16, .int .i32 0, .int .i8 0, .bool false, .slice none 0 0, .slice none 0 0, .map none] ++ []) :: []) P5 w := H
      have hh : hasF (.mk 3 1 (-1) (-1) (-1) 0 0 []) v = true := by have := of_decide_eq_true hcv; rw [hasF_iff]; omega
      exact ⟨(n16, s16), ⟨rfl, rfl, rfl, rfl, rfl, rfl, trivial⟩, hn16, by rw [if_pos hh]; exact (rdField3.trans hr16), H⟩
    · ((conv=>whnf);repeat(first|(refine mvT ?_;conv=>whnf)|(refine mvF ?_;conv=>whnf)|(refine cT (by rfl) ?_;conv=>whnf)|(refine cF (by rfl) ?_;conv=>whnf)))
      have hh : ¬ hasF (.mk 3 1 (-1) (-1) (-1) 0 0 []) v = true := by have := of_decide_eq_false hcv; rw [hasF_iff]; omega
      exact ⟨(0, s13), ⟨rfl, rfl, rfl, rfl, rfl, rfl, trivial⟩, rfl, by rw [if_neg hh]; rfl, H⟩
  clear H
  rintro ⟨n15, s15⟩ w ⟨hn15, hr15, H⟩
  dsimp only at hn15 hr15 H
  ((conv=>whnf);repeat(first|(refine mvT ?_;conv=>whnf)|(refine mvF ?_;conv=>whnf)|(refine cT (by rfl) ?_;conv=>whnf)|(refine cF (by rfl) ?_;conv=>whnf)))
  replace H : St w0 G0 p pb s15 ((p, ty, [] ++ [.int .i16 v, c1, c4, .int .i32 n7, .int .i32 n9, .int .i32 n11, .int .i32 n13, .int .i32 n15, .int .i32 0, .int .i8 0, .bool false, .slice none 0 0, .slice none 0 0, .map none] ++ []) :: []) P5 w := H
  refine VC.cutE (fun q : Int × Rd => [(0, .pointer (some ⟨p, 0, none⟩)), (2, .bool false), (7, .pointer (some ⟨pb, 0, none⟩)), (8, .int .i16 v), (9, .bool fx), (10, .pointer (some ⟨p, 0, none⟩))]) (fun q w' => IntKind.i32.wrap q.1 = q.1 ∧ (if hasF (.mk 3 1 (-1) (-1) (-1) 0 0 []) v = true then rdField 9 v fx (.mk 3 1 (-1) (-1) (-1) 0 0 []) s15 else (dfT 9 (.mk 3 1 (-1) (-1) (-1) 0 0 []), s15)) = (numT q.1, q.2) ∧ St w0 G0 p pb q.2 ((p, ty, [] ++ [.int .i16 v, c1, c4, .int .i32 n7, .int .i32 n9, .int .i32 n11, .int .i32 n13, .int .i32 n15, .int .i32 q.1, .int .i8 0, .bool false, .slice none 0 0, .slice none 0 0, .map none] ++ []) :: []) P5 w') ?_ ?_
  · refine cI (by rfl) (fun hcv=>?_) (fun hcv=>?_)
    · ((conv=>whnf);repeat(first|(refine mvT ?_;conv=>whnf)|(refine mvF ?_;conv=>whnf)|(refine cT (by rfl) ?_;conv=>whnf)|(refine cF (by rfl) ?_;conv=>whnf)))
      refine Does.mono H.int32 ?_
      rintro r w ⟨n19, s19, rfl, hn19, hr19, H⟩
      ((conv=>whnf);repeat(first|(refine mvT ?_;conv=>whnf)|(refine mvF ?_;conv=>whnf)|(refine cT (by rfl) ?_;conv=>whnf)|(refine cF (by rfl) ?_;conv=>whnf)))
      refine H.st1 (v := .int .i32 n19) 8 (rfl) (rfl) rfl (by simp) rfl (Nat.lt_of_lt_of_le (Nat.lt_succ_self _) (Nat.le_of_ble_eq_true rfl)) ?_
      intro w H
      ((conv=>whnf);repeat(first|(refine mvT ?_;conv=>whnf)|(refine mvF ?_;conv=>whnf)|(refine cT (by rfl) ?_;conv=>whnf)|(refine cF (by rfl) ?_;conv=>whnf)))
      replace H : St w0 G0 p pb s19 ((p, ty, [] ++ [.int .i16 v, c1, c4, .int .i32 n7, .int .i32 n9, .int .i32 n11, .int .i32 n13, .int .i32 n15, .int .i32 n19, .int .i8 0, .bool false, .slice none 0 0, .slice none 0 0, .map none] ++ []) :: []) P5 w := H
      have hh : hasF (.mk 3 1 (-1) (-1) (-1) 0 0 []) v = true := by have := of_decide_eq_true hcv; rw [hasF_iff]; omega
      exact ⟨(n19, s19), ⟨rfl, rfl, rfl, rfl, rfl, rfl, trivial⟩, hn19, by rw [if_pos hh]; exact (rdField3.trans hr19), H⟩
    · ((conv=>whnf);repeat(first|(refine mvT ?_;conv=>whnf)|(refine mvF ?_;conv=>whnf)|(refine cT (by rfl) ?_;conv=>whnf)|(refine cF (by rfl) ?_;conv=>whnf)))
      have hh : ¬ hasF (.mk 3 1 (-1) (-1) (-1) 0 0 []) v = true := by have := of_decide_eq_false hcv; rw [hasF_iff]; omega
      exact ⟨(0, s15), ⟨rfl, rfl, rfl, rfl, rfl, rfl, trivial⟩, rfl, by rw [if_neg hh]; rfl, H⟩
  clear H
  rintro ⟨n18, s18⟩ w ⟨hn18, hr18, H⟩
  dsimp only at hn18 hr18 H
  ((conv=>whnf);repeat(first|(refine mvT ?_;conv=>whnf)|(refine mvF ?_;conv=>whnf)|(refine cT (by rfl) ?_;conv=>whnf)|(refine cF (by rfl) ?_;conv=>whnf)))
  replace H : St w0 G0 p pb s18 ((p, ty, [] ++ [.int .i16 v, c1, c4, .int .i32 n7, .int .i32 n9, .int .i32 n11, .int .i32 n13, .int .i32 n15, .int .i32 n18, .int .i8 0, .bool false, .slice none 0 0, .slice none 0 0, .map none] ++ []) :: []) P5 w := H
  refine VC.cutE (fun q : Int × Rd => [(0, .pointer (some ⟨p, 0, none⟩)), (2, .bool false), (7, .pointer (some ⟨pb, 0, none⟩)), (8, .int .i16 v), (9, .bool fx), (10, .pointer (some ⟨p, 0, none⟩))]) (fun q w' => IntKind.i8.wrap q.1 = q.1 ∧ (if hasF (.mk 1 2 (-1) (-1) (-1) 0 0 []) v = true then rdField 9 v fx (.mk 1 2 (-1) (-1) (-1) 0 0 []) s18 else (dfT 9 (.mk 1 2 (-1) (-1) (-1) 0 0 []), s18)) = (numT q.1, q.2) ∧ St w0 G0 p pb q.2 ((p, ty, [] ++ [.int .i16 v, c1, c4, .int .i32 n7, .int .i32 n9, .int .i32 n11, .int .i32 n13, .int .i32 n15, .int .i32 n18, .int .i8 q.1, .bool false, .slice none 0 0, .slice none 0 0, .map none] ++ []) :: []) P5 w') ?_ ?_
  · refine cI (by rfl) (fun hcv=>?_) (fun hcv=>?_)
    · ((conv=>whnf);repeat(first|(refine mvT ?_;conv=>whnf)|(refine mvF ?_;conv=>whnf)|(refine cT (by rfl) ?_;conv=>whnf)|(refine cF (by rfl) ?_;conv=>whnf)))
      refine Does.mono H.int8 ?_
      rintro r w ⟨n22, s22, rfl, hn22, hr22, H⟩
      ((conv=>whnf);repeat(first|(refine mvT ?_;conv=>whnf)|(refine mvF ?_;conv=>whnf)|(refine cT (by rfl) ?_;conv=>whnf)|(refine cF (by rfl) ?_;conv=>whnf)))
      refine H.st1 (v := .int .i8 n22) 9 (rfl) (rfl) rfl (by simp) rfl (Nat.lt_of_lt_of_le (Nat.lt_succ_self _) (Nat.le_of_ble_eq_true rfl)) ?_
      intro w H
      ((conv=>whnf);repeat(first|(refine mvT ?_;conv=>whnf)|(refine mvF ?_;conv=>whnf)|(refine cT (by rfl) ?_;conv=>whnf)|(refine cF (by rfl) ?_;conv=>whnf)))
      replace H : St w0 G0 p pb s22 ((p, ty, [] ++ [.int .i16 v, c1, c4, .int .i32 n7, .int .i32 n9, .int .i32 n11, .int .i32 n13, .int .i32 n15, .int .i32 n18, .int .i8 n22, .bool false, .slice none 0 0, .slice none 0 0, .map none] ++ []) :: []) P5 w := H
      have hh : hasF (.mk 1 2 (-1) (-1) (-1) 0 0 []) v = true := by have := of_decide_eq_true hcv; rw [hasF_iff]; omega
      exact ⟨(n22, s22), ⟨rfl, rfl, rfl, rfl, rfl, rfl, trivial⟩, hn22, by rw [if_pos hh]; exact (rdField1.trans hr22), H⟩
    · ((conv=>whnf);repeat(first|(refine mvT ?_;conv=>whnf)|(refine mvF ?_;conv=>whnf)|(refine cT (by rfl) ?_;conv=>whnf)|(refine cF (by rfl) ?_;conv=>whnf)))
      have hh : ¬ hasF (.mk 1 2 (-1) (-1) (-1) 0 0 []) v = true := by have := of_decide_eq_false hcv; rw [hasF_iff]; omega
      exact ⟨(0, s18), ⟨rfl, rfl, rfl, rfl, rfl, rfl, trivial⟩, rfl, by rw [if_neg hh]; rfl, H⟩
  clear H
  rintro ⟨n21, s21⟩ w ⟨hn21, hr21, H⟩
  dsimp only at hn21 hr21 H
  ((conv=>whnf);repeat(first|(refine mvT ?_;conv=>whnf)|(refine mvF ?_;conv=>whnf)|(refine cT (by rfl) ?_;conv=>whnf)|(refine cF (by rfl) ?_;conv=>whnf)))
  replace H : St w0 G0 p pb s21 ((p, ty, [] ++ [.int .i16 v, c1, c4, .int .i32 n7, .int .i32 n9, .int .i32 n11, .int .i32 n13, .int .i32 n15, .int .i32 n18, .int .i8 n21, .bool false, .slice none 0 0, .slice none 0 0, .map none] ++ []) :: []) P5 w := H
  refine VC.cutE (fun q : Bool × Rd => [(0, .pointer (some ⟨p, 0, none⟩)), (2, .bool false), (7, .pointer (some ⟨pb, 0, none⟩)), (8, .int .i16 v), (9, .bool fx), (10, .pointer (some ⟨p, 0, none⟩))]) (fun q w' => (if hasF (.mk 0 2 (-1) (-1) (-1) 0 0 []) v = true then rdField 9 v fx (.mk 0 2 (-1) (-1) (-1) 0 0 []) s21 else (dfT 9 (.mk 0 2 (-1) (-1) (-1) 0 0 []), s21)) = (numT (if q.1 = true then 1 else 0), q.2) ∧ St w0 G0 p pb q.2 ((p, ty, [] ++ [.int .i16 v, c1, c4, .int .i32 n7, .int .i32 n9, .int .i32 n11, .int .i32 n13, .int .i32 n15, .int .i32 n18, .int .i8 n21, .bool q.1, .slice none 0 0, .slice none 0 0, .map none] ++ []) :: []) P5 w') ?_ ?_
  · refine cI (by rfl) (fun hcv=>?_) (fun hcv=>?_)
    · ((conv=>whnf);repeat(first|(refine mvT ?_;conv=>whnf)|(refine mvF ?_;conv=>whnf)|(refine cT (by rfl) ?_;conv=>whnf)|(refine cF (by rfl) ?_;conv=>whnf)))
      refine Does.mono H.bool ?_
      rintro r w ⟨b25, s25, rfl, hr25, H⟩
      ((conv=>whnf);repeat(first|(refine mvT ?_;conv=>whnf)|(refine mvF ?_;conv=>whnf)|(refine cT (by rfl) ?_;conv=>whnf)|(refine cF (by rfl) ?_;conv=>whnf)))
      (refine mvB ?_;((conv=>whnf);repeat(first|(refine mvT ?_;conv=>whnf)|(refine mvF ?_;conv=>whnf)|(refine cT (by rfl) ?_;conv=>whnf)|(refine cF (by rfl) ?_;conv=>whnf))))
      refine H.st1 (v := .bool b25) 10 (rfl) (rfl) rfl (by simp) rfl (Nat.lt_of_lt_of_le (Nat.lt_succ_self _) (Nat.le_of_ble_eq_true rfl)) ?_
      intro w H
      ((conv=>whnf);repeat(first|(refine mvT ?_;conv=>whnf)|(refine mvF ?_;conv=>whnf)|(refine cT (by rfl) ?_;conv=>whnf)|(refine cF (by rfl) ?_;conv=>whnf)))
      replace H : St w0 G0 p pb s25 ((p, ty, [] ++ [.int .i16 v, c1, c4, .int .i32 n7, .int .i32 n9, .int .i32 n11, .int .i32 n13, .int .i32 n15, .int .i32 n18, .int .i8 n21, .bool b25, .slice none 0 0, .slice none 0 0, .map none] ++ []) :: []) P5 w := H
      have hh : hasF (.mk 0 2 (-1) (-1) (-1) 0 0 []) v = true := by have := of_decide_eq_true hcv; rw [hasF_iff]; omega
      exact ⟨(b25, s25), ⟨rfl, rfl, rfl, rfl, rfl, rfl, trivial⟩, by rw [if_pos hh]; exact (rdField0.trans hr25), H⟩
    · ((conv=>whnf);repeat(first|(refine mvT ?_;conv=>whnf)|(refine mvF ?_;conv=>whnf)|(refine cT (by rfl) ?_;conv=>whnf)|(refine cF (by rfl) ?_;conv=>whnf)))
      have hh : ¬ hasF (.mk 0 2 (-1) (-1) (-1) 0 0 []) v = true := by have := of_decide_eq_false hcv; rw [hasF_iff]; omega
      exact ⟨(false, s21), ⟨rfl, rfl, rfl, rfl, rfl, rfl, trivial⟩, by rw [if_neg hh]; rfl, H⟩
  clear H
  rintro ⟨n24, s24⟩ w ⟨hr24, H⟩
  dsimp only at hr24 H
  ((conv=>whnf);repeat(first|(refine mvT ?_;conv=>whnf)|(refine mvF ?_;conv=>whnf)|(refine cT (by rfl) ?_;conv=>whnf)|(refine cF (by rfl) ?_;conv=>whnf)))
  replace H : St w0 G0 p pb s24 ((p, ty, [] ++ [.int .i16 v, c1, c4, .int .i32 n7, .int .i32 n9, .int .i32 n11, .int .i32 n13, .int .i32 n15, .int .i32 n18, .int .i8 n21, .bool n24, .slice none 0 0, .slice none 0 0, .map none] ++ []) :: []) P5 w := H
  refine ldS (H.cell (o := 0) rfl (k := 11) rfl) ?_;((conv=>whnf);repeat(first|(refine mvT ?_;conv=>whnf)|(refine mvF ?_;conv=>whnf)|(refine cT (by rfl) ?_;conv=>whnf)|(refine cF (by rfl) ?_;conv=>whnf)))
  (refine mvB ?_;((conv=>whnf);repeat(first|(refine mvT ?_;conv=>whnf)|(refine mvF ?_;conv=>whnf)|(refine cT (by rfl) ?_;conv=>whnf)|(refine cF (by rfl) ?_;conv=>whnf))))
  refine VC.cutE (fun q : Int × Rd => [(23, .int .i32 q.1), (22, .slice none 0 0), (0, .pointer (some ⟨p, 0, none⟩)), (2, .bool false), (7, .pointer (some ⟨pb, 0, none⟩)), (8, .int .i16 v), (9, .bool fx), (10, .pointer (some ⟨p, 0, none⟩))]) (fun q w' => (-2147483648 ≤ q.1 ∧ q.1 ≤ 2147483647) ∧ rdLn fx s24 = q ∧ St w0 G0 p pb q.2 ((p, ty, [] ++ [.int .i16 v, c1, c4, .int .i32 n7, .int .i32 n9, .int .i32 n11, .int .i32 n13, .int .i32 n15, .int .i32 n18, .int .i8 n21, .bool n24, .slice none 0 0, .slice none 0 0, .map none] ++ []) :: []) P5 w') ?_ ?_
  · refine cI (by rfl) (fun hc=>?_) (fun hc=>?_)
    · ((conv=>whnf);repeat(first|(refine mvT ?_;conv=>whnf)|(refine mvF ?_;conv=>whnf)|(refine cT (by rfl) ?_;conv=>whnf)|(refine cF (by rfl) ?_;conv=>whnf)))
      refine Does.mono H.lnc ?_
      rintro r w ⟨n, s', rfl, hn, hr, H⟩
      ((conv=>whnf);repeat(first|(refine mvT ?_;conv=>whnf)|(refine mvF ?_;conv=>whnf)|(refine cT (by rfl) ?_;conv=>whnf)|(refine cF (by rfl) ?_;conv=>whnf)))
      exact ⟨(n, s'), ⟨rfl, rfl, rfl, rfl, rfl, rfl, rfl, rfl, trivial⟩, hn, by rw [hc]; exact hr, H⟩
    · ((conv=>whnf);repeat(first|(refine mvT ?_;conv=>whnf)|(refine mvF ?_;conv=>whnf)|(refine cT (by rfl) ?_;conv=>whnf)|(refine cF (by rfl) ?_;conv=>whnf)))
      refine Does.mono H.lnp ?_
      rintro r w ⟨n, s', rfl, hn, hr, H⟩
      ((conv=>whnf);repeat(first|(refine mvT ?_;conv=>whnf)|(refine mvF ?_;conv=>whnf)|(refine cT (by rfl) ?_;conv=>whnf)|(refine cF (by rfl) ?_;conv=>whnf)))
      exact ⟨(n, s'), ⟨rfl, rfl, rfl, rfl, rfl, rfl, rfl, rfl, trivial⟩, hn, by rw [hc]; exact hr, H⟩
  clear H
  rintro ⟨n27, s27⟩ w ⟨hn27, hln27, H⟩
  dsimp only at hn27 hln27 H
  ((conv=>whnf);repeat(first|(refine mvT ?_;conv=>whnf)|(refine mvF ?_;conv=>whnf)|(refine cT (by rfl) ?_;conv=>whnf)|(refine cF (by rfl) ?_;conv=>whnf)))
  refine Does.mono H.ok ?_
  rintro r w ⟨rfl, H⟩
  ((conv=>whnf);repeat(first|(refine mvT ?_;conv=>whnf)|(refine mvF ?_;conv=>whnf)|(refine cT (by rfl) ?_;conv=>whnf)|(refine cF (by rfl) ?_;conv=>whnf)))
  refine cI (by rfl) (fun hbd=>?_) (fun hbd=>?_)
  · have hbd : s27.2 = true := by simpa using hbd
    ((conv=>whnf);repeat(first|(refine mvT ?_;conv=>whnf)|(refine mvF ?_;conv=>whnf)|(refine cT (by rfl) ?_;conv=>whnf)|(refine cF (by rfl) ?_;conv=>whnf)))
    refine Does.mono (H.done hL hp1) ?_
    rintro r w ⟨rfl, H⟩
    ((conv=>whnf);repeat(first|(refine mvT ?_;conv=>whnf)|(refine mvF ?_;conv=>whnf)|(refine cT (by rfl) ?_;conv=>whnf)|(refine cF (by rfl) ?_;conv=>whnf)))
    refine RdPost.early hbd (hup0 (?_)) H
    rw [tail_yes ((rdField8n (by decide)).trans hr1) ⟨by decide, has_all hv⟩, tail_yes ((rdField8n (by decide)).trans hr4) ⟨by decide, has_all hv⟩, tail_yes (rdField3.trans hr7) ⟨by decide, has_all hv⟩, tail_yes (rdField3.trans hr9) ⟨by decide, has_all hv⟩, tail_yes (rdField3.trans hr11) ⟨by decide, has_all hv⟩, tail_yes (rdField3.trans hr13) ⟨by decide, has_all hv⟩, tail_ver hr15 (by decide), tail_ver hr18 (by decide), tail_ver hr21 (by decide), tail_ver hr24 (by decide), tail_len ⟨by decide, has_all hv⟩ hln27 hbd]
  have hbd : s27.2 = false := by simpa using hbd
  clear hbd
  ((conv=>whnf);repeat(first|(refine mvT ?_;conv=>whnf)|(refine mvF ?_;conv=>whnf)|(refine cT (by rfl) ?_;conv=>whnf)|(refine cF (by rfl) ?_;conv=>whnf)))
  refine cut_zero ?_
  ((conv=>whnf);repeat(first|(refine mvT ?_;conv=>whnf)|(refine mvF ?_;conv=>whnf)|(refine cT (by rfl) ?_;conv=>whnf)|(refine cF (by rfl) ?_;conv=>whnf)))
  refine VC.cutE (fun a : Value => [(23, .int .i32 n27), (22, a), (0, .pointer (some ⟨p, 0, none⟩)), (2, .bool false), (7, .pointer (some ⟨pb, 0, none⟩)), (8, .int .i16 v), (9, .bool fx), (10, .pointer (some ⟨p, 0, none⟩))]) (fun a w' => ListI w0 G0 p pb 148 [.int .u8 0, .int .u8 0, .int .u8 0, .int .u8 0, .int .u8 0, .int .u8 0, .int .u8 0, .int .u8 0, .int .u8 0, .int .u8 0, .int .u8 0, .int .u8 0, .int .u8 0, .int .u8 0, .int .u8 0, .int .u8 0, .slice none 0 0, .map none] (elR 8 v fx 10 dShareFetchRequestTopic) (elQ true 8 10 dShareFetchRequestTopic) s27 n27 (decide (n27 ≤ 0)) ((p, ty, [] ++ [.int .i16 v, c1, c4, .int .i32 n7, .int .i32 n9, .int .i32 n11, .int .i32 n13, .int .i32 n15, .int .i32 n18, .int .i8 n21, .bool n24, .slice none 0 0, .slice none 0 0, .map none] ++ []) :: []) P5 a 0 w') ?_ ?_
  · refine cI (by rfl) (fun hps=>?_) (fun hps=>?_)
    · have hps : 0 < n27 := by have := of_decide_eq_true hps; omega
      ((conv=>whnf);repeat(first|(refine mvT ?_;conv=>whnf)|(refine mvF ?_;conv=>whnf)|(refine cT (by rfl) ?_;conv=>whnf)|(refine cF (by rfl) ?_;conv=>whnf)))
      refine H.grow hps hn27.2 (by decide) rfl rfl (by decide) ?_
      intro g cap post w hc1 hc2 H
      ((conv=>whnf);repeat(first|(refine mvT ?_;conv=>whnf)|(refine mvF ?_;conv=>whnf)|(refine cT (by rfl) ?_;conv=>whnf)|(refine cF (by rfl) ?_;conv=>whnf)))
      exact ⟨_, ⟨rfl, rfl, rfl, rfl, rfl, rfl, rfl, rfl, trivial⟩, ListI.some hps (decide_eq_false (by omega)) hc1 hc2 H⟩
    · have hps : n27 ≤ 0 := by have := of_decide_eq_false hps; omega
      ((conv=>whnf);repeat(first|(refine mvT ?_;conv=>whnf)|(refine mvF ?_;conv=>whnf)|(refine cT (by rfl) ?_;conv=>whnf)|(refine cF (by rfl) ?_;conv=>whnf)))
      exact ⟨_, ⟨rfl, rfl, rfl, rfl, rfl, rfl, rfl, rfl, trivial⟩, ListI.none hps (decide_eq_true hps) H⟩
  clear H
  rintro a27 w H
  ((conv=>whnf);repeat(first|(refine mvT ?_;conv=>whnf)|(refine mvF ?_;conv=>whnf)|(refine cT (by rfl) ?_;conv=>whnf)|(refine cF (by rfl) ?_;conv=>whnf)))
  have hpL27 : inL ((p, ty, [] ++ [.int .i16 v, c1, c4, .int .i32 n7, .int .i32 n9, .int .i32 n11, .int .i32 n13, .int .i32 n15, .int .i32 n18, .int .i8 n21, .bool n24, .slice none 0 0, .slice none 0 0, .map none] ++ []) :: []) p := inL.head _ _
  refine VL.loop (fun i : Nat => [(23, .int .i32 n27), (22, a27), (24, .int .i32 i), (0, .pointer (some ⟨p, 0, none⟩)), (2, .bool false), (7, .pointer (some ⟨pb, 0, none⟩)), (8, .int .i16 v), (9, .bool fx), (10, .pointer (some ⟨p, 0, none⟩))]) (fun i w' => i ≤ 2147483647 ∧ ListI w0 G0 p pb 148 [.int .u8 0, .int .u8 0, .int .u8 0, .int .u8 0, .int .u8 0, .int .u8 0, .int .u8 0, .int .u8 0, .int .u8 0, .int .u8 0, .int .u8 0, .int .u8 0, .int .u8 0, .int .u8 0, .int .u8 0, .int .u8 0, .slice none 0 0, .map none] (elR 8 v fx 10 dShareFetchRequestTopic) (elQ true 8 10 dShareFetchRequestTopic) s27 n27 (decide (n27 ≤ 0)) ((p, ty, [] ++ [.int .i16 v, c1, c4, .int .i32 n7, .int .i32 n9, .int .i32 n11, .int .i32 n13, .int .i32 n15, .int .i32 n18, .int .i8 n21, .bool n24, .slice none 0 0, .slice none 0 0, .map none] ++ []) :: []) P5 a27 i w') (fun i => n27.toNat - i) 0 ⟨rfl, rfl, rfl, rfl, rfl, rfl, rfl, rfl, rfl, trivial⟩ ⟨by decide, H⟩ ?_
  clear H
  rintro i27 w ⟨hi27, H⟩
  ((conv=>whnf);repeat(first|(refine mvT ?_;conv=>whnf)|(refine mvF ?_;conv=>whnf)|(refine cT (by rfl) ?_;conv=>whnf)|(refine cF (by rfl) ?_;conv=>whnf)))
  refine cI (by rfl) (fun h9=>?_) (fun h9=>?_)
  · have hlt27 : (i27 : Int) < n27 := of_decide_eq_true h9
    obtain ⟨g27, cap27, post27, rfl, hgo27, HI⟩ := H.go hlt27
    obtain ⟨es27, ts27, si27, hes27, hez27, hrn27, hts27, hlen1, H⟩ := HI.open hgo27.2.2.2.2
    obtain ⟨L27, hL27⟩ : ∃ L : List Ob, L = ((p, ty, [] ++ [.int .i16 v, c1, c4, .int .i32 n7, .int .i32 n9, .int .i32 n11, .int .i32 n13, .int .i32 n15, .int .i32 n18, .int .i8 n21, .bool n24, .slice none 0 0, .slice none 0 0, .map none] ++ []) :: []) := ⟨_, rfl⟩
    rw [← hL27] at H hpL27
    obtain ⟨P27, hP27⟩ : ∃ P : World → Prop, P = fun w => (∀ (j : Nat) (c : List Value) (y : T), es27[j]? = some c → ts27[j]? = some y → elQ true 8 10 dShareFetchRequestTopic ⟨w, fun k => k ≠ p⟩ c y) ∧ P5 w := ⟨_, rfl⟩
    rw [← hP27] at H
    replace H : St w0 G0 p pb si27 ((g27, 148, es27.flatten ++ [.int .u8 0, .int .u8 0, .int .u8 0, .int .u8 0, .int .u8 0, .int .u8 0, .int .u8 0, .int .u8 0, .int .u8 0, .int .u8 0, .int .u8 0, .int .u8 0, .int .u8 0, .int .u8 0, .int .u8 0, .int .u8 0, .slice none 0 0, .map none] ++ ((List.replicate (n27.toNat - (i27 + 1)) [.int .u8 0, .int .u8 0, .int .u8 0, .int .u8 0, .int .u8 0, .int .u8 0, .int .u8 0, .int .u8 0, .int .u8 0, .int .u8 0, .int .u8 0, .int .u8 0, .int .u8 0, .int .u8 0, .int .u8 0, .int .u8 0, .slice none 0 0, .map none]).flatten ++ post27)) :: L27) P27 w := H
    ((conv=>whnf);repeat(first|(refine mvT ?_;conv=>whnf)|(refine mvF ?_;conv=>whnf)|(refine cT (by rfl) ?_;conv=>whnf)|(refine cF (by rfl) ?_;conv=>whnf)))
    refine ⟨g27, 0, rfl, ⟨by omega, by omega⟩, ?_⟩
    ((conv=>whnf);repeat(first|(refine mvT ?_;conv=>whnf)|(refine mvF ?_;conv=>whnf)|(refine cT (by rfl) ?_;conv=>whnf)|(refine cF (by rfl) ?_;conv=>whnf)))
    refine Does.mono (dfShareFetchRequestTopic (pre := es27.flatten) (cur := [.int .u8 0, .int .u8 0, .int .u8 0, .int .u8 0, .int .u8 0, .int .u8 0, .int .u8 0, .int .u8 0, .int .u8 0, .int .u8 0, .int .u8 0, .int .u8 0, .int .u8 0, .int .u8 0, .int .u8 0, .int .u8 0, .slice none 0 0, .map none]) (post := ((List.replicate (n27.toNat - (i27 + 1)) [.int .u8 0, .int .u8 0, .int .u8 0, .int .u8 0, .int .u8 0, .int .u8 0, .int .u8 0, .int .u8 0, .int .u8 0, .int .u8 0, .int .u8 0, .int .u8 0, .int .u8 0, .int .u8 0, .int .u8 0, .int .u8 0, .slice none 0 0, .map none]).flatten ++ post27)) H.head (by first | (rw [hlen1]; simp; done) | (simp [hlen1]; done) | (simp [hlen1]; omega)) rfl) ?_
    rintro rd w2 ⟨hdf, hxd⟩
    replace H := H.put hdf hxd
    clear hdf hxd
    replace H : St w0 G0 p pb si27 ((g27, 148, es27.flatten ++ [.int .u8 0, .int .u8 0, .int .u8 0, .int .u8 0, .int .u8 0, .int .u8 0, .int .u8 0, .int .u8 0, .int .u8 0, .int .u8 0, .int .u8 0, .int .u8 0, .int .u8 0, .int .u8 0, .int .u8 0, .int .u8 0, .slice none 0 0, .map none] ++ ((List.replicate (n27.toNat - (i27 + 1)) [.int .u8 0, .int .u8 0, .int .u8 0, .int .u8 0, .int .u8 0, .int .u8 0, .int .u8 0, .int .u8 0, .int .u8 0, .int .u8 0, .int .u8 0, .int .u8 0, .int .u8 0, .int .u8 0, .int .u8 0, .int .u8 0, .slice none 0 0, .map none]).flatten ++ post27)) :: L27) P27 w2 := H
    ((conv=>whnf);repeat(first|(refine mvT ?_;conv=>whnf)|(refine mvF ?_;conv=>whnf)|(refine cT (by rfl) ?_;conv=>whnf)|(refine cF (by rfl) ?_;conv=>whnf)))
    have hup27 : tailBad 8 v fx dShareFetchRequestTopic si27 = true → (rdPart 9 v fx dShareFetchRequest (l, false)).2.2 = true := by
      intro hb
      refine hup0 ?_
      rw [tail_yes ((rdField8n (by decide)).trans hr1) ⟨by decide, has_all hv⟩, tail_yes ((rdField8n (by decide)).trans hr4) ⟨by decide, has_all hv⟩, tail_yes (rdField3.trans hr7) ⟨by decide, has_all hv⟩, tail_yes (rdField3.trans hr9) ⟨by decide, has_all hv⟩, tail_yes (rdField3.trans hr11) ⟨by decide, has_all hv⟩, tail_yes (rdField3.trans hr13) ⟨by decide, has_all hv⟩, tail_ver hr15 (by decide), tail_ver hr18 (by decide), tail_ver hr21 (by decide), tail_ver hr24 (by decide), tail_el ⟨by decide, has_all hv⟩ hln27 hgo27.2.2.2.2 hrn27 hb]
    refine Does.mono H.uuid ?_
    rintro r w ⟨u28, s28, rfl, hu28, hr28, H⟩
    ((conv=>whnf);repeat(first|(refine mvT ?_;conv=>whnf)|(refine mvF ?_;conv=>whnf)|(refine cT (by rfl) ?_;conv=>whnf)|(refine cF (by rfl) ?_;conv=>whnf)))
    obtain ⟨u28_0, u28_1, u28_2, u28_3, u28_4, u28_5, u28_6, u28_7, u28_8, u28_9, u28_10, u28_11, u28_12, u28_13, u28_14, u28_15, rfl⟩ : ∃ u28_0 u28_1 u28_2 u28_3 u28_4 u28_5 u28_6 u28_7 u28_8 u28_9 u28_10 u28_11 u28_12 u28_13 u28_14 u28_15, u28 = [u28_0, u28_1, u28_2, u28_3, u28_4, u28_5, u28_6, u28_7, u28_8, u28_9, u28_10, u28_11, u28_12, u28_13, u28_14, u28_15] := by
      match u28, hu28 with
      | [u28_0, u28_1, u28_2, u28_3, u28_4, u28_5, u28_6, u28_7, u28_8, u28_9, u28_10, u28_11, u28_12, u28_13, u28_14, u28_15], _ => exact ⟨u28_0, u28_1, u28_2, u28_3, u28_4, u28_5, u28_6, u28_7, u28_8, u28_9, u28_10, u28_11, u28_12, u28_13, u28_14, u28_15, rfl⟩
    intro bu wu hbu hou hxu
    ((conv=>whnf);repeat(first|(refine mvT ?_;conv=>whnf)|(refine mvF ?_;conv=>whnf)|(refine cT (by rfl) ?_;conv=>whnf)|(refine cF (by rfl) ?_;conv=>whnf)))
    refine st_all [bcell u28_0, bcell u28_1, bcell u28_2, bcell u28_3, bcell u28_4, bcell u28_5, bcell u28_6, bcell u28_7, bcell u28_8, bcell u28_9, bcell u28_10, bcell u28_11, bcell u28_12, bcell u28_13, bcell u28_14, bcell u28_15] hou rfl rfl rfl ?_
    intro w2 hou hxs
    ((conv=>whnf);repeat(first|(refine mvT ?_;conv=>whnf)|(refine mvF ?_;conv=>whnf)|(refine cT (by rfl) ?_;conv=>whnf)|(refine cF (by rfl) ?_;conv=>whnf)))
    replace H := H.e0 (hxu.trans hxs (M := nob) fun k hk e => by omega)
    refine ⟨_, rfl, hou.cells, ?_⟩
    ((conv=>whnf);repeat(first|(refine mvT ?_;conv=>whnf)|(refine mvF ?_;conv=>whnf)|(refine cT (by rfl) ?_;conv=>whnf)|(refine cF (by rfl) ?_;conv=>whnf)))
    refine H.stn [bcell u28_0, bcell u28_1, bcell u28_2, bcell u28_3, bcell u28_4, bcell u28_5, bcell u28_6, bcell u28_7, bcell u28_8, bcell u28_9, bcell u28_10, bcell u28_11, bcell u28_12, bcell u28_13, bcell u28_14, bcell u28_15] 0 rfl rfl rfl (by first | omega | (simp [hlen1]; done) | (simp [hlen1]; omega)) rfl (Nat.le_of_ble_eq_true rfl) ?_
    intro w H
    ((conv=>whnf);repeat(first|(refine mvT ?_;conv=>whnf)|(refine mvF ?_;conv=>whnf)|(refine cT (by rfl) ?_;conv=>whnf)|(refine cF (by rfl) ?_;conv=>whnf)))
    replace H : St w0 G0 p pb s28 ((g27, 148, es27.flatten ++ [bcell u28_0, bcell u28_1, bcell u28_2, bcell u28_3, bcell u28_4, bcell u28_5, bcell u28_6, bcell u28_7, bcell u28_8, bcell u28_9, bcell u28_10, bcell u28_11, bcell u28_12, bcell u28_13, bcell u28_14, bcell u28_15, .slice none 0 0, .map none] ++ ((List.replicate (n27.toNat - (i27 + 1)) [.int .u8 0, .int .u8 0, .int .u8 0, .int .u8 0, .int .u8 0, .int .u8 0, .int .u8 0, .int .u8 0, .int .u8 0, .int .u8 0, .int .u8 0, .int .u8 0, .int .u8 0, .int .u8 0, .int .u8 0, .int .u8 0, .slice none 0 0, .map none]).flatten ++ post27)) :: L27) P27 w := H
    refine ⟨_, ld (H.cell rfl (k := 16) rfl) (by first | omega | (simp [hlen1]; done) | (simp [hlen1]; omega)), ?_⟩; ((conv=>whnf);repeat(first|(refine mvT ?_;conv=>whnf)|(refine mvF ?_;conv=>whnf)|(refine cT (by rfl) ?_;conv=>whnf)|(refine cF (by rfl) ?_;conv=>whnf)))
    (refine mvB ?_;((conv=>whnf);repeat(first|(refine mvT ?_;conv=>whnf)|(refine mvF ?_;conv=>whnf)|(refine cT (by rfl) ?_;conv=>whnf)|(refine cF (by rfl) ?_;conv=>whnf))))
    refine VC.cutE (fun q : Int × Rd => [(30, .int .i32 q.1), (29, .slice none 0 0), (0, .pointer (some ⟨p, 0, none⟩)), (2, .bool false), (7, .pointer (some ⟨pb, 0, none⟩)), (8, .int .i16 v), (9, .bool fx), (10, .pointer (some ⟨p, 0, none⟩)), (23, .int .i32 n27), (22, .slice (some ⟨g27, 0, none⟩) n27.toNat cap27), (24, .int .i32 i27), (25, .pointer (some ⟨g27, 0 + (i27 : Int).toNat * 18, none⟩)), (26, .pointer (some ⟨g27, 0 + (i27 : Int).toNat * 18, none⟩))]) (fun q w' => (-2147483648 ≤ q.1 ∧ q.1 ≤ 2147483647) ∧ rdLn fx s28 = q ∧ St w0 G0 p pb q.2 ((g27, 148, es27.flatten ++ [bcell u28_0, bcell u28_1, bcell u28_2, bcell u28_3, bcell u28_4, bcell u28_5, bcell u28_6, bcell u28_7, bcell u28_8, bcell u28_9, bcell u28_10, bcell u28_11, bcell u28_12, bcell u28_13, bcell u28_14, bcell u28_15, .slice none 0 0, .map none] ++ ((List.replicate (n27.toNat - (i27 + 1)) [.int .u8 0, .int .u8 0, .int .u8 0, .int .u8 0, .int .u8 0, .int .u8 0, .int .u8 0, .int .u8 0, .int .u8 0, .int .u8 0, .int .u8 0, .int .u8 0, .int .u8 0, .int .u8 0, .int .u8 0, .int .u8 0, .slice none 0 0, .map none]).flatten ++ post27)) :: L27) P27 w') ?_ ?_
    · refine cI (by rfl) (fun hc=>?_) (fun hc=>?_)
      · ((conv=>whnf);repeat(first|(refine mvT ?_;conv=>whnf)|(refine mvF ?_;conv=>whnf)|(refine cT (by rfl) ?_;conv=>whnf)|(refine cF (by rfl) ?_;conv=>whnf)))
        refine Does.mono H.lnc ?_
        rintro r w ⟨n, s', rfl, hn, hr, H⟩
        ((conv=>whnf);repeat(first|(refine mvT ?_;conv=>whnf)|(refine mvF ?_;conv=>whnf)|(refine cT (by rfl) ?_;conv=>whnf)|(refine cF (by rfl) ?_;conv=>whnf)))
        exact ⟨(n, s'), ⟨rfl, rfl, rfl, rfl, rfl, rfl, rfl, rfl, rfl, rfl, rfl, rfl, rfl, trivial⟩, hn, by rw [hc]; exact hr, H⟩
      · ((conv=>whnf);repeat(first|(refine mvT ?_;conv=>whnf)|(refine mvF ?_;conv=>whnf)|(refine cT (by rfl) ?_;conv=>whnf)|(refine cF (by rfl) ?_;conv=>whnf)))
        refine Does.mono H.lnp ?_
        rintro r w ⟨n, s', rfl, hn, hr, H⟩
        ((conv=>whnf);repeat(first|(refine mvT ?_;conv=>whnf)|(refine mvF ?_;conv=>whnf)|(refine cT (by rfl) ?_;conv=>whnf)|(refine cF (by rfl) ?_;conv=>whnf)))
        exact ⟨(n, s'), ⟨rfl, rfl, rfl, rfl, rfl, rfl, rfl, rfl, rfl, rfl, rfl, rfl, rfl, trivial⟩, hn, by rw [hc]; exact hr, H⟩
    clear H
    rintro ⟨n31, s31⟩ w ⟨hn31, hln31, H⟩
    dsimp only at hn31 hln31 H
    ((conv=>whnf);repeat(first|(refine mvT ?_;conv=>whnf)|(refine mvF ?_;conv=>whnf)|(refine cT (by rfl) ?_;conv=>whnf)|(refine cF (by rfl) ?_;conv=>whnf)))
    refine Does.mono H.ok ?_
    rintro r w ⟨rfl, H⟩
    ((conv=>whnf);repeat(first|(refine mvT ?_;conv=>whnf)|(refine mvF ?_;conv=>whnf)|(refine cT (by rfl) ?_;conv=>whnf)|(refine cF (by rfl) ?_;conv=>whnf)))
    refine cI (by rfl) (fun hbd=>?_) (fun hbd=>?_)
    · have hbd : s31.2 = true := by simpa using hbd
      ((conv=>whnf);repeat(first|(refine mvT ?_;conv=>whnf)|(refine mvF ?_;conv=>whnf)|(refine cT (by rfl) ?_;conv=>whnf)|(refine cF (by rfl) ?_;conv=>whnf)))
      refine Does.mono (H.done hL hp1) ?_
      rintro r w ⟨rfl, H⟩
      ((conv=>whnf);repeat(first|(refine mvT ?_;conv=>whnf)|(refine mvF ?_;conv=>whnf)|(refine cT (by rfl) ?_;conv=>whnf)|(refine cF (by rfl) ?_;conv=>whnf)))
      refine RdPost.early hbd (hup27 (?_)) H
      rw [tail_yes (rdField7.trans hr28) ⟨by decide, has_all hv⟩, tail_len ⟨by decide, has_all hv⟩ hln31 hbd]
    have hbd : s31.2 = false := by simpa using hbd
    clear hbd
    ((conv=>whnf);repeat(first|(refine mvT ?_;conv=>whnf)|(refine mvF ?_;conv=>whnf)|(refine cT (by rfl) ?_;conv=>whnf)|(refine cF (by rfl) ?_;conv=>whnf)))
    refine cut_zero ?_
    ((conv=>whnf);repeat(first|(refine mvT ?_;conv=>whnf)|(refine mvF ?_;conv=>whnf)|(refine cT (by rfl) ?_;conv=>whnf)|(refine cF (by rfl) ?_;conv=>whnf)))
    refine VC.cutE (fun a : Value => [(30, .int .i32 n31), (29, a), (0, .pointer (some ⟨p, 0, none⟩)), (2, .bool false), (7, .pointer (some ⟨pb, 0, none⟩)), (8, .int .i16 v), (9, .bool fx), (10, .pointer (some ⟨p, 0, none⟩)), (23, .int .i32 n27), (22, .slice (some ⟨g27, 0, none⟩) n27.toNat cap27), (24, .int .i32 i27), (25, .pointer (some ⟨g27, 0 + (i27 : Int).toNat * 18, none⟩)), (26, .pointer (some ⟨g27, 0 + (i27 : Int).toNat * 18, none⟩))]) (fun a w' => ListI w0 G0 p pb 192 [.int .i32 0, .int .i32 0, .slice none 0 0, .map none] (elR 7 v fx 10 dShareFetchRequestTopicPartition) (elQ true 7 10 dShareFetchRequestTopicPartition) s31 n31 (decide (n31 ≤ 0)) ((g27, 148, es27.flatten ++ [bcell u28_0, bcell u28_1, bcell u28_2, bcell u28_3, bcell u28_4, bcell u28_5, bcell u28_6, bcell u28_7, bcell u28_8, bcell u28_9, bcell u28_10, bcell u28_11, bcell u28_12, bcell u28_13, bcell u28_14, bcell u28_15, .slice none 0 0, .map none] ++ ((List.replicate (n27.toNat - (i27 + 1)) [.int .u8 0, .int .u8 0, .int .u8 0, .int .u8 0, .int .u8 0, .int .u8 0, .int .u8 0, .int .u8 0, .int .u8 0, .int .u8 0, .int .u8 0, .int .u8 0, .int .u8 0, .int .u8 0, .int .u8 0, .int .u8 0, .slice none 0 0, .map none]).flatten ++ post27)) :: L27) P27 a 0 w') ?_ ?_
    · refine cI (by rfl) (fun hps=>?_) (fun hps=>?_)
      · have hps : 0 < n31 := by have := of_decide_eq_true hps; omega
        ((conv=>whnf);repeat(first|(refine mvT ?_;conv=>whnf)|(refine mvF ?_;conv=>whnf)|(refine cT (by rfl) ?_;conv=>whnf)|(refine cF (by rfl) ?_;conv=>whnf)))
        refine H.grow hps hn31.2 (by decide) rfl rfl (by decide) ?_
        intro g cap post w hc1 hc2 H
        ((conv=>whnf);repeat(first|(refine mvT ?_;conv=>whnf)|(refine mvF ?_;conv=>whnf)|(refine cT (by rfl) ?_;conv=>whnf)|(refine cF (by rfl) ?_;conv=>whnf)))
        exact ⟨_, ⟨rfl, rfl, rfl, rfl, rfl, rfl, rfl, rfl, rfl, rfl, rfl, rfl, rfl, trivial⟩, ListI.some hps (decide_eq_false (by omega)) hc1 hc2 H⟩
      · have hps : n31 ≤ 0 := by have := of_decide_eq_false hps; omega
        ((conv=>whnf);repeat(first|(refine mvT ?_;conv=>whnf)|(refine mvF ?_;conv=>whnf)|(refine cT (by rfl) ?_;conv=>whnf)|(refine cF (by rfl) ?_;conv=>whnf)))
        exact ⟨_, ⟨rfl, rfl, rfl, rfl, rfl, rfl, rfl, rfl, rfl, rfl, rfl, rfl, rfl, trivial⟩, ListI.none hps (decide_eq_true hps) H⟩
    clear H
    rintro a31 w H
    ((conv=>whnf);repeat(first|(refine mvT ?_;conv=>whnf)|(refine mvF ?_;conv=>whnf)|(refine cT (by rfl) ?_;conv=>whnf)|(refine cF (by rfl) ?_;conv=>whnf)))
    have hpL31 : inL ((g27, 148, es27.flatten ++ [bcell u28_0, bcell u28_1, bcell u28_2, bcell u28_3, bcell u28_4, bcell u28_5, bcell u28_6, bcell u28_7, bcell u28_8, bcell u28_9, bcell u28_10, bcell u28_11, bcell u28_12, bcell u28_13, bcell u28_14, bcell u28_15, .slice none 0 0, .map none] ++ ((List.replicate (n27.toNat - (i27 + 1)) [.int .u8 0, .int .u8 0, .int .u8 0, .int .u8 0, .int .u8 0, .int .u8 0, .int .u8 0, .int .u8 0, .int .u8 0, .int .u8 0, .int .u8 0, .int .u8 0, .int .u8 0, .int .u8 0, .int .u8 0, .int .u8 0, .slice none 0 0, .map none]).flatten ++ post27)) :: L27) p := inL.tail hpL27
    refine VL.loop (fun i : Nat => [(30, .int .i32 n31), (29, a31), (31, .int .i32 i), (0, .pointer (some ⟨p, 0, none⟩)), (2, .bool false), (7, .pointer (some ⟨pb, 0, none⟩)), (8, .int .i16 v), (9, .bool fx), (10, .pointer (some ⟨p, 0, none⟩)), (23, .int .i32 n27), (22, .slice (some ⟨g27, 0, none⟩) n27.toNat cap27), (24, .int .i32 i27), (25, .pointer (some ⟨g27, 0 + (i27 : Int).toNat * 18, none⟩)), (26, .pointer (some ⟨g27, 0 + (i27 : Int).toNat * 18, none⟩))]) (fun i w' => i ≤ 2147483647 ∧ ListI w0 G0 p pb 192 [.int .i32 0, .int .i32 0, .slice none 0 0, .map none] (elR 7 v fx 10 dShareFetchRequestTopicPartition) (elQ true 7 10 dShareFetchRequestTopicPartition) s31 n31 (decide (n31 ≤ 0)) ((g27, 148, es27.flatten ++ [bcell u28_0, bcell u28_1, bcell u28_2, bcell u28_3, bcell u28_4, bcell u28_5, bcell u28_6, bcell u28_7, bcell u28_8, bcell u28_9, bcell u28_10, bcell u28_11, bcell u28_12, bcell u28_13, bcell u28_14, bcell u28_15, .slice none 0 0, .map none] ++ ((List.replicate (n27.toNat - (i27 + 1)) [.int .u8 0, .int .u8 0, .int .u8 0, .int .u8 0, .int .u8 0, .int .u8 0, .int .u8 0, .int .u8 0, .int .u8 0, .int .u8 0, .int .u8 0, .int .u8 0, .int .u8 0, .int .u8 0, .int .u8 0, .int .u8 0, .slice none 0 0, .map none]).flatten ++ post27)) :: L27) P27 a31 i w') (fun i => n31.toNat - i) 0 ⟨rfl, rfl, rfl, rfl, rfl, rfl, rfl, rfl, rfl, rfl, rfl, rfl, rfl, rfl, trivial⟩ ⟨by decide, H⟩ ?_
    clear H
    rintro i31 w ⟨hi31, H⟩
    ((conv=>whnf);repeat(first|(refine mvT ?_;conv=>whnf)|(refine mvF ?_;conv=>whnf)|(refine cT (by rfl) ?_;conv=>whnf)|(refine cF (by rfl) ?_;conv=>whnf)))
    refine cI (by rfl) (fun h9=>?_) (fun h9=>?_)
    · have hlt31 : (i31 : Int) < n31 := of_decide_eq_true h9
      obtain ⟨g31, cap31, post31, rfl, hgo31, HI⟩ := H.go hlt31
      obtain ⟨es31, ts31, si31, hes31, hez31, hrn31, hts31, hlen2, H⟩ := HI.open hgo31.2.2.2.2
      obtain ⟨L31, hL31⟩ : ∃ L : List Ob, L = ((g27, 148, es27.flatten ++ [bcell u28_0, bcell u28_1, bcell u28_2, bcell u28_3, bcell u28_4, bcell u28_5, bcell u28_6, bcell u28_7, bcell u28_8, bcell u28_9, bcell u28_10, bcell u28_11, bcell u28_12, bcell u28_13, bcell u28_14, bcell u28_15, .slice none 0 0, .map none] ++ ((List.replicate (n27.toNat - (i27 + 1)) [.int .u8 0, .int .u8 0, .int .u8 0, .int .u8 0, .int .u8 0, .int .u8 0, .int .u8 0, .int .u8 0, .int .u8 0, .int .u8 0, .int .u8 0, .int .u8 0, .int .u8 0, .int .u8 0, .int .u8 0, .int .u8 0, .slice none 0 0, .map none]).flatten ++ post27)) :: L27) := ⟨_, rfl⟩
      rw [← hL31] at H hpL31
      obtain ⟨P31, hP31⟩ : ∃ P : World → Prop, P = fun w => (∀ (j : Nat) (c : List Value) (y : T), es31[j]? = some c → ts31[j]? = some y → elQ true 7 10 dShareFetchRequestTopicPartition ⟨w, fun k => k ≠ p⟩ c y) ∧ P27 w := ⟨_, rfl⟩
      rw [← hP31] at H
      replace H : St w0 G0 p pb si31 ((g31, 192, es31.flatten ++ [.int .i32 0, .int .i32 0, .slice none 0 0, .map none] ++ ((List.replicate (n31.toNat - (i31 + 1)) [.int .i32 0, .int .i32 0, .slice none 0 0, .map none]).flatten ++ post31)) :: L31) P31 w := H
      ((conv=>whnf);repeat(first|(refine mvT ?_;conv=>whnf)|(refine mvF ?_;conv=>whnf)|(refine cT (by rfl) ?_;conv=>whnf)|(refine cF (by rfl) ?_;conv=>whnf)))
      refine ⟨g31, 0, rfl, ⟨by omega, by omega⟩, ?_⟩
      ((conv=>whnf);repeat(first|(refine mvT ?_;conv=>whnf)|(refine mvF ?_;conv=>whnf)|(refine cT (by rfl) ?_;conv=>whnf)|(refine cF (by rfl) ?_;conv=>whnf)))
      refine Does.mono (dfShareFetchRequestTopicPartition (pre := es31.flatten) (cur := [.int .i32 0, .int .i32 0, .slice none 0 0, .map none]) (post := ((List.replicate (n31.toNat - (i31 + 1)) [.int .i32 0, .int .i32 0, .slice none 0 0, .map none]).flatten ++ post31)) H.head (by first | (rw [hlen2]; simp; done) | (simp [hlen2]; done) | (simp [hlen2]; omega)) rfl) ?_
      rintro rd w2 ⟨hdf, hxd⟩
      replace H := H.put hdf hxd
      clear hdf hxd
      replace H : St w0 G0 p pb si31 ((g31, 192, es31.flatten ++ [.int .i32 0, .int .i32 0, .slice none 0 0, .map none] ++ ((List.replicate (n31.toNat - (i31 + 1)) [.int .i32 0, .int .i32 0, .slice none 0 0, .map none]).flatten ++ post31)) :: L31) P31 w2 := H
      ((conv=>whnf);repeat(first|(refine mvT ?_;conv=>whnf)|(refine mvF ?_;conv=>whnf)|(refine cT (by rfl) ?_;conv=>whnf)|(refine cF (by rfl) ?_;conv=>whnf)))
      have hup31 : tailBad 7 v fx dShareFetchRequestTopicPartition si31 = true → (rdPart 9 v fx dShareFetchRequest (l, false)).2.2 = true := by
        intro hb
        refine hup27 ?_
        rw [tail_yes (rdField7.trans hr28) ⟨by decide, has_all hv⟩, tail_el ⟨by decide, has_all hv⟩ hln31 hgo31.2.2.2.2 hrn31 hb]
      refine Does.mono H.int32 ?_
      rintro r w ⟨n32, s32, rfl, hn32, hr32, H⟩
      ((conv=>whnf);repeat(first|(refine mvT ?_;conv=>whnf)|(refine mvF ?_;conv=>whnf)|(refine cT (by rfl) ?_;conv=>whnf)|(refine cF (by rfl) ?_;conv=>whnf)))
      refine H.st1 (v := .int .i32 n32) 0 (rfl) (rfl) rfl (by first | omega | (simp [hlen2]; done) | (simp [hlen2]; omega)) rfl (Nat.lt_of_lt_of_le (Nat.lt_succ_self _) (Nat.le_of_ble_eq_true rfl)) ?_
      intro w H
      ((conv=>whnf);repeat(first|(refine mvT ?_;conv=>whnf)|(refine mvF ?_;conv=>whnf)|(refine cT (by rfl) ?_;conv=>whnf)|(refine cF (by rfl) ?_;conv=>whnf)))
      replace H : St w0 G0 p pb s32 ((g31, 192, es31.flatten ++ [.int .i32 n32, .int .i32 0, .slice none 0 0, .map none] ++ ((List.replicate (n31.toNat - (i31 + 1)) [.int .i32 0, .int .i32 0, .slice none 0 0, .map none]).flatten ++ post31)) :: L31) P31 w := H
      intro cq hcq
      obtain rfl : cq = true := by rw [← hcq]; exact decide_eq_true hv
      ((conv=>whnf);repeat(first|(refine mvT ?_;conv=>whnf)|(refine mvF ?_;conv=>whnf)|(refine cT (by rfl) ?_;conv=>whnf)|(refine cF (by rfl) ?_;conv=>whnf)))
      refine VC.cutE (fun q : Int × Rd => [(0, .pointer (some ⟨p, 0, none⟩)), (2, .bool false), (7, .pointer (some ⟨pb, 0, none⟩)), (8, .int .i16 v), (9, .bool fx), (10, .pointer (some ⟨p, 0, none⟩)), (23, .int .i32 n27), (22, .slice (some ⟨g27, 0, none⟩) n27.toNat cap27), (24, .int .i32 i27), (25, .pointer (some ⟨g27, 0 + (i27 : Int).toNat * 18, none⟩)), (26, .pointer (some ⟨g27, 0 + (i27 : Int).toNat * 18, none⟩)), (30, .int .i32 n31), (29, .slice (some ⟨g31, 0, none⟩) n31.toNat cap31), (31, .int .i32 i31), (32, .pointer (some ⟨g31, 0 + (i31 : Int).toNat * 4, none⟩)), (33, .pointer (some ⟨g31, 0 + (i31 : Int).toNat * 4, none⟩))]) (fun q w' => IntKind.i32.wrap q.1 = q.1 ∧ (if hasF (.mk 3 0 0 (-1) (-1) 0 0 []) v = true then rdField 7 v fx (.mk 3 0 0 (-1) (-1) 0 0 []) s32 else (dfT 7 (.mk 3 0 0 (-1) (-1) 0 0 []), s32)) = (numT q.1, q.2) ∧ St w0 G0 p pb q.2 ((g31, 192, es31.flatten ++ [.int .i32 n32, .int .i32 q.1, .slice none 0 0, .map none] ++ ((List.replicate (n31.toNat - (i31 + 1)) [.int .i32 0, .int .i32 0, .slice none 0 0, .map none]).flatten ++ post31)) :: L31) P31 w') ?_ ?_
      · refine cI (by rfl) (fun hcv=>?_) (fun hcv=>?_)
        · ((conv=>whnf);repeat(first|(refine mvT ?_;conv=>whnf)|(refine mvF ?_;conv=>whnf)|(refine cT (by rfl) ?_;conv=>whnf)|(refine cF (by rfl) ?_;conv=>whnf)))
          refine Does.mono H.int32 ?_
          rintro r w ⟨n35, s35, rfl, hn35, hr35, H⟩
          ((conv=>whnf);repeat(first|(refine mvT ?_;conv=>whnf)|(refine mvF ?_;conv=>whnf)|(refine cT (by rfl) ?_;conv=>whnf)|(refine cF (by rfl) ?_;conv=>whnf)))
          refine H.st1 (v := .int .i32 n35) 1 (rfl) (rfl) rfl (by first | omega | (simp [hlen2]; done) | (simp [hlen2]; omega)) rfl (Nat.lt_of_lt_of_le (Nat.lt_succ_self _) (Nat.le_of_ble_eq_true rfl)) ?_
          intro w H
          ((conv=>whnf);repeat(first|(refine mvT ?_;conv=>whnf)|(refine mvF ?_;conv=>whnf)|(refine cT (by rfl) ?_;conv=>whnf)|(refine cF (by rfl) ?_;conv=>whnf)))
          replace H : St w0 G0 p pb s35 ((g31, 192, es31.flatten ++ [.int .i32 n32, .int .i32 n35, .slice none 0 0, .map none] ++ ((List.replicate (n31.toNat - (i31 + 1)) [.int .i32 0, .int .i32 0, .slice none 0 0, .map none]).flatten ++ post31)) :: L31) P31 w := H
          have hh : hasF (.mk 3 0 0 (-1) (-1) 0 0 []) v = true := by have := of_decide_eq_true hcv; rw [hasF_iff]; omega
          exact ⟨(n35, s35), ⟨rfl, rfl, rfl, rfl, rfl, rfl, rfl, rfl, rfl, rfl, rfl, rfl, rfl, rfl, rfl, rfl, trivial⟩, hn35, by rw [if_pos hh]; exact (rdField3.trans hr35), H⟩
        · ((conv=>whnf);repeat(first|(refine mvT ?_;conv=>whnf)|(refine mvF ?_;conv=>whnf)|(refine cT (by rfl) ?_;conv=>whnf)|(refine cF (by rfl) ?_;conv=>whnf)))
          have hh : ¬ hasF (.mk 3 0 0 (-1) (-1) 0 0 []) v = true := by have := of_decide_eq_false hcv; rw [hasF_iff]; omega
          exact ⟨(0, s32), ⟨rfl, rfl, rfl, rfl, rfl, rfl, rfl, rfl, rfl, rfl, rfl, rfl, rfl, rfl, rfl, rfl, trivial⟩, rfl, by rw [if_neg hh]; rfl, H⟩
      clear H
      rintro ⟨n34, s34⟩ w ⟨hn34, hr34, H⟩
      dsimp only at hn34 hr34 H
      ((conv=>whnf);repeat(first|(refine mvT ?_;conv=>whnf)|(refine mvF ?_;conv=>whnf)|(refine cT (by rfl) ?_;conv=>whnf)|(refine cF (by rfl) ?_;conv=>whnf)))
      replace H : St w0 G0 p pb s34 ((g31, 192, es31.flatten ++ [.int .i32 n32, .int .i32 n34, .slice none 0 0, .map none] ++ ((List.replicate (n31.toNat - (i31 + 1)) [.int .i32 0, .int .i32 0, .slice none 0 0, .map none]).flatten ++ post31)) :: L31) P31 w := H
      refine ⟨_, ld (H.cell rfl (k := 2) rfl) (by first | omega | (simp [hlen2]; done) | (simp [hlen2]; omega)), ?_⟩; ((conv=>whnf);repeat(first|(refine mvT ?_;conv=>whnf)|(refine mvF ?_;conv=>whnf)|(refine cT (by rfl) ?_;conv=>whnf)|(refine cF (by rfl) ?_;conv=>whnf)))
      (refine mvB ?_;((conv=>whnf);repeat(first|(refine mvT ?_;conv=>whnf)|(refine mvF ?_;conv=>whnf)|(refine cT (by rfl) ?_;conv=>whnf)|(refine cF (by rfl) ?_;conv=>whnf))))
      refine VC.cutE (fun q : Int × Rd => [(38, .int .i32 q.1), (37, .slice none 0 0), (0, .pointer (some ⟨p, 0, none⟩)), (2, .bool false), (7, .pointer (some ⟨pb, 0, none⟩)), (8, .int .i16 v), (9, .bool fx), (10, .pointer (some ⟨p, 0, none⟩)), (23, .int .i32 n27), (22, .slice (some ⟨g27, 0, none⟩) n27.toNat cap27), (24, .int .i32 i27), (25, .pointer (some ⟨g27, 0 + (i27 : Int).toNat * 18, none⟩)), (26, .pointer (some ⟨g27, 0 + (i27 : Int).toNat * 18, none⟩)), (30, .int .i32 n31), (29, .slice (some ⟨g31, 0, none⟩) n31.toNat cap31), (31, .int .i32 i31), (32, .pointer (some ⟨g31, 0 + (i31 : Int).toNat * 4, none⟩)), (33, .pointer (some ⟨g31, 0 + (i31 : Int).toNat * 4, none⟩))]) (fun q w' => (-2147483648 ≤ q.1 ∧ q.1 ≤ 2147483647) ∧ rdLn fx s34 = q ∧ St w0 G0 p pb q.2 ((g31, 192, es31.flatten ++ [.int .i32 n32, .int .i32 n34, .slice none 0 0, .map none] ++ ((List.replicate (n31.toNat - (i31 + 1)) [.int .i32 0, .int .i32 0, .slice none 0 0, .map none]).flatten ++ post31)) :: L31) P31 w') ?_ ?_
      · refine cI (by rfl) (fun hc=>?_) (fun hc=>?_)
        · ((conv=>whnf);repeat(first|(refine mvT ?_;conv=>whnf)|(refine mvF ?_;conv=>whnf)|(refine cT (by rfl) ?_;conv=>whnf)|(refine cF (by rfl) ?_;conv=>whnf)))
          refine Does.mono H.lnc ?_
          rintro r w ⟨n, s', rfl, hn, hr, H⟩
          ((conv=>whnf);repeat(first|(refine mvT ?_;conv=>whnf)|(refine mvF ?_;conv=>whnf)|(refine cT (by rfl) ?_;conv=>whnf)|(refine cF (by rfl) ?_;conv=>whnf)))
          exact ⟨(n, s'), ⟨rfl, rfl, rfl, rfl, rfl, rfl, rfl, rfl, rfl, rfl, rfl, rfl, rfl, rfl, rfl, rfl, rfl, rfl, trivial⟩, hn, by rw [hc]; exact hr, H⟩
        · ((conv=>whnf);repeat(first|(refine mvT ?_;conv=>whnf)|(refine mvF ?_;conv=>whnf)|(refine cT (by rfl) ?_;conv=>whnf)|(refine cF (by rfl) ?_;conv=>whnf)))
          refine Does.mono H.lnp ?_
          rintro r w ⟨n, s', rfl, hn, hr, H⟩
          ((conv=>whnf);repeat(first|(refine mvT ?_;conv=>whnf)|(refine mvF ?_;conv=>whnf)|(refine cT (by rfl) ?_;conv=>whnf)|(refine cF (by rfl) ?_;conv=>whnf)))
          exact ⟨(n, s'), ⟨rfl, rfl, rfl, rfl, rfl, rfl, rfl, rfl, rfl, rfl, rfl, rfl, rfl, rfl, rfl, rfl, rfl, rfl, trivial⟩, hn, by rw [hc]; exact hr, H⟩
      clear H
      rintro ⟨n37, s37⟩ w ⟨hn37, hln37, H⟩
      dsimp only at hn37 hln37 H
      ((conv=>whnf);repeat(first|(refine mvT ?_;conv=>whnf)|(refine mvF ?_;conv=>whnf)|(refine cT (by rfl) ?_;conv=>whnf)|(refine cF (by rfl) ?_;conv=>whnf)))
      refine Does.mono H.ok ?_
      rintro r w ⟨rfl, H⟩
      ((conv=>whnf);repeat(first|(refine mvT ?_;conv=>whnf)|(refine mvF ?_;conv=>whnf)|(refine cT (by rfl) ?_;conv=>whnf)|(refine cF (by rfl) ?_;conv=>whnf)))
      refine cI (by rfl) (fun hbd=>?_) (fun hbd=>?_)
      · have hbd : s37.2 = true := by simpa using hbd
        ((conv=>whnf);repeat(first|(refine mvT ?_;conv=>whnf)|(refine mvF ?_;conv=>whnf)|(refine cT (by rfl) ?_;conv=>whnf)|(refine cF (by rfl) ?_;conv=>whnf)))
        refine Does.mono (H.done hL hp1) ?_
        rintro r w ⟨rfl, H⟩
        ((conv=>whnf);repeat(first|(refine mvT ?_;conv=>whnf)|(refine mvF ?_;conv=>whnf)|(refine cT (by rfl) ?_;conv=>whnf)|(refine cF (by rfl) ?_;conv=>whnf)))
        refine RdPost.early hbd (hup31 (?_)) H
        rw [tail_yes (rdField3.trans hr32) ⟨by decide, has_all hv⟩, tail_ver hr34 (by decide), tail_len ⟨by decide, has_all hv⟩ hln37 hbd]
      have hbd : s37.2 = false := by simpa using hbd
      clear hbd
      ((conv=>whnf);repeat(first|(refine mvT ?_;conv=>whnf)|(refine mvF ?_;conv=>whnf)|(refine cT (by rfl) ?_;conv=>whnf)|(refine cF (by rfl) ?_;conv=>whnf)))
      refine cut_zero ?_
      ((conv=>whnf);repeat(first|(refine mvT ?_;conv=>whnf)|(refine mvF ?_;conv=>whnf)|(refine cT (by rfl) ?_;conv=>whnf)|(refine cF (by rfl) ?_;conv=>whnf)))
      refine VC.cutE (fun a : Value => [(38, .int .i32 n37), (37, a), (0, .pointer (some ⟨p, 0, none⟩)), (2, .bool false), (7, .pointer (some ⟨pb, 0, none⟩)), (8, .int .i16 v), (9, .bool fx), (10, .pointer (some ⟨p, 0, none⟩)), (23, .int .i32 n27), (22, .slice (some ⟨g27, 0, none⟩) n27.toNat cap27), (24, .int .i32 i27), (25, .pointer (some ⟨g27, 0 + (i27 : Int).toNat * 18, none⟩)), (26, .pointer (some ⟨g27, 0 + (i27 : Int).toNat * 18, none⟩)), (30, .int .i32 n31), (29, .slice (some ⟨g31, 0, none⟩) n31.toNat cap31), (31, .int .i32 i31), (32, .pointer (some ⟨g31, 0 + (i31 : Int).toNat * 4, none⟩)), (33, .pointer (some ⟨g31, 0 + (i31 : Int).toNat * 4, none⟩))]) (fun a w' => ListI w0 G0 p pb 196 [.int .i64 0, .int .i64 0, .slice none 0 0, .map none] (elR 6 v fx 10 dShareFetchRequestTopicPartitionAcknowledgementBatch) (elQ true 6 10 dShareFetchRequestTopicPartitionAcknowledgementBatch) s37 n37 (decide (n37 ≤ 0)) ((g31, 192, es31.flatten ++ [.int .i32 n32, .int .i32 n34, .slice none 0 0, .map none] ++ ((List.replicate (n31.toNat - (i31 + 1)) [.int .i32 0, .int .i32 0, .slice none 0 0, .map none]).flatten ++ post31)) :: L31) P31 a 0 w') ?_ ?_
      · refine cI (by rfl) (fun hps=>?_) (fun hps=>?_)
        · have hps : 0 < n37 := by have := of_decide_eq_true hps; omega
          ((conv=>whnf);repeat(first|(refine mvT ?_;conv=>whnf)|(refine mvF ?_;conv=>whnf)|(refine cT (by rfl) ?_;conv=>whnf)|(refine cF (by rfl) ?_;conv=>whnf)))
          refine H.grow hps hn37.2 (by decide) rfl rfl (by decide) ?_
          intro g cap post w hc1 hc2 H
          ((conv=>whnf);repeat(first|(refine mvT ?_;conv=>whnf)|(refine mvF ?_;conv=>whnf)|(refine cT (by rfl) ?_;conv=>whnf)|(refine cF (by rfl) ?_;conv=>whnf)))
          exact ⟨_, ⟨rfl, rfl, rfl, rfl, rfl, rfl, rfl, rfl, rfl, rfl, rfl, rfl, rfl, rfl, rfl, rfl, rfl, rfl, trivial⟩, ListI.some hps (decide_eq_false (by omega)) hc1 hc2 H⟩
        · have hps : n37 ≤ 0 := by have := of_decide_eq_false hps; omega
          ((conv=>whnf);repeat(first|(refine mvT ?_;conv=>whnf)|(refine mvF ?_;conv=>whnf)|(refine cT (by rfl) ?_;conv=>whnf)|(refine cF (by rfl) ?_;conv=>whnf)))
          exact ⟨_, ⟨rfl, rfl, rfl, rfl, rfl, rfl, rfl, rfl, rfl, rfl, rfl, rfl, rfl, rfl, rfl, rfl, rfl, rfl, trivial⟩, ListI.none hps (decide_eq_true hps) H⟩
      clear H
      rintro a37 w H
      ((conv=>whnf);repeat(first|(refine mvT ?_;conv=>whnf)|(refine mvF ?_;conv=>whnf)|(refine cT (by rfl) ?_;conv=>whnf)|(refine cF (by rfl) ?_;conv=>whnf)))
      have hpL37 : inL ((g31, 192, es31.flatten ++ [.int .i32 n32, .int .i32 n34, .slice none 0 0, .map none] ++ ((List.replicate (n31.toNat - (i31 + 1)) [.int .i32 0, .int .i32 0, .slice none 0 0, .map none]).flatten ++ post31)) :: L31) p := inL.tail hpL31
      refine VL.loop (fun i : Nat => [(38, .int .i32 n37), (37, a37), (39, .int .i32 i), (0, .pointer (some ⟨p, 0, none⟩)), (2, .bool false), (7, .pointer (some ⟨pb, 0, none⟩)), (8, .int .i16 v), (9, .bool fx), (10, .pointer (some ⟨p, 0, none⟩)), (23, .int .i32 n27), (22, .slice (some ⟨g27, 0, none⟩) n27.toNat cap27), (24, .int .i32 i27), (25, .pointer (some ⟨g27, 0 + (i27 : Int).toNat * 18, none⟩)), (26, .pointer (some ⟨g27, 0 + (i27 : Int).toNat * 18, none⟩)), (30, .int .i32 n31), (29, .slice (some ⟨g31, 0, none⟩) n31.toNat cap31), (31, .int .i32 i31), (32, .pointer (some ⟨g31, 0 + (i31 : Int).toNat * 4, none⟩)), (33, .pointer (some ⟨g31, 0 + (i31 : Int).toNat * 4, none⟩))]) (fun i w' => i ≤ 2147483647 ∧ ListI w0 G0 p pb 196 [.int .i64 0, .int .i64 0, .slice none 0 0, .map none] (elR 6 v fx 10 dShareFetchRequestTopicPartitionAcknowledgementBatch) (elQ true 6 10 dShareFetchRequestTopicPartitionAcknowledgementBatch) s37 n37 (decide (n37 ≤ 0)) ((g31, 192, es31.flatten ++ [.int .i32 n32, .int .i32 n34, .slice none 0 0, .map none] ++ ((List.replicate (n31.toNat - (i31 + 1)) [.int .i32 0, .int .i32 0, .slice none 0 0, .map none]).flatten ++ post31)) :: L31) P31 a37 i w') (fun i => n37.toNat - i) 0 ⟨rfl, rfl, rfl, rfl, rfl, rfl, rfl, rfl, rfl, rfl, rfl, rfl, rfl, rfl, rfl, rfl, rfl, rfl, rfl, trivial⟩ ⟨by decide, H⟩ ?_
      clear H
      rintro i37 w ⟨hi37, H⟩
      ((conv=>whnf);repeat(first|(refine mvT ?_;conv=>whnf)|(refine mvF ?_;conv=>whnf)|(refine cT (by rfl) ?_;conv=>whnf)|(refine cF (by rfl) ?_;conv=>whnf)))
      refine cI (by rfl) (fun h9=>?_) (fun h9=>?_)
      · have hlt37 : (i37 : Int) < n37 := of_decide_eq_true h9
        obtain ⟨g37, cap37, post37, rfl, hgo37, HI⟩ := H.go hlt37
        obtain ⟨es37, ts37, si37, hes37, hez37, hrn37, hts37, hlen3, H⟩ := HI.open hgo37.2.2.2.2
        obtain ⟨L37, hL37⟩ : ∃ L : List Ob, L = ((g31, 192, es31.flatten ++ [.int .i32 n32, .int .i32 n34, .slice none 0 0, .map none] ++ ((List.replicate (n31.toNat - (i31 + 1)) [.int .i32 0, .int .i32 0, .slice none 0 0, .map none]).flatten ++ post31)) :: L31) := ⟨_, rfl⟩
        rw [← hL37] at H hpL37
        obtain ⟨P37, hP37⟩ : ∃ P : World → Prop, P = fun w => (∀ (j : Nat) (c : List Value) (y : T), es37[j]? = some c → ts37[j]? = some y → elQ true 6 10 dShareFetchRequestTopicPartitionAcknowledgementBatch ⟨w, fun k => k ≠ p⟩ c y) ∧ P31 w := ⟨_, rfl⟩
        rw [← hP37] at H
        replace H : St w0 G0 p pb si37 ((g37, 196, es37.flatten ++ [.int .i64 0, .int .i64 0, .slice none 0 0, .map none] ++ ((List.replicate (n37.toNat - (i37 + 1)) [.int .i64 0, .int .i64 0, .slice none 0 0, .map none]).flatten ++ post37)) :: L37) P37 w := H
        ((conv=>whnf);repeat(first|(refine mvT ?_;conv=>whnf)|(refine mvF ?_;conv=>whnf)|(refine cT (by rfl) ?_;conv=>whnf)|(refine cF (by rfl) ?_;conv=>whnf)))
        refine ⟨g37, 0, rfl, ⟨by omega, by omega⟩, ?_⟩
        ((conv=>whnf);repeat(first|(refine mvT ?_;conv=>whnf)|(refine mvF ?_;conv=>whnf)|(refine cT (by rfl) ?_;conv=>whnf)|(refine cF (by rfl) ?_;conv=>whnf)))
        refine Does.mono (dfShareFetchRequestTopicPartitionAcknowledgementBatch (pre := es37.flatten) (cur := [.int .i64 0, .int .i64 0, .slice none 0 0, .map none]) (post := ((List.replicate (n37.toNat - (i37 + 1)) [.int .i64 0, .int .i64 0, .slice none 0 0, .map none]).flatten ++ post37)) H.head (by first | (rw [hlen3]; simp; done) | (simp [hlen3]; done) | (simp [hlen3]; omega)) rfl) ?_
        rintro rd w2 ⟨hdf, hxd⟩
        replace H := H.put hdf hxd
        clear hdf hxd
        replace H : St w0 G0 p pb si37 ((g37, 196, es37.flatten ++ [.int .i64 0, .int .i64 0, .slice none 0 0, .map none] ++ ((List.replicate (n37.toNat - (i37 + 1)) [.int .i64 0, .int .i64 0, .slice none 0 0, .map none]).flatten ++ post37)) :: L37) P37 w2 := H
        ((conv=>whnf);repeat(first|(refine mvT ?_;conv=>whnf)|(refine mvF ?_;conv=>whnf)|(refine cT (by rfl) ?_;conv=>whnf)|(refine cF (by rfl) ?_;conv=>whnf)))
        have hup37 : tailBad 6 v fx dShareFetchRequestTopicPartitionAcknowledgementBatch si37 = true → (rdPart 9 v fx dShareFetchRequest (l, false)).2.2 = true := by
          intro hb
          refine hup31 ?_
          rw [tail_yes (rdField3.trans hr32) ⟨by decide, has_all hv⟩, tail_ver hr34 (by decide), tail_el ⟨by decide, has_all hv⟩ hln37 hgo37.2.2.2.2 hrn37 hb]
        refine Does.mono H.int64 ?_
        rintro r w ⟨n38, s38, rfl, hn38, hr38, H⟩
        ((conv=>whnf);repeat(first|(refine mvT ?_;conv=>whnf)|(refine mvF ?_;conv=>whnf)|(refine cT (by rfl) ?_;conv=>whnf)|(refine cF (by rfl) ?_;conv=>whnf)))
        refine H.st1 (v := .int .i64 n38) 0 (rfl) (rfl) rfl (by first | omega | (simp [hlen3]; done) | (simp [hlen3]; omega)) rfl (Nat.lt_of_lt_of_le (Nat.lt_succ_self _) (Nat.le_of_ble_eq_true rfl)) ?_
        intro w H
        ((conv=>whnf);repeat(first|(refine mvT ?_;conv=>whnf)|(refine mvF ?_;conv=>whnf)|(refine cT (by rfl) ?_;conv=>whnf)|(refine cF (by rfl) ?_;conv=>whnf)))
        replace H : St w0 G0 p pb s38 ((g37, 196, es37.flatten ++ [.int .i64 n38, .int .i64 0, .slice none 0 0, .map none] ++ ((List.replicate (n37.toNat - (i37 + 1)) [.int .i64 0, .int .i64 0, .slice none 0 0, .map none]).flatten ++ post37)) :: L37) P37 w := H
        refine Does.mono H.int64 ?_
        rintro r w ⟨n40, s40, rfl, hn40, hr40, H⟩
        ((conv=>whnf);repeat(first|(refine mvT ?_;conv=>whnf)|(refine mvF ?_;conv=>whnf)|(refine cT (by rfl) ?_;conv=>whnf)|(refine cF (by rfl) ?_;conv=>whnf)))
        refine H.st1 (v := .int .i64 n40) 1 (rfl) (rfl) rfl (by first | omega | (simp [hlen3]; done) | (simp [hlen3]; omega)) rfl (Nat.lt_of_lt_of_le (Nat.lt_succ_self _) (Nat.le_of_ble_eq_true rfl)) ?_
        intro w H
        ((conv=>whnf);repeat(first|(refine mvT ?_;conv=>whnf)|(refine mvF ?_;conv=>whnf)|(refine cT (by rfl) ?_;conv=>whnf)|(refine cF (by rfl) ?_;conv=>whnf)))
        replace H : St w0 G0 p pb s40 ((g37, 196, es37.flatten ++ [.int .i64 n38, .int .i64 n40, .slice none 0 0, .map none] ++ ((List.replicate (n37.toNat - (i37 + 1)) [.int .i64 0, .int .i64 0, .slice none 0 0, .map none]).flatten ++ post37)) :: L37) P37 w := H
        refine ⟨_, ld (H.cell rfl (k := 2) rfl) (by first | omega | (simp [hlen3]; done) | (simp [hlen3]; omega)), ?_⟩; ((conv=>whnf);repeat(first|(refine mvT ?_;conv=>whnf)|(refine mvF ?_;conv=>whnf)|(refine cT (by rfl) ?_;conv=>whnf)|(refine cF (by rfl) ?_;conv=>whnf)))
        (refine mvB ?_;((conv=>whnf);repeat(first|(refine mvT ?_;conv=>whnf)|(refine mvF ?_;conv=>whnf)|(refine cT (by rfl) ?_;conv=>whnf)|(refine cF (by rfl) ?_;conv=>whnf))))
        refine VC.cutE (fun q : Int × Rd => [(46, .int .i32 q.1), (45, .slice none 0 0), (0, .pointer (some ⟨p, 0, none⟩)), (2, .bool false), (7, .pointer (some ⟨pb, 0, none⟩)), (8, .int .i16 v), (9, .bool fx), (10, .pointer (some ⟨p, 0, none⟩)), (23, .int .i32 n27), (22, .slice (some ⟨g27, 0, none⟩) n27.toNat cap27), (24, .int .i32 i27), (25, .pointer (some ⟨g27, 0 + (i27 : Int).toNat * 18, none⟩)), (26, .pointer (some ⟨g27, 0 + (i27 : Int).toNat * 18, none⟩)), (30, .int .i32 n31), (29, .slice (some ⟨g31, 0, none⟩) n31.toNat cap31), (31, .int .i32 i31), (32, .pointer (some ⟨g31, 0 + (i31 : Int).toNat * 4, none⟩)), (33, .pointer (some ⟨g31, 0 + (i31 : Int).toNat * 4, none⟩)), (38, .int .i32 n37), (37, .slice (some ⟨g37, 0, none⟩) n37.toNat cap37), (39, .int .i32 i37), (40, .pointer (some ⟨g37, 0 + (i37 : Int).toNat * 4, none⟩)), (41, .pointer (some ⟨g37, 0 + (i37 : Int).toNat * 4, none⟩))]) (fun q w' => (-2147483648 ≤ q.1 ∧ q.1 ≤ 2147483647) ∧ rdLn fx s40 = q ∧ St w0 G0 p pb q.2 ((g37, 196, es37.flatten ++ [.int .i64 n38, .int .i64 n40, .slice none 0 0, .map none] ++ ((List.replicate (n37.toNat - (i37 + 1)) [.int .i64 0, .int .i64 0, .slice none 0 0, .map none]).flatten ++ post37)) :: L37) P37 w') ?_ ?_
        · refine cI (by rfl) (fun hc=>?_) (fun hc=>?_)
          · ((conv=>whnf);repeat(first|(refine mvT ?_;conv=>whnf)|(refine mvF ?_;conv=>whnf)|(refine cT (by rfl) ?_;conv=>whnf)|(refine cF (by rfl) ?_;conv=>whnf)))
            refine Does.mono H.lnc ?_
            rintro r w ⟨n, s', rfl, hn, hr, H⟩
            ((conv=>whnf);repeat(first|(refine mvT ?_;conv=>whnf)|(refine mvF ?_;conv=>whnf)|(refine cT (by rfl) ?_;conv=>whnf)|(refine cF (by rfl) ?_;conv=>whnf)))
            exact ⟨(n, s'), ⟨rfl, rfl, rfl, rfl, rfl, rfl, rfl, rfl, rfl, rfl, rfl, rfl, rfl, rfl, rfl, rfl, rfl, rfl, rfl, rfl, rfl, rfl, rfl, trivial⟩, hn, by rw [hc]; exact hr, H⟩
          · ((conv=>whnf);repeat(first|(refine mvT ?_;conv=>whnf)|(refine mvF ?_;conv=>whnf)|(refine cT (by rfl) ?_;conv=>whnf)|(refine cF (by rfl) ?_;conv=>whnf)))
            refine Does.mono H.lnp ?_
            rintro r w ⟨n, s', rfl, hn, hr, H⟩
            ((conv=>whnf);repeat(first|(refine mvT ?_;conv=>whnf)|(refine mvF ?_;conv=>whnf)|(refine cT (by rfl) ?_;conv=>whnf)|(refine cF (by rfl) ?_;conv=>whnf)))
            exact ⟨(n, s'), ⟨rfl, rfl, rfl, rfl, rfl, rfl, rfl, rfl, rfl, rfl, rfl, rfl, rfl, rfl, rfl, rfl, rfl, rfl, rfl, rfl, rfl, rfl, rfl, trivial⟩, hn, by rw [hc]; exact hr, H⟩
        clear H
        rintro ⟨n42, s42⟩ w ⟨hn42, hln42, H⟩
        dsimp only at hn42 hln42 H
        ((conv=>whnf);repeat(first|(refine mvT ?_;conv=>whnf)|(refine mvF ?_;conv=>whnf)|(refine cT (by rfl) ?_;conv=>whnf)|(refine cF (by rfl) ?_;conv=>whnf)))
        refine Does.mono H.ok ?_
        rintro r w ⟨rfl, H⟩
        ((conv=>whnf);repeat(first|(refine mvT ?_;conv=>whnf)|(refine mvF ?_;conv=>whnf)|(refine cT (by rfl) ?_;conv=>whnf)|(refine cF (by rfl) ?_;conv=>whnf)))
        refine cI (by rfl) (fun hbd=>?_) (fun hbd=>?_)
        · have hbd : s42.2 = true := by simpa using hbd
          ((conv=>whnf);repeat(first|(refine mvT ?_;conv=>whnf)|(refine mvF ?_;conv=>whnf)|(refine cT (by rfl) ?_;conv=>whnf)|(refine cF (by rfl) ?_;conv=>whnf)))
          refine Does.mono (H.done hL hp1) ?_
          rintro r w ⟨rfl, H⟩
          ((conv=>whnf);repeat(first|(refine mvT ?_;conv=>whnf)|(refine mvF ?_;conv=>whnf)|(refine cT (by rfl) ?_;conv=>whnf)|(refine cF (by rfl) ?_;conv=>whnf)))
          refine RdPost.early hbd (hup37 (?_)) H
          rw [tail_yes (rdField4.trans hr38) ⟨by decide, has_all hv⟩, tail_yes (rdField4.trans hr40) ⟨by decide, has_all hv⟩, tail_len ⟨by decide, has_all hv⟩ hln42 hbd]
        have hbd : s42.2 = false := by simpa using hbd
        clear hbd
        ((conv=>whnf);repeat(first|(refine mvT ?_;conv=>whnf)|(refine mvF ?_;conv=>whnf)|(refine cT (by rfl) ?_;conv=>whnf)|(refine cF (by rfl) ?_;conv=>whnf)))
        refine cut_zero ?_
        ((conv=>whnf);repeat(first|(refine mvT ?_;conv=>whnf)|(refine mvF ?_;conv=>whnf)|(refine cT (by rfl) ?_;conv=>whnf)|(refine cF (by rfl) ?_;conv=>whnf)))
        refine VC.cutE (fun a : Value => [(46, .int .i32 n42), (45, a), (0, .pointer (some ⟨p, 0, none⟩)), (2, .bool false), (7, .pointer (some ⟨pb, 0, none⟩)), (8, .int .i16 v), (9, .bool fx), (10, .pointer (some ⟨p, 0, none⟩)), (23, .int .i32 n27), (22, .slice (some ⟨g27, 0, none⟩) n27.toNat cap27), (24, .int .i32 i27), (25, .pointer (some ⟨g27, 0 + (i27 : Int).toNat * 18, none⟩)), (26, .pointer (some ⟨g27, 0 + (i27 : Int).toNat * 18, none⟩)), (30, .int .i32 n31), (29, .slice (some ⟨g31, 0, none⟩) n31.toNat cap31), (31, .int .i32 i31), (32, .pointer (some ⟨g31, 0 + (i31 : Int).toNat * 4, none⟩)), (33, .pointer (some ⟨g31, 0 + (i31 : Int).toNat * 4, none⟩)), (38, .int .i32 n37), (37, .slice (some ⟨g37, 0, none⟩) n37.toNat cap37), (39, .int .i32 i37), (40, .pointer (some ⟨g37, 0 + (i37 : Int).toNat * 4, none⟩)), (41, .pointer (some ⟨g37, 0 + (i37 : Int).toNat * 4, none⟩))]) (fun a w' => ListI w0 G0 p pb 138 [.int .i8 0] (elR 5 v fx 1 []) (elQ true 5 1 []) s42 n42 (decide (n42 ≤ 0)) ((g37, 196, es37.flatten ++ [.int .i64 n38, .int .i64 n40, .slice none 0 0, .map none] ++ ((List.replicate (n37.toNat - (i37 + 1)) [.int .i64 0, .int .i64 0, .slice none 0 0, .map none]).flatten ++ post37)) :: L37) P37 a 0 w') ?_ ?_
        · refine cI (by rfl) (fun hps=>?_) (fun hps=>?_)
          · have hps : 0 < n42 := by have := of_decide_eq_true hps; omega
            ((conv=>whnf);repeat(first|(refine mvT ?_;conv=>whnf)|(refine mvF ?_;conv=>whnf)|(refine cT (by rfl) ?_;conv=>whnf)|(refine cF (by rfl) ?_;conv=>whnf)))
            refine H.grow hps hn42.2 (by decide) rfl rfl (by decide) ?_
            intro g cap post w hc1 hc2 H
            ((conv=>whnf);repeat(first|(refine mvT ?_;conv=>whnf)|(refine mvF ?_;conv=>whnf)|(refine cT (by rfl) ?_;conv=>whnf)|(refine cF (by rfl) ?_;conv=>whnf)))
            exact ⟨_, ⟨rfl, rfl, rfl, rfl, rfl, rfl, rfl, rfl, rfl, rfl, rfl, rfl, rfl, rfl, rfl, rfl, rfl, rfl, rfl, rfl, rfl, rfl, rfl, trivial⟩, ListI.some hps (decide_eq_false (by omega)) hc1 hc2 H⟩
          · have hps : n42 ≤ 0 := by have := of_decide_eq_false hps; omega
            ((conv=>whnf);repeat(first|(refine mvT ?_;conv=>whnf)|(refine mvF ?_;conv=>whnf)|(refine cT (by rfl) ?_;conv=>whnf)|(refine cF (by rfl) ?_;conv=>whnf)))
            exact ⟨_, ⟨rfl, rfl, rfl, rfl, rfl, rfl, rfl, rfl, rfl, rfl, rfl, rfl, rfl, rfl, rfl, rfl, rfl, rfl, rfl, rfl, rfl, rfl, rfl, trivial⟩, ListI.none hps (decide_eq_true hps) H⟩
        clear H
        rintro a42 w H
        ((conv=>whnf);repeat(first|(refine mvT ?_;conv=>whnf)|(refine mvF ?_;conv=>whnf)|(refine cT (by rfl) ?_;conv=>whnf)|(refine cF (by rfl) ?_;conv=>whnf)))
        have hpL42 : inL ((g37, 196, es37.flatten ++ [.int .i64 n38, .int .i64 n40, .slice none 0 0, .map none] ++ ((List.replicate (n37.toNat - (i37 + 1)) [.int .i64 0, .int .i64 0, .slice none 0 0, .map none]).flatten ++ post37)) :: L37) p := inL.tail hpL37
        refine VL.loop (fun i : Nat => [(46, .int .i32 n42), (45, a42), (47, .int .i32 i), (0, .pointer (some ⟨p, 0, none⟩)), (2, .bool false), (7, .pointer (some ⟨pb, 0, none⟩)), (8, .int .i16 v), (9, .bool fx), (10, .pointer (some ⟨p, 0, none⟩)), (23, .int .i32 n27), (22, .slice (some ⟨g27, 0, none⟩) n27.toNat cap27), (24, .int .i32 i27), (25, .pointer (some ⟨g27, 0 + (i27 : Int).toNat * 18, none⟩)), (26, .pointer (some ⟨g27, 0 + (i27 : Int).toNat * 18, none⟩)), (30, .int .i32 n31), (29, .slice (some ⟨g31, 0, none⟩) n31.toNat cap31), (31, .int .i32 i31), (32, .pointer (some ⟨g31, 0 + (i31 : Int).toNat * 4, none⟩)), (33, .pointer (some ⟨g31, 0 + (i31 : Int).toNat * 4, none⟩)), (38, .int .i32 n37), (37, .slice (some ⟨g37, 0, none⟩) n37.toNat cap37), (39, .int .i32 i37), (40, .pointer (some ⟨g37, 0 + (i37 : Int).toNat * 4, none⟩)), (41, .pointer (some ⟨g37, 0 + (i37 : Int).toNat * 4, none⟩))]) (fun i w' => i ≤ 2147483647 ∧ ListI w0 G0 p pb 138 [.int .i8 0] (elR 5 v fx 1 []) (elQ true 5 1 []) s42 n42 (decide (n42 ≤ 0)) ((g37, 196, es37.flatten ++ [.int .i64 n38, .int .i64 n40, .slice none 0 0, .map none] ++ ((List.replicate (n37.toNat - (i37 + 1)) [.int .i64 0, .int .i64 0, .slice none 0 0, .map none]).flatten ++ post37)) :: L37) P37 a42 i w') (fun i => n42.toNat - i) 0 ⟨rfl, rfl, rfl, rfl, rfl, rfl, rfl, rfl, rfl, rfl, rfl, rfl, rfl, rfl, rfl, rfl, rfl, rfl, rfl, rfl, rfl, rfl, rfl, rfl, trivial⟩ ⟨by decide, H⟩ ?_
        clear H
        rintro i42 w ⟨hi42, H⟩
        ((conv=>whnf);repeat(first|(refine mvT ?_;conv=>whnf)|(refine mvF ?_;conv=>whnf)|(refine cT (by rfl) ?_;conv=>whnf)|(refine cF (by rfl) ?_;conv=>whnf)))
        refine cI (by rfl) (fun h9=>?_) (fun h9=>?_)
        · have hlt42 : (i42 : Int) < n42 := of_decide_eq_true h9
          obtain ⟨g42, cap42, post42, rfl, hgo42, HI⟩ := H.go hlt42
          obtain ⟨es42, ts42, si42, hes42, hez42, hrn42, hts42, hlen4, H⟩ := HI.open hgo42.2.2.2.2
          obtain ⟨L42, hL42⟩ : ∃ L : List Ob, L = ((g37, 196, es37.flatten ++ [.int .i64 n38, .int .i64 n40, .slice none 0 0, .map none] ++ ((List.replicate (n37.toNat - (i37 + 1)) [.int .i64 0, .int .i64 0, .slice none 0 0, .map none]).flatten ++ post37)) :: L37) := ⟨_, rfl⟩
          rw [← hL42] at H hpL42
          obtain ⟨P42, hP42⟩ : ∃ P : World → Prop, P = fun w => (∀ (j : Nat) (c : List Value) (y : T), es42[j]? = some c → ts42[j]? = some y → elQ true 5 1 [] ⟨w, fun k => k ≠ p⟩ c y) ∧ P37 w := ⟨_, rfl⟩
          rw [← hP42] at H
          replace H : St w0 G0 p pb si42 ((g42, 138, es42.flatten ++ [.int .i8 0] ++ ((List.replicate (n42.toNat - (i42 + 1)) [.int .i8 0]).flatten ++ post42)) :: L42) P42 w := H
          ((conv=>whnf);repeat(first|(refine mvT ?_;conv=>whnf)|(refine mvF ?_;conv=>whnf)|(refine cT (by rfl) ?_;conv=>whnf)|(refine cF (by rfl) ?_;conv=>whnf)))
          refine Does.mono H.int8 ?_
          rintro r w ⟨n43, s43, rfl, hn43, hr43, H⟩
          ((conv=>whnf);repeat(first|(refine mvT ?_;conv=>whnf)|(refine mvF ?_;conv=>whnf)|(refine cT (by rfl) ?_;conv=>whnf)|(refine cF (by rfl) ?_;conv=>whnf)))
          refine ⟨g42, 0, rfl, ⟨by omega, by omega⟩, ?_⟩
          ((conv=>whnf);repeat(first|(refine mvT ?_;conv=>whnf)|(refine mvF ?_;conv=>whnf)|(refine cT (by rfl) ?_;conv=>whnf)|(refine cF (by rfl) ?_;conv=>whnf)))
          refine H.st1 (v := .int .i8 n43) 0 (rfl) (rfl) rfl (by first | omega | (simp [hlen4]; done) | (simp [hlen4]; omega)) rfl (Nat.lt_of_lt_of_le (Nat.lt_succ_self _) (Nat.le_of_ble_eq_true rfl)) ?_
          intro w H
          ((conv=>whnf);repeat(first|(refine mvT ?_;conv=>whnf)|(refine mvF ?_;conv=>whnf)|(refine cT (by rfl) ?_;conv=>whnf)|(refine cF (by rfl) ?_;conv=>whnf)))
          replace H : St w0 G0 p pb s43 ((g42, 138, es42.flatten ++ [.int .i8 n43] ++ ((List.replicate (n42.toNat - (i42 + 1)) [.int .i8 0]).flatten ++ post42)) :: L42) P42 w := H
          refine ⟨i42 + 1, ⟨rfl, rfl, ?_, rfl, rfl, rfl, rfl, rfl, rfl, rfl, rfl, rfl, rfl, rfl, rfl, rfl, rfl, rfl, rfl, rfl, rfl, rfl, rfl, rfl, trivial⟩, ⟨by omega, ListI.back hgo42 (LoopI.next hes42 hez42 hrn42 hts42 (cur := [.int .i8 n43]) (x := numT n43) (hr43) rfl (by rw [← hL42]; exact H) fun w hP => ?_)⟩, by omega⟩
          · show some (Value.int .i32 _) = _
            rw [IntKind.wrap_i32]
            simp only [Option.some.injEq, Value.int.injEq, true_and]
            omega
          · skip
            rw [hP42] at hP
            exact ⟨⟨_, hn43, rfl, rfl⟩, hP⟩
        have hge42 : ¬ (i42 : Int) < n42 := of_decide_eq_false h9
        obtain ⟨l44, s44, hone44, hl44, hr44, H⟩ := H.done hge42 hln42 (nl := nlF (.mk 11 0 (-1) (-1) (-1) 0 1 []) v) (sz := elZ true 5 1 []) rfl hpL42 rfl
        ((conv=>whnf);repeat(first|(refine mvT ?_;conv=>whnf)|(refine mvF ?_;conv=>whnf)|(refine cT (by rfl) ?_;conv=>whnf)|(refine cF (by rfl) ?_;conv=>whnf)))
        obtain ⟨P45, hP45⟩ : ∃ P : World → Prop, P = fun w => ListR true (elZ true 5 1 []) (elQ true 5 1 [] ⟨w, fun k => k ≠ p⟩) w (fun k => k ≠ p) a42 (.mk 0 [] (decide (n42 ≤ 0)) l44 []) ∧ P37 w := ⟨_, rfl⟩
        replace H : St w0 G0 p pb s44 ((g37, 196, es37.flatten ++ [.int .i64 n38, .int .i64 n40, .slice none 0 0, .map none] ++ ((List.replicate (n37.toNat - (i37 + 1)) [.int .i64 0, .int .i64 0, .slice none 0 0, .map none]).flatten ++ post37)) :: L37) P45 w := by rw [hP45]; exact H
        refine H.st1 (v := a42) 2 (cells_one hone44) (hone44) rfl (by first | omega | (simp [hlen3]; done) | (simp [hlen3]; omega)) rfl (Nat.lt_of_lt_of_le (Nat.lt_succ_self _) (Nat.le_of_ble_eq_true rfl)) ?_
        intro w H
        ((conv=>whnf);repeat(first|(refine mvT ?_;conv=>whnf)|(refine mvF ?_;conv=>whnf)|(refine cT (by rfl) ?_;conv=>whnf)|(refine cF (by rfl) ?_;conv=>whnf)))
        replace H : St w0 G0 p pb s44 ((g37, 196, es37.flatten ++ [.int .i64 n38, .int .i64 n40, a42, .map none] ++ ((List.replicate (n37.toNat - (i37 + 1)) [.int .i64 0, .int .i64 0, .slice none 0 0, .map none]).flatten ++ post37)) :: L37) P45 w := H
        (refine mvB ?_;((conv=>whnf);repeat(first|(refine mvT ?_;conv=>whnf)|(refine mvF ?_;conv=>whnf)|(refine cT (by rfl) ?_;conv=>whnf)|(refine cF (by rfl) ?_;conv=>whnf))))
        refine VC.cutB (fun q : Value × List Tg × Rd => [(0, .pointer (some ⟨p, 0, none⟩)), (2, .bool false), (7, .pointer (some ⟨pb, 0, none⟩)), (8, .int .i16 v), (9, .bool fx), (10, .pointer (some ⟨p, 0, none⟩)), (23, .int .i32 n27), (22, .slice (some ⟨g27, 0, none⟩) n27.toNat cap27), (24, .int .i32 i27), (25, .pointer (some ⟨g27, 0 + (i27 : Int).toNat * 18, none⟩)), (26, .pointer (some ⟨g27, 0 + (i27 : Int).toNat * 18, none⟩)), (30, .int .i32 n31), (29, .slice (some ⟨g31, 0, none⟩) n31.toNat cap31), (31, .int .i32 i31), (32, .pointer (some ⟨g31, 0 + (i31 : Int).toNat * 4, none⟩)), (33, .pointer (some ⟨g31, 0 + (i31 : Int).toNat * 4, none⟩)), (38, .int .i32 n37), (37, .slice (some ⟨g37, 0, none⟩) n37.toNat cap37), (39, .int .i32 i37), (40, .pointer (some ⟨g37, 0 + (i37 : Int).toNat * 4, none⟩)), (41, .pointer (some ⟨g37, 0 + (i37 : Int).toNat * 4, none⟩))]) (fun q w' => rdTagsF fx s44 = q.2 ∧ St w0 G0 p pb q.2.2 ((g37, 196, es37.flatten ++ [.int .i64 n38, .int .i64 n40, a42, q.1] ++ ((List.replicate (n37.toNat - (i37 + 1)) [.int .i64 0, .int .i64 0, .slice none 0 0, .map none]).flatten ++ post37)) :: L37) (fun w => TGf p q.1 q.2.1 w ∧ P45 w) w') ?_ ?_
        · refine cI (by rfl) (fun hc=>?_) (fun hc=>?_)
          · ((conv=>whnf);repeat(first|(refine mvT ?_;conv=>whnf)|(refine mvF ?_;conv=>whnf)|(refine cT (by rfl) ?_;conv=>whnf)|(refine cF (by rfl) ?_;conv=>whnf)))
            refine Does.mono H.tags ?_
            rintro r w ⟨m, u, s', rfl, hone, hr, H⟩
            ((conv=>whnf);repeat(first|(refine mvT ?_;conv=>whnf)|(refine mvF ?_;conv=>whnf)|(refine cT (by rfl) ?_;conv=>whnf)|(refine cF (by rfl) ?_;conv=>whnf)))
            refine H.st1 (v := m) 3 (rfl) (hone) rfl (by first | omega | (simp [hlen3]; done) | (simp [hlen3]; omega)) rfl (Nat.lt_of_lt_of_le (Nat.lt_succ_self _) (Nat.le_of_ble_eq_true rfl)) ?_
            intro w H
            ((conv=>whnf);repeat(first|(refine mvT ?_;conv=>whnf)|(refine mvF ?_;conv=>whnf)|(refine cT (by rfl) ?_;conv=>whnf)|(refine cF (by rfl) ?_;conv=>whnf)))
            exact ⟨(m, u, s'), ⟨rfl, rfl, rfl, rfl, rfl, rfl, rfl, rfl, rfl, rfl, rfl, rfl, rfl, rfl, rfl, rfl, rfl, rfl, rfl, rfl, rfl, trivial⟩, by rw [rdTagsF, if_pos hc]; exact hr, H⟩
          · ((conv=>whnf);repeat(first|(refine mvT ?_;conv=>whnf)|(refine mvF ?_;conv=>whnf)|(refine cT (by rfl) ?_;conv=>whnf)|(refine cF (by rfl) ?_;conv=>whnf)))
            exact ⟨(.map none, [], s44), ⟨rfl, rfl, rfl, rfl, rfl, rfl, rfl, rfl, rfl, rfl, rfl, rfl, rfl, rfl, rfl, rfl, rfl, rfl, rfl, rfl, rfl, trivial⟩, by rw [rdTagsF, if_neg (by rw [hc]; decide)], H.add fun w' _ => TagsR.nil _ _⟩
        clear H
        rintro ⟨m47, u47, s47⟩ w ⟨htg, H⟩
        dsimp only at htg H
        ((conv=>whnf);repeat(first|(refine mvT ?_;conv=>whnf)|(refine mvF ?_;conv=>whnf)|(refine cT (by rfl) ?_;conv=>whnf)|(refine cF (by rfl) ?_;conv=>whnf)))
        obtain ⟨P48, hP48⟩ : ∃ P : World → Prop, P = fun w => TGf p m47 u47 w ∧ P45 w := ⟨_, rfl⟩
        replace H : St w0 G0 p pb s47 ((g37, 196, es37.flatten ++ [.int .i64 n38, .int .i64 n40, a42, m47] ++ ((List.replicate (n37.toNat - (i37 + 1)) [.int .i64 0, .int .i64 0, .slice none 0 0, .map none]).flatten ++ post37)) :: L37) P48 w := by rw [hP48]; exact H
        have hpart : rdPart 6 v fx dShareFetchRequestTopicPartitionAcknowledgementBatch si37 = (.mk 0 [] false [numT n38, numT n40, .mk 0 [] (decide (n42 ≤ 0)) l44 []] u47, s47) := by
          unfold rdPart rdPartW
          rw [rdAll_yes (df := dfT 6) (rdField4.trans hr38) ⟨by decide, has_all hv⟩, rdAll_yes (df := dfT 6) (rdField4.trans hr40) ⟨by decide, has_all hv⟩, rdAll_yes (df := dfT 6) ((rdField_list _ _ _ _ _ _ _ _ _ _ _).trans hr44) ⟨by decide, has_all hv⟩]
          simp only [rdAll]
          rw [htg]
        refine ⟨i37 + 1, ⟨rfl, rfl, ?_, rfl, rfl, rfl, rfl, rfl, rfl, rfl, rfl, rfl, rfl, rfl, rfl, rfl, rfl, rfl, rfl, trivial⟩, ⟨by omega, ListI.back hgo37 (LoopI.next hes37 hez37 hrn37 hts37 (cur := [.int .i64 n38, .int .i64 n40, a42, m47]) (x := .mk 0 [] false [numT n38, numT n40, .mk 0 [] (decide (n42 ≤ 0)) l44 []] u47) (hpart) rfl (by rw [← hL37]; exact H) fun w hP => ?_)⟩, by omega⟩
        · show some (Value.int .i32 _) = _
          rw [IntKind.wrap_i32]
          simp only [Option.some.injEq, Value.int.injEq, true_and]
          omega
        · skip
          rw [hP48] at hP
          obtain ⟨hf48_, hP⟩ := hP
          rw [hP45] at hP
          obtain ⟨hf45_, hP⟩ := hP
          rw [hP37] at hP
          exact ⟨QPt (QA1 (QF4 hn38) (QA1 (QF4 hn40) (QA1 (QF11 hl44 hf45_) (QA0)))) hf48_, hP⟩
      have hge37 : ¬ (i37 : Int) < n37 := of_decide_eq_false h9
      obtain ⟨l49, s49, hone49, hl49, hr49, H⟩ := H.done hge37 hln37 (nl := nlF (.mk 11 0 (-1) (-1) (-1) 0 10 dShareFetchRequestTopicPartitionAcknowledgementBatch) v) (sz := elZ true 6 10 dShareFetchRequestTopicPartitionAcknowledgementBatch) rfl hpL37 rfl
      ((conv=>whnf);repeat(first|(refine mvT ?_;conv=>whnf)|(refine mvF ?_;conv=>whnf)|(refine cT (by rfl) ?_;conv=>whnf)|(refine cF (by rfl) ?_;conv=>whnf)))
      obtain ⟨P50, hP50⟩ : ∃ P : World → Prop, P = fun w => ListR true (elZ true 6 10 dShareFetchRequestTopicPartitionAcknowledgementBatch) (elQ true 6 10 dShareFetchRequestTopicPartitionAcknowledgementBatch ⟨w, fun k => k ≠ p⟩) w (fun k => k ≠ p) a37 (.mk 0 [] (decide (n37 ≤ 0)) l49 []) ∧ P31 w := ⟨_, rfl⟩
      replace H : St w0 G0 p pb s49 ((g31, 192, es31.flatten ++ [.int .i32 n32, .int .i32 n34, .slice none 0 0, .map none] ++ ((List.replicate (n31.toNat - (i31 + 1)) [.int .i32 0, .int .i32 0, .slice none 0 0, .map none]).flatten ++ post31)) :: L31) P50 w := by rw [hP50]; exact H
      refine H.st1 (v := a37) 2 (cells_one hone49) (hone49) rfl (by first | omega | (simp [hlen2]; done) | (simp [hlen2]; omega)) rfl (Nat.lt_of_lt_of_le (Nat.lt_succ_self _) (Nat.le_of_ble_eq_true rfl)) ?_
      intro w H
      ((conv=>whnf);repeat(first|(refine mvT ?_;conv=>whnf)|(refine mvF ?_;conv=>whnf)|(refine cT (by rfl) ?_;conv=>whnf)|(refine cF (by rfl) ?_;conv=>whnf)))
      replace H : St w0 G0 p pb s49 ((g31, 192, es31.flatten ++ [.int .i32 n32, .int .i32 n34, a37, .map none] ++ ((List.replicate (n31.toNat - (i31 + 1)) [.int .i32 0, .int .i32 0, .slice none 0 0, .map none]).flatten ++ post31)) :: L31) P50 w := H
      (refine mvB ?_;((conv=>whnf);repeat(first|(refine mvT ?_;conv=>whnf)|(refine mvF ?_;conv=>whnf)|(refine cT (by rfl) ?_;conv=>whnf)|(refine cF (by rfl) ?_;conv=>whnf))))
      refine VC.cutB (fun q : Value × List Tg × Rd => [(0, .pointer (some ⟨p, 0, none⟩)), (2, .bool false), (7, .pointer (some ⟨pb, 0, none⟩)), (8, .int .i16 v), (9, .bool fx), (10, .pointer (some ⟨p, 0, none⟩)), (23, .int .i32 n27), (22, .slice (some ⟨g27, 0, none⟩) n27.toNat cap27), (24, .int .i32 i27), (25, .pointer (some ⟨g27, 0 + (i27 : Int).toNat * 18, none⟩)), (26, .pointer (some ⟨g27, 0 + (i27 : Int).toNat * 18, none⟩)), (30, .int .i32 n31), (29, .slice (some ⟨g31, 0, none⟩) n31.toNat cap31), (31, .int .i32 i31), (32, .pointer (some ⟨g31, 0 + (i31 : Int).toNat * 4, none⟩)), (33, .pointer (some ⟨g31, 0 + (i31 : Int).toNat * 4, none⟩))]) (fun q w' => rdTagsF fx s49 = q.2 ∧ St w0 G0 p pb q.2.2 ((g31, 192, es31.flatten ++ [.int .i32 n32, .int .i32 n34, a37, q.1] ++ ((List.replicate (n31.toNat - (i31 + 1)) [.int .i32 0, .int .i32 0, .slice none 0 0, .map none]).flatten ++ post31)) :: L31) (fun w => TGf p q.1 q.2.1 w ∧ P50 w) w') ?_ ?_
      · refine cI (by rfl) (fun hc=>?_) (fun hc=>?_)
        · ((conv=>whnf);repeat(first|(refine mvT ?_;conv=>whnf)|(refine mvF ?_;conv=>whnf)|(refine cT (by rfl) ?_;conv=>whnf)|(refine cF (by rfl) ?_;conv=>whnf)))
          refine Does.mono H.tags ?_
          rintro r w ⟨m, u, s', rfl, hone, hr, H⟩
          ((conv=>whnf);repeat(first|(refine mvT ?_;conv=>whnf)|(refine mvF ?_;conv=>whnf)|(refine cT (by rfl) ?_;conv=>whnf)|(refine cF (by rfl) ?_;conv=>whnf)))
          refine H.st1 (v := m) 3 (rfl) (hone) rfl (by first | omega | (simp [hlen2]; done) | (simp [hlen2]; omega)) rfl (Nat.lt_of_lt_of_le (Nat.lt_succ_self _) (Nat.le_of_ble_eq_true rfl)) ?_
          intro w H
          ((conv=>whnf);repeat(first|(refine mvT ?_;conv=>whnf)|(refine mvF ?_;conv=>whnf)|(refine cT (by rfl) ?_;conv=>whnf)|(refine cF (by rfl) ?_;conv=>whnf)))
          exact ⟨(m, u, s'), ⟨rfl, rfl, rfl, rfl, rfl, rfl, rfl, rfl, rfl, rfl, rfl, rfl, rfl, rfl, rfl, rfl, trivial⟩, by rw [rdTagsF, if_pos hc]; exact hr, H⟩
        · ((conv=>whnf);repeat(first|(refine mvT ?_;conv=>whnf)|(refine mvF ?_;conv=>whnf)|(refine cT (by rfl) ?_;conv=>whnf)|(refine cF (by rfl) ?_;conv=>whnf)))
          exact ⟨(.map none, [], s49), ⟨rfl, rfl, rfl, rfl, rfl, rfl, rfl, rfl, rfl, rfl, rfl, rfl, rfl, rfl, rfl, rfl, trivial⟩, by rw [rdTagsF, if_neg (by rw [hc]; decide)], H.add fun w' _ => TagsR.nil _ _⟩
      clear H
      rintro ⟨m52, u52, s52⟩ w ⟨htg, H⟩
      dsimp only at htg H
      ((conv=>whnf);repeat(first|(refine mvT ?_;conv=>whnf)|(refine mvF ?_;conv=>whnf)|(refine cT (by rfl) ?_;conv=>whnf)|(refine cF (by rfl) ?_;conv=>whnf)))
      obtain ⟨P53, hP53⟩ : ∃ P : World → Prop, P = fun w => TGf p m52 u52 w ∧ P50 w := ⟨_, rfl⟩
      replace H : St w0 G0 p pb s52 ((g31, 192, es31.flatten ++ [.int .i32 n32, .int .i32 n34, a37, m52] ++ ((List.replicate (n31.toNat - (i31 + 1)) [.int .i32 0, .int .i32 0, .slice none 0 0, .map none]).flatten ++ post31)) :: L31) P53 w := by rw [hP53]; exact H
      have hpart : rdPart 7 v fx dShareFetchRequestTopicPartition si31 = (.mk 0 [] false [numT n32, numT n34, .mk 0 [] (decide (n37 ≤ 0)) l49 []] u52, s52) := by
        unfold rdPart rdPartW
        rw [rdAll_yes (df := dfT 7) (rdField3.trans hr32) ⟨by decide, has_all hv⟩, rdAll_ver hr34 (by decide), rdAll_yes (df := dfT 7) ((rdField_list _ _ _ _ _ _ _ _ _ _ _).trans hr49) ⟨by decide, has_all hv⟩]
        simp only [rdAll]
        rw [htg]
      refine ⟨i31 + 1, ⟨rfl, rfl, ?_, rfl, rfl, rfl, rfl, rfl, rfl, rfl, rfl, rfl, rfl, rfl, trivial⟩, ⟨by omega, ListI.back hgo31 (LoopI.next hes31 hez31 hrn31 hts31 (cur := [.int .i32 n32, .int .i32 n34, a37, m52]) (x := .mk 0 [] false [numT n32, numT n34, .mk 0 [] (decide (n37 ≤ 0)) l49 []] u52) (hpart) rfl (by rw [← hL31]; exact H) fun w hP => ?_)⟩, by omega⟩
      · show some (Value.int .i32 _) = _
        rw [IntKind.wrap_i32]
        simp only [Option.some.injEq, Value.int.injEq, true_and]
        omega
      · skip
        rw [hP53] at hP
        obtain ⟨hf53_, hP⟩ := hP
        rw [hP50] at hP
        obtain ⟨hf50_, hP⟩ := hP
        rw [hP31] at hP
        exact ⟨QPt (QA1 (QF3 hn32) (QA1 (QF3 hn34) (QA1 (QF11 hl49 hf50_) (QA0)))) hf53_, hP⟩
    have hge31 : ¬ (i31 : Int) < n31 := of_decide_eq_false h9
    obtain ⟨l54, s54, hone54, hl54, hr54, H⟩ := H.done hge31 hln31 (nl := nlF (.mk 11 0 (-1) (-1) (-1) 0 10 dShareFetchRequestTopicPartition) v) (sz := elZ true 7 10 dShareFetchRequestTopicPartition) rfl hpL31 rfl
    ((conv=>whnf);repeat(first|(refine mvT ?_;conv=>whnf)|(refine mvF ?_;conv=>whnf)|(refine cT (by rfl) ?_;conv=>whnf)|(refine cF (by rfl) ?_;conv=>whnf)))
    obtain ⟨P55, hP55⟩ : ∃ P : World → Prop, P = fun w => ListR true (elZ true 7 10 dShareFetchRequestTopicPartition) (elQ true 7 10 dShareFetchRequestTopicPartition ⟨w, fun k => k ≠ p⟩) w (fun k => k ≠ p) a31 (.mk 0 [] (decide (n31 ≤ 0)) l54 []) ∧ P27 w := ⟨_, rfl⟩
    replace H : St w0 G0 p pb s54 ((g27, 148, es27.flatten ++ [bcell u28_0, bcell u28_1, bcell u28_2, bcell u28_3, bcell u28_4, bcell u28_5, bcell u28_6, bcell u28_7, bcell u28_8, bcell u28_9, bcell u28_10, bcell u28_11, bcell u28_12, bcell u28_13, bcell u28_14, bcell u28_15, .slice none 0 0, .map none] ++ ((List.replicate (n27.toNat - (i27 + 1)) [.int .u8 0, .int .u8 0, .int .u8 0, .int .u8 0, .int .u8 0, .int .u8 0, .int .u8 0, .int .u8 0, .int .u8 0, .int .u8 0, .int .u8 0, .int .u8 0, .int .u8 0, .int .u8 0, .int .u8 0, .int .u8 0, .slice none 0 0, .map none]).flatten ++ post27)) :: L27) P55 w := by rw [hP55]; exact H
    refine H.st1 (v := a31) 16 (cells_one hone54) (hone54) rfl (by first | omega | (simp [hlen1]; done) | (simp [hlen1]; omega)) rfl (Nat.lt_of_lt_of_le (Nat.lt_succ_self _) (Nat.le_of_ble_eq_true rfl)) ?_
    intro w H
    ((conv=>whnf);repeat(first|(refine mvT ?_;conv=>whnf)|(refine mvF ?_;conv=>whnf)|(refine cT (by rfl) ?_;conv=>whnf)|(refine cF (by rfl) ?_;conv=>whnf)))
    replace H : St w0 G0 p pb s54 ((g27, 148, es27.flatten ++ [bcell u28_0, bcell u28_1, bcell u28_2, bcell u28_3, bcell u28_4, bcell u28_5, bcell u28_6, bcell u28_7, bcell u28_8, bcell u28_9, bcell u28_10, bcell u28_11, bcell u28_12, bcell u28_13, bcell u28_14, bcell u28_15, a31, .map none] ++ ((List.replicate (n27.toNat - (i27 + 1)) [.int .u8 0, .int .u8 0, .int .u8 0, .int .u8 0, .int .u8 0, .int .u8 0, .int .u8 0, .int .u8 0, .int .u8 0, .int .u8 0, .int .u8 0, .int .u8 0, .int .u8 0, .int .u8 0, .int .u8 0, .int .u8 0, .slice none 0 0, .map none]).flatten ++ post27)) :: L27) P55 w := H
    (refine mvB ?_;((conv=>whnf);repeat(first|(refine mvT ?_;conv=>whnf)|(refine mvF ?_;conv=>whnf)|(refine cT (by rfl) ?_;conv=>whnf)|(refine cF (by rfl) ?_;conv=>whnf))))
    refine VC.cutB (fun q : Value × List Tg × Rd => [(0, .pointer (some ⟨p, 0, none⟩)), (2, .bool false), (7, .pointer (some ⟨pb, 0, none⟩)), (8, .int .i16 v), (9, .bool fx), (10, .pointer (some ⟨p, 0, none⟩)), (23, .int .i32 n27), (22, .slice (some ⟨g27, 0, none⟩) n27.toNat cap27), (24, .int .i32 i27), (25, .pointer (some ⟨g27, 0 + (i27 : Int).toNat * 18, none⟩)), (26, .pointer (some ⟨g27, 0 + (i27 : Int).toNat * 18, none⟩))]) (fun q w' => rdTagsF fx s54 = q.2 ∧ St w0 G0 p pb q.2.2 ((g27, 148, es27.flatten ++ [bcell u28_0, bcell u28_1, bcell u28_2, bcell u28_3, bcell u28_4, bcell u28_5, bcell u28_6, bcell u28_7, bcell u28_8, bcell u28_9, bcell u28_10, bcell u28_11, bcell u28_12, bcell u28_13, bcell u28_14, bcell u28_15, a31, q.1] ++ ((List.replicate (n27.toNat - (i27 + 1)) [.int .u8 0, .int .u8 0, .int .u8 0, .int .u8 0, .int .u8 0, .int .u8 0, .int .u8 0, .int .u8 0, .int .u8 0, .int .u8 0, .int .u8 0, .int .u8 0, .int .u8 0, .int .u8 0, .int .u8 0, .int .u8 0, .slice none 0 0, .map none]).flatten ++ post27)) :: L27) (fun w => TGf p q.1 q.2.1 w ∧ P55 w) w') ?_ ?_
    · refine cI (by rfl) (fun hc=>?_) (fun hc=>?_)
      · ((conv=>whnf);repeat(first|(refine mvT ?_;conv=>whnf)|(refine mvF ?_;conv=>whnf)|(refine cT (by rfl) ?_;conv=>whnf)|(refine cF (by rfl) ?_;conv=>whnf)))
        refine Does.mono H.tags ?_
        rintro r w ⟨m, u, s', rfl, hone, hr, H⟩
        ((conv=>whnf);repeat(first|(refine mvT ?_;conv=>whnf)|(refine mvF ?_;conv=>whnf)|(refine cT (by rfl) ?_;conv=>whnf)|(refine cF (by rfl) ?_;conv=>whnf)))
        refine H.st1 (v := m) 17 (rfl) (hone) rfl (by first | omega | (simp [hlen1]; done) | (simp [hlen1]; omega)) rfl (Nat.lt_of_lt_of_le (Nat.lt_succ_self _) (Nat.le_of_ble_eq_true rfl)) ?_
        intro w H
        ((conv=>whnf);repeat(first|(refine mvT ?_;conv=>whnf)|(refine mvF ?_;conv=>whnf)|(refine cT (by rfl) ?_;conv=>whnf)|(refine cF (by rfl) ?_;conv=>whnf)))
        exact ⟨(m, u, s'), ⟨rfl, rfl, rfl, rfl, rfl, rfl, rfl, rfl, rfl, rfl, rfl, trivial⟩, by rw [rdTagsF, if_pos hc]; exact hr, H⟩
      · ((conv=>whnf);repeat(first|(refine mvT ?_;conv=>whnf)|(refine mvF ?_;conv=>whnf)|(refine cT (by rfl) ?_;conv=>whnf)|(refine cF (by rfl) ?_;conv=>whnf)))
        exact ⟨(.map none, [], s54), ⟨rfl, rfl, rfl, rfl, rfl, rfl, rfl, rfl, rfl, rfl, rfl, trivial⟩, by rw [rdTagsF, if_neg (by rw [hc]; decide)], H.add fun w' _ => TagsR.nil _ _⟩
    clear H
    rintro ⟨m57, u57, s57⟩ w ⟨htg, H⟩
    dsimp only at htg H
    ((conv=>whnf);repeat(first|(refine mvT ?_;conv=>whnf)|(refine mvF ?_;conv=>whnf)|(refine cT (by rfl) ?_;conv=>whnf)|(refine cF (by rfl) ?_;conv=>whnf)))
    obtain ⟨P58, hP58⟩ : ∃ P : World → Prop, P = fun w => TGf p m57 u57 w ∧ P55 w := ⟨_, rfl⟩
    replace H : St w0 G0 p pb s57 ((g27, 148, es27.flatten ++ [bcell u28_0, bcell u28_1, bcell u28_2, bcell u28_3, bcell u28_4, bcell u28_5, bcell u28_6, bcell u28_7, bcell u28_8, bcell u28_9, bcell u28_10, bcell u28_11, bcell u28_12, bcell u28_13, bcell u28_14, bcell u28_15, a31, m57] ++ ((List.replicate (n27.toNat - (i27 + 1)) [.int .u8 0, .int .u8 0, .int .u8 0, .int .u8 0, .int .u8 0, .int .u8 0, .int .u8 0, .int .u8 0, .int .u8 0, .int .u8 0, .int .u8 0, .int .u8 0, .int .u8 0, .int .u8 0, .int .u8 0, .int .u8 0, .slice none 0 0, .map none]).flatten ++ post27)) :: L27) P58 w := by rw [hP58]; exact H
    have hpart : rdPart 8 v fx dShareFetchRequestTopic si27 = (.mk 0 [] false [.mk 0 [u28_0, u28_1, u28_2, u28_3, u28_4, u28_5, u28_6, u28_7, u28_8, u28_9, u28_10, u28_11, u28_12, u28_13, u28_14, u28_15] false [] [], .mk 0 [] (decide (n31 ≤ 0)) l54 []] u57, s57) := by
      unfold rdPart rdPartW
      rw [rdAll_yes (df := dfT 8) (rdField7.trans hr28) ⟨by decide, has_all hv⟩, rdAll_yes (df := dfT 8) ((rdField_list _ _ _ _ _ _ _ _ _ _ _).trans hr54) ⟨by decide, has_all hv⟩]
      simp only [rdAll]
      rw [htg]
    refine ⟨i27 + 1, ⟨rfl, rfl, ?_, rfl, rfl, rfl, rfl, rfl, rfl, trivial⟩, ⟨by omega, ListI.back hgo27 (LoopI.next hes27 hez27 hrn27 hts27 (cur := [bcell u28_0, bcell u28_1, bcell u28_2, bcell u28_3, bcell u28_4, bcell u28_5, bcell u28_6, bcell u28_7, bcell u28_8, bcell u28_9, bcell u28_10, bcell u28_11, bcell u28_12, bcell u28_13, bcell u28_14, bcell u28_15, a31, m57]) (x := .mk 0 [] false [.mk 0 [u28_0, u28_1, u28_2, u28_3, u28_4, u28_5, u28_6, u28_7, u28_8, u28_9, u28_10, u28_11, u28_12, u28_13, u28_14, u28_15] false [] [], .mk 0 [] (decide (n31 ≤ 0)) l54 []] u57) (hpart) rfl (by rw [← hL27]; exact H) fun w hP => ?_)⟩, by omega⟩
    · show some (Value.int .i32 _) = _
      rw [IntKind.wrap_i32]
      simp only [Option.some.injEq, Value.int.injEq, true_and]
      omega
    · skip
      rw [hP58] at hP
      obtain ⟨hf58_, hP⟩ := hP
      rw [hP55] at hP
      obtain ⟨hf55_, hP⟩ := hP
      rw [hP27] at hP
      exact ⟨QPt (QA1 (QF7 (u := [u28_0, u28_1, u28_2, u28_3, u28_4, u28_5, u28_6, u28_7, u28_8, u28_9, u28_10, u28_11, u28_12, u28_13, u28_14, u28_15]) rfl) (QA1 (QF11 hl54 hf55_) (QA0))) hf58_, hP⟩
  have hge27 : ¬ (i27 : Int) < n27 := of_decide_eq_false h9
  obtain ⟨l59, s59, hone59, hl59, hr59, H⟩ := H.done hge27 hln27 (nl := nlF (.mk 11 0 (-1) (-1) (-1) 0 10 dShareFetchRequestTopic) v) (sz := elZ true 8 10 dShareFetchRequestTopic) rfl hpL27 rfl
  ((conv=>whnf);repeat(first|(refine mvT ?_;conv=>whnf)|(refine mvF ?_;conv=>whnf)|(refine cT (by rfl) ?_;conv=>whnf)|(refine cF (by rfl) ?_;conv=>whnf)))
  obtain ⟨P60, hP60⟩ : ∃ P : World → Prop, P = fun w => ListR true (elZ true 8 10 dShareFetchRequestTopic) (elQ true 8 10 dShareFetchRequestTopic ⟨w, fun k => k ≠ p⟩) w (fun k => k ≠ p) a27 (.mk 0 [] (decide (n27 ≤ 0)) l59 []) ∧ P5 w := ⟨_, rfl⟩
  replace H : St w0 G0 p pb s59 ((p, ty, [] ++ [.int .i16 v, c1, c4, .int .i32 n7, .int .i32 n9, .int .i32 n11, .int .i32 n13, .int .i32 n15, .int .i32 n18, .int .i8 n21, .bool n24, .slice none 0 0, .slice none 0 0, .map none] ++ []) :: []) P60 w := by rw [hP60]; exact H
  refine H.st1 (v := a27) 11 (cells_one hone59) (hone59) rfl (by simp) rfl (Nat.lt_of_lt_of_le (Nat.lt_succ_self _) (Nat.le_of_ble_eq_true rfl)) ?_
  intro w H
  ((conv=>whnf);repeat(first|(refine mvT ?_;conv=>whnf)|(refine mvF ?_;conv=>whnf)|(refine cT (by rfl) ?_;conv=>whnf)|(refine cF (by rfl) ?_;conv=>whnf)))
  replace H : St w0 G0 p pb s59 ((p, ty, [] ++ [.int .i16 v, c1, c4, .int .i32 n7, .int .i32 n9, .int .i32 n11, .int .i32 n13, .int .i32 n15, .int .i32 n18, .int .i8 n21, .bool n24, a27, .slice none 0 0, .map none] ++ []) :: []) P60 w := H
  refine ldS (H.cell (o := 0) rfl (k := 12) rfl) ?_;((conv=>whnf);repeat(first|(refine mvT ?_;conv=>whnf)|(refine mvF ?_;conv=>whnf)|(refine cT (by rfl) ?_;conv=>whnf)|(refine cF (by rfl) ?_;conv=>whnf)))
  (refine mvB ?_;((conv=>whnf);repeat(first|(refine mvT ?_;conv=>whnf)|(refine mvF ?_;conv=>whnf)|(refine cT (by rfl) ?_;conv=>whnf)|(refine cF (by rfl) ?_;conv=>whnf))))
  refine VC.cutE (fun q : Int × Rd => [(51, .int .i32 q.1), (50, .slice none 0 0), (0, .pointer (some ⟨p, 0, none⟩)), (2, .bool false), (7, .pointer (some ⟨pb, 0, none⟩)), (8, .int .i16 v), (9, .bool fx), (10, .pointer (some ⟨p, 0, none⟩))]) (fun q w' => (-2147483648 ≤ q.1 ∧ q.1 ≤ 2147483647) ∧ rdLn fx s59 = q ∧ St w0 G0 p pb q.2 ((p, ty, [] ++ [.int .i16 v, c1, c4, .int .i32 n7, .int .i32 n9, .int .i32 n11, .int .i32 n13, .int .i32 n15, .int .i32 n18, .int .i8 n21, .bool n24, a27, .slice none 0 0, .map none] ++ []) :: []) P60 w') ?_ ?_
  · refine cI (by rfl) (fun hc=>?_) (fun hc=>?_)
    · ((conv=>whnf);repeat(first|(refine mvT ?_;conv=>whnf)|(refine mvF ?_;conv=>whnf)|(refine cT (by rfl) ?_;conv=>whnf)|(refine cF (by rfl) ?_;conv=>whnf)))
      refine Does.mono H.lnc ?_
      rintro r w ⟨n, s', rfl, hn, hr, H⟩
      ((conv=>whnf);repeat(first|(refine mvT ?_;conv=>whnf)|(refine mvF ?_;conv=>whnf)|(refine cT (by rfl) ?_;conv=>whnf)|(refine cF (by rfl) ?_;conv=>whnf)))
      exact ⟨(n, s'), ⟨rfl, rfl, rfl, rfl, rfl, rfl, rfl, rfl, trivial⟩, hn, by rw [hc]; exact hr, H⟩
    · ((conv=>whnf);repeat(first|(refine mvT ?_;conv=>whnf)|(refine mvF ?_;conv=>whnf)|(refine cT (by rfl) ?_;conv=>whnf)|(refine cF (by rfl) ?_;conv=>whnf)))
      refine Does.mono H.lnp ?_
      rintro r w ⟨n, s', rfl, hn, hr, H⟩
      ((conv=>whnf);repeat(first|(refine mvT ?_;conv=>whnf)|(refine mvF ?_;conv=>whnf)|(refine cT (by rfl) ?_;conv=>whnf)|(refine cF (by rfl) ?_;conv=>whnf)))
      exact ⟨(n, s'), ⟨rfl, rfl, rfl, rfl, rfl, rfl, rfl, rfl, trivial⟩, hn, by rw [hc]; exact hr, H⟩
  clear H
  rintro ⟨n62, s62⟩ w ⟨hn62, hln62, H⟩
  dsimp only at hn62 hln62 H
  ((conv=>whnf);repeat(first|(refine mvT ?_;conv=>whnf)|(refine mvF ?_;conv=>whnf)|(refine cT (by rfl) ?_;conv=>whnf)|(refine cF (by rfl) ?_;conv=>whnf)))
  refine Does.mono H.ok ?_
  rintro r w ⟨rfl, H⟩
  ((conv=>whnf);repeat(first|(refine mvT ?_;conv=>whnf)|(refine mvF ?_;conv=>whnf)|(refine cT (by rfl) ?_;conv=>whnf)|(refine cF (by rfl) ?_;conv=>whnf)))
  refine cI (by rfl) (fun hbd=>?_) (fun hbd=>?_)
  · have hbd : s62.2 = true := by simpa using hbd
    ((conv=>whnf);repeat(first|(refine mvT ?_;conv=>whnf)|(refine mvF ?_;conv=>whnf)|(refine cT (by rfl) ?_;conv=>whnf)|(refine cF (by rfl) ?_;conv=>whnf)))
    refine Does.mono (H.done hL hp1) ?_
    rintro r w ⟨rfl, H⟩
    ((conv=>whnf);repeat(first|(refine mvT ?_;conv=>whnf)|(refine mvF ?_;conv=>whnf)|(refine cT (by rfl) ?_;conv=>whnf)|(refine cF (by rfl) ?_;conv=>whnf)))
    refine RdPost.early hbd (hup0 (?_)) H
    rw [tail_yes ((rdField8n (by decide)).trans hr1) ⟨by decide, has_all hv⟩, tail_yes ((rdField8n (by decide)).trans hr4) ⟨by decide, has_all hv⟩, tail_yes (rdField3.trans hr7) ⟨by decide, has_all hv⟩, tail_yes (rdField3.trans hr9) ⟨by decide, has_all hv⟩, tail_yes (rdField3.trans hr11) ⟨by decide, has_all hv⟩, tail_yes (rdField3.trans hr13) ⟨by decide, has_all hv⟩, tail_ver hr15 (by decide), tail_ver hr18 (by decide), tail_ver hr21 (by decide), tail_ver hr24 (by decide), tail_yes ((rdField_list _ _ _ _ _ _ _ _ _ _ _).trans hr59) ⟨by decide, has_all hv⟩, tail_len ⟨by decide, has_all hv⟩ hln62 hbd]
  have hbd : s62.2 = false := by simpa using hbd
  clear hbd
  ((conv=>whnf);repeat(first|(refine mvT ?_;conv=>whnf)|(refine mvF ?_;conv=>whnf)|(refine cT (by rfl) ?_;conv=>whnf)|(refine cF (by rfl) ?_;conv=>whnf)))
  refine cut_zero ?_
  ((conv=>whnf);repeat(first|(refine mvT ?_;conv=>whnf)|(refine mvF ?_;conv=>whnf)|(refine cT (by rfl) ?_;conv=>whnf)|(refine cF (by rfl) ?_;conv=>whnf)))
  refine VC.cutE (fun a : Value => [(51, .int .i32 n62), (50, a), (0, .pointer (some ⟨p, 0, none⟩)), (2, .bool false), (7, .pointer (some ⟨pb, 0, none⟩)), (8, .int .i16 v), (9, .bool fx), (10, .pointer (some ⟨p, 0, none⟩))]) (fun a w' => ListI w0 G0 p pb 152 [.int .u8 0, .int .u8 0, .int .u8 0, .int .u8 0, .int .u8 0, .int .u8 0, .int .u8 0, .int .u8 0, .int .u8 0, .int .u8 0, .int .u8 0, .int .u8 0, .int .u8 0, .int .u8 0, .int .u8 0, .int .u8 0, .slice none 0 0, .map none] (elR 8 v fx 10 dShareFetchRequestForgottenTopicsData) (elQ true 8 10 dShareFetchRequestForgottenTopicsData) s62 n62 (decide (n62 ≤ 0)) ((p, ty, [] ++ [.int .i16 v, c1, c4, .int .i32 n7, .int .i32 n9, .int .i32 n11, .int .i32 n13, .int .i32 n15, .int .i32 n18, .int .i8 n21, .bool n24, a27, .slice none 0 0, .map none] ++ []) :: []) P60 a 0 w') ?_ ?_
  · refine cI (by rfl) (fun hps=>?_) (fun hps=>?_)
    · have hps : 0 < n62 := by have := of_decide_eq_true hps; omega
      ((conv=>whnf);repeat(first|(refine mvT ?_;conv=>whnf)|(refine mvF ?_;conv=>whnf)|(refine cT (by rfl) ?_;conv=>whnf)|(refine cF (by rfl) ?_;conv=>whnf)))
      refine H.grow hps hn62.2 (by decide) rfl rfl (by decide) ?_
      intro g cap post w hc1 hc2 H
      ((conv=>whnf);repeat(first|(refine mvT ?_;conv=>whnf)|(refine mvF ?_;conv=>whnf)|(refine cT (by rfl) ?_;conv=>whnf)|(refine cF (by rfl) ?_;conv=>whnf)))
      exact ⟨_, ⟨rfl, rfl, rfl, rfl, rfl, rfl, rfl, rfl, trivial⟩, ListI.some hps (decide_eq_false (by omega)) hc1 hc2 H⟩
    · have hps : n62 ≤ 0 := by have := of_decide_eq_false hps; omega
      ((conv=>whnf);repeat(first|(refine mvT ?_;conv=>whnf)|(refine mvF ?_;conv=>whnf)|(refine cT (by rfl) ?_;conv=>whnf)|(refine cF (by rfl) ?_;conv=>whnf)))
      exact ⟨_, ⟨rfl, rfl, rfl, rfl, rfl, rfl, rfl, rfl, trivial⟩, ListI.none hps (decide_eq_true hps) H⟩
  clear H
  rintro a62 w H
  ((conv=>whnf);repeat(first|(refine mvT ?_;conv=>whnf)|(refine mvF ?_;conv=>whnf)|(refine cT (by rfl) ?_;conv=>whnf)|(refine cF (by rfl) ?_;conv=>whnf)))
  have hpL62 : inL ((p, ty, [] ++ [.int .i16 v, c1, c4, .int .i32 n7, .int .i32 n9, .int .i32 n11, .int .i32 n13, .int .i32 n15, .int .i32 n18, .int .i8 n21, .bool n24, a27, .slice none 0 0, .map none] ++ []) :: []) p := inL.head _ _
  refine VL.loop (fun i : Nat => [(51, .int .i32 n62), (50, a62), (52, .int .i32 i), (0, .pointer (some ⟨p, 0, none⟩)), (2, .bool false), (7, .pointer (some ⟨pb, 0, none⟩)), (8, .int .i16 v), (9, .bool fx), (10, .pointer (some ⟨p, 0, none⟩))]) (fun i w' => i ≤ 2147483647 ∧ ListI w0 G0 p pb 152 [.int .u8 0, .int .u8 0, .int .u8 0, .int .u8 0, .int .u8 0, .int .u8 0, .int .u8 0, .int .u8 0, .int .u8 0, .int .u8 0, .int .u8 0, .int .u8 0, .int .u8 0, .int .u8 0, .int .u8 0, .int .u8 0, .slice none 0 0, .map none] (elR 8 v fx 10 dShareFetchRequestForgottenTopicsData) (elQ true 8 10 dShareFetchRequestForgottenTopicsData) s62 n62 (decide (n62 ≤ 0)) ((p, ty, [] ++ [.int .i16 v, c1, c4, .int .i32 n7, .int .i32 n9, .int .i32 n11, .int .i32 n13, .int .i32 n15, .int .i32 n18, .int .i8 n21, .bool n24, a27, .slice none 0 0, .map none] ++ []) :: []) P60 a62 i w') (fun i => n62.toNat - i) 0 ⟨rfl, rfl, rfl, rfl, rfl, rfl, rfl, rfl, rfl, trivial⟩ ⟨by decide, H⟩ ?_
  clear H
  rintro i62 w ⟨hi62, H⟩
  ((conv=>whnf);repeat(first|(refine mvT ?_;conv=>whnf)|(refine mvF ?_;conv=>whnf)|(refine cT (by rfl) ?_;conv=>whnf)|(refine cF (by rfl) ?_;conv=>whnf)))
  refine cI (by rfl) (fun h9=>?_) (fun h9=>?_)
  · have hlt62 : (i62 : Int) < n62 := of_decide_eq_true h9
    obtain ⟨g62, cap62, post62, rfl, hgo62, HI⟩ := H.go hlt62
    obtain ⟨es62, ts62, si62, hes62, hez62, hrn62, hts62, hlen1, H⟩ := HI.open hgo62.2.2.2.2
    obtain ⟨L62, hL62⟩ : ∃ L : List Ob, L = ((p, ty, [] ++ [.int .i16 v, c1, c4, .int .i32 n7, .int .i32 n9, .int .i32 n11, .int .i32 n13, .int .i32 n15, .int .i32 n18, .int .i8 n21, .bool n24, a27, .slice none 0 0, .map none] ++ []) :: []) := ⟨_, rfl⟩
    rw [← hL62] at H hpL62
    obtain ⟨P62, hP62⟩ : ∃ P : World → Prop, P = fun w => (∀ (j : Nat) (c : List Value) (y : T), es62[j]? = some c → ts62[j]? = some y → elQ true 8 10 dShareFetchRequestForgottenTopicsData ⟨w, fun k => k ≠ p⟩ c y) ∧ P60 w := ⟨_, rfl⟩
    rw [← hP62] at H
    replace H : St w0 G0 p pb si62 ((g62, 152, es62.flatten ++ [.int .u8 0, .int .u8 0, .int .u8 0, .int .u8 0, .int .u8 0, .int .u8 0, .int .u8 0, .int .u8 0, .int .u8 0, .int .u8 0, .int .u8 0, .int .u8 0, .int .u8 0, .int .u8 0, .int .u8 0, .int .u8 0, .slice none 0 0, .map none] ++ ((List.replicate (n62.toNat - (i62 + 1)) [.int .u8 0, .int .u8 0, .int .u8 0, .int .u8 0, .int .u8 0, .int .u8 0, .int .u8 0, .int .u8 0, .int .u8 0, .int .u8 0, .int .u8 0, .int .u8 0, .int .u8 0, .int .u8 0, .int .u8 0, .int .u8 0, .slice none 0 0, .map none]).flatten ++ post62)) :: L62) P62 w := H
    ((conv=>whnf);repeat(first|(refine mvT ?_;conv=>whnf)|(refine mvF ?_;conv=>whnf)|(refine cT (by rfl) ?_;conv=>whnf)|(refine cF (by rfl) ?_;conv=>whnf)))
    refine ⟨g62, 0, rfl, ⟨by omega, by omega⟩, ?_⟩
    ((conv=>whnf);repeat(first|(refine mvT ?_;conv=>whnf)|(refine mvF ?_;conv=>whnf)|(refine cT (by rfl) ?_;conv=>whnf)|(refine cF (by rfl) ?_;conv=>whnf)))
    refine Does.mono (dfShareFetchRequestForgottenTopicsData (pre := es62.flatten) (cur := [.int .u8 0, .int .u8 0, .int .u8 0, .int .u8 0, .int .u8 0, .int .u8 0, .int .u8 0, .int .u8 0, .int .u8 0, .int .u8 0, .int .u8 0, .int .u8 0, .int .u8 0, .int .u8 0, .int .u8 0, .int .u8 0, .slice none 0 0, .map none]) (post := ((List.replicate (n62.toNat - (i62 + 1)) [.int .u8 0, .int .u8 0, .int .u8 0, .int .u8 0, .int .u8 0, .int .u8 0, .int .u8 0, .int .u8 0, .int .u8 0, .int .u8 0, .int .u8 0, .int .u8 0, .int .u8 0, .int .u8 0, .int .u8 0, .int .u8 0, .slice none 0 0, .map none]).flatten ++ post62)) H.head (by first | (rw [hlen1]; simp; done) | (simp [hlen1]; done) | (simp [hlen1]; omega)) rfl) ?_
    rintro rd w2 ⟨hdf, hxd⟩
    replace H := H.put hdf hxd
    clear hdf hxd
    replace H : St w0 G0 p pb si62 ((g62, 152, es62.flatten ++ [.int .u8 0, .int .u8 0, .int .u8 0, .int .u8 0, .int .u8 0, .int .u8 0, .int .u8 0, .int .u8 0, .int .u8 0, .int .u8 0, .int .u8 0, .int .u8 0, .int .u8 0, .int .u8 0, .int .u8 0, .int .u8 0, .slice none 0 0, .map none] ++ ((List.replicate (n62.toNat - (i62 + 1)) [.int .u8 0, .int .u8 0, .int .u8 0, .int .u8 0, .int .u8 0, .int .u8 0, .int .u8 0, .int .u8 0, .int .u8 0, .int .u8 0, .int .u8 0, .int .u8 0, .int .u8 0, .int .u8 0, .int .u8 0, .int .u8 0, .slice none 0 0, .map none]).flatten ++ post62)) :: L62) P62 w2 := H
    ((conv=>whnf);repeat(first|(refine mvT ?_;conv=>whnf)|(refine mvF ?_;conv=>whnf)|(refine cT (by rfl) ?_;conv=>whnf)|(refine cF (by rfl) ?_;conv=>whnf)))
    have hup62 : tailBad 8 v fx dShareFetchRequestForgottenTopicsData si62 = true → (rdPart 9 v fx dShareFetchRequest (l, false)).2.2 = true := by
      intro hb
      refine hup0 ?_
      rw [tail_yes ((rdField8n (by decide)).trans hr1) ⟨by decide, has_all hv⟩, tail_yes ((rdField8n (by decide)).trans hr4) ⟨by decide, has_all hv⟩, tail_yes (rdField3.trans hr7) ⟨by decide, has_all hv⟩, tail_yes (rdField3.trans hr9) ⟨by decide, has_all hv⟩, tail_yes (rdField3.trans hr11) ⟨by decide, has_all hv⟩, tail_yes (rdField3.trans hr13) ⟨by decide, has_all hv⟩, tail_ver hr15 (by decide), tail_ver hr18 (by decide), tail_ver hr21 (by decide), tail_ver hr24 (by decide), tail_yes ((rdField_list _ _ _ _ _ _ _ _ _ _ _).trans hr59) ⟨by decide, has_all hv⟩, tail_el ⟨by decide, has_all hv⟩ hln62 hgo62.2.2.2.2 hrn62 hb]
    refine Does.mono H.uuid ?_
    rintro r w ⟨u63, s63, rfl, hu63, hr63, H⟩
    ((conv=>whnf);repeat(first|(refine mvT ?_;conv=>whnf)|(refine mvF ?_;conv=>whnf)|(refine cT (by rfl) ?_;conv=>whnf)|(refine cF (by rfl) ?_;conv=>whnf)))
    obtain ⟨u63_0, u63_1, u63_2, u63_3, u63_4, u63_5, u63_6, u63_7, u63_8, u63_9, u63_10, u63_11, u63_12, u63_13, u63_14, u63_15, rfl⟩ : ∃ u63_0 u63_1 u63_2 u63_3 u63_4 u63_5 u63_6 u63_7 u63_8 u63_9 u63_10 u63_11 u63_12 u63_13 u63_14 u63_15, u63 = [u63_0, u63_1, u63_2, u63_3, u63_4, u63_5, u63_6, u63_7, u63_8, u63_9, u63_10, u63_11, u63_12, u63_13, u63_14, u63_15] := by
      match u63, hu63 with
      | [u63_0, u63_1, u63_2, u63_3, u63_4, u63_5, u63_6, u63_7, u63_8, u63_9, u63_10, u63_11, u63_12, u63_13, u63_14, u63_15], _ => exact ⟨u63_0, u63_1, u63_2, u63_3, u63_4, u63_5, u63_6, u63_7, u63_8, u63_9, u63_10, u63_11, u63_12, u63_13, u63_14, u63_15, rfl⟩
    intro bu wu hbu hou hxu
    ((conv=>whnf);repeat(first|(refine mvT ?_;conv=>whnf)|(refine mvF ?_;conv=>whnf)|(refine cT (by rfl) ?_;conv=>whnf)|(refine cF (by rfl) ?_;conv=>whnf)))
    refine st_all [bcell u63_0, bcell u63_1, bcell u63_2, bcell u63_3, bcell u63_4, bcell u63_5, bcell u63_6, bcell u63_7, bcell u63_8, bcell u63_9, bcell u63_10, bcell u63_11, bcell u63_12, bcell u63_13, bcell u63_14, bcell u63_15] hou rfl rfl rfl ?_
    intro w2 hou hxs
    ((conv=>whnf);repeat(first|(refine mvT ?_;conv=>whnf)|(refine mvF ?_;conv=>whnf)|(refine cT (by rfl) ?_;conv=>whnf)|(refine cF (by rfl) ?_;conv=>whnf)))
    replace H := H.e0 (hxu.trans hxs (M := nob) fun k hk e => by omega)
    refine ⟨_, rfl, hou.cells, ?_⟩
    ((conv=>whnf);repeat(first|(refine mvT ?_;conv=>whnf)|(refine mvF ?_;conv=>whnf)|(refine cT (by rfl) ?_;conv=>whnf)|(refine cF (by rfl) ?_;conv=>whnf)))
    refine H.stn [bcell u63_0, bcell u63_1, bcell u63_2, bcell u63_3, bcell u63_4, bcell u63_5, bcell u63_6, bcell u63_7, bcell u63_8, bcell u63_9, bcell u63_10, bcell u63_11, bcell u63_12, bcell u63_13, bcell u63_14, bcell u63_15] 0 rfl rfl rfl (by first | omega | (simp [hlen1]; done) | (simp [hlen1]; omega)) rfl (Nat.le_of_ble_eq_true rfl) ?_
    intro w H
    ((conv=>whnf);repeat(first|(refine mvT ?_;conv=>whnf)|(refine mvF ?_;conv=>whnf)|(refine cT (by rfl) ?_;conv=>whnf)|(refine cF (by rfl) ?_;conv=>whnf)))
    replace H : St w0 G0 p pb s63 ((g62, 152, es62.flatten ++ [bcell u63_0, bcell u63_1, bcell u63_2, bcell u63_3, bcell u63_4, bcell u63_5, bcell u63_6, bcell u63_7, bcell u63_8, bcell u63_9, bcell u63_10, bcell u63_11, bcell u63_12, bcell u63_13, bcell u63_14, bcell u63_15, .slice none 0 0, .map none] ++ ((List.replicate (n62.toNat - (i62 + 1)) [.int .u8 0, .int .u8 0, .int .u8 0, .int .u8 0, .int .u8 0, .int .u8 0, .int .u8 0, .int .u8 0, .int .u8 0, .int .u8 0, .int .u8 0, .int .u8 0, .int .u8 0, .int .u8 0, .int .u8 0, .int .u8 0, .slice none 0 0, .map none]).flatten ++ post62)) :: L62) P62 w := H
    refine ⟨_, ld (H.cell rfl (k := 16) rfl) (by first | omega | (simp [hlen1]; done) | (simp [hlen1]; omega)), ?_⟩; ((conv=>whnf);repeat(first|(refine mvT ?_;conv=>whnf)|(refine mvF ?_;conv=>whnf)|(refine cT (by rfl) ?_;conv=>whnf)|(refine cF (by rfl) ?_;conv=>whnf)))
    (refine mvB ?_;((conv=>whnf);repeat(first|(refine mvT ?_;conv=>whnf)|(refine mvF ?_;conv=>whnf)|(refine cT (by rfl) ?_;conv=>whnf)|(refine cF (by rfl) ?_;conv=>whnf))))
    refine VC.cutE (fun q : Int × Rd => [(58, .int .i32 q.1), (57, .slice none 0 0), (0, .pointer (some ⟨p, 0, none⟩)), (2, .bool false), (7, .pointer (some ⟨pb, 0, none⟩)), (8, .int .i16 v), (9, .bool fx), (10, .pointer (some ⟨p, 0, none⟩)), (51, .int .i32 n62), (50, .slice (some ⟨g62, 0, none⟩) n62.toNat cap62), (52, .int .i32 i62), (53, .pointer (some ⟨g62, 0 + (i62 : Int).toNat * 18, none⟩)), (54, .pointer (some ⟨g62, 0 + (i62 : Int).toNat * 18, none⟩))]) (fun q w' => (-2147483648 ≤ q.1 ∧ q.1 ≤ 2147483647) ∧ rdLn fx s63 = q ∧ St w0 G0 p pb q.2 ((g62, 152, es62.flatten ++ [bcell u63_0, bcell u63_1, bcell u63_2, bcell u63_3, bcell u63_4, bcell u63_5, bcell u63_6, bcell u63_7, bcell u63_8, bcell u63_9, bcell u63_10, bcell u63_11, bcell u63_12, bcell u63_13, bcell u63_14, bcell u63_15, .slice none 0 0, .map none] ++ ((List.replicate (n62.toNat - (i62 + 1)) [.int .u8 0, .int .u8 0, .int .u8 0, .int .u8 0, .int .u8 0, .int .u8 0, .int .u8 0, .int .u8 0, .int .u8 0, .int .u8 0, .int .u8 0, .int .u8 0, .int .u8 0, .int .u8 0, .int .u8 0, .int .u8 0, .slice none 0 0, .map none]).flatten ++ post62)) :: L62) P62 w') ?_ ?_
    · refine cI (by rfl) (fun hc=>?_) (fun hc=>?_)
      · ((conv=>whnf);repeat(first|(refine mvT ?_;conv=>whnf)|(refine mvF ?_;conv=>whnf)|(refine cT (by rfl) ?_;conv=>whnf)|(refine cF (by rfl) ?_;conv=>whnf)))
        refine Does.mono H.lnc ?_
        rintro r w ⟨n, s', rfl, hn, hr, H⟩
        ((conv=>whnf);repeat(first|(refine mvT ?_;conv=>whnf)|(refine mvF ?_;conv=>whnf)|(refine cT (by rfl) ?_;conv=>whnf)|(refine cF (by rfl) ?_;conv=>whnf)))
        exact ⟨(n, s'), ⟨rfl, rfl, rfl, rfl, rfl, rfl, rfl, rfl, rfl, rfl, rfl, rfl, rfl, trivial⟩, hn, by rw [hc]; exact hr, H⟩
      · ((conv=>whnf);repeat(first|(refine mvT ?_;conv=>whnf)|(refine mvF ?_;conv=>whnf)|(refine cT (by rfl) ?_;conv=>whnf)|(refine cF (by rfl) ?_;conv=>whnf)))
        refine Does.mono H.lnp ?_
        rintro r w ⟨n, s', rfl, hn, hr, H⟩
        ((conv=>whnf);repeat(first|(refine mvT ?_;conv=>whnf)|(refine mvF ?_;conv=>whnf)|(refine cT (by rfl) ?_;conv=>whnf)|(refine cF (by rfl) ?_;conv=>whnf)))
        exact ⟨(n, s'), ⟨rfl, rfl, rfl, rfl, rfl, rfl, rfl, rfl, rfl, rfl, rfl, rfl, rfl, trivial⟩, hn, by rw [hc]; exact hr, H⟩
    clear H
    rintro ⟨n66, s66⟩ w ⟨hn66, hln66, H⟩
    dsimp only at hn66 hln66 H
    ((conv=>whnf);repeat(first|(refine mvT ?_;conv=>whnf)|(refine mvF ?_;conv=>whnf)|(refine cT (by rfl) ?_;conv=>whnf)|(refine cF (by rfl) ?_;conv=>whnf)))
    refine Does.mono H.ok ?_
    rintro r w ⟨rfl, H⟩
    ((conv=>whnf);repeat(first|(refine mvT ?_;conv=>whnf)|(refine mvF ?_;conv=>whnf)|(refine cT (by rfl) ?_;conv=>whnf)|(refine cF (by rfl) ?_;conv=>whnf)))
    refine cI (by rfl) (fun hbd=>?_) (fun hbd=>?_)
    · have hbd : s66.2 = true := by simpa using hbd
      ((conv=>whnf);repeat(first|(refine mvT ?_;conv=>whnf)|(refine mvF ?_;conv=>whnf)|(refine cT (by rfl) ?_;conv=>whnf)|(refine cF (by rfl) ?_;conv=>whnf)))
      refine Does.mono (H.done hL hp1) ?_
      rintro r w ⟨rfl, H⟩
      ((conv=>whnf);repeat(first|(refine mvT ?_;conv=>whnf)|(refine mvF ?_;conv=>whnf)|(refine cT (by rfl) ?_;conv=>whnf)|(refine cF (by rfl) ?_;conv=>whnf)))
      refine RdPost.early hbd (hup62 (?_)) H
      rw [tail_yes (rdField7.trans hr63) ⟨by decide, has_all hv⟩, tail_len ⟨by decide, has_all hv⟩ hln66 hbd]
    have hbd : s66.2 = false := by simpa using hbd
    clear hbd
    ((conv=>whnf);repeat(first|(refine mvT ?_;conv=>whnf)|(refine mvF ?_;conv=>whnf)|(refine cT (by rfl) ?_;conv=>whnf)|(refine cF (by rfl) ?_;conv=>whnf)))
    refine cut_zero ?_
    ((conv=>whnf);repeat(first|(refine mvT ?_;conv=>whnf)|(refine mvF ?_;conv=>whnf)|(refine cT (by rfl) ?_;conv=>whnf)|(refine cF (by rfl) ?_;conv=>whnf)))
    refine VC.cutE (fun a : Value => [(58, .int .i32 n66), (57, a), (0, .pointer (some ⟨p, 0, none⟩)), (2, .bool false), (7, .pointer (some ⟨pb, 0, none⟩)), (8, .int .i16 v), (9, .bool fx), (10, .pointer (some ⟨p, 0, none⟩)), (51, .int .i32 n62), (50, .slice (some ⟨g62, 0, none⟩) n62.toNat cap62), (52, .int .i32 i62), (53, .pointer (some ⟨g62, 0 + (i62 : Int).toNat * 18, none⟩)), (54, .pointer (some ⟨g62, 0 + (i62 : Int).toNat * 18, none⟩))]) (fun a w' => ListI w0 G0 p pb 21 [.int .i32 0] (elR 7 v fx 3 []) (elQ true 7 3 []) s66 n66 (decide (n66 ≤ 0)) ((g62, 152, es62.flatten ++ [bcell u63_0, bcell u63_1, bcell u63_2, bcell u63_3, bcell u63_4, bcell u63_5, bcell u63_6, bcell u63_7, bcell u63_8, bcell u63_9, bcell u63_10, bcell u63_11, bcell u63_12, bcell u63_13, bcell u63_14, bcell u63_15, .slice none 0 0, .map none] ++ ((List.replicate (n62.toNat - (i62 + 1)) [.int .u8 0, .int .u8 0, .int .u8 0, .int .u8 0, .int .u8 0, .int .u8 0, .int .u8 0, .int .u8 0, .int .u8 0, .int .u8 0, .int .u8 0, .int .u8 0, .int .u8 0, .int .u8 0, .int .u8 0, .int .u8 0, .slice none 0 0, .map none]).flatten ++ post62)) :: L62) P62 a 0 w') ?_ ?_
    · refine cI (by rfl) (fun hps=>?_) (fun hps=>?_)
      · have hps : 0 < n66 := by have := of_decide_eq_true hps; omega
        ((conv=>whnf);repeat(first|(refine mvT ?_;conv=>whnf)|(refine mvF ?_;conv=>whnf)|(refine cT (by rfl) ?_;conv=>whnf)|(refine cF (by rfl) ?_;conv=>whnf)))
        refine H.grow hps hn66.2 (by decide) rfl rfl (by decide) ?_
        intro g cap post w hc1 hc2 H
        ((conv=>whnf);repeat(first|(refine mvT ?_;conv=>whnf)|(refine mvF ?_;conv=>whnf)|(refine cT (by rfl) ?_;conv=>whnf)|(refine cF (by rfl) ?_;conv=>whnf)))
        exact ⟨_, ⟨rfl, rfl, rfl, rfl, rfl, rfl, rfl, rfl, rfl, rfl, rfl, rfl, rfl, trivial⟩, ListI.some hps (decide_eq_false (by omega)) hc1 hc2 H⟩
      · have hps : n66 ≤ 0 := by have := of_decide_eq_false hps; omega
        ((conv=>whnf);repeat(first|(refine mvT ?_;conv=>whnf)|(refine mvF ?_;conv=>whnf)|(refine cT (by rfl) ?_;conv=>whnf)|(refine cF (by rfl) ?_;conv=>whnf)))
        exact ⟨_, ⟨rfl, rfl, rfl, rfl, rfl, rfl, rfl, rfl, rfl, rfl, rfl, rfl, rfl, trivial⟩, ListI.none hps (decide_eq_true hps) H⟩
    clear H
    rintro a66 w H
    ((conv=>whnf);repeat(first|(refine mvT ?_;conv=>whnf)|(refine mvF ?_;conv=>whnf)|(refine cT (by rfl) ?_;conv=>whnf)|(refine cF (by rfl) ?_;conv=>whnf)))
    have hpL66 : inL ((g62, 152, es62.flatten ++ [bcell u63_0, bcell u63_1, bcell u63_2, bcell u63_3, bcell u63_4, bcell u63_5, bcell u63_6, bcell u63_7, bcell u63_8, bcell u63_9, bcell u63_10, bcell u63_11, bcell u63_12, bcell u63_13, bcell u63_14, bcell u63_15, .slice none 0 0, .map none] ++ ((List.replicate (n62.toNat - (i62 + 1)) [.int .u8 0, .int .u8 0, .int .u8 0, .int .u8 0, .int .u8 0, .int .u8 0, .int .u8 0, .int .u8 0, .int .u8 0, .int .u8 0, .int .u8 0, .int .u8 0, .int .u8 0, .int .u8 0, .int .u8 0, .int .u8 0, .slice none 0 0, .map none]).flatten ++ post62)) :: L62) p := inL.tail hpL62
    refine VL.loop (fun i : Nat => [(58, .int .i32 n66), (57, a66), (59, .int .i32 i), (0, .pointer (some ⟨p, 0, none⟩)), (2, .bool false), (7, .pointer (some ⟨pb, 0, none⟩)), (8, .int .i16 v), (9, .bool fx), (10, .pointer (some ⟨p, 0, none⟩)), (51, .int .i32 n62), (50, .slice (some ⟨g62, 0, none⟩) n62.toNat cap62), (52, .int .i32 i62), (53, .pointer (some ⟨g62, 0 + (i62 : Int).toNat * 18, none⟩)), (54, .pointer (some ⟨g62, 0 + (i62 : Int).toNat * 18, none⟩))]) (fun i w' => i ≤ 2147483647 ∧ ListI w0 G0 p pb 21 [.int .i32 0] (elR 7 v fx 3 []) (elQ true 7 3 []) s66 n66 (decide (n66 ≤ 0)) ((g62, 152, es62.flatten ++ [bcell u63_0, bcell u63_1, bcell u63_2, bcell u63_3, bcell u63_4, bcell u63_5, bcell u63_6, bcell u63_7, bcell u63_8, bcell u63_9, bcell u63_10, bcell u63_11, bcell u63_12, bcell u63_13, bcell u63_14, bcell u63_15, .slice none 0 0, .map none] ++ ((List.replicate (n62.toNat - (i62 + 1)) [.int .u8 0, .int .u8 0, .int .u8 0, .int .u8 0, .int .u8 0, .int .u8 0, .int .u8 0, .int .u8 0, .int .u8 0, .int .u8 0, .int .u8 0, .int .u8 0, .int .u8 0, .int .u8 0, .int .u8 0, .int .u8 0, .slice none 0 0, .map none]).flatten ++ post62)) :: L62) P62 a66 i w') (fun i => n66.toNat - i) 0 ⟨rfl, rfl, rfl, rfl, rfl, rfl, rfl, rfl, rfl, rfl, rfl, rfl, rfl, rfl, trivial⟩ ⟨by decide, H⟩ ?_
    clear H
    rintro i66 w ⟨hi66, H⟩
    ((conv=>whnf);repeat(first|(refine mvT ?_;conv=>whnf)|(refine mvF ?_;conv=>whnf)|(refine cT (by rfl) ?_;conv=>whnf)|(refine cF (by rfl) ?_;conv=>whnf)))
    refine cI (by rfl) (fun h9=>?_) (fun h9=>?_)
    · have hlt66 : (i66 : Int) < n66 := of_decide_eq_true h9
      obtain ⟨g66, cap66, post66, rfl, hgo66, HI⟩ := H.go hlt66
      obtain ⟨es66, ts66, si66, hes66, hez66, hrn66, hts66, hlen2, H⟩ := HI.open hgo66.2.2.2.2
      obtain ⟨L66, hL66⟩ : ∃ L : List Ob, L = ((g62, 152, es62.flatten ++ [bcell u63_0, bcell u63_1, bcell u63_2, bcell u63_3, bcell u63_4, bcell u63_5, bcell u63_6, bcell u63_7, bcell u63_8, bcell u63_9, bcell u63_10, bcell u63_11, bcell u63_12, bcell u63_13, bcell u63_14, bcell u63_15, .slice none 0 0, .map none] ++ ((List.replicate (n62.toNat - (i62 + 1)) [.int .u8 0, .int .u8 0, .int .u8 0, .int .u8 0, .int .u8 0, .int .u8 0, .int .u8 0, .int .u8 0, .int .u8 0, .int .u8 0, .int .u8 0, .int .u8 0, .int .u8 0, .int .u8 0, .int .u8 0, .int .u8 0, .slice none 0 0, .map none]).flatten ++ post62)) :: L62) := ⟨_, rfl⟩
      rw [← hL66] at H hpL66
      obtain ⟨P66, hP66⟩ : ∃ P : World → Prop, P = fun w => (∀ (j : Nat) (c : List Value) (y : T), es66[j]? = some c → ts66[j]? = some y → elQ true 7 3 [] ⟨w, fun k => k ≠ p⟩ c y) ∧ P62 w := ⟨_, rfl⟩
      rw [← hP66] at H
      replace H : St w0 G0 p pb si66 ((g66, 21, es66.flatten ++ [.int .i32 0] ++ ((List.replicate (n66.toNat - (i66 + 1)) [.int .i32 0]).flatten ++ post66)) :: L66) P66 w := H
      ((conv=>whnf);repeat(first|(refine mvT ?_;conv=>whnf)|(refine mvF ?_;conv=>whnf)|(refine cT (by rfl) ?_;conv=>whnf)|(refine cF (by rfl) ?_;conv=>whnf)))
      refine Does.mono H.int32 ?_
      rintro r w ⟨n67, s67, rfl, hn67, hr67, H⟩
      ((conv=>whnf);repeat(first|(refine mvT ?_;conv=>whnf)|(refine mvF ?_;conv=>whnf)|(refine cT (by rfl) ?_;conv=>whnf)|(refine cF (by rfl) ?_;conv=>whnf)))
      refine ⟨g66, 0, rfl, ⟨by omega, by omega⟩, ?_⟩
      ((conv=>whnf);repeat(first|(refine mvT ?_;conv=>whnf)|(refine mvF ?_;conv=>whnf)|(refine cT (by rfl) ?_;conv=>whnf)|(refine cF (by rfl) ?_;conv=>whnf)))
      refine H.st1 (v := .int .i32 n67) 0 (rfl) (rfl) rfl (by first | omega | (simp [hlen2]; done) | (simp [hlen2]; omega)) rfl (Nat.lt_of_lt_of_le (Nat.lt_succ_self _) (Nat.le_of_ble_eq_true rfl)) ?_
      intro w H
      ((conv=>whnf);repeat(first|(refine mvT ?_;conv=>whnf)|(refine mvF ?_;conv=>whnf)|(refine cT (by rfl) ?_;conv=>whnf)|(refine cF (by rfl) ?_;conv=>whnf)))
      replace H : St w0 G0 p pb s67 ((g66, 21, es66.flatten ++ [.int .i32 n67] ++ ((List.replicate (n66.toNat - (i66 + 1)) [.int .i32 0]).flatten ++ post66)) :: L66) P66 w := H
      refine ⟨i66 + 1, ⟨rfl, rfl, ?_, rfl, rfl, rfl, rfl, rfl, rfl, rfl, rfl, rfl, rfl, rfl, trivial⟩, ⟨by omega, ListI.back hgo66 (LoopI.next hes66 hez66 hrn66 hts66 (cur := [.int .i32 n67]) (x := numT n67) (hr67) rfl (by rw [← hL66]; exact H) fun w hP => ?_)⟩, by omega⟩
      · show some (Value.int .i32 _) = _
        rw [IntKind.wrap_i32]
        simp only [Option.some.injEq, Value.int.injEq, true_and]
        omega
      · skip
        rw [hP66] at hP
        exact ⟨⟨_, hn67, rfl, rfl⟩, hP⟩
    have hge66 : ¬ (i66 : Int) < n66 := of_decide_eq_false h9
    obtain ⟨l68, s68, hone68, hl68, hr68, H⟩ := H.done hge66 hln66 (nl := nlF (.mk 11 0 (-1) (-1) (-1) 0 3 []) v) (sz := elZ true 7 3 []) rfl hpL66 rfl
    ((conv=>whnf);repeat(first|(refine mvT ?_;conv=>whnf)|(refine mvF ?_;conv=>whnf)|(refine cT (by rfl) ?_;conv=>whnf)|(refine cF (by rfl) ?_;conv=>whnf)))
    obtain ⟨P69, hP69⟩ : ∃ P : World → Prop, P = fun w => ListR true (elZ true 7 3 []) (elQ true 7 3 [] ⟨w, fun k => k ≠ p⟩) w (fun k => k ≠ p) a66 (.mk 0 [] (decide (n66 ≤ 0)) l68 []) ∧ P62 w := ⟨_, rfl⟩
    replace H : St w0 G0 p pb s68 ((g62, 152, es62.flatten ++ [bcell u63_0, bcell u63_1, bcell u63_2, bcell u63_3, bcell u63_4, bcell u63_5, bcell u63_6, bcell u63_7, bcell u63_8, bcell u63_9, bcell u63_10, bcell u63_11, bcell u63_12, bcell u63_13, bcell u63_14, bcell u63_15, .slice none 0 0, .map none] ++ ((List.replicate (n62.toNat - (i62 + 1)) [.int .u8 0, .int .u8 0, .int .u8 0, .int .u8 0, .int .u8 0, .int .u8 0, .int .u8 0, .int .u8 0, .int .u8 0, .int .u8 0, .int .u8 0, .int .u8 0, .int .u8 0, .int .u8 0, .int .u8 0, .int .u8 0, .slice none 0 0, .map none]).flatten ++ post62)) :: L62) P69 w := by rw [hP69]; exact H
    refine H.st1 (v := a66) 16 (cells_one hone68) (hone68) rfl (by first | omega | (simp [hlen1]; done) | (simp [hlen1]; omega)) rfl (Nat.lt_of_lt_of_le (Nat.lt_succ_self _) (Nat.le_of_ble_eq_true rfl)) ?_
    intro w H
    ((conv=>whnf);repeat(first|(refine mvT ?_;conv=>whnf)|(refine mvF ?_;conv=>whnf)|(refine cT (by rfl) ?_;conv=>whnf)|(refine cF (by rfl) ?_;conv=>whnf)))
    replace H : St w0 G0 p pb s68 ((g62, 152, es62.flatten ++ [bcell u63_0, bcell u63_1, bcell u63_2, bcell u63_3, bcell u63_4, bcell u63_5, bcell u63_6, bcell u63_7, bcell u63_8, bcell u63_9, bcell u63_10, bcell u63_11, bcell u63_12, bcell u63_13, bcell u63_14, bcell u63_15, a66, .map none] ++ ((List.replicate (n62.toNat - (i62 + 1)) [.int .u8 0, .int .u8 0, .int .u8 0, .int .u8 0, .int .u8 0, .int .u8 0, .int .u8 0, .int .u8 0, .int .u8 0, .int .u8 0, .int .u8 0, .int .u8 0, .int .u8 0, .int .u8 0, .int .u8 0, .int .u8 0, .slice none 0 0, .map none]).flatten ++ post62)) :: L62) P69 w := H
    (refine mvB ?_;((conv=>whnf);repeat(first|(refine mvT ?_;conv=>whnf)|(refine mvF ?_;conv=>whnf)|(refine cT (by rfl) ?_;conv=>whnf)|(refine cF (by rfl) ?_;conv=>whnf))))
    refine VC.cutB (fun q : Value × List Tg × Rd => [(0, .pointer (some ⟨p, 0, none⟩)), (2, .bool false), (7, .pointer (some ⟨pb, 0, none⟩)), (8, .int .i16 v), (9, .bool fx), (10, .pointer (some ⟨p, 0, none⟩)), (51, .int .i32 n62), (50, .slice (some ⟨g62, 0, none⟩) n62.toNat cap62), (52, .int .i32 i62), (53, .pointer (some ⟨g62, 0 + (i62 : Int).toNat * 18, none⟩)), (54, .pointer (some ⟨g62, 0 + (i62 : Int).toNat * 18, none⟩))]) (fun q w' => rdTagsF fx s68 = q.2 ∧ St w0 G0 p pb q.2.2 ((g62, 152, es62.flatten ++ [bcell u63_0, bcell u63_1, bcell u63_2, bcell u63_3, bcell u63_4, bcell u63_5, bcell u63_6, bcell u63_7, bcell u63_8, bcell u63_9, bcell u63_10, bcell u63_11, bcell u63_12, bcell u63_13, bcell u63_14, bcell u63_15, a66, q.1] ++ ((List.replicate (n62.toNat - (i62 + 1)) [.int .u8 0, .int .u8 0, .int .u8 0, .int .u8 0, .int .u8 0, .int .u8 0, .int .u8 0, .int .u8 0, .int .u8 0, .int .u8 0, .int .u8 0, .int .u8 0, .int .u8 0, .int .u8 0, .int .u8 0, .int .u8 0, .slice none 0 0, .map none]).flatten ++ post62)) :: L62) (fun w => TGf p q.1 q.2.1 w ∧ P69 w) w') ?_ ?_
    · refine cI (by rfl) (fun hc=>?_) (fun hc=>?_)
      · ((conv=>whnf);repeat(first|(refine mvT ?_;conv=>whnf)|(refine mvF ?_;conv=>whnf)|(refine cT (by rfl) ?_;conv=>whnf)|(refine cF (by rfl) ?_;conv=>whnf)))
        refine Does.mono H.tags ?_
        rintro r w ⟨m, u, s', rfl, hone, hr, H⟩
        ((conv=>whnf);repeat(first|(refine mvT ?_;conv=>whnf)|(refine mvF ?_;conv=>whnf)|(refine cT (by rfl) ?_;conv=>whnf)|(refine cF (by rfl) ?_;conv=>whnf)))
        refine H.st1 (v := m) 17 (rfl) (hone) rfl (by first | omega | (simp [hlen1]; done) | (simp [hlen1]; omega)) rfl (Nat.lt_of_lt_of_le (Nat.lt_succ_self _) (Nat.le_of_ble_eq_true rfl)) ?_
        intro w H
        ((conv=>whnf);repeat(first|(refine mvT ?_;conv=>whnf)|(refine mvF ?_;conv=>whnf)|(refine cT (by rfl) ?_;conv=>whnf)|(refine cF (by rfl) ?_;conv=>whnf)))
        exact ⟨(m, u, s'), ⟨rfl, rfl, rfl, rfl, rfl, rfl, rfl, rfl, rfl, rfl, rfl, trivial⟩, by rw [rdTagsF, if_pos hc]; exact hr, H⟩
      · ((conv=>whnf);repeat(first|(refine mvT ?_;conv=>whnf)|(refine mvF ?_;conv=>whnf)|(refine cT (by rfl) ?_;conv=>whnf)|(refine cF (by rfl) ?_;conv=>whnf)))
        exact ⟨(.map none, [], s68), ⟨rfl, rfl, rfl, rfl, rfl, rfl, rfl, rfl, rfl, rfl, rfl, trivial⟩, by rw [rdTagsF, if_neg (by rw [hc]; decide)], H.add fun w' _ => TagsR.nil _ _⟩
    clear H
    rintro ⟨m71, u71, s71⟩ w ⟨htg, H⟩
    dsimp only at htg H
    ((conv=>whnf);repeat(first|(refine mvT ?_;conv=>whnf)|(refine mvF ?_;conv=>whnf)|(refine cT (by rfl) ?_;conv=>whnf)|(refine cF (by rfl) ?_;conv=>whnf)))
    obtain ⟨P72, hP72⟩ : ∃ P : World → Prop, P = fun w => TGf p m71 u71 w ∧ P69 w := ⟨_, rfl⟩
    replace H : St w0 G0 p pb s71 ((g62, 152, es62.flatten ++ [bcell u63_0, bcell u63_1, bcell u63_2, bcell u63_3, bcell u63_4, bcell u63_5, bcell u63_6, bcell u63_7, bcell u63_8, bcell u63_9, bcell u63_10, bcell u63_11, bcell u63_12, bcell u63_13, bcell u63_14, bcell u63_15, a66, m71] ++ ((List.replicate (n62.toNat - (i62 + 1)) [.int .u8 0, .int .u8 0, .int .u8 0, .int .u8 0, .int .u8 0, .int .u8 0, .int .u8 0, .int .u8 0, .int .u8 0, .int .u8 0, .int .u8 0, .int .u8 0, .int .u8 0, .int .u8 0, .int .u8 0, .int .u8 0, .slice none 0 0, .map none]).flatten ++ post62)) :: L62) P72 w := by rw [hP72]; exact H
    have hpart : rdPart 8 v fx dShareFetchRequestForgottenTopicsData si62 = (.mk 0 [] false [.mk 0 [u63_0, u63_1, u63_2, u63_3, u63_4, u63_5, u63_6, u63_7, u63_8, u63_9, u63_10, u63_11, u63_12, u63_13, u63_14, u63_15] false [] [], .mk 0 [] (decide (n66 ≤ 0)) l68 []] u71, s71) := by
      unfold rdPart rdPartW
      rw [rdAll_yes (df := dfT 8) (rdField7.trans hr63) ⟨by decide, has_all hv⟩, rdAll_yes (df := dfT 8) ((rdField_list _ _ _ _ _ _ _ _ _ _ _).trans hr68) ⟨by decide, has_all hv⟩]
      simp only [rdAll]
      rw [htg]
    refine ⟨i62 + 1, ⟨rfl, rfl, ?_, rfl, rfl, rfl, rfl, rfl, rfl, trivial⟩, ⟨by omega, ListI.back hgo62 (LoopI.next hes62 hez62 hrn62 hts62 (cur := [bcell u63_0, bcell u63_1, bcell u63_2, bcell u63_3, bcell u63_4, bcell u63_5, bcell u63_6, bcell u63_7, bcell u63_8, bcell u63_9, bcell u63_10, bcell u63_11, bcell u63_12, bcell u63_13, bcell u63_14, bcell u63_15, a66, m71]) (x := .mk 0 [] false [.mk 0 [u63_0, u63_1, u63_2, u63_3, u63_4, u63_5, u63_6, u63_7, u63_8, u63_9, u63_10, u63_11, u63_12, u63_13, u63_14, u63_15] false [] [], .mk 0 [] (decide (n66 ≤ 0)) l68 []] u71) (hpart) rfl (by rw [← hL62]; exact H) fun w hP => ?_)⟩, by omega⟩
    · show some (Value.int .i32 _) = _
      rw [IntKind.wrap_i32]
      simp only [Option.some.injEq, Value.int.injEq, true_and]
      omega
    · skip
      rw [hP72] at hP
      obtain ⟨hf72_, hP⟩ := hP
      rw [hP69] at hP
      obtain ⟨hf69_, hP⟩ := hP
      rw [hP62] at hP
      exact ⟨QPt (QA1 (QF7 (u := [u63_0, u63_1, u63_2, u63_3, u63_4, u63_5, u63_6, u63_7, u63_8, u63_9, u63_10, u63_11, u63_12, u63_13, u63_14, u63_15]) rfl) (QA1 (QF11 hl68 hf69_) (QA0))) hf72_, hP⟩
  have hge62 : ¬ (i62 : Int) < n62 := of_decide_eq_false h9
  obtain ⟨l73, s73, hone73, hl73, hr73, H⟩ := H.done hge62 hln62 (nl := nlF (.mk 11 0 (-1) (-1) (-1) 0 10 dShareFetchRequestForgottenTopicsData) v) (sz := elZ true 8 10 dShareFetchRequestForgottenTopicsData) rfl hpL62 rfl
  ((conv=>whnf);repeat(first|(refine mvT ?_;conv=>whnf)|(refine mvF ?_;conv=>whnf)|(refine cT (by rfl) ?_;conv=>whnf)|(refine cF (by rfl) ?_;conv=>whnf)))
  obtain ⟨P74, hP74⟩ : ∃ P : World → Prop, P = fun w => ListR true (elZ true 8 10 dShareFetchRequestForgottenTopicsData) (elQ true 8 10 dShareFetchRequestForgottenTopicsData ⟨w, fun k => k ≠ p⟩) w (fun k => k ≠ p) a62 (.mk 0 [] (decide (n62 ≤ 0)) l73 []) ∧ P60 w := ⟨_, rfl⟩
  replace H : St w0 G0 p pb s73 ((p, ty, [] ++ [.int .i16 v, c1, c4, .int .i32 n7, .int .i32 n9, .int .i32 n11, .int .i32 n13, .int .i32 n15, .int .i32 n18, .int .i8 n21, .bool n24, a27, .slice none 0 0, .map none] ++ []) :: []) P74 w := by rw [hP74]; exact H
  refine H.st1 (v := a62) 12 (cells_one hone73) (hone73) rfl (by simp) rfl (Nat.lt_of_lt_of_le (Nat.lt_succ_self _) (Nat.le_of_ble_eq_true rfl)) ?_
  intro w H
  ((conv=>whnf);repeat(first|(refine mvT ?_;conv=>whnf)|(refine mvF ?_;conv=>whnf)|(refine cT (by rfl) ?_;conv=>whnf)|(refine cF (by rfl) ?_;conv=>whnf)))
  replace H : St w0 G0 p pb s73 ((p, ty, [] ++ [.int .i16 v, c1, c4, .int .i32 n7, .int .i32 n9, .int .i32 n11, .int .i32 n13, .int .i32 n15, .int .i32 n18, .int .i8 n21, .bool n24, a27, a62, .map none] ++ []) :: []) P74 w := H
  (refine mvB ?_;((conv=>whnf);repeat(first|(refine mvT ?_;conv=>whnf)|(refine mvF ?_;conv=>whnf)|(refine cT (by rfl) ?_;conv=>whnf)|(refine cF (by rfl) ?_;conv=>whnf))))
  refine VC.cutE (fun q : Value × List Tg × Rd => [(0, .pointer (some ⟨p, 0, none⟩)), (2, .bool false), (7, .pointer (some ⟨pb, 0, none⟩)), (8, .int .i16 v), (9, .bool fx), (10, .pointer (some ⟨p, 0, none⟩))]) (fun q w' => rdTagsF fx s73 = q.2 ∧ St w0 G0 p pb q.2.2 ((p, ty, [] ++ [.int .i16 v, c1, c4, .int .i32 n7, .int .i32 n9, .int .i32 n11, .int .i32 n13, .int .i32 n15, .int .i32 n18, .int .i8 n21, .bool n24, a27, a62, q.1] ++ []) :: []) (fun w => TGf p q.1 q.2.1 w ∧ P74 w) w') ?_ ?_
  · refine cI (by rfl) (fun hc=>?_) (fun hc=>?_)
    · ((conv=>whnf);repeat(first|(refine mvT ?_;conv=>whnf)|(refine mvF ?_;conv=>whnf)|(refine cT (by rfl) ?_;conv=>whnf)|(refine cF (by rfl) ?_;conv=>whnf)))
      refine Does.mono H.tags ?_
      rintro r w ⟨m, u, s', rfl, hone, hr, H⟩
      ((conv=>whnf);repeat(first|(refine mvT ?_;conv=>whnf)|(refine mvF ?_;conv=>whnf)|(refine cT (by rfl) ?_;conv=>whnf)|(refine cF (by rfl) ?_;conv=>whnf)))
      refine H.st1 (v := m) 13 (rfl) (hone) rfl (by simp) rfl (Nat.lt_of_lt_of_le (Nat.lt_succ_self _) (Nat.le_of_ble_eq_true rfl)) ?_
      intro w H
      ((conv=>whnf);repeat(first|(refine mvT ?_;conv=>whnf)|(refine mvF ?_;conv=>whnf)|(refine cT (by rfl) ?_;conv=>whnf)|(refine cF (by rfl) ?_;conv=>whnf)))
      exact ⟨(m, u, s'), ⟨rfl, rfl, rfl, rfl, rfl, rfl, trivial⟩, by rw [rdTagsF, if_pos hc]; exact hr, H⟩
    · ((conv=>whnf);repeat(first|(refine mvT ?_;conv=>whnf)|(refine mvF ?_;conv=>whnf)|(refine cT (by rfl) ?_;conv=>whnf)|(refine cF (by rfl) ?_;conv=>whnf)))
      exact ⟨(.map none, [], s73), ⟨rfl, rfl, rfl, rfl, rfl, rfl, trivial⟩, by rw [rdTagsF, if_neg (by rw [hc]; decide)], H.add fun w' _ => TagsR.nil _ _⟩
  clear H
  rintro ⟨m76, u76, s76⟩ w ⟨htg, H⟩
  dsimp only at htg H
  ((conv=>whnf);repeat(first|(refine mvT ?_;conv=>whnf)|(refine mvF ?_;conv=>whnf)|(refine cT (by rfl) ?_;conv=>whnf)|(refine cF (by rfl) ?_;conv=>whnf)))
  obtain ⟨P77, hP77⟩ : ∃ P : World → Prop, P = fun w => TGf p m76 u76 w ∧ P74 w := ⟨_, rfl⟩
  replace H : St w0 G0 p pb s76 ((p, ty, [] ++ [.int .i16 v, c1, c4, .int .i32 n7, .int .i32 n9, .int .i32 n11, .int .i32 n13, .int .i32 n15, .int .i32 n18, .int .i8 n21, .bool n24, a27, a62, m76] ++ []) :: []) P77 w := by rw [hP77]; exact H
  have hpart : rdPart 9 v fx dShareFetchRequest (l, false) = (.mk 0 [] false [.mk 0 u1 nl1 [] [], .mk 0 u4 nl4 [] [], numT n7, numT n9, numT n11, numT n13, numT n15, numT n18, numT n21, numT (if n24 = true then 1 else 0), .mk 0 [] (decide (n27 ≤ 0)) l59 [], .mk 0 [] (decide (n62 ≤ 0)) l73 []] u76, s76) := by
    unfold rdPart rdPartW
    rw [rdAll_yes (df := dfT 9) ((rdField8n (by decide)).trans hr1) ⟨by decide, has_all hv⟩, rdAll_yes (df := dfT 9) ((rdField8n (by decide)).trans hr4) ⟨by decide, has_all hv⟩, rdAll_yes (df := dfT 9) (rdField3.trans hr7) ⟨by decide, has_all hv⟩, rdAll_yes (df := dfT 9) (rdField3.trans hr9) ⟨by decide, has_all hv⟩, rdAll_yes (df := dfT 9) (rdField3.trans hr11) ⟨by decide, has_all hv⟩, rdAll_yes (df := dfT 9) (rdField3.trans hr13) ⟨by decide, has_all hv⟩, rdAll_ver hr15 (by decide), rdAll_ver hr18 (by decide), rdAll_ver hr21 (by decide), rdAll_ver hr24 (by decide), rdAll_yes (df := dfT 9) ((rdField_list _ _ _ _ _ _ _ _ _ _ _).trans hr59) ⟨by decide, has_all hv⟩, rdAll_yes (df := dfT 9) ((rdField_list _ _ _ _ _ _ _ _ _ _ _).trans hr73) ⟨by decide, has_all hv⟩]
    simp only [rdAll]
    rw [htg]
  refine Does.mono (H.done hL hp1) ?_
  rintro r w ⟨rfl, H⟩
  ((conv=>whnf);repeat(first|(refine mvT ?_;conv=>whnf)|(refine mvF ?_;conv=>whnf)|(refine cT (by rfl) ?_;conv=>whnf)|(refine cF (by rfl) ?_;conv=>whnf)))
  refine RdPost.end hpart H fun hP => ?_
  rw [hP77] at hP
  obtain ⟨hf77_, hP⟩ := hP
  rw [hP74] at hP
  obtain ⟨hf74_, hP⟩ := hP
  rw [hP60] at hP
  obtain ⟨hf60_, hP⟩ := hP
  rw [hP5] at hP
  obtain ⟨hf5_, hP⟩ := hP
  rw [hP2] at hP
  obtain ⟨hf2_, hP⟩ := hP
  exact QPt (QA1 (QF8n (by decide) hnl1 hf2_) (QA1 (QF8n (by decide) hnl4 hf5_) (QA1 (QF3 hn7) (QA1 (QF3 hn9) (QA1 (QF3 hn11) (QA1 (QF3 hn13) (QA1 (QF3 hn15) (QA1 (QF3 hn18) (QA1 (QF1 hn21) (QA1 (QF0 n24) (QA1 (QF11 hl59 hf60_) (QA1 (QF11 hl73 hf74_) (QA0))))))))))))) hf77_
end Go.Proofs.YtmmieooipcfbiaaGreatDoor.K
