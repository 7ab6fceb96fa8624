/- Reading of FetchRequest. -/
import Derived.Test.YtgfkjnbhcekfkaaGreatDoorE7
set_option linter.unusedVariables false
set_option linter.unusedSimpArgs false
namespace Go.Proofs.YtgfkjnbhcekfkaaGreatDoor.K
open Go
set_option maxHeartbeats 4000000
set_option maxRecDepth 100000

theorem mvG {K : Bool → Prop} {e : Bool} {Rest : Prop} (hr : Rest) (h : Rest → ∀ c, e = c → K c) : ∀ c, e = c → K c := h hr
abbrev dFetchRequestReplicaState : List Fd := [.mk 3 0 (-1) (-1) (-1) (-1) 0 [], .mk 4 0 (-1) (-1) (-1) (-1) 0 []]
abbrev dFetchRequestTopicPartition : List Fd := [.mk 3 0 (-1) (-1) (-1) 0 0 [], .mk 3 9 (-1) (-1) (-1) (-1) 0 [], .mk 4 0 (-1) (-1) (-1) 0 0 [], .mk 3 12 (-1) (-1) (-1) (-1) 0 [], .mk 4 5 (-1) (-1) (-1) (-1) 0 [], .mk 3 0 (-1) (-1) (-1) 0 0 [], .mk 7 0 (-1) (-1) 0 0 0 [], .mk 4 0 (-1) (-1) 1 9223372036854775807 0 []]
abbrev dFetchRequestTopic : List Fd := [.mk 8 0 12 (-1) (-1) 0 0 [], .mk 7 13 (-1) (-1) (-1) 0 0 [], .mk 11 0 (-1) (-1) (-1) 0 10 dFetchRequestTopicPartition]
abbrev dFetchRequestForgottenTopic : List Fd := [.mk 8 7 12 (-1) (-1) 0 0 [], .mk 7 13 (-1) (-1) (-1) 0 0 [], .mk 11 0 (-1) (-1) (-1) 0 3 []]
abbrev dFetchRequest : List Fd := [.mk 8 0 (-1) 0 0 0 0 [], .mk 3 0 14 (-1) (-1) (-1) 0 [], .mk 10 0 (-1) (-1) 1 0 0 dFetchRequestReplicaState, .mk 3 0 (-1) (-1) (-1) 0 0 [], .mk 3 0 (-1) (-1) (-1) 0 0 [], .mk 3 3 (-1) (-1) (-1) 2147483647 0 [], .mk 1 4 (-1) (-1) (-1) 0 0 [], .mk 3 7 (-1) (-1) (-1) 0 0 [], .mk 3 7 (-1) (-1) (-1) (-1) 0 [], .mk 11 0 (-1) (-1) (-1) 0 10 dFetchRequestTopic, .mk 11 7 (-1) (-1) (-1) 0 10 dFetchRequestForgottenTopic, .mk 8 11 (-1) (-1) (-1) 0 0 []]
theorem sFetchRequestReplicaState (w : World) : Does X.P 17 #[] w fun r w' => FdsR w' (fun k => w.heap.size ≤ k) r dFetchRequestReplicaState ∧ Ext nob w w' := by
  have hx0 : Ext nob w w := Ext.refl _ _
  refine Does.go (X := X) (l := []) Tryz.func17 rfl (by kernel_rfl) (by kernel_rfl) _ rfl ?_
  ((conv=>whnf);repeat((first|refine mvT ?_|refine mvF ?_|refine yT ?_|refine yF ?_);conv=>whnf))
  have hxs := hx0
  intro b wb hb ho hx
  have hx0 := hx0.e0 hx
  ((conv=>whnf);repeat((first|refine mvT ?_|refine mvF ?_|refine yT ?_|refine yF ?_);conv=>whnf))
  refine ⟨?_, hx0⟩
  exact FdL.fds (cs := [[.int .i64 3, .int .i64 0, .int .i64 (-1), .int .i64 (-1), .int .i64 (-1), .int .i64 (-1), .int .i64 0, .slice none 0 0], [.int .i64 4, .int .i64 0, .int .i64 (-1), .int .i64 (-1), .int .i64 (-1), .int .i64 (-1), .int .i64 0, .slice none 0 0]])
    ⟨fdLeaf _ _ _ _ _ _ _ _ _, fdLeaf _ _ _ _ _ _ _ _ _, trivial⟩ ho rfl (by decide) (by have := hxs.size; omega)
theorem sFetchRequestTopicPartition (w : World) : Does X.P 27 #[] w fun r w' => FdsR w' (fun k => w.heap.size ≤ k) r dFetchRequestTopicPartition ∧ Ext nob w w' := by
  have hx0 : Ext nob w w := Ext.refl _ _
  refine Does.go (X := X) (l := []) Tryz.func27 rfl (by kernel_rfl) (by kernel_rfl) _ rfl ?_
  ((conv=>whnf);repeat((first|refine mvT ?_|refine mvF ?_|refine yT ?_|refine yF ?_);conv=>whnf))
  have hxs := hx0
  intro b wb hb ho hx
  have hx0 := hx0.e0 hx
  ((conv=>whnf);repeat((first|refine mvT ?_|refine mvF ?_|refine yT ?_|refine yF ?_);conv=>whnf))
  refine ⟨?_, hx0⟩
  exact FdL.fds (cs := [[.int .i64 3, .int .i64 0, .int .i64 (-1), .int .i64 (-1), .int .i64 (-1), .int .i64 0, .int .i64 0, .slice none 0 0], [.int .i64 3, .int .i64 9, .int .i64 (-1), .int .i64 (-1), .int .i64 (-1), .int .i64 (-1), .int .i64 0, .slice none 0 0], [.int .i64 4, .int .i64 0, .int .i64 (-1), .int .i64 (-1), .int .i64 (-1), .int .i64 0, .int .i64 0, .slice none 0 0], [.int .i64 3, .int .i64 12, .int .i64 (-1), .int .i64 (-1), .int .i64 (-1), .int .i64 (-1), .int .i64 0, .slice none 0 0], [.int .i64 4, .int .i64 5, .int .i64 (-1), .int .i64 (-1), .int .i64 (-1), .int .i64 (-1), .int .i64 0, .slice none 0 0], [.int .i64 3, .int .i64 0, .int .i64 (-1), .int .i64 (-1), .int .i64 (-1), .int .i64 0, .int .i64 0, .slice none 0 0], [.int .i64 7, .int .i64 0, .int .i64 (-1), .int .i64 (-1), .int .i64 0, .int .i64 0, .int .i64 0, .slice none 0 0], [.int .i64 4, .int .i64 0, .int .i64 (-1), .int .i64 (-1), .int .i64 1, .int .i64 9223372036854775807, .int .i64 0, .slice none 0 0]])
    ⟨fdLeaf _ _ _ _ _ _ _ _ _, fdLeaf _ _ _ _ _ _ _ _ _, fdLeaf _ _ _ _ _ _ _ _ _, fdLeaf _ _ _ _ _ _ _ _ _, fdLeaf _ _ _ _ _ _ _ _ _, fdLeaf _ _ _ _ _ _ _ _ _, fdLeaf _ _ _ _ _ _ _ _ _, fdLeaf _ _ _ _ _ _ _ _ _, trivial⟩ ho rfl (by decide) (by have := hxs.size; omega)
theorem sFetchRequestTopic (w : World) : Does X.P 18 #[] w fun r w' => FdsR w' (fun k => w.heap.size ≤ k) r dFetchRequestTopic ∧ Ext nob w w' := by
  have hx0 : Ext nob w w := Ext.refl _ _
  refine Does.go (X := X) (l := []) Tryz.func18 rfl (by kernel_rfl) (by kernel_rfl) _ rfl ?_
  ((conv=>whnf);repeat((first|refine mvT ?_|refine mvF ?_|refine yT ?_|refine yF ?_);conv=>whnf))
  refine Does.mono (sFetchRequestTopicPartition w) ?_
  rintro v2 wv2 ⟨hv2, hc⟩
  have hv2 := hv2.mono (F' := fun k => w.heap.size ≤ k) fun k _ h => Nat.le_trans hx0.size h
  obtain ⟨lv2, gv2, _⟩ := id hv2
  obtain ⟨av2, kv2, rfl, _⟩ := gv2.view
  ((conv=>whnf);repeat((first|refine mvT ?_|refine mvF ?_|refine yT ?_|refine yF ?_);conv=>whnf))
  have hx0 := hx0.e0 hc
  have hxs := hx0
  intro b wb hb ho hx
  have hx0 := hx0.e0 hx
  ((conv=>whnf);repeat((first|refine mvT ?_|refine mvF ?_|refine yT ?_|refine yF ?_);conv=>whnf))
  refine ⟨?_, hx0⟩
  exact FdL.fds (cs := [[.int .i64 8, .int .i64 0, .int .i64 12, .int .i64 (-1), .int .i64 (-1), .int .i64 0, .int .i64 0, .slice none 0 0], [.int .i64 7, .int .i64 13, .int .i64 (-1), .int .i64 (-1), .int .i64 (-1), .int .i64 0, .int .i64 0, .slice none 0 0], [.int .i64 11, .int .i64 0, .int .i64 (-1), .int .i64 (-1), .int .i64 (-1), .int .i64 0, .int .i64 10, .slice av2 lv2.length kv2]])
    ⟨fdLeaf _ _ _ _ _ _ _ _ _, fdLeaf _ _ _ _ _ _ _ _ _, FdC.of (hv2.e0 hx) _ _ _ _ _ _ _, trivial⟩ ho rfl (by decide) (by have := hxs.size; omega)
theorem sFetchRequestForgottenTopic (w : World) : Does X.P 19 #[] w fun r w' => FdsR w' (fun k => w.heap.size ≤ k) r dFetchRequestForgottenTopic ∧ Ext nob w w' := by
  have hx0 : Ext nob w w := Ext.refl _ _
  refine Does.go (X := X) (l := []) Tryz.func19 rfl (by kernel_rfl) (by kernel_rfl) _ rfl ?_
  ((conv=>whnf);repeat((first|refine mvT ?_|refine mvF ?_|refine yT ?_|refine yF ?_);conv=>whnf))
  have hxs := hx0
  intro b wb hb ho hx
  have hx0 := hx0.e0 hx
  ((conv=>whnf);repeat((first|refine mvT ?_|refine mvF ?_|refine yT ?_|refine yF ?_);conv=>whnf))
  refine ⟨?_, hx0⟩
  exact FdL.fds (cs := [[.int .i64 8, .int .i64 7, .int .i64 12, .int .i64 (-1), .int .i64 (-1), .int .i64 0, .int .i64 0, .slice none 0 0], [.int .i64 7, .int .i64 13, .int .i64 (-1), .int .i64 (-1), .int .i64 (-1), .int .i64 0, .int .i64 0, .slice none 0 0], [.int .i64 11, .int .i64 0, .int .i64 (-1), .int .i64 (-1), .int .i64 (-1), .int .i64 0, .int .i64 3, .slice none 0 0]])
    ⟨fdLeaf _ _ _ _ _ _ _ _ _, fdLeaf _ _ _ _ _ _ _ _ _, fdLeaf _ _ _ _ _ _ _ _ _, trivial⟩ ho rfl (by decide) (by have := hxs.size; omega)
theorem sFetchRequest (w : World) : Does X.P 7 #[] w fun r w' => Msg w' (fun k => w.heap.size ≤ k) r dFetchRequest 12 ∧ Ext nob w w' := by
  have hx0 : Ext nob w w := Ext.refl _ _
  refine Does.go (X := X) (l := []) Tryz.func7 rfl (by kernel_rfl) (by kernel_rfl) _ rfl ?_
  ((conv=>whnf);repeat((first|refine mvT ?_|refine mvF ?_|refine yT ?_|refine yF ?_);conv=>whnf))
  intro b w1 hb ho hx
  have hx0 := hx0.e0 hx
  have ho := ho
  ((conv=>whnf);repeat((first|refine mvT ?_|refine mvF ?_|refine yT ?_|refine yF ?_);conv=>whnf))
  refine Does.mono (sFetchRequestReplicaState w1) ?_
  rintro v2 wv2 ⟨hv2, hc⟩
  have hv2 := hv2.mono (F' := fun k => w.heap.size ≤ k ∧ b < k) fun k _ h => ⟨Nat.le_trans hx0.size h, Nat.lt_of_lt_of_le ho.lt h⟩
  obtain ⟨lv2, gv2, _⟩ := id hv2
  obtain ⟨av2, kv2, rfl, _⟩ := gv2.view
  ((conv=>whnf);repeat((first|refine mvT ?_|refine mvF ?_|refine yT ?_|refine yF ?_);conv=>whnf))
  have hx0 := hx0.e0 hc
  have ho := ho.e0 hc
  refine Does.mono (sFetchRequestTopic wv2) ?_
  rintro v9 wv9 ⟨hv9, hc⟩
  have hv9 := hv9.mono (F' := fun k => w.heap.size ≤ k ∧ b < k) fun k _ h => ⟨Nat.le_trans hx0.size h, Nat.lt_of_lt_of_le ho.lt h⟩
  obtain ⟨lv9, gv9, _⟩ := id hv9
  obtain ⟨av9, kv9, rfl, _⟩ := gv9.view
  ((conv=>whnf);repeat((first|refine mvT ?_|refine mvF ?_|refine yT ?_|refine yF ?_);conv=>whnf))
  have hv2 := hv2.e0 hc
  have hx0 := hx0.e0 hc
  have ho := ho.e0 hc
  refine Does.mono (sFetchRequestForgottenTopic wv9) ?_
  rintro v10 wv10 ⟨hv10, hc⟩
  have hv10 := hv10.mono (F' := fun k => w.heap.size ≤ k ∧ b < k) fun k _ h => ⟨Nat.le_trans hx0.size h, Nat.lt_of_lt_of_le ho.lt h⟩
  obtain ⟨lv10, gv10, _⟩ := id hv10
  obtain ⟨av10, kv10, rfl, _⟩ := gv10.view
  ((conv=>whnf);repeat((first|refine mvT ?_|refine mvF ?_|refine yT ?_|refine yF ?_);conv=>whnf))
  have hv2 := hv2.e0 hc
  have hv9 := hv9.e0 hc
  have hx0 := hx0.e0 hc
  have ho := ho.e0 hc
  have hxs := hx0
  intro b2 w2 hb2 ho2 hx2
  ((conv=>whnf);repeat((first|refine mvT ?_|refine mvF ?_|refine yT ?_|refine yF ?_);conv=>whnf))
  have hx0 := hx0.e0 hx2
  refine ⟨_, _, ho.e0 hx2, rfl, rfl, rfl, ?_⟩
  intro w3 ho3 hx3
  have hx03 := hx0.st hx3 hb
  ((conv=>whnf);repeat((first|refine mvT ?_|refine mvF ?_|refine yT ?_|refine yF ?_);conv=>whnf))
  refine ⟨_, rfl, ho3.cells, ?_⟩
  refine ⟨⟨_, rfl, ?_⟩, hx03⟩
  have ho2 := ho2.ext hx3 (by have := ho.lt; omega)
  have hs := hx0.size
  have hs2 : w.heap.size ≤ b2 := Nat.le_trans hxs.size hb2
  exact FdL.fds (cs := [[.int .i64 8, .int .i64 0, .int .i64 (-1), .int .i64 0, .int .i64 0, .int .i64 0, .int .i64 0, .slice none 0 0], [.int .i64 3, .int .i64 0, .int .i64 14, .int .i64 (-1), .int .i64 (-1), .int .i64 (-1), .int .i64 0, .slice none 0 0], [.int .i64 10, .int .i64 0, .int .i64 (-1), .int .i64 (-1), .int .i64 1, .int .i64 0, .int .i64 0, .slice av2 lv2.length kv2], [.int .i64 3, .int .i64 0, .int .i64 (-1), .int .i64 (-1), .int .i64 (-1), .int .i64 0, .int .i64 0, .slice none 0 0], [.int .i64 3, .int .i64 0, .int .i64 (-1), .int .i64 (-1), .int .i64 (-1), .int .i64 0, .int .i64 0, .slice none 0 0], [.int .i64 3, .int .i64 3, .int .i64 (-1), .int .i64 (-1), .int .i64 (-1), .int .i64 2147483647, .int .i64 0, .slice none 0 0], [.int .i64 1, .int .i64 4, .int .i64 (-1), .int .i64 (-1), .int .i64 (-1), .int .i64 0, .int .i64 0, .slice none 0 0], [.int .i64 3, .int .i64 7, .int .i64 (-1), .int .i64 (-1), .int .i64 (-1), .int .i64 0, .int .i64 0, .slice none 0 0], [.int .i64 3, .int .i64 7, .int .i64 (-1), .int .i64 (-1), .int .i64 (-1), .int .i64 (-1), .int .i64 0, .slice none 0 0], [.int .i64 11, .int .i64 0, .int .i64 (-1), .int .i64 (-1), .int .i64 (-1), .int .i64 0, .int .i64 10, .slice av9 lv9.length kv9], [.int .i64 11, .int .i64 7, .int .i64 (-1), .int .i64 (-1), .int .i64 (-1), .int .i64 0, .int .i64 10, .slice av10 lv10.length kv10], [.int .i64 8, .int .i64 11, .int .i64 (-1), .int .i64 (-1), .int .i64 (-1), .int .i64 0, .int .i64 0, .slice none 0 0]])
    ⟨fdLeaf _ _ _ _ _ _ _ _ _, fdLeaf _ _ _ _ _ _ _ _ _, FdC.of (FdsR.mono (FdsR.ext (FdsR.e0 hv2 hx2) hx3 fun k _ h1 h2 => by omega) fun k _ h => h.1) _ _ _ _ _ _ _, fdLeaf _ _ _ _ _ _ _ _ _, fdLeaf _ _ _ _ _ _ _ _ _, fdLeaf _ _ _ _ _ _ _ _ _, fdLeaf _ _ _ _ _ _ _ _ _, fdLeaf _ _ _ _ _ _ _ _ _, fdLeaf _ _ _ _ _ _ _ _ _, FdC.of (FdsR.mono (FdsR.ext (FdsR.e0 hv9 hx2) hx3 fun k _ h1 h2 => by omega) fun k _ h => h.1) _ _ _ _ _ _ _, FdC.of (FdsR.mono (FdsR.ext (FdsR.e0 hv10 hx2) hx3 fun k _ h1 h2 => by omega) fun k _ h => h.1) _ _ _ _ _ _ _, fdLeaf _ _ _ _ _ _ _ _ _, trivial⟩ ho2 rfl (by decide) (by omega)
theorem dfFetchRequestReplicaState {w : World} {q o : Nat} {T : TypeId} {pre cur post : List Value} (ho : Own w q T (pre ++ cur ++ post)) (hp : pre.length = o) (hl : cur.length = 3) :
    Does X.P 68 #[.pointer (some ⟨q, o, none⟩)] w fun r w' => Own w' q T (pre ++ ((cur.set 0 (.int .i32 (-1))).set 1 (.int .i64 (-1))) ++ post) ∧ Ext (fun k => k = q) w w' := by
  have hx : Ext (fun k => k = q) w w := Ext.refl _ _
  refine Does.go (X := X) (l := [_]) Tryz.func68 rfl (by kernel_rfl) (by kernel_rfl) _ rfl ?_
  ((conv=>whnf);repeat((first|refine mvT ?_|refine mvF ?_|refine yT ?_|refine yF ?_);conv=>whnf))
  refine stm ho 0 rfl rfl hp (by omega) rfl (by first | omega | (simp only [List.length_set]; omega)) ?_
  intro w0 ho hxd
  have hx := hx.trans hxd fun _ _ h => h
  ((conv=>whnf);repeat((first|refine mvT ?_|refine mvF ?_|refine yT ?_|refine yF ?_);conv=>whnf))
  refine stm ho 1 rfl rfl hp (by omega) rfl (by first | omega | (simp only [List.length_set]; omega)) ?_
  intro w1 ho hxd
  have hx := hx.trans hxd fun _ _ h => h
  ((conv=>whnf);repeat((first|refine mvT ?_|refine mvF ?_|refine yT ?_|refine yF ?_);conv=>whnf))
  exact ⟨ho, hx⟩
theorem dfFetchRequestTopicPartition {w : World} {q o : Nat} {T : TypeId} {pre cur post : List Value} (ho : Own w q T (pre ++ cur ++ post)) (hp : pre.length = o) (hl : cur.length = 24) :
    Does X.P 57 #[.pointer (some ⟨q, o, none⟩)] w fun r w' => Own w' q T (pre ++ ((((cur.set 1 (.int .i32 (-1))).set 3 (.int .i32 (-1))).set 4 (.int .i64 (-1))).set 22 (.int .i64 9223372036854775807)) ++ post) ∧ Ext (fun k => k = q) w w' := by
  have hx : Ext (fun k => k = q) w w := Ext.refl _ _
  refine Does.go (X := X) (l := [_]) Tryz.func57 rfl (by kernel_rfl) (by kernel_rfl) _ rfl ?_
  ((conv=>whnf);repeat((first|refine mvT ?_|refine mvF ?_|refine yT ?_|refine yF ?_);conv=>whnf))
  refine stm ho 1 rfl rfl hp (by omega) rfl (by first | omega | (simp only [List.length_set]; omega)) ?_
  intro w0 ho hxd
  have hx := hx.trans hxd fun _ _ h => h
  ((conv=>whnf);repeat((first|refine mvT ?_|refine mvF ?_|refine yT ?_|refine yF ?_);conv=>whnf))
  refine stm ho 3 rfl rfl hp (by omega) rfl (by first | omega | (simp only [List.length_set]; omega)) ?_
  intro w1 ho hxd
  have hx := hx.trans hxd fun _ _ h => h
  ((conv=>whnf);repeat((first|refine mvT ?_|refine mvF ?_|refine yT ?_|refine yF ?_);conv=>whnf))
  refine stm ho 4 rfl rfl hp (by omega) rfl (by first | omega | (simp only [List.length_set]; omega)) ?_
  intro w2 ho hxd
  have hx := hx.trans hxd fun _ _ h => h
  ((conv=>whnf);repeat((first|refine mvT ?_|refine mvF ?_|refine yT ?_|refine yF ?_);conv=>whnf))
  refine stm ho 22 rfl rfl hp (by omega) rfl (by first | omega | (simp only [List.length_set]; omega)) ?_
  intro w3 ho hxd
  have hx := hx.trans hxd fun _ _ h => h
  ((conv=>whnf);repeat((first|refine mvT ?_|refine mvF ?_|refine yT ?_|refine yF ?_);conv=>whnf))
  exact ⟨ho, hx⟩
theorem dfFetchRequestTopic {w : World} {q o : Nat} {T : TypeId} {pre cur post : List Value} (ho : Own w q T (pre ++ cur ++ post)) (hp : pre.length = o) (hl : cur.length = 19) :
    Does X.P 51 #[.pointer (some ⟨q, o, none⟩)] w fun r w' => Own w' q T (pre ++ cur ++ post) ∧ Ext (fun k => k = q) w w' := by
  have hx : Ext (fun k => k = q) w w := Ext.refl _ _
  refine Does.go (X := X) (l := [_]) Tryz.func51 rfl (by kernel_rfl) (by kernel_rfl) _ rfl ?_
  ((conv=>whnf);repeat((first|refine mvT ?_|refine mvF ?_|refine yT ?_|refine yF ?_);conv=>whnf))
  exact ⟨ho, hx⟩
theorem dfFetchRequestForgottenTopic {w : World} {q o : Nat} {T : TypeId} {pre cur post : List Value} (ho : Own w q T (pre ++ cur ++ post)) (hp : pre.length = o) (hl : cur.length = 19) :
    Does X.P 63 #[.pointer (some ⟨q, o, none⟩)] w fun r w' => Own w' q T (pre ++ cur ++ post) ∧ Ext (fun k => k = q) w w' := by
  have hx : Ext (fun k => k = q) w w := Ext.refl _ _
  refine Does.go (X := X) (l := [_]) Tryz.func63 rfl (by kernel_rfl) (by kernel_rfl) _ rfl ?_
  ((conv=>whnf);repeat((first|refine mvT ?_|refine mvF ?_|refine yT ?_|refine yF ?_);conv=>whnf))
  exact ⟨ho, hx⟩
theorem dfFetchRequest {w : World} {q o : Nat} {T : TypeId} {pre cur post : List Value} (ho : Own w q T (pre ++ cur ++ post)) (hp : pre.length = o) (hl : cur.length = 16) :
    Does X.P 26 #[.pointer (some ⟨q, o, none⟩)] w fun r w' => Own w' q T (pre ++ ((((((cur.set 1 (.pointer none)).set 2 (.int .i32 (-1))).set 3 (.int .i32 (-1))).set 4 (.int .i64 (-1))).set 8 (.int .i32 2147483647)).set 11 (.int .i32 (-1))) ++ post) ∧ Ext (fun k => k = q) w w' := by
  have hx : Ext (fun k => k = q) w w := Ext.refl _ _
  refine Does.go (X := X) (l := [_]) Tryz.func26 rfl (by kernel_rfl) (by kernel_rfl) _ rfl ?_
  ((conv=>whnf);repeat((first|refine mvT ?_|refine mvF ?_|refine yT ?_|refine yF ?_);conv=>whnf))
  refine stm ho 1 rfl rfl hp (by omega) rfl (by first | omega | (simp only [List.length_set]; omega)) ?_
  intro w0 ho hxd
  have hx := hx.trans hxd fun _ _ h => h
  ((conv=>whnf);repeat((first|refine mvT ?_|refine mvF ?_|refine yT ?_|refine yF ?_);conv=>whnf))
  refine stm ho 2 rfl rfl hp (by omega) rfl (by first | omega | (simp only [List.length_set]; omega)) ?_
  intro w1 ho hxd
  have hx := hx.trans hxd fun _ _ h => h
  ((conv=>whnf);repeat((first|refine mvT ?_|refine mvF ?_|refine yT ?_|refine yF ?_);conv=>whnf))
  refine stm ho 3 rfl rfl hp (by omega) rfl (by first | omega | (simp only [List.length_set]; omega)) ?_
  intro w2 ho hxd
  have hx := hx.trans hxd fun _ _ h => h
  ((conv=>whnf);repeat((first|refine mvT ?_|refine mvF ?_|refine yT ?_|refine yF ?_);conv=>whnf))
  refine stm ho 4 rfl rfl hp (by omega) rfl (by first | omega | (simp only [List.length_set]; omega)) ?_
  intro w3 ho hxd
  have hx := hx.trans hxd fun _ _ h => h
  ((conv=>whnf);repeat((first|refine mvT ?_|refine mvF ?_|refine yT ?_|refine yF ?_);conv=>whnf))
  refine stm ho 8 rfl rfl hp (by omega) rfl (by first | omega | (simp only [List.length_set]; omega)) ?_
  intro w4 ho hxd
  have hx := hx.trans hxd fun _ _ h => h
  ((conv=>whnf);repeat((first|refine mvT ?_|refine mvF ?_|refine yT ?_|refine yF ?_);conv=>whnf))
  refine stm ho 11 rfl rfl hp (by omega) rfl (by first | omega | (simp only [List.length_set]; omega)) ?_
  intro w5 ho hxd
  have hx := hx.trans hxd fun _ _ h => h
  ((conv=>whnf);repeat((first|refine mvT ?_|refine mvF ?_|refine yT ?_|refine yF ?_);conv=>whnf))
  exact ⟨ho, hx⟩
theorem readFetchRequest {w0 : World} {F : Nat → Prop} {p : Nat} {ty : TypeId} {v : Int} {x ev : Value} {l : List UInt8} (hL : Laid w0 ev) (hp : Own w0 p ty [.int .i16 v, .pointer none, .int .i32 (-1), .int .i32 (-1), .int .i64 (-1), .map none, .int .i32 0, .int .i32 0, .int .i32 2147483647, .int .i8 0, .int .i32 0, .int .i32 (-1), .slice none 0 0, .slice none 0 0, str [], .map none]) (hx : Bytes w0 F x l) (hF : ∀ k, F k → k ≠ p) (hv : 0 ≤ v) (hp1 : p ≠ errG) :
    Does X.P 36 #[.pointer (some ⟨p, 0, none⟩), x, .bool false] w0 fun r w' => RdPost w0 p ty v (decide (v ≥ 12)) true dFetchRequest ev l r w' := by
  have hpl := hp.lt
  obtain ⟨fx, hfx⟩ : ∃ fx, fx = decide (v ≥ 12) := ⟨_, rfl⟩
  rw [← hfx]
  obtain ⟨G0, hG0, hx⟩ : ∃ G0 : Nat → Prop, (∀ k, G0 k → k < w0.heap.size ∧ k ≠ p) ∧ Bytes w0 G0 x l := ⟨fun k => F k ∧ k < w0.heap.size, fun k h => ⟨h.2, hF k h.1⟩, Sl.mono hx fun k hk h => ⟨h, hk⟩⟩
  obtain ⟨a0, c0, rfl, _⟩ := hx.view
  refine Does.go (X := X) (l := [_, _, _]) Tryz.func36 rfl (by kernel_rfl) (by kernel_rfl) _ rfl ?_
  ((conv=>whnf);repeat((first|refine mvT ?_|refine mvF ?_|refine yT ?_|refine yF ?_);conv=>whnf))
  refine Does.mono (dfFetchRequest (pre := []) (cur := [.int .i16 v, .pointer none, .int .i32 (-1), .int .i32 (-1), .int .i64 (-1), .map none, .int .i32 0, .int .i32 0, .int .i32 2147483647, .int .i8 0, .int .i32 0, .int .i32 (-1), .slice none 0 0, .slice none 0 0, str [], .map none]) (post := []) (by simpa using hp) rfl rfl) ?_
  rintro rd wd ⟨hpd, hxd⟩
  ((conv=>whnf);repeat((first|refine mvT ?_|refine mvF ?_|refine yT ?_|refine yF ?_);conv=>whnf))
  intro pb w1 hpb hb hx1
  ((conv=>whnf);repeat((first|refine mvT ?_|refine mvF ?_|refine yT ?_|refine yF ?_);conv=>whnf))
  refine st_all [.slice a0 l.length c0, .bool false] hb rfl rfl rfl ?_
  intro w hb hx2
  ((conv=>whnf);repeat((first|refine mvT ?_|refine mvF ?_|refine yT ?_|refine yF ?_);conv=>whnf))
  have hsd := hxd.size
  have hwp : w0.heap.size ≤ pb := by omega
  have he1 : Ext nob wd w := hx1.trans hx2 fun k hk h => by omega
  have hpw : Own w p ty [.int .i16 v, .pointer none, .int .i32 (-1), .int .i32 (-1), .int .i64 (-1), .map none, .int .i32 0, .int .i32 0, .int .i32 2147483647, .int .i8 0, .int .i32 0, .int .i32 (-1), .slice none 0 0, .slice none 0 0, str [], .map none] := by have := hpd.e0 he1; simpa using this
  have he := hxd.tr0 he1
  have H := St.init hpw hb (hx.ext he fun k _ h => (hG0 k h).2) hG0 he hpl hwp
  clear hpd hxd hx1 hx2 hb hpw he1 hp
  refine ldS (H.cell (o := 0) rfl (k := 0) rfl) ?_;((conv=>whnf);repeat((first|refine mvT ?_|refine mvF ?_|refine yT ?_|refine yF ?_);conv=>whnf))
  rw [← hfx]
  (refine mvB ?_;((conv=>whnf);repeat((first|refine mvT ?_|refine mvF ?_|refine yT ?_|refine yF ?_);conv=>whnf)))
  have hup0 : tailBad 9 v fx dFetchRequest dFetchRequest (l, false) = true → (rdPart 9 v fx dFetchRequest (l, false)).2.2 = true := fun h => (tailBad_part _ _ _ _ _).symm.trans h
  intro cq hcq
  obtain rfl : cq = true := by rw [← hcq]; exact decide_eq_true hv
  ((conv=>whnf);repeat((first|refine mvT ?_|refine mvF ?_|refine yT ?_|refine yF ?_);conv=>whnf))
  refine VC.cutE (fun q : Int × Rd => [(0, .pointer (some ⟨p, 0, none⟩)), (2, .bool false), (7, .pointer (some ⟨pb, 0, none⟩)), (8, .int .i16 v), (9, .bool fx), (10, .pointer (some ⟨p, 0, none⟩))]) (fun q w' => IntKind.i32.wrap q.1 = q.1 ∧ (if hasF (.mk 3 0 14 (-1) (-1) (-1) 0 []) v = true then rdField 9 v fx (.mk 3 0 14 (-1) (-1) (-1) 0 []) (l, false) else (dfT 9 (.mk 3 0 14 (-1) (-1) (-1) 0 []), (l, false))) = (numT q.1, q.2) ∧ St w0 G0 p pb q.2 ((p, ty, [] ++ [.int .i16 v, .pointer none, .int .i32 q.1, .int .i32 (-1), .int .i64 (-1), .map none, .int .i32 0, .int .i32 0, .int .i32 2147483647, .int .i8 0, .int .i32 0, .int .i32 (-1), .slice none 0 0, .slice none 0 0, str [], .map none] ++ []) :: []) (fun _ => True) w') ?_ ?_
  · refine cI (by rfl) (fun hcv=>?_) (fun hcv=>?_)
    · ((conv=>whnf);repeat((first|refine mvT ?_|refine mvF ?_|refine yT ?_|refine yF ?_);conv=>whnf))
      refine Does.mono H.int32 ?_
      rintro r w ⟨n2, s2, rfl, hn2, hr2, H⟩
      ((conv=>whnf);repeat((first|refine mvT ?_|refine mvF ?_|refine yT ?_|refine yF ?_);conv=>whnf))
      refine H.st1 (v := .int .i32 n2) 2 (rfl) (rfl) rfl (by simp) rfl (Nat.lt_of_lt_of_le (Nat.lt_succ_self _) (Nat.le_of_ble_eq_true rfl)) ?_
      intro w H
      ((conv=>whnf);repeat((first|refine mvT ?_|refine mvF ?_|refine yT ?_|refine yF ?_);conv=>whnf))
      replace H : St w0 G0 p pb s2 ((p, ty, [] ++ [.int .i16 v, .pointer none, .int .i32 n2, .int .i32 (-1), .int .i64 (-1), .map none, .int .i32 0, .int .i32 0, .int .i32 2147483647, .int .i8 0, .int .i32 0, .int .i32 (-1), .slice none 0 0, .slice none 0 0, str [], .map none] ++ []) :: []) (fun _ => True) w := H
      have hh : hasF (.mk 3 0 14 (-1) (-1) (-1) 0 []) v = true := by have := of_decide_eq_true hcv; rw [hasF_iff]; omega
      exact ⟨(n2, s2), ⟨rfl, rfl, rfl, rfl, rfl, rfl, trivial⟩, hn2, by rw [if_pos hh]; exact (rdField3.trans hr2), H⟩
    · ((conv=>whnf);repeat((first|refine mvT ?_|refine mvF ?_|refine yT ?_|refine yF ?_);conv=>whnf))
      have hh : ¬ hasF (.mk 3 0 14 (-1) (-1) (-1) 0 []) v = true := by have := of_decide_eq_false hcv; rw [hasF_iff]; omega
      exact ⟨((-1), (l, false)), ⟨rfl, rfl, rfl, rfl, rfl, rfl, trivial⟩, rfl, by rw [if_neg hh]; rfl, H⟩
  clear H
  rintro ⟨n1, s1⟩ w ⟨hn1, hr1, H⟩
  dsimp only at hn1 hr1 H
  ((conv=>whnf);repeat((first|refine mvT ?_|refine mvF ?_|refine yT ?_|refine yF ?_);conv=>whnf))
  replace H : St w0 G0 p pb s1 ((p, ty, [] ++ [.int .i16 v, .pointer none, .int .i32 n1, .int .i32 (-1), .int .i64 (-1), .map none, .int .i32 0, .int .i32 0, .int .i32 2147483647, .int .i8 0, .int .i32 0, .int .i32 (-1), .slice none 0 0, .slice none 0 0, str [], .map none] ++ []) :: []) (fun _ => True) w := H
  refine Does.mono H.int32 ?_
  rintro r w ⟨n4, s4, rfl, hn4, hr4, H⟩
  ((conv=>whnf);repeat((first|refine mvT ?_|refine mvF ?_|refine yT ?_|refine yF ?_);conv=>whnf))
  refine H.st1 (v := .int .i32 n4) 6 (rfl) (rfl) rfl (by simp) rfl (Nat.lt_of_lt_of_le (Nat.lt_succ_self _) (Nat.le_of_ble_eq_true rfl)) ?_
  intro w H
  ((conv=>whnf);repeat((first|refine mvT ?_|refine mvF ?_|refine yT ?_|refine yF ?_);conv=>whnf))
  replace H : St w0 G0 p pb s4 ((p, ty, [] ++ [.int .i16 v, .pointer none, .int .i32 n1, .int .i32 (-1), .int .i64 (-1), .map none, .int .i32 n4, .int .i32 0, .int .i32 2147483647, .int .i8 0, .int .i32 0, .int .i32 (-1), .slice none 0 0, .slice none 0 0, str [], .map none] ++ []) :: []) (fun _ => True) w := H
  refine Does.mono H.int32 ?_
  rintro r w ⟨n6, s6, rfl, hn6, hr6, H⟩
  ((conv=>whnf);repeat((first|refine mvT ?_|refine mvF ?_|refine yT ?_|refine yF ?_);conv=>whnf))
  refine H.st1 (v := .int .i32 n6) 7 (rfl) (rfl) rfl (by simp) rfl (Nat.lt_of_lt_of_le (Nat.lt_succ_self _) (Nat.le_of_ble_eq_true rfl)) ?_
  intro w H
  ((conv=>whnf);repeat((first|refine mvT ?_|refine mvF ?_|refine yT ?_|refine yF ?_);conv=>whnf))
  replace H : St w0 G0 p pb s6 ((p, ty, [] ++ [.int .i16 v, .pointer none, .int .i32 n1, .int .i32 (-1), .int .i64 (-1), .map none, .int .i32 n4, .int .i32 n6, .int .i32 2147483647, .int .i8 0, .int .i32 0, .int .i32 (-1), .slice none 0 0, .slice none 0 0, str [], .map none] ++ []) :: []) (fun _ => True) w := H
  refine VC.cutE (fun q : Int × Rd => [(0, .pointer (some ⟨p, 0, none⟩)), (2, .bool false), (7, .pointer (some ⟨pb, 0, none⟩)), (8, .int .i16 v), (9, .bool fx), (10, .pointer (some ⟨p, 0, none⟩))]) (fun q w' => IntKind.i32.wrap q.1 = q.1 ∧ (if hasF (.mk 3 3 (-1) (-1) (-1) 2147483647 0 []) v = true then rdField 9 v fx (.mk 3 3 (-1) (-1) (-1) 2147483647 0 []) s6 else (dfT 9 (.mk 3 3 (-1) (-1) (-1) 2147483647 0 []), s6)) = (numT q.1, q.2) ∧ St w0 G0 p pb q.2 ((p, ty, [] ++ [.int .i16 v, .pointer none, .int .i32 n1, .int .i32 (-1), .int .i64 (-1), .map none, .int .i32 n4, .int .i32 n6, .int .i32 q.1, .int .i8 0, .int .i32 0, .int .i32 (-1), .slice none 0 0, .slice none 0 0, str [], .map none] ++ []) :: []) (fun _ => True) w') ?_ ?_
  · refine cI (by rfl) (fun hcv=>?_) (fun hcv=>?_)
    · ((conv=>whnf);repeat((first|refine mvT ?_|refine mvF ?_|refine yT ?_|refine yF ?_);conv=>whnf))
      refine Does.mono H.int32 ?_
      rintro r w ⟨n9, s9, rfl, hn9, hr9, H⟩
      ((conv=>whnf);repeat((first|refine mvT ?_|refine mvF ?_|refine yT ?_|refine yF ?_);conv=>whnf))
      refine H.st1 (v := .int .i32 n9) 8 (rfl) (rfl) rfl (by simp) rfl (Nat.lt_of_lt_of_le (Nat.lt_succ_self _) (Nat.le_of_ble_eq_true rfl)) ?_
      intro w H
      ((conv=>whnf);repeat((first|refine mvT ?_|refine mvF ?_|refine yT ?_|refine yF ?_);conv=>whnf))
      replace H : St w0 G0 p pb s9 ((p, ty, [] ++ [.int .i16 v, .pointer none, .int .i32 n1, .int .i32 (-1), .int .i64 (-1), .map none, .int .i32 n4, .int .i32 n6, .int .i32 n9, .int .i8 0, .int .i32 0, .int .i32 (-1), .slice none 0 0, .slice none 0 0, str [], .map none] ++ []) :: []) (fun _ => True) w := H
      have hh : hasF (.mk 3 3 (-1) (-1) (-1) 2147483647 0 []) v = true := by have := of_decide_eq_true hcv; rw [hasF_iff]; omega
      exact ⟨(n9, s9), ⟨rfl, rfl, rfl, rfl, rfl, rfl, trivial⟩, hn9, by rw [if_pos hh]; exact (rdField3.trans hr9), H⟩
    · ((conv=>whnf);repeat((first|refine mvT ?_|refine mvF ?_|refine yT ?_|refine yF ?_);conv=>whnf))
      have hh : ¬ hasF (.mk 3 3 (-1) (-1) (-1) 2147483647 0 []) v = true := by have := of_decide_eq_false hcv; rw [hasF_iff]; omega
      exact ⟨(2147483647, s6), ⟨rfl, rfl, rfl, rfl, rfl, rfl, trivial⟩, rfl, by rw [if_neg hh]; rfl, H⟩
  clear H
  rintro ⟨n8, s8⟩ w ⟨hn8, hr8, H⟩
  dsimp only at hn8 hr8 H
  ((conv=>whnf);repeat((first|refine mvT ?_|refine mvF ?_|refine yT ?_|refine yF ?_);conv=>whnf))
  replace H : St w0 G0 p pb s8 ((p, ty, [] ++ [.int .i16 v, .pointer none, .int .i32 n1, .int .i32 (-1), .int .i64 (-1), .map none, .int .i32 n4, .int .i32 n6, .int .i32 n8, .int .i8 0, .int .i32 0, .int .i32 (-1), .slice none 0 0, .slice none 0 0, str [], .map none] ++ []) :: []) (fun _ => True) w := H
  refine VC.cutE (fun q : Int × Rd => [(0, .pointer (some ⟨p, 0, none⟩)), (2, .bool false), (7, .pointer (some ⟨pb, 0, none⟩)), (8, .int .i16 v), (9, .bool fx), (10, .pointer (some ⟨p, 0, none⟩))]) (fun q w' => IntKind.i8.wrap q.1 = q.1 ∧ (if hasF (.mk 1 4 (-1) (-1) (-1) 0 0 []) v = true then rdField 9 v fx (.mk 1 4 (-1) (-1) (-1) 0 0 []) s8 else (dfT 9 (.mk 1 4 (-1) (-1) (-1) 0 0 []), s8)) = (numT q.1, q.2) ∧ St w0 G0 p pb q.2 ((p, ty, [] ++ [.int .i16 v, .pointer none, .int .i32 n1, .int .i32 (-1), .int .i64 (-1), .map none, .int .i32 n4, .int .i32 n6, .int .i32 n8, .int .i8 q.1, .int .i32 0, .int .i32 (-1), .slice none 0 0, .slice none 0 0, str [], .map none] ++ []) :: []) (fun _ => True) w') ?_ ?_
  · refine cI (by rfl) (fun hcv=>?_) (fun hcv=>?_)
    · ((conv=>whnf);repeat((first|refine mvT ?_|refine mvF ?_|refine yT ?_|refine yF ?_);conv=>whnf))
      refine Does.mono H.int8 ?_
      rintro r w ⟨n12, s12, rfl, hn12, hr12, H⟩
      ((conv=>whnf);repeat((first|refine mvT ?_|refine mvF ?_|refine yT ?_|refine yF ?_);conv=>whnf))
      refine H.st1 (v := .int .i8 n12) 9 (rfl) (rfl) rfl (by simp) rfl (Nat.lt_of_lt_of_le (Nat.lt_succ_self _) (Nat.le_of_ble_eq_true rfl)) ?_
      intro w H
      ((conv=>whnf);repeat((first|refine mvT ?_|refine mvF ?_|refine yT ?_|refine yF ?_);conv=>whnf))
      replace H : St w0 G0 p pb s12 ((p, ty, [] ++ [.int .i16 v, .pointer none, .int .i32 n1, .int .i32 (-1), .int .i64 (-1), .map none, .int .i32 n4, .int .i32 n6, .int .i32 n8, .int .i8 n12, .int .i32 0, .int .i32 (-1), .slice none 0 0, .slice none 0 0, str [], .map none] ++ []) :: []) (fun _ => True) w := H
      have hh : hasF (.mk 1 4 (-1) (-1) (-1) 0 0 []) v = true := by have := of_decide_eq_true hcv; rw [hasF_iff]; omega
      exact ⟨(n12, s12), ⟨rfl, rfl, rfl, rfl, rfl, rfl, trivial⟩, hn12, by rw [if_pos hh]; exact (rdField1.trans hr12), H⟩
    · ((conv=>whnf);repeat((first|refine mvT ?_|refine mvF ?_|refine yT ?_|refine yF ?_);conv=>whnf))
      have hh : ¬ hasF (.mk 1 4 (-1) (-1) (-1) 0 0 []) v = true := by have := of_decide_eq_false hcv; rw [hasF_iff]; omega
      exact ⟨(0, s8), ⟨rfl, rfl, rfl, rfl, rfl, rfl, trivial⟩, rfl, by rw [if_neg hh]; rfl, H⟩
  clear H
  rintro ⟨n11, s11⟩ w ⟨hn11, hr11, H⟩
  dsimp only at hn11 hr11 H
  ((conv=>whnf);repeat((first|refine mvT ?_|refine mvF ?_|refine yT ?_|refine yF ?_);conv=>whnf))
  replace H : St w0 G0 p pb s11 ((p, ty, [] ++ [.int .i16 v, .pointer none, .int .i32 n1, .int .i32 (-1), .int .i64 (-1), .map none, .int .i32 n4, .int .i32 n6, .int .i32 n8, .int .i8 n11, .int .i32 0, .int .i32 (-1), .slice none 0 0, .slice none 0 0, str [], .map none] ++ []) :: []) (fun _ => True) w := H
  refine VC.cutE (fun q : Int × Rd => [(0, .pointer (some ⟨p, 0, none⟩)), (2, .bool false), (7, .pointer (some ⟨pb, 0, none⟩)), (8, .int .i16 v), (9, .bool fx), (10, .pointer (some ⟨p, 0, none⟩))]) (fun q w' => IntKind.i32.wrap q.1 = q.1 ∧ (if hasF (.mk 3 7 (-1) (-1) (-1) 0 0 []) v = true then rdField 9 v fx (.mk 3 7 (-1) (-1) (-1) 0 0 []) s11 else (dfT 9 (.mk 3 7 (-1) (-1) (-1) 0 0 []), s11)) = (numT q.1, q.2) ∧ St w0 G0 p pb q.2 ((p, ty, [] ++ [.int .i16 v, .pointer none, .int .i32 n1, .int .i32 (-1), .int .i64 (-1), .map none, .int .i32 n4, .int .i32 n6, .int .i32 n8, .int .i8 n11, .int .i32 q.1, .int .i32 (-1), .slice none 0 0, .slice none 0 0, str [], .map none] ++ []) :: []) (fun _ => True) w') ?_ ?_
  · refine cI (by rfl) (fun hcv=>?_) (fun hcv=>?_)
    · ((conv=>whnf);repeat((first|refine mvT ?_|refine mvF ?_|refine yT ?_|refine yF ?_);conv=>whnf))
      refine Does.mono H.int32 ?_
      rintro r w ⟨n15, s15, rfl, hn15, hr15, H⟩
      ((conv=>whnf);repeat((first|refine mvT ?_|refine mvF ?_|refine yT ?_|refine yF ?_);conv=>whnf))
      refine H.st1 (v := .int .i32 n15) 10 (rfl) (rfl) rfl (by simp) rfl (Nat.lt_of_lt_of_le (Nat.lt_succ_self _) (Nat.le_of_ble_eq_true rfl)) ?_
      intro w H
      ((conv=>whnf);repeat((first|refine mvT ?_|refine mvF ?_|refine yT ?_|refine yF ?_);conv=>whnf))
      replace H : St w0 G0 p pb s15 ((p, ty, [] ++ [.int .i16 v, .pointer none, .int .i32 n1, .int .i32 (-1), .int .i64 (-1), .map none, .int .i32 n4, .int .i32 n6, .int .i32 n8, .int .i8 n11, .int .i32 n15, .int .i32 (-1), .slice none 0 0, .slice none 0 0, str [], .map none] ++ []) :: []) (fun _ => True) w := H
      have hh : hasF (.mk 3 7 (-1) (-1) (-1) 0 0 []) v = true := by have := of_decide_eq_true hcv; rw [hasF_iff]; omega
      exact ⟨(n15, s15), ⟨rfl, rfl, rfl, rfl, rfl, rfl, trivial⟩, hn15, by rw [if_pos hh]; exact (rdField3.trans hr15), H⟩
    · ((conv=>whnf);repeat((first|refine mvT ?_|refine mvF ?_|refine yT ?_|refine yF ?_);conv=>whnf))
      have hh : ¬ hasF (.mk 3 7 (-1) (-1) (-1) 0 0 []) v = true := by have := of_decide_eq_false hcv; rw [hasF_iff]; omega
      exact ⟨(0, s11), ⟨rfl, rfl, rfl, rfl, rfl, rfl, trivial⟩, rfl, by rw [if_neg hh]; rfl, H⟩
  clear H
  rintro ⟨n14, s14⟩ w ⟨hn14, hr14, H⟩
  dsimp only at hn14 hr14 H
  ((conv=>whnf);repeat((first|refine mvT ?_|refine mvF ?_|refine yT ?_|refine yF ?_);conv=>whnf))
  replace H : St w0 G0 p pb s14 ((p, ty, [] ++ [.int .i16 v, .pointer none, .int .i32 n1, .int .i32 (-1), .int .i64 (-1), .map none, .int .i32 n4, .int .i32 n6, .int .i32 n8, .int .i8 n11, .int .i32 n14, .int .i32 (-1), .slice none 0 0, .slice none 0 0, str [], .map none] ++ []) :: []) (fun _ => True) w := H
  refine VC.cutE (fun q : Int × Rd => [(0, .pointer (some ⟨p, 0, none⟩)), (2, .bool false), (7, .pointer (some ⟨pb, 0, none⟩)), (8, .int .i16 v), (9, .bool fx), (10, .pointer (some ⟨p, 0, none⟩))]) (fun q w' => IntKind.i32.wrap q.1 = q.1 ∧ (if hasF (.mk 3 7 (-1) (-1) (-1) (-1) 0 []) v = true then rdField 9 v fx (.mk 3 7 (-1) (-1) (-1) (-1) 0 []) s14 else (dfT 9 (.mk 3 7 (-1) (-1) (-1) (-1) 0 []), s14)) = (numT q.1, q.2) ∧ St w0 G0 p pb q.2 ((p, ty, [] ++ [.int .i16 v, .pointer none, .int .i32 n1, .int .i32 (-1), .int .i64 (-1), .map none, .int .i32 n4, .int .i32 n6, .int .i32 n8, .int .i8 n11, .int .i32 n14, .int .i32 q.1, .slice none 0 0, .slice none 0 0, str [], .map none] ++ []) :: []) (fun _ => True) w') ?_ ?_
  · refine cI (by rfl) (fun hcv=>?_) (fun hcv=>?_)
    · ((conv=>whnf);repeat((first|refine mvT ?_|refine mvF ?_|refine yT ?_|refine yF ?_);conv=>whnf))
      refine Does.mono H.int32 ?_
      rintro r w ⟨n18, s18, rfl, hn18, hr18, H⟩
      ((conv=>whnf);repeat((first|refine mvT ?_|refine mvF ?_|refine yT ?_|refine yF ?_);conv=>whnf))
      refine H.st1 (v := .int .i32 n18) 11 (rfl) (rfl) rfl (by simp) rfl (Nat.lt_of_lt_of_le (Nat.lt_succ_self _) (Nat.le_of_ble_eq_true rfl)) ?_
      intro w H
      ((conv=>whnf);repeat((first|refine mvT ?_|refine mvF ?_|refine yT ?_|refine yF ?_);conv=>whnf))
      replace H : St w0 G0 p pb s18 ((p, ty, [] ++ [.int .i16 v, .pointer none, .int .i32 n1, .int .i32 (-1), .int .i64 (-1), .map none, .int .i32 n4, .int .i32 n6, .int .i32 n8, .int .i8 n11, .int .i32 n14, .int .i32 n18, .slice none 0 0, .slice none 0 0, str [], .map none] ++ []) :: []) (fun _ => True) w := H
      have hh : hasF (.mk 3 7 (-1) (-1) (-1) (-1) 0 []) v = true := by have := of_decide_eq_true hcv; rw [hasF_iff]; omega
      exact ⟨(n18, s18), ⟨rfl, rfl, rfl, rfl, rfl, rfl, trivial⟩, hn18, by rw [if_pos hh]; exact (rdField3.trans hr18), H⟩
    · ((conv=>whnf);repeat((first|refine mvT ?_|refine mvF ?_|refine yT ?_|refine yF ?_);conv=>whnf))
      have hh : ¬ hasF (.mk 3 7 (-1) (-1) (-1) (-1) 0 []) v = true := by have := of_decide_eq_false hcv; rw [hasF_iff]; omega
      exact ⟨((-1), s14), ⟨rfl, rfl, rfl, rfl, rfl, rfl, trivial⟩, rfl, by rw [if_neg hh]; rfl, H⟩
  clear H
  rintro ⟨n17, s17⟩ w ⟨hn17, hr17, H⟩
  dsimp only at hn17 hr17 H
  ((conv=>whnf);repeat((first|refine mvT ?_|refine mvF ?_|refine yT ?_|refine yF ?_);conv=>whnf))
  replace H : St w0 G0 p pb s17 ((p, ty, [] ++ [.int .i16 v, .pointer none, .int .i32 n1, .int .i32 (-1), .int .i64 (-1), .map none, .int .i32 n4, .int .i32 n6, .int .i32 n8, .int .i8 n11, .int .i32 n14, .int .i32 n17, .slice none 0 0, .slice none 0 0, str [], .map none] ++ []) :: []) (fun _ => True) w := H
  refine ldS (H.cell (o := 0) rfl (k := 12) rfl) ?_;((conv=>whnf);repeat((first|refine mvT ?_|refine mvF ?_|refine yT ?_|refine yF ?_);conv=>whnf))
  (refine mvB ?_;((conv=>whnf);repeat((first|refine mvT ?_|refine mvF ?_|refine yT ?_|refine yF ?_);conv=>whnf)))
  refine VC.cutE (fun q : Int × Rd => [(20, .int .i32 q.1), (19, .slice none 0 0), (0, .pointer (some ⟨p, 0, none⟩)), (2, .bool false), (7, .pointer (some ⟨pb, 0, none⟩)), (8, .int .i16 v), (9, .bool fx), (10, .pointer (some ⟨p, 0, none⟩))]) (fun q w' => (-2147483648 ≤ q.1 ∧ q.1 ≤ 2147483647) ∧ rdLn fx s17 = q ∧ St w0 G0 p pb q.2 ((p, ty, [] ++ [.int .i16 v, .pointer none, .int .i32 n1, .int .i32 (-1), .int .i64 (-1), .map none, .int .i32 n4, .int .i32 n6, .int .i32 n8, .int .i8 n11, .int .i32 n14, .int .i32 n17, .slice none 0 0, .slice none 0 0, str [], .map none] ++ []) :: []) (fun _ => True) w') ?_ ?_
  · refine cI (by rfl) (fun hc=>?_) (fun hc=>?_)
    · ((conv=>whnf);repeat((first|refine mvT ?_|refine mvF ?_|refine yT ?_|refine yF ?_);conv=>whnf))
      refine Does.mono H.lnc ?_
      rintro r w ⟨n, s', rfl, hn, hr, H⟩
      ((conv=>whnf);repeat((first|refine mvT ?_|refine mvF ?_|refine yT ?_|refine yF ?_);conv=>whnf))
      exact ⟨(n, s'), ⟨rfl, rfl, rfl, rfl, rfl, rfl, rfl, rfl, trivial⟩, hn, by rw [hc]; exact hr, H⟩
    · ((conv=>whnf);repeat((first|refine mvT ?_|refine mvF ?_|refine yT ?_|refine yF ?_);conv=>whnf))
      refine Does.mono H.lnp ?_
      rintro r w ⟨n, s', rfl, hn, hr, H⟩
      ((conv=>whnf);repeat((first|refine mvT ?_|refine mvF ?_|refine yT ?_|refine yF ?_);conv=>whnf))
      exact ⟨(n, s'), ⟨rfl, rfl, rfl, rfl, rfl, rfl, rfl, rfl, trivial⟩, hn, by rw [hc]; exact hr, H⟩
  clear H
  rintro ⟨n20, s20⟩ w ⟨hn20, hln20, H⟩
  dsimp only at hn20 hln20 H
  ((conv=>whnf);repeat((first|refine mvT ?_|refine mvF ?_|refine yT ?_|refine yF ?_);conv=>whnf))
  refine Does.mono H.ok ?_
  rintro r w ⟨rfl, H⟩
  ((conv=>whnf);repeat((first|refine mvT ?_|refine mvF ?_|refine yT ?_|refine yF ?_);conv=>whnf))
  refine cI (by rfl) (fun hbd=>?_) (fun hbd=>?_)
  · have hbd : s20.2 = true := by simpa using hbd
    ((conv=>whnf);repeat((first|refine mvT ?_|refine mvF ?_|refine yT ?_|refine yF ?_);conv=>whnf))
    refine Does.mono (H.done hL hp1) ?_
    rintro r w ⟨rfl, H⟩
    ((conv=>whnf);repeat((first|refine mvT ?_|refine mvF ?_|refine yT ?_|refine yF ?_);conv=>whnf))
    refine RdPost.early hbd (hup0 (?_)) H
    rw [tail_tag (f := (.mk 8 0 (-1) 0 0 0 0 [])) (by decide), tail_ver hr1 (by decide), tail_tag (f := (.mk 10 0 (-1) (-1) 1 0 0 dFetchRequestReplicaState)) (by decide), tail_yes (rdField3.trans hr4) ⟨by decide, has_all hv⟩, tail_yes (rdField3.trans hr6) ⟨by decide, has_all hv⟩, tail_ver hr8 (by decide), tail_ver hr11 (by decide), tail_ver hr14 (by decide), tail_ver hr17 (by decide), tail_len ⟨by decide, has_all hv⟩ hln20 hbd]
  have hbd : s20.2 = false := by simpa using hbd
  clear hbd
  ((conv=>whnf);repeat((first|refine mvT ?_|refine mvF ?_|refine yT ?_|refine yF ?_);conv=>whnf))
  refine cut_zero ?_
  ((conv=>whnf);repeat((first|refine mvT ?_|refine mvF ?_|refine yT ?_|refine yF ?_);conv=>whnf))
  refine VC.cutE (fun a : Value => [(20, .int .i32 n20), (19, a), (0, .pointer (some ⟨p, 0, none⟩)), (2, .bool false), (7, .pointer (some ⟨pb, 0, none⟩)), (8, .int .i16 v), (9, .bool fx), (10, .pointer (some ⟨p, 0, none⟩))]) (fun a w' => ListI w0 G0 p pb 108 [str [], .int .u8 0, .int .u8 0, .int .u8 0, .int .u8 0, .int .u8 0, .int .u8 0, .int .u8 0, .int .u8 0, .int .u8 0, .int .u8 0, .int .u8 0, .int .u8 0, .int .u8 0, .int .u8 0, .int .u8 0, .int .u8 0, .slice none 0 0, .map none] (elR 8 v fx 10 dFetchRequestTopic) (elQ true 8 10 dFetchRequestTopic) s20 n20 (decide (n20 ≤ 0)) ((p, ty, [] ++ [.int .i16 v, .pointer none, .int .i32 n1, .int .i32 (-1), .int .i64 (-1), .map none, .int .i32 n4, .int .i32 n6, .int .i32 n8, .int .i8 n11, .int .i32 n14, .int .i32 n17, .slice none 0 0, .slice none 0 0, str [], .map none] ++ []) :: []) (fun _ => True) a 0 w') ?_ ?_
  · refine cI (by rfl) (fun hps=>?_) (fun hps=>?_)
    · have hps : 0 < n20 := by have := of_decide_eq_true hps; omega
      ((conv=>whnf);repeat((first|refine mvT ?_|refine mvF ?_|refine yT ?_|refine yF ?_);conv=>whnf))
      refine H.grow hps hn20.2 (by decide) rfl rfl (by decide) ?_
      intro g cap post w hc1 hc2 H
      ((conv=>whnf);repeat((first|refine mvT ?_|refine mvF ?_|refine yT ?_|refine yF ?_);conv=>whnf))
      exact ⟨_, ⟨rfl, rfl, rfl, rfl, rfl, rfl, rfl, rfl, trivial⟩, ListI.some hps (decide_eq_false (by omega)) hc1 hc2 H⟩
    · have hps : n20 ≤ 0 := by have := of_decide_eq_false hps; omega
      ((conv=>whnf);repeat((first|refine mvT ?_|refine mvF ?_|refine yT ?_|refine yF ?_);conv=>whnf))
      exact ⟨_, ⟨rfl, rfl, rfl, rfl, rfl, rfl, rfl, rfl, trivial⟩, ListI.none hps (decide_eq_true hps) H⟩
  clear H
  rintro a20 w H
  ((conv=>whnf);repeat((first|refine mvT ?_|refine mvF ?_|refine yT ?_|refine yF ?_);conv=>whnf))
  have hpL20 : inL ((p, ty, [] ++ [.int .i16 v, .pointer none, .int .i32 n1, .int .i32 (-1), .int .i64 (-1), .map none, .int .i32 n4, .int .i32 n6, .int .i32 n8, .int .i8 n11, .int .i32 n14, .int .i32 n17, .slice none 0 0, .slice none 0 0, str [], .map none] ++ []) :: []) p := inL.head _ _
  refine VL.loop (fun i : Nat => [(20, .int .i32 n20), (19, a20), (21, .int .i32 i), (0, .pointer (some ⟨p, 0, none⟩)), (2, .bool false), (7, .pointer (some ⟨pb, 0, none⟩)), (8, .int .i16 v), (9, .bool fx), (10, .pointer (some ⟨p, 0, none⟩))]) (fun i w' => i ≤ 2147483647 ∧ ListI w0 G0 p pb 108 [str [], .int .u8 0, .int .u8 0, .int .u8 0, .int .u8 0, .int .u8 0, .int .u8 0, .int .u8 0, .int .u8 0, .int .u8 0, .int .u8 0, .int .u8 0, .int .u8 0, .int .u8 0, .int .u8 0, .int .u8 0, .int .u8 0, .slice none 0 0, .map none] (elR 8 v fx 10 dFetchRequestTopic) (elQ true 8 10 dFetchRequestTopic) s20 n20 (decide (n20 ≤ 0)) ((p, ty, [] ++ [.int .i16 v, .pointer none, .int .i32 n1, .int .i32 (-1), .int .i64 (-1), .map none, .int .i32 n4, .int .i32 n6, .int .i32 n8, .int .i8 n11, .int .i32 n14, .int .i32 n17, .slice none 0 0, .slice none 0 0, str [], .map none] ++ []) :: []) (fun _ => True) a20 i w') (fun i => n20.toNat - i) 0 ⟨rfl, rfl, rfl, rfl, rfl, rfl, rfl, rfl, rfl, trivial⟩ ⟨by decide, H⟩ ?_
  clear H
  rintro i20 w ⟨hi20, H⟩
  ((conv=>whnf);repeat((first|refine mvT ?_|refine mvF ?_|refine yT ?_|refine yF ?_);conv=>whnf))
  refine cI (by rfl) (fun h9=>?_) (fun h9=>?_)
  · have hlt20 : (i20 : Int) < n20 := of_decide_eq_true h9
    obtain ⟨g20, cap20, post20, rfl, hgo20, HI⟩ := H.go hlt20
    obtain ⟨es20, ts20, si20, hes20, hez20, hrn20, hts20, hlen1, H⟩ := HI.open hgo20.2.2.2.2
    obtain ⟨L20, hL20⟩ : ∃ L : List Ob, L = ((p, ty, [] ++ [.int .i16 v, .pointer none, .int .i32 n1, .int .i32 (-1), .int .i64 (-1), .map none, .int .i32 n4, .int .i32 n6, .int .i32 n8, .int .i8 n11, .int .i32 n14, .int .i32 n17, .slice none 0 0, .slice none 0 0, str [], .map none] ++ []) :: []) := ⟨_, rfl⟩
    rw [← hL20] at H hpL20
    obtain ⟨P20, hP20⟩ : ∃ P : World → Prop, P = fun w => (∀ (j : Nat) (c : List Value) (y : T), es20[j]? = some c → ts20[j]? = some y → elQ true 8 10 dFetchRequestTopic ⟨w, FG w0 G0⟩ c y) ∧ (fun _ => True) w := ⟨_, rfl⟩
    rw [← hP20] at H
    replace H : St w0 G0 p pb si20 ((g20, 108, es20.flatten ++ [str [], .int .u8 0, .int .u8 0, .int .u8 0, .int .u8 0, .int .u8 0, .int .u8 0, .int .u8 0, .int .u8 0, .int .u8 0, .int .u8 0, .int .u8 0, .int .u8 0, .int .u8 0, .int .u8 0, .int .u8 0, .int .u8 0, .slice none 0 0, .map none] ++ ((List.replicate (n20.toNat - (i20 + 1)) [str [], .int .u8 0, .int .u8 0, .int .u8 0, .int .u8 0, .int .u8 0, .int .u8 0, .int .u8 0, .int .u8 0, .int .u8 0, .int .u8 0, .int .u8 0, .int .u8 0, .int .u8 0, .int .u8 0, .int .u8 0, .int .u8 0, .slice none 0 0, .map none]).flatten ++ post20)) :: L20) P20 w := H
    ((conv=>whnf);repeat((first|refine mvT ?_|refine mvF ?_|refine yT ?_|refine yF ?_);conv=>whnf))
    refine ⟨g20, 0, rfl, ⟨by omega, by omega⟩, ?_⟩
    ((conv=>whnf);repeat((first|refine mvT ?_|refine mvF ?_|refine yT ?_|refine yF ?_);conv=>whnf))
    refine Does.mono (dfFetchRequestTopic (pre := es20.flatten) (cur := [str [], .int .u8 0, .int .u8 0, .int .u8 0, .int .u8 0, .int .u8 0, .int .u8 0, .int .u8 0, .int .u8 0, .int .u8 0, .int .u8 0, .int .u8 0, .int .u8 0, .int .u8 0, .int .u8 0, .int .u8 0, .int .u8 0, .slice none 0 0, .map none]) (post := ((List.replicate (n20.toNat - (i20 + 1)) [str [], .int .u8 0, .int .u8 0, .int .u8 0, .int .u8 0, .int .u8 0, .int .u8 0, .int .u8 0, .int .u8 0, .int .u8 0, .int .u8 0, .int .u8 0, .int .u8 0, .int .u8 0, .int .u8 0, .int .u8 0, .int .u8 0, .slice none 0 0, .map none]).flatten ++ post20)) H.head (by first | (rw [hlen1]; simp; done) | (simp [hlen1]; done) | (simp [hlen1]; omega)) rfl) ?_
    rintro rd w2 ⟨hdf, hxd⟩
    replace H := H.put hdf hxd
    clear hdf hxd
    replace H : St w0 G0 p pb si20 ((g20, 108, es20.flatten ++ [str [], .int .u8 0, .int .u8 0, .int .u8 0, .int .u8 0, .int .u8 0, .int .u8 0, .int .u8 0, .int .u8 0, .int .u8 0, .int .u8 0, .int .u8 0, .int .u8 0, .int .u8 0, .int .u8 0, .int .u8 0, .int .u8 0, .slice none 0 0, .map none] ++ ((List.replicate (n20.toNat - (i20 + 1)) [str [], .int .u8 0, .int .u8 0, .int .u8 0, .int .u8 0, .int .u8 0, .int .u8 0, .int .u8 0, .int .u8 0, .int .u8 0, .int .u8 0, .int .u8 0, .int .u8 0, .int .u8 0, .int .u8 0, .int .u8 0, .int .u8 0, .slice none 0 0, .map none]).flatten ++ post20)) :: L20) P20 w2 := H
    ((conv=>whnf);repeat((first|refine mvT ?_|refine mvF ?_|refine yT ?_|refine yF ?_);conv=>whnf))
    have hup20 : tailBad 8 v fx dFetchRequestTopic dFetchRequestTopic si20 = true → (rdPart 9 v fx dFetchRequest (l, false)).2.2 = true := by
      intro hb
      refine hup0 ?_
      rw [tail_tag (f := (.mk 8 0 (-1) 0 0 0 0 [])) (by decide), tail_ver hr1 (by decide), tail_tag (f := (.mk 10 0 (-1) (-1) 1 0 0 dFetchRequestReplicaState)) (by decide), tail_yes (rdField3.trans hr4) ⟨by decide, has_all hv⟩, tail_yes (rdField3.trans hr6) ⟨by decide, has_all hv⟩, tail_ver hr8 (by decide), tail_ver hr11 (by decide), tail_ver hr14 (by decide), tail_ver hr17 (by decide), tail_el ⟨by decide, has_all hv⟩ hln20 hgo20.2.2.2.2 hrn20 ((tailBad_part _ _ _ _ _).symm.trans hb)]
    intro cq hcq
    obtain rfl : cq = true := by rw [← hcq]; exact decide_eq_true hv
    ((conv=>whnf);repeat((first|refine mvT ?_|refine mvF ?_|refine yT ?_|refine yF ?_);conv=>whnf))
    refine VC.cutE (fun q : List UInt8 × Rd => [(0, .pointer (some ⟨p, 0, none⟩)), (2, .bool false), (7, .pointer (some ⟨pb, 0, none⟩)), (8, .int .i16 v), (9, .bool fx), (10, .pointer (some ⟨p, 0, none⟩)), (20, .int .i32 n20), (19, .slice (some ⟨g20, 0, none⟩) n20.toNat cap20), (21, .int .i32 i20), (22, .pointer (some ⟨g20, 0 + (i20 : Int).toNat * 19, none⟩)), (23, .pointer (some ⟨g20, 0 + (i20 : Int).toNat * 19, none⟩))]) (fun q w' => (if hasF (.mk 8 0 12 (-1) (-1) 0 0 []) v = true then rdField 8 v fx (.mk 8 0 12 (-1) (-1) 0 0 []) si20 else (dfT 8 (.mk 8 0 12 (-1) (-1) 0 0 []), si20)) = (.mk 0 q.1 false [] [], q.2) ∧ St w0 G0 p pb q.2 ((g20, 108, es20.flatten ++ [str q.1, .int .u8 0, .int .u8 0, .int .u8 0, .int .u8 0, .int .u8 0, .int .u8 0, .int .u8 0, .int .u8 0, .int .u8 0, .int .u8 0, .int .u8 0, .int .u8 0, .int .u8 0, .int .u8 0, .int .u8 0, .int .u8 0, .slice none 0 0, .map none] ++ ((List.replicate (n20.toNat - (i20 + 1)) [str [], .int .u8 0, .int .u8 0, .int .u8 0, .int .u8 0, .int .u8 0, .int .u8 0, .int .u8 0, .int .u8 0, .int .u8 0, .int .u8 0, .int .u8 0, .int .u8 0, .int .u8 0, .int .u8 0, .int .u8 0, .int .u8 0, .slice none 0 0, .map none]).flatten ++ post20)) :: L20) P20 w') ?_ ?_
    · refine cI (by rfl) (fun hcv=>?_) (fun hcv=>?_)
      · ((conv=>whnf);repeat((first|refine mvT ?_|refine mvF ?_|refine yT ?_|refine yF ?_);conv=>whnf))
        (refine mvB ?_;((conv=>whnf);repeat((first|refine mvT ?_|refine mvF ?_|refine yT ?_|refine yF ?_);conv=>whnf)))
        refine VC.cutE (fun q : List UInt8 × Rd => [(24, str q.1), (0, .pointer (some ⟨p, 0, none⟩)), (2, .bool false), (7, .pointer (some ⟨pb, 0, none⟩)), (8, .int .i16 v), (9, .bool fx), (10, .pointer (some ⟨p, 0, none⟩)), (20, .int .i32 n20), (19, .slice (some ⟨g20, 0, none⟩) n20.toNat cap20), (21, .int .i32 i20), (22, .pointer (some ⟨g20, 0 + (i20 : Int).toNat * 19, none⟩)), (23, .pointer (some ⟨g20, 0 + (i20 : Int).toNat * 19, none⟩))]) (fun q w' => rdTx fx si20 = q ∧ St w0 G0 p pb q.2 ((g20, 108, es20.flatten ++ [str [], .int .u8 0, .int .u8 0, .int .u8 0, .int .u8 0, .int .u8 0, .int .u8 0, .int .u8 0, .int .u8 0, .int .u8 0, .int .u8 0, .int .u8 0, .int .u8 0, .int .u8 0, .int .u8 0, .int .u8 0, .int .u8 0, .slice none 0 0, .map none] ++ ((List.replicate (n20.toNat - (i20 + 1)) [str [], .int .u8 0, .int .u8 0, .int .u8 0, .int .u8 0, .int .u8 0, .int .u8 0, .int .u8 0, .int .u8 0, .int .u8 0, .int .u8 0, .int .u8 0, .int .u8 0, .int .u8 0, .int .u8 0, .int .u8 0, .int .u8 0, .slice none 0 0, .map none]).flatten ++ post20)) :: L20) P20 w') ?_ ?_
        · refine cI (by rfl) (fun hc=>?_) (fun hc=>?_)
          · ((conv=>whnf);repeat((first|refine mvT ?_|refine mvF ?_|refine yT ?_|refine yF ?_);conv=>whnf))
            refine Does.mono H.txc ?_
            rintro r w ⟨u, s', rfl, hr, H⟩
            ((conv=>whnf);repeat((first|refine mvT ?_|refine mvF ?_|refine yT ?_|refine yF ?_);conv=>whnf))
            exact ⟨(u, s'), ⟨rfl, rfl, rfl, rfl, rfl, rfl, rfl, rfl, rfl, rfl, rfl, rfl, trivial⟩, by rw [hc]; exact hr, H⟩
          · ((conv=>whnf);repeat((first|refine mvT ?_|refine mvF ?_|refine yT ?_|refine yF ?_);conv=>whnf))
            refine Does.mono H.txp ?_
            rintro r w ⟨u, s', rfl, hr, H⟩
            ((conv=>whnf);repeat((first|refine mvT ?_|refine mvF ?_|refine yT ?_|refine yF ?_);conv=>whnf))
            exact ⟨(u, s'), ⟨rfl, rfl, rfl, rfl, rfl, rfl, rfl, rfl, rfl, rfl, rfl, rfl, trivial⟩, by rw [hc]; exact hr, H⟩
        clear H
        rintro ⟨u22, s22⟩ w ⟨hr22, H⟩
        dsimp only at hr22 H
        ((conv=>whnf);repeat((first|refine mvT ?_|refine mvF ?_|refine yT ?_|refine yF ?_);conv=>whnf))
        refine H.st1 (v := str u22) 0 (rfl) (rfl) rfl (by first | omega | (simp [hlen1]; done) | (simp [hlen1]; omega)) rfl (Nat.lt_of_lt_of_le (Nat.lt_succ_self _) (Nat.le_of_ble_eq_true rfl)) ?_
        intro w H
        ((conv=>whnf);repeat((first|refine mvT ?_|refine mvF ?_|refine yT ?_|refine yF ?_);conv=>whnf))
        replace H : St w0 G0 p pb s22 ((g20, 108, es20.flatten ++ [str u22, .int .u8 0, .int .u8 0, .int .u8 0, .int .u8 0, .int .u8 0, .int .u8 0, .int .u8 0, .int .u8 0, .int .u8 0, .int .u8 0, .int .u8 0, .int .u8 0, .int .u8 0, .int .u8 0, .int .u8 0, .int .u8 0, .slice none 0 0, .map none] ++ ((List.replicate (n20.toNat - (i20 + 1)) [str [], .int .u8 0, .int .u8 0, .int .u8 0, .int .u8 0, .int .u8 0, .int .u8 0, .int .u8 0, .int .u8 0, .int .u8 0, .int .u8 0, .int .u8 0, .int .u8 0, .int .u8 0, .int .u8 0, .int .u8 0, .int .u8 0, .slice none 0 0, .map none]).flatten ++ post20)) :: L20) P20 w := H
        have hh : hasF (.mk 8 0 12 (-1) (-1) 0 0 []) v = true := by have := of_decide_eq_true hcv; rw [hasF_iff]; omega
        exact ⟨(u22, s22), ⟨rfl, rfl, rfl, rfl, rfl, rfl, rfl, rfl, rfl, rfl, rfl, trivial⟩, by rw [if_pos hh]; exact (rdField8 (by decide) hr22), H⟩
      · ((conv=>whnf);repeat((first|refine mvT ?_|refine mvF ?_|refine yT ?_|refine yF ?_);conv=>whnf))
        have hh : ¬ hasF (.mk 8 0 12 (-1) (-1) 0 0 []) v = true := by have := of_decide_eq_false hcv; rw [hasF_iff]; omega
        exact ⟨([], si20), ⟨rfl, rfl, rfl, rfl, rfl, rfl, rfl, rfl, rfl, rfl, rfl, trivial⟩, by rw [if_neg hh]; rfl, H⟩
    clear H
    rintro ⟨u21, s21⟩ w ⟨hr21, H⟩
    dsimp only at hr21 H
    ((conv=>whnf);repeat((first|refine mvT ?_|refine mvF ?_|refine yT ?_|refine yF ?_);conv=>whnf))
    replace H : St w0 G0 p pb s21 ((g20, 108, es20.flatten ++ [str u21, .int .u8 0, .int .u8 0, .int .u8 0, .int .u8 0, .int .u8 0, .int .u8 0, .int .u8 0, .int .u8 0, .int .u8 0, .int .u8 0, .int .u8 0, .int .u8 0, .int .u8 0, .int .u8 0, .int .u8 0, .int .u8 0, .slice none 0 0, .map none] ++ ((List.replicate (n20.toNat - (i20 + 1)) [str [], .int .u8 0, .int .u8 0, .int .u8 0, .int .u8 0, .int .u8 0, .int .u8 0, .int .u8 0, .int .u8 0, .int .u8 0, .int .u8 0, .int .u8 0, .int .u8 0, .int .u8 0, .int .u8 0, .int .u8 0, .int .u8 0, .slice none 0 0, .map none]).flatten ++ post20)) :: L20) P20 w := H
    refine VC.cutE (fun q : List UInt8 × Rd => [(0, .pointer (some ⟨p, 0, none⟩)), (2, .bool false), (7, .pointer (some ⟨pb, 0, none⟩)), (8, .int .i16 v), (9, .bool fx), (10, .pointer (some ⟨p, 0, none⟩)), (20, .int .i32 n20), (19, .slice (some ⟨g20, 0, none⟩) n20.toNat cap20), (21, .int .i32 i20), (22, .pointer (some ⟨g20, 0 + (i20 : Int).toNat * 19, none⟩)), (23, .pointer (some ⟨g20, 0 + (i20 : Int).toNat * 19, none⟩))]) (fun q w' => q.1.length = 16 ∧ (if hasF (.mk 7 13 (-1) (-1) (-1) 0 0 []) v = true then rdField 8 v fx (.mk 7 13 (-1) (-1) (-1) 0 0 []) s21 else (dfT 8 (.mk 7 13 (-1) (-1) (-1) 0 0 []), s21)) = (.mk 0 q.1 false [] [], q.2) ∧ St w0 G0 p pb q.2 ((g20, 108, es20.flatten ++ ([str u21] ++ (q.1.map bcell ++ [.slice none 0 0, .map none])) ++ ((List.replicate (n20.toNat - (i20 + 1)) [str [], .int .u8 0, .int .u8 0, .int .u8 0, .int .u8 0, .int .u8 0, .int .u8 0, .int .u8 0, .int .u8 0, .int .u8 0, .int .u8 0, .int .u8 0, .int .u8 0, .int .u8 0, .int .u8 0, .int .u8 0, .int .u8 0, .slice none 0 0, .map none]).flatten ++ post20)) :: L20) P20 w') ?_ ?_
    · refine cI (by rfl) (fun hcv=>?_) (fun hcv=>?_)
      · ((conv=>whnf);repeat((first|refine mvT ?_|refine mvF ?_|refine yT ?_|refine yF ?_);conv=>whnf))
        refine Does.mono H.uuid ?_
        rintro r w ⟨u25, s25, rfl, hu25, hr25, H⟩
        ((conv=>whnf);repeat((first|refine mvT ?_|refine mvF ?_|refine yT ?_|refine yF ?_);conv=>whnf))
        obtain ⟨u25_0, u25_1, u25_2, u25_3, u25_4, u25_5, u25_6, u25_7, u25_8, u25_9, u25_10, u25_11, u25_12, u25_13, u25_14, u25_15, rfl⟩ : ∃ u25_0 u25_1 u25_2 u25_3 u25_4 u25_5 u25_6 u25_7 u25_8 u25_9 u25_10 u25_11 u25_12 u25_13 u25_14 u25_15, u25 = [u25_0, u25_1, u25_2, u25_3, u25_4, u25_5, u25_6, u25_7, u25_8, u25_9, u25_10, u25_11, u25_12, u25_13, u25_14, u25_15] := by
          match u25, hu25 with
          | [u25_0, u25_1, u25_2, u25_3, u25_4, u25_5, u25_6, u25_7, u25_8, u25_9, u25_10, u25_11, u25_12, u25_13, u25_14, u25_15], _ => exact ⟨u25_0, u25_1, u25_2, u25_3, u25_4, u25_5, u25_6, u25_7, u25_8, u25_9, u25_10, u25_11, u25_12, u25_13, u25_14, u25_15, rfl⟩
        intro bu wu hbu hou hxu
        ((conv=>whnf);repeat((first|refine mvT ?_|refine mvF ?_|refine yT ?_|refine yF ?_);conv=>whnf))
        refine st_all [bcell u25_0, bcell u25_1, bcell u25_2, bcell u25_3, bcell u25_4, bcell u25_5, bcell u25_6, bcell u25_7, bcell u25_8, bcell u25_9, bcell u25_10, bcell u25_11, bcell u25_12, bcell u25_13, bcell u25_14, bcell u25_15] hou rfl rfl rfl ?_
        intro w2 hou hxs
        ((conv=>whnf);repeat((first|refine mvT ?_|refine mvF ?_|refine yT ?_|refine yF ?_);conv=>whnf))
        replace H := H.e0 (hxu.trans hxs (M := nob) fun k hk e => by omega)
        refine ⟨_, rfl, hou.cells, ?_⟩
        ((conv=>whnf);repeat((first|refine mvT ?_|refine mvF ?_|refine yT ?_|refine yF ?_);conv=>whnf))
        refine H.stn [bcell u25_0, bcell u25_1, bcell u25_2, bcell u25_3, bcell u25_4, bcell u25_5, bcell u25_6, bcell u25_7, bcell u25_8, bcell u25_9, bcell u25_10, bcell u25_11, bcell u25_12, bcell u25_13, bcell u25_14, bcell u25_15] 1 rfl rfl rfl (by first | omega | (simp [hlen1]; done) | (simp [hlen1]; omega)) rfl (Nat.le_of_ble_eq_true rfl) ?_
        intro w H
        ((conv=>whnf);repeat((first|refine mvT ?_|refine mvF ?_|refine yT ?_|refine yF ?_);conv=>whnf))
        replace H : St w0 G0 p pb s25 ((g20, 108, es20.flatten ++ [str u21, bcell u25_0, bcell u25_1, bcell u25_2, bcell u25_3, bcell u25_4, bcell u25_5, bcell u25_6, bcell u25_7, bcell u25_8, bcell u25_9, bcell u25_10, bcell u25_11, bcell u25_12, bcell u25_13, bcell u25_14, bcell u25_15, .slice none 0 0, .map none] ++ ((List.replicate (n20.toNat - (i20 + 1)) [str [], .int .u8 0, .int .u8 0, .int .u8 0, .int .u8 0, .int .u8 0, .int .u8 0, .int .u8 0, .int .u8 0, .int .u8 0, .int .u8 0, .int .u8 0, .int .u8 0, .int .u8 0, .int .u8 0, .int .u8 0, .int .u8 0, .slice none 0 0, .map none]).flatten ++ post20)) :: L20) P20 w := H
        have hh : hasF (.mk 7 13 (-1) (-1) (-1) 0 0 []) v = true := by have := of_decide_eq_true hcv; rw [hasF_iff]; omega
        exact ⟨([u25_0, u25_1, u25_2, u25_3, u25_4, u25_5, u25_6, u25_7, u25_8, u25_9, u25_10, u25_11, u25_12, u25_13, u25_14, u25_15], s25), ⟨rfl, rfl, rfl, rfl, rfl, rfl, rfl, rfl, rfl, rfl, rfl, trivial⟩, rfl, by rw [if_pos hh]; exact (rdField7.trans hr25), H⟩
      · ((conv=>whnf);repeat((first|refine mvT ?_|refine mvF ?_|refine yT ?_|refine yF ?_);conv=>whnf))
        have hh : ¬ hasF (.mk 7 13 (-1) (-1) (-1) 0 0 []) v = true := by have := of_decide_eq_false hcv; rw [hasF_iff]; omega
        exact ⟨(List.replicate 16 0, s21), ⟨rfl, rfl, rfl, rfl, rfl, rfl, rfl, rfl, rfl, rfl, rfl, trivial⟩, rfl, by rw [if_neg hh]; rfl, H⟩
    clear H
    rintro ⟨u24, s24⟩ w ⟨hu24, hr24, H⟩
    dsimp only at hu24 hr24 H
    obtain ⟨u24_0, u24_1, u24_2, u24_3, u24_4, u24_5, u24_6, u24_7, u24_8, u24_9, u24_10, u24_11, u24_12, u24_13, u24_14, u24_15, rfl⟩ : ∃ u24_0 u24_1 u24_2 u24_3 u24_4 u24_5 u24_6 u24_7 u24_8 u24_9 u24_10 u24_11 u24_12 u24_13 u24_14 u24_15, u24 = [u24_0, u24_1, u24_2, u24_3, u24_4, u24_5, u24_6, u24_7, u24_8, u24_9, u24_10, u24_11, u24_12, u24_13, u24_14, u24_15] := by
      match u24, hu24 with
      | [u24_0, u24_1, u24_2, u24_3, u24_4, u24_5, u24_6, u24_7, u24_8, u24_9, u24_10, u24_11, u24_12, u24_13, u24_14, u24_15], _ => exact ⟨u24_0, u24_1, u24_2, u24_3, u24_4, u24_5, u24_6, u24_7, u24_8, u24_9, u24_10, u24_11, u24_12, u24_13, u24_14, u24_15, rfl⟩
    ((conv=>whnf);repeat((first|refine mvT ?_|refine mvF ?_|refine yT ?_|refine yF ?_);conv=>whnf))
    replace H : St w0 G0 p pb s24 ((g20, 108, es20.flatten ++ [str u21, bcell u24_0, bcell u24_1, bcell u24_2, bcell u24_3, bcell u24_4, bcell u24_5, bcell u24_6, bcell u24_7, bcell u24_8, bcell u24_9, bcell u24_10, bcell u24_11, bcell u24_12, bcell u24_13, bcell u24_14, bcell u24_15, .slice none 0 0, .map none] ++ ((List.replicate (n20.toNat - (i20 + 1)) [str [], .int .u8 0, .int .u8 0, .int .u8 0, .int .u8 0, .int .u8 0, .int .u8 0, .int .u8 0, .int .u8 0, .int .u8 0, .int .u8 0, .int .u8 0, .int .u8 0, .int .u8 0, .int .u8 0, .int .u8 0, .int .u8 0, .slice none 0 0, .map none]).flatten ++ post20)) :: L20) P20 w := H
    refine ⟨_, ld (H.cell rfl (k := 17) rfl) (by first | omega | (simp [hlen1]; done) | (simp [hlen1]; omega)), ?_⟩; ((conv=>whnf);repeat((first|refine mvT ?_|refine mvF ?_|refine yT ?_|refine yF ?_);conv=>whnf))
    (refine mvB ?_;((conv=>whnf);repeat((first|refine mvT ?_|refine mvF ?_|refine yT ?_|refine yF ?_);conv=>whnf)))
    refine VC.cutE (fun q : Int × Rd => [(28, .int .i32 q.1), (27, .slice none 0 0), (0, .pointer (some ⟨p, 0, none⟩)), (2, .bool false), (7, .pointer (some ⟨pb, 0, none⟩)), (8, .int .i16 v), (9, .bool fx), (10, .pointer (some ⟨p, 0, none⟩)), (20, .int .i32 n20), (19, .slice (some ⟨g20, 0, none⟩) n20.toNat cap20), (21, .int .i32 i20), (22, .pointer (some ⟨g20, 0 + (i20 : Int).toNat * 19, none⟩)), (23, .pointer (some ⟨g20, 0 + (i20 : Int).toNat * 19, none⟩))]) (fun q w' => (-2147483648 ≤ q.1 ∧ q.1 ≤ 2147483647) ∧ rdLn fx s24 = q ∧ St w0 G0 p pb q.2 ((g20, 108, es20.flatten ++ [str u21, bcell u24_0, bcell u24_1, bcell u24_2, bcell u24_3, bcell u24_4, bcell u24_5, bcell u24_6, bcell u24_7, bcell u24_8, bcell u24_9, bcell u24_10, bcell u24_11, bcell u24_12, bcell u24_13, bcell u24_14, bcell u24_15, .slice none 0 0, .map none] ++ ((List.replicate (n20.toNat - (i20 + 1)) [str [], .int .u8 0, .int .u8 0, .int .u8 0, .int .u8 0, .int .u8 0, .int .u8 0, .int .u8 0, .int .u8 0, .int .u8 0, .int .u8 0, .int .u8 0, .int .u8 0, .int .u8 0, .int .u8 0, .int .u8 0, .int .u8 0, .slice none 0 0, .map none]).flatten ++ post20)) :: L20) P20 w') ?_ ?_
    · refine cI (by rfl) (fun hc=>?_) (fun hc=>?_)
      · ((conv=>whnf);repeat((first|refine mvT ?_|refine mvF ?_|refine yT ?_|refine yF ?_);conv=>whnf))
        refine Does.mono H.lnc ?_
        rintro r w ⟨n, s', rfl, hn, hr, H⟩
        ((conv=>whnf);repeat((first|refine mvT ?_|refine mvF ?_|refine yT ?_|refine yF ?_);conv=>whnf))
        exact ⟨(n, s'), ⟨rfl, rfl, rfl, rfl, rfl, rfl, rfl, rfl, rfl, rfl, rfl, rfl, rfl, trivial⟩, hn, by rw [hc]; exact hr, H⟩
      · ((conv=>whnf);repeat((first|refine mvT ?_|refine mvF ?_|refine yT ?_|refine yF ?_);conv=>whnf))
        refine Does.mono H.lnp ?_
        rintro r w ⟨n, s', rfl, hn, hr, H⟩
        ((conv=>whnf);repeat((first|refine mvT ?_|refine mvF ?_|refine yT ?_|refine yF ?_);conv=>whnf))
        exact ⟨(n, s'), ⟨rfl, rfl, rfl, rfl, rfl, rfl, rfl, rfl, rfl, rfl, rfl, rfl, rfl, trivial⟩, hn, by rw [hc]; exact hr, H⟩
    clear H
    rintro ⟨n28, s28⟩ w ⟨hn28, hln28, H⟩
    dsimp only at hn28 hln28 H
    ((conv=>whnf);repeat((first|refine mvT ?_|refine mvF ?_|refine yT ?_|refine yF ?_);conv=>whnf))
    refine Does.mono H.ok ?_
    rintro r w ⟨rfl, H⟩
    ((conv=>whnf);repeat((first|refine mvT ?_|refine mvF ?_|refine yT ?_|refine yF ?_);conv=>whnf))
    refine cI (by rfl) (fun hbd=>?_) (fun hbd=>?_)
    · have hbd : s28.2 = true := by simpa using hbd
      ((conv=>whnf);repeat((first|refine mvT ?_|refine mvF ?_|refine yT ?_|refine yF ?_);conv=>whnf))
      refine Does.mono (H.done hL hp1) ?_
      rintro r w ⟨rfl, H⟩
      ((conv=>whnf);repeat((first|refine mvT ?_|refine mvF ?_|refine yT ?_|refine yF ?_);conv=>whnf))
      refine RdPost.early hbd (hup20 (?_)) H
      rw [tail_ver hr21 (by decide), tail_ver hr24 (by decide), tail_len ⟨by decide, has_all hv⟩ hln28 hbd]
    have hbd : s28.2 = false := by simpa using hbd
    clear hbd
    ((conv=>whnf);repeat((first|refine mvT ?_|refine mvF ?_|refine yT ?_|refine yF ?_);conv=>whnf))
    refine cut_zero ?_
    ((conv=>whnf);repeat((first|refine mvT ?_|refine mvF ?_|refine yT ?_|refine yF ?_);conv=>whnf))
    refine VC.cutE (fun a : Value => [(28, .int .i32 n28), (27, a), (0, .pointer (some ⟨p, 0, none⟩)), (2, .bool false), (7, .pointer (some ⟨pb, 0, none⟩)), (8, .int .i16 v), (9, .bool fx), (10, .pointer (some ⟨p, 0, none⟩)), (20, .int .i32 n20), (19, .slice (some ⟨g20, 0, none⟩) n20.toNat cap20), (21, .int .i32 i20), (22, .pointer (some ⟨g20, 0 + (i20 : Int).toNat * 19, none⟩)), (23, .pointer (some ⟨g20, 0 + (i20 : Int).toNat * 19, none⟩))]) (fun a w' => ListI w0 G0 p pb 113 [.int .i32 0, .int .i32 0, .int .i64 0, .int .i32 0, .int .i64 0, .int .i32 0, .int .u8 0, .int .u8 0, .int .u8 0, .int .u8 0, .int .u8 0, .int .u8 0, .int .u8 0, .int .u8 0, .int .u8 0, .int .u8 0, .int .u8 0, .int .u8 0, .int .u8 0, .int .u8 0, .int .u8 0, .int .u8 0, .int .i64 0, .map none] (elR 7 v fx 10 dFetchRequestTopicPartition) (elQ true 7 10 dFetchRequestTopicPartition) s28 n28 (decide (n28 ≤ 0)) ((g20, 108, es20.flatten ++ [str u21, bcell u24_0, bcell u24_1, bcell u24_2, bcell u24_3, bcell u24_4, bcell u24_5, bcell u24_6, bcell u24_7, bcell u24_8, bcell u24_9, bcell u24_10, bcell u24_11, bcell u24_12, bcell u24_13, bcell u24_14, bcell u24_15, .slice none 0 0, .map none] ++ ((List.replicate (n20.toNat - (i20 + 1)) [str [], .int .u8 0, .int .u8 0, .int .u8 0, .int .u8 0, .int .u8 0, .int .u8 0, .int .u8 0, .int .u8 0, .int .u8 0, .int .u8 0, .int .u8 0, .int .u8 0, .int .u8 0, .int .u8 0, .int .u8 0, .int .u8 0, .slice none 0 0, .map none]).flatten ++ post20)) :: L20) P20 a 0 w') ?_ ?_
    · refine cI (by rfl) (fun hps=>?_) (fun hps=>?_)
      · have hps : 0 < n28 := by have := of_decide_eq_true hps; omega
        ((conv=>whnf);repeat((first|refine mvT ?_|refine mvF ?_|refine yT ?_|refine yF ?_);conv=>whnf))
        refine H.grow hps hn28.2 (by decide) rfl rfl (by decide) ?_
        intro g cap post w hc1 hc2 H
        ((conv=>whnf);repeat((first|refine mvT ?_|refine mvF ?_|refine yT ?_|refine yF ?_);conv=>whnf))
        exact ⟨_, ⟨rfl, rfl, rfl, rfl, rfl, rfl, rfl, rfl, rfl, rfl, rfl, rfl, rfl, trivial⟩, ListI.some hps (decide_eq_false (by omega)) hc1 hc2 H⟩
      · have hps : n28 ≤ 0 := by have := of_decide_eq_false hps; omega
        ((conv=>whnf);repeat((first|refine mvT ?_|refine mvF ?_|refine yT ?_|refine yF ?_);conv=>whnf))
        exact ⟨_, ⟨rfl, rfl, rfl, rfl, rfl, rfl, rfl, rfl, rfl, rfl, rfl, rfl, rfl, trivial⟩, ListI.none hps (decide_eq_true hps) H⟩
    clear H
    rintro a28 w H
    ((conv=>whnf);repeat((first|refine mvT ?_|refine mvF ?_|refine yT ?_|refine yF ?_);conv=>whnf))
    have hpL28 : inL ((g20, 108, es20.flatten ++ [str u21, bcell u24_0, bcell u24_1, bcell u24_2, bcell u24_3, bcell u24_4, bcell u24_5, bcell u24_6, bcell u24_7, bcell u24_8, bcell u24_9, bcell u24_10, bcell u24_11, bcell u24_12, bcell u24_13, bcell u24_14, bcell u24_15, .slice none 0 0, .map none] ++ ((List.replicate (n20.toNat - (i20 + 1)) [str [], .int .u8 0, .int .u8 0, .int .u8 0, .int .u8 0, .int .u8 0, .int .u8 0, .int .u8 0, .int .u8 0, .int .u8 0, .int .u8 0, .int .u8 0, .int .u8 0, .int .u8 0, .int .u8 0, .int .u8 0, .int .u8 0, .slice none 0 0, .map none]).flatten ++ post20)) :: L20) p := inL.tail hpL20
    refine VL.loop (fun i : Nat => [(28, .int .i32 n28), (27, a28), (29, .int .i32 i), (0, .pointer (some ⟨p, 0, none⟩)), (2, .bool false), (7, .pointer (some ⟨pb, 0, none⟩)), (8, .int .i16 v), (9, .bool fx), (10, .pointer (some ⟨p, 0, none⟩)), (20, .int .i32 n20), (19, .slice (some ⟨g20, 0, none⟩) n20.toNat cap20), (21, .int .i32 i20), (22, .pointer (some ⟨g20, 0 + (i20 : Int).toNat * 19, none⟩)), (23, .pointer (some ⟨g20, 0 + (i20 : Int).toNat * 19, none⟩))]) (fun i w' => i ≤ 2147483647 ∧ ListI w0 G0 p pb 113 [.int .i32 0, .int .i32 0, .int .i64 0, .int .i32 0, .int .i64 0, .int .i32 0, .int .u8 0, .int .u8 0, .int .u8 0, .int .u8 0, .int .u8 0, .int .u8 0, .int .u8 0, .int .u8 0, .int .u8 0, .int .u8 0, .int .u8 0, .int .u8 0, .int .u8 0, .int .u8 0, .int .u8 0, .int .u8 0, .int .i64 0, .map none] (elR 7 v fx 10 dFetchRequestTopicPartition) (elQ true 7 10 dFetchRequestTopicPartition) s28 n28 (decide (n28 ≤ 0)) ((g20, 108, es20.flatten ++ [str u21, bcell u24_0, bcell u24_1, bcell u24_2, bcell u24_3, bcell u24_4, bcell u24_5, bcell u24_6, bcell u24_7, bcell u24_8, bcell u24_9, bcell u24_10, bcell u24_11, bcell u24_12, bcell u24_13, bcell u24_14, bcell u24_15, .slice none 0 0, .map none] ++ ((List.replicate (n20.toNat - (i20 + 1)) [str [], .int .u8 0, .int .u8 0, .int .u8 0, .int .u8 0, .int .u8 0, .int .u8 0, .int .u8 0, .int .u8 0, .int .u8 0, .int .u8 0, .int .u8 0, .int .u8 0, .int .u8 0, .int .u8 0, .int .u8 0, .int .u8 0, .slice none 0 0, .map none]).flatten ++ post20)) :: L20) P20 a28 i w') (fun i => n28.toNat - i) 0 ⟨rfl, rfl, rfl, rfl, rfl, rfl, rfl, rfl, rfl, rfl, rfl, rfl, rfl, rfl, trivial⟩ ⟨by decide, H⟩ ?_
    clear H
    rintro i28 w ⟨hi28, H⟩
    ((conv=>whnf);repeat((first|refine mvT ?_|refine mvF ?_|refine yT ?_|refine yF ?_);conv=>whnf))
    refine cI (by rfl) (fun h9=>?_) (fun h9=>?_)
    · have hlt28 : (i28 : Int) < n28 := of_decide_eq_true h9
      obtain ⟨g28, cap28, post28, rfl, hgo28, HI⟩ := H.go hlt28
      obtain ⟨es28, ts28, si28, hes28, hez28, hrn28, hts28, hlen2, H⟩ := HI.open hgo28.2.2.2.2
      obtain ⟨L28, hL28⟩ : ∃ L : List Ob, L = ((g20, 108, es20.flatten ++ [str u21, bcell u24_0, bcell u24_1, bcell u24_2, bcell u24_3, bcell u24_4, bcell u24_5, bcell u24_6, bcell u24_7, bcell u24_8, bcell u24_9, bcell u24_10, bcell u24_11, bcell u24_12, bcell u24_13, bcell u24_14, bcell u24_15, .slice none 0 0, .map none] ++ ((List.replicate (n20.toNat - (i20 + 1)) [str [], .int .u8 0, .int .u8 0, .int .u8 0, .int .u8 0, .int .u8 0, .int .u8 0, .int .u8 0, .int .u8 0, .int .u8 0, .int .u8 0, .int .u8 0, .int .u8 0, .int .u8 0, .int .u8 0, .int .u8 0, .int .u8 0, .slice none 0 0, .map none]).flatten ++ post20)) :: L20) := ⟨_, rfl⟩
      rw [← hL28] at H hpL28
      obtain ⟨P28, hP28⟩ : ∃ P : World → Prop, P = fun w => (∀ (j : Nat) (c : List Value) (y : T), es28[j]? = some c → ts28[j]? = some y → elQ true 7 10 dFetchRequestTopicPartition ⟨w, FG w0 G0⟩ c y) ∧ P20 w := ⟨_, rfl⟩
      rw [← hP28] at H
      replace H : St w0 G0 p pb si28 ((g28, 113, es28.flatten ++ [.int .i32 0, .int .i32 0, .int .i64 0, .int .i32 0, .int .i64 0, .int .i32 0, .int .u8 0, .int .u8 0, .int .u8 0, .int .u8 0, .int .u8 0, .int .u8 0, .int .u8 0, .int .u8 0, .int .u8 0, .int .u8 0, .int .u8 0, .int .u8 0, .int .u8 0, .int .u8 0, .int .u8 0, .int .u8 0, .int .i64 0, .map none] ++ ((List.replicate (n28.toNat - (i28 + 1)) [.int .i32 0, .int .i32 0, .int .i64 0, .int .i32 0, .int .i64 0, .int .i32 0, .int .u8 0, .int .u8 0, .int .u8 0, .int .u8 0, .int .u8 0, .int .u8 0, .int .u8 0, .int .u8 0, .int .u8 0, .int .u8 0, .int .u8 0, .int .u8 0, .int .u8 0, .int .u8 0, .int .u8 0, .int .u8 0, .int .i64 0, .map none]).flatten ++ post28)) :: L28) P28 w := H
      ((conv=>whnf);repeat((first|refine mvT ?_|refine mvF ?_|refine yT ?_|refine yF ?_);conv=>whnf))
      refine ⟨g28, 0, rfl, ⟨by omega, by omega⟩, ?_⟩
      ((conv=>whnf);repeat((first|refine mvT ?_|refine mvF ?_|refine yT ?_|refine yF ?_);conv=>whnf))
      refine Does.mono (dfFetchRequestTopicPartition (pre := es28.flatten) (cur := [.int .i32 0, .int .i32 0, .int .i64 0, .int .i32 0, .int .i64 0, .int .i32 0, .int .u8 0, .int .u8 0, .int .u8 0, .int .u8 0, .int .u8 0, .int .u8 0, .int .u8 0, .int .u8 0, .int .u8 0, .int .u8 0, .int .u8 0, .int .u8 0, .int .u8 0, .int .u8 0, .int .u8 0, .int .u8 0, .int .i64 0, .map none]) (post := ((List.replicate (n28.toNat - (i28 + 1)) [.int .i32 0, .int .i32 0, .int .i64 0, .int .i32 0, .int .i64 0, .int .i32 0, .int .u8 0, .int .u8 0, .int .u8 0, .int .u8 0, .int .u8 0, .int .u8 0, .int .u8 0, .int .u8 0, .int .u8 0, .int .u8 0, .int .u8 0, .int .u8 0, .int .u8 0, .int .u8 0, .int .u8 0, .int .u8 0, .int .i64 0, .map none]).flatten ++ post28)) H.head (by first | (rw [hlen2]; simp; done) | (simp [hlen2]; done) | (simp [hlen2]; omega)) rfl) ?_
      rintro rd w2 ⟨hdf, hxd⟩
      replace H := H.put hdf hxd
      clear hdf hxd
      replace H : St w0 G0 p pb si28 ((g28, 113, es28.flatten ++ [.int .i32 0, .int .i32 (-1), .int .i64 0, .int .i32 (-1), .int .i64 (-1), .int .i32 0, .int .u8 0, .int .u8 0, .int .u8 0, .int .u8 0, .int .u8 0, .int .u8 0, .int .u8 0, .int .u8 0, .int .u8 0, .int .u8 0, .int .u8 0, .int .u8 0, .int .u8 0, .int .u8 0, .int .u8 0, .int .u8 0, .int .i64 9223372036854775807, .map none] ++ ((List.replicate (n28.toNat - (i28 + 1)) [.int .i32 0, .int .i32 0, .int .i64 0, .int .i32 0, .int .i64 0, .int .i32 0, .int .u8 0, .int .u8 0, .int .u8 0, .int .u8 0, .int .u8 0, .int .u8 0, .int .u8 0, .int .u8 0, .int .u8 0, .int .u8 0, .int .u8 0, .int .u8 0, .int .u8 0, .int .u8 0, .int .u8 0, .int .u8 0, .int .i64 0, .map none]).flatten ++ post28)) :: L28) P28 w2 := H
      ((conv=>whnf);repeat((first|refine mvT ?_|refine mvF ?_|refine yT ?_|refine yF ?_);conv=>whnf))
      have hup28 : tailBad 7 v fx dFetchRequestTopicPartition dFetchRequestTopicPartition si28 = true → (rdPart 9 v fx dFetchRequest (l, false)).2.2 = true := by
        intro hb
        refine hup20 ?_
        rw [tail_ver hr21 (by decide), tail_ver hr24 (by decide), tail_el ⟨by decide, has_all hv⟩ hln28 hgo28.2.2.2.2 hrn28 ((tailBad_part _ _ _ _ _).symm.trans hb)]
      refine Does.mono H.int32 ?_
      rintro r w ⟨n29, s29, rfl, hn29, hr29, H⟩
      ((conv=>whnf);repeat((first|refine mvT ?_|refine mvF ?_|refine yT ?_|refine yF ?_);conv=>whnf))
      refine H.st1 (v := .int .i32 n29) 0 (rfl) (rfl) rfl (by first | omega | (simp [hlen2]; done) | (simp [hlen2]; omega)) rfl (Nat.lt_of_lt_of_le (Nat.lt_succ_self _) (Nat.le_of_ble_eq_true rfl)) ?_
      intro w H
      ((conv=>whnf);repeat((first|refine mvT ?_|refine mvF ?_|refine yT ?_|refine yF ?_);conv=>whnf))
      replace H : St w0 G0 p pb s29 ((g28, 113, es28.flatten ++ [.int .i32 n29, .int .i32 (-1), .int .i64 0, .int .i32 (-1), .int .i64 (-1), .int .i32 0, .int .u8 0, .int .u8 0, .int .u8 0, .int .u8 0, .int .u8 0, .int .u8 0, .int .u8 0, .int .u8 0, .int .u8 0, .int .u8 0, .int .u8 0, .int .u8 0, .int .u8 0, .int .u8 0, .int .u8 0, .int .u8 0, .int .i64 9223372036854775807, .map none] ++ ((List.replicate (n28.toNat - (i28 + 1)) [.int .i32 0, .int .i32 0, .int .i64 0, .int .i32 0, .int .i64 0, .int .i32 0, .int .u8 0, .int .u8 0, .int .u8 0, .int .u8 0, .int .u8 0, .int .u8 0, .int .u8 0, .int .u8 0, .int .u8 0, .int .u8 0, .int .u8 0, .int .u8 0, .int .u8 0, .int .u8 0, .int .u8 0, .int .u8 0, .int .i64 0, .map none]).flatten ++ post28)) :: L28) P28 w := H
      refine VC.cutE (fun q : Int × Rd => [(0, .pointer (some ⟨p, 0, none⟩)), (2, .bool false), (7, .pointer (some ⟨pb, 0, none⟩)), (8, .int .i16 v), (9, .bool fx), (10, .pointer (some ⟨p, 0, none⟩)), (20, .int .i32 n20), (19, .slice (some ⟨g20, 0, none⟩) n20.toNat cap20), (21, .int .i32 i20), (22, .pointer (some ⟨g20, 0 + (i20 : Int).toNat * 19, none⟩)), (23, .pointer (some ⟨g20, 0 + (i20 : Int).toNat * 19, none⟩)), (28, .int .i32 n28), (27, .slice (some ⟨g28, 0, none⟩) n28.toNat cap28), (29, .int .i32 i28), (30, .pointer (some ⟨g28, 0 + (i28 : Int).toNat * 24, none⟩)), (31, .pointer (some ⟨g28, 0 + (i28 : Int).toNat * 24, none⟩))]) (fun q w' => IntKind.i32.wrap q.1 = q.1 ∧ (if hasF (.mk 3 9 (-1) (-1) (-1) (-1) 0 []) v = true then rdField 7 v fx (.mk 3 9 (-1) (-1) (-1) (-1) 0 []) s29 else (dfT 7 (.mk 3 9 (-1) (-1) (-1) (-1) 0 []), s29)) = (numT q.1, q.2) ∧ St w0 G0 p pb q.2 ((g28, 113, es28.flatten ++ [.int .i32 n29, .int .i32 q.1, .int .i64 0, .int .i32 (-1), .int .i64 (-1), .int .i32 0, .int .u8 0, .int .u8 0, .int .u8 0, .int .u8 0, .int .u8 0, .int .u8 0, .int .u8 0, .int .u8 0, .int .u8 0, .int .u8 0, .int .u8 0, .int .u8 0, .int .u8 0, .int .u8 0, .int .u8 0, .int .u8 0, .int .i64 9223372036854775807, .map none] ++ ((List.replicate (n28.toNat - (i28 + 1)) [.int .i32 0, .int .i32 0, .int .i64 0, .int .i32 0, .int .i64 0, .int .i32 0, .int .u8 0, .int .u8 0, .int .u8 0, .int .u8 0, .int .u8 0, .int .u8 0, .int .u8 0, .int .u8 0, .int .u8 0, .int .u8 0, .int .u8 0, .int .u8 0, .int .u8 0, .int .u8 0, .int .u8 0, .int .u8 0, .int .i64 0, .map none]).flatten ++ post28)) :: L28) P28 w') ?_ ?_
      · refine cI (by rfl) (fun hcv=>?_) (fun hcv=>?_)
        · ((conv=>whnf);repeat((first|refine mvT ?_|refine mvF ?_|refine yT ?_|refine yF ?_);conv=>whnf))
          refine Does.mono H.int32 ?_
          rintro r w ⟨n32, s32, rfl, hn32, hr32, H⟩
          ((conv=>whnf);repeat((first|refine mvT ?_|refine mvF ?_|refine yT ?_|refine yF ?_);conv=>whnf))
          refine H.st1 (v := .int .i32 n32) 1 (rfl) (rfl) rfl (by first | omega | (simp [hlen2]; done) | (simp [hlen2]; omega)) rfl (Nat.lt_of_lt_of_le (Nat.lt_succ_self _) (Nat.le_of_ble_eq_true rfl)) ?_
          intro w H
          ((conv=>whnf);repeat((first|refine mvT ?_|refine mvF ?_|refine yT ?_|refine yF ?_);conv=>whnf))
          replace H : St w0 G0 p pb s32 ((g28, 113, es28.flatten ++ [.int .i32 n29, .int .i32 n32, .int .i64 0, .int .i32 (-1), .int .i64 (-1), .int .i32 0, .int .u8 0, .int .u8 0, .int .u8 0, .int .u8 0, .int .u8 0, .int .u8 0, .int .u8 0, .int .u8 0, .int .u8 0, .int .u8 0, .int .u8 0, .int .u8 0, .int .u8 0, .int .u8 0, .int .u8 0, .int .u8 0, .int .i64 9223372036854775807, .map none] ++ ((List.replicate (n28.toNat - (i28 + 1)) [.int .i32 0, .int .i32 0, .int .i64 0, .int .i32 0, .int .i64 0, .int .i32 0, .int .u8 0, .int .u8 0, .int .u8 0, .int .u8 0, .int .u8 0, .int .u8 0, .int .u8 0, .int .u8 0, .int .u8 0, .int .u8 0, .int .u8 0, .int .u8 0, .int .u8 0, .int .u8 0, .int .u8 0, .int .u8 0, .int .i64 0, .map none]).flatten ++ post28)) :: L28) P28 w := H
          have hh : hasF (.mk 3 9 (-1) (-1) (-1) (-1) 0 []) v = true := by have := of_decide_eq_true hcv; rw [hasF_iff]; omega
          exact ⟨(n32, s32), ⟨rfl, rfl, rfl, rfl, rfl, rfl, rfl, rfl, rfl, rfl, rfl, rfl, rfl, rfl, rfl, rfl, trivial⟩, hn32, by rw [if_pos hh]; exact (rdField3.trans hr32), H⟩
        · ((conv=>whnf);repeat((first|refine mvT ?_|refine mvF ?_|refine yT ?_|refine yF ?_);conv=>whnf))
          have hh : ¬ hasF (.mk 3 9 (-1) (-1) (-1) (-1) 0 []) v = true := by have := of_decide_eq_false hcv; rw [hasF_iff]; omega
          exact ⟨((-1), s29), ⟨rfl, rfl, rfl, rfl, rfl, rfl, rfl, rfl, rfl, rfl, rfl, rfl, rfl, rfl, rfl, rfl, trivial⟩, rfl, by rw [if_neg hh]; rfl, H⟩
      clear H
      rintro ⟨n31, s31⟩ w ⟨hn31, hr31, H⟩
      dsimp only at hn31 hr31 H
      ((conv=>whnf);repeat((first|refine mvT ?_|refine mvF ?_|refine yT ?_|refine yF ?_);conv=>whnf))
      replace H : St w0 G0 p pb s31 ((g28, 113, es28.flatten ++ [.int .i32 n29, .int .i32 n31, .int .i64 0, .int .i32 (-1), .int .i64 (-1), .int .i32 0, .int .u8 0, .int .u8 0, .int .u8 0, .int .u8 0, .int .u8 0, .int .u8 0, .int .u8 0, .int .u8 0, .int .u8 0, .int .u8 0, .int .u8 0, .int .u8 0, .int .u8 0, .int .u8 0, .int .u8 0, .int .u8 0, .int .i64 9223372036854775807, .map none] ++ ((List.replicate (n28.toNat - (i28 + 1)) [.int .i32 0, .int .i32 0, .int .i64 0, .int .i32 0, .int .i64 0, .int .i32 0, .int .u8 0, .int .u8 0, .int .u8 0, .int .u8 0, .int .u8 0, .int .u8 0, .int .u8 0, .int .u8 0, .int .u8 0, .int .u8 0, .int .u8 0, .int .u8 0, .int .u8 0, .int .u8 0, .int .u8 0, .int .u8 0, .int .i64 0, .map none]).flatten ++ post28)) :: L28) P28 w := H
      refine Does.mono H.int64 ?_
      rintro r w ⟨n34, s34, rfl, hn34, hr34, H⟩
      ((conv=>whnf);repeat((first|refine mvT ?_|refine mvF ?_|refine yT ?_|refine yF ?_);conv=>whnf))
      refine H.st1 (v := .int .i64 n34) 2 (rfl) (rfl) rfl (by first | omega | (simp [hlen2]; done) | (simp [hlen2]; omega)) rfl (Nat.lt_of_lt_of_le (Nat.lt_succ_self _) (Nat.le_of_ble_eq_true rfl)) ?_
      intro w H
      ((conv=>whnf);repeat((first|refine mvT ?_|refine mvF ?_|refine yT ?_|refine yF ?_);conv=>whnf))
      replace H : St w0 G0 p pb s34 ((g28, 113, es28.flatten ++ [.int .i32 n29, .int .i32 n31, .int .i64 n34, .int .i32 (-1), .int .i64 (-1), .int .i32 0, .int .u8 0, .int .u8 0, .int .u8 0, .int .u8 0, .int .u8 0, .int .u8 0, .int .u8 0, .int .u8 0, .int .u8 0, .int .u8 0, .int .u8 0, .int .u8 0, .int .u8 0, .int .u8 0, .int .u8 0, .int .u8 0, .int .i64 9223372036854775807, .map none] ++ ((List.replicate (n28.toNat - (i28 + 1)) [.int .i32 0, .int .i32 0, .int .i64 0, .int .i32 0, .int .i64 0, .int .i32 0, .int .u8 0, .int .u8 0, .int .u8 0, .int .u8 0, .int .u8 0, .int .u8 0, .int .u8 0, .int .u8 0, .int .u8 0, .int .u8 0, .int .u8 0, .int .u8 0, .int .u8 0, .int .u8 0, .int .u8 0, .int .u8 0, .int .i64 0, .map none]).flatten ++ post28)) :: L28) P28 w := H
      refine VC.cutE (fun q : Int × Rd => [(0, .pointer (some ⟨p, 0, none⟩)), (2, .bool false), (7, .pointer (some ⟨pb, 0, none⟩)), (8, .int .i16 v), (9, .bool fx), (10, .pointer (some ⟨p, 0, none⟩)), (20, .int .i32 n20), (19, .slice (some ⟨g20, 0, none⟩) n20.toNat cap20), (21, .int .i32 i20), (22, .pointer (some ⟨g20, 0 + (i20 : Int).toNat * 19, none⟩)), (23, .pointer (some ⟨g20, 0 + (i20 : Int).toNat * 19, none⟩)), (28, .int .i32 n28), (27, .slice (some ⟨g28, 0, none⟩) n28.toNat cap28), (29, .int .i32 i28), (30, .pointer (some ⟨g28, 0 + (i28 : Int).toNat * 24, none⟩)), (31, .pointer (some ⟨g28, 0 + (i28 : Int).toNat * 24, none⟩))]) (fun q w' => IntKind.i32.wrap q.1 = q.1 ∧ (if hasF (.mk 3 12 (-1) (-1) (-1) (-1) 0 []) v = true then rdField 7 v fx (.mk 3 12 (-1) (-1) (-1) (-1) 0 []) s34 else (dfT 7 (.mk 3 12 (-1) (-1) (-1) (-1) 0 []), s34)) = (numT q.1, q.2) ∧ St w0 G0 p pb q.2 ((g28, 113, es28.flatten ++ [.int .i32 n29, .int .i32 n31, .int .i64 n34, .int .i32 q.1, .int .i64 (-1), .int .i32 0, .int .u8 0, .int .u8 0, .int .u8 0, .int .u8 0, .int .u8 0, .int .u8 0, .int .u8 0, .int .u8 0, .int .u8 0, .int .u8 0, .int .u8 0, .int .u8 0, .int .u8 0, .int .u8 0, .int .u8 0, .int .u8 0, .int .i64 9223372036854775807, .map none] ++ ((List.replicate (n28.toNat - (i28 + 1)) [.int .i32 0, .int .i32 0, .int .i64 0, .int .i32 0, .int .i64 0, .int .i32 0, .int .u8 0, .int .u8 0, .int .u8 0, .int .u8 0, .int .u8 0, .int .u8 0, .int .u8 0, .int .u8 0, .int .u8 0, .int .u8 0, .int .u8 0, .int .u8 0, .int .u8 0, .int .u8 0, .int .u8 0, .int .u8 0, .int .i64 0, .map none]).flatten ++ post28)) :: L28) P28 w') ?_ ?_
      · refine cI (by rfl) (fun hcv=>?_) (fun hcv=>?_)
        · ((conv=>whnf);repeat((first|refine mvT ?_|refine mvF ?_|refine yT ?_|refine yF ?_);conv=>whnf))
          refine Does.mono H.int32 ?_
          rintro r w ⟨n37, s37, rfl, hn37, hr37, H⟩
          ((conv=>whnf);repeat((first|refine mvT ?_|refine mvF ?_|refine yT ?_|refine yF ?_);conv=>whnf))
          refine H.st1 (v := .int .i32 n37) 3 (rfl) (rfl) rfl (by first | omega | (simp [hlen2]; done) | (simp [hlen2]; omega)) rfl (Nat.lt_of_lt_of_le (Nat.lt_succ_self _) (Nat.le_of_ble_eq_true rfl)) ?_
          intro w H
          ((conv=>whnf);repeat((first|refine mvT ?_|refine mvF ?_|refine yT ?_|refine yF ?_);conv=>whnf))
          replace H : St w0 G0 p pb s37 ((g28, 113, es28.flatten ++ [.int .i32 n29, .int .i32 n31, .int .i64 n34, .int .i32 n37, .int .i64 (-1), .int .i32 0, .int .u8 0, .int .u8 0, .int .u8 0, .int .u8 0, .int .u8 0, .int .u8 0, .int .u8 0, .int .u8 0, .int .u8 0, .int .u8 0, .int .u8 0, .int .u8 0, .int .u8 0, .int .u8 0, .int .u8 0, .int .u8 0, .int .i64 9223372036854775807, .map none] ++ ((List.replicate (n28.toNat - (i28 + 1)) [.int .i32 0, .int .i32 0, .int .i64 0, .int .i32 0, .int .i64 0, .int .i32 0, .int .u8 0, .int .u8 0, .int .u8 0, .int .u8 0, .int .u8 0, .int .u8 0, .int .u8 0, .int .u8 0, .int .u8 0, .int .u8 0, .int .u8 0, .int .u8 0, .int .u8 0, .int .u8 0, .int .u8 0, .int .u8 0, .int .i64 0, .map none]).flatten ++ post28)) :: L28) P28 w := H
          have hh : hasF (.mk 3 12 (-1) (-1) (-1) (-1) 0 []) v = true := by have := of_decide_eq_true hcv; rw [hasF_iff]; omega
          exact ⟨(n37, s37), ⟨rfl, rfl, rfl, rfl, rfl, rfl, rfl, rfl, rfl, rfl, rfl, rfl, rfl, rfl, rfl, rfl, trivial⟩, hn37, by rw [if_pos hh]; exact (rdField3.trans hr37), H⟩
        · ((conv=>whnf);repeat((first|refine mvT ?_|refine mvF ?_|refine yT ?_|refine yF ?_);conv=>whnf))
          have hh : ¬ hasF (.mk 3 12 (-1) (-1) (-1) (-1) 0 []) v = true := by have := of_decide_eq_false hcv; rw [hasF_iff]; omega
          exact ⟨((-1), s34), ⟨rfl, rfl, rfl, rfl, rfl, rfl, rfl, rfl, rfl, rfl, rfl, rfl, rfl, rfl, rfl, rfl, trivial⟩, rfl, by rw [if_neg hh]; rfl, H⟩
      clear H
      rintro ⟨n36, s36⟩ w ⟨hn36, hr36, H⟩
      dsimp only at hn36 hr36 H
      ((conv=>whnf);repeat((first|refine mvT ?_|refine mvF ?_|refine yT ?_|refine yF ?_);conv=>whnf))
      replace H : St w0 G0 p pb s36 ((g28, 113, es28.flatten ++ [.int .i32 n29, .int .i32 n31, .int .i64 n34, .int .i32 n36, .int .i64 (-1), .int .i32 0, .int .u8 0, .int .u8 0, .int .u8 0, .int .u8 0, .int .u8 0, .int .u8 0, .int .u8 0, .int .u8 0, .int .u8 0, .int .u8 0, .int .u8 0, .int .u8 0, .int .u8 0, .int .u8 0, .int .u8 0, .int .u8 0, .int .i64 9223372036854775807, .map none] ++ ((List.replicate (n28.toNat - (i28 + 1)) [.int .i32 0, .int .i32 0, .int .i64 0, .int .i32 0, .int .i64 0, .int .i32 0, .int .u8 0, .int .u8 0, .int .u8 0, .int .u8 0, .int .u8 0, .int .u8 0, .int .u8 0, .int .u8 0, .int .u8 0, .int .u8 0, .int .u8 0, .int .u8 0, .int .u8 0, .int .u8 0, .int .u8 0, .int .u8 0, .int .i64 0, .map none]).flatten ++ post28)) :: L28) P28 w := H
      refine VC.cutE (fun q : Int × Rd => [(0, .pointer (some ⟨p, 0, none⟩)), (2, .bool false), (7, .pointer (some ⟨pb, 0, none⟩)), (8, .int .i16 v), (9, .bool fx), (10, .pointer (some ⟨p, 0, none⟩)), (20, .int .i32 n20), (19, .slice (some ⟨g20, 0, none⟩) n20.toNat cap20), (21, .int .i32 i20), (22, .pointer (some ⟨g20, 0 + (i20 : Int).toNat * 19, none⟩)), (23, .pointer (some ⟨g20, 0 + (i20 : Int).toNat * 19, none⟩)), (28, .int .i32 n28), (27, .slice (some ⟨g28, 0, none⟩) n28.toNat cap28), (29, .int .i32 i28), (30, .pointer (some ⟨g28, 0 + (i28 : Int).toNat * 24, none⟩)), (31, .pointer (some ⟨g28, 0 + (i28 : Int).toNat * 24, none⟩))]) (fun q w' => IntKind.i64.wrap q.1 = q.1 ∧ (if hasF (.mk 4 5 (-1) (-1) (-1) (-1) 0 []) v = true then rdField 7 v fx (.mk 4 5 (-1) (-1) (-1) (-1) 0 []) s36 else (dfT 7 (.mk 4 5 (-1) (-1) (-1) (-1) 0 []), s36)) = (numT q.1, q.2) ∧ St w0 G0 p pb q.2 ((g28, 113, es28.flatten ++ [.int .i32 n29, .int .i32 n31, .int .i64 n34, .int .i32 n36, .int .i64 q.1, .int .i32 0, .int .u8 0, .int .u8 0, .int .u8 0, .int .u8 0, .int .u8 0, .int .u8 0, .int .u8 0, .int .u8 0, .int .u8 0, .int .u8 0, .int .u8 0, .int .u8 0, .int .u8 0, .int .u8 0, .int .u8 0, .int .u8 0, .int .i64 9223372036854775807, .map none] ++ ((List.replicate (n28.toNat - (i28 + 1)) [.int .i32 0, .int .i32 0, .int .i64 0, .int .i32 0, .int .i64 0, .int .i32 0, .int .u8 0, .int .u8 0, .int .u8 0, .int .u8 0, .int .u8 0, .int .u8 0, .int .u8 0, .int .u8 0, .int .u8 0, .int .u8 0, .int .u8 0, .int .u8 0, .int .u8 0, .int .u8 0, .int .u8 0, .int .u8 0, .int .i64 0, .map none]).flatten ++ post28)) :: L28) P28 w') ?_ ?_
      · refine cI (by rfl) (fun hcv=>?_) (fun hcv=>?_)
        · ((conv=>whnf);repeat((first|refine mvT ?_|refine mvF ?_|refine yT ?_|refine yF ?_);conv=>whnf))
          refine Does.mono H.int64 ?_
          rintro r w ⟨n40, s40, rfl, hn40, hr40, H⟩
          ((conv=>whnf);repeat((first|refine mvT ?_|refine mvF ?_|refine yT ?_|refine yF ?_);conv=>whnf))
          refine H.st1 (v := .int .i64 n40) 4 (rfl) (rfl) rfl (by first | omega | (simp [hlen2]; done) | (simp [hlen2]; omega)) rfl (Nat.lt_of_lt_of_le (Nat.lt_succ_self _) (Nat.le_of_ble_eq_true rfl)) ?_
          intro w H
          ((conv=>whnf);repeat((first|refine mvT ?_|refine mvF ?_|refine yT ?_|refine yF ?_);conv=>whnf))
          replace H : St w0 G0 p pb s40 ((g28, 113, es28.flatten ++ [.int .i32 n29, .int .i32 n31, .int .i64 n34, .int .i32 n36, .int .i64 n40, .int .i32 0, .int .u8 0, .int .u8 0, .int .u8 0, .int .u8 0, .int .u8 0, .int .u8 0, .int .u8 0, .int .u8 0, .int .u8 0, .int .u8 0, .int .u8 0, .int .u8 0, .int .u8 0, .int .u8 0, .int .u8 0, .int .u8 0, .int .i64 9223372036854775807, .map none] ++ ((List.replicate (n28.toNat - (i28 + 1)) [.int .i32 0, .int .i32 0, .int .i64 0, .int .i32 0, .int .i64 0, .int .i32 0, .int .u8 0, .int .u8 0, .int .u8 0, .int .u8 0, .int .u8 0, .int .u8 0, .int .u8 0, .int .u8 0, .int .u8 0, .int .u8 0, .int .u8 0, .int .u8 0, .int .u8 0, .int .u8 0, .int .u8 0, .int .u8 0, .int .i64 0, .map none]).flatten ++ post28)) :: L28) P28 w := H
          have hh : hasF (.mk 4 5 (-1) (-1) (-1) (-1) 0 []) v = true := by have := of_decide_eq_true hcv; rw [hasF_iff]; omega
          exact ⟨(n40, s40), ⟨rfl, rfl, rfl, rfl, rfl, rfl, rfl, rfl, rfl, rfl, rfl, rfl, rfl, rfl, rfl, rfl, trivial⟩, hn40, by rw [if_pos hh]; exact (rdField4.trans hr40), H⟩
        · ((conv=>whnf);repeat((first|refine mvT ?_|refine mvF ?_|refine yT ?_|refine yF ?_);conv=>whnf))
          have hh : ¬ hasF (.mk 4 5 (-1) (-1) (-1) (-1) 0 []) v = true := by have := of_decide_eq_false hcv; rw [hasF_iff]; omega
          exact ⟨((-1), s36), ⟨rfl, rfl, rfl, rfl, rfl, rfl, rfl, rfl, rfl, rfl, rfl, rfl, rfl, rfl, rfl, rfl, trivial⟩, rfl, by rw [if_neg hh]; rfl, H⟩
      clear H
      rintro ⟨n39, s39⟩ w ⟨hn39, hr39, H⟩
      dsimp only at hn39 hr39 H
      ((conv=>whnf);repeat((first|refine mvT ?_|refine mvF ?_|refine yT ?_|refine yF ?_);conv=>whnf))
      replace H : St w0 G0 p pb s39 ((g28, 113, es28.flatten ++ [.int .i32 n29, .int .i32 n31, .int .i64 n34, .int .i32 n36, .int .i64 n39, .int .i32 0, .int .u8 0, .int .u8 0, .int .u8 0, .int .u8 0, .int .u8 0, .int .u8 0, .int .u8 0, .int .u8 0, .int .u8 0, .int .u8 0, .int .u8 0, .int .u8 0, .int .u8 0, .int .u8 0, .int .u8 0, .int .u8 0, .int .i64 9223372036854775807, .map none] ++ ((List.replicate (n28.toNat - (i28 + 1)) [.int .i32 0, .int .i32 0, .int .i64 0, .int .i32 0, .int .i64 0, .int .i32 0, .int .u8 0, .int .u8 0, .int .u8 0, .int .u8 0, .int .u8 0, .int .u8 0, .int .u8 0, .int .u8 0, .int .u8 0, .int .u8 0, .int .u8 0, .int .u8 0, .int .u8 0, .int .u8 0, .int .u8 0, .int .u8 0, .int .i64 0, .map none]).flatten ++ post28)) :: L28) P28 w := H
      refine Does.mono H.int32 ?_
      rintro r w ⟨n42, s42, rfl, hn42, hr42, H⟩
      ((conv=>whnf);repeat((first|refine mvT ?_|refine mvF ?_|refine yT ?_|refine yF ?_);conv=>whnf))
      refine H.st1 (v := .int .i32 n42) 5 (rfl) (rfl) rfl (by first | omega | (simp [hlen2]; done) | (simp [hlen2]; omega)) rfl (Nat.lt_of_lt_of_le (Nat.lt_succ_self _) (Nat.le_of_ble_eq_true rfl)) ?_
      intro w H
      ((conv=>whnf);repeat((first|refine mvT ?_|refine mvF ?_|refine yT ?_|refine yF ?_);conv=>whnf))
      replace H : St w0 G0 p pb s42 ((g28, 113, es28.flatten ++ [.int .i32 n29, .int .i32 n31, .int .i64 n34, .int .i32 n36, .int .i64 n39, .int .i32 n42, .int .u8 0, .int .u8 0, .int .u8 0, .int .u8 0, .int .u8 0, .int .u8 0, .int .u8 0, .int .u8 0, .int .u8 0, .int .u8 0, .int .u8 0, .int .u8 0, .int .u8 0, .int .u8 0, .int .u8 0, .int .u8 0, .int .i64 9223372036854775807, .map none] ++ ((List.replicate (n28.toNat - (i28 + 1)) [.int .i32 0, .int .i32 0, .int .i64 0, .int .i32 0, .int .i64 0, .int .i32 0, .int .u8 0, .int .u8 0, .int .u8 0, .int .u8 0, .int .u8 0, .int .u8 0, .int .u8 0, .int .u8 0, .int .u8 0, .int .u8 0, .int .u8 0, .int .u8 0, .int .u8 0, .int .u8 0, .int .u8 0, .int .u8 0, .int .i64 0, .map none]).flatten ++ post28)) :: L28) P28 w := H
      (refine mvB ?_;((conv=>whnf);repeat((first|refine mvT ?_|refine mvF ?_|refine yT ?_|refine yF ?_);conv=>whnf)))
      refine VC.cutB (fun q : Value × List Tg × Rd × Value × Value × Value × Value × Value × Value × Value × Value × Value × Value × Value × Value × Value × Value × Value × Value × T × Value × T => [(0, .pointer (some ⟨p, 0, none⟩)), (2, .bool false), (7, .pointer (some ⟨pb, 0, none⟩)), (8, .int .i16 v), (9, .bool fx), (10, .pointer (some ⟨p, 0, none⟩)), (20, .int .i32 n20), (19, .slice (some ⟨g20, 0, none⟩) n20.toNat cap20), (21, .int .i32 i20), (22, .pointer (some ⟨g20, 0 + (i20 : Int).toNat * 19, none⟩)), (23, .pointer (some ⟨g20, 0 + (i20 : Int).toNat * 19, none⟩)), (28, .int .i32 n28), (27, .slice (some ⟨g28, 0, none⟩) n28.toNat cap28), (29, .int .i32 i28), (30, .pointer (some ⟨g28, 0 + (i28 : Int).toNat * 24, none⟩)), (31, .pointer (some ⟨g28, 0 + (i28 : Int).toNat * 24, none⟩))]) (fun q w' => rdTail (rdField 7 v fx) dFetchRequestTopicPartition fx [numT n29, numT n31, numT n34, numT n36, numT n39, numT n42, .mk 0 [0, 0, 0, 0, 0, 0, 0, 0, 0, 0, 0, 0, 0, 0, 0, 0] false [] [], numT 9223372036854775807] s42 = (([numT n29, numT n31, numT n34, numT n36, numT n39, numT n42, q.2.2.2.2.2.2.2.2.2.2.2.2.2.2.2.2.2.2.2.1, q.2.2.2.2.2.2.2.2.2.2.2.2.2.2.2.2.2.2.2.2.2], q.2.1), q.2.2.1) ∧ St w0 G0 p pb q.2.2.1 ((g28, 113, es28.flatten ++ [.int .i32 n29, .int .i32 n31, .int .i64 n34, .int .i32 n36, .int .i64 n39, .int .i32 n42, q.2.2.2.1, q.2.2.2.2.1, q.2.2.2.2.2.1, q.2.2.2.2.2.2.1, q.2.2.2.2.2.2.2.1, q.2.2.2.2.2.2.2.2.1, q.2.2.2.2.2.2.2.2.2.1, q.2.2.2.2.2.2.2.2.2.2.1, q.2.2.2.2.2.2.2.2.2.2.2.1, q.2.2.2.2.2.2.2.2.2.2.2.2.1, q.2.2.2.2.2.2.2.2.2.2.2.2.2.1, q.2.2.2.2.2.2.2.2.2.2.2.2.2.2.1, q.2.2.2.2.2.2.2.2.2.2.2.2.2.2.2.1, q.2.2.2.2.2.2.2.2.2.2.2.2.2.2.2.2.1, q.2.2.2.2.2.2.2.2.2.2.2.2.2.2.2.2.2.1, q.2.2.2.2.2.2.2.2.2.2.2.2.2.2.2.2.2.2.1, q.2.2.2.2.2.2.2.2.2.2.2.2.2.2.2.2.2.2.2.2.1, q.1] ++ ((List.replicate (n28.toNat - (i28 + 1)) [.int .i32 0, .int .i32 0, .int .i64 0, .int .i32 0, .int .i64 0, .int .i32 0, .int .u8 0, .int .u8 0, .int .u8 0, .int .u8 0, .int .u8 0, .int .u8 0, .int .u8 0, .int .u8 0, .int .u8 0, .int .u8 0, .int .u8 0, .int .u8 0, .int .u8 0, .int .u8 0, .int .u8 0, .int .u8 0, .int .i64 0, .map none]).flatten ++ post28)) :: L28) (fun w => QField true 7 (.mk 4 0 (-1) (-1) 1 9223372036854775807 0 []) ⟨w, FG w0 G0⟩ [q.2.2.2.2.2.2.2.2.2.2.2.2.2.2.2.2.2.2.2.2.1] (q.2.2.2.2.2.2.2.2.2.2.2.2.2.2.2.2.2.2.2.2.2) ∧ QField true 7 (.mk 7 0 (-1) (-1) 0 0 0 []) ⟨w, FG w0 G0⟩ [q.2.2.2.1, q.2.2.2.2.1, q.2.2.2.2.2.1, q.2.2.2.2.2.2.1, q.2.2.2.2.2.2.2.1, q.2.2.2.2.2.2.2.2.1, q.2.2.2.2.2.2.2.2.2.1, q.2.2.2.2.2.2.2.2.2.2.1, q.2.2.2.2.2.2.2.2.2.2.2.1, q.2.2.2.2.2.2.2.2.2.2.2.2.1, q.2.2.2.2.2.2.2.2.2.2.2.2.2.1, q.2.2.2.2.2.2.2.2.2.2.2.2.2.2.1, q.2.2.2.2.2.2.2.2.2.2.2.2.2.2.2.1, q.2.2.2.2.2.2.2.2.2.2.2.2.2.2.2.2.1, q.2.2.2.2.2.2.2.2.2.2.2.2.2.2.2.2.2.1, q.2.2.2.2.2.2.2.2.2.2.2.2.2.2.2.2.2.2.1] (q.2.2.2.2.2.2.2.2.2.2.2.2.2.2.2.2.2.2.2.1) ∧ TGf w0 G0 q.1 q.2.1 w ∧ P28 w) w') ?_ ?_
      · refine cI (by rfl) (fun hc=>?_) (fun hc=>?_)
        · ((conv=>whnf);repeat((first|refine mvT ?_|refine mvF ?_|refine yT ?_|refine yF ?_);conv=>whnf))
          obtain ⟨wA44, rfl⟩ : ∃ x, x = w := ⟨w, rfl⟩
          have HA44 := H
          have hA44 := HA44.tgA
          have hlt0 := rdUv_lt s42
          refine Does.mono (rdUvarint_does HA44.rd HA44.Gpb) ?_
          rintro r w ⟨rfl, hr⟩
          ((conv=>whnf);repeat((first|refine mvT ?_|refine mvF ?_|refine yT ?_|refine yF ?_);conv=>whnf))
          have HT : TgS wA44 G0 pb g28 113 es28.flatten [.int .i32 n29, .int .i32 n31, .int .i64 n34, .int .i32 n36, .int .i64 n39, .int .i32 n42, .int .u8 0, .int .u8 0, .int .u8 0, .int .u8 0, .int .u8 0, .int .u8 0, .int .u8 0, .int .u8 0, .int .u8 0, .int .u8 0, .int .u8 0, .int .u8 0, .int .u8 0, .int .u8 0, .int .u8 0, .int .u8 0, .int .i64 9223372036854775807, (.map none)] ((List.replicate (n28.toNat - (i28 + 1)) [.int .i32 0, .int .i32 0, .int .i64 0, .int .i32 0, .int .i64 0, .int .i32 0, .int .u8 0, .int .u8 0, .int .u8 0, .int .u8 0, .int .u8 0, .int .u8 0, .int .u8 0, .int .u8 0, .int .u8 0, .int .u8 0, .int .u8 0, .int .u8 0, .int .u8 0, .int .u8 0, .int .u8 0, .int .u8 0, .int .i64 0, .map none]).flatten ++ post28) L28 (rdUv s42).2 (.map none) [] (fun m w => Slot w wA44 G0 7 (.mk 7 0 (-1) (-1) 0 0 0 []) 0 0 [m] [.int .u8 0, .int .u8 0, .int .u8 0, .int .u8 0, .int .u8 0, .int .u8 0, .int .u8 0, .int .u8 0, .int .u8 0, .int .u8 0, .int .u8 0, .int .u8 0, .int .u8 0, .int .u8 0, .int .u8 0, .int .u8 0] (.mk 0 [0, 0, 0, 0, 0, 0, 0, 0, 0, 0, 0, 0, 0, 0, 0, 0] false [] []) ∧ Slot w wA44 G0 7 (.mk 4 0 (-1) (-1) 1 9223372036854775807 0 []) 0 0 [m] [.int .i64 9223372036854775807] (numT 9223372036854775807)) w := TgS.start HA44 hr ⟨Slot.none (fun _ => QF7 (u := [0, 0, 0, 0, 0, 0, 0, 0, 0, 0, 0, 0, 0, 0, 0, 0]) rfl) (fun h => absurd h (by decide)), Slot.none (fun _ => QF4 rfl) (fun h => absurd h (by decide))⟩ (fun w w' m m' h hx hm => ⟨Slot.clo hA44 (h.1) hx hm, Slot.clo hA44 (h.2) hx hm⟩)
          clear H hr
          refine VL.loop (fun i : Nat => [(38, .int .u32 i), (0, .pointer (some ⟨p, 0, none⟩)), (2, .bool false), (7, .pointer (some ⟨pb, 0, none⟩)), (8, .int .i16 v), (9, .bool fx), (10, .pointer (some ⟨p, 0, none⟩)), (20, .int .i32 n20), (19, .slice (some ⟨g20, 0, none⟩) n20.toNat cap20), (21, .int .i32 i20), (22, .pointer (some ⟨g20, 0 + (i20 : Int).toNat * 19, none⟩)), (23, .pointer (some ⟨g20, 0 + (i20 : Int).toNat * 19, none⟩)), (28, .int .i32 n28), (27, .slice (some ⟨g28, 0, none⟩) n28.toNat cap28), (29, .int .i32 i28), (30, .pointer (some ⟨g28, 0 + (i28 : Int).toNat * 24, none⟩)), (31, .pointer (some ⟨g28, 0 + (i28 : Int).toNat * 24, none⟩))]) (fun i w' => ∃ (st : Rd) (m : Value) (u : List Tg) (c0_0 c0_1 c0_2 c0_3 c0_4 c0_5 c0_6 c0_7 c0_8 c0_9 c0_10 c0_11 c0_12 c0_13 c0_14 c0_15 c1_0 : Value) (xc0 xc1 : T), rdTgX (rdField 7 v fx) dFetchRequestTopicPartition i [numT n29, numT n31, numT n34, numT n36, numT n39, numT n42, xc0, xc1] u st = rdTgX (rdField 7 v fx) dFetchRequestTopicPartition (rdUv s42).1 [numT n29, numT n31, numT n34, numT n36, numT n39, numT n42, .mk 0 [0, 0, 0, 0, 0, 0, 0, 0, 0, 0, 0, 0, 0, 0, 0, 0] false [] [], numT 9223372036854775807] [] (rdUv s42).2 ∧ i < 4294967296 ∧ TgS wA44 G0 pb g28 113 es28.flatten [.int .i32 n29, .int .i32 n31, .int .i64 n34, .int .i32 n36, .int .i64 n39, .int .i32 n42, c0_0, c0_1, c0_2, c0_3, c0_4, c0_5, c0_6, c0_7, c0_8, c0_9, c0_10, c0_11, c0_12, c0_13, c0_14, c0_15, c1_0, m] ((List.replicate (n28.toNat - (i28 + 1)) [.int .i32 0, .int .i32 0, .int .i64 0, .int .i32 0, .int .i64 0, .int .i32 0, .int .u8 0, .int .u8 0, .int .u8 0, .int .u8 0, .int .u8 0, .int .u8 0, .int .u8 0, .int .u8 0, .int .u8 0, .int .u8 0, .int .u8 0, .int .u8 0, .int .u8 0, .int .u8 0, .int .u8 0, .int .u8 0, .int .i64 0, .map none]).flatten ++ post28) L28 st m u (fun m w => Slot w wA44 G0 7 (.mk 7 0 (-1) (-1) 0 0 0 []) 0 0 [m] [c0_0, c0_1, c0_2, c0_3, c0_4, c0_5, c0_6, c0_7, c0_8, c0_9, c0_10, c0_11, c0_12, c0_13, c0_14, c0_15] (xc0) ∧ Slot w wA44 G0 7 (.mk 4 0 (-1) (-1) 1 9223372036854775807 0 []) 0 0 [m] [c1_0] (xc1)) w') (fun i => i) (rdUv s42).1 ⟨rfl, rfl, rfl, rfl, rfl, rfl, rfl, rfl, rfl, rfl, rfl, rfl, rfl, rfl, rfl, rfl, rfl, trivial⟩ ⟨_, _, _, _, _, _, _, _, _, _, _, _, _, _, _, _, _, _, _, _, _, _, rfl, hlt0, HT⟩ ?_
          clear HT
          rintro i w ⟨st, m, u, c0_0, c0_1, c0_2, c0_3, c0_4, c0_5, c0_6, c0_7, c0_8, c0_9, c0_10, c0_11, c0_12, c0_13, c0_14, c0_15, c1_0, xc0, xc1, hrun, hi, HT⟩
          ((conv=>whnf);repeat((first|refine mvT ?_|refine mvF ?_|refine yT ?_|refine yF ?_);conv=>whnf))
          refine cI (by rfl) (fun h9=>?_) (fun h9=>?_)
          · obtain ⟨j, rfl⟩ : ∃ j, i = j + 1 := ⟨i - 1, by have := of_decide_eq_true h9; omega⟩
            ((conv=>whnf);repeat((first|refine mvT ?_|refine mvF ?_|refine yT ?_|refine yF ?_);conv=>whnf))
            refine Does.mono (HT.uv hA44) ?_
            rintro r w ⟨key, st1, rfl, hkey, hu1, HT⟩
            ((conv=>whnf);repeat((first|refine mvT ?_|refine mvF ?_|refine yT ?_|refine yF ?_);conv=>whnf))
            refine cI (by rfl) (fun hk0=>?_) (fun hk0=>?_)
            · have hk0 : key = 0 := by have h := hk0; simp at h; omega
              subst hk0
              ((conv=>whnf);repeat((first|refine mvT ?_|refine mvF ?_|refine yT ?_|refine yF ?_);conv=>whnf))
              refine Does.mono (HT.uv hA44) ?_
              rintro r w ⟨z, st2, rfl, hz, hu2, HT⟩
              ((conv=>whnf);repeat((first|refine mvT ?_|refine mvF ?_|refine yT ?_|refine yF ?_);conv=>whnf))
              rw [i64_of (n := (z : Int)) (by omega) (by omega)]
              refine Does.mono (HT.span hA44 z) ?_
              rintro r w ⟨bb, st3, hsp, hbb, HT⟩
              obtain ⟨a7, c7, rfl, _⟩ := hbb.view
              ((conv=>whnf);repeat((first|refine mvT ?_|refine mvF ?_|refine yT ?_|refine yF ?_);conv=>whnf))
              obtain ⟨w1_45, rfl⟩ : ∃ x, x = w := ⟨w, rfl⟩
              intro pb45 wb hpb hb2 hxb1
              ((conv=>whnf);repeat((first|refine mvT ?_|refine mvF ?_|refine yT ?_|refine yF ?_);conv=>whnf))
              refine st_all [.slice a7 bb.length c7, .bool false] hb2 rfl rfl rfl ?_
              intro w hb2 hxb2
              ((conv=>whnf);repeat((first|refine mvT ?_|refine mvF ?_|refine yT ?_|refine yF ?_);conv=>whnf))
              have he : Ext nob w1_45 w := hxb1.trans hxb2 fun k hk h => by omega
              have H := HT.tagq hA44 hb2 (hbb.e0 he) he hpb
              clear hb2 hxb1 hxb2 he
              replace H : St w1_45 G0 g28 pb45 (bb, false) ((g28, 113, es28.flatten ++ [.int .i32 n29, .int .i32 n31, .int .i64 n34, .int .i32 n36, .int .i64 n39, .int .i32 n42, c0_0, c0_1, c0_2, c0_3, c0_4, c0_5, c0_6, c0_7, c0_8, c0_9, c0_10, c0_11, c0_12, c0_13, c0_14, c0_15, c1_0, m] ++ ((List.replicate (n28.toNat - (i28 + 1)) [.int .i32 0, .int .i32 0, .int .i64 0, .int .i32 0, .int .i64 0, .int .i32 0, .int .u8 0, .int .u8 0, .int .u8 0, .int .u8 0, .int .u8 0, .int .u8 0, .int .u8 0, .int .u8 0, .int .u8 0, .int .u8 0, .int .u8 0, .int .u8 0, .int .u8 0, .int .u8 0, .int .u8 0, .int .u8 0, .int .i64 0, .map none]).flatten ++ post28)) :: []) (fun w' => Ext (fun k => k = g28) w1_45 w') w := H
              have hfxT := hc
              refine Does.mono H.uuid ?_
              rintro r w ⟨u46, s46, rfl, hu46, hr46, H⟩
              ((conv=>whnf);repeat((first|refine mvT ?_|refine mvF ?_|refine yT ?_|refine yF ?_);conv=>whnf))
              obtain ⟨u46_0, u46_1, u46_2, u46_3, u46_4, u46_5, u46_6, u46_7, u46_8, u46_9, u46_10, u46_11, u46_12, u46_13, u46_14, u46_15, rfl⟩ : ∃ u46_0 u46_1 u46_2 u46_3 u46_4 u46_5 u46_6 u46_7 u46_8 u46_9 u46_10 u46_11 u46_12 u46_13 u46_14 u46_15, u46 = [u46_0, u46_1, u46_2, u46_3, u46_4, u46_5, u46_6, u46_7, u46_8, u46_9, u46_10, u46_11, u46_12, u46_13, u46_14, u46_15] := by
                match u46, hu46 with
                | [u46_0, u46_1, u46_2, u46_3, u46_4, u46_5, u46_6, u46_7, u46_8, u46_9, u46_10, u46_11, u46_12, u46_13, u46_14, u46_15], _ => exact ⟨u46_0, u46_1, u46_2, u46_3, u46_4, u46_5, u46_6, u46_7, u46_8, u46_9, u46_10, u46_11, u46_12, u46_13, u46_14, u46_15, rfl⟩
              intro bu wu hbu hou hxu
              ((conv=>whnf);repeat((first|refine mvT ?_|refine mvF ?_|refine yT ?_|refine yF ?_);conv=>whnf))
              refine st_all [bcell u46_0, bcell u46_1, bcell u46_2, bcell u46_3, bcell u46_4, bcell u46_5, bcell u46_6, bcell u46_7, bcell u46_8, bcell u46_9, bcell u46_10, bcell u46_11, bcell u46_12, bcell u46_13, bcell u46_14, bcell u46_15] hou rfl rfl rfl ?_
              intro w2 hou hxs
              ((conv=>whnf);repeat((first|refine mvT ?_|refine mvF ?_|refine yT ?_|refine yF ?_);conv=>whnf))
              replace H := H.e0 (hxu.trans hxs (M := nob) fun k hk e => by omega)
              refine ⟨_, rfl, hou.cells, ?_⟩
              ((conv=>whnf);repeat((first|refine mvT ?_|refine mvF ?_|refine yT ?_|refine yF ?_);conv=>whnf))
              refine H.stn [bcell u46_0, bcell u46_1, bcell u46_2, bcell u46_3, bcell u46_4, bcell u46_5, bcell u46_6, bcell u46_7, bcell u46_8, bcell u46_9, bcell u46_10, bcell u46_11, bcell u46_12, bcell u46_13, bcell u46_14, bcell u46_15] 6 rfl rfl rfl (by first | omega | (simp [hlen2]; done) | (simp [hlen2]; omega)) rfl (Nat.le_of_ble_eq_true rfl) ?_
              intro w H
              ((conv=>whnf);repeat((first|refine mvT ?_|refine mvF ?_|refine yT ?_|refine yF ?_);conv=>whnf))
              replace H : St w1_45 G0 g28 pb45 s46 ((g28, 113, es28.flatten ++ [.int .i32 n29, .int .i32 n31, .int .i64 n34, .int .i32 n36, .int .i64 n39, .int .i32 n42, bcell u46_0, bcell u46_1, bcell u46_2, bcell u46_3, bcell u46_4, bcell u46_5, bcell u46_6, bcell u46_7, bcell u46_8, bcell u46_9, bcell u46_10, bcell u46_11, bcell u46_12, bcell u46_13, bcell u46_14, bcell u46_15, c1_0, m] ++ ((List.replicate (n28.toNat - (i28 + 1)) [.int .i32 0, .int .i32 0, .int .i64 0, .int .i32 0, .int .i64 0, .int .i32 0, .int .u8 0, .int .u8 0, .int .u8 0, .int .u8 0, .int .u8 0, .int .u8 0, .int .u8 0, .int .u8 0, .int .u8 0, .int .u8 0, .int .u8 0, .int .u8 0, .int .u8 0, .int .u8 0, .int .u8 0, .int .u8 0, .int .i64 0, .map none]).flatten ++ post28)) :: []) (fun w' => Ext (fun k => k = g28) w1_45 w') w := H
              have hP := H.now
              have hq : QField true 7 (.mk 7 0 (-1) (-1) 0 0 0 []) ⟨w, FG w1_45 G0⟩ [bcell u46_0, bcell u46_1, bcell u46_2, bcell u46_3, bcell u46_4, bcell u46_5, bcell u46_6, bcell u46_7, bcell u46_8, bcell u46_9, bcell u46_10, bcell u46_11, bcell u46_12, bcell u46_13, bcell u46_14, bcell u46_15] (.mk 0 [u46_0, u46_1, u46_2, u46_3, u46_4, u46_5, u46_6, u46_7, u46_8, u46_9, u46_10, u46_11, u46_12, u46_13, u46_14, u46_15] false [] []) := QF7 (u := [u46_0, u46_1, u46_2, u46_3, u46_4, u46_5, u46_6, u46_7, u46_8, u46_9, u46_10, u46_11, u46_12, u46_13, u46_14, u46_15]) rfl
              have hx := H.ext.mono (M' := fun k => OwnB (.slice none 0 0) k ∨ k = g28) fun _ _ h => .inr h
              have hx2 : Ext (fun k => k = g28) w w := Ext.refl _ _
              have HT2 : TgS wA44 G0 pb g28 113 es28.flatten [.int .i32 n29, .int .i32 n31, .int .i64 n34, .int .i32 n36, .int .i64 n39, .int .i32 n42, bcell u46_0, bcell u46_1, bcell u46_2, bcell u46_3, bcell u46_4, bcell u46_5, bcell u46_6, bcell u46_7, bcell u46_8, bcell u46_9, bcell u46_10, bcell u46_11, bcell u46_12, bcell u46_13, bcell u46_14, bcell u46_15, c1_0, m] ((List.replicate (n28.toNat - (i28 + 1)) [.int .i32 0, .int .i32 0, .int .i64 0, .int .i32 0, .int .i64 0, .int .i32 0, .int .u8 0, .int .u8 0, .int .u8 0, .int .u8 0, .int .u8 0, .int .u8 0, .int .u8 0, .int .u8 0, .int .u8 0, .int .u8 0, .int .u8 0, .int .u8 0, .int .u8 0, .int .u8 0, .int .u8 0, .int .u8 0, .int .i64 0, .map none]).flatten ++ post28) L28 st3 m u (fun m w => Slot w wA44 G0 7 (.mk 7 0 (-1) (-1) 0 0 0 []) 0 0 [m] [bcell u46_0, bcell u46_1, bcell u46_2, bcell u46_3, bcell u46_4, bcell u46_5, bcell u46_6, bcell u46_7, bcell u46_8, bcell u46_9, bcell u46_10, bcell u46_11, bcell u46_12, bcell u46_13, bcell u46_14, bcell u46_15] (.mk 0 [u46_0, u46_1, u46_2, u46_3, u46_4, u46_5, u46_6, u46_7, u46_8, u46_9, u46_10, u46_11, u46_12, u46_13, u46_14, u46_15] false [] []) ∧ Slot w wA44 G0 7 (.mk 4 0 (-1) (-1) 1 9223372036854775807 0 []) 0 0 [m] [c1_0] (xc1)) w := HT.put hA44 hx H.own.1 (fun k h => absurd h (no_own k)) ⟨Slot.readq hA44 HT hq (by decide) (fun c hc k hk => by
                  simp only [List.mem_cons, List.not_mem_nil, or_false] at hc), Slot.other hA44 (HT.slots.2) hx (fun k h => absurd h (no_own k)) fun c hc k hk => .inl ⟨c, by simp [hc], hk⟩⟩ (fun w w' m m' h hx hm => ⟨Slot.clo hA44 (h.1) hx hm, Slot.clo hA44 (h.2) hx hm⟩)
              have hfield : rdField 7 v fx (.mk 7 0 (-1) (-1) 0 0 0 []) (bb, false) = (.mk 0 [u46_0, u46_1, u46_2, u46_3, u46_4, u46_5, u46_6, u46_7, u46_8, u46_9, u46_10, u46_11, u46_12, u46_13, u46_14, u46_15] false [] [], s46) := (rdField7.trans hr46)
              refine Does.mono (Complete_does (HT2.laid HA44 hL hp1) (HT.rd2 hA44 hpb H.rd hx2)) ?_
              rintro r _ ⟨hr9, rfl⟩
              cases hbd9 : s46.2 with
              | true =>
                rw [hbd9, if_pos rfl] at hr9
                obtain ⟨te, xe, hev⟩ := hL.iface
                rw [hev] at hr9
                subst hr9
                ((conv=>whnf);repeat((first|refine mvT ?_|refine mvF ?_|refine yT ?_|refine yF ?_);conv=>whnf))
                rw [← hev]
                refine RdPost.fell (hup28 ?_) (HT2.ext0 HA44)
                rw [tail_yes (rdField3.trans hr29) ⟨by decide, has_all hv⟩, tail_ver hr31 (by decide), tail_yes (rdField4.trans hr34) ⟨by decide, has_all hv⟩, tail_ver hr36 (by decide), tail_ver hr39 (by decide), tail_yes (rdField3.trans hr42) ⟨by decide, has_all hv⟩, tail_tag (f := (.mk 7 0 (-1) (-1) 0 0 0 [])) (by decide), tail_tag (f := (.mk 4 0 (-1) (-1) 1 9223372036854775807 0 [])) (by decide), tail_run (by decide) hc hrun]
                exact rdTgX_fell hu1 hu2 hsp rfl (by rw [hfield]; exact hbd9)
              | false =>
                rw [hbd9, if_neg Bool.false_ne_true] at hr9
                subst hr9
                ((conv=>whnf);repeat((first|refine mvT ?_|refine mvF ?_|refine yT ?_|refine yF ?_);conv=>whnf))
                refine ⟨j, ⟨?_, rfl, rfl, rfl, rfl, rfl, rfl, rfl, rfl, rfl, rfl, rfl, rfl, rfl, rfl, rfl, rfl, trivial⟩, ⟨st3, m, u, bcell u46_0, bcell u46_1, bcell u46_2, bcell u46_3, bcell u46_4, bcell u46_5, bcell u46_6, bcell u46_7, bcell u46_8, bcell u46_9, bcell u46_10, bcell u46_11, bcell u46_12, bcell u46_13, bcell u46_14, bcell u46_15, c1_0, .mk 0 [u46_0, u46_1, u46_2, u46_3, u46_4, u46_5, u46_6, u46_7, u46_8, u46_9, u46_10, u46_11, u46_12, u46_13, u46_14, u46_15] false [] [], xc1, rdTgX_next hrun hu1 hu2 hsp rfl hfield hbd9 (by rw [tgX_ne (show ((.mk 7 0 (-1) (-1) 0 0 0 []) : Fd).kind ≠ 11 by decide)]; rfl), by omega, HT2⟩, by omega⟩
                show some (Value.int .u32 _) = _
                rw [wrap_u32]
                simp only [Option.some.injEq, Value.int.injEq, true_and]
                omega
            · have hk0 : key ≠ 0 := by have h := hk0; simp at h; omega
              refine cI (by rfl) (fun hk1=>?_) (fun hk1=>?_)
              · have hk1 : key = 1 := by have h := hk1; simp at h; omega
                subst hk1
                ((conv=>whnf);repeat((first|refine mvT ?_|refine mvF ?_|refine yT ?_|refine yF ?_);conv=>whnf))
                refine Does.mono (HT.uv hA44) ?_
                rintro r w ⟨z, st2, rfl, hz, hu2, HT⟩
                ((conv=>whnf);repeat((first|refine mvT ?_|refine mvF ?_|refine yT ?_|refine yF ?_);conv=>whnf))
                rw [i64_of (n := (z : Int)) (by omega) (by omega)]
                refine Does.mono (HT.span hA44 z) ?_
                rintro r w ⟨bb, st3, hsp, hbb, HT⟩
                obtain ⟨a7, c7, rfl, _⟩ := hbb.view
                ((conv=>whnf);repeat((first|refine mvT ?_|refine mvF ?_|refine yT ?_|refine yF ?_);conv=>whnf))
                obtain ⟨w1_49, rfl⟩ : ∃ x, x = w := ⟨w, rfl⟩
                intro pb49 wb hpb hb2 hxb1
                ((conv=>whnf);repeat((first|refine mvT ?_|refine mvF ?_|refine yT ?_|refine yF ?_);conv=>whnf))
                refine st_all [.slice a7 bb.length c7, .bool false] hb2 rfl rfl rfl ?_
                intro w hb2 hxb2
                ((conv=>whnf);repeat((first|refine mvT ?_|refine mvF ?_|refine yT ?_|refine yF ?_);conv=>whnf))
                have he : Ext nob w1_49 w := hxb1.trans hxb2 fun k hk h => by omega
                obtain ⟨hG1, hb1⟩ := HT.src hA44
                have H := St.tag hb2 (hbb.e0 he) hG1 he hb1 hpb
                clear hb2 hxb1 hxb2 he
                refine Does.mono H.int64 ?_
                rintro r w ⟨n50, s50, rfl, hn50, hr50, H⟩
                ((conv=>whnf);repeat((first|refine mvT ?_|refine mvF ?_|refine yT ?_|refine yF ?_);conv=>whnf))
                refine stm (HT.own.1.e0 H.now) (v := .int .i64 n50) 22 rfl rfl rfl (by first | omega | (simp [hlen2]; done) | (simp [hlen2]; omega)) rfl (Nat.lt_of_lt_of_le (Nat.lt_succ_self _) (Nat.le_of_ble_eq_true rfl)) ?_
                intro w ho hx2
                ((conv=>whnf);repeat((first|refine mvT ?_|refine mvF ?_|refine yT ?_|refine yF ?_);conv=>whnf))
                have hx := (H.now.mono (M' := fun k => OwnB (.slice none 0 0) k ∨ k = g28) fun _ _ f => f.elim).trans hx2 fun k _ h => .inr h
                have HT2 : TgS wA44 G0 pb g28 113 es28.flatten [.int .i32 n29, .int .i32 n31, .int .i64 n34, .int .i32 n36, .int .i64 n39, .int .i32 n42, c0_0, c0_1, c0_2, c0_3, c0_4, c0_5, c0_6, c0_7, c0_8, c0_9, c0_10, c0_11, c0_12, c0_13, c0_14, c0_15, .int .i64 n50, m] ((List.replicate (n28.toNat - (i28 + 1)) [.int .i32 0, .int .i32 0, .int .i64 0, .int .i32 0, .int .i64 0, .int .i32 0, .int .u8 0, .int .u8 0, .int .u8 0, .int .u8 0, .int .u8 0, .int .u8 0, .int .u8 0, .int .u8 0, .int .u8 0, .int .u8 0, .int .u8 0, .int .u8 0, .int .u8 0, .int .u8 0, .int .u8 0, .int .u8 0, .int .i64 0, .map none]).flatten ++ post28) L28 st3 m u (fun m w => Slot w wA44 G0 7 (.mk 7 0 (-1) (-1) 0 0 0 []) 0 0 [m] [c0_0, c0_1, c0_2, c0_3, c0_4, c0_5, c0_6, c0_7, c0_8, c0_9, c0_10, c0_11, c0_12, c0_13, c0_14, c0_15] (xc0) ∧ Slot w wA44 G0 7 (.mk 4 0 (-1) (-1) 1 9223372036854775807 0 []) 0 0 [m] [.int .i64 n50] (numT n50)) w := HT.put hA44 hx ho (fun k h => absurd h (no_own k)) ⟨Slot.other hA44 (HT.slots.1) hx (fun k h => absurd h (no_own k)) fun c hc k hk => .inl ⟨c, by simp [hc], hk⟩, ⟨QF4 hn50, fun h => absurd h (by decide)⟩⟩ (fun w w' m m' h hx hm => ⟨Slot.clo hA44 (h.1) hx hm, Slot.clo hA44 (h.2) hx hm⟩)
                have hfield : rdField 7 v fx (.mk 4 0 (-1) (-1) 1 9223372036854775807 0 []) (bb, false) = (numT n50, s50) := rdField4.trans hr50
                refine Does.mono (Complete_does (HT2.laid HA44 hL hp1) (HT.rd2 hA44 hpb H.rd hx2)) ?_
                rintro r _ ⟨hr9, rfl⟩
                cases hbd9 : s50.2 with
                | true =>
                  rw [hbd9, if_pos rfl] at hr9
                  obtain ⟨te, xe, hev⟩ := hL.iface
                  rw [hev] at hr9
                  subst hr9
                  ((conv=>whnf);repeat((first|refine mvT ?_|refine mvF ?_|refine yT ?_|refine yF ?_);conv=>whnf))
                  rw [← hev]
                  refine RdPost.fell (hup28 ?_) (HT2.ext0 HA44)
                  rw [tail_yes (rdField3.trans hr29) ⟨by decide, has_all hv⟩, tail_ver hr31 (by decide), tail_yes (rdField4.trans hr34) ⟨by decide, has_all hv⟩, tail_ver hr36 (by decide), tail_ver hr39 (by decide), tail_yes (rdField3.trans hr42) ⟨by decide, has_all hv⟩, tail_tag (f := (.mk 7 0 (-1) (-1) 0 0 0 [])) (by decide), tail_tag (f := (.mk 4 0 (-1) (-1) 1 9223372036854775807 0 [])) (by decide), tail_run (by decide) hc hrun]
                  exact rdTgX_fell hu1 hu2 hsp rfl (by rw [hfield]; exact hbd9)
                | false =>
                  rw [hbd9, if_neg Bool.false_ne_true] at hr9
                  subst hr9
                  ((conv=>whnf);repeat((first|refine mvT ?_|refine mvF ?_|refine yT ?_|refine yF ?_);conv=>whnf))
                  refine ⟨j, ⟨?_, rfl, rfl, rfl, rfl, rfl, rfl, rfl, rfl, rfl, rfl, rfl, rfl, rfl, rfl, rfl, rfl, trivial⟩, ⟨st3, m, u, c0_0, c0_1, c0_2, c0_3, c0_4, c0_5, c0_6, c0_7, c0_8, c0_9, c0_10, c0_11, c0_12, c0_13, c0_14, c0_15, .int .i64 n50, xc0, numT n50, rdTgX_next hrun hu1 hu2 hsp rfl hfield hbd9 (by rw [tgX_ne (show ((.mk 4 0 (-1) (-1) 1 9223372036854775807 0 []) : Fd).kind ≠ 11 by decide)]; rfl), by omega, HT2⟩, by omega⟩
                  show some (Value.int .u32 _) = _
                  rw [wrap_u32]
                  simp only [Option.some.injEq, Value.int.injEq, true_and]
                  omega
              · have hk1 : key ≠ 1 := by have h := hk1; simp at h; omega
                ((conv=>whnf);repeat((first|refine mvT ?_|refine mvF ?_|refine yT ?_|refine yF ?_);conv=>whnf))
                refine VD.draw mixed (.q 0 (.q 1 (.q 2 (.q 3 (.eff 4 [] (.q 5 (.eff 6 [] (.eff 7 [] (.done))))))))) (by kernel_rfl) ?_;((conv=>whnf);repeat((first|refine mvT ?_|refine mvF ?_|refine yT ?_|refine yF ?_);conv=>whnf))
                replace HT := HT.e0 (ext_drew _)
                skip
                refine Does.mono (HT.uv hA44) ?_
                rintro r w ⟨z, st2, rfl, hz, hu2, HT⟩
                ((conv=>whnf);repeat((first|refine mvT ?_|refine mvF ?_|refine yT ?_|refine yF ?_);conv=>whnf))
                rw [i64_of (n := (z : Int)) (by omega) (by omega)]
                refine Does.mono (HT.span hA44 z) ?_
                rintro r w ⟨bb, st3, hsp, hbb, HT⟩
                obtain ⟨a7, c7, rfl, _⟩ := hbb.view
                ((conv=>whnf);repeat((first|refine mvT ?_|refine mvF ?_|refine yT ?_|refine yF ?_);conv=>whnf))
                refine Does.mono (HT.set hA44 (om := 23) (key := key) (b := bb) rfl (by first | omega | (simp [hlen2]; done) | (simp [hlen2]; omega)) hbb) ?_
                rintro r w ⟨m', HT⟩
                ((conv=>whnf);repeat((first|refine mvT ?_|refine mvF ?_|refine yT ?_|refine yF ?_);conv=>whnf))
                have htag : tagIx dFetchRequestTopicPartition 0 key = none := tagIx_no fun f hf => by
                  simp only [dFetchRequestTopicPartition, List.mem_cons, List.not_mem_nil, or_false] at hf
                  rcases hf with rfl | rfl | rfl | rfl | rfl | rfl | rfl | rfl <;> (simp only [Fd.tag]; omega)
                refine ⟨j, ⟨?_, rfl, rfl, rfl, rfl, rfl, rfl, rfl, rfl, rfl, rfl, rfl, rfl, rfl, rfl, rfl, rfl, trivial⟩, ⟨st3, m', _, _, _, _, _, _, _, _, _, _, _, _, _, _, _, _, _, _, _, _, (rdTgX_none hu1 hu2 hsp htag).symm.trans hrun, by omega, HT⟩, by omega⟩
                show some (Value.int .u32 _) = _
                rw [wrap_u32]
                simp only [Option.some.injEq, Value.int.injEq, true_and]
                omega
          · have hi0 : i = 0 := by have := of_decide_eq_false h9; omega
            subst hi0
            ((conv=>whnf);repeat((first|refine mvT ?_|refine mvF ?_|refine yT ?_|refine yF ?_);conv=>whnf))
            have H := TgS.out HA44 HT
            have H := Slot.out HA44 (HT.slots.1) H
            have H := Slot.out HA44 (HT.slots.2) H
            exact ⟨(m, u, st, c0_0, c0_1, c0_2, c0_3, c0_4, c0_5, c0_6, c0_7, c0_8, c0_9, c0_10, c0_11, c0_12, c0_13, c0_14, c0_15, xc0, c1_0, xc1), ⟨rfl, rfl, rfl, rfl, rfl, rfl, rfl, rfl, rfl, rfl, rfl, rfl, rfl, rfl, rfl, rfl, trivial⟩, tail_end (by decide) hc hrun, H⟩
        · ((conv=>whnf);repeat((first|refine mvT ?_|refine mvF ?_|refine yT ?_|refine yF ?_);conv=>whnf))
          have H := H.add (Q := fun w => TGf w0 G0 (.map none) [] w) fun w' _ => TagsR.nil _ _
          have H := H.add (Q := fun w => QField true 7 (.mk 7 0 (-1) (-1) 0 0 0 []) ⟨w, FG w0 G0⟩ [.int .u8 0, .int .u8 0, .int .u8 0, .int .u8 0, .int .u8 0, .int .u8 0, .int .u8 0, .int .u8 0, .int .u8 0, .int .u8 0, .int .u8 0, .int .u8 0, .int .u8 0, .int .u8 0, .int .u8 0, .int .u8 0] (.mk 0 [0, 0, 0, 0, 0, 0, 0, 0, 0, 0, 0, 0, 0, 0, 0, 0] false [] [])) fun w' _ => QF7 (u := [0, 0, 0, 0, 0, 0, 0, 0, 0, 0, 0, 0, 0, 0, 0, 0]) rfl
          have H := H.add (Q := fun w => QField true 7 (.mk 4 0 (-1) (-1) 1 9223372036854775807 0 []) ⟨w, FG w0 G0⟩ [.int .i64 9223372036854775807] (numT 9223372036854775807)) fun w' _ => QF4 rfl
          exact ⟨(.map none, [], s42, .int .u8 0, .int .u8 0, .int .u8 0, .int .u8 0, .int .u8 0, .int .u8 0, .int .u8 0, .int .u8 0, .int .u8 0, .int .u8 0, .int .u8 0, .int .u8 0, .int .u8 0, .int .u8 0, .int .u8 0, .int .u8 0, .mk 0 [0, 0, 0, 0, 0, 0, 0, 0, 0, 0, 0, 0, 0, 0, 0, 0] false [] [], .int .i64 9223372036854775807, numT 9223372036854775807), ⟨rfl, rfl, rfl, rfl, rfl, rfl, rfl, rfl, rfl, rfl, rfl, rfl, rfl, rfl, rfl, rfl, trivial⟩, tail_none (by decide) hc, H⟩
      clear H
      rintro ⟨m51, u51, s51, t51_0_0, t51_0_1, t51_0_2, t51_0_3, t51_0_4, t51_0_5, t51_0_6, t51_0_7, t51_0_8, t51_0_9, t51_0_10, t51_0_11, t51_0_12, t51_0_13, t51_0_14, t51_0_15, xt51_0, t51_1_0, xt51_1⟩ w ⟨htl, H⟩
      dsimp only at htl H
      ((conv=>whnf);repeat((first|refine mvT ?_|refine mvF ?_|refine yT ?_|refine yF ?_);conv=>whnf))
      obtain ⟨P52, hP52⟩ : ∃ P : World → Prop, P = fun w => TGf w0 G0 m51 u51 w ∧ P28 w := ⟨_, rfl⟩
      obtain ⟨P53, hP53⟩ : ∃ P : World → Prop, P = fun w => QField true 7 (.mk 7 0 (-1) (-1) 0 0 0 []) ⟨w, FG w0 G0⟩ [t51_0_0, t51_0_1, t51_0_2, t51_0_3, t51_0_4, t51_0_5, t51_0_6, t51_0_7, t51_0_8, t51_0_9, t51_0_10, t51_0_11, t51_0_12, t51_0_13, t51_0_14, t51_0_15] (xt51_0) ∧ P52 w := ⟨_, rfl⟩
      obtain ⟨P54, hP54⟩ : ∃ P : World → Prop, P = fun w => QField true 7 (.mk 4 0 (-1) (-1) 1 9223372036854775807 0 []) ⟨w, FG w0 G0⟩ [t51_1_0] (xt51_1) ∧ P53 w := ⟨_, rfl⟩
      replace H : St w0 G0 p pb s51 ((g28, 113, es28.flatten ++ [.int .i32 n29, .int .i32 n31, .int .i64 n34, .int .i32 n36, .int .i64 n39, .int .i32 n42, t51_0_0, t51_0_1, t51_0_2, t51_0_3, t51_0_4, t51_0_5, t51_0_6, t51_0_7, t51_0_8, t51_0_9, t51_0_10, t51_0_11, t51_0_12, t51_0_13, t51_0_14, t51_0_15, t51_1_0, m51] ++ ((List.replicate (n28.toNat - (i28 + 1)) [.int .i32 0, .int .i32 0, .int .i64 0, .int .i32 0, .int .i64 0, .int .i32 0, .int .u8 0, .int .u8 0, .int .u8 0, .int .u8 0, .int .u8 0, .int .u8 0, .int .u8 0, .int .u8 0, .int .u8 0, .int .u8 0, .int .u8 0, .int .u8 0, .int .u8 0, .int .u8 0, .int .u8 0, .int .u8 0, .int .i64 0, .map none]).flatten ++ post28)) :: L28) P54 w := by rw [hP54, hP53, hP52]; exact H
      have hall : rdAll (rdField 7 v fx) (dfT 7) v dFetchRequestTopicPartition si28 = ([numT n29, numT n31, numT n34, numT n36, numT n39, numT n42, .mk 0 [0, 0, 0, 0, 0, 0, 0, 0, 0, 0, 0, 0, 0, 0, 0, 0] false [] [], numT 9223372036854775807], s42) := by
        rw [rdAll_yes (df := dfT 7) (rdField3.trans hr29) ⟨by decide, has_all hv⟩, rdAll_ver hr31 (by decide), rdAll_yes (df := dfT 7) (rdField4.trans hr34) ⟨by decide, has_all hv⟩, rdAll_ver hr36 (by decide), rdAll_ver hr39 (by decide), rdAll_yes (df := dfT 7) (rdField3.trans hr42) ⟨by decide, has_all hv⟩, rdAll_tag (f := (.mk 7 0 (-1) (-1) 0 0 0 [])) (by decide), rdAll_tag (f := (.mk 4 0 (-1) (-1) 1 9223372036854775807 0 [])) (by decide)]
        rfl
      have hpart : rdPart 7 v fx dFetchRequestTopicPartition si28 = (.mk 0 [] false [numT n29, numT n31, numT n34, numT n36, numT n39, numT n42, xt51_0, xt51_1] u51, s51) := by
        simp only [rdPart, rdPartW, hall, htl]
      refine ⟨i28 + 1, ⟨rfl, rfl, ?_, rfl, rfl, rfl, rfl, rfl, rfl, rfl, rfl, rfl, rfl, rfl, trivial⟩, ⟨by omega, ListI.back hgo28 (LoopI.next hes28 hez28 hrn28 hts28 (cur := [.int .i32 n29, .int .i32 n31, .int .i64 n34, .int .i32 n36, .int .i64 n39, .int .i32 n42, t51_0_0, t51_0_1, t51_0_2, t51_0_3, t51_0_4, t51_0_5, t51_0_6, t51_0_7, t51_0_8, t51_0_9, t51_0_10, t51_0_11, t51_0_12, t51_0_13, t51_0_14, t51_0_15, t51_1_0, m51]) (x := .mk 0 [] false [numT n29, numT n31, numT n34, numT n36, numT n39, numT n42, xt51_0, xt51_1] u51) (hpart) rfl (by rw [← hL28]; exact H) fun w hP => ?_)⟩, by omega⟩
      · show some (Value.int .i32 _) = _
        rw [IntKind.wrap_i32]
        simp only [Option.some.injEq, Value.int.injEq, true_and]
        omega
      · skip
        rw [hP54] at hP
        obtain ⟨hf54_, hP⟩ := hP
        rw [hP53] at hP
        obtain ⟨hf53_, hP⟩ := hP
        rw [hP52] at hP
        obtain ⟨hf52_, hP⟩ := hP
        rw [hP28] at hP
        exact ⟨QPt (QA1 (QF3 hn29) (QA1 (QF3 hn31) (QA1 (QF4 hn34) (QA1 (QF3 hn36) (QA1 (QF4 hn39) (QA1 (QF3 hn42) (QA1 (hf53_) (QA1 (hf54_) (QA0))))))))) hf52_, hP⟩
    have hge28 : ¬ (i28 : Int) < n28 := of_decide_eq_false h9
    obtain ⟨l55, s55, hone55, hl55, hr55, H⟩ := H.done hge28 hln28 (nl := nlF (.mk 11 0 (-1) (-1) (-1) 0 10 dFetchRequestTopicPartition) v) (sz := elZ true 7 10 dFetchRequestTopicPartition) rfl hpL28 rfl
    ((conv=>whnf);repeat((first|refine mvT ?_|refine mvF ?_|refine yT ?_|refine yF ?_);conv=>whnf))
    obtain ⟨P56, hP56⟩ : ∃ P : World → Prop, P = fun w => ListR true (elZ true 7 10 dFetchRequestTopicPartition) (elQ true 7 10 dFetchRequestTopicPartition ⟨w, FG w0 G0⟩) w (FG w0 G0) a28 (.mk 0 [] (decide (n28 ≤ 0)) l55 []) ∧ P20 w := ⟨_, rfl⟩
    replace H : St w0 G0 p pb s55 ((g20, 108, es20.flatten ++ [str u21, bcell u24_0, bcell u24_1, bcell u24_2, bcell u24_3, bcell u24_4, bcell u24_5, bcell u24_6, bcell u24_7, bcell u24_8, bcell u24_9, bcell u24_10, bcell u24_11, bcell u24_12, bcell u24_13, bcell u24_14, bcell u24_15, .slice none 0 0, .map none] ++ ((List.replicate (n20.toNat - (i20 + 1)) [str [], .int .u8 0, .int .u8 0, .int .u8 0, .int .u8 0, .int .u8 0, .int .u8 0, .int .u8 0, .int .u8 0, .int .u8 0, .int .u8 0, .int .u8 0, .int .u8 0, .int .u8 0, .int .u8 0, .int .u8 0, .int .u8 0, .slice none 0 0, .map none]).flatten ++ post20)) :: L20) P56 w := by rw [hP56]; exact H
    refine H.st1 (v := a28) 17 (cells_one hone55) (hone55) rfl (by first | omega | (simp [hlen1]; done) | (simp [hlen1]; omega)) rfl (Nat.lt_of_lt_of_le (Nat.lt_succ_self _) (Nat.le_of_ble_eq_true rfl)) ?_
    intro w H
    ((conv=>whnf);repeat((first|refine mvT ?_|refine mvF ?_|refine yT ?_|refine yF ?_);conv=>whnf))
    replace H : St w0 G0 p pb s55 ((g20, 108, es20.flatten ++ [str u21, bcell u24_0, bcell u24_1, bcell u24_2, bcell u24_3, bcell u24_4, bcell u24_5, bcell u24_6, bcell u24_7, bcell u24_8, bcell u24_9, bcell u24_10, bcell u24_11, bcell u24_12, bcell u24_13, bcell u24_14, bcell u24_15, a28, .map none] ++ ((List.replicate (n20.toNat - (i20 + 1)) [str [], .int .u8 0, .int .u8 0, .int .u8 0, .int .u8 0, .int .u8 0, .int .u8 0, .int .u8 0, .int .u8 0, .int .u8 0, .int .u8 0, .int .u8 0, .int .u8 0, .int .u8 0, .int .u8 0, .int .u8 0, .int .u8 0, .slice none 0 0, .map none]).flatten ++ post20)) :: L20) P56 w := H
    (refine mvB ?_;((conv=>whnf);repeat((first|refine mvT ?_|refine mvF ?_|refine yT ?_|refine yF ?_);conv=>whnf)))
    refine VC.cutB (fun q : Value × List Tg × Rd => [(0, .pointer (some ⟨p, 0, none⟩)), (2, .bool false), (7, .pointer (some ⟨pb, 0, none⟩)), (8, .int .i16 v), (9, .bool fx), (10, .pointer (some ⟨p, 0, none⟩)), (20, .int .i32 n20), (19, .slice (some ⟨g20, 0, none⟩) n20.toNat cap20), (21, .int .i32 i20), (22, .pointer (some ⟨g20, 0 + (i20 : Int).toNat * 19, none⟩)), (23, .pointer (some ⟨g20, 0 + (i20 : Int).toNat * 19, none⟩))]) (fun q w' => rdTagsF fx s55 = q.2 ∧ St w0 G0 p pb q.2.2 ((g20, 108, es20.flatten ++ [str u21, bcell u24_0, bcell u24_1, bcell u24_2, bcell u24_3, bcell u24_4, bcell u24_5, bcell u24_6, bcell u24_7, bcell u24_8, bcell u24_9, bcell u24_10, bcell u24_11, bcell u24_12, bcell u24_13, bcell u24_14, bcell u24_15, a28, q.1] ++ ((List.replicate (n20.toNat - (i20 + 1)) [str [], .int .u8 0, .int .u8 0, .int .u8 0, .int .u8 0, .int .u8 0, .int .u8 0, .int .u8 0, .int .u8 0, .int .u8 0, .int .u8 0, .int .u8 0, .int .u8 0, .int .u8 0, .int .u8 0, .int .u8 0, .int .u8 0, .slice none 0 0, .map none]).flatten ++ post20)) :: L20) (fun w => TGf w0 G0 q.1 q.2.1 w ∧ P56 w) w') ?_ ?_
    · refine cI (by rfl) (fun hc=>?_) (fun hc=>?_)
      · ((conv=>whnf);repeat((first|refine mvT ?_|refine mvF ?_|refine yT ?_|refine yF ?_);conv=>whnf))
        refine Does.mono H.tags ?_
        rintro r w ⟨m, u, s', rfl, hone, hr, H⟩
        ((conv=>whnf);repeat((first|refine mvT ?_|refine mvF ?_|refine yT ?_|refine yF ?_);conv=>whnf))
        refine H.st1 (v := m) 18 (rfl) (hone) rfl (by first | omega | (simp [hlen1]; done) | (simp [hlen1]; omega)) rfl (Nat.lt_of_lt_of_le (Nat.lt_succ_self _) (Nat.le_of_ble_eq_true rfl)) ?_
        intro w H
        ((conv=>whnf);repeat((first|refine mvT ?_|refine mvF ?_|refine yT ?_|refine yF ?_);conv=>whnf))
        exact ⟨(m, u, s'), ⟨rfl, rfl, rfl, rfl, rfl, rfl, rfl, rfl, rfl, rfl, rfl, trivial⟩, by rw [rdTagsF, if_pos hc]; exact hr, H⟩
      · ((conv=>whnf);repeat((first|refine mvT ?_|refine mvF ?_|refine yT ?_|refine yF ?_);conv=>whnf))
        exact ⟨(.map none, [], s55), ⟨rfl, rfl, rfl, rfl, rfl, rfl, rfl, rfl, rfl, rfl, rfl, trivial⟩, by rw [rdTagsF, if_neg (by rw [hc]; decide)], H.add fun w' _ => TagsR.nil _ _⟩
    clear H
    rintro ⟨m58, u58, s58⟩ w ⟨htg, H⟩
    dsimp only at htg H
    ((conv=>whnf);repeat((first|refine mvT ?_|refine mvF ?_|refine yT ?_|refine yF ?_);conv=>whnf))
    obtain ⟨P59, hP59⟩ : ∃ P : World → Prop, P = fun w => TGf w0 G0 m58 u58 w ∧ P56 w := ⟨_, rfl⟩
    replace H : St w0 G0 p pb s58 ((g20, 108, es20.flatten ++ [str u21, bcell u24_0, bcell u24_1, bcell u24_2, bcell u24_3, bcell u24_4, bcell u24_5, bcell u24_6, bcell u24_7, bcell u24_8, bcell u24_9, bcell u24_10, bcell u24_11, bcell u24_12, bcell u24_13, bcell u24_14, bcell u24_15, a28, m58] ++ ((List.replicate (n20.toNat - (i20 + 1)) [str [], .int .u8 0, .int .u8 0, .int .u8 0, .int .u8 0, .int .u8 0, .int .u8 0, .int .u8 0, .int .u8 0, .int .u8 0, .int .u8 0, .int .u8 0, .int .u8 0, .int .u8 0, .int .u8 0, .int .u8 0, .int .u8 0, .slice none 0 0, .map none]).flatten ++ post20)) :: L20) P59 w := by rw [hP59]; exact H
    have hpart : rdPart 8 v fx dFetchRequestTopic si20 = (.mk 0 [] false [.mk 0 u21 false [] [], .mk 0 [u24_0, u24_1, u24_2, u24_3, u24_4, u24_5, u24_6, u24_7, u24_8, u24_9, u24_10, u24_11, u24_12, u24_13, u24_14, u24_15] false [] [], .mk 0 [] (decide (n28 ≤ 0)) l55 []] u58, s58) := by
      unfold rdPart rdPartW
      rw [rdTail_plain (by decide)]
      rw [rdAll_ver hr21 (by decide), rdAll_ver hr24 (by decide), rdAll_yes (df := dfT 8) ((rdField_list _ _ _ _ _ _ _ _ _ _ _).trans hr55) ⟨by decide, has_all hv⟩]
      simp only [rdAll]
      rw [htg]
    refine ⟨i20 + 1, ⟨rfl, rfl, ?_, rfl, rfl, rfl, rfl, rfl, rfl, trivial⟩, ⟨by omega, ListI.back hgo20 (LoopI.next hes20 hez20 hrn20 hts20 (cur := [str u21, bcell u24_0, bcell u24_1, bcell u24_2, bcell u24_3, bcell u24_4, bcell u24_5, bcell u24_6, bcell u24_7, bcell u24_8, bcell u24_9, bcell u24_10, bcell u24_11, bcell u24_12, bcell u24_13, bcell u24_14, bcell u24_15, a28, m58]) (x := .mk 0 [] false [.mk 0 u21 false [] [], .mk 0 [u24_0, u24_1, u24_2, u24_3, u24_4, u24_5, u24_6, u24_7, u24_8, u24_9, u24_10, u24_11, u24_12, u24_13, u24_14, u24_15] false [] [], .mk 0 [] (decide (n28 ≤ 0)) l55 []] u58) (hpart) rfl (by rw [← hL20]; exact H) fun w hP => ?_)⟩, by omega⟩
    · show some (Value.int .i32 _) = _
      rw [IntKind.wrap_i32]
      simp only [Option.some.injEq, Value.int.injEq, true_and]
      omega
    · skip
      rw [hP59] at hP
      obtain ⟨hf59_, hP⟩ := hP
      rw [hP56] at hP
      obtain ⟨hf56_, hP⟩ := hP
      rw [hP20] at hP
      exact ⟨QPt (QA1 (QF8 (by decide) u21) (QA1 (QF7 (u := [u24_0, u24_1, u24_2, u24_3, u24_4, u24_5, u24_6, u24_7, u24_8, u24_9, u24_10, u24_11, u24_12, u24_13, u24_14, u24_15]) rfl) (QA1 (QF11 hl55 hf56_) (QA0)))) hf59_, hP⟩
  have hge20 : ¬ (i20 : Int) < n20 := of_decide_eq_false h9
  obtain ⟨l60, s60, hone60, hl60, hr60, H⟩ := H.done hge20 hln20 (nl := nlF (.mk 11 0 (-1) (-1) (-1) 0 10 dFetchRequestTopic) v) (sz := elZ true 8 10 dFetchRequestTopic) rfl hpL20 rfl
  ((conv=>whnf);repeat((first|refine mvT ?_|refine mvF ?_|refine yT ?_|refine yF ?_);conv=>whnf))
  obtain ⟨P61, hP61⟩ : ∃ P : World → Prop, P = fun w => ListR true (elZ true 8 10 dFetchRequestTopic) (elQ true 8 10 dFetchRequestTopic ⟨w, FG w0 G0⟩) w (FG w0 G0) a20 (.mk 0 [] (decide (n20 ≤ 0)) l60 []) ∧ (fun _ => True) w := ⟨_, rfl⟩
  replace H : St w0 G0 p pb s60 ((p, ty, [] ++ [.int .i16 v, .pointer none, .int .i32 n1, .int .i32 (-1), .int .i64 (-1), .map none, .int .i32 n4, .int .i32 n6, .int .i32 n8, .int .i8 n11, .int .i32 n14, .int .i32 n17, .slice none 0 0, .slice none 0 0, str [], .map none] ++ []) :: []) P61 w := by rw [hP61]; exact H
  refine H.st1 (v := a20) 12 (cells_one hone60) (hone60) rfl (by simp) rfl (Nat.lt_of_lt_of_le (Nat.lt_succ_self _) (Nat.le_of_ble_eq_true rfl)) ?_
  intro w H
  ((conv=>whnf);repeat((first|refine mvT ?_|refine mvF ?_|refine yT ?_|refine yF ?_);conv=>whnf))
  replace H : St w0 G0 p pb s60 ((p, ty, [] ++ [.int .i16 v, .pointer none, .int .i32 n1, .int .i32 (-1), .int .i64 (-1), .map none, .int .i32 n4, .int .i32 n6, .int .i32 n8, .int .i8 n11, .int .i32 n14, .int .i32 n17, a20, .slice none 0 0, str [], .map none] ++ []) :: []) P61 w := H
  refine VC.cutE (fun q : Value × Bool × List T × Rd => [(0, .pointer (some ⟨p, 0, none⟩)), (2, .bool false), (7, .pointer (some ⟨pb, 0, none⟩)), (8, .int .i16 v), (9, .bool fx), (10, .pointer (some ⟨p, 0, none⟩))]) (fun q w' => (q.2.1 = true → q.2.2.1 = []) ∧ (if hasF (.mk 11 7 (-1) (-1) (-1) 0 10 dFetchRequestForgottenTopic) v = true then rdField 9 v fx (.mk 11 7 (-1) (-1) (-1) 0 10 dFetchRequestForgottenTopic) s60 else (dfT 9 (.mk 11 7 (-1) (-1) (-1) 0 10 dFetchRequestForgottenTopic), s60)) = (.mk 0 [] q.2.1 q.2.2.1 [], q.2.2.2) ∧ St w0 G0 p pb q.2.2.2 ((p, ty, [] ++ [.int .i16 v, .pointer none, .int .i32 n1, .int .i32 (-1), .int .i64 (-1), .map none, .int .i32 n4, .int .i32 n6, .int .i32 n8, .int .i8 n11, .int .i32 n14, .int .i32 n17, a20, q.1, str [], .map none] ++ []) :: []) (fun w => ListR true (elZ true 8 10 dFetchRequestForgottenTopic) (elQ true 8 10 dFetchRequestForgottenTopic ⟨w, FG w0 G0⟩) w (FG w0 G0) q.1 (.mk 0 [] (q.2.1) q.2.2.1 []) ∧ P61 w) w') ?_ ?_
  · refine cI (by rfl) (fun hcv=>?_) (fun hcv=>?_)
    · have hh : hasF (.mk 11 7 (-1) (-1) (-1) 0 10 dFetchRequestForgottenTopic) v = true := by have := of_decide_eq_true hcv; rw [hasF_iff]; omega
      ((conv=>whnf);repeat((first|refine mvT ?_|refine mvF ?_|refine yT ?_|refine yF ?_);conv=>whnf))
      refine ldS (H.cell (o := 0) rfl (k := 13) rfl) ?_;((conv=>whnf);repeat((first|refine mvT ?_|refine mvF ?_|refine yT ?_|refine yF ?_);conv=>whnf))
      (refine mvB ?_;((conv=>whnf);repeat((first|refine mvT ?_|refine mvF ?_|refine yT ?_|refine yF ?_);conv=>whnf)))
      refine VC.cutE (fun q : Int × Rd => [(48, .int .i32 q.1), (47, .slice none 0 0), (0, .pointer (some ⟨p, 0, none⟩)), (2, .bool false), (7, .pointer (some ⟨pb, 0, none⟩)), (8, .int .i16 v), (9, .bool fx), (10, .pointer (some ⟨p, 0, none⟩))]) (fun q w' => (-2147483648 ≤ q.1 ∧ q.1 ≤ 2147483647) ∧ rdLn fx s60 = q ∧ St w0 G0 p pb q.2 ((p, ty, [] ++ [.int .i16 v, .pointer none, .int .i32 n1, .int .i32 (-1), .int .i64 (-1), .map none, .int .i32 n4, .int .i32 n6, .int .i32 n8, .int .i8 n11, .int .i32 n14, .int .i32 n17, a20, .slice none 0 0, str [], .map none] ++ []) :: []) P61 w') ?_ ?_
      · refine cI (by rfl) (fun hc=>?_) (fun hc=>?_)
        · ((conv=>whnf);repeat((first|refine mvT ?_|refine mvF ?_|refine yT ?_|refine yF ?_);conv=>whnf))
          refine Does.mono H.lnc ?_
          rintro r w ⟨n, s', rfl, hn, hr, H⟩
          ((conv=>whnf);repeat((first|refine mvT ?_|refine mvF ?_|refine yT ?_|refine yF ?_);conv=>whnf))
          exact ⟨(n, s'), ⟨rfl, rfl, rfl, rfl, rfl, rfl, rfl, rfl, trivial⟩, hn, by rw [hc]; exact hr, H⟩
        · ((conv=>whnf);repeat((first|refine mvT ?_|refine mvF ?_|refine yT ?_|refine yF ?_);conv=>whnf))
          refine Does.mono H.lnp ?_
          rintro r w ⟨n, s', rfl, hn, hr, H⟩
          ((conv=>whnf);repeat((first|refine mvT ?_|refine mvF ?_|refine yT ?_|refine yF ?_);conv=>whnf))
          exact ⟨(n, s'), ⟨rfl, rfl, rfl, rfl, rfl, rfl, rfl, rfl, trivial⟩, hn, by rw [hc]; exact hr, H⟩
      clear H
      rintro ⟨n64, s64⟩ w ⟨hn64, hln64, H⟩
      dsimp only at hn64 hln64 H
      ((conv=>whnf);repeat((first|refine mvT ?_|refine mvF ?_|refine yT ?_|refine yF ?_);conv=>whnf))
      refine Does.mono H.ok ?_
      rintro r w ⟨rfl, H⟩
      ((conv=>whnf);repeat((first|refine mvT ?_|refine mvF ?_|refine yT ?_|refine yF ?_);conv=>whnf))
      refine cI (by rfl) (fun hbd=>?_) (fun hbd=>?_)
      · have hbd : s64.2 = true := by simpa using hbd
        ((conv=>whnf);repeat((first|refine mvT ?_|refine mvF ?_|refine yT ?_|refine yF ?_);conv=>whnf))
        refine Does.mono (H.done hL hp1) ?_
        rintro r w ⟨rfl, H⟩
        ((conv=>whnf);repeat((first|refine mvT ?_|refine mvF ?_|refine yT ?_|refine yF ?_);conv=>whnf))
        refine RdPost.early hbd (hup0 (?_)) H
        rw [tail_tag (f := (.mk 8 0 (-1) 0 0 0 0 [])) (by decide), tail_ver hr1 (by decide), tail_tag (f := (.mk 10 0 (-1) (-1) 1 0 0 dFetchRequestReplicaState)) (by decide), tail_yes (rdField3.trans hr4) ⟨by decide, has_all hv⟩, tail_yes (rdField3.trans hr6) ⟨by decide, has_all hv⟩, tail_ver hr8 (by decide), tail_ver hr11 (by decide), tail_ver hr14 (by decide), tail_ver hr17 (by decide), tail_yes ((rdField_list _ _ _ _ _ _ _ _ _ _ _).trans hr60) ⟨by decide, has_all hv⟩, tail_len ⟨by decide, hh⟩ hln64 hbd]
      have hbd : s64.2 = false := by simpa using hbd
      clear hbd
      ((conv=>whnf);repeat((first|refine mvT ?_|refine mvF ?_|refine yT ?_|refine yF ?_);conv=>whnf))
      refine cut_zero ?_
      ((conv=>whnf);repeat((first|refine mvT ?_|refine mvF ?_|refine yT ?_|refine yF ?_);conv=>whnf))
      refine VC.cutE (fun a : Value => [(48, .int .i32 n64), (47, a), (0, .pointer (some ⟨p, 0, none⟩)), (2, .bool false), (7, .pointer (some ⟨pb, 0, none⟩)), (8, .int .i16 v), (9, .bool fx), (10, .pointer (some ⟨p, 0, none⟩))]) (fun a w' => ListI w0 G0 p pb 123 [str [], .int .u8 0, .int .u8 0, .int .u8 0, .int .u8 0, .int .u8 0, .int .u8 0, .int .u8 0, .int .u8 0, .int .u8 0, .int .u8 0, .int .u8 0, .int .u8 0, .int .u8 0, .int .u8 0, .int .u8 0, .int .u8 0, .slice none 0 0, .map none] (elR 8 v fx 10 dFetchRequestForgottenTopic) (elQ true 8 10 dFetchRequestForgottenTopic) s64 n64 (decide (n64 ≤ 0)) ((p, ty, [] ++ [.int .i16 v, .pointer none, .int .i32 n1, .int .i32 (-1), .int .i64 (-1), .map none, .int .i32 n4, .int .i32 n6, .int .i32 n8, .int .i8 n11, .int .i32 n14, .int .i32 n17, a20, .slice none 0 0, str [], .map none] ++ []) :: []) P61 a 0 w') ?_ ?_
      · refine cI (by rfl) (fun hps=>?_) (fun hps=>?_)
        · have hps : 0 < n64 := by have := of_decide_eq_true hps; omega
          ((conv=>whnf);repeat((first|refine mvT ?_|refine mvF ?_|refine yT ?_|refine yF ?_);conv=>whnf))
          refine H.grow hps hn64.2 (by decide) rfl rfl (by decide) ?_
          intro g cap post w hc1 hc2 H
          ((conv=>whnf);repeat((first|refine mvT ?_|refine mvF ?_|refine yT ?_|refine yF ?_);conv=>whnf))
          exact ⟨_, ⟨rfl, rfl, rfl, rfl, rfl, rfl, rfl, rfl, trivial⟩, ListI.some hps (decide_eq_false (by omega)) hc1 hc2 H⟩
        · have hps : n64 ≤ 0 := by have := of_decide_eq_false hps; omega
          ((conv=>whnf);repeat((first|refine mvT ?_|refine mvF ?_|refine yT ?_|refine yF ?_);conv=>whnf))
          exact ⟨_, ⟨rfl, rfl, rfl, rfl, rfl, rfl, rfl, rfl, trivial⟩, ListI.none hps (decide_eq_true hps) H⟩
      clear H
      rintro a64 w H
      ((conv=>whnf);repeat((first|refine mvT ?_|refine mvF ?_|refine yT ?_|refine yF ?_);conv=>whnf))
      have hpL64 : inL ((p, ty, [] ++ [.int .i16 v, .pointer none, .int .i32 n1, .int .i32 (-1), .int .i64 (-1), .map none, .int .i32 n4, .int .i32 n6, .int .i32 n8, .int .i8 n11, .int .i32 n14, .int .i32 n17, a20, .slice none 0 0, str [], .map none] ++ []) :: []) p := inL.head _ _
      refine VL.loop (fun i : Nat => [(48, .int .i32 n64), (47, a64), (49, .int .i32 i), (0, .pointer (some ⟨p, 0, none⟩)), (2, .bool false), (7, .pointer (some ⟨pb, 0, none⟩)), (8, .int .i16 v), (9, .bool fx), (10, .pointer (some ⟨p, 0, none⟩))]) (fun i w' => i ≤ 2147483647 ∧ ListI w0 G0 p pb 123 [str [], .int .u8 0, .int .u8 0, .int .u8 0, .int .u8 0, .int .u8 0, .int .u8 0, .int .u8 0, .int .u8 0, .int .u8 0, .int .u8 0, .int .u8 0, .int .u8 0, .int .u8 0, .int .u8 0, .int .u8 0, .int .u8 0, .slice none 0 0, .map none] (elR 8 v fx 10 dFetchRequestForgottenTopic) (elQ true 8 10 dFetchRequestForgottenTopic) s64 n64 (decide (n64 ≤ 0)) ((p, ty, [] ++ [.int .i16 v, .pointer none, .int .i32 n1, .int .i32 (-1), .int .i64 (-1), .map none, .int .i32 n4, .int .i32 n6, .int .i32 n8, .int .i8 n11, .int .i32 n14, .int .i32 n17, a20, .slice none 0 0, str [], .map none] ++ []) :: []) P61 a64 i w') (fun i => n64.toNat - i) 0 ⟨rfl, rfl, rfl, rfl, rfl, rfl, rfl, rfl, rfl, trivial⟩ ⟨by decide, H⟩ ?_
      clear H
      rintro i64 w ⟨hi64, H⟩
      ((conv=>whnf);repeat((first|refine mvT ?_|refine mvF ?_|refine yT ?_|refine yF ?_);conv=>whnf))
      refine cI (by rfl) (fun h9=>?_) (fun h9=>?_)
      · have hlt64 : (i64 : Int) < n64 := of_decide_eq_true h9
        obtain ⟨g64, cap64, post64, rfl, hgo64, HI⟩ := H.go hlt64
        obtain ⟨es64, ts64, si64, hes64, hez64, hrn64, hts64, hlen1, H⟩ := HI.open hgo64.2.2.2.2
        obtain ⟨L64, hL64⟩ : ∃ L : List Ob, L = ((p, ty, [] ++ [.int .i16 v, .pointer none, .int .i32 n1, .int .i32 (-1), .int .i64 (-1), .map none, .int .i32 n4, .int .i32 n6, .int .i32 n8, .int .i8 n11, .int .i32 n14, .int .i32 n17, a20, .slice none 0 0, str [], .map none] ++ []) :: []) := ⟨_, rfl⟩
        rw [← hL64] at H hpL64
        obtain ⟨P64, hP64⟩ : ∃ P : World → Prop, P = fun w => (∀ (j : Nat) (c : List Value) (y : T), es64[j]? = some c → ts64[j]? = some y → elQ true 8 10 dFetchRequestForgottenTopic ⟨w, FG w0 G0⟩ c y) ∧ P61 w := ⟨_, rfl⟩
        rw [← hP64] at H
        replace H : St w0 G0 p pb si64 ((g64, 123, es64.flatten ++ [str [], .int .u8 0, .int .u8 0, .int .u8 0, .int .u8 0, .int .u8 0, .int .u8 0, .int .u8 0, .int .u8 0, .int .u8 0, .int .u8 0, .int .u8 0, .int .u8 0, .int .u8 0, .int .u8 0, .int .u8 0, .int .u8 0, .slice none 0 0, .map none] ++ ((List.replicate (n64.toNat - (i64 + 1)) [str [], .int .u8 0, .int .u8 0, .int .u8 0, .int .u8 0, .int .u8 0, .int .u8 0, .int .u8 0, .int .u8 0, .int .u8 0, .int .u8 0, .int .u8 0, .int .u8 0, .int .u8 0, .int .u8 0, .int .u8 0, .int .u8 0, .slice none 0 0, .map none]).flatten ++ post64)) :: L64) P64 w := H
        ((conv=>whnf);repeat((first|refine mvT ?_|refine mvF ?_|refine yT ?_|refine yF ?_);conv=>whnf))
        refine ⟨g64, 0, rfl, ⟨by omega, by omega⟩, ?_⟩
        ((conv=>whnf);repeat((first|refine mvT ?_|refine mvF ?_|refine yT ?_|refine yF ?_);conv=>whnf))
        refine Does.mono (dfFetchRequestForgottenTopic (pre := es64.flatten) (cur := [str [], .int .u8 0, .int .u8 0, .int .u8 0, .int .u8 0, .int .u8 0, .int .u8 0, .int .u8 0, .int .u8 0, .int .u8 0, .int .u8 0, .int .u8 0, .int .u8 0, .int .u8 0, .int .u8 0, .int .u8 0, .int .u8 0, .slice none 0 0, .map none]) (post := ((List.replicate (n64.toNat - (i64 + 1)) [str [], .int .u8 0, .int .u8 0, .int .u8 0, .int .u8 0, .int .u8 0, .int .u8 0, .int .u8 0, .int .u8 0, .int .u8 0, .int .u8 0, .int .u8 0, .int .u8 0, .int .u8 0, .int .u8 0, .int .u8 0, .int .u8 0, .slice none 0 0, .map none]).flatten ++ post64)) H.head (by first | (rw [hlen1]; simp; done) | (simp [hlen1]; done) | (simp [hlen1]; omega)) rfl) ?_
        rintro rd w2 ⟨hdf, hxd⟩
        replace H := H.put hdf hxd
        clear hdf hxd
        replace H : St w0 G0 p pb si64 ((g64, 123, es64.flatten ++ [str [], .int .u8 0, .int .u8 0, .int .u8 0, .int .u8 0, .int .u8 0, .int .u8 0, .int .u8 0, .int .u8 0, .int .u8 0, .int .u8 0, .int .u8 0, .int .u8 0, .int .u8 0, .int .u8 0, .int .u8 0, .int .u8 0, .slice none 0 0, .map none] ++ ((List.replicate (n64.toNat - (i64 + 1)) [str [], .int .u8 0, .int .u8 0, .int .u8 0, .int .u8 0, .int .u8 0, .int .u8 0, .int .u8 0, .int .u8 0, .int .u8 0, .int .u8 0, .int .u8 0, .int .u8 0, .int .u8 0, .int .u8 0, .int .u8 0, .int .u8 0, .slice none 0 0, .map none]).flatten ++ post64)) :: L64) P64 w2 := H
        ((conv=>whnf);repeat((first|refine mvT ?_|refine mvF ?_|refine yT ?_|refine yF ?_);conv=>whnf))
        have hup64 : tailBad 8 v fx dFetchRequestForgottenTopic dFetchRequestForgottenTopic si64 = true → (rdPart 9 v fx dFetchRequest (l, false)).2.2 = true := by
          intro hb
          refine hup0 ?_
          rw [tail_tag (f := (.mk 8 0 (-1) 0 0 0 0 [])) (by decide), tail_ver hr1 (by decide), tail_tag (f := (.mk 10 0 (-1) (-1) 1 0 0 dFetchRequestReplicaState)) (by decide), tail_yes (rdField3.trans hr4) ⟨by decide, has_all hv⟩, tail_yes (rdField3.trans hr6) ⟨by decide, has_all hv⟩, tail_ver hr8 (by decide), tail_ver hr11 (by decide), tail_ver hr14 (by decide), tail_ver hr17 (by decide), tail_yes ((rdField_list _ _ _ _ _ _ _ _ _ _ _).trans hr60) ⟨by decide, has_all hv⟩, tail_el ⟨by decide, hh⟩ hln64 hgo64.2.2.2.2 hrn64 ((tailBad_part _ _ _ _ _).symm.trans hb)]
        apply mvG
        rotate_left
        · intro rest cq hcq
          cases cq
          · conv => whnf
            refine VC.cutE (fun q : List UInt8 × Rd => [(0, .pointer (some ⟨p, 0, none⟩)), (2, .bool false), (7, .pointer (some ⟨pb, 0, none⟩)), (8, .int .i16 v), (9, .bool fx), (10, .pointer (some ⟨p, 0, none⟩)), (48, .int .i32 n64), (47, .slice (some ⟨g64, 0, none⟩) n64.toNat cap64), (49, .int .i32 i64), (50, .pointer (some ⟨g64, 0 + (i64 : Int).toNat * 19, none⟩)), (51, .pointer (some ⟨g64, 0 + (i64 : Int).toNat * 19, none⟩))]) (fun q w' => (if hasF (.mk 8 7 12 (-1) (-1) 0 0 []) v = true then rdField 8 v fx (.mk 8 7 12 (-1) (-1) 0 0 []) si64 else (dfT 8 (.mk 8 7 12 (-1) (-1) 0 0 []), si64)) = (.mk 0 q.1 false [] [], q.2) ∧ St w0 G0 p pb q.2 ((g64, 123, es64.flatten ++ [str q.1, .int .u8 0, .int .u8 0, .int .u8 0, .int .u8 0, .int .u8 0, .int .u8 0, .int .u8 0, .int .u8 0, .int .u8 0, .int .u8 0, .int .u8 0, .int .u8 0, .int .u8 0, .int .u8 0, .int .u8 0, .int .u8 0, .slice none 0 0, .map none] ++ ((List.replicate (n64.toNat - (i64 + 1)) [str [], .int .u8 0, .int .u8 0, .int .u8 0, .int .u8 0, .int .u8 0, .int .u8 0, .int .u8 0, .int .u8 0, .int .u8 0, .int .u8 0, .int .u8 0, .int .u8 0, .int .u8 0, .int .u8 0, .int .u8 0, .int .u8 0, .slice none 0 0, .map none]).flatten ++ post64)) :: L64) P64 w') ?_ rest
            ((conv=>whnf);repeat((first|refine mvT ?_|refine mvF ?_|refine yT ?_|refine yF ?_);conv=>whnf))
            have hh : ¬ hasF (.mk 8 7 12 (-1) (-1) 0 0 []) v = true := by have := of_decide_eq_false hcq; rw [hasF_iff]; omega
            exact ⟨([], si64), ⟨rfl, rfl, rfl, rfl, rfl, rfl, rfl, rfl, rfl, rfl, rfl, trivial⟩, by rw [if_neg hh]; rfl, H⟩
          · conv => whnf
            refine VC.cutE (fun q : List UInt8 × Rd => [(0, .pointer (some ⟨p, 0, none⟩)), (2, .bool false), (7, .pointer (some ⟨pb, 0, none⟩)), (8, .int .i16 v), (9, .bool fx), (10, .pointer (some ⟨p, 0, none⟩)), (48, .int .i32 n64), (47, .slice (some ⟨g64, 0, none⟩) n64.toNat cap64), (49, .int .i32 i64), (50, .pointer (some ⟨g64, 0 + (i64 : Int).toNat * 19, none⟩)), (51, .pointer (some ⟨g64, 0 + (i64 : Int).toNat * 19, none⟩))]) (fun q w' => (if hasF (.mk 8 7 12 (-1) (-1) 0 0 []) v = true then rdField 8 v fx (.mk 8 7 12 (-1) (-1) 0 0 []) si64 else (dfT 8 (.mk 8 7 12 (-1) (-1) 0 0 []), si64)) = (.mk 0 q.1 false [] [], q.2) ∧ St w0 G0 p pb q.2 ((g64, 123, es64.flatten ++ [str q.1, .int .u8 0, .int .u8 0, .int .u8 0, .int .u8 0, .int .u8 0, .int .u8 0, .int .u8 0, .int .u8 0, .int .u8 0, .int .u8 0, .int .u8 0, .int .u8 0, .int .u8 0, .int .u8 0, .int .u8 0, .int .u8 0, .slice none 0 0, .map none] ++ ((List.replicate (n64.toNat - (i64 + 1)) [str [], .int .u8 0, .int .u8 0, .int .u8 0, .int .u8 0, .int .u8 0, .int .u8 0, .int .u8 0, .int .u8 0, .int .u8 0, .int .u8 0, .int .u8 0, .int .u8 0, .int .u8 0, .int .u8 0, .int .u8 0, .int .u8 0, .slice none 0 0, .map none]).flatten ++ post64)) :: L64) P64 w') ?_ rest
            refine cI (by rfl) (fun hcv=>?_) (fun hcv=>?_)
            · ((conv=>whnf);repeat((first|refine mvT ?_|refine mvF ?_|refine yT ?_|refine yF ?_);conv=>whnf))
              (refine mvB ?_;((conv=>whnf);repeat((first|refine mvT ?_|refine mvF ?_|refine yT ?_|refine yF ?_);conv=>whnf)))
              refine VC.cutE (fun q : List UInt8 × Rd => [(52, str q.1), (0, .pointer (some ⟨p, 0, none⟩)), (2, .bool false), (7, .pointer (some ⟨pb, 0, none⟩)), (8, .int .i16 v), (9, .bool fx), (10, .pointer (some ⟨p, 0, none⟩)), (48, .int .i32 n64), (47, .slice (some ⟨g64, 0, none⟩) n64.toNat cap64), (49, .int .i32 i64), (50, .pointer (some ⟨g64, 0 + (i64 : Int).toNat * 19, none⟩)), (51, .pointer (some ⟨g64, 0 + (i64 : Int).toNat * 19, none⟩))]) (fun q w' => rdTx fx si64 = q ∧ St w0 G0 p pb q.2 ((g64, 123, es64.flatten ++ [str [], .int .u8 0, .int .u8 0, .int .u8 0, .int .u8 0, .int .u8 0, .int .u8 0, .int .u8 0, .int .u8 0, .int .u8 0, .int .u8 0, .int .u8 0, .int .u8 0, .int .u8 0, .int .u8 0, .int .u8 0, .int .u8 0, .slice none 0 0, .map none] ++ ((List.replicate (n64.toNat - (i64 + 1)) [str [], .int .u8 0, .int .u8 0, .int .u8 0, .int .u8 0, .int .u8 0, .int .u8 0, .int .u8 0, .int .u8 0, .int .u8 0, .int .u8 0, .int .u8 0, .int .u8 0, .int .u8 0, .int .u8 0, .int .u8 0, .int .u8 0, .slice none 0 0, .map none]).flatten ++ post64)) :: L64) P64 w') ?_ ?_
              · refine cI (by rfl) (fun hc=>?_) (fun hc=>?_)
                · ((conv=>whnf);repeat((first|refine mvT ?_|refine mvF ?_|refine yT ?_|refine yF ?_);conv=>whnf))
                  refine Does.mono H.txc ?_
                  rintro r w ⟨u, s', rfl, hr, H⟩
                  ((conv=>whnf);repeat((first|refine mvT ?_|refine mvF ?_|refine yT ?_|refine yF ?_);conv=>whnf))
                  exact ⟨(u, s'), ⟨rfl, rfl, rfl, rfl, rfl, rfl, rfl, rfl, rfl, rfl, rfl, rfl, trivial⟩, by rw [hc]; exact hr, H⟩
                · ((conv=>whnf);repeat((first|refine mvT ?_|refine mvF ?_|refine yT ?_|refine yF ?_);conv=>whnf))
                  refine Does.mono H.txp ?_
                  rintro r w ⟨u, s', rfl, hr, H⟩
                  ((conv=>whnf);repeat((first|refine mvT ?_|refine mvF ?_|refine yT ?_|refine yF ?_);conv=>whnf))
                  exact ⟨(u, s'), ⟨rfl, rfl, rfl, rfl, rfl, rfl, rfl, rfl, rfl, rfl, rfl, rfl, trivial⟩, by rw [hc]; exact hr, H⟩
              clear H
              rintro ⟨u66, s66⟩ w ⟨hr66, H⟩
              dsimp only at hr66 H
              ((conv=>whnf);repeat((first|refine mvT ?_|refine mvF ?_|refine yT ?_|refine yF ?_);conv=>whnf))
              refine H.st1 (v := str u66) 0 (rfl) (rfl) rfl (by first | omega | (simp [hlen1]; done) | (simp [hlen1]; omega)) rfl (Nat.lt_of_lt_of_le (Nat.lt_succ_self _) (Nat.le_of_ble_eq_true rfl)) ?_
              intro w H
              ((conv=>whnf);repeat((first|refine mvT ?_|refine mvF ?_|refine yT ?_|refine yF ?_);conv=>whnf))
              replace H : St w0 G0 p pb s66 ((g64, 123, es64.flatten ++ [str u66, .int .u8 0, .int .u8 0, .int .u8 0, .int .u8 0, .int .u8 0, .int .u8 0, .int .u8 0, .int .u8 0, .int .u8 0, .int .u8 0, .int .u8 0, .int .u8 0, .int .u8 0, .int .u8 0, .int .u8 0, .int .u8 0, .slice none 0 0, .map none] ++ ((List.replicate (n64.toNat - (i64 + 1)) [str [], .int .u8 0, .int .u8 0, .int .u8 0, .int .u8 0, .int .u8 0, .int .u8 0, .int .u8 0, .int .u8 0, .int .u8 0, .int .u8 0, .int .u8 0, .int .u8 0, .int .u8 0, .int .u8 0, .int .u8 0, .int .u8 0, .slice none 0 0, .map none]).flatten ++ post64)) :: L64) P64 w := H
              have hh : hasF (.mk 8 7 12 (-1) (-1) 0 0 []) v = true := by have := of_decide_eq_true hcv; have := of_decide_eq_true hcq; rw [hasF_iff]; omega
              exact ⟨(u66, s66), ⟨rfl, rfl, rfl, rfl, rfl, rfl, rfl, rfl, rfl, rfl, rfl, trivial⟩, by rw [if_pos hh]; exact (rdField8 (by decide) hr66), H⟩
            · ((conv=>whnf);repeat((first|refine mvT ?_|refine mvF ?_|refine yT ?_|refine yF ?_);conv=>whnf))
              have hh : ¬ hasF (.mk 8 7 12 (-1) (-1) 0 0 []) v = true := by have := of_decide_eq_false hcv; rw [hasF_iff]; omega
              exact ⟨([], si64), ⟨rfl, rfl, rfl, rfl, rfl, rfl, rfl, rfl, rfl, rfl, rfl, trivial⟩, by rw [if_neg hh]; rfl, H⟩
        clear H
        rintro ⟨u65, s65⟩ w ⟨hr65, H⟩
        dsimp only at hr65 H
        ((conv=>whnf);repeat((first|refine mvT ?_|refine mvF ?_|refine yT ?_|refine yF ?_);conv=>whnf))
        replace H : St w0 G0 p pb s65 ((g64, 123, es64.flatten ++ [str u65, .int .u8 0, .int .u8 0, .int .u8 0, .int .u8 0, .int .u8 0, .int .u8 0, .int .u8 0, .int .u8 0, .int .u8 0, .int .u8 0, .int .u8 0, .int .u8 0, .int .u8 0, .int .u8 0, .int .u8 0, .int .u8 0, .slice none 0 0, .map none] ++ ((List.replicate (n64.toNat - (i64 + 1)) [str [], .int .u8 0, .int .u8 0, .int .u8 0, .int .u8 0, .int .u8 0, .int .u8 0, .int .u8 0, .int .u8 0, .int .u8 0, .int .u8 0, .int .u8 0, .int .u8 0, .int .u8 0, .int .u8 0, .int .u8 0, .int .u8 0, .slice none 0 0, .map none]).flatten ++ post64)) :: L64) P64 w := H
        refine VC.cutE (fun q : List UInt8 × Rd => [(0, .pointer (some ⟨p, 0, none⟩)), (2, .bool false), (7, .pointer (some ⟨pb, 0, none⟩)), (8, .int .i16 v), (9, .bool fx), (10, .pointer (some ⟨p, 0, none⟩)), (48, .int .i32 n64), (47, .slice (some ⟨g64, 0, none⟩) n64.toNat cap64), (49, .int .i32 i64), (50, .pointer (some ⟨g64, 0 + (i64 : Int).toNat * 19, none⟩)), (51, .pointer (some ⟨g64, 0 + (i64 : Int).toNat * 19, none⟩))]) (fun q w' => q.1.length = 16 ∧ (if hasF (.mk 7 13 (-1) (-1) (-1) 0 0 []) v = true then rdField 8 v fx (.mk 7 13 (-1) (-1) (-1) 0 0 []) s65 else (dfT 8 (.mk 7 13 (-1) (-1) (-1) 0 0 []), s65)) = (.mk 0 q.1 false [] [], q.2) ∧ St w0 G0 p pb q.2 ((g64, 123, es64.flatten ++ ([str u65] ++ (q.1.map bcell ++ [.slice none 0 0, .map none])) ++ ((List.replicate (n64.toNat - (i64 + 1)) [str [], .int .u8 0, .int .u8 0, .int .u8 0, .int .u8 0, .int .u8 0, .int .u8 0, .int .u8 0, .int .u8 0, .int .u8 0, .int .u8 0, .int .u8 0, .int .u8 0, .int .u8 0, .int .u8 0, .int .u8 0, .int .u8 0, .slice none 0 0, .map none]).flatten ++ post64)) :: L64) P64 w') ?_ ?_
        · refine cI (by rfl) (fun hcv=>?_) (fun hcv=>?_)
          · ((conv=>whnf);repeat((first|refine mvT ?_|refine mvF ?_|refine yT ?_|refine yF ?_);conv=>whnf))
            refine Does.mono H.uuid ?_
            rintro r w ⟨u69, s69, rfl, hu69, hr69, H⟩
            ((conv=>whnf);repeat((first|refine mvT ?_|refine mvF ?_|refine yT ?_|refine yF ?_);conv=>whnf))
            obtain ⟨u69_0, u69_1, u69_2, u69_3, u69_4, u69_5, u69_6, u69_7, u69_8, u69_9, u69_10, u69_11, u69_12, u69_13, u69_14, u69_15, rfl⟩ : ∃ u69_0 u69_1 u69_2 u69_3 u69_4 u69_5 u69_6 u69_7 u69_8 u69_9 u69_10 u69_11 u69_12 u69_13 u69_14 u69_15, u69 = [u69_0, u69_1, u69_2, u69_3, u69_4, u69_5, u69_6, u69_7, u69_8, u69_9, u69_10, u69_11, u69_12, u69_13, u69_14, u69_15] := by
              match u69, hu69 with
              | [u69_0, u69_1, u69_2, u69_3, u69_4, u69_5, u69_6, u69_7, u69_8, u69_9, u69_10, u69_11, u69_12, u69_13, u69_14, u69_15], _ => exact ⟨u69_0, u69_1, u69_2, u69_3, u69_4, u69_5, u69_6, u69_7, u69_8, u69_9, u69_10, u69_11, u69_12, u69_13, u69_14, u69_15, rfl⟩
            intro bu wu hbu hou hxu
            ((conv=>whnf);repeat((first|refine mvT ?_|refine mvF ?_|refine yT ?_|refine yF ?_);conv=>whnf))
            refine st_all [bcell u69_0, bcell u69_1, bcell u69_2, bcell u69_3, bcell u69_4, bcell u69_5, bcell u69_6, bcell u69_7, bcell u69_8, bcell u69_9, bcell u69_10, bcell u69_11, bcell u69_12, bcell u69_13, bcell u69_14, bcell u69_15] hou rfl rfl rfl ?_
            intro w2 hou hxs
            ((conv=>whnf);repeat((first|refine mvT ?_|refine mvF ?_|refine yT ?_|refine yF ?_);conv=>whnf))
            replace H := H.e0 (hxu.trans hxs (M := nob) fun k hk e => by omega)
            refine ⟨_, rfl, hou.cells, ?_⟩
            ((conv=>whnf);repeat((first|refine mvT ?_|refine mvF ?_|refine yT ?_|refine yF ?_);conv=>whnf))
            refine H.stn [bcell u69_0, bcell u69_1, bcell u69_2, bcell u69_3, bcell u69_4, bcell u69_5, bcell u69_6, bcell u69_7, bcell u69_8, bcell u69_9, bcell u69_10, bcell u69_11, bcell u69_12, bcell u69_13, bcell u69_14, bcell u69_15] 1 rfl rfl rfl (by first | omega | (simp [hlen1]; done) | (simp [hlen1]; omega)) rfl (Nat.le_of_ble_eq_true rfl) ?_
            intro w H
            ((conv=>whnf);repeat((first|refine mvT ?_|refine mvF ?_|refine yT ?_|refine yF ?_);conv=>whnf))
            replace H : St w0 G0 p pb s69 ((g64, 123, es64.flatten ++ [str u65, bcell u69_0, bcell u69_1, bcell u69_2, bcell u69_3, bcell u69_4, bcell u69_5, bcell u69_6, bcell u69_7, bcell u69_8, bcell u69_9, bcell u69_10, bcell u69_11, bcell u69_12, bcell u69_13, bcell u69_14, bcell u69_15, .slice none 0 0, .map none] ++ ((List.replicate (n64.toNat - (i64 + 1)) [str [], .int .u8 0, .int .u8 0, .int .u8 0, .int .u8 0, .int .u8 0, .int .u8 0, .int .u8 0, .int .u8 0, .int .u8 0, .int .u8 0, .int .u8 0, .int .u8 0, .int .u8 0, .int .u8 0, .int .u8 0, .int .u8 0, .slice none 0 0, .map none]).flatten ++ post64)) :: L64) P64 w := H
            have hh : hasF (.mk 7 13 (-1) (-1) (-1) 0 0 []) v = true := by have := of_decide_eq_true hcv; rw [hasF_iff]; omega
            exact ⟨([u69_0, u69_1, u69_2, u69_3, u69_4, u69_5, u69_6, u69_7, u69_8, u69_9, u69_10, u69_11, u69_12, u69_13, u69_14, u69_15], s69), ⟨rfl, rfl, rfl, rfl, rfl, rfl, rfl, rfl, rfl, rfl, rfl, trivial⟩, rfl, by rw [if_pos hh]; exact (rdField7.trans hr69), H⟩
          · ((conv=>whnf);repeat((first|refine mvT ?_|refine mvF ?_|refine yT ?_|refine yF ?_);conv=>whnf))
            have hh : ¬ hasF (.mk 7 13 (-1) (-1) (-1) 0 0 []) v = true := by have := of_decide_eq_false hcv; rw [hasF_iff]; omega
            exact ⟨(List.replicate 16 0, s65), ⟨rfl, rfl, rfl, rfl, rfl, rfl, rfl, rfl, rfl, rfl, rfl, trivial⟩, rfl, by rw [if_neg hh]; rfl, H⟩
        clear H
        rintro ⟨u68, s68⟩ w ⟨hu68, hr68, H⟩
        dsimp only at hu68 hr68 H
        obtain ⟨u68_0, u68_1, u68_2, u68_3, u68_4, u68_5, u68_6, u68_7, u68_8, u68_9, u68_10, u68_11, u68_12, u68_13, u68_14, u68_15, rfl⟩ : ∃ u68_0 u68_1 u68_2 u68_3 u68_4 u68_5 u68_6 u68_7 u68_8 u68_9 u68_10 u68_11 u68_12 u68_13 u68_14 u68_15, u68 = [u68_0, u68_1, u68_2, u68_3, u68_4, u68_5, u68_6, u68_7, u68_8, u68_9, u68_10, u68_11, u68_12, u68_13, u68_14, u68_15] := by
          match u68, hu68 with
          | [u68_0, u68_1, u68_2, u68_3, u68_4, u68_5, u68_6, u68_7, u68_8, u68_9, u68_10, u68_11, u68_12, u68_13, u68_14, u68_15], _ => exact ⟨u68_0, u68_1, u68_2, u68_3, u68_4, u68_5, u68_6, u68_7, u68_8, u68_9, u68_10, u68_11, u68_12, u68_13, u68_14, u68_15, rfl⟩
        ((conv=>whnf);repeat((first|refine mvT ?_|refine mvF ?_|refine yT ?_|refine yF ?_);conv=>whnf))
        replace H : St w0 G0 p pb s68 ((g64, 123, es64.flatten ++ [str u65, bcell u68_0, bcell u68_1, bcell u68_2, bcell u68_3, bcell u68_4, bcell u68_5, bcell u68_6, bcell u68_7, bcell u68_8, bcell u68_9, bcell u68_10, bcell u68_11, bcell u68_12, bcell u68_13, bcell u68_14, bcell u68_15, .slice none 0 0, .map none] ++ ((List.replicate (n64.toNat - (i64 + 1)) [str [], .int .u8 0, .int .u8 0, .int .u8 0, .int .u8 0, .int .u8 0, .int .u8 0, .int .u8 0, .int .u8 0, .int .u8 0, .int .u8 0, .int .u8 0, .int .u8 0, .int .u8 0, .int .u8 0, .int .u8 0, .int .u8 0, .slice none 0 0, .map none]).flatten ++ post64)) :: L64) P64 w := H
        refine ⟨_, ld (H.cell rfl (k := 17) rfl) (by first | omega | (simp [hlen1]; done) | (simp [hlen1]; omega)), ?_⟩; ((conv=>whnf);repeat((first|refine mvT ?_|refine mvF ?_|refine yT ?_|refine yF ?_);conv=>whnf))
        (refine mvB ?_;((conv=>whnf);repeat((first|refine mvT ?_|refine mvF ?_|refine yT ?_|refine yF ?_);conv=>whnf)))
        refine VC.cutE (fun q : Int × Rd => [(56, .int .i32 q.1), (55, .slice none 0 0), (0, .pointer (some ⟨p, 0, none⟩)), (2, .bool false), (7, .pointer (some ⟨pb, 0, none⟩)), (8, .int .i16 v), (9, .bool fx), (10, .pointer (some ⟨p, 0, none⟩)), (48, .int .i32 n64), (47, .slice (some ⟨g64, 0, none⟩) n64.toNat cap64), (49, .int .i32 i64), (50, .pointer (some ⟨g64, 0 + (i64 : Int).toNat * 19, none⟩)), (51, .pointer (some ⟨g64, 0 + (i64 : Int).toNat * 19, none⟩))]) (fun q w' => (-2147483648 ≤ q.1 ∧ q.1 ≤ 2147483647) ∧ rdLn fx s68 = q ∧ St w0 G0 p pb q.2 ((g64, 123, es64.flatten ++ [str u65, bcell u68_0, bcell u68_1, bcell u68_2, bcell u68_3, bcell u68_4, bcell u68_5, bcell u68_6, bcell u68_7, bcell u68_8, bcell u68_9, bcell u68_10, bcell u68_11, bcell u68_12, bcell u68_13, bcell u68_14, bcell u68_15, .slice none 0 0, .map none] ++ ((List.replicate (n64.toNat - (i64 + 1)) [str [], .int .u8 0, .int .u8 0, .int .u8 0, .int .u8 0, .int .u8 0, .int .u8 0, .int .u8 0, .int .u8 0, .int .u8 0, .int .u8 0, .int .u8 0, .int .u8 0, .int .u8 0, .int .u8 0, .int .u8 0, .int .u8 0, .slice none 0 0, .map none]).flatten ++ post64)) :: L64) P64 w') ?_ ?_
        · refine cI (by rfl) (fun hc=>?_) (fun hc=>?_)
          · ((conv=>whnf);repeat((first|refine mvT ?_|refine mvF ?_|refine yT ?_|refine yF ?_);conv=>whnf))
            refine Does.mono H.lnc ?_
            rintro r w ⟨n, s', rfl, hn, hr, H⟩
            ((conv=>whnf);repeat((first|refine mvT ?_|refine mvF ?_|refine yT ?_|refine yF ?_);conv=>whnf))
            exact ⟨(n, s'), ⟨rfl, rfl, rfl, rfl, rfl, rfl, rfl, rfl, rfl, rfl, rfl, rfl, rfl, trivial⟩, hn, by rw [hc]; exact hr, H⟩
          · ((conv=>whnf);repeat((first|refine mvT ?_|refine mvF ?_|refine yT ?_|refine yF ?_);conv=>whnf))
            refine Does.mono H.lnp ?_
            rintro r w ⟨n, s', rfl, hn, hr, H⟩
            ((conv=>whnf);repeat((first|refine mvT ?_|refine mvF ?_|refine yT ?_|refine yF ?_);conv=>whnf))
            exact ⟨(n, s'), ⟨rfl, rfl, rfl, rfl, rfl, rfl, rfl, rfl, rfl, rfl, rfl, rfl, rfl, trivial⟩, hn, by rw [hc]; exact hr, H⟩
        clear H
        rintro ⟨n72, s72⟩ w ⟨hn72, hln72, H⟩
        dsimp only at hn72 hln72 H
        ((conv=>whnf);repeat((first|refine mvT ?_|refine mvF ?_|refine yT ?_|refine yF ?_);conv=>whnf))
        refine Does.mono H.ok ?_
        rintro r w ⟨rfl, H⟩
        ((conv=>whnf);repeat((first|refine mvT ?_|refine mvF ?_|refine yT ?_|refine yF ?_);conv=>whnf))
        refine cI (by rfl) (fun hbd=>?_) (fun hbd=>?_)
        · have hbd : s72.2 = true := by simpa using hbd
          ((conv=>whnf);repeat((first|refine mvT ?_|refine mvF ?_|refine yT ?_|refine yF ?_);conv=>whnf))
          refine Does.mono (H.done hL hp1) ?_
          rintro r w ⟨rfl, H⟩
          ((conv=>whnf);repeat((first|refine mvT ?_|refine mvF ?_|refine yT ?_|refine yF ?_);conv=>whnf))
          refine RdPost.early hbd (hup64 (?_)) H
          rw [tail_ver hr65 (by decide), tail_ver hr68 (by decide), tail_len ⟨by decide, has_all hv⟩ hln72 hbd]
        have hbd : s72.2 = false := by simpa using hbd
        clear hbd
        ((conv=>whnf);repeat((first|refine mvT ?_|refine mvF ?_|refine yT ?_|refine yF ?_);conv=>whnf))
        refine cut_zero ?_
        ((conv=>whnf);repeat((first|refine mvT ?_|refine mvF ?_|refine yT ?_|refine yF ?_);conv=>whnf))
        refine VC.cutE (fun a : Value => [(56, .int .i32 n72), (55, a), (0, .pointer (some ⟨p, 0, none⟩)), (2, .bool false), (7, .pointer (some ⟨pb, 0, none⟩)), (8, .int .i16 v), (9, .bool fx), (10, .pointer (some ⟨p, 0, none⟩)), (48, .int .i32 n64), (47, .slice (some ⟨g64, 0, none⟩) n64.toNat cap64), (49, .int .i32 i64), (50, .pointer (some ⟨g64, 0 + (i64 : Int).toNat * 19, none⟩)), (51, .pointer (some ⟨g64, 0 + (i64 : Int).toNat * 19, none⟩))]) (fun a w' => ListI w0 G0 p pb 21 [.int .i32 0] (elR 7 v fx 3 []) (elQ true 7 3 []) s72 n72 (decide (n72 ≤ 0)) ((g64, 123, es64.flatten ++ [str u65, bcell u68_0, bcell u68_1, bcell u68_2, bcell u68_3, bcell u68_4, bcell u68_5, bcell u68_6, bcell u68_7, bcell u68_8, bcell u68_9, bcell u68_10, bcell u68_11, bcell u68_12, bcell u68_13, bcell u68_14, bcell u68_15, .slice none 0 0, .map none] ++ ((List.replicate (n64.toNat - (i64 + 1)) [str [], .int .u8 0, .int .u8 0, .int .u8 0, .int .u8 0, .int .u8 0, .int .u8 0, .int .u8 0, .int .u8 0, .int .u8 0, .int .u8 0, .int .u8 0, .int .u8 0, .int .u8 0, .int .u8 0, .int .u8 0, .int .u8 0, .slice none 0 0, .map none]).flatten ++ post64)) :: L64) P64 a 0 w') ?_ ?_
        · refine cI (by rfl) (fun hps=>?_) (fun hps=>?_)
          · have hps : 0 < n72 := by have := of_decide_eq_true hps; omega
            ((conv=>whnf);repeat((first|refine mvT ?_|refine mvF ?_|refine yT ?_|refine yF ?_);conv=>whnf))
            refine H.grow hps hn72.2 (by decide) rfl rfl (by decide) ?_
            intro g cap post w hc1 hc2 H
            ((conv=>whnf);repeat((first|refine mvT ?_|refine mvF ?_|refine yT ?_|refine yF ?_);conv=>whnf))
            exact ⟨_, ⟨rfl, rfl, rfl, rfl, rfl, rfl, rfl, rfl, rfl, rfl, rfl, rfl, rfl, trivial⟩, ListI.some hps (decide_eq_false (by omega)) hc1 hc2 H⟩
          · have hps : n72 ≤ 0 := by have := of_decide_eq_false hps; omega
            ((conv=>whnf);repeat((first|refine mvT ?_|refine mvF ?_|refine yT ?_|refine yF ?_);conv=>whnf))
            exact ⟨_, ⟨rfl, rfl, rfl, rfl, rfl, rfl, rfl, rfl, rfl, rfl, rfl, rfl, rfl, trivial⟩, ListI.none hps (decide_eq_true hps) H⟩
        clear H
        rintro a72 w H
        ((conv=>whnf);repeat((first|refine mvT ?_|refine mvF ?_|refine yT ?_|refine yF ?_);conv=>whnf))
        have hpL72 : inL ((g64, 123, es64.flatten ++ [str u65, bcell u68_0, bcell u68_1, bcell u68_2, bcell u68_3, bcell u68_4, bcell u68_5, bcell u68_6, bcell u68_7, bcell u68_8, bcell u68_9, bcell u68_10, bcell u68_11, bcell u68_12, bcell u68_13, bcell u68_14, bcell u68_15, .slice none 0 0, .map none] ++ ((List.replicate (n64.toNat - (i64 + 1)) [str [], .int .u8 0, .int .u8 0, .int .u8 0, .int .u8 0, .int .u8 0, .int .u8 0, .int .u8 0, .int .u8 0, .int .u8 0, .int .u8 0, .int .u8 0, .int .u8 0, .int .u8 0, .int .u8 0, .int .u8 0, .int .u8 0, .slice none 0 0, .map none]).flatten ++ post64)) :: L64) p := inL.tail hpL64
        refine VL.loop (fun i : Nat => [(56, .int .i32 n72), (55, a72), (57, .int .i32 i), (0, .pointer (some ⟨p, 0, none⟩)), (2, .bool false), (7, .pointer (some ⟨pb, 0, none⟩)), (8, .int .i16 v), (9, .bool fx), (10, .pointer (some ⟨p, 0, none⟩)), (48, .int .i32 n64), (47, .slice (some ⟨g64, 0, none⟩) n64.toNat cap64), (49, .int .i32 i64), (50, .pointer (some ⟨g64, 0 + (i64 : Int).toNat * 19, none⟩)), (51, .pointer (some ⟨g64, 0 + (i64 : Int).toNat * 19, none⟩))]) (fun i w' => i ≤ 2147483647 ∧ ListI w0 G0 p pb 21 [.int .i32 0] (elR 7 v fx 3 []) (elQ true 7 3 []) s72 n72 (decide (n72 ≤ 0)) ((g64, 123, es64.flatten ++ [str u65, bcell u68_0, bcell u68_1, bcell u68_2, bcell u68_3, bcell u68_4, bcell u68_5, bcell u68_6, bcell u68_7, bcell u68_8, bcell u68_9, bcell u68_10, bcell u68_11, bcell u68_12, bcell u68_13, bcell u68_14, bcell u68_15, .slice none 0 0, .map none] ++ ((List.replicate (n64.toNat - (i64 + 1)) [str [], .int .u8 0, .int .u8 0, .int .u8 0, .int .u8 0, .int .u8 0, .int .u8 0, .int .u8 0, .int .u8 0, .int .u8 0, .int .u8 0, .int .u8 0, .int .u8 0, .int .u8 0, .int .u8 0, .int .u8 0, .int .u8 0, .slice none 0 0, .map none]).flatten ++ post64)) :: L64) P64 a72 i w') (fun i => n72.toNat - i) 0 ⟨rfl, rfl, rfl, rfl, rfl, rfl, rfl, rfl, rfl, rfl, rfl, rfl, rfl, rfl, trivial⟩ ⟨by decide, H⟩ ?_
        clear H
        rintro i72 w ⟨hi72, H⟩
        ((conv=>whnf);repeat((first|refine mvT ?_|refine mvF ?_|refine yT ?_|refine yF ?_);conv=>whnf))
        refine cI (by rfl) (fun h9=>?_) (fun h9=>?_)
        · have hlt72 : (i72 : Int) < n72 := of_decide_eq_true h9
          obtain ⟨g72, cap72, post72, rfl, hgo72, HI⟩ := H.go hlt72
          obtain ⟨es72, ts72, si72, hes72, hez72, hrn72, hts72, hlen2, H⟩ := HI.open hgo72.2.2.2.2
          obtain ⟨L72, hL72⟩ : ∃ L : List Ob, L = ((g64, 123, es64.flatten ++ [str u65, bcell u68_0, bcell u68_1, bcell u68_2, bcell u68_3, bcell u68_4, bcell u68_5, bcell u68_6, bcell u68_7, bcell u68_8, bcell u68_9, bcell u68_10, bcell u68_11, bcell u68_12, bcell u68_13, bcell u68_14, bcell u68_15, .slice none 0 0, .map none] ++ ((List.replicate (n64.toNat - (i64 + 1)) [str [], .int .u8 0, .int .u8 0, .int .u8 0, .int .u8 0, .int .u8 0, .int .u8 0, .int .u8 0, .int .u8 0, .int .u8 0, .int .u8 0, .int .u8 0, .int .u8 0, .int .u8 0, .int .u8 0, .int .u8 0, .int .u8 0, .slice none 0 0, .map none]).flatten ++ post64)) :: L64) := ⟨_, rfl⟩
          rw [← hL72] at H hpL72
          obtain ⟨P72, hP72⟩ : ∃ P : World → Prop, P = fun w => (∀ (j : Nat) (c : List Value) (y : T), es72[j]? = some c → ts72[j]? = some y → elQ true 7 3 [] ⟨w, FG w0 G0⟩ c y) ∧ P64 w := ⟨_, rfl⟩
          rw [← hP72] at H
          replace H : St w0 G0 p pb si72 ((g72, 21, es72.flatten ++ [.int .i32 0] ++ ((List.replicate (n72.toNat - (i72 + 1)) [.int .i32 0]).flatten ++ post72)) :: L72) P72 w := H
          ((conv=>whnf);repeat((first|refine mvT ?_|refine mvF ?_|refine yT ?_|refine yF ?_);conv=>whnf))
          refine Does.mono H.int32 ?_
          rintro r w ⟨n73, s73, rfl, hn73, hr73, H⟩
          ((conv=>whnf);repeat((first|refine mvT ?_|refine mvF ?_|refine yT ?_|refine yF ?_);conv=>whnf))
          refine ⟨g72, 0, rfl, ⟨by omega, by omega⟩, ?_⟩
          ((conv=>whnf);repeat((first|refine mvT ?_|refine mvF ?_|refine yT ?_|refine yF ?_);conv=>whnf))
          refine H.st1 (v := .int .i32 n73) 0 (rfl) (rfl) rfl (by first | omega | (simp [hlen2]; done) | (simp [hlen2]; omega)) rfl (Nat.lt_of_lt_of_le (Nat.lt_succ_self _) (Nat.le_of_ble_eq_true rfl)) ?_
          intro w H
          ((conv=>whnf);repeat((first|refine mvT ?_|refine mvF ?_|refine yT ?_|refine yF ?_);conv=>whnf))
          replace H : St w0 G0 p pb s73 ((g72, 21, es72.flatten ++ [.int .i32 n73] ++ ((List.replicate (n72.toNat - (i72 + 1)) [.int .i32 0]).flatten ++ post72)) :: L72) P72 w := H
          refine ⟨i72 + 1, ⟨rfl, rfl, ?_, rfl, rfl, rfl, rfl, rfl, rfl, rfl, rfl, rfl, rfl, rfl, trivial⟩, ⟨by omega, ListI.back hgo72 (LoopI.next hes72 hez72 hrn72 hts72 (cur := [.int .i32 n73]) (x := numT n73) (hr73) rfl (by rw [← hL72]; exact H) fun w hP => ?_)⟩, by omega⟩
          · show some (Value.int .i32 _) = _
            rw [IntKind.wrap_i32]
            simp only [Option.some.injEq, Value.int.injEq, true_and]
            omega
          · skip
            rw [hP72] at hP
            exact ⟨⟨_, hn73, rfl, rfl⟩, hP⟩
        have hge72 : ¬ (i72 : Int) < n72 := of_decide_eq_false h9
        obtain ⟨l74, s74, hone74, hl74, hr74, H⟩ := H.done hge72 hln72 (nl := nlF (.mk 11 0 (-1) (-1) (-1) 0 3 []) v) (sz := elZ true 7 3 []) rfl hpL72 rfl
        ((conv=>whnf);repeat((first|refine mvT ?_|refine mvF ?_|refine yT ?_|refine yF ?_);conv=>whnf))
        obtain ⟨P75, hP75⟩ : ∃ P : World → Prop, P = fun w => ListR true (elZ true 7 3 []) (elQ true 7 3 [] ⟨w, FG w0 G0⟩) w (FG w0 G0) a72 (.mk 0 [] (decide (n72 ≤ 0)) l74 []) ∧ P64 w := ⟨_, rfl⟩
        replace H : St w0 G0 p pb s74 ((g64, 123, es64.flatten ++ [str u65, bcell u68_0, bcell u68_1, bcell u68_2, bcell u68_3, bcell u68_4, bcell u68_5, bcell u68_6, bcell u68_7, bcell u68_8, bcell u68_9, bcell u68_10, bcell u68_11, bcell u68_12, bcell u68_13, bcell u68_14, bcell u68_15, .slice none 0 0, .map none] ++ ((List.replicate (n64.toNat - (i64 + 1)) [str [], .int .u8 0, .int .u8 0, .int .u8 0, .int .u8 0, .int .u8 0, .int .u8 0, .int .u8 0, .int .u8 0, .int .u8 0, .int .u8 0, .int .u8 0, .int .u8 0, .int .u8 0, .int .u8 0, .int .u8 0, .int .u8 0, .slice none 0 0, .map none]).flatten ++ post64)) :: L64) P75 w := by rw [hP75]; exact H
        refine H.st1 (v := a72) 17 (cells_one hone74) (hone74) rfl (by first | omega | (simp [hlen1]; done) | (simp [hlen1]; omega)) rfl (Nat.lt_of_lt_of_le (Nat.lt_succ_self _) (Nat.le_of_ble_eq_true rfl)) ?_
        intro w H
        ((conv=>whnf);repeat((first|refine mvT ?_|refine mvF ?_|refine yT ?_|refine yF ?_);conv=>whnf))
        replace H : St w0 G0 p pb s74 ((g64, 123, es64.flatten ++ [str u65, bcell u68_0, bcell u68_1, bcell u68_2, bcell u68_3, bcell u68_4, bcell u68_5, bcell u68_6, bcell u68_7, bcell u68_8, bcell u68_9, bcell u68_10, bcell u68_11, bcell u68_12, bcell u68_13, bcell u68_14, bcell u68_15, a72, .map none] ++ ((List.replicate (n64.toNat - (i64 + 1)) [str [], .int .u8 0, .int .u8 0, .int .u8 0, .int .u8 0, .int .u8 0, .int .u8 0, .int .u8 0, .int .u8 0, .int .u8 0, .int .u8 0, .int .u8 0, .int .u8 0, .int .u8 0, .int .u8 0, .int .u8 0, .int .u8 0, .slice none 0 0, .map none]).flatten ++ post64)) :: L64) P75 w := H
        (refine mvB ?_;((conv=>whnf);repeat((first|refine mvT ?_|refine mvF ?_|refine yT ?_|refine yF ?_);conv=>whnf)))
        refine VC.cutB (fun q : Value × List Tg × Rd => [(0, .pointer (some ⟨p, 0, none⟩)), (2, .bool false), (7, .pointer (some ⟨pb, 0, none⟩)), (8, .int .i16 v), (9, .bool fx), (10, .pointer (some ⟨p, 0, none⟩)), (48, .int .i32 n64), (47, .slice (some ⟨g64, 0, none⟩) n64.toNat cap64), (49, .int .i32 i64), (50, .pointer (some ⟨g64, 0 + (i64 : Int).toNat * 19, none⟩)), (51, .pointer (some ⟨g64, 0 + (i64 : Int).toNat * 19, none⟩))]) (fun q w' => rdTagsF fx s74 = q.2 ∧ St w0 G0 p pb q.2.2 ((g64, 123, es64.flatten ++ [str u65, bcell u68_0, bcell u68_1, bcell u68_2, bcell u68_3, bcell u68_4, bcell u68_5, bcell u68_6, bcell u68_7, bcell u68_8, bcell u68_9, bcell u68_10, bcell u68_11, bcell u68_12, bcell u68_13, bcell u68_14, bcell u68_15, a72, q.1] ++ ((List.replicate (n64.toNat - (i64 + 1)) [str [], .int .u8 0, .int .u8 0, .int .u8 0, .int .u8 0, .int .u8 0, .int .u8 0, .int .u8 0, .int .u8 0, .int .u8 0, .int .u8 0, .int .u8 0, .int .u8 0, .int .u8 0, .int .u8 0, .int .u8 0, .int .u8 0, .slice none 0 0, .map none]).flatten ++ post64)) :: L64) (fun w => TGf w0 G0 q.1 q.2.1 w ∧ P75 w) w') ?_ ?_
        · refine cI (by rfl) (fun hc=>?_) (fun hc=>?_)
          · ((conv=>whnf);repeat((first|refine mvT ?_|refine mvF ?_|refine yT ?_|refine yF ?_);conv=>whnf))
            refine Does.mono H.tags ?_
            rintro r w ⟨m, u, s', rfl, hone, hr, H⟩
            ((conv=>whnf);repeat((first|refine mvT ?_|refine mvF ?_|refine yT ?_|refine yF ?_);conv=>whnf))
            refine H.st1 (v := m) 18 (rfl) (hone) rfl (by first | omega | (simp [hlen1]; done) | (simp [hlen1]; omega)) rfl (Nat.lt_of_lt_of_le (Nat.lt_succ_self _) (Nat.le_of_ble_eq_true rfl)) ?_
            intro w H
            ((conv=>whnf);repeat((first|refine mvT ?_|refine mvF ?_|refine yT ?_|refine yF ?_);conv=>whnf))
            exact ⟨(m, u, s'), ⟨rfl, rfl, rfl, rfl, rfl, rfl, rfl, rfl, rfl, rfl, rfl, trivial⟩, by rw [rdTagsF, if_pos hc]; exact hr, H⟩
          · ((conv=>whnf);repeat((first|refine mvT ?_|refine mvF ?_|refine yT ?_|refine yF ?_);conv=>whnf))
            exact ⟨(.map none, [], s74), ⟨rfl, rfl, rfl, rfl, rfl, rfl, rfl, rfl, rfl, rfl, rfl, trivial⟩, by rw [rdTagsF, if_neg (by rw [hc]; decide)], H.add fun w' _ => TagsR.nil _ _⟩
        clear H
        rintro ⟨m77, u77, s77⟩ w ⟨htg, H⟩
        dsimp only at htg H
        ((conv=>whnf);repeat((first|refine mvT ?_|refine mvF ?_|refine yT ?_|refine yF ?_);conv=>whnf))
        obtain ⟨P78, hP78⟩ : ∃ P : World → Prop, P = fun w => TGf w0 G0 m77 u77 w ∧ P75 w := ⟨_, rfl⟩
        replace H : St w0 G0 p pb s77 ((g64, 123, es64.flatten ++ [str u65, bcell u68_0, bcell u68_1, bcell u68_2, bcell u68_3, bcell u68_4, bcell u68_5, bcell u68_6, bcell u68_7, bcell u68_8, bcell u68_9, bcell u68_10, bcell u68_11, bcell u68_12, bcell u68_13, bcell u68_14, bcell u68_15, a72, m77] ++ ((List.replicate (n64.toNat - (i64 + 1)) [str [], .int .u8 0, .int .u8 0, .int .u8 0, .int .u8 0, .int .u8 0, .int .u8 0, .int .u8 0, .int .u8 0, .int .u8 0, .int .u8 0, .int .u8 0, .int .u8 0, .int .u8 0, .int .u8 0, .int .u8 0, .int .u8 0, .slice none 0 0, .map none]).flatten ++ post64)) :: L64) P78 w := by rw [hP78]; exact H
        have hpart : rdPart 8 v fx dFetchRequestForgottenTopic si64 = (.mk 0 [] false [.mk 0 u65 false [] [], .mk 0 [u68_0, u68_1, u68_2, u68_3, u68_4, u68_5, u68_6, u68_7, u68_8, u68_9, u68_10, u68_11, u68_12, u68_13, u68_14, u68_15] false [] [], .mk 0 [] (decide (n72 ≤ 0)) l74 []] u77, s77) := by
          unfold rdPart rdPartW
          rw [rdTail_plain (by decide)]
          rw [rdAll_ver hr65 (by decide), rdAll_ver hr68 (by decide), rdAll_yes (df := dfT 8) ((rdField_list _ _ _ _ _ _ _ _ _ _ _).trans hr74) ⟨by decide, has_all hv⟩]
          simp only [rdAll]
          rw [htg]
        refine ⟨i64 + 1, ⟨rfl, rfl, ?_, rfl, rfl, rfl, rfl, rfl, rfl, trivial⟩, ⟨by omega, ListI.back hgo64 (LoopI.next hes64 hez64 hrn64 hts64 (cur := [str u65, bcell u68_0, bcell u68_1, bcell u68_2, bcell u68_3, bcell u68_4, bcell u68_5, bcell u68_6, bcell u68_7, bcell u68_8, bcell u68_9, bcell u68_10, bcell u68_11, bcell u68_12, bcell u68_13, bcell u68_14, bcell u68_15, a72, m77]) (x := .mk 0 [] false [.mk 0 u65 false [] [], .mk 0 [u68_0, u68_1, u68_2, u68_3, u68_4, u68_5, u68_6, u68_7, u68_8, u68_9, u68_10, u68_11, u68_12, u68_13, u68_14, u68_15] false [] [], .mk 0 [] (decide (n72 ≤ 0)) l74 []] u77) (hpart) rfl (by rw [← hL64]; exact H) fun w hP => ?_)⟩, by omega⟩
        · show some (Value.int .i32 _) = _
          rw [IntKind.wrap_i32]
          simp only [Option.some.injEq, Value.int.injEq, true_and]
          omega
        · skip
          rw [hP78] at hP
          obtain ⟨hf78_, hP⟩ := hP
          rw [hP75] at hP
          obtain ⟨hf75_, hP⟩ := hP
          rw [hP64] at hP
          exact ⟨QPt (QA1 (QF8 (by decide) u65) (QA1 (QF7 (u := [u68_0, u68_1, u68_2, u68_3, u68_4, u68_5, u68_6, u68_7, u68_8, u68_9, u68_10, u68_11, u68_12, u68_13, u68_14, u68_15]) rfl) (QA1 (QF11 hl74 hf75_) (QA0)))) hf78_, hP⟩
      have hge64 : ¬ (i64 : Int) < n64 := of_decide_eq_false h9
      obtain ⟨l79, s79, hone79, hl79, hr79, H⟩ := H.done hge64 hln64 (nl := nlF (.mk 11 7 (-1) (-1) (-1) 0 10 dFetchRequestForgottenTopic) v) (sz := elZ true 8 10 dFetchRequestForgottenTopic) rfl hpL64 rfl
      ((conv=>whnf);repeat((first|refine mvT ?_|refine mvF ?_|refine yT ?_|refine yF ?_);conv=>whnf))
      obtain ⟨P80, hP80⟩ : ∃ P : World → Prop, P = fun w => ListR true (elZ true 8 10 dFetchRequestForgottenTopic) (elQ true 8 10 dFetchRequestForgottenTopic ⟨w, FG w0 G0⟩) w (FG w0 G0) a64 (.mk 0 [] (decide (n64 ≤ 0)) l79 []) ∧ P61 w := ⟨_, rfl⟩
      replace H : St w0 G0 p pb s79 ((p, ty, [] ++ [.int .i16 v, .pointer none, .int .i32 n1, .int .i32 (-1), .int .i64 (-1), .map none, .int .i32 n4, .int .i32 n6, .int .i32 n8, .int .i8 n11, .int .i32 n14, .int .i32 n17, a20, .slice none 0 0, str [], .map none] ++ []) :: []) P80 w := by rw [hP80]; exact H
      refine H.st1 (v := a64) 13 (cells_one hone79) (hone79) rfl (by simp) rfl (Nat.lt_of_lt_of_le (Nat.lt_succ_self _) (Nat.le_of_ble_eq_true rfl)) ?_
      intro w H
      ((conv=>whnf);repeat((first|refine mvT ?_|refine mvF ?_|refine yT ?_|refine yF ?_);conv=>whnf))
      replace H : St w0 G0 p pb s79 ((p, ty, [] ++ [.int .i16 v, .pointer none, .int .i32 n1, .int .i32 (-1), .int .i64 (-1), .map none, .int .i32 n4, .int .i32 n6, .int .i32 n8, .int .i8 n11, .int .i32 n14, .int .i32 n17, a20, a64, str [], .map none] ++ []) :: []) P80 w := H
      exact ⟨(a64, decide (n64 ≤ 0), l79, s79), ⟨rfl, rfl, rfl, rfl, rfl, rfl, trivial⟩, hl79, by rw [if_pos hh]; exact ((rdField_list _ _ _ _ _ _ _ _ _ _ _).trans hr79), by rw [hP80] at H; exact H⟩
    · ((conv=>whnf);repeat((first|refine mvT ?_|refine mvF ?_|refine yT ?_|refine yF ?_);conv=>whnf))
      have hh : ¬ hasF (.mk 11 7 (-1) (-1) (-1) 0 10 dFetchRequestForgottenTopic) v = true := by have := of_decide_eq_false hcv; rw [hasF_iff]; omega
      exact ⟨(.slice none 0 0, true, [], s60), ⟨rfl, rfl, rfl, rfl, rfl, rfl, trivial⟩, fun _ => rfl, by rw [if_neg hh]; rfl, H.add fun w' _ => .inl ⟨rfl, rfl⟩⟩
  clear H
  rintro ⟨c63, nl63, l63, s63⟩ w ⟨hnl63, hr63, H⟩
  dsimp only at hnl63 hr63 H
  ((conv=>whnf);repeat((first|refine mvT ?_|refine mvF ?_|refine yT ?_|refine yF ?_);conv=>whnf))
  obtain ⟨P82, hP82⟩ : ∃ P : World → Prop, P = fun w => ListR true (elZ true 8 10 dFetchRequestForgottenTopic) (elQ true 8 10 dFetchRequestForgottenTopic ⟨w, FG w0 G0⟩) w (FG w0 G0) c63 (.mk 0 [] (nl63) l63 []) ∧ P61 w := ⟨_, rfl⟩
  replace H : St w0 G0 p pb s63 ((p, ty, [] ++ [.int .i16 v, .pointer none, .int .i32 n1, .int .i32 (-1), .int .i64 (-1), .map none, .int .i32 n4, .int .i32 n6, .int .i32 n8, .int .i8 n11, .int .i32 n14, .int .i32 n17, a20, c63, str [], .map none] ++ []) :: []) P82 w := by rw [hP82]; exact H
  refine VC.cutE (fun q : List UInt8 × Rd => [(0, .pointer (some ⟨p, 0, none⟩)), (2, .bool false), (7, .pointer (some ⟨pb, 0, none⟩)), (8, .int .i16 v), (9, .bool fx), (10, .pointer (some ⟨p, 0, none⟩))]) (fun q w' => (if hasF (.mk 8 11 (-1) (-1) (-1) 0 0 []) v = true then rdField 9 v fx (.mk 8 11 (-1) (-1) (-1) 0 0 []) s63 else (dfT 9 (.mk 8 11 (-1) (-1) (-1) 0 0 []), s63)) = (.mk 0 q.1 false [] [], q.2) ∧ St w0 G0 p pb q.2 ((p, ty, [] ++ [.int .i16 v, .pointer none, .int .i32 n1, .int .i32 (-1), .int .i64 (-1), .map none, .int .i32 n4, .int .i32 n6, .int .i32 n8, .int .i8 n11, .int .i32 n14, .int .i32 n17, a20, c63, str q.1, .map none] ++ []) :: []) P82 w') ?_ ?_
  · refine cI (by rfl) (fun hcv=>?_) (fun hcv=>?_)
    · ((conv=>whnf);repeat((first|refine mvT ?_|refine mvF ?_|refine yT ?_|refine yF ?_);conv=>whnf))
      (refine mvB ?_;((conv=>whnf);repeat((first|refine mvT ?_|refine mvF ?_|refine yT ?_|refine yF ?_);conv=>whnf)))
      refine VC.cutE (fun q : List UInt8 × Rd => [(59, str q.1), (0, .pointer (some ⟨p, 0, none⟩)), (2, .bool false), (7, .pointer (some ⟨pb, 0, none⟩)), (8, .int .i16 v), (9, .bool fx), (10, .pointer (some ⟨p, 0, none⟩))]) (fun q w' => rdTx fx s63 = q ∧ St w0 G0 p pb q.2 ((p, ty, [] ++ [.int .i16 v, .pointer none, .int .i32 n1, .int .i32 (-1), .int .i64 (-1), .map none, .int .i32 n4, .int .i32 n6, .int .i32 n8, .int .i8 n11, .int .i32 n14, .int .i32 n17, a20, c63, str [], .map none] ++ []) :: []) P82 w') ?_ ?_
      · refine cI (by rfl) (fun hc=>?_) (fun hc=>?_)
        · ((conv=>whnf);repeat((first|refine mvT ?_|refine mvF ?_|refine yT ?_|refine yF ?_);conv=>whnf))
          refine Does.mono H.txc ?_
          rintro r w ⟨u, s', rfl, hr, H⟩
          ((conv=>whnf);repeat((first|refine mvT ?_|refine mvF ?_|refine yT ?_|refine yF ?_);conv=>whnf))
          exact ⟨(u, s'), ⟨rfl, rfl, rfl, rfl, rfl, rfl, rfl, trivial⟩, by rw [hc]; exact hr, H⟩
        · ((conv=>whnf);repeat((first|refine mvT ?_|refine mvF ?_|refine yT ?_|refine yF ?_);conv=>whnf))
          refine Does.mono H.txp ?_
          rintro r w ⟨u, s', rfl, hr, H⟩
          ((conv=>whnf);repeat((first|refine mvT ?_|refine mvF ?_|refine yT ?_|refine yF ?_);conv=>whnf))
          exact ⟨(u, s'), ⟨rfl, rfl, rfl, rfl, rfl, rfl, rfl, trivial⟩, by rw [hc]; exact hr, H⟩
      clear H
      rintro ⟨u84, s84⟩ w ⟨hr84, H⟩
      dsimp only at hr84 H
      ((conv=>whnf);repeat((first|refine mvT ?_|refine mvF ?_|refine yT ?_|refine yF ?_);conv=>whnf))
      refine H.st1 (v := str u84) 14 (rfl) (rfl) rfl (by simp) rfl (Nat.lt_of_lt_of_le (Nat.lt_succ_self _) (Nat.le_of_ble_eq_true rfl)) ?_
      intro w H
      ((conv=>whnf);repeat((first|refine mvT ?_|refine mvF ?_|refine yT ?_|refine yF ?_);conv=>whnf))
      replace H : St w0 G0 p pb s84 ((p, ty, [] ++ [.int .i16 v, .pointer none, .int .i32 n1, .int .i32 (-1), .int .i64 (-1), .map none, .int .i32 n4, .int .i32 n6, .int .i32 n8, .int .i8 n11, .int .i32 n14, .int .i32 n17, a20, c63, str u84, .map none] ++ []) :: []) P82 w := H
      have hh : hasF (.mk 8 11 (-1) (-1) (-1) 0 0 []) v = true := by have := of_decide_eq_true hcv; rw [hasF_iff]; omega
      exact ⟨(u84, s84), ⟨rfl, rfl, rfl, rfl, rfl, rfl, trivial⟩, by rw [if_pos hh]; exact (rdField8 (by decide) hr84), H⟩
    · ((conv=>whnf);repeat((first|refine mvT ?_|refine mvF ?_|refine yT ?_|refine yF ?_);conv=>whnf))
      have hh : ¬ hasF (.mk 8 11 (-1) (-1) (-1) 0 0 []) v = true := by have := of_decide_eq_false hcv; rw [hasF_iff]; omega
      exact ⟨([], s63), ⟨rfl, rfl, rfl, rfl, rfl, rfl, trivial⟩, by rw [if_neg hh]; rfl, H⟩
  clear H
  rintro ⟨u83, s83⟩ w ⟨hr83, H⟩
  dsimp only at hr83 H
  ((conv=>whnf);repeat((first|refine mvT ?_|refine mvF ?_|refine yT ?_|refine yF ?_);conv=>whnf))
  replace H : St w0 G0 p pb s83 ((p, ty, [] ++ [.int .i16 v, .pointer none, .int .i32 n1, .int .i32 (-1), .int .i64 (-1), .map none, .int .i32 n4, .int .i32 n6, .int .i32 n8, .int .i8 n11, .int .i32 n14, .int .i32 n17, a20, c63, str u83, .map none] ++ []) :: []) P82 w := H
  (refine mvB ?_;((conv=>whnf);repeat((first|refine mvT ?_|refine mvF ?_|refine yT ?_|refine yF ?_);conv=>whnf)))
  refine VC.cutE (fun q : Value × List Tg × Rd × Value × T × Value × Value × Value × T => [(0, .pointer (some ⟨p, 0, none⟩)), (2, .bool false), (7, .pointer (some ⟨pb, 0, none⟩)), (8, .int .i16 v), (9, .bool fx), (10, .pointer (some ⟨p, 0, none⟩))]) (fun q w' => rdTail (rdField 9 v fx) dFetchRequest fx [.mk 0 [] true [] [], numT n1, .mk 0 [] false [numT (-1), numT (-1)] [], numT n4, numT n6, numT n8, numT n11, numT n14, numT n17, .mk 0 [] (decide (n20 ≤ 0)) l60 [], .mk 0 [] nl63 l63 [], .mk 0 u83 false [] []] s83 = (([q.2.2.2.2.1, numT n1, q.2.2.2.2.2.2.2.2, numT n4, numT n6, numT n8, numT n11, numT n14, numT n17, .mk 0 [] (decide (n20 ≤ 0)) l60 [], .mk 0 [] nl63 l63 [], .mk 0 u83 false [] []], q.2.1), q.2.2.1) ∧ St w0 G0 p pb q.2.2.1 ((p, ty, [] ++ [.int .i16 v, q.2.2.2.1, .int .i32 n1, q.2.2.2.2.2.1, q.2.2.2.2.2.2.1, q.2.2.2.2.2.2.2.1, .int .i32 n4, .int .i32 n6, .int .i32 n8, .int .i8 n11, .int .i32 n14, .int .i32 n17, a20, c63, str u83, q.1] ++ []) :: []) (fun w => QField true 9 (.mk 10 0 (-1) (-1) 1 0 0 dFetchRequestReplicaState) ⟨w, FG w0 G0⟩ [q.2.2.2.2.2.1, q.2.2.2.2.2.2.1, q.2.2.2.2.2.2.2.1] (q.2.2.2.2.2.2.2.2) ∧ QField true 9 (.mk 8 0 (-1) 0 0 0 0 []) ⟨w, FG w0 G0⟩ [q.2.2.2.1] (q.2.2.2.2.1) ∧ TGf w0 G0 q.1 q.2.1 w ∧ P82 w) w') ?_ ?_
  · refine cI (by rfl) (fun hc=>?_) (fun hc=>?_)
    · ((conv=>whnf);repeat((first|refine mvT ?_|refine mvF ?_|refine yT ?_|refine yF ?_);conv=>whnf))
      obtain ⟨wA86, rfl⟩ : ∃ x, x = w := ⟨w, rfl⟩
      have HA86 := H
      have hA86 := HA86.tgA
      have hlt0 := rdUv_lt s83
      refine Does.mono (rdUvarint_does HA86.rd HA86.Gpb) ?_
      rintro r w ⟨rfl, hr⟩
      ((conv=>whnf);repeat((first|refine mvT ?_|refine mvF ?_|refine yT ?_|refine yF ?_);conv=>whnf))
      have HT : TgS wA86 G0 pb p ty [] [.int .i16 v, .pointer none, .int .i32 n1, .int .i32 (-1), .int .i64 (-1), .map none, .int .i32 n4, .int .i32 n6, .int .i32 n8, .int .i8 n11, .int .i32 n14, .int .i32 n17, a20, c63, str u83, (.map none)] [] [] (rdUv s83).2 (.map none) [] (fun m w => Slot w wA86 G0 9 (.mk 8 0 (-1) 0 0 0 0 []) 0 0 [m] [.pointer none] (.mk 0 [] true [] []) ∧ Slot w wA86 G0 9 (.mk 10 0 (-1) (-1) 1 0 0 dFetchRequestReplicaState) 0 0 [m] [.int .i32 (-1), .int .i64 (-1), .map none] (.mk 0 [] false [numT (-1), numT (-1)] [])) w := TgS.start HA86 hr ⟨Slot.none (fun _ => QF8n (by decide) (fun _ => rfl) (.inl ⟨rfl, rfl⟩)) (fun h => absurd h (by decide)), Slot.none (fun _ => QF10 (QPt (QA1 (QF3 rfl) (QA1 (QF4 rfl) (QA0))) (TagsR.nil _ _))) (fun h => absurd h (by decide))⟩ (fun w w' m m' h hx hm => ⟨Slot.clo hA86 (h.1) hx hm, Slot.clo hA86 (h.2) hx hm⟩)
      clear H hr
      refine VL.loop (fun i : Nat => [(60, .int .u32 i), (0, .pointer (some ⟨p, 0, none⟩)), (2, .bool false), (7, .pointer (some ⟨pb, 0, none⟩)), (8, .int .i16 v), (9, .bool fx), (10, .pointer (some ⟨p, 0, none⟩))]) (fun i w' => ∃ (st : Rd) (m : Value) (u : List Tg) (c0_0 c1_0 c1_1 c1_2 : Value) (xc0 xc1 : T), rdTgX (rdField 9 v fx) dFetchRequest i [xc0, numT n1, xc1, numT n4, numT n6, numT n8, numT n11, numT n14, numT n17, .mk 0 [] (decide (n20 ≤ 0)) l60 [], .mk 0 [] nl63 l63 [], .mk 0 u83 false [] []] u st = rdTgX (rdField 9 v fx) dFetchRequest (rdUv s83).1 [.mk 0 [] true [] [], numT n1, .mk 0 [] false [numT (-1), numT (-1)] [], numT n4, numT n6, numT n8, numT n11, numT n14, numT n17, .mk 0 [] (decide (n20 ≤ 0)) l60 [], .mk 0 [] nl63 l63 [], .mk 0 u83 false [] []] [] (rdUv s83).2 ∧ i < 4294967296 ∧ TgS wA86 G0 pb p ty [] [.int .i16 v, c0_0, .int .i32 n1, c1_0, c1_1, c1_2, .int .i32 n4, .int .i32 n6, .int .i32 n8, .int .i8 n11, .int .i32 n14, .int .i32 n17, a20, c63, str u83, m] [] [] st m u (fun m w => Slot w wA86 G0 9 (.mk 8 0 (-1) 0 0 0 0 []) 0 0 [m] [c0_0] (xc0) ∧ Slot w wA86 G0 9 (.mk 10 0 (-1) (-1) 1 0 0 dFetchRequestReplicaState) 0 0 [m] [c1_0, c1_1, c1_2] (xc1)) w') (fun i => i) (rdUv s83).1 ⟨rfl, rfl, rfl, rfl, rfl, rfl, rfl, trivial⟩ ⟨_, _, _, _, _, _, _, _, _, rfl, hlt0, HT⟩ ?_
      clear HT
      rintro i w ⟨st, m, u, c0_0, c1_0, c1_1, c1_2, xc0, xc1, hrun, hi, HT⟩
      ((conv=>whnf);repeat((first|refine mvT ?_|refine mvF ?_|refine yT ?_|refine yF ?_);conv=>whnf))
      refine cI (by rfl) (fun h9=>?_) (fun h9=>?_)
      · obtain ⟨j, rfl⟩ : ∃ j, i = j + 1 := ⟨i - 1, by have := of_decide_eq_true h9; omega⟩
        ((conv=>whnf);repeat((first|refine mvT ?_|refine mvF ?_|refine yT ?_|refine yF ?_);conv=>whnf))
        refine Does.mono (HT.uv hA86) ?_
        rintro r w ⟨key, st1, rfl, hkey, hu1, HT⟩
        ((conv=>whnf);repeat((first|refine mvT ?_|refine mvF ?_|refine yT ?_|refine yF ?_);conv=>whnf))
        refine cI (by rfl) (fun hk0=>?_) (fun hk0=>?_)
        · have hk0 : key = 0 := by have h := hk0; simp at h; omega
          subst hk0
          ((conv=>whnf);repeat((first|refine mvT ?_|refine mvF ?_|refine yT ?_|refine yF ?_);conv=>whnf))
          refine Does.mono (HT.uv hA86) ?_
          rintro r w ⟨z, st2, rfl, hz, hu2, HT⟩
          ((conv=>whnf);repeat((first|refine mvT ?_|refine mvF ?_|refine yT ?_|refine yF ?_);conv=>whnf))
          rw [i64_of (n := (z : Int)) (by omega) (by omega)]
          refine Does.mono (HT.span hA86 z) ?_
          rintro r w ⟨bb, st3, hsp, hbb, HT⟩
          obtain ⟨a7, c7, rfl, _⟩ := hbb.view
          ((conv=>whnf);repeat((first|refine mvT ?_|refine mvF ?_|refine yT ?_|refine yF ?_);conv=>whnf))
          obtain ⟨w1_87, rfl⟩ : ∃ x, x = w := ⟨w, rfl⟩
          intro pb87 wb hpb hb2 hxb1
          ((conv=>whnf);repeat((first|refine mvT ?_|refine mvF ?_|refine yT ?_|refine yF ?_);conv=>whnf))
          refine st_all [.slice a7 bb.length c7, .bool false] hb2 rfl rfl rfl ?_
          intro w hb2 hxb2
          ((conv=>whnf);repeat((first|refine mvT ?_|refine mvF ?_|refine yT ?_|refine yF ?_);conv=>whnf))
          have he : Ext nob w1_87 w := hxb1.trans hxb2 fun k hk h => by omega
          have H := HT.tagq hA86 hb2 (hbb.e0 he) he hpb
          clear hb2 hxb1 hxb2 he
          replace H : St w1_87 G0 p pb87 (bb, false) ((p, ty, [] ++ [.int .i16 v, c0_0, .int .i32 n1, c1_0, c1_1, c1_2, .int .i32 n4, .int .i32 n6, .int .i32 n8, .int .i8 n11, .int .i32 n14, .int .i32 n17, a20, c63, str u83, m] ++ []) :: []) (fun w' => Ext (fun k => k = p) w1_87 w') w := H
          have hfxT := hc
          (refine mvB ?_;((conv=>whnf);repeat((first|refine mvT ?_|refine mvF ?_|refine yT ?_|refine yF ?_);conv=>whnf)))
          refine VC.cutE (fun q : Value × Bool × List UInt8 × Rd => [(63, q.1), (0, .pointer (some ⟨p, 0, none⟩)), (2, .bool false), (7, .pointer (some ⟨pb, 0, none⟩)), (8, .int .i16 v), (9, .bool fx), (10, .pointer (some ⟨p, 0, none⟩)), (60, .int .u32 ((j + 1 : Nat) : Int)), (62, .pointer (some ⟨pb87, 0, none⟩))]) (fun q w' => q.1.oneCell' = true ∧ (q.2.1 = true → q.2.2.1 = []) ∧ rdNt fx (bb, false) = (.mk 0 q.2.2.1 q.2.1 [] [], q.2.2.2) ∧ St w1_87 G0 p pb87 q.2.2.2 ((p, ty, [] ++ [.int .i16 v, c0_0, .int .i32 n1, c1_0, c1_1, c1_2, .int .i32 n4, .int .i32 n6, .int .i32 n8, .int .i8 n11, .int .i32 n14, .int .i32 n17, a20, c63, str u83, m] ++ []) :: []) (fun w => NTf w1_87 G0 q.1 (.mk 0 q.2.2.1 q.2.1 [] []) w ∧ (fun w' => Ext (fun k => k = p) w1_87 w') w) w') ?_ ?_
          · refine cI (by rfl) (fun hc=>?_) (fun hc=>?_)
            · ((conv=>whnf);repeat((first|refine mvT ?_|refine mvF ?_|refine yT ?_|refine yF ?_);conv=>whnf))
              refine Does.mono H.ntc ?_
              rintro r w ⟨c, nl, u, s', rfl, hone, hnl, hr, H⟩
              ((conv=>whnf);repeat((first|refine mvT ?_|refine mvF ?_|refine yT ?_|refine yF ?_);conv=>whnf))
              exact ⟨(r, nl, u, s'), ⟨rfl, rfl, rfl, rfl, rfl, rfl, rfl, rfl, rfl, trivial⟩, hone, hnl, by rw [hc]; exact hr, H⟩
            · ((conv=>whnf);repeat((first|refine mvT ?_|refine mvF ?_|refine yT ?_|refine yF ?_);conv=>whnf))
              refine Does.mono H.ntp ?_
              rintro r w ⟨c, nl, u, s', rfl, hone, hnl, hr, H⟩
              ((conv=>whnf);repeat((first|refine mvT ?_|refine mvF ?_|refine yT ?_|refine yF ?_);conv=>whnf))
              exact ⟨(r, nl, u, s'), ⟨rfl, rfl, rfl, rfl, rfl, rfl, rfl, rfl, rfl, trivial⟩, hone, hnl, by rw [hc]; exact hr, H⟩
          clear H
          rintro ⟨c88, nl88, u88, s88⟩ w ⟨hone88, hnl88, hr88, H⟩
          dsimp only at hone88 hnl88 hr88 H
          ((conv=>whnf);repeat((first|refine mvT ?_|refine mvF ?_|refine yT ?_|refine yF ?_);conv=>whnf))
          obtain ⟨P89, hP89⟩ : ∃ P : World → Prop, P = fun w => NTf w1_87 G0 c88 (.mk 0 u88 nl88 [] []) w ∧ (fun w' => Ext (fun k => k = p) w1_87 w') w := ⟨_, rfl⟩
          replace H : St w1_87 G0 p pb87 s88 ((p, ty, [] ++ [.int .i16 v, c0_0, .int .i32 n1, c1_0, c1_1, c1_2, .int .i32 n4, .int .i32 n6, .int .i32 n8, .int .i8 n11, .int .i32 n14, .int .i32 n17, a20, c63, str u83, m] ++ []) :: []) P89 w := by rw [hP89]; exact H
          refine H.st1 (v := c88) 1 (cells_one hone88) (hone88) rfl (by simp) rfl (Nat.lt_of_lt_of_le (Nat.lt_succ_self _) (Nat.le_of_ble_eq_true rfl)) ?_
          intro w H
          ((conv=>whnf);repeat((first|refine mvT ?_|refine mvF ?_|refine yT ?_|refine yF ?_);conv=>whnf))
          replace H : St w1_87 G0 p pb87 s88 ((p, ty, [] ++ [.int .i16 v, c88, .int .i32 n1, c1_0, c1_1, c1_2, .int .i32 n4, .int .i32 n6, .int .i32 n8, .int .i8 n11, .int .i32 n14, .int .i32 n17, a20, c63, str u83, m] ++ []) :: []) P89 w := H
          have hP := H.now
          rw [hP89] at hP
          obtain ⟨hf89_, hP⟩ := hP
          have hq : QField true 9 (.mk 8 0 (-1) 0 0 0 0 []) ⟨w, FG w1_87 G0⟩ [c88] (.mk 0 u88 nl88 [] []) := QF8n (by decide) hnl88 hf89_
          have hx := H.ext.mono (M' := fun k => OwnB (.slice none 0 0) k ∨ k = p) fun _ _ h => .inr h
          have hx2 : Ext (fun k => k = p) w w := Ext.refl _ _
          have HT2 : TgS wA86 G0 pb p ty [] [.int .i16 v, c88, .int .i32 n1, c1_0, c1_1, c1_2, .int .i32 n4, .int .i32 n6, .int .i32 n8, .int .i8 n11, .int .i32 n14, .int .i32 n17, a20, c63, str u83, m] [] [] st3 m u (fun m w => Slot w wA86 G0 9 (.mk 8 0 (-1) 0 0 0 0 []) 0 0 [m] [c88] (.mk 0 u88 nl88 [] []) ∧ Slot w wA86 G0 9 (.mk 10 0 (-1) (-1) 1 0 0 dFetchRequestReplicaState) 0 0 [m] [c1_0, c1_1, c1_2] (xc1)) w := HT.put hA86 hx H.own.1 (fun k h => absurd h (no_own k)) ⟨Slot.readq hA86 HT hq (by decide) (fun c hc k hk => by
              simp only [List.mem_cons, List.not_mem_nil, or_false] at hc), Slot.other hA86 (HT.slots.2) hx (fun k h => absurd h (no_own k)) fun c hc k hk => .inl ⟨c, by simp [hc], hk⟩⟩ (fun w w' m m' h hx hm => ⟨Slot.clo hA86 (h.1) hx hm, Slot.clo hA86 (h.2) hx hm⟩)
          have hfield : rdField 9 v fx (.mk 8 0 (-1) 0 0 0 0 []) (bb, false) = (.mk 0 u88 nl88 [] [], s88) := ((rdField8n (by decide)).trans hr88)
          refine Does.mono (Complete_does (HT2.laid HA86 hL hp1) (HT.rd2 hA86 hpb H.rd hx2)) ?_
          rintro r _ ⟨hr9, rfl⟩
          cases hbd9 : s88.2 with
          | true =>
            rw [hbd9, if_pos rfl] at hr9
            obtain ⟨te, xe, hev⟩ := hL.iface
            rw [hev] at hr9
            subst hr9
            ((conv=>whnf);repeat((first|refine mvT ?_|refine mvF ?_|refine yT ?_|refine yF ?_);conv=>whnf))
            rw [← hev]
            refine RdPost.fell (hup0 ?_) (HT2.ext0 HA86)
            rw [tail_tag (f := (.mk 8 0 (-1) 0 0 0 0 [])) (by decide), tail_ver hr1 (by decide), tail_tag (f := (.mk 10 0 (-1) (-1) 1 0 0 dFetchRequestReplicaState)) (by decide), tail_yes (rdField3.trans hr4) ⟨by decide, has_all hv⟩, tail_yes (rdField3.trans hr6) ⟨by decide, has_all hv⟩, tail_ver hr8 (by decide), tail_ver hr11 (by decide), tail_ver hr14 (by decide), tail_ver hr17 (by decide), tail_yes ((rdField_list _ _ _ _ _ _ _ _ _ _ _).trans hr60) ⟨by decide, has_all hv⟩, tail_ver hr63 (by decide), tail_ver hr83 (by decide), tail_run (by decide) hc hrun]
            exact rdTgX_fell hu1 hu2 hsp rfl (by rw [hfield]; exact hbd9)
          | false =>
            rw [hbd9, if_neg Bool.false_ne_true] at hr9
            subst hr9
            ((conv=>whnf);repeat((first|refine mvT ?_|refine mvF ?_|refine yT ?_|refine yF ?_);conv=>whnf))
            refine ⟨j, ⟨?_, rfl, rfl, rfl, rfl, rfl, rfl, trivial⟩, ⟨st3, m, u, c88, c1_0, c1_1, c1_2, .mk 0 u88 nl88 [] [], xc1, rdTgX_next hrun hu1 hu2 hsp rfl hfield hbd9 (by rw [tgX_ne (show ((.mk 8 0 (-1) 0 0 0 0 []) : Fd).kind ≠ 11 by decide)]; rfl), by omega, HT2⟩, by omega⟩
            show some (Value.int .u32 _) = _
            rw [wrap_u32]
            simp only [Option.some.injEq, Value.int.injEq, true_and]
            omega
        · have hk0 : key ≠ 0 := by have h := hk0; simp at h; omega
          refine cI (by rfl) (fun hk1=>?_) (fun hk1=>?_)
          · have hk1 : key = 1 := by have h := hk1; simp at h; omega
            subst hk1
            ((conv=>whnf);repeat((first|refine mvT ?_|refine mvF ?_|refine yT ?_|refine yF ?_);conv=>whnf))
            refine Does.mono (HT.uv hA86) ?_
            rintro r w ⟨z, st2, rfl, hz, hu2, HT⟩
            ((conv=>whnf);repeat((first|refine mvT ?_|refine mvF ?_|refine yT ?_|refine yF ?_);conv=>whnf))
            rw [i64_of (n := (z : Int)) (by omega) (by omega)]
            refine Does.mono (HT.span hA86 z) ?_
            rintro r w ⟨bb, st3, hsp, hbb, HT⟩
            obtain ⟨a7, c7, rfl, _⟩ := hbb.view
            ((conv=>whnf);repeat((first|refine mvT ?_|refine mvF ?_|refine yT ?_|refine yF ?_);conv=>whnf))
            obtain ⟨w1_91, rfl⟩ : ∃ x, x = w := ⟨w, rfl⟩
            intro pb91 wb hpb hb2 hxb1
            ((conv=>whnf);repeat((first|refine mvT ?_|refine mvF ?_|refine yT ?_|refine yF ?_);conv=>whnf))
            refine st_all [.slice a7 bb.length c7, .bool false] hb2 rfl rfl rfl ?_
            intro w hb2 hxb2
            ((conv=>whnf);repeat((first|refine mvT ?_|refine mvF ?_|refine yT ?_|refine yF ?_);conv=>whnf))
            have he : Ext nob w1_91 w := hxb1.trans hxb2 fun k hk h => by omega
            have H := HT.tagq hA86 hb2 (hbb.e0 he) he hpb
            clear hb2 hxb1 hxb2 he
            replace H : St w1_91 G0 p pb91 (bb, false) ((p, ty, [] ++ [.int .i16 v, c0_0, .int .i32 n1, c1_0, c1_1, c1_2, .int .i32 n4, .int .i32 n6, .int .i32 n8, .int .i8 n11, .int .i32 n14, .int .i32 n17, a20, c63, str u83, m] ++ []) :: []) (fun w' => Ext (fun k => k = p) w1_91 w') w := H
            have hfxT := hc
            refine Does.mono (dfFetchRequestReplicaState (pre := [] ++ [.int .i16 v, c0_0, .int .i32 n1]) (cur := [c1_0, c1_1, c1_2]) (post := [.int .i32 n4, .int .i32 n6, .int .i32 n8, .int .i8 n11, .int .i32 n14, .int .i32 n17, a20, c63, str u83, m] ++ []) (by have := H.head; simpa using this) (by simp) rfl) ?_
            rintro rd w2 ⟨hdf, hxd⟩
            replace hdf : Own w2 p ty ([] ++ [.int .i16 v, c0_0, .int .i32 n1, .int .i32 (-1), .int .i64 (-1), c1_2, .int .i32 n4, .int .i32 n6, .int .i32 n8, .int .i8 n11, .int .i32 n14, .int .i32 n17, a20, c63, str u83, m] ++ []) := by simpa using hdf
            replace H := H.put hdf hxd
            clear hdf hxd
            replace H : St w1_91 G0 p pb91 (bb, false) ((p, ty, [] ++ [.int .i16 v, c0_0, .int .i32 n1, .int .i32 (-1), .int .i64 (-1), c1_2, .int .i32 n4, .int .i32 n6, .int .i32 n8, .int .i8 n11, .int .i32 n14, .int .i32 n17, a20, c63, str u83, m] ++ []) :: []) (fun w' => Ext (fun k => k = p) w1_91 w') w2 := H
            ((conv=>whnf);repeat((first|refine mvT ?_|refine mvF ?_|refine yT ?_|refine yF ?_);conv=>whnf))
            refine Does.mono H.int32 ?_
            rintro r w ⟨n93, s93, rfl, hn93, hr93, H⟩
            ((conv=>whnf);repeat((first|refine mvT ?_|refine mvF ?_|refine yT ?_|refine yF ?_);conv=>whnf))
            refine H.st1 (v := .int .i32 n93) 3 (rfl) (rfl) rfl (by simp) rfl (Nat.lt_of_lt_of_le (Nat.lt_succ_self _) (Nat.le_of_ble_eq_true rfl)) ?_
            intro w H
            ((conv=>whnf);repeat((first|refine mvT ?_|refine mvF ?_|refine yT ?_|refine yF ?_);conv=>whnf))
            replace H : St w1_91 G0 p pb91 s93 ((p, ty, [] ++ [.int .i16 v, c0_0, .int .i32 n1, .int .i32 n93, .int .i64 (-1), c1_2, .int .i32 n4, .int .i32 n6, .int .i32 n8, .int .i8 n11, .int .i32 n14, .int .i32 n17, a20, c63, str u83, m] ++ []) :: []) (fun w' => Ext (fun k => k = p) w1_91 w') w := H
            refine Does.mono H.int64 ?_
            rintro r w ⟨n95, s95, rfl, hn95, hr95, H⟩
            ((conv=>whnf);repeat((first|refine mvT ?_|refine mvF ?_|refine yT ?_|refine yF ?_);conv=>whnf))
            refine H.st1 (v := .int .i64 n95) 4 (rfl) (rfl) rfl (by simp) rfl (Nat.lt_of_lt_of_le (Nat.lt_succ_self _) (Nat.le_of_ble_eq_true rfl)) ?_
            intro w H
            ((conv=>whnf);repeat((first|refine mvT ?_|refine mvF ?_|refine yT ?_|refine yF ?_);conv=>whnf))
            replace H : St w1_91 G0 p pb91 s95 ((p, ty, [] ++ [.int .i16 v, c0_0, .int .i32 n1, .int .i32 n93, .int .i64 n95, c1_2, .int .i32 n4, .int .i32 n6, .int .i32 n8, .int .i8 n11, .int .i32 n14, .int .i32 n17, a20, c63, str u83, m] ++ []) :: []) (fun w' => Ext (fun k => k = p) w1_91 w') w := H
            (refine mvB ?_;((conv=>whnf);repeat((first|refine mvT ?_|refine mvF ?_|refine yT ?_|refine yF ?_);conv=>whnf)))
            refine VC.cutE (fun q : Value × List Tg × Rd => [(0, .pointer (some ⟨p, 0, none⟩)), (2, .bool false), (7, .pointer (some ⟨pb, 0, none⟩)), (8, .int .i16 v), (9, .bool fx), (10, .pointer (some ⟨p, 0, none⟩)), (60, .int .u32 ((j + 1 : Nat) : Int)), (65, .pointer (some ⟨pb91, 0, none⟩)), (67, .pointer (some ⟨p, 0 + 3, none⟩))]) (fun q w' => rdTagsF fx s95 = q.2 ∧ St w1_91 G0 p pb91 q.2.2 ((p, ty, [] ++ [.int .i16 v, c0_0, .int .i32 n1, .int .i32 n93, .int .i64 n95, q.1, .int .i32 n4, .int .i32 n6, .int .i32 n8, .int .i8 n11, .int .i32 n14, .int .i32 n17, a20, c63, str u83, m] ++ []) :: []) (fun w => TGf w1_91 G0 q.1 q.2.1 w ∧ (fun w' => Ext (fun k => k = p) w1_91 w') w) w') ?_ ?_
            · refine cI (by rfl) (fun hc=>?_) (fun hc=>?_)
              · ((conv=>whnf);repeat((first|refine mvT ?_|refine mvF ?_|refine yT ?_|refine yF ?_);conv=>whnf))
                refine Does.mono H.tags ?_
                rintro r w ⟨m, u, s', rfl, hone, hr, H⟩
                ((conv=>whnf);repeat((first|refine mvT ?_|refine mvF ?_|refine yT ?_|refine yF ?_);conv=>whnf))
                refine H.st1 (v := m) 5 (rfl) (hone) rfl (by simp) rfl (Nat.lt_of_lt_of_le (Nat.lt_succ_self _) (Nat.le_of_ble_eq_true rfl)) ?_
                intro w H
                ((conv=>whnf);repeat((first|refine mvT ?_|refine mvF ?_|refine yT ?_|refine yF ?_);conv=>whnf))
                exact ⟨(m, u, s'), ⟨rfl, rfl, rfl, rfl, rfl, rfl, rfl, rfl, rfl, trivial⟩, by rw [rdTagsF, if_pos hc]; exact hr, H⟩
              · ((conv=>whnf);repeat((first|refine mvT ?_|refine mvF ?_|refine yT ?_|refine yF ?_);conv=>whnf))
                rw [hfxT] at hc
                cases hc
            clear H
            rintro ⟨m97, u97, s97⟩ w ⟨htg, H⟩
            dsimp only at htg H
            ((conv=>whnf);repeat((first|refine mvT ?_|refine mvF ?_|refine yT ?_|refine yF ?_);conv=>whnf))
            obtain ⟨P98, hP98⟩ : ∃ P : World → Prop, P = fun w => TGf w1_91 G0 m97 u97 w ∧ (fun w' => Ext (fun k => k = p) w1_91 w') w := ⟨_, rfl⟩
            replace H : St w1_91 G0 p pb91 s97 ((p, ty, [] ++ [.int .i16 v, c0_0, .int .i32 n1, .int .i32 n93, .int .i64 n95, m97, .int .i32 n4, .int .i32 n6, .int .i32 n8, .int .i8 n11, .int .i32 n14, .int .i32 n17, a20, c63, str u83, m] ++ []) :: []) P98 w := by rw [hP98]; exact H
            have hpart : rdPart 8 v fx dFetchRequestReplicaState (bb, false) = (.mk 0 [] false [numT n93, numT n95] u97, s97) := by
              unfold rdPart rdPartW
              rw [rdTail_plain (by decide)]
              rw [rdAll_yes (df := dfT 8) (rdField3.trans hr93) ⟨by decide, has_all hv⟩, rdAll_yes (df := dfT 8) (rdField4.trans hr95) ⟨by decide, has_all hv⟩]
              simp only [rdAll]
              rw [htg]
            have hpi92 := hpart
            clear hpart
            have hP := H.now
            rw [hP98] at hP
            obtain ⟨hf98_, hP⟩ := hP
            have hq : QField true 9 (.mk 10 0 (-1) (-1) 1 0 0 dFetchRequestReplicaState) ⟨w, FG w1_91 G0⟩ [.int .i32 n93, .int .i64 n95, m97] (.mk 0 [] false [numT n93, numT n95] u97) := QF10 (QPt (QA1 (QF3 hn93) (QA1 (QF4 hn95) (QA0))) hf98_)
            have hx := H.ext.mono (M' := fun k => OwnB (.slice none 0 0) k ∨ k = p) fun _ _ h => .inr h
            have hx2 : Ext (fun k => k = p) w w := Ext.refl _ _
            have HT2 : TgS wA86 G0 pb p ty [] [.int .i16 v, c0_0, .int .i32 n1, .int .i32 n93, .int .i64 n95, m97, .int .i32 n4, .int .i32 n6, .int .i32 n8, .int .i8 n11, .int .i32 n14, .int .i32 n17, a20, c63, str u83, m] [] [] st3 m u (fun m w => Slot w wA86 G0 9 (.mk 8 0 (-1) 0 0 0 0 []) 0 0 [m] [c0_0] (xc0) ∧ Slot w wA86 G0 9 (.mk 10 0 (-1) (-1) 1 0 0 dFetchRequestReplicaState) 0 0 [m] [.int .i32 n93, .int .i64 n95, m97] (.mk 0 [] false [numT n93, numT n95] u97)) w := HT.put hA86 hx H.own.1 (fun k h => absurd h (no_own k)) ⟨Slot.other hA86 (HT.slots.1) hx (fun k h => absurd h (no_own k)) fun c hc k hk => .inl ⟨c, by simp [hc], hk⟩, Slot.readq hA86 HT hq (by decide) (fun c hc k hk => by
                simp only [List.mem_cons, List.not_mem_nil, or_false] at hc)⟩ (fun w w' m m' h hx hm => ⟨Slot.clo hA86 (h.1) hx hm, Slot.clo hA86 (h.2) hx hm⟩)
            have hfield : rdField 9 v fx (.mk 10 0 (-1) (-1) 1 0 0 dFetchRequestReplicaState) (bb, false) = (.mk 0 [] false [numT n93, numT n95] u97, s97) := ((rdField10 : rdField 9 v fx (.mk 10 0 (-1) (-1) 1 0 0 dFetchRequestReplicaState) _ = _).trans hpi92)
            refine Does.mono (Complete_does (HT2.laid HA86 hL hp1) (HT.rd2 hA86 hpb H.rd hx2)) ?_
            rintro r _ ⟨hr9, rfl⟩
            cases hbd9 : s97.2 with
            | true =>
              rw [hbd9, if_pos rfl] at hr9
              obtain ⟨te, xe, hev⟩ := hL.iface
              rw [hev] at hr9
              subst hr9
              ((conv=>whnf);repeat((first|refine mvT ?_|refine mvF ?_|refine yT ?_|refine yF ?_);conv=>whnf))
              rw [← hev]
              refine RdPost.fell (hup0 ?_) (HT2.ext0 HA86)
              rw [tail_tag (f := (.mk 8 0 (-1) 0 0 0 0 [])) (by decide), tail_ver hr1 (by decide), tail_tag (f := (.mk 10 0 (-1) (-1) 1 0 0 dFetchRequestReplicaState)) (by decide), tail_yes (rdField3.trans hr4) ⟨by decide, has_all hv⟩, tail_yes (rdField3.trans hr6) ⟨by decide, has_all hv⟩, tail_ver hr8 (by decide), tail_ver hr11 (by decide), tail_ver hr14 (by decide), tail_ver hr17 (by decide), tail_yes ((rdField_list _ _ _ _ _ _ _ _ _ _ _).trans hr60) ⟨by decide, has_all hv⟩, tail_ver hr63 (by decide), tail_ver hr83 (by decide), tail_run (by decide) hc hrun]
              exact rdTgX_fell hu1 hu2 hsp rfl (by rw [hfield]; exact hbd9)
            | false =>
              rw [hbd9, if_neg Bool.false_ne_true] at hr9
              subst hr9
              ((conv=>whnf);repeat((first|refine mvT ?_|refine mvF ?_|refine yT ?_|refine yF ?_);conv=>whnf))
              refine ⟨j, ⟨?_, rfl, rfl, rfl, rfl, rfl, rfl, trivial⟩, ⟨st3, m, u, c0_0, .int .i32 n93, .int .i64 n95, m97, xc0, .mk 0 [] false [numT n93, numT n95] u97, rdTgX_next hrun hu1 hu2 hsp rfl hfield hbd9 (by rw [tgX_ne (show ((.mk 10 0 (-1) (-1) 1 0 0 dFetchRequestReplicaState) : Fd).kind ≠ 11 by decide)]; rfl), by omega, HT2⟩, by omega⟩
              show some (Value.int .u32 _) = _
              rw [wrap_u32]
              simp only [Option.some.injEq, Value.int.injEq, true_and]
              omega
          · have hk1 : key ≠ 1 := by have h := hk1; simp at h; omega
            ((conv=>whnf);repeat((first|refine mvT ?_|refine mvF ?_|refine yT ?_|refine yF ?_);conv=>whnf))
            refine VD.draw mixed (.q 0 (.q 1 (.q 2 (.q 3 (.eff 4 [] (.q 5 (.eff 6 [] (.eff 7 [] (.done))))))))) (by kernel_rfl) ?_;((conv=>whnf);repeat((first|refine mvT ?_|refine mvF ?_|refine yT ?_|refine yF ?_);conv=>whnf))
            replace HT := HT.e0 (ext_drew _)
            skip
            refine Does.mono (HT.uv hA86) ?_
            rintro r w ⟨z, st2, rfl, hz, hu2, HT⟩
            ((conv=>whnf);repeat((first|refine mvT ?_|refine mvF ?_|refine yT ?_|refine yF ?_);conv=>whnf))
            rw [i64_of (n := (z : Int)) (by omega) (by omega)]
            refine Does.mono (HT.span hA86 z) ?_
            rintro r w ⟨bb, st3, hsp, hbb, HT⟩
            obtain ⟨a7, c7, rfl, _⟩ := hbb.view
            ((conv=>whnf);repeat((first|refine mvT ?_|refine mvF ?_|refine yT ?_|refine yF ?_);conv=>whnf))
            refine Does.mono (HT.set hA86 (om := 15) (key := key) (b := bb) rfl (by simp) hbb) ?_
            rintro r w ⟨m', HT⟩
            ((conv=>whnf);repeat((first|refine mvT ?_|refine mvF ?_|refine yT ?_|refine yF ?_);conv=>whnf))
            have htag : tagIx dFetchRequest 0 key = none := tagIx_no fun f hf => by
              simp only [dFetchRequest, List.mem_cons, List.not_mem_nil, or_false] at hf
              rcases hf with rfl | rfl | rfl | rfl | rfl | rfl | rfl | rfl | rfl | rfl | rfl | rfl <;> (simp only [Fd.tag]; omega)
            refine ⟨j, ⟨?_, rfl, rfl, rfl, rfl, rfl, rfl, trivial⟩, ⟨st3, m', _, _, _, _, _, _, _, (rdTgX_none hu1 hu2 hsp htag).symm.trans hrun, by omega, HT⟩, by omega⟩
            show some (Value.int .u32 _) = _
            rw [wrap_u32]
            simp only [Option.some.injEq, Value.int.injEq, true_and]
            omega
      · have hi0 : i = 0 := by have := of_decide_eq_false h9; omega
        subst hi0
        ((conv=>whnf);repeat((first|refine mvT ?_|refine mvF ?_|refine yT ?_|refine yF ?_);conv=>whnf))
        have H := TgS.out HA86 HT
        have H := Slot.out HA86 (HT.slots.1) H
        have H := Slot.out HA86 (HT.slots.2) H
        exact ⟨(m, u, st, c0_0, xc0, c1_0, c1_1, c1_2, xc1), ⟨rfl, rfl, rfl, rfl, rfl, rfl, trivial⟩, tail_end (by decide) hc hrun, H⟩
    · ((conv=>whnf);repeat((first|refine mvT ?_|refine mvF ?_|refine yT ?_|refine yF ?_);conv=>whnf))
      have H := H.add (Q := fun w => TGf w0 G0 (.map none) [] w) fun w' _ => TagsR.nil _ _
      have H := H.add (Q := fun w => QField true 9 (.mk 8 0 (-1) 0 0 0 0 []) ⟨w, FG w0 G0⟩ [.pointer none] (.mk 0 [] true [] [])) fun w' _ => QF8n (by decide) (fun _ => rfl) (.inl ⟨rfl, rfl⟩)
      have H := H.add (Q := fun w => QField true 9 (.mk 10 0 (-1) (-1) 1 0 0 dFetchRequestReplicaState) ⟨w, FG w0 G0⟩ [.int .i32 (-1), .int .i64 (-1), .map none] (.mk 0 [] false [numT (-1), numT (-1)] [])) fun w' _ => QF10 (QPt (QA1 (QF3 rfl) (QA1 (QF4 rfl) (QA0))) (TagsR.nil _ _))
      exact ⟨(.map none, [], s83, .pointer none, .mk 0 [] true [] [], .int .i32 (-1), .int .i64 (-1), .map none, .mk 0 [] false [numT (-1), numT (-1)] []), ⟨rfl, rfl, rfl, rfl, rfl, rfl, trivial⟩, tail_none (by decide) hc, H⟩
  clear H
  rintro ⟨m99, u99, s99, t99_0_0, xt99_0, t99_1_0, t99_1_1, t99_1_2, xt99_1⟩ w ⟨htl, H⟩
  dsimp only at htl H
  ((conv=>whnf);repeat((first|refine mvT ?_|refine mvF ?_|refine yT ?_|refine yF ?_);conv=>whnf))
  obtain ⟨P100, hP100⟩ : ∃ P : World → Prop, P = fun w => TGf w0 G0 m99 u99 w ∧ P82 w := ⟨_, rfl⟩
  obtain ⟨P101, hP101⟩ : ∃ P : World → Prop, P = fun w => QField true 9 (.mk 8 0 (-1) 0 0 0 0 []) ⟨w, FG w0 G0⟩ [t99_0_0] (xt99_0) ∧ P100 w := ⟨_, rfl⟩
  obtain ⟨P102, hP102⟩ : ∃ P : World → Prop, P = fun w => QField true 9 (.mk 10 0 (-1) (-1) 1 0 0 dFetchRequestReplicaState) ⟨w, FG w0 G0⟩ [t99_1_0, t99_1_1, t99_1_2] (xt99_1) ∧ P101 w := ⟨_, rfl⟩
  replace H : St w0 G0 p pb s99 ((p, ty, [] ++ [.int .i16 v, t99_0_0, .int .i32 n1, t99_1_0, t99_1_1, t99_1_2, .int .i32 n4, .int .i32 n6, .int .i32 n8, .int .i8 n11, .int .i32 n14, .int .i32 n17, a20, c63, str u83, m99] ++ []) :: []) P102 w := by rw [hP102, hP101, hP100]; exact H
  have hall : rdAll (rdField 9 v fx) (dfT 9) v dFetchRequest (l, false) = ([.mk 0 [] true [] [], numT n1, .mk 0 [] false [numT (-1), numT (-1)] [], numT n4, numT n6, numT n8, numT n11, numT n14, numT n17, .mk 0 [] (decide (n20 ≤ 0)) l60 [], .mk 0 [] nl63 l63 [], .mk 0 u83 false [] []], s83) := by
    rw [rdAll_tag (f := (.mk 8 0 (-1) 0 0 0 0 [])) (by decide), rdAll_ver hr1 (by decide), rdAll_tag (f := (.mk 10 0 (-1) (-1) 1 0 0 dFetchRequestReplicaState)) (by decide), rdAll_yes (df := dfT 9) (rdField3.trans hr4) ⟨by decide, has_all hv⟩, rdAll_yes (df := dfT 9) (rdField3.trans hr6) ⟨by decide, has_all hv⟩, rdAll_ver hr8 (by decide), rdAll_ver hr11 (by decide), rdAll_ver hr14 (by decide), rdAll_ver hr17 (by decide), rdAll_yes (df := dfT 9) ((rdField_list _ _ _ _ _ _ _ _ _ _ _).trans hr60) ⟨by decide, has_all hv⟩, rdAll_ver hr63 (by decide), rdAll_ver hr83 (by decide)]
    rfl
  have hpart : rdPart 9 v fx dFetchRequest (l, false) = (.mk 0 [] false [xt99_0, numT n1, xt99_1, numT n4, numT n6, numT n8, numT n11, numT n14, numT n17, .mk 0 [] (decide (n20 ≤ 0)) l60 [], .mk 0 [] nl63 l63 [], .mk 0 u83 false [] []] u99, s99) := by
    simp only [rdPart, rdPartW, hall, htl]
  refine Does.mono (H.done hL hp1) ?_
  rintro r w ⟨rfl, H⟩
  ((conv=>whnf);repeat((first|refine mvT ?_|refine mvF ?_|refine yT ?_|refine yF ?_);conv=>whnf))
  refine RdPost.end hpart H fun hP => ?_
  rw [hP102] at hP
  obtain ⟨hf102_, hP⟩ := hP
  rw [hP101] at hP
  obtain ⟨hf101_, hP⟩ := hP
  rw [hP100] at hP
  obtain ⟨hf100_, hP⟩ := hP
  rw [hP82] at hP
  obtain ⟨hf82_, hP⟩ := hP
  rw [hP61] at hP
  obtain ⟨hf61_, hP⟩ := hP
  exact QPt (QA1 (hf101_) (QA1 (QF3 hn1) (QA1 (hf102_) (QA1 (QF3 hn4) (QA1 (QF3 hn6) (QA1 (QF3 hn8) (QA1 (QF1 hn11) (QA1 (QF3 hn14) (QA1 (QF3 hn17) (QA1 (QF11 hl60 hf61_) (QA1 (QF11 hnl63 hf82_) (QA1 (QF8 (by decide) u83) (QA0))))))))))))) hf100_
end Go.Proofs.YtgfkjnbhcekfkaaGreatDoor.K
