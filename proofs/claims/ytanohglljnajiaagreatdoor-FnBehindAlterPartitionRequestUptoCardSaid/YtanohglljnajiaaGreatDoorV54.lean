/- Reading of AlterPartitionRequest. -/
import Derived.Test.YtanohglljnajiaaGreatDoorE5
set_option linter.unusedVariables false
set_option linter.unusedSimpArgs false
namespace Go.Proofs.YtanohglljnajiaaGreatDoor.K
open Go
set_option maxHeartbeats 4000000
set_option maxRecDepth 100000

abbrev dAlterPartitionRequestTopicPartitionNewEpochISR : List Fd := [.mk 3 0 (-1) (-1) (-1) 0 0 [], .mk 4 0 (-1) (-1) (-1) (-1) 0 []]
abbrev dAlterPartitionRequestTopicPartition : List Fd := [.mk 3 0 (-1) (-1) (-1) 0 0 [], .mk 3 0 (-1) (-1) (-1) 0 0 [], .mk 11 0 2 (-1) (-1) 0 3 [], .mk 11 3 (-1) (-1) (-1) 0 10 dAlterPartitionRequestTopicPartitionNewEpochISR, .mk 1 1 (-1) (-1) (-1) 0 0 [], .mk 3 0 (-1) (-1) (-1) 0 0 []]
abbrev dAlterPartitionRequestTopic : List Fd := [.mk 8 0 1 (-1) (-1) 0 0 [], .mk 7 2 (-1) (-1) (-1) 0 0 [], .mk 11 0 (-1) (-1) (-1) 0 10 dAlterPartitionRequestTopicPartition]
abbrev dAlterPartitionRequest : List Fd := [.mk 3 0 (-1) (-1) (-1) 0 0 [], .mk 4 0 (-1) (-1) (-1) (-1) 0 [], .mk 11 0 (-1) (-1) (-1) 0 10 dAlterPartitionRequestTopic]
theorem sAlterPartitionRequestTopicPartitionNewEpochISR (w : World) : Does X.P 172 #[] w fun r w' => FdsR w' (fun k => w.heap.size ≤ k) r dAlterPartitionRequestTopicPartitionNewEpochISR ∧ Ext nob w w' := by
  have hx0 : Ext nob w w := Ext.refl _ _
  refine Does.go (X := X) (l := []) Tryz.func172 rfl (by kernel_rfl) (by kernel_rfl) _ rfl ?_
  ((conv=>whnf);repeat(first|(refine mvT ?_;conv=>whnf)|(refine mvF ?_;conv=>whnf)|(refine cT (by rfl) ?_;conv=>whnf)|(refine cF (by rfl) ?_;conv=>whnf)))
  have hxs := hx0
  intro b wb hb ho hx
  have hx0 := hx0.e0 hx
  ((conv=>whnf);repeat(first|(refine mvT ?_;conv=>whnf)|(refine mvF ?_;conv=>whnf)|(refine cT (by rfl) ?_;conv=>whnf)|(refine cF (by rfl) ?_;conv=>whnf)))
  refine ⟨?_, hx0⟩
  exact FdL.fds (cs := [[.int .i64 3, .int .i64 0, .int .i64 (-1), .int .i64 (-1), .int .i64 (-1), .int .i64 0, .int .i64 0, .slice none 0 0], [.int .i64 4, .int .i64 0, .int .i64 (-1), .int .i64 (-1), .int .i64 (-1), .int .i64 (-1), .int .i64 0, .slice none 0 0]])
    ⟨fdLeaf _ _ _ _ _ _ _ _ _, fdLeaf _ _ _ _ _ _ _ _ _, trivial⟩ ho rfl (by decide) (by have := hxs.size; omega)
theorem sAlterPartitionRequestTopicPartition (w : World) : Does X.P 123 #[] w fun r w' => FdsR w' (fun k => w.heap.size ≤ k) r dAlterPartitionRequestTopicPartition ∧ Ext nob w w' := by
  have hx0 : Ext nob w w := Ext.refl _ _
  refine Does.go (X := X) (l := []) Tryz.func123 rfl (by kernel_rfl) (by kernel_rfl) _ rfl ?_
  ((conv=>whnf);repeat(first|(refine mvT ?_;conv=>whnf)|(refine mvF ?_;conv=>whnf)|(refine cT (by rfl) ?_;conv=>whnf)|(refine cF (by rfl) ?_;conv=>whnf)))
  refine Does.mono (sAlterPartitionRequestTopicPartitionNewEpochISR w) ?_
  rintro v3 wv3 ⟨hv3, hc⟩
  have hv3 := hv3.mono (F' := fun k => w.heap.size ≤ k) fun k _ h => Nat.le_trans hx0.size h
  obtain ⟨lv3, gv3, _⟩ := id hv3
  obtain ⟨av3, kv3, rfl, _⟩ := gv3.view
  ((conv=>whnf);repeat(first|(refine mvT ?_;conv=>whnf)|(refine mvF ?_;conv=>whnf)|(refine cT (by rfl) ?_;conv=>whnf)|(refine cF (by rfl) ?_;conv=>whnf)))
  have hx0 := hx0.e0 hc
  have hxs := hx0
  intro b wb hb ho hx
  have hx0 := hx0.e0 hx
  ((conv=>whnf);repeat(first|(refine mvT ?_;conv=>whnf)|(refine mvF ?_;conv=>whnf)|(refine cT (by rfl) ?_;conv=>whnf)|(refine cF (by rfl) ?_;conv=>whnf)))
  refine ⟨?_, hx0⟩
  exact FdL.fds (cs := [[.int .i64 3, .int .i64 0, .int .i64 (-1), .int .i64 (-1), .int .i64 (-1), .int .i64 0, .int .i64 0, .slice none 0 0], [.int .i64 3, .int .i64 0, .int .i64 (-1), .int .i64 (-1), .int .i64 (-1), .int .i64 0, .int .i64 0, .slice none 0 0], [.int .i64 11, .int .i64 0, .int .i64 2, .int .i64 (-1), .int .i64 (-1), .int .i64 0, .int .i64 3, .slice none 0 0], [.int .i64 11, .int .i64 3, .int .i64 (-1), .int .i64 (-1), .int .i64 (-1), .int .i64 0, .int .i64 10, .slice av3 lv3.length kv3], [.int .i64 1, .int .i64 1, .int .i64 (-1), .int .i64 (-1), .int .i64 (-1), .int .i64 0, .int .i64 0, .slice none 0 0], [.int .i64 3, .int .i64 0, .int .i64 (-1), .int .i64 (-1), .int .i64 (-1), .int .i64 0, .int .i64 0, .slice none 0 0]])
    ⟨fdLeaf _ _ _ _ _ _ _ _ _, fdLeaf _ _ _ _ _ _ _ _ _, fdLeaf _ _ _ _ _ _ _ _ _, FdC.of (hv3.e0 hx) _ _ _ _ _ _ _, fdLeaf _ _ _ _ _ _ _ _ _, fdLeaf _ _ _ _ _ _ _ _ _, trivial⟩ ho rfl (by decide) (by have := hxs.size; omega)
theorem sAlterPartitionRequestTopic (w : World) : Does X.P 71 #[] w fun r w' => FdsR w' (fun k => w.heap.size ≤ k) r dAlterPartitionRequestTopic ∧ Ext nob w w' := by
  have hx0 : Ext nob w w := Ext.refl _ _
  refine Does.go (X := X) (l := []) Tryz.func71 rfl (by kernel_rfl) (by kernel_rfl) _ rfl ?_
  ((conv=>whnf);repeat(first|(refine mvT ?_;conv=>whnf)|(refine mvF ?_;conv=>whnf)|(refine cT (by rfl) ?_;conv=>whnf)|(refine cF (by rfl) ?_;conv=>whnf)))
  refine Does.mono (sAlterPartitionRequestTopicPartition w) ?_
  rintro v2 wv2 ⟨hv2, hc⟩
  have hv2 := hv2.mono (F' := fun k => w.heap.size ≤ k) fun k _ h => Nat.le_trans hx0.size h
  obtain ⟨lv2, gv2, _⟩ := id hv2
  obtain ⟨av2, kv2, rfl, _⟩ := gv2.view
  ((conv=>whnf);repeat(first|(refine mvT ?_;conv=>whnf)|(refine mvF ?_;conv=>whnf)|(refine cT (by rfl) ?_;conv=>whnf)|(refine cF (by rfl) ?_;conv=>whnf)))
  have hx0 := hx0.e0 hc
  have hxs := hx0
  intro b wb hb ho hx
  have hx0 := hx0.e0 hx
  ((conv=>whnf);repeat(first|(refine mvT ?_;conv=>whnf)|(refine mvF ?_;conv=>whnf)|(refine cT (by rfl) ?_;conv=>whnf)|(refine cF (by rfl) ?_;conv=>whnf)))
  refine ⟨?_, hx0⟩
  exact FdL.fds (cs := [[.int .i64 8, .int .i64 0, .int .i64 1, .int .i64 (-1), .int .i64 (-1), .int .i64 0, .int .i64 0, .slice none 0 0], [.int .i64 7, .int .i64 2, .int .i64 (-1), .int .i64 (-1), .int .i64 (-1), .int .i64 0, .int .i64 0, .slice none 0 0], [.int .i64 11, .int .i64 0, .int .i64 (-1), .int .i64 (-1), .int .i64 (-1), .int .i64 0, .int .i64 10, .slice av2 lv2.length kv2]])
    ⟨fdLeaf _ _ _ _ _ _ _ _ _, fdLeaf _ _ _ _ _ _ _ _ _, FdC.of (hv2.e0 hx) _ _ _ _ _ _ _, trivial⟩ ho rfl (by decide) (by have := hxs.size; omega)
theorem sAlterPartitionRequest (w : World) : Does X.P 30 #[] w fun r w' => Msg w' (fun k => w.heap.size ≤ k) r dAlterPartitionRequest 0 ∧ Ext nob w w' := by
  have hx0 : Ext nob w w := Ext.refl _ _
  refine Does.go (X := X) (l := []) Tryz.func30 rfl (by kernel_rfl) (by kernel_rfl) _ rfl ?_
  ((conv=>whnf);repeat(first|(refine mvT ?_;conv=>whnf)|(refine mvF ?_;conv=>whnf)|(refine cT (by rfl) ?_;conv=>whnf)|(refine cF (by rfl) ?_;conv=>whnf)))
  intro b w1 hb ho hx
  have hx0 := hx0.e0 hx
  have ho := ho
  ((conv=>whnf);repeat(first|(refine mvT ?_;conv=>whnf)|(refine mvF ?_;conv=>whnf)|(refine cT (by rfl) ?_;conv=>whnf)|(refine cF (by rfl) ?_;conv=>whnf)))
  refine Does.mono (sAlterPartitionRequestTopic w1) ?_
  rintro v2 wv2 ⟨hv2, hc⟩
  have hv2 := hv2.mono (F' := fun k => w.heap.size ≤ k ∧ b < k) fun k _ h => ⟨Nat.le_trans hx0.size h, Nat.lt_of_lt_of_le ho.lt h⟩
  obtain ⟨lv2, gv2, _⟩ := id hv2
  obtain ⟨av2, kv2, rfl, _⟩ := gv2.view
  ((conv=>whnf);repeat(first|(refine mvT ?_;conv=>whnf)|(refine mvF ?_;conv=>whnf)|(refine cT (by rfl) ?_;conv=>whnf)|(refine cF (by rfl) ?_;conv=>whnf)))
  have hx0 := hx0.e0 hc
  have ho := ho.e0 hc
  have hxs := hx0
  intro b2 w2 hb2 ho2 hx2
  ((conv=>whnf);repeat(first|(refine mvT ?_;conv=>whnf)|(refine mvF ?_;conv=>whnf)|(refine cT (by rfl) ?_;conv=>whnf)|(refine cF (by rfl) ?_;conv=>whnf)))
  have hx0 := hx0.e0 hx2
  refine ⟨_, _, ho.e0 hx2, rfl, rfl, rfl, ?_⟩
  intro w3 ho3 hx3
  have hx03 := hx0.st hx3 hb
  ((conv=>whnf);repeat(first|(refine mvT ?_;conv=>whnf)|(refine mvF ?_;conv=>whnf)|(refine cT (by rfl) ?_;conv=>whnf)|(refine cF (by rfl) ?_;conv=>whnf)))
  refine ⟨_, rfl, ho3.cells, ?_⟩
  refine ⟨⟨_, rfl, ?_⟩, hx03⟩
  have ho2 := ho2.ext hx3 (by have := ho.lt; omega)
  have hs := hx0.size
  have hs2 : w.heap.size ≤ b2 := Nat.le_trans hxs.size hb2
  exact FdL.fds (cs := [[.int .i64 3, .int .i64 0, .int .i64 (-1), .int .i64 (-1), .int .i64 (-1), .int .i64 0, .int .i64 0, .slice none 0 0], [.int .i64 4, .int .i64 0, .int .i64 (-1), .int .i64 (-1), .int .i64 (-1), .int .i64 (-1), .int .i64 0, .slice none 0 0], [.int .i64 11, .int .i64 0, .int .i64 (-1), .int .i64 (-1), .int .i64 (-1), .int .i64 0, .int .i64 10, .slice av2 lv2.length kv2]])
    ⟨fdLeaf _ _ _ _ _ _ _ _ _, fdLeaf _ _ _ _ _ _ _ _ _, FdC.of (FdsR.mono (FdsR.ext (FdsR.e0 hv2 hx2) hx3 fun k _ h1 h2 => by omega) fun k _ h => h.1) _ _ _ _ _ _ _, trivial⟩ ho2 rfl (by decide) (by omega)
theorem dfAlterPartitionRequestTopicPartitionNewEpochISR {w : World} {q o : Nat} {T : TypeId} {pre cur post : List Value} (ho : Own w q T (pre ++ cur ++ post)) (hp : pre.length = o) (hl : cur.length = 3) :
    Does X.P 175 #[.pointer (some ⟨q, o, none⟩)] w fun r w' => Own w' q T (pre ++ (cur.set 1 (.int .i64 (-1))) ++ post) ∧ Ext (fun k => k = q) w w' := by
  have hx : Ext (fun k => k = q) w w := Ext.refl _ _
  refine Does.go (X := X) (l := [_]) Tryz.func175 rfl (by kernel_rfl) (by kernel_rfl) _ rfl ?_
  ((conv=>whnf);repeat(first|(refine mvT ?_;conv=>whnf)|(refine mvF ?_;conv=>whnf)|(refine cT (by rfl) ?_;conv=>whnf)|(refine cF (by rfl) ?_;conv=>whnf)))
  refine stm ho 1 rfl rfl hp (by omega) rfl (by first | omega | (simp only [List.length_set]; omega)) ?_
  intro w0 ho hxd
  have hx := hx.trans hxd fun _ _ h => h
  ((conv=>whnf);repeat(first|(refine mvT ?_;conv=>whnf)|(refine mvF ?_;conv=>whnf)|(refine cT (by rfl) ?_;conv=>whnf)|(refine cF (by rfl) ?_;conv=>whnf)))
  exact ⟨ho, hx⟩
theorem dfAlterPartitionRequestTopicPartition {w : World} {q o : Nat} {T : TypeId} {pre cur post : List Value} (ho : Own w q T (pre ++ cur ++ post)) (hp : pre.length = o) (hl : cur.length = 7) :
    Does X.P 174 #[.pointer (some ⟨q, o, none⟩)] w fun r w' => Own w' q T (pre ++ cur ++ post) ∧ Ext (fun k => k = q) w w' := by
  have hx : Ext (fun k => k = q) w w := Ext.refl _ _
  refine Does.go (X := X) (l := [_]) Tryz.func174 rfl (by kernel_rfl) (by kernel_rfl) _ rfl ?_
  ((conv=>whnf);repeat(first|(refine mvT ?_;conv=>whnf)|(refine mvF ?_;conv=>whnf)|(refine cT (by rfl) ?_;conv=>whnf)|(refine cF (by rfl) ?_;conv=>whnf)))
  exact ⟨ho, hx⟩
theorem dfAlterPartitionRequestTopic {w : World} {q o : Nat} {T : TypeId} {pre cur post : List Value} (ho : Own w q T (pre ++ cur ++ post)) (hp : pre.length = o) (hl : cur.length = 19) :
    Does X.P 173 #[.pointer (some ⟨q, o, none⟩)] w fun r w' => Own w' q T (pre ++ cur ++ post) ∧ Ext (fun k => k = q) w w' := by
  have hx : Ext (fun k => k = q) w w := Ext.refl _ _
  refine Does.go (X := X) (l := [_]) Tryz.func173 rfl (by kernel_rfl) (by kernel_rfl) _ rfl ?_
  ((conv=>whnf);repeat(first|(refine mvT ?_;conv=>whnf)|(refine mvF ?_;conv=>whnf)|(refine cT (by rfl) ?_;conv=>whnf)|(refine cF (by rfl) ?_;conv=>whnf)))
  exact ⟨ho, hx⟩
theorem dfAlterPartitionRequest {w : World} {q o : Nat} {T : TypeId} {pre cur post : List Value} (ho : Own w q T (pre ++ cur ++ post)) (hp : pre.length = o) (hl : cur.length = 5) :
    Does X.P 122 #[.pointer (some ⟨q, o, none⟩)] w fun r w' => Own w' q T (pre ++ (cur.set 2 (.int .i64 (-1))) ++ post) ∧ Ext (fun k => k = q) w w' := by
  have hx : Ext (fun k => k = q) w w := Ext.refl _ _
  refine Does.go (X := X) (l := [_]) Tryz.func122 rfl (by kernel_rfl) (by kernel_rfl) _ rfl ?_
  ((conv=>whnf);repeat(first|(refine mvT ?_;conv=>whnf)|(refine mvF ?_;conv=>whnf)|(refine cT (by rfl) ?_;conv=>whnf)|(refine cF (by rfl) ?_;conv=>whnf)))
  refine stm ho 2 rfl rfl hp (by omega) rfl (by first | omega | (simp only [List.length_set]; omega)) ?_
  intro w0 ho hxd
  have hx := hx.trans hxd fun _ _ h => h
  ((conv=>whnf);repeat(first|(refine mvT ?_;conv=>whnf)|(refine mvF ?_;conv=>whnf)|(refine cT (by rfl) ?_;conv=>whnf)|(refine cF (by rfl) ?_;conv=>whnf)))
  exact ⟨ho, hx⟩
theorem readAlterPartitionRequest {w0 : World} {F : Nat → Prop} {p : Nat} {ty : TypeId} {v : Int} {x ev : Value} {l : List UInt8} (hL : Laid w0 ev) (hp : Own w0 p ty [.int .i16 v, .int .i32 0, .int .i64 (-1), .slice none 0 0, .map none]) (hx : Bytes w0 F x l) (hF : ∀ k, F k → k ≠ p) (hv : 0 ≤ v) (hp1 : p ≠ errG) :
    Does X.P 124 #[.pointer (some ⟨p, 0, none⟩), x, .bool false] w0 fun r w' => RdPost w0 p ty v (decide (v ≥ 0)) true dAlterPartitionRequest ev l r w' := by
  have hpl := hp.lt
  obtain ⟨fx, hfx⟩ : ∃ fx, fx = decide (v ≥ 0) := ⟨_, rfl⟩
  rw [← hfx]
  obtain ⟨G0, hG0, hx⟩ : ∃ G0 : Nat → Prop, (∀ k, G0 k → k < w0.heap.size ∧ k ≠ p) ∧ Bytes w0 G0 x l := ⟨fun k => F k ∧ k < w0.heap.size, fun k h => ⟨h.2, hF k h.1⟩, Sl.mono hx fun k hk h => ⟨h, hk⟩⟩
  obtain ⟨a0, c0, rfl, _⟩ := hx.view
  refine Does.go (X := X) (l := [_, _, _]) Tryz.func124 rfl (by kernel_rfl) (by kernel_rfl) _ rfl ?_
  ((conv=>whnf);repeat(first|(refine mvT ?_;conv=>whnf)|(refine mvF ?_;conv=>whnf)|(refine cT (by rfl) ?_;conv=>whnf)|(refine cF (by rfl) ?_;conv=>whnf)))
  refine Does.mono (dfAlterPartitionRequest (pre := []) (cur := [.int .i16 v, .int .i32 0, .int .i64 (-1), .slice none 0 0, .map none]) (post := []) (by simpa using hp) rfl rfl) ?_
  rintro rd wd ⟨hpd, hxd⟩
  ((conv=>whnf);repeat(first|(refine mvT ?_;conv=>whnf)|(refine mvF ?_;conv=>whnf)|(refine cT (by rfl) ?_;conv=>whnf)|(refine cF (by rfl) ?_;conv=>whnf)))
  intro pb w1 hpb hb hx1
  ((conv=>whnf);repeat(first|(refine mvT ?_;conv=>whnf)|(refine mvF ?_;conv=>whnf)|(refine cT (by rfl) ?_;conv=>whnf)|(refine cF (by rfl) ?_;conv=>whnf)))
  refine st_all [.slice a0 l.length c0, .bool false] hb rfl rfl rfl ?_
  intro w hb hx2
  ((conv=>whnf);repeat(first|(refine mvT ?_;conv=>whnf)|(refine mvF ?_;conv=>whnf)|(refine cT (by rfl) ?_;conv=>whnf)|(refine cF (by rfl) ?_;conv=>whnf)))
  have hsd := hxd.size
  have hwp : w0.heap.size ≤ pb := by omega
  have he1 : Ext nob wd w := hx1.trans hx2 fun k hk h => by omega
  have hpw : Own w p ty [.int .i16 v, .int .i32 0, .int .i64 (-1), .slice none 0 0, .map none] := by have := hpd.e0 he1; simpa using this
  have he := hxd.tr0 he1
  have H := St.init hpw hb (hx.ext he fun k _ h => (hG0 k h).2) hG0 he hpl hwp
  clear hpd hxd hx1 hx2 hb hpw he1 hp
  refine ldS (H.cell (o := 0) rfl (k := 0) rfl) ?_;((conv=>whnf);repeat(first|(refine mvT ?_;conv=>whnf)|(refine mvF ?_;conv=>whnf)|(refine cT (by rfl) ?_;conv=>whnf)|(refine cF (by rfl) ?_;conv=>whnf)))
  rw [← hfx]
  (refine mvB ?_;((conv=>whnf);repeat(first|(refine mvT ?_;conv=>whnf)|(refine mvF ?_;conv=>whnf)|(refine cT (by rfl) ?_;conv=>whnf)|(refine cF (by rfl) ?_;conv=>whnf))))
  have hup0 : tailBad 9 v fx dAlterPartitionRequest (l, false) = true → (rdPart 9 v fx dAlterPartitionRequest (l, false)).2.2 = true := id
  refine Does.mono H.int32 ?_
  rintro r w ⟨n1, s1, rfl, hn1, hr1, H⟩
  ((conv=>whnf);repeat(first|(refine mvT ?_;conv=>whnf)|(refine mvF ?_;conv=>whnf)|(refine cT (by rfl) ?_;conv=>whnf)|(refine cF (by rfl) ?_;conv=>whnf)))
  refine H.st1 (v := .int .i32 n1) 1 (rfl) (rfl) rfl (by simp) rfl (Nat.lt_of_lt_of_le (Nat.lt_succ_self _) (Nat.le_of_ble_eq_true rfl)) ?_
  intro w H
  ((conv=>whnf);repeat(first|(refine mvT ?_;conv=>whnf)|(refine mvF ?_;conv=>whnf)|(refine cT (by rfl) ?_;conv=>whnf)|(refine cF (by rfl) ?_;conv=>whnf)))
  replace H : St w0 G0 p pb s1 ((p, ty, [] ++ [.int .i16 v, .int .i32 n1, .int .i64 (-1), .slice none 0 0, .map none] ++ []) :: []) (fun _ => True) w := H
  refine Does.mono H.int64 ?_
  rintro r w ⟨n3, s3, rfl, hn3, hr3, H⟩
  ((conv=>whnf);repeat(first|(refine mvT ?_;conv=>whnf)|(refine mvF ?_;conv=>whnf)|(refine cT (by rfl) ?_;conv=>whnf)|(refine cF (by rfl) ?_;conv=>whnf)))
  refine H.st1 (v := .int .i64 n3) 2 (rfl) (rfl) rfl (by simp) rfl (Nat.lt_of_lt_of_le (Nat.lt_succ_self _) (Nat.le_of_ble_eq_true rfl)) ?_
  intro w H
  ((conv=>whnf);repeat(first|(refine mvT ?_;conv=>whnf)|(refine mvF ?_;conv=>whnf)|(refine cT (by rfl) ?_;conv=>whnf)|(refine cF (by rfl) ?_;conv=>whnf)))
  replace H : St w0 G0 p pb s3 ((p, ty, [] ++ [.int .i16 v, .int .i32 n1, .int .i64 n3, .slice none 0 0, .map none] ++ []) :: []) (fun _ => True) w := H
  refine ldS (H.cell (o := 0) rfl (k := 3) rfl) ?_;((conv=>whnf);repeat(first|(refine mvT ?_;conv=>whnf)|(refine mvF ?_;conv=>whnf)|(refine cT (by rfl) ?_;conv=>whnf)|(refine cF (by rfl) ?_;conv=>whnf)))
  (refine mvB ?_;((conv=>whnf);repeat(first|(refine mvT ?_;conv=>whnf)|(refine mvF ?_;conv=>whnf)|(refine cT (by rfl) ?_;conv=>whnf)|(refine cF (by rfl) ?_;conv=>whnf))))
  refine VC.cutE (fun q : Int × Rd => [(15, .int .i32 q.1), (14, .slice none 0 0), (0, .pointer (some ⟨p, 0, none⟩)), (2, .bool false), (7, .pointer (some ⟨pb, 0, none⟩)), (8, .int .i16 v), (9, .bool fx), (10, .pointer (some ⟨p, 0, none⟩))]) (fun q w' => (-2147483648 ≤ q.1 ∧ q.1 ≤ 2147483647) ∧ rdLn fx s3 = q ∧ St w0 G0 p pb q.2 ((p, ty, [] ++ [.int .i16 v, .int .i32 n1, .int .i64 n3, .slice none 0 0, .map none] ++ []) :: []) (fun _ => True) w') ?_ ?_
  · refine cI (by rfl) (fun hc=>?_) (fun hc=>?_)
    · ((conv=>whnf);repeat(first|(refine mvT ?_;conv=>whnf)|(refine mvF ?_;conv=>whnf)|(refine cT (by rfl) ?_;conv=>whnf)|(refine cF (by rfl) ?_;conv=>whnf)))
      refine Does.mono H.lnc ?_
      rintro r w ⟨n, s', rfl, hn, hr, H⟩
      ((conv=>whnf);repeat(first|(refine mvT ?_;conv=>whnf)|(refine mvF ?_;conv=>whnf)|(refine cT (by rfl) ?_;conv=>whnf)|(refine cF (by rfl) ?_;conv=>whnf)))
      exact ⟨(n, s'), ⟨rfl, rfl, rfl, rfl, rfl, rfl, rfl, rfl, trivial⟩, hn, by rw [hc]; exact hr, H⟩
    · ((conv=>whnf);repeat(first|(refine mvT ?_;conv=>whnf)|(refine mvF ?_;conv=>whnf)|(refine cT (by rfl) ?_;conv=>whnf)|(refine cF (by rfl) ?_;conv=>whnf)))
      refine Does.mono H.lnp ?_
      rintro r w ⟨n, s', rfl, hn, hr, H⟩
      ((conv=>whnf);repeat(first|(refine mvT ?_;conv=>whnf)|(refine mvF ?_;conv=>whnf)|(refine cT (by rfl) ?_;conv=>whnf)|(refine cF (by rfl) ?_;conv=>whnf)))
      exact ⟨(n, s'), ⟨rfl, rfl, rfl, rfl, rfl, rfl, rfl, rfl, trivial⟩, hn, by rw [hc]; exact hr, H⟩
  clear H
  rintro ⟨n5, s5⟩ w ⟨hn5, hln5, H⟩
  dsimp only at hn5 hln5 H
  ((conv=>whnf);repeat(first|(refine mvT ?_;conv=>whnf)|(refine mvF ?_;conv=>whnf)|(refine cT (by rfl) ?_;conv=>whnf)|(refine cF (by rfl) ?_;conv=>whnf)))
  refine Does.mono H.ok ?_
  rintro r w ⟨rfl, H⟩
  ((conv=>whnf);repeat(first|(refine mvT ?_;conv=>whnf)|(refine mvF ?_;conv=>whnf)|(refine cT (by rfl) ?_;conv=>whnf)|(refine cF (by rfl) ?_;conv=>whnf)))
  refine cI (by rfl) (fun hbd=>?_) (fun hbd=>?_)
  · have hbd : s5.2 = true := by simpa using hbd
    ((conv=>whnf);repeat(first|(refine mvT ?_;conv=>whnf)|(refine mvF ?_;conv=>whnf)|(refine cT (by rfl) ?_;conv=>whnf)|(refine cF (by rfl) ?_;conv=>whnf)))
    refine Does.mono (H.done hL hp1) ?_
    rintro r w ⟨rfl, H⟩
    ((conv=>whnf);repeat(first|(refine mvT ?_;conv=>whnf)|(refine mvF ?_;conv=>whnf)|(refine cT (by rfl) ?_;conv=>whnf)|(refine cF (by rfl) ?_;conv=>whnf)))
    refine RdPost.early hbd (hup0 (?_)) H
    rw [tail_yes (rdField3.trans hr1) ⟨by decide, has_all hv⟩, tail_yes (rdField4.trans hr3) ⟨by decide, has_all hv⟩, tail_len ⟨by decide, has_all hv⟩ hln5 hbd]
  have hbd : s5.2 = false := by simpa using hbd
  clear hbd
  ((conv=>whnf);repeat(first|(refine mvT ?_;conv=>whnf)|(refine mvF ?_;conv=>whnf)|(refine cT (by rfl) ?_;conv=>whnf)|(refine cF (by rfl) ?_;conv=>whnf)))
  refine cut_zero ?_
  ((conv=>whnf);repeat(first|(refine mvT ?_;conv=>whnf)|(refine mvF ?_;conv=>whnf)|(refine cT (by rfl) ?_;conv=>whnf)|(refine cF (by rfl) ?_;conv=>whnf)))
  refine VC.cutE (fun a : Value => [(15, .int .i32 n5), (14, a), (0, .pointer (some ⟨p, 0, none⟩)), (2, .bool false), (7, .pointer (some ⟨pb, 0, none⟩)), (8, .int .i16 v), (9, .bool fx), (10, .pointer (some ⟨p, 0, none⟩))]) (fun a w' => ListI w0 G0 p pb 156 [str [], .int .u8 0, .int .u8 0, .int .u8 0, .int .u8 0, .int .u8 0, .int .u8 0, .int .u8 0, .int .u8 0, .int .u8 0, .int .u8 0, .int .u8 0, .int .u8 0, .int .u8 0, .int .u8 0, .int .u8 0, .int .u8 0, .slice none 0 0, .map none] (elR 8 v fx 10 dAlterPartitionRequestTopic) (elQ true 8 10 dAlterPartitionRequestTopic) s5 n5 (decide (n5 ≤ 0)) ((p, ty, [] ++ [.int .i16 v, .int .i32 n1, .int .i64 n3, .slice none 0 0, .map none] ++ []) :: []) (fun _ => True) a 0 w') ?_ ?_
  · refine cI (by rfl) (fun hps=>?_) (fun hps=>?_)
    · have hps : 0 < n5 := by have := of_decide_eq_true hps; omega
      ((conv=>whnf);repeat(first|(refine mvT ?_;conv=>whnf)|(refine mvF ?_;conv=>whnf)|(refine cT (by rfl) ?_;conv=>whnf)|(refine cF (by rfl) ?_;conv=>whnf)))
      refine H.grow hps hn5.2 (by decide) rfl rfl (by decide) ?_
      intro g cap post w hc1 hc2 H
      ((conv=>whnf);repeat(first|(refine mvT ?_;conv=>whnf)|(refine mvF ?_;conv=>whnf)|(refine cT (by rfl) ?_;conv=>whnf)|(refine cF (by rfl) ?_;conv=>whnf)))
      exact ⟨_, ⟨rfl, rfl, rfl, rfl, rfl, rfl, rfl, rfl, trivial⟩, ListI.some hps (decide_eq_false (by omega)) hc1 hc2 H⟩
    · have hps : n5 ≤ 0 := by have := of_decide_eq_false hps; omega
      ((conv=>whnf);repeat(first|(refine mvT ?_;conv=>whnf)|(refine mvF ?_;conv=>whnf)|(refine cT (by rfl) ?_;conv=>whnf)|(refine cF (by rfl) ?_;conv=>whnf)))
      exact ⟨_, ⟨rfl, rfl, rfl, rfl, rfl, rfl, rfl, rfl, trivial⟩, ListI.none hps (decide_eq_true hps) H⟩
  clear H
  rintro a5 w H
  ((conv=>whnf);repeat(first|(refine mvT ?_;conv=>whnf)|(refine mvF ?_;conv=>whnf)|(refine cT (by rfl) ?_;conv=>whnf)|(refine cF (by rfl) ?_;conv=>whnf)))
  have hpL5 : inL ((p, ty, [] ++ [.int .i16 v, .int .i32 n1, .int .i64 n3, .slice none 0 0, .map none] ++ []) :: []) p := inL.head _ _
  refine VL.loop (fun i : Nat => [(15, .int .i32 n5), (14, a5), (16, .int .i32 i), (0, .pointer (some ⟨p, 0, none⟩)), (2, .bool false), (7, .pointer (some ⟨pb, 0, none⟩)), (8, .int .i16 v), (9, .bool fx), (10, .pointer (some ⟨p, 0, none⟩))]) (fun i w' => i ≤ 2147483647 ∧ ListI w0 G0 p pb 156 [str [], .int .u8 0, .int .u8 0, .int .u8 0, .int .u8 0, .int .u8 0, .int .u8 0, .int .u8 0, .int .u8 0, .int .u8 0, .int .u8 0, .int .u8 0, .int .u8 0, .int .u8 0, .int .u8 0, .int .u8 0, .int .u8 0, .slice none 0 0, .map none] (elR 8 v fx 10 dAlterPartitionRequestTopic) (elQ true 8 10 dAlterPartitionRequestTopic) s5 n5 (decide (n5 ≤ 0)) ((p, ty, [] ++ [.int .i16 v, .int .i32 n1, .int .i64 n3, .slice none 0 0, .map none] ++ []) :: []) (fun _ => True) a5 i w') (fun i => n5.toNat - i) 0 ⟨rfl, rfl, rfl, rfl, rfl, rfl, rfl, rfl, rfl, trivial⟩ ⟨by decide, H⟩ ?_
  clear H
  rintro i5 w ⟨hi5, H⟩
  ((conv=>whnf);repeat(first|(refine mvT ?_;conv=>whnf)|(refine mvF ?_;conv=>whnf)|(refine cT (by rfl) ?_;conv=>whnf)|(refine cF (by rfl) ?_;conv=>whnf)))
  refine cI (by rfl) (fun h9=>?_) (fun h9=>?_)
  · have hlt5 : (i5 : Int) < n5 := of_decide_eq_true h9
    obtain ⟨g5, cap5, post5, rfl, hgo5, HI⟩ := H.go hlt5
    obtain ⟨es5, ts5, si5, hes5, hez5, hrn5, hts5, hlen1, H⟩ := HI.open hgo5.2.2.2.2
    obtain ⟨L5, hL5⟩ : ∃ L : List Ob, L = ((p, ty, [] ++ [.int .i16 v, .int .i32 n1, .int .i64 n3, .slice none 0 0, .map none] ++ []) :: []) := ⟨_, rfl⟩
    rw [← hL5] at H hpL5
    obtain ⟨P5, hP5⟩ : ∃ P : World → Prop, P = fun w => (∀ (j : Nat) (c : List Value) (y : T), es5[j]? = some c → ts5[j]? = some y → elQ true 8 10 dAlterPartitionRequestTopic ⟨w, fun k => k ≠ p⟩ c y) ∧ (fun _ => True) w := ⟨_, rfl⟩
    rw [← hP5] at H
    replace H : St w0 G0 p pb si5 ((g5, 156, es5.flatten ++ [str [], .int .u8 0, .int .u8 0, .int .u8 0, .int .u8 0, .int .u8 0, .int .u8 0, .int .u8 0, .int .u8 0, .int .u8 0, .int .u8 0, .int .u8 0, .int .u8 0, .int .u8 0, .int .u8 0, .int .u8 0, .int .u8 0, .slice none 0 0, .map none] ++ ((List.replicate (n5.toNat - (i5 + 1)) [str [], .int .u8 0, .int .u8 0, .int .u8 0, .int .u8 0, .int .u8 0, .int .u8 0, .int .u8 0, .int .u8 0, .int .u8 0, .int .u8 0, .int .u8 0, .int .u8 0, .int .u8 0, .int .u8 0, .int .u8 0, .int .u8 0, .slice none 0 0, .map none]).flatten ++ post5)) :: L5) P5 w := H
    ((conv=>whnf);repeat(first|(refine mvT ?_;conv=>whnf)|(refine mvF ?_;conv=>whnf)|(refine cT (by rfl) ?_;conv=>whnf)|(refine cF (by rfl) ?_;conv=>whnf)))
    refine ⟨g5, 0, rfl, ⟨by omega, by omega⟩, ?_⟩
    ((conv=>whnf);repeat(first|(refine mvT ?_;conv=>whnf)|(refine mvF ?_;conv=>whnf)|(refine cT (by rfl) ?_;conv=>whnf)|(refine cF (by rfl) ?_;conv=>whnf)))
    refine Does.mono (dfAlterPartitionRequestTopic (pre := es5.flatten) (cur := [str [], .int .u8 0, .int .u8 0, .int .u8 0, .int .u8 0, .int .u8 0, .int .u8 0, .int .u8 0, .int .u8 0, .int .u8 0, .int .u8 0, .int .u8 0, .int .u8 0, .int .u8 0, .int .u8 0, .int .u8 0, .int .u8 0, .slice none 0 0, .map none]) (post := ((List.replicate (n5.toNat - (i5 + 1)) [str [], .int .u8 0, .int .u8 0, .int .u8 0, .int .u8 0, .int .u8 0, .int .u8 0, .int .u8 0, .int .u8 0, .int .u8 0, .int .u8 0, .int .u8 0, .int .u8 0, .int .u8 0, .int .u8 0, .int .u8 0, .int .u8 0, .slice none 0 0, .map none]).flatten ++ post5)) H.head (by first | (rw [hlen1]; simp; done) | (simp [hlen1]; done) | (simp [hlen1]; omega)) rfl) ?_
    rintro rd w2 ⟨hdf, hxd⟩
    replace H := H.put hdf hxd
    clear hdf hxd
    replace H : St w0 G0 p pb si5 ((g5, 156, es5.flatten ++ [str [], .int .u8 0, .int .u8 0, .int .u8 0, .int .u8 0, .int .u8 0, .int .u8 0, .int .u8 0, .int .u8 0, .int .u8 0, .int .u8 0, .int .u8 0, .int .u8 0, .int .u8 0, .int .u8 0, .int .u8 0, .int .u8 0, .slice none 0 0, .map none] ++ ((List.replicate (n5.toNat - (i5 + 1)) [str [], .int .u8 0, .int .u8 0, .int .u8 0, .int .u8 0, .int .u8 0, .int .u8 0, .int .u8 0, .int .u8 0, .int .u8 0, .int .u8 0, .int .u8 0, .int .u8 0, .int .u8 0, .int .u8 0, .int .u8 0, .int .u8 0, .slice none 0 0, .map none]).flatten ++ post5)) :: L5) P5 w2 := H
    ((conv=>whnf);repeat(first|(refine mvT ?_;conv=>whnf)|(refine mvF ?_;conv=>whnf)|(refine cT (by rfl) ?_;conv=>whnf)|(refine cF (by rfl) ?_;conv=>whnf)))
    have hup5 : tailBad 8 v fx dAlterPartitionRequestTopic si5 = true → (rdPart 9 v fx dAlterPartitionRequest (l, false)).2.2 = true := by
      intro hb
      refine hup0 ?_
      rw [tail_yes (rdField3.trans hr1) ⟨by decide, has_all hv⟩, tail_yes (rdField4.trans hr3) ⟨by decide, has_all hv⟩, tail_el ⟨by decide, has_all hv⟩ hln5 hgo5.2.2.2.2 hrn5 hb]
    intro cq hcq
    obtain rfl : cq = true := by rw [← hcq]; exact decide_eq_true hv
    ((conv=>whnf);repeat(first|(refine mvT ?_;conv=>whnf)|(refine mvF ?_;conv=>whnf)|(refine cT (by rfl) ?_;conv=>whnf)|(refine cF (by rfl) ?_;conv=>whnf)))
    refine VC.cutE (fun q : List UInt8 × Rd => [(0, .pointer (some ⟨p, 0, none⟩)), (2, .bool false), (7, .pointer (some ⟨pb, 0, none⟩)), (8, .int .i16 v), (9, .bool fx), (10, .pointer (some ⟨p, 0, none⟩)), (15, .int .i32 n5), (14, .slice (some ⟨g5, 0, none⟩) n5.toNat cap5), (16, .int .i32 i5), (17, .pointer (some ⟨g5, 0 + (i5 : Int).toNat * 19, none⟩)), (18, .pointer (some ⟨g5, 0 + (i5 : Int).toNat * 19, none⟩))]) (fun q w' => (if hasF (.mk 8 0 1 (-1) (-1) 0 0 []) v = true then rdField 8 v fx (.mk 8 0 1 (-1) (-1) 0 0 []) si5 else (dfT 8 (.mk 8 0 1 (-1) (-1) 0 0 []), si5)) = (.mk 0 q.1 false [] [], q.2) ∧ St w0 G0 p pb q.2 ((g5, 156, es5.flatten ++ [str q.1, .int .u8 0, .int .u8 0, .int .u8 0, .int .u8 0, .int .u8 0, .int .u8 0, .int .u8 0, .int .u8 0, .int .u8 0, .int .u8 0, .int .u8 0, .int .u8 0, .int .u8 0, .int .u8 0, .int .u8 0, .int .u8 0, .slice none 0 0, .map none] ++ ((List.replicate (n5.toNat - (i5 + 1)) [str [], .int .u8 0, .int .u8 0, .int .u8 0, .int .u8 0, .int .u8 0, .int .u8 0, .int .u8 0, .int .u8 0, .int .u8 0, .int .u8 0, .int .u8 0, .int .u8 0, .int .u8 0, .int .u8 0, .int .u8 0, .int .u8 0, .slice none 0 0, .map none]).flatten ++ post5)) :: L5) P5 w') ?_ ?_
    · refine cI (by rfl) (fun hcv=>?_) (fun hcv=>?_)
      · ((conv=>whnf);repeat(first|(refine mvT ?_;conv=>whnf)|(refine mvF ?_;conv=>whnf)|(refine cT (by rfl) ?_;conv=>whnf)|(refine cF (by rfl) ?_;conv=>whnf)))
        (refine mvB ?_;((conv=>whnf);repeat(first|(refine mvT ?_;conv=>whnf)|(refine mvF ?_;conv=>whnf)|(refine cT (by rfl) ?_;conv=>whnf)|(refine cF (by rfl) ?_;conv=>whnf))))
        refine VC.cutE (fun q : List UInt8 × Rd => [(19, str q.1), (0, .pointer (some ⟨p, 0, none⟩)), (2, .bool false), (7, .pointer (some ⟨pb, 0, none⟩)), (8, .int .i16 v), (9, .bool fx), (10, .pointer (some ⟨p, 0, none⟩)), (15, .int .i32 n5), (14, .slice (some ⟨g5, 0, none⟩) n5.toNat cap5), (16, .int .i32 i5), (17, .pointer (some ⟨g5, 0 + (i5 : Int).toNat * 19, none⟩)), (18, .pointer (some ⟨g5, 0 + (i5 : Int).toNat * 19, none⟩))]) (fun q w' => rdTx fx si5 = q ∧ St w0 G0 p pb q.2 ((g5, 156, es5.flatten ++ [str [], .int .u8 0, .int .u8 0, .int .u8 0, .int .u8 0, .int .u8 0, .int .u8 0, .int .u8 0, .int .u8 0, .int .u8 0, .int .u8 0, .int .u8 0, .int .u8 0, .int .u8 0, .int .u8 0, .int .u8 0, .int .u8 0, .slice none 0 0, .map none] ++ ((List.replicate (n5.toNat - (i5 + 1)) [str [], .int .u8 0, .int .u8 0, .int .u8 0, .int .u8 0, .int .u8 0, .int .u8 0, .int .u8 0, .int .u8 0, .int .u8 0, .int .u8 0, .int .u8 0, .int .u8 0, .int .u8 0, .int .u8 0, .int .u8 0, .int .u8 0, .slice none 0 0, .map none]).flatten ++ post5)) :: L5) P5 w') ?_ ?_
        · refine cI (by rfl) (fun hc=>?_) (fun hc=>?_)
          · ((conv=>whnf);repeat(first|(refine mvT ?_;conv=>whnf)|(refine mvF ?_;conv=>whnf)|(refine cT (by rfl) ?_;conv=>whnf)|(refine cF (by rfl) ?_;conv=>whnf)))
            refine Does.mono H.txc ?_
            rintro r w ⟨u, s', rfl, hr, H⟩
            ((conv=>whnf);repeat(first|(refine mvT ?_;conv=>whnf)|(refine mvF ?_;conv=>whnf)|(refine cT (by rfl) ?_;conv=>whnf)|(refine cF (by rfl) ?_;conv=>whnf)))
            exact ⟨(u, s'), ⟨rfl, rfl, rfl, rfl, rfl, rfl, rfl, rfl, rfl, rfl, rfl, rfl, trivial⟩, by rw [hc]; exact hr, H⟩
          · ((conv=>whnf);repeat(first|(refine mvT ?_;conv=>whnf)|(refine mvF ?_;conv=>whnf)|(refine cT (by rfl) ?_;conv=>whnf)|(refine cF (by rfl) ?_;conv=>whnf)))
            refine Does.mono H.txp ?_
            rintro r w ⟨u, s', rfl, hr, H⟩
            ((conv=>whnf);repeat(first|(refine mvT ?_;conv=>whnf)|(refine mvF ?_;conv=>whnf)|(refine cT (by rfl) ?_;conv=>whnf)|(refine cF (by rfl) ?_;conv=>whnf)))
            exact ⟨(u, s'), ⟨rfl, rfl, rfl, rfl, rfl, rfl, rfl, rfl, rfl, rfl, rfl, rfl, trivial⟩, by rw [hc]; exact hr, H⟩
        clear H
        rintro ⟨u7, s7⟩ w ⟨hr7, H⟩
        dsimp only at hr7 H
        ((conv=>whnf);repeat(first|(refine mvT ?_;conv=>whnf)|(refine mvF ?_;conv=>whnf)|(refine cT (by rfl) ?_;conv=>whnf)|(refine cF (by rfl) ?_;conv=>whnf)))
        refine H.st1 (v := str u7) 0 (rfl) (rfl) rfl (by first | omega | (simp [hlen1]; done) | (simp [hlen1]; omega)) rfl (Nat.lt_of_lt_of_le (Nat.lt_succ_self _) (Nat.le_of_ble_eq_true rfl)) ?_
        intro w H
        ((conv=>whnf);repeat(first|(refine mvT ?_;conv=>whnf)|(refine mvF ?_;conv=>whnf)|(refine cT (by rfl) ?_;conv=>whnf)|(refine cF (by rfl) ?_;conv=>whnf)))
        replace H : St w0 G0 p pb s7 ((g5, 156, es5.flatten ++ [str u7, .int .u8 0, .int .u8 0, .int .u8 0, .int .u8 0, .int .u8 0, .int .u8 0, .int .u8 0, .int .u8 0, .int .u8 0, .int .u8 0, .int .u8 0, .int .u8 0, .int .u8 0, .int .u8 0, .int .u8 0, .int .u8 0, .slice none 0 0, .map none] ++ ((List.replicate (n5.toNat - (i5 + 1)) [str [], .int .u8 0, .int .u8 0, .int .u8 0, .int .u8 0, .int .u8 0, .int .u8 0, .int .u8 0, .int .u8 0, .int .u8 0, .int .u8 0, .int .u8 0, .int .u8 0, .int .u8 0, .int .u8 0, .int .u8 0, .int .u8 0, .slice none 0 0, .map none]).flatten ++ post5)) :: L5) P5 w := H
        have hh : hasF (.mk 8 0 1 (-1) (-1) 0 0 []) v = true := by have := of_decide_eq_true hcv; rw [hasF_iff]; omega
        exact ⟨(u7, s7), ⟨rfl, rfl, rfl, rfl, rfl, rfl, rfl, rfl, rfl, rfl, rfl, trivial⟩, by rw [if_pos hh]; exact (rdField8 (by decide) hr7), H⟩
      · ((conv=>whnf);repeat(first|(refine mvT ?_;conv=>whnf)|(refine mvF ?_;conv=>whnf)|(refine cT (by rfl) ?_;conv=>whnf)|(refine cF (by rfl) ?_;conv=>whnf)))
        have hh : ¬ hasF (.mk 8 0 1 (-1) (-1) 0 0 []) v = true := by have := of_decide_eq_false hcv; rw [hasF_iff]; omega
        exact ⟨([], si5), ⟨rfl, rfl, rfl, rfl, rfl, rfl, rfl, rfl, rfl, rfl, rfl, trivial⟩, by rw [if_neg hh]; rfl, H⟩
    clear H
    rintro ⟨u6, s6⟩ w ⟨hr6, H⟩
    dsimp only at hr6 H
    ((conv=>whnf);repeat(first|(refine mvT ?_;conv=>whnf)|(refine mvF ?_;conv=>whnf)|(refine cT (by rfl) ?_;conv=>whnf)|(refine cF (by rfl) ?_;conv=>whnf)))
    replace H : St w0 G0 p pb s6 ((g5, 156, es5.flatten ++ [str u6, .int .u8 0, .int .u8 0, .int .u8 0, .int .u8 0, .int .u8 0, .int .u8 0, .int .u8 0, .int .u8 0, .int .u8 0, .int .u8 0, .int .u8 0, .int .u8 0, .int .u8 0, .int .u8 0, .int .u8 0, .int .u8 0, .slice none 0 0, .map none] ++ ((List.replicate (n5.toNat - (i5 + 1)) [str [], .int .u8 0, .int .u8 0, .int .u8 0, .int .u8 0, .int .u8 0, .int .u8 0, .int .u8 0, .int .u8 0, .int .u8 0, .int .u8 0, .int .u8 0, .int .u8 0, .int .u8 0, .int .u8 0, .int .u8 0, .int .u8 0, .slice none 0 0, .map none]).flatten ++ post5)) :: L5) P5 w := H
    refine VC.cutE (fun q : List UInt8 × Rd => [(0, .pointer (some ⟨p, 0, none⟩)), (2, .bool false), (7, .pointer (some ⟨pb, 0, none⟩)), (8, .int .i16 v), (9, .bool fx), (10, .pointer (some ⟨p, 0, none⟩)), (15, .int .i32 n5), (14, .slice (some ⟨g5, 0, none⟩) n5.toNat cap5), (16, .int .i32 i5), (17, .pointer (some ⟨g5, 0 + (i5 : Int).toNat * 19, none⟩)), (18, .pointer (some ⟨g5, 0 + (i5 : Int).toNat * 19, none⟩))]) (fun q w' => q.1.length = 16 ∧ (if hasF (.mk 7 2 (-1) (-1) (-1) 0 0 []) v = true then rdField 8 v fx (.mk 7 2 (-1) (-1) (-1) 0 0 []) s6 else (dfT 8 (.mk 7 2 (-1) (-1) (-1) 0 0 []), s6)) = (.mk 0 q.1 false [] [], q.2) ∧ St w0 G0 p pb q.2 ((g5, 156, es5.flatten ++ ([str u6] ++ (q.1.map bcell ++ [.slice none 0 0, .map none])) ++ ((List.replicate (n5.toNat - (i5 + 1)) [str [], .int .u8 0, .int .u8 0, .int .u8 0, .int .u8 0, .int .u8 0, .int .u8 0, .int .u8 0, .int .u8 0, .int .u8 0, .int .u8 0, .int .u8 0, .int .u8 0, .int .u8 0, .int .u8 0, .int .u8 0, .int .u8 0, .slice none 0 0, .map none]).flatten ++ post5)) :: L5) P5 w') ?_ ?_
    · refine cI (by rfl) (fun hcv=>?_) (fun hcv=>?_)
      · ((conv=>whnf);repeat(first|(refine mvT ?_;conv=>whnf)|(refine mvF ?_;conv=>whnf)|(refine cT (by rfl) ?_;conv=>whnf)|(refine cF (by rfl) ?_;conv=>whnf)))
        refine Does.mono H.uuid ?_
        rintro r w ⟨u10, s10, rfl, hu10, hr10, H⟩
        ((conv=>whnf);repeat(first|(refine mvT ?_;conv=>whnf)|(refine mvF ?_;conv=>whnf)|(refine cT (by rfl) ?_;conv=>whnf)|(refine cF (by rfl) ?_;conv=>whnf)))
        obtain ⟨u10_0, u10_1, u10_2, u10_3, u10_4, u10_5, u10_6, u10_7, u10_8, u10_9, u10_10, u10_11, u10_12, u10_13, u10_14, u10_15, rfl⟩ : ∃ u10_0 u10_1 u10_2 u10_3 u10_4 u10_5 u10_6 u10_7 u10_8 u10_9 u10_10 u10_11 u10_12 u10_13 u10_14 u10_15, u10 = [u10_0, u10_1, u10_2, u10_3, u10_4, u10_5, u10_6, u10_7, u10_8, u10_9, u10_10, u10_11, u10_12, u10_13, u10_14, u10_15] := by
          match u10, hu10 with
          | [u10_0, u10_1, u10_2, u10_3, u10_4, u10_5, u10_6, u10_7, u10_8, u10_9, u10_10, u10_11, u10_12, u10_13, u10_14, u10_15], _ => exact ⟨u10_0, u10_1, u10_2, u10_3, u10_4, u10_5, u10_6, u10_7, u10_8, u10_9, u10_10, u10_11, u10_12, u10_13, u10_14, u10_15, rfl⟩
        intro bu wu hbu hou hxu
        ((conv=>whnf);repeat(first|(refine mvT ?_;conv=>whnf)|(refine mvF ?_;conv=>whnf)|(refine cT (by rfl) ?_;conv=>whnf)|(refine cF (by rfl) ?_;conv=>whnf)))
        refine st_all [bcell u10_0, bcell u10_1, bcell u10_2, bcell u10_3, bcell u10_4, bcell u10_5, bcell u10_6, bcell u10_7, bcell u10_8, bcell u10_9, bcell u10_10, bcell u10_11, bcell u10_12, bcell u10_13, bcell u10_14, bcell u10_15] hou rfl rfl rfl ?_
        intro w2 hou hxs
        ((conv=>whnf);repeat(first|(refine mvT ?_;conv=>whnf)|(refine mvF ?_;conv=>whnf)|(refine cT (by rfl) ?_;conv=>whnf)|(refine cF (by rfl) ?_;conv=>whnf)))
        replace H := H.e0 (hxu.trans hxs (M := nob) fun k hk e => by omega)
        refine ⟨_, rfl, hou.cells, ?_⟩
        ((conv=>whnf);repeat(first|(refine mvT ?_;conv=>whnf)|(refine mvF ?_;conv=>whnf)|(refine cT (by rfl) ?_;conv=>whnf)|(refine cF (by rfl) ?_;conv=>whnf)))
        refine H.stn [bcell u10_0, bcell u10_1, bcell u10_2, bcell u10_3, bcell u10_4, bcell u10_5, bcell u10_6, bcell u10_7, bcell u10_8, bcell u10_9, bcell u10_10, bcell u10_11, bcell u10_12, bcell u10_13, bcell u10_14, bcell u10_15] 1 rfl rfl rfl (by first | omega | (simp [hlen1]; done) | (simp [hlen1]; omega)) rfl (Nat.le_of_ble_eq_true rfl) ?_
        intro w H
        ((conv=>whnf);repeat(first|(refine mvT ?_;conv=>whnf)|(refine mvF ?_;conv=>whnf)|(refine cT (by rfl) ?_;conv=>whnf)|(refine cF (by rfl) ?_;conv=>whnf)))
        replace H : St w0 G0 p pb s10 ((g5, 156, es5.flatten ++ [str u6, bcell u10_0, bcell u10_1, bcell u10_2, bcell u10_3, bcell u10_4, bcell u10_5, bcell u10_6, bcell u10_7, bcell u10_8, bcell u10_9, bcell u10_10, bcell u10_11, bcell u10_12, bcell u10_13, bcell u10_14, bcell u10_15, .slice none 0 0, .map none] ++ ((List.replicate (n5.toNat - (i5 + 1)) [str [], .int .u8 0, .int .u8 0, .int .u8 0, .int .u8 0, .int .u8 0, .int .u8 0, .int .u8 0, .int .u8 0, .int .u8 0, .int .u8 0, .int .u8 0, .int .u8 0, .int .u8 0, .int .u8 0, .int .u8 0, .int .u8 0, .slice none 0 0, .map none]).flatten ++ post5)) :: L5) P5 w := H
        have hh : hasF (.mk 7 2 (-1) (-1) (-1) 0 0 []) v = true := by have := of_decide_eq_true hcv; rw [hasF_iff]; omega
        exact ⟨([u10_0, u10_1, u10_2, u10_3, u10_4, u10_5, u10_6, u10_7, u10_8, u10_9, u10_10, u10_11, u10_12, u10_13, u10_14, u10_15], s10), ⟨rfl, rfl, rfl, rfl, rfl, rfl, rfl, rfl, rfl, rfl, rfl, trivial⟩, rfl, by rw [if_pos hh]; exact (rdField7.trans hr10), H⟩
      · ((conv=>whnf);repeat(first|(refine mvT ?_;conv=>whnf)|(refine mvF ?_;conv=>whnf)|(refine cT (by rfl) ?_;conv=>whnf)|(refine cF (by rfl) ?_;conv=>whnf)))
        have hh : ¬ hasF (.mk 7 2 (-1) (-1) (-1) 0 0 []) v = true := by have := of_decide_eq_false hcv; rw [hasF_iff]; omega
        exact ⟨(List.replicate 16 0, s6), ⟨rfl, rfl, rfl, rfl, rfl, rfl, rfl, rfl, rfl, rfl, rfl, trivial⟩, rfl, by rw [if_neg hh]; rfl, H⟩
    clear H
    rintro ⟨u9, s9⟩ w ⟨hu9, hr9, H⟩
    dsimp only at hu9 hr9 H
    obtain ⟨u9_0, u9_1, u9_2, u9_3, u9_4, u9_5, u9_6, u9_7, u9_8, u9_9, u9_10, u9_11, u9_12, u9_13, u9_14, u9_15, rfl⟩ : ∃ u9_0 u9_1 u9_2 u9_3 u9_4 u9_5 u9_6 u9_7 u9_8 u9_9 u9_10 u9_11 u9_12 u9_13 u9_14 u9_15, u9 = [u9_0, u9_1, u9_2, u9_3, u9_4, u9_5, u9_6, u9_7, u9_8, u9_9, u9_10, u9_11, u9_12, u9_13, u9_14, u9_15] := by
      match u9, hu9 with
      | [u9_0, u9_1, u9_2, u9_3, u9_4, u9_5, u9_6, u9_7, u9_8, u9_9, u9_10, u9_11, u9_12, u9_13, u9_14, u9_15], _ => exact ⟨u9_0, u9_1, u9_2, u9_3, u9_4, u9_5, u9_6, u9_7, u9_8, u9_9, u9_10, u9_11, u9_12, u9_13, u9_14, u9_15, rfl⟩
    ((conv=>whnf);repeat(first|(refine mvT ?_;conv=>whnf)|(refine mvF ?_;conv=>whnf)|(refine cT (by rfl) ?_;conv=>whnf)|(refine cF (by rfl) ?_;conv=>whnf)))
    replace H : St w0 G0 p pb s9 ((g5, 156, es5.flatten ++ [str u6, bcell u9_0, bcell u9_1, bcell u9_2, bcell u9_3, bcell u9_4, bcell u9_5, bcell u9_6, bcell u9_7, bcell u9_8, bcell u9_9, bcell u9_10, bcell u9_11, bcell u9_12, bcell u9_13, bcell u9_14, bcell u9_15, .slice none 0 0, .map none] ++ ((List.replicate (n5.toNat - (i5 + 1)) [str [], .int .u8 0, .int .u8 0, .int .u8 0, .int .u8 0, .int .u8 0, .int .u8 0, .int .u8 0, .int .u8 0, .int .u8 0, .int .u8 0, .int .u8 0, .int .u8 0, .int .u8 0, .int .u8 0, .int .u8 0, .int .u8 0, .slice none 0 0, .map none]).flatten ++ post5)) :: L5) P5 w := H
    refine ⟨_, ld (H.cell rfl (k := 17) rfl) (by first | omega | (simp [hlen1]; done) | (simp [hlen1]; omega)), ?_⟩; ((conv=>whnf);repeat(first|(refine mvT ?_;conv=>whnf)|(refine mvF ?_;conv=>whnf)|(refine cT (by rfl) ?_;conv=>whnf)|(refine cF (by rfl) ?_;conv=>whnf)))
    (refine mvB ?_;((conv=>whnf);repeat(first|(refine mvT ?_;conv=>whnf)|(refine mvF ?_;conv=>whnf)|(refine cT (by rfl) ?_;conv=>whnf)|(refine cF (by rfl) ?_;conv=>whnf))))
    refine VC.cutE (fun q : Int × Rd => [(23, .int .i32 q.1), (22, .slice none 0 0), (0, .pointer (some ⟨p, 0, none⟩)), (2, .bool false), (7, .pointer (some ⟨pb, 0, none⟩)), (8, .int .i16 v), (9, .bool fx), (10, .pointer (some ⟨p, 0, none⟩)), (15, .int .i32 n5), (14, .slice (some ⟨g5, 0, none⟩) n5.toNat cap5), (16, .int .i32 i5), (17, .pointer (some ⟨g5, 0 + (i5 : Int).toNat * 19, none⟩)), (18, .pointer (some ⟨g5, 0 + (i5 : Int).toNat * 19, none⟩))]) (fun q w' => (-2147483648 ≤ q.1 ∧ q.1 ≤ 2147483647) ∧ rdLn fx s9 = q ∧ St w0 G0 p pb q.2 ((g5, 156, es5.flatten ++ [str u6, bcell u9_0, bcell u9_1, bcell u9_2, bcell u9_3, bcell u9_4, bcell u9_5, bcell u9_6, bcell u9_7, bcell u9_8, bcell u9_9, bcell u9_10, bcell u9_11, bcell u9_12, bcell u9_13, bcell u9_14, bcell u9_15, .slice none 0 0, .map none] ++ ((List.replicate (n5.toNat - (i5 + 1)) [str [], .int .u8 0, .int .u8 0, .int .u8 0, .int .u8 0, .int .u8 0, .int .u8 0, .int .u8 0, .int .u8 0, .int .u8 0, .int .u8 0, .int .u8 0, .int .u8 0, .int .u8 0, .int .u8 0, .int .u8 0, .int .u8 0, .slice none 0 0, .map none]).flatten ++ post5)) :: L5) P5 w') ?_ ?_
    · refine cI (by rfl) (fun hc=>?_) (fun hc=>?_)
      · ((conv=>whnf);repeat(first|(refine mvT ?_;conv=>whnf)|(refine mvF ?_;conv=>whnf)|(refine cT (by rfl) ?_;conv=>whnf)|(refine cF (by rfl) ?_;conv=>whnf)))
        refine Does.mono H.lnc ?_
        rintro r w ⟨n, s', rfl, hn, hr, H⟩
        ((conv=>whnf);repeat(first|(refine mvT ?_;conv=>whnf)|(refine mvF ?_;conv=>whnf)|(refine cT (by rfl) ?_;conv=>whnf)|(refine cF (by rfl) ?_;conv=>whnf)))
        exact ⟨(n, s'), ⟨rfl, rfl, rfl, rfl, rfl, rfl, rfl, rfl, rfl, rfl, rfl, rfl, rfl, trivial⟩, hn, by rw [hc]; exact hr, H⟩
      · ((conv=>whnf);repeat(first|(refine mvT ?_;conv=>whnf)|(refine mvF ?_;conv=>whnf)|(refine cT (by rfl) ?_;conv=>whnf)|(refine cF (by rfl) ?_;conv=>whnf)))
        refine Does.mono H.lnp ?_
        rintro r w ⟨n, s', rfl, hn, hr, H⟩
        ((conv=>whnf);repeat(first|(refine mvT ?_;conv=>whnf)|(refine mvF ?_;conv=>whnf)|(refine cT (by rfl) ?_;conv=>whnf)|(refine cF (by rfl) ?_;conv=>whnf)))
        exact ⟨(n, s'), ⟨rfl, rfl, rfl, rfl, rfl, rfl, rfl, rfl, rfl, rfl, rfl, rfl, rfl, trivial⟩, hn, by rw [hc]; exact hr, H⟩
    clear H
    rintro ⟨n13, s13⟩ w ⟨hn13, hln13, H⟩
    dsimp only at hn13 hln13 H
    ((conv=>whnf);repeat(first|(refine mvT ?_;conv=>whnf)|(refine mvF ?_;conv=>whnf)|(refine cT (by rfl) ?_;conv=>whnf)|(refine cF (by rfl) ?_;conv=>whnf)))
    refine Does.mono H.ok ?_
    rintro r w ⟨rfl, H⟩
    ((conv=>whnf);repeat(first|(refine mvT ?_;conv=>whnf)|(refine mvF ?_;conv=>whnf)|(refine cT (by rfl) ?_;conv=>whnf)|(refine cF (by rfl) ?_;conv=>whnf)))
    refine cI (by rfl) (fun hbd=>?_) (fun hbd=>?_)
    · have hbd : s13.2 = true := by simpa using hbd
      ((conv=>whnf);repeat(first|(refine mvT ?_;conv=>whnf)|(refine mvF ?_;conv=>whnf)|(refine cT (by rfl) ?_;conv=>whnf)|(refine cF (by rfl) ?_;conv=>whnf)))
      refine Does.mono (H.done hL hp1) ?_
      rintro r w ⟨rfl, H⟩
      ((conv=>whnf);repeat(first|(refine mvT ?_;conv=>whnf)|(refine mvF ?_;conv=>whnf)|(refine cT (by rfl) ?_;conv=>whnf)|(refine cF (by rfl) ?_;conv=>whnf)))
      refine RdPost.early hbd (hup5 (?_)) H
      rw [tail_ver hr6 (by decide), tail_ver hr9 (by decide), tail_len ⟨by decide, has_all hv⟩ hln13 hbd]
    have hbd : s13.2 = false := by simpa using hbd
    clear hbd
    ((conv=>whnf);repeat(first|(refine mvT ?_;conv=>whnf)|(refine mvF ?_;conv=>whnf)|(refine cT (by rfl) ?_;conv=>whnf)|(refine cF (by rfl) ?_;conv=>whnf)))
    refine cut_zero ?_
    ((conv=>whnf);repeat(first|(refine mvT ?_;conv=>whnf)|(refine mvF ?_;conv=>whnf)|(refine cT (by rfl) ?_;conv=>whnf)|(refine cF (by rfl) ?_;conv=>whnf)))
    refine VC.cutE (fun a : Value => [(23, .int .i32 n13), (22, a), (0, .pointer (some ⟨p, 0, none⟩)), (2, .bool false), (7, .pointer (some ⟨pb, 0, none⟩)), (8, .int .i16 v), (9, .bool fx), (10, .pointer (some ⟨p, 0, none⟩)), (15, .int .i32 n5), (14, .slice (some ⟨g5, 0, none⟩) n5.toNat cap5), (16, .int .i32 i5), (17, .pointer (some ⟨g5, 0 + (i5 : Int).toNat * 19, none⟩)), (18, .pointer (some ⟨g5, 0 + (i5 : Int).toNat * 19, none⟩))]) (fun a w' => ListI w0 G0 p pb 160 [.int .i32 0, .int .i32 0, .slice none 0 0, .slice none 0 0, .int .i8 0, .int .i32 0, .map none] (elR 7 v fx 10 dAlterPartitionRequestTopicPartition) (elQ true 7 10 dAlterPartitionRequestTopicPartition) s13 n13 (decide (n13 ≤ 0)) ((g5, 156, es5.flatten ++ [str u6, bcell u9_0, bcell u9_1, bcell u9_2, bcell u9_3, bcell u9_4, bcell u9_5, bcell u9_6, bcell u9_7, bcell u9_8, bcell u9_9, bcell u9_10, bcell u9_11, bcell u9_12, bcell u9_13, bcell u9_14, bcell u9_15, .slice none 0 0, .map none] ++ ((List.replicate (n5.toNat - (i5 + 1)) [str [], .int .u8 0, .int .u8 0, .int .u8 0, .int .u8 0, .int .u8 0, .int .u8 0, .int .u8 0, .int .u8 0, .int .u8 0, .int .u8 0, .int .u8 0, .int .u8 0, .int .u8 0, .int .u8 0, .int .u8 0, .int .u8 0, .slice none 0 0, .map none]).flatten ++ post5)) :: L5) P5 a 0 w') ?_ ?_
    · refine cI (by rfl) (fun hps=>?_) (fun hps=>?_)
      · have hps : 0 < n13 := by have := of_decide_eq_true hps; omega
        ((conv=>whnf);repeat(first|(refine mvT ?_;conv=>whnf)|(refine mvF ?_;conv=>whnf)|(refine cT (by rfl) ?_;conv=>whnf)|(refine cF (by rfl) ?_;conv=>whnf)))
        refine H.grow hps hn13.2 (by decide) rfl rfl (by decide) ?_
        intro g cap post w hc1 hc2 H
        ((conv=>whnf);repeat(first|(refine mvT ?_;conv=>whnf)|(refine mvF ?_;conv=>whnf)|(refine cT (by rfl) ?_;conv=>whnf)|(refine cF (by rfl) ?_;conv=>whnf)))
        exact ⟨_, ⟨rfl, rfl, rfl, rfl, rfl, rfl, rfl, rfl, rfl, rfl, rfl, rfl, rfl, trivial⟩, ListI.some hps (decide_eq_false (by omega)) hc1 hc2 H⟩
      · have hps : n13 ≤ 0 := by have := of_decide_eq_false hps; omega
        ((conv=>whnf);repeat(first|(refine mvT ?_;conv=>whnf)|(refine mvF ?_;conv=>whnf)|(refine cT (by rfl) ?_;conv=>whnf)|(refine cF (by rfl) ?_;conv=>whnf)))
        exact ⟨_, ⟨rfl, rfl, rfl, rfl, rfl, rfl, rfl, rfl, rfl, rfl, rfl, rfl, rfl, trivial⟩, ListI.none hps (decide_eq_true hps) H⟩
    clear H
    rintro a13 w H
    ((conv=>whnf);repeat(first|(refine mvT ?_;conv=>whnf)|(refine mvF ?_;conv=>whnf)|(refine cT (by rfl) ?_;conv=>whnf)|(refine cF (by rfl) ?_;conv=>whnf)))
    have hpL13 : inL ((g5, 156, es5.flatten ++ [str u6, bcell u9_0, bcell u9_1, bcell u9_2, bcell u9_3, bcell u9_4, bcell u9_5, bcell u9_6, bcell u9_7, bcell u9_8, bcell u9_9, bcell u9_10, bcell u9_11, bcell u9_12, bcell u9_13, bcell u9_14, bcell u9_15, .slice none 0 0, .map none] ++ ((List.replicate (n5.toNat - (i5 + 1)) [str [], .int .u8 0, .int .u8 0, .int .u8 0, .int .u8 0, .int .u8 0, .int .u8 0, .int .u8 0, .int .u8 0, .int .u8 0, .int .u8 0, .int .u8 0, .int .u8 0, .int .u8 0, .int .u8 0, .int .u8 0, .int .u8 0, .slice none 0 0, .map none]).flatten ++ post5)) :: L5) p := inL.tail hpL5
    refine VL.loop (fun i : Nat => [(23, .int .i32 n13), (22, a13), (24, .int .i32 i), (0, .pointer (some ⟨p, 0, none⟩)), (2, .bool false), (7, .pointer (some ⟨pb, 0, none⟩)), (8, .int .i16 v), (9, .bool fx), (10, .pointer (some ⟨p, 0, none⟩)), (15, .int .i32 n5), (14, .slice (some ⟨g5, 0, none⟩) n5.toNat cap5), (16, .int .i32 i5), (17, .pointer (some ⟨g5, 0 + (i5 : Int).toNat * 19, none⟩)), (18, .pointer (some ⟨g5, 0 + (i5 : Int).toNat * 19, none⟩))]) (fun i w' => i ≤ 2147483647 ∧ ListI w0 G0 p pb 160 [.int .i32 0, .int .i32 0, .slice none 0 0, .slice none 0 0, .int .i8 0, .int .i32 0, .map none] (elR 7 v fx 10 dAlterPartitionRequestTopicPartition) (elQ true 7 10 dAlterPartitionRequestTopicPartition) s13 n13 (decide (n13 ≤ 0)) ((g5, 156, es5.flatten ++ [str u6, bcell u9_0, bcell u9_1, bcell u9_2, bcell u9_3, bcell u9_4, bcell u9_5, bcell u9_6, bcell u9_7, bcell u9_8, bcell u9_9, bcell u9_10, bcell u9_11, bcell u9_12, bcell u9_13, bcell u9_14, bcell u9_15, .slice none 0 0, .map none] ++ ((List.replicate (n5.toNat - (i5 + 1)) [str [], .int .u8 0, .int .u8 0, .int .u8 0, .int .u8 0, .int .u8 0, .int .u8 0, .int .u8 0, .int .u8 0, .int .u8 0, .int .u8 0, .int .u8 0, .int .u8 0, .int .u8 0, .int .u8 0, .int .u8 0, .int .u8 0, .slice none 0 0, .map none]).flatten ++ post5)) :: L5) P5 a13 i w') (fun i => n13.toNat - i) 0 ⟨rfl, rfl, rfl, rfl, rfl, rfl, rfl, rfl, rfl, rfl, rfl, rfl, rfl, rfl, trivial⟩ ⟨by decide, H⟩ ?_
    clear H
    rintro i13 w ⟨hi13, H⟩
    ((conv=>whnf);repeat(first|(refine mvT ?_;conv=>whnf)|(refine mvF ?_;conv=>whnf)|(refine cT (by rfl) ?_;conv=>whnf)|(refine cF (by rfl) ?_;conv=>whnf)))
    refine cI (by rfl) (fun h9=>?_) (fun h9=>?_)
    · have hlt13 : (i13 : Int) < n13 := of_decide_eq_true h9
      obtain ⟨g13, cap13, post13, rfl, hgo13, HI⟩ := H.go hlt13
      obtain ⟨es13, ts13, si13, hes13, hez13, hrn13, hts13, hlen2, H⟩ := HI.open hgo13.2.2.2.2
      obtain ⟨L13, hL13⟩ : ∃ L : List Ob, L = ((g5, 156, es5.flatten ++ [str u6, bcell u9_0, bcell u9_1, bcell u9_2, bcell u9_3, bcell u9_4, bcell u9_5, bcell u9_6, bcell u9_7, bcell u9_8, bcell u9_9, bcell u9_10, bcell u9_11, bcell u9_12, bcell u9_13, bcell u9_14, bcell u9_15, .slice none 0 0, .map none] ++ ((List.replicate (n5.toNat - (i5 + 1)) [str [], .int .u8 0, .int .u8 0, .int .u8 0, .int .u8 0, .int .u8 0, .int .u8 0, .int .u8 0, .int .u8 0, .int .u8 0, .int .u8 0, .int .u8 0, .int .u8 0, .int .u8 0, .int .u8 0, .int .u8 0, .int .u8 0, .slice none 0 0, .map none]).flatten ++ post5)) :: L5) := ⟨_, rfl⟩
      rw [← hL13] at H hpL13
      obtain ⟨P13, hP13⟩ : ∃ P : World → Prop, P = fun w => (∀ (j : Nat) (c : List Value) (y : T), es13[j]? = some c → ts13[j]? = some y → elQ true 7 10 dAlterPartitionRequestTopicPartition ⟨w, fun k => k ≠ p⟩ c y) ∧ P5 w := ⟨_, rfl⟩
      rw [← hP13] at H
      replace H : St w0 G0 p pb si13 ((g13, 160, es13.flatten ++ [.int .i32 0, .int .i32 0, .slice none 0 0, .slice none 0 0, .int .i8 0, .int .i32 0, .map none] ++ ((List.replicate (n13.toNat - (i13 + 1)) [.int .i32 0, .int .i32 0, .slice none 0 0, .slice none 0 0, .int .i8 0, .int .i32 0, .map none]).flatten ++ post13)) :: L13) P13 w := H
      ((conv=>whnf);repeat(first|(refine mvT ?_;conv=>whnf)|(refine mvF ?_;conv=>whnf)|(refine cT (by rfl) ?_;conv=>whnf)|(refine cF (by rfl) ?_;conv=>whnf)))
      refine ⟨g13, 0, rfl, ⟨by omega, by omega⟩, ?_⟩
      ((conv=>whnf);repeat(first|(refine mvT ?_;conv=>whnf)|(refine mvF ?_;conv=>whnf)|(refine cT (by rfl) ?_;conv=>whnf)|(refine cF (by rfl) ?_;conv=>whnf)))
      refine Does.mono (dfAlterPartitionRequestTopicPartition (pre := es13.flatten) (cur := [.int .i32 0, .int .i32 0, .slice none 0 0, .slice none 0 0, .int .i8 0, .int .i32 0, .map none]) (post := ((List.replicate (n13.toNat - (i13 + 1)) [.int .i32 0, .int .i32 0, .slice none 0 0, .slice none 0 0, .int .i8 0, .int .i32 0, .map none]).flatten ++ post13)) H.head (by first | (rw [hlen2]; simp; done) | (simp [hlen2]; done) | (simp [hlen2]; omega)) rfl) ?_
      rintro rd w2 ⟨hdf, hxd⟩
      replace H := H.put hdf hxd
      clear hdf hxd
      replace H : St w0 G0 p pb si13 ((g13, 160, es13.flatten ++ [.int .i32 0, .int .i32 0, .slice none 0 0, .slice none 0 0, .int .i8 0, .int .i32 0, .map none] ++ ((List.replicate (n13.toNat - (i13 + 1)) [.int .i32 0, .int .i32 0, .slice none 0 0, .slice none 0 0, .int .i8 0, .int .i32 0, .map none]).flatten ++ post13)) :: L13) P13 w2 := H
      ((conv=>whnf);repeat(first|(refine mvT ?_;conv=>whnf)|(refine mvF ?_;conv=>whnf)|(refine cT (by rfl) ?_;conv=>whnf)|(refine cF (by rfl) ?_;conv=>whnf)))
      have hup13 : tailBad 7 v fx dAlterPartitionRequestTopicPartition si13 = true → (rdPart 9 v fx dAlterPartitionRequest (l, false)).2.2 = true := by
        intro hb
        refine hup5 ?_
        rw [tail_ver hr6 (by decide), tail_ver hr9 (by decide), tail_el ⟨by decide, has_all hv⟩ hln13 hgo13.2.2.2.2 hrn13 hb]
      refine Does.mono H.int32 ?_
      rintro r w ⟨n14, s14, rfl, hn14, hr14, H⟩
      ((conv=>whnf);repeat(first|(refine mvT ?_;conv=>whnf)|(refine mvF ?_;conv=>whnf)|(refine cT (by rfl) ?_;conv=>whnf)|(refine cF (by rfl) ?_;conv=>whnf)))
      refine H.st1 (v := .int .i32 n14) 0 (rfl) (rfl) rfl (by first | omega | (simp [hlen2]; done) | (simp [hlen2]; omega)) rfl (Nat.lt_of_lt_of_le (Nat.lt_succ_self _) (Nat.le_of_ble_eq_true rfl)) ?_
      intro w H
      ((conv=>whnf);repeat(first|(refine mvT ?_;conv=>whnf)|(refine mvF ?_;conv=>whnf)|(refine cT (by rfl) ?_;conv=>whnf)|(refine cF (by rfl) ?_;conv=>whnf)))
      replace H : St w0 G0 p pb s14 ((g13, 160, es13.flatten ++ [.int .i32 n14, .int .i32 0, .slice none 0 0, .slice none 0 0, .int .i8 0, .int .i32 0, .map none] ++ ((List.replicate (n13.toNat - (i13 + 1)) [.int .i32 0, .int .i32 0, .slice none 0 0, .slice none 0 0, .int .i8 0, .int .i32 0, .map none]).flatten ++ post13)) :: L13) P13 w := H
      refine Does.mono H.int32 ?_
      rintro r w ⟨n16, s16, rfl, hn16, hr16, H⟩
      ((conv=>whnf);repeat(first|(refine mvT ?_;conv=>whnf)|(refine mvF ?_;conv=>whnf)|(refine cT (by rfl) ?_;conv=>whnf)|(refine cF (by rfl) ?_;conv=>whnf)))
      refine H.st1 (v := .int .i32 n16) 1 (rfl) (rfl) rfl (by first | omega | (simp [hlen2]; done) | (simp [hlen2]; omega)) rfl (Nat.lt_of_lt_of_le (Nat.lt_succ_self _) (Nat.le_of_ble_eq_true rfl)) ?_
      intro w H
      ((conv=>whnf);repeat(first|(refine mvT ?_;conv=>whnf)|(refine mvF ?_;conv=>whnf)|(refine cT (by rfl) ?_;conv=>whnf)|(refine cF (by rfl) ?_;conv=>whnf)))
      replace H : St w0 G0 p pb s16 ((g13, 160, es13.flatten ++ [.int .i32 n14, .int .i32 n16, .slice none 0 0, .slice none 0 0, .int .i8 0, .int .i32 0, .map none] ++ ((List.replicate (n13.toNat - (i13 + 1)) [.int .i32 0, .int .i32 0, .slice none 0 0, .slice none 0 0, .int .i8 0, .int .i32 0, .map none]).flatten ++ post13)) :: L13) P13 w := H
      intro cq hcq
      obtain rfl : cq = true := by rw [← hcq]; exact decide_eq_true hv
      ((conv=>whnf);repeat(first|(refine mvT ?_;conv=>whnf)|(refine mvF ?_;conv=>whnf)|(refine cT (by rfl) ?_;conv=>whnf)|(refine cF (by rfl) ?_;conv=>whnf)))
      refine VC.cutE (fun q : Value × Bool × List T × Rd => [(0, .pointer (some ⟨p, 0, none⟩)), (2, .bool false), (7, .pointer (some ⟨pb, 0, none⟩)), (8, .int .i16 v), (9, .bool fx), (10, .pointer (some ⟨p, 0, none⟩)), (15, .int .i32 n5), (14, .slice (some ⟨g5, 0, none⟩) n5.toNat cap5), (16, .int .i32 i5), (17, .pointer (some ⟨g5, 0 + (i5 : Int).toNat * 19, none⟩)), (18, .pointer (some ⟨g5, 0 + (i5 : Int).toNat * 19, none⟩)), (23, .int .i32 n13), (22, .slice (some ⟨g13, 0, none⟩) n13.toNat cap13), (24, .int .i32 i13), (25, .pointer (some ⟨g13, 0 + (i13 : Int).toNat * 7, none⟩)), (26, .pointer (some ⟨g13, 0 + (i13 : Int).toNat * 7, none⟩))]) (fun q w' => (q.2.1 = true → q.2.2.1 = []) ∧ (if hasF (.mk 11 0 2 (-1) (-1) 0 3 []) v = true then rdField 7 v fx (.mk 11 0 2 (-1) (-1) 0 3 []) s16 else (dfT 7 (.mk 11 0 2 (-1) (-1) 0 3 []), s16)) = (.mk 0 [] q.2.1 q.2.2.1 [], q.2.2.2) ∧ St w0 G0 p pb q.2.2.2 ((g13, 160, es13.flatten ++ [.int .i32 n14, .int .i32 n16, q.1, .slice none 0 0, .int .i8 0, .int .i32 0, .map none] ++ ((List.replicate (n13.toNat - (i13 + 1)) [.int .i32 0, .int .i32 0, .slice none 0 0, .slice none 0 0, .int .i8 0, .int .i32 0, .map none]).flatten ++ post13)) :: L13) (fun w => ListR true (elZ true 6 3 []) (elQ true 6 3 [] ⟨w, fun k => k ≠ p⟩) w (fun k => k ≠ p) q.1 (.mk 0 [] (q.2.1) q.2.2.1 []) ∧ P13 w) w') ?_ ?_
      · refine cI (by rfl) (fun hcv=>?_) (fun hcv=>?_)
        · have hh : hasF (.mk 11 0 2 (-1) (-1) 0 3 []) v = true := by have := of_decide_eq_true hcv; rw [hasF_iff]; omega
          ((conv=>whnf);repeat(first|(refine mvT ?_;conv=>whnf)|(refine mvF ?_;conv=>whnf)|(refine cT (by rfl) ?_;conv=>whnf)|(refine cF (by rfl) ?_;conv=>whnf)))
          refine ⟨_, ld (H.cell rfl (k := 2) rfl) (by first | omega | (simp [hlen2]; done) | (simp [hlen2]; omega)), ?_⟩; ((conv=>whnf);repeat(first|(refine mvT ?_;conv=>whnf)|(refine mvF ?_;conv=>whnf)|(refine cT (by rfl) ?_;conv=>whnf)|(refine cF (by rfl) ?_;conv=>whnf)))
          (refine mvB ?_;((conv=>whnf);repeat(first|(refine mvT ?_;conv=>whnf)|(refine mvF ?_;conv=>whnf)|(refine cT (by rfl) ?_;conv=>whnf)|(refine cF (by rfl) ?_;conv=>whnf))))
          refine VC.cutE (fun q : Int × Rd => [(31, .int .i32 q.1), (30, .slice none 0 0), (0, .pointer (some ⟨p, 0, none⟩)), (2, .bool false), (7, .pointer (some ⟨pb, 0, none⟩)), (8, .int .i16 v), (9, .bool fx), (10, .pointer (some ⟨p, 0, none⟩)), (15, .int .i32 n5), (14, .slice (some ⟨g5, 0, none⟩) n5.toNat cap5), (16, .int .i32 i5), (17, .pointer (some ⟨g5, 0 + (i5 : Int).toNat * 19, none⟩)), (18, .pointer (some ⟨g5, 0 + (i5 : Int).toNat * 19, none⟩)), (23, .int .i32 n13), (22, .slice (some ⟨g13, 0, none⟩) n13.toNat cap13), (24, .int .i32 i13), (25, .pointer (some ⟨g13, 0 + (i13 : Int).toNat * 7, none⟩)), (26, .pointer (some ⟨g13, 0 + (i13 : Int).toNat * 7, none⟩))]) (fun q w' => (-2147483648 ≤ q.1 ∧ q.1 ≤ 2147483647) ∧ rdLn fx s16 = q ∧ St w0 G0 p pb q.2 ((g13, 160, es13.flatten ++ [.int .i32 n14, .int .i32 n16, .slice none 0 0, .slice none 0 0, .int .i8 0, .int .i32 0, .map none] ++ ((List.replicate (n13.toNat - (i13 + 1)) [.int .i32 0, .int .i32 0, .slice none 0 0, .slice none 0 0, .int .i8 0, .int .i32 0, .map none]).flatten ++ post13)) :: L13) P13 w') ?_ ?_
          · refine cI (by rfl) (fun hc=>?_) (fun hc=>?_)
            · ((conv=>whnf);repeat(first|(refine mvT ?_;conv=>whnf)|(refine mvF ?_;conv=>whnf)|(refine cT (by rfl) ?_;conv=>whnf)|(refine cF (by rfl) ?_;conv=>whnf)))
              refine Does.mono H.lnc ?_
              rintro r w ⟨n, s', rfl, hn, hr, H⟩
              ((conv=>whnf);repeat(first|(refine mvT ?_;conv=>whnf)|(refine mvF ?_;conv=>whnf)|(refine cT (by rfl) ?_;conv=>whnf)|(refine cF (by rfl) ?_;conv=>whnf)))
              exact ⟨(n, s'), ⟨rfl, rfl, rfl, rfl, rfl, rfl, rfl, rfl, rfl, rfl, rfl, rfl, rfl, rfl, rfl, rfl, rfl, rfl, trivial⟩, hn, by rw [hc]; exact hr, H⟩
            · ((conv=>whnf);repeat(first|(refine mvT ?_;conv=>whnf)|(refine mvF ?_;conv=>whnf)|(refine cT (by rfl) ?_;conv=>whnf)|(refine cF (by rfl) ?_;conv=>whnf)))
              refine Does.mono H.lnp ?_
              rintro r w ⟨n, s', rfl, hn, hr, H⟩
              ((conv=>whnf);repeat(first|(refine mvT ?_;conv=>whnf)|(refine mvF ?_;conv=>whnf)|(refine cT (by rfl) ?_;conv=>whnf)|(refine cF (by rfl) ?_;conv=>whnf)))
              exact ⟨(n, s'), ⟨rfl, rfl, rfl, rfl, rfl, rfl, rfl, rfl, rfl, rfl, rfl, rfl, rfl, rfl, rfl, rfl, rfl, rfl, trivial⟩, hn, by rw [hc]; exact hr, H⟩
          clear H
          rintro ⟨n19, s19⟩ w ⟨hn19, hln19, H⟩
          dsimp only at hn19 hln19 H
          ((conv=>whnf);repeat(first|(refine mvT ?_;conv=>whnf)|(refine mvF ?_;conv=>whnf)|(refine cT (by rfl) ?_;conv=>whnf)|(refine cF (by rfl) ?_;conv=>whnf)))
          refine Does.mono H.ok ?_
          rintro r w ⟨rfl, H⟩
          ((conv=>whnf);repeat(first|(refine mvT ?_;conv=>whnf)|(refine mvF ?_;conv=>whnf)|(refine cT (by rfl) ?_;conv=>whnf)|(refine cF (by rfl) ?_;conv=>whnf)))
          refine cI (by rfl) (fun hbd=>?_) (fun hbd=>?_)
          · have hbd : s19.2 = true := by simpa using hbd
            ((conv=>whnf);repeat(first|(refine mvT ?_;conv=>whnf)|(refine mvF ?_;conv=>whnf)|(refine cT (by rfl) ?_;conv=>whnf)|(refine cF (by rfl) ?_;conv=>whnf)))
            refine Does.mono (H.done hL hp1) ?_
            rintro r w ⟨rfl, H⟩
            ((conv=>whnf);repeat(first|(refine mvT ?_;conv=>whnf)|(refine mvF ?_;conv=>whnf)|(refine cT (by rfl) ?_;conv=>whnf)|(refine cF (by rfl) ?_;conv=>whnf)))
            refine RdPost.early hbd (hup13 (?_)) H
            rw [tail_yes (rdField3.trans hr14) ⟨by decide, has_all hv⟩, tail_yes (rdField3.trans hr16) ⟨by decide, has_all hv⟩, tail_len ⟨by decide, hh⟩ hln19 hbd]
          have hbd : s19.2 = false := by simpa using hbd
          clear hbd
          ((conv=>whnf);repeat(first|(refine mvT ?_;conv=>whnf)|(refine mvF ?_;conv=>whnf)|(refine cT (by rfl) ?_;conv=>whnf)|(refine cF (by rfl) ?_;conv=>whnf)))
          refine cut_zero ?_
          ((conv=>whnf);repeat(first|(refine mvT ?_;conv=>whnf)|(refine mvF ?_;conv=>whnf)|(refine cT (by rfl) ?_;conv=>whnf)|(refine cF (by rfl) ?_;conv=>whnf)))
          refine VC.cutE (fun a : Value => [(31, .int .i32 n19), (30, a), (0, .pointer (some ⟨p, 0, none⟩)), (2, .bool false), (7, .pointer (some ⟨pb, 0, none⟩)), (8, .int .i16 v), (9, .bool fx), (10, .pointer (some ⟨p, 0, none⟩)), (15, .int .i32 n5), (14, .slice (some ⟨g5, 0, none⟩) n5.toNat cap5), (16, .int .i32 i5), (17, .pointer (some ⟨g5, 0 + (i5 : Int).toNat * 19, none⟩)), (18, .pointer (some ⟨g5, 0 + (i5 : Int).toNat * 19, none⟩)), (23, .int .i32 n13), (22, .slice (some ⟨g13, 0, none⟩) n13.toNat cap13), (24, .int .i32 i13), (25, .pointer (some ⟨g13, 0 + (i13 : Int).toNat * 7, none⟩)), (26, .pointer (some ⟨g13, 0 + (i13 : Int).toNat * 7, none⟩))]) (fun a w' => ListI w0 G0 p pb 21 [.int .i32 0] (elR 6 v fx 3 []) (elQ true 6 3 []) s19 n19 (decide (n19 ≤ 0)) ((g13, 160, es13.flatten ++ [.int .i32 n14, .int .i32 n16, .slice none 0 0, .slice none 0 0, .int .i8 0, .int .i32 0, .map none] ++ ((List.replicate (n13.toNat - (i13 + 1)) [.int .i32 0, .int .i32 0, .slice none 0 0, .slice none 0 0, .int .i8 0, .int .i32 0, .map none]).flatten ++ post13)) :: L13) P13 a 0 w') ?_ ?_
          · refine cI (by rfl) (fun hps=>?_) (fun hps=>?_)
            · have hps : 0 < n19 := by have := of_decide_eq_true hps; omega
              ((conv=>whnf);repeat(first|(refine mvT ?_;conv=>whnf)|(refine mvF ?_;conv=>whnf)|(refine cT (by rfl) ?_;conv=>whnf)|(refine cF (by rfl) ?_;conv=>whnf)))
              refine H.grow hps hn19.2 (by decide) rfl rfl (by decide) ?_
              intro g cap post w hc1 hc2 H
              ((conv=>whnf);repeat(first|(refine mvT ?_;conv=>whnf)|(refine mvF ?_;conv=>whnf)|(refine cT (by rfl) ?_;conv=>whnf)|(refine cF (by rfl) ?_;conv=>whnf)))
              exact ⟨_, ⟨rfl, rfl, rfl, rfl, rfl, rfl, rfl, rfl, rfl, rfl, rfl, rfl, rfl, rfl, rfl, rfl, rfl, rfl, trivial⟩, ListI.some hps (decide_eq_false (by omega)) hc1 hc2 H⟩
            · have hps : n19 ≤ 0 := by have := of_decide_eq_false hps; omega
              ((conv=>whnf);repeat(first|(refine mvT ?_;conv=>whnf)|(refine mvF ?_;conv=>whnf)|(refine cT (by rfl) ?_;conv=>whnf)|(refine cF (by rfl) ?_;conv=>whnf)))
              exact ⟨_, ⟨rfl, rfl, rfl, rfl, rfl, rfl, rfl, rfl, rfl, rfl, rfl, rfl, rfl, rfl, rfl, rfl, rfl, rfl, trivial⟩, ListI.none hps (decide_eq_true hps) H⟩
          clear H
          rintro a19 w H
          ((conv=>whnf);repeat(first|(refine mvT ?_;conv=>whnf)|(refine mvF ?_;conv=>whnf)|(refine cT (by rfl) ?_;conv=>whnf)|(refine cF (by rfl) ?_;conv=>whnf)))
          have hpL19 : inL ((g13, 160, es13.flatten ++ [.int .i32 n14, .int .i32 n16, .slice none 0 0, .slice none 0 0, .int .i8 0, .int .i32 0, .map none] ++ ((List.replicate (n13.toNat - (i13 + 1)) [.int .i32 0, .int .i32 0, .slice none 0 0, .slice none 0 0, .int .i8 0, .int .i32 0, .map none]).flatten ++ post13)) :: L13) p := inL.tail hpL13
          refine VL.loop (fun i : Nat => [(31, .int .i32 n19), (30, a19), (32, .int .i32 i), (0, .pointer (some ⟨p, 0, none⟩)), (2, .bool false), (7, .pointer (some ⟨pb, 0, none⟩)), (8, .int .i16 v), (9, .bool fx), (10, .pointer (some ⟨p, 0, none⟩)), (15, .int .i32 n5), (14, .slice (some ⟨g5, 0, none⟩) n5.toNat cap5), (16, .int .i32 i5), (17, .pointer (some ⟨g5, 0 + (i5 : Int).toNat * 19, none⟩)), (18, .pointer (some ⟨g5, 0 + (i5 : Int).toNat * 19, none⟩)), (23, .int .i32 n13), (22, .slice (some ⟨g13, 0, none⟩) n13.toNat cap13), (24, .int .i32 i13), (25, .pointer (some ⟨g13, 0 + (i13 : Int).toNat * 7, none⟩)), (26, .pointer (some ⟨g13, 0 + (i13 : Int).toNat * 7, none⟩))]) (fun i w' => i ≤ 2147483647 ∧ ListI w0 G0 p pb 21 [.int .i32 0] (elR 6 v fx 3 []) (elQ true 6 3 []) s19 n19 (decide (n19 ≤ 0)) ((g13, 160, es13.flatten ++ [.int .i32 n14, .int .i32 n16, .slice none 0 0, .slice none 0 0, .int .i8 0, .int .i32 0, .map none] ++ ((List.replicate (n13.toNat - (i13 + 1)) [.int .i32 0, .int .i32 0, .slice none 0 0, .slice none 0 0, .int .i8 0, .int .i32 0, .map none]).flatten ++ post13)) :: L13) P13 a19 i w') (fun i => n19.toNat - i) 0 ⟨rfl, rfl, rfl, rfl, rfl, rfl, rfl, rfl, rfl, rfl, rfl, rfl, rfl, rfl, rfl, rfl, rfl, rfl, rfl, trivial⟩ ⟨by decide, H⟩ ?_
          clear H
          rintro i19 w ⟨hi19, H⟩
          ((conv=>whnf);repeat(first|(refine mvT ?_;conv=>whnf)|(refine mvF ?_;conv=>whnf)|(refine cT (by rfl) ?_;conv=>whnf)|(refine cF (by rfl) ?_;conv=>whnf)))
          refine cI (by rfl) (fun h9=>?_) (fun h9=>?_)
          · have hlt19 : (i19 : Int) < n19 := of_decide_eq_true h9
            obtain ⟨g19, cap19, post19, rfl, hgo19, HI⟩ := H.go hlt19
            obtain ⟨es19, ts19, si19, hes19, hez19, hrn19, hts19, hlen3, H⟩ := HI.open hgo19.2.2.2.2
            obtain ⟨L19, hL19⟩ : ∃ L : List Ob, L = ((g13, 160, es13.flatten ++ [.int .i32 n14, .int .i32 n16, .slice none 0 0, .slice none 0 0, .int .i8 0, .int .i32 0, .map none] ++ ((List.replicate (n13.toNat - (i13 + 1)) [.int .i32 0, .int .i32 0, .slice none 0 0, .slice none 0 0, .int .i8 0, .int .i32 0, .map none]).flatten ++ post13)) :: L13) := ⟨_, rfl⟩
            rw [← hL19] at H hpL19
            obtain ⟨P19, hP19⟩ : ∃ P : World → Prop, P = fun w => (∀ (j : Nat) (c : List Value) (y : T), es19[j]? = some c → ts19[j]? = some y → elQ true 6 3 [] ⟨w, fun k => k ≠ p⟩ c y) ∧ P13 w := ⟨_, rfl⟩
            rw [← hP19] at H
            replace H : St w0 G0 p pb si19 ((g19, 21, es19.flatten ++ [.int .i32 0] ++ ((List.replicate (n19.toNat - (i19 + 1)) [.int .i32 0]).flatten ++ post19)) :: L19) P19 w := H
            ((conv=>whnf);repeat(first|(refine mvT ?_;conv=>whnf)|(refine mvF ?_;conv=>whnf)|(refine cT (by rfl) ?_;conv=>whnf)|(refine cF (by rfl) ?_;conv=>whnf)))
            refine Does.mono H.int32 ?_
            rintro r w ⟨n20, s20, rfl, hn20, hr20, H⟩
            ((conv=>whnf);repeat(first|(refine mvT ?_;conv=>whnf)|(refine mvF ?_;conv=>whnf)|(refine cT (by rfl) ?_;conv=>whnf)|(refine cF (by rfl) ?_;conv=>whnf)))
            refine ⟨g19, 0, rfl, ⟨by omega, by omega⟩, ?_⟩
            ((conv=>whnf);repeat(first|(refine mvT ?_;conv=>whnf)|(refine mvF ?_;conv=>whnf)|(refine cT (by rfl) ?_;conv=>whnf)|(refine cF (by rfl) ?_;conv=>whnf)))
            refine H.st1 (v := .int .i32 n20) 0 (rfl) (rfl) rfl (by first | omega | (simp [hlen3]; done) | (simp [hlen3]; omega)) rfl (Nat.lt_of_lt_of_le (Nat.lt_succ_self _) (Nat.le_of_ble_eq_true rfl)) ?_
            intro w H
            ((conv=>whnf);repeat(first|(refine mvT ?_;conv=>whnf)|(refine mvF ?_;conv=>whnf)|(refine cT (by rfl) ?_;conv=>whnf)|(refine cF (by rfl) ?_;conv=>whnf)))
            replace H : St w0 G0 p pb s20 ((g19, 21, es19.flatten ++ [.int .i32 n20] ++ ((List.replicate (n19.toNat - (i19 + 1)) [.int .i32 0]).flatten ++ post19)) :: L19) P19 w := H
            refine ⟨i19 + 1, ⟨rfl, rfl, ?_, rfl, rfl, rfl, rfl, rfl, rfl, rfl, rfl, rfl, rfl, rfl, rfl, rfl, rfl, rfl, rfl, trivial⟩, ⟨by omega, ListI.back hgo19 (LoopI.next hes19 hez19 hrn19 hts19 (cur := [.int .i32 n20]) (x := numT n20) (hr20) rfl (by rw [← hL19]; exact H) fun w hP => ?_)⟩, by omega⟩
            · show some (Value.int .i32 _) = _
              rw [IntKind.wrap_i32]
              simp only [Option.some.injEq, Value.int.injEq, true_and]
              omega
            · skip
              rw [hP19] at hP
              exact ⟨⟨_, hn20, rfl, rfl⟩, hP⟩
          have hge19 : ¬ (i19 : Int) < n19 := of_decide_eq_false h9
          obtain ⟨l21, s21, hone21, hl21, hr21, H⟩ := H.done hge19 hln19 (nl := nlF (.mk 11 0 2 (-1) (-1) 0 3 []) v) (sz := elZ true 6 3 []) rfl hpL19 rfl
          ((conv=>whnf);repeat(first|(refine mvT ?_;conv=>whnf)|(refine mvF ?_;conv=>whnf)|(refine cT (by rfl) ?_;conv=>whnf)|(refine cF (by rfl) ?_;conv=>whnf)))
          obtain ⟨P22, hP22⟩ : ∃ P : World → Prop, P = fun w => ListR true (elZ true 6 3 []) (elQ true 6 3 [] ⟨w, fun k => k ≠ p⟩) w (fun k => k ≠ p) a19 (.mk 0 [] (decide (n19 ≤ 0)) l21 []) ∧ P13 w := ⟨_, rfl⟩
          replace H : St w0 G0 p pb s21 ((g13, 160, es13.flatten ++ [.int .i32 n14, .int .i32 n16, .slice none 0 0, .slice none 0 0, .int .i8 0, .int .i32 0, .map none] ++ ((List.replicate (n13.toNat - (i13 + 1)) [.int .i32 0, .int .i32 0, .slice none 0 0, .slice none 0 0, .int .i8 0, .int .i32 0, .map none]).flatten ++ post13)) :: L13) P22 w := by rw [hP22]; exact H
          refine H.st1 (v := a19) 2 (cells_one hone21) (hone21) rfl (by first | omega | (simp [hlen2]; done) | (simp [hlen2]; omega)) rfl (Nat.lt_of_lt_of_le (Nat.lt_succ_self _) (Nat.le_of_ble_eq_true rfl)) ?_
          intro w H
          ((conv=>whnf);repeat(first|(refine mvT ?_;conv=>whnf)|(refine mvF ?_;conv=>whnf)|(refine cT (by rfl) ?_;conv=>whnf)|(refine cF (by rfl) ?_;conv=>whnf)))
          replace H : St w0 G0 p pb s21 ((g13, 160, es13.flatten ++ [.int .i32 n14, .int .i32 n16, a19, .slice none 0 0, .int .i8 0, .int .i32 0, .map none] ++ ((List.replicate (n13.toNat - (i13 + 1)) [.int .i32 0, .int .i32 0, .slice none 0 0, .slice none 0 0, .int .i8 0, .int .i32 0, .map none]).flatten ++ post13)) :: L13) P22 w := H
          exact ⟨(a19, decide (n19 ≤ 0), l21, s21), ⟨rfl, rfl, rfl, rfl, rfl, rfl, rfl, rfl, rfl, rfl, rfl, rfl, rfl, rfl, rfl, rfl, trivial⟩, hl21, by rw [if_pos hh]; exact ((rdField_list _ _ _ _ _ _ _ _ _ _ _).trans hr21), by rw [hP22] at H; exact H⟩
        · ((conv=>whnf);repeat(first|(refine mvT ?_;conv=>whnf)|(refine mvF ?_;conv=>whnf)|(refine cT (by rfl) ?_;conv=>whnf)|(refine cF (by rfl) ?_;conv=>whnf)))
          have hh : ¬ hasF (.mk 11 0 2 (-1) (-1) 0 3 []) v = true := by have := of_decide_eq_false hcv; rw [hasF_iff]; omega
          exact ⟨(.slice none 0 0, true, [], s16), ⟨rfl, rfl, rfl, rfl, rfl, rfl, rfl, rfl, rfl, rfl, rfl, rfl, rfl, rfl, rfl, rfl, trivial⟩, fun _ => rfl, by rw [if_neg hh]; rfl, H.add fun w' _ => .inl ⟨rfl, rfl⟩⟩
      clear H
      rintro ⟨c18, nl18, l18, s18⟩ w ⟨hnl18, hr18, H⟩
      dsimp only at hnl18 hr18 H
      ((conv=>whnf);repeat(first|(refine mvT ?_;conv=>whnf)|(refine mvF ?_;conv=>whnf)|(refine cT (by rfl) ?_;conv=>whnf)|(refine cF (by rfl) ?_;conv=>whnf)))
      obtain ⟨P24, hP24⟩ : ∃ P : World → Prop, P = fun w => ListR true (elZ true 6 3 []) (elQ true 6 3 [] ⟨w, fun k => k ≠ p⟩) w (fun k => k ≠ p) c18 (.mk 0 [] (nl18) l18 []) ∧ P13 w := ⟨_, rfl⟩
      replace H : St w0 G0 p pb s18 ((g13, 160, es13.flatten ++ [.int .i32 n14, .int .i32 n16, c18, .slice none 0 0, .int .i8 0, .int .i32 0, .map none] ++ ((List.replicate (n13.toNat - (i13 + 1)) [.int .i32 0, .int .i32 0, .slice none 0 0, .slice none 0 0, .int .i8 0, .int .i32 0, .map none]).flatten ++ post13)) :: L13) P24 w := by rw [hP24]; exact H
      refine VC.cutE (fun q : Value × Bool × List T × Rd => [(0, .pointer (some ⟨p, 0, none⟩)), (2, .bool false), (7, .pointer (some ⟨pb, 0, none⟩)), (8, .int .i16 v), (9, .bool fx), (10, .pointer (some ⟨p, 0, none⟩)), (15, .int .i32 n5), (14, .slice (some ⟨g5, 0, none⟩) n5.toNat cap5), (16, .int .i32 i5), (17, .pointer (some ⟨g5, 0 + (i5 : Int).toNat * 19, none⟩)), (18, .pointer (some ⟨g5, 0 + (i5 : Int).toNat * 19, none⟩)), (23, .int .i32 n13), (22, .slice (some ⟨g13, 0, none⟩) n13.toNat cap13), (24, .int .i32 i13), (25, .pointer (some ⟨g13, 0 + (i13 : Int).toNat * 7, none⟩)), (26, .pointer (some ⟨g13, 0 + (i13 : Int).toNat * 7, none⟩))]) (fun q w' => (q.2.1 = true → q.2.2.1 = []) ∧ (if hasF (.mk 11 3 (-1) (-1) (-1) 0 10 dAlterPartitionRequestTopicPartitionNewEpochISR) v = true then rdField 7 v fx (.mk 11 3 (-1) (-1) (-1) 0 10 dAlterPartitionRequestTopicPartitionNewEpochISR) s18 else (dfT 7 (.mk 11 3 (-1) (-1) (-1) 0 10 dAlterPartitionRequestTopicPartitionNewEpochISR), s18)) = (.mk 0 [] q.2.1 q.2.2.1 [], q.2.2.2) ∧ St w0 G0 p pb q.2.2.2 ((g13, 160, es13.flatten ++ [.int .i32 n14, .int .i32 n16, c18, q.1, .int .i8 0, .int .i32 0, .map none] ++ ((List.replicate (n13.toNat - (i13 + 1)) [.int .i32 0, .int .i32 0, .slice none 0 0, .slice none 0 0, .int .i8 0, .int .i32 0, .map none]).flatten ++ post13)) :: L13) (fun w => ListR true (elZ true 6 10 dAlterPartitionRequestTopicPartitionNewEpochISR) (elQ true 6 10 dAlterPartitionRequestTopicPartitionNewEpochISR ⟨w, fun k => k ≠ p⟩) w (fun k => k ≠ p) q.1 (.mk 0 [] (q.2.1) q.2.2.1 []) ∧ P24 w) w') ?_ ?_
      · refine cI (by rfl) (fun hcv=>?_) (fun hcv=>?_)
        · have hh : hasF (.mk 11 3 (-1) (-1) (-1) 0 10 dAlterPartitionRequestTopicPartitionNewEpochISR) v = true := by have := of_decide_eq_true hcv; rw [hasF_iff]; omega
          ((conv=>whnf);repeat(first|(refine mvT ?_;conv=>whnf)|(refine mvF ?_;conv=>whnf)|(refine cT (by rfl) ?_;conv=>whnf)|(refine cF (by rfl) ?_;conv=>whnf)))
          refine ⟨_, ld (H.cell rfl (k := 3) rfl) (by first | omega | (simp [hlen2]; done) | (simp [hlen2]; omega)), ?_⟩; ((conv=>whnf);repeat(first|(refine mvT ?_;conv=>whnf)|(refine mvF ?_;conv=>whnf)|(refine cT (by rfl) ?_;conv=>whnf)|(refine cF (by rfl) ?_;conv=>whnf)))
          (refine mvB ?_;((conv=>whnf);repeat(first|(refine mvT ?_;conv=>whnf)|(refine mvF ?_;conv=>whnf)|(refine cT (by rfl) ?_;conv=>whnf)|(refine cF (by rfl) ?_;conv=>whnf))))
          refine VC.cutE (fun q : Int × Rd => [(36, .int .i32 q.1), (35, .slice none 0 0), (0, .pointer (some ⟨p, 0, none⟩)), (2, .bool false), (7, .pointer (some ⟨pb, 0, none⟩)), (8, .int .i16 v), (9, .bool fx), (10, .pointer (some ⟨p, 0, none⟩)), (15, .int .i32 n5), (14, .slice (some ⟨g5, 0, none⟩) n5.toNat cap5), (16, .int .i32 i5), (17, .pointer (some ⟨g5, 0 + (i5 : Int).toNat * 19, none⟩)), (18, .pointer (some ⟨g5, 0 + (i5 : Int).toNat * 19, none⟩)), (23, .int .i32 n13), (22, .slice (some ⟨g13, 0, none⟩) n13.toNat cap13), (24, .int .i32 i13), (25, .pointer (some ⟨g13, 0 + (i13 : Int).toNat * 7, none⟩)), (26, .pointer (some ⟨g13, 0 + (i13 : Int).toNat * 7, none⟩))]) (fun q w' => (-2147483648 ≤ q.1 ∧ q.1 ≤ 2147483647) ∧ rdLn fx s18 = q ∧ St w0 G0 p pb q.2 ((g13, 160, es13.flatten ++ [.int .i32 n14, .int .i32 n16, c18, .slice none 0 0, .int .i8 0, .int .i32 0, .map none] ++ ((List.replicate (n13.toNat - (i13 + 1)) [.int .i32 0, .int .i32 0, .slice none 0 0, .slice none 0 0, .int .i8 0, .int .i32 0, .map none]).flatten ++ post13)) :: L13) P24 w') ?_ ?_
          · refine cI (by rfl) (fun hc=>?_) (fun hc=>?_)
            · ((conv=>whnf);repeat(first|(refine mvT ?_;conv=>whnf)|(refine mvF ?_;conv=>whnf)|(refine cT (by rfl) ?_;conv=>whnf)|(refine cF (by rfl) ?_;conv=>whnf)))
              refine Does.mono H.lnc ?_
              rintro r w ⟨n, s', rfl, hn, hr, H⟩
              ((conv=>whnf);repeat(first|(refine mvT ?_;conv=>whnf)|(refine mvF ?_;conv=>whnf)|(refine cT (by rfl) ?_;conv=>whnf)|(refine cF (by rfl) ?_;conv=>whnf)))
              exact ⟨(n, s'), ⟨rfl, rfl, rfl, rfl, rfl, rfl, rfl, rfl, rfl, rfl, rfl, rfl, rfl, rfl, rfl, rfl, rfl, rfl, trivial⟩, hn, by rw [hc]; exact hr, H⟩
            · ((conv=>whnf);repeat(first|(refine mvT ?_;conv=>whnf)|(refine mvF ?_;conv=>whnf)|(refine cT (by rfl) ?_;conv=>whnf)|(refine cF (by rfl) ?_;conv=>whnf)))
              refine Does.mono H.lnp ?_
              rintro r w ⟨n, s', rfl, hn, hr, H⟩
              ((conv=>whnf);repeat(first|(refine mvT ?_;conv=>whnf)|(refine mvF ?_;conv=>whnf)|(refine cT (by rfl) ?_;conv=>whnf)|(refine cF (by rfl) ?_;conv=>whnf)))
              exact ⟨(n, s'), ⟨rfl, rfl, rfl, rfl, rfl, rfl, rfl, rfl, rfl, rfl, rfl, rfl, rfl, rfl, rfl, rfl, rfl, rfl, trivial⟩, hn, by rw [hc]; exact hr, H⟩
          clear H
          rintro ⟨n26, s26⟩ w ⟨hn26, hln26, H⟩
          dsimp only at hn26 hln26 H
          ((conv=>whnf);repeat(first|(refine mvT ?_;conv=>whnf)|(refine mvF ?_;conv=>whnf)|(refine cT (by rfl) ?_;conv=>whnf)|(refine cF (by rfl) ?_;conv=>whnf)))
          refine Does.mono H.ok ?_
          rintro r w ⟨rfl, H⟩
          ((conv=>whnf);repeat(first|(refine mvT ?_;conv=>whnf)|(refine mvF ?_;conv=>whnf)|(refine cT (by rfl) ?_;conv=>whnf)|(refine cF (by rfl) ?_;conv=>whnf)))
          refine cI (by rfl) (fun hbd=>?_) (fun hbd=>?_)
          · have hbd : s26.2 = true := by simpa using hbd
            ((conv=>whnf);repeat(first|(refine mvT ?_;conv=>whnf)|(refine mvF ?_;conv=>whnf)|(refine cT (by rfl) ?_;conv=>whnf)|(refine cF (by rfl) ?_;conv=>whnf)))
            refine Does.mono (H.done hL hp1) ?_
            rintro r w ⟨rfl, H⟩
            ((conv=>whnf);repeat(first|(refine mvT ?_;conv=>whnf)|(refine mvF ?_;conv=>whnf)|(refine cT (by rfl) ?_;conv=>whnf)|(refine cF (by rfl) ?_;conv=>whnf)))
            refine RdPost.early hbd (hup13 (?_)) H
            rw [tail_yes (rdField3.trans hr14) ⟨by decide, has_all hv⟩, tail_yes (rdField3.trans hr16) ⟨by decide, has_all hv⟩, tail_ver hr18 (by decide), tail_len ⟨by decide, hh⟩ hln26 hbd]
          have hbd : s26.2 = false := by simpa using hbd
          clear hbd
          ((conv=>whnf);repeat(first|(refine mvT ?_;conv=>whnf)|(refine mvF ?_;conv=>whnf)|(refine cT (by rfl) ?_;conv=>whnf)|(refine cF (by rfl) ?_;conv=>whnf)))
          refine cut_zero ?_
          ((conv=>whnf);repeat(first|(refine mvT ?_;conv=>whnf)|(refine mvF ?_;conv=>whnf)|(refine cT (by rfl) ?_;conv=>whnf)|(refine cF (by rfl) ?_;conv=>whnf)))
          refine VC.cutE (fun a : Value => [(36, .int .i32 n26), (35, a), (0, .pointer (some ⟨p, 0, none⟩)), (2, .bool false), (7, .pointer (some ⟨pb, 0, none⟩)), (8, .int .i16 v), (9, .bool fx), (10, .pointer (some ⟨p, 0, none⟩)), (15, .int .i32 n5), (14, .slice (some ⟨g5, 0, none⟩) n5.toNat cap5), (16, .int .i32 i5), (17, .pointer (some ⟨g5, 0 + (i5 : Int).toNat * 19, none⟩)), (18, .pointer (some ⟨g5, 0 + (i5 : Int).toNat * 19, none⟩)), (23, .int .i32 n13), (22, .slice (some ⟨g13, 0, none⟩) n13.toNat cap13), (24, .int .i32 i13), (25, .pointer (some ⟨g13, 0 + (i13 : Int).toNat * 7, none⟩)), (26, .pointer (some ⟨g13, 0 + (i13 : Int).toNat * 7, none⟩))]) (fun a w' => ListI w0 G0 p pb 163 [.int .i32 0, .int .i64 0, .map none] (elR 6 v fx 10 dAlterPartitionRequestTopicPartitionNewEpochISR) (elQ true 6 10 dAlterPartitionRequestTopicPartitionNewEpochISR) s26 n26 (decide (n26 ≤ 0)) ((g13, 160, es13.flatten ++ [.int .i32 n14, .int .i32 n16, c18, .slice none 0 0, .int .i8 0, .int .i32 0, .map none] ++ ((List.replicate (n13.toNat - (i13 + 1)) [.int .i32 0, .int .i32 0, .slice none 0 0, .slice none 0 0, .int .i8 0, .int .i32 0, .map none]).flatten ++ post13)) :: L13) P24 a 0 w') ?_ ?_
          · refine cI (by rfl) (fun hps=>?_) (fun hps=>?_)
            · have hps : 0 < n26 := by have := of_decide_eq_true hps; omega
              ((conv=>whnf);repeat(first|(refine mvT ?_;conv=>whnf)|(refine mvF ?_;conv=>whnf)|(refine cT (by rfl) ?_;conv=>whnf)|(refine cF (by rfl) ?_;conv=>whnf)))
              refine H.grow hps hn26.2 (by decide) rfl rfl (by decide) ?_
              intro g cap post w hc1 hc2 H
              ((conv=>whnf);repeat(first|(refine mvT ?_;conv=>whnf)|(refine mvF ?_;conv=>whnf)|(refine cT (by rfl) ?_;conv=>whnf)|(refine cF (by rfl) ?_;conv=>whnf)))
              exact ⟨_, ⟨rfl, rfl, rfl, rfl, rfl, rfl, rfl, rfl, rfl, rfl, rfl, rfl, rfl, rfl, rfl, rfl, rfl, rfl, trivial⟩, ListI.some hps (decide_eq_false (by omega)) hc1 hc2 H⟩
            · have hps : n26 ≤ 0 := by have := of_decide_eq_false hps; omega
              ((conv=>whnf);repeat(first|(refine mvT ?_;conv=>whnf)|(refine mvF ?_;conv=>whnf)|(refine cT (by rfl) ?_;conv=>whnf)|(refine cF (by rfl) ?_;conv=>whnf)))
              exact ⟨_, ⟨rfl, rfl, rfl, rfl, rfl, rfl, rfl, rfl, rfl, rfl, rfl, rfl, rfl, rfl, rfl, rfl, rfl, rfl, trivial⟩, ListI.none hps (decide_eq_true hps) H⟩
          clear H
          rintro a26 w H
          ((conv=>whnf);repeat(first|(refine mvT ?_;conv=>whnf)|(refine mvF ?_;conv=>whnf)|(refine cT (by rfl) ?_;conv=>whnf)|(refine cF (by rfl) ?_;conv=>whnf)))
          have hpL26 : inL ((g13, 160, es13.flatten ++ [.int .i32 n14, .int .i32 n16, c18, .slice none 0 0, .int .i8 0, .int .i32 0, .map none] ++ ((List.replicate (n13.toNat - (i13 + 1)) [.int .i32 0, .int .i32 0, .slice none 0 0, .slice none 0 0, .int .i8 0, .int .i32 0, .map none]).flatten ++ post13)) :: L13) p := inL.tail hpL13
          refine VL.loop (fun i : Nat => [(36, .int .i32 n26), (35, a26), (37, .int .i32 i), (0, .pointer (some ⟨p, 0, none⟩)), (2, .bool false), (7, .pointer (some ⟨pb, 0, none⟩)), (8, .int .i16 v), (9, .bool fx), (10, .pointer (some ⟨p, 0, none⟩)), (15, .int .i32 n5), (14, .slice (some ⟨g5, 0, none⟩) n5.toNat cap5), (16, .int .i32 i5), (17, .pointer (some ⟨g5, 0 + (i5 : Int).toNat * 19, none⟩)), (18, .pointer (some ⟨g5, 0 + (i5 : Int).toNat * 19, none⟩)), (23, .int .i32 n13), (22, .slice (some ⟨g13, 0, none⟩) n13.toNat cap13), (24, .int .i32 i13), (25, .pointer (some ⟨g13, 0 + (i13 : Int).toNat * 7, none⟩)), (26, .pointer (some ⟨g13, 0 + (i13 : Int).toNat * 7, none⟩))]) (fun i w' => i ≤ 2147483647 ∧ ListI w0 G0 p pb 163 [.int .i32 0, .int .i64 0, .map none] (elR 6 v fx 10 dAlterPartitionRequestTopicPartitionNewEpochISR) (elQ true 6 10 dAlterPartitionRequestTopicPartitionNewEpochISR) s26 n26 (decide (n26 ≤ 0)) ((g13, 160, es13.flatten ++ [.int .i32 n14, .int .i32 n16, c18, .slice none 0 0, .int .i8 0, .int .i32 0, .map none] ++ ((List.replicate (n13.toNat - (i13 + 1)) [.int .i32 0, .int .i32 0, .slice none 0 0, .slice none 0 0, .int .i8 0, .int .i32 0, .map none]).flatten ++ post13)) :: L13) P24 a26 i w') (fun i => n26.toNat - i) 0 ⟨rfl, rfl, rfl, rfl, rfl, rfl, rfl, rfl, rfl, rfl, rfl, rfl, rfl, rfl, rfl, rfl, rfl, rfl, rfl, trivial⟩ ⟨by decide, H⟩ ?_
          clear H
          rintro i26 w ⟨hi26, H⟩
          ((conv=>whnf);repeat(first|(refine mvT ?_;conv=>whnf)|(refine mvF ?_;conv=>whnf)|(refine cT (by rfl) ?_;conv=>whnf)|(refine cF (by rfl) ?_;conv=>whnf)))
          refine cI (by rfl) (fun h9=>?_) (fun h9=>?_)
          · have hlt26 : (i26 : Int) < n26 := of_decide_eq_true h9
            obtain ⟨g26, cap26, post26, rfl, hgo26, HI⟩ := H.go hlt26
            obtain ⟨es26, ts26, si26, hes26, hez26, hrn26, hts26, hlen3, H⟩ := HI.open hgo26.2.2.2.2
            obtain ⟨L26, hL26⟩ : ∃ L : List Ob, L = ((g13, 160, es13.flatten ++ [.int .i32 n14, .int .i32 n16, c18, .slice none 0 0, .int .i8 0, .int .i32 0, .map none] ++ ((List.replicate (n13.toNat - (i13 + 1)) [.int .i32 0, .int .i32 0, .slice none 0 0, .slice none 0 0, .int .i8 0, .int .i32 0, .map none]).flatten ++ post13)) :: L13) := ⟨_, rfl⟩
            rw [← hL26] at H hpL26
            obtain ⟨P26, hP26⟩ : ∃ P : World → Prop, P = fun w => (∀ (j : Nat) (c : List Value) (y : T), es26[j]? = some c → ts26[j]? = some y → elQ true 6 10 dAlterPartitionRequestTopicPartitionNewEpochISR ⟨w, fun k => k ≠ p⟩ c y) ∧ P24 w := ⟨_, rfl⟩
            rw [← hP26] at H
            replace H : St w0 G0 p pb si26 ((g26, 163, es26.flatten ++ [.int .i32 0, .int .i64 0, .map none] ++ ((List.replicate (n26.toNat - (i26 + 1)) [.int .i32 0, .int .i64 0, .map none]).flatten ++ post26)) :: L26) P26 w := H
            ((conv=>whnf);repeat(first|(refine mvT ?_;conv=>whnf)|(refine mvF ?_;conv=>whnf)|(refine cT (by rfl) ?_;conv=>whnf)|(refine cF (by rfl) ?_;conv=>whnf)))
            refine ⟨g26, 0, rfl, ⟨by omega, by omega⟩, ?_⟩
            ((conv=>whnf);repeat(first|(refine mvT ?_;conv=>whnf)|(refine mvF ?_;conv=>whnf)|(refine cT (by rfl) ?_;conv=>whnf)|(refine cF (by rfl) ?_;conv=>whnf)))
            refine Does.mono (dfAlterPartitionRequestTopicPartitionNewEpochISR (pre := es26.flatten) (cur := [.int .i32 0, .int .i64 0, .map none]) (post := ((List.replicate (n26.toNat - (i26 + 1)) [.int .i32 0, .int .i64 0, .map none]).flatten ++ post26)) H.head (by first | (rw [hlen3]; simp; done) | (simp [hlen3]; done) | (simp [hlen3]; omega)) rfl) ?_
            rintro rd w2 ⟨hdf, hxd⟩
            replace H := H.put hdf hxd
            clear hdf hxd
            replace H : St w0 G0 p pb si26 ((g26, 163, es26.flatten ++ [.int .i32 0, .int .i64 (-1), .map none] ++ ((List.replicate (n26.toNat - (i26 + 1)) [.int .i32 0, .int .i64 0, .map none]).flatten ++ post26)) :: L26) P26 w2 := H
            ((conv=>whnf);repeat(first|(refine mvT ?_;conv=>whnf)|(refine mvF ?_;conv=>whnf)|(refine cT (by rfl) ?_;conv=>whnf)|(refine cF (by rfl) ?_;conv=>whnf)))
            have hup26 : tailBad 6 v fx dAlterPartitionRequestTopicPartitionNewEpochISR si26 = true → (rdPart 9 v fx dAlterPartitionRequest (l, false)).2.2 = true := by
              intro hb
              refine hup13 ?_
              rw [tail_yes (rdField3.trans hr14) ⟨by decide, has_all hv⟩, tail_yes (rdField3.trans hr16) ⟨by decide, has_all hv⟩, tail_ver hr18 (by decide), tail_el ⟨by decide, hh⟩ hln26 hgo26.2.2.2.2 hrn26 hb]
            refine Does.mono H.int32 ?_
            rintro r w ⟨n27, s27, rfl, hn27, hr27, H⟩
            ((conv=>whnf);repeat(first|(refine mvT ?_;conv=>whnf)|(refine mvF ?_;conv=>whnf)|(refine cT (by rfl) ?_;conv=>whnf)|(refine cF (by rfl) ?_;conv=>whnf)))
            refine H.st1 (v := .int .i32 n27) 0 (rfl) (rfl) rfl (by first | omega | (simp [hlen3]; done) | (simp [hlen3]; omega)) rfl (Nat.lt_of_lt_of_le (Nat.lt_succ_self _) (Nat.le_of_ble_eq_true rfl)) ?_
            intro w H
            ((conv=>whnf);repeat(first|(refine mvT ?_;conv=>whnf)|(refine mvF ?_;conv=>whnf)|(refine cT (by rfl) ?_;conv=>whnf)|(refine cF (by rfl) ?_;conv=>whnf)))
            replace H : St w0 G0 p pb s27 ((g26, 163, es26.flatten ++ [.int .i32 n27, .int .i64 (-1), .map none] ++ ((List.replicate (n26.toNat - (i26 + 1)) [.int .i32 0, .int .i64 0, .map none]).flatten ++ post26)) :: L26) P26 w := H
            refine Does.mono H.int64 ?_
            rintro r w ⟨n29, s29, rfl, hn29, hr29, H⟩
            ((conv=>whnf);repeat(first|(refine mvT ?_;conv=>whnf)|(refine mvF ?_;conv=>whnf)|(refine cT (by rfl) ?_;conv=>whnf)|(refine cF (by rfl) ?_;conv=>whnf)))
            refine H.st1 (v := .int .i64 n29) 1 (rfl) (rfl) rfl (by first | omega | (simp [hlen3]; done) | (simp [hlen3]; omega)) rfl (Nat.lt_of_lt_of_le (Nat.lt_succ_self _) (Nat.le_of_ble_eq_true rfl)) ?_
            intro w H
            ((conv=>whnf);repeat(first|(refine mvT ?_;conv=>whnf)|(refine mvF ?_;conv=>whnf)|(refine cT (by rfl) ?_;conv=>whnf)|(refine cF (by rfl) ?_;conv=>whnf)))
            replace H : St w0 G0 p pb s29 ((g26, 163, es26.flatten ++ [.int .i32 n27, .int .i64 n29, .map none] ++ ((List.replicate (n26.toNat - (i26 + 1)) [.int .i32 0, .int .i64 0, .map none]).flatten ++ post26)) :: L26) P26 w := H
            (refine mvB ?_;((conv=>whnf);repeat(first|(refine mvT ?_;conv=>whnf)|(refine mvF ?_;conv=>whnf)|(refine cT (by rfl) ?_;conv=>whnf)|(refine cF (by rfl) ?_;conv=>whnf))))
            refine VC.cutB (fun q : Value × List Tg × Rd => [(0, .pointer (some ⟨p, 0, none⟩)), (2, .bool false), (7, .pointer (some ⟨pb, 0, none⟩)), (8, .int .i16 v), (9, .bool fx), (10, .pointer (some ⟨p, 0, none⟩)), (15, .int .i32 n5), (14, .slice (some ⟨g5, 0, none⟩) n5.toNat cap5), (16, .int .i32 i5), (17, .pointer (some ⟨g5, 0 + (i5 : Int).toNat * 19, none⟩)), (18, .pointer (some ⟨g5, 0 + (i5 : Int).toNat * 19, none⟩)), (23, .int .i32 n13), (22, .slice (some ⟨g13, 0, none⟩) n13.toNat cap13), (24, .int .i32 i13), (25, .pointer (some ⟨g13, 0 + (i13 : Int).toNat * 7, none⟩)), (26, .pointer (some ⟨g13, 0 + (i13 : Int).toNat * 7, none⟩)), (36, .int .i32 n26), (35, .slice (some ⟨g26, 0, none⟩) n26.toNat cap26), (37, .int .i32 i26), (38, .pointer (some ⟨g26, 0 + (i26 : Int).toNat * 3, none⟩)), (39, .pointer (some ⟨g26, 0 + (i26 : Int).toNat * 3, none⟩))]) (fun q w' => rdTagsF fx s29 = q.2 ∧ St w0 G0 p pb q.2.2 ((g26, 163, es26.flatten ++ [.int .i32 n27, .int .i64 n29, q.1] ++ ((List.replicate (n26.toNat - (i26 + 1)) [.int .i32 0, .int .i64 0, .map none]).flatten ++ post26)) :: L26) (fun w => TGf p q.1 q.2.1 w ∧ P26 w) w') ?_ ?_
            · refine cI (by rfl) (fun hc=>?_) (fun hc=>?_)
              · ((conv=>whnf);repeat(first|(refine mvT ?_;conv=>whnf)|(refine mvF ?_;conv=>whnf)|(refine cT (by rfl) ?_;conv=>whnf)|(refine cF (by rfl) ?_;conv=>whnf)))
                refine Does.mono H.tags ?_
                rintro r w ⟨m, u, s', rfl, hone, hr, H⟩
                ((conv=>whnf);repeat(first|(refine mvT ?_;conv=>whnf)|(refine mvF ?_;conv=>whnf)|(refine cT (by rfl) ?_;conv=>whnf)|(refine cF (by rfl) ?_;conv=>whnf)))
                refine H.st1 (v := m) 2 (rfl) (hone) rfl (by first | omega | (simp [hlen3]; done) | (simp [hlen3]; omega)) rfl (Nat.lt_of_lt_of_le (Nat.lt_succ_self _) (Nat.le_of_ble_eq_true rfl)) ?_
                intro w H
                ((conv=>whnf);repeat(first|(refine mvT ?_;conv=>whnf)|(refine mvF ?_;conv=>whnf)|(refine cT (by rfl) ?_;conv=>whnf)|(refine cF (by rfl) ?_;conv=>whnf)))
                exact ⟨(m, u, s'), ⟨rfl, rfl, rfl, rfl, rfl, rfl, rfl, rfl, rfl, rfl, rfl, rfl, rfl, rfl, rfl, rfl, rfl, rfl, rfl, rfl, rfl, trivial⟩, by rw [rdTagsF, if_pos hc]; exact hr, H⟩
              · ((conv=>whnf);repeat(first|(refine mvT ?_;conv=>whnf)|(refine mvF ?_;conv=>whnf)|(refine cT (by rfl) ?_;conv=>whnf)|(refine cF (by rfl) ?_;conv=>whnf)))
                exact ⟨(.map none, [], s29), ⟨rfl, rfl, rfl, rfl, rfl, rfl, rfl, rfl, rfl, rfl, rfl, rfl, rfl, rfl, rfl, rfl, rfl, rfl, rfl, rfl, rfl, trivial⟩, by rw [rdTagsF, if_neg (by rw [hc]; decide)], H.add fun w' _ => TagsR.nil _ _⟩
            clear H
            rintro ⟨m31, u31, s31⟩ w ⟨htg, H⟩
            dsimp only at htg H
            ((conv=>whnf);repeat(first|(refine mvT ?_;conv=>whnf)|(refine mvF ?_;conv=>whnf)|(refine cT (by rfl) ?_;conv=>whnf)|(refine cF (by rfl) ?_;conv=>whnf)))
            obtain ⟨P32, hP32⟩ : ∃ P : World → Prop, P = fun w => TGf p m31 u31 w ∧ P26 w := ⟨_, rfl⟩
            replace H : St w0 G0 p pb s31 ((g26, 163, es26.flatten ++ [.int .i32 n27, .int .i64 n29, m31] ++ ((List.replicate (n26.toNat - (i26 + 1)) [.int .i32 0, .int .i64 0, .map none]).flatten ++ post26)) :: L26) P32 w := by rw [hP32]; exact H
            have hpart : rdPart 6 v fx dAlterPartitionRequestTopicPartitionNewEpochISR si26 = (.mk 0 [] false [numT n27, numT n29] u31, s31) := by
              unfold rdPart rdPartW
              rw [rdAll_yes (df := dfT 6) (rdField3.trans hr27) ⟨by decide, has_all hv⟩, rdAll_yes (df := dfT 6) (rdField4.trans hr29) ⟨by decide, has_all hv⟩]
              simp only [rdAll]
              rw [htg]
            refine ⟨i26 + 1, ⟨rfl, rfl, ?_, rfl, rfl, rfl, rfl, rfl, rfl, rfl, rfl, rfl, rfl, rfl, rfl, rfl, rfl, rfl, rfl, trivial⟩, ⟨by omega, ListI.back hgo26 (LoopI.next hes26 hez26 hrn26 hts26 (cur := [.int .i32 n27, .int .i64 n29, m31]) (x := .mk 0 [] false [numT n27, numT n29] u31) (hpart) rfl (by rw [← hL26]; exact H) fun w hP => ?_)⟩, by omega⟩
            · show some (Value.int .i32 _) = _
              rw [IntKind.wrap_i32]
              simp only [Option.some.injEq, Value.int.injEq, true_and]
              omega
            · skip
              rw [hP32] at hP
              obtain ⟨hf32_, hP⟩ := hP
              rw [hP26] at hP
              exact ⟨QPt (QA1 (QF3 hn27) (QA1 (QF4 hn29) (QA0))) hf32_, hP⟩
          have hge26 : ¬ (i26 : Int) < n26 := of_decide_eq_false h9
          obtain ⟨l33, s33, hone33, hl33, hr33, H⟩ := H.done hge26 hln26 (nl := nlF (.mk 11 3 (-1) (-1) (-1) 0 10 dAlterPartitionRequestTopicPartitionNewEpochISR) v) (sz := elZ true 6 10 dAlterPartitionRequestTopicPartitionNewEpochISR) rfl hpL26 rfl
          ((conv=>whnf);repeat(first|(refine mvT ?_;conv=>whnf)|(refine mvF ?_;conv=>whnf)|(refine cT (by rfl) ?_;conv=>whnf)|(refine cF (by rfl) ?_;conv=>whnf)))
          obtain ⟨P34, hP34⟩ : ∃ P : World → Prop, P = fun w => ListR true (elZ true 6 10 dAlterPartitionRequestTopicPartitionNewEpochISR) (elQ true 6 10 dAlterPartitionRequestTopicPartitionNewEpochISR ⟨w, fun k => k ≠ p⟩) w (fun k => k ≠ p) a26 (.mk 0 [] (decide (n26 ≤ 0)) l33 []) ∧ P24 w := ⟨_, rfl⟩
          replace H : St w0 G0 p pb s33 ((g13, 160, es13.flatten ++ [.int .i32 n14, .int .i32 n16, c18, .slice none 0 0, .int .i8 0, .int .i32 0, .map none] ++ ((List.replicate (n13.toNat - (i13 + 1)) [.int .i32 0, .int .i32 0, .slice none 0 0, .slice none 0 0, .int .i8 0, .int .i32 0, .map none]).flatten ++ post13)) :: L13) P34 w := by rw [hP34]; exact H
          refine H.st1 (v := a26) 3 (cells_one hone33) (hone33) rfl (by first | omega | (simp [hlen2]; done) | (simp [hlen2]; omega)) rfl (Nat.lt_of_lt_of_le (Nat.lt_succ_self _) (Nat.le_of_ble_eq_true rfl)) ?_
          intro w H
          ((conv=>whnf);repeat(first|(refine mvT ?_;conv=>whnf)|(refine mvF ?_;conv=>whnf)|(refine cT (by rfl) ?_;conv=>whnf)|(refine cF (by rfl) ?_;conv=>whnf)))
          replace H : St w0 G0 p pb s33 ((g13, 160, es13.flatten ++ [.int .i32 n14, .int .i32 n16, c18, a26, .int .i8 0, .int .i32 0, .map none] ++ ((List.replicate (n13.toNat - (i13 + 1)) [.int .i32 0, .int .i32 0, .slice none 0 0, .slice none 0 0, .int .i8 0, .int .i32 0, .map none]).flatten ++ post13)) :: L13) P34 w := H
          exact ⟨(a26, decide (n26 ≤ 0), l33, s33), ⟨rfl, rfl, rfl, rfl, rfl, rfl, rfl, rfl, rfl, rfl, rfl, rfl, rfl, rfl, rfl, rfl, trivial⟩, hl33, by rw [if_pos hh]; exact ((rdField_list _ _ _ _ _ _ _ _ _ _ _).trans hr33), by rw [hP34] at H; exact H⟩
        · ((conv=>whnf);repeat(first|(refine mvT ?_;conv=>whnf)|(refine mvF ?_;conv=>whnf)|(refine cT (by rfl) ?_;conv=>whnf)|(refine cF (by rfl) ?_;conv=>whnf)))
          have hh : ¬ hasF (.mk 11 3 (-1) (-1) (-1) 0 10 dAlterPartitionRequestTopicPartitionNewEpochISR) v = true := by have := of_decide_eq_false hcv; rw [hasF_iff]; omega
          exact ⟨(.slice none 0 0, true, [], s18), ⟨rfl, rfl, rfl, rfl, rfl, rfl, rfl, rfl, rfl, rfl, rfl, rfl, rfl, rfl, rfl, rfl, trivial⟩, fun _ => rfl, by rw [if_neg hh]; rfl, H.add fun w' _ => .inl ⟨rfl, rfl⟩⟩
      clear H
      rintro ⟨c25, nl25, l25, s25⟩ w ⟨hnl25, hr25, H⟩
      dsimp only at hnl25 hr25 H
      ((conv=>whnf);repeat(first|(refine mvT ?_;conv=>whnf)|(refine mvF ?_;conv=>whnf)|(refine cT (by rfl) ?_;conv=>whnf)|(refine cF (by rfl) ?_;conv=>whnf)))
      obtain ⟨P36, hP36⟩ : ∃ P : World → Prop, P = fun w => ListR true (elZ true 6 10 dAlterPartitionRequestTopicPartitionNewEpochISR) (elQ true 6 10 dAlterPartitionRequestTopicPartitionNewEpochISR ⟨w, fun k => k ≠ p⟩) w (fun k => k ≠ p) c25 (.mk 0 [] (nl25) l25 []) ∧ P24 w := ⟨_, rfl⟩
      replace H : St w0 G0 p pb s25 ((g13, 160, es13.flatten ++ [.int .i32 n14, .int .i32 n16, c18, c25, .int .i8 0, .int .i32 0, .map none] ++ ((List.replicate (n13.toNat - (i13 + 1)) [.int .i32 0, .int .i32 0, .slice none 0 0, .slice none 0 0, .int .i8 0, .int .i32 0, .map none]).flatten ++ post13)) :: L13) P36 w := by rw [hP36]; exact H
      refine VC.cutE (fun q : Int × Rd => [(0, .pointer (some ⟨p, 0, none⟩)), (2, .bool false), (7, .pointer (some ⟨pb, 0, none⟩)), (8, .int .i16 v), (9, .bool fx), (10, .pointer (some ⟨p, 0, none⟩)), (15, .int .i32 n5), (14, .slice (some ⟨g5, 0, none⟩) n5.toNat cap5), (16, .int .i32 i5), (17, .pointer (some ⟨g5, 0 + (i5 : Int).toNat * 19, none⟩)), (18, .pointer (some ⟨g5, 0 + (i5 : Int).toNat * 19, none⟩)), (23, .int .i32 n13), (22, .slice (some ⟨g13, 0, none⟩) n13.toNat cap13), (24, .int .i32 i13), (25, .pointer (some ⟨g13, 0 + (i13 : Int).toNat * 7, none⟩)), (26, .pointer (some ⟨g13, 0 + (i13 : Int).toNat * 7, none⟩))]) (fun q w' => IntKind.i8.wrap q.1 = q.1 ∧ (if hasF (.mk 1 1 (-1) (-1) (-1) 0 0 []) v = true then rdField 7 v fx (.mk 1 1 (-1) (-1) (-1) 0 0 []) s25 else (dfT 7 (.mk 1 1 (-1) (-1) (-1) 0 0 []), s25)) = (numT q.1, q.2) ∧ St w0 G0 p pb q.2 ((g13, 160, es13.flatten ++ [.int .i32 n14, .int .i32 n16, c18, c25, .int .i8 q.1, .int .i32 0, .map none] ++ ((List.replicate (n13.toNat - (i13 + 1)) [.int .i32 0, .int .i32 0, .slice none 0 0, .slice none 0 0, .int .i8 0, .int .i32 0, .map none]).flatten ++ post13)) :: L13) P36 w') ?_ ?_
      · refine cI (by rfl) (fun hcv=>?_) (fun hcv=>?_)
        · ((conv=>whnf);repeat(first|(refine mvT ?_;conv=>whnf)|(refine mvF ?_;conv=>whnf)|(refine cT (by rfl) ?_;conv=>whnf)|(refine cF (by rfl) ?_;conv=>whnf)))
          refine Does.mono H.int8 ?_
          rintro r w ⟨n38, s38, rfl, hn38, hr38, H⟩
          ((conv=>whnf);repeat(first|(refine mvT ?_;conv=>whnf)|(refine mvF ?_;conv=>whnf)|(refine cT (by rfl) ?_;conv=>whnf)|(refine cF (by rfl) ?_;conv=>whnf)))
          refine H.st1 (v := .int .i8 n38) 4 (rfl) (rfl) rfl (by first | omega | (simp [hlen2]; done) | (simp [hlen2]; omega)) rfl (Nat.lt_of_lt_of_le (Nat.lt_succ_self _) (Nat.le_of_ble_eq_true rfl)) ?_
          intro w H
          ((conv=>whnf);repeat(first|(refine mvT ?_;conv=>whnf)|(refine mvF ?_;conv=>whnf)|(refine cT (by rfl) ?_;conv=>whnf)|(refine cF (by rfl) ?_;conv=>whnf)))
          replace H : St w0 G0 p pb s38 ((g13, 160, es13.flatten ++ [.int .i32 n14, .int .i32 n16, c18, c25, .int .i8 n38, .int .i32 0, .map none] ++ ((List.replicate (n13.toNat - (i13 + 1)) [.int .i32 0, .int .i32 0, .slice none 0 0, .slice none 0 0, .int .i8 0, .int .i32 0, .map none]).flatten ++ post13)) :: L13) P36 w := H
          have hh : hasF (.mk 1 1 (-1) (-1) (-1) 0 0 []) v = true := by have := of_decide_eq_true hcv; rw [hasF_iff]; omega
          exact ⟨(n38, s38), ⟨rfl, rfl, rfl, rfl, rfl, rfl, rfl, rfl, rfl, rfl, rfl, rfl, rfl, rfl, rfl, rfl, trivial⟩, hn38, by rw [if_pos hh]; exact (rdField1.trans hr38), H⟩
        · ((conv=>whnf);repeat(first|(refine mvT ?_;conv=>whnf)|(refine mvF ?_;conv=>whnf)|(refine cT (by rfl) ?_;conv=>whnf)|(refine cF (by rfl) ?_;conv=>whnf)))
          have hh : ¬ hasF (.mk 1 1 (-1) (-1) (-1) 0 0 []) v = true := by have := of_decide_eq_false hcv; rw [hasF_iff]; omega
          exact ⟨(0, s25), ⟨rfl, rfl, rfl, rfl, rfl, rfl, rfl, rfl, rfl, rfl, rfl, rfl, rfl, rfl, rfl, rfl, trivial⟩, rfl, by rw [if_neg hh]; rfl, H⟩
      clear H
      rintro ⟨n37, s37⟩ w ⟨hn37, hr37, H⟩
      dsimp only at hn37 hr37 H
      ((conv=>whnf);repeat(first|(refine mvT ?_;conv=>whnf)|(refine mvF ?_;conv=>whnf)|(refine cT (by rfl) ?_;conv=>whnf)|(refine cF (by rfl) ?_;conv=>whnf)))
      replace H : St w0 G0 p pb s37 ((g13, 160, es13.flatten ++ [.int .i32 n14, .int .i32 n16, c18, c25, .int .i8 n37, .int .i32 0, .map none] ++ ((List.replicate (n13.toNat - (i13 + 1)) [.int .i32 0, .int .i32 0, .slice none 0 0, .slice none 0 0, .int .i8 0, .int .i32 0, .map none]).flatten ++ post13)) :: L13) P36 w := H
      refine Does.mono H.int32 ?_
      rintro r w ⟨n40, s40, rfl, hn40, hr40, H⟩
      ((conv=>whnf);repeat(first|(refine mvT ?_;conv=>whnf)|(refine mvF ?_;conv=>whnf)|(refine cT (by rfl) ?_;conv=>whnf)|(refine cF (by rfl) ?_;conv=>whnf)))
      refine H.st1 (v := .int .i32 n40) 5 (rfl) (rfl) rfl (by first | omega | (simp [hlen2]; done) | (simp [hlen2]; omega)) rfl (Nat.lt_of_lt_of_le (Nat.lt_succ_self _) (Nat.le_of_ble_eq_true rfl)) ?_
      intro w H
      ((conv=>whnf);repeat(first|(refine mvT ?_;conv=>whnf)|(refine mvF ?_;conv=>whnf)|(refine cT (by rfl) ?_;conv=>whnf)|(refine cF (by rfl) ?_;conv=>whnf)))
      replace H : St w0 G0 p pb s40 ((g13, 160, es13.flatten ++ [.int .i32 n14, .int .i32 n16, c18, c25, .int .i8 n37, .int .i32 n40, .map none] ++ ((List.replicate (n13.toNat - (i13 + 1)) [.int .i32 0, .int .i32 0, .slice none 0 0, .slice none 0 0, .int .i8 0, .int .i32 0, .map none]).flatten ++ post13)) :: L13) P36 w := H
      (refine mvB ?_;((conv=>whnf);repeat(first|(refine mvT ?_;conv=>whnf)|(refine mvF ?_;conv=>whnf)|(refine cT (by rfl) ?_;conv=>whnf)|(refine cF (by rfl) ?_;conv=>whnf))))
      refine VC.cutB (fun q : Value × List Tg × Rd => [(0, .pointer (some ⟨p, 0, none⟩)), (2, .bool false), (7, .pointer (some ⟨pb, 0, none⟩)), (8, .int .i16 v), (9, .bool fx), (10, .pointer (some ⟨p, 0, none⟩)), (15, .int .i32 n5), (14, .slice (some ⟨g5, 0, none⟩) n5.toNat cap5), (16, .int .i32 i5), (17, .pointer (some ⟨g5, 0 + (i5 : Int).toNat * 19, none⟩)), (18, .pointer (some ⟨g5, 0 + (i5 : Int).toNat * 19, none⟩)), (23, .int .i32 n13), (22, .slice (some ⟨g13, 0, none⟩) n13.toNat cap13), (24, .int .i32 i13), (25, .pointer (some ⟨g13, 0 + (i13 : Int).toNat * 7, none⟩)), (26, .pointer (some ⟨g13, 0 + (i13 : Int).toNat * 7, none⟩))]) (fun q w' => rdTagsF fx s40 = q.2 ∧ St w0 G0 p pb q.2.2 ((g13, 160, es13.flatten ++ [.int .i32 n14, .int .i32 n16, c18, c25, .int .i8 n37, .int .i32 n40, q.1] ++ ((List.replicate (n13.toNat - (i13 + 1)) [.int .i32 0, .int .i32 0, .slice none 0 0, .slice none 0 0, .int .i8 0, .int .i32 0, .map none]).flatten ++ post13)) :: L13) (fun w => TGf p q.1 q.2.1 w ∧ P36 w) w') ?_ ?_
      · refine cI (by rfl) (fun hc=>?_) (fun hc=>?_)
        · ((conv=>whnf);repeat(first|(refine mvT ?_;conv=>whnf)|(refine mvF ?_;conv=>whnf)|(refine cT (by rfl) ?_;conv=>whnf)|(refine cF (by rfl) ?_;conv=>whnf)))
          refine Does.mono H.tags ?_
          rintro r w ⟨m, u, s', rfl, hone, hr, H⟩
          ((conv=>whnf);repeat(first|(refine mvT ?_;conv=>whnf)|(refine mvF ?_;conv=>whnf)|(refine cT (by rfl) ?_;conv=>whnf)|(refine cF (by rfl) ?_;conv=>whnf)))
          refine H.st1 (v := m) 6 (rfl) (hone) rfl (by first | omega | (simp [hlen2]; done) | (simp [hlen2]; omega)) rfl (Nat.lt_of_lt_of_le (Nat.lt_succ_self _) (Nat.le_of_ble_eq_true rfl)) ?_
          intro w H
          ((conv=>whnf);repeat(first|(refine mvT ?_;conv=>whnf)|(refine mvF ?_;conv=>whnf)|(refine cT (by rfl) ?_;conv=>whnf)|(refine cF (by rfl) ?_;conv=>whnf)))
          exact ⟨(m, u, s'), ⟨rfl, rfl, rfl, rfl, rfl, rfl, rfl, rfl, rfl, rfl, rfl, rfl, rfl, rfl, rfl, rfl, trivial⟩, by rw [rdTagsF, if_pos hc]; exact hr, H⟩
        · ((conv=>whnf);repeat(first|(refine mvT ?_;conv=>whnf)|(refine mvF ?_;conv=>whnf)|(refine cT (by rfl) ?_;conv=>whnf)|(refine cF (by rfl) ?_;conv=>whnf)))
          exact ⟨(.map none, [], s40), ⟨rfl, rfl, rfl, rfl, rfl, rfl, rfl, rfl, rfl, rfl, rfl, rfl, rfl, rfl, rfl, rfl, trivial⟩, by rw [rdTagsF, if_neg (by rw [hc]; decide)], H.add fun w' _ => TagsR.nil _ _⟩
      clear H
      rintro ⟨m42, u42, s42⟩ w ⟨htg, H⟩
      dsimp only at htg H
      ((conv=>whnf);repeat(first|(refine mvT ?_;conv=>whnf)|(refine mvF ?_;conv=>whnf)|(refine cT (by rfl) ?_;conv=>whnf)|(refine cF (by rfl) ?_;conv=>whnf)))
      obtain ⟨P43, hP43⟩ : ∃ P : World → Prop, P = fun w => TGf p m42 u42 w ∧ P36 w := ⟨_, rfl⟩
      replace H : St w0 G0 p pb s42 ((g13, 160, es13.flatten ++ [.int .i32 n14, .int .i32 n16, c18, c25, .int .i8 n37, .int .i32 n40, m42] ++ ((List.replicate (n13.toNat - (i13 + 1)) [.int .i32 0, .int .i32 0, .slice none 0 0, .slice none 0 0, .int .i8 0, .int .i32 0, .map none]).flatten ++ post13)) :: L13) P43 w := by rw [hP43]; exact H
      have hpart : rdPart 7 v fx dAlterPartitionRequestTopicPartition si13 = (.mk 0 [] false [numT n14, numT n16, .mk 0 [] nl18 l18 [], .mk 0 [] nl25 l25 [], numT n37, numT n40] u42, s42) := by
        unfold rdPart rdPartW
        rw [rdAll_yes (df := dfT 7) (rdField3.trans hr14) ⟨by decide, has_all hv⟩, rdAll_yes (df := dfT 7) (rdField3.trans hr16) ⟨by decide, has_all hv⟩, rdAll_ver hr18 (by decide), rdAll_ver hr25 (by decide), rdAll_ver hr37 (by decide), rdAll_yes (df := dfT 7) (rdField3.trans hr40) ⟨by decide, has_all hv⟩]
        simp only [rdAll]
        rw [htg]
      refine ⟨i13 + 1, ⟨rfl, rfl, ?_, rfl, rfl, rfl, rfl, rfl, rfl, rfl, rfl, rfl, rfl, rfl, trivial⟩, ⟨by omega, ListI.back hgo13 (LoopI.next hes13 hez13 hrn13 hts13 (cur := [.int .i32 n14, .int .i32 n16, c18, c25, .int .i8 n37, .int .i32 n40, m42]) (x := .mk 0 [] false [numT n14, numT n16, .mk 0 [] nl18 l18 [], .mk 0 [] nl25 l25 [], numT n37, numT n40] u42) (hpart) rfl (by rw [← hL13]; exact H) fun w hP => ?_)⟩, by omega⟩
      · show some (Value.int .i32 _) = _
        rw [IntKind.wrap_i32]
        simp only [Option.some.injEq, Value.int.injEq, true_and]
        omega
      · skip
        rw [hP43] at hP
        obtain ⟨hf43_, hP⟩ := hP
        rw [hP36] at hP
        obtain ⟨hf36_, hP⟩ := hP
        rw [hP24] at hP
        obtain ⟨hf24_, hP⟩ := hP
        rw [hP13] at hP
        exact ⟨QPt (QA1 (QF3 hn14) (QA1 (QF3 hn16) (QA1 (QF11 hnl18 hf24_) (QA1 (QF11 hnl25 hf36_) (QA1 (QF1 hn37) (QA1 (QF3 hn40) (QA0))))))) hf43_, hP⟩
    have hge13 : ¬ (i13 : Int) < n13 := of_decide_eq_false h9
    obtain ⟨l44, s44, hone44, hl44, hr44, H⟩ := H.done hge13 hln13 (nl := nlF (.mk 11 0 (-1) (-1) (-1) 0 10 dAlterPartitionRequestTopicPartition) v) (sz := elZ true 7 10 dAlterPartitionRequestTopicPartition) rfl hpL13 rfl
    ((conv=>whnf);repeat(first|(refine mvT ?_;conv=>whnf)|(refine mvF ?_;conv=>whnf)|(refine cT (by rfl) ?_;conv=>whnf)|(refine cF (by rfl) ?_;conv=>whnf)))
    obtain ⟨P45, hP45⟩ : ∃ P : World → Prop, P = fun w => ListR true (elZ true 7 10 dAlterPartitionRequestTopicPartition) (elQ true 7 10 dAlterPartitionRequestTopicPartition ⟨w, fun k => k ≠ p⟩) w (fun k => k ≠ p) a13 (.mk 0 [] (decide (n13 ≤ 0)) l44 []) ∧ P5 w := ⟨_, rfl⟩
    replace H : St w0 G0 p pb s44 ((g5, 156, es5.flatten ++ [str u6, bcell u9_0, bcell u9_1, bcell u9_2, bcell u9_3, bcell u9_4, bcell u9_5, bcell u9_6, bcell u9_7, bcell u9_8, bcell u9_9, bcell u9_10, bcell u9_11, bcell u9_12, bcell u9_13, bcell u9_14, bcell u9_15, .slice none 0 0, .map none] ++ ((List.replicate (n5.toNat - (i5 + 1)) [str [], .int .u8 0, .int .u8 0, .int .u8 0, .int .u8 0, .int .u8 0, .int .u8 0, .int .u8 0, .int .u8 0, .int .u8 0, .int .u8 0, .int .u8 0, .int .u8 0, .int .u8 0, .int .u8 0, .int .u8 0, .int .u8 0, .slice none 0 0, .map none]).flatten ++ post5)) :: L5) P45 w := by rw [hP45]; exact H
    refine H.st1 (v := a13) 17 (cells_one hone44) (hone44) rfl (by first | omega | (simp [hlen1]; done) | (simp [hlen1]; omega)) rfl (Nat.lt_of_lt_of_le (Nat.lt_succ_self _) (Nat.le_of_ble_eq_true rfl)) ?_
    intro w H
    ((conv=>whnf);repeat(first|(refine mvT ?_;conv=>whnf)|(refine mvF ?_;conv=>whnf)|(refine cT (by rfl) ?_;conv=>whnf)|(refine cF (by rfl) ?_;conv=>whnf)))
    replace H : St w0 G0 p pb s44 ((g5, 156, es5.flatten ++ [str u6, bcell u9_0, bcell u9_1, bcell u9_2, bcell u9_3, bcell u9_4, bcell u9_5, bcell u9_6, bcell u9_7, bcell u9_8, bcell u9_9, bcell u9_10, bcell u9_11, bcell u9_12, bcell u9_13, bcell u9_14, bcell u9_15, a13, .map none] ++ ((List.replicate (n5.toNat - (i5 + 1)) [str [], .int .u8 0, .int .u8 0, .int .u8 0, .int .u8 0, .int .u8 0, .int .u8 0, .int .u8 0, .int .u8 0, .int .u8 0, .int .u8 0, .int .u8 0, .int .u8 0, .int .u8 0, .int .u8 0, .int .u8 0, .int .u8 0, .slice none 0 0, .map none]).flatten ++ post5)) :: L5) P45 w := H
    (refine mvB ?_;((conv=>whnf);repeat(first|(refine mvT ?_;conv=>whnf)|(refine mvF ?_;conv=>whnf)|(refine cT (by rfl) ?_;conv=>whnf)|(refine cF (by rfl) ?_;conv=>whnf))))
    refine VC.cutB (fun q : Value × List Tg × Rd => [(0, .pointer (some ⟨p, 0, none⟩)), (2, .bool false), (7, .pointer (some ⟨pb, 0, none⟩)), (8, .int .i16 v), (9, .bool fx), (10, .pointer (some ⟨p, 0, none⟩)), (15, .int .i32 n5), (14, .slice (some ⟨g5, 0, none⟩) n5.toNat cap5), (16, .int .i32 i5), (17, .pointer (some ⟨g5, 0 + (i5 : Int).toNat * 19, none⟩)), (18, .pointer (some ⟨g5, 0 + (i5 : Int).toNat * 19, none⟩))]) (fun q w' => rdTagsF fx s44 = q.2 ∧ St w0 G0 p pb q.2.2 ((g5, 156, es5.flatten ++ [str u6, bcell u9_0, bcell u9_1, bcell u9_2, bcell u9_3, bcell u9_4, bcell u9_5, bcell u9_6, bcell u9_7, bcell u9_8, bcell u9_9, bcell u9_10, bcell u9_11, bcell u9_12, bcell u9_13, bcell u9_14, bcell u9_15, a13, q.1] ++ ((List.replicate (n5.toNat - (i5 + 1)) [str [], .int .u8 0, .int .u8 0, .int .u8 0, .int .u8 0, .int .u8 0, .int .u8 0, .int .u8 0, .int .u8 0, .int .u8 0, .int .u8 0, .int .u8 0, .int .u8 0, .int .u8 0, .int .u8 0, .int .u8 0, .int .u8 0, .slice none 0 0, .map none]).flatten ++ post5)) :: L5) (fun w => TGf p q.1 q.2.1 w ∧ P45 w) w') ?_ ?_
    · refine cI (by rfl) (fun hc=>?_) (fun hc=>?_)
      · ((conv=>whnf);repeat(first|(refine mvT ?_;conv=>whnf)|(refine mvF ?_;conv=>whnf)|(refine cT (by rfl) ?_;conv=>whnf)|(refine cF (by rfl) ?_;conv=>whnf)))
        refine Does.mono H.tags ?_
        rintro r w ⟨m, u, s', rfl, hone, hr, H⟩
        ((conv=>whnf);repeat(first|(refine mvT ?_;conv=>whnf)|(refine mvF ?_;conv=>whnf)|(refine cT (by rfl) ?_;conv=>whnf)|(refine cF (by rfl) ?_;conv=>whnf)))
        refine H.st1 (v := m) 18 (rfl) (hone) rfl (by first | omega | (simp [hlen1]; done) | (simp [hlen1]; omega)) rfl (Nat.lt_of_lt_of_le (Nat.lt_succ_self _) (Nat.le_of_ble_eq_true rfl)) ?_
        intro w H
        ((conv=>whnf);repeat(first|(refine mvT ?_;conv=>whnf)|(refine mvF ?_;conv=>whnf)|(refine cT (by rfl) ?_;conv=>whnf)|(refine cF (by rfl) ?_;conv=>whnf)))
        exact ⟨(m, u, s'), ⟨rfl, rfl, rfl, rfl, rfl, rfl, rfl, rfl, rfl, rfl, rfl, trivial⟩, by rw [rdTagsF, if_pos hc]; exact hr, H⟩
      · ((conv=>whnf);repeat(first|(refine mvT ?_;conv=>whnf)|(refine mvF ?_;conv=>whnf)|(refine cT (by rfl) ?_;conv=>whnf)|(refine cF (by rfl) ?_;conv=>whnf)))
        exact ⟨(.map none, [], s44), ⟨rfl, rfl, rfl, rfl, rfl, rfl, rfl, rfl, rfl, rfl, rfl, trivial⟩, by rw [rdTagsF, if_neg (by rw [hc]; decide)], H.add fun w' _ => TagsR.nil _ _⟩
    clear H
    rintro ⟨m47, u47, s47⟩ w ⟨htg, H⟩
    dsimp only at htg H
    ((conv=>whnf);repeat(first|(refine mvT ?_;conv=>whnf)|(refine mvF ?_;conv=>whnf)|(refine cT (by rfl) ?_;conv=>whnf)|(refine cF (by rfl) ?_;conv=>whnf)))
    obtain ⟨P48, hP48⟩ : ∃ P : World → Prop, P = fun w => TGf p m47 u47 w ∧ P45 w := ⟨_, rfl⟩
    replace H : St w0 G0 p pb s47 ((g5, 156, es5.flatten ++ [str u6, bcell u9_0, bcell u9_1, bcell u9_2, bcell u9_3, bcell u9_4, bcell u9_5, bcell u9_6, bcell u9_7, bcell u9_8, bcell u9_9, bcell u9_10, bcell u9_11, bcell u9_12, bcell u9_13, bcell u9_14, bcell u9_15, a13, m47] ++ ((List.replicate (n5.toNat - (i5 + 1)) [str [], .int .u8 0, .int .u8 0, .int .u8 0, .int .u8 0, .int .u8 0, .int .u8 0, .int .u8 0, .int .u8 0, .int .u8 0, .int .u8 0, .int .u8 0, .int .u8 0, .int .u8 0, .int .u8 0, .int .u8 0, .int .u8 0, .slice none 0 0, .map none]).flatten ++ post5)) :: L5) P48 w := by rw [hP48]; exact H
    have hpart : rdPart 8 v fx dAlterPartitionRequestTopic si5 = (.mk 0 [] false [.mk 0 u6 false [] [], .mk 0 [u9_0, u9_1, u9_2, u9_3, u9_4, u9_5, u9_6, u9_7, u9_8, u9_9, u9_10, u9_11, u9_12, u9_13, u9_14, u9_15] false [] [], .mk 0 [] (decide (n13 ≤ 0)) l44 []] u47, s47) := by
      unfold rdPart rdPartW
      rw [rdAll_ver hr6 (by decide), rdAll_ver hr9 (by decide), rdAll_yes (df := dfT 8) ((rdField_list _ _ _ _ _ _ _ _ _ _ _).trans hr44) ⟨by decide, has_all hv⟩]
      simp only [rdAll]
      rw [htg]
    refine ⟨i5 + 1, ⟨rfl, rfl, ?_, rfl, rfl, rfl, rfl, rfl, rfl, trivial⟩, ⟨by omega, ListI.back hgo5 (LoopI.next hes5 hez5 hrn5 hts5 (cur := [str u6, bcell u9_0, bcell u9_1, bcell u9_2, bcell u9_3, bcell u9_4, bcell u9_5, bcell u9_6, bcell u9_7, bcell u9_8, bcell u9_9, bcell u9_10, bcell u9_11, bcell u9_12, bcell u9_13, bcell u9_14, bcell u9_15, a13, m47]) (x := .mk 0 [] false [.mk 0 u6 false [] [], .mk 0 [u9_0, u9_1, u9_2, u9_3, u9_4, u9_5, u9_6, u9_7, u9_8, u9_9, u9_10, u9_11, u9_12, u9_13, u9_14, u9_15] false [] [], .mk 0 [] (decide (n13 ≤ 0)) l44 []] u47) (hpart) rfl (by rw [← hL5]; exact H) fun w hP => ?_)⟩, by omega⟩
    · show some (Value.int .i32 _) = _
      rw [IntKind.wrap_i32]
      simp only [Option.some.injEq, Value.int.injEq, true_and]
      omega
    · skip
      rw [hP48] at hP
      obtain ⟨hf48_, hP⟩ := hP
      rw [hP45] at hP
      obtain ⟨hf45_, hP⟩ := hP
      rw [hP5] at hP
      exact ⟨QPt (QA1 (QF8 (by decide) u6) (QA1 (QF7 (u := [u9_0, u9_1, u9_2, u9_3, u9_4, u9_5, u9_6, u9_7, u9_8, u9_9, u9_10, u9_11, u9_12, u9_13, u9_14, u9_15]) rfl) (QA1 (QF11 hl44 hf45_) (QA0)))) hf48_, hP⟩
  have hge5 : ¬ (i5 : Int) < n5 := of_decide_eq_false h9
  obtain ⟨l49, s49, hone49, hl49, hr49, H⟩ := H.done hge5 hln5 (nl := nlF (.mk 11 0 (-1) (-1) (-1) 0 10 dAlterPartitionRequestTopic) v) (sz := elZ true 8 10 dAlterPartitionRequestTopic) rfl hpL5 rfl
  ((conv=>whnf);repeat(first|(refine mvT ?_;conv=>whnf)|(refine mvF ?_;conv=>whnf)|(refine cT (by rfl) ?_;conv=>whnf)|(refine cF (by rfl) ?_;conv=>whnf)))
  obtain ⟨P50, hP50⟩ : ∃ P : World → Prop, P = fun w => ListR true (elZ true 8 10 dAlterPartitionRequestTopic) (elQ true 8 10 dAlterPartitionRequestTopic ⟨w, fun k => k ≠ p⟩) w (fun k => k ≠ p) a5 (.mk 0 [] (decide (n5 ≤ 0)) l49 []) ∧ (fun _ => True) w := ⟨_, rfl⟩
  replace H : St w0 G0 p pb s49 ((p, ty, [] ++ [.int .i16 v, .int .i32 n1, .int .i64 n3, .slice none 0 0, .map none] ++ []) :: []) P50 w := by rw [hP50]; exact H
  refine H.st1 (v := a5) 3 (cells_one hone49) (hone49) rfl (by simp) rfl (Nat.lt_of_lt_of_le (Nat.lt_succ_self _) (Nat.le_of_ble_eq_true rfl)) ?_
  intro w H
  ((conv=>whnf);repeat(first|(refine mvT ?_;conv=>whnf)|(refine mvF ?_;conv=>whnf)|(refine cT (by rfl) ?_;conv=>whnf)|(refine cF (by rfl) ?_;conv=>whnf)))
  replace H : St w0 G0 p pb s49 ((p, ty, [] ++ [.int .i16 v, .int .i32 n1, .int .i64 n3, a5, .map none] ++ []) :: []) P50 w := H
  (refine mvB ?_;((conv=>whnf);repeat(first|(refine mvT ?_;conv=>whnf)|(refine mvF ?_;conv=>whnf)|(refine cT (by rfl) ?_;conv=>whnf)|(refine cF (by rfl) ?_;conv=>whnf))))
  refine VC.cutE (fun q : Value × List Tg × Rd => [(0, .pointer (some ⟨p, 0, none⟩)), (2, .bool false), (7, .pointer (some ⟨pb, 0, none⟩)), (8, .int .i16 v), (9, .bool fx), (10, .pointer (some ⟨p, 0, none⟩))]) (fun q w' => rdTagsF fx s49 = q.2 ∧ St w0 G0 p pb q.2.2 ((p, ty, [] ++ [.int .i16 v, .int .i32 n1, .int .i64 n3, a5, q.1] ++ []) :: []) (fun w => TGf p q.1 q.2.1 w ∧ P50 w) w') ?_ ?_
  · refine cI (by rfl) (fun hc=>?_) (fun hc=>?_)
    · ((conv=>whnf);repeat(first|(refine mvT ?_;conv=>whnf)|(refine mvF ?_;conv=>whnf)|(refine cT (by rfl) ?_;conv=>whnf)|(refine cF (by rfl) ?_;conv=>whnf)))
      refine Does.mono H.tags ?_
      rintro r w ⟨m, u, s', rfl, hone, hr, H⟩
      ((conv=>whnf);repeat(first|(refine mvT ?_;conv=>whnf)|(refine mvF ?_;conv=>whnf)|(refine cT (by rfl) ?_;conv=>whnf)|(refine cF (by rfl) ?_;conv=>whnf)))
      refine H.st1 (v := m) 4 (rfl) (hone) rfl (by simp) rfl (Nat.lt_of_lt_of_le (Nat.lt_succ_self _) (Nat.le_of_ble_eq_true rfl)) ?_
      intro w H
      ((conv=>whnf);repeat(first|(refine mvT ?_;conv=>whnf)|(refine mvF ?_;conv=>whnf)|(refine cT (by rfl) ?_;conv=>whnf)|(refine cF (by rfl) ?_;conv=>whnf)))
      exact ⟨(m, u, s'), ⟨rfl, rfl, rfl, rfl, rfl, rfl, trivial⟩, by rw [rdTagsF, if_pos hc]; exact hr, H⟩
    · ((conv=>whnf);repeat(first|(refine mvT ?_;conv=>whnf)|(refine mvF ?_;conv=>whnf)|(refine cT (by rfl) ?_;conv=>whnf)|(refine cF (by rfl) ?_;conv=>whnf)))
      exact ⟨(.map none, [], s49), ⟨rfl, rfl, rfl, rfl, rfl, rfl, trivial⟩, by rw [rdTagsF, if_neg (by rw [hc]; decide)], H.add fun w' _ => TagsR.nil _ _⟩
  clear H
  rintro ⟨m52, u52, s52⟩ w ⟨htg, H⟩
  dsimp only at htg H
  ((conv=>whnf);repeat(first|(refine mvT ?_;conv=>whnf)|(refine mvF ?_;conv=>whnf)|(refine cT (by rfl) ?_;conv=>whnf)|(refine cF (by rfl) ?_;conv=>whnf)))
  obtain ⟨P53, hP53⟩ : ∃ P : World → Prop, P = fun w => TGf p m52 u52 w ∧ P50 w := ⟨_, rfl⟩
  replace H : St w0 G0 p pb s52 ((p, ty, [] ++ [.int .i16 v, .int .i32 n1, .int .i64 n3, a5, m52] ++ []) :: []) P53 w := by rw [hP53]; exact H
  have hpart : rdPart 9 v fx dAlterPartitionRequest (l, false) = (.mk 0 [] false [numT n1, numT n3, .mk 0 [] (decide (n5 ≤ 0)) l49 []] u52, s52) := by
    unfold rdPart rdPartW
    rw [rdAll_yes (df := dfT 9) (rdField3.trans hr1) ⟨by decide, has_all hv⟩, rdAll_yes (df := dfT 9) (rdField4.trans hr3) ⟨by decide, has_all hv⟩, rdAll_yes (df := dfT 9) ((rdField_list _ _ _ _ _ _ _ _ _ _ _).trans hr49) ⟨by decide, has_all hv⟩]
    simp only [rdAll]
    rw [htg]
  refine Does.mono (H.done hL hp1) ?_
  rintro r w ⟨rfl, H⟩
  ((conv=>whnf);repeat(first|(refine mvT ?_;conv=>whnf)|(refine mvF ?_;conv=>whnf)|(refine cT (by rfl) ?_;conv=>whnf)|(refine cF (by rfl) ?_;conv=>whnf)))
  refine RdPost.end hpart H fun hP => ?_
  rw [hP53] at hP
  obtain ⟨hf53_, hP⟩ := hP
  rw [hP50] at hP
  obtain ⟨hf50_, hP⟩ := hP
  exact QPt (QA1 (QF3 hn1) (QA1 (QF4 hn3) (QA1 (QF11 hl49 hf50_) (QA0)))) hf53_
end Go.Proofs.YtanohglljnajiaaGreatDoor.K
