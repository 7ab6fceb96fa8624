/- Reading of StopReplicaRequest. -/
import Derived.Test.YtmmieooipcfbiaaGreatDoorE5
set_option linter.unusedVariables false
set_option linter.unusedSimpArgs false
namespace Go.Proofs.YtmmieooipcfbiaaGreatDoor.K
open Go
set_option maxHeartbeats 4000000
set_option maxRecDepth 100000

theorem mvG {K : Bool → Prop} {e : Bool} {Rest : Prop} (hr : Rest) (h : Rest → ∀ c, e = c → K c) : ∀ c, e = c → K c := h hr
abbrev dStopReplicaRequestTopicPartitionState : List Fd := [.mk 3 0 (-1) (-1) (-1) 0 0 [], .mk 3 0 (-1) (-1) (-1) (-1) 0 [], .mk 0 0 (-1) (-1) (-1) 0 0 []]
abbrev dStopReplicaRequestTopic : List Fd := [.mk 8 0 (-1) (-1) (-1) 0 0 [], .mk 3 0 0 (-1) (-1) 0 0 [], .mk 11 1 2 (-1) (-1) 0 3 [], .mk 11 3 (-1) (-1) (-1) 0 10 dStopReplicaRequestTopicPartitionState]
abbrev dStopReplicaRequest : List Fd := [.mk 3 0 (-1) (-1) (-1) 0 0 [], .mk 3 0 (-1) (-1) (-1) 0 0 [], .mk 0 4 (-1) (-1) (-1) 0 0 [], .mk 4 1 (-1) (-1) (-1) (-1) 0 [], .mk 0 0 2 (-1) (-1) 0 0 [], .mk 11 0 (-1) (-1) (-1) 0 10 dStopReplicaRequestTopic]
theorem sStopReplicaRequestTopicPartitionState (w : World) : Does X.P 86 #[] w fun r w' => FdsR w' (fun k => w.heap.size ≤ k) r dStopReplicaRequestTopicPartitionState ∧ Ext nob w w' := by
  have hx0 : Ext nob w w := Ext.refl _ _
  refine Does.go (X := X) (l := []) Tryz.func86 rfl (by kernel_rfl) (by kernel_rfl) _ rfl ?_
  ((conv=>whnf);repeat(first|(refine mvT ?_;conv=>whnf)|(refine mvF ?_;conv=>whnf)|(refine cT (by rfl) ?_;conv=>whnf)|(refine cF (by rfl) ?_;conv=>whnf)))
  have hxs := hx0
  intro b wb hb ho hx
  have hx0 := hx0.e0 hx
  ((conv=>whnf);repeat(first|(refine mvT ?_;conv=>whnf)|(refine mvF ?_;conv=>whnf)|(refine cT (by rfl) ?_;conv=>whnf)|(refine cF (by rfl) ?_;conv=>whnf)))
  refine ⟨?_, hx0⟩
  exact FdL.fds (cs := [[.int .i64 3, .int .i64 0, .int .i64 (-1), .int .i64 (-1), .int .i64 (-1), .int .i64 0, .int .i64 0, .slice none 0 0], [.int .i64 3, .int .i64 0, .int .i64 (-1), .int .i64 (-1), .int .i64 (-1), .int .i64 (-1), .int .i64 0, .slice none 0 0], [.int .i64 0, .int .i64 0, .int .i64 (-1), .int .i64 (-1), .int .i64 (-1), .int .i64 0, .int .i64 0, .slice none 0 0]])
    ⟨fdLeaf _ _ _ _ _ _ _ _ _, fdLeaf _ _ _ _ _ _ _ _ _, fdLeaf _ _ _ _ _ _ _ _ _, trivial⟩ ho rfl (by decide) (by have := hxs.size; omega)
theorem sStopReplicaRequestTopic (w : World) : Does X.P 46 #[] w fun r w' => FdsR w' (fun k => w.heap.size ≤ k) r dStopReplicaRequestTopic ∧ Ext nob w w' := by
  have hx0 : Ext nob w w := Ext.refl _ _
  refine Does.go (X := X) (l := []) Tryz.func46 rfl (by kernel_rfl) (by kernel_rfl) _ rfl ?_
  ((conv=>whnf);repeat(first|(refine mvT ?_;conv=>whnf)|(refine mvF ?_;conv=>whnf)|(refine cT (by rfl) ?_;conv=>whnf)|(refine cF (by rfl) ?_;conv=>whnf)))
  refine Does.mono (sStopReplicaRequestTopicPartitionState w) ?_
  rintro v3 wv3 ⟨hv3, hc⟩
  have hv3 := hv3.mono (F' := fun k => w.heap.size ≤ k) fun k _ h => Nat.le_trans hx0.size h
  obtain ⟨lv3, gv3, _⟩ := id hv3
  obtain ⟨av3, kv3, rfl, _⟩ := gv3.view
  ((conv=>whnf);repeat(first|(refine mvT ?_;conv=>whnf)|(refine mvF ?_;conv=>whnf)|(refine cT (by rfl) ?_;conv=>whnf)|(refine cF (by rfl) ?_;conv=>whnf)))
  have hx0 := hx0.e0 hc
  have hxs := hx0
  intro b wb hb ho hx
  have hx0 := hx0.e0 hx
  ((conv=>whnf);repeat(first|(refine mvT ?_;conv=>whnf)|(refine mvF ?_;conv=>whnf)|(refine cT (by rfl) ?_;conv=>whnf)|(refine cF (by rfl) ?_;conv=>whnf)))
  refine ⟨?_, hx0⟩
  exact FdL.fds (cs := [[.int .i64 8, .int .i64 0, .int .i64 (-1), .int .i64 (-1), .int .i64 (-1), .int .i64 0, .int .i64 0, .slice none 0 0], [.int .i64 3, .int .i64 0, .int .i64 0, .int .i64 (-1), .int .i64 (-1), .int .i64 0, .int .i64 0, .slice none 0 0], [.int .i64 11, .int .i64 1, .int .i64 2, .int .i64 (-1), .int .i64 (-1), .int .i64 0, .int .i64 3, .slice none 0 0], [.int .i64 11, .int .i64 3, .int .i64 (-1), .int .i64 (-1), .int .i64 (-1), .int .i64 0, .int .i64 10, .slice av3 lv3.length kv3]])
    ⟨fdLeaf _ _ _ _ _ _ _ _ _, fdLeaf _ _ _ _ _ _ _ _ _, fdLeaf _ _ _ _ _ _ _ _ _, FdC.of (hv3.e0 hx) _ _ _ _ _ _ _, trivial⟩ ho rfl (by decide) (by have := hxs.size; omega)
theorem sStopReplicaRequest (w : World) : Does X.P 18 #[] w fun r w' => Msg w' (fun k => w.heap.size ≤ k) r dStopReplicaRequest 2 ∧ Ext nob w w' := by
  have hx0 : Ext nob w w := Ext.refl _ _
  refine Does.go (X := X) (l := []) Tryz.func18 rfl (by kernel_rfl) (by kernel_rfl) _ rfl ?_
  ((conv=>whnf);repeat(first|(refine mvT ?_;conv=>whnf)|(refine mvF ?_;conv=>whnf)|(refine cT (by rfl) ?_;conv=>whnf)|(refine cF (by rfl) ?_;conv=>whnf)))
  intro b w1 hb ho hx
  have hx0 := hx0.e0 hx
  have ho := ho
  ((conv=>whnf);repeat(first|(refine mvT ?_;conv=>whnf)|(refine mvF ?_;conv=>whnf)|(refine cT (by rfl) ?_;conv=>whnf)|(refine cF (by rfl) ?_;conv=>whnf)))
  refine Does.mono (sStopReplicaRequestTopic w1) ?_
  rintro v5 wv5 ⟨hv5, hc⟩
  have hv5 := hv5.mono (F' := fun k => w.heap.size ≤ k ∧ b < k) fun k _ h => ⟨Nat.le_trans hx0.size h, Nat.lt_of_lt_of_le ho.lt h⟩
  obtain ⟨lv5, gv5, _⟩ := id hv5
  obtain ⟨av5, kv5, rfl, _⟩ := gv5.view
  ((conv=>whnf);repeat(first|(refine mvT ?_;conv=>whnf)|(refine mvF ?_;conv=>whnf)|(refine cT (by rfl) ?_;conv=>whnf)|(refine cF (by rfl) ?_;conv=>whnf)))
  have hx0 := hx0.e0 hc
  have ho := ho.e0 hc
  have hxs := hx0
  intro b2 w2 hb2 ho2 hx2
  ((conv=>whnf);repeat(first|(refine mvT ?_;conv=>whnf)|(refine mvF ?_;conv=>whnf)|(refine cT (by rfl) ?_;conv=>whnf)|(refine cF (by rfl) ?_;conv=>whnf)))
  have hx0 := hx0.e0 hx2
  refine ⟨_, _, ho.e0 hx2, rfl, rfl, rfl, ?_⟩
  intro w3 ho3 hx3
  have hx03 := hx0.st hx3 hb
  ((conv=>whnf);repeat(first|(refine mvT ?_;conv=>whnf)|(refine mvF ?_;conv=>whnf)|(refine cT (by rfl) ?_;conv=>whnf)|(refine cF (by rfl) ?_;conv=>whnf)))
  refine ⟨_, rfl, ho3.cells, ?_⟩
  refine ⟨⟨_, rfl, ?_⟩, hx03⟩
  have ho2 := ho2.ext hx3 (by have := ho.lt; omega)
  have hs := hx0.size
  have hs2 : w.heap.size ≤ b2 := Nat.le_trans hxs.size hb2
  exact FdL.fds (cs := [[.int .i64 3, .int .i64 0, .int .i64 (-1), .int .i64 (-1), .int .i64 (-1), .int .i64 0, .int .i64 0, .slice none 0 0], [.int .i64 3, .int .i64 0, .int .i64 (-1), .int .i64 (-1), .int .i64 (-1), .int .i64 0, .int .i64 0, .slice none 0 0], [.int .i64 0, .int .i64 4, .int .i64 (-1), .int .i64 (-1), .int .i64 (-1), .int .i64 0, .int .i64 0, .slice none 0 0], [.int .i64 4, .int .i64 1, .int .i64 (-1), .int .i64 (-1), .int .i64 (-1), .int .i64 (-1), .int .i64 0, .slice none 0 0], [.int .i64 0, .int .i64 0, .int .i64 2, .int .i64 (-1), .int .i64 (-1), .int .i64 0, .int .i64 0, .slice none 0 0], [.int .i64 11, .int .i64 0, .int .i64 (-1), .int .i64 (-1), .int .i64 (-1), .int .i64 0, .int .i64 10, .slice av5 lv5.length kv5]])
    ⟨fdLeaf _ _ _ _ _ _ _ _ _, fdLeaf _ _ _ _ _ _ _ _ _, fdLeaf _ _ _ _ _ _ _ _ _, fdLeaf _ _ _ _ _ _ _ _ _, fdLeaf _ _ _ _ _ _ _ _ _, FdC.of (FdsR.mono (FdsR.ext (FdsR.e0 hv5 hx2) hx3 fun k _ h1 h2 => by omega) fun k _ h => h.1) _ _ _ _ _ _ _, trivial⟩ ho2 rfl (by decide) (by omega)
theorem dfStopReplicaRequestTopicPartitionState {w : World} {q o : Nat} {T : TypeId} {pre cur post : List Value} (ho : Own w q T (pre ++ cur ++ post)) (hp : pre.length = o) (hl : cur.length = 4) :
    Does X.P 130 #[.pointer (some ⟨q, o, none⟩)] w fun r w' => Own w' q T (pre ++ (cur.set 1 (.int .i32 (-1))) ++ post) ∧ Ext (fun k => k = q) w w' := by
  have hx : Ext (fun k => k = q) w w := Ext.refl _ _
  refine Does.go (X := X) (l := [_]) Tryz.func130 rfl (by kernel_rfl) (by kernel_rfl) _ rfl ?_
  ((conv=>whnf);repeat(first|(refine mvT ?_;conv=>whnf)|(refine mvF ?_;conv=>whnf)|(refine cT (by rfl) ?_;conv=>whnf)|(refine cF (by rfl) ?_;conv=>whnf)))
  refine stm ho 1 rfl rfl hp (by omega) rfl (by first | omega | (simp only [List.length_set]; omega)) ?_
  intro w0 ho hxd
  have hx := hx.trans hxd fun _ _ h => h
  ((conv=>whnf);repeat(first|(refine mvT ?_;conv=>whnf)|(refine mvF ?_;conv=>whnf)|(refine cT (by rfl) ?_;conv=>whnf)|(refine cF (by rfl) ?_;conv=>whnf)))
  exact ⟨ho, hx⟩
theorem dfStopReplicaRequestTopic {w : World} {q o : Nat} {T : TypeId} {pre cur post : List Value} (ho : Own w q T (pre ++ cur ++ post)) (hp : pre.length = o) (hl : cur.length = 5) :
    Does X.P 129 #[.pointer (some ⟨q, o, none⟩)] w fun r w' => Own w' q T (pre ++ cur ++ post) ∧ Ext (fun k => k = q) w w' := by
  have hx : Ext (fun k => k = q) w w := Ext.refl _ _
  refine Does.go (X := X) (l := [_]) Tryz.func129 rfl (by kernel_rfl) (by kernel_rfl) _ rfl ?_
  ((conv=>whnf);repeat(first|(refine mvT ?_;conv=>whnf)|(refine mvF ?_;conv=>whnf)|(refine cT (by rfl) ?_;conv=>whnf)|(refine cF (by rfl) ?_;conv=>whnf)))
  exact ⟨ho, hx⟩
theorem dfStopReplicaRequest {w : World} {q o : Nat} {T : TypeId} {pre cur post : List Value} (ho : Own w q T (pre ++ cur ++ post)) (hp : pre.length = o) (hl : cur.length = 8) :
    Does X.P 85 #[.pointer (some ⟨q, o, none⟩)] w fun r w' => Own w' q T (pre ++ (cur.set 4 (.int .i64 (-1))) ++ post) ∧ Ext (fun k => k = q) w w' := by
  have hx : Ext (fun k => k = q) w w := Ext.refl _ _
  refine Does.go (X := X) (l := [_]) Tryz.func85 rfl (by kernel_rfl) (by kernel_rfl) _ rfl ?_
  ((conv=>whnf);repeat(first|(refine mvT ?_;conv=>whnf)|(refine mvF ?_;conv=>whnf)|(refine cT (by rfl) ?_;conv=>whnf)|(refine cF (by rfl) ?_;conv=>whnf)))
  refine stm ho 4 rfl rfl hp (by omega) rfl (by first | omega | (simp only [List.length_set]; omega)) ?_
  intro w0 ho hxd
  have hx := hx.trans hxd fun _ _ h => h
  ((conv=>whnf);repeat(first|(refine mvT ?_;conv=>whnf)|(refine mvF ?_;conv=>whnf)|(refine cT (by rfl) ?_;conv=>whnf)|(refine cF (by rfl) ?_;conv=>whnf)))
  exact ⟨ho, hx⟩
theorem readStopReplicaRequest {w0 : World} {F : Nat → Prop} {p : Nat} {ty : TypeId} {v : Int} {x ev : Value} {l : List UInt8} (hL : Laid w0 ev) (hp : Own w0 p ty [.int .i16 v, .int .i32 0, .int .i32 0, .bool false, .int .i64 (-1), .bool false, .slice none 0 0, .map none]) (hx : Bytes w0 F x l) (hF : ∀ k, F k → k ≠ p) (hv : 0 ≤ v) (hp1 : p ≠ errG) :
    Does X.P 87 #[.pointer (some ⟨p, 0, none⟩), x, .bool false] w0 fun r w' => RdPost w0 p ty v (decide (v ≥ 2)) true dStopReplicaRequest ev l r w' := by
  have hpl := hp.lt
  obtain ⟨fx, hfx⟩ : ∃ fx, fx = decide (v ≥ 2) := ⟨_, rfl⟩
  rw [← hfx]
  obtain ⟨G0, hG0, hx⟩ : ∃ G0 : Nat → Prop, (∀ k, G0 k → k < w0.heap.size ∧ k ≠ p) ∧ Bytes w0 G0 x l := ⟨fun k => F k ∧ k < w0.heap.size, fun k h => ⟨h.2, hF k h.1⟩, Sl.mono hx fun k hk h => ⟨h, hk⟩⟩
  obtain ⟨a0, c0, rfl, _⟩ := hx.view
  refine Does.go (X := X) (l := [_, _, _]) Tryz.func87 rfl (by kernel_rfl) (by kernel_rfl) _ rfl ?_
  ((conv=>whnf);repeat(first|(refine mvT ?_;conv=>whnf)|(refine mvF ?_;conv=>whnf)|(refine cT (by rfl) ?_;conv=>whnf)|(refine cF (by rfl) ?_;conv=>whnf)))
  refine Does.mono (dfStopReplicaRequest (pre := []) (cur := [.int .i16 v, .int .i32 0, .int .i32 0, .bool false, .int .i64 (-1), .bool false, .slice none 0 0, .map none]) (post := []) (by simpa using hp) rfl rfl) ?_
  rintro rd wd ⟨hpd, hxd⟩
  ((conv=>whnf);repeat(first|(refine mvT ?_;conv=>whnf)|(refine mvF ?_;conv=>whnf)|(refine cT (by rfl) ?_;conv=>whnf)|(refine cF (by rfl) ?_;conv=>whnf)))
  intro pb w1 hpb hb hx1
  ((conv=>whnf);repeat(first|(refine mvT ?_;conv=>whnf)|(refine mvF ?_;conv=>whnf)|(refine cT (by rfl) ?_;conv=>whnf)|(refine cF (by rfl) ?_;conv=>whnf)))
  refine st_all [.slice a0 l.length c0, .bool false] hb rfl rfl rfl ?_
  intro w hb hx2
  ((conv=>whnf);repeat(first|(refine mvT ?_;conv=>whnf)|(refine mvF ?_;conv=>whnf)|(refine cT (by rfl) ?_;conv=>whnf)|(refine cF (by rfl) ?_;conv=>whnf)))
  have hsd := hxd.size
  have hwp : w0.heap.size ≤ pb := by omega
  have he1 : Ext nob wd w := hx1.trans hx2 fun k hk h => by omega
  have hpw : Own w p ty [.int .i16 v, .int .i32 0, .int .i32 0, .bool false, .int .i64 (-1), .bool false, .slice none 0 0, .map none] := by have := hpd.e0 he1; simpa using this
  have he := hxd.tr0 he1
  have H := St.init hpw hb (hx.ext he fun k _ h => (hG0 k h).2) hG0 he hpl hwp
  clear hpd hxd hx1 hx2 hb hpw he1 hp
  refine ldS (H.cell (o := 0) rfl (k := 0) rfl) ?_;((conv=>whnf);repeat(first|(refine mvT ?_;conv=>whnf)|(refine mvF ?_;conv=>whnf)|(refine cT (by rfl) ?_;conv=>whnf)|(refine cF (by rfl) ?_;conv=>whnf)))
  rw [← hfx]
  (refine mvB ?_;((conv=>whnf);repeat(first|(refine mvT ?_;conv=>whnf)|(refine mvF ?_;conv=>whnf)|(refine cT (by rfl) ?_;conv=>whnf)|(refine cF (by rfl) ?_;conv=>whnf))))
  have hup0 : tailBad 9 v fx dStopReplicaRequest (l, false) = true → (rdPart 9 v fx dStopReplicaRequest (l, false)).2.2 = true := id
  refine Does.mono H.int32 ?_
  rintro r w ⟨n1, s1, rfl, hn1, hr1, H⟩
  ((conv=>whnf);repeat(first|(refine mvT ?_;conv=>whnf)|(refine mvF ?_;conv=>whnf)|(refine cT (by rfl) ?_;conv=>whnf)|(refine cF (by rfl) ?_;conv=>whnf)))
  refine H.st1 (v := .int .i32 n1) 1 (rfl) (rfl) rfl (by simp) rfl (Nat.lt_of_lt_of_le (Nat.lt_succ_self _) (Nat.le_of_ble_eq_true rfl)) ?_
  intro w H
  ((conv=>whnf);repeat(first|(refine mvT ?_;conv=>whnf)|(refine mvF ?_;conv=>whnf)|(refine cT (by rfl) ?_;conv=>whnf)|(refine cF (by rfl) ?_;conv=>whnf)))
  replace H : St w0 G0 p pb s1 ((p, ty, [] ++ [.int .i16 v, .int .i32 n1, .int .i32 0, .bool false, .int .i64 (-1), .bool false, .slice none 0 0, .map none] ++ []) :: []) (fun _ => True) w := H
  refine Does.mono H.int32 ?_
  rintro r w ⟨n3, s3, rfl, hn3, hr3, H⟩
  ((conv=>whnf);repeat(first|(refine mvT ?_;conv=>whnf)|(refine mvF ?_;conv=>whnf)|(refine cT (by rfl) ?_;conv=>whnf)|(refine cF (by rfl) ?_;conv=>whnf)))
  refine H.st1 (v := .int .i32 n3) 2 (rfl) (rfl) rfl (by simp) rfl (Nat.lt_of_lt_of_le (Nat.lt_succ_self _) (Nat.le_of_ble_eq_true rfl)) ?_
  intro w H
  ((conv=>whnf);repeat(first|(refine mvT ?_;conv=>whnf)|(refine mvF ?_;conv=>whnf)|(refine cT (by rfl) ?_;conv=>whnf)|(refine cF (by rfl) ?_;conv=>whnf)))
  replace H : St w0 G0 p pb s3 ((p, ty, [] ++ [.int .i16 v, .int .i32 n1, .int .i32 n3, .bool false, .int .i64 (-1), .bool false, .slice none 0 0, .map none] ++ []) :: []) (fun _ => True) w := H
  refine VC.cutE (fun q : Bool × Rd => [(0, .pointer (some ⟨p, 0, none⟩)), (2, .bool false), (7, .pointer (some ⟨pb, 0, none⟩)), (8, .int .i16 v), (9, .bool fx), (10, .pointer (some ⟨p, 0, none⟩))]) (fun q w' => (if hasF (.mk 0 4 (-1) (-1) (-1) 0 0 []) v = true then rdField 9 v fx (.mk 0 4 (-1) (-1) (-1) 0 0 []) s3 else (dfT 9 (.mk 0 4 (-1) (-1) (-1) 0 0 []), s3)) = (numT (if q.1 = true then 1 else 0), q.2) ∧ St w0 G0 p pb q.2 ((p, ty, [] ++ [.int .i16 v, .int .i32 n1, .int .i32 n3, .bool q.1, .int .i64 (-1), .bool false, .slice none 0 0, .map none] ++ []) :: []) (fun _ => True) w') ?_ ?_
  · refine cI (by rfl) (fun hcv=>?_) (fun hcv=>?_)
    · ((conv=>whnf);repeat(first|(refine mvT ?_;conv=>whnf)|(refine mvF ?_;conv=>whnf)|(refine cT (by rfl) ?_;conv=>whnf)|(refine cF (by rfl) ?_;conv=>whnf)))
      refine Does.mono H.bool ?_
      rintro r w ⟨b6, s6, rfl, hr6, H⟩
      ((conv=>whnf);repeat(first|(refine mvT ?_;conv=>whnf)|(refine mvF ?_;conv=>whnf)|(refine cT (by rfl) ?_;conv=>whnf)|(refine cF (by rfl) ?_;conv=>whnf)))
      (refine mvB ?_;((conv=>whnf);repeat(first|(refine mvT ?_;conv=>whnf)|(refine mvF ?_;conv=>whnf)|(refine cT (by rfl) ?_;conv=>whnf)|(refine cF (by rfl) ?_;conv=>whnf))))
      refine H.st1 (v := .bool b6) 3 (rfl) (rfl) rfl (by simp) rfl (Nat.lt_of_lt_of_le (Nat.lt_succ_self _) (Nat.le_of_ble_eq_true rfl)) ?_
      intro w H
      ((conv=>whnf);repeat(first|(refine mvT ?_;conv=>whnf)|(refine mvF ?_;conv=>whnf)|(refine cT (by rfl) ?_;conv=>whnf)|(refine cF (by rfl) ?_;conv=>whnf)))
      replace H : St w0 G0 p pb s6 ((p, ty, [] ++ [.int .i16 v, .int .i32 n1, .int .i32 n3, .bool b6, .int .i64 (-1), .bool false, .slice none 0 0, .map none] ++ []) :: []) (fun _ => True) w := H
      have hh : hasF (.mk 0 4 (-1) (-1) (-1) 0 0 []) v = true := by have := of_decide_eq_true hcv; rw [hasF_iff]; omega
      exact ⟨(b6, s6), ⟨rfl, rfl, rfl, rfl, rfl, rfl, trivial⟩, by rw [if_pos hh]; exact (rdField0.trans hr6), H⟩
    · ((conv=>whnf);repeat(first|(refine mvT ?_;conv=>whnf)|(refine mvF ?_;conv=>whnf)|(refine cT (by rfl) ?_;conv=>whnf)|(refine cF (by rfl) ?_;conv=>whnf)))
      have hh : ¬ hasF (.mk 0 4 (-1) (-1) (-1) 0 0 []) v = true := by have := of_decide_eq_false hcv; rw [hasF_iff]; omega
      exact ⟨(false, s3), ⟨rfl, rfl, rfl, rfl, rfl, rfl, trivial⟩, by rw [if_neg hh]; rfl, H⟩
  clear H
  rintro ⟨n5, s5⟩ w ⟨hr5, H⟩
  dsimp only at hr5 H
  ((conv=>whnf);repeat(first|(refine mvT ?_;conv=>whnf)|(refine mvF ?_;conv=>whnf)|(refine cT (by rfl) ?_;conv=>whnf)|(refine cF (by rfl) ?_;conv=>whnf)))
  replace H : St w0 G0 p pb s5 ((p, ty, [] ++ [.int .i16 v, .int .i32 n1, .int .i32 n3, .bool n5, .int .i64 (-1), .bool false, .slice none 0 0, .map none] ++ []) :: []) (fun _ => True) w := H
  refine VC.cutE (fun q : Int × Rd => [(0, .pointer (some ⟨p, 0, none⟩)), (2, .bool false), (7, .pointer (some ⟨pb, 0, none⟩)), (8, .int .i16 v), (9, .bool fx), (10, .pointer (some ⟨p, 0, none⟩))]) (fun q w' => IntKind.i64.wrap q.1 = q.1 ∧ (if hasF (.mk 4 1 (-1) (-1) (-1) (-1) 0 []) v = true then rdField 9 v fx (.mk 4 1 (-1) (-1) (-1) (-1) 0 []) s5 else (dfT 9 (.mk 4 1 (-1) (-1) (-1) (-1) 0 []), s5)) = (numT q.1, q.2) ∧ St w0 G0 p pb q.2 ((p, ty, [] ++ [.int .i16 v, .int .i32 n1, .int .i32 n3, .bool n5, .int .i64 q.1, .bool false, .slice none 0 0, .map none] ++ []) :: []) (fun _ => True) w') ?_ ?_
  · refine cI (by rfl) (fun hcv=>?_) (fun hcv=>?_)
    · ((conv=>whnf);repeat(first|(refine mvT ?_;conv=>whnf)|(refine mvF ?_;conv=>whnf)|(refine cT (by rfl) ?_;conv=>whnf)|(refine cF (by rfl) ?_;conv=>whnf)))
      refine Does.mono H.int64 ?_
      rintro r w ⟨n9, s9, rfl, hn9, hr9, H⟩
      ((conv=>whnf);repeat(first|(refine mvT ?_;conv=>whnf)|(refine mvF ?_;conv=>whnf)|(refine cT (by rfl) ?_;conv=>whnf)|(refine cF (by rfl) ?_;conv=>whnf)))
      refine H.st1 (v := .int .i64 n9) 4 (rfl) (rfl) rfl (by simp) rfl (Nat.lt_of_lt_of_le (Nat.lt_succ_self _) (Nat.le_of_ble_eq_true rfl)) ?_
      intro w H
      ((conv=>whnf);repeat(first|(refine mvT ?_;conv=>whnf)|(refine mvF ?_;conv=>whnf)|(refine cT (by rfl) ?_;conv=>whnf)|(refine cF (by rfl) ?_;conv=>whnf)))
      replace H : St w0 G0 p pb s9 ((p, ty, [] ++ [.int .i16 v, .int .i32 n1, .int .i32 n3, .bool n5, .int .i64 n9, .bool false, .slice none 0 0, .map none] ++ []) :: []) (fun _ => True) w := H
      have hh : hasF (.mk 4 1 (-1) (-1) (-1) (-1) 0 []) v = true := by have := of_decide_eq_true hcv; rw [hasF_iff]; omega
      exact ⟨(n9, s9), ⟨rfl, rfl, rfl, rfl, rfl, rfl, trivial⟩, hn9, by rw [if_pos hh]; exact (rdField4.trans hr9), H⟩
    · ((conv=>whnf);repeat(first|(refine mvT ?_;conv=>whnf)|(refine mvF ?_;conv=>whnf)|(refine cT (by rfl) ?_;conv=>whnf)|(refine cF (by rfl) ?_;conv=>whnf)))
      have hh : ¬ hasF (.mk 4 1 (-1) (-1) (-1) (-1) 0 []) v = true := by have := of_decide_eq_false hcv; rw [hasF_iff]; omega
      exact ⟨((-1), s5), ⟨rfl, rfl, rfl, rfl, rfl, rfl, trivial⟩, rfl, by rw [if_neg hh]; rfl, H⟩
  clear H
  rintro ⟨n8, s8⟩ w ⟨hn8, hr8, H⟩
  dsimp only at hn8 hr8 H
  ((conv=>whnf);repeat(first|(refine mvT ?_;conv=>whnf)|(refine mvF ?_;conv=>whnf)|(refine cT (by rfl) ?_;conv=>whnf)|(refine cF (by rfl) ?_;conv=>whnf)))
  replace H : St w0 G0 p pb s8 ((p, ty, [] ++ [.int .i16 v, .int .i32 n1, .int .i32 n3, .bool n5, .int .i64 n8, .bool false, .slice none 0 0, .map none] ++ []) :: []) (fun _ => True) w := H
  intro cq hcq
  obtain rfl : cq = true := by rw [← hcq]; exact decide_eq_true hv
  ((conv=>whnf);repeat(first|(refine mvT ?_;conv=>whnf)|(refine mvF ?_;conv=>whnf)|(refine cT (by rfl) ?_;conv=>whnf)|(refine cF (by rfl) ?_;conv=>whnf)))
  refine VC.cutE (fun q : Bool × Rd => [(0, .pointer (some ⟨p, 0, none⟩)), (2, .bool false), (7, .pointer (some ⟨pb, 0, none⟩)), (8, .int .i16 v), (9, .bool fx), (10, .pointer (some ⟨p, 0, none⟩))]) (fun q w' => (if hasF (.mk 0 0 2 (-1) (-1) 0 0 []) v = true then rdField 9 v fx (.mk 0 0 2 (-1) (-1) 0 0 []) s8 else (dfT 9 (.mk 0 0 2 (-1) (-1) 0 0 []), s8)) = (numT (if q.1 = true then 1 else 0), q.2) ∧ St w0 G0 p pb q.2 ((p, ty, [] ++ [.int .i16 v, .int .i32 n1, .int .i32 n3, .bool n5, .int .i64 n8, .bool q.1, .slice none 0 0, .map none] ++ []) :: []) (fun _ => True) w') ?_ ?_
  · refine cI (by rfl) (fun hcv=>?_) (fun hcv=>?_)
    · ((conv=>whnf);repeat(first|(refine mvT ?_;conv=>whnf)|(refine mvF ?_;conv=>whnf)|(refine cT (by rfl) ?_;conv=>whnf)|(refine cF (by rfl) ?_;conv=>whnf)))
      refine Does.mono H.bool ?_
      rintro r w ⟨b12, s12, rfl, hr12, H⟩
      ((conv=>whnf);repeat(first|(refine mvT ?_;conv=>whnf)|(refine mvF ?_;conv=>whnf)|(refine cT (by rfl) ?_;conv=>whnf)|(refine cF (by rfl) ?_;conv=>whnf)))
      (refine mvB ?_;((conv=>whnf);repeat(first|(refine mvT ?_;conv=>whnf)|(refine mvF ?_;conv=>whnf)|(refine cT (by rfl) ?_;conv=>whnf)|(refine cF (by rfl) ?_;conv=>whnf))))
      refine H.st1 (v := .bool b12) 5 (rfl) (rfl) rfl (by simp) rfl (Nat.lt_of_lt_of_le (Nat.lt_succ_self _) (Nat.le_of_ble_eq_true rfl)) ?_
      intro w H
      ((conv=>whnf);repeat(first|(refine mvT ?_;conv=>whnf)|(refine mvF ?_;conv=>whnf)|(refine cT (by rfl) ?_;conv=>whnf)|(refine cF (by rfl) ?_;conv=>whnf)))
      replace H : St w0 G0 p pb s12 ((p, ty, [] ++ [.int .i16 v, .int .i32 n1, .int .i32 n3, .bool n5, .int .i64 n8, .bool b12, .slice none 0 0, .map none] ++ []) :: []) (fun _ => True) w := H
      have hh : hasF (.mk 0 0 2 (-1) (-1) 0 0 []) v = true := by have := of_decide_eq_true hcv; rw [hasF_iff]; omega
      exact ⟨(b12, s12), ⟨rfl, rfl, rfl, rfl, rfl, rfl, trivial⟩, by rw [if_pos hh]; exact (rdField0.trans hr12), H⟩
    · ((conv=>whnf);repeat(first|(refine mvT ?_;conv=>whnf)|(refine mvF ?_;conv=>whnf)|(refine cT (by rfl) ?_;conv=>whnf)|(refine cF (by rfl) ?_;conv=>whnf)))
      have hh : ¬ hasF (.mk 0 0 2 (-1) (-1) 0 0 []) v = true := by have := of_decide_eq_false hcv; rw [hasF_iff]; omega
      exact ⟨(false, s8), ⟨rfl, rfl, rfl, rfl, rfl, rfl, trivial⟩, by rw [if_neg hh]; rfl, H⟩
  clear H
  rintro ⟨n11, s11⟩ w ⟨hr11, H⟩
  dsimp only at hr11 H
  ((conv=>whnf);repeat(first|(refine mvT ?_;conv=>whnf)|(refine mvF ?_;conv=>whnf)|(refine cT (by rfl) ?_;conv=>whnf)|(refine cF (by rfl) ?_;conv=>whnf)))
  replace H : St w0 G0 p pb s11 ((p, ty, [] ++ [.int .i16 v, .int .i32 n1, .int .i32 n3, .bool n5, .int .i64 n8, .bool n11, .slice none 0 0, .map none] ++ []) :: []) (fun _ => True) w := H
  refine ldS (H.cell (o := 0) rfl (k := 6) rfl) ?_;((conv=>whnf);repeat(first|(refine mvT ?_;conv=>whnf)|(refine mvF ?_;conv=>whnf)|(refine cT (by rfl) ?_;conv=>whnf)|(refine cF (by rfl) ?_;conv=>whnf)))
  (refine mvB ?_;((conv=>whnf);repeat(first|(refine mvT ?_;conv=>whnf)|(refine mvF ?_;conv=>whnf)|(refine cT (by rfl) ?_;conv=>whnf)|(refine cF (by rfl) ?_;conv=>whnf))))
  refine VC.cutE (fun q : Int × Rd => [(18, .int .i32 q.1), (17, .slice none 0 0), (0, .pointer (some ⟨p, 0, none⟩)), (2, .bool false), (7, .pointer (some ⟨pb, 0, none⟩)), (8, .int .i16 v), (9, .bool fx), (10, .pointer (some ⟨p, 0, none⟩))]) (fun q w' => (-2147483648 ≤ q.1 ∧ q.1 ≤ 2147483647) ∧ rdLn fx s11 = q ∧ St w0 G0 p pb q.2 ((p, ty, [] ++ [.int .i16 v, .int .i32 n1, .int .i32 n3, .bool n5, .int .i64 n8, .bool n11, .slice none 0 0, .map none] ++ []) :: []) (fun _ => True) w') ?_ ?_
  · refine cI (by rfl) (fun hc=>?_) (fun hc=>?_)
    · ((conv=>whnf);repeat(first|(refine mvT ?_;conv=>whnf)|(refine mvF ?_;conv=>whnf)|(refine cT (by rfl) ?_;conv=>whnf)|(refine cF (by rfl) ?_;conv=>whnf)))
      refine Does.mono H.lnc ?_
      rintro r w ⟨n, s', rfl, hn, hr, H⟩
      ((conv=>whnf);repeat(first|(refine mvT ?_;conv=>whnf)|(refine mvF ?_;conv=>whnf)|(refine cT (by rfl) ?_;conv=>whnf)|(refine cF (by rfl) ?_;conv=>whnf)))
      exact ⟨(n, s'), ⟨rfl, rfl, rfl, rfl, rfl, rfl, rfl, rfl, trivial⟩, hn, by rw [hc]; exact hr, H⟩
    · ((conv=>whnf);repeat(first|(refine mvT ?_;conv=>whnf)|(refine mvF ?_;conv=>whnf)|(refine cT (by rfl) ?_;conv=>whnf)|(refine cF (by rfl) ?_;conv=>whnf)))
      refine Does.mono H.lnp ?_
      rintro r w ⟨n, s', rfl, hn, hr, H⟩
      ((conv=>whnf);repeat(first|(refine mvT ?_;conv=>whnf)|(refine mvF ?_;conv=>whnf)|(refine cT (by rfl) ?_;conv=>whnf)|(refine cF (by rfl) ?_;conv=>whnf)))
      exact ⟨(n, s'), ⟨rfl, rfl, rfl, rfl, rfl, rfl, rfl, rfl, trivial⟩, hn, by rw [hc]; exact hr, H⟩
  clear H
  rintro ⟨n14, s14⟩ w ⟨hn14, hln14, H⟩
  dsimp only at hn14 hln14 H
  ((conv=>whnf);repeat(first|(refine mvT ?_;conv=>whnf)|(refine mvF ?_;conv=>whnf)|(refine cT (by rfl) ?_;conv=>whnf)|(refine cF (by rfl) ?_;conv=>whnf)))
  refine Does.mono H.ok ?_
  rintro r w ⟨rfl, H⟩
  ((conv=>whnf);repeat(first|(refine mvT ?_;conv=>whnf)|(refine mvF ?_;conv=>whnf)|(refine cT (by rfl) ?_;conv=>whnf)|(refine cF (by rfl) ?_;conv=>whnf)))
  refine cI (by rfl) (fun hbd=>?_) (fun hbd=>?_)
  · have hbd : s14.2 = true := by simpa using hbd
    ((conv=>whnf);repeat(first|(refine mvT ?_;conv=>whnf)|(refine mvF ?_;conv=>whnf)|(refine cT (by rfl) ?_;conv=>whnf)|(refine cF (by rfl) ?_;conv=>whnf)))
    refine Does.mono (H.done hL hp1) ?_
    rintro r w ⟨rfl, H⟩
    ((conv=>whnf);repeat(first|(refine mvT ?_;conv=>whnf)|(refine mvF ?_;conv=>whnf)|(refine cT (by rfl) ?_;conv=>whnf)|(refine cF (by rfl) ?_;conv=>whnf)))
    refine RdPost.early hbd (hup0 (?_)) H
    rw [tail_yes (rdField3.trans hr1) ⟨by decide, has_all hv⟩, tail_yes (rdField3.trans hr3) ⟨by decide, has_all hv⟩, tail_ver hr5 (by decide), tail_ver hr8 (by decide), tail_ver hr11 (by decide), tail_len ⟨by decide, has_all hv⟩ hln14 hbd]
  have hbd : s14.2 = false := by simpa using hbd
  clear hbd
  ((conv=>whnf);repeat(first|(refine mvT ?_;conv=>whnf)|(refine mvF ?_;conv=>whnf)|(refine cT (by rfl) ?_;conv=>whnf)|(refine cF (by rfl) ?_;conv=>whnf)))
  refine cut_zero ?_
  ((conv=>whnf);repeat(first|(refine mvT ?_;conv=>whnf)|(refine mvF ?_;conv=>whnf)|(refine cT (by rfl) ?_;conv=>whnf)|(refine cF (by rfl) ?_;conv=>whnf)))
  refine VC.cutE (fun a : Value => [(18, .int .i32 n14), (17, a), (0, .pointer (some ⟨p, 0, none⟩)), (2, .bool false), (7, .pointer (some ⟨pb, 0, none⟩)), (8, .int .i16 v), (9, .bool fx), (10, .pointer (some ⟨p, 0, none⟩))]) (fun a w' => ListI w0 G0 p pb 114 [str [], .int .i32 0, .slice none 0 0, .slice none 0 0, .map none] (elR 8 v fx 10 dStopReplicaRequestTopic) (elQ true 8 10 dStopReplicaRequestTopic) s14 n14 (decide (n14 ≤ 0)) ((p, ty, [] ++ [.int .i16 v, .int .i32 n1, .int .i32 n3, .bool n5, .int .i64 n8, .bool n11, .slice none 0 0, .map none] ++ []) :: []) (fun _ => True) a 0 w') ?_ ?_
  · refine cI (by rfl) (fun hps=>?_) (fun hps=>?_)
    · have hps : 0 < n14 := by have := of_decide_eq_true hps; omega
      ((conv=>whnf);repeat(first|(refine mvT ?_;conv=>whnf)|(refine mvF ?_;conv=>whnf)|(refine cT (by rfl) ?_;conv=>whnf)|(refine cF (by rfl) ?_;conv=>whnf)))
      refine H.grow hps hn14.2 (by decide) rfl rfl (by decide) ?_
      intro g cap post w hc1 hc2 H
      ((conv=>whnf);repeat(first|(refine mvT ?_;conv=>whnf)|(refine mvF ?_;conv=>whnf)|(refine cT (by rfl) ?_;conv=>whnf)|(refine cF (by rfl) ?_;conv=>whnf)))
      exact ⟨_, ⟨rfl, rfl, rfl, rfl, rfl, rfl, rfl, rfl, trivial⟩, ListI.some hps (decide_eq_false (by omega)) hc1 hc2 H⟩
    · have hps : n14 ≤ 0 := by have := of_decide_eq_false hps; omega
      ((conv=>whnf);repeat(first|(refine mvT ?_;conv=>whnf)|(refine mvF ?_;conv=>whnf)|(refine cT (by rfl) ?_;conv=>whnf)|(refine cF (by rfl) ?_;conv=>whnf)))
      exact ⟨_, ⟨rfl, rfl, rfl, rfl, rfl, rfl, rfl, rfl, trivial⟩, ListI.none hps (decide_eq_true hps) H⟩
  clear H
  rintro a14 w H
  ((conv=>whnf);repeat(first|(refine mvT ?_;conv=>whnf)|(refine mvF ?_;conv=>whnf)|(refine cT (by rfl) ?_;conv=>whnf)|(refine cF (by rfl) ?_;conv=>whnf)))
  have hpL14 : inL ((p, ty, [] ++ [.int .i16 v, .int .i32 n1, .int .i32 n3, .bool n5, .int .i64 n8, .bool n11, .slice none 0 0, .map none] ++ []) :: []) p := inL.head _ _
  refine VL.loop (fun i : Nat => [(18, .int .i32 n14), (17, a14), (19, .int .i32 i), (0, .pointer (some ⟨p, 0, none⟩)), (2, .bool false), (7, .pointer (some ⟨pb, 0, none⟩)), (8, .int .i16 v), (9, .bool fx), (10, .pointer (some ⟨p, 0, none⟩))]) (fun i w' => i ≤ 2147483647 ∧ ListI w0 G0 p pb 114 [str [], .int .i32 0, .slice none 0 0, .slice none 0 0, .map none] (elR 8 v fx 10 dStopReplicaRequestTopic) (elQ true 8 10 dStopReplicaRequestTopic) s14 n14 (decide (n14 ≤ 0)) ((p, ty, [] ++ [.int .i16 v, .int .i32 n1, .int .i32 n3, .bool n5, .int .i64 n8, .bool n11, .slice none 0 0, .map none] ++ []) :: []) (fun _ => True) a14 i w') (fun i => n14.toNat - i) 0 ⟨rfl, rfl, rfl, rfl, rfl, rfl, rfl, rfl, rfl, trivial⟩ ⟨by decide, H⟩ ?_
  clear H
  rintro i14 w ⟨hi14, H⟩
  ((conv=>whnf);repeat(first|(refine mvT ?_;conv=>whnf)|(refine mvF ?_;conv=>whnf)|(refine cT (by rfl) ?_;conv=>whnf)|(refine cF (by rfl) ?_;conv=>whnf)))
  refine cI (by rfl) (fun h9=>?_) (fun h9=>?_)
  · have hlt14 : (i14 : Int) < n14 := of_decide_eq_true h9
    obtain ⟨g14, cap14, post14, rfl, hgo14, HI⟩ := H.go hlt14
    obtain ⟨es14, ts14, si14, hes14, hez14, hrn14, hts14, hlen1, H⟩ := HI.open hgo14.2.2.2.2
    obtain ⟨L14, hL14⟩ : ∃ L : List Ob, L = ((p, ty, [] ++ [.int .i16 v, .int .i32 n1, .int .i32 n3, .bool n5, .int .i64 n8, .bool n11, .slice none 0 0, .map none] ++ []) :: []) := ⟨_, rfl⟩
    rw [← hL14] at H hpL14
    obtain ⟨P14, hP14⟩ : ∃ P : World → Prop, P = fun w => (∀ (j : Nat) (c : List Value) (y : T), es14[j]? = some c → ts14[j]? = some y → elQ true 8 10 dStopReplicaRequestTopic ⟨w, fun k => k ≠ p⟩ c y) ∧ (fun _ => True) w := ⟨_, rfl⟩
    rw [← hP14] at H
    replace H : St w0 G0 p pb si14 ((g14, 114, es14.flatten ++ [str [], .int .i32 0, .slice none 0 0, .slice none 0 0, .map none] ++ ((List.replicate (n14.toNat - (i14 + 1)) [str [], .int .i32 0, .slice none 0 0, .slice none 0 0, .map none]).flatten ++ post14)) :: L14) P14 w := H
    ((conv=>whnf);repeat(first|(refine mvT ?_;conv=>whnf)|(refine mvF ?_;conv=>whnf)|(refine cT (by rfl) ?_;conv=>whnf)|(refine cF (by rfl) ?_;conv=>whnf)))
    refine ⟨g14, 0, rfl, ⟨by omega, by omega⟩, ?_⟩
    ((conv=>whnf);repeat(first|(refine mvT ?_;conv=>whnf)|(refine mvF ?_;conv=>whnf)|(refine cT (by rfl) ?_;conv=>whnf)|(refine cF (by rfl) ?_;conv=>whnf)))
    refine Does.mono (dfStopReplicaRequestTopic (pre := es14.flatten) (cur := [str [], .int .i32 0, .slice none 0 0, .slice none 0 0, .map none]) (post := ((List.replicate (n14.toNat - (i14 + 1)) [str [], .int .i32 0, .slice none 0 0, .slice none 0 0, .map none]).flatten ++ post14)) H.head (by first | (rw [hlen1]; simp; done) | (simp [hlen1]; done) | (simp [hlen1]; omega)) rfl) ?_
    rintro rd w2 ⟨hdf, hxd⟩
    replace H := H.put hdf hxd
    clear hdf hxd
    replace H : St w0 G0 p pb si14 ((g14, 114, es14.flatten ++ [str [], .int .i32 0, .slice none 0 0, .slice none 0 0, .map none] ++ ((List.replicate (n14.toNat - (i14 + 1)) [str [], .int .i32 0, .slice none 0 0, .slice none 0 0, .map none]).flatten ++ post14)) :: L14) P14 w2 := H
    ((conv=>whnf);repeat(first|(refine mvT ?_;conv=>whnf)|(refine mvF ?_;conv=>whnf)|(refine cT (by rfl) ?_;conv=>whnf)|(refine cF (by rfl) ?_;conv=>whnf)))
    have hup14 : tailBad 8 v fx dStopReplicaRequestTopic si14 = true → (rdPart 9 v fx dStopReplicaRequest (l, false)).2.2 = true := by
      intro hb
      refine hup0 ?_
      rw [tail_yes (rdField3.trans hr1) ⟨by decide, has_all hv⟩, tail_yes (rdField3.trans hr3) ⟨by decide, has_all hv⟩, tail_ver hr5 (by decide), tail_ver hr8 (by decide), tail_ver hr11 (by decide), tail_el ⟨by decide, has_all hv⟩ hln14 hgo14.2.2.2.2 hrn14 hb]
    (refine mvB ?_;((conv=>whnf);repeat(first|(refine mvT ?_;conv=>whnf)|(refine mvF ?_;conv=>whnf)|(refine cT (by rfl) ?_;conv=>whnf)|(refine cF (by rfl) ?_;conv=>whnf))))
    refine VC.cutE (fun q : List UInt8 × Rd => [(22, str q.1), (0, .pointer (some ⟨p, 0, none⟩)), (2, .bool false), (7, .pointer (some ⟨pb, 0, none⟩)), (8, .int .i16 v), (9, .bool fx), (10, .pointer (some ⟨p, 0, none⟩)), (18, .int .i32 n14), (17, .slice (some ⟨g14, 0, none⟩) n14.toNat cap14), (19, .int .i32 i14), (20, .pointer (some ⟨g14, 0 + (i14 : Int).toNat * 5, none⟩)), (21, .pointer (some ⟨g14, 0 + (i14 : Int).toNat * 5, none⟩))]) (fun q w' => rdTx fx si14 = q ∧ St w0 G0 p pb q.2 ((g14, 114, es14.flatten ++ [str [], .int .i32 0, .slice none 0 0, .slice none 0 0, .map none] ++ ((List.replicate (n14.toNat - (i14 + 1)) [str [], .int .i32 0, .slice none 0 0, .slice none 0 0, .map none]).flatten ++ post14)) :: L14) P14 w') ?_ ?_
    · refine cI (by rfl) (fun hc=>?_) (fun hc=>?_)
      · ((conv=>whnf);repeat(first|(refine mvT ?_;conv=>whnf)|(refine mvF ?_;conv=>whnf)|(refine cT (by rfl) ?_;conv=>whnf)|(refine cF (by rfl) ?_;conv=>whnf)))
        refine Does.mono H.txc ?_
        rintro r w ⟨u, s', rfl, hr, H⟩
        ((conv=>whnf);repeat(first|(refine mvT ?_;conv=>whnf)|(refine mvF ?_;conv=>whnf)|(refine cT (by rfl) ?_;conv=>whnf)|(refine cF (by rfl) ?_;conv=>whnf)))
        exact ⟨(u, s'), ⟨rfl, rfl, rfl, rfl, rfl, rfl, rfl, rfl, rfl, rfl, rfl, rfl, trivial⟩, by rw [hc]; exact hr, H⟩
      · ((conv=>whnf);repeat(first|(refine mvT ?_;conv=>whnf)|(refine mvF ?_;conv=>whnf)|(refine cT (by rfl) ?_;conv=>whnf)|(refine cF (by rfl) ?_;conv=>whnf)))
        refine Does.mono H.txp ?_
        rintro r w ⟨u, s', rfl, hr, H⟩
        ((conv=>whnf);repeat(first|(refine mvT ?_;conv=>whnf)|(refine mvF ?_;conv=>whnf)|(refine cT (by rfl) ?_;conv=>whnf)|(refine cF (by rfl) ?_;conv=>whnf)))
        exact ⟨(u, s'), ⟨rfl, rfl, rfl, rfl, rfl, rfl, rfl, rfl, rfl, rfl, rfl, rfl, trivial⟩, by rw [hc]; exact hr, H⟩
    clear H
    rintro ⟨u15, s15⟩ w ⟨hr15, H⟩
    dsimp only at hr15 H
    ((conv=>whnf);repeat(first|(refine mvT ?_;conv=>whnf)|(refine mvF ?_;conv=>whnf)|(refine cT (by rfl) ?_;conv=>whnf)|(refine cF (by rfl) ?_;conv=>whnf)))
    refine H.st1 (v := str u15) 0 (rfl) (rfl) rfl (by first | omega | (simp [hlen1]; done) | (simp [hlen1]; omega)) rfl (Nat.lt_of_lt_of_le (Nat.lt_succ_self _) (Nat.le_of_ble_eq_true rfl)) ?_
    intro w H
    ((conv=>whnf);repeat(first|(refine mvT ?_;conv=>whnf)|(refine mvF ?_;conv=>whnf)|(refine cT (by rfl) ?_;conv=>whnf)|(refine cF (by rfl) ?_;conv=>whnf)))
    replace H : St w0 G0 p pb s15 ((g14, 114, es14.flatten ++ [str u15, .int .i32 0, .slice none 0 0, .slice none 0 0, .map none] ++ ((List.replicate (n14.toNat - (i14 + 1)) [str [], .int .i32 0, .slice none 0 0, .slice none 0 0, .map none]).flatten ++ post14)) :: L14) P14 w := H
    intro cq hcq
    obtain rfl : cq = true := by rw [← hcq]; exact decide_eq_true hv
    ((conv=>whnf);repeat(first|(refine mvT ?_;conv=>whnf)|(refine mvF ?_;conv=>whnf)|(refine cT (by rfl) ?_;conv=>whnf)|(refine cF (by rfl) ?_;conv=>whnf)))
    refine VC.cutE (fun q : Int × Rd => [(0, .pointer (some ⟨p, 0, none⟩)), (2, .bool false), (7, .pointer (some ⟨pb, 0, none⟩)), (8, .int .i16 v), (9, .bool fx), (10, .pointer (some ⟨p, 0, none⟩)), (18, .int .i32 n14), (17, .slice (some ⟨g14, 0, none⟩) n14.toNat cap14), (19, .int .i32 i14), (20, .pointer (some ⟨g14, 0 + (i14 : Int).toNat * 5, none⟩)), (21, .pointer (some ⟨g14, 0 + (i14 : Int).toNat * 5, none⟩))]) (fun q w' => IntKind.i32.wrap q.1 = q.1 ∧ (if hasF (.mk 3 0 0 (-1) (-1) 0 0 []) v = true then rdField 8 v fx (.mk 3 0 0 (-1) (-1) 0 0 []) s15 else (dfT 8 (.mk 3 0 0 (-1) (-1) 0 0 []), s15)) = (numT q.1, q.2) ∧ St w0 G0 p pb q.2 ((g14, 114, es14.flatten ++ [str u15, .int .i32 q.1, .slice none 0 0, .slice none 0 0, .map none] ++ ((List.replicate (n14.toNat - (i14 + 1)) [str [], .int .i32 0, .slice none 0 0, .slice none 0 0, .map none]).flatten ++ post14)) :: L14) P14 w') ?_ ?_
    · refine cI (by rfl) (fun hcv=>?_) (fun hcv=>?_)
      · ((conv=>whnf);repeat(first|(refine mvT ?_;conv=>whnf)|(refine mvF ?_;conv=>whnf)|(refine cT (by rfl) ?_;conv=>whnf)|(refine cF (by rfl) ?_;conv=>whnf)))
        refine Does.mono H.int32 ?_
        rintro r w ⟨n18, s18, rfl, hn18, hr18, H⟩
        ((conv=>whnf);repeat(first|(refine mvT ?_;conv=>whnf)|(refine mvF ?_;conv=>whnf)|(refine cT (by rfl) ?_;conv=>whnf)|(refine cF (by rfl) ?_;conv=>whnf)))
        refine H.st1 (v := .int .i32 n18) 1 (rfl) (rfl) rfl (by first | omega | (simp [hlen1]; done) | (simp [hlen1]; omega)) rfl (Nat.lt_of_lt_of_le (Nat.lt_succ_self _) (Nat.le_of_ble_eq_true rfl)) ?_
        intro w H
        ((conv=>whnf);repeat(first|(refine mvT ?_;conv=>whnf)|(refine mvF ?_;conv=>whnf)|(refine cT (by rfl) ?_;conv=>whnf)|(refine cF (by rfl) ?_;conv=>whnf)))
        replace H : St w0 G0 p pb s18 ((g14, 114, es14.flatten ++ [str u15, .int .i32 n18, .slice none 0 0, .slice none 0 0, .map none] ++ ((List.replicate (n14.toNat - (i14 + 1)) [str [], .int .i32 0, .slice none 0 0, .slice none 0 0, .map none]).flatten ++ post14)) :: L14) P14 w := H
        have hh : hasF (.mk 3 0 0 (-1) (-1) 0 0 []) v = true := by have := of_decide_eq_true hcv; rw [hasF_iff]; omega
        exact ⟨(n18, s18), ⟨rfl, rfl, rfl, rfl, rfl, rfl, rfl, rfl, rfl, rfl, rfl, trivial⟩, hn18, by rw [if_pos hh]; exact (rdField3.trans hr18), H⟩
      · ((conv=>whnf);repeat(first|(refine mvT ?_;conv=>whnf)|(refine mvF ?_;conv=>whnf)|(refine cT (by rfl) ?_;conv=>whnf)|(refine cF (by rfl) ?_;conv=>whnf)))
        have hh : ¬ hasF (.mk 3 0 0 (-1) (-1) 0 0 []) v = true := by have := of_decide_eq_false hcv; rw [hasF_iff]; omega
        exact ⟨(0, s15), ⟨rfl, rfl, rfl, rfl, rfl, rfl, rfl, rfl, rfl, rfl, rfl, trivial⟩, rfl, by rw [if_neg hh]; rfl, H⟩
    clear H
    rintro ⟨n17, s17⟩ w ⟨hn17, hr17, H⟩
    dsimp only at hn17 hr17 H
    ((conv=>whnf);repeat(first|(refine mvT ?_;conv=>whnf)|(refine mvF ?_;conv=>whnf)|(refine cT (by rfl) ?_;conv=>whnf)|(refine cF (by rfl) ?_;conv=>whnf)))
    replace H : St w0 G0 p pb s17 ((g14, 114, es14.flatten ++ [str u15, .int .i32 n17, .slice none 0 0, .slice none 0 0, .map none] ++ ((List.replicate (n14.toNat - (i14 + 1)) [str [], .int .i32 0, .slice none 0 0, .slice none 0 0, .map none]).flatten ++ post14)) :: L14) P14 w := H
    apply mvG
    rotate_left
    · intro rest cq hcq
      cases cq
      · conv => whnf
        refine VC.cutE (fun q : Value × Bool × List T × Rd => [(0, .pointer (some ⟨p, 0, none⟩)), (2, .bool false), (7, .pointer (some ⟨pb, 0, none⟩)), (8, .int .i16 v), (9, .bool fx), (10, .pointer (some ⟨p, 0, none⟩)), (18, .int .i32 n14), (17, .slice (some ⟨g14, 0, none⟩) n14.toNat cap14), (19, .int .i32 i14), (20, .pointer (some ⟨g14, 0 + (i14 : Int).toNat * 5, none⟩)), (21, .pointer (some ⟨g14, 0 + (i14 : Int).toNat * 5, none⟩))]) (fun q w' => (q.2.1 = true → q.2.2.1 = []) ∧ (if hasF (.mk 11 1 2 (-1) (-1) 0 3 []) v = true then rdField 8 v fx (.mk 11 1 2 (-1) (-1) 0 3 []) s17 else (dfT 8 (.mk 11 1 2 (-1) (-1) 0 3 []), s17)) = (.mk 0 [] q.2.1 q.2.2.1 [], q.2.2.2) ∧ St w0 G0 p pb q.2.2.2 ((g14, 114, es14.flatten ++ [str u15, .int .i32 n17, q.1, .slice none 0 0, .map none] ++ ((List.replicate (n14.toNat - (i14 + 1)) [str [], .int .i32 0, .slice none 0 0, .slice none 0 0, .map none]).flatten ++ post14)) :: L14) (fun w => ListR true (elZ true 7 3 []) (elQ true 7 3 [] ⟨w, fun k => k ≠ p⟩) w (fun k => k ≠ p) q.1 (.mk 0 [] (q.2.1) q.2.2.1 []) ∧ P14 w) w') ?_ rest
        ((conv=>whnf);repeat(first|(refine mvT ?_;conv=>whnf)|(refine mvF ?_;conv=>whnf)|(refine cT (by rfl) ?_;conv=>whnf)|(refine cF (by rfl) ?_;conv=>whnf)))
        have hh : ¬ hasF (.mk 11 1 2 (-1) (-1) 0 3 []) v = true := by have := of_decide_eq_false hcq; rw [hasF_iff]; omega
        exact ⟨(.slice none 0 0, true, [], s17), ⟨rfl, rfl, rfl, rfl, rfl, rfl, rfl, rfl, rfl, rfl, rfl, trivial⟩, fun _ => rfl, by rw [if_neg hh]; rfl, H.add fun w' _ => .inl ⟨rfl, rfl⟩⟩
      · conv => whnf
        refine VC.cutE (fun q : Value × Bool × List T × Rd => [(0, .pointer (some ⟨p, 0, none⟩)), (2, .bool false), (7, .pointer (some ⟨pb, 0, none⟩)), (8, .int .i16 v), (9, .bool fx), (10, .pointer (some ⟨p, 0, none⟩)), (18, .int .i32 n14), (17, .slice (some ⟨g14, 0, none⟩) n14.toNat cap14), (19, .int .i32 i14), (20, .pointer (some ⟨g14, 0 + (i14 : Int).toNat * 5, none⟩)), (21, .pointer (some ⟨g14, 0 + (i14 : Int).toNat * 5, none⟩))]) (fun q w' => (q.2.1 = true → q.2.2.1 = []) ∧ (if hasF (.mk 11 1 2 (-1) (-1) 0 3 []) v = true then rdField 8 v fx (.mk 11 1 2 (-1) (-1) 0 3 []) s17 else (dfT 8 (.mk 11 1 2 (-1) (-1) 0 3 []), s17)) = (.mk 0 [] q.2.1 q.2.2.1 [], q.2.2.2) ∧ St w0 G0 p pb q.2.2.2 ((g14, 114, es14.flatten ++ [str u15, .int .i32 n17, q.1, .slice none 0 0, .map none] ++ ((List.replicate (n14.toNat - (i14 + 1)) [str [], .int .i32 0, .slice none 0 0, .slice none 0 0, .map none]).flatten ++ post14)) :: L14) (fun w => ListR true (elZ true 7 3 []) (elQ true 7 3 [] ⟨w, fun k => k ≠ p⟩) w (fun k => k ≠ p) q.1 (.mk 0 [] (q.2.1) q.2.2.1 []) ∧ P14 w) w') ?_ rest
        refine cI (by rfl) (fun hcv=>?_) (fun hcv=>?_)
        · have hh : hasF (.mk 11 1 2 (-1) (-1) 0 3 []) v = true := by have := of_decide_eq_true hcv; have := of_decide_eq_true hcq; rw [hasF_iff]; omega
          ((conv=>whnf);repeat(first|(refine mvT ?_;conv=>whnf)|(refine mvF ?_;conv=>whnf)|(refine cT (by rfl) ?_;conv=>whnf)|(refine cF (by rfl) ?_;conv=>whnf)))
          refine ⟨_, ld (H.cell rfl (k := 2) rfl) (by first | omega | (simp [hlen1]; done) | (simp [hlen1]; omega)), ?_⟩; ((conv=>whnf);repeat(first|(refine mvT ?_;conv=>whnf)|(refine mvF ?_;conv=>whnf)|(refine cT (by rfl) ?_;conv=>whnf)|(refine cF (by rfl) ?_;conv=>whnf)))
          (refine mvB ?_;((conv=>whnf);repeat(first|(refine mvT ?_;conv=>whnf)|(refine mvF ?_;conv=>whnf)|(refine cT (by rfl) ?_;conv=>whnf)|(refine cF (by rfl) ?_;conv=>whnf))))
          refine VC.cutE (fun q : Int × Rd => [(26, .int .i32 q.1), (25, .slice none 0 0), (0, .pointer (some ⟨p, 0, none⟩)), (2, .bool false), (7, .pointer (some ⟨pb, 0, none⟩)), (8, .int .i16 v), (9, .bool fx), (10, .pointer (some ⟨p, 0, none⟩)), (18, .int .i32 n14), (17, .slice (some ⟨g14, 0, none⟩) n14.toNat cap14), (19, .int .i32 i14), (20, .pointer (some ⟨g14, 0 + (i14 : Int).toNat * 5, none⟩)), (21, .pointer (some ⟨g14, 0 + (i14 : Int).toNat * 5, none⟩))]) (fun q w' => (-2147483648 ≤ q.1 ∧ q.1 ≤ 2147483647) ∧ rdLn fx s17 = q ∧ St w0 G0 p pb q.2 ((g14, 114, es14.flatten ++ [str u15, .int .i32 n17, .slice none 0 0, .slice none 0 0, .map none] ++ ((List.replicate (n14.toNat - (i14 + 1)) [str [], .int .i32 0, .slice none 0 0, .slice none 0 0, .map none]).flatten ++ post14)) :: L14) P14 w') ?_ ?_
          · refine cI (by rfl) (fun hc=>?_) (fun hc=>?_)
            · ((conv=>whnf);repeat(first|(refine mvT ?_;conv=>whnf)|(refine mvF ?_;conv=>whnf)|(refine cT (by rfl) ?_;conv=>whnf)|(refine cF (by rfl) ?_;conv=>whnf)))
              refine Does.mono H.lnc ?_
              rintro r w ⟨n, s', rfl, hn, hr, H⟩
              ((conv=>whnf);repeat(first|(refine mvT ?_;conv=>whnf)|(refine mvF ?_;conv=>whnf)|(refine cT (by rfl) ?_;conv=>whnf)|(refine cF (by rfl) ?_;conv=>whnf)))
              exact ⟨(n, s'), ⟨rfl, rfl, rfl, rfl, rfl, rfl, rfl, rfl, rfl, rfl, rfl, rfl, rfl, trivial⟩, hn, by rw [hc]; exact hr, H⟩
            · ((conv=>whnf);repeat(first|(refine mvT ?_;conv=>whnf)|(refine mvF ?_;conv=>whnf)|(refine cT (by rfl) ?_;conv=>whnf)|(refine cF (by rfl) ?_;conv=>whnf)))
              refine Does.mono H.lnp ?_
              rintro r w ⟨n, s', rfl, hn, hr, H⟩
              ((conv=>whnf);repeat(first|(refine mvT ?_;conv=>whnf)|(refine mvF ?_;conv=>whnf)|(refine cT (by rfl) ?_;conv=>whnf)|(refine cF (by rfl) ?_;conv=>whnf)))
              exact ⟨(n, s'), ⟨rfl, rfl, rfl, rfl, rfl, rfl, rfl, rfl, rfl, rfl, rfl, rfl, rfl, trivial⟩, hn, by rw [hc]; exact hr, H⟩
          clear H
          rintro ⟨n21, s21⟩ w ⟨hn21, hln21, H⟩
          dsimp only at hn21 hln21 H
          ((conv=>whnf);repeat(first|(refine mvT ?_;conv=>whnf)|(refine mvF ?_;conv=>whnf)|(refine cT (by rfl) ?_;conv=>whnf)|(refine cF (by rfl) ?_;conv=>whnf)))
          refine Does.mono H.ok ?_
          rintro r w ⟨rfl, H⟩
          ((conv=>whnf);repeat(first|(refine mvT ?_;conv=>whnf)|(refine mvF ?_;conv=>whnf)|(refine cT (by rfl) ?_;conv=>whnf)|(refine cF (by rfl) ?_;conv=>whnf)))
          refine cI (by rfl) (fun hbd=>?_) (fun hbd=>?_)
          · have hbd : s21.2 = true := by simpa using hbd
            ((conv=>whnf);repeat(first|(refine mvT ?_;conv=>whnf)|(refine mvF ?_;conv=>whnf)|(refine cT (by rfl) ?_;conv=>whnf)|(refine cF (by rfl) ?_;conv=>whnf)))
            refine Does.mono (H.done hL hp1) ?_
            rintro r w ⟨rfl, H⟩
            ((conv=>whnf);repeat(first|(refine mvT ?_;conv=>whnf)|(refine mvF ?_;conv=>whnf)|(refine cT (by rfl) ?_;conv=>whnf)|(refine cF (by rfl) ?_;conv=>whnf)))
            refine RdPost.early hbd (hup14 (?_)) H
            rw [tail_yes (rdField8 (by decide) hr15) ⟨by decide, has_all hv⟩, tail_ver hr17 (by decide), tail_len ⟨by decide, hh⟩ hln21 hbd]
          have hbd : s21.2 = false := by simpa using hbd
          clear hbd
          ((conv=>whnf);repeat(first|(refine mvT ?_;conv=>whnf)|(refine mvF ?_;conv=>whnf)|(refine cT (by rfl) ?_;conv=>whnf)|(refine cF (by rfl) ?_;conv=>whnf)))
          refine cut_zero ?_
          ((conv=>whnf);repeat(first|(refine mvT ?_;conv=>whnf)|(refine mvF ?_;conv=>whnf)|(refine cT (by rfl) ?_;conv=>whnf)|(refine cF (by rfl) ?_;conv=>whnf)))
          refine VC.cutE (fun a : Value => [(26, .int .i32 n21), (25, a), (0, .pointer (some ⟨p, 0, none⟩)), (2, .bool false), (7, .pointer (some ⟨pb, 0, none⟩)), (8, .int .i16 v), (9, .bool fx), (10, .pointer (some ⟨p, 0, none⟩)), (18, .int .i32 n14), (17, .slice (some ⟨g14, 0, none⟩) n14.toNat cap14), (19, .int .i32 i14), (20, .pointer (some ⟨g14, 0 + (i14 : Int).toNat * 5, none⟩)), (21, .pointer (some ⟨g14, 0 + (i14 : Int).toNat * 5, none⟩))]) (fun a w' => ListI w0 G0 p pb 21 [.int .i32 0] (elR 7 v fx 3 []) (elQ true 7 3 []) s21 n21 (decide (n21 ≤ 0)) ((g14, 114, es14.flatten ++ [str u15, .int .i32 n17, .slice none 0 0, .slice none 0 0, .map none] ++ ((List.replicate (n14.toNat - (i14 + 1)) [str [], .int .i32 0, .slice none 0 0, .slice none 0 0, .map none]).flatten ++ post14)) :: L14) P14 a 0 w') ?_ ?_
          · refine cI (by rfl) (fun hps=>?_) (fun hps=>?_)
            · have hps : 0 < n21 := by have := of_decide_eq_true hps; omega
              ((conv=>whnf);repeat(first|(refine mvT ?_;conv=>whnf)|(refine mvF ?_;conv=>whnf)|(refine cT (by rfl) ?_;conv=>whnf)|(refine cF (by rfl) ?_;conv=>whnf)))
              refine H.grow hps hn21.2 (by decide) rfl rfl (by decide) ?_
              intro g cap post w hc1 hc2 H
              ((conv=>whnf);repeat(first|(refine mvT ?_;conv=>whnf)|(refine mvF ?_;conv=>whnf)|(refine cT (by rfl) ?_;conv=>whnf)|(refine cF (by rfl) ?_;conv=>whnf)))
              exact ⟨_, ⟨rfl, rfl, rfl, rfl, rfl, rfl, rfl, rfl, rfl, rfl, rfl, rfl, rfl, trivial⟩, ListI.some hps (decide_eq_false (by omega)) hc1 hc2 H⟩
            · have hps : n21 ≤ 0 := by have := of_decide_eq_false hps; omega
              ((conv=>whnf);repeat(first|(refine mvT ?_;conv=>whnf)|(refine mvF ?_;conv=>whnf)|(refine cT (by rfl) ?_;conv=>whnf)|(refine cF (by rfl) ?_;conv=>whnf)))
              exact ⟨_, ⟨rfl, rfl, rfl, rfl, rfl, rfl, rfl, rfl, rfl, rfl, rfl, rfl, rfl, trivial⟩, ListI.none hps (decide_eq_true hps) H⟩
          clear H
          rintro a21 w H
          ((conv=>whnf);repeat(first|(refine mvT ?_;conv=>whnf)|(refine mvF ?_;conv=>whnf)|(refine cT (by rfl) ?_;conv=>whnf)|(refine cF (by rfl) ?_;conv=>whnf)))
          have hpL21 : inL ((g14, 114, es14.flatten ++ [str u15, .int .i32 n17, .slice none 0 0, .slice none 0 0, .map none] ++ ((List.replicate (n14.toNat - (i14 + 1)) [str [], .int .i32 0, .slice none 0 0, .slice none 0 0, .map none]).flatten ++ post14)) :: L14) p := inL.tail hpL14
          refine VL.loop (fun i : Nat => [(26, .int .i32 n21), (25, a21), (27, .int .i32 i), (0, .pointer (some ⟨p, 0, none⟩)), (2, .bool false), (7, .pointer (some ⟨pb, 0, none⟩)), (8, .int .i16 v), (9, .bool fx), (10, .pointer (some ⟨p, 0, none⟩)), (18, .int .i32 n14), (17, .slice (some ⟨g14, 0, none⟩) n14.toNat cap14), (19, .int .i32 i14), (20, .pointer (some ⟨g14, 0 + (i14 : Int).toNat * 5, none⟩)), (21, .pointer (some ⟨g14, 0 + (i14 : Int).toNat * 5, none⟩))]) (fun i w' => i ≤ 2147483647 ∧ ListI w0 G0 p pb 21 [.int .i32 0] (elR 7 v fx 3 []) (elQ true 7 3 []) s21 n21 (decide (n21 ≤ 0)) ((g14, 114, es14.flatten ++ [str u15, .int .i32 n17, .slice none 0 0, .slice none 0 0, .map none] ++ ((List.replicate (n14.toNat - (i14 + 1)) [str [], .int .i32 0, .slice none 0 0, .slice none 0 0, .map none]).flatten ++ post14)) :: L14) P14 a21 i w') (fun i => n21.toNat - i) 0 ⟨rfl, rfl, rfl, rfl, rfl, rfl, rfl, rfl, rfl, rfl, rfl, rfl, rfl, rfl, trivial⟩ ⟨by decide, H⟩ ?_
          clear H
          rintro i21 w ⟨hi21, H⟩
          ((conv=>whnf);repeat(first|(refine mvT ?_;conv=>whnf)|(refine mvF ?_;conv=>whnf)|(refine cT (by rfl) ?_;conv=>whnf)|(refine cF (by rfl) ?_;conv=>whnf)))
          refine cI (by rfl) (fun h9=>?_) (fun h9=>?_)
          · have hlt21 : (i21 : Int) < n21 := of_decide_eq_true h9
            obtain ⟨g21, cap21, post21, rfl, hgo21, HI⟩ := H.go hlt21
            obtain ⟨es21, ts21, si21, hes21, hez21, hrn21, hts21, hlen2, H⟩ := HI.open hgo21.2.2.2.2
            obtain ⟨L21, hL21⟩ : ∃ L : List Ob, L = ((g14, 114, es14.flatten ++ [str u15, .int .i32 n17, .slice none 0 0, .slice none 0 0, .map none] ++ ((List.replicate (n14.toNat - (i14 + 1)) [str [], .int .i32 0, .slice none 0 0, .slice none 0 0, .map none]).flatten ++ post14)) :: L14) := ⟨_, rfl⟩
            rw [← hL21] at H hpL21
            obtain ⟨P21, hP21⟩ : ∃ P : World → Prop, P = fun w => (∀ (j : Nat) (c : List Value) (y : T), es21[j]? = some c → ts21[j]? = some y → elQ true 7 3 [] ⟨w, fun k => k ≠ p⟩ c y) ∧ P14 w := ⟨_, rfl⟩
            rw [← hP21] at H
            replace H : St w0 G0 p pb si21 ((g21, 21, es21.flatten ++ [.int .i32 0] ++ ((List.replicate (n21.toNat - (i21 + 1)) [.int .i32 0]).flatten ++ post21)) :: L21) P21 w := H
            ((conv=>whnf);repeat(first|(refine mvT ?_;conv=>whnf)|(refine mvF ?_;conv=>whnf)|(refine cT (by rfl) ?_;conv=>whnf)|(refine cF (by rfl) ?_;conv=>whnf)))
            refine Does.mono H.int32 ?_
            rintro r w ⟨n22, s22, rfl, hn22, hr22, H⟩
            ((conv=>whnf);repeat(first|(refine mvT ?_;conv=>whnf)|(refine mvF ?_;conv=>whnf)|(refine cT (by rfl) ?_;conv=>whnf)|(refine cF (by rfl) ?_;conv=>whnf)))
            refine ⟨g21, 0, rfl, ⟨by omega, by omega⟩, ?_⟩
            ((conv=>whnf);repeat(first|(refine mvT ?_;conv=>whnf)|(refine mvF ?_;conv=>whnf)|(refine cT (by rfl) ?_;conv=>whnf)|(refine cF (by rfl) ?_;conv=>whnf)))
            refine H.st1 (v := .int .i32 n22) 0 (rfl) (rfl) rfl (by first | omega | (simp [hlen2]; done) | (simp [hlen2]; omega)) rfl (Nat.lt_of_lt_of_le (Nat.lt_succ_self _) (Nat.le_of_ble_eq_true rfl)) ?_
            intro w H
            ((conv=>whnf);repeat(first|(refine mvT ?_;conv=>whnf)|(refine mvF ?_;conv=>whnf)|(refine cT (by rfl) ?_;conv=>whnf)|(refine cF (by rfl) ?_;conv=>whnf)))
            replace H : St w0 G0 p pb s22 ((g21, 21, es21.flatten ++ [.int .i32 n22] ++ ((List.replicate (n21.toNat - (i21 + 1)) [.int .i32 0]).flatten ++ post21)) :: L21) P21 w := H
            refine ⟨i21 + 1, ⟨rfl, rfl, ?_, rfl, rfl, rfl, rfl, rfl, rfl, rfl, rfl, rfl, rfl, rfl, trivial⟩, ⟨by omega, ListI.back hgo21 (LoopI.next hes21 hez21 hrn21 hts21 (cur := [.int .i32 n22]) (x := numT n22) (hr22) rfl (by rw [← hL21]; exact H) fun w hP => ?_)⟩, by omega⟩
            · show some (Value.int .i32 _) = _
              rw [IntKind.wrap_i32]
              simp only [Option.some.injEq, Value.int.injEq, true_and]
              omega
            · skip
              rw [hP21] at hP
              exact ⟨⟨_, hn22, rfl, rfl⟩, hP⟩
          have hge21 : ¬ (i21 : Int) < n21 := of_decide_eq_false h9
          obtain ⟨l23, s23, hone23, hl23, hr23, H⟩ := H.done hge21 hln21 (nl := nlF (.mk 11 1 2 (-1) (-1) 0 3 []) v) (sz := elZ true 7 3 []) rfl hpL21 rfl
          ((conv=>whnf);repeat(first|(refine mvT ?_;conv=>whnf)|(refine mvF ?_;conv=>whnf)|(refine cT (by rfl) ?_;conv=>whnf)|(refine cF (by rfl) ?_;conv=>whnf)))
          obtain ⟨P24, hP24⟩ : ∃ P : World → Prop, P = fun w => ListR true (elZ true 7 3 []) (elQ true 7 3 [] ⟨w, fun k => k ≠ p⟩) w (fun k => k ≠ p) a21 (.mk 0 [] (decide (n21 ≤ 0)) l23 []) ∧ P14 w := ⟨_, rfl⟩
          replace H : St w0 G0 p pb s23 ((g14, 114, es14.flatten ++ [str u15, .int .i32 n17, .slice none 0 0, .slice none 0 0, .map none] ++ ((List.replicate (n14.toNat - (i14 + 1)) [str [], .int .i32 0, .slice none 0 0, .slice none 0 0, .map none]).flatten ++ post14)) :: L14) P24 w := by rw [hP24]; exact H
          refine H.st1 (v := a21) 2 (cells_one hone23) (hone23) rfl (by first | omega | (simp [hlen1]; done) | (simp [hlen1]; omega)) rfl (Nat.lt_of_lt_of_le (Nat.lt_succ_self _) (Nat.le_of_ble_eq_true rfl)) ?_
          intro w H
          ((conv=>whnf);repeat(first|(refine mvT ?_;conv=>whnf)|(refine mvF ?_;conv=>whnf)|(refine cT (by rfl) ?_;conv=>whnf)|(refine cF (by rfl) ?_;conv=>whnf)))
          replace H : St w0 G0 p pb s23 ((g14, 114, es14.flatten ++ [str u15, .int .i32 n17, a21, .slice none 0 0, .map none] ++ ((List.replicate (n14.toNat - (i14 + 1)) [str [], .int .i32 0, .slice none 0 0, .slice none 0 0, .map none]).flatten ++ post14)) :: L14) P24 w := H
          exact ⟨(a21, decide (n21 ≤ 0), l23, s23), ⟨rfl, rfl, rfl, rfl, rfl, rfl, rfl, rfl, rfl, rfl, rfl, trivial⟩, hl23, by rw [if_pos hh]; exact ((rdField_list _ _ _ _ _ _ _ _ _ _ _).trans hr23), by rw [hP24] at H; exact H⟩
        · ((conv=>whnf);repeat(first|(refine mvT ?_;conv=>whnf)|(refine mvF ?_;conv=>whnf)|(refine cT (by rfl) ?_;conv=>whnf)|(refine cF (by rfl) ?_;conv=>whnf)))
          have hh : ¬ hasF (.mk 11 1 2 (-1) (-1) 0 3 []) v = true := by have := of_decide_eq_false hcv; rw [hasF_iff]; omega
          exact ⟨(.slice none 0 0, true, [], s17), ⟨rfl, rfl, rfl, rfl, rfl, rfl, rfl, rfl, rfl, rfl, rfl, trivial⟩, fun _ => rfl, by rw [if_neg hh]; rfl, H.add fun w' _ => .inl ⟨rfl, rfl⟩⟩
    clear H
    rintro ⟨c20, nl20, l20, s20⟩ w ⟨hnl20, hr20, H⟩
    dsimp only at hnl20 hr20 H
    ((conv=>whnf);repeat(first|(refine mvT ?_;conv=>whnf)|(refine mvF ?_;conv=>whnf)|(refine cT (by rfl) ?_;conv=>whnf)|(refine cF (by rfl) ?_;conv=>whnf)))
    obtain ⟨P26, hP26⟩ : ∃ P : World → Prop, P = fun w => ListR true (elZ true 7 3 []) (elQ true 7 3 [] ⟨w, fun k => k ≠ p⟩) w (fun k => k ≠ p) c20 (.mk 0 [] (nl20) l20 []) ∧ P14 w := ⟨_, rfl⟩
    replace H : St w0 G0 p pb s20 ((g14, 114, es14.flatten ++ [str u15, .int .i32 n17, c20, .slice none 0 0, .map none] ++ ((List.replicate (n14.toNat - (i14 + 1)) [str [], .int .i32 0, .slice none 0 0, .slice none 0 0, .map none]).flatten ++ post14)) :: L14) P26 w := by rw [hP26]; exact H
    refine VC.cutE (fun q : Value × Bool × List T × Rd => [(0, .pointer (some ⟨p, 0, none⟩)), (2, .bool false), (7, .pointer (some ⟨pb, 0, none⟩)), (8, .int .i16 v), (9, .bool fx), (10, .pointer (some ⟨p, 0, none⟩)), (18, .int .i32 n14), (17, .slice (some ⟨g14, 0, none⟩) n14.toNat cap14), (19, .int .i32 i14), (20, .pointer (some ⟨g14, 0 + (i14 : Int).toNat * 5, none⟩)), (21, .pointer (some ⟨g14, 0 + (i14 : Int).toNat * 5, none⟩))]) (fun q w' => (q.2.1 = true → q.2.2.1 = []) ∧ (if hasF (.mk 11 3 (-1) (-1) (-1) 0 10 dStopReplicaRequestTopicPartitionState) v = true then rdField 8 v fx (.mk 11 3 (-1) (-1) (-1) 0 10 dStopReplicaRequestTopicPartitionState) s20 else (dfT 8 (.mk 11 3 (-1) (-1) (-1) 0 10 dStopReplicaRequestTopicPartitionState), s20)) = (.mk 0 [] q.2.1 q.2.2.1 [], q.2.2.2) ∧ St w0 G0 p pb q.2.2.2 ((g14, 114, es14.flatten ++ [str u15, .int .i32 n17, c20, q.1, .map none] ++ ((List.replicate (n14.toNat - (i14 + 1)) [str [], .int .i32 0, .slice none 0 0, .slice none 0 0, .map none]).flatten ++ post14)) :: L14) (fun w => ListR true (elZ true 7 10 dStopReplicaRequestTopicPartitionState) (elQ true 7 10 dStopReplicaRequestTopicPartitionState ⟨w, fun k => k ≠ p⟩) w (fun k => k ≠ p) q.1 (.mk 0 [] (q.2.1) q.2.2.1 []) ∧ P26 w) w') ?_ ?_
    · refine cI (by rfl) (fun hcv=>?_) (fun hcv=>?_)
      · have hh : hasF (.mk 11 3 (-1) (-1) (-1) 0 10 dStopReplicaRequestTopicPartitionState) v = true := by have := of_decide_eq_true hcv; rw [hasF_iff]; omega
        ((conv=>whnf);repeat(first|(refine mvT ?_;conv=>whnf)|(refine mvF ?_;conv=>whnf)|(refine cT (by rfl) ?_;conv=>whnf)|(refine cF (by rfl) ?_;conv=>whnf)))
        refine ⟨_, ld (H.cell rfl (k := 3) rfl) (by first | omega | (simp [hlen1]; done) | (simp [hlen1]; omega)), ?_⟩; ((conv=>whnf);repeat(first|(refine mvT ?_;conv=>whnf)|(refine mvF ?_;conv=>whnf)|(refine cT (by rfl) ?_;conv=>whnf)|(refine cF (by rfl) ?_;conv=>whnf)))
        (refine mvB ?_;((conv=>whnf);repeat(first|(refine mvT ?_;conv=>whnf)|(refine mvF ?_;conv=>whnf)|(refine cT (by rfl) ?_;conv=>whnf)|(refine cF (by rfl) ?_;conv=>whnf))))
        refine VC.cutE (fun q : Int × Rd => [(31, .int .i32 q.1), (30, .slice none 0 0), (0, .pointer (some ⟨p, 0, none⟩)), (2, .bool false), (7, .pointer (some ⟨pb, 0, none⟩)), (8, .int .i16 v), (9, .bool fx), (10, .pointer (some ⟨p, 0, none⟩)), (18, .int .i32 n14), (17, .slice (some ⟨g14, 0, none⟩) n14.toNat cap14), (19, .int .i32 i14), (20, .pointer (some ⟨g14, 0 + (i14 : Int).toNat * 5, none⟩)), (21, .pointer (some ⟨g14, 0 + (i14 : Int).toNat * 5, none⟩))]) (fun q w' => (-2147483648 ≤ q.1 ∧ q.1 ≤ 2147483647) ∧ rdLn fx s20 = q ∧ St w0 G0 p pb q.2 ((g14, 114, es14.flatten ++ [str u15, .int .i32 n17, c20, .slice none 0 0, .map none] ++ ((List.replicate (n14.toNat - (i14 + 1)) [str [], .int .i32 0, .slice none 0 0, .slice none 0 0, .map none]).flatten ++ post14)) :: L14) P26 w') ?_ ?_
        · refine cI (by rfl) (fun hc=>?_) (fun hc=>?_)
          · ((conv=>whnf);repeat(first|(refine mvT ?_;conv=>whnf)|(refine mvF ?_;conv=>whnf)|(refine cT (by rfl) ?_;conv=>whnf)|(refine cF (by rfl) ?_;conv=>whnf)))
            refine Does.mono H.lnc ?_
            rintro r w ⟨n, s', rfl, hn, hr, H⟩
            ((conv=>whnf);repeat(first|(refine mvT ?_;conv=>whnf)|(refine mvF ?_;conv=>whnf)|(refine cT (by rfl) ?_;conv=>whnf)|(refine cF (by rfl) ?_;conv=>whnf)))
            exact ⟨(n, s'), ⟨rfl, rfl, rfl, rfl, rfl, rfl, rfl, rfl, rfl, rfl, rfl, rfl, rfl, trivial⟩, hn, by rw [hc]; exact hr, H⟩
          · ((conv=>whnf);repeat(first|(refine mvT ?_;conv=>whnf)|(refine mvF ?_;conv=>whnf)|(refine cT (by rfl) ?_;conv=>whnf)|(refine cF (by rfl) ?_;conv=>whnf)))
            refine Does.mono H.lnp ?_
            rintro r w ⟨n, s', rfl, hn, hr, H⟩
            ((conv=>whnf);repeat(first|(refine mvT ?_;conv=>whnf)|(refine mvF ?_;conv=>whnf)|(refine cT (by rfl) ?_;conv=>whnf)|(refine cF (by rfl) ?_;conv=>whnf)))
            exact ⟨(n, s'), ⟨rfl, rfl, rfl, rfl, rfl, rfl, rfl, rfl, rfl, rfl, rfl, rfl, rfl, trivial⟩, hn, by rw [hc]; exact hr, H⟩
        clear H
        rintro ⟨n28, s28⟩ w ⟨hn28, hln28, H⟩
        dsimp only at hn28 hln28 H
        ((conv=>whnf);repeat(first|(refine mvT ?_;conv=>whnf)|(refine mvF ?_;conv=>whnf)|(refine cT (by rfl) ?_;conv=>whnf)|(refine cF (by rfl) ?_;conv=>whnf)))
        refine Does.mono H.ok ?_
        rintro r w ⟨rfl, H⟩
        ((conv=>whnf);repeat(first|(refine mvT ?_;conv=>whnf)|(refine mvF ?_;conv=>whnf)|(refine cT (by rfl) ?_;conv=>whnf)|(refine cF (by rfl) ?_;conv=>whnf)))
        refine cI (by rfl) (fun hbd=>?_) (fun hbd=>?_)
        · have hbd : s28.2 = true := by simpa using hbd
          ((conv=>whnf);repeat(first|(refine mvT ?_;conv=>whnf)|(refine mvF ?_;conv=>whnf)|(refine cT (by rfl) ?_;conv=>whnf)|(refine cF (by rfl) ?_;conv=>whnf)))
          refine Does.mono (H.done hL hp1) ?_
          rintro r w ⟨rfl, H⟩
          ((conv=>whnf);repeat(first|(refine mvT ?_;conv=>whnf)|(refine mvF ?_;conv=>whnf)|(refine cT (by rfl) ?_;conv=>whnf)|(refine cF (by rfl) ?_;conv=>whnf)))
          refine RdPost.early hbd (hup14 (?_)) H
          rw [tail_yes (rdField8 (by decide) hr15) ⟨by decide, has_all hv⟩, tail_ver hr17 (by decide), tail_ver hr20 (by decide), tail_len ⟨by decide, hh⟩ hln28 hbd]
        have hbd : s28.2 = false := by simpa using hbd
        clear hbd
        ((conv=>whnf);repeat(first|(refine mvT ?_;conv=>whnf)|(refine mvF ?_;conv=>whnf)|(refine cT (by rfl) ?_;conv=>whnf)|(refine cF (by rfl) ?_;conv=>whnf)))
        refine cut_zero ?_
        ((conv=>whnf);repeat(first|(refine mvT ?_;conv=>whnf)|(refine mvF ?_;conv=>whnf)|(refine cT (by rfl) ?_;conv=>whnf)|(refine cF (by rfl) ?_;conv=>whnf)))
        refine VC.cutE (fun a : Value => [(31, .int .i32 n28), (30, a), (0, .pointer (some ⟨p, 0, none⟩)), (2, .bool false), (7, .pointer (some ⟨pb, 0, none⟩)), (8, .int .i16 v), (9, .bool fx), (10, .pointer (some ⟨p, 0, none⟩)), (18, .int .i32 n14), (17, .slice (some ⟨g14, 0, none⟩) n14.toNat cap14), (19, .int .i32 i14), (20, .pointer (some ⟨g14, 0 + (i14 : Int).toNat * 5, none⟩)), (21, .pointer (some ⟨g14, 0 + (i14 : Int).toNat * 5, none⟩))]) (fun a w' => ListI w0 G0 p pb 172 [.int .i32 0, .int .i32 0, .bool false, .map none] (elR 7 v fx 10 dStopReplicaRequestTopicPartitionState) (elQ true 7 10 dStopReplicaRequestTopicPartitionState) s28 n28 (decide (n28 ≤ 0)) ((g14, 114, es14.flatten ++ [str u15, .int .i32 n17, c20, .slice none 0 0, .map none] ++ ((List.replicate (n14.toNat - (i14 + 1)) [str [], .int .i32 0, .slice none 0 0, .slice none 0 0, .map none]).flatten ++ post14)) :: L14) P26 a 0 w') ?_ ?_
        · refine cI (by rfl) (fun hps=>?_) (fun hps=>?_)
          · have hps : 0 < n28 := by have := of_decide_eq_true hps; omega
            ((conv=>whnf);repeat(first|(refine mvT ?_;conv=>whnf)|(refine mvF ?_;conv=>whnf)|(refine cT (by rfl) ?_;conv=>whnf)|(refine cF (by rfl) ?_;conv=>whnf)))
            refine H.grow hps hn28.2 (by decide) rfl rfl (by decide) ?_
            intro g cap post w hc1 hc2 H
            ((conv=>whnf);repeat(first|(refine mvT ?_;conv=>whnf)|(refine mvF ?_;conv=>whnf)|(refine cT (by rfl) ?_;conv=>whnf)|(refine cF (by rfl) ?_;conv=>whnf)))
            exact ⟨_, ⟨rfl, rfl, rfl, rfl, rfl, rfl, rfl, rfl, rfl, rfl, rfl, rfl, rfl, trivial⟩, ListI.some hps (decide_eq_false (by omega)) hc1 hc2 H⟩
          · have hps : n28 ≤ 0 := by have := of_decide_eq_false hps; omega
            ((conv=>whnf);repeat(first|(refine mvT ?_;conv=>whnf)|(refine mvF ?_;conv=>whnf)|(refine cT (by rfl) ?_;conv=>whnf)|(refine cF (by rfl) ?_;conv=>whnf)))
            exact ⟨_, ⟨rfl, rfl, rfl, rfl, rfl, rfl, rfl, rfl, rfl, rfl, rfl, rfl, rfl, trivial⟩, ListI.none hps (decide_eq_true hps) H⟩
        clear H
        rintro a28 w H
        ((conv=>whnf);repeat(first|(refine mvT ?_;conv=>whnf)|(refine mvF ?_;conv=>whnf)|(refine cT (by rfl) ?_;conv=>whnf)|(refine cF (by rfl) ?_;conv=>whnf)))
        have hpL28 : inL ((g14, 114, es14.flatten ++ [str u15, .int .i32 n17, c20, .slice none 0 0, .map none] ++ ((List.replicate (n14.toNat - (i14 + 1)) [str [], .int .i32 0, .slice none 0 0, .slice none 0 0, .map none]).flatten ++ post14)) :: L14) p := inL.tail hpL14
        refine VL.loop (fun i : Nat => [(31, .int .i32 n28), (30, a28), (32, .int .i32 i), (0, .pointer (some ⟨p, 0, none⟩)), (2, .bool false), (7, .pointer (some ⟨pb, 0, none⟩)), (8, .int .i16 v), (9, .bool fx), (10, .pointer (some ⟨p, 0, none⟩)), (18, .int .i32 n14), (17, .slice (some ⟨g14, 0, none⟩) n14.toNat cap14), (19, .int .i32 i14), (20, .pointer (some ⟨g14, 0 + (i14 : Int).toNat * 5, none⟩)), (21, .pointer (some ⟨g14, 0 + (i14 : Int).toNat * 5, none⟩))]) (fun i w' => i ≤ 2147483647 ∧ ListI w0 G0 p pb 172 [.int .i32 0, .int .i32 0, .bool false, .map none] (elR 7 v fx 10 dStopReplicaRequestTopicPartitionState) (elQ true 7 10 dStopReplicaRequestTopicPartitionState) s28 n28 (decide (n28 ≤ 0)) ((g14, 114, es14.flatten ++ [str u15, .int .i32 n17, c20, .slice none 0 0, .map none] ++ ((List.replicate (n14.toNat - (i14 + 1)) [str [], .int .i32 0, .slice none 0 0, .slice none 0 0, .map none]).flatten ++ post14)) :: L14) P26 a28 i w') (fun i => n28.toNat - i) 0 ⟨rfl, rfl, rfl, rfl, rfl, rfl, rfl, rfl, rfl, rfl, rfl, rfl, rfl, rfl, trivial⟩ ⟨by decide, H⟩ ?_
        clear H
        rintro i28 w ⟨hi28, H⟩
        ((conv=>whnf);repeat(first|(refine mvT ?_;conv=>whnf)|(refine mvF ?_;conv=>whnf)|(refine cT (by rfl) ?_;conv=>whnf)|(refine cF (by rfl) ?_;conv=>whnf)))
        refine cI (by rfl) (fun h9=>?_) (fun h9=>?_)
        · have hlt28 : (i28 : Int) < n28 := of_decide_eq_true h9
          obtain ⟨g28, cap28, post28, rfl, hgo28, HI⟩ := H.go hlt28
          obtain ⟨es28, ts28, si28, hes28, hez28, hrn28, hts28, hlen2, H⟩ := HI.open hgo28.2.2.2.2
          obtain ⟨L28, hL28⟩ : ∃ L : List Ob, L = ((g14, 114, es14.flatten ++ [str u15, .int .i32 n17, c20, .slice none 0 0, .map none] ++ ((List.replicate (n14.toNat - (i14 + 1)) [str [], .int .i32 0, .slice none 0 0, .slice none 0 0, .map none]).flatten ++ post14)) :: L14) := ⟨_, rfl⟩
          rw [← hL28] at H hpL28
          obtain ⟨P28, hP28⟩ : ∃ P : World → Prop, P = fun w => (∀ (j : Nat) (c : List Value) (y : T), es28[j]? = some c → ts28[j]? = some y → elQ true 7 10 dStopReplicaRequestTopicPartitionState ⟨w, fun k => k ≠ p⟩ c y) ∧ P26 w := ⟨_, rfl⟩
          rw [← hP28] at H
          replace H : St w0 G0 p pb si28 ((g28, 172, es28.flatten ++ [.int .i32 0, .int .i32 0, .bool false, .map none] ++ ((List.replicate (n28.toNat - (i28 + 1)) [.int .i32 0, .int .i32 0, .bool false, .map none]).flatten ++ post28)) :: L28) P28 w := H
          ((conv=>whnf);repeat(first|(refine mvT ?_;conv=>whnf)|(refine mvF ?_;conv=>whnf)|(refine cT (by rfl) ?_;conv=>whnf)|(refine cF (by rfl) ?_;conv=>whnf)))
          refine ⟨g28, 0, rfl, ⟨by omega, by omega⟩, ?_⟩
          ((conv=>whnf);repeat(first|(refine mvT ?_;conv=>whnf)|(refine mvF ?_;conv=>whnf)|(refine cT (by rfl) ?_;conv=>whnf)|(refine cF (by rfl) ?_;conv=>whnf)))
          refine Does.mono (dfStopReplicaRequestTopicPartitionState (pre := es28.flatten) (cur := [.int .i32 0, .int .i32 0, .bool false, .map none]) (post := ((List.replicate (n28.toNat - (i28 + 1)) [.int .i32 0, .int .i32 0, .bool false, .map none]).flatten ++ post28)) H.head (by first | (rw [hlen2]; simp; done) | (simp [hlen2]; done) | (simp [hlen2]; omega)) rfl) ?_
          rintro rd w2 ⟨hdf, hxd⟩
          replace H := H.put hdf hxd
          clear hdf hxd
          replace H : St w0 G0 p pb si28 ((g28, 172, es28.flatten ++ [.int .i32 0, .int .i32 (-1), .bool false, .map none] ++ ((List.replicate (n28.toNat - (i28 + 1)) [.int .i32 0, .int .i32 0, .bool false, .map none]).flatten ++ post28)) :: L28) P28 w2 := H
          ((conv=>whnf);repeat(first|(refine mvT ?_;conv=>whnf)|(refine mvF ?_;conv=>whnf)|(refine cT (by rfl) ?_;conv=>whnf)|(refine cF (by rfl) ?_;conv=>whnf)))
          have hup28 : tailBad 7 v fx dStopReplicaRequestTopicPartitionState si28 = true → (rdPart 9 v fx dStopReplicaRequest (l, false)).2.2 = true := by
            intro hb
            refine hup14 ?_
            rw [tail_yes (rdField8 (by decide) hr15) ⟨by decide, has_all hv⟩, tail_ver hr17 (by decide), tail_ver hr20 (by decide), tail_el ⟨by decide, hh⟩ hln28 hgo28.2.2.2.2 hrn28 hb]
          refine Does.mono H.int32 ?_
          rintro r w ⟨n29, s29, rfl, hn29, hr29, H⟩
          ((conv=>whnf);repeat(first|(refine mvT ?_;conv=>whnf)|(refine mvF ?_;conv=>whnf)|(refine cT (by rfl) ?_;conv=>whnf)|(refine cF (by rfl) ?_;conv=>whnf)))
          refine H.st1 (v := .int .i32 n29) 0 (rfl) (rfl) rfl (by first | omega | (simp [hlen2]; done) | (simp [hlen2]; omega)) rfl (Nat.lt_of_lt_of_le (Nat.lt_succ_self _) (Nat.le_of_ble_eq_true rfl)) ?_
          intro w H
          ((conv=>whnf);repeat(first|(refine mvT ?_;conv=>whnf)|(refine mvF ?_;conv=>whnf)|(refine cT (by rfl) ?_;conv=>whnf)|(refine cF (by rfl) ?_;conv=>whnf)))
          replace H : St w0 G0 p pb s29 ((g28, 172, es28.flatten ++ [.int .i32 n29, .int .i32 (-1), .bool false, .map none] ++ ((List.replicate (n28.toNat - (i28 + 1)) [.int .i32 0, .int .i32 0, .bool false, .map none]).flatten ++ post28)) :: L28) P28 w := H
          refine Does.mono H.int32 ?_
          rintro r w ⟨n31, s31, rfl, hn31, hr31, H⟩
          ((conv=>whnf);repeat(first|(refine mvT ?_;conv=>whnf)|(refine mvF ?_;conv=>whnf)|(refine cT (by rfl) ?_;conv=>whnf)|(refine cF (by rfl) ?_;conv=>whnf)))
          refine H.st1 (v := .int .i32 n31) 1 (rfl) (rfl) rfl (by first | omega | (simp [hlen2]; done) | (simp [hlen2]; omega)) rfl (Nat.lt_of_lt_of_le (Nat.lt_succ_self _) (Nat.le_of_ble_eq_true rfl)) ?_
          intro w H
          ((conv=>whnf);repeat(first|(refine mvT ?_;conv=>whnf)|(refine mvF ?_;conv=>whnf)|(refine cT (by rfl) ?_;conv=>whnf)|(refine cF (by rfl) ?_;conv=>whnf)))
          replace H : St w0 G0 p pb s31 ((g28, 172, es28.flatten ++ [.int .i32 n29, .int .i32 n31, .bool false, .map none] ++ ((List.replicate (n28.toNat - (i28 + 1)) [.int .i32 0, .int .i32 0, .bool false, .map none]).flatten ++ post28)) :: L28) P28 w := H
          refine Does.mono H.bool ?_
          rintro r w ⟨b33, s33, rfl, hr33, H⟩
          ((conv=>whnf);repeat(first|(refine mvT ?_;conv=>whnf)|(refine mvF ?_;conv=>whnf)|(refine cT (by rfl) ?_;conv=>whnf)|(refine cF (by rfl) ?_;conv=>whnf)))
          (refine mvB ?_;((conv=>whnf);repeat(first|(refine mvT ?_;conv=>whnf)|(refine mvF ?_;conv=>whnf)|(refine cT (by rfl) ?_;conv=>whnf)|(refine cF (by rfl) ?_;conv=>whnf))))
          refine H.st1 (v := .bool b33) 2 (rfl) (rfl) rfl (by first | omega | (simp [hlen2]; done) | (simp [hlen2]; omega)) rfl (Nat.lt_of_lt_of_le (Nat.lt_succ_self _) (Nat.le_of_ble_eq_true rfl)) ?_
          intro w H
          ((conv=>whnf);repeat(first|(refine mvT ?_;conv=>whnf)|(refine mvF ?_;conv=>whnf)|(refine cT (by rfl) ?_;conv=>whnf)|(refine cF (by rfl) ?_;conv=>whnf)))
          replace H : St w0 G0 p pb s33 ((g28, 172, es28.flatten ++ [.int .i32 n29, .int .i32 n31, .bool b33, .map none] ++ ((List.replicate (n28.toNat - (i28 + 1)) [.int .i32 0, .int .i32 0, .bool false, .map none]).flatten ++ post28)) :: L28) P28 w := H
          (refine mvB ?_;((conv=>whnf);repeat(first|(refine mvT ?_;conv=>whnf)|(refine mvF ?_;conv=>whnf)|(refine cT (by rfl) ?_;conv=>whnf)|(refine cF (by rfl) ?_;conv=>whnf))))
          refine VC.cutB (fun q : Value × List Tg × Rd => [(0, .pointer (some ⟨p, 0, none⟩)), (2, .bool false), (7, .pointer (some ⟨pb, 0, none⟩)), (8, .int .i16 v), (9, .bool fx), (10, .pointer (some ⟨p, 0, none⟩)), (18, .int .i32 n14), (17, .slice (some ⟨g14, 0, none⟩) n14.toNat cap14), (19, .int .i32 i14), (20, .pointer (some ⟨g14, 0 + (i14 : Int).toNat * 5, none⟩)), (21, .pointer (some ⟨g14, 0 + (i14 : Int).toNat * 5, none⟩)), (31, .int .i32 n28), (30, .slice (some ⟨g28, 0, none⟩) n28.toNat cap28), (32, .int .i32 i28), (33, .pointer (some ⟨g28, 0 + (i28 : Int).toNat * 4, none⟩)), (34, .pointer (some ⟨g28, 0 + (i28 : Int).toNat * 4, none⟩))]) (fun q w' => rdTagsF fx s33 = q.2 ∧ St w0 G0 p pb q.2.2 ((g28, 172, es28.flatten ++ [.int .i32 n29, .int .i32 n31, .bool b33, q.1] ++ ((List.replicate (n28.toNat - (i28 + 1)) [.int .i32 0, .int .i32 0, .bool false, .map none]).flatten ++ post28)) :: L28) (fun w => TGf p q.1 q.2.1 w ∧ P28 w) w') ?_ ?_
          · refine cI (by rfl) (fun hc=>?_) (fun hc=>?_)
            · ((conv=>whnf);repeat(first|(refine mvT ?_;conv=>whnf)|(refine mvF ?_;conv=>whnf)|(refine cT (by rfl) ?_;conv=>whnf)|(refine cF (by rfl) ?_;conv=>whnf)))
              refine Does.mono H.tags ?_
              rintro r w ⟨m, u, s', rfl, hone, hr, H⟩
              ((conv=>whnf);repeat(first|(refine mvT ?_;conv=>whnf)|(refine mvF ?_;conv=>whnf)|(refine cT (by rfl) ?_;conv=>whnf)|(refine cF (by rfl) ?_;conv=>whnf)))
              refine H.st1 (v := m) 3 (rfl) (hone) rfl (by first | omega | (simp [hlen2]; done) | (simp [hlen2]; omega)) rfl (Nat.lt_of_lt_of_le (Nat.lt_succ_self _) (Nat.le_of_ble_eq_true rfl)) ?_
              intro w H
              ((conv=>whnf);repeat(first|(refine mvT ?_;conv=>whnf)|(refine mvF ?_;conv=>whnf)|(refine cT (by rfl) ?_;conv=>whnf)|(refine cF (by rfl) ?_;conv=>whnf)))
              exact ⟨(m, u, s'), ⟨rfl, rfl, rfl, rfl, rfl, rfl, rfl, rfl, rfl, rfl, rfl, rfl, rfl, rfl, rfl, rfl, trivial⟩, by rw [rdTagsF, if_pos hc]; exact hr, H⟩
            · ((conv=>whnf);repeat(first|(refine mvT ?_;conv=>whnf)|(refine mvF ?_;conv=>whnf)|(refine cT (by rfl) ?_;conv=>whnf)|(refine cF (by rfl) ?_;conv=>whnf)))
              exact ⟨(.map none, [], s33), ⟨rfl, rfl, rfl, rfl, rfl, rfl, rfl, rfl, rfl, rfl, rfl, rfl, rfl, rfl, rfl, rfl, trivial⟩, by rw [rdTagsF, if_neg (by rw [hc]; decide)], H.add fun w' _ => TagsR.nil _ _⟩
          clear H
          rintro ⟨m35, u35, s35⟩ w ⟨htg, H⟩
          dsimp only at htg H
          ((conv=>whnf);repeat(first|(refine mvT ?_;conv=>whnf)|(refine mvF ?_;conv=>whnf)|(refine cT (by rfl) ?_;conv=>whnf)|(refine cF (by rfl) ?_;conv=>whnf)))
          obtain ⟨P36, hP36⟩ : ∃ P : World → Prop, P = fun w => TGf p m35 u35 w ∧ P28 w := ⟨_, rfl⟩
          replace H : St w0 G0 p pb s35 ((g28, 172, es28.flatten ++ [.int .i32 n29, .int .i32 n31, .bool b33, m35] ++ ((List.replicate (n28.toNat - (i28 + 1)) [.int .i32 0, .int .i32 0, .bool false, .map none]).flatten ++ post28)) :: L28) P36 w := by rw [hP36]; exact H
          have hpart : rdPart 7 v fx dStopReplicaRequestTopicPartitionState si28 = (.mk 0 [] false [numT n29, numT n31, numT (if b33 = true then 1 else 0)] u35, s35) := by
            unfold rdPart rdPartW
            rw [rdAll_yes (df := dfT 7) (rdField3.trans hr29) ⟨by decide, has_all hv⟩, rdAll_yes (df := dfT 7) (rdField3.trans hr31) ⟨by decide, has_all hv⟩, rdAll_yes (df := dfT 7) (rdField0.trans hr33) ⟨by decide, has_all hv⟩]
            simp only [rdAll]
            rw [htg]
          refine ⟨i28 + 1, ⟨rfl, rfl, ?_, rfl, rfl, rfl, rfl, rfl, rfl, rfl, rfl, rfl, rfl, rfl, trivial⟩, ⟨by omega, ListI.back hgo28 (LoopI.next hes28 hez28 hrn28 hts28 (cur := [.int .i32 n29, .int .i32 n31, .bool b33, m35]) (x := .mk 0 [] false [numT n29, numT n31, numT (if b33 = true then 1 else 0)] u35) (hpart) rfl (by rw [← hL28]; exact H) fun w hP => ?_)⟩, by omega⟩
          · show some (Value.int .i32 _) = _
            rw [IntKind.wrap_i32]
            simp only [Option.some.injEq, Value.int.injEq, true_and]
            omega
          · skip
            rw [hP36] at hP
            obtain ⟨hf36_, hP⟩ := hP
            rw [hP28] at hP
            exact ⟨QPt (QA1 (QF3 hn29) (QA1 (QF3 hn31) (QA1 (QF0 b33) (QA0)))) hf36_, hP⟩
        have hge28 : ¬ (i28 : Int) < n28 := of_decide_eq_false h9
        obtain ⟨l37, s37, hone37, hl37, hr37, H⟩ := H.done hge28 hln28 (nl := nlF (.mk 11 3 (-1) (-1) (-1) 0 10 dStopReplicaRequestTopicPartitionState) v) (sz := elZ true 7 10 dStopReplicaRequestTopicPartitionState) rfl hpL28 rfl
        ((conv=>whnf);repeat(first|(refine mvT ?_;conv=>whnf)|(refine mvF ?_;conv=>whnf)|(refine cT (by rfl) ?_;conv=>whnf)|(refine cF (by rfl) ?_;conv=>whnf)))
        obtain ⟨P38, hP38⟩ : ∃ P : World → Prop, P = fun w => ListR true (elZ true 7 10 dStopReplicaRequestTopicPartitionState) (elQ true 7 10 dStopReplicaRequestTopicPartitionState ⟨w, fun k => k ≠ p⟩) w (fun k => k ≠ p) a28 (.mk 0 [] (decide (n28 ≤ 0)) l37 []) ∧ P26 w := ⟨_, rfl⟩
        replace H : St w0 G0 p pb s37 ((g14, 114, es14.flatten ++ [str u15, .int .i32 n17, c20, .slice none 0 0, .map none] ++ ((List.replicate (n14.toNat - (i14 + 1)) [str [], .int .i32 0, .slice none 0 0, .slice none 0 0, .map none]).flatten ++ post14)) :: L14) P38 w := by rw [hP38]; exact H
        refine H.st1 (v := a28) 3 (cells_one hone37) (hone37) rfl (by first | omega | (simp [hlen1]; done) | (simp [hlen1]; omega)) rfl (Nat.lt_of_lt_of_le (Nat.lt_succ_self _) (Nat.le_of_ble_eq_true rfl)) ?_
        intro w H
        ((conv=>whnf);repeat(first|(refine mvT ?_;conv=>whnf)|(refine mvF ?_;conv=>whnf)|(refine cT (by rfl) ?_;conv=>whnf)|(refine cF (by rfl) ?_;conv=>whnf)))
        replace H : St w0 G0 p pb s37 ((g14, 114, es14.flatten ++ [str u15, .int .i32 n17, c20, a28, .map none] ++ ((List.replicate (n14.toNat - (i14 + 1)) [str [], .int .i32 0, .slice none 0 0, .slice none 0 0, .map none]).flatten ++ post14)) :: L14) P38 w := H
        exact ⟨(a28, decide (n28 ≤ 0), l37, s37), ⟨rfl, rfl, rfl, rfl, rfl, rfl, rfl, rfl, rfl, rfl, rfl, trivial⟩, hl37, by rw [if_pos hh]; exact ((rdField_list _ _ _ _ _ _ _ _ _ _ _).trans hr37), by rw [hP38] at H; exact H⟩
      · ((conv=>whnf);repeat(first|(refine mvT ?_;conv=>whnf)|(refine mvF ?_;conv=>whnf)|(refine cT (by rfl) ?_;conv=>whnf)|(refine cF (by rfl) ?_;conv=>whnf)))
        have hh : ¬ hasF (.mk 11 3 (-1) (-1) (-1) 0 10 dStopReplicaRequestTopicPartitionState) v = true := by have := of_decide_eq_false hcv; rw [hasF_iff]; omega
        exact ⟨(.slice none 0 0, true, [], s20), ⟨rfl, rfl, rfl, rfl, rfl, rfl, rfl, rfl, rfl, rfl, rfl, trivial⟩, fun _ => rfl, by rw [if_neg hh]; rfl, H.add fun w' _ => .inl ⟨rfl, rfl⟩⟩
    clear H
    rintro ⟨c27, nl27, l27, s27⟩ w ⟨hnl27, hr27, H⟩
    dsimp only at hnl27 hr27 H
    ((conv=>whnf);repeat(first|(refine mvT ?_;conv=>whnf)|(refine mvF ?_;conv=>whnf)|(refine cT (by rfl) ?_;conv=>whnf)|(refine cF (by rfl) ?_;conv=>whnf)))
    obtain ⟨P40, hP40⟩ : ∃ P : World → Prop, P = fun w => ListR true (elZ true 7 10 dStopReplicaRequestTopicPartitionState) (elQ true 7 10 dStopReplicaRequestTopicPartitionState ⟨w, fun k => k ≠ p⟩) w (fun k => k ≠ p) c27 (.mk 0 [] (nl27) l27 []) ∧ P26 w := ⟨_, rfl⟩
    replace H : St w0 G0 p pb s27 ((g14, 114, es14.flatten ++ [str u15, .int .i32 n17, c20, c27, .map none] ++ ((List.replicate (n14.toNat - (i14 + 1)) [str [], .int .i32 0, .slice none 0 0, .slice none 0 0, .map none]).flatten ++ post14)) :: L14) P40 w := by rw [hP40]; exact H
    (refine mvB ?_;((conv=>whnf);repeat(first|(refine mvT ?_;conv=>whnf)|(refine mvF ?_;conv=>whnf)|(refine cT (by rfl) ?_;conv=>whnf)|(refine cF (by rfl) ?_;conv=>whnf))))
    refine VC.cutB (fun q : Value × List Tg × Rd => [(0, .pointer (some ⟨p, 0, none⟩)), (2, .bool false), (7, .pointer (some ⟨pb, 0, none⟩)), (8, .int .i16 v), (9, .bool fx), (10, .pointer (some ⟨p, 0, none⟩)), (18, .int .i32 n14), (17, .slice (some ⟨g14, 0, none⟩) n14.toNat cap14), (19, .int .i32 i14), (20, .pointer (some ⟨g14, 0 + (i14 : Int).toNat * 5, none⟩)), (21, .pointer (some ⟨g14, 0 + (i14 : Int).toNat * 5, none⟩))]) (fun q w' => rdTagsF fx s27 = q.2 ∧ St w0 G0 p pb q.2.2 ((g14, 114, es14.flatten ++ [str u15, .int .i32 n17, c20, c27, q.1] ++ ((List.replicate (n14.toNat - (i14 + 1)) [str [], .int .i32 0, .slice none 0 0, .slice none 0 0, .map none]).flatten ++ post14)) :: L14) (fun w => TGf p q.1 q.2.1 w ∧ P40 w) w') ?_ ?_
    · refine cI (by rfl) (fun hc=>?_) (fun hc=>?_)
      · ((conv=>whnf);repeat(first|(refine mvT ?_;conv=>whnf)|(refine mvF ?_;conv=>whnf)|(refine cT (by rfl) ?_;conv=>whnf)|(refine cF (by rfl) ?_;conv=>whnf)))
        refine Does.mono H.tags ?_
        rintro r w ⟨m, u, s', rfl, hone, hr, H⟩
        ((conv=>whnf);repeat(first|(refine mvT ?_;conv=>whnf)|(refine mvF ?_;conv=>whnf)|(refine cT (by rfl) ?_;conv=>whnf)|(refine cF (by rfl) ?_;conv=>whnf)))
        refine H.st1 (v := m) 4 (rfl) (hone) rfl (by first | omega | (simp [hlen1]; done) | (simp [hlen1]; omega)) rfl (Nat.lt_of_lt_of_le (Nat.lt_succ_self _) (Nat.le_of_ble_eq_true rfl)) ?_
        intro w H
        ((conv=>whnf);repeat(first|(refine mvT ?_;conv=>whnf)|(refine mvF ?_;conv=>whnf)|(refine cT (by rfl) ?_;conv=>whnf)|(refine cF (by rfl) ?_;conv=>whnf)))
        exact ⟨(m, u, s'), ⟨rfl, rfl, rfl, rfl, rfl, rfl, rfl, rfl, rfl, rfl, rfl, trivial⟩, by rw [rdTagsF, if_pos hc]; exact hr, H⟩
      · ((conv=>whnf);repeat(first|(refine mvT ?_;conv=>whnf)|(refine mvF ?_;conv=>whnf)|(refine cT (by rfl) ?_;conv=>whnf)|(refine cF (by rfl) ?_;conv=>whnf)))
        exact ⟨(.map none, [], s27), ⟨rfl, rfl, rfl, rfl, rfl, rfl, rfl, rfl, rfl, rfl, rfl, trivial⟩, by rw [rdTagsF, if_neg (by rw [hc]; decide)], H.add fun w' _ => TagsR.nil _ _⟩
    clear H
    rintro ⟨m41, u41, s41⟩ w ⟨htg, H⟩
    dsimp only at htg H
    ((conv=>whnf);repeat(first|(refine mvT ?_;conv=>whnf)|(refine mvF ?_;conv=>whnf)|(refine cT (by rfl) ?_;conv=>whnf)|(refine cF (by rfl) ?_;conv=>whnf)))
    obtain ⟨P42, hP42⟩ : ∃ P : World → Prop, P = fun w => TGf p m41 u41 w ∧ P40 w := ⟨_, rfl⟩
    replace H : St w0 G0 p pb s41 ((g14, 114, es14.flatten ++ [str u15, .int .i32 n17, c20, c27, m41] ++ ((List.replicate (n14.toNat - (i14 + 1)) [str [], .int .i32 0, .slice none 0 0, .slice none 0 0, .map none]).flatten ++ post14)) :: L14) P42 w := by rw [hP42]; exact H
    have hpart : rdPart 8 v fx dStopReplicaRequestTopic si14 = (.mk 0 [] false [.mk 0 u15 false [] [], numT n17, .mk 0 [] nl20 l20 [], .mk 0 [] nl27 l27 []] u41, s41) := by
      unfold rdPart rdPartW
      rw [rdAll_yes (df := dfT 8) (rdField8 (by decide) hr15) ⟨by decide, has_all hv⟩, rdAll_ver hr17 (by decide), rdAll_ver hr20 (by decide), rdAll_ver hr27 (by decide)]
      simp only [rdAll]
      rw [htg]
    refine ⟨i14 + 1, ⟨rfl, rfl, ?_, rfl, rfl, rfl, rfl, rfl, rfl, trivial⟩, ⟨by omega, ListI.back hgo14 (LoopI.next hes14 hez14 hrn14 hts14 (cur := [str u15, .int .i32 n17, c20, c27, m41]) (x := .mk 0 [] false [.mk 0 u15 false [] [], numT n17, .mk 0 [] nl20 l20 [], .mk 0 [] nl27 l27 []] u41) (hpart) rfl (by rw [← hL14]; exact H) fun w hP => ?_)⟩, by omega⟩
    · show some (Value.int .i32 _) = _
      rw [IntKind.wrap_i32]
      simp only [Option.some.injEq, Value.int.injEq, true_and]
      omega
    · skip
      rw [hP42] at hP
      obtain ⟨hf42_, hP⟩ := hP
      rw [hP40] at hP
      obtain ⟨hf40_, hP⟩ := hP
      rw [hP26] at hP
      obtain ⟨hf26_, hP⟩ := hP
      rw [hP14] at hP
      exact ⟨QPt (QA1 (QF8 (by decide) u15) (QA1 (QF3 hn17) (QA1 (QF11 hnl20 hf26_) (QA1 (QF11 hnl27 hf40_) (QA0))))) hf42_, hP⟩
  have hge14 : ¬ (i14 : Int) < n14 := of_decide_eq_false h9
  obtain ⟨l43, s43, hone43, hl43, hr43, H⟩ := H.done hge14 hln14 (nl := nlF (.mk 11 0 (-1) (-1) (-1) 0 10 dStopReplicaRequestTopic) v) (sz := elZ true 8 10 dStopReplicaRequestTopic) rfl hpL14 rfl
  ((conv=>whnf);repeat(first|(refine mvT ?_;conv=>whnf)|(refine mvF ?_;conv=>whnf)|(refine cT (by rfl) ?_;conv=>whnf)|(refine cF (by rfl) ?_;conv=>whnf)))
  obtain ⟨P44, hP44⟩ : ∃ P : World → Prop, P = fun w => ListR true (elZ true 8 10 dStopReplicaRequestTopic) (elQ true 8 10 dStopReplicaRequestTopic ⟨w, fun k => k ≠ p⟩) w (fun k => k ≠ p) a14 (.mk 0 [] (decide (n14 ≤ 0)) l43 []) ∧ (fun _ => True) w := ⟨_, rfl⟩
  replace H : St w0 G0 p pb s43 ((p, ty, [] ++ [.int .i16 v, .int .i32 n1, .int .i32 n3, .bool n5, .int .i64 n8, .bool n11, .slice none 0 0, .map none] ++ []) :: []) P44 w := by rw [hP44]; exact H
  refine H.st1 (v := a14) 6 (cells_one hone43) (hone43) rfl (by simp) rfl (Nat.lt_of_lt_of_le (Nat.lt_succ_self _) (Nat.le_of_ble_eq_true rfl)) ?_
  intro w H
  ((conv=>whnf);repeat(first|(refine mvT ?_;conv=>whnf)|(refine mvF ?_;conv=>whnf)|(refine cT (by rfl) ?_;conv=>whnf)|(refine cF (by rfl) ?_;conv=>whnf)))
  replace H : St w0 G0 p pb s43 ((p, ty, [] ++ [.int .i16 v, .int .i32 n1, .int .i32 n3, .bool n5, .int .i64 n8, .bool n11, a14, .map none] ++ []) :: []) P44 w := H
  (refine mvB ?_;((conv=>whnf);repeat(first|(refine mvT ?_;conv=>whnf)|(refine mvF ?_;conv=>whnf)|(refine cT (by rfl) ?_;conv=>whnf)|(refine cF (by rfl) ?_;conv=>whnf))))
  refine VC.cutE (fun q : Value × List Tg × Rd => [(0, .pointer (some ⟨p, 0, none⟩)), (2, .bool false), (7, .pointer (some ⟨pb, 0, none⟩)), (8, .int .i16 v), (9, .bool fx), (10, .pointer (some ⟨p, 0, none⟩))]) (fun q w' => rdTagsF fx s43 = q.2 ∧ St w0 G0 p pb q.2.2 ((p, ty, [] ++ [.int .i16 v, .int .i32 n1, .int .i32 n3, .bool n5, .int .i64 n8, .bool n11, a14, q.1] ++ []) :: []) (fun w => TGf p q.1 q.2.1 w ∧ P44 w) w') ?_ ?_
  · refine cI (by rfl) (fun hc=>?_) (fun hc=>?_)
    · ((conv=>whnf);repeat(first|(refine mvT ?_;conv=>whnf)|(refine mvF ?_;conv=>whnf)|(refine cT (by rfl) ?_;conv=>whnf)|(refine cF (by rfl) ?_;conv=>whnf)))
      refine Does.mono H.tags ?_
      rintro r w ⟨m, u, s', rfl, hone, hr, H⟩
      ((conv=>whnf);repeat(first|(refine mvT ?_;conv=>whnf)|(refine mvF ?_;conv=>whnf)|(refine cT (by rfl) ?_;conv=>whnf)|(refine cF (by rfl) ?_;conv=>whnf)))
      refine H.st1 (v := m) 7 (rfl) (hone) rfl (by simp) rfl (Nat.lt_of_lt_of_le (Nat.lt_succ_self _) (Nat.le_of_ble_eq_true rfl)) ?_
      intro w H
      ((conv=>whnf);repeat(first|(refine mvT ?_;conv=>whnf)|(refine mvF ?_;conv=>whnf)|(refine cT (by rfl) ?_;conv=>whnf)|(refine cF (by rfl) ?_;conv=>whnf)))
      exact ⟨(m, u, s'), ⟨rfl, rfl, rfl, rfl, rfl, rfl, trivial⟩, by rw [rdTagsF, if_pos hc]; exact hr, H⟩
    · ((conv=>whnf);repeat(first|(refine mvT ?_;conv=>whnf)|(refine mvF ?_;conv=>whnf)|(refine cT (by rfl) ?_;conv=>whnf)|(refine cF (by rfl) ?_;conv=>whnf)))
      exact ⟨(.map none, [], s43), ⟨rfl, rfl, rfl, rfl, rfl, rfl, trivial⟩, by rw [rdTagsF, if_neg (by rw [hc]; decide)], H.add fun w' _ => TagsR.nil _ _⟩
  clear H
  rintro ⟨m46, u46, s46⟩ w ⟨htg, H⟩
  dsimp only at htg H
  ((conv=>whnf);repeat(first|(refine mvT ?_;conv=>whnf)|(refine mvF ?_;conv=>whnf)|(refine cT (by rfl) ?_;conv=>whnf)|(refine cF (by rfl) ?_;conv=>whnf)))
  obtain ⟨P47, hP47⟩ : ∃ P : World → Prop, P = fun w => TGf p m46 u46 w ∧ P44 w := ⟨_, rfl⟩
  replace H : St w0 G0 p pb s46 ((p, ty, [] ++ [.int .i16 v, .int .i32 n1, .int .i32 n3, .bool n5, .int .i64 n8, .bool n11, a14, m46] ++ []) :: []) P47 w := by rw [hP47]; exact H
  have hpart : rdPart 9 v fx dStopReplicaRequest (l, false) = (.mk 0 [] false [numT n1, numT n3, numT (if n5 = true then 1 else 0), numT n8, numT (if n11 = true then 1 else 0), .mk 0 [] (decide (n14 ≤ 0)) l43 []] u46, s46) := by
    unfold rdPart rdPartW
    rw [rdAll_yes (df := dfT 9) (rdField3.trans hr1) ⟨by decide, has_all hv⟩, rdAll_yes (df := dfT 9) (rdField3.trans hr3) ⟨by decide, has_all hv⟩, rdAll_ver hr5 (by decide), rdAll_ver hr8 (by decide), rdAll_ver hr11 (by decide), rdAll_yes (df := dfT 9) ((rdField_list _ _ _ _ _ _ _ _ _ _ _).trans hr43) ⟨by decide, has_all hv⟩]
    simp only [rdAll]
    rw [htg]
  refine Does.mono (H.done hL hp1) ?_
  rintro r w ⟨rfl, H⟩
  ((conv=>whnf);repeat(first|(refine mvT ?_;conv=>whnf)|(refine mvF ?_;conv=>whnf)|(refine cT (by rfl) ?_;conv=>whnf)|(refine cF (by rfl) ?_;conv=>whnf)))
  refine RdPost.end hpart H fun hP => ?_
  rw [hP47] at hP
  obtain ⟨hf47_, hP⟩ := hP
  rw [hP44] at hP
  obtain ⟨hf44_, hP⟩ := hP
  exact QPt (QA1 (QF3 hn1) (QA1 (QF3 hn3) (QA1 (QF0 n5) (QA1 (QF4 hn8) (QA1 (QF0 n11) (QA1 (QF11 hl43 hf44_) (QA0))))))) hf47_
end Go.Proofs.YtmmieooipcfbiaaGreatDoor.K
