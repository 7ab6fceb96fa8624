/- Reading of BeginQuorumEpochRequest. -/
import Derived.Test.YtmmieooipcfbiaaGreatDoorE5
set_option linter.unusedVariables false
set_option linter.unusedSimpArgs false
namespace Go.Proofs.YtmmieooipcfbiaaGreatDoor.K
open Go
set_option maxHeartbeats 4000000
set_option maxRecDepth 100000

abbrev dBeginQuorumEpochRequestTopicPartition : List Fd := [.mk 3 0 (-1) (-1) (-1) 0 0 [], .mk 7 1 (-1) (-1) (-1) 0 0 [], .mk 3 0 (-1) (-1) (-1) 0 0 [], .mk 3 0 (-1) (-1) (-1) 0 0 []]
abbrev dBeginQuorumEpochRequestTopic : List Fd := [.mk 8 0 (-1) (-1) (-1) 0 0 [], .mk 11 0 (-1) (-1) (-1) 0 10 dBeginQuorumEpochRequestTopicPartition]
abbrev dBeginQuorumEpochRequestLeaderEndpoint : List Fd := [.mk 8 0 (-1) (-1) (-1) 0 0 [], .mk 8 0 (-1) (-1) (-1) 0 0 [], .mk 5 0 (-1) (-1) (-1) 0 0 []]
abbrev dBeginQuorumEpochRequest : List Fd := [.mk 8 0 (-1) 0 (-1) 0 0 [], .mk 3 1 (-1) (-1) (-1) (-1) 0 [], .mk 11 0 (-1) (-1) (-1) 0 10 dBeginQuorumEpochRequestTopic, .mk 11 1 (-1) (-1) (-1) 0 10 dBeginQuorumEpochRequestLeaderEndpoint]
theorem sBeginQuorumEpochRequestTopicPartition (w : World) : Does X.P 92 #[] w fun r w' => FdsR w' (fun k => w.heap.size ≤ k) r dBeginQuorumEpochRequestTopicPartition ∧ Ext nob w w' := by
  have hx0 : Ext nob w w := Ext.refl _ _
  refine Does.go (X := X) (l := []) Tryz.func92 rfl (by kernel_rfl) (by kernel_rfl) _ rfl ?_
  ((conv=>whnf);repeat(first|(refine mvT ?_;conv=>whnf)|(refine mvF ?_;conv=>whnf)|(refine cT (by rfl) ?_;conv=>whnf)|(refine cF (by rfl) ?_;conv=>whnf)))
  have hxs := hx0
  intro b wb hb ho hx
  have hx0 := hx0.e0 hx
  ((conv=>whnf);repeat(first|(refine mvT ?_;conv=>whnf)|(refine mvF ?_;conv=>whnf)|(refine cT (by rfl) ?_;conv=>whnf)|(refine cF (by rfl) ?_;conv=>whnf)))
  refine ⟨?_, hx0⟩
  exact FdL.fds (cs := [[.int .i64 3, .int .i64 0, .int .i64 (-1), .int .i64 (-1), .int .i64 (-1), .int .i64 0, .int .i64 0, .slice none 0 0], [.int .i64 7, .int .i64 1, .int .i64 (-1), .int .i64 (-1), .int .i64 (-1), .int .i64 0, .int .i64 0, .slice none 0 0], [.int .i64 3, .int .i64 0, .int .i64 (-1), .int .i64 (-1), .int .i64 (-1), .int .i64 0, .int .i64 0, .slice none 0 0], [.int .i64 3, .int .i64 0, .int .i64 (-1), .int .i64 (-1), .int .i64 (-1), .int .i64 0, .int .i64 0, .slice none 0 0]])
    ⟨fdLeaf _ _ _ _ _ _ _ _ _, fdLeaf _ _ _ _ _ _ _ _ _, fdLeaf _ _ _ _ _ _ _ _ _, fdLeaf _ _ _ _ _ _ _ _ _, trivial⟩ ho rfl (by decide) (by have := hxs.size; omega)
theorem sBeginQuorumEpochRequestTopic (w : World) : Does X.P 52 #[] w fun r w' => FdsR w' (fun k => w.heap.size ≤ k) r dBeginQuorumEpochRequestTopic ∧ Ext nob w w' := by
  have hx0 : Ext nob w w := Ext.refl _ _
  refine Does.go (X := X) (l := []) Tryz.func52 rfl (by kernel_rfl) (by kernel_rfl) _ rfl ?_
  ((conv=>whnf);repeat(first|(refine mvT ?_;conv=>whnf)|(refine mvF ?_;conv=>whnf)|(refine cT (by rfl) ?_;conv=>whnf)|(refine cF (by rfl) ?_;conv=>whnf)))
  refine Does.mono (sBeginQuorumEpochRequestTopicPartition w) ?_
  rintro v1 wv1 ⟨hv1, hc⟩
  have hv1 := hv1.mono (F' := fun k => w.heap.size ≤ k) fun k _ h => Nat.le_trans hx0.size h
  obtain ⟨lv1, gv1, _⟩ := id hv1
  obtain ⟨av1, kv1, rfl, _⟩ := gv1.view
  ((conv=>whnf);repeat(first|(refine mvT ?_;conv=>whnf)|(refine mvF ?_;conv=>whnf)|(refine cT (by rfl) ?_;conv=>whnf)|(refine cF (by rfl) ?_;conv=>whnf)))
  have hx0 := hx0.e0 hc
  have hxs := hx0
  intro b wb hb ho hx
  have hx0 := hx0.e0 hx
  ((conv=>whnf);repeat(first|(refine mvT ?_;conv=>whnf)|(refine mvF ?_;conv=>whnf)|(refine cT (by rfl) ?_;conv=>whnf)|(refine cF (by rfl) ?_;conv=>whnf)))
  refine ⟨?_, hx0⟩
  exact FdL.fds (cs := [[.int .i64 8, .int .i64 0, .int .i64 (-1), .int .i64 (-1), .int .i64 (-1), .int .i64 0, .int .i64 0, .slice none 0 0], [.int .i64 11, .int .i64 0, .int .i64 (-1), .int .i64 (-1), .int .i64 (-1), .int .i64 0, .int .i64 10, .slice av1 lv1.length kv1]])
    ⟨fdLeaf _ _ _ _ _ _ _ _ _, FdC.of (hv1.e0 hx) _ _ _ _ _ _ _, trivial⟩ ho rfl (by decide) (by have := hxs.size; omega)
theorem sBeginQuorumEpochRequestLeaderEndpoint (w : World) : Does X.P 53 #[] w fun r w' => FdsR w' (fun k => w.heap.size ≤ k) r dBeginQuorumEpochRequestLeaderEndpoint ∧ Ext nob w w' := by
  have hx0 : Ext nob w w := Ext.refl _ _
  refine Does.go (X := X) (l := []) Tryz.func53 rfl (by kernel_rfl) (by kernel_rfl) _ rfl ?_
  ((conv=>whnf);repeat(first|(refine mvT ?_;conv=>whnf)|(refine mvF ?_;conv=>whnf)|(refine cT (by rfl) ?_;conv=>whnf)|(refine cF (by rfl) ?_;conv=>whnf)))
  have hxs := hx0
  intro b wb hb ho hx
  have hx0 := hx0.e0 hx
  ((conv=>whnf);repeat(first|(refine mvT ?_;conv=>whnf)|(refine mvF ?_;conv=>whnf)|(refine cT (by rfl) ?_;conv=>whnf)|(refine cF (by rfl) ?_;conv=>whnf)))
  refine ⟨?_, hx0⟩
  exact FdL.fds (cs := [[.int .i64 8, .int .i64 0, .int .i64 (-1), .int .i64 (-1), .int .i64 (-1), .int .i64 0, .int .i64 0, .slice none 0 0], [.int .i64 8, .int .i64 0, .int .i64 (-1), .int .i64 (-1), .int .i64 (-1), .int .i64 0, .int .i64 0, .slice none 0 0], [.int .i64 5, .int .i64 0, .int .i64 (-1), .int .i64 (-1), .int .i64 (-1), .int .i64 0, .int .i64 0, .slice none 0 0]])
    ⟨fdLeaf _ _ _ _ _ _ _ _ _, fdLeaf _ _ _ _ _ _ _ _ _, fdLeaf _ _ _ _ _ _ _ _ _, trivial⟩ ho rfl (by decide) (by have := hxs.size; omega)
theorem sBeginQuorumEpochRequest (w : World) : Does X.P 21 #[] w fun r w' => Msg w' (fun k => w.heap.size ≤ k) r dBeginQuorumEpochRequest 1 ∧ Ext nob w w' := by
  have hx0 : Ext nob w w := Ext.refl _ _
  refine Does.go (X := X) (l := []) Tryz.func21 rfl (by kernel_rfl) (by kernel_rfl) _ rfl ?_
  ((conv=>whnf);repeat(first|(refine mvT ?_;conv=>whnf)|(refine mvF ?_;conv=>whnf)|(refine cT (by rfl) ?_;conv=>whnf)|(refine cF (by rfl) ?_;conv=>whnf)))
  intro b w1 hb ho hx
  have hx0 := hx0.e0 hx
  have ho := ho
  ((conv=>whnf);repeat(first|(refine mvT ?_;conv=>whnf)|(refine mvF ?_;conv=>whnf)|(refine cT (by rfl) ?_;conv=>whnf)|(refine cF (by rfl) ?_;conv=>whnf)))
  refine Does.mono (sBeginQuorumEpochRequestTopic w1) ?_
  rintro v2 wv2 ⟨hv2, hc⟩
  have hv2 := hv2.mono (F' := fun k => w.heap.size ≤ k ∧ b < k) fun k _ h => ⟨Nat.le_trans hx0.size h, Nat.lt_of_lt_of_le ho.lt h⟩
  obtain ⟨lv2, gv2, _⟩ := id hv2
  obtain ⟨av2, kv2, rfl, _⟩ := gv2.view
  ((conv=>whnf);repeat(first|(refine mvT ?_;conv=>whnf)|(refine mvF ?_;conv=>whnf)|(refine cT (by rfl) ?_;conv=>whnf)|(refine cF (by rfl) ?_;conv=>whnf)))
  have hx0 := hx0.e0 hc
  have ho := ho.e0 hc
  refine Does.mono (sBeginQuorumEpochRequestLeaderEndpoint wv2) ?_
  rintro v3 wv3 ⟨hv3, hc⟩
  have hv3 := hv3.mono (F' := fun k => w.heap.size ≤ k ∧ b < k) fun k _ h => ⟨Nat.le_trans hx0.size h, Nat.lt_of_lt_of_le ho.lt h⟩
  obtain ⟨lv3, gv3, _⟩ := id hv3
  obtain ⟨av3, kv3, rfl, _⟩ := gv3.view
  ((conv=>whnf);repeat(first|(refine mvT ?_;conv=>whnf)|(refine mvF ?_;conv=>whnf)|(refine cT (by rfl) ?_;conv=>whnf)|(refine cF (by rfl) ?_;conv=>whnf)))
  have hv2 := hv2.e0 hc
  have hx0 := hx0.e0 hc
  have ho := ho.e0 hc
  have hxs := hx0
  intro b2 w2 hb2 ho2 hx2
  ((conv=>whnf);repeat(first|(refine mvT ?_;conv=>whnf)|(refine mvF ?_;conv=>whnf)|(refine cT (by rfl) ?_;conv=>whnf)|(refine cF (by rfl) ?_;conv=>whnf)))
  have hx0 := hx0.e0 hx2
  refine ⟨_, _, ho.e0 hx2, rfl, rfl, rfl, ?_⟩
  intro w3 ho3 hx3
  have hx03 := hx0.st hx3 hb
  ((conv=>whnf);repeat(first|(refine mvT ?_;conv=>whnf)|(refine mvF ?_;conv=>whnf)|(refine cT (by rfl) ?_;conv=>whnf)|(refine cF (by rfl) ?_;conv=>whnf)))
  refine ⟨_, rfl, ho3.cells, ?_⟩
  refine ⟨⟨_, rfl, ?_⟩, hx03⟩
  have ho2 := ho2.ext hx3 (by have := ho.lt; omega)
  have hs := hx0.size
  have hs2 : w.heap.size ≤ b2 := Nat.le_trans hxs.size hb2
  exact FdL.fds (cs := [[.int .i64 8, .int .i64 0, .int .i64 (-1), .int .i64 0, .int .i64 (-1), .int .i64 0, .int .i64 0, .slice none 0 0], [.int .i64 3, .int .i64 1, .int .i64 (-1), .int .i64 (-1), .int .i64 (-1), .int .i64 (-1), .int .i64 0, .slice none 0 0], [.int .i64 11, .int .i64 0, .int .i64 (-1), .int .i64 (-1), .int .i64 (-1), .int .i64 0, .int .i64 10, .slice av2 lv2.length kv2], [.int .i64 11, .int .i64 1, .int .i64 (-1), .int .i64 (-1), .int .i64 (-1), .int .i64 0, .int .i64 10, .slice av3 lv3.length kv3]])
    ⟨fdLeaf _ _ _ _ _ _ _ _ _, fdLeaf _ _ _ _ _ _ _ _ _, FdC.of (FdsR.mono (FdsR.ext (FdsR.e0 hv2 hx2) hx3 fun k _ h1 h2 => by omega) fun k _ h => h.1) _ _ _ _ _ _ _, FdC.of (FdsR.mono (FdsR.ext (FdsR.e0 hv3 hx2) hx3 fun k _ h1 h2 => by omega) fun k _ h => h.1) _ _ _ _ _ _ _, trivial⟩ ho2 rfl (by decide) (by omega)
theorem dfBeginQuorumEpochRequestTopicPartition {w : World} {q o : Nat} {T : TypeId} {pre cur post : List Value} (ho : Own w q T (pre ++ cur ++ post)) (hp : pre.length = o) (hl : cur.length = 20) :
    Does X.P 134 #[.pointer (some ⟨q, o, none⟩)] w fun r w' => Own w' q T (pre ++ cur ++ post) ∧ Ext (fun k => k = q) w w' := by
  have hx : Ext (fun k => k = q) w w := Ext.refl _ _
  refine Does.go (X := X) (l := [_]) Tryz.func134 rfl (by kernel_rfl) (by kernel_rfl) _ rfl ?_
  ((conv=>whnf);repeat(first|(refine mvT ?_;conv=>whnf)|(refine mvF ?_;conv=>whnf)|(refine cT (by rfl) ?_;conv=>whnf)|(refine cF (by rfl) ?_;conv=>whnf)))
  exact ⟨ho, hx⟩
theorem dfBeginQuorumEpochRequestTopic {w : World} {q o : Nat} {T : TypeId} {pre cur post : List Value} (ho : Own w q T (pre ++ cur ++ post)) (hp : pre.length = o) (hl : cur.length = 3) :
    Does X.P 133 #[.pointer (some ⟨q, o, none⟩)] w fun r w' => Own w' q T (pre ++ cur ++ post) ∧ Ext (fun k => k = q) w w' := by
  have hx : Ext (fun k => k = q) w w := Ext.refl _ _
  refine Does.go (X := X) (l := [_]) Tryz.func133 rfl (by kernel_rfl) (by kernel_rfl) _ rfl ?_
  ((conv=>whnf);repeat(first|(refine mvT ?_;conv=>whnf)|(refine mvF ?_;conv=>whnf)|(refine cT (by rfl) ?_;conv=>whnf)|(refine cF (by rfl) ?_;conv=>whnf)))
  exact ⟨ho, hx⟩
theorem dfBeginQuorumEpochRequestLeaderEndpoint {w : World} {q o : Nat} {T : TypeId} {pre cur post : List Value} (ho : Own w q T (pre ++ cur ++ post)) (hp : pre.length = o) (hl : cur.length = 4) :
    Does X.P 136 #[.pointer (some ⟨q, o, none⟩)] w fun r w' => Own w' q T (pre ++ cur ++ post) ∧ Ext (fun k => k = q) w w' := by
  have hx : Ext (fun k => k = q) w w := Ext.refl _ _
  refine Does.go (X := X) (l := [_]) Tryz.func136 rfl (by kernel_rfl) (by kernel_rfl) _ rfl ?_
  ((conv=>whnf);repeat(first|(refine mvT ?_;conv=>whnf)|(refine mvF ?_;conv=>whnf)|(refine cT (by rfl) ?_;conv=>whnf)|(refine cF (by rfl) ?_;conv=>whnf)))
  exact ⟨ho, hx⟩
theorem dfBeginQuorumEpochRequest {w : World} {q o : Nat} {T : TypeId} {pre cur post : List Value} (ho : Own w q T (pre ++ cur ++ post)) (hp : pre.length = o) (hl : cur.length = 6) :
    Does X.P 91 #[.pointer (some ⟨q, o, none⟩)] w fun r w' => Own w' q T (pre ++ (cur.set 2 (.int .i32 (-1))) ++ post) ∧ Ext (fun k => k = q) w w' := by
  have hx : Ext (fun k => k = q) w w := Ext.refl _ _
  refine Does.go (X := X) (l := [_]) Tryz.func91 rfl (by kernel_rfl) (by kernel_rfl) _ rfl ?_
  ((conv=>whnf);repeat(first|(refine mvT ?_;conv=>whnf)|(refine mvF ?_;conv=>whnf)|(refine cT (by rfl) ?_;conv=>whnf)|(refine cF (by rfl) ?_;conv=>whnf)))
  refine stm ho 2 rfl rfl hp (by omega) rfl (by first | omega | (simp only [List.length_set]; omega)) ?_
  intro w0 ho hxd
  have hx := hx.trans hxd fun _ _ h => h
  ((conv=>whnf);repeat(first|(refine mvT ?_;conv=>whnf)|(refine mvF ?_;conv=>whnf)|(refine cT (by rfl) ?_;conv=>whnf)|(refine cF (by rfl) ?_;conv=>whnf)))
  exact ⟨ho, hx⟩
theorem readBeginQuorumEpochRequest {w0 : World} {F : Nat → Prop} {p : Nat} {ty : TypeId} {v : Int} {x ev : Value} {l : List UInt8} (hL : Laid w0 ev) (hp : Own w0 p ty [.int .i16 v, .pointer none, .int .i32 (-1), .slice none 0 0, .slice none 0 0, .map none]) (hx : Bytes w0 F x l) (hF : ∀ k, F k → k ≠ p) (hv : 0 ≤ v) (hp1 : p ≠ errG) :
    Does X.P 93 #[.pointer (some ⟨p, 0, none⟩), x, .bool false] w0 fun r w' => RdPost w0 p ty v (decide (v ≥ 1)) true dBeginQuorumEpochRequest ev l r w' := by
  have hpl := hp.lt
  obtain ⟨fx, hfx⟩ : ∃ fx, fx = decide (v ≥ 1) := ⟨_, rfl⟩
  rw [← hfx]
  obtain ⟨G0, hG0, hx⟩ : ∃ G0 : Nat → Prop, (∀ k, G0 k → k < w0.heap.size ∧ k ≠ p) ∧ Bytes w0 G0 x l := ⟨fun k => F k ∧ k < w0.heap.size, fun k h => ⟨h.2, hF k h.1⟩, Sl.mono hx fun k hk h => ⟨h, hk⟩⟩
  obtain ⟨a0, c0, rfl, _⟩ := hx.view
  refine Does.go (X := X) (l := [_, _, _]) Tryz.func93 rfl (by kernel_rfl) (by kernel_rfl) _ rfl ?_
  ((conv=>whnf);repeat(first|(refine mvT ?_;conv=>whnf)|(refine mvF ?_;conv=>whnf)|(refine cT (by rfl) ?_;conv=>whnf)|(refine cF (by rfl) ?_;conv=>whnf)))
  refine Does.mono (dfBeginQuorumEpochRequest (pre := []) (cur := [.int .i16 v, .pointer none, .int .i32 (-1), .slice none 0 0, .slice none 0 0, .map none]) (post := []) (by simpa using hp) rfl rfl) ?_
  rintro rd wd ⟨hpd, hxd⟩
  ((conv=>whnf);repeat(first|(refine mvT ?_;conv=>whnf)|(refine mvF ?_;conv=>whnf)|(refine cT (by rfl) ?_;conv=>whnf)|(refine cF (by rfl) ?_;conv=>whnf)))
  intro pb w1 hpb hb hx1
  ((conv=>whnf);repeat(first|(refine mvT ?_;conv=>whnf)|(refine mvF ?_;conv=>whnf)|(refine cT (by rfl) ?_;conv=>whnf)|(refine cF (by rfl) ?_;conv=>whnf)))
  refine st_all [.slice a0 l.length c0, .bool false] hb rfl rfl rfl ?_
  intro w hb hx2
  ((conv=>whnf);repeat(first|(refine mvT ?_;conv=>whnf)|(refine mvF ?_;conv=>whnf)|(refine cT (by rfl) ?_;conv=>whnf)|(refine cF (by rfl) ?_;conv=>whnf)))
  have hsd := hxd.size
  have hwp : w0.heap.size ≤ pb := by omega
  have he1 : Ext nob wd w := hx1.trans hx2 fun k hk h => by omega
  have hpw : Own w p ty [.int .i16 v, .pointer none, .int .i32 (-1), .slice none 0 0, .slice none 0 0, .map none] := by have := hpd.e0 he1; simpa using this
  have he := hxd.tr0 he1
  have H := St.init hpw hb (hx.ext he fun k _ h => (hG0 k h).2) hG0 he hpl hwp
  clear hpd hxd hx1 hx2 hb hpw he1 hp
  refine ldS (H.cell (o := 0) rfl (k := 0) rfl) ?_;((conv=>whnf);repeat(first|(refine mvT ?_;conv=>whnf)|(refine mvF ?_;conv=>whnf)|(refine cT (by rfl) ?_;conv=>whnf)|(refine cF (by rfl) ?_;conv=>whnf)))
  rw [← hfx]
  (refine mvB ?_;((conv=>whnf);repeat(first|(refine mvT ?_;conv=>whnf)|(refine mvF ?_;conv=>whnf)|(refine cT (by rfl) ?_;conv=>whnf)|(refine cF (by rfl) ?_;conv=>whnf))))
  have hup0 : tailBad 9 v fx dBeginQuorumEpochRequest (l, false) = true → (rdPart 9 v fx dBeginQuorumEpochRequest (l, false)).2.2 = true := id
  (refine mvB ?_;((conv=>whnf);repeat(first|(refine mvT ?_;conv=>whnf)|(refine mvF ?_;conv=>whnf)|(refine cT (by rfl) ?_;conv=>whnf)|(refine cF (by rfl) ?_;conv=>whnf))))
  refine VC.cutE (fun q : Value × Bool × List UInt8 × Rd => [(11, q.1), (0, .pointer (some ⟨p, 0, none⟩)), (2, .bool false), (7, .pointer (some ⟨pb, 0, none⟩)), (8, .int .i16 v), (9, .bool fx), (10, .pointer (some ⟨p, 0, none⟩))]) (fun q w' => q.1.oneCell' = true ∧ (q.2.1 = true → q.2.2.1 = []) ∧ rdNt fx (l, false) = (.mk 0 q.2.2.1 q.2.1 [] [], q.2.2.2) ∧ St w0 G0 p pb q.2.2.2 ((p, ty, [] ++ [.int .i16 v, .pointer none, .int .i32 (-1), .slice none 0 0, .slice none 0 0, .map none] ++ []) :: []) (fun w => NTf p q.1 (.mk 0 q.2.2.1 q.2.1 [] []) w ∧ (fun _ => True) w) w') ?_ ?_
  · refine cI (by rfl) (fun hc=>?_) (fun hc=>?_)
    · ((conv=>whnf);repeat(first|(refine mvT ?_;conv=>whnf)|(refine mvF ?_;conv=>whnf)|(refine cT (by rfl) ?_;conv=>whnf)|(refine cF (by rfl) ?_;conv=>whnf)))
      refine Does.mono H.ntc ?_
      rintro r w ⟨c, nl, u, s', rfl, hone, hnl, hr, H⟩
      ((conv=>whnf);repeat(first|(refine mvT ?_;conv=>whnf)|(refine mvF ?_;conv=>whnf)|(refine cT (by rfl) ?_;conv=>whnf)|(refine cF (by rfl) ?_;conv=>whnf)))
      exact ⟨(r, nl, u, s'), ⟨rfl, rfl, rfl, rfl, rfl, rfl, rfl, trivial⟩, hone, hnl, by rw [hc]; exact hr, H⟩
    · ((conv=>whnf);repeat(first|(refine mvT ?_;conv=>whnf)|(refine mvF ?_;conv=>whnf)|(refine cT (by rfl) ?_;conv=>whnf)|(refine cF (by rfl) ?_;conv=>whnf)))
      refine Does.mono H.ntp ?_
      rintro r w ⟨c, nl, u, s', rfl, hone, hnl, hr, H⟩
      ((conv=>whnf);repeat(first|(refine mvT ?_;conv=>whnf)|(refine mvF ?_;conv=>whnf)|(refine cT (by rfl) ?_;conv=>whnf)|(refine cF (by rfl) ?_;conv=>whnf)))
      exact ⟨(r, nl, u, s'), ⟨rfl, rfl, rfl, rfl, rfl, rfl, rfl, trivial⟩, hone, hnl, by rw [hc]; exact hr, H⟩
  clear H
  rintro ⟨c1, nl1, u1, s1⟩ w ⟨hone1, hnl1, hr1, H⟩
  dsimp only at hone1 hnl1 hr1 H
  ((conv=>whnf);repeat(first|(refine mvT ?_;conv=>whnf)|(refine mvF ?_;conv=>whnf)|(refine cT (by rfl) ?_;conv=>whnf)|(refine cF (by rfl) ?_;conv=>whnf)))
  obtain ⟨P2, hP2⟩ : ∃ P : World → Prop, P = fun w => NTf p c1 (.mk 0 u1 nl1 [] []) w ∧ (fun _ => True) w := ⟨_, rfl⟩
  replace H : St w0 G0 p pb s1 ((p, ty, [] ++ [.int .i16 v, .pointer none, .int .i32 (-1), .slice none 0 0, .slice none 0 0, .map none] ++ []) :: []) P2 w := by rw [hP2]; exact H
  refine H.st1 (v := c1) 1 (cells_one hone1) (hone1) rfl (by simp) rfl (Nat.lt_of_lt_of_le (Nat.lt_succ_self _) (Nat.le_of_ble_eq_true rfl)) ?_
  intro w H
  ((conv=>whnf);repeat(first|(refine mvT ?_;conv=>whnf)|(refine mvF ?_;conv=>whnf)|(refine cT (by rfl) ?_;conv=>whnf)|(refine cF (by rfl) ?_;conv=>whnf)))
  replace H : St w0 G0 p pb s1 ((p, ty, [] ++ [.int .i16 v, c1, .int .i32 (-1), .slice none 0 0, .slice none 0 0, .map none] ++ []) :: []) P2 w := H
  refine VC.cutE (fun q : Int × Rd => [(0, .pointer (some ⟨p, 0, none⟩)), (2, .bool false), (7, .pointer (some ⟨pb, 0, none⟩)), (8, .int .i16 v), (9, .bool fx), (10, .pointer (some ⟨p, 0, none⟩))]) (fun q w' => IntKind.i32.wrap q.1 = q.1 ∧ (if hasF (.mk 3 1 (-1) (-1) (-1) (-1) 0 []) v = true then rdField 9 v fx (.mk 3 1 (-1) (-1) (-1) (-1) 0 []) s1 else (dfT 9 (.mk 3 1 (-1) (-1) (-1) (-1) 0 []), s1)) = (numT q.1, q.2) ∧ St w0 G0 p pb q.2 ((p, ty, [] ++ [.int .i16 v, c1, .int .i32 q.1, .slice none 0 0, .slice none 0 0, .map none] ++ []) :: []) P2 w') ?_ ?_
  · refine cI (by rfl) (fun hcv=>?_) (fun hcv=>?_)
    · ((conv=>whnf);repeat(first|(refine mvT ?_;conv=>whnf)|(refine mvF ?_;conv=>whnf)|(refine cT (by rfl) ?_;conv=>whnf)|(refine cF (by rfl) ?_;conv=>whnf)))
      refine Does.mono H.int32 ?_
      rintro r w ⟨n5, s5, rfl, hn5, hr5, H⟩
      ((conv=>whnf);repeat(first|(refine mvT ?_;conv=>whnf)|(refine mvF ?_;conv=>whnf)|(refine cT (by rfl) ?_;conv=>whnf)|(refine cF (by rfl) ?_;conv=>whnf)))
      refine H.st1 (v := .int .i32 n5) 2 (rfl) (rfl) rfl (by simp) rfl (Nat.lt_of_lt_of_le (Nat.lt_succ_self _) (Nat.le_of_ble_eq_true rfl)) ?_
      intro w H
      ((conv=>whnf);repeat(first|(refine mvT ?_;conv=>whnf)|(refine mvF ?_;conv=>whnf)|(refine cT (by rfl) ?_;conv=>whnf)|(refine cF (by rfl) ?_;conv=>whnf)))
      replace H : St w0 G0 p pb s5 ((p, ty, [] ++ [.int .i16 v, c1, .int .i32 n5, .slice none 0 0, .slice none 0 0, .map none] ++ []) :: []) P2 w := H
      have hh : hasF (.mk 3 1 (-1) (-1) (-1) (-1) 0 []) v = true := by have := of_decide_eq_true hcv; rw [hasF_iff]; omega
      exact ⟨(n5, s5), ⟨rfl, rfl, rfl, rfl, rfl, rfl, trivial⟩, hn5, by rw [if_pos hh]; exact (rdField3.trans hr5), H⟩
    · ((conv=>whnf);repeat(first|(refine mvT ?_;conv=>whnf)|(refine mvF ?_;conv=>whnf)|(refine cT (by rfl) ?_;conv=>whnf)|(refine cF (by rfl) ?_;conv=>whnf)))
      have hh : ¬ hasF (.mk 3 1 (-1) (-1) (-1) (-1) 0 []) v = true := by have := of_decide_eq_false hcv; rw [hasF_iff]; omega
      exact ⟨((-1), s1), ⟨rfl, rfl, rfl, rfl, rfl, rfl, trivial⟩, rfl, by rw [if_neg hh]; rfl, H⟩
  clear H
  rintro ⟨n4, s4⟩ w ⟨hn4, hr4, H⟩
  dsimp only at hn4 hr4 H
  ((conv=>whnf);repeat(first|(refine mvT ?_;conv=>whnf)|(refine mvF ?_;conv=>whnf)|(refine cT (by rfl) ?_;conv=>whnf)|(refine cF (by rfl) ?_;conv=>whnf)))
  replace H : St w0 G0 p pb s4 ((p, ty, [] ++ [.int .i16 v, c1, .int .i32 n4, .slice none 0 0, .slice none 0 0, .map none] ++ []) :: []) P2 w := H
  refine ldS (H.cell (o := 0) rfl (k := 3) rfl) ?_;((conv=>whnf);repeat(first|(refine mvT ?_;conv=>whnf)|(refine mvF ?_;conv=>whnf)|(refine cT (by rfl) ?_;conv=>whnf)|(refine cF (by rfl) ?_;conv=>whnf)))
  (refine mvB ?_;((conv=>whnf);repeat(first|(refine mvT ?_;conv=>whnf)|(refine mvF ?_;conv=>whnf)|(refine cT (by rfl) ?_;conv=>whnf)|(refine cF (by rfl) ?_;conv=>whnf))))
  refine VC.cutE (fun q : Int × Rd => [(15, .int .i32 q.1), (14, .slice none 0 0), (0, .pointer (some ⟨p, 0, none⟩)), (2, .bool false), (7, .pointer (some ⟨pb, 0, none⟩)), (8, .int .i16 v), (9, .bool fx), (10, .pointer (some ⟨p, 0, none⟩))]) (fun q w' => (-2147483648 ≤ q.1 ∧ q.1 ≤ 2147483647) ∧ rdLn fx s4 = q ∧ St w0 G0 p pb q.2 ((p, ty, [] ++ [.int .i16 v, c1, .int .i32 n4, .slice none 0 0, .slice none 0 0, .map none] ++ []) :: []) P2 w') ?_ ?_
  · refine cI (by rfl) (fun hc=>?_) (fun hc=>?_)
    · ((conv=>whnf);repeat(first|(refine mvT ?_;conv=>whnf)|(refine mvF ?_;conv=>whnf)|(refine cT (by rfl) ?_;conv=>whnf)|(refine cF (by rfl) ?_;conv=>whnf)))
      refine Does.mono H.lnc ?_
      rintro r w ⟨n, s', rfl, hn, hr, H⟩
      ((conv=>whnf);repeat(first|(refine mvT ?_;conv=>whnf)|(refine mvF ?_;conv=>whnf)|(refine cT (by rfl) ?_;conv=>whnf)|(refine cF (by rfl) ?_;conv=>whnf)))
      exact ⟨(n, s'), ⟨rfl, rfl, rfl, rfl, rfl, rfl, rfl, rfl, trivial⟩, hn, by rw [hc]; exact hr, H⟩
    · ((conv=>whnf);repeat(first|(refine mvT ?_;conv=>whnf)|(refine mvF ?_;conv=>whnf)|(refine cT (by rfl) ?_;conv=>whnf)|(refine cF (by rfl) ?_;conv=>whnf)))
      refine Does.mono H.lnp ?_
      rintro r w ⟨n, s', rfl, hn, hr, H⟩
      ((conv=>whnf);repeat(first|(refine mvT ?_;conv=>whnf)|(refine mvF ?_;conv=>whnf)|(refine cT (by rfl) ?_;conv=>whnf)|(refine cF (by rfl) ?_;conv=>whnf)))
      exact ⟨(n, s'), ⟨rfl, rfl, rfl, rfl, rfl, rfl, rfl, rfl, trivial⟩, hn, by rw [hc]; exact hr, H⟩
  clear H
  rintro ⟨n7, s7⟩ w ⟨hn7, hln7, H⟩
  dsimp only at hn7 hln7 H
  ((conv=>whnf);repeat(first|(refine mvT ?_;conv=>whnf)|(refine mvF ?_;conv=>whnf)|(refine cT (by rfl) ?_;conv=>whnf)|(refine cF (by rfl) ?_;conv=>whnf)))
  refine Does.mono H.ok ?_
  rintro r w ⟨rfl, H⟩
  ((conv=>whnf);repeat(first|(refine mvT ?_;conv=>whnf)|(refine mvF ?_;conv=>whnf)|(refine cT (by rfl) ?_;conv=>whnf)|(refine cF (by rfl) ?_;conv=>whnf)))
  refine cI (by rfl) (fun hbd=>?_) (fun hbd=>?_)
  · have hbd : s7.2 = true := by simpa using hbd
    ((conv=>whnf);repeat(first|(refine mvT ?_;conv=>whnf)|(refine mvF ?_;conv=>whnf)|(refine cT (by rfl) ?_;conv=>whnf)|(refine cF (by rfl) ?_;conv=>whnf)))
    refine Does.mono (H.done hL hp1) ?_
    rintro r w ⟨rfl, H⟩
    ((conv=>whnf);repeat(first|(refine mvT ?_;conv=>whnf)|(refine mvF ?_;conv=>whnf)|(refine cT (by rfl) ?_;conv=>whnf)|(refine cF (by rfl) ?_;conv=>whnf)))
    refine RdPost.early hbd (hup0 (?_)) H
    rw [tail_yes ((rdField8n (by decide)).trans hr1) ⟨by decide, has_all hv⟩, tail_ver hr4 (by decide), tail_len ⟨by decide, has_all hv⟩ hln7 hbd]
  have hbd : s7.2 = false := by simpa using hbd
  clear hbd
  ((conv=>whnf);repeat(first|(refine mvT ?_;conv=>whnf)|(refine mvF ?_;conv=>whnf)|(refine cT (by rfl) ?_;conv=>whnf)|(refine cF (by rfl) ?_;conv=>whnf)))
  refine cut_zero ?_
  ((conv=>whnf);repeat(first|(refine mvT ?_;conv=>whnf)|(refine mvF ?_;conv=>whnf)|(refine cT (by rfl) ?_;conv=>whnf)|(refine cF (by rfl) ?_;conv=>whnf)))
  refine VC.cutE (fun a : Value => [(15, .int .i32 n7), (14, a), (0, .pointer (some ⟨p, 0, none⟩)), (2, .bool false), (7, .pointer (some ⟨pb, 0, none⟩)), (8, .int .i16 v), (9, .bool fx), (10, .pointer (some ⟨p, 0, none⟩))]) (fun a w' => ListI w0 G0 p pb 123 [str [], .slice none 0 0, .map none] (elR 8 v fx 10 dBeginQuorumEpochRequestTopic) (elQ true 8 10 dBeginQuorumEpochRequestTopic) s7 n7 (decide (n7 ≤ 0)) ((p, ty, [] ++ [.int .i16 v, c1, .int .i32 n4, .slice none 0 0, .slice none 0 0, .map none] ++ []) :: []) P2 a 0 w') ?_ ?_
  · refine cI (by rfl) (fun hps=>?_) (fun hps=>?_)
    · have hps : 0 < n7 := by have := of_decide_eq_true hps; omega
      ((conv=>whnf);repeat(first|(refine mvT ?_;conv=>whnf)|(refine mvF ?_;conv=>whnf)|(refine cT (by rfl) ?_;conv=>whnf)|(refine cF (by rfl) ?_;conv=>whnf)))
      refine H.grow hps hn7.2 (by decide) rfl rfl (by decide) ?_
      intro g cap post w hc1 hc2 H
      ((conv=>whnf);repeat(first|(refine mvT ?_;conv=>whnf)|(refine mvF ?_;conv=>whnf)|(refine cT (by rfl) ?_;conv=>whnf)|(refine cF (by rfl) ?_;conv=>whnf)))
      exact ⟨_, ⟨rfl, rfl, rfl, rfl, rfl, rfl, rfl, rfl, trivial⟩, ListI.some hps (decide_eq_false (by omega)) hc1 hc2 H⟩
    · have hps : n7 ≤ 0 := by have := of_decide_eq_false hps; omega
      ((conv=>whnf);repeat(first|(refine mvT ?_;conv=>whnf)|(refine mvF ?_;conv=>whnf)|(refine cT (by rfl) ?_;conv=>whnf)|(refine cF (by rfl) ?_;conv=>whnf)))
      exact ⟨_, ⟨rfl, rfl, rfl, rfl, rfl, rfl, rfl, rfl, trivial⟩, ListI.none hps (decide_eq_true hps) H⟩
  clear H
  rintro a7 w H
  ((conv=>whnf);repeat(first|(refine mvT ?_;conv=>whnf)|(refine mvF ?_;conv=>whnf)|(refine cT (by rfl) ?_;conv=>whnf)|(refine cF (by rfl) ?_;conv=>whnf)))
  have hpL7 : inL ((p, ty, [] ++ [.int .i16 v, c1, .int .i32 n4, .slice none 0 0, .slice none 0 0, .map none] ++ []) :: []) p := inL.head _ _
  refine VL.loop (fun i : Nat => [(15, .int .i32 n7), (14, a7), (16, .int .i32 i), (0, .pointer (some ⟨p, 0, none⟩)), (2, .bool false), (7, .pointer (some ⟨pb, 0, none⟩)), (8, .int .i16 v), (9, .bool fx), (10, .pointer (some ⟨p, 0, none⟩))]) (fun i w' => i ≤ 2147483647 ∧ ListI w0 G0 p pb 123 [str [], .slice none 0 0, .map none] (elR 8 v fx 10 dBeginQuorumEpochRequestTopic) (elQ true 8 10 dBeginQuorumEpochRequestTopic) s7 n7 (decide (n7 ≤ 0)) ((p, ty, [] ++ [.int .i16 v, c1, .int .i32 n4, .slice none 0 0, .slice none 0 0, .map none] ++ []) :: []) P2 a7 i w') (fun i => n7.toNat - i) 0 ⟨rfl, rfl, rfl, rfl, rfl, rfl, rfl, rfl, rfl, trivial⟩ ⟨by decide, H⟩ ?_
  clear H
  rintro i7 w ⟨hi7, H⟩
  ((conv=>whnf);repeat(first|(refine mvT ?_;conv=>whnf)|(refine mvF ?_;conv=>whnf)|(refine cT (by rfl) ?_;conv=>whnf)|(refine cF (by rfl) ?_;conv=>whnf)))
  refine cI (by rfl) (fun h9=>?_) (fun h9=>?_)
  · have hlt7 : (i7 : Int) < n7 := of_decide_eq_true h9
    obtain ⟨g7, cap7, post7, rfl, hgo7, HI⟩ := H.go hlt7
    obtain ⟨es7, ts7, si7, hes7, hez7, hrn7, hts7, hlen1, H⟩ := HI.open hgo7.2.2.2.2
    obtain ⟨L7, hL7⟩ : ∃ L : List Ob, L = ((p, ty, [] ++ [.int .i16 v, c1, .int .i32 n4, .slice none 0 0, .slice none 0 0, .map none] ++ []) :: []) := ⟨_, rfl⟩
    rw [← hL7] at H hpL7
    obtain ⟨P7, hP7⟩ : ∃ P : World → Prop, P = fun w => (∀ (j : Nat) (c : List Value) (y : T), es7[j]? = some c → ts7[j]? = some y → elQ true 8 10 dBeginQuorumEpochRequestTopic ⟨w, fun k => k ≠ p⟩ c y) ∧ P2 w := ⟨_, rfl⟩
    rw [← hP7] at H
    replace H : St w0 G0 p pb si7 ((g7, 123, es7.flatten ++ [str [], .slice none 0 0, .map none] ++ ((List.replicate (n7.toNat - (i7 + 1)) [str [], .slice none 0 0, .map none]).flatten ++ post7)) :: L7) P7 w := H
    ((conv=>whnf);repeat(first|(refine mvT ?_;conv=>whnf)|(refine mvF ?_;conv=>whnf)|(refine cT (by rfl) ?_;conv=>whnf)|(refine cF (by rfl) ?_;conv=>whnf)))
    refine ⟨g7, 0, rfl, ⟨by omega, by omega⟩, ?_⟩
    ((conv=>whnf);repeat(first|(refine mvT ?_;conv=>whnf)|(refine mvF ?_;conv=>whnf)|(refine cT (by rfl) ?_;conv=>whnf)|(refine cF (by rfl) ?_;conv=>whnf)))
    refine Does.mono (dfBeginQuorumEpochRequestTopic (pre := es7.flatten) (cur := [str [], .slice none 0 0, .map none]) (post := ((List.replicate (n7.toNat - (i7 + 1)) [str [], .slice none 0 0, .map none]).flatten ++ post7)) H.head (by first | (rw [hlen1]; simp; done) | (simp [hlen1]; done) | (simp [hlen1]; omega)) rfl) ?_
    rintro rd w2 ⟨hdf, hxd⟩
    replace H := H.put hdf hxd
    clear hdf hxd
    replace H : St w0 G0 p pb si7 ((g7, 123, es7.flatten ++ [str [], .slice none 0 0, .map none] ++ ((List.replicate (n7.toNat - (i7 + 1)) [str [], .slice none 0 0, .map none]).flatten ++ post7)) :: L7) P7 w2 := H
    ((conv=>whnf);repeat(first|(refine mvT ?_;conv=>whnf)|(refine mvF ?_;conv=>whnf)|(refine cT (by rfl) ?_;conv=>whnf)|(refine cF (by rfl) ?_;conv=>whnf)))
    have hup7 : tailBad 8 v fx dBeginQuorumEpochRequestTopic si7 = true → (rdPart 9 v fx dBeginQuorumEpochRequest (l, false)).2.2 = true := by
      intro hb
      refine hup0 ?_
      rw [tail_yes ((rdField8n (by decide)).trans hr1) ⟨by decide, has_all hv⟩, tail_ver hr4 (by decide), tail_el ⟨by decide, has_all hv⟩ hln7 hgo7.2.2.2.2 hrn7 hb]
    (refine mvB ?_;((conv=>whnf);repeat(first|(refine mvT ?_;conv=>whnf)|(refine mvF ?_;conv=>whnf)|(refine cT (by rfl) ?_;conv=>whnf)|(refine cF (by rfl) ?_;conv=>whnf))))
    refine VC.cutE (fun q : List UInt8 × Rd => [(19, str q.1), (0, .pointer (some ⟨p, 0, none⟩)), (2, .bool false), (7, .pointer (some ⟨pb, 0, none⟩)), (8, .int .i16 v), (9, .bool fx), (10, .pointer (some ⟨p, 0, none⟩)), (15, .int .i32 n7), (14, .slice (some ⟨g7, 0, none⟩) n7.toNat cap7), (16, .int .i32 i7), (17, .pointer (some ⟨g7, 0 + (i7 : Int).toNat * 3, none⟩)), (18, .pointer (some ⟨g7, 0 + (i7 : Int).toNat * 3, none⟩))]) (fun q w' => rdTx fx si7 = q ∧ St w0 G0 p pb q.2 ((g7, 123, es7.flatten ++ [str [], .slice none 0 0, .map none] ++ ((List.replicate (n7.toNat - (i7 + 1)) [str [], .slice none 0 0, .map none]).flatten ++ post7)) :: L7) P7 w') ?_ ?_
    · refine cI (by rfl) (fun hc=>?_) (fun hc=>?_)
      · ((conv=>whnf);repeat(first|(refine mvT ?_;conv=>whnf)|(refine mvF ?_;conv=>whnf)|(refine cT (by rfl) ?_;conv=>whnf)|(refine cF (by rfl) ?_;conv=>whnf)))
        refine Does.mono H.txc ?_
        rintro r w ⟨u, s', rfl, hr, H⟩
        ((conv=>whnf);repeat(first|(refine mvT ?_;conv=>whnf)|(refine mvF ?_;conv=>whnf)|(refine cT (by rfl) ?_;conv=>whnf)|(refine cF (by rfl) ?_;conv=>whnf)))
        exact ⟨(u, s'), ⟨rfl, rfl, rfl, rfl, rfl, rfl, rfl, rfl, rfl, rfl, rfl, rfl, trivial⟩, by rw [hc]; exact hr, H⟩
      · ((conv=>whnf);repeat(first|(refine mvT ?_;conv=>whnf)|(refine mvF ?_;conv=>whnf)|(refine cT (by rfl) ?_;conv=>whnf)|(refine cF (by rfl) ?_;conv=>whnf)))
        refine Does.mono H.txp ?_
        rintro r w ⟨u, s', rfl, hr, H⟩
        ((conv=>whnf);repeat(first|(refine mvT ?_;conv=>whnf)|(refine mvF ?_;conv=>whnf)|(refine cT (by rfl) ?_;conv=>whnf)|(refine cF (by rfl) ?_;conv=>whnf)))
        exact ⟨(u, s'), ⟨rfl, rfl, rfl, rfl, rfl, rfl, rfl, rfl, rfl, rfl, rfl, rfl, trivial⟩, by rw [hc]; exact hr, H⟩
    clear H
    rintro ⟨u8, s8⟩ w ⟨hr8, H⟩
    dsimp only at hr8 H
    ((conv=>whnf);repeat(first|(refine mvT ?_;conv=>whnf)|(refine mvF ?_;conv=>whnf)|(refine cT (by rfl) ?_;conv=>whnf)|(refine cF (by rfl) ?_;conv=>whnf)))
    refine H.st1 (v := str u8) 0 (rfl) (rfl) rfl (by first | omega | (simp [hlen1]; done) | (simp [hlen1]; omega)) rfl (Nat.lt_of_lt_of_le (Nat.lt_succ_self _) (Nat.le_of_ble_eq_true rfl)) ?_
    intro w H
    ((conv=>whnf);repeat(first|(refine mvT ?_;conv=>whnf)|(refine mvF ?_;conv=>whnf)|(refine cT (by rfl) ?_;conv=>whnf)|(refine cF (by rfl) ?_;conv=>whnf)))
    replace H : St w0 G0 p pb s8 ((g7, 123, es7.flatten ++ [str u8, .slice none 0 0, .map none] ++ ((List.replicate (n7.toNat - (i7 + 1)) [str [], .slice none 0 0, .map none]).flatten ++ post7)) :: L7) P7 w := H
    refine ⟨_, ld (H.cell rfl (k := 1) rfl) (by first | omega | (simp [hlen1]; done) | (simp [hlen1]; omega)), ?_⟩; ((conv=>whnf);repeat(first|(refine mvT ?_;conv=>whnf)|(refine mvF ?_;conv=>whnf)|(refine cT (by rfl) ?_;conv=>whnf)|(refine cF (by rfl) ?_;conv=>whnf)))
    (refine mvB ?_;((conv=>whnf);repeat(first|(refine mvT ?_;conv=>whnf)|(refine mvF ?_;conv=>whnf)|(refine cT (by rfl) ?_;conv=>whnf)|(refine cF (by rfl) ?_;conv=>whnf))))
    refine VC.cutE (fun q : Int × Rd => [(22, .int .i32 q.1), (21, .slice none 0 0), (0, .pointer (some ⟨p, 0, none⟩)), (2, .bool false), (7, .pointer (some ⟨pb, 0, none⟩)), (8, .int .i16 v), (9, .bool fx), (10, .pointer (some ⟨p, 0, none⟩)), (15, .int .i32 n7), (14, .slice (some ⟨g7, 0, none⟩) n7.toNat cap7), (16, .int .i32 i7), (17, .pointer (some ⟨g7, 0 + (i7 : Int).toNat * 3, none⟩)), (18, .pointer (some ⟨g7, 0 + (i7 : Int).toNat * 3, none⟩))]) (fun q w' => (-2147483648 ≤ q.1 ∧ q.1 ≤ 2147483647) ∧ rdLn fx s8 = q ∧ St w0 G0 p pb q.2 ((g7, 123, es7.flatten ++ [str u8, .slice none 0 0, .map none] ++ ((List.replicate (n7.toNat - (i7 + 1)) [str [], .slice none 0 0, .map none]).flatten ++ post7)) :: L7) P7 w') ?_ ?_
    · refine cI (by rfl) (fun hc=>?_) (fun hc=>?_)
      · ((conv=>whnf);repeat(first|(refine mvT ?_;conv=>whnf)|(refine mvF ?_;conv=>whnf)|(refine cT (by rfl) ?_;conv=>whnf)|(refine cF (by rfl) ?_;conv=>whnf)))
        refine Does.mono H.lnc ?_
        rintro r w ⟨n, s', rfl, hn, hr, H⟩
        ((conv=>whnf);repeat(first|(refine mvT ?_;conv=>whnf)|(refine mvF ?_;conv=>whnf)|(refine cT (by rfl) ?_;conv=>whnf)|(refine cF (by rfl) ?_;conv=>whnf)))
        exact ⟨(n, s'), ⟨rfl, rfl, rfl, rfl, rfl, rfl, rfl, rfl, rfl, rfl, rfl, rfl, rfl, trivial⟩, hn, by rw [hc]; exact hr, H⟩
      · ((conv=>whnf);repeat(first|(refine mvT ?_;conv=>whnf)|(refine mvF ?_;conv=>whnf)|(refine cT (by rfl) ?_;conv=>whnf)|(refine cF (by rfl) ?_;conv=>whnf)))
        refine Does.mono H.lnp ?_
        rintro r w ⟨n, s', rfl, hn, hr, H⟩
        ((conv=>whnf);repeat(first|(refine mvT ?_;conv=>whnf)|(refine mvF ?_;conv=>whnf)|(refine cT (by rfl) ?_;conv=>whnf)|(refine cF (by rfl) ?_;conv=>whnf)))
        exact ⟨(n, s'), ⟨rfl, rfl, rfl, rfl, rfl, rfl, rfl, rfl, rfl, rfl, rfl, rfl, rfl, trivial⟩, hn, by rw [hc]; exact hr, H⟩
    clear H
    rintro ⟨n10, s10⟩ w ⟨hn10, hln10, H⟩
    dsimp only at hn10 hln10 H
    ((conv=>whnf);repeat(first|(refine mvT ?_;conv=>whnf)|(refine mvF ?_;conv=>whnf)|(refine cT (by rfl) ?_;conv=>whnf)|(refine cF (by rfl) ?_;conv=>whnf)))
    refine Does.mono H.ok ?_
    rintro r w ⟨rfl, H⟩
    ((conv=>whnf);repeat(first|(refine mvT ?_;conv=>whnf)|(refine mvF ?_;conv=>whnf)|(refine cT (by rfl) ?_;conv=>whnf)|(refine cF (by rfl) ?_;conv=>whnf)))
    refine cI (by rfl) (fun hbd=>?_) (fun hbd=>?_)
    · have hbd : s10.2 = true := by simpa using hbd
      ((conv=>whnf);repeat(first|(refine mvT ?_;conv=>whnf)|(refine mvF ?_;conv=>whnf)|(refine cT (by rfl) ?_;conv=>whnf)|(refine cF (by rfl) ?_;conv=>whnf)))
      refine Does.mono (H.done hL hp1) ?_
      rintro r w ⟨rfl, H⟩
      ((conv=>whnf);repeat(first|(refine mvT ?_;conv=>whnf)|(refine mvF ?_;conv=>whnf)|(refine cT (by rfl) ?_;conv=>whnf)|(refine cF (by rfl) ?_;conv=>whnf)))
      refine RdPost.early hbd (hup7 (?_)) H
      rw [tail_yes (rdField8 (by decide) hr8) ⟨by decide, has_all hv⟩, tail_len ⟨by decide, has_all hv⟩ hln10 hbd]
    have hbd : s10.2 = false := by simpa using hbd
    clear hbd
    ((conv=>whnf);repeat(first|(refine mvT ?_;conv=>whnf)|(refine mvF ?_;conv=>whnf)|(refine cT (by rfl) ?_;conv=>whnf)|(refine cF (by rfl) ?_;conv=>whnf)))
    refine cut_zero ?_
    ((conv=>whnf);repeat(first|(refine mvT ?_;conv=>whnf)|(refine mvF ?_;conv=>whnf)|(refine cT (by rfl) ?_;conv=>whnf)|(refine cF (by rfl) ?_;conv=>whnf)))
    refine VC.cutE (fun a : Value => [(22, .int .i32 n10), (21, a), (0, .pointer (some ⟨p, 0, none⟩)), (2, .bool false), (7, .pointer (some ⟨pb, 0, none⟩)), (8, .int .i16 v), (9, .bool fx), (10, .pointer (some ⟨p, 0, none⟩)), (15, .int .i32 n7), (14, .slice (some ⟨g7, 0, none⟩) n7.toNat cap7), (16, .int .i32 i7), (17, .pointer (some ⟨g7, 0 + (i7 : Int).toNat * 3, none⟩)), (18, .pointer (some ⟨g7, 0 + (i7 : Int).toNat * 3, none⟩))]) (fun a w' => ListI w0 G0 p pb 176 [.int .i32 0, .int .u8 0, .int .u8 0, .int .u8 0, .int .u8 0, .int .u8 0, .int .u8 0, .int .u8 0, .int .u8 0, .int .u8 0, .int .u8 0, .int .u8 0, .int .u8 0, .int .u8 0, .int .u8 0, .int .u8 0, .int .u8 0, .int .i32 0, .int .i32 0, .map none] (elR 7 v fx 10 dBeginQuorumEpochRequestTopicPartition) (elQ true 7 10 dBeginQuorumEpochRequestTopicPartition) s10 n10 (decide (n10 ≤ 0)) ((g7, 123, es7.flatten ++ [str u8, .slice none 0 0, .map none] ++ ((List.replicate (n7.toNat - (i7 + 1)) [str [], .slice none 0 0, .map none]).flatten ++ post7)) :: L7) P7 a 0 w') ?_ ?_
    · refine cI (by rfl) (fun hps=>?_) (fun hps=>?_)
      · have hps : 0 < n10 := by have := of_decide_eq_true hps; omega
        ((conv=>whnf);repeat(first|(refine mvT ?_;conv=>whnf)|(refine mvF ?_;conv=>whnf)|(refine cT (by rfl) ?_;conv=>whnf)|(refine cF (by rfl) ?_;conv=>whnf)))
        refine H.grow hps hn10.2 (by decide) rfl rfl (by decide) ?_
        intro g cap post w hc1 hc2 H
        ((conv=>whnf);repeat(first|(refine mvT ?_;conv=>whnf)|(refine mvF ?_;conv=>whnf)|(refine cT (by rfl) ?_;conv=>whnf)|(refine cF (by rfl) ?_;conv=>whnf)))
        exact ⟨_, ⟨rfl, rfl, rfl, rfl, rfl, rfl, rfl, rfl, rfl, rfl, rfl, rfl, rfl, trivial⟩, ListI.some hps (decide_eq_false (by omega)) hc1 hc2 H⟩
      · have hps : n10 ≤ 0 := by have := of_decide_eq_false hps; omega
        ((conv=>whnf);repeat(first|(refine mvT ?_;conv=>whnf)|(refine mvF ?_;conv=>whnf)|(refine cT (by rfl) ?_;conv=>whnf)|(refine cF (by rfl) ?_;conv=>whnf)))
        exact ⟨_, ⟨rfl, rfl, rfl, rfl, rfl, rfl, rfl, rfl, rfl, rfl, rfl, rfl, rfl, trivial⟩, ListI.none hps (decide_eq_true hps) H⟩
    clear H
    rintro a10 w H
    ((conv=>whnf);repeat(first|(refine mvT ?_;conv=>whnf)|(refine mvF ?_;conv=>whnf)|(refine cT (by rfl) ?_;conv=>whnf)|(refine cF (by rfl) ?_;conv=>whnf)))
    have hpL10 : inL ((g7, 123, es7.flatten ++ [str u8, .slice none 0 0, .map none] ++ ((List.replicate (n7.toNat - (i7 + 1)) [str [], .slice none 0 0, .map none]).flatten ++ post7)) :: L7) p := inL.tail hpL7
    refine VL.loop (fun i : Nat => [(22, .int .i32 n10), (21, a10), (23, .int .i32 i), (0, .pointer (some ⟨p, 0, none⟩)), (2, .bool false), (7, .pointer (some ⟨pb, 0, none⟩)), (8, .int .i16 v), (9, .bool fx), (10, .pointer (some ⟨p, 0, none⟩)), (15, .int .i32 n7), (14, .slice (some ⟨g7, 0, none⟩) n7.toNat cap7), (16, .int .i32 i7), (17, .pointer (some ⟨g7, 0 + (i7 : Int).toNat * 3, none⟩)), (18, .pointer (some ⟨g7, 0 + (i7 : Int).toNat * 3, none⟩))]) (fun i w' => i ≤ 2147483647 ∧ ListI w0 G0 p pb 176 [.int .i32 0, .int .u8 0, .int .u8 0, .int .u8 0, .int .u8 0, .int .u8 0, .int .u8 0, .int .u8 0, .int .u8 0, .int .u8 0, .int .u8 0, .int .u8 0, .int .u8 0, .int .u8 0, .int .u8 0, .int .u8 0, .int .u8 0, .int .i32 0, .int .i32 0, .map none] (elR 7 v fx 10 dBeginQuorumEpochRequestTopicPartition) (elQ true 7 10 dBeginQuorumEpochRequestTopicPartition) s10 n10 (decide (n10 ≤ 0)) ((g7, 123, es7.flatten ++ [str u8, .slice none 0 0, .map none] ++ ((List.replicate (n7.toNat - (i7 + 1)) [str [], .slice none 0 0, .map none]).flatten ++ post7)) :: L7) P7 a10 i w') (fun i => n10.toNat - i) 0 ⟨rfl, rfl, rfl, rfl, rfl, rfl, rfl, rfl, rfl, rfl, rfl, rfl, rfl, rfl, trivial⟩ ⟨by decide, H⟩ ?_
    clear H
    rintro i10 w ⟨hi10, H⟩
    ((conv=>whnf);repeat(first|(refine mvT ?_;conv=>whnf)|(refine mvF ?_;conv=>whnf)|(refine cT (by rfl) ?_;conv=>whnf)|(refine cF (by rfl) ?_;conv=>whnf)))
    refine cI (by rfl) (fun h9=>?_) (fun h9=>?_)
    · have hlt10 : (i10 : Int) < n10 := of_decide_eq_true h9
      obtain ⟨g10, cap10, post10, rfl, hgo10, HI⟩ := H.go hlt10
      obtain ⟨es10, ts10, si10, hes10, hez10, hrn10, hts10, hlen2, H⟩ := HI.open hgo10.2.2.2.2
      obtain ⟨L10, hL10⟩ : ∃ L : List Ob, L = ((g7, 123, es7.flatten ++ [str u8, .slice none 0 0, .map none] ++ ((List.replicate (n7.toNat - (i7 + 1)) [str [], .slice none 0 0, .map none]).flatten ++ post7)) :: L7) := ⟨_, rfl⟩
      rw [← hL10] at H hpL10
      obtain ⟨P10, hP10⟩ : ∃ P : World → Prop, P = fun w => (∀ (j : Nat) (c : List Value) (y : T), es10[j]? = some c → ts10[j]? = some y → elQ true 7 10 dBeginQuorumEpochRequestTopicPartition ⟨w, fun k => k ≠ p⟩ c y) ∧ P7 w := ⟨_, rfl⟩
      rw [← hP10] at H
      replace H : St w0 G0 p pb si10 ((g10, 176, es10.flatten ++ [.int .i32 0, .int .u8 0, .int .u8 0, .int .u8 0, .int .u8 0, .int .u8 0, .int .u8 0, .int .u8 0, .int .u8 0, .int .u8 0, .int .u8 0, .int .u8 0, .int .u8 0, .int .u8 0, .int .u8 0, .int .u8 0, .int .u8 0, .int .i32 0, .int .i32 0, .map none] ++ ((List.replicate (n10.toNat - (i10 + 1)) [.int .i32 0, .int .u8 0, .int .u8 0, .int .u8 0, .int .u8 0, .int .u8 0, .int .u8 0, .int .u8 0, .int .u8 0, .int .u8 0, .int .u8 0, .int .u8 0, .int .u8 0, .int .u8 0, .int .u8 0, .int .u8 0, .int .u8 0, .int .i32 0, .int .i32 0, .map none]).flatten ++ post10)) :: L10) P10 w := H
      ((conv=>whnf);repeat(first|(refine mvT ?_;conv=>whnf)|(refine mvF ?_;conv=>whnf)|(refine cT (by rfl) ?_;conv=>whnf)|(refine cF (by rfl) ?_;conv=>whnf)))
      refine ⟨g10, 0, rfl, ⟨by omega, by omega⟩, ?_⟩
      ((conv=>whnf);repeat(first|(refine mvT ?_;conv=>whnf)|(refine mvF ?_;conv=>whnf)|(refine cT (by rfl) ?_;conv=>whnf)|(refine cF (by rfl) ?_;conv=>whnf)))
      refine Does.mono (dfBeginQuorumEpochRequestTopicPartition (pre := es10.flatten) (cur := [.int .i32 0, .int .u8 0, .int .u8 0, .int .u8 0, .int .u8 0, .int .u8 0, .int .u8 0, .int .u8 0, .int .u8 0, .int .u8 0, .int .u8 0, .int .u8 0, .int .u8 0, .int .u8 0, .int .u8 0, .int .u8 0, .int .u8 0, .int .i32 0, .int .i32 0, .map none]) (post := ((List.replicate (n10.toNat - (i10 + 1)) [.int .i32 0, .int .u8 0, .int .u8 0, .int .u8 0, .int .u8 0, .int .u8 0, .int .u8 0, .int .u8 0, .int .u8 0, .int .u8 0, .int .u8 0, .int .u8 0, .int .u8 0, .int .u8 0, .int .u8 0, .int .u8 0, .int .u8 0, .int .i32 0, .int .i32 0, .map none]).flatten ++ post10)) H.head (by first | (rw [hlen2]; simp; done) | (simp [hlen2]; done) | (simp [hlen2]; omega)) rfl) ?_
      rintro rd w2 ⟨hdf, hxd⟩
      replace H := H.put hdf hxd
      clear hdf hxd
      replace H : St w0 G0 p pb si10 ((g10, 176, es10.flatten ++ [.int .i32 0, .int .u8 0, .int .u8 0, .int .u8 0, .int .u8 0, .int .u8 0, .int .u8 0, .int .u8 0, .int .u8 0, .int .u8 0, .int .u8 0, .int .u8 0, .int .u8 0, .int .u8 0, .int .u8 0, .int .u8 0, .int .u8 0, .int .i32 0, .int .i32 0, .map none] ++ ((List.replicate (n10.toNat - (i10 + 1)) [.int .i32 0, .int .u8 0, .int .u8 0, .int .u8 0, .int .u8 0, .int .u8 0, .int .u8 0, .int .u8 0, .int .u8 0, .int .u8 0, .int .u8 0, .int .u8 0, .int .u8 0, .int .u8 0, .int .u8 0, .int .u8 0, .int .u8 0, .int .i32 0, .int .i32 0, .map none]).flatten ++ post10)) :: L10) P10 w2 := H
      ((conv=>whnf);repeat(first|(refine mvT ?_;conv=>whnf)|(refine mvF ?_;conv=>whnf)|(refine cT (by rfl) ?_;conv=>whnf)|(refine cF (by rfl) ?_;conv=>whnf)))
      have hup10 : tailBad 7 v fx dBeginQuorumEpochRequestTopicPartition si10 = true → (rdPart 9 v fx dBeginQuorumEpochRequest (l, false)).2.2 = true := by
        intro hb
        refine hup7 ?_
        rw [tail_yes (rdField8 (by decide) hr8) ⟨by decide, has_all hv⟩, tail_el ⟨by decide, has_all hv⟩ hln10 hgo10.2.2.2.2 hrn10 hb]
      refine Does.mono H.int32 ?_
      rintro r w ⟨n11, s11, rfl, hn11, hr11, H⟩
      ((conv=>whnf);repeat(first|(refine mvT ?_;conv=>whnf)|(refine mvF ?_;conv=>whnf)|(refine cT (by rfl) ?_;conv=>whnf)|(refine cF (by rfl) ?_;conv=>whnf)))
      refine H.st1 (v := .int .i32 n11) 0 (rfl) (rfl) rfl (by first | omega | (simp [hlen2]; done) | (simp [hlen2]; omega)) rfl (Nat.lt_of_lt_of_le (Nat.lt_succ_self _) (Nat.le_of_ble_eq_true rfl)) ?_
      intro w H
      ((conv=>whnf);repeat(first|(refine mvT ?_;conv=>whnf)|(refine mvF ?_;conv=>whnf)|(refine cT (by rfl) ?_;conv=>whnf)|(refine cF (by rfl) ?_;conv=>whnf)))
      replace H : St w0 G0 p pb s11 ((g10, 176, es10.flatten ++ [.int .i32 n11, .int .u8 0, .int .u8 0, .int .u8 0, .int .u8 0, .int .u8 0, .int .u8 0, .int .u8 0, .int .u8 0, .int .u8 0, .int .u8 0, .int .u8 0, .int .u8 0, .int .u8 0, .int .u8 0, .int .u8 0, .int .u8 0, .int .i32 0, .int .i32 0, .map none] ++ ((List.replicate (n10.toNat - (i10 + 1)) [.int .i32 0, .int .u8 0, .int .u8 0, .int .u8 0, .int .u8 0, .int .u8 0, .int .u8 0, .int .u8 0, .int .u8 0, .int .u8 0, .int .u8 0, .int .u8 0, .int .u8 0, .int .u8 0, .int .u8 0, .int .u8 0, .int .u8 0, .int .i32 0, .int .i32 0, .map none]).flatten ++ post10)) :: L10) P10 w := H
      refine VC.cutE (fun q : List UInt8 × Rd => [(0, .pointer (some ⟨p, 0, none⟩)), (2, .bool false), (7, .pointer (some ⟨pb, 0, none⟩)), (8, .int .i16 v), (9, .bool fx), (10, .pointer (some ⟨p, 0, none⟩)), (15, .int .i32 n7), (14, .slice (some ⟨g7, 0, none⟩) n7.toNat cap7), (16, .int .i32 i7), (17, .pointer (some ⟨g7, 0 + (i7 : Int).toNat * 3, none⟩)), (18, .pointer (some ⟨g7, 0 + (i7 : Int).toNat * 3, none⟩)), (22, .int .i32 n10), (21, .slice (some ⟨g10, 0, none⟩) n10.toNat cap10), (23, .int .i32 i10), (24, .pointer (some ⟨g10, 0 + (i10 : Int).toNat * 20, none⟩)), (25, .pointer (some ⟨g10, 0 + (i10 : Int).toNat * 20, none⟩))]) (fun q w' => q.1.length = 16 ∧ (if hasF (.mk 7 1 (-1) (-1) (-1) 0 0 []) v = true then rdField 7 v fx (.mk 7 1 (-1) (-1) (-1) 0 0 []) s11 else (dfT 7 (.mk 7 1 (-1) (-1) (-1) 0 0 []), s11)) = (.mk 0 q.1 false [] [], q.2) ∧ St w0 G0 p pb q.2 ((g10, 176, es10.flatten ++ ([.int .i32 n11] ++ (q.1.map bcell ++ [.int .i32 0, .int .i32 0, .map none])) ++ ((List.replicate (n10.toNat - (i10 + 1)) [.int .i32 0, .int .u8 0, .int .u8 0, .int .u8 0, .int .u8 0, .int .u8 0, .int .u8 0, .int .u8 0, .int .u8 0, .int .u8 0, .int .u8 0, .int .u8 0, .int .u8 0, .int .u8 0, .int .u8 0, .int .u8 0, .int .u8 0, .int .i32 0, .int .i32 0, .map none]).flatten ++ post10)) :: L10) P10 w') ?_ ?_
      · refine cI (by rfl) (fun hcv=>?_) (fun hcv=>?_)
        · ((conv=>whnf);repeat(first|(refine mvT ?_;conv=>whnf)|(refine mvF ?_;conv=>whnf)|(refine cT (by rfl) ?_;conv=>whnf)|(refine cF (by rfl) ?_;conv=>whnf)))
          refine Does.mono H.uuid ?_
          rintro r w ⟨u14, s14, rfl, hu14, hr14, H⟩
          ((conv=>whnf);repeat(first|(refine mvT ?_;conv=>whnf)|(refine mvF ?_;conv=>whnf)|(refine cT (by rfl) ?_;conv=>whnf)|(refine cF (by rfl) ?_;conv=>whnf)))
          obtain ⟨u14_0, u14_1, u14_2, u14_3, u14_4, u14_5, u14_6, u14_7, u14_8, u14_9, u14_10, u14_11, u14_12, u14_13, u14_14, u14_15, rfl⟩ : ∃ u14_0 u14_1 u14_2 u14_3 u14_4 u14_5 u14_6 u14_7 u14_8 u14_9 u14_10 u14_11 u14_12 u14_13 u14_14 u14_15, u14 = [u14_0, u14_1, u14_2, u14_3, u14_4, u14_5, u14_6, u14_7, u14_8, u14_9, u14_10, u14_11, u14_12, u14_13, u14_14, u14_15] := by
            match u14, hu14 with
            | [u14_0, u14_1, u14_2, u14_3, u14_4, u14_5, u14_6, u14_7, u14_8, u14_9, u14_10, u14_11, u14_12, u14_13, u14_14, u14_15], _ => exact ⟨u14_0, u14_1, u14_2, u14_3, u14_4, u14_5, u14_6, u14_7, u14_8, u14_9, u14_10, u14_11, u14_12, u14_13, u14_14, u14_15, rfl⟩
          intro bu wu hbu hou hxu
          ((conv=>whnf);repeat(first|(refine mvT ?_;conv=>whnf)|(refine mvF ?_;conv=>whnf)|(refine cT (by rfl) ?_;conv=>whnf)|(refine cF (by rfl) ?_;conv=>whnf)))
          refine st_all [bcell u14_0, bcell u14_1, bcell u14_2, bcell u14_3, bcell u14_4, bcell u14_5, bcell u14_6, bcell u14_7, bcell u14_8, bcell u14_9, bcell u14_10, bcell u14_11, bcell u14_12, bcell u14_13, bcell u14_14, bcell u14_15] hou rfl rfl rfl ?_
          intro w2 hou hxs
          ((conv=>whnf);repeat(first|(refine mvT ?_;conv=>whnf)|(refine mvF ?_;conv=>whnf)|(refine cT (by rfl) ?_;conv=>whnf)|(refine cF (by rfl) ?_;conv=>whnf)))
          replace H := H.e0 (hxu.trans hxs (M := nob) fun k hk e => by omega)
          refine ⟨_, rfl, hou.cells, ?_⟩
          ((conv=>whnf);repeat(first|(refine mvT ?_;conv=>whnf)|(refine mvF ?_;conv=>whnf)|(refine cT (by rfl) ?_;conv=>whnf)|(refine cF (by rfl) ?_;conv=>whnf)))
          refine H.stn [bcell u14_0, bcell u14_1, bcell u14_2, bcell u14_3, bcell u14_4, bcell u14_5, bcell u14_6, bcell u14_7, bcell u14_8, bcell u14_9, bcell u14_10, bcell u14_11, bcell u14_12, bcell u14_13, bcell u14_14, bcell u14_15] 1 rfl rfl rfl (by first | omega | (simp [hlen2]; done) | (simp [hlen2]; omega)) rfl (Nat.le_of_ble_eq_true rfl) ?_
          intro w H
          ((conv=>whnf);repeat(first|(refine mvT ?_;conv=>whnf)|(refine mvF ?_;conv=>whnf)|(refine cT (by rfl) ?_;conv=>whnf)|(refine cF (by rfl) ?_;conv=>whnf)))
          replace H : St w0 G0 p pb s14 ((g10, 176, es10.flatten ++ [.int .i32 n11, bcell u14_0, bcell u14_1, bcell u14_2, bcell u14_3, bcell u14_4, bcell u14_5, bcell u14_6, bcell u14_7, bcell u14_8, bcell u14_9, bcell u14_10, bcell u14_11, bcell u14_12, bcell u14_13, bcell u14_14, bcell u14_15, .int .i32 0, .int .i32 0, .map none] ++ ((List.replicate (n10.toNat - (i10 + 1)) [.int .i32 0, .int .u8 0, .int .u8 0, .int .u8 0, .int .u8 0, .int .u8 0, .int .u8 0, .int .u8 0, .int .u8 0, .int .u8 0, .int .u8 0, .int .u8 0, .int .u8 0, .int .u8 0, .int .u8 0, .int .u8 0, .int .u8 0, .int .i32 0, .int .i32 0, .map none]).flatten ++ post10)) :: L10) P10 w := H
          have hh : hasF (.mk 7 1 (-1) (-1) (-1) 0 0 []) v = true := by have := of_decide_eq_true hcv; rw [hasF_iff]; omega
          exact ⟨([u14_0, u14_1, u14_2, u14_3, u14_4, u14_5, u14_6, u14_7, u14_8, u14_9, u14_10, u14_11, u14_12, u14_13, u14_14, u14_15], s14), ⟨rfl, rfl, rfl, rfl, rfl, rfl, rfl, rfl, rfl, rfl, rfl, rfl, rfl, rfl, rfl, rfl, trivial⟩, rfl, by rw [if_pos hh]; exact (rdField7.trans hr14), H⟩
        · ((conv=>whnf);repeat(first|(refine mvT ?_;conv=>whnf)|(refine mvF ?_;conv=>whnf)|(refine cT (by rfl) ?_;conv=>whnf)|(refine cF (by rfl) ?_;conv=>whnf)))
          have hh : ¬ hasF (.mk 7 1 (-1) (-1) (-1) 0 0 []) v = true := by have := of_decide_eq_false hcv; rw [hasF_iff]; omega
          exact ⟨(List.replicate 16 0, s11), ⟨rfl, rfl, rfl, rfl, rfl, rfl, rfl, rfl, rfl, rfl, rfl, rfl, rfl, rfl, rfl, rfl, trivial⟩, rfl, by rw [if_neg hh]; rfl, H⟩
      clear H
      rintro ⟨u13, s13⟩ w ⟨hu13, hr13, H⟩
      dsimp only at hu13 hr13 H
      obtain ⟨u13_0, u13_1, u13_2, u13_3, u13_4, u13_5, u13_6, u13_7, u13_8, u13_9, u13_10, u13_11, u13_12, u13_13, u13_14, u13_15, rfl⟩ : ∃ u13_0 u13_1 u13_2 u13_3 u13_4 u13_5 u13_6 u13_7 u13_8 u13_9 u13_10 u13_11 u13_12 u13_13 u13_14 u13_15, u13 = [u13_0, u13_1, u13_2, u13_3, u13_4, u13_5, u13_6, u13_7, u13_8, u13_9, u13_10, u13_11, u13_12, u13_13, u13_14, u13_15] := by
        match u13, hu13 with
        | [u13_0, u13_1, u13_2, u13_3, u13_4, u13_5, u13_6, u13_7, u13_8, u13_9, u13_10, u13_11, u13_12, u13_13, u13_14, u13_15], _ => exact ⟨u13_0, u13_1, u13_2, u13_3, u13_4, u13_5, u13_6, u13_7, u13_8, u13_9, u13_10, u13_11, u13_12, u13_13, u13_14, u13_15, rfl⟩
      ((conv=>whnf);repeat(first|(refine mvT ?_;conv=>whnf)|(refine mvF ?_;conv=>whnf)|(refine cT (by rfl) ?_;conv=>whnf)|(refine cF (by rfl) ?_;conv=>whnf)))
      replace H : St w0 G0 p pb s13 ((g10, 176, es10.flatten ++ [.int .i32 n11, bcell u13_0, bcell u13_1, bcell u13_2, bcell u13_3, bcell u13_4, bcell u13_5, bcell u13_6, bcell u13_7, bcell u13_8, bcell u13_9, bcell u13_10, bcell u13_11, bcell u13_12, bcell u13_13, bcell u13_14, bcell u13_15, .int .i32 0, .int .i32 0, .map none] ++ ((List.replicate (n10.toNat - (i10 + 1)) [.int .i32 0, .int .u8 0, .int .u8 0, .int .u8 0, .int .u8 0, .int .u8 0, .int .u8 0, .int .u8 0, .int .u8 0, .int .u8 0, .int .u8 0, .int .u8 0, .int .u8 0, .int .u8 0, .int .u8 0, .int .u8 0, .int .u8 0, .int .i32 0, .int .i32 0, .map none]).flatten ++ post10)) :: L10) P10 w := H
      refine Does.mono H.int32 ?_
      rintro r w ⟨n17, s17, rfl, hn17, hr17, H⟩
      ((conv=>whnf);repeat(first|(refine mvT ?_;conv=>whnf)|(refine mvF ?_;conv=>whnf)|(refine cT (by rfl) ?_;conv=>whnf)|(refine cF (by rfl) ?_;conv=>whnf)))
      refine H.st1 (v := .int .i32 n17) 17 (rfl) (rfl) rfl (by first | omega | (simp [hlen2]; done) | (simp [hlen2]; omega)) rfl (Nat.lt_of_lt_of_le (Nat.lt_succ_self _) (Nat.le_of_ble_eq_true rfl)) ?_
      intro w H
      ((conv=>whnf);repeat(first|(refine mvT ?_;conv=>whnf)|(refine mvF ?_;conv=>whnf)|(refine cT (by rfl) ?_;conv=>whnf)|(refine cF (by rfl) ?_;conv=>whnf)))
      replace H : St w0 G0 p pb s17 ((g10, 176, es10.flatten ++ [.int .i32 n11, bcell u13_0, bcell u13_1, bcell u13_2, bcell u13_3, bcell u13_4, bcell u13_5, bcell u13_6, bcell u13_7, bcell u13_8, bcell u13_9, bcell u13_10, bcell u13_11, bcell u13_12, bcell u13_13, bcell u13_14, bcell u13_15, .int .i32 n17, .int .i32 0, .map none] ++ ((List.replicate (n10.toNat - (i10 + 1)) [.int .i32 0, .int .u8 0, .int .u8 0, .int .u8 0, .int .u8 0, .int .u8 0, .int .u8 0, .int .u8 0, .int .u8 0, .int .u8 0, .int .u8 0, .int .u8 0, .int .u8 0, .int .u8 0, .int .u8 0, .int .u8 0, .int .u8 0, .int .i32 0, .int .i32 0, .map none]).flatten ++ post10)) :: L10) P10 w := H
      refine Does.mono H.int32 ?_
      rintro r w ⟨n19, s19, rfl, hn19, hr19, H⟩
      ((conv=>whnf);repeat(first|(refine mvT ?_;conv=>whnf)|(refine mvF ?_;conv=>whnf)|(refine cT (by rfl) ?_;conv=>whnf)|(refine cF (by rfl) ?_;conv=>whnf)))
      refine H.st1 (v := .int .i32 n19) 18 (rfl) (rfl) rfl (by first | omega | (simp [hlen2]; done) | (simp [hlen2]; omega)) rfl (Nat.lt_of_lt_of_le (Nat.lt_succ_self _) (Nat.le_of_ble_eq_true rfl)) ?_
      intro w H
      ((conv=>whnf);repeat(first|(refine mvT ?_;conv=>whnf)|(refine mvF ?_;conv=>whnf)|(refine cT (by rfl) ?_;conv=>whnf)|(refine cF (by rfl) ?_;conv=>whnf)))
      replace H : St w0 G0 p pb s19 ((g10, 176, es10.flatten ++ [.int .i32 n11, bcell u13_0, bcell u13_1, bcell u13_2, bcell u13_3, bcell u13_4, bcell u13_5, bcell u13_6, bcell u13_7, bcell u13_8, bcell u13_9, bcell u13_10, bcell u13_11, bcell u13_12, bcell u13_13, bcell u13_14, bcell u13_15, .int .i32 n17, .int .i32 n19, .map none] ++ ((List.replicate (n10.toNat - (i10 + 1)) [.int .i32 0, .int .u8 0, .int .u8 0, .int .u8 0, .int .u8 0, .int .u8 0, .int .u8 0, .int .u8 0, .int .u8 0, .int .u8 0, .int .u8 0, .int .u8 0, .int .u8 0, .int .u8 0, .int .u8 0, .int .u8 0, .int .u8 0, .int .i32 0, .int .i32 0, .map none]).flatten ++ post10)) :: L10) P10 w := H
      (refine mvB ?_;((conv=>whnf);repeat(first|(refine mvT ?_;conv=>whnf)|(refine mvF ?_;conv=>whnf)|(refine cT (by rfl) ?_;conv=>whnf)|(refine cF (by rfl) ?_;conv=>whnf))))
      refine VC.cutB (fun q : Value × List Tg × Rd => [(0, .pointer (some ⟨p, 0, none⟩)), (2, .bool false), (7, .pointer (some ⟨pb, 0, none⟩)), (8, .int .i16 v), (9, .bool fx), (10, .pointer (some ⟨p, 0, none⟩)), (15, .int .i32 n7), (14, .slice (some ⟨g7, 0, none⟩) n7.toNat cap7), (16, .int .i32 i7), (17, .pointer (some ⟨g7, 0 + (i7 : Int).toNat * 3, none⟩)), (18, .pointer (some ⟨g7, 0 + (i7 : Int).toNat * 3, none⟩)), (22, .int .i32 n10), (21, .slice (some ⟨g10, 0, none⟩) n10.toNat cap10), (23, .int .i32 i10), (24, .pointer (some ⟨g10, 0 + (i10 : Int).toNat * 20, none⟩)), (25, .pointer (some ⟨g10, 0 + (i10 : Int).toNat * 20, none⟩))]) (fun q w' => rdTagsF fx s19 = q.2 ∧ St w0 G0 p pb q.2.2 ((g10, 176, es10.flatten ++ [.int .i32 n11, bcell u13_0, bcell u13_1, bcell u13_2, bcell u13_3, bcell u13_4, bcell u13_5, bcell u13_6, bcell u13_7, bcell u13_8, bcell u13_9, bcell u13_10, bcell u13_11, bcell u13_12, bcell u13_13, bcell u13_14, bcell u13_15, .int .i32 n17, .int .i32 n19, q.1] ++ ((List.replicate (n10.toNat - (i10 + 1)) [.int .i32 0, .int .u8 0, .int .u8 0, .int .u8 0, .int .u8 0, .int .u8 0, .int .u8 0, .int .u8 0, .int .u8 0, .int .u8 0, .int .u8 0, .int .u8 0, .int .u8 0, .int .u8 0, .int .u8 0, .int .u8 0, .int .u8 0, .int .i32 0, .int .i32 0, .map none]).flatten ++ post10)) :: L10) (fun w => TGf p q.1 q.2.1 w ∧ P10 w) w') ?_ ?_
      · refine cI (by rfl) (fun hc=>?_) (fun hc=>?_)
        · ((conv=>whnf);repeat(first|(refine mvT ?_;conv=>whnf)|(refine mvF ?_;conv=>whnf)|(refine cT (by rfl) ?_;conv=>whnf)|(refine cF (by rfl) ?_;conv=>whnf)))
          refine Does.mono H.tags ?_
          rintro r w ⟨m, u, s', rfl, hone, hr, H⟩
          ((conv=>whnf);repeat(first|(refine mvT ?_;conv=>whnf)|(refine mvF ?_;conv=>whnf)|(refine cT (by rfl) ?_;conv=>whnf)|(refine cF (by rfl) ?_;conv=>whnf)))
          refine H.st1 (v := m) 19 (rfl) (hone) rfl (by first | omega | (simp [hlen2]; done) | (simp [hlen2]; omega)) rfl (Nat.lt_of_lt_of_le (Nat.lt_succ_self _) (Nat.le_of_ble_eq_true rfl)) ?_
          intro w H
          ((conv=>whnf);repeat(first|(refine mvT ?_;conv=>whnf)|(refine mvF ?_;conv=>whnf)|(refine cT (by rfl) ?_;conv=>whnf)|(refine cF (by rfl) ?_;conv=>whnf)))
          exact ⟨(m, u, s'), ⟨rfl, rfl, rfl, rfl, rfl, rfl, rfl, rfl, rfl, rfl, rfl, rfl, rfl, rfl, rfl, rfl, trivial⟩, by rw [rdTagsF, if_pos hc]; exact hr, H⟩
        · ((conv=>whnf);repeat(first|(refine mvT ?_;conv=>whnf)|(refine mvF ?_;conv=>whnf)|(refine cT (by rfl) ?_;conv=>whnf)|(refine cF (by rfl) ?_;conv=>whnf)))
          exact ⟨(.map none, [], s19), ⟨rfl, rfl, rfl, rfl, rfl, rfl, rfl, rfl, rfl, rfl, rfl, rfl, rfl, rfl, rfl, rfl, trivial⟩, by rw [rdTagsF, if_neg (by rw [hc]; decide)], H.add fun w' _ => TagsR.nil _ _⟩
      clear H
      rintro ⟨m21, u21, s21⟩ w ⟨htg, H⟩
      dsimp only at htg H
      ((conv=>whnf);repeat(first|(refine mvT ?_;conv=>whnf)|(refine mvF ?_;conv=>whnf)|(refine cT (by rfl) ?_;conv=>whnf)|(refine cF (by rfl) ?_;conv=>whnf)))
      obtain ⟨P22, hP22⟩ : ∃ P : World → Prop, P = fun w => TGf p m21 u21 w ∧ P10 w := ⟨_, rfl⟩
      replace H : St w0 G0 p pb s21 ((g10, 176, es10.flatten ++ [.int .i32 n11, bcell u13_0, bcell u13_1, bcell u13_2, bcell u13_3, bcell u13_4, bcell u13_5, bcell u13_6, bcell u13_7, bcell u13_8, bcell u13_9, bcell u13_10, bcell u13_11, bcell u13_12, bcell u13_13, bcell u13_14, bcell u13_15, .int .i32 n17, .int .i32 n19, m21] ++ ((List.replicate (n10.toNat - (i10 + 1)) [.int .i32 0, .int .u8 0, .int .u8 0, .int .u8 0, .int .u8 0, .int .u8 0, .int .u8 0, .int .u8 0, .int .u8 0, .int .u8 0, .int .u8 0, .int .u8 0, .int .u8 0, .int .u8 0, .int .u8 0, .int .u8 0, .int .u8 0, .int .i32 0, .int .i32 0, .map none]).flatten ++ post10)) :: L10) P22 w := by rw [hP22]; exact H
      have hpart : rdPart 7 v fx dBeginQuorumEpochRequestTopicPartition si10 = (.mk 0 [] false [numT n11, .mk 0 [u13_0, u13_1, u13_2, u13_3, u13_4, u13_5, u13_6, u13_7, u13_8, u13_9, u13_10, u13_11, u13_12, u13_13, u13_14, u13_15] false [] [], numT n17, numT n19] u21, s21) := by
        unfold rdPart rdPartW
        rw [rdAll_yes (df := dfT 7) (rdField3.trans hr11) ⟨by decide, has_all hv⟩, rdAll_ver hr13 (by decide), rdAll_yes (df := dfT 7) (rdField3.trans hr17) ⟨by decide, has_all hv⟩, rdAll_yes (df := dfT 7) (rdField3.trans hr19) ⟨by decide, has_all hv⟩]
        simp only [rdAll]
        rw [htg]
      refine ⟨i10 + 1, ⟨rfl, rfl, ?_, rfl, rfl, rfl, rfl, rfl, rfl, rfl, rfl, rfl, rfl, rfl, trivial⟩, ⟨by omega, ListI.back hgo10 (LoopI.next hes10 hez10 hrn10 hts10 (cur := [.int .i32 n11, bcell u13_0, bcell u13_1, bcell u13_2, bcell u13_3, bcell u13_4, bcell u13_5, bcell u13_6, bcell u13_7, bcell u13_8, bcell u13_9, bcell u13_10, bcell u13_11, bcell u13_12, bcell u13_13, bcell u13_14, bcell u13_15, .int .i32 n17, .int .i32 n19, m21]) (x := .mk 0 [] false [numT n11, .mk 0 [u13_0, u13_1, u13_2, u13_3, u13_4, u13_5, u13_6, u13_7, u13_8, u13_9, u13_10, u13_11, u13_12, u13_13, u13_14, u13_15] false [] [], numT n17, numT n19] u21) (hpart) rfl (by rw [← hL10]; exact H) fun w hP => ?_)⟩, by omega⟩
      · show some (Value.int .i32 _) = _
        rw [IntKind.wrap_i32]
        simp only [Option.some.injEq, Value.int.injEq, true_and]
        omega
      · skip
        rw [hP22] at hP
        obtain ⟨hf22_, hP⟩ := hP
        rw [hP10] at hP
        exact ⟨QPt (QA1 (QF3 hn11) (QA1 (QF7 (u := [u13_0, u13_1, u13_2, u13_3, u13_4, u13_5, u13_6, u13_7, u13_8, u13_9, u13_10, u13_11, u13_12, u13_13, u13_14, u13_15]) rfl) (QA1 (QF3 hn17) (QA1 (QF3 hn19) (QA0))))) hf22_, hP⟩
    have hge10 : ¬ (i10 : Int) < n10 := of_decide_eq_false h9
    obtain ⟨l23, s23, hone23, hl23, hr23, H⟩ := H.done hge10 hln10 (nl := nlF (.mk 11 0 (-1) (-1) (-1) 0 10 dBeginQuorumEpochRequestTopicPartition) v) (sz := elZ true 7 10 dBeginQuorumEpochRequestTopicPartition) rfl hpL10 rfl
    ((conv=>whnf);repeat(first|(refine mvT ?_;conv=>whnf)|(refine mvF ?_;conv=>whnf)|(refine cT (by rfl) ?_;conv=>whnf)|(refine cF (by rfl) ?_;conv=>whnf)))
    obtain ⟨P24, hP24⟩ : ∃ P : World → Prop, P = fun w => ListR true (elZ true 7 10 dBeginQuorumEpochRequestTopicPartition) (elQ true 7 10 dBeginQuorumEpochRequestTopicPartition ⟨w, fun k => k ≠ p⟩) w (fun k => k ≠ p) a10 (.mk 0 [] (decide (n10 ≤ 0)) l23 []) ∧ P7 w := ⟨_, rfl⟩
    replace H : St w0 G0 p pb s23 ((g7, 123, es7.flatten ++ [str u8, .slice none 0 0, .map none] ++ ((List.replicate (n7.toNat - (i7 + 1)) [str [], .slice none 0 0, .map none]).flatten ++ post7)) :: L7) P24 w := by rw [hP24]; exact H
    refine H.st1 (v := a10) 1 (cells_one hone23) (hone23) rfl (by first | omega | (simp [hlen1]; done) | (simp [hlen1]; omega)) rfl (Nat.lt_of_lt_of_le (Nat.lt_succ_self _) (Nat.le_of_ble_eq_true rfl)) ?_
    intro w H
    ((conv=>whnf);repeat(first|(refine mvT ?_;conv=>whnf)|(refine mvF ?_;conv=>whnf)|(refine cT (by rfl) ?_;conv=>whnf)|(refine cF (by rfl) ?_;conv=>whnf)))
    replace H : St w0 G0 p pb s23 ((g7, 123, es7.flatten ++ [str u8, a10, .map none] ++ ((List.replicate (n7.toNat - (i7 + 1)) [str [], .slice none 0 0, .map none]).flatten ++ post7)) :: L7) P24 w := H
    (refine mvB ?_;((conv=>whnf);repeat(first|(refine mvT ?_;conv=>whnf)|(refine mvF ?_;conv=>whnf)|(refine cT (by rfl) ?_;conv=>whnf)|(refine cF (by rfl) ?_;conv=>whnf))))
    refine VC.cutB (fun q : Value × List Tg × Rd => [(0, .pointer (some ⟨p, 0, none⟩)), (2, .bool false), (7, .pointer (some ⟨pb, 0, none⟩)), (8, .int .i16 v), (9, .bool fx), (10, .pointer (some ⟨p, 0, none⟩)), (15, .int .i32 n7), (14, .slice (some ⟨g7, 0, none⟩) n7.toNat cap7), (16, .int .i32 i7), (17, .pointer (some ⟨g7, 0 + (i7 : Int).toNat * 3, none⟩)), (18, .pointer (some ⟨g7, 0 + (i7 : Int).toNat * 3, none⟩))]) (fun q w' => rdTagsF fx s23 = q.2 ∧ St w0 G0 p pb q.2.2 ((g7, 123, es7.flatten ++ [str u8, a10, q.1] ++ ((List.replicate (n7.toNat - (i7 + 1)) [str [], .slice none 0 0, .map none]).flatten ++ post7)) :: L7) (fun w => TGf p q.1 q.2.1 w ∧ P24 w) w') ?_ ?_
    · refine cI (by rfl) (fun hc=>?_) (fun hc=>?_)
      · ((conv=>whnf);repeat(first|(refine mvT ?_;conv=>whnf)|(refine mvF ?_;conv=>whnf)|(refine cT (by rfl) ?_;conv=>whnf)|(refine cF (by rfl) ?_;conv=>whnf)))
        refine Does.mono H.tags ?_
        rintro r w ⟨m, u, s', rfl, hone, hr, H⟩
        ((conv=>whnf);repeat(first|(refine mvT ?_;conv=>whnf)|(refine mvF ?_;conv=>whnf)|(refine cT (by rfl) ?_;conv=>whnf)|(refine cF (by rfl) ?_;conv=>whnf)))
        refine H.st1 (v := m) 2 (rfl) (hone) rfl (by first | omega | (simp [hlen1]; done) | (simp [hlen1]; omega)) rfl (Nat.lt_of_lt_of_le (Nat.lt_succ_self _) (Nat.le_of_ble_eq_true rfl)) ?_
        intro w H
        ((conv=>whnf);repeat(first|(refine mvT ?_;conv=>whnf)|(refine mvF ?_;conv=>whnf)|(refine cT (by rfl) ?_;conv=>whnf)|(refine cF (by rfl) ?_;conv=>whnf)))
        exact ⟨(m, u, s'), ⟨rfl, rfl, rfl, rfl, rfl, rfl, rfl, rfl, rfl, rfl, rfl, trivial⟩, by rw [rdTagsF, if_pos hc]; exact hr, H⟩
      · ((conv=>whnf);repeat(first|(refine mvT ?_;conv=>whnf)|(refine mvF ?_;conv=>whnf)|(refine cT (by rfl) ?_;conv=>whnf)|(refine cF (by rfl) ?_;conv=>whnf)))
        exact ⟨(.map none, [], s23), ⟨rfl, rfl, rfl, rfl, rfl, rfl, rfl, rfl, rfl, rfl, rfl, trivial⟩, by rw [rdTagsF, if_neg (by rw [hc]; decide)], H.add fun w' _ => TagsR.nil _ _⟩
    clear H
    rintro ⟨m26, u26, s26⟩ w ⟨htg, H⟩
    dsimp only at htg H
    ((conv=>whnf);repeat(first|(refine mvT ?_;conv=>whnf)|(refine mvF ?_;conv=>whnf)|(refine cT (by rfl) ?_;conv=>whnf)|(refine cF (by rfl) ?_;conv=>whnf)))
    obtain ⟨P27, hP27⟩ : ∃ P : World → Prop, P = fun w => TGf p m26 u26 w ∧ P24 w := ⟨_, rfl⟩
    replace H : St w0 G0 p pb s26 ((g7, 123, es7.flatten ++ [str u8, a10, m26] ++ ((List.replicate (n7.toNat - (i7 + 1)) [str [], .slice none 0 0, .map none]).flatten ++ post7)) :: L7) P27 w := by rw [hP27]; exact H
    have hpart : rdPart 8 v fx dBeginQuorumEpochRequestTopic si7 = (.mk 0 [] false [.mk 0 u8 false [] [], .mk 0 [] (decide (n10 ≤ 0)) l23 []] u26, s26) := by
      unfold rdPart rdPartW
      rw [rdAll_yes (df := dfT 8) (rdField8 (by decide) hr8) ⟨by decide, has_all hv⟩, rdAll_yes (df := dfT 8) ((rdField_list _ _ _ _ _ _ _ _ _ _ _).trans hr23) ⟨by decide, has_all hv⟩]
      simp only [rdAll]
      rw [htg]
    refine ⟨i7 + 1, ⟨rfl, rfl, ?_, rfl, rfl, rfl, rfl, rfl, rfl, trivial⟩, ⟨by omega, ListI.back hgo7 (LoopI.next hes7 hez7 hrn7 hts7 (cur := [str u8, a10, m26]) (x := .mk 0 [] false [.mk 0 u8 false [] [], .mk 0 [] (decide (n10 ≤ 0)) l23 []] u26) (hpart) rfl (by rw [← hL7]; exact H) fun w hP => ?_)⟩, by omega⟩
    · show some (Value.int .i32 _) = _
      rw [IntKind.wrap_i32]
      simp only [Option.some.injEq, Value.int.injEq, true_and]
      omega
    · skip
      rw [hP27] at hP
      obtain ⟨hf27_, hP⟩ := hP
      rw [hP24] at hP
      obtain ⟨hf24_, hP⟩ := hP
      rw [hP7] at hP
      exact ⟨QPt (QA1 (QF8 (by decide) u8) (QA1 (QF11 hl23 hf24_) (QA0))) hf27_, hP⟩
  have hge7 : ¬ (i7 : Int) < n7 := of_decide_eq_false h9
  obtain ⟨l28, s28, hone28, hl28, hr28, H⟩ := H.done hge7 hln7 (nl := nlF (.mk 11 0 (-1) (-1) (-1) 0 10 dBeginQuorumEpochRequestTopic) v) (sz := elZ true 8 10 dBeginQuorumEpochRequestTopic) rfl hpL7 rfl
  ((conv=>whnf);repeat(first|(refine mvT ?_;conv=>whnf)|(refine mvF ?_;conv=>whnf)|(refine cT (by rfl) ?_;conv=>whnf)|(refine cF (by rfl) ?_;conv=>whnf)))
  obtain ⟨P29, hP29⟩ : ∃ P : World → Prop, P = fun w => ListR true (elZ true 8 10 dBeginQuorumEpochRequestTopic) (elQ true 8 10 dBeginQuorumEpochRequestTopic ⟨w, fun k => k ≠ p⟩) w (fun k => k ≠ p) a7 (.mk 0 [] (decide (n7 ≤ 0)) l28 []) ∧ P2 w := ⟨_, rfl⟩
  replace H : St w0 G0 p pb s28 ((p, ty, [] ++ [.int .i16 v, c1, .int .i32 n4, .slice none 0 0, .slice none 0 0, .map none] ++ []) :: []) P29 w := by rw [hP29]; exact H
  refine H.st1 (v := a7) 3 (cells_one hone28) (hone28) rfl (by simp) rfl (Nat.lt_of_lt_of_le (Nat.lt_succ_self _) (Nat.le_of_ble_eq_true rfl)) ?_
  intro w H
  ((conv=>whnf);repeat(first|(refine mvT ?_;conv=>whnf)|(refine mvF ?_;conv=>whnf)|(refine cT (by rfl) ?_;conv=>whnf)|(refine cF (by rfl) ?_;conv=>whnf)))
  replace H : St w0 G0 p pb s28 ((p, ty, [] ++ [.int .i16 v, c1, .int .i32 n4, a7, .slice none 0 0, .map none] ++ []) :: []) P29 w := H
  refine VC.cutE (fun q : Value × Bool × List T × Rd => [(0, .pointer (some ⟨p, 0, none⟩)), (2, .bool false), (7, .pointer (some ⟨pb, 0, none⟩)), (8, .int .i16 v), (9, .bool fx), (10, .pointer (some ⟨p, 0, none⟩))]) (fun q w' => (q.2.1 = true → q.2.2.1 = []) ∧ (if hasF (.mk 11 1 (-1) (-1) (-1) 0 10 dBeginQuorumEpochRequestLeaderEndpoint) v = true then rdField 9 v fx (.mk 11 1 (-1) (-1) (-1) 0 10 dBeginQuorumEpochRequestLeaderEndpoint) s28 else (dfT 9 (.mk 11 1 (-1) (-1) (-1) 0 10 dBeginQuorumEpochRequestLeaderEndpoint), s28)) = (.mk 0 [] q.2.1 q.2.2.1 [], q.2.2.2) ∧ St w0 G0 p pb q.2.2.2 ((p, ty, [] ++ [.int .i16 v, c1, .int .i32 n4, a7, q.1, .map none] ++ []) :: []) (fun w => ListR true (elZ true 8 10 dBeginQuorumEpochRequestLeaderEndpoint) (elQ true 8 10 dBeginQuorumEpochRequestLeaderEndpoint ⟨w, fun k => k ≠ p⟩) w (fun k => k ≠ p) q.1 (.mk 0 [] (q.2.1) q.2.2.1 []) ∧ P29 w) w') ?_ ?_
  · refine cI (by rfl) (fun hcv=>?_) (fun hcv=>?_)
    · have hh : hasF (.mk 11 1 (-1) (-1) (-1) 0 10 dBeginQuorumEpochRequestLeaderEndpoint) v = true := by have := of_decide_eq_true hcv; rw [hasF_iff]; omega
      ((conv=>whnf);repeat(first|(refine mvT ?_;conv=>whnf)|(refine mvF ?_;conv=>whnf)|(refine cT (by rfl) ?_;conv=>whnf)|(refine cF (by rfl) ?_;conv=>whnf)))
      refine ldS (H.cell (o := 0) rfl (k := 4) rfl) ?_;((conv=>whnf);repeat(first|(refine mvT ?_;conv=>whnf)|(refine mvF ?_;conv=>whnf)|(refine cT (by rfl) ?_;conv=>whnf)|(refine cF (by rfl) ?_;conv=>whnf)))
      (refine mvB ?_;((conv=>whnf);repeat(first|(refine mvT ?_;conv=>whnf)|(refine mvF ?_;conv=>whnf)|(refine cT (by rfl) ?_;conv=>whnf)|(refine cF (by rfl) ?_;conv=>whnf))))
      refine VC.cutE (fun q : Int × Rd => [(32, .int .i32 q.1), (31, .slice none 0 0), (0, .pointer (some ⟨p, 0, none⟩)), (2, .bool false), (7, .pointer (some ⟨pb, 0, none⟩)), (8, .int .i16 v), (9, .bool fx), (10, .pointer (some ⟨p, 0, none⟩))]) (fun q w' => (-2147483648 ≤ q.1 ∧ q.1 ≤ 2147483647) ∧ rdLn fx s28 = q ∧ St w0 G0 p pb q.2 ((p, ty, [] ++ [.int .i16 v, c1, .int .i32 n4, a7, .slice none 0 0, .map none] ++ []) :: []) P29 w') ?_ ?_
      · refine cI (by rfl) (fun hc=>?_) (fun hc=>?_)
        · ((conv=>whnf);repeat(first|(refine mvT ?_;conv=>whnf)|(refine mvF ?_;conv=>whnf)|(refine cT (by rfl) ?_;conv=>whnf)|(refine cF (by rfl) ?_;conv=>whnf)))
          refine Does.mono H.lnc ?_
          rintro r w ⟨n, s', rfl, hn, hr, H⟩
          ((conv=>whnf);repeat(first|(refine mvT ?_;conv=>whnf)|(refine mvF ?_;conv=>whnf)|(refine cT (by rfl) ?_;conv=>whnf)|(refine cF (by rfl) ?_;conv=>whnf)))
          exact ⟨(n, s'), ⟨rfl, rfl, rfl, rfl, rfl, rfl, rfl, rfl, trivial⟩, hn, by rw [hc]; exact hr, H⟩
        · ((conv=>whnf);repeat(first|(refine mvT ?_;conv=>whnf)|(refine mvF ?_;conv=>whnf)|(refine cT (by rfl) ?_;conv=>whnf)|(refine cF (by rfl) ?_;conv=>whnf)))
          refine Does.mono H.lnp ?_
          rintro r w ⟨n, s', rfl, hn, hr, H⟩
          ((conv=>whnf);repeat(first|(refine mvT ?_;conv=>whnf)|(refine mvF ?_;conv=>whnf)|(refine cT (by rfl) ?_;conv=>whnf)|(refine cF (by rfl) ?_;conv=>whnf)))
          exact ⟨(n, s'), ⟨rfl, rfl, rfl, rfl, rfl, rfl, rfl, rfl, trivial⟩, hn, by rw [hc]; exact hr, H⟩
      clear H
      rintro ⟨n32, s32⟩ w ⟨hn32, hln32, H⟩
      dsimp only at hn32 hln32 H
      ((conv=>whnf);repeat(first|(refine mvT ?_;conv=>whnf)|(refine mvF ?_;conv=>whnf)|(refine cT (by rfl) ?_;conv=>whnf)|(refine cF (by rfl) ?_;conv=>whnf)))
      refine Does.mono H.ok ?_
      rintro r w ⟨rfl, H⟩
      ((conv=>whnf);repeat(first|(refine mvT ?_;conv=>whnf)|(refine mvF ?_;conv=>whnf)|(refine cT (by rfl) ?_;conv=>whnf)|(refine cF (by rfl) ?_;conv=>whnf)))
      refine cI (by rfl) (fun hbd=>?_) (fun hbd=>?_)
      · have hbd : s32.2 = true := by simpa using hbd
        ((conv=>whnf);repeat(first|(refine mvT ?_;conv=>whnf)|(refine mvF ?_;conv=>whnf)|(refine cT (by rfl) ?_;conv=>whnf)|(refine cF (by rfl) ?_;conv=>whnf)))
        refine Does.mono (H.done hL hp1) ?_
        rintro r w ⟨rfl, H⟩
        ((conv=>whnf);repeat(first|(refine mvT ?_;conv=>whnf)|(refine mvF ?_;conv=>whnf)|(refine cT (by rfl) ?_;conv=>whnf)|(refine cF (by rfl) ?_;conv=>whnf)))
        refine RdPost.early hbd (hup0 (?_)) H
        rw [tail_yes ((rdField8n (by decide)).trans hr1) ⟨by decide, has_all hv⟩, tail_ver hr4 (by decide), tail_yes ((rdField_list _ _ _ _ _ _ _ _ _ _ _).trans hr28) ⟨by decide, has_all hv⟩, tail_len ⟨by decide, hh⟩ hln32 hbd]
      have hbd : s32.2 = false := by simpa using hbd
      clear hbd
      ((conv=>whnf);repeat(first|(refine mvT ?_;conv=>whnf)|(refine mvF ?_;conv=>whnf)|(refine cT (by rfl) ?_;conv=>whnf)|(refine cF (by rfl) ?_;conv=>whnf)))
      refine cut_zero ?_
      ((conv=>whnf);repeat(first|(refine mvT ?_;conv=>whnf)|(refine mvF ?_;conv=>whnf)|(refine cT (by rfl) ?_;conv=>whnf)|(refine cF (by rfl) ?_;conv=>whnf)))
      refine VC.cutE (fun a : Value => [(32, .int .i32 n32), (31, a), (0, .pointer (some ⟨p, 0, none⟩)), (2, .bool false), (7, .pointer (some ⟨pb, 0, none⟩)), (8, .int .i16 v), (9, .bool fx), (10, .pointer (some ⟨p, 0, none⟩))]) (fun a w' => ListI w0 G0 p pb 128 [str [], str [], .int .u16 0, .map none] (elR 8 v fx 10 dBeginQuorumEpochRequestLeaderEndpoint) (elQ true 8 10 dBeginQuorumEpochRequestLeaderEndpoint) s32 n32 (decide (n32 ≤ 0)) ((p, ty, [] ++ [.int .i16 v, c1, .int .i32 n4, a7, .slice none 0 0, .map none] ++ []) :: []) P29 a 0 w') ?_ ?_
      · refine cI (by rfl) (fun hps=>?_) (fun hps=>?_)
        · have hps : 0 < n32 := by have := of_decide_eq_true hps; omega
          ((conv=>whnf);repeat(first|(refine mvT ?_;conv=>whnf)|(refine mvF ?_;conv=>whnf)|(refine cT (by rfl) ?_;conv=>whnf)|(refine cF (by rfl) ?_;conv=>whnf)))
          refine H.grow hps hn32.2 (by decide) rfl rfl (by decide) ?_
          intro g cap post w hc1 hc2 H
          ((conv=>whnf);repeat(first|(refine mvT ?_;conv=>whnf)|(refine mvF ?_;conv=>whnf)|(refine cT (by rfl) ?_;conv=>whnf)|(refine cF (by rfl) ?_;conv=>whnf)))
          exact ⟨_, ⟨rfl, rfl, rfl, rfl, rfl, rfl, rfl, rfl, trivial⟩, ListI.some hps (decide_eq_false (by omega)) hc1 hc2 H⟩
        · have hps : n32 ≤ 0 := by have := of_decide_eq_false hps; omega
          ((conv=>whnf);repeat(first|(refine mvT ?_;conv=>whnf)|(refine mvF ?_;conv=>whnf)|(refine cT (by rfl) ?_;conv=>whnf)|(refine cF (by rfl) ?_;conv=>whnf)))
          exact ⟨_, ⟨rfl, rfl, rfl, rfl, rfl, rfl, rfl, rfl, trivial⟩, ListI.none hps (decide_eq_true hps) H⟩
      clear H
      rintro a32 w H
      ((conv=>whnf);repeat(first|(refine mvT ?_;conv=>whnf)|(refine mvF ?_;conv=>whnf)|(refine cT (by rfl) ?_;conv=>whnf)|(refine cF (by rfl) ?_;conv=>whnf)))
      have hpL32 : inL ((p, ty, [] ++ [.int .i16 v, c1, .int .i32 n4, a7, .slice none 0 0, .map none] ++ []) :: []) p := inL.head _ _
      refine VL.loop (fun i : Nat => [(32, .int .i32 n32), (31, a32), (33, .int .i32 i), (0, .pointer (some ⟨p, 0, none⟩)), (2, .bool false), (7, .pointer (some ⟨pb, 0, none⟩)), (8, .int .i16 v), (9, .bool fx), (10, .pointer (some ⟨p, 0, none⟩))]) (fun i w' => i ≤ 2147483647 ∧ ListI w0 G0 p pb 128 [str [], str [], .int .u16 0, .map none] (elR 8 v fx 10 dBeginQuorumEpochRequestLeaderEndpoint) (elQ true 8 10 dBeginQuorumEpochRequestLeaderEndpoint) s32 n32 (decide (n32 ≤ 0)) ((p, ty, [] ++ [.int .i16 v, c1, .int .i32 n4, a7, .slice none 0 0, .map none] ++ []) :: []) P29 a32 i w') (fun i => n32.toNat - i) 0 ⟨rfl, rfl, rfl, rfl, rfl, rfl, rfl, rfl, rfl, trivial⟩ ⟨by decide, H⟩ ?_
      clear H
      rintro i32 w ⟨hi32, H⟩
      ((conv=>whnf);repeat(first|(refine mvT ?_;conv=>whnf)|(refine mvF ?_;conv=>whnf)|(refine cT (by rfl) ?_;conv=>whnf)|(refine cF (by rfl) ?_;conv=>whnf)))
      refine cI (by rfl) (fun h9=>?_) (fun h9=>?_)
      · have hlt32 : (i32 : Int) < n32 := of_decide_eq_true h9
        obtain ⟨g32, cap32, post32, rfl, hgo32, HI⟩ := H.go hlt32
        obtain ⟨es32, ts32, si32, hes32, hez32, hrn32, hts32, hlen1, H⟩ := HI.open hgo32.2.2.2.2
        obtain ⟨L32, hL32⟩ : ∃ L : List Ob, L = ((p, ty, [] ++ [.int .i16 v, c1, .int .i32 n4, a7, .slice none 0 0, .map none] ++ []) :: []) := ⟨_, rfl⟩
        rw [← hL32] at H hpL32
        obtain ⟨P32, hP32⟩ : ∃ P : World → Prop, P = fun w => (∀ (j : Nat) (c : List Value) (y : T), es32[j]? = some c → ts32[j]? = some y → elQ true 8 10 dBeginQuorumEpochRequestLeaderEndpoint ⟨w, fun k => k ≠ p⟩ c y) ∧ P29 w := ⟨_, rfl⟩
        rw [← hP32] at H
        replace H : St w0 G0 p pb si32 ((g32, 128, es32.flatten ++ [str [], str [], .int .u16 0, .map none] ++ ((List.replicate (n32.toNat - (i32 + 1)) [str [], str [], .int .u16 0, .map none]).flatten ++ post32)) :: L32) P32 w := H
        ((conv=>whnf);repeat(first|(refine mvT ?_;conv=>whnf)|(refine mvF ?_;conv=>whnf)|(refine cT (by rfl) ?_;conv=>whnf)|(refine cF (by rfl) ?_;conv=>whnf)))
        refine ⟨g32, 0, rfl, ⟨by omega, by omega⟩, ?_⟩
        ((conv=>whnf);repeat(first|(refine mvT ?_;conv=>whnf)|(refine mvF ?_;conv=>whnf)|(refine cT (by rfl) ?_;conv=>whnf)|(refine cF (by rfl) ?_;conv=>whnf)))
        refine Does.mono (dfBeginQuorumEpochRequestLeaderEndpoint (pre := es32.flatten) (cur := [str [], str [], .int .u16 0, .map none]) (post := ((List.replicate (n32.toNat - (i32 + 1)) [str [], str [], .int .u16 0, .map none]).flatten ++ post32)) H.head (by first | (rw [hlen1]; simp; done) | (simp [hlen1]; done) | (simp [hlen1]; omega)) rfl) ?_
        rintro rd w2 ⟨hdf, hxd⟩
        replace H := H.put hdf hxd
        clear hdf hxd
        replace H : St w0 G0 p pb si32 ((g32, 128, es32.flatten ++ [str [], str [], .int .u16 0, .map none] ++ ((List.replicate (n32.toNat - (i32 + 1)) [str [], str [], .int .u16 0, .map none]).flatten ++ post32)) :: L32) P32 w2 := H
        ((conv=>whnf);repeat(first|(refine mvT ?_;conv=>whnf)|(refine mvF ?_;conv=>whnf)|(refine cT (by rfl) ?_;conv=>whnf)|(refine cF (by rfl) ?_;conv=>whnf)))
        have hup32 : tailBad 8 v fx dBeginQuorumEpochRequestLeaderEndpoint si32 = true → (rdPart 9 v fx dBeginQuorumEpochRequest (l, false)).2.2 = true := by
          intro hb
          refine hup0 ?_
          rw [tail_yes ((rdField8n (by decide)).trans hr1) ⟨by decide, has_all hv⟩, tail_ver hr4 (by decide), tail_yes ((rdField_list _ _ _ _ _ _ _ _ _ _ _).trans hr28) ⟨by decide, has_all hv⟩, tail_el ⟨by decide, hh⟩ hln32 hgo32.2.2.2.2 hrn32 hb]
        (refine mvB ?_;((conv=>whnf);repeat(first|(refine mvT ?_;conv=>whnf)|(refine mvF ?_;conv=>whnf)|(refine cT (by rfl) ?_;conv=>whnf)|(refine cF (by rfl) ?_;conv=>whnf))))
        refine VC.cutE (fun q : List UInt8 × Rd => [(36, str q.1), (0, .pointer (some ⟨p, 0, none⟩)), (2, .bool false), (7, .pointer (some ⟨pb, 0, none⟩)), (8, .int .i16 v), (9, .bool fx), (10, .pointer (some ⟨p, 0, none⟩)), (32, .int .i32 n32), (31, .slice (some ⟨g32, 0, none⟩) n32.toNat cap32), (33, .int .i32 i32), (34, .pointer (some ⟨g32, 0 + (i32 : Int).toNat * 4, none⟩)), (35, .pointer (some ⟨g32, 0 + (i32 : Int).toNat * 4, none⟩))]) (fun q w' => rdTx fx si32 = q ∧ St w0 G0 p pb q.2 ((g32, 128, es32.flatten ++ [str [], str [], .int .u16 0, .map none] ++ ((List.replicate (n32.toNat - (i32 + 1)) [str [], str [], .int .u16 0, .map none]).flatten ++ post32)) :: L32) P32 w') ?_ ?_
        · refine cI (by rfl) (fun hc=>?_) (fun hc=>?_)
          · ((conv=>whnf);repeat(first|(refine mvT ?_;conv=>whnf)|(refine mvF ?_;conv=>whnf)|(refine cT (by rfl) ?_;conv=>whnf)|(refine cF (by rfl) ?_;conv=>whnf)))
            refine Does.mono H.txc ?_
            rintro r w ⟨u, s', rfl, hr, H⟩
            ((conv=>whnf);repeat(first|(refine mvT ?_;conv=>whnf)|(refine mvF ?_;conv=>whnf)|(refine cT (by rfl) ?_;conv=>whnf)|(refine cF (by rfl) ?_;conv=>whnf)))
            exact ⟨(u, s'), ⟨rfl, rfl, rfl, rfl, rfl, rfl, rfl, rfl, rfl, rfl, rfl, rfl, trivial⟩, by rw [hc]; exact hr, H⟩
          · ((conv=>whnf);repeat(first|(refine mvT ?_;conv=>whnf)|(refine mvF ?_;conv=>whnf)|(refine cT (by rfl) ?_;conv=>whnf)|(refine cF (by rfl) ?_;conv=>whnf)))
            refine Does.mono H.txp ?_
            rintro r w ⟨u, s', rfl, hr, H⟩
            ((conv=>whnf);repeat(first|(refine mvT ?_;conv=>whnf)|(refine mvF ?_;conv=>whnf)|(refine cT (by rfl) ?_;conv=>whnf)|(refine cF (by rfl) ?_;conv=>whnf)))
            exact ⟨(u, s'), ⟨rfl, rfl, rfl, rfl, rfl, rfl, rfl, rfl, rfl, rfl, rfl, rfl, trivial⟩, by rw [hc]; exact hr, H⟩
        clear H
        rintro ⟨u33, s33⟩ w ⟨hr33, H⟩
        dsimp only at hr33 H
        ((conv=>whnf);repeat(first|(refine mvT ?_;conv=>whnf)|(refine mvF ?_;conv=>whnf)|(refine cT (by rfl) ?_;conv=>whnf)|(refine cF (by rfl) ?_;conv=>whnf)))
        refine H.st1 (v := str u33) 0 (rfl) (rfl) rfl (by first | omega | (simp [hlen1]; done) | (simp [hlen1]; omega)) rfl (Nat.lt_of_lt_of_le (Nat.lt_succ_self _) (Nat.le_of_ble_eq_true rfl)) ?_
        intro w H
        ((conv=>whnf);repeat(first|(refine mvT ?_;conv=>whnf)|(refine mvF ?_;conv=>whnf)|(refine cT (by rfl) ?_;conv=>whnf)|(refine cF (by rfl) ?_;conv=>whnf)))
        replace H : St w0 G0 p pb s33 ((g32, 128, es32.flatten ++ [str u33, str [], .int .u16 0, .map none] ++ ((List.replicate (n32.toNat - (i32 + 1)) [str [], str [], .int .u16 0, .map none]).flatten ++ post32)) :: L32) P32 w := H
        (refine mvB ?_;((conv=>whnf);repeat(first|(refine mvT ?_;conv=>whnf)|(refine mvF ?_;conv=>whnf)|(refine cT (by rfl) ?_;conv=>whnf)|(refine cF (by rfl) ?_;conv=>whnf))))
        refine VC.cutE (fun q : List UInt8 × Rd => [(37, str q.1), (0, .pointer (some ⟨p, 0, none⟩)), (2, .bool false), (7, .pointer (some ⟨pb, 0, none⟩)), (8, .int .i16 v), (9, .bool fx), (10, .pointer (some ⟨p, 0, none⟩)), (32, .int .i32 n32), (31, .slice (some ⟨g32, 0, none⟩) n32.toNat cap32), (33, .int .i32 i32), (34, .pointer (some ⟨g32, 0 + (i32 : Int).toNat * 4, none⟩)), (35, .pointer (some ⟨g32, 0 + (i32 : Int).toNat * 4, none⟩))]) (fun q w' => rdTx fx s33 = q ∧ St w0 G0 p pb q.2 ((g32, 128, es32.flatten ++ [str u33, str [], .int .u16 0, .map none] ++ ((List.replicate (n32.toNat - (i32 + 1)) [str [], str [], .int .u16 0, .map none]).flatten ++ post32)) :: L32) P32 w') ?_ ?_
        · refine cI (by rfl) (fun hc=>?_) (fun hc=>?_)
          · ((conv=>whnf);repeat(first|(refine mvT ?_;conv=>whnf)|(refine mvF ?_;conv=>whnf)|(refine cT (by rfl) ?_;conv=>whnf)|(refine cF (by rfl) ?_;conv=>whnf)))
            refine Does.mono H.txc ?_
            rintro r w ⟨u, s', rfl, hr, H⟩
            ((conv=>whnf);repeat(first|(refine mvT ?_;conv=>whnf)|(refine mvF ?_;conv=>whnf)|(refine cT (by rfl) ?_;conv=>whnf)|(refine cF (by rfl) ?_;conv=>whnf)))
            exact ⟨(u, s'), ⟨rfl, rfl, rfl, rfl, rfl, rfl, rfl, rfl, rfl, rfl, rfl, rfl, trivial⟩, by rw [hc]; exact hr, H⟩
          · ((conv=>whnf);repeat(first|(refine mvT ?_;conv=>whnf)|(refine mvF ?_;conv=>whnf)|(refine cT (by rfl) ?_;conv=>whnf)|(refine cF (by rfl) ?_;conv=>whnf)))
            refine Does.mono H.txp ?_
            rintro r w ⟨u, s', rfl, hr, H⟩
            ((conv=>whnf);repeat(first|(refine mvT ?_;conv=>whnf)|(refine mvF ?_;conv=>whnf)|(refine cT (by rfl) ?_;conv=>whnf)|(refine cF (by rfl) ?_;conv=>whnf)))
            exact ⟨(u, s'), ⟨rfl, rfl, rfl, rfl, rfl, rfl, rfl, rfl, rfl, rfl, rfl, rfl, trivial⟩, by rw [hc]; exact hr, H⟩
        clear H
        rintro ⟨u35, s35⟩ w ⟨hr35, H⟩
        dsimp only at hr35 H
        ((conv=>whnf);repeat(first|(refine mvT ?_;conv=>whnf)|(refine mvF ?_;conv=>whnf)|(refine cT (by rfl) ?_;conv=>whnf)|(refine cF (by rfl) ?_;conv=>whnf)))
        refine H.st1 (v := str u35) 1 (rfl) (rfl) rfl (by first | omega | (simp [hlen1]; done) | (simp [hlen1]; omega)) rfl (Nat.lt_of_lt_of_le (Nat.lt_succ_self _) (Nat.le_of_ble_eq_true rfl)) ?_
        intro w H
        ((conv=>whnf);repeat(first|(refine mvT ?_;conv=>whnf)|(refine mvF ?_;conv=>whnf)|(refine cT (by rfl) ?_;conv=>whnf)|(refine cF (by rfl) ?_;conv=>whnf)))
        replace H : St w0 G0 p pb s35 ((g32, 128, es32.flatten ++ [str u33, str u35, .int .u16 0, .map none] ++ ((List.replicate (n32.toNat - (i32 + 1)) [str [], str [], .int .u16 0, .map none]).flatten ++ post32)) :: L32) P32 w := H
        refine Does.mono H.uint16 ?_
        rintro r w ⟨n37, s37, rfl, hn37, hr37, H⟩
        ((conv=>whnf);repeat(first|(refine mvT ?_;conv=>whnf)|(refine mvF ?_;conv=>whnf)|(refine cT (by rfl) ?_;conv=>whnf)|(refine cF (by rfl) ?_;conv=>whnf)))
        refine H.st1 (v := .int .u16 n37) 2 (rfl) (rfl) rfl (by first | omega | (simp [hlen1]; done) | (simp [hlen1]; omega)) rfl (Nat.lt_of_lt_of_le (Nat.lt_succ_self _) (Nat.le_of_ble_eq_true rfl)) ?_
        intro w H
        ((conv=>whnf);repeat(first|(refine mvT ?_;conv=>whnf)|(refine mvF ?_;conv=>whnf)|(refine cT (by rfl) ?_;conv=>whnf)|(refine cF (by rfl) ?_;conv=>whnf)))
        replace H : St w0 G0 p pb s37 ((g32, 128, es32.flatten ++ [str u33, str u35, .int .u16 n37, .map none] ++ ((List.replicate (n32.toNat - (i32 + 1)) [str [], str [], .int .u16 0, .map none]).flatten ++ post32)) :: L32) P32 w := H
        (refine mvB ?_;((conv=>whnf);repeat(first|(refine mvT ?_;conv=>whnf)|(refine mvF ?_;conv=>whnf)|(refine cT (by rfl) ?_;conv=>whnf)|(refine cF (by rfl) ?_;conv=>whnf))))
        refine VC.cutB (fun q : Value × List Tg × Rd => [(0, .pointer (some ⟨p, 0, none⟩)), (2, .bool false), (7, .pointer (some ⟨pb, 0, none⟩)), (8, .int .i16 v), (9, .bool fx), (10, .pointer (some ⟨p, 0, none⟩)), (32, .int .i32 n32), (31, .slice (some ⟨g32, 0, none⟩) n32.toNat cap32), (33, .int .i32 i32), (34, .pointer (some ⟨g32, 0 + (i32 : Int).toNat * 4, none⟩)), (35, .pointer (some ⟨g32, 0 + (i32 : Int).toNat * 4, none⟩))]) (fun q w' => rdTagsF fx s37 = q.2 ∧ St w0 G0 p pb q.2.2 ((g32, 128, es32.flatten ++ [str u33, str u35, .int .u16 n37, q.1] ++ ((List.replicate (n32.toNat - (i32 + 1)) [str [], str [], .int .u16 0, .map none]).flatten ++ post32)) :: L32) (fun w => TGf p q.1 q.2.1 w ∧ P32 w) w') ?_ ?_
        · refine cI (by rfl) (fun hc=>?_) (fun hc=>?_)
          · ((conv=>whnf);repeat(first|(refine mvT ?_;conv=>whnf)|(refine mvF ?_;conv=>whnf)|(refine cT (by rfl) ?_;conv=>whnf)|(refine cF (by rfl) ?_;conv=>whnf)))
            refine Does.mono H.tags ?_
            rintro r w ⟨m, u, s', rfl, hone, hr, H⟩
            ((conv=>whnf);repeat(first|(refine mvT ?_;conv=>whnf)|(refine mvF ?_;conv=>whnf)|(refine cT (by rfl) ?_;conv=>whnf)|(refine cF (by rfl) ?_;conv=>whnf)))
            refine H.st1 (v := m) 3 (rfl) (hone) rfl (by first | omega | (simp [hlen1]; done) | (simp [hlen1]; omega)) rfl (Nat.lt_of_lt_of_le (Nat.lt_succ_self _) (Nat.le_of_ble_eq_true rfl)) ?_
            intro w H
            ((conv=>whnf);repeat(first|(refine mvT ?_;conv=>whnf)|(refine mvF ?_;conv=>whnf)|(refine cT (by rfl) ?_;conv=>whnf)|(refine cF (by rfl) ?_;conv=>whnf)))
            exact ⟨(m, u, s'), ⟨rfl, rfl, rfl, rfl, rfl, rfl, rfl, rfl, rfl, rfl, rfl, trivial⟩, by rw [rdTagsF, if_pos hc]; exact hr, H⟩
          · ((conv=>whnf);repeat(first|(refine mvT ?_;conv=>whnf)|(refine mvF ?_;conv=>whnf)|(refine cT (by rfl) ?_;conv=>whnf)|(refine cF (by rfl) ?_;conv=>whnf)))
            exact ⟨(.map none, [], s37), ⟨rfl, rfl, rfl, rfl, rfl, rfl, rfl, rfl, rfl, rfl, rfl, trivial⟩, by rw [rdTagsF, if_neg (by rw [hc]; decide)], H.add fun w' _ => TagsR.nil _ _⟩
        clear H
        rintro ⟨m39, u39, s39⟩ w ⟨htg, H⟩
        dsimp only at htg H
        ((conv=>whnf);repeat(first|(refine mvT ?_;conv=>whnf)|(refine mvF ?_;conv=>whnf)|(refine cT (by rfl) ?_;conv=>whnf)|(refine cF (by rfl) ?_;conv=>whnf)))
        obtain ⟨P40, hP40⟩ : ∃ P : World → Prop, P = fun w => TGf p m39 u39 w ∧ P32 w := ⟨_, rfl⟩
        replace H : St w0 G0 p pb s39 ((g32, 128, es32.flatten ++ [str u33, str u35, .int .u16 n37, m39] ++ ((List.replicate (n32.toNat - (i32 + 1)) [str [], str [], .int .u16 0, .map none]).flatten ++ post32)) :: L32) P40 w := by rw [hP40]; exact H
        have hpart : rdPart 8 v fx dBeginQuorumEpochRequestLeaderEndpoint si32 = (.mk 0 [] false [.mk 0 u33 false [] [], .mk 0 u35 false [] [], numT n37] u39, s39) := by
          unfold rdPart rdPartW
          rw [rdAll_yes (df := dfT 8) (rdField8 (by decide) hr33) ⟨by decide, has_all hv⟩, rdAll_yes (df := dfT 8) (rdField8 (by decide) hr35) ⟨by decide, has_all hv⟩, rdAll_yes (df := dfT 8) (rdField5.trans hr37) ⟨by decide, has_all hv⟩]
          simp only [rdAll]
          rw [htg]
        refine ⟨i32 + 1, ⟨rfl, rfl, ?_, rfl, rfl, rfl, rfl, rfl, rfl, trivial⟩, ⟨by omega, ListI.back hgo32 (LoopI.next hes32 hez32 hrn32 hts32 (cur := [str u33, str u35, .int .u16 n37, m39]) (x := .mk 0 [] false [.mk 0 u33 false [] [], .mk 0 u35 false [] [], numT n37] u39) (hpart) rfl (by rw [← hL32]; exact H) fun w hP => ?_)⟩, by omega⟩
        · show some (Value.int .i32 _) = _
          rw [IntKind.wrap_i32]
          simp only [Option.some.injEq, Value.int.injEq, true_and]
          omega
        · skip
          rw [hP40] at hP
          obtain ⟨hf40_, hP⟩ := hP
          rw [hP32] at hP
          exact ⟨QPt (QA1 (QF8 (by decide) u33) (QA1 (QF8 (by decide) u35) (QA1 (QF5 hn37) (QA0)))) hf40_, hP⟩
      have hge32 : ¬ (i32 : Int) < n32 := of_decide_eq_false h9
      obtain ⟨l41, s41, hone41, hl41, hr41, H⟩ := H.done hge32 hln32 (nl := nlF (.mk 11 1 (-1) (-1) (-1) 0 10 dBeginQuorumEpochRequestLeaderEndpoint) v) (sz := elZ true 8 10 dBeginQuorumEpochRequestLeaderEndpoint) rfl hpL32 rfl
      ((conv=>whnf);repeat(first|(refine mvT ?_;conv=>whnf)|(refine mvF ?_;conv=>whnf)|(refine cT (by rfl) ?_;conv=>whnf)|(refine cF (by rfl) ?_;conv=>whnf)))
      obtain ⟨P42, hP42⟩ : ∃ P : World → Prop, P = fun w => ListR true (elZ true 8 10 dBeginQuorumEpochRequestLeaderEndpoint) (elQ true 8 10 dBeginQuorumEpochRequestLeaderEndpoint ⟨w, fun k => k ≠ p⟩) w (fun k => k ≠ p) a32 (.mk 0 [] (decide (n32 ≤ 0)) l41 []) ∧ P29 w := ⟨_, rfl⟩
      replace H : St w0 G0 p pb s41 ((p, ty, [] ++ [.int .i16 v, c1, .int .i32 n4, a7, .slice none 0 0, .map none] ++ []) :: []) P42 w := by rw [hP42]; exact H
      refine H.st1 (v := a32) 4 (cells_one hone41) (hone41) rfl (by simp) rfl (Nat.lt_of_lt_of_le (Nat.lt_succ_self _) (Nat.le_of_ble_eq_true rfl)) ?_
      intro w H
      ((conv=>whnf);repeat(first|(refine mvT ?_;conv=>whnf)|(refine mvF ?_;conv=>whnf)|(refine cT (by rfl) ?_;conv=>whnf)|(refine cF (by rfl) ?_;conv=>whnf)))
      replace H : St w0 G0 p pb s41 ((p, ty, [] ++ [.int .i16 v, c1, .int .i32 n4, a7, a32, .map none] ++ []) :: []) P42 w := H
      exact ⟨(a32, decide (n32 ≤ 0), l41, s41), ⟨rfl, rfl, rfl, rfl, rfl, rfl, trivial⟩, hl41, by rw [if_pos hh]; exact ((rdField_list _ _ _ _ _ _ _ _ _ _ _).trans hr41), by rw [hP42] at H; exact H⟩
    · ((conv=>whnf);repeat(first|(refine mvT ?_;conv=>whnf)|(refine mvF ?_;conv=>whnf)|(refine cT (by rfl) ?_;conv=>whnf)|(refine cF (by rfl) ?_;conv=>whnf)))
      have hh : ¬ hasF (.mk 11 1 (-1) (-1) (-1) 0 10 dBeginQuorumEpochRequestLeaderEndpoint) v = true := by have := of_decide_eq_false hcv; rw [hasF_iff]; omega
      exact ⟨(.slice none 0 0, true, [], s28), ⟨rfl, rfl, rfl, rfl, rfl, rfl, trivial⟩, fun _ => rfl, by rw [if_neg hh]; rfl, H.add fun w' _ => .inl ⟨rfl, rfl⟩⟩
  clear H
  rintro ⟨c31, nl31, l31, s31⟩ w ⟨hnl31, hr31, H⟩
  dsimp only at hnl31 hr31 H
  ((conv=>whnf);repeat(first|(refine mvT ?_;conv=>whnf)|(refine mvF ?_;conv=>whnf)|(refine cT (by rfl) ?_;conv=>whnf)|(refine cF (by rfl) ?_;conv=>whnf)))
  obtain ⟨P44, hP44⟩ : ∃ P : World → Prop, P = fun w => ListR true (elZ true 8 10 dBeginQuorumEpochRequestLeaderEndpoint) (elQ true 8 10 dBeginQuorumEpochRequestLeaderEndpoint ⟨w, fun k => k ≠ p⟩) w (fun k => k ≠ p) c31 (.mk 0 [] (nl31) l31 []) ∧ P29 w := ⟨_, rfl⟩
  replace H : St w0 G0 p pb s31 ((p, ty, [] ++ [.int .i16 v, c1, .int .i32 n4, a7, c31, .map none] ++ []) :: []) P44 w := by rw [hP44]; exact H
  (refine mvB ?_;((conv=>whnf);repeat(first|(refine mvT ?_;conv=>whnf)|(refine mvF ?_;conv=>whnf)|(refine cT (by rfl) ?_;conv=>whnf)|(refine cF (by rfl) ?_;conv=>whnf))))
  refine VC.cutE (fun q : Value × List Tg × Rd => [(0, .pointer (some ⟨p, 0, none⟩)), (2, .bool false), (7, .pointer (some ⟨pb, 0, none⟩)), (8, .int .i16 v), (9, .bool fx), (10, .pointer (some ⟨p, 0, none⟩))]) (fun q w' => rdTagsF fx s31 = q.2 ∧ St w0 G0 p pb q.2.2 ((p, ty, [] ++ [.int .i16 v, c1, .int .i32 n4, a7, c31, q.1] ++ []) :: []) (fun w => TGf p q.1 q.2.1 w ∧ P44 w) w') ?_ ?_
  · refine cI (by rfl) (fun hc=>?_) (fun hc=>?_)
    · ((conv=>whnf);repeat(first|(refine mvT ?_;conv=>whnf)|(refine mvF ?_;conv=>whnf)|(refine cT (by rfl) ?_;conv=>whnf)|(refine cF (by rfl) ?_;conv=>whnf)))
      refine Does.mono H.tags ?_
      rintro r w ⟨m, u, s', rfl, hone, hr, H⟩
      ((conv=>whnf);repeat(first|(refine mvT ?_;conv=>whnf)|(refine mvF ?_;conv=>whnf)|(refine cT (by rfl) ?_;conv=>whnf)|(refine cF (by rfl) ?_;conv=>whnf)))
      refine H.st1 (v := m) 5 (rfl) (hone) rfl (by simp) rfl (Nat.lt_of_lt_of_le (Nat.lt_succ_self _) (Nat.le_of_ble_eq_true rfl)) ?_
      intro w H
      ((conv=>whnf);repeat(first|(refine mvT ?_;conv=>whnf)|(refine mvF ?_;conv=>whnf)|(refine cT (by rfl) ?_;conv=>whnf)|(refine cF (by rfl) ?_;conv=>whnf)))
      exact ⟨(m, u, s'), ⟨rfl, rfl, rfl, rfl, rfl, rfl, trivial⟩, by rw [rdTagsF, if_pos hc]; exact hr, H⟩
    · ((conv=>whnf);repeat(first|(refine mvT ?_;conv=>whnf)|(refine mvF ?_;conv=>whnf)|(refine cT (by rfl) ?_;conv=>whnf)|(refine cF (by rfl) ?_;conv=>whnf)))
      exact ⟨(.map none, [], s31), ⟨rfl, rfl, rfl, rfl, rfl, rfl, trivial⟩, by rw [rdTagsF, if_neg (by rw [hc]; decide)], H.add fun w' _ => TagsR.nil _ _⟩
  clear H
  rintro ⟨m45, u45, s45⟩ w ⟨htg, H⟩
  dsimp only at htg H
  ((conv=>whnf);repeat(first|(refine mvT ?_;conv=>whnf)|(refine mvF ?_;conv=>whnf)|(refine cT (by rfl) ?_;conv=>whnf)|(refine cF (by rfl) ?_;conv=>whnf)))
  obtain ⟨P46, hP46⟩ : ∃ P : World → Prop, P = fun w => TGf p m45 u45 w ∧ P44 w := ⟨_, rfl⟩
  replace H : St w0 G0 p pb s45 ((p, ty, [] ++ [.int .i16 v, c1, .int .i32 n4, a7, c31, m45] ++ []) :: []) P46 w := by rw [hP46]; exact H
  have hpart : rdPart 9 v fx dBeginQuorumEpochRequest (l, false) = (.mk 0 [] false [.mk 0 u1 nl1 [] [], numT n4, .mk 0 [] (decide (n7 ≤ 0)) l28 [], .mk 0 [] nl31 l31 []] u45, s45) := by
    unfold rdPart rdPartW
    rw [rdAll_yes (df := dfT 9) ((rdField8n (by decide)).trans hr1) ⟨by decide, has_all hv⟩, rdAll_ver hr4 (by decide), rdAll_yes (df := dfT 9) ((rdField_list _ _ _ _ _ _ _ _ _ _ _).trans hr28) ⟨by decide, has_all hv⟩, rdAll_ver hr31 (by decide)]
    simp only [rdAll]
    rw [htg]
  refine Does.mono (H.done hL hp1) ?_
  rintro r w ⟨rfl, H⟩
  ((conv=>whnf);repeat(first|(refine mvT ?_;conv=>whnf)|(refine mvF ?_;conv=>whnf)|(refine cT (by rfl) ?_;conv=>whnf)|(refine cF (by rfl) ?_;conv=>whnf)))
  refine RdPost.end hpart H fun hP => ?_
  rw [hP46] at hP
  obtain ⟨hf46_, hP⟩ := hP
  rw [hP44] at hP
  obtain ⟨hf44_, hP⟩ := hP
  rw [hP29] at hP
  obtain ⟨hf29_, hP⟩ := hP
  rw [hP2] at hP
  obtain ⟨hf2_, hP⟩ := hP
  exact QPt (QA1 (QF8n (by decide) hnl1 hf2_) (QA1 (QF3 hn4) (QA1 (QF11 hl28 hf29_) (QA1 (QF11 hnl31 hf44_) (QA0))))) hf46_
end Go.Proofs.YtmmieooipcfbiaaGreatDoor.K
