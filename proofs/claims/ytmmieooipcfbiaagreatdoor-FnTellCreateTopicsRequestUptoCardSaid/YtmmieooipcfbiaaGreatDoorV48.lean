/- Reading of CreateTopicsRequest. -/
import Derived.Test.YtmmieooipcfbiaaGreatDoorE5
set_option linter.unusedVariables false
set_option linter.unusedSimpArgs false
namespace Go.Proofs.YtmmieooipcfbiaaGreatDoor.K
open Go
set_option maxHeartbeats 4000000
set_option maxRecDepth 100000

abbrev dCreateTopicsRequestTopicReplicaAssignment : List Fd := [.mk 3 0 (-1) (-1) (-1) 0 0 [], .mk 11 0 (-1) (-1) (-1) 0 3 []]
abbrev dCreateTopicsRequestTopicConfig : List Fd := [.mk 8 0 (-1) (-1) (-1) 0 0 [], .mk 8 0 (-1) 0 (-1) 0 0 []]
abbrev dCreateTopicsRequestTopic : List Fd := [.mk 8 0 (-1) (-1) (-1) 0 0 [], .mk 3 0 (-1) (-1) (-1) 0 0 [], .mk 2 0 (-1) (-1) (-1) 0 0 [], .mk 11 0 (-1) (-1) (-1) 0 10 dCreateTopicsRequestTopicReplicaAssignment, .mk 11 0 (-1) (-1) (-1) 0 10 dCreateTopicsRequestTopicConfig]
abbrev dCreateTopicsRequest : List Fd := [.mk 11 0 (-1) (-1) (-1) 0 10 dCreateTopicsRequestTopic, .mk 3 0 (-1) (-1) (-1) 60000 0 [], .mk 0 1 (-1) (-1) (-1) 0 0 []]
theorem sCreateTopicsRequestTopicReplicaAssignment (w : World) : Does X.P 98 #[] w fun r w' => FdsR w' (fun k => w.heap.size ≤ k) r dCreateTopicsRequestTopicReplicaAssignment ∧ Ext nob w w' := by
  have hx0 : Ext nob w w := Ext.refl _ _
  refine Does.go (X := X) (l := []) Tryz.func98 rfl (by kernel_rfl) (by kernel_rfl) _ rfl ?_
  ((conv=>whnf);repeat(first|(refine mvT ?_;conv=>whnf)|(refine mvF ?_;conv=>whnf)|(refine cT (by rfl) ?_;conv=>whnf)|(refine cF (by rfl) ?_;conv=>whnf)))
  have hxs := hx0
  intro b wb hb ho hx
  have hx0 := hx0.e0 hx
  ((conv=>whnf);repeat(first|(refine mvT ?_;conv=>whnf)|(refine mvF ?_;conv=>whnf)|(refine cT (by rfl) ?_;conv=>whnf)|(refine cF (by rfl) ?_;conv=>whnf)))
  refine ⟨?_, hx0⟩
  exact FdL.fds (cs := [[.int .i64 3, .int .i64 0, .int .i64 (-1), .int .i64 (-1), .int .i64 (-1), .int .i64 0, .int .i64 0, .slice none 0 0], [.int .i64 11, .int .i64 0, .int .i64 (-1), .int .i64 (-1), .int .i64 (-1), .int .i64 0, .int .i64 3, .slice none 0 0]])
    ⟨fdLeaf _ _ _ _ _ _ _ _ _, fdLeaf _ _ _ _ _ _ _ _ _, trivial⟩ ho rfl (by decide) (by have := hxs.size; omega)
theorem sCreateTopicsRequestTopicConfig (w : World) : Does X.P 99 #[] w fun r w' => FdsR w' (fun k => w.heap.size ≤ k) r dCreateTopicsRequestTopicConfig ∧ Ext nob w w' := by
  have hx0 : Ext nob w w := Ext.refl _ _
  refine Does.go (X := X) (l := []) Tryz.func99 rfl (by kernel_rfl) (by kernel_rfl) _ rfl ?_
  ((conv=>whnf);repeat(first|(refine mvT ?_;conv=>whnf)|(refine mvF ?_;conv=>whnf)|(refine cT (by rfl) ?_;conv=>whnf)|(refine cF (by rfl) ?_;conv=>whnf)))
  have hxs := hx0
  intro b wb hb ho hx
  have hx0 := hx0.e0 hx
  ((conv=>whnf);repeat(first|(refine mvT ?_;conv=>whnf)|(refine mvF ?_;conv=>whnf)|(refine cT (by rfl) ?_;conv=>whnf)|(refine cF (by rfl) ?_;conv=>whnf)))
  refine ⟨?_, hx0⟩
  exact FdL.fds (cs := [[.int .i64 8, .int .i64 0, .int .i64 (-1), .int .i64 (-1), .int .i64 (-1), .int .i64 0, .int .i64 0, .slice none 0 0], [.int .i64 8, .int .i64 0, .int .i64 (-1), .int .i64 0, .int .i64 (-1), .int .i64 0, .int .i64 0, .slice none 0 0]])
    ⟨fdLeaf _ _ _ _ _ _ _ _ _, fdLeaf _ _ _ _ _ _ _ _ _, trivial⟩ ho rfl (by decide) (by have := hxs.size; omega)
theorem sCreateTopicsRequestTopic (w : World) : Does X.P 59 #[] w fun r w' => FdsR w' (fun k => w.heap.size ≤ k) r dCreateTopicsRequestTopic ∧ Ext nob w w' := by
  have hx0 : Ext nob w w := Ext.refl _ _
  refine Does.go (X := X) (l := []) Tryz.func59 rfl (by kernel_rfl) (by kernel_rfl) _ rfl ?_
  ((conv=>whnf);repeat(first|(refine mvT ?_;conv=>whnf)|(refine mvF ?_;conv=>whnf)|(refine cT (by rfl) ?_;conv=>whnf)|(refine cF (by rfl) ?_;conv=>whnf)))
  refine Does.mono (sCreateTopicsRequestTopicReplicaAssignment w) ?_
  rintro v3 wv3 ⟨hv3, hc⟩
  have hv3 := hv3.mono (F' := fun k => w.heap.size ≤ k) fun k _ h => Nat.le_trans hx0.size h
  obtain ⟨lv3, gv3, _⟩ := id hv3
  obtain ⟨av3, kv3, rfl, _⟩ := gv3.view
  ((conv=>whnf);repeat(first|(refine mvT ?_;conv=>whnf)|(refine mvF ?_;conv=>whnf)|(refine cT (by rfl) ?_;conv=>whnf)|(refine cF (by rfl) ?_;conv=>whnf)))
  have hx0 := hx0.e0 hc
  refine Does.mono (sCreateTopicsRequestTopicConfig wv3) ?_
  rintro v4 wv4 ⟨hv4, hc⟩
  have hv4 := hv4.mono (F' := fun k => w.heap.size ≤ k) fun k _ h => Nat.le_trans hx0.size h
  obtain ⟨lv4, gv4, _⟩ := id hv4
  obtain ⟨av4, kv4, rfl, _⟩ := gv4.view
  ((conv=>whnf);repeat(first|(refine mvT ?_;conv=>whnf)|(refine mvF ?_;conv=>whnf)|(refine cT (by rfl) ?_;conv=>whnf)|(refine cF (by rfl) ?_;conv=>whnf)))
  have hv3 := hv3.e0 hc
  have hx0 := hx0.e0 hc
  have hxs := hx0
  intro b wb hb ho hx
  have hx0 := hx0.e0 hx
  ((conv=>whnf);repeat(first|(refine mvT ?_;conv=>whnf)|(refine mvF ?_;conv=>whnf)|(refine cT (by rfl) ?_;conv=>whnf)|(refine cF (by rfl) ?_;conv=>whnf)))
  refine ⟨?_, hx0⟩
  exact FdL.fds (cs := [[.int .i64 8, .int .i64 0, .int .i64 (-1), .int .i64 (-1), .int .i64 (-1), .int .i64 0, .int .i64 0, .slice none 0 0], [.int .i64 3, .int .i64 0, .int .i64 (-1), .int .i64 (-1), .int .i64 (-1), .int .i64 0, .int .i64 0, .slice none 0 0], [.int .i64 2, .int .i64 0, .int .i64 (-1), .int .i64 (-1), .int .i64 (-1), .int .i64 0, .int .i64 0, .slice none 0 0], [.int .i64 11, .int .i64 0, .int .i64 (-1), .int .i64 (-1), .int .i64 (-1), .int .i64 0, .int .i64 10, .slice av3 lv3.length kv3], [.int .i64 11, .int .i64 0, .int .i64 (-1), .int .i64 (-1), .int .i64 (-1), .int .i64 0, .int .i64 10, .slice av4 lv4.length kv4]])
    ⟨fdLeaf _ _ _ _ _ _ _ _ _, fdLeaf _ _ _ _ _ _ _ _ _, fdLeaf _ _ _ _ _ _ _ _ _, FdC.of (hv3.e0 hx) _ _ _ _ _ _ _, FdC.of (hv4.e0 hx) _ _ _ _ _ _ _, trivial⟩ ho rfl (by decide) (by have := hxs.size; omega)
theorem sCreateTopicsRequest (w : World) : Does X.P 24 #[] w fun r w' => Msg w' (fun k => w.heap.size ≤ k) r dCreateTopicsRequest 5 ∧ Ext nob w w' := by
  have hx0 : Ext nob w w := Ext.refl _ _
  refine Does.go (X := X) (l := []) Tryz.func24 rfl (by kernel_rfl) (by kernel_rfl) _ rfl ?_
  ((conv=>whnf);repeat(first|(refine mvT ?_;conv=>whnf)|(refine mvF ?_;conv=>whnf)|(refine cT (by rfl) ?_;conv=>whnf)|(refine cF (by rfl) ?_;conv=>whnf)))
  intro b w1 hb ho hx
  have hx0 := hx0.e0 hx
  have ho := ho
  ((conv=>whnf);repeat(first|(refine mvT ?_;conv=>whnf)|(refine mvF ?_;conv=>whnf)|(refine cT (by rfl) ?_;conv=>whnf)|(refine cF (by rfl) ?_;conv=>whnf)))
  refine Does.mono (sCreateTopicsRequestTopic w1) ?_
  rintro v0 wv0 ⟨hv0, hc⟩
  have hv0 := hv0.mono (F' := fun k => w.heap.size ≤ k ∧ b < k) fun k _ h => ⟨Nat.le_trans hx0.size h, Nat.lt_of_lt_of_le ho.lt h⟩
  obtain ⟨lv0, gv0, _⟩ := id hv0
  obtain ⟨av0, kv0, rfl, _⟩ := gv0.view
  ((conv=>whnf);repeat(first|(refine mvT ?_;conv=>whnf)|(refine mvF ?_;conv=>whnf)|(refine cT (by rfl) ?_;conv=>whnf)|(refine cF (by rfl) ?_;conv=>whnf)))
  have hx0 := hx0.e0 hc
  have ho := ho.e0 hc
  have hxs := hx0
  intro b2 w2 hb2 ho2 hx2
  ((conv=>whnf);repeat(first|(refine mvT ?_;conv=>whnf)|(refine mvF ?_;conv=>whnf)|(refine cT (by rfl) ?_;conv=>whnf)|(refine cF (by rfl) ?_;conv=>whnf)))
  have hx0 := hx0.e0 hx2
  refine ⟨_, _, ho.e0 hx2, rfl, rfl, rfl, ?_⟩
  intro w3 ho3 hx3
  have hx03 := hx0.st hx3 hb
  ((conv=>whnf);repeat(first|(refine mvT ?_;conv=>whnf)|(refine mvF ?_;conv=>whnf)|(refine cT (by rfl) ?_;conv=>whnf)|(refine cF (by rfl) ?_;conv=>whnf)))
  refine ⟨_, rfl, ho3.cells, ?_⟩
  refine ⟨⟨_, rfl, ?_⟩, hx03⟩
  have ho2 := ho2.ext hx3 (by have := ho.lt; omega)
  have hs := hx0.size
  have hs2 : w.heap.size ≤ b2 := Nat.le_trans hxs.size hb2
  exact FdL.fds (cs := [[.int .i64 11, .int .i64 0, .int .i64 (-1), .int .i64 (-1), .int .i64 (-1), .int .i64 0, .int .i64 10, .slice av0 lv0.length kv0], [.int .i64 3, .int .i64 0, .int .i64 (-1), .int .i64 (-1), .int .i64 (-1), .int .i64 60000, .int .i64 0, .slice none 0 0], [.int .i64 0, .int .i64 1, .int .i64 (-1), .int .i64 (-1), .int .i64 (-1), .int .i64 0, .int .i64 0, .slice none 0 0]])
    ⟨FdC.of (FdsR.mono (FdsR.ext (FdsR.e0 hv0 hx2) hx3 fun k _ h1 h2 => by omega) fun k _ h => h.1) _ _ _ _ _ _ _, fdLeaf _ _ _ _ _ _ _ _ _, fdLeaf _ _ _ _ _ _ _ _ _, trivial⟩ ho2 rfl (by decide) (by omega)
theorem dfCreateTopicsRequestTopicReplicaAssignment {w : World} {q o : Nat} {T : TypeId} {pre cur post : List Value} (ho : Own w q T (pre ++ cur ++ post)) (hp : pre.length = o) (hl : cur.length = 3) :
    Does X.P 143 #[.pointer (some ⟨q, o, none⟩)] w fun r w' => Own w' q T (pre ++ cur ++ post) ∧ Ext (fun k => k = q) w w' := by
  have hx : Ext (fun k => k = q) w w := Ext.refl _ _
  refine Does.go (X := X) (l := [_]) Tryz.func143 rfl (by kernel_rfl) (by kernel_rfl) _ rfl ?_
  ((conv=>whnf);repeat(first|(refine mvT ?_;conv=>whnf)|(refine mvF ?_;conv=>whnf)|(refine cT (by rfl) ?_;conv=>whnf)|(refine cF (by rfl) ?_;conv=>whnf)))
  exact ⟨ho, hx⟩
theorem dfCreateTopicsRequestTopicConfig {w : World} {q o : Nat} {T : TypeId} {pre cur post : List Value} (ho : Own w q T (pre ++ cur ++ post)) (hp : pre.length = o) (hl : cur.length = 3) :
    Does X.P 144 #[.pointer (some ⟨q, o, none⟩)] w fun r w' => Own w' q T (pre ++ cur ++ post) ∧ Ext (fun k => k = q) w w' := by
  have hx : Ext (fun k => k = q) w w := Ext.refl _ _
  refine Does.go (X := X) (l := [_]) Tryz.func144 rfl (by kernel_rfl) (by kernel_rfl) _ rfl ?_
  ((conv=>whnf);repeat(first|(refine mvT ?_;conv=>whnf)|(refine mvF ?_;conv=>whnf)|(refine cT (by rfl) ?_;conv=>whnf)|(refine cF (by rfl) ?_;conv=>whnf)))
  exact ⟨ho, hx⟩
theorem dfCreateTopicsRequestTopic {w : World} {q o : Nat} {T : TypeId} {pre cur post : List Value} (ho : Own w q T (pre ++ cur ++ post)) (hp : pre.length = o) (hl : cur.length = 6) :
    Does X.P 141 #[.pointer (some ⟨q, o, none⟩)] w fun r w' => Own w' q T (pre ++ cur ++ post) ∧ Ext (fun k => k = q) w w' := by
  have hx : Ext (fun k => k = q) w w := Ext.refl _ _
  refine Does.go (X := X) (l := [_]) Tryz.func141 rfl (by kernel_rfl) (by kernel_rfl) _ rfl ?_
  ((conv=>whnf);repeat(first|(refine mvT ?_;conv=>whnf)|(refine mvF ?_;conv=>whnf)|(refine cT (by rfl) ?_;conv=>whnf)|(refine cF (by rfl) ?_;conv=>whnf)))
  exact ⟨ho, hx⟩
theorem dfCreateTopicsRequest {w : World} {q o : Nat} {T : TypeId} {pre cur post : List Value} (ho : Own w q T (pre ++ cur ++ post)) (hp : pre.length = o) (hl : cur.length = 5) :
    Does X.P 97 #[.pointer (some ⟨q, o, none⟩)] w fun r w' => Own w' q T (pre ++ (cur.set 2 (.int .i32 60000)) ++ post) ∧ Ext (fun k => k = q) w w' := by
  have hx : Ext (fun k => k = q) w w := Ext.refl _ _
  refine Does.go (X := X) (l := [_]) Tryz.func97 rfl (by kernel_rfl) (by kernel_rfl) _ rfl ?_
  ((conv=>whnf);repeat(first|(refine mvT ?_;conv=>whnf)|(refine mvF ?_;conv=>whnf)|(refine cT (by rfl) ?_;conv=>whnf)|(refine cF (by rfl) ?_;conv=>whnf)))
  refine stm ho 2 rfl rfl hp (by omega) rfl (by first | omega | (simp only [List.length_set]; omega)) ?_
  intro w0 ho hxd
  have hx := hx.trans hxd fun _ _ h => h
  ((conv=>whnf);repeat(first|(refine mvT ?_;conv=>whnf)|(refine mvF ?_;conv=>whnf)|(refine cT (by rfl) ?_;conv=>whnf)|(refine cF (by rfl) ?_;conv=>whnf)))
  exact ⟨ho, hx⟩
theorem readCreateTopicsRequest {w0 : World} {F : Nat → Prop} {p : Nat} {ty : TypeId} {v : Int} {x ev : Value} {l : List UInt8} (hL : Laid w0 ev) (hp : Own w0 p ty [.int .i16 v, .slice none 0 0, .int .i32 60000, .bool false, .map none]) (hx : Bytes w0 F x l) (hF : ∀ k, F k → k ≠ p) (hv : 0 ≤ v) (hp1 : p ≠ errG) :
    Does X.P 100 #[.pointer (some ⟨p, 0, none⟩), x, .bool false] w0 fun r w' => RdPost w0 p ty v (decide (v ≥ 5)) true dCreateTopicsRequest ev l r w' := by
  have hpl := hp.lt
  obtain ⟨fx, hfx⟩ : ∃ fx, fx = decide (v ≥ 5) := ⟨_, rfl⟩
  rw [← hfx]
  obtain ⟨G0, hG0, hx⟩ : ∃ G0 : Nat → Prop, (∀ k, G0 k → k < w0.heap.size ∧ k ≠ p) ∧ Bytes w0 G0 x l := ⟨fun k => F k ∧ k < w0.heap.size, fun k h => ⟨h.2, hF k h.1⟩, Sl.mono hx fun k hk h => ⟨h, hk⟩⟩
  obtain ⟨a0, c0, rfl, _⟩ := hx.view
  refine Does.go (X := X) (l := [_, _, _]) Tryz.func100 rfl (by kernel_rfl) (by kernel_rfl) _ rfl ?_
  ((conv=>whnf);repeat(first|(refine mvT ?_;conv=>whnf)|(refine mvF ?_;conv=>whnf)|(refine cT (by rfl) ?_;conv=>whnf)|(refine cF (by rfl) ?_;conv=>whnf)))
  refine Does.mono (dfCreateTopicsRequest (pre := []) (cur := [.int .i16 v, .slice none 0 0, .int .i32 60000, .bool false, .map none]) (post := []) (by simpa using hp) rfl rfl) ?_
  rintro rd wd ⟨hpd, hxd⟩
  ((conv=>whnf);repeat(first|(refine mvT ?_;conv=>whnf)|(refine mvF ?_;conv=>whnf)|(refine cT (by rfl) ?_;conv=>whnf)|(refine cF (by rfl) ?_;conv=>whnf)))
  intro pb w1 hpb hb hx1
  ((conv=>whnf);repeat(first|(refine mvT ?_;conv=>whnf)|(refine mvF ?_;conv=>whnf)|(refine cT (by rfl) ?_;conv=>whnf)|(refine cF (by rfl) ?_;conv=>whnf)))
  refine st_all [.slice a0 l.length c0, .bool false] hb rfl rfl rfl ?_
  intro w hb hx2
  ((conv=>whnf);repeat(first|(refine mvT ?_;conv=>whnf)|(refine mvF ?_;conv=>whnf)|(refine cT (by rfl) ?_;conv=>whnf)|(refine cF (by rfl) ?_;conv=>whnf)))
  have hsd := hxd.size
  have hwp : w0.heap.size ≤ pb := by omega
  have he1 : Ext nob wd w := hx1.trans hx2 fun k hk h => by omega
  have hpw : Own w p ty [.int .i16 v, .slice none 0 0, .int .i32 60000, .bool false, .map none] := by have := hpd.e0 he1; simpa using this
  have he := hxd.tr0 he1
  have H := St.init hpw hb (hx.ext he fun k _ h => (hG0 k h).2) hG0 he hpl hwp
  clear hpd hxd hx1 hx2 hb hpw he1 hp
  refine ldS (H.cell (o := 0) rfl (k := 0) rfl) ?_;((conv=>whnf);repeat(first|(refine mvT ?_;conv=>whnf)|(refine mvF ?_;conv=>whnf)|(refine cT (by rfl) ?_;conv=>whnf)|(refine cF (by rfl) ?_;conv=>whnf)))
  rw [← hfx]
  (refine mvB ?_;((conv=>whnf);repeat(first|(refine mvT ?_;conv=>whnf)|(refine mvF ?_;conv=>whnf)|(refine cT (by rfl) ?_;conv=>whnf)|(refine cF (by rfl) ?_;conv=>whnf))))
  have hup0 : tailBad 9 v fx dCreateTopicsRequest (l, false) = true → (rdPart 9 v fx dCreateTopicsRequest (l, false)).2.2 = true := id
  refine ldS (H.cell (o := 0) rfl (k := 1) rfl) ?_;((conv=>whnf);repeat(first|(refine mvT ?_;conv=>whnf)|(refine mvF ?_;conv=>whnf)|(refine cT (by rfl) ?_;conv=>whnf)|(refine cF (by rfl) ?_;conv=>whnf)))
  (refine mvB ?_;((conv=>whnf);repeat(first|(refine mvT ?_;conv=>whnf)|(refine mvF ?_;conv=>whnf)|(refine cT (by rfl) ?_;conv=>whnf)|(refine cF (by rfl) ?_;conv=>whnf))))
  refine VC.cutE (fun q : Int × Rd => [(13, .int .i32 q.1), (12, .slice none 0 0), (0, .pointer (some ⟨p, 0, none⟩)), (2, .bool false), (7, .pointer (some ⟨pb, 0, none⟩)), (8, .int .i16 v), (9, .bool fx), (10, .pointer (some ⟨p, 0, none⟩))]) (fun q w' => (-2147483648 ≤ q.1 ∧ q.1 ≤ 2147483647) ∧ rdLn fx (l, false) = q ∧ St w0 G0 p pb q.2 ((p, ty, [] ++ [.int .i16 v, .slice none 0 0, .int .i32 60000, .bool false, .map none] ++ []) :: []) (fun _ => True) w') ?_ ?_
  · refine cI (by rfl) (fun hc=>?_) (fun hc=>?_)
    · ((conv=>whnf);repeat(first|(refine mvT ?_;conv=>whnf)|(refine mvF ?_;conv=>whnf)|(refine cT (by rfl) ?_;conv=>whnf)|(refine cF (by rfl) ?_;conv=>whnf)))
      refine Does.mono H.lnc ?_
      rintro r w ⟨n, s', rfl, hn, hr, H⟩
      ((conv=>whnf);repeat(first|(refine mvT ?_;conv=>whnf)|(refine mvF ?_;conv=>whnf)|(refine cT (by rfl) ?_;conv=>whnf)|(refine cF (by rfl) ?_;conv=>whnf)))
      exact ⟨(n, s'), ⟨rfl, rfl, rfl, rfl, rfl, rfl, rfl, rfl, trivial⟩, hn, by rw [hc]; exact hr, H⟩
    · ((conv=>whnf);repeat(first|(refine mvT ?_;conv=>whnf)|(refine mvF ?_;conv=>whnf)|(refine cT (by rfl) ?_;conv=>whnf)|(refine cF (by rfl) ?_;conv=>whnf)))
      refine Does.mono H.lnp ?_
      rintro r w ⟨n, s', rfl, hn, hr, H⟩
      ((conv=>whnf);repeat(first|(refine mvT ?_;conv=>whnf)|(refine mvF ?_;conv=>whnf)|(refine cT (by rfl) ?_;conv=>whnf)|(refine cF (by rfl) ?_;conv=>whnf)))
      exact ⟨(n, s'), ⟨rfl, rfl, rfl, rfl, rfl, rfl, rfl, rfl, trivial⟩, hn, by rw [hc]; exact hr, H⟩
  clear H
  rintro ⟨n1, s1⟩ w ⟨hn1, hln1, H⟩
  dsimp only at hn1 hln1 H
  ((conv=>whnf);repeat(first|(refine mvT ?_;conv=>whnf)|(refine mvF ?_;conv=>whnf)|(refine cT (by rfl) ?_;conv=>whnf)|(refine cF (by rfl) ?_;conv=>whnf)))
  refine Does.mono H.ok ?_
  rintro r w ⟨rfl, H⟩
  ((conv=>whnf);repeat(first|(refine mvT ?_;conv=>whnf)|(refine mvF ?_;conv=>whnf)|(refine cT (by rfl) ?_;conv=>whnf)|(refine cF (by rfl) ?_;conv=>whnf)))
  refine cI (by rfl) (fun hbd=>?_) (fun hbd=>?_)
  · have hbd : s1.2 = true := by simpa using hbd
    ((conv=>whnf);repeat(first|(refine mvT ?_;conv=>whnf)|(refine mvF ?_;conv=>whnf)|(refine cT (by rfl) ?_;conv=>whnf)|(refine cF (by rfl) ?_;conv=>whnf)))
    refine Does.mono (H.done hL hp1) ?_
    rintro r w ⟨rfl, H⟩
    ((conv=>whnf);repeat(first|(refine mvT ?_;conv=>whnf)|(refine mvF ?_;conv=>whnf)|(refine cT (by rfl) ?_;conv=>whnf)|(refine cF (by rfl) ?_;conv=>whnf)))
    refine RdPost.early hbd (hup0 (?_)) H
    rw [tail_len ⟨by decide, has_all hv⟩ hln1 hbd]
  have hbd : s1.2 = false := by simpa using hbd
  clear hbd
  ((conv=>whnf);repeat(first|(refine mvT ?_;conv=>whnf)|(refine mvF ?_;conv=>whnf)|(refine cT (by rfl) ?_;conv=>whnf)|(refine cF (by rfl) ?_;conv=>whnf)))
  refine cut_zero ?_
  ((conv=>whnf);repeat(first|(refine mvT ?_;conv=>whnf)|(refine mvF ?_;conv=>whnf)|(refine cT (by rfl) ?_;conv=>whnf)|(refine cF (by rfl) ?_;conv=>whnf)))
  refine VC.cutE (fun a : Value => [(13, .int .i32 n1), (12, a), (0, .pointer (some ⟨p, 0, none⟩)), (2, .bool false), (7, .pointer (some ⟨pb, 0, none⟩)), (8, .int .i16 v), (9, .bool fx), (10, .pointer (some ⟨p, 0, none⟩))]) (fun a w' => ListI w0 G0 p pb 137 [str [], .int .i32 0, .int .i16 0, .slice none 0 0, .slice none 0 0, .map none] (elR 8 v fx 10 dCreateTopicsRequestTopic) (elQ true 8 10 dCreateTopicsRequestTopic) s1 n1 (decide (n1 ≤ 0)) ((p, ty, [] ++ [.int .i16 v, .slice none 0 0, .int .i32 60000, .bool false, .map none] ++ []) :: []) (fun _ => True) a 0 w') ?_ ?_
  · refine cI (by rfl) (fun hps=>?_) (fun hps=>?_)
    · have hps : 0 < n1 := by have := of_decide_eq_true hps; omega
      ((conv=>whnf);repeat(first|(refine mvT ?_;conv=>whnf)|(refine mvF ?_;conv=>whnf)|(refine cT (by rfl) ?_;conv=>whnf)|(refine cF (by rfl) ?_;conv=>whnf)))
      refine H.grow hps hn1.2 (by decide) rfl rfl (by decide) ?_
      intro g cap post w hc1 hc2 H
      ((conv=>whnf);repeat(first|(refine mvT ?_;conv=>whnf)|(refine mvF ?_;conv=>whnf)|(refine cT (by rfl) ?_;conv=>whnf)|(refine cF (by rfl) ?_;conv=>whnf)))
      exact ⟨_, ⟨rfl, rfl, rfl, rfl, rfl, rfl, rfl, rfl, trivial⟩, ListI.some hps (decide_eq_false (by omega)) hc1 hc2 H⟩
    · have hps : n1 ≤ 0 := by have := of_decide_eq_false hps; omega
      ((conv=>whnf);repeat(first|(refine mvT ?_;conv=>whnf)|(refine mvF ?_;conv=>whnf)|(refine cT (by rfl) ?_;conv=>whnf)|(refine cF (by rfl) ?_;conv=>whnf)))
      exact ⟨_, ⟨rfl, rfl, rfl, rfl, rfl, rfl, rfl, rfl, trivial⟩, ListI.none hps (decide_eq_true hps) H⟩
  clear H
  rintro a1 w H
  ((conv=>whnf);repeat(first|(refine mvT ?_;conv=>whnf)|(refine mvF ?_;conv=>whnf)|(refine cT (by rfl) ?_;conv=>whnf)|(refine cF (by rfl) ?_;conv=>whnf)))
  have hpL1 : inL ((p, ty, [] ++ [.int .i16 v, .slice none 0 0, .int .i32 60000, .bool false, .map none] ++ []) :: []) p := inL.head _ _
  refine VL.loop (fun i : Nat => [(13, .int .i32 n1), (12, a1), (14, .int .i32 i), (0, .pointer (some ⟨p, 0, none⟩)), (2, .bool false), (7, .pointer (some ⟨pb, 0, none⟩)), (8, .int .i16 v), (9, .bool fx), (10, .pointer (some ⟨p, 0, none⟩))]) (fun i w' => i ≤ 2147483647 ∧ ListI w0 G0 p pb 137 [str [], .int .i32 0, .int .i16 0, .slice none 0 0, .slice none 0 0, .map none] (elR 8 v fx 10 dCreateTopicsRequestTopic) (elQ true 8 10 dCreateTopicsRequestTopic) s1 n1 (decide (n1 ≤ 0)) ((p, ty, [] ++ [.int .i16 v, .slice none 0 0, .int .i32 60000, .bool false, .map none] ++ []) :: []) (fun _ => True) a1 i w') (fun i => n1.toNat - i) 0 ⟨rfl, rfl, rfl, rfl, rfl, rfl, rfl, rfl, rfl, trivial⟩ ⟨by decide, H⟩ ?_
  clear H
  rintro i1 w ⟨hi1, H⟩
  ((conv=>whnf);repeat(first|(refine mvT ?_;conv=>whnf)|(refine mvF ?_;conv=>whnf)|(refine cT (by rfl) ?_;conv=>whnf)|(refine cF (by rfl) ?_;conv=>whnf)))
  refine cI (by rfl) (fun h9=>?_) (fun h9=>?_)
  · have hlt1 : (i1 : Int) < n1 := of_decide_eq_true h9
    obtain ⟨g1, cap1, post1, rfl, hgo1, HI⟩ := H.go hlt1
    obtain ⟨es1, ts1, si1, hes1, hez1, hrn1, hts1, hlen1, H⟩ := HI.open hgo1.2.2.2.2
    obtain ⟨L1, hL1⟩ : ∃ L : List Ob, L = ((p, ty, [] ++ [.int .i16 v, .slice none 0 0, .int .i32 60000, .bool false, .map none] ++ []) :: []) := ⟨_, rfl⟩
    rw [← hL1] at H hpL1
    obtain ⟨P1, hP1⟩ : ∃ P : World → Prop, P = fun w => (∀ (j : Nat) (c : List Value) (y : T), es1[j]? = some c → ts1[j]? = some y → elQ true 8 10 dCreateTopicsRequestTopic ⟨w, fun k => k ≠ p⟩ c y) ∧ (fun _ => True) w := ⟨_, rfl⟩
    rw [← hP1] at H
    replace H : St w0 G0 p pb si1 ((g1, 137, es1.flatten ++ [str [], .int .i32 0, .int .i16 0, .slice none 0 0, .slice none 0 0, .map none] ++ ((List.replicate (n1.toNat - (i1 + 1)) [str [], .int .i32 0, .int .i16 0, .slice none 0 0, .slice none 0 0, .map none]).flatten ++ post1)) :: L1) P1 w := H
    ((conv=>whnf);repeat(first|(refine mvT ?_;conv=>whnf)|(refine mvF ?_;conv=>whnf)|(refine cT (by rfl) ?_;conv=>whnf)|(refine cF (by rfl) ?_;conv=>whnf)))
    refine ⟨g1, 0, rfl, ⟨by omega, by omega⟩, ?_⟩
    ((conv=>whnf);repeat(first|(refine mvT ?_;conv=>whnf)|(refine mvF ?_;conv=>whnf)|(refine cT (by rfl) ?_;conv=>whnf)|(refine cF (by rfl) ?_;conv=>whnf)))
    refine Does.mono (dfCreateTopicsRequestTopic (pre := es1.flatten) (cur := [str [], .int .i32 0, .int .i16 0, .slice none 0 0, .slice none 0 0, .map none]) (post := ((List.replicate (n1.toNat - (i1 + 1)) [str [], .int .i32 0, .int .i16 0, .slice none 0 0, .slice none 0 0, .map none]).flatten ++ post1)) H.head (by first | (rw [hlen1]; simp; done) | (simp [hlen1]; done) | (simp [hlen1]; omega)) rfl) ?_
    rintro rd w2 ⟨hdf, hxd⟩
    replace H := H.put hdf hxd
    clear hdf hxd
    replace H : St w0 G0 p pb si1 ((g1, 137, es1.flatten ++ [str [], .int .i32 0, .int .i16 0, .slice none 0 0, .slice none 0 0, .map none] ++ ((List.replicate (n1.toNat - (i1 + 1)) [str [], .int .i32 0, .int .i16 0, .slice none 0 0, .slice none 0 0, .map none]).flatten ++ post1)) :: L1) P1 w2 := H
    ((conv=>whnf);repeat(first|(refine mvT ?_;conv=>whnf)|(refine mvF ?_;conv=>whnf)|(refine cT (by rfl) ?_;conv=>whnf)|(refine cF (by rfl) ?_;conv=>whnf)))
    have hup1 : tailBad 8 v fx dCreateTopicsRequestTopic si1 = true → (rdPart 9 v fx dCreateTopicsRequest (l, false)).2.2 = true := by
      intro hb
      refine hup0 ?_
      rw [tail_el ⟨by decide, has_all hv⟩ hln1 hgo1.2.2.2.2 hrn1 hb]
    (refine mvB ?_;((conv=>whnf);repeat(first|(refine mvT ?_;conv=>whnf)|(refine mvF ?_;conv=>whnf)|(refine cT (by rfl) ?_;conv=>whnf)|(refine cF (by rfl) ?_;conv=>whnf))))
    refine VC.cutE (fun q : List UInt8 × Rd => [(17, str q.1), (0, .pointer (some ⟨p, 0, none⟩)), (2, .bool false), (7, .pointer (some ⟨pb, 0, none⟩)), (8, .int .i16 v), (9, .bool fx), (10, .pointer (some ⟨p, 0, none⟩)), (13, .int .i32 n1), (12, .slice (some ⟨g1, 0, none⟩) n1.toNat cap1), (14, .int .i32 i1), (15, .pointer (some ⟨g1, 0 + (i1 : Int).toNat * 6, none⟩)), (16, .pointer (some ⟨g1, 0 + (i1 : Int).toNat * 6, none⟩))]) (fun q w' => rdTx fx si1 = q ∧ St w0 G0 p pb q.2 ((g1, 137, es1.flatten ++ [str [], .int .i32 0, .int .i16 0, .slice none 0 0, .slice none 0 0, .map none] ++ ((List.replicate (n1.toNat - (i1 + 1)) [str [], .int .i32 0, .int .i16 0, .slice none 0 0, .slice none 0 0, .map none]).flatten ++ post1)) :: L1) P1 w') ?_ ?_
    · refine cI (by rfl) (fun hc=>?_) (fun hc=>?_)
      · ((conv=>whnf);repeat(first|(refine mvT ?_;conv=>whnf)|(refine mvF ?_;conv=>whnf)|(refine cT (by rfl) ?_;conv=>whnf)|(refine cF (by rfl) ?_;conv=>whnf)))
        refine Does.mono H.txc ?_
        rintro r w ⟨u, s', rfl, hr, H⟩
        ((conv=>whnf);repeat(first|(refine mvT ?_;conv=>whnf)|(refine mvF ?_;conv=>whnf)|(refine cT (by rfl) ?_;conv=>whnf)|(refine cF (by rfl) ?_;conv=>whnf)))
        exact ⟨(u, s'), ⟨rfl, rfl, rfl, rfl, rfl, rfl, rfl, rfl, rfl, rfl, rfl, rfl, trivial⟩, by rw [hc]; exact hr, H⟩
      · ((conv=>whnf);repeat(first|(refine mvT ?_;conv=>whnf)|(refine mvF ?_;conv=>whnf)|(refine cT (by rfl) ?_;conv=>whnf)|(refine cF (by rfl) ?_;conv=>whnf)))
        refine Does.mono H.txp ?_
        rintro r w ⟨u, s', rfl, hr, H⟩
        ((conv=>whnf);repeat(first|(refine mvT ?_;conv=>whnf)|(refine mvF ?_;conv=>whnf)|(refine cT (by rfl) ?_;conv=>whnf)|(refine cF (by rfl) ?_;conv=>whnf)))
        exact ⟨(u, s'), ⟨rfl, rfl, rfl, rfl, rfl, rfl, rfl, rfl, rfl, rfl, rfl, rfl, trivial⟩, by rw [hc]; exact hr, H⟩
    clear H
    rintro ⟨u2, s2⟩ w ⟨hr2, H⟩
    dsimp only at hr2 H
    ((conv=>whnf);repeat(first|(refine mvT ?_;conv=>whnf)|(refine mvF ?_;conv=>whnf)|(refine cT (by rfl) ?_;conv=>whnf)|(refine cF (by rfl) ?_;conv=>whnf)))
    refine H.st1 (v := str u2) 0 (rfl) (rfl) rfl (by first | omega | (simp [hlen1]; done) | (simp [hlen1]; omega)) rfl (Nat.lt_of_lt_of_le (Nat.lt_succ_self _) (Nat.le_of_ble_eq_true rfl)) ?_
    intro w H
    ((conv=>whnf);repeat(first|(refine mvT ?_;conv=>whnf)|(refine mvF ?_;conv=>whnf)|(refine cT (by rfl) ?_;conv=>whnf)|(refine cF (by rfl) ?_;conv=>whnf)))
    replace H : St w0 G0 p pb s2 ((g1, 137, es1.flatten ++ [str u2, .int .i32 0, .int .i16 0, .slice none 0 0, .slice none 0 0, .map none] ++ ((List.replicate (n1.toNat - (i1 + 1)) [str [], .int .i32 0, .int .i16 0, .slice none 0 0, .slice none 0 0, .map none]).flatten ++ post1)) :: L1) P1 w := H
    refine Does.mono H.int32 ?_
    rintro r w ⟨n4, s4, rfl, hn4, hr4, H⟩
    ((conv=>whnf);repeat(first|(refine mvT ?_;conv=>whnf)|(refine mvF ?_;conv=>whnf)|(refine cT (by rfl) ?_;conv=>whnf)|(refine cF (by rfl) ?_;conv=>whnf)))
    refine H.st1 (v := .int .i32 n4) 1 (rfl) (rfl) rfl (by first | omega | (simp [hlen1]; done) | (simp [hlen1]; omega)) rfl (Nat.lt_of_lt_of_le (Nat.lt_succ_self _) (Nat.le_of_ble_eq_true rfl)) ?_
    intro w H
    ((conv=>whnf);repeat(first|(refine mvT ?_;conv=>whnf)|(refine mvF ?_;conv=>whnf)|(refine cT (by rfl) ?_;conv=>whnf)|(refine cF (by rfl) ?_;conv=>whnf)))
    replace H : St w0 G0 p pb s4 ((g1, 137, es1.flatten ++ [str u2, .int .i32 n4, .int .i16 0, .slice none 0 0, .slice none 0 0, .map none] ++ ((List.replicate (n1.toNat - (i1 + 1)) [str [], .int .i32 0, .int .i16 0, .slice none 0 0, .slice none 0 0, .map none]).flatten ++ post1)) :: L1) P1 w := H
    refine Does.mono H.int16 ?_
    rintro r w ⟨n6, s6, rfl, hn6, hr6, H⟩
    ((conv=>whnf);repeat(first|(refine mvT ?_;conv=>whnf)|(refine mvF ?_;conv=>whnf)|(refine cT (by rfl) ?_;conv=>whnf)|(refine cF (by rfl) ?_;conv=>whnf)))
    refine H.st1 (v := .int .i16 n6) 2 (rfl) (rfl) rfl (by first | omega | (simp [hlen1]; done) | (simp [hlen1]; omega)) rfl (Nat.lt_of_lt_of_le (Nat.lt_succ_self _) (Nat.le_of_ble_eq_true rfl)) ?_
    intro w H
    ((conv=>whnf);repeat(first|(refine mvT ?_;conv=>whnf)|(refine mvF ?_;conv=>whnf)|(refine cT (by rfl) ?_;conv=>whnf)|(refine cF (by rfl) ?_;conv=>whnf)))
    replace H : St w0 G0 p pb s6 ((g1, 137, es1.flatten ++ [str u2, .int .i32 n4, .int .i16 n6, .slice none 0 0, .slice none 0 0, .map none] ++ ((List.replicate (n1.toNat - (i1 + 1)) [str [], .int .i32 0, .int .i16 0, .slice none 0 0, .slice none 0 0, .map none]).flatten ++ post1)) :: L1) P1 w := H
    refine ⟨_, ld (H.cell rfl (k := 3) rfl) (by first | omega | (simp [hlen1]; done) | (simp [hlen1]; omega)), ?_⟩; ((conv=>whnf);repeat(first|(refine mvT ?_;conv=>whnf)|(refine mvF ?_;conv=>whnf)|(refine cT (by rfl) ?_;conv=>whnf)|(refine cF (by rfl) ?_;conv=>whnf)))
    (refine mvB ?_;((conv=>whnf);repeat(first|(refine mvT ?_;conv=>whnf)|(refine mvF ?_;conv=>whnf)|(refine cT (by rfl) ?_;conv=>whnf)|(refine cF (by rfl) ?_;conv=>whnf))))
    refine VC.cutE (fun q : Int × Rd => [(22, .int .i32 q.1), (21, .slice none 0 0), (0, .pointer (some ⟨p, 0, none⟩)), (2, .bool false), (7, .pointer (some ⟨pb, 0, none⟩)), (8, .int .i16 v), (9, .bool fx), (10, .pointer (some ⟨p, 0, none⟩)), (13, .int .i32 n1), (12, .slice (some ⟨g1, 0, none⟩) n1.toNat cap1), (14, .int .i32 i1), (15, .pointer (some ⟨g1, 0 + (i1 : Int).toNat * 6, none⟩)), (16, .pointer (some ⟨g1, 0 + (i1 : Int).toNat * 6, none⟩))]) (fun q w' => (-2147483648 ≤ q.1 ∧ q.1 ≤ 2147483647) ∧ rdLn fx s6 = q ∧ St w0 G0 p pb q.2 ((g1, 137, es1.flatten ++ [str u2, .int .i32 n4, .int .i16 n6, .slice none 0 0, .slice none 0 0, .map none] ++ ((List.replicate (n1.toNat - (i1 + 1)) [str [], .int .i32 0, .int .i16 0, .slice none 0 0, .slice none 0 0, .map none]).flatten ++ post1)) :: L1) P1 w') ?_ ?_
    · refine cI (by rfl) (fun hc=>?_) (fun hc=>?_)
      · ((conv=>whnf);repeat(first|(refine mvT ?_;conv=>whnf)|(refine mvF ?_;conv=>whnf)|(refine cT (by rfl) ?_;conv=>whnf)|(refine cF (by rfl) ?_;conv=>whnf)))
        refine Does.mono H.lnc ?_
        rintro r w ⟨n, s', rfl, hn, hr, H⟩
        ((conv=>whnf);repeat(first|(refine mvT ?_;conv=>whnf)|(refine mvF ?_;conv=>whnf)|(refine cT (by rfl) ?_;conv=>whnf)|(refine cF (by rfl) ?_;conv=>whnf)))
        exact ⟨(n, s'), ⟨rfl, rfl, rfl, rfl, rfl, rfl, rfl, rfl, rfl, rfl, rfl, rfl, rfl, trivial⟩, hn, by rw [hc]; exact hr, H⟩
      · ((conv=>whnf);repeat(first|(refine mvT ?_;conv=>whnf)|(refine mvF ?_;conv=>whnf)|(refine cT (by rfl) ?_;conv=>whnf)|(refine cF (by rfl) ?_;conv=>whnf)))
        refine Does.mono H.lnp ?_
        rintro r w ⟨n, s', rfl, hn, hr, H⟩
        ((conv=>whnf);repeat(first|(refine mvT ?_;conv=>whnf)|(refine mvF ?_;conv=>whnf)|(refine cT (by rfl) ?_;conv=>whnf)|(refine cF (by rfl) ?_;conv=>whnf)))
        exact ⟨(n, s'), ⟨rfl, rfl, rfl, rfl, rfl, rfl, rfl, rfl, rfl, rfl, rfl, rfl, rfl, trivial⟩, hn, by rw [hc]; exact hr, H⟩
    clear H
    rintro ⟨n8, s8⟩ w ⟨hn8, hln8, H⟩
    dsimp only at hn8 hln8 H
    ((conv=>whnf);repeat(first|(refine mvT ?_;conv=>whnf)|(refine mvF ?_;conv=>whnf)|(refine cT (by rfl) ?_;conv=>whnf)|(refine cF (by rfl) ?_;conv=>whnf)))
    refine Does.mono H.ok ?_
    rintro r w ⟨rfl, H⟩
    ((conv=>whnf);repeat(first|(refine mvT ?_;conv=>whnf)|(refine mvF ?_;conv=>whnf)|(refine cT (by rfl) ?_;conv=>whnf)|(refine cF (by rfl) ?_;conv=>whnf)))
    refine cI (by rfl) (fun hbd=>?_) (fun hbd=>?_)
    · have hbd : s8.2 = true := by simpa using hbd
      ((conv=>whnf);repeat(first|(refine mvT ?_;conv=>whnf)|(refine mvF ?_;conv=>whnf)|(refine cT (by rfl) ?_;conv=>whnf)|(refine cF (by rfl) ?_;conv=>whnf)))
      refine Does.mono (H.done hL hp1) ?_
      rintro r w ⟨rfl, H⟩
      ((conv=>whnf);repeat(first|(refine mvT ?_;conv=>whnf)|(refine mvF ?_;conv=>whnf)|(refine cT (by rfl) ?_;conv=>whnf)|(refine cF (by rfl) ?_;conv=>whnf)))
      refine RdPost.early hbd (hup1 (?_)) H
      rw [tail_yes (rdField8 (by decide) hr2) ⟨by decide, has_all hv⟩, tail_yes (rdField3.trans hr4) ⟨by decide, has_all hv⟩, tail_yes (rdField2.trans hr6) ⟨by decide, has_all hv⟩, tail_len ⟨by decide, has_all hv⟩ hln8 hbd]
    have hbd : s8.2 = false := by simpa using hbd
    clear hbd
    ((conv=>whnf);repeat(first|(refine mvT ?_;conv=>whnf)|(refine mvF ?_;conv=>whnf)|(refine cT (by rfl) ?_;conv=>whnf)|(refine cF (by rfl) ?_;conv=>whnf)))
    refine cut_zero ?_
    ((conv=>whnf);repeat(first|(refine mvT ?_;conv=>whnf)|(refine mvF ?_;conv=>whnf)|(refine cT (by rfl) ?_;conv=>whnf)|(refine cF (by rfl) ?_;conv=>whnf)))
    refine VC.cutE (fun a : Value => [(22, .int .i32 n8), (21, a), (0, .pointer (some ⟨p, 0, none⟩)), (2, .bool false), (7, .pointer (some ⟨pb, 0, none⟩)), (8, .int .i16 v), (9, .bool fx), (10, .pointer (some ⟨p, 0, none⟩)), (13, .int .i32 n1), (12, .slice (some ⟨g1, 0, none⟩) n1.toNat cap1), (14, .int .i32 i1), (15, .pointer (some ⟨g1, 0 + (i1 : Int).toNat * 6, none⟩)), (16, .pointer (some ⟨g1, 0 + (i1 : Int).toNat * 6, none⟩))]) (fun a w' => ListI w0 G0 p pb 182 [.int .i32 0, .slice none 0 0, .map none] (elR 7 v fx 10 dCreateTopicsRequestTopicReplicaAssignment) (elQ true 7 10 dCreateTopicsRequestTopicReplicaAssignment) s8 n8 (decide (n8 ≤ 0)) ((g1, 137, es1.flatten ++ [str u2, .int .i32 n4, .int .i16 n6, .slice none 0 0, .slice none 0 0, .map none] ++ ((List.replicate (n1.toNat - (i1 + 1)) [str [], .int .i32 0, .int .i16 0, .slice none 0 0, .slice none 0 0, .map none]).flatten ++ post1)) :: L1) P1 a 0 w') ?_ ?_
    · refine cI (by rfl) (fun hps=>?_) (fun hps=>?_)
      · have hps : 0 < n8 := by have := of_decide_eq_true hps; omega
        ((conv=>whnf);repeat(first|(refine mvT ?_;conv=>whnf)|(refine mvF ?_;conv=>whnf)|(refine cT (by rfl) ?_;conv=>whnf)|(refine cF (by rfl) ?_;conv=>whnf)))
        refine H.grow hps hn8.2 (by decide) rfl rfl (by decide) ?_
        intro g cap post w hc1 hc2 H
        ((conv=>whnf);repeat(first|(refine mvT ?_;conv=>whnf)|(refine mvF ?_;conv=>whnf)|(refine cT (by rfl) ?_;conv=>whnf)|(refine cF (by rfl) ?_;conv=>whnf)))
        exact ⟨_, ⟨rfl, rfl, rfl, rfl, rfl, rfl, rfl, rfl, rfl, rfl, rfl, rfl, rfl, trivial⟩, ListI.some hps (decide_eq_false (by omega)) hc1 hc2 H⟩
      · have hps : n8 ≤ 0 := by have := of_decide_eq_false hps; omega
        ((conv=>whnf);repeat(first|(refine mvT ?_;conv=>whnf)|(refine mvF ?_;conv=>whnf)|(refine cT (by rfl) ?_;conv=>whnf)|(refine cF (by rfl) ?_;conv=>whnf)))
        exact ⟨_, ⟨rfl, rfl, rfl, rfl, rfl, rfl, rfl, rfl, rfl, rfl, rfl, rfl, rfl, trivial⟩, ListI.none hps (decide_eq_true hps) H⟩
    clear H
    rintro a8 w H
    ((conv=>whnf);repeat(first|(refine mvT ?_;conv=>whnf)|(refine mvF ?_;conv=>whnf)|(refine cT (by rfl) ?_;conv=>whnf)|(refine cF (by rfl) ?_;conv=>whnf)))
    have hpL8 : inL ((g1, 137, es1.flatten ++ [str u2, .int .i32 n4, .int .i16 n6, .slice none 0 0, .slice none 0 0, .map none] ++ ((List.replicate (n1.toNat - (i1 + 1)) [str [], .int .i32 0, .int .i16 0, .slice none 0 0, .slice none 0 0, .map none]).flatten ++ post1)) :: L1) p := inL.tail hpL1
    refine VL.loop (fun i : Nat => [(22, .int .i32 n8), (21, a8), (23, .int .i32 i), (0, .pointer (some ⟨p, 0, none⟩)), (2, .bool false), (7, .pointer (some ⟨pb, 0, none⟩)), (8, .int .i16 v), (9, .bool fx), (10, .pointer (some ⟨p, 0, none⟩)), (13, .int .i32 n1), (12, .slice (some ⟨g1, 0, none⟩) n1.toNat cap1), (14, .int .i32 i1), (15, .pointer (some ⟨g1, 0 + (i1 : Int).toNat * 6, none⟩)), (16, .pointer (some ⟨g1, 0 + (i1 : Int).toNat * 6, none⟩))]) (fun i w' => i ≤ 2147483647 ∧ ListI w0 G0 p pb 182 [.int .i32 0, .slice none 0 0, .map none] (elR 7 v fx 10 dCreateTopicsRequestTopicReplicaAssignment) (elQ true 7 10 dCreateTopicsRequestTopicReplicaAssignment) s8 n8 (decide (n8 ≤ 0)) ((g1, 137, es1.flatten ++ [str u2, .int .i32 n4, .int .i16 n6, .slice none 0 0, .slice none 0 0, .map none] ++ ((List.replicate (n1.toNat - (i1 + 1)) [str [], .int .i32 0, .int .i16 0, .slice none 0 0, .slice none 0 0, .map none]).flatten ++ post1)) :: L1) P1 a8 i w') (fun i => n8.toNat - i) 0 ⟨rfl, rfl, rfl, rfl, rfl, rfl, rfl, rfl, rfl, rfl, rfl, rfl, rfl, rfl, trivial⟩ ⟨by decide, H⟩ ?_
    clear H
    rintro i8 w ⟨hi8, H⟩
    ((conv=>whnf);repeat(first|(refine mvT ?_;conv=>whnf)|(refine mvF ?_;conv=>whnf)|(refine cT (by rfl) ?_;conv=>whnf)|(refine cF (by rfl) ?_;conv=>whnf)))
    refine cI (by rfl) (fun h9=>?_) (fun h9=>?_)
    · have hlt8 : (i8 : Int) < n8 := of_decide_eq_true h9
      obtain ⟨g8, cap8, post8, rfl, hgo8, HI⟩ := H.go hlt8
      obtain ⟨es8, ts8, si8, hes8, hez8, hrn8, hts8, hlen2, H⟩ := HI.open hgo8.2.2.2.2
      obtain ⟨L8, hL8⟩ : ∃ L : List Ob, L = ((g1, 137, es1.flatten ++ [str u2, .int .i32 n4, .int .i16 n6, .slice none 0 0, .slice none 0 0, .map none] ++ ((List.replicate (n1.toNat - (i1 + 1)) [str [], .int .i32 0, .int .i16 0, .slice none 0 0, .slice none 0 0, .map none]).flatten ++ post1)) :: L1) := ⟨_, rfl⟩
      rw [← hL8] at H hpL8
      obtain ⟨P8, hP8⟩ : ∃ P : World → Prop, P = fun w => (∀ (j : Nat) (c : List Value) (y : T), es8[j]? = some c → ts8[j]? = some y → elQ true 7 10 dCreateTopicsRequestTopicReplicaAssignment ⟨w, fun k => k ≠ p⟩ c y) ∧ P1 w := ⟨_, rfl⟩
      rw [← hP8] at H
      replace H : St w0 G0 p pb si8 ((g8, 182, es8.flatten ++ [.int .i32 0, .slice none 0 0, .map none] ++ ((List.replicate (n8.toNat - (i8 + 1)) [.int .i32 0, .slice none 0 0, .map none]).flatten ++ post8)) :: L8) P8 w := H
      ((conv=>whnf);repeat(first|(refine mvT ?_;conv=>whnf)|(refine mvF ?_;conv=>whnf)|(refine cT (by rfl) ?_;conv=>whnf)|(refine cF (by rfl) ?_;conv=>whnf)))
      refine ⟨g8, 0, rfl, ⟨by omega, by omega⟩, ?_⟩
      ((conv=>whnf);repeat(first|(refine mvT ?_;conv=>whnf)|(refine mvF ?_;conv=>whnf)|(refine cT (by rfl) ?_;conv=>whnf)|(refine cF (by rfl) ?_;conv=>whnf)))
      refine Does.mono (dfCreateTopicsRequestTopicReplicaAssignment (pre := es8.flatten) (cur := [.int .i32 0, .slice none 0 0, .map none]) (post := ((List.replicate (n8.toNat - (i8 + 1)) [.int .i32 0, .slice none 0 0, .map none]).flatten ++ post8)) H.head (by first | (rw [hlen2]; simp; done) | (simp [hlen2]; done) | (simp [hlen2]; omega)) rfl) ?_
      rintro rd w2 ⟨hdf, hxd⟩
      replace H := H.put hdf hxd
      clear hdf hxd
      replace H : St w0 G0 p pb si8 ((g8, 182, es8.flatten ++ [.int .i32 0, .slice none 0 0, .map none] ++ ((List.replicate (n8.toNat - (i8 + 1)) [.int .i32 0, .slice none 0 0, .map none]).flatten ++ post8)) :: L8) P8 w2 := H
      ((conv=>whnf);repeat(first|(refine mvT ?_;conv=>whnf)|(refine mvF ?_;conv=>whnf)|(refine cT (by rfl) ?_;conv=>whnf)|(refine cF (by rfl) ?_;conv=>whnf)))
      have hup8 : tailBad 7 v fx dCreateTopicsRequestTopicReplicaAssignment si8 = true → (rdPart 9 v fx dCreateTopicsRequest (l, false)).2.2 = true := by
        intro hb
        refine hup1 ?_
        rw [tail_yes (rdField8 (by decide) hr2) ⟨by decide, has_all hv⟩, tail_yes (rdField3.trans hr4) ⟨by decide, has_all hv⟩, tail_yes (rdField2.trans hr6) ⟨by decide, has_all hv⟩, tail_el ⟨by decide, has_all hv⟩ hln8 hgo8.2.2.2.2 hrn8 hb]
      refine Does.mono H.int32 ?_
      rintro r w ⟨n9, s9, rfl, hn9, hr9, H⟩
      ((conv=>whnf);repeat(first|(refine mvT ?_;conv=>whnf)|(refine mvF ?_;conv=>whnf)|(refine cT (by rfl) ?_;conv=>whnf)|(refine cF (by rfl) ?_;conv=>whnf)))
      refine H.st1 (v := .int .i32 n9) 0 (rfl) (rfl) rfl (by first | omega | (simp [hlen2]; done) | (simp [hlen2]; omega)) rfl (Nat.lt_of_lt_of_le (Nat.lt_succ_self _) (Nat.le_of_ble_eq_true rfl)) ?_
      intro w H
      ((conv=>whnf);repeat(first|(refine mvT ?_;conv=>whnf)|(refine mvF ?_;conv=>whnf)|(refine cT (by rfl) ?_;conv=>whnf)|(refine cF (by rfl) ?_;conv=>whnf)))
      replace H : St w0 G0 p pb s9 ((g8, 182, es8.flatten ++ [.int .i32 n9, .slice none 0 0, .map none] ++ ((List.replicate (n8.toNat - (i8 + 1)) [.int .i32 0, .slice none 0 0, .map none]).flatten ++ post8)) :: L8) P8 w := H
      refine ⟨_, ld (H.cell rfl (k := 1) rfl) (by first | omega | (simp [hlen2]; done) | (simp [hlen2]; omega)), ?_⟩; ((conv=>whnf);repeat(first|(refine mvT ?_;conv=>whnf)|(refine mvF ?_;conv=>whnf)|(refine cT (by rfl) ?_;conv=>whnf)|(refine cF (by rfl) ?_;conv=>whnf)))
      (refine mvB ?_;((conv=>whnf);repeat(first|(refine mvT ?_;conv=>whnf)|(refine mvF ?_;conv=>whnf)|(refine cT (by rfl) ?_;conv=>whnf)|(refine cF (by rfl) ?_;conv=>whnf))))
      refine VC.cutE (fun q : Int × Rd => [(29, .int .i32 q.1), (28, .slice none 0 0), (0, .pointer (some ⟨p, 0, none⟩)), (2, .bool false), (7, .pointer (some ⟨pb, 0, none⟩)), (8, .int .i16 v), (9, .bool fx), (10, .pointer (some ⟨p, 0, none⟩)), (13, .int .i32 n1), (12, .slice (some ⟨g1, 0, none⟩) n1.toNat cap1), (14, .int .i32 i1), (15, .pointer (some ⟨g1, 0 + (i1 : Int).toNat * 6, none⟩)), (16, .pointer (some ⟨g1, 0 + (i1 : Int).toNat * 6, none⟩)), (22, .int .i32 n8), (21, .slice (some ⟨g8, 0, none⟩) n8.toNat cap8), (23, .int .i32 i8), (24, .pointer (some ⟨g8, 0 + (i8 : Int).toNat * 3, none⟩)), (25, .pointer (some ⟨g8, 0 + (i8 : Int).toNat * 3, none⟩))]) (fun q w' => (-2147483648 ≤ q.1 ∧ q.1 ≤ 2147483647) ∧ rdLn fx s9 = q ∧ St w0 G0 p pb q.2 ((g8, 182, es8.flatten ++ [.int .i32 n9, .slice none 0 0, .map none] ++ ((List.replicate (n8.toNat - (i8 + 1)) [.int .i32 0, .slice none 0 0, .map none]).flatten ++ post8)) :: L8) P8 w') ?_ ?_
      · refine cI (by rfl) (fun hc=>?_) (fun hc=>?_)
        · ((conv=>whnf);repeat(first|(refine mvT ?_;conv=>whnf)|(refine mvF ?_;conv=>whnf)|(refine cT (by rfl) ?_;conv=>whnf)|(refine cF (by rfl) ?_;conv=>whnf)))
          refine Does.mono H.lnc ?_
          rintro r w ⟨n, s', rfl, hn, hr, H⟩
          ((conv=>whnf);repeat(first|(refine mvT ?_;conv=>whnf)|(refine mvF ?_;conv=>whnf)|(refine cT (by rfl) ?_;conv=>whnf)|(refine cF (by rfl) ?_;conv=>whnf)))
          exact ⟨(n, s'), ⟨rfl, rfl, rfl, rfl, rfl, rfl, rfl, rfl, rfl, rfl, rfl, rfl, rfl, rfl, rfl, rfl, rfl, rfl, trivial⟩, hn, by rw [hc]; exact hr, H⟩
        · ((conv=>whnf);repeat(first|(refine mvT ?_;conv=>whnf)|(refine mvF ?_;conv=>whnf)|(refine cT (by rfl) ?_;conv=>whnf)|(refine cF (by rfl) ?_;conv=>whnf)))
          refine Does.mono H.lnp ?_
          rintro r w ⟨n, s', rfl, hn, hr, H⟩
          ((conv=>whnf);repeat(first|(refine mvT ?_;conv=>whnf)|(refine mvF ?_;conv=>whnf)|(refine cT (by rfl) ?_;conv=>whnf)|(refine cF (by rfl) ?_;conv=>whnf)))
          exact ⟨(n, s'), ⟨rfl, rfl, rfl, rfl, rfl, rfl, rfl, rfl, rfl, rfl, rfl, rfl, rfl, rfl, rfl, rfl, rfl, rfl, trivial⟩, hn, by rw [hc]; exact hr, H⟩
      clear H
      rintro ⟨n11, s11⟩ w ⟨hn11, hln11, H⟩
      dsimp only at hn11 hln11 H
      ((conv=>whnf);repeat(first|(refine mvT ?_;conv=>whnf)|(refine mvF ?_;conv=>whnf)|(refine cT (by rfl) ?_;conv=>whnf)|(refine cF (by rfl) ?_;conv=>whnf)))
      refine Does.mono H.ok ?_
      rintro r w ⟨rfl, H⟩
      ((conv=>whnf);repeat(first|(refine mvT ?_;conv=>whnf)|(refine mvF ?_;conv=>whnf)|(refine cT (by rfl) ?_;conv=>whnf)|(refine cF (by rfl) ?_;conv=>whnf)))
      refine cI (by rfl) (fun hbd=>?_) (fun hbd=>?_)
      · have hbd : s11.2 = true := by simpa using hbd
        ((conv=>whnf);repeat(first|(refine mvT ?_;conv=>whnf)|(refine mvF ?_;conv=>whnf)|(refine cT (by rfl) ?_;conv=>whnf)|(refine cF (by rfl) ?_;conv=>whnf)))
        refine Does.mono (H.done hL hp1) ?_
        rintro r w ⟨rfl, H⟩
        ((conv=>whnf);repeat(first|(refine mvT ?_;conv=>whnf)|(refine mvF ?_;conv=>whnf)|(refine cT (by rfl) ?_;conv=>whnf)|(refine cF (by rfl) ?_;conv=>whnf)))
        refine RdPost.early hbd (hup8 (?_)) H
        rw [tail_yes (rdField3.trans hr9) ⟨by decide, has_all hv⟩, tail_len ⟨by decide, has_all hv⟩ hln11 hbd]
      have hbd : s11.2 = false := by simpa using hbd
      clear hbd
      ((conv=>whnf);repeat(first|(refine mvT ?_;conv=>whnf)|(refine mvF ?_;conv=>whnf)|(refine cT (by rfl) ?_;conv=>whnf)|(refine cF (by rfl) ?_;conv=>whnf)))
      refine cut_zero ?_
      ((conv=>whnf);repeat(first|(refine mvT ?_;conv=>whnf)|(refine mvF ?_;conv=>whnf)|(refine cT (by rfl) ?_;conv=>whnf)|(refine cF (by rfl) ?_;conv=>whnf)))
      refine VC.cutE (fun a : Value => [(29, .int .i32 n11), (28, a), (0, .pointer (some ⟨p, 0, none⟩)), (2, .bool false), (7, .pointer (some ⟨pb, 0, none⟩)), (8, .int .i16 v), (9, .bool fx), (10, .pointer (some ⟨p, 0, none⟩)), (13, .int .i32 n1), (12, .slice (some ⟨g1, 0, none⟩) n1.toNat cap1), (14, .int .i32 i1), (15, .pointer (some ⟨g1, 0 + (i1 : Int).toNat * 6, none⟩)), (16, .pointer (some ⟨g1, 0 + (i1 : Int).toNat * 6, none⟩)), (22, .int .i32 n8), (21, .slice (some ⟨g8, 0, none⟩) n8.toNat cap8), (23, .int .i32 i8), (24, .pointer (some ⟨g8, 0 + (i8 : Int).toNat * 3, none⟩)), (25, .pointer (some ⟨g8, 0 + (i8 : Int).toNat * 3, none⟩))]) (fun a w' => ListI w0 G0 p pb 21 [.int .i32 0] (elR 6 v fx 3 []) (elQ true 6 3 []) s11 n11 (decide (n11 ≤ 0)) ((g8, 182, es8.flatten ++ [.int .i32 n9, .slice none 0 0, .map none] ++ ((List.replicate (n8.toNat - (i8 + 1)) [.int .i32 0, .slice none 0 0, .map none]).flatten ++ post8)) :: L8) P8 a 0 w') ?_ ?_
      · refine cI (by rfl) (fun hps=>?_) (fun hps=>?_)
        · have hps : 0 < n11 := by have := of_decide_eq_true hps; omega
          ((conv=>whnf);repeat(first|(refine mvT ?_;conv=>whnf)|(refine mvF ?_;conv=>whnf)|(refine cT (by rfl) ?_;conv=>whnf)|(refine cF (by rfl) ?_;conv=>whnf)))
          refine H.grow hps hn11.2 (by decide) rfl rfl (by decide) ?_
          intro g cap post w hc1 hc2 H
          ((conv=>whnf);repeat(first|(refine mvT ?_;conv=>whnf)|(refine mvF ?_;conv=>whnf)|(refine cT (by rfl) ?_;conv=>whnf)|(refine cF (by rfl) ?_;conv=>whnf)))
          exact ⟨_, ⟨rfl, rfl, rfl, rfl, rfl, rfl, rfl, rfl, rfl, rfl, rfl, rfl, rfl, rfl, rfl, rfl, rfl, rfl, trivial⟩, ListI.some hps (decide_eq_false (by omega)) hc1 hc2 H⟩
        · have hps : n11 ≤ 0 := by have := of_decide_eq_false hps; omega
          ((conv=>whnf);repeat(first|(refine mvT ?_;conv=>whnf)|(refine mvF ?_;conv=>whnf)|(refine cT (by rfl) ?_;conv=>whnf)|(refine cF (by rfl) ?_;conv=>whnf)))
          exact ⟨_, ⟨rfl, rfl, rfl, rfl, rfl, rfl, rfl, rfl, rfl, rfl, rfl, rfl, rfl, rfl, rfl, rfl, rfl, rfl, trivial⟩, ListI.none hps (decide_eq_true hps) H⟩
      clear H
      rintro a11 w H
      ((conv=>whnf);repeat(first|(refine mvT ?_;conv=>whnf)|(refine mvF ?_;conv=>whnf)|(refine cT (by rfl) ?_;conv=>whnf)|(refine cF (by rfl) ?_;conv=>whnf)))
      have hpL11 : inL ((g8, 182, es8.flatten ++ [.int .i32 n9, .slice none 0 0, .map none] ++ ((List.replicate (n8.toNat - (i8 + 1)) [.int .i32 0, .slice none 0 0, .map none]).flatten ++ post8)) :: L8) p := inL.tail hpL8
      refine VL.loop (fun i : Nat => [(29, .int .i32 n11), (28, a11), (30, .int .i32 i), (0, .pointer (some ⟨p, 0, none⟩)), (2, .bool false), (7, .pointer (some ⟨pb, 0, none⟩)), (8, .int .i16 v), (9, .bool fx), (10, .pointer (some ⟨p, 0, none⟩)), (13, .int .i32 n1), (12, .slice (some ⟨g1, 0, none⟩) n1.toNat cap1), (14, .int .i32 i1), (15, .pointer (some ⟨g1, 0 + (i1 : Int).toNat * 6, none⟩)), (16, .pointer (some ⟨g1, 0 + (i1 : Int).toNat * 6, none⟩)), (22, .int .i32 n8), (21, .slice (some ⟨g8, 0, none⟩) n8.toNat cap8), (23, .int .i32 i8), (24, .pointer (some ⟨g8, 0 + (i8 : Int).toNat * 3, none⟩)), (25, .pointer (some ⟨g8, 0 + (i8 : Int).toNat * 3, none⟩))]) (fun i w' => i ≤ 2147483647 ∧ ListI w0 G0 p pb 21 [.int .i32 0] (elR 6 v fx 3 []) (elQ true 6 3 []) s11 n11 (decide (n11 ≤ 0)) ((g8, 182, es8.flatten ++ [.int .i32 n9, .slice none 0 0, .map none] ++ ((List.replicate (n8.toNat - (i8 + 1)) [.int .i32 0, .slice none 0 0, .map none]).flatten ++ post8)) :: L8) P8 a11 i w') (fun i => n11.toNat - i) 0 ⟨rfl, rfl, rfl, rfl, rfl, rfl, rfl, rfl, rfl, rfl, rfl, rfl, rfl, rfl, rfl, rfl, rfl, rfl, rfl, trivial⟩ ⟨by decide, H⟩ ?_
      clear H
      rintro i11 w ⟨hi11, H⟩
      ((conv=>whnf);repeat(first|(refine mvT ?_;conv=>whnf)|(refine mvF ?_;conv=>whnf)|(refine cT (by rfl) ?_;conv=>whnf)|(refine cF (by rfl) ?_;conv=>whnf)))
      refine cI (by rfl) (fun h9=>?_) (fun h9=>?_)
      · have hlt11 : (i11 : Int) < n11 := of_decide_eq_true h9
        obtain ⟨g11, cap11, post11, rfl, hgo11, HI⟩ := H.go hlt11
        obtain ⟨es11, ts11, si11, hes11, hez11, hrn11, hts11, hlen3, H⟩ := HI.open hgo11.2.2.2.2
        obtain ⟨L11, hL11⟩ : ∃ L : List Ob, L = ((g8, 182, es8.flatten ++ [.int .i32 n9, .slice none 0 0, .map none] ++ ((List.replicate (n8.toNat - (i8 + 1)) [.int .i32 0, .slice none 0 0, .map none]).flatten ++ post8)) :: L8) := ⟨_, rfl⟩
        rw [← hL11] at H hpL11
        obtain ⟨P11, hP11⟩ : ∃ P : World → Prop, P = fun w => (∀ (j : Nat) (c : List Value) (y : T), es11[j]? = some c → ts11[j]? = some y → elQ true 6 3 [] ⟨w, fun k => k ≠ p⟩ c y) ∧ P8 w := ⟨_, rfl⟩
        rw [← hP11] at H
        replace H : St w0 G0 p pb si11 ((g11, 21, es11.flatten ++ [.int .i32 0] ++ ((List.replicate (n11.toNat - (i11 + 1)) [.int .i32 0]).flatten ++ post11)) :: L11) P11 w := H
        ((conv=>whnf);repeat(first|(refine mvT ?_;conv=>whnf)|(refine mvF ?_;conv=>whnf)|(refine cT (by rfl) ?_;conv=>whnf)|(refine cF (by rfl) ?_;conv=>whnf)))
        refine Does.mono H.int32 ?_
        rintro r w ⟨n12, s12, rfl, hn12, hr12, H⟩
        ((conv=>whnf);repeat(first|(refine mvT ?_;conv=>whnf)|(refine mvF ?_;conv=>whnf)|(refine cT (by rfl) ?_;conv=>whnf)|(refine cF (by rfl) ?_;conv=>whnf)))
        refine ⟨g11, 0, rfl, ⟨by omega, by omega⟩, ?_⟩
        ((conv=>whnf);repeat(first|(refine mvT ?_;conv=>whnf)|(refine mvF ?_;conv=>whnf)|(refine cT (by rfl) ?_;conv=>whnf)|(refine cF (by rfl) ?_;conv=>whnf)))
        refine H.st1 (v := .int .i32 n12) 0 (rfl) (rfl) rfl (by first | omega | (simp [hlen3]; done) | (simp [hlen3]; omega)) rfl (Nat.lt_of_lt_of_le (Nat.lt_succ_self _) (Nat.le_of_ble_eq_true rfl)) ?_
        intro w H
        ((conv=>whnf);repeat(first|(refine mvT ?_;conv=>whnf)|(refine mvF ?_;conv=>whnf)|(refine cT (by rfl) ?_;conv=>whnf)|(refine cF (by rfl) ?_;conv=>whnf)))
        replace H : St w0 G0 p pb s12 ((g11, 21, es11.flatten ++ [.int .i32 n12] ++ ((List.replicate (n11.toNat - (i11 + 1)) [.int .i32 0]).flatten ++ post11)) :: L11) P11 w := H
        refine ⟨i11 + 1, ⟨rfl, rfl, ?_, rfl, rfl, rfl, rfl, rfl, rfl, rfl, rfl, rfl, rfl, rfl, rfl, rfl, rfl, rfl, rfl, trivial⟩, ⟨by omega, ListI.back hgo11 (LoopI.next hes11 hez11 hrn11 hts11 (cur := [.int .i32 n12]) (x := numT n12) (hr12) rfl (by rw [← hL11]; exact H) fun w hP => ?_)⟩, by omega⟩
        · show some (Value.int .i32 _) = _
          rw [IntKind.wrap_i32]
          simp only [Option.some.injEq, Value.int.injEq, true_and]
          omega
        · skip
          rw [hP11] at hP
          exact ⟨⟨_, hn12, rfl, rfl⟩, hP⟩
      have hge11 : ¬ (i11 : Int) < n11 := of_decide_eq_false h9
      obtain ⟨l13, s13, hone13, hl13, hr13, H⟩ := H.done hge11 hln11 (nl := nlF (.mk 11 0 (-1) (-1) (-1) 0 3 []) v) (sz := elZ true 6 3 []) rfl hpL11 rfl
      ((conv=>whnf);repeat(first|(refine mvT ?_;conv=>whnf)|(refine mvF ?_;conv=>whnf)|(refine cT (by rfl) ?_;conv=>whnf)|(refine cF (by rfl) ?_;conv=>whnf)))
      obtain ⟨P14, hP14⟩ : ∃ P : World → Prop, P = fun w => ListR true (elZ true 6 3 []) (elQ true 6 3 [] ⟨w, fun k => k ≠ p⟩) w (fun k => k ≠ p) a11 (.mk 0 [] (decide (n11 ≤ 0)) l13 []) ∧ P8 w := ⟨_, rfl⟩
      replace H : St w0 G0 p pb s13 ((g8, 182, es8.flatten ++ [.int .i32 n9, .slice none 0 0, .map none] ++ ((List.replicate (n8.toNat - (i8 + 1)) [.int .i32 0, .slice none 0 0, .map none]).flatten ++ post8)) :: L8) P14 w := by rw [hP14]; exact H
      refine H.st1 (v := a11) 1 (cells_one hone13) (hone13) rfl (by first | omega | (simp [hlen2]; done) | (simp [hlen2]; omega)) rfl (Nat.lt_of_lt_of_le (Nat.lt_succ_self _) (Nat.le_of_ble_eq_true rfl)) ?_
      intro w H
      ((conv=>whnf);repeat(first|(refine mvT ?_;conv=>whnf)|(refine mvF ?_;conv=>whnf)|(refine cT (by rfl) ?_;conv=>whnf)|(refine cF (by rfl) ?_;conv=>whnf)))
      replace H : St w0 G0 p pb s13 ((g8, 182, es8.flatten ++ [.int .i32 n9, a11, .map none] ++ ((List.replicate (n8.toNat - (i8 + 1)) [.int .i32 0, .slice none 0 0, .map none]).flatten ++ post8)) :: L8) P14 w := H
      (refine mvB ?_;((conv=>whnf);repeat(first|(refine mvT ?_;conv=>whnf)|(refine mvF ?_;conv=>whnf)|(refine cT (by rfl) ?_;conv=>whnf)|(refine cF (by rfl) ?_;conv=>whnf))))
      refine VC.cutB (fun q : Value × List Tg × Rd => [(0, .pointer (some ⟨p, 0, none⟩)), (2, .bool false), (7, .pointer (some ⟨pb, 0, none⟩)), (8, .int .i16 v), (9, .bool fx), (10, .pointer (some ⟨p, 0, none⟩)), (13, .int .i32 n1), (12, .slice (some ⟨g1, 0, none⟩) n1.toNat cap1), (14, .int .i32 i1), (15, .pointer (some ⟨g1, 0 + (i1 : Int).toNat * 6, none⟩)), (16, .pointer (some ⟨g1, 0 + (i1 : Int).toNat * 6, none⟩)), (22, .int .i32 n8), (21, .slice (some ⟨g8, 0, none⟩) n8.toNat cap8), (23, .int .i32 i8), (24, .pointer (some ⟨g8, 0 + (i8 : Int).toNat * 3, none⟩)), (25, .pointer (some ⟨g8, 0 + (i8 : Int).toNat * 3, none⟩))]) (fun q w' => rdTagsF fx s13 = q.2 ∧ St w0 G0 p pb q.2.2 ((g8, 182, es8.flatten ++ [.int .i32 n9, a11, q.1] ++ ((List.replicate (n8.toNat - (i8 + 1)) [.int .i32 0, .slice none 0 0, .map none]).flatten ++ post8)) :: L8) (fun w => TGf p q.1 q.2.1 w ∧ P14 w) w') ?_ ?_
      · refine cI (by rfl) (fun hc=>?_) (fun hc=>?_)
        · ((conv=>whnf);repeat(first|(refine mvT ?_;conv=>whnf)|(refine mvF ?_;conv=>whnf)|(refine cT (by rfl) ?_;conv=>whnf)|(refine cF (by rfl) ?_;conv=>whnf)))
          refine Does.mono H.tags ?_
          rintro r w ⟨m, u, s', rfl, hone, hr, H⟩
          ((conv=>whnf);repeat(first|(refine mvT ?_;conv=>whnf)|(refine mvF ?_;conv=>whnf)|(refine cT (by rfl) ?_;conv=>whnf)|(refine cF (by rfl) ?_;conv=>whnf)))
          refine H.st1 (v := m) 2 (rfl) (hone) rfl (by first | omega | (simp [hlen2]; done) | (simp [hlen2]; omega)) rfl (Nat.lt_of_lt_of_le (Nat.lt_succ_self _) (Nat.le_of_ble_eq_true rfl)) ?_
          intro w H
          ((conv=>whnf);repeat(first|(refine mvT ?_;conv=>whnf)|(refine mvF ?_;conv=>whnf)|(refine cT (by rfl) ?_;conv=>whnf)|(refine cF (by rfl) ?_;conv=>whnf)))
          exact ⟨(m, u, s'), ⟨rfl, rfl, rfl, rfl, rfl, rfl, rfl, rfl, rfl, rfl, rfl, rfl, rfl, rfl, rfl, rfl, trivial⟩, by rw [rdTagsF, if_pos hc]; exact hr, H⟩
        · ((conv=>whnf);repeat(first|(refine mvT ?_;conv=>whnf)|(refine mvF ?_;conv=>whnf)|(refine cT (by rfl) ?_;conv=>whnf)|(refine cF (by rfl) ?_;conv=>whnf)))
          exact ⟨(.map none, [], s13), ⟨rfl, rfl, rfl, rfl, rfl, rfl, rfl, rfl, rfl, rfl, rfl, rfl, rfl, rfl, rfl, rfl, trivial⟩, by rw [rdTagsF, if_neg (by rw [hc]; decide)], H.add fun w' _ => TagsR.nil _ _⟩
      clear H
      rintro ⟨m16, u16, s16⟩ w ⟨htg, H⟩
      dsimp only at htg H
      ((conv=>whnf);repeat(first|(refine mvT ?_;conv=>whnf)|(refine mvF ?_;conv=>whnf)|(refine cT (by rfl) ?_;conv=>whnf)|(refine cF (by rfl) ?_;conv=>whnf)))
      obtain ⟨P17, hP17⟩ : ∃ P : World → Prop, P = fun w => TGf p m16 u16 w ∧ P14 w := ⟨_, rfl⟩
      replace H : St w0 G0 p pb s16 ((g8, 182, es8.flatten ++ [.int .i32 n9, a11, m16] ++ ((List.replicate (n8.toNat - (i8 + 1)) [.int .i32 0, .slice none 0 0, .map none]).flatten ++ post8)) :: L8) P17 w := by rw [hP17]; exact H
      have hpart : rdPart 7 v fx dCreateTopicsRequestTopicReplicaAssignment si8 = (.mk 0 [] false [numT n9, .mk 0 [] (decide (n11 ≤ 0)) l13 []] u16, s16) := by
        unfold rdPart rdPartW
        rw [rdAll_yes (df := dfT 7) (rdField3.trans hr9) ⟨by decide, has_all hv⟩, rdAll_yes (df := dfT 7) ((rdField_list _ _ _ _ _ _ _ _ _ _ _).trans hr13) ⟨by decide, has_all hv⟩]
        simp only [rdAll]
        rw [htg]
      refine ⟨i8 + 1, ⟨rfl, rfl, ?_, rfl, rfl, rfl, rfl, rfl, rfl, rfl, rfl, rfl, rfl, rfl, trivial⟩, ⟨by omega, ListI.back hgo8 (LoopI.next hes8 hez8 hrn8 hts8 (cur := [.int .i32 n9, a11, m16]) (x := .mk 0 [] false [numT n9, .mk 0 [] (decide (n11 ≤ 0)) l13 []] u16) (hpart) rfl (by rw [← hL8]; exact H) fun w hP => ?_)⟩, by omega⟩
      · show some (Value.int .i32 _) = _
        rw [IntKind.wrap_i32]
        simp only [Option.some.injEq, Value.int.injEq, true_and]
        omega
      · skip
        rw [hP17] at hP
        obtain ⟨hf17_, hP⟩ := hP
        rw [hP14] at hP
        obtain ⟨hf14_, hP⟩ := hP
        rw [hP8] at hP
        exact ⟨QPt (QA1 (QF3 hn9) (QA1 (QF11 hl13 hf14_) (QA0))) hf17_, hP⟩
    have hge8 : ¬ (i8 : Int) < n8 := of_decide_eq_false h9
    obtain ⟨l18, s18, hone18, hl18, hr18, H⟩ := H.done hge8 hln8 (nl := nlF (.mk 11 0 (-1) (-1) (-1) 0 10 dCreateTopicsRequestTopicReplicaAssignment) v) (sz := elZ true 7 10 dCreateTopicsRequestTopicReplicaAssignment) rfl hpL8 rfl
    ((conv=>whnf);repeat(first|(refine mvT ?_;conv=>whnf)|(refine mvF ?_;conv=>whnf)|(refine cT (by rfl) ?_;conv=>whnf)|(refine cF (by rfl) ?_;conv=>whnf)))
    obtain ⟨P19, hP19⟩ : ∃ P : World → Prop, P = fun w => ListR true (elZ true 7 10 dCreateTopicsRequestTopicReplicaAssignment) (elQ true 7 10 dCreateTopicsRequestTopicReplicaAssignment ⟨w, fun k => k ≠ p⟩) w (fun k => k ≠ p) a8 (.mk 0 [] (decide (n8 ≤ 0)) l18 []) ∧ P1 w := ⟨_, rfl⟩
    replace H : St w0 G0 p pb s18 ((g1, 137, es1.flatten ++ [str u2, .int .i32 n4, .int .i16 n6, .slice none 0 0, .slice none 0 0, .map none] ++ ((List.replicate (n1.toNat - (i1 + 1)) [str [], .int .i32 0, .int .i16 0, .slice none 0 0, .slice none 0 0, .map none]).flatten ++ post1)) :: L1) P19 w := by rw [hP19]; exact H
    refine H.st1 (v := a8) 3 (cells_one hone18) (hone18) rfl (by first | omega | (simp [hlen1]; done) | (simp [hlen1]; omega)) rfl (Nat.lt_of_lt_of_le (Nat.lt_succ_self _) (Nat.le_of_ble_eq_true rfl)) ?_
    intro w H
    ((conv=>whnf);repeat(first|(refine mvT ?_;conv=>whnf)|(refine mvF ?_;conv=>whnf)|(refine cT (by rfl) ?_;conv=>whnf)|(refine cF (by rfl) ?_;conv=>whnf)))
    replace H : St w0 G0 p pb s18 ((g1, 137, es1.flatten ++ [str u2, .int .i32 n4, .int .i16 n6, a8, .slice none 0 0, .map none] ++ ((List.replicate (n1.toNat - (i1 + 1)) [str [], .int .i32 0, .int .i16 0, .slice none 0 0, .slice none 0 0, .map none]).flatten ++ post1)) :: L1) P19 w := H
    refine ⟨_, ld (H.cell rfl (k := 4) rfl) (by first | omega | (simp [hlen1]; done) | (simp [hlen1]; omega)), ?_⟩; ((conv=>whnf);repeat(first|(refine mvT ?_;conv=>whnf)|(refine mvF ?_;conv=>whnf)|(refine cT (by rfl) ?_;conv=>whnf)|(refine cF (by rfl) ?_;conv=>whnf)))
    (refine mvB ?_;((conv=>whnf);repeat(first|(refine mvT ?_;conv=>whnf)|(refine mvF ?_;conv=>whnf)|(refine cT (by rfl) ?_;conv=>whnf)|(refine cF (by rfl) ?_;conv=>whnf))))
    refine VC.cutE (fun q : Int × Rd => [(34, .int .i32 q.1), (33, .slice none 0 0), (0, .pointer (some ⟨p, 0, none⟩)), (2, .bool false), (7, .pointer (some ⟨pb, 0, none⟩)), (8, .int .i16 v), (9, .bool fx), (10, .pointer (some ⟨p, 0, none⟩)), (13, .int .i32 n1), (12, .slice (some ⟨g1, 0, none⟩) n1.toNat cap1), (14, .int .i32 i1), (15, .pointer (some ⟨g1, 0 + (i1 : Int).toNat * 6, none⟩)), (16, .pointer (some ⟨g1, 0 + (i1 : Int).toNat * 6, none⟩))]) (fun q w' => (-2147483648 ≤ q.1 ∧ q.1 ≤ 2147483647) ∧ rdLn fx s18 = q ∧ St w0 G0 p pb q.2 ((g1, 137, es1.flatten ++ [str u2, .int .i32 n4, .int .i16 n6, a8, .slice none 0 0, .map none] ++ ((List.replicate (n1.toNat - (i1 + 1)) [str [], .int .i32 0, .int .i16 0, .slice none 0 0, .slice none 0 0, .map none]).flatten ++ post1)) :: L1) P19 w') ?_ ?_
    · refine cI (by rfl) (fun hc=>?_) (fun hc=>?_)
      · ((conv=>whnf);repeat(first|(refine mvT ?_;conv=>whnf)|(refine mvF ?_;conv=>whnf)|(refine cT (by rfl) ?_;conv=>whnf)|(refine cF (by rfl) ?_;conv=>whnf)))
        refine Does.mono H.lnc ?_
        rintro r w ⟨n, s', rfl, hn, hr, H⟩
        ((conv=>whnf);repeat(first|(refine mvT ?_;conv=>whnf)|(refine mvF ?_;conv=>whnf)|(refine cT (by rfl) ?_;conv=>whnf)|(refine cF (by rfl) ?_;conv=>whnf)))
        exact ⟨(n, s'), ⟨rfl, rfl, rfl, rfl, rfl, rfl, rfl, rfl, rfl, rfl, rfl, rfl, rfl, trivial⟩, hn, by rw [hc]; exact hr, H⟩
      · ((conv=>whnf);repeat(first|(refine mvT ?_;conv=>whnf)|(refine mvF ?_;conv=>whnf)|(refine cT (by rfl) ?_;conv=>whnf)|(refine cF (by rfl) ?_;conv=>whnf)))
        refine Does.mono H.lnp ?_
        rintro r w ⟨n, s', rfl, hn, hr, H⟩
        ((conv=>whnf);repeat(first|(refine mvT ?_;conv=>whnf)|(refine mvF ?_;conv=>whnf)|(refine cT (by rfl) ?_;conv=>whnf)|(refine cF (by rfl) ?_;conv=>whnf)))
        exact ⟨(n, s'), ⟨rfl, rfl, rfl, rfl, rfl, rfl, rfl, rfl, rfl, rfl, rfl, rfl, rfl, trivial⟩, hn, by rw [hc]; exact hr, H⟩
    clear H
    rintro ⟨n21, s21⟩ w ⟨hn21, hln21, H⟩
    dsimp only at hn21 hln21 H
    ((conv=>whnf);repeat(first|(refine mvT ?_;conv=>whnf)|(refine mvF ?_;conv=>whnf)|(refine cT (by rfl) ?_;conv=>whnf)|(refine cF (by rfl) ?_;conv=>whnf)))
    refine Does.mono H.ok ?_
    rintro r w ⟨rfl, H⟩
    ((conv=>whnf);repeat(first|(refine mvT ?_;conv=>whnf)|(refine mvF ?_;conv=>whnf)|(refine cT (by rfl) ?_;conv=>whnf)|(refine cF (by rfl) ?_;conv=>whnf)))
    refine cI (by rfl) (fun hbd=>?_) (fun hbd=>?_)
    · have hbd : s21.2 = true := by simpa using hbd
      ((conv=>whnf);repeat(first|(refine mvT ?_;conv=>whnf)|(refine mvF ?_;conv=>whnf)|(refine cT (by rfl) ?_;conv=>whnf)|(refine cF (by rfl) ?_;conv=>whnf)))
      refine Does.mono (H.done hL hp1) ?_
      rintro r w ⟨rfl, H⟩
      ((conv=>whnf);repeat(first|(refine mvT ?_;conv=>whnf)|(refine mvF ?_;conv=>whnf)|(refine cT (by rfl) ?_;conv=>whnf)|(refine cF (by rfl) ?_;conv=>whnf)))
      refine RdPost.early hbd (hup1 (?_)) H
      rw [tail_yes (rdField8 (by decide) hr2) ⟨by decide, has_all hv⟩, tail_yes (rdField3.trans hr4) ⟨by decide, has_all hv⟩, tail_yes (rdField2.trans hr6) ⟨by decide, has_all hv⟩, tail_yes ((rdField_list _ _ _ _ _ _ _ _ _ _ _).trans hr18) ⟨by decide, has_all hv⟩, tail_len ⟨by decide, has_all hv⟩ hln21 hbd]
    have hbd : s21.2 = false := by simpa using hbd
    clear hbd
    ((conv=>whnf);repeat(first|(refine mvT ?_;conv=>whnf)|(refine mvF ?_;conv=>whnf)|(refine cT (by rfl) ?_;conv=>whnf)|(refine cF (by rfl) ?_;conv=>whnf)))
    refine cut_zero ?_
    ((conv=>whnf);repeat(first|(refine mvT ?_;conv=>whnf)|(refine mvF ?_;conv=>whnf)|(refine cT (by rfl) ?_;conv=>whnf)|(refine cF (by rfl) ?_;conv=>whnf)))
    refine VC.cutE (fun a : Value => [(34, .int .i32 n21), (33, a), (0, .pointer (some ⟨p, 0, none⟩)), (2, .bool false), (7, .pointer (some ⟨pb, 0, none⟩)), (8, .int .i16 v), (9, .bool fx), (10, .pointer (some ⟨p, 0, none⟩)), (13, .int .i32 n1), (12, .slice (some ⟨g1, 0, none⟩) n1.toNat cap1), (14, .int .i32 i1), (15, .pointer (some ⟨g1, 0 + (i1 : Int).toNat * 6, none⟩)), (16, .pointer (some ⟨g1, 0 + (i1 : Int).toNat * 6, none⟩))]) (fun a w' => ListI w0 G0 p pb 185 [str [], .pointer none, .map none] (elR 7 v fx 10 dCreateTopicsRequestTopicConfig) (elQ true 7 10 dCreateTopicsRequestTopicConfig) s21 n21 (decide (n21 ≤ 0)) ((g1, 137, es1.flatten ++ [str u2, .int .i32 n4, .int .i16 n6, a8, .slice none 0 0, .map none] ++ ((List.replicate (n1.toNat - (i1 + 1)) [str [], .int .i32 0, .int .i16 0, .slice none 0 0, .slice none 0 0, .map none]).flatten ++ post1)) :: L1) P19 a 0 w') ?_ ?_
    · refine cI (by rfl) (fun hps=>?_) (fun hps=>?_)
      · have hps : 0 < n21 := by have := of_decide_eq_true hps; omega
        ((conv=>whnf);repeat(first|(refine mvT ?_;conv=>whnf)|(refine mvF ?_;conv=>whnf)|(refine cT (by rfl) ?_;conv=>whnf)|(refine cF (by rfl) ?_;conv=>whnf)))
        refine H.grow hps hn21.2 (by decide) rfl rfl (by decide) ?_
        intro g cap post w hc1 hc2 H
        ((conv=>whnf);repeat(first|(refine mvT ?_;conv=>whnf)|(refine mvF ?_;conv=>whnf)|(refine cT (by rfl) ?_;conv=>whnf)|(refine cF (by rfl) ?_;conv=>whnf)))
        exact ⟨_, ⟨rfl, rfl, rfl, rfl, rfl, rfl, rfl, rfl, rfl, rfl, rfl, rfl, rfl, trivial⟩, ListI.some hps (decide_eq_false (by omega)) hc1 hc2 H⟩
      · have hps : n21 ≤ 0 := by have := of_decide_eq_false hps; omega
        ((conv=>whnf);repeat(first|(refine mvT ?_;conv=>whnf)|(refine mvF ?_;conv=>whnf)|(refine cT (by rfl) ?_;conv=>whnf)|(refine cF (by rfl) ?_;conv=>whnf)))
        exact ⟨_, ⟨rfl, rfl, rfl, rfl, rfl, rfl, rfl, rfl, rfl, rfl, rfl, rfl, rfl, trivial⟩, ListI.none hps (decide_eq_true hps) H⟩
    clear H
    rintro a21 w H
    ((conv=>whnf);repeat(first|(refine mvT ?_;conv=>whnf)|(refine mvF ?_;conv=>whnf)|(refine cT (by rfl) ?_;conv=>whnf)|(refine cF (by rfl) ?_;conv=>whnf)))
    have hpL21 : inL ((g1, 137, es1.flatten ++ [str u2, .int .i32 n4, .int .i16 n6, a8, .slice none 0 0, .map none] ++ ((List.replicate (n1.toNat - (i1 + 1)) [str [], .int .i32 0, .int .i16 0, .slice none 0 0, .slice none 0 0, .map none]).flatten ++ post1)) :: L1) p := inL.tail hpL1
    refine VL.loop (fun i : Nat => [(34, .int .i32 n21), (33, a21), (35, .int .i32 i), (0, .pointer (some ⟨p, 0, none⟩)), (2, .bool false), (7, .pointer (some ⟨pb, 0, none⟩)), (8, .int .i16 v), (9, .bool fx), (10, .pointer (some ⟨p, 0, none⟩)), (13, .int .i32 n1), (12, .slice (some ⟨g1, 0, none⟩) n1.toNat cap1), (14, .int .i32 i1), (15, .pointer (some ⟨g1, 0 + (i1 : Int).toNat * 6, none⟩)), (16, .pointer (some ⟨g1, 0 + (i1 : Int).toNat * 6, none⟩))]) (fun i w' => i ≤ 2147483647 ∧ ListI w0 G0 p pb 185 [str [], .pointer none, .map none] (elR 7 v fx 10 dCreateTopicsRequestTopicConfig) (elQ true 7 10 dCreateTopicsRequestTopicConfig) s21 n21 (decide (n21 ≤ 0)) ((g1, 137, es1.flatten ++ [str u2, .int .i32 n4, .int .i16 n6, a8, .slice none 0 0, .map none] ++ ((List.replicate (n1.toNat - (i1 + 1)) [str [], .int .i32 0, .int .i16 0, .slice none 0 0, .slice none 0 0, .map none]).flatten ++ post1)) :: L1) P19 a21 i w') (fun i => n21.toNat - i) 0 ⟨rfl, rfl, rfl, rfl, rfl, rfl, rfl, rfl, rfl, rfl, rfl, rfl, rfl, rfl, trivial⟩ ⟨by decide, H⟩ ?_
    clear H
    rintro i21 w ⟨hi21, H⟩
    ((conv=>whnf);repeat(first|(refine mvT ?_;conv=>whnf)|(refine mvF ?_;conv=>whnf)|(refine cT (by rfl) ?_;conv=>whnf)|(refine cF (by rfl) ?_;conv=>whnf)))
    refine cI (by rfl) (fun h9=>?_) (fun h9=>?_)
    · have hlt21 : (i21 : Int) < n21 := of_decide_eq_true h9
      obtain ⟨g21, cap21, post21, rfl, hgo21, HI⟩ := H.go hlt21
      obtain ⟨es21, ts21, si21, hes21, hez21, hrn21, hts21, hlen2, H⟩ := HI.open hgo21.2.2.2.2
      obtain ⟨L21, hL21⟩ : ∃ L : List Ob, L = ((g1, 137, es1.flatten ++ [str u2, .int .i32 n4, .int .i16 n6, a8, .slice none 0 0, .map none] ++ ((List.replicate (n1.toNat - (i1 + 1)) [str [], .int .i32 0, .int .i16 0, .slice none 0 0, .slice none 0 0, .map none]).flatten ++ post1)) :: L1) := ⟨_, rfl⟩
      rw [← hL21] at H hpL21
      obtain ⟨P21, hP21⟩ : ∃ P : World → Prop, P = fun w => (∀ (j : Nat) (c : List Value) (y : T), es21[j]? = some c → ts21[j]? = some y → elQ true 7 10 dCreateTopicsRequestTopicConfig ⟨w, fun k => k ≠ p⟩ c y) ∧ P19 w := ⟨_, rfl⟩
      rw [← hP21] at H
      replace H : St w0 G0 p pb si21 ((g21, 185, es21.flatten ++ [str [], .pointer none, .map none] ++ ((List.replicate (n21.toNat - (i21 + 1)) [str [], .pointer none, .map none]).flatten ++ post21)) :: L21) P21 w := H
      ((conv=>whnf);repeat(first|(refine mvT ?_;conv=>whnf)|(refine mvF ?_;conv=>whnf)|(refine cT (by rfl) ?_;conv=>whnf)|(refine cF (by rfl) ?_;conv=>whnf)))
      refine ⟨g21, 0, rfl, ⟨by omega, by omega⟩, ?_⟩
      ((conv=>whnf);repeat(first|(refine mvT ?_;conv=>whnf)|(refine mvF ?_;conv=>whnf)|(refine cT (by rfl) ?_;conv=>whnf)|(refine cF (by rfl) ?_;conv=>whnf)))
      refine Does.mono (dfCreateTopicsRequestTopicConfig (pre := es21.flatten) (cur := [str [], .pointer none, .map none]) (post := ((List.replicate (n21.toNat - (i21 + 1)) [str [], .pointer none, .map none]).flatten ++ post21)) H.head (by first | (rw [hlen2]; simp; done) | (simp [hlen2]; done) | (simp [hlen2]; omega)) rfl) ?_
      rintro rd w2 ⟨hdf, hxd⟩
      replace H := H.put hdf hxd
      clear hdf hxd
      replace H : St w0 G0 p pb si21 ((g21, 185, es21.flatten ++ [str [], .pointer none, .map none] ++ ((List.replicate (n21.toNat - (i21 + 1)) [str [], .pointer none, .map none]).flatten ++ post21)) :: L21) P21 w2 := H
      ((conv=>whnf);repeat(first|(refine mvT ?_;conv=>whnf)|(refine mvF ?_;conv=>whnf)|(refine cT (by rfl) ?_;conv=>whnf)|(refine cF (by rfl) ?_;conv=>whnf)))
      have hup21 : tailBad 7 v fx dCreateTopicsRequestTopicConfig si21 = true → (rdPart 9 v fx dCreateTopicsRequest (l, false)).2.2 = true := by
        intro hb
        refine hup1 ?_
        rw [tail_yes (rdField8 (by decide) hr2) ⟨by decide, has_all hv⟩, tail_yes (rdField3.trans hr4) ⟨by decide, has_all hv⟩, tail_yes (rdField2.trans hr6) ⟨by decide, has_all hv⟩, tail_yes ((rdField_list _ _ _ _ _ _ _ _ _ _ _).trans hr18) ⟨by decide, has_all hv⟩, tail_el ⟨by decide, has_all hv⟩ hln21 hgo21.2.2.2.2 hrn21 hb]
      (refine mvB ?_;((conv=>whnf);repeat(first|(refine mvT ?_;conv=>whnf)|(refine mvF ?_;conv=>whnf)|(refine cT (by rfl) ?_;conv=>whnf)|(refine cF (by rfl) ?_;conv=>whnf))))
      refine VC.cutE (fun q : List UInt8 × Rd => [(38, str q.1), (0, .pointer (some ⟨p, 0, none⟩)), (2, .bool false), (7, .pointer (some ⟨pb, 0, none⟩)), (8, .int .i16 v), (9, .bool fx), (10, .pointer (some ⟨p, 0, none⟩)), (13, .int .i32 n1), (12, .slice (some ⟨g1, 0, none⟩) n1.toNat cap1), (14, .int .i32 i1), (15, .pointer (some ⟨g1, 0 + (i1 : Int).toNat * 6, none⟩)), (16, .pointer (some ⟨g1, 0 + (i1 : Int).toNat * 6, none⟩)), (34, .int .i32 n21), (33, .slice (some ⟨g21, 0, none⟩) n21.toNat cap21), (35, .int .i32 i21), (36, .pointer (some ⟨g21, 0 + (i21 : Int).toNat * 3, none⟩)), (37, .pointer (some ⟨g21, 0 + (i21 : Int).toNat * 3, none⟩))]) (fun q w' => rdTx fx si21 = q ∧ St w0 G0 p pb q.2 ((g21, 185, es21.flatten ++ [str [], .pointer none, .map none] ++ ((List.replicate (n21.toNat - (i21 + 1)) [str [], .pointer none, .map none]).flatten ++ post21)) :: L21) P21 w') ?_ ?_
      · refine cI (by rfl) (fun hc=>?_) (fun hc=>?_)
        · ((conv=>whnf);repeat(first|(refine mvT ?_;conv=>whnf)|(refine mvF ?_;conv=>whnf)|(refine cT (by rfl) ?_;conv=>whnf)|(refine cF (by rfl) ?_;conv=>whnf)))
          refine Does.mono H.txc ?_
          rintro r w ⟨u, s', rfl, hr, H⟩
          ((conv=>whnf);repeat(first|(refine mvT ?_;conv=>whnf)|(refine mvF ?_;conv=>whnf)|(refine cT (by rfl) ?_;conv=>whnf)|(refine cF (by rfl) ?_;conv=>whnf)))
          exact ⟨(u, s'), ⟨rfl, rfl, rfl, rfl, rfl, rfl, rfl, rfl, rfl, rfl, rfl, rfl, rfl, rfl, rfl, rfl, rfl, trivial⟩, by rw [hc]; exact hr, H⟩
        · ((conv=>whnf);repeat(first|(refine mvT ?_;conv=>whnf)|(refine mvF ?_;conv=>whnf)|(refine cT (by rfl) ?_;conv=>whnf)|(refine cF (by rfl) ?_;conv=>whnf)))
          refine Does.mono H.txp ?_
          rintro r w ⟨u, s', rfl, hr, H⟩
          ((conv=>whnf);repeat(first|(refine mvT ?_;conv=>whnf)|(refine mvF ?_;conv=>whnf)|(refine cT (by rfl) ?_;conv=>whnf)|(refine cF (by rfl) ?_;conv=>whnf)))
          exact ⟨(u, s'), ⟨rfl, rfl, rfl, rfl, rfl, rfl, rfl, rfl, rfl, rfl, rfl, rfl, rfl, rfl, rfl, rfl, rfl, trivial⟩, by rw [hc]; exact hr, H⟩
      clear H
      rintro ⟨u22, s22⟩ w ⟨hr22, H⟩
      dsimp only at hr22 H
      ((conv=>whnf);repeat(first|(refine mvT ?_;conv=>whnf)|(refine mvF ?_;conv=>whnf)|(refine cT (by rfl) ?_;conv=>whnf)|(refine cF (by rfl) ?_;conv=>whnf)))
      refine H.st1 (v := str u22) 0 (rfl) (rfl) rfl (by first | omega | (simp [hlen2]; done) | (simp [hlen2]; omega)) rfl (Nat.lt_of_lt_of_le (Nat.lt_succ_self _) (Nat.le_of_ble_eq_true rfl)) ?_
      intro w H
      ((conv=>whnf);repeat(first|(refine mvT ?_;conv=>whnf)|(refine mvF ?_;conv=>whnf)|(refine cT (by rfl) ?_;conv=>whnf)|(refine cF (by rfl) ?_;conv=>whnf)))
      replace H : St w0 G0 p pb s22 ((g21, 185, es21.flatten ++ [str u22, .pointer none, .map none] ++ ((List.replicate (n21.toNat - (i21 + 1)) [str [], .pointer none, .map none]).flatten ++ post21)) :: L21) P21 w := H
      (refine mvB ?_;((conv=>whnf);repeat(first|(refine mvT ?_;conv=>whnf)|(refine mvF ?_;conv=>whnf)|(refine cT (by rfl) ?_;conv=>whnf)|(refine cF (by rfl) ?_;conv=>whnf))))
      refine VC.cutE (fun q : Value × Bool × List UInt8 × Rd => [(39, q.1), (0, .pointer (some ⟨p, 0, none⟩)), (2, .bool false), (7, .pointer (some ⟨pb, 0, none⟩)), (8, .int .i16 v), (9, .bool fx), (10, .pointer (some ⟨p, 0, none⟩)), (13, .int .i32 n1), (12, .slice (some ⟨g1, 0, none⟩) n1.toNat cap1), (14, .int .i32 i1), (15, .pointer (some ⟨g1, 0 + (i1 : Int).toNat * 6, none⟩)), (16, .pointer (some ⟨g1, 0 + (i1 : Int).toNat * 6, none⟩)), (34, .int .i32 n21), (33, .slice (some ⟨g21, 0, none⟩) n21.toNat cap21), (35, .int .i32 i21), (36, .pointer (some ⟨g21, 0 + (i21 : Int).toNat * 3, none⟩)), (37, .pointer (some ⟨g21, 0 + (i21 : Int).toNat * 3, none⟩))]) (fun q w' => q.1.oneCell' = true ∧ (q.2.1 = true → q.2.2.1 = []) ∧ rdNt fx s22 = (.mk 0 q.2.2.1 q.2.1 [] [], q.2.2.2) ∧ St w0 G0 p pb q.2.2.2 ((g21, 185, es21.flatten ++ [str u22, .pointer none, .map none] ++ ((List.replicate (n21.toNat - (i21 + 1)) [str [], .pointer none, .map none]).flatten ++ post21)) :: L21) (fun w => NTf p q.1 (.mk 0 q.2.2.1 q.2.1 [] []) w ∧ P21 w) w') ?_ ?_
      · refine cI (by rfl) (fun hc=>?_) (fun hc=>?_)
        · ((conv=>whnf);repeat(first|(refine mvT ?_;conv=>whnf)|(refine mvF ?_;conv=>whnf)|(refine cT (by rfl) ?_;conv=>whnf)|(refine cF (by rfl) ?_;conv=>whnf)))
          refine Does.mono H.ntc ?_
          rintro r w ⟨c, nl, u, s', rfl, hone, hnl, hr, H⟩
          ((conv=>whnf);repeat(first|(refine mvT ?_;conv=>whnf)|(refine mvF ?_;conv=>whnf)|(refine cT (by rfl) ?_;conv=>whnf)|(refine cF (by rfl) ?_;conv=>whnf)))
          exact ⟨(r, nl, u, s'), ⟨rfl, rfl, rfl, rfl, rfl, rfl, rfl, rfl, rfl, rfl, rfl, rfl, rfl, rfl, rfl, rfl, rfl, trivial⟩, hone, hnl, by rw [hc]; exact hr, H⟩
        · ((conv=>whnf);repeat(first|(refine mvT ?_;conv=>whnf)|(refine mvF ?_;conv=>whnf)|(refine cT (by rfl) ?_;conv=>whnf)|(refine cF (by rfl) ?_;conv=>whnf)))
          refine Does.mono H.ntp ?_
          rintro r w ⟨c, nl, u, s', rfl, hone, hnl, hr, H⟩
          ((conv=>whnf);repeat(first|(refine mvT ?_;conv=>whnf)|(refine mvF ?_;conv=>whnf)|(refine cT (by rfl) ?_;conv=>whnf)|(refine cF (by rfl) ?_;conv=>whnf)))
          exact ⟨(r, nl, u, s'), ⟨rfl, rfl, rfl, rfl, rfl, rfl, rfl, rfl, rfl, rfl, rfl, rfl, rfl, rfl, rfl, rfl, rfl, trivial⟩, hone, hnl, by rw [hc]; exact hr, H⟩
      clear H
      rintro ⟨c24, nl24, u24, s24⟩ w ⟨hone24, hnl24, hr24, H⟩
      dsimp only at hone24 hnl24 hr24 H
      ((conv=>whnf);repeat(first|(refine mvT ?_;conv=>whnf)|(refine mvF ?_;conv=>whnf)|(refine cT (by rfl) ?_;conv=>whnf)|(refine cF (by rfl) ?_;conv=>whnf)))
      obtain ⟨P25, hP25⟩ : ∃ P : World → Prop, P = fun w => NTf p c24 (.mk 0 u24 nl24 [] []) w ∧ P21 w := ⟨_, rfl⟩
      replace H : St w0 G0 p pb s24 ((g21, 185, es21.flatten ++ [str u22, .pointer none, .map none] ++ ((List.replicate (n21.toNat - (i21 + 1)) [str [], .pointer none, .map none]).flatten ++ post21)) :: L21) P25 w := by rw [hP25]; exact H
      refine H.st1 (v := c24) 1 (cells_one hone24) (hone24) rfl (by first | omega | (simp [hlen2]; done) | (simp [hlen2]; omega)) rfl (Nat.lt_of_lt_of_le (Nat.lt_succ_self _) (Nat.le_of_ble_eq_true rfl)) ?_
      intro w H
      ((conv=>whnf);repeat(first|(refine mvT ?_;conv=>whnf)|(refine mvF ?_;conv=>whnf)|(refine cT (by rfl) ?_;conv=>whnf)|(refine cF (by rfl) ?_;conv=>whnf)))
      replace H : St w0 G0 p pb s24 ((g21, 185, es21.flatten ++ [str u22, c24, .map none] ++ ((List.replicate (n21.toNat - (i21 + 1)) [str [], .pointer none, .map none]).flatten ++ post21)) :: L21) P25 w := H
      (refine mvB ?_;((conv=>whnf);repeat(first|(refine mvT ?_;conv=>whnf)|(refine mvF ?_;conv=>whnf)|(refine cT (by rfl) ?_;conv=>whnf)|(refine cF (by rfl) ?_;conv=>whnf))))
      refine VC.cutB (fun q : Value × List Tg × Rd => [(0, .pointer (some ⟨p, 0, none⟩)), (2, .bool false), (7, .pointer (some ⟨pb, 0, none⟩)), (8, .int .i16 v), (9, .bool fx), (10, .pointer (some ⟨p, 0, none⟩)), (13, .int .i32 n1), (12, .slice (some ⟨g1, 0, none⟩) n1.toNat cap1), (14, .int .i32 i1), (15, .pointer (some ⟨g1, 0 + (i1 : Int).toNat * 6, none⟩)), (16, .pointer (some ⟨g1, 0 + (i1 : Int).toNat * 6, none⟩)), (34, .int .i32 n21), (33, .slice (some ⟨g21, 0, none⟩) n21.toNat cap21), (35, .int .i32 i21), (36, .pointer (some ⟨g21, 0 + (i21 : Int).toNat * 3, none⟩)), (37, .pointer (some ⟨g21, 0 + (i21 : Int).toNat * 3, none⟩))]) (fun q w' => rdTagsF fx s24 = q.2 ∧ St w0 G0 p pb q.2.2 ((g21, 185, es21.flatten ++ [str u22, c24, q.1] ++ ((List.replicate (n21.toNat - (i21 + 1)) [str [], .pointer none, .map none]).flatten ++ post21)) :: L21) (fun w => TGf p q.1 q.2.1 w ∧ P25 w) w') ?_ ?_
      · refine cI (by rfl) (fun hc=>?_) (fun hc=>?_)
        · ((conv=>whnf);repeat(first|(refine mvT ?_;conv=>whnf)|(refine mvF ?_;conv=>whnf)|(refine cT (by rfl) ?_;conv=>whnf)|(refine cF (by rfl) ?_;conv=>whnf)))
          refine Does.mono H.tags ?_
          rintro r w ⟨m, u, s', rfl, hone, hr, H⟩
          ((conv=>whnf);repeat(first|(refine mvT ?_;conv=>whnf)|(refine mvF ?_;conv=>whnf)|(refine cT (by rfl) ?_;conv=>whnf)|(refine cF (by rfl) ?_;conv=>whnf)))
          refine H.st1 (v := m) 2 (rfl) (hone) rfl (by first | omega | (simp [hlen2]; done) | (simp [hlen2]; omega)) rfl (Nat.lt_of_lt_of_le (Nat.lt_succ_self _) (Nat.le_of_ble_eq_true rfl)) ?_
          intro w H
          ((conv=>whnf);repeat(first|(refine mvT ?_;conv=>whnf)|(refine mvF ?_;conv=>whnf)|(refine cT (by rfl) ?_;conv=>whnf)|(refine cF (by rfl) ?_;conv=>whnf)))
          exact ⟨(m, u, s'), ⟨rfl, rfl, rfl, rfl, rfl, rfl, rfl, rfl, rfl, rfl, rfl, rfl, rfl, rfl, rfl, rfl, trivial⟩, by rw [rdTagsF, if_pos hc]; exact hr, H⟩
        · ((conv=>whnf);repeat(first|(refine mvT ?_;conv=>whnf)|(refine mvF ?_;conv=>whnf)|(refine cT (by rfl) ?_;conv=>whnf)|(refine cF (by rfl) ?_;conv=>whnf)))
          exact ⟨(.map none, [], s24), ⟨rfl, rfl, rfl, rfl, rfl, rfl, rfl, rfl, rfl, rfl, rfl, rfl, rfl, rfl, rfl, rfl, trivial⟩, by rw [rdTagsF, if_neg (by rw [hc]; decide)], H.add fun w' _ => TagsR.nil _ _⟩
      clear H
      rintro ⟨m27, u27, s27⟩ w ⟨htg, H⟩
      dsimp only at htg H
      ((conv=>whnf);repeat(first|(refine mvT ?_;conv=>whnf)|(refine mvF ?_;conv=>whnf)|(refine cT (by rfl) ?_;conv=>whnf)|(refine cF (by rfl) ?_;conv=>whnf)))
      obtain ⟨P28, hP28⟩ : ∃ P : World → Prop, P = fun w => TGf p m27 u27 w ∧ P25 w := ⟨_, rfl⟩
      replace H : St w0 G0 p pb s27 ((g21, 185, es21.flatten ++ [str u22, c24, m27] ++ ((List.replicate (n21.toNat - (i21 + 1)) [str [], .pointer none, .map none]).flatten ++ post21)) :: L21) P28 w := by rw [hP28]; exact H
      have hpart : rdPart 7 v fx dCreateTopicsRequestTopicConfig si21 = (.mk 0 [] false [.mk 0 u22 false [] [], .mk 0 u24 nl24 [] []] u27, s27) := by
        unfold rdPart rdPartW
        rw [rdAll_yes (df := dfT 7) (rdField8 (by decide) hr22) ⟨by decide, has_all hv⟩, rdAll_yes (df := dfT 7) ((rdField8n (by decide)).trans hr24) ⟨by decide, has_all hv⟩]
        simp only [rdAll]
        rw [htg]
      refine ⟨i21 + 1, ⟨rfl, rfl, ?_, rfl, rfl, rfl, rfl, rfl, rfl, rfl, rfl, rfl, rfl, rfl, trivial⟩, ⟨by omega, ListI.back hgo21 (LoopI.next hes21 hez21 hrn21 hts21 (cur := [str u22, c24, m27]) (x := .mk 0 [] false [.mk 0 u22 false [] [], .mk 0 u24 nl24 [] []] u27) (hpart) rfl (by rw [← hL21]; exact H) fun w hP => ?_)⟩, by omega⟩
      · show some (Value.int .i32 _) = _
        rw [IntKind.wrap_i32]
        simp only [Option.some.injEq, Value.int.injEq, true_and]
        omega
      · skip
        rw [hP28] at hP
        obtain ⟨hf28_, hP⟩ := hP
        rw [hP25] at hP
        obtain ⟨hf25_, hP⟩ := hP
        rw [hP21] at hP
        exact ⟨QPt (QA1 (QF8 (by decide) u22) (QA1 (QF8n (by decide) hnl24 hf25_) (QA0))) hf28_, hP⟩
    have hge21 : ¬ (i21 : Int) < n21 := of_decide_eq_false h9
    obtain ⟨l29, s29, hone29, hl29, hr29, H⟩ := H.done hge21 hln21 (nl := nlF (.mk 11 0 (-1) (-1) (-1) 0 10 dCreateTopicsRequestTopicConfig) v) (sz := elZ true 7 10 dCreateTopicsRequestTopicConfig) rfl hpL21 rfl
    ((conv=>whnf);repeat(first|(refine mvT ?_;conv=>whnf)|(refine mvF ?_;conv=>whnf)|(refine cT (by rfl) ?_;conv=>whnf)|(refine cF (by rfl) ?_;conv=>whnf)))
    obtain ⟨P30, hP30⟩ : ∃ P : World → Prop, P = fun w => ListR true (elZ true 7 10 dCreateTopicsRequestTopicConfig) (elQ true 7 10 dCreateTopicsRequestTopicConfig ⟨w, fun k => k ≠ p⟩) w (fun k => k ≠ p) a21 (.mk 0 [] (decide (n21 ≤ 0)) l29 []) ∧ P19 w := ⟨_, rfl⟩
    replace H : St w0 G0 p pb s29 ((g1, 137, es1.flatten ++ [str u2, .int .i32 n4, .int .i16 n6, a8, .slice none 0 0, .map none] ++ ((List.replicate (n1.toNat - (i1 + 1)) [str [], .int .i32 0, .int .i16 0, .slice none 0 0, .slice none 0 0, .map none]).flatten ++ post1)) :: L1) P30 w := by rw [hP30]; exact H
    refine H.st1 (v := a21) 4 (cells_one hone29) (hone29) rfl (by first | omega | (simp [hlen1]; done) | (simp [hlen1]; omega)) rfl (Nat.lt_of_lt_of_le (Nat.lt_succ_self _) (Nat.le_of_ble_eq_true rfl)) ?_
    intro w H
    ((conv=>whnf);repeat(first|(refine mvT ?_;conv=>whnf)|(refine mvF ?_;conv=>whnf)|(refine cT (by rfl) ?_;conv=>whnf)|(refine cF (by rfl) ?_;conv=>whnf)))
    replace H : St w0 G0 p pb s29 ((g1, 137, es1.flatten ++ [str u2, .int .i32 n4, .int .i16 n6, a8, a21, .map none] ++ ((List.replicate (n1.toNat - (i1 + 1)) [str [], .int .i32 0, .int .i16 0, .slice none 0 0, .slice none 0 0, .map none]).flatten ++ post1)) :: L1) P30 w := H
    (refine mvB ?_;((conv=>whnf);repeat(first|(refine mvT ?_;conv=>whnf)|(refine mvF ?_;conv=>whnf)|(refine cT (by rfl) ?_;conv=>whnf)|(refine cF (by rfl) ?_;conv=>whnf))))
    refine VC.cutB (fun q : Value × List Tg × Rd => [(0, .pointer (some ⟨p, 0, none⟩)), (2, .bool false), (7, .pointer (some ⟨pb, 0, none⟩)), (8, .int .i16 v), (9, .bool fx), (10, .pointer (some ⟨p, 0, none⟩)), (13, .int .i32 n1), (12, .slice (some ⟨g1, 0, none⟩) n1.toNat cap1), (14, .int .i32 i1), (15, .pointer (some ⟨g1, 0 + (i1 : Int).toNat * 6, none⟩)), (16, .pointer (some ⟨g1, 0 + (i1 : Int).toNat * 6, none⟩))]) (fun q w' => rdTagsF fx s29 = q.2 ∧ St w0 G0 p pb q.2.2 ((g1, 137, es1.flatten ++ [str u2, .int .i32 n4, .int .i16 n6, a8, a21, q.1] ++ ((List.replicate (n1.toNat - (i1 + 1)) [str [], .int .i32 0, .int .i16 0, .slice none 0 0, .slice none 0 0, .map none]).flatten ++ post1)) :: L1) (fun w => TGf p q.1 q.2.1 w ∧ P30 w) w') ?_ ?_
    · refine cI (by rfl) (fun hc=>?_) (fun hc=>?_)
      · ((conv=>whnf);repeat(first|(refine mvT ?_;conv=>whnf)|(refine mvF ?_;conv=>whnf)|(refine cT (by rfl) ?_;conv=>whnf)|(refine cF (by rfl) ?_;conv=>whnf)))
        refine Does.mono H.tags ?_
        rintro r w ⟨m, u, s', rfl, hone, hr, H⟩
        ((conv=>whnf);repeat(first|(refine mvT ?_;conv=>whnf)|(refine mvF ?_;conv=>whnf)|(refine cT (by rfl) ?_;conv=>whnf)|(refine cF (by rfl) ?_;conv=>whnf)))
        refine H.st1 (v := m) 5 (rfl) (hone) rfl (by first | omega | (simp [hlen1]; done) | (simp [hlen1]; omega)) rfl (Nat.lt_of_lt_of_le (Nat.lt_succ_self _) (Nat.le_of_ble_eq_true rfl)) ?_
        intro w H
        ((conv=>whnf);repeat(first|(refine mvT ?_;conv=>whnf)|(refine mvF ?_;conv=>whnf)|(refine cT (by rfl) ?_;conv=>whnf)|(refine cF (by rfl) ?_;conv=>whnf)))
        exact ⟨(m, u, s'), ⟨rfl, rfl, rfl, rfl, rfl, rfl, rfl, rfl, rfl, rfl, rfl, trivial⟩, by rw [rdTagsF, if_pos hc]; exact hr, H⟩
      · ((conv=>whnf);repeat(first|(refine mvT ?_;conv=>whnf)|(refine mvF ?_;conv=>whnf)|(refine cT (by rfl) ?_;conv=>whnf)|(refine cF (by rfl) ?_;conv=>whnf)))
        exact ⟨(.map none, [], s29), ⟨rfl, rfl, rfl, rfl, rfl, rfl, rfl, rfl, rfl, rfl, rfl, trivial⟩, by rw [rdTagsF, if_neg (by rw [hc]; decide)], H.add fun w' _ => TagsR.nil _ _⟩
    clear H
    rintro ⟨m32, u32, s32⟩ w ⟨htg, H⟩
    dsimp only at htg H
    ((conv=>whnf);repeat(first|(refine mvT ?_;conv=>whnf)|(refine mvF ?_;conv=>whnf)|(refine cT (by rfl) ?_;conv=>whnf)|(refine cF (by rfl) ?_;conv=>whnf)))
    obtain ⟨P33, hP33⟩ : ∃ P : World → Prop, P = fun w => TGf p m32 u32 w ∧ P30 w := ⟨_, rfl⟩
    replace H : St w0 G0 p pb s32 ((g1, 137, es1.flatten ++ [str u2, .int .i32 n4, .int .i16 n6, a8, a21, m32] ++ ((List.replicate (n1.toNat - (i1 + 1)) [str [], .int .i32 0, .int .i16 0, .slice none 0 0, .slice none 0 0, .map none]).flatten ++ post1)) :: L1) P33 w := by rw [hP33]; exact H
    have hpart : rdPart 8 v fx dCreateTopicsRequestTopic si1 = (.mk 0 [] false [.mk 0 u2 false [] [], numT n4, numT n6, .mk 0 [] (decide (n8 ≤ 0)) l18 [], .mk 0 [] (decide (n21 ≤ 0)) l29 []] u32, s32) := by
      unfold rdPart rdPartW
      rw [rdAll_yes (df := dfT 8) (rdField8 (by decide) hr2) ⟨by decide, has_all hv⟩, rdAll_yes (df := dfT 8) (rdField3.trans hr4) ⟨by decide, has_all hv⟩, rdAll_yes (df := dfT 8) (rdField2.trans hr6) ⟨by decide, has_all hv⟩, rdAll_yes (df := dfT 8) ((rdField_list _ _ _ _ _ _ _ _ _ _ _).trans hr18) ⟨by decide, has_all hv⟩, rdAll_yes (df := dfT 8) ((rdField_list _ _ _ _ _ _ _ _ _ _ _).trans hr29) ⟨by decide, has_all hv⟩]
      simp only [rdAll]
      rw [htg]
    refine ⟨i1 + 1, ⟨rfl, rfl, ?_, rfl, rfl, rfl, rfl, rfl, rfl, trivial⟩, ⟨by omega, ListI.back hgo1 (LoopI.next hes1 hez1 hrn1 hts1 (cur := [str u2, .int .i32 n4, .int .i16 n6, a8, a21, m32]) (x := .mk 0 [] false [.mk 0 u2 false [] [], numT n4, numT n6, .mk 0 [] (decide (n8 ≤ 0)) l18 [], .mk 0 [] (decide (n21 ≤ 0)) l29 []] u32) (hpart) rfl (by rw [← hL1]; exact H) fun w hP => ?_)⟩, by omega⟩
    · show some (Value.int .i32 _) = _
      rw [IntKind.wrap_i32]
      simp only [Option.some.injEq, Value.int.injEq, true_and]
      omega
    · skip
      rw [hP33] at hP
      obtain ⟨hf33_, hP⟩ := hP
      rw [hP30] at hP
      obtain ⟨hf30_, hP⟩ := hP
      rw [hP19] at hP
      obtain ⟨hf19_, hP⟩ := hP
      rw [hP1] at hP
      exact ⟨QPt (QA1 (QF8 (by decide) u2) (QA1 (QF3 hn4) (QA1 (QF2 hn6) (QA1 (QF11 hl18 hf19_) (QA1 (QF11 hl29 hf30_) (QA0)))))) hf33_, hP⟩
  have hge1 : ¬ (i1 : Int) < n1 := of_decide_eq_false h9
  obtain ⟨l34, s34, hone34, hl34, hr34, H⟩ := H.done hge1 hln1 (nl := nlF (.mk 11 0 (-1) (-1) (-1) 0 10 dCreateTopicsRequestTopic) v) (sz := elZ true 8 10 dCreateTopicsRequestTopic) rfl hpL1 rfl
  ((conv=>whnf);repeat(first|(refine mvT ?_;conv=>whnf)|(refine mvF ?_;conv=>whnf)|(refine cT (by rfl) ?_;conv=>whnf)|(refine cF (by rfl) ?_;conv=>whnf)))
  obtain ⟨P35, hP35⟩ : ∃ P : World → Prop, P = fun w => ListR true (elZ true 8 10 dCreateTopicsRequestTopic) (elQ true 8 10 dCreateTopicsRequestTopic ⟨w, fun k => k ≠ p⟩) w (fun k => k ≠ p) a1 (.mk 0 [] (decide (n1 ≤ 0)) l34 []) ∧ (fun _ => True) w := ⟨_, rfl⟩
  replace H : St w0 G0 p pb s34 ((p, ty, [] ++ [.int .i16 v, .slice none 0 0, .int .i32 60000, .bool false, .map none] ++ []) :: []) P35 w := by rw [hP35]; exact H
  refine H.st1 (v := a1) 1 (cells_one hone34) (hone34) rfl (by simp) rfl (Nat.lt_of_lt_of_le (Nat.lt_succ_self _) (Nat.le_of_ble_eq_true rfl)) ?_
  intro w H
  ((conv=>whnf);repeat(first|(refine mvT ?_;conv=>whnf)|(refine mvF ?_;conv=>whnf)|(refine cT (by rfl) ?_;conv=>whnf)|(refine cF (by rfl) ?_;conv=>whnf)))
  replace H : St w0 G0 p pb s34 ((p, ty, [] ++ [.int .i16 v, a1, .int .i32 60000, .bool false, .map none] ++ []) :: []) P35 w := H
  refine Does.mono H.int32 ?_
  rintro r w ⟨n37, s37, rfl, hn37, hr37, H⟩
  ((conv=>whnf);repeat(first|(refine mvT ?_;conv=>whnf)|(refine mvF ?_;conv=>whnf)|(refine cT (by rfl) ?_;conv=>whnf)|(refine cF (by rfl) ?_;conv=>whnf)))
  refine H.st1 (v := .int .i32 n37) 2 (rfl) (rfl) rfl (by simp) rfl (Nat.lt_of_lt_of_le (Nat.lt_succ_self _) (Nat.le_of_ble_eq_true rfl)) ?_
  intro w H
  ((conv=>whnf);repeat(first|(refine mvT ?_;conv=>whnf)|(refine mvF ?_;conv=>whnf)|(refine cT (by rfl) ?_;conv=>whnf)|(refine cF (by rfl) ?_;conv=>whnf)))
  replace H : St w0 G0 p pb s37 ((p, ty, [] ++ [.int .i16 v, a1, .int .i32 n37, .bool false, .map none] ++ []) :: []) P35 w := H
  refine VC.cutE (fun q : Bool × Rd => [(0, .pointer (some ⟨p, 0, none⟩)), (2, .bool false), (7, .pointer (some ⟨pb, 0, none⟩)), (8, .int .i16 v), (9, .bool fx), (10, .pointer (some ⟨p, 0, none⟩))]) (fun q w' => (if hasF (.mk 0 1 (-1) (-1) (-1) 0 0 []) v = true then rdField 9 v fx (.mk 0 1 (-1) (-1) (-1) 0 0 []) s37 else (dfT 9 (.mk 0 1 (-1) (-1) (-1) 0 0 []), s37)) = (numT (if q.1 = true then 1 else 0), q.2) ∧ St w0 G0 p pb q.2 ((p, ty, [] ++ [.int .i16 v, a1, .int .i32 n37, .bool q.1, .map none] ++ []) :: []) P35 w') ?_ ?_
  · refine cI (by rfl) (fun hcv=>?_) (fun hcv=>?_)
    · ((conv=>whnf);repeat(first|(refine mvT ?_;conv=>whnf)|(refine mvF ?_;conv=>whnf)|(refine cT (by rfl) ?_;conv=>whnf)|(refine cF (by rfl) ?_;conv=>whnf)))
      refine Does.mono H.bool ?_
      rintro r w ⟨b40, s40, rfl, hr40, H⟩
      ((conv=>whnf);repeat(first|(refine mvT ?_;conv=>whnf)|(refine mvF ?_;conv=>whnf)|(refine cT (by rfl) ?_;conv=>whnf)|(refine cF (by rfl) ?_;conv=>whnf)))
      (refine mvB ?_;((conv=>whnf);repeat(first|(refine mvT ?_;conv=>whnf)|(refine mvF ?_;conv=>whnf)|(refine cT (by rfl) ?_;conv=>whnf)|(refine cF (by rfl) ?_;conv=>whnf))))
      refine H.st1 (v := .bool b40) 3 (rfl) (rfl) rfl (by simp) rfl (Nat.lt_of_lt_of_le (Nat.lt_succ_self _) (Nat.le_of_ble_eq_true rfl)) ?_
      intro w H
      ((conv=>whnf);repeat(first|(refine mvT ?_;conv=>whnf)|(refine mvF ?_;conv=>whnf)|(refine cT (by rfl) ?_;conv=>whnf)|(refine cF (by rfl) ?_;conv=>whnf)))
      replace H : St w0 G0 p pb s40 ((p, ty, [] ++ [.int .i16 v, a1, .int .i32 n37, .bool b40, .map none] ++ []) :: []) P35 w := H
      have hh : hasF (.mk 0 1 (-1) (-1) (-1) 0 0 []) v = true := by have := of_decide_eq_true hcv; rw [hasF_iff]; omega
      exact ⟨(b40, s40), ⟨rfl, rfl, rfl, rfl, rfl, rfl, trivial⟩, by rw [if_pos hh]; exact (rdField0.trans hr40), H⟩
    · ((conv=>whnf);repeat(first|(refine mvT ?_;conv=>whnf)|(refine mvF ?_;conv=>whnf)|(refine cT (by rfl) ?_;conv=>whnf)|(refine cF (by rfl) ?_;conv=>whnf)))
      have hh : ¬ hasF (.mk 0 1 (-1) (-1) (-1) 0 0 []) v = true := by have := of_decide_eq_false hcv; rw [hasF_iff]; omega
      exact ⟨(false, s37), ⟨rfl, rfl, rfl, rfl, rfl, rfl, trivial⟩, by rw [if_neg hh]; rfl, H⟩
  clear H
  rintro ⟨n39, s39⟩ w ⟨hr39, H⟩
  dsimp only at hr39 H
  ((conv=>whnf);repeat(first|(refine mvT ?_;conv=>whnf)|(refine mvF ?_;conv=>whnf)|(refine cT (by rfl) ?_;conv=>whnf)|(refine cF (by rfl) ?_;conv=>whnf)))
  replace H : St w0 G0 p pb s39 ((p, ty, [] ++ [.int .i16 v, a1, .int .i32 n37, .bool n39, .map none] ++ []) :: []) P35 w := H
  (refine mvB ?_;((conv=>whnf);repeat(first|(refine mvT ?_;conv=>whnf)|(refine mvF ?_;conv=>whnf)|(refine cT (by rfl) ?_;conv=>whnf)|(refine cF (by rfl) ?_;conv=>whnf))))
  refine VC.cutE (fun q : Value × List Tg × Rd => [(0, .pointer (some ⟨p, 0, none⟩)), (2, .bool false), (7, .pointer (some ⟨pb, 0, none⟩)), (8, .int .i16 v), (9, .bool fx), (10, .pointer (some ⟨p, 0, none⟩))]) (fun q w' => rdTagsF fx s39 = q.2 ∧ St w0 G0 p pb q.2.2 ((p, ty, [] ++ [.int .i16 v, a1, .int .i32 n37, .bool n39, q.1] ++ []) :: []) (fun w => TGf p q.1 q.2.1 w ∧ P35 w) w') ?_ ?_
  · refine cI (by rfl) (fun hc=>?_) (fun hc=>?_)
    · ((conv=>whnf);repeat(first|(refine mvT ?_;conv=>whnf)|(refine mvF ?_;conv=>whnf)|(refine cT (by rfl) ?_;conv=>whnf)|(refine cF (by rfl) ?_;conv=>whnf)))
      refine Does.mono H.tags ?_
      rintro r w ⟨m, u, s', rfl, hone, hr, H⟩
      ((conv=>whnf);repeat(first|(refine mvT ?_;conv=>whnf)|(refine mvF ?_;conv=>whnf)|(refine cT (by rfl) ?_;conv=>whnf)|(refine cF (by rfl) ?_;conv=>whnf)))
      refine H.st1 (v := m) 4 (rfl) (hone) rfl (by simp) rfl (Nat.lt_of_lt_of_le (Nat.lt_succ_self _) (Nat.le_of_ble_eq_true rfl)) ?_
      intro w H
      ((conv=>whnf);repeat(first|(refine mvT ?_;conv=>whnf)|(refine mvF ?_;conv=>whnf)|(refine cT (by rfl) ?_;conv=>whnf)|(refine cF (by rfl) ?_;conv=>whnf)))
      exact ⟨(m, u, s'), ⟨rfl, rfl, rfl, rfl, rfl, rfl, trivial⟩, by rw [rdTagsF, if_pos hc]; exact hr, H⟩
    · ((conv=>whnf);repeat(first|(refine mvT ?_;conv=>whnf)|(refine mvF ?_;conv=>whnf)|(refine cT (by rfl) ?_;conv=>whnf)|(refine cF (by rfl) ?_;conv=>whnf)))
      exact ⟨(.map none, [], s39), ⟨rfl, rfl, rfl, rfl, rfl, rfl, trivial⟩, by rw [rdTagsF, if_neg (by rw [hc]; decide)], H.add fun w' _ => TagsR.nil _ _⟩
  clear H
  rintro ⟨m42, u42, s42⟩ w ⟨htg, H⟩
  dsimp only at htg H
  ((conv=>whnf);repeat(first|(refine mvT ?_;conv=>whnf)|(refine mvF ?_;conv=>whnf)|(refine cT (by rfl) ?_;conv=>whnf)|(refine cF (by rfl) ?_;conv=>whnf)))
  obtain ⟨P43, hP43⟩ : ∃ P : World → Prop, P = fun w => TGf p m42 u42 w ∧ P35 w := ⟨_, rfl⟩
  replace H : St w0 G0 p pb s42 ((p, ty, [] ++ [.int .i16 v, a1, .int .i32 n37, .bool n39, m42] ++ []) :: []) P43 w := by rw [hP43]; exact H
  have hpart : rdPart 9 v fx dCreateTopicsRequest (l, false) = (.mk 0 [] false [.mk 0 [] (decide (n1 ≤ 0)) l34 [], numT n37, numT (if n39 = true then 1 else 0)] u42, s42) := by
    unfold rdPart rdPartW
    rw [rdAll_yes (df := dfT 9) ((rdField_list _ _ _ _ _ _ _ _ _ _ _).trans hr34) ⟨by decide, has_all hv⟩, rdAll_yes (df := dfT 9) (rdField3.trans hr37) ⟨by decide, has_all hv⟩, rdAll_ver hr39 (by decide)]
    simp only [rdAll]
    rw [htg]
  refine Does.mono (H.done hL hp1) ?_
  rintro r w ⟨rfl, H⟩
  ((conv=>whnf);repeat(first|(refine mvT ?_;conv=>whnf)|(refine mvF ?_;conv=>whnf)|(refine cT (by rfl) ?_;conv=>whnf)|(refine cF (by rfl) ?_;conv=>whnf)))
  refine RdPost.end hpart H fun hP => ?_
  rw [hP43] at hP
  obtain ⟨hf43_, hP⟩ := hP
  rw [hP35] at hP
  obtain ⟨hf35_, hP⟩ := hP
  exact QPt (QA1 (QF11 hl34 hf35_) (QA1 (QF3 hn37) (QA1 (QF0 n39) (QA0)))) hf43_
end Go.Proofs.YtmmieooipcfbiaaGreatDoor.K
