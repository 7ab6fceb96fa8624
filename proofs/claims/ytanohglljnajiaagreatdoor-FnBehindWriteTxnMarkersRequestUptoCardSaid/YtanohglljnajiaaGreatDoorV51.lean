/- Reading of WriteTxnMarkersRequest. -/
import Derived.Test.YtanohglljnajiaaGreatDoorE5
set_option linter.unusedVariables false
set_option linter.unusedSimpArgs false
namespace Go.Proofs.YtanohglljnajiaaGreatDoor.K
open Go
set_option maxHeartbeats 4000000
set_option maxRecDepth 100000

abbrev dWriteTxnMarkersRequestMarkerTopic : List Fd := [.mk 8 0 (-1) (-1) (-1) 0 0 [], .mk 11 0 (-1) (-1) (-1) 0 3 []]
abbrev dWriteTxnMarkersRequestMarker : List Fd := [.mk 4 0 (-1) (-1) (-1) 0 0 [], .mk 2 0 (-1) (-1) (-1) 0 0 [], .mk 0 0 (-1) (-1) (-1) 0 0 [], .mk 11 0 (-1) (-1) (-1) 0 10 dWriteTxnMarkersRequestMarkerTopic, .mk 3 0 (-1) (-1) (-1) 0 0 [], .mk 1 2 (-1) (-1) (-1) 0 0 []]
abbrev dWriteTxnMarkersRequest : List Fd := [.mk 11 0 (-1) (-1) (-1) 0 10 dWriteTxnMarkersRequestMarker]
theorem sWriteTxnMarkersRequestMarkerTopic (w : World) : Does X.P 109 #[] w fun r w' => FdsR w' (fun k => w.heap.size ≤ k) r dWriteTxnMarkersRequestMarkerTopic ∧ Ext nob w w' := by
  have hx0 : Ext nob w w := Ext.refl _ _
  refine Does.go (X := X) (l := []) Tryz.func109 rfl (by kernel_rfl) (by kernel_rfl) _ rfl ?_
  ((conv=>whnf);repeat(first|(refine mvT ?_;conv=>whnf)|(refine mvF ?_;conv=>whnf)|(refine cT (by rfl) ?_;conv=>whnf)|(refine cF (by rfl) ?_;conv=>whnf)))
  have hxs := hx0
  intro b wb hb ho hx
  have hx0 := hx0.e0 hx
  ((conv=>whnf);repeat(first|(refine mvT ?_;conv=>whnf)|(refine mvF ?_;conv=>whnf)|(refine cT (by rfl) ?_;conv=>whnf)|(refine cF (by rfl) ?_;conv=>whnf)))
  refine ⟨?_, hx0⟩
  exact FdL.fds (cs := [[.int .i64 8, .int .i64 0, .int .i64 (-1), .int .i64 (-1), .int .i64 (-1), .int .i64 0, .int .i64 0, .slice none 0 0], [.int .i64 11, .int .i64 0, .int .i64 (-1), .int .i64 (-1), .int .i64 (-1), .int .i64 0, .int .i64 3, .slice none 0 0]])
    ⟨fdLeaf _ _ _ _ _ _ _ _ _, fdLeaf _ _ _ _ _ _ _ _ _, trivial⟩ ho rfl (by decide) (by have := hxs.size; omega)
theorem sWriteTxnMarkersRequestMarker (w : World) : Does X.P 52 #[] w fun r w' => FdsR w' (fun k => w.heap.size ≤ k) r dWriteTxnMarkersRequestMarker ∧ Ext nob w w' := by
  have hx0 : Ext nob w w := Ext.refl _ _
  refine Does.go (X := X) (l := []) Tryz.func52 rfl (by kernel_rfl) (by kernel_rfl) _ rfl ?_
  ((conv=>whnf);repeat(first|(refine mvT ?_;conv=>whnf)|(refine mvF ?_;conv=>whnf)|(refine cT (by rfl) ?_;conv=>whnf)|(refine cF (by rfl) ?_;conv=>whnf)))
  refine Does.mono (sWriteTxnMarkersRequestMarkerTopic w) ?_
  rintro v3 wv3 ⟨hv3, hc⟩
  have hv3 := hv3.mono (F' := fun k => w.heap.size ≤ k) fun k _ h => Nat.le_trans hx0.size h
  obtain ⟨lv3, gv3, _⟩ := id hv3
  obtain ⟨av3, kv3, rfl, _⟩ := gv3.view
  ((conv=>whnf);repeat(first|(refine mvT ?_;conv=>whnf)|(refine mvF ?_;conv=>whnf)|(refine cT (by rfl) ?_;conv=>whnf)|(refine cF (by rfl) ?_;conv=>whnf)))
  have hx0 := hx0.e0 hc
  have hxs := hx0
  intro b wb hb ho hx
  have hx0 := hx0.e0 hx
  ((conv=>whnf);repeat(first|(refine mvT ?_;conv=>whnf)|(refine mvF ?_;conv=>whnf)|(refine cT (by rfl) ?_;conv=>whnf)|(refine cF (by rfl) ?_;conv=>whnf)))
  refine ⟨?_, hx0⟩
  exact FdL.fds (cs := [[.int .i64 4, .int .i64 0, .int .i64 (-1), .int .i64 (-1), .int .i64 (-1), .int .i64 0, .int .i64 0, .slice none 0 0], [.int .i64 2, .int .i64 0, .int .i64 (-1), .int .i64 (-1), .int .i64 (-1), .int .i64 0, .int .i64 0, .slice none 0 0], [.int .i64 0, .int .i64 0, .int .i64 (-1), .int .i64 (-1), .int .i64 (-1), .int .i64 0, .int .i64 0, .slice none 0 0], [.int .i64 11, .int .i64 0, .int .i64 (-1), .int .i64 (-1), .int .i64 (-1), .int .i64 0, .int .i64 10, .slice av3 lv3.length kv3], [.int .i64 3, .int .i64 0, .int .i64 (-1), .int .i64 (-1), .int .i64 (-1), .int .i64 0, .int .i64 0, .slice none 0 0], [.int .i64 1, .int .i64 2, .int .i64 (-1), .int .i64 (-1), .int .i64 (-1), .int .i64 0, .int .i64 0, .slice none 0 0]])
    ⟨fdLeaf _ _ _ _ _ _ _ _ _, fdLeaf _ _ _ _ _ _ _ _ _, fdLeaf _ _ _ _ _ _ _ _ _, FdC.of (hv3.e0 hx) _ _ _ _ _ _ _, fdLeaf _ _ _ _ _ _ _ _ _, fdLeaf _ _ _ _ _ _ _ _ _, trivial⟩ ho rfl (by decide) (by have := hxs.size; omega)
theorem sWriteTxnMarkersRequest (w : World) : Does X.P 21 #[] w fun r w' => Msg w' (fun k => w.heap.size ≤ k) r dWriteTxnMarkersRequest 1 ∧ Ext nob w w' := by
  have hx0 : Ext nob w w := Ext.refl _ _
  refine Does.go (X := X) (l := []) Tryz.func21 rfl (by kernel_rfl) (by kernel_rfl) _ rfl ?_
  ((conv=>whnf);repeat(first|(refine mvT ?_;conv=>whnf)|(refine mvF ?_;conv=>whnf)|(refine cT (by rfl) ?_;conv=>whnf)|(refine cF (by rfl) ?_;conv=>whnf)))
  intro b w1 hb ho hx
  have hx0 := hx0.e0 hx
  have ho := ho
  ((conv=>whnf);repeat(first|(refine mvT ?_;conv=>whnf)|(refine mvF ?_;conv=>whnf)|(refine cT (by rfl) ?_;conv=>whnf)|(refine cF (by rfl) ?_;conv=>whnf)))
  refine Does.mono (sWriteTxnMarkersRequestMarker w1) ?_
  rintro v0 wv0 ⟨hv0, hc⟩
  have hv0 := hv0.mono (F' := fun k => w.heap.size ≤ k ∧ b < k) fun k _ h => ⟨Nat.le_trans hx0.size h, Nat.lt_of_lt_of_le ho.lt h⟩
  obtain ⟨lv0, gv0, _⟩ := id hv0
  obtain ⟨av0, kv0, rfl, _⟩ := gv0.view
  ((conv=>whnf);repeat(first|(refine mvT ?_;conv=>whnf)|(refine mvF ?_;conv=>whnf)|(refine cT (by rfl) ?_;conv=>whnf)|(refine cF (by rfl) ?_;conv=>whnf)))
  have hx0 := hx0.e0 hc
  have ho := ho.e0 hc
  have hxs := hx0
  intro b2 w2 hb2 ho2 hx2
  ((conv=>whnf);repeat(first|(refine mvT ?_;conv=>whnf)|(refine mvF ?_;conv=>whnf)|(refine cT (by rfl) ?_;conv=>whnf)|(refine cF (by rfl) ?_;conv=>whnf)))
  have hx0 := hx0.e0 hx2
  refine ⟨_, _, ho.e0 hx2, rfl, rfl, rfl, ?_⟩
  intro w3 ho3 hx3
  have hx03 := hx0.st hx3 hb
  ((conv=>whnf);repeat(first|(refine mvT ?_;conv=>whnf)|(refine mvF ?_;conv=>whnf)|(refine cT (by rfl) ?_;conv=>whnf)|(refine cF (by rfl) ?_;conv=>whnf)))
  refine ⟨_, rfl, ho3.cells, ?_⟩
  refine ⟨⟨_, rfl, ?_⟩, hx03⟩
  have ho2 := ho2.ext hx3 (by have := ho.lt; omega)
  have hs := hx0.size
  have hs2 : w.heap.size ≤ b2 := Nat.le_trans hxs.size hb2
  exact FdL.fds (cs := [[.int .i64 11, .int .i64 0, .int .i64 (-1), .int .i64 (-1), .int .i64 (-1), .int .i64 0, .int .i64 10, .slice av0 lv0.length kv0]])
    ⟨FdC.of (FdsR.mono (FdsR.ext (FdsR.e0 hv0 hx2) hx3 fun k _ h1 h2 => by omega) fun k _ h => h.1) _ _ _ _ _ _ _, trivial⟩ ho2 rfl (by decide) (by omega)
theorem dfWriteTxnMarkersRequestMarkerTopic {w : World} {q o : Nat} {T : TypeId} {pre cur post : List Value} (ho : Own w q T (pre ++ cur ++ post)) (hp : pre.length = o) (hl : cur.length = 3) :
    Does X.P 158 #[.pointer (some ⟨q, o, none⟩)] w fun r w' => Own w' q T (pre ++ cur ++ post) ∧ Ext (fun k => k = q) w w' := by
  have hx : Ext (fun k => k = q) w w := Ext.refl _ _
  refine Does.go (X := X) (l := [_]) Tryz.func158 rfl (by kernel_rfl) (by kernel_rfl) _ rfl ?_
  ((conv=>whnf);repeat(first|(refine mvT ?_;conv=>whnf)|(refine mvF ?_;conv=>whnf)|(refine cT (by rfl) ?_;conv=>whnf)|(refine cF (by rfl) ?_;conv=>whnf)))
  exact ⟨ho, hx⟩
theorem dfWriteTxnMarkersRequestMarker {w : World} {q o : Nat} {T : TypeId} {pre cur post : List Value} (ho : Own w q T (pre ++ cur ++ post)) (hp : pre.length = o) (hl : cur.length = 7) :
    Does X.P 155 #[.pointer (some ⟨q, o, none⟩)] w fun r w' => Own w' q T (pre ++ cur ++ post) ∧ Ext (fun k => k = q) w w' := by
  have hx : Ext (fun k => k = q) w w := Ext.refl _ _
  refine Does.go (X := X) (l := [_]) Tryz.func155 rfl (by kernel_rfl) (by kernel_rfl) _ rfl ?_
  ((conv=>whnf);repeat(first|(refine mvT ?_;conv=>whnf)|(refine mvF ?_;conv=>whnf)|(refine cT (by rfl) ?_;conv=>whnf)|(refine cF (by rfl) ?_;conv=>whnf)))
  exact ⟨ho, hx⟩
theorem dfWriteTxnMarkersRequest {w : World} {q o : Nat} {T : TypeId} {pre cur post : List Value} (ho : Own w q T (pre ++ cur ++ post)) (hp : pre.length = o) (hl : cur.length = 3) :
    Does X.P 108 #[.pointer (some ⟨q, o, none⟩)] w fun r w' => Own w' q T (pre ++ cur ++ post) ∧ Ext (fun k => k = q) w w' := by
  have hx : Ext (fun k => k = q) w w := Ext.refl _ _
  refine Does.go (X := X) (l := [_]) Tryz.func108 rfl (by kernel_rfl) (by kernel_rfl) _ rfl ?_
  ((conv=>whnf);repeat(first|(refine mvT ?_;conv=>whnf)|(refine mvF ?_;conv=>whnf)|(refine cT (by rfl) ?_;conv=>whnf)|(refine cF (by rfl) ?_;conv=>whnf)))
  exact ⟨ho, hx⟩
theorem readWriteTxnMarkersRequest {w0 : World} {F : Nat → Prop} {p : Nat} {ty : TypeId} {v : Int} {x ev : Value} {l : List UInt8} (hL : Laid w0 ev) (hp : Own w0 p ty [.int .i16 v, .slice none 0 0, .map none]) (hx : Bytes w0 F x l) (hF : ∀ k, F k → k ≠ p) (hv : 0 ≤ v) (hp1 : p ≠ errG) :
    Does X.P 110 #[.pointer (some ⟨p, 0, none⟩), x, .bool false] w0 fun r w' => RdPost w0 p ty v (decide (v ≥ 1)) true dWriteTxnMarkersRequest ev l r w' := by
  have hpl := hp.lt
  obtain ⟨fx, hfx⟩ : ∃ fx, fx = decide (v ≥ 1) := ⟨_, rfl⟩
  rw [← hfx]
  obtain ⟨G0, hG0, hx⟩ : ∃ G0 : Nat → Prop, (∀ k, G0 k → k < w0.heap.size ∧ k ≠ p) ∧ Bytes w0 G0 x l := ⟨fun k => F k ∧ k < w0.heap.size, fun k h => ⟨h.2, hF k h.1⟩, Sl.mono hx fun k hk h => ⟨h, hk⟩⟩
  obtain ⟨a0, c0, rfl, _⟩ := hx.view
  refine Does.go (X := X) (l := [_, _, _]) Tryz.func110 rfl (by kernel_rfl) (by kernel_rfl) _ rfl ?_
  ((conv=>whnf);repeat(first|(refine mvT ?_;conv=>whnf)|(refine mvF ?_;conv=>whnf)|(refine cT (by rfl) ?_;conv=>whnf)|(refine cF (by rfl) ?_;conv=>whnf)))
  refine Does.mono (dfWriteTxnMarkersRequest (pre := []) (cur := [.int .i16 v, .slice none 0 0, .map none]) (post := []) (by simpa using hp) rfl rfl) ?_
  rintro rd wd ⟨hpd, hxd⟩
  ((conv=>whnf);repeat(first|(refine mvT ?_;conv=>whnf)|(refine mvF ?_;conv=>whnf)|(refine cT (by rfl) ?_;conv=>whnf)|(refine cF (by rfl) ?_;conv=>whnf)))
  intro pb w1 hpb hb hx1
  ((conv=>whnf);repeat(first|(refine mvT ?_;conv=>whnf)|(refine mvF ?_;conv=>whnf)|(refine cT (by rfl) ?_;conv=>whnf)|(refine cF (by rfl) ?_;conv=>whnf)))
  refine st_all [.slice a0 l.length c0, .bool false] hb rfl rfl rfl ?_
  intro w hb hx2
  ((conv=>whnf);repeat(first|(refine mvT ?_;conv=>whnf)|(refine mvF ?_;conv=>whnf)|(refine cT (by rfl) ?_;conv=>whnf)|(refine cF (by rfl) ?_;conv=>whnf)))
  have hsd := hxd.size
  have hwp : w0.heap.size ≤ pb := by omega
  have he1 : Ext nob wd w := hx1.trans hx2 fun k hk h => by omega
  have hpw : Own w p ty [.int .i16 v, .slice none 0 0, .map none] := by have := hpd.e0 he1; simpa using this
  have he := hxd.tr0 he1
  have H := St.init hpw hb (hx.ext he fun k _ h => (hG0 k h).2) hG0 he hpl hwp
  clear hpd hxd hx1 hx2 hb hpw he1 hp
  refine ldS (H.cell (o := 0) rfl (k := 0) rfl) ?_;((conv=>whnf);repeat(first|(refine mvT ?_;conv=>whnf)|(refine mvF ?_;conv=>whnf)|(refine cT (by rfl) ?_;conv=>whnf)|(refine cF (by rfl) ?_;conv=>whnf)))
  rw [← hfx]
  (refine mvB ?_;((conv=>whnf);repeat(first|(refine mvT ?_;conv=>whnf)|(refine mvF ?_;conv=>whnf)|(refine cT (by rfl) ?_;conv=>whnf)|(refine cF (by rfl) ?_;conv=>whnf))))
  have hup0 : tailBad 9 v fx dWriteTxnMarkersRequest (l, false) = true → (rdPart 9 v fx dWriteTxnMarkersRequest (l, false)).2.2 = true := id
  refine ldS (H.cell (o := 0) rfl (k := 1) rfl) ?_;((conv=>whnf);repeat(first|(refine mvT ?_;conv=>whnf)|(refine mvF ?_;conv=>whnf)|(refine cT (by rfl) ?_;conv=>whnf)|(refine cF (by rfl) ?_;conv=>whnf)))
  (refine mvB ?_;((conv=>whnf);repeat(first|(refine mvT ?_;conv=>whnf)|(refine mvF ?_;conv=>whnf)|(refine cT (by rfl) ?_;conv=>whnf)|(refine cF (by rfl) ?_;conv=>whnf))))
  refine VC.cutE (fun q : Int × Rd => [(13, .int .i32 q.1), (12, .slice none 0 0), (0, .pointer (some ⟨p, 0, none⟩)), (2, .bool false), (7, .pointer (some ⟨pb, 0, none⟩)), (8, .int .i16 v), (9, .bool fx), (10, .pointer (some ⟨p, 0, none⟩))]) (fun q w' => (-2147483648 ≤ q.1 ∧ q.1 ≤ 2147483647) ∧ rdLn fx (l, false) = q ∧ St w0 G0 p pb q.2 ((p, ty, [] ++ [.int .i16 v, .slice none 0 0, .map none] ++ []) :: []) (fun _ => True) w') ?_ ?_
  · refine cI (by rfl) (fun hc=>?_) (fun hc=>?_)
    · ((conv=>whnf);repeat(first|(refine mvT ?_;conv=>whnf)|(refine mvF ?_;conv=>whnf)|(refine cT (by rfl) ?_;conv=>whnf)|(refine cF (by rfl) ?_;conv=>whnf)))
      refine Does.mono H.lnc ?_
      rintro r w ⟨n, s', rfl, hn, hr, H⟩
      ((conv=>whnf);repeat(first|(refine mvT ?_;conv=>whnf)|(refine mvF ?_;conv=>whnf)|(refine cT (by rfl) ?_;conv=>whnf)|(refine cF (by rfl) ?_;conv=>whnf)))
      exact ⟨(n, s'), ⟨rfl, rfl, rfl, rfl, rfl, rfl, rfl, rfl, trivial⟩, hn, by rw [hc]; exact hr, H⟩
    · ((conv=>whnf);repeat(first|(refine mvT ?_;conv=>whnf)|(refine mvF ?_;conv=>whnf)|(refine cT (by rfl) ?_;conv=>whnf)|(refine cF (by rfl) ?_;conv=>whnf)))
      refine Does.mono H.lnp ?_
      rintro r w ⟨n, s', rfl, hn, hr, H⟩
      ((conv=>whnf);repeat(first|(refine mvT ?_;conv=>whnf)|(refine mvF ?_;conv=>whnf)|(refine cT (by rfl) ?_;conv=>whnf)|(refine cF (by rfl) ?_;conv=>whnf)))
      exact ⟨(n, s'), ⟨rfl, rfl, rfl, rfl, rfl, rfl, rfl, rfl, trivial⟩, hn, by rw [hc]; exact hr, H⟩
  clear H
  rintro ⟨n1, s1⟩ w ⟨hn1, hln1, H⟩
  dsimp only at hn1 hln1 H
  ((conv=>whnf);repeat(first|(refine mvT ?_;conv=>whnf)|(refine mvF ?_;conv=>whnf)|(refine cT (by rfl) ?_;conv=>whnf)|(refine cF (by rfl) ?_;conv=>whnf)))
  refine Does.mono H.ok ?_
  rintro r w ⟨rfl, H⟩
  ((conv=>whnf);repeat(first|(refine mvT ?_;conv=>whnf)|(refine mvF ?_;conv=>whnf)|(refine cT (by rfl) ?_;conv=>whnf)|(refine cF (by rfl) ?_;conv=>whnf)))
  refine cI (by rfl) (fun hbd=>?_) (fun hbd=>?_)
  · have hbd : s1.2 = true := by simpa using hbd
    ((conv=>whnf);repeat(first|(refine mvT ?_;conv=>whnf)|(refine mvF ?_;conv=>whnf)|(refine cT (by rfl) ?_;conv=>whnf)|(refine cF (by rfl) ?_;conv=>whnf)))
    refine Does.mono (H.done hL hp1) ?_
    rintro r w ⟨rfl, H⟩
    ((conv=>whnf);repeat(first|(refine mvT ?_;conv=>whnf)|(refine mvF ?_;conv=>whnf)|(refine cT (by rfl) ?_;conv=>whnf)|(refine cF (by rfl) ?_;conv=>whnf)))
    refine RdPost.early hbd (hup0 (?_)) H
    rw [tail_len ⟨by decide, has_all hv⟩ hln1 hbd]
  have hbd : s1.2 = false := by simpa using hbd
  clear hbd
  ((conv=>whnf);repeat(first|(refine mvT ?_;conv=>whnf)|(refine mvF ?_;conv=>whnf)|(refine cT (by rfl) ?_;conv=>whnf)|(refine cF (by rfl) ?_;conv=>whnf)))
  refine cut_zero ?_
  ((conv=>whnf);repeat(first|(refine mvT ?_;conv=>whnf)|(refine mvF ?_;conv=>whnf)|(refine cT (by rfl) ?_;conv=>whnf)|(refine cF (by rfl) ?_;conv=>whnf)))
  refine VC.cutE (fun a : Value => [(13, .int .i32 n1), (12, a), (0, .pointer (some ⟨p, 0, none⟩)), (2, .bool false), (7, .pointer (some ⟨pb, 0, none⟩)), (8, .int .i16 v), (9, .bool fx), (10, .pointer (some ⟨p, 0, none⟩))]) (fun a w' => ListI w0 G0 p pb 114 [.int .i64 0, .int .i16 0, .bool false, .slice none 0 0, .int .i32 0, .int .i8 0, .map none] (elR 8 v fx 10 dWriteTxnMarkersRequestMarker) (elQ true 8 10 dWriteTxnMarkersRequestMarker) s1 n1 (decide (n1 ≤ 0)) ((p, ty, [] ++ [.int .i16 v, .slice none 0 0, .map none] ++ []) :: []) (fun _ => True) a 0 w') ?_ ?_
  · refine cI (by rfl) (fun hps=>?_) (fun hps=>?_)
    · have hps : 0 < n1 := by have := of_decide_eq_true hps; omega
      ((conv=>whnf);repeat(first|(refine mvT ?_;conv=>whnf)|(refine mvF ?_;conv=>whnf)|(refine cT (by rfl) ?_;conv=>whnf)|(refine cF (by rfl) ?_;conv=>whnf)))
      refine H.grow hps hn1.2 (by decide) rfl rfl (by decide) ?_
      intro g cap post w hc1 hc2 H
      ((conv=>whnf);repeat(first|(refine mvT ?_;conv=>whnf)|(refine mvF ?_;conv=>whnf)|(refine cT (by rfl) ?_;conv=>whnf)|(refine cF (by rfl) ?_;conv=>whnf)))
      exact ⟨_, ⟨rfl, rfl, rfl, rfl, rfl, rfl, rfl, rfl, trivial⟩, ListI.some hps (decide_eq_false (by omega)) hc1 hc2 H⟩
    · have hps : n1 ≤ 0 := by have := of_decide_eq_false hps; omega
      ((conv=>whnf);repeat(first|(refine mvT ?_;conv=>whnf)|(refine mvF ?_;conv=>whnf)|(refine cT (by rfl) ?_;conv=>whnf)|(refine cF (by rfl) ?_;conv=>whnf)))
      exact ⟨_, ⟨rfl, rfl, rfl, rfl, rfl, rfl, rfl, rfl, trivial⟩, ListI.none hps (decide_eq_true hps) H⟩
  clear H
  rintro a1 w H
  ((conv=>whnf);repeat(first|(refine mvT ?_;conv=>whnf)|(refine mvF ?_;conv=>whnf)|(refine cT (by rfl) ?_;conv=>whnf)|(refine cF (by rfl) ?_;conv=>whnf)))
  have hpL1 : inL ((p, ty, [] ++ [.int .i16 v, .slice none 0 0, .map none] ++ []) :: []) p := inL.head _ _
  refine VL.loop (fun i : Nat => [(13, .int .i32 n1), (12, a1), (14, .int .i32 i), (0, .pointer (some ⟨p, 0, none⟩)), (2, .bool false), (7, .pointer (some ⟨pb, 0, none⟩)), (8, .int .i16 v), (9, .bool fx), (10, .pointer (some ⟨p, 0, none⟩))]) (fun i w' => i ≤ 2147483647 ∧ ListI w0 G0 p pb 114 [.int .i64 0, .int .i16 0, .bool false, .slice none 0 0, .int .i32 0, .int .i8 0, .map none] (elR 8 v fx 10 dWriteTxnMarkersRequestMarker) (elQ true 8 10 dWriteTxnMarkersRequestMarker) s1 n1 (decide (n1 ≤ 0)) ((p, ty, [] ++ [.int .i16 v, .slice none 0 0, .map none] ++ []) :: []) (fun _ => True) a1 i w') (fun i => n1.toNat - i) 0 ⟨rfl, rfl, rfl, rfl, rfl, rfl, rfl, rfl, rfl, trivial⟩ ⟨by decide, H⟩ ?_
  clear H
  rintro i1 w ⟨hi1, H⟩
  ((conv=>whnf);repeat(first|(refine mvT ?_;conv=>whnf)|(refine mvF ?_;conv=>whnf)|(refine cT (by rfl) ?_;conv=>whnf)|(refine cF (by rfl) ?_;conv=>whnf)))
  refine cI (by rfl) (fun h9=>?_) (fun h9=>?_)
  · have hlt1 : (i1 : Int) < n1 := of_decide_eq_true h9
    obtain ⟨g1, cap1, post1, rfl, hgo1, HI⟩ := H.go hlt1
    obtain ⟨es1, ts1, si1, hes1, hez1, hrn1, hts1, hlen1, H⟩ := HI.open hgo1.2.2.2.2
    obtain ⟨L1, hL1⟩ : ∃ L : List Ob, L = ((p, ty, [] ++ [.int .i16 v, .slice none 0 0, .map none] ++ []) :: []) := ⟨_, rfl⟩
    rw [← hL1] at H hpL1
    obtain ⟨P1, hP1⟩ : ∃ P : World → Prop, P = fun w => (∀ (j : Nat) (c : List Value) (y : T), es1[j]? = some c → ts1[j]? = some y → elQ true 8 10 dWriteTxnMarkersRequestMarker ⟨w, fun k => k ≠ p⟩ c y) ∧ (fun _ => True) w := ⟨_, rfl⟩
    rw [← hP1] at H
    replace H : St w0 G0 p pb si1 ((g1, 114, es1.flatten ++ [.int .i64 0, .int .i16 0, .bool false, .slice none 0 0, .int .i32 0, .int .i8 0, .map none] ++ ((List.replicate (n1.toNat - (i1 + 1)) [.int .i64 0, .int .i16 0, .bool false, .slice none 0 0, .int .i32 0, .int .i8 0, .map none]).flatten ++ post1)) :: L1) P1 w := H
    ((conv=>whnf);repeat(first|(refine mvT ?_;conv=>whnf)|(refine mvF ?_;conv=>whnf)|(refine cT (by rfl) ?_;conv=>whnf)|(refine cF (by rfl) ?_;conv=>whnf)))
    refine ⟨g1, 0, rfl, ⟨by omega, by omega⟩, ?_⟩
    ((conv=>whnf);repeat(first|(refine mvT ?_;conv=>whnf)|(refine mvF ?_;conv=>whnf)|(refine cT (by rfl) ?_;conv=>whnf)|(refine cF (by rfl) ?_;conv=>whnf)))
    refine Does.mono (dfWriteTxnMarkersRequestMarker (pre := es1.flatten) (cur := [.int .i64 0, .int .i16 0, .bool false, .slice none 0 0, .int .i32 0, .int .i8 0, .map none]) (post := ((List.replicate (n1.toNat - (i1 + 1)) [.int .i64 0, .int .i16 0, .bool false, .slice none 0 0, .int .i32 0, .int .i8 0, .map none]).flatten ++ post1)) H.head (by first | (rw [hlen1]; simp; done) | (simp [hlen1]; done) | (simp [hlen1]; omega)) rfl) ?_
    rintro rd w2 ⟨hdf, hxd⟩
    replace H := H.put hdf hxd
    clear hdf hxd
    replace H : St w0 G0 p pb si1 ((g1, 114, es1.flatten ++ [.int .i64 0, .int .i16 0, .bool false, .slice none 0 0, .int .i32 0, .int .i8 0, .map none] ++ ((List.replicate (n1.toNat - (i1 + 1)) [.int .i64 0, .int .i16 0, .bool false, .slice none 0 0, .int .i32 0, .int .i8 0, .map none]).flatten ++ post1)) :: L1) P1 w2 := H
    ((conv=>whnf);repeat(first|(refine mvT ?_;conv=>whnf)|(refine mvF ?_;conv=>whnf)|(refine cT (by rfl) ?_;conv=>whnf)|(refine cF (by rfl) ?_;conv=>whnf)))
    have hup1 : tailBad 8 v fx dWriteTxnMarkersRequestMarker si1 = true → (rdPart 9 v fx dWriteTxnMarkersRequest (l, false)).2.2 = true := by
      intro hb
      refine hup0 ?_
      rw [tail_el ⟨by decide, has_all hv⟩ hln1 hgo1.2.2.2.2 hrn1 hb]
    refine Does.mono H.int64 ?_
    rintro r w ⟨n2, s2, rfl, hn2, hr2, H⟩
    ((conv=>whnf);repeat(first|(refine mvT ?_;conv=>whnf)|(refine mvF ?_;conv=>whnf)|(refine cT (by rfl) ?_;conv=>whnf)|(refine cF (by rfl) ?_;conv=>whnf)))
    refine H.st1 (v := .int .i64 n2) 0 (rfl) (rfl) rfl (by first | omega | (simp [hlen1]; done) | (simp [hlen1]; omega)) rfl (Nat.lt_of_lt_of_le (Nat.lt_succ_self _) (Nat.le_of_ble_eq_true rfl)) ?_
    intro w H
    ((conv=>whnf);repeat(first|(refine mvT ?_;conv=>whnf)|(refine mvF ?_;conv=>whnf)|(refine cT (by rfl) ?_;conv=>whnf)|(refine cF (by rfl) ?_;conv=>whnf)))
    replace H : St w0 G0 p pb s2 ((g1, 114, es1.flatten ++ [.int .i64 n2, .int .i16 0, .bool false, .slice none 0 0, .int .i32 0, .int .i8 0, .map none] ++ ((List.replicate (n1.toNat - (i1 + 1)) [.int .i64 0, .int .i16 0, .bool false, .slice none 0 0, .int .i32 0, .int .i8 0, .map none]).flatten ++ post1)) :: L1) P1 w := H
    refine Does.mono H.int16 ?_
    rintro r w ⟨n4, s4, rfl, hn4, hr4, H⟩
    ((conv=>whnf);repeat(first|(refine mvT ?_;conv=>whnf)|(refine mvF ?_;conv=>whnf)|(refine cT (by rfl) ?_;conv=>whnf)|(refine cF (by rfl) ?_;conv=>whnf)))
    refine H.st1 (v := .int .i16 n4) 1 (rfl) (rfl) rfl (by first | omega | (simp [hlen1]; done) | (simp [hlen1]; omega)) rfl (Nat.lt_of_lt_of_le (Nat.lt_succ_self _) (Nat.le_of_ble_eq_true rfl)) ?_
    intro w H
    ((conv=>whnf);repeat(first|(refine mvT ?_;conv=>whnf)|(refine mvF ?_;conv=>whnf)|(refine cT (by rfl) ?_;conv=>whnf)|(refine cF (by rfl) ?_;conv=>whnf)))
    replace H : St w0 G0 p pb s4 ((g1, 114, es1.flatten ++ [.int .i64 n2, .int .i16 n4, .bool false, .slice none 0 0, .int .i32 0, .int .i8 0, .map none] ++ ((List.replicate (n1.toNat - (i1 + 1)) [.int .i64 0, .int .i16 0, .bool false, .slice none 0 0, .int .i32 0, .int .i8 0, .map none]).flatten ++ post1)) :: L1) P1 w := H
    refine Does.mono H.bool ?_
    rintro r w ⟨b6, s6, rfl, hr6, H⟩
    ((conv=>whnf);repeat(first|(refine mvT ?_;conv=>whnf)|(refine mvF ?_;conv=>whnf)|(refine cT (by rfl) ?_;conv=>whnf)|(refine cF (by rfl) ?_;conv=>whnf)))
    (refine mvB ?_;((conv=>whnf);repeat(first|(refine mvT ?_;conv=>whnf)|(refine mvF ?_;conv=>whnf)|(refine cT (by rfl) ?_;conv=>whnf)|(refine cF (by rfl) ?_;conv=>whnf))))
    refine H.st1 (v := .bool b6) 2 (rfl) (rfl) rfl (by first | omega | (simp [hlen1]; done) | (simp [hlen1]; omega)) rfl (Nat.lt_of_lt_of_le (Nat.lt_succ_self _) (Nat.le_of_ble_eq_true rfl)) ?_
    intro w H
    ((conv=>whnf);repeat(first|(refine mvT ?_;conv=>whnf)|(refine mvF ?_;conv=>whnf)|(refine cT (by rfl) ?_;conv=>whnf)|(refine cF (by rfl) ?_;conv=>whnf)))
    replace H : St w0 G0 p pb s6 ((g1, 114, es1.flatten ++ [.int .i64 n2, .int .i16 n4, .bool b6, .slice none 0 0, .int .i32 0, .int .i8 0, .map none] ++ ((List.replicate (n1.toNat - (i1 + 1)) [.int .i64 0, .int .i16 0, .bool false, .slice none 0 0, .int .i32 0, .int .i8 0, .map none]).flatten ++ post1)) :: L1) P1 w := H
    refine ⟨_, ld (H.cell rfl (k := 3) rfl) (by first | omega | (simp [hlen1]; done) | (simp [hlen1]; omega)), ?_⟩; ((conv=>whnf);repeat(first|(refine mvT ?_;conv=>whnf)|(refine mvF ?_;conv=>whnf)|(refine cT (by rfl) ?_;conv=>whnf)|(refine cF (by rfl) ?_;conv=>whnf)))
    (refine mvB ?_;((conv=>whnf);repeat(first|(refine mvT ?_;conv=>whnf)|(refine mvF ?_;conv=>whnf)|(refine cT (by rfl) ?_;conv=>whnf)|(refine cF (by rfl) ?_;conv=>whnf))))
    refine VC.cutE (fun q : Int × Rd => [(22, .int .i32 q.1), (21, .slice none 0 0), (0, .pointer (some ⟨p, 0, none⟩)), (2, .bool false), (7, .pointer (some ⟨pb, 0, none⟩)), (8, .int .i16 v), (9, .bool fx), (10, .pointer (some ⟨p, 0, none⟩)), (13, .int .i32 n1), (12, .slice (some ⟨g1, 0, none⟩) n1.toNat cap1), (14, .int .i32 i1), (15, .pointer (some ⟨g1, 0 + (i1 : Int).toNat * 7, none⟩)), (16, .pointer (some ⟨g1, 0 + (i1 : Int).toNat * 7, none⟩))]) (fun q w' => (-2147483648 ≤ q.1 ∧ q.1 ≤ 2147483647) ∧ rdLn fx s6 = q ∧ St w0 G0 p pb q.2 ((g1, 114, es1.flatten ++ [.int .i64 n2, .int .i16 n4, .bool b6, .slice none 0 0, .int .i32 0, .int .i8 0, .map none] ++ ((List.replicate (n1.toNat - (i1 + 1)) [.int .i64 0, .int .i16 0, .bool false, .slice none 0 0, .int .i32 0, .int .i8 0, .map none]).flatten ++ post1)) :: L1) P1 w') ?_ ?_
    · refine cI (by rfl) (fun hc=>?_) (fun hc=>?_)
      · ((conv=>whnf);repeat(first|(refine mvT ?_;conv=>whnf)|(refine mvF ?_;conv=>whnf)|(refine cT (by rfl) ?_;conv=>whnf)|(refine cF (by rfl) ?_;conv=>whnf)))
        refine Does.mono H.lnc ?_
        rintro r w ⟨n, s', rfl, hn, hr, H⟩
        ((conv=>whnf);repeat(first|(refine mvT ?_;conv=>whnf)|(refine mvF ?_;conv=>whnf)|(refine cT (by rfl) ?_;conv=>whnf)|(refine cF (by rfl) ?_;conv=>whnf)))
        exact ⟨(n, s'), ⟨rfl, rfl, rfl, rfl, rfl, rfl, rfl, rfl, rfl, rfl, rfl, rfl, rfl, trivial⟩, hn, by rw [hc]; exact hr, H⟩
      · ((conv=>whnf);repeat(first|(refine mvT ?_;conv=>whnf)|(refine mvF ?_;conv=>whnf)|(refine cT (by rfl) ?_;conv=>whnf)|(refine cF (by rfl) ?_;conv=>whnf)))
        refine Does.mono H.lnp ?_
        rintro r w ⟨n, s', rfl, hn, hr, H⟩
        ((conv=>whnf);repeat(first|(refine mvT ?_;conv=>whnf)|(refine mvF ?_;conv=>whnf)|(refine cT (by rfl) ?_;conv=>whnf)|(refine cF (by rfl) ?_;conv=>whnf)))
        exact ⟨(n, s'), ⟨rfl, rfl, rfl, rfl, rfl, rfl, rfl, rfl, rfl, rfl, rfl, rfl, rfl, trivial⟩, hn, by rw [hc]; exact hr, H⟩
    clear H
    rintro ⟨n8, s8⟩ w ⟨hn8, hln8, H⟩
    dsimp only at hn8 hln8 H
    ((conv=>whnf);repeat(first|(refine mvT ?_;conv=>whnf)|(refine mvF ?_;conv=>whnf)|(refine cT (by rfl) ?_;conv=>whnf)|(refine cF (by rfl) ?_;conv=>whnf)))
    refine Does.mono H.ok ?_
    rintro r w ⟨rfl, H⟩
    ((conv=>whnf);repeat(first|(refine mvT ?_;conv=>whnf)|(refine mvF ?_;conv=>whnf)|(refine cT (by rfl) ?_;conv=>whnf)|(refine cF (by rfl) ?_;conv=>whnf)))
    refine cI (by rfl) (fun hbd=>?_) (fun hbd=>?_)
    · have hbd : s8.2 = true := by simpa using hbd
      ((conv=>whnf);repeat(first|(refine mvT ?_;conv=>whnf)|(refine mvF ?_;conv=>whnf)|(refine cT (by rfl) ?_;conv=>whnf)|(refine cF (by rfl) ?_;conv=>whnf)))
      refine Does.mono (H.done hL hp1) ?_
      rintro r w ⟨rfl, H⟩
      ((conv=>whnf);repeat(first|(refine mvT ?_;conv=>whnf)|(refine mvF ?_;conv=>whnf)|(refine cT (by rfl) ?_;conv=>whnf)|(refine cF (by rfl) ?_;conv=>whnf)))
      refine RdPost.early hbd (hup1 (?_)) H
      rw [tail_yes (rdField4.trans hr2) ⟨by decide, has_all hv⟩, tail_yes (rdField2.trans hr4) ⟨by decide, has_all hv⟩, tail_yes (rdField0.trans hr6) ⟨by decide, has_all hv⟩, tail_len ⟨by decide, has_all hv⟩ hln8 hbd]
    have hbd : s8.2 = false := by simpa using hbd
    clear hbd
    ((conv=>whnf);repeat(first|(refine mvT ?_;conv=>whnf)|(refine mvF ?_;conv=>whnf)|(refine cT (by rfl) ?_;conv=>whnf)|(refine cF (by rfl) ?_;conv=>whnf)))
    refine cut_zero ?_
    ((conv=>whnf);repeat(first|(refine mvT ?_;conv=>whnf)|(refine mvF ?_;conv=>whnf)|(refine cT (by rfl) ?_;conv=>whnf)|(refine cF (by rfl) ?_;conv=>whnf)))
    refine VC.cutE (fun a : Value => [(22, .int .i32 n8), (21, a), (0, .pointer (some ⟨p, 0, none⟩)), (2, .bool false), (7, .pointer (some ⟨pb, 0, none⟩)), (8, .int .i16 v), (9, .bool fx), (10, .pointer (some ⟨p, 0, none⟩)), (13, .int .i32 n1), (12, .slice (some ⟨g1, 0, none⟩) n1.toNat cap1), (14, .int .i32 i1), (15, .pointer (some ⟨g1, 0 + (i1 : Int).toNat * 7, none⟩)), (16, .pointer (some ⟨g1, 0 + (i1 : Int).toNat * 7, none⟩))]) (fun a w' => ListI w0 G0 p pb 120 [str [], .slice none 0 0, .map none] (elR 7 v fx 10 dWriteTxnMarkersRequestMarkerTopic) (elQ true 7 10 dWriteTxnMarkersRequestMarkerTopic) s8 n8 (decide (n8 ≤ 0)) ((g1, 114, es1.flatten ++ [.int .i64 n2, .int .i16 n4, .bool b6, .slice none 0 0, .int .i32 0, .int .i8 0, .map none] ++ ((List.replicate (n1.toNat - (i1 + 1)) [.int .i64 0, .int .i16 0, .bool false, .slice none 0 0, .int .i32 0, .int .i8 0, .map none]).flatten ++ post1)) :: L1) P1 a 0 w') ?_ ?_
    · refine cI (by rfl) (fun hps=>?_) (fun hps=>?_)
      · have hps : 0 < n8 := by have := of_decide_eq_true hps; omega
        ((conv=>whnf);repeat(first|(refine mvT ?_;conv=>whnf)|(refine mvF ?_;conv=>whnf)|(refine cT (by rfl) ?_;conv=>whnf)|(refine cF (by rfl) ?_;conv=>whnf)))
        refine H.grow hps hn8.2 (by decide) rfl rfl (by decide) ?_
        intro g cap post w hc1 hc2 H
        ((conv=>whnf);repeat(first|(refine mvT ?_;conv=>whnf)|(refine mvF ?_;conv=>whnf)|(refine cT (by rfl) ?_;conv=>whnf)|(refine cF (by rfl) ?_;conv=>whnf)))
        exact ⟨_, ⟨rfl, rfl, rfl, rfl, rfl, rfl, rfl, rfl, rfl, rfl, rfl, rfl, rfl, trivial⟩, ListI.some hps (decide_eq_false (by omega)) hc1 hc2 H⟩
      · have hps : n8 ≤ 0 := by have := of_decide_eq_false hps; omega
        ((conv=>whnf);repeat(first|(refine mvT ?_;conv=>whnf)|(refine mvF ?_;conv=>whnf)|(refine cT (by rfl) ?_;conv=>whnf)|(refine cF (by rfl) ?_;conv=>whnf)))
        exact ⟨_, ⟨rfl, rfl, rfl, rfl, rfl, rfl, rfl, rfl, rfl, rfl, rfl, rfl, rfl, trivial⟩, ListI.none hps (decide_eq_true hps) H⟩
    clear H
    rintro a8 w H
    ((conv=>whnf);repeat(first|(refine mvT ?_;conv=>whnf)|(refine mvF ?_;conv=>whnf)|(refine cT (by rfl) ?_;conv=>whnf)|(refine cF (by rfl) ?_;conv=>whnf)))
    have hpL8 : inL ((g1, 114, es1.flatten ++ [.int .i64 n2, .int .i16 n4, .bool b6, .slice none 0 0, .int .i32 0, .int .i8 0, .map none] ++ ((List.replicate (n1.toNat - (i1 + 1)) [.int .i64 0, .int .i16 0, .bool false, .slice none 0 0, .int .i32 0, .int .i8 0, .map none]).flatten ++ post1)) :: L1) p := inL.tail hpL1
    refine VL.loop (fun i : Nat => [(22, .int .i32 n8), (21, a8), (23, .int .i32 i), (0, .pointer (some ⟨p, 0, none⟩)), (2, .bool false), (7, .pointer (some ⟨pb, 0, none⟩)), (8, .int .i16 v), (9, .bool fx), (10, .pointer (some ⟨p, 0, none⟩)), (13, .int .i32 n1), (12, .slice (some ⟨g1, 0, none⟩) n1.toNat cap1), (14, .int .i32 i1), (15, .pointer (some ⟨g1, 0 + (i1 : Int).toNat * 7, none⟩)), (16, .pointer (some ⟨g1, 0 + (i1 : Int).toNat * 7, none⟩))]) (fun i w' => i ≤ 2147483647 ∧ ListI w0 G0 p pb 120 [str [], .slice none 0 0, .map none] (elR 7 v fx 10 dWriteTxnMarkersRequestMarkerTopic) (elQ true 7 10 dWriteTxnMarkersRequestMarkerTopic) s8 n8 (decide (n8 ≤ 0)) ((g1, 114, es1.flatten ++ [.int .i64 n2, .int .i16 n4, .bool b6, .slice none 0 0, .int .i32 0, .int .i8 0, .map none] ++ ((List.replicate (n1.toNat - (i1 + 1)) [.int .i64 0, .int .i16 0, .bool false, .slice none 0 0, .int .i32 0, .int .i8 0, .map none]).flatten ++ post1)) :: L1) P1 a8 i w') (fun i => n8.toNat - i) 0 ⟨rfl, rfl, rfl, rfl, rfl, rfl, rfl, rfl, rfl, rfl, rfl, rfl, rfl, rfl, trivial⟩ ⟨by decide, H⟩ ?_
    clear H
    rintro i8 w ⟨hi8, H⟩
    ((conv=>whnf);repeat(first|(refine mvT ?_;conv=>whnf)|(refine mvF ?_;conv=>whnf)|(refine cT (by rfl) ?_;conv=>whnf)|(refine cF (by rfl) ?_;conv=>whnf)))
    refine cI (by rfl) (fun h9=>?_) (fun h9=>?_)
    · have hlt8 : (i8 : Int) < n8 := of_decide_eq_true h9
      obtain ⟨g8, cap8, post8, rfl, hgo8, HI⟩ := H.go hlt8
      obtain ⟨es8, ts8, si8, hes8, hez8, hrn8, hts8, hlen2, H⟩ := HI.open hgo8.2.2.2.2
      obtain ⟨L8, hL8⟩ : ∃ L : List Ob, L = ((g1, 114, es1.flatten ++ [.int .i64 n2, .int .i16 n4, .bool b6, .slice none 0 0, .int .i32 0, .int .i8 0, .map none] ++ ((List.replicate (n1.toNat - (i1 + 1)) [.int .i64 0, .int .i16 0, .bool false, .slice none 0 0, .int .i32 0, .int .i8 0, .map none]).flatten ++ post1)) :: L1) := ⟨_, rfl⟩
      rw [← hL8] at H hpL8
      obtain ⟨P8, hP8⟩ : ∃ P : World → Prop, P = fun w => (∀ (j : Nat) (c : List Value) (y : T), es8[j]? = some c → ts8[j]? = some y → elQ true 7 10 dWriteTxnMarkersRequestMarkerTopic ⟨w, fun k => k ≠ p⟩ c y) ∧ P1 w := ⟨_, rfl⟩
      rw [← hP8] at H
      replace H : St w0 G0 p pb si8 ((g8, 120, es8.flatten ++ [str [], .slice none 0 0, .map none] ++ ((List.replicate (n8.toNat - (i8 + 1)) [str [], .slice none 0 0, .map none]).flatten ++ post8)) :: L8) P8 w := H
      ((conv=>whnf);repeat(first|(refine mvT ?_;conv=>whnf)|(refine mvF ?_;conv=>whnf)|(refine cT (by rfl) ?_;conv=>whnf)|(refine cF (by rfl) ?_;conv=>whnf)))
      refine ⟨g8, 0, rfl, ⟨by omega, by omega⟩, ?_⟩
      ((conv=>whnf);repeat(first|(refine mvT ?_;conv=>whnf)|(refine mvF ?_;conv=>whnf)|(refine cT (by rfl) ?_;conv=>whnf)|(refine cF (by rfl) ?_;conv=>whnf)))
      refine Does.mono (dfWriteTxnMarkersRequestMarkerTopic (pre := es8.flatten) (cur := [str [], .slice none 0 0, .map none]) (post := ((List.replicate (n8.toNat - (i8 + 1)) [str [], .slice none 0 0, .map none]).flatten ++ post8)) H.head (by first | (rw [hlen2]; simp; done) | (simp [hlen2]; done) | (simp [hlen2]; omega)) rfl) ?_
      rintro rd w2 ⟨hdf, hxd⟩
      replace H := H.put hdf hxd
      clear hdf hxd
      replace H : St w0 G0 p pb si8 ((g8, 120, es8.flatten ++ [str [], .slice none 0 0, .map none] ++ ((List.replicate (n8.toNat - (i8 + 1)) [str [], .slice none 0 0, .map none]).flatten ++ post8)) :: L8) P8 w2 := H
      ((conv=>whnf);repeat(first|(refine mvT ?_;conv=>whnf)|(refine mvF ?_;conv=>whnf)|(refine cT (by rfl) ?_;conv=>whnf)|(refine cF (by rfl) ?_;conv=>whnf)))
      have hup8 : tailBad 7 v fx dWriteTxnMarkersRequestMarkerTopic si8 = true → (rdPart 9 v fx dWriteTxnMarkersRequest (l, false)).2.2 = true := by
        intro hb
        refine hup1 ?_
        rw [tail_yes (rdField4.trans hr2) ⟨by decide, has_all hv⟩, tail_yes (rdField2.trans hr4) ⟨by decide, has_all hv⟩, tail_yes (rdField0.trans hr6) ⟨by decide, has_all hv⟩, tail_el ⟨by decide, has_all hv⟩ hln8 hgo8.2.2.2.2 hrn8 hb]
      (refine mvB ?_;((conv=>whnf);repeat(first|(refine mvT ?_;conv=>whnf)|(refine mvF ?_;conv=>whnf)|(refine cT (by rfl) ?_;conv=>whnf)|(refine cF (by rfl) ?_;conv=>whnf))))
      refine VC.cutE (fun q : List UInt8 × Rd => [(26, str q.1), (0, .pointer (some ⟨p, 0, none⟩)), (2, .bool false), (7, .pointer (some ⟨pb, 0, none⟩)), (8, .int .i16 v), (9, .bool fx), (10, .pointer (some ⟨p, 0, none⟩)), (13, .int .i32 n1), (12, .slice (some ⟨g1, 0, none⟩) n1.toNat cap1), (14, .int .i32 i1), (15, .pointer (some ⟨g1, 0 + (i1 : Int).toNat * 7, none⟩)), (16, .pointer (some ⟨g1, 0 + (i1 : Int).toNat * 7, none⟩)), (22, .int .i32 n8), (21, .slice (some ⟨g8, 0, none⟩) n8.toNat cap8), (23, .int .i32 i8), (24, .pointer (some ⟨g8, 0 + (i8 : Int).toNat * 3, none⟩)), (25, .pointer (some ⟨g8, 0 + (i8 : Int).toNat * 3, none⟩))]) (fun q w' => rdTx fx si8 = q ∧ St w0 G0 p pb q.2 ((g8, 120, es8.flatten ++ [str [], .slice none 0 0, .map none] ++ ((List.replicate (n8.toNat - (i8 + 1)) [str [], .slice none 0 0, .map none]).flatten ++ post8)) :: L8) P8 w') ?_ ?_
      · refine cI (by rfl) (fun hc=>?_) (fun hc=>?_)
        · ((conv=>whnf);repeat(first|(refine mvT ?_;conv=>whnf)|(refine mvF ?_;conv=>whnf)|(refine cT (by rfl) ?_;conv=>whnf)|(refine cF (by rfl) ?_;conv=>whnf)))
          refine Does.mono H.txc ?_
          rintro r w ⟨u, s', rfl, hr, H⟩
          ((conv=>whnf);repeat(first|(refine mvT ?_;conv=>whnf)|(refine mvF ?_;conv=>whnf)|(refine cT (by rfl) ?_;conv=>whnf)|(refine cF (by rfl) ?_;conv=>whnf)))
          exact ⟨(u, s'), ⟨rfl, rfl, rfl, rfl, rfl, rfl, rfl, rfl, rfl, rfl, rfl, rfl, rfl, rfl, rfl, rfl, rfl, trivial⟩, by rw [hc]; exact hr, H⟩
        · ((conv=>whnf);repeat(first|(refine mvT ?_;conv=>whnf)|(refine mvF ?_;conv=>whnf)|(refine cT (by rfl) ?_;conv=>whnf)|(refine cF (by rfl) ?_;conv=>whnf)))
          refine Does.mono H.txp ?_
          rintro r w ⟨u, s', rfl, hr, H⟩
          ((conv=>whnf);repeat(first|(refine mvT ?_;conv=>whnf)|(refine mvF ?_;conv=>whnf)|(refine cT (by rfl) ?_;conv=>whnf)|(refine cF (by rfl) ?_;conv=>whnf)))
          exact ⟨(u, s'), ⟨rfl, rfl, rfl, rfl, rfl, rfl, rfl, rfl, rfl, rfl, rfl, rfl, rfl, rfl, rfl, rfl, rfl, trivial⟩, by rw [hc]; exact hr, H⟩
      clear H
      rintro ⟨u9, s9⟩ w ⟨hr9, H⟩
      dsimp only at hr9 H
      ((conv=>whnf);repeat(first|(refine mvT ?_;conv=>whnf)|(refine mvF ?_;conv=>whnf)|(refine cT (by rfl) ?_;conv=>whnf)|(refine cF (by rfl) ?_;conv=>whnf)))
      refine H.st1 (v := str u9) 0 (rfl) (rfl) rfl (by first | omega | (simp [hlen2]; done) | (simp [hlen2]; omega)) rfl (Nat.lt_of_lt_of_le (Nat.lt_succ_self _) (Nat.le_of_ble_eq_true rfl)) ?_
      intro w H
      ((conv=>whnf);repeat(first|(refine mvT ?_;conv=>whnf)|(refine mvF ?_;conv=>whnf)|(refine cT (by rfl) ?_;conv=>whnf)|(refine cF (by rfl) ?_;conv=>whnf)))
      replace H : St w0 G0 p pb s9 ((g8, 120, es8.flatten ++ [str u9, .slice none 0 0, .map none] ++ ((List.replicate (n8.toNat - (i8 + 1)) [str [], .slice none 0 0, .map none]).flatten ++ post8)) :: L8) P8 w := H
      refine ⟨_, ld (H.cell rfl (k := 1) rfl) (by first | omega | (simp [hlen2]; done) | (simp [hlen2]; omega)), ?_⟩; ((conv=>whnf);repeat(first|(refine mvT ?_;conv=>whnf)|(refine mvF ?_;conv=>whnf)|(refine cT (by rfl) ?_;conv=>whnf)|(refine cF (by rfl) ?_;conv=>whnf)))
      (refine mvB ?_;((conv=>whnf);repeat(first|(refine mvT ?_;conv=>whnf)|(refine mvF ?_;conv=>whnf)|(refine cT (by rfl) ?_;conv=>whnf)|(refine cF (by rfl) ?_;conv=>whnf))))
      refine VC.cutE (fun q : Int × Rd => [(29, .int .i32 q.1), (28, .slice none 0 0), (0, .pointer (some ⟨p, 0, none⟩)), (2, .bool false), (7, .pointer (some ⟨pb, 0, none⟩)), (8, .int .i16 v), (9, .bool fx), (10, .pointer (some ⟨p, 0, none⟩)), (13, .int .i32 n1), (12, .slice (some ⟨g1, 0, none⟩) n1.toNat cap1), (14, .int .i32 i1), (15, .pointer (some ⟨g1, 0 + (i1 : Int).toNat * 7, none⟩)), (16, .pointer (some ⟨g1, 0 + (i1 : Int).toNat * 7, none⟩)), (22, .int .i32 n8), (21, .slice (some ⟨g8, 0, none⟩) n8.toNat cap8), (23, .int .i32 i8), (24, .pointer (some ⟨g8, 0 + (i8 : Int).toNat * 3, none⟩)), (25, .pointer (some ⟨g8, 0 + (i8 : Int).toNat * 3, none⟩))]) (fun q w' => (-2147483648 ≤ q.1 ∧ q.1 ≤ 2147483647) ∧ rdLn fx s9 = q ∧ St w0 G0 p pb q.2 ((g8, 120, es8.flatten ++ [str u9, .slice none 0 0, .map none] ++ ((List.replicate (n8.toNat - (i8 + 1)) [str [], .slice none 0 0, .map none]).flatten ++ post8)) :: L8) P8 w') ?_ ?_
      · refine cI (by rfl) (fun hc=>?_) (fun hc=>?_)
        · ((conv=>whnf);repeat(first|(refine mvT ?_;conv=>whnf)|(refine mvF ?_;conv=>whnf)|(refine cT (by rfl) ?_;conv=>whnf)|(refine cF (by rfl) ?_;conv=>whnf)))
          refine Does.mono H.lnc ?_
          rintro r w ⟨n, s', rfl, hn, hr, H⟩
          ((conv=>whnf);repeat(first|(refine mvT ?_;conv=>whnf)|(refine mvF ?_;conv=>whnf)|(refine cT (by rfl) ?_;conv=>whnf)|(refine cF (by rfl) ?_;conv=>whnf)))
          exact ⟨(n, s'), ⟨rfl, rfl, rfl, rfl, rfl, rfl, rfl, rfl, rfl, rfl, rfl, rfl, rfl, rfl, rfl, rfl, rfl, rfl, trivial⟩, hn, by rw [hc]; exact hr, H⟩
        · ((conv=>whnf);repeat(first|(refine mvT ?_;conv=>whnf)|(refine mvF ?_;conv=>whnf)|(refine cT (by rfl) ?_;conv=>whnf)|(refine cF (by rfl) ?_;conv=>whnf)))
          refine Does.mono H.lnp ?_
          rintro r w ⟨n, s', rfl, hn, hr, H⟩
          ((conv=>whnf);repeat(first|(refine mvT ?_;conv=>whnf)|(refine mvF ?_;conv=>whnf)|(refine cT (by rfl) ?_;conv=>whnf)|(refine cF (by rfl) ?_;conv=>whnf)))
          exact ⟨(n, s'), ⟨rfl, rfl, rfl, rfl, rfl, rfl, rfl, rfl, rfl, rfl, rfl, rfl, rfl, rfl, rfl, rfl, rfl, rfl, trivial⟩, hn, by rw [hc]; exact hr, H⟩
      clear H
      rintro ⟨n11, s11⟩ w ⟨hn11, hln11, H⟩
      dsimp only at hn11 hln11 H
      ((conv=>whnf);repeat(first|(refine mvT ?_;conv=>whnf)|(refine mvF ?_;conv=>whnf)|(refine cT (by rfl) ?_;conv=>whnf)|(refine cF (by rfl) ?_;conv=>whnf)))
      refine Does.mono H.ok ?_
      rintro r w ⟨rfl, H⟩
      ((conv=>whnf);repeat(first|(refine mvT ?_;conv=>whnf)|(refine mvF ?_;conv=>whnf)|(refine cT (by rfl) ?_;conv=>whnf)|(refine cF (by rfl) ?_;conv=>whnf)))
      refine cI (by rfl) (fun hbd=>?_) (fun hbd=>?_)
      · have hbd : s11.2 = true := by simpa using hbd
        ((conv=>whnf);repeat(first|(refine mvT ?_;conv=>whnf)|(refine mvF ?_;conv=>whnf)|(refine cT (by rfl) ?_;conv=>whnf)|(refine cF (by rfl) ?_;conv=>whnf)))
        refine Does.mono (H.done hL hp1) ?_
        rintro r w ⟨rfl, H⟩
        ((conv=>whnf);repeat(first|(refine mvT ?_;conv=>whnf)|(refine mvF ?_;conv=>whnf)|(refine cT (by rfl) ?_;conv=>whnf)|(refine cF (by rfl) ?_;conv=>whnf)))
        refine RdPost.early hbd (hup8 (?_)) H
        rw [tail_yes (rdField8 (by decide) hr9) ⟨by decide, has_all hv⟩, tail_len ⟨by decide, has_all hv⟩ hln11 hbd]
      have hbd : s11.2 = false := by simpa using hbd
      clear hbd
      ((conv=>whnf);repeat(first|(refine mvT ?_;conv=>whnf)|(refine mvF ?_;conv=>whnf)|(refine cT (by rfl) ?_;conv=>whnf)|(refine cF (by rfl) ?_;conv=>whnf)))
      refine cut_zero ?_
      ((conv=>whnf);repeat(first|(refine mvT ?_;conv=>whnf)|(refine mvF ?_;conv=>whnf)|(refine cT (by rfl) ?_;conv=>whnf)|(refine cF (by rfl) ?_;conv=>whnf)))
      refine VC.cutE (fun a : Value => [(29, .int .i32 n11), (28, a), (0, .pointer (some ⟨p, 0, none⟩)), (2, .bool false), (7, .pointer (some ⟨pb, 0, none⟩)), (8, .int .i16 v), (9, .bool fx), (10, .pointer (some ⟨p, 0, none⟩)), (13, .int .i32 n1), (12, .slice (some ⟨g1, 0, none⟩) n1.toNat cap1), (14, .int .i32 i1), (15, .pointer (some ⟨g1, 0 + (i1 : Int).toNat * 7, none⟩)), (16, .pointer (some ⟨g1, 0 + (i1 : Int).toNat * 7, none⟩)), (22, .int .i32 n8), (21, .slice (some ⟨g8, 0, none⟩) n8.toNat cap8), (23, .int .i32 i8), (24, .pointer (some ⟨g8, 0 + (i8 : Int).toNat * 3, none⟩)), (25, .pointer (some ⟨g8, 0 + (i8 : Int).toNat * 3, none⟩))]) (fun a w' => ListI w0 G0 p pb 21 [.int .i32 0] (elR 6 v fx 3 []) (elQ true 6 3 []) s11 n11 (decide (n11 ≤ 0)) ((g8, 120, es8.flatten ++ [str u9, .slice none 0 0, .map none] ++ ((List.replicate (n8.toNat - (i8 + 1)) [str [], .slice none 0 0, .map none]).flatten ++ post8)) :: L8) P8 a 0 w') ?_ ?_
      · refine cI (by rfl) (fun hps=>?_) (fun hps=>?_)
        · have hps : 0 < n11 := by have := of_decide_eq_true hps; omega
          ((conv=>whnf);repeat(first|(refine mvT ?_;conv=>whnf)|(refine mvF ?_;conv=>whnf)|(refine cT (by rfl) ?_;conv=>whnf)|(refine cF (by rfl) ?_;conv=>whnf)))
          refine H.grow hps hn11.2 (by decide) rfl rfl (by decide) ?_
          intro g cap post w hc1 hc2 H
          ((conv=>whnf);repeat(first|(refine mvT ?_;conv=>whnf)|(refine mvF ?_;conv=>whnf)|(refine cT (by rfl) ?_;conv=>whnf)|(refine cF (by rfl) ?_;conv=>whnf)))
          exact ⟨_, ⟨rfl, rfl, rfl, rfl, rfl, rfl, rfl, rfl, rfl, rfl, rfl, rfl, rfl, rfl, rfl, rfl, rfl, rfl, trivial⟩, ListI.some hps (decide_eq_false (by omega)) hc1 hc2 H⟩
        · have hps : n11 ≤ 0 := by have := of_decide_eq_false hps; omega
          ((conv=>whnf);repeat(first|(refine mvT ?_;conv=>whnf)|(refine mvF ?_;conv=>whnf)|(refine cT (by rfl) ?_;conv=>whnf)|(refine cF (by rfl) ?_;conv=>whnf)))
          exact ⟨_, ⟨rfl, rfl, rfl, rfl, rfl, rfl, rfl, rfl, rfl, rfl, rfl, rfl, rfl, rfl, rfl, rfl, rfl, rfl, trivial⟩, ListI.none hps (decide_eq_true hps) H⟩
      clear H
      rintro a11 w H
      ((conv=>whnf);repeat(first|(refine mvT ?_;conv=>whnf)|(refine mvF ?_;conv=>whnf)|(refine cT (by rfl) ?_;conv=>whnf)|(refine cF (by rfl) ?_;conv=>whnf)))
      have hpL11 : inL ((g8, 120, es8.flatten ++ [str u9, .slice none 0 0, .map none] ++ ((List.replicate (n8.toNat - (i8 + 1)) [str [], .slice none 0 0, .map none]).flatten ++ post8)) :: L8) p := inL.tail hpL8
      refine VL.loop (fun i : Nat => [(29, .int .i32 n11), (28, a11), (30, .int .i32 i), (0, .pointer (some ⟨p, 0, none⟩)), (2, .bool false), (7, .pointer (some ⟨pb, 0, none⟩)), (8, .int .i16 v), (9, .bool fx), (10, .pointer (some ⟨p, 0, none⟩)), (13, .int .i32 n1), (12, .slice (some ⟨g1, 0, none⟩) n1.toNat cap1), (14, .int .i32 i1), (15, .pointer (some ⟨g1, 0 + (i1 : Int).toNat * 7, none⟩)), (16, .pointer (some ⟨g1, 0 + (i1 : Int).toNat * 7, none⟩)), (22, .int .i32 n8), (21, .slice (some ⟨g8, 0, none⟩) n8.toNat cap8), (23, .int .i32 i8), (24, .pointer (some ⟨g8, 0 + (i8 : Int).toNat * 3, none⟩)), (25, .pointer (some ⟨g8, 0 + (i8 : Int).toNat * 3, none⟩))]) (fun i w' => i ≤ 2147483647 ∧ ListI w0 G0 p pb 21 [.int .i32 0] (elR 6 v fx 3 []) (elQ true 6 3 []) s11 n11 (decide (n11 ≤ 0)) ((g8, 120, es8.flatten ++ [str u9, .slice none 0 0, .map none] ++ ((List.replicate (n8.toNat - (i8 + 1)) [str [], .slice none 0 0, .map none]).flatten ++ post8)) :: L8) P8 a11 i w') (fun i => n11.toNat - i) 0 ⟨rfl, rfl, rfl, rfl, rfl, rfl, rfl, rfl, rfl, rfl, rfl, rfl, rfl, rfl, rfl, rfl, rfl, rfl, rfl, trivial⟩ ⟨by decide, H⟩ ?_
      clear H
      rintro i11 w ⟨hi11, H⟩
      ((conv=>whnf);repeat(first|(refine mvT ?_;conv=>whnf)|(refine mvF ?_;conv=>whnf)|(refine cT (by rfl) ?_;conv=>whnf)|(refine cF (by rfl) ?_;conv=>whnf)))
      refine cI (by rfl) (fun h9=>?_) (fun h9=>?_)
      · have hlt11 : (i11 : Int) < n11 := of_decide_eq_true h9
        obtain ⟨g11, cap11, post11, rfl, hgo11, HI⟩ := H.go hlt11
        obtain ⟨es11, ts11, si11, hes11, hez11, hrn11, hts11, hlen3, H⟩ := HI.open hgo11.2.2.2.2
        obtain ⟨L11, hL11⟩ : ∃ L : List Ob, L = ((g8, 120, es8.flatten ++ [str u9, .slice none 0 0, .map none] ++ ((List.replicate (n8.toNat - (i8 + 1)) [str [], .slice none 0 0, .map none]).flatten ++ post8)) :: L8) := ⟨_, rfl⟩
        rw [← hL11] at H hpL11
        obtain ⟨P11, hP11⟩ : ∃ P : World → Prop, P = fun w => (∀ (j : Nat) (c : List Value) (y : T), es11[j]? = some c → ts11[j]? = some y → elQ true 6 3 [] ⟨w, fun k => k ≠ p⟩ c y) ∧ P8 w := ⟨_, rfl⟩
        rw [← hP11] at H
        replace H : St w0 G0 p pb si11 ((g11, 21, es11.flatten ++ [.int .i32 0] ++ ((List.replicate (n11.toNat - (i11 + 1)) [.int .i32 0]).flatten ++ post11)) :: L11) P11 w := H
        ((conv=>whnf);repeat(first|(refine mvT ?_;conv=>whnf)|(refine mvF ?_;conv=>whnf)|(refine cT (by rfl) ?_;conv=>whnf)|(refine cF (by rfl) ?_;conv=>whnf)))
        refine Does.mono H.int32 ?_
        rintro r w ⟨n12, s12, rfl, hn12, hr12, H⟩
        ((conv=>whnf);repeat(first|(refine mvT ?_;conv=>whnf)|(refine mvF ?_;conv=>whnf)|(refine cT (by rfl) ?_;conv=>whnf)|(refine cF (by rfl) ?_;conv=>whnf)))
        refine ⟨g11, 0, rfl, ⟨by omega, by omega⟩, ?_⟩
        ((conv=>whnf);repeat(first|(refine mvT ?_;conv=>whnf)|(refine mvF ?_;conv=>whnf)|(refine cT (by rfl) ?_;conv=>whnf)|(refine cF (by rfl) ?_;conv=>whnf)))
        refine H.st1 (v := .int .i32 n12) 0 (rfl) (rfl) rfl (by first | omega | (simp [hlen3]; done) | (simp [hlen3]; omega)) rfl (Nat.lt_of_lt_of_le (Nat.lt_succ_self _) (Nat.le_of_ble_eq_true rfl)) ?_
        intro w H
        ((conv=>whnf);repeat(first|(refine mvT ?_;conv=>whnf)|(refine mvF ?_;conv=>whnf)|(refine cT (by rfl) ?_;conv=>whnf)|(refine cF (by rfl) ?_;conv=>whnf)))
        replace H : St w0 G0 p pb s12 ((g11, 21, es11.flatten ++ [.int .i32 n12] ++ ((List.replicate (n11.toNat - (i11 + 1)) [.int .i32 0]).flatten ++ post11)) :: L11) P11 w := H
        refine ⟨i11 + 1, ⟨rfl, rfl, ?_, rfl, rfl, rfl, rfl, rfl, rfl, rfl, rfl, rfl, rfl, rfl, rfl, rfl, rfl, rfl, rfl, trivial⟩, ⟨by omega, ListI.back hgo11 (LoopI.next hes11 hez11 hrn11 hts11 (cur := [.int .i32 n12]) (x := numT n12) (hr12) rfl (by rw [← hL11]; exact H) fun w hP => ?_)⟩, by omega⟩
        · show some (Value.int .i32 _) = _
          rw [IntKind.wrap_i32]
          simp only [Option.some.injEq, Value.int.injEq, true_and]
          omega
        · skip
          rw [hP11] at hP
          exact ⟨⟨_, hn12, rfl, rfl⟩, hP⟩
      have hge11 : ¬ (i11 : Int) < n11 := of_decide_eq_false h9
      obtain ⟨l13, s13, hone13, hl13, hr13, H⟩ := H.done hge11 hln11 (nl := nlF (.mk 11 0 (-1) (-1) (-1) 0 3 []) v) (sz := elZ true 6 3 []) rfl hpL11 rfl
      ((conv=>whnf);repeat(first|(refine mvT ?_;conv=>whnf)|(refine mvF ?_;conv=>whnf)|(refine cT (by rfl) ?_;conv=>whnf)|(refine cF (by rfl) ?_;conv=>whnf)))
      obtain ⟨P14, hP14⟩ : ∃ P : World → Prop, P = fun w => ListR true (elZ true 6 3 []) (elQ true 6 3 [] ⟨w, fun k => k ≠ p⟩) w (fun k => k ≠ p) a11 (.mk 0 [] (decide (n11 ≤ 0)) l13 []) ∧ P8 w := ⟨_, rfl⟩
      replace H : St w0 G0 p pb s13 ((g8, 120, es8.flatten ++ [str u9, .slice none 0 0, .map none] ++ ((List.replicate (n8.toNat - (i8 + 1)) [str [], .slice none 0 0, .map none]).flatten ++ post8)) :: L8) P14 w := by rw [hP14]; exact H
      refine H.st1 (v := a11) 1 (cells_one hone13) (hone13) rfl (by first | omega | (simp [hlen2]; done) | (simp [hlen2]; omega)) rfl (Nat.lt_of_lt_of_le (Nat.lt_succ_self _) (Nat.le_of_ble_eq_true rfl)) ?_
      intro w H
      ((conv=>whnf);repeat(first|(refine mvT ?_;conv=>whnf)|(refine mvF ?_;conv=>whnf)|(refine cT (by rfl) ?_;conv=>whnf)|(refine cF (by rfl) ?_;conv=>whnf)))
      replace H : St w0 G0 p pb s13 ((g8, 120, es8.flatten ++ [str u9, a11, .map none] ++ ((List.replicate (n8.toNat - (i8 + 1)) [str [], .slice none 0 0, .map none]).flatten ++ post8)) :: L8) P14 w := H
      (refine mvB ?_;((conv=>whnf);repeat(first|(refine mvT ?_;conv=>whnf)|(refine mvF ?_;conv=>whnf)|(refine cT (by rfl) ?_;conv=>whnf)|(refine cF (by rfl) ?_;conv=>whnf))))
      refine VC.cutB (fun q : Value × List Tg × Rd => [(0, .pointer (some ⟨p, 0, none⟩)), (2, .bool false), (7, .pointer (some ⟨pb, 0, none⟩)), (8, .int .i16 v), (9, .bool fx), (10, .pointer (some ⟨p, 0, none⟩)), (13, .int .i32 n1), (12, .slice (some ⟨g1, 0, none⟩) n1.toNat cap1), (14, .int .i32 i1), (15, .pointer (some ⟨g1, 0 + (i1 : Int).toNat * 7, none⟩)), (16, .pointer (some ⟨g1, 0 + (i1 : Int).toNat * 7, none⟩)), (22, .int .i32 n8), (21, .slice (some ⟨g8, 0, none⟩) n8.toNat cap8), (23, .int .i32 i8), (24, .pointer (some ⟨g8, 0 + (i8 : Int).toNat * 3, none⟩)), (25, .pointer (some ⟨g8, 0 + (i8 : Int).toNat * 3, none⟩))]) (fun q w' => rdTagsF fx s13 = q.2 ∧ St w0 G0 p pb q.2.2 ((g8, 120, es8.flatten ++ [str u9, a11, q.1] ++ ((List.replicate (n8.toNat - (i8 + 1)) [str [], .slice none 0 0, .map none]).flatten ++ post8)) :: L8) (fun w => TGf p q.1 q.2.1 w ∧ P14 w) w') ?_ ?_
      · refine cI (by rfl) (fun hc=>?_) (fun hc=>?_)
        · ((conv=>whnf);repeat(first|(refine mvT ?_;conv=>whnf)|(refine mvF ?_;conv=>whnf)|(refine cT (by rfl) ?_;conv=>whnf)|(refine cF (by rfl) ?_;conv=>whnf)))
          refine Does.mono H.tags ?_
          rintro r w ⟨m, u, s', rfl, hone, hr, H⟩
          ((conv=>whnf);repeat(first|(refine mvT ?_;conv=>whnf)|(refine mvF ?_;conv=>whnf)|(refine cT (by rfl) ?_;conv=>whnf)|(refine cF (by rfl) ?_;conv=>whnf)))
          refine H.st1 (v := m) 2 (rfl) (hone) rfl (by first | omega | (simp [hlen2]; done) | (simp [hlen2]; omega)) rfl (Nat.lt_of_lt_of_le (Nat.lt_succ_self _) (Nat.le_of_ble_eq_true rfl)) ?_
          intro w H
          ((conv=>whnf);repeat(first|(refine mvT ?_;conv=>whnf)|(refine mvF ?_;conv=>whnf)|(refine cT (by rfl) ?_;conv=>whnf)|(refine cF (by rfl) ?_;conv=>whnf)))
          exact ⟨(m, u, s'), ⟨rfl, rfl, rfl, rfl, rfl, rfl, rfl, rfl, rfl, rfl, rfl, rfl, rfl, rfl, rfl, rfl, trivial⟩, by rw [rdTagsF, if_pos hc]; exact hr, H⟩
        · ((conv=>whnf);repeat(first|(refine mvT ?_;conv=>whnf)|(refine mvF ?_;conv=>whnf)|(refine cT (by rfl) ?_;conv=>whnf)|(refine cF (by rfl) ?_;conv=>whnf)))
          exact ⟨(.map none, [], s13), ⟨rfl, rfl, rfl, rfl, rfl, rfl, rfl, rfl, rfl, rfl, rfl, rfl, rfl, rfl, rfl, rfl, trivial⟩, by rw [rdTagsF, if_neg (by rw [hc]; decide)], H.add fun w' _ => TagsR.nil _ _⟩
      clear H
      rintro ⟨m16, u16, s16⟩ w ⟨htg, H⟩
      dsimp only at htg H
      ((conv=>whnf);repeat(first|(refine mvT ?_;conv=>whnf)|(refine mvF ?_;conv=>whnf)|(refine cT (by rfl) ?_;conv=>whnf)|(refine cF (by rfl) ?_;conv=>whnf)))
      obtain ⟨P17, hP17⟩ : ∃ P : World → Prop, P = fun w => TGf p m16 u16 w ∧ P14 w := ⟨_, rfl⟩
      replace H : St w0 G0 p pb s16 ((g8, 120, es8.flatten ++ [str u9, a11, m16] ++ ((List.replicate (n8.toNat - (i8 + 1)) [str [], .slice none 0 0, .map none]).flatten ++ post8)) :: L8) P17 w := by rw [hP17]; exact H
      have hpart : rdPart 7 v fx dWriteTxnMarkersRequestMarkerTopic si8 = (.mk 0 [] false [.mk 0 u9 false [] [], .mk 0 [] (decide (n11 ≤ 0)) l13 []] u16, s16) := by
        unfold rdPart rdPartW
        rw [rdAll_yes (df := dfT 7) (rdField8 (by decide) hr9) ⟨by decide, has_all hv⟩, rdAll_yes (df := dfT 7) ((rdField_list _ _ _ _ _ _ _ _ _ _ _).trans hr13) ⟨by decide, has_all hv⟩]
        simp only [rdAll]
        rw [htg]
      refine ⟨i8 + 1, ⟨rfl, rfl, ?_, rfl, rfl, rfl, rfl, rfl, rfl, rfl, rfl, rfl, rfl, rfl, trivial⟩, ⟨by omega, ListI.back hgo8 (LoopI.next hes8 hez8 hrn8 hts8 (cur := [str u9, a11, m16]) (x := .mk 0 [] false [.mk 0 u9 false [] [], .mk 0 [] (decide (n11 ≤ 0)) l13 []] u16) (hpart) rfl (by rw [← hL8]; exact H) fun w hP => ?_)⟩, by omega⟩
      · show some (Value.int .i32 _) = _
        rw [IntKind.wrap_i32]
        simp only [Option.some.injEq, Value.int.injEq, true_and]
        omega
      · skip
        rw [hP17] at hP
        obtain ⟨hf17_, hP⟩ := hP
        rw [hP14] at hP
        obtain ⟨hf14_, hP⟩ := hP
        rw [hP8] at hP
        exact ⟨QPt (QA1 (QF8 (by decide) u9) (QA1 (QF11 hl13 hf14_) (QA0))) hf17_, hP⟩
    have hge8 : ¬ (i8 : Int) < n8 := of_decide_eq_false h9
    obtain ⟨l18, s18, hone18, hl18, hr18, H⟩ := H.done hge8 hln8 (nl := nlF (.mk 11 0 (-1) (-1) (-1) 0 10 dWriteTxnMarkersRequestMarkerTopic) v) (sz := elZ true 7 10 dWriteTxnMarkersRequestMarkerTopic) rfl hpL8 rfl
    ((conv=>whnf);repeat(first|(refine mvT ?_;conv=>whnf)|(refine mvF ?_;conv=>whnf)|(refine cT (by rfl) ?_;conv=>whnf)|(refine cF (by rfl) ?_;conv=>whnf)))
    obtain ⟨P19, hP19⟩ : ∃ P : World → Prop, P = fun w => ListR true (elZ true 7 10 dWriteTxnMarkersRequestMarkerTopic) (elQ true 7 10 dWriteTxnMarkersRequestMarkerTopic ⟨w, fun k => k ≠ p⟩) w (fun k => k ≠ p) a8 (.mk 0 [] (decide (n8 ≤ 0)) l18 []) ∧ P1 w := ⟨_, rfl⟩
    replace H : St w0 G0 p pb s18 ((g1, 114, es1.flatten ++ [.int .i64 n2, .int .i16 n4, .bool b6, .slice none 0 0, .int .i32 0, .int .i8 0, .map none] ++ ((List.replicate (n1.toNat - (i1 + 1)) [.int .i64 0, .int .i16 0, .bool false, .slice none 0 0, .int .i32 0, .int .i8 0, .map none]).flatten ++ post1)) :: L1) P19 w := by rw [hP19]; exact H
    refine H.st1 (v := a8) 3 (cells_one hone18) (hone18) rfl (by first | omega | (simp [hlen1]; done) | (simp [hlen1]; omega)) rfl (Nat.lt_of_lt_of_le (Nat.lt_succ_self _) (Nat.le_of_ble_eq_true rfl)) ?_
    intro w H
    ((conv=>whnf);repeat(first|(refine mvT ?_;conv=>whnf)|(refine mvF ?_;conv=>whnf)|(refine cT (by rfl) ?_;conv=>whnf)|(refine cF (by rfl) ?_;conv=>whnf)))
    replace H : St w0 G0 p pb s18 ((g1, 114, es1.flatten ++ [.int .i64 n2, .int .i16 n4, .bool b6, a8, .int .i32 0, .int .i8 0, .map none] ++ ((List.replicate (n1.toNat - (i1 + 1)) [.int .i64 0, .int .i16 0, .bool false, .slice none 0 0, .int .i32 0, .int .i8 0, .map none]).flatten ++ post1)) :: L1) P19 w := H
    refine Does.mono H.int32 ?_
    rintro r w ⟨n21, s21, rfl, hn21, hr21, H⟩
    ((conv=>whnf);repeat(first|(refine mvT ?_;conv=>whnf)|(refine mvF ?_;conv=>whnf)|(refine cT (by rfl) ?_;conv=>whnf)|(refine cF (by rfl) ?_;conv=>whnf)))
    refine H.st1 (v := .int .i32 n21) 4 (rfl) (rfl) rfl (by first | omega | (simp [hlen1]; done) | (simp [hlen1]; omega)) rfl (Nat.lt_of_lt_of_le (Nat.lt_succ_self _) (Nat.le_of_ble_eq_true rfl)) ?_
    intro w H
    ((conv=>whnf);repeat(first|(refine mvT ?_;conv=>whnf)|(refine mvF ?_;conv=>whnf)|(refine cT (by rfl) ?_;conv=>whnf)|(refine cF (by rfl) ?_;conv=>whnf)))
    replace H : St w0 G0 p pb s21 ((g1, 114, es1.flatten ++ [.int .i64 n2, .int .i16 n4, .bool b6, a8, .int .i32 n21, .int .i8 0, .map none] ++ ((List.replicate (n1.toNat - (i1 + 1)) [.int .i64 0, .int .i16 0, .bool false, .slice none 0 0, .int .i32 0, .int .i8 0, .map none]).flatten ++ post1)) :: L1) P19 w := H
    refine VC.cutE (fun q : Int × Rd => [(0, .pointer (some ⟨p, 0, none⟩)), (2, .bool false), (7, .pointer (some ⟨pb, 0, none⟩)), (8, .int .i16 v), (9, .bool fx), (10, .pointer (some ⟨p, 0, none⟩)), (13, .int .i32 n1), (12, .slice (some ⟨g1, 0, none⟩) n1.toNat cap1), (14, .int .i32 i1), (15, .pointer (some ⟨g1, 0 + (i1 : Int).toNat * 7, none⟩)), (16, .pointer (some ⟨g1, 0 + (i1 : Int).toNat * 7, none⟩))]) (fun q w' => IntKind.i8.wrap q.1 = q.1 ∧ (if hasF (.mk 1 2 (-1) (-1) (-1) 0 0 []) v = true then rdField 8 v fx (.mk 1 2 (-1) (-1) (-1) 0 0 []) s21 else (dfT 8 (.mk 1 2 (-1) (-1) (-1) 0 0 []), s21)) = (numT q.1, q.2) ∧ St w0 G0 p pb q.2 ((g1, 114, es1.flatten ++ [.int .i64 n2, .int .i16 n4, .bool b6, a8, .int .i32 n21, .int .i8 q.1, .map none] ++ ((List.replicate (n1.toNat - (i1 + 1)) [.int .i64 0, .int .i16 0, .bool false, .slice none 0 0, .int .i32 0, .int .i8 0, .map none]).flatten ++ post1)) :: L1) P19 w') ?_ ?_
    · refine cI (by rfl) (fun hcv=>?_) (fun hcv=>?_)
      · ((conv=>whnf);repeat(first|(refine mvT ?_;conv=>whnf)|(refine mvF ?_;conv=>whnf)|(refine cT (by rfl) ?_;conv=>whnf)|(refine cF (by rfl) ?_;conv=>whnf)))
        refine Does.mono H.int8 ?_
        rintro r w ⟨n24, s24, rfl, hn24, hr24, H⟩
        ((conv=>whnf);repeat(first|(refine mvT ?_;conv=>whnf)|(refine mvF ?_;conv=>whnf)|(refine cT (by rfl) ?_;conv=>whnf)|(refine cF (by rfl) ?_;conv=>whnf)))
        refine H.st1 (v := .int .i8 n24) 5 (rfl) (rfl) rfl (by first | omega | (simp [hlen1]; done) | (simp [hlen1]; omega)) rfl (Nat.lt_of_lt_of_le (Nat.lt_succ_self _) (Nat.le_of_ble_eq_true rfl)) ?_
        intro w H
        ((conv=>whnf);repeat(first|(refine mvT ?_;conv=>whnf)|(refine mvF ?_;conv=>whnf)|(refine cT (by rfl) ?_;conv=>whnf)|(refine cF (by rfl) ?_;conv=>whnf)))
        replace H : St w0 G0 p pb s24 ((g1, 114, es1.flatten ++ [.int .i64 n2, .int .i16 n4, .bool b6, a8, .int .i32 n21, .int .i8 n24, .map none] ++ ((List.replicate (n1.toNat - (i1 + 1)) [.int .i64 0, .int .i16 0, .bool false, .slice none 0 0, .int .i32 0, .int .i8 0, .map none]).flatten ++ post1)) :: L1) P19 w := H
        have hh : hasF (.mk 1 2 (-1) (-1) (-1) 0 0 []) v = true := by have := of_decide_eq_true hcv; rw [hasF_iff]; omega
        exact ⟨(n24, s24), ⟨rfl, rfl, rfl, rfl, rfl, rfl, rfl, rfl, rfl, rfl, rfl, trivial⟩, hn24, by rw [if_pos hh]; exact (rdField1.trans hr24), H⟩
      · ((conv=>whnf);repeat(first|(refine mvT ?_;conv=>whnf)|(refine mvF ?_;conv=>whnf)|(refine cT (by rfl) ?_;conv=>whnf)|(refine cF (by rfl) ?_;conv=>whnf)))
        have hh : ¬ hasF (.mk 1 2 (-1) (-1) (-1) 0 0 []) v = true := by have := of_decide_eq_false hcv; rw [hasF_iff]; omega
        exact ⟨(0, s21), ⟨rfl, rfl, rfl, rfl, rfl, rfl, rfl, rfl, rfl, rfl, rfl, trivial⟩, rfl, by rw [if_neg hh]; rfl, H⟩
    clear H
    rintro ⟨n23, s23⟩ w ⟨hn23, hr23, H⟩
    dsimp only at hn23 hr23 H
    ((conv=>whnf);repeat(first|(refine mvT ?_;conv=>whnf)|(refine mvF ?_;conv=>whnf)|(refine cT (by rfl) ?_;conv=>whnf)|(refine cF (by rfl) ?_;conv=>whnf)))
    replace H : St w0 G0 p pb s23 ((g1, 114, es1.flatten ++ [.int .i64 n2, .int .i16 n4, .bool b6, a8, .int .i32 n21, .int .i8 n23, .map none] ++ ((List.replicate (n1.toNat - (i1 + 1)) [.int .i64 0, .int .i16 0, .bool false, .slice none 0 0, .int .i32 0, .int .i8 0, .map none]).flatten ++ post1)) :: L1) P19 w := H
    (refine mvB ?_;((conv=>whnf);repeat(first|(refine mvT ?_;conv=>whnf)|(refine mvF ?_;conv=>whnf)|(refine cT (by rfl) ?_;conv=>whnf)|(refine cF (by rfl) ?_;conv=>whnf))))
    refine VC.cutB (fun q : Value × List Tg × Rd => [(0, .pointer (some ⟨p, 0, none⟩)), (2, .bool false), (7, .pointer (some ⟨pb, 0, none⟩)), (8, .int .i16 v), (9, .bool fx), (10, .pointer (some ⟨p, 0, none⟩)), (13, .int .i32 n1), (12, .slice (some ⟨g1, 0, none⟩) n1.toNat cap1), (14, .int .i32 i1), (15, .pointer (some ⟨g1, 0 + (i1 : Int).toNat * 7, none⟩)), (16, .pointer (some ⟨g1, 0 + (i1 : Int).toNat * 7, none⟩))]) (fun q w' => rdTagsF fx s23 = q.2 ∧ St w0 G0 p pb q.2.2 ((g1, 114, es1.flatten ++ [.int .i64 n2, .int .i16 n4, .bool b6, a8, .int .i32 n21, .int .i8 n23, q.1] ++ ((List.replicate (n1.toNat - (i1 + 1)) [.int .i64 0, .int .i16 0, .bool false, .slice none 0 0, .int .i32 0, .int .i8 0, .map none]).flatten ++ post1)) :: L1) (fun w => TGf p q.1 q.2.1 w ∧ P19 w) w') ?_ ?_
    · refine cI (by rfl) (fun hc=>?_) (fun hc=>?_)
      · ((conv=>whnf);repeat(first|(refine mvT ?_;conv=>whnf)|(refine mvF ?_;conv=>whnf)|(refine cT (by rfl) ?_;conv=>whnf)|(refine cF (by rfl) ?_;conv=>whnf)))
        refine Does.mono H.tags ?_
        rintro r w ⟨m, u, s', rfl, hone, hr, H⟩
        ((conv=>whnf);repeat(first|(refine mvT ?_;conv=>whnf)|(refine mvF ?_;conv=>whnf)|(refine cT (by rfl) ?_;conv=>whnf)|(refine cF (by rfl) ?_;conv=>whnf)))
        refine H.st1 (v := m) 6 (rfl) (hone) rfl (by first | omega | (simp [hlen1]; done) | (simp [hlen1]; omega)) rfl (Nat.lt_of_lt_of_le (Nat.lt_succ_self _) (Nat.le_of_ble_eq_true rfl)) ?_
        intro w H
        ((conv=>whnf);repeat(first|(refine mvT ?_;conv=>whnf)|(refine mvF ?_;conv=>whnf)|(refine cT (by rfl) ?_;conv=>whnf)|(refine cF (by rfl) ?_;conv=>whnf)))
        exact ⟨(m, u, s'), ⟨rfl, rfl, rfl, rfl, rfl, rfl, rfl, rfl, rfl, rfl, rfl, trivial⟩, by rw [rdTagsF, if_pos hc]; exact hr, H⟩
      · ((conv=>whnf);repeat(first|(refine mvT ?_;conv=>whnf)|(refine mvF ?_;conv=>whnf)|(refine cT (by rfl) ?_;conv=>whnf)|(refine cF (by rfl) ?_;conv=>whnf)))
        exact ⟨(.map none, [], s23), ⟨rfl, rfl, rfl, rfl, rfl, rfl, rfl, rfl, rfl, rfl, rfl, trivial⟩, by rw [rdTagsF, if_neg (by rw [hc]; decide)], H.add fun w' _ => TagsR.nil _ _⟩
    clear H
    rintro ⟨m26, u26, s26⟩ w ⟨htg, H⟩
    dsimp only at htg H
    ((conv=>whnf);repeat(first|(refine mvT ?_;conv=>whnf)|(refine mvF ?_;conv=>whnf)|(refine cT (by rfl) ?_;conv=>whnf)|(refine cF (by rfl) ?_;conv=>whnf)))
    obtain ⟨P27, hP27⟩ : ∃ P : World → Prop, P = fun w => TGf p m26 u26 w ∧ P19 w := ⟨_, rfl⟩
    replace H : St w0 G0 p pb s26 ((g1, 114, es1.flatten ++ [.int .i64 n2, .int .i16 n4, .bool b6, a8, .int .i32 n21, .int .i8 n23, m26] ++ ((List.replicate (n1.toNat - (i1 + 1)) [.int .i64 0, .int .i16 0, .bool false, .slice none 0 0, .int .i32 0, .int .i8 0, .map none]).flatten ++ post1)) :: L1) P27 w := by rw [hP27]; exact H
    have hpart : rdPart 8 v fx dWriteTxnMarkersRequestMarker si1 = (.mk 0 [] false [numT n2, numT n4, numT (if b6 = true then 1 else 0), .mk 0 [] (decide (n8 ≤ 0)) l18 [], numT n21, numT n23] u26, s26) := by
      unfold rdPart rdPartW
      rw [rdAll_yes (df := dfT 8) (rdField4.trans hr2) ⟨by decide, has_all hv⟩, rdAll_yes (df := dfT 8) (rdField2.trans hr4) ⟨by decide, has_all hv⟩, rdAll_yes (df := dfT 8) (rdField0.trans hr6) ⟨by decide, has_all hv⟩, rdAll_yes (df := dfT 8) ((rdField_list _ _ _ _ _ _ _ _ _ _ _).trans hr18) ⟨by decide, has_all hv⟩, rdAll_yes (df := dfT 8) (rdField3.trans hr21) ⟨by decide, has_all hv⟩, rdAll_ver hr23 (by decide)]
      simp only [rdAll]
      rw [htg]
    refine ⟨i1 + 1, ⟨rfl, rfl, ?_, rfl, rfl, rfl, rfl, rfl, rfl, trivial⟩, ⟨by omega, ListI.back hgo1 (LoopI.next hes1 hez1 hrn1 hts1 (cur := [.int .i64 n2, .int .i16 n4, .bool b6, a8, .int .i32 n21, .int .i8 n23, m26]) (x := .mk 0 [] false [numT n2, numT n4, numT (if b6 = true then 1 else 0), .mk 0 [] (decide (n8 ≤ 0)) l18 [], numT n21, numT n23] u26) (hpart) rfl (by rw [← hL1]; exact H) fun w hP => ?_)⟩, by omega⟩
    · show some (Value.int .i32 _) = _
      rw [IntKind.wrap_i32]
      simp only [Option.some.injEq, Value.int.injEq, true_and]
      omega
    · skip
      rw [hP27] at hP
      obtain ⟨hf27_, hP⟩ := hP
      rw [hP19] at hP
      obtain ⟨hf19_, hP⟩ := hP
      rw [hP1] at hP
      exact ⟨QPt (QA1 (QF4 hn2) (QA1 (QF2 hn4) (QA1 (QF0 b6) (QA1 (QF11 hl18 hf19_) (QA1 (QF3 hn21) (QA1 (QF1 hn23) (QA0))))))) hf27_, hP⟩
  have hge1 : ¬ (i1 : Int) < n1 := of_decide_eq_false h9
  obtain ⟨l28, s28, hone28, hl28, hr28, H⟩ := H.done hge1 hln1 (nl := nlF (.mk 11 0 (-1) (-1) (-1) 0 10 dWriteTxnMarkersRequestMarker) v) (sz := elZ true 8 10 dWriteTxnMarkersRequestMarker) rfl hpL1 rfl
  ((conv=>whnf);repeat(first|(refine mvT ?_;conv=>whnf)|(refine mvF ?_;conv=>whnf)|(refine cT (by rfl) ?_;conv=>whnf)|(refine cF (by rfl) ?_;conv=>whnf)))
  obtain ⟨P29, hP29⟩ : ∃ P : World → Prop, P = fun w => ListR true (elZ true 8 10 dWriteTxnMarkersRequestMarker) (elQ true 8 10 dWriteTxnMarkersRequestMarker ⟨w, fun k => k ≠ p⟩) w (fun k => k ≠ p) a1 (.mk 0 [] (decide (n1 ≤ 0)) l28 []) ∧ (fun _ => True) w := ⟨_, rfl⟩
  replace H : St w0 G0 p pb s28 ((p, ty, [] ++ [.int .i16 v, .slice none 0 0, .map none] ++ []) :: []) P29 w := by rw [hP29]; exact H
  refine H.st1 (v := a1) 1 (cells_one hone28) (hone28) rfl (by simp) rfl (Nat.lt_of_lt_of_le (Nat.lt_succ_self _) (Nat.le_of_ble_eq_true rfl)) ?_
  intro w H
  ((conv=>whnf);repeat(first|(refine mvT ?_;conv=>whnf)|(refine mvF ?_;conv=>whnf)|(refine cT (by rfl) ?_;conv=>whnf)|(refine cF (by rfl) ?_;conv=>whnf)))
  replace H : St w0 G0 p pb s28 ((p, ty, [] ++ [.int .i16 v, a1, .map none] ++ []) :: []) P29 w := H
  (refine mvB ?_;((conv=>whnf);repeat(first|(refine mvT ?_;conv=>whnf)|(refine mvF ?_;conv=>whnf)|(refine cT (by rfl) ?_;conv=>whnf)|(refine cF (by rfl) ?_;conv=>whnf))))
  refine VC.cutE (fun q : Value × List Tg × Rd => [(0, .pointer (some ⟨p, 0, none⟩)), (2, .bool false), (7, .pointer (some ⟨pb, 0, none⟩)), (8, .int .i16 v), (9, .bool fx), (10, .pointer (some ⟨p, 0, none⟩))]) (fun q w' => rdTagsF fx s28 = q.2 ∧ St w0 G0 p pb q.2.2 ((p, ty, [] ++ [.int .i16 v, a1, q.1] ++ []) :: []) (fun w => TGf p q.1 q.2.1 w ∧ P29 w) w') ?_ ?_
  · refine cI (by rfl) (fun hc=>?_) (fun hc=>?_)
    · ((conv=>whnf);repeat(first|(refine mvT ?_;conv=>whnf)|(refine mvF ?_;conv=>whnf)|(refine cT (by rfl) ?_;conv=>whnf)|(refine cF (by rfl) ?_;conv=>whnf)))
      refine Does.mono H.tags ?_
      rintro r w ⟨m, u, s', rfl, hone, hr, H⟩
      ((conv=>whnf);repeat(first|(refine mvT ?_;conv=>whnf)|(refine mvF ?_;conv=>whnf)|(refine cT (by rfl) ?_;conv=>whnf)|(refine cF (by rfl) ?_;conv=>whnf)))
      refine H.st1 (v := m) 2 (rfl) (hone) rfl (by simp) rfl (Nat.lt_of_lt_of_le (Nat.lt_succ_self _) (Nat.le_of_ble_eq_true rfl)) ?_
      intro w H
      ((conv=>whnf);repeat(first|(refine mvT ?_;conv=>whnf)|(refine mvF ?_;conv=>whnf)|(refine cT (by rfl) ?_;conv=>whnf)|(refine cF (by rfl) ?_;conv=>whnf)))
      exact ⟨(m, u, s'), ⟨rfl, rfl, rfl, rfl, rfl, rfl, trivial⟩, by rw [rdTagsF, if_pos hc]; exact hr, H⟩
    · ((conv=>whnf);repeat(first|(refine mvT ?_;conv=>whnf)|(refine mvF ?_;conv=>whnf)|(refine cT (by rfl) ?_;conv=>whnf)|(refine cF (by rfl) ?_;conv=>whnf)))
      exact ⟨(.map none, [], s28), ⟨rfl, rfl, rfl, rfl, rfl, rfl, trivial⟩, by rw [rdTagsF, if_neg (by rw [hc]; decide)], H.add fun w' _ => TagsR.nil _ _⟩
  clear H
  rintro ⟨m31, u31, s31⟩ w ⟨htg, H⟩
  dsimp only at htg H
  ((conv=>whnf);repeat(first|(refine mvT ?_;conv=>whnf)|(refine mvF ?_;conv=>whnf)|(refine cT (by rfl) ?_;conv=>whnf)|(refine cF (by rfl) ?_;conv=>whnf)))
  obtain ⟨P32, hP32⟩ : ∃ P : World → Prop, P = fun w => TGf p m31 u31 w ∧ P29 w := ⟨_, rfl⟩
  replace H : St w0 G0 p pb s31 ((p, ty, [] ++ [.int .i16 v, a1, m31] ++ []) :: []) P32 w := by rw [hP32]; exact H
  have hpart : rdPart 9 v fx dWriteTxnMarkersRequest (l, false) = (.mk 0 [] false [.mk 0 [] (decide (n1 ≤ 0)) l28 []] u31, s31) := by
    unfold rdPart rdPartW
    rw [rdAll_yes (df := dfT 9) ((rdField_list _ _ _ _ _ _ _ _ _ _ _).trans hr28) ⟨by decide, has_all hv⟩]
    simp only [rdAll]
    rw [htg]
  refine Does.mono (H.done hL hp1) ?_
  rintro r w ⟨rfl, H⟩
  ((conv=>whnf);repeat(first|(refine mvT ?_;conv=>whnf)|(refine mvF ?_;conv=>whnf)|(refine cT (by rfl) ?_;conv=>whnf)|(refine cF (by rfl) ?_;conv=>whnf)))
  refine RdPost.end hpart H fun hP => ?_
  rw [hP32] at hP
  obtain ⟨hf32_, hP⟩ := hP
  rw [hP29] at hP
  obtain ⟨hf29_, hP⟩ := hP
  exact QPt (QA1 (QF11 hl28 hf29_) (QA0)) hf32_
end Go.Proofs.YtanohglljnajiaaGreatDoor.K
