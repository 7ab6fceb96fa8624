/- Reading of UpdateRaftVoterRequest. -/
import Derived.Test.YtanohglljnajiaaGreatDoorE5
set_option linter.unusedVariables false
set_option linter.unusedSimpArgs false
namespace Go.Proofs.YtanohglljnajiaaGreatDoor.K
open Go
set_option maxHeartbeats 4000000
set_option maxRecDepth 100000

abbrev dUpdateRaftVoterRequestListener : List Fd := [.mk 8 0 (-1) (-1) (-1) 0 0 [], .mk 8 0 (-1) (-1) (-1) 0 0 [], .mk 5 0 (-1) (-1) (-1) 0 0 []]
abbrev dUpdateRaftVoterRequestKRaftVersionFeature : List Fd := [.mk 2 0 (-1) (-1) (-1) 0 0 [], .mk 2 0 (-1) (-1) (-1) 0 0 []]
abbrev dUpdateRaftVoterRequest : List Fd := [.mk 8 0 (-1) 0 (-1) 0 0 [], .mk 3 0 (-1) (-1) (-1) 0 0 [], .mk 3 0 (-1) (-1) (-1) 0 0 [], .mk 7 0 (-1) (-1) (-1) 0 0 [], .mk 11 0 (-1) (-1) (-1) 0 10 dUpdateRaftVoterRequestListener, .mk 10 0 (-1) (-1) (-1) 0 0 dUpdateRaftVoterRequestKRaftVersionFeature]
theorem sUpdateRaftVoterRequestListener (w : World) : Does X.P 58 #[] w fun r w' => FdsR w' (fun k => w.heap.size ≤ k) r dUpdateRaftVoterRequestListener ∧ Ext nob w w' := by
  have hx0 : Ext nob w w := Ext.refl _ _
  refine Does.go (X := X) (l := []) Tryz.func58 rfl (by kernel_rfl) (by kernel_rfl) _ rfl ?_
  ((conv=>whnf);repeat(first|(refine mvT ?_;conv=>whnf)|(refine mvF ?_;conv=>whnf)|(refine cT (by rfl) ?_;conv=>whnf)|(refine cF (by rfl) ?_;conv=>whnf)))
  have hxs := hx0
  intro b wb hb ho hx
  have hx0 := hx0.e0 hx
  ((conv=>whnf);repeat(first|(refine mvT ?_;conv=>whnf)|(refine mvF ?_;conv=>whnf)|(refine cT (by rfl) ?_;conv=>whnf)|(refine cF (by rfl) ?_;conv=>whnf)))
  refine ⟨?_, hx0⟩
  exact FdL.fds (cs := [[.int .i64 8, .int .i64 0, .int .i64 (-1), .int .i64 (-1), .int .i64 (-1), .int .i64 0, .int .i64 0, .slice none 0 0], [.int .i64 8, .int .i64 0, .int .i64 (-1), .int .i64 (-1), .int .i64 (-1), .int .i64 0, .int .i64 0, .slice none 0 0], [.int .i64 5, .int .i64 0, .int .i64 (-1), .int .i64 (-1), .int .i64 (-1), .int .i64 0, .int .i64 0, .slice none 0 0]])
    ⟨fdLeaf _ _ _ _ _ _ _ _ _, fdLeaf _ _ _ _ _ _ _ _ _, fdLeaf _ _ _ _ _ _ _ _ _, trivial⟩ ho rfl (by decide) (by have := hxs.size; omega)
theorem sUpdateRaftVoterRequestKRaftVersionFeature (w : World) : Does X.P 59 #[] w fun r w' => FdsR w' (fun k => w.heap.size ≤ k) r dUpdateRaftVoterRequestKRaftVersionFeature ∧ Ext nob w w' := by
  have hx0 : Ext nob w w := Ext.refl _ _
  refine Does.go (X := X) (l := []) Tryz.func59 rfl (by kernel_rfl) (by kernel_rfl) _ rfl ?_
  ((conv=>whnf);repeat(first|(refine mvT ?_;conv=>whnf)|(refine mvF ?_;conv=>whnf)|(refine cT (by rfl) ?_;conv=>whnf)|(refine cF (by rfl) ?_;conv=>whnf)))
  have hxs := hx0
  intro b wb hb ho hx
  have hx0 := hx0.e0 hx
  ((conv=>whnf);repeat(first|(refine mvT ?_;conv=>whnf)|(refine mvF ?_;conv=>whnf)|(refine cT (by rfl) ?_;conv=>whnf)|(refine cF (by rfl) ?_;conv=>whnf)))
  refine ⟨?_, hx0⟩
  exact FdL.fds (cs := [[.int .i64 2, .int .i64 0, .int .i64 (-1), .int .i64 (-1), .int .i64 (-1), .int .i64 0, .int .i64 0, .slice none 0 0], [.int .i64 2, .int .i64 0, .int .i64 (-1), .int .i64 (-1), .int .i64 (-1), .int .i64 0, .int .i64 0, .slice none 0 0]])
    ⟨fdLeaf _ _ _ _ _ _ _ _ _, fdLeaf _ _ _ _ _ _ _ _ _, trivial⟩ ho rfl (by decide) (by have := hxs.size; omega)
theorem sUpdateRaftVoterRequest (w : World) : Does X.P 24 #[] w fun r w' => Msg w' (fun k => w.heap.size ≤ k) r dUpdateRaftVoterRequest 0 ∧ Ext nob w w' := by
  have hx0 : Ext nob w w := Ext.refl _ _
  refine Does.go (X := X) (l := []) Tryz.func24 rfl (by kernel_rfl) (by kernel_rfl) _ rfl ?_
  ((conv=>whnf);repeat(first|(refine mvT ?_;conv=>whnf)|(refine mvF ?_;conv=>whnf)|(refine cT (by rfl) ?_;conv=>whnf)|(refine cF (by rfl) ?_;conv=>whnf)))
  intro b w1 hb ho hx
  have hx0 := hx0.e0 hx
  have ho := ho
  ((conv=>whnf);repeat(first|(refine mvT ?_;conv=>whnf)|(refine mvF ?_;conv=>whnf)|(refine cT (by rfl) ?_;conv=>whnf)|(refine cF (by rfl) ?_;conv=>whnf)))
  refine Does.mono (sUpdateRaftVoterRequestListener w1) ?_
  rintro v4 wv4 ⟨hv4, hc⟩
  have hv4 := hv4.mono (F' := fun k => w.heap.size ≤ k ∧ b < k) fun k _ h => ⟨Nat.le_trans hx0.size h, Nat.lt_of_lt_of_le ho.lt h⟩
  obtain ⟨lv4, gv4, _⟩ := id hv4
  obtain ⟨av4, kv4, rfl, _⟩ := gv4.view
  ((conv=>whnf);repeat(first|(refine mvT ?_;conv=>whnf)|(refine mvF ?_;conv=>whnf)|(refine cT (by rfl) ?_;conv=>whnf)|(refine cF (by rfl) ?_;conv=>whnf)))
  have hx0 := hx0.e0 hc
  have ho := ho.e0 hc
  refine Does.mono (sUpdateRaftVoterRequestKRaftVersionFeature wv4) ?_
  rintro v5 wv5 ⟨hv5, hc⟩
  have hv5 := hv5.mono (F' := fun k => w.heap.size ≤ k ∧ b < k) fun k _ h => ⟨Nat.le_trans hx0.size h, Nat.lt_of_lt_of_le ho.lt h⟩
  obtain ⟨lv5, gv5, _⟩ := id hv5
  obtain ⟨av5, kv5, rfl, _⟩ := gv5.view
  ((conv=>whnf);repeat(first|(refine mvT ?_;conv=>whnf)|(refine mvF ?_;conv=>whnf)|(refine cT (by rfl) ?_;conv=>whnf)|(refine cF (by rfl) ?_;conv=>whnf)))
  have hv4 := hv4.e0 hc
  have hx0 := hx0.e0 hc
  have ho := ho.e0 hc
  have hxs := hx0
  intro b2 w2 hb2 ho2 hx2
  ((conv=>whnf);repeat(first|(refine mvT ?_;conv=>whnf)|(refine mvF ?_;conv=>whnf)|(refine cT (by rfl) ?_;conv=>whnf)|(refine cF (by rfl) ?_;conv=>whnf)))
  have hx0 := hx0.e0 hx2
  refine ⟨_, _, ho.e0 hx2, rfl, rfl, rfl, ?_⟩
  intro w3 ho3 hx3
  have hx03 := hx0.st hx3 hb
  ((conv=>whnf);repeat(first|(refine mvT ?_;conv=>whnf)|(refine mvF ?_;conv=>whnf)|(refine cT (by rfl) ?_;conv=>whnf)|(refine cF (by rfl) ?_;conv=>whnf)))
  refine ⟨_, rfl, ho3.cells, ?_⟩
  refine ⟨⟨_, rfl, ?_⟩, hx03⟩
  have ho2 := ho2.ext hx3 (by have := ho.lt; omega)
  have hs := hx0.size
  have hs2 : w.heap.size ≤ b2 := Nat.le_trans hxs.size hb2
  exact FdL.fds (cs := [[.int .i64 8, .int .i64 0, .int .i64 (-1), .int .i64 0, .int .i64 (-1), .int .i64 0, .int .i64 0, .slice none 0 0], [.int .i64 3, .int .i64 0, .int .i64 (-1), .int .i64 (-1), .int .i64 (-1), .int .i64 0, .int .i64 0, .slice none 0 0], [.int .i64 3, .int .i64 0, .int .i64 (-1), .int .i64 (-1), .int .i64 (-1), .int .i64 0, .int .i64 0, .slice none 0 0], [.int .i64 7, .int .i64 0, .int .i64 (-1), .int .i64 (-1), .int .i64 (-1), .int .i64 0, .int .i64 0, .slice none 0 0], [.int .i64 11, .int .i64 0, .int .i64 (-1), .int .i64 (-1), .int .i64 (-1), .int .i64 0, .int .i64 10, .slice av4 lv4.length kv4], [.int .i64 10, .int .i64 0, .int .i64 (-1), .int .i64 (-1), .int .i64 (-1), .int .i64 0, .int .i64 0, .slice av5 lv5.length kv5]])
    ⟨fdLeaf _ _ _ _ _ _ _ _ _, fdLeaf _ _ _ _ _ _ _ _ _, fdLeaf _ _ _ _ _ _ _ _ _, fdLeaf _ _ _ _ _ _ _ _ _, FdC.of (FdsR.mono (FdsR.ext (FdsR.e0 hv4 hx2) hx3 fun k _ h1 h2 => by omega) fun k _ h => h.1) _ _ _ _ _ _ _, FdC.of (FdsR.mono (FdsR.ext (FdsR.e0 hv5 hx2) hx3 fun k _ h1 h2 => by omega) fun k _ h => h.1) _ _ _ _ _ _ _, trivial⟩ ho2 rfl (by decide) (by omega)
theorem dfUpdateRaftVoterRequestListener {w : World} {q o : Nat} {T : TypeId} {pre cur post : List Value} (ho : Own w q T (pre ++ cur ++ post)) (hp : pre.length = o) (hl : cur.length = 4) :
    Does X.P 165 #[.pointer (some ⟨q, o, none⟩)] w fun r w' => Own w' q T (pre ++ cur ++ post) ∧ Ext (fun k => k = q) w w' := by
  have hx : Ext (fun k => k = q) w w := Ext.refl _ _
  refine Does.go (X := X) (l := [_]) Tryz.func165 rfl (by kernel_rfl) (by kernel_rfl) _ rfl ?_
  ((conv=>whnf);repeat(first|(refine mvT ?_;conv=>whnf)|(refine mvF ?_;conv=>whnf)|(refine cT (by rfl) ?_;conv=>whnf)|(refine cF (by rfl) ?_;conv=>whnf)))
  exact ⟨ho, hx⟩
theorem dfUpdateRaftVoterRequestKRaftVersionFeature {w : World} {q o : Nat} {T : TypeId} {pre cur post : List Value} (ho : Own w q T (pre ++ cur ++ post)) (hp : pre.length = o) (hl : cur.length = 3) :
    Does X.P 167 #[.pointer (some ⟨q, o, none⟩)] w fun r w' => Own w' q T (pre ++ cur ++ post) ∧ Ext (fun k => k = q) w w' := by
  have hx : Ext (fun k => k = q) w w := Ext.refl _ _
  refine Does.go (X := X) (l := [_]) Tryz.func167 rfl (by kernel_rfl) (by kernel_rfl) _ rfl ?_
  ((conv=>whnf);repeat(first|(refine mvT ?_;conv=>whnf)|(refine mvF ?_;conv=>whnf)|(refine cT (by rfl) ?_;conv=>whnf)|(refine cF (by rfl) ?_;conv=>whnf)))
  exact ⟨ho, hx⟩
theorem dfUpdateRaftVoterRequest {w : World} {q o : Nat} {T : TypeId} {pre cur post : List Value} (ho : Own w q T (pre ++ cur ++ post)) (hp : pre.length = o) (hl : cur.length = 25) :
    Does X.P 113 #[.pointer (some ⟨q, o, none⟩)] w fun r w' => Own w' q T (pre ++ cur ++ post) ∧ Ext (fun k => k = q) w w' := by
  have hx : Ext (fun k => k = q) w w := Ext.refl _ _
  refine Does.go (X := X) (l := [_]) Tryz.func113 rfl (by kernel_rfl) (by kernel_rfl) _ rfl ?_
  ((conv=>whnf);repeat(first|(refine mvT ?_;conv=>whnf)|(refine mvF ?_;conv=>whnf)|(refine cT (by rfl) ?_;conv=>whnf)|(refine cF (by rfl) ?_;conv=>whnf)))
  exact ⟨ho, hx⟩
theorem readUpdateRaftVoterRequest {w0 : World} {F : Nat → Prop} {p : Nat} {ty : TypeId} {v : Int} {x ev : Value} {l : List UInt8} (hL : Laid w0 ev) (hp : Own w0 p ty [.int .i16 v, .pointer none, .int .i32 0, .int .i32 0, .int .u8 0, .int .u8 0, .int .u8 0, .int .u8 0, .int .u8 0, .int .u8 0, .int .u8 0, .int .u8 0, .int .u8 0, .int .u8 0, .int .u8 0, .int .u8 0, .int .u8 0, .int .u8 0, .int .u8 0, .int .u8 0, .slice none 0 0, .int .i16 0, .int .i16 0, .map none, .map none]) (hx : Bytes w0 F x l) (hF : ∀ k, F k → k ≠ p) (hv : 0 ≤ v) (hp1 : p ≠ errG) :
    Does X.P 114 #[.pointer (some ⟨p, 0, none⟩), x, .bool false] w0 fun r w' => RdPost w0 p ty v (decide (v ≥ 0)) true dUpdateRaftVoterRequest ev l r w' := by
  have hpl := hp.lt
  obtain ⟨fx, hfx⟩ : ∃ fx, fx = decide (v ≥ 0) := ⟨_, rfl⟩
  rw [← hfx]
  obtain ⟨G0, hG0, hx⟩ : ∃ G0 : Nat → Prop, (∀ k, G0 k → k < w0.heap.size ∧ k ≠ p) ∧ Bytes w0 G0 x l := ⟨fun k => F k ∧ k < w0.heap.size, fun k h => ⟨h.2, hF k h.1⟩, Sl.mono hx fun k hk h => ⟨h, hk⟩⟩
  obtain ⟨a0, c0, rfl, _⟩ := hx.view
  refine Does.go (X := X) (l := [_, _, _]) Tryz.func114 rfl (by kernel_rfl) (by kernel_rfl) _ rfl ?_
  ((conv=>whnf);repeat(first|(refine mvT ?_;conv=>whnf)|(refine mvF ?_;conv=>whnf)|(refine cT (by rfl) ?_;conv=>whnf)|(refine cF (by rfl) ?_;conv=>whnf)))
  refine Does.mono (dfUpdateRaftVoterRequest (pre := []) (cur := [.int .i16 v, .pointer none, .int .i32 0, .int .i32 0, .int .u8 0, .int .u8 0, .int .u8 0, .int .u8 0, .int .u8 0, .int .u8 0, .int .u8 0, .int .u8 0, .int .u8 0, .int .u8 0, .int .u8 0, .int .u8 0, .int .u8 0, .int .u8 0, .int .u8 0, .int .u8 0, .slice none 0 0, .int .i16 0, .int .i16 0, .map none, .map none]) (post := []) (by simpa using hp) rfl rfl) ?_
  rintro rd wd ⟨hpd, hxd⟩
  ((conv=>whnf);repeat(first|(refine mvT ?_;conv=>whnf)|(refine mvF ?_;conv=>whnf)|(refine cT (by rfl) ?_;conv=>whnf)|(refine cF (by rfl) ?_;conv=>whnf)))
  intro pb w1 hpb hb hx1
  ((conv=>whnf);repeat(first|(refine mvT ?_;conv=>whnf)|(refine mvF ?_;conv=>whnf)|(refine cT (by rfl) ?_;conv=>whnf)|(refine cF (by rfl) ?_;conv=>whnf)))
  refine st_all [.slice a0 l.length c0, .bool false] hb rfl rfl rfl ?_
  intro w hb hx2
  ((conv=>whnf);repeat(first|(refine mvT ?_;conv=>whnf)|(refine mvF ?_;conv=>whnf)|(refine cT (by rfl) ?_;conv=>whnf)|(refine cF (by rfl) ?_;conv=>whnf)))
  have hsd := hxd.size
  have hwp : w0.heap.size ≤ pb := by omega
  have he1 : Ext nob wd w := hx1.trans hx2 fun k hk h => by omega
  have hpw : Own w p ty [.int .i16 v, .pointer none, .int .i32 0, .int .i32 0, .int .u8 0, .int .u8 0, .int .u8 0, .int .u8 0, .int .u8 0, .int .u8 0, .int .u8 0, .int .u8 0, .int .u8 0, .int .u8 0, .int .u8 0, .int .u8 0, .int .u8 0, .int .u8 0, .int .u8 0, .int .u8 0, .slice none 0 0, .int .i16 0, .int .i16 0, .map none, .map none] := by have := hpd.e0 he1; simpa using this
  have he := hxd.tr0 he1
  have H := St.init hpw hb (hx.ext he fun k _ h => (hG0 k h).2) hG0 he hpl hwp
  clear hpd hxd hx1 hx2 hb hpw he1 hp
  refine ldS (H.cell (o := 0) rfl (k := 0) rfl) ?_;((conv=>whnf);repeat(first|(refine mvT ?_;conv=>whnf)|(refine mvF ?_;conv=>whnf)|(refine cT (by rfl) ?_;conv=>whnf)|(refine cF (by rfl) ?_;conv=>whnf)))
  rw [← hfx]
  (refine mvB ?_;((conv=>whnf);repeat(first|(refine mvT ?_;conv=>whnf)|(refine mvF ?_;conv=>whnf)|(refine cT (by rfl) ?_;conv=>whnf)|(refine cF (by rfl) ?_;conv=>whnf))))
  have hup0 : tailBad 9 v fx dUpdateRaftVoterRequest (l, false) = true → (rdPart 9 v fx dUpdateRaftVoterRequest (l, false)).2.2 = true := id
  (refine mvB ?_;((conv=>whnf);repeat(first|(refine mvT ?_;conv=>whnf)|(refine mvF ?_;conv=>whnf)|(refine cT (by rfl) ?_;conv=>whnf)|(refine cF (by rfl) ?_;conv=>whnf))))
  refine VC.cutE (fun q : Value × Bool × List UInt8 × Rd => [(11, q.1), (0, .pointer (some ⟨p, 0, none⟩)), (2, .bool false), (7, .pointer (some ⟨pb, 0, none⟩)), (8, .int .i16 v), (9, .bool fx), (10, .pointer (some ⟨p, 0, none⟩))]) (fun q w' => q.1.oneCell' = true ∧ (q.2.1 = true → q.2.2.1 = []) ∧ rdNt fx (l, false) = (.mk 0 q.2.2.1 q.2.1 [] [], q.2.2.2) ∧ St w0 G0 p pb q.2.2.2 ((p, ty, [] ++ [.int .i16 v, .pointer none, .int .i32 0, .int .i32 0, .int .u8 0, .int .u8 0, .int .u8 0, .int .u8 0, .int .u8 0, .int .u8 0, .int .u8 0, .int .u8 0, .int .u8 0, .int .u8 0, .int .u8 0, .int .u8 0, .int .u8 0, .int .u8 0, .int .u8 0, .int .u8 0, .slice none 0 0, .int .i16 0, .int .i16 0, .map none, .map none] ++ []) :: []) (fun w => NTf p q.1 (.mk 0 q.2.2.1 q.2.1 [] []) w ∧ (fun _ => True) w) w') ?_ ?_
  · refine cI (by rfl) (fun hc=>?_) (fun hc=>?_)
    · ((conv=>whnf);repeat(first|(refine mvT ?_;conv=>whnf)|(refine mvF ?_;conv=>whnf)|(refine cT (by rfl) ?_;conv=>whnf)|(refine cF (by rfl) ?_;conv=>whnf)))
      refine Does.mono H.ntc ?_
      rintro r w ⟨c, nl, u, s', rfl, hone, hnl, hr, H⟩
      ((conv=>whnf);repeat(first|(refine mvT ?_;conv=>whnf)|(refine mvF ?_;conv=>whnf)|(refine cT (by rfl) ?_;conv=>whnf)|(refine cF (by rfl) ?_;conv=>whnf)))
      exact ⟨(r, nl, u, s'), ⟨rfl, rfl, rfl, rfl, rfl, rfl, rfl, trivial⟩, hone, hnl, by rw [hc]; exact hr, H⟩
    · ((conv=>whnf);repeat(first|(refine mvT ?_;conv=>whnf)|(refine mvF ?_;conv=>whnf)|(refine cT (by rfl) ?_;conv=>whnf)|(refine cF (by rfl) ?_;conv=>whnf)))
      refine Does.mono H.ntp ?_
      rintro r w ⟨c, nl, u, s', rfl, hone, hnl, hr, H⟩
      ((conv=>whnf);repeat(first|(refine mvT ?_;conv=>whnf)|(refine mvF ?_;conv=>whnf)|(refine cT (by rfl) ?_;conv=>whnf)|(refine cF (by rfl) ?_;conv=>whnf)))
      exact ⟨(r, nl, u, s'), ⟨rfl, rfl, rfl, rfl, rfl, rfl, rfl, trivial⟩, hone, hnl, by rw [hc]; exact hr, H⟩
  clear H
  rintro ⟨c1, nl1, u1, s1⟩ w ⟨hone1, hnl1, hr1, H⟩
  dsimp only at hone1 hnl1 hr1 H
  ((conv=>whnf);repeat(first|(refine mvT ?_;conv=>whnf)|(refine mvF ?_;conv=>whnf)|(refine cT (by rfl) ?_;conv=>whnf)|(refine cF (by rfl) ?_;conv=>whnf)))
  obtain ⟨P2, hP2⟩ : ∃ P : World → Prop, P = fun w => NTf p c1 (.mk 0 u1 nl1 [] []) w ∧ (fun _ => True) w := ⟨_, rfl⟩
  replace H : St w0 G0 p pb s1 ((p, ty, [] ++ [.int .i16 v, .pointer none, .int .i32 0, .int .i32 0, .int .u8 0, .int .u8 0, .int .u8 0, .int .u8 0, .int .u8 0, .int .u8 0, .int .u8 0, .int .u8 0, .int .u8 0, .int .u8 0, .int .u8 0, .int .u8 0, .int .u8 0, .int .u8 0, .int .u8 0, .int .u8 0, .slice none 0 0, .int .i16 0, .int .i16 0, .map none, .map none] ++ []) :: []) P2 w := by rw [hP2]; exact H
  refine H.st1 (v := c1) 1 (cells_one hone1) (hone1) rfl (by simp) rfl (Nat.lt_of_lt_of_le (Nat.lt_succ_self _) (Nat.le_of_ble_eq_true rfl)) ?_
  intro w H
  ((conv=>whnf);repeat(first|(refine mvT ?_;conv=>whnf)|(refine mvF ?_;conv=>whnf)|(refine cT (by rfl) ?_;conv=>whnf)|(refine cF (by rfl) ?_;conv=>whnf)))
  replace H : St w0 G0 p pb s1 ((p, ty, [] ++ [.int .i16 v, c1, .int .i32 0, .int .i32 0, .int .u8 0, .int .u8 0, .int .u8 0, .int .u8 0, .int .u8 0, .int .u8 0, .int .u8 0, .int .u8 0, .int .u8 0, .int .u8 0, .int .u8 0, .int .u8 0, .int .u8 0, .int .u8 0, .int .u8 0, .int .u8 0, .slice none 0 0, .int .i16 0, .int .i16 0, .map none, .map none] ++ []) :: []) P2 w := H
  refine Does.mono H.int32 ?_
  rintro r w ⟨n4, s4, rfl, hn4, hr4, H⟩
  ((conv=>whnf);repeat(first|(refine mvT ?_;conv=>whnf)|(refine mvF ?_;conv=>whnf)|(refine cT (by rfl) ?_;conv=>whnf)|(refine cF (by rfl) ?_;conv=>whnf)))
  refine H.st1 (v := .int .i32 n4) 2 (rfl) (rfl) rfl (by simp) rfl (Nat.lt_of_lt_of_le (Nat.lt_succ_self _) (Nat.le_of_ble_eq_true rfl)) ?_
  intro w H
  ((conv=>whnf);repeat(first|(refine mvT ?_;conv=>whnf)|(refine mvF ?_;conv=>whnf)|(refine cT (by rfl) ?_;conv=>whnf)|(refine cF (by rfl) ?_;conv=>whnf)))
  replace H : St w0 G0 p pb s4 ((p, ty, [] ++ [.int .i16 v, c1, .int .i32 n4, .int .i32 0, .int .u8 0, .int .u8 0, .int .u8 0, .int .u8 0, .int .u8 0, .int .u8 0, .int .u8 0, .int .u8 0, .int .u8 0, .int .u8 0, .int .u8 0, .int .u8 0, .int .u8 0, .int .u8 0, .int .u8 0, .int .u8 0, .slice none 0 0, .int .i16 0, .int .i16 0, .map none, .map none] ++ []) :: []) P2 w := H
  refine Does.mono H.int32 ?_
  rintro r w ⟨n6, s6, rfl, hn6, hr6, H⟩
  ((conv=>whnf);repeat(first|(refine mvT ?_;conv=>whnf)|(refine mvF ?_;conv=>whnf)|(refine cT (by rfl) ?_;conv=>whnf)|(refine cF (by rfl) ?_;conv=>whnf)))
  refine H.st1 (v := .int .i32 n6) 3 (rfl) (rfl) rfl (by simp) rfl (Nat.lt_of_lt_of_le (Nat.lt_succ_self _) (Nat.le_of_ble_eq_true rfl)) ?_
  intro w H
  ((conv=>whnf);repeat(first|(refine mvT ?_;conv=>whnf)|(refine mvF ?_;conv=>whnf)|(refine cT (by rfl) ?_;conv=>whnf)|(refine cF (by rfl) ?_;conv=>whnf)))
  replace H : St w0 G0 p pb s6 ((p, ty, [] ++ [.int .i16 v, c1, .int .i32 n4, .int .i32 n6, .int .u8 0, .int .u8 0, .int .u8 0, .int .u8 0, .int .u8 0, .int .u8 0, .int .u8 0, .int .u8 0, .int .u8 0, .int .u8 0, .int .u8 0, .int .u8 0, .int .u8 0, .int .u8 0, .int .u8 0, .int .u8 0, .slice none 0 0, .int .i16 0, .int .i16 0, .map none, .map none] ++ []) :: []) P2 w := H
  refine Does.mono H.uuid ?_
  rintro r w ⟨u8, s8, rfl, hu8, hr8, H⟩
  ((conv=>whnf);repeat(first|(refine mvT ?_;conv=>whnf)|(refine mvF ?_;conv=>whnf)|(refine cT (by rfl) ?_;conv=>whnf)|(refine cF (by rfl) ?_;conv=>whnf)))
  obtain ⟨u8_0, u8_1, u8_2, u8_3, u8_4, u8_5, u8_6, u8_7, u8_8, u8_9, u8_10, u8_11, u8_12, u8_13, u8_14, u8_15, rfl⟩ : ∃ u8_0 u8_1 u8_2 u8_3 u8_4 u8_5 u8_6 u8_7 u8_8 u8_9 u8_10 u8_11 u8_12 u8_13 u8_14 u8_15, u8 = [u8_0, u8_1, u8_2, u8_3, u8_4, u8_5, u8_6, u8_7, u8_8, u8_9, u8_10, u8_11, u8_12, u8_13, u8_14, u8_15] := by
    match u8, hu8 with
    | [u8_0, u8_1, u8_2, u8_3, u8_4, u8_5, u8_6, u8_7, u8_8, u8_9, u8_10, u8_11, u8_12, u8_13, u8_14, u8_15], _ => exact ⟨u8_0, u8_1, u8_2, u8_3, u8_4, u8_5, u8_6, u8_7, u8_8, u8_9, u8_10, u8_11, u8_12, u8_13, u8_14, u8_15, rfl⟩
  intro bu wu hbu hou hxu
  ((conv=>whnf);repeat(first|(refine mvT ?_;conv=>whnf)|(refine mvF ?_;conv=>whnf)|(refine cT (by rfl) ?_;conv=>whnf)|(refine cF (by rfl) ?_;conv=>whnf)))
  refine st_all [bcell u8_0, bcell u8_1, bcell u8_2, bcell u8_3, bcell u8_4, bcell u8_5, bcell u8_6, bcell u8_7, bcell u8_8, bcell u8_9, bcell u8_10, bcell u8_11, bcell u8_12, bcell u8_13, bcell u8_14, bcell u8_15] hou rfl rfl rfl ?_
  intro w2 hou hxs
  ((conv=>whnf);repeat(first|(refine mvT ?_;conv=>whnf)|(refine mvF ?_;conv=>whnf)|(refine cT (by rfl) ?_;conv=>whnf)|(refine cF (by rfl) ?_;conv=>whnf)))
  replace H := H.e0 (hxu.trans hxs (M := nob) fun k hk e => by omega)
  refine ⟨_, rfl, hou.cells, ?_⟩
  ((conv=>whnf);repeat(first|(refine mvT ?_;conv=>whnf)|(refine mvF ?_;conv=>whnf)|(refine cT (by rfl) ?_;conv=>whnf)|(refine cF (by rfl) ?_;conv=>whnf)))
  refine H.stn [bcell u8_0, bcell u8_1, bcell u8_2, bcell u8_3, bcell u8_4, bcell u8_5, bcell u8_6, bcell u8_7, bcell u8_8, bcell u8_9, bcell u8_10, bcell u8_11, bcell u8_12, bcell u8_13, bcell u8_14, bcell u8_15] 4 rfl rfl rfl (by simp) rfl (Nat.le_of_ble_eq_true rfl) ?_
  intro w H
  ((conv=>whnf);repeat(first|(refine mvT ?_;conv=>whnf)|(refine mvF ?_;conv=>whnf)|(refine cT (by rfl) ?_;conv=>whnf)|(refine cF (by rfl) ?_;conv=>whnf)))
  replace H : St w0 G0 p pb s8 ((p, ty, [] ++ [.int .i16 v, c1, .int .i32 n4, .int .i32 n6, bcell u8_0, bcell u8_1, bcell u8_2, bcell u8_3, bcell u8_4, bcell u8_5, bcell u8_6, bcell u8_7, bcell u8_8, bcell u8_9, bcell u8_10, bcell u8_11, bcell u8_12, bcell u8_13, bcell u8_14, bcell u8_15, .slice none 0 0, .int .i16 0, .int .i16 0, .map none, .map none] ++ []) :: []) P2 w := H
  refine ldS (H.cell (o := 0) rfl (k := 20) rfl) ?_;((conv=>whnf);repeat(first|(refine mvT ?_;conv=>whnf)|(refine mvF ?_;conv=>whnf)|(refine cT (by rfl) ?_;conv=>whnf)|(refine cF (by rfl) ?_;conv=>whnf)))
  (refine mvB ?_;((conv=>whnf);repeat(first|(refine mvT ?_;conv=>whnf)|(refine mvF ?_;conv=>whnf)|(refine cT (by rfl) ?_;conv=>whnf)|(refine cF (by rfl) ?_;conv=>whnf))))
  refine VC.cutE (fun q : Int × Rd => [(17, .int .i32 q.1), (16, .slice none 0 0), (0, .pointer (some ⟨p, 0, none⟩)), (2, .bool false), (7, .pointer (some ⟨pb, 0, none⟩)), (8, .int .i16 v), (9, .bool fx), (10, .pointer (some ⟨p, 0, none⟩))]) (fun q w' => (-2147483648 ≤ q.1 ∧ q.1 ≤ 2147483647) ∧ rdLn fx s8 = q ∧ St w0 G0 p pb q.2 ((p, ty, [] ++ [.int .i16 v, c1, .int .i32 n4, .int .i32 n6, bcell u8_0, bcell u8_1, bcell u8_2, bcell u8_3, bcell u8_4, bcell u8_5, bcell u8_6, bcell u8_7, bcell u8_8, bcell u8_9, bcell u8_10, bcell u8_11, bcell u8_12, bcell u8_13, bcell u8_14, bcell u8_15, .slice none 0 0, .int .i16 0, .int .i16 0, .map none, .map none] ++ []) :: []) P2 w') ?_ ?_
  · refine cI (by rfl) (fun hc=>?_) (fun hc=>?_)
    · ((conv=>whnf);repeat(first|(refine mvT ?_;conv=>whnf)|(refine mvF ?_;conv=>whnf)|(refine cT (by rfl) ?_;conv=>whnf)|(refine cF (by rfl) ?_;conv=>whnf)))
      refine Does.mono H.lnc ?_
      rintro r w ⟨n, s', rfl, hn, hr, H⟩
      ((conv=>whnf);repeat(first|(refine mvT ?_;conv=>whnf)|(refine mvF ?_;conv=>whnf)|(refine cT (by rfl) ?_;conv=>whnf)|(refine cF (by rfl) ?_;conv=>whnf)))
      exact ⟨(n, s'), ⟨rfl, rfl, rfl, rfl, rfl, rfl, rfl, rfl, trivial⟩, hn, by rw [hc]; exact hr, H⟩
    · ((conv=>whnf);repeat(first|(refine mvT ?_;conv=>whnf)|(refine mvF ?_;conv=>whnf)|(refine cT (by rfl) ?_;conv=>whnf)|(refine cF (by rfl) ?_;conv=>whnf)))
      refine Does.mono H.lnp ?_
      rintro r w ⟨n, s', rfl, hn, hr, H⟩
      ((conv=>whnf);repeat(first|(refine mvT ?_;conv=>whnf)|(refine mvF ?_;conv=>whnf)|(refine cT (by rfl) ?_;conv=>whnf)|(refine cF (by rfl) ?_;conv=>whnf)))
      exact ⟨(n, s'), ⟨rfl, rfl, rfl, rfl, rfl, rfl, rfl, rfl, trivial⟩, hn, by rw [hc]; exact hr, H⟩
  clear H
  rintro ⟨n11, s11⟩ w ⟨hn11, hln11, H⟩
  dsimp only at hn11 hln11 H
  ((conv=>whnf);repeat(first|(refine mvT ?_;conv=>whnf)|(refine mvF ?_;conv=>whnf)|(refine cT (by rfl) ?_;conv=>whnf)|(refine cF (by rfl) ?_;conv=>whnf)))
  refine Does.mono H.ok ?_
  rintro r w ⟨rfl, H⟩
  ((conv=>whnf);repeat(first|(refine mvT ?_;conv=>whnf)|(refine mvF ?_;conv=>whnf)|(refine cT (by rfl) ?_;conv=>whnf)|(refine cF (by rfl) ?_;conv=>whnf)))
  refine cI (by rfl) (fun hbd=>?_) (fun hbd=>?_)
  · have hbd : s11.2 = true := by simpa using hbd
    ((conv=>whnf);repeat(first|(refine mvT ?_;conv=>whnf)|(refine mvF ?_;conv=>whnf)|(refine cT (by rfl) ?_;conv=>whnf)|(refine cF (by rfl) ?_;conv=>whnf)))
    refine Does.mono (H.done hL hp1) ?_
    rintro r w ⟨rfl, H⟩
    ((conv=>whnf);repeat(first|(refine mvT ?_;conv=>whnf)|(refine mvF ?_;conv=>whnf)|(refine cT (by rfl) ?_;conv=>whnf)|(refine cF (by rfl) ?_;conv=>whnf)))
    refine RdPost.early hbd (hup0 (?_)) H
    rw [tail_yes ((rdField8n (by decide)).trans hr1) ⟨by decide, has_all hv⟩, tail_yes (rdField3.trans hr4) ⟨by decide, has_all hv⟩, tail_yes (rdField3.trans hr6) ⟨by decide, has_all hv⟩, tail_yes (rdField7.trans hr8) ⟨by decide, has_all hv⟩, tail_len ⟨by decide, has_all hv⟩ hln11 hbd]
  have hbd : s11.2 = false := by simpa using hbd
  clear hbd
  ((conv=>whnf);repeat(first|(refine mvT ?_;conv=>whnf)|(refine mvF ?_;conv=>whnf)|(refine cT (by rfl) ?_;conv=>whnf)|(refine cF (by rfl) ?_;conv=>whnf)))
  refine cut_zero ?_
  ((conv=>whnf);repeat(first|(refine mvT ?_;conv=>whnf)|(refine mvF ?_;conv=>whnf)|(refine cT (by rfl) ?_;conv=>whnf)|(refine cF (by rfl) ?_;conv=>whnf)))
  refine VC.cutE (fun a : Value => [(17, .int .i32 n11), (16, a), (0, .pointer (some ⟨p, 0, none⟩)), (2, .bool false), (7, .pointer (some ⟨pb, 0, none⟩)), (8, .int .i16 v), (9, .bool fx), (10, .pointer (some ⟨p, 0, none⟩))]) (fun a w' => ListI w0 G0 p pb 133 [str [], str [], .int .u16 0, .map none] (elR 8 v fx 10 dUpdateRaftVoterRequestListener) (elQ true 8 10 dUpdateRaftVoterRequestListener) s11 n11 (decide (n11 ≤ 0)) ((p, ty, [] ++ [.int .i16 v, c1, .int .i32 n4, .int .i32 n6, bcell u8_0, bcell u8_1, bcell u8_2, bcell u8_3, bcell u8_4, bcell u8_5, bcell u8_6, bcell u8_7, bcell u8_8, bcell u8_9, bcell u8_10, bcell u8_11, bcell u8_12, bcell u8_13, bcell u8_14, bcell u8_15, .slice none 0 0, .int .i16 0, .int .i16 0, .map none, .map none] ++ []) :: []) P2 a 0 w') ?_ ?_
  · refine cI (by rfl) (fun hps=>?_) (fun hps=>?_)
    · have hps : 0 < n11 := by have := of_decide_eq_true hps; omega
      ((conv=>whnf);repeat(first|(refine mvT ?_;conv=>whnf)|(refine mvF ?_;conv=>whnf)|(refine cT (by rfl) ?_;conv=>whnf)|(refine cF (by rfl) ?_;conv=>whnf)))
      refine H.grow hps hn11.2 (by decide) rfl rfl (by decide) ?_
      intro g cap post w hc1 hc2 H
      ((conv=>whnf);repeat(first|(refine mvT ?_;conv=>whnf)|(refine mvF ?_;conv=>whnf)|(refine cT (by rfl) ?_;conv=>whnf)|(refine cF (by rfl) ?_;conv=>whnf)))
      exact ⟨_, ⟨rfl, rfl, rfl, rfl, rfl, rfl, rfl, rfl, trivial⟩, ListI.some hps (decide_eq_false (by omega)) hc1 hc2 H⟩
    · have hps : n11 ≤ 0 := by have := of_decide_eq_false hps; omega
      ((conv=>whnf);repeat(first|(refine mvT ?_;conv=>whnf)|(refine mvF ?_;conv=>whnf)|(refine cT (by rfl) ?_;conv=>whnf)|(refine cF (by rfl) ?_;conv=>whnf)))
      exact ⟨_, ⟨rfl, rfl, rfl, rfl, rfl, rfl, rfl, rfl, trivial⟩, ListI.none hps (decide_eq_true hps) H⟩
  clear H
  rintro a11 w H
  ((conv=>whnf);repeat(first|(refine mvT ?_;conv=>whnf)|(refine mvF ?_;conv=>whnf)|(refine cT (by rfl) ?_;conv=>whnf)|(refine cF (by rfl) ?_;conv=>whnf)))
  have hpL11 : inL ((p, ty, [] ++ [.int .i16 v, c1, .int .i32 n4, .int .i32 n6, bcell u8_0, bcell u8_1, bcell u8_2, bcell u8_3, bcell u8_4, bcell u8_5, bcell u8_6, bcell u8_7, bcell u8_8, bcell u8_9, bcell u8_10, bcell u8_11, bcell u8_12, bcell u8_13, bcell u8_14, bcell u8_15, .slice none 0 0, .int .i16 0, .int .i16 0, .map none, .map none] ++ []) :: []) p := inL.head _ _
  refine VL.loop (fun i : Nat => [(17, .int .i32 n11), (16, a11), (18, .int .i32 i), (0, .pointer (some ⟨p, 0, none⟩)), (2, .bool false), (7, .pointer (some ⟨pb, 0, none⟩)), (8, .int .i16 v), (9, .bool fx), (10, .pointer (some ⟨p, 0, none⟩))]) (fun i w' => i ≤ 2147483647 ∧ ListI w0 G0 p pb 133 [str [], str [], .int .u16 0, .map none] (elR 8 v fx 10 dUpdateRaftVoterRequestListener) (elQ true 8 10 dUpdateRaftVoterRequestListener) s11 n11 (decide (n11 ≤ 0)) ((p, ty, [] ++ [.int .i16 v, c1, .int .i32 n4, .int .i32 n6, bcell u8_0, bcell u8_1, bcell u8_2, bcell u8_3, bcell u8_4, bcell u8_5, bcell u8_6, bcell u8_7, bcell u8_8, bcell u8_9, bcell u8_10, bcell u8_11, bcell u8_12, bcell u8_13, bcell u8_14, bcell u8_15, .slice none 0 0, .int .i16 0, .int .i16 0, .map none, .map none] ++ []) :: []) P2 a11 i w') (fun i => n11.toNat - i) 0 ⟨rfl, rfl, rfl, rfl, rfl, rfl, rfl, rfl, rfl, trivial⟩ ⟨by decide, H⟩ ?_
  clear H
  rintro i11 w ⟨hi11, H⟩
  ((conv=>whnf);repeat(first|(refine mvT ?_;conv=>whnf)|(refine mvF ?_;conv=>whnf)|(refine cT (by rfl) ?_;conv=>whnf)|(refine cF (by rfl) ?_;conv=>whnf)))
  refine cI (by rfl) (fun h9=>?_) (fun h9=>?_)
  · have hlt11 : (i11 : Int) < n11 := of_decide_eq_true h9
    obtain ⟨g11, cap11, post11, rfl, hgo11, HI⟩ := H.go hlt11
    obtain ⟨es11, ts11, si11, hes11, hez11, hrn11, hts11, hlen1, H⟩ := HI.open hgo11.2.2.2.2
    obtain ⟨L11, hL11⟩ : ∃ L : List Ob, L = ((p, ty, [] ++ [.int .i16 v, c1, .int .i32 n4, .int .i32 n6, bcell u8_0, bcell u8_1, bcell u8_2, bcell u8_3, bcell u8_4, bcell u8_5, bcell u8_6, bcell u8_7, bcell u8_8, bcell u8_9, bcell u8_10, bcell u8_11, bcell u8_12, bcell u8_13, bcell u8_14, bcell u8_15, .slice none 0 0, .int .i16 0, .int .i16 0, .map none, .map none] ++ []) :: []) := ⟨_, rfl⟩
    rw [← hL11] at H hpL11
    obtain ⟨P11, hP11⟩ : ∃ P : World → Prop, P = fun w => (∀ (j : Nat) (c : List Value) (y : T), es11[j]? = some c → ts11[j]? = some y → elQ true 8 10 dUpdateRaftVoterRequestListener ⟨w, fun k => k ≠ p⟩ c y) ∧ P2 w := ⟨_, rfl⟩
    rw [← hP11] at H
    replace H : St w0 G0 p pb si11 ((g11, 133, es11.flatten ++ [str [], str [], .int .u16 0, .map none] ++ ((List.replicate (n11.toNat - (i11 + 1)) [str [], str [], .int .u16 0, .map none]).flatten ++ post11)) :: L11) P11 w := H
    ((conv=>whnf);repeat(first|(refine mvT ?_;conv=>whnf)|(refine mvF ?_;conv=>whnf)|(refine cT (by rfl) ?_;conv=>whnf)|(refine cF (by rfl) ?_;conv=>whnf)))
    refine ⟨g11, 0, rfl, ⟨by omega, by omega⟩, ?_⟩
    ((conv=>whnf);repeat(first|(refine mvT ?_;conv=>whnf)|(refine mvF ?_;conv=>whnf)|(refine cT (by rfl) ?_;conv=>whnf)|(refine cF (by rfl) ?_;conv=>whnf)))
    refine Does.mono (dfUpdateRaftVoterRequestListener (pre := es11.flatten) (cur := [str [], str [], .int .u16 0, .map none]) (post := ((List.replicate (n11.toNat - (i11 + 1)) [str [], str [], .int .u16 0, .map none]).flatten ++ post11)) H.head (by first | (rw [hlen1]; simp; done) | (simp [hlen1]; done) | (simp [hlen1]; omega)) rfl) ?_
    rintro rd w2 ⟨hdf, hxd⟩
    replace H := H.put hdf hxd
    clear hdf hxd
    replace H : St w0 G0 p pb si11 ((g11, 133, es11.flatten ++ [str [], str [], .int .u16 0, .map none] ++ ((List.replicate (n11.toNat - (i11 + 1)) [str [], str [], .int .u16 0, .map none]).flatten ++ post11)) :: L11) P11 w2 := H
    ((conv=>whnf);repeat(first|(refine mvT ?_;conv=>whnf)|(refine mvF ?_;conv=>whnf)|(refine cT (by rfl) ?_;conv=>whnf)|(refine cF (by rfl) ?_;conv=>whnf)))
    have hup11 : tailBad 8 v fx dUpdateRaftVoterRequestListener si11 = true → (rdPart 9 v fx dUpdateRaftVoterRequest (l, false)).2.2 = true := by
      intro hb
      refine hup0 ?_
      rw [tail_yes ((rdField8n (by decide)).trans hr1) ⟨by decide, has_all hv⟩, tail_yes (rdField3.trans hr4) ⟨by decide, has_all hv⟩, tail_yes (rdField3.trans hr6) ⟨by decide, has_all hv⟩, tail_yes (rdField7.trans hr8) ⟨by decide, has_all hv⟩, tail_el ⟨by decide, has_all hv⟩ hln11 hgo11.2.2.2.2 hrn11 hb]
    (refine mvB ?_;((conv=>whnf);repeat(first|(refine mvT ?_;conv=>whnf)|(refine mvF ?_;conv=>whnf)|(refine cT (by rfl) ?_;conv=>whnf)|(refine cF (by rfl) ?_;conv=>whnf))))
    refine VC.cutE (fun q : List UInt8 × Rd => [(21, str q.1), (0, .pointer (some ⟨p, 0, none⟩)), (2, .bool false), (7, .pointer (some ⟨pb, 0, none⟩)), (8, .int .i16 v), (9, .bool fx), (10, .pointer (some ⟨p, 0, none⟩)), (17, .int .i32 n11), (16, .slice (some ⟨g11, 0, none⟩) n11.toNat cap11), (18, .int .i32 i11), (19, .pointer (some ⟨g11, 0 + (i11 : Int).toNat * 4, none⟩)), (20, .pointer (some ⟨g11, 0 + (i11 : Int).toNat * 4, none⟩))]) (fun q w' => rdTx fx si11 = q ∧ St w0 G0 p pb q.2 ((g11, 133, es11.flatten ++ [str [], str [], .int .u16 0, .map none] ++ ((List.replicate (n11.toNat - (i11 + 1)) [str [], str [], .int .u16 0, .map none]).flatten ++ post11)) :: L11) P11 w') ?_ ?_
    · refine cI (by rfl) (fun hc=>?_) (fun hc=>?_)
      · ((conv=>whnf);repeat(first|(refine mvT ?_;conv=>whnf)|(refine mvF ?_;conv=>whnf)|(refine cT (by rfl) ?_;conv=>whnf)|(refine cF (by rfl) ?_;conv=>whnf)))
        refine Does.mono H.txc ?_
        rintro r w ⟨u, s', rfl, hr, H⟩
        ((conv=>whnf);repeat(first|(refine mvT ?_;conv=>whnf)|(refine mvF ?_;conv=>whnf)|(refine cT (by rfl) ?_;conv=>whnf)|(refine cF (by rfl) ?_;conv=>whnf)))
        exact ⟨(u, s'), ⟨rfl, rfl, rfl, rfl, rfl, rfl, rfl, rfl, rfl, rfl, rfl, rfl, trivial⟩, by rw [hc]; exact hr, H⟩
      · ((conv=>whnf);repeat(first|(refine mvT ?_;conv=>whnf)|(refine mvF ?_;conv=>whnf)|(refine cT (by rfl) ?_;conv=>whnf)|(refine cF (by rfl) ?_;conv=>whnf)))
        refine Does.mono H.txp ?_
        rintro r w ⟨u, s', rfl, hr, H⟩
        ((conv=>whnf);repeat(first|(refine mvT ?_;conv=>whnf)|(refine mvF ?_;conv=>whnf)|(refine cT (by rfl) ?_;conv=>whnf)|(refine cF (by rfl) ?_;conv=>whnf)))
        exact ⟨(u, s'), ⟨rfl, rfl, rfl, rfl, rfl, rfl, rfl, rfl, rfl, rfl, rfl, rfl, trivial⟩, by rw [hc]; exact hr, H⟩
    clear H
    rintro ⟨u12, s12⟩ w ⟨hr12, H⟩
    dsimp only at hr12 H
    ((conv=>whnf);repeat(first|(refine mvT ?_;conv=>whnf)|(refine mvF ?_;conv=>whnf)|(refine cT (by rfl) ?_;conv=>whnf)|(refine cF (by rfl) ?_;conv=>whnf)))
    refine H.st1 (v := str u12) 0 (rfl) (rfl) rfl (by first | omega | (simp [hlen1]; done) | (simp [hlen1]; omega)) rfl (Nat.lt_of_lt_of_le (Nat.lt_succ_self _) (Nat.le_of_ble_eq_true rfl)) ?_
    intro w H
    ((conv=>whnf);repeat(first|(refine mvT ?_;conv=>whnf)|(refine mvF ?_;conv=>whnf)|(refine cT (by rfl) ?_;conv=>whnf)|(refine cF (by rfl) ?_;conv=>whnf)))
    replace H : St w0 G0 p pb s12 ((g11, 133, es11.flatten ++ [str u12, str [], .int .u16 0, .map none] ++ ((List.replicate (n11.toNat - (i11 + 1)) [str [], str [], .int .u16 0, .map none]).flatten ++ post11)) :: L11) P11 w := H
    (refine mvB ?_;((conv=>whnf);repeat(first|(refine mvT ?_;conv=>whnf)|(refine mvF ?_;conv=>whnf)|(refine cT (by rfl) ?_;conv=>whnf)|(refine cF (by rfl) ?_;conv=>whnf))))
    refine VC.cutE (fun q : List UInt8 × Rd => [(22, str q.1), (0, .pointer (some ⟨p, 0, none⟩)), (2, .bool false), (7, .pointer (some ⟨pb, 0, none⟩)), (8, .int .i16 v), (9, .bool fx), (10, .pointer (some ⟨p, 0, none⟩)), (17, .int .i32 n11), (16, .slice (some ⟨g11, 0, none⟩) n11.toNat cap11), (18, .int .i32 i11), (19, .pointer (some ⟨g11, 0 + (i11 : Int).toNat * 4, none⟩)), (20, .pointer (some ⟨g11, 0 + (i11 : Int).toNat * 4, none⟩))]) (fun q w' => rdTx fx s12 = q ∧ St w0 G0 p pb q.2 ((g11, 133, es11.flatten ++ [str u12, str [], .int .u16 0, .map none] ++ ((List.replicate (n11.toNat - (i11 + 1)) [str [], str [], .int .u16 0, .map none]).flatten ++ post11)) :: L11) P11 w') ?_ ?_
    · refine cI (by rfl) (fun hc=>?_) (fun hc=>?_)
      · ((conv=>whnf);repeat(first|(refine mvT ?_;conv=>whnf)|(refine mvF ?_;conv=>whnf)|(refine cT (by rfl) ?_;conv=>whnf)|(refine cF (by rfl) ?_;conv=>whnf)))
        refine Does.mono H.txc ?_
        rintro r w ⟨u, s', rfl, hr, H⟩
        ((conv=>whnf);repeat(first|(refine mvT ?_;conv=>whnf)|(refine mvF ?_;conv=>whnf)|(refine cT (by rfl) ?_;conv=>whnf)|(refine cF (by rfl) ?_;conv=>whnf)))
        exact ⟨(u, s'), ⟨rfl, rfl, rfl, rfl, rfl, rfl, rfl, rfl, rfl, rfl, rfl, rfl, trivial⟩, by rw [hc]; exact hr, H⟩
      · ((conv=>whnf);repeat(first|(refine mvT ?_;conv=>whnf)|(refine mvF ?_;conv=>whnf)|(refine cT (by rfl) ?_;conv=>whnf)|(refine cF (by rfl) ?_;conv=>whnf)))
        refine Does.mono H.txp ?_
        rintro r w ⟨u, s', rfl, hr, H⟩
        ((conv=>whnf);repeat(first|(refine mvT ?_;conv=>whnf)|(refine mvF ?_;conv=>whnf)|(refine cT (by rfl) ?_;conv=>whnf)|(refine cF (by rfl) ?_;conv=>whnf)))
        exact ⟨(u, s'), ⟨rfl, rfl, rfl, rfl, rfl, rfl, rfl, rfl, rfl, rfl, rfl, rfl, trivial⟩, by rw [hc]; exact hr, H⟩
    clear H
    rintro ⟨u14, s14⟩ w ⟨hr14, H⟩
    dsimp only at hr14 H
    ((conv=>whnf);repeat(first|(refine mvT ?_;conv=>whnf)|(refine mvF ?_;conv=>whnf)|(refine cT (by rfl) ?_;conv=>whnf)|(refine cF (by rfl) ?_;conv=>whnf)))
    refine H.st1 (v := str u14) 1 (rfl) (rfl) rfl (by first | omega | (simp [hlen1]; done) | (simp [hlen1]; omega)) rfl (Nat.lt_of_lt_of_le (Nat.lt_succ_self _) (Nat.le_of_ble_eq_true rfl)) ?_
    intro w H
    ((conv=>whnf);repeat(first|(refine mvT ?_;conv=>whnf)|(refine mvF ?_;conv=>whnf)|(refine cT (by rfl) ?_;conv=>whnf)|(refine cF (by rfl) ?_;conv=>whnf)))
    replace H : St w0 G0 p pb s14 ((g11, 133, es11.flatten ++ [str u12, str u14, .int .u16 0, .map none] ++ ((List.replicate (n11.toNat - (i11 + 1)) [str [], str [], .int .u16 0, .map none]).flatten ++ post11)) :: L11) P11 w := H
    refine Does.mono H.uint16 ?_
    rintro r w ⟨n16, s16, rfl, hn16, hr16, H⟩
    ((conv=>whnf);repeat(first|(refine mvT ?_;conv=>whnf)|(refine mvF ?_;conv=>whnf)|(refine cT (by rfl) ?_;conv=>whnf)|(refine cF (by rfl) ?_;conv=>whnf)))
    refine H.st1 (v := .int .u16 n16) 2 (rfl) (rfl) rfl (by first | omega | (simp [hlen1]; done) | (simp [hlen1]; omega)) rfl (Nat.lt_of_lt_of_le (Nat.lt_succ_self _) (Nat.le_of_ble_eq_true rfl)) ?_
    intro w H
    ((conv=>whnf);repeat(first|(refine mvT ?_;conv=>whnf)|(refine mvF ?_;conv=>whnf)|(refine cT (by rfl) ?_;conv=>whnf)|(refine cF (by rfl) ?_;conv=>whnf)))
    replace H : St w0 G0 p pb s16 ((g11, 133, es11.flatten ++ [str u12, str u14, .int .u16 n16, .map none] ++ ((List.replicate (n11.toNat - (i11 + 1)) [str [], str [], .int .u16 0, .map none]).flatten ++ post11)) :: L11) P11 w := H
    (refine mvB ?_;((conv=>whnf);repeat(first|(refine mvT ?_;conv=>whnf)|(refine mvF ?_;conv=>whnf)|(refine cT (by rfl) ?_;conv=>whnf)|(refine cF (by rfl) ?_;conv=>whnf))))
    refine VC.cutB (fun q : Value × List Tg × Rd => [(0, .pointer (some ⟨p, 0, none⟩)), (2, .bool false), (7, .pointer (some ⟨pb, 0, none⟩)), (8, .int .i16 v), (9, .bool fx), (10, .pointer (some ⟨p, 0, none⟩)), (17, .int .i32 n11), (16, .slice (some ⟨g11, 0, none⟩) n11.toNat cap11), (18, .int .i32 i11), (19, .pointer (some ⟨g11, 0 + (i11 : Int).toNat * 4, none⟩)), (20, .pointer (some ⟨g11, 0 + (i11 : Int).toNat * 4, none⟩))]) (fun q w' => rdTagsF fx s16 = q.2 ∧ St w0 G0 p pb q.2.2 ((g11, 133, es11.flatten ++ [str u12, str u14, .int .u16 n16, q.1] ++ ((List.replicate (n11.toNat - (i11 + 1)) [str [], str [], .int .u16 0, .map none]).flatten ++ post11)) :: L11) (fun w => TGf p q.1 q.2.1 w ∧ P11 w) w') ?_ ?_
    · refine cI (by rfl) (fun hc=>?_) (fun hc=>?_)
      · ((conv=>whnf);repeat(first|(refine mvT ?_;conv=>whnf)|(refine mvF ?_;conv=>whnf)|(refine cT (by rfl) ?_;conv=>whnf)|(refine cF (by rfl) ?_;conv=>whnf)))
        refine Does.mono H.tags ?_
        rintro r w ⟨m, u, s', rfl, hone, hr, H⟩
        ((conv=>whnf);repeat(first|(refine mvT ?_;conv=>whnf)|(refine mvF ?_;conv=>whnf)|(refine cT (by rfl) ?_;conv=>whnf)|(refine cF (by rfl) ?_;conv=>whnf)))
        refine H.st1 (v := m) 3 (rfl) (hone) rfl (by first | omega | (simp [hlen1]; done) | (simp [hlen1]; omega)) rfl (Nat.lt_of_lt_of_le (Nat.lt_succ_self _) (Nat.le_of_ble_eq_true rfl)) ?_
        intro w H
        ((conv=>whnf);repeat(first|(refine mvT ?_;conv=>whnf)|(refine mvF ?_;conv=>whnf)|(refine cT (by rfl) ?_;conv=>whnf)|(refine cF (by rfl) ?_;conv=>whnf)))
        exact ⟨(m, u, s'), ⟨rfl, rfl, rfl, rfl, rfl, rfl, rfl, rfl, rfl, rfl, rfl, trivial⟩, by rw [rdTagsF, if_pos hc]; exact hr, H⟩
      · ((conv=>whnf);repeat(first|(refine mvT ?_;conv=>whnf)|(refine mvF ?_;conv=>whnf)|(refine cT (by rfl) ?_;conv=>whnf)|(refine cF (by rfl) ?_;conv=>whnf)))
        exact ⟨(.map none, [], s16), ⟨rfl, rfl, rfl, rfl, rfl, rfl, rfl, rfl, rfl, rfl, rfl, trivial⟩, by rw [rdTagsF, if_neg (by rw [hc]; decide)], H.add fun w' _ => TagsR.nil _ _⟩
    clear H
    rintro ⟨m18, u18, s18⟩ w ⟨htg, H⟩
    dsimp only at htg H
    ((conv=>whnf);repeat(first|(refine mvT ?_;conv=>whnf)|(refine mvF ?_;conv=>whnf)|(refine cT (by rfl) ?_;conv=>whnf)|(refine cF (by rfl) ?_;conv=>whnf)))
    obtain ⟨P19, hP19⟩ : ∃ P : World → Prop, P = fun w => TGf p m18 u18 w ∧ P11 w := ⟨_, rfl⟩
    replace H : St w0 G0 p pb s18 ((g11, 133, es11.flatten ++ [str u12, str u14, .int .u16 n16, m18] ++ ((List.replicate (n11.toNat - (i11 + 1)) [str [], str [], .int .u16 0, .map none]).flatten ++ post11)) :: L11) P19 w := by rw [hP19]; exact H
    have hpart : rdPart 8 v fx dUpdateRaftVoterRequestListener si11 = (.mk 0 [] false [.mk 0 u12 false [] [], .mk 0 u14 false [] [], numT n16] u18, s18) := by
      unfold rdPart rdPartW
      rw [rdAll_yes (df := dfT 8) (rdField8 (by decide) hr12) ⟨by decide, has_all hv⟩, rdAll_yes (df := dfT 8) (rdField8 (by decide) hr14) ⟨by decide, has_all hv⟩, rdAll_yes (df := dfT 8) (rdField5.trans hr16) ⟨by decide, has_all hv⟩]
      simp only [rdAll]
      rw [htg]
    refine ⟨i11 + 1, ⟨rfl, rfl, ?_, rfl, rfl, rfl, rfl, rfl, rfl, trivial⟩, ⟨by omega, ListI.back hgo11 (LoopI.next hes11 hez11 hrn11 hts11 (cur := [str u12, str u14, .int .u16 n16, m18]) (x := .mk 0 [] false [.mk 0 u12 false [] [], .mk 0 u14 false [] [], numT n16] u18) (hpart) rfl (by rw [← hL11]; exact H) fun w hP => ?_)⟩, by omega⟩
    · show some (Value.int .i32 _) = _
      rw [IntKind.wrap_i32]
      simp only [Option.some.injEq, Value.int.injEq, true_and]
      omega
    · skip
      rw [hP19] at hP
      obtain ⟨hf19_, hP⟩ := hP
      rw [hP11] at hP
      exact ⟨QPt (QA1 (QF8 (by decide) u12) (QA1 (QF8 (by decide) u14) (QA1 (QF5 hn16) (QA0)))) hf19_, hP⟩
  have hge11 : ¬ (i11 : Int) < n11 := of_decide_eq_false h9
  obtain ⟨l20, s20, hone20, hl20, hr20, H⟩ := H.done hge11 hln11 (nl := nlF (.mk 11 0 (-1) (-1) (-1) 0 10 dUpdateRaftVoterRequestListener) v) (sz := elZ true 8 10 dUpdateRaftVoterRequestListener) rfl hpL11 rfl
  ((conv=>whnf);repeat(first|(refine mvT ?_;conv=>whnf)|(refine mvF ?_;conv=>whnf)|(refine cT (by rfl) ?_;conv=>whnf)|(refine cF (by rfl) ?_;conv=>whnf)))
  obtain ⟨P21, hP21⟩ : ∃ P : World → Prop, P = fun w => ListR true (elZ true 8 10 dUpdateRaftVoterRequestListener) (elQ true 8 10 dUpdateRaftVoterRequestListener ⟨w, fun k => k ≠ p⟩) w (fun k => k ≠ p) a11 (.mk 0 [] (decide (n11 ≤ 0)) l20 []) ∧ P2 w := ⟨_, rfl⟩
  replace H : St w0 G0 p pb s20 ((p, ty, [] ++ [.int .i16 v, c1, .int .i32 n4, .int .i32 n6, bcell u8_0, bcell u8_1, bcell u8_2, bcell u8_3, bcell u8_4, bcell u8_5, bcell u8_6, bcell u8_7, bcell u8_8, bcell u8_9, bcell u8_10, bcell u8_11, bcell u8_12, bcell u8_13, bcell u8_14, bcell u8_15, .slice none 0 0, .int .i16 0, .int .i16 0, .map none, .map none] ++ []) :: []) P21 w := by rw [hP21]; exact H
  refine H.st1 (v := a11) 20 (cells_one hone20) (hone20) rfl (by simp) rfl (Nat.lt_of_lt_of_le (Nat.lt_succ_self _) (Nat.le_of_ble_eq_true rfl)) ?_
  intro w H
  ((conv=>whnf);repeat(first|(refine mvT ?_;conv=>whnf)|(refine mvF ?_;conv=>whnf)|(refine cT (by rfl) ?_;conv=>whnf)|(refine cF (by rfl) ?_;conv=>whnf)))
  replace H : St w0 G0 p pb s20 ((p, ty, [] ++ [.int .i16 v, c1, .int .i32 n4, .int .i32 n6, bcell u8_0, bcell u8_1, bcell u8_2, bcell u8_3, bcell u8_4, bcell u8_5, bcell u8_6, bcell u8_7, bcell u8_8, bcell u8_9, bcell u8_10, bcell u8_11, bcell u8_12, bcell u8_13, bcell u8_14, bcell u8_15, a11, .int .i16 0, .int .i16 0, .map none, .map none] ++ []) :: []) P21 w := H
  refine Does.mono (dfUpdateRaftVoterRequestKRaftVersionFeature (pre := [] ++ [.int .i16 v, c1, .int .i32 n4, .int .i32 n6, bcell u8_0, bcell u8_1, bcell u8_2, bcell u8_3, bcell u8_4, bcell u8_5, bcell u8_6, bcell u8_7, bcell u8_8, bcell u8_9, bcell u8_10, bcell u8_11, bcell u8_12, bcell u8_13, bcell u8_14, bcell u8_15, a11]) (cur := [.int .i16 0, .int .i16 0, .map none]) (post := [.map none] ++ []) (by have := H.head; simpa using this) (by simp) rfl) ?_
  rintro rd w2 ⟨hdf, hxd⟩
  replace hdf : Own w2 p ty ([] ++ [.int .i16 v, c1, .int .i32 n4, .int .i32 n6, bcell u8_0, bcell u8_1, bcell u8_2, bcell u8_3, bcell u8_4, bcell u8_5, bcell u8_6, bcell u8_7, bcell u8_8, bcell u8_9, bcell u8_10, bcell u8_11, bcell u8_12, bcell u8_13, bcell u8_14, bcell u8_15, a11, .int .i16 0, .int .i16 0, .map none, .map none] ++ []) := by simpa using hdf
  replace H := H.put hdf hxd
  clear hdf hxd
  replace H : St w0 G0 p pb s20 ((p, ty, [] ++ [.int .i16 v, c1, .int .i32 n4, .int .i32 n6, bcell u8_0, bcell u8_1, bcell u8_2, bcell u8_3, bcell u8_4, bcell u8_5, bcell u8_6, bcell u8_7, bcell u8_8, bcell u8_9, bcell u8_10, bcell u8_11, bcell u8_12, bcell u8_13, bcell u8_14, bcell u8_15, a11, .int .i16 0, .int .i16 0, .map none, .map none] ++ []) :: []) P21 w2 := H
  ((conv=>whnf);repeat(first|(refine mvT ?_;conv=>whnf)|(refine mvF ?_;conv=>whnf)|(refine cT (by rfl) ?_;conv=>whnf)|(refine cF (by rfl) ?_;conv=>whnf)))
  refine Does.mono H.int16 ?_
  rintro r w ⟨n24, s24, rfl, hn24, hr24, H⟩
  ((conv=>whnf);repeat(first|(refine mvT ?_;conv=>whnf)|(refine mvF ?_;conv=>whnf)|(refine cT (by rfl) ?_;conv=>whnf)|(refine cF (by rfl) ?_;conv=>whnf)))
  refine H.st1 (v := .int .i16 n24) 21 (rfl) (rfl) rfl (by simp) rfl (Nat.lt_of_lt_of_le (Nat.lt_succ_self _) (Nat.le_of_ble_eq_true rfl)) ?_
  intro w H
  ((conv=>whnf);repeat(first|(refine mvT ?_;conv=>whnf)|(refine mvF ?_;conv=>whnf)|(refine cT (by rfl) ?_;conv=>whnf)|(refine cF (by rfl) ?_;conv=>whnf)))
  replace H : St w0 G0 p pb s24 ((p, ty, [] ++ [.int .i16 v, c1, .int .i32 n4, .int .i32 n6, bcell u8_0, bcell u8_1, bcell u8_2, bcell u8_3, bcell u8_4, bcell u8_5, bcell u8_6, bcell u8_7, bcell u8_8, bcell u8_9, bcell u8_10, bcell u8_11, bcell u8_12, bcell u8_13, bcell u8_14, bcell u8_15, a11, .int .i16 n24, .int .i16 0, .map none, .map none] ++ []) :: []) P21 w := H
  refine Does.mono H.int16 ?_
  rintro r w ⟨n26, s26, rfl, hn26, hr26, H⟩
  ((conv=>whnf);repeat(first|(refine mvT ?_;conv=>whnf)|(refine mvF ?_;conv=>whnf)|(refine cT (by rfl) ?_;conv=>whnf)|(refine cF (by rfl) ?_;conv=>whnf)))
  refine H.st1 (v := .int .i16 n26) 22 (rfl) (rfl) rfl (by simp) rfl (Nat.lt_of_lt_of_le (Nat.lt_succ_self _) (Nat.le_of_ble_eq_true rfl)) ?_
  intro w H
  ((conv=>whnf);repeat(first|(refine mvT ?_;conv=>whnf)|(refine mvF ?_;conv=>whnf)|(refine cT (by rfl) ?_;conv=>whnf)|(refine cF (by rfl) ?_;conv=>whnf)))
  replace H : St w0 G0 p pb s26 ((p, ty, [] ++ [.int .i16 v, c1, .int .i32 n4, .int .i32 n6, bcell u8_0, bcell u8_1, bcell u8_2, bcell u8_3, bcell u8_4, bcell u8_5, bcell u8_6, bcell u8_7, bcell u8_8, bcell u8_9, bcell u8_10, bcell u8_11, bcell u8_12, bcell u8_13, bcell u8_14, bcell u8_15, a11, .int .i16 n24, .int .i16 n26, .map none, .map none] ++ []) :: []) P21 w := H
  (refine mvB ?_;((conv=>whnf);repeat(first|(refine mvT ?_;conv=>whnf)|(refine mvF ?_;conv=>whnf)|(refine cT (by rfl) ?_;conv=>whnf)|(refine cF (by rfl) ?_;conv=>whnf))))
  refine VC.cutE (fun q : Value × List Tg × Rd => [(0, .pointer (some ⟨p, 0, none⟩)), (2, .bool false), (7, .pointer (some ⟨pb, 0, none⟩)), (8, .int .i16 v), (9, .bool fx), (10, .pointer (some ⟨p, 0, none⟩)), (25, .pointer (some ⟨p, 0 + 21, none⟩))]) (fun q w' => rdTagsF fx s26 = q.2 ∧ St w0 G0 p pb q.2.2 ((p, ty, [] ++ [.int .i16 v, c1, .int .i32 n4, .int .i32 n6, bcell u8_0, bcell u8_1, bcell u8_2, bcell u8_3, bcell u8_4, bcell u8_5, bcell u8_6, bcell u8_7, bcell u8_8, bcell u8_9, bcell u8_10, bcell u8_11, bcell u8_12, bcell u8_13, bcell u8_14, bcell u8_15, a11, .int .i16 n24, .int .i16 n26, q.1, .map none] ++ []) :: []) (fun w => TGf p q.1 q.2.1 w ∧ P21 w) w') ?_ ?_
  · refine cI (by rfl) (fun hc=>?_) (fun hc=>?_)
    · ((conv=>whnf);repeat(first|(refine mvT ?_;conv=>whnf)|(refine mvF ?_;conv=>whnf)|(refine cT (by rfl) ?_;conv=>whnf)|(refine cF (by rfl) ?_;conv=>whnf)))
      refine Does.mono H.tags ?_
      rintro r w ⟨m, u, s', rfl, hone, hr, H⟩
      ((conv=>whnf);repeat(first|(refine mvT ?_;conv=>whnf)|(refine mvF ?_;conv=>whnf)|(refine cT (by rfl) ?_;conv=>whnf)|(refine cF (by rfl) ?_;conv=>whnf)))
      refine H.st1 (v := m) 23 (rfl) (hone) rfl (by simp) rfl (Nat.lt_of_lt_of_le (Nat.lt_succ_self _) (Nat.le_of_ble_eq_true rfl)) ?_
      intro w H
      ((conv=>whnf);repeat(first|(refine mvT ?_;conv=>whnf)|(refine mvF ?_;conv=>whnf)|(refine cT (by rfl) ?_;conv=>whnf)|(refine cF (by rfl) ?_;conv=>whnf)))
      exact ⟨(m, u, s'), ⟨rfl, rfl, rfl, rfl, rfl, rfl, rfl, trivial⟩, by rw [rdTagsF, if_pos hc]; exact hr, H⟩
    · ((conv=>whnf);repeat(first|(refine mvT ?_;conv=>whnf)|(refine mvF ?_;conv=>whnf)|(refine cT (by rfl) ?_;conv=>whnf)|(refine cF (by rfl) ?_;conv=>whnf)))
      exact ⟨(.map none, [], s26), ⟨rfl, rfl, rfl, rfl, rfl, rfl, rfl, trivial⟩, by rw [rdTagsF, if_neg (by rw [hc]; decide)], H.add fun w' _ => TagsR.nil _ _⟩
  clear H
  rintro ⟨m28, u28, s28⟩ w ⟨htg, H⟩
  dsimp only at htg H
  ((conv=>whnf);repeat(first|(refine mvT ?_;conv=>whnf)|(refine mvF ?_;conv=>whnf)|(refine cT (by rfl) ?_;conv=>whnf)|(refine cF (by rfl) ?_;conv=>whnf)))
  obtain ⟨P29, hP29⟩ : ∃ P : World → Prop, P = fun w => TGf p m28 u28 w ∧ P21 w := ⟨_, rfl⟩
  replace H : St w0 G0 p pb s28 ((p, ty, [] ++ [.int .i16 v, c1, .int .i32 n4, .int .i32 n6, bcell u8_0, bcell u8_1, bcell u8_2, bcell u8_3, bcell u8_4, bcell u8_5, bcell u8_6, bcell u8_7, bcell u8_8, bcell u8_9, bcell u8_10, bcell u8_11, bcell u8_12, bcell u8_13, bcell u8_14, bcell u8_15, a11, .int .i16 n24, .int .i16 n26, m28, .map none] ++ []) :: []) P29 w := by rw [hP29]; exact H
  have hpart : rdPart 8 v fx dUpdateRaftVoterRequestKRaftVersionFeature s20 = (.mk 0 [] false [numT n24, numT n26] u28, s28) := by
    unfold rdPart rdPartW
    rw [rdAll_yes (df := dfT 8) (rdField2.trans hr24) ⟨by decide, has_all hv⟩, rdAll_yes (df := dfT 8) (rdField2.trans hr26) ⟨by decide, has_all hv⟩]
    simp only [rdAll]
    rw [htg]
  have hpi23 := hpart
  clear hpart
  (refine mvB ?_;((conv=>whnf);repeat(first|(refine mvT ?_;conv=>whnf)|(refine mvF ?_;conv=>whnf)|(refine cT (by rfl) ?_;conv=>whnf)|(refine cF (by rfl) ?_;conv=>whnf))))
  refine VC.cutE (fun q : Value × List Tg × Rd => [(0, .pointer (some ⟨p, 0, none⟩)), (2, .bool false), (7, .pointer (some ⟨pb, 0, none⟩)), (8, .int .i16 v), (9, .bool fx), (10, .pointer (some ⟨p, 0, none⟩))]) (fun q w' => rdTagsF fx s28 = q.2 ∧ St w0 G0 p pb q.2.2 ((p, ty, [] ++ [.int .i16 v, c1, .int .i32 n4, .int .i32 n6, bcell u8_0, bcell u8_1, bcell u8_2, bcell u8_3, bcell u8_4, bcell u8_5, bcell u8_6, bcell u8_7, bcell u8_8, bcell u8_9, bcell u8_10, bcell u8_11, bcell u8_12, bcell u8_13, bcell u8_14, bcell u8_15, a11, .int .i16 n24, .int .i16 n26, m28, q.1] ++ []) :: []) (fun w => TGf p q.1 q.2.1 w ∧ P29 w) w') ?_ ?_
  · refine cI (by rfl) (fun hc=>?_) (fun hc=>?_)
    · ((conv=>whnf);repeat(first|(refine mvT ?_;conv=>whnf)|(refine mvF ?_;conv=>whnf)|(refine cT (by rfl) ?_;conv=>whnf)|(refine cF (by rfl) ?_;conv=>whnf)))
      refine Does.mono H.tags ?_
      rintro r w ⟨m, u, s', rfl, hone, hr, H⟩
      ((conv=>whnf);repeat(first|(refine mvT ?_;conv=>whnf)|(refine mvF ?_;conv=>whnf)|(refine cT (by rfl) ?_;conv=>whnf)|(refine cF (by rfl) ?_;conv=>whnf)))
      refine H.st1 (v := m) 24 (rfl) (hone) rfl (by simp) rfl (Nat.lt_of_lt_of_le (Nat.lt_succ_self _) (Nat.le_of_ble_eq_true rfl)) ?_
      intro w H
      ((conv=>whnf);repeat(first|(refine mvT ?_;conv=>whnf)|(refine mvF ?_;conv=>whnf)|(refine cT (by rfl) ?_;conv=>whnf)|(refine cF (by rfl) ?_;conv=>whnf)))
      exact ⟨(m, u, s'), ⟨rfl, rfl, rfl, rfl, rfl, rfl, trivial⟩, by rw [rdTagsF, if_pos hc]; exact hr, H⟩
    · ((conv=>whnf);repeat(first|(refine mvT ?_;conv=>whnf)|(refine mvF ?_;conv=>whnf)|(refine cT (by rfl) ?_;conv=>whnf)|(refine cF (by rfl) ?_;conv=>whnf)))
      exact ⟨(.map none, [], s28), ⟨rfl, rfl, rfl, rfl, rfl, rfl, trivial⟩, by rw [rdTagsF, if_neg (by rw [hc]; decide)], H.add fun w' _ => TagsR.nil _ _⟩
  clear H
  rintro ⟨m30, u30, s30⟩ w ⟨htg, H⟩
  dsimp only at htg H
  ((conv=>whnf);repeat(first|(refine mvT ?_;conv=>whnf)|(refine mvF ?_;conv=>whnf)|(refine cT (by rfl) ?_;conv=>whnf)|(refine cF (by rfl) ?_;conv=>whnf)))
  obtain ⟨P31, hP31⟩ : ∃ P : World → Prop, P = fun w => TGf p m30 u30 w ∧ P29 w := ⟨_, rfl⟩
  replace H : St w0 G0 p pb s30 ((p, ty, [] ++ [.int .i16 v, c1, .int .i32 n4, .int .i32 n6, bcell u8_0, bcell u8_1, bcell u8_2, bcell u8_3, bcell u8_4, bcell u8_5, bcell u8_6, bcell u8_7, bcell u8_8, bcell u8_9, bcell u8_10, bcell u8_11, bcell u8_12, bcell u8_13, bcell u8_14, bcell u8_15, a11, .int .i16 n24, .int .i16 n26, m28, m30] ++ []) :: []) P31 w := by rw [hP31]; exact H
  have hpart : rdPart 9 v fx dUpdateRaftVoterRequest (l, false) = (.mk 0 [] false [.mk 0 u1 nl1 [] [], numT n4, numT n6, .mk 0 [u8_0, u8_1, u8_2, u8_3, u8_4, u8_5, u8_6, u8_7, u8_8, u8_9, u8_10, u8_11, u8_12, u8_13, u8_14, u8_15] false [] [], .mk 0 [] (decide (n11 ≤ 0)) l20 [], .mk 0 [] false [numT n24, numT n26] u28] u30, s30) := by
    unfold rdPart rdPartW
    rw [rdAll_yes (df := dfT 9) ((rdField8n (by decide)).trans hr1) ⟨by decide, has_all hv⟩, rdAll_yes (df := dfT 9) (rdField3.trans hr4) ⟨by decide, has_all hv⟩, rdAll_yes (df := dfT 9) (rdField3.trans hr6) ⟨by decide, has_all hv⟩, rdAll_yes (df := dfT 9) (rdField7.trans hr8) ⟨by decide, has_all hv⟩, rdAll_yes (df := dfT 9) ((rdField_list _ _ _ _ _ _ _ _ _ _ _).trans hr20) ⟨by decide, has_all hv⟩, rdAll_yes (df := dfT 9) ((rdField10 : rdField 9 v fx (.mk 10 0 (-1) (-1) (-1) 0 0 dUpdateRaftVoterRequestKRaftVersionFeature) _ = _).trans hpi23) ⟨by decide, has_all hv⟩]
    simp only [rdAll]
    rw [htg]
  refine Does.mono (H.done hL hp1) ?_
  rintro r w ⟨rfl, H⟩
  ((conv=>whnf);repeat(first|(refine mvT ?_;conv=>whnf)|(refine mvF ?_;conv=>whnf)|(refine cT (by rfl) ?_;conv=>whnf)|(refine cF (by rfl) ?_;conv=>whnf)))
  refine RdPost.end hpart H fun hP => ?_
  rw [hP31] at hP
  obtain ⟨hf31_, hP⟩ := hP
  rw [hP29] at hP
  obtain ⟨hf29_, hP⟩ := hP
  rw [hP21] at hP
  obtain ⟨hf21_, hP⟩ := hP
  rw [hP2] at hP
  obtain ⟨hf2_, hP⟩ := hP
  exact QPt (QA1 (QF8n (by decide) hnl1 hf2_) (QA1 (QF3 hn4) (QA1 (QF3 hn6) (QA1 (QF7 (u := [u8_0, u8_1, u8_2, u8_3, u8_4, u8_5, u8_6, u8_7, u8_8, u8_9, u8_10, u8_11, u8_12, u8_13, u8_14, u8_15]) rfl) (QA1 (QF11 hl20 hf21_) (QA1 (QF10 (QPt (QA1 (QF2 hn24) (QA1 (QF2 hn26) (QA0))) hf29_)) (QA0))))))) hf31_
end Go.Proofs.YtanohglljnajiaaGreatDoor.K
