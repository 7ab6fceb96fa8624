
/- Reading of ConsumerGroupHeartbeatRequest. -/
import Derived.Test.YtmmieooipcfbiabDoorRE5
set_option linter.unusedVariables false
set_option linter.unusedSimpArgs false
namespace Go.Proofs.YtmmieooipcfbiabDoorR.K
open Go
set_option maxHeartbeats 4000000
set_option maxRecDepth 100000

abbrev dConsumerGroupHeartbeatRequestTopic : List Fd := [.mk 7 0 (-1) (-1) (-1) 0 0 [], .mk 11 0 (-1) (-1) (-1) 0 3 []]
abbrev dConsumerGroupHeartbeatRequest : List Fd := [.mk 8 0 (-1) (-1) (-1) 0 0 [], .mk 8 0 (-1) (-1) (-1) 0 0 [], .mk 3 0 (-1) (-1) (-1) 0 0 [], .mk 8 0 (-1) 0 (-1) 0 0 [], .mk 8 0 (-1) 0 (-1) 0 0 [], .mk 3 0 (-1) (-1) (-1) (-1) 0 [], .mk 11 0 (-1) 0 (-1) 0 8 [], .mk 8 1 (-1) 1 (-1) 0 0 [], .mk 8 0 (-1) 0 (-1) 0 0 [], .mk 11 0 (-1) 0 (-1) 0 10 dConsumerGroupHeartbeatRequestTopic]
theorem dfConsumerGroupHeartbeatRequestTopic {w : World} {q o : Nat} {T : TypeId} {pre cur post : List Value} (ho : Own w q T (pre ++ cur ++ post)) (hp : pre.length = o) (hl : cur.length = 18) :
    Does X.P 86 #[.pointer (some ⟨q, o, none⟩)] w fun r w' => Own w' q T (pre ++ cur ++ post) ∧ Ext (fun k => k = q) w w' := by
  have hx : Ext (fun k => k = q) w w := Ext.refl _ _
  refine Does.go (X := X) (l := [_]) Tryd.func86 rfl (by kernel_rfl) (by kernel_rfl) _ rfl ?_
  ((conv=>whnf);repeat(first|(refine mvT ?_;conv=>whnf)|(refine mvF ?_;conv=>whnf)|(refine cT (by rfl) ?_;conv=>whnf)|(refine cF (by rfl) ?_;conv=>whnf)))
  exact ⟨ho, hx⟩
theorem dfConsumerGroupHeartbeatRequest {w : World} {q o : Nat} {T : TypeId} {pre cur post : List Value} (ho : Own w q T (pre ++ cur ++ post)) (hp : pre.length = o) (hl : cur.length = 12) :
    Does X.P 59 #[.pointer (some ⟨q, o, none⟩)] w fun r w' => Own w' q T (pre ++ (cur.set 6 (.int .i32 (-1))) ++ post) ∧ Ext (fun k => k = q) w w' := by
  have hx : Ext (fun k => k = q) w w := Ext.refl _ _
  refine Does.go (X := X) (l := [_]) Tryd.func59 rfl (by kernel_rfl) (by kernel_rfl) _ rfl ?_
  ((conv=>whnf);repeat(first|(refine mvT ?_;conv=>whnf)|(refine mvF ?_;conv=>whnf)|(refine cT (by rfl) ?_;conv=>whnf)|(refine cF (by rfl) ?_;conv=>whnf)))
  refine stm ho 6 rfl rfl hp (by omega) rfl (by first | omega | (simp only [List.length_set]; omega)) ?_
  intro w0 ho hxd
  have hx := hx.trans hxd fun _ _ h => h
  ((conv=>whnf);repeat(first|(refine mvT ?_;conv=>whnf)|(refine mvF ?_;conv=>whnf)|(refine cT (by rfl) ?_;conv=>whnf)|(refine cF (by rfl) ?_;conv=>whnf)))
  exact ⟨ho, hx⟩
theorem readConsumerGroupHeartbeatRequest {w0 : World} {F : Nat → Prop} {p : Nat} {ty : TypeId} {v : Int} {x ev : Value} {l : List UInt8} (hL : Laid w0 ev) (hp : Own w0 p ty [.int .i16 v, str [], str [], .int .i32 0, .pointer none, .pointer none, .int .i32 (-1), .slice none 0 0, .pointer none, .pointer none, .slice none 0 0, .map none]) (hx : Bytes w0 F x l) (hF : ∀ k, F k → k ≠ p) (hv : 0 ≤ v) (hp1 : p ≠ errG) :
    Does X.P 60 #[.pointer (some ⟨p, 0, none⟩), x, .bool false] w0 fun r w' => RdPost w0 p ty v (decide (v ≥ 0)) true dConsumerGroupHeartbeatRequest ev l r w' := by
  have hpl := hp.lt
  obtain ⟨fx, hfx⟩ : ∃ fx, fx = decide (v ≥ 0) := ⟨_, rfl⟩
  rw [← hfx]
  obtain ⟨G0, hG0, hx⟩ : ∃ G0 : Nat → Prop, (∀ k, G0 k → k < w0.heap.size ∧ k ≠ p) ∧ Bytes w0 G0 x l := ⟨fun k => F k ∧ k < w0.heap.size, fun k h => ⟨h.2, hF k h.1⟩, Sl.mono hx fun k hk h => ⟨h, hk⟩⟩
  obtain ⟨a0, c0, rfl, _⟩ := hx.view
  refine Does.go (X := X) (l := [_, _, _]) Tryd.func60 rfl (by kernel_rfl) (by kernel_rfl) _ rfl ?_
  ((conv=>whnf);repeat(first|(refine mvT ?_;conv=>whnf)|(refine mvF ?_;conv=>whnf)|(refine cT (by rfl) ?_;conv=>whnf)|(refine cF (by rfl) ?_;conv=>whnf)))
  refine Does.mono (dfConsumerGroupHeartbeatRequest (pre := []) (cur := [.int .i16 v, str [], str [], .int .i32 0, .pointer none, .pointer none, .int .i32 (-1), .slice none 0 0, .pointer none, .pointer none, .slice none 0 0, .map none]) (post := []) (by simpa using hp) rfl rfl) ?_
  rintro rd wd ⟨hpd, hxd⟩
  ((conv=>whnf);repeat(first|(refine mvT ?_;conv=>whnf)|(refine mvF ?_;conv=>whnf)|(refine cT (by rfl) ?_;conv=>whnf)|(refine cF (by rfl) ?_;conv=>whnf)))
  intro pb w1 hpb hb hx1
  ((conv=>whnf);repeat(first|(refine mvT ?_;conv=>whnf)|(refine mvF ?_;conv=>whnf)|(refine cT (by rfl) ?_;conv=>whnf)|(refine cF (by rfl) ?_;conv=>whnf)))
  refine st_all [.slice a0 l.length c0, .bool false] hb rfl rfl rfl ?_
  intro w hb hx2
  ((conv=>whnf);repeat(first|(refine mvT ?_;conv=>whnf)|(refine mvF ?_;conv=>whnf)|(refine cT (by rfl) ?_;conv=>whnf)|(refine cF (by rfl) ?_;conv=>whnf)))
  have hsd := hxd.size
  have hwp : w0.heap.size ≤ pb := by omega
  have he1 : Ext nob wd w := hx1.trans hx2 fun k hk h => by omega
  have hpw : Own w p ty [.int .i16 v, str [], str [], .int .i32 0, .pointer none, .pointer none, .int .i32 (-1), .slice none 0 0, .pointer none, .pointer none, .slice none 0 0, .map none] := by have := hpd.e0 he1; simpa using this
  have he := hxd.tr0 he1
  have H := St.init hpw hb (hx.ext he fun k _ h => (hG0 k h).2) hG0 he hpl hwp
  clear hpd hxd hx1 hx2 hb hpw he1 hp
  refine ldS (H.cell (o := 0) rfl (k := 0) rfl) ?_;((conv=>whnf);repeat(first|(refine mvT ?_;conv=>whnf)|(refine mvF ?_;conv=>whnf)|(refine cT (by rfl) ?_;conv=>whnf)|(refine cF (by rfl) ?_;conv=>whnf)))
  rw [← hfx]
  (refine mvB ?_;((conv=>whnf);repeat(first|(refine mvT ?_;conv=>whnf)|(refine mvF ?_;conv=>whnf)|(refine cT (by rfl) ?_;conv=>whnf)|(refine cF (by rfl) ?_;conv=>whnf))))
  have hup0 : tailBad 9 v fx dConsumerGroupHeartbeatRequest (l, false) = true → (rdPart 9 v fx dConsumerGroupHeartbeatRequest (l, false)).2.2 = true := id
  (refine mvB ?_;((conv=>whnf);repeat(first|(refine mvT ?_;conv=>whnf)|(refine mvF ?_;conv=>whnf)|(refine cT (by rfl) ?_;conv=>whnf)|(refine cF (by rfl) ?_;conv=>whnf))))
  refine VC.cutE (fun q : List UInt8 × Rd => [(11, str q.1), (0, .pointer (some ⟨p, 0, none⟩)), (2, .bool false), (7, .pointer (some ⟨pb, 0, none⟩)), (8, .int .i16 v), (9, .bool fx), (10, .pointer (some ⟨p, 0, none⟩))]) (fun q w' => rdTx fx (l, false) = q ∧ St w0 G0 p pb q.2 ((p, ty, [] ++ [.int .i16 v, str [], str [], .int .i32 0, .pointer none, .pointer none, .int .i32 (-1), .slice none 0 0, .pointer none, .pointer none, .slice none 0 0, .map none] ++ []) :: []) (fun _ => True) w') ?_ ?_
  · refine cI (by rfl) (fun hc=>?_) (fun hc=>?_)
    · ((conv=>whnf);repeat(first|(refine mvT ?_;conv=>whnf)|(refine mvF ?_;conv=>whnf)|(refine cT (by rfl) ?_;conv=>whnf)|(refine cF (by rfl) ?_;conv=>whnf)))
      refine Does.mono H.txc ?_
      rintro r w ⟨u, s', rfl, hr, H⟩
      ((conv=>whnf);repeat(first|(refine mvT ?_;conv=>whnf)|(refine mvF ?_;conv=>whnf)|(refine cT (by rfl) ?_;conv=>whnf)|(refine cF (by rfl) ?_;conv=>whnf)))
      exact ⟨(u, s'), ⟨rfl, rfl, rfl, rfl, rfl, rfl, rfl, trivial⟩, by rw [hc]; exact hr, H⟩
    · ((conv=>whnf);repeat(first|(refine mvT ?_;conv=>whnf)|(refine mvF ?_;conv=>whnf)|(refine cT (by rfl) ?_;conv=>whnf)|(refine cF (by rfl) ?_;conv=>whnf)))
      refine Does.mono H.txp ?_
      rintro r w ⟨u, s', rfl, hr, H⟩
      ((conv=>whnf);repeat(first|(refine mvT ?_;conv=>whnf)|(refine mvF ?_;conv=>whnf)|(refine cT (by rfl) ?_;conv=>whnf)|(refine cF (by rfl) ?_;conv=>whnf)))
      exact ⟨(u, s'), ⟨rfl, rfl, rfl, rfl, rfl, rfl, rfl, trivial⟩, by rw [hc]; exact hr, H⟩
  clear H
  rintro ⟨u1, s1⟩ w ⟨hr1, H⟩
  dsimp only at hr1 H
  ((conv=>whnf);repeat(first|(refine mvT ?_;conv=>whnf)|(refine mvF ?_;conv=>whnf)|(refine cT (by rfl) ?_;conv=>whnf)|(refine cF (by rfl) ?_;conv=>whnf)))
  refine H.st1 (v := str u1) 1 (rfl) (rfl) rfl (by simp) rfl (Nat.lt_of_lt_of_le (Nat.lt_succ_self _) (Nat.le_of_ble_eq_true rfl)) ?_
  intro w H
  ((conv=>whnf);repeat(first|(refine mvT ?_;conv=>whnf)|(refine mvF ?_;conv=>whnf)|(refine cT (by rfl) ?_;conv=>whnf)|(refine cF (by rfl) ?_;conv=>whnf)))
  replace H : St w0 G0 p pb s1 ((p, ty, [] ++ [.int .i16 v, str u1, str [], .int .i32 0, .pointer none, .pointer none, .int .i32 (-1), .slice none 0 0, .pointer none, .pointer none, .slice none 0 0, .map none] ++ []) :: []) (fun _ => True) w := H
  (refine mvB ?_;((conv=>whnf);repeat(first|(refine mvT ?_;conv=>whnf)|(refine mvF ?_;conv=>whnf)|(refine cT (by rfl) ?_;conv=>whnf)|(refine cF (by rfl) ?_;conv=>whnf))))
  refine VC.cutE (fun q : List UInt8 × Rd => [(12, str q.1), (0, .pointer (some ⟨p, 0, none⟩)), (2, .bool false), (7, .pointer (some ⟨pb, 0, none⟩)), (8, .int .i16 v), (9, .bool fx), (10, .pointer (some ⟨p, 0, none⟩))]) (fun q w' => rdTx fx s1 = q ∧ St w0 G0 p pb q.2 ((p, ty, [] ++ [.int .i16 v, str u1, str [], .int .i32 0, .pointer none, .pointer none, .int .i32 (-1), .slice none 0 0, .pointer none, .pointer none, .slice none 0 0, .map none] ++ []) :: []) (fun _ => True) w') ?_ ?_
  · refine cI (by rfl) (fun hc=>?_) (fun hc=>?_)
    · ((conv=>whnf);repeat(first|(refine mvT ?_;conv=>whnf)|(refine mvF ?_;conv=>whnf)|(refine cT (by rfl) ?_;conv=>whnf)|(refine cF (by rfl) ?_;conv=>whnf)))
      refine Does.mono H.txc ?_
      rintro r w ⟨u, s', rfl, hr, H⟩
      ((conv=>whnf);repeat(first|(refine mvT ?_;conv=>whnf)|(refine mvF ?_;conv=>whnf)|(refine cT (by rfl) ?_;conv=>whnf)|(refine cF (by rfl) ?_;conv=>whnf)))
      exact ⟨(u, s'), ⟨rfl, rfl, rfl, rfl, rfl, rfl, rfl, trivial⟩, by rw [hc]; exact hr, H⟩
    · ((conv=>whnf);repeat(first|(refine mvT ?_;conv=>whnf)|(refine mvF ?_;conv=>whnf)|(refine cT (by rfl) ?_;conv=>whnf)|(refine cF (by rfl) ?_;conv=>whnf)))
      refine Does.mono H.txp ?_
      rintro r w ⟨u, s', rfl, hr, H⟩
      ((conv=>whnf);repeat(first|(refine mvT ?_;conv=>whnf)|(refine mvF ?_;conv=>whnf)|(refine cT (by rfl) ?_;conv=>whnf)|(refine cF (by rfl) ?_;conv=>whnf)))
      exact ⟨(u, s'), ⟨rfl, rfl, rfl, rfl, rfl, rfl, rfl, trivial⟩, by rw [hc]; exact hr, H⟩
  clear H
  rintro ⟨u3, s3⟩ w ⟨hr3, H⟩
  dsimp only at hr3 H
  ((conv=>whnf);repeat(first|(refine mvT ?_;conv=>whnf)|(refine mvF ?_;conv=>whnf)|(refine cT (by rfl) ?_;conv=>whnf)|(refine cF (by rfl) ?_;conv=>whnf)))
  refine H.st1 (v := str u3) 2 (rfl) (rfl) rfl (by simp) rfl (Nat.lt_of_lt_of_le (Nat.lt_succ_self _) (Nat.le_of_ble_eq_true rfl)) ?_
  intro w H
  ((conv=>whnf);repeat(first|(refine mvT ?_;conv=>whnf)|(refine mvF ?_;conv=>whnf)|(refine cT (by rfl) ?_;conv=>whnf)|(refine cF (by rfl) ?_;conv=>whnf)))
  replace H : St w0 G0 p pb s3 ((p, ty, [] ++ [.int .i16 v, str u1, str u3, .int .i32 0, .pointer none, .pointer none, .int .i32 (-1), .slice none 0 0, .pointer none, .pointer none, .slice none 0 0, .map none] ++ []) :: []) (fun _ => True) w := H
  refine Does.mono H.int32 ?_
  rintro r w ⟨n5, s5, rfl, hn5, hr5, H⟩
  ((conv=>whnf);repeat(first|(refine mvT ?_;conv=>whnf)|(refine mvF ?_;conv=>whnf)|(refine cT (by rfl) ?_;conv=>whnf)|(refine cF (by rfl) ?_;conv=>whnf)))
  refine H.st1 (v := .int .i32 n5) 3 (rfl) (rfl) rfl (by simp) rfl (Nat.lt_of_lt_of_le (Nat.lt_succ_self _) (Nat.le_of_ble_eq_true rfl)) ?_
  intro w H
  ((conv=>whnf);repeat(first|(refine mvT ?_;conv=>whnf)|(refine mvF ?_;conv=>whnf)|(refine cT (by rfl) ?_;conv=>whnf)|(refine cF (by rfl) ?_;conv=>whnf)))
  replace H : St w0 G0 p pb s5 ((p, ty, [] ++ [.int .i16 v, str u1, str u3, .int .i32 n5, .pointer none, .pointer none, .int .i32 (-1), .slice none 0 0, .pointer none, .pointer none, .slice none 0 0, .map none] ++ []) :: []) (fun _ => True) w := H
  (refine mvB ?_;((conv=>whnf);repeat(first|(refine mvT ?_;conv=>whnf)|(refine mvF ?_;conv=>whnf)|(refine cT (by rfl) ?_;conv=>whnf)|(refine cF (by rfl) ?_;conv=>whnf))))
  refine VC.cutE (fun q : Value × Bool × List UInt8 × Rd => [(14, q.1), (0, .pointer (some ⟨p, 0, none⟩)), (2, .bool false), (7, .pointer (some ⟨pb, 0, none⟩)), (8, .int .i16 v), (9, .bool fx), (10, .pointer (some ⟨p, 0, none⟩))]) (fun q w' => q.1.oneCell' = true ∧ (q.2.1 = true → q.2.2.1 = []) ∧ rdNt fx s5 = (.mk 0 q.2.2.1 q.2.1 [] [], q.2.2.2) ∧ St w0 G0 p pb q.2.2.2 ((p, ty, [] ++ [.int .i16 v, str u1, str u3, .int .i32 n5, .pointer none, .pointer none, .int .i32 (-1), .slice none 0 0, .pointer none, .pointer none, .slice none 0 0, .map none] ++ []) :: []) (fun w => NTf p q.1 (.mk 0 q.2.2.1 q.2.1 [] []) w ∧ (fun _ => True) w) w') ?_ ?_
  · refine cI (by rfl) (fun hc=>?_) (fun hc=>?_)
    · ((conv=>whnf);repeat(first|(refine mvT ?_;conv=>whnf)|(refine mvF ?_;conv=>whnf)|(refine cT (by rfl) ?_;conv=>whnf)|(refine cF (by rfl) ?_;conv=>whnf)))
      refine Does.mono H.ntc ?_
      rintro r w ⟨c, nl, u, s', rfl, hone, hnl, hr, H⟩
      ((conv=>whnf);repeat(first|(refine mvT ?_;conv=>whnf)|(refine mvF ?_;conv=>whnf)|(refine cT (by rfl) ?_;conv=>whnf)|(refine cF (by rfl) ?_;conv=>whnf)))
      exact ⟨(r, nl, u, s'), ⟨rfl, rfl, rfl, rfl, rfl, rfl, rfl, trivial⟩, hone, hnl, by rw [hc]; exact hr, H⟩
    · ((conv=>whnf);repeat(first|(refine mvT ?_;conv=>whnf)|(refine mvF ?_;conv=>whnf)|(refine cT (by rfl) ?_;conv=>whnf)|(refine cF (by rfl) ?_;conv=>whnf)))
      refine Does.mono H.ntp ?_
      rintro r w ⟨c, nl, u, s', rfl, hone, hnl, hr, H⟩
      ((conv=>whnf);repeat(first|(refine mvT ?_;conv=>whnf)|(refine mvF ?_;conv=>whnf)|(refine cT (by rfl) ?_;conv=>whnf)|(refine cF (by rfl) ?_;conv=>whnf)))
      exact ⟨(r, nl, u, s'), ⟨rfl, rfl, rfl, rfl, rfl, rfl, rfl, trivial⟩, hone, hnl, by rw [hc]; exact hr, H⟩
  clear H
  rintro ⟨c7, nl7, u7, s7⟩ w ⟨hone7, hnl7, hr7, H⟩
  dsimp only at hone7 hnl7 hr7 H
  ((conv=>whnf);repeat(first|(refine mvT ?_;conv=>whnf)|(refine mvF ?_;conv=>whnf)|(refine cT (by rfl) ?_;conv=>whnf)|(refine cF (by rfl) ?_;conv=>whnf)))
  obtain ⟨P8, hP8⟩ : ∃ P : World → Prop, P = fun w => NTf p c7 (.mk 0 u7 nl7 [] []) w ∧ (fun _ => True) w := ⟨_, rfl⟩
  replace H : St w0 G0 p pb s7 ((p, ty, [] ++ [.int .i16 v, str u1, str u3, .int .i32 n5, .pointer none, .pointer none, .int .i32 (-1), .slice none 0 0, .pointer none, .pointer none, .slice none 0 0, .map none] ++ []) :: []) P8 w := by rw [hP8]; exact H
  refine H.st1 (v := c7) 4 (cells_one hone7) (hone7) rfl (by simp) rfl (Nat.lt_of_lt_of_le (Nat.lt_succ_self _) (Nat.le_of_ble_eq_true rfl)) ?_
  intro w H
  ((conv=>whnf);repeat(first|(refine mvT ?_;conv=>whnf)|(refine mvF ?_;conv=>whnf)|(refine cT (by rfl) ?_;conv=>whnf)|(refine cF (by rfl) ?_;conv=>whnf)))
  replace H : St w0 G0 p pb s7 ((p, ty, [] ++ [.int .i16 v, str u1, str u3, .int .i32 n5, c7, .pointer none, .int .i32 (-1), .slice none 0 0, .pointer none, .pointer none, .slice none 0 0, .map none] ++ []) :: []) P8 w := H
  (refine mvB ?_;((conv=>whnf);repeat(first|(refine mvT ?_;conv=>whnf)|(refine mvF ?_;conv=>whnf)|(refine cT (by rfl) ?_;conv=>whnf)|(refine cF (by rfl) ?_;conv=>whnf))))
  refine VC.cutE (fun q : Value × Bool × List UInt8 × Rd => [(15, q.1), (0, .pointer (some ⟨p, 0, none⟩)), (2, .bool false), (7, .pointer (some ⟨pb, 0, none⟩)), (8, .int .i16 v), (9, .bool fx), (10, .pointer (some ⟨p, 0, none⟩))]) (fun q w' => q.1.oneCell' = true ∧ (q.2.1 = true → q.2.2.1 = []) ∧ rdNt fx s7 = (.mk 0 q.2.2.1 q.2.1 [] [], q.2.2.2) ∧ St w0 G0 p pb q.2.2.2 ((p, ty, [] ++ [.int .i16 v, str u1, str u3, .int .i32 n5, c7, .pointer none, .int .i32 (-1), .slice none 0 0, .pointer none, .pointer none, .slice none 0 0, .map none] ++ []) :: []) (fun w => NTf p q.1 (.mk 0 q.2.2.1 q.2.1 [] []) w ∧ P8 w) w') ?_ ?_
  · refine cI (by rfl) (fun hc=>?_) (fun hc=>?_)
    · ((conv=>whnf);repeat(first|(refine mvT ?_;conv=>whnf)|(refine mvF ?_;conv=>whnf)|(refine cT (by rfl) ?_;conv=>whnf)|(refine cF (by rfl) ?_;conv=>whnf)))
      refine Does.mono H.ntc ?_
      rintro r w ⟨c, nl, u, s', rfl, hone, hnl, hr, H⟩
      ((conv=>whnf);repeat(first|(refine mvT ?_;conv=>whnf)|(refine mvF ?_;conv=>whnf)|(refine cT (by rfl) ?_;conv=>whnf)|(refine cF (by rfl) ?_;conv=>whnf)))
      exact ⟨(r, nl, u, s'), ⟨rfl, rfl, rfl, rfl, rfl, rfl, rfl, trivial⟩, hone, hnl, by rw [hc]; exact hr, H⟩
    · ((conv=>whnf);repeat(first|(refine mvT ?_;conv=>whnf)|(refine mvF ?_;conv=>whnf)|(refine cT (by rfl) ?_;conv=>whnf)|(refine cF (by rfl) ?_;conv=>whnf)))
      refine Does.mono H.ntp ?_
      rintro r w ⟨c, nl, u, s', rfl, hone, hnl, hr, H⟩
      ((conv=>whnf);repeat(first|(refine mvT ?_;conv=>whnf)|(refine mvF ?_;conv=>whnf)|(refine cT (by rfl) ?_;conv=>whnf)|(refine cF (by rfl) ?_;conv=>whnf)))
      exact ⟨(r, nl, u, s'), ⟨rfl, rfl, rfl, rfl, rfl, rfl, rfl, trivial⟩, hone, hnl, by rw [hc]; exact hr, H⟩
  clear H
  rintro ⟨c10, nl10, u10, s10⟩ w ⟨hone10, hnl10, hr10, H⟩
  dsimp only at hone10 hnl10 hr10 H
  ((conv=>whnf);repeat(first|(refine mvT ?_;conv=>whnf)|(refine mvF ?_;conv=>whnf)|(refine cT (by rfl) ?_;conv=>whnf)|(refine cF (by rfl) ?_;conv=>whnf)))
  obtain ⟨P11, hP11⟩ : ∃ P : World → Prop, P = fun w => NTf p c10 (.mk 0 u10 nl10 [] []) w ∧ P8 w := ⟨_, rfl⟩
  replace H : St w0 G0 p pb s10 ((p, ty, [] ++ [.int .i16 v, str u1, str u3, .int .i32 n5, c7, .pointer none, .int .i32 (-1), .slice none 0 0, .pointer none, .pointer none, .slice none 0 0, .map none] ++ []) :: []) P11 w := by rw [hP11]; exact H
  refine H.st1 (v := c10) 5 (cells_one hone10) (hone10) rfl (by simp) rfl (Nat.lt_of_lt_of_le (Nat.lt_succ_self _) (Nat.le_of_ble_eq_true rfl)) ?_
  intro w H
  ((conv=>whnf);repeat(first|(refine mvT ?_;conv=>whnf)|(refine mvF ?_;conv=>whnf)|(refine cT (by rfl) ?_;conv=>whnf)|(refine cF (by rfl) ?_;conv=>whnf)))
  replace H : St w0 G0 p pb s10 ((p, ty, [] ++ [.int .i16 v, str u1, str u3, .int .i32 n5, c7, c10, .int .i32 (-1), .slice none 0 0, .pointer none, .pointer none, .slice none 0 0, .map none] ++ []) :: []) P11 w := H
  refine Does.mono H.int32 ?_
  rintro r w ⟨n13, s13, rfl, hn13, hr13, H⟩
  ((conv=>whnf);repeat(first|(refine mvT ?_;conv=>whnf)|(refine mvF ?_;conv=>whnf)|(refine cT (by rfl) ?_;conv=>whnf)|(refine cF (by rfl) ?_;conv=>whnf)))
  refine H.st1 (v := .int .i32 n13) 6 (rfl) (rfl) rfl (by simp) rfl (Nat.lt_of_lt_of_le (Nat.lt_succ_self _) (Nat.le_of_ble_eq_true rfl)) ?_
  intro w H
  ((conv=>whnf);repeat(first|(refine mvT ?_;conv=>whnf)|(refine mvF ?_;conv=>whnf)|(refine cT (by rfl) ?_;conv=>whnf)|(refine cF (by rfl) ?_;conv=>whnf)))
  replace H : St w0 G0 p pb s13 ((p, ty, [] ++ [.int .i16 v, str u1, str u3, .int .i32 n5, c7, c10, .int .i32 n13, .slice none 0 0, .pointer none, .pointer none, .slice none 0 0, .map none] ++ []) :: []) P11 w := H
  refine ldS (H.cell (o := 0) rfl (k := 7) rfl) ?_;((conv=>whnf);repeat(first|(refine mvT ?_;conv=>whnf)|(refine mvF ?_;conv=>whnf)|(refine cT (by rfl) ?_;conv=>whnf)|(refine cF (by rfl) ?_;conv=>whnf)))
  (refine mvB ?_;((conv=>whnf);repeat(first|(refine mvT ?_;conv=>whnf)|(refine mvF ?_;conv=>whnf)|(refine cT (by rfl) ?_;conv=>whnf)|(refine cF (by rfl) ?_;conv=>whnf))))
  refine VC.cutE (fun q : Int × Rd => [(19, .int .i32 q.1), (18, .slice none 0 0), (0, .pointer (some ⟨p, 0, none⟩)), (2, .bool false), (7, .pointer (some ⟨pb, 0, none⟩)), (8, .int .i16 v), (9, .bool fx), (10, .pointer (some ⟨p, 0, none⟩))]) (fun q w' => (-2147483648 ≤ q.1 ∧ q.1 ≤ 2147483647) ∧ rdLn fx s13 = q ∧ St w0 G0 p pb q.2 ((p, ty, [] ++ [.int .i16 v, str u1, str u3, .int .i32 n5, c7, c10, .int .i32 n13, .slice none 0 0, .pointer none, .pointer none, .slice none 0 0, .map none] ++ []) :: []) P11 w') ?_ ?_
  · refine cI (by rfl) (fun hc=>?_) (fun hc=>?_)
    · ((conv=>whnf);repeat(first|(refine mvT ?_;conv=>whnf)|(refine mvF ?_;conv=>whnf)|(refine cT (by rfl) ?_;conv=>whnf)|(refine cF (by rfl) ?_;conv=>whnf)))
      refine Does.mono H.lnc ?_
      rintro r w ⟨n, s', rfl, hn, hr, H⟩
      ((conv=>whnf);repeat(first|(refine mvT ?_;conv=>whnf)|(refine mvF ?_;conv=>whnf)|(refine cT (by rfl) ?_;conv=>whnf)|(refine cF (by rfl) ?_;conv=>whnf)))
      exact ⟨(n, s'), ⟨rfl, rfl, rfl, rfl, rfl, rfl, rfl, rfl, trivial⟩, hn, by rw [hc]; exact hr, H⟩
    · ((conv=>whnf);repeat(first|(refine mvT ?_;conv=>whnf)|(refine mvF ?_;conv=>whnf)|(refine cT (by rfl) ?_;conv=>whnf)|(refine cF (by rfl) ?_;conv=>whnf)))
      refine Does.mono H.lnp ?_
      rintro r w ⟨n, s', rfl, hn, hr, H⟩
      ((conv=>whnf);repeat(first|(refine mvT ?_;conv=>whnf)|(refine mvF ?_;conv=>whnf)|(refine cT (by rfl) ?_;conv=>whnf)|(refine cF (by rfl) ?_;conv=>whnf)))
      exact ⟨(n, s'), ⟨rfl, rfl, rfl, rfl, rfl, rfl, rfl, rfl, trivial⟩, hn, by rw [hc]; exact hr, H⟩
  clear H
  rintro ⟨n15, s15⟩ w ⟨hn15, hln15, H⟩
  dsimp only at hn15 hln15 H
  ((conv=>whnf);repeat(first|(refine mvT ?_;conv=>whnf)|(refine mvF ?_;conv=>whnf)|(refine cT (by rfl) ?_;conv=>whnf)|(refine cF (by rfl) ?_;conv=>whnf)))
  intro cq hcq
  obtain rfl : cq = false := by rw [← hcq]; exact decide_eq_false (by omega)
  ((conv=>whnf);repeat(first|(refine mvT ?_;conv=>whnf)|(refine mvF ?_;conv=>whnf)|(refine cT (by rfl) ?_;conv=>whnf)|(refine cF (by rfl) ?_;conv=>whnf)))
  refine VC.cutE (fun a : Option Addr => [(19, .int .i32 n15), (18, .slice a 0 0), (0, .pointer (some ⟨p, 0, none⟩)), (2, .bool false), (7, .pointer (some ⟨pb, 0, none⟩)), (8, .int .i16 v), (9, .bool fx), (10, .pointer (some ⟨p, 0, none⟩))]) (fun a w' => StE w0 G0 p pb s15 9 ((p, ty, [] ++ [.int .i16 v, str u1, str u3, .int .i32 n5, c7, c10, .int .i32 n13, .slice none 0 0, .pointer none, .pointer none, .slice none 0 0, .map none] ++ []) :: []) P11 (v < 0 ∨ n15 = 0) a w') ?_ ?_
  · refine cI (by rfl) (fun hz=>?_) (fun hz=>?_)
    · have hz : n15 = 0 := by simpa using hz
      ((conv=>whnf);repeat(first|(refine mvT ?_;conv=>whnf)|(refine mvF ?_;conv=>whnf)|(refine cT (by rfl) ?_;conv=>whnf)|(refine cF (by rfl) ?_;conv=>whnf)))
      intro be we hbe hoe hxe
      ((conv=>whnf);repeat(first|(refine mvT ?_;conv=>whnf)|(refine mvF ?_;conv=>whnf)|(refine cT (by rfl) ?_;conv=>whnf)|(refine cF (by rfl) ?_;conv=>whnf)))
      exact ⟨_, ⟨rfl, rfl, rfl, rfl, rfl, rfl, rfl, rfl, trivial⟩, .inr ⟨.inr hz, be, rfl, H.push hxe hoe hbe⟩⟩
    · have hz : ¬ n15 = 0 := by simpa using hz
      ((conv=>whnf);repeat(first|(refine mvT ?_;conv=>whnf)|(refine mvF ?_;conv=>whnf)|(refine cT (by rfl) ?_;conv=>whnf)|(refine cF (by rfl) ?_;conv=>whnf)))
      exact ⟨_, ⟨rfl, rfl, rfl, rfl, rfl, rfl, rfl, rfl, trivial⟩, .inl ⟨by omega, rfl, H⟩⟩
  clear H
  rintro ae15 w H
  ((conv=>whnf);repeat(first|(refine mvT ?_;conv=>whnf)|(refine mvF ?_;conv=>whnf)|(refine cT (by rfl) ?_;conv=>whnf)|(refine cF (by rfl) ?_;conv=>whnf)))
  refine Does.mono H.ok ?_
  rintro r w ⟨rfl, H⟩
  ((conv=>whnf);repeat(first|(refine mvT ?_;conv=>whnf)|(refine mvF ?_;conv=>whnf)|(refine cT (by rfl) ?_;conv=>whnf)|(refine cF (by rfl) ?_;conv=>whnf)))
  refine cI (by rfl) (fun hbd=>?_) (fun hbd=>?_)
  · have hbd : s15.2 = true := by simpa using hbd
    ((conv=>whnf);repeat(first|(refine mvT ?_;conv=>whnf)|(refine mvF ?_;conv=>whnf)|(refine cT (by rfl) ?_;conv=>whnf)|(refine cF (by rfl) ?_;conv=>whnf)))
    refine Does.mono (H.done hL hp1) ?_
    rintro r w ⟨rfl, H⟩
    ((conv=>whnf);repeat(first|(refine mvT ?_;conv=>whnf)|(refine mvF ?_;conv=>whnf)|(refine cT (by rfl) ?_;conv=>whnf)|(refine cF (by rfl) ?_;conv=>whnf)))
    obtain ⟨_, H⟩ := H
    refine RdPost.early hbd (hup0 (?_)) H
    rw [tail_yes (rdField8 (by decide) hr1) ⟨by decide, has_all hv⟩, tail_yes (rdField8 (by decide) hr3) ⟨by decide, has_all hv⟩, tail_yes (rdField3.trans hr5) ⟨by decide, has_all hv⟩, tail_yes ((rdField8n (by decide)).trans hr7) ⟨by decide, has_all hv⟩, tail_yes ((rdField8n (by decide)).trans hr10) ⟨by decide, has_all hv⟩, tail_yes (rdField3.trans hr13) ⟨by decide, has_all hv⟩, tail_len ⟨by decide, has_all hv⟩ hln15 hbd]
  have hbd : s15.2 = false := by simpa using hbd
  clear hbd
  ((conv=>whnf);repeat(first|(refine mvT ?_;conv=>whnf)|(refine mvF ?_;conv=>whnf)|(refine cT (by rfl) ?_;conv=>whnf)|(refine cF (by rfl) ?_;conv=>whnf)))
  refine cut_zero ?_
  ((conv=>whnf);repeat(first|(refine mvT ?_;conv=>whnf)|(refine mvF ?_;conv=>whnf)|(refine cT (by rfl) ?_;conv=>whnf)|(refine cF (by rfl) ?_;conv=>whnf)))
  refine VC.cutE (fun a : Value => [(19, .int .i32 n15), (18, a), (0, .pointer (some ⟨p, 0, none⟩)), (2, .bool false), (7, .pointer (some ⟨pb, 0, none⟩)), (8, .int .i16 v), (9, .bool fx), (10, .pointer (some ⟨p, 0, none⟩))]) (fun a w' => ListI w0 G0 p pb 9 [str []] (elR 8 v fx 8 []) (elQ true 8 8 []) s15 n15 ((decide (n15 < 0) && decide (0 ≤ v))) ((p, ty, [] ++ [.int .i16 v, str u1, str u3, .int .i32 n5, c7, c10, .int .i32 n13, .slice none 0 0, .pointer none, .pointer none, .slice none 0 0, .map none] ++ []) :: []) P11 a 0 w') ?_ ?_
  · refine cI (by rfl) (fun hps=>?_) (fun hps=>?_)
    · have hps : 0 < n15 := by have := of_decide_eq_true hps; omega
      ((conv=>whnf);repeat(first|(refine mvT ?_;conv=>whnf)|(refine mvF ?_;conv=>whnf)|(refine cT (by rfl) ?_;conv=>whnf)|(refine cF (by rfl) ?_;conv=>whnf)))
      refine H.grow hps hn15.2 (by decide) rfl rfl (by decide) ?_
      intro g cap post w hc1 hc2 H
      ((conv=>whnf);repeat(first|(refine mvT ?_;conv=>whnf)|(refine mvF ?_;conv=>whnf)|(refine cT (by rfl) ?_;conv=>whnf)|(refine cF (by rfl) ?_;conv=>whnf)))
      exact ⟨_, ⟨rfl, rfl, rfl, rfl, rfl, rfl, rfl, rfl, trivial⟩, ListI.some hps (by simp; omega) hc1 hc2 H⟩
    · have hps : n15 ≤ 0 := by have := of_decide_eq_false hps; omega
      ((conv=>whnf);repeat(first|(refine mvT ?_;conv=>whnf)|(refine mvF ?_;conv=>whnf)|(refine cT (by rfl) ?_;conv=>whnf)|(refine cF (by rfl) ?_;conv=>whnf)))
      exact ⟨_, ⟨rfl, rfl, rfl, rfl, rfl, rfl, rfl, rfl, trivial⟩, H.none hps (fun h => by rcases h with h | h <;> (simp; omega)) (fun h => by simp; omega)⟩
  clear H
  rintro a15 w H
  ((conv=>whnf);repeat(first|(refine mvT ?_;conv=>whnf)|(refine mvF ?_;conv=>whnf)|(refine cT (by rfl) ?_;conv=>whnf)|(refine cF (by rfl) ?_;conv=>whnf)))
  have hpL15 : inL ((p, ty, [] ++ [.int .i16 v, str u1, str u3, .int .i32 n5, c7, c10, .int .i32 n13, .slice none 0 0, .pointer none, .pointer none, .slice none 0 0, .map none] ++ []) :: []) p := inL.head _ _
  refine VL.loop (fun i : Nat => [(19, .int .i32 n15), (18, a15), (20, .int .i32 i), (0, .pointer (some ⟨p, 0, none⟩)), (2, .bool false), (7, .pointer (some ⟨pb, 0, none⟩)), (8, .int .i16 v), (9, .bool fx), (10, .pointer (some ⟨p, 0, none⟩))]) (fun i w' => i ≤ 2147483647 ∧ ListI w0 G0 p pb 9 [str []] (elR 8 v fx 8 []) (elQ true 8 8 []) s15 n15 ((decide (n15 < 0) && decide (0 ≤ v))) ((p, ty, [] ++ [.int .i16 v, str u1, str u3, .int .i32 n5, c7, c10, .int .i32 n13, .slice none 0 0, .pointer none, .pointer none, .slice none 0 0, .map none] ++ []) :: []) P11 a15 i w') (fun i => n15.toNat - i) 0 ⟨rfl, rfl, rfl, rfl, rfl, rfl, rfl, rfl, rfl, trivial⟩ ⟨by decide, H⟩ ?_
  clear H
  rintro i15 w ⟨hi15, H⟩
  ((conv=>whnf);repeat(first|(refine mvT ?_;conv=>whnf)|(refine mvF ?_;conv=>whnf)|(refine cT (by rfl) ?_;conv=>whnf)|(refine cF (by rfl) ?_;conv=>whnf)))
  refine cI (by rfl) (fun h9=>?_) (fun h9=>?_)
  · have hlt15 : (i15 : Int) < n15 := of_decide_eq_true h9
    obtain ⟨g15, cap15, post15, rfl, hgo15, HI⟩ := H.go hlt15
    obtain ⟨es15, ts15, si15, hes15, hez15, hrn15, hts15, hlen1, H⟩ := HI.open hgo15.2.2.2.2
    obtain ⟨L15, hL15⟩ : ∃ L : List Ob, L = ((p, ty, [] ++ [.int .i16 v, str u1, str u3, .int .i32 n5, c7, c10, .int .i32 n13, .slice none 0 0, .pointer none, .pointer none, .slice none 0 0, .map none] ++ []) :: []) := ⟨_, rfl⟩
    rw [← hL15] at H hpL15
    obtain ⟨P15, hP15⟩ : ∃ P : World → Prop, P = fun w => (∀ (j : Nat) (c : List Value) (y : T), es15[j]? = some c → ts15[j]? = some y → elQ true 8 8 [] ⟨w, fun k => k ≠ p⟩ c y) ∧ P11 w := ⟨_, rfl⟩
    rw [← hP15] at H
    replace H : St w0 G0 p pb si15 ((g15, 9, es15.flatten ++ [str []] ++ ((List.replicate (n15.toNat - (i15 + 1)) [str []]).flatten ++ post15)) :: L15) P15 w := H
    ((conv=>whnf);repeat(first|(refine mvT ?_;conv=>whnf)|(refine mvF ?_;conv=>whnf)|(refine cT (by rfl) ?_;conv=>whnf)|(refine cF (by rfl) ?_;conv=>whnf)))
    (refine mvB ?_;((conv=>whnf);repeat(first|(refine mvT ?_;conv=>whnf)|(refine mvF ?_;conv=>whnf)|(refine cT (by rfl) ?_;conv=>whnf)|(refine cF (by rfl) ?_;conv=>whnf))))
    refine VC.cutE (fun q : List UInt8 × Rd => [(21, str q.1), (0, .pointer (some ⟨p, 0, none⟩)), (2, .bool false), (7, .pointer (some ⟨pb, 0, none⟩)), (8, .int .i16 v), (9, .bool fx), (10, .pointer (some ⟨p, 0, none⟩)), (19, .int .i32 n15), (18, .slice (some ⟨g15, 0, none⟩) n15.toNat cap15), (20, .int .i32 i15)]) (fun q w' => rdTx fx si15 = q ∧ St w0 G0 p pb q.2 ((g15, 9, es15.flatten ++ [str []] ++ ((List.replicate (n15.toNat - (i15 + 1)) [str []]).flatten ++ post15)) :: L15) P15 w') ?_ ?_
    · refine cI (by rfl) (fun hc=>?_) (fun hc=>?_)
      · ((conv=>whnf);repeat(first|(refine mvT ?_;conv=>whnf)|(refine mvF ?_;conv=>whnf)|(refine cT (by rfl) ?_;conv=>whnf)|(refine cF (by rfl) ?_;conv=>whnf)))
        refine Does.mono H.txc ?_
        rintro r w ⟨u, s', rfl, hr, H⟩
        ((conv=>whnf);repeat(first|(refine mvT ?_;conv=>whnf)|(refine mvF ?_;conv=>whnf)|(refine cT (by rfl) ?_;conv=>whnf)|(refine cF (by rfl) ?_;conv=>whnf)))
        exact ⟨(u, s'), ⟨rfl, rfl, rfl, rfl, rfl, rfl, rfl, rfl, rfl, rfl, trivial⟩, by rw [hc]; exact hr, H⟩
      · ((conv=>whnf);repeat(first|(refine mvT ?_;conv=>whnf)|(refine mvF ?_;conv=>whnf)|(refine cT (by rfl) ?_;conv=>whnf)|(refine cF (by rfl) ?_;conv=>whnf)))
        refine Does.mono H.txp ?_
        rintro r w ⟨u, s', rfl, hr, H⟩
        ((conv=>whnf);repeat(first|(refine mvT ?_;conv=>whnf)|(refine mvF ?_;conv=>whnf)|(refine cT (by rfl) ?_;conv=>whnf)|(refine cF (by rfl) ?_;conv=>whnf)))
        exact ⟨(u, s'), ⟨rfl, rfl, rfl, rfl, rfl, rfl, rfl, rfl, rfl, rfl, trivial⟩, by rw [hc]; exact hr, H⟩
    clear H
    rintro ⟨u16, s16⟩ w ⟨hr16, H⟩
    dsimp only at hr16 H
    ((conv=>whnf);repeat(first|(refine mvT ?_;conv=>whnf)|(refine mvF ?_;conv=>whnf)|(refine cT (by rfl) ?_;conv=>whnf)|(refine cF (by rfl) ?_;conv=>whnf)))
    refine ⟨g15, 0, rfl, ⟨by omega, by omega⟩, ?_⟩
    ((conv=>whnf);repeat(first|(refine mvT ?_;conv=>whnf)|(refine mvF ?_;conv=>whnf)|(refine cT (by rfl) ?_;conv=>whnf)|(refine cF (by rfl) ?_;conv=>whnf)))
    refine H.st1 (v := str u16) 0 (rfl) (rfl) rfl (by first | omega | (simp [hlen1]; done) | (simp [hlen1]; omega)) rfl (Nat.lt_of_lt_of_le (Nat.lt_succ_self _) (Nat.le_of_ble_eq_true rfl)) ?_
    intro w H
    ((conv=>whnf);repeat(first|(refine mvT ?_;conv=>whnf)|(refine mvF ?_;conv=>whnf)|(refine cT (by rfl) ?_;conv=>whnf)|(refine cF (by rfl) ?_;conv=>whnf)))
    replace H : St w0 G0 p pb s16 ((g15, 9, es15.flatten ++ [str u16] ++ ((List.replicate (n15.toNat - (i15 + 1)) [str []]).flatten ++ post15)) :: L15) P15 w := H
    refine ⟨i15 + 1, ⟨rfl, rfl, ?_, rfl, rfl, rfl, rfl, rfl, rfl, trivial⟩, ⟨by omega, ListI.back hgo15 (LoopI.next hes15 hez15 hrn15 hts15 (cur := [str u16]) (x := .mk 0 u16 false [] []) (elR8 hr16) rfl (by rw [← hL15]; exact H) fun w hP => ?_)⟩, by omega⟩
    · show some (Value.int .i32 _) = _
      rw [IntKind.wrap_i32]
      simp only [Option.some.injEq, Value.int.injEq, true_and]
      omega
    · skip
      rw [hP15] at hP
      exact ⟨⟨_, rfl, rfl⟩, hP⟩
  have hge15 : ¬ (i15 : Int) < n15 := of_decide_eq_false h9
  obtain ⟨l17, s17, hone17, hl17, hr17, H⟩ := H.done hge15 hln15 (nl := nlF (.mk 11 0 (-1) 0 (-1) 0 8 []) v) (sz := elZ true 8 8 []) rfl hpL15 rfl
  ((conv=>whnf);repeat(first|(refine mvT ?_;conv=>whnf)|(refine mvF ?_;conv=>whnf)|(refine cT (by rfl) ?_;conv=>whnf)|(refine cF (by rfl) ?_;conv=>whnf)))
  obtain ⟨P18, hP18⟩ : ∃ P : World → Prop, P = fun w => ListR true (elZ true 8 8 []) (elQ true 8 8 [] ⟨w, fun k => k ≠ p⟩) w (fun k => k ≠ p) a15 (.mk 0 [] ((decide (n15 < 0) && decide (0 ≤ v))) l17 []) ∧ P11 w := ⟨_, rfl⟩
  replace H : St w0 G0 p pb s17 ((p, ty, [] ++ [.int .i16 v, str u1, str u3, .int .i32 n5, c7, c10, .int .i32 n13, .slice none 0 0, .pointer none, .pointer none, .slice none 0 0, .map none] ++ []) :: []) P18 w := by rw [hP18]; exact H
  refine H.st1 (v := a15) 7 (cells_one hone17) (hone17) rfl (by simp) rfl (Nat.lt_of_lt_of_le (Nat.lt_succ_self _) (Nat.le_of_ble_eq_true rfl)) ?_
  intro w H
  ((conv=>whnf);repeat(first|(refine mvT ?_;conv=>whnf)|(refine mvF ?_;conv=>whnf)|(refine cT (by rfl) ?_;conv=>whnf)|(refine cF (by rfl) ?_;conv=>whnf)))
  replace H : St w0 G0 p pb s17 ((p, ty, [] ++ [.int .i16 v, str u1, str u3, .int .i32 n5, c7, c10, .int .i32 n13, a15, .pointer none, .pointer none, .slice none 0 0, .map none] ++ []) :: []) P18 w := H
  refine VC.cutE (fun q : Value × Bool × List UInt8 × Rd => [(0, .pointer (some ⟨p, 0, none⟩)), (2, .bool false), (7, .pointer (some ⟨pb, 0, none⟩)), (8, .int .i16 v), (9, .bool fx), (10, .pointer (some ⟨p, 0, none⟩))]) (fun q w' => (q.2.1 = true → q.2.2.1 = []) ∧ (if hasF (.mk 8 1 (-1) 1 (-1) 0 0 []) v = true then rdField 9 v fx (.mk 8 1 (-1) 1 (-1) 0 0 []) s17 else (dfT 9 (.mk 8 1 (-1) 1 (-1) 0 0 []), s17)) = (.mk 0 q.2.2.1 q.2.1 [] [], q.2.2.2) ∧ St w0 G0 p pb q.2.2.2 ((p, ty, [] ++ [.int .i16 v, str u1, str u3, .int .i32 n5, c7, c10, .int .i32 n13, a15, q.1, .pointer none, .slice none 0 0, .map none] ++ []) :: []) (fun w => NTf p q.1 (.mk 0 q.2.2.1 q.2.1 [] []) w ∧ P18 w) w') ?_ ?_
  · refine cI (by rfl) (fun hcv=>?_) (fun hcv=>?_)
    · ((conv=>whnf);repeat(first|(refine mvT ?_;conv=>whnf)|(refine mvF ?_;conv=>whnf)|(refine cT (by rfl) ?_;conv=>whnf)|(refine cF (by rfl) ?_;conv=>whnf)))
      (refine mvB ?_;((conv=>whnf);repeat(first|(refine mvT ?_;conv=>whnf)|(refine mvF ?_;conv=>whnf)|(refine cT (by rfl) ?_;conv=>whnf)|(refine cF (by rfl) ?_;conv=>whnf))))
      refine VC.cutE (fun q : Value × Bool × List UInt8 × Rd => [(22, q.1), (0, .pointer (some ⟨p, 0, none⟩)), (2, .bool false), (7, .pointer (some ⟨pb, 0, none⟩)), (8, .int .i16 v), (9, .bool fx), (10, .pointer (some ⟨p, 0, none⟩))]) (fun q w' => q.1.oneCell' = true ∧ (q.2.1 = true → q.2.2.1 = []) ∧ rdNt fx s17 = (.mk 0 q.2.2.1 q.2.1 [] [], q.2.2.2) ∧ St w0 G0 p pb q.2.2.2 ((p, ty, [] ++ [.int .i16 v, str u1, str u3, .int .i32 n5, c7, c10, .int .i32 n13, a15, .pointer none, .pointer none, .slice none 0 0, .map none] ++ []) :: []) (fun w => NTf p q.1 (.mk 0 q.2.2.1 q.2.1 [] []) w ∧ P18 w) w') ?_ ?_
      · refine cI (by rfl) (fun hc=>?_) (fun hc=>?_)
        · ((conv=>whnf);repeat(first|(refine mvT ?_;conv=>whnf)|(refine mvF ?_;conv=>whnf)|(refine cT (by rfl) ?_;conv=>whnf)|(refine cF (by rfl) ?_;conv=>whnf)))
          refine Does.mono H.ntc ?_
          rintro r w ⟨c, nl, u, s', rfl, hone, hnl, hr, H⟩
          ((conv=>whnf);repeat(first|(refine mvT ?_;conv=>whnf)|(refine mvF ?_;conv=>whnf)|(refine cT (by rfl) ?_;conv=>whnf)|(refine cF (by rfl) ?_;conv=>whnf)))
          exact ⟨(r, nl, u, s'), ⟨rfl, rfl, rfl, rfl, rfl, rfl, rfl, trivial⟩, hone, hnl, by rw [hc]; exact hr, H⟩
        · ((conv=>whnf);repeat(first|(refine mvT ?_;conv=>whnf)|(refine mvF ?_;conv=>whnf)|(refine cT (by rfl) ?_;conv=>whnf)|(refine cF (by rfl) ?_;conv=>whnf)))
          refine Does.mono H.ntp ?_
          rintro r w ⟨c, nl, u, s', rfl, hone, hnl, hr, H⟩
          ((conv=>whnf);repeat(first|(refine mvT ?_;conv=>whnf)|(refine mvF ?_;conv=>whnf)|(refine cT (by rfl) ?_;conv=>whnf)|(refine cF (by rfl) ?_;conv=>whnf)))
          exact ⟨(r, nl, u, s'), ⟨rfl, rfl, rfl, rfl, rfl, rfl, rfl, trivial⟩, hone, hnl, by rw [hc]; exact hr, H⟩
      clear H
      rintro ⟨c21, nl21, u21, s21⟩ w ⟨hone21, hnl21, hr21, H⟩
      dsimp only at hone21 hnl21 hr21 H
      ((conv=>whnf);repeat(first|(refine mvT ?_;conv=>whnf)|(refine mvF ?_;conv=>whnf)|(refine cT (by rfl) ?_;conv=>whnf)|(refine cF (by rfl) ?_;conv=>whnf)))
      obtain ⟨P22, hP22⟩ : ∃ P : World → Prop, P = fun w => NTf p c21 (.mk 0 u21 nl21 [] []) w ∧ P18 w := ⟨_, rfl⟩
      replace H : St w0 G0 p pb s21 ((p, ty, [] ++ [.int .i16 v, str u1, str u3, .int .i32 n5, c7, c10, .int .i32 n13, a15, .pointer none, .pointer none, .slice none 0 0, .map none] ++ []) :: []) P22 w := by rw [hP22]; exact H
      refine H.st1 (v := c21) 8 (cells_one hone21) (hone21) rfl (by simp) rfl (Nat.lt_of_lt_of_le (Nat.lt_succ_self _) (Nat.le_of_ble_eq_true rfl)) ?_
      intro w H
      ((conv=>whnf);repeat(first|(refine mvT ?_;conv=>whnf)|(refine mvF ?_;conv=>whnf)|(refine cT (by rfl) ?_;conv=>whnf)|(refine cF (by rfl) ?_;conv=>whnf)))
      replace H : St w0 G0 p pb s21 ((p, ty, [] ++ [.int .i16 v, str u1, str u3, .int .i32 n5, c7, c10, .int .i32 n13, a15, c21, .pointer none, .slice none 0 0, .map none] ++ []) :: []) P22 w := H
      have hh : hasF (.mk 8 1 (-1) 1 (-1) 0 0 []) v = true := by have := of_decide_eq_true hcv; rw [hasF_iff]; omega
      exact ⟨(c21, nl21, u21, s21), ⟨rfl, rfl, rfl, rfl, rfl, rfl, trivial⟩, hnl21, by rw [if_pos hh]; exact ((rdField8n (by decide)).trans hr21), by rw [hP22] at H; exact H⟩
    · ((conv=>whnf);repeat(first|(refine mvT ?_;conv=>whnf)|(refine mvF ?_;conv=>whnf)|(refine cT (by rfl) ?_;conv=>whnf)|(refine cF (by rfl) ?_;conv=>whnf)))
      have hh : ¬ hasF (.mk 8 1 (-1) 1 (-1) 0 0 []) v = true := by have := of_decide_eq_false hcv; rw [hasF_iff]; omega
      exact ⟨(.pointer none, true, [], s17), ⟨rfl, rfl, rfl, rfl, rfl, rfl, trivial⟩, fun _ => rfl, by rw [if_neg hh]; rfl, H.add fun w' _ => .inl ⟨rfl, rfl⟩⟩
  clear H
  rintro ⟨c20, nl20, u20, s20⟩ w ⟨hnl20, hr20, H⟩
  dsimp only at hnl20 hr20 H
  ((conv=>whnf);repeat(first|(refine mvT ?_;conv=>whnf)|(refine mvF ?_;conv=>whnf)|(refine cT (by rfl) ?_;conv=>whnf)|(refine cF (by rfl) ?_;conv=>whnf)))
  obtain ⟨P24, hP24⟩ : ∃ P : World → Prop, P = fun w => NTf p c20 (.mk 0 u20 nl20 [] []) w ∧ P18 w := ⟨_, rfl⟩
  replace H : St w0 G0 p pb s20 ((p, ty, [] ++ [.int .i16 v, str u1, str u3, .int .i32 n5, c7, c10, .int .i32 n13, a15, c20, .pointer none, .slice none 0 0, .map none] ++ []) :: []) P24 w := by rw [hP24]; exact H
  (refine mvB ?_;((conv=>whnf);repeat(first|(refine mvT ?_;conv=>whnf)|(refine mvF ?_;conv=>whnf)|(refine cT (by rfl) ?_;conv=>whnf)|(refine cF (by rfl) ?_;conv=>whnf))))
  refine VC.cutE (fun q : Value × Bool × List UInt8 × Rd => [(23, q.1), (0, .pointer (some ⟨p, 0, none⟩)), (2, .bool false), (7, .pointer (some ⟨pb, 0, none⟩)), (8, .int .i16 v), (9, .bool fx), (10, .pointer (some ⟨p, 0, none⟩))]) (fun q w' => q.1.oneCell' = true ∧ (q.2.1 = true → q.2.2.1 = []) ∧ rdNt fx s20 = (.mk 0 q.2.2.1 q.2.1 [] [], q.2.2.2) ∧ St w0 G0 p pb q.2.2.2 ((p, ty, [] ++ [.int .i16 v, str u1, str u3, .int .i32 n5, c7, c10, .int .i32 n13, a15, c20, .pointer none, .slice none 0 0, .map none] ++ []) :: []) (fun w => NTf p q.1 (.mk 0 q.2.2.1 q.2.1 [] []) w ∧ P24 w) w') ?_ ?_
  · refine cI (by rfl) (fun hc=>?_) (fun hc=>?_)
    · ((conv=>whnf);repeat(first|(refine mvT ?_;conv=>whnf)|(refine mvF ?_;conv=>whnf)|(refine cT (by rfl) ?_;conv=>whnf)|(refine cF (by rfl) ?_;conv=>whnf)))
      refine Does.mono H.ntc ?_
      rintro r w ⟨c, nl, u, s', rfl, hone, hnl, hr, H⟩
      ((conv=>whnf);repeat(first|(refine mvT ?_;conv=>whnf)|(refine mvF ?_;conv=>whnf)|(refine cT (by rfl) ?_;conv=>whnf)|(refine cF (by rfl) ?_;conv=>whnf)))
      exact ⟨(r, nl, u, s'), ⟨rfl, rfl, rfl, rfl, rfl, rfl, rfl, trivial⟩, hone, hnl, by rw [hc]; exact hr, H⟩
    · ((conv=>whnf);repeat(first|(refine mvT ?_;conv=>whnf)|(refine mvF ?_;conv=>whnf)|(refine cT (by rfl) ?_;conv=>whnf)|(refine cF (by rfl) ?_;conv=>whnf)))
      refine Does.mono H.ntp ?_
      rintro r w ⟨c, nl, u, s', rfl, hone, hnl, hr, H⟩
      ((conv=>whnf);repeat(first|(refine mvT ?_;conv=>whnf)|(refine mvF ?_;conv=>whnf)|(refine cT (by rfl) ?_;conv=>whnf)|(refine cF (by rfl) ?_;conv=>whnf)))
      exact ⟨(r, nl, u, s'), ⟨rfl, rfl, rfl, rfl, rfl, rfl, rfl, trivial⟩, hone, hnl, by rw [hc]; exact hr, H⟩
  clear H
  rintro ⟨c25, nl25, u25, s25⟩ w ⟨hone25, hnl25, hr25, H⟩
  dsimp only at hone25 hnl25 hr25 H
  ((conv=>whnf);repeat(first|(refine mvT ?_;conv=>whnf)|(refine mvF ?_;conv=>whnf)|(refine cT (by rfl) ?_;conv=>whnf)|(refine cF (by rfl) ?_;conv=>whnf)))
  obtain ⟨P26, hP26⟩ : ∃ P : World → Prop, P = fun w => NTf p c25 (.mk 0 u25 nl25 [] []) w ∧ P24 w := ⟨_, rfl⟩
  replace H : St w0 G0 p pb s25 ((p, ty, [] ++ [.int .i16 v, str u1, str u3, .int .i32 n5, c7, c10, .int .i32 n13, a15, c20, .pointer none, .slice none 0 0, .map none] ++ []) :: []) P26 w := by rw [hP26]; exact H
  refine H.st1 (v := c25) 9 (cells_one hone25) (hone25) rfl (by simp) rfl (Nat.lt_of_lt_of_le (Nat.lt_succ_self _) (Nat.le_of_ble_eq_true rfl)) ?_
  intro w H
  ((conv=>whnf);repeat(first|(refine mvT ?_;conv=>whnf)|(refine mvF ?_;conv=>whnf)|(refine cT (by rfl) ?_;conv=>whnf)|(refine cF (by rfl) ?_;conv=>whnf)))
  replace H : St w0 G0 p pb s25 ((p, ty, [] ++ [.int .i16 v, str u1, str u3, .int .i32 n5, c7, c10, .int .i32 n13, a15, c20, c25, .slice none 0 0, .map none] ++ []) :: []) P26 w := H
  refine ldS (H.cell (o := 0) rfl (k := 10) rfl) ?_;((conv=>whnf);repeat(first|(refine mvT ?_;conv=>whnf)|(refine mvF ?_;conv=>whnf)|(refine cT (by rfl) ?_;conv=>whnf)|(refine cF (by rfl) ?_;conv=>whnf)))
  (refine mvB ?_;((conv=>whnf);repeat(first|(refine mvT ?_;conv=>whnf)|(refine mvF ?_;conv=>whnf)|(refine cT (by rfl) ?_;conv=>whnf)|(refine cF (by rfl) ?_;conv=>whnf))))
  refine VC.cutE (fun q : Int × Rd => [(26, .int .i32 q.1), (25, .slice none 0 0), (0, .pointer (some ⟨p, 0, none⟩)), (2, .bool false), (7, .pointer (some ⟨pb, 0, none⟩)), (8, .int .i16 v), (9, .bool fx), (10, .pointer (some ⟨p, 0, none⟩))]) (fun q w' => (-2147483648 ≤ q.1 ∧ q.1 ≤ 2147483647) ∧ rdLn fx s25 = q ∧ St w0 G0 p pb q.2 ((p, ty, [] ++ [.int .i16 v, str u1, str u3, .int .i32 n5, c7, c10, .int .i32 n13, a15, c20, c25, .slice none 0 0, .map none] ++ []) :: []) P26 w') ?_ ?_
  · refine cI (by rfl) (fun hc=>?_) (fun hc=>?_)
    · ((conv=>whnf);repeat(first|(refine mvT ?_;conv=>whnf)|(refine mvF ?_;conv=>whnf)|(refine cT (by rfl) ?_;conv=>whnf)|(refine cF (by rfl) ?_;conv=>whnf)))
      refine Does.mono H.lnc ?_
      rintro r w ⟨n, s', rfl, hn, hr, H⟩
      ((conv=>whnf);repeat(first|(refine mvT ?_;conv=>whnf)|(refine mvF ?_;conv=>whnf)|(refine cT (by rfl) ?_;conv=>whnf)|(refine cF (by rfl) ?_;conv=>whnf)))
      exact ⟨(n, s'), ⟨rfl, rfl, rfl, rfl, rfl, rfl, rfl, rfl, trivial⟩, hn, by rw [hc]; exact hr, H⟩
    · ((conv=>whnf);repeat(first|(refine mvT ?_;conv=>whnf)|(refine mvF ?_;conv=>whnf)|(refine cT (by rfl) ?_;conv=>whnf)|(refine cF (by rfl) ?_;conv=>whnf)))
      refine Does.mono H.lnp ?_
      rintro r w ⟨n, s', rfl, hn, hr, H⟩
      ((conv=>whnf);repeat(first|(refine mvT ?_;conv=>whnf)|(refine mvF ?_;conv=>whnf)|(refine cT (by rfl) ?_;conv=>whnf)|(refine cF (by rfl) ?_;conv=>whnf)))
      exact ⟨(n, s'), ⟨rfl, rfl, rfl, rfl, rfl, rfl, rfl, rfl, trivial⟩, hn, by rw [hc]; exact hr, H⟩
  clear H
  rintro ⟨n28, s28⟩ w ⟨hn28, hln28, H⟩
  dsimp only at hn28 hln28 H
  ((conv=>whnf);repeat(first|(refine mvT ?_;conv=>whnf)|(refine mvF ?_;conv=>whnf)|(refine cT (by rfl) ?_;conv=>whnf)|(refine cF (by rfl) ?_;conv=>whnf)))
  intro cq hcq
  obtain rfl : cq = false := by rw [← hcq]; exact decide_eq_false (by omega)
  ((conv=>whnf);repeat(first|(refine mvT ?_;conv=>whnf)|(refine mvF ?_;conv=>whnf)|(refine cT (by rfl) ?_;conv=>whnf)|(refine cF (by rfl) ?_;conv=>whnf)))
  refine VC.cutE (fun a : Option Addr => [(26, .int .i32 n28), (25, .slice a 0 0), (0, .pointer (some ⟨p, 0, none⟩)), (2, .bool false), (7, .pointer (some ⟨pb, 0, none⟩)), (8, .int .i16 v), (9, .bool fx), (10, .pointer (some ⟨p, 0, none⟩))]) (fun a w' => StE w0 G0 p pb s28 91 ((p, ty, [] ++ [.int .i16 v, str u1, str u3, .int .i32 n5, c7, c10, .int .i32 n13, a15, c20, c25, .slice none 0 0, .map none] ++ []) :: []) P26 (v < 0 ∨ n28 = 0) a w') ?_ ?_
  · refine cI (by rfl) (fun hz=>?_) (fun hz=>?_)
    · have hz : n28 = 0 := by simpa using hz
      ((conv=>whnf);repeat(first|(refine mvT ?_;conv=>whnf)|(refine mvF ?_;conv=>whnf)|(refine cT (by rfl) ?_;conv=>whnf)|(refine cF (by rfl) ?_;conv=>whnf)))
      intro be we hbe hoe hxe
      ((conv=>whnf);repeat(first|(refine mvT ?_;conv=>whnf)|(refine mvF ?_;conv=>whnf)|(refine cT (by rfl) ?_;conv=>whnf)|(refine cF (by rfl) ?_;conv=>whnf)))
      exact ⟨_, ⟨rfl, rfl, rfl, rfl, rfl, rfl, rfl, rfl, trivial⟩, .inr ⟨.inr hz, be, rfl, H.push hxe hoe hbe⟩⟩
    · have hz : ¬ n28 = 0 := by simpa using hz
      ((conv=>whnf);repeat(first|(refine mvT ?_;conv=>whnf)|(refine mvF ?_;conv=>whnf)|(refine cT (by rfl) ?_;conv=>whnf)|(refine cF (by rfl) ?_;conv=>whnf)))
      exact ⟨_, ⟨rfl, rfl, rfl, rfl, rfl, rfl, rfl, rfl, trivial⟩, .inl ⟨by omega, rfl, H⟩⟩
  clear H
  rintro ae28 w H
  ((conv=>whnf);repeat(first|(refine mvT ?_;conv=>whnf)|(refine mvF ?_;conv=>whnf)|(refine cT (by rfl) ?_;conv=>whnf)|(refine cF (by rfl) ?_;conv=>whnf)))
  refine Does.mono H.ok ?_
  rintro r w ⟨rfl, H⟩
  ((conv=>whnf);repeat(first|(refine mvT ?_;conv=>whnf)|(refine mvF ?_;conv=>whnf)|(refine cT (by rfl) ?_;conv=>whnf)|(refine cF (by rfl) ?_;conv=>whnf)))
  refine cI (by rfl) (fun hbd=>?_) (fun hbd=>?_)
  · have hbd : s28.2 = true := by simpa using hbd
    ((conv=>whnf);repeat(first|(refine mvT ?_;conv=>whnf)|(refine mvF ?_;conv=>whnf)|(refine cT (by rfl) ?_;conv=>whnf)|(refine cF (by rfl) ?_;conv=>whnf)))
    refine Does.mono (H.done hL hp1) ?_
    rintro r w ⟨rfl, H⟩
    ((conv=>whnf);repeat(first|(refine mvT ?_;conv=>whnf)|(refine mvF ?_;conv=>whnf)|(refine cT (by rfl) ?_;conv=>whnf)|(refine cF (by rfl) ?_;conv=>whnf)))
    obtain ⟨_, H⟩ := H
    refine RdPost.early hbd (hup0 (?_)) H
    rw [tail_yes (rdField8 (by decide) hr1) ⟨by decide, has_all hv⟩, tail_yes (rdField8 (by decide) hr3) ⟨by decide, has_all hv⟩, tail_yes (rdField3.trans hr5) ⟨by decide, has_all hv⟩, tail_yes ((rdField8n (by decide)).trans hr7) ⟨by decide, has_all hv⟩, tail_yes ((rdField8n (by decide)).trans hr10) ⟨by decide, has_all hv⟩, tail_yes (rdField3.trans hr13) ⟨by decide, has_all hv⟩, tail_yes ((rdField_list _ _ _ _ _ _ _ _ _ _ _).trans hr17) ⟨by decide, has_all hv⟩, tail_ver hr20 (by decide), tail_yes ((rdField8n (by decide)).trans hr25) ⟨by decide, has_all hv⟩, tail_len ⟨by decide, has_all hv⟩ hln28 hbd]
  have hbd : s28.2 = false := by simpa using hbd
  clear hbd
  ((conv=>whnf);repeat(first|(refine mvT ?_;conv=>whnf)|(refine mvF ?_;conv=>whnf)|(refine cT (by rfl) ?_;conv=>whnf)|(refine cF (by rfl) ?_;conv=>whnf)))
  refine cut_zero ?_
  ((conv=>whnf);repeat(first|(refine mvT ?_;conv=>whnf)|(refine mvF ?_;conv=>whnf)|(refine cT (by rfl) ?_;conv=>whnf)|(refine cF (by rfl) ?_;conv=>whnf)))
  refine VC.cutE (fun a : Value => [(26, .int .i32 n28), (25, a), (0, .pointer (some ⟨p, 0, none⟩)), (2, .bool false), (7, .pointer (some ⟨pb, 0, none⟩)), (8, .int .i16 v), (9, .bool fx), (10, .pointer (some ⟨p, 0, none⟩))]) (fun a w' => ListI w0 G0 p pb 91 [.int .u8 0, .int .u8 0, .int .u8 0, .int .u8 0, .int .u8 0, .int .u8 0, .int .u8 0, .int .u8 0, .int .u8 0, .int .u8 0, .int .u8 0, .int .u8 0, .int .u8 0, .int .u8 0, .int .u8 0, .int .u8 0, .slice none 0 0, .map none] (elR 8 v fx 10 dConsumerGroupHeartbeatRequestTopic) (elQ true 8 10 dConsumerGroupHeartbeatRequestTopic) s28 n28 ((decide (n28 < 0) && decide (0 ≤ v))) ((p, ty, [] ++ [.int .i16 v, str u1, str u3, .int .i32 n5, c7, c10, .int .i32 n13, a15, c20, c25, .slice none 0 0, .map none] ++ []) :: []) P26 a 0 w') ?_ ?_
  · refine cI (by rfl) (fun hps=>?_) (fun hps=>?_)
    · have hps : 0 < n28 := by have := of_decide_eq_true hps; omega
      ((conv=>whnf);repeat(first|(refine mvT ?_;conv=>whnf)|(refine mvF ?_;conv=>whnf)|(refine cT (by rfl) ?_;conv=>whnf)|(refine cF (by rfl) ?_;conv=>whnf)))
      refine H.grow hps hn28.2 (by decide) rfl rfl (by decide) ?_
      intro g cap post w hc1 hc2 H
      ((conv=>whnf);repeat(first|(refine mvT ?_;conv=>whnf)|(refine mvF ?_;conv=>whnf)|(refine cT (by rfl) ?_;conv=>whnf)|(refine cF (by rfl) ?_;conv=>whnf)))
      exact ⟨_, ⟨rfl, rfl, rfl, rfl, rfl, rfl, rfl, rfl, trivial⟩, ListI.some hps (by simp; omega) hc1 hc2 H⟩
    · have hps : n28 ≤ 0 := by have := of_decide_eq_false hps; omega
      ((conv=>whnf);repeat(first|(refine mvT ?_;conv=>whnf)|(refine mvF ?_;conv=>whnf)|(refine cT (by rfl) ?_;conv=>whnf)|(refine cF (by rfl) ?_;conv=>whnf)))
      exact ⟨_, ⟨rfl, rfl, rfl, rfl, rfl, rfl, rfl, rfl, trivial⟩, H.none hps (fun h => by rcases h with h | h <;> (simp; omega)) (fun h => by simp; omega)⟩
  clear H
  rintro a28 w H
  ((conv=>whnf);repeat(first|(refine mvT ?_;conv=>whnf)|(refine mvF ?_;conv=>whnf)|(refine cT (by rfl) ?_;conv=>whnf)|(refine cF (by rfl) ?_;conv=>whnf)))
  have hpL28 : inL ((p, ty, [] ++ [.int .i16 v, str u1, str u3, .int .i32 n5, c7, c10, .int .i32 n13, a15, c20, c25, .slice none 0 0, .map none] ++ []) :: []) p := inL.head _ _
  refine VL.loop (fun i : Nat => [(26, .int .i32 n28), (25, a28), (27, .int .i32 i), (0, .pointer (some ⟨p, 0, none⟩)), (2, .bool false), (7, .pointer (some ⟨pb, 0, none⟩)), (8, .int .i16 v), (9, .bool fx), (10, .pointer (some ⟨p, 0, none⟩))]) (fun i w' => i ≤ 2147483647 ∧ ListI w0 G0 p pb 91 [.int .u8 0, .int .u8 0, .int .u8 0, .int .u8 0, .int .u8 0, .int .u8 0, .int .u8 0, .int .u8 0, .int .u8 0, .int .u8 0, .int .u8 0, .int .u8 0, .int .u8 0, .int .u8 0, .int .u8 0, .int .u8 0, .slice none 0 0, .map none] (elR 8 v fx 10 dConsumerGroupHeartbeatRequestTopic) (elQ true 8 10 dConsumerGroupHeartbeatRequestTopic) s28 n28 ((decide (n28 < 0) && decide (0 ≤ v))) ((p, ty, [] ++ [.int .i16 v, str u1, str u3, .int .i32 n5, c7, c10, .int .i32 n13, a15, c20, c25, .slice none 0 0, .map none] ++ []) :: []) P26 a28 i w') (fun i => n28.toNat - i) 0 ⟨rfl, rfl, rfl, rfl, rfl, rfl, rfl, rfl, rfl, trivial⟩ ⟨by decide, H⟩ ?_
  clear H
  rintro i28 w ⟨hi28, H⟩
  ((conv=>whnf);repeat(first|(refine mvT ?_;conv=>whnf)|(refine mvF ?_;conv=>whnf)|(refine cT (by rfl) ?_;conv=>whnf)|(refine cF (by rfl) ?_;conv=>whnf)))
  refine cI (by rfl) (fun h9=>?_) (fun h9=>?_)
  · have hlt28 : (i28 : Int) < n28 := of_decide_eq_true h9
    obtain ⟨g28, cap28, post28, rfl, hgo28, HI⟩ := H.go hlt28
    obtain ⟨es28, ts28, si28, hes28, hez28, hrn28, hts28, hlen1, H⟩ := HI.open hgo28.2.2.2.2
    obtain ⟨L28, hL28⟩ : ∃ L : List Ob, L = ((p, ty, [] ++ [.int .i16 v, str u1, str u3, .int .i32 n5, c7, c10, .int .i32 n13, a15, c20, c25, .slice none 0 0, .map none] ++ []) :: []) := ⟨_, rfl⟩
    rw [← hL28] at H hpL28
    obtain ⟨P28, hP28⟩ : ∃ P : World → Prop, P = fun w => (∀ (j : Nat) (c : List Value) (y : T), es28[j]? = some c → ts28[j]? = some y → elQ true 8 10 dConsumerGroupHeartbeatRequestTopic ⟨w, fun k => k ≠ p⟩ c y) ∧ P26 w := ⟨_, rfl⟩
    rw [← hP28] at H
    replace H : St w0 G0 p pb si28 ((g28, 91, es28.flatten ++ [.int .u8 0, .int .u8 0, .int .u8 0, .int .u8 0, .int .u8 0, .int .u8 0, .int .u8 0, .int .u8 0, .int .u8 0, .int .u8 0, .int .u8 0, .int .u8 0, .int .u8 0, .int .u8 0, .int .u8 0, .int .u8 0, .slice none 0 0, .map none] ++ ((List.replicate (n28.toNat - (i28 + 1)) [.int .u8 0, .int .u8 0, .int .u8 0, .int .u8 0, .int .u8 0, .int .u8 0, .int .u8 0, .int .u8 0, .int .u8 0, .int .u8 0, .int .u8 0, .int .u8 0, .int .u8 0, .int .u8 0, .int .u8 0, .int .u8 0, .slice none 0 0, .map none]).flatten ++ post28)) :: L28) P28 w := H
    ((conv=>whnf);repeat(first|(refine mvT ?_;conv=>whnf)|(refine mvF ?_;conv=>whnf)|(refine cT (by rfl) ?_;conv=>whnf)|(refine cF (by rfl) ?_;conv=>whnf)))
    refine ⟨g28, 0, rfl, ⟨by omega, by omega⟩, ?_⟩
    ((conv=>whnf);repeat(first|(refine mvT ?_;conv=>whnf)|(refine mvF ?_;conv=>whnf)|(refine cT (by rfl) ?_;conv=>whnf)|(refine cF (by rfl) ?_;conv=>whnf)))
    refine Does.mono (dfConsumerGroupHeartbeatRequestTopic (pre := es28.flatten) (cur := [.int .u8 0, .int .u8 0, .int .u8 0, .int .u8 0, .int .u8 0, .int .u8 0, .int .u8 0, .int .u8 0, .int .u8 0, .int .u8 0, .int .u8 0, .int .u8 0, .int .u8 0, .int .u8 0, .int .u8 0, .int .u8 0, .slice none 0 0, .map none]) (post := ((List.replicate (n28.toNat - (i28 + 1)) [.int .u8 0, .int .u8 0, .int .u8 0, .int .u8 0, .int .u8 0, .int .u8 0, .int .u8 0, .int .u8 0, .int .u8 0, .int .u8 0, .int .u8 0, .int .u8 0, .int .u8 0, .int .u8 0, .int .u8 0, .int .u8 0, .slice none 0 0, .map none]).flatten ++ post28)) H.head (by first | (rw [hlen1]; simp; done) | (simp [hlen1]; done) | (simp [hlen1]; omega)) rfl) ?_
    rintro rd w2 ⟨hdf, hxd⟩
    replace H := H.put hdf hxd
    clear hdf hxd
    replace H : St w0 G0 p pb si28 ((g28, 91, es28.flatten ++ [.int .u8 0, .int .u8 0, .int .u8 0, .int .u8 0, .int .u8 0, .int .u8 0, .int .u8 0, .int .u8 0, .int .u8 0, .int .u8 0, .int .u8 0, .int .u8 0, .int .u8 0, .int .u8 0, .int .u8 0, .int .u8 0, .slice none 0 0, .map none] ++ ((List.replicate (n28.toNat - (i28 + 1)) [.int .u8 0, .int .u8 0, .int .u8 0, .int .u8 0, .int .u8 0, .int .u8 0, .int .u8 0, .int .u8 0, .int .u8 0, .int .u8 0, .int .u8 0, .int .u8 0, .int .u8 0, .int .u8 0, .int .u8 0, .int .u8 0, .slice none 0 0, .map none]).flatten ++ post28)) :: L28) P28 w2 := H
    ((conv=>whnf);repeat(first|(refine mvT ?_;conv=>whnf)|(refine mvF ?_;conv=>whnf)|(refine cT (by rfl) ?_;conv=>whnf)|(refine cF (by rfl) ?_;conv=>whnf)))
    have hup28 : tailBad 8 v fx dConsumerGroupHeartbeatRequestTopic si28 = true → (rdPart 9 v fx dConsumerGroupHeartbeatRequest (l, false)).2.2 = true := by
      intro hb
      refine hup0 ?_
      rw [tail_yes (rdField8 (by decide) hr1) ⟨by decide, has_all hv⟩, tail_yes (rdField8 (by decide) hr3) ⟨by decide, has_all hv⟩, tail_yes (rdField3.trans hr5) ⟨by decide, has_all hv⟩, tail_yes ((rdField8n (by decide)).trans hr7) ⟨by decide, has_all hv⟩, tail_yes ((rdField8n (by decide)).trans hr10) ⟨by decide, has_all hv⟩, tail_yes (rdField3.trans hr13) ⟨by decide, has_all hv⟩, tail_yes ((rdField_list _ _ _ _ _ _ _ _ _ _ _).trans hr17) ⟨by decide, has_all hv⟩, tail_ver hr20 (by decide), tail_yes ((rdField8n (by decide)).trans hr25) ⟨by decide, has_all hv⟩, tail_el ⟨by decide, has_all hv⟩ hln28 hgo28.2.2.2.2 hrn28 hb]
    refine Does.mono H.uuid ?_
    rintro r w ⟨u29, s29, rfl, hu29, hr29, H⟩
    ((conv=>whnf);repeat(first|(refine mvT ?_;conv=>whnf)|(refine mvF ?_;conv=>whnf)|(refine cT (by rfl) ?_;conv=>whnf)|(refine cF (by rfl) ?_;conv=>whnf)))
    obtain ⟨u29_0, u29_1, u29_2, u29_3, u29_4, u29_5, u29_6, u29_7, u29_8, u29_9, u29_10, u29_11, u29_12, u29_13, u29_14, u29_15, rfl⟩ : ∃ u29_0 u29_1 u29_2 u29_3 u29_4 u29_5 u29_6 u29_7 u29_8 u29_9 u29_10 u29_11 u29_12 u29_13 u29_14 u29_15, u29 = [u29_0, u29_1, u29_2, u29_3, u29_4, u29_5, u29_6, u29_7, u29_8, u29_9, u29_10, u29_11, u29_12, u29_13, u29_14, u29_15] := by
      match u29, hu29 with
      | [u29_0, u29_1, u29_2, u29_3, u29_4, u29_5, u29_6, u29_7, u29_8, u29_9, u29_10, u29_11, u29_12, u29_13, u29_14, u29_15], _ => exact ⟨u29_0, u29_1, u29_2, u29_3, u29_4, u29_5, u29_6, u29_7, u29_8, u29_9, u29_10, u29_11, u29_12, u29_13, u29_14, u29_15, rfl⟩
    intro bu wu hbu hou hxu
    ((conv=>whnf);repeat(first|(refine mvT ?_;conv=>whnf)|(refine mvF ?_;conv=>whnf)|(refine cT (by rfl) ?_;conv=>whnf)|(refine cF (by rfl) ?_;conv=>whnf)))
    refine st_all [bcell u29_0, bcell u29_1, bcell u29_2, bcell u29_3, bcell u29_4, bcell u29_5, bcell u29_6, bcell u29_7, bcell u29_8, bcell u29_9, bcell u29_10, bcell u29_11, bcell u29_12, bcell u29_13, bcell u29_14, bcell u29_15] hou rfl rfl rfl ?_
    intro w2 hou hxs
    ((conv=>whnf);repeat(first|(refine mvT ?_;conv=>whnf)|(refine mvF ?_;conv=>whnf)|(refine cT (by rfl) ?_;conv=>whnf)|(refine cF (by rfl) ?_;conv=>whnf)))
    replace H := H.e0 (hxu.trans hxs (M := nob) fun k hk e => by omega)
    refine ⟨_, rfl, hou.cells, ?_⟩
    ((conv=>whnf);repeat(first|(refine mvT ?_;conv=>whnf)|(refine mvF ?_;conv=>whnf)|(refine cT (by rfl) ?_;conv=>whnf)|(refine cF (by rfl) ?_;conv=>whnf)))
    refine H.stn [bcell u29_0, bcell u29_1, bcell u29_2, bcell u29_3, bcell u29_4, bcell u29_5, bcell u29_6, bcell u29_7, bcell u29_8, bcell u29_9, bcell u29_10, bcell u29_11, bcell u29_12, bcell u29_13, bcell u29_14, bcell u29_15] 0 rfl rfl rfl (by first | omega | (simp [hlen1]; done) | (simp [hlen1]; omega)) rfl (Nat.le_of_ble_eq_true rfl) ?_
    intro w H
    ((conv=>whnf);repeat(first|(refine mvT ?_;conv=>whnf)|(refine mvF ?_;conv=>whnf)|(refine cT (by rfl) ?_;conv=>whnf)|(refine cF (by rfl) ?_;conv=>whnf)))
    replace H : St w0 G0 p pb s29 ((g28, 91, es28.flatten ++ [bcell u29_0, bcell u29_1, bcell u29_2, bcell u29_3, bcell u29_4, bcell u29_5, bcell u29_6, bcell u29_7, bcell u29_8, bcell u29_9, bcell u29_10, bcell u29_11, bcell u29_12, bcell u29_13, bcell u29_14, bcell u29_15, .slice none 0 0, .map none] ++ ((List.replicate (n28.toNat - (i28 + 1)) [.int .u8 0, .int .u8 0, .int .u8 0, .int .u8 0, .int .u8 0, .int .u8 0, .int .u8 0, .int .u8 0, .int .u8 0, .int .u8 0, .int .u8 0, .int .u8 0, .int .u8 0, .int .u8 0, .int .u8 0, .int .u8 0, .slice none 0 0, .map none]).flatten ++ post28)) :: L28) P28 w := H
    refine ⟨_, ld (H.cell rfl (k := 16) rfl) (by first | omega | (simp [hlen1]; done) | (simp [hlen1]; omega)), ?_⟩; ((conv=>whnf);repeat(first|(refine mvT ?_;conv=>whnf)|(refine mvF ?_;conv=>whnf)|(refine cT (by rfl) ?_;conv=>whnf)|(refine cF (by rfl) ?_;conv=>whnf)))
    (refine mvB ?_;((conv=>whnf);repeat(first|(refine mvT ?_;conv=>whnf)|(refine mvF ?_;conv=>whnf)|(refine cT (by rfl) ?_;conv=>whnf)|(refine cF (by rfl) ?_;conv=>whnf))))
    refine VC.cutE (fun q : Int × Rd => [(33, .int .i32 q.1), (32, .slice none 0 0), (0, .pointer (some ⟨p, 0, none⟩)), (2, .bool false), (7, .pointer (some ⟨pb, 0, none⟩)), (8, .int .i16 v), (9, .bool fx), (10, .pointer (some ⟨p, 0, none⟩)), (26, .int .i32 n28), (25, .slice (some ⟨g28, 0, none⟩) n28.toNat cap28), (27, .int .i32 i28), (28, .pointer (some ⟨g28, 0 + (i28 : Int).toNat * 18, none⟩)), (29, .pointer (some ⟨g28, 0 + (i28 : Int).toNat * 18, none⟩))]) (fun q w' => (-2147483648 ≤ q.1 ∧ q.1 ≤ 2147483647) ∧ rdLn fx s29 = q ∧ St w0 G0 p pb q.2 ((g28, 91, es28.flatten ++ [bcell u29_0, bcell u29_1, bcell u29_2, bcell u29_3, bcell u29_4, bcell u29_5, bcell u29_6, bcell u29_7, bcell u29_8, bcell u29_9, bcell u29_10, bcell u29_11, bcell u29_12, bcell u29_13, bcell u29_14, bcell u29_15, .slice none 0 0, .map none] ++ ((List.replicate (n28.toNat - (i28 + 1)) [.int .u8 0, .int .u8 0, .int .u8 0, .int .u8 0, .int .u8 0, .int .u8 0, .int .u8 0, .int .u8 0, .int .u8 0, .int .u8 0, .int .u8 0, .int .u8 0, .int .u8 0, .int .u8 0, .int .u8 0, .int .u8 0, .slice none 0 0, .map none]).flatten ++ post28)) :: L28) P28 w') ?_ ?_
    · refine cI (by rfl) (fun hc=>?_) (fun hc=>?_)
      · ((conv=>whnf);repeat(first|(refine mvT ?_;conv=>whnf)|(refine mvF ?_;conv=>whnf)|(refine cT (by rfl) ?_;conv=>whnf)|(refine cF (by rfl) ?_;conv=>whnf)))
        refine Does.mono H.lnc ?_
        rintro r w ⟨n, s', rfl, hn, hr, H⟩
        ((conv=>whnf);repeat(first|(refine mvT ?_;conv=>whnf)|(refine mvF ?_;conv=>whnf)|(refine cT (by rfl) ?_;conv=>whnf)|(refine cF (by rfl) ?_;conv=>whnf)))
        exact ⟨(n, s'), ⟨rfl, rfl, rfl, rfl, rfl, rfl, rfl, rfl, rfl, rfl, rfl, rfl, rfl, trivial⟩, hn, by rw [hc]; exact hr, H⟩
      · ((conv=>whnf);repeat(first|(refine mvT ?_;conv=>whnf)|(refine mvF ?_;conv=>whnf)|(refine cT (by rfl) ?_;conv=>whnf)|(refine cF (by rfl) ?_;conv=>whnf)))
        refine Does.mono H.lnp ?_
        rintro r w ⟨n, s', rfl, hn, hr, H⟩
        ((conv=>whnf);repeat(first|(refine mvT ?_;conv=>whnf)|(refine mvF ?_;conv=>whnf)|(refine cT (by rfl) ?_;conv=>whnf)|(refine cF (by rfl) ?_;conv=>whnf)))
        exact ⟨(n, s'), ⟨rfl, rfl, rfl, rfl, rfl, rfl, rfl, rfl, rfl, rfl, rfl, rfl, rfl, trivial⟩, hn, by rw [hc]; exact hr, H⟩
    clear H
    rintro ⟨n32, s32⟩ w ⟨hn32, hln32, H⟩
    dsimp only at hn32 hln32 H
    ((conv=>whnf);repeat(first|(refine mvT ?_;conv=>whnf)|(refine mvF ?_;conv=>whnf)|(refine cT (by rfl) ?_;conv=>whnf)|(refine cF (by rfl) ?_;conv=>whnf)))
    refine Does.mono H.ok ?_
    rintro r w ⟨rfl, H⟩
    ((conv=>whnf);repeat(first|(refine mvT ?_;conv=>whnf)|(refine mvF ?_;conv=>whnf)|(refine cT (by rfl) ?_;conv=>whnf)|(refine cF (by rfl) ?_;conv=>whnf)))
    refine cI (by rfl) (fun hbd=>?_) (fun hbd=>?_)
    · have hbd : s32.2 = true := by simpa using hbd
      ((conv=>whnf);repeat(first|(refine mvT ?_;conv=>whnf)|(refine mvF ?_;conv=>whnf)|(refine cT (by rfl) ?_;conv=>whnf)|(refine cF (by rfl) ?_;conv=>whnf)))
      refine Does.mono (H.done hL hp1) ?_
      rintro r w ⟨rfl, H⟩
      ((conv=>whnf);repeat(first|(refine mvT ?_;conv=>whnf)|(refine mvF ?_;conv=>whnf)|(refine cT (by rfl) ?_;conv=>whnf)|(refine cF (by rfl) ?_;conv=>whnf)))
      refine RdPost.early hbd (hup28 (?_)) H
      rw [tail_yes (rdField7.trans hr29) ⟨by decide, has_all hv⟩, tail_len ⟨by decide, has_all hv⟩ hln32 hbd]
    have hbd : s32.2 = false := by simpa using hbd
    clear hbd
    ((conv=>whnf);repeat(first|(refine mvT ?_;conv=>whnf)|(refine mvF ?_;conv=>whnf)|(refine cT (by rfl) ?_;conv=>whnf)|(refine cF (by rfl) ?_;conv=>whnf)))
    refine cut_zero ?_
    ((conv=>whnf);repeat(first|(refine mvT ?_;conv=>whnf)|(refine mvF ?_;conv=>whnf)|(refine cT (by rfl) ?_;conv=>whnf)|(refine cF (by rfl) ?_;conv=>whnf)))
    refine VC.cutE (fun a : Value => [(33, .int .i32 n32), (32, a), (0, .pointer (some ⟨p, 0, none⟩)), (2, .bool false), (7, .pointer (some ⟨pb, 0, none⟩)), (8, .int .i16 v), (9, .bool fx), (10, .pointer (some ⟨p, 0, none⟩)), (26, .int .i32 n28), (25, .slice (some ⟨g28, 0, none⟩) n28.toNat cap28), (27, .int .i32 i28), (28, .pointer (some ⟨g28, 0 + (i28 : Int).toNat * 18, none⟩)), (29, .pointer (some ⟨g28, 0 + (i28 : Int).toNat * 18, none⟩))]) (fun a w' => ListI w0 G0 p pb 21 [.int .i32 0] (elR 7 v fx 3 []) (elQ true 7 3 []) s32 n32 (decide (n32 ≤ 0)) ((g28, 91, es28.flatten ++ [bcell u29_0, bcell u29_1, bcell u29_2, bcell u29_3, bcell u29_4, bcell u29_5, bcell u29_6, bcell u29_7, bcell u29_8, bcell u29_9, bcell u29_10, bcell u29_11, bcell u29_12, bcell u29_13, bcell u29_14, bcell u29_15, .slice none 0 0, .map none] ++ ((List.replicate (n28.toNat - (i28 + 1)) [.int .u8 0, .int .u8 0, .int .u8 0, .int .u8 0, .int .u8 0, .int .u8 0, .int .u8 0, .int .u8 0, .int .u8 0, .int .u8 0, .int .u8 0, .int .u8 0, .int .u8 0, .int .u8 0, .int .u8 0, .int .u8 0, .slice none 0 0, .map none]).flatten ++ post28)) :: L28) P28 a 0 w') ?_ ?_
    · refine cI (by rfl) (fun hps=>?_) (fun hps=>?_)
      · have hps : 0 < n32 := by have := of_decide_eq_true hps; omega
        ((conv=>whnf);repeat(first|(refine mvT ?_;conv=>whnf)|(refine mvF ?_;conv=>whnf)|(refine cT (by rfl) ?_;conv=>whnf)|(refine cF (by rfl) ?_;conv=>whnf)))
        refine H.grow hps hn32.2 (by decide) rfl rfl (by decide) ?_
        intro g cap post w hc1 hc2 H
        ((conv=>whnf);repeat(first|(refine mvT ?_;conv=>whnf)|(refine mvF ?_;conv=>whnf)|(refine cT (by rfl) ?_;conv=>whnf)|(refine cF (by rfl) ?_;conv=>whnf)))
        exact ⟨_, ⟨rfl, rfl, rfl, rfl, rfl, rfl, rfl, rfl, rfl, rfl, rfl, rfl, rfl, trivial⟩, ListI.some hps (decide_eq_false (by omega)) hc1 hc2 H⟩
      · have hps : n32 ≤ 0 := by have := of_decide_eq_false hps; omega
        ((conv=>whnf);repeat(first|(refine mvT ?_;conv=>whnf)|(refine mvF ?_;conv=>whnf)|(refine cT (by rfl) ?_;conv=>whnf)|(refine cF (by rfl) ?_;conv=>whnf)))
        exact ⟨_, ⟨rfl, rfl, rfl, rfl, rfl, rfl, rfl, rfl, rfl, rfl, rfl, rfl, rfl, trivial⟩, ListI.none hps (decide_eq_true hps) H⟩
    clear H
    rintro a32 w H
    ((conv=>whnf);repeat(first|(refine mvT ?_;conv=>whnf)|(refine mvF ?_;conv=>whnf)|(refine cT (by rfl) ?_;conv=>whnf)|(refine cF (by rfl) ?_;conv=>whnf)))
    have hpL32 : inL ((g28, 91, es28.flatten ++ [bcell u29_0, bcell u29_1, bcell u29_2, bcell u29_3, bcell u29_4, bcell u29_5, bcell u29_6, bcell u29_7, bcell u29_8, bcell u29_9, bcell u29_10, bcell u29_11, bcell u29_12, bcell u29_13, bcell u29_14, bcell u29_15, .slice none 0 0, .map none] ++ ((List.replicate (n28.toNat - (i28 + 1)) [.int .u8 0, .int .u8 0, .int .u8 0, .int .u8 0, .int .u8 0, .int .u8 0, .int .u8 0, .int .u8 0, .int .u8 0, .int .u8 0, .int .u8 0, .int .u8 0, .int .u8 0, .int .u8 0, .int .u8 0, .int .u8 0, .slice none 0 0, .map none]).flatten ++ post28)) :: L28) p := inL.tail hpL28
    refine VL.loop (fun i : Nat => [(33, .int .i32 n32), (32, a32), (34, .int .i32 i), (0, .pointer (some ⟨p, 0, none⟩)), (2, .bool false), (7, .pointer (some ⟨pb, 0, none⟩)), (8, .int .i16 v), (9, .bool fx), (10, .pointer (some ⟨p, 0, none⟩)), (26, .int .i32 n28), (25, .slice (some ⟨g28, 0, none⟩) n28.toNat cap28), (27, .int .i32 i28), (28, .pointer (some ⟨g28, 0 + (i28 : Int).toNat * 18, none⟩)), (29, .pointer (some ⟨g28, 0 + (i28 : Int).toNat * 18, none⟩))]) (fun i w' => i ≤ 2147483647 ∧ ListI w0 G0 p pb 21 [.int .i32 0] (elR 7 v fx 3 []) (elQ true 7 3 []) s32 n32 (decide (n32 ≤ 0)) ((g28, 91, es28.flatten ++ [bcell u29_0, bcell u29_1, bcell u29_2, bcell u29_3, bcell u29_4, bcell u29_5, bcell u29_6, bcell u29_7, bcell u29_8, bcell u29_9, bcell u29_10, bcell u29_11, bcell u29_12, bcell u29_13, bcell u29_14, bcell u29_15, .slice none 0 0, .map none] ++ ((List.replicate (n28.toNat - (i28 + 1)) [.int .u8 0, .int .u8 0, .int .u8 0, .int .u8 0, .int .u8 0, .int .u8 0, .int .u8 0, .int .u8 0, .int .u8 0, .int .u8 0, .int .u8 0, .int .u8 0, .int .u8 0, .int .u8 0, .int .u8 0, .int .u8 0, .slice none 0 0, .map none]).flatten ++ post28)) :: L28) P28 a32 i w') (fun i => n32.toNat - i) 0 ⟨rfl, rfl, rfl, rfl, rfl, rfl, rfl, rfl, rfl, rfl, rfl, rfl, rfl, rfl, trivial⟩ ⟨by decide, H⟩ ?_
    clear H
    rintro i32 w ⟨hi32, H⟩
    ((conv=>whnf);repeat(first|(refine mvT ?_;conv=>whnf)|(refine mvF ?_;conv=>whnf)|(refine cT (by rfl) ?_;conv=>whnf)|(refine cF (by rfl) ?_;conv=>whnf)))
    refine cI (by rfl) (fun h9=>?_) (fun h9=>?_)
    · have hlt32 : (i32 : Int) < n32 := of_decide_eq_true h9
      obtain ⟨g32, cap32, post32, rfl, hgo32, HI⟩ := H.go hlt32
      obtain ⟨es32, ts32, si32, hes32, hez32, hrn32, hts32, hlen2, H⟩ := HI.open hgo32.2.2.2.2
      obtain ⟨L32, hL32⟩ : ∃ L : List Ob, L = ((g28, 91, es28.flatten ++ [bcell u29_0, bcell u29_1, bcell u29_2, bcell u29_3, bcell u29_4, bcell u29_5, bcell u29_6, bcell u29_7, bcell u29_8, bcell u29_9, bcell u29_10, bcell u29_11, bcell u29_12, bcell u29_13, bcell u29_14, bcell u29_15, .slice none 0 0, .map none] ++ ((List.replicate (n28.toNat - (i28 + 1)) [.int .u8 0, .int .u8 0, .int .u8 0, .int .u8 0, .int .u8 0, .int .u8 0, .int .u8 0, .int .u8 0, .int .u8 0, .int .u8 0, .int .u8 0, .int .u8 0, .int .u8 0, .int .u8 0, .int .u8 0, .int .u8 0, .slice none 0 0, .map none]).flatten ++ post28)) :: L28) := ⟨_, rfl⟩
      rw [← hL32] at H hpL32
      obtain ⟨P32, hP32⟩ : ∃ P : World → Prop, P = fun w => (∀ (j : Nat) (c : List Value) (y : T), es32[j]? = some c → ts32[j]? = some y → elQ true 7 3 [] ⟨w, fun k => k ≠ p⟩ c y) ∧ P28 w := ⟨_, rfl⟩
      rw [← hP32] at H
      replace H : St w0 G0 p pb si32 ((g32, 21, es32.flatten ++ [.int .i32 0] ++ ((List.replicate (n32.toNat - (i32 + 1)) [.int .i32 0]).flatten ++ post32)) :: L32) P32 w := H
      ((conv=>whnf);repeat(first|(refine mvT ?_;conv=>whnf)|(refine mvF ?_;conv=>whnf)|(refine cT (by rfl) ?_;conv=>whnf)|(refine cF (by rfl) ?_;conv=>whnf)))
      refine Does.mono H.int32 ?_
      rintro r w ⟨n33, s33, rfl, hn33, hr33, H⟩
      ((conv=>whnf);repeat(first|(refine mvT ?_;conv=>whnf)|(refine mvF ?_;conv=>whnf)|(refine cT (by rfl) ?_;conv=>whnf)|(refine cF (by rfl) ?_;conv=>whnf)))
      refine ⟨g32, 0, rfl, ⟨by omega, by omega⟩, ?_⟩
      ((conv=>whnf);repeat(first|(refine mvT ?_;conv=>whnf)|(refine mvF ?_;conv=>whnf)|(refine cT (by rfl) ?_;conv=>whnf)|(refine cF (by rfl) ?_;conv=>whnf)))
      refine H.st1 (v := .int .i32 n33) 0 (rfl) (rfl) rfl (by first | omega | (simp [hlen2]; done) | (simp [hlen2]; omega)) rfl (Nat.lt_of_lt_of_le (Nat.lt_succ_self _) (Nat.le_of_ble_eq_true rfl)) ?_
      intro w H
      ((conv=>whnf);repeat(first|(refine mvT ?_;conv=>whnf)|(refine mvF ?_;conv=>whnf)|(refine cT (by rfl) ?_;conv=>whnf)|(refine cF (by rfl) ?_;conv=>whnf)))
      replace H : St w0 G0 p pb s33 ((g32, 21, es32.flatten ++ [.int .i32 n33] ++ ((List.replicate (n32.toNat - (i32 + 1)) [.int .i32 0]).flatten ++ post32)) :: L32) P32 w := H
      refine ⟨i32 + 1, ⟨rfl, rfl, ?_, rfl, rfl, rfl, rfl, rfl, rfl, rfl, rfl, rfl, rfl, rfl, trivial⟩, ⟨by omega, ListI.back hgo32 (LoopI.next hes32 hez32 hrn32 hts32 (cur := [.int .i32 n33]) (x := numT n33) (hr33) rfl (by rw [← hL32]; exact H) fun w hP => ?_)⟩, by omega⟩
      · show some (Value.int .i32 _) = _
        rw [IntKind.wrap_i32]
        simp only [Option.some.injEq, Value.int.injEq, true_and]
        omega
      · skip
        rw [hP32] at hP
        exact ⟨⟨_, hn33, rfl, rfl⟩, hP⟩
    have hge32 : ¬ (i32 : Int) < n32 := of_decide_eq_false h9
    obtain ⟨l34, s34, hone34, hl34, hr34, H⟩ := H.done hge32 hln32 (nl := nlF (.mk 11 0 (-1) (-1) (-1) 0 3 []) v) (sz := elZ true 7 3 []) rfl hpL32 rfl
    ((conv=>whnf);repeat(first|(refine mvT ?_;conv=>whnf)|(refine mvF ?_;conv=>whnf)|(refine cT (by rfl) ?_;conv=>whnf)|(refine cF (by rfl) ?_;conv=>whnf)))
    obtain ⟨P35, hP35⟩ : ∃ P : World → Prop, P = fun w => ListR true (elZ true 7 3 []) (elQ true 7 3 [] ⟨w, fun k => k ≠ p⟩) w (fun k => k ≠ p) a32 (.mk 0 [] (decide (n32 ≤ 0)) l34 []) ∧ P28 w := ⟨_, rfl⟩
    replace H : St w0 G0 p pb s34 ((g28, 91, es28.flatten ++ [bcell u29_0, bcell u29_1, bcell u29_2, bcell u29_3, bcell u29_4, bcell u29_5, bcell u29_6, bcell u29_7, bcell u29_8, bcell u29_9, bcell u29_10, bcell u29_11, bcell u29_12, bcell u29_13, bcell u29_14, bcell u29_15, .slice none 0 0, .map none] ++ ((List.replicate (n28.toNat - (i28 + 1)) [.int .u8 0, .int .u8 0, .int .u8 0, .int .u8 0, .int .u8 0, .int .u8 0, .int .u8 0, .int .u8 0, .int .u8 0, .int .u8 0, .int .u8 0, .int .u8 0, .int .u8 0, .int .u8 0, .int .u8 0, .int .u8 0, .slice none 0 0, .map none]).flatten ++ post28)) :: L28) P35 w := by rw [hP35]; exact H
    refine H.st1 (v := a32) 16 (cells_one hone34) (hone34) rfl (by first | omega | (simp [hlen1]; done) | (simp [hlen1]; omega)) rfl (Nat.lt_of_lt_of_le (Nat.lt_succ_self _) (Nat.le_of_ble_eq_true rfl)) ?_
    intro w H
    ((conv=>whnf);repeat(first|(refine mvT ?_;conv=>whnf)|(refine mvF ?_;conv=>whnf)|(refine cT (by rfl) ?_;conv=>whnf)|(refine cF (by rfl) ?_;conv=>whnf)))
    replace H : St w0 G0 p pb s34 ((g28, 91, es28.flatten ++ [bcell u29_0, bcell u29_1, bcell u29_2, bcell u29_3, bcell u29_4, bcell u29_5, bcell u29_6, bcell u29_7, bcell u29_8, bcell u29_9, bcell u29_10, bcell u29_11, bcell u29_12, bcell u29_13, bcell u29_14, bcell u29_15, a32, .map none] ++ ((List.replicate (n28.toNat - (i28 + 1)) [.int .u8 0, .int .u8 0, .int .u8 0, .int .u8 0, .int .u8 0, .int .u8 0, .int .u8 0, .int .u8 0, .int .u8 0, .int .u8 0, .int .u8 0, .int .u8 0, .int .u8 0, .int .u8 0, .int .u8 0, .int .u8 0, .slice none 0 0, .map none]).flatten ++ post28)) :: L28) P35 w := H
    (refine mvB ?_;((conv=>whnf);repeat(first|(refine mvT ?_;conv=>whnf)|(refine mvF ?_;conv=>whnf)|(refine cT (by rfl) ?_;conv=>whnf)|(refine cF (by rfl) ?_;conv=>whnf))))
    refine VC.cutB (fun q : Value × List Tg × Rd => [(0, .pointer (some ⟨p, 0, none⟩)), (2, .bool false), (7, .pointer (some ⟨pb, 0, none⟩)), (8, .int .i16 v), (9, .bool fx), (10, .pointer (some ⟨p, 0, none⟩)), (26, .int .i32 n28), (25, .slice (some ⟨g28, 0, none⟩) n28.toNat cap28), (27, .int .i32 i28), (28, .pointer (some ⟨g28, 0 + (i28 : Int).toNat * 18, none⟩)), (29, .pointer (some ⟨g28, 0 + (i28 : Int).toNat * 18, none⟩))]) (fun q w' => rdTagsF fx s34 = q.2 ∧ St w0 G0 p pb q.2.2 ((g28, 91, es28.flatten ++ [bcell u29_0, bcell u29_1, bcell u29_2, bcell u29_3, bcell u29_4, bcell u29_5, bcell u29_6, bcell u29_7, bcell u29_8, bcell u29_9, bcell u29_10, bcell u29_11, bcell u29_12, bcell u29_13, bcell u29_14, bcell u29_15, a32, q.1] ++ ((List.replicate (n28.toNat - (i28 + 1)) [.int .u8 0, .int .u8 0, .int .u8 0, .int .u8 0, .int .u8 0, .int .u8 0, .int .u8 0, .int .u8 0, .int .u8 0, .int .u8 0, .int .u8 0, .int .u8 0, .int .u8 0, .int .u8 0, .int .u8 0, .int .u8 0, .slice none 0 0, .map none]).flatten ++ post28)) :: L28) (fun w => TGf p q.1 q.2.1 w ∧ P35 w) w') ?_ ?_
    · refine cI (by rfl) (fun hc=>?_) (fun hc=>?_)
      · ((conv=>whnf);repeat(first|(refine mvT ?_;conv=>whnf)|(refine mvF ?_;conv=>whnf)|(refine cT (by rfl) ?_;conv=>whnf)|(refine cF (by rfl) ?_;conv=>whnf)))
        refine Does.mono H.tags ?_
        rintro r w ⟨m, u, s', rfl, hone, hr, H⟩
        ((conv=>whnf);repeat(first|(refine mvT ?_;conv=>whnf)|(refine mvF ?_;conv=>whnf)|(refine cT (by rfl) ?_;conv=>whnf)|(refine cF (by rfl) ?_;conv=>whnf)))
        refine H.st1 (v := m) 17 (rfl) (hone) rfl (by first | omega | (simp [hlen1]; done) | (simp [hlen1]; omega)) rfl (Nat.lt_of_lt_of_le (Nat.lt_succ_self _) (Nat.le_of_ble_eq_true rfl)) ?_
        intro w H
        ((conv=>whnf);repeat(first|(refine mvT ?_;conv=>whnf)|(refine mvF ?_;conv=>whnf)|(refine cT (by rfl) ?_;conv=>whnf)|(refine cF (by rfl) ?_;conv=>whnf)))
        exact ⟨(m, u, s'), ⟨rfl, rfl, rfl, rfl, rfl, rfl, rfl, rfl, rfl, rfl, rfl, trivial⟩, by rw [rdTagsF, if_pos hc]; exact hr, H⟩
      · ((conv=>whnf);repeat(first|(refine mvT ?_;conv=>whnf)|(refine mvF ?_;conv=>whnf)|(refine cT (by rfl) ?_;conv=>whnf)|(refine cF (by rfl) ?_;conv=>whnf)))
        exact ⟨(.map none, [], s34), ⟨rfl, rfl, rfl, rfl, rfl, rfl, rfl, rfl, rfl, rfl, rfl, trivial⟩, by rw [rdTagsF, if_neg (by rw [hc]; decide)], H.add fun w' _ => TagsR.nil _ _⟩
    clear H
    rintro ⟨m37, u37, s37⟩ w ⟨htg, H⟩
    dsimp only at htg H
    ((conv=>whnf);repeat(first|(refine mvT ?_;conv=>whnf)|(refine mvF ?_;conv=>whnf)|(refine cT (by rfl) ?_;conv=>whnf)|(refine cF (by rfl) ?_;conv=>whnf)))
    obtain ⟨P38, hP38⟩ : ∃ P : World → Prop, P = fun w => TGf p m37 u37 w ∧ P35 w := ⟨_, rfl⟩
    replace H : St w0 G0 p pb s37 ((g28, 91, es28.flatten ++ [bcell u29_0, bcell u29_1, bcell u29_2, bcell u29_3, bcell u29_4, bcell u29_5, bcell u29_6, bcell u29_7, bcell u29_8, bcell u29_9, bcell u29_10, bcell u29_11, bcell u29_12, bcell u29_13, bcell u29_14, bcell u29_15, a32, m37] ++ ((List.replicate (n28.toNat - (i28 + 1)) [.int .u8 0, .int .u8 0, .int .u8 0, .int .u8 0, .int .u8 0, .int .u8 0, .int .u8 0, .int .u8 0, .int .u8 0, .int .u8 0, .int .u8 0, .int .u8 0, .int .u8 0, .int .u8 0, .int .u8 0, .int .u8 0, .slice none 0 0, .map none]).flatten ++ post28)) :: L28) P38 w := by rw [hP38]; exact H
    have hpart : rdPart 8 v fx dConsumerGroupHeartbeatRequestTopic si28 = (.mk 0 [] false [.mk 0 [u29_0, u29_1, u29_2, u29_3, u29_4, u29_5, u29_6, u29_7, u29_8, u29_9, u29_10, u29_11, u29_12, u29_13, u29_14, u29_15] false [] [], .mk 0 [] (decide (n32 ≤ 0)) l34 []] u37, s37) := by
      unfold rdPart rdPartW
      rw [rdAll_yes (df := dfT 8) (rdField7.trans hr29) ⟨by decide, has_all hv⟩, rdAll_yes (df := dfT 8) ((rdField_list _ _ _ _ _ _ _ _ _ _ _).trans hr34) ⟨by decide, has_all hv⟩]
      simp only [rdAll]
      rw [htg]
    refine ⟨i28 + 1, ⟨rfl, rfl, ?_, rfl, rfl, rfl, rfl, rfl, rfl, trivial⟩, ⟨by omega, ListI.back hgo28 (LoopI.next hes28 hez28 hrn28 hts28 (cur := [bcell u29_0, bcell u29_1, bcell u29_2, bcell u29_3, bcell u29_4, bcell u29_5, bcell u29_6, bcell u29_7, bcell u29_8, bcell u29_9, bcell u29_10, bcell u29_11, bcell u29_12, bcell u29_13, bcell u29_14, bcell u29_15, a32, m37]) (x := .mk 0 [] false [.mk 0 [u29_0, u29_1, u29_2, u29_3, u29_4, u29_5, u29_6, u29_7, u29_8, u29_9, u29_10, u29_11, u29_12, u29_13, u29_14, u29_15] false [] [], .mk 0 [] (decide (n32 ≤ 0)) l34 []] u37) (hpart) rfl (by rw [← hL28]; exact H) fun w hP => ?_)⟩, by omega⟩
    · show some (Value.int .i32 _) = _
      rw [IntKind.wrap_i32]
      simp only [Option.some.injEq, Value.int.injEq, true_and]
      omega
    · skip
      rw [hP38] at hP
      obtain ⟨hf38_, hP⟩ := hP
      rw [hP35] at hP
      obtain ⟨hf35_, hP⟩ := hP
      rw [hP28] at hP
      exact ⟨QPt (QA1 (QF7 (u := [u29_0, u29_1, u29_2, u29_3, u29_4, u29_5, u29_6, u29_7, u29_8, u29_9, u29_10, u29_11, u29_12, u29_13, u29_14, u29_15]) rfl) (QA1 (QF11 hl34 hf35_) (QA0))) hf38_, hP⟩
  have hge28 : ¬ (i28 : Int) < n28 := of_decide_eq_false h9
  obtain ⟨l39, s39, hone39, hl39, hr39, H⟩ := H.done hge28 hln28 (nl := nlF (.mk 11 0 (-1) 0 (-1) 0 10 dConsumerGroupHeartbeatRequestTopic) v) (sz := elZ true 8 10 dConsumerGroupHeartbeatRequestTopic) rfl hpL28 rfl
  ((conv=>whnf);repeat(first|(refine mvT ?_;conv=>whnf)|(refine mvF ?_;conv=>whnf)|(refine cT (by rfl) ?_;conv=>whnf)|(refine cF (by rfl) ?_;conv=>whnf)))
  obtain ⟨P40, hP40⟩ : ∃ P : World → Prop, P = fun w => ListR true (elZ true 8 10 dConsumerGroupHeartbeatRequestTopic) (elQ true 8 10 dConsumerGroupHeartbeatRequestTopic ⟨w, fun k => k ≠ p⟩) w (fun k => k ≠ p) a28 (.mk 0 [] ((decide (n28 < 0) && decide (0 ≤ v))) l39 []) ∧ P26 w := ⟨_, rfl⟩
  replace H : St w0 G0 p pb s39 ((p, ty, [] ++ [.int .i16 v, str u1, str u3, .int .i32 n5, c7, c10, .int .i32 n13, a15, c20, c25, .slice none 0 0, .map none] ++ []) :: []) P40 w := by rw [hP40]; exact H
  refine H.st1 (v := a28) 10 (cells_one hone39) (hone39) rfl (by simp) rfl (Nat.lt_of_lt_of_le (Nat.lt_succ_self _) (Nat.le_of_ble_eq_true rfl)) ?_
  intro w H
  ((conv=>whnf);repeat(first|(refine mvT ?_;conv=>whnf)|(refine mvF ?_;conv=>whnf)|(refine cT (by rfl) ?_;conv=>whnf)|(refine cF (by rfl) ?_;conv=>whnf)))
  replace H : St w0 G0 p pb s39 ((p, ty, [] ++ [.int .i16 v, str u1, str u3, .int .i32 n5, c7, c10, .int .i32 n13, a15, c20, c25, a28, .map none] ++ []) :: []) P40 w := H
  (refine mvB ?_;((conv=>whnf);repeat(first|(refine mvT ?_;conv=>whnf)|(refine mvF ?_;conv=>whnf)|(refine cT (by rfl) ?_;conv=>whnf)|(refine cF (by rfl) ?_;conv=>whnf))))
  refine VC.cutE (fun q : Value × List Tg × Rd => [(0, .pointer (some ⟨p, 0, none⟩)), (2, .bool false), (7, .pointer (some ⟨pb, 0, none⟩)), (8, .int .i16 v), (9, .bool fx), (10, .pointer (some ⟨p, 0, none⟩))]) (fun q w' => rdTagsF fx s39 = q.2 ∧ St w0 G0 p pb q.2.2 ((p, ty, [] ++ [.int .i16 v, str u1, str u3, .int .i32 n5, c7, c10, .int .i32 n13, a15, c20, c25, a28, q.1] ++ []) :: []) (fun w => TGf p q.1 q.2.1 w ∧ P40 w) w') ?_ ?_
  · refine cI (by rfl) (fun hc=>?_) (fun hc=>?_)
    · ((conv=>whnf);repeat(first|(refine mvT ?_;conv=>whnf)|(refine mvF ?_;conv=>whnf)|(refine cT (by rfl) ?_;conv=>whnf)|(refine cF (by rfl) ?_;conv=>whnf)))
      refine Does.mono H.tags ?_
      rintro r w ⟨m, u, s', rfl, hone, hr, H⟩
      ((conv=>whnf);repeat(first|(refine mvT ?_;conv=>whnf)|(refine mvF ?_;conv=>whnf)|(refine cT (by rfl) ?_;conv=>whnf)|(refine cF (by rfl) ?_;conv=>whnf)))
      refine H.st1 (v := m) 11 (rfl) (hone) rfl (by simp) rfl (Nat.lt_of_lt_of_le (Nat.lt_succ_self _) (Nat.le_of_ble_eq_true rfl)) ?_
      intro w H
      ((conv=>whnf);repeat(first|(refine mvT ?_;conv=>whnf)|(refine mvF ?_;conv=>whnf)|(refine cT (by rfl) ?_;conv=>whnf)|(refine cF (by rfl) ?_;conv=>whnf)))
      exact ⟨(m, u, s'), ⟨rfl, rfl, rfl, rfl, rfl, rfl, trivial⟩, by rw [rdTagsF, if_pos hc]; exact hr, H⟩
    · ((conv=>whnf);repeat(first|(refine mvT ?_;conv=>whnf)|(refine mvF ?_;conv=>whnf)|(refine cT (by rfl) ?_;conv=>whnf)|(refine cF (by rfl) ?_;conv=>whnf)))
      exact ⟨(.map none, [], s39), ⟨rfl, rfl, rfl, rfl, rfl, rfl, trivial⟩, by rw [rdTagsF, if_neg (by rw [hc]; decide)], H.add fun w' _ => TagsR.nil _ _⟩
  clear H
  rintro ⟨m42, u42, s42⟩ w ⟨htg, H⟩
  dsimp only at htg H
  ((conv=>whnf);repeat(first|(refine mvT ?_;conv=>whnf)|(refine mvF ?_;conv=>whnf)|(refine cT (by rfl) ?_;conv=>whnf)|(refine cF (by rfl) ?_;conv=>whnf)))
  obtain ⟨P43, hP43⟩ : ∃ P : World → Prop, P = fun w => TGf p m42 u42 w ∧ P40 w := ⟨_, rfl⟩
  replace H : St w0 G0 p pb s42 ((p, ty, [] ++ [.int .i16 v, str u1, str u3, .int .i32 n5, c7, c10, .int .i32 n13, a15, c20, c25, a28, m42] ++ []) :: []) P43 w := by rw [hP43]; exact H
  have hpart : rdPart 9 v fx dConsumerGroupHeartbeatRequest (l, false) = (.mk 0 [] false [.mk 0 u1 false [] [], .mk 0 u3 false [] [], numT n5, .mk 0 u7 nl7 [] [], .mk 0 u10 nl10 [] [], numT n13, .mk 0 [] ((decide (n15 < 0) && decide (0 ≤ v))) l17 [], .mk 0 u20 nl20 [] [], .mk 0 u25 nl25 [] [], .mk 0 [] ((decide (n28 < 0) && decide (0 ≤ v))) l39 []] u42, s42) := by
    unfold rdPart rdPartW
    rw [rdAll_yes (df := dfT 9) (rdField8 (by decide) hr1) ⟨by decide, has_all hv⟩, rdAll_yes (df := dfT 9) (rdField8 (by decide) hr3) ⟨by decide, has_all hv⟩, rdAll_yes (df := dfT 9) (rdField3.trans hr5) ⟨by decide, has_all hv⟩, rdAll_yes (df := dfT 9) ((rdField8n (by decide)).trans hr7) ⟨by decide, has_all hv⟩, rdAll_yes (df := dfT 9) ((rdField8n (by decide)).trans hr10) ⟨by decide, has_all hv⟩, rdAll_yes (df := dfT 9) (rdField3.trans hr13) ⟨by decide, has_all hv⟩, rdAll_yes (df := dfT 9) ((rdField_list _ _ _ _ _ _ _ _ _ _ _).trans hr17) ⟨by decide, has_all hv⟩, rdAll_ver hr20 (by decide), rdAll_yes (df := dfT 9) ((rdField8n (by decide)).trans hr25) ⟨by decide, has_all hv⟩, rdAll_yes (df := dfT 9) ((rdField_list _ _ _ _ _ _ _ _ _ _ _).trans hr39) ⟨by decide, has_all hv⟩]
    simp only [rdAll]
    rw [htg]
  refine Does.mono (H.done hL hp1) ?_
  rintro r w ⟨rfl, H⟩
  ((conv=>whnf);repeat(first|(refine mvT ?_;conv=>whnf)|(refine mvF ?_;conv=>whnf)|(refine cT (by rfl) ?_;conv=>whnf)|(refine cF (by rfl) ?_;conv=>whnf)))
  refine RdPost.end hpart H fun hP => ?_
  rw [hP43] at hP
  obtain ⟨hf43_, hP⟩ := hP
  rw [hP40] at hP
  obtain ⟨hf40_, hP⟩ := hP
  rw [hP26] at hP
  obtain ⟨hf26_, hP⟩ := hP
  rw [hP24] at hP
  obtain ⟨hf24_, hP⟩ := hP
  rw [hP18] at hP
  obtain ⟨hf18_, hP⟩ := hP
  rw [hP11] at hP
  obtain ⟨hf11_, hP⟩ := hP
  rw [hP8] at hP
  obtain ⟨hf8_, hP⟩ := hP
  exact QPt (QA1 (QF8 (by decide) u1) (QA1 (QF8 (by decide) u3) (QA1 (QF3 hn5) (QA1 (QF8n (by decide) hnl7 hf8_) (QA1 (QF8n (by decide) hnl10 hf11_) (QA1 (QF3 hn13) (QA1 (QF11 hl17 hf18_) (QA1 (QF8n (by decide) hnl20 hf24_) (QA1 (QF8n (by decide) hnl25 hf26_) (QA1 (QF11 hl39 hf40_) (QA0))))))))))) hf43_
end Go.Proofs.YtmmieooipcfbiabDoorR.K
