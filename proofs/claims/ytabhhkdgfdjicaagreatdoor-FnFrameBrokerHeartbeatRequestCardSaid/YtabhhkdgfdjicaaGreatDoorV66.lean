/- Reading of BrokerHeartbeatRequest. -/
import Derived.Test.YtabhhkdgfdjicaaGreatDoorE7
set_option linter.unusedVariables false
set_option linter.unusedSimpArgs false
namespace Go.Proofs.YtabhhkdgfdjicaaGreatDoor.K
open Go
set_option maxHeartbeats 4000000
set_option maxRecDepth 100000

abbrev dBrokerHeartbeatRequest : List Fd := [.mk 3 0 (-1) (-1) (-1) 0 0 [], .mk 4 0 (-1) (-1) (-1) (-1) 0 [], .mk 4 0 (-1) (-1) (-1) 0 0 [], .mk 0 0 (-1) (-1) (-1) 0 0 [], .mk 0 0 (-1) (-1) (-1) 0 0 [], .mk 11 0 (-1) (-1) 0 0 7 [], .mk 11 0 (-1) (-2) 1 0 7 []]
abbrev oBrokerHeartbeatRequest : List Fd := [.mk 3 0 (-1) (-1) (-1) 0 0 [], .mk 4 0 (-1) (-1) (-1) (-1) 0 [], .mk 4 0 (-1) (-1) (-1) 0 0 [], .mk 0 0 (-1) (-1) (-1) 0 0 [], .mk 0 0 (-1) (-1) (-1) 0 0 [], .mk 11 0 (-1) (-1) 0 0 7 [], .mk 11 0 (-1) (-1) 1 0 7 []]
theorem sBrokerHeartbeatRequest (w : World) : Does X.P 14 #[] w fun r w' => Msg w' (fun k => w.heap.size ≤ k) r oBrokerHeartbeatRequest 0 ∧ Ext nob w w' := by
  have hx0 : Ext nob w w := Ext.refl _ _
  refine Does.go (X := X) (l := []) Tryz.func14 rfl (by kernel_rfl) (by kernel_rfl) _ rfl ?_
  ((conv=>whnf);repeat(first|(refine mvT ?_;conv=>whnf)|(refine mvF ?_;conv=>whnf)|(refine cT (by rfl) ?_;conv=>whnf)|(refine cF (by rfl) ?_;conv=>whnf)))
  intro b w1 hb ho hx
  have hx0 := hx0.e0 hx
  have ho := ho
  ((conv=>whnf);repeat(first|(refine mvT ?_;conv=>whnf)|(refine mvF ?_;conv=>whnf)|(refine cT (by rfl) ?_;conv=>whnf)|(refine cF (by rfl) ?_;conv=>whnf)))
  have hxs := hx0
  intro b2 w2 hb2 ho2 hx2
  ((conv=>whnf);repeat(first|(refine mvT ?_;conv=>whnf)|(refine mvF ?_;conv=>whnf)|(refine cT (by rfl) ?_;conv=>whnf)|(refine cF (by rfl) ?_;conv=>whnf)))
  have hx0 := hx0.e0 hx2
  refine ⟨_, _, ho.e0 hx2, rfl, rfl, rfl, ?_⟩
  intro w3 ho3 hx3
  have hx03 := hx0.st hx3 hb
  ((conv=>whnf);repeat(first|(refine mvT ?_;conv=>whnf)|(refine mvF ?_;conv=>whnf)|(refine cT (by rfl) ?_;conv=>whnf)|(refine cF (by rfl) ?_;conv=>whnf)))
  refine ⟨_, rfl, ho3.cells, ?_⟩
  refine ⟨⟨_, rfl, ?_⟩, hx03⟩
  have ho2 := ho2.ext hx3 (by have := ho.lt; omega)
  have hs := hx0.size
  have hs2 : w.heap.size ≤ b2 := Nat.le_trans hxs.size hb2
  exact FdL.fds (cs := [[.int .i64 3, .int .i64 0, .int .i64 (-1), .int .i64 (-1), .int .i64 (-1), .int .i64 0, .int .i64 0, .slice none 0 0], [.int .i64 4, .int .i64 0, .int .i64 (-1), .int .i64 (-1), .int .i64 (-1), .int .i64 (-1), .int .i64 0, .slice none 0 0], [.int .i64 4, .int .i64 0, .int .i64 (-1), .int .i64 (-1), .int .i64 (-1), .int .i64 0, .int .i64 0, .slice none 0 0], [.int .i64 0, .int .i64 0, .int .i64 (-1), .int .i64 (-1), .int .i64 (-1), .int .i64 0, .int .i64 0, .slice none 0 0], [.int .i64 0, .int .i64 0, .int .i64 (-1), .int .i64 (-1), .int .i64 (-1), .int .i64 0, .int .i64 0, .slice none 0 0], [.int .i64 11, .int .i64 0, .int .i64 (-1), .int .i64 (-1), .int .i64 0, .int .i64 0, .int .i64 7, .slice none 0 0], [.int .i64 11, .int .i64 0, .int .i64 (-1), .int .i64 (-1), .int .i64 1, .int .i64 0, .int .i64 7, .slice none 0 0]])
    ⟨fdLeaf _ _ _ _ _ _ _ _ _, fdLeaf _ _ _ _ _ _ _ _ _, fdLeaf _ _ _ _ _ _ _ _ _, fdLeaf _ _ _ _ _ _ _ _ _, fdLeaf _ _ _ _ _ _ _ _ _, fdLeaf _ _ _ _ _ _ _ _ _, fdLeaf _ _ _ _ _ _ _ _ _, trivial⟩ ho2 rfl (by decide) (by omega)
theorem dfBrokerHeartbeatRequest {w : World} {q o : Nat} {T : TypeId} {pre cur post : List Value} (ho : Own w q T (pre ++ cur ++ post)) (hp : pre.length = o) (hl : cur.length = 9) :
    Does X.P 61 #[.pointer (some ⟨q, o, none⟩)] w fun r w' => Own w' q T (pre ++ (cur.set 2 (.int .i64 (-1))) ++ post) ∧ Ext (fun k => k = q) w w' := by
  have hx : Ext (fun k => k = q) w w := Ext.refl _ _
  refine Does.go (X := X) (l := [_]) Tryz.func61 rfl (by kernel_rfl) (by kernel_rfl) _ rfl ?_
  ((conv=>whnf);repeat(first|(refine mvT ?_;conv=>whnf)|(refine mvF ?_;conv=>whnf)|(refine cT (by rfl) ?_;conv=>whnf)|(refine cF (by rfl) ?_;conv=>whnf)))
  refine stm ho 2 rfl rfl hp (by omega) rfl (by first | omega | (simp only [List.length_set]; omega)) ?_
  intro w0 ho hxd
  have hx := hx.trans hxd fun _ _ h => h
  ((conv=>whnf);repeat(first|(refine mvT ?_;conv=>whnf)|(refine mvF ?_;conv=>whnf)|(refine cT (by rfl) ?_;conv=>whnf)|(refine cF (by rfl) ?_;conv=>whnf)))
  exact ⟨ho, hx⟩
theorem readBrokerHeartbeatRequest {w0 : World} {F : Nat → Prop} {p : Nat} {ty : TypeId} {v : Int} {x ev : Value} {l : List UInt8} (hL : Laid w0 ev) (hp : Own w0 p ty [.int .i16 v, .int .i32 0, .int .i64 (-1), .int .i64 0, .bool false, .bool false, .slice none 0 0, .slice none 0 0, .map none]) (hx : Bytes w0 F x l) (hF : ∀ k, F k → k ≠ p) (hv : 0 ≤ v) (hp1 : p ≠ errG) :
    Does X.P 62 #[.pointer (some ⟨p, 0, none⟩), x, .bool false] w0 fun r w' => RdPost w0 p ty v (decide (v ≥ 0)) true dBrokerHeartbeatRequest ev l r w' := by
  have hpl := hp.lt
  obtain ⟨fx, hfx⟩ : ∃ fx, fx = decide (v ≥ 0) := ⟨_, rfl⟩
  rw [← hfx]
  obtain ⟨G0, hG0, hx⟩ : ∃ G0 : Nat → Prop, (∀ k, G0 k → k < w0.heap.size ∧ k ≠ p) ∧ Bytes w0 G0 x l := ⟨fun k => F k ∧ k < w0.heap.size, fun k h => ⟨h.2, hF k h.1⟩, Sl.mono hx fun k hk h => ⟨h, hk⟩⟩
  obtain ⟨a0, c0, rfl, _⟩ := hx.view
  refine Does.go (X := X) (l := [_, _, _]) Tryz.func62 rfl (by kernel_rfl) (by kernel_rfl) _ rfl ?_
  ((conv=>whnf);repeat(first|(refine mvT ?_;conv=>whnf)|(refine mvF ?_;conv=>whnf)|(refine cT (by rfl) ?_;conv=>whnf)|(refine cF (by rfl) ?_;conv=>whnf)))
  refine Does.mono (dfBrokerHeartbeatRequest (pre := []) (cur := [.int .i16 v, .int .i32 0, .int .i64 (-1), .int .i64 0, .bool false, .bool false, .slice none 0 0, .slice none 0 0, .map none]) (post := []) (by simpa using hp) rfl rfl) ?_
  rintro rd wd ⟨hpd, hxd⟩
  ((conv=>whnf);repeat(first|(refine mvT ?_;conv=>whnf)|(refine mvF ?_;conv=>whnf)|(refine cT (by rfl) ?_;conv=>whnf)|(refine cF (by rfl) ?_;conv=>whnf)))
  intro pb w1 hpb hb hx1
  ((conv=>whnf);repeat(first|(refine mvT ?_;conv=>whnf)|(refine mvF ?_;conv=>whnf)|(refine cT (by rfl) ?_;conv=>whnf)|(refine cF (by rfl) ?_;conv=>whnf)))
  refine st_all [.slice a0 l.length c0, .bool false] hb rfl rfl rfl ?_
  intro w hb hx2
  ((conv=>whnf);repeat(first|(refine mvT ?_;conv=>whnf)|(refine mvF ?_;conv=>whnf)|(refine cT (by rfl) ?_;conv=>whnf)|(refine cF (by rfl) ?_;conv=>whnf)))
  have hsd := hxd.size
  have hwp : w0.heap.size ≤ pb := by omega
  have he1 : Ext nob wd w := hx1.trans hx2 fun k hk h => by omega
  have hpw : Own w p ty [.int .i16 v, .int .i32 0, .int .i64 (-1), .int .i64 0, .bool false, .bool false, .slice none 0 0, .slice none 0 0, .map none] := by have := hpd.e0 he1; simpa using this
  have he := hxd.tr0 he1
  have H := St.init hpw hb (hx.ext he fun k _ h => (hG0 k h).2) hG0 he hpl hwp
  clear hpd hxd hx1 hx2 hb hpw he1 hp
  refine ldS (H.cell (o := 0) rfl (k := 0) rfl) ?_;((conv=>whnf);repeat(first|(refine mvT ?_;conv=>whnf)|(refine mvF ?_;conv=>whnf)|(refine cT (by rfl) ?_;conv=>whnf)|(refine cF (by rfl) ?_;conv=>whnf)))
  rw [← hfx]
  (refine mvB ?_;((conv=>whnf);repeat(first|(refine mvT ?_;conv=>whnf)|(refine mvF ?_;conv=>whnf)|(refine cT (by rfl) ?_;conv=>whnf)|(refine cF (by rfl) ?_;conv=>whnf))))
  have hup0 : tailBad 9 v fx dBrokerHeartbeatRequest dBrokerHeartbeatRequest (l, false) = true → (rdPart 9 v fx dBrokerHeartbeatRequest (l, false)).2.2 = true := fun h => (tailBad_part _ _ _ _ _).symm.trans h
  refine Does.mono H.int32 ?_
  rintro r w ⟨n1, s1, rfl, hn1, hr1, H⟩
  ((conv=>whnf);repeat(first|(refine mvT ?_;conv=>whnf)|(refine mvF ?_;conv=>whnf)|(refine cT (by rfl) ?_;conv=>whnf)|(refine cF (by rfl) ?_;conv=>whnf)))
  refine H.st1 (v := .int .i32 n1) 1 (rfl) (rfl) rfl (by simp) rfl (Nat.lt_of_lt_of_le (Nat.lt_succ_self _) (Nat.le_of_ble_eq_true rfl)) ?_
  intro w H
  ((conv=>whnf);repeat(first|(refine mvT ?_;conv=>whnf)|(refine mvF ?_;conv=>whnf)|(refine cT (by rfl) ?_;conv=>whnf)|(refine cF (by rfl) ?_;conv=>whnf)))
  replace H : St w0 G0 p pb s1 ((p, ty, [] ++ [.int .i16 v, .int .i32 n1, .int .i64 (-1), .int .i64 0, .bool false, .bool false, .slice none 0 0, .slice none 0 0, .map none] ++ []) :: []) (fun _ => True) w := H
  refine Does.mono H.int64 ?_
  rintro r w ⟨n3, s3, rfl, hn3, hr3, H⟩
  ((conv=>whnf);repeat(first|(refine mvT ?_;conv=>whnf)|(refine mvF ?_;conv=>whnf)|(refine cT (by rfl) ?_;conv=>whnf)|(refine cF (by rfl) ?_;conv=>whnf)))
  refine H.st1 (v := .int .i64 n3) 2 (rfl) (rfl) rfl (by simp) rfl (Nat.lt_of_lt_of_le (Nat.lt_succ_self _) (Nat.le_of_ble_eq_true rfl)) ?_
  intro w H
  ((conv=>whnf);repeat(first|(refine mvT ?_;conv=>whnf)|(refine mvF ?_;conv=>whnf)|(refine cT (by rfl) ?_;conv=>whnf)|(refine cF (by rfl) ?_;conv=>whnf)))
  replace H : St w0 G0 p pb s3 ((p, ty, [] ++ [.int .i16 v, .int .i32 n1, .int .i64 n3, .int .i64 0, .bool false, .bool false, .slice none 0 0, .slice none 0 0, .map none] ++ []) :: []) (fun _ => True) w := H
  refine Does.mono H.int64 ?_
  rintro r w ⟨n5, s5, rfl, hn5, hr5, H⟩
  ((conv=>whnf);repeat(first|(refine mvT ?_;conv=>whnf)|(refine mvF ?_;conv=>whnf)|(refine cT (by rfl) ?_;conv=>whnf)|(refine cF (by rfl) ?_;conv=>whnf)))
  refine H.st1 (v := .int .i64 n5) 3 (rfl) (rfl) rfl (by simp) rfl (Nat.lt_of_lt_of_le (Nat.lt_succ_self _) (Nat.le_of_ble_eq_true rfl)) ?_
  intro w H
  ((conv=>whnf);repeat(first|(refine mvT ?_;conv=>whnf)|(refine mvF ?_;conv=>whnf)|(refine cT (by rfl) ?_;conv=>whnf)|(refine cF (by rfl) ?_;conv=>whnf)))
  replace H : St w0 G0 p pb s5 ((p, ty, [] ++ [.int .i16 v, .int .i32 n1, .int .i64 n3, .int .i64 n5, .bool false, .bool false, .slice none 0 0, .slice none 0 0, .map none] ++ []) :: []) (fun _ => True) w := H
  refine Does.mono H.bool ?_
  rintro r w ⟨b7, s7, rfl, hr7, H⟩
  ((conv=>whnf);repeat(first|(refine mvT ?_;conv=>whnf)|(refine mvF ?_;conv=>whnf)|(refine cT (by rfl) ?_;conv=>whnf)|(refine cF (by rfl) ?_;conv=>whnf)))
  (refine mvB ?_;((conv=>whnf);repeat(first|(refine mvT ?_;conv=>whnf)|(refine mvF ?_;conv=>whnf)|(refine cT (by rfl) ?_;conv=>whnf)|(refine cF (by rfl) ?_;conv=>whnf))))
  refine H.st1 (v := .bool b7) 4 (rfl) (rfl) rfl (by simp) rfl (Nat.lt_of_lt_of_le (Nat.lt_succ_self _) (Nat.le_of_ble_eq_true rfl)) ?_
  intro w H
  ((conv=>whnf);repeat(first|(refine mvT ?_;conv=>whnf)|(refine mvF ?_;conv=>whnf)|(refine cT (by rfl) ?_;conv=>whnf)|(refine cF (by rfl) ?_;conv=>whnf)))
  replace H : St w0 G0 p pb s7 ((p, ty, [] ++ [.int .i16 v, .int .i32 n1, .int .i64 n3, .int .i64 n5, .bool b7, .bool false, .slice none 0 0, .slice none 0 0, .map none] ++ []) :: []) (fun _ => True) w := H
  refine Does.mono H.bool ?_
  rintro r w ⟨b9, s9, rfl, hr9, H⟩
  ((conv=>whnf);repeat(first|(refine mvT ?_;conv=>whnf)|(refine mvF ?_;conv=>whnf)|(refine cT (by rfl) ?_;conv=>whnf)|(refine cF (by rfl) ?_;conv=>whnf)))
  (refine mvB ?_;((conv=>whnf);repeat(first|(refine mvT ?_;conv=>whnf)|(refine mvF ?_;conv=>whnf)|(refine cT (by rfl) ?_;conv=>whnf)|(refine cF (by rfl) ?_;conv=>whnf))))
  refine H.st1 (v := .bool b9) 5 (rfl) (rfl) rfl (by simp) rfl (Nat.lt_of_lt_of_le (Nat.lt_succ_self _) (Nat.le_of_ble_eq_true rfl)) ?_
  intro w H
  ((conv=>whnf);repeat(first|(refine mvT ?_;conv=>whnf)|(refine mvF ?_;conv=>whnf)|(refine cT (by rfl) ?_;conv=>whnf)|(refine cF (by rfl) ?_;conv=>whnf)))
  replace H : St w0 G0 p pb s9 ((p, ty, [] ++ [.int .i16 v, .int .i32 n1, .int .i64 n3, .int .i64 n5, .bool b7, .bool b9, .slice none 0 0, .slice none 0 0, .map none] ++ []) :: []) (fun _ => True) w := H
  (refine mvB ?_;((conv=>whnf);repeat(first|(refine mvT ?_;conv=>whnf)|(refine mvF ?_;conv=>whnf)|(refine cT (by rfl) ?_;conv=>whnf)|(refine cF (by rfl) ?_;conv=>whnf))))
  refine VC.cutE (fun q : Value × List Tg × Rd × Value × T × Value × T => [(0, .pointer (some ⟨p, 0, none⟩)), (2, .bool false), (7, .pointer (some ⟨pb, 0, none⟩)), (8, .int .i16 v), (9, .bool fx), (10, .pointer (some ⟨p, 0, none⟩))]) (fun q w' => rdTail (rdField 9 v fx) dBrokerHeartbeatRequest fx [numT n1, numT n3, numT n5, numT (if b7 = true then 1 else 0), numT (if b9 = true then 1 else 0), .mk 0 [] true [] [], .mk 0 [] true [] []] s9 = (([numT n1, numT n3, numT n5, numT (if b7 = true then 1 else 0), numT (if b9 = true then 1 else 0), q.2.2.2.2.1, q.2.2.2.2.2.2], q.2.1), q.2.2.1) ∧ St w0 G0 p pb q.2.2.1 ((p, ty, [] ++ [.int .i16 v, .int .i32 n1, .int .i64 n3, .int .i64 n5, .bool b7, .bool b9, q.2.2.2.1, q.2.2.2.2.2.1, q.1] ++ []) :: []) (fun w => QField true 9 (.mk 11 0 (-1) (-2) 1 0 7 []) ⟨w, FG w0 G0⟩ [q.2.2.2.2.2.1] (q.2.2.2.2.2.2) ∧ QField true 9 (.mk 11 0 (-1) (-1) 0 0 7 []) ⟨w, FG w0 G0⟩ [q.2.2.2.1] (q.2.2.2.2.1) ∧ TGf w0 G0 q.1 q.2.1 w ∧ (fun _ => True) w) w') ?_ ?_
  · refine cI (by rfl) (fun hc=>?_) (fun hc=>?_)
    · ((conv=>whnf);repeat(first|(refine mvT ?_;conv=>whnf)|(refine mvF ?_;conv=>whnf)|(refine cT (by rfl) ?_;conv=>whnf)|(refine cF (by rfl) ?_;conv=>whnf)))
      obtain ⟨wA11, rfl⟩ : ∃ x, x = w := ⟨w, rfl⟩
      have HA11 := H
      have hA11 := HA11.tgA
      have hlt0 := rdUv_lt s9
      refine Does.mono (rdUvarint_does HA11.rd HA11.Gpb) ?_
      rintro r w ⟨rfl, hr⟩
      ((conv=>whnf);repeat(first|(refine mvT ?_;conv=>whnf)|(refine mvF ?_;conv=>whnf)|(refine cT (by rfl) ?_;conv=>whnf)|(refine cF (by rfl) ?_;conv=>whnf)))
      have HT : TgS wA11 G0 pb p ty [] [.int .i16 v, .int .i32 n1, .int .i64 n3, .int .i64 n5, .bool b7, .bool b9, .slice none 0 0, .slice none 0 0, (.map none)] [] [] (rdUv s9).2 (.map none) [] (fun m w => Slot w wA11 G0 9 (.mk 11 0 (-1) (-1) 0 0 7 []) 147 16 [m, .slice none 0 0] [.slice none 0 0] (.mk 0 [] true [] []) ∧ Slot w wA11 G0 9 (.mk 11 0 (-1) (-2) 1 0 7 []) 147 16 [m, .slice none 0 0] [.slice none 0 0] (.mk 0 [] true [] [])) w := TgS.start HA11 hr ⟨Slot.none (fun _ => QF11 (fun _ => rfl) (.inl ⟨rfl, rfl⟩)) (fun _ => ⟨rfl, rfl⟩), Slot.none (fun _ => QF11 (fun _ => rfl) (.inl ⟨rfl, rfl⟩)) (fun _ => ⟨rfl, rfl⟩)⟩ (fun w w' m m' h hx hm => ⟨Slot.clo hA11 (h.1) hx hm, Slot.clo hA11 (h.2) hx hm⟩)
      clear H hr
      refine VL.loop (fun i : Nat => [(16, .int .u32 i), (0, .pointer (some ⟨p, 0, none⟩)), (2, .bool false), (7, .pointer (some ⟨pb, 0, none⟩)), (8, .int .i16 v), (9, .bool fx), (10, .pointer (some ⟨p, 0, none⟩))]) (fun i w' => ∃ (st : Rd) (m : Value) (u : List Tg) (c0_0 c1_0 : Value) (xc0 xc1 : T), rdTgX (rdField 9 v fx) dBrokerHeartbeatRequest i [numT n1, numT n3, numT n5, numT (if b7 = true then 1 else 0), numT (if b9 = true then 1 else 0), xc0, xc1] u st = rdTgX (rdField 9 v fx) dBrokerHeartbeatRequest (rdUv s9).1 [numT n1, numT n3, numT n5, numT (if b7 = true then 1 else 0), numT (if b9 = true then 1 else 0), .mk 0 [] true [] [], .mk 0 [] true [] []] [] (rdUv s9).2 ∧ i < 4294967296 ∧ TgS wA11 G0 pb p ty [] [.int .i16 v, .int .i32 n1, .int .i64 n3, .int .i64 n5, .bool b7, .bool b9, c0_0, c1_0, m] [] [] st m u (fun m w => Slot w wA11 G0 9 (.mk 11 0 (-1) (-1) 0 0 7 []) 147 16 [m, c1_0] [c0_0] (xc0) ∧ Slot w wA11 G0 9 (.mk 11 0 (-1) (-2) 1 0 7 []) 147 16 [m, c0_0] [c1_0] (xc1)) w') (fun i => i) (rdUv s9).1 ⟨rfl, rfl, rfl, rfl, rfl, rfl, rfl, trivial⟩ ⟨_, _, _, _, _, _, _, rfl, hlt0, HT⟩ ?_
      clear HT
      rintro i w ⟨st, m, u, c0_0, c1_0, xc0, xc1, hrun, hi, HT⟩
      ((conv=>whnf);repeat(first|(refine mvT ?_;conv=>whnf)|(refine mvF ?_;conv=>whnf)|(refine cT (by rfl) ?_;conv=>whnf)|(refine cF (by rfl) ?_;conv=>whnf)))
      refine cI (by rfl) (fun h9=>?_) (fun h9=>?_)
      · obtain ⟨j, rfl⟩ : ∃ j, i = j + 1 := ⟨i - 1, by have := of_decide_eq_true h9; omega⟩
        ((conv=>whnf);repeat(first|(refine mvT ?_;conv=>whnf)|(refine mvF ?_;conv=>whnf)|(refine cT (by rfl) ?_;conv=>whnf)|(refine cF (by rfl) ?_;conv=>whnf)))
        refine Does.mono (HT.uv hA11) ?_
        rintro r w ⟨key, st1, rfl, hkey, hu1, HT⟩
        ((conv=>whnf);repeat(first|(refine mvT ?_;conv=>whnf)|(refine mvF ?_;conv=>whnf)|(refine cT (by rfl) ?_;conv=>whnf)|(refine cF (by rfl) ?_;conv=>whnf)))
        refine cI (by rfl) (fun hk0=>?_) (fun hk0=>?_)
        · have hk0 : key = 0 := by have h := hk0; simp at h; omega
          subst hk0
          ((conv=>whnf);repeat(first|(refine mvT ?_;conv=>whnf)|(refine mvF ?_;conv=>whnf)|(refine cT (by rfl) ?_;conv=>whnf)|(refine cF (by rfl) ?_;conv=>whnf)))
          refine Does.mono (HT.uv hA11) ?_
          rintro r w ⟨z, st2, rfl, hz, hu2, HT⟩
          ((conv=>whnf);repeat(first|(refine mvT ?_;conv=>whnf)|(refine mvF ?_;conv=>whnf)|(refine cT (by rfl) ?_;conv=>whnf)|(refine cF (by rfl) ?_;conv=>whnf)))
          rw [i64_of (n := (z : Int)) (by omega) (by omega)]
          refine Does.mono (HT.span hA11 z) ?_
          rintro r w ⟨bb, st3, hsp, hbb, HT⟩
          obtain ⟨a7, c7, rfl, _⟩ := hbb.view
          ((conv=>whnf);repeat(first|(refine mvT ?_;conv=>whnf)|(refine mvF ?_;conv=>whnf)|(refine cT (by rfl) ?_;conv=>whnf)|(refine cF (by rfl) ?_;conv=>whnf)))
          obtain ⟨w1_12, rfl⟩ : ∃ x, x = w := ⟨w, rfl⟩
          intro pb12 wb hpb hb2 hxb1
          ((conv=>whnf);repeat(first|(refine mvT ?_;conv=>whnf)|(refine mvF ?_;conv=>whnf)|(refine cT (by rfl) ?_;conv=>whnf)|(refine cF (by rfl) ?_;conv=>whnf)))
          refine st_all [.slice a7 bb.length c7, .bool false] hb2 rfl rfl rfl ?_
          intro w hb2 hxb2
          ((conv=>whnf);repeat(first|(refine mvT ?_;conv=>whnf)|(refine mvF ?_;conv=>whnf)|(refine cT (by rfl) ?_;conv=>whnf)|(refine cF (by rfl) ?_;conv=>whnf)))
          have he : Ext nob w1_12 w := hxb1.trans hxb2 fun k hk h => by omega
          obtain ⟨hG1, hb1⟩ := HT.src hA11
          have H := St.tag hb2 (hbb.e0 he) hG1 he hb1 hpb
          clear hb2 hxb1 hxb2 he
          obtain ⟨hown, hsep⟩ := (HT.slots.1).ownL rfl
          obtain ⟨qa, na, ca, rfl, hqa, hna⟩ := hown.slice
          refine ldS (own_cell (HT.own.1.e0 H.now) (o := 0) rfl (k := 6) rfl) ?_;((conv=>whnf);repeat(first|(refine mvT ?_;conv=>whnf)|(refine mvF ?_;conv=>whnf)|(refine cT (by rfl) ?_;conv=>whnf)|(refine cF (by rfl) ?_;conv=>whnf)))
          (refine mvB ?_;((conv=>whnf);repeat(first|(refine mvT ?_;conv=>whnf)|(refine mvF ?_;conv=>whnf)|(refine cT (by rfl) ?_;conv=>whnf)|(refine cF (by rfl) ?_;conv=>whnf))))
          refine VC.cutE (fun q : Int × Rd => [(21, .int .i32 q.1), (20, .slice qa na ca), (0, .pointer (some ⟨p, 0, none⟩)), (2, .bool false), (7, .pointer (some ⟨pb, 0, none⟩)), (8, .int .i16 v), (9, .bool fx), (10, .pointer (some ⟨p, 0, none⟩)), (16, .int .u32 ((j + 1 : Nat) : Int)), (18, .pointer (some ⟨pb12, 0, none⟩))]) (fun q w' => (-2147483648 ≤ q.1 ∧ q.1 ≤ 2147483647) ∧ rdLn fx (bb, false) = q ∧ St w1_12 G0 pb pb12 q.2 [] (fun w' => Ext nob w1_12 w') w') ?_ ?_
          · refine cI (by rfl) (fun hc2=>?_) (fun hc2=>?_)
            · ((conv=>whnf);repeat(first|(refine mvT ?_;conv=>whnf)|(refine mvF ?_;conv=>whnf)|(refine cT (by rfl) ?_;conv=>whnf)|(refine cF (by rfl) ?_;conv=>whnf)))
              refine Does.mono H.lnc ?_
              rintro r w ⟨n, s', rfl, hn, hr, H⟩
              ((conv=>whnf);repeat(first|(refine mvT ?_;conv=>whnf)|(refine mvF ?_;conv=>whnf)|(refine cT (by rfl) ?_;conv=>whnf)|(refine cF (by rfl) ?_;conv=>whnf)))
              exact ⟨(n, s'), ⟨rfl, rfl, rfl, rfl, rfl, rfl, rfl, rfl, rfl, rfl, trivial⟩, hn, by rw [hc2]; exact hr, H⟩
            · ((conv=>whnf);repeat(first|(refine mvT ?_;conv=>whnf)|(refine mvF ?_;conv=>whnf)|(refine cT (by rfl) ?_;conv=>whnf)|(refine cF (by rfl) ?_;conv=>whnf)))
              refine Does.mono H.lnp ?_
              rintro r w ⟨n, s', rfl, hn, hr, H⟩
              ((conv=>whnf);repeat(first|(refine mvT ?_;conv=>whnf)|(refine mvF ?_;conv=>whnf)|(refine cT (by rfl) ?_;conv=>whnf)|(refine cF (by rfl) ?_;conv=>whnf)))
              exact ⟨(n, s'), ⟨rfl, rfl, rfl, rfl, rfl, rfl, rfl, rfl, rfl, rfl, trivial⟩, hn, by rw [hc2]; exact hr, H⟩
          clear H
          rintro ⟨n12, s12⟩ w ⟨hn12, hln12, H⟩
          dsimp only at hn12 hln12 H
          ((conv=>whnf);repeat(first|(refine mvT ?_;conv=>whnf)|(refine mvF ?_;conv=>whnf)|(refine cT (by rfl) ?_;conv=>whnf)|(refine cF (by rfl) ?_;conv=>whnf)))
          refine Does.mono H.ok ?_
          rintro r w ⟨rfl, H⟩
          ((conv=>whnf);repeat(first|(refine mvT ?_;conv=>whnf)|(refine mvF ?_;conv=>whnf)|(refine cT (by rfl) ?_;conv=>whnf)|(refine cF (by rfl) ?_;conv=>whnf)))
          refine cI (by rfl) (fun hbd=>?_) (fun hbd=>?_)
          · have hbd : s12.2 = true := by simpa using hbd
            ((conv=>whnf);repeat(first|(refine mvT ?_;conv=>whnf)|(refine mvF ?_;conv=>whnf)|(refine cT (by rfl) ?_;conv=>whnf)|(refine cF (by rfl) ?_;conv=>whnf)))
            refine Does.mono (Complete_does ((HT.laid HA11 hL hp1).ext H.now fun f => f) H.rd) ?_
            rintro r _ ⟨rfl, rfl⟩
            ((conv=>whnf);repeat(first|(refine mvT ?_;conv=>whnf)|(refine mvF ?_;conv=>whnf)|(refine cT (by rfl) ?_;conv=>whnf)|(refine cF (by rfl) ?_;conv=>whnf)))
            rw [if_pos hbd]
            refine RdPost.fell (hup0 ?_) ((HT.ext0 HA11).tr0 H.now)
            rw [tail_yes (rdField3.trans hr1) ⟨by decide, has_all hv⟩, tail_yes (rdField4.trans hr3) ⟨by decide, has_all hv⟩, tail_yes (rdField4.trans hr5) ⟨by decide, has_all hv⟩, tail_yes (rdField0.trans hr7) ⟨by decide, has_all hv⟩, tail_yes (rdField0.trans hr9) ⟨by decide, has_all hv⟩, tail_tag (f := (.mk 11 0 (-1) (-1) 0 0 7 [])) (by decide), tail_tag (f := (.mk 11 0 (-1) (-2) 1 0 7 [])) (by decide), tail_run (by decide) hc hrun]
            exact rdTgX_fell hu1 hu2 hsp rfl (field_len hln12 hbd)
          have hbd : s12.2 = false := by simpa using hbd
          clear hbd
          ((conv=>whnf);repeat(first|(refine mvT ?_;conv=>whnf)|(refine mvF ?_;conv=>whnf)|(refine cT (by rfl) ?_;conv=>whnf)|(refine cF (by rfl) ?_;conv=>whnf)))
          refine cut0_slice hna hqa ?_
          ((conv=>whnf);repeat(first|(refine mvT ?_;conv=>whnf)|(refine mvF ?_;conv=>whnf)|(refine cT (by rfl) ?_;conv=>whnf)|(refine cF (by rfl) ?_;conv=>whnf)))
          refine VC.cutE (fun a : Value => [(21, .int .i32 n12), (20, a), (0, .pointer (some ⟨p, 0, none⟩)), (2, .bool false), (7, .pointer (some ⟨pb, 0, none⟩)), (8, .int .i16 v), (9, .bool fx), (10, .pointer (some ⟨p, 0, none⟩)), (16, .int .u32 ((j + 1 : Nat) : Int)), (18, .pointer (some ⟨pb12, 0, none⟩))]) (fun a w' => TagI w1_12 G0 pb pb12 147 [.int .u8 0, .int .u8 0, .int .u8 0, .int .u8 0, .int .u8 0, .int .u8 0, .int .u8 0, .int .u8 0, .int .u8 0, .int .u8 0, .int .u8 0, .int .u8 0, .int .u8 0, .int .u8 0, .int .u8 0, .int .u8 0] (elR 8 v fx 7 []) (elQ true 8 7 []) s12 n12 (decide (n12 ≤ 0)) (.slice qa na ca) a 0 w') ?_ ?_
          · refine cI (by rfl) (fun hps=>?_) (fun hps=>?_)
            · have hps : 0 < n12 := by have := of_decide_eq_true hps; omega
              ((conv=>whnf);repeat(first|(refine mvT ?_;conv=>whnf)|(refine mvF ?_;conv=>whnf)|(refine cT (by rfl) ?_;conv=>whnf)|(refine cF (by rfl) ?_;conv=>whnf)))
              refine TagI.grow (rd := elR 8 v fx 7 []) (R := elQ true 8 7 []) H hown hA11.old hps hn12.2 (by decide) rfl rfl (by decide) ?_
              intro a w H
              ((conv=>whnf);repeat(first|(refine mvT ?_;conv=>whnf)|(refine mvF ?_;conv=>whnf)|(refine cT (by rfl) ?_;conv=>whnf)|(refine cF (by rfl) ?_;conv=>whnf)))
              exact ⟨_, ⟨rfl, rfl, rfl, rfl, rfl, rfl, rfl, rfl, rfl, rfl, trivial⟩, by rw [show (decide (n12 ≤ 0)) = false by simp; omega]; exact H⟩
            · have hps : n12 ≤ 0 := by have := of_decide_eq_false hps; omega
              ((conv=>whnf);repeat(first|(refine mvT ?_;conv=>whnf)|(refine mvF ?_;conv=>whnf)|(refine cT (by rfl) ?_;conv=>whnf)|(refine cF (by rfl) ?_;conv=>whnf)))
              exact ⟨_, ⟨rfl, rfl, rfl, rfl, rfl, rfl, rfl, rfl, rfl, rfl, trivial⟩, TagI.none hps (decide_eq_true hps) H⟩
          clear H
          rintro a12 w H
          ((conv=>whnf);repeat(first|(refine mvT ?_;conv=>whnf)|(refine mvF ?_;conv=>whnf)|(refine cT (by rfl) ?_;conv=>whnf)|(refine cF (by rfl) ?_;conv=>whnf)))
          refine VL.loop (fun i : Nat => [(21, .int .i32 n12), (20, a12), (22, .int .i32 i), (0, .pointer (some ⟨p, 0, none⟩)), (2, .bool false), (7, .pointer (some ⟨pb, 0, none⟩)), (8, .int .i16 v), (9, .bool fx), (10, .pointer (some ⟨p, 0, none⟩)), (16, .int .u32 ((j + 1 : Nat) : Int)), (18, .pointer (some ⟨pb12, 0, none⟩))]) (fun i w' => i ≤ 2147483647 ∧ TagI w1_12 G0 pb pb12 147 [.int .u8 0, .int .u8 0, .int .u8 0, .int .u8 0, .int .u8 0, .int .u8 0, .int .u8 0, .int .u8 0, .int .u8 0, .int .u8 0, .int .u8 0, .int .u8 0, .int .u8 0, .int .u8 0, .int .u8 0, .int .u8 0] (elR 8 v fx 7 []) (elQ true 8 7 []) s12 n12 (decide (n12 ≤ 0)) (.slice qa na ca) a12 i w') (fun i => n12.toNat - i) 0 ⟨rfl, rfl, rfl, rfl, rfl, rfl, rfl, rfl, rfl, rfl, rfl, trivial⟩ ⟨by decide, H⟩ ?_
          clear H
          rintro i12 w ⟨hi12, H⟩
          ((conv=>whnf);repeat(first|(refine mvT ?_;conv=>whnf)|(refine mvF ?_;conv=>whnf)|(refine cT (by rfl) ?_;conv=>whnf)|(refine cF (by rfl) ?_;conv=>whnf)))
          refine cI (by rfl) (fun h9=>?_) (fun h9=>?_)
          · have hlt12 : (i12 : Int) < n12 := of_decide_eq_true h9
            obtain ⟨p12, g12, cap12, post12, rfl, hgo12, HI⟩ := H.go hlt12
            obtain ⟨es12, ts12, si12, hes12, hez12, hrn12, hts12, hlen1, H⟩ := HI.open hgo12.2.2.2.2
            obtain ⟨P12, hP12⟩ : ∃ P : World → Prop, P = fun w => (∀ (j : Nat) (c : List Value) (y : T), es12[j]? = some c → ts12[j]? = some y → elQ true 8 7 [] ⟨w, FG w1_12 G0⟩ c y) ∧ Ext (OwnB (.slice qa na ca)) w1_12 w := ⟨_, rfl⟩
            replace H : St w1_12 G0 p12 pb12 si12 ((g12, 147, es12.flatten ++ [.int .u8 0, .int .u8 0, .int .u8 0, .int .u8 0, .int .u8 0, .int .u8 0, .int .u8 0, .int .u8 0, .int .u8 0, .int .u8 0, .int .u8 0, .int .u8 0, .int .u8 0, .int .u8 0, .int .u8 0, .int .u8 0] ++ ((List.replicate (n12.toNat - (i12 + 1)) [.int .u8 0, .int .u8 0, .int .u8 0, .int .u8 0, .int .u8 0, .int .u8 0, .int .u8 0, .int .u8 0, .int .u8 0, .int .u8 0, .int .u8 0, .int .u8 0, .int .u8 0, .int .u8 0, .int .u8 0, .int .u8 0]).flatten ++ post12)) :: []) P12 w := by rw [hP12]; exact H
            ((conv=>whnf);repeat(first|(refine mvT ?_;conv=>whnf)|(refine mvF ?_;conv=>whnf)|(refine cT (by rfl) ?_;conv=>whnf)|(refine cF (by rfl) ?_;conv=>whnf)))
            refine Does.mono H.uuid ?_
            rintro r w ⟨u13, s13, rfl, hu13, hr13, H⟩
            ((conv=>whnf);repeat(first|(refine mvT ?_;conv=>whnf)|(refine mvF ?_;conv=>whnf)|(refine cT (by rfl) ?_;conv=>whnf)|(refine cF (by rfl) ?_;conv=>whnf)))
            obtain ⟨u13_0, u13_1, u13_2, u13_3, u13_4, u13_5, u13_6, u13_7, u13_8, u13_9, u13_10, u13_11, u13_12, u13_13, u13_14, u13_15, rfl⟩ : ∃ u13_0 u13_1 u13_2 u13_3 u13_4 u13_5 u13_6 u13_7 u13_8 u13_9 u13_10 u13_11 u13_12 u13_13 u13_14 u13_15, u13 = [u13_0, u13_1, u13_2, u13_3, u13_4, u13_5, u13_6, u13_7, u13_8, u13_9, u13_10, u13_11, u13_12, u13_13, u13_14, u13_15] := by
              match u13, hu13 with
              | [u13_0, u13_1, u13_2, u13_3, u13_4, u13_5, u13_6, u13_7, u13_8, u13_9, u13_10, u13_11, u13_12, u13_13, u13_14, u13_15], _ => exact ⟨u13_0, u13_1, u13_2, u13_3, u13_4, u13_5, u13_6, u13_7, u13_8, u13_9, u13_10, u13_11, u13_12, u13_13, u13_14, u13_15, rfl⟩
            intro bu wu hbu hou hxu
            ((conv=>whnf);repeat(first|(refine mvT ?_;conv=>whnf)|(refine mvF ?_;conv=>whnf)|(refine cT (by rfl) ?_;conv=>whnf)|(refine cF (by rfl) ?_;conv=>whnf)))
            refine st_all [bcell u13_0, bcell u13_1, bcell u13_2, bcell u13_3, bcell u13_4, bcell u13_5, bcell u13_6, bcell u13_7, bcell u13_8, bcell u13_9, bcell u13_10, bcell u13_11, bcell u13_12, bcell u13_13, bcell u13_14, bcell u13_15] hou rfl rfl rfl ?_
            intro w2 hou hxs
            ((conv=>whnf);repeat(first|(refine mvT ?_;conv=>whnf)|(refine mvF ?_;conv=>whnf)|(refine cT (by rfl) ?_;conv=>whnf)|(refine cF (by rfl) ?_;conv=>whnf)))
            replace H := H.e0 (hxu.trans hxs (M := nob) fun k hk e => by omega)
            refine ⟨_, rfl, hou.cells, ?_⟩
            ((conv=>whnf);repeat(first|(refine mvT ?_;conv=>whnf)|(refine mvF ?_;conv=>whnf)|(refine cT (by rfl) ?_;conv=>whnf)|(refine cF (by rfl) ?_;conv=>whnf)))
            refine ⟨g12, 0, rfl, ⟨by omega, by omega⟩, ?_⟩
            ((conv=>whnf);repeat(first|(refine mvT ?_;conv=>whnf)|(refine mvF ?_;conv=>whnf)|(refine cT (by rfl) ?_;conv=>whnf)|(refine cF (by rfl) ?_;conv=>whnf)))
            refine H.stn [bcell u13_0, bcell u13_1, bcell u13_2, bcell u13_3, bcell u13_4, bcell u13_5, bcell u13_6, bcell u13_7, bcell u13_8, bcell u13_9, bcell u13_10, bcell u13_11, bcell u13_12, bcell u13_13, bcell u13_14, bcell u13_15] 0 rfl rfl rfl (by first | omega | (simp [hlen1]; done) | (simp [hlen1]; omega)) rfl (Nat.le_of_ble_eq_true rfl) ?_
            intro w H
            ((conv=>whnf);repeat(first|(refine mvT ?_;conv=>whnf)|(refine mvF ?_;conv=>whnf)|(refine cT (by rfl) ?_;conv=>whnf)|(refine cF (by rfl) ?_;conv=>whnf)))
            replace H : St w1_12 G0 p12 pb12 s13 ((g12, 147, es12.flatten ++ [bcell u13_0, bcell u13_1, bcell u13_2, bcell u13_3, bcell u13_4, bcell u13_5, bcell u13_6, bcell u13_7, bcell u13_8, bcell u13_9, bcell u13_10, bcell u13_11, bcell u13_12, bcell u13_13, bcell u13_14, bcell u13_15] ++ ((List.replicate (n12.toNat - (i12 + 1)) [.int .u8 0, .int .u8 0, .int .u8 0, .int .u8 0, .int .u8 0, .int .u8 0, .int .u8 0, .int .u8 0, .int .u8 0, .int .u8 0, .int .u8 0, .int .u8 0, .int .u8 0, .int .u8 0, .int .u8 0, .int .u8 0]).flatten ++ post12)) :: []) P12 w := H
            refine ⟨i12 + 1, ⟨rfl, rfl, ?_, rfl, rfl, rfl, rfl, rfl, rfl, rfl, rfl, trivial⟩, ⟨by omega, TagI.back hgo12 (LoopI.next hes12 hez12 hrn12 hts12 (cur := [bcell u13_0, bcell u13_1, bcell u13_2, bcell u13_3, bcell u13_4, bcell u13_5, bcell u13_6, bcell u13_7, bcell u13_8, bcell u13_9, bcell u13_10, bcell u13_11, bcell u13_12, bcell u13_13, bcell u13_14, bcell u13_15]) (x := .mk 0 [u13_0, u13_1, u13_2, u13_3, u13_4, u13_5, u13_6, u13_7, u13_8, u13_9, u13_10, u13_11, u13_12, u13_13, u13_14, u13_15] false [] []) (hr13) rfl H fun w hP => ?_)⟩, by omega⟩
            · show some (Value.int .i32 _) = _
              rw [IntKind.wrap_i32]
              simp only [Option.some.injEq, Value.int.injEq, true_and]
              omega
            · skip
              rw [hP12] at hP
              exact ⟨⟨_, rfl, rfl, rfl⟩, hP⟩
          · skip
            have hge12 : ¬ (i12 : Int) < n12 := of_decide_eq_false h9
            have hsA1 := HT.ext.size
            obtain ⟨l15, s15, hone15, hl15, hr15, hrd, hx1, hownN, hob, hlist⟩ := H.done hge12 hln12 (nl := nlF (.mk 11 0 (-1) (-1) 0 0 7 []) v) rfl rfl (elQ_later 8 7 []) hown hsA1
            ((conv=>whnf);repeat(first|(refine mvT ?_;conv=>whnf)|(refine mvF ?_;conv=>whnf)|(refine cT (by rfl) ?_;conv=>whnf)|(refine cF (by rfl) ?_;conv=>whnf)))
            have howq := HT.ownq hA11 hx1 fun k h => (hown.lt k h).1
            refine stm howq (v := a12) 6 (cells_one hone15) hone15 rfl (by simp) rfl (Nat.lt_of_lt_of_le (Nat.lt_succ_self _) (Nat.le_of_ble_eq_true rfl)) ?_
            obtain ⟨w5, rfl⟩ : ∃ x, x = w := ⟨w, rfl⟩
            intro w ho hx2
            ((conv=>whnf);repeat(first|(refine mvT ?_;conv=>whnf)|(refine mvF ?_;conv=>whnf)|(refine cT (by rfl) ?_;conv=>whnf)|(refine cF (by rfl) ?_;conv=>whnf)))
            have hx := (hx1.mono (M' := fun k => OwnB (.slice qa na ca) k ∨ k = p) fun _ _ h => .inl h).trans hx2 fun k _ h => .inr h
            have hoth : ∀ c, c ∈ [m, c1_0] → ∀ k, OwnB c k → wA11.heap.size ≤ k ∧ k < w1_12.heap.size := fun c hc k hk => by
                simp only [List.mem_cons, List.not_mem_nil, or_false] at hc
                rcases hc with rfl | rfl
                · exact HT.tagb k hk
                · exact ((HT.slots.2).ownL rfl).1.lt k hk
            have hnew : Slot w wA11 G0 9 (.mk 11 0 (-1) (-1) 0 0 7 []) 147 16 [m, c1_0] [a12] (.mk 0 [] ((decide (n12 ≤ 0)) && (xc0).nl) l15 []) := Slot.read hA11 (QF11 hl15 hlist) (fun _ => ⟨_, rfl, hownN, hob⟩) hsep hoth hsA1 (fun k h => (hown.lt k h).1) hx2
            have HT2 : TgS wA11 G0 pb p ty [] [.int .i16 v, .int .i32 n1, .int .i64 n3, .int .i64 n5, .bool b7, .bool b9, a12, c1_0, m] [] [] st3 m u (fun m w => Slot w wA11 G0 9 (.mk 11 0 (-1) (-1) 0 0 7 []) 147 16 [m, c1_0] [a12] (.mk 0 [] ((decide (n12 ≤ 0)) && (xc0).nl) l15 []) ∧ Slot w wA11 G0 9 (.mk 11 0 (-1) (-2) 1 0 7 []) 147 16 [m, a12] [c1_0] (xc1)) w := HT.put hA11 hx ho (fun k h => ⟨(hown.lt k h).1, hsep m (by simp) k h⟩) ⟨hnew, Slot.other hA11 (HT.slots.2) hx (fun k h => by simp) (fun c hc k hk => by
                simp only [List.mem_cons, List.not_mem_nil, or_false] at hc
                rcases hc with rfl
                all_goals first | exact (hob k hk).imp (fun h => ⟨_, by simp, h⟩) id | exact .inl ⟨_, by simp, hk⟩)⟩ (fun w w' m m' h hx hm => ⟨Slot.clo hA11 (h.1) hx hm, Slot.clo hA11 (h.2) hx hm⟩)
            have hfield : rdField 9 v fx (.mk 11 0 (-1) (-1) 0 0 7 []) (bb, false) = (.mk 0 [] (decide (n12 ≤ 0)) l15 [], s15) := (rdField_list _ _ _ _ _ _ _ _ _ _ _).trans hr15
            refine Does.mono (Complete_does (HT2.laid HA11 hL hp1) (HT.rd2 hA11 hpb hrd hx2)) ?_
            rintro r _ ⟨hr9, rfl⟩
            cases hbd9 : s15.2 with
            | true =>
              rw [hbd9, if_pos rfl] at hr9
              obtain ⟨te, xe, hev⟩ := hL.iface
              rw [hev] at hr9
              subst hr9
              ((conv=>whnf);repeat(first|(refine mvT ?_;conv=>whnf)|(refine mvF ?_;conv=>whnf)|(refine cT (by rfl) ?_;conv=>whnf)|(refine cF (by rfl) ?_;conv=>whnf)))
              rw [← hev]
              refine RdPost.fell (hup0 ?_) (HT2.ext0 HA11)
              rw [tail_yes (rdField3.trans hr1) ⟨by decide, has_all hv⟩, tail_yes (rdField4.trans hr3) ⟨by decide, has_all hv⟩, tail_yes (rdField4.trans hr5) ⟨by decide, has_all hv⟩, tail_yes (rdField0.trans hr7) ⟨by decide, has_all hv⟩, tail_yes (rdField0.trans hr9) ⟨by decide, has_all hv⟩, tail_tag (f := (.mk 11 0 (-1) (-1) 0 0 7 [])) (by decide), tail_tag (f := (.mk 11 0 (-1) (-2) 1 0 7 [])) (by decide), tail_run (by decide) hc hrun]
              exact rdTgX_fell hu1 hu2 hsp rfl (by rw [hfield]; exact hbd9)
            | false =>
              rw [hbd9, if_neg Bool.false_ne_true] at hr9
              subst hr9
              ((conv=>whnf);repeat(first|(refine mvT ?_;conv=>whnf)|(refine mvF ?_;conv=>whnf)|(refine cT (by rfl) ?_;conv=>whnf)|(refine cF (by rfl) ?_;conv=>whnf)))
              refine ⟨j, ⟨?_, rfl, rfl, rfl, rfl, rfl, rfl, trivial⟩, ⟨st3, m, u, a12, c1_0, .mk 0 [] ((decide (n12 ≤ 0)) && (xc0).nl) l15 [], xc1, rdTgX_next hrun hu1 hu2 hsp rfl hfield hbd9 (by
                show List.set _ _ (tgX _ (xc0) _) = _
                rw [tgX_list]
                rfl), by omega, HT2⟩, by omega⟩
              show some (Value.int .u32 _) = _
              rw [wrap_u32]
              simp only [Option.some.injEq, Value.int.injEq, true_and]
              omega
        · have hk0 : key ≠ 0 := by have h := hk0; simp at h; omega
          refine cI (by rfl) (fun hk1=>?_) (fun hk1=>?_)
          · have hk1 : key = 1 := by have h := hk1; simp at h; omega
            subst hk1
            ((conv=>whnf);repeat(first|(refine mvT ?_;conv=>whnf)|(refine mvF ?_;conv=>whnf)|(refine cT (by rfl) ?_;conv=>whnf)|(refine cF (by rfl) ?_;conv=>whnf)))
            refine Does.mono (HT.uv hA11) ?_
            rintro r w ⟨z, st2, rfl, hz, hu2, HT⟩
            ((conv=>whnf);repeat(first|(refine mvT ?_;conv=>whnf)|(refine mvF ?_;conv=>whnf)|(refine cT (by rfl) ?_;conv=>whnf)|(refine cF (by rfl) ?_;conv=>whnf)))
            rw [i64_of (n := (z : Int)) (by omega) (by omega)]
            refine Does.mono (HT.span hA11 z) ?_
            rintro r w ⟨bb, st3, hsp, hbb, HT⟩
            obtain ⟨a7, c7, rfl, _⟩ := hbb.view
            ((conv=>whnf);repeat(first|(refine mvT ?_;conv=>whnf)|(refine mvF ?_;conv=>whnf)|(refine cT (by rfl) ?_;conv=>whnf)|(refine cF (by rfl) ?_;conv=>whnf)))
            obtain ⟨w1_16, rfl⟩ : ∃ x, x = w := ⟨w, rfl⟩
            intro pb16 wb hpb hb2 hxb1
            ((conv=>whnf);repeat(first|(refine mvT ?_;conv=>whnf)|(refine mvF ?_;conv=>whnf)|(refine cT (by rfl) ?_;conv=>whnf)|(refine cF (by rfl) ?_;conv=>whnf)))
            refine st_all [.slice a7 bb.length c7, .bool false] hb2 rfl rfl rfl ?_
            intro w hb2 hxb2
            ((conv=>whnf);repeat(first|(refine mvT ?_;conv=>whnf)|(refine mvF ?_;conv=>whnf)|(refine cT (by rfl) ?_;conv=>whnf)|(refine cF (by rfl) ?_;conv=>whnf)))
            have he : Ext nob w1_16 w := hxb1.trans hxb2 fun k hk h => by omega
            obtain ⟨hG1, hb1⟩ := HT.src hA11
            have H := St.tag hb2 (hbb.e0 he) hG1 he hb1 hpb
            clear hb2 hxb1 hxb2 he
            obtain ⟨hown, hsep⟩ := (HT.slots.2).ownL rfl
            obtain ⟨qa, na, ca, rfl, hqa, hna⟩ := hown.slice
            refine ldS (own_cell (HT.own.1.e0 H.now) (o := 0) rfl (k := 7) rfl) ?_;((conv=>whnf);repeat(first|(refine mvT ?_;conv=>whnf)|(refine mvF ?_;conv=>whnf)|(refine cT (by rfl) ?_;conv=>whnf)|(refine cF (by rfl) ?_;conv=>whnf)))
            (refine mvB ?_;((conv=>whnf);repeat(first|(refine mvT ?_;conv=>whnf)|(refine mvF ?_;conv=>whnf)|(refine cT (by rfl) ?_;conv=>whnf)|(refine cF (by rfl) ?_;conv=>whnf))))
            refine VC.cutE (fun q : Int × Rd => [(28, .int .i32 q.1), (27, .slice qa na ca), (0, .pointer (some ⟨p, 0, none⟩)), (2, .bool false), (7, .pointer (some ⟨pb, 0, none⟩)), (8, .int .i16 v), (9, .bool fx), (10, .pointer (some ⟨p, 0, none⟩)), (16, .int .u32 ((j + 1 : Nat) : Int)), (25, .pointer (some ⟨pb16, 0, none⟩))]) (fun q w' => (-2147483648 ≤ q.1 ∧ q.1 ≤ 2147483647) ∧ rdLn fx (bb, false) = q ∧ St w1_16 G0 pb pb16 q.2 [] (fun w' => Ext nob w1_16 w') w') ?_ ?_
            · refine cI (by rfl) (fun hc2=>?_) (fun hc2=>?_)
              · ((conv=>whnf);repeat(first|(refine mvT ?_;conv=>whnf)|(refine mvF ?_;conv=>whnf)|(refine cT (by rfl) ?_;conv=>whnf)|(refine cF (by rfl) ?_;conv=>whnf)))
                refine Does.mono H.lnc ?_
                rintro r w ⟨n, s', rfl, hn, hr, H⟩
                ((conv=>whnf);repeat(first|(refine mvT ?_;conv=>whnf)|(refine mvF ?_;conv=>whnf)|(refine cT (by rfl) ?_;conv=>whnf)|(refine cF (by rfl) ?_;conv=>whnf)))
                exact ⟨(n, s'), ⟨rfl, rfl, rfl, rfl, rfl, rfl, rfl, rfl, rfl, rfl, trivial⟩, hn, by rw [hc2]; exact hr, H⟩
              · ((conv=>whnf);repeat(first|(refine mvT ?_;conv=>whnf)|(refine mvF ?_;conv=>whnf)|(refine cT (by rfl) ?_;conv=>whnf)|(refine cF (by rfl) ?_;conv=>whnf)))
                refine Does.mono H.lnp ?_
                rintro r w ⟨n, s', rfl, hn, hr, H⟩
                ((conv=>whnf);repeat(first|(refine mvT ?_;conv=>whnf)|(refine mvF ?_;conv=>whnf)|(refine cT (by rfl) ?_;conv=>whnf)|(refine cF (by rfl) ?_;conv=>whnf)))
                exact ⟨(n, s'), ⟨rfl, rfl, rfl, rfl, rfl, rfl, rfl, rfl, rfl, rfl, trivial⟩, hn, by rw [hc2]; exact hr, H⟩
            clear H
            rintro ⟨n16, s16⟩ w ⟨hn16, hln16, H⟩
            dsimp only at hn16 hln16 H
            ((conv=>whnf);repeat(first|(refine mvT ?_;conv=>whnf)|(refine mvF ?_;conv=>whnf)|(refine cT (by rfl) ?_;conv=>whnf)|(refine cF (by rfl) ?_;conv=>whnf)))
            intro cq hcq
            obtain rfl : cq = false := by rw [← hcq]; exact decide_eq_false (by omega)
            ((conv=>whnf);repeat(first|(refine mvT ?_;conv=>whnf)|(refine mvF ?_;conv=>whnf)|(refine cT (by rfl) ?_;conv=>whnf)|(refine cF (by rfl) ?_;conv=>whnf)))
            refine VC.cutE (fun a : Value => [(28, .int .i32 n16), (27, a), (0, .pointer (some ⟨p, 0, none⟩)), (2, .bool false), (7, .pointer (some ⟨pb, 0, none⟩)), (8, .int .i16 v), (9, .bool fx), (10, .pointer (some ⟨p, 0, none⟩)), (16, .int .u32 ((j + 1 : Nat) : Int)), (25, .pointer (some ⟨pb16, 0, none⟩))]) (fun a w' => TagE w1_16 G0 pb pb16 147 s16 n16 (.slice qa na ca) a w') ?_ ?_
            · refine cI (by rfl) (fun hz2=>?_) (fun hz2=>?_)
              · have hz2 : n16 = 0 := by simpa using hz2
                ((conv=>whnf);repeat(first|(refine mvT ?_;conv=>whnf)|(refine mvF ?_;conv=>whnf)|(refine cT (by rfl) ?_;conv=>whnf)|(refine cF (by rfl) ?_;conv=>whnf)))
                intro be we hbe hoe hxe
                ((conv=>whnf);repeat(first|(refine mvT ?_;conv=>whnf)|(refine mvF ?_;conv=>whnf)|(refine cT (by rfl) ?_;conv=>whnf)|(refine cF (by rfl) ?_;conv=>whnf)))
                exact ⟨_, ⟨rfl, rfl, rfl, rfl, rfl, rfl, rfl, rfl, rfl, rfl, trivial⟩, TagE.new hz2 H hxe hoe hbe⟩
              · have hz2 : ¬ n16 = 0 := by simpa using hz2
                ((conv=>whnf);repeat(first|(refine mvT ?_;conv=>whnf)|(refine mvF ?_;conv=>whnf)|(refine cT (by rfl) ?_;conv=>whnf)|(refine cF (by rfl) ?_;conv=>whnf)))
                exact ⟨_, ⟨rfl, rfl, rfl, rfl, rfl, rfl, rfl, rfl, rfl, rfl, trivial⟩, .inl ⟨hz2, rfl, H⟩⟩
            clear H
            rintro ae w H
            ((conv=>whnf);repeat(first|(refine mvT ?_;conv=>whnf)|(refine mvF ?_;conv=>whnf)|(refine cT (by rfl) ?_;conv=>whnf)|(refine cF (by rfl) ?_;conv=>whnf)))
            refine Does.mono H.ok ?_
            rintro r w ⟨rfl, H⟩
            ((conv=>whnf);repeat(first|(refine mvT ?_;conv=>whnf)|(refine mvF ?_;conv=>whnf)|(refine cT (by rfl) ?_;conv=>whnf)|(refine cF (by rfl) ?_;conv=>whnf)))
            refine cI (by rfl) (fun hbd=>?_) (fun hbd=>?_)
            · have hbd : s16.2 = true := by simpa using hbd
              ((conv=>whnf);repeat(first|(refine mvT ?_;conv=>whnf)|(refine mvF ?_;conv=>whnf)|(refine cT (by rfl) ?_;conv=>whnf)|(refine cF (by rfl) ?_;conv=>whnf)))
              obtain ⟨_, H⟩ := H.st
              refine Does.mono (Complete_does ((HT.laid HA11 hL hp1).ext H.now fun f => f) H.rd) ?_
              rintro r _ ⟨rfl, rfl⟩
              ((conv=>whnf);repeat(first|(refine mvT ?_;conv=>whnf)|(refine mvF ?_;conv=>whnf)|(refine cT (by rfl) ?_;conv=>whnf)|(refine cF (by rfl) ?_;conv=>whnf)))
              rw [if_pos hbd]
              refine RdPost.fell (hup0 ?_) ((HT.ext0 HA11).tr0 H.now)
              rw [tail_yes (rdField3.trans hr1) ⟨by decide, has_all hv⟩, tail_yes (rdField4.trans hr3) ⟨by decide, has_all hv⟩, tail_yes (rdField4.trans hr5) ⟨by decide, has_all hv⟩, tail_yes (rdField0.trans hr7) ⟨by decide, has_all hv⟩, tail_yes (rdField0.trans hr9) ⟨by decide, has_all hv⟩, tail_tag (f := (.mk 11 0 (-1) (-1) 0 0 7 [])) (by decide), tail_tag (f := (.mk 11 0 (-1) (-2) 1 0 7 [])) (by decide), tail_run (by decide) hc hrun]
              exact rdTgX_fell hu1 hu2 hsp rfl (field_len hln16 hbd)
            have hbd : s16.2 = false := by simpa using hbd
            clear hbd
            obtain ⟨qe, ne, ce, rfl, hqe, hne⟩ := H.slice hown
            ((conv=>whnf);repeat(first|(refine mvT ?_;conv=>whnf)|(refine mvF ?_;conv=>whnf)|(refine cT (by rfl) ?_;conv=>whnf)|(refine cF (by rfl) ?_;conv=>whnf)))
            refine cut0_slice hne hqe ?_
            ((conv=>whnf);repeat(first|(refine mvT ?_;conv=>whnf)|(refine mvF ?_;conv=>whnf)|(refine cT (by rfl) ?_;conv=>whnf)|(refine cF (by rfl) ?_;conv=>whnf)))
            refine VC.cutE (fun a : Value => [(28, .int .i32 n16), (27, a), (0, .pointer (some ⟨p, 0, none⟩)), (2, .bool false), (7, .pointer (some ⟨pb, 0, none⟩)), (8, .int .i16 v), (9, .bool fx), (10, .pointer (some ⟨p, 0, none⟩)), (16, .int .u32 ((j + 1 : Nat) : Int)), (25, .pointer (some ⟨pb16, 0, none⟩))]) (fun a w' => TagI w1_16 G0 pb pb16 147 [.int .u8 0, .int .u8 0, .int .u8 0, .int .u8 0, .int .u8 0, .int .u8 0, .int .u8 0, .int .u8 0, .int .u8 0, .int .u8 0, .int .u8 0, .int .u8 0, .int .u8 0, .int .u8 0, .int .u8 0, .int .u8 0] (elR 8 v fx 7 []) (elQ true 8 7 []) s16 n16 (decide (n16 < 0)) (.slice qa na ca) a 0 w') ?_ ?_
            · refine cI (by rfl) (fun hps=>?_) (fun hps=>?_)
              · have hps : 0 < n16 := by have := of_decide_eq_true hps; omega
                obtain ⟨he0, H2⟩ := H.pos hps
                clear H
                cases he0
                have H := H2
                ((conv=>whnf);repeat(first|(refine mvT ?_;conv=>whnf)|(refine mvF ?_;conv=>whnf)|(refine cT (by rfl) ?_;conv=>whnf)|(refine cF (by rfl) ?_;conv=>whnf)))
                refine TagI.grow (rd := elR 8 v fx 7 []) (R := elQ true 8 7 []) H hown hA11.old hps hn16.2 (by decide) rfl rfl (by decide) ?_
                intro a w H
                ((conv=>whnf);repeat(first|(refine mvT ?_;conv=>whnf)|(refine mvF ?_;conv=>whnf)|(refine cT (by rfl) ?_;conv=>whnf)|(refine cF (by rfl) ?_;conv=>whnf)))
                exact ⟨_, ⟨rfl, rfl, rfl, rfl, rfl, rfl, rfl, rfl, rfl, rfl, trivial⟩, by rw [show (decide (n16 < 0)) = false by simp; omega]; exact H⟩
              · have hps : n16 ≤ 0 := by have := of_decide_eq_false hps; omega
                ((conv=>whnf);repeat(first|(refine mvT ?_;conv=>whnf)|(refine mvF ?_;conv=>whnf)|(refine cT (by rfl) ?_;conv=>whnf)|(refine cF (by rfl) ?_;conv=>whnf)))
                exact ⟨_, ⟨rfl, rfl, rfl, rfl, rfl, rfl, rfl, rfl, rfl, rfl, trivial⟩, H.npos hps (fun h => by simp; omega) (fun h => by simp; omega)⟩
            clear H
            rintro a16 w H
            ((conv=>whnf);repeat(first|(refine mvT ?_;conv=>whnf)|(refine mvF ?_;conv=>whnf)|(refine cT (by rfl) ?_;conv=>whnf)|(refine cF (by rfl) ?_;conv=>whnf)))
            refine VL.loop (fun i : Nat => [(28, .int .i32 n16), (27, a16), (29, .int .i32 i), (0, .pointer (some ⟨p, 0, none⟩)), (2, .bool false), (7, .pointer (some ⟨pb, 0, none⟩)), (8, .int .i16 v), (9, .bool fx), (10, .pointer (some ⟨p, 0, none⟩)), (16, .int .u32 ((j + 1 : Nat) : Int)), (25, .pointer (some ⟨pb16, 0, none⟩))]) (fun i w' => i ≤ 2147483647 ∧ TagI w1_16 G0 pb pb16 147 [.int .u8 0, .int .u8 0, .int .u8 0, .int .u8 0, .int .u8 0, .int .u8 0, .int .u8 0, .int .u8 0, .int .u8 0, .int .u8 0, .int .u8 0, .int .u8 0, .int .u8 0, .int .u8 0, .int .u8 0, .int .u8 0] (elR 8 v fx 7 []) (elQ true 8 7 []) s16 n16 (decide (n16 < 0)) (.slice qa na ca) a16 i w') (fun i => n16.toNat - i) 0 ⟨rfl, rfl, rfl, rfl, rfl, rfl, rfl, rfl, rfl, rfl, rfl, trivial⟩ ⟨by decide, H⟩ ?_
            clear H
            rintro i16 w ⟨hi16, H⟩
            ((conv=>whnf);repeat(first|(refine mvT ?_;conv=>whnf)|(refine mvF ?_;conv=>whnf)|(refine cT (by rfl) ?_;conv=>whnf)|(refine cF (by rfl) ?_;conv=>whnf)))
            refine cI (by rfl) (fun h9=>?_) (fun h9=>?_)
            · have hlt16 : (i16 : Int) < n16 := of_decide_eq_true h9
              obtain ⟨p16, g16, cap16, post16, rfl, hgo16, HI⟩ := H.go hlt16
              obtain ⟨es16, ts16, si16, hes16, hez16, hrn16, hts16, hlen1, H⟩ := HI.open hgo16.2.2.2.2
              obtain ⟨P16, hP16⟩ : ∃ P : World → Prop, P = fun w => (∀ (j : Nat) (c : List Value) (y : T), es16[j]? = some c → ts16[j]? = some y → elQ true 8 7 [] ⟨w, FG w1_16 G0⟩ c y) ∧ Ext (OwnB (.slice qa na ca)) w1_16 w := ⟨_, rfl⟩
              replace H : St w1_16 G0 p16 pb16 si16 ((g16, 147, es16.flatten ++ [.int .u8 0, .int .u8 0, .int .u8 0, .int .u8 0, .int .u8 0, .int .u8 0, .int .u8 0, .int .u8 0, .int .u8 0, .int .u8 0, .int .u8 0, .int .u8 0, .int .u8 0, .int .u8 0, .int .u8 0, .int .u8 0] ++ ((List.replicate (n16.toNat - (i16 + 1)) [.int .u8 0, .int .u8 0, .int .u8 0, .int .u8 0, .int .u8 0, .int .u8 0, .int .u8 0, .int .u8 0, .int .u8 0, .int .u8 0, .int .u8 0, .int .u8 0, .int .u8 0, .int .u8 0, .int .u8 0, .int .u8 0]).flatten ++ post16)) :: []) P16 w := by rw [hP16]; exact H
              ((conv=>whnf);repeat(first|(refine mvT ?_;conv=>whnf)|(refine mvF ?_;conv=>whnf)|(refine cT (by rfl) ?_;conv=>whnf)|(refine cF (by rfl) ?_;conv=>whnf)))
              refine Does.mono H.uuid ?_
              rintro r w ⟨u17, s17, rfl, hu17, hr17, H⟩
              ((conv=>whnf);repeat(first|(refine mvT ?_;conv=>whnf)|(refine mvF ?_;conv=>whnf)|(refine cT (by rfl) ?_;conv=>whnf)|(refine cF (by rfl) ?_;conv=>whnf)))
              obtain ⟨u17_0, u17_1, u17_2, u17_3, u17_4, u17_5, u17_6, u17_7, u17_8, u17_9, u17_10, u17_11, u17_12, u17_13, u17_14, u17_15, rfl⟩ : ∃ u17_0 u17_1 u17_2 u17_3 u17_4 u17_5 u17_6 u17_7 u17_8 u17_9 u17_10 u17_11 u17_12 u17_13 u17_14 u17_15, u17 = [u17_0, u17_1, u17_2, u17_3, u17_4, u17_5, u17_6, u17_7, u17_8, u17_9, u17_10, u17_11, u17_12, u17_13, u17_14, u17_15] := by
                match u17, hu17 with
                | [u17_0, u17_1, u17_2, u17_3, u17_4, u17_5, u17_6, u17_7, u17_8, u17_9, u17_10, u17_11, u17_12, u17_13, u17_14, u17_15], _ => exact ⟨u17_0, u17_1, u17_2, u17_3, u17_4, u17_5, u17_6, u17_7, u17_8, u17_9, u17_10, u17_11, u17_12, u17_13, u17_14, u17_15, rfl⟩
              intro bu wu hbu hou hxu
              ((conv=>whnf);repeat(first|(refine mvT ?_;conv=>whnf)|(refine mvF ?_;conv=>whnf)|(refine cT (by rfl) ?_;conv=>whnf)|(refine cF (by rfl) ?_;conv=>whnf)))
              refine st_all [bcell u17_0, bcell u17_1, bcell u17_2, bcell u17_3, bcell u17_4, bcell u17_5, bcell u17_6, bcell u17_7, bcell u17_8, bcell u17_9, bcell u17_10, bcell u17_11, bcell u17_12, bcell u17_13, bcell u17_14, bcell u17_15] hou rfl rfl rfl ?_
              intro w2 hou hxs
              ((conv=>whnf);repeat(first|(refine mvT ?_;conv=>whnf)|(refine mvF ?_;conv=>whnf)|(refine cT (by rfl) ?_;conv=>whnf)|(refine cF (by rfl) ?_;conv=>whnf)))
              replace H := H.e0 (hxu.trans hxs (M := nob) fun k hk e => by omega)
              refine ⟨_, rfl, hou.cells, ?_⟩
              ((conv=>whnf);repeat(first|(refine mvT ?_;conv=>whnf)|(refine mvF ?_;conv=>whnf)|(refine cT (by rfl) ?_;conv=>whnf)|(refine cF (by rfl) ?_;conv=>whnf)))
              refine ⟨g16, 0, rfl, ⟨by omega, by omega⟩, ?_⟩
              ((conv=>whnf);repeat(first|(refine mvT ?_;conv=>whnf)|(refine mvF ?_;conv=>whnf)|(refine cT (by rfl) ?_;conv=>whnf)|(refine cF (by rfl) ?_;conv=>whnf)))
              refine H.stn [bcell u17_0, bcell u17_1, bcell u17_2, bcell u17_3, bcell u17_4, bcell u17_5, bcell u17_6, bcell u17_7, bcell u17_8, bcell u17_9, bcell u17_10, bcell u17_11, bcell u17_12, bcell u17_13, bcell u17_14, bcell u17_15] 0 rfl rfl rfl (by first | omega | (simp [hlen1]; done) | (simp [hlen1]; omega)) rfl (Nat.le_of_ble_eq_true rfl) ?_
              intro w H
              ((conv=>whnf);repeat(first|(refine mvT ?_;conv=>whnf)|(refine mvF ?_;conv=>whnf)|(refine cT (by rfl) ?_;conv=>whnf)|(refine cF (by rfl) ?_;conv=>whnf)))
              replace H : St w1_16 G0 p16 pb16 s17 ((g16, 147, es16.flatten ++ [bcell u17_0, bcell u17_1, bcell u17_2, bcell u17_3, bcell u17_4, bcell u17_5, bcell u17_6, bcell u17_7, bcell u17_8, bcell u17_9, bcell u17_10, bcell u17_11, bcell u17_12, bcell u17_13, bcell u17_14, bcell u17_15] ++ ((List.replicate (n16.toNat - (i16 + 1)) [.int .u8 0, .int .u8 0, .int .u8 0, .int .u8 0, .int .u8 0, .int .u8 0, .int .u8 0, .int .u8 0, .int .u8 0, .int .u8 0, .int .u8 0, .int .u8 0, .int .u8 0, .int .u8 0, .int .u8 0, .int .u8 0]).flatten ++ post16)) :: []) P16 w := H
              refine ⟨i16 + 1, ⟨rfl, rfl, ?_, rfl, rfl, rfl, rfl, rfl, rfl, rfl, rfl, trivial⟩, ⟨by omega, TagI.back hgo16 (LoopI.next hes16 hez16 hrn16 hts16 (cur := [bcell u17_0, bcell u17_1, bcell u17_2, bcell u17_3, bcell u17_4, bcell u17_5, bcell u17_6, bcell u17_7, bcell u17_8, bcell u17_9, bcell u17_10, bcell u17_11, bcell u17_12, bcell u17_13, bcell u17_14, bcell u17_15]) (x := .mk 0 [u17_0, u17_1, u17_2, u17_3, u17_4, u17_5, u17_6, u17_7, u17_8, u17_9, u17_10, u17_11, u17_12, u17_13, u17_14, u17_15] false [] []) (hr17) rfl H fun w hP => ?_)⟩, by omega⟩
              · show some (Value.int .i32 _) = _
                rw [IntKind.wrap_i32]
                simp only [Option.some.injEq, Value.int.injEq, true_and]
                omega
              · skip
                rw [hP16] at hP
                exact ⟨⟨_, rfl, rfl, rfl⟩, hP⟩
            · skip
              have hge16 : ¬ (i16 : Int) < n16 := of_decide_eq_false h9
              have hsA1 := HT.ext.size
              obtain ⟨l19, s19, hone19, hl19, hr19, hrd, hx1, hownN, hob, hlist⟩ := H.done hge16 hln16 (nl := nlF (.mk 11 0 (-1) (-2) 1 0 7 []) v) rfl rfl (elQ_later 8 7 []) hown hsA1
              ((conv=>whnf);repeat(first|(refine mvT ?_;conv=>whnf)|(refine mvF ?_;conv=>whnf)|(refine cT (by rfl) ?_;conv=>whnf)|(refine cF (by rfl) ?_;conv=>whnf)))
              have howq := HT.ownq hA11 hx1 fun k h => (hown.lt k h).1
              refine stm howq (v := a16) 7 (cells_one hone19) hone19 rfl (by simp) rfl (Nat.lt_of_lt_of_le (Nat.lt_succ_self _) (Nat.le_of_ble_eq_true rfl)) ?_
              obtain ⟨w5, rfl⟩ : ∃ x, x = w := ⟨w, rfl⟩
              intro w ho hx2
              ((conv=>whnf);repeat(first|(refine mvT ?_;conv=>whnf)|(refine mvF ?_;conv=>whnf)|(refine cT (by rfl) ?_;conv=>whnf)|(refine cF (by rfl) ?_;conv=>whnf)))
              have hx := (hx1.mono (M' := fun k => OwnB (.slice qa na ca) k ∨ k = p) fun _ _ h => .inl h).trans hx2 fun k _ h => .inr h
              have hoth : ∀ c, c ∈ [m, c0_0] → ∀ k, OwnB c k → wA11.heap.size ≤ k ∧ k < w1_16.heap.size := fun c hc k hk => by
                  simp only [List.mem_cons, List.not_mem_nil, or_false] at hc
                  rcases hc with rfl | rfl
                  · exact HT.tagb k hk
                  · exact ((HT.slots.1).ownL rfl).1.lt k hk
              have hnew : Slot w wA11 G0 9 (.mk 11 0 (-1) (-2) 1 0 7 []) 147 16 [m, c0_0] [a16] (.mk 0 [] ((decide (n16 < 0)) && (xc1).nl) l19 []) := Slot.read hA11 (QF11 hl19 hlist) (fun _ => ⟨_, rfl, hownN, hob⟩) hsep hoth hsA1 (fun k h => (hown.lt k h).1) hx2
              have HT2 : TgS wA11 G0 pb p ty [] [.int .i16 v, .int .i32 n1, .int .i64 n3, .int .i64 n5, .bool b7, .bool b9, c0_0, a16, m] [] [] st3 m u (fun m w => Slot w wA11 G0 9 (.mk 11 0 (-1) (-1) 0 0 7 []) 147 16 [m, a16] [c0_0] (xc0) ∧ Slot w wA11 G0 9 (.mk 11 0 (-1) (-2) 1 0 7 []) 147 16 [m, c0_0] [a16] (.mk 0 [] ((decide (n16 < 0)) && (xc1).nl) l19 [])) w := HT.put hA11 hx ho (fun k h => ⟨(hown.lt k h).1, hsep m (by simp) k h⟩) ⟨Slot.other hA11 (HT.slots.1) hx (fun k h => by simp) (fun c hc k hk => by
                  simp only [List.mem_cons, List.not_mem_nil, or_false] at hc
                  rcases hc with rfl
                  all_goals first | exact (hob k hk).imp (fun h => ⟨_, by simp, h⟩) id | exact .inl ⟨_, by simp, hk⟩), hnew⟩ (fun w w' m m' h hx hm => ⟨Slot.clo hA11 (h.1) hx hm, Slot.clo hA11 (h.2) hx hm⟩)
              have hfield : rdField 9 v fx (.mk 11 0 (-1) (-2) 1 0 7 []) (bb, false) = (.mk 0 [] (decide (n16 < 0)) l19 [], s19) := (rdField_list _ _ _ _ _ _ _ _ _ _ _).trans hr19
              refine Does.mono (Complete_does (HT2.laid HA11 hL hp1) (HT.rd2 hA11 hpb hrd hx2)) ?_
              rintro r _ ⟨hr9, rfl⟩
              cases hbd9 : s19.2 with
              | true =>
                rw [hbd9, if_pos rfl] at hr9
                obtain ⟨te, xe, hev⟩ := hL.iface
                rw [hev] at hr9
                subst hr9
                ((conv=>whnf);repeat(first|(refine mvT ?_;conv=>whnf)|(refine mvF ?_;conv=>whnf)|(refine cT (by rfl) ?_;conv=>whnf)|(refine cF (by rfl) ?_;conv=>whnf)))
                rw [← hev]
                refine RdPost.fell (hup0 ?_) (HT2.ext0 HA11)
                rw [tail_yes (rdField3.trans hr1) ⟨by decide, has_all hv⟩, tail_yes (rdField4.trans hr3) ⟨by decide, has_all hv⟩, tail_yes (rdField4.trans hr5) ⟨by decide, has_all hv⟩, tail_yes (rdField0.trans hr7) ⟨by decide, has_all hv⟩, tail_yes (rdField0.trans hr9) ⟨by decide, has_all hv⟩, tail_tag (f := (.mk 11 0 (-1) (-1) 0 0 7 [])) (by decide), tail_tag (f := (.mk 11 0 (-1) (-2) 1 0 7 [])) (by decide), tail_run (by decide) hc hrun]
                exact rdTgX_fell hu1 hu2 hsp rfl (by rw [hfield]; exact hbd9)
              | false =>
                rw [hbd9, if_neg Bool.false_ne_true] at hr9
                subst hr9
                ((conv=>whnf);repeat(first|(refine mvT ?_;conv=>whnf)|(refine mvF ?_;conv=>whnf)|(refine cT (by rfl) ?_;conv=>whnf)|(refine cF (by rfl) ?_;conv=>whnf)))
                refine ⟨j, ⟨?_, rfl, rfl, rfl, rfl, rfl, rfl, trivial⟩, ⟨st3, m, u, c0_0, a16, xc0, .mk 0 [] ((decide (n16 < 0)) && (xc1).nl) l19 [], rdTgX_next hrun hu1 hu2 hsp rfl hfield hbd9 (by
                  show List.set _ _ (tgX _ (xc1) _) = _
                  rw [tgX_list]
                  rfl), by omega, HT2⟩, by omega⟩
                show some (Value.int .u32 _) = _
                rw [wrap_u32]
                simp only [Option.some.injEq, Value.int.injEq, true_and]
                omega
          · have hk1 : key ≠ 1 := by have h := hk1; simp at h; omega
            ((conv=>whnf);repeat(first|(refine mvT ?_;conv=>whnf)|(refine mvF ?_;conv=>whnf)|(refine cT (by rfl) ?_;conv=>whnf)|(refine cF (by rfl) ?_;conv=>whnf)))
            refine VD.draw mixed (.q 0 (.q 1 (.q 2 (.q 3 (.eff 4 [] (.q 5 (.eff 6 [] (.eff 7 [] (.done))))))))) (by kernel_rfl) ?_;((conv=>whnf);repeat(first|(refine mvT ?_;conv=>whnf)|(refine mvF ?_;conv=>whnf)|(refine cT (by rfl) ?_;conv=>whnf)|(refine cF (by rfl) ?_;conv=>whnf)))
            replace HT := HT.e0 (ext_drew _)
            skip
            refine Does.mono (HT.uv hA11) ?_
            rintro r w ⟨z, st2, rfl, hz, hu2, HT⟩
            ((conv=>whnf);repeat(first|(refine mvT ?_;conv=>whnf)|(refine mvF ?_;conv=>whnf)|(refine cT (by rfl) ?_;conv=>whnf)|(refine cF (by rfl) ?_;conv=>whnf)))
            rw [i64_of (n := (z : Int)) (by omega) (by omega)]
            refine Does.mono (HT.span hA11 z) ?_
            rintro r w ⟨bb, st3, hsp, hbb, HT⟩
            obtain ⟨a7, c7, rfl, _⟩ := hbb.view
            ((conv=>whnf);repeat(first|(refine mvT ?_;conv=>whnf)|(refine mvF ?_;conv=>whnf)|(refine cT (by rfl) ?_;conv=>whnf)|(refine cF (by rfl) ?_;conv=>whnf)))
            refine Does.mono (HT.set hA11 (om := 8) (key := key) (b := bb) rfl (by simp) hbb) ?_
            rintro r w ⟨m', HT⟩
            ((conv=>whnf);repeat(first|(refine mvT ?_;conv=>whnf)|(refine mvF ?_;conv=>whnf)|(refine cT (by rfl) ?_;conv=>whnf)|(refine cF (by rfl) ?_;conv=>whnf)))
            have htag : tagIx dBrokerHeartbeatRequest 0 key = none := tagIx_no fun f hf => by
              simp only [dBrokerHeartbeatRequest, List.mem_cons, List.not_mem_nil, or_false] at hf
              rcases hf with rfl | rfl | rfl | rfl | rfl | rfl | rfl <;> (simp only [Fd.tag]; omega)
            refine ⟨j, ⟨?_, rfl, rfl, rfl, rfl, rfl, rfl, trivial⟩, ⟨st3, m', _, _, _, _, _, (rdTgX_none hu1 hu2 hsp htag).symm.trans hrun, by omega, HT⟩, by omega⟩
            show some (Value.int .u32 _) = _
            rw [wrap_u32]
            simp only [Option.some.injEq, Value.int.injEq, true_and]
            omega
      · have hi0 : i = 0 := by have := of_decide_eq_false h9; omega
        subst hi0
        ((conv=>whnf);repeat(first|(refine mvT ?_;conv=>whnf)|(refine mvF ?_;conv=>whnf)|(refine cT (by rfl) ?_;conv=>whnf)|(refine cF (by rfl) ?_;conv=>whnf)))
        have H := TgS.out HA11 HT
        have H := Slot.out HA11 (HT.slots.1) H
        have H := Slot.out HA11 (HT.slots.2) H
        exact ⟨(m, u, st, c0_0, xc0, c1_0, xc1), ⟨rfl, rfl, rfl, rfl, rfl, rfl, trivial⟩, tail_end (by decide) hc hrun, H⟩
    · ((conv=>whnf);repeat(first|(refine mvT ?_;conv=>whnf)|(refine mvF ?_;conv=>whnf)|(refine cT (by rfl) ?_;conv=>whnf)|(refine cF (by rfl) ?_;conv=>whnf)))
      have H := H.add (Q := fun w => TGf w0 G0 (.map none) [] w) fun w' _ => TagsR.nil _ _
      have H := H.add (Q := fun w => QField true 9 (.mk 11 0 (-1) (-1) 0 0 7 []) ⟨w, FG w0 G0⟩ [.slice none 0 0] (.mk 0 [] true [] [])) fun w' _ => QF11 (fun _ => rfl) (.inl ⟨rfl, rfl⟩)
      have H := H.add (Q := fun w => QField true 9 (.mk 11 0 (-1) (-2) 1 0 7 []) ⟨w, FG w0 G0⟩ [.slice none 0 0] (.mk 0 [] true [] [])) fun w' _ => QF11 (fun _ => rfl) (.inl ⟨rfl, rfl⟩)
      exact ⟨(.map none, [], s9, .slice none 0 0, .mk 0 [] true [] [], .slice none 0 0, .mk 0 [] true [] []), ⟨rfl, rfl, rfl, rfl, rfl, rfl, trivial⟩, tail_none (by decide) hc, H⟩
  clear H
  rintro ⟨m20, u20, s20, t20_0_0, xt20_0, t20_1_0, xt20_1⟩ w ⟨htl, H⟩
  dsimp only at htl H
  ((conv=>whnf);repeat(first|(refine mvT ?_;conv=>whnf)|(refine mvF ?_;conv=>whnf)|(refine cT (by rfl) ?_;conv=>whnf)|(refine cF (by rfl) ?_;conv=>whnf)))
  obtain ⟨P21, hP21⟩ : ∃ P : World → Prop, P = fun w => TGf w0 G0 m20 u20 w ∧ (fun _ => True) w := ⟨_, rfl⟩
  obtain ⟨P22, hP22⟩ : ∃ P : World → Prop, P = fun w => QField true 9 (.mk 11 0 (-1) (-1) 0 0 7 []) ⟨w, FG w0 G0⟩ [t20_0_0] (xt20_0) ∧ P21 w := ⟨_, rfl⟩
  obtain ⟨P23, hP23⟩ : ∃ P : World → Prop, P = fun w => QField true 9 (.mk 11 0 (-1) (-2) 1 0 7 []) ⟨w, FG w0 G0⟩ [t20_1_0] (xt20_1) ∧ P22 w := ⟨_, rfl⟩
  replace H : St w0 G0 p pb s20 ((p, ty, [] ++ [.int .i16 v, .int .i32 n1, .int .i64 n3, .int .i64 n5, .bool b7, .bool b9, t20_0_0, t20_1_0, m20] ++ []) :: []) P23 w := by rw [hP23, hP22, hP21]; exact H
  have hall : rdAll (rdField 9 v fx) (dfT 9) v dBrokerHeartbeatRequest (l, false) = ([numT n1, numT n3, numT n5, numT (if b7 = true then 1 else 0), numT (if b9 = true then 1 else 0), .mk 0 [] true [] [], .mk 0 [] true [] []], s9) := by
    rw [rdAll_yes (df := dfT 9) (rdField3.trans hr1) ⟨by decide, has_all hv⟩, rdAll_yes (df := dfT 9) (rdField4.trans hr3) ⟨by decide, has_all hv⟩, rdAll_yes (df := dfT 9) (rdField4.trans hr5) ⟨by decide, has_all hv⟩, rdAll_yes (df := dfT 9) (rdField0.trans hr7) ⟨by decide, has_all hv⟩, rdAll_yes (df := dfT 9) (rdField0.trans hr9) ⟨by decide, has_all hv⟩, rdAll_tag (f := (.mk 11 0 (-1) (-1) 0 0 7 [])) (by decide), rdAll_tag (f := (.mk 11 0 (-1) (-2) 1 0 7 [])) (by decide)]
    rfl
  have hpart : rdPart 9 v fx dBrokerHeartbeatRequest (l, false) = (.mk 0 [] false [numT n1, numT n3, numT n5, numT (if b7 = true then 1 else 0), numT (if b9 = true then 1 else 0), xt20_0, xt20_1] u20, s20) := by
    simp only [rdPart, rdPartW, hall, htl]
  refine Does.mono (H.done hL hp1) ?_
  rintro r w ⟨rfl, H⟩
  ((conv=>whnf);repeat(first|(refine mvT ?_;conv=>whnf)|(refine mvF ?_;conv=>whnf)|(refine cT (by rfl) ?_;conv=>whnf)|(refine cF (by rfl) ?_;conv=>whnf)))
  refine RdPost.end hpart H fun hP => ?_
  rw [hP23] at hP
  obtain ⟨hf23_, hP⟩ := hP
  rw [hP22] at hP
  obtain ⟨hf22_, hP⟩ := hP
  rw [hP21] at hP
  obtain ⟨hf21_, hP⟩ := hP
  exact QPt (QA1 (QF3 hn1) (QA1 (QF4 hn3) (QA1 (QF4 hn5) (QA1 (QF0 b7) (QA1 (QF0 b9) (QA1 (hf22_) (QA1 (hf23_) (QA0)))))))) hf21_
end Go.Proofs.YtabhhkdgfdjicaaGreatDoor.K
