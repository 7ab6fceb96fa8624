/- Reading of PushTelemetryRequest. -/
import Derived.Test.YtegijdjnjeneaaaDoorE5
set_option linter.unusedVariables false
set_option linter.unusedSimpArgs false
namespace Go.Proofs.YtegijdjnjeneaaaDoor.K
open Go
set_option maxHeartbeats 4000000
set_option maxRecDepth 100000

abbrev dPushTelemetryRequest : List Fd := [.mk 7 0 (-1) (-1) (-1) 0 0 [], .mk 3 0 (-1) (-1) (-1) 0 0 [], .mk 0 0 (-1) (-1) (-1) 0 0 [], .mk 1 0 (-1) (-1) (-1) 0 0 [], .mk 9 0 (-1) (-1) (-1) 0 0 []]
theorem sPushTelemetryRequest (w : World) : Does X.P 6 #[] w fun r w' => Msg w' (fun k => w.heap.size ≤ k) r dPushTelemetryRequest 0 ∧ Ext nob w w' := by
  have hx0 : Ext nob w w := Ext.refl _ _
  refine Does.go (X := X) (l := []) Tryd.func6 rfl (by kernel_rfl) (by kernel_rfl) _ rfl ?_
  ((conv=>whnf);repeat(first|(refine mvT ?_;conv=>whnf)|(refine mvF ?_;conv=>whnf)|(refine cT (by rfl) ?_;conv=>whnf)|(refine cF (by rfl) ?_;conv=>whnf)))
  intro b w1 hb ho hx
  have hx0 := hx0.e0 hx
  have ho := ho
  ((conv=>whnf);repeat(first|(refine mvT ?_;conv=>whnf)|(refine mvF ?_;conv=>whnf)|(refine cT (by rfl) ?_;conv=>whnf)|(refine cF (by rfl) ?_;conv=>whnf)))
  have hxs := hx0
  intro b2 w2 hb2 ho2 hx2
  ((conv=>whnf);repeat(first|(refine mvT ?_;conv=>whnf)|(refine mvF ?_;conv=>whnf)|(refine cT (by rfl) ?_;conv=>whnf)|(refine cF (by rfl) ?_;conv=>whnf)))
  have hx0 := hx0.e0 hx2
  refine ⟨_, _, ho.e0 hx2, rfl, rfl, rfl, ?_⟩
  intro w3 ho3 hx3
  have hx03 := hx0.st hx3 hb
  ((conv=>whnf);repeat(first|(refine mvT ?_;conv=>whnf)|(refine mvF ?_;conv=>whnf)|(refine cT (by rfl) ?_;conv=>whnf)|(refine cF (by rfl) ?_;conv=>whnf)))
  refine ⟨_, rfl, ho3.cells, ?_⟩
  refine ⟨⟨_, rfl, ?_⟩, hx03⟩
  have ho2 := ho2.ext hx3 (by have := ho.lt; omega)
  have hs := hx0.size
  have hs2 : w.heap.size ≤ b2 := Nat.le_trans hxs.size hb2
  exact FdL.fds (cs := [[.int .i64 7, .int .i64 0, .int .i64 (-1), .int .i64 (-1), .int .i64 (-1), .int .i64 0, .int .i64 0, .slice none 0 0], [.int .i64 3, .int .i64 0, .int .i64 (-1), .int .i64 (-1), .int .i64 (-1), .int .i64 0, .int .i64 0, .slice none 0 0], [.int .i64 0, .int .i64 0, .int .i64 (-1), .int .i64 (-1), .int .i64 (-1), .int .i64 0, .int .i64 0, .slice none 0 0], [.int .i64 1, .int .i64 0, .int .i64 (-1), .int .i64 (-1), .int .i64 (-1), .int .i64 0, .int .i64 0, .slice none 0 0], [.int .i64 9, .int .i64 0, .int .i64 (-1), .int .i64 (-1), .int .i64 (-1), .int .i64 0, .int .i64 0, .slice none 0 0]])
    ⟨fdLeaf _ _ _ _ _ _ _ _ _, fdLeaf _ _ _ _ _ _ _ _ _, fdLeaf _ _ _ _ _ _ _ _ _, fdLeaf _ _ _ _ _ _ _ _ _, fdLeaf _ _ _ _ _ _ _ _ _, trivial⟩ ho2 rfl (by decide) (by omega)
theorem dfPushTelemetryRequest {w : World} {q o : Nat} {T : TypeId} {pre cur post : List Value} (ho : Own w q T (pre ++ cur ++ post)) (hp : pre.length = o) (hl : cur.length = 22) :
    Does X.P 19 #[.pointer (some ⟨q, o, none⟩)] w fun r w' => Own w' q T (pre ++ cur ++ post) ∧ Ext (fun k => k = q) w w' := by
  have hx : Ext (fun k => k = q) w w := Ext.refl _ _
  refine Does.go (X := X) (l := [_]) Tryd.func19 rfl (by kernel_rfl) (by kernel_rfl) _ rfl ?_
  ((conv=>whnf);repeat(first|(refine mvT ?_;conv=>whnf)|(refine mvF ?_;conv=>whnf)|(refine cT (by rfl) ?_;conv=>whnf)|(refine cF (by rfl) ?_;conv=>whnf)))
  exact ⟨ho, hx⟩
theorem readPushTelemetryRequest {w0 : World} {F : Nat → Prop} {p : Nat} {ty : TypeId} {v : Int} {x ev : Value} {l : List UInt8} (hL : Laid w0 ev) (hp : Own w0 p ty [.int .i16 v, .int .u8 0, .int .u8 0, .int .u8 0, .int .u8 0, .int .u8 0, .int .u8 0, .int .u8 0, .int .u8 0, .int .u8 0, .int .u8 0, .int .u8 0, .int .u8 0, .int .u8 0, .int .u8 0, .int .u8 0, .int .u8 0, .int .i32 0, .bool false, .int .i8 0, .slice none 0 0, .map none]) (hx : Bytes w0 F x l) (hF : ∀ k, F k → k ≠ p) (hv : 0 ≤ v) (hp1 : p ≠ 1) :
    Does X.P 28 #[.pointer (some ⟨p, 0, none⟩), x, .bool false] w0 fun r w' => RdPost w0 p ty v (decide (v ≥ 0)) true dPushTelemetryRequest ev l r w' := by
  have hpl := hp.lt
  obtain ⟨fx, hfx⟩ : ∃ fx, fx = decide (v ≥ 0) := ⟨_, rfl⟩
  rw [← hfx]
  obtain ⟨G0, hG0, hx⟩ : ∃ G0 : Nat → Prop, (∀ k, G0 k → k < w0.heap.size ∧ k ≠ p) ∧ Bytes w0 G0 x l := ⟨fun k => F k ∧ k < w0.heap.size, fun k h => ⟨h.2, hF k h.1⟩, Sl.mono hx fun k hk h => ⟨h, hk⟩⟩
  obtain ⟨a0, c0, rfl, _⟩ := hx.view
  refine Does.go (X := X) (l := [_, _, _]) Tryd.func28 rfl (by kernel_rfl) (by kernel_rfl) _ rfl ?_
  ((conv=>whnf);repeat(first|(refine mvT ?_;conv=>whnf)|(refine mvF ?_;conv=>whnf)|(refine cT (by rfl) ?_;conv=>whnf)|(refine cF (by rfl) ?_;conv=>whnf)))
  refine Does.mono (dfPushTelemetryRequest (pre := []) (cur := [.int .i16 v, .int .u8 0, .int .u8 0, .int .u8 0, .int .u8 0, .int .u8 0, .int .u8 0, .int .u8 0, .int .u8 0, .int .u8 0, .int .u8 0, .int .u8 0, .int .u8 0, .int .u8 0, .int .u8 0, .int .u8 0, .int .u8 0, .int .i32 0, .bool false, .int .i8 0, .slice none 0 0, .map none]) (post := []) (by simpa using hp) rfl rfl) ?_
  rintro rd wd ⟨hpd, hxd⟩
  ((conv=>whnf);repeat(first|(refine mvT ?_;conv=>whnf)|(refine mvF ?_;conv=>whnf)|(refine cT (by rfl) ?_;conv=>whnf)|(refine cF (by rfl) ?_;conv=>whnf)))
  intro pb w1 hpb hb hx1
  ((conv=>whnf);repeat(first|(refine mvT ?_;conv=>whnf)|(refine mvF ?_;conv=>whnf)|(refine cT (by rfl) ?_;conv=>whnf)|(refine cF (by rfl) ?_;conv=>whnf)))
  refine st_all [.slice a0 l.length c0, .bool false] hb rfl rfl rfl ?_
  intro w hb hx2
  ((conv=>whnf);repeat(first|(refine mvT ?_;conv=>whnf)|(refine mvF ?_;conv=>whnf)|(refine cT (by rfl) ?_;conv=>whnf)|(refine cF (by rfl) ?_;conv=>whnf)))
  have hsd := hxd.size
  have hwp : w0.heap.size ≤ pb := by omega
  have he1 : Ext nob wd w := hx1.trans hx2 fun k hk h => by omega
  have hpw : Own w p ty [.int .i16 v, .int .u8 0, .int .u8 0, .int .u8 0, .int .u8 0, .int .u8 0, .int .u8 0, .int .u8 0, .int .u8 0, .int .u8 0, .int .u8 0, .int .u8 0, .int .u8 0, .int .u8 0, .int .u8 0, .int .u8 0, .int .u8 0, .int .i32 0, .bool false, .int .i8 0, .slice none 0 0, .map none] := by have := hpd.e0 he1; simpa using this
  have he := hxd.tr0 he1
  have H := St.init hpw hb (hx.ext he fun k _ h => (hG0 k h).2) hG0 he hpl hwp
  clear hpd hxd hx1 hx2 hb hpw he1 hp
  refine ldS (H.cell (o := 0) rfl (k := 0) rfl) ?_;((conv=>whnf);repeat(first|(refine mvT ?_;conv=>whnf)|(refine mvF ?_;conv=>whnf)|(refine cT (by rfl) ?_;conv=>whnf)|(refine cF (by rfl) ?_;conv=>whnf)))
  rw [← hfx]
  (refine mvB ?_;((conv=>whnf);repeat(first|(refine mvT ?_;conv=>whnf)|(refine mvF ?_;conv=>whnf)|(refine cT (by rfl) ?_;conv=>whnf)|(refine cF (by rfl) ?_;conv=>whnf))))
  have hup0 : tailBad 9 v fx dPushTelemetryRequest (l, false) = true → (rdPart 9 v fx dPushTelemetryRequest (l, false)).2.2 = true := id
  refine Does.mono H.uuid ?_
  rintro r w ⟨u1, s1, rfl, hu1, hr1, H⟩
  ((conv=>whnf);repeat(first|(refine mvT ?_;conv=>whnf)|(refine mvF ?_;conv=>whnf)|(refine cT (by rfl) ?_;conv=>whnf)|(refine cF (by rfl) ?_;conv=>whnf)))
  obtain ⟨u1_0, u1_1, u1_2, u1_3, u1_4, u1_5, u1_6, u1_7, u1_8, u1_9, u1_10, u1_11, u1_12, u1_13, u1_14, u1_15, rfl⟩ : ∃ u1_0 u1_1 u1_2 u1_3 u1_4 u1_5 u1_6 u1_7 u1_8 u1_9 u1_10 u1_11 u1_12 u1_13 u1_14 u1_15, u1 = [u1_0, u1_1, u1_2, u1_3, u1_4, u1_5, u1_6, u1_7, u1_8, u1_9, u1_10, u1_11, u1_12, u1_13, u1_14, u1_15] := by
    match u1, hu1 with
    | [u1_0, u1_1, u1_2, u1_3, u1_4, u1_5, u1_6, u1_7, u1_8, u1_9, u1_10, u1_11, u1_12, u1_13, u1_14, u1_15], _ => exact ⟨u1_0, u1_1, u1_2, u1_3, u1_4, u1_5, u1_6, u1_7, u1_8, u1_9, u1_10, u1_11, u1_12, u1_13, u1_14, u1_15, rfl⟩
  intro bu wu hbu hou hxu
  ((conv=>whnf);repeat(first|(refine mvT ?_;conv=>whnf)|(refine mvF ?_;conv=>whnf)|(refine cT (by rfl) ?_;conv=>whnf)|(refine cF (by rfl) ?_;conv=>whnf)))
  refine st_all [bcell u1_0, bcell u1_1, bcell u1_2, bcell u1_3, bcell u1_4, bcell u1_5, bcell u1_6, bcell u1_7, bcell u1_8, bcell u1_9, bcell u1_10, bcell u1_11, bcell u1_12, bcell u1_13, bcell u1_14, bcell u1_15] hou rfl rfl rfl ?_
  intro w2 hou hxs
  ((conv=>whnf);repeat(first|(refine mvT ?_;conv=>whnf)|(refine mvF ?_;conv=>whnf)|(refine cT (by rfl) ?_;conv=>whnf)|(refine cF (by rfl) ?_;conv=>whnf)))
  replace H := H.e0 (hxu.trans hxs (M := nob) fun k hk e => by omega)
  refine ⟨_, rfl, hou.cells, ?_⟩
  ((conv=>whnf);repeat(first|(refine mvT ?_;conv=>whnf)|(refine mvF ?_;conv=>whnf)|(refine cT (by rfl) ?_;conv=>whnf)|(refine cF (by rfl) ?_;conv=>whnf)))
  refine H.stn [bcell u1_0, bcell u1_1, bcell u1_2, bcell u1_3, bcell u1_4, bcell u1_5, bcell u1_6, bcell u1_7, bcell u1_8, bcell u1_9, bcell u1_10, bcell u1_11, bcell u1_12, bcell u1_13, bcell u1_14, bcell u1_15] 1 rfl rfl rfl (by simp) rfl (Nat.le_of_ble_eq_true rfl) ?_
  intro w H
  ((conv=>whnf);repeat(first|(refine mvT ?_;conv=>whnf)|(refine mvF ?_;conv=>whnf)|(refine cT (by rfl) ?_;conv=>whnf)|(refine cF (by rfl) ?_;conv=>whnf)))
  replace H : St w0 G0 p pb s1 ((p, ty, [] ++ [.int .i16 v, bcell u1_0, bcell u1_1, bcell u1_2, bcell u1_3, bcell u1_4, bcell u1_5, bcell u1_6, bcell u1_7, bcell u1_8, bcell u1_9, bcell u1_10, bcell u1_11, bcell u1_12, bcell u1_13, bcell u1_14, bcell u1_15, .int .i32 0, .bool false, .int .i8 0, .slice none 0 0, .map none] ++ []) :: []) (fun _ => True) w := H
  refine Does.mono H.int32 ?_
  rintro r w ⟨n4, s4, rfl, hn4, hr4, H⟩
  ((conv=>whnf);repeat(first|(refine mvT ?_;conv=>whnf)|(refine mvF ?_;conv=>whnf)|(refine cT (by rfl) ?_;conv=>whnf)|(refine cF (by rfl) ?_;conv=>whnf)))
  refine H.st1 (v := .int .i32 n4) 17 (rfl) (rfl) rfl (by simp) rfl (Nat.lt_of_lt_of_le (Nat.lt_succ_self _) (Nat.le_of_ble_eq_true rfl)) ?_
  intro w H
  ((conv=>whnf);repeat(first|(refine mvT ?_;conv=>whnf)|(refine mvF ?_;conv=>whnf)|(refine cT (by rfl) ?_;conv=>whnf)|(refine cF (by rfl) ?_;conv=>whnf)))
  replace H : St w0 G0 p pb s4 ((p, ty, [] ++ [.int .i16 v, bcell u1_0, bcell u1_1, bcell u1_2, bcell u1_3, bcell u1_4, bcell u1_5, bcell u1_6, bcell u1_7, bcell u1_8, bcell u1_9, bcell u1_10, bcell u1_11, bcell u1_12, bcell u1_13, bcell u1_14, bcell u1_15, .int .i32 n4, .bool false, .int .i8 0, .slice none 0 0, .map none] ++ []) :: []) (fun _ => True) w := H
  refine Does.mono H.bool ?_
  rintro r w ⟨b6, s6, rfl, hr6, H⟩
  ((conv=>whnf);repeat(first|(refine mvT ?_;conv=>whnf)|(refine mvF ?_;conv=>whnf)|(refine cT (by rfl) ?_;conv=>whnf)|(refine cF (by rfl) ?_;conv=>whnf)))
  (refine mvB ?_;((conv=>whnf);repeat(first|(refine mvT ?_;conv=>whnf)|(refine mvF ?_;conv=>whnf)|(refine cT (by rfl) ?_;conv=>whnf)|(refine cF (by rfl) ?_;conv=>whnf))))
  refine H.st1 (v := .bool b6) 18 (rfl) (rfl) rfl (by simp) rfl (Nat.lt_of_lt_of_le (Nat.lt_succ_self _) (Nat.le_of_ble_eq_true rfl)) ?_
  intro w H
  ((conv=>whnf);repeat(first|(refine mvT ?_;conv=>whnf)|(refine mvF ?_;conv=>whnf)|(refine cT (by rfl) ?_;conv=>whnf)|(refine cF (by rfl) ?_;conv=>whnf)))
  replace H : St w0 G0 p pb s6 ((p, ty, [] ++ [.int .i16 v, bcell u1_0, bcell u1_1, bcell u1_2, bcell u1_3, bcell u1_4, bcell u1_5, bcell u1_6, bcell u1_7, bcell u1_8, bcell u1_9, bcell u1_10, bcell u1_11, bcell u1_12, bcell u1_13, bcell u1_14, bcell u1_15, .int .i32 n4, .bool b6, .int .i8 0, .slice none 0 0, .map none] ++ []) :: []) (fun _ => True) w := H
  refine Does.mono H.int8 ?_
  rintro r w ⟨n8, s8, rfl, hn8, hr8, H⟩
  ((conv=>whnf);repeat(first|(refine mvT ?_;conv=>whnf)|(refine mvF ?_;conv=>whnf)|(refine cT (by rfl) ?_;conv=>whnf)|(refine cF (by rfl) ?_;conv=>whnf)))
  refine H.st1 (v := .int .i8 n8) 19 (rfl) (rfl) rfl (by simp) rfl (Nat.lt_of_lt_of_le (Nat.lt_succ_self _) (Nat.le_of_ble_eq_true rfl)) ?_
  intro w H
  ((conv=>whnf);repeat(first|(refine mvT ?_;conv=>whnf)|(refine mvF ?_;conv=>whnf)|(refine cT (by rfl) ?_;conv=>whnf)|(refine cF (by rfl) ?_;conv=>whnf)))
  replace H : St w0 G0 p pb s8 ((p, ty, [] ++ [.int .i16 v, bcell u1_0, bcell u1_1, bcell u1_2, bcell u1_3, bcell u1_4, bcell u1_5, bcell u1_6, bcell u1_7, bcell u1_8, bcell u1_9, bcell u1_10, bcell u1_11, bcell u1_12, bcell u1_13, bcell u1_14, bcell u1_15, .int .i32 n4, .bool b6, .int .i8 n8, .slice none 0 0, .map none] ++ []) :: []) (fun _ => True) w := H
  (refine mvB ?_;((conv=>whnf);repeat(first|(refine mvT ?_;conv=>whnf)|(refine mvF ?_;conv=>whnf)|(refine cT (by rfl) ?_;conv=>whnf)|(refine cF (by rfl) ?_;conv=>whnf))))
  refine VC.cutE (fun q : Value × Bool × List UInt8 × Rd => [(15, q.1), (0, .pointer (some ⟨p, 0, none⟩)), (2, .bool false), (7, .pointer (some ⟨pb, 0, none⟩)), (8, .int .i16 v), (9, .bool fx), (10, .pointer (some ⟨p, 0, none⟩))]) (fun q w' => q.1.oneCell' = true ∧ (q.2.1 = true → q.2.2.1 = []) ∧ rdOc fx s8 = (.mk 0 q.2.2.1 q.2.1 [] [], q.2.2.2) ∧ St w0 G0 p pb q.2.2.2 ((p, ty, [] ++ [.int .i16 v, bcell u1_0, bcell u1_1, bcell u1_2, bcell u1_3, bcell u1_4, bcell u1_5, bcell u1_6, bcell u1_7, bcell u1_8, bcell u1_9, bcell u1_10, bcell u1_11, bcell u1_12, bcell u1_13, bcell u1_14, bcell u1_15, .int .i32 n4, .bool b6, .int .i8 n8, .slice none 0 0, .map none] ++ []) :: []) (fun w => OCf p q.1 (.mk 0 q.2.2.1 q.2.1 [] []) w ∧ (fun _ => True) w) w') ?_ ?_
  · refine cI (by rfl) (fun hc=>?_) (fun hc=>?_)
    · ((conv=>whnf);repeat(first|(refine mvT ?_;conv=>whnf)|(refine mvF ?_;conv=>whnf)|(refine cT (by rfl) ?_;conv=>whnf)|(refine cF (by rfl) ?_;conv=>whnf)))
      refine Does.mono H.occ ?_
      rintro r w ⟨c, nl, u, s', rfl, hone, hnl, hr, H⟩
      ((conv=>whnf);repeat(first|(refine mvT ?_;conv=>whnf)|(refine mvF ?_;conv=>whnf)|(refine cT (by rfl) ?_;conv=>whnf)|(refine cF (by rfl) ?_;conv=>whnf)))
      exact ⟨(r, nl, u, s'), ⟨rfl, rfl, rfl, rfl, rfl, rfl, rfl, trivial⟩, hone, hnl, by rw [hc]; exact hr, H⟩
    · ((conv=>whnf);repeat(first|(refine mvT ?_;conv=>whnf)|(refine mvF ?_;conv=>whnf)|(refine cT (by rfl) ?_;conv=>whnf)|(refine cF (by rfl) ?_;conv=>whnf)))
      refine Does.mono H.ocp ?_
      rintro r w ⟨c, nl, u, s', rfl, hone, hnl, hr, H⟩
      ((conv=>whnf);repeat(first|(refine mvT ?_;conv=>whnf)|(refine mvF ?_;conv=>whnf)|(refine cT (by rfl) ?_;conv=>whnf)|(refine cF (by rfl) ?_;conv=>whnf)))
      exact ⟨(r, nl, u, s'), ⟨rfl, rfl, rfl, rfl, rfl, rfl, rfl, trivial⟩, hone, hnl, by rw [hc]; exact hr, H⟩
  clear H
  rintro ⟨c10, nl10, u10, s10⟩ w ⟨hone10, hnl10, hr10, H⟩
  dsimp only at hone10 hnl10 hr10 H
  ((conv=>whnf);repeat(first|(refine mvT ?_;conv=>whnf)|(refine mvF ?_;conv=>whnf)|(refine cT (by rfl) ?_;conv=>whnf)|(refine cF (by rfl) ?_;conv=>whnf)))
  obtain ⟨P11, hP11⟩ : ∃ P : World → Prop, P = fun w => OCf p c10 (.mk 0 u10 nl10 [] []) w ∧ (fun _ => True) w := ⟨_, rfl⟩
  replace H : St w0 G0 p pb s10 ((p, ty, [] ++ [.int .i16 v, bcell u1_0, bcell u1_1, bcell u1_2, bcell u1_3, bcell u1_4, bcell u1_5, bcell u1_6, bcell u1_7, bcell u1_8, bcell u1_9, bcell u1_10, bcell u1_11, bcell u1_12, bcell u1_13, bcell u1_14, bcell u1_15, .int .i32 n4, .bool b6, .int .i8 n8, .slice none 0 0, .map none] ++ []) :: []) P11 w := by rw [hP11]; exact H
  refine H.st1 (v := c10) 20 (cells_one hone10) (hone10) rfl (by simp) rfl (Nat.lt_of_lt_of_le (Nat.lt_succ_self _) (Nat.le_of_ble_eq_true rfl)) ?_
  intro w H
  ((conv=>whnf);repeat(first|(refine mvT ?_;conv=>whnf)|(refine mvF ?_;conv=>whnf)|(refine cT (by rfl) ?_;conv=>whnf)|(refine cF (by rfl) ?_;conv=>whnf)))
  replace H : St w0 G0 p pb s10 ((p, ty, [] ++ [.int .i16 v, bcell u1_0, bcell u1_1, bcell u1_2, bcell u1_3, bcell u1_4, bcell u1_5, bcell u1_6, bcell u1_7, bcell u1_8, bcell u1_9, bcell u1_10, bcell u1_11, bcell u1_12, bcell u1_13, bcell u1_14, bcell u1_15, .int .i32 n4, .bool b6, .int .i8 n8, c10, .map none] ++ []) :: []) P11 w := H
  (refine mvB ?_;((conv=>whnf);repeat(first|(refine mvT ?_;conv=>whnf)|(refine mvF ?_;conv=>whnf)|(refine cT (by rfl) ?_;conv=>whnf)|(refine cF (by rfl) ?_;conv=>whnf))))
  refine VC.cutE (fun q : Value × List Tg × Rd => [(0, .pointer (some ⟨p, 0, none⟩)), (2, .bool false), (7, .pointer (some ⟨pb, 0, none⟩)), (8, .int .i16 v), (9, .bool fx), (10, .pointer (some ⟨p, 0, none⟩))]) (fun q w' => rdTagsF fx s10 = q.2 ∧ St w0 G0 p pb q.2.2 ((p, ty, [] ++ [.int .i16 v, bcell u1_0, bcell u1_1, bcell u1_2, bcell u1_3, bcell u1_4, bcell u1_5, bcell u1_6, bcell u1_7, bcell u1_8, bcell u1_9, bcell u1_10, bcell u1_11, bcell u1_12, bcell u1_13, bcell u1_14, bcell u1_15, .int .i32 n4, .bool b6, .int .i8 n8, c10, q.1] ++ []) :: []) (fun w => TGf p q.1 q.2.1 w ∧ P11 w) w') ?_ ?_
  · refine cI (by rfl) (fun hc=>?_) (fun hc=>?_)
    · ((conv=>whnf);repeat(first|(refine mvT ?_;conv=>whnf)|(refine mvF ?_;conv=>whnf)|(refine cT (by rfl) ?_;conv=>whnf)|(refine cF (by rfl) ?_;conv=>whnf)))
      refine Does.mono H.tags ?_
      rintro r w ⟨m, u, s', rfl, hone, hr, H⟩
      ((conv=>whnf);repeat(first|(refine mvT ?_;conv=>whnf)|(refine mvF ?_;conv=>whnf)|(refine cT (by rfl) ?_;conv=>whnf)|(refine cF (by rfl) ?_;conv=>whnf)))
      refine H.st1 (v := m) 21 (rfl) (hone) rfl (by simp) rfl (Nat.lt_of_lt_of_le (Nat.lt_succ_self _) (Nat.le_of_ble_eq_true rfl)) ?_
      intro w H
      ((conv=>whnf);repeat(first|(refine mvT ?_;conv=>whnf)|(refine mvF ?_;conv=>whnf)|(refine cT (by rfl) ?_;conv=>whnf)|(refine cF (by rfl) ?_;conv=>whnf)))
      exact ⟨(m, u, s'), ⟨rfl, rfl, rfl, rfl, rfl, rfl, trivial⟩, by rw [rdTagsF, if_pos hc]; exact hr, H⟩
    · ((conv=>whnf);repeat(first|(refine mvT ?_;conv=>whnf)|(refine mvF ?_;conv=>whnf)|(refine cT (by rfl) ?_;conv=>whnf)|(refine cF (by rfl) ?_;conv=>whnf)))
      exact ⟨(.map none, [], s10), ⟨rfl, rfl, rfl, rfl, rfl, rfl, trivial⟩, by rw [rdTagsF, if_neg (by rw [hc]; decide)], H.add fun w' _ => TagsR.nil _ _⟩
  clear H
  rintro ⟨m13, u13, s13⟩ w ⟨htg, H⟩
  dsimp only at htg H
  ((conv=>whnf);repeat(first|(refine mvT ?_;conv=>whnf)|(refine mvF ?_;conv=>whnf)|(refine cT (by rfl) ?_;conv=>whnf)|(refine cF (by rfl) ?_;conv=>whnf)))
  obtain ⟨P14, hP14⟩ : ∃ P : World → Prop, P = fun w => TGf p m13 u13 w ∧ P11 w := ⟨_, rfl⟩
  replace H : St w0 G0 p pb s13 ((p, ty, [] ++ [.int .i16 v, bcell u1_0, bcell u1_1, bcell u1_2, bcell u1_3, bcell u1_4, bcell u1_5, bcell u1_6, bcell u1_7, bcell u1_8, bcell u1_9, bcell u1_10, bcell u1_11, bcell u1_12, bcell u1_13, bcell u1_14, bcell u1_15, .int .i32 n4, .bool b6, .int .i8 n8, c10, m13] ++ []) :: []) P14 w := by rw [hP14]; exact H
  have hpart : rdPart 9 v fx dPushTelemetryRequest (l, false) = (.mk 0 [] false [.mk 0 [u1_0, u1_1, u1_2, u1_3, u1_4, u1_5, u1_6, u1_7, u1_8, u1_9, u1_10, u1_11, u1_12, u1_13, u1_14, u1_15] false [] [], numT n4, numT (if b6 = true then 1 else 0), numT n8, .mk 0 u10 nl10 [] []] u13, s13) := by
    unfold rdPart rdPartW
    rw [rdAll_yes (df := dfT 9) (rdField7.trans hr1) ⟨by decide, has_all hv⟩, rdAll_yes (df := dfT 9) (rdField3.trans hr4) ⟨by decide, has_all hv⟩, rdAll_yes (df := dfT 9) (rdField0.trans hr6) ⟨by decide, has_all hv⟩, rdAll_yes (df := dfT 9) (rdField1.trans hr8) ⟨by decide, has_all hv⟩, rdAll_yes (df := dfT 9) (rdField9.trans hr10) ⟨by decide, has_all hv⟩]
    simp only [rdAll]
    rw [htg]
  refine Does.mono (H.done hL hp1) ?_
  rintro r w ⟨rfl, H⟩
  ((conv=>whnf);repeat(first|(refine mvT ?_;conv=>whnf)|(refine mvF ?_;conv=>whnf)|(refine cT (by rfl) ?_;conv=>whnf)|(refine cF (by rfl) ?_;conv=>whnf)))
  refine RdPost.end hpart H fun hP => ?_
  rw [hP14] at hP
  obtain ⟨hf14_, hP⟩ := hP
  rw [hP11] at hP
  obtain ⟨hf11_, hP⟩ := hP
  exact QPt (QA1 (QF7 (u := [u1_0, u1_1, u1_2, u1_3, u1_4, u1_5, u1_6, u1_7, u1_8, u1_9, u1_10, u1_11, u1_12, u1_13, u1_14, u1_15]) rfl) (QA1 (QF3 hn4) (QA1 (QF0 b6) (QA1 (QF1 hn8) (QA1 (QF9 hnl10 hf11_) (QA0)))))) hf14_
end Go.Proofs.YtegijdjnjeneaaaDoor.K
