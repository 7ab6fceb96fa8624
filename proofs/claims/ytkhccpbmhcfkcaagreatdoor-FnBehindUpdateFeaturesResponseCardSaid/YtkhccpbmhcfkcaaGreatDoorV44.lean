/- Reading of UpdateFeaturesResponse. -/
import Derived.Test.YtkhccpbmhcfkcaaGreatDoorE5
set_option linter.unusedVariables false
set_option linter.unusedSimpArgs false
namespace Go.Proofs.YtkhccpbmhcfkcaaGreatDoor.K
open Go
set_option maxHeartbeats 4000000
set_option maxRecDepth 100000

abbrev dUpdateFeaturesResponseResult : List Fd := [.mk 8 0 (-1) (-1) (-1) 0 0 [], .mk 2 0 (-1) (-1) (-1) 0 0 [], .mk 8 0 (-1) 0 (-1) 0 0 []]
abbrev dUpdateFeaturesResponse : List Fd := [.mk 3 0 (-1) (-1) (-1) 0 0 [], .mk 2 0 (-1) (-1) (-1) 0 0 [], .mk 8 0 (-1) 0 (-1) 0 0 [], .mk 11 0 1 (-1) (-1) 0 10 dUpdateFeaturesResponseResult]
theorem sUpdateFeaturesResponseResult (w : World) : Does X.P 37 #[] w fun r w' => FdsR w' (fun k => w.heap.size ≤ k) r dUpdateFeaturesResponseResult ∧ Ext nob w w' := by
  have hx0 : Ext nob w w := Ext.refl _ _
  refine Does.go (X := X) (l := []) Tryz.func37 rfl (by kernel_rfl) (by kernel_rfl) _ rfl ?_
  ((conv=>whnf);repeat(first|(refine mvT ?_;conv=>whnf)|(refine mvF ?_;conv=>whnf)|(refine cT (by rfl) ?_;conv=>whnf)|(refine cF (by rfl) ?_;conv=>whnf)))
  have hxs := hx0
  intro b wb hb ho hx
  have hx0 := hx0.e0 hx
  ((conv=>whnf);repeat(first|(refine mvT ?_;conv=>whnf)|(refine mvF ?_;conv=>whnf)|(refine cT (by rfl) ?_;conv=>whnf)|(refine cF (by rfl) ?_;conv=>whnf)))
  refine ⟨?_, hx0⟩
  exact FdL.fds (cs := [[.int .i64 8, .int .i64 0, .int .i64 (-1), .int .i64 (-1), .int .i64 (-1), .int .i64 0, .int .i64 0, .slice none 0 0], [.int .i64 2, .int .i64 0, .int .i64 (-1), .int .i64 (-1), .int .i64 (-1), .int .i64 0, .int .i64 0, .slice none 0 0], [.int .i64 8, .int .i64 0, .int .i64 (-1), .int .i64 0, .int .i64 (-1), .int .i64 0, .int .i64 0, .slice none 0 0]])
    ⟨fdLeaf _ _ _ _ _ _ _ _ _, fdLeaf _ _ _ _ _ _ _ _ _, fdLeaf _ _ _ _ _ _ _ _ _, trivial⟩ ho rfl (by decide) (by have := hxs.size; omega)
theorem sUpdateFeaturesResponse (w : World) : Does X.P 11 #[] w fun r w' => Msg w' (fun k => w.heap.size ≤ k) r dUpdateFeaturesResponse 0 ∧ Ext nob w w' := by
  have hx0 : Ext nob w w := Ext.refl _ _
  refine Does.go (X := X) (l := []) Tryz.func11 rfl (by kernel_rfl) (by kernel_rfl) _ rfl ?_
  ((conv=>whnf);repeat(first|(refine mvT ?_;conv=>whnf)|(refine mvF ?_;conv=>whnf)|(refine cT (by rfl) ?_;conv=>whnf)|(refine cF (by rfl) ?_;conv=>whnf)))
  intro b w1 hb ho hx
  have hx0 := hx0.e0 hx
  have ho := ho
  ((conv=>whnf);repeat(first|(refine mvT ?_;conv=>whnf)|(refine mvF ?_;conv=>whnf)|(refine cT (by rfl) ?_;conv=>whnf)|(refine cF (by rfl) ?_;conv=>whnf)))
  refine Does.mono (sUpdateFeaturesResponseResult w1) ?_
  rintro v3 wv3 ⟨hv3, hc⟩
  have hv3 := hv3.mono (F' := fun k => w.heap.size ≤ k ∧ b < k) fun k _ h => ⟨Nat.le_trans hx0.size h, Nat.lt_of_lt_of_le ho.lt h⟩
  obtain ⟨lv3, gv3, _⟩ := id hv3
  obtain ⟨av3, kv3, rfl, _⟩ := gv3.view
  ((conv=>whnf);repeat(first|(refine mvT ?_;conv=>whnf)|(refine mvF ?_;conv=>whnf)|(refine cT (by rfl) ?_;conv=>whnf)|(refine cF (by rfl) ?_;conv=>whnf)))
  have hx0 := hx0.e0 hc
  have ho := ho.e0 hc
  have hxs := hx0
  intro b2 w2 hb2 ho2 hx2
  ((conv=>whnf);repeat(first|(refine mvT ?_;conv=>whnf)|(refine mvF ?_;conv=>whnf)|(refine cT (by rfl) ?_;conv=>whnf)|(refine cF (by rfl) ?_;conv=>whnf)))
  have hx0 := hx0.e0 hx2
  refine ⟨_, _, ho.e0 hx2, rfl, rfl, rfl, ?_⟩
  intro w3 ho3 hx3
  have hx03 := hx0.st hx3 hb
  ((conv=>whnf);repeat(first|(refine mvT ?_;conv=>whnf)|(refine mvF ?_;conv=>whnf)|(refine cT (by rfl) ?_;conv=>whnf)|(refine cF (by rfl) ?_;conv=>whnf)))
  refine ⟨_, rfl, ho3.cells, ?_⟩
  refine ⟨⟨_, rfl, ?_⟩, hx03⟩
  have ho2 := ho2.ext hx3 (by have := ho.lt; omega)
  have hs := hx0.size
  have hs2 : w.heap.size ≤ b2 := Nat.le_trans hxs.size hb2
  exact FdL.fds (cs := [[.int .i64 3, .int .i64 0, .int .i64 (-1), .int .i64 (-1), .int .i64 (-1), .int .i64 0, .int .i64 0, .slice none 0 0], [.int .i64 2, .int .i64 0, .int .i64 (-1), .int .i64 (-1), .int .i64 (-1), .int .i64 0, .int .i64 0, .slice none 0 0], [.int .i64 8, .int .i64 0, .int .i64 (-1), .int .i64 0, .int .i64 (-1), .int .i64 0, .int .i64 0, .slice none 0 0], [.int .i64 11, .int .i64 0, .int .i64 1, .int .i64 (-1), .int .i64 (-1), .int .i64 0, .int .i64 10, .slice av3 lv3.length kv3]])
    ⟨fdLeaf _ _ _ _ _ _ _ _ _, fdLeaf _ _ _ _ _ _ _ _ _, fdLeaf _ _ _ _ _ _ _ _ _, FdC.of (FdsR.mono (FdsR.ext (FdsR.e0 hv3 hx2) hx3 fun k _ h1 h2 => by omega) fun k _ h => h.1) _ _ _ _ _ _ _, trivial⟩ ho2 rfl (by decide) (by omega)
theorem dfUpdateFeaturesResponseResult {w : World} {q o : Nat} {T : TypeId} {pre cur post : List Value} (ho : Own w q T (pre ++ cur ++ post)) (hp : pre.length = o) (hl : cur.length = 4) :
    Does X.P 127 #[.pointer (some ⟨q, o, none⟩)] w fun r w' => Own w' q T (pre ++ cur ++ post) ∧ Ext (fun k => k = q) w w' := by
  have hx : Ext (fun k => k = q) w w := Ext.refl _ _
  refine Does.go (X := X) (l := [_]) Tryz.func127 rfl (by kernel_rfl) (by kernel_rfl) _ rfl ?_
  ((conv=>whnf);repeat(first|(refine mvT ?_;conv=>whnf)|(refine mvF ?_;conv=>whnf)|(refine cT (by rfl) ?_;conv=>whnf)|(refine cF (by rfl) ?_;conv=>whnf)))
  exact ⟨ho, hx⟩
theorem dfUpdateFeaturesResponse {w : World} {q o : Nat} {T : TypeId} {pre cur post : List Value} (ho : Own w q T (pre ++ cur ++ post)) (hp : pre.length = o) (hl : cur.length = 6) :
    Does X.P 72 #[.pointer (some ⟨q, o, none⟩)] w fun r w' => Own w' q T (pre ++ cur ++ post) ∧ Ext (fun k => k = q) w w' := by
  have hx : Ext (fun k => k = q) w w := Ext.refl _ _
  refine Does.go (X := X) (l := [_]) Tryz.func72 rfl (by kernel_rfl) (by kernel_rfl) _ rfl ?_
  ((conv=>whnf);repeat(first|(refine mvT ?_;conv=>whnf)|(refine mvF ?_;conv=>whnf)|(refine cT (by rfl) ?_;conv=>whnf)|(refine cF (by rfl) ?_;conv=>whnf)))
  exact ⟨ho, hx⟩
theorem readUpdateFeaturesResponse {w0 : World} {F : Nat → Prop} {p : Nat} {ty : TypeId} {v : Int} {x ev : Value} {l : List UInt8} (hL : Laid w0 ev) (hp : Own w0 p ty [.int .i16 v, .int .i32 0, .int .i16 0, .pointer none, .slice none 0 0, .map none]) (hx : Bytes w0 F x l) (hF : ∀ k, F k → k ≠ p) (hv : 0 ≤ v) (hp1 : p ≠ errG) :
    Does X.P 81 #[.pointer (some ⟨p, 0, none⟩), x, .bool false] w0 fun r w' => RdPost w0 p ty v (decide (v ≥ 0)) true dUpdateFeaturesResponse ev l r w' := by
  have hpl := hp.lt
  obtain ⟨fx, hfx⟩ : ∃ fx, fx = decide (v ≥ 0) := ⟨_, rfl⟩
  rw [← hfx]
  obtain ⟨G0, hG0, hx⟩ : ∃ G0 : Nat → Prop, (∀ k, G0 k → k < w0.heap.size ∧ k ≠ p) ∧ Bytes w0 G0 x l := ⟨fun k => F k ∧ k < w0.heap.size, fun k h => ⟨h.2, hF k h.1⟩, Sl.mono hx fun k hk h => ⟨h, hk⟩⟩
  obtain ⟨a0, c0, rfl, _⟩ := hx.view
  refine Does.go (X := X) (l := [_, _, _]) Tryz.func81 rfl (by kernel_rfl) (by kernel_rfl) _ rfl ?_
  ((conv=>whnf);repeat(first|(refine mvT ?_;conv=>whnf)|(refine mvF ?_;conv=>whnf)|(refine cT (by rfl) ?_;conv=>whnf)|(refine cF (by rfl) ?_;conv=>whnf)))
  refine Does.mono (dfUpdateFeaturesResponse (pre := []) (cur := [.int .i16 v, .int .i32 0, .int .i16 0, .pointer none, .slice none 0 0, .map none]) (post := []) (by simpa using hp) rfl rfl) ?_
  rintro rd wd ⟨hpd, hxd⟩
  ((conv=>whnf);repeat(first|(refine mvT ?_;conv=>whnf)|(refine mvF ?_;conv=>whnf)|(refine cT (by rfl) ?_;conv=>whnf)|(refine cF (by rfl) ?_;conv=>whnf)))
  intro pb w1 hpb hb hx1
  ((conv=>whnf);repeat(first|(refine mvT ?_;conv=>whnf)|(refine mvF ?_;conv=>whnf)|(refine cT (by rfl) ?_;conv=>whnf)|(refine cF (by rfl) ?_;conv=>whnf)))
  refine st_all [.slice a0 l.length c0, .bool false] hb rfl rfl rfl ?_
  intro w hb hx2
  ((conv=>whnf);repeat(first|(refine mvT ?_;conv=>whnf)|(refine mvF ?_;conv=>whnf)|(refine cT (by rfl) ?_;conv=>whnf)|(refine cF (by rfl) ?_;conv=>whnf)))
  have hsd := hxd.size
  have hwp : w0.heap.size ≤ pb := by omega
  have he1 : Ext nob wd w := hx1.trans hx2 fun k hk h => by omega
  have hpw : Own w p ty [.int .i16 v, .int .i32 0, .int .i16 0, .pointer none, .slice none 0 0, .map none] := by have := hpd.e0 he1; simpa using this
  have he := hxd.tr0 he1
  have H := St.init hpw hb (hx.ext he fun k _ h => (hG0 k h).2) hG0 he hpl hwp
  clear hpd hxd hx1 hx2 hb hpw he1 hp
  refine ldS (H.cell (o := 0) rfl (k := 0) rfl) ?_;((conv=>whnf);repeat(first|(refine mvT ?_;conv=>whnf)|(refine mvF ?_;conv=>whnf)|(refine cT (by rfl) ?_;conv=>whnf)|(refine cF (by rfl) ?_;conv=>whnf)))
  rw [← hfx]
  (refine mvB ?_;((conv=>whnf);repeat(first|(refine mvT ?_;conv=>whnf)|(refine mvF ?_;conv=>whnf)|(refine cT (by rfl) ?_;conv=>whnf)|(refine cF (by rfl) ?_;conv=>whnf))))
  have hup0 : tailBad 9 v fx dUpdateFeaturesResponse (l, false) = true → (rdPart 9 v fx dUpdateFeaturesResponse (l, false)).2.2 = true := id
  refine Does.mono H.int32 ?_
  rintro r w ⟨n1, s1, rfl, hn1, hr1, H⟩
  ((conv=>whnf);repeat(first|(refine mvT ?_;conv=>whnf)|(refine mvF ?_;conv=>whnf)|(refine cT (by rfl) ?_;conv=>whnf)|(refine cF (by rfl) ?_;conv=>whnf)))
  refine H.st1 (v := .int .i32 n1) 1 (rfl) (rfl) rfl (by simp) rfl (Nat.lt_of_lt_of_le (Nat.lt_succ_self _) (Nat.le_of_ble_eq_true rfl)) ?_
  intro w H
  ((conv=>whnf);repeat(first|(refine mvT ?_;conv=>whnf)|(refine mvF ?_;conv=>whnf)|(refine cT (by rfl) ?_;conv=>whnf)|(refine cF (by rfl) ?_;conv=>whnf)))
  replace H : St w0 G0 p pb s1 ((p, ty, [] ++ [.int .i16 v, .int .i32 n1, .int .i16 0, .pointer none, .slice none 0 0, .map none] ++ []) :: []) (fun _ => True) w := H
  refine Does.mono H.int16 ?_
  rintro r w ⟨n3, s3, rfl, hn3, hr3, H⟩
  ((conv=>whnf);repeat(first|(refine mvT ?_;conv=>whnf)|(refine mvF ?_;conv=>whnf)|(refine cT (by rfl) ?_;conv=>whnf)|(refine cF (by rfl) ?_;conv=>whnf)))
  refine H.st1 (v := .int .i16 n3) 2 (rfl) (rfl) rfl (by simp) rfl (Nat.lt_of_lt_of_le (Nat.lt_succ_self _) (Nat.le_of_ble_eq_true rfl)) ?_
  intro w H
  ((conv=>whnf);repeat(first|(refine mvT ?_;conv=>whnf)|(refine mvF ?_;conv=>whnf)|(refine cT (by rfl) ?_;conv=>whnf)|(refine cF (by rfl) ?_;conv=>whnf)))
  replace H : St w0 G0 p pb s3 ((p, ty, [] ++ [.int .i16 v, .int .i32 n1, .int .i16 n3, .pointer none, .slice none 0 0, .map none] ++ []) :: []) (fun _ => True) w := H
  (refine mvB ?_;((conv=>whnf);repeat(first|(refine mvT ?_;conv=>whnf)|(refine mvF ?_;conv=>whnf)|(refine cT (by rfl) ?_;conv=>whnf)|(refine cF (by rfl) ?_;conv=>whnf))))
  refine VC.cutE (fun q : Value × Bool × List UInt8 × Rd => [(13, q.1), (0, .pointer (some ⟨p, 0, none⟩)), (2, .bool false), (7, .pointer (some ⟨pb, 0, none⟩)), (8, .int .i16 v), (9, .bool fx), (10, .pointer (some ⟨p, 0, none⟩))]) (fun q w' => q.1.oneCell' = true ∧ (q.2.1 = true → q.2.2.1 = []) ∧ rdNt fx s3 = (.mk 0 q.2.2.1 q.2.1 [] [], q.2.2.2) ∧ St w0 G0 p pb q.2.2.2 ((p, ty, [] ++ [.int .i16 v, .int .i32 n1, .int .i16 n3, .pointer none, .slice none 0 0, .map none] ++ []) :: []) (fun w => NTf p q.1 (.mk 0 q.2.2.1 q.2.1 [] []) w ∧ (fun _ => True) w) w') ?_ ?_
  · refine cI (by rfl) (fun hc=>?_) (fun hc=>?_)
    · ((conv=>whnf);repeat(first|(refine mvT ?_;conv=>whnf)|(refine mvF ?_;conv=>whnf)|(refine cT (by rfl) ?_;conv=>whnf)|(refine cF (by rfl) ?_;conv=>whnf)))
      refine Does.mono H.ntc ?_
      rintro r w ⟨c, nl, u, s', rfl, hone, hnl, hr, H⟩
      ((conv=>whnf);repeat(first|(refine mvT ?_;conv=>whnf)|(refine mvF ?_;conv=>whnf)|(refine cT (by rfl) ?_;conv=>whnf)|(refine cF (by rfl) ?_;conv=>whnf)))
      exact ⟨(r, nl, u, s'), ⟨rfl, rfl, rfl, rfl, rfl, rfl, rfl, trivial⟩, hone, hnl, by rw [hc]; exact hr, H⟩
    · ((conv=>whnf);repeat(first|(refine mvT ?_;conv=>whnf)|(refine mvF ?_;conv=>whnf)|(refine cT (by rfl) ?_;conv=>whnf)|(refine cF (by rfl) ?_;conv=>whnf)))
      refine Does.mono H.ntp ?_
      rintro r w ⟨c, nl, u, s', rfl, hone, hnl, hr, H⟩
      ((conv=>whnf);repeat(first|(refine mvT ?_;conv=>whnf)|(refine mvF ?_;conv=>whnf)|(refine cT (by rfl) ?_;conv=>whnf)|(refine cF (by rfl) ?_;conv=>whnf)))
      exact ⟨(r, nl, u, s'), ⟨rfl, rfl, rfl, rfl, rfl, rfl, rfl, trivial⟩, hone, hnl, by rw [hc]; exact hr, H⟩
  clear H
  rintro ⟨c5, nl5, u5, s5⟩ w ⟨hone5, hnl5, hr5, H⟩
  dsimp only at hone5 hnl5 hr5 H
  ((conv=>whnf);repeat(first|(refine mvT ?_;conv=>whnf)|(refine mvF ?_;conv=>whnf)|(refine cT (by rfl) ?_;conv=>whnf)|(refine cF (by rfl) ?_;conv=>whnf)))
  obtain ⟨P6, hP6⟩ : ∃ P : World → Prop, P = fun w => NTf p c5 (.mk 0 u5 nl5 [] []) w ∧ (fun _ => True) w := ⟨_, rfl⟩
  replace H : St w0 G0 p pb s5 ((p, ty, [] ++ [.int .i16 v, .int .i32 n1, .int .i16 n3, .pointer none, .slice none 0 0, .map none] ++ []) :: []) P6 w := by rw [hP6]; exact H
  refine H.st1 (v := c5) 3 (cells_one hone5) (hone5) rfl (by simp) rfl (Nat.lt_of_lt_of_le (Nat.lt_succ_self _) (Nat.le_of_ble_eq_true rfl)) ?_
  intro w H
  ((conv=>whnf);repeat(first|(refine mvT ?_;conv=>whnf)|(refine mvF ?_;conv=>whnf)|(refine cT (by rfl) ?_;conv=>whnf)|(refine cF (by rfl) ?_;conv=>whnf)))
  replace H : St w0 G0 p pb s5 ((p, ty, [] ++ [.int .i16 v, .int .i32 n1, .int .i16 n3, c5, .slice none 0 0, .map none] ++ []) :: []) P6 w := H
  intro cq hcq
  obtain rfl : cq = true := by rw [← hcq]; exact decide_eq_true hv
  ((conv=>whnf);repeat(first|(refine mvT ?_;conv=>whnf)|(refine mvF ?_;conv=>whnf)|(refine cT (by rfl) ?_;conv=>whnf)|(refine cF (by rfl) ?_;conv=>whnf)))
  refine VC.cutE (fun q : Value × Bool × List T × Rd => [(0, .pointer (some ⟨p, 0, none⟩)), (2, .bool false), (7, .pointer (some ⟨pb, 0, none⟩)), (8, .int .i16 v), (9, .bool fx), (10, .pointer (some ⟨p, 0, none⟩))]) (fun q w' => (q.2.1 = true → q.2.2.1 = []) ∧ (if hasF (.mk 11 0 1 (-1) (-1) 0 10 dUpdateFeaturesResponseResult) v = true then rdField 9 v fx (.mk 11 0 1 (-1) (-1) 0 10 dUpdateFeaturesResponseResult) s5 else (dfT 9 (.mk 11 0 1 (-1) (-1) 0 10 dUpdateFeaturesResponseResult), s5)) = (.mk 0 [] q.2.1 q.2.2.1 [], q.2.2.2) ∧ St w0 G0 p pb q.2.2.2 ((p, ty, [] ++ [.int .i16 v, .int .i32 n1, .int .i16 n3, c5, q.1, .map none] ++ []) :: []) (fun w => ListR true (elZ true 8 10 dUpdateFeaturesResponseResult) (elQ true 8 10 dUpdateFeaturesResponseResult ⟨w, fun k => k ≠ p⟩) w (fun k => k ≠ p) q.1 (.mk 0 [] (q.2.1) q.2.2.1 []) ∧ P6 w) w') ?_ ?_
  · refine cI (by rfl) (fun hcv=>?_) (fun hcv=>?_)
    · have hh : hasF (.mk 11 0 1 (-1) (-1) 0 10 dUpdateFeaturesResponseResult) v = true := by have := of_decide_eq_true hcv; rw [hasF_iff]; omega
      ((conv=>whnf);repeat(first|(refine mvT ?_;conv=>whnf)|(refine mvF ?_;conv=>whnf)|(refine cT (by rfl) ?_;conv=>whnf)|(refine cF (by rfl) ?_;conv=>whnf)))
      refine ldS (H.cell (o := 0) rfl (k := 4) rfl) ?_;((conv=>whnf);repeat(first|(refine mvT ?_;conv=>whnf)|(refine mvF ?_;conv=>whnf)|(refine cT (by rfl) ?_;conv=>whnf)|(refine cF (by rfl) ?_;conv=>whnf)))
      (refine mvB ?_;((conv=>whnf);repeat(first|(refine mvT ?_;conv=>whnf)|(refine mvF ?_;conv=>whnf)|(refine cT (by rfl) ?_;conv=>whnf)|(refine cF (by rfl) ?_;conv=>whnf))))
      refine VC.cutE (fun q : Int × Rd => [(16, .int .i32 q.1), (15, .slice none 0 0), (0, .pointer (some ⟨p, 0, none⟩)), (2, .bool false), (7, .pointer (some ⟨pb, 0, none⟩)), (8, .int .i16 v), (9, .bool fx), (10, .pointer (some ⟨p, 0, none⟩))]) (fun q w' => (-2147483648 ≤ q.1 ∧ q.1 ≤ 2147483647) ∧ rdLn fx s5 = q ∧ St w0 G0 p pb q.2 ((p, ty, [] ++ [.int .i16 v, .int .i32 n1, .int .i16 n3, c5, .slice none 0 0, .map none] ++ []) :: []) P6 w') ?_ ?_
      · refine cI (by rfl) (fun hc=>?_) (fun hc=>?_)
        · ((conv=>whnf);repeat(first|(refine mvT ?_;conv=>whnf)|(refine mvF ?_;conv=>whnf)|(refine cT (by rfl) ?_;conv=>whnf)|(refine cF (by rfl) ?_;conv=>whnf)))
          refine Does.mono H.lnc ?_
          rintro r w ⟨n, s', rfl, hn, hr, H⟩
          ((conv=>whnf);repeat(first|(refine mvT ?_;conv=>whnf)|(refine mvF ?_;conv=>whnf)|(refine cT (by rfl) ?_;conv=>whnf)|(refine cF (by rfl) ?_;conv=>whnf)))
          exact ⟨(n, s'), ⟨rfl, rfl, rfl, rfl, rfl, rfl, rfl, rfl, trivial⟩, hn, by rw [hc]; exact hr, H⟩
        · ((conv=>whnf);repeat(first|(refine mvT ?_;conv=>whnf)|(refine mvF ?_;conv=>whnf)|(refine cT (by rfl) ?_;conv=>whnf)|(refine cF (by rfl) ?_;conv=>whnf)))
          refine Does.mono H.lnp ?_
          rintro r w ⟨n, s', rfl, hn, hr, H⟩
          ((conv=>whnf);repeat(first|(refine mvT ?_;conv=>whnf)|(refine mvF ?_;conv=>whnf)|(refine cT (by rfl) ?_;conv=>whnf)|(refine cF (by rfl) ?_;conv=>whnf)))
          exact ⟨(n, s'), ⟨rfl, rfl, rfl, rfl, rfl, rfl, rfl, rfl, trivial⟩, hn, by rw [hc]; exact hr, H⟩
      clear H
      rintro ⟨n9, s9⟩ w ⟨hn9, hln9, H⟩
      dsimp only at hn9 hln9 H
      ((conv=>whnf);repeat(first|(refine mvT ?_;conv=>whnf)|(refine mvF ?_;conv=>whnf)|(refine cT (by rfl) ?_;conv=>whnf)|(refine cF (by rfl) ?_;conv=>whnf)))
      refine Does.mono H.ok ?_
      rintro r w ⟨rfl, H⟩
      ((conv=>whnf);repeat(first|(refine mvT ?_;conv=>whnf)|(refine mvF ?_;conv=>whnf)|(refine cT (by rfl) ?_;conv=>whnf)|(refine cF (by rfl) ?_;conv=>whnf)))
      refine cI (by rfl) (fun hbd=>?_) (fun hbd=>?_)
      · have hbd : s9.2 = true := by simpa using hbd
        ((conv=>whnf);repeat(first|(refine mvT ?_;conv=>whnf)|(refine mvF ?_;conv=>whnf)|(refine cT (by rfl) ?_;conv=>whnf)|(refine cF (by rfl) ?_;conv=>whnf)))
        refine Does.mono (H.done hL hp1) ?_
        rintro r w ⟨rfl, H⟩
        ((conv=>whnf);repeat(first|(refine mvT ?_;conv=>whnf)|(refine mvF ?_;conv=>whnf)|(refine cT (by rfl) ?_;conv=>whnf)|(refine cF (by rfl) ?_;conv=>whnf)))
        refine RdPost.early hbd (hup0 (?_)) H
        rw [tail_yes (rdField3.trans hr1) ⟨by decide, has_all hv⟩, tail_yes (rdField2.trans hr3) ⟨by decide, has_all hv⟩, tail_yes ((rdField8n (by decide)).trans hr5) ⟨by decide, has_all hv⟩, tail_len ⟨by decide, hh⟩ hln9 hbd]
      have hbd : s9.2 = false := by simpa using hbd
      clear hbd
      ((conv=>whnf);repeat(first|(refine mvT ?_;conv=>whnf)|(refine mvF ?_;conv=>whnf)|(refine cT (by rfl) ?_;conv=>whnf)|(refine cF (by rfl) ?_;conv=>whnf)))
      refine cut_zero ?_
      ((conv=>whnf);repeat(first|(refine mvT ?_;conv=>whnf)|(refine mvF ?_;conv=>whnf)|(refine cT (by rfl) ?_;conv=>whnf)|(refine cF (by rfl) ?_;conv=>whnf)))
      refine VC.cutE (fun a : Value => [(16, .int .i32 n9), (15, a), (0, .pointer (some ⟨p, 0, none⟩)), (2, .bool false), (7, .pointer (some ⟨pb, 0, none⟩)), (8, .int .i16 v), (9, .bool fx), (10, .pointer (some ⟨p, 0, none⟩))]) (fun a w' => ListI w0 G0 p pb 97 [str [], .int .i16 0, .pointer none, .map none] (elR 8 v fx 10 dUpdateFeaturesResponseResult) (elQ true 8 10 dUpdateFeaturesResponseResult) s9 n9 (decide (n9 ≤ 0)) ((p, ty, [] ++ [.int .i16 v, .int .i32 n1, .int .i16 n3, c5, .slice none 0 0, .map none] ++ []) :: []) P6 a 0 w') ?_ ?_
      · refine cI (by rfl) (fun hps=>?_) (fun hps=>?_)
        · have hps : 0 < n9 := by have := of_decide_eq_true hps; omega
          ((conv=>whnf);repeat(first|(refine mvT ?_;conv=>whnf)|(refine mvF ?_;conv=>whnf)|(refine cT (by rfl) ?_;conv=>whnf)|(refine cF (by rfl) ?_;conv=>whnf)))
          refine H.grow hps hn9.2 (by decide) rfl rfl (by decide) ?_
          intro g cap post w hc1 hc2 H
          ((conv=>whnf);repeat(first|(refine mvT ?_;conv=>whnf)|(refine mvF ?_;conv=>whnf)|(refine cT (by rfl) ?_;conv=>whnf)|(refine cF (by rfl) ?_;conv=>whnf)))
          exact ⟨_, ⟨rfl, rfl, rfl, rfl, rfl, rfl, rfl, rfl, trivial⟩, ListI.some hps (decide_eq_false (by omega)) hc1 hc2 H⟩
        · have hps : n9 ≤ 0 := by have := of_decide_eq_false hps; omega
          ((conv=>whnf);repeat(first|(refine mvT ?_;conv=>whnf)|(refine mvF ?_;conv=>whnf)|(refine cT (by rfl) ?_;conv=>whnf)|(refine cF (by rfl) ?_;conv=>whnf)))
          exact ⟨_, ⟨rfl, rfl, rfl, rfl, rfl, rfl, rfl, rfl, trivial⟩, ListI.none hps (decide_eq_true hps) H⟩
      clear H
      rintro a9 w H
      ((conv=>whnf);repeat(first|(refine mvT ?_;conv=>whnf)|(refine mvF ?_;conv=>whnf)|(refine cT (by rfl) ?_;conv=>whnf)|(refine cF (by rfl) ?_;conv=>whnf)))
      have hpL9 : inL ((p, ty, [] ++ [.int .i16 v, .int .i32 n1, .int .i16 n3, c5, .slice none 0 0, .map none] ++ []) :: []) p := inL.head _ _
      refine VL.loop (fun i : Nat => [(16, .int .i32 n9), (15, a9), (17, .int .i32 i), (0, .pointer (some ⟨p, 0, none⟩)), (2, .bool false), (7, .pointer (some ⟨pb, 0, none⟩)), (8, .int .i16 v), (9, .bool fx), (10, .pointer (some ⟨p, 0, none⟩))]) (fun i w' => i ≤ 2147483647 ∧ ListI w0 G0 p pb 97 [str [], .int .i16 0, .pointer none, .map none] (elR 8 v fx 10 dUpdateFeaturesResponseResult) (elQ true 8 10 dUpdateFeaturesResponseResult) s9 n9 (decide (n9 ≤ 0)) ((p, ty, [] ++ [.int .i16 v, .int .i32 n1, .int .i16 n3, c5, .slice none 0 0, .map none] ++ []) :: []) P6 a9 i w') (fun i => n9.toNat - i) 0 ⟨rfl, rfl, rfl, rfl, rfl, rfl, rfl, rfl, rfl, trivial⟩ ⟨by decide, H⟩ ?_
      clear H
      rintro i9 w ⟨hi9, H⟩
      ((conv=>whnf);repeat(first|(refine mvT ?_;conv=>whnf)|(refine mvF ?_;conv=>whnf)|(refine cT (by rfl) ?_;conv=>whnf)|(refine cF (by rfl) ?_;conv=>whnf)))
      refine cI (by rfl) (fun h9=>?_) (fun h9=>?_)
      · have hlt9 : (i9 : Int) < n9 := of_decide_eq_true h9
        obtain ⟨g9, cap9, post9, rfl, hgo9, HI⟩ := H.go hlt9
        obtain ⟨es9, ts9, si9, hes9, hez9, hrn9, hts9, hlen1, H⟩ := HI.open hgo9.2.2.2.2
        obtain ⟨L9, hL9⟩ : ∃ L : List Ob, L = ((p, ty, [] ++ [.int .i16 v, .int .i32 n1, .int .i16 n3, c5, .slice none 0 0, .map none] ++ []) :: []) := ⟨_, rfl⟩
        rw [← hL9] at H hpL9
        obtain ⟨P9, hP9⟩ : ∃ P : World → Prop, P = fun w => (∀ (j : Nat) (c : List Value) (y : T), es9[j]? = some c → ts9[j]? = some y → elQ true 8 10 dUpdateFeaturesResponseResult ⟨w, fun k => k ≠ p⟩ c y) ∧ P6 w := ⟨_, rfl⟩
        rw [← hP9] at H
        replace H : St w0 G0 p pb si9 ((g9, 97, es9.flatten ++ [str [], .int .i16 0, .pointer none, .map none] ++ ((List.replicate (n9.toNat - (i9 + 1)) [str [], .int .i16 0, .pointer none, .map none]).flatten ++ post9)) :: L9) P9 w := H
        ((conv=>whnf);repeat(first|(refine mvT ?_;conv=>whnf)|(refine mvF ?_;conv=>whnf)|(refine cT (by rfl) ?_;conv=>whnf)|(refine cF (by rfl) ?_;conv=>whnf)))
        refine ⟨g9, 0, rfl, ⟨by omega, by omega⟩, ?_⟩
        ((conv=>whnf);repeat(first|(refine mvT ?_;conv=>whnf)|(refine mvF ?_;conv=>whnf)|(refine cT (by rfl) ?_;conv=>whnf)|(refine cF (by rfl) ?_;conv=>whnf)))
        refine Does.mono (dfUpdateFeaturesResponseResult (pre := es9.flatten) (cur := [str [], .int .i16 0, .pointer none, .map none]) (post := ((List.replicate (n9.toNat - (i9 + 1)) [str [], .int .i16 0, .pointer none, .map none]).flatten ++ post9)) H.head (by first | (rw [hlen1]; simp; done) | (simp [hlen1]; done) | (simp [hlen1]; omega)) rfl) ?_
        rintro rd w2 ⟨hdf, hxd⟩
        replace H := H.put hdf hxd
        clear hdf hxd
        replace H : St w0 G0 p pb si9 ((g9, 97, es9.flatten ++ [str [], .int .i16 0, .pointer none, .map none] ++ ((List.replicate (n9.toNat - (i9 + 1)) [str [], .int .i16 0, .pointer none, .map none]).flatten ++ post9)) :: L9) P9 w2 := H
        ((conv=>whnf);repeat(first|(refine mvT ?_;conv=>whnf)|(refine mvF ?_;conv=>whnf)|(refine cT (by rfl) ?_;conv=>whnf)|(refine cF (by rfl) ?_;conv=>whnf)))
        have hup9 : tailBad 8 v fx dUpdateFeaturesResponseResult si9 = true → (rdPart 9 v fx dUpdateFeaturesResponse (l, false)).2.2 = true := by
          intro hb
          refine hup0 ?_
          rw [tail_yes (rdField3.trans hr1) ⟨by decide, has_all hv⟩, tail_yes (rdField2.trans hr3) ⟨by decide, has_all hv⟩, tail_yes ((rdField8n (by decide)).trans hr5) ⟨by decide, has_all hv⟩, tail_el ⟨by decide, hh⟩ hln9 hgo9.2.2.2.2 hrn9 hb]
        (refine mvB ?_;((conv=>whnf);repeat(first|(refine mvT ?_;conv=>whnf)|(refine mvF ?_;conv=>whnf)|(refine cT (by rfl) ?_;conv=>whnf)|(refine cF (by rfl) ?_;conv=>whnf))))
        refine VC.cutE (fun q : List UInt8 × Rd => [(20, str q.1), (0, .pointer (some ⟨p, 0, none⟩)), (2, .bool false), (7, .pointer (some ⟨pb, 0, none⟩)), (8, .int .i16 v), (9, .bool fx), (10, .pointer (some ⟨p, 0, none⟩)), (16, .int .i32 n9), (15, .slice (some ⟨g9, 0, none⟩) n9.toNat cap9), (17, .int .i32 i9), (18, .pointer (some ⟨g9, 0 + (i9 : Int).toNat * 4, none⟩)), (19, .pointer (some ⟨g9, 0 + (i9 : Int).toNat * 4, none⟩))]) (fun q w' => rdTx fx si9 = q ∧ St w0 G0 p pb q.2 ((g9, 97, es9.flatten ++ [str [], .int .i16 0, .pointer none, .map none] ++ ((List.replicate (n9.toNat - (i9 + 1)) [str [], .int .i16 0, .pointer none, .map none]).flatten ++ post9)) :: L9) P9 w') ?_ ?_
        · refine cI (by rfl) (fun hc=>?_) (fun hc=>?_)
          · ((conv=>whnf);repeat(first|(refine mvT ?_;conv=>whnf)|(refine mvF ?_;conv=>whnf)|(refine cT (by rfl) ?_;conv=>whnf)|(refine cF (by rfl) ?_;conv=>whnf)))
            refine Does.mono H.txc ?_
            rintro r w ⟨u, s', rfl, hr, H⟩
            ((conv=>whnf);repeat(first|(refine mvT ?_;conv=>whnf)|(refine mvF ?_;conv=>whnf)|(refine cT (by rfl) ?_;conv=>whnf)|(refine cF (by rfl) ?_;conv=>whnf)))
            exact ⟨(u, s'), ⟨rfl, rfl, rfl, rfl, rfl, rfl, rfl, rfl, rfl, rfl, rfl, rfl, trivial⟩, by rw [hc]; exact hr, H⟩
          · ((conv=>whnf);repeat(first|(refine mvT ?_;conv=>whnf)|(refine mvF ?_;conv=>whnf)|(refine cT (by rfl) ?_;conv=>whnf)|(refine cF (by rfl) ?_;conv=>whnf)))
            refine Does.mono H.txp ?_
            rintro r w ⟨u, s', rfl, hr, H⟩
            ((conv=>whnf);repeat(first|(refine mvT ?_;conv=>whnf)|(refine mvF ?_;conv=>whnf)|(refine cT (by rfl) ?_;conv=>whnf)|(refine cF (by rfl) ?_;conv=>whnf)))
            exact ⟨(u, s'), ⟨rfl, rfl, rfl, rfl, rfl, rfl, rfl, rfl, rfl, rfl, rfl, rfl, trivial⟩, by rw [hc]; exact hr, H⟩
        clear H
        rintro ⟨u10, s10⟩ w ⟨hr10, H⟩
        dsimp only at hr10 H
        ((conv=>whnf);repeat(first|(refine mvT ?_;conv=>whnf)|(refine mvF ?_;conv=>whnf)|(refine cT (by rfl) ?_;conv=>whnf)|(refine cF (by rfl) ?_;conv=>whnf)))
        refine H.st1 (v := str u10) 0 (rfl) (rfl) rfl (by first | omega | (simp [hlen1]; done) | (simp [hlen1]; omega)) rfl (Nat.lt_of_lt_of_le (Nat.lt_succ_self _) (Nat.le_of_ble_eq_true rfl)) ?_
        intro w H
        ((conv=>whnf);repeat(first|(refine mvT ?_;conv=>whnf)|(refine mvF ?_;conv=>whnf)|(refine cT (by rfl) ?_;conv=>whnf)|(refine cF (by rfl) ?_;conv=>whnf)))
        replace H : St w0 G0 p pb s10 ((g9, 97, es9.flatten ++ [str u10, .int .i16 0, .pointer none, .map none] ++ ((List.replicate (n9.toNat - (i9 + 1)) [str [], .int .i16 0, .pointer none, .map none]).flatten ++ post9)) :: L9) P9 w := H
        refine Does.mono H.int16 ?_
        rintro r w ⟨n12, s12, rfl, hn12, hr12, H⟩
        ((conv=>whnf);repeat(first|(refine mvT ?_;conv=>whnf)|(refine mvF ?_;conv=>whnf)|(refine cT (by rfl) ?_;conv=>whnf)|(refine cF (by rfl) ?_;conv=>whnf)))
        refine H.st1 (v := .int .i16 n12) 1 (rfl) (rfl) rfl (by first | omega | (simp [hlen1]; done) | (simp [hlen1]; omega)) rfl (Nat.lt_of_lt_of_le (Nat.lt_succ_self _) (Nat.le_of_ble_eq_true rfl)) ?_
        intro w H
        ((conv=>whnf);repeat(first|(refine mvT ?_;conv=>whnf)|(refine mvF ?_;conv=>whnf)|(refine cT (by rfl) ?_;conv=>whnf)|(refine cF (by rfl) ?_;conv=>whnf)))
        replace H : St w0 G0 p pb s12 ((g9, 97, es9.flatten ++ [str u10, .int .i16 n12, .pointer none, .map none] ++ ((List.replicate (n9.toNat - (i9 + 1)) [str [], .int .i16 0, .pointer none, .map none]).flatten ++ post9)) :: L9) P9 w := H
        (refine mvB ?_;((conv=>whnf);repeat(first|(refine mvT ?_;conv=>whnf)|(refine mvF ?_;conv=>whnf)|(refine cT (by rfl) ?_;conv=>whnf)|(refine cF (by rfl) ?_;conv=>whnf))))
        refine VC.cutE (fun q : Value × Bool × List UInt8 × Rd => [(22, q.1), (0, .pointer (some ⟨p, 0, none⟩)), (2, .bool false), (7, .pointer (some ⟨pb, 0, none⟩)), (8, .int .i16 v), (9, .bool fx), (10, .pointer (some ⟨p, 0, none⟩)), (16, .int .i32 n9), (15, .slice (some ⟨g9, 0, none⟩) n9.toNat cap9), (17, .int .i32 i9), (18, .pointer (some ⟨g9, 0 + (i9 : Int).toNat * 4, none⟩)), (19, .pointer (some ⟨g9, 0 + (i9 : Int).toNat * 4, none⟩))]) (fun q w' => q.1.oneCell' = true ∧ (q.2.1 = true → q.2.2.1 = []) ∧ rdNt fx s12 = (.mk 0 q.2.2.1 q.2.1 [] [], q.2.2.2) ∧ St w0 G0 p pb q.2.2.2 ((g9, 97, es9.flatten ++ [str u10, .int .i16 n12, .pointer none, .map none] ++ ((List.replicate (n9.toNat - (i9 + 1)) [str [], .int .i16 0, .pointer none, .map none]).flatten ++ post9)) :: L9) (fun w => NTf p q.1 (.mk 0 q.2.2.1 q.2.1 [] []) w ∧ P9 w) w') ?_ ?_
        · refine cI (by rfl) (fun hc=>?_) (fun hc=>?_)
          · ((conv=>whnf);repeat(first|(refine mvT ?_;conv=>whnf)|(refine mvF ?_;conv=>whnf)|(refine cT (by rfl) ?_;conv=>whnf)|(refine cF (by rfl) ?_;conv=>whnf)))
            refine Does.mono H.ntc ?_
            rintro r w ⟨c, nl, u, s', rfl, hone, hnl, hr, H⟩
            ((conv=>whnf);repeat(first|(refine mvT ?_;conv=>whnf)|(refine mvF ?_;conv=>whnf)|(refine cT (by rfl) ?_;conv=>whnf)|(refine cF (by rfl) ?_;conv=>whnf)))
            exact ⟨(r, nl, u, s'), ⟨rfl, rfl, rfl, rfl, rfl, rfl, rfl, rfl, rfl, rfl, rfl, rfl, trivial⟩, hone, hnl, by rw [hc]; exact hr, H⟩
          · ((conv=>whnf);repeat(first|(refine mvT ?_;conv=>whnf)|(refine mvF ?_;conv=>whnf)|(refine cT (by rfl) ?_;conv=>whnf)|(refine cF (by rfl) ?_;conv=>whnf)))
            refine Does.mono H.ntp ?_
            rintro r w ⟨c, nl, u, s', rfl, hone, hnl, hr, H⟩
            ((conv=>whnf);repeat(first|(refine mvT ?_;conv=>whnf)|(refine mvF ?_;conv=>whnf)|(refine cT (by rfl) ?_;conv=>whnf)|(refine cF (by rfl) ?_;conv=>whnf)))
            exact ⟨(r, nl, u, s'), ⟨rfl, rfl, rfl, rfl, rfl, rfl, rfl, rfl, rfl, rfl, rfl, rfl, trivial⟩, hone, hnl, by rw [hc]; exact hr, H⟩
        clear H
        rintro ⟨c14, nl14, u14, s14⟩ w ⟨hone14, hnl14, hr14, H⟩
        dsimp only at hone14 hnl14 hr14 H
        ((conv=>whnf);repeat(first|(refine mvT ?_;conv=>whnf)|(refine mvF ?_;conv=>whnf)|(refine cT (by rfl) ?_;conv=>whnf)|(refine cF (by rfl) ?_;conv=>whnf)))
        obtain ⟨P15, hP15⟩ : ∃ P : World → Prop, P = fun w => NTf p c14 (.mk 0 u14 nl14 [] []) w ∧ P9 w := ⟨_, rfl⟩
        replace H : St w0 G0 p pb s14 ((g9, 97, es9.flatten ++ [str u10, .int .i16 n12, .pointer none, .map none] ++ ((List.replicate (n9.toNat - (i9 + 1)) [str [], .int .i16 0, .pointer none, .map none]).flatten ++ post9)) :: L9) P15 w := by rw [hP15]; exact H
        refine H.st1 (v := c14) 2 (cells_one hone14) (hone14) rfl (by first | omega | (simp [hlen1]; done) | (simp [hlen1]; omega)) rfl (Nat.lt_of_lt_of_le (Nat.lt_succ_self _) (Nat.le_of_ble_eq_true rfl)) ?_
        intro w H
        ((conv=>whnf);repeat(first|(refine mvT ?_;conv=>whnf)|(refine mvF ?_;conv=>whnf)|(refine cT (by rfl) ?_;conv=>whnf)|(refine cF (by rfl) ?_;conv=>whnf)))
        replace H : St w0 G0 p pb s14 ((g9, 97, es9.flatten ++ [str u10, .int .i16 n12, c14, .map none] ++ ((List.replicate (n9.toNat - (i9 + 1)) [str [], .int .i16 0, .pointer none, .map none]).flatten ++ post9)) :: L9) P15 w := H
        (refine mvB ?_;((conv=>whnf);repeat(first|(refine mvT ?_;conv=>whnf)|(refine mvF ?_;conv=>whnf)|(refine cT (by rfl) ?_;conv=>whnf)|(refine cF (by rfl) ?_;conv=>whnf))))
        refine VC.cutB (fun q : Value × List Tg × Rd => [(0, .pointer (some ⟨p, 0, none⟩)), (2, .bool false), (7, .pointer (some ⟨pb, 0, none⟩)), (8, .int .i16 v), (9, .bool fx), (10, .pointer (some ⟨p, 0, none⟩)), (16, .int .i32 n9), (15, .slice (some ⟨g9, 0, none⟩) n9.toNat cap9), (17, .int .i32 i9), (18, .pointer (some ⟨g9, 0 + (i9 : Int).toNat * 4, none⟩)), (19, .pointer (some ⟨g9, 0 + (i9 : Int).toNat * 4, none⟩))]) (fun q w' => rdTagsF fx s14 = q.2 ∧ St w0 G0 p pb q.2.2 ((g9, 97, es9.flatten ++ [str u10, .int .i16 n12, c14, q.1] ++ ((List.replicate (n9.toNat - (i9 + 1)) [str [], .int .i16 0, .pointer none, .map none]).flatten ++ post9)) :: L9) (fun w => TGf p q.1 q.2.1 w ∧ P15 w) w') ?_ ?_
        · refine cI (by rfl) (fun hc=>?_) (fun hc=>?_)
          · ((conv=>whnf);repeat(first|(refine mvT ?_;conv=>whnf)|(refine mvF ?_;conv=>whnf)|(refine cT (by rfl) ?_;conv=>whnf)|(refine cF (by rfl) ?_;conv=>whnf)))
            refine Does.mono H.tags ?_
            rintro r w ⟨m, u, s', rfl, hone, hr, H⟩
            ((conv=>whnf);repeat(first|(refine mvT ?_;conv=>whnf)|(refine mvF ?_;conv=>whnf)|(refine cT (by rfl) ?_;conv=>whnf)|(refine cF (by rfl) ?_;conv=>whnf)))
            refine H.st1 (v := m) 3 (rfl) (hone) rfl (by first | omega | (simp [hlen1]; done) | (simp [hlen1]; omega)) rfl (Nat.lt_of_lt_of_le (Nat.lt_succ_self _) (Nat.le_of_ble_eq_true rfl)) ?_
            intro w H
            ((conv=>whnf);repeat(first|(refine mvT ?_;conv=>whnf)|(refine mvF ?_;conv=>whnf)|(refine cT (by rfl) ?_;conv=>whnf)|(refine cF (by rfl) ?_;conv=>whnf)))
            exact ⟨(m, u, s'), ⟨rfl, rfl, rfl, rfl, rfl, rfl, rfl, rfl, rfl, rfl, rfl, trivial⟩, by rw [rdTagsF, if_pos hc]; exact hr, H⟩
          · ((conv=>whnf);repeat(first|(refine mvT ?_;conv=>whnf)|(refine mvF ?_;conv=>whnf)|(refine cT (by rfl) ?_;conv=>whnf)|(refine cF (by rfl) ?_;conv=>whnf)))
            exact ⟨(.map none, [], s14), ⟨rfl, rfl, rfl, rfl, rfl, rfl, rfl, rfl, rfl, rfl, rfl, trivial⟩, by rw [rdTagsF, if_neg (by rw [hc]; decide)], H.add fun w' _ => TagsR.nil _ _⟩
        clear H
        rintro ⟨m17, u17, s17⟩ w ⟨htg, H⟩
        dsimp only at htg H
        ((conv=>whnf);repeat(first|(refine mvT ?_;conv=>whnf)|(refine mvF ?_;conv=>whnf)|(refine cT (by rfl) ?_;conv=>whnf)|(refine cF (by rfl) ?_;conv=>whnf)))
        obtain ⟨P18, hP18⟩ : ∃ P : World → Prop, P = fun w => TGf p m17 u17 w ∧ P15 w := ⟨_, rfl⟩
        replace H : St w0 G0 p pb s17 ((g9, 97, es9.flatten ++ [str u10, .int .i16 n12, c14, m17] ++ ((List.replicate (n9.toNat - (i9 + 1)) [str [], .int .i16 0, .pointer none, .map none]).flatten ++ post9)) :: L9) P18 w := by rw [hP18]; exact H
        have hpart : rdPart 8 v fx dUpdateFeaturesResponseResult si9 = (.mk 0 [] false [.mk 0 u10 false [] [], numT n12, .mk 0 u14 nl14 [] []] u17, s17) := by
          unfold rdPart rdPartW
          rw [rdAll_yes (df := dfT 8) (rdField8 (by decide) hr10) ⟨by decide, has_all hv⟩, rdAll_yes (df := dfT 8) (rdField2.trans hr12) ⟨by decide, has_all hv⟩, rdAll_yes (df := dfT 8) ((rdField8n (by decide)).trans hr14) ⟨by decide, has_all hv⟩]
          simp only [rdAll]
          rw [htg]
        refine ⟨i9 + 1, ⟨rfl, rfl, ?_, rfl, rfl, rfl, rfl, rfl, rfl, trivial⟩, ⟨by omega, ListI.back hgo9 (LoopI.next hes9 hez9 hrn9 hts9 (cur := [str u10, .int .i16 n12, c14, m17]) (x := .mk 0 [] false [.mk 0 u10 false [] [], numT n12, .mk 0 u14 nl14 [] []] u17) (hpart) rfl (by rw [← hL9]; exact H) fun w hP => ?_)⟩, by omega⟩
        · show some (Value.int .i32 _) = _
          rw [IntKind.wrap_i32]
          simp only [Option.some.injEq, Value.int.injEq, true_and]
          omega
        · skip
          rw [hP18] at hP
          obtain ⟨hf18_, hP⟩ := hP
          rw [hP15] at hP
          obtain ⟨hf15_, hP⟩ := hP
          rw [hP9] at hP
          exact ⟨QPt (QA1 (QF8 (by decide) u10) (QA1 (QF2 hn12) (QA1 (QF8n (by decide) hnl14 hf15_) (QA0)))) hf18_, hP⟩
      have hge9 : ¬ (i9 : Int) < n9 := of_decide_eq_false h9
      obtain ⟨l19, s19, hone19, hl19, hr19, H⟩ := H.done hge9 hln9 (nl := nlF (.mk 11 0 1 (-1) (-1) 0 10 dUpdateFeaturesResponseResult) v) (sz := elZ true 8 10 dUpdateFeaturesResponseResult) rfl hpL9 rfl
      ((conv=>whnf);repeat(first|(refine mvT ?_;conv=>whnf)|(refine mvF ?_;conv=>whnf)|(refine cT (by rfl) ?_;conv=>whnf)|(refine cF (by rfl) ?_;conv=>whnf)))
      obtain ⟨P20, hP20⟩ : ∃ P : World → Prop, P = fun w => ListR true (elZ true 8 10 dUpdateFeaturesResponseResult) (elQ true 8 10 dUpdateFeaturesResponseResult ⟨w, fun k => k ≠ p⟩) w (fun k => k ≠ p) a9 (.mk 0 [] (decide (n9 ≤ 0)) l19 []) ∧ P6 w := ⟨_, rfl⟩
      replace H : St w0 G0 p pb s19 ((p, ty, [] ++ [.int .i16 v, .int .i32 n1, .int .i16 n3, c5, .slice none 0 0, .map none] ++ []) :: []) P20 w := by rw [hP20]; exact H
      refine H.st1 (v := a9) 4 (cells_one hone19) (hone19) rfl (by simp) rfl (Nat.lt_of_lt_of_le (Nat.lt_succ_self _) (Nat.le_of_ble_eq_true rfl)) ?_
      intro w H
      ((conv=>whnf);repeat(first|(refine mvT ?_;conv=>whnf)|(refine mvF ?_;conv=>whnf)|(refine cT (by rfl) ?_;conv=>whnf)|(refine cF (by rfl) ?_;conv=>whnf)))
      replace H : St w0 G0 p pb s19 ((p, ty, [] ++ [.int .i16 v, .int .i32 n1, .int .i16 n3, c5, a9, .map none] ++ []) :: []) P20 w := H
      exact ⟨(a9, decide (n9 ≤ 0), l19, s19), ⟨rfl, rfl, rfl, rfl, rfl, rfl, trivial⟩, hl19, by rw [if_pos hh]; exact ((rdField_list _ _ _ _ _ _ _ _ _ _ _).trans hr19), by rw [hP20] at H; exact H⟩
    · ((conv=>whnf);repeat(first|(refine mvT ?_;conv=>whnf)|(refine mvF ?_;conv=>whnf)|(refine cT (by rfl) ?_;conv=>whnf)|(refine cF (by rfl) ?_;conv=>whnf)))
      have hh : ¬ hasF (.mk 11 0 1 (-1) (-1) 0 10 dUpdateFeaturesResponseResult) v = true := by have := of_decide_eq_false hcv; rw [hasF_iff]; omega
      exact ⟨(.slice none 0 0, true, [], s5), ⟨rfl, rfl, rfl, rfl, rfl, rfl, trivial⟩, fun _ => rfl, by rw [if_neg hh]; rfl, H.add fun w' _ => .inl ⟨rfl, rfl⟩⟩
  clear H
  rintro ⟨c8, nl8, l8, s8⟩ w ⟨hnl8, hr8, H⟩
  dsimp only at hnl8 hr8 H
  ((conv=>whnf);repeat(first|(refine mvT ?_;conv=>whnf)|(refine mvF ?_;conv=>whnf)|(refine cT (by rfl) ?_;conv=>whnf)|(refine cF (by rfl) ?_;conv=>whnf)))
  obtain ⟨P22, hP22⟩ : ∃ P : World → Prop, P = fun w => ListR true (elZ true 8 10 dUpdateFeaturesResponseResult) (elQ true 8 10 dUpdateFeaturesResponseResult ⟨w, fun k => k ≠ p⟩) w (fun k => k ≠ p) c8 (.mk 0 [] (nl8) l8 []) ∧ P6 w := ⟨_, rfl⟩
  replace H : St w0 G0 p pb s8 ((p, ty, [] ++ [.int .i16 v, .int .i32 n1, .int .i16 n3, c5, c8, .map none] ++ []) :: []) P22 w := by rw [hP22]; exact H
  (refine mvB ?_;((conv=>whnf);repeat(first|(refine mvT ?_;conv=>whnf)|(refine mvF ?_;conv=>whnf)|(refine cT (by rfl) ?_;conv=>whnf)|(refine cF (by rfl) ?_;conv=>whnf))))
  refine VC.cutE (fun q : Value × List Tg × Rd => [(0, .pointer (some ⟨p, 0, none⟩)), (2, .bool false), (7, .pointer (some ⟨pb, 0, none⟩)), (8, .int .i16 v), (9, .bool fx), (10, .pointer (some ⟨p, 0, none⟩))]) (fun q w' => rdTagsF fx s8 = q.2 ∧ St w0 G0 p pb q.2.2 ((p, ty, [] ++ [.int .i16 v, .int .i32 n1, .int .i16 n3, c5, c8, q.1] ++ []) :: []) (fun w => TGf p q.1 q.2.1 w ∧ P22 w) w') ?_ ?_
  · refine cI (by rfl) (fun hc=>?_) (fun hc=>?_)
    · ((conv=>whnf);repeat(first|(refine mvT ?_;conv=>whnf)|(refine mvF ?_;conv=>whnf)|(refine cT (by rfl) ?_;conv=>whnf)|(refine cF (by rfl) ?_;conv=>whnf)))
      refine Does.mono H.tags ?_
      rintro r w ⟨m, u, s', rfl, hone, hr, H⟩
      ((conv=>whnf);repeat(first|(refine mvT ?_;conv=>whnf)|(refine mvF ?_;conv=>whnf)|(refine cT (by rfl) ?_;conv=>whnf)|(refine cF (by rfl) ?_;conv=>whnf)))
      refine H.st1 (v := m) 5 (rfl) (hone) rfl (by simp) rfl (Nat.lt_of_lt_of_le (Nat.lt_succ_self _) (Nat.le_of_ble_eq_true rfl)) ?_
      intro w H
      ((conv=>whnf);repeat(first|(refine mvT ?_;conv=>whnf)|(refine mvF ?_;conv=>whnf)|(refine cT (by rfl) ?_;conv=>whnf)|(refine cF (by rfl) ?_;conv=>whnf)))
      exact ⟨(m, u, s'), ⟨rfl, rfl, rfl, rfl, rfl, rfl, trivial⟩, by rw [rdTagsF, if_pos hc]; exact hr, H⟩
    · ((conv=>whnf);repeat(first|(refine mvT ?_;conv=>whnf)|(refine mvF ?_;conv=>whnf)|(refine cT (by rfl) ?_;conv=>whnf)|(refine cF (by rfl) ?_;conv=>whnf)))
      exact ⟨(.map none, [], s8), ⟨rfl, rfl, rfl, rfl, rfl, rfl, trivial⟩, by rw [rdTagsF, if_neg (by rw [hc]; decide)], H.add fun w' _ => TagsR.nil _ _⟩
  clear H
  rintro ⟨m23, u23, s23⟩ w ⟨htg, H⟩
  dsimp only at htg H
  ((conv=>whnf);repeat(first|(refine mvT ?_;conv=>whnf)|(refine mvF ?_;conv=>whnf)|(refine cT (by rfl) ?_;conv=>whnf)|(refine cF (by rfl) ?_;conv=>whnf)))
  obtain ⟨P24, hP24⟩ : ∃ P : World → Prop, P = fun w => TGf p m23 u23 w ∧ P22 w := ⟨_, rfl⟩
  replace H : St w0 G0 p pb s23 ((p, ty, [] ++ [.int .i16 v, .int .i32 n1, .int .i16 n3, c5, c8, m23] ++ []) :: []) P24 w := by rw [hP24]; exact H
  have hpart : rdPart 9 v fx dUpdateFeaturesResponse (l, false) = (.mk 0 [] false [numT n1, numT n3, .mk 0 u5 nl5 [] [], .mk 0 [] nl8 l8 []] u23, s23) := by
    unfold rdPart rdPartW
    rw [rdAll_yes (df := dfT 9) (rdField3.trans hr1) ⟨by decide, has_all hv⟩, rdAll_yes (df := dfT 9) (rdField2.trans hr3) ⟨by decide, has_all hv⟩, rdAll_yes (df := dfT 9) ((rdField8n (by decide)).trans hr5) ⟨by decide, has_all hv⟩, rdAll_ver hr8 (by decide)]
    simp only [rdAll]
    rw [htg]
  refine Does.mono (H.done hL hp1) ?_
  rintro r w ⟨rfl, H⟩
  ((conv=>whnf);repeat(first|(refine mvT ?_;conv=>whnf)|(refine mvF ?_;conv=>whnf)|(refine cT (by rfl) ?_;conv=>whnf)|(refine cF (by rfl) ?_;conv=>whnf)))
  refine RdPost.end hpart H fun hP => ?_
  rw [hP24] at hP
  obtain ⟨hf24_, hP⟩ := hP
  rw [hP22] at hP
  obtain ⟨hf22_, hP⟩ := hP
  rw [hP6] at hP
  obtain ⟨hf6_, hP⟩ := hP
  exact QPt (QA1 (QF3 hn1) (QA1 (QF2 hn3) (QA1 (QF8n (by decide) hnl5 hf6_) (QA1 (QF11 hnl8 hf22_) (QA0))))) hf24_
end Go.Proofs.YtkhccpbmhcfkcaaGreatDoor.K
