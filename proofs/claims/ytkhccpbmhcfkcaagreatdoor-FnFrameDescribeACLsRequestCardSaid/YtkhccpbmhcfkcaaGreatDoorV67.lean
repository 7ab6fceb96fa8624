/- Reading of DescribeACLsRequest. -/
import Derived.Test.YtkhccpbmhcfkcaaGreatDoorE5
set_option linter.unusedVariables false
set_option linter.unusedSimpArgs false
namespace Go.Proofs.YtkhccpbmhcfkcaaGreatDoor.K
open Go
set_option maxHeartbeats 4000000
set_option maxRecDepth 100000

abbrev dDescribeACLsRequest : List Fd := [.mk 1 0 (-1) (-1) (-1) 0 0 [], .mk 8 0 (-1) 0 (-1) 0 0 [], .mk 1 1 (-1) (-1) (-1) 3 0 [], .mk 8 0 (-1) 0 (-1) 0 0 [], .mk 8 0 (-1) 0 (-1) 0 0 [], .mk 1 0 (-1) (-1) (-1) 0 0 [], .mk 1 0 (-1) (-1) (-1) 0 0 []]
theorem sDescribeACLsRequest (w : World) : Does X.P 29 #[] w fun r w' => Msg w' (fun k => w.heap.size ≤ k) r dDescribeACLsRequest 2 ∧ Ext nob w w' := by
  have hx0 : Ext nob w w := Ext.refl _ _
  refine Does.go (X := X) (l := []) Tryz.func29 rfl (by kernel_rfl) (by kernel_rfl) _ rfl ?_
  ((conv=>whnf);repeat(first|(refine mvT ?_;conv=>whnf)|(refine mvF ?_;conv=>whnf)|(refine cT (by rfl) ?_;conv=>whnf)|(refine cF (by rfl) ?_;conv=>whnf)))
  intro b w1 hb ho hx
  have hx0 := hx0.e0 hx
  have ho := ho
  ((conv=>whnf);repeat(first|(refine mvT ?_;conv=>whnf)|(refine mvF ?_;conv=>whnf)|(refine cT (by rfl) ?_;conv=>whnf)|(refine cF (by rfl) ?_;conv=>whnf)))
  have hxs := hx0
  intro b2 w2 hb2 ho2 hx2
  ((conv=>whnf);repeat(first|(refine mvT ?_;conv=>whnf)|(refine mvF ?_;conv=>whnf)|(refine cT (by rfl) ?_;conv=>whnf)|(refine cF (by rfl) ?_;conv=>whnf)))
  have hx0 := hx0.e0 hx2
  refine ⟨_, _, ho.e0 hx2, rfl, rfl, rfl, ?_⟩
  intro w3 ho3 hx3
  have hx03 := hx0.st hx3 hb
  ((conv=>whnf);repeat(first|(refine mvT ?_;conv=>whnf)|(refine mvF ?_;conv=>whnf)|(refine cT (by rfl) ?_;conv=>whnf)|(refine cF (by rfl) ?_;conv=>whnf)))
  refine ⟨_, rfl, ho3.cells, ?_⟩
  refine ⟨⟨_, rfl, ?_⟩, hx03⟩
  have ho2 := ho2.ext hx3 (by have := ho.lt; omega)
  have hs := hx0.size
  have hs2 : w.heap.size ≤ b2 := Nat.le_trans hxs.size hb2
  exact FdL.fds (cs := [[.int .i64 1, .int .i64 0, .int .i64 (-1), .int .i64 (-1), .int .i64 (-1), .int .i64 0, .int .i64 0, .slice none 0 0], [.int .i64 8, .int .i64 0, .int .i64 (-1), .int .i64 0, .int .i64 (-1), .int .i64 0, .int .i64 0, .slice none 0 0], [.int .i64 1, .int .i64 1, .int .i64 (-1), .int .i64 (-1), .int .i64 (-1), .int .i64 3, .int .i64 0, .slice none 0 0], [.int .i64 8, .int .i64 0, .int .i64 (-1), .int .i64 0, .int .i64 (-1), .int .i64 0, .int .i64 0, .slice none 0 0], [.int .i64 8, .int .i64 0, .int .i64 (-1), .int .i64 0, .int .i64 (-1), .int .i64 0, .int .i64 0, .slice none 0 0], [.int .i64 1, .int .i64 0, .int .i64 (-1), .int .i64 (-1), .int .i64 (-1), .int .i64 0, .int .i64 0, .slice none 0 0], [.int .i64 1, .int .i64 0, .int .i64 (-1), .int .i64 (-1), .int .i64 (-1), .int .i64 0, .int .i64 0, .slice none 0 0]])
    ⟨fdLeaf _ _ _ _ _ _ _ _ _, fdLeaf _ _ _ _ _ _ _ _ _, fdLeaf _ _ _ _ _ _ _ _ _, fdLeaf _ _ _ _ _ _ _ _ _, fdLeaf _ _ _ _ _ _ _ _ _, fdLeaf _ _ _ _ _ _ _ _ _, fdLeaf _ _ _ _ _ _ _ _ _, trivial⟩ ho2 rfl (by decide) (by omega)
theorem dfDescribeACLsRequest {w : World} {q o : Nat} {T : TypeId} {pre cur post : List Value} (ho : Own w q T (pre ++ cur ++ post)) (hp : pre.length = o) (hl : cur.length = 9) :
    Does X.P 108 #[.pointer (some ⟨q, o, none⟩)] w fun r w' => Own w' q T (pre ++ (cur.set 3 (.int .i8 3)) ++ post) ∧ Ext (fun k => k = q) w w' := by
  have hx : Ext (fun k => k = q) w w := Ext.refl _ _
  refine Does.go (X := X) (l := [_]) Tryz.func108 rfl (by kernel_rfl) (by kernel_rfl) _ rfl ?_
  ((conv=>whnf);repeat(first|(refine mvT ?_;conv=>whnf)|(refine mvF ?_;conv=>whnf)|(refine cT (by rfl) ?_;conv=>whnf)|(refine cF (by rfl) ?_;conv=>whnf)))
  refine stm ho 3 rfl rfl hp (by omega) rfl (by first | omega | (simp only [List.length_set]; omega)) ?_
  intro w0 ho hxd
  have hx := hx.trans hxd fun _ _ h => h
  ((conv=>whnf);repeat(first|(refine mvT ?_;conv=>whnf)|(refine mvF ?_;conv=>whnf)|(refine cT (by rfl) ?_;conv=>whnf)|(refine cF (by rfl) ?_;conv=>whnf)))
  exact ⟨ho, hx⟩
theorem readDescribeACLsRequest {w0 : World} {F : Nat → Prop} {p : Nat} {ty : TypeId} {v : Int} {x ev : Value} {l : List UInt8} (hL : Laid w0 ev) (hp : Own w0 p ty [.int .i16 v, .int .i8 0, .pointer none, .int .i8 3, .pointer none, .pointer none, .int .i8 0, .int .i8 0, .map none]) (hx : Bytes w0 F x l) (hF : ∀ k, F k → k ≠ p) (hv : 0 ≤ v) (hp1 : p ≠ errG) :
    Does X.P 109 #[.pointer (some ⟨p, 0, none⟩), x, .bool false] w0 fun r w' => RdPost w0 p ty v (decide (v ≥ 2)) true dDescribeACLsRequest ev l r w' := by
  have hpl := hp.lt
  obtain ⟨fx, hfx⟩ : ∃ fx, fx = decide (v ≥ 2) := ⟨_, rfl⟩
  rw [← hfx]
  obtain ⟨G0, hG0, hx⟩ : ∃ G0 : Nat → Prop, (∀ k, G0 k → k < w0.heap.size ∧ k ≠ p) ∧ Bytes w0 G0 x l := ⟨fun k => F k ∧ k < w0.heap.size, fun k h => ⟨h.2, hF k h.1⟩, Sl.mono hx fun k hk h => ⟨h, hk⟩⟩
  obtain ⟨a0, c0, rfl, _⟩ := hx.view
  refine Does.go (X := X) (l := [_, _, _]) Tryz.func109 rfl (by kernel_rfl) (by kernel_rfl) _ rfl ?_
  ((conv=>whnf);repeat(first|(refine mvT ?_;conv=>whnf)|(refine mvF ?_;conv=>whnf)|(refine cT (by rfl) ?_;conv=>whnf)|(refine cF (by rfl) ?_;conv=>whnf)))
  refine Does.mono (dfDescribeACLsRequest (pre := []) (cur := [.int .i16 v, .int .i8 0, .pointer none, .int .i8 3, .pointer none, .pointer none, .int .i8 0, .int .i8 0, .map none]) (post := []) (by simpa using hp) rfl rfl) ?_
  rintro rd wd ⟨hpd, hxd⟩
  ((conv=>whnf);repeat(first|(refine mvT ?_;conv=>whnf)|(refine mvF ?_;conv=>whnf)|(refine cT (by rfl) ?_;conv=>whnf)|(refine cF (by rfl) ?_;conv=>whnf)))
  intro pb w1 hpb hb hx1
  ((conv=>whnf);repeat(first|(refine mvT ?_;conv=>whnf)|(refine mvF ?_;conv=>whnf)|(refine cT (by rfl) ?_;conv=>whnf)|(refine cF (by rfl) ?_;conv=>whnf)))
  refine st_all [.slice a0 l.length c0, .bool false] hb rfl rfl rfl ?_
  intro w hb hx2
  ((conv=>whnf);repeat(first|(refine mvT ?_;conv=>whnf)|(refine mvF ?_;conv=>whnf)|(refine cT (by rfl) ?_;conv=>whnf)|(refine cF (by rfl) ?_;conv=>whnf)))
  have hsd := hxd.size
  have hwp : w0.heap.size ≤ pb := by omega
  have he1 : Ext nob wd w := hx1.trans hx2 fun k hk h => by omega
  have hpw : Own w p ty [.int .i16 v, .int .i8 0, .pointer none, .int .i8 3, .pointer none, .pointer none, .int .i8 0, .int .i8 0, .map none] := by have := hpd.e0 he1; simpa using this
  have he := hxd.tr0 he1
  have H := St.init hpw hb (hx.ext he fun k _ h => (hG0 k h).2) hG0 he hpl hwp
  clear hpd hxd hx1 hx2 hb hpw he1 hp
  refine ldS (H.cell (o := 0) rfl (k := 0) rfl) ?_;((conv=>whnf);repeat(first|(refine mvT ?_;conv=>whnf)|(refine mvF ?_;conv=>whnf)|(refine cT (by rfl) ?_;conv=>whnf)|(refine cF (by rfl) ?_;conv=>whnf)))
  rw [← hfx]
  (refine mvB ?_;((conv=>whnf);repeat(first|(refine mvT ?_;conv=>whnf)|(refine mvF ?_;conv=>whnf)|(refine cT (by rfl) ?_;conv=>whnf)|(refine cF (by rfl) ?_;conv=>whnf))))
  have hup0 : tailBad 9 v fx dDescribeACLsRequest (l, false) = true → (rdPart 9 v fx dDescribeACLsRequest (l, false)).2.2 = true := id
  refine Does.mono H.int8 ?_
  rintro r w ⟨n1, s1, rfl, hn1, hr1, H⟩
  ((conv=>whnf);repeat(first|(refine mvT ?_;conv=>whnf)|(refine mvF ?_;conv=>whnf)|(refine cT (by rfl) ?_;conv=>whnf)|(refine cF (by rfl) ?_;conv=>whnf)))
  refine H.st1 (v := .int .i8 n1) 1 (rfl) (rfl) rfl (by simp) rfl (Nat.lt_of_lt_of_le (Nat.lt_succ_self _) (Nat.le_of_ble_eq_true rfl)) ?_
  intro w H
  ((conv=>whnf);repeat(first|(refine mvT ?_;conv=>whnf)|(refine mvF ?_;conv=>whnf)|(refine cT (by rfl) ?_;conv=>whnf)|(refine cF (by rfl) ?_;conv=>whnf)))
  replace H : St w0 G0 p pb s1 ((p, ty, [] ++ [.int .i16 v, .int .i8 n1, .pointer none, .int .i8 3, .pointer none, .pointer none, .int .i8 0, .int .i8 0, .map none] ++ []) :: []) (fun _ => True) w := H
  (refine mvB ?_;((conv=>whnf);repeat(first|(refine mvT ?_;conv=>whnf)|(refine mvF ?_;conv=>whnf)|(refine cT (by rfl) ?_;conv=>whnf)|(refine cF (by rfl) ?_;conv=>whnf))))
  refine VC.cutE (fun q : Value × Bool × List UInt8 × Rd => [(14, q.1), (0, .pointer (some ⟨p, 0, none⟩)), (2, .bool false), (7, .pointer (some ⟨pb, 0, none⟩)), (8, .int .i16 v), (9, .bool fx), (10, .pointer (some ⟨p, 0, none⟩))]) (fun q w' => q.1.oneCell' = true ∧ (q.2.1 = true → q.2.2.1 = []) ∧ rdNt fx s1 = (.mk 0 q.2.2.1 q.2.1 [] [], q.2.2.2) ∧ St w0 G0 p pb q.2.2.2 ((p, ty, [] ++ [.int .i16 v, .int .i8 n1, .pointer none, .int .i8 3, .pointer none, .pointer none, .int .i8 0, .int .i8 0, .map none] ++ []) :: []) (fun w => NTf p q.1 (.mk 0 q.2.2.1 q.2.1 [] []) w ∧ (fun _ => True) w) w') ?_ ?_
  · refine cI (by rfl) (fun hc=>?_) (fun hc=>?_)
    · ((conv=>whnf);repeat(first|(refine mvT ?_;conv=>whnf)|(refine mvF ?_;conv=>whnf)|(refine cT (by rfl) ?_;conv=>whnf)|(refine cF (by rfl) ?_;conv=>whnf)))
      refine Does.mono H.ntc ?_
      rintro r w ⟨c, nl, u, s', rfl, hone, hnl, hr, H⟩
      ((conv=>whnf);repeat(first|(refine mvT ?_;conv=>whnf)|(refine mvF ?_;conv=>whnf)|(refine cT (by rfl) ?_;conv=>whnf)|(refine cF (by rfl) ?_;conv=>whnf)))
      exact ⟨(r, nl, u, s'), ⟨rfl, rfl, rfl, rfl, rfl, rfl, rfl, trivial⟩, hone, hnl, by rw [hc]; exact hr, H⟩
    · ((conv=>whnf);repeat(first|(refine mvT ?_;conv=>whnf)|(refine mvF ?_;conv=>whnf)|(refine cT (by rfl) ?_;conv=>whnf)|(refine cF (by rfl) ?_;conv=>whnf)))
      refine Does.mono H.ntp ?_
      rintro r w ⟨c, nl, u, s', rfl, hone, hnl, hr, H⟩
      ((conv=>whnf);repeat(first|(refine mvT ?_;conv=>whnf)|(refine mvF ?_;conv=>whnf)|(refine cT (by rfl) ?_;conv=>whnf)|(refine cF (by rfl) ?_;conv=>whnf)))
      exact ⟨(r, nl, u, s'), ⟨rfl, rfl, rfl, rfl, rfl, rfl, rfl, trivial⟩, hone, hnl, by rw [hc]; exact hr, H⟩
  clear H
  rintro ⟨c3, nl3, u3, s3⟩ w ⟨hone3, hnl3, hr3, H⟩
  dsimp only at hone3 hnl3 hr3 H
  ((conv=>whnf);repeat(first|(refine mvT ?_;conv=>whnf)|(refine mvF ?_;conv=>whnf)|(refine cT (by rfl) ?_;conv=>whnf)|(refine cF (by rfl) ?_;conv=>whnf)))
  obtain ⟨P4, hP4⟩ : ∃ P : World → Prop, P = fun w => NTf p c3 (.mk 0 u3 nl3 [] []) w ∧ (fun _ => True) w := ⟨_, rfl⟩
  replace H : St w0 G0 p pb s3 ((p, ty, [] ++ [.int .i16 v, .int .i8 n1, .pointer none, .int .i8 3, .pointer none, .pointer none, .int .i8 0, .int .i8 0, .map none] ++ []) :: []) P4 w := by rw [hP4]; exact H
  refine H.st1 (v := c3) 2 (cells_one hone3) (hone3) rfl (by simp) rfl (Nat.lt_of_lt_of_le (Nat.lt_succ_self _) (Nat.le_of_ble_eq_true rfl)) ?_
  intro w H
  ((conv=>whnf);repeat(first|(refine mvT ?_;conv=>whnf)|(refine mvF ?_;conv=>whnf)|(refine cT (by rfl) ?_;conv=>whnf)|(refine cF (by rfl) ?_;conv=>whnf)))
  replace H : St w0 G0 p pb s3 ((p, ty, [] ++ [.int .i16 v, .int .i8 n1, c3, .int .i8 3, .pointer none, .pointer none, .int .i8 0, .int .i8 0, .map none] ++ []) :: []) P4 w := H
  refine VC.cutE (fun q : Int × Rd => [(0, .pointer (some ⟨p, 0, none⟩)), (2, .bool false), (7, .pointer (some ⟨pb, 0, none⟩)), (8, .int .i16 v), (9, .bool fx), (10, .pointer (some ⟨p, 0, none⟩))]) (fun q w' => IntKind.i8.wrap q.1 = q.1 ∧ (if hasF (.mk 1 1 (-1) (-1) (-1) 3 0 []) v = true then rdField 9 v fx (.mk 1 1 (-1) (-1) (-1) 3 0 []) s3 else (dfT 9 (.mk 1 1 (-1) (-1) (-1) 3 0 []), s3)) = (numT q.1, q.2) ∧ St w0 G0 p pb q.2 ((p, ty, [] ++ [.int .i16 v, .int .i8 n1, c3, .int .i8 q.1, .pointer none, .pointer none, .int .i8 0, .int .i8 0, .map none] ++ []) :: []) P4 w') ?_ ?_
  · refine cI (by rfl) (fun hcv=>?_) (fun hcv=>?_)
    · ((conv=>whnf);repeat(first|(refine mvT ?_;conv=>whnf)|(refine mvF ?_;conv=>whnf)|(refine cT (by rfl) ?_;conv=>whnf)|(refine cF (by rfl) ?_;conv=>whnf)))
      refine Does.mono H.int8 ?_
      rintro r w ⟨n7, s7, rfl, hn7, hr7, H⟩
      ((conv=>whnf);repeat(first|(refine mvT ?_;conv=>whnf)|(refine mvF ?_;conv=>whnf)|(refine cT (by rfl) ?_;conv=>whnf)|(refine cF (by rfl) ?_;conv=>whnf)))
      refine H.st1 (v := .int .i8 n7) 3 (rfl) (rfl) rfl (by simp) rfl (Nat.lt_of_lt_of_le (Nat.lt_succ_self _) (Nat.le_of_ble_eq_true rfl)) ?_
      intro w H
      ((conv=>whnf);repeat(first|(refine mvT ?_;conv=>whnf)|(refine mvF ?_;conv=>whnf)|(refine cT (by rfl) ?_;conv=>whnf)|(refine cF (by rfl) ?_;conv=>whnf)))
      replace H : St w0 G0 p pb s7 ((p, ty, [] ++ [.int .i16 v, .int .i8 n1, c3, .int .i8 n7, .pointer none, .pointer none, .int .i8 0, .int .i8 0, .map none] ++ []) :: []) P4 w := H
      have hh : hasF (.mk 1 1 (-1) (-1) (-1) 3 0 []) v = true := by have := of_decide_eq_true hcv; rw [hasF_iff]; omega
      exact ⟨(n7, s7), ⟨rfl, rfl, rfl, rfl, rfl, rfl, trivial⟩, hn7, by rw [if_pos hh]; exact (rdField1.trans hr7), H⟩
    · ((conv=>whnf);repeat(first|(refine mvT ?_;conv=>whnf)|(refine mvF ?_;conv=>whnf)|(refine cT (by rfl) ?_;conv=>whnf)|(refine cF (by rfl) ?_;conv=>whnf)))
      have hh : ¬ hasF (.mk 1 1 (-1) (-1) (-1) 3 0 []) v = true := by have := of_decide_eq_false hcv; rw [hasF_iff]; omega
      exact ⟨(3, s3), ⟨rfl, rfl, rfl, rfl, rfl, rfl, trivial⟩, rfl, by rw [if_neg hh]; rfl, H⟩
  clear H
  rintro ⟨n6, s6⟩ w ⟨hn6, hr6, H⟩
  dsimp only at hn6 hr6 H
  ((conv=>whnf);repeat(first|(refine mvT ?_;conv=>whnf)|(refine mvF ?_;conv=>whnf)|(refine cT (by rfl) ?_;conv=>whnf)|(refine cF (by rfl) ?_;conv=>whnf)))
  replace H : St w0 G0 p pb s6 ((p, ty, [] ++ [.int .i16 v, .int .i8 n1, c3, .int .i8 n6, .pointer none, .pointer none, .int .i8 0, .int .i8 0, .map none] ++ []) :: []) P4 w := H
  (refine mvB ?_;((conv=>whnf);repeat(first|(refine mvT ?_;conv=>whnf)|(refine mvF ?_;conv=>whnf)|(refine cT (by rfl) ?_;conv=>whnf)|(refine cF (by rfl) ?_;conv=>whnf))))
  refine VC.cutE (fun q : Value × Bool × List UInt8 × Rd => [(18, q.1), (0, .pointer (some ⟨p, 0, none⟩)), (2, .bool false), (7, .pointer (some ⟨pb, 0, none⟩)), (8, .int .i16 v), (9, .bool fx), (10, .pointer (some ⟨p, 0, none⟩))]) (fun q w' => q.1.oneCell' = true ∧ (q.2.1 = true → q.2.2.1 = []) ∧ rdNt fx s6 = (.mk 0 q.2.2.1 q.2.1 [] [], q.2.2.2) ∧ St w0 G0 p pb q.2.2.2 ((p, ty, [] ++ [.int .i16 v, .int .i8 n1, c3, .int .i8 n6, .pointer none, .pointer none, .int .i8 0, .int .i8 0, .map none] ++ []) :: []) (fun w => NTf p q.1 (.mk 0 q.2.2.1 q.2.1 [] []) w ∧ P4 w) w') ?_ ?_
  · refine cI (by rfl) (fun hc=>?_) (fun hc=>?_)
    · ((conv=>whnf);repeat(first|(refine mvT ?_;conv=>whnf)|(refine mvF ?_;conv=>whnf)|(refine cT (by rfl) ?_;conv=>whnf)|(refine cF (by rfl) ?_;conv=>whnf)))
      refine Does.mono H.ntc ?_
      rintro r w ⟨c, nl, u, s', rfl, hone, hnl, hr, H⟩
      ((conv=>whnf);repeat(first|(refine mvT ?_;conv=>whnf)|(refine mvF ?_;conv=>whnf)|(refine cT (by rfl) ?_;conv=>whnf)|(refine cF (by rfl) ?_;conv=>whnf)))
      exact ⟨(r, nl, u, s'), ⟨rfl, rfl, rfl, rfl, rfl, rfl, rfl, trivial⟩, hone, hnl, by rw [hc]; exact hr, H⟩
    · ((conv=>whnf);repeat(first|(refine mvT ?_;conv=>whnf)|(refine mvF ?_;conv=>whnf)|(refine cT (by rfl) ?_;conv=>whnf)|(refine cF (by rfl) ?_;conv=>whnf)))
      refine Does.mono H.ntp ?_
      rintro r w ⟨c, nl, u, s', rfl, hone, hnl, hr, H⟩
      ((conv=>whnf);repeat(first|(refine mvT ?_;conv=>whnf)|(refine mvF ?_;conv=>whnf)|(refine cT (by rfl) ?_;conv=>whnf)|(refine cF (by rfl) ?_;conv=>whnf)))
      exact ⟨(r, nl, u, s'), ⟨rfl, rfl, rfl, rfl, rfl, rfl, rfl, trivial⟩, hone, hnl, by rw [hc]; exact hr, H⟩
  clear H
  rintro ⟨c9, nl9, u9, s9⟩ w ⟨hone9, hnl9, hr9, H⟩
  dsimp only at hone9 hnl9 hr9 H
  ((conv=>whnf);repeat(first|(refine mvT ?_;conv=>whnf)|(refine mvF ?_;conv=>whnf)|(refine cT (by rfl) ?_;conv=>whnf)|(refine cF (by rfl) ?_;conv=>whnf)))
  obtain ⟨P10, hP10⟩ : ∃ P : World → Prop, P = fun w => NTf p c9 (.mk 0 u9 nl9 [] []) w ∧ P4 w := ⟨_, rfl⟩
  replace H : St w0 G0 p pb s9 ((p, ty, [] ++ [.int .i16 v, .int .i8 n1, c3, .int .i8 n6, .pointer none, .pointer none, .int .i8 0, .int .i8 0, .map none] ++ []) :: []) P10 w := by rw [hP10]; exact H
  refine H.st1 (v := c9) 4 (cells_one hone9) (hone9) rfl (by simp) rfl (Nat.lt_of_lt_of_le (Nat.lt_succ_self _) (Nat.le_of_ble_eq_true rfl)) ?_
  intro w H
  ((conv=>whnf);repeat(first|(refine mvT ?_;conv=>whnf)|(refine mvF ?_;conv=>whnf)|(refine cT (by rfl) ?_;conv=>whnf)|(refine cF (by rfl) ?_;conv=>whnf)))
  replace H : St w0 G0 p pb s9 ((p, ty, [] ++ [.int .i16 v, .int .i8 n1, c3, .int .i8 n6, c9, .pointer none, .int .i8 0, .int .i8 0, .map none] ++ []) :: []) P10 w := H
  (refine mvB ?_;((conv=>whnf);repeat(first|(refine mvT ?_;conv=>whnf)|(refine mvF ?_;conv=>whnf)|(refine cT (by rfl) ?_;conv=>whnf)|(refine cF (by rfl) ?_;conv=>whnf))))
  refine VC.cutE (fun q : Value × Bool × List UInt8 × Rd => [(19, q.1), (0, .pointer (some ⟨p, 0, none⟩)), (2, .bool false), (7, .pointer (some ⟨pb, 0, none⟩)), (8, .int .i16 v), (9, .bool fx), (10, .pointer (some ⟨p, 0, none⟩))]) (fun q w' => q.1.oneCell' = true ∧ (q.2.1 = true → q.2.2.1 = []) ∧ rdNt fx s9 = (.mk 0 q.2.2.1 q.2.1 [] [], q.2.2.2) ∧ St w0 G0 p pb q.2.2.2 ((p, ty, [] ++ [.int .i16 v, .int .i8 n1, c3, .int .i8 n6, c9, .pointer none, .int .i8 0, .int .i8 0, .map none] ++ []) :: []) (fun w => NTf p q.1 (.mk 0 q.2.2.1 q.2.1 [] []) w ∧ P10 w) w') ?_ ?_
  · refine cI (by rfl) (fun hc=>?_) (fun hc=>?_)
    · ((conv=>whnf);repeat(first|(refine mvT ?_;conv=>whnf)|(refine mvF ?_;conv=>whnf)|(refine cT (by rfl) ?_;conv=>whnf)|(refine cF (by rfl) ?_;conv=>whnf)))
      refine Does.mono H.ntc ?_
      rintro r w ⟨c, nl, u, s', rfl, hone, hnl, hr, H⟩
      ((conv=>whnf);repeat(first|(refine mvT ?_;conv=>whnf)|(refine mvF ?_;conv=>whnf)|(refine cT (by rfl) ?_;conv=>whnf)|(refine cF (by rfl) ?_;conv=>whnf)))
      exact ⟨(r, nl, u, s'), ⟨rfl, rfl, rfl, rfl, rfl, rfl, rfl, trivial⟩, hone, hnl, by rw [hc]; exact hr, H⟩
    · ((conv=>whnf);repeat(first|(refine mvT ?_;conv=>whnf)|(refine mvF ?_;conv=>whnf)|(refine cT (by rfl) ?_;conv=>whnf)|(refine cF (by rfl) ?_;conv=>whnf)))
      refine Does.mono H.ntp ?_
      rintro r w ⟨c, nl, u, s', rfl, hone, hnl, hr, H⟩
      ((conv=>whnf);repeat(first|(refine mvT ?_;conv=>whnf)|(refine mvF ?_;conv=>whnf)|(refine cT (by rfl) ?_;conv=>whnf)|(refine cF (by rfl) ?_;conv=>whnf)))
      exact ⟨(r, nl, u, s'), ⟨rfl, rfl, rfl, rfl, rfl, rfl, rfl, trivial⟩, hone, hnl, by rw [hc]; exact hr, H⟩
  clear H
  rintro ⟨c12, nl12, u12, s12⟩ w ⟨hone12, hnl12, hr12, H⟩
  dsimp only at hone12 hnl12 hr12 H
  ((conv=>whnf);repeat(first|(refine mvT ?_;conv=>whnf)|(refine mvF ?_;conv=>whnf)|(refine cT (by rfl) ?_;conv=>whnf)|(refine cF (by rfl) ?_;conv=>whnf)))
  obtain ⟨P13, hP13⟩ : ∃ P : World → Prop, P = fun w => NTf p c12 (.mk 0 u12 nl12 [] []) w ∧ P10 w := ⟨_, rfl⟩
  replace H : St w0 G0 p pb s12 ((p, ty, [] ++ [.int .i16 v, .int .i8 n1, c3, .int .i8 n6, c9, .pointer none, .int .i8 0, .int .i8 0, .map none] ++ []) :: []) P13 w := by rw [hP13]; exact H
  refine H.st1 (v := c12) 5 (cells_one hone12) (hone12) rfl (by simp) rfl (Nat.lt_of_lt_of_le (Nat.lt_succ_self _) (Nat.le_of_ble_eq_true rfl)) ?_
  intro w H
  ((conv=>whnf);repeat(first|(refine mvT ?_;conv=>whnf)|(refine mvF ?_;conv=>whnf)|(refine cT (by rfl) ?_;conv=>whnf)|(refine cF (by rfl) ?_;conv=>whnf)))
  replace H : St w0 G0 p pb s12 ((p, ty, [] ++ [.int .i16 v, .int .i8 n1, c3, .int .i8 n6, c9, c12, .int .i8 0, .int .i8 0, .map none] ++ []) :: []) P13 w := H
  refine Does.mono H.int8 ?_
  rintro r w ⟨n15, s15, rfl, hn15, hr15, H⟩
  ((conv=>whnf);repeat(first|(refine mvT ?_;conv=>whnf)|(refine mvF ?_;conv=>whnf)|(refine cT (by rfl) ?_;conv=>whnf)|(refine cF (by rfl) ?_;conv=>whnf)))
  refine H.st1 (v := .int .i8 n15) 6 (rfl) (rfl) rfl (by simp) rfl (Nat.lt_of_lt_of_le (Nat.lt_succ_self _) (Nat.le_of_ble_eq_true rfl)) ?_
  intro w H
  ((conv=>whnf);repeat(first|(refine mvT ?_;conv=>whnf)|(refine mvF ?_;conv=>whnf)|(refine cT (by rfl) ?_;conv=>whnf)|(refine cF (by rfl) ?_;conv=>whnf)))
  replace H : St w0 G0 p pb s15 ((p, ty, [] ++ [.int .i16 v, .int .i8 n1, c3, .int .i8 n6, c9, c12, .int .i8 n15, .int .i8 0, .map none] ++ []) :: []) P13 w := H
  refine Does.mono H.int8 ?_
  rintro r w ⟨n17, s17, rfl, hn17, hr17, H⟩
  ((conv=>whnf);repeat(first|(refine mvT ?_;conv=>whnf)|(refine mvF ?_;conv=>whnf)|(refine cT (by rfl) ?_;conv=>whnf)|(refine cF (by rfl) ?_;conv=>whnf)))
  refine H.st1 (v := .int .i8 n17) 7 (rfl) (rfl) rfl (by simp) rfl (Nat.lt_of_lt_of_le (Nat.lt_succ_self _) (Nat.le_of_ble_eq_true rfl)) ?_
  intro w H
  ((conv=>whnf);repeat(first|(refine mvT ?_;conv=>whnf)|(refine mvF ?_;conv=>whnf)|(refine cT (by rfl) ?_;conv=>whnf)|(refine cF (by rfl) ?_;conv=>whnf)))
  replace H : St w0 G0 p pb s17 ((p, ty, [] ++ [.int .i16 v, .int .i8 n1, c3, .int .i8 n6, c9, c12, .int .i8 n15, .int .i8 n17, .map none] ++ []) :: []) P13 w := H
  (refine mvB ?_;((conv=>whnf);repeat(first|(refine mvT ?_;conv=>whnf)|(refine mvF ?_;conv=>whnf)|(refine cT (by rfl) ?_;conv=>whnf)|(refine cF (by rfl) ?_;conv=>whnf))))
  refine VC.cutE (fun q : Value × List Tg × Rd => [(0, .pointer (some ⟨p, 0, none⟩)), (2, .bool false), (7, .pointer (some ⟨pb, 0, none⟩)), (8, .int .i16 v), (9, .bool fx), (10, .pointer (some ⟨p, 0, none⟩))]) (fun q w' => rdTagsF fx s17 = q.2 ∧ St w0 G0 p pb q.2.2 ((p, ty, [] ++ [.int .i16 v, .int .i8 n1, c3, .int .i8 n6, c9, c12, .int .i8 n15, .int .i8 n17, q.1] ++ []) :: []) (fun w => TGf p q.1 q.2.1 w ∧ P13 w) w') ?_ ?_
  · refine cI (by rfl) (fun hc=>?_) (fun hc=>?_)
    · ((conv=>whnf);repeat(first|(refine mvT ?_;conv=>whnf)|(refine mvF ?_;conv=>whnf)|(refine cT (by rfl) ?_;conv=>whnf)|(refine cF (by rfl) ?_;conv=>whnf)))
      refine Does.mono H.tags ?_
      rintro r w ⟨m, u, s', rfl, hone, hr, H⟩
      ((conv=>whnf);repeat(first|(refine mvT ?_;conv=>whnf)|(refine mvF ?_;conv=>whnf)|(refine cT (by rfl) ?_;conv=>whnf)|(refine cF (by rfl) ?_;conv=>whnf)))
      refine H.st1 (v := m) 8 (rfl) (hone) rfl (by simp) rfl (Nat.lt_of_lt_of_le (Nat.lt_succ_self _) (Nat.le_of_ble_eq_true rfl)) ?_
      intro w H
      ((conv=>whnf);repeat(first|(refine mvT ?_;conv=>whnf)|(refine mvF ?_;conv=>whnf)|(refine cT (by rfl) ?_;conv=>whnf)|(refine cF (by rfl) ?_;conv=>whnf)))
      exact ⟨(m, u, s'), ⟨rfl, rfl, rfl, rfl, rfl, rfl, trivial⟩, by rw [rdTagsF, if_pos hc]; exact hr, H⟩
    · ((conv=>whnf);repeat(first|(refine mvT ?_;conv=>whnf)|(refine mvF ?_;conv=>whnf)|(refine cT (by rfl) ?_;conv=>whnf)|(refine cF (by rfl) ?_;conv=>whnf)))
      exact ⟨(.map none, [], s17), ⟨rfl, rfl, rfl, rfl, rfl, rfl, trivial⟩, by rw [rdTagsF, if_neg (by rw [hc]; decide)], H.add fun w' _ => TagsR.nil _ _⟩
  clear H
  rintro ⟨m19, u19, s19⟩ w ⟨htg, H⟩
  dsimp only at htg H
  ((conv=>whnf);repeat(first|(refine mvT ?_;conv=>whnf)|(refine mvF ?_;conv=>whnf)|(refine cT (by rfl) ?_;conv=>whnf)|(refine cF (by rfl) ?_;conv=>whnf)))
  obtain ⟨P20, hP20⟩ : ∃ P : World → Prop, P = fun w => TGf p m19 u19 w ∧ P13 w := ⟨_, rfl⟩
  replace H : St w0 G0 p pb s19 ((p, ty, [] ++ [.int .i16 v, .int .i8 n1, c3, .int .i8 n6, c9, c12, .int .i8 n15, .int .i8 n17, m19] ++ []) :: []) P20 w := by rw [hP20]; exact H
  have hpart : rdPart 9 v fx dDescribeACLsRequest (l, false) = (.mk 0 [] false [numT n1, .mk 0 u3 nl3 [] [], numT n6, .mk 0 u9 nl9 [] [], .mk 0 u12 nl12 [] [], numT n15, numT n17] u19, s19) := by
    unfold rdPart rdPartW
    rw [rdAll_yes (df := dfT 9) (rdField1.trans hr1) ⟨by decide, has_all hv⟩, rdAll_yes (df := dfT 9) ((rdField8n (by decide)).trans hr3) ⟨by decide, has_all hv⟩, rdAll_ver hr6 (by decide), rdAll_yes (df := dfT 9) ((rdField8n (by decide)).trans hr9) ⟨by decide, has_all hv⟩, rdAll_yes (df := dfT 9) ((rdField8n (by decide)).trans hr12) ⟨by decide, has_all hv⟩, rdAll_yes (df := dfT 9) (rdField1.trans hr15) ⟨by decide, has_all hv⟩, rdAll_yes (df := dfT 9) (rdField1.trans hr17) ⟨by decide, has_all hv⟩]
    simp only [rdAll]
    rw [htg]
  refine Does.mono (H.done hL hp1) ?_
  rintro r w ⟨rfl, H⟩
  ((conv=>whnf);repeat(first|(refine mvT ?_;conv=>whnf)|(refine mvF ?_;conv=>whnf)|(refine cT (by rfl) ?_;conv=>whnf)|(refine cF (by rfl) ?_;conv=>whnf)))
  refine RdPost.end hpart H fun hP => ?_
  rw [hP20] at hP
  obtain ⟨hf20_, hP⟩ := hP
  rw [hP13] at hP
  obtain ⟨hf13_, hP⟩ := hP
  rw [hP10] at hP
  obtain ⟨hf10_, hP⟩ := hP
  rw [hP4] at hP
  obtain ⟨hf4_, hP⟩ := hP
  exact QPt (QA1 (QF1 hn1) (QA1 (QF8n (by decide) hnl3 hf4_) (QA1 (QF1 hn6) (QA1 (QF8n (by decide) hnl9 hf10_) (QA1 (QF8n (by decide) hnl12 hf13_) (QA1 (QF1 hn15) (QA1 (QF1 hn17) (QA0)))))))) hf20_
end Go.Proofs.YtkhccpbmhcfkcaaGreatDoor.K
