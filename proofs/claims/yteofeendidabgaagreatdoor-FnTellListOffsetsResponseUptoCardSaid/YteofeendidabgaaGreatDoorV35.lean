/- Reading of ListOffsetsResponse. -/
import Derived.Test.YteofeendidabgaaGreatDoorE5
set_option linter.unusedVariables false
set_option linter.unusedSimpArgs false
namespace Go.Proofs.YteofeendidabgaaGreatDoor.K
open Go
set_option maxHeartbeats 4000000
set_option maxRecDepth 100000

abbrev dListOffsetsResponseTopicPartition : List Fd := [.mk 3 0 (-1) (-1) (-1) 0 0 [], .mk 2 0 (-1) (-1) (-1) 0 0 [], .mk 11 0 0 (-1) (-1) 0 4 [], .mk 4 1 (-1) (-1) (-1) (-1) 0 [], .mk 4 1 (-1) (-1) (-1) (-1) 0 [], .mk 3 4 (-1) (-1) (-1) (-1) 0 []]
abbrev dListOffsetsResponseTopic : List Fd := [.mk 8 0 (-1) (-1) (-1) 0 0 [], .mk 11 0 (-1) (-1) (-1) 0 10 dListOffsetsResponseTopicPartition]
abbrev dListOffsetsResponse : List Fd := [.mk 3 2 (-1) (-1) (-1) 0 0 [], .mk 11 0 (-1) (-1) (-1) 0 10 dListOffsetsResponseTopic]
theorem sListOffsetsResponseTopicPartition (w : World) : Does X.P 111 #[] w fun r w' => FdsR w' (fun k => w.heap.size ≤ k) r dListOffsetsResponseTopicPartition ∧ Ext nob w w' := by
  have hx0 : Ext nob w w := Ext.refl _ _
  refine Does.go (X := X) (l := []) Tryz.func111 rfl (by kernel_rfl) (by kernel_rfl) _ rfl ?_
  ((conv=>whnf);repeat(first|(refine mvT ?_;conv=>whnf)|(refine mvF ?_;conv=>whnf)|(refine cT (by rfl) ?_;conv=>whnf)|(refine cF (by rfl) ?_;conv=>whnf)))
  have hxs := hx0
  intro b wb hb ho hx
  have hx0 := hx0.e0 hx
  ((conv=>whnf);repeat(first|(refine mvT ?_;conv=>whnf)|(refine mvF ?_;conv=>whnf)|(refine cT (by rfl) ?_;conv=>whnf)|(refine cF (by rfl) ?_;conv=>whnf)))
  refine ⟨?_, hx0⟩
  exact FdL.fds (cs := [[.int .i64 3, .int .i64 0, .int .i64 (-1), .int .i64 (-1), .int .i64 (-1), .int .i64 0, .int .i64 0, .slice none 0 0], [.int .i64 2, .int .i64 0, .int .i64 (-1), .int .i64 (-1), .int .i64 (-1), .int .i64 0, .int .i64 0, .slice none 0 0], [.int .i64 11, .int .i64 0, .int .i64 0, .int .i64 (-1), .int .i64 (-1), .int .i64 0, .int .i64 4, .slice none 0 0], [.int .i64 4, .int .i64 1, .int .i64 (-1), .int .i64 (-1), .int .i64 (-1), .int .i64 (-1), .int .i64 0, .slice none 0 0], [.int .i64 4, .int .i64 1, .int .i64 (-1), .int .i64 (-1), .int .i64 (-1), .int .i64 (-1), .int .i64 0, .slice none 0 0], [.int .i64 3, .int .i64 4, .int .i64 (-1), .int .i64 (-1), .int .i64 (-1), .int .i64 (-1), .int .i64 0, .slice none 0 0]])
    ⟨fdLeaf _ _ _ _ _ _ _ _ _, fdLeaf _ _ _ _ _ _ _ _ _, fdLeaf _ _ _ _ _ _ _ _ _, fdLeaf _ _ _ _ _ _ _ _ _, fdLeaf _ _ _ _ _ _ _ _ _, fdLeaf _ _ _ _ _ _ _ _ _, trivial⟩ ho rfl (by decide) (by have := hxs.size; omega)
theorem sListOffsetsResponseTopic (w : World) : Does X.P 74 #[] w fun r w' => FdsR w' (fun k => w.heap.size ≤ k) r dListOffsetsResponseTopic ∧ Ext nob w w' := by
  have hx0 : Ext nob w w := Ext.refl _ _
  refine Does.go (X := X) (l := []) Tryz.func74 rfl (by kernel_rfl) (by kernel_rfl) _ rfl ?_
  ((conv=>whnf);repeat(first|(refine mvT ?_;conv=>whnf)|(refine mvF ?_;conv=>whnf)|(refine cT (by rfl) ?_;conv=>whnf)|(refine cF (by rfl) ?_;conv=>whnf)))
  refine Does.mono (sListOffsetsResponseTopicPartition w) ?_
  rintro v1 wv1 ⟨hv1, hc⟩
  have hv1 := hv1.mono (F' := fun k => w.heap.size ≤ k) fun k _ h => Nat.le_trans hx0.size h
  obtain ⟨lv1, gv1, _⟩ := id hv1
  obtain ⟨av1, kv1, rfl, _⟩ := gv1.view
  ((conv=>whnf);repeat(first|(refine mvT ?_;conv=>whnf)|(refine mvF ?_;conv=>whnf)|(refine cT (by rfl) ?_;conv=>whnf)|(refine cF (by rfl) ?_;conv=>whnf)))
  have hx0 := hx0.e0 hc
  have hxs := hx0
  intro b wb hb ho hx
  have hx0 := hx0.e0 hx
  ((conv=>whnf);repeat(first|(refine mvT ?_;conv=>whnf)|(refine mvF ?_;conv=>whnf)|(refine cT (by rfl) ?_;conv=>whnf)|(refine cF (by rfl) ?_;conv=>whnf)))
  refine ⟨?_, hx0⟩
  exact FdL.fds (cs := [[.int .i64 8, .int .i64 0, .int .i64 (-1), .int .i64 (-1), .int .i64 (-1), .int .i64 0, .int .i64 0, .slice none 0 0], [.int .i64 11, .int .i64 0, .int .i64 (-1), .int .i64 (-1), .int .i64 (-1), .int .i64 0, .int .i64 10, .slice av1 lv1.length kv1]])
    ⟨fdLeaf _ _ _ _ _ _ _ _ _, FdC.of (hv1.e0 hx) _ _ _ _ _ _ _, trivial⟩ ho rfl (by decide) (by have := hxs.size; omega)
theorem sListOffsetsResponse (w : World) : Does X.P 31 #[] w fun r w' => Msg w' (fun k => w.heap.size ≤ k) r dListOffsetsResponse 6 ∧ Ext nob w w' := by
  have hx0 : Ext nob w w := Ext.refl _ _
  refine Does.go (X := X) (l := []) Tryz.func31 rfl (by kernel_rfl) (by kernel_rfl) _ rfl ?_
  ((conv=>whnf);repeat(first|(refine mvT ?_;conv=>whnf)|(refine mvF ?_;conv=>whnf)|(refine cT (by rfl) ?_;conv=>whnf)|(refine cF (by rfl) ?_;conv=>whnf)))
  intro b w1 hb ho hx
  have hx0 := hx0.e0 hx
  have ho := ho
  ((conv=>whnf);repeat(first|(refine mvT ?_;conv=>whnf)|(refine mvF ?_;conv=>whnf)|(refine cT (by rfl) ?_;conv=>whnf)|(refine cF (by rfl) ?_;conv=>whnf)))
  refine Does.mono (sListOffsetsResponseTopic w1) ?_
  rintro v1 wv1 ⟨hv1, hc⟩
  have hv1 := hv1.mono (F' := fun k => w.heap.size ≤ k ∧ b < k) fun k _ h => ⟨Nat.le_trans hx0.size h, Nat.lt_of_lt_of_le ho.lt h⟩
  obtain ⟨lv1, gv1, _⟩ := id hv1
  obtain ⟨av1, kv1, rfl, _⟩ := gv1.view
  ((conv=>whnf);repeat(first|(refine mvT ?_;conv=>whnf)|(refine mvF ?_;conv=>whnf)|(refine cT (by rfl) ?_;conv=>whnf)|(refine cF (by rfl) ?_;conv=>whnf)))
  have hx0 := hx0.e0 hc
  have ho := ho.e0 hc
  have hxs := hx0
  intro b2 w2 hb2 ho2 hx2
  ((conv=>whnf);repeat(first|(refine mvT ?_;conv=>whnf)|(refine mvF ?_;conv=>whnf)|(refine cT (by rfl) ?_;conv=>whnf)|(refine cF (by rfl) ?_;conv=>whnf)))
  have hx0 := hx0.e0 hx2
  refine ⟨_, _, ho.e0 hx2, rfl, rfl, rfl, ?_⟩
  intro w3 ho3 hx3
  have hx03 := hx0.st hx3 hb
  ((conv=>whnf);repeat(first|(refine mvT ?_;conv=>whnf)|(refine mvF ?_;conv=>whnf)|(refine cT (by rfl) ?_;conv=>whnf)|(refine cF (by rfl) ?_;conv=>whnf)))
  refine ⟨_, rfl, ho3.cells, ?_⟩
  refine ⟨⟨_, rfl, ?_⟩, hx03⟩
  have ho2 := ho2.ext hx3 (by have := ho.lt; omega)
  have hs := hx0.size
  have hs2 : w.heap.size ≤ b2 := Nat.le_trans hxs.size hb2
  exact FdL.fds (cs := [[.int .i64 3, .int .i64 2, .int .i64 (-1), .int .i64 (-1), .int .i64 (-1), .int .i64 0, .int .i64 0, .slice none 0 0], [.int .i64 11, .int .i64 0, .int .i64 (-1), .int .i64 (-1), .int .i64 (-1), .int .i64 0, .int .i64 10, .slice av1 lv1.length kv1]])
    ⟨fdLeaf _ _ _ _ _ _ _ _ _, FdC.of (FdsR.mono (FdsR.ext (FdsR.e0 hv1 hx2) hx3 fun k _ h1 h2 => by omega) fun k _ h => h.1) _ _ _ _ _ _ _, trivial⟩ ho2 rfl (by decide) (by omega)
theorem dfListOffsetsResponseTopicPartition {w : World} {q o : Nat} {T : TypeId} {pre cur post : List Value} (ho : Own w q T (pre ++ cur ++ post)) (hp : pre.length = o) (hl : cur.length = 7) :
    Does X.P 151 #[.pointer (some ⟨q, o, none⟩)] w fun r w' => Own w' q T (pre ++ (((cur.set 3 (.int .i64 (-1))).set 4 (.int .i64 (-1))).set 5 (.int .i32 (-1))) ++ post) ∧ Ext (fun k => k = q) w w' := by
  have hx : Ext (fun k => k = q) w w := Ext.refl _ _
  refine Does.go (X := X) (l := [_]) Tryz.func151 rfl (by kernel_rfl) (by kernel_rfl) _ rfl ?_
  ((conv=>whnf);repeat(first|(refine mvT ?_;conv=>whnf)|(refine mvF ?_;conv=>whnf)|(refine cT (by rfl) ?_;conv=>whnf)|(refine cF (by rfl) ?_;conv=>whnf)))
  refine stm ho 3 rfl rfl hp (by omega) rfl (by first | omega | (simp only [List.length_set]; omega)) ?_
  intro w0 ho hxd
  have hx := hx.trans hxd fun _ _ h => h
  ((conv=>whnf);repeat(first|(refine mvT ?_;conv=>whnf)|(refine mvF ?_;conv=>whnf)|(refine cT (by rfl) ?_;conv=>whnf)|(refine cF (by rfl) ?_;conv=>whnf)))
  refine stm ho 4 rfl rfl hp (by omega) rfl (by first | omega | (simp only [List.length_set]; omega)) ?_
  intro w1 ho hxd
  have hx := hx.trans hxd fun _ _ h => h
  ((conv=>whnf);repeat(first|(refine mvT ?_;conv=>whnf)|(refine mvF ?_;conv=>whnf)|(refine cT (by rfl) ?_;conv=>whnf)|(refine cF (by rfl) ?_;conv=>whnf)))
  refine stm ho 5 rfl rfl hp (by omega) rfl (by first | omega | (simp only [List.length_set]; omega)) ?_
  intro w2 ho hxd
  have hx := hx.trans hxd fun _ _ h => h
  ((conv=>whnf);repeat(first|(refine mvT ?_;conv=>whnf)|(refine mvF ?_;conv=>whnf)|(refine cT (by rfl) ?_;conv=>whnf)|(refine cF (by rfl) ?_;conv=>whnf)))
  exact ⟨ho, hx⟩
theorem dfListOffsetsResponseTopic {w : World} {q o : Nat} {T : TypeId} {pre cur post : List Value} (ho : Own w q T (pre ++ cur ++ post)) (hp : pre.length = o) (hl : cur.length = 3) :
    Does X.P 150 #[.pointer (some ⟨q, o, none⟩)] w fun r w' => Own w' q T (pre ++ cur ++ post) ∧ Ext (fun k => k = q) w w' := by
  have hx : Ext (fun k => k = q) w w := Ext.refl _ _
  refine Does.go (X := X) (l := [_]) Tryz.func150 rfl (by kernel_rfl) (by kernel_rfl) _ rfl ?_
  ((conv=>whnf);repeat(first|(refine mvT ?_;conv=>whnf)|(refine mvF ?_;conv=>whnf)|(refine cT (by rfl) ?_;conv=>whnf)|(refine cF (by rfl) ?_;conv=>whnf)))
  exact ⟨ho, hx⟩
theorem dfListOffsetsResponse {w : World} {q o : Nat} {T : TypeId} {pre cur post : List Value} (ho : Own w q T (pre ++ cur ++ post)) (hp : pre.length = o) (hl : cur.length = 4) :
    Does X.P 110 #[.pointer (some ⟨q, o, none⟩)] w fun r w' => Own w' q T (pre ++ cur ++ post) ∧ Ext (fun k => k = q) w w' := by
  have hx : Ext (fun k => k = q) w w := Ext.refl _ _
  refine Does.go (X := X) (l := [_]) Tryz.func110 rfl (by kernel_rfl) (by kernel_rfl) _ rfl ?_
  ((conv=>whnf);repeat(first|(refine mvT ?_;conv=>whnf)|(refine mvF ?_;conv=>whnf)|(refine cT (by rfl) ?_;conv=>whnf)|(refine cF (by rfl) ?_;conv=>whnf)))
  exact ⟨ho, hx⟩
theorem readListOffsetsResponse {w0 : World} {F : Nat → Prop} {p : Nat} {ty : TypeId} {v : Int} {x ev : Value} {l : List UInt8} (hL : Laid w0 ev) (hp : Own w0 p ty [.int .i16 v, .int .i32 0, .slice none 0 0, .map none]) (hx : Bytes w0 F x l) (hF : ∀ k, F k → k ≠ p) (hv : 0 ≤ v) (hp1 : p ≠ errG) :
    Does X.P 112 #[.pointer (some ⟨p, 0, none⟩), x, .bool false] w0 fun r w' => RdPost w0 p ty v (decide (v ≥ 6)) true dListOffsetsResponse ev l r w' := by
  have hpl := hp.lt
  obtain ⟨fx, hfx⟩ : ∃ fx, fx = decide (v ≥ 6) := ⟨_, rfl⟩
  rw [← hfx]
  obtain ⟨G0, hG0, hx⟩ : ∃ G0 : Nat → Prop, (∀ k, G0 k → k < w0.heap.size ∧ k ≠ p) ∧ Bytes w0 G0 x l := ⟨fun k => F k ∧ k < w0.heap.size, fun k h => ⟨h.2, hF k h.1⟩, Sl.mono hx fun k hk h => ⟨h, hk⟩⟩
  obtain ⟨a0, c0, rfl, _⟩ := hx.view
  refine Does.go (X := X) (l := [_, _, _]) Tryz.func112 rfl (by kernel_rfl) (by kernel_rfl) _ rfl ?_
  ((conv=>whnf);repeat(first|(refine mvT ?_;conv=>whnf)|(refine mvF ?_;conv=>whnf)|(refine cT (by rfl) ?_;conv=>whnf)|(refine cF (by rfl) ?_;conv=>whnf)))
  refine Does.mono (dfListOffsetsResponse (pre := []) (cur := [.int .i16 v, .int .i32 0, .slice none 0 0, .map none]) (post := []) (by simpa using hp) rfl rfl) ?_
  rintro rd wd ⟨hpd, hxd⟩
  ((conv=>whnf);repeat(first|(refine mvT ?_;conv=>whnf)|(refine mvF ?_;conv=>whnf)|(refine cT (by rfl) ?_;conv=>whnf)|(refine cF (by rfl) ?_;conv=>whnf)))
  intro pb w1 hpb hb hx1
  ((conv=>whnf);repeat(first|(refine mvT ?_;conv=>whnf)|(refine mvF ?_;conv=>whnf)|(refine cT (by rfl) ?_;conv=>whnf)|(refine cF (by rfl) ?_;conv=>whnf)))
  refine st_all [.slice a0 l.length c0, .bool false] hb rfl rfl rfl ?_
  intro w hb hx2
  ((conv=>whnf);repeat(first|(refine mvT ?_;conv=>whnf)|(refine mvF ?_;conv=>whnf)|(refine cT (by rfl) ?_;conv=>whnf)|(refine cF (by rfl) ?_;conv=>whnf)))
  have hsd := hxd.size
  have hwp : w0.heap.size ≤ pb := by omega
  have he1 : Ext nob wd w := hx1.trans hx2 fun k hk h => by omega
  have hpw : Own w p ty [.int .i16 v, .int .i32 0, .slice none 0 0, .map none] := by have := hpd.e0 he1; simpa using this
  have he := hxd.tr0 he1
  have H := St.init hpw hb (hx.ext he fun k _ h => (hG0 k h).2) hG0 he hpl hwp
  clear hpd hxd hx1 hx2 hb hpw he1 hp
  refine ldS (H.cell (o := 0) rfl (k := 0) rfl) ?_;((conv=>whnf);repeat(first|(refine mvT ?_;conv=>whnf)|(refine mvF ?_;conv=>whnf)|(refine cT (by rfl) ?_;conv=>whnf)|(refine cF (by rfl) ?_;conv=>whnf)))
  rw [← hfx]
  (refine mvB ?_;((conv=>whnf);repeat(first|(refine mvT ?_;conv=>whnf)|(refine mvF ?_;conv=>whnf)|(refine cT (by rfl) ?_;conv=>whnf)|(refine cF (by rfl) ?_;conv=>whnf))))
  have hup0 : tailBad 9 v fx dListOffsetsResponse (l, false) = true → (rdPart 9 v fx dListOffsetsResponse (l, false)).2.2 = true := id
  refine VC.cutE (fun q : Int × Rd => [(0, .pointer (some ⟨p, 0, none⟩)), (2, .bool false), (7, .pointer (some ⟨pb, 0, none⟩)), (8, .int .i16 v), (9, .bool fx), (10, .pointer (some ⟨p, 0, none⟩))]) (fun q w' => IntKind.i32.wrap q.1 = q.1 ∧ (if hasF (.mk 3 2 (-1) (-1) (-1) 0 0 []) v = true then rdField 9 v fx (.mk 3 2 (-1) (-1) (-1) 0 0 []) (l, false) else (dfT 9 (.mk 3 2 (-1) (-1) (-1) 0 0 []), (l, false))) = (numT q.1, q.2) ∧ St w0 G0 p pb q.2 ((p, ty, [] ++ [.int .i16 v, .int .i32 q.1, .slice none 0 0, .map none] ++ []) :: []) (fun _ => True) w') ?_ ?_
  · refine cI (by rfl) (fun hcv=>?_) (fun hcv=>?_)
    · ((conv=>whnf);repeat(first|(refine mvT ?_;conv=>whnf)|(refine mvF ?_;conv=>whnf)|(refine cT (by rfl) ?_;conv=>whnf)|(refine cF (by rfl) ?_;conv=>whnf)))
      refine Does.mono H.int32 ?_
      rintro r w ⟨n2, s2, rfl, hn2, hr2, H⟩
      ((conv=>whnf);repeat(first|(refine mvT ?_;conv=>whnf)|(refine mvF ?_;conv=>whnf)|(refine cT (by rfl) ?_;conv=>whnf)|(refine cF (by rfl) ?_;conv=>whnf)))
      refine H.st1 (v := .int .i32 n2) 1 (rfl) (rfl) rfl (by simp) rfl (Nat.lt_of_lt_of_le (Nat.lt_succ_self _) (Nat.le_of_ble_eq_true rfl)) ?_
      intro w H
      ((conv=>whnf);repeat(first|(refine mvT ?_;conv=>whnf)|(refine mvF ?_;conv=>whnf)|(refine cT (by rfl) ?_;conv=>whnf)|(refine cF (by rfl) ?_;conv=>whnf)))
      replace H : St w0 G0 p pb s2 ((p, ty, [] ++ [.int .i16 v, .int .i32 n2, .slice none 0 0, .map none] ++ []) :: []) (fun _ => True) w := H
      have hh : hasF (.mk 3 2 (-1) (-1) (-1) 0 0 []) v = true := by have := of_decide_eq_true hcv; rw [hasF_iff]; omega
      exact ⟨(n2, s2), ⟨rfl, rfl, rfl, rfl, rfl, rfl, trivial⟩, hn2, by rw [if_pos hh]; exact (rdField3.trans hr2), H⟩
    · ((conv=>whnf);repeat(first|(refine mvT ?_;conv=>whnf)|(refine mvF ?_;conv=>whnf)|(refine cT (by rfl) ?_;conv=>whnf)|(refine cF (by rfl) ?_;conv=>whnf)))
      have hh : ¬ hasF (.mk 3 2 (-1) (-1) (-1) 0 0 []) v = true := by have := of_decide_eq_false hcv; rw [hasF_iff]; omega
      exact ⟨(0, (l, false)), ⟨rfl, rfl, rfl, rfl, rfl, rfl, trivial⟩, rfl, by rw [if_neg hh]; rfl, H⟩
  clear H
  rintro ⟨n1, s1⟩ w ⟨hn1, hr1, H⟩
  dsimp only at hn1 hr1 H
  ((conv=>whnf);repeat(first|(refine mvT ?_;conv=>whnf)|(refine mvF ?_;conv=>whnf)|(refine cT (by rfl) ?_;conv=>whnf)|(refine cF (by rfl) ?_;conv=>whnf)))
  replace H : St w0 G0 p pb s1 ((p, ty, [] ++ [.int .i16 v, .int .i32 n1, .slice none 0 0, .map none] ++ []) :: []) (fun _ => True) w := H
  refine ldS (H.cell (o := 0) rfl (k := 2) rfl) ?_;((conv=>whnf);repeat(first|(refine mvT ?_;conv=>whnf)|(refine mvF ?_;conv=>whnf)|(refine cT (by rfl) ?_;conv=>whnf)|(refine cF (by rfl) ?_;conv=>whnf)))
  (refine mvB ?_;((conv=>whnf);repeat(first|(refine mvT ?_;conv=>whnf)|(refine mvF ?_;conv=>whnf)|(refine cT (by rfl) ?_;conv=>whnf)|(refine cF (by rfl) ?_;conv=>whnf))))
  refine VC.cutE (fun q : Int × Rd => [(14, .int .i32 q.1), (13, .slice none 0 0), (0, .pointer (some ⟨p, 0, none⟩)), (2, .bool false), (7, .pointer (some ⟨pb, 0, none⟩)), (8, .int .i16 v), (9, .bool fx), (10, .pointer (some ⟨p, 0, none⟩))]) (fun q w' => (-2147483648 ≤ q.1 ∧ q.1 ≤ 2147483647) ∧ rdLn fx s1 = q ∧ St w0 G0 p pb q.2 ((p, ty, [] ++ [.int .i16 v, .int .i32 n1, .slice none 0 0, .map none] ++ []) :: []) (fun _ => True) w') ?_ ?_
  · refine cI (by rfl) (fun hc=>?_) (fun hc=>?_)
    · ((conv=>whnf);repeat(first|(refine mvT ?_;conv=>whnf)|(refine mvF ?_;conv=>whnf)|(refine cT (by rfl) ?_;conv=>whnf)|(refine cF (by rfl) ?_;conv=>whnf)))
      refine Does.mono H.lnc ?_
      rintro r w ⟨n, s', rfl, hn, hr, H⟩
      ((conv=>whnf);repeat(first|(refine mvT ?_;conv=>whnf)|(refine mvF ?_;conv=>whnf)|(refine cT (by rfl) ?_;conv=>whnf)|(refine cF (by rfl) ?_;conv=>whnf)))
      exact ⟨(n, s'), ⟨rfl, rfl, rfl, rfl, rfl, rfl, rfl, rfl, trivial⟩, hn, by rw [hc]; exact hr, H⟩
    · ((conv=>whnf);repeat(first|(refine mvT ?_;conv=>whnf)|(refine mvF ?_;conv=>whnf)|(refine cT (by rfl) ?_;conv=>whnf)|(refine cF (by rfl) ?_;conv=>whnf)))
      refine Does.mono H.lnp ?_
      rintro r w ⟨n, s', rfl, hn, hr, H⟩
      ((conv=>whnf);repeat(first|(refine mvT ?_;conv=>whnf)|(refine mvF ?_;conv=>whnf)|(refine cT (by rfl) ?_;conv=>whnf)|(refine cF (by rfl) ?_;conv=>whnf)))
      exact ⟨(n, s'), ⟨rfl, rfl, rfl, rfl, rfl, rfl, rfl, rfl, trivial⟩, hn, by rw [hc]; exact hr, H⟩
  clear H
  rintro ⟨n4, s4⟩ w ⟨hn4, hln4, H⟩
  dsimp only at hn4 hln4 H
  ((conv=>whnf);repeat(first|(refine mvT ?_;conv=>whnf)|(refine mvF ?_;conv=>whnf)|(refine cT (by rfl) ?_;conv=>whnf)|(refine cF (by rfl) ?_;conv=>whnf)))
  refine Does.mono H.ok ?_
  rintro r w ⟨rfl, H⟩
  ((conv=>whnf);repeat(first|(refine mvT ?_;conv=>whnf)|(refine mvF ?_;conv=>whnf)|(refine cT (by rfl) ?_;conv=>whnf)|(refine cF (by rfl) ?_;conv=>whnf)))
  refine cI (by rfl) (fun hbd=>?_) (fun hbd=>?_)
  · have hbd : s4.2 = true := by simpa using hbd
    ((conv=>whnf);repeat(first|(refine mvT ?_;conv=>whnf)|(refine mvF ?_;conv=>whnf)|(refine cT (by rfl) ?_;conv=>whnf)|(refine cF (by rfl) ?_;conv=>whnf)))
    refine Does.mono (H.done hL hp1) ?_
    rintro r w ⟨rfl, H⟩
    ((conv=>whnf);repeat(first|(refine mvT ?_;conv=>whnf)|(refine mvF ?_;conv=>whnf)|(refine cT (by rfl) ?_;conv=>whnf)|(refine cF (by rfl) ?_;conv=>whnf)))
    refine RdPost.early hbd (hup0 (?_)) H
    rw [tail_ver hr1 (by decide), tail_len ⟨by decide, has_all hv⟩ hln4 hbd]
  have hbd : s4.2 = false := by simpa using hbd
  clear hbd
  ((conv=>whnf);repeat(first|(refine mvT ?_;conv=>whnf)|(refine mvF ?_;conv=>whnf)|(refine cT (by rfl) ?_;conv=>whnf)|(refine cF (by rfl) ?_;conv=>whnf)))
  refine cut_zero ?_
  ((conv=>whnf);repeat(first|(refine mvT ?_;conv=>whnf)|(refine mvF ?_;conv=>whnf)|(refine cT (by rfl) ?_;conv=>whnf)|(refine cF (by rfl) ?_;conv=>whnf)))
  refine VC.cutE (fun a : Value => [(14, .int .i32 n4), (13, a), (0, .pointer (some ⟨p, 0, none⟩)), (2, .bool false), (7, .pointer (some ⟨pb, 0, none⟩)), (8, .int .i16 v), (9, .bool fx), (10, .pointer (some ⟨p, 0, none⟩))]) (fun a w' => ListI w0 G0 p pb 149 [str [], .slice none 0 0, .map none] (elR 8 v fx 10 dListOffsetsResponseTopic) (elQ true 8 10 dListOffsetsResponseTopic) s4 n4 (decide (n4 ≤ 0)) ((p, ty, [] ++ [.int .i16 v, .int .i32 n1, .slice none 0 0, .map none] ++ []) :: []) (fun _ => True) a 0 w') ?_ ?_
  · refine cI (by rfl) (fun hps=>?_) (fun hps=>?_)
    · have hps : 0 < n4 := by have := of_decide_eq_true hps; omega
      ((conv=>whnf);repeat(first|(refine mvT ?_;conv=>whnf)|(refine mvF ?_;conv=>whnf)|(refine cT (by rfl) ?_;conv=>whnf)|(refine cF (by rfl) ?_;conv=>whnf)))
      refine H.grow hps hn4.2 (by decide) rfl rfl (by decide) ?_
      intro g cap post w hc1 hc2 H
      ((conv=>whnf);repeat(first|(refine mvT ?_;conv=>whnf)|(refine mvF ?_;conv=>whnf)|(refine cT (by rfl) ?_;conv=>whnf)|(refine cF (by rfl) ?_;conv=>whnf)))
      exact ⟨_, ⟨rfl, rfl, rfl, rfl, rfl, rfl, rfl, rfl, trivial⟩, ListI.some hps (decide_eq_false (by omega)) hc1 hc2 H⟩
    · have hps : n4 ≤ 0 := by have := of_decide_eq_false hps; omega
      ((conv=>whnf);repeat(first|(refine mvT ?_;conv=>whnf)|(refine mvF ?_;conv=>whnf)|(refine cT (by rfl) ?_;conv=>whnf)|(refine cF (by rfl) ?_;conv=>whnf)))
      exact ⟨_, ⟨rfl, rfl, rfl, rfl, rfl, rfl, rfl, rfl, trivial⟩, ListI.none hps (decide_eq_true hps) H⟩
  clear H
  rintro a4 w H
  ((conv=>whnf);repeat(first|(refine mvT ?_;conv=>whnf)|(refine mvF ?_;conv=>whnf)|(refine cT (by rfl) ?_;conv=>whnf)|(refine cF (by rfl) ?_;conv=>whnf)))
  have hpL4 : inL ((p, ty, [] ++ [.int .i16 v, .int .i32 n1, .slice none 0 0, .map none] ++ []) :: []) p := inL.head _ _
  refine VL.loop (fun i : Nat => [(14, .int .i32 n4), (13, a4), (15, .int .i32 i), (0, .pointer (some ⟨p, 0, none⟩)), (2, .bool false), (7, .pointer (some ⟨pb, 0, none⟩)), (8, .int .i16 v), (9, .bool fx), (10, .pointer (some ⟨p, 0, none⟩))]) (fun i w' => i ≤ 2147483647 ∧ ListI w0 G0 p pb 149 [str [], .slice none 0 0, .map none] (elR 8 v fx 10 dListOffsetsResponseTopic) (elQ true 8 10 dListOffsetsResponseTopic) s4 n4 (decide (n4 ≤ 0)) ((p, ty, [] ++ [.int .i16 v, .int .i32 n1, .slice none 0 0, .map none] ++ []) :: []) (fun _ => True) a4 i w') (fun i => n4.toNat - i) 0 ⟨rfl, rfl, rfl, rfl, rfl, rfl, rfl, rfl, rfl, trivial⟩ ⟨by decide, H⟩ ?_
  clear H
  rintro i4 w ⟨hi4, H⟩
  ((conv=>whnf);repeat(first|(refine mvT ?_;conv=>whnf)|(refine mvF ?_;conv=>whnf)|(refine cT (by rfl) ?_;conv=>whnf)|(refine cF (by rfl) ?_;conv=>whnf)))
  refine cI (by rfl) (fun h9=>?_) (fun h9=>?_)
  · have hlt4 : (i4 : Int) < n4 := of_decide_eq_true h9
    obtain ⟨g4, cap4, post4, rfl, hgo4, HI⟩ := H.go hlt4
    obtain ⟨es4, ts4, si4, hes4, hez4, hrn4, hts4, hlen1, H⟩ := HI.open hgo4.2.2.2.2
    obtain ⟨L4, hL4⟩ : ∃ L : List Ob, L = ((p, ty, [] ++ [.int .i16 v, .int .i32 n1, .slice none 0 0, .map none] ++ []) :: []) := ⟨_, rfl⟩
    rw [← hL4] at H hpL4
    obtain ⟨P4, hP4⟩ : ∃ P : World → Prop, P = fun w => (∀ (j : Nat) (c : List Value) (y : T), es4[j]? = some c → ts4[j]? = some y → elQ true 8 10 dListOffsetsResponseTopic ⟨w, fun k => k ≠ p⟩ c y) ∧ (fun _ => True) w := ⟨_, rfl⟩
    rw [← hP4] at H
    replace H : St w0 G0 p pb si4 ((g4, 149, es4.flatten ++ [str [], .slice none 0 0, .map none] ++ ((List.replicate (n4.toNat - (i4 + 1)) [str [], .slice none 0 0, .map none]).flatten ++ post4)) :: L4) P4 w := H
    ((conv=>whnf);repeat(first|(refine mvT ?_;conv=>whnf)|(refine mvF ?_;conv=>whnf)|(refine cT (by rfl) ?_;conv=>whnf)|(refine cF (by rfl) ?_;conv=>whnf)))
    refine ⟨g4, 0, rfl, ⟨by omega, by omega⟩, ?_⟩
    ((conv=>whnf);repeat(first|(refine mvT ?_;conv=>whnf)|(refine mvF ?_;conv=>whnf)|(refine cT (by rfl) ?_;conv=>whnf)|(refine cF (by rfl) ?_;conv=>whnf)))
    refine Does.mono (dfListOffsetsResponseTopic (pre := es4.flatten) (cur := [str [], .slice none 0 0, .map none]) (post := ((List.replicate (n4.toNat - (i4 + 1)) [str [], .slice none 0 0, .map none]).flatten ++ post4)) H.head (by first | (rw [hlen1]; simp; done) | (simp [hlen1]; done) | (simp [hlen1]; omega)) rfl) ?_
    rintro rd w2 ⟨hdf, hxd⟩
    replace H := H.put hdf hxd
    clear hdf hxd
    replace H : St w0 G0 p pb si4 ((g4, 149, es4.flatten ++ [str [], .slice none 0 0, .map none] ++ ((List.replicate (n4.toNat - (i4 + 1)) [str [], .slice none 0 0, .map none]).flatten ++ post4)) :: L4) P4 w2 := H
    ((conv=>whnf);repeat(first|(refine mvT ?_;conv=>whnf)|(refine mvF ?_;conv=>whnf)|(refine cT (by rfl) ?_;conv=>whnf)|(refine cF (by rfl) ?_;conv=>whnf)))
    have hup4 : tailBad 8 v fx dListOffsetsResponseTopic si4 = true → (rdPart 9 v fx dListOffsetsResponse (l, false)).2.2 = true := by
      intro hb
      refine hup0 ?_
      rw [tail_ver hr1 (by decide), tail_el ⟨by decide, has_all hv⟩ hln4 hgo4.2.2.2.2 hrn4 hb]
    (refine mvB ?_;((conv=>whnf);repeat(first|(refine mvT ?_;conv=>whnf)|(refine mvF ?_;conv=>whnf)|(refine cT (by rfl) ?_;conv=>whnf)|(refine cF (by rfl) ?_;conv=>whnf))))
    refine VC.cutE (fun q : List UInt8 × Rd => [(18, str q.1), (0, .pointer (some ⟨p, 0, none⟩)), (2, .bool false), (7, .pointer (some ⟨pb, 0, none⟩)), (8, .int .i16 v), (9, .bool fx), (10, .pointer (some ⟨p, 0, none⟩)), (14, .int .i32 n4), (13, .slice (some ⟨g4, 0, none⟩) n4.toNat cap4), (15, .int .i32 i4), (16, .pointer (some ⟨g4, 0 + (i4 : Int).toNat * 3, none⟩)), (17, .pointer (some ⟨g4, 0 + (i4 : Int).toNat * 3, none⟩))]) (fun q w' => rdTx fx si4 = q ∧ St w0 G0 p pb q.2 ((g4, 149, es4.flatten ++ [str [], .slice none 0 0, .map none] ++ ((List.replicate (n4.toNat - (i4 + 1)) [str [], .slice none 0 0, .map none]).flatten ++ post4)) :: L4) P4 w') ?_ ?_
    · refine cI (by rfl) (fun hc=>?_) (fun hc=>?_)
      · ((conv=>whnf);repeat(first|(refine mvT ?_;conv=>whnf)|(refine mvF ?_;conv=>whnf)|(refine cT (by rfl) ?_;conv=>whnf)|(refine cF (by rfl) ?_;conv=>whnf)))
        refine Does.mono H.txc ?_
        rintro r w ⟨u, s', rfl, hr, H⟩
        ((conv=>whnf);repeat(first|(refine mvT ?_;conv=>whnf)|(refine mvF ?_;conv=>whnf)|(refine cT (by rfl) ?_;conv=>whnf)|(refine cF (by rfl) ?_;conv=>whnf)))
        exact ⟨(u, s'), ⟨rfl, rfl, rfl, rfl, rfl, rfl, rfl, rfl, rfl, rfl, rfl, rfl, trivial⟩, by rw [hc]; exact hr, H⟩
      · ((conv=>whnf);repeat(first|(refine mvT ?_;conv=>whnf)|(refine mvF ?_;conv=>whnf)|(refine cT (by rfl) ?_;conv=>whnf)|(refine cF (by rfl) ?_;conv=>whnf)))
        refine Does.mono H.txp ?_
        rintro r w ⟨u, s', rfl, hr, H⟩
        ((conv=>whnf);repeat(first|(refine mvT ?_;conv=>whnf)|(refine mvF ?_;conv=>whnf)|(refine cT (by rfl) ?_;conv=>whnf)|(refine cF (by rfl) ?_;conv=>whnf)))
        exact ⟨(u, s'), ⟨rfl, rfl, rfl, rfl, rfl, rfl, rfl, rfl, rfl, rfl, rfl, rfl, trivial⟩, by rw [hc]; exact hr, H⟩
    clear H
    rintro ⟨u5, s5⟩ w ⟨hr5, H⟩
    dsimp only at hr5 H
    ((conv=>whnf);repeat(first|(refine mvT ?_;conv=>whnf)|(refine mvF ?_;conv=>whnf)|(refine cT (by rfl) ?_;conv=>whnf)|(refine cF (by rfl) ?_;conv=>whnf)))
    refine H.st1 (v := str u5) 0 (rfl) (rfl) rfl (by first | omega | (simp [hlen1]; done) | (simp [hlen1]; omega)) rfl (Nat.lt_of_lt_of_le (Nat.lt_succ_self _) (Nat.le_of_ble_eq_true rfl)) ?_
    intro w H
    ((conv=>whnf);repeat(first|(refine mvT ?_;conv=>whnf)|(refine mvF ?_;conv=>whnf)|(refine cT (by rfl) ?_;conv=>whnf)|(refine cF (by rfl) ?_;conv=>whnf)))
    replace H : St w0 G0 p pb s5 ((g4, 149, es4.flatten ++ [str u5, .slice none 0 0, .map none] ++ ((List.replicate (n4.toNat - (i4 + 1)) [str [], .slice none 0 0, .map none]).flatten ++ post4)) :: L4) P4 w := H
    refine ⟨_, ld (H.cell rfl (k := 1) rfl) (by first | omega | (simp [hlen1]; done) | (simp [hlen1]; omega)), ?_⟩; ((conv=>whnf);repeat(first|(refine mvT ?_;conv=>whnf)|(refine mvF ?_;conv=>whnf)|(refine cT (by rfl) ?_;conv=>whnf)|(refine cF (by rfl) ?_;conv=>whnf)))
    (refine mvB ?_;((conv=>whnf);repeat(first|(refine mvT ?_;conv=>whnf)|(refine mvF ?_;conv=>whnf)|(refine cT (by rfl) ?_;conv=>whnf)|(refine cF (by rfl) ?_;conv=>whnf))))
    refine VC.cutE (fun q : Int × Rd => [(21, .int .i32 q.1), (20, .slice none 0 0), (0, .pointer (some ⟨p, 0, none⟩)), (2, .bool false), (7, .pointer (some ⟨pb, 0, none⟩)), (8, .int .i16 v), (9, .bool fx), (10, .pointer (some ⟨p, 0, none⟩)), (14, .int .i32 n4), (13, .slice (some ⟨g4, 0, none⟩) n4.toNat cap4), (15, .int .i32 i4), (16, .pointer (some ⟨g4, 0 + (i4 : Int).toNat * 3, none⟩)), (17, .pointer (some ⟨g4, 0 + (i4 : Int).toNat * 3, none⟩))]) (fun q w' => (-2147483648 ≤ q.1 ∧ q.1 ≤ 2147483647) ∧ rdLn fx s5 = q ∧ St w0 G0 p pb q.2 ((g4, 149, es4.flatten ++ [str u5, .slice none 0 0, .map none] ++ ((List.replicate (n4.toNat - (i4 + 1)) [str [], .slice none 0 0, .map none]).flatten ++ post4)) :: L4) P4 w') ?_ ?_
    · refine cI (by rfl) (fun hc=>?_) (fun hc=>?_)
      · ((conv=>whnf);repeat(first|(refine mvT ?_;conv=>whnf)|(refine mvF ?_;conv=>whnf)|(refine cT (by rfl) ?_;conv=>whnf)|(refine cF (by rfl) ?_;conv=>whnf)))
        refine Does.mono H.lnc ?_
        rintro r w ⟨n, s', rfl, hn, hr, H⟩
        ((conv=>whnf);repeat(first|(refine mvT ?_;conv=>whnf)|(refine mvF ?_;conv=>whnf)|(refine cT (by rfl) ?_;conv=>whnf)|(refine cF (by rfl) ?_;conv=>whnf)))
        exact ⟨(n, s'), ⟨rfl, rfl, rfl, rfl, rfl, rfl, rfl, rfl, rfl, rfl, rfl, rfl, rfl, trivial⟩, hn, by rw [hc]; exact hr, H⟩
      · ((conv=>whnf);repeat(first|(refine mvT ?_;conv=>whnf)|(refine mvF ?_;conv=>whnf)|(refine cT (by rfl) ?_;conv=>whnf)|(refine cF (by rfl) ?_;conv=>whnf)))
        refine Does.mono H.lnp ?_
        rintro r w ⟨n, s', rfl, hn, hr, H⟩
        ((conv=>whnf);repeat(first|(refine mvT ?_;conv=>whnf)|(refine mvF ?_;conv=>whnf)|(refine cT (by rfl) ?_;conv=>whnf)|(refine cF (by rfl) ?_;conv=>whnf)))
        exact ⟨(n, s'), ⟨rfl, rfl, rfl, rfl, rfl, rfl, rfl, rfl, rfl, rfl, rfl, rfl, rfl, trivial⟩, hn, by rw [hc]; exact hr, H⟩
    clear H
    rintro ⟨n7, s7⟩ w ⟨hn7, hln7, H⟩
    dsimp only at hn7 hln7 H
    ((conv=>whnf);repeat(first|(refine mvT ?_;conv=>whnf)|(refine mvF ?_;conv=>whnf)|(refine cT (by rfl) ?_;conv=>whnf)|(refine cF (by rfl) ?_;conv=>whnf)))
    refine Does.mono H.ok ?_
    rintro r w ⟨rfl, H⟩
    ((conv=>whnf);repeat(first|(refine mvT ?_;conv=>whnf)|(refine mvF ?_;conv=>whnf)|(refine cT (by rfl) ?_;conv=>whnf)|(refine cF (by rfl) ?_;conv=>whnf)))
    refine cI (by rfl) (fun hbd=>?_) (fun hbd=>?_)
    · have hbd : s7.2 = true := by simpa using hbd
      ((conv=>whnf);repeat(first|(refine mvT ?_;conv=>whnf)|(refine mvF ?_;conv=>whnf)|(refine cT (by rfl) ?_;conv=>whnf)|(refine cF (by rfl) ?_;conv=>whnf)))
      refine Does.mono (H.done hL hp1) ?_
      rintro r w ⟨rfl, H⟩
      ((conv=>whnf);repeat(first|(refine mvT ?_;conv=>whnf)|(refine mvF ?_;conv=>whnf)|(refine cT (by rfl) ?_;conv=>whnf)|(refine cF (by rfl) ?_;conv=>whnf)))
      refine RdPost.early hbd (hup4 (?_)) H
      rw [tail_yes (rdField8 (by decide) hr5) ⟨by decide, has_all hv⟩, tail_len ⟨by decide, has_all hv⟩ hln7 hbd]
    have hbd : s7.2 = false := by simpa using hbd
    clear hbd
    ((conv=>whnf);repeat(first|(refine mvT ?_;conv=>whnf)|(refine mvF ?_;conv=>whnf)|(refine cT (by rfl) ?_;conv=>whnf)|(refine cF (by rfl) ?_;conv=>whnf)))
    refine cut_zero ?_
    ((conv=>whnf);repeat(first|(refine mvT ?_;conv=>whnf)|(refine mvF ?_;conv=>whnf)|(refine cT (by rfl) ?_;conv=>whnf)|(refine cF (by rfl) ?_;conv=>whnf)))
    refine VC.cutE (fun a : Value => [(21, .int .i32 n7), (20, a), (0, .pointer (some ⟨p, 0, none⟩)), (2, .bool false), (7, .pointer (some ⟨pb, 0, none⟩)), (8, .int .i16 v), (9, .bool fx), (10, .pointer (some ⟨p, 0, none⟩)), (14, .int .i32 n4), (13, .slice (some ⟨g4, 0, none⟩) n4.toNat cap4), (15, .int .i32 i4), (16, .pointer (some ⟨g4, 0 + (i4 : Int).toNat * 3, none⟩)), (17, .pointer (some ⟨g4, 0 + (i4 : Int).toNat * 3, none⟩))]) (fun a w' => ListI w0 G0 p pb 179 [.int .i32 0, .int .i16 0, .slice none 0 0, .int .i64 0, .int .i64 0, .int .i32 0, .map none] (elR 7 v fx 10 dListOffsetsResponseTopicPartition) (elQ true 7 10 dListOffsetsResponseTopicPartition) s7 n7 (decide (n7 ≤ 0)) ((g4, 149, es4.flatten ++ [str u5, .slice none 0 0, .map none] ++ ((List.replicate (n4.toNat - (i4 + 1)) [str [], .slice none 0 0, .map none]).flatten ++ post4)) :: L4) P4 a 0 w') ?_ ?_
    · refine cI (by rfl) (fun hps=>?_) (fun hps=>?_)
      · have hps : 0 < n7 := by have := of_decide_eq_true hps; omega
        ((conv=>whnf);repeat(first|(refine mvT ?_;conv=>whnf)|(refine mvF ?_;conv=>whnf)|(refine cT (by rfl) ?_;conv=>whnf)|(refine cF (by rfl) ?_;conv=>whnf)))
        refine H.grow hps hn7.2 (by decide) rfl rfl (by decide) ?_
        intro g cap post w hc1 hc2 H
        ((conv=>whnf);repeat(first|(refine mvT ?_;conv=>whnf)|(refine mvF ?_;conv=>whnf)|(refine cT (by rfl) ?_;conv=>whnf)|(refine cF (by rfl) ?_;conv=>whnf)))
        exact ⟨_, ⟨rfl, rfl, rfl, rfl, rfl, rfl, rfl, rfl, rfl, rfl, rfl, rfl, rfl, trivial⟩, ListI.some hps (decide_eq_false (by omega)) hc1 hc2 H⟩
      · have hps : n7 ≤ 0 := by have := of_decide_eq_false hps; omega
        ((conv=>whnf);repeat(first|(refine mvT ?_;conv=>whnf)|(refine mvF ?_;conv=>whnf)|(refine cT (by rfl) ?_;conv=>whnf)|(refine cF (by rfl) ?_;conv=>whnf)))
        exact ⟨_, ⟨rfl, rfl, rfl, rfl, rfl, rfl, rfl, rfl, rfl, rfl, rfl, rfl, rfl, trivial⟩, ListI.none hps (decide_eq_true hps) H⟩
    clear H
    rintro a7 w H
    ((conv=>whnf);repeat(first|(refine mvT ?_;conv=>whnf)|(refine mvF ?_;conv=>whnf)|(refine cT (by rfl) ?_;conv=>whnf)|(refine cF (by rfl) ?_;conv=>whnf)))
    have hpL7 : inL ((g4, 149, es4.flatten ++ [str u5, .slice none 0 0, .map none] ++ ((List.replicate (n4.toNat - (i4 + 1)) [str [], .slice none 0 0, .map none]).flatten ++ post4)) :: L4) p := inL.tail hpL4
    refine VL.loop (fun i : Nat => [(21, .int .i32 n7), (20, a7), (22, .int .i32 i), (0, .pointer (some ⟨p, 0, none⟩)), (2, .bool false), (7, .pointer (some ⟨pb, 0, none⟩)), (8, .int .i16 v), (9, .bool fx), (10, .pointer (some ⟨p, 0, none⟩)), (14, .int .i32 n4), (13, .slice (some ⟨g4, 0, none⟩) n4.toNat cap4), (15, .int .i32 i4), (16, .pointer (some ⟨g4, 0 + (i4 : Int).toNat * 3, none⟩)), (17, .pointer (some ⟨g4, 0 + (i4 : Int).toNat * 3, none⟩))]) (fun i w' => i ≤ 2147483647 ∧ ListI w0 G0 p pb 179 [.int .i32 0, .int .i16 0, .slice none 0 0, .int .i64 0, .int .i64 0, .int .i32 0, .map none] (elR 7 v fx 10 dListOffsetsResponseTopicPartition) (elQ true 7 10 dListOffsetsResponseTopicPartition) s7 n7 (decide (n7 ≤ 0)) ((g4, 149, es4.flatten ++ [str u5, .slice none 0 0, .map none] ++ ((List.replicate (n4.toNat - (i4 + 1)) [str [], .slice none 0 0, .map none]).flatten ++ post4)) :: L4) P4 a7 i w') (fun i => n7.toNat - i) 0 ⟨rfl, rfl, rfl, rfl, rfl, rfl, rfl, rfl, rfl, rfl, rfl, rfl, rfl, rfl, trivial⟩ ⟨by decide, H⟩ ?_
    clear H
    rintro i7 w ⟨hi7, H⟩
    ((conv=>whnf);repeat(first|(refine mvT ?_;conv=>whnf)|(refine mvF ?_;conv=>whnf)|(refine cT (by rfl) ?_;conv=>whnf)|(refine cF (by rfl) ?_;conv=>whnf)))
    refine cI (by rfl) (fun h9=>?_) (fun h9=>?_)
    · have hlt7 : (i7 : Int) < n7 := of_decide_eq_true h9
      obtain ⟨g7, cap7, post7, rfl, hgo7, HI⟩ := H.go hlt7
      obtain ⟨es7, ts7, si7, hes7, hez7, hrn7, hts7, hlen2, H⟩ := HI.open hgo7.2.2.2.2
      obtain ⟨L7, hL7⟩ : ∃ L : List Ob, L = ((g4, 149, es4.flatten ++ [str u5, .slice none 0 0, .map none] ++ ((List.replicate (n4.toNat - (i4 + 1)) [str [], .slice none 0 0, .map none]).flatten ++ post4)) :: L4) := ⟨_, rfl⟩
      rw [← hL7] at H hpL7
      obtain ⟨P7, hP7⟩ : ∃ P : World → Prop, P = fun w => (∀ (j : Nat) (c : List Value) (y : T), es7[j]? = some c → ts7[j]? = some y → elQ true 7 10 dListOffsetsResponseTopicPartition ⟨w, fun k => k ≠ p⟩ c y) ∧ P4 w := ⟨_, rfl⟩
      rw [← hP7] at H
      replace H : St w0 G0 p pb si7 ((g7, 179, es7.flatten ++ [.int .i32 0, .int .i16 0, .slice none 0 0, .int .i64 0, .int .i64 0, .int .i32 0, .map none] ++ ((List.replicate (n7.toNat - (i7 + 1)) [.int .i32 0, .int .i16 0, .slice none 0 0, .int .i64 0, .int .i64 0, .int .i32 0, .map none]).flatten ++ post7)) :: L7) P7 w := H
      ((conv=>whnf);repeat(first|(refine mvT ?_;conv=>whnf)|(refine mvF ?_;conv=>whnf)|(refine cT (by rfl) ?_;conv=>whnf)|(refine cF (by rfl) ?_;conv=>whnf)))
      refine ⟨g7, 0, rfl, ⟨by omega, by omega⟩, ?_⟩
      ((conv=>whnf);repeat(first|(refine mvT ?_;conv=>whnf)|(refine mvF ?_;conv=>whnf)|(refine cT (by rfl) ?_;conv=>whnf)|(refine cF (by rfl) ?_;conv=>whnf)))
      refine Does.mono (dfListOffsetsResponseTopicPartition (pre := es7.flatten) (cur := [.int .i32 0, .int .i16 0, .slice none 0 0, .int .i64 0, .int .i64 0, .int .i32 0, .map none]) (post := ((List.replicate (n7.toNat - (i7 + 1)) [.int .i32 0, .int .i16 0, .slice none 0 0, .int .i64 0, .int .i64 0, .int .i32 0, .map none]).flatten ++ post7)) H.head (by first | (rw [hlen2]; simp; done) | (simp [hlen2]; done) | (simp [hlen2]; omega)) rfl) ?_
      rintro rd w2 ⟨hdf, hxd⟩
      replace H := H.put hdf hxd
      clear hdf hxd
      replace H : St w0 G0 p pb si7 ((g7, 179, es7.flatten ++ [.int .i32 0, .int .i16 0, .slice none 0 0, .int .i64 (-1), .int .i64 (-1), .int .i32 (-1), .map none] ++ ((List.replicate (n7.toNat - (i7 + 1)) [.int .i32 0, .int .i16 0, .slice none 0 0, .int .i64 0, .int .i64 0, .int .i32 0, .map none]).flatten ++ post7)) :: L7) P7 w2 := H
      ((conv=>whnf);repeat(first|(refine mvT ?_;conv=>whnf)|(refine mvF ?_;conv=>whnf)|(refine cT (by rfl) ?_;conv=>whnf)|(refine cF (by rfl) ?_;conv=>whnf)))
      have hup7 : tailBad 7 v fx dListOffsetsResponseTopicPartition si7 = true → (rdPart 9 v fx dListOffsetsResponse (l, false)).2.2 = true := by
        intro hb
        refine hup4 ?_
        rw [tail_yes (rdField8 (by decide) hr5) ⟨by decide, has_all hv⟩, tail_el ⟨by decide, has_all hv⟩ hln7 hgo7.2.2.2.2 hrn7 hb]
      refine Does.mono H.int32 ?_
      rintro r w ⟨n8, s8, rfl, hn8, hr8, H⟩
      ((conv=>whnf);repeat(first|(refine mvT ?_;conv=>whnf)|(refine mvF ?_;conv=>whnf)|(refine cT (by rfl) ?_;conv=>whnf)|(refine cF (by rfl) ?_;conv=>whnf)))
      refine H.st1 (v := .int .i32 n8) 0 (rfl) (rfl) rfl (by first | omega | (simp [hlen2]; done) | (simp [hlen2]; omega)) rfl (Nat.lt_of_lt_of_le (Nat.lt_succ_self _) (Nat.le_of_ble_eq_true rfl)) ?_
      intro w H
      ((conv=>whnf);repeat(first|(refine mvT ?_;conv=>whnf)|(refine mvF ?_;conv=>whnf)|(refine cT (by rfl) ?_;conv=>whnf)|(refine cF (by rfl) ?_;conv=>whnf)))
      replace H : St w0 G0 p pb s8 ((g7, 179, es7.flatten ++ [.int .i32 n8, .int .i16 0, .slice none 0 0, .int .i64 (-1), .int .i64 (-1), .int .i32 (-1), .map none] ++ ((List.replicate (n7.toNat - (i7 + 1)) [.int .i32 0, .int .i16 0, .slice none 0 0, .int .i64 0, .int .i64 0, .int .i32 0, .map none]).flatten ++ post7)) :: L7) P7 w := H
      refine Does.mono H.int16 ?_
      rintro r w ⟨n10, s10, rfl, hn10, hr10, H⟩
      ((conv=>whnf);repeat(first|(refine mvT ?_;conv=>whnf)|(refine mvF ?_;conv=>whnf)|(refine cT (by rfl) ?_;conv=>whnf)|(refine cF (by rfl) ?_;conv=>whnf)))
      refine H.st1 (v := .int .i16 n10) 1 (rfl) (rfl) rfl (by first | omega | (simp [hlen2]; done) | (simp [hlen2]; omega)) rfl (Nat.lt_of_lt_of_le (Nat.lt_succ_self _) (Nat.le_of_ble_eq_true rfl)) ?_
      intro w H
      ((conv=>whnf);repeat(first|(refine mvT ?_;conv=>whnf)|(refine mvF ?_;conv=>whnf)|(refine cT (by rfl) ?_;conv=>whnf)|(refine cF (by rfl) ?_;conv=>whnf)))
      replace H : St w0 G0 p pb s10 ((g7, 179, es7.flatten ++ [.int .i32 n8, .int .i16 n10, .slice none 0 0, .int .i64 (-1), .int .i64 (-1), .int .i32 (-1), .map none] ++ ((List.replicate (n7.toNat - (i7 + 1)) [.int .i32 0, .int .i16 0, .slice none 0 0, .int .i64 0, .int .i64 0, .int .i32 0, .map none]).flatten ++ post7)) :: L7) P7 w := H
      intro cq hcq
      obtain rfl : cq = true := by rw [← hcq]; exact decide_eq_true hv
      ((conv=>whnf);repeat(first|(refine mvT ?_;conv=>whnf)|(refine mvF ?_;conv=>whnf)|(refine cT (by rfl) ?_;conv=>whnf)|(refine cF (by rfl) ?_;conv=>whnf)))
      refine VC.cutE (fun q : Value × Bool × List T × Rd => [(0, .pointer (some ⟨p, 0, none⟩)), (2, .bool false), (7, .pointer (some ⟨pb, 0, none⟩)), (8, .int .i16 v), (9, .bool fx), (10, .pointer (some ⟨p, 0, none⟩)), (14, .int .i32 n4), (13, .slice (some ⟨g4, 0, none⟩) n4.toNat cap4), (15, .int .i32 i4), (16, .pointer (some ⟨g4, 0 + (i4 : Int).toNat * 3, none⟩)), (17, .pointer (some ⟨g4, 0 + (i4 : Int).toNat * 3, none⟩)), (21, .int .i32 n7), (20, .slice (some ⟨g7, 0, none⟩) n7.toNat cap7), (22, .int .i32 i7), (23, .pointer (some ⟨g7, 0 + (i7 : Int).toNat * 7, none⟩)), (24, .pointer (some ⟨g7, 0 + (i7 : Int).toNat * 7, none⟩))]) (fun q w' => (q.2.1 = true → q.2.2.1 = []) ∧ (if hasF (.mk 11 0 0 (-1) (-1) 0 4 []) v = true then rdField 7 v fx (.mk 11 0 0 (-1) (-1) 0 4 []) s10 else (dfT 7 (.mk 11 0 0 (-1) (-1) 0 4 []), s10)) = (.mk 0 [] q.2.1 q.2.2.1 [], q.2.2.2) ∧ St w0 G0 p pb q.2.2.2 ((g7, 179, es7.flatten ++ [.int .i32 n8, .int .i16 n10, q.1, .int .i64 (-1), .int .i64 (-1), .int .i32 (-1), .map none] ++ ((List.replicate (n7.toNat - (i7 + 1)) [.int .i32 0, .int .i16 0, .slice none 0 0, .int .i64 0, .int .i64 0, .int .i32 0, .map none]).flatten ++ post7)) :: L7) (fun w => ListR true (elZ true 6 4 []) (elQ true 6 4 [] ⟨w, fun k => k ≠ p⟩) w (fun k => k ≠ p) q.1 (.mk 0 [] (q.2.1) q.2.2.1 []) ∧ P7 w) w') ?_ ?_
      · refine cI (by rfl) (fun hcv=>?_) (fun hcv=>?_)
        · have hh : hasF (.mk 11 0 0 (-1) (-1) 0 4 []) v = true := by have := of_decide_eq_true hcv; rw [hasF_iff]; omega
          ((conv=>whnf);repeat(first|(refine mvT ?_;conv=>whnf)|(refine mvF ?_;conv=>whnf)|(refine cT (by rfl) ?_;conv=>whnf)|(refine cF (by rfl) ?_;conv=>whnf)))
          refine ⟨_, ld (H.cell rfl (k := 2) rfl) (by first | omega | (simp [hlen2]; done) | (simp [hlen2]; omega)), ?_⟩; ((conv=>whnf);repeat(first|(refine mvT ?_;conv=>whnf)|(refine mvF ?_;conv=>whnf)|(refine cT (by rfl) ?_;conv=>whnf)|(refine cF (by rfl) ?_;conv=>whnf)))
          (refine mvB ?_;((conv=>whnf);repeat(first|(refine mvT ?_;conv=>whnf)|(refine mvF ?_;conv=>whnf)|(refine cT (by rfl) ?_;conv=>whnf)|(refine cF (by rfl) ?_;conv=>whnf))))
          refine VC.cutE (fun q : Int × Rd => [(29, .int .i32 q.1), (28, .slice none 0 0), (0, .pointer (some ⟨p, 0, none⟩)), (2, .bool false), (7, .pointer (some ⟨pb, 0, none⟩)), (8, .int .i16 v), (9, .bool fx), (10, .pointer (some ⟨p, 0, none⟩)), (14, .int .i32 n4), (13, .slice (some ⟨g4, 0, none⟩) n4.toNat cap4), (15, .int .i32 i4), (16, .pointer (some ⟨g4, 0 + (i4 : Int).toNat * 3, none⟩)), (17, .pointer (some ⟨g4, 0 + (i4 : Int).toNat * 3, none⟩)), (21, .int .i32 n7), (20, .slice (some ⟨g7, 0, none⟩) n7.toNat cap7), (22, .int .i32 i7), (23, .pointer (some ⟨g7, 0 + (i7 : Int).toNat * 7, none⟩)), (24, .pointer (some ⟨g7, 0 + (i7 : Int).toNat * 7, none⟩))]) (fun q w' => (-2147483648 ≤ q.1 ∧ q.1 ≤ 2147483647) ∧ rdLn fx s10 = q ∧ St w0 G0 p pb q.2 ((g7, 179, es7.flatten ++ [.int .i32 n8, .int .i16 n10, .slice none 0 0, .int .i64 (-1), .int .i64 (-1), .int .i32 (-1), .map none] ++ ((List.replicate (n7.toNat - (i7 + 1)) [.int .i32 0, .int .i16 0, .slice none 0 0, .int .i64 0, .int .i64 0, .int .i32 0, .map none]).flatten ++ post7)) :: L7) P7 w') ?_ ?_
          · refine cI (by rfl) (fun hc=>?_) (fun hc=>?_)
            · ((conv=>whnf);repeat(first|(refine mvT ?_;conv=>whnf)|(refine mvF ?_;conv=>whnf)|(refine cT (by rfl) ?_;conv=>whnf)|(refine cF (by rfl) ?_;conv=>whnf)))
              refine Does.mono H.lnc ?_
              rintro r w ⟨n, s', rfl, hn, hr, H⟩
              ((conv=>whnf);repeat(first|(refine mvT ?_;conv=>whnf)|(refine mvF ?_;conv=>whnf)|(refine cT (by rfl) ?_;conv=>whnf)|(refine cF (by rfl) ?_;conv=>whnf)))
              exact ⟨(n, s'), ⟨rfl, rfl, rfl, rfl, rfl, rfl, rfl, rfl, rfl, rfl, rfl, rfl, rfl, rfl, rfl, rfl, rfl, rfl, trivial⟩, hn, by rw [hc]; exact hr, H⟩
            · ((conv=>whnf);repeat(first|(refine mvT ?_;conv=>whnf)|(refine mvF ?_;conv=>whnf)|(refine cT (by rfl) ?_;conv=>whnf)|(refine cF (by rfl) ?_;conv=>whnf)))
              refine Does.mono H.lnp ?_
              rintro r w ⟨n, s', rfl, hn, hr, H⟩
              ((conv=>whnf);repeat(first|(refine mvT ?_;conv=>whnf)|(refine mvF ?_;conv=>whnf)|(refine cT (by rfl) ?_;conv=>whnf)|(refine cF (by rfl) ?_;conv=>whnf)))
              exact ⟨(n, s'), ⟨rfl, rfl, rfl, rfl, rfl, rfl, rfl, rfl, rfl, rfl, rfl, rfl, rfl, rfl, rfl, rfl, rfl, rfl, trivial⟩, hn, by rw [hc]; exact hr, H⟩
          clear H
          rintro ⟨n13, s13⟩ w ⟨hn13, hln13, H⟩
          dsimp only at hn13 hln13 H
          ((conv=>whnf);repeat(first|(refine mvT ?_;conv=>whnf)|(refine mvF ?_;conv=>whnf)|(refine cT (by rfl) ?_;conv=>whnf)|(refine cF (by rfl) ?_;conv=>whnf)))
          refine Does.mono H.ok ?_
          rintro r w ⟨rfl, H⟩
          ((conv=>whnf);repeat(first|(refine mvT ?_;conv=>whnf)|(refine mvF ?_;conv=>whnf)|(refine cT (by rfl) ?_;conv=>whnf)|(refine cF (by rfl) ?_;conv=>whnf)))
          refine cI (by rfl) (fun hbd=>?_) (fun hbd=>?_)
          · have hbd : s13.2 = true := by simpa using hbd
            ((conv=>whnf);repeat(first|(refine mvT ?_;conv=>whnf)|(refine mvF ?_;conv=>whnf)|(refine cT (by rfl) ?_;conv=>whnf)|(refine cF (by rfl) ?_;conv=>whnf)))
            refine Does.mono (H.done hL hp1) ?_
            rintro r w ⟨rfl, H⟩
            ((conv=>whnf);repeat(first|(refine mvT ?_;conv=>whnf)|(refine mvF ?_;conv=>whnf)|(refine cT (by rfl) ?_;conv=>whnf)|(refine cF (by rfl) ?_;conv=>whnf)))
            refine RdPost.early hbd (hup7 (?_)) H
            rw [tail_yes (rdField3.trans hr8) ⟨by decide, has_all hv⟩, tail_yes (rdField2.trans hr10) ⟨by decide, has_all hv⟩, tail_len ⟨by decide, hh⟩ hln13 hbd]
          have hbd : s13.2 = false := by simpa using hbd
          clear hbd
          ((conv=>whnf);repeat(first|(refine mvT ?_;conv=>whnf)|(refine mvF ?_;conv=>whnf)|(refine cT (by rfl) ?_;conv=>whnf)|(refine cF (by rfl) ?_;conv=>whnf)))
          refine cut_zero ?_
          ((conv=>whnf);repeat(first|(refine mvT ?_;conv=>whnf)|(refine mvF ?_;conv=>whnf)|(refine cT (by rfl) ?_;conv=>whnf)|(refine cF (by rfl) ?_;conv=>whnf)))
          refine VC.cutE (fun a : Value => [(29, .int .i32 n13), (28, a), (0, .pointer (some ⟨p, 0, none⟩)), (2, .bool false), (7, .pointer (some ⟨pb, 0, none⟩)), (8, .int .i16 v), (9, .bool fx), (10, .pointer (some ⟨p, 0, none⟩)), (14, .int .i32 n4), (13, .slice (some ⟨g4, 0, none⟩) n4.toNat cap4), (15, .int .i32 i4), (16, .pointer (some ⟨g4, 0 + (i4 : Int).toNat * 3, none⟩)), (17, .pointer (some ⟨g4, 0 + (i4 : Int).toNat * 3, none⟩)), (21, .int .i32 n7), (20, .slice (some ⟨g7, 0, none⟩) n7.toNat cap7), (22, .int .i32 i7), (23, .pointer (some ⟨g7, 0 + (i7 : Int).toNat * 7, none⟩)), (24, .pointer (some ⟨g7, 0 + (i7 : Int).toNat * 7, none⟩))]) (fun a w' => ListI w0 G0 p pb 2 [.int .i64 0] (elR 6 v fx 4 []) (elQ true 6 4 []) s13 n13 (decide (n13 ≤ 0)) ((g7, 179, es7.flatten ++ [.int .i32 n8, .int .i16 n10, .slice none 0 0, .int .i64 (-1), .int .i64 (-1), .int .i32 (-1), .map none] ++ ((List.replicate (n7.toNat - (i7 + 1)) [.int .i32 0, .int .i16 0, .slice none 0 0, .int .i64 0, .int .i64 0, .int .i32 0, .map none]).flatten ++ post7)) :: L7) P7 a 0 w') ?_ ?_
          · refine cI (by rfl) (fun hps=>?_) (fun hps=>?_)
            · have hps : 0 < n13 := by have := of_decide_eq_true hps; omega
              ((conv=>whnf);repeat(first|(refine mvT ?_;conv=>whnf)|(refine mvF ?_;conv=>whnf)|(refine cT (by rfl) ?_;conv=>whnf)|(refine cF (by rfl) ?_;conv=>whnf)))
              refine H.grow hps hn13.2 (by decide) rfl rfl (by decide) ?_
              intro g cap post w hc1 hc2 H
              ((conv=>whnf);repeat(first|(refine mvT ?_;conv=>whnf)|(refine mvF ?_;conv=>whnf)|(refine cT (by rfl) ?_;conv=>whnf)|(refine cF (by rfl) ?_;conv=>whnf)))
              exact ⟨_, ⟨rfl, rfl, rfl, rfl, rfl, rfl, rfl, rfl, rfl, rfl, rfl, rfl, rfl, rfl, rfl, rfl, rfl, rfl, trivial⟩, ListI.some hps (decide_eq_false (by omega)) hc1 hc2 H⟩
            · have hps : n13 ≤ 0 := by have := of_decide_eq_false hps; omega
              ((conv=>whnf);repeat(first|(refine mvT ?_;conv=>whnf)|(refine mvF ?_;conv=>whnf)|(refine cT (by rfl) ?_;conv=>whnf)|(refine cF (by rfl) ?_;conv=>whnf)))
              exact ⟨_, ⟨rfl, rfl, rfl, rfl, rfl, rfl, rfl, rfl, rfl, rfl, rfl, rfl, rfl, rfl, rfl, rfl, rfl, rfl, trivial⟩, ListI.none hps (decide_eq_true hps) H⟩
          clear H
          rintro a13 w H
          ((conv=>whnf);repeat(first|(refine mvT ?_;conv=>whnf)|(refine mvF ?_;conv=>whnf)|(refine cT (by rfl) ?_;conv=>whnf)|(refine cF (by rfl) ?_;conv=>whnf)))
          have hpL13 : inL ((g7, 179, es7.flatten ++ [.int .i32 n8, .int .i16 n10, .slice none 0 0, .int .i64 (-1), .int .i64 (-1), .int .i32 (-1), .map none] ++ ((List.replicate (n7.toNat - (i7 + 1)) [.int .i32 0, .int .i16 0, .slice none 0 0, .int .i64 0, .int .i64 0, .int .i32 0, .map none]).flatten ++ post7)) :: L7) p := inL.tail hpL7
          refine VL.loop (fun i : Nat => [(29, .int .i32 n13), (28, a13), (30, .int .i32 i), (0, .pointer (some ⟨p, 0, none⟩)), (2, .bool false), (7, .pointer (some ⟨pb, 0, none⟩)), (8, .int .i16 v), (9, .bool fx), (10, .pointer (some ⟨p, 0, none⟩)), (14, .int .i32 n4), (13, .slice (some ⟨g4, 0, none⟩) n4.toNat cap4), (15, .int .i32 i4), (16, .pointer (some ⟨g4, 0 + (i4 : Int).toNat * 3, none⟩)), (17, .pointer (some ⟨g4, 0 + (i4 : Int).toNat * 3, none⟩)), (21, .int .i32 n7), (20, .slice (some ⟨g7, 0, none⟩) n7.toNat cap7), (22, .int .i32 i7), (23, .pointer (some ⟨g7, 0 + (i7 : Int).toNat * 7, none⟩)), (24, .pointer (some ⟨g7, 0 + (i7 : Int).toNat * 7, none⟩))]) (fun i w' => i ≤ 2147483647 ∧ ListI w0 G0 p pb 2 [.int .i64 0] (elR 6 v fx 4 []) (elQ true 6 4 []) s13 n13 (decide (n13 ≤ 0)) ((g7, 179, es7.flatten ++ [.int .i32 n8, .int .i16 n10, .slice none 0 0, .int .i64 (-1), .int .i64 (-1), .int .i32 (-1), .map none] ++ ((List.replicate (n7.toNat - (i7 + 1)) [.int .i32 0, .int .i16 0, .slice none 0 0, .int .i64 0, .int .i64 0, .int .i32 0, .map none]).flatten ++ post7)) :: L7) P7 a13 i w') (fun i => n13.toNat - i) 0 ⟨rfl, rfl, rfl, rfl, rfl, rfl, rfl, rfl, rfl, rfl, rfl, rfl, rfl, rfl, rfl, rfl, rfl, rfl, rfl, trivial⟩ ⟨by decide, H⟩ ?_
          clear H
          rintro i13 w ⟨hi13, H⟩
          ((conv=>whnf);repeat(first|(refine mvT ?_;conv=>whnf)|(refine mvF ?_;conv=>whnf)|(refine cT (by rfl) ?_;conv=>whnf)|(refine cF (by rfl) ?_;conv=>whnf)))
          refine cI (by rfl) (fun h9=>?_) (fun h9=>?_)
          · have hlt13 : (i13 : Int) < n13 := of_decide_eq_true h9
            obtain ⟨g13, cap13, post13, rfl, hgo13, HI⟩ := H.go hlt13
            obtain ⟨es13, ts13, si13, hes13, hez13, hrn13, hts13, hlen3, H⟩ := HI.open hgo13.2.2.2.2
            obtain ⟨L13, hL13⟩ : ∃ L : List Ob, L = ((g7, 179, es7.flatten ++ [.int .i32 n8, .int .i16 n10, .slice none 0 0, .int .i64 (-1), .int .i64 (-1), .int .i32 (-1), .map none] ++ ((List.replicate (n7.toNat - (i7 + 1)) [.int .i32 0, .int .i16 0, .slice none 0 0, .int .i64 0, .int .i64 0, .int .i32 0, .map none]).flatten ++ post7)) :: L7) := ⟨_, rfl⟩
            rw [← hL13] at H hpL13
            obtain ⟨P13, hP13⟩ : ∃ P : World → Prop, P = fun w => (∀ (j : Nat) (c : List Value) (y : T), es13[j]? = some c → ts13[j]? = some y → elQ true 6 4 [] ⟨w, fun k => k ≠ p⟩ c y) ∧ P7 w := ⟨_, rfl⟩
            rw [← hP13] at H
            replace H : St w0 G0 p pb si13 ((g13, 2, es13.flatten ++ [.int .i64 0] ++ ((List.replicate (n13.toNat - (i13 + 1)) [.int .i64 0]).flatten ++ post13)) :: L13) P13 w := H
            ((conv=>whnf);repeat(first|(refine mvT ?_;conv=>whnf)|(refine mvF ?_;conv=>whnf)|(refine cT (by rfl) ?_;conv=>whnf)|(refine cF (by rfl) ?_;conv=>whnf)))
            refine Does.mono H.int64 ?_
            rintro r w ⟨n14, s14, rfl, hn14, hr14, H⟩
            ((conv=>whnf);repeat(first|(refine mvT ?_;conv=>whnf)|(refine mvF ?_;conv=>whnf)|(refine cT (by rfl) ?_;conv=>whnf)|(refine cF (by rfl) ?_;conv=>whnf)))
            refine ⟨g13, 0, rfl, ⟨by omega, by omega⟩, ?_⟩
            ((conv=>whnf);repeat(first|(refine mvT ?_;conv=>whnf)|(refine mvF ?_;conv=>whnf)|(refine cT (by rfl) ?_;conv=>whnf)|(refine cF (by rfl) ?_;conv=>whnf)))
            refine H.st1 (v := .int .i64 n14) 0 (rfl) (rfl) rfl (by first | omega | (simp [hlen3]; done) | (simp [hlen3]; omega)) rfl (Nat.lt_of_lt_of_le (Nat.lt_succ_self _) (Nat.le_of_ble_eq_true rfl)) ?_
            intro w H
            ((conv=>whnf);repeat(first|(refine mvT ?_;conv=>whnf)|(refine mvF ?_;conv=>whnf)|(refine cT (by rfl) ?_;conv=>whnf)|(refine cF (by rfl) ?_;conv=>whnf)))
            replace H : St w0 G0 p pb s14 ((g13, 2, es13.flatten ++ [.int .i64 n14] ++ ((List.replicate (n13.toNat - (i13 + 1)) [.int .i64 0]).flatten ++ post13)) :: L13) P13 w := H
            refine ⟨i13 + 1, ⟨rfl, rfl, ?_, rfl, rfl, rfl, rfl, rfl, rfl, rfl, rfl, rfl, rfl, rfl, rfl, rfl, rfl, rfl, rfl, trivial⟩, ⟨by omega, ListI.back hgo13 (LoopI.next hes13 hez13 hrn13 hts13 (cur := [.int .i64 n14]) (x := numT n14) (hr14) rfl (by rw [← hL13]; exact H) fun w hP => ?_)⟩, by omega⟩
            · show some (Value.int .i32 _) = _
              rw [IntKind.wrap_i32]
              simp only [Option.some.injEq, Value.int.injEq, true_and]
              omega
            · skip
              rw [hP13] at hP
              exact ⟨⟨_, hn14, rfl, rfl⟩, hP⟩
          have hge13 : ¬ (i13 : Int) < n13 := of_decide_eq_false h9
          obtain ⟨l15, s15, hone15, hl15, hr15, H⟩ := H.done hge13 hln13 (nl := nlF (.mk 11 0 0 (-1) (-1) 0 4 []) v) (sz := elZ true 6 4 []) rfl hpL13 rfl
          ((conv=>whnf);repeat(first|(refine mvT ?_;conv=>whnf)|(refine mvF ?_;conv=>whnf)|(refine cT (by rfl) ?_;conv=>whnf)|(refine cF (by rfl) ?_;conv=>whnf)))
          obtain ⟨P16, hP16⟩ : ∃ P : World → Prop, P = fun w => ListR true (elZ true 6 4 []) (elQ true 6 4 [] ⟨w, fun k => k ≠ p⟩) w (fun k => k ≠ p) a13 (.mk 0 [] (decide (n13 ≤ 0)) l15 []) ∧ P7 w := ⟨_, rfl⟩
          replace H : St w0 G0 p pb s15 ((g7, 179, es7.flatten ++ [.int .i32 n8, .int .i16 n10, .slice none 0 0, .int .i64 (-1), .int .i64 (-1), .int .i32 (-1), .map none] ++ ((List.replicate (n7.toNat - (i7 + 1)) [.int .i32 0, .int .i16 0, .slice none 0 0, .int .i64 0, .int .i64 0, .int .i32 0, .map none]).flatten ++ post7)) :: L7) P16 w := by rw [hP16]; exact H
          refine H.st1 (v := a13) 2 (cells_one hone15) (hone15) rfl (by first | omega | (simp [hlen2]; done) | (simp [hlen2]; omega)) rfl (Nat.lt_of_lt_of_le (Nat.lt_succ_self _) (Nat.le_of_ble_eq_true rfl)) ?_
          intro w H
          ((conv=>whnf);repeat(first|(refine mvT ?_;conv=>whnf)|(refine mvF ?_;conv=>whnf)|(refine cT (by rfl) ?_;conv=>whnf)|(refine cF (by rfl) ?_;conv=>whnf)))
          replace H : St w0 G0 p pb s15 ((g7, 179, es7.flatten ++ [.int .i32 n8, .int .i16 n10, a13, .int .i64 (-1), .int .i64 (-1), .int .i32 (-1), .map none] ++ ((List.replicate (n7.toNat - (i7 + 1)) [.int .i32 0, .int .i16 0, .slice none 0 0, .int .i64 0, .int .i64 0, .int .i32 0, .map none]).flatten ++ post7)) :: L7) P16 w := H
          exact ⟨(a13, decide (n13 ≤ 0), l15, s15), ⟨rfl, rfl, rfl, rfl, rfl, rfl, rfl, rfl, rfl, rfl, rfl, rfl, rfl, rfl, rfl, rfl, trivial⟩, hl15, by rw [if_pos hh]; exact ((rdField_list _ _ _ _ _ _ _ _ _ _ _).trans hr15), by rw [hP16] at H; exact H⟩
        · ((conv=>whnf);repeat(first|(refine mvT ?_;conv=>whnf)|(refine mvF ?_;conv=>whnf)|(refine cT (by rfl) ?_;conv=>whnf)|(refine cF (by rfl) ?_;conv=>whnf)))
          have hh : ¬ hasF (.mk 11 0 0 (-1) (-1) 0 4 []) v = true := by have := of_decide_eq_false hcv; rw [hasF_iff]; omega
          exact ⟨(.slice none 0 0, true, [], s10), ⟨rfl, rfl, rfl, rfl, rfl, rfl, rfl, rfl, rfl, rfl, rfl, rfl, rfl, rfl, rfl, rfl, trivial⟩, fun _ => rfl, by rw [if_neg hh]; rfl, H.add fun w' _ => .inl ⟨rfl, rfl⟩⟩
      clear H
      rintro ⟨c12, nl12, l12, s12⟩ w ⟨hnl12, hr12, H⟩
      dsimp only at hnl12 hr12 H
      ((conv=>whnf);repeat(first|(refine mvT ?_;conv=>whnf)|(refine mvF ?_;conv=>whnf)|(refine cT (by rfl) ?_;conv=>whnf)|(refine cF (by rfl) ?_;conv=>whnf)))
      obtain ⟨P18, hP18⟩ : ∃ P : World → Prop, P = fun w => ListR true (elZ true 6 4 []) (elQ true 6 4 [] ⟨w, fun k => k ≠ p⟩) w (fun k => k ≠ p) c12 (.mk 0 [] (nl12) l12 []) ∧ P7 w := ⟨_, rfl⟩
      replace H : St w0 G0 p pb s12 ((g7, 179, es7.flatten ++ [.int .i32 n8, .int .i16 n10, c12, .int .i64 (-1), .int .i64 (-1), .int .i32 (-1), .map none] ++ ((List.replicate (n7.toNat - (i7 + 1)) [.int .i32 0, .int .i16 0, .slice none 0 0, .int .i64 0, .int .i64 0, .int .i32 0, .map none]).flatten ++ post7)) :: L7) P18 w := by rw [hP18]; exact H
      refine VC.cutE (fun q : Int × Rd => [(0, .pointer (some ⟨p, 0, none⟩)), (2, .bool false), (7, .pointer (some ⟨pb, 0, none⟩)), (8, .int .i16 v), (9, .bool fx), (10, .pointer (some ⟨p, 0, none⟩)), (14, .int .i32 n4), (13, .slice (some ⟨g4, 0, none⟩) n4.toNat cap4), (15, .int .i32 i4), (16, .pointer (some ⟨g4, 0 + (i4 : Int).toNat * 3, none⟩)), (17, .pointer (some ⟨g4, 0 + (i4 : Int).toNat * 3, none⟩)), (21, .int .i32 n7), (20, .slice (some ⟨g7, 0, none⟩) n7.toNat cap7), (22, .int .i32 i7), (23, .pointer (some ⟨g7, 0 + (i7 : Int).toNat * 7, none⟩)), (24, .pointer (some ⟨g7, 0 + (i7 : Int).toNat * 7, none⟩))]) (fun q w' => IntKind.i64.wrap q.1 = q.1 ∧ (if hasF (.mk 4 1 (-1) (-1) (-1) (-1) 0 []) v = true then rdField 7 v fx (.mk 4 1 (-1) (-1) (-1) (-1) 0 []) s12 else (dfT 7 (.mk 4 1 (-1) (-1) (-1) (-1) 0 []), s12)) = (numT q.1, q.2) ∧ St w0 G0 p pb q.2 ((g7, 179, es7.flatten ++ [.int .i32 n8, .int .i16 n10, c12, .int .i64 q.1, .int .i64 (-1), .int .i32 (-1), .map none] ++ ((List.replicate (n7.toNat - (i7 + 1)) [.int .i32 0, .int .i16 0, .slice none 0 0, .int .i64 0, .int .i64 0, .int .i32 0, .map none]).flatten ++ post7)) :: L7) P18 w') ?_ ?_
      · refine cI (by rfl) (fun hcv=>?_) (fun hcv=>?_)
        · ((conv=>whnf);repeat(first|(refine mvT ?_;conv=>whnf)|(refine mvF ?_;conv=>whnf)|(refine cT (by rfl) ?_;conv=>whnf)|(refine cF (by rfl) ?_;conv=>whnf)))
          refine Does.mono H.int64 ?_
          rintro r w ⟨n20, s20, rfl, hn20, hr20, H⟩
          ((conv=>whnf);repeat(first|(refine mvT ?_;conv=>whnf)|(refine mvF ?_;conv=>whnf)|(refine cT (by rfl) ?_;conv=>whnf)|(refine cF (by rfl) ?_;conv=>whnf)))
          refine H.st1 (v := .int .i64 n20) 3 (rfl) (rfl) rfl (by first | omega | (simp [hlen2]; done) | (simp [hlen2]; omega)) rfl (Nat.lt_of_lt_of_le (Nat.lt_succ_self _) (Nat.le_of_ble_eq_true rfl)) ?_
          intro w H
          ((conv=>whnf);repeat(first|(refine mvT ?_;conv=>whnf)|(refine mvF ?_;conv=>whnf)|(refine cT (by rfl) ?_;conv=>whnf)|(refine cF (by rfl) ?_;conv=>whnf)))
          replace H : St w0 G0 p pb s20 ((g7, 179, es7.flatten ++ [.int .i32 n8, .int .i16 n10, c12, .int .i64 n20, .int .i64 (-1), .int .i32 (-1), .map none] ++ ((List.replicate (n7.toNat - (i7 + 1)) [.int .i32 0, .int .i16 0, .slice none 0 0, .int .i64 0, .int .i64 0, .int .i32 0, .map none]).flatten ++ post7)) :: L7) P18 w := H
          have hh : hasF (.mk 4 1 (-1) (-1) (-1) (-1) 0 []) v = true := by have := of_decide_eq_true hcv; rw [hasF_iff]; omega
          exact ⟨(n20, s20), ⟨rfl, rfl, rfl, rfl, rfl, rfl, rfl, rfl, rfl, rfl, rfl, rfl, rfl, rfl, rfl, rfl, trivial⟩, hn20, by rw [if_pos hh]; exact (rdField4.trans hr20), H⟩
        · ((conv=>whnf);repeat(first|(refine mvT ?_;conv=>whnf)|(refine mvF ?_;conv=>whnf)|(refine cT (by rfl) ?_;conv=>whnf)|(refine cF (by rfl) ?_;conv=>whnf)))
          have hh : ¬ hasF (.mk 4 1 (-1) (-1) (-1) (-1) 0 []) v = true := by have := of_decide_eq_false hcv; rw [hasF_iff]; omega
          exact ⟨((-1), s12), ⟨rfl, rfl, rfl, rfl, rfl, rfl, rfl, rfl, rfl, rfl, rfl, rfl, rfl, rfl, rfl, rfl, trivial⟩, rfl, by rw [if_neg hh]; rfl, H⟩
      clear H
      rintro ⟨n19, s19⟩ w ⟨hn19, hr19, H⟩
      dsimp only at hn19 hr19 H
      ((conv=>whnf);repeat(first|(refine mvT ?_;conv=>whnf)|(refine mvF ?_;conv=>whnf)|(refine cT (by rfl) ?_;conv=>whnf)|(refine cF (by rfl) ?_;conv=>whnf)))
      replace H : St w0 G0 p pb s19 ((g7, 179, es7.flatten ++ [.int .i32 n8, .int .i16 n10, c12, .int .i64 n19, .int .i64 (-1), .int .i32 (-1), .map none] ++ ((List.replicate (n7.toNat - (i7 + 1)) [.int .i32 0, .int .i16 0, .slice none 0 0, .int .i64 0, .int .i64 0, .int .i32 0, .map none]).flatten ++ post7)) :: L7) P18 w := H
      refine VC.cutE (fun q : Int × Rd => [(0, .pointer (some ⟨p, 0, none⟩)), (2, .bool false), (7, .pointer (some ⟨pb, 0, none⟩)), (8, .int .i16 v), (9, .bool fx), (10, .pointer (some ⟨p, 0, none⟩)), (14, .int .i32 n4), (13, .slice (some ⟨g4, 0, none⟩) n4.toNat cap4), (15, .int .i32 i4), (16, .pointer (some ⟨g4, 0 + (i4 : Int).toNat * 3, none⟩)), (17, .pointer (some ⟨g4, 0 + (i4 : Int).toNat * 3, none⟩)), (21, .int .i32 n7), (20, .slice (some ⟨g7, 0, none⟩) n7.toNat cap7), (22, .int .i32 i7), (23, .pointer (some ⟨g7, 0 + (i7 : Int).toNat * 7, none⟩)), (24, .pointer (some ⟨g7, 0 + (i7 : Int).toNat * 7, none⟩))]) (fun q w' => IntKind.i64.wrap q.1 = q.1 ∧ (if hasF (.mk 4 1 (-1) (-1) (-1) (-1) 0 []) v = true then rdField 7 v fx (.mk 4 1 (-1) (-1) (-1) (-1) 0 []) s19 else (dfT 7 (.mk 4 1 (-1) (-1) (-1) (-1) 0 []), s19)) = (numT q.1, q.2) ∧ St w0 G0 p pb q.2 ((g7, 179, es7.flatten ++ [.int .i32 n8, .int .i16 n10, c12, .int .i64 n19, .int .i64 q.1, .int .i32 (-1), .map none] ++ ((List.replicate (n7.toNat - (i7 + 1)) [.int .i32 0, .int .i16 0, .slice none 0 0, .int .i64 0, .int .i64 0, .int .i32 0, .map none]).flatten ++ post7)) :: L7) P18 w') ?_ ?_
      · refine cI (by rfl) (fun hcv=>?_) (fun hcv=>?_)
        · ((conv=>whnf);repeat(first|(refine mvT ?_;conv=>whnf)|(refine mvF ?_;conv=>whnf)|(refine cT (by rfl) ?_;conv=>whnf)|(refine cF (by rfl) ?_;conv=>whnf)))
          refine Does.mono H.int64 ?_
          rintro r w ⟨n23, s23, rfl, hn23, hr23, H⟩
          ((conv=>whnf);repeat(first|(refine mvT ?_;conv=>whnf)|(refine mvF ?_;conv=>whnf)|(refine cT (by rfl) ?_;conv=>whnf)|(refine cF (by rfl) ?_;conv=>whnf)))
          refine H.st1 (v := .int .i64 n23) 4 (rfl) (rfl) rfl (by first | omega | (simp [hlen2]; done) | (simp [hlen2]; omega)) rfl (Nat.lt_of_lt_of_le (Nat.lt_succ_self _) (Nat.le_of_ble_eq_true rfl)) ?_
          intro w H
          ((conv=>whnf);repeat(first|(refine mvT ?_;conv=>whnf)|(refine mvF ?_;conv=>whnf)|(refine cT (by rfl) ?_;conv=>whnf)|(refine cF (by rfl) ?_;conv=>whnf)))
          replace H : St w0 G0 p pb s23 ((g7, 179, es7.flatten ++ [.int .i32 n8, .int .i16 n10, c12, .int .i64 n19, .int .i64 n23, .int .i32 (-1), .map none] ++ ((List.replicate (n7.toNat - (i7 + 1)) [.int .i32 0, .int .i16 0, .slice none 0 0, .int .i64 0, .int .i64 0, .int .i32 0, .map none]).flatten ++ post7)) :: L7) P18 w := H
          have hh : hasF (.mk 4 1 (-1) (-1) (-1) (-1) 0 []) v = true := by have := of_decide_eq_true hcv; rw [hasF_iff]; omega
          exact ⟨(n23, s23), ⟨rfl, rfl, rfl, rfl, rfl, rfl, rfl, rfl, rfl, rfl, rfl, rfl, rfl, rfl, rfl, rfl, trivial⟩, hn23, by rw [if_pos hh]; exact (rdField4.trans hr23), H⟩
        · ((conv=>whnf);repeat(first|(refine mvT ?_;conv=>whnf)|(refine mvF ?_;conv=>whnf)|(refine cT (by rfl) ?_;conv=>whnf)|(refine cF (by rfl) ?_;conv=>whnf)))
          have hh : ¬ hasF (.mk 4 1 (-1) (-1) (-1) (-1) 0 []) v = true := by have := of_decide_eq_false hcv; rw [hasF_iff]; omega
          exact ⟨((-1), s19), ⟨rfl, rfl, rfl, rfl, rfl, rfl, rfl, rfl, rfl, rfl, rfl, rfl, rfl, rfl, rfl, rfl, trivial⟩, rfl, by rw [if_neg hh]; rfl, H⟩
      clear H
      rintro ⟨n22, s22⟩ w ⟨hn22, hr22, H⟩
      dsimp only at hn22 hr22 H
      ((conv=>whnf);repeat(first|(refine mvT ?_;conv=>whnf)|(refine mvF ?_;conv=>whnf)|(refine cT (by rfl) ?_;conv=>whnf)|(refine cF (by rfl) ?_;conv=>whnf)))
      replace H : St w0 G0 p pb s22 ((g7, 179, es7.flatten ++ [.int .i32 n8, .int .i16 n10, c12, .int .i64 n19, .int .i64 n22, .int .i32 (-1), .map none] ++ ((List.replicate (n7.toNat - (i7 + 1)) [.int .i32 0, .int .i16 0, .slice none 0 0, .int .i64 0, .int .i64 0, .int .i32 0, .map none]).flatten ++ post7)) :: L7) P18 w := H
      refine VC.cutE (fun q : Int × Rd => [(0, .pointer (some ⟨p, 0, none⟩)), (2, .bool false), (7, .pointer (some ⟨pb, 0, none⟩)), (8, .int .i16 v), (9, .bool fx), (10, .pointer (some ⟨p, 0, none⟩)), (14, .int .i32 n4), (13, .slice (some ⟨g4, 0, none⟩) n4.toNat cap4), (15, .int .i32 i4), (16, .pointer (some ⟨g4, 0 + (i4 : Int).toNat * 3, none⟩)), (17, .pointer (some ⟨g4, 0 + (i4 : Int).toNat * 3, none⟩)), (21, .int .i32 n7), (20, .slice (some ⟨g7, 0, none⟩) n7.toNat cap7), (22, .int .i32 i7), (23, .pointer (some ⟨g7, 0 + (i7 : Int).toNat * 7, none⟩)), (24, .pointer (some ⟨g7, 0 + (i7 : Int).toNat * 7, none⟩))]) (fun q w' => IntKind.i32.wrap q.1 = q.1 ∧ (if hasF (.mk 3 4 (-1) (-1) (-1) (-1) 0 []) v = true then rdField 7 v fx (.mk 3 4 (-1) (-1) (-1) (-1) 0 []) s22 else (dfT 7 (.mk 3 4 (-1) (-1) (-1) (-1) 0 []), s22)) = (numT q.1, q.2) ∧ St w0 G0 p pb q.2 ((g7, 179, es7.flatten ++ [.int .i32 n8, .int .i16 n10, c12, .int .i64 n19, .int .i64 n22, .int .i32 q.1, .map none] ++ ((List.replicate (n7.toNat - (i7 + 1)) [.int .i32 0, .int .i16 0, .slice none 0 0, .int .i64 0, .int .i64 0, .int .i32 0, .map none]).flatten ++ post7)) :: L7) P18 w') ?_ ?_
      · refine cI (by rfl) (fun hcv=>?_) (fun hcv=>?_)
        · ((conv=>whnf);repeat(first|(refine mvT ?_;conv=>whnf)|(refine mvF ?_;conv=>whnf)|(refine cT (by rfl) ?_;conv=>whnf)|(refine cF (by rfl) ?_;conv=>whnf)))
          refine Does.mono H.int32 ?_
          rintro r w ⟨n26, s26, rfl, hn26, hr26, H⟩
          ((conv=>whnf);repeat(first|(refine mvT ?_;conv=>whnf)|(refine mvF ?_;conv=>whnf)|(refine cT (by rfl) ?_;conv=>whnf)|(refine cF (by rfl) ?_;conv=>whnf)))
          refine H.st1 (v := .int .i32 n26) 5 (rfl) (rfl) rfl (by first | omega | (simp [hlen2]; done) | (simp [hlen2]; omega)) rfl (Nat.lt_of_lt_of_le (Nat.lt_succ_self _) (Nat.le_of_ble_eq_true rfl)) ?_
          intro w H
          ((conv=>whnf);repeat(first|(refine mvT ?_;conv=>whnf)|(refine mvF ?_;conv=>whnf)|(refine cT (by rfl) ?_;conv=>whnf)|(refine cF (by rfl) ?_;conv=>whnf)))
          replace H : St w0 G0 p pb s26 ((g7, 179, es7.flatten ++ [.int .i32 n8, .int .i16 n10, c12, .int .i64 n19, .int .i64 n22, .int .i32 n26, .map none] ++ ((List.replicate (n7.toNat - (i7 + 1)) [.int .i32 0, .int .i16 0, .slice none 0 0, .int .i64 0, .int .i64 0, .int .i32 0, .map none]).flatten ++ post7)) :: L7) P18 w := H
          have hh : hasF (.mk 3 4 (-1) (-1) (-1) (-1) 0 []) v = true := by have := of_decide_eq_true hcv; rw [hasF_iff]; omega
          exact ⟨(n26, s26), ⟨rfl, rfl, rfl, rfl, rfl, rfl, rfl, rfl, rfl, rfl, rfl, rfl, rfl, rfl, rfl, rfl, trivial⟩, hn26, by rw [if_pos hh]; exact (rdField3.trans hr26), H⟩
        · ((conv=>whnf);repeat(first|(refine mvT ?_;conv=>whnf)|(refine mvF ?_;conv=>whnf)|(refine cT (by rfl) ?_;conv=>whnf)|(refine cF (by rfl) ?_;conv=>whnf)))
          have hh : ¬ hasF (.mk 3 4 (-1) (-1) (-1) (-1) 0 []) v = true := by have := of_decide_eq_false hcv; rw [hasF_iff]; omega
          exact ⟨((-1), s22), ⟨rfl, rfl, rfl, rfl, rfl, rfl, rfl, rfl, rfl, rfl, rfl, rfl, rfl, rfl, rfl, rfl, trivial⟩, rfl, by rw [if_neg hh]; rfl, H⟩
      clear H
      rintro ⟨n25, s25⟩ w ⟨hn25, hr25, H⟩
      dsimp only at hn25 hr25 H
      ((conv=>whnf);repeat(first|(refine mvT ?_;conv=>whnf)|(refine mvF ?_;conv=>whnf)|(refine cT (by rfl) ?_;conv=>whnf)|(refine cF (by rfl) ?_;conv=>whnf)))
      replace H : St w0 G0 p pb s25 ((g7, 179, es7.flatten ++ [.int .i32 n8, .int .i16 n10, c12, .int .i64 n19, .int .i64 n22, .int .i32 n25, .map none] ++ ((List.replicate (n7.toNat - (i7 + 1)) [.int .i32 0, .int .i16 0, .slice none 0 0, .int .i64 0, .int .i64 0, .int .i32 0, .map none]).flatten ++ post7)) :: L7) P18 w := H
      (refine mvB ?_;((conv=>whnf);repeat(first|(refine mvT ?_;conv=>whnf)|(refine mvF ?_;conv=>whnf)|(refine cT (by rfl) ?_;conv=>whnf)|(refine cF (by rfl) ?_;conv=>whnf))))
      refine VC.cutB (fun q : Value × List Tg × Rd => [(0, .pointer (some ⟨p, 0, none⟩)), (2, .bool false), (7, .pointer (some ⟨pb, 0, none⟩)), (8, .int .i16 v), (9, .bool fx), (10, .pointer (some ⟨p, 0, none⟩)), (14, .int .i32 n4), (13, .slice (some ⟨g4, 0, none⟩) n4.toNat cap4), (15, .int .i32 i4), (16, .pointer (some ⟨g4, 0 + (i4 : Int).toNat * 3, none⟩)), (17, .pointer (some ⟨g4, 0 + (i4 : Int).toNat * 3, none⟩)), (21, .int .i32 n7), (20, .slice (some ⟨g7, 0, none⟩) n7.toNat cap7), (22, .int .i32 i7), (23, .pointer (some ⟨g7, 0 + (i7 : Int).toNat * 7, none⟩)), (24, .pointer (some ⟨g7, 0 + (i7 : Int).toNat * 7, none⟩))]) (fun q w' => rdTagsF fx s25 = q.2 ∧ St w0 G0 p pb q.2.2 ((g7, 179, es7.flatten ++ [.int .i32 n8, .int .i16 n10, c12, .int .i64 n19, .int .i64 n22, .int .i32 n25, q.1] ++ ((List.replicate (n7.toNat - (i7 + 1)) [.int .i32 0, .int .i16 0, .slice none 0 0, .int .i64 0, .int .i64 0, .int .i32 0, .map none]).flatten ++ post7)) :: L7) (fun w => TGf p q.1 q.2.1 w ∧ P18 w) w') ?_ ?_
      · refine cI (by rfl) (fun hc=>?_) (fun hc=>?_)
        · ((conv=>whnf);repeat(first|(refine mvT ?_;conv=>whnf)|(refine mvF ?_;conv=>whnf)|(refine cT (by rfl) ?_;conv=>whnf)|(refine cF (by rfl) ?_;conv=>whnf)))
          refine Does.mono H.tags ?_
          rintro r w ⟨m, u, s', rfl, hone, hr, H⟩
          ((conv=>whnf);repeat(first|(refine mvT ?_;conv=>whnf)|(refine mvF ?_;conv=>whnf)|(refine cT (by rfl) ?_;conv=>whnf)|(refine cF (by rfl) ?_;conv=>whnf)))
          refine H.st1 (v := m) 6 (rfl) (hone) rfl (by first | omega | (simp [hlen2]; done) | (simp [hlen2]; omega)) rfl (Nat.lt_of_lt_of_le (Nat.lt_succ_self _) (Nat.le_of_ble_eq_true rfl)) ?_
          intro w H
          ((conv=>whnf);repeat(first|(refine mvT ?_;conv=>whnf)|(refine mvF ?_;conv=>whnf)|(refine cT (by rfl) ?_;conv=>whnf)|(refine cF (by rfl) ?_;conv=>whnf)))
          exact ⟨(m, u, s'), ⟨rfl, rfl, rfl, rfl, rfl, rfl, rfl, rfl, rfl, rfl, rfl, rfl, rfl, rfl, rfl, rfl, trivial⟩, by rw [rdTagsF, if_pos hc]; exact hr, H⟩
        · ((conv=>whnf);repeat(first|(refine mvT ?_;conv=>whnf)|(refine mvF ?_;conv=>whnf)|(refine cT (by rfl) ?_;conv=>whnf)|(refine cF (by rfl) ?_;conv=>whnf)))
          exact ⟨(.map none, [], s25), ⟨rfl, rfl, rfl, rfl, rfl, rfl, rfl, rfl, rfl, rfl, rfl, rfl, rfl, rfl, rfl, rfl, trivial⟩, by rw [rdTagsF, if_neg (by rw [hc]; decide)], H.add fun w' _ => TagsR.nil _ _⟩
      clear H
      rintro ⟨m28, u28, s28⟩ w ⟨htg, H⟩
      dsimp only at htg H
      ((conv=>whnf);repeat(first|(refine mvT ?_;conv=>whnf)|(refine mvF ?_;conv=>whnf)|(refine cT (by rfl) ?_;conv=>whnf)|(refine cF (by rfl) ?_;conv=>whnf)))
      obtain ⟨P29, hP29⟩ : ∃ P : World → Prop, P = fun w => TGf p m28 u28 w ∧ P18 w := ⟨_, rfl⟩
      replace H : St w0 G0 p pb s28 ((g7, 179, es7.flatten ++ [.int .i32 n8, .int .i16 n10, c12, .int .i64 n19, .int .i64 n22, .int .i32 n25, m28] ++ ((List.replicate (n7.toNat - (i7 + 1)) [.int .i32 0, .int .i16 0, .slice none 0 0, .int .i64 0, .int .i64 0, .int .i32 0, .map none]).flatten ++ post7)) :: L7) P29 w := by rw [hP29]; exact H
      have hpart : rdPart 7 v fx dListOffsetsResponseTopicPartition si7 = (.mk 0 [] false [numT n8, numT n10, .mk 0 [] nl12 l12 [], numT n19, numT n22, numT n25] u28, s28) := by
        unfold rdPart rdPartW
        rw [rdAll_yes (df := dfT 7) (rdField3.trans hr8) ⟨by decide, has_all hv⟩, rdAll_yes (df := dfT 7) (rdField2.trans hr10) ⟨by decide, has_all hv⟩, rdAll_ver hr12 (by decide), rdAll_ver hr19 (by decide), rdAll_ver hr22 (by decide), rdAll_ver hr25 (by decide)]
        simp only [rdAll]
        rw [htg]
      refine ⟨i7 + 1, ⟨rfl, rfl, ?_, rfl, rfl, rfl, rfl, rfl, rfl, rfl, rfl, rfl, rfl, rfl, trivial⟩, ⟨by omega, ListI.back hgo7 (LoopI.next hes7 hez7 hrn7 hts7 (cur := [.int .i32 n8, .int .i16 n10, c12, .int .i64 n19, .int .i64 n22, .int .i32 n25, m28]) (x := .mk 0 [] false [numT n8, numT n10, .mk 0 [] nl12 l12 [], numT n19, numT n22, numT n25] u28) (hpart) rfl (by rw [← hL7]; exact H) fun w hP => ?_)⟩, by omega⟩
      · show some (Value.int .i32 _) = _
        rw [IntKind.wrap_i32]
        simp only [Option.some.injEq, Value.int.injEq, true_and]
        omega
      · skip
        rw [hP29] at hP
        obtain ⟨hf29_, hP⟩ := hP
        rw [hP18] at hP
        obtain ⟨hf18_, hP⟩ := hP
        rw [hP7] at hP
        exact ⟨QPt (QA1 (QF3 hn8) (QA1 (QF2 hn10) (QA1 (QF11 hnl12 hf18_) (QA1 (QF4 hn19) (QA1 (QF4 hn22) (QA1 (QF3 hn25) (QA0))))))) hf29_, hP⟩
    have hge7 : ¬ (i7 : Int) < n7 := of_decide_eq_false h9
    obtain ⟨l30, s30, hone30, hl30, hr30, H⟩ := H.done hge7 hln7 (nl := nlF (.mk 11 0 (-1) (-1) (-1) 0 10 dListOffsetsResponseTopicPartition) v) (sz := elZ true 7 10 dListOffsetsResponseTopicPartition) rfl hpL7 rfl
    ((conv=>whnf);repeat(first|(refine mvT ?_;conv=>whnf)|(refine mvF ?_;conv=>whnf)|(refine cT (by rfl) ?_;conv=>whnf)|(refine cF (by rfl) ?_;conv=>whnf)))
    obtain ⟨P31, hP31⟩ : ∃ P : World → Prop, P = fun w => ListR true (elZ true 7 10 dListOffsetsResponseTopicPartition) (elQ true 7 10 dListOffsetsResponseTopicPartition ⟨w, fun k => k ≠ p⟩) w (fun k => k ≠ p) a7 (.mk 0 [] (decide (n7 ≤ 0)) l30 []) ∧ P4 w := ⟨_, rfl⟩
    replace H : St w0 G0 p pb s30 ((g4, 149, es4.flatten ++ [str u5, .slice none 0 0, .map none] ++ ((List.replicate (n4.toNat - (i4 + 1)) [str [], .slice none 0 0, .map none]).flatten ++ post4)) :: L4) P31 w := by rw [hP31]; exact H
    refine H.st1 (v := a7) 1 (cells_one hone30) (hone30) rfl (by first | omega | (simp [hlen1]; done) | (simp [hlen1]; omega)) rfl (Nat.lt_of_lt_of_le (Nat.lt_succ_self _) (Nat.le_of_ble_eq_true rfl)) ?_
    intro w H
    ((conv=>whnf);repeat(first|(refine mvT ?_;conv=>whnf)|(refine mvF ?_;conv=>whnf)|(refine cT (by rfl) ?_;conv=>whnf)|(refine cF (by rfl) ?_;conv=>whnf)))
    replace H : St w0 G0 p pb s30 ((g4, 149, es4.flatten ++ [str u5, a7, .map none] ++ ((List.replicate (n4.toNat - (i4 + 1)) [str [], .slice none 0 0, .map none]).flatten ++ post4)) :: L4) P31 w := H
    (refine mvB ?_;((conv=>whnf);repeat(first|(refine mvT ?_;conv=>whnf)|(refine mvF ?_;conv=>whnf)|(refine cT (by rfl) ?_;conv=>whnf)|(refine cF (by rfl) ?_;conv=>whnf))))
    refine VC.cutB (fun q : Value × List Tg × Rd => [(0, .pointer (some ⟨p, 0, none⟩)), (2, .bool false), (7, .pointer (some ⟨pb, 0, none⟩)), (8, .int .i16 v), (9, .bool fx), (10, .pointer (some ⟨p, 0, none⟩)), (14, .int .i32 n4), (13, .slice (some ⟨g4, 0, none⟩) n4.toNat cap4), (15, .int .i32 i4), (16, .pointer (some ⟨g4, 0 + (i4 : Int).toNat * 3, none⟩)), (17, .pointer (some ⟨g4, 0 + (i4 : Int).toNat * 3, none⟩))]) (fun q w' => rdTagsF fx s30 = q.2 ∧ St w0 G0 p pb q.2.2 ((g4, 149, es4.flatten ++ [str u5, a7, q.1] ++ ((List.replicate (n4.toNat - (i4 + 1)) [str [], .slice none 0 0, .map none]).flatten ++ post4)) :: L4) (fun w => TGf p q.1 q.2.1 w ∧ P31 w) w') ?_ ?_
    · refine cI (by rfl) (fun hc=>?_) (fun hc=>?_)
      · ((conv=>whnf);repeat(first|(refine mvT ?_;conv=>whnf)|(refine mvF ?_;conv=>whnf)|(refine cT (by rfl) ?_;conv=>whnf)|(refine cF (by rfl) ?_;conv=>whnf)))
        refine Does.mono H.tags ?_
        rintro r w ⟨m, u, s', rfl, hone, hr, H⟩
        ((conv=>whnf);repeat(first|(refine mvT ?_;conv=>whnf)|(refine mvF ?_;conv=>whnf)|(refine cT (by rfl) ?_;conv=>whnf)|(refine cF (by rfl) ?_;conv=>whnf)))
        refine H.st1 (v := m) 2 (rfl) (hone) rfl (by first | omega | (simp [hlen1]; done) | (simp [hlen1]; omega)) rfl (Nat.lt_of_lt_of_le (Nat.lt_succ_self _) (Nat.le_of_ble_eq_true rfl)) ?_
        intro w H
        ((conv=>whnf);repeat(first|(refine mvT ?_;conv=>whnf)|(refine mvF ?_;conv=>whnf)|(refine cT (by rfl) ?_;conv=>whnf)|(refine cF (by rfl) ?_;conv=>whnf)))
        exact ⟨(m, u, s'), ⟨rfl, rfl, rfl, rfl, rfl, rfl, rfl, rfl, rfl, rfl, rfl, trivial⟩, by rw [rdTagsF, if_pos hc]; exact hr, H⟩
      · ((conv=>whnf);repeat(first|(refine mvT ?_;conv=>whnf)|(refine mvF ?_;conv=>whnf)|(refine cT (by rfl) ?_;conv=>whnf)|(refine cF (by rfl) ?_;conv=>whnf)))
        exact ⟨(.map none, [], s30), ⟨rfl, rfl, rfl, rfl, rfl, rfl, rfl, rfl, rfl, rfl, rfl, trivial⟩, by rw [rdTagsF, if_neg (by rw [hc]; decide)], H.add fun w' _ => TagsR.nil _ _⟩
    clear H
    rintro ⟨m33, u33, s33⟩ w ⟨htg, H⟩
    dsimp only at htg H
    ((conv=>whnf);repeat(first|(refine mvT ?_;conv=>whnf)|(refine mvF ?_;conv=>whnf)|(refine cT (by rfl) ?_;conv=>whnf)|(refine cF (by rfl) ?_;conv=>whnf)))
    obtain ⟨P34, hP34⟩ : ∃ P : World → Prop, P = fun w => TGf p m33 u33 w ∧ P31 w := ⟨_, rfl⟩
    replace H : St w0 G0 p pb s33 ((g4, 149, es4.flatten ++ [str u5, a7, m33] ++ ((List.replicate (n4.toNat - (i4 + 1)) [str [], .slice none 0 0, .map none]).flatten ++ post4)) :: L4) P34 w := by rw [hP34]; exact H
    have hpart : rdPart 8 v fx dListOffsetsResponseTopic si4 = (.mk 0 [] false [.mk 0 u5 false [] [], .mk 0 [] (decide (n7 ≤ 0)) l30 []] u33, s33) := by
      unfold rdPart rdPartW
      rw [rdAll_yes (df := dfT 8) (rdField8 (by decide) hr5) ⟨by decide, has_all hv⟩, rdAll_yes (df := dfT 8) ((rdField_list _ _ _ _ _ _ _ _ _ _ _).trans hr30) ⟨by decide, has_all hv⟩]
      simp only [rdAll]
      rw [htg]
    refine ⟨i4 + 1, ⟨rfl, rfl, ?_, rfl, rfl, rfl, rfl, rfl, rfl, trivial⟩, ⟨by omega, ListI.back hgo4 (LoopI.next hes4 hez4 hrn4 hts4 (cur := [str u5, a7, m33]) (x := .mk 0 [] false [.mk 0 u5 false [] [], .mk 0 [] (decide (n7 ≤ 0)) l30 []] u33) (hpart) rfl (by rw [← hL4]; exact H) fun w hP => ?_)⟩, by omega⟩
    · show some (Value.int .i32 _) = _
      rw [IntKind.wrap_i32]
      simp only [Option.some.injEq, Value.int.injEq, true_and]
      omega
    · skip
      rw [hP34] at hP
      obtain ⟨hf34_, hP⟩ := hP
      rw [hP31] at hP
      obtain ⟨hf31_, hP⟩ := hP
      rw [hP4] at hP
      exact ⟨QPt (QA1 (QF8 (by decide) u5) (QA1 (QF11 hl30 hf31_) (QA0))) hf34_, hP⟩
  have hge4 : ¬ (i4 : Int) < n4 := of_decide_eq_false h9
  obtain ⟨l35, s35, hone35, hl35, hr35, H⟩ := H.done hge4 hln4 (nl := nlF (.mk 11 0 (-1) (-1) (-1) 0 10 dListOffsetsResponseTopic) v) (sz := elZ true 8 10 dListOffsetsResponseTopic) rfl hpL4 rfl
  ((conv=>whnf);repeat(first|(refine mvT ?_;conv=>whnf)|(refine mvF ?_;conv=>whnf)|(refine cT (by rfl) ?_;conv=>whnf)|(refine cF (by rfl) ?_;conv=>whnf)))
  obtain ⟨P36, hP36⟩ : ∃ P : World → Prop, P = fun w => ListR true (elZ true 8 10 dListOffsetsResponseTopic) (elQ true 8 10 dListOffsetsResponseTopic ⟨w, fun k => k ≠ p⟩) w (fun k => k ≠ p) a4 (.mk 0 [] (decide (n4 ≤ 0)) l35 []) ∧ (fun _ => True) w := ⟨_, rfl⟩
  replace H : St w0 G0 p pb s35 ((p, ty, [] ++ [.int .i16 v, .int .i32 n1, .slice none 0 0, .map none] ++ []) :: []) P36 w := by rw [hP36]; exact H
  refine H.st1 (v := a4) 2 (cells_one hone35) (hone35) rfl (by simp) rfl (Nat.lt_of_lt_of_le (Nat.lt_succ_self _) (Nat.le_of_ble_eq_true rfl)) ?_
  intro w H
  ((conv=>whnf);repeat(first|(refine mvT ?_;conv=>whnf)|(refine mvF ?_;conv=>whnf)|(refine cT (by rfl) ?_;conv=>whnf)|(refine cF (by rfl) ?_;conv=>whnf)))
  replace H : St w0 G0 p pb s35 ((p, ty, [] ++ [.int .i16 v, .int .i32 n1, a4, .map none] ++ []) :: []) P36 w := H
  (refine mvB ?_;((conv=>whnf);repeat(first|(refine mvT ?_;conv=>whnf)|(refine mvF ?_;conv=>whnf)|(refine cT (by rfl) ?_;conv=>whnf)|(refine cF (by rfl) ?_;conv=>whnf))))
  refine VC.cutE (fun q : Value × List Tg × Rd => [(0, .pointer (some ⟨p, 0, none⟩)), (2, .bool false), (7, .pointer (some ⟨pb, 0, none⟩)), (8, .int .i16 v), (9, .bool fx), (10, .pointer (some ⟨p, 0, none⟩))]) (fun q w' => rdTagsF fx s35 = q.2 ∧ St w0 G0 p pb q.2.2 ((p, ty, [] ++ [.int .i16 v, .int .i32 n1, a4, q.1] ++ []) :: []) (fun w => TGf p q.1 q.2.1 w ∧ P36 w) w') ?_ ?_
  · refine cI (by rfl) (fun hc=>?_) (fun hc=>?_)
    · ((conv=>whnf);repeat(first|(refine mvT ?_;conv=>whnf)|(refine mvF ?_;conv=>whnf)|(refine cT (by rfl) ?_;conv=>whnf)|(refine cF (by rfl) ?_;conv=>whnf)))
      refine Does.mono H.tags ?_
      rintro r w ⟨m, u, s', rfl, hone, hr, H⟩
      ((conv=>whnf);repeat(first|(refine mvT ?_;conv=>whnf)|(refine mvF ?_;conv=>whnf)|(refine cT (by rfl) ?_;conv=>whnf)|(refine cF (by rfl) ?_;conv=>whnf)))
      refine H.st1 (v := m) 3 (rfl) (hone) rfl (by simp) rfl (Nat.lt_of_lt_of_le (Nat.lt_succ_self _) (Nat.le_of_ble_eq_true rfl)) ?_
      intro w H
      ((conv=>whnf);repeat(first|(refine mvT ?_;conv=>whnf)|(refine mvF ?_;conv=>whnf)|(refine cT (by rfl) ?_;conv=>whnf)|(refine cF (by rfl) ?_;conv=>whnf)))
      exact ⟨(m, u, s'), ⟨rfl, rfl, rfl, rfl, rfl, rfl, trivial⟩, by rw [rdTagsF, if_pos hc]; exact hr, H⟩
    · ((conv=>whnf);repeat(first|(refine mvT ?_;conv=>whnf)|(refine mvF ?_;conv=>whnf)|(refine cT (by rfl) ?_;conv=>whnf)|(refine cF (by rfl) ?_;conv=>whnf)))
      exact ⟨(.map none, [], s35), ⟨rfl, rfl, rfl, rfl, rfl, rfl, trivial⟩, by rw [rdTagsF, if_neg (by rw [hc]; decide)], H.add fun w' _ => TagsR.nil _ _⟩
  clear H
  rintro ⟨m38, u38, s38⟩ w ⟨htg, H⟩
  dsimp only at htg H
  ((conv=>whnf);repeat(first|(refine mvT ?_;conv=>whnf)|(refine mvF ?_;conv=>whnf)|(refine cT (by rfl) ?_;conv=>whnf)|(refine cF (by rfl) ?_;conv=>whnf)))
  obtain ⟨P39, hP39⟩ : ∃ P : World → Prop, P = fun w => TGf p m38 u38 w ∧ P36 w := ⟨_, rfl⟩
  replace H : St w0 G0 p pb s38 ((p, ty, [] ++ [.int .i16 v, .int .i32 n1, a4, m38] ++ []) :: []) P39 w := by rw [hP39]; exact H
  have hpart : rdPart 9 v fx dListOffsetsResponse (l, false) = (.mk 0 [] false [numT n1, .mk 0 [] (decide (n4 ≤ 0)) l35 []] u38, s38) := by
    unfold rdPart rdPartW
    rw [rdAll_ver hr1 (by decide), rdAll_yes (df := dfT 9) ((rdField_list _ _ _ _ _ _ _ _ _ _ _).trans hr35) ⟨by decide, has_all hv⟩]
    simp only [rdAll]
    rw [htg]
  refine Does.mono (H.done hL hp1) ?_
  rintro r w ⟨rfl, H⟩
  ((conv=>whnf);repeat(first|(refine mvT ?_;conv=>whnf)|(refine mvF ?_;conv=>whnf)|(refine cT (by rfl) ?_;conv=>whnf)|(refine cF (by rfl) ?_;conv=>whnf)))
  refine RdPost.end hpart H fun hP => ?_
  rw [hP39] at hP
  obtain ⟨hf39_, hP⟩ := hP
  rw [hP36] at hP
  obtain ⟨hf36_, hP⟩ := hP
  exact QPt (QA1 (QF3 hn1) (QA1 (QF11 hl35 hf36_) (QA0))) hf39_
end Go.Proofs.YteofeendidabgaaGreatDoor.K
