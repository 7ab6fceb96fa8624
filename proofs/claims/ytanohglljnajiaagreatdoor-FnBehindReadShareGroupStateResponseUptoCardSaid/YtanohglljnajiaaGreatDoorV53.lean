/- Reading of ReadShareGroupStateResponse. -/
import Derived.Test.YtanohglljnajiaaGreatDoorE5
set_option linter.unusedVariables false
set_option linter.unusedSimpArgs false
namespace Go.Proofs.YtanohglljnajiaaGreatDoor.K
open Go
set_option maxHeartbeats 4000000
set_option maxRecDepth 100000

abbrev dReadShareGroupStateResponseTopicPartitionStateBatch : List Fd := [.mk 4 0 (-1) (-1) (-1) 0 0 [], .mk 4 0 (-1) (-1) (-1) 0 0 [], .mk 1 0 (-1) (-1) (-1) 0 0 [], .mk 2 0 (-1) (-1) (-1) 0 0 []]
abbrev dReadShareGroupStateResponseTopicPartition : List Fd := [.mk 3 0 (-1) (-1) (-1) 0 0 [], .mk 2 0 (-1) (-1) (-1) 0 0 [], .mk 8 0 (-1) 0 (-1) 0 0 [], .mk 3 0 (-1) (-1) (-1) 0 0 [], .mk 4 0 (-1) (-1) (-1) 0 0 [], .mk 11 0 (-1) (-1) (-1) 0 10 dReadShareGroupStateResponseTopicPartitionStateBatch]
abbrev dReadShareGroupStateResponseTopic : List Fd := [.mk 7 0 (-1) (-1) (-1) 0 0 [], .mk 11 0 (-1) (-1) (-1) 0 10 dReadShareGroupStateResponseTopicPartition]
abbrev dReadShareGroupStateResponse : List Fd := [.mk 11 0 (-1) (-1) (-1) 0 10 dReadShareGroupStateResponseTopic]
theorem sReadShareGroupStateResponseTopicPartitionStateBatch (w : World) : Does X.P 168 #[] w fun r w' => FdsR w' (fun k => w.heap.size ≤ k) r dReadShareGroupStateResponseTopicPartitionStateBatch ∧ Ext nob w w' := by
  have hx0 : Ext nob w w := Ext.refl _ _
  refine Does.go (X := X) (l := []) Tryz.func168 rfl (by kernel_rfl) (by kernel_rfl) _ rfl ?_
  ((conv=>whnf);repeat(first|(refine mvT ?_;conv=>whnf)|(refine mvF ?_;conv=>whnf)|(refine cT (by rfl) ?_;conv=>whnf)|(refine cF (by rfl) ?_;conv=>whnf)))
  have hxs := hx0
  intro b wb hb ho hx
  have hx0 := hx0.e0 hx
  ((conv=>whnf);repeat(first|(refine mvT ?_;conv=>whnf)|(refine mvF ?_;conv=>whnf)|(refine cT (by rfl) ?_;conv=>whnf)|(refine cF (by rfl) ?_;conv=>whnf)))
  refine ⟨?_, hx0⟩
  exact FdL.fds (cs := [[.int .i64 4, .int .i64 0, .int .i64 (-1), .int .i64 (-1), .int .i64 (-1), .int .i64 0, .int .i64 0, .slice none 0 0], [.int .i64 4, .int .i64 0, .int .i64 (-1), .int .i64 (-1), .int .i64 (-1), .int .i64 0, .int .i64 0, .slice none 0 0], [.int .i64 1, .int .i64 0, .int .i64 (-1), .int .i64 (-1), .int .i64 (-1), .int .i64 0, .int .i64 0, .slice none 0 0], [.int .i64 2, .int .i64 0, .int .i64 (-1), .int .i64 (-1), .int .i64 (-1), .int .i64 0, .int .i64 0, .slice none 0 0]])
    ⟨fdLeaf _ _ _ _ _ _ _ _ _, fdLeaf _ _ _ _ _ _ _ _ _, fdLeaf _ _ _ _ _ _ _ _ _, fdLeaf _ _ _ _ _ _ _ _ _, trivial⟩ ho rfl (by decide) (by have := hxs.size; omega)
theorem sReadShareGroupStateResponseTopicPartition (w : World) : Does X.P 120 #[] w fun r w' => FdsR w' (fun k => w.heap.size ≤ k) r dReadShareGroupStateResponseTopicPartition ∧ Ext nob w w' := by
  have hx0 : Ext nob w w := Ext.refl _ _
  refine Does.go (X := X) (l := []) Tryz.func120 rfl (by kernel_rfl) (by kernel_rfl) _ rfl ?_
  ((conv=>whnf);repeat(first|(refine mvT ?_;conv=>whnf)|(refine mvF ?_;conv=>whnf)|(refine cT (by rfl) ?_;conv=>whnf)|(refine cF (by rfl) ?_;conv=>whnf)))
  refine Does.mono (sReadShareGroupStateResponseTopicPartitionStateBatch w) ?_
  rintro v5 wv5 ⟨hv5, hc⟩
  have hv5 := hv5.mono (F' := fun k => w.heap.size ≤ k) fun k _ h => Nat.le_trans hx0.size h
  obtain ⟨lv5, gv5, _⟩ := id hv5
  obtain ⟨av5, kv5, rfl, _⟩ := gv5.view
  ((conv=>whnf);repeat(first|(refine mvT ?_;conv=>whnf)|(refine mvF ?_;conv=>whnf)|(refine cT (by rfl) ?_;conv=>whnf)|(refine cF (by rfl) ?_;conv=>whnf)))
  have hx0 := hx0.e0 hc
  have hxs := hx0
  intro b wb hb ho hx
  have hx0 := hx0.e0 hx
  ((conv=>whnf);repeat(first|(refine mvT ?_;conv=>whnf)|(refine mvF ?_;conv=>whnf)|(refine cT (by rfl) ?_;conv=>whnf)|(refine cF (by rfl) ?_;conv=>whnf)))
  refine ⟨?_, hx0⟩
  exact FdL.fds (cs := [[.int .i64 3, .int .i64 0, .int .i64 (-1), .int .i64 (-1), .int .i64 (-1), .int .i64 0, .int .i64 0, .slice none 0 0], [.int .i64 2, .int .i64 0, .int .i64 (-1), .int .i64 (-1), .int .i64 (-1), .int .i64 0, .int .i64 0, .slice none 0 0], [.int .i64 8, .int .i64 0, .int .i64 (-1), .int .i64 0, .int .i64 (-1), .int .i64 0, .int .i64 0, .slice none 0 0], [.int .i64 3, .int .i64 0, .int .i64 (-1), .int .i64 (-1), .int .i64 (-1), .int .i64 0, .int .i64 0, .slice none 0 0], [.int .i64 4, .int .i64 0, .int .i64 (-1), .int .i64 (-1), .int .i64 (-1), .int .i64 0, .int .i64 0, .slice none 0 0], [.int .i64 11, .int .i64 0, .int .i64 (-1), .int .i64 (-1), .int .i64 (-1), .int .i64 0, .int .i64 10, .slice av5 lv5.length kv5]])
    ⟨fdLeaf _ _ _ _ _ _ _ _ _, fdLeaf _ _ _ _ _ _ _ _ _, fdLeaf _ _ _ _ _ _ _ _ _, fdLeaf _ _ _ _ _ _ _ _ _, fdLeaf _ _ _ _ _ _ _ _ _, FdC.of (hv5.e0 hx) _ _ _ _ _ _ _, trivial⟩ ho rfl (by decide) (by have := hxs.size; omega)
theorem sReadShareGroupStateResponseTopic (w : World) : Does X.P 65 #[] w fun r w' => FdsR w' (fun k => w.heap.size ≤ k) r dReadShareGroupStateResponseTopic ∧ Ext nob w w' := by
  have hx0 : Ext nob w w := Ext.refl _ _
  refine Does.go (X := X) (l := []) Tryz.func65 rfl (by kernel_rfl) (by kernel_rfl) _ rfl ?_
  ((conv=>whnf);repeat(first|(refine mvT ?_;conv=>whnf)|(refine mvF ?_;conv=>whnf)|(refine cT (by rfl) ?_;conv=>whnf)|(refine cF (by rfl) ?_;conv=>whnf)))
  refine Does.mono (sReadShareGroupStateResponseTopicPartition w) ?_
  rintro v1 wv1 ⟨hv1, hc⟩
  have hv1 := hv1.mono (F' := fun k => w.heap.size ≤ k) fun k _ h => Nat.le_trans hx0.size h
  obtain ⟨lv1, gv1, _⟩ := id hv1
  obtain ⟨av1, kv1, rfl, _⟩ := gv1.view
  ((conv=>whnf);repeat(first|(refine mvT ?_;conv=>whnf)|(refine mvF ?_;conv=>whnf)|(refine cT (by rfl) ?_;conv=>whnf)|(refine cF (by rfl) ?_;conv=>whnf)))
  have hx0 := hx0.e0 hc
  have hxs := hx0
  intro b wb hb ho hx
  have hx0 := hx0.e0 hx
  ((conv=>whnf);repeat(first|(refine mvT ?_;conv=>whnf)|(refine mvF ?_;conv=>whnf)|(refine cT (by rfl) ?_;conv=>whnf)|(refine cF (by rfl) ?_;conv=>whnf)))
  refine ⟨?_, hx0⟩
  exact FdL.fds (cs := [[.int .i64 7, .int .i64 0, .int .i64 (-1), .int .i64 (-1), .int .i64 (-1), .int .i64 0, .int .i64 0, .slice none 0 0], [.int .i64 11, .int .i64 0, .int .i64 (-1), .int .i64 (-1), .int .i64 (-1), .int .i64 0, .int .i64 10, .slice av1 lv1.length kv1]])
    ⟨fdLeaf _ _ _ _ _ _ _ _ _, FdC.of (hv1.e0 hx) _ _ _ _ _ _ _, trivial⟩ ho rfl (by decide) (by have := hxs.size; omega)
theorem sReadShareGroupStateResponse (w : World) : Does X.P 27 #[] w fun r w' => Msg w' (fun k => w.heap.size ≤ k) r dReadShareGroupStateResponse 0 ∧ Ext nob w w' := by
  have hx0 : Ext nob w w := Ext.refl _ _
  refine Does.go (X := X) (l := []) Tryz.func27 rfl (by kernel_rfl) (by kernel_rfl) _ rfl ?_
  ((conv=>whnf);repeat(first|(refine mvT ?_;conv=>whnf)|(refine mvF ?_;conv=>whnf)|(refine cT (by rfl) ?_;conv=>whnf)|(refine cF (by rfl) ?_;conv=>whnf)))
  intro b w1 hb ho hx
  have hx0 := hx0.e0 hx
  have ho := ho
  ((conv=>whnf);repeat(first|(refine mvT ?_;conv=>whnf)|(refine mvF ?_;conv=>whnf)|(refine cT (by rfl) ?_;conv=>whnf)|(refine cF (by rfl) ?_;conv=>whnf)))
  refine Does.mono (sReadShareGroupStateResponseTopic w1) ?_
  rintro v0 wv0 ⟨hv0, hc⟩
  have hv0 := hv0.mono (F' := fun k => w.heap.size ≤ k ∧ b < k) fun k _ h => ⟨Nat.le_trans hx0.size h, Nat.lt_of_lt_of_le ho.lt h⟩
  obtain ⟨lv0, gv0, _⟩ := id hv0
  obtain ⟨av0, kv0, rfl, _⟩ := gv0.view
  ((conv=>whnf);repeat(first|(refine mvT ?_;conv=>whnf)|(refine mvF ?_;conv=>whnf)|(refine cT (by rfl) ?_;conv=>whnf)|(refine cF (by rfl) ?_;conv=>whnf)))
  have hx0 := hx0.e0 hc
  have ho := ho.e0 hc
  have hxs := hx0
  intro b2 w2 hb2 ho2 hx2
  ((conv=>whnf);repeat(first|(refine mvT ?_;conv=>whnf)|(refine mvF ?_;conv=>whnf)|(refine cT (by rfl) ?_;conv=>whnf)|(refine cF (by rfl) ?_;conv=>whnf)))
  have hx0 := hx0.e0 hx2
  refine ⟨_, _, ho.e0 hx2, rfl, rfl, rfl, ?_⟩
  intro w3 ho3 hx3
  have hx03 := hx0.st hx3 hb
  ((conv=>whnf);repeat(first|(refine mvT ?_;conv=>whnf)|(refine mvF ?_;conv=>whnf)|(refine cT (by rfl) ?_;conv=>whnf)|(refine cF (by rfl) ?_;conv=>whnf)))
  refine ⟨_, rfl, ho3.cells, ?_⟩
  refine ⟨⟨_, rfl, ?_⟩, hx03⟩
  have ho2 := ho2.ext hx3 (by have := ho.lt; omega)
  have hs := hx0.size
  have hs2 : w.heap.size ≤ b2 := Nat.le_trans hxs.size hb2
  exact FdL.fds (cs := [[.int .i64 11, .int .i64 0, .int .i64 (-1), .int .i64 (-1), .int .i64 (-1), .int .i64 0, .int .i64 10, .slice av0 lv0.length kv0]])
    ⟨FdC.of (FdsR.mono (FdsR.ext (FdsR.e0 hv0 hx2) hx3 fun k _ h1 h2 => by omega) fun k _ h => h.1) _ _ _ _ _ _ _, trivial⟩ ho2 rfl (by decide) (by omega)
theorem dfReadShareGroupStateResponseTopicPartitionStateBatch {w : World} {q o : Nat} {T : TypeId} {pre cur post : List Value} (ho : Own w q T (pre ++ cur ++ post)) (hp : pre.length = o) (hl : cur.length = 5) :
    Does X.P 171 #[.pointer (some ⟨q, o, none⟩)] w fun r w' => Own w' q T (pre ++ cur ++ post) ∧ Ext (fun k => k = q) w w' := by
  have hx : Ext (fun k => k = q) w w := Ext.refl _ _
  refine Does.go (X := X) (l := [_]) Tryz.func171 rfl (by kernel_rfl) (by kernel_rfl) _ rfl ?_
  ((conv=>whnf);repeat(first|(refine mvT ?_;conv=>whnf)|(refine mvF ?_;conv=>whnf)|(refine cT (by rfl) ?_;conv=>whnf)|(refine cF (by rfl) ?_;conv=>whnf)))
  exact ⟨ho, hx⟩
theorem dfReadShareGroupStateResponseTopicPartition {w : World} {q o : Nat} {T : TypeId} {pre cur post : List Value} (ho : Own w q T (pre ++ cur ++ post)) (hp : pre.length = o) (hl : cur.length = 7) :
    Does X.P 170 #[.pointer (some ⟨q, o, none⟩)] w fun r w' => Own w' q T (pre ++ cur ++ post) ∧ Ext (fun k => k = q) w w' := by
  have hx : Ext (fun k => k = q) w w := Ext.refl _ _
  refine Does.go (X := X) (l := [_]) Tryz.func170 rfl (by kernel_rfl) (by kernel_rfl) _ rfl ?_
  ((conv=>whnf);repeat(first|(refine mvT ?_;conv=>whnf)|(refine mvF ?_;conv=>whnf)|(refine cT (by rfl) ?_;conv=>whnf)|(refine cF (by rfl) ?_;conv=>whnf)))
  exact ⟨ho, hx⟩
theorem dfReadShareGroupStateResponseTopic {w : World} {q o : Nat} {T : TypeId} {pre cur post : List Value} (ho : Own w q T (pre ++ cur ++ post)) (hp : pre.length = o) (hl : cur.length = 18) :
    Does X.P 169 #[.pointer (some ⟨q, o, none⟩)] w fun r w' => Own w' q T (pre ++ cur ++ post) ∧ Ext (fun k => k = q) w w' := by
  have hx : Ext (fun k => k = q) w w := Ext.refl _ _
  refine Does.go (X := X) (l := [_]) Tryz.func169 rfl (by kernel_rfl) (by kernel_rfl) _ rfl ?_
  ((conv=>whnf);repeat(first|(refine mvT ?_;conv=>whnf)|(refine mvF ?_;conv=>whnf)|(refine cT (by rfl) ?_;conv=>whnf)|(refine cF (by rfl) ?_;conv=>whnf)))
  exact ⟨ho, hx⟩
theorem dfReadShareGroupStateResponse {w : World} {q o : Nat} {T : TypeId} {pre cur post : List Value} (ho : Own w q T (pre ++ cur ++ post)) (hp : pre.length = o) (hl : cur.length = 3) :
    Does X.P 119 #[.pointer (some ⟨q, o, none⟩)] w fun r w' => Own w' q T (pre ++ cur ++ post) ∧ Ext (fun k => k = q) w w' := by
  have hx : Ext (fun k => k = q) w w := Ext.refl _ _
  refine Does.go (X := X) (l := [_]) Tryz.func119 rfl (by kernel_rfl) (by kernel_rfl) _ rfl ?_
  ((conv=>whnf);repeat(first|(refine mvT ?_;conv=>whnf)|(refine mvF ?_;conv=>whnf)|(refine cT (by rfl) ?_;conv=>whnf)|(refine cF (by rfl) ?_;conv=>whnf)))
  exact ⟨ho, hx⟩
theorem readReadShareGroupStateResponse {w0 : World} {F : Nat → Prop} {p : Nat} {ty : TypeId} {v : Int} {x ev : Value} {l : List UInt8} (hL : Laid w0 ev) (hp : Own w0 p ty [.int .i16 v, .slice none 0 0, .map none]) (hx : Bytes w0 F x l) (hF : ∀ k, F k → k ≠ p) (hv : 0 ≤ v) (hp1 : p ≠ errG) :
    Does X.P 121 #[.pointer (some ⟨p, 0, none⟩), x, .bool false] w0 fun r w' => RdPost w0 p ty v (decide (v ≥ 0)) true dReadShareGroupStateResponse ev l r w' := by
  have hpl := hp.lt
  obtain ⟨fx, hfx⟩ : ∃ fx, fx = decide (v ≥ 0) := ⟨_, rfl⟩
  rw [← hfx]
  obtain ⟨G0, hG0, hx⟩ : ∃ G0 : Nat → Prop, (∀ k, G0 k → k < w0.heap.size ∧ k ≠ p) ∧ Bytes w0 G0 x l := ⟨fun k => F k ∧ k < w0.heap.size, fun k h => ⟨h.2, hF k h.1⟩, Sl.mono hx fun k hk h => ⟨h, hk⟩⟩
  obtain ⟨a0, c0, rfl, _⟩ := hx.view
  refine Does.go (X := X) (l := [_, _, _]) Tryz.func121 rfl (by kernel_rfl) (by kernel_rfl) _ rfl ?_
  ((conv=>whnf);repeat(first|(refine mvT ?_;conv=>whnf)|(refine mvF ?_;conv=>whnf)|(refine cT (by rfl) ?_;conv=>whnf)|(refine cF (by rfl) ?_;conv=>whnf)))
  refine Does.mono (dfReadShareGroupStateResponse (pre := []) (cur := [.int .i16 v, .slice none 0 0, .map none]) (post := []) (by simpa using hp) rfl rfl) ?_
  rintro rd wd ⟨hpd, hxd⟩
  ((conv=>whnf);repeat(first|(refine mvT ?_;conv=>whnf)|(refine mvF ?_;conv=>whnf)|(refine cT (by rfl) ?_;conv=>whnf)|(refine cF (by rfl) ?_;conv=>whnf)))
  intro pb w1 hpb hb hx1
  ((conv=>whnf);repeat(first|(refine mvT ?_;conv=>whnf)|(refine mvF ?_;conv=>whnf)|(refine cT (by rfl) ?_;conv=>whnf)|(refine cF (by rfl) ?_;conv=>whnf)))
  refine st_all [.slice a0 l.length c0, .bool false] hb rfl rfl rfl ?_
  intro w hb hx2
  ((conv=>whnf);repeat(first|(refine mvT ?_;conv=>whnf)|(refine mvF ?_;conv=>whnf)|(refine cT (by rfl) ?_;conv=>whnf)|(refine cF (by rfl) ?_;conv=>whnf)))
  have hsd := hxd.size
  have hwp : w0.heap.size ≤ pb := by omega
  have he1 : Ext nob wd w := hx1.trans hx2 fun k hk h => by omega
  have hpw : Own w p ty [.int .i16 v, .slice none 0 0, .map none] := by have := hpd.e0 he1; simpa using this
  have he := hxd.tr0 he1
  have H := St.init hpw hb (hx.ext he fun k _ h => (hG0 k h).2) hG0 he hpl hwp
  clear hpd hxd hx1 hx2 hb hpw he1 hp
  refine ldS (H.cell (o := 0) rfl (k := 0) rfl) ?_;((conv=>whnf);repeat(first|(refine mvT ?_;conv=>whnf)|(refine mvF ?_;conv=>whnf)|(refine cT (by rfl) ?_;conv=>whnf)|(refine cF (by rfl) ?_;conv=>whnf)))
  rw [← hfx]
  (refine mvB ?_;((conv=>whnf);repeat(first|(refine mvT ?_;conv=>whnf)|(refine mvF ?_;conv=>whnf)|(refine cT (by rfl) ?_;conv=>whnf)|(refine cF (by rfl) ?_;conv=>whnf))))
  have hup0 : tailBad 9 v fx dReadShareGroupStateResponse (l, false) = true → (rdPart 9 v fx dReadShareGroupStateResponse (l, false)).2.2 = true := id
  refine ldS (H.cell (o := 0) rfl (k := 1) rfl) ?_;((conv=>whnf);repeat(first|(refine mvT ?_;conv=>whnf)|(refine mvF ?_;conv=>whnf)|(refine cT (by rfl) ?_;conv=>whnf)|(refine cF (by rfl) ?_;conv=>whnf)))
  (refine mvB ?_;((conv=>whnf);repeat(first|(refine mvT ?_;conv=>whnf)|(refine mvF ?_;conv=>whnf)|(refine cT (by rfl) ?_;conv=>whnf)|(refine cF (by rfl) ?_;conv=>whnf))))
  refine VC.cutE (fun q : Int × Rd => [(13, .int .i32 q.1), (12, .slice none 0 0), (0, .pointer (some ⟨p, 0, none⟩)), (2, .bool false), (7, .pointer (some ⟨pb, 0, none⟩)), (8, .int .i16 v), (9, .bool fx), (10, .pointer (some ⟨p, 0, none⟩))]) (fun q w' => (-2147483648 ≤ q.1 ∧ q.1 ≤ 2147483647) ∧ rdLn fx (l, false) = q ∧ St w0 G0 p pb q.2 ((p, ty, [] ++ [.int .i16 v, .slice none 0 0, .map none] ++ []) :: []) (fun _ => True) w') ?_ ?_
  · refine cI (by rfl) (fun hc=>?_) (fun hc=>?_)
    · ((conv=>whnf);repeat(first|(refine mvT ?_;conv=>whnf)|(refine mvF ?_;conv=>whnf)|(refine cT (by rfl) ?_;conv=>whnf)|(refine cF (by rfl) ?_;conv=>whnf)))
      refine Does.mono H.lnc ?_
      rintro r w ⟨n, s', rfl, hn, hr, H⟩
      ((conv=>whnf);repeat(first|(refine mvT ?_;conv=>whnf)|(refine mvF ?_;conv=>whnf)|(refine cT (by rfl) ?_;conv=>whnf)|(refine cF (by rfl) ?_;conv=>whnf)))
      exact ⟨(n, s'), ⟨rfl, rfl, rfl, rfl, rfl, rfl, rfl, rfl, trivial⟩, hn, by rw [hc]; exact hr, H⟩
    · ((conv=>whnf);repeat(first|(refine mvT ?_;conv=>whnf)|(refine mvF ?_;conv=>whnf)|(refine cT (by rfl) ?_;conv=>whnf)|(refine cF (by rfl) ?_;conv=>whnf)))
      refine Does.mono H.lnp ?_
      rintro r w ⟨n, s', rfl, hn, hr, H⟩
      ((conv=>whnf);repeat(first|(refine mvT ?_;conv=>whnf)|(refine mvF ?_;conv=>whnf)|(refine cT (by rfl) ?_;conv=>whnf)|(refine cF (by rfl) ?_;conv=>whnf)))
      exact ⟨(n, s'), ⟨rfl, rfl, rfl, rfl, rfl, rfl, rfl, rfl, trivial⟩, hn, by rw [hc]; exact hr, H⟩
  clear H
  rintro ⟨n1, s1⟩ w ⟨hn1, hln1, H⟩
  dsimp only at hn1 hln1 H
  ((conv=>whnf);repeat(first|(refine mvT ?_;conv=>whnf)|(refine mvF ?_;conv=>whnf)|(refine cT (by rfl) ?_;conv=>whnf)|(refine cF (by rfl) ?_;conv=>whnf)))
  refine Does.mono H.ok ?_
  rintro r w ⟨rfl, H⟩
  ((conv=>whnf);repeat(first|(refine mvT ?_;conv=>whnf)|(refine mvF ?_;conv=>whnf)|(refine cT (by rfl) ?_;conv=>whnf)|(refine cF (by rfl) ?_;conv=>whnf)))
  refine cI (by rfl) (fun hbd=>?_) (fun hbd=>?_)
  · have hbd : s1.2 = true := by simpa using hbd
    ((conv=>whnf);repeat(first|(refine mvT ?_;conv=>whnf)|(refine mvF ?_;conv=>whnf)|(refine cT (by rfl) ?_;conv=>whnf)|(refine cF (by rfl) ?_;conv=>whnf)))
    refine Does.mono (H.done hL hp1) ?_
    rintro r w ⟨rfl, H⟩
    ((conv=>whnf);repeat(first|(refine mvT ?_;conv=>whnf)|(refine mvF ?_;conv=>whnf)|(refine cT (by rfl) ?_;conv=>whnf)|(refine cF (by rfl) ?_;conv=>whnf)))
    refine RdPost.early hbd (hup0 (?_)) H
    rw [tail_len ⟨by decide, has_all hv⟩ hln1 hbd]
  have hbd : s1.2 = false := by simpa using hbd
  clear hbd
  ((conv=>whnf);repeat(first|(refine mvT ?_;conv=>whnf)|(refine mvF ?_;conv=>whnf)|(refine cT (by rfl) ?_;conv=>whnf)|(refine cF (by rfl) ?_;conv=>whnf)))
  refine cut_zero ?_
  ((conv=>whnf);repeat(first|(refine mvT ?_;conv=>whnf)|(refine mvF ?_;conv=>whnf)|(refine cT (by rfl) ?_;conv=>whnf)|(refine cF (by rfl) ?_;conv=>whnf)))
  refine VC.cutE (fun a : Value => [(13, .int .i32 n1), (12, a), (0, .pointer (some ⟨p, 0, none⟩)), (2, .bool false), (7, .pointer (some ⟨pb, 0, none⟩)), (8, .int .i16 v), (9, .bool fx), (10, .pointer (some ⟨p, 0, none⟩))]) (fun a w' => ListI w0 G0 p pb 142 [.int .u8 0, .int .u8 0, .int .u8 0, .int .u8 0, .int .u8 0, .int .u8 0, .int .u8 0, .int .u8 0, .int .u8 0, .int .u8 0, .int .u8 0, .int .u8 0, .int .u8 0, .int .u8 0, .int .u8 0, .int .u8 0, .slice none 0 0, .map none] (elR 8 v fx 10 dReadShareGroupStateResponseTopic) (elQ true 8 10 dReadShareGroupStateResponseTopic) s1 n1 (decide (n1 ≤ 0)) ((p, ty, [] ++ [.int .i16 v, .slice none 0 0, .map none] ++ []) :: []) (fun _ => True) a 0 w') ?_ ?_
  · refine cI (by rfl) (fun hps=>?_) (fun hps=>?_)
    · have hps : 0 < n1 := by have := of_decide_eq_true hps; omega
      ((conv=>whnf);repeat(first|(refine mvT ?_;conv=>whnf)|(refine mvF ?_;conv=>whnf)|(refine cT (by rfl) ?_;conv=>whnf)|(refine cF (by rfl) ?_;conv=>whnf)))
      refine H.grow hps hn1.2 (by decide) rfl rfl (by decide) ?_
      intro g cap post w hc1 hc2 H
      ((conv=>whnf);repeat(first|(refine mvT ?_;conv=>whnf)|(refine mvF ?_;conv=>whnf)|(refine cT (by rfl) ?_;conv=>whnf)|(refine cF (by rfl) ?_;conv=>whnf)))
      exact ⟨_, ⟨rfl, rfl, rfl, rfl, rfl, rfl, rfl, rfl, trivial⟩, ListI.some hps (decide_eq_false (by omega)) hc1 hc2 H⟩
    · have hps : n1 ≤ 0 := by have := of_decide_eq_false hps; omega
      ((conv=>whnf);repeat(first|(refine mvT ?_;conv=>whnf)|(refine mvF ?_;conv=>whnf)|(refine cT (by rfl) ?_;conv=>whnf)|(refine cF (by rfl) ?_;conv=>whnf)))
      exact ⟨_, ⟨rfl, rfl, rfl, rfl, rfl, rfl, rfl, rfl, trivial⟩, ListI.none hps (decide_eq_true hps) H⟩
  clear H
  rintro a1 w H
  ((conv=>whnf);repeat(first|(refine mvT ?_;conv=>whnf)|(refine mvF ?_;conv=>whnf)|(refine cT (by rfl) ?_;conv=>whnf)|(refine cF (by rfl) ?_;conv=>whnf)))
  have hpL1 : inL ((p, ty, [] ++ [.int .i16 v, .slice none 0 0, .map none] ++ []) :: []) p := inL.head _ _
  refine VL.loop (fun i : Nat => [(13, .int .i32 n1), (12, a1), (14, .int .i32 i), (0, .pointer (some ⟨p, 0, none⟩)), (2, .bool false), (7, .pointer (some ⟨pb, 0, none⟩)), (8, .int .i16 v), (9, .bool fx), (10, .pointer (some ⟨p, 0, none⟩))]) (fun i w' => i ≤ 2147483647 ∧ ListI w0 G0 p pb 142 [.int .u8 0, .int .u8 0, .int .u8 0, .int .u8 0, .int .u8 0, .int .u8 0, .int .u8 0, .int .u8 0, .int .u8 0, .int .u8 0, .int .u8 0, .int .u8 0, .int .u8 0, .int .u8 0, .int .u8 0, .int .u8 0, .slice none 0 0, .map none] (elR 8 v fx 10 dReadShareGroupStateResponseTopic) (elQ true 8 10 dReadShareGroupStateResponseTopic) s1 n1 (decide (n1 ≤ 0)) ((p, ty, [] ++ [.int .i16 v, .slice none 0 0, .map none] ++ []) :: []) (fun _ => True) a1 i w') (fun i => n1.toNat - i) 0 ⟨rfl, rfl, rfl, rfl, rfl, rfl, rfl, rfl, rfl, trivial⟩ ⟨by decide, H⟩ ?_
  clear H
  rintro i1 w ⟨hi1, H⟩
  ((conv=>whnf);repeat(first|(refine mvT ?_;conv=>whnf)|(refine mvF ?_;conv=>whnf)|(refine cT (by rfl) ?_;conv=>whnf)|(refine cF (by rfl) ?_;conv=>whnf)))
  refine cI (by rfl) (fun h9=>?_) (fun h9=>?_)
  · have hlt1 : (i1 : Int) < n1 := of_decide_eq_true h9
    obtain ⟨g1, cap1, post1, rfl, hgo1, HI⟩ := H.go hlt1
    obtain ⟨es1, ts1, si1, hes1, hez1, hrn1, hts1, hlen1, H⟩ := HI.open hgo1.2.2.2.2
    obtain ⟨L1, hL1⟩ : ∃ L : List Ob, L = ((p, ty, [] ++ [.int .i16 v, .slice none 0 0, .map none] ++ []) :: []) := ⟨_, rfl⟩
    rw [← hL1] at H hpL1
    obtain ⟨P1, hP1⟩ : ∃ P : World → Prop, P = fun w => (∀ (j : Nat) (c : List Value) (y : T), es1[j]? = some c → ts1[j]? = some y → elQ true 8 10 dReadShareGroupStateResponseTopic ⟨w, fun k => k ≠ p⟩ c y) ∧ (fun _ => True) w := ⟨_, rfl⟩
    rw [← hP1] at H
    replace H : St w0 G0 p pb si1 ((g1, 142, es1.flatten ++ [.int .u8 0, .int .u8 0, .int .u8 0, .int .u8 0, .int .u8 0, .int .u8 0, .int .u8 0, .int .u8 0, .int .u8 0, .int .u8 0, .int .u8 0, .int .u8 0, .int .u8 0, .int .u8 0, .int .u8 0, .int .u8 0, .slice none 0 0, .map none] ++ ((List.replicate (n1.toNat - (i1 + 1)) [.int .u8 0, .int .u8 0, .int .u8 0, .int .u8 0, .int .u8 0, .int .u8 0, .int .u8 0, .int .u8 0, .int .u8 0, .int .u8 0, .int .u8 0, .int .u8 0, .int .u8 0, .int .u8 0, .int .u8 0, .int .u8 0, .slice none 0 0, .map none]).flatten ++ post1)) :: L1) P1 w := H
    ((conv=>whnf);repeat(first|(refine mvT ?_;conv=>whnf)|(refine mvF ?_;conv=>whnf)|(refine cT (by rfl) ?_;conv=>whnf)|(refine cF (by rfl) ?_;conv=>whnf)))
    refine ⟨g1, 0, rfl, ⟨by omega, by omega⟩, ?_⟩
    ((conv=>whnf);repeat(first|(refine mvT ?_;conv=>whnf)|(refine mvF ?_;conv=>whnf)|(refine cT (by rfl) ?_;conv=>whnf)|(refine cF (by rfl) ?_;conv=>whnf)))
    refine Does.mono (dfReadShareGroupStateResponseTopic (pre := es1.flatten) (cur := [.int .u8 0, .int .u8 0, .int .u8 0, .int .u8 0, .int .u8 0, .int .u8 0, .int .u8 0, .int .u8 0, .int .u8 0, .int .u8 0, .int .u8 0, .int .u8 0, .int .u8 0, .int .u8 0, .int .u8 0, .int .u8 0, .slice none 0 0, .map none]) (post := ((List.replicate (n1.toNat - (i1 + 1)) [.int .u8 0, .int .u8 0, .int .u8 0, .int .u8 0, .int .u8 0, .int .u8 0, .int .u8 0, .int .u8 0, .int .u8 0, .int .u8 0, .int .u8 0, .int .u8 0, .int .u8 0, .int .u8 0, .int .u8 0, .int .u8 0, .slice none 0 0, .map none]).flatten ++ post1)) H.head (by first | (rw [hlen1]; simp; done) | (simp [hlen1]; done) | (simp [hlen1]; omega)) rfl) ?_
    rintro rd w2 ⟨hdf, hxd⟩
    replace H := H.put hdf hxd
    clear hdf hxd
    replace H : St w0 G0 p pb si1 ((g1, 142, es1.flatten ++ [.int .u8 0, .int .u8 0, .int .u8 0, .int .u8 0, .int .u8 0, .int .u8 0, .int .u8 0, .int .u8 0, .int .u8 0, .int .u8 0, .int .u8 0, .int .u8 0, .int .u8 0, .int .u8 0, .int .u8 0, .int .u8 0, .slice none 0 0, .map none] ++ ((List.replicate (n1.toNat - (i1 + 1)) [.int .u8 0, .int .u8 0, .int .u8 0, .int .u8 0, .int .u8 0, .int .u8 0, .int .u8 0, .int .u8 0, .int .u8 0, .int .u8 0, .int .u8 0, .int .u8 0, .int .u8 0, .int .u8 0, .int .u8 0, .int .u8 0, .slice none 0 0, .map none]).flatten ++ post1)) :: L1) P1 w2 := H
    ((conv=>whnf);repeat(first|(refine mvT ?_;conv=>whnf)|(refine mvF ?_;conv=>whnf)|(refine cT (by rfl) ?_;conv=>whnf)|(refine cF (by rfl) ?_;conv=>whnf)))
    have hup1 : tailBad 8 v fx dReadShareGroupStateResponseTopic si1 = true → (rdPart 9 v fx dReadShareGroupStateResponse (l, false)).2.2 = true := by
      intro hb
      refine hup0 ?_
      rw [tail_el ⟨by decide, has_all hv⟩ hln1 hgo1.2.2.2.2 hrn1 hb]
    refine Does.mono H.uuid ?_
    rintro r w ⟨u2, s2, rfl, hu2, hr2, H⟩
    ((conv=>whnf);repeat(first|(refine mvT ?_;conv=>whnf)|(refine mvF ?_;conv=>whnf)|(refine cT (by rfl) ?_;conv=>whnf)|(refine cF (by rfl) ?_;conv=>whnf)))
    obtain ⟨u2_0, u2_1, u2_2, u2_3, u2_4, u2_5, u2_6, u2_7, u2_8, u2_9, u2_10, u2_11, u2_12, u2_13, u2_14, u2_15, rfl⟩ : ∃ u2_0 u2_1 u2_2 u2_3 u2_4 u2_5 u2_6 u2_7 u2_8 u2_9 u2_10 u2_11 u2_12 u2_13 u2_14 u2_15, u2 = [u2_0, u2_1, u2_2, u2_3, u2_4, u2_5, u2_6, u2_7, u2_8, u2_9, u2_10, u2_11, u2_12, u2_13, u2_14, u2_15] := by
      match u2, hu2 with
      | [u2_0, u2_1, u2_2, u2_3, u2_4, u2_5, u2_6, u2_7, u2_8, u2_9, u2_10, u2_11, u2_12, u2_13, u2_14, u2_15], _ => exact ⟨u2_0, u2_1, u2_2, u2_3, u2_4, u2_5, u2_6, u2_7, u2_8, u2_9, u2_10, u2_11, u2_12, u2_13, u2_14, u2_15, rfl⟩
    intro bu wu hbu hou hxu
    ((conv=>whnf);repeat(first|(refine mvT ?_;conv=>whnf)|(refine mvF ?_;conv=>whnf)|(refine cT (by rfl) ?_;conv=>whnf)|(refine cF (by rfl) ?_;conv=>whnf)))
    refine st_all [bcell u2_0, bcell u2_1, bcell u2_2, bcell u2_3, bcell u2_4, bcell u2_5, bcell u2_6, bcell u2_7, bcell u2_8, bcell u2_9, bcell u2_10, bcell u2_11, bcell u2_12, bcell u2_13, bcell u2_14, bcell u2_15] hou rfl rfl rfl ?_
    intro w2 hou hxs
    ((conv=>whnf);repeat(first|(refine mvT ?_;conv=>whnf)|(refine mvF ?_;conv=>whnf)|(refine cT (by rfl) ?_;conv=>whnf)|(refine cF (by rfl) ?_;conv=>whnf)))
    replace H := H.e0 (hxu.trans hxs (M := nob) fun k hk e => by omega)
    refine ⟨_, rfl, hou.cells, ?_⟩
    ((conv=>whnf);repeat(first|(refine mvT ?_;conv=>whnf)|(refine mvF ?_;conv=>whnf)|(refine cT (by rfl) ?_;conv=>whnf)|(refine cF (by rfl) ?_;conv=>whnf)))
    refine H.stn [bcell u2_0, bcell u2_1, bcell u2_2, bcell u2_3, bcell u2_4, bcell u2_5, bcell u2_6, bcell u2_7, bcell u2_8, bcell u2_9, bcell u2_10, bcell u2_11, bcell u2_12, bcell u2_13, bcell u2_14, bcell u2_15] 0 rfl rfl rfl (by first | omega | (simp [hlen1]; done) | (simp [hlen1]; omega)) rfl (Nat.le_of_ble_eq_true rfl) ?_
    intro w H
    ((conv=>whnf);repeat(first|(refine mvT ?_;conv=>whnf)|(refine mvF ?_;conv=>whnf)|(refine cT (by rfl) ?_;conv=>whnf)|(refine cF (by rfl) ?_;conv=>whnf)))
    replace H : St w0 G0 p pb s2 ((g1, 142, es1.flatten ++ [bcell u2_0, bcell u2_1, bcell u2_2, bcell u2_3, bcell u2_4, bcell u2_5, bcell u2_6, bcell u2_7, bcell u2_8, bcell u2_9, bcell u2_10, bcell u2_11, bcell u2_12, bcell u2_13, bcell u2_14, bcell u2_15, .slice none 0 0, .map none] ++ ((List.replicate (n1.toNat - (i1 + 1)) [.int .u8 0, .int .u8 0, .int .u8 0, .int .u8 0, .int .u8 0, .int .u8 0, .int .u8 0, .int .u8 0, .int .u8 0, .int .u8 0, .int .u8 0, .int .u8 0, .int .u8 0, .int .u8 0, .int .u8 0, .int .u8 0, .slice none 0 0, .map none]).flatten ++ post1)) :: L1) P1 w := H
    refine ⟨_, ld (H.cell rfl (k := 16) rfl) (by first | omega | (simp [hlen1]; done) | (simp [hlen1]; omega)), ?_⟩; ((conv=>whnf);repeat(first|(refine mvT ?_;conv=>whnf)|(refine mvF ?_;conv=>whnf)|(refine cT (by rfl) ?_;conv=>whnf)|(refine cF (by rfl) ?_;conv=>whnf)))
    (refine mvB ?_;((conv=>whnf);repeat(first|(refine mvT ?_;conv=>whnf)|(refine mvF ?_;conv=>whnf)|(refine cT (by rfl) ?_;conv=>whnf)|(refine cF (by rfl) ?_;conv=>whnf))))
    refine VC.cutE (fun q : Int × Rd => [(20, .int .i32 q.1), (19, .slice none 0 0), (0, .pointer (some ⟨p, 0, none⟩)), (2, .bool false), (7, .pointer (some ⟨pb, 0, none⟩)), (8, .int .i16 v), (9, .bool fx), (10, .pointer (some ⟨p, 0, none⟩)), (13, .int .i32 n1), (12, .slice (some ⟨g1, 0, none⟩) n1.toNat cap1), (14, .int .i32 i1), (15, .pointer (some ⟨g1, 0 + (i1 : Int).toNat * 18, none⟩)), (16, .pointer (some ⟨g1, 0 + (i1 : Int).toNat * 18, none⟩))]) (fun q w' => (-2147483648 ≤ q.1 ∧ q.1 ≤ 2147483647) ∧ rdLn fx s2 = q ∧ St w0 G0 p pb q.2 ((g1, 142, es1.flatten ++ [bcell u2_0, bcell u2_1, bcell u2_2, bcell u2_3, bcell u2_4, bcell u2_5, bcell u2_6, bcell u2_7, bcell u2_8, bcell u2_9, bcell u2_10, bcell u2_11, bcell u2_12, bcell u2_13, bcell u2_14, bcell u2_15, .slice none 0 0, .map none] ++ ((List.replicate (n1.toNat - (i1 + 1)) [.int .u8 0, .int .u8 0, .int .u8 0, .int .u8 0, .int .u8 0, .int .u8 0, .int .u8 0, .int .u8 0, .int .u8 0, .int .u8 0, .int .u8 0, .int .u8 0, .int .u8 0, .int .u8 0, .int .u8 0, .int .u8 0, .slice none 0 0, .map none]).flatten ++ post1)) :: L1) P1 w') ?_ ?_
    · refine cI (by rfl) (fun hc=>?_) (fun hc=>?_)
      · ((conv=>whnf);repeat(first|(refine mvT ?_;conv=>whnf)|(refine mvF ?_;conv=>whnf)|(refine cT (by rfl) ?_;conv=>whnf)|(refine cF (by rfl) ?_;conv=>whnf)))
        refine Does.mono H.lnc ?_
        rintro r w ⟨n, s', rfl, hn, hr, H⟩
        ((conv=>whnf);repeat(first|(refine mvT ?_;conv=>whnf)|(refine mvF ?_;conv=>whnf)|(refine cT (by rfl) ?_;conv=>whnf)|(refine cF (by rfl) ?_;conv=>whnf)))
        exact ⟨(n, s'), ⟨rfl, rfl, rfl, rfl, rfl, rfl, rfl, rfl, rfl, rfl, rfl, rfl, rfl, trivial⟩, hn, by rw [hc]; exact hr, H⟩
      · ((conv=>whnf);repeat(first|(refine mvT ?_;conv=>whnf)|(refine mvF ?_;conv=>whnf)|(refine cT (by rfl) ?_;conv=>whnf)|(refine cF (by rfl) ?_;conv=>whnf)))
        refine Does.mono H.lnp ?_
        rintro r w ⟨n, s', rfl, hn, hr, H⟩
        ((conv=>whnf);repeat(first|(refine mvT ?_;conv=>whnf)|(refine mvF ?_;conv=>whnf)|(refine cT (by rfl) ?_;conv=>whnf)|(refine cF (by rfl) ?_;conv=>whnf)))
        exact ⟨(n, s'), ⟨rfl, rfl, rfl, rfl, rfl, rfl, rfl, rfl, rfl, rfl, rfl, rfl, rfl, trivial⟩, hn, by rw [hc]; exact hr, H⟩
    clear H
    rintro ⟨n5, s5⟩ w ⟨hn5, hln5, H⟩
    dsimp only at hn5 hln5 H
    ((conv=>whnf);repeat(first|(refine mvT ?_;conv=>whnf)|(refine mvF ?_;conv=>whnf)|(refine cT (by rfl) ?_;conv=>whnf)|(refine cF (by rfl) ?_;conv=>whnf)))
    refine Does.mono H.ok ?_
    rintro r w ⟨rfl, H⟩
    ((conv=>whnf);repeat(first|(refine mvT ?_;conv=>whnf)|(refine mvF ?_;conv=>whnf)|(refine cT (by rfl) ?_;conv=>whnf)|(refine cF (by rfl) ?_;conv=>whnf)))
    refine cI (by rfl) (fun hbd=>?_) (fun hbd=>?_)
    · have hbd : s5.2 = true := by simpa using hbd
      ((conv=>whnf);repeat(first|(refine mvT ?_;conv=>whnf)|(refine mvF ?_;conv=>whnf)|(refine cT (by rfl) ?_;conv=>whnf)|(refine cF (by rfl) ?_;conv=>whnf)))
      refine Does.mono (H.done hL hp1) ?_
      rintro r w ⟨rfl, H⟩
      ((conv=>whnf);repeat(first|(refine mvT ?_;conv=>whnf)|(refine mvF ?_;conv=>whnf)|(refine cT (by rfl) ?_;conv=>whnf)|(refine cF (by rfl) ?_;conv=>whnf)))
      refine RdPost.early hbd (hup1 (?_)) H
      rw [tail_yes (rdField7.trans hr2) ⟨by decide, has_all hv⟩, tail_len ⟨by decide, has_all hv⟩ hln5 hbd]
    have hbd : s5.2 = false := by simpa using hbd
    clear hbd
    ((conv=>whnf);repeat(first|(refine mvT ?_;conv=>whnf)|(refine mvF ?_;conv=>whnf)|(refine cT (by rfl) ?_;conv=>whnf)|(refine cF (by rfl) ?_;conv=>whnf)))
    refine cut_zero ?_
    ((conv=>whnf);repeat(first|(refine mvT ?_;conv=>whnf)|(refine mvF ?_;conv=>whnf)|(refine cT (by rfl) ?_;conv=>whnf)|(refine cF (by rfl) ?_;conv=>whnf)))
    refine VC.cutE (fun a : Value => [(20, .int .i32 n5), (19, a), (0, .pointer (some ⟨p, 0, none⟩)), (2, .bool false), (7, .pointer (some ⟨pb, 0, none⟩)), (8, .int .i16 v), (9, .bool fx), (10, .pointer (some ⟨p, 0, none⟩)), (13, .int .i32 n1), (12, .slice (some ⟨g1, 0, none⟩) n1.toNat cap1), (14, .int .i32 i1), (15, .pointer (some ⟨g1, 0 + (i1 : Int).toNat * 18, none⟩)), (16, .pointer (some ⟨g1, 0 + (i1 : Int).toNat * 18, none⟩))]) (fun a w' => ListI w0 G0 p pb 146 [.int .i32 0, .int .i16 0, .pointer none, .int .i32 0, .int .i64 0, .slice none 0 0, .map none] (elR 7 v fx 10 dReadShareGroupStateResponseTopicPartition) (elQ true 7 10 dReadShareGroupStateResponseTopicPartition) s5 n5 (decide (n5 ≤ 0)) ((g1, 142, es1.flatten ++ [bcell u2_0, bcell u2_1, bcell u2_2, bcell u2_3, bcell u2_4, bcell u2_5, bcell u2_6, bcell u2_7, bcell u2_8, bcell u2_9, bcell u2_10, bcell u2_11, bcell u2_12, bcell u2_13, bcell u2_14, bcell u2_15, .slice none 0 0, .map none] ++ ((List.replicate (n1.toNat - (i1 + 1)) [.int .u8 0, .int .u8 0, .int .u8 0, .int .u8 0, .int .u8 0, .int .u8 0, .int .u8 0, .int .u8 0, .int .u8 0, .int .u8 0, .int .u8 0, .int .u8 0, .int .u8 0, .int .u8 0, .int .u8 0, .int .u8 0, .slice none 0 0, .map none]).flatten ++ post1)) :: L1) P1 a 0 w') ?_ ?_
    · refine cI (by rfl) (fun hps=>?_) (fun hps=>?_)
      · have hps : 0 < n5 := by have := of_decide_eq_true hps; omega
        ((conv=>whnf);repeat(first|(refine mvT ?_;conv=>whnf)|(refine mvF ?_;conv=>whnf)|(refine cT (by rfl) ?_;conv=>whnf)|(refine cF (by rfl) ?_;conv=>whnf)))
        refine H.grow hps hn5.2 (by decide) rfl rfl (by decide) ?_
        intro g cap post w hc1 hc2 H
        ((conv=>whnf);repeat(first|(refine mvT ?_;conv=>whnf)|(refine mvF ?_;conv=>whnf)|(refine cT (by rfl) ?_;conv=>whnf)|(refine cF (by rfl) ?_;conv=>whnf)))
        exact ⟨_, ⟨rfl, rfl, rfl, rfl, rfl, rfl, rfl, rfl, rfl, rfl, rfl, rfl, rfl, trivial⟩, ListI.some hps (decide_eq_false (by omega)) hc1 hc2 H⟩
      · have hps : n5 ≤ 0 := by have := of_decide_eq_false hps; omega
        ((conv=>whnf);repeat(first|(refine mvT ?_;conv=>whnf)|(refine mvF ?_;conv=>whnf)|(refine cT (by rfl) ?_;conv=>whnf)|(refine cF (by rfl) ?_;conv=>whnf)))
        exact ⟨_, ⟨rfl, rfl, rfl, rfl, rfl, rfl, rfl, rfl, rfl, rfl, rfl, rfl, rfl, trivial⟩, ListI.none hps (decide_eq_true hps) H⟩
    clear H
    rintro a5 w H
    ((conv=>whnf);repeat(first|(refine mvT ?_;conv=>whnf)|(refine mvF ?_;conv=>whnf)|(refine cT (by rfl) ?_;conv=>whnf)|(refine cF (by rfl) ?_;conv=>whnf)))
    have hpL5 : inL ((g1, 142, es1.flatten ++ [bcell u2_0, bcell u2_1, bcell u2_2, bcell u2_3, bcell u2_4, bcell u2_5, bcell u2_6, bcell u2_7, bcell u2_8, bcell u2_9, bcell u2_10, bcell u2_11, bcell u2_12, bcell u2_13, bcell u2_14, bcell u2_15, .slice none 0 0, .map none] ++ ((List.replicate (n1.toNat - (i1 + 1)) [.int .u8 0, .int .u8 0, .int .u8 0, .int .u8 0, .int .u8 0, .int .u8 0, .int .u8 0, .int .u8 0, .int .u8 0, .int .u8 0, .int .u8 0, .int .u8 0, .int .u8 0, .int .u8 0, .int .u8 0, .int .u8 0, .slice none 0 0, .map none]).flatten ++ post1)) :: L1) p := inL.tail hpL1
    refine VL.loop (fun i : Nat => [(20, .int .i32 n5), (19, a5), (21, .int .i32 i), (0, .pointer (some ⟨p, 0, none⟩)), (2, .bool false), (7, .pointer (some ⟨pb, 0, none⟩)), (8, .int .i16 v), (9, .bool fx), (10, .pointer (some ⟨p, 0, none⟩)), (13, .int .i32 n1), (12, .slice (some ⟨g1, 0, none⟩) n1.toNat cap1), (14, .int .i32 i1), (15, .pointer (some ⟨g1, 0 + (i1 : Int).toNat * 18, none⟩)), (16, .pointer (some ⟨g1, 0 + (i1 : Int).toNat * 18, none⟩))]) (fun i w' => i ≤ 2147483647 ∧ ListI w0 G0 p pb 146 [.int .i32 0, .int .i16 0, .pointer none, .int .i32 0, .int .i64 0, .slice none 0 0, .map none] (elR 7 v fx 10 dReadShareGroupStateResponseTopicPartition) (elQ true 7 10 dReadShareGroupStateResponseTopicPartition) s5 n5 (decide (n5 ≤ 0)) ((g1, 142, es1.flatten ++ [bcell u2_0, bcell u2_1, bcell u2_2, bcell u2_3, bcell u2_4, bcell u2_5, bcell u2_6, bcell u2_7, bcell u2_8, bcell u2_9, bcell u2_10, bcell u2_11, bcell u2_12, bcell u2_13, bcell u2_14, bcell u2_15, .slice none 0 0, .map none] ++ ((List.replicate (n1.toNat - (i1 + 1)) [.int .u8 0, .int .u8 0, .int .u8 0, .int .u8 0, .int .u8 0, .int .u8 0, .int .u8 0, .int .u8 0, .int .u8 0, .int .u8 0, .int .u8 0, .int .u8 0, .int .u8 0, .int .u8 0, .int .u8 0, .int .u8 0, .slice none 0 0, .map none]).flatten ++ post1)) :: L1) P1 a5 i w') (fun i => n5.toNat - i) 0 ⟨rfl, rfl, rfl, rfl, rfl, rfl, rfl, rfl, rfl, rfl, rfl, rfl, rfl, rfl, trivial⟩ ⟨by decide, H⟩ ?_
    clear H
    rintro i5 w ⟨hi5, H⟩
    ((conv=>whnf);repeat(first|(refine mvT ?_;conv=>whnf)|(refine mvF ?_;conv=>whnf)|(refine cT (by rfl) ?_;conv=>whnf)|(refine cF (by rfl) ?_;conv=>whnf)))
    refine cI (by rfl) (fun h9=>?_) (fun h9=>?_)
    · have hlt5 : (i5 : Int) < n5 := of_decide_eq_true h9
      obtain ⟨g5, cap5, post5, rfl, hgo5, HI⟩ := H.go hlt5
      obtain ⟨es5, ts5, si5, hes5, hez5, hrn5, hts5, hlen2, H⟩ := HI.open hgo5.2.2.2.2
      obtain ⟨L5, hL5⟩ : ∃ L : List Ob, L = ((g1, 142, es1.flatten ++ [bcell u2_0, bcell u2_1, bcell u2_2, bcell u2_3, bcell u2_4, bcell u2_5, bcell u2_6, bcell u2_7, bcell u2_8, bcell u2_9, bcell u2_10, bcell u2_11, bcell u2_12, bcell u2_13, bcell u2_14, bcell u2_15, .slice none 0 0, .map none] ++ ((List.replicate (n1.toNat - (i1 + 1)) [.int .u8 0, .int .u8 0, .int .u8 0, .int .u8 0, .int .u8 0, .int .u8 0, .int .u8 0, .int .u8 0, .int .u8 0, .int .u8 0, .int .u8 0, .int .u8 0, .int .u8 0, .int .u8 0, .int .u8 0, .int .u8 0, .slice none 0 0, .map none]).flatten ++ post1)) :: L1) := ⟨_, rfl⟩
      rw [← hL5] at H hpL5
      obtain ⟨P5, hP5⟩ : ∃ P : World → Prop, P = fun w => (∀ (j : Nat) (c : List Value) (y : T), es5[j]? = some c → ts5[j]? = some y → elQ true 7 10 dReadShareGroupStateResponseTopicPartition ⟨w, fun k => k ≠ p⟩ c y) ∧ P1 w := ⟨_, rfl⟩
      rw [← hP5] at H
      replace H : St w0 G0 p pb si5 ((g5, 146, es5.flatten ++ [.int .i32 0, .int .i16 0, .pointer none, .int .i32 0, .int .i64 0, .slice none 0 0, .map none] ++ ((List.replicate (n5.toNat - (i5 + 1)) [.int .i32 0, .int .i16 0, .pointer none, .int .i32 0, .int .i64 0, .slice none 0 0, .map none]).flatten ++ post5)) :: L5) P5 w := H
      ((conv=>whnf);repeat(first|(refine mvT ?_;conv=>whnf)|(refine mvF ?_;conv=>whnf)|(refine cT (by rfl) ?_;conv=>whnf)|(refine cF (by rfl) ?_;conv=>whnf)))
      refine ⟨g5, 0, rfl, ⟨by omega, by omega⟩, ?_⟩
      ((conv=>whnf);repeat(first|(refine mvT ?_;conv=>whnf)|(refine mvF ?_;conv=>whnf)|(refine cT (by rfl) ?_;conv=>whnf)|(refine cF (by rfl) ?_;conv=>whnf)))
      refine Does.mono (dfReadShareGroupStateResponseTopicPartition (pre := es5.flatten) (cur := [.int .i32 0, .int .i16 0, .pointer none, .int .i32 0, .int .i64 0, .slice none 0 0, .map none]) (post := ((List.replicate (n5.toNat - (i5 + 1)) [.int .i32 0, .int .i16 0, .pointer none, .int .i32 0, .int .i64 0, .slice none 0 0, .map none]).flatten ++ post5)) H.head (by first | (rw [hlen2]; simp; done) | (simp [hlen2]; done) | (simp [hlen2]; omega)) rfl) ?_
      rintro rd w2 ⟨hdf, hxd⟩
      replace H := H.put hdf hxd
      clear hdf hxd
      replace H : St w0 G0 p pb si5 ((g5, 146, es5.flatten ++ [.int .i32 0, .int .i16 0, .pointer none, .int .i32 0, .int .i64 0, .slice none 0 0, .map none] ++ ((List.replicate (n5.toNat - (i5 + 1)) [.int .i32 0, .int .i16 0, .pointer none, .int .i32 0, .int .i64 0, .slice none 0 0, .map none]).flatten ++ post5)) :: L5) P5 w2 := H
      ((conv=>whnf);repeat(first|(refine mvT ?_;conv=>whnf)|(refine mvF ?_;conv=>whnf)|(refine cT (by rfl) ?_;conv=>whnf)|(refine cF (by rfl) ?_;conv=>whnf)))
      have hup5 : tailBad 7 v fx dReadShareGroupStateResponseTopicPartition si5 = true → (rdPart 9 v fx dReadShareGroupStateResponse (l, false)).2.2 = true := by
        intro hb
        refine hup1 ?_
        rw [tail_yes (rdField7.trans hr2) ⟨by decide, has_all hv⟩, tail_el ⟨by decide, has_all hv⟩ hln5 hgo5.2.2.2.2 hrn5 hb]
      refine Does.mono H.int32 ?_
      rintro r w ⟨n6, s6, rfl, hn6, hr6, H⟩
      ((conv=>whnf);repeat(first|(refine mvT ?_;conv=>whnf)|(refine mvF ?_;conv=>whnf)|(refine cT (by rfl) ?_;conv=>whnf)|(refine cF (by rfl) ?_;conv=>whnf)))
      refine H.st1 (v := .int .i32 n6) 0 (rfl) (rfl) rfl (by first | omega | (simp [hlen2]; done) | (simp [hlen2]; omega)) rfl (Nat.lt_of_lt_of_le (Nat.lt_succ_self _) (Nat.le_of_ble_eq_true rfl)) ?_
      intro w H
      ((conv=>whnf);repeat(first|(refine mvT ?_;conv=>whnf)|(refine mvF ?_;conv=>whnf)|(refine cT (by rfl) ?_;conv=>whnf)|(refine cF (by rfl) ?_;conv=>whnf)))
      replace H : St w0 G0 p pb s6 ((g5, 146, es5.flatten ++ [.int .i32 n6, .int .i16 0, .pointer none, .int .i32 0, .int .i64 0, .slice none 0 0, .map none] ++ ((List.replicate (n5.toNat - (i5 + 1)) [.int .i32 0, .int .i16 0, .pointer none, .int .i32 0, .int .i64 0, .slice none 0 0, .map none]).flatten ++ post5)) :: L5) P5 w := H
      refine Does.mono H.int16 ?_
      rintro r w ⟨n8, s8, rfl, hn8, hr8, H⟩
      ((conv=>whnf);repeat(first|(refine mvT ?_;conv=>whnf)|(refine mvF ?_;conv=>whnf)|(refine cT (by rfl) ?_;conv=>whnf)|(refine cF (by rfl) ?_;conv=>whnf)))
      refine H.st1 (v := .int .i16 n8) 1 (rfl) (rfl) rfl (by first | omega | (simp [hlen2]; done) | (simp [hlen2]; omega)) rfl (Nat.lt_of_lt_of_le (Nat.lt_succ_self _) (Nat.le_of_ble_eq_true rfl)) ?_
      intro w H
      ((conv=>whnf);repeat(first|(refine mvT ?_;conv=>whnf)|(refine mvF ?_;conv=>whnf)|(refine cT (by rfl) ?_;conv=>whnf)|(refine cF (by rfl) ?_;conv=>whnf)))
      replace H : St w0 G0 p pb s8 ((g5, 146, es5.flatten ++ [.int .i32 n6, .int .i16 n8, .pointer none, .int .i32 0, .int .i64 0, .slice none 0 0, .map none] ++ ((List.replicate (n5.toNat - (i5 + 1)) [.int .i32 0, .int .i16 0, .pointer none, .int .i32 0, .int .i64 0, .slice none 0 0, .map none]).flatten ++ post5)) :: L5) P5 w := H
      (refine mvB ?_;((conv=>whnf);repeat(first|(refine mvT ?_;conv=>whnf)|(refine mvF ?_;conv=>whnf)|(refine cT (by rfl) ?_;conv=>whnf)|(refine cF (by rfl) ?_;conv=>whnf))))
      refine VC.cutE (fun q : Value × Bool × List UInt8 × Rd => [(26, q.1), (0, .pointer (some ⟨p, 0, none⟩)), (2, .bool false), (7, .pointer (some ⟨pb, 0, none⟩)), (8, .int .i16 v), (9, .bool fx), (10, .pointer (some ⟨p, 0, none⟩)), (13, .int .i32 n1), (12, .slice (some ⟨g1, 0, none⟩) n1.toNat cap1), (14, .int .i32 i1), (15, .pointer (some ⟨g1, 0 + (i1 : Int).toNat * 18, none⟩)), (16, .pointer (some ⟨g1, 0 + (i1 : Int).toNat * 18, none⟩)), (20, .int .i32 n5), (19, .slice (some ⟨g5, 0, none⟩) n5.toNat cap5), (21, .int .i32 i5), (22, .pointer (some ⟨g5, 0 + (i5 : Int).toNat * 7, none⟩)), (23, .pointer (some ⟨g5, 0 + (i5 : Int).toNat * 7, none⟩))]) (fun q w' => q.1.oneCell' = true ∧ (q.2.1 = true → q.2.2.1 = []) ∧ rdNt fx s8 = (.mk 0 q.2.2.1 q.2.1 [] [], q.2.2.2) ∧ St w0 G0 p pb q.2.2.2 ((g5, 146, es5.flatten ++ [.int .i32 n6, .int .i16 n8, .pointer none, .int .i32 0, .int .i64 0, .slice none 0 0, .map none] ++ ((List.replicate (n5.toNat - (i5 + 1)) [.int .i32 0, .int .i16 0, .pointer none, .int .i32 0, .int .i64 0, .slice none 0 0, .map none]).flatten ++ post5)) :: L5) (fun w => NTf p q.1 (.mk 0 q.2.2.1 q.2.1 [] []) w ∧ P5 w) w') ?_ ?_
      · refine cI (by rfl) (fun hc=>?_) (fun hc=>?_)
        · ((conv=>whnf);repeat(first|(refine mvT ?_;conv=>whnf)|(refine mvF ?_;conv=>whnf)|(refine cT (by rfl) ?_;conv=>whnf)|(refine cF (by rfl) ?_;conv=>whnf)))
          refine Does.mono H.ntc ?_
          rintro r w ⟨c, nl, u, s', rfl, hone, hnl, hr, H⟩
          ((conv=>whnf);repeat(first|(refine mvT ?_;conv=>whnf)|(refine mvF ?_;conv=>whnf)|(refine cT (by rfl) ?_;conv=>whnf)|(refine cF (by rfl) ?_;conv=>whnf)))
          exact ⟨(r, nl, u, s'), ⟨rfl, rfl, rfl, rfl, rfl, rfl, rfl, rfl, rfl, rfl, rfl, rfl, rfl, rfl, rfl, rfl, rfl, trivial⟩, hone, hnl, by rw [hc]; exact hr, H⟩
        · ((conv=>whnf);repeat(first|(refine mvT ?_;conv=>whnf)|(refine mvF ?_;conv=>whnf)|(refine cT (by rfl) ?_;conv=>whnf)|(refine cF (by rfl) ?_;conv=>whnf)))
          refine Does.mono H.ntp ?_
          rintro r w ⟨c, nl, u, s', rfl, hone, hnl, hr, H⟩
          ((conv=>whnf);repeat(first|(refine mvT ?_;conv=>whnf)|(refine mvF ?_;conv=>whnf)|(refine cT (by rfl) ?_;conv=>whnf)|(refine cF (by rfl) ?_;conv=>whnf)))
          exact ⟨(r, nl, u, s'), ⟨rfl, rfl, rfl, rfl, rfl, rfl, rfl, rfl, rfl, rfl, rfl, rfl, rfl, rfl, rfl, rfl, rfl, trivial⟩, hone, hnl, by rw [hc]; exact hr, H⟩
      clear H
      rintro ⟨c10, nl10, u10, s10⟩ w ⟨hone10, hnl10, hr10, H⟩
      dsimp only at hone10 hnl10 hr10 H
      ((conv=>whnf);repeat(first|(refine mvT ?_;conv=>whnf)|(refine mvF ?_;conv=>whnf)|(refine cT (by rfl) ?_;conv=>whnf)|(refine cF (by rfl) ?_;conv=>whnf)))
      obtain ⟨P11, hP11⟩ : ∃ P : World → Prop, P = fun w => NTf p c10 (.mk 0 u10 nl10 [] []) w ∧ P5 w := ⟨_, rfl⟩
      replace H : St w0 G0 p pb s10 ((g5, 146, es5.flatten ++ [.int .i32 n6, .int .i16 n8, .pointer none, .int .i32 0, .int .i64 0, .slice none 0 0, .map none] ++ ((List.replicate (n5.toNat - (i5 + 1)) [.int .i32 0, .int .i16 0, .pointer none, .int .i32 0, .int .i64 0, .slice none 0 0, .map none]).flatten ++ post5)) :: L5) P11 w := by rw [hP11]; exact H
      refine H.st1 (v := c10) 2 (cells_one hone10) (hone10) rfl (by first | omega | (simp [hlen2]; done) | (simp [hlen2]; omega)) rfl (Nat.lt_of_lt_of_le (Nat.lt_succ_self _) (Nat.le_of_ble_eq_true rfl)) ?_
      intro w H
      ((conv=>whnf);repeat(first|(refine mvT ?_;conv=>whnf)|(refine mvF ?_;conv=>whnf)|(refine cT (by rfl) ?_;conv=>whnf)|(refine cF (by rfl) ?_;conv=>whnf)))
      replace H : St w0 G0 p pb s10 ((g5, 146, es5.flatten ++ [.int .i32 n6, .int .i16 n8, c10, .int .i32 0, .int .i64 0, .slice none 0 0, .map none] ++ ((List.replicate (n5.toNat - (i5 + 1)) [.int .i32 0, .int .i16 0, .pointer none, .int .i32 0, .int .i64 0, .slice none 0 0, .map none]).flatten ++ post5)) :: L5) P11 w := H
      refine Does.mono H.int32 ?_
      rintro r w ⟨n13, s13, rfl, hn13, hr13, H⟩
      ((conv=>whnf);repeat(first|(refine mvT ?_;conv=>whnf)|(refine mvF ?_;conv=>whnf)|(refine cT (by rfl) ?_;conv=>whnf)|(refine cF (by rfl) ?_;conv=>whnf)))
      refine H.st1 (v := .int .i32 n13) 3 (rfl) (rfl) rfl (by first | omega | (simp [hlen2]; done) | (simp [hlen2]; omega)) rfl (Nat.lt_of_lt_of_le (Nat.lt_succ_self _) (Nat.le_of_ble_eq_true rfl)) ?_
      intro w H
      ((conv=>whnf);repeat(first|(refine mvT ?_;conv=>whnf)|(refine mvF ?_;conv=>whnf)|(refine cT (by rfl) ?_;conv=>whnf)|(refine cF (by rfl) ?_;conv=>whnf)))
      replace H : St w0 G0 p pb s13 ((g5, 146, es5.flatten ++ [.int .i32 n6, .int .i16 n8, c10, .int .i32 n13, .int .i64 0, .slice none 0 0, .map none] ++ ((List.replicate (n5.toNat - (i5 + 1)) [.int .i32 0, .int .i16 0, .pointer none, .int .i32 0, .int .i64 0, .slice none 0 0, .map none]).flatten ++ post5)) :: L5) P11 w := H
      refine Does.mono H.int64 ?_
      rintro r w ⟨n15, s15, rfl, hn15, hr15, H⟩
      ((conv=>whnf);repeat(first|(refine mvT ?_;conv=>whnf)|(refine mvF ?_;conv=>whnf)|(refine cT (by rfl) ?_;conv=>whnf)|(refine cF (by rfl) ?_;conv=>whnf)))
      refine H.st1 (v := .int .i64 n15) 4 (rfl) (rfl) rfl (by first | omega | (simp [hlen2]; done) | (simp [hlen2]; omega)) rfl (Nat.lt_of_lt_of_le (Nat.lt_succ_self _) (Nat.le_of_ble_eq_true rfl)) ?_
      intro w H
      ((conv=>whnf);repeat(first|(refine mvT ?_;conv=>whnf)|(refine mvF ?_;conv=>whnf)|(refine cT (by rfl) ?_;conv=>whnf)|(refine cF (by rfl) ?_;conv=>whnf)))
      replace H : St w0 G0 p pb s15 ((g5, 146, es5.flatten ++ [.int .i32 n6, .int .i16 n8, c10, .int .i32 n13, .int .i64 n15, .slice none 0 0, .map none] ++ ((List.replicate (n5.toNat - (i5 + 1)) [.int .i32 0, .int .i16 0, .pointer none, .int .i32 0, .int .i64 0, .slice none 0 0, .map none]).flatten ++ post5)) :: L5) P11 w := H
      refine ⟨_, ld (H.cell rfl (k := 5) rfl) (by first | omega | (simp [hlen2]; done) | (simp [hlen2]; omega)), ?_⟩; ((conv=>whnf);repeat(first|(refine mvT ?_;conv=>whnf)|(refine mvF ?_;conv=>whnf)|(refine cT (by rfl) ?_;conv=>whnf)|(refine cF (by rfl) ?_;conv=>whnf)))
      (refine mvB ?_;((conv=>whnf);repeat(first|(refine mvT ?_;conv=>whnf)|(refine mvF ?_;conv=>whnf)|(refine cT (by rfl) ?_;conv=>whnf)|(refine cF (by rfl) ?_;conv=>whnf))))
      refine VC.cutE (fun q : Int × Rd => [(31, .int .i32 q.1), (30, .slice none 0 0), (0, .pointer (some ⟨p, 0, none⟩)), (2, .bool false), (7, .pointer (some ⟨pb, 0, none⟩)), (8, .int .i16 v), (9, .bool fx), (10, .pointer (some ⟨p, 0, none⟩)), (13, .int .i32 n1), (12, .slice (some ⟨g1, 0, none⟩) n1.toNat cap1), (14, .int .i32 i1), (15, .pointer (some ⟨g1, 0 + (i1 : Int).toNat * 18, none⟩)), (16, .pointer (some ⟨g1, 0 + (i1 : Int).toNat * 18, none⟩)), (20, .int .i32 n5), (19, .slice (some ⟨g5, 0, none⟩) n5.toNat cap5), (21, .int .i32 i5), (22, .pointer (some ⟨g5, 0 + (i5 : Int).toNat * 7, none⟩)), (23, .pointer (some ⟨g5, 0 + (i5 : Int).toNat * 7, none⟩))]) (fun q w' => (-2147483648 ≤ q.1 ∧ q.1 ≤ 2147483647) ∧ rdLn fx s15 = q ∧ St w0 G0 p pb q.2 ((g5, 146, es5.flatten ++ [.int .i32 n6, .int .i16 n8, c10, .int .i32 n13, .int .i64 n15, .slice none 0 0, .map none] ++ ((List.replicate (n5.toNat - (i5 + 1)) [.int .i32 0, .int .i16 0, .pointer none, .int .i32 0, .int .i64 0, .slice none 0 0, .map none]).flatten ++ post5)) :: L5) P11 w') ?_ ?_
      · refine cI (by rfl) (fun hc=>?_) (fun hc=>?_)
        · ((conv=>whnf);repeat(first|(refine mvT ?_;conv=>whnf)|(refine mvF ?_;conv=>whnf)|(refine cT (by rfl) ?_;conv=>whnf)|(refine cF (by rfl) ?_;conv=>whnf)))
          refine Does.mono H.lnc ?_
          rintro r w ⟨n, s', rfl, hn, hr, H⟩
          ((conv=>whnf);repeat(first|(refine mvT ?_;conv=>whnf)|(refine mvF ?_;conv=>whnf)|(refine cT (by rfl) ?_;conv=>whnf)|(refine cF (by rfl) ?_;conv=>whnf)))
          exact ⟨(n, s'), ⟨rfl, rfl, rfl, rfl, rfl, rfl, rfl, rfl, rfl, rfl, rfl, rfl, rfl, rfl, rfl, rfl, rfl, rfl, trivial⟩, hn, by rw [hc]; exact hr, H⟩
        · ((conv=>whnf);repeat(first|(refine mvT ?_;conv=>whnf)|(refine mvF ?_;conv=>whnf)|(refine cT (by rfl) ?_;conv=>whnf)|(refine cF (by rfl) ?_;conv=>whnf)))
          refine Does.mono H.lnp ?_
          rintro r w ⟨n, s', rfl, hn, hr, H⟩
          ((conv=>whnf);repeat(first|(refine mvT ?_;conv=>whnf)|(refine mvF ?_;conv=>whnf)|(refine cT (by rfl) ?_;conv=>whnf)|(refine cF (by rfl) ?_;conv=>whnf)))
          exact ⟨(n, s'), ⟨rfl, rfl, rfl, rfl, rfl, rfl, rfl, rfl, rfl, rfl, rfl, rfl, rfl, rfl, rfl, rfl, rfl, rfl, trivial⟩, hn, by rw [hc]; exact hr, H⟩
      clear H
      rintro ⟨n17, s17⟩ w ⟨hn17, hln17, H⟩
      dsimp only at hn17 hln17 H
      ((conv=>whnf);repeat(first|(refine mvT ?_;conv=>whnf)|(refine mvF ?_;conv=>whnf)|(refine cT (by rfl) ?_;conv=>whnf)|(refine cF (by rfl) ?_;conv=>whnf)))
      refine Does.mono H.ok ?_
      rintro r w ⟨rfl, H⟩
      ((conv=>whnf);repeat(first|(refine mvT ?_;conv=>whnf)|(refine mvF ?_;conv=>whnf)|(refine cT (by rfl) ?_;conv=>whnf)|(refine cF (by rfl) ?_;conv=>whnf)))
      refine cI (by rfl) (fun hbd=>?_) (fun hbd=>?_)
      · have hbd : s17.2 = true := by simpa using hbd
        ((conv=>whnf);repeat(first|(refine mvT ?_;conv=>whnf)|(refine mvF ?_;conv=>whnf)|(refine cT (by rfl) ?_;conv=>whnf)|(refine cF (by rfl) ?_;conv=>whnf)))
        refine Does.mono (H.done hL hp1) ?_
        rintro r w ⟨rfl, H⟩
        ((conv=>whnf);repeat(first|(refine mvT ?_;conv=>whnf)|(refine mvF ?_;conv=>whnf)|(refine cT (by rfl) ?_;conv=>whnf)|(refine cF (by rfl) ?_;conv=>whnf)))
        refine RdPost.early hbd (hup5 (?_)) H
        rw [tail_yes (rdField3.trans hr6) ⟨by decide, has_all hv⟩, tail_yes (rdField2.trans hr8) ⟨by decide, has_all hv⟩, tail_yes ((rdField8n (by decide)).trans hr10) ⟨by decide, has_all hv⟩, tail_yes (rdField3.trans hr13) ⟨by decide, has_all hv⟩, tail_yes (rdField4.trans hr15) ⟨by decide, has_all hv⟩, tail_len ⟨by decide, has_all hv⟩ hln17 hbd]
      have hbd : s17.2 = false := by simpa using hbd
      clear hbd
      ((conv=>whnf);repeat(first|(refine mvT ?_;conv=>whnf)|(refine mvF ?_;conv=>whnf)|(refine cT (by rfl) ?_;conv=>whnf)|(refine cF (by rfl) ?_;conv=>whnf)))
      refine cut_zero ?_
      ((conv=>whnf);repeat(first|(refine mvT ?_;conv=>whnf)|(refine mvF ?_;conv=>whnf)|(refine cT (by rfl) ?_;conv=>whnf)|(refine cF (by rfl) ?_;conv=>whnf)))
      refine VC.cutE (fun a : Value => [(31, .int .i32 n17), (30, a), (0, .pointer (some ⟨p, 0, none⟩)), (2, .bool false), (7, .pointer (some ⟨pb, 0, none⟩)), (8, .int .i16 v), (9, .bool fx), (10, .pointer (some ⟨p, 0, none⟩)), (13, .int .i32 n1), (12, .slice (some ⟨g1, 0, none⟩) n1.toNat cap1), (14, .int .i32 i1), (15, .pointer (some ⟨g1, 0 + (i1 : Int).toNat * 18, none⟩)), (16, .pointer (some ⟨g1, 0 + (i1 : Int).toNat * 18, none⟩)), (20, .int .i32 n5), (19, .slice (some ⟨g5, 0, none⟩) n5.toNat cap5), (21, .int .i32 i5), (22, .pointer (some ⟨g5, 0 + (i5 : Int).toNat * 7, none⟩)), (23, .pointer (some ⟨g5, 0 + (i5 : Int).toNat * 7, none⟩))]) (fun a w' => ListI w0 G0 p pb 149 [.int .i64 0, .int .i64 0, .int .i8 0, .int .i16 0, .map none] (elR 6 v fx 10 dReadShareGroupStateResponseTopicPartitionStateBatch) (elQ true 6 10 dReadShareGroupStateResponseTopicPartitionStateBatch) s17 n17 (decide (n17 ≤ 0)) ((g5, 146, es5.flatten ++ [.int .i32 n6, .int .i16 n8, c10, .int .i32 n13, .int .i64 n15, .slice none 0 0, .map none] ++ ((List.replicate (n5.toNat - (i5 + 1)) [.int .i32 0, .int .i16 0, .pointer none, .int .i32 0, .int .i64 0, .slice none 0 0, .map none]).flatten ++ post5)) :: L5) P11 a 0 w') ?_ ?_
      · refine cI (by rfl) (fun hps=>?_) (fun hps=>?_)
        · have hps : 0 < n17 := by have := of_decide_eq_true hps; omega
          ((conv=>whnf);repeat(first|(refine mvT ?_;conv=>whnf)|(refine mvF ?_;conv=>whnf)|(refine cT (by rfl) ?_;conv=>whnf)|(refine cF (by rfl) ?_;conv=>whnf)))
          refine H.grow hps hn17.2 (by decide) rfl rfl (by decide) ?_
          intro g cap post w hc1 hc2 H
          ((conv=>whnf);repeat(first|(refine mvT ?_;conv=>whnf)|(refine mvF ?_;conv=>whnf)|(refine cT (by rfl) ?_;conv=>whnf)|(refine cF (by rfl) ?_;conv=>whnf)))
          exact ⟨_, ⟨rfl, rfl, rfl, rfl, rfl, rfl, rfl, rfl, rfl, rfl, rfl, rfl, rfl, rfl, rfl, rfl, rfl, rfl, trivial⟩, ListI.some hps (decide_eq_false (by omega)) hc1 hc2 H⟩
        · have hps : n17 ≤ 0 := by have := of_decide_eq_false hps; omega
          ((conv=>whnf);repeat(first|(refine mvT ?_;conv=>whnf)|(refine mvF ?_;conv=>whnf)|(refine cT (by rfl) ?_;conv=>whnf)|(refine cF (by rfl) ?_;conv=>whnf)))
          exact ⟨_, ⟨rfl, rfl, rfl, rfl, rfl, rfl, rfl, rfl, rfl, rfl, rfl, rfl, rfl, rfl, rfl, rfl, rfl, rfl, trivial⟩, ListI.none hps (decide_eq_true hps) H⟩
      clear H
      rintro a17 w H
      ((conv=>whnf);repeat(first|(refine mvT ?_;conv=>whnf)|(refine mvF ?_;conv=>whnf)|(refine cT (by rfl) ?_;conv=>whnf)|(refine cF (by rfl) ?_;conv=>whnf)))
      have hpL17 : inL ((g5, 146, es5.flatten ++ [.int .i32 n6, .int .i16 n8, c10, .int .i32 n13, .int .i64 n15, .slice none 0 0, .map none] ++ ((List.replicate (n5.toNat - (i5 + 1)) [.int .i32 0, .int .i16 0, .pointer none, .int .i32 0, .int .i64 0, .slice none 0 0, .map none]).flatten ++ post5)) :: L5) p := inL.tail hpL5
      refine VL.loop (fun i : Nat => [(31, .int .i32 n17), (30, a17), (32, .int .i32 i), (0, .pointer (some ⟨p, 0, none⟩)), (2, .bool false), (7, .pointer (some ⟨pb, 0, none⟩)), (8, .int .i16 v), (9, .bool fx), (10, .pointer (some ⟨p, 0, none⟩)), (13, .int .i32 n1), (12, .slice (some ⟨g1, 0, none⟩) n1.toNat cap1), (14, .int .i32 i1), (15, .pointer (some ⟨g1, 0 + (i1 : Int).toNat * 18, none⟩)), (16, .pointer (some ⟨g1, 0 + (i1 : Int).toNat * 18, none⟩)), (20, .int .i32 n5), (19, .slice (some ⟨g5, 0, none⟩) n5.toNat cap5), (21, .int .i32 i5), (22, .pointer (some ⟨g5, 0 + (i5 : Int).toNat * 7, none⟩)), (23, .pointer (some ⟨g5, 0 + (i5 : Int).toNat * 7, none⟩))]) (fun i w' => i ≤ 2147483647 ∧ ListI w0 G0 p pb 149 [.int .i64 0, .int .i64 0, .int .i8 0, .int .i16 0, .map none] (elR 6 v fx 10 dReadShareGroupStateResponseTopicPartitionStateBatch) (elQ true 6 10 dReadShareGroupStateResponseTopicPartitionStateBatch) s17 n17 (decide (n17 ≤ 0)) ((g5, 146, es5.flatten ++ [.int .i32 n6, .int .i16 n8, c10, .int .i32 n13, .int .i64 n15, .slice none 0 0, .map none] ++ ((List.replicate (n5.toNat - (i5 + 1)) [.int .i32 0, .int .i16 0, .pointer none, .int .i32 0, .int .i64 0, .slice none 0 0, .map none]).flatten ++ post5)) :: L5) P11 a17 i w') (fun i => n17.toNat - i) 0 ⟨rfl, rfl, rfl, rfl, rfl, rfl, rfl, rfl, rfl, rfl, rfl, rfl, rfl, rfl, rfl, rfl, rfl, rfl, rfl, trivial⟩ ⟨by decide, H⟩ ?_
      clear H
      rintro i17 w ⟨hi17, H⟩
      ((conv=>whnf);repeat(first|(refine mvT ?_;conv=>whnf)|(refine mvF ?_;conv=>whnf)|(refine cT (by rfl) ?_;conv=>whnf)|(refine cF (by rfl) ?_;conv=>whnf)))
      refine cI (by rfl) (fun h9=>?_) (fun h9=>?_)
      · have hlt17 : (i17 : Int) < n17 := of_decide_eq_true h9
        obtain ⟨g17, cap17, post17, rfl, hgo17, HI⟩ := H.go hlt17
        obtain ⟨es17, ts17, si17, hes17, hez17, hrn17, hts17, hlen3, H⟩ := HI.open hgo17.2.2.2.2
        obtain ⟨L17, hL17⟩ : ∃ L : List Ob, L = ((g5, 146, es5.flatten ++ [.int .i32 n6, .int .i16 n8, c10, .int .i32 n13, .int .i64 n15, .slice none 0 0, .map none] ++ ((List.replicate (n5.toNat - (i5 + 1)) [.int .i32 0, .int .i16 0, .pointer none, .int .i32 0, .int .i64 0, .slice none 0 0, .map none]).flatten ++ post5)) :: L5) := ⟨_, rfl⟩
        rw [← hL17] at H hpL17
        obtain ⟨P17, hP17⟩ : ∃ P : World → Prop, P = fun w => (∀ (j : Nat) (c : List Value) (y : T), es17[j]? = some c → ts17[j]? = some y → elQ true 6 10 dReadShareGroupStateResponseTopicPartitionStateBatch ⟨w, fun k => k ≠ p⟩ c y) ∧ P11 w := ⟨_, rfl⟩
        rw [← hP17] at H
        replace H : St w0 G0 p pb si17 ((g17, 149, es17.flatten ++ [.int .i64 0, .int .i64 0, .int .i8 0, .int .i16 0, .map none] ++ ((List.replicate (n17.toNat - (i17 + 1)) [.int .i64 0, .int .i64 0, .int .i8 0, .int .i16 0, .map none]).flatten ++ post17)) :: L17) P17 w := H
        ((conv=>whnf);repeat(first|(refine mvT ?_;conv=>whnf)|(refine mvF ?_;conv=>whnf)|(refine cT (by rfl) ?_;conv=>whnf)|(refine cF (by rfl) ?_;conv=>whnf)))
        refine ⟨g17, 0, rfl, ⟨by omega, by omega⟩, ?_⟩
        ((conv=>whnf);repeat(first|(refine mvT ?_;conv=>whnf)|(refine mvF ?_;conv=>whnf)|(refine cT (by rfl) ?_;conv=>whnf)|(refine cF (by rfl) ?_;conv=>whnf)))
        refine Does.mono (dfReadShareGroupStateResponseTopicPartitionStateBatch (pre := es17.flatten) (cur := [.int .i64 0, .int .i64 0, .int .i8 0, .int .i16 0, .map none]) (post := ((List.replicate (n17.toNat - (i17 + 1)) [.int .i64 0, .int .i64 0, .int .i8 0, .int .i16 0, .map none]).flatten ++ post17)) H.head (by first | (rw [hlen3]; simp; done) | (simp [hlen3]; done) | (simp [hlen3]; omega)) rfl) ?_
        rintro rd w2 ⟨hdf, hxd⟩
        replace H := H.put hdf hxd
        clear hdf hxd
        replace H : St w0 G0 p pb si17 ((g17, 149, es17.flatten ++ [.int .i64 0, .int .i64 0, .int .i8 0, .int .i16 0, .map none] ++ ((List.replicate (n17.toNat - (i17 + 1)) [.int .i64 0, .int .i64 0, .int .i8 0, .int .i16 0, .map none]).flatten ++ post17)) :: L17) P17 w2 := H
        ((conv=>whnf);repeat(first|(refine mvT ?_;conv=>whnf)|(refine mvF ?_;conv=>whnf)|(refine cT (by rfl) ?_;conv=>whnf)|(refine cF (by rfl) ?_;conv=>whnf)))
        have hup17 : tailBad 6 v fx dReadShareGroupStateResponseTopicPartitionStateBatch si17 = true → (rdPart 9 v fx dReadShareGroupStateResponse (l, false)).2.2 = true := by
          intro hb
          refine hup5 ?_
          rw [tail_yes (rdField3.trans hr6) ⟨by decide, has_all hv⟩, tail_yes (rdField2.trans hr8) ⟨by decide, has_all hv⟩, tail_yes ((rdField8n (by decide)).trans hr10) ⟨by decide, has_all hv⟩, tail_yes (rdField3.trans hr13) ⟨by decide, has_all hv⟩, tail_yes (rdField4.trans hr15) ⟨by decide, has_all hv⟩, tail_el ⟨by decide, has_all hv⟩ hln17 hgo17.2.2.2.2 hrn17 hb]
        refine Does.mono H.int64 ?_
        rintro r w ⟨n18, s18, rfl, hn18, hr18, H⟩
        ((conv=>whnf);repeat(first|(refine mvT ?_;conv=>whnf)|(refine mvF ?_;conv=>whnf)|(refine cT (by rfl) ?_;conv=>whnf)|(refine cF (by rfl) ?_;conv=>whnf)))
        refine H.st1 (v := .int .i64 n18) 0 (rfl) (rfl) rfl (by first | omega | (simp [hlen3]; done) | (simp [hlen3]; omega)) rfl (Nat.lt_of_lt_of_le (Nat.lt_succ_self _) (Nat.le_of_ble_eq_true rfl)) ?_
        intro w H
        ((conv=>whnf);repeat(first|(refine mvT ?_;conv=>whnf)|(refine mvF ?_;conv=>whnf)|(refine cT (by rfl) ?_;conv=>whnf)|(refine cF (by rfl) ?_;conv=>whnf)))
        replace H : St w0 G0 p pb s18 ((g17, 149, es17.flatten ++ [.int .i64 n18, .int .i64 0, .int .i8 0, .int .i16 0, .map none] ++ ((List.replicate (n17.toNat - (i17 + 1)) [.int .i64 0, .int .i64 0, .int .i8 0, .int .i16 0, .map none]).flatten ++ post17)) :: L17) P17 w := H
        refine Does.mono H.int64 ?_
        rintro r w ⟨n20, s20, rfl, hn20, hr20, H⟩
        ((conv=>whnf);repeat(first|(refine mvT ?_;conv=>whnf)|(refine mvF ?_;conv=>whnf)|(refine cT (by rfl) ?_;conv=>whnf)|(refine cF (by rfl) ?_;conv=>whnf)))
        refine H.st1 (v := .int .i64 n20) 1 (rfl) (rfl) rfl (by first | omega | (simp [hlen3]; done) | (simp [hlen3]; omega)) rfl (Nat.lt_of_lt_of_le (Nat.lt_succ_self _) (Nat.le_of_ble_eq_true rfl)) ?_
        intro w H
        ((conv=>whnf);repeat(first|(refine mvT ?_;conv=>whnf)|(refine mvF ?_;conv=>whnf)|(refine cT (by rfl) ?_;conv=>whnf)|(refine cF (by rfl) ?_;conv=>whnf)))
        replace H : St w0 G0 p pb s20 ((g17, 149, es17.flatten ++ [.int .i64 n18, .int .i64 n20, .int .i8 0, .int .i16 0, .map none] ++ ((List.replicate (n17.toNat - (i17 + 1)) [.int .i64 0, .int .i64 0, .int .i8 0, .int .i16 0, .map none]).flatten ++ post17)) :: L17) P17 w := H
        refine Does.mono H.int8 ?_
        rintro r w ⟨n22, s22, rfl, hn22, hr22, H⟩
        ((conv=>whnf);repeat(first|(refine mvT ?_;conv=>whnf)|(refine mvF ?_;conv=>whnf)|(refine cT (by rfl) ?_;conv=>whnf)|(refine cF (by rfl) ?_;conv=>whnf)))
        refine H.st1 (v := .int .i8 n22) 2 (rfl) (rfl) rfl (by first | omega | (simp [hlen3]; done) | (simp [hlen3]; omega)) rfl (Nat.lt_of_lt_of_le (Nat.lt_succ_self _) (Nat.le_of_ble_eq_true rfl)) ?_
        intro w H
        ((conv=>whnf);repeat(first|(refine mvT ?_;conv=>whnf)|(refine mvF ?_;conv=>whnf)|(refine cT (by rfl) ?_;conv=>whnf)|(refine cF (by rfl) ?_;conv=>whnf)))
        replace H : St w0 G0 p pb s22 ((g17, 149, es17.flatten ++ [.int .i64 n18, .int .i64 n20, .int .i8 n22, .int .i16 0, .map none] ++ ((List.replicate (n17.toNat - (i17 + 1)) [.int .i64 0, .int .i64 0, .int .i8 0, .int .i16 0, .map none]).flatten ++ post17)) :: L17) P17 w := H
        refine Does.mono H.int16 ?_
        rintro r w ⟨n24, s24, rfl, hn24, hr24, H⟩
        ((conv=>whnf);repeat(first|(refine mvT ?_;conv=>whnf)|(refine mvF ?_;conv=>whnf)|(refine cT (by rfl) ?_;conv=>whnf)|(refine cF (by rfl) ?_;conv=>whnf)))
        refine H.st1 (v := .int .i16 n24) 3 (rfl) (rfl) rfl (by first | omega | (simp [hlen3]; done) | (simp [hlen3]; omega)) rfl (Nat.lt_of_lt_of_le (Nat.lt_succ_self _) (Nat.le_of_ble_eq_true rfl)) ?_
        intro w H
        ((conv=>whnf);repeat(first|(refine mvT ?_;conv=>whnf)|(refine mvF ?_;conv=>whnf)|(refine cT (by rfl) ?_;conv=>whnf)|(refine cF (by rfl) ?_;conv=>whnf)))
        replace H : St w0 G0 p pb s24 ((g17, 149, es17.flatten ++ [.int .i64 n18, .int .i64 n20, .int .i8 n22, .int .i16 n24, .map none] ++ ((List.replicate (n17.toNat - (i17 + 1)) [.int .i64 0, .int .i64 0, .int .i8 0, .int .i16 0, .map none]).flatten ++ post17)) :: L17) P17 w := H
        (refine mvB ?_;((conv=>whnf);repeat(first|(refine mvT ?_;conv=>whnf)|(refine mvF ?_;conv=>whnf)|(refine cT (by rfl) ?_;conv=>whnf)|(refine cF (by rfl) ?_;conv=>whnf))))
        refine VC.cutB (fun q : Value × List Tg × Rd => [(0, .pointer (some ⟨p, 0, none⟩)), (2, .bool false), (7, .pointer (some ⟨pb, 0, none⟩)), (8, .int .i16 v), (9, .bool fx), (10, .pointer (some ⟨p, 0, none⟩)), (13, .int .i32 n1), (12, .slice (some ⟨g1, 0, none⟩) n1.toNat cap1), (14, .int .i32 i1), (15, .pointer (some ⟨g1, 0 + (i1 : Int).toNat * 18, none⟩)), (16, .pointer (some ⟨g1, 0 + (i1 : Int).toNat * 18, none⟩)), (20, .int .i32 n5), (19, .slice (some ⟨g5, 0, none⟩) n5.toNat cap5), (21, .int .i32 i5), (22, .pointer (some ⟨g5, 0 + (i5 : Int).toNat * 7, none⟩)), (23, .pointer (some ⟨g5, 0 + (i5 : Int).toNat * 7, none⟩)), (31, .int .i32 n17), (30, .slice (some ⟨g17, 0, none⟩) n17.toNat cap17), (32, .int .i32 i17), (33, .pointer (some ⟨g17, 0 + (i17 : Int).toNat * 5, none⟩)), (34, .pointer (some ⟨g17, 0 + (i17 : Int).toNat * 5, none⟩))]) (fun q w' => rdTagsF fx s24 = q.2 ∧ St w0 G0 p pb q.2.2 ((g17, 149, es17.flatten ++ [.int .i64 n18, .int .i64 n20, .int .i8 n22, .int .i16 n24, q.1] ++ ((List.replicate (n17.toNat - (i17 + 1)) [.int .i64 0, .int .i64 0, .int .i8 0, .int .i16 0, .map none]).flatten ++ post17)) :: L17) (fun w => TGf p q.1 q.2.1 w ∧ P17 w) w') ?_ ?_
        · refine cI (by rfl) (fun hc=>?_) (fun hc=>?_)
          · ((conv=>whnf);repeat(first|(refine mvT ?_;conv=>whnf)|(refine mvF ?_;conv=>whnf)|(refine cT (by rfl) ?_;conv=>whnf)|(refine cF (by rfl) ?_;conv=>whnf)))
            refine Does.mono H.tags ?_
            rintro r w ⟨m, u, s', rfl, hone, hr, H⟩
            ((conv=>whnf);repeat(first|(refine mvT ?_;conv=>whnf)|(refine mvF ?_;conv=>whnf)|(refine cT (by rfl) ?_;conv=>whnf)|(refine cF (by rfl) ?_;conv=>whnf)))
            refine H.st1 (v := m) 4 (rfl) (hone) rfl (by first | omega | (simp [hlen3]; done) | (simp [hlen3]; omega)) rfl (Nat.lt_of_lt_of_le (Nat.lt_succ_self _) (Nat.le_of_ble_eq_true rfl)) ?_
            intro w H
            ((conv=>whnf);repeat(first|(refine mvT ?_;conv=>whnf)|(refine mvF ?_;conv=>whnf)|(refine cT (by rfl) ?_;conv=>whnf)|(refine cF (by rfl) ?_;conv=>whnf)))
            exact ⟨(m, u, s'), ⟨rfl, rfl, rfl, rfl, rfl, rfl, rfl, rfl, rfl, rfl, rfl, rfl, rfl, rfl, rfl, rfl, rfl, rfl, rfl, rfl, rfl, trivial⟩, by rw [rdTagsF, if_pos hc]; exact hr, H⟩
          · ((conv=>whnf);repeat(first|(refine mvT ?_;conv=>whnf)|(refine mvF ?_;conv=>whnf)|(refine cT (by rfl) ?_;conv=>whnf)|(refine cF (by rfl) ?_;conv=>whnf)))
            exact ⟨(.map none, [], s24), ⟨rfl, rfl, rfl, rfl, rfl, rfl, rfl, rfl, rfl, rfl, rfl, rfl, rfl, rfl, rfl, rfl, rfl, rfl, rfl, rfl, rfl, trivial⟩, by rw [rdTagsF, if_neg (by rw [hc]; decide)], H.add fun w' _ => TagsR.nil _ _⟩
        clear H
        rintro ⟨m26, u26, s26⟩ w ⟨htg, H⟩
        dsimp only at htg H
        ((conv=>whnf);repeat(first|(refine mvT ?_;conv=>whnf)|(refine mvF ?_;conv=>whnf)|(refine cT (by rfl) ?_;conv=>whnf)|(refine cF (by rfl) ?_;conv=>whnf)))
        obtain ⟨P27, hP27⟩ : ∃ P : World → Prop, P = fun w => TGf p m26 u26 w ∧ P17 w := ⟨_, rfl⟩
        replace H : St w0 G0 p pb s26 ((g17, 149, es17.flatten ++ [.int .i64 n18, .int .i64 n20, .int .i8 n22, .int .i16 n24, m26] ++ ((List.replicate (n17.toNat - (i17 + 1)) [.int .i64 0, .int .i64 0, .int .i8 0, .int .i16 0, .map none]).flatten ++ post17)) :: L17) P27 w := by rw [hP27]; exact H
        have hpart : rdPart 6 v fx dReadShareGroupStateResponseTopicPartitionStateBatch si17 = (.mk 0 [] false [numT n18, numT n20, numT n22, numT n24] u26, s26) := by
          unfold rdPart rdPartW
          rw [rdAll_yes (df := dfT 6) (rdField4.trans hr18) ⟨by decide, has_all hv⟩, rdAll_yes (df := dfT 6) (rdField4.trans hr20) ⟨by decide, has_all hv⟩, rdAll_yes (df := dfT 6) (rdField1.trans hr22) ⟨by decide, has_all hv⟩, rdAll_yes (df := dfT 6) (rdField2.trans hr24) ⟨by decide, has_all hv⟩]
          simp only [rdAll]
          rw [htg]
        refine ⟨i17 + 1, ⟨rfl, rfl, ?_, rfl, rfl, rfl, rfl, rfl, rfl, rfl, rfl, rfl, rfl, rfl, rfl, rfl, rfl, rfl, rfl, trivial⟩, ⟨by omega, ListI.back hgo17 (LoopI.next hes17 hez17 hrn17 hts17 (cur := [.int .i64 n18, .int .i64 n20, .int .i8 n22, .int .i16 n24, m26]) (x := .mk 0 [] false [numT n18, numT n20, numT n22, numT n24] u26) (hpart) rfl (by rw [← hL17]; exact H) fun w hP => ?_)⟩, by omega⟩
        · show some (Value.int .i32 _) = _
          rw [IntKind.wrap_i32]
          simp only [Option.some.injEq, Value.int.injEq, true_and]
          omega
        · skip
          rw [hP27] at hP
          obtain ⟨hf27_, hP⟩ := hP
          rw [hP17] at hP
          exact ⟨QPt (QA1 (QF4 hn18) (QA1 (QF4 hn20) (QA1 (QF1 hn22) (QA1 (QF2 hn24) (QA0))))) hf27_, hP⟩
      have hge17 : ¬ (i17 : Int) < n17 := of_decide_eq_false h9
      obtain ⟨l28, s28, hone28, hl28, hr28, H⟩ := H.done hge17 hln17 (nl := nlF (.mk 11 0 (-1) (-1) (-1) 0 10 dReadShareGroupStateResponseTopicPartitionStateBatch) v) (sz := elZ true 6 10 dReadShareGroupStateResponseTopicPartitionStateBatch) rfl hpL17 rfl
      ((conv=>whnf);repeat(first|(refine mvT ?_;conv=>whnf)|(refine mvF ?_;conv=>whnf)|(refine cT (by rfl) ?_;conv=>whnf)|(refine cF (by rfl) ?_;conv=>whnf)))
      obtain ⟨P29, hP29⟩ : ∃ P : World → Prop, P = fun w => ListR true (elZ true 6 10 dReadShareGroupStateResponseTopicPartitionStateBatch) (elQ true 6 10 dReadShareGroupStateResponseTopicPartitionStateBatch ⟨w, fun k => k ≠ p⟩) w (fun k => k ≠ p) a17 (.mk 0 [] (decide (n17 ≤ 0)) l28 []) ∧ P11 w := ⟨_, rfl⟩
      replace H : St w0 G0 p pb s28 ((g5, 146, es5.flatten ++ [.int .i32 n6, .int .i16 n8, c10, .int .i32 n13, .int .i64 n15, .slice none 0 0, .map none] ++ ((List.replicate (n5.toNat - (i5 + 1)) [.int .i32 0, .int .i16 0, .pointer none, .int .i32 0, .int .i64 0, .slice none 0 0, .map none]).flatten ++ post5)) :: L5) P29 w := by rw [hP29]; exact H
      refine H.st1 (v := a17) 5 (cells_one hone28) (hone28) rfl (by first | omega | (simp [hlen2]; done) | (simp [hlen2]; omega)) rfl (Nat.lt_of_lt_of_le (Nat.lt_succ_self _) (Nat.le_of_ble_eq_true rfl)) ?_
      intro w H
      ((conv=>whnf);repeat(first|(refine mvT ?_;conv=>whnf)|(refine mvF ?_;conv=>whnf)|(refine cT (by rfl) ?_;conv=>whnf)|(refine cF (by rfl) ?_;conv=>whnf)))
      replace H : St w0 G0 p pb s28 ((g5, 146, es5.flatten ++ [.int .i32 n6, .int .i16 n8, c10, .int .i32 n13, .int .i64 n15, a17, .map none] ++ ((List.replicate (n5.toNat - (i5 + 1)) [.int .i32 0, .int .i16 0, .pointer none, .int .i32 0, .int .i64 0, .slice none 0 0, .map none]).flatten ++ post5)) :: L5) P29 w := H
      (refine mvB ?_;((conv=>whnf);repeat(first|(refine mvT ?_;conv=>whnf)|(refine mvF ?_;conv=>whnf)|(refine cT (by rfl) ?_;conv=>whnf)|(refine cF (by rfl) ?_;conv=>whnf))))
      refine VC.cutB (fun q : Value × List Tg × Rd => [(0, .pointer (some ⟨p, 0, none⟩)), (2, .bool false), (7, .pointer (some ⟨pb, 0, none⟩)), (8, .int .i16 v), (9, .bool fx), (10, .pointer (some ⟨p, 0, none⟩)), (13, .int .i32 n1), (12, .slice (some ⟨g1, 0, none⟩) n1.toNat cap1), (14, .int .i32 i1), (15, .pointer (some ⟨g1, 0 + (i1 : Int).toNat * 18, none⟩)), (16, .pointer (some ⟨g1, 0 + (i1 : Int).toNat * 18, none⟩)), (20, .int .i32 n5), (19, .slice (some ⟨g5, 0, none⟩) n5.toNat cap5), (21, .int .i32 i5), (22, .pointer (some ⟨g5, 0 + (i5 : Int).toNat * 7, none⟩)), (23, .pointer (some ⟨g5, 0 + (i5 : Int).toNat * 7, none⟩))]) (fun q w' => rdTagsF fx s28 = q.2 ∧ St w0 G0 p pb q.2.2 ((g5, 146, es5.flatten ++ [.int .i32 n6, .int .i16 n8, c10, .int .i32 n13, .int .i64 n15, a17, q.1] ++ ((List.replicate (n5.toNat - (i5 + 1)) [.int .i32 0, .int .i16 0, .pointer none, .int .i32 0, .int .i64 0, .slice none 0 0, .map none]).flatten ++ post5)) :: L5) (fun w => TGf p q.1 q.2.1 w ∧ P29 w) w') ?_ ?_
      · refine cI (by rfl) (fun hc=>?_) (fun hc=>?_)
        · ((conv=>whnf);repeat(first|(refine mvT ?_;conv=>whnf)|(refine mvF ?_;conv=>whnf)|(refine cT (by rfl) ?_;conv=>whnf)|(refine cF (by rfl) ?_;conv=>whnf)))
          refine Does.mono H.tags ?_
          rintro r w ⟨m, u, s', rfl, hone, hr, H⟩
          ((conv=>whnf);repeat(first|(refine mvT ?_;conv=>whnf)|(refine mvF ?_;conv=>whnf)|(refine cT (by rfl) ?_;conv=>whnf)|(refine cF (by rfl) ?_;conv=>whnf)))
          refine H.st1 (v := m) 6 (rfl) (hone) rfl (by first | omega | (simp [hlen2]; done) | (simp [hlen2]; omega)) rfl (Nat.lt_of_lt_of_le (Nat.lt_succ_self _) (Nat.le_of_ble_eq_true rfl)) ?_
          intro w H
          ((conv=>whnf);repeat(first|(refine mvT ?_;conv=>whnf)|(refine mvF ?_;conv=>whnf)|(refine cT (by rfl) ?_;conv=>whnf)|(refine cF (by rfl) ?_;conv=>whnf)))
          exact ⟨(m, u, s'), ⟨rfl, rfl, rfl, rfl, rfl, rfl, rfl, rfl, rfl, rfl, rfl, rfl, rfl, rfl, rfl, rfl, trivial⟩, by rw [rdTagsF, if_pos hc]; exact hr, H⟩
        · ((conv=>whnf);repeat(first|(refine mvT ?_;conv=>whnf)|(refine mvF ?_;conv=>whnf)|(refine cT (by rfl) ?_;conv=>whnf)|(refine cF (by rfl) ?_;conv=>whnf)))
          exact ⟨(.map none, [], s28), ⟨rfl, rfl, rfl, rfl, rfl, rfl, rfl, rfl, rfl, rfl, rfl, rfl, rfl, rfl, rfl, rfl, trivial⟩, by rw [rdTagsF, if_neg (by rw [hc]; decide)], H.add fun w' _ => TagsR.nil _ _⟩
      clear H
      rintro ⟨m31, u31, s31⟩ w ⟨htg, H⟩
      dsimp only at htg H
      ((conv=>whnf);repeat(first|(refine mvT ?_;conv=>whnf)|(refine mvF ?_;conv=>whnf)|(refine cT (by rfl) ?_;conv=>whnf)|(refine cF (by rfl) ?_;conv=>whnf)))
      obtain ⟨P32, hP32⟩ : ∃ P : World → Prop, P = fun w => TGf p m31 u31 w ∧ P29 w := ⟨_, rfl⟩
      replace H : St w0 G0 p pb s31 ((g5, 146, es5.flatten ++ [.int .i32 n6, .int .i16 n8, c10, .int .i32 n13, .int .i64 n15, a17, m31] ++ ((List.replicate (n5.toNat - (i5 + 1)) [.int .i32 0, .int .i16 0, .pointer none, .int .i32 0, .int .i64 0, .slice none 0 0, .map none]).flatten ++ post5)) :: L5) P32 w := by rw [hP32]; exact H
      have hpart : rdPart 7 v fx dReadShareGroupStateResponseTopicPartition si5 = (.mk 0 [] false [numT n6, numT n8, .mk 0 u10 nl10 [] [], numT n13, numT n15, .mk 0 [] (decide (n17 ≤ 0)) l28 []] u31, s31) := by
        unfold rdPart rdPartW
        rw [rdAll_yes (df := dfT 7) (rdField3.trans hr6) ⟨by decide, has_all hv⟩, rdAll_yes (df := dfT 7) (rdField2.trans hr8) ⟨by decide, has_all hv⟩, rdAll_yes (df := dfT 7) ((rdField8n (by decide)).trans hr10) ⟨by decide, has_all hv⟩, rdAll_yes (df := dfT 7) (rdField3.trans hr13) ⟨by decide, has_all hv⟩, rdAll_yes (df := dfT 7) (rdField4.trans hr15) ⟨by decide, has_all hv⟩, rdAll_yes (df := dfT 7) ((rdField_list _ _ _ _ _ _ _ _ _ _ _).trans hr28) ⟨by decide, has_all hv⟩]
        simp only [rdAll]
        rw [htg]
      refine ⟨i5 + 1, ⟨rfl, rfl, ?_, rfl, rfl, rfl, rfl, rfl, rfl, rfl, rfl, rfl, rfl, rfl, trivial⟩, ⟨by omega, ListI.back hgo5 (LoopI.next hes5 hez5 hrn5 hts5 (cur := [.int .i32 n6, .int .i16 n8, c10, .int .i32 n13, .int .i64 n15, a17, m31]) (x := .mk 0 [] false [numT n6, numT n8, .mk 0 u10 nl10 [] [], numT n13, numT n15, .mk 0 [] (decide (n17 ≤ 0)) l28 []] u31) (hpart) rfl (by rw [← hL5]; exact H) fun w hP => ?_)⟩, by omega⟩
      · show some (Value.int .i32 _) = _
        rw [IntKind.wrap_i32]
        simp only [Option.some.injEq, Value.int.injEq, true_and]
        omega
      · skip
        rw [hP32] at hP
        obtain ⟨hf32_, hP⟩ := hP
        rw [hP29] at hP
        obtain ⟨hf29_, hP⟩ := hP
        rw [hP11] at hP
        obtain ⟨hf11_, hP⟩ := hP
        rw [hP5] at hP
        exact ⟨QPt (QA1 (QF3 hn6) (QA1 (QF2 hn8) (QA1 (QF8n (by decide) hnl10 hf11_) (QA1 (QF3 hn13) (QA1 (QF4 hn15) (QA1 (QF11 hl28 hf29_) (QA0))))))) hf32_, hP⟩
    have hge5 : ¬ (i5 : Int) < n5 := of_decide_eq_false h9
    obtain ⟨l33, s33, hone33, hl33, hr33, H⟩ := H.done hge5 hln5 (nl := nlF (.mk 11 0 (-1) (-1) (-1) 0 10 dReadShareGroupStateResponseTopicPartition) v) (sz := elZ true 7 10 dReadShareGroupStateResponseTopicPartition) rfl hpL5 rfl
    ((conv=>whnf);repeat(first|(refine mvT ?_;conv=>whnf)|(refine mvF ?_;conv=>whnf)|(refine cT (by rfl) ?_;conv=>whnf)|(refine cF (by rfl) ?_;conv=>whnf)))
    obtain ⟨P34, hP34⟩ : ∃ P : World → Prop, P = fun w => ListR true (elZ true 7 10 dReadShareGroupStateResponseTopicPartition) (elQ true 7 10 dReadShareGroupStateResponseTopicPartition ⟨w, fun k => k ≠ p⟩) w (fun k => k ≠ p) a5 (.mk 0 [] (decide (n5 ≤ 0)) l33 []) ∧ P1 w := ⟨_, rfl⟩
    replace H : St w0 G0 p pb s33 ((g1, 142, es1.flatten ++ [bcell u2_0, bcell u2_1, bcell u2_2, bcell u2_3, bcell u2_4, bcell u2_5, bcell u2_6, bcell u2_7, bcell u2_8, bcell u2_9, bcell u2_10, bcell u2_11, bcell u2_12, bcell u2_13, bcell u2_14, bcell u2_15, .slice none 0 0, .map none] ++ ((List.replicate (n1.toNat - (i1 + 1)) [.int .u8 0, .int .u8 0, .int .u8 0, .int .u8 0, .int .u8 0, .int .u8 0, .int .u8 0, .int .u8 0, .int .u8 0, .int .u8 0, .int .u8 0, .int .u8 0, .int .u8 0, .int .u8 0, .int .u8 0, .int .u8 0, .slice none 0 0, .map none]).flatten ++ post1)) :: L1) P34 w := by rw [hP34]; exact H
    refine H.st1 (v := a5) 16 (cells_one hone33) (hone33) rfl (by first | omega | (simp [hlen1]; done) | (simp [hlen1]; omega)) rfl (Nat.lt_of_lt_of_le (Nat.lt_succ_self _) (Nat.le_of_ble_eq_true rfl)) ?_
    intro w H
    ((conv=>whnf);repeat(first|(refine mvT ?_;conv=>whnf)|(refine mvF ?_;conv=>whnf)|(refine cT (by rfl) ?_;conv=>whnf)|(refine cF (by rfl) ?_;conv=>whnf)))
    replace H : St w0 G0 p pb s33 ((g1, 142, es1.flatten ++ [bcell u2_0, bcell u2_1, bcell u2_2, bcell u2_3, bcell u2_4, bcell u2_5, bcell u2_6, bcell u2_7, bcell u2_8, bcell u2_9, bcell u2_10, bcell u2_11, bcell u2_12, bcell u2_13, bcell u2_14, bcell u2_15, a5, .map none] ++ ((List.replicate (n1.toNat - (i1 + 1)) [.int .u8 0, .int .u8 0, .int .u8 0, .int .u8 0, .int .u8 0, .int .u8 0, .int .u8 0, .int .u8 0, .int .u8 0, .int .u8 0, .int .u8 0, .int .u8 0, .int .u8 0, .int .u8 0, .int .u8 0, .int .u8 0, .slice none 0 0, .map none]).flatten ++ post1)) :: L1) P34 w := H
    (refine mvB ?_;((conv=>whnf);repeat(first|(refine mvT ?_;conv=>whnf)|(refine mvF ?_;conv=>whnf)|(refine cT (by rfl) ?_;conv=>whnf)|(refine cF (by rfl) ?_;conv=>whnf))))
    refine VC.cutB (fun q : Value × List Tg × Rd => [(0, .pointer (some ⟨p, 0, none⟩)), (2, .bool false), (7, .pointer (some ⟨pb, 0, none⟩)), (8, .int .i16 v), (9, .bool fx), (10, .pointer (some ⟨p, 0, none⟩)), (13, .int .i32 n1), (12, .slice (some ⟨g1, 0, none⟩) n1.toNat cap1), (14, .int .i32 i1), (15, .pointer (some ⟨g1, 0 + (i1 : Int).toNat * 18, none⟩)), (16, .pointer (some ⟨g1, 0 + (i1 : Int).toNat * 18, none⟩))]) (fun q w' => rdTagsF fx s33 = q.2 ∧ St w0 G0 p pb q.2.2 ((g1, 142, es1.flatten ++ [bcell u2_0, bcell u2_1, bcell u2_2, bcell u2_3, bcell u2_4, bcell u2_5, bcell u2_6, bcell u2_7, bcell u2_8, bcell u2_9, bcell u2_10, bcell u2_11, bcell u2_12, bcell u2_13, bcell u2_14, bcell u2_15, a5, q.1] ++ ((List.replicate (n1.toNat - (i1 + 1)) [.int .u8 0, .int .u8 0, .int .u8 0, .int .u8 0, .int .u8 0, .int .u8 0, .int .u8 0, .int .u8 0, .int .u8 0, .int .u8 0, .int .u8 0, .int .u8 0, .int .u8 0, .int .u8 0, .int .u8 0, .int .u8 0, .slice none 0 0, .map none]).flatten ++ post1)) :: L1) (fun w => TGf p q.1 q.2.1 w ∧ P34 w) w') ?_ ?_
    · refine cI (by rfl) (fun hc=>?_) (fun hc=>?_)
      · ((conv=>whnf);repeat(first|(refine mvT ?_;conv=>whnf)|(refine mvF ?_;conv=>whnf)|(refine cT (by rfl) ?_;conv=>whnf)|(refine cF (by rfl) ?_;conv=>whnf)))
        refine Does.mono H.tags ?_
        rintro r w ⟨m, u, s', rfl, hone, hr, H⟩
        ((conv=>whnf);repeat(first|(refine mvT ?_;conv=>whnf)|(refine mvF ?_;conv=>whnf)|(refine cT (by rfl) ?_;conv=>whnf)|(refine cF (by rfl) ?_;conv=>whnf)))
        refine H.st1 (v := m) 17 (rfl) (hone) rfl (by first | omega | (simp [hlen1]; done) | (simp [hlen1]; omega)) rfl (Nat.lt_of_lt_of_le (Nat.lt_succ_self _) (Nat.le_of_ble_eq_true rfl)) ?_
        intro w H
        ((conv=>whnf);repeat(first|(refine mvT ?_;conv=>whnf)|(refine mvF ?_;conv=>whnf)|(refine cT (by rfl) ?_;conv=>whnf)|(refine cF (by rfl) ?_;conv=>whnf)))
        exact ⟨(m, u, s'), ⟨rfl, rfl, rfl, rfl, rfl, rfl, rfl, rfl, rfl, rfl, rfl, trivial⟩, by rw [rdTagsF, if_pos hc]; exact hr, H⟩
      · ((conv=>whnf);repeat(first|(refine mvT ?_;conv=>whnf)|(refine mvF ?_;conv=>whnf)|(refine cT (by rfl) ?_;conv=>whnf)|(refine cF (by rfl) ?_;conv=>whnf)))
        exact ⟨(.map none, [], s33), ⟨rfl, rfl, rfl, rfl, rfl, rfl, rfl, rfl, rfl, rfl, rfl, trivial⟩, by rw [rdTagsF, if_neg (by rw [hc]; decide)], H.add fun w' _ => TagsR.nil _ _⟩
    clear H
    rintro ⟨m36, u36, s36⟩ w ⟨htg, H⟩
    dsimp only at htg H
    ((conv=>whnf);repeat(first|(refine mvT ?_;conv=>whnf)|(refine mvF ?_;conv=>whnf)|(refine cT (by rfl) ?_;conv=>whnf)|(refine cF (by rfl) ?_;conv=>whnf)))
    obtain ⟨P37, hP37⟩ : ∃ P : World → Prop, P = fun w => TGf p m36 u36 w ∧ P34 w := ⟨_, rfl⟩
    replace H : St w0 G0 p pb s36 ((g1, 142, es1.flatten ++ [bcell u2_0, bcell u2_1, bcell u2_2, bcell u2_3, bcell u2_4, bcell u2_5, bcell u2_6, bcell u2_7, bcell u2_8, bcell u2_9, bcell u2_10, bcell u2_11, bcell u2_12, bcell u2_13, bcell u2_14, bcell u2_15, a5, m36] ++ ((List.replicate (n1.toNat - (i1 + 1)) [.int .u8 0, .int .u8 0, .int .u8 0, .int .u8 0, .int .u8 0, .int .u8 0, .int .u8 0, .int .u8 0, .int .u8 0, .int .u8 0, .int .u8 0, .int .u8 0, .int .u8 0, .int .u8 0, .int .u8 0, .int .u8 0, .slice none 0 0, .map none]).flatten ++ post1)) :: L1) P37 w := by rw [hP37]; exact H
    have hpart : rdPart 8 v fx dReadShareGroupStateResponseTopic si1 = (.mk 0 [] false [.mk 0 [u2_0, u2_1, u2_2, u2_3, u2_4, u2_5, u2_6, u2_7, u2_8, u2_9, u2_10, u2_11, u2_12, u2_13, u2_14, u2_15] false [] [], .mk 0 [] (decide (n5 ≤ 0)) l33 []] u36, s36) := by
      unfold rdPart rdPartW
      rw [rdAll_yes (df := dfT 8) (rdField7.trans hr2) ⟨by decide, has_all hv⟩, rdAll_yes (df := dfT 8) ((rdField_list _ _ _ _ _ _ _ _ _ _ _).trans hr33) ⟨by decide, has_all hv⟩]
      simp only [rdAll]
      rw [htg]
    refine ⟨i1 + 1, ⟨rfl, rfl, ?_, rfl, rfl, rfl, rfl, rfl, rfl, trivial⟩, ⟨by omega, ListI.back hgo1 (LoopI.next hes1 hez1 hrn1 hts1 (cur := [bcell u2_0, bcell u2_1, bcell u2_2, bcell u2_3, bcell u2_4, bcell u2_5, bcell u2_6, bcell u2_7, bcell u2_8, bcell u2_9, bcell u2_10, bcell u2_11, bcell u2_12, bcell u2_13, bcell u2_14, bcell u2_15, a5, m36]) (x := .mk 0 [] false [.mk 0 [u2_0, u2_1, u2_2, u2_3, u2_4, u2_5, u2_6, u2_7, u2_8, u2_9, u2_10, u2_11, u2_12, u2_13, u2_14, u2_15] false [] [], .mk 0 [] (decide (n5 ≤ 0)) l33 []] u36) (hpart) rfl (by rw [← hL1]; exact H) fun w hP => ?_)⟩, by omega⟩
    · show some (Value.int .i32 _) = _
      rw [IntKind.wrap_i32]
      simp only [Option.some.injEq, Value.int.injEq, true_and]
      omega
    · skip
      rw [hP37] at hP
      obtain ⟨hf37_, hP⟩ := hP
      rw [hP34] at hP
      obtain ⟨hf34_, hP⟩ := hP
      rw [hP1] at hP
      exact ⟨QPt (QA1 (QF7 (u := [u2_0, u2_1, u2_2, u2_3, u2_4, u2_5, u2_6, u2_7, u2_8, u2_9, u2_10, u2_11, u2_12, u2_13, u2_14, u2_15]) rfl) (QA1 (QF11 hl33 hf34_) (QA0))) hf37_, hP⟩
  have hge1 : ¬ (i1 : Int) < n1 := of_decide_eq_false h9
  obtain ⟨l38, s38, hone38, hl38, hr38, H⟩ := H.done hge1 hln1 (nl := nlF (.mk 11 0 (-1) (-1) (-1) 0 10 dReadShareGroupStateResponseTopic) v) (sz := elZ true 8 10 dReadShareGroupStateResponseTopic) rfl hpL1 rfl
  ((conv=>whnf);repeat(first|(refine mvT ?_;conv=>whnf)|(refine mvF ?_;conv=>whnf)|(refine cT (by rfl) ?_;conv=>whnf)|(refine cF (by rfl) ?_;conv=>whnf)))
  obtain ⟨P39, hP39⟩ : ∃ P : World → Prop, P = fun w => ListR true (elZ true 8 10 dReadShareGroupStateResponseTopic) (elQ true 8 10 dReadShareGroupStateResponseTopic ⟨w, fun k => k ≠ p⟩) w (fun k => k ≠ p) a1 (.mk 0 [] (decide (n1 ≤ 0)) l38 []) ∧ (fun _ => True) w := ⟨_, rfl⟩
  replace H : St w0 G0 p pb s38 ((p, ty, [] ++ [.int .i16 v, .slice none 0 0, .map none] ++ []) :: []) P39 w := by rw [hP39]; exact H
  refine H.st1 (v := a1) 1 (cells_one hone38) (hone38) rfl (by simp) rfl (Nat.lt_of_lt_of_le (Nat.lt_succ_self _) (Nat.le_of_ble_eq_true rfl)) ?_
  intro w H
  ((conv=>whnf);repeat(first|(refine mvT ?_;conv=>whnf)|(refine mvF ?_;conv=>whnf)|(refine cT (by rfl) ?_;conv=>whnf)|(refine cF (by rfl) ?_;conv=>whnf)))
  replace H : St w0 G0 p pb s38 ((p, ty, [] ++ [.int .i16 v, a1, .map none] ++ []) :: []) P39 w := H
  (refine mvB ?_;((conv=>whnf);repeat(first|(refine mvT ?_;conv=>whnf)|(refine mvF ?_;conv=>whnf)|(refine cT (by rfl) ?_;conv=>whnf)|(refine cF (by rfl) ?_;conv=>whnf))))
  refine VC.cutE (fun q : Value × List Tg × Rd => [(0, .pointer (some ⟨p, 0, none⟩)), (2, .bool false), (7, .pointer (some ⟨pb, 0, none⟩)), (8, .int .i16 v), (9, .bool fx), (10, .pointer (some ⟨p, 0, none⟩))]) (fun q w' => rdTagsF fx s38 = q.2 ∧ St w0 G0 p pb q.2.2 ((p, ty, [] ++ [.int .i16 v, a1, q.1] ++ []) :: []) (fun w => TGf p q.1 q.2.1 w ∧ P39 w) w') ?_ ?_
  · refine cI (by rfl) (fun hc=>?_) (fun hc=>?_)
    · ((conv=>whnf);repeat(first|(refine mvT ?_;conv=>whnf)|(refine mvF ?_;conv=>whnf)|(refine cT (by rfl) ?_;conv=>whnf)|(refine cF (by rfl) ?_;conv=>whnf)))
      refine Does.mono H.tags ?_
      rintro r w ⟨m, u, s', rfl, hone, hr, H⟩
      ((conv=>whnf);repeat(first|(refine mvT ?_;conv=>whnf)|(refine mvF ?_;conv=>whnf)|(refine cT (by rfl) ?_;conv=>whnf)|(refine cF (by rfl) ?_;conv=>whnf)))
      refine H.st1 (v := m) 2 (rfl) (hone) rfl (by simp) rfl (Nat.lt_of_lt_of_le (Nat.lt_succ_self _) (Nat.le_of_ble_eq_true rfl)) ?_
      intro w H
      ((conv=>whnf);repeat(first|(refine mvT ?_;conv=>whnf)|(refine mvF ?_;conv=>whnf)|(refine cT (by rfl) ?_;conv=>whnf)|(refine cF (by rfl) ?_;conv=>whnf)))
      exact ⟨(m, u, s'), ⟨rfl, rfl, rfl, rfl, rfl, rfl, trivial⟩, by rw [rdTagsF, if_pos hc]; exact hr, H⟩
    · ((conv=>whnf);repeat(first|(refine mvT ?_;conv=>whnf)|(refine mvF ?_;conv=>whnf)|(refine cT (by rfl) ?_;conv=>whnf)|(refine cF (by rfl) ?_;conv=>whnf)))
      exact ⟨(.map none, [], s38), ⟨rfl, rfl, rfl, rfl, rfl, rfl, trivial⟩, by rw [rdTagsF, if_neg (by rw [hc]; decide)], H.add fun w' _ => TagsR.nil _ _⟩
  clear H
  rintro ⟨m41, u41, s41⟩ w ⟨htg, H⟩
  dsimp only at htg H
  ((conv=>whnf);repeat(first|(refine mvT ?_;conv=>whnf)|(refine mvF ?_;conv=>whnf)|(refine cT (by rfl) ?_;conv=>whnf)|(refine cF (by rfl) ?_;conv=>whnf)))
  obtain ⟨P42, hP42⟩ : ∃ P : World → Prop, P = fun w => TGf p m41 u41 w ∧ P39 w := ⟨_, rfl⟩
  replace H : St w0 G0 p pb s41 ((p, ty, [] ++ [.int .i16 v, a1, m41] ++ []) :: []) P42 w := by rw [hP42]; exact H
  have hpart : rdPart 9 v fx dReadShareGroupStateResponse (l, false) = (.mk 0 [] false [.mk 0 [] (decide (n1 ≤ 0)) l38 []] u41, s41) := by
    unfold rdPart rdPartW
    rw [rdAll_yes (df := dfT 9) ((rdField_list _ _ _ _ _ _ _ _ _ _ _).trans hr38) ⟨by decide, has_all hv⟩]
    simp only [rdAll]
    rw [htg]
  refine Does.mono (H.done hL hp1) ?_
  rintro r w ⟨rfl, H⟩
  ((conv=>whnf);repeat(first|(refine mvT ?_;conv=>whnf)|(refine mvF ?_;conv=>whnf)|(refine cT (by rfl) ?_;conv=>whnf)|(refine cF (by rfl) ?_;conv=>whnf)))
  refine RdPost.end hpart H fun hP => ?_
  rw [hP42] at hP
  obtain ⟨hf42_, hP⟩ := hP
  rw [hP39] at hP
  obtain ⟨hf39_, hP⟩ := hP
  exact QPt (QA1 (QF11 hl38 hf39_) (QA0)) hf42_
end Go.Proofs.YtanohglljnajiaaGreatDoor.K
