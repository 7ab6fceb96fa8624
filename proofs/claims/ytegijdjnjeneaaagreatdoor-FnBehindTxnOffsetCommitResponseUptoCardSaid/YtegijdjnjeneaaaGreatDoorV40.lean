/- Reading of TxnOffsetCommitResponse. -/
import Derived.Test.YtegijdjnjeneaaaGreatDoorE5
set_option linter.unusedVariables false
set_option linter.unusedSimpArgs false
namespace Go.Proofs.YtegijdjnjeneaaaGreatDoor.K
open Go
set_option maxHeartbeats 4000000
set_option maxRecDepth 100000

abbrev dTxnOffsetCommitResponseTopicPartition : List Fd := [.mk 3 0 (-1) (-1) (-1) 0 0 [], .mk 2 0 (-1) (-1) (-1) 0 0 []]
abbrev dTxnOffsetCommitResponseTopic : List Fd := [.mk 8 0 5 (-1) (-1) 0 0 [], .mk 7 6 (-1) (-1) (-1) 0 0 [], .mk 11 0 (-1) (-1) (-1) 0 10 dTxnOffsetCommitResponseTopicPartition]
abbrev dTxnOffsetCommitResponse : List Fd := [.mk 3 0 (-1) (-1) (-1) 0 0 [], .mk 11 0 (-1) (-1) (-1) 0 10 dTxnOffsetCommitResponseTopic]
theorem sTxnOffsetCommitResponseTopicPartition (w : World) : Does X.P 82 #[] w fun r w' => FdsR w' (fun k => w.heap.size ≤ k) r dTxnOffsetCommitResponseTopicPartition ∧ Ext nob w w' := by
  have hx0 : Ext nob w w := Ext.refl _ _
  refine Does.go (X := X) (l := []) Tryz.func82 rfl (by kernel_rfl) (by kernel_rfl) _ rfl ?_
  ((conv=>whnf);repeat(first|(refine mvT ?_;conv=>whnf)|(refine mvF ?_;conv=>whnf)|(refine cT (by rfl) ?_;conv=>whnf)|(refine cF (by rfl) ?_;conv=>whnf)))
  have hxs := hx0
  intro b wb hb ho hx
  have hx0 := hx0.e0 hx
  ((conv=>whnf);repeat(first|(refine mvT ?_;conv=>whnf)|(refine mvF ?_;conv=>whnf)|(refine cT (by rfl) ?_;conv=>whnf)|(refine cF (by rfl) ?_;conv=>whnf)))
  refine ⟨?_, hx0⟩
  exact FdL.fds (cs := [[.int .i64 3, .int .i64 0, .int .i64 (-1), .int .i64 (-1), .int .i64 (-1), .int .i64 0, .int .i64 0, .slice none 0 0], [.int .i64 2, .int .i64 0, .int .i64 (-1), .int .i64 (-1), .int .i64 (-1), .int .i64 0, .int .i64 0, .slice none 0 0]])
    ⟨fdLeaf _ _ _ _ _ _ _ _ _, fdLeaf _ _ _ _ _ _ _ _ _, trivial⟩ ho rfl (by decide) (by have := hxs.size; omega)
theorem sTxnOffsetCommitResponseTopic (w : World) : Does X.P 37 #[] w fun r w' => FdsR w' (fun k => w.heap.size ≤ k) r dTxnOffsetCommitResponseTopic ∧ Ext nob w w' := by
  have hx0 : Ext nob w w := Ext.refl _ _
  refine Does.go (X := X) (l := []) Tryz.func37 rfl (by kernel_rfl) (by kernel_rfl) _ rfl ?_
  ((conv=>whnf);repeat(first|(refine mvT ?_;conv=>whnf)|(refine mvF ?_;conv=>whnf)|(refine cT (by rfl) ?_;conv=>whnf)|(refine cF (by rfl) ?_;conv=>whnf)))
  refine Does.mono (sTxnOffsetCommitResponseTopicPartition w) ?_
  rintro v2 wv2 ⟨hv2, hc⟩
  have hv2 := hv2.mono (F' := fun k => w.heap.size ≤ k) fun k _ h => Nat.le_trans hx0.size h
  obtain ⟨lv2, gv2, _⟩ := id hv2
  obtain ⟨av2, kv2, rfl, _⟩ := gv2.view
  ((conv=>whnf);repeat(first|(refine mvT ?_;conv=>whnf)|(refine mvF ?_;conv=>whnf)|(refine cT (by rfl) ?_;conv=>whnf)|(refine cF (by rfl) ?_;conv=>whnf)))
  have hx0 := hx0.e0 hc
  have hxs := hx0
  intro b wb hb ho hx
  have hx0 := hx0.e0 hx
  ((conv=>whnf);repeat(first|(refine mvT ?_;conv=>whnf)|(refine mvF ?_;conv=>whnf)|(refine cT (by rfl) ?_;conv=>whnf)|(refine cF (by rfl) ?_;conv=>whnf)))
  refine ⟨?_, hx0⟩
  exact FdL.fds (cs := [[.int .i64 8, .int .i64 0, .int .i64 5, .int .i64 (-1), .int .i64 (-1), .int .i64 0, .int .i64 0, .slice none 0 0], [.int .i64 7, .int .i64 6, .int .i64 (-1), .int .i64 (-1), .int .i64 (-1), .int .i64 0, .int .i64 0, .slice none 0 0], [.int .i64 11, .int .i64 0, .int .i64 (-1), .int .i64 (-1), .int .i64 (-1), .int .i64 0, .int .i64 10, .slice av2 lv2.length kv2]])
    ⟨fdLeaf _ _ _ _ _ _ _ _ _, fdLeaf _ _ _ _ _ _ _ _ _, FdC.of (hv2.e0 hx) _ _ _ _ _ _ _, trivial⟩ ho rfl (by decide) (by have := hxs.size; omega)
theorem sTxnOffsetCommitResponse (w : World) : Does X.P 16 #[] w fun r w' => Msg w' (fun k => w.heap.size ≤ k) r dTxnOffsetCommitResponse 3 ∧ Ext nob w w' := by
  have hx0 : Ext nob w w := Ext.refl _ _
  refine Does.go (X := X) (l := []) Tryz.func16 rfl (by kernel_rfl) (by kernel_rfl) _ rfl ?_
  ((conv=>whnf);repeat(first|(refine mvT ?_;conv=>whnf)|(refine mvF ?_;conv=>whnf)|(refine cT (by rfl) ?_;conv=>whnf)|(refine cF (by rfl) ?_;conv=>whnf)))
  intro b w1 hb ho hx
  have hx0 := hx0.e0 hx
  have ho := ho
  ((conv=>whnf);repeat(first|(refine mvT ?_;conv=>whnf)|(refine mvF ?_;conv=>whnf)|(refine cT (by rfl) ?_;conv=>whnf)|(refine cF (by rfl) ?_;conv=>whnf)))
  refine Does.mono (sTxnOffsetCommitResponseTopic w1) ?_
  rintro v1 wv1 ⟨hv1, hc⟩
  have hv1 := hv1.mono (F' := fun k => w.heap.size ≤ k ∧ b < k) fun k _ h => ⟨Nat.le_trans hx0.size h, Nat.lt_of_lt_of_le ho.lt h⟩
  obtain ⟨lv1, gv1, _⟩ := id hv1
  obtain ⟨av1, kv1, rfl, _⟩ := gv1.view
  ((conv=>whnf);repeat(first|(refine mvT ?_;conv=>whnf)|(refine mvF ?_;conv=>whnf)|(refine cT (by rfl) ?_;conv=>whnf)|(refine cF (by rfl) ?_;conv=>whnf)))
  have hx0 := hx0.e0 hc
  have ho := ho.e0 hc
  have hxs := hx0
  intro b2 w2 hb2 ho2 hx2
  ((conv=>whnf);repeat(first|(refine mvT ?_;conv=>whnf)|(refine mvF ?_;conv=>whnf)|(refine cT (by rfl) ?_;conv=>whnf)|(refine cF (by rfl) ?_;conv=>whnf)))
  have hx0 := hx0.e0 hx2
  refine ⟨_, _, ho.e0 hx2, rfl, rfl, rfl, ?_⟩
  intro w3 ho3 hx3
  have hx03 := hx0.st hx3 hb
  ((conv=>whnf);repeat(first|(refine mvT ?_;conv=>whnf)|(refine mvF ?_;conv=>whnf)|(refine cT (by rfl) ?_;conv=>whnf)|(refine cF (by rfl) ?_;conv=>whnf)))
  refine ⟨_, rfl, ho3.cells, ?_⟩
  refine ⟨⟨_, rfl, ?_⟩, hx03⟩
  have ho2 := ho2.ext hx3 (by have := ho.lt; omega)
  have hs := hx0.size
  have hs2 : w.heap.size ≤ b2 := Nat.le_trans hxs.size hb2
  exact FdL.fds (cs := [[.int .i64 3, .int .i64 0, .int .i64 (-1), .int .i64 (-1), .int .i64 (-1), .int .i64 0, .int .i64 0, .slice none 0 0], [.int .i64 11, .int .i64 0, .int .i64 (-1), .int .i64 (-1), .int .i64 (-1), .int .i64 0, .int .i64 10, .slice av1 lv1.length kv1]])
    ⟨fdLeaf _ _ _ _ _ _ _ _ _, FdC.of (FdsR.mono (FdsR.ext (FdsR.e0 hv1 hx2) hx3 fun k _ h1 h2 => by omega) fun k _ h => h.1) _ _ _ _ _ _ _, trivial⟩ ho2 rfl (by decide) (by omega)
theorem dfTxnOffsetCommitResponseTopicPartition {w : World} {q o : Nat} {T : TypeId} {pre cur post : List Value} (ho : Own w q T (pre ++ cur ++ post)) (hp : pre.length = o) (hl : cur.length = 3) :
    Does X.P 121 #[.pointer (some ⟨q, o, none⟩)] w fun r w' => Own w' q T (pre ++ cur ++ post) ∧ Ext (fun k => k = q) w w' := by
  have hx : Ext (fun k => k = q) w w := Ext.refl _ _
  refine Does.go (X := X) (l := [_]) Tryz.func121 rfl (by kernel_rfl) (by kernel_rfl) _ rfl ?_
  ((conv=>whnf);repeat(first|(refine mvT ?_;conv=>whnf)|(refine mvF ?_;conv=>whnf)|(refine cT (by rfl) ?_;conv=>whnf)|(refine cF (by rfl) ?_;conv=>whnf)))
  exact ⟨ho, hx⟩
theorem dfTxnOffsetCommitResponseTopic {w : World} {q o : Nat} {T : TypeId} {pre cur post : List Value} (ho : Own w q T (pre ++ cur ++ post)) (hp : pre.length = o) (hl : cur.length = 19) :
    Does X.P 120 #[.pointer (some ⟨q, o, none⟩)] w fun r w' => Own w' q T (pre ++ cur ++ post) ∧ Ext (fun k => k = q) w w' := by
  have hx : Ext (fun k => k = q) w w := Ext.refl _ _
  refine Does.go (X := X) (l := [_]) Tryz.func120 rfl (by kernel_rfl) (by kernel_rfl) _ rfl ?_
  ((conv=>whnf);repeat(first|(refine mvT ?_;conv=>whnf)|(refine mvF ?_;conv=>whnf)|(refine cT (by rfl) ?_;conv=>whnf)|(refine cF (by rfl) ?_;conv=>whnf)))
  exact ⟨ho, hx⟩
theorem dfTxnOffsetCommitResponse {w : World} {q o : Nat} {T : TypeId} {pre cur post : List Value} (ho : Own w q T (pre ++ cur ++ post)) (hp : pre.length = o) (hl : cur.length = 4) :
    Does X.P 81 #[.pointer (some ⟨q, o, none⟩)] w fun r w' => Own w' q T (pre ++ cur ++ post) ∧ Ext (fun k => k = q) w w' := by
  have hx : Ext (fun k => k = q) w w := Ext.refl _ _
  refine Does.go (X := X) (l := [_]) Tryz.func81 rfl (by kernel_rfl) (by kernel_rfl) _ rfl ?_
  ((conv=>whnf);repeat(first|(refine mvT ?_;conv=>whnf)|(refine mvF ?_;conv=>whnf)|(refine cT (by rfl) ?_;conv=>whnf)|(refine cF (by rfl) ?_;conv=>whnf)))
  exact ⟨ho, hx⟩
theorem readTxnOffsetCommitResponse {w0 : World} {F : Nat → Prop} {p : Nat} {ty : TypeId} {v : Int} {x ev : Value} {l : List UInt8} (hL : Laid w0 ev) (hp : Own w0 p ty [.int .i16 v, .int .i32 0, .slice none 0 0, .map none]) (hx : Bytes w0 F x l) (hF : ∀ k, F k → k ≠ p) (hv : 0 ≤ v) (hp1 : p ≠ 1) :
    Does X.P 83 #[.pointer (some ⟨p, 0, none⟩), x, .bool false] w0 fun r w' => RdPost w0 p ty v (decide (v ≥ 3)) true dTxnOffsetCommitResponse ev l r w' := by
  have hpl := hp.lt
  obtain ⟨fx, hfx⟩ : ∃ fx, fx = decide (v ≥ 3) := ⟨_, rfl⟩
  rw [← hfx]
  obtain ⟨G0, hG0, hx⟩ : ∃ G0 : Nat → Prop, (∀ k, G0 k → k < w0.heap.size ∧ k ≠ p) ∧ Bytes w0 G0 x l := ⟨fun k => F k ∧ k < w0.heap.size, fun k h => ⟨h.2, hF k h.1⟩, Sl.mono hx fun k hk h => ⟨h, hk⟩⟩
  obtain ⟨a0, c0, rfl, _⟩ := hx.view
  refine Does.go (X := X) (l := [_, _, _]) Tryz.func83 rfl (by kernel_rfl) (by kernel_rfl) _ rfl ?_
  ((conv=>whnf);repeat(first|(refine mvT ?_;conv=>whnf)|(refine mvF ?_;conv=>whnf)|(refine cT (by rfl) ?_;conv=>whnf)|(refine cF (by rfl) ?_;conv=>whnf)))
  refine Does.mono (dfTxnOffsetCommitResponse (pre := []) (cur := [.int .i16 v, .int .i32 0, .slice none 0 0, .map none]) (post := []) (by simpa using hp) rfl rfl) ?_
  rintro rd wd ⟨hpd, hxd⟩
  ((conv=>whnf);repeat(first|(refine mvT ?_;conv=>whnf)|(refine mvF ?_;conv=>whnf)|(refine cT (by rfl) ?_;conv=>whnf)|(refine cF (by rfl) ?_;conv=>whnf)))
  intro pb w1 hpb hb hx1
  ((conv=>whnf);repeat(first|(refine mvT ?_;conv=>whnf)|(refine mvF ?_;conv=>whnf)|(refine cT (by rfl) ?_;conv=>whnf)|(refine cF (by rfl) ?_;conv=>whnf)))
  refine st_all [.slice a0 l.length c0, .bool false] hb rfl rfl rfl ?_
  intro w hb hx2
  ((conv=>whnf);repeat(first|(refine mvT ?_;conv=>whnf)|(refine mvF ?_;conv=>whnf)|(refine cT (by rfl) ?_;conv=>whnf)|(refine cF (by rfl) ?_;conv=>whnf)))
  have hsd := hxd.size
  have hwp : w0.heap.size ≤ pb := by omega
  have he1 : Ext nob wd w := hx1.trans hx2 fun k hk h => by omega
  have hpw : Own w p ty [.int .i16 v, .int .i32 0, .slice none 0 0, .map none] := by have := hpd.e0 he1; simpa using this
  have he := hxd.tr0 he1
  have H := St.init hpw hb (hx.ext he fun k _ h => (hG0 k h).2) hG0 he hpl hwp
  clear hpd hxd hx1 hx2 hb hpw he1 hp
  refine ldS (H.cell (o := 0) rfl (k := 0) rfl) ?_;((conv=>whnf);repeat(first|(refine mvT ?_;conv=>whnf)|(refine mvF ?_;conv=>whnf)|(refine cT (by rfl) ?_;conv=>whnf)|(refine cF (by rfl) ?_;conv=>whnf)))
  rw [← hfx]
  (refine mvB ?_;((conv=>whnf);repeat(first|(refine mvT ?_;conv=>whnf)|(refine mvF ?_;conv=>whnf)|(refine cT (by rfl) ?_;conv=>whnf)|(refine cF (by rfl) ?_;conv=>whnf))))
  have hup0 : tailBad 9 v fx dTxnOffsetCommitResponse (l, false) = true → (rdPart 9 v fx dTxnOffsetCommitResponse (l, false)).2.2 = true := id
  refine Does.mono H.int32 ?_
  rintro r w ⟨n1, s1, rfl, hn1, hr1, H⟩
  ((conv=>whnf);repeat(first|(refine mvT ?_;conv=>whnf)|(refine mvF ?_;conv=>whnf)|(refine cT (by rfl) ?_;conv=>whnf)|(refine cF (by rfl) ?_;conv=>whnf)))
  refine H.st1 (v := .int .i32 n1) 1 (rfl) (rfl) rfl (by simp) rfl (Nat.lt_of_lt_of_le (Nat.lt_succ_self _) (Nat.le_of_ble_eq_true rfl)) ?_
  intro w H
  ((conv=>whnf);repeat(first|(refine mvT ?_;conv=>whnf)|(refine mvF ?_;conv=>whnf)|(refine cT (by rfl) ?_;conv=>whnf)|(refine cF (by rfl) ?_;conv=>whnf)))
  replace H : St w0 G0 p pb s1 ((p, ty, [] ++ [.int .i16 v, .int .i32 n1, .slice none 0 0, .map none] ++ []) :: []) (fun _ => True) w := H
  refine ldS (H.cell (o := 0) rfl (k := 2) rfl) ?_;((conv=>whnf);repeat(first|(refine mvT ?_;conv=>whnf)|(refine mvF ?_;conv=>whnf)|(refine cT (by rfl) ?_;conv=>whnf)|(refine cF (by rfl) ?_;conv=>whnf)))
  (refine mvB ?_;((conv=>whnf);repeat(first|(refine mvT ?_;conv=>whnf)|(refine mvF ?_;conv=>whnf)|(refine cT (by rfl) ?_;conv=>whnf)|(refine cF (by rfl) ?_;conv=>whnf))))
  refine VC.cutE (fun q : Int × Rd => [(14, .int .i32 q.1), (13, .slice none 0 0), (0, .pointer (some ⟨p, 0, none⟩)), (2, .bool false), (7, .pointer (some ⟨pb, 0, none⟩)), (8, .int .i16 v), (9, .bool fx), (10, .pointer (some ⟨p, 0, none⟩))]) (fun q w' => (-2147483648 ≤ q.1 ∧ q.1 ≤ 2147483647) ∧ rdLn fx s1 = q ∧ St w0 G0 p pb q.2 ((p, ty, [] ++ [.int .i16 v, .int .i32 n1, .slice none 0 0, .map none] ++ []) :: []) (fun _ => True) w') ?_ ?_
  · refine cI (by rfl) (fun hc=>?_) (fun hc=>?_)
    · ((conv=>whnf);repeat(first|(refine mvT ?_;conv=>whnf)|(refine mvF ?_;conv=>whnf)|(refine cT (by rfl) ?_;conv=>whnf)|(refine cF (by rfl) ?_;conv=>whnf)))
      refine Does.mono H.lnc ?_
      rintro r w ⟨n, s', rfl, hn, hr, H⟩
      ((conv=>whnf);repeat(first|(refine mvT ?_;conv=>whnf)|(refine mvF ?_;conv=>whnf)|(refine cT (by rfl) ?_;conv=>whnf)|(refine cF (by rfl) ?_;conv=>whnf)))
      exact ⟨(n, s'), ⟨rfl, rfl, rfl, rfl, rfl, rfl, rfl, rfl, trivial⟩, hn, by rw [hc]; exact hr, H⟩
    · ((conv=>whnf);repeat(first|(refine mvT ?_;conv=>whnf)|(refine mvF ?_;conv=>whnf)|(refine cT (by rfl) ?_;conv=>whnf)|(refine cF (by rfl) ?_;conv=>whnf)))
      refine Does.mono H.lnp ?_
      rintro r w ⟨n, s', rfl, hn, hr, H⟩
      ((conv=>whnf);repeat(first|(refine mvT ?_;conv=>whnf)|(refine mvF ?_;conv=>whnf)|(refine cT (by rfl) ?_;conv=>whnf)|(refine cF (by rfl) ?_;conv=>whnf)))
      exact ⟨(n, s'), ⟨rfl, rfl, rfl, rfl, rfl, rfl, rfl, rfl, trivial⟩, hn, by rw [hc]; exact hr, H⟩
  clear H
  rintro ⟨n3, s3⟩ w ⟨hn3, hln3, H⟩
  dsimp only at hn3 hln3 H
  ((conv=>whnf);repeat(first|(refine mvT ?_;conv=>whnf)|(refine mvF ?_;conv=>whnf)|(refine cT (by rfl) ?_;conv=>whnf)|(refine cF (by rfl) ?_;conv=>whnf)))
  refine Does.mono H.ok ?_
  rintro r w ⟨rfl, H⟩
  ((conv=>whnf);repeat(first|(refine mvT ?_;conv=>whnf)|(refine mvF ?_;conv=>whnf)|(refine cT (by rfl) ?_;conv=>whnf)|(refine cF (by rfl) ?_;conv=>whnf)))
  refine cI (by rfl) (fun hbd=>?_) (fun hbd=>?_)
  · have hbd : s3.2 = true := by simpa using hbd
    ((conv=>whnf);repeat(first|(refine mvT ?_;conv=>whnf)|(refine mvF ?_;conv=>whnf)|(refine cT (by rfl) ?_;conv=>whnf)|(refine cF (by rfl) ?_;conv=>whnf)))
    refine Does.mono (H.done hL hp1) ?_
    rintro r w ⟨rfl, H⟩
    ((conv=>whnf);repeat(first|(refine mvT ?_;conv=>whnf)|(refine mvF ?_;conv=>whnf)|(refine cT (by rfl) ?_;conv=>whnf)|(refine cF (by rfl) ?_;conv=>whnf)))
    refine RdPost.early hbd (hup0 (?_)) H
    rw [tail_yes (rdField3.trans hr1) ⟨by decide, has_all hv⟩, tail_len ⟨by decide, has_all hv⟩ hln3 hbd]
  have hbd : s3.2 = false := by simpa using hbd
  clear hbd
  ((conv=>whnf);repeat(first|(refine mvT ?_;conv=>whnf)|(refine mvF ?_;conv=>whnf)|(refine cT (by rfl) ?_;conv=>whnf)|(refine cF (by rfl) ?_;conv=>whnf)))
  refine cut_zero ?_
  ((conv=>whnf);repeat(first|(refine mvT ?_;conv=>whnf)|(refine mvF ?_;conv=>whnf)|(refine cT (by rfl) ?_;conv=>whnf)|(refine cF (by rfl) ?_;conv=>whnf)))
  refine VC.cutE (fun a : Value => [(14, .int .i32 n3), (13, a), (0, .pointer (some ⟨p, 0, none⟩)), (2, .bool false), (7, .pointer (some ⟨pb, 0, none⟩)), (8, .int .i16 v), (9, .bool fx), (10, .pointer (some ⟨p, 0, none⟩))]) (fun a w' => ListI w0 G0 p pb 100 [str [], .int .u8 0, .int .u8 0, .int .u8 0, .int .u8 0, .int .u8 0, .int .u8 0, .int .u8 0, .int .u8 0, .int .u8 0, .int .u8 0, .int .u8 0, .int .u8 0, .int .u8 0, .int .u8 0, .int .u8 0, .int .u8 0, .slice none 0 0, .map none] (elR 8 v fx 10 dTxnOffsetCommitResponseTopic) (elQ true 8 10 dTxnOffsetCommitResponseTopic) s3 n3 (decide (n3 ≤ 0)) ((p, ty, [] ++ [.int .i16 v, .int .i32 n1, .slice none 0 0, .map none] ++ []) :: []) (fun _ => True) a 0 w') ?_ ?_
  · refine cI (by rfl) (fun hps=>?_) (fun hps=>?_)
    · have hps : 0 < n3 := by have := of_decide_eq_true hps; omega
      ((conv=>whnf);repeat(first|(refine mvT ?_;conv=>whnf)|(refine mvF ?_;conv=>whnf)|(refine cT (by rfl) ?_;conv=>whnf)|(refine cF (by rfl) ?_;conv=>whnf)))
      refine H.grow hps hn3.2 (by decide) rfl rfl (by decide) ?_
      intro g cap post w hc1 hc2 H
      ((conv=>whnf);repeat(first|(refine mvT ?_;conv=>whnf)|(refine mvF ?_;conv=>whnf)|(refine cT (by rfl) ?_;conv=>whnf)|(refine cF (by rfl) ?_;conv=>whnf)))
      exact ⟨_, ⟨rfl, rfl, rfl, rfl, rfl, rfl, rfl, rfl, trivial⟩, ListI.some hps (decide_eq_false (by omega)) hc1 hc2 H⟩
    · have hps : n3 ≤ 0 := by have := of_decide_eq_false hps; omega
      ((conv=>whnf);repeat(first|(refine mvT ?_;conv=>whnf)|(refine mvF ?_;conv=>whnf)|(refine cT (by rfl) ?_;conv=>whnf)|(refine cF (by rfl) ?_;conv=>whnf)))
      exact ⟨_, ⟨rfl, rfl, rfl, rfl, rfl, rfl, rfl, rfl, trivial⟩, ListI.none hps (decide_eq_true hps) H⟩
  clear H
  rintro a3 w H
  ((conv=>whnf);repeat(first|(refine mvT ?_;conv=>whnf)|(refine mvF ?_;conv=>whnf)|(refine cT (by rfl) ?_;conv=>whnf)|(refine cF (by rfl) ?_;conv=>whnf)))
  have hpL3 : inL ((p, ty, [] ++ [.int .i16 v, .int .i32 n1, .slice none 0 0, .map none] ++ []) :: []) p := inL.head _ _
  refine VL.loop (fun i : Nat => [(14, .int .i32 n3), (13, a3), (15, .int .i32 i), (0, .pointer (some ⟨p, 0, none⟩)), (2, .bool false), (7, .pointer (some ⟨pb, 0, none⟩)), (8, .int .i16 v), (9, .bool fx), (10, .pointer (some ⟨p, 0, none⟩))]) (fun i w' => i ≤ 2147483647 ∧ ListI w0 G0 p pb 100 [str [], .int .u8 0, .int .u8 0, .int .u8 0, .int .u8 0, .int .u8 0, .int .u8 0, .int .u8 0, .int .u8 0, .int .u8 0, .int .u8 0, .int .u8 0, .int .u8 0, .int .u8 0, .int .u8 0, .int .u8 0, .int .u8 0, .slice none 0 0, .map none] (elR 8 v fx 10 dTxnOffsetCommitResponseTopic) (elQ true 8 10 dTxnOffsetCommitResponseTopic) s3 n3 (decide (n3 ≤ 0)) ((p, ty, [] ++ [.int .i16 v, .int .i32 n1, .slice none 0 0, .map none] ++ []) :: []) (fun _ => True) a3 i w') (fun i => n3.toNat - i) 0 ⟨rfl, rfl, rfl, rfl, rfl, rfl, rfl, rfl, rfl, trivial⟩ ⟨by decide, H⟩ ?_
  clear H
  rintro i3 w ⟨hi3, H⟩
  ((conv=>whnf);repeat(first|(refine mvT ?_;conv=>whnf)|(refine mvF ?_;conv=>whnf)|(refine cT (by rfl) ?_;conv=>whnf)|(refine cF (by rfl) ?_;conv=>whnf)))
  refine cI (by rfl) (fun h9=>?_) (fun h9=>?_)
  · have hlt3 : (i3 : Int) < n3 := of_decide_eq_true h9
    obtain ⟨g3, cap3, post3, rfl, hgo3, HI⟩ := H.go hlt3
    obtain ⟨es3, ts3, si3, hes3, hez3, hrn3, hts3, hlen1, H⟩ := HI.open hgo3.2.2.2.2
    obtain ⟨L3, hL3⟩ : ∃ L : List Ob, L = ((p, ty, [] ++ [.int .i16 v, .int .i32 n1, .slice none 0 0, .map none] ++ []) :: []) := ⟨_, rfl⟩
    rw [← hL3] at H hpL3
    obtain ⟨P3, hP3⟩ : ∃ P : World → Prop, P = fun w => (∀ (j : Nat) (c : List Value) (y : T), es3[j]? = some c → ts3[j]? = some y → elQ true 8 10 dTxnOffsetCommitResponseTopic ⟨w, fun k => k ≠ p⟩ c y) ∧ (fun _ => True) w := ⟨_, rfl⟩
    rw [← hP3] at H
    replace H : St w0 G0 p pb si3 ((g3, 100, es3.flatten ++ [str [], .int .u8 0, .int .u8 0, .int .u8 0, .int .u8 0, .int .u8 0, .int .u8 0, .int .u8 0, .int .u8 0, .int .u8 0, .int .u8 0, .int .u8 0, .int .u8 0, .int .u8 0, .int .u8 0, .int .u8 0, .int .u8 0, .slice none 0 0, .map none] ++ ((List.replicate (n3.toNat - (i3 + 1)) [str [], .int .u8 0, .int .u8 0, .int .u8 0, .int .u8 0, .int .u8 0, .int .u8 0, .int .u8 0, .int .u8 0, .int .u8 0, .int .u8 0, .int .u8 0, .int .u8 0, .int .u8 0, .int .u8 0, .int .u8 0, .int .u8 0, .slice none 0 0, .map none]).flatten ++ post3)) :: L3) P3 w := H
    ((conv=>whnf);repeat(first|(refine mvT ?_;conv=>whnf)|(refine mvF ?_;conv=>whnf)|(refine cT (by rfl) ?_;conv=>whnf)|(refine cF (by rfl) ?_;conv=>whnf)))
    refine ⟨g3, 0, rfl, ⟨by omega, by omega⟩, ?_⟩
    ((conv=>whnf);repeat(first|(refine mvT ?_;conv=>whnf)|(refine mvF ?_;conv=>whnf)|(refine cT (by rfl) ?_;conv=>whnf)|(refine cF (by rfl) ?_;conv=>whnf)))
    refine Does.mono (dfTxnOffsetCommitResponseTopic (pre := es3.flatten) (cur := [str [], .int .u8 0, .int .u8 0, .int .u8 0, .int .u8 0, .int .u8 0, .int .u8 0, .int .u8 0, .int .u8 0, .int .u8 0, .int .u8 0, .int .u8 0, .int .u8 0, .int .u8 0, .int .u8 0, .int .u8 0, .int .u8 0, .slice none 0 0, .map none]) (post := ((List.replicate (n3.toNat - (i3 + 1)) [str [], .int .u8 0, .int .u8 0, .int .u8 0, .int .u8 0, .int .u8 0, .int .u8 0, .int .u8 0, .int .u8 0, .int .u8 0, .int .u8 0, .int .u8 0, .int .u8 0, .int .u8 0, .int .u8 0, .int .u8 0, .int .u8 0, .slice none 0 0, .map none]).flatten ++ post3)) H.head (by first | (rw [hlen1]; simp; done) | (simp [hlen1]; done) | (simp [hlen1]; omega)) rfl) ?_
    rintro rd w2 ⟨hdf, hxd⟩
    replace H := H.put hdf hxd
    clear hdf hxd
    replace H : St w0 G0 p pb si3 ((g3, 100, es3.flatten ++ [str [], .int .u8 0, .int .u8 0, .int .u8 0, .int .u8 0, .int .u8 0, .int .u8 0, .int .u8 0, .int .u8 0, .int .u8 0, .int .u8 0, .int .u8 0, .int .u8 0, .int .u8 0, .int .u8 0, .int .u8 0, .int .u8 0, .slice none 0 0, .map none] ++ ((List.replicate (n3.toNat - (i3 + 1)) [str [], .int .u8 0, .int .u8 0, .int .u8 0, .int .u8 0, .int .u8 0, .int .u8 0, .int .u8 0, .int .u8 0, .int .u8 0, .int .u8 0, .int .u8 0, .int .u8 0, .int .u8 0, .int .u8 0, .int .u8 0, .int .u8 0, .slice none 0 0, .map none]).flatten ++ post3)) :: L3) P3 w2 := H
    ((conv=>whnf);repeat(first|(refine mvT ?_;conv=>whnf)|(refine mvF ?_;conv=>whnf)|(refine cT (by rfl) ?_;conv=>whnf)|(refine cF (by rfl) ?_;conv=>whnf)))
    have hup3 : tailBad 8 v fx dTxnOffsetCommitResponseTopic si3 = true → (rdPart 9 v fx dTxnOffsetCommitResponse (l, false)).2.2 = true := by
      intro hb
      refine hup0 ?_
      rw [tail_yes (rdField3.trans hr1) ⟨by decide, has_all hv⟩, tail_el ⟨by decide, has_all hv⟩ hln3 hgo3.2.2.2.2 hrn3 hb]
    intro cq hcq
    obtain rfl : cq = true := by rw [← hcq]; exact decide_eq_true hv
    ((conv=>whnf);repeat(first|(refine mvT ?_;conv=>whnf)|(refine mvF ?_;conv=>whnf)|(refine cT (by rfl) ?_;conv=>whnf)|(refine cF (by rfl) ?_;conv=>whnf)))
    refine VC.cutE (fun q : List UInt8 × Rd => [(0, .pointer (some ⟨p, 0, none⟩)), (2, .bool false), (7, .pointer (some ⟨pb, 0, none⟩)), (8, .int .i16 v), (9, .bool fx), (10, .pointer (some ⟨p, 0, none⟩)), (14, .int .i32 n3), (13, .slice (some ⟨g3, 0, none⟩) n3.toNat cap3), (15, .int .i32 i3), (16, .pointer (some ⟨g3, 0 + (i3 : Int).toNat * 19, none⟩)), (17, .pointer (some ⟨g3, 0 + (i3 : Int).toNat * 19, none⟩))]) (fun q w' => (if hasF (.mk 8 0 5 (-1) (-1) 0 0 []) v = true then rdField 8 v fx (.mk 8 0 5 (-1) (-1) 0 0 []) si3 else (dfT 8 (.mk 8 0 5 (-1) (-1) 0 0 []), si3)) = (.mk 0 q.1 false [] [], q.2) ∧ St w0 G0 p pb q.2 ((g3, 100, es3.flatten ++ [str q.1, .int .u8 0, .int .u8 0, .int .u8 0, .int .u8 0, .int .u8 0, .int .u8 0, .int .u8 0, .int .u8 0, .int .u8 0, .int .u8 0, .int .u8 0, .int .u8 0, .int .u8 0, .int .u8 0, .int .u8 0, .int .u8 0, .slice none 0 0, .map none] ++ ((List.replicate (n3.toNat - (i3 + 1)) [str [], .int .u8 0, .int .u8 0, .int .u8 0, .int .u8 0, .int .u8 0, .int .u8 0, .int .u8 0, .int .u8 0, .int .u8 0, .int .u8 0, .int .u8 0, .int .u8 0, .int .u8 0, .int .u8 0, .int .u8 0, .int .u8 0, .slice none 0 0, .map none]).flatten ++ post3)) :: L3) P3 w') ?_ ?_
    · refine cI (by rfl) (fun hcv=>?_) (fun hcv=>?_)
      · ((conv=>whnf);repeat(first|(refine mvT ?_;conv=>whnf)|(refine mvF ?_;conv=>whnf)|(refine cT (by rfl) ?_;conv=>whnf)|(refine cF (by rfl) ?_;conv=>whnf)))
        (refine mvB ?_;((conv=>whnf);repeat(first|(refine mvT ?_;conv=>whnf)|(refine mvF ?_;conv=>whnf)|(refine cT (by rfl) ?_;conv=>whnf)|(refine cF (by rfl) ?_;conv=>whnf))))
        refine VC.cutE (fun q : List UInt8 × Rd => [(18, str q.1), (0, .pointer (some ⟨p, 0, none⟩)), (2, .bool false), (7, .pointer (some ⟨pb, 0, none⟩)), (8, .int .i16 v), (9, .bool fx), (10, .pointer (some ⟨p, 0, none⟩)), (14, .int .i32 n3), (13, .slice (some ⟨g3, 0, none⟩) n3.toNat cap3), (15, .int .i32 i3), (16, .pointer (some ⟨g3, 0 + (i3 : Int).toNat * 19, none⟩)), (17, .pointer (some ⟨g3, 0 + (i3 : Int).toNat * 19, none⟩))]) (fun q w' => rdTx fx si3 = q ∧ St w0 G0 p pb q.2 ((g3, 100, es3.flatten ++ [str [], .int .u8 0, .int .u8 0, .int .u8 0, .int .u8 0, .int .u8 0, .int .u8 0, .int .u8 0, .int .u8 0, .int .u8 0, .int .u8 0, .int .u8 0, .int .u8 0, .int .u8 0, .int .u8 0, .int .u8 0, .int .u8 0, .slice none 0 0, .map none] ++ ((List.replicate (n3.toNat - (i3 + 1)) [str [], .int .u8 0, .int .u8 0, .int .u8 0, .int .u8 0, .int .u8 0, .int .u8 0, .int .u8 0, .int .u8 0, .int .u8 0, .int .u8 0, .int .u8 0, .int .u8 0, .int .u8 0, .int .u8 0, .int .u8 0, .int .u8 0, .slice none 0 0, .map none]).flatten ++ post3)) :: L3) P3 w') ?_ ?_
        · refine cI (by rfl) (fun hc=>?_) (fun hc=>?_)
          · ((conv=>whnf);repeat(first|(refine mvT ?_;conv=>whnf)|(refine mvF ?_;conv=>whnf)|(refine cT (by rfl) ?_;conv=>whnf)|(refine cF (by rfl) ?_;conv=>whnf)))
            refine Does.mono H.txc ?_
            rintro r w ⟨u, s', rfl, hr, H⟩
            ((conv=>whnf);repeat(first|(refine mvT ?_;conv=>whnf)|(refine mvF ?_;conv=>whnf)|(refine cT (by rfl) ?_;conv=>whnf)|(refine cF (by rfl) ?_;conv=>whnf)))
            exact ⟨(u, s'), ⟨rfl, rfl, rfl, rfl, rfl, rfl, rfl, rfl, rfl, rfl, rfl, rfl, trivial⟩, by rw [hc]; exact hr, H⟩
          · ((conv=>whnf);repeat(first|(refine mvT ?_;conv=>whnf)|(refine mvF ?_;conv=>whnf)|(refine cT (by rfl) ?_;conv=>whnf)|(refine cF (by rfl) ?_;conv=>whnf)))
            refine Does.mono H.txp ?_
            rintro r w ⟨u, s', rfl, hr, H⟩
            ((conv=>whnf);repeat(first|(refine mvT ?_;conv=>whnf)|(refine mvF ?_;conv=>whnf)|(refine cT (by rfl) ?_;conv=>whnf)|(refine cF (by rfl) ?_;conv=>whnf)))
            exact ⟨(u, s'), ⟨rfl, rfl, rfl, rfl, rfl, rfl, rfl, rfl, rfl, rfl, rfl, rfl, trivial⟩, by rw [hc]; exact hr, H⟩
        clear H
        rintro ⟨u5, s5⟩ w ⟨hr5, H⟩
        dsimp only at hr5 H
        ((conv=>whnf);repeat(first|(refine mvT ?_;conv=>whnf)|(refine mvF ?_;conv=>whnf)|(refine cT (by rfl) ?_;conv=>whnf)|(refine cF (by rfl) ?_;conv=>whnf)))
        refine H.st1 (v := str u5) 0 (rfl) (rfl) rfl (by first | omega | (simp [hlen1]; done) | (simp [hlen1]; omega)) rfl (Nat.lt_of_lt_of_le (Nat.lt_succ_self _) (Nat.le_of_ble_eq_true rfl)) ?_
        intro w H
        ((conv=>whnf);repeat(first|(refine mvT ?_;conv=>whnf)|(refine mvF ?_;conv=>whnf)|(refine cT (by rfl) ?_;conv=>whnf)|(refine cF (by rfl) ?_;conv=>whnf)))
        replace H : St w0 G0 p pb s5 ((g3, 100, es3.flatten ++ [str u5, .int .u8 0, .int .u8 0, .int .u8 0, .int .u8 0, .int .u8 0, .int .u8 0, .int .u8 0, .int .u8 0, .int .u8 0, .int .u8 0, .int .u8 0, .int .u8 0, .int .u8 0, .int .u8 0, .int .u8 0, .int .u8 0, .slice none 0 0, .map none] ++ ((List.replicate (n3.toNat - (i3 + 1)) [str [], .int .u8 0, .int .u8 0, .int .u8 0, .int .u8 0, .int .u8 0, .int .u8 0, .int .u8 0, .int .u8 0, .int .u8 0, .int .u8 0, .int .u8 0, .int .u8 0, .int .u8 0, .int .u8 0, .int .u8 0, .int .u8 0, .slice none 0 0, .map none]).flatten ++ post3)) :: L3) P3 w := H
        have hh : hasF (.mk 8 0 5 (-1) (-1) 0 0 []) v = true := by have := of_decide_eq_true hcv; rw [hasF_iff]; omega
        exact ⟨(u5, s5), ⟨rfl, rfl, rfl, rfl, rfl, rfl, rfl, rfl, rfl, rfl, rfl, trivial⟩, by rw [if_pos hh]; exact (rdField8 (by decide) hr5), H⟩
      · ((conv=>whnf);repeat(first|(refine mvT ?_;conv=>whnf)|(refine mvF ?_;conv=>whnf)|(refine cT (by rfl) ?_;conv=>whnf)|(refine cF (by rfl) ?_;conv=>whnf)))
        have hh : ¬ hasF (.mk 8 0 5 (-1) (-1) 0 0 []) v = true := by have := of_decide_eq_false hcv; rw [hasF_iff]; omega
        exact ⟨([], si3), ⟨rfl, rfl, rfl, rfl, rfl, rfl, rfl, rfl, rfl, rfl, rfl, trivial⟩, by rw [if_neg hh]; rfl, H⟩
    clear H
    rintro ⟨u4, s4⟩ w ⟨hr4, H⟩
    dsimp only at hr4 H
    ((conv=>whnf);repeat(first|(refine mvT ?_;conv=>whnf)|(refine mvF ?_;conv=>whnf)|(refine cT (by rfl) ?_;conv=>whnf)|(refine cF (by rfl) ?_;conv=>whnf)))
    replace H : St w0 G0 p pb s4 ((g3, 100, es3.flatten ++ [str u4, .int .u8 0, .int .u8 0, .int .u8 0, .int .u8 0, .int .u8 0, .int .u8 0, .int .u8 0, .int .u8 0, .int .u8 0, .int .u8 0, .int .u8 0, .int .u8 0, .int .u8 0, .int .u8 0, .int .u8 0, .int .u8 0, .slice none 0 0, .map none] ++ ((List.replicate (n3.toNat - (i3 + 1)) [str [], .int .u8 0, .int .u8 0, .int .u8 0, .int .u8 0, .int .u8 0, .int .u8 0, .int .u8 0, .int .u8 0, .int .u8 0, .int .u8 0, .int .u8 0, .int .u8 0, .int .u8 0, .int .u8 0, .int .u8 0, .int .u8 0, .slice none 0 0, .map none]).flatten ++ post3)) :: L3) P3 w := H
    refine VC.cutE (fun q : List UInt8 × Rd => [(0, .pointer (some ⟨p, 0, none⟩)), (2, .bool false), (7, .pointer (some ⟨pb, 0, none⟩)), (8, .int .i16 v), (9, .bool fx), (10, .pointer (some ⟨p, 0, none⟩)), (14, .int .i32 n3), (13, .slice (some ⟨g3, 0, none⟩) n3.toNat cap3), (15, .int .i32 i3), (16, .pointer (some ⟨g3, 0 + (i3 : Int).toNat * 19, none⟩)), (17, .pointer (some ⟨g3, 0 + (i3 : Int).toNat * 19, none⟩))]) (fun q w' => q.1.length = 16 ∧ (if hasF (.mk 7 6 (-1) (-1) (-1) 0 0 []) v = true then rdField 8 v fx (.mk 7 6 (-1) (-1) (-1) 0 0 []) s4 else (dfT 8 (.mk 7 6 (-1) (-1) (-1) 0 0 []), s4)) = (.mk 0 q.1 false [] [], q.2) ∧ St w0 G0 p pb q.2 ((g3, 100, es3.flatten ++ ([str u4] ++ (q.1.map bcell ++ [.slice none 0 0, .map none])) ++ ((List.replicate (n3.toNat - (i3 + 1)) [str [], .int .u8 0, .int .u8 0, .int .u8 0, .int .u8 0, .int .u8 0, .int .u8 0, .int .u8 0, .int .u8 0, .int .u8 0, .int .u8 0, .int .u8 0, .int .u8 0, .int .u8 0, .int .u8 0, .int .u8 0, .int .u8 0, .slice none 0 0, .map none]).flatten ++ post3)) :: L3) P3 w') ?_ ?_
    · refine cI (by rfl) (fun hcv=>?_) (fun hcv=>?_)
      · ((conv=>whnf);repeat(first|(refine mvT ?_;conv=>whnf)|(refine mvF ?_;conv=>whnf)|(refine cT (by rfl) ?_;conv=>whnf)|(refine cF (by rfl) ?_;conv=>whnf)))
        refine Does.mono H.uuid ?_
        rintro r w ⟨u8, s8, rfl, hu8, hr8, H⟩
        ((conv=>whnf);repeat(first|(refine mvT ?_;conv=>whnf)|(refine mvF ?_;conv=>whnf)|(refine cT (by rfl) ?_;conv=>whnf)|(refine cF (by rfl) ?_;conv=>whnf)))
        obtain ⟨u8_0, u8_1, u8_2, u8_3, u8_4, u8_5, u8_6, u8_7, u8_8, u8_9, u8_10, u8_11, u8_12, u8_13, u8_14, u8_15, rfl⟩ : ∃ u8_0 u8_1 u8_2 u8_3 u8_4 u8_5 u8_6 u8_7 u8_8 u8_9 u8_10 u8_11 u8_12 u8_13 u8_14 u8_15, u8 = [u8_0, u8_1, u8_2, u8_3, u8_4, u8_5, u8_6, u8_7, u8_8, u8_9, u8_10, u8_11, u8_12, u8_13, u8_14, u8_15] := by
          match u8, hu8 with
          | [u8_0, u8_1, u8_2, u8_3, u8_4, u8_5, u8_6, u8_7, u8_8, u8_9, u8_10, u8_11, u8_12, u8_13, u8_14, u8_15], _ => exact ⟨u8_0, u8_1, u8_2, u8_3, u8_4, u8_5, u8_6, u8_7, u8_8, u8_9, u8_10, u8_11, u8_12, u8_13, u8_14, u8_15, rfl⟩
        intro bu wu hbu hou hxu
        ((conv=>whnf);repeat(first|(refine mvT ?_;conv=>whnf)|(refine mvF ?_;conv=>whnf)|(refine cT (by rfl) ?_;conv=>whnf)|(refine cF (by rfl) ?_;conv=>whnf)))
        refine st_all [bcell u8_0, bcell u8_1, bcell u8_2, bcell u8_3, bcell u8_4, bcell u8_5, bcell u8_6, bcell u8_7, bcell u8_8, bcell u8_9, bcell u8_10, bcell u8_11, bcell u8_12, bcell u8_13, bcell u8_14, bcell u8_15] hou rfl rfl rfl ?_
        intro w2 hou hxs
        ((conv=>whnf);repeat(first|(refine mvT ?_;conv=>whnf)|(refine mvF ?_;conv=>whnf)|(refine cT (by rfl) ?_;conv=>whnf)|(refine cF (by rfl) ?_;conv=>whnf)))
        replace H := H.e0 (hxu.trans hxs (M := nob) fun k hk e => by omega)
        refine ⟨_, rfl, hou.cells, ?_⟩
        ((conv=>whnf);repeat(first|(refine mvT ?_;conv=>whnf)|(refine mvF ?_;conv=>whnf)|(refine cT (by rfl) ?_;conv=>whnf)|(refine cF (by rfl) ?_;conv=>whnf)))
        refine H.stn [bcell u8_0, bcell u8_1, bcell u8_2, bcell u8_3, bcell u8_4, bcell u8_5, bcell u8_6, bcell u8_7, bcell u8_8, bcell u8_9, bcell u8_10, bcell u8_11, bcell u8_12, bcell u8_13, bcell u8_14, bcell u8_15] 1 rfl rfl rfl (by first | omega | (simp [hlen1]; done) | (simp [hlen1]; omega)) rfl (Nat.le_of_ble_eq_true rfl) ?_
        intro w H
        ((conv=>whnf);repeat(first|(refine mvT ?_;conv=>whnf)|(refine mvF ?_;conv=>whnf)|(refine cT (by rfl) ?_;conv=>whnf)|(refine cF (by rfl) ?_;conv=>whnf)))
        replace H : St w0 G0 p pb s8 ((g3, 100, es3.flatten ++ [str u4, bcell u8_0, bcell u8_1, bcell u8_2, bcell u8_3, bcell u8_4, bcell u8_5, bcell u8_6, bcell u8_7, bcell u8_8, bcell u8_9, bcell u8_10, bcell u8_11, bcell u8_12, bcell u8_13, bcell u8_14, bcell u8_15, .slice none 0 0, .map none] ++ ((List.replicate (n3.toNat - (i3 + 1)) [str [], .int .u8 0, .int .u8 0, .int .u8 0, .int .u8 0, .int .u8 0, .int .u8 0, .int .u8 0, .int .u8 0, .int .u8 0, .int .u8 0, .int .u8 0, .int .u8 0, .int .u8 0, .int .u8 0, .int .u8 0, .int .u8 0, .slice none 0 0, .map none]).flatten ++ post3)) :: L3) P3 w := H
        have hh : hasF (.mk 7 6 (-1) (-1) (-1) 0 0 []) v = true := by have := of_decide_eq_true hcv; rw [hasF_iff]; omega
        exact ⟨([u8_0, u8_1, u8_2, u8_3, u8_4, u8_5, u8_6, u8_7, u8_8, u8_9, u8_10, u8_11, u8_12, u8_13, u8_14, u8_15], s8), ⟨rfl, rfl, rfl, rfl, rfl, rfl, rfl, rfl, rfl, rfl, rfl, trivial⟩, rfl, by rw [if_pos hh]; exact (rdField7.trans hr8), H⟩
      · ((conv=>whnf);repeat(first|(refine mvT ?_;conv=>whnf)|(refine mvF ?_;conv=>whnf)|(refine cT (by rfl) ?_;conv=>whnf)|(refine cF (by rfl) ?_;conv=>whnf)))
        have hh : ¬ hasF (.mk 7 6 (-1) (-1) (-1) 0 0 []) v = true := by have := of_decide_eq_false hcv; rw [hasF_iff]; omega
        exact ⟨(List.replicate 16 0, s4), ⟨rfl, rfl, rfl, rfl, rfl, rfl, rfl, rfl, rfl, rfl, rfl, trivial⟩, rfl, by rw [if_neg hh]; rfl, H⟩
    clear H
    rintro ⟨u7, s7⟩ w ⟨hu7, hr7, H⟩
    dsimp only at hu7 hr7 H
    obtain ⟨u7_0, u7_1, u7_2, u7_3, u7_4, u7_5, u7_6, u7_7, u7_8, u7_9, u7_10, u7_11, u7_12, u7_13, u7_14, u7_15, rfl⟩ : ∃ u7_0 u7_1 u7_2 u7_3 u7_4 u7_5 u7_6 u7_7 u7_8 u7_9 u7_10 u7_11 u7_12 u7_13 u7_14 u7_15, u7 = [u7_0, u7_1, u7_2, u7_3, u7_4, u7_5, u7_6, u7_7, u7_8, u7_9, u7_10, u7_11, u7_12, u7_13, u7_14, u7_15] := by
      match u7, hu7 with
      | [u7_0, u7_1, u7_2, u7_3, u7_4, u7_5, u7_6, u7_7, u7_8, u7_9, u7_10, u7_11, u7_12, u7_13, u7_14, u7_15], _ => exact ⟨u7_0, u7_1, u7_2, u7_3, u7_4, u7_5, u7_6, u7_7, u7_8, u7_9, u7_10, u7_11, u7_12, u7_13, u7_14, u7_15, rfl⟩
    ((conv=>whnf);repeat(first|(refine mvT ?_;conv=>whnf)|(refine mvF ?_;conv=>whnf)|(refine cT (by rfl) ?_;conv=>whnf)|(refine cF (by rfl) ?_;conv=>whnf)))
    replace H : St w0 G0 p pb s7 ((g3, 100, es3.flatten ++ [str u4, bcell u7_0, bcell u7_1, bcell u7_2, bcell u7_3, bcell u7_4, bcell u7_5, bcell u7_6, bcell u7_7, bcell u7_8, bcell u7_9, bcell u7_10, bcell u7_11, bcell u7_12, bcell u7_13, bcell u7_14, bcell u7_15, .slice none 0 0, .map none] ++ ((List.replicate (n3.toNat - (i3 + 1)) [str [], .int .u8 0, .int .u8 0, .int .u8 0, .int .u8 0, .int .u8 0, .int .u8 0, .int .u8 0, .int .u8 0, .int .u8 0, .int .u8 0, .int .u8 0, .int .u8 0, .int .u8 0, .int .u8 0, .int .u8 0, .int .u8 0, .slice none 0 0, .map none]).flatten ++ post3)) :: L3) P3 w := H
    refine ⟨_, ld (H.cell rfl (k := 17) rfl) (by first | omega | (simp [hlen1]; done) | (simp [hlen1]; omega)), ?_⟩; ((conv=>whnf);repeat(first|(refine mvT ?_;conv=>whnf)|(refine mvF ?_;conv=>whnf)|(refine cT (by rfl) ?_;conv=>whnf)|(refine cF (by rfl) ?_;conv=>whnf)))
    (refine mvB ?_;((conv=>whnf);repeat(first|(refine mvT ?_;conv=>whnf)|(refine mvF ?_;conv=>whnf)|(refine cT (by rfl) ?_;conv=>whnf)|(refine cF (by rfl) ?_;conv=>whnf))))
    refine VC.cutE (fun q : Int × Rd => [(22, .int .i32 q.1), (21, .slice none 0 0), (0, .pointer (some ⟨p, 0, none⟩)), (2, .bool false), (7, .pointer (some ⟨pb, 0, none⟩)), (8, .int .i16 v), (9, .bool fx), (10, .pointer (some ⟨p, 0, none⟩)), (14, .int .i32 n3), (13, .slice (some ⟨g3, 0, none⟩) n3.toNat cap3), (15, .int .i32 i3), (16, .pointer (some ⟨g3, 0 + (i3 : Int).toNat * 19, none⟩)), (17, .pointer (some ⟨g3, 0 + (i3 : Int).toNat * 19, none⟩))]) (fun q w' => (-2147483648 ≤ q.1 ∧ q.1 ≤ 2147483647) ∧ rdLn fx s7 = q ∧ St w0 G0 p pb q.2 ((g3, 100, es3.flatten ++ [str u4, bcell u7_0, bcell u7_1, bcell u7_2, bcell u7_3, bcell u7_4, bcell u7_5, bcell u7_6, bcell u7_7, bcell u7_8, bcell u7_9, bcell u7_10, bcell u7_11, bcell u7_12, bcell u7_13, bcell u7_14, bcell u7_15, .slice none 0 0, .map none] ++ ((List.replicate (n3.toNat - (i3 + 1)) [str [], .int .u8 0, .int .u8 0, .int .u8 0, .int .u8 0, .int .u8 0, .int .u8 0, .int .u8 0, .int .u8 0, .int .u8 0, .int .u8 0, .int .u8 0, .int .u8 0, .int .u8 0, .int .u8 0, .int .u8 0, .int .u8 0, .slice none 0 0, .map none]).flatten ++ post3)) :: L3) P3 w') ?_ ?_
    · refine cI (by rfl) (fun hc=>?_) (fun hc=>?_)
      · ((conv=>whnf);repeat(first|(refine mvT ?_;conv=>whnf)|(refine mvF ?_;conv=>whnf)|(refine cT (by rfl) ?_;conv=>whnf)|(refine cF (by rfl) ?_;conv=>whnf)))
        refine Does.mono H.lnc ?_
        rintro r w ⟨n, s', rfl, hn, hr, H⟩
        ((conv=>whnf);repeat(first|(refine mvT ?_;conv=>whnf)|(refine mvF ?_;conv=>whnf)|(refine cT (by rfl) ?_;conv=>whnf)|(refine cF (by rfl) ?_;conv=>whnf)))
        exact ⟨(n, s'), ⟨rfl, rfl, rfl, rfl, rfl, rfl, rfl, rfl, rfl, rfl, rfl, rfl, rfl, trivial⟩, hn, by rw [hc]; exact hr, H⟩
      · ((conv=>whnf);repeat(first|(refine mvT ?_;conv=>whnf)|(refine mvF ?_;conv=>whnf)|(refine cT (by rfl) ?_;conv=>whnf)|(refine cF (by rfl) ?_;conv=>whnf)))
        refine Does.mono H.lnp ?_
        rintro r w ⟨n, s', rfl, hn, hr, H⟩
        ((conv=>whnf);repeat(first|(refine mvT ?_;conv=>whnf)|(refine mvF ?_;conv=>whnf)|(refine cT (by rfl) ?_;conv=>whnf)|(refine cF (by rfl) ?_;conv=>whnf)))
        exact ⟨(n, s'), ⟨rfl, rfl, rfl, rfl, rfl, rfl, rfl, rfl, rfl, rfl, rfl, rfl, rfl, trivial⟩, hn, by rw [hc]; exact hr, H⟩
    clear H
    rintro ⟨n11, s11⟩ w ⟨hn11, hln11, H⟩
    dsimp only at hn11 hln11 H
    ((conv=>whnf);repeat(first|(refine mvT ?_;conv=>whnf)|(refine mvF ?_;conv=>whnf)|(refine cT (by rfl) ?_;conv=>whnf)|(refine cF (by rfl) ?_;conv=>whnf)))
    refine Does.mono H.ok ?_
    rintro r w ⟨rfl, H⟩
    ((conv=>whnf);repeat(first|(refine mvT ?_;conv=>whnf)|(refine mvF ?_;conv=>whnf)|(refine cT (by rfl) ?_;conv=>whnf)|(refine cF (by rfl) ?_;conv=>whnf)))
    refine cI (by rfl) (fun hbd=>?_) (fun hbd=>?_)
    · have hbd : s11.2 = true := by simpa using hbd
      ((conv=>whnf);repeat(first|(refine mvT ?_;conv=>whnf)|(refine mvF ?_;conv=>whnf)|(refine cT (by rfl) ?_;conv=>whnf)|(refine cF (by rfl) ?_;conv=>whnf)))
      refine Does.mono (H.done hL hp1) ?_
      rintro r w ⟨rfl, H⟩
      ((conv=>whnf);repeat(first|(refine mvT ?_;conv=>whnf)|(refine mvF ?_;conv=>whnf)|(refine cT (by rfl) ?_;conv=>whnf)|(refine cF (by rfl) ?_;conv=>whnf)))
      refine RdPost.early hbd (hup3 (?_)) H
      rw [tail_ver hr4 (by decide), tail_ver hr7 (by decide), tail_len ⟨by decide, has_all hv⟩ hln11 hbd]
    have hbd : s11.2 = false := by simpa using hbd
    clear hbd
    ((conv=>whnf);repeat(first|(refine mvT ?_;conv=>whnf)|(refine mvF ?_;conv=>whnf)|(refine cT (by rfl) ?_;conv=>whnf)|(refine cF (by rfl) ?_;conv=>whnf)))
    refine cut_zero ?_
    ((conv=>whnf);repeat(first|(refine mvT ?_;conv=>whnf)|(refine mvF ?_;conv=>whnf)|(refine cT (by rfl) ?_;conv=>whnf)|(refine cF (by rfl) ?_;conv=>whnf)))
    refine VC.cutE (fun a : Value => [(22, .int .i32 n11), (21, a), (0, .pointer (some ⟨p, 0, none⟩)), (2, .bool false), (7, .pointer (some ⟨pb, 0, none⟩)), (8, .int .i16 v), (9, .bool fx), (10, .pointer (some ⟨p, 0, none⟩)), (14, .int .i32 n3), (13, .slice (some ⟨g3, 0, none⟩) n3.toNat cap3), (15, .int .i32 i3), (16, .pointer (some ⟨g3, 0 + (i3 : Int).toNat * 19, none⟩)), (17, .pointer (some ⟨g3, 0 + (i3 : Int).toNat * 19, none⟩))]) (fun a w' => ListI w0 G0 p pb 102 [.int .i32 0, .int .i16 0, .map none] (elR 7 v fx 10 dTxnOffsetCommitResponseTopicPartition) (elQ true 7 10 dTxnOffsetCommitResponseTopicPartition) s11 n11 (decide (n11 ≤ 0)) ((g3, 100, es3.flatten ++ [str u4, bcell u7_0, bcell u7_1, bcell u7_2, bcell u7_3, bcell u7_4, bcell u7_5, bcell u7_6, bcell u7_7, bcell u7_8, bcell u7_9, bcell u7_10, bcell u7_11, bcell u7_12, bcell u7_13, bcell u7_14, bcell u7_15, .slice none 0 0, .map none] ++ ((List.replicate (n3.toNat - (i3 + 1)) [str [], .int .u8 0, .int .u8 0, .int .u8 0, .int .u8 0, .int .u8 0, .int .u8 0, .int .u8 0, .int .u8 0, .int .u8 0, .int .u8 0, .int .u8 0, .int .u8 0, .int .u8 0, .int .u8 0, .int .u8 0, .int .u8 0, .slice none 0 0, .map none]).flatten ++ post3)) :: L3) P3 a 0 w') ?_ ?_
    · refine cI (by rfl) (fun hps=>?_) (fun hps=>?_)
      · have hps : 0 < n11 := by have := of_decide_eq_true hps; omega
        ((conv=>whnf);repeat(first|(refine mvT ?_;conv=>whnf)|(refine mvF ?_;conv=>whnf)|(refine cT (by rfl) ?_;conv=>whnf)|(refine cF (by rfl) ?_;conv=>whnf)))
        refine H.grow hps hn11.2 (by decide) rfl rfl (by decide) ?_
        intro g cap post w hc1 hc2 H
        ((conv=>whnf);repeat(first|(refine mvT ?_;conv=>whnf)|(refine mvF ?_;conv=>whnf)|(refine cT (by rfl) ?_;conv=>whnf)|(refine cF (by rfl) ?_;conv=>whnf)))
        exact ⟨_, ⟨rfl, rfl, rfl, rfl, rfl, rfl, rfl, rfl, rfl, rfl, rfl, rfl, rfl, trivial⟩, ListI.some hps (decide_eq_false (by omega)) hc1 hc2 H⟩
      · have hps : n11 ≤ 0 := by have := of_decide_eq_false hps; omega
        ((conv=>whnf);repeat(first|(refine mvT ?_;conv=>whnf)|(refine mvF ?_;conv=>whnf)|(refine cT (by rfl) ?_;conv=>whnf)|(refine cF (by rfl) ?_;conv=>whnf)))
        exact ⟨_, ⟨rfl, rfl, rfl, rfl, rfl, rfl, rfl, rfl, rfl, rfl, rfl, rfl, rfl, trivial⟩, ListI.none hps (decide_eq_true hps) H⟩
    clear H
    rintro a11 w H
    ((conv=>whnf);repeat(first|(refine mvT ?_;conv=>whnf)|(refine mvF ?_;conv=>whnf)|(refine cT (by rfl) ?_;conv=>whnf)|(refine cF (by rfl) ?_;conv=>whnf)))
    have hpL11 : inL ((g3, 100, es3.flatten ++ [str u4, bcell u7_0, bcell u7_1, bcell u7_2, bcell u7_3, bcell u7_4, bcell u7_5, bcell u7_6, bcell u7_7, bcell u7_8, bcell u7_9, bcell u7_10, bcell u7_11, bcell u7_12, bcell u7_13, bcell u7_14, bcell u7_15, .slice none 0 0, .map none] ++ ((List.replicate (n3.toNat - (i3 + 1)) [str [], .int .u8 0, .int .u8 0, .int .u8 0, .int .u8 0, .int .u8 0, .int .u8 0, .int .u8 0, .int .u8 0, .int .u8 0, .int .u8 0, .int .u8 0, .int .u8 0, .int .u8 0, .int .u8 0, .int .u8 0, .int .u8 0, .slice none 0 0, .map none]).flatten ++ post3)) :: L3) p := inL.tail hpL3
    refine VL.loop (fun i : Nat => [(22, .int .i32 n11), (21, a11), (23, .int .i32 i), (0, .pointer (some ⟨p, 0, none⟩)), (2, .bool false), (7, .pointer (some ⟨pb, 0, none⟩)), (8, .int .i16 v), (9, .bool fx), (10, .pointer (some ⟨p, 0, none⟩)), (14, .int .i32 n3), (13, .slice (some ⟨g3, 0, none⟩) n3.toNat cap3), (15, .int .i32 i3), (16, .pointer (some ⟨g3, 0 + (i3 : Int).toNat * 19, none⟩)), (17, .pointer (some ⟨g3, 0 + (i3 : Int).toNat * 19, none⟩))]) (fun i w' => i ≤ 2147483647 ∧ ListI w0 G0 p pb 102 [.int .i32 0, .int .i16 0, .map none] (elR 7 v fx 10 dTxnOffsetCommitResponseTopicPartition) (elQ true 7 10 dTxnOffsetCommitResponseTopicPartition) s11 n11 (decide (n11 ≤ 0)) ((g3, 100, es3.flatten ++ [str u4, bcell u7_0, bcell u7_1, bcell u7_2, bcell u7_3, bcell u7_4, bcell u7_5, bcell u7_6, bcell u7_7, bcell u7_8, bcell u7_9, bcell u7_10, bcell u7_11, bcell u7_12, bcell u7_13, bcell u7_14, bcell u7_15, .slice none 0 0, .map none] ++ ((List.replicate (n3.toNat - (i3 + 1)) [str [], .int .u8 0, .int .u8 0, .int .u8 0, .int .u8 0, .int .u8 0, .int .u8 0, .int .u8 0, .int .u8 0, .int .u8 0, .int .u8 0, .int .u8 0, .int .u8 0, .int .u8 0, .int .u8 0, .int .u8 0, .int .u8 0, .slice none 0 0, .map none]).flatten ++ post3)) :: L3) P3 a11 i w') (fun i => n11.toNat - i) 0 ⟨rfl, rfl, rfl, rfl, rfl, rfl, rfl, rfl, rfl, rfl, rfl, rfl, rfl, rfl, trivial⟩ ⟨by decide, H⟩ ?_
    clear H
    rintro i11 w ⟨hi11, H⟩
    ((conv=>whnf);repeat(first|(refine mvT ?_;conv=>whnf)|(refine mvF ?_;conv=>whnf)|(refine cT (by rfl) ?_;conv=>whnf)|(refine cF (by rfl) ?_;conv=>whnf)))
    refine cI (by rfl) (fun h9=>?_) (fun h9=>?_)
    · have hlt11 : (i11 : Int) < n11 := of_decide_eq_true h9
      obtain ⟨g11, cap11, post11, rfl, hgo11, HI⟩ := H.go hlt11
      obtain ⟨es11, ts11, si11, hes11, hez11, hrn11, hts11, hlen2, H⟩ := HI.open hgo11.2.2.2.2
      obtain ⟨L11, hL11⟩ : ∃ L : List Ob, L = ((g3, 100, es3.flatten ++ [str u4, bcell u7_0, bcell u7_1, bcell u7_2, bcell u7_3, bcell u7_4, bcell u7_5, bcell u7_6, bcell u7_7, bcell u7_8, bcell u7_9, bcell u7_10, bcell u7_11, bcell u7_12, bcell u7_13, bcell u7_14, bcell u7_15, .slice none 0 0, .map none] ++ ((List.replicate (n3.toNat - (i3 + 1)) [str [], .int .u8 0, .int .u8 0, .int .u8 0, .int .u8 0, .int .u8 0, .int .u8 0, .int .u8 0, .int .u8 0, .int .u8 0, .int .u8 0, .int .u8 0, .int .u8 0, .int .u8 0, .int .u8 0, .int .u8 0, .int .u8 0, .slice none 0 0, .map none]).flatten ++ post3)) :: L3) := ⟨_, rfl⟩
      rw [← hL11] at H hpL11
      obtain ⟨P11, hP11⟩ : ∃ P : World → Prop, P = fun w => (∀ (j : Nat) (c : List Value) (y : T), es11[j]? = some c → ts11[j]? = some y → elQ true 7 10 dTxnOffsetCommitResponseTopicPartition ⟨w, fun k => k ≠ p⟩ c y) ∧ P3 w := ⟨_, rfl⟩
      rw [← hP11] at H
      replace H : St w0 G0 p pb si11 ((g11, 102, es11.flatten ++ [.int .i32 0, .int .i16 0, .map none] ++ ((List.replicate (n11.toNat - (i11 + 1)) [.int .i32 0, .int .i16 0, .map none]).flatten ++ post11)) :: L11) P11 w := H
      ((conv=>whnf);repeat(first|(refine mvT ?_;conv=>whnf)|(refine mvF ?_;conv=>whnf)|(refine cT (by rfl) ?_;conv=>whnf)|(refine cF (by rfl) ?_;conv=>whnf)))
      refine ⟨g11, 0, rfl, ⟨by omega, by omega⟩, ?_⟩
      ((conv=>whnf);repeat(first|(refine mvT ?_;conv=>whnf)|(refine mvF ?_;conv=>whnf)|(refine cT (by rfl) ?_;conv=>whnf)|(refine cF (by rfl) ?_;conv=>whnf)))
      refine Does.mono (dfTxnOffsetCommitResponseTopicPartition (pre := es11.flatten) (cur := [.int .i32 0, .int .i16 0, .map none]) (post := ((List.replicate (n11.toNat - (i11 + 1)) [.int .i32 0, .int .i16 0, .map none]).flatten ++ post11)) H.head (by first | (rw [hlen2]; simp; done) | (simp [hlen2]; done) | (simp [hlen2]; omega)) rfl) ?_
      rintro rd w2 ⟨hdf, hxd⟩
      replace H := H.put hdf hxd
      clear hdf hxd
      replace H : St w0 G0 p pb si11 ((g11, 102, es11.flatten ++ [.int .i32 0, .int .i16 0, .map none] ++ ((List.replicate (n11.toNat - (i11 + 1)) [.int .i32 0, .int .i16 0, .map none]).flatten ++ post11)) :: L11) P11 w2 := H
      ((conv=>whnf);repeat(first|(refine mvT ?_;conv=>whnf)|(refine mvF ?_;conv=>whnf)|(refine cT (by rfl) ?_;conv=>whnf)|(refine cF (by rfl) ?_;conv=>whnf)))
      have hup11 : tailBad 7 v fx dTxnOffsetCommitResponseTopicPartition si11 = true → (rdPart 9 v fx dTxnOffsetCommitResponse (l, false)).2.2 = true := by
        intro hb
        refine hup3 ?_
        rw [tail_ver hr4 (by decide), tail_ver hr7 (by decide), tail_el ⟨by decide, has_all hv⟩ hln11 hgo11.2.2.2.2 hrn11 hb]
      refine Does.mono H.int32 ?_
      rintro r w ⟨n12, s12, rfl, hn12, hr12, H⟩
      ((conv=>whnf);repeat(first|(refine mvT ?_;conv=>whnf)|(refine mvF ?_;conv=>whnf)|(refine cT (by rfl) ?_;conv=>whnf)|(refine cF (by rfl) ?_;conv=>whnf)))
      refine H.st1 (v := .int .i32 n12) 0 (rfl) (rfl) rfl (by first | omega | (simp [hlen2]; done) | (simp [hlen2]; omega)) rfl (Nat.lt_of_lt_of_le (Nat.lt_succ_self _) (Nat.le_of_ble_eq_true rfl)) ?_
      intro w H
      ((conv=>whnf);repeat(first|(refine mvT ?_;conv=>whnf)|(refine mvF ?_;conv=>whnf)|(refine cT (by rfl) ?_;conv=>whnf)|(refine cF (by rfl) ?_;conv=>whnf)))
      replace H : St w0 G0 p pb s12 ((g11, 102, es11.flatten ++ [.int .i32 n12, .int .i16 0, .map none] ++ ((List.replicate (n11.toNat - (i11 + 1)) [.int .i32 0, .int .i16 0, .map none]).flatten ++ post11)) :: L11) P11 w := H
      refine Does.mono H.int16 ?_
      rintro r w ⟨n14, s14, rfl, hn14, hr14, H⟩
      ((conv=>whnf);repeat(first|(refine mvT ?_;conv=>whnf)|(refine mvF ?_;conv=>whnf)|(refine cT (by rfl) ?_;conv=>whnf)|(refine cF (by rfl) ?_;conv=>whnf)))
      refine H.st1 (v := .int .i16 n14) 1 (rfl) (rfl) rfl (by first | omega | (simp [hlen2]; done) | (simp [hlen2]; omega)) rfl (Nat.lt_of_lt_of_le (Nat.lt_succ_self _) (Nat.le_of_ble_eq_true rfl)) ?_
      intro w H
      ((conv=>whnf);repeat(first|(refine mvT ?_;conv=>whnf)|(refine mvF ?_;conv=>whnf)|(refine cT (by rfl) ?_;conv=>whnf)|(refine cF (by rfl) ?_;conv=>whnf)))
      replace H : St w0 G0 p pb s14 ((g11, 102, es11.flatten ++ [.int .i32 n12, .int .i16 n14, .map none] ++ ((List.replicate (n11.toNat - (i11 + 1)) [.int .i32 0, .int .i16 0, .map none]).flatten ++ post11)) :: L11) P11 w := H
      (refine mvB ?_;((conv=>whnf);repeat(first|(refine mvT ?_;conv=>whnf)|(refine mvF ?_;conv=>whnf)|(refine cT (by rfl) ?_;conv=>whnf)|(refine cF (by rfl) ?_;conv=>whnf))))
      refine VC.cutB (fun q : Value × List Tg × Rd => [(0, .pointer (some ⟨p, 0, none⟩)), (2, .bool false), (7, .pointer (some ⟨pb, 0, none⟩)), (8, .int .i16 v), (9, .bool fx), (10, .pointer (some ⟨p, 0, none⟩)), (14, .int .i32 n3), (13, .slice (some ⟨g3, 0, none⟩) n3.toNat cap3), (15, .int .i32 i3), (16, .pointer (some ⟨g3, 0 + (i3 : Int).toNat * 19, none⟩)), (17, .pointer (some ⟨g3, 0 + (i3 : Int).toNat * 19, none⟩)), (22, .int .i32 n11), (21, .slice (some ⟨g11, 0, none⟩) n11.toNat cap11), (23, .int .i32 i11), (24, .pointer (some ⟨g11, 0 + (i11 : Int).toNat * 3, none⟩)), (25, .pointer (some ⟨g11, 0 + (i11 : Int).toNat * 3, none⟩))]) (fun q w' => rdTagsF fx s14 = q.2 ∧ St w0 G0 p pb q.2.2 ((g11, 102, es11.flatten ++ [.int .i32 n12, .int .i16 n14, q.1] ++ ((List.replicate (n11.toNat - (i11 + 1)) [.int .i32 0, .int .i16 0, .map none]).flatten ++ post11)) :: L11) (fun w => TGf p q.1 q.2.1 w ∧ P11 w) w') ?_ ?_
      · refine cI (by rfl) (fun hc=>?_) (fun hc=>?_)
        · ((conv=>whnf);repeat(first|(refine mvT ?_;conv=>whnf)|(refine mvF ?_;conv=>whnf)|(refine cT (by rfl) ?_;conv=>whnf)|(refine cF (by rfl) ?_;conv=>whnf)))
          refine Does.mono H.tags ?_
          rintro r w ⟨m, u, s', rfl, hone, hr, H⟩
          ((conv=>whnf);repeat(first|(refine mvT ?_;conv=>whnf)|(refine mvF ?_;conv=>whnf)|(refine cT (by rfl) ?_;conv=>whnf)|(refine cF (by rfl) ?_;conv=>whnf)))
          refine H.st1 (v := m) 2 (rfl) (hone) rfl (by first | omega | (simp [hlen2]; done) | (simp [hlen2]; omega)) rfl (Nat.lt_of_lt_of_le (Nat.lt_succ_self _) (Nat.le_of_ble_eq_true rfl)) ?_
          intro w H
          ((conv=>whnf);repeat(first|(refine mvT ?_;conv=>whnf)|(refine mvF ?_;conv=>whnf)|(refine cT (by rfl) ?_;conv=>whnf)|(refine cF (by rfl) ?_;conv=>whnf)))
          exact ⟨(m, u, s'), ⟨rfl, rfl, rfl, rfl, rfl, rfl, rfl, rfl, rfl, rfl, rfl, rfl, rfl, rfl, rfl, rfl, trivial⟩, by rw [rdTagsF, if_pos hc]; exact hr, H⟩
        · ((conv=>whnf);repeat(first|(refine mvT ?_;conv=>whnf)|(refine mvF ?_;conv=>whnf)|(refine cT (by rfl) ?_;conv=>whnf)|(refine cF (by rfl) ?_;conv=>whnf)))
          exact ⟨(.map none, [], s14), ⟨rfl, rfl, rfl, rfl, rfl, rfl, rfl, rfl, rfl, rfl, rfl, rfl, rfl, rfl, rfl, rfl, trivial⟩, by rw [rdTagsF, if_neg (by rw [hc]; decide)], H.add fun w' _ => TagsR.nil _ _⟩
      clear H
      rintro ⟨m16, u16, s16⟩ w ⟨htg, H⟩
      dsimp only at htg H
      ((conv=>whnf);repeat(first|(refine mvT ?_;conv=>whnf)|(refine mvF ?_;conv=>whnf)|(refine cT (by rfl) ?_;conv=>whnf)|(refine cF (by rfl) ?_;conv=>whnf)))
      obtain ⟨P17, hP17⟩ : ∃ P : World → Prop, P = fun w => TGf p m16 u16 w ∧ P11 w := ⟨_, rfl⟩
      replace H : St w0 G0 p pb s16 ((g11, 102, es11.flatten ++ [.int .i32 n12, .int .i16 n14, m16] ++ ((List.replicate (n11.toNat - (i11 + 1)) [.int .i32 0, .int .i16 0, .map none]).flatten ++ post11)) :: L11) P17 w := by rw [hP17]; exact H
      have hpart : rdPart 7 v fx dTxnOffsetCommitResponseTopicPartition si11 = (.mk 0 [] false [numT n12, numT n14] u16, s16) := by
        unfold rdPart rdPartW
        rw [rdAll_yes (df := dfT 7) (rdField3.trans hr12) ⟨by decide, has_all hv⟩, rdAll_yes (df := dfT 7) (rdField2.trans hr14) ⟨by decide, has_all hv⟩]
        simp only [rdAll]
        rw [htg]
      refine ⟨i11 + 1, ⟨rfl, rfl, ?_, rfl, rfl, rfl, rfl, rfl, rfl, rfl, rfl, rfl, rfl, rfl, trivial⟩, ⟨by omega, ListI.back hgo11 (LoopI.next hes11 hez11 hrn11 hts11 (cur := [.int .i32 n12, .int .i16 n14, m16]) (x := .mk 0 [] false [numT n12, numT n14] u16) (hpart) rfl (by rw [← hL11]; exact H) fun w hP => ?_)⟩, by omega⟩
      · show some (Value.int .i32 _) = _
        rw [IntKind.wrap_i32]
        simp only [Option.some.injEq, Value.int.injEq, true_and]
        omega
      · skip
        rw [hP17] at hP
        obtain ⟨hf17_, hP⟩ := hP
        rw [hP11] at hP
        exact ⟨QPt (QA1 (QF3 hn12) (QA1 (QF2 hn14) (QA0))) hf17_, hP⟩
    have hge11 : ¬ (i11 : Int) < n11 := of_decide_eq_false h9
    obtain ⟨l18, s18, hone18, hl18, hr18, H⟩ := H.done hge11 hln11 (nl := nlF (.mk 11 0 (-1) (-1) (-1) 0 10 dTxnOffsetCommitResponseTopicPartition) v) (sz := elZ true 7 10 dTxnOffsetCommitResponseTopicPartition) rfl hpL11 rfl
    ((conv=>whnf);repeat(first|(refine mvT ?_;conv=>whnf)|(refine mvF ?_;conv=>whnf)|(refine cT (by rfl) ?_;conv=>whnf)|(refine cF (by rfl) ?_;conv=>whnf)))
    obtain ⟨P19, hP19⟩ : ∃ P : World → Prop, P = fun w => ListR true (elZ true 7 10 dTxnOffsetCommitResponseTopicPartition) (elQ true 7 10 dTxnOffsetCommitResponseTopicPartition ⟨w, fun k => k ≠ p⟩) w (fun k => k ≠ p) a11 (.mk 0 [] (decide (n11 ≤ 0)) l18 []) ∧ P3 w := ⟨_, rfl⟩
    replace H : St w0 G0 p pb s18 ((g3, 100, es3.flatten ++ [str u4, bcell u7_0, bcell u7_1, bcell u7_2, bcell u7_3, bcell u7_4, bcell u7_5, bcell u7_6, bcell u7_7, bcell u7_8, bcell u7_9, bcell u7_10, bcell u7_11, bcell u7_12, bcell u7_13, bcell u7_14, bcell u7_15, .slice none 0 0, .map none] ++ ((List.replicate (n3.toNat - (i3 + 1)) [str [], .int .u8 0, .int .u8 0, .int .u8 0, .int .u8 0, .int .u8 0, .int .u8 0, .int .u8 0, .int .u8 0, .int .u8 0, .int .u8 0, .int .u8 0, .int .u8 0, .int .u8 0, .int .u8 0, .int .u8 0, .int .u8 0, .slice none 0 0, .map none]).flatten ++ post3)) :: L3) P19 w := by rw [hP19]; exact H
    refine H.st1 (v := a11) 17 (cells_one hone18) (hone18) rfl (by first | omega | (simp [hlen1]; done) | (simp [hlen1]; omega)) rfl (Nat.lt_of_lt_of_le (Nat.lt_succ_self _) (Nat.le_of_ble_eq_true rfl)) ?_
    intro w H
    ((conv=>whnf);repeat(first|(refine mvT ?_;conv=>whnf)|(refine mvF ?_;conv=>whnf)|(refine cT (by rfl) ?_;conv=>whnf)|(refine cF (by rfl) ?_;conv=>whnf)))
    replace H : St w0 G0 p pb s18 ((g3, 100, es3.flatten ++ [str u4, bcell u7_0, bcell u7_1, bcell u7_2, bcell u7_3, bcell u7_4, bcell u7_5, bcell u7_6, bcell u7_7, bcell u7_8, bcell u7_9, bcell u7_10, bcell u7_11, bcell u7_12, bcell u7_13, bcell u7_14, bcell u7_15, a11, .map none] ++ ((List.replicate (n3.toNat - (i3 + 1)) [str [], .int .u8 0, .int .u8 0, .int .u8 0, .int .u8 0, .int .u8 0, .int .u8 0, .int .u8 0, .int .u8 0, .int .u8 0, .int .u8 0, .int .u8 0, .int .u8 0, .int .u8 0, .int .u8 0, .int .u8 0, .int .u8 0, .slice none 0 0, .map none]).flatten ++ post3)) :: L3) P19 w := H
    (refine mvB ?_;((conv=>whnf);repeat(first|(refine mvT ?_;conv=>whnf)|(refine mvF ?_;conv=>whnf)|(refine cT (by rfl) ?_;conv=>whnf)|(refine cF (by rfl) ?_;conv=>whnf))))
    refine VC.cutB (fun q : Value × List Tg × Rd => [(0, .pointer (some ⟨p, 0, none⟩)), (2, .bool false), (7, .pointer (some ⟨pb, 0, none⟩)), (8, .int .i16 v), (9, .bool fx), (10, .pointer (some ⟨p, 0, none⟩)), (14, .int .i32 n3), (13, .slice (some ⟨g3, 0, none⟩) n3.toNat cap3), (15, .int .i32 i3), (16, .pointer (some ⟨g3, 0 + (i3 : Int).toNat * 19, none⟩)), (17, .pointer (some ⟨g3, 0 + (i3 : Int).toNat * 19, none⟩))]) (fun q w' => rdTagsF fx s18 = q.2 ∧ St w0 G0 p pb q.2.2 ((g3, 100, es3.flatten ++ [str u4, bcell u7_0, bcell u7_1, bcell u7_2, bcell u7_3, bcell u7_4, bcell u7_5, bcell u7_6, bcell u7_7, bcell u7_8, bcell u7_9, bcell u7_10, bcell u7_11, bcell u7_12, bcell u7_13, bcell u7_14, bcell u7_15, a11, q.1] ++ ((List.replicate (n3.toNat - (i3 + 1)) [str [], .int .u8 0, .int .u8 0, .int .u8 0, .int .u8 0, .int .u8 0, .int .u8 0, .int .u8 0, .int .u8 0, .int .u8 0, .int .u8 0, .int .u8 0, .int .u8 0, .int .u8 0, .int .u8 0, .int .u8 0, .int .u8 0, .slice none 0 0, .map none]).flatten ++ post3)) :: L3) (fun w => TGf p q.1 q.2.1 w ∧ P19 w) w') ?_ ?_
    · refine cI (by rfl) (fun hc=>?_) (fun hc=>?_)
      · ((conv=>whnf);repeat(first|(refine mvT ?_;conv=>whnf)|(refine mvF ?_;conv=>whnf)|(refine cT (by rfl) ?_;conv=>whnf)|(refine cF (by rfl) ?_;conv=>whnf)))
        refine Does.mono H.tags ?_
        rintro r w ⟨m, u, s', rfl, hone, hr, H⟩
        ((conv=>whnf);repeat(first|(refine mvT ?_;conv=>whnf)|(refine mvF ?_;conv=>whnf)|(refine cT (by rfl) ?_;conv=>whnf)|(refine cF (by rfl) ?_;conv=>whnf)))
        refine H.st1 (v := m) 18 (rfl) (hone) rfl (by first | omega | (simp [hlen1]; done) | (simp [hlen1]; omega)) rfl (Nat.lt_of_lt_of_le (Nat.lt_succ_self _) (Nat.le_of_ble_eq_true rfl)) ?_
        intro w H
        ((conv=>whnf);repeat(first|(refine mvT ?_;conv=>whnf)|(refine mvF ?_;conv=>whnf)|(refine cT (by rfl) ?_;conv=>whnf)|(refine cF (by rfl) ?_;conv=>whnf)))
        exact ⟨(m, u, s'), ⟨rfl, rfl, rfl, rfl, rfl, rfl, rfl, rfl, rfl, rfl, rfl, trivial⟩, by rw [rdTagsF, if_pos hc]; exact hr, H⟩
      · ((conv=>whnf);repeat(first|(refine mvT ?_;conv=>whnf)|(refine mvF ?_;conv=>whnf)|(refine cT (by rfl) ?_;conv=>whnf)|(refine cF (by rfl) ?_;conv=>whnf)))
        exact ⟨(.map none, [], s18), ⟨rfl, rfl, rfl, rfl, rfl, rfl, rfl, rfl, rfl, rfl, rfl, trivial⟩, by rw [rdTagsF, if_neg (by rw [hc]; decide)], H.add fun w' _ => TagsR.nil _ _⟩
    clear H
    rintro ⟨m21, u21, s21⟩ w ⟨htg, H⟩
    dsimp only at htg H
    ((conv=>whnf);repeat(first|(refine mvT ?_;conv=>whnf)|(refine mvF ?_;conv=>whnf)|(refine cT (by rfl) ?_;conv=>whnf)|(refine cF (by rfl) ?_;conv=>whnf)))
    obtain ⟨P22, hP22⟩ : ∃ P : World → Prop, P = fun w => TGf p m21 u21 w ∧ P19 w := ⟨_, rfl⟩
    replace H : St w0 G0 p pb s21 ((g3, 100, es3.flatten ++ [str u4, bcell u7_0, bcell u7_1, bcell u7_2, bcell u7_3, bcell u7_4, bcell u7_5, bcell u7_6, bcell u7_7, bcell u7_8, bcell u7_9, bcell u7_10, bcell u7_11, bcell u7_12, bcell u7_13, bcell u7_14, bcell u7_15, a11, m21] ++ ((List.replicate (n3.toNat - (i3 + 1)) [str [], .int .u8 0, .int .u8 0, .int .u8 0, .int .u8 0, .int .u8 0, .int .u8 0, .int .u8 0, .int .u8 0, .int .u8 0, .int .u8 0, .int .u8 0, .int .u8 0, .int .u8 0, .int .u8 0, .int .u8 0, .int .u8 0, .slice none 0 0, .map none]).flatten ++ post3)) :: L3) P22 w := by rw [hP22]; exact H
    have hpart : rdPart 8 v fx dTxnOffsetCommitResponseTopic si3 = (.mk 0 [] false [.mk 0 u4 false [] [], .mk 0 [u7_0, u7_1, u7_2, u7_3, u7_4, u7_5, u7_6, u7_7, u7_8, u7_9, u7_10, u7_11, u7_12, u7_13, u7_14, u7_15] false [] [], .mk 0 [] (decide (n11 ≤ 0)) l18 []] u21, s21) := by
      unfold rdPart rdPartW
      rw [rdAll_ver hr4 (by decide), rdAll_ver hr7 (by decide), rdAll_yes (df := dfT 8) ((rdField_list _ _ _ _ _ _ _ _ _ _ _).trans hr18) ⟨by decide, has_all hv⟩]
      simp only [rdAll]
      rw [htg]
    refine ⟨i3 + 1, ⟨rfl, rfl, ?_, rfl, rfl, rfl, rfl, rfl, rfl, trivial⟩, ⟨by omega, ListI.back hgo3 (LoopI.next hes3 hez3 hrn3 hts3 (cur := [str u4, bcell u7_0, bcell u7_1, bcell u7_2, bcell u7_3, bcell u7_4, bcell u7_5, bcell u7_6, bcell u7_7, bcell u7_8, bcell u7_9, bcell u7_10, bcell u7_11, bcell u7_12, bcell u7_13, bcell u7_14, bcell u7_15, a11, m21]) (x := .mk 0 [] false [.mk 0 u4 false [] [], .mk 0 [u7_0, u7_1, u7_2, u7_3, u7_4, u7_5, u7_6, u7_7, u7_8, u7_9, u7_10, u7_11, u7_12, u7_13, u7_14, u7_15] false [] [], .mk 0 [] (decide (n11 ≤ 0)) l18 []] u21) (hpart) rfl (by rw [← hL3]; exact H) fun w hP => ?_)⟩, by omega⟩
    · show some (Value.int .i32 _) = _
      rw [IntKind.wrap_i32]
      simp only [Option.some.injEq, Value.int.injEq, true_and]
      omega
    · skip
      rw [hP22] at hP
      obtain ⟨hf22_, hP⟩ := hP
      rw [hP19] at hP
      obtain ⟨hf19_, hP⟩ := hP
      rw [hP3] at hP
      exact ⟨QPt (QA1 (QF8 (by decide) u4) (QA1 (QF7 (u := [u7_0, u7_1, u7_2, u7_3, u7_4, u7_5, u7_6, u7_7, u7_8, u7_9, u7_10, u7_11, u7_12, u7_13, u7_14, u7_15]) rfl) (QA1 (QF11 hl18 hf19_) (QA0)))) hf22_, hP⟩
  have hge3 : ¬ (i3 : Int) < n3 := of_decide_eq_false h9
  obtain ⟨l23, s23, hone23, hl23, hr23, H⟩ := H.done hge3 hln3 (nl := nlF (.mk 11 0 (-1) (-1) (-1) 0 10 dTxnOffsetCommitResponseTopic) v) (sz := elZ true 8 10 dTxnOffsetCommitResponseTopic) rfl hpL3 rfl
  ((conv=>whnf);repeat(first|(refine mvT ?_;conv=>whnf)|(refine mvF ?_;conv=>whnf)|(refine cT (by rfl) ?_;conv=>whnf)|(refine cF (by rfl) ?_;conv=>whnf)))
  obtain ⟨P24, hP24⟩ : ∃ P : World → Prop, P = fun w => ListR true (elZ true 8 10 dTxnOffsetCommitResponseTopic) (elQ true 8 10 dTxnOffsetCommitResponseTopic ⟨w, fun k => k ≠ p⟩) w (fun k => k ≠ p) a3 (.mk 0 [] (decide (n3 ≤ 0)) l23 []) ∧ (fun _ => True) w := ⟨_, rfl⟩
  replace H : St w0 G0 p pb s23 ((p, ty, [] ++ [.int .i16 v, .int .i32 n1, .slice none 0 0, .map none] ++ []) :: []) P24 w := by rw [hP24]; exact H
  refine H.st1 (v := a3) 2 (cells_one hone23) (hone23) rfl (by simp) rfl (Nat.lt_of_lt_of_le (Nat.lt_succ_self _) (Nat.le_of_ble_eq_true rfl)) ?_
  intro w H
  ((conv=>whnf);repeat(first|(refine mvT ?_;conv=>whnf)|(refine mvF ?_;conv=>whnf)|(refine cT (by rfl) ?_;conv=>whnf)|(refine cF (by rfl) ?_;conv=>whnf)))
  replace H : St w0 G0 p pb s23 ((p, ty, [] ++ [.int .i16 v, .int .i32 n1, a3, .map none] ++ []) :: []) P24 w := H
  (refine mvB ?_;((conv=>whnf);repeat(first|(refine mvT ?_;conv=>whnf)|(refine mvF ?_;conv=>whnf)|(refine cT (by rfl) ?_;conv=>whnf)|(refine cF (by rfl) ?_;conv=>whnf))))
  refine VC.cutE (fun q : Value × List Tg × Rd => [(0, .pointer (some ⟨p, 0, none⟩)), (2, .bool false), (7, .pointer (some ⟨pb, 0, none⟩)), (8, .int .i16 v), (9, .bool fx), (10, .pointer (some ⟨p, 0, none⟩))]) (fun q w' => rdTagsF fx s23 = q.2 ∧ St w0 G0 p pb q.2.2 ((p, ty, [] ++ [.int .i16 v, .int .i32 n1, a3, q.1] ++ []) :: []) (fun w => TGf p q.1 q.2.1 w ∧ P24 w) w') ?_ ?_
  · refine cI (by rfl) (fun hc=>?_) (fun hc=>?_)
    · ((conv=>whnf);repeat(first|(refine mvT ?_;conv=>whnf)|(refine mvF ?_;conv=>whnf)|(refine cT (by rfl) ?_;conv=>whnf)|(refine cF (by rfl) ?_;conv=>whnf)))
      refine Does.mono H.tags ?_
      rintro r w ⟨m, u, s', rfl, hone, hr, H⟩
      ((conv=>whnf);repeat(first|(refine mvT ?_;conv=>whnf)|(refine mvF ?_;conv=>whnf)|(refine cT (by rfl) ?_;conv=>whnf)|(refine cF (by rfl) ?_;conv=>whnf)))
      refine H.st1 (v := m) 3 (rfl) (hone) rfl (by simp) rfl (Nat.lt_of_lt_of_le (Nat.lt_succ_self _) (Nat.le_of_ble_eq_true rfl)) ?_
      intro w H
      ((conv=>whnf);repeat(first|(refine mvT ?_;conv=>whnf)|(refine mvF ?_;conv=>whnf)|(refine cT (by rfl) ?_;conv=>whnf)|(refine cF (by rfl) ?_;conv=>whnf)))
      exact ⟨(m, u, s'), ⟨rfl, rfl, rfl, rfl, rfl, rfl, trivial⟩, by rw [rdTagsF, if_pos hc]; exact hr, H⟩
    · ((conv=>whnf);repeat(first|(refine mvT ?_;conv=>whnf)|(refine mvF ?_;conv=>whnf)|(refine cT (by rfl) ?_;conv=>whnf)|(refine cF (by rfl) ?_;conv=>whnf)))
      exact ⟨(.map none, [], s23), ⟨rfl, rfl, rfl, rfl, rfl, rfl, trivial⟩, by rw [rdTagsF, if_neg (by rw [hc]; decide)], H.add fun w' _ => TagsR.nil _ _⟩
  clear H
  rintro ⟨m26, u26, s26⟩ w ⟨htg, H⟩
  dsimp only at htg H
  ((conv=>whnf);repeat(first|(refine mvT ?_;conv=>whnf)|(refine mvF ?_;conv=>whnf)|(refine cT (by rfl) ?_;conv=>whnf)|(refine cF (by rfl) ?_;conv=>whnf)))
  obtain ⟨P27, hP27⟩ : ∃ P : World → Prop, P = fun w => TGf p m26 u26 w ∧ P24 w := ⟨_, rfl⟩
  replace H : St w0 G0 p pb s26 ((p, ty, [] ++ [.int .i16 v, .int .i32 n1, a3, m26] ++ []) :: []) P27 w := by rw [hP27]; exact H
  have hpart : rdPart 9 v fx dTxnOffsetCommitResponse (l, false) = (.mk 0 [] false [numT n1, .mk 0 [] (decide (n3 ≤ 0)) l23 []] u26, s26) := by
    unfold rdPart rdPartW
    rw [rdAll_yes (df := dfT 9) (rdField3.trans hr1) ⟨by decide, has_all hv⟩, rdAll_yes (df := dfT 9) ((rdField_list _ _ _ _ _ _ _ _ _ _ _).trans hr23) ⟨by decide, has_all hv⟩]
    simp only [rdAll]
    rw [htg]
  refine Does.mono (H.done hL hp1) ?_
  rintro r w ⟨rfl, H⟩
  ((conv=>whnf);repeat(first|(refine mvT ?_;conv=>whnf)|(refine mvF ?_;conv=>whnf)|(refine cT (by rfl) ?_;conv=>whnf)|(refine cF (by rfl) ?_;conv=>whnf)))
  refine RdPost.end hpart H fun hP => ?_
  rw [hP27] at hP
  obtain ⟨hf27_, hP⟩ := hP
  rw [hP24] at hP
  obtain ⟨hf24_, hP⟩ := hP
  exact QPt (QA1 (QF3 hn1) (QA1 (QF11 hl23 hf24_) (QA0))) hf27_
end Go.Proofs.YtegijdjnjeneaaaGreatDoor.K
