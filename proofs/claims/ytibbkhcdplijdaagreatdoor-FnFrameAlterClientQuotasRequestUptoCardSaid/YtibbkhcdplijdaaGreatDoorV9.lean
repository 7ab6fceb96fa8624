/- Reading of AlterClientQuotasRequest. -/
import Derived.Test.YtibbkhcdplijdaaGreatDoorE5
set_option linter.unusedVariables false
set_option linter.unusedSimpArgs false
namespace Go.Proofs.YtibbkhcdplijdaaGreatDoor.K
open Go
set_option maxHeartbeats 4000000
set_option maxRecDepth 100000

abbrev dAlterClientQuotasRequestEntryEntity : List Fd := [.mk 8 0 (-1) (-1) (-1) 0 0 [], .mk 8 0 (-1) 0 (-1) 0 0 []]
abbrev dAlterClientQuotasRequestEntryOp : List Fd := [.mk 8 0 (-1) (-1) (-1) 0 0 [], .mk 6 0 (-1) (-1) (-1) 0 0 [], .mk 0 0 (-1) (-1) (-1) 0 0 []]
abbrev dAlterClientQuotasRequestEntry : List Fd := [.mk 11 0 (-1) (-1) (-1) 0 10 dAlterClientQuotasRequestEntryEntity, .mk 11 0 (-1) (-1) (-1) 0 10 dAlterClientQuotasRequestEntryOp]
abbrev dAlterClientQuotasRequest : List Fd := [.mk 11 0 (-1) (-1) (-1) 0 10 dAlterClientQuotasRequestEntry, .mk 0 0 (-1) (-1) (-1) 0 0 []]
theorem sAlterClientQuotasRequestEntryEntity (w : World) : Does X.P 25 #[] w fun r w' => FdsR w' (fun k => w.heap.size ≤ k) r dAlterClientQuotasRequestEntryEntity ∧ Ext nob w w' := by
  have hx0 : Ext nob w w := Ext.refl _ _
  refine Does.go (X := X) (l := []) Tryz.func25 rfl (by kernel_rfl) (by kernel_rfl) _ rfl ?_
  ((conv=>whnf);repeat((first|refine mvT ?_|refine mvF ?_|refine yT ?_|refine yF ?_);conv=>whnf))
  have hxs := hx0
  intro b wb hb ho hx
  have hx0 := hx0.e0 hx
  ((conv=>whnf);repeat((first|refine mvT ?_|refine mvF ?_|refine yT ?_|refine yF ?_);conv=>whnf))
  refine ⟨?_, hx0⟩
  exact FdL.fds (cs := [[.int .i64 8, .int .i64 0, .int .i64 (-1), .int .i64 (-1), .int .i64 (-1), .int .i64 0, .int .i64 0, .slice none 0 0], [.int .i64 8, .int .i64 0, .int .i64 (-1), .int .i64 0, .int .i64 (-1), .int .i64 0, .int .i64 0, .slice none 0 0]])
    ⟨fdLeaf _ _ _ _ _ _ _ _ _, fdLeaf _ _ _ _ _ _ _ _ _, trivial⟩ ho rfl (by decide) (by have := hxs.size; omega)
theorem sAlterClientQuotasRequestEntryOp (w : World) : Does X.P 26 #[] w fun r w' => FdsR w' (fun k => w.heap.size ≤ k) r dAlterClientQuotasRequestEntryOp ∧ Ext nob w w' := by
  have hx0 : Ext nob w w := Ext.refl _ _
  refine Does.go (X := X) (l := []) Tryz.func26 rfl (by kernel_rfl) (by kernel_rfl) _ rfl ?_
  ((conv=>whnf);repeat((first|refine mvT ?_|refine mvF ?_|refine yT ?_|refine yF ?_);conv=>whnf))
  have hxs := hx0
  intro b wb hb ho hx
  have hx0 := hx0.e0 hx
  ((conv=>whnf);repeat((first|refine mvT ?_|refine mvF ?_|refine yT ?_|refine yF ?_);conv=>whnf))
  refine ⟨?_, hx0⟩
  exact FdL.fds (cs := [[.int .i64 8, .int .i64 0, .int .i64 (-1), .int .i64 (-1), .int .i64 (-1), .int .i64 0, .int .i64 0, .slice none 0 0], [.int .i64 6, .int .i64 0, .int .i64 (-1), .int .i64 (-1), .int .i64 (-1), .int .i64 0, .int .i64 0, .slice none 0 0], [.int .i64 0, .int .i64 0, .int .i64 (-1), .int .i64 (-1), .int .i64 (-1), .int .i64 0, .int .i64 0, .slice none 0 0]])
    ⟨fdLeaf _ _ _ _ _ _ _ _ _, fdLeaf _ _ _ _ _ _ _ _ _, fdLeaf _ _ _ _ _ _ _ _ _, trivial⟩ ho rfl (by decide) (by have := hxs.size; omega)
theorem sAlterClientQuotasRequestEntry (w : World) : Does X.P 17 #[] w fun r w' => FdsR w' (fun k => w.heap.size ≤ k) r dAlterClientQuotasRequestEntry ∧ Ext nob w w' := by
  have hx0 : Ext nob w w := Ext.refl _ _
  refine Does.go (X := X) (l := []) Tryz.func17 rfl (by kernel_rfl) (by kernel_rfl) _ rfl ?_
  ((conv=>whnf);repeat((first|refine mvT ?_|refine mvF ?_|refine yT ?_|refine yF ?_);conv=>whnf))
  refine Does.mono (sAlterClientQuotasRequestEntryEntity w) ?_
  rintro v0 wv0 ⟨hv0, hc⟩
  have hv0 := hv0.mono (F' := fun k => w.heap.size ≤ k) fun k _ h => Nat.le_trans hx0.size h
  obtain ⟨lv0, gv0, _⟩ := id hv0
  obtain ⟨av0, kv0, rfl, _⟩ := gv0.view
  ((conv=>whnf);repeat((first|refine mvT ?_|refine mvF ?_|refine yT ?_|refine yF ?_);conv=>whnf))
  have hx0 := hx0.e0 hc
  refine Does.mono (sAlterClientQuotasRequestEntryOp wv0) ?_
  rintro v1 wv1 ⟨hv1, hc⟩
  have hv1 := hv1.mono (F' := fun k => w.heap.size ≤ k) fun k _ h => Nat.le_trans hx0.size h
  obtain ⟨lv1, gv1, _⟩ := id hv1
  obtain ⟨av1, kv1, rfl, _⟩ := gv1.view
  ((conv=>whnf);repeat((first|refine mvT ?_|refine mvF ?_|refine yT ?_|refine yF ?_);conv=>whnf))
  have hv0 := hv0.e0 hc
  have hx0 := hx0.e0 hc
  have hxs := hx0
  intro b wb hb ho hx
  have hx0 := hx0.e0 hx
  ((conv=>whnf);repeat((first|refine mvT ?_|refine mvF ?_|refine yT ?_|refine yF ?_);conv=>whnf))
  refine ⟨?_, hx0⟩
  exact FdL.fds (cs := [[.int .i64 11, .int .i64 0, .int .i64 (-1), .int .i64 (-1), .int .i64 (-1), .int .i64 0, .int .i64 10, .slice av0 lv0.length kv0], [.int .i64 11, .int .i64 0, .int .i64 (-1), .int .i64 (-1), .int .i64 (-1), .int .i64 0, .int .i64 10, .slice av1 lv1.length kv1]])
    ⟨FdC.of (hv0.e0 hx) _ _ _ _ _ _ _, FdC.of (hv1.e0 hx) _ _ _ _ _ _ _, trivial⟩ ho rfl (by decide) (by have := hxs.size; omega)
theorem sAlterClientQuotasRequest (w : World) : Does X.P 7 #[] w fun r w' => Msg w' (fun k => w.heap.size ≤ k) r dAlterClientQuotasRequest 1 ∧ Ext nob w w' := by
  have hx0 : Ext nob w w := Ext.refl _ _
  refine Does.go (X := X) (l := []) Tryz.func7 rfl (by kernel_rfl) (by kernel_rfl) _ rfl ?_
  ((conv=>whnf);repeat((first|refine mvT ?_|refine mvF ?_|refine yT ?_|refine yF ?_);conv=>whnf))
  intro b w1 hb ho hx
  have hx0 := hx0.e0 hx
  have ho := ho
  ((conv=>whnf);repeat((first|refine mvT ?_|refine mvF ?_|refine yT ?_|refine yF ?_);conv=>whnf))
  refine Does.mono (sAlterClientQuotasRequestEntry w1) ?_
  rintro v0 wv0 ⟨hv0, hc⟩
  have hv0 := hv0.mono (F' := fun k => w.heap.size ≤ k ∧ b < k) fun k _ h => ⟨Nat.le_trans hx0.size h, Nat.lt_of_lt_of_le ho.lt h⟩
  obtain ⟨lv0, gv0, _⟩ := id hv0
  obtain ⟨av0, kv0, rfl, _⟩ := gv0.view
  ((conv=>whnf);repeat((first|refine mvT ?_|refine mvF ?_|refine yT ?_|refine yF ?_);conv=>whnf))
  have hx0 := hx0.e0 hc
  have ho := ho.e0 hc
  have hxs := hx0
  intro b2 w2 hb2 ho2 hx2
  ((conv=>whnf);repeat((first|refine mvT ?_|refine mvF ?_|refine yT ?_|refine yF ?_);conv=>whnf))
  have hx0 := hx0.e0 hx2
  refine ⟨_, _, ho.e0 hx2, rfl, rfl, rfl, ?_⟩
  intro w3 ho3 hx3
  have hx03 := hx0.st hx3 hb
  ((conv=>whnf);repeat((first|refine mvT ?_|refine mvF ?_|refine yT ?_|refine yF ?_);conv=>whnf))
  refine ⟨_, rfl, ho3.cells, ?_⟩
  refine ⟨⟨_, rfl, ?_⟩, hx03⟩
  have ho2 := ho2.ext hx3 (by have := ho.lt; omega)
  have hs := hx0.size
  have hs2 : w.heap.size ≤ b2 := Nat.le_trans hxs.size hb2
  exact FdL.fds (cs := [[.int .i64 11, .int .i64 0, .int .i64 (-1), .int .i64 (-1), .int .i64 (-1), .int .i64 0, .int .i64 10, .slice av0 lv0.length kv0], [.int .i64 0, .int .i64 0, .int .i64 (-1), .int .i64 (-1), .int .i64 (-1), .int .i64 0, .int .i64 0, .slice none 0 0]])
    ⟨FdC.of (FdsR.mono (FdsR.ext (FdsR.e0 hv0 hx2) hx3 fun k _ h1 h2 => by omega) fun k _ h => h.1) _ _ _ _ _ _ _, fdLeaf _ _ _ _ _ _ _ _ _, trivial⟩ ho2 rfl (by decide) (by omega)
theorem dfAlterClientQuotasRequestEntryEntity {w : World} {q o : Nat} {T : TypeId} {pre cur post : List Value} (ho : Own w q T (pre ++ cur ++ post)) (hp : pre.length = o) (hl : cur.length = 3) :
    Does X.P 49 #[.pointer (some ⟨q, o, none⟩)] w fun r w' => Own w' q T (pre ++ cur ++ post) ∧ Ext (fun k => k = q) w w' := by
  have hx : Ext (fun k => k = q) w w := Ext.refl _ _
  refine Does.go (X := X) (l := [_]) Tryz.func49 rfl (by kernel_rfl) (by kernel_rfl) _ rfl ?_
  ((conv=>whnf);repeat((first|refine mvT ?_|refine mvF ?_|refine yT ?_|refine yF ?_);conv=>whnf))
  exact ⟨ho, hx⟩
theorem dfAlterClientQuotasRequestEntryOp {w : World} {q o : Nat} {T : TypeId} {pre cur post : List Value} (ho : Own w q T (pre ++ cur ++ post)) (hp : pre.length = o) (hl : cur.length = 4) :
    Does X.P 59 #[.pointer (some ⟨q, o, none⟩)] w fun r w' => Own w' q T (pre ++ cur ++ post) ∧ Ext (fun k => k = q) w w' := by
  have hx : Ext (fun k => k = q) w w := Ext.refl _ _
  refine Does.go (X := X) (l := [_]) Tryz.func59 rfl (by kernel_rfl) (by kernel_rfl) _ rfl ?_
  ((conv=>whnf);repeat((first|refine mvT ?_|refine mvF ?_|refine yT ?_|refine yF ?_);conv=>whnf))
  exact ⟨ho, hx⟩
theorem dfAlterClientQuotasRequestEntry {w : World} {q o : Nat} {T : TypeId} {pre cur post : List Value} (ho : Own w q T (pre ++ cur ++ post)) (hp : pre.length = o) (hl : cur.length = 3) :
    Does X.P 48 #[.pointer (some ⟨q, o, none⟩)] w fun r w' => Own w' q T (pre ++ cur ++ post) ∧ Ext (fun k => k = q) w w' := by
  have hx : Ext (fun k => k = q) w w := Ext.refl _ _
  refine Does.go (X := X) (l := [_]) Tryz.func48 rfl (by kernel_rfl) (by kernel_rfl) _ rfl ?_
  ((conv=>whnf);repeat((first|refine mvT ?_|refine mvF ?_|refine yT ?_|refine yF ?_);conv=>whnf))
  exact ⟨ho, hx⟩
theorem dfAlterClientQuotasRequest {w : World} {q o : Nat} {T : TypeId} {pre cur post : List Value} (ho : Own w q T (pre ++ cur ++ post)) (hp : pre.length = o) (hl : cur.length = 4) :
    Does X.P 24 #[.pointer (some ⟨q, o, none⟩)] w fun r w' => Own w' q T (pre ++ cur ++ post) ∧ Ext (fun k => k = q) w w' := by
  have hx : Ext (fun k => k = q) w w := Ext.refl _ _
  refine Does.go (X := X) (l := [_]) Tryz.func24 rfl (by kernel_rfl) (by kernel_rfl) _ rfl ?_
  ((conv=>whnf);repeat((first|refine mvT ?_|refine mvF ?_|refine yT ?_|refine yF ?_);conv=>whnf))
  exact ⟨ho, hx⟩
theorem readAlterClientQuotasRequest {w0 : World} {F : Nat → Prop} {p : Nat} {ty : TypeId} {v : Int} {x ev : Value} {l : List UInt8} (hL : Laid w0 ev) (hp : Own w0 p ty [.int .i16 v, .slice none 0 0, .bool false, .map none]) (hx : Bytes w0 F x l) (hF : ∀ k, F k → k ≠ p) (hv : 0 ≤ v) (hp1 : p ≠ errG) :
    Does X.P 35 #[.pointer (some ⟨p, 0, none⟩), x, .bool false] w0 fun r w' => RdPost w0 p ty v (decide (v ≥ 1)) true dAlterClientQuotasRequest ev l r w' := by
  have hpl := hp.lt
  obtain ⟨fx, hfx⟩ : ∃ fx, fx = decide (v ≥ 1) := ⟨_, rfl⟩
  rw [← hfx]
  obtain ⟨G0, hG0, hx⟩ : ∃ G0 : Nat → Prop, (∀ k, G0 k → k < w0.heap.size ∧ k ≠ p) ∧ Bytes w0 G0 x l := ⟨fun k => F k ∧ k < w0.heap.size, fun k h => ⟨h.2, hF k h.1⟩, Sl.mono hx fun k hk h => ⟨h, hk⟩⟩
  obtain ⟨a0, c0, rfl, _⟩ := hx.view
  refine Does.go (X := X) (l := [_, _, _]) Tryz.func35 rfl (by kernel_rfl) (by kernel_rfl) _ rfl ?_
  ((conv=>whnf);repeat((first|refine mvT ?_|refine mvF ?_|refine yT ?_|refine yF ?_);conv=>whnf))
  refine Does.mono (dfAlterClientQuotasRequest (pre := []) (cur := [.int .i16 v, .slice none 0 0, .bool false, .map none]) (post := []) (by simpa using hp) rfl rfl) ?_
  rintro rd wd ⟨hpd, hxd⟩
  ((conv=>whnf);repeat((first|refine mvT ?_|refine mvF ?_|refine yT ?_|refine yF ?_);conv=>whnf))
  intro pb w1 hpb hb hx1
  ((conv=>whnf);repeat((first|refine mvT ?_|refine mvF ?_|refine yT ?_|refine yF ?_);conv=>whnf))
  refine st_all [.slice a0 l.length c0, .bool false] hb rfl rfl rfl ?_
  intro w hb hx2
  ((conv=>whnf);repeat((first|refine mvT ?_|refine mvF ?_|refine yT ?_|refine yF ?_);conv=>whnf))
  have hsd := hxd.size
  have hwp : w0.heap.size ≤ pb := by omega
  have he1 : Ext nob wd w := hx1.trans hx2 fun k hk h => by omega
  have hpw : Own w p ty [.int .i16 v, .slice none 0 0, .bool false, .map none] := by have := hpd.e0 he1; simpa using this
  have he := hxd.tr0 he1
  have H := St.init hpw hb (hx.ext he fun k _ h => (hG0 k h).2) hG0 he hpl hwp
  clear hpd hxd hx1 hx2 hb hpw he1 hp
  refine ldS (H.cell (o := 0) rfl (k := 0) rfl) ?_;((conv=>whnf);repeat((first|refine mvT ?_|refine mvF ?_|refine yT ?_|refine yF ?_);conv=>whnf))
  rw [← hfx]
  (refine mvB ?_;((conv=>whnf);repeat((first|refine mvT ?_|refine mvF ?_|refine yT ?_|refine yF ?_);conv=>whnf)))
  have hup0 : tailBad 9 v fx dAlterClientQuotasRequest dAlterClientQuotasRequest (l, false) = true → (rdPart 9 v fx dAlterClientQuotasRequest (l, false)).2.2 = true := fun h => (tailBad_part _ _ _ _ _).symm.trans h
  refine ldS (H.cell (o := 0) rfl (k := 1) rfl) ?_;((conv=>whnf);repeat((first|refine mvT ?_|refine mvF ?_|refine yT ?_|refine yF ?_);conv=>whnf))
  (refine mvB ?_;((conv=>whnf);repeat((first|refine mvT ?_|refine mvF ?_|refine yT ?_|refine yF ?_);conv=>whnf)))
  refine VC.cutE (fun q : Int × Rd => [(13, .int .i32 q.1), (12, .slice none 0 0), (0, .pointer (some ⟨p, 0, none⟩)), (2, .bool false), (7, .pointer (some ⟨pb, 0, none⟩)), (8, .int .i16 v), (9, .bool fx), (10, .pointer (some ⟨p, 0, none⟩))]) (fun q w' => (-2147483648 ≤ q.1 ∧ q.1 ≤ 2147483647) ∧ rdLn fx (l, false) = q ∧ St w0 G0 p pb q.2 ((p, ty, [] ++ [.int .i16 v, .slice none 0 0, .bool false, .map none] ++ []) :: []) (fun _ => True) w') ?_ ?_
  · refine cI (by rfl) (fun hc=>?_) (fun hc=>?_)
    · ((conv=>whnf);repeat((first|refine mvT ?_|refine mvF ?_|refine yT ?_|refine yF ?_);conv=>whnf))
      refine Does.mono H.lnc ?_
      rintro r w ⟨n, s', rfl, hn, hr, H⟩
      ((conv=>whnf);repeat((first|refine mvT ?_|refine mvF ?_|refine yT ?_|refine yF ?_);conv=>whnf))
      exact ⟨(n, s'), ⟨rfl, rfl, rfl, rfl, rfl, rfl, rfl, rfl, trivial⟩, hn, by rw [hc]; exact hr, H⟩
    · ((conv=>whnf);repeat((first|refine mvT ?_|refine mvF ?_|refine yT ?_|refine yF ?_);conv=>whnf))
      refine Does.mono H.lnp ?_
      rintro r w ⟨n, s', rfl, hn, hr, H⟩
      ((conv=>whnf);repeat((first|refine mvT ?_|refine mvF ?_|refine yT ?_|refine yF ?_);conv=>whnf))
      exact ⟨(n, s'), ⟨rfl, rfl, rfl, rfl, rfl, rfl, rfl, rfl, trivial⟩, hn, by rw [hc]; exact hr, H⟩
  clear H
  rintro ⟨n1, s1⟩ w ⟨hn1, hln1, H⟩
  dsimp only at hn1 hln1 H
  ((conv=>whnf);repeat((first|refine mvT ?_|refine mvF ?_|refine yT ?_|refine yF ?_);conv=>whnf))
  refine Does.mono H.ok ?_
  rintro r w ⟨rfl, H⟩
  ((conv=>whnf);repeat((first|refine mvT ?_|refine mvF ?_|refine yT ?_|refine yF ?_);conv=>whnf))
  refine cI (by rfl) (fun hbd=>?_) (fun hbd=>?_)
  · have hbd : s1.2 = true := by simpa using hbd
    ((conv=>whnf);repeat((first|refine mvT ?_|refine mvF ?_|refine yT ?_|refine yF ?_);conv=>whnf))
    refine Does.mono (H.done hL hp1) ?_
    rintro r w ⟨rfl, H⟩
    ((conv=>whnf);repeat((first|refine mvT ?_|refine mvF ?_|refine yT ?_|refine yF ?_);conv=>whnf))
    refine RdPost.early hbd (hup0 (?_)) H
    rw [tail_len ⟨by decide, has_all hv⟩ hln1 hbd]
  have hbd : s1.2 = false := by simpa using hbd
  clear hbd
  ((conv=>whnf);repeat((first|refine mvT ?_|refine mvF ?_|refine yT ?_|refine yF ?_);conv=>whnf))
  refine cut_zero ?_
  ((conv=>whnf);repeat((first|refine mvT ?_|refine mvF ?_|refine yT ?_|refine yF ?_);conv=>whnf))
  refine VC.cutE (fun a : Value => [(13, .int .i32 n1), (12, a), (0, .pointer (some ⟨p, 0, none⟩)), (2, .bool false), (7, .pointer (some ⟨pb, 0, none⟩)), (8, .int .i16 v), (9, .bool fx), (10, .pointer (some ⟨p, 0, none⟩))]) (fun a w' => ListI w0 G0 p pb 101 [.slice none 0 0, .slice none 0 0, .map none] (elR 8 v fx 10 dAlterClientQuotasRequestEntry) (elQ true 8 10 dAlterClientQuotasRequestEntry) s1 n1 (decide (n1 ≤ 0)) ((p, ty, [] ++ [.int .i16 v, .slice none 0 0, .bool false, .map none] ++ []) :: []) (fun _ => True) a 0 w') ?_ ?_
  · refine cI (by rfl) (fun hps=>?_) (fun hps=>?_)
    · have hps : 0 < n1 := by have := of_decide_eq_true hps; omega
      ((conv=>whnf);repeat((first|refine mvT ?_|refine mvF ?_|refine yT ?_|refine yF ?_);conv=>whnf))
      refine H.grow hps hn1.2 (by decide) rfl rfl (by decide) ?_
      intro g cap post w hc1 hc2 H
      ((conv=>whnf);repeat((first|refine mvT ?_|refine mvF ?_|refine yT ?_|refine yF ?_);conv=>whnf))
      exact ⟨_, ⟨rfl, rfl, rfl, rfl, rfl, rfl, rfl, rfl, trivial⟩, ListI.some hps (decide_eq_false (by omega)) hc1 hc2 H⟩
    · have hps : n1 ≤ 0 := by have := of_decide_eq_false hps; omega
      ((conv=>whnf);repeat((first|refine mvT ?_|refine mvF ?_|refine yT ?_|refine yF ?_);conv=>whnf))
      exact ⟨_, ⟨rfl, rfl, rfl, rfl, rfl, rfl, rfl, rfl, trivial⟩, ListI.none hps (decide_eq_true hps) H⟩
  clear H
  rintro a1 w H
  ((conv=>whnf);repeat((first|refine mvT ?_|refine mvF ?_|refine yT ?_|refine yF ?_);conv=>whnf))
  have hpL1 : inL ((p, ty, [] ++ [.int .i16 v, .slice none 0 0, .bool false, .map none] ++ []) :: []) p := inL.head _ _
  refine VL.loop (fun i : Nat => [(13, .int .i32 n1), (12, a1), (14, .int .i32 i), (0, .pointer (some ⟨p, 0, none⟩)), (2, .bool false), (7, .pointer (some ⟨pb, 0, none⟩)), (8, .int .i16 v), (9, .bool fx), (10, .pointer (some ⟨p, 0, none⟩))]) (fun i w' => i ≤ 2147483647 ∧ ListI w0 G0 p pb 101 [.slice none 0 0, .slice none 0 0, .map none] (elR 8 v fx 10 dAlterClientQuotasRequestEntry) (elQ true 8 10 dAlterClientQuotasRequestEntry) s1 n1 (decide (n1 ≤ 0)) ((p, ty, [] ++ [.int .i16 v, .slice none 0 0, .bool false, .map none] ++ []) :: []) (fun _ => True) a1 i w') (fun i => n1.toNat - i) 0 ⟨rfl, rfl, rfl, rfl, rfl, rfl, rfl, rfl, rfl, trivial⟩ ⟨by decide, H⟩ ?_
  clear H
  rintro i1 w ⟨hi1, H⟩
  ((conv=>whnf);repeat((first|refine mvT ?_|refine mvF ?_|refine yT ?_|refine yF ?_);conv=>whnf))
  refine cI (by rfl) (fun h9=>?_) (fun h9=>?_)
  · have hlt1 : (i1 : Int) < n1 := of_decide_eq_true h9
    obtain ⟨g1, cap1, post1, rfl, hgo1, HI⟩ := H.go hlt1
    obtain ⟨es1, ts1, si1, hes1, hez1, hrn1, hts1, hlen1, H⟩ := HI.open hgo1.2.2.2.2
    obtain ⟨L1, hL1⟩ : ∃ L : List Ob, L = ((p, ty, [] ++ [.int .i16 v, .slice none 0 0, .bool false, .map none] ++ []) :: []) := ⟨_, rfl⟩
    rw [← hL1] at H hpL1
    obtain ⟨P1, hP1⟩ : ∃ P : World → Prop, P = fun w => (∀ (j : Nat) (c : List Value) (y : T), es1[j]? = some c → ts1[j]? = some y → elQ true 8 10 dAlterClientQuotasRequestEntry ⟨w, FG w0 G0⟩ c y) ∧ (fun _ => True) w := ⟨_, rfl⟩
    rw [← hP1] at H
    replace H : St w0 G0 p pb si1 ((g1, 101, es1.flatten ++ [.slice none 0 0, .slice none 0 0, .map none] ++ ((List.replicate (n1.toNat - (i1 + 1)) [.slice none 0 0, .slice none 0 0, .map none]).flatten ++ post1)) :: L1) P1 w := H
    ((conv=>whnf);repeat((first|refine mvT ?_|refine mvF ?_|refine yT ?_|refine yF ?_);conv=>whnf))
    refine ⟨g1, 0, rfl, ⟨by omega, by omega⟩, ?_⟩
    ((conv=>whnf);repeat((first|refine mvT ?_|refine mvF ?_|refine yT ?_|refine yF ?_);conv=>whnf))
    refine Does.mono (dfAlterClientQuotasRequestEntry (pre := es1.flatten) (cur := [.slice none 0 0, .slice none 0 0, .map none]) (post := ((List.replicate (n1.toNat - (i1 + 1)) [.slice none 0 0, .slice none 0 0, .map none]).flatten ++ post1)) H.head (by first | (rw [hlen1]; simp; done) | (simp [hlen1]; done) | (simp [hlen1]; omega)) rfl) ?_
    rintro rd w2 ⟨hdf, hxd⟩
    replace H := H.put hdf hxd
    clear hdf hxd
    replace H : St w0 G0 p pb si1 ((g1, 101, es1.flatten ++ [.slice none 0 0, .slice none 0 0, .map none] ++ ((List.replicate (n1.toNat - (i1 + 1)) [.slice none 0 0, .slice none 0 0, .map none]).flatten ++ post1)) :: L1) P1 w2 := H
    ((conv=>whnf);repeat((first|refine mvT ?_|refine mvF ?_|refine yT ?_|refine yF ?_);conv=>whnf))
    have hup1 : tailBad 8 v fx dAlterClientQuotasRequestEntry dAlterClientQuotasRequestEntry si1 = true → (rdPart 9 v fx dAlterClientQuotasRequest (l, false)).2.2 = true := by
      intro hb
      refine hup0 ?_
      rw [tail_el ⟨by decide, has_all hv⟩ hln1 hgo1.2.2.2.2 hrn1 ((tailBad_part _ _ _ _ _).symm.trans hb)]
    refine ⟨_, ld (H.cell rfl (k := 0) rfl) (by first | omega | (simp [hlen1]; done) | (simp [hlen1]; omega)), ?_⟩; ((conv=>whnf);repeat((first|refine mvT ?_|refine mvF ?_|refine yT ?_|refine yF ?_);conv=>whnf))
    (refine mvB ?_;((conv=>whnf);repeat((first|refine mvT ?_|refine mvF ?_|refine yT ?_|refine yF ?_);conv=>whnf)))
    refine VC.cutE (fun q : Int × Rd => [(19, .int .i32 q.1), (18, .slice none 0 0), (0, .pointer (some ⟨p, 0, none⟩)), (2, .bool false), (7, .pointer (some ⟨pb, 0, none⟩)), (8, .int .i16 v), (9, .bool fx), (10, .pointer (some ⟨p, 0, none⟩)), (13, .int .i32 n1), (12, .slice (some ⟨g1, 0, none⟩) n1.toNat cap1), (14, .int .i32 i1), (15, .pointer (some ⟨g1, 0 + (i1 : Int).toNat * 3, none⟩)), (16, .pointer (some ⟨g1, 0 + (i1 : Int).toNat * 3, none⟩))]) (fun q w' => (-2147483648 ≤ q.1 ∧ q.1 ≤ 2147483647) ∧ rdLn fx si1 = q ∧ St w0 G0 p pb q.2 ((g1, 101, es1.flatten ++ [.slice none 0 0, .slice none 0 0, .map none] ++ ((List.replicate (n1.toNat - (i1 + 1)) [.slice none 0 0, .slice none 0 0, .map none]).flatten ++ post1)) :: L1) P1 w') ?_ ?_
    · refine cI (by rfl) (fun hc=>?_) (fun hc=>?_)
      · ((conv=>whnf);repeat((first|refine mvT ?_|refine mvF ?_|refine yT ?_|refine yF ?_);conv=>whnf))
        refine Does.mono H.lnc ?_
        rintro r w ⟨n, s', rfl, hn, hr, H⟩
        ((conv=>whnf);repeat((first|refine mvT ?_|refine mvF ?_|refine yT ?_|refine yF ?_);conv=>whnf))
        exact ⟨(n, s'), ⟨rfl, rfl, rfl, rfl, rfl, rfl, rfl, rfl, rfl, rfl, rfl, rfl, rfl, trivial⟩, hn, by rw [hc]; exact hr, H⟩
      · ((conv=>whnf);repeat((first|refine mvT ?_|refine mvF ?_|refine yT ?_|refine yF ?_);conv=>whnf))
        refine Does.mono H.lnp ?_
        rintro r w ⟨n, s', rfl, hn, hr, H⟩
        ((conv=>whnf);repeat((first|refine mvT ?_|refine mvF ?_|refine yT ?_|refine yF ?_);conv=>whnf))
        exact ⟨(n, s'), ⟨rfl, rfl, rfl, rfl, rfl, rfl, rfl, rfl, rfl, rfl, rfl, rfl, rfl, trivial⟩, hn, by rw [hc]; exact hr, H⟩
    clear H
    rintro ⟨n2, s2⟩ w ⟨hn2, hln2, H⟩
    dsimp only at hn2 hln2 H
    ((conv=>whnf);repeat((first|refine mvT ?_|refine mvF ?_|refine yT ?_|refine yF ?_);conv=>whnf))
    refine Does.mono H.ok ?_
    rintro r w ⟨rfl, H⟩
    ((conv=>whnf);repeat((first|refine mvT ?_|refine mvF ?_|refine yT ?_|refine yF ?_);conv=>whnf))
    refine cI (by rfl) (fun hbd=>?_) (fun hbd=>?_)
    · have hbd : s2.2 = true := by simpa using hbd
      ((conv=>whnf);repeat((first|refine mvT ?_|refine mvF ?_|refine yT ?_|refine yF ?_);conv=>whnf))
      refine Does.mono (H.done hL hp1) ?_
      rintro r w ⟨rfl, H⟩
      ((conv=>whnf);repeat((first|refine mvT ?_|refine mvF ?_|refine yT ?_|refine yF ?_);conv=>whnf))
      refine RdPost.early hbd (hup1 (?_)) H
      rw [tail_len ⟨by decide, has_all hv⟩ hln2 hbd]
    have hbd : s2.2 = false := by simpa using hbd
    clear hbd
    ((conv=>whnf);repeat((first|refine mvT ?_|refine mvF ?_|refine yT ?_|refine yF ?_);conv=>whnf))
    refine cut_zero ?_
    ((conv=>whnf);repeat((first|refine mvT ?_|refine mvF ?_|refine yT ?_|refine yF ?_);conv=>whnf))
    refine VC.cutE (fun a : Value => [(19, .int .i32 n2), (18, a), (0, .pointer (some ⟨p, 0, none⟩)), (2, .bool false), (7, .pointer (some ⟨pb, 0, none⟩)), (8, .int .i16 v), (9, .bool fx), (10, .pointer (some ⟨p, 0, none⟩)), (13, .int .i32 n1), (12, .slice (some ⟨g1, 0, none⟩) n1.toNat cap1), (14, .int .i32 i1), (15, .pointer (some ⟨g1, 0 + (i1 : Int).toNat * 3, none⟩)), (16, .pointer (some ⟨g1, 0 + (i1 : Int).toNat * 3, none⟩))]) (fun a w' => ListI w0 G0 p pb 105 [str [], .pointer none, .map none] (elR 7 v fx 10 dAlterClientQuotasRequestEntryEntity) (elQ true 7 10 dAlterClientQuotasRequestEntryEntity) s2 n2 (decide (n2 ≤ 0)) ((g1, 101, es1.flatten ++ [.slice none 0 0, .slice none 0 0, .map none] ++ ((List.replicate (n1.toNat - (i1 + 1)) [.slice none 0 0, .slice none 0 0, .map none]).flatten ++ post1)) :: L1) P1 a 0 w') ?_ ?_
    · refine cI (by rfl) (fun hps=>?_) (fun hps=>?_)
      · have hps : 0 < n2 := by have := of_decide_eq_true hps; omega
        ((conv=>whnf);repeat((first|refine mvT ?_|refine mvF ?_|refine yT ?_|refine yF ?_);conv=>whnf))
        refine H.grow hps hn2.2 (by decide) rfl rfl (by decide) ?_
        intro g cap post w hc1 hc2 H
        ((conv=>whnf);repeat((first|refine mvT ?_|refine mvF ?_|refine yT ?_|refine yF ?_);conv=>whnf))
        exact ⟨_, ⟨rfl, rfl, rfl, rfl, rfl, rfl, rfl, rfl, rfl, rfl, rfl, rfl, rfl, trivial⟩, ListI.some hps (decide_eq_false (by omega)) hc1 hc2 H⟩
      · have hps : n2 ≤ 0 := by have := of_decide_eq_false hps; omega
        ((conv=>whnf);repeat((first|refine mvT ?_|refine mvF ?_|refine yT ?_|refine yF ?_);conv=>whnf))
        exact ⟨_, ⟨rfl, rfl, rfl, rfl, rfl, rfl, rfl, rfl, rfl, rfl, rfl, rfl, rfl, trivial⟩, ListI.none hps (decide_eq_true hps) H⟩
    clear H
    rintro a2 w H
    ((conv=>whnf);repeat((first|refine mvT ?_|refine mvF ?_|refine yT ?_|refine yF ?_);conv=>whnf))
    have hpL2 : inL ((g1, 101, es1.flatten ++ [.slice none 0 0, .slice none 0 0, .map none] ++ ((List.replicate (n1.toNat - (i1 + 1)) [.slice none 0 0, .slice none 0 0, .map none]).flatten ++ post1)) :: L1) p := inL.tail hpL1
    refine VL.loop (fun i : Nat => [(19, .int .i32 n2), (18, a2), (20, .int .i32 i), (0, .pointer (some ⟨p, 0, none⟩)), (2, .bool false), (7, .pointer (some ⟨pb, 0, none⟩)), (8, .int .i16 v), (9, .bool fx), (10, .pointer (some ⟨p, 0, none⟩)), (13, .int .i32 n1), (12, .slice (some ⟨g1, 0, none⟩) n1.toNat cap1), (14, .int .i32 i1), (15, .pointer (some ⟨g1, 0 + (i1 : Int).toNat * 3, none⟩)), (16, .pointer (some ⟨g1, 0 + (i1 : Int).toNat * 3, none⟩))]) (fun i w' => i ≤ 2147483647 ∧ ListI w0 G0 p pb 105 [str [], .pointer none, .map none] (elR 7 v fx 10 dAlterClientQuotasRequestEntryEntity) (elQ true 7 10 dAlterClientQuotasRequestEntryEntity) s2 n2 (decide (n2 ≤ 0)) ((g1, 101, es1.flatten ++ [.slice none 0 0, .slice none 0 0, .map none] ++ ((List.replicate (n1.toNat - (i1 + 1)) [.slice none 0 0, .slice none 0 0, .map none]).flatten ++ post1)) :: L1) P1 a2 i w') (fun i => n2.toNat - i) 0 ⟨rfl, rfl, rfl, rfl, rfl, rfl, rfl, rfl, rfl, rfl, rfl, rfl, rfl, rfl, trivial⟩ ⟨by decide, H⟩ ?_
    clear H
    rintro i2 w ⟨hi2, H⟩
    ((conv=>whnf);repeat((first|refine mvT ?_|refine mvF ?_|refine yT ?_|refine yF ?_);conv=>whnf))
    refine cI (by rfl) (fun h9=>?_) (fun h9=>?_)
    · have hlt2 : (i2 : Int) < n2 := of_decide_eq_true h9
      obtain ⟨g2, cap2, post2, rfl, hgo2, HI⟩ := H.go hlt2
      obtain ⟨es2, ts2, si2, hes2, hez2, hrn2, hts2, hlen2, H⟩ := HI.open hgo2.2.2.2.2
      obtain ⟨L2, hL2⟩ : ∃ L : List Ob, L = ((g1, 101, es1.flatten ++ [.slice none 0 0, .slice none 0 0, .map none] ++ ((List.replicate (n1.toNat - (i1 + 1)) [.slice none 0 0, .slice none 0 0, .map none]).flatten ++ post1)) :: L1) := ⟨_, rfl⟩
      rw [← hL2] at H hpL2
      obtain ⟨P2, hP2⟩ : ∃ P : World → Prop, P = fun w => (∀ (j : Nat) (c : List Value) (y : T), es2[j]? = some c → ts2[j]? = some y → elQ true 7 10 dAlterClientQuotasRequestEntryEntity ⟨w, FG w0 G0⟩ c y) ∧ P1 w := ⟨_, rfl⟩
      rw [← hP2] at H
      replace H : St w0 G0 p pb si2 ((g2, 105, es2.flatten ++ [str [], .pointer none, .map none] ++ ((List.replicate (n2.toNat - (i2 + 1)) [str [], .pointer none, .map none]).flatten ++ post2)) :: L2) P2 w := H
      ((conv=>whnf);repeat((first|refine mvT ?_|refine mvF ?_|refine yT ?_|refine yF ?_);conv=>whnf))
      refine ⟨g2, 0, rfl, ⟨by omega, by omega⟩, ?_⟩
      ((conv=>whnf);repeat((first|refine mvT ?_|refine mvF ?_|refine yT ?_|refine yF ?_);conv=>whnf))
      refine Does.mono (dfAlterClientQuotasRequestEntryEntity (pre := es2.flatten) (cur := [str [], .pointer none, .map none]) (post := ((List.replicate (n2.toNat - (i2 + 1)) [str [], .pointer none, .map none]).flatten ++ post2)) H.head (by first | (rw [hlen2]; simp; done) | (simp [hlen2]; done) | (simp [hlen2]; omega)) rfl) ?_
      rintro rd w2 ⟨hdf, hxd⟩
      replace H := H.put hdf hxd
      clear hdf hxd
      replace H : St w0 G0 p pb si2 ((g2, 105, es2.flatten ++ [str [], .pointer none, .map none] ++ ((List.replicate (n2.toNat - (i2 + 1)) [str [], .pointer none, .map none]).flatten ++ post2)) :: L2) P2 w2 := H
      ((conv=>whnf);repeat((first|refine mvT ?_|refine mvF ?_|refine yT ?_|refine yF ?_);conv=>whnf))
      have hup2 : tailBad 7 v fx dAlterClientQuotasRequestEntryEntity dAlterClientQuotasRequestEntryEntity si2 = true → (rdPart 9 v fx dAlterClientQuotasRequest (l, false)).2.2 = true := by
        intro hb
        refine hup1 ?_
        rw [tail_el ⟨by decide, has_all hv⟩ hln2 hgo2.2.2.2.2 hrn2 ((tailBad_part _ _ _ _ _).symm.trans hb)]
      (refine mvB ?_;((conv=>whnf);repeat((first|refine mvT ?_|refine mvF ?_|refine yT ?_|refine yF ?_);conv=>whnf)))
      refine VC.cutE (fun q : List UInt8 × Rd => [(23, str q.1), (0, .pointer (some ⟨p, 0, none⟩)), (2, .bool false), (7, .pointer (some ⟨pb, 0, none⟩)), (8, .int .i16 v), (9, .bool fx), (10, .pointer (some ⟨p, 0, none⟩)), (13, .int .i32 n1), (12, .slice (some ⟨g1, 0, none⟩) n1.toNat cap1), (14, .int .i32 i1), (15, .pointer (some ⟨g1, 0 + (i1 : Int).toNat * 3, none⟩)), (16, .pointer (some ⟨g1, 0 + (i1 : Int).toNat * 3, none⟩)), (19, .int .i32 n2), (18, .slice (some ⟨g2, 0, none⟩) n2.toNat cap2), (20, .int .i32 i2), (21, .pointer (some ⟨g2, 0 + (i2 : Int).toNat * 3, none⟩)), (22, .pointer (some ⟨g2, 0 + (i2 : Int).toNat * 3, none⟩))]) (fun q w' => rdTx fx si2 = q ∧ St w0 G0 p pb q.2 ((g2, 105, es2.flatten ++ [str [], .pointer none, .map none] ++ ((List.replicate (n2.toNat - (i2 + 1)) [str [], .pointer none, .map none]).flatten ++ post2)) :: L2) P2 w') ?_ ?_
      · refine cI (by rfl) (fun hc=>?_) (fun hc=>?_)
        · ((conv=>whnf);repeat((first|refine mvT ?_|refine mvF ?_|refine yT ?_|refine yF ?_);conv=>whnf))
          refine Does.mono H.txc ?_
          rintro r w ⟨u, s', rfl, hr, H⟩
          ((conv=>whnf);repeat((first|refine mvT ?_|refine mvF ?_|refine yT ?_|refine yF ?_);conv=>whnf))
          exact ⟨(u, s'), ⟨rfl, rfl, rfl, rfl, rfl, rfl, rfl, rfl, rfl, rfl, rfl, rfl, rfl, rfl, rfl, rfl, rfl, trivial⟩, by rw [hc]; exact hr, H⟩
        · ((conv=>whnf);repeat((first|refine mvT ?_|refine mvF ?_|refine yT ?_|refine yF ?_);conv=>whnf))
          refine Does.mono H.txp ?_
          rintro r w ⟨u, s', rfl, hr, H⟩
          ((conv=>whnf);repeat((first|refine mvT ?_|refine mvF ?_|refine yT ?_|refine yF ?_);conv=>whnf))
          exact ⟨(u, s'), ⟨rfl, rfl, rfl, rfl, rfl, rfl, rfl, rfl, rfl, rfl, rfl, rfl, rfl, rfl, rfl, rfl, rfl, trivial⟩, by rw [hc]; exact hr, H⟩
      clear H
      rintro ⟨u3, s3⟩ w ⟨hr3, H⟩
      dsimp only at hr3 H
      ((conv=>whnf);repeat((first|refine mvT ?_|refine mvF ?_|refine yT ?_|refine yF ?_);conv=>whnf))
      refine H.st1 (v := str u3) 0 (rfl) (rfl) rfl (by first | omega | (simp [hlen2]; done) | (simp [hlen2]; omega)) rfl (Nat.lt_of_lt_of_le (Nat.lt_succ_self _) (Nat.le_of_ble_eq_true rfl)) ?_
      intro w H
      ((conv=>whnf);repeat((first|refine mvT ?_|refine mvF ?_|refine yT ?_|refine yF ?_);conv=>whnf))
      replace H : St w0 G0 p pb s3 ((g2, 105, es2.flatten ++ [str u3, .pointer none, .map none] ++ ((List.replicate (n2.toNat - (i2 + 1)) [str [], .pointer none, .map none]).flatten ++ post2)) :: L2) P2 w := H
      (refine mvB ?_;((conv=>whnf);repeat((first|refine mvT ?_|refine mvF ?_|refine yT ?_|refine yF ?_);conv=>whnf)))
      refine VC.cutE (fun q : Value × Bool × List UInt8 × Rd => [(24, q.1), (0, .pointer (some ⟨p, 0, none⟩)), (2, .bool false), (7, .pointer (some ⟨pb, 0, none⟩)), (8, .int .i16 v), (9, .bool fx), (10, .pointer (some ⟨p, 0, none⟩)), (13, .int .i32 n1), (12, .slice (some ⟨g1, 0, none⟩) n1.toNat cap1), (14, .int .i32 i1), (15, .pointer (some ⟨g1, 0 + (i1 : Int).toNat * 3, none⟩)), (16, .pointer (some ⟨g1, 0 + (i1 : Int).toNat * 3, none⟩)), (19, .int .i32 n2), (18, .slice (some ⟨g2, 0, none⟩) n2.toNat cap2), (20, .int .i32 i2), (21, .pointer (some ⟨g2, 0 + (i2 : Int).toNat * 3, none⟩)), (22, .pointer (some ⟨g2, 0 + (i2 : Int).toNat * 3, none⟩))]) (fun q w' => q.1.oneCell' = true ∧ (q.2.1 = true → q.2.2.1 = []) ∧ rdNt fx s3 = (.mk 0 q.2.2.1 q.2.1 [] [], q.2.2.2) ∧ St w0 G0 p pb q.2.2.2 ((g2, 105, es2.flatten ++ [str u3, .pointer none, .map none] ++ ((List.replicate (n2.toNat - (i2 + 1)) [str [], .pointer none, .map none]).flatten ++ post2)) :: L2) (fun w => NTf w0 G0 q.1 (.mk 0 q.2.2.1 q.2.1 [] []) w ∧ P2 w) w') ?_ ?_
      · refine cI (by rfl) (fun hc=>?_) (fun hc=>?_)
        · ((conv=>whnf);repeat((first|refine mvT ?_|refine mvF ?_|refine yT ?_|refine yF ?_);conv=>whnf))
          refine Does.mono H.ntc ?_
          rintro r w ⟨c, nl, u, s', rfl, hone, hnl, hr, H⟩
          ((conv=>whnf);repeat((first|refine mvT ?_|refine mvF ?_|refine yT ?_|refine yF ?_);conv=>whnf))
          exact ⟨(r, nl, u, s'), ⟨rfl, rfl, rfl, rfl, rfl, rfl, rfl, rfl, rfl, rfl, rfl, rfl, rfl, rfl, rfl, rfl, rfl, trivial⟩, hone, hnl, by rw [hc]; exact hr, H⟩
        · ((conv=>whnf);repeat((first|refine mvT ?_|refine mvF ?_|refine yT ?_|refine yF ?_);conv=>whnf))
          refine Does.mono H.ntp ?_
          rintro r w ⟨c, nl, u, s', rfl, hone, hnl, hr, H⟩
          ((conv=>whnf);repeat((first|refine mvT ?_|refine mvF ?_|refine yT ?_|refine yF ?_);conv=>whnf))
          exact ⟨(r, nl, u, s'), ⟨rfl, rfl, rfl, rfl, rfl, rfl, rfl, rfl, rfl, rfl, rfl, rfl, rfl, rfl, rfl, rfl, rfl, trivial⟩, hone, hnl, by rw [hc]; exact hr, H⟩
      clear H
      rintro ⟨c5, nl5, u5, s5⟩ w ⟨hone5, hnl5, hr5, H⟩
      dsimp only at hone5 hnl5 hr5 H
      ((conv=>whnf);repeat((first|refine mvT ?_|refine mvF ?_|refine yT ?_|refine yF ?_);conv=>whnf))
      obtain ⟨P6, hP6⟩ : ∃ P : World → Prop, P = fun w => NTf w0 G0 c5 (.mk 0 u5 nl5 [] []) w ∧ P2 w := ⟨_, rfl⟩
      replace H : St w0 G0 p pb s5 ((g2, 105, es2.flatten ++ [str u3, .pointer none, .map none] ++ ((List.replicate (n2.toNat - (i2 + 1)) [str [], .pointer none, .map none]).flatten ++ post2)) :: L2) P6 w := by rw [hP6]; exact H
      refine H.st1 (v := c5) 1 (cells_one hone5) (hone5) rfl (by first | omega | (simp [hlen2]; done) | (simp [hlen2]; omega)) rfl (Nat.lt_of_lt_of_le (Nat.lt_succ_self _) (Nat.le_of_ble_eq_true rfl)) ?_
      intro w H
      ((conv=>whnf);repeat((first|refine mvT ?_|refine mvF ?_|refine yT ?_|refine yF ?_);conv=>whnf))
      replace H : St w0 G0 p pb s5 ((g2, 105, es2.flatten ++ [str u3, c5, .map none] ++ ((List.replicate (n2.toNat - (i2 + 1)) [str [], .pointer none, .map none]).flatten ++ post2)) :: L2) P6 w := H
      (refine mvB ?_;((conv=>whnf);repeat((first|refine mvT ?_|refine mvF ?_|refine yT ?_|refine yF ?_);conv=>whnf)))
      refine VC.cutB (fun q : Value × List Tg × Rd => [(0, .pointer (some ⟨p, 0, none⟩)), (2, .bool false), (7, .pointer (some ⟨pb, 0, none⟩)), (8, .int .i16 v), (9, .bool fx), (10, .pointer (some ⟨p, 0, none⟩)), (13, .int .i32 n1), (12, .slice (some ⟨g1, 0, none⟩) n1.toNat cap1), (14, .int .i32 i1), (15, .pointer (some ⟨g1, 0 + (i1 : Int).toNat * 3, none⟩)), (16, .pointer (some ⟨g1, 0 + (i1 : Int).toNat * 3, none⟩)), (19, .int .i32 n2), (18, .slice (some ⟨g2, 0, none⟩) n2.toNat cap2), (20, .int .i32 i2), (21, .pointer (some ⟨g2, 0 + (i2 : Int).toNat * 3, none⟩)), (22, .pointer (some ⟨g2, 0 + (i2 : Int).toNat * 3, none⟩))]) (fun q w' => rdTagsF fx s5 = q.2 ∧ St w0 G0 p pb q.2.2 ((g2, 105, es2.flatten ++ [str u3, c5, q.1] ++ ((List.replicate (n2.toNat - (i2 + 1)) [str [], .pointer none, .map none]).flatten ++ post2)) :: L2) (fun w => TGf w0 G0 q.1 q.2.1 w ∧ P6 w) w') ?_ ?_
      · refine cI (by rfl) (fun hc=>?_) (fun hc=>?_)
        · ((conv=>whnf);repeat((first|refine mvT ?_|refine mvF ?_|refine yT ?_|refine yF ?_);conv=>whnf))
          refine Does.mono H.tags ?_
          rintro r w ⟨m, u, s', rfl, hone, hr, H⟩
          ((conv=>whnf);repeat((first|refine mvT ?_|refine mvF ?_|refine yT ?_|refine yF ?_);conv=>whnf))
          refine H.st1 (v := m) 2 (rfl) (hone) rfl (by first | omega | (simp [hlen2]; done) | (simp [hlen2]; omega)) rfl (Nat.lt_of_lt_of_le (Nat.lt_succ_self _) (Nat.le_of_ble_eq_true rfl)) ?_
          intro w H
          ((conv=>whnf);repeat((first|refine mvT ?_|refine mvF ?_|refine yT ?_|refine yF ?_);conv=>whnf))
          exact ⟨(m, u, s'), ⟨rfl, rfl, rfl, rfl, rfl, rfl, rfl, rfl, rfl, rfl, rfl, rfl, rfl, rfl, rfl, rfl, trivial⟩, by rw [rdTagsF, if_pos hc]; exact hr, H⟩
        · ((conv=>whnf);repeat((first|refine mvT ?_|refine mvF ?_|refine yT ?_|refine yF ?_);conv=>whnf))
          exact ⟨(.map none, [], s5), ⟨rfl, rfl, rfl, rfl, rfl, rfl, rfl, rfl, rfl, rfl, rfl, rfl, rfl, rfl, rfl, rfl, trivial⟩, by rw [rdTagsF, if_neg (by rw [hc]; decide)], H.add fun w' _ => TagsR.nil _ _⟩
      clear H
      rintro ⟨m8, u8, s8⟩ w ⟨htg, H⟩
      dsimp only at htg H
      ((conv=>whnf);repeat((first|refine mvT ?_|refine mvF ?_|refine yT ?_|refine yF ?_);conv=>whnf))
      obtain ⟨P9, hP9⟩ : ∃ P : World → Prop, P = fun w => TGf w0 G0 m8 u8 w ∧ P6 w := ⟨_, rfl⟩
      replace H : St w0 G0 p pb s8 ((g2, 105, es2.flatten ++ [str u3, c5, m8] ++ ((List.replicate (n2.toNat - (i2 + 1)) [str [], .pointer none, .map none]).flatten ++ post2)) :: L2) P9 w := by rw [hP9]; exact H
      have hpart : rdPart 7 v fx dAlterClientQuotasRequestEntryEntity si2 = (.mk 0 [] false [.mk 0 u3 false [] [], .mk 0 u5 nl5 [] []] u8, s8) := by
        unfold rdPart rdPartW
        rw [rdTail_plain (by decide)]
        rw [rdAll_yes (df := dfT 7) (rdField8 (by decide) hr3) ⟨by decide, has_all hv⟩, rdAll_yes (df := dfT 7) ((rdField8n (by decide)).trans hr5) ⟨by decide, has_all hv⟩]
        simp only [rdAll]
        rw [htg]
      refine ⟨i2 + 1, ⟨rfl, rfl, ?_, rfl, rfl, rfl, rfl, rfl, rfl, rfl, rfl, rfl, rfl, rfl, trivial⟩, ⟨by omega, ListI.back hgo2 (LoopI.next hes2 hez2 hrn2 hts2 (cur := [str u3, c5, m8]) (x := .mk 0 [] false [.mk 0 u3 false [] [], .mk 0 u5 nl5 [] []] u8) (hpart) rfl (by rw [← hL2]; exact H) fun w hP => ?_)⟩, by omega⟩
      · show some (Value.int .i32 _) = _
        rw [IntKind.wrap_i32]
        simp only [Option.some.injEq, Value.int.injEq, true_and]
        omega
      · skip
        rw [hP9] at hP
        obtain ⟨hf9_, hP⟩ := hP
        rw [hP6] at hP
        obtain ⟨hf6_, hP⟩ := hP
        rw [hP2] at hP
        exact ⟨QPt (QA1 (QF8 (by decide) u3) (QA1 (QF8n (by decide) hnl5 hf6_) (QA0))) hf9_, hP⟩
    have hge2 : ¬ (i2 : Int) < n2 := of_decide_eq_false h9
    obtain ⟨l10, s10, hone10, hl10, hr10, H⟩ := H.done hge2 hln2 (nl := nlF (.mk 11 0 (-1) (-1) (-1) 0 10 dAlterClientQuotasRequestEntryEntity) v) (sz := elZ true 7 10 dAlterClientQuotasRequestEntryEntity) rfl hpL2 rfl
    ((conv=>whnf);repeat((first|refine mvT ?_|refine mvF ?_|refine yT ?_|refine yF ?_);conv=>whnf))
    obtain ⟨P11, hP11⟩ : ∃ P : World → Prop, P = fun w => ListR true (elZ true 7 10 dAlterClientQuotasRequestEntryEntity) (elQ true 7 10 dAlterClientQuotasRequestEntryEntity ⟨w, FG w0 G0⟩) w (FG w0 G0) a2 (.mk 0 [] (decide (n2 ≤ 0)) l10 []) ∧ P1 w := ⟨_, rfl⟩
    replace H : St w0 G0 p pb s10 ((g1, 101, es1.flatten ++ [.slice none 0 0, .slice none 0 0, .map none] ++ ((List.replicate (n1.toNat - (i1 + 1)) [.slice none 0 0, .slice none 0 0, .map none]).flatten ++ post1)) :: L1) P11 w := by rw [hP11]; exact H
    refine H.st1 (v := a2) 0 (cells_one hone10) (hone10) rfl (by first | omega | (simp [hlen1]; done) | (simp [hlen1]; omega)) rfl (Nat.lt_of_lt_of_le (Nat.lt_succ_self _) (Nat.le_of_ble_eq_true rfl)) ?_
    intro w H
    ((conv=>whnf);repeat((first|refine mvT ?_|refine mvF ?_|refine yT ?_|refine yF ?_);conv=>whnf))
    replace H : St w0 G0 p pb s10 ((g1, 101, es1.flatten ++ [a2, .slice none 0 0, .map none] ++ ((List.replicate (n1.toNat - (i1 + 1)) [.slice none 0 0, .slice none 0 0, .map none]).flatten ++ post1)) :: L1) P11 w := H
    refine ⟨_, ld (H.cell rfl (k := 1) rfl) (by first | omega | (simp [hlen1]; done) | (simp [hlen1]; omega)), ?_⟩; ((conv=>whnf);repeat((first|refine mvT ?_|refine mvF ?_|refine yT ?_|refine yF ?_);conv=>whnf))
    (refine mvB ?_;((conv=>whnf);repeat((first|refine mvT ?_|refine mvF ?_|refine yT ?_|refine yF ?_);conv=>whnf)))
    refine VC.cutE (fun q : Int × Rd => [(27, .int .i32 q.1), (26, .slice none 0 0), (0, .pointer (some ⟨p, 0, none⟩)), (2, .bool false), (7, .pointer (some ⟨pb, 0, none⟩)), (8, .int .i16 v), (9, .bool fx), (10, .pointer (some ⟨p, 0, none⟩)), (13, .int .i32 n1), (12, .slice (some ⟨g1, 0, none⟩) n1.toNat cap1), (14, .int .i32 i1), (15, .pointer (some ⟨g1, 0 + (i1 : Int).toNat * 3, none⟩)), (16, .pointer (some ⟨g1, 0 + (i1 : Int).toNat * 3, none⟩))]) (fun q w' => (-2147483648 ≤ q.1 ∧ q.1 ≤ 2147483647) ∧ rdLn fx s10 = q ∧ St w0 G0 p pb q.2 ((g1, 101, es1.flatten ++ [a2, .slice none 0 0, .map none] ++ ((List.replicate (n1.toNat - (i1 + 1)) [.slice none 0 0, .slice none 0 0, .map none]).flatten ++ post1)) :: L1) P11 w') ?_ ?_
    · refine cI (by rfl) (fun hc=>?_) (fun hc=>?_)
      · ((conv=>whnf);repeat((first|refine mvT ?_|refine mvF ?_|refine yT ?_|refine yF ?_);conv=>whnf))
        refine Does.mono H.lnc ?_
        rintro r w ⟨n, s', rfl, hn, hr, H⟩
        ((conv=>whnf);repeat((first|refine mvT ?_|refine mvF ?_|refine yT ?_|refine yF ?_);conv=>whnf))
        exact ⟨(n, s'), ⟨rfl, rfl, rfl, rfl, rfl, rfl, rfl, rfl, rfl, rfl, rfl, rfl, rfl, trivial⟩, hn, by rw [hc]; exact hr, H⟩
      · ((conv=>whnf);repeat((first|refine mvT ?_|refine mvF ?_|refine yT ?_|refine yF ?_);conv=>whnf))
        refine Does.mono H.lnp ?_
        rintro r w ⟨n, s', rfl, hn, hr, H⟩
        ((conv=>whnf);repeat((first|refine mvT ?_|refine mvF ?_|refine yT ?_|refine yF ?_);conv=>whnf))
        exact ⟨(n, s'), ⟨rfl, rfl, rfl, rfl, rfl, rfl, rfl, rfl, rfl, rfl, rfl, rfl, rfl, trivial⟩, hn, by rw [hc]; exact hr, H⟩
    clear H
    rintro ⟨n13, s13⟩ w ⟨hn13, hln13, H⟩
    dsimp only at hn13 hln13 H
    ((conv=>whnf);repeat((first|refine mvT ?_|refine mvF ?_|refine yT ?_|refine yF ?_);conv=>whnf))
    refine Does.mono H.ok ?_
    rintro r w ⟨rfl, H⟩
    ((conv=>whnf);repeat((first|refine mvT ?_|refine mvF ?_|refine yT ?_|refine yF ?_);conv=>whnf))
    refine cI (by rfl) (fun hbd=>?_) (fun hbd=>?_)
    · have hbd : s13.2 = true := by simpa using hbd
      ((conv=>whnf);repeat((first|refine mvT ?_|refine mvF ?_|refine yT ?_|refine yF ?_);conv=>whnf))
      refine Does.mono (H.done hL hp1) ?_
      rintro r w ⟨rfl, H⟩
      ((conv=>whnf);repeat((first|refine mvT ?_|refine mvF ?_|refine yT ?_|refine yF ?_);conv=>whnf))
      refine RdPost.early hbd (hup1 (?_)) H
      rw [tail_yes ((rdField_list _ _ _ _ _ _ _ _ _ _ _).trans hr10) ⟨by decide, has_all hv⟩, tail_len ⟨by decide, has_all hv⟩ hln13 hbd]
    have hbd : s13.2 = false := by simpa using hbd
    clear hbd
    ((conv=>whnf);repeat((first|refine mvT ?_|refine mvF ?_|refine yT ?_|refine yF ?_);conv=>whnf))
    refine cut_zero ?_
    ((conv=>whnf);repeat((first|refine mvT ?_|refine mvF ?_|refine yT ?_|refine yF ?_);conv=>whnf))
    refine VC.cutE (fun a : Value => [(27, .int .i32 n13), (26, a), (0, .pointer (some ⟨p, 0, none⟩)), (2, .bool false), (7, .pointer (some ⟨pb, 0, none⟩)), (8, .int .i16 v), (9, .bool fx), (10, .pointer (some ⟨p, 0, none⟩)), (13, .int .i32 n1), (12, .slice (some ⟨g1, 0, none⟩) n1.toNat cap1), (14, .int .i32 i1), (15, .pointer (some ⟨g1, 0 + (i1 : Int).toNat * 3, none⟩)), (16, .pointer (some ⟨g1, 0 + (i1 : Int).toNat * 3, none⟩))]) (fun a w' => ListI w0 G0 p pb 113 [str [], .float .f64 0, .bool false, .map none] (elR 7 v fx 10 dAlterClientQuotasRequestEntryOp) (elQ true 7 10 dAlterClientQuotasRequestEntryOp) s13 n13 (decide (n13 ≤ 0)) ((g1, 101, es1.flatten ++ [a2, .slice none 0 0, .map none] ++ ((List.replicate (n1.toNat - (i1 + 1)) [.slice none 0 0, .slice none 0 0, .map none]).flatten ++ post1)) :: L1) P11 a 0 w') ?_ ?_
    · refine cI (by rfl) (fun hps=>?_) (fun hps=>?_)
      · have hps : 0 < n13 := by have := of_decide_eq_true hps; omega
        ((conv=>whnf);repeat((first|refine mvT ?_|refine mvF ?_|refine yT ?_|refine yF ?_);conv=>whnf))
        refine H.grow hps hn13.2 (by decide) rfl rfl (by decide) ?_
        intro g cap post w hc1 hc2 H
        ((conv=>whnf);repeat((first|refine mvT ?_|refine mvF ?_|refine yT ?_|refine yF ?_);conv=>whnf))
        exact ⟨_, ⟨rfl, rfl, rfl, rfl, rfl, rfl, rfl, rfl, rfl, rfl, rfl, rfl, rfl, trivial⟩, ListI.some hps (decide_eq_false (by omega)) hc1 hc2 H⟩
      · have hps : n13 ≤ 0 := by have := of_decide_eq_false hps; omega
        ((conv=>whnf);repeat((first|refine mvT ?_|refine mvF ?_|refine yT ?_|refine yF ?_);conv=>whnf))
        exact ⟨_, ⟨rfl, rfl, rfl, rfl, rfl, rfl, rfl, rfl, rfl, rfl, rfl, rfl, rfl, trivial⟩, ListI.none hps (decide_eq_true hps) H⟩
    clear H
    rintro a13 w H
    ((conv=>whnf);repeat((first|refine mvT ?_|refine mvF ?_|refine yT ?_|refine yF ?_);conv=>whnf))
    have hpL13 : inL ((g1, 101, es1.flatten ++ [a2, .slice none 0 0, .map none] ++ ((List.replicate (n1.toNat - (i1 + 1)) [.slice none 0 0, .slice none 0 0, .map none]).flatten ++ post1)) :: L1) p := inL.tail hpL1
    refine VL.loop (fun i : Nat => [(27, .int .i32 n13), (26, a13), (28, .int .i32 i), (0, .pointer (some ⟨p, 0, none⟩)), (2, .bool false), (7, .pointer (some ⟨pb, 0, none⟩)), (8, .int .i16 v), (9, .bool fx), (10, .pointer (some ⟨p, 0, none⟩)), (13, .int .i32 n1), (12, .slice (some ⟨g1, 0, none⟩) n1.toNat cap1), (14, .int .i32 i1), (15, .pointer (some ⟨g1, 0 + (i1 : Int).toNat * 3, none⟩)), (16, .pointer (some ⟨g1, 0 + (i1 : Int).toNat * 3, none⟩))]) (fun i w' => i ≤ 2147483647 ∧ ListI w0 G0 p pb 113 [str [], .float .f64 0, .bool false, .map none] (elR 7 v fx 10 dAlterClientQuotasRequestEntryOp) (elQ true 7 10 dAlterClientQuotasRequestEntryOp) s13 n13 (decide (n13 ≤ 0)) ((g1, 101, es1.flatten ++ [a2, .slice none 0 0, .map none] ++ ((List.replicate (n1.toNat - (i1 + 1)) [.slice none 0 0, .slice none 0 0, .map none]).flatten ++ post1)) :: L1) P11 a13 i w') (fun i => n13.toNat - i) 0 ⟨rfl, rfl, rfl, rfl, rfl, rfl, rfl, rfl, rfl, rfl, rfl, rfl, rfl, rfl, trivial⟩ ⟨by decide, H⟩ ?_
    clear H
    rintro i13 w ⟨hi13, H⟩
    ((conv=>whnf);repeat((first|refine mvT ?_|refine mvF ?_|refine yT ?_|refine yF ?_);conv=>whnf))
    refine cI (by rfl) (fun h9=>?_) (fun h9=>?_)
    · have hlt13 : (i13 : Int) < n13 := of_decide_eq_true h9
      obtain ⟨g13, cap13, post13, rfl, hgo13, HI⟩ := H.go hlt13
      obtain ⟨es13, ts13, si13, hes13, hez13, hrn13, hts13, hlen2, H⟩ := HI.open hgo13.2.2.2.2
      obtain ⟨L13, hL13⟩ : ∃ L : List Ob, L = ((g1, 101, es1.flatten ++ [a2, .slice none 0 0, .map none] ++ ((List.replicate (n1.toNat - (i1 + 1)) [.slice none 0 0, .slice none 0 0, .map none]).flatten ++ post1)) :: L1) := ⟨_, rfl⟩
      rw [← hL13] at H hpL13
      obtain ⟨P13, hP13⟩ : ∃ P : World → Prop, P = fun w => (∀ (j : Nat) (c : List Value) (y : T), es13[j]? = some c → ts13[j]? = some y → elQ true 7 10 dAlterClientQuotasRequestEntryOp ⟨w, FG w0 G0⟩ c y) ∧ P11 w := ⟨_, rfl⟩
      rw [← hP13] at H
      replace H : St w0 G0 p pb si13 ((g13, 113, es13.flatten ++ [str [], .float .f64 0, .bool false, .map none] ++ ((List.replicate (n13.toNat - (i13 + 1)) [str [], .float .f64 0, .bool false, .map none]).flatten ++ post13)) :: L13) P13 w := H
      ((conv=>whnf);repeat((first|refine mvT ?_|refine mvF ?_|refine yT ?_|refine yF ?_);conv=>whnf))
      refine ⟨g13, 0, rfl, ⟨by omega, by omega⟩, ?_⟩
      ((conv=>whnf);repeat((first|refine mvT ?_|refine mvF ?_|refine yT ?_|refine yF ?_);conv=>whnf))
      refine Does.mono (dfAlterClientQuotasRequestEntryOp (pre := es13.flatten) (cur := [str [], .float .f64 0, .bool false, .map none]) (post := ((List.replicate (n13.toNat - (i13 + 1)) [str [], .float .f64 0, .bool false, .map none]).flatten ++ post13)) H.head (by first | (rw [hlen2]; simp; done) | (simp [hlen2]; done) | (simp [hlen2]; omega)) rfl) ?_
      rintro rd w2 ⟨hdf, hxd⟩
      replace H := H.put hdf hxd
      clear hdf hxd
      replace H : St w0 G0 p pb si13 ((g13, 113, es13.flatten ++ [str [], .float .f64 0, .bool false, .map none] ++ ((List.replicate (n13.toNat - (i13 + 1)) [str [], .float .f64 0, .bool false, .map none]).flatten ++ post13)) :: L13) P13 w2 := H
      ((conv=>whnf);repeat((first|refine mvT ?_|refine mvF ?_|refine yT ?_|refine yF ?_);conv=>whnf))
      have hup13 : tailBad 7 v fx dAlterClientQuotasRequestEntryOp dAlterClientQuotasRequestEntryOp si13 = true → (rdPart 9 v fx dAlterClientQuotasRequest (l, false)).2.2 = true := by
        intro hb
        refine hup1 ?_
        rw [tail_yes ((rdField_list _ _ _ _ _ _ _ _ _ _ _).trans hr10) ⟨by decide, has_all hv⟩, tail_el ⟨by decide, has_all hv⟩ hln13 hgo13.2.2.2.2 hrn13 ((tailBad_part _ _ _ _ _).symm.trans hb)]
      (refine mvB ?_;((conv=>whnf);repeat((first|refine mvT ?_|refine mvF ?_|refine yT ?_|refine yF ?_);conv=>whnf)))
      refine VC.cutE (fun q : List UInt8 × Rd => [(31, str q.1), (0, .pointer (some ⟨p, 0, none⟩)), (2, .bool false), (7, .pointer (some ⟨pb, 0, none⟩)), (8, .int .i16 v), (9, .bool fx), (10, .pointer (some ⟨p, 0, none⟩)), (13, .int .i32 n1), (12, .slice (some ⟨g1, 0, none⟩) n1.toNat cap1), (14, .int .i32 i1), (15, .pointer (some ⟨g1, 0 + (i1 : Int).toNat * 3, none⟩)), (16, .pointer (some ⟨g1, 0 + (i1 : Int).toNat * 3, none⟩)), (27, .int .i32 n13), (26, .slice (some ⟨g13, 0, none⟩) n13.toNat cap13), (28, .int .i32 i13), (29, .pointer (some ⟨g13, 0 + (i13 : Int).toNat * 4, none⟩)), (30, .pointer (some ⟨g13, 0 + (i13 : Int).toNat * 4, none⟩))]) (fun q w' => rdTx fx si13 = q ∧ St w0 G0 p pb q.2 ((g13, 113, es13.flatten ++ [str [], .float .f64 0, .bool false, .map none] ++ ((List.replicate (n13.toNat - (i13 + 1)) [str [], .float .f64 0, .bool false, .map none]).flatten ++ post13)) :: L13) P13 w') ?_ ?_
      · refine cI (by rfl) (fun hc=>?_) (fun hc=>?_)
        · ((conv=>whnf);repeat((first|refine mvT ?_|refine mvF ?_|refine yT ?_|refine yF ?_);conv=>whnf))
          refine Does.mono H.txc ?_
          rintro r w ⟨u, s', rfl, hr, H⟩
          ((conv=>whnf);repeat((first|refine mvT ?_|refine mvF ?_|refine yT ?_|refine yF ?_);conv=>whnf))
          exact ⟨(u, s'), ⟨rfl, rfl, rfl, rfl, rfl, rfl, rfl, rfl, rfl, rfl, rfl, rfl, rfl, rfl, rfl, rfl, rfl, trivial⟩, by rw [hc]; exact hr, H⟩
        · ((conv=>whnf);repeat((first|refine mvT ?_|refine mvF ?_|refine yT ?_|refine yF ?_);conv=>whnf))
          refine Does.mono H.txp ?_
          rintro r w ⟨u, s', rfl, hr, H⟩
          ((conv=>whnf);repeat((first|refine mvT ?_|refine mvF ?_|refine yT ?_|refine yF ?_);conv=>whnf))
          exact ⟨(u, s'), ⟨rfl, rfl, rfl, rfl, rfl, rfl, rfl, rfl, rfl, rfl, rfl, rfl, rfl, rfl, rfl, rfl, rfl, trivial⟩, by rw [hc]; exact hr, H⟩
      clear H
      rintro ⟨u14, s14⟩ w ⟨hr14, H⟩
      dsimp only at hr14 H
      ((conv=>whnf);repeat((first|refine mvT ?_|refine mvF ?_|refine yT ?_|refine yF ?_);conv=>whnf))
      refine H.st1 (v := str u14) 0 (rfl) (rfl) rfl (by first | omega | (simp [hlen2]; done) | (simp [hlen2]; omega)) rfl (Nat.lt_of_lt_of_le (Nat.lt_succ_self _) (Nat.le_of_ble_eq_true rfl)) ?_
      intro w H
      ((conv=>whnf);repeat((first|refine mvT ?_|refine mvF ?_|refine yT ?_|refine yF ?_);conv=>whnf))
      replace H : St w0 G0 p pb s14 ((g13, 113, es13.flatten ++ [str u14, .float .f64 0, .bool false, .map none] ++ ((List.replicate (n13.toNat - (i13 + 1)) [str [], .float .f64 0, .bool false, .map none]).flatten ++ post13)) :: L13) P13 w := H
      refine Does.mono H.float64 ?_
      rintro r w ⟨n16, s16, rfl, hn16, hr16, H⟩
      ((conv=>whnf);repeat((first|refine mvT ?_|refine mvF ?_|refine yT ?_|refine yF ?_);conv=>whnf))
      refine H.st1 (v := .float .f64 (fb n16)) 1 (rfl) (rfl) rfl (by first | omega | (simp [hlen2]; done) | (simp [hlen2]; omega)) rfl (Nat.lt_of_lt_of_le (Nat.lt_succ_self _) (Nat.le_of_ble_eq_true rfl)) ?_
      intro w H
      ((conv=>whnf);repeat((first|refine mvT ?_|refine mvF ?_|refine yT ?_|refine yF ?_);conv=>whnf))
      replace H : St w0 G0 p pb s16 ((g13, 113, es13.flatten ++ [str u14, .float .f64 (fb n16), .bool false, .map none] ++ ((List.replicate (n13.toNat - (i13 + 1)) [str [], .float .f64 0, .bool false, .map none]).flatten ++ post13)) :: L13) P13 w := H
      refine Does.mono H.bool ?_
      rintro r w ⟨b18, s18, rfl, hr18, H⟩
      ((conv=>whnf);repeat((first|refine mvT ?_|refine mvF ?_|refine yT ?_|refine yF ?_);conv=>whnf))
      (refine mvB ?_;((conv=>whnf);repeat((first|refine mvT ?_|refine mvF ?_|refine yT ?_|refine yF ?_);conv=>whnf)))
      refine H.st1 (v := .bool b18) 2 (rfl) (rfl) rfl (by first | omega | (simp [hlen2]; done) | (simp [hlen2]; omega)) rfl (Nat.lt_of_lt_of_le (Nat.lt_succ_self _) (Nat.le_of_ble_eq_true rfl)) ?_
      intro w H
      ((conv=>whnf);repeat((first|refine mvT ?_|refine mvF ?_|refine yT ?_|refine yF ?_);conv=>whnf))
      replace H : St w0 G0 p pb s18 ((g13, 113, es13.flatten ++ [str u14, .float .f64 (fb n16), .bool b18, .map none] ++ ((List.replicate (n13.toNat - (i13 + 1)) [str [], .float .f64 0, .bool false, .map none]).flatten ++ post13)) :: L13) P13 w := H
      (refine mvB ?_;((conv=>whnf);repeat((first|refine mvT ?_|refine mvF ?_|refine yT ?_|refine yF ?_);conv=>whnf)))
      refine VC.cutB (fun q : Value × List Tg × Rd => [(0, .pointer (some ⟨p, 0, none⟩)), (2, .bool false), (7, .pointer (some ⟨pb, 0, none⟩)), (8, .int .i16 v), (9, .bool fx), (10, .pointer (some ⟨p, 0, none⟩)), (13, .int .i32 n1), (12, .slice (some ⟨g1, 0, none⟩) n1.toNat cap1), (14, .int .i32 i1), (15, .pointer (some ⟨g1, 0 + (i1 : Int).toNat * 3, none⟩)), (16, .pointer (some ⟨g1, 0 + (i1 : Int).toNat * 3, none⟩)), (27, .int .i32 n13), (26, .slice (some ⟨g13, 0, none⟩) n13.toNat cap13), (28, .int .i32 i13), (29, .pointer (some ⟨g13, 0 + (i13 : Int).toNat * 4, none⟩)), (30, .pointer (some ⟨g13, 0 + (i13 : Int).toNat * 4, none⟩))]) (fun q w' => rdTagsF fx s18 = q.2 ∧ St w0 G0 p pb q.2.2 ((g13, 113, es13.flatten ++ [str u14, .float .f64 (fb n16), .bool b18, q.1] ++ ((List.replicate (n13.toNat - (i13 + 1)) [str [], .float .f64 0, .bool false, .map none]).flatten ++ post13)) :: L13) (fun w => TGf w0 G0 q.1 q.2.1 w ∧ P13 w) w') ?_ ?_
      · refine cI (by rfl) (fun hc=>?_) (fun hc=>?_)
        · ((conv=>whnf);repeat((first|refine mvT ?_|refine mvF ?_|refine yT ?_|refine yF ?_);conv=>whnf))
          refine Does.mono H.tags ?_
          rintro r w ⟨m, u, s', rfl, hone, hr, H⟩
          ((conv=>whnf);repeat((first|refine mvT ?_|refine mvF ?_|refine yT ?_|refine yF ?_);conv=>whnf))
          refine H.st1 (v := m) 3 (rfl) (hone) rfl (by first | omega | (simp [hlen2]; done) | (simp [hlen2]; omega)) rfl (Nat.lt_of_lt_of_le (Nat.lt_succ_self _) (Nat.le_of_ble_eq_true rfl)) ?_
          intro w H
          ((conv=>whnf);repeat((first|refine mvT ?_|refine mvF ?_|refine yT ?_|refine yF ?_);conv=>whnf))
          exact ⟨(m, u, s'), ⟨rfl, rfl, rfl, rfl, rfl, rfl, rfl, rfl, rfl, rfl, rfl, rfl, rfl, rfl, rfl, rfl, trivial⟩, by rw [rdTagsF, if_pos hc]; exact hr, H⟩
        · ((conv=>whnf);repeat((first|refine mvT ?_|refine mvF ?_|refine yT ?_|refine yF ?_);conv=>whnf))
          exact ⟨(.map none, [], s18), ⟨rfl, rfl, rfl, rfl, rfl, rfl, rfl, rfl, rfl, rfl, rfl, rfl, rfl, rfl, rfl, rfl, trivial⟩, by rw [rdTagsF, if_neg (by rw [hc]; decide)], H.add fun w' _ => TagsR.nil _ _⟩
      clear H
      rintro ⟨m20, u20, s20⟩ w ⟨htg, H⟩
      dsimp only at htg H
      ((conv=>whnf);repeat((first|refine mvT ?_|refine mvF ?_|refine yT ?_|refine yF ?_);conv=>whnf))
      obtain ⟨P21, hP21⟩ : ∃ P : World → Prop, P = fun w => TGf w0 G0 m20 u20 w ∧ P13 w := ⟨_, rfl⟩
      replace H : St w0 G0 p pb s20 ((g13, 113, es13.flatten ++ [str u14, .float .f64 (fb n16), .bool b18, m20] ++ ((List.replicate (n13.toNat - (i13 + 1)) [str [], .float .f64 0, .bool false, .map none]).flatten ++ post13)) :: L13) P21 w := by rw [hP21]; exact H
      have hpart : rdPart 7 v fx dAlterClientQuotasRequestEntryOp si13 = (.mk 0 [] false [.mk 0 u14 false [] [], numT n16, numT (if b18 = true then 1 else 0)] u20, s20) := by
        unfold rdPart rdPartW
        rw [rdTail_plain (by decide)]
        rw [rdAll_yes (df := dfT 7) (rdField8 (by decide) hr14) ⟨by decide, has_all hv⟩, rdAll_yes (df := dfT 7) (rdField6.trans hr16) ⟨by decide, has_all hv⟩, rdAll_yes (df := dfT 7) (rdField0.trans hr18) ⟨by decide, has_all hv⟩]
        simp only [rdAll]
        rw [htg]
      refine ⟨i13 + 1, ⟨rfl, rfl, ?_, rfl, rfl, rfl, rfl, rfl, rfl, rfl, rfl, rfl, rfl, rfl, trivial⟩, ⟨by omega, ListI.back hgo13 (LoopI.next hes13 hez13 hrn13 hts13 (cur := [str u14, .float .f64 (fb n16), .bool b18, m20]) (x := .mk 0 [] false [.mk 0 u14 false [] [], numT n16, numT (if b18 = true then 1 else 0)] u20) (hpart) rfl (by rw [← hL13]; exact H) fun w hP => ?_)⟩, by omega⟩
      · show some (Value.int .i32 _) = _
        rw [IntKind.wrap_i32]
        simp only [Option.some.injEq, Value.int.injEq, true_and]
        omega
      · skip
        rw [hP21] at hP
        obtain ⟨hf21_, hP⟩ := hP
        rw [hP13] at hP
        exact ⟨QPt (QA1 (QF8 (by decide) u14) (QA1 (QF6 hn16) (QA1 (QF0 b18) (QA0)))) hf21_, hP⟩
    have hge13 : ¬ (i13 : Int) < n13 := of_decide_eq_false h9
    obtain ⟨l22, s22, hone22, hl22, hr22, H⟩ := H.done hge13 hln13 (nl := nlF (.mk 11 0 (-1) (-1) (-1) 0 10 dAlterClientQuotasRequestEntryOp) v) (sz := elZ true 7 10 dAlterClientQuotasRequestEntryOp) rfl hpL13 rfl
    ((conv=>whnf);repeat((first|refine mvT ?_|refine mvF ?_|refine yT ?_|refine yF ?_);conv=>whnf))
    obtain ⟨P23, hP23⟩ : ∃ P : World → Prop, P = fun w => ListR true (elZ true 7 10 dAlterClientQuotasRequestEntryOp) (elQ true 7 10 dAlterClientQuotasRequestEntryOp ⟨w, FG w0 G0⟩) w (FG w0 G0) a13 (.mk 0 [] (decide (n13 ≤ 0)) l22 []) ∧ P11 w := ⟨_, rfl⟩
    replace H : St w0 G0 p pb s22 ((g1, 101, es1.flatten ++ [a2, .slice none 0 0, .map none] ++ ((List.replicate (n1.toNat - (i1 + 1)) [.slice none 0 0, .slice none 0 0, .map none]).flatten ++ post1)) :: L1) P23 w := by rw [hP23]; exact H
    refine H.st1 (v := a13) 1 (cells_one hone22) (hone22) rfl (by first | omega | (simp [hlen1]; done) | (simp [hlen1]; omega)) rfl (Nat.lt_of_lt_of_le (Nat.lt_succ_self _) (Nat.le_of_ble_eq_true rfl)) ?_
    intro w H
    ((conv=>whnf);repeat((first|refine mvT ?_|refine mvF ?_|refine yT ?_|refine yF ?_);conv=>whnf))
    replace H : St w0 G0 p pb s22 ((g1, 101, es1.flatten ++ [a2, a13, .map none] ++ ((List.replicate (n1.toNat - (i1 + 1)) [.slice none 0 0, .slice none 0 0, .map none]).flatten ++ post1)) :: L1) P23 w := H
    (refine mvB ?_;((conv=>whnf);repeat((first|refine mvT ?_|refine mvF ?_|refine yT ?_|refine yF ?_);conv=>whnf)))
    refine VC.cutB (fun q : Value × List Tg × Rd => [(0, .pointer (some ⟨p, 0, none⟩)), (2, .bool false), (7, .pointer (some ⟨pb, 0, none⟩)), (8, .int .i16 v), (9, .bool fx), (10, .pointer (some ⟨p, 0, none⟩)), (13, .int .i32 n1), (12, .slice (some ⟨g1, 0, none⟩) n1.toNat cap1), (14, .int .i32 i1), (15, .pointer (some ⟨g1, 0 + (i1 : Int).toNat * 3, none⟩)), (16, .pointer (some ⟨g1, 0 + (i1 : Int).toNat * 3, none⟩))]) (fun q w' => rdTagsF fx s22 = q.2 ∧ St w0 G0 p pb q.2.2 ((g1, 101, es1.flatten ++ [a2, a13, q.1] ++ ((List.replicate (n1.toNat - (i1 + 1)) [.slice none 0 0, .slice none 0 0, .map none]).flatten ++ post1)) :: L1) (fun w => TGf w0 G0 q.1 q.2.1 w ∧ P23 w) w') ?_ ?_
    · refine cI (by rfl) (fun hc=>?_) (fun hc=>?_)
      · ((conv=>whnf);repeat((first|refine mvT ?_|refine mvF ?_|refine yT ?_|refine yF ?_);conv=>whnf))
        refine Does.mono H.tags ?_
        rintro r w ⟨m, u, s', rfl, hone, hr, H⟩
        ((conv=>whnf);repeat((first|refine mvT ?_|refine mvF ?_|refine yT ?_|refine yF ?_);conv=>whnf))
        refine H.st1 (v := m) 2 (rfl) (hone) rfl (by first | omega | (simp [hlen1]; done) | (simp [hlen1]; omega)) rfl (Nat.lt_of_lt_of_le (Nat.lt_succ_self _) (Nat.le_of_ble_eq_true rfl)) ?_
        intro w H
        ((conv=>whnf);repeat((first|refine mvT ?_|refine mvF ?_|refine yT ?_|refine yF ?_);conv=>whnf))
        exact ⟨(m, u, s'), ⟨rfl, rfl, rfl, rfl, rfl, rfl, rfl, rfl, rfl, rfl, rfl, trivial⟩, by rw [rdTagsF, if_pos hc]; exact hr, H⟩
      · ((conv=>whnf);repeat((first|refine mvT ?_|refine mvF ?_|refine yT ?_|refine yF ?_);conv=>whnf))
        exact ⟨(.map none, [], s22), ⟨rfl, rfl, rfl, rfl, rfl, rfl, rfl, rfl, rfl, rfl, rfl, trivial⟩, by rw [rdTagsF, if_neg (by rw [hc]; decide)], H.add fun w' _ => TagsR.nil _ _⟩
    clear H
    rintro ⟨m25, u25, s25⟩ w ⟨htg, H⟩
    dsimp only at htg H
    ((conv=>whnf);repeat((first|refine mvT ?_|refine mvF ?_|refine yT ?_|refine yF ?_);conv=>whnf))
    obtain ⟨P26, hP26⟩ : ∃ P : World → Prop, P = fun w => TGf w0 G0 m25 u25 w ∧ P23 w := ⟨_, rfl⟩
    replace H : St w0 G0 p pb s25 ((g1, 101, es1.flatten ++ [a2, a13, m25] ++ ((List.replicate (n1.toNat - (i1 + 1)) [.slice none 0 0, .slice none 0 0, .map none]).flatten ++ post1)) :: L1) P26 w := by rw [hP26]; exact H
    have hpart : rdPart 8 v fx dAlterClientQuotasRequestEntry si1 = (.mk 0 [] false [.mk 0 [] (decide (n2 ≤ 0)) l10 [], .mk 0 [] (decide (n13 ≤ 0)) l22 []] u25, s25) := by
      unfold rdPart rdPartW
      rw [rdTail_plain (by decide)]
      rw [rdAll_yes (df := dfT 8) ((rdField_list _ _ _ _ _ _ _ _ _ _ _).trans hr10) ⟨by decide, has_all hv⟩, rdAll_yes (df := dfT 8) ((rdField_list _ _ _ _ _ _ _ _ _ _ _).trans hr22) ⟨by decide, has_all hv⟩]
      simp only [rdAll]
      rw [htg]
    refine ⟨i1 + 1, ⟨rfl, rfl, ?_, rfl, rfl, rfl, rfl, rfl, rfl, trivial⟩, ⟨by omega, ListI.back hgo1 (LoopI.next hes1 hez1 hrn1 hts1 (cur := [a2, a13, m25]) (x := .mk 0 [] false [.mk 0 [] (decide (n2 ≤ 0)) l10 [], .mk 0 [] (decide (n13 ≤ 0)) l22 []] u25) (hpart) rfl (by rw [← hL1]; exact H) fun w hP => ?_)⟩, by omega⟩
    · show some (Value.int .i32 _) = _
      rw [IntKind.wrap_i32]
      simp only [Option.some.injEq, Value.int.injEq, true_and]
      omega
    · skip
      rw [hP26] at hP
      obtain ⟨hf26_, hP⟩ := hP
      rw [hP23] at hP
      obtain ⟨hf23_, hP⟩ := hP
      rw [hP11] at hP
      obtain ⟨hf11_, hP⟩ := hP
      rw [hP1] at hP
      exact ⟨QPt (QA1 (QF11 hl10 hf11_) (QA1 (QF11 hl22 hf23_) (QA0))) hf26_, hP⟩
  have hge1 : ¬ (i1 : Int) < n1 := of_decide_eq_false h9
  obtain ⟨l27, s27, hone27, hl27, hr27, H⟩ := H.done hge1 hln1 (nl := nlF (.mk 11 0 (-1) (-1) (-1) 0 10 dAlterClientQuotasRequestEntry) v) (sz := elZ true 8 10 dAlterClientQuotasRequestEntry) rfl hpL1 rfl
  ((conv=>whnf);repeat((first|refine mvT ?_|refine mvF ?_|refine yT ?_|refine yF ?_);conv=>whnf))
  obtain ⟨P28, hP28⟩ : ∃ P : World → Prop, P = fun w => ListR true (elZ true 8 10 dAlterClientQuotasRequestEntry) (elQ true 8 10 dAlterClientQuotasRequestEntry ⟨w, FG w0 G0⟩) w (FG w0 G0) a1 (.mk 0 [] (decide (n1 ≤ 0)) l27 []) ∧ (fun _ => True) w := ⟨_, rfl⟩
  replace H : St w0 G0 p pb s27 ((p, ty, [] ++ [.int .i16 v, .slice none 0 0, .bool false, .map none] ++ []) :: []) P28 w := by rw [hP28]; exact H
  refine H.st1 (v := a1) 1 (cells_one hone27) (hone27) rfl (by simp) rfl (Nat.lt_of_lt_of_le (Nat.lt_succ_self _) (Nat.le_of_ble_eq_true rfl)) ?_
  intro w H
  ((conv=>whnf);repeat((first|refine mvT ?_|refine mvF ?_|refine yT ?_|refine yF ?_);conv=>whnf))
  replace H : St w0 G0 p pb s27 ((p, ty, [] ++ [.int .i16 v, a1, .bool false, .map none] ++ []) :: []) P28 w := H
  refine Does.mono H.bool ?_
  rintro r w ⟨b30, s30, rfl, hr30, H⟩
  ((conv=>whnf);repeat((first|refine mvT ?_|refine mvF ?_|refine yT ?_|refine yF ?_);conv=>whnf))
  (refine mvB ?_;((conv=>whnf);repeat((first|refine mvT ?_|refine mvF ?_|refine yT ?_|refine yF ?_);conv=>whnf)))
  refine H.st1 (v := .bool b30) 2 (rfl) (rfl) rfl (by simp) rfl (Nat.lt_of_lt_of_le (Nat.lt_succ_self _) (Nat.le_of_ble_eq_true rfl)) ?_
  intro w H
  ((conv=>whnf);repeat((first|refine mvT ?_|refine mvF ?_|refine yT ?_|refine yF ?_);conv=>whnf))
  replace H : St w0 G0 p pb s30 ((p, ty, [] ++ [.int .i16 v, a1, .bool b30, .map none] ++ []) :: []) P28 w := H
  (refine mvB ?_;((conv=>whnf);repeat((first|refine mvT ?_|refine mvF ?_|refine yT ?_|refine yF ?_);conv=>whnf)))
  refine VC.cutE (fun q : Value × List Tg × Rd => [(0, .pointer (some ⟨p, 0, none⟩)), (2, .bool false), (7, .pointer (some ⟨pb, 0, none⟩)), (8, .int .i16 v), (9, .bool fx), (10, .pointer (some ⟨p, 0, none⟩))]) (fun q w' => rdTagsF fx s30 = q.2 ∧ St w0 G0 p pb q.2.2 ((p, ty, [] ++ [.int .i16 v, a1, .bool b30, q.1] ++ []) :: []) (fun w => TGf w0 G0 q.1 q.2.1 w ∧ P28 w) w') ?_ ?_
  · refine cI (by rfl) (fun hc=>?_) (fun hc=>?_)
    · ((conv=>whnf);repeat((first|refine mvT ?_|refine mvF ?_|refine yT ?_|refine yF ?_);conv=>whnf))
      refine Does.mono H.tags ?_
      rintro r w ⟨m, u, s', rfl, hone, hr, H⟩
      ((conv=>whnf);repeat((first|refine mvT ?_|refine mvF ?_|refine yT ?_|refine yF ?_);conv=>whnf))
      refine H.st1 (v := m) 3 (rfl) (hone) rfl (by simp) rfl (Nat.lt_of_lt_of_le (Nat.lt_succ_self _) (Nat.le_of_ble_eq_true rfl)) ?_
      intro w H
      ((conv=>whnf);repeat((first|refine mvT ?_|refine mvF ?_|refine yT ?_|refine yF ?_);conv=>whnf))
      exact ⟨(m, u, s'), ⟨rfl, rfl, rfl, rfl, rfl, rfl, trivial⟩, by rw [rdTagsF, if_pos hc]; exact hr, H⟩
    · ((conv=>whnf);repeat((first|refine mvT ?_|refine mvF ?_|refine yT ?_|refine yF ?_);conv=>whnf))
      exact ⟨(.map none, [], s30), ⟨rfl, rfl, rfl, rfl, rfl, rfl, trivial⟩, by rw [rdTagsF, if_neg (by rw [hc]; decide)], H.add fun w' _ => TagsR.nil _ _⟩
  clear H
  rintro ⟨m32, u32, s32⟩ w ⟨htg, H⟩
  dsimp only at htg H
  ((conv=>whnf);repeat((first|refine mvT ?_|refine mvF ?_|refine yT ?_|refine yF ?_);conv=>whnf))
  obtain ⟨P33, hP33⟩ : ∃ P : World → Prop, P = fun w => TGf w0 G0 m32 u32 w ∧ P28 w := ⟨_, rfl⟩
  replace H : St w0 G0 p pb s32 ((p, ty, [] ++ [.int .i16 v, a1, .bool b30, m32] ++ []) :: []) P33 w := by rw [hP33]; exact H
  have hpart : rdPart 9 v fx dAlterClientQuotasRequest (l, false) = (.mk 0 [] false [.mk 0 [] (decide (n1 ≤ 0)) l27 [], numT (if b30 = true then 1 else 0)] u32, s32) := by
    unfold rdPart rdPartW
    rw [rdTail_plain (by decide)]
    rw [rdAll_yes (df := dfT 9) ((rdField_list _ _ _ _ _ _ _ _ _ _ _).trans hr27) ⟨by decide, has_all hv⟩, rdAll_yes (df := dfT 9) (rdField0.trans hr30) ⟨by decide, has_all hv⟩]
    simp only [rdAll]
    rw [htg]
  refine Does.mono (H.done hL hp1) ?_
  rintro r w ⟨rfl, H⟩
  ((conv=>whnf);repeat((first|refine mvT ?_|refine mvF ?_|refine yT ?_|refine yF ?_);conv=>whnf))
  refine RdPost.end hpart H fun hP => ?_
  rw [hP33] at hP
  obtain ⟨hf33_, hP⟩ := hP
  rw [hP28] at hP
  obtain ⟨hf28_, hP⟩ := hP
  exact QPt (QA1 (QF11 hl27 hf28_) (QA1 (QF0 b30) (QA0))) hf33_
end Go.Proofs.YtibbkhcdplijdaaGreatDoor.K
