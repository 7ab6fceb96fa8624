/- Reading of ConsumerMemberAssignment. -/
import Derived.Test.YtefgfdbckbkfiaaDoorE5
set_option linter.unusedVariables false
set_option linter.unusedSimpArgs false
namespace Go.Proofs.YtefgfdbckbkfiaaDoor.K
open Go
set_option maxHeartbeats 4000000
set_option maxRecDepth 100000

abbrev dConsumerMemberAssignmentTopic : List Fd := [.mk 8 0 (-1) (-1) (-1) 0 0 [], .mk 11 0 (-1) (-1) (-1) 0 3 []]
abbrev dConsumerMemberAssignment : List Fd := [.mk 11 0 (-1) (-1) (-1) 0 10 dConsumerMemberAssignmentTopic, .mk 9 0 (-1) 0 (-1) 0 0 []]
abbrev oConsumerMemberAssignment : List Fd := [.mk 11 0 (-1) (-1) (-1) 0 10 dConsumerMemberAssignmentTopic, .mk 9 0 (-1) (-1) (-1) 0 0 []]
theorem sConsumerMemberAssignmentTopic (w : World) : Does X.P 15 #[] w fun r w' => FdsR w' (fun k => w.heap.size ≤ k) r dConsumerMemberAssignmentTopic ∧ Ext nob w w' := by
  have hx0 : Ext nob w w := Ext.refl _ _
  refine Does.go (X := X) (l := []) Tryd.func15 rfl (by kernel_rfl) (by kernel_rfl) _ rfl ?_
  ((conv=>whnf);repeat((first|refine mvT ?_|refine mvF ?_|refine yT ?_|refine yF ?_);conv=>whnf))
  have hxs := hx0
  intro b wb hb ho hx
  have hx0 := hx0.e0 hx
  ((conv=>whnf);repeat((first|refine mvT ?_|refine mvF ?_|refine yT ?_|refine yF ?_);conv=>whnf))
  refine ⟨?_, hx0⟩
  exact FdL.fds (cs := [[.int .i64 8, .int .i64 0, .int .i64 (-1), .int .i64 (-1), .int .i64 (-1), .int .i64 0, .int .i64 0, .slice none 0 0], [.int .i64 11, .int .i64 0, .int .i64 (-1), .int .i64 (-1), .int .i64 (-1), .int .i64 0, .int .i64 3, .slice none 0 0]])
    ⟨fdLeaf _ _ _ _ _ _ _ _ _, fdLeaf _ _ _ _ _ _ _ _ _, trivial⟩ ho rfl (by decide) (by have := hxs.size; omega)
theorem sConsumerMemberAssignment (w : World) : Does X.P 6 #[] w fun r w' => Msg w' (fun k => w.heap.size ≤ k) r oConsumerMemberAssignment (-1) ∧ Ext nob w w' := by
  have hx0 : Ext nob w w := Ext.refl _ _
  refine Does.go (X := X) (l := []) Tryd.func6 rfl (by kernel_rfl) (by kernel_rfl) _ rfl ?_
  ((conv=>whnf);repeat((first|refine mvT ?_|refine mvF ?_|refine yT ?_|refine yF ?_);conv=>whnf))
  intro b w1 hb ho hx
  have hx0 := hx0.e0 hx
  have ho := ho
  ((conv=>whnf);repeat((first|refine mvT ?_|refine mvF ?_|refine yT ?_|refine yF ?_);conv=>whnf))
  refine Does.mono (sConsumerMemberAssignmentTopic w1) ?_
  rintro v0 wv0 ⟨hv0, hc⟩
  have hv0 := hv0.mono (F' := fun k => w.heap.size ≤ k ∧ b < k) fun k _ h => ⟨Nat.le_trans hx0.size h, Nat.lt_of_lt_of_le ho.lt h⟩
  obtain ⟨lv0, gv0, _⟩ := id hv0
  obtain ⟨av0, kv0, rfl, _⟩ := gv0.view
  ((conv=>whnf);repeat((first|refine mvT ?_|refine mvF ?_|refine yT ?_|refine yF ?_);conv=>whnf))
  have hx0 := hx0.e0 hc
  have ho := ho.e0 hc
  have hxs := hx0
  intro b2 w2 hb2 ho2 hx2
  ((conv=>whnf);repeat((first|refine mvT ?_|refine mvF ?_|refine yT ?_|refine yF ?_);conv=>whnf))
  have hx0 := hx0.e0 hx2
  refine ⟨_, _, ho.e0 hx2, rfl, rfl, rfl, ?_⟩
  intro w3 ho3 hx3
  have hx03 := hx0.st hx3 hb
  ((conv=>whnf);repeat((first|refine mvT ?_|refine mvF ?_|refine yT ?_|refine yF ?_);conv=>whnf))
  refine ⟨_, rfl, ho3.cells, ?_⟩
  refine ⟨⟨_, rfl, ?_⟩, hx03⟩
  have ho2 := ho2.ext hx3 (by have := ho.lt; omega)
  have hs := hx0.size
  have hs2 : w.heap.size ≤ b2 := Nat.le_trans hxs.size hb2
  exact FdL.fds (cs := [[.int .i64 11, .int .i64 0, .int .i64 (-1), .int .i64 (-1), .int .i64 (-1), .int .i64 0, .int .i64 10, .slice av0 lv0.length kv0], [.int .i64 9, .int .i64 0, .int .i64 (-1), .int .i64 (-1), .int .i64 (-1), .int .i64 0, .int .i64 0, .slice none 0 0]])
    ⟨FdC.of (FdsR.mono (FdsR.ext (FdsR.e0 hv0 hx2) hx3 fun k _ h1 h2 => by omega) fun k _ h => h.1) _ _ _ _ _ _ _, fdLeaf _ _ _ _ _ _ _ _ _, trivial⟩ ho2 rfl (by decide) (by omega)
theorem dfConsumerMemberAssignmentTopic {w : World} {q o : Nat} {T : TypeId} {pre cur post : List Value} (ho : Own w q T (pre ++ cur ++ post)) (hp : pre.length = o) (hl : cur.length = 2) :
    Does X.P 27 #[.pointer (some ⟨q, o, none⟩)] w fun r w' => Own w' q T (pre ++ cur ++ post) ∧ Ext (fun k => k = q) w w' := by
  have hx : Ext (fun k => k = q) w w := Ext.refl _ _
  refine Does.go (X := X) (l := [_]) Tryd.func27 rfl (by kernel_rfl) (by kernel_rfl) _ rfl ?_
  ((conv=>whnf);repeat((first|refine mvT ?_|refine mvF ?_|refine yT ?_|refine yF ?_);conv=>whnf))
  exact ⟨ho, hx⟩
theorem dfConsumerMemberAssignment {w : World} {q o : Nat} {T : TypeId} {pre cur post : List Value} (ho : Own w q T (pre ++ cur ++ post)) (hp : pre.length = o) (hl : cur.length = 3) :
    Does X.P 18 #[.pointer (some ⟨q, o, none⟩)] w fun r w' => Own w' q T (pre ++ cur ++ post) ∧ Ext (fun k => k = q) w w' := by
  have hx : Ext (fun k => k = q) w w := Ext.refl _ _
  refine Does.go (X := X) (l := [_]) Tryd.func18 rfl (by kernel_rfl) (by kernel_rfl) _ rfl ?_
  ((conv=>whnf);repeat((first|refine mvT ?_|refine mvF ?_|refine yT ?_|refine yF ?_);conv=>whnf))
  exact ⟨ho, hx⟩
theorem readConsumerMemberAssignment {w0 : World} {F : Nat → Prop} {p : Nat} {ty : TypeId} {v n0 : Int} {x ev : Value} {l : List UInt8} {sV : Rd} {fx : Bool} (hL : Laid w0 ev) (hp : Own w0 p ty [.int .i16 0, .slice none 0 0, .slice none 0 0]) (hx : Bytes w0 F x l) (hF : ∀ k, F k → k ≠ p) (hv : 0 ≤ v) (hp1 : p ≠ errG) (hfx : fx = false) (hn0 : rdNum 2 .i16 (l, false) = (numT n0, sV)) :
    Does X.P 19 #[.pointer (some ⟨p, 0, none⟩), x, .bool false] w0 fun r w' => RdPostS w0 p ty n0 v fx false dConsumerMemberAssignment ev sV r w' := by
  have hpl := hp.lt
  obtain ⟨G0, hG0, hx⟩ : ∃ G0 : Nat → Prop, (∀ k, G0 k → k < w0.heap.size ∧ k ≠ p) ∧ Bytes w0 G0 x l := ⟨fun k => F k ∧ k < w0.heap.size, fun k h => ⟨h.2, hF k h.1⟩, Sl.mono hx fun k hk h => ⟨h, hk⟩⟩
  obtain ⟨a0, c0, rfl, _⟩ := hx.view
  refine Does.go (X := X) (l := [_, _, _]) Tryd.func19 rfl (by kernel_rfl) (by kernel_rfl) _ rfl ?_
  ((conv=>whnf);repeat((first|refine mvT ?_|refine mvF ?_|refine yT ?_|refine yF ?_);conv=>whnf))
  refine Does.mono (dfConsumerMemberAssignment (pre := []) (cur := [.int .i16 0, .slice none 0 0, .slice none 0 0]) (post := []) (by simpa using hp) rfl rfl) ?_
  rintro rd wd ⟨hpd, hxd⟩
  ((conv=>whnf);repeat((first|refine mvT ?_|refine mvF ?_|refine yT ?_|refine yF ?_);conv=>whnf))
  intro pb w1 hpb hb hx1
  ((conv=>whnf);repeat((first|refine mvT ?_|refine mvF ?_|refine yT ?_|refine yF ?_);conv=>whnf))
  refine st_all [.slice a0 l.length c0, .bool false] hb rfl rfl rfl ?_
  intro w hb hx2
  ((conv=>whnf);repeat((first|refine mvT ?_|refine mvF ?_|refine yT ?_|refine yF ?_);conv=>whnf))
  have hsd := hxd.size
  have hwp : w0.heap.size ≤ pb := by omega
  have he1 : Ext nob wd w := hx1.trans hx2 fun k hk h => by omega
  have hpw : Own w p ty [.int .i16 0, .slice none 0 0, .slice none 0 0] := by have := hpd.e0 he1; simpa using this
  have he := hxd.tr0 he1
  have H := St.init hpw hb (hx.ext he fun k _ h => (hG0 k h).2) hG0 he hpl hwp
  clear hpd hxd hx1 hx2 hb hpw he1 hp
  refine Does.mono H.int16 ?_
  rintro r w ⟨nV, sV', rfl, hnV, hrV, H⟩
  rw [hn0] at hrV
  obtain ⟨e1, rfl⟩ := Prod.mk.inj hrV
  obtain rfl : n0 = nV := by injection e1
  ((conv=>whnf);repeat((first|refine mvT ?_|refine mvF ?_|refine yT ?_|refine yF ?_);conv=>whnf))
  refine H.st1 (v := .int .i16 n0) 0 (rfl) (rfl) rfl (by simp) rfl (Nat.lt_of_lt_of_le (Nat.lt_succ_self _) (Nat.le_of_ble_eq_true rfl)) ?_
  intro w H
  ((conv=>whnf);repeat((first|refine mvT ?_|refine mvF ?_|refine yT ?_|refine yF ?_);conv=>whnf))
  replace H : St w0 G0 p pb sV ((p, ty, [] ++ [.int .i16 n0, .slice none 0 0, .slice none 0 0] ++ []) :: []) (fun _ => True) w := H
  refine ldS (H.cell (o := 0) rfl (k := 0) rfl) ?_;((conv=>whnf);repeat((first|refine mvT ?_|refine mvF ?_|refine yT ?_|refine yF ?_);conv=>whnf))
  have hup0 : tailBad 9 v fx dConsumerMemberAssignment dConsumerMemberAssignment sV = true → (rdPart 9 v fx dConsumerMemberAssignment sV).2.2 = true := fun h => (tailBad_part _ _ _ _ _).symm.trans h
  refine ldS (H.cell (o := 0) rfl (k := 1) rfl) ?_;((conv=>whnf);repeat((first|refine mvT ?_|refine mvF ?_|refine yT ?_|refine yF ?_);conv=>whnf))
  refine Does.mono H.lnp ?_
  rintro r w ⟨n1, s1, rfl, hn1, hln1, H⟩
  rw [← hfx] at hln1
  ((conv=>whnf);repeat((first|refine mvT ?_|refine mvF ?_|refine yT ?_|refine yF ?_);conv=>whnf))
  refine Does.mono H.ok ?_
  rintro r w ⟨rfl, H⟩
  ((conv=>whnf);repeat((first|refine mvT ?_|refine mvF ?_|refine yT ?_|refine yF ?_);conv=>whnf))
  refine cI (by rfl) (fun hbd=>?_) (fun hbd=>?_)
  · have hbd : s1.2 = true := by simpa using hbd
    ((conv=>whnf);repeat((first|refine mvT ?_|refine mvF ?_|refine yT ?_|refine yF ?_);conv=>whnf))
    refine Does.mono (H.done hL hp1) ?_
    rintro r w ⟨rfl, H⟩
    ((conv=>whnf);repeat((first|refine mvT ?_|refine mvF ?_|refine yT ?_|refine yF ?_);conv=>whnf))
    refine RdPostS.early hbd (hup0 (?_)) H
    rw [tail_len ⟨by decide, has_all hv⟩ hln1 hbd]
  have hbd : s1.2 = false := by simpa using hbd
  clear hbd
  ((conv=>whnf);repeat((first|refine mvT ?_|refine mvF ?_|refine yT ?_|refine yF ?_);conv=>whnf))
  refine cut_zero ?_
  ((conv=>whnf);repeat((first|refine mvT ?_|refine mvF ?_|refine yT ?_|refine yF ?_);conv=>whnf))
  refine VC.cutE (fun a : Value => [(12, .int .i32 n1), (11, a), (0, .pointer (some ⟨p, 0, none⟩)), (2, .bool false), (7, .pointer (some ⟨pb, 0, none⟩)), (8, .int .i16 n0), (9, .pointer (some ⟨p, 0, none⟩))]) (fun a w' => ListI w0 G0 p pb 65 [str [], .slice none 0 0] (elR 8 v fx 10 dConsumerMemberAssignmentTopic) (elQ false 8 10 dConsumerMemberAssignmentTopic) s1 n1 (decide (n1 ≤ 0)) ((p, ty, [] ++ [.int .i16 n0, .slice none 0 0, .slice none 0 0] ++ []) :: []) (fun _ => True) a 0 w') ?_ ?_
  · refine cI (by rfl) (fun hps=>?_) (fun hps=>?_)
    · have hps : 0 < n1 := by have := of_decide_eq_true hps; omega
      ((conv=>whnf);repeat((first|refine mvT ?_|refine mvF ?_|refine yT ?_|refine yF ?_);conv=>whnf))
      refine H.grow hps hn1.2 (by decide) rfl rfl (by decide) ?_
      intro g cap post w hc1 hc2 H
      ((conv=>whnf);repeat((first|refine mvT ?_|refine mvF ?_|refine yT ?_|refine yF ?_);conv=>whnf))
      exact ⟨_, ⟨rfl, rfl, rfl, rfl, rfl, rfl, rfl, trivial⟩, ListI.some hps (decide_eq_false (by omega)) hc1 hc2 H⟩
    · have hps : n1 ≤ 0 := by have := of_decide_eq_false hps; omega
      ((conv=>whnf);repeat((first|refine mvT ?_|refine mvF ?_|refine yT ?_|refine yF ?_);conv=>whnf))
      exact ⟨_, ⟨rfl, rfl, rfl, rfl, rfl, rfl, rfl, trivial⟩, ListI.none hps (decide_eq_true hps) H⟩
  clear H
  rintro a1 w H
  ((conv=>whnf);repeat((first|refine mvT ?_|refine mvF ?_|refine yT ?_|refine yF ?_);conv=>whnf))
  have hpL1 : inL ((p, ty, [] ++ [.int .i16 n0, .slice none 0 0, .slice none 0 0] ++ []) :: []) p := inL.head _ _
  refine VL.loop (fun i : Nat => [(12, .int .i32 n1), (11, a1), (13, .int .i32 i), (0, .pointer (some ⟨p, 0, none⟩)), (2, .bool false), (7, .pointer (some ⟨pb, 0, none⟩)), (8, .int .i16 n0), (9, .pointer (some ⟨p, 0, none⟩))]) (fun i w' => i ≤ 2147483647 ∧ ListI w0 G0 p pb 65 [str [], .slice none 0 0] (elR 8 v fx 10 dConsumerMemberAssignmentTopic) (elQ false 8 10 dConsumerMemberAssignmentTopic) s1 n1 (decide (n1 ≤ 0)) ((p, ty, [] ++ [.int .i16 n0, .slice none 0 0, .slice none 0 0] ++ []) :: []) (fun _ => True) a1 i w') (fun i => n1.toNat - i) 0 ⟨rfl, rfl, rfl, rfl, rfl, rfl, rfl, rfl, trivial⟩ ⟨by decide, H⟩ ?_
  clear H
  rintro i1 w ⟨hi1, H⟩
  ((conv=>whnf);repeat((first|refine mvT ?_|refine mvF ?_|refine yT ?_|refine yF ?_);conv=>whnf))
  refine cI (by rfl) (fun h9=>?_) (fun h9=>?_)
  · have hlt1 : (i1 : Int) < n1 := of_decide_eq_true h9
    obtain ⟨g1, cap1, post1, rfl, hgo1, HI⟩ := H.go hlt1
    obtain ⟨es1, ts1, si1, hes1, hez1, hrn1, hts1, hlen1, H⟩ := HI.open hgo1.2.2.2.2
    obtain ⟨L1, hL1⟩ : ∃ L : List Ob, L = ((p, ty, [] ++ [.int .i16 n0, .slice none 0 0, .slice none 0 0] ++ []) :: []) := ⟨_, rfl⟩
    rw [← hL1] at H hpL1
    obtain ⟨P1, hP1⟩ : ∃ P : World → Prop, P = fun w => (∀ (j : Nat) (c : List Value) (y : T), es1[j]? = some c → ts1[j]? = some y → elQ false 8 10 dConsumerMemberAssignmentTopic ⟨w, FG w0 G0⟩ c y) ∧ (fun _ => True) w := ⟨_, rfl⟩
    rw [← hP1] at H
    replace H : St w0 G0 p pb si1 ((g1, 65, es1.flatten ++ [str [], .slice none 0 0] ++ ((List.replicate (n1.toNat - (i1 + 1)) [str [], .slice none 0 0]).flatten ++ post1)) :: L1) P1 w := H
    ((conv=>whnf);repeat((first|refine mvT ?_|refine mvF ?_|refine yT ?_|refine yF ?_);conv=>whnf))
    refine ⟨g1, 0, rfl, ⟨by omega, by omega⟩, ?_⟩
    ((conv=>whnf);repeat((first|refine mvT ?_|refine mvF ?_|refine yT ?_|refine yF ?_);conv=>whnf))
    refine Does.mono (dfConsumerMemberAssignmentTopic (pre := es1.flatten) (cur := [str [], .slice none 0 0]) (post := ((List.replicate (n1.toNat - (i1 + 1)) [str [], .slice none 0 0]).flatten ++ post1)) H.head (by first | (rw [hlen1]; simp; done) | (simp [hlen1]; done) | (simp [hlen1]; omega)) rfl) ?_
    rintro rd w2 ⟨hdf, hxd⟩
    replace H := H.put hdf hxd
    clear hdf hxd
    replace H : St w0 G0 p pb si1 ((g1, 65, es1.flatten ++ [str [], .slice none 0 0] ++ ((List.replicate (n1.toNat - (i1 + 1)) [str [], .slice none 0 0]).flatten ++ post1)) :: L1) P1 w2 := H
    ((conv=>whnf);repeat((first|refine mvT ?_|refine mvF ?_|refine yT ?_|refine yF ?_);conv=>whnf))
    have hup1 : tailBad 8 v fx dConsumerMemberAssignmentTopic dConsumerMemberAssignmentTopic si1 = true → (rdPart 9 v fx dConsumerMemberAssignment sV).2.2 = true := by
      intro hb
      refine hup0 ?_
      rw [tail_el ⟨by decide, has_all hv⟩ hln1 hgo1.2.2.2.2 hrn1 ((tailBad_part _ _ _ _ _).symm.trans hb)]
    refine Does.mono H.txp ?_
    rintro r w ⟨u2, s2, rfl, hr2, H⟩
    rw [← hfx] at hr2
    ((conv=>whnf);repeat((first|refine mvT ?_|refine mvF ?_|refine yT ?_|refine yF ?_);conv=>whnf))
    refine H.st1 (v := str u2) 0 (rfl) (rfl) rfl (by first | omega | (simp [hlen1]; done) | (simp [hlen1]; omega)) rfl (Nat.lt_of_lt_of_le (Nat.lt_succ_self _) (Nat.le_of_ble_eq_true rfl)) ?_
    intro w H
    ((conv=>whnf);repeat((first|refine mvT ?_|refine mvF ?_|refine yT ?_|refine yF ?_);conv=>whnf))
    replace H : St w0 G0 p pb s2 ((g1, 65, es1.flatten ++ [str u2, .slice none 0 0] ++ ((List.replicate (n1.toNat - (i1 + 1)) [str [], .slice none 0 0]).flatten ++ post1)) :: L1) P1 w := H
    refine ⟨_, ld (H.cell rfl (k := 1) rfl) (by first | omega | (simp [hlen1]; done) | (simp [hlen1]; omega)), ?_⟩; ((conv=>whnf);repeat((first|refine mvT ?_|refine mvF ?_|refine yT ?_|refine yF ?_);conv=>whnf))
    refine Does.mono H.lnp ?_
    rintro r w ⟨n4, s4, rfl, hn4, hln4, H⟩
    rw [← hfx] at hln4
    ((conv=>whnf);repeat((first|refine mvT ?_|refine mvF ?_|refine yT ?_|refine yF ?_);conv=>whnf))
    refine Does.mono H.ok ?_
    rintro r w ⟨rfl, H⟩
    ((conv=>whnf);repeat((first|refine mvT ?_|refine mvF ?_|refine yT ?_|refine yF ?_);conv=>whnf))
    refine cI (by rfl) (fun hbd=>?_) (fun hbd=>?_)
    · have hbd : s4.2 = true := by simpa using hbd
      ((conv=>whnf);repeat((first|refine mvT ?_|refine mvF ?_|refine yT ?_|refine yF ?_);conv=>whnf))
      refine Does.mono (H.done hL hp1) ?_
      rintro r w ⟨rfl, H⟩
      ((conv=>whnf);repeat((first|refine mvT ?_|refine mvF ?_|refine yT ?_|refine yF ?_);conv=>whnf))
      refine RdPostS.early hbd (hup1 (?_)) H
      rw [tail_yes (rdField8 (by decide) hr2) ⟨by decide, has_all hv⟩, tail_len ⟨by decide, has_all hv⟩ hln4 hbd]
    have hbd : s4.2 = false := by simpa using hbd
    clear hbd
    ((conv=>whnf);repeat((first|refine mvT ?_|refine mvF ?_|refine yT ?_|refine yF ?_);conv=>whnf))
    refine cut_zero ?_
    ((conv=>whnf);repeat((first|refine mvT ?_|refine mvF ?_|refine yT ?_|refine yF ?_);conv=>whnf))
    refine VC.cutE (fun a : Value => [(19, .int .i32 n4), (18, a), (0, .pointer (some ⟨p, 0, none⟩)), (2, .bool false), (7, .pointer (some ⟨pb, 0, none⟩)), (8, .int .i16 n0), (9, .pointer (some ⟨p, 0, none⟩)), (12, .int .i32 n1), (11, .slice (some ⟨g1, 0, none⟩) n1.toNat cap1), (13, .int .i32 i1), (14, .pointer (some ⟨g1, 0 + (i1 : Int).toNat * 2, none⟩)), (15, .pointer (some ⟨g1, 0 + (i1 : Int).toNat * 2, none⟩))]) (fun a w' => ListI w0 G0 p pb 21 [.int .i32 0] (elR 7 v fx 3 []) (elQ false 7 3 []) s4 n4 (decide (n4 ≤ 0)) ((g1, 65, es1.flatten ++ [str u2, .slice none 0 0] ++ ((List.replicate (n1.toNat - (i1 + 1)) [str [], .slice none 0 0]).flatten ++ post1)) :: L1) P1 a 0 w') ?_ ?_
    · refine cI (by rfl) (fun hps=>?_) (fun hps=>?_)
      · have hps : 0 < n4 := by have := of_decide_eq_true hps; omega
        ((conv=>whnf);repeat((first|refine mvT ?_|refine mvF ?_|refine yT ?_|refine yF ?_);conv=>whnf))
        refine H.grow hps hn4.2 (by decide) rfl rfl (by decide) ?_
        intro g cap post w hc1 hc2 H
        ((conv=>whnf);repeat((first|refine mvT ?_|refine mvF ?_|refine yT ?_|refine yF ?_);conv=>whnf))
        exact ⟨_, ⟨rfl, rfl, rfl, rfl, rfl, rfl, rfl, rfl, rfl, rfl, rfl, rfl, trivial⟩, ListI.some hps (decide_eq_false (by omega)) hc1 hc2 H⟩
      · have hps : n4 ≤ 0 := by have := of_decide_eq_false hps; omega
        ((conv=>whnf);repeat((first|refine mvT ?_|refine mvF ?_|refine yT ?_|refine yF ?_);conv=>whnf))
        exact ⟨_, ⟨rfl, rfl, rfl, rfl, rfl, rfl, rfl, rfl, rfl, rfl, rfl, rfl, trivial⟩, ListI.none hps (decide_eq_true hps) H⟩
    clear H
    rintro a4 w H
    ((conv=>whnf);repeat((first|refine mvT ?_|refine mvF ?_|refine yT ?_|refine yF ?_);conv=>whnf))
    have hpL4 : inL ((g1, 65, es1.flatten ++ [str u2, .slice none 0 0] ++ ((List.replicate (n1.toNat - (i1 + 1)) [str [], .slice none 0 0]).flatten ++ post1)) :: L1) p := inL.tail hpL1
    refine VL.loop (fun i : Nat => [(19, .int .i32 n4), (18, a4), (20, .int .i32 i), (0, .pointer (some ⟨p, 0, none⟩)), (2, .bool false), (7, .pointer (some ⟨pb, 0, none⟩)), (8, .int .i16 n0), (9, .pointer (some ⟨p, 0, none⟩)), (12, .int .i32 n1), (11, .slice (some ⟨g1, 0, none⟩) n1.toNat cap1), (13, .int .i32 i1), (14, .pointer (some ⟨g1, 0 + (i1 : Int).toNat * 2, none⟩)), (15, .pointer (some ⟨g1, 0 + (i1 : Int).toNat * 2, none⟩))]) (fun i w' => i ≤ 2147483647 ∧ ListI w0 G0 p pb 21 [.int .i32 0] (elR 7 v fx 3 []) (elQ false 7 3 []) s4 n4 (decide (n4 ≤ 0)) ((g1, 65, es1.flatten ++ [str u2, .slice none 0 0] ++ ((List.replicate (n1.toNat - (i1 + 1)) [str [], .slice none 0 0]).flatten ++ post1)) :: L1) P1 a4 i w') (fun i => n4.toNat - i) 0 ⟨rfl, rfl, rfl, rfl, rfl, rfl, rfl, rfl, rfl, rfl, rfl, rfl, rfl, trivial⟩ ⟨by decide, H⟩ ?_
    clear H
    rintro i4 w ⟨hi4, H⟩
    ((conv=>whnf);repeat((first|refine mvT ?_|refine mvF ?_|refine yT ?_|refine yF ?_);conv=>whnf))
    refine cI (by rfl) (fun h9=>?_) (fun h9=>?_)
    · have hlt4 : (i4 : Int) < n4 := of_decide_eq_true h9
      obtain ⟨g4, cap4, post4, rfl, hgo4, HI⟩ := H.go hlt4
      obtain ⟨es4, ts4, si4, hes4, hez4, hrn4, hts4, hlen2, H⟩ := HI.open hgo4.2.2.2.2
      obtain ⟨L4, hL4⟩ : ∃ L : List Ob, L = ((g1, 65, es1.flatten ++ [str u2, .slice none 0 0] ++ ((List.replicate (n1.toNat - (i1 + 1)) [str [], .slice none 0 0]).flatten ++ post1)) :: L1) := ⟨_, rfl⟩
      rw [← hL4] at H hpL4
      obtain ⟨P4, hP4⟩ : ∃ P : World → Prop, P = fun w => (∀ (j : Nat) (c : List Value) (y : T), es4[j]? = some c → ts4[j]? = some y → elQ false 7 3 [] ⟨w, FG w0 G0⟩ c y) ∧ P1 w := ⟨_, rfl⟩
      rw [← hP4] at H
      replace H : St w0 G0 p pb si4 ((g4, 21, es4.flatten ++ [.int .i32 0] ++ ((List.replicate (n4.toNat - (i4 + 1)) [.int .i32 0]).flatten ++ post4)) :: L4) P4 w := H
      ((conv=>whnf);repeat((first|refine mvT ?_|refine mvF ?_|refine yT ?_|refine yF ?_);conv=>whnf))
      refine Does.mono H.int32 ?_
      rintro r w ⟨n5, s5, rfl, hn5, hr5, H⟩
      ((conv=>whnf);repeat((first|refine mvT ?_|refine mvF ?_|refine yT ?_|refine yF ?_);conv=>whnf))
      refine ⟨g4, 0, rfl, ⟨by omega, by omega⟩, ?_⟩
      ((conv=>whnf);repeat((first|refine mvT ?_|refine mvF ?_|refine yT ?_|refine yF ?_);conv=>whnf))
      refine H.st1 (v := .int .i32 n5) 0 (rfl) (rfl) rfl (by first | omega | (simp [hlen2]; done) | (simp [hlen2]; omega)) rfl (Nat.lt_of_lt_of_le (Nat.lt_succ_self _) (Nat.le_of_ble_eq_true rfl)) ?_
      intro w H
      ((conv=>whnf);repeat((first|refine mvT ?_|refine mvF ?_|refine yT ?_|refine yF ?_);conv=>whnf))
      replace H : St w0 G0 p pb s5 ((g4, 21, es4.flatten ++ [.int .i32 n5] ++ ((List.replicate (n4.toNat - (i4 + 1)) [.int .i32 0]).flatten ++ post4)) :: L4) P4 w := H
      refine ⟨i4 + 1, ⟨rfl, rfl, ?_, rfl, rfl, rfl, rfl, rfl, rfl, rfl, rfl, rfl, rfl, trivial⟩, ⟨by omega, ListI.back hgo4 (LoopI.next hes4 hez4 hrn4 hts4 (cur := [.int .i32 n5]) (x := numT n5) (hr5) rfl (by rw [← hL4]; exact H) fun w hP => ?_)⟩, by omega⟩
      · show some (Value.int .i32 _) = _
        rw [IntKind.wrap_i32]
        simp only [Option.some.injEq, Value.int.injEq, true_and]
        omega
      · skip
        rw [hP4] at hP
        exact ⟨⟨_, hn5, rfl, rfl⟩, hP⟩
    have hge4 : ¬ (i4 : Int) < n4 := of_decide_eq_false h9
    obtain ⟨l6, s6, hone6, hl6, hr6, H⟩ := H.done hge4 hln4 (nl := nlF (.mk 11 0 (-1) (-1) (-1) 0 3 []) v) (sz := elZ false 7 3 []) rfl hpL4 rfl
    ((conv=>whnf);repeat((first|refine mvT ?_|refine mvF ?_|refine yT ?_|refine yF ?_);conv=>whnf))
    obtain ⟨P7, hP7⟩ : ∃ P : World → Prop, P = fun w => ListR true (elZ false 7 3 []) (elQ false 7 3 [] ⟨w, FG w0 G0⟩) w (FG w0 G0) a4 (.mk 0 [] (decide (n4 ≤ 0)) l6 []) ∧ P1 w := ⟨_, rfl⟩
    replace H : St w0 G0 p pb s6 ((g1, 65, es1.flatten ++ [str u2, .slice none 0 0] ++ ((List.replicate (n1.toNat - (i1 + 1)) [str [], .slice none 0 0]).flatten ++ post1)) :: L1) P7 w := by rw [hP7]; exact H
    refine H.st1 (v := a4) 1 (cells_one hone6) (hone6) rfl (by first | omega | (simp [hlen1]; done) | (simp [hlen1]; omega)) rfl (Nat.lt_of_lt_of_le (Nat.lt_succ_self _) (Nat.le_of_ble_eq_true rfl)) ?_
    intro w H
    ((conv=>whnf);repeat((first|refine mvT ?_|refine mvF ?_|refine yT ?_|refine yF ?_);conv=>whnf))
    replace H : St w0 G0 p pb s6 ((g1, 65, es1.flatten ++ [str u2, a4] ++ ((List.replicate (n1.toNat - (i1 + 1)) [str [], .slice none 0 0]).flatten ++ post1)) :: L1) P7 w := H
    have htg : rdTagsF fx s6 = ([], s6) := by rw [rdTagsF, if_neg (by rw [hfx]; decide)]
    have hpart : rdPart 8 v fx dConsumerMemberAssignmentTopic si1 = (.mk 0 [] false [.mk 0 u2 false [] [], .mk 0 [] (decide (n4 ≤ 0)) l6 []] [], s6) := by
      unfold rdPart rdPartW
      rw [rdTail_plain (by decide)]
      rw [rdAll_yes (df := dfT 8) (rdField8 (by decide) hr2) ⟨by decide, has_all hv⟩, rdAll_yes (df := dfT 8) ((rdField_list _ _ _ _ _ _ _ _ _ _ _).trans hr6) ⟨by decide, has_all hv⟩]
      simp only [rdAll]
      rw [htg]
    refine ⟨i1 + 1, ⟨rfl, rfl, ?_, rfl, rfl, rfl, rfl, rfl, trivial⟩, ⟨by omega, ListI.back hgo1 (LoopI.next hes1 hez1 hrn1 hts1 (cur := [str u2, a4]) (x := .mk 0 [] false [.mk 0 u2 false [] [], .mk 0 [] (decide (n4 ≤ 0)) l6 []] []) (hpart) rfl (by rw [← hL1]; exact H) fun w hP => ?_)⟩, by omega⟩
    · show some (Value.int .i32 _) = _
      rw [IntKind.wrap_i32]
      simp only [Option.some.injEq, Value.int.injEq, true_and]
      omega
    · skip
      rw [hP7] at hP
      obtain ⟨hf7_, hP⟩ := hP
      rw [hP1] at hP
      exact ⟨QPf (QA1 (QF8 (by decide) u2) (QA1 (QF11 hl6 hf7_) (QA0))), hP⟩
  have hge1 : ¬ (i1 : Int) < n1 := of_decide_eq_false h9
  obtain ⟨l9, s9, hone9, hl9, hr9, H⟩ := H.done hge1 hln1 (nl := nlF (.mk 11 0 (-1) (-1) (-1) 0 10 dConsumerMemberAssignmentTopic) v) (sz := elZ false 8 10 dConsumerMemberAssignmentTopic) rfl hpL1 rfl
  ((conv=>whnf);repeat((first|refine mvT ?_|refine mvF ?_|refine yT ?_|refine yF ?_);conv=>whnf))
  obtain ⟨P10, hP10⟩ : ∃ P : World → Prop, P = fun w => ListR true (elZ false 8 10 dConsumerMemberAssignmentTopic) (elQ false 8 10 dConsumerMemberAssignmentTopic ⟨w, FG w0 G0⟩) w (FG w0 G0) a1 (.mk 0 [] (decide (n1 ≤ 0)) l9 []) ∧ (fun _ => True) w := ⟨_, rfl⟩
  replace H : St w0 G0 p pb s9 ((p, ty, [] ++ [.int .i16 n0, .slice none 0 0, .slice none 0 0] ++ []) :: []) P10 w := by rw [hP10]; exact H
  refine H.st1 (v := a1) 1 (cells_one hone9) (hone9) rfl (by simp) rfl (Nat.lt_of_lt_of_le (Nat.lt_succ_self _) (Nat.le_of_ble_eq_true rfl)) ?_
  intro w H
  ((conv=>whnf);repeat((first|refine mvT ?_|refine mvF ?_|refine yT ?_|refine yF ?_);conv=>whnf))
  replace H : St w0 G0 p pb s9 ((p, ty, [] ++ [.int .i16 n0, a1, .slice none 0 0] ++ []) :: []) P10 w := H
  refine Does.mono H.nop ?_
  rintro c12 w ⟨_, nl12, u12, s12, rfl, hone12, hnl12, hr12, H⟩
  rw [← hfx] at hr12
  ((conv=>whnf);repeat((first|refine mvT ?_|refine mvF ?_|refine yT ?_|refine yF ?_);conv=>whnf))
  obtain ⟨P13, hP13⟩ : ∃ P : World → Prop, P = fun w => OCf w0 G0 c12 (.mk 0 u12 nl12 [] []) w ∧ P10 w := ⟨_, rfl⟩
  replace H : St w0 G0 p pb s12 ((p, ty, [] ++ [.int .i16 n0, a1, .slice none 0 0] ++ []) :: []) P13 w := by rw [hP13]; exact H
  refine H.st1 (v := c12) 2 (cells_one hone12) (hone12) rfl (by simp) rfl (Nat.lt_of_lt_of_le (Nat.lt_succ_self _) (Nat.le_of_ble_eq_true rfl)) ?_
  intro w H
  ((conv=>whnf);repeat((first|refine mvT ?_|refine mvF ?_|refine yT ?_|refine yF ?_);conv=>whnf))
  replace H : St w0 G0 p pb s12 ((p, ty, [] ++ [.int .i16 n0, a1, c12] ++ []) :: []) P13 w := H
  have htg : rdTagsF fx s12 = ([], s12) := by rw [rdTagsF, if_neg (by rw [hfx]; decide)]
  have hpart : rdPart 9 v fx dConsumerMemberAssignment sV = (.mk 0 [] false [.mk 0 [] (decide (n1 ≤ 0)) l9 [], .mk 0 u12 nl12 [] []] [], s12) := by
    unfold rdPart rdPartW
    rw [rdTail_plain (by decide)]
    rw [rdAll_yes (df := dfT 9) ((rdField_list _ _ _ _ _ _ _ _ _ _ _).trans hr9) ⟨by decide, has_all hv⟩, rdAll_yes (df := dfT 9) ((rdField9n (by decide)).trans hr12) ⟨by decide, has_all hv⟩]
    simp only [rdAll]
    rw [htg]
  refine Does.mono (H.done hL hp1) ?_
  rintro r w ⟨rfl, H⟩
  ((conv=>whnf);repeat((first|refine mvT ?_|refine mvF ?_|refine yT ?_|refine yF ?_);conv=>whnf))
  refine RdPostS.end hpart H fun hP => ?_
  rw [hP13] at hP
  obtain ⟨hf13_, hP⟩ := hP
  rw [hP10] at hP
  obtain ⟨hf10_, hP⟩ := hP
  exact QPf (QA1 (QF11 hl9 hf10_) (QA1 (QF9 hnl12 hf13_) (QA0)))
end Go.Proofs.YtefgfdbckbkfiaaDoor.K
