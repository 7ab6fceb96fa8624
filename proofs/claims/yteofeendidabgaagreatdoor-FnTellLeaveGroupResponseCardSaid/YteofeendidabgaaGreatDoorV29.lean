/- Reading of LeaveGroupResponse. -/
import Derived.Test.YteofeendidabgaaGreatDoorE5
set_option linter.unusedVariables false
set_option linter.unusedSimpArgs false
namespace Go.Proofs.YteofeendidabgaaGreatDoor.K
open Go
set_option maxHeartbeats 4000000
set_option maxRecDepth 100000

abbrev dLeaveGroupResponseMember : List Fd := [.mk 8 0 (-1) (-1) (-1) 0 0 [], .mk 8 0 (-1) 0 (-1) 0 0 [], .mk 2 0 (-1) (-1) (-1) 0 0 []]
abbrev dLeaveGroupResponse : List Fd := [.mk 3 1 (-1) (-1) (-1) 0 0 [], .mk 2 0 (-1) (-1) (-1) 0 0 [], .mk 11 3 (-1) (-1) (-1) 0 10 dLeaveGroupResponseMember]
theorem sLeaveGroupResponseMember (w : World) : Does X.P 36 #[] w fun r w' => FdsR w' (fun k => w.heap.size ≤ k) r dLeaveGroupResponseMember ∧ Ext nob w w' := by
  have hx0 : Ext nob w w := Ext.refl _ _
  refine Does.go (X := X) (l := []) Tryz.func36 rfl (by kernel_rfl) (by kernel_rfl) _ rfl ?_
  ((conv=>whnf);repeat(first|(refine mvT ?_;conv=>whnf)|(refine mvF ?_;conv=>whnf)|(refine cT (by rfl) ?_;conv=>whnf)|(refine cF (by rfl) ?_;conv=>whnf)))
  have hxs := hx0
  intro b wb hb ho hx
  have hx0 := hx0.e0 hx
  ((conv=>whnf);repeat(first|(refine mvT ?_;conv=>whnf)|(refine mvF ?_;conv=>whnf)|(refine cT (by rfl) ?_;conv=>whnf)|(refine cF (by rfl) ?_;conv=>whnf)))
  refine ⟨?_, hx0⟩
  exact FdL.fds (cs := [[.int .i64 8, .int .i64 0, .int .i64 (-1), .int .i64 (-1), .int .i64 (-1), .int .i64 0, .int .i64 0, .slice none 0 0], [.int .i64 8, .int .i64 0, .int .i64 (-1), .int .i64 0, .int .i64 (-1), .int .i64 0, .int .i64 0, .slice none 0 0], [.int .i64 2, .int .i64 0, .int .i64 (-1), .int .i64 (-1), .int .i64 (-1), .int .i64 0, .int .i64 0, .slice none 0 0]])
    ⟨fdLeaf _ _ _ _ _ _ _ _ _, fdLeaf _ _ _ _ _ _ _ _ _, fdLeaf _ _ _ _ _ _ _ _ _, trivial⟩ ho rfl (by decide) (by have := hxs.size; omega)
theorem sLeaveGroupResponse (w : World) : Does X.P 11 #[] w fun r w' => Msg w' (fun k => w.heap.size ≤ k) r dLeaveGroupResponse 4 ∧ Ext nob w w' := by
  have hx0 : Ext nob w w := Ext.refl _ _
  refine Does.go (X := X) (l := []) Tryz.func11 rfl (by kernel_rfl) (by kernel_rfl) _ rfl ?_
  ((conv=>whnf);repeat(first|(refine mvT ?_;conv=>whnf)|(refine mvF ?_;conv=>whnf)|(refine cT (by rfl) ?_;conv=>whnf)|(refine cF (by rfl) ?_;conv=>whnf)))
  intro b w1 hb ho hx
  have hx0 := hx0.e0 hx
  have ho := ho
  ((conv=>whnf);repeat(first|(refine mvT ?_;conv=>whnf)|(refine mvF ?_;conv=>whnf)|(refine cT (by rfl) ?_;conv=>whnf)|(refine cF (by rfl) ?_;conv=>whnf)))
  refine Does.mono (sLeaveGroupResponseMember w1) ?_
  rintro v2 wv2 ⟨hv2, hc⟩
  have hv2 := hv2.mono (F' := fun k => w.heap.size ≤ k ∧ b < k) fun k _ h => ⟨Nat.le_trans hx0.size h, Nat.lt_of_lt_of_le ho.lt h⟩
  obtain ⟨lv2, gv2, _⟩ := id hv2
  obtain ⟨av2, kv2, rfl, _⟩ := gv2.view
  ((conv=>whnf);repeat(first|(refine mvT ?_;conv=>whnf)|(refine mvF ?_;conv=>whnf)|(refine cT (by rfl) ?_;conv=>whnf)|(refine cF (by rfl) ?_;conv=>whnf)))
  have hx0 := hx0.e0 hc
  have ho := ho.e0 hc
  have hxs := hx0
  intro b2 w2 hb2 ho2 hx2
  ((conv=>whnf);repeat(first|(refine mvT ?_;conv=>whnf)|(refine mvF ?_;conv=>whnf)|(refine cT (by rfl) ?_;conv=>whnf)|(refine cF (by rfl) ?_;conv=>whnf)))
  have hx0 := hx0.e0 hx2
  refine ⟨_, _, ho.e0 hx2, rfl, rfl, rfl, ?_⟩
  intro w3 ho3 hx3
  have hx03 := hx0.st hx3 hb
  ((conv=>whnf);repeat(first|(refine mvT ?_;conv=>whnf)|(refine mvF ?_;conv=>whnf)|(refine cT (by rfl) ?_;conv=>whnf)|(refine cF (by rfl) ?_;conv=>whnf)))
  refine ⟨_, rfl, ho3.cells, ?_⟩
  refine ⟨⟨_, rfl, ?_⟩, hx03⟩
  have ho2 := ho2.ext hx3 (by have := ho.lt; omega)
  have hs := hx0.size
  have hs2 : w.heap.size ≤ b2 := Nat.le_trans hxs.size hb2
  exact FdL.fds (cs := [[.int .i64 3, .int .i64 1, .int .i64 (-1), .int .i64 (-1), .int .i64 (-1), .int .i64 0, .int .i64 0, .slice none 0 0], [.int .i64 2, .int .i64 0, .int .i64 (-1), .int .i64 (-1), .int .i64 (-1), .int .i64 0, .int .i64 0, .slice none 0 0], [.int .i64 11, .int .i64 3, .int .i64 (-1), .int .i64 (-1), .int .i64 (-1), .int .i64 0, .int .i64 10, .slice av2 lv2.length kv2]])
    ⟨fdLeaf _ _ _ _ _ _ _ _ _, fdLeaf _ _ _ _ _ _ _ _ _, FdC.of (FdsR.mono (FdsR.ext (FdsR.e0 hv2 hx2) hx3 fun k _ h1 h2 => by omega) fun k _ h => h.1) _ _ _ _ _ _ _, trivial⟩ ho2 rfl (by decide) (by omega)
theorem dfLeaveGroupResponseMember {w : World} {q o : Nat} {T : TypeId} {pre cur post : List Value} (ho : Own w q T (pre ++ cur ++ post)) (hp : pre.length = o) (hl : cur.length = 4) :
    Does X.P 121 #[.pointer (some ⟨q, o, none⟩)] w fun r w' => Own w' q T (pre ++ cur ++ post) ∧ Ext (fun k => k = q) w w' := by
  have hx : Ext (fun k => k = q) w w := Ext.refl _ _
  refine Does.go (X := X) (l := [_]) Tryz.func121 rfl (by kernel_rfl) (by kernel_rfl) _ rfl ?_
  ((conv=>whnf);repeat(first|(refine mvT ?_;conv=>whnf)|(refine mvF ?_;conv=>whnf)|(refine cT (by rfl) ?_;conv=>whnf)|(refine cF (by rfl) ?_;conv=>whnf)))
  exact ⟨ho, hx⟩
theorem dfLeaveGroupResponse {w : World} {q o : Nat} {T : TypeId} {pre cur post : List Value} (ho : Own w q T (pre ++ cur ++ post)) (hp : pre.length = o) (hl : cur.length = 5) :
    Does X.P 79 #[.pointer (some ⟨q, o, none⟩)] w fun r w' => Own w' q T (pre ++ cur ++ post) ∧ Ext (fun k => k = q) w w' := by
  have hx : Ext (fun k => k = q) w w := Ext.refl _ _
  refine Does.go (X := X) (l := [_]) Tryz.func79 rfl (by kernel_rfl) (by kernel_rfl) _ rfl ?_
  ((conv=>whnf);repeat(first|(refine mvT ?_;conv=>whnf)|(refine mvF ?_;conv=>whnf)|(refine cT (by rfl) ?_;conv=>whnf)|(refine cF (by rfl) ?_;conv=>whnf)))
  exact ⟨ho, hx⟩
theorem readLeaveGroupResponse {w0 : World} {F : Nat → Prop} {p : Nat} {ty : TypeId} {v : Int} {x ev : Value} {l : List UInt8} (hL : Laid w0 ev) (hp : Own w0 p ty [.int .i16 v, .int .i32 0, .int .i16 0, .slice none 0 0, .map none]) (hx : Bytes w0 F x l) (hF : ∀ k, F k → k ≠ p) (hv : 0 ≤ v) (hp1 : p ≠ errG) :
    Does X.P 80 #[.pointer (some ⟨p, 0, none⟩), x, .bool false] w0 fun r w' => RdPost w0 p ty v (decide (v ≥ 4)) true dLeaveGroupResponse ev l r w' := by
  have hpl := hp.lt
  obtain ⟨fx, hfx⟩ : ∃ fx, fx = decide (v ≥ 4) := ⟨_, rfl⟩
  rw [← hfx]
  obtain ⟨G0, hG0, hx⟩ : ∃ G0 : Nat → Prop, (∀ k, G0 k → k < w0.heap.size ∧ k ≠ p) ∧ Bytes w0 G0 x l := ⟨fun k => F k ∧ k < w0.heap.size, fun k h => ⟨h.2, hF k h.1⟩, Sl.mono hx fun k hk h => ⟨h, hk⟩⟩
  obtain ⟨a0, c0, rfl, _⟩ := hx.view
  refine Does.go (X := X) (l := [_, _, _]) Tryz.func80 rfl (by kernel_rfl) (by kernel_rfl) _ rfl ?_
  ((conv=>whnf);repeat(first|(refine mvT ?_;conv=>whnf)|(refine mvF ?_;conv=>whnf)|(refine cT (by rfl) ?_;conv=>whnf)|(refine cF (by rfl) ?_;conv=>whnf)))
  refine Does.mono (dfLeaveGroupResponse (pre := []) (cur := [.int .i16 v, .int .i32 0, .int .i16 0, .slice none 0 0, .map none]) (post := []) (by simpa using hp) rfl rfl) ?_
  rintro rd wd ⟨hpd, hxd⟩
  ((conv=>whnf);repeat(first|(refine mvT ?_;conv=>whnf)|(refine mvF ?_;conv=>whnf)|(refine cT (by rfl) ?_;conv=>whnf)|(refine cF (by rfl) ?_;conv=>whnf)))
  intro pb w1 hpb hb hx1
  ((conv=>whnf);repeat(first|(refine mvT ?_;conv=>whnf)|(refine mvF ?_;conv=>whnf)|(refine cT (by rfl) ?_;conv=>whnf)|(refine cF (by rfl) ?_;conv=>whnf)))
  refine st_all [.slice a0 l.length c0, .bool false] hb rfl rfl rfl ?_
  intro w hb hx2
  ((conv=>whnf);repeat(first|(refine mvT ?_;conv=>whnf)|(refine mvF ?_;conv=>whnf)|(refine cT (by rfl) ?_;conv=>whnf)|(refine cF (by rfl) ?_;conv=>whnf)))
  have hsd := hxd.size
  have hwp : w0.heap.size ≤ pb := by omega
  have he1 : Ext nob wd w := hx1.trans hx2 fun k hk h => by omega
  have hpw : Own w p ty [.int .i16 v, .int .i32 0, .int .i16 0, .slice none 0 0, .map none] := by have := hpd.e0 he1; simpa using this
  have he := hxd.tr0 he1
  have H := St.init hpw hb (hx.ext he fun k _ h => (hG0 k h).2) hG0 he hpl hwp
  clear hpd hxd hx1 hx2 hb hpw he1 hp
  refine ldS (H.cell (o := 0) rfl (k := 0) rfl) ?_;((conv=>whnf);repeat(first|(refine mvT ?_;conv=>whnf)|(refine mvF ?_;conv=>whnf)|(refine cT (by rfl) ?_;conv=>whnf)|(refine cF (by rfl) ?_;conv=>whnf)))
  rw [← hfx]
  (refine mvB ?_;((conv=>whnf);repeat(first|(refine mvT ?_;conv=>whnf)|(refine mvF ?_;conv=>whnf)|(refine cT (by rfl) ?_;conv=>whnf)|(refine cF (by rfl) ?_;conv=>whnf))))
  have hup0 : tailBad 9 v fx dLeaveGroupResponse (l, false) = true → (rdPart 9 v fx dLeaveGroupResponse (l, false)).2.2 = true := id
  refine VC.cutE (fun q : Int × Rd => [(0, .pointer (some ⟨p, 0, none⟩)), (2, .bool false), (7, .pointer (some ⟨pb, 0, none⟩)), (8, .int .i16 v), (9, .bool fx), (10, .pointer (some ⟨p, 0, none⟩))]) (fun q w' => IntKind.i32.wrap q.1 = q.1 ∧ (if hasF (.mk 3 1 (-1) (-1) (-1) 0 0 []) v = true then rdField 9 v fx (.mk 3 1 (-1) (-1) (-1) 0 0 []) (l, false) else (dfT 9 (.mk 3 1 (-1) (-1) (-1) 0 0 []), (l, false))) = (numT q.1, q.2) ∧ St w0 G0 p pb q.2 ((p, ty, [] ++ [.int .i16 v, .int .i32 q.1, .int .i16 0, .slice none 0 0, .map none] ++ []) :: []) (fun _ => True) w') ?_ ?_
  · refine cI (by rfl) (fun hcv=>?_) (fun hcv=>?_)
    · ((conv=>whnf);repeat(first|(refine mvT ?_;conv=>whnf)|(refine mvF ?_;conv=>whnf)|(refine cT (by rfl) ?_;conv=>whnf)|(refine cF (by rfl) ?_;conv=>whnf)))
      refine Does.mono H.int32 ?_
      rintro r w ⟨n2, s2, rfl, hn2, hr2, H⟩
      ((conv=>whnf);repeat(first|(refine mvT ?_;conv=>whnf)|(refine mvF ?_;conv=>whnf)|(refine cT (by rfl) ?_;conv=>whnf)|(refine cF (by rfl) ?_;conv=>whnf)))
      refine H.st1 (v := .int .i32 n2) 1 (rfl) (rfl) rfl (by simp) rfl (Nat.lt_of_lt_of_le (Nat.lt_succ_self _) (Nat.le_of_ble_eq_true rfl)) ?_
      intro w H
      ((conv=>whnf);repeat(first|(refine mvT ?_;conv=>whnf)|(refine mvF ?_;conv=>whnf)|(refine cT (by rfl) ?_;conv=>whnf)|(refine cF (by rfl) ?_;conv=>whnf)))
      replace H : St w0 G0 p pb s2 ((p, ty, [] ++ [.int .i16 v, .int .i32 n2, .int .i16 0, .slice none 0 0, .map none] ++ []) :: []) (fun _ => True) w := H
      have hh : hasF (.mk 3 1 (-1) (-1) (-1) 0 0 []) v = true := by have := of_decide_eq_true hcv; rw [hasF_iff]; omega
      exact ⟨(n2, s2), ⟨rfl, rfl, rfl, rfl, rfl, rfl, trivial⟩, hn2, by rw [if_pos hh]; exact (rdField3.trans hr2), H⟩
    · ((conv=>whnf);repeat(first|(refine mvT ?_;conv=>whnf)|(refine mvF ?_;conv=>whnf)|(refine cT (by rfl) ?_;conv=>whnf)|(refine cF (by rfl) ?_;conv=>whnf)))
      have hh : ¬ hasF (.mk 3 1 (-1) (-1) (-1) 0 0 []) v = true := by have := of_decide_eq_false hcv; rw [hasF_iff]; omega
      exact ⟨(0, (l, false)), ⟨rfl, rfl, rfl, rfl, rfl, rfl, trivial⟩, rfl, by rw [if_neg hh]; rfl, H⟩
  clear H
  rintro ⟨n1, s1⟩ w ⟨hn1, hr1, H⟩
  dsimp only at hn1 hr1 H
  ((conv=>whnf);repeat(first|(refine mvT ?_;conv=>whnf)|(refine mvF ?_;conv=>whnf)|(refine cT (by rfl) ?_;conv=>whnf)|(refine cF (by rfl) ?_;conv=>whnf)))
  replace H : St w0 G0 p pb s1 ((p, ty, [] ++ [.int .i16 v, .int .i32 n1, .int .i16 0, .slice none 0 0, .map none] ++ []) :: []) (fun _ => True) w := H
  refine Does.mono H.int16 ?_
  rintro r w ⟨n4, s4, rfl, hn4, hr4, H⟩
  ((conv=>whnf);repeat(first|(refine mvT ?_;conv=>whnf)|(refine mvF ?_;conv=>whnf)|(refine cT (by rfl) ?_;conv=>whnf)|(refine cF (by rfl) ?_;conv=>whnf)))
  refine H.st1 (v := .int .i16 n4) 2 (rfl) (rfl) rfl (by simp) rfl (Nat.lt_of_lt_of_le (Nat.lt_succ_self _) (Nat.le_of_ble_eq_true rfl)) ?_
  intro w H
  ((conv=>whnf);repeat(first|(refine mvT ?_;conv=>whnf)|(refine mvF ?_;conv=>whnf)|(refine cT (by rfl) ?_;conv=>whnf)|(refine cF (by rfl) ?_;conv=>whnf)))
  replace H : St w0 G0 p pb s4 ((p, ty, [] ++ [.int .i16 v, .int .i32 n1, .int .i16 n4, .slice none 0 0, .map none] ++ []) :: []) (fun _ => True) w := H
  refine VC.cutE (fun q : Value × Bool × List T × Rd => [(0, .pointer (some ⟨p, 0, none⟩)), (2, .bool false), (7, .pointer (some ⟨pb, 0, none⟩)), (8, .int .i16 v), (9, .bool fx), (10, .pointer (some ⟨p, 0, none⟩))]) (fun q w' => (q.2.1 = true → q.2.2.1 = []) ∧ (if hasF (.mk 11 3 (-1) (-1) (-1) 0 10 dLeaveGroupResponseMember) v = true then rdField 9 v fx (.mk 11 3 (-1) (-1) (-1) 0 10 dLeaveGroupResponseMember) s4 else (dfT 9 (.mk 11 3 (-1) (-1) (-1) 0 10 dLeaveGroupResponseMember), s4)) = (.mk 0 [] q.2.1 q.2.2.1 [], q.2.2.2) ∧ St w0 G0 p pb q.2.2.2 ((p, ty, [] ++ [.int .i16 v, .int .i32 n1, .int .i16 n4, q.1, .map none] ++ []) :: []) (fun w => ListR true (elZ true 8 10 dLeaveGroupResponseMember) (elQ true 8 10 dLeaveGroupResponseMember ⟨w, fun k => k ≠ p⟩) w (fun k => k ≠ p) q.1 (.mk 0 [] (q.2.1) q.2.2.1 []) ∧ (fun _ => True) w) w') ?_ ?_
  · refine cI (by rfl) (fun hcv=>?_) (fun hcv=>?_)
    · have hh : hasF (.mk 11 3 (-1) (-1) (-1) 0 10 dLeaveGroupResponseMember) v = true := by have := of_decide_eq_true hcv; rw [hasF_iff]; omega
      ((conv=>whnf);repeat(first|(refine mvT ?_;conv=>whnf)|(refine mvF ?_;conv=>whnf)|(refine cT (by rfl) ?_;conv=>whnf)|(refine cF (by rfl) ?_;conv=>whnf)))
      refine ldS (H.cell (o := 0) rfl (k := 3) rfl) ?_;((conv=>whnf);repeat(first|(refine mvT ?_;conv=>whnf)|(refine mvF ?_;conv=>whnf)|(refine cT (by rfl) ?_;conv=>whnf)|(refine cF (by rfl) ?_;conv=>whnf)))
      (refine mvB ?_;((conv=>whnf);repeat(first|(refine mvT ?_;conv=>whnf)|(refine mvF ?_;conv=>whnf)|(refine cT (by rfl) ?_;conv=>whnf)|(refine cF (by rfl) ?_;conv=>whnf))))
      refine VC.cutE (fun q : Int × Rd => [(15, .int .i32 q.1), (14, .slice none 0 0), (0, .pointer (some ⟨p, 0, none⟩)), (2, .bool false), (7, .pointer (some ⟨pb, 0, none⟩)), (8, .int .i16 v), (9, .bool fx), (10, .pointer (some ⟨p, 0, none⟩))]) (fun q w' => (-2147483648 ≤ q.1 ∧ q.1 ≤ 2147483647) ∧ rdLn fx s4 = q ∧ St w0 G0 p pb q.2 ((p, ty, [] ++ [.int .i16 v, .int .i32 n1, .int .i16 n4, .slice none 0 0, .map none] ++ []) :: []) (fun _ => True) w') ?_ ?_
      · refine cI (by rfl) (fun hc=>?_) (fun hc=>?_)
        · ((conv=>whnf);repeat(first|(refine mvT ?_;conv=>whnf)|(refine mvF ?_;conv=>whnf)|(refine cT (by rfl) ?_;conv=>whnf)|(refine cF (by rfl) ?_;conv=>whnf)))
          refine Does.mono H.lnc ?_
          rintro r w ⟨n, s', rfl, hn, hr, H⟩
          ((conv=>whnf);repeat(first|(refine mvT ?_;conv=>whnf)|(refine mvF ?_;conv=>whnf)|(refine cT (by rfl) ?_;conv=>whnf)|(refine cF (by rfl) ?_;conv=>whnf)))
          exact ⟨(n, s'), ⟨rfl, rfl, rfl, rfl, rfl, rfl, rfl, rfl, trivial⟩, hn, by rw [hc]; exact hr, H⟩
        · ((conv=>whnf);repeat(first|(refine mvT ?_;conv=>whnf)|(refine mvF ?_;conv=>whnf)|(refine cT (by rfl) ?_;conv=>whnf)|(refine cF (by rfl) ?_;conv=>whnf)))
          refine Does.mono H.lnp ?_
          rintro r w ⟨n, s', rfl, hn, hr, H⟩
          ((conv=>whnf);repeat(first|(refine mvT ?_;conv=>whnf)|(refine mvF ?_;conv=>whnf)|(refine cT (by rfl) ?_;conv=>whnf)|(refine cF (by rfl) ?_;conv=>whnf)))
          exact ⟨(n, s'), ⟨rfl, rfl, rfl, rfl, rfl, rfl, rfl, rfl, trivial⟩, hn, by rw [hc]; exact hr, H⟩
      clear H
      rintro ⟨n7, s7⟩ w ⟨hn7, hln7, H⟩
      dsimp only at hn7 hln7 H
      ((conv=>whnf);repeat(first|(refine mvT ?_;conv=>whnf)|(refine mvF ?_;conv=>whnf)|(refine cT (by rfl) ?_;conv=>whnf)|(refine cF (by rfl) ?_;conv=>whnf)))
      refine Does.mono H.ok ?_
      rintro r w ⟨rfl, H⟩
      ((conv=>whnf);repeat(first|(refine mvT ?_;conv=>whnf)|(refine mvF ?_;conv=>whnf)|(refine cT (by rfl) ?_;conv=>whnf)|(refine cF (by rfl) ?_;conv=>whnf)))
      refine cI (by rfl) (fun hbd=>?_) (fun hbd=>?_)
      · have hbd : s7.2 = true := by simpa using hbd
        ((conv=>whnf);repeat(first|(refine mvT ?_;conv=>whnf)|(refine mvF ?_;conv=>whnf)|(refine cT (by rfl) ?_;conv=>whnf)|(refine cF (by rfl) ?_;conv=>whnf)))
        refine Does.mono (H.done hL hp1) ?_
        rintro r w ⟨rfl, H⟩
        ((conv=>whnf);repeat(first|(refine mvT ?_;conv=>whnf)|(refine mvF ?_;conv=>whnf)|(refine cT (by rfl) ?_;conv=>whnf)|(refine cF (by rfl) ?_;conv=>whnf)))
        refine RdPost.early hbd (hup0 (?_)) H
        rw [tail_ver hr1 (by decide), tail_yes (rdField2.trans hr4) ⟨by decide, has_all hv⟩, tail_len ⟨by decide, hh⟩ hln7 hbd]
      have hbd : s7.2 = false := by simpa using hbd
      clear hbd
      ((conv=>whnf);repeat(first|(refine mvT ?_;conv=>whnf)|(refine mvF ?_;conv=>whnf)|(refine cT (by rfl) ?_;conv=>whnf)|(refine cF (by rfl) ?_;conv=>whnf)))
      refine cut_zero ?_
      ((conv=>whnf);repeat(first|(refine mvT ?_;conv=>whnf)|(refine mvF ?_;conv=>whnf)|(refine cT (by rfl) ?_;conv=>whnf)|(refine cF (by rfl) ?_;conv=>whnf)))
      refine VC.cutE (fun a : Value => [(15, .int .i32 n7), (14, a), (0, .pointer (some ⟨p, 0, none⟩)), (2, .bool false), (7, .pointer (some ⟨pb, 0, none⟩)), (8, .int .i16 v), (9, .bool fx), (10, .pointer (some ⟨p, 0, none⟩))]) (fun a w' => ListI w0 G0 p pb 97 [str [], .pointer none, .int .i16 0, .map none] (elR 8 v fx 10 dLeaveGroupResponseMember) (elQ true 8 10 dLeaveGroupResponseMember) s7 n7 (decide (n7 ≤ 0)) ((p, ty, [] ++ [.int .i16 v, .int .i32 n1, .int .i16 n4, .slice none 0 0, .map none] ++ []) :: []) (fun _ => True) a 0 w') ?_ ?_
      · refine cI (by rfl) (fun hps=>?_) (fun hps=>?_)
        · have hps : 0 < n7 := by have := of_decide_eq_true hps; omega
          ((conv=>whnf);repeat(first|(refine mvT ?_;conv=>whnf)|(refine mvF ?_;conv=>whnf)|(refine cT (by rfl) ?_;conv=>whnf)|(refine cF (by rfl) ?_;conv=>whnf)))
          refine H.grow hps hn7.2 (by decide) rfl rfl (by decide) ?_
          intro g cap post w hc1 hc2 H
          ((conv=>whnf);repeat(first|(refine mvT ?_;conv=>whnf)|(refine mvF ?_;conv=>whnf)|(refine cT (by rfl) ?_;conv=>whnf)|(refine cF (by rfl) ?_;conv=>whnf)))
          exact ⟨_, ⟨rfl, rfl, rfl, rfl, rfl, rfl, rfl, rfl, trivial⟩, ListI.some hps (decide_eq_false (by omega)) hc1 hc2 H⟩
        · have hps : n7 ≤ 0 := by have := of_decide_eq_false hps; omega
          ((conv=>whnf);repeat(first|(refine mvT ?_;conv=>whnf)|(refine mvF ?_;conv=>whnf)|(refine cT (by rfl) ?_;conv=>whnf)|(refine cF (by rfl) ?_;conv=>whnf)))
          exact ⟨_, ⟨rfl, rfl, rfl, rfl, rfl, rfl, rfl, rfl, trivial⟩, ListI.none hps (decide_eq_true hps) H⟩
      clear H
      rintro a7 w H
      ((conv=>whnf);repeat(first|(refine mvT ?_;conv=>whnf)|(refine mvF ?_;conv=>whnf)|(refine cT (by rfl) ?_;conv=>whnf)|(refine cF (by rfl) ?_;conv=>whnf)))
      have hpL7 : inL ((p, ty, [] ++ [.int .i16 v, .int .i32 n1, .int .i16 n4, .slice none 0 0, .map none] ++ []) :: []) p := inL.head _ _
      refine VL.loop (fun i : Nat => [(15, .int .i32 n7), (14, a7), (16, .int .i32 i), (0, .pointer (some ⟨p, 0, none⟩)), (2, .bool false), (7, .pointer (some ⟨pb, 0, none⟩)), (8, .int .i16 v), (9, .bool fx), (10, .pointer (some ⟨p, 0, none⟩))]) (fun i w' => i ≤ 2147483647 ∧ ListI w0 G0 p pb 97 [str [], .pointer none, .int .i16 0, .map none] (elR 8 v fx 10 dLeaveGroupResponseMember) (elQ true 8 10 dLeaveGroupResponseMember) s7 n7 (decide (n7 ≤ 0)) ((p, ty, [] ++ [.int .i16 v, .int .i32 n1, .int .i16 n4, .slice none 0 0, .map none] ++ []) :: []) (fun _ => True) a7 i w') (fun i => n7.toNat - i) 0 ⟨rfl, rfl, rfl, rfl, rfl, rfl, rfl, rfl, rfl, trivial⟩ ⟨by decide, H⟩ ?_
      clear H
      rintro i7 w ⟨hi7, H⟩
      ((conv=>whnf);repeat(first|(refine mvT ?_;conv=>whnf)|(refine mvF ?_;conv=>whnf)|(refine cT (by rfl) ?_;conv=>whnf)|(refine cF (by rfl) ?_;conv=>whnf)))
      refine cI (by rfl) (fun h9=>?_) (fun h9=>?_)
      · have hlt7 : (i7 : Int) < n7 := of_decide_eq_true h9
        obtain ⟨g7, cap7, post7, rfl, hgo7, HI⟩ := H.go hlt7
        obtain ⟨es7, ts7, si7, hes7, hez7, hrn7, hts7, hlen1, H⟩ := HI.open hgo7.2.2.2.2
        obtain ⟨L7, hL7⟩ : ∃ L : List Ob, L = ((p, ty, [] ++ [.int .i16 v, .int .i32 n1, .int .i16 n4, .slice none 0 0, .map none] ++ []) :: []) := ⟨_, rfl⟩
        rw [← hL7] at H hpL7
        obtain ⟨P7, hP7⟩ : ∃ P : World → Prop, P = fun w => (∀ (j : Nat) (c : List Value) (y : T), es7[j]? = some c → ts7[j]? = some y → elQ true 8 10 dLeaveGroupResponseMember ⟨w, fun k => k ≠ p⟩ c y) ∧ (fun _ => True) w := ⟨_, rfl⟩
        rw [← hP7] at H
        replace H : St w0 G0 p pb si7 ((g7, 97, es7.flatten ++ [str [], .pointer none, .int .i16 0, .map none] ++ ((List.replicate (n7.toNat - (i7 + 1)) [str [], .pointer none, .int .i16 0, .map none]).flatten ++ post7)) :: L7) P7 w := H
        ((conv=>whnf);repeat(first|(refine mvT ?_;conv=>whnf)|(refine mvF ?_;conv=>whnf)|(refine cT (by rfl) ?_;conv=>whnf)|(refine cF (by rfl) ?_;conv=>whnf)))
        refine ⟨g7, 0, rfl, ⟨by omega, by omega⟩, ?_⟩
        ((conv=>whnf);repeat(first|(refine mvT ?_;conv=>whnf)|(refine mvF ?_;conv=>whnf)|(refine cT (by rfl) ?_;conv=>whnf)|(refine cF (by rfl) ?_;conv=>whnf)))
        refine Does.mono (dfLeaveGroupResponseMember (pre := es7.flatten) (cur := [str [], .pointer none, .int .i16 0, .map none]) (post := ((List.replicate (n7.toNat - (i7 + 1)) [str [], .pointer none, .int .i16 0, .map none]).flatten ++ post7)) H.head (by first | (rw [hlen1]; simp; done) | (simp [hlen1]; done) | (simp [hlen1]; omega)) rfl) ?_
        rintro rd w2 ⟨hdf, hxd⟩
        replace H := H.put hdf hxd
        clear hdf hxd
        replace H : St w0 G0 p pb si7 ((g7, 97, es7.flatten ++ [str [], .pointer none, .int .i16 0, .map none] ++ ((List.replicate (n7.toNat - (i7 + 1)) [str [], .pointer none, .int .i16 0, .map none]).flatten ++ post7)) :: L7) P7 w2 := H
        ((conv=>whnf);repeat(first|(refine mvT ?_;conv=>whnf)|(refine mvF ?_;conv=>whnf)|(refine cT (by rfl) ?_;conv=>whnf)|(refine cF (by rfl) ?_;conv=>whnf)))
        have hup7 : tailBad 8 v fx dLeaveGroupResponseMember si7 = true → (rdPart 9 v fx dLeaveGroupResponse (l, false)).2.2 = true := by
          intro hb
          refine hup0 ?_
          rw [tail_ver hr1 (by decide), tail_yes (rdField2.trans hr4) ⟨by decide, has_all hv⟩, tail_el ⟨by decide, hh⟩ hln7 hgo7.2.2.2.2 hrn7 hb]
        (refine mvB ?_;((conv=>whnf);repeat(first|(refine mvT ?_;conv=>whnf)|(refine mvF ?_;conv=>whnf)|(refine cT (by rfl) ?_;conv=>whnf)|(refine cF (by rfl) ?_;conv=>whnf))))
        refine VC.cutE (fun q : List UInt8 × Rd => [(19, str q.1), (0, .pointer (some ⟨p, 0, none⟩)), (2, .bool false), (7, .pointer (some ⟨pb, 0, none⟩)), (8, .int .i16 v), (9, .bool fx), (10, .pointer (some ⟨p, 0, none⟩)), (15, .int .i32 n7), (14, .slice (some ⟨g7, 0, none⟩) n7.toNat cap7), (16, .int .i32 i7), (17, .pointer (some ⟨g7, 0 + (i7 : Int).toNat * 4, none⟩)), (18, .pointer (some ⟨g7, 0 + (i7 : Int).toNat * 4, none⟩))]) (fun q w' => rdTx fx si7 = q ∧ St w0 G0 p pb q.2 ((g7, 97, es7.flatten ++ [str [], .pointer none, .int .i16 0, .map none] ++ ((List.replicate (n7.toNat - (i7 + 1)) [str [], .pointer none, .int .i16 0, .map none]).flatten ++ post7)) :: L7) P7 w') ?_ ?_
        · refine cI (by rfl) (fun hc=>?_) (fun hc=>?_)
          · ((conv=>whnf);repeat(first|(refine mvT ?_;conv=>whnf)|(refine mvF ?_;conv=>whnf)|(refine cT (by rfl) ?_;conv=>whnf)|(refine cF (by rfl) ?_;conv=>whnf)))
            refine Does.mono H.txc ?_
            rintro r w ⟨u, s', rfl, hr, H⟩
            ((conv=>whnf);repeat(first|(refine mvT ?_;conv=>whnf)|(refine mvF ?_;conv=>whnf)|(refine cT (by rfl) ?_;conv=>whnf)|(refine cF (by rfl) ?_;conv=>whnf)))
            exact ⟨(u, s'), ⟨rfl, rfl, rfl, rfl, rfl, rfl, rfl, rfl, rfl, rfl, rfl, rfl, trivial⟩, by rw [hc]; exact hr, H⟩
          · ((conv=>whnf);repeat(first|(refine mvT ?_;conv=>whnf)|(refine mvF ?_;conv=>whnf)|(refine cT (by rfl) ?_;conv=>whnf)|(refine cF (by rfl) ?_;conv=>whnf)))
            refine Does.mono H.txp ?_
            rintro r w ⟨u, s', rfl, hr, H⟩
            ((conv=>whnf);repeat(first|(refine mvT ?_;conv=>whnf)|(refine mvF ?_;conv=>whnf)|(refine cT (by rfl) ?_;conv=>whnf)|(refine cF (by rfl) ?_;conv=>whnf)))
            exact ⟨(u, s'), ⟨rfl, rfl, rfl, rfl, rfl, rfl, rfl, rfl, rfl, rfl, rfl, rfl, trivial⟩, by rw [hc]; exact hr, H⟩
        clear H
        rintro ⟨u8, s8⟩ w ⟨hr8, H⟩
        dsimp only at hr8 H
        ((conv=>whnf);repeat(first|(refine mvT ?_;conv=>whnf)|(refine mvF ?_;conv=>whnf)|(refine cT (by rfl) ?_;conv=>whnf)|(refine cF (by rfl) ?_;conv=>whnf)))
        refine H.st1 (v := str u8) 0 (rfl) (rfl) rfl (by first | omega | (simp [hlen1]; done) | (simp [hlen1]; omega)) rfl (Nat.lt_of_lt_of_le (Nat.lt_succ_self _) (Nat.le_of_ble_eq_true rfl)) ?_
        intro w H
        ((conv=>whnf);repeat(first|(refine mvT ?_;conv=>whnf)|(refine mvF ?_;conv=>whnf)|(refine cT (by rfl) ?_;conv=>whnf)|(refine cF (by rfl) ?_;conv=>whnf)))
        replace H : St w0 G0 p pb s8 ((g7, 97, es7.flatten ++ [str u8, .pointer none, .int .i16 0, .map none] ++ ((List.replicate (n7.toNat - (i7 + 1)) [str [], .pointer none, .int .i16 0, .map none]).flatten ++ post7)) :: L7) P7 w := H
        (refine mvB ?_;((conv=>whnf);repeat(first|(refine mvT ?_;conv=>whnf)|(refine mvF ?_;conv=>whnf)|(refine cT (by rfl) ?_;conv=>whnf)|(refine cF (by rfl) ?_;conv=>whnf))))
        refine VC.cutE (fun q : Value × Bool × List UInt8 × Rd => [(20, q.1), (0, .pointer (some ⟨p, 0, none⟩)), (2, .bool false), (7, .pointer (some ⟨pb, 0, none⟩)), (8, .int .i16 v), (9, .bool fx), (10, .pointer (some ⟨p, 0, none⟩)), (15, .int .i32 n7), (14, .slice (some ⟨g7, 0, none⟩) n7.toNat cap7), (16, .int .i32 i7), (17, .pointer (some ⟨g7, 0 + (i7 : Int).toNat * 4, none⟩)), (18, .pointer (some ⟨g7, 0 + (i7 : Int).toNat * 4, none⟩))]) (fun q w' => q.1.oneCell' = true ∧ (q.2.1 = true → q.2.2.1 = []) ∧ rdNt fx s8 = (.mk 0 q.2.2.1 q.2.1 [] [], q.2.2.2) ∧ St w0 G0 p pb q.2.2.2 ((g7, 97, es7.flatten ++ [str u8, .pointer none, .int .i16 0, .map none] ++ ((List.replicate (n7.toNat - (i7 + 1)) [str [], .pointer none, .int .i16 0, .map none]).flatten ++ post7)) :: L7) (fun w => NTf p q.1 (.mk 0 q.2.2.1 q.2.1 [] []) w ∧ P7 w) w') ?_ ?_
        · refine cI (by rfl) (fun hc=>?_) (fun hc=>?_)
          · ((conv=>whnf);repeat(first|(refine mvT ?_;conv=>whnf)|(refine mvF ?_;conv=>whnf)|(refine cT (by rfl) ?_;conv=>whnf)|(refine cF (by rfl) ?_;conv=>whnf)))
            refine Does.mono H.ntc ?_
            rintro r w ⟨c, nl, u, s', rfl, hone, hnl, hr, H⟩
            ((conv=>whnf);repeat(first|(refine mvT ?_;conv=>whnf)|(refine mvF ?_;conv=>whnf)|(refine cT (by rfl) ?_;conv=>whnf)|(refine cF (by rfl) ?_;conv=>whnf)))
            exact ⟨(r, nl, u, s'), ⟨rfl, rfl, rfl, rfl, rfl, rfl, rfl, rfl, rfl, rfl, rfl, rfl, trivial⟩, hone, hnl, by rw [hc]; exact hr, H⟩
          · ((conv=>whnf);repeat(first|(refine mvT ?_;conv=>whnf)|(refine mvF ?_;conv=>whnf)|(refine cT (by rfl) ?_;conv=>whnf)|(refine cF (by rfl) ?_;conv=>whnf)))
            refine Does.mono H.ntp ?_
            rintro r w ⟨c, nl, u, s', rfl, hone, hnl, hr, H⟩
            ((conv=>whnf);repeat(first|(refine mvT ?_;conv=>whnf)|(refine mvF ?_;conv=>whnf)|(refine cT (by rfl) ?_;conv=>whnf)|(refine cF (by rfl) ?_;conv=>whnf)))
            exact ⟨(r, nl, u, s'), ⟨rfl, rfl, rfl, rfl, rfl, rfl, rfl, rfl, rfl, rfl, rfl, rfl, trivial⟩, hone, hnl, by rw [hc]; exact hr, H⟩
        clear H
        rintro ⟨c10, nl10, u10, s10⟩ w ⟨hone10, hnl10, hr10, H⟩
        dsimp only at hone10 hnl10 hr10 H
        ((conv=>whnf);repeat(first|(refine mvT ?_;conv=>whnf)|(refine mvF ?_;conv=>whnf)|(refine cT (by rfl) ?_;conv=>whnf)|(refine cF (by rfl) ?_;conv=>whnf)))
        obtain ⟨P11, hP11⟩ : ∃ P : World → Prop, P = fun w => NTf p c10 (.mk 0 u10 nl10 [] []) w ∧ P7 w := ⟨_, rfl⟩
        replace H : St w0 G0 p pb s10 ((g7, 97, es7.flatten ++ [str u8, .pointer none, .int .i16 0, .map none] ++ ((List.replicate (n7.toNat - (i7 + 1)) [str [], .pointer none, .int .i16 0, .map none]).flatten ++ post7)) :: L7) P11 w := by rw [hP11]; exact H
        refine H.st1 (v := c10) 1 (cells_one hone10) (hone10) rfl (by first | omega | (simp [hlen1]; done) | (simp [hlen1]; omega)) rfl (Nat.lt_of_lt_of_le (Nat.lt_succ_self _) (Nat.le_of_ble_eq_true rfl)) ?_
        intro w H
        ((conv=>whnf);repeat(first|(refine mvT ?_;conv=>whnf)|(refine mvF ?_;conv=>whnf)|(refine cT (by rfl) ?_;conv=>whnf)|(refine cF (by rfl) ?_;conv=>whnf)))
        replace H : St w0 G0 p pb s10 ((g7, 97, es7.flatten ++ [str u8, c10, .int .i16 0, .map none] ++ ((List.replicate (n7.toNat - (i7 + 1)) [str [], .pointer none, .int .i16 0, .map none]).flatten ++ post7)) :: L7) P11 w := H
        refine Does.mono H.int16 ?_
        rintro r w ⟨n13, s13, rfl, hn13, hr13, H⟩
        ((conv=>whnf);repeat(first|(refine mvT ?_;conv=>whnf)|(refine mvF ?_;conv=>whnf)|(refine cT (by rfl) ?_;conv=>whnf)|(refine cF (by rfl) ?_;conv=>whnf)))
        refine H.st1 (v := .int .i16 n13) 2 (rfl) (rfl) rfl (by first | omega | (simp [hlen1]; done) | (simp [hlen1]; omega)) rfl (Nat.lt_of_lt_of_le (Nat.lt_succ_self _) (Nat.le_of_ble_eq_true rfl)) ?_
        intro w H
        ((conv=>whnf);repeat(first|(refine mvT ?_;conv=>whnf)|(refine mvF ?_;conv=>whnf)|(refine cT (by rfl) ?_;conv=>whnf)|(refine cF (by rfl) ?_;conv=>whnf)))
        replace H : St w0 G0 p pb s13 ((g7, 97, es7.flatten ++ [str u8, c10, .int .i16 n13, .map none] ++ ((List.replicate (n7.toNat - (i7 + 1)) [str [], .pointer none, .int .i16 0, .map none]).flatten ++ post7)) :: L7) P11 w := H
        (refine mvB ?_;((conv=>whnf);repeat(first|(refine mvT ?_;conv=>whnf)|(refine mvF ?_;conv=>whnf)|(refine cT (by rfl) ?_;conv=>whnf)|(refine cF (by rfl) ?_;conv=>whnf))))
        refine VC.cutB (fun q : Value × List Tg × Rd => [(0, .pointer (some ⟨p, 0, none⟩)), (2, .bool false), (7, .pointer (some ⟨pb, 0, none⟩)), (8, .int .i16 v), (9, .bool fx), (10, .pointer (some ⟨p, 0, none⟩)), (15, .int .i32 n7), (14, .slice (some ⟨g7, 0, none⟩) n7.toNat cap7), (16, .int .i32 i7), (17, .pointer (some ⟨g7, 0 + (i7 : Int).toNat * 4, none⟩)), (18, .pointer (some ⟨g7, 0 + (i7 : Int).toNat * 4, none⟩))]) (fun q w' => rdTagsF fx s13 = q.2 ∧ St w0 G0 p pb q.2.2 ((g7, 97, es7.flatten ++ [str u8, c10, .int .i16 n13, q.1] ++ ((List.replicate (n7.toNat - (i7 + 1)) [str [], .pointer none, .int .i16 0, .map none]).flatten ++ post7)) :: L7) (fun w => TGf p q.1 q.2.1 w ∧ P11 w) w') ?_ ?_
        · refine cI (by rfl) (fun hc=>?_) (fun hc=>?_)
          · ((conv=>whnf);repeat(first|(refine mvT ?_;conv=>whnf)|(refine mvF ?_;conv=>whnf)|(refine cT (by rfl) ?_;conv=>whnf)|(refine cF (by rfl) ?_;conv=>whnf)))
            refine Does.mono H.tags ?_
            rintro r w ⟨m, u, s', rfl, hone, hr, H⟩
            ((conv=>whnf);repeat(first|(refine mvT ?_;conv=>whnf)|(refine mvF ?_;conv=>whnf)|(refine cT (by rfl) ?_;conv=>whnf)|(refine cF (by rfl) ?_;conv=>whnf)))
            refine H.st1 (v := m) 3 (rfl) (hone) rfl (by first | omega | (simp [hlen1]; done) | (simp [hlen1]; omega)) rfl (Nat.lt_of_lt_of_le (Nat.lt_succ_self _) (Nat.le_of_ble_eq_true rfl)) ?_
            intro w H
            ((conv=>whnf);repeat(first|(refine mvT ?_;conv=>whnf)|(refine mvF ?_;conv=>whnf)|(refine cT (by rfl) ?_;conv=>whnf)|(refine cF (by rfl) ?_;conv=>whnf)))
            exact ⟨(m, u, s'), ⟨rfl, rfl, rfl, rfl, rfl, rfl, rfl, rfl, rfl, rfl, rfl, trivial⟩, by rw [rdTagsF, if_pos hc]; exact hr, H⟩
          · ((conv=>whnf);repeat(first|(refine mvT ?_;conv=>whnf)|(refine mvF ?_;conv=>whnf)|(refine cT (by rfl) ?_;conv=>whnf)|(refine cF (by rfl) ?_;conv=>whnf)))
            exact ⟨(.map none, [], s13), ⟨rfl, rfl, rfl, rfl, rfl, rfl, rfl, rfl, rfl, rfl, rfl, trivial⟩, by rw [rdTagsF, if_neg (by rw [hc]; decide)], H.add fun w' _ => TagsR.nil _ _⟩
        clear H
        rintro ⟨m15, u15, s15⟩ w ⟨htg, H⟩
        dsimp only at htg H
        ((conv=>whnf);repeat(first|(refine mvT ?_;conv=>whnf)|(refine mvF ?_;conv=>whnf)|(refine cT (by rfl) ?_;conv=>whnf)|(refine cF (by rfl) ?_;conv=>whnf)))
        obtain ⟨P16, hP16⟩ : ∃ P : World → Prop, P = fun w => TGf p m15 u15 w ∧ P11 w := ⟨_, rfl⟩
        replace H : St w0 G0 p pb s15 ((g7, 97, es7.flatten ++ [str u8, c10, .int .i16 n13, m15] ++ ((List.replicate (n7.toNat - (i7 + 1)) [str [], .pointer none, .int .i16 0, .map none]).flatten ++ post7)) :: L7) P16 w := by rw [hP16]; exact H
        have hpart : rdPart 8 v fx dLeaveGroupResponseMember si7 = (.mk 0 [] false [.mk 0 u8 false [] [], .mk 0 u10 nl10 [] [], numT n13] u15, s15) := by
          unfold rdPart rdPartW
          rw [rdAll_yes (df := dfT 8) (rdField8 (by decide) hr8) ⟨by decide, has_all hv⟩, rdAll_yes (df := dfT 8) ((rdField8n (by decide)).trans hr10) ⟨by decide, has_all hv⟩, rdAll_yes (df := dfT 8) (rdField2.trans hr13) ⟨by decide, has_all hv⟩]
          simp only [rdAll]
          rw [htg]
        refine ⟨i7 + 1, ⟨rfl, rfl, ?_, rfl, rfl, rfl, rfl, rfl, rfl, trivial⟩, ⟨by omega, ListI.back hgo7 (LoopI.next hes7 hez7 hrn7 hts7 (cur := [str u8, c10, .int .i16 n13, m15]) (x := .mk 0 [] false [.mk 0 u8 false [] [], .mk 0 u10 nl10 [] [], numT n13] u15) (hpart) rfl (by rw [← hL7]; exact H) fun w hP => ?_)⟩, by omega⟩
        · show some (Value.int .i32 _) = _
          rw [IntKind.wrap_i32]
          simp only [Option.some.injEq, Value.int.injEq, true_and]
          omega
        · skip
          rw [hP16] at hP
          obtain ⟨hf16_, hP⟩ := hP
          rw [hP11] at hP
          obtain ⟨hf11_, hP⟩ := hP
          rw [hP7] at hP
          exact ⟨QPt (QA1 (QF8 (by decide) u8) (QA1 (QF8n (by decide) hnl10 hf11_) (QA1 (QF2 hn13) (QA0)))) hf16_, hP⟩
      have hge7 : ¬ (i7 : Int) < n7 := of_decide_eq_false h9
      obtain ⟨l17, s17, hone17, hl17, hr17, H⟩ := H.done hge7 hln7 (nl := nlF (.mk 11 3 (-1) (-1) (-1) 0 10 dLeaveGroupResponseMember) v) (sz := elZ true 8 10 dLeaveGroupResponseMember) rfl hpL7 rfl
      ((conv=>whnf);repeat(first|(refine mvT ?_;conv=>whnf)|(refine mvF ?_;conv=>whnf)|(refine cT (by rfl) ?_;conv=>whnf)|(refine cF (by rfl) ?_;conv=>whnf)))
      obtain ⟨P18, hP18⟩ : ∃ P : World → Prop, P = fun w => ListR true (elZ true 8 10 dLeaveGroupResponseMember) (elQ true 8 10 dLeaveGroupResponseMember ⟨w, fun k => k ≠ p⟩) w (fun k => k ≠ p) a7 (.mk 0 [] (decide (n7 ≤ 0)) l17 []) ∧ (fun _ => True) w := ⟨_, rfl⟩
      replace H : St w0 G0 p pb s17 ((p, ty, [] ++ [.int .i16 v, .int .i32 n1, .int .i16 n4, .slice none 0 0, .map none] ++ []) :: []) P18 w := by rw [hP18]; exact H
      refine H.st1 (v := a7) 3 (cells_one hone17) (hone17) rfl (by simp) rfl (Nat.lt_of_lt_of_le (Nat.lt_succ_self _) (Nat.le_of_ble_eq_true rfl)) ?_
      intro w H
      ((conv=>whnf);repeat(first|(refine mvT ?_;conv=>whnf)|(refine mvF ?_;conv=>whnf)|(refine cT (by rfl) ?_;conv=>whnf)|(refine cF (by rfl) ?_;conv=>whnf)))
      replace H : St w0 G0 p pb s17 ((p, ty, [] ++ [.int .i16 v, .int .i32 n1, .int .i16 n4, a7, .map none] ++ []) :: []) P18 w := H
      exact ⟨(a7, decide (n7 ≤ 0), l17, s17), ⟨rfl, rfl, rfl, rfl, rfl, rfl, trivial⟩, hl17, by rw [if_pos hh]; exact ((rdField_list _ _ _ _ _ _ _ _ _ _ _).trans hr17), by rw [hP18] at H; exact H⟩
    · ((conv=>whnf);repeat(first|(refine mvT ?_;conv=>whnf)|(refine mvF ?_;conv=>whnf)|(refine cT (by rfl) ?_;conv=>whnf)|(refine cF (by rfl) ?_;conv=>whnf)))
      have hh : ¬ hasF (.mk 11 3 (-1) (-1) (-1) 0 10 dLeaveGroupResponseMember) v = true := by have := of_decide_eq_false hcv; rw [hasF_iff]; omega
      exact ⟨(.slice none 0 0, true, [], s4), ⟨rfl, rfl, rfl, rfl, rfl, rfl, trivial⟩, fun _ => rfl, by rw [if_neg hh]; rfl, H.add fun w' _ => .inl ⟨rfl, rfl⟩⟩
  clear H
  rintro ⟨c6, nl6, l6, s6⟩ w ⟨hnl6, hr6, H⟩
  dsimp only at hnl6 hr6 H
  ((conv=>whnf);repeat(first|(refine mvT ?_;conv=>whnf)|(refine mvF ?_;conv=>whnf)|(refine cT (by rfl) ?_;conv=>whnf)|(refine cF (by rfl) ?_;conv=>whnf)))
  obtain ⟨P20, hP20⟩ : ∃ P : World → Prop, P = fun w => ListR true (elZ true 8 10 dLeaveGroupResponseMember) (elQ true 8 10 dLeaveGroupResponseMember ⟨w, fun k => k ≠ p⟩) w (fun k => k ≠ p) c6 (.mk 0 [] (nl6) l6 []) ∧ (fun _ => True) w := ⟨_, rfl⟩
  replace H : St w0 G0 p pb s6 ((p, ty, [] ++ [.int .i16 v, .int .i32 n1, .int .i16 n4, c6, .map none] ++ []) :: []) P20 w := by rw [hP20]; exact H
  (refine mvB ?_;((conv=>whnf);repeat(first|(refine mvT ?_;conv=>whnf)|(refine mvF ?_;conv=>whnf)|(refine cT (by rfl) ?_;conv=>whnf)|(refine cF (by rfl) ?_;conv=>whnf))))
  refine VC.cutE (fun q : Value × List Tg × Rd => [(0, .pointer (some ⟨p, 0, none⟩)), (2, .bool false), (7, .pointer (some ⟨pb, 0, none⟩)), (8, .int .i16 v), (9, .bool fx), (10, .pointer (some ⟨p, 0, none⟩))]) (fun q w' => rdTagsF fx s6 = q.2 ∧ St w0 G0 p pb q.2.2 ((p, ty, [] ++ [.int .i16 v, .int .i32 n1, .int .i16 n4, c6, q.1] ++ []) :: []) (fun w => TGf p q.1 q.2.1 w ∧ P20 w) w') ?_ ?_
  · refine cI (by rfl) (fun hc=>?_) (fun hc=>?_)
    · ((conv=>whnf);repeat(first|(refine mvT ?_;conv=>whnf)|(refine mvF ?_;conv=>whnf)|(refine cT (by rfl) ?_;conv=>whnf)|(refine cF (by rfl) ?_;conv=>whnf)))
      refine Does.mono H.tags ?_
      rintro r w ⟨m, u, s', rfl, hone, hr, H⟩
      ((conv=>whnf);repeat(first|(refine mvT ?_;conv=>whnf)|(refine mvF ?_;conv=>whnf)|(refine cT (by rfl) ?_;conv=>whnf)|(refine cF (by rfl) ?_;conv=>whnf)))
      refine H.st1 (v := m) 4 (rfl) (hone) rfl (by simp) rfl (Nat.lt_of_lt_of_le (Nat.lt_succ_self _) (Nat.le_of_ble_eq_true rfl)) ?_
      intro w H
      ((conv=>whnf);repeat(first|(refine mvT ?_;conv=>whnf)|(refine mvF ?_;conv=>whnf)|(refine cT (by rfl) ?_;conv=>whnf)|(refine cF (by rfl) ?_;conv=>whnf)))
      exact ⟨(m, u, s'), ⟨rfl, rfl, rfl, rfl, rfl, rfl, trivial⟩, by rw [rdTagsF, if_pos hc]; exact hr, H⟩
    · ((conv=>whnf);repeat(first|(refine mvT ?_;conv=>whnf)|(refine mvF ?_;conv=>whnf)|(refine cT (by rfl) ?_;conv=>whnf)|(refine cF (by rfl) ?_;conv=>whnf)))
      exact ⟨(.map none, [], s6), ⟨rfl, rfl, rfl, rfl, rfl, rfl, trivial⟩, by rw [rdTagsF, if_neg (by rw [hc]; decide)], H.add fun w' _ => TagsR.nil _ _⟩
  clear H
  rintro ⟨m21, u21, s21⟩ w ⟨htg, H⟩
  dsimp only at htg H
  ((conv=>whnf);repeat(first|(refine mvT ?_;conv=>whnf)|(refine mvF ?_;conv=>whnf)|(refine cT (by rfl) ?_;conv=>whnf)|(refine cF (by rfl) ?_;conv=>whnf)))
  obtain ⟨P22, hP22⟩ : ∃ P : World → Prop, P = fun w => TGf p m21 u21 w ∧ P20 w := ⟨_, rfl⟩
  replace H : St w0 G0 p pb s21 ((p, ty, [] ++ [.int .i16 v, .int .i32 n1, .int .i16 n4, c6, m21] ++ []) :: []) P22 w := by rw [hP22]; exact H
  have hpart : rdPart 9 v fx dLeaveGroupResponse (l, false) = (.mk 0 [] false [numT n1, numT n4, .mk 0 [] nl6 l6 []] u21, s21) := by
    unfold rdPart rdPartW
    rw [rdAll_ver hr1 (by decide), rdAll_yes (df := dfT 9) (rdField2.trans hr4) ⟨by decide, has_all hv⟩, rdAll_ver hr6 (by decide)]
    simp only [rdAll]
    rw [htg]
  refine Does.mono (H.done hL hp1) ?_
  rintro r w ⟨rfl, H⟩
  ((conv=>whnf);repeat(first|(refine mvT ?_;conv=>whnf)|(refine mvF ?_;conv=>whnf)|(refine cT (by rfl) ?_;conv=>whnf)|(refine cF (by rfl) ?_;conv=>whnf)))
  refine RdPost.end hpart H fun hP => ?_
  rw [hP22] at hP
  obtain ⟨hf22_, hP⟩ := hP
  rw [hP20] at hP
  obtain ⟨hf20_, hP⟩ := hP
  exact QPt (QA1 (QF3 hn1) (QA1 (QF2 hn4) (QA1 (QF11 hnl6 hf20_) (QA0)))) hf22_
end Go.Proofs.YteofeendidabgaaGreatDoor.K
