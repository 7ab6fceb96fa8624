/- Reading of OffsetFetchRequest. -/
import Derived.Test.YtlnhbbpmlfaakaaGreatDoorRE5
set_option linter.unusedVariables false
set_option linter.unusedSimpArgs false
namespace Go.Proofs.YtlnhbbpmlfaakaaGreatDoorR.K
open Go
set_option maxHeartbeats 4000000
set_option maxRecDepth 100000

theorem mvG {K : Bool → Prop} {e : Bool} {Rest : Prop} (hr : Rest) (h : Rest → ∀ c, e = c → K c) : ∀ c, e = c → K c := h hr
abbrev dOffsetFetchRequestTopic : List Fd := [.mk 8 0 (-1) (-1) (-1) 0 0 [], .mk 11 0 (-1) (-1) (-1) 0 3 []]
abbrev dOffsetFetchRequestGroupTopic : List Fd := [.mk 8 8 9 (-1) (-1) 0 0 [], .mk 7 10 (-1) (-1) (-1) 0 0 [], .mk 11 0 (-1) (-1) (-1) 0 3 []]
abbrev dOffsetFetchRequestGroup : List Fd := [.mk 8 0 (-1) (-1) (-1) 0 0 [], .mk 8 9 (-1) 9 (-1) 0 0 [], .mk 3 9 (-1) (-1) (-1) (-1) 0 [], .mk 11 0 (-1) (-2) (-1) 0 10 dOffsetFetchRequestGroupTopic]
abbrev oOffsetFetchRequestGroup : List Fd := [.mk 8 0 (-1) (-1) (-1) 0 0 [], .mk 8 9 (-1) 9 (-1) 0 0 [], .mk 3 9 (-1) (-1) (-1) (-1) 0 [], .mk 11 0 (-1) (-1) (-1) 0 10 dOffsetFetchRequestGroupTopic]
abbrev dOffsetFetchRequest : List Fd := [.mk 8 0 7 (-1) (-1) 0 0 [], .mk 11 0 7 2 (-1) 0 10 dOffsetFetchRequestTopic, .mk 11 8 (-1) (-1) (-1) 0 10 dOffsetFetchRequestGroup, .mk 0 7 (-1) (-1) (-1) 0 0 []]
abbrev oOffsetFetchRequest : List Fd := [.mk 8 0 7 (-1) (-1) 0 0 [], .mk 11 0 7 2 (-1) 0 10 dOffsetFetchRequestTopic, .mk 11 8 (-1) (-1) (-1) 0 10 oOffsetFetchRequestGroup, .mk 0 7 (-1) (-1) (-1) 0 0 []]
theorem sOffsetFetchRequestTopic (w : World) : Does X.P 17 #[] w fun r w' => FdsR w' (fun k => w.heap.size ≤ k) r dOffsetFetchRequestTopic ∧ Ext nob w w' := by
  have hx0 : Ext nob w w := Ext.refl _ _
  refine Does.go (X := X) (l := []) Tryz.func17 rfl (by kernel_rfl) (by kernel_rfl) _ rfl ?_
  ((conv=>whnf);repeat(first|(refine mvT ?_;conv=>whnf)|(refine mvF ?_;conv=>whnf)|(refine cT (by rfl) ?_;conv=>whnf)|(refine cF (by rfl) ?_;conv=>whnf)))
  have hxs := hx0
  intro b wb hb ho hx
  have hx0 := hx0.e0 hx
  ((conv=>whnf);repeat(first|(refine mvT ?_;conv=>whnf)|(refine mvF ?_;conv=>whnf)|(refine cT (by rfl) ?_;conv=>whnf)|(refine cF (by rfl) ?_;conv=>whnf)))
  refine ⟨?_, hx0⟩
  exact FdL.fds (cs := [[.int .i64 8, .int .i64 0, .int .i64 (-1), .int .i64 (-1), .int .i64 (-1), .int .i64 0, .int .i64 0, .slice none 0 0], [.int .i64 11, .int .i64 0, .int .i64 (-1), .int .i64 (-1), .int .i64 (-1), .int .i64 0, .int .i64 3, .slice none 0 0]])
    ⟨fdLeaf _ _ _ _ _ _ _ _ _, fdLeaf _ _ _ _ _ _ _ _ _, trivial⟩ ho rfl (by decide) (by have := hxs.size; omega)
theorem sOffsetFetchRequestGroupTopic (w : World) : Does X.P 26 #[] w fun r w' => FdsR w' (fun k => w.heap.size ≤ k) r dOffsetFetchRequestGroupTopic ∧ Ext nob w w' := by
  have hx0 : Ext nob w w := Ext.refl _ _
  refine Does.go (X := X) (l := []) Tryz.func26 rfl (by kernel_rfl) (by kernel_rfl) _ rfl ?_
  ((conv=>whnf);repeat(first|(refine mvT ?_;conv=>whnf)|(refine mvF ?_;conv=>whnf)|(refine cT (by rfl) ?_;conv=>whnf)|(refine cF (by rfl) ?_;conv=>whnf)))
  have hxs := hx0
  intro b wb hb ho hx
  have hx0 := hx0.e0 hx
  ((conv=>whnf);repeat(first|(refine mvT ?_;conv=>whnf)|(refine mvF ?_;conv=>whnf)|(refine cT (by rfl) ?_;conv=>whnf)|(refine cF (by rfl) ?_;conv=>whnf)))
  refine ⟨?_, hx0⟩
  exact FdL.fds (cs := [[.int .i64 8, .int .i64 8, .int .i64 9, .int .i64 (-1), .int .i64 (-1), .int .i64 0, .int .i64 0, .slice none 0 0], [.int .i64 7, .int .i64 10, .int .i64 (-1), .int .i64 (-1), .int .i64 (-1), .int .i64 0, .int .i64 0, .slice none 0 0], [.int .i64 11, .int .i64 0, .int .i64 (-1), .int .i64 (-1), .int .i64 (-1), .int .i64 0, .int .i64 3, .slice none 0 0]])
    ⟨fdLeaf _ _ _ _ _ _ _ _ _, fdLeaf _ _ _ _ _ _ _ _ _, fdLeaf _ _ _ _ _ _ _ _ _, trivial⟩ ho rfl (by decide) (by have := hxs.size; omega)
theorem sOffsetFetchRequestGroup (w : World) : Does X.P 18 #[] w fun r w' => FdsR w' (fun k => w.heap.size ≤ k) r oOffsetFetchRequestGroup ∧ Ext nob w w' := by
  have hx0 : Ext nob w w := Ext.refl _ _
  refine Does.go (X := X) (l := []) Tryz.func18 rfl (by kernel_rfl) (by kernel_rfl) _ rfl ?_
  ((conv=>whnf);repeat(first|(refine mvT ?_;conv=>whnf)|(refine mvF ?_;conv=>whnf)|(refine cT (by rfl) ?_;conv=>whnf)|(refine cF (by rfl) ?_;conv=>whnf)))
  refine Does.mono (sOffsetFetchRequestGroupTopic w) ?_
  rintro v3 wv3 ⟨hv3, hc⟩
  have hv3 := hv3.mono (F' := fun k => w.heap.size ≤ k) fun k _ h => Nat.le_trans hx0.size h
  obtain ⟨lv3, gv3, _⟩ := id hv3
  obtain ⟨av3, kv3, rfl, _⟩ := gv3.view
  ((conv=>whnf);repeat(first|(refine mvT ?_;conv=>whnf)|(refine mvF ?_;conv=>whnf)|(refine cT (by rfl) ?_;conv=>whnf)|(refine cF (by rfl) ?_;conv=>whnf)))
  have hx0 := hx0.e0 hc
  have hxs := hx0
  intro b wb hb ho hx
  have hx0 := hx0.e0 hx
  ((conv=>whnf);repeat(first|(refine mvT ?_;conv=>whnf)|(refine mvF ?_;conv=>whnf)|(refine cT (by rfl) ?_;conv=>whnf)|(refine cF (by rfl) ?_;conv=>whnf)))
  refine ⟨?_, hx0⟩
  exact FdL.fds (cs := [[.int .i64 8, .int .i64 0, .int .i64 (-1), .int .i64 (-1), .int .i64 (-1), .int .i64 0, .int .i64 0, .slice none 0 0], [.int .i64 8, .int .i64 9, .int .i64 (-1), .int .i64 9, .int .i64 (-1), .int .i64 0, .int .i64 0, .slice none 0 0], [.int .i64 3, .int .i64 9, .int .i64 (-1), .int .i64 (-1), .int .i64 (-1), .int .i64 (-1), .int .i64 0, .slice none 0 0], [.int .i64 11, .int .i64 0, .int .i64 (-1), .int .i64 (-1), .int .i64 (-1), .int .i64 0, .int .i64 10, .slice av3 lv3.length kv3]])
    ⟨fdLeaf _ _ _ _ _ _ _ _ _, fdLeaf _ _ _ _ _ _ _ _ _, fdLeaf _ _ _ _ _ _ _ _ _, FdC.of (hv3.e0 hx) _ _ _ _ _ _ _, trivial⟩ ho rfl (by decide) (by have := hxs.size; omega)
theorem sOffsetFetchRequest (w : World) : Does X.P 7 #[] w fun r w' => Msg w' (fun k => w.heap.size ≤ k) r oOffsetFetchRequest 6 ∧ Ext nob w w' := by
  have hx0 : Ext nob w w := Ext.refl _ _
  refine Does.go (X := X) (l := []) Tryz.func7 rfl (by kernel_rfl) (by kernel_rfl) _ rfl ?_
  ((conv=>whnf);repeat(first|(refine mvT ?_;conv=>whnf)|(refine mvF ?_;conv=>whnf)|(refine cT (by rfl) ?_;conv=>whnf)|(refine cF (by rfl) ?_;conv=>whnf)))
  intro b w1 hb ho hx
  have hx0 := hx0.e0 hx
  have ho := ho
  ((conv=>whnf);repeat(first|(refine mvT ?_;conv=>whnf)|(refine mvF ?_;conv=>whnf)|(refine cT (by rfl) ?_;conv=>whnf)|(refine cF (by rfl) ?_;conv=>whnf)))
  refine Does.mono (sOffsetFetchRequestTopic w1) ?_
  rintro v1 wv1 ⟨hv1, hc⟩
  have hv1 := hv1.mono (F' := fun k => w.heap.size ≤ k ∧ b < k) fun k _ h => ⟨Nat.le_trans hx0.size h, Nat.lt_of_lt_of_le ho.lt h⟩
  obtain ⟨lv1, gv1, _⟩ := id hv1
  obtain ⟨av1, kv1, rfl, _⟩ := gv1.view
  ((conv=>whnf);repeat(first|(refine mvT ?_;conv=>whnf)|(refine mvF ?_;conv=>whnf)|(refine cT (by rfl) ?_;conv=>whnf)|(refine cF (by rfl) ?_;conv=>whnf)))
  have hx0 := hx0.e0 hc
  have ho := ho.e0 hc
  refine Does.mono (sOffsetFetchRequestGroup wv1) ?_
  rintro v2 wv2 ⟨hv2, hc⟩
  have hv2 := hv2.mono (F' := fun k => w.heap.size ≤ k ∧ b < k) fun k _ h => ⟨Nat.le_trans hx0.size h, Nat.lt_of_lt_of_le ho.lt h⟩
  obtain ⟨lv2, gv2, _⟩ := id hv2
  obtain ⟨av2, kv2, rfl, _⟩ := gv2.view
  ((conv=>whnf);repeat(first|(refine mvT ?_;conv=>whnf)|(refine mvF ?_;conv=>whnf)|(refine cT (by rfl) ?_;conv=>whnf)|(refine cF (by rfl) ?_;conv=>whnf)))
  have hv1 := hv1.e0 hc
  have hx0 := hx0.e0 hc
  have ho := ho.e0 hc
  have hxs := hx0
  intro b2 w2 hb2 ho2 hx2
  ((conv=>whnf);repeat(first|(refine mvT ?_;conv=>whnf)|(refine mvF ?_;conv=>whnf)|(refine cT (by rfl) ?_;conv=>whnf)|(refine cF (by rfl) ?_;conv=>whnf)))
  have hx0 := hx0.e0 hx2
  refine ⟨_, _, ho.e0 hx2, rfl, rfl, rfl, ?_⟩
  intro w3 ho3 hx3
  have hx03 := hx0.st hx3 hb
  ((conv=>whnf);repeat(first|(refine mvT ?_;conv=>whnf)|(refine mvF ?_;conv=>whnf)|(refine cT (by rfl) ?_;conv=>whnf)|(refine cF (by rfl) ?_;conv=>whnf)))
  refine ⟨_, rfl, ho3.cells, ?_⟩
  refine ⟨⟨_, rfl, ?_⟩, hx03⟩
  have ho2 := ho2.ext hx3 (by have := ho.lt; omega)
  have hs := hx0.size
  have hs2 : w.heap.size ≤ b2 := Nat.le_trans hxs.size hb2
  exact FdL.fds (cs := [[.int .i64 8, .int .i64 0, .int .i64 7, .int .i64 (-1), .int .i64 (-1), .int .i64 0, .int .i64 0, .slice none 0 0], [.int .i64 11, .int .i64 0, .int .i64 7, .int .i64 2, .int .i64 (-1), .int .i64 0, .int .i64 10, .slice av1 lv1.length kv1], [.int .i64 11, .int .i64 8, .int .i64 (-1), .int .i64 (-1), .int .i64 (-1), .int .i64 0, .int .i64 10, .slice av2 lv2.length kv2], [.int .i64 0, .int .i64 7, .int .i64 (-1), .int .i64 (-1), .int .i64 (-1), .int .i64 0, .int .i64 0, .slice none 0 0]])
    ⟨fdLeaf _ _ _ _ _ _ _ _ _, FdC.of (FdsR.mono (FdsR.ext (FdsR.e0 hv1 hx2) hx3 fun k _ h1 h2 => by omega) fun k _ h => h.1) _ _ _ _ _ _ _, FdC.of (FdsR.mono (FdsR.ext (FdsR.e0 hv2 hx2) hx3 fun k _ h1 h2 => by omega) fun k _ h => h.1) _ _ _ _ _ _ _, fdLeaf _ _ _ _ _ _ _ _ _, trivial⟩ ho2 rfl (by decide) (by omega)
theorem dfOffsetFetchRequestTopic {w : World} {q o : Nat} {T : TypeId} {pre cur post : List Value} (ho : Own w q T (pre ++ cur ++ post)) (hp : pre.length = o) (hl : cur.length = 3) :
    Does X.P 52 #[.pointer (some ⟨q, o, none⟩)] w fun r w' => Own w' q T (pre ++ cur ++ post) ∧ Ext (fun k => k = q) w w' := by
  have hx : Ext (fun k => k = q) w w := Ext.refl _ _
  refine Does.go (X := X) (l := [_]) Tryz.func52 rfl (by kernel_rfl) (by kernel_rfl) _ rfl ?_
  ((conv=>whnf);repeat(first|(refine mvT ?_;conv=>whnf)|(refine mvF ?_;conv=>whnf)|(refine cT (by rfl) ?_;conv=>whnf)|(refine cF (by rfl) ?_;conv=>whnf)))
  exact ⟨ho, hx⟩
theorem dfOffsetFetchRequestGroupTopic {w : World} {q o : Nat} {T : TypeId} {pre cur post : List Value} (ho : Own w q T (pre ++ cur ++ post)) (hp : pre.length = o) (hl : cur.length = 19) :
    Does X.P 60 #[.pointer (some ⟨q, o, none⟩)] w fun r w' => Own w' q T (pre ++ cur ++ post) ∧ Ext (fun k => k = q) w w' := by
  have hx : Ext (fun k => k = q) w w := Ext.refl _ _
  refine Does.go (X := X) (l := [_]) Tryz.func60 rfl (by kernel_rfl) (by kernel_rfl) _ rfl ?_
  ((conv=>whnf);repeat(first|(refine mvT ?_;conv=>whnf)|(refine mvF ?_;conv=>whnf)|(refine cT (by rfl) ?_;conv=>whnf)|(refine cF (by rfl) ?_;conv=>whnf)))
  exact ⟨ho, hx⟩
theorem dfOffsetFetchRequestGroup {w : World} {q o : Nat} {T : TypeId} {pre cur post : List Value} (ho : Own w q T (pre ++ cur ++ post)) (hp : pre.length = o) (hl : cur.length = 5) :
    Does X.P 55 #[.pointer (some ⟨q, o, none⟩)] w fun r w' => Own w' q T (pre ++ (cur.set 2 (.int .i32 (-1))) ++ post) ∧ Ext (fun k => k = q) w w' := by
  have hx : Ext (fun k => k = q) w w := Ext.refl _ _
  refine Does.go (X := X) (l := [_]) Tryz.func55 rfl (by kernel_rfl) (by kernel_rfl) _ rfl ?_
  ((conv=>whnf);repeat(first|(refine mvT ?_;conv=>whnf)|(refine mvF ?_;conv=>whnf)|(refine cT (by rfl) ?_;conv=>whnf)|(refine cF (by rfl) ?_;conv=>whnf)))
  refine stm ho 2 rfl rfl hp (by omega) rfl (by first | omega | (simp only [List.length_set]; omega)) ?_
  intro w0 ho hxd
  have hx := hx.trans hxd fun _ _ h => h
  ((conv=>whnf);repeat(first|(refine mvT ?_;conv=>whnf)|(refine mvF ?_;conv=>whnf)|(refine cT (by rfl) ?_;conv=>whnf)|(refine cF (by rfl) ?_;conv=>whnf)))
  exact ⟨ho, hx⟩
theorem dfOffsetFetchRequest {w : World} {q o : Nat} {T : TypeId} {pre cur post : List Value} (ho : Own w q T (pre ++ cur ++ post)) (hp : pre.length = o) (hl : cur.length = 6) :
    Does X.P 25 #[.pointer (some ⟨q, o, none⟩)] w fun r w' => Own w' q T (pre ++ cur ++ post) ∧ Ext (fun k => k = q) w w' := by
  have hx : Ext (fun k => k = q) w w := Ext.refl _ _
  refine Does.go (X := X) (l := [_]) Tryz.func25 rfl (by kernel_rfl) (by kernel_rfl) _ rfl ?_
  ((conv=>whnf);repeat(first|(refine mvT ?_;conv=>whnf)|(refine mvF ?_;conv=>whnf)|(refine cT (by rfl) ?_;conv=>whnf)|(refine cF (by rfl) ?_;conv=>whnf)))
  exact ⟨ho, hx⟩
theorem readOffsetFetchRequest {w0 : World} {F : Nat → Prop} {p : Nat} {ty : TypeId} {v : Int} {x ev : Value} {l : List UInt8} (hL : Laid w0 ev) (hp : Own w0 p ty [.int .i16 v, str [], .slice none 0 0, .slice none 0 0, .bool false, .map none]) (hx : Bytes w0 F x l) (hF : ∀ k, F k → k ≠ p) (hv : 0 ≤ v) (hp1 : p ≠ errG) :
    Does X.P 35 #[.pointer (some ⟨p, 0, none⟩), x, .bool false] w0 fun r w' => RdPost w0 p ty v (decide (v ≥ 6)) true dOffsetFetchRequest ev l r w' := by
  have hpl := hp.lt
  obtain ⟨fx, hfx⟩ : ∃ fx, fx = decide (v ≥ 6) := ⟨_, rfl⟩
  rw [← hfx]
  obtain ⟨G0, hG0, hx⟩ : ∃ G0 : Nat → Prop, (∀ k, G0 k → k < w0.heap.size ∧ k ≠ p) ∧ Bytes w0 G0 x l := ⟨fun k => F k ∧ k < w0.heap.size, fun k h => ⟨h.2, hF k h.1⟩, Sl.mono hx fun k hk h => ⟨h, hk⟩⟩
  obtain ⟨a0, c0, rfl, _⟩ := hx.view
  refine Does.go (X := X) (l := [_, _, _]) Tryz.func35 rfl (by kernel_rfl) (by kernel_rfl) _ rfl ?_
  ((conv=>whnf);repeat(first|(refine mvT ?_;conv=>whnf)|(refine mvF ?_;conv=>whnf)|(refine cT (by rfl) ?_;conv=>whnf)|(refine cF (by rfl) ?_;conv=>whnf)))
  refine Does.mono (dfOffsetFetchRequest (pre := []) (cur := [.int .i16 v, str [], .slice none 0 0, .slice none 0 0, .bool false, .map none]) (post := []) (by simpa using hp) rfl rfl) ?_
  rintro rd wd ⟨hpd, hxd⟩
  ((conv=>whnf);repeat(first|(refine mvT ?_;conv=>whnf)|(refine mvF ?_;conv=>whnf)|(refine cT (by rfl) ?_;conv=>whnf)|(refine cF (by rfl) ?_;conv=>whnf)))
  intro pb w1 hpb hb hx1
  ((conv=>whnf);repeat(first|(refine mvT ?_;conv=>whnf)|(refine mvF ?_;conv=>whnf)|(refine cT (by rfl) ?_;conv=>whnf)|(refine cF (by rfl) ?_;conv=>whnf)))
  refine st_all [.slice a0 l.length c0, .bool false] hb rfl rfl rfl ?_
  intro w hb hx2
  ((conv=>whnf);repeat(first|(refine mvT ?_;conv=>whnf)|(refine mvF ?_;conv=>whnf)|(refine cT (by rfl) ?_;conv=>whnf)|(refine cF (by rfl) ?_;conv=>whnf)))
  have hsd := hxd.size
  have hwp : w0.heap.size ≤ pb := by omega
  have he1 : Ext nob wd w := hx1.trans hx2 fun k hk h => by omega
  have hpw : Own w p ty [.int .i16 v, str [], .slice none 0 0, .slice none 0 0, .bool false, .map none] := by have := hpd.e0 he1; simpa using this
  have he := hxd.tr0 he1
  have H := St.init hpw hb (hx.ext he fun k _ h => (hG0 k h).2) hG0 he hpl hwp
  clear hpd hxd hx1 hx2 hb hpw he1 hp
  refine ldS (H.cell (o := 0) rfl (k := 0) rfl) ?_;((conv=>whnf);repeat(first|(refine mvT ?_;conv=>whnf)|(refine mvF ?_;conv=>whnf)|(refine cT (by rfl) ?_;conv=>whnf)|(refine cF (by rfl) ?_;conv=>whnf)))
  rw [← hfx]
  (refine mvB ?_;((conv=>whnf);repeat(first|(refine mvT ?_;conv=>whnf)|(refine mvF ?_;conv=>whnf)|(refine cT (by rfl) ?_;conv=>whnf)|(refine cF (by rfl) ?_;conv=>whnf))))
  have hup0 : tailBad 9 v fx dOffsetFetchRequest dOffsetFetchRequest (l, false) = true → (rdPart 9 v fx dOffsetFetchRequest (l, false)).2.2 = true := fun h => (tailBad_part _ _ _ _ _).symm.trans h
  intro cq hcq
  obtain rfl : cq = true := by rw [← hcq]; exact decide_eq_true hv
  ((conv=>whnf);repeat(first|(refine mvT ?_;conv=>whnf)|(refine mvF ?_;conv=>whnf)|(refine cT (by rfl) ?_;conv=>whnf)|(refine cF (by rfl) ?_;conv=>whnf)))
  refine VC.cutE (fun q : List UInt8 × Rd => [(0, .pointer (some ⟨p, 0, none⟩)), (2, .bool false), (7, .pointer (some ⟨pb, 0, none⟩)), (8, .int .i16 v), (9, .bool fx), (10, .pointer (some ⟨p, 0, none⟩))]) (fun q w' => (if hasF (.mk 8 0 7 (-1) (-1) 0 0 []) v = true then rdField 9 v fx (.mk 8 0 7 (-1) (-1) 0 0 []) (l, false) else (dfT 9 (.mk 8 0 7 (-1) (-1) 0 0 []), (l, false))) = (.mk 0 q.1 false [] [], q.2) ∧ St w0 G0 p pb q.2 ((p, ty, [] ++ [.int .i16 v, str q.1, .slice none 0 0, .slice none 0 0, .bool false, .map none] ++ []) :: []) (fun _ => True) w') ?_ ?_
  · refine cI (by rfl) (fun hcv=>?_) (fun hcv=>?_)
    · ((conv=>whnf);repeat(first|(refine mvT ?_;conv=>whnf)|(refine mvF ?_;conv=>whnf)|(refine cT (by rfl) ?_;conv=>whnf)|(refine cF (by rfl) ?_;conv=>whnf)))
      (refine mvB ?_;((conv=>whnf);repeat(first|(refine mvT ?_;conv=>whnf)|(refine mvF ?_;conv=>whnf)|(refine cT (by rfl) ?_;conv=>whnf)|(refine cF (by rfl) ?_;conv=>whnf))))
      refine VC.cutE (fun q : List UInt8 × Rd => [(11, str q.1), (0, .pointer (some ⟨p, 0, none⟩)), (2, .bool false), (7, .pointer (some ⟨pb, 0, none⟩)), (8, .int .i16 v), (9, .bool fx), (10, .pointer (some ⟨p, 0, none⟩))]) (fun q w' => rdTx fx (l, false) = q ∧ St w0 G0 p pb q.2 ((p, ty, [] ++ [.int .i16 v, str [], .slice none 0 0, .slice none 0 0, .bool false, .map none] ++ []) :: []) (fun _ => True) w') ?_ ?_
      · refine cI (by rfl) (fun hc=>?_) (fun hc=>?_)
        · ((conv=>whnf);repeat(first|(refine mvT ?_;conv=>whnf)|(refine mvF ?_;conv=>whnf)|(refine cT (by rfl) ?_;conv=>whnf)|(refine cF (by rfl) ?_;conv=>whnf)))
          refine Does.mono H.txc ?_
          rintro r w ⟨u, s', rfl, hr, H⟩
          ((conv=>whnf);repeat(first|(refine mvT ?_;conv=>whnf)|(refine mvF ?_;conv=>whnf)|(refine cT (by rfl) ?_;conv=>whnf)|(refine cF (by rfl) ?_;conv=>whnf)))
          exact ⟨(u, s'), ⟨rfl, rfl, rfl, rfl, rfl, rfl, rfl, trivial⟩, by rw [hc]; exact hr, H⟩
        · ((conv=>whnf);repeat(first|(refine mvT ?_;conv=>whnf)|(refine mvF ?_;conv=>whnf)|(refine cT (by rfl) ?_;conv=>whnf)|(refine cF (by rfl) ?_;conv=>whnf)))
          refine Does.mono H.txp ?_
          rintro r w ⟨u, s', rfl, hr, H⟩
          ((conv=>whnf);repeat(first|(refine mvT ?_;conv=>whnf)|(refine mvF ?_;conv=>whnf)|(refine cT (by rfl) ?_;conv=>whnf)|(refine cF (by rfl) ?_;conv=>whnf)))
          exact ⟨(u, s'), ⟨rfl, rfl, rfl, rfl, rfl, rfl, rfl, trivial⟩, by rw [hc]; exact hr, H⟩
      clear H
      rintro ⟨u2, s2⟩ w ⟨hr2, H⟩
      dsimp only at hr2 H
      ((conv=>whnf);repeat(first|(refine mvT ?_;conv=>whnf)|(refine mvF ?_;conv=>whnf)|(refine cT (by rfl) ?_;conv=>whnf)|(refine cF (by rfl) ?_;conv=>whnf)))
      refine H.st1 (v := str u2) 1 (rfl) (rfl) rfl (by simp) rfl (Nat.lt_of_lt_of_le (Nat.lt_succ_self _) (Nat.le_of_ble_eq_true rfl)) ?_
      intro w H
      ((conv=>whnf);repeat(first|(refine mvT ?_;conv=>whnf)|(refine mvF ?_;conv=>whnf)|(refine cT (by rfl) ?_;conv=>whnf)|(refine cF (by rfl) ?_;conv=>whnf)))
      replace H : St w0 G0 p pb s2 ((p, ty, [] ++ [.int .i16 v, str u2, .slice none 0 0, .slice none 0 0, .bool false, .map none] ++ []) :: []) (fun _ => True) w := H
      have hh : hasF (.mk 8 0 7 (-1) (-1) 0 0 []) v = true := by have := of_decide_eq_true hcv; rw [hasF_iff]; omega
      exact ⟨(u2, s2), ⟨rfl, rfl, rfl, rfl, rfl, rfl, trivial⟩, by rw [if_pos hh]; exact (rdField8 (by decide) hr2), H⟩
    · ((conv=>whnf);repeat(first|(refine mvT ?_;conv=>whnf)|(refine mvF ?_;conv=>whnf)|(refine cT (by rfl) ?_;conv=>whnf)|(refine cF (by rfl) ?_;conv=>whnf)))
      have hh : ¬ hasF (.mk 8 0 7 (-1) (-1) 0 0 []) v = true := by have := of_decide_eq_false hcv; rw [hasF_iff]; omega
      exact ⟨([], (l, false)), ⟨rfl, rfl, rfl, rfl, rfl, rfl, trivial⟩, by rw [if_neg hh]; rfl, H⟩
  clear H
  rintro ⟨u1, s1⟩ w ⟨hr1, H⟩
  dsimp only at hr1 H
  ((conv=>whnf);repeat(first|(refine mvT ?_;conv=>whnf)|(refine mvF ?_;conv=>whnf)|(refine cT (by rfl) ?_;conv=>whnf)|(refine cF (by rfl) ?_;conv=>whnf)))
  replace H : St w0 G0 p pb s1 ((p, ty, [] ++ [.int .i16 v, str u1, .slice none 0 0, .slice none 0 0, .bool false, .map none] ++ []) :: []) (fun _ => True) w := H
  intro cq hcq
  obtain rfl : cq = true := by rw [← hcq]; exact decide_eq_true hv
  ((conv=>whnf);repeat(first|(refine mvT ?_;conv=>whnf)|(refine mvF ?_;conv=>whnf)|(refine cT (by rfl) ?_;conv=>whnf)|(refine cF (by rfl) ?_;conv=>whnf)))
  refine VC.cutE (fun q : Value × Bool × List T × Rd => [(0, .pointer (some ⟨p, 0, none⟩)), (2, .bool false), (7, .pointer (some ⟨pb, 0, none⟩)), (8, .int .i16 v), (9, .bool fx), (10, .pointer (some ⟨p, 0, none⟩))]) (fun q w' => (q.2.1 = true → q.2.2.1 = []) ∧ (if hasF (.mk 11 0 7 2 (-1) 0 10 dOffsetFetchRequestTopic) v = true then rdField 9 v fx (.mk 11 0 7 2 (-1) 0 10 dOffsetFetchRequestTopic) s1 else (dfT 9 (.mk 11 0 7 2 (-1) 0 10 dOffsetFetchRequestTopic), s1)) = (.mk 0 [] q.2.1 q.2.2.1 [], q.2.2.2) ∧ St w0 G0 p pb q.2.2.2 ((p, ty, [] ++ [.int .i16 v, str u1, q.1, .slice none 0 0, .bool false, .map none] ++ []) :: []) (fun w => ListR true (elZ true 8 10 dOffsetFetchRequestTopic) (elQ true 8 10 dOffsetFetchRequestTopic ⟨w, FG w0 G0⟩) w (FG w0 G0) q.1 (.mk 0 [] (q.2.1) q.2.2.1 []) ∧ (fun _ => True) w) w') ?_ ?_
  · refine cI (by rfl) (fun hcv=>?_) (fun hcv=>?_)
    · have hh : hasF (.mk 11 0 7 2 (-1) 0 10 dOffsetFetchRequestTopic) v = true := by have := of_decide_eq_true hcv; rw [hasF_iff]; omega
      ((conv=>whnf);repeat(first|(refine mvT ?_;conv=>whnf)|(refine mvF ?_;conv=>whnf)|(refine cT (by rfl) ?_;conv=>whnf)|(refine cF (by rfl) ?_;conv=>whnf)))
      refine ldS (H.cell (o := 0) rfl (k := 2) rfl) ?_;((conv=>whnf);repeat(first|(refine mvT ?_;conv=>whnf)|(refine mvF ?_;conv=>whnf)|(refine cT (by rfl) ?_;conv=>whnf)|(refine cF (by rfl) ?_;conv=>whnf)))
      (refine mvB ?_;((conv=>whnf);repeat(first|(refine mvT ?_;conv=>whnf)|(refine mvF ?_;conv=>whnf)|(refine cT (by rfl) ?_;conv=>whnf)|(refine cF (by rfl) ?_;conv=>whnf))))
      refine VC.cutE (fun q : Int × Rd => [(14, .int .i32 q.1), (13, .slice none 0 0), (0, .pointer (some ⟨p, 0, none⟩)), (2, .bool false), (7, .pointer (some ⟨pb, 0, none⟩)), (8, .int .i16 v), (9, .bool fx), (10, .pointer (some ⟨p, 0, none⟩))]) (fun q w' => (-2147483648 ≤ q.1 ∧ q.1 ≤ 2147483647) ∧ rdLn fx s1 = q ∧ St w0 G0 p pb q.2 ((p, ty, [] ++ [.int .i16 v, str u1, .slice none 0 0, .slice none 0 0, .bool false, .map none] ++ []) :: []) (fun _ => True) w') ?_ ?_
      · refine cI (by rfl) (fun hc=>?_) (fun hc=>?_)
        · ((conv=>whnf);repeat(first|(refine mvT ?_;conv=>whnf)|(refine mvF ?_;conv=>whnf)|(refine cT (by rfl) ?_;conv=>whnf)|(refine cF (by rfl) ?_;conv=>whnf)))
          refine Does.mono H.lnc ?_
          rintro r w ⟨n, s', rfl, hn, hr, H⟩
          ((conv=>whnf);repeat(first|(refine mvT ?_;conv=>whnf)|(refine mvF ?_;conv=>whnf)|(refine cT (by rfl) ?_;conv=>whnf)|(refine cF (by rfl) ?_;conv=>whnf)))
          exact ⟨(n, s'), ⟨rfl, rfl, rfl, rfl, rfl, rfl, rfl, rfl, trivial⟩, hn, by rw [hc]; exact hr, H⟩
        · ((conv=>whnf);repeat(first|(refine mvT ?_;conv=>whnf)|(refine mvF ?_;conv=>whnf)|(refine cT (by rfl) ?_;conv=>whnf)|(refine cF (by rfl) ?_;conv=>whnf)))
          refine Does.mono H.lnp ?_
          rintro r w ⟨n, s', rfl, hn, hr, H⟩
          ((conv=>whnf);repeat(first|(refine mvT ?_;conv=>whnf)|(refine mvF ?_;conv=>whnf)|(refine cT (by rfl) ?_;conv=>whnf)|(refine cF (by rfl) ?_;conv=>whnf)))
          exact ⟨(n, s'), ⟨rfl, rfl, rfl, rfl, rfl, rfl, rfl, rfl, trivial⟩, hn, by rw [hc]; exact hr, H⟩
      clear H
      rintro ⟨n5, s5⟩ w ⟨hn5, hln5, H⟩
      dsimp only at hn5 hln5 H
      ((conv=>whnf);repeat(first|(refine mvT ?_;conv=>whnf)|(refine mvF ?_;conv=>whnf)|(refine cT (by rfl) ?_;conv=>whnf)|(refine cF (by rfl) ?_;conv=>whnf)))
      apply mvG
      rotate_left
      · intro rest cq hcq
        cases cq
        · have hvn := of_decide_eq_false hcq
          conv => whnf
          refine VC.cutE (fun a : Option Addr => [(14, .int .i32 n5), (13, .slice a 0 0), (0, .pointer (some ⟨p, 0, none⟩)), (2, .bool false), (7, .pointer (some ⟨pb, 0, none⟩)), (8, .int .i16 v), (9, .bool fx), (10, .pointer (some ⟨p, 0, none⟩))]) (fun a w' => StE w0 G0 p pb s5 102 ((p, ty, [] ++ [.int .i16 v, str u1, .slice none 0 0, .slice none 0 0, .bool false, .map none] ++ []) :: []) (fun _ => True) (v < 2 ∨ n5 = 0) a w') ?_ rest
          refine cI (by rfl) (fun hz=>?_) (fun hz=>?_)
          · have hz : n5 = 0 := by simpa using hz
            ((conv=>whnf);repeat(first|(refine mvT ?_;conv=>whnf)|(refine mvF ?_;conv=>whnf)|(refine cT (by rfl) ?_;conv=>whnf)|(refine cF (by rfl) ?_;conv=>whnf)))
            intro be we hbe hoe hxe
            ((conv=>whnf);repeat(first|(refine mvT ?_;conv=>whnf)|(refine mvF ?_;conv=>whnf)|(refine cT (by rfl) ?_;conv=>whnf)|(refine cF (by rfl) ?_;conv=>whnf)))
            exact ⟨_, ⟨rfl, rfl, rfl, rfl, rfl, rfl, rfl, rfl, trivial⟩, .inr ⟨.inr hz, be, rfl, H.push hxe hoe hbe⟩⟩
          · have hz : ¬ n5 = 0 := by simpa using hz
            ((conv=>whnf);repeat(first|(refine mvT ?_;conv=>whnf)|(refine mvF ?_;conv=>whnf)|(refine cT (by rfl) ?_;conv=>whnf)|(refine cF (by rfl) ?_;conv=>whnf)))
            exact ⟨_, ⟨rfl, rfl, rfl, rfl, rfl, rfl, rfl, rfl, trivial⟩, .inl ⟨by omega, rfl, H⟩⟩
        · have hvn := of_decide_eq_true hcq
          conv => whnf
          refine VC.cutE (fun a : Option Addr => [(14, .int .i32 n5), (13, .slice a 0 0), (0, .pointer (some ⟨p, 0, none⟩)), (2, .bool false), (7, .pointer (some ⟨pb, 0, none⟩)), (8, .int .i16 v), (9, .bool fx), (10, .pointer (some ⟨p, 0, none⟩))]) (fun a w' => StE w0 G0 p pb s5 102 ((p, ty, [] ++ [.int .i16 v, str u1, .slice none 0 0, .slice none 0 0, .bool false, .map none] ++ []) :: []) (fun _ => True) (v < 2 ∨ n5 = 0) a w') ?_ rest
          ((conv=>whnf);repeat(first|(refine mvT ?_;conv=>whnf)|(refine mvF ?_;conv=>whnf)|(refine cT (by rfl) ?_;conv=>whnf)|(refine cF (by rfl) ?_;conv=>whnf)))
          intro be we hbe hoe hxe
          ((conv=>whnf);repeat(first|(refine mvT ?_;conv=>whnf)|(refine mvF ?_;conv=>whnf)|(refine cT (by rfl) ?_;conv=>whnf)|(refine cF (by rfl) ?_;conv=>whnf)))
          exact ⟨_, ⟨rfl, rfl, rfl, rfl, rfl, rfl, rfl, rfl, trivial⟩, .inr ⟨.inl hvn, be, rfl, H.push hxe hoe hbe⟩⟩
      clear H
      rintro ae5 w H
      ((conv=>whnf);repeat(first|(refine mvT ?_;conv=>whnf)|(refine mvF ?_;conv=>whnf)|(refine cT (by rfl) ?_;conv=>whnf)|(refine cF (by rfl) ?_;conv=>whnf)))
      refine Does.mono H.ok ?_
      rintro r w ⟨rfl, H⟩
      ((conv=>whnf);repeat(first|(refine mvT ?_;conv=>whnf)|(refine mvF ?_;conv=>whnf)|(refine cT (by rfl) ?_;conv=>whnf)|(refine cF (by rfl) ?_;conv=>whnf)))
      refine cI (by rfl) (fun hbd=>?_) (fun hbd=>?_)
      · have hbd : s5.2 = true := by simpa using hbd
        ((conv=>whnf);repeat(first|(refine mvT ?_;conv=>whnf)|(refine mvF ?_;conv=>whnf)|(refine cT (by rfl) ?_;conv=>whnf)|(refine cF (by rfl) ?_;conv=>whnf)))
        refine Does.mono (H.done hL hp1) ?_
        rintro r w ⟨rfl, H⟩
        ((conv=>whnf);repeat(first|(refine mvT ?_;conv=>whnf)|(refine mvF ?_;conv=>whnf)|(refine cT (by rfl) ?_;conv=>whnf)|(refine cF (by rfl) ?_;conv=>whnf)))
        obtain ⟨_, H⟩ := H
        refine RdPost.early hbd (hup0 (?_)) H
        rw [tail_ver hr1 (by decide), tail_len ⟨by decide, hh⟩ hln5 hbd]
      have hbd : s5.2 = false := by simpa using hbd
      clear hbd
      ((conv=>whnf);repeat(first|(refine mvT ?_;conv=>whnf)|(refine mvF ?_;conv=>whnf)|(refine cT (by rfl) ?_;conv=>whnf)|(refine cF (by rfl) ?_;conv=>whnf)))
      refine cut_zero ?_
      ((conv=>whnf);repeat(first|(refine mvT ?_;conv=>whnf)|(refine mvF ?_;conv=>whnf)|(refine cT (by rfl) ?_;conv=>whnf)|(refine cF (by rfl) ?_;conv=>whnf)))
      refine VC.cutE (fun a : Value => [(14, .int .i32 n5), (13, a), (0, .pointer (some ⟨p, 0, none⟩)), (2, .bool false), (7, .pointer (some ⟨pb, 0, none⟩)), (8, .int .i16 v), (9, .bool fx), (10, .pointer (some ⟨p, 0, none⟩))]) (fun a w' => ListI w0 G0 p pb 102 [str [], .slice none 0 0, .map none] (elR 8 v fx 10 dOffsetFetchRequestTopic) (elQ true 8 10 dOffsetFetchRequestTopic) s5 n5 ((decide (n5 < 0) && decide (2 ≤ v))) ((p, ty, [] ++ [.int .i16 v, str u1, .slice none 0 0, .slice none 0 0, .bool false, .map none] ++ []) :: []) (fun _ => True) a 0 w') ?_ ?_
      · refine cI (by rfl) (fun hps=>?_) (fun hps=>?_)
        · have hps : 0 < n5 := by have := of_decide_eq_true hps; omega
          ((conv=>whnf);repeat(first|(refine mvT ?_;conv=>whnf)|(refine mvF ?_;conv=>whnf)|(refine cT (by rfl) ?_;conv=>whnf)|(refine cF (by rfl) ?_;conv=>whnf)))
          refine H.grow hps hn5.2 (by decide) rfl rfl (by decide) ?_
          intro g cap post w hc1 hc2 H
          ((conv=>whnf);repeat(first|(refine mvT ?_;conv=>whnf)|(refine mvF ?_;conv=>whnf)|(refine cT (by rfl) ?_;conv=>whnf)|(refine cF (by rfl) ?_;conv=>whnf)))
          exact ⟨_, ⟨rfl, rfl, rfl, rfl, rfl, rfl, rfl, rfl, trivial⟩, ListI.some hps (by simp; omega) hc1 hc2 H⟩
        · have hps : n5 ≤ 0 := by have := of_decide_eq_false hps; omega
          ((conv=>whnf);repeat(first|(refine mvT ?_;conv=>whnf)|(refine mvF ?_;conv=>whnf)|(refine cT (by rfl) ?_;conv=>whnf)|(refine cF (by rfl) ?_;conv=>whnf)))
          exact ⟨_, ⟨rfl, rfl, rfl, rfl, rfl, rfl, rfl, rfl, trivial⟩, H.none hps (fun h => by rcases h with h | h <;> (simp; omega)) (fun h => by simp; omega)⟩
      clear H
      rintro a5 w H
      ((conv=>whnf);repeat(first|(refine mvT ?_;conv=>whnf)|(refine mvF ?_;conv=>whnf)|(refine cT (by rfl) ?_;conv=>whnf)|(refine cF (by rfl) ?_;conv=>whnf)))
      have hpL5 : inL ((p, ty, [] ++ [.int .i16 v, str u1, .slice none 0 0, .slice none 0 0, .bool false, .map none] ++ []) :: []) p := inL.head _ _
      refine VL.loop (fun i : Nat => [(14, .int .i32 n5), (13, a5), (15, .int .i32 i), (0, .pointer (some ⟨p, 0, none⟩)), (2, .bool false), (7, .pointer (some ⟨pb, 0, none⟩)), (8, .int .i16 v), (9, .bool fx), (10, .pointer (some ⟨p, 0, none⟩))]) (fun i w' => i ≤ 2147483647 ∧ ListI w0 G0 p pb 102 [str [], .slice none 0 0, .map none] (elR 8 v fx 10 dOffsetFetchRequestTopic) (elQ true 8 10 dOffsetFetchRequestTopic) s5 n5 ((decide (n5 < 0) && decide (2 ≤ v))) ((p, ty, [] ++ [.int .i16 v, str u1, .slice none 0 0, .slice none 0 0, .bool false, .map none] ++ []) :: []) (fun _ => True) a5 i w') (fun i => n5.toNat - i) 0 ⟨rfl, rfl, rfl, rfl, rfl, rfl, rfl, rfl, rfl, trivial⟩ ⟨by decide, H⟩ ?_
      clear H
      rintro i5 w ⟨hi5, H⟩
      ((conv=>whnf);repeat(first|(refine mvT ?_;conv=>whnf)|(refine mvF ?_;conv=>whnf)|(refine cT (by rfl) ?_;conv=>whnf)|(refine cF (by rfl) ?_;conv=>whnf)))
      refine cI (by rfl) (fun h9=>?_) (fun h9=>?_)
      · have hlt5 : (i5 : Int) < n5 := of_decide_eq_true h9
        obtain ⟨g5, cap5, post5, rfl, hgo5, HI⟩ := H.go hlt5
        obtain ⟨es5, ts5, si5, hes5, hez5, hrn5, hts5, hlen1, H⟩ := HI.open hgo5.2.2.2.2
        obtain ⟨L5, hL5⟩ : ∃ L : List Ob, L = ((p, ty, [] ++ [.int .i16 v, str u1, .slice none 0 0, .slice none 0 0, .bool false, .map none] ++ []) :: []) := ⟨_, rfl⟩
        rw [← hL5] at H hpL5
        obtain ⟨P5, hP5⟩ : ∃ P : World → Prop, P = fun w => (∀ (j : Nat) (c : List Value) (y : T), es5[j]? = some c → ts5[j]? = some y → elQ true 8 10 dOffsetFetchRequestTopic ⟨w, FG w0 G0⟩ c y) ∧ (fun _ => True) w := ⟨_, rfl⟩
        rw [← hP5] at H
        replace H : St w0 G0 p pb si5 ((g5, 102, es5.flatten ++ [str [], .slice none 0 0, .map none] ++ ((List.replicate (n5.toNat - (i5 + 1)) [str [], .slice none 0 0, .map none]).flatten ++ post5)) :: L5) P5 w := H
        ((conv=>whnf);repeat(first|(refine mvT ?_;conv=>whnf)|(refine mvF ?_;conv=>whnf)|(refine cT (by rfl) ?_;conv=>whnf)|(refine cF (by rfl) ?_;conv=>whnf)))
        refine ⟨g5, 0, rfl, ⟨by omega, by omega⟩, ?_⟩
        ((conv=>whnf);repeat(first|(refine mvT ?_;conv=>whnf)|(refine mvF ?_;conv=>whnf)|(refine cT (by rfl) ?_;conv=>whnf)|(refine cF (by rfl) ?_;conv=>whnf)))
        refine Does.mono (dfOffsetFetchRequestTopic (pre := es5.flatten) (cur := [str [], .slice none 0 0, .map none]) (post := ((List.replicate (n5.toNat - (i5 + 1)) [str [], .slice none 0 0, .map none]).flatten ++ post5)) H.head (by first | (rw [hlen1]; simp; done) | (simp [hlen1]; done) | (simp [hlen1]; omega)) rfl) ?_
        rintro rd w2 ⟨hdf, hxd⟩
        replace H := H.put hdf hxd
        clear hdf hxd
        replace H : St w0 G0 p pb si5 ((g5, 102, es5.flatten ++ [str [], .slice none 0 0, .map none] ++ ((List.replicate (n5.toNat - (i5 + 1)) [str [], .slice none 0 0, .map none]).flatten ++ post5)) :: L5) P5 w2 := H
        ((conv=>whnf);repeat(first|(refine mvT ?_;conv=>whnf)|(refine mvF ?_;conv=>whnf)|(refine cT (by rfl) ?_;conv=>whnf)|(refine cF (by rfl) ?_;conv=>whnf)))
        have hup5 : tailBad 8 v fx dOffsetFetchRequestTopic dOffsetFetchRequestTopic si5 = true → (rdPart 9 v fx dOffsetFetchRequest (l, false)).2.2 = true := by
          intro hb
          refine hup0 ?_
          rw [tail_ver hr1 (by decide), tail_el ⟨by decide, hh⟩ hln5 hgo5.2.2.2.2 hrn5 ((tailBad_part _ _ _ _ _).symm.trans hb)]
        (refine mvB ?_;((conv=>whnf);repeat(first|(refine mvT ?_;conv=>whnf)|(refine mvF ?_;conv=>whnf)|(refine cT (by rfl) ?_;conv=>whnf)|(refine cF (by rfl) ?_;conv=>whnf))))
        refine VC.cutE (fun q : List UInt8 × Rd => [(18, str q.1), (0, .pointer (some ⟨p, 0, none⟩)), (2, .bool false), (7, .pointer (some ⟨pb, 0, none⟩)), (8, .int .i16 v), (9, .bool fx), (10, .pointer (some ⟨p, 0, none⟩)), (14, .int .i32 n5), (13, .slice (some ⟨g5, 0, none⟩) n5.toNat cap5), (15, .int .i32 i5), (16, .pointer (some ⟨g5, 0 + (i5 : Int).toNat * 3, none⟩)), (17, .pointer (some ⟨g5, 0 + (i5 : Int).toNat * 3, none⟩))]) (fun q w' => rdTx fx si5 = q ∧ St w0 G0 p pb q.2 ((g5, 102, es5.flatten ++ [str [], .slice none 0 0, .map none] ++ ((List.replicate (n5.toNat - (i5 + 1)) [str [], .slice none 0 0, .map none]).flatten ++ post5)) :: L5) P5 w') ?_ ?_
        · refine cI (by rfl) (fun hc=>?_) (fun hc=>?_)
          · ((conv=>whnf);repeat(first|(refine mvT ?_;conv=>whnf)|(refine mvF ?_;conv=>whnf)|(refine cT (by rfl) ?_;conv=>whnf)|(refine cF (by rfl) ?_;conv=>whnf)))
            refine Does.mono H.txc ?_
            rintro r w ⟨u, s', rfl, hr, H⟩
            ((conv=>whnf);repeat(first|(refine mvT ?_;conv=>whnf)|(refine mvF ?_;conv=>whnf)|(refine cT (by rfl) ?_;conv=>whnf)|(refine cF (by rfl) ?_;conv=>whnf)))
            exact ⟨(u, s'), ⟨rfl, rfl, rfl, rfl, rfl, rfl, rfl, rfl, rfl, rfl, rfl, rfl, trivial⟩, by rw [hc]; exact hr, H⟩
          · ((conv=>whnf);repeat(first|(refine mvT ?_;conv=>whnf)|(refine mvF ?_;conv=>whnf)|(refine cT (by rfl) ?_;conv=>whnf)|(refine cF (by rfl) ?_;conv=>whnf)))
            refine Does.mono H.txp ?_
            rintro r w ⟨u, s', rfl, hr, H⟩
            ((conv=>whnf);repeat(first|(refine mvT ?_;conv=>whnf)|(refine mvF ?_;conv=>whnf)|(refine cT (by rfl) ?_;conv=>whnf)|(refine cF (by rfl) ?_;conv=>whnf)))
            exact ⟨(u, s'), ⟨rfl, rfl, rfl, rfl, rfl, rfl, rfl, rfl, rfl, rfl, rfl, rfl, trivial⟩, by rw [hc]; exact hr, H⟩
        clear H
        rintro ⟨u6, s6⟩ w ⟨hr6, H⟩
        dsimp only at hr6 H
        ((conv=>whnf);repeat(first|(refine mvT ?_;conv=>whnf)|(refine mvF ?_;conv=>whnf)|(refine cT (by rfl) ?_;conv=>whnf)|(refine cF (by rfl) ?_;conv=>whnf)))
        refine H.st1 (v := str u6) 0 (rfl) (rfl) rfl (by first | omega | (simp [hlen1]; done) | (simp [hlen1]; omega)) rfl (Nat.lt_of_lt_of_le (Nat.lt_succ_self _) (Nat.le_of_ble_eq_true rfl)) ?_
        intro w H
        ((conv=>whnf);repeat(first|(refine mvT ?_;conv=>whnf)|(refine mvF ?_;conv=>whnf)|(refine cT (by rfl) ?_;conv=>whnf)|(refine cF (by rfl) ?_;conv=>whnf)))
        replace H : St w0 G0 p pb s6 ((g5, 102, es5.flatten ++ [str u6, .slice none 0 0, .map none] ++ ((List.replicate (n5.toNat - (i5 + 1)) [str [], .slice none 0 0, .map none]).flatten ++ post5)) :: L5) P5 w := H
        refine ⟨_, ld (H.cell rfl (k := 1) rfl) (by first | omega | (simp [hlen1]; done) | (simp [hlen1]; omega)), ?_⟩; ((conv=>whnf);repeat(first|(refine mvT ?_;conv=>whnf)|(refine mvF ?_;conv=>whnf)|(refine cT (by rfl) ?_;conv=>whnf)|(refine cF (by rfl) ?_;conv=>whnf)))
        (refine mvB ?_;((conv=>whnf);repeat(first|(refine mvT ?_;conv=>whnf)|(refine mvF ?_;conv=>whnf)|(refine cT (by rfl) ?_;conv=>whnf)|(refine cF (by rfl) ?_;conv=>whnf))))
        refine VC.cutE (fun q : Int × Rd => [(21, .int .i32 q.1), (20, .slice none 0 0), (0, .pointer (some ⟨p, 0, none⟩)), (2, .bool false), (7, .pointer (some ⟨pb, 0, none⟩)), (8, .int .i16 v), (9, .bool fx), (10, .pointer (some ⟨p, 0, none⟩)), (14, .int .i32 n5), (13, .slice (some ⟨g5, 0, none⟩) n5.toNat cap5), (15, .int .i32 i5), (16, .pointer (some ⟨g5, 0 + (i5 : Int).toNat * 3, none⟩)), (17, .pointer (some ⟨g5, 0 + (i5 : Int).toNat * 3, none⟩))]) (fun q w' => (-2147483648 ≤ q.1 ∧ q.1 ≤ 2147483647) ∧ rdLn fx s6 = q ∧ St w0 G0 p pb q.2 ((g5, 102, es5.flatten ++ [str u6, .slice none 0 0, .map none] ++ ((List.replicate (n5.toNat - (i5 + 1)) [str [], .slice none 0 0, .map none]).flatten ++ post5)) :: L5) P5 w') ?_ ?_
        · refine cI (by rfl) (fun hc=>?_) (fun hc=>?_)
          · ((conv=>whnf);repeat(first|(refine mvT ?_;conv=>whnf)|(refine mvF ?_;conv=>whnf)|(refine cT (by rfl) ?_;conv=>whnf)|(refine cF (by rfl) ?_;conv=>whnf)))
            refine Does.mono H.lnc ?_
            rintro r w ⟨n, s', rfl, hn, hr, H⟩
            ((conv=>whnf);repeat(first|(refine mvT ?_;conv=>whnf)|(refine mvF ?_;conv=>whnf)|(refine cT (by rfl) ?_;conv=>whnf)|(refine cF (by rfl) ?_;conv=>whnf)))
            exact ⟨(n, s'), ⟨rfl, rfl, rfl, rfl, rfl, rfl, rfl, rfl, rfl, rfl, rfl, rfl, rfl, trivial⟩, hn, by rw [hc]; exact hr, H⟩
          · ((conv=>whnf);repeat(first|(refine mvT ?_;conv=>whnf)|(refine mvF ?_;conv=>whnf)|(refine cT (by rfl) ?_;conv=>whnf)|(refine cF (by rfl) ?_;conv=>whnf)))
            refine Does.mono H.lnp ?_
            rintro r w ⟨n, s', rfl, hn, hr, H⟩
            ((conv=>whnf);repeat(first|(refine mvT ?_;conv=>whnf)|(refine mvF ?_;conv=>whnf)|(refine cT (by rfl) ?_;conv=>whnf)|(refine cF (by rfl) ?_;conv=>whnf)))
            exact ⟨(n, s'), ⟨rfl, rfl, rfl, rfl, rfl, rfl, rfl, rfl, rfl, rfl, rfl, rfl, rfl, trivial⟩, hn, by rw [hc]; exact hr, H⟩
        clear H
        rintro ⟨n8, s8⟩ w ⟨hn8, hln8, H⟩
        dsimp only at hn8 hln8 H
        ((conv=>whnf);repeat(first|(refine mvT ?_;conv=>whnf)|(refine mvF ?_;conv=>whnf)|(refine cT (by rfl) ?_;conv=>whnf)|(refine cF (by rfl) ?_;conv=>whnf)))
        refine Does.mono H.ok ?_
        rintro r w ⟨rfl, H⟩
        ((conv=>whnf);repeat(first|(refine mvT ?_;conv=>whnf)|(refine mvF ?_;conv=>whnf)|(refine cT (by rfl) ?_;conv=>whnf)|(refine cF (by rfl) ?_;conv=>whnf)))
        refine cI (by rfl) (fun hbd=>?_) (fun hbd=>?_)
        · have hbd : s8.2 = true := by simpa using hbd
          ((conv=>whnf);repeat(first|(refine mvT ?_;conv=>whnf)|(refine mvF ?_;conv=>whnf)|(refine cT (by rfl) ?_;conv=>whnf)|(refine cF (by rfl) ?_;conv=>whnf)))
          refine Does.mono (H.done hL hp1) ?_
          rintro r w ⟨rfl, H⟩
          ((conv=>whnf);repeat(first|(refine mvT ?_;conv=>whnf)|(refine mvF ?_;conv=>whnf)|(refine cT (by rfl) ?_;conv=>whnf)|(refine cF (by rfl) ?_;conv=>whnf)))
          refine RdPost.early hbd (hup5 (?_)) H
          rw [tail_yes (rdField8 (by decide) hr6) ⟨by decide, has_all hv⟩, tail_len ⟨by decide, has_all hv⟩ hln8 hbd]
        have hbd : s8.2 = false := by simpa using hbd
        clear hbd
        ((conv=>whnf);repeat(first|(refine mvT ?_;conv=>whnf)|(refine mvF ?_;conv=>whnf)|(refine cT (by rfl) ?_;conv=>whnf)|(refine cF (by rfl) ?_;conv=>whnf)))
        refine cut_zero ?_
        ((conv=>whnf);repeat(first|(refine mvT ?_;conv=>whnf)|(refine mvF ?_;conv=>whnf)|(refine cT (by rfl) ?_;conv=>whnf)|(refine cF (by rfl) ?_;conv=>whnf)))
        refine VC.cutE (fun a : Value => [(21, .int .i32 n8), (20, a), (0, .pointer (some ⟨p, 0, none⟩)), (2, .bool false), (7, .pointer (some ⟨pb, 0, none⟩)), (8, .int .i16 v), (9, .bool fx), (10, .pointer (some ⟨p, 0, none⟩)), (14, .int .i32 n5), (13, .slice (some ⟨g5, 0, none⟩) n5.toNat cap5), (15, .int .i32 i5), (16, .pointer (some ⟨g5, 0 + (i5 : Int).toNat * 3, none⟩)), (17, .pointer (some ⟨g5, 0 + (i5 : Int).toNat * 3, none⟩))]) (fun a w' => ListI w0 G0 p pb 21 [.int .i32 0] (elR 7 v fx 3 []) (elQ true 7 3 []) s8 n8 (decide (n8 ≤ 0)) ((g5, 102, es5.flatten ++ [str u6, .slice none 0 0, .map none] ++ ((List.replicate (n5.toNat - (i5 + 1)) [str [], .slice none 0 0, .map none]).flatten ++ post5)) :: L5) P5 a 0 w') ?_ ?_
        · refine cI (by rfl) (fun hps=>?_) (fun hps=>?_)
          · have hps : 0 < n8 := by have := of_decide_eq_true hps; omega
            ((conv=>whnf);repeat(first|(refine mvT ?_;conv=>whnf)|(refine mvF ?_;conv=>whnf)|(refine cT (by rfl) ?_;conv=>whnf)|(refine cF (by rfl) ?_;conv=>whnf)))
            refine H.grow hps hn8.2 (by decide) rfl rfl (by decide) ?_
            intro g cap post w hc1 hc2 H
            ((conv=>whnf);repeat(first|(refine mvT ?_;conv=>whnf)|(refine mvF ?_;conv=>whnf)|(refine cT (by rfl) ?_;conv=>whnf)|(refine cF (by rfl) ?_;conv=>whnf)))
            exact ⟨_, ⟨rfl, rfl, rfl, rfl, rfl, rfl, rfl, rfl, rfl, rfl, rfl, rfl, rfl, trivial⟩, ListI.some hps (decide_eq_false (by omega)) hc1 hc2 H⟩
          · have hps : n8 ≤ 0 := by have := of_decide_eq_false hps; omega
            ((conv=>whnf);repeat(first|(refine mvT ?_;conv=>whnf)|(refine mvF ?_;conv=>whnf)|(refine cT (by rfl) ?_;conv=>whnf)|(refine cF (by rfl) ?_;conv=>whnf)))
            exact ⟨_, ⟨rfl, rfl, rfl, rfl, rfl, rfl, rfl, rfl, rfl, rfl, rfl, rfl, rfl, trivial⟩, ListI.none hps (decide_eq_true hps) H⟩
        clear H
        rintro a8 w H
        ((conv=>whnf);repeat(first|(refine mvT ?_;conv=>whnf)|(refine mvF ?_;conv=>whnf)|(refine cT (by rfl) ?_;conv=>whnf)|(refine cF (by rfl) ?_;conv=>whnf)))
        have hpL8 : inL ((g5, 102, es5.flatten ++ [str u6, .slice none 0 0, .map none] ++ ((List.replicate (n5.toNat - (i5 + 1)) [str [], .slice none 0 0, .map none]).flatten ++ post5)) :: L5) p := inL.tail hpL5
        refine VL.loop (fun i : Nat => [(21, .int .i32 n8), (20, a8), (22, .int .i32 i), (0, .pointer (some ⟨p, 0, none⟩)), (2, .bool false), (7, .pointer (some ⟨pb, 0, none⟩)), (8, .int .i16 v), (9, .bool fx), (10, .pointer (some ⟨p, 0, none⟩)), (14, .int .i32 n5), (13, .slice (some ⟨g5, 0, none⟩) n5.toNat cap5), (15, .int .i32 i5), (16, .pointer (some ⟨g5, 0 + (i5 : Int).toNat * 3, none⟩)), (17, .pointer (some ⟨g5, 0 + (i5 : Int).toNat * 3, none⟩))]) (fun i w' => i ≤ 2147483647 ∧ ListI w0 G0 p pb 21 [.int .i32 0] (elR 7 v fx 3 []) (elQ true 7 3 []) s8 n8 (decide (n8 ≤ 0)) ((g5, 102, es5.flatten ++ [str u6, .slice none 0 0, .map none] ++ ((List.replicate (n5.toNat - (i5 + 1)) [str [], .slice none 0 0, .map none]).flatten ++ post5)) :: L5) P5 a8 i w') (fun i => n8.toNat - i) 0 ⟨rfl, rfl, rfl, rfl, rfl, rfl, rfl, rfl, rfl, rfl, rfl, rfl, rfl, rfl, trivial⟩ ⟨by decide, H⟩ ?_
        clear H
        rintro i8 w ⟨hi8, H⟩
        ((conv=>whnf);repeat(first|(refine mvT ?_;conv=>whnf)|(refine mvF ?_;conv=>whnf)|(refine cT (by rfl) ?_;conv=>whnf)|(refine cF (by rfl) ?_;conv=>whnf)))
        refine cI (by rfl) (fun h9=>?_) (fun h9=>?_)
        · have hlt8 : (i8 : Int) < n8 := of_decide_eq_true h9
          obtain ⟨g8, cap8, post8, rfl, hgo8, HI⟩ := H.go hlt8
          obtain ⟨es8, ts8, si8, hes8, hez8, hrn8, hts8, hlen2, H⟩ := HI.open hgo8.2.2.2.2
          obtain ⟨L8, hL8⟩ : ∃ L : List Ob, L = ((g5, 102, es5.flatten ++ [str u6, .slice none 0 0, .map none] ++ ((List.replicate (n5.toNat - (i5 + 1)) [str [], .slice none 0 0, .map none]).flatten ++ post5)) :: L5) := ⟨_, rfl⟩
          rw [← hL8] at H hpL8
          obtain ⟨P8, hP8⟩ : ∃ P : World → Prop, P = fun w => (∀ (j : Nat) (c : List Value) (y : T), es8[j]? = some c → ts8[j]? = some y → elQ true 7 3 [] ⟨w, FG w0 G0⟩ c y) ∧ P5 w := ⟨_, rfl⟩
          rw [← hP8] at H
          replace H : St w0 G0 p pb si8 ((g8, 21, es8.flatten ++ [.int .i32 0] ++ ((List.replicate (n8.toNat - (i8 + 1)) [.int .i32 0]).flatten ++ post8)) :: L8) P8 w := H
          ((conv=>whnf);repeat(first|(refine mvT ?_;conv=>whnf)|(refine mvF ?_;conv=>whnf)|(refine cT (by rfl) ?_;conv=>whnf)|(refine cF (by rfl) ?_;conv=>whnf)))
          refine Does.mono H.int32 ?_
          rintro r w ⟨n9, s9, rfl, hn9, hr9, H⟩
          ((conv=>whnf);repeat(first|(refine mvT ?_;conv=>whnf)|(refine mvF ?_;conv=>whnf)|(refine cT (by rfl) ?_;conv=>whnf)|(refine cF (by rfl) ?_;conv=>whnf)))
          refine ⟨g8, 0, rfl, ⟨by omega, by omega⟩, ?_⟩
          ((conv=>whnf);repeat(first|(refine mvT ?_;conv=>whnf)|(refine mvF ?_;conv=>whnf)|(refine cT (by rfl) ?_;conv=>whnf)|(refine cF (by rfl) ?_;conv=>whnf)))
          refine H.st1 (v := .int .i32 n9) 0 (rfl) (rfl) rfl (by first | omega | (simp [hlen2]; done) | (simp [hlen2]; omega)) rfl (Nat.lt_of_lt_of_le (Nat.lt_succ_self _) (Nat.le_of_ble_eq_true rfl)) ?_
          intro w H
          ((conv=>whnf);repeat(first|(refine mvT ?_;conv=>whnf)|(refine mvF ?_;conv=>whnf)|(refine cT (by rfl) ?_;conv=>whnf)|(refine cF (by rfl) ?_;conv=>whnf)))
          replace H : St w0 G0 p pb s9 ((g8, 21, es8.flatten ++ [.int .i32 n9] ++ ((List.replicate (n8.toNat - (i8 + 1)) [.int .i32 0]).flatten ++ post8)) :: L8) P8 w := H
          refine ⟨i8 + 1, ⟨rfl, rfl, ?_, rfl, rfl, rfl, rfl, rfl, rfl, rfl, rfl, rfl, rfl, rfl, trivial⟩, ⟨by omega, ListI.back hgo8 (LoopI.next hes8 hez8 hrn8 hts8 (cur := [.int .i32 n9]) (x := numT n9) (hr9) rfl (by rw [← hL8]; exact H) fun w hP => ?_)⟩, by omega⟩
          · show some (Value.int .i32 _) = _
            rw [IntKind.wrap_i32]
            simp only [Option.some.injEq, Value.int.injEq, true_and]
            omega
          · skip
            rw [hP8] at hP
            exact ⟨⟨_, hn9, rfl, rfl⟩, hP⟩
        have hge8 : ¬ (i8 : Int) < n8 := of_decide_eq_false h9
        obtain ⟨l10, s10, hone10, hl10, hr10, H⟩ := H.done hge8 hln8 (nl := nlF (.mk 11 0 (-1) (-1) (-1) 0 3 []) v) (sz := elZ true 7 3 []) rfl hpL8 rfl
        ((conv=>whnf);repeat(first|(refine mvT ?_;conv=>whnf)|(refine mvF ?_;conv=>whnf)|(refine cT (by rfl) ?_;conv=>whnf)|(refine cF (by rfl) ?_;conv=>whnf)))
        obtain ⟨P11, hP11⟩ : ∃ P : World → Prop, P = fun w => ListR true (elZ true 7 3 []) (elQ true 7 3 [] ⟨w, FG w0 G0⟩) w (FG w0 G0) a8 (.mk 0 [] (decide (n8 ≤ 0)) l10 []) ∧ P5 w := ⟨_, rfl⟩
        replace H : St w0 G0 p pb s10 ((g5, 102, es5.flatten ++ [str u6, .slice none 0 0, .map none] ++ ((List.replicate (n5.toNat - (i5 + 1)) [str [], .slice none 0 0, .map none]).flatten ++ post5)) :: L5) P11 w := by rw [hP11]; exact H
        refine H.st1 (v := a8) 1 (cells_one hone10) (hone10) rfl (by first | omega | (simp [hlen1]; done) | (simp [hlen1]; omega)) rfl (Nat.lt_of_lt_of_le (Nat.lt_succ_self _) (Nat.le_of_ble_eq_true rfl)) ?_
        intro w H
        ((conv=>whnf);repeat(first|(refine mvT ?_;conv=>whnf)|(refine mvF ?_;conv=>whnf)|(refine cT (by rfl) ?_;conv=>whnf)|(refine cF (by rfl) ?_;conv=>whnf)))
        replace H : St w0 G0 p pb s10 ((g5, 102, es5.flatten ++ [str u6, a8, .map none] ++ ((List.replicate (n5.toNat - (i5 + 1)) [str [], .slice none 0 0, .map none]).flatten ++ post5)) :: L5) P11 w := H
        (refine mvB ?_;((conv=>whnf);repeat(first|(refine mvT ?_;conv=>whnf)|(refine mvF ?_;conv=>whnf)|(refine cT (by rfl) ?_;conv=>whnf)|(refine cF (by rfl) ?_;conv=>whnf))))
        refine VC.cutB (fun q : Value × List Tg × Rd => [(0, .pointer (some ⟨p, 0, none⟩)), (2, .bool false), (7, .pointer (some ⟨pb, 0, none⟩)), (8, .int .i16 v), (9, .bool fx), (10, .pointer (some ⟨p, 0, none⟩)), (14, .int .i32 n5), (13, .slice (some ⟨g5, 0, none⟩) n5.toNat cap5), (15, .int .i32 i5), (16, .pointer (some ⟨g5, 0 + (i5 : Int).toNat * 3, none⟩)), (17, .pointer (some ⟨g5, 0 + (i5 : Int).toNat * 3, none⟩))]) (fun q w' => rdTagsF fx s10 = q.2 ∧ St w0 G0 p pb q.2.2 ((g5, 102, es5.flatten ++ [str u6, a8, q.1] ++ ((List.replicate (n5.toNat - (i5 + 1)) [str [], .slice none 0 0, .map none]).flatten ++ post5)) :: L5) (fun w => TGf w0 G0 q.1 q.2.1 w ∧ P11 w) w') ?_ ?_
        · refine cI (by rfl) (fun hc=>?_) (fun hc=>?_)
          · ((conv=>whnf);repeat(first|(refine mvT ?_;conv=>whnf)|(refine mvF ?_;conv=>whnf)|(refine cT (by rfl) ?_;conv=>whnf)|(refine cF (by rfl) ?_;conv=>whnf)))
            refine Does.mono H.tags ?_
            rintro r w ⟨m, u, s', rfl, hone, hr, H⟩
            ((conv=>whnf);repeat(first|(refine mvT ?_;conv=>whnf)|(refine mvF ?_;conv=>whnf)|(refine cT (by rfl) ?_;conv=>whnf)|(refine cF (by rfl) ?_;conv=>whnf)))
            refine H.st1 (v := m) 2 (rfl) (hone) rfl (by first | omega | (simp [hlen1]; done) | (simp [hlen1]; omega)) rfl (Nat.lt_of_lt_of_le (Nat.lt_succ_self _) (Nat.le_of_ble_eq_true rfl)) ?_
            intro w H
            ((conv=>whnf);repeat(first|(refine mvT ?_;conv=>whnf)|(refine mvF ?_;conv=>whnf)|(refine cT (by rfl) ?_;conv=>whnf)|(refine cF (by rfl) ?_;conv=>whnf)))
            exact ⟨(m, u, s'), ⟨rfl, rfl, rfl, rfl, rfl, rfl, rfl, rfl, rfl, rfl, rfl, trivial⟩, by rw [rdTagsF, if_pos hc]; exact hr, H⟩
          · ((conv=>whnf);repeat(first|(refine mvT ?_;conv=>whnf)|(refine mvF ?_;conv=>whnf)|(refine cT (by rfl) ?_;conv=>whnf)|(refine cF (by rfl) ?_;conv=>whnf)))
            exact ⟨(.map none, [], s10), ⟨rfl, rfl, rfl, rfl, rfl, rfl, rfl, rfl, rfl, rfl, rfl, trivial⟩, by rw [rdTagsF, if_neg (by rw [hc]; decide)], H.add fun w' _ => TagsR.nil _ _⟩
        clear H
        rintro ⟨m13, u13, s13⟩ w ⟨htg, H⟩
        dsimp only at htg H
        ((conv=>whnf);repeat(first|(refine mvT ?_;conv=>whnf)|(refine mvF ?_;conv=>whnf)|(refine cT (by rfl) ?_;conv=>whnf)|(refine cF (by rfl) ?_;conv=>whnf)))
        obtain ⟨P14, hP14⟩ : ∃ P : World → Prop, P = fun w => TGf w0 G0 m13 u13 w ∧ P11 w := ⟨_, rfl⟩
        replace H : St w0 G0 p pb s13 ((g5, 102, es5.flatten ++ [str u6, a8, m13] ++ ((List.replicate (n5.toNat - (i5 + 1)) [str [], .slice none 0 0, .map none]).flatten ++ post5)) :: L5) P14 w := by rw [hP14]; exact H
        have hpart : rdPart 8 v fx dOffsetFetchRequestTopic si5 = (.mk 0 [] false [.mk 0 u6 false [] [], .mk 0 [] (decide (n8 ≤ 0)) l10 []] u13, s13) := by
          unfold rdPart rdPartW
          rw [rdTail_plain (by decide)]
          rw [rdAll_yes (df := dfT 8) (rdField8 (by decide) hr6) ⟨by decide, has_all hv⟩, rdAll_yes (df := dfT 8) ((rdField_list _ _ _ _ _ _ _ _ _ _ _).trans hr10) ⟨by decide, has_all hv⟩]
          simp only [rdAll]
          rw [htg]
        refine ⟨i5 + 1, ⟨rfl, rfl, ?_, rfl, rfl, rfl, rfl, rfl, rfl, trivial⟩, ⟨by omega, ListI.back hgo5 (LoopI.next hes5 hez5 hrn5 hts5 (cur := [str u6, a8, m13]) (x := .mk 0 [] false [.mk 0 u6 false [] [], .mk 0 [] (decide (n8 ≤ 0)) l10 []] u13) (hpart) rfl (by rw [← hL5]; exact H) fun w hP => ?_)⟩, by omega⟩
        · show some (Value.int .i32 _) = _
          rw [IntKind.wrap_i32]
          simp only [Option.some.injEq, Value.int.injEq, true_and]
          omega
        · skip
          rw [hP14] at hP
          obtain ⟨hf14_, hP⟩ := hP
          rw [hP11] at hP
          obtain ⟨hf11_, hP⟩ := hP
          rw [hP5] at hP
          exact ⟨QPt (QA1 (QF8 (by decide) u6) (QA1 (QF11 hl10 hf11_) (QA0))) hf14_, hP⟩
      have hge5 : ¬ (i5 : Int) < n5 := of_decide_eq_false h9
      obtain ⟨l15, s15, hone15, hl15, hr15, H⟩ := H.done hge5 hln5 (nl := nlF (.mk 11 0 7 2 (-1) 0 10 dOffsetFetchRequestTopic) v) (sz := elZ true 8 10 dOffsetFetchRequestTopic) rfl hpL5 rfl
      ((conv=>whnf);repeat(first|(refine mvT ?_;conv=>whnf)|(refine mvF ?_;conv=>whnf)|(refine cT (by rfl) ?_;conv=>whnf)|(refine cF (by rfl) ?_;conv=>whnf)))
      obtain ⟨P16, hP16⟩ : ∃ P : World → Prop, P = fun w => ListR true (elZ true 8 10 dOffsetFetchRequestTopic) (elQ true 8 10 dOffsetFetchRequestTopic ⟨w, FG w0 G0⟩) w (FG w0 G0) a5 (.mk 0 [] ((decide (n5 < 0) && decide (2 ≤ v))) l15 []) ∧ (fun _ => True) w := ⟨_, rfl⟩
      replace H : St w0 G0 p pb s15 ((p, ty, [] ++ [.int .i16 v, str u1, .slice none 0 0, .slice none 0 0, .bool false, .map none] ++ []) :: []) P16 w := by rw [hP16]; exact H
      refine H.st1 (v := a5) 2 (cells_one hone15) (hone15) rfl (by simp) rfl (Nat.lt_of_lt_of_le (Nat.lt_succ_self _) (Nat.le_of_ble_eq_true rfl)) ?_
      intro w H
      ((conv=>whnf);repeat(first|(refine mvT ?_;conv=>whnf)|(refine mvF ?_;conv=>whnf)|(refine cT (by rfl) ?_;conv=>whnf)|(refine cF (by rfl) ?_;conv=>whnf)))
      replace H : St w0 G0 p pb s15 ((p, ty, [] ++ [.int .i16 v, str u1, a5, .slice none 0 0, .bool false, .map none] ++ []) :: []) P16 w := H
      exact ⟨(a5, (decide (n5 < 0) && decide (2 ≤ v)), l15, s15), ⟨rfl, rfl, rfl, rfl, rfl, rfl, trivial⟩, hl15, by rw [if_pos hh]; exact ((rdField_list _ _ _ _ _ _ _ _ _ _ _).trans hr15), by rw [hP16] at H; exact H⟩
    · ((conv=>whnf);repeat(first|(refine mvT ?_;conv=>whnf)|(refine mvF ?_;conv=>whnf)|(refine cT (by rfl) ?_;conv=>whnf)|(refine cF (by rfl) ?_;conv=>whnf)))
      have hh : ¬ hasF (.mk 11 0 7 2 (-1) 0 10 dOffsetFetchRequestTopic) v = true := by have := of_decide_eq_false hcv; rw [hasF_iff]; omega
      exact ⟨(.slice none 0 0, true, [], s1), ⟨rfl, rfl, rfl, rfl, rfl, rfl, trivial⟩, fun _ => rfl, by rw [if_neg hh]; rfl, H.add fun w' _ => .inl ⟨rfl, rfl⟩⟩
  clear H
  rintro ⟨c4, nl4, l4, s4⟩ w ⟨hnl4, hr4, H⟩
  dsimp only at hnl4 hr4 H
  ((conv=>whnf);repeat(first|(refine mvT ?_;conv=>whnf)|(refine mvF ?_;conv=>whnf)|(refine cT (by rfl) ?_;conv=>whnf)|(refine cF (by rfl) ?_;conv=>whnf)))
  obtain ⟨P18, hP18⟩ : ∃ P : World → Prop, P = fun w => ListR true (elZ true 8 10 dOffsetFetchRequestTopic) (elQ true 8 10 dOffsetFetchRequestTopic ⟨w, FG w0 G0⟩) w (FG w0 G0) c4 (.mk 0 [] (nl4) l4 []) ∧ (fun _ => True) w := ⟨_, rfl⟩
  replace H : St w0 G0 p pb s4 ((p, ty, [] ++ [.int .i16 v, str u1, c4, .slice none 0 0, .bool false, .map none] ++ []) :: []) P18 w := by rw [hP18]; exact H
  refine VC.cutE (fun q : Value × Bool × List T × Rd => [(0, .pointer (some ⟨p, 0, none⟩)), (2, .bool false), (7, .pointer (some ⟨pb, 0, none⟩)), (8, .int .i16 v), (9, .bool fx), (10, .pointer (some ⟨p, 0, none⟩))]) (fun q w' => (q.2.1 = true → q.2.2.1 = []) ∧ (if hasF (.mk 11 8 (-1) (-1) (-1) 0 10 dOffsetFetchRequestGroup) v = true then rdField 9 v fx (.mk 11 8 (-1) (-1) (-1) 0 10 dOffsetFetchRequestGroup) s4 else (dfT 9 (.mk 11 8 (-1) (-1) (-1) 0 10 dOffsetFetchRequestGroup), s4)) = (.mk 0 [] q.2.1 q.2.2.1 [], q.2.2.2) ∧ St w0 G0 p pb q.2.2.2 ((p, ty, [] ++ [.int .i16 v, str u1, c4, q.1, .bool false, .map none] ++ []) :: []) (fun w => ListR true (elZ true 8 10 dOffsetFetchRequestGroup) (elQ true 8 10 dOffsetFetchRequestGroup ⟨w, FG w0 G0⟩) w (FG w0 G0) q.1 (.mk 0 [] (q.2.1) q.2.2.1 []) ∧ P18 w) w') ?_ ?_
  · refine cI (by rfl) (fun hcv=>?_) (fun hcv=>?_)
    · have hh : hasF (.mk 11 8 (-1) (-1) (-1) 0 10 dOffsetFetchRequestGroup) v = true := by have := of_decide_eq_true hcv; rw [hasF_iff]; omega
      ((conv=>whnf);repeat(first|(refine mvT ?_;conv=>whnf)|(refine mvF ?_;conv=>whnf)|(refine cT (by rfl) ?_;conv=>whnf)|(refine cF (by rfl) ?_;conv=>whnf)))
      refine ldS (H.cell (o := 0) rfl (k := 3) rfl) ?_;((conv=>whnf);repeat(first|(refine mvT ?_;conv=>whnf)|(refine mvF ?_;conv=>whnf)|(refine cT (by rfl) ?_;conv=>whnf)|(refine cF (by rfl) ?_;conv=>whnf)))
      (refine mvB ?_;((conv=>whnf);repeat(first|(refine mvT ?_;conv=>whnf)|(refine mvF ?_;conv=>whnf)|(refine cT (by rfl) ?_;conv=>whnf)|(refine cF (by rfl) ?_;conv=>whnf))))
      refine VC.cutE (fun q : Int × Rd => [(26, .int .i32 q.1), (25, .slice none 0 0), (0, .pointer (some ⟨p, 0, none⟩)), (2, .bool false), (7, .pointer (some ⟨pb, 0, none⟩)), (8, .int .i16 v), (9, .bool fx), (10, .pointer (some ⟨p, 0, none⟩))]) (fun q w' => (-2147483648 ≤ q.1 ∧ q.1 ≤ 2147483647) ∧ rdLn fx s4 = q ∧ St w0 G0 p pb q.2 ((p, ty, [] ++ [.int .i16 v, str u1, c4, .slice none 0 0, .bool false, .map none] ++ []) :: []) P18 w') ?_ ?_
      · refine cI (by rfl) (fun hc=>?_) (fun hc=>?_)
        · ((conv=>whnf);repeat(first|(refine mvT ?_;conv=>whnf)|(refine mvF ?_;conv=>whnf)|(refine cT (by rfl) ?_;conv=>whnf)|(refine cF (by rfl) ?_;conv=>whnf)))
          refine Does.mono H.lnc ?_
          rintro r w ⟨n, s', rfl, hn, hr, H⟩
          ((conv=>whnf);repeat(first|(refine mvT ?_;conv=>whnf)|(refine mvF ?_;conv=>whnf)|(refine cT (by rfl) ?_;conv=>whnf)|(refine cF (by rfl) ?_;conv=>whnf)))
          exact ⟨(n, s'), ⟨rfl, rfl, rfl, rfl, rfl, rfl, rfl, rfl, trivial⟩, hn, by rw [hc]; exact hr, H⟩
        · ((conv=>whnf);repeat(first|(refine mvT ?_;conv=>whnf)|(refine mvF ?_;conv=>whnf)|(refine cT (by rfl) ?_;conv=>whnf)|(refine cF (by rfl) ?_;conv=>whnf)))
          refine Does.mono H.lnp ?_
          rintro r w ⟨n, s', rfl, hn, hr, H⟩
          ((conv=>whnf);repeat(first|(refine mvT ?_;conv=>whnf)|(refine mvF ?_;conv=>whnf)|(refine cT (by rfl) ?_;conv=>whnf)|(refine cF (by rfl) ?_;conv=>whnf)))
          exact ⟨(n, s'), ⟨rfl, rfl, rfl, rfl, rfl, rfl, rfl, rfl, trivial⟩, hn, by rw [hc]; exact hr, H⟩
      clear H
      rintro ⟨n20, s20⟩ w ⟨hn20, hln20, H⟩
      dsimp only at hn20 hln20 H
      ((conv=>whnf);repeat(first|(refine mvT ?_;conv=>whnf)|(refine mvF ?_;conv=>whnf)|(refine cT (by rfl) ?_;conv=>whnf)|(refine cF (by rfl) ?_;conv=>whnf)))
      refine Does.mono H.ok ?_
      rintro r w ⟨rfl, H⟩
      ((conv=>whnf);repeat(first|(refine mvT ?_;conv=>whnf)|(refine mvF ?_;conv=>whnf)|(refine cT (by rfl) ?_;conv=>whnf)|(refine cF (by rfl) ?_;conv=>whnf)))
      refine cI (by rfl) (fun hbd=>?_) (fun hbd=>?_)
      · have hbd : s20.2 = true := by simpa using hbd
        ((conv=>whnf);repeat(first|(refine mvT ?_;conv=>whnf)|(refine mvF ?_;conv=>whnf)|(refine cT (by rfl) ?_;conv=>whnf)|(refine cF (by rfl) ?_;conv=>whnf)))
        refine Does.mono (H.done hL hp1) ?_
        rintro r w ⟨rfl, H⟩
        ((conv=>whnf);repeat(first|(refine mvT ?_;conv=>whnf)|(refine mvF ?_;conv=>whnf)|(refine cT (by rfl) ?_;conv=>whnf)|(refine cF (by rfl) ?_;conv=>whnf)))
        refine RdPost.early hbd (hup0 (?_)) H
        rw [tail_ver hr1 (by decide), tail_ver hr4 (by decide), tail_len ⟨by decide, hh⟩ hln20 hbd]
      have hbd : s20.2 = false := by simpa using hbd
      clear hbd
      ((conv=>whnf);repeat(first|(refine mvT ?_;conv=>whnf)|(refine mvF ?_;conv=>whnf)|(refine cT (by rfl) ?_;conv=>whnf)|(refine cF (by rfl) ?_;conv=>whnf)))
      refine cut_zero ?_
      ((conv=>whnf);repeat(first|(refine mvT ?_;conv=>whnf)|(refine mvF ?_;conv=>whnf)|(refine cT (by rfl) ?_;conv=>whnf)|(refine cF (by rfl) ?_;conv=>whnf)))
      refine VC.cutE (fun a : Value => [(26, .int .i32 n20), (25, a), (0, .pointer (some ⟨p, 0, none⟩)), (2, .bool false), (7, .pointer (some ⟨pb, 0, none⟩)), (8, .int .i16 v), (9, .bool fx), (10, .pointer (some ⟨p, 0, none⟩))]) (fun a w' => ListI w0 G0 p pb 109 [str [], .pointer none, .int .i32 0, .slice none 0 0, .map none] (elR 8 v fx 10 dOffsetFetchRequestGroup) (elQ true 8 10 dOffsetFetchRequestGroup) s20 n20 (decide (n20 ≤ 0)) ((p, ty, [] ++ [.int .i16 v, str u1, c4, .slice none 0 0, .bool false, .map none] ++ []) :: []) P18 a 0 w') ?_ ?_
      · refine cI (by rfl) (fun hps=>?_) (fun hps=>?_)
        · have hps : 0 < n20 := by have := of_decide_eq_true hps; omega
          ((conv=>whnf);repeat(first|(refine mvT ?_;conv=>whnf)|(refine mvF ?_;conv=>whnf)|(refine cT (by rfl) ?_;conv=>whnf)|(refine cF (by rfl) ?_;conv=>whnf)))
          refine H.grow hps hn20.2 (by decide) rfl rfl (by decide) ?_
          intro g cap post w hc1 hc2 H
          ((conv=>whnf);repeat(first|(refine mvT ?_;conv=>whnf)|(refine mvF ?_;conv=>whnf)|(refine cT (by rfl) ?_;conv=>whnf)|(refine cF (by rfl) ?_;conv=>whnf)))
          exact ⟨_, ⟨rfl, rfl, rfl, rfl, rfl, rfl, rfl, rfl, trivial⟩, ListI.some hps (decide_eq_false (by omega)) hc1 hc2 H⟩
        · have hps : n20 ≤ 0 := by have := of_decide_eq_false hps; omega
          ((conv=>whnf);repeat(first|(refine mvT ?_;conv=>whnf)|(refine mvF ?_;conv=>whnf)|(refine cT (by rfl) ?_;conv=>whnf)|(refine cF (by rfl) ?_;conv=>whnf)))
          exact ⟨_, ⟨rfl, rfl, rfl, rfl, rfl, rfl, rfl, rfl, trivial⟩, ListI.none hps (decide_eq_true hps) H⟩
      clear H
      rintro a20 w H
      ((conv=>whnf);repeat(first|(refine mvT ?_;conv=>whnf)|(refine mvF ?_;conv=>whnf)|(refine cT (by rfl) ?_;conv=>whnf)|(refine cF (by rfl) ?_;conv=>whnf)))
      have hpL20 : inL ((p, ty, [] ++ [.int .i16 v, str u1, c4, .slice none 0 0, .bool false, .map none] ++ []) :: []) p := inL.head _ _
      refine VL.loop (fun i : Nat => [(26, .int .i32 n20), (25, a20), (27, .int .i32 i), (0, .pointer (some ⟨p, 0, none⟩)), (2, .bool false), (7, .pointer (some ⟨pb, 0, none⟩)), (8, .int .i16 v), (9, .bool fx), (10, .pointer (some ⟨p, 0, none⟩))]) (fun i w' => i ≤ 2147483647 ∧ ListI w0 G0 p pb 109 [str [], .pointer none, .int .i32 0, .slice none 0 0, .map none] (elR 8 v fx 10 dOffsetFetchRequestGroup) (elQ true 8 10 dOffsetFetchRequestGroup) s20 n20 (decide (n20 ≤ 0)) ((p, ty, [] ++ [.int .i16 v, str u1, c4, .slice none 0 0, .bool false, .map none] ++ []) :: []) P18 a20 i w') (fun i => n20.toNat - i) 0 ⟨rfl, rfl, rfl, rfl, rfl, rfl, rfl, rfl, rfl, trivial⟩ ⟨by decide, H⟩ ?_
      clear H
      rintro i20 w ⟨hi20, H⟩
      ((conv=>whnf);repeat(first|(refine mvT ?_;conv=>whnf)|(refine mvF ?_;conv=>whnf)|(refine cT (by rfl) ?_;conv=>whnf)|(refine cF (by rfl) ?_;conv=>whnf)))
      refine cI (by rfl) (fun h9=>?_) (fun h9=>?_)
      · have hlt20 : (i20 : Int) < n20 := of_decide_eq_true h9
        obtain ⟨g20, cap20, post20, rfl, hgo20, HI⟩ := H.go hlt20
        obtain ⟨es20, ts20, si20, hes20, hez20, hrn20, hts20, hlen1, H⟩ := HI.open hgo20.2.2.2.2
        obtain ⟨L20, hL20⟩ : ∃ L : List Ob, L = ((p, ty, [] ++ [.int .i16 v, str u1, c4, .slice none 0 0, .bool false, .map none] ++ []) :: []) := ⟨_, rfl⟩
        rw [← hL20] at H hpL20
        obtain ⟨P20, hP20⟩ : ∃ P : World → Prop, P = fun w => (∀ (j : Nat) (c : List Value) (y : T), es20[j]? = some c → ts20[j]? = some y → elQ true 8 10 dOffsetFetchRequestGroup ⟨w, FG w0 G0⟩ c y) ∧ P18 w := ⟨_, rfl⟩
        rw [← hP20] at H
        replace H : St w0 G0 p pb si20 ((g20, 109, es20.flatten ++ [str [], .pointer none, .int .i32 0, .slice none 0 0, .map none] ++ ((List.replicate (n20.toNat - (i20 + 1)) [str [], .pointer none, .int .i32 0, .slice none 0 0, .map none]).flatten ++ post20)) :: L20) P20 w := H
        ((conv=>whnf);repeat(first|(refine mvT ?_;conv=>whnf)|(refine mvF ?_;conv=>whnf)|(refine cT (by rfl) ?_;conv=>whnf)|(refine cF (by rfl) ?_;conv=>whnf)))
        refine ⟨g20, 0, rfl, ⟨by omega, by omega⟩, ?_⟩
        ((conv=>whnf);repeat(first|(refine mvT ?_;conv=>whnf)|(refine mvF ?_;conv=>whnf)|(refine cT (by rfl) ?_;conv=>whnf)|(refine cF (by rfl) ?_;conv=>whnf)))
        refine Does.mono (dfOffsetFetchRequestGroup (pre := es20.flatten) (cur := [str [], .pointer none, .int .i32 0, .slice none 0 0, .map none]) (post := ((List.replicate (n20.toNat - (i20 + 1)) [str [], .pointer none, .int .i32 0, .slice none 0 0, .map none]).flatten ++ post20)) H.head (by first | (rw [hlen1]; simp; done) | (simp [hlen1]; done) | (simp [hlen1]; omega)) rfl) ?_
        rintro rd w2 ⟨hdf, hxd⟩
        replace H := H.put hdf hxd
        clear hdf hxd
        replace H : St w0 G0 p pb si20 ((g20, 109, es20.flatten ++ [str [], .pointer none, .int .i32 (-1), .slice none 0 0, .map none] ++ ((List.replicate (n20.toNat - (i20 + 1)) [str [], .pointer none, .int .i32 0, .slice none 0 0, .map none]).flatten ++ post20)) :: L20) P20 w2 := H
        ((conv=>whnf);repeat(first|(refine mvT ?_;conv=>whnf)|(refine mvF ?_;conv=>whnf)|(refine cT (by rfl) ?_;conv=>whnf)|(refine cF (by rfl) ?_;conv=>whnf)))
        have hup20 : tailBad 8 v fx dOffsetFetchRequestGroup dOffsetFetchRequestGroup si20 = true → (rdPart 9 v fx dOffsetFetchRequest (l, false)).2.2 = true := by
          intro hb
          refine hup0 ?_
          rw [tail_ver hr1 (by decide), tail_ver hr4 (by decide), tail_el ⟨by decide, hh⟩ hln20 hgo20.2.2.2.2 hrn20 ((tailBad_part _ _ _ _ _).symm.trans hb)]
        (refine mvB ?_;((conv=>whnf);repeat(first|(refine mvT ?_;conv=>whnf)|(refine mvF ?_;conv=>whnf)|(refine cT (by rfl) ?_;conv=>whnf)|(refine cF (by rfl) ?_;conv=>whnf))))
        refine VC.cutE (fun q : List UInt8 × Rd => [(30, str q.1), (0, .pointer (some ⟨p, 0, none⟩)), (2, .bool false), (7, .pointer (some ⟨pb, 0, none⟩)), (8, .int .i16 v), (9, .bool fx), (10, .pointer (some ⟨p, 0, none⟩)), (26, .int .i32 n20), (25, .slice (some ⟨g20, 0, none⟩) n20.toNat cap20), (27, .int .i32 i20), (28, .pointer (some ⟨g20, 0 + (i20 : Int).toNat * 5, none⟩)), (29, .pointer (some ⟨g20, 0 + (i20 : Int).toNat * 5, none⟩))]) (fun q w' => rdTx fx si20 = q ∧ St w0 G0 p pb q.2 ((g20, 109, es20.flatten ++ [str [], .pointer none, .int .i32 (-1), .slice none 0 0, .map none] ++ ((List.replicate (n20.toNat - (i20 + 1)) [str [], .pointer none, .int .i32 0, .slice none 0 0, .map none]).flatten ++ post20)) :: L20) P20 w') ?_ ?_
        · refine cI (by rfl) (fun hc=>?_) (fun hc=>?_)
          · ((conv=>whnf);repeat(first|(refine mvT ?_;conv=>whnf)|(refine mvF ?_;conv=>whnf)|(refine cT (by rfl) ?_;conv=>whnf)|(refine cF (by rfl) ?_;conv=>whnf)))
            refine Does.mono H.txc ?_
            rintro r w ⟨u, s', rfl, hr, H⟩
            ((conv=>whnf);repeat(first|(refine mvT ?_;conv=>whnf)|(refine mvF ?_;conv=>whnf)|(refine cT (by rfl) ?_;conv=>whnf)|(refine cF (by rfl) ?_;conv=>whnf)))
            exact ⟨(u, s'), ⟨rfl, rfl, rfl, rfl, rfl, rfl, rfl, rfl, rfl, rfl, rfl, rfl, trivial⟩, by rw [hc]; exact hr, H⟩
          · ((conv=>whnf);repeat(first|(refine mvT ?_;conv=>whnf)|(refine mvF ?_;conv=>whnf)|(refine cT (by rfl) ?_;conv=>whnf)|(refine cF (by rfl) ?_;conv=>whnf)))
            refine Does.mono H.txp ?_
            rintro r w ⟨u, s', rfl, hr, H⟩
            ((conv=>whnf);repeat(first|(refine mvT ?_;conv=>whnf)|(refine mvF ?_;conv=>whnf)|(refine cT (by rfl) ?_;conv=>whnf)|(refine cF (by rfl) ?_;conv=>whnf)))
            exact ⟨(u, s'), ⟨rfl, rfl, rfl, rfl, rfl, rfl, rfl, rfl, rfl, rfl, rfl, rfl, trivial⟩, by rw [hc]; exact hr, H⟩
        clear H
        rintro ⟨u21, s21⟩ w ⟨hr21, H⟩
        dsimp only at hr21 H
        ((conv=>whnf);repeat(first|(refine mvT ?_;conv=>whnf)|(refine mvF ?_;conv=>whnf)|(refine cT (by rfl) ?_;conv=>whnf)|(refine cF (by rfl) ?_;conv=>whnf)))
        refine H.st1 (v := str u21) 0 (rfl) (rfl) rfl (by first | omega | (simp [hlen1]; done) | (simp [hlen1]; omega)) rfl (Nat.lt_of_lt_of_le (Nat.lt_succ_self _) (Nat.le_of_ble_eq_true rfl)) ?_
        intro w H
        ((conv=>whnf);repeat(first|(refine mvT ?_;conv=>whnf)|(refine mvF ?_;conv=>whnf)|(refine cT (by rfl) ?_;conv=>whnf)|(refine cF (by rfl) ?_;conv=>whnf)))
        replace H : St w0 G0 p pb s21 ((g20, 109, es20.flatten ++ [str u21, .pointer none, .int .i32 (-1), .slice none 0 0, .map none] ++ ((List.replicate (n20.toNat - (i20 + 1)) [str [], .pointer none, .int .i32 0, .slice none 0 0, .map none]).flatten ++ post20)) :: L20) P20 w := H
        refine VC.cutE (fun q : Value × Bool × List UInt8 × Rd => [(0, .pointer (some ⟨p, 0, none⟩)), (2, .bool false), (7, .pointer (some ⟨pb, 0, none⟩)), (8, .int .i16 v), (9, .bool fx), (10, .pointer (some ⟨p, 0, none⟩)), (26, .int .i32 n20), (25, .slice (some ⟨g20, 0, none⟩) n20.toNat cap20), (27, .int .i32 i20), (28, .pointer (some ⟨g20, 0 + (i20 : Int).toNat * 5, none⟩)), (29, .pointer (some ⟨g20, 0 + (i20 : Int).toNat * 5, none⟩))]) (fun q w' => (q.2.1 = true → q.2.2.1 = []) ∧ (if hasF (.mk 8 9 (-1) 9 (-1) 0 0 []) v = true then rdField 8 v fx (.mk 8 9 (-1) 9 (-1) 0 0 []) s21 else (dfT 8 (.mk 8 9 (-1) 9 (-1) 0 0 []), s21)) = (.mk 0 q.2.2.1 q.2.1 [] [], q.2.2.2) ∧ St w0 G0 p pb q.2.2.2 ((g20, 109, es20.flatten ++ [str u21, q.1, .int .i32 (-1), .slice none 0 0, .map none] ++ ((List.replicate (n20.toNat - (i20 + 1)) [str [], .pointer none, .int .i32 0, .slice none 0 0, .map none]).flatten ++ post20)) :: L20) (fun w => NTf w0 G0 q.1 (.mk 0 q.2.2.1 q.2.1 [] []) w ∧ P20 w) w') ?_ ?_
        · refine cI (by rfl) (fun hcv=>?_) (fun hcv=>?_)
          · ((conv=>whnf);repeat(first|(refine mvT ?_;conv=>whnf)|(refine mvF ?_;conv=>whnf)|(refine cT (by rfl) ?_;conv=>whnf)|(refine cF (by rfl) ?_;conv=>whnf)))
            (refine mvB ?_;((conv=>whnf);repeat(first|(refine mvT ?_;conv=>whnf)|(refine mvF ?_;conv=>whnf)|(refine cT (by rfl) ?_;conv=>whnf)|(refine cF (by rfl) ?_;conv=>whnf))))
            refine VC.cutE (fun q : Value × Bool × List UInt8 × Rd => [(31, q.1), (0, .pointer (some ⟨p, 0, none⟩)), (2, .bool false), (7, .pointer (some ⟨pb, 0, none⟩)), (8, .int .i16 v), (9, .bool fx), (10, .pointer (some ⟨p, 0, none⟩)), (26, .int .i32 n20), (25, .slice (some ⟨g20, 0, none⟩) n20.toNat cap20), (27, .int .i32 i20), (28, .pointer (some ⟨g20, 0 + (i20 : Int).toNat * 5, none⟩)), (29, .pointer (some ⟨g20, 0 + (i20 : Int).toNat * 5, none⟩))]) (fun q w' => q.1.oneCell' = true ∧ (q.2.1 = true → q.2.2.1 = []) ∧ rdNt fx s21 = (.mk 0 q.2.2.1 q.2.1 [] [], q.2.2.2) ∧ St w0 G0 p pb q.2.2.2 ((g20, 109, es20.flatten ++ [str u21, .pointer none, .int .i32 (-1), .slice none 0 0, .map none] ++ ((List.replicate (n20.toNat - (i20 + 1)) [str [], .pointer none, .int .i32 0, .slice none 0 0, .map none]).flatten ++ post20)) :: L20) (fun w => NTf w0 G0 q.1 (.mk 0 q.2.2.1 q.2.1 [] []) w ∧ P20 w) w') ?_ ?_
            · refine cI (by rfl) (fun hc=>?_) (fun hc=>?_)
              · ((conv=>whnf);repeat(first|(refine mvT ?_;conv=>whnf)|(refine mvF ?_;conv=>whnf)|(refine cT (by rfl) ?_;conv=>whnf)|(refine cF (by rfl) ?_;conv=>whnf)))
                refine Does.mono H.ntc ?_
                rintro r w ⟨c, nl, u, s', rfl, hone, hnl, hr, H⟩
                ((conv=>whnf);repeat(first|(refine mvT ?_;conv=>whnf)|(refine mvF ?_;conv=>whnf)|(refine cT (by rfl) ?_;conv=>whnf)|(refine cF (by rfl) ?_;conv=>whnf)))
                exact ⟨(r, nl, u, s'), ⟨rfl, rfl, rfl, rfl, rfl, rfl, rfl, rfl, rfl, rfl, rfl, rfl, trivial⟩, hone, hnl, by rw [hc]; exact hr, H⟩
              · ((conv=>whnf);repeat(first|(refine mvT ?_;conv=>whnf)|(refine mvF ?_;conv=>whnf)|(refine cT (by rfl) ?_;conv=>whnf)|(refine cF (by rfl) ?_;conv=>whnf)))
                refine Does.mono H.ntp ?_
                rintro r w ⟨c, nl, u, s', rfl, hone, hnl, hr, H⟩
                ((conv=>whnf);repeat(first|(refine mvT ?_;conv=>whnf)|(refine mvF ?_;conv=>whnf)|(refine cT (by rfl) ?_;conv=>whnf)|(refine cF (by rfl) ?_;conv=>whnf)))
                exact ⟨(r, nl, u, s'), ⟨rfl, rfl, rfl, rfl, rfl, rfl, rfl, rfl, rfl, rfl, rfl, rfl, trivial⟩, hone, hnl, by rw [hc]; exact hr, H⟩
            clear H
            rintro ⟨c24, nl24, u24, s24⟩ w ⟨hone24, hnl24, hr24, H⟩
            dsimp only at hone24 hnl24 hr24 H
            ((conv=>whnf);repeat(first|(refine mvT ?_;conv=>whnf)|(refine mvF ?_;conv=>whnf)|(refine cT (by rfl) ?_;conv=>whnf)|(refine cF (by rfl) ?_;conv=>whnf)))
            obtain ⟨P25, hP25⟩ : ∃ P : World → Prop, P = fun w => NTf w0 G0 c24 (.mk 0 u24 nl24 [] []) w ∧ P20 w := ⟨_, rfl⟩
            replace H : St w0 G0 p pb s24 ((g20, 109, es20.flatten ++ [str u21, .pointer none, .int .i32 (-1), .slice none 0 0, .map none] ++ ((List.replicate (n20.toNat - (i20 + 1)) [str [], .pointer none, .int .i32 0, .slice none 0 0, .map none]).flatten ++ post20)) :: L20) P25 w := by rw [hP25]; exact H
            refine H.st1 (v := c24) 1 (cells_one hone24) (hone24) rfl (by first | omega | (simp [hlen1]; done) | (simp [hlen1]; omega)) rfl (Nat.lt_of_lt_of_le (Nat.lt_succ_self _) (Nat.le_of_ble_eq_true rfl)) ?_
            intro w H
            ((conv=>whnf);repeat(first|(refine mvT ?_;conv=>whnf)|(refine mvF ?_;conv=>whnf)|(refine cT (by rfl) ?_;conv=>whnf)|(refine cF (by rfl) ?_;conv=>whnf)))
            replace H : St w0 G0 p pb s24 ((g20, 109, es20.flatten ++ [str u21, c24, .int .i32 (-1), .slice none 0 0, .map none] ++ ((List.replicate (n20.toNat - (i20 + 1)) [str [], .pointer none, .int .i32 0, .slice none 0 0, .map none]).flatten ++ post20)) :: L20) P25 w := H
            have hh : hasF (.mk 8 9 (-1) 9 (-1) 0 0 []) v = true := by have := of_decide_eq_true hcv; rw [hasF_iff]; omega
            exact ⟨(c24, nl24, u24, s24), ⟨rfl, rfl, rfl, rfl, rfl, rfl, rfl, rfl, rfl, rfl, rfl, trivial⟩, hnl24, by rw [if_pos hh]; exact ((rdField8n (by decide)).trans hr24), by rw [hP25] at H; exact H⟩
          · ((conv=>whnf);repeat(first|(refine mvT ?_;conv=>whnf)|(refine mvF ?_;conv=>whnf)|(refine cT (by rfl) ?_;conv=>whnf)|(refine cF (by rfl) ?_;conv=>whnf)))
            have hh : ¬ hasF (.mk 8 9 (-1) 9 (-1) 0 0 []) v = true := by have := of_decide_eq_false hcv; rw [hasF_iff]; omega
            exact ⟨(.pointer none, true, [], s21), ⟨rfl, rfl, rfl, rfl, rfl, rfl, rfl, rfl, rfl, rfl, rfl, trivial⟩, fun _ => rfl, by rw [if_neg hh]; rfl, H.add fun w' _ => .inl ⟨rfl, rfl⟩⟩
        clear H
        rintro ⟨c23, nl23, u23, s23⟩ w ⟨hnl23, hr23, H⟩
        dsimp only at hnl23 hr23 H
        ((conv=>whnf);repeat(first|(refine mvT ?_;conv=>whnf)|(refine mvF ?_;conv=>whnf)|(refine cT (by rfl) ?_;conv=>whnf)|(refine cF (by rfl) ?_;conv=>whnf)))
        obtain ⟨P27, hP27⟩ : ∃ P : World → Prop, P = fun w => NTf w0 G0 c23 (.mk 0 u23 nl23 [] []) w ∧ P20 w := ⟨_, rfl⟩
        replace H : St w0 G0 p pb s23 ((g20, 109, es20.flatten ++ [str u21, c23, .int .i32 (-1), .slice none 0 0, .map none] ++ ((List.replicate (n20.toNat - (i20 + 1)) [str [], .pointer none, .int .i32 0, .slice none 0 0, .map none]).flatten ++ post20)) :: L20) P27 w := by rw [hP27]; exact H
        refine VC.cutE (fun q : Int × Rd => [(0, .pointer (some ⟨p, 0, none⟩)), (2, .bool false), (7, .pointer (some ⟨pb, 0, none⟩)), (8, .int .i16 v), (9, .bool fx), (10, .pointer (some ⟨p, 0, none⟩)), (26, .int .i32 n20), (25, .slice (some ⟨g20, 0, none⟩) n20.toNat cap20), (27, .int .i32 i20), (28, .pointer (some ⟨g20, 0 + (i20 : Int).toNat * 5, none⟩)), (29, .pointer (some ⟨g20, 0 + (i20 : Int).toNat * 5, none⟩))]) (fun q w' => IntKind.i32.wrap q.1 = q.1 ∧ (if hasF (.mk 3 9 (-1) (-1) (-1) (-1) 0 []) v = true then rdField 8 v fx (.mk 3 9 (-1) (-1) (-1) (-1) 0 []) s23 else (dfT 8 (.mk 3 9 (-1) (-1) (-1) (-1) 0 []), s23)) = (numT q.1, q.2) ∧ St w0 G0 p pb q.2 ((g20, 109, es20.flatten ++ [str u21, c23, .int .i32 q.1, .slice none 0 0, .map none] ++ ((List.replicate (n20.toNat - (i20 + 1)) [str [], .pointer none, .int .i32 0, .slice none 0 0, .map none]).flatten ++ post20)) :: L20) P27 w') ?_ ?_
        · refine cI (by rfl) (fun hcv=>?_) (fun hcv=>?_)
          · ((conv=>whnf);repeat(first|(refine mvT ?_;conv=>whnf)|(refine mvF ?_;conv=>whnf)|(refine cT (by rfl) ?_;conv=>whnf)|(refine cF (by rfl) ?_;conv=>whnf)))
            refine Does.mono H.int32 ?_
            rintro r w ⟨n29, s29, rfl, hn29, hr29, H⟩
            ((conv=>whnf);repeat(first|(refine mvT ?_;conv=>whnf)|(refine mvF ?_;conv=>whnf)|(refine cT (by rfl) ?_;conv=>whnf)|(refine cF (by rfl) ?_;conv=>whnf)))
            refine H.st1 (v := .int .i32 n29) 2 (rfl) (rfl) rfl (by first | omega | (simp [hlen1]; done) | (simp [hlen1]; omega)) rfl (Nat.lt_of_lt_of_le (Nat.lt_succ_self _) (Nat.le_of_ble_eq_true rfl)) ?_
            intro w H
            ((conv=>whnf);repeat(first|(refine mvT ?_;conv=>whnf)|(refine mvF ?_;conv=>whnf)|(refine cT (by rfl) ?_;conv=>whnf)|(refine cF (by rfl) ?_;conv=>whnf)))
            replace H : St w0 G0 p pb s29 ((g20, 109, es20.flatten ++ [str u21, c23, .int .i32 n29, .slice none 0 0, .map none] ++ ((List.replicate (n20.toNat - (i20 + 1)) [str [], .pointer none, .int .i32 0, .slice none 0 0, .map none]).flatten ++ post20)) :: L20) P27 w := H
            have hh : hasF (.mk 3 9 (-1) (-1) (-1) (-1) 0 []) v = true := by have := of_decide_eq_true hcv; rw [hasF_iff]; omega
            exact ⟨(n29, s29), ⟨rfl, rfl, rfl, rfl, rfl, rfl, rfl, rfl, rfl, rfl, rfl, trivial⟩, hn29, by rw [if_pos hh]; exact (rdField3.trans hr29), H⟩
          · ((conv=>whnf);repeat(first|(refine mvT ?_;conv=>whnf)|(refine mvF ?_;conv=>whnf)|(refine cT (by rfl) ?_;conv=>whnf)|(refine cF (by rfl) ?_;conv=>whnf)))
            have hh : ¬ hasF (.mk 3 9 (-1) (-1) (-1) (-1) 0 []) v = true := by have := of_decide_eq_false hcv; rw [hasF_iff]; omega
            exact ⟨((-1), s23), ⟨rfl, rfl, rfl, rfl, rfl, rfl, rfl, rfl, rfl, rfl, rfl, trivial⟩, rfl, by rw [if_neg hh]; rfl, H⟩
        clear H
        rintro ⟨n28, s28⟩ w ⟨hn28, hr28, H⟩
        dsimp only at hn28 hr28 H
        ((conv=>whnf);repeat(first|(refine mvT ?_;conv=>whnf)|(refine mvF ?_;conv=>whnf)|(refine cT (by rfl) ?_;conv=>whnf)|(refine cF (by rfl) ?_;conv=>whnf)))
        replace H : St w0 G0 p pb s28 ((g20, 109, es20.flatten ++ [str u21, c23, .int .i32 n28, .slice none 0 0, .map none] ++ ((List.replicate (n20.toNat - (i20 + 1)) [str [], .pointer none, .int .i32 0, .slice none 0 0, .map none]).flatten ++ post20)) :: L20) P27 w := H
        refine ⟨_, ld (H.cell rfl (k := 3) rfl) (by first | omega | (simp [hlen1]; done) | (simp [hlen1]; omega)), ?_⟩; ((conv=>whnf);repeat(first|(refine mvT ?_;conv=>whnf)|(refine mvF ?_;conv=>whnf)|(refine cT (by rfl) ?_;conv=>whnf)|(refine cF (by rfl) ?_;conv=>whnf)))
        (refine mvB ?_;((conv=>whnf);repeat(first|(refine mvT ?_;conv=>whnf)|(refine mvF ?_;conv=>whnf)|(refine cT (by rfl) ?_;conv=>whnf)|(refine cF (by rfl) ?_;conv=>whnf))))
        refine VC.cutE (fun q : Int × Rd => [(35, .int .i32 q.1), (34, .slice none 0 0), (0, .pointer (some ⟨p, 0, none⟩)), (2, .bool false), (7, .pointer (some ⟨pb, 0, none⟩)), (8, .int .i16 v), (9, .bool fx), (10, .pointer (some ⟨p, 0, none⟩)), (26, .int .i32 n20), (25, .slice (some ⟨g20, 0, none⟩) n20.toNat cap20), (27, .int .i32 i20), (28, .pointer (some ⟨g20, 0 + (i20 : Int).toNat * 5, none⟩)), (29, .pointer (some ⟨g20, 0 + (i20 : Int).toNat * 5, none⟩))]) (fun q w' => (-2147483648 ≤ q.1 ∧ q.1 ≤ 2147483647) ∧ rdLn fx s28 = q ∧ St w0 G0 p pb q.2 ((g20, 109, es20.flatten ++ [str u21, c23, .int .i32 n28, .slice none 0 0, .map none] ++ ((List.replicate (n20.toNat - (i20 + 1)) [str [], .pointer none, .int .i32 0, .slice none 0 0, .map none]).flatten ++ post20)) :: L20) P27 w') ?_ ?_
        · refine cI (by rfl) (fun hc=>?_) (fun hc=>?_)
          · ((conv=>whnf);repeat(first|(refine mvT ?_;conv=>whnf)|(refine mvF ?_;conv=>whnf)|(refine cT (by rfl) ?_;conv=>whnf)|(refine cF (by rfl) ?_;conv=>whnf)))
            refine Does.mono H.lnc ?_
            rintro r w ⟨n, s', rfl, hn, hr, H⟩
            ((conv=>whnf);repeat(first|(refine mvT ?_;conv=>whnf)|(refine mvF ?_;conv=>whnf)|(refine cT (by rfl) ?_;conv=>whnf)|(refine cF (by rfl) ?_;conv=>whnf)))
            exact ⟨(n, s'), ⟨rfl, rfl, rfl, rfl, rfl, rfl, rfl, rfl, rfl, rfl, rfl, rfl, rfl, trivial⟩, hn, by rw [hc]; exact hr, H⟩
          · ((conv=>whnf);repeat(first|(refine mvT ?_;conv=>whnf)|(refine mvF ?_;conv=>whnf)|(refine cT (by rfl) ?_;conv=>whnf)|(refine cF (by rfl) ?_;conv=>whnf)))
            refine Does.mono H.lnp ?_
            rintro r w ⟨n, s', rfl, hn, hr, H⟩
            ((conv=>whnf);repeat(first|(refine mvT ?_;conv=>whnf)|(refine mvF ?_;conv=>whnf)|(refine cT (by rfl) ?_;conv=>whnf)|(refine cF (by rfl) ?_;conv=>whnf)))
            exact ⟨(n, s'), ⟨rfl, rfl, rfl, rfl, rfl, rfl, rfl, rfl, rfl, rfl, rfl, rfl, rfl, trivial⟩, hn, by rw [hc]; exact hr, H⟩
        clear H
        rintro ⟨n31, s31⟩ w ⟨hn31, hln31, H⟩
        dsimp only at hn31 hln31 H
        ((conv=>whnf);repeat(first|(refine mvT ?_;conv=>whnf)|(refine mvF ?_;conv=>whnf)|(refine cT (by rfl) ?_;conv=>whnf)|(refine cF (by rfl) ?_;conv=>whnf)))
        intro cq hcq
        obtain rfl : cq = false := by rw [← hcq]; exact decide_eq_false (by omega)
        ((conv=>whnf);repeat(first|(refine mvT ?_;conv=>whnf)|(refine mvF ?_;conv=>whnf)|(refine cT (by rfl) ?_;conv=>whnf)|(refine cF (by rfl) ?_;conv=>whnf)))
        refine VC.cutE (fun a : Option Addr => [(35, .int .i32 n31), (34, .slice a 0 0), (0, .pointer (some ⟨p, 0, none⟩)), (2, .bool false), (7, .pointer (some ⟨pb, 0, none⟩)), (8, .int .i16 v), (9, .bool fx), (10, .pointer (some ⟨p, 0, none⟩)), (26, .int .i32 n20), (25, .slice (some ⟨g20, 0, none⟩) n20.toNat cap20), (27, .int .i32 i20), (28, .pointer (some ⟨g20, 0 + (i20 : Int).toNat * 5, none⟩)), (29, .pointer (some ⟨g20, 0 + (i20 : Int).toNat * 5, none⟩))]) (fun a w' => StE w0 G0 p pb s31 114 ((g20, 109, es20.flatten ++ [str u21, c23, .int .i32 n28, .slice none 0 0, .map none] ++ ((List.replicate (n20.toNat - (i20 + 1)) [str [], .pointer none, .int .i32 0, .slice none 0 0, .map none]).flatten ++ post20)) :: L20) P27 (v < 0 ∨ n31 = 0) a w') ?_ ?_
        · refine cI (by rfl) (fun hz=>?_) (fun hz=>?_)
          · have hz : n31 = 0 := by simpa using hz
            ((conv=>whnf);repeat(first|(refine mvT ?_;conv=>whnf)|(refine mvF ?_;conv=>whnf)|(refine cT (by rfl) ?_;conv=>whnf)|(refine cF (by rfl) ?_;conv=>whnf)))
            intro be we hbe hoe hxe
            ((conv=>whnf);repeat(first|(refine mvT ?_;conv=>whnf)|(refine mvF ?_;conv=>whnf)|(refine cT (by rfl) ?_;conv=>whnf)|(refine cF (by rfl) ?_;conv=>whnf)))
            exact ⟨_, ⟨rfl, rfl, rfl, rfl, rfl, rfl, rfl, rfl, rfl, rfl, rfl, rfl, rfl, trivial⟩, .inr ⟨.inr hz, be, rfl, H.push hxe hoe hbe⟩⟩
          · have hz : ¬ n31 = 0 := by simpa using hz
            ((conv=>whnf);repeat(first|(refine mvT ?_;conv=>whnf)|(refine mvF ?_;conv=>whnf)|(refine cT (by rfl) ?_;conv=>whnf)|(refine cF (by rfl) ?_;conv=>whnf)))
            exact ⟨_, ⟨rfl, rfl, rfl, rfl, rfl, rfl, rfl, rfl, rfl, rfl, rfl, rfl, rfl, trivial⟩, .inl ⟨by omega, rfl, H⟩⟩
        clear H
        rintro ae31 w H
        ((conv=>whnf);repeat(first|(refine mvT ?_;conv=>whnf)|(refine mvF ?_;conv=>whnf)|(refine cT (by rfl) ?_;conv=>whnf)|(refine cF (by rfl) ?_;conv=>whnf)))
        refine Does.mono H.ok ?_
        rintro r w ⟨rfl, H⟩
        ((conv=>whnf);repeat(first|(refine mvT ?_;conv=>whnf)|(refine mvF ?_;conv=>whnf)|(refine cT (by rfl) ?_;conv=>whnf)|(refine cF (by rfl) ?_;conv=>whnf)))
        refine cI (by rfl) (fun hbd=>?_) (fun hbd=>?_)
        · have hbd : s31.2 = true := by simpa using hbd
          ((conv=>whnf);repeat(first|(refine mvT ?_;conv=>whnf)|(refine mvF ?_;conv=>whnf)|(refine cT (by rfl) ?_;conv=>whnf)|(refine cF (by rfl) ?_;conv=>whnf)))
          refine Does.mono (H.done hL hp1) ?_
          rintro r w ⟨rfl, H⟩
          ((conv=>whnf);repeat(first|(refine mvT ?_;conv=>whnf)|(refine mvF ?_;conv=>whnf)|(refine cT (by rfl) ?_;conv=>whnf)|(refine cF (by rfl) ?_;conv=>whnf)))
          obtain ⟨_, H⟩ := H
          refine RdPost.early hbd (hup20 (?_)) H
          rw [tail_yes (rdField8 (by decide) hr21) ⟨by decide, has_all hv⟩, tail_ver hr23 (by decide), tail_ver hr28 (by decide), tail_len ⟨by decide, has_all hv⟩ hln31 hbd]
        have hbd : s31.2 = false := by simpa using hbd
        clear hbd
        ((conv=>whnf);repeat(first|(refine mvT ?_;conv=>whnf)|(refine mvF ?_;conv=>whnf)|(refine cT (by rfl) ?_;conv=>whnf)|(refine cF (by rfl) ?_;conv=>whnf)))
        refine cut_zero ?_
        ((conv=>whnf);repeat(first|(refine mvT ?_;conv=>whnf)|(refine mvF ?_;conv=>whnf)|(refine cT (by rfl) ?_;conv=>whnf)|(refine cF (by rfl) ?_;conv=>whnf)))
        refine VC.cutE (fun a : Value => [(35, .int .i32 n31), (34, a), (0, .pointer (some ⟨p, 0, none⟩)), (2, .bool false), (7, .pointer (some ⟨pb, 0, none⟩)), (8, .int .i16 v), (9, .bool fx), (10, .pointer (some ⟨p, 0, none⟩)), (26, .int .i32 n20), (25, .slice (some ⟨g20, 0, none⟩) n20.toNat cap20), (27, .int .i32 i20), (28, .pointer (some ⟨g20, 0 + (i20 : Int).toNat * 5, none⟩)), (29, .pointer (some ⟨g20, 0 + (i20 : Int).toNat * 5, none⟩))]) (fun a w' => ListI w0 G0 p pb 114 [str [], .int .u8 0, .int .u8 0, .int .u8 0, .int .u8 0, .int .u8 0, .int .u8 0, .int .u8 0, .int .u8 0, .int .u8 0, .int .u8 0, .int .u8 0, .int .u8 0, .int .u8 0, .int .u8 0, .int .u8 0, .int .u8 0, .slice none 0 0, .map none] (elR 7 v fx 10 dOffsetFetchRequestGroupTopic) (elQ true 7 10 dOffsetFetchRequestGroupTopic) s31 n31 (decide (n31 < 0)) ((g20, 109, es20.flatten ++ [str u21, c23, .int .i32 n28, .slice none 0 0, .map none] ++ ((List.replicate (n20.toNat - (i20 + 1)) [str [], .pointer none, .int .i32 0, .slice none 0 0, .map none]).flatten ++ post20)) :: L20) P27 a 0 w') ?_ ?_
        · refine cI (by rfl) (fun hps=>?_) (fun hps=>?_)
          · have hps : 0 < n31 := by have := of_decide_eq_true hps; omega
            ((conv=>whnf);repeat(first|(refine mvT ?_;conv=>whnf)|(refine mvF ?_;conv=>whnf)|(refine cT (by rfl) ?_;conv=>whnf)|(refine cF (by rfl) ?_;conv=>whnf)))
            refine H.grow hps hn31.2 (by decide) rfl rfl (by decide) ?_
            intro g cap post w hc1 hc2 H
            ((conv=>whnf);repeat(first|(refine mvT ?_;conv=>whnf)|(refine mvF ?_;conv=>whnf)|(refine cT (by rfl) ?_;conv=>whnf)|(refine cF (by rfl) ?_;conv=>whnf)))
            exact ⟨_, ⟨rfl, rfl, rfl, rfl, rfl, rfl, rfl, rfl, rfl, rfl, rfl, rfl, rfl, trivial⟩, ListI.some hps (by simp; omega) hc1 hc2 H⟩
          · have hps : n31 ≤ 0 := by have := of_decide_eq_false hps; omega
            ((conv=>whnf);repeat(first|(refine mvT ?_;conv=>whnf)|(refine mvF ?_;conv=>whnf)|(refine cT (by rfl) ?_;conv=>whnf)|(refine cF (by rfl) ?_;conv=>whnf)))
            exact ⟨_, ⟨rfl, rfl, rfl, rfl, rfl, rfl, rfl, rfl, rfl, rfl, rfl, rfl, rfl, trivial⟩, H.none hps (fun h => by rcases h with h | h <;> (simp; omega)) (fun h => by simp; omega)⟩
        clear H
        rintro a31 w H
        ((conv=>whnf);repeat(first|(refine mvT ?_;conv=>whnf)|(refine mvF ?_;conv=>whnf)|(refine cT (by rfl) ?_;conv=>whnf)|(refine cF (by rfl) ?_;conv=>whnf)))
        have hpL31 : inL ((g20, 109, es20.flatten ++ [str u21, c23, .int .i32 n28, .slice none 0 0, .map none] ++ ((List.replicate (n20.toNat - (i20 + 1)) [str [], .pointer none, .int .i32 0, .slice none 0 0, .map none]).flatten ++ post20)) :: L20) p := inL.tail hpL20
        refine VL.loop (fun i : Nat => [(35, .int .i32 n31), (34, a31), (36, .int .i32 i), (0, .pointer (some ⟨p, 0, none⟩)), (2, .bool false), (7, .pointer (some ⟨pb, 0, none⟩)), (8, .int .i16 v), (9, .bool fx), (10, .pointer (some ⟨p, 0, none⟩)), (26, .int .i32 n20), (25, .slice (some ⟨g20, 0, none⟩) n20.toNat cap20), (27, .int .i32 i20), (28, .pointer (some ⟨g20, 0 + (i20 : Int).toNat * 5, none⟩)), (29, .pointer (some ⟨g20, 0 + (i20 : Int).toNat * 5, none⟩))]) (fun i w' => i ≤ 2147483647 ∧ ListI w0 G0 p pb 114 [str [], .int .u8 0, .int .u8 0, .int .u8 0, .int .u8 0, .int .u8 0, .int .u8 0, .int .u8 0, .int .u8 0, .int .u8 0, .int .u8 0, .int .u8 0, .int .u8 0, .int .u8 0, .int .u8 0, .int .u8 0, .int .u8 0, .slice none 0 0, .map none] (elR 7 v fx 10 dOffsetFetchRequestGroupTopic) (elQ true 7 10 dOffsetFetchRequestGroupTopic) s31 n31 (decide (n31 < 0)) ((g20, 109, es20.flatten ++ [str u21, c23, .int .i32 n28, .slice none 0 0, .map none] ++ ((List.replicate (n20.toNat - (i20 + 1)) [str [], .pointer none, .int .i32 0, .slice none 0 0, .map none]).flatten ++ post20)) :: L20) P27 a31 i w') (fun i => n31.toNat - i) 0 ⟨rfl, rfl, rfl, rfl, rfl, rfl, rfl, rfl, rfl, rfl, rfl, rfl, rfl, rfl, trivial⟩ ⟨by decide, H⟩ ?_
        clear H
        rintro i31 w ⟨hi31, H⟩
        ((conv=>whnf);repeat(first|(refine mvT ?_;conv=>whnf)|(refine mvF ?_;conv=>whnf)|(refine cT (by rfl) ?_;conv=>whnf)|(refine cF (by rfl) ?_;conv=>whnf)))
        refine cI (by rfl) (fun h9=>?_) (fun h9=>?_)
        · have hlt31 : (i31 : Int) < n31 := of_decide_eq_true h9
          obtain ⟨g31, cap31, post31, rfl, hgo31, HI⟩ := H.go hlt31
          obtain ⟨es31, ts31, si31, hes31, hez31, hrn31, hts31, hlen2, H⟩ := HI.open hgo31.2.2.2.2
          obtain ⟨L31, hL31⟩ : ∃ L : List Ob, L = ((g20, 109, es20.flatten ++ [str u21, c23, .int .i32 n28, .slice none 0 0, .map none] ++ ((List.replicate (n20.toNat - (i20 + 1)) [str [], .pointer none, .int .i32 0, .slice none 0 0, .map none]).flatten ++ post20)) :: L20) := ⟨_, rfl⟩
          rw [← hL31] at H hpL31
          obtain ⟨P31, hP31⟩ : ∃ P : World → Prop, P = fun w => (∀ (j : Nat) (c : List Value) (y : T), es31[j]? = some c → ts31[j]? = some y → elQ true 7 10 dOffsetFetchRequestGroupTopic ⟨w, FG w0 G0⟩ c y) ∧ P27 w := ⟨_, rfl⟩
          rw [← hP31] at H
          replace H : St w0 G0 p pb si31 ((g31, 114, es31.flatten ++ [str [], .int .u8 0, .int .u8 0, .int .u8 0, .int .u8 0, .int .u8 0, .int .u8 0, .int .u8 0, .int .u8 0, .int .u8 0, .int .u8 0, .int .u8 0, .int .u8 0, .int .u8 0, .int .u8 0, .int .u8 0, .int .u8 0, .slice none 0 0, .map none] ++ ((List.replicate (n31.toNat - (i31 + 1)) [str [], .int .u8 0, .int .u8 0, .int .u8 0, .int .u8 0, .int .u8 0, .int .u8 0, .int .u8 0, .int .u8 0, .int .u8 0, .int .u8 0, .int .u8 0, .int .u8 0, .int .u8 0, .int .u8 0, .int .u8 0, .int .u8 0, .slice none 0 0, .map none]).flatten ++ post31)) :: L31) P31 w := H
          ((conv=>whnf);repeat(first|(refine mvT ?_;conv=>whnf)|(refine mvF ?_;conv=>whnf)|(refine cT (by rfl) ?_;conv=>whnf)|(refine cF (by rfl) ?_;conv=>whnf)))
          refine ⟨g31, 0, rfl, ⟨by omega, by omega⟩, ?_⟩
          ((conv=>whnf);repeat(first|(refine mvT ?_;conv=>whnf)|(refine mvF ?_;conv=>whnf)|(refine cT (by rfl) ?_;conv=>whnf)|(refine cF (by rfl) ?_;conv=>whnf)))
          refine Does.mono (dfOffsetFetchRequestGroupTopic (pre := es31.flatten) (cur := [str [], .int .u8 0, .int .u8 0, .int .u8 0, .int .u8 0, .int .u8 0, .int .u8 0, .int .u8 0, .int .u8 0, .int .u8 0, .int .u8 0, .int .u8 0, .int .u8 0, .int .u8 0, .int .u8 0, .int .u8 0, .int .u8 0, .slice none 0 0, .map none]) (post := ((List.replicate (n31.toNat - (i31 + 1)) [str [], .int .u8 0, .int .u8 0, .int .u8 0, .int .u8 0, .int .u8 0, .int .u8 0, .int .u8 0, .int .u8 0, .int .u8 0, .int .u8 0, .int .u8 0, .int .u8 0, .int .u8 0, .int .u8 0, .int .u8 0, .int .u8 0, .slice none 0 0, .map none]).flatten ++ post31)) H.head (by first | (rw [hlen2]; simp; done) | (simp [hlen2]; done) | (simp [hlen2]; omega)) rfl) ?_
          rintro rd w2 ⟨hdf, hxd⟩
          replace H := H.put hdf hxd
          clear hdf hxd
          replace H : St w0 G0 p pb si31 ((g31, 114, es31.flatten ++ [str [], .int .u8 0, .int .u8 0, .int .u8 0, .int .u8 0, .int .u8 0, .int .u8 0, .int .u8 0, .int .u8 0, .int .u8 0, .int .u8 0, .int .u8 0, .int .u8 0, .int .u8 0, .int .u8 0, .int .u8 0, .int .u8 0, .slice none 0 0, .map none] ++ ((List.replicate (n31.toNat - (i31 + 1)) [str [], .int .u8 0, .int .u8 0, .int .u8 0, .int .u8 0, .int .u8 0, .int .u8 0, .int .u8 0, .int .u8 0, .int .u8 0, .int .u8 0, .int .u8 0, .int .u8 0, .int .u8 0, .int .u8 0, .int .u8 0, .int .u8 0, .slice none 0 0, .map none]).flatten ++ post31)) :: L31) P31 w2 := H
          ((conv=>whnf);repeat(first|(refine mvT ?_;conv=>whnf)|(refine mvF ?_;conv=>whnf)|(refine cT (by rfl) ?_;conv=>whnf)|(refine cF (by rfl) ?_;conv=>whnf)))
          have hup31 : tailBad 7 v fx dOffsetFetchRequestGroupTopic dOffsetFetchRequestGroupTopic si31 = true → (rdPart 9 v fx dOffsetFetchRequest (l, false)).2.2 = true := by
            intro hb
            refine hup20 ?_
            rw [tail_yes (rdField8 (by decide) hr21) ⟨by decide, has_all hv⟩, tail_ver hr23 (by decide), tail_ver hr28 (by decide), tail_el ⟨by decide, has_all hv⟩ hln31 hgo31.2.2.2.2 hrn31 ((tailBad_part _ _ _ _ _).symm.trans hb)]
          apply mvG
          rotate_left
          · intro rest cq hcq
            cases cq
            · conv => whnf
              refine VC.cutE (fun q : List UInt8 × Rd => [(0, .pointer (some ⟨p, 0, none⟩)), (2, .bool false), (7, .pointer (some ⟨pb, 0, none⟩)), (8, .int .i16 v), (9, .bool fx), (10, .pointer (some ⟨p, 0, none⟩)), (26, .int .i32 n20), (25, .slice (some ⟨g20, 0, none⟩) n20.toNat cap20), (27, .int .i32 i20), (28, .pointer (some ⟨g20, 0 + (i20 : Int).toNat * 5, none⟩)), (29, .pointer (some ⟨g20, 0 + (i20 : Int).toNat * 5, none⟩)), (35, .int .i32 n31), (34, .slice (some ⟨g31, 0, none⟩) n31.toNat cap31), (36, .int .i32 i31), (37, .pointer (some ⟨g31, 0 + (i31 : Int).toNat * 19, none⟩)), (38, .pointer (some ⟨g31, 0 + (i31 : Int).toNat * 19, none⟩))]) (fun q w' => (if hasF (.mk 8 8 9 (-1) (-1) 0 0 []) v = true then rdField 7 v fx (.mk 8 8 9 (-1) (-1) 0 0 []) si31 else (dfT 7 (.mk 8 8 9 (-1) (-1) 0 0 []), si31)) = (.mk 0 q.1 false [] [], q.2) ∧ St w0 G0 p pb q.2 ((g31, 114, es31.flatten ++ [str q.1, .int .u8 0, .int .u8 0, .int .u8 0, .int .u8 0, .int .u8 0, .int .u8 0, .int .u8 0, .int .u8 0, .int .u8 0, .int .u8 0, .int .u8 0, .int .u8 0, .int .u8 0, .int .u8 0, .int .u8 0, .int .u8 0, .slice none 0 0, .map none] ++ ((List.replicate (n31.toNat - (i31 + 1)) [str [], .int .u8 0, .int .u8 0, .int .u8 0, .int .u8 0, .int .u8 0, .int .u8 0, .int .u8 0, .int .u8 0, .int .u8 0, .int .u8 0, .int .u8 0, .int .u8 0, .int .u8 0, .int .u8 0, .int .u8 0, .int .u8 0, .slice none 0 0, .map none]).flatten ++ post31)) :: L31) P31 w') ?_ rest
              ((conv=>whnf);repeat(first|(refine mvT ?_;conv=>whnf)|(refine mvF ?_;conv=>whnf)|(refine cT (by rfl) ?_;conv=>whnf)|(refine cF (by rfl) ?_;conv=>whnf)))
              have hh : ¬ hasF (.mk 8 8 9 (-1) (-1) 0 0 []) v = true := by have := of_decide_eq_false hcq; rw [hasF_iff]; omega
              exact ⟨([], si31), ⟨rfl, rfl, rfl, rfl, rfl, rfl, rfl, rfl, rfl, rfl, rfl, rfl, rfl, rfl, rfl, rfl, trivial⟩, by rw [if_neg hh]; rfl, H⟩
            · conv => whnf
              refine VC.cutE (fun q : List UInt8 × Rd => [(0, .pointer (some ⟨p, 0, none⟩)), (2, .bool false), (7, .pointer (some ⟨pb, 0, none⟩)), (8, .int .i16 v), (9, .bool fx), (10, .pointer (some ⟨p, 0, none⟩)), (26, .int .i32 n20), (25, .slice (some ⟨g20, 0, none⟩) n20.toNat cap20), (27, .int .i32 i20), (28, .pointer (some ⟨g20, 0 + (i20 : Int).toNat * 5, none⟩)), (29, .pointer (some ⟨g20, 0 + (i20 : Int).toNat * 5, none⟩)), (35, .int .i32 n31), (34, .slice (some ⟨g31, 0, none⟩) n31.toNat cap31), (36, .int .i32 i31), (37, .pointer (some ⟨g31, 0 + (i31 : Int).toNat * 19, none⟩)), (38, .pointer (some ⟨g31, 0 + (i31 : Int).toNat * 19, none⟩))]) (fun q w' => (if hasF (.mk 8 8 9 (-1) (-1) 0 0 []) v = true then rdField 7 v fx (.mk 8 8 9 (-1) (-1) 0 0 []) si31 else (dfT 7 (.mk 8 8 9 (-1) (-1) 0 0 []), si31)) = (.mk 0 q.1 false [] [], q.2) ∧ St w0 G0 p pb q.2 ((g31, 114, es31.flatten ++ [str q.1, .int .u8 0, .int .u8 0, .int .u8 0, .int .u8 0, .int .u8 0, .int .u8 0, .int .u8 0, .int .u8 0, .int .u8 0, .int .u8 0, .int .u8 0, .int .u8 0, .int .u8 0, .int .u8 0, .int .u8 0, .int .u8 0, .slice none 0 0, .map none] ++ ((List.replicate (n31.toNat - (i31 + 1)) [str [], .int .u8 0, .int .u8 0, .int .u8 0, .int .u8 0, .int .u8 0, .int .u8 0, .int .u8 0, .int .u8 0, .int .u8 0, .int .u8 0, .int .u8 0, .int .u8 0, .int .u8 0, .int .u8 0, .int .u8 0, .int .u8 0, .slice none 0 0, .map none]).flatten ++ post31)) :: L31) P31 w') ?_ rest
              refine cI (by rfl) (fun hcv=>?_) (fun hcv=>?_)
              · ((conv=>whnf);repeat(first|(refine mvT ?_;conv=>whnf)|(refine mvF ?_;conv=>whnf)|(refine cT (by rfl) ?_;conv=>whnf)|(refine cF (by rfl) ?_;conv=>whnf)))
                (refine mvB ?_;((conv=>whnf);repeat(first|(refine mvT ?_;conv=>whnf)|(refine mvF ?_;conv=>whnf)|(refine cT (by rfl) ?_;conv=>whnf)|(refine cF (by rfl) ?_;conv=>whnf))))
                refine VC.cutE (fun q : List UInt8 × Rd => [(39, str q.1), (0, .pointer (some ⟨p, 0, none⟩)), (2, .bool false), (7, .pointer (some ⟨pb, 0, none⟩)), (8, .int .i16 v), (9, .bool fx), (10, .pointer (some ⟨p, 0, none⟩)), (26, .int .i32 n20), (25, .slice (some ⟨g20, 0, none⟩) n20.toNat cap20), (27, .int .i32 i20), (28, .pointer (some ⟨g20, 0 + (i20 : Int).toNat * 5, none⟩)), (29, .pointer (some ⟨g20, 0 + (i20 : Int).toNat * 5, none⟩)), (35, .int .i32 n31), (34, .slice (some ⟨g31, 0, none⟩) n31.toNat cap31), (36, .int .i32 i31), (37, .pointer (some ⟨g31, 0 + (i31 : Int).toNat * 19, none⟩)), (38, .pointer (some ⟨g31, 0 + (i31 : Int).toNat * 19, none⟩))]) (fun q w' => rdTx fx si31 = q ∧ St w0 G0 p pb q.2 ((g31, 114, es31.flatten ++ [str [], .int .u8 0, .int .u8 0, .int .u8 0, .int .u8 0, .int .u8 0, .int .u8 0, .int .u8 0, .int .u8 0, .int .u8 0, .int .u8 0, .int .u8 0, .int .u8 0, .int .u8 0, .int .u8 0, .int .u8 0, .int .u8 0, .slice none 0 0, .map none] ++ ((List.replicate (n31.toNat - (i31 + 1)) [str [], .int .u8 0, .int .u8 0, .int .u8 0, .int .u8 0, .int .u8 0, .int .u8 0, .int .u8 0, .int .u8 0, .int .u8 0, .int .u8 0, .int .u8 0, .int .u8 0, .int .u8 0, .int .u8 0, .int .u8 0, .int .u8 0, .slice none 0 0, .map none]).flatten ++ post31)) :: L31) P31 w') ?_ ?_
                · refine cI (by rfl) (fun hc=>?_) (fun hc=>?_)
                  · ((conv=>whnf);repeat(first|(refine mvT ?_;conv=>whnf)|(refine mvF ?_;conv=>whnf)|(refine cT (by rfl) ?_;conv=>whnf)|(refine cF (by rfl) ?_;conv=>whnf)))
                    refine Does.mono H.txc ?_
                    rintro r w ⟨u, s', rfl, hr, H⟩
                    ((conv=>whnf);repeat(first|(refine mvT ?_;conv=>whnf)|(refine mvF ?_;conv=>whnf)|(refine cT (by rfl) ?_;conv=>whnf)|(refine cF (by rfl) ?_;conv=>whnf)))
                    exact ⟨(u, s'), ⟨rfl, rfl, rfl, rfl, rfl, rfl, rfl, rfl, rfl, rfl, rfl, rfl, rfl, rfl, rfl, rfl, rfl, trivial⟩, by rw [hc]; exact hr, H⟩
                  · ((conv=>whnf);repeat(first|(refine mvT ?_;conv=>whnf)|(refine mvF ?_;conv=>whnf)|(refine cT (by rfl) ?_;conv=>whnf)|(refine cF (by rfl) ?_;conv=>whnf)))
                    refine Does.mono H.txp ?_
                    rintro r w ⟨u, s', rfl, hr, H⟩
                    ((conv=>whnf);repeat(first|(refine mvT ?_;conv=>whnf)|(refine mvF ?_;conv=>whnf)|(refine cT (by rfl) ?_;conv=>whnf)|(refine cF (by rfl) ?_;conv=>whnf)))
                    exact ⟨(u, s'), ⟨rfl, rfl, rfl, rfl, rfl, rfl, rfl, rfl, rfl, rfl, rfl, rfl, rfl, rfl, rfl, rfl, rfl, trivial⟩, by rw [hc]; exact hr, H⟩
                clear H
                rintro ⟨u33, s33⟩ w ⟨hr33, H⟩
                dsimp only at hr33 H
                ((conv=>whnf);repeat(first|(refine mvT ?_;conv=>whnf)|(refine mvF ?_;conv=>whnf)|(refine cT (by rfl) ?_;conv=>whnf)|(refine cF (by rfl) ?_;conv=>whnf)))
                refine H.st1 (v := str u33) 0 (rfl) (rfl) rfl (by first | omega | (simp [hlen2]; done) | (simp [hlen2]; omega)) rfl (Nat.lt_of_lt_of_le (Nat.lt_succ_self _) (Nat.le_of_ble_eq_true rfl)) ?_
                intro w H
                ((conv=>whnf);repeat(first|(refine mvT ?_;conv=>whnf)|(refine mvF ?_;conv=>whnf)|(refine cT (by rfl) ?_;conv=>whnf)|(refine cF (by rfl) ?_;conv=>whnf)))
                replace H : St w0 G0 p pb s33 ((g31, 114, es31.flatten ++ [str u33, .int .u8 0, .int .u8 0, .int .u8 0, .int .u8 0, .int .u8 0, .int .u8 0, .int .u8 0, .int .u8 0, .int .u8 0, .int .u8 0, .int .u8 0, .int .u8 0, .int .u8 0, .int .u8 0, .int .u8 0, .int .u8 0, .slice none 0 0, .map none] ++ ((List.replicate (n31.toNat - (i31 + 1)) [str [], .int .u8 0, .int .u8 0, .int .u8 0, .int .u8 0, .int .u8 0, .int .u8 0, .int .u8 0, .int .u8 0, .int .u8 0, .int .u8 0, .int .u8 0, .int .u8 0, .int .u8 0, .int .u8 0, .int .u8 0, .int .u8 0, .slice none 0 0, .map none]).flatten ++ post31)) :: L31) P31 w := H
                have hh : hasF (.mk 8 8 9 (-1) (-1) 0 0 []) v = true := by have := of_decide_eq_true hcv; have := of_decide_eq_true hcq; rw [hasF_iff]; omega
                exact ⟨(u33, s33), ⟨rfl, rfl, rfl, rfl, rfl, rfl, rfl, rfl, rfl, rfl, rfl, rfl, rfl, rfl, rfl, rfl, trivial⟩, by rw [if_pos hh]; exact (rdField8 (by decide) hr33), H⟩
              · ((conv=>whnf);repeat(first|(refine mvT ?_;conv=>whnf)|(refine mvF ?_;conv=>whnf)|(refine cT (by rfl) ?_;conv=>whnf)|(refine cF (by rfl) ?_;conv=>whnf)))
                have hh : ¬ hasF (.mk 8 8 9 (-1) (-1) 0 0 []) v = true := by have := of_decide_eq_false hcv; rw [hasF_iff]; omega
                exact ⟨([], si31), ⟨rfl, rfl, rfl, rfl, rfl, rfl, rfl, rfl, rfl, rfl, rfl, rfl, rfl, rfl, rfl, rfl, trivial⟩, by rw [if_neg hh]; rfl, H⟩
          clear H
          rintro ⟨u32, s32⟩ w ⟨hr32, H⟩
          dsimp only at hr32 H
          ((conv=>whnf);repeat(first|(refine mvT ?_;conv=>whnf)|(refine mvF ?_;conv=>whnf)|(refine cT (by rfl) ?_;conv=>whnf)|(refine cF (by rfl) ?_;conv=>whnf)))
          replace H : St w0 G0 p pb s32 ((g31, 114, es31.flatten ++ [str u32, .int .u8 0, .int .u8 0, .int .u8 0, .int .u8 0, .int .u8 0, .int .u8 0, .int .u8 0, .int .u8 0, .int .u8 0, .int .u8 0, .int .u8 0, .int .u8 0, .int .u8 0, .int .u8 0, .int .u8 0, .int .u8 0, .slice none 0 0, .map none] ++ ((List.replicate (n31.toNat - (i31 + 1)) [str [], .int .u8 0, .int .u8 0, .int .u8 0, .int .u8 0, .int .u8 0, .int .u8 0, .int .u8 0, .int .u8 0, .int .u8 0, .int .u8 0, .int .u8 0, .int .u8 0, .int .u8 0, .int .u8 0, .int .u8 0, .int .u8 0, .slice none 0 0, .map none]).flatten ++ post31)) :: L31) P31 w := H
          refine VC.cutE (fun q : List UInt8 × Rd => [(0, .pointer (some ⟨p, 0, none⟩)), (2, .bool false), (7, .pointer (some ⟨pb, 0, none⟩)), (8, .int .i16 v), (9, .bool fx), (10, .pointer (some ⟨p, 0, none⟩)), (26, .int .i32 n20), (25, .slice (some ⟨g20, 0, none⟩) n20.toNat cap20), (27, .int .i32 i20), (28, .pointer (some ⟨g20, 0 + (i20 : Int).toNat * 5, none⟩)), (29, .pointer (some ⟨g20, 0 + (i20 : Int).toNat * 5, none⟩)), (35, .int .i32 n31), (34, .slice (some ⟨g31, 0, none⟩) n31.toNat cap31), (36, .int .i32 i31), (37, .pointer (some ⟨g31, 0 + (i31 : Int).toNat * 19, none⟩)), (38, .pointer (some ⟨g31, 0 + (i31 : Int).toNat * 19, none⟩))]) (fun q w' => q.1.length = 16 ∧ (if hasF (.mk 7 10 (-1) (-1) (-1) 0 0 []) v = true then rdField 7 v fx (.mk 7 10 (-1) (-1) (-1) 0 0 []) s32 else (dfT 7 (.mk 7 10 (-1) (-1) (-1) 0 0 []), s32)) = (.mk 0 q.1 false [] [], q.2) ∧ St w0 G0 p pb q.2 ((g31, 114, es31.flatten ++ ([str u32] ++ (q.1.map bcell ++ [.slice none 0 0, .map none])) ++ ((List.replicate (n31.toNat - (i31 + 1)) [str [], .int .u8 0, .int .u8 0, .int .u8 0, .int .u8 0, .int .u8 0, .int .u8 0, .int .u8 0, .int .u8 0, .int .u8 0, .int .u8 0, .int .u8 0, .int .u8 0, .int .u8 0, .int .u8 0, .int .u8 0, .int .u8 0, .slice none 0 0, .map none]).flatten ++ post31)) :: L31) P31 w') ?_ ?_
          · refine cI (by rfl) (fun hcv=>?_) (fun hcv=>?_)
            · ((conv=>whnf);repeat(first|(refine mvT ?_;conv=>whnf)|(refine mvF ?_;conv=>whnf)|(refine cT (by rfl) ?_;conv=>whnf)|(refine cF (by rfl) ?_;conv=>whnf)))
              refine Does.mono H.uuid ?_
              rintro r w ⟨u36, s36, rfl, hu36, hr36, H⟩
              ((conv=>whnf);repeat(first|(refine mvT ?_;conv=>whnf)|(refine mvF ?_;conv=>whnf)|(refine cT (by rfl) ?_;conv=>whnf)|(refine cF (by rfl) ?_;conv=>whnf)))
              obtain ⟨u36_0, u36_1, u36_2, u36_3, u36_4, u36_5, u36_6, u36_7, u36_8, u36_9, u36_10, u36_11, u36_12, u36_13, u36_14, u36_15, rfl⟩ : ∃ u36_0 u36_1 u36_2 u36_3 u36_4 u36_5 u36_6 u36_7 u36_8 u36_9 u36_10 u36_11 u36_12 u36_13 u36_14 u36_15, u36 = [u36_0, u36_1, u36_2, u36_3, u36_4, u36_5, u36_6, u36_7, u36_8, u36_9, u36_10, u36_11, u36_12, u36_13, u36_14, u36_15] := by
                match u36, hu36 with
                | [u36_0, u36_1, u36_2, u36_3, u36_4, u36_5, u36_6, u36_7, u36_8, u36_9, u36_10, u36_11, u36_12, u36_13, u36_14, u36_15], _ => exact ⟨u36_0, u36_1, u36_2, u36_3, u36_4, u36_5, u36_6, u36_7, u36_8, u36_9, u36_10, u36_11, u36_12, u36_13, u36_14, u36_15, rfl⟩
              intro bu wu hbu hou hxu
              ((conv=>whnf);repeat(first|(refine mvT ?_;conv=>whnf)|(refine mvF ?_;conv=>whnf)|(refine cT (by rfl) ?_;conv=>whnf)|(refine cF (by rfl) ?_;conv=>whnf)))
              refine st_all [bcell u36_0, bcell u36_1, bcell u36_2, bcell u36_3, bcell u36_4, bcell u36_5, bcell u36_6, bcell u36_7, bcell u36_8, bcell u36_9, bcell u36_10, bcell u36_11, bcell u36_12, bcell u36_13, bcell u36_14, bcell u36_15] hou rfl rfl rfl ?_
              intro w2 hou hxs
              ((conv=>whnf);repeat(first|(refine mvT ?_;conv=>whnf)|(refine mvF ?_;conv=>whnf)|(refine cT (by rfl) ?_;conv=>whnf)|(refine cF (by rfl) ?_;conv=>whnf)))
              replace H := H.e0 (hxu.trans hxs (M := nob) fun k hk e => by omega)
              refine ⟨_, rfl, hou.cells, ?_⟩
              ((conv=>whnf);repeat(first|(refine mvT ?_;conv=>whnf)|(refine mvF ?_;conv=>whnf)|(refine cT (by rfl) ?_;conv=>whnf)|(refine cF (by rfl) ?_;conv=>whnf)))
              refine H.stn [bcell u36_0, bcell u36_1, bcell u36_2, bcell u36_3, bcell u36_4, bcell u36_5, bcell u36_6, bcell u36_7, bcell u36_8, bcell u36_9, bcell u36_10, bcell u36_11, bcell u36_12, bcell u36_13, bcell u36_14, bcell u36_15] 1 rfl rfl rfl (by first | omega | (simp [hlen2]; done) | (simp [hlen2]; omega)) rfl (Nat.le_of_ble_eq_true rfl) ?_
              intro w H
              ((conv=>whnf);repeat(first|(refine mvT ?_;conv=>whnf)|(refine mvF ?_;conv=>whnf)|(refine cT (by rfl) ?_;conv=>whnf)|(refine cF (by rfl) ?_;conv=>whnf)))
              replace H : St w0 G0 p pb s36 ((g31, 114, es31.flatten ++ [str u32, bcell u36_0, bcell u36_1, bcell u36_2, bcell u36_3, bcell u36_4, bcell u36_5, bcell u36_6, bcell u36_7, bcell u36_8, bcell u36_9, bcell u36_10, bcell u36_11, bcell u36_12, bcell u36_13, bcell u36_14, bcell u36_15, .slice none 0 0, .map none] ++ ((List.replicate (n31.toNat - (i31 + 1)) [str [], .int .u8 0, .int .u8 0, .int .u8 0, .int .u8 0, .int .u8 0, .int .u8 0, .int .u8 0, .int .u8 0, .int .u8 0, .int .u8 0, .int .u8 0, .int .u8 0, .int .u8 0, .int .u8 0, .int .u8 0, .int .u8 0, .slice none 0 0, .map none]).flatten ++ post31)) :: L31) P31 w := H
              have hh : hasF (.mk 7 10 (-1) (-1) (-1) 0 0 []) v = true := by have := of_decide_eq_true hcv; rw [hasF_iff]; omega
              exact ⟨([u36_0, u36_1, u36_2, u36_3, u36_4, u36_5, u36_6, u36_7, u36_8, u36_9, u36_10, u36_11, u36_12, u36_13, u36_14, u36_15], s36), ⟨rfl, rfl, rfl, rfl, rfl, rfl, rfl, rfl, rfl, rfl, rfl, rfl, rfl, rfl, rfl, rfl, trivial⟩, rfl, by rw [if_pos hh]; exact (rdField7.trans hr36), H⟩
            · ((conv=>whnf);repeat(first|(refine mvT ?_;conv=>whnf)|(refine mvF ?_;conv=>whnf)|(refine cT (by rfl) ?_;conv=>whnf)|(refine cF (by rfl) ?_;conv=>whnf)))
              have hh : ¬ hasF (.mk 7 10 (-1) (-1) (-1) 0 0 []) v = true := by have := of_decide_eq_false hcv; rw [hasF_iff]; omega
              exact ⟨(List.replicate 16 0, s32), ⟨rfl, rfl, rfl, rfl, rfl, rfl, rfl, rfl, rfl, rfl, rfl, rfl, rfl, rfl, rfl, rfl, trivial⟩, rfl, by rw [if_neg hh]; rfl, H⟩
          clear H
          rintro ⟨u35, s35⟩ w ⟨hu35, hr35, H⟩
          dsimp only at hu35 hr35 H
          obtain ⟨u35_0, u35_1, u35_2, u35_3, u35_4, u35_5, u35_6, u35_7, u35_8, u35_9, u35_10, u35_11, u35_12, u35_13, u35_14, u35_15, rfl⟩ : ∃ u35_0 u35_1 u35_2 u35_3 u35_4 u35_5 u35_6 u35_7 u35_8 u35_9 u35_10 u35_11 u35_12 u35_13 u35_14 u35_15, u35 = [u35_0, u35_1, u35_2, u35_3, u35_4, u35_5, u35_6, u35_7, u35_8, u35_9, u35_10, u35_11, u35_12, u35_13, u35_14, u35_15] := by
            match u35, hu35 with
            | [u35_0, u35_1, u35_2, u35_3, u35_4, u35_5, u35_6, u35_7, u35_8, u35_9, u35_10, u35_11, u35_12, u35_13, u35_14, u35_15], _ => exact ⟨u35_0, u35_1, u35_2, u35_3, u35_4, u35_5, u35_6, u35_7, u35_8, u35_9, u35_10, u35_11, u35_12, u35_13, u35_14, u35_15, rfl⟩
          ((conv=>whnf);repeat(first|(refine mvT ?_;conv=>whnf)|(refine mvF ?_;conv=>whnf)|(refine cT (by rfl) ?_;conv=>whnf)|(refine cF (by rfl) ?_;conv=>whnf)))
          replace H : St w0 G0 p pb s35 ((g31, 114, es31.flatten ++ [str u32, bcell u35_0, bcell u35_1, bcell u35_2, bcell u35_3, bcell u35_4, bcell u35_5, bcell u35_6, bcell u35_7, bcell u35_8, bcell u35_9, bcell u35_10, bcell u35_11, bcell u35_12, bcell u35_13, bcell u35_14, bcell u35_15, .slice none 0 0, .map none] ++ ((List.replicate (n31.toNat - (i31 + 1)) [str [], .int .u8 0, .int .u8 0, .int .u8 0, .int .u8 0, .int .u8 0, .int .u8 0, .int .u8 0, .int .u8 0, .int .u8 0, .int .u8 0, .int .u8 0, .int .u8 0, .int .u8 0, .int .u8 0, .int .u8 0, .int .u8 0, .slice none 0 0, .map none]).flatten ++ post31)) :: L31) P31 w := H
          refine ⟨_, ld (H.cell rfl (k := 17) rfl) (by first | omega | (simp [hlen2]; done) | (simp [hlen2]; omega)), ?_⟩; ((conv=>whnf);repeat(first|(refine mvT ?_;conv=>whnf)|(refine mvF ?_;conv=>whnf)|(refine cT (by rfl) ?_;conv=>whnf)|(refine cF (by rfl) ?_;conv=>whnf)))
          (refine mvB ?_;((conv=>whnf);repeat(first|(refine mvT ?_;conv=>whnf)|(refine mvF ?_;conv=>whnf)|(refine cT (by rfl) ?_;conv=>whnf)|(refine cF (by rfl) ?_;conv=>whnf))))
          refine VC.cutE (fun q : Int × Rd => [(43, .int .i32 q.1), (42, .slice none 0 0), (0, .pointer (some ⟨p, 0, none⟩)), (2, .bool false), (7, .pointer (some ⟨pb, 0, none⟩)), (8, .int .i16 v), (9, .bool fx), (10, .pointer (some ⟨p, 0, none⟩)), (26, .int .i32 n20), (25, .slice (some ⟨g20, 0, none⟩) n20.toNat cap20), (27, .int .i32 i20), (28, .pointer (some ⟨g20, 0 + (i20 : Int).toNat * 5, none⟩)), (29, .pointer (some ⟨g20, 0 + (i20 : Int).toNat * 5, none⟩)), (35, .int .i32 n31), (34, .slice (some ⟨g31, 0, none⟩) n31.toNat cap31), (36, .int .i32 i31), (37, .pointer (some ⟨g31, 0 + (i31 : Int).toNat * 19, none⟩)), (38, .pointer (some ⟨g31, 0 + (i31 : Int).toNat * 19, none⟩))]) (fun q w' => (-2147483648 ≤ q.1 ∧ q.1 ≤ 2147483647) ∧ rdLn fx s35 = q ∧ St w0 G0 p pb q.2 ((g31, 114, es31.flatten ++ [str u32, bcell u35_0, bcell u35_1, bcell u35_2, bcell u35_3, bcell u35_4, bcell u35_5, bcell u35_6, bcell u35_7, bcell u35_8, bcell u35_9, bcell u35_10, bcell u35_11, bcell u35_12, bcell u35_13, bcell u35_14, bcell u35_15, .slice none 0 0, .map none] ++ ((List.replicate (n31.toNat - (i31 + 1)) [str [], .int .u8 0, .int .u8 0, .int .u8 0, .int .u8 0, .int .u8 0, .int .u8 0, .int .u8 0, .int .u8 0, .int .u8 0, .int .u8 0, .int .u8 0, .int .u8 0, .int .u8 0, .int .u8 0, .int .u8 0, .int .u8 0, .slice none 0 0, .map none]).flatten ++ post31)) :: L31) P31 w') ?_ ?_
          · refine cI (by rfl) (fun hc=>?_) (fun hc=>?_)
            · ((conv=>whnf);repeat(first|(refine mvT ?_;conv=>whnf)|(refine mvF ?_;conv=>whnf)|(refine cT (by rfl) ?_;conv=>whnf)|(refine cF (by rfl) ?_;conv=>whnf)))
              refine Does.mono H.lnc ?_
              rintro r w ⟨n, s', rfl, hn, hr, H⟩
              ((conv=>whnf);repeat(first|(refine mvT ?_;conv=>whnf)|(refine mvF ?_;conv=>whnf)|(refine cT (by rfl) ?_;conv=>whnf)|(refine cF (by rfl) ?_;conv=>whnf)))
              exact ⟨(n, s'), ⟨rfl, rfl, rfl, rfl, rfl, rfl, rfl, rfl, rfl, rfl, rfl, rfl, rfl, rfl, rfl, rfl, rfl, rfl, trivial⟩, hn, by rw [hc]; exact hr, H⟩
            · ((conv=>whnf);repeat(first|(refine mvT ?_;conv=>whnf)|(refine mvF ?_;conv=>whnf)|(refine cT (by rfl) ?_;conv=>whnf)|(refine cF (by rfl) ?_;conv=>whnf)))
              refine Does.mono H.lnp ?_
              rintro r w ⟨n, s', rfl, hn, hr, H⟩
              ((conv=>whnf);repeat(first|(refine mvT ?_;conv=>whnf)|(refine mvF ?_;conv=>whnf)|(refine cT (by rfl) ?_;conv=>whnf)|(refine cF (by rfl) ?_;conv=>whnf)))
              exact ⟨(n, s'), ⟨rfl, rfl, rfl, rfl, rfl, rfl, rfl, rfl, rfl, rfl, rfl, rfl, rfl, rfl, rfl, rfl, rfl, rfl, trivial⟩, hn, by rw [hc]; exact hr, H⟩
          clear H
          rintro ⟨n39, s39⟩ w ⟨hn39, hln39, H⟩
          dsimp only at hn39 hln39 H
          ((conv=>whnf);repeat(first|(refine mvT ?_;conv=>whnf)|(refine mvF ?_;conv=>whnf)|(refine cT (by rfl) ?_;conv=>whnf)|(refine cF (by rfl) ?_;conv=>whnf)))
          refine Does.mono H.ok ?_
          rintro r w ⟨rfl, H⟩
          ((conv=>whnf);repeat(first|(refine mvT ?_;conv=>whnf)|(refine mvF ?_;conv=>whnf)|(refine cT (by rfl) ?_;conv=>whnf)|(refine cF (by rfl) ?_;conv=>whnf)))
          refine cI (by rfl) (fun hbd=>?_) (fun hbd=>?_)
          · have hbd : s39.2 = true := by simpa using hbd
            ((conv=>whnf);repeat(first|(refine mvT ?_;conv=>whnf)|(refine mvF ?_;conv=>whnf)|(refine cT (by rfl) ?_;conv=>whnf)|(refine cF (by rfl) ?_;conv=>whnf)))
            refine Does.mono (H.done hL hp1) ?_
            rintro r w ⟨rfl, H⟩
            ((conv=>whnf);repeat(first|(refine mvT ?_;conv=>whnf)|(refine mvF ?_;conv=>whnf)|(refine cT (by rfl) ?_;conv=>whnf)|(refine cF (by rfl) ?_;conv=>whnf)))
            refine RdPost.early hbd (hup31 (?_)) H
            rw [tail_ver hr32 (by decide), tail_ver hr35 (by decide), tail_len ⟨by decide, has_all hv⟩ hln39 hbd]
          have hbd : s39.2 = false := by simpa using hbd
          clear hbd
          ((conv=>whnf);repeat(first|(refine mvT ?_;conv=>whnf)|(refine mvF ?_;conv=>whnf)|(refine cT (by rfl) ?_;conv=>whnf)|(refine cF (by rfl) ?_;conv=>whnf)))
          refine cut_zero ?_
          ((conv=>whnf);repeat(first|(refine mvT ?_;conv=>whnf)|(refine mvF ?_;conv=>whnf)|(refine cT (by rfl) ?_;conv=>whnf)|(refine cF (by rfl) ?_;conv=>whnf)))
          refine VC.cutE (fun a : Value => [(43, .int .i32 n39), (42, a), (0, .pointer (some ⟨p, 0, none⟩)), (2, .bool false), (7, .pointer (some ⟨pb, 0, none⟩)), (8, .int .i16 v), (9, .bool fx), (10, .pointer (some ⟨p, 0, none⟩)), (26, .int .i32 n20), (25, .slice (some ⟨g20, 0, none⟩) n20.toNat cap20), (27, .int .i32 i20), (28, .pointer (some ⟨g20, 0 + (i20 : Int).toNat * 5, none⟩)), (29, .pointer (some ⟨g20, 0 + (i20 : Int).toNat * 5, none⟩)), (35, .int .i32 n31), (34, .slice (some ⟨g31, 0, none⟩) n31.toNat cap31), (36, .int .i32 i31), (37, .pointer (some ⟨g31, 0 + (i31 : Int).toNat * 19, none⟩)), (38, .pointer (some ⟨g31, 0 + (i31 : Int).toNat * 19, none⟩))]) (fun a w' => ListI w0 G0 p pb 21 [.int .i32 0] (elR 6 v fx 3 []) (elQ true 6 3 []) s39 n39 (decide (n39 ≤ 0)) ((g31, 114, es31.flatten ++ [str u32, bcell u35_0, bcell u35_1, bcell u35_2, bcell u35_3, bcell u35_4, bcell u35_5, bcell u35_6, bcell u35_7, bcell u35_8, bcell u35_9, bcell u35_10, bcell u35_11, bcell u35_12, bcell u35_13, bcell u35_14, bcell u35_15, .slice none 0 0, .map none] ++ ((List.replicate (n31.toNat - (i31 + 1)) [str [], .int .u8 0, .int .u8 0, .int .u8 0, .int .u8 0, .int .u8 0, .int .u8 0, .int .u8 0, .int .u8 0, .int .u8 0, .int .u8 0, .int .u8 0, .int .u8 0, .int .u8 0, .int .u8 0, .int .u8 0, .int .u8 0, .slice none 0 0, .map none]).flatten ++ post31)) :: L31) P31 a 0 w') ?_ ?_
          · refine cI (by rfl) (fun hps=>?_) (fun hps=>?_)
            · have hps : 0 < n39 := by have := of_decide_eq_true hps; omega
              ((conv=>whnf);repeat(first|(refine mvT ?_;conv=>whnf)|(refine mvF ?_;conv=>whnf)|(refine cT (by rfl) ?_;conv=>whnf)|(refine cF (by rfl) ?_;conv=>whnf)))
              refine H.grow hps hn39.2 (by decide) rfl rfl (by decide) ?_
              intro g cap post w hc1 hc2 H
              ((conv=>whnf);repeat(first|(refine mvT ?_;conv=>whnf)|(refine mvF ?_;conv=>whnf)|(refine cT (by rfl) ?_;conv=>whnf)|(refine cF (by rfl) ?_;conv=>whnf)))
              exact ⟨_, ⟨rfl, rfl, rfl, rfl, rfl, rfl, rfl, rfl, rfl, rfl, rfl, rfl, rfl, rfl, rfl, rfl, rfl, rfl, trivial⟩, ListI.some hps (decide_eq_false (by omega)) hc1 hc2 H⟩
            · have hps : n39 ≤ 0 := by have := of_decide_eq_false hps; omega
              ((conv=>whnf);repeat(first|(refine mvT ?_;conv=>whnf)|(refine mvF ?_;conv=>whnf)|(refine cT (by rfl) ?_;conv=>whnf)|(refine cF (by rfl) ?_;conv=>whnf)))
              exact ⟨_, ⟨rfl, rfl, rfl, rfl, rfl, rfl, rfl, rfl, rfl, rfl, rfl, rfl, rfl, rfl, rfl, rfl, rfl, rfl, trivial⟩, ListI.none hps (decide_eq_true hps) H⟩
          clear H
          rintro a39 w H
          ((conv=>whnf);repeat(first|(refine mvT ?_;conv=>whnf)|(refine mvF ?_;conv=>whnf)|(refine cT (by rfl) ?_;conv=>whnf)|(refine cF (by rfl) ?_;conv=>whnf)))
          have hpL39 : inL ((g31, 114, es31.flatten ++ [str u32, bcell u35_0, bcell u35_1, bcell u35_2, bcell u35_3, bcell u35_4, bcell u35_5, bcell u35_6, bcell u35_7, bcell u35_8, bcell u35_9, bcell u35_10, bcell u35_11, bcell u35_12, bcell u35_13, bcell u35_14, bcell u35_15, .slice none 0 0, .map none] ++ ((List.replicate (n31.toNat - (i31 + 1)) [str [], .int .u8 0, .int .u8 0, .int .u8 0, .int .u8 0, .int .u8 0, .int .u8 0, .int .u8 0, .int .u8 0, .int .u8 0, .int .u8 0, .int .u8 0, .int .u8 0, .int .u8 0, .int .u8 0, .int .u8 0, .int .u8 0, .slice none 0 0, .map none]).flatten ++ post31)) :: L31) p := inL.tail hpL31
          refine VL.loop (fun i : Nat => [(43, .int .i32 n39), (42, a39), (44, .int .i32 i), (0, .pointer (some ⟨p, 0, none⟩)), (2, .bool false), (7, .pointer (some ⟨pb, 0, none⟩)), (8, .int .i16 v), (9, .bool fx), (10, .pointer (some ⟨p, 0, none⟩)), (26, .int .i32 n20), (25, .slice (some ⟨g20, 0, none⟩) n20.toNat cap20), (27, .int .i32 i20), (28, .pointer (some ⟨g20, 0 + (i20 : Int).toNat * 5, none⟩)), (29, .pointer (some ⟨g20, 0 + (i20 : Int).toNat * 5, none⟩)), (35, .int .i32 n31), (34, .slice (some ⟨g31, 0, none⟩) n31.toNat cap31), (36, .int .i32 i31), (37, .pointer (some ⟨g31, 0 + (i31 : Int).toNat * 19, none⟩)), (38, .pointer (some ⟨g31, 0 + (i31 : Int).toNat * 19, none⟩))]) (fun i w' => i ≤ 2147483647 ∧ ListI w0 G0 p pb 21 [.int .i32 0] (elR 6 v fx 3 []) (elQ true 6 3 []) s39 n39 (decide (n39 ≤ 0)) ((g31, 114, es31.flatten ++ [str u32, bcell u35_0, bcell u35_1, bcell u35_2, bcell u35_3, bcell u35_4, bcell u35_5, bcell u35_6, bcell u35_7, bcell u35_8, bcell u35_9, bcell u35_10, bcell u35_11, bcell u35_12, bcell u35_13, bcell u35_14, bcell u35_15, .slice none 0 0, .map none] ++ ((List.replicate (n31.toNat - (i31 + 1)) [str [], .int .u8 0, .int .u8 0, .int .u8 0, .int .u8 0, .int .u8 0, .int .u8 0, .int .u8 0, .int .u8 0, .int .u8 0, .int .u8 0, .int .u8 0, .int .u8 0, .int .u8 0, .int .u8 0, .int .u8 0, .int .u8 0, .slice none 0 0, .map none]).flatten ++ post31)) :: L31) P31 a39 i w') (fun i => n39.toNat - i) 0 ⟨rfl, rfl, rfl, rfl, rfl, rfl, rfl, rfl, rfl, rfl, rfl, rfl, rfl, rfl, rfl, rfl, rfl, rfl, rfl, trivial⟩ ⟨by decide, H⟩ ?_
          clear H
          rintro i39 w ⟨hi39, H⟩
          ((conv=>whnf);repeat(first|(refine mvT ?_;conv=>whnf)|(refine mvF ?_;conv=>whnf)|(refine cT (by rfl) ?_;conv=>whnf)|(refine cF (by rfl) ?_;conv=>whnf)))
          refine cI (by rfl) (fun h9=>?_) (fun h9=>?_)
          · have hlt39 : (i39 : Int) < n39 := of_decide_eq_true h9
            obtain ⟨g39, cap39, post39, rfl, hgo39, HI⟩ := H.go hlt39
            obtain ⟨es39, ts39, si39, hes39, hez39, hrn39, hts39, hlen3, H⟩ := HI.open hgo39.2.2.2.2
            obtain ⟨L39, hL39⟩ : ∃ L : List Ob, L = ((g31, 114, es31.flatten ++ [str u32, bcell u35_0, bcell u35_1, bcell u35_2, bcell u35_3, bcell u35_4, bcell u35_5, bcell u35_6, bcell u35_7, bcell u35_8, bcell u35_9, bcell u35_10, bcell u35_11, bcell u35_12, bcell u35_13, bcell u35_14, bcell u35_15, .slice none 0 0, .map none] ++ ((List.replicate (n31.toNat - (i31 + 1)) [str [], .int .u8 0, .int .u8 0, .int .u8 0, .int .u8 0, .int .u8 0, .int .u8 0, .int .u8 0, .int .u8 0, .int .u8 0, .int .u8 0, .int .u8 0, .int .u8 0, .int .u8 0, .int .u8 0, .int .u8 0, .int .u8 0, .slice none 0 0, .map none]).flatten ++ post31)) :: L31) := ⟨_, rfl⟩
            rw [← hL39] at H hpL39
            obtain ⟨P39, hP39⟩ : ∃ P : World → Prop, P = fun w => (∀ (j : Nat) (c : List Value) (y : T), es39[j]? = some c → ts39[j]? = some y → elQ true 6 3 [] ⟨w, FG w0 G0⟩ c y) ∧ P31 w := ⟨_, rfl⟩
            rw [← hP39] at H
            replace H : St w0 G0 p pb si39 ((g39, 21, es39.flatten ++ [.int .i32 0] ++ ((List.replicate (n39.toNat - (i39 + 1)) [.int .i32 0]).flatten ++ post39)) :: L39) P39 w := H
            ((conv=>whnf);repeat(first|(refine mvT ?_;conv=>whnf)|(refine mvF ?_;conv=>whnf)|(refine cT (by rfl) ?_;conv=>whnf)|(refine cF (by rfl) ?_;conv=>whnf)))
            refine Does.mono H.int32 ?_
            rintro r w ⟨n40, s40, rfl, hn40, hr40, H⟩
            ((conv=>whnf);repeat(first|(refine mvT ?_;conv=>whnf)|(refine mvF ?_;conv=>whnf)|(refine cT (by rfl) ?_;conv=>whnf)|(refine cF (by rfl) ?_;conv=>whnf)))
            refine ⟨g39, 0, rfl, ⟨by omega, by omega⟩, ?_⟩
            ((conv=>whnf);repeat(first|(refine mvT ?_;conv=>whnf)|(refine mvF ?_;conv=>whnf)|(refine cT (by rfl) ?_;conv=>whnf)|(refine cF (by rfl) ?_;conv=>whnf)))
            refine H.st1 (v := .int .i32 n40) 0 (rfl) (rfl) rfl (by first | omega | (simp [hlen3]; done) | (simp [hlen3]; omega)) rfl (Nat.lt_of_lt_of_le (Nat.lt_succ_self _) (Nat.le_of_ble_eq_true rfl)) ?_
            intro w H
            ((conv=>whnf);repeat(first|(refine mvT ?_;conv=>whnf)|(refine mvF ?_;conv=>whnf)|(refine cT (by rfl) ?_;conv=>whnf)|(refine cF (by rfl) ?_;conv=>whnf)))
            replace H : St w0 G0 p pb s40 ((g39, 21, es39.flatten ++ [.int .i32 n40] ++ ((List.replicate (n39.toNat - (i39 + 1)) [.int .i32 0]).flatten ++ post39)) :: L39) P39 w := H
            refine ⟨i39 + 1, ⟨rfl, rfl, ?_, rfl, rfl, rfl, rfl, rfl, rfl, rfl, rfl, rfl, rfl, rfl, rfl, rfl, rfl, rfl, rfl, trivial⟩, ⟨by omega, ListI.back hgo39 (LoopI.next hes39 hez39 hrn39 hts39 (cur := [.int .i32 n40]) (x := numT n40) (hr40) rfl (by rw [← hL39]; exact H) fun w hP => ?_)⟩, by omega⟩
            · show some (Value.int .i32 _) = _
              rw [IntKind.wrap_i32]
              simp only [Option.some.injEq, Value.int.injEq, true_and]
              omega
            · skip
              rw [hP39] at hP
              exact ⟨⟨_, hn40, rfl, rfl⟩, hP⟩
          have hge39 : ¬ (i39 : Int) < n39 := of_decide_eq_false h9
          obtain ⟨l41, s41, hone41, hl41, hr41, H⟩ := H.done hge39 hln39 (nl := nlF (.mk 11 0 (-1) (-1) (-1) 0 3 []) v) (sz := elZ true 6 3 []) rfl hpL39 rfl
          ((conv=>whnf);repeat(first|(refine mvT ?_;conv=>whnf)|(refine mvF ?_;conv=>whnf)|(refine cT (by rfl) ?_;conv=>whnf)|(refine cF (by rfl) ?_;conv=>whnf)))
          obtain ⟨P42, hP42⟩ : ∃ P : World → Prop, P = fun w => ListR true (elZ true 6 3 []) (elQ true 6 3 [] ⟨w, FG w0 G0⟩) w (FG w0 G0) a39 (.mk 0 [] (decide (n39 ≤ 0)) l41 []) ∧ P31 w := ⟨_, rfl⟩
          replace H : St w0 G0 p pb s41 ((g31, 114, es31.flatten ++ [str u32, bcell u35_0, bcell u35_1, bcell u35_2, bcell u35_3, bcell u35_4, bcell u35_5, bcell u35_6, bcell u35_7, bcell u35_8, bcell u35_9, bcell u35_10, bcell u35_11, bcell u35_12, bcell u35_13, bcell u35_14, bcell u35_15, .slice none 0 0, .map none] ++ ((List.replicate (n31.toNat - (i31 + 1)) [str [], .int .u8 0, .int .u8 0, .int .u8 0, .int .u8 0, .int .u8 0, .int .u8 0, .int .u8 0, .int .u8 0, .int .u8 0, .int .u8 0, .int .u8 0, .int .u8 0, .int .u8 0, .int .u8 0, .int .u8 0, .int .u8 0, .slice none 0 0, .map none]).flatten ++ post31)) :: L31) P42 w := by rw [hP42]; exact H
          refine H.st1 (v := a39) 17 (cells_one hone41) (hone41) rfl (by first | omega | (simp [hlen2]; done) | (simp [hlen2]; omega)) rfl (Nat.lt_of_lt_of_le (Nat.lt_succ_self _) (Nat.le_of_ble_eq_true rfl)) ?_
          intro w H
          ((conv=>whnf);repeat(first|(refine mvT ?_;conv=>whnf)|(refine mvF ?_;conv=>whnf)|(refine cT (by rfl) ?_;conv=>whnf)|(refine cF (by rfl) ?_;conv=>whnf)))
          replace H : St w0 G0 p pb s41 ((g31, 114, es31.flatten ++ [str u32, bcell u35_0, bcell u35_1, bcell u35_2, bcell u35_3, bcell u35_4, bcell u35_5, bcell u35_6, bcell u35_7, bcell u35_8, bcell u35_9, bcell u35_10, bcell u35_11, bcell u35_12, bcell u35_13, bcell u35_14, bcell u35_15, a39, .map none] ++ ((List.replicate (n31.toNat - (i31 + 1)) [str [], .int .u8 0, .int .u8 0, .int .u8 0, .int .u8 0, .int .u8 0, .int .u8 0, .int .u8 0, .int .u8 0, .int .u8 0, .int .u8 0, .int .u8 0, .int .u8 0, .int .u8 0, .int .u8 0, .int .u8 0, .int .u8 0, .slice none 0 0, .map none]).flatten ++ post31)) :: L31) P42 w := H
          (refine mvB ?_;((conv=>whnf);repeat(first|(refine mvT ?_;conv=>whnf)|(refine mvF ?_;conv=>whnf)|(refine cT (by rfl) ?_;conv=>whnf)|(refine cF (by rfl) ?_;conv=>whnf))))
          refine VC.cutB (fun q : Value × List Tg × Rd => [(0, .pointer (some ⟨p, 0, none⟩)), (2, .bool false), (7, .pointer (some ⟨pb, 0, none⟩)), (8, .int .i16 v), (9, .bool fx), (10, .pointer (some ⟨p, 0, none⟩)), (26, .int .i32 n20), (25, .slice (some ⟨g20, 0, none⟩) n20.toNat cap20), (27, .int .i32 i20), (28, .pointer (some ⟨g20, 0 + (i20 : Int).toNat * 5, none⟩)), (29, .pointer (some ⟨g20, 0 + (i20 : Int).toNat * 5, none⟩)), (35, .int .i32 n31), (34, .slice (some ⟨g31, 0, none⟩) n31.toNat cap31), (36, .int .i32 i31), (37, .pointer (some ⟨g31, 0 + (i31 : Int).toNat * 19, none⟩)), (38, .pointer (some ⟨g31, 0 + (i31 : Int).toNat * 19, none⟩))]) (fun q w' => rdTagsF fx s41 = q.2 ∧ St w0 G0 p pb q.2.2 ((g31, 114, es31.flatten ++ [str u32, bcell u35_0, bcell u35_1, bcell u35_2, bcell u35_3, bcell u35_4, bcell u35_5, bcell u35_6, bcell u35_7, bcell u35_8, bcell u35_9, bcell u35_10, bcell u35_11, bcell u35_12, bcell u35_13, bcell u35_14, bcell u35_15, a39, q.1] ++ ((List.replicate (n31.toNat - (i31 + 1)) [str [], .int .u8 0, .int .u8 0, .int .u8 0, .int .u8 0, .int .u8 0, .int .u8 0, .int .u8 0, .int .u8 0, .int .u8 0, .int .u8 0, .int .u8 0, .int .u8 0, .int .u8 0, .int .u8 0, .int .u8 0, .int .u8 0, .slice none 0 0, .map none]).flatten ++ post31)) :: L31) (fun w => TGf w0 G0 q.1 q.2.1 w ∧ P42 w) w') ?_ ?_
          · refine cI (by rfl) (fun hc=>?_) (fun hc=>?_)
            · ((conv=>whnf);repeat(first|(refine mvT ?_;conv=>whnf)|(refine mvF ?_;conv=>whnf)|(refine cT (by rfl) ?_;conv=>whnf)|(refine cF (by rfl) ?_;conv=>whnf)))
              refine Does.mono H.tags ?_
              rintro r w ⟨m, u, s', rfl, hone, hr, H⟩
              ((conv=>whnf);repeat(first|(refine mvT ?_;conv=>whnf)|(refine mvF ?_;conv=>whnf)|(refine cT (by rfl) ?_;conv=>whnf)|(refine cF (by rfl) ?_;conv=>whnf)))
              refine H.st1 (v := m) 18 (rfl) (hone) rfl (by first | omega | (simp [hlen2]; done) | (simp [hlen2]; omega)) rfl (Nat.lt_of_lt_of_le (Nat.lt_succ_self _) (Nat.le_of_ble_eq_true rfl)) ?_
              intro w H
              ((conv=>whnf);repeat(first|(refine mvT ?_;conv=>whnf)|(refine mvF ?_;conv=>whnf)|(refine cT (by rfl) ?_;conv=>whnf)|(refine cF (by rfl) ?_;conv=>whnf)))
              exact ⟨(m, u, s'), ⟨rfl, rfl, rfl, rfl, rfl, rfl, rfl, rfl, rfl, rfl, rfl, rfl, rfl, rfl, rfl, rfl, trivial⟩, by rw [rdTagsF, if_pos hc]; exact hr, H⟩
            · ((conv=>whnf);repeat(first|(refine mvT ?_;conv=>whnf)|(refine mvF ?_;conv=>whnf)|(refine cT (by rfl) ?_;conv=>whnf)|(refine cF (by rfl) ?_;conv=>whnf)))
              exact ⟨(.map none, [], s41), ⟨rfl, rfl, rfl, rfl, rfl, rfl, rfl, rfl, rfl, rfl, rfl, rfl, rfl, rfl, rfl, rfl, trivial⟩, by rw [rdTagsF, if_neg (by rw [hc]; decide)], H.add fun w' _ => TagsR.nil _ _⟩
          clear H
          rintro ⟨m44, u44, s44⟩ w ⟨htg, H⟩
          dsimp only at htg H
          ((conv=>whnf);repeat(first|(refine mvT ?_;conv=>whnf)|(refine mvF ?_;conv=>whnf)|(refine cT (by rfl) ?_;conv=>whnf)|(refine cF (by rfl) ?_;conv=>whnf)))
          obtain ⟨P45, hP45⟩ : ∃ P : World → Prop, P = fun w => TGf w0 G0 m44 u44 w ∧ P42 w := ⟨_, rfl⟩
          replace H : St w0 G0 p pb s44 ((g31, 114, es31.flatten ++ [str u32, bcell u35_0, bcell u35_1, bcell u35_2, bcell u35_3, bcell u35_4, bcell u35_5, bcell u35_6, bcell u35_7, bcell u35_8, bcell u35_9, bcell u35_10, bcell u35_11, bcell u35_12, bcell u35_13, bcell u35_14, bcell u35_15, a39, m44] ++ ((List.replicate (n31.toNat - (i31 + 1)) [str [], .int .u8 0, .int .u8 0, .int .u8 0, .int .u8 0, .int .u8 0, .int .u8 0, .int .u8 0, .int .u8 0, .int .u8 0, .int .u8 0, .int .u8 0, .int .u8 0, .int .u8 0, .int .u8 0, .int .u8 0, .int .u8 0, .slice none 0 0, .map none]).flatten ++ post31)) :: L31) P45 w := by rw [hP45]; exact H
          have hpart : rdPart 7 v fx dOffsetFetchRequestGroupTopic si31 = (.mk 0 [] false [.mk 0 u32 false [] [], .mk 0 [u35_0, u35_1, u35_2, u35_3, u35_4, u35_5, u35_6, u35_7, u35_8, u35_9, u35_10, u35_11, u35_12, u35_13, u35_14, u35_15] false [] [], .mk 0 [] (decide (n39 ≤ 0)) l41 []] u44, s44) := by
            unfold rdPart rdPartW
            rw [rdTail_plain (by decide)]
            rw [rdAll_ver hr32 (by decide), rdAll_ver hr35 (by decide), rdAll_yes (df := dfT 7) ((rdField_list _ _ _ _ _ _ _ _ _ _ _).trans hr41) ⟨by decide, has_all hv⟩]
            simp only [rdAll]
            rw [htg]
          refine ⟨i31 + 1, ⟨rfl, rfl, ?_, rfl, rfl, rfl, rfl, rfl, rfl, rfl, rfl, rfl, rfl, rfl, trivial⟩, ⟨by omega, ListI.back hgo31 (LoopI.next hes31 hez31 hrn31 hts31 (cur := [str u32, bcell u35_0, bcell u35_1, bcell u35_2, bcell u35_3, bcell u35_4, bcell u35_5, bcell u35_6, bcell u35_7, bcell u35_8, bcell u35_9, bcell u35_10, bcell u35_11, bcell u35_12, bcell u35_13, bcell u35_14, bcell u35_15, a39, m44]) (x := .mk 0 [] false [.mk 0 u32 false [] [], .mk 0 [u35_0, u35_1, u35_2, u35_3, u35_4, u35_5, u35_6, u35_7, u35_8, u35_9, u35_10, u35_11, u35_12, u35_13, u35_14, u35_15] false [] [], .mk 0 [] (decide (n39 ≤ 0)) l41 []] u44) (hpart) rfl (by rw [← hL31]; exact H) fun w hP => ?_)⟩, by omega⟩
          · show some (Value.int .i32 _) = _
            rw [IntKind.wrap_i32]
            simp only [Option.some.injEq, Value.int.injEq, true_and]
            omega
          · skip
            rw [hP45] at hP
            obtain ⟨hf45_, hP⟩ := hP
            rw [hP42] at hP
            obtain ⟨hf42_, hP⟩ := hP
            rw [hP31] at hP
            exact ⟨QPt (QA1 (QF8 (by decide) u32) (QA1 (QF7 (u := [u35_0, u35_1, u35_2, u35_3, u35_4, u35_5, u35_6, u35_7, u35_8, u35_9, u35_10, u35_11, u35_12, u35_13, u35_14, u35_15]) rfl) (QA1 (QF11 hl41 hf42_) (QA0)))) hf45_, hP⟩
        have hge31 : ¬ (i31 : Int) < n31 := of_decide_eq_false h9
        obtain ⟨l46, s46, hone46, hl46, hr46, H⟩ := H.done hge31 hln31 (nl := nlF (.mk 11 0 (-1) (-2) (-1) 0 10 dOffsetFetchRequestGroupTopic) v) (sz := elZ true 7 10 dOffsetFetchRequestGroupTopic) rfl hpL31 rfl
        ((conv=>whnf);repeat(first|(refine mvT ?_;conv=>whnf)|(refine mvF ?_;conv=>whnf)|(refine cT (by rfl) ?_;conv=>whnf)|(refine cF (by rfl) ?_;conv=>whnf)))
        obtain ⟨P47, hP47⟩ : ∃ P : World → Prop, P = fun w => ListR true (elZ true 7 10 dOffsetFetchRequestGroupTopic) (elQ true 7 10 dOffsetFetchRequestGroupTopic ⟨w, FG w0 G0⟩) w (FG w0 G0) a31 (.mk 0 [] (decide (n31 < 0)) l46 []) ∧ P27 w := ⟨_, rfl⟩
        replace H : St w0 G0 p pb s46 ((g20, 109, es20.flatten ++ [str u21, c23, .int .i32 n28, .slice none 0 0, .map none] ++ ((List.replicate (n20.toNat - (i20 + 1)) [str [], .pointer none, .int .i32 0, .slice none 0 0, .map none]).flatten ++ post20)) :: L20) P47 w := by rw [hP47]; exact H
        refine H.st1 (v := a31) 3 (cells_one hone46) (hone46) rfl (by first | omega | (simp [hlen1]; done) | (simp [hlen1]; omega)) rfl (Nat.lt_of_lt_of_le (Nat.lt_succ_self _) (Nat.le_of_ble_eq_true rfl)) ?_
        intro w H
        ((conv=>whnf);repeat(first|(refine mvT ?_;conv=>whnf)|(refine mvF ?_;conv=>whnf)|(refine cT (by rfl) ?_;conv=>whnf)|(refine cF (by rfl) ?_;conv=>whnf)))
        replace H : St w0 G0 p pb s46 ((g20, 109, es20.flatten ++ [str u21, c23, .int .i32 n28, a31, .map none] ++ ((List.replicate (n20.toNat - (i20 + 1)) [str [], .pointer none, .int .i32 0, .slice none 0 0, .map none]).flatten ++ post20)) :: L20) P47 w := H
        (refine mvB ?_;((conv=>whnf);repeat(first|(refine mvT ?_;conv=>whnf)|(refine mvF ?_;conv=>whnf)|(refine cT (by rfl) ?_;conv=>whnf)|(refine cF (by rfl) ?_;conv=>whnf))))
        refine VC.cutB (fun q : Value × List Tg × Rd => [(0, .pointer (some ⟨p, 0, none⟩)), (2, .bool false), (7, .pointer (some ⟨pb, 0, none⟩)), (8, .int .i16 v), (9, .bool fx), (10, .pointer (some ⟨p, 0, none⟩)), (26, .int .i32 n20), (25, .slice (some ⟨g20, 0, none⟩) n20.toNat cap20), (27, .int .i32 i20), (28, .pointer (some ⟨g20, 0 + (i20 : Int).toNat * 5, none⟩)), (29, .pointer (some ⟨g20, 0 + (i20 : Int).toNat * 5, none⟩))]) (fun q w' => rdTagsF fx s46 = q.2 ∧ St w0 G0 p pb q.2.2 ((g20, 109, es20.flatten ++ [str u21, c23, .int .i32 n28, a31, q.1] ++ ((List.replicate (n20.toNat - (i20 + 1)) [str [], .pointer none, .int .i32 0, .slice none 0 0, .map none]).flatten ++ post20)) :: L20) (fun w => TGf w0 G0 q.1 q.2.1 w ∧ P47 w) w') ?_ ?_
        · refine cI (by rfl) (fun hc=>?_) (fun hc=>?_)
          · ((conv=>whnf);repeat(first|(refine mvT ?_;conv=>whnf)|(refine mvF ?_;conv=>whnf)|(refine cT (by rfl) ?_;conv=>whnf)|(refine cF (by rfl) ?_;conv=>whnf)))
            refine Does.mono H.tags ?_
            rintro r w ⟨m, u, s', rfl, hone, hr, H⟩
            ((conv=>whnf);repeat(first|(refine mvT ?_;conv=>whnf)|(refine mvF ?_;conv=>whnf)|(refine cT (by rfl) ?_;conv=>whnf)|(refine cF (by rfl) ?_;conv=>whnf)))
            refine H.st1 (v := m) 4 (rfl) (hone) rfl (by first | omega | (simp [hlen1]; done) | (simp [hlen1]; omega)) rfl (Nat.lt_of_lt_of_le (Nat.lt_succ_self _) (Nat.le_of_ble_eq_true rfl)) ?_
            intro w H
            ((conv=>whnf);repeat(first|(refine mvT ?_;conv=>whnf)|(refine mvF ?_;conv=>whnf)|(refine cT (by rfl) ?_;conv=>whnf)|(refine cF (by rfl) ?_;conv=>whnf)))
            exact ⟨(m, u, s'), ⟨rfl, rfl, rfl, rfl, rfl, rfl, rfl, rfl, rfl, rfl, rfl, trivial⟩, by rw [rdTagsF, if_pos hc]; exact hr, H⟩
          · ((conv=>whnf);repeat(first|(refine mvT ?_;conv=>whnf)|(refine mvF ?_;conv=>whnf)|(refine cT (by rfl) ?_;conv=>whnf)|(refine cF (by rfl) ?_;conv=>whnf)))
            exact ⟨(.map none, [], s46), ⟨rfl, rfl, rfl, rfl, rfl, rfl, rfl, rfl, rfl, rfl, rfl, trivial⟩, by rw [rdTagsF, if_neg (by rw [hc]; decide)], H.add fun w' _ => TagsR.nil _ _⟩
        clear H
        rintro ⟨m49, u49, s49⟩ w ⟨htg, H⟩
        dsimp only at htg H
        ((conv=>whnf);repeat(first|(refine mvT ?_;conv=>whnf)|(refine mvF ?_;conv=>whnf)|(refine cT (by rfl) ?_;conv=>whnf)|(refine cF (by rfl) ?_;conv=>whnf)))
        obtain ⟨P50, hP50⟩ : ∃ P : World → Prop, P = fun w => TGf w0 G0 m49 u49 w ∧ P47 w := ⟨_, rfl⟩
        replace H : St w0 G0 p pb s49 ((g20, 109, es20.flatten ++ [str u21, c23, .int .i32 n28, a31, m49] ++ ((List.replicate (n20.toNat - (i20 + 1)) [str [], .pointer none, .int .i32 0, .slice none 0 0, .map none]).flatten ++ post20)) :: L20) P50 w := by rw [hP50]; exact H
        have hpart : rdPart 8 v fx dOffsetFetchRequestGroup si20 = (.mk 0 [] false [.mk 0 u21 false [] [], .mk 0 u23 nl23 [] [], numT n28, .mk 0 [] (decide (n31 < 0)) l46 []] u49, s49) := by
          unfold rdPart rdPartW
          rw [rdTail_plain (by decide)]
          rw [rdAll_yes (df := dfT 8) (rdField8 (by decide) hr21) ⟨by decide, has_all hv⟩, rdAll_ver hr23 (by decide), rdAll_ver hr28 (by decide), rdAll_yes (df := dfT 8) ((rdField_list _ _ _ _ _ _ _ _ _ _ _).trans hr46) ⟨by decide, has_all hv⟩]
          simp only [rdAll]
          rw [htg]
        refine ⟨i20 + 1, ⟨rfl, rfl, ?_, rfl, rfl, rfl, rfl, rfl, rfl, trivial⟩, ⟨by omega, ListI.back hgo20 (LoopI.next hes20 hez20 hrn20 hts20 (cur := [str u21, c23, .int .i32 n28, a31, m49]) (x := .mk 0 [] false [.mk 0 u21 false [] [], .mk 0 u23 nl23 [] [], numT n28, .mk 0 [] (decide (n31 < 0)) l46 []] u49) (hpart) rfl (by rw [← hL20]; exact H) fun w hP => ?_)⟩, by omega⟩
        · show some (Value.int .i32 _) = _
          rw [IntKind.wrap_i32]
          simp only [Option.some.injEq, Value.int.injEq, true_and]
          omega
        · skip
          rw [hP50] at hP
          obtain ⟨hf50_, hP⟩ := hP
          rw [hP47] at hP
          obtain ⟨hf47_, hP⟩ := hP
          rw [hP27] at hP
          obtain ⟨hf27_, hP⟩ := hP
          rw [hP20] at hP
          exact ⟨QPt (QA1 (QF8 (by decide) u21) (QA1 (QF8n (by decide) hnl23 hf27_) (QA1 (QF3 hn28) (QA1 (QF11 hl46 hf47_) (QA0))))) hf50_, hP⟩
      have hge20 : ¬ (i20 : Int) < n20 := of_decide_eq_false h9
      obtain ⟨l51, s51, hone51, hl51, hr51, H⟩ := H.done hge20 hln20 (nl := nlF (.mk 11 8 (-1) (-1) (-1) 0 10 dOffsetFetchRequestGroup) v) (sz := elZ true 8 10 dOffsetFetchRequestGroup) rfl hpL20 rfl
      ((conv=>whnf);repeat(first|(refine mvT ?_;conv=>whnf)|(refine mvF ?_;conv=>whnf)|(refine cT (by rfl) ?_;conv=>whnf)|(refine cF (by rfl) ?_;conv=>whnf)))
      obtain ⟨P52, hP52⟩ : ∃ P : World → Prop, P = fun w => ListR true (elZ true 8 10 dOffsetFetchRequestGroup) (elQ true 8 10 dOffsetFetchRequestGroup ⟨w, FG w0 G0⟩) w (FG w0 G0) a20 (.mk 0 [] (decide (n20 ≤ 0)) l51 []) ∧ P18 w := ⟨_, rfl⟩
      replace H : St w0 G0 p pb s51 ((p, ty, [] ++ [.int .i16 v, str u1, c4, .slice none 0 0, .bool false, .map none] ++ []) :: []) P52 w := by rw [hP52]; exact H
      refine H.st1 (v := a20) 3 (cells_one hone51) (hone51) rfl (by simp) rfl (Nat.lt_of_lt_of_le (Nat.lt_succ_self _) (Nat.le_of_ble_eq_true rfl)) ?_
      intro w H
      ((conv=>whnf);repeat(first|(refine mvT ?_;conv=>whnf)|(refine mvF ?_;conv=>whnf)|(refine cT (by rfl) ?_;conv=>whnf)|(refine cF (by rfl) ?_;conv=>whnf)))
      replace H : St w0 G0 p pb s51 ((p, ty, [] ++ [.int .i16 v, str u1, c4, a20, .bool false, .map none] ++ []) :: []) P52 w := H
      exact ⟨(a20, decide (n20 ≤ 0), l51, s51), ⟨rfl, rfl, rfl, rfl, rfl, rfl, trivial⟩, hl51, by rw [if_pos hh]; exact ((rdField_list _ _ _ _ _ _ _ _ _ _ _).trans hr51), by rw [hP52] at H; exact H⟩
    · ((conv=>whnf);repeat(first|(refine mvT ?_;conv=>whnf)|(refine mvF ?_;conv=>whnf)|(refine cT (by rfl) ?_;conv=>whnf)|(refine cF (by rfl) ?_;conv=>whnf)))
      have hh : ¬ hasF (.mk 11 8 (-1) (-1) (-1) 0 10 dOffsetFetchRequestGroup) v = true := by have := of_decide_eq_false hcv; rw [hasF_iff]; omega
      exact ⟨(.slice none 0 0, true, [], s4), ⟨rfl, rfl, rfl, rfl, rfl, rfl, trivial⟩, fun _ => rfl, by rw [if_neg hh]; rfl, H.add fun w' _ => .inl ⟨rfl, rfl⟩⟩
  clear H
  rintro ⟨c19, nl19, l19, s19⟩ w ⟨hnl19, hr19, H⟩
  dsimp only at hnl19 hr19 H
  ((conv=>whnf);repeat(first|(refine mvT ?_;conv=>whnf)|(refine mvF ?_;conv=>whnf)|(refine cT (by rfl) ?_;conv=>whnf)|(refine cF (by rfl) ?_;conv=>whnf)))
  obtain ⟨P54, hP54⟩ : ∃ P : World → Prop, P = fun w => ListR true (elZ true 8 10 dOffsetFetchRequestGroup) (elQ true 8 10 dOffsetFetchRequestGroup ⟨w, FG w0 G0⟩) w (FG w0 G0) c19 (.mk 0 [] (nl19) l19 []) ∧ P18 w := ⟨_, rfl⟩
  replace H : St w0 G0 p pb s19 ((p, ty, [] ++ [.int .i16 v, str u1, c4, c19, .bool false, .map none] ++ []) :: []) P54 w := by rw [hP54]; exact H
  refine VC.cutE (fun q : Bool × Rd => [(0, .pointer (some ⟨p, 0, none⟩)), (2, .bool false), (7, .pointer (some ⟨pb, 0, none⟩)), (8, .int .i16 v), (9, .bool fx), (10, .pointer (some ⟨p, 0, none⟩))]) (fun q w' => (if hasF (.mk 0 7 (-1) (-1) (-1) 0 0 []) v = true then rdField 9 v fx (.mk 0 7 (-1) (-1) (-1) 0 0 []) s19 else (dfT 9 (.mk 0 7 (-1) (-1) (-1) 0 0 []), s19)) = (numT (if q.1 = true then 1 else 0), q.2) ∧ St w0 G0 p pb q.2 ((p, ty, [] ++ [.int .i16 v, str u1, c4, c19, .bool q.1, .map none] ++ []) :: []) P54 w') ?_ ?_
  · refine cI (by rfl) (fun hcv=>?_) (fun hcv=>?_)
    · ((conv=>whnf);repeat(first|(refine mvT ?_;conv=>whnf)|(refine mvF ?_;conv=>whnf)|(refine cT (by rfl) ?_;conv=>whnf)|(refine cF (by rfl) ?_;conv=>whnf)))
      refine Does.mono H.bool ?_
      rintro r w ⟨b56, s56, rfl, hr56, H⟩
      ((conv=>whnf);repeat(first|(refine mvT ?_;conv=>whnf)|(refine mvF ?_;conv=>whnf)|(refine cT (by rfl) ?_;conv=>whnf)|(refine cF (by rfl) ?_;conv=>whnf)))
      (refine mvB ?_;((conv=>whnf);repeat(first|(refine mvT ?_;conv=>whnf)|(refine mvF ?_;conv=>whnf)|(refine cT (by rfl) ?_;conv=>whnf)|(refine cF (by rfl) ?_;conv=>whnf))))
      refine H.st1 (v := .bool b56) 4 (rfl) (rfl) rfl (by simp) rfl (Nat.lt_of_lt_of_le (Nat.lt_succ_self _) (Nat.le_of_ble_eq_true rfl)) ?_
      intro w H
      ((conv=>whnf);repeat(first|(refine mvT ?_;conv=>whnf)|(refine mvF ?_;conv=>whnf)|(refine cT (by rfl) ?_;conv=>whnf)|(refine cF (by rfl) ?_;conv=>whnf)))
      replace H : St w0 G0 p pb s56 ((p, ty, [] ++ [.int .i16 v, str u1, c4, c19, .bool b56, .map none] ++ []) :: []) P54 w := H
      have hh : hasF (.mk 0 7 (-1) (-1) (-1) 0 0 []) v = true := by have := of_decide_eq_true hcv; rw [hasF_iff]; omega
      exact ⟨(b56, s56), ⟨rfl, rfl, rfl, rfl, rfl, rfl, trivial⟩, by rw [if_pos hh]; exact (rdField0.trans hr56), H⟩
    · ((conv=>whnf);repeat(first|(refine mvT ?_;conv=>whnf)|(refine mvF ?_;conv=>whnf)|(refine cT (by rfl) ?_;conv=>whnf)|(refine cF (by rfl) ?_;conv=>whnf)))
      have hh : ¬ hasF (.mk 0 7 (-1) (-1) (-1) 0 0 []) v = true := by have := of_decide_eq_false hcv; rw [hasF_iff]; omega
      exact ⟨(false, s19), ⟨rfl, rfl, rfl, rfl, rfl, rfl, trivial⟩, by rw [if_neg hh]; rfl, H⟩
  clear H
  rintro ⟨n55, s55⟩ w ⟨hr55, H⟩
  dsimp only at hr55 H
  ((conv=>whnf);repeat(first|(refine mvT ?_;conv=>whnf)|(refine mvF ?_;conv=>whnf)|(refine cT (by rfl) ?_;conv=>whnf)|(refine cF (by rfl) ?_;conv=>whnf)))
  replace H : St w0 G0 p pb s55 ((p, ty, [] ++ [.int .i16 v, str u1, c4, c19, .bool n55, .map none] ++ []) :: []) P54 w := H
  (refine mvB ?_;((conv=>whnf);repeat(first|(refine mvT ?_;conv=>whnf)|(refine mvF ?_;conv=>whnf)|(refine cT (by rfl) ?_;conv=>whnf)|(refine cF (by rfl) ?_;conv=>whnf))))
  refine VC.cutE (fun q : Value × List Tg × Rd => [(0, .pointer (some ⟨p, 0, none⟩)), (2, .bool false), (7, .pointer (some ⟨pb, 0, none⟩)), (8, .int .i16 v), (9, .bool fx), (10, .pointer (some ⟨p, 0, none⟩))]) (fun q w' => rdTagsF fx s55 = q.2 ∧ St w0 G0 p pb q.2.2 ((p, ty, [] ++ [.int .i16 v, str u1, c4, c19, .bool n55, q.1] ++ []) :: []) (fun w => TGf w0 G0 q.1 q.2.1 w ∧ P54 w) w') ?_ ?_
  · refine cI (by rfl) (fun hc=>?_) (fun hc=>?_)
    · ((conv=>whnf);repeat(first|(refine mvT ?_;conv=>whnf)|(refine mvF ?_;conv=>whnf)|(refine cT (by rfl) ?_;conv=>whnf)|(refine cF (by rfl) ?_;conv=>whnf)))
      refine Does.mono H.tags ?_
      rintro r w ⟨m, u, s', rfl, hone, hr, H⟩
      ((conv=>whnf);repeat(first|(refine mvT ?_;conv=>whnf)|(refine mvF ?_;conv=>whnf)|(refine cT (by rfl) ?_;conv=>whnf)|(refine cF (by rfl) ?_;conv=>whnf)))
      refine H.st1 (v := m) 5 (rfl) (hone) rfl (by simp) rfl (Nat.lt_of_lt_of_le (Nat.lt_succ_self _) (Nat.le_of_ble_eq_true rfl)) ?_
      intro w H
      ((conv=>whnf);repeat(first|(refine mvT ?_;conv=>whnf)|(refine mvF ?_;conv=>whnf)|(refine cT (by rfl) ?_;conv=>whnf)|(refine cF (by rfl) ?_;conv=>whnf)))
      exact ⟨(m, u, s'), ⟨rfl, rfl, rfl, rfl, rfl, rfl, trivial⟩, by rw [rdTagsF, if_pos hc]; exact hr, H⟩
    · ((conv=>whnf);repeat(first|(refine mvT ?_;conv=>whnf)|(refine mvF ?_;conv=>whnf)|(refine cT (by rfl) ?_;conv=>whnf)|(refine cF (by rfl) ?_;conv=>whnf)))
      exact ⟨(.map none, [], s55), ⟨rfl, rfl, rfl, rfl, rfl, rfl, trivial⟩, by rw [rdTagsF, if_neg (by rw [hc]; decide)], H.add fun w' _ => TagsR.nil _ _⟩
  clear H
  rintro ⟨m58, u58, s58⟩ w ⟨htg, H⟩
  dsimp only at htg H
  ((conv=>whnf);repeat(first|(refine mvT ?_;conv=>whnf)|(refine mvF ?_;conv=>whnf)|(refine cT (by rfl) ?_;conv=>whnf)|(refine cF (by rfl) ?_;conv=>whnf)))
  obtain ⟨P59, hP59⟩ : ∃ P : World → Prop, P = fun w => TGf w0 G0 m58 u58 w ∧ P54 w := ⟨_, rfl⟩
  replace H : St w0 G0 p pb s58 ((p, ty, [] ++ [.int .i16 v, str u1, c4, c19, .bool n55, m58] ++ []) :: []) P59 w := by rw [hP59]; exact H
  have hpart : rdPart 9 v fx dOffsetFetchRequest (l, false) = (.mk 0 [] false [.mk 0 u1 false [] [], .mk 0 [] nl4 l4 [], .mk 0 [] nl19 l19 [], numT (if n55 = true then 1 else 0)] u58, s58) := by
    unfold rdPart rdPartW
    rw [rdTail_plain (by decide)]
    rw [rdAll_ver hr1 (by decide), rdAll_ver hr4 (by decide), rdAll_ver hr19 (by decide), rdAll_ver hr55 (by decide)]
    simp only [rdAll]
    rw [htg]
  refine Does.mono (H.done hL hp1) ?_
  rintro r w ⟨rfl, H⟩
  ((conv=>whnf);repeat(first|(refine mvT ?_;conv=>whnf)|(refine mvF ?_;conv=>whnf)|(refine cT (by rfl) ?_;conv=>whnf)|(refine cF (by rfl) ?_;conv=>whnf)))
  refine RdPost.end hpart H fun hP => ?_
  rw [hP59] at hP
  obtain ⟨hf59_, hP⟩ := hP
  rw [hP54] at hP
  obtain ⟨hf54_, hP⟩ := hP
  rw [hP18] at hP
  obtain ⟨hf18_, hP⟩ := hP
  exact QPt (QA1 (QF8 (by decide) u1) (QA1 (QF11 hnl4 hf18_) (QA1 (QF11 hnl19 hf54_) (QA1 (QF0 n55) (QA0))))) hf59_
end Go.Proofs.YtlnhbbpmlfaakaaGreatDoorR.K
