/- Reading of DescribeDelegationTokenResponse. -/
import Derived.Test.YtanohglljnajiaaGreatDoorE5
set_option linter.unusedVariables false
set_option linter.unusedSimpArgs false
namespace Go.Proofs.YtanohglljnajiaaGreatDoor.K
open Go
set_option maxHeartbeats 4000000
set_option maxRecDepth 100000

abbrev dDescribeDelegationTokenResponseTokenDetailRenewer : List Fd := [.mk 8 0 (-1) (-1) (-1) 0 0 [], .mk 8 0 (-1) (-1) (-1) 0 0 []]
abbrev dDescribeDelegationTokenResponseTokenDetail : List Fd := [.mk 8 0 (-1) (-1) (-1) 0 0 [], .mk 8 0 (-1) (-1) (-1) 0 0 [], .mk 8 3 (-1) (-1) (-1) 0 0 [], .mk 8 3 (-1) (-1) (-1) 0 0 [], .mk 4 0 (-1) (-1) (-1) 0 0 [], .mk 4 0 (-1) (-1) (-1) 0 0 [], .mk 4 0 (-1) (-1) (-1) 0 0 [], .mk 8 0 (-1) (-1) (-1) 0 0 [], .mk 9 0 (-1) (-1) (-1) 0 0 [], .mk 11 0 (-1) (-1) (-1) 0 10 dDescribeDelegationTokenResponseTokenDetailRenewer]
abbrev dDescribeDelegationTokenResponse : List Fd := [.mk 2 0 (-1) (-1) (-1) 0 0 [], .mk 11 0 (-1) (-1) (-1) 0 10 dDescribeDelegationTokenResponseTokenDetail, .mk 3 0 (-1) (-1) (-1) 0 0 []]
theorem sDescribeDelegationTokenResponseTokenDetailRenewer (w : World) : Does X.P 126 #[] w fun r w' => FdsR w' (fun k => w.heap.size ≤ k) r dDescribeDelegationTokenResponseTokenDetailRenewer ∧ Ext nob w w' := by
  have hx0 : Ext nob w w := Ext.refl _ _
  refine Does.go (X := X) (l := []) Tryz.func126 rfl (by kernel_rfl) (by kernel_rfl) _ rfl ?_
  ((conv=>whnf);repeat(first|(refine mvT ?_;conv=>whnf)|(refine mvF ?_;conv=>whnf)|(refine cT (by rfl) ?_;conv=>whnf)|(refine cF (by rfl) ?_;conv=>whnf)))
  have hxs := hx0
  intro b wb hb ho hx
  have hx0 := hx0.e0 hx
  ((conv=>whnf);repeat(first|(refine mvT ?_;conv=>whnf)|(refine mvF ?_;conv=>whnf)|(refine cT (by rfl) ?_;conv=>whnf)|(refine cF (by rfl) ?_;conv=>whnf)))
  refine ⟨?_, hx0⟩
  exact FdL.fds (cs := [[.int .i64 8, .int .i64 0, .int .i64 (-1), .int .i64 (-1), .int .i64 (-1), .int .i64 0, .int .i64 0, .slice none 0 0], [.int .i64 8, .int .i64 0, .int .i64 (-1), .int .i64 (-1), .int .i64 (-1), .int .i64 0, .int .i64 0, .slice none 0 0]])
    ⟨fdLeaf _ _ _ _ _ _ _ _ _, fdLeaf _ _ _ _ _ _ _ _ _, trivial⟩ ho rfl (by decide) (by have := hxs.size; omega)
theorem sDescribeDelegationTokenResponseTokenDetail (w : World) : Does X.P 77 #[] w fun r w' => FdsR w' (fun k => w.heap.size ≤ k) r dDescribeDelegationTokenResponseTokenDetail ∧ Ext nob w w' := by
  have hx0 : Ext nob w w := Ext.refl _ _
  refine Does.go (X := X) (l := []) Tryz.func77 rfl (by kernel_rfl) (by kernel_rfl) _ rfl ?_
  ((conv=>whnf);repeat(first|(refine mvT ?_;conv=>whnf)|(refine mvF ?_;conv=>whnf)|(refine cT (by rfl) ?_;conv=>whnf)|(refine cF (by rfl) ?_;conv=>whnf)))
  refine Does.mono (sDescribeDelegationTokenResponseTokenDetailRenewer w) ?_
  rintro v9 wv9 ⟨hv9, hc⟩
  have hv9 := hv9.mono (F' := fun k => w.heap.size ≤ k) fun k _ h => Nat.le_trans hx0.size h
  obtain ⟨lv9, gv9, _⟩ := id hv9
  obtain ⟨av9, kv9, rfl, _⟩ := gv9.view
  ((conv=>whnf);repeat(first|(refine mvT ?_;conv=>whnf)|(refine mvF ?_;conv=>whnf)|(refine cT (by rfl) ?_;conv=>whnf)|(refine cF (by rfl) ?_;conv=>whnf)))
  have hx0 := hx0.e0 hc
  have hxs := hx0
  intro b wb hb ho hx
  have hx0 := hx0.e0 hx
  ((conv=>whnf);repeat(first|(refine mvT ?_;conv=>whnf)|(refine mvF ?_;conv=>whnf)|(refine cT (by rfl) ?_;conv=>whnf)|(refine cF (by rfl) ?_;conv=>whnf)))
  refine ⟨?_, hx0⟩
  exact FdL.fds (cs := [[.int .i64 8, .int .i64 0, .int .i64 (-1), .int .i64 (-1), .int .i64 (-1), .int .i64 0, .int .i64 0, .slice none 0 0], [.int .i64 8, .int .i64 0, .int .i64 (-1), .int .i64 (-1), .int .i64 (-1), .int .i64 0, .int .i64 0, .slice none 0 0], [.int .i64 8, .int .i64 3, .int .i64 (-1), .int .i64 (-1), .int .i64 (-1), .int .i64 0, .int .i64 0, .slice none 0 0], [.int .i64 8, .int .i64 3, .int .i64 (-1), .int .i64 (-1), .int .i64 (-1), .int .i64 0, .int .i64 0, .slice none 0 0], [.int .i64 4, .int .i64 0, .int .i64 (-1), .int .i64 (-1), .int .i64 (-1), .int .i64 0, .int .i64 0, .slice none 0 0], [.int .i64 4, .int .i64 0, .int .i64 (-1), .int .i64 (-1), .int .i64 (-1), .int .i64 0, .int .i64 0, .slice none 0 0], [.int .i64 4, .int .i64 0, .int .i64 (-1), .int .i64 (-1), .int .i64 (-1), .int .i64 0, .int .i64 0, .slice none 0 0], [.int .i64 8, .int .i64 0, .int .i64 (-1), .int .i64 (-1), .int .i64 (-1), .int .i64 0, .int .i64 0, .slice none 0 0], [.int .i64 9, .int .i64 0, .int .i64 (-1), .int .i64 (-1), .int .i64 (-1), .int .i64 0, .int .i64 0, .slice none 0 0], [.int .i64 11, .int .i64 0, .int .i64 (-1), .int .i64 (-1), .int .i64 (-1), .int .i64 0, .int .i64 10, .slice av9 lv9.length kv9]])
    ⟨fdLeaf _ _ _ _ _ _ _ _ _, fdLeaf _ _ _ _ _ _ _ _ _, fdLeaf _ _ _ _ _ _ _ _ _, fdLeaf _ _ _ _ _ _ _ _ _, fdLeaf _ _ _ _ _ _ _ _ _, fdLeaf _ _ _ _ _ _ _ _ _, fdLeaf _ _ _ _ _ _ _ _ _, fdLeaf _ _ _ _ _ _ _ _ _, fdLeaf _ _ _ _ _ _ _ _ _, FdC.of (hv9.e0 hx) _ _ _ _ _ _ _, trivial⟩ ho rfl (by decide) (by have := hxs.size; omega)
theorem sDescribeDelegationTokenResponse (w : World) : Does X.P 33 #[] w fun r w' => Msg w' (fun k => w.heap.size ≤ k) r dDescribeDelegationTokenResponse 2 ∧ Ext nob w w' := by
  have hx0 : Ext nob w w := Ext.refl _ _
  refine Does.go (X := X) (l := []) Tryz.func33 rfl (by kernel_rfl) (by kernel_rfl) _ rfl ?_
  ((conv=>whnf);repeat(first|(refine mvT ?_;conv=>whnf)|(refine mvF ?_;conv=>whnf)|(refine cT (by rfl) ?_;conv=>whnf)|(refine cF (by rfl) ?_;conv=>whnf)))
  intro b w1 hb ho hx
  have hx0 := hx0.e0 hx
  have ho := ho
  ((conv=>whnf);repeat(first|(refine mvT ?_;conv=>whnf)|(refine mvF ?_;conv=>whnf)|(refine cT (by rfl) ?_;conv=>whnf)|(refine cF (by rfl) ?_;conv=>whnf)))
  refine Does.mono (sDescribeDelegationTokenResponseTokenDetail w1) ?_
  rintro v1 wv1 ⟨hv1, hc⟩
  have hv1 := hv1.mono (F' := fun k => w.heap.size ≤ k ∧ b < k) fun k _ h => ⟨Nat.le_trans hx0.size h, Nat.lt_of_lt_of_le ho.lt h⟩
  obtain ⟨lv1, gv1, _⟩ := id hv1
  obtain ⟨av1, kv1, rfl, _⟩ := gv1.view
  ((conv=>whnf);repeat(first|(refine mvT ?_;conv=>whnf)|(refine mvF ?_;conv=>whnf)|(refine cT (by rfl) ?_;conv=>whnf)|(refine cF (by rfl) ?_;conv=>whnf)))
  have hx0 := hx0.e0 hc
  have ho := ho.e0 hc
  have hxs := hx0
  intro b2 w2 hb2 ho2 hx2
  ((conv=>whnf);repeat(first|(refine mvT ?_;conv=>whnf)|(refine mvF ?_;conv=>whnf)|(refine cT (by rfl) ?_;conv=>whnf)|(refine cF (by rfl) ?_;conv=>whnf)))
  have hx0 := hx0.e0 hx2
  refine ⟨_, _, ho.e0 hx2, rfl, rfl, rfl, ?_⟩
  intro w3 ho3 hx3
  have hx03 := hx0.st hx3 hb
  ((conv=>whnf);repeat(first|(refine mvT ?_;conv=>whnf)|(refine mvF ?_;conv=>whnf)|(refine cT (by rfl) ?_;conv=>whnf)|(refine cF (by rfl) ?_;conv=>whnf)))
  refine ⟨_, rfl, ho3.cells, ?_⟩
  refine ⟨⟨_, rfl, ?_⟩, hx03⟩
  have ho2 := ho2.ext hx3 (by have := ho.lt; omega)
  have hs := hx0.size
  have hs2 : w.heap.size ≤ b2 := Nat.le_trans hxs.size hb2
  exact FdL.fds (cs := [[.int .i64 2, .int .i64 0, .int .i64 (-1), .int .i64 (-1), .int .i64 (-1), .int .i64 0, .int .i64 0, .slice none 0 0], [.int .i64 11, .int .i64 0, .int .i64 (-1), .int .i64 (-1), .int .i64 (-1), .int .i64 0, .int .i64 10, .slice av1 lv1.length kv1], [.int .i64 3, .int .i64 0, .int .i64 (-1), .int .i64 (-1), .int .i64 (-1), .int .i64 0, .int .i64 0, .slice none 0 0]])
    ⟨fdLeaf _ _ _ _ _ _ _ _ _, FdC.of (FdsR.mono (FdsR.ext (FdsR.e0 hv1 hx2) hx3 fun k _ h1 h2 => by omega) fun k _ h => h.1) _ _ _ _ _ _ _, fdLeaf _ _ _ _ _ _ _ _ _, trivial⟩ ho2 rfl (by decide) (by omega)
theorem dfDescribeDelegationTokenResponseTokenDetailRenewer {w : World} {q o : Nat} {T : TypeId} {pre cur post : List Value} (ho : Own w q T (pre ++ cur ++ post)) (hp : pre.length = o) (hl : cur.length = 3) :
    Does X.P 177 #[.pointer (some ⟨q, o, none⟩)] w fun r w' => Own w' q T (pre ++ cur ++ post) ∧ Ext (fun k => k = q) w w' := by
  have hx : Ext (fun k => k = q) w w := Ext.refl _ _
  refine Does.go (X := X) (l := [_]) Tryz.func177 rfl (by kernel_rfl) (by kernel_rfl) _ rfl ?_
  ((conv=>whnf);repeat(first|(refine mvT ?_;conv=>whnf)|(refine mvF ?_;conv=>whnf)|(refine cT (by rfl) ?_;conv=>whnf)|(refine cF (by rfl) ?_;conv=>whnf)))
  exact ⟨ho, hx⟩
theorem dfDescribeDelegationTokenResponseTokenDetail {w : World} {q o : Nat} {T : TypeId} {pre cur post : List Value} (ho : Own w q T (pre ++ cur ++ post)) (hp : pre.length = o) (hl : cur.length = 11) :
    Does X.P 176 #[.pointer (some ⟨q, o, none⟩)] w fun r w' => Own w' q T (pre ++ cur ++ post) ∧ Ext (fun k => k = q) w w' := by
  have hx : Ext (fun k => k = q) w w := Ext.refl _ _
  refine Does.go (X := X) (l := [_]) Tryz.func176 rfl (by kernel_rfl) (by kernel_rfl) _ rfl ?_
  ((conv=>whnf);repeat(first|(refine mvT ?_;conv=>whnf)|(refine mvF ?_;conv=>whnf)|(refine cT (by rfl) ?_;conv=>whnf)|(refine cF (by rfl) ?_;conv=>whnf)))
  exact ⟨ho, hx⟩
theorem dfDescribeDelegationTokenResponse {w : World} {q o : Nat} {T : TypeId} {pre cur post : List Value} (ho : Own w q T (pre ++ cur ++ post)) (hp : pre.length = o) (hl : cur.length = 5) :
    Does X.P 125 #[.pointer (some ⟨q, o, none⟩)] w fun r w' => Own w' q T (pre ++ cur ++ post) ∧ Ext (fun k => k = q) w w' := by
  have hx : Ext (fun k => k = q) w w := Ext.refl _ _
  refine Does.go (X := X) (l := [_]) Tryz.func125 rfl (by kernel_rfl) (by kernel_rfl) _ rfl ?_
  ((conv=>whnf);repeat(first|(refine mvT ?_;conv=>whnf)|(refine mvF ?_;conv=>whnf)|(refine cT (by rfl) ?_;conv=>whnf)|(refine cF (by rfl) ?_;conv=>whnf)))
  exact ⟨ho, hx⟩
theorem readDescribeDelegationTokenResponse {w0 : World} {F : Nat → Prop} {p : Nat} {ty : TypeId} {v : Int} {x ev : Value} {l : List UInt8} (hL : Laid w0 ev) (hp : Own w0 p ty [.int .i16 v, .int .i16 0, .slice none 0 0, .int .i32 0, .map none]) (hx : Bytes w0 F x l) (hF : ∀ k, F k → k ≠ p) (hv : 0 ≤ v) (hp1 : p ≠ errG) :
    Does X.P 127 #[.pointer (some ⟨p, 0, none⟩), x, .bool false] w0 fun r w' => RdPost w0 p ty v (decide (v ≥ 2)) true dDescribeDelegationTokenResponse ev l r w' := by
  have hpl := hp.lt
  obtain ⟨fx, hfx⟩ : ∃ fx, fx = decide (v ≥ 2) := ⟨_, rfl⟩
  rw [← hfx]
  obtain ⟨G0, hG0, hx⟩ : ∃ G0 : Nat → Prop, (∀ k, G0 k → k < w0.heap.size ∧ k ≠ p) ∧ Bytes w0 G0 x l := ⟨fun k => F k ∧ k < w0.heap.size, fun k h => ⟨h.2, hF k h.1⟩, Sl.mono hx fun k hk h => ⟨h, hk⟩⟩
  obtain ⟨a0, c0, rfl, _⟩ := hx.view
  refine Does.go (X := X) (l := [_, _, _]) Tryz.func127 rfl (by kernel_rfl) (by kernel_rfl) _ rfl ?_
  ((conv=>whnf);repeat(first|(refine mvT ?_;conv=>whnf)|(refine mvF ?_;conv=>whnf)|(refine cT (by rfl) ?_;conv=>whnf)|(refine cF (by rfl) ?_;conv=>whnf)))
  refine Does.mono (dfDescribeDelegationTokenResponse (pre := []) (cur := [.int .i16 v, .int .i16 0, .slice none 0 0, .int .i32 0, .map none]) (post := []) (by simpa using hp) rfl rfl) ?_
  rintro rd wd ⟨hpd, hxd⟩
  ((conv=>whnf);repeat(first|(refine mvT ?_;conv=>whnf)|(refine mvF ?_;conv=>whnf)|(refine cT (by rfl) ?_;conv=>whnf)|(refine cF (by rfl) ?_;conv=>whnf)))
  intro pb w1 hpb hb hx1
  ((conv=>whnf);repeat(first|(refine mvT ?_;conv=>whnf)|(refine mvF ?_;conv=>whnf)|(refine cT (by rfl) ?_;conv=>whnf)|(refine cF (by rfl) ?_;conv=>whnf)))
  refine st_all [.slice a0 l.length c0, .bool false] hb rfl rfl rfl ?_
  intro w hb hx2
  ((conv=>whnf);repeat(first|(refine mvT ?_;conv=>whnf)|(refine mvF ?_;conv=>whnf)|(refine cT (by rfl) ?_;conv=>whnf)|(refine cF (by rfl) ?_;conv=>whnf)))
  have hsd := hxd.size
  have hwp : w0.heap.size ≤ pb := by omega
  have he1 : Ext nob wd w := hx1.trans hx2 fun k hk h => by omega
  have hpw : Own w p ty [.int .i16 v, .int .i16 0, .slice none 0 0, .int .i32 0, .map none] := by have := hpd.e0 he1; simpa using this
  have he := hxd.tr0 he1
  have H := St.init hpw hb (hx.ext he fun k _ h => (hG0 k h).2) hG0 he hpl hwp
  clear hpd hxd hx1 hx2 hb hpw he1 hp
  refine ldS (H.cell (o := 0) rfl (k := 0) rfl) ?_;((conv=>whnf);repeat(first|(refine mvT ?_;conv=>whnf)|(refine mvF ?_;conv=>whnf)|(refine cT (by rfl) ?_;conv=>whnf)|(refine cF (by rfl) ?_;conv=>whnf)))
  rw [← hfx]
  (refine mvB ?_;((conv=>whnf);repeat(first|(refine mvT ?_;conv=>whnf)|(refine mvF ?_;conv=>whnf)|(refine cT (by rfl) ?_;conv=>whnf)|(refine cF (by rfl) ?_;conv=>whnf))))
  have hup0 : tailBad 9 v fx dDescribeDelegationTokenResponse (l, false) = true → (rdPart 9 v fx dDescribeDelegationTokenResponse (l, false)).2.2 = true := id
  refine Does.mono H.int16 ?_
  rintro r w ⟨n1, s1, rfl, hn1, hr1, H⟩
  ((conv=>whnf);repeat(first|(refine mvT ?_;conv=>whnf)|(refine mvF ?_;conv=>whnf)|(refine cT (by rfl) ?_;conv=>whnf)|(refine cF (by rfl) ?_;conv=>whnf)))
  refine H.st1 (v := .int .i16 n1) 1 (rfl) (rfl) rfl (by simp) rfl (Nat.lt_of_lt_of_le (Nat.lt_succ_self _) (Nat.le_of_ble_eq_true rfl)) ?_
  intro w H
  ((conv=>whnf);repeat(first|(refine mvT ?_;conv=>whnf)|(refine mvF ?_;conv=>whnf)|(refine cT (by rfl) ?_;conv=>whnf)|(refine cF (by rfl) ?_;conv=>whnf)))
  replace H : St w0 G0 p pb s1 ((p, ty, [] ++ [.int .i16 v, .int .i16 n1, .slice none 0 0, .int .i32 0, .map none] ++ []) :: []) (fun _ => True) w := H
  refine ldS (H.cell (o := 0) rfl (k := 2) rfl) ?_;((conv=>whnf);repeat(first|(refine mvT ?_;conv=>whnf)|(refine mvF ?_;conv=>whnf)|(refine cT (by rfl) ?_;conv=>whnf)|(refine cF (by rfl) ?_;conv=>whnf)))
  (refine mvB ?_;((conv=>whnf);repeat(first|(refine mvT ?_;conv=>whnf)|(refine mvF ?_;conv=>whnf)|(refine cT (by rfl) ?_;conv=>whnf)|(refine cF (by rfl) ?_;conv=>whnf))))
  refine VC.cutE (fun q : Int × Rd => [(14, .int .i32 q.1), (13, .slice none 0 0), (0, .pointer (some ⟨p, 0, none⟩)), (2, .bool false), (7, .pointer (some ⟨pb, 0, none⟩)), (8, .int .i16 v), (9, .bool fx), (10, .pointer (some ⟨p, 0, none⟩))]) (fun q w' => (-2147483648 ≤ q.1 ∧ q.1 ≤ 2147483647) ∧ rdLn fx s1 = q ∧ St w0 G0 p pb q.2 ((p, ty, [] ++ [.int .i16 v, .int .i16 n1, .slice none 0 0, .int .i32 0, .map none] ++ []) :: []) (fun _ => True) w') ?_ ?_
  · refine cI (by rfl) (fun hc=>?_) (fun hc=>?_)
    · ((conv=>whnf);repeat(first|(refine mvT ?_;conv=>whnf)|(refine mvF ?_;conv=>whnf)|(refine cT (by rfl) ?_;conv=>whnf)|(refine cF (by rfl) ?_;conv=>whnf)))
      refine Does.mono H.lnc ?_
      rintro r w ⟨n, s', rfl, hn, hr, H⟩
      ((conv=>whnf);repeat(first|(refine mvT ?_;conv=>whnf)|(refine mvF ?_;conv=>whnf)|(refine cT (by rfl) ?_;conv=>whnf)|(refine cF (by rfl) ?_;conv=>whnf)))
      exact ⟨(n, s'), ⟨rfl, rfl, rfl, rfl, rfl, rfl, rfl, rfl, trivial⟩, hn, by rw [hc]; exact hr, H⟩
    · ((conv=>whnf);repeat(first|(refine mvT ?_;conv=>whnf)|(refine mvF ?_;conv=>whnf)|(refine cT (by rfl) ?_;conv=>whnf)|(refine cF (by rfl) ?_;conv=>whnf)))
      refine Does.mono H.lnp ?_
      rintro r w ⟨n, s', rfl, hn, hr, H⟩
      ((conv=>whnf);repeat(first|(refine mvT ?_;conv=>whnf)|(refine mvF ?_;conv=>whnf)|(refine cT (by rfl) ?_;conv=>whnf)|(refine cF (by rfl) ?_;conv=>whnf)))
      exact ⟨(n, s'), ⟨rfl, rfl, rfl, rfl, rfl, rfl, rfl, rfl, trivial⟩, hn, by rw [hc]; exact hr, H⟩
  clear H
  rintro ⟨n3, s3⟩ w ⟨hn3, hln3, H⟩
  dsimp only at hn3 hln3 H
  ((conv=>whnf);repeat(first|(refine mvT ?_;conv=>whnf)|(refine mvF ?_;conv=>whnf)|(refine cT (by rfl) ?_;conv=>whnf)|(refine cF (by rfl) ?_;conv=>whnf)))
  refine Does.mono H.ok ?_
  rintro r w ⟨rfl, H⟩
  ((conv=>whnf);repeat(first|(refine mvT ?_;conv=>whnf)|(refine mvF ?_;conv=>whnf)|(refine cT (by rfl) ?_;conv=>whnf)|(refine cF (by rfl) ?_;conv=>whnf)))
  refine cI (by rfl) (fun hbd=>?_) (fun hbd=>?_)
  · have hbd : s3.2 = true := by simpa using hbd
    ((conv=>whnf);repeat(first|(refine mvT ?_;conv=>whnf)|(refine mvF ?_;conv=>whnf)|(refine cT (by rfl) ?_;conv=>whnf)|(refine cF (by rfl) ?_;conv=>whnf)))
    refine Does.mono (H.done hL hp1) ?_
    rintro r w ⟨rfl, H⟩
    ((conv=>whnf);repeat(first|(refine mvT ?_;conv=>whnf)|(refine mvF ?_;conv=>whnf)|(refine cT (by rfl) ?_;conv=>whnf)|(refine cF (by rfl) ?_;conv=>whnf)))
    refine RdPost.early hbd (hup0 (?_)) H
    rw [tail_yes (rdField2.trans hr1) ⟨by decide, has_all hv⟩, tail_len ⟨by decide, has_all hv⟩ hln3 hbd]
  have hbd : s3.2 = false := by simpa using hbd
  clear hbd
  ((conv=>whnf);repeat(first|(refine mvT ?_;conv=>whnf)|(refine mvF ?_;conv=>whnf)|(refine cT (by rfl) ?_;conv=>whnf)|(refine cF (by rfl) ?_;conv=>whnf)))
  refine cut_zero ?_
  ((conv=>whnf);repeat(first|(refine mvT ?_;conv=>whnf)|(refine mvF ?_;conv=>whnf)|(refine cT (by rfl) ?_;conv=>whnf)|(refine cF (by rfl) ?_;conv=>whnf)))
  refine VC.cutE (fun a : Value => [(14, .int .i32 n3), (13, a), (0, .pointer (some ⟨p, 0, none⟩)), (2, .bool false), (7, .pointer (some ⟨pb, 0, none⟩)), (8, .int .i16 v), (9, .bool fx), (10, .pointer (some ⟨p, 0, none⟩))]) (fun a w' => ListI w0 G0 p pb 170 [str [], str [], str [], str [], .int .i64 0, .int .i64 0, .int .i64 0, str [], .slice none 0 0, .slice none 0 0, .map none] (elR 8 v fx 10 dDescribeDelegationTokenResponseTokenDetail) (elQ true 8 10 dDescribeDelegationTokenResponseTokenDetail) s3 n3 (decide (n3 ≤ 0)) ((p, ty, [] ++ [.int .i16 v, .int .i16 n1, .slice none 0 0, .int .i32 0, .map none] ++ []) :: []) (fun _ => True) a 0 w') ?_ ?_
  · refine cI (by rfl) (fun hps=>?_) (fun hps=>?_)
    · have hps : 0 < n3 := by have := of_decide_eq_true hps; omega
      ((conv=>whnf);repeat(first|(refine mvT ?_;conv=>whnf)|(refine mvF ?_;conv=>whnf)|(refine cT (by rfl) ?_;conv=>whnf)|(refine cF (by rfl) ?_;conv=>whnf)))
      refine H.grow hps hn3.2 (by decide) rfl rfl (by decide) ?_
      intro g cap post w hc1 hc2 H
      ((conv=>whnf);repeat(first|(refine mvT ?_;conv=>whnf)|(refine mvF ?_;conv=>whnf)|(refine cT (by rfl) ?_;conv=>whnf)|(refine cF (by rfl) ?_;conv=>whnf)))
      exact ⟨_, ⟨rfl, rfl, rfl, rfl, rfl, rfl, rfl, rfl, trivial⟩, ListI.some hps (decide_eq_false (by omega)) hc1 hc2 H⟩
    · have hps : n3 ≤ 0 := by have := of_decide_eq_false hps; omega
      ((conv=>whnf);repeat(first|(refine mvT ?_;conv=>whnf)|(refine mvF ?_;conv=>whnf)|(refine cT (by rfl) ?_;conv=>whnf)|(refine cF (by rfl) ?_;conv=>whnf)))
      exact ⟨_, ⟨rfl, rfl, rfl, rfl, rfl, rfl, rfl, rfl, trivial⟩, ListI.none hps (decide_eq_true hps) H⟩
  clear H
  rintro a3 w H
  ((conv=>whnf);repeat(first|(refine mvT ?_;conv=>whnf)|(refine mvF ?_;conv=>whnf)|(refine cT (by rfl) ?_;conv=>whnf)|(refine cF (by rfl) ?_;conv=>whnf)))
  have hpL3 : inL ((p, ty, [] ++ [.int .i16 v, .int .i16 n1, .slice none 0 0, .int .i32 0, .map none] ++ []) :: []) p := inL.head _ _
  refine VL.loop (fun i : Nat => [(14, .int .i32 n3), (13, a3), (15, .int .i32 i), (0, .pointer (some ⟨p, 0, none⟩)), (2, .bool false), (7, .pointer (some ⟨pb, 0, none⟩)), (8, .int .i16 v), (9, .bool fx), (10, .pointer (some ⟨p, 0, none⟩))]) (fun i w' => i ≤ 2147483647 ∧ ListI w0 G0 p pb 170 [str [], str [], str [], str [], .int .i64 0, .int .i64 0, .int .i64 0, str [], .slice none 0 0, .slice none 0 0, .map none] (elR 8 v fx 10 dDescribeDelegationTokenResponseTokenDetail) (elQ true 8 10 dDescribeDelegationTokenResponseTokenDetail) s3 n3 (decide (n3 ≤ 0)) ((p, ty, [] ++ [.int .i16 v, .int .i16 n1, .slice none 0 0, .int .i32 0, .map none] ++ []) :: []) (fun _ => True) a3 i w') (fun i => n3.toNat - i) 0 ⟨rfl, rfl, rfl, rfl, rfl, rfl, rfl, rfl, rfl, trivial⟩ ⟨by decide, H⟩ ?_
  clear H
  rintro i3 w ⟨hi3, H⟩
  ((conv=>whnf);repeat(first|(refine mvT ?_;conv=>whnf)|(refine mvF ?_;conv=>whnf)|(refine cT (by rfl) ?_;conv=>whnf)|(refine cF (by rfl) ?_;conv=>whnf)))
  refine cI (by rfl) (fun h9=>?_) (fun h9=>?_)
  · have hlt3 : (i3 : Int) < n3 := of_decide_eq_true h9
    obtain ⟨g3, cap3, post3, rfl, hgo3, HI⟩ := H.go hlt3
    obtain ⟨es3, ts3, si3, hes3, hez3, hrn3, hts3, hlen1, H⟩ := HI.open hgo3.2.2.2.2
    obtain ⟨L3, hL3⟩ : ∃ L : List Ob, L = ((p, ty, [] ++ [.int .i16 v, .int .i16 n1, .slice none 0 0, .int .i32 0, .map none] ++ []) :: []) := ⟨_, rfl⟩
    rw [← hL3] at H hpL3
    obtain ⟨P3, hP3⟩ : ∃ P : World → Prop, P = fun w => (∀ (j : Nat) (c : List Value) (y : T), es3[j]? = some c → ts3[j]? = some y → elQ true 8 10 dDescribeDelegationTokenResponseTokenDetail ⟨w, fun k => k ≠ p⟩ c y) ∧ (fun _ => True) w := ⟨_, rfl⟩
    rw [← hP3] at H
    replace H : St w0 G0 p pb si3 ((g3, 170, es3.flatten ++ [str [], str [], str [], str [], .int .i64 0, .int .i64 0, .int .i64 0, str [], .slice none 0 0, .slice none 0 0, .map none] ++ ((List.replicate (n3.toNat - (i3 + 1)) [str [], str [], str [], str [], .int .i64 0, .int .i64 0, .int .i64 0, str [], .slice none 0 0, .slice none 0 0, .map none]).flatten ++ post3)) :: L3) P3 w := H
    ((conv=>whnf);repeat(first|(refine mvT ?_;conv=>whnf)|(refine mvF ?_;conv=>whnf)|(refine cT (by rfl) ?_;conv=>whnf)|(refine cF (by rfl) ?_;conv=>whnf)))
    refine ⟨g3, 0, rfl, ⟨by omega, by omega⟩, ?_⟩
    ((conv=>whnf);repeat(first|(refine mvT ?_;conv=>whnf)|(refine mvF ?_;conv=>whnf)|(refine cT (by rfl) ?_;conv=>whnf)|(refine cF (by rfl) ?_;conv=>whnf)))
    refine Does.mono (dfDescribeDelegationTokenResponseTokenDetail (pre := es3.flatten) (cur := [str [], str [], str [], str [], .int .i64 0, .int .i64 0, .int .i64 0, str [], .slice none 0 0, .slice none 0 0, .map none]) (post := ((List.replicate (n3.toNat - (i3 + 1)) [str [], str [], str [], str [], .int .i64 0, .int .i64 0, .int .i64 0, str [], .slice none 0 0, .slice none 0 0, .map none]).flatten ++ post3)) H.head (by first | (rw [hlen1]; simp; done) | (simp [hlen1]; done) | (simp [hlen1]; omega)) rfl) ?_
    rintro rd w2 ⟨hdf, hxd⟩
    replace H := H.put hdf hxd
    clear hdf hxd
    replace H : St w0 G0 p pb si3 ((g3, 170, es3.flatten ++ [str [], str [], str [], str [], .int .i64 0, .int .i64 0, .int .i64 0, str [], .slice none 0 0, .slice none 0 0, .map none] ++ ((List.replicate (n3.toNat - (i3 + 1)) [str [], str [], str [], str [], .int .i64 0, .int .i64 0, .int .i64 0, str [], .slice none 0 0, .slice none 0 0, .map none]).flatten ++ post3)) :: L3) P3 w2 := H
    ((conv=>whnf);repeat(first|(refine mvT ?_;conv=>whnf)|(refine mvF ?_;conv=>whnf)|(refine cT (by rfl) ?_;conv=>whnf)|(refine cF (by rfl) ?_;conv=>whnf)))
    have hup3 : tailBad 8 v fx dDescribeDelegationTokenResponseTokenDetail si3 = true → (rdPart 9 v fx dDescribeDelegationTokenResponse (l, false)).2.2 = true := by
      intro hb
      refine hup0 ?_
      rw [tail_yes (rdField2.trans hr1) ⟨by decide, has_all hv⟩, tail_el ⟨by decide, has_all hv⟩ hln3 hgo3.2.2.2.2 hrn3 hb]
    (refine mvB ?_;((conv=>whnf);repeat(first|(refine mvT ?_;conv=>whnf)|(refine mvF ?_;conv=>whnf)|(refine cT (by rfl) ?_;conv=>whnf)|(refine cF (by rfl) ?_;conv=>whnf))))
    refine VC.cutE (fun q : List UInt8 × Rd => [(18, str q.1), (0, .pointer (some ⟨p, 0, none⟩)), (2, .bool false), (7, .pointer (some ⟨pb, 0, none⟩)), (8, .int .i16 v), (9, .bool fx), (10, .pointer (some ⟨p, 0, none⟩)), (14, .int .i32 n3), (13, .slice (some ⟨g3, 0, none⟩) n3.toNat cap3), (15, .int .i32 i3), (16, .pointer (some ⟨g3, 0 + (i3 : Int).toNat * 11, none⟩)), (17, .pointer (some ⟨g3, 0 + (i3 : Int).toNat * 11, none⟩))]) (fun q w' => rdTx fx si3 = q ∧ St w0 G0 p pb q.2 ((g3, 170, es3.flatten ++ [str [], str [], str [], str [], .int .i64 0, .int .i64 0, .int .i64 0, str [], .slice none 0 0, .slice none 0 0, .map none] ++ ((List.replicate (n3.toNat - (i3 + 1)) [str [], str [], str [], str [], .int .i64 0, .int .i64 0, .int .i64 0, str [], .slice none 0 0, .slice none 0 0, .map none]).flatten ++ post3)) :: L3) P3 w') ?_ ?_
    · refine cI (by rfl) (fun hc=>?_) (fun hc=>?_)
      · ((conv=>whnf);repeat(first|(refine mvT ?_;conv=>whnf)|(refine mvF ?_;conv=>whnf)|(refine cT (by rfl) ?_;conv=>whnf)|(refine cF (by rfl) ?_;conv=>whnf)))
        refine Does.mono H.txc ?_
        rintro r w ⟨u, s', rfl, hr, H⟩
        ((conv=>whnf);repeat(first|(refine mvT ?_;conv=>whnf)|(refine mvF ?_;conv=>whnf)|(refine cT (by rfl) ?_;conv=>whnf)|(refine cF (by rfl) ?_;conv=>whnf)))
        exact ⟨(u, s'), ⟨rfl, rfl, rfl, rfl, rfl, rfl, rfl, rfl, rfl, rfl, rfl, rfl, trivial⟩, by rw [hc]; exact hr, H⟩
      · ((conv=>whnf);repeat(first|(refine mvT ?_;conv=>whnf)|(refine mvF ?_;conv=>whnf)|(refine cT (by rfl) ?_;conv=>whnf)|(refine cF (by rfl) ?_;conv=>whnf)))
        refine Does.mono H.txp ?_
        rintro r w ⟨u, s', rfl, hr, H⟩
        ((conv=>whnf);repeat(first|(refine mvT ?_;conv=>whnf)|(refine mvF ?_;conv=>whnf)|(refine cT (by rfl) ?_;conv=>whnf)|(refine cF (by rfl) ?_;conv=>whnf)))
        exact ⟨(u, s'), ⟨rfl, rfl, rfl, rfl, rfl, rfl, rfl, rfl, rfl, rfl, rfl, rfl, trivial⟩, by rw [hc]; exact hr, H⟩
    clear H
    rintro ⟨u4, s4⟩ w ⟨hr4, H⟩
    dsimp only at hr4 H
    ((conv=>whnf);repeat(first|(refine mvT ?_;conv=>whnf)|(refine mvF ?_;conv=>whnf)|(refine cT (by rfl) ?_;conv=>whnf)|(refine cF (by rfl) ?_;conv=>whnf)))
    refine H.st1 (v := str u4) 0 (rfl) (rfl) rfl (by first | omega | (simp [hlen1]; done) | (simp [hlen1]; omega)) rfl (Nat.lt_of_lt_of_le (Nat.lt_succ_self _) (Nat.le_of_ble_eq_true rfl)) ?_
    intro w H
    ((conv=>whnf);repeat(first|(refine mvT ?_;conv=>whnf)|(refine mvF ?_;conv=>whnf)|(refine cT (by rfl) ?_;conv=>whnf)|(refine cF (by rfl) ?_;conv=>whnf)))
    replace H : St w0 G0 p pb s4 ((g3, 170, es3.flatten ++ [str u4, str [], str [], str [], .int .i64 0, .int .i64 0, .int .i64 0, str [], .slice none 0 0, .slice none 0 0, .map none] ++ ((List.replicate (n3.toNat - (i3 + 1)) [str [], str [], str [], str [], .int .i64 0, .int .i64 0, .int .i64 0, str [], .slice none 0 0, .slice none 0 0, .map none]).flatten ++ post3)) :: L3) P3 w := H
    (refine mvB ?_;((conv=>whnf);repeat(first|(refine mvT ?_;conv=>whnf)|(refine mvF ?_;conv=>whnf)|(refine cT (by rfl) ?_;conv=>whnf)|(refine cF (by rfl) ?_;conv=>whnf))))
    refine VC.cutE (fun q : List UInt8 × Rd => [(19, str q.1), (0, .pointer (some ⟨p, 0, none⟩)), (2, .bool false), (7, .pointer (some ⟨pb, 0, none⟩)), (8, .int .i16 v), (9, .bool fx), (10, .pointer (some ⟨p, 0, none⟩)), (14, .int .i32 n3), (13, .slice (some ⟨g3, 0, none⟩) n3.toNat cap3), (15, .int .i32 i3), (16, .pointer (some ⟨g3, 0 + (i3 : Int).toNat * 11, none⟩)), (17, .pointer (some ⟨g3, 0 + (i3 : Int).toNat * 11, none⟩))]) (fun q w' => rdTx fx s4 = q ∧ St w0 G0 p pb q.2 ((g3, 170, es3.flatten ++ [str u4, str [], str [], str [], .int .i64 0, .int .i64 0, .int .i64 0, str [], .slice none 0 0, .slice none 0 0, .map none] ++ ((List.replicate (n3.toNat - (i3 + 1)) [str [], str [], str [], str [], .int .i64 0, .int .i64 0, .int .i64 0, str [], .slice none 0 0, .slice none 0 0, .map none]).flatten ++ post3)) :: L3) P3 w') ?_ ?_
    · refine cI (by rfl) (fun hc=>?_) (fun hc=>?_)
      · ((conv=>whnf);repeat(first|(refine mvT ?_;conv=>whnf)|(refine mvF ?_;conv=>whnf)|(refine cT (by rfl) ?_;conv=>whnf)|(refine cF (by rfl) ?_;conv=>whnf)))
        refine Does.mono H.txc ?_
        rintro r w ⟨u, s', rfl, hr, H⟩
        ((conv=>whnf);repeat(first|(refine mvT ?_;conv=>whnf)|(refine mvF ?_;conv=>whnf)|(refine cT (by rfl) ?_;conv=>whnf)|(refine cF (by rfl) ?_;conv=>whnf)))
        exact ⟨(u, s'), ⟨rfl, rfl, rfl, rfl, rfl, rfl, rfl, rfl, rfl, rfl, rfl, rfl, trivial⟩, by rw [hc]; exact hr, H⟩
      · ((conv=>whnf);repeat(first|(refine mvT ?_;conv=>whnf)|(refine mvF ?_;conv=>whnf)|(refine cT (by rfl) ?_;conv=>whnf)|(refine cF (by rfl) ?_;conv=>whnf)))
        refine Does.mono H.txp ?_
        rintro r w ⟨u, s', rfl, hr, H⟩
        ((conv=>whnf);repeat(first|(refine mvT ?_;conv=>whnf)|(refine mvF ?_;conv=>whnf)|(refine cT (by rfl) ?_;conv=>whnf)|(refine cF (by rfl) ?_;conv=>whnf)))
        exact ⟨(u, s'), ⟨rfl, rfl, rfl, rfl, rfl, rfl, rfl, rfl, rfl, rfl, rfl, rfl, trivial⟩, by rw [hc]; exact hr, H⟩
    clear H
    rintro ⟨u6, s6⟩ w ⟨hr6, H⟩
    dsimp only at hr6 H
    ((conv=>whnf);repeat(first|(refine mvT ?_;conv=>whnf)|(refine mvF ?_;conv=>whnf)|(refine cT (by rfl) ?_;conv=>whnf)|(refine cF (by rfl) ?_;conv=>whnf)))
    refine H.st1 (v := str u6) 1 (rfl) (rfl) rfl (by first | omega | (simp [hlen1]; done) | (simp [hlen1]; omega)) rfl (Nat.lt_of_lt_of_le (Nat.lt_succ_self _) (Nat.le_of_ble_eq_true rfl)) ?_
    intro w H
    ((conv=>whnf);repeat(first|(refine mvT ?_;conv=>whnf)|(refine mvF ?_;conv=>whnf)|(refine cT (by rfl) ?_;conv=>whnf)|(refine cF (by rfl) ?_;conv=>whnf)))
    replace H : St w0 G0 p pb s6 ((g3, 170, es3.flatten ++ [str u4, str u6, str [], str [], .int .i64 0, .int .i64 0, .int .i64 0, str [], .slice none 0 0, .slice none 0 0, .map none] ++ ((List.replicate (n3.toNat - (i3 + 1)) [str [], str [], str [], str [], .int .i64 0, .int .i64 0, .int .i64 0, str [], .slice none 0 0, .slice none 0 0, .map none]).flatten ++ post3)) :: L3) P3 w := H
    refine VC.cutE (fun q : List UInt8 × Rd => [(0, .pointer (some ⟨p, 0, none⟩)), (2, .bool false), (7, .pointer (some ⟨pb, 0, none⟩)), (8, .int .i16 v), (9, .bool fx), (10, .pointer (some ⟨p, 0, none⟩)), (14, .int .i32 n3), (13, .slice (some ⟨g3, 0, none⟩) n3.toNat cap3), (15, .int .i32 i3), (16, .pointer (some ⟨g3, 0 + (i3 : Int).toNat * 11, none⟩)), (17, .pointer (some ⟨g3, 0 + (i3 : Int).toNat * 11, none⟩))]) (fun q w' => (if hasF (.mk 8 3 (-1) (-1) (-1) 0 0 []) v = true then rdField 8 v fx (.mk 8 3 (-1) (-1) (-1) 0 0 []) s6 else (dfT 8 (.mk 8 3 (-1) (-1) (-1) 0 0 []), s6)) = (.mk 0 q.1 false [] [], q.2) ∧ St w0 G0 p pb q.2 ((g3, 170, es3.flatten ++ [str u4, str u6, str q.1, str [], .int .i64 0, .int .i64 0, .int .i64 0, str [], .slice none 0 0, .slice none 0 0, .map none] ++ ((List.replicate (n3.toNat - (i3 + 1)) [str [], str [], str [], str [], .int .i64 0, .int .i64 0, .int .i64 0, str [], .slice none 0 0, .slice none 0 0, .map none]).flatten ++ post3)) :: L3) P3 w') ?_ ?_
    · refine cI (by rfl) (fun hcv=>?_) (fun hcv=>?_)
      · ((conv=>whnf);repeat(first|(refine mvT ?_;conv=>whnf)|(refine mvF ?_;conv=>whnf)|(refine cT (by rfl) ?_;conv=>whnf)|(refine cF (by rfl) ?_;conv=>whnf)))
        (refine mvB ?_;((conv=>whnf);repeat(first|(refine mvT ?_;conv=>whnf)|(refine mvF ?_;conv=>whnf)|(refine cT (by rfl) ?_;conv=>whnf)|(refine cF (by rfl) ?_;conv=>whnf))))
        refine VC.cutE (fun q : List UInt8 × Rd => [(20, str q.1), (0, .pointer (some ⟨p, 0, none⟩)), (2, .bool false), (7, .pointer (some ⟨pb, 0, none⟩)), (8, .int .i16 v), (9, .bool fx), (10, .pointer (some ⟨p, 0, none⟩)), (14, .int .i32 n3), (13, .slice (some ⟨g3, 0, none⟩) n3.toNat cap3), (15, .int .i32 i3), (16, .pointer (some ⟨g3, 0 + (i3 : Int).toNat * 11, none⟩)), (17, .pointer (some ⟨g3, 0 + (i3 : Int).toNat * 11, none⟩))]) (fun q w' => rdTx fx s6 = q ∧ St w0 G0 p pb q.2 ((g3, 170, es3.flatten ++ [str u4, str u6, str [], str [], .int .i64 0, .int .i64 0, .int .i64 0, str [], .slice none 0 0, .slice none 0 0, .map none] ++ ((List.replicate (n3.toNat - (i3 + 1)) [str [], str [], str [], str [], .int .i64 0, .int .i64 0, .int .i64 0, str [], .slice none 0 0, .slice none 0 0, .map none]).flatten ++ post3)) :: L3) P3 w') ?_ ?_
        · refine cI (by rfl) (fun hc=>?_) (fun hc=>?_)
          · ((conv=>whnf);repeat(first|(refine mvT ?_;conv=>whnf)|(refine mvF ?_;conv=>whnf)|(refine cT (by rfl) ?_;conv=>whnf)|(refine cF (by rfl) ?_;conv=>whnf)))
            refine Does.mono H.txc ?_
            rintro r w ⟨u, s', rfl, hr, H⟩
            ((conv=>whnf);repeat(first|(refine mvT ?_;conv=>whnf)|(refine mvF ?_;conv=>whnf)|(refine cT (by rfl) ?_;conv=>whnf)|(refine cF (by rfl) ?_;conv=>whnf)))
            exact ⟨(u, s'), ⟨rfl, rfl, rfl, rfl, rfl, rfl, rfl, rfl, rfl, rfl, rfl, rfl, trivial⟩, by rw [hc]; exact hr, H⟩
          · ((conv=>whnf);repeat(first|(refine mvT ?_;conv=>whnf)|(refine mvF ?_;conv=>whnf)|(refine cT (by rfl) ?_;conv=>whnf)|(refine cF (by rfl) ?_;conv=>whnf)))
            refine Does.mono H.txp ?_
            rintro r w ⟨u, s', rfl, hr, H⟩
            ((conv=>whnf);repeat(first|(refine mvT ?_;conv=>whnf)|(refine mvF ?_;conv=>whnf)|(refine cT (by rfl) ?_;conv=>whnf)|(refine cF (by rfl) ?_;conv=>whnf)))
            exact ⟨(u, s'), ⟨rfl, rfl, rfl, rfl, rfl, rfl, rfl, rfl, rfl, rfl, rfl, rfl, trivial⟩, by rw [hc]; exact hr, H⟩
        clear H
        rintro ⟨u9, s9⟩ w ⟨hr9, H⟩
        dsimp only at hr9 H
        ((conv=>whnf);repeat(first|(refine mvT ?_;conv=>whnf)|(refine mvF ?_;conv=>whnf)|(refine cT (by rfl) ?_;conv=>whnf)|(refine cF (by rfl) ?_;conv=>whnf)))
        refine H.st1 (v := str u9) 2 (rfl) (rfl) rfl (by first | omega | (simp [hlen1]; done) | (simp [hlen1]; omega)) rfl (Nat.lt_of_lt_of_le (Nat.lt_succ_self _) (Nat.le_of_ble_eq_true rfl)) ?_
        intro w H
        ((conv=>whnf);repeat(first|(refine mvT ?_;conv=>whnf)|(refine mvF ?_;conv=>whnf)|(refine cT (by rfl) ?_;conv=>whnf)|(refine cF (by rfl) ?_;conv=>whnf)))
        replace H : St w0 G0 p pb s9 ((g3, 170, es3.flatten ++ [str u4, str u6, str u9, str [], .int .i64 0, .int .i64 0, .int .i64 0, str [], .slice none 0 0, .slice none 0 0, .map none] ++ ((List.replicate (n3.toNat - (i3 + 1)) [str [], str [], str [], str [], .int .i64 0, .int .i64 0, .int .i64 0, str [], .slice none 0 0, .slice none 0 0, .map none]).flatten ++ post3)) :: L3) P3 w := H
        have hh : hasF (.mk 8 3 (-1) (-1) (-1) 0 0 []) v = true := by have := of_decide_eq_true hcv; rw [hasF_iff]; omega
        exact ⟨(u9, s9), ⟨rfl, rfl, rfl, rfl, rfl, rfl, rfl, rfl, rfl, rfl, rfl, trivial⟩, by rw [if_pos hh]; exact (rdField8 (by decide) hr9), H⟩
      · ((conv=>whnf);repeat(first|(refine mvT ?_;conv=>whnf)|(refine mvF ?_;conv=>whnf)|(refine cT (by rfl) ?_;conv=>whnf)|(refine cF (by rfl) ?_;conv=>whnf)))
        have hh : ¬ hasF (.mk 8 3 (-1) (-1) (-1) 0 0 []) v = true := by have := of_decide_eq_false hcv; rw [hasF_iff]; omega
        exact ⟨([], s6), ⟨rfl, rfl, rfl, rfl, rfl, rfl, rfl, rfl, rfl, rfl, rfl, trivial⟩, by rw [if_neg hh]; rfl, H⟩
    clear H
    rintro ⟨u8, s8⟩ w ⟨hr8, H⟩
    dsimp only at hr8 H
    ((conv=>whnf);repeat(first|(refine mvT ?_;conv=>whnf)|(refine mvF ?_;conv=>whnf)|(refine cT (by rfl) ?_;conv=>whnf)|(refine cF (by rfl) ?_;conv=>whnf)))
    replace H : St w0 G0 p pb s8 ((g3, 170, es3.flatten ++ [str u4, str u6, str u8, str [], .int .i64 0, .int .i64 0, .int .i64 0, str [], .slice none 0 0, .slice none 0 0, .map none] ++ ((List.replicate (n3.toNat - (i3 + 1)) [str [], str [], str [], str [], .int .i64 0, .int .i64 0, .int .i64 0, str [], .slice none 0 0, .slice none 0 0, .map none]).flatten ++ post3)) :: L3) P3 w := H
    refine VC.cutE (fun q : List UInt8 × Rd => [(0, .pointer (some ⟨p, 0, none⟩)), (2, .bool false), (7, .pointer (some ⟨pb, 0, none⟩)), (8, .int .i16 v), (9, .bool fx), (10, .pointer (some ⟨p, 0, none⟩)), (14, .int .i32 n3), (13, .slice (some ⟨g3, 0, none⟩) n3.toNat cap3), (15, .int .i32 i3), (16, .pointer (some ⟨g3, 0 + (i3 : Int).toNat * 11, none⟩)), (17, .pointer (some ⟨g3, 0 + (i3 : Int).toNat * 11, none⟩))]) (fun q w' => (if hasF (.mk 8 3 (-1) (-1) (-1) 0 0 []) v = true then rdField 8 v fx (.mk 8 3 (-1) (-1) (-1) 0 0 []) s8 else (dfT 8 (.mk 8 3 (-1) (-1) (-1) 0 0 []), s8)) = (.mk 0 q.1 false [] [], q.2) ∧ St w0 G0 p pb q.2 ((g3, 170, es3.flatten ++ [str u4, str u6, str u8, str q.1, .int .i64 0, .int .i64 0, .int .i64 0, str [], .slice none 0 0, .slice none 0 0, .map none] ++ ((List.replicate (n3.toNat - (i3 + 1)) [str [], str [], str [], str [], .int .i64 0, .int .i64 0, .int .i64 0, str [], .slice none 0 0, .slice none 0 0, .map none]).flatten ++ post3)) :: L3) P3 w') ?_ ?_
    · refine cI (by rfl) (fun hcv=>?_) (fun hcv=>?_)
      · ((conv=>whnf);repeat(first|(refine mvT ?_;conv=>whnf)|(refine mvF ?_;conv=>whnf)|(refine cT (by rfl) ?_;conv=>whnf)|(refine cF (by rfl) ?_;conv=>whnf)))
        (refine mvB ?_;((conv=>whnf);repeat(first|(refine mvT ?_;conv=>whnf)|(refine mvF ?_;conv=>whnf)|(refine cT (by rfl) ?_;conv=>whnf)|(refine cF (by rfl) ?_;conv=>whnf))))
        refine VC.cutE (fun q : List UInt8 × Rd => [(21, str q.1), (0, .pointer (some ⟨p, 0, none⟩)), (2, .bool false), (7, .pointer (some ⟨pb, 0, none⟩)), (8, .int .i16 v), (9, .bool fx), (10, .pointer (some ⟨p, 0, none⟩)), (14, .int .i32 n3), (13, .slice (some ⟨g3, 0, none⟩) n3.toNat cap3), (15, .int .i32 i3), (16, .pointer (some ⟨g3, 0 + (i3 : Int).toNat * 11, none⟩)), (17, .pointer (some ⟨g3, 0 + (i3 : Int).toNat * 11, none⟩))]) (fun q w' => rdTx fx s8 = q ∧ St w0 G0 p pb q.2 ((g3, 170, es3.flatten ++ [str u4, str u6, str u8, str [], .int .i64 0, .int .i64 0, .int .i64 0, str [], .slice none 0 0, .slice none 0 0, .map none] ++ ((List.replicate (n3.toNat - (i3 + 1)) [str [], str [], str [], str [], .int .i64 0, .int .i64 0, .int .i64 0, str [], .slice none 0 0, .slice none 0 0, .map none]).flatten ++ post3)) :: L3) P3 w') ?_ ?_
        · refine cI (by rfl) (fun hc=>?_) (fun hc=>?_)
          · ((conv=>whnf);repeat(first|(refine mvT ?_;conv=>whnf)|(refine mvF ?_;conv=>whnf)|(refine cT (by rfl) ?_;conv=>whnf)|(refine cF (by rfl) ?_;conv=>whnf)))
            refine Does.mono H.txc ?_
            rintro r w ⟨u, s', rfl, hr, H⟩
            ((conv=>whnf);repeat(first|(refine mvT ?_;conv=>whnf)|(refine mvF ?_;conv=>whnf)|(refine cT (by rfl) ?_;conv=>whnf)|(refine cF (by rfl) ?_;conv=>whnf)))
            exact ⟨(u, s'), ⟨rfl, rfl, rfl, rfl, rfl, rfl, rfl, rfl, rfl, rfl, rfl, rfl, trivial⟩, by rw [hc]; exact hr, H⟩
          · ((conv=>whnf);repeat(first|(refine mvT ?_;conv=>whnf)|(refine mvF ?_;conv=>whnf)|(refine cT (by rfl) ?_;conv=>whnf)|(refine cF (by rfl) ?_;conv=>whnf)))
            refine Does.mono H.txp ?_
            rintro r w ⟨u, s', rfl, hr, H⟩
            ((conv=>whnf);repeat(first|(refine mvT ?_;conv=>whnf)|(refine mvF ?_;conv=>whnf)|(refine cT (by rfl) ?_;conv=>whnf)|(refine cF (by rfl) ?_;conv=>whnf)))
            exact ⟨(u, s'), ⟨rfl, rfl, rfl, rfl, rfl, rfl, rfl, rfl, rfl, rfl, rfl, rfl, trivial⟩, by rw [hc]; exact hr, H⟩
        clear H
        rintro ⟨u12, s12⟩ w ⟨hr12, H⟩
        dsimp only at hr12 H
        ((conv=>whnf);repeat(first|(refine mvT ?_;conv=>whnf)|(refine mvF ?_;conv=>whnf)|(refine cT (by rfl) ?_;conv=>whnf)|(refine cF (by rfl) ?_;conv=>whnf)))
        refine H.st1 (v := str u12) 3 (rfl) (rfl) rfl (by first | omega | (simp [hlen1]; done) | (simp [hlen1]; omega)) rfl (Nat.lt_of_lt_of_le (Nat.lt_succ_self _) (Nat.le_of_ble_eq_true rfl)) ?_
        intro w H
        ((conv=>whnf);repeat(first|(refine mvT ?_;conv=>whnf)|(refine mvF ?_;conv=>whnf)|(refine cT (by rfl) ?_;conv=>whnf)|(refine cF (by rfl) ?_;conv=>whnf)))
        replace H : St w0 G0 p pb s12 ((g3, 170, es3.flatten ++ [str u4, str u6, str u8, str u12, .int .i64 0, .int .i64 0, .int .i64 0, str [], .slice none 0 0, .slice none 0 0, .map none] ++ ((List.replicate (n3.toNat - (i3 + 1)) [str [], str [], str [], str [], .int .i64 0, .int .i64 0, .int .i64 0, str [], .slice none 0 0, .slice none 0 0, .map none]).flatten ++ post3)) :: L3) P3 w := H
        have hh : hasF (.mk 8 3 (-1) (-1) (-1) 0 0 []) v = true := by have := of_decide_eq_true hcv; rw [hasF_iff]; omega
        exact ⟨(u12, s12), ⟨rfl, rfl, rfl, rfl, rfl, rfl, rfl, rfl, rfl, rfl, rfl, trivial⟩, by rw [if_pos hh]; exact (rdField8 (by decide) hr12), H⟩
      · ((conv=>whnf);repeat(first|(refine mvT ?_;conv=>whnf)|(refine mvF ?_;conv=>whnf)|(refine cT (by rfl) ?_;conv=>whnf)|(refine cF (by rfl) ?_;conv=>whnf)))
        have hh : ¬ hasF (.mk 8 3 (-1) (-1) (-1) 0 0 []) v = true := by have := of_decide_eq_false hcv; rw [hasF_iff]; omega
        exact ⟨([], s8), ⟨rfl, rfl, rfl, rfl, rfl, rfl, rfl, rfl, rfl, rfl, rfl, trivial⟩, by rw [if_neg hh]; rfl, H⟩
    clear H
    rintro ⟨u11, s11⟩ w ⟨hr11, H⟩
    dsimp only at hr11 H
    ((conv=>whnf);repeat(first|(refine mvT ?_;conv=>whnf)|(refine mvF ?_;conv=>whnf)|(refine cT (by rfl) ?_;conv=>whnf)|(refine cF (by rfl) ?_;conv=>whnf)))
    replace H : St w0 G0 p pb s11 ((g3, 170, es3.flatten ++ [str u4, str u6, str u8, str u11, .int .i64 0, .int .i64 0, .int .i64 0, str [], .slice none 0 0, .slice none 0 0, .map none] ++ ((List.replicate (n3.toNat - (i3 + 1)) [str [], str [], str [], str [], .int .i64 0, .int .i64 0, .int .i64 0, str [], .slice none 0 0, .slice none 0 0, .map none]).flatten ++ post3)) :: L3) P3 w := H
    refine Does.mono H.int64 ?_
    rintro r w ⟨n14, s14, rfl, hn14, hr14, H⟩
    ((conv=>whnf);repeat(first|(refine mvT ?_;conv=>whnf)|(refine mvF ?_;conv=>whnf)|(refine cT (by rfl) ?_;conv=>whnf)|(refine cF (by rfl) ?_;conv=>whnf)))
    refine H.st1 (v := .int .i64 n14) 4 (rfl) (rfl) rfl (by first | omega | (simp [hlen1]; done) | (simp [hlen1]; omega)) rfl (Nat.lt_of_lt_of_le (Nat.lt_succ_self _) (Nat.le_of_ble_eq_true rfl)) ?_
    intro w H
    ((conv=>whnf);repeat(first|(refine mvT ?_;conv=>whnf)|(refine mvF ?_;conv=>whnf)|(refine cT (by rfl) ?_;conv=>whnf)|(refine cF (by rfl) ?_;conv=>whnf)))
    replace H : St w0 G0 p pb s14 ((g3, 170, es3.flatten ++ [str u4, str u6, str u8, str u11, .int .i64 n14, .int .i64 0, .int .i64 0, str [], .slice none 0 0, .slice none 0 0, .map none] ++ ((List.replicate (n3.toNat - (i3 + 1)) [str [], str [], str [], str [], .int .i64 0, .int .i64 0, .int .i64 0, str [], .slice none 0 0, .slice none 0 0, .map none]).flatten ++ post3)) :: L3) P3 w := H
    refine Does.mono H.int64 ?_
    rintro r w ⟨n16, s16, rfl, hn16, hr16, H⟩
    ((conv=>whnf);repeat(first|(refine mvT ?_;conv=>whnf)|(refine mvF ?_;conv=>whnf)|(refine cT (by rfl) ?_;conv=>whnf)|(refine cF (by rfl) ?_;conv=>whnf)))
    refine H.st1 (v := .int .i64 n16) 5 (rfl) (rfl) rfl (by first | omega | (simp [hlen1]; done) | (simp [hlen1]; omega)) rfl (Nat.lt_of_lt_of_le (Nat.lt_succ_self _) (Nat.le_of_ble_eq_true rfl)) ?_
    intro w H
    ((conv=>whnf);repeat(first|(refine mvT ?_;conv=>whnf)|(refine mvF ?_;conv=>whnf)|(refine cT (by rfl) ?_;conv=>whnf)|(refine cF (by rfl) ?_;conv=>whnf)))
    replace H : St w0 G0 p pb s16 ((g3, 170, es3.flatten ++ [str u4, str u6, str u8, str u11, .int .i64 n14, .int .i64 n16, .int .i64 0, str [], .slice none 0 0, .slice none 0 0, .map none] ++ ((List.replicate (n3.toNat - (i3 + 1)) [str [], str [], str [], str [], .int .i64 0, .int .i64 0, .int .i64 0, str [], .slice none 0 0, .slice none 0 0, .map none]).flatten ++ post3)) :: L3) P3 w := H
    refine Does.mono H.int64 ?_
    rintro r w ⟨n18, s18, rfl, hn18, hr18, H⟩
    ((conv=>whnf);repeat(first|(refine mvT ?_;conv=>whnf)|(refine mvF ?_;conv=>whnf)|(refine cT (by rfl) ?_;conv=>whnf)|(refine cF (by rfl) ?_;conv=>whnf)))
    refine H.st1 (v := .int .i64 n18) 6 (rfl) (rfl) rfl (by first | omega | (simp [hlen1]; done) | (simp [hlen1]; omega)) rfl (Nat.lt_of_lt_of_le (Nat.lt_succ_self _) (Nat.le_of_ble_eq_true rfl)) ?_
    intro w H
    ((conv=>whnf);repeat(first|(refine mvT ?_;conv=>whnf)|(refine mvF ?_;conv=>whnf)|(refine cT (by rfl) ?_;conv=>whnf)|(refine cF (by rfl) ?_;conv=>whnf)))
    replace H : St w0 G0 p pb s18 ((g3, 170, es3.flatten ++ [str u4, str u6, str u8, str u11, .int .i64 n14, .int .i64 n16, .int .i64 n18, str [], .slice none 0 0, .slice none 0 0, .map none] ++ ((List.replicate (n3.toNat - (i3 + 1)) [str [], str [], str [], str [], .int .i64 0, .int .i64 0, .int .i64 0, str [], .slice none 0 0, .slice none 0 0, .map none]).flatten ++ post3)) :: L3) P3 w := H
    (refine mvB ?_;((conv=>whnf);repeat(first|(refine mvT ?_;conv=>whnf)|(refine mvF ?_;conv=>whnf)|(refine cT (by rfl) ?_;conv=>whnf)|(refine cF (by rfl) ?_;conv=>whnf))))
    refine VC.cutE (fun q : List UInt8 × Rd => [(25, str q.1), (0, .pointer (some ⟨p, 0, none⟩)), (2, .bool false), (7, .pointer (some ⟨pb, 0, none⟩)), (8, .int .i16 v), (9, .bool fx), (10, .pointer (some ⟨p, 0, none⟩)), (14, .int .i32 n3), (13, .slice (some ⟨g3, 0, none⟩) n3.toNat cap3), (15, .int .i32 i3), (16, .pointer (some ⟨g3, 0 + (i3 : Int).toNat * 11, none⟩)), (17, .pointer (some ⟨g3, 0 + (i3 : Int).toNat * 11, none⟩))]) (fun q w' => rdTx fx s18 = q ∧ St w0 G0 p pb q.2 ((g3, 170, es3.flatten ++ [str u4, str u6, str u8, str u11, .int .i64 n14, .int .i64 n16, .int .i64 n18, str [], .slice none 0 0, .slice none 0 0, .map none] ++ ((List.replicate (n3.toNat - (i3 + 1)) [str [], str [], str [], str [], .int .i64 0, .int .i64 0, .int .i64 0, str [], .slice none 0 0, .slice none 0 0, .map none]).flatten ++ post3)) :: L3) P3 w') ?_ ?_
    · refine cI (by rfl) (fun hc=>?_) (fun hc=>?_)
      · ((conv=>whnf);repeat(first|(refine mvT ?_;conv=>whnf)|(refine mvF ?_;conv=>whnf)|(refine cT (by rfl) ?_;conv=>whnf)|(refine cF (by rfl) ?_;conv=>whnf)))
        refine Does.mono H.txc ?_
        rintro r w ⟨u, s', rfl, hr, H⟩
        ((conv=>whnf);repeat(first|(refine mvT ?_;conv=>whnf)|(refine mvF ?_;conv=>whnf)|(refine cT (by rfl) ?_;conv=>whnf)|(refine cF (by rfl) ?_;conv=>whnf)))
        exact ⟨(u, s'), ⟨rfl, rfl, rfl, rfl, rfl, rfl, rfl, rfl, rfl, rfl, rfl, rfl, trivial⟩, by rw [hc]; exact hr, H⟩
      · ((conv=>whnf);repeat(first|(refine mvT ?_;conv=>whnf)|(refine mvF ?_;conv=>whnf)|(refine cT (by rfl) ?_;conv=>whnf)|(refine cF (by rfl) ?_;conv=>whnf)))
        refine Does.mono H.txp ?_
        rintro r w ⟨u, s', rfl, hr, H⟩
        ((conv=>whnf);repeat(first|(refine mvT ?_;conv=>whnf)|(refine mvF ?_;conv=>whnf)|(refine cT (by rfl) ?_;conv=>whnf)|(refine cF (by rfl) ?_;conv=>whnf)))
        exact ⟨(u, s'), ⟨rfl, rfl, rfl, rfl, rfl, rfl, rfl, rfl, rfl, rfl, rfl, rfl, trivial⟩, by rw [hc]; exact hr, H⟩
    clear H
    rintro ⟨u20, s20⟩ w ⟨hr20, H⟩
    dsimp only at hr20 H
    ((conv=>whnf);repeat(first|(refine mvT ?_;conv=>whnf)|(refine mvF ?_;conv=>whnf)|(refine cT (by rfl) ?_;conv=>whnf)|(refine cF (by rfl) ?_;conv=>whnf)))
    refine H.st1 (v := str u20) 7 (rfl) (rfl) rfl (by first | omega | (simp [hlen1]; done) | (simp [hlen1]; omega)) rfl (Nat.lt_of_lt_of_le (Nat.lt_succ_self _) (Nat.le_of_ble_eq_true rfl)) ?_
    intro w H
    ((conv=>whnf);repeat(first|(refine mvT ?_;conv=>whnf)|(refine mvF ?_;conv=>whnf)|(refine cT (by rfl) ?_;conv=>whnf)|(refine cF (by rfl) ?_;conv=>whnf)))
    replace H : St w0 G0 p pb s20 ((g3, 170, es3.flatten ++ [str u4, str u6, str u8, str u11, .int .i64 n14, .int .i64 n16, .int .i64 n18, str u20, .slice none 0 0, .slice none 0 0, .map none] ++ ((List.replicate (n3.toNat - (i3 + 1)) [str [], str [], str [], str [], .int .i64 0, .int .i64 0, .int .i64 0, str [], .slice none 0 0, .slice none 0 0, .map none]).flatten ++ post3)) :: L3) P3 w := H
    (refine mvB ?_;((conv=>whnf);repeat(first|(refine mvT ?_;conv=>whnf)|(refine mvF ?_;conv=>whnf)|(refine cT (by rfl) ?_;conv=>whnf)|(refine cF (by rfl) ?_;conv=>whnf))))
    refine VC.cutE (fun q : Value × Bool × List UInt8 × Rd => [(26, q.1), (0, .pointer (some ⟨p, 0, none⟩)), (2, .bool false), (7, .pointer (some ⟨pb, 0, none⟩)), (8, .int .i16 v), (9, .bool fx), (10, .pointer (some ⟨p, 0, none⟩)), (14, .int .i32 n3), (13, .slice (some ⟨g3, 0, none⟩) n3.toNat cap3), (15, .int .i32 i3), (16, .pointer (some ⟨g3, 0 + (i3 : Int).toNat * 11, none⟩)), (17, .pointer (some ⟨g3, 0 + (i3 : Int).toNat * 11, none⟩))]) (fun q w' => q.1.oneCell' = true ∧ (q.2.1 = true → q.2.2.1 = []) ∧ rdOc fx s20 = (.mk 0 q.2.2.1 q.2.1 [] [], q.2.2.2) ∧ St w0 G0 p pb q.2.2.2 ((g3, 170, es3.flatten ++ [str u4, str u6, str u8, str u11, .int .i64 n14, .int .i64 n16, .int .i64 n18, str u20, .slice none 0 0, .slice none 0 0, .map none] ++ ((List.replicate (n3.toNat - (i3 + 1)) [str [], str [], str [], str [], .int .i64 0, .int .i64 0, .int .i64 0, str [], .slice none 0 0, .slice none 0 0, .map none]).flatten ++ post3)) :: L3) (fun w => OCf p q.1 (.mk 0 q.2.2.1 q.2.1 [] []) w ∧ P3 w) w') ?_ ?_
    · refine cI (by rfl) (fun hc=>?_) (fun hc=>?_)
      · ((conv=>whnf);repeat(first|(refine mvT ?_;conv=>whnf)|(refine mvF ?_;conv=>whnf)|(refine cT (by rfl) ?_;conv=>whnf)|(refine cF (by rfl) ?_;conv=>whnf)))
        refine Does.mono H.occ ?_
        rintro r w ⟨c, nl, u, s', rfl, hone, hnl, hr, H⟩
        ((conv=>whnf);repeat(first|(refine mvT ?_;conv=>whnf)|(refine mvF ?_;conv=>whnf)|(refine cT (by rfl) ?_;conv=>whnf)|(refine cF (by rfl) ?_;conv=>whnf)))
        exact ⟨(r, nl, u, s'), ⟨rfl, rfl, rfl, rfl, rfl, rfl, rfl, rfl, rfl, rfl, rfl, rfl, trivial⟩, hone, hnl, by rw [hc]; exact hr, H⟩
      · ((conv=>whnf);repeat(first|(refine mvT ?_;conv=>whnf)|(refine mvF ?_;conv=>whnf)|(refine cT (by rfl) ?_;conv=>whnf)|(refine cF (by rfl) ?_;conv=>whnf)))
        refine Does.mono H.ocp ?_
        rintro r w ⟨c, nl, u, s', rfl, hone, hnl, hr, H⟩
        ((conv=>whnf);repeat(first|(refine mvT ?_;conv=>whnf)|(refine mvF ?_;conv=>whnf)|(refine cT (by rfl) ?_;conv=>whnf)|(refine cF (by rfl) ?_;conv=>whnf)))
        exact ⟨(r, nl, u, s'), ⟨rfl, rfl, rfl, rfl, rfl, rfl, rfl, rfl, rfl, rfl, rfl, rfl, trivial⟩, hone, hnl, by rw [hc]; exact hr, H⟩
    clear H
    rintro ⟨c22, nl22, u22, s22⟩ w ⟨hone22, hnl22, hr22, H⟩
    dsimp only at hone22 hnl22 hr22 H
    ((conv=>whnf);repeat(first|(refine mvT ?_;conv=>whnf)|(refine mvF ?_;conv=>whnf)|(refine cT (by rfl) ?_;conv=>whnf)|(refine cF (by rfl) ?_;conv=>whnf)))
    obtain ⟨P23, hP23⟩ : ∃ P : World → Prop, P = fun w => OCf p c22 (.mk 0 u22 nl22 [] []) w ∧ P3 w := ⟨_, rfl⟩
    replace H : St w0 G0 p pb s22 ((g3, 170, es3.flatten ++ [str u4, str u6, str u8, str u11, .int .i64 n14, .int .i64 n16, .int .i64 n18, str u20, .slice none 0 0, .slice none 0 0, .map none] ++ ((List.replicate (n3.toNat - (i3 + 1)) [str [], str [], str [], str [], .int .i64 0, .int .i64 0, .int .i64 0, str [], .slice none 0 0, .slice none 0 0, .map none]).flatten ++ post3)) :: L3) P23 w := by rw [hP23]; exact H
    refine H.st1 (v := c22) 8 (cells_one hone22) (hone22) rfl (by first | omega | (simp [hlen1]; done) | (simp [hlen1]; omega)) rfl (Nat.lt_of_lt_of_le (Nat.lt_succ_self _) (Nat.le_of_ble_eq_true rfl)) ?_
    intro w H
    ((conv=>whnf);repeat(first|(refine mvT ?_;conv=>whnf)|(refine mvF ?_;conv=>whnf)|(refine cT (by rfl) ?_;conv=>whnf)|(refine cF (by rfl) ?_;conv=>whnf)))
    replace H : St w0 G0 p pb s22 ((g3, 170, es3.flatten ++ [str u4, str u6, str u8, str u11, .int .i64 n14, .int .i64 n16, .int .i64 n18, str u20, c22, .slice none 0 0, .map none] ++ ((List.replicate (n3.toNat - (i3 + 1)) [str [], str [], str [], str [], .int .i64 0, .int .i64 0, .int .i64 0, str [], .slice none 0 0, .slice none 0 0, .map none]).flatten ++ post3)) :: L3) P23 w := H
    refine ⟨_, ld (H.cell rfl (k := 9) rfl) (by first | omega | (simp [hlen1]; done) | (simp [hlen1]; omega)), ?_⟩; ((conv=>whnf);repeat(first|(refine mvT ?_;conv=>whnf)|(refine mvF ?_;conv=>whnf)|(refine cT (by rfl) ?_;conv=>whnf)|(refine cF (by rfl) ?_;conv=>whnf)))
    (refine mvB ?_;((conv=>whnf);repeat(first|(refine mvT ?_;conv=>whnf)|(refine mvF ?_;conv=>whnf)|(refine cT (by rfl) ?_;conv=>whnf)|(refine cF (by rfl) ?_;conv=>whnf))))
    refine VC.cutE (fun q : Int × Rd => [(29, .int .i32 q.1), (28, .slice none 0 0), (0, .pointer (some ⟨p, 0, none⟩)), (2, .bool false), (7, .pointer (some ⟨pb, 0, none⟩)), (8, .int .i16 v), (9, .bool fx), (10, .pointer (some ⟨p, 0, none⟩)), (14, .int .i32 n3), (13, .slice (some ⟨g3, 0, none⟩) n3.toNat cap3), (15, .int .i32 i3), (16, .pointer (some ⟨g3, 0 + (i3 : Int).toNat * 11, none⟩)), (17, .pointer (some ⟨g3, 0 + (i3 : Int).toNat * 11, none⟩))]) (fun q w' => (-2147483648 ≤ q.1 ∧ q.1 ≤ 2147483647) ∧ rdLn fx s22 = q ∧ St w0 G0 p pb q.2 ((g3, 170, es3.flatten ++ [str u4, str u6, str u8, str u11, .int .i64 n14, .int .i64 n16, .int .i64 n18, str u20, c22, .slice none 0 0, .map none] ++ ((List.replicate (n3.toNat - (i3 + 1)) [str [], str [], str [], str [], .int .i64 0, .int .i64 0, .int .i64 0, str [], .slice none 0 0, .slice none 0 0, .map none]).flatten ++ post3)) :: L3) P23 w') ?_ ?_
    · refine cI (by rfl) (fun hc=>?_) (fun hc=>?_)
      · ((conv=>whnf);repeat(first|(refine mvT ?_;conv=>whnf)|(refine mvF ?_;conv=>whnf)|(refine cT (by rfl) ?_;conv=>whnf)|(refine cF (by rfl) ?_;conv=>whnf)))
        refine Does.mono H.lnc ?_
        rintro r w ⟨n, s', rfl, hn, hr, H⟩
        ((conv=>whnf);repeat(first|(refine mvT ?_;conv=>whnf)|(refine mvF ?_;conv=>whnf)|(refine cT (by rfl) ?_;conv=>whnf)|(refine cF (by rfl) ?_;conv=>whnf)))
        exact ⟨(n, s'), ⟨rfl, rfl, rfl, rfl, rfl, rfl, rfl, rfl, rfl, rfl, rfl, rfl, rfl, trivial⟩, hn, by rw [hc]; exact hr, H⟩
      · ((conv=>whnf);repeat(first|(refine mvT ?_;conv=>whnf)|(refine mvF ?_;conv=>whnf)|(refine cT (by rfl) ?_;conv=>whnf)|(refine cF (by rfl) ?_;conv=>whnf)))
        refine Does.mono H.lnp ?_
        rintro r w ⟨n, s', rfl, hn, hr, H⟩
        ((conv=>whnf);repeat(first|(refine mvT ?_;conv=>whnf)|(refine mvF ?_;conv=>whnf)|(refine cT (by rfl) ?_;conv=>whnf)|(refine cF (by rfl) ?_;conv=>whnf)))
        exact ⟨(n, s'), ⟨rfl, rfl, rfl, rfl, rfl, rfl, rfl, rfl, rfl, rfl, rfl, rfl, rfl, trivial⟩, hn, by rw [hc]; exact hr, H⟩
    clear H
    rintro ⟨n25, s25⟩ w ⟨hn25, hln25, H⟩
    dsimp only at hn25 hln25 H
    ((conv=>whnf);repeat(first|(refine mvT ?_;conv=>whnf)|(refine mvF ?_;conv=>whnf)|(refine cT (by rfl) ?_;conv=>whnf)|(refine cF (by rfl) ?_;conv=>whnf)))
    refine Does.mono H.ok ?_
    rintro r w ⟨rfl, H⟩
    ((conv=>whnf);repeat(first|(refine mvT ?_;conv=>whnf)|(refine mvF ?_;conv=>whnf)|(refine cT (by rfl) ?_;conv=>whnf)|(refine cF (by rfl) ?_;conv=>whnf)))
    refine cI (by rfl) (fun hbd=>?_) (fun hbd=>?_)
    · have hbd : s25.2 = true := by simpa using hbd
      ((conv=>whnf);repeat(first|(refine mvT ?_;conv=>whnf)|(refine mvF ?_;conv=>whnf)|(refine cT (by rfl) ?_;conv=>whnf)|(refine cF (by rfl) ?_;conv=>whnf)))
      refine Does.mono (H.done hL hp1) ?_
      rintro r w ⟨rfl, H⟩
      ((conv=>whnf);repeat(first|(refine mvT ?_;conv=>whnf)|(refine mvF ?_;conv=>whnf)|(refine cT (by rfl) ?_;conv=>whnf)|(refine cF (by rfl) ?_;conv=>whnf)))
      refine RdPost.early hbd (hup3 (?_)) H
      rw [tail_yes (rdField8 (by decide) hr4) ⟨by decide, has_all hv⟩, tail_yes (rdField8 (by decide) hr6) ⟨by decide, has_all hv⟩, tail_ver hr8 (by decide), tail_ver hr11 (by decide), tail_yes (rdField4.trans hr14) ⟨by decide, has_all hv⟩, tail_yes (rdField4.trans hr16) ⟨by decide, has_all hv⟩, tail_yes (rdField4.trans hr18) ⟨by decide, has_all hv⟩, tail_yes (rdField8 (by decide) hr20) ⟨by decide, has_all hv⟩, tail_yes (rdField9.trans hr22) ⟨by decide, has_all hv⟩, tail_len ⟨by decide, has_all hv⟩ hln25 hbd]
    have hbd : s25.2 = false := by simpa using hbd
    clear hbd
    ((conv=>whnf);repeat(first|(refine mvT ?_;conv=>whnf)|(refine mvF ?_;conv=>whnf)|(refine cT (by rfl) ?_;conv=>whnf)|(refine cF (by rfl) ?_;conv=>whnf)))
    refine cut_zero ?_
    ((conv=>whnf);repeat(first|(refine mvT ?_;conv=>whnf)|(refine mvF ?_;conv=>whnf)|(refine cT (by rfl) ?_;conv=>whnf)|(refine cF (by rfl) ?_;conv=>whnf)))
    refine VC.cutE (fun a : Value => [(29, .int .i32 n25), (28, a), (0, .pointer (some ⟨p, 0, none⟩)), (2, .bool false), (7, .pointer (some ⟨pb, 0, none⟩)), (8, .int .i16 v), (9, .bool fx), (10, .pointer (some ⟨p, 0, none⟩)), (14, .int .i32 n3), (13, .slice (some ⟨g3, 0, none⟩) n3.toNat cap3), (15, .int .i32 i3), (16, .pointer (some ⟨g3, 0 + (i3 : Int).toNat * 11, none⟩)), (17, .pointer (some ⟨g3, 0 + (i3 : Int).toNat * 11, none⟩))]) (fun a w' => ListI w0 G0 p pb 173 [str [], str [], .map none] (elR 7 v fx 10 dDescribeDelegationTokenResponseTokenDetailRenewer) (elQ true 7 10 dDescribeDelegationTokenResponseTokenDetailRenewer) s25 n25 (decide (n25 ≤ 0)) ((g3, 170, es3.flatten ++ [str u4, str u6, str u8, str u11, .int .i64 n14, .int .i64 n16, .int .i64 n18, str u20, c22, .slice none 0 0, .map none] ++ ((List.replicate (n3.toNat - (i3 + 1)) [str [], str [], str [], str [], .int .i64 0, .int .i64 0, .int .i64 0, str [], .slice none 0 0, .slice none 0 0, .map none]).flatten ++ post3)) :: L3) P23 a 0 w') ?_ ?_
    · refine cI (by rfl) (fun hps=>?_) (fun hps=>?_)
      · have hps : 0 < n25 := by have := of_decide_eq_true hps; omega
        ((conv=>whnf);repeat(first|(refine mvT ?_;conv=>whnf)|(refine mvF ?_;conv=>whnf)|(refine cT (by rfl) ?_;conv=>whnf)|(refine cF (by rfl) ?_;conv=>whnf)))
        refine H.grow hps hn25.2 (by decide) rfl rfl (by decide) ?_
        intro g cap post w hc1 hc2 H
        ((conv=>whnf);repeat(first|(refine mvT ?_;conv=>whnf)|(refine mvF ?_;conv=>whnf)|(refine cT (by rfl) ?_;conv=>whnf)|(refine cF (by rfl) ?_;conv=>whnf)))
        exact ⟨_, ⟨rfl, rfl, rfl, rfl, rfl, rfl, rfl, rfl, rfl, rfl, rfl, rfl, rfl, trivial⟩, ListI.some hps (decide_eq_false (by omega)) hc1 hc2 H⟩
      · have hps : n25 ≤ 0 := by have := of_decide_eq_false hps; omega
        ((conv=>whnf);repeat(first|(refine mvT ?_;conv=>whnf)|(refine mvF ?_;conv=>whnf)|(refine cT (by rfl) ?_;conv=>whnf)|(refine cF (by rfl) ?_;conv=>whnf)))
        exact ⟨_, ⟨rfl, rfl, rfl, rfl, rfl, rfl, rfl, rfl, rfl, rfl, rfl, rfl, rfl, trivial⟩, ListI.none hps (decide_eq_true hps) H⟩
    clear H
    rintro a25 w H
    ((conv=>whnf);repeat(first|(refine mvT ?_;conv=>whnf)|(refine mvF ?_;conv=>whnf)|(refine cT (by rfl) ?_;conv=>whnf)|(refine cF (by rfl) ?_;conv=>whnf)))
    have hpL25 : inL ((g3, 170, es3.flatten ++ [str u4, str u6, str u8, str u11, .int .i64 n14, .int .i64 n16, .int .i64 n18, str u20, c22, .slice none 0 0, .map none] ++ ((List.replicate (n3.toNat - (i3 + 1)) [str [], str [], str [], str [], .int .i64 0, .int .i64 0, .int .i64 0, str [], .slice none 0 0, .slice none 0 0, .map none]).flatten ++ post3)) :: L3) p := inL.tail hpL3
    refine VL.loop (fun i : Nat => [(29, .int .i32 n25), (28, a25), (30, .int .i32 i), (0, .pointer (some ⟨p, 0, none⟩)), (2, .bool false), (7, .pointer (some ⟨pb, 0, none⟩)), (8, .int .i16 v), (9, .bool fx), (10, .pointer (some ⟨p, 0, none⟩)), (14, .int .i32 n3), (13, .slice (some ⟨g3, 0, none⟩) n3.toNat cap3), (15, .int .i32 i3), (16, .pointer (some ⟨g3, 0 + (i3 : Int).toNat * 11, none⟩)), (17, .pointer (some ⟨g3, 0 + (i3 : Int).toNat * 11, none⟩))]) (fun i w' => i ≤ 2147483647 ∧ ListI w0 G0 p pb 173 [str [], str [], .map none] (elR 7 v fx 10 dDescribeDelegationTokenResponseTokenDetailRenewer) (elQ true 7 10 dDescribeDelegationTokenResponseTokenDetailRenewer) s25 n25 (decide (n25 ≤ 0)) ((g3, 170, es3.flatten ++ [str u4, str u6, str u8, str u11, .int .i64 n14, .int .i64 n16, .int .i64 n18, str u20, c22, .slice none 0 0, .map none] ++ ((List.replicate (n3.toNat - (i3 + 1)) [str [], str [], str [], str [], .int .i64 0, .int .i64 0, .int .i64 0, str [], .slice none 0 0, .slice none 0 0, .map none]).flatten ++ post3)) :: L3) P23 a25 i w') (fun i => n25.toNat - i) 0 ⟨rfl, rfl, rfl, rfl, rfl, rfl, rfl, rfl, rfl, rfl, rfl, rfl, rfl, rfl, trivial⟩ ⟨by decide, H⟩ ?_
    clear H
    rintro i25 w ⟨hi25, H⟩
    ((conv=>whnf);repeat(first|(refine mvT ?_;conv=>whnf)|(refine mvF ?_;conv=>whnf)|(refine cT (by rfl) ?_;conv=>whnf)|(refine cF (by rfl) ?_;conv=>whnf)))
    refine cI (by rfl) (fun h9=>?_) (fun h9=>?_)
    · have hlt25 : (i25 : Int) < n25 := of_decide_eq_true h9
      obtain ⟨g25, cap25, post25, rfl, hgo25, HI⟩ := H.go hlt25
      obtain ⟨es25, ts25, si25, hes25, hez25, hrn25, hts25, hlen2, H⟩ := HI.open hgo25.2.2.2.2
      obtain ⟨L25, hL25⟩ : ∃ L : List Ob, L = ((g3, 170, es3.flatten ++ [str u4, str u6, str u8, str u11, .int .i64 n14, .int .i64 n16, .int .i64 n18, str u20, c22, .slice none 0 0, .map none] ++ ((List.replicate (n3.toNat - (i3 + 1)) [str [], str [], str [], str [], .int .i64 0, .int .i64 0, .int .i64 0, str [], .slice none 0 0, .slice none 0 0, .map none]).flatten ++ post3)) :: L3) := ⟨_, rfl⟩
      rw [← hL25] at H hpL25
      obtain ⟨P25, hP25⟩ : ∃ P : World → Prop, P = fun w => (∀ (j : Nat) (c : List Value) (y : T), es25[j]? = some c → ts25[j]? = some y → elQ true 7 10 dDescribeDelegationTokenResponseTokenDetailRenewer ⟨w, fun k => k ≠ p⟩ c y) ∧ P23 w := ⟨_, rfl⟩
      rw [← hP25] at H
      replace H : St w0 G0 p pb si25 ((g25, 173, es25.flatten ++ [str [], str [], .map none] ++ ((List.replicate (n25.toNat - (i25 + 1)) [str [], str [], .map none]).flatten ++ post25)) :: L25) P25 w := H
      ((conv=>whnf);repeat(first|(refine mvT ?_;conv=>whnf)|(refine mvF ?_;conv=>whnf)|(refine cT (by rfl) ?_;conv=>whnf)|(refine cF (by rfl) ?_;conv=>whnf)))
      refine ⟨g25, 0, rfl, ⟨by omega, by omega⟩, ?_⟩
      ((conv=>whnf);repeat(first|(refine mvT ?_;conv=>whnf)|(refine mvF ?_;conv=>whnf)|(refine cT (by rfl) ?_;conv=>whnf)|(refine cF (by rfl) ?_;conv=>whnf)))
      refine Does.mono (dfDescribeDelegationTokenResponseTokenDetailRenewer (pre := es25.flatten) (cur := [str [], str [], .map none]) (post := ((List.replicate (n25.toNat - (i25 + 1)) [str [], str [], .map none]).flatten ++ post25)) H.head (by first | (rw [hlen2]; simp; done) | (simp [hlen2]; done) | (simp [hlen2]; omega)) rfl) ?_
      rintro rd w2 ⟨hdf, hxd⟩
      replace H := H.put hdf hxd
      clear hdf hxd
      replace H : St w0 G0 p pb si25 ((g25, 173, es25.flatten ++ [str [], str [], .map none] ++ ((List.replicate (n25.toNat - (i25 + 1)) [str [], str [], .map none]).flatten ++ post25)) :: L25) P25 w2 := H
      ((conv=>whnf);repeat(first|(refine mvT ?_;conv=>whnf)|(refine mvF ?_;conv=>whnf)|(refine cT (by rfl) ?_;conv=>whnf)|(refine cF (by rfl) ?_;conv=>whnf)))
      have hup25 : tailBad 7 v fx dDescribeDelegationTokenResponseTokenDetailRenewer si25 = true → (rdPart 9 v fx dDescribeDelegationTokenResponse (l, false)).2.2 = true := by
        intro hb
        refine hup3 ?_
        rw [tail_yes (rdField8 (by decide) hr4) ⟨by decide, has_all hv⟩, tail_yes (rdField8 (by decide) hr6) ⟨by decide, has_all hv⟩, tail_ver hr8 (by decide), tail_ver hr11 (by decide), tail_yes (rdField4.trans hr14) ⟨by decide, has_all hv⟩, tail_yes (rdField4.trans hr16) ⟨by decide, has_all hv⟩, tail_yes (rdField4.trans hr18) ⟨by decide, has_all hv⟩, tail_yes (rdField8 (by decide) hr20) ⟨by decide, has_all hv⟩, tail_yes (rdField9.trans hr22) ⟨by decide, has_all hv⟩, tail_el ⟨by decide, has_all hv⟩ hln25 hgo25.2.2.2.2 hrn25 hb]
      (refine mvB ?_;((conv=>whnf);repeat(first|(refine mvT ?_;conv=>whnf)|(refine mvF ?_;conv=>whnf)|(refine cT (by rfl) ?_;conv=>whnf)|(refine cF (by rfl) ?_;conv=>whnf))))
      refine VC.cutE (fun q : List UInt8 × Rd => [(33, str q.1), (0, .pointer (some ⟨p, 0, none⟩)), (2, .bool false), (7, .pointer (some ⟨pb, 0, none⟩)), (8, .int .i16 v), (9, .bool fx), (10, .pointer (some ⟨p, 0, none⟩)), (14, .int .i32 n3), (13, .slice (some ⟨g3, 0, none⟩) n3.toNat cap3), (15, .int .i32 i3), (16, .pointer (some ⟨g3, 0 + (i3 : Int).toNat * 11, none⟩)), (17, .pointer (some ⟨g3, 0 + (i3 : Int).toNat * 11, none⟩)), (29, .int .i32 n25), (28, .slice (some ⟨g25, 0, none⟩) n25.toNat cap25), (30, .int .i32 i25), (31, .pointer (some ⟨g25, 0 + (i25 : Int).toNat * 3, none⟩)), (32, .pointer (some ⟨g25, 0 + (i25 : Int).toNat * 3, none⟩))]) (fun q w' => rdTx fx si25 = q ∧ St w0 G0 p pb q.2 ((g25, 173, es25.flatten ++ [str [], str [], .map none] ++ ((List.replicate (n25.toNat - (i25 + 1)) [str [], str [], .map none]).flatten ++ post25)) :: L25) P25 w') ?_ ?_
      · refine cI (by rfl) (fun hc=>?_) (fun hc=>?_)
        · ((conv=>whnf);repeat(first|(refine mvT ?_;conv=>whnf)|(refine mvF ?_;conv=>whnf)|(refine cT (by rfl) ?_;conv=>whnf)|(refine cF (by rfl) ?_;conv=>whnf)))
          refine Does.mono H.txc ?_
          rintro r w ⟨u, s', rfl, hr, H⟩
          ((conv=>whnf);repeat(first|(refine mvT ?_;conv=>whnf)|(refine mvF ?_;conv=>whnf)|(refine cT (by rfl) ?_;conv=>whnf)|(refine cF (by rfl) ?_;conv=>whnf)))
          exact ⟨(u, s'), ⟨rfl, rfl, rfl, rfl, rfl, rfl, rfl, rfl, rfl, rfl, rfl, rfl, rfl, rfl, rfl, rfl, rfl, trivial⟩, by rw [hc]; exact hr, H⟩
        · ((conv=>whnf);repeat(first|(refine mvT ?_;conv=>whnf)|(refine mvF ?_;conv=>whnf)|(refine cT (by rfl) ?_;conv=>whnf)|(refine cF (by rfl) ?_;conv=>whnf)))
          refine Does.mono H.txp ?_
          rintro r w ⟨u, s', rfl, hr, H⟩
          ((conv=>whnf);repeat(first|(refine mvT ?_;conv=>whnf)|(refine mvF ?_;conv=>whnf)|(refine cT (by rfl) ?_;conv=>whnf)|(refine cF (by rfl) ?_;conv=>whnf)))
          exact ⟨(u, s'), ⟨rfl, rfl, rfl, rfl, rfl, rfl, rfl, rfl, rfl, rfl, rfl, rfl, rfl, rfl, rfl, rfl, rfl, trivial⟩, by rw [hc]; exact hr, H⟩
      clear H
      rintro ⟨u26, s26⟩ w ⟨hr26, H⟩
      dsimp only at hr26 H
      ((conv=>whnf);repeat(first|(refine mvT ?_;conv=>whnf)|(refine mvF ?_;conv=>whnf)|(refine cT (by rfl) ?_;conv=>whnf)|(refine cF (by rfl) ?_;conv=>whnf)))
      refine H.st1 (v := str u26) 0 (rfl) (rfl) rfl (by first | omega | (simp [hlen2]; done) | (simp [hlen2]; omega)) rfl (Nat.lt_of_lt_of_le (Nat.lt_succ_self _) (Nat.le_of_ble_eq_true rfl)) ?_
      intro w H
      ((conv=>whnf);repeat(first|(refine mvT ?_;conv=>whnf)|(refine mvF ?_;conv=>whnf)|(refine cT (by rfl) ?_;conv=>whnf)|(refine cF (by rfl) ?_;conv=>whnf)))
      replace H : St w0 G0 p pb s26 ((g25, 173, es25.flatten ++ [str u26, str [], .map none] ++ ((List.replicate (n25.toNat - (i25 + 1)) [str [], str [], .map none]).flatten ++ post25)) :: L25) P25 w := H
      (refine mvB ?_;((conv=>whnf);repeat(first|(refine mvT ?_;conv=>whnf)|(refine mvF ?_;conv=>whnf)|(refine cT (by rfl) ?_;conv=>whnf)|(refine cF (by rfl) ?_;conv=>whnf))))
      refine VC.cutE (fun q : List UInt8 × Rd => [(34, str q.1), (0, .pointer (some ⟨p, 0, none⟩)), (2, .bool false), (7, .pointer (some ⟨pb, 0, none⟩)), (8, .int .i16 v), (9, .bool fx), (10, .pointer (some ⟨p, 0, none⟩)), (14, .int .i32 n3), (13, .slice (some ⟨g3, 0, none⟩) n3.toNat cap3), (15, .int .i32 i3), (16, .pointer (some ⟨g3, 0 + (i3 : Int).toNat * 11, none⟩)), (17, .pointer (some ⟨g3, 0 + (i3 : Int).toNat * 11, none⟩)), (29, .int .i32 n25), (28, .slice (some ⟨g25, 0, none⟩) n25.toNat cap25), (30, .int .i32 i25), (31, .pointer (some ⟨g25, 0 + (i25 : Int).toNat * 3, none⟩)), (32, .pointer (some ⟨g25, 0 + (i25 : Int).toNat * 3, none⟩))]) (fun q w' => rdTx fx s26 = q ∧ St w0 G0 p pb q.2 ((g25, 173, es25.flatten ++ [str u26, str [], .map none] ++ ((List.replicate (n25.toNat - (i25 + 1)) [str [], str [], .map none]).flatten ++ post25)) :: L25) P25 w') ?_ ?_
      · refine cI (by rfl) (fun hc=>?_) (fun hc=>?_)
        · ((conv=>whnf);repeat(first|(refine mvT ?_;conv=>whnf)|(refine mvF ?_;conv=>whnf)|(refine cT (by rfl) ?_;conv=>whnf)|(refine cF (by rfl) ?_;conv=>whnf)))
          refine Does.mono H.txc ?_
          rintro r w ⟨u, s', rfl, hr, H⟩
          ((conv=>whnf);repeat(first|(refine mvT ?_;conv=>whnf)|(refine mvF ?_;conv=>whnf)|(refine cT (by rfl) ?_;conv=>whnf)|(refine cF (by rfl) ?_;conv=>whnf)))
          exact ⟨(u, s'), ⟨rfl, rfl, rfl, rfl, rfl, rfl, rfl, rfl, rfl, rfl, rfl, rfl, rfl, rfl, rfl, rfl, rfl, trivial⟩, by rw [hc]; exact hr, H⟩
        · ((conv=>whnf);repeat(first|(refine mvT ?_;conv=>whnf)|(refine mvF ?_;conv=>whnf)|(refine cT (by rfl) ?_;conv=>whnf)|(refine cF (by rfl) ?_;conv=>whnf)))
          refine Does.mono H.txp ?_
          rintro r w ⟨u, s', rfl, hr, H⟩
          ((conv=>whnf);repeat(first|(refine mvT ?_;conv=>whnf)|(refine mvF ?_;conv=>whnf)|(refine cT (by rfl) ?_;conv=>whnf)|(refine cF (by rfl) ?_;conv=>whnf)))
          exact ⟨(u, s'), ⟨rfl, rfl, rfl, rfl, rfl, rfl, rfl, rfl, rfl, rfl, rfl, rfl, rfl, rfl, rfl, rfl, rfl, trivial⟩, by rw [hc]; exact hr, H⟩
      clear H
      rintro ⟨u28, s28⟩ w ⟨hr28, H⟩
      dsimp only at hr28 H
      ((conv=>whnf);repeat(first|(refine mvT ?_;conv=>whnf)|(refine mvF ?_;conv=>whnf)|(refine cT (by rfl) ?_;conv=>whnf)|(refine cF (by rfl) ?_;conv=>whnf)))
      refine H.st1 (v := str u28) 1 (rfl) (rfl) rfl (by first | omega | (simp [hlen2]; done) | (simp [hlen2]; omega)) rfl (Nat.lt_of_lt_of_le (Nat.lt_succ_self _) (Nat.le_of_ble_eq_true rfl)) ?_
      intro w H
      ((conv=>whnf);repeat(first|(refine mvT ?_;conv=>whnf)|(refine mvF ?_;conv=>whnf)|(refine cT (by rfl) ?_;conv=>whnf)|(refine cF (by rfl) ?_;conv=>whnf)))
      replace H : St w0 G0 p pb s28 ((g25, 173, es25.flatten ++ [str u26, str u28, .map none] ++ ((List.replicate (n25.toNat - (i25 + 1)) [str [], str [], .map none]).flatten ++ post25)) :: L25) P25 w := H
      (refine mvB ?_;((conv=>whnf);repeat(first|(refine mvT ?_;conv=>whnf)|(refine mvF ?_;conv=>whnf)|(refine cT (by rfl) ?_;conv=>whnf)|(refine cF (by rfl) ?_;conv=>whnf))))
      refine VC.cutB (fun q : Value × List Tg × Rd => [(0, .pointer (some ⟨p, 0, none⟩)), (2, .bool false), (7, .pointer (some ⟨pb, 0, none⟩)), (8, .int .i16 v), (9, .bool fx), (10, .pointer (some ⟨p, 0, none⟩)), (14, .int .i32 n3), (13, .slice (some ⟨g3, 0, none⟩) n3.toNat cap3), (15, .int .i32 i3), (16, .pointer (some ⟨g3, 0 + (i3 : Int).toNat * 11, none⟩)), (17, .pointer (some ⟨g3, 0 + (i3 : Int).toNat * 11, none⟩)), (29, .int .i32 n25), (28, .slice (some ⟨g25, 0, none⟩) n25.toNat cap25), (30, .int .i32 i25), (31, .pointer (some ⟨g25, 0 + (i25 : Int).toNat * 3, none⟩)), (32, .pointer (some ⟨g25, 0 + (i25 : Int).toNat * 3, none⟩))]) (fun q w' => rdTagsF fx s28 = q.2 ∧ St w0 G0 p pb q.2.2 ((g25, 173, es25.flatten ++ [str u26, str u28, q.1] ++ ((List.replicate (n25.toNat - (i25 + 1)) [str [], str [], .map none]).flatten ++ post25)) :: L25) (fun w => TGf p q.1 q.2.1 w ∧ P25 w) w') ?_ ?_
      · refine cI (by rfl) (fun hc=>?_) (fun hc=>?_)
        · ((conv=>whnf);repeat(first|(refine mvT ?_;conv=>whnf)|(refine mvF ?_;conv=>whnf)|(refine cT (by rfl) ?_;conv=>whnf)|(refine cF (by rfl) ?_;conv=>whnf)))
          refine Does.mono H.tags ?_
          rintro r w ⟨m, u, s', rfl, hone, hr, H⟩
          ((conv=>whnf);repeat(first|(refine mvT ?_;conv=>whnf)|(refine mvF ?_;conv=>whnf)|(refine cT (by rfl) ?_;conv=>whnf)|(refine cF (by rfl) ?_;conv=>whnf)))
          refine H.st1 (v := m) 2 (rfl) (hone) rfl (by first | omega | (simp [hlen2]; done) | (simp [hlen2]; omega)) rfl (Nat.lt_of_lt_of_le (Nat.lt_succ_self _) (Nat.le_of_ble_eq_true rfl)) ?_
          intro w H
          ((conv=>whnf);repeat(first|(refine mvT ?_;conv=>whnf)|(refine mvF ?_;conv=>whnf)|(refine cT (by rfl) ?_;conv=>whnf)|(refine cF (by rfl) ?_;conv=>whnf)))
          exact ⟨(m, u, s'), ⟨rfl, rfl, rfl, rfl, rfl, rfl, rfl, rfl, rfl, rfl, rfl, rfl, rfl, rfl, rfl, rfl, trivial⟩, by rw [rdTagsF, if_pos hc]; exact hr, H⟩
        · ((conv=>whnf);repeat(first|(refine mvT ?_;conv=>whnf)|(refine mvF ?_;conv=>whnf)|(refine cT (by rfl) ?_;conv=>whnf)|(refine cF (by rfl) ?_;conv=>whnf)))
          exact ⟨(.map none, [], s28), ⟨rfl, rfl, rfl, rfl, rfl, rfl, rfl, rfl, rfl, rfl, rfl, rfl, rfl, rfl, rfl, rfl, trivial⟩, by rw [rdTagsF, if_neg (by rw [hc]; decide)], H.add fun w' _ => TagsR.nil _ _⟩
      clear H
      rintro ⟨m30, u30, s30⟩ w ⟨htg, H⟩
      dsimp only at htg H
      ((conv=>whnf);repeat(first|(refine mvT ?_;conv=>whnf)|(refine mvF ?_;conv=>whnf)|(refine cT (by rfl) ?_;conv=>whnf)|(refine cF (by rfl) ?_;conv=>whnf)))
      obtain ⟨P31, hP31⟩ : ∃ P : World → Prop, P = fun w => TGf p m30 u30 w ∧ P25 w := ⟨_, rfl⟩
      replace H : St w0 G0 p pb s30 ((g25, 173, es25.flatten ++ [str u26, str u28, m30] ++ ((List.replicate (n25.toNat - (i25 + 1)) [str [], str [], .map none]).flatten ++ post25)) :: L25) P31 w := by rw [hP31]; exact H
      have hpart : rdPart 7 v fx dDescribeDelegationTokenResponseTokenDetailRenewer si25 = (.mk 0 [] false [.mk 0 u26 false [] [], .mk 0 u28 false [] []] u30, s30) := by
        unfold rdPart rdPartW
        rw [rdAll_yes (df := dfT 7) (rdField8 (by decide) hr26) ⟨by decide, has_all hv⟩, rdAll_yes (df := dfT 7) (rdField8 (by decide) hr28) ⟨by decide, has_all hv⟩]
        simp only [rdAll]
        rw [htg]
      refine ⟨i25 + 1, ⟨rfl, rfl, ?_, rfl, rfl, rfl, rfl, rfl, rfl, rfl, rfl, rfl, rfl, rfl, trivial⟩, ⟨by omega, ListI.back hgo25 (LoopI.next hes25 hez25 hrn25 hts25 (cur := [str u26, str u28, m30]) (x := .mk 0 [] false [.mk 0 u26 false [] [], .mk 0 u28 false [] []] u30) (hpart) rfl (by rw [← hL25]; exact H) fun w hP => ?_)⟩, by omega⟩
      · show some (Value.int .i32 _) = _
        rw [IntKind.wrap_i32]
        simp only [Option.some.injEq, Value.int.injEq, true_and]
        omega
      · skip
        rw [hP31] at hP
        obtain ⟨hf31_, hP⟩ := hP
        rw [hP25] at hP
        exact ⟨QPt (QA1 (QF8 (by decide) u26) (QA1 (QF8 (by decide) u28) (QA0))) hf31_, hP⟩
    have hge25 : ¬ (i25 : Int) < n25 := of_decide_eq_false h9
    obtain ⟨l32, s32, hone32, hl32, hr32, H⟩ := H.done hge25 hln25 (nl := nlF (.mk 11 0 (-1) (-1) (-1) 0 10 dDescribeDelegationTokenResponseTokenDetailRenewer) v) (sz := elZ true 7 10 dDescribeDelegationTokenResponseTokenDetailRenewer) rfl hpL25 rfl
    ((conv=>whnf);repeat(first|(refine mvT ?_;conv=>whnf)|(refine mvF ?_;conv=>whnf)|(refine cT (by rfl) ?_;conv=>whnf)|(refine cF (by rfl) ?_;conv=>whnf)))
    obtain ⟨P33, hP33⟩ : ∃ P : World → Prop, P = fun w => ListR true (elZ true 7 10 dDescribeDelegationTokenResponseTokenDetailRenewer) (elQ true 7 10 dDescribeDelegationTokenResponseTokenDetailRenewer ⟨w, fun k => k ≠ p⟩) w (fun k => k ≠ p) a25 (.mk 0 [] (decide (n25 ≤ 0)) l32 []) ∧ P23 w := ⟨_, rfl⟩
    replace H : St w0 G0 p pb s32 ((g3, 170, es3.flatten ++ [str u4, str u6, str u8, str u11, .int .i64 n14, .int .i64 n16, .int .i64 n18, str u20, c22, .slice none 0 0, .map none] ++ ((List.replicate (n3.toNat - (i3 + 1)) [str [], str [], str [], str [], .int .i64 0, .int .i64 0, .int .i64 0, str [], .slice none 0 0, .slice none 0 0, .map none]).flatten ++ post3)) :: L3) P33 w := by rw [hP33]; exact H
    refine H.st1 (v := a25) 9 (cells_one hone32) (hone32) rfl (by first | omega | (simp [hlen1]; done) | (simp [hlen1]; omega)) rfl (Nat.lt_of_lt_of_le (Nat.lt_succ_self _) (Nat.le_of_ble_eq_true rfl)) ?_
    intro w H
    ((conv=>whnf);repeat(first|(refine mvT ?_;conv=>whnf)|(refine mvF ?_;conv=>whnf)|(refine cT (by rfl) ?_;conv=>whnf)|(refine cF (by rfl) ?_;conv=>whnf)))
    replace H : St w0 G0 p pb s32 ((g3, 170, es3.flatten ++ [str u4, str u6, str u8, str u11, .int .i64 n14, .int .i64 n16, .int .i64 n18, str u20, c22, a25, .map none] ++ ((List.replicate (n3.toNat - (i3 + 1)) [str [], str [], str [], str [], .int .i64 0, .int .i64 0, .int .i64 0, str [], .slice none 0 0, .slice none 0 0, .map none]).flatten ++ post3)) :: L3) P33 w := H
    (refine mvB ?_;((conv=>whnf);repeat(first|(refine mvT ?_;conv=>whnf)|(refine mvF ?_;conv=>whnf)|(refine cT (by rfl) ?_;conv=>whnf)|(refine cF (by rfl) ?_;conv=>whnf))))
    refine VC.cutB (fun q : Value × List Tg × Rd => [(0, .pointer (some ⟨p, 0, none⟩)), (2, .bool false), (7, .pointer (some ⟨pb, 0, none⟩)), (8, .int .i16 v), (9, .bool fx), (10, .pointer (some ⟨p, 0, none⟩)), (14, .int .i32 n3), (13, .slice (some ⟨g3, 0, none⟩) n3.toNat cap3), (15, .int .i32 i3), (16, .pointer (some ⟨g3, 0 + (i3 : Int).toNat * 11, none⟩)), (17, .pointer (some ⟨g3, 0 + (i3 : Int).toNat * 11, none⟩))]) (fun q w' => rdTagsF fx s32 = q.2 ∧ St w0 G0 p pb q.2.2 ((g3, 170, es3.flatten ++ [str u4, str u6, str u8, str u11, .int .i64 n14, .int .i64 n16, .int .i64 n18, str u20, c22, a25, q.1] ++ ((List.replicate (n3.toNat - (i3 + 1)) [str [], str [], str [], str [], .int .i64 0, .int .i64 0, .int .i64 0, str [], .slice none 0 0, .slice none 0 0, .map none]).flatten ++ post3)) :: L3) (fun w => TGf p q.1 q.2.1 w ∧ P33 w) w') ?_ ?_
    · refine cI (by rfl) (fun hc=>?_) (fun hc=>?_)
      · ((conv=>whnf);repeat(first|(refine mvT ?_;conv=>whnf)|(refine mvF ?_;conv=>whnf)|(refine cT (by rfl) ?_;conv=>whnf)|(refine cF (by rfl) ?_;conv=>whnf)))
        refine Does.mono H.tags ?_
        rintro r w ⟨m, u, s', rfl, hone, hr, H⟩
        ((conv=>whnf);repeat(first|(refine mvT ?_;conv=>whnf)|(refine mvF ?_;conv=>whnf)|(refine cT (by rfl) ?_;conv=>whnf)|(refine cF (by rfl) ?_;conv=>whnf)))
        refine H.st1 (v := m) 10 (rfl) (hone) rfl (by first | omega | (simp [hlen1]; done) | (simp [hlen1]; omega)) rfl (Nat.lt_of_lt_of_le (Nat.lt_succ_self _) (Nat.le_of_ble_eq_true rfl)) ?_
        intro w H
        ((conv=>whnf);repeat(first|(refine mvT ?_;conv=>whnf)|(refine mvF ?_;conv=>whnf)|(refine cT (by rfl) ?_;conv=>whnf)|(refine cF (by rfl) ?_;conv=>whnf)))
        exact ⟨(m, u, s'), ⟨rfl, rfl, rfl, rfl, rfl, rfl, rfl, rfl, rfl, rfl, rfl, trivial⟩, by rw [rdTagsF, if_pos hc]; exact hr, H⟩
      · ((conv=>whnf);repeat(first|(refine mvT ?_;conv=>whnf)|(refine mvF ?_;conv=>whnf)|(refine cT (by rfl) ?_;conv=>whnf)|(refine cF (by rfl) ?_;conv=>whnf)))
        exact ⟨(.map none, [], s32), ⟨rfl, rfl, rfl, rfl, rfl, rfl, rfl, rfl, rfl, rfl, rfl, trivial⟩, by rw [rdTagsF, if_neg (by rw [hc]; decide)], H.add fun w' _ => TagsR.nil _ _⟩
    clear H
    rintro ⟨m35, u35, s35⟩ w ⟨htg, H⟩
    dsimp only at htg H
    ((conv=>whnf);repeat(first|(refine mvT ?_;conv=>whnf)|(refine mvF ?_;conv=>whnf)|(refine cT (by rfl) ?_;conv=>whnf)|(refine cF (by rfl) ?_;conv=>whnf)))
    obtain ⟨P36, hP36⟩ : ∃ P : World → Prop, P = fun w => TGf p m35 u35 w ∧ P33 w := ⟨_, rfl⟩
    replace H : St w0 G0 p pb s35 ((g3, 170, es3.flatten ++ [str u4, str u6, str u8, str u11, .int .i64 n14, .int .i64 n16, .int .i64 n18, str u20, c22, a25, m35] ++ ((List.replicate (n3.toNat - (i3 + 1)) [str [], str [], str [], str [], .int .i64 0, .int .i64 0, .int .i64 0, str [], .slice none 0 0, .slice none 0 0, .map none]).flatten ++ post3)) :: L3) P36 w := by rw [hP36]; exact H
    have hpart : rdPart 8 v fx dDescribeDelegationTokenResponseTokenDetail si3 = (.mk 0 [] false [.mk 0 u4 false [] [], .mk 0 u6 false [] [], .mk 0 u8 false [] [], .mk 0 u11 false [] [], numT n14, numT n16, numT n18, .mk 0 u20 false [] [], .mk 0 u22 nl22 [] [], .mk 0 [] (decide (n25 ≤ 0)) l32 []] u35, s35) := by
      unfold rdPart rdPartW
      rw [rdAll_yes (df := dfT 8) (rdField8 (by decide) hr4) ⟨by decide, has_all hv⟩, rdAll_yes (df := dfT 8) (rdField8 (by decide) hr6) ⟨by decide, has_all hv⟩, rdAll_ver hr8 (by decide), rdAll_ver hr11 (by decide), rdAll_yes (df := dfT 8) (rdField4.trans hr14) ⟨by decide, has_all hv⟩, rdAll_yes (df := dfT 8) (rdField4.trans hr16) ⟨by decide, has_all hv⟩, rdAll_yes (df := dfT 8) (rdField4.trans hr18) ⟨by decide, has_all hv⟩, rdAll_yes (df := dfT 8) (rdField8 (by decide) hr20) ⟨by decide, has_all hv⟩, rdAll_yes (df := dfT 8) (rdField9.trans hr22) ⟨by decide, has_all hv⟩, rdAll_yes (df := dfT 8) ((rdField_list _ _ _ _ _ _ _ _ _ _ _).trans hr32) ⟨by decide, has_all hv⟩]
      simp only [rdAll]
      rw [htg]
    refine ⟨i3 + 1, ⟨rfl, rfl, ?_, rfl, rfl, rfl, rfl, rfl, rfl, trivial⟩, ⟨by omega, ListI.back hgo3 (LoopI.next hes3 hez3 hrn3 hts3 (cur := [str u4, str u6, str u8, str u11, .int .i64 n14, .int .i64 n16, .int .i64 n18, str u20, c22, a25, m35]) (x := .mk 0 [] false [.mk 0 u4 false [] [], .mk 0 u6 false [] [], .mk 0 u8 false [] [], .mk 0 u11 false [] [], numT n14, numT n16, numT n18, .mk 0 u20 false [] [], .mk 0 u22 nl22 [] [], .mk 0 [] (decide (n25 ≤ 0)) l32 []] u35) (hpart) rfl (by rw [← hL3]; exact H) fun w hP => ?_)⟩, by omega⟩
    · show some (Value.int .i32 _) = _
      rw [IntKind.wrap_i32]
      simp only [Option.some.injEq, Value.int.injEq, true_and]
      omega
    · skip
      rw [hP36] at hP
      obtain ⟨hf36_, hP⟩ := hP
      rw [hP33] at hP
      obtain ⟨hf33_, hP⟩ := hP
      rw [hP23] at hP
      obtain ⟨hf23_, hP⟩ := hP
      rw [hP3] at hP
      exact ⟨QPt (QA1 (QF8 (by decide) u4) (QA1 (QF8 (by decide) u6) (QA1 (QF8 (by decide) u8) (QA1 (QF8 (by decide) u11) (QA1 (QF4 hn14) (QA1 (QF4 hn16) (QA1 (QF4 hn18) (QA1 (QF8 (by decide) u20) (QA1 (QF9 hnl22 hf23_) (QA1 (QF11 hl32 hf33_) (QA0))))))))))) hf36_, hP⟩
  have hge3 : ¬ (i3 : Int) < n3 := of_decide_eq_false h9
  obtain ⟨l37, s37, hone37, hl37, hr37, H⟩ := H.done hge3 hln3 (nl := nlF (.mk 11 0 (-1) (-1) (-1) 0 10 dDescribeDelegationTokenResponseTokenDetail) v) (sz := elZ true 8 10 dDescribeDelegationTokenResponseTokenDetail) rfl hpL3 rfl
  ((conv=>whnf);repeat(first|(refine mvT ?_;conv=>whnf)|(refine mvF ?_;conv=>whnf)|(refine cT (by rfl) ?_;conv=>whnf)|(refine cF (by rfl) ?_;conv=>whnf)))
  obtain ⟨P38, hP38⟩ : ∃ P : World → Prop, P = fun w => ListR true (elZ true 8 10 dDescribeDelegationTokenResponseTokenDetail) (elQ true 8 10 dDescribeDelegationTokenResponseTokenDetail ⟨w, fun k => k ≠ p⟩) w (fun k => k ≠ p) a3 (.mk 0 [] (decide (n3 ≤ 0)) l37 []) ∧ (fun _ => True) w := ⟨_, rfl⟩
  replace H : St w0 G0 p pb s37 ((p, ty, [] ++ [.int .i16 v, .int .i16 n1, .slice none 0 0, .int .i32 0, .map none] ++ []) :: []) P38 w := by rw [hP38]; exact H
  refine H.st1 (v := a3) 2 (cells_one hone37) (hone37) rfl (by simp) rfl (Nat.lt_of_lt_of_le (Nat.lt_succ_self _) (Nat.le_of_ble_eq_true rfl)) ?_
  intro w H
  ((conv=>whnf);repeat(first|(refine mvT ?_;conv=>whnf)|(refine mvF ?_;conv=>whnf)|(refine cT (by rfl) ?_;conv=>whnf)|(refine cF (by rfl) ?_;conv=>whnf)))
  replace H : St w0 G0 p pb s37 ((p, ty, [] ++ [.int .i16 v, .int .i16 n1, a3, .int .i32 0, .map none] ++ []) :: []) P38 w := H
  refine Does.mono H.int32 ?_
  rintro r w ⟨n40, s40, rfl, hn40, hr40, H⟩
  ((conv=>whnf);repeat(first|(refine mvT ?_;conv=>whnf)|(refine mvF ?_;conv=>whnf)|(refine cT (by rfl) ?_;conv=>whnf)|(refine cF (by rfl) ?_;conv=>whnf)))
  refine H.st1 (v := .int .i32 n40) 3 (rfl) (rfl) rfl (by simp) rfl (Nat.lt_of_lt_of_le (Nat.lt_succ_self _) (Nat.le_of_ble_eq_true rfl)) ?_
  intro w H
  ((conv=>whnf);repeat(first|(refine mvT ?_;conv=>whnf)|(refine mvF ?_;conv=>whnf)|(refine cT (by rfl) ?_;conv=>whnf)|(refine cF (by rfl) ?_;conv=>whnf)))
  replace H : St w0 G0 p pb s40 ((p, ty, [] ++ [.int .i16 v, .int .i16 n1, a3, .int .i32 n40, .map none] ++ []) :: []) P38 w := H
  (refine mvB ?_;((conv=>whnf);repeat(first|(refine mvT ?_;conv=>whnf)|(refine mvF ?_;conv=>whnf)|(refine cT (by rfl) ?_;conv=>whnf)|(refine cF (by rfl) ?_;conv=>whnf))))
  refine VC.cutE (fun q : Value × List Tg × Rd => [(0, .pointer (some ⟨p, 0, none⟩)), (2, .bool false), (7, .pointer (some ⟨pb, 0, none⟩)), (8, .int .i16 v), (9, .bool fx), (10, .pointer (some ⟨p, 0, none⟩))]) (fun q w' => rdTagsF fx s40 = q.2 ∧ St w0 G0 p pb q.2.2 ((p, ty, [] ++ [.int .i16 v, .int .i16 n1, a3, .int .i32 n40, q.1] ++ []) :: []) (fun w => TGf p q.1 q.2.1 w ∧ P38 w) w') ?_ ?_
  · refine cI (by rfl) (fun hc=>?_) (fun hc=>?_)
    · ((conv=>whnf);repeat(first|(refine mvT ?_;conv=>whnf)|(refine mvF ?_;conv=>whnf)|(refine cT (by rfl) ?_;conv=>whnf)|(refine cF (by rfl) ?_;conv=>whnf)))
      refine Does.mono H.tags ?_
      rintro r w ⟨m, u, s', rfl, hone, hr, H⟩
      ((conv=>whnf);repeat(first|(refine mvT ?_;conv=>whnf)|(refine mvF ?_;conv=>whnf)|(refine cT (by rfl) ?_;conv=>whnf)|(refine cF (by rfl) ?_;conv=>whnf)))
      refine H.st1 (v := m) 4 (rfl) (hone) rfl (by simp) rfl (Nat.lt_of_lt_of_le (Nat.lt_succ_self _) (Nat.le_of_ble_eq_true rfl)) ?_
      intro w H
      ((conv=>whnf);repeat(first|(refine mvT ?_;conv=>whnf)|(refine mvF ?_;conv=>whnf)|(refine cT (by rfl) ?_;conv=>whnf)|(refine cF (by rfl) ?_;conv=>whnf)))
      exact ⟨(m, u, s'), ⟨rfl, rfl, rfl, rfl, rfl, rfl, trivial⟩, by rw [rdTagsF, if_pos hc]; exact hr, H⟩
    · ((conv=>whnf);repeat(first|(refine mvT ?_;conv=>whnf)|(refine mvF ?_;conv=>whnf)|(refine cT (by rfl) ?_;conv=>whnf)|(refine cF (by rfl) ?_;conv=>whnf)))
      exact ⟨(.map none, [], s40), ⟨rfl, rfl, rfl, rfl, rfl, rfl, trivial⟩, by rw [rdTagsF, if_neg (by rw [hc]; decide)], H.add fun w' _ => TagsR.nil _ _⟩
  clear H
  rintro ⟨m42, u42, s42⟩ w ⟨htg, H⟩
  dsimp only at htg H
  ((conv=>whnf);repeat(first|(refine mvT ?_;conv=>whnf)|(refine mvF ?_;conv=>whnf)|(refine cT (by rfl) ?_;conv=>whnf)|(refine cF (by rfl) ?_;conv=>whnf)))
  obtain ⟨P43, hP43⟩ : ∃ P : World → Prop, P = fun w => TGf p m42 u42 w ∧ P38 w := ⟨_, rfl⟩
  replace H : St w0 G0 p pb s42 ((p, ty, [] ++ [.int .i16 v, .int .i16 n1, a3, .int .i32 n40, m42] ++ []) :: []) P43 w := by rw [hP43]; exact H
  have hpart : rdPart 9 v fx dDescribeDelegationTokenResponse (l, false) = (.mk 0 [] false [numT n1, .mk 0 [] (decide (n3 ≤ 0)) l37 [], numT n40] u42, s42) := by
    unfold rdPart rdPartW
    rw [rdAll_yes (df := dfT 9) (rdField2.trans hr1) ⟨by decide, has_all hv⟩, rdAll_yes (df := dfT 9) ((rdField_list _ _ _ _ _ _ _ _ _ _ _).trans hr37) ⟨by decide, has_all hv⟩, rdAll_yes (df := dfT 9) (rdField3.trans hr40) ⟨by decide, has_all hv⟩]
    simp only [rdAll]
    rw [htg]
  refine Does.mono (H.done hL hp1) ?_
  rintro r w ⟨rfl, H⟩
  ((conv=>whnf);repeat(first|(refine mvT ?_;conv=>whnf)|(refine mvF ?_;conv=>whnf)|(refine cT (by rfl) ?_;conv=>whnf)|(refine cF (by rfl) ?_;conv=>whnf)))
  refine RdPost.end hpart H fun hP => ?_
  rw [hP43] at hP
  obtain ⟨hf43_, hP⟩ := hP
  rw [hP38] at hP
  obtain ⟨hf38_, hP⟩ := hP
  exact QPt (QA1 (QF2 hn1) (QA1 (QF11 hl37 hf38_) (QA1 (QF3 hn40) (QA0)))) hf43_
end Go.Proofs.YtanohglljnajiaaGreatDoor.K
