/- GroupMetadataKey is read and told. (Written ahead of its seat: not built yet.) -/
import Derived.Test.YtgajnmbjchdioaaDoorU6
import Derived.Test.YtgajnmbjchdioaaDoorGkept
set_option linter.unusedVariables false
set_option linter.unusedSimpArgs false
namespace Go.Proofs.YtgajnmbjchdioaaDoor.K
open Go
set_option maxHeartbeats 4000000
set_option maxRecDepth 100000

abbrev dGroupMetadataKey : List Fd := [.mk 8 0 (-1) (-1) (-1) 0 0 []]
theorem sGroupMetadataKey (w : World) : Does X.P 5 #[] w fun r w' => Msg w' (fun k => w.heap.size ≤ k) r dGroupMetadataKey (-1) ∧ Ext nob w w' := by
  have hx0 : Ext nob w w := Ext.refl _ _
  refine Does.go (X := X) (l := []) Tryd.func5 rfl (by kernel_rfl) (by kernel_rfl) _ rfl ?_
  ((conv=>whnf);repeat(first|(refine mvT ?_;conv=>whnf)|(refine mvF ?_;conv=>whnf)|(refine cT (by rfl) ?_;conv=>whnf)|(refine cF (by rfl) ?_;conv=>whnf)))
  intro b w1 hb ho hx
  have hx0 := hx0.e0 hx
  have ho := ho
  ((conv=>whnf);repeat(first|(refine mvT ?_;conv=>whnf)|(refine mvF ?_;conv=>whnf)|(refine cT (by rfl) ?_;conv=>whnf)|(refine cF (by rfl) ?_;conv=>whnf)))
  have hxs := hx0
  intro b2 w2 hb2 ho2 hx2
  ((conv=>whnf);repeat(first|(refine mvT ?_;conv=>whnf)|(refine mvF ?_;conv=>whnf)|(refine cT (by rfl) ?_;conv=>whnf)|(refine cF (by rfl) ?_;conv=>whnf)))
  have hx0 := hx0.e0 hx2
  refine ⟨_, _, ho.e0 hx2, rfl, rfl, rfl, ?_⟩
  intro w3 ho3 hx3
  have hx03 := hx0.st hx3 hb
  ((conv=>whnf);repeat(first|(refine mvT ?_;conv=>whnf)|(refine mvF ?_;conv=>whnf)|(refine cT (by rfl) ?_;conv=>whnf)|(refine cF (by rfl) ?_;conv=>whnf)))
  refine ⟨_, rfl, ho3.cells, ?_⟩
  refine ⟨⟨_, rfl, ?_⟩, hx03⟩
  have ho2 := ho2.ext hx3 (by have := ho.lt; omega)
  have hs := hx0.size
  have hs2 : w.heap.size ≤ b2 := Nat.le_trans hxs.size hb2
  exact FdL.fds (cs := [[.int .i64 8, .int .i64 0, .int .i64 (-1), .int .i64 (-1), .int .i64 (-1), .int .i64 0, .int .i64 0, .slice none 0 0]])
    ⟨fdLeaf _ _ _ _ _ _ _ _ _, trivial⟩ ho2 rfl (by decide) (by omega)
theorem dfGroupMetadataKey {w : World} {q : Nat} : Does X.P 26 #[.pointer (some ⟨q, 0, none⟩)] w fun r w' => w = w' := by
  refine Does.go (X := X) (l := [_]) Tryd.func26 rfl (by kernel_rfl) (by kernel_rfl) _ rfl ?_
  ((conv=>whnf);repeat(first|(refine mvT ?_;conv=>whnf)|(refine mvF ?_;conv=>whnf)|(refine cT (by rfl) ?_;conv=>whnf)|(refine cF (by rfl) ?_;conv=>whnf)))
theorem newGroupMetadataKey (w : World) : Does X.P 12 #[] w fun r w' => r = .agg #[.int .i16 0, str []] ∧ Ext nob w w' := by
  refine Does.go (X := X) (l := []) Tryd.func12 rfl (by kernel_rfl) (by kernel_rfl) _ rfl ?_
  ((conv=>whnf);repeat(first|(refine mvT ?_;conv=>whnf)|(refine mvF ?_;conv=>whnf)|(refine cT (by rfl) ?_;conv=>whnf)|(refine cF (by rfl) ?_;conv=>whnf)))
  intro p0 w0 hp0 ho0 hx0
  ((conv=>whnf);repeat(first|(refine mvT ?_;conv=>whnf)|(refine mvF ?_;conv=>whnf)|(refine cT (by rfl) ?_;conv=>whnf)|(refine cF (by rfl) ?_;conv=>whnf)))
  intro p w1 hp ho hx
  ((conv=>whnf);repeat(first|(refine mvT ?_;conv=>whnf)|(refine mvF ?_;conv=>whnf)|(refine cT (by rfl) ?_;conv=>whnf)|(refine cF (by rfl) ?_;conv=>whnf)))
  refine Does.mono (dfGroupMetadataKey) ?_;rintro r2 w2 rfl;((conv=>whnf);repeat(first|(refine mvT ?_;conv=>whnf)|(refine mvF ?_;conv=>whnf)|(refine cT (by rfl) ?_;conv=>whnf)|(refine cF (by rfl) ?_;conv=>whnf)))
  refine ⟨_, rfl, ho.cells, ?_⟩
  ((conv=>whnf);repeat(first|(refine mvT ?_;conv=>whnf)|(refine mvF ?_;conv=>whnf)|(refine cT (by rfl) ?_;conv=>whnf)|(refine cF (by rfl) ?_;conv=>whnf)))
  refine st_all [.int .i16 0, str []] (ho0.e0 hx) rfl rfl rfl ?_
  intro w3 ho3 hx3
  ((conv=>whnf);repeat(first|(refine mvT ?_;conv=>whnf)|(refine mvF ?_;conv=>whnf)|(refine cT (by rfl) ?_;conv=>whnf)|(refine cF (by rfl) ?_;conv=>whnf)))
  refine ⟨_, rfl, ho3.cells, ?_⟩
  exact ⟨rfl, (hx0.e0 hx).st hx3 hp0⟩
theorem readGroupMetadataKey {w0 : World} {F : Nat → Prop} {p : Nat} {ty : TypeId} {x ev : Value} {l u : List UInt8} {n : Int} {s1 s2 : Rd} (hL : Laid w0 ev) (hp : Own w0 p ty [.int .i16 0, str []]) (hx : Bytes w0 F x l) (hF : ∀ k, F k → k ≠ p) (hp1 : p ≠ errG)
    (h1 : rdNum 2 .i16 (l, false) = (numT n, s1)) (h2 : rdTx false s1 = (u, s2)) :
    Does X.P 27 #[.pointer (some ⟨p, 0, none⟩), x, .bool false] w0 fun r w' => r = (if s2.2 = true then ev else .nilIface) ∧ Own w' p ty [.int .i16 n, str u] ∧ Ext (fun k => k = p) w0 w' := by
  have hpl := hp.lt
  obtain ⟨G0, hG0, hx⟩ : ∃ G0 : Nat → Prop, (∀ k, G0 k → k < w0.heap.size ∧ k ≠ p) ∧ Bytes w0 G0 x l := ⟨fun k => F k ∧ k < w0.heap.size, fun k h => ⟨h.2, hF k h.1⟩, Sl.mono hx fun k hk h => ⟨h, hk⟩⟩
  obtain ⟨a0, c0, rfl, _⟩ := hx.view
  refine Does.go (X := X) (l := [_, _, _]) Tryd.func27 rfl (by kernel_rfl) (by kernel_rfl) _ rfl ?_
  ((conv=>whnf);repeat(first|(refine mvT ?_;conv=>whnf)|(refine mvF ?_;conv=>whnf)|(refine cT (by rfl) ?_;conv=>whnf)|(refine cF (by rfl) ?_;conv=>whnf)))
  refine Does.mono (dfGroupMetadataKey) ?_;rintro r2 w2 rfl;((conv=>whnf);repeat(first|(refine mvT ?_;conv=>whnf)|(refine mvF ?_;conv=>whnf)|(refine cT (by rfl) ?_;conv=>whnf)|(refine cF (by rfl) ?_;conv=>whnf)))
  intro pb w1 hpb hb hx1
  ((conv=>whnf);repeat(first|(refine mvT ?_;conv=>whnf)|(refine mvF ?_;conv=>whnf)|(refine cT (by rfl) ?_;conv=>whnf)|(refine cF (by rfl) ?_;conv=>whnf)))
  refine st_all [.slice a0 l.length c0, .bool false] hb rfl rfl rfl ?_
  intro w hb hx2
  ((conv=>whnf);repeat(first|(refine mvT ?_;conv=>whnf)|(refine mvF ?_;conv=>whnf)|(refine cT (by rfl) ?_;conv=>whnf)|(refine cF (by rfl) ?_;conv=>whnf)))
  have he : Ext nob w0 w := hx1.st hx2 hpb
  have hpw : Own w p ty [.int .i16 0, str []] := hp.e0 he
  have H := St.init hpw hb (hx.e0 he) hG0 (he.mono fun _ _ f => f.elim) hpl hpb
  clear hx1 hx2 hb hpw he hp
  refine Does.mono H.int16 ?_
  rintro r w ⟨n1, s1', rfl, hn1, hr1, H⟩
  rw [h1] at hr1
  obtain ⟨e1, rfl⟩ := Prod.mk.inj hr1
  obtain rfl : n = n1 := by injection e1
  ((conv=>whnf);repeat(first|(refine mvT ?_;conv=>whnf)|(refine mvF ?_;conv=>whnf)|(refine cT (by rfl) ?_;conv=>whnf)|(refine cF (by rfl) ?_;conv=>whnf)))
  refine H.st1 (v := .int .i16 n) 0 (rfl) (rfl) rfl (by simp) rfl (Nat.lt_of_lt_of_le (Nat.lt_succ_self _) (Nat.le_of_ble_eq_true rfl)) ?_
  intro w H
  ((conv=>whnf);repeat(first|(refine mvT ?_;conv=>whnf)|(refine mvF ?_;conv=>whnf)|(refine cT (by rfl) ?_;conv=>whnf)|(refine cF (by rfl) ?_;conv=>whnf)))
  replace H : St w0 G0 p pb s1 ((p, ty, [] ++ [.int .i16 n, str []] ++ []) :: []) (fun _ => True) w := H
  refine ldS (H.cell (o := 0) rfl (k := 0) rfl) ?_;((conv=>whnf);repeat(first|(refine mvT ?_;conv=>whnf)|(refine mvF ?_;conv=>whnf)|(refine cT (by rfl) ?_;conv=>whnf)|(refine cF (by rfl) ?_;conv=>whnf)))
  refine Does.mono H.txp ?_
  rintro r w ⟨u', s2', rfl, hr2, H⟩
  rw [h2] at hr2
  obtain ⟨rfl, rfl⟩ := Prod.mk.inj hr2
  ((conv=>whnf);repeat(first|(refine mvT ?_;conv=>whnf)|(refine mvF ?_;conv=>whnf)|(refine cT (by rfl) ?_;conv=>whnf)|(refine cF (by rfl) ?_;conv=>whnf)))
  refine H.st1 (v := str u) 1 (rfl) (rfl) rfl (by simp) rfl (Nat.lt_of_lt_of_le (Nat.lt_succ_self _) (Nat.le_of_ble_eq_true rfl)) ?_
  intro w H
  ((conv=>whnf);repeat(first|(refine mvT ?_;conv=>whnf)|(refine mvF ?_;conv=>whnf)|(refine cT (by rfl) ?_;conv=>whnf)|(refine cF (by rfl) ?_;conv=>whnf)))
  replace H : St w0 G0 p pb s2 ((p, ty, [] ++ [.int .i16 n, str u] ++ []) :: []) (fun _ => True) w := H
  refine Does.mono (H.done hL hp1) ?_
  rintro r w ⟨rfl, H⟩
  ((conv=>whnf);repeat(first|(refine mvT ?_;conv=>whnf)|(refine mvF ?_;conv=>whnf)|(refine cT (by rfl) ?_;conv=>whnf)|(refine cF (by rfl) ?_;conv=>whnf)))
  exact ⟨rfl, by simpa using H.head, H.ext⟩
theorem tellGroupMetadataKey {w0 : World} {q : Nat} {nv : Int} {s0 : List UInt8} (hq : Cells w0 q 0 [.int .i16 nv, str s0]) (hs0 : s0.length ≤ 32767) :
    Does X.P 14 #[.pointer (some ⟨q, 0, none⟩)] w0 fun r w' => Tr w' (fun k => w0.heap.size ≤ k) r (.mk 0 [] false [.mk 0 s0 false [] []] []) ∧ Ext nob w0 w' := by
  refine Does.go (X := X) (l := [_]) Tryd.func14 rfl (by kernel_rfl) (by kernel_rfl) _ rfl ?_
  ((conv=>whnf);repeat(first|(refine mvT ?_;conv=>whnf)|(refine mvF ?_;conv=>whnf)|(refine cT (by rfl) ?_;conv=>whnf)|(refine cF (by rfl) ?_;conv=>whnf)))
  intro b2 w1 hb2 ho2 hx1
  ((conv=>whnf);repeat(first|(refine mvT ?_;conv=>whnf)|(refine mvF ?_;conv=>whnf)|(refine cT (by rfl) ?_;conv=>whnf)|(refine cF (by rfl) ?_;conv=>whnf)))
  refine ⟨⟨by decide, by decide, by decide, by decide⟩, ⟨by decide, rfl⟩, ?_⟩
  intro bl w2 hbl hol hx2
  ((conv=>whnf);repeat(first|(refine mvT ?_;conv=>whnf)|(refine mvF ?_;conv=>whnf)|(refine cT (by rfl) ?_;conv=>whnf)|(refine cF (by rfl) ?_;conv=>whnf)))
  intro bt w3 hbt hot hx3
  ((conv=>whnf);repeat(first|(refine mvT ?_;conv=>whnf)|(refine mvF ?_;conv=>whnf)|(refine cT (by rfl) ?_;conv=>whnf)|(refine cF (by rfl) ?_;conv=>whnf)))
  have hzz : w0.heap.size ≤ w1.heap.size := hx1.size
  have H := (((Sg.start w0).push hx1 ho2 hb2).push hx2 hol hbl).push hx3 hot hbt
  refine Sg.st (A := []) (o' := 0) (m := [.int .i64 0, .slice none 0 0, .bool false, .slice (some ⟨bl, 0, none⟩) 1 1, .slice none 0 0]) H rfl (Nat.le_of_ble_eq_true rfl) rfl ?_
  clear H hot hol ho2 hx1 hx2 hx3
  intro w H
  obtain ⟨Tt, Tl, T2, H⟩ : ∃ Tt Tl T2, Sg w0 [(bt, Tt, [.int .i64 0, .slice none 0 0, .bool false, .slice (some ⟨bl, 0, none⟩) 1 1, .slice none 0 0]), (bl, Tl, [.int .i64 0, .slice none 0 0, .bool false, .slice none 0 0, .slice none 0 0]), (b2, T2, [.int .i64 0, .slice none 0 0, .bool false, .slice none 0 0, .slice none 0 0])] (fun _ => True) w := ⟨_, _, _, H⟩
  have hb2w : w0.heap.size ≤ b2 := hb2
  have hblw : w0.heap.size ≤ bl := by omega
  ((conv=>whnf);repeat(first|(refine mvT ?_;conv=>whnf)|(refine mvF ?_;conv=>whnf)|(refine cT (by rfl) ?_;conv=>whnf)|(refine cF (by rfl) ?_;conv=>whnf)))
  refine VD.draw mixed (.q 0 (.q 1 (.q 2 (.q 3 (.q 4 (.q 5 (.eff 6 [1] (.q 7 (.q 8 (.eff 9 [] (.done))))))))))) (by kernel_rfl) ?_;((conv=>whnf);repeat(first|(refine mvT ?_;conv=>whnf)|(refine mvF ?_;conv=>whnf)|(refine cT (by rfl) ?_;conv=>whnf)|(refine cF (by rfl) ?_;conv=>whnf)))
  replace H := H.e0 (ext_drew _)
  refine ldS ((Sg.at (A := []) H).cell rfl) ?_;((conv=>whnf);repeat(first|(refine mvT ?_;conv=>whnf)|(refine mvF ?_;conv=>whnf)|(refine cT (by rfl) ?_;conv=>whnf)|(refine cF (by rfl) ?_;conv=>whnf)))
  refine ⟨_, ld ((hq.e0 H.ext).cell (j := 1) rfl) (by simp), ?_⟩
  ((conv=>whnf);repeat(first|(refine mvT ?_;conv=>whnf)|(refine mvF ?_;conv=>whnf)|(refine cT (by rfl) ?_;conv=>whnf)|(refine cF (by rfl) ?_;conv=>whnf)))
  refine ⟨by show s0.length ≤ maxLen; rw [maxLen_eq]; omega, ?_⟩
  intro bb0 cb0 wb0 hbb0 hbl0 hC0 hcp0 hxb0
  have hC0 : Cells wb0 bb0 0 (s0.map bcell) := hC0
  have hcp0 : s0.length ≤ cb0 ∧ cb0 ≤ maxLen := hcp0
  have H := H.keepN (H.e0 hxb0) (trL [.int .i64 0, .slice (some ⟨bb0, 0, none⟩) s0.length cb0, .bool false, .slice none 0 0, .slice none 0 0] (.mk 0 s0 false [] [])) (F := fun k => _ ≤ k) (TrC.leaf rfl (conv_bytes hbb0 hbl0 hC0 hcp0)) fun k h => h
  refine ⟨by (conv => whnf); exact ⟨⟨_, (Sg.at (A := []) H).cell rfl, rfl, rfl⟩, trivial⟩, ?_⟩
  ((conv=>whnf);repeat(first|(refine mvT ?_;conv=>whnf)|(refine mvF ?_;conv=>whnf)|(refine cT (by rfl) ?_;conv=>whnf)|(refine cF (by rfl) ?_;conv=>whnf)))
  refine ⟨bl, 0, rfl, ⟨by omega, by omega⟩, ?_⟩
  ((conv=>whnf);repeat(first|(refine mvT ?_;conv=>whnf)|(refine mvF ?_;conv=>whnf)|(refine cT (by rfl) ?_;conv=>whnf)|(refine cF (by rfl) ?_;conv=>whnf)))
  refine Sg.st (A := [_]) (o' := 0) (m := [.int .i64 0, .slice (some ⟨bb0, 0, none⟩) s0.length cb0, .bool false, .slice none 0 0, .slice none 0 0]) H rfl (Nat.le_of_ble_eq_true rfl) rfl ?_
  clear H
  intro w H
  obtain ⟨P0, hP0⟩ : ∃ P : World → Prop, P = fun w => TrC w (fun k => w0.heap.size ≤ k) [.int .i64 0, .slice (some ⟨bb0, 0, none⟩) s0.length cb0, .bool false, .slice none 0 0, .slice none 0 0] (.mk 0 s0 false [] []) ∧ True := ⟨_, rfl⟩
  replace H : Sg w0 [(bt, Tt, [.int .i64 0, .slice none 0 0, .bool false, .slice (some ⟨bl, 0, none⟩) 1 1, .slice none 0 0]), (bl, Tl, [.int .i64 0, .slice (some ⟨bb0, 0, none⟩) s0.length cb0, .bool false, .slice none 0 0, .slice none 0 0]), (b2, T2, [.int .i64 0, .slice none 0 0, .bool false, .slice none 0 0, .slice none 0 0])] P0 w := by rw [hP0]; exact H
  ((conv=>whnf);repeat(first|(refine mvT ?_;conv=>whnf)|(refine mvF ?_;conv=>whnf)|(refine cT (by rfl) ?_;conv=>whnf)|(refine cF (by rfl) ?_;conv=>whnf)))
  refine ⟨_, rfl, (Sg.at (A := []) H).cells, ?_⟩
  ((conv=>whnf);repeat(first|(refine mvT ?_;conv=>whnf)|(refine mvF ?_;conv=>whnf)|(refine cT (by rfl) ?_;conv=>whnf)|(refine cF (by rfl) ?_;conv=>whnf)))
  refine Sg.st (A := [_, _]) (o' := 0) (m := [.int .i64 0, .slice none 0 0, .bool false, .slice (some ⟨bl, 0, none⟩) 1 1, .slice none 0 0]) H rfl (Nat.le_of_ble_eq_true rfl) rfl ?_
  clear H
  intro w H
  ((conv=>whnf);repeat(first|(refine mvT ?_;conv=>whnf)|(refine mvF ?_;conv=>whnf)|(refine cT (by rfl) ?_;conv=>whnf)|(refine cF (by rfl) ?_;conv=>whnf)))
  refine ⟨_, rfl, (Sg.at (A := [_, _]) H).cells, ?_⟩
  have hP := H.now
  rw [hP0] at hP
  have hbl := Sg.at (A := [_]) H
  refine ⟨⟨_, rfl, .mk 0 [] false [.mk 0 s0 false [] []] [] _ _ _ [[.int .i64 0, .slice (some ⟨bb0, 0, none⟩) s0.length cb0, .bool false, .slice none 0 0, .slice none 0 0]] rfl (Bytes.nil _ _) (rows_sl hbl (by simp) rfl (by rw [maxLen_eq]; decide) hblw) rfl ?_ (TgsR.nil _ _)⟩, H.ext⟩
  intro i x y hx hy
  match i, hx, hy with
  | 0, hx, hy => simp only [List.getElem?_cons_zero, Option.some.injEq] at hx hy; subst hx; subst hy; exact hP.1
theorem tellsGroupMetadataKey {G : Nat → Prop} {w : World} {x ev : Value} {l u : List UInt8} {n : Int} {s1 : Rd} (hL : Laid w ev) (hx : Bytes w G x l) (h1 : rdNum 2 .i16 (l, false) = (numT n, s1)) (h2 : rdTx false s1 = (u, ([], false))) (hu : u.length ≤ 32767) (hl : l.length ≤ 100000000000000) (hn : IntKind.i64.wrap n = n) :
    Does X.P 6 #[x] w fun r w' => ∃ o, r = .tuple #[o, .bool true] ∧ Tr w' (fun k => w.heap.size ≤ k) o (.mk n [] false [.mk 0 u false [] []] []) ∧ Ext nob w w' := by
  obtain ⟨ax, cx, rfl, _⟩ := hx.view
  have hL1 := hL.lt
  refine Does.go (X := X) (l := [_]) Tryd.func6 rfl (by kernel_rfl) (by kernel_rfl) _ rfl ?_
  ((conv=>whnf);repeat(first|(refine mvT ?_;conv=>whnf)|(refine mvF ?_;conv=>whnf)|(refine cT (by rfl) ?_;conv=>whnf)|(refine cF (by rfl) ?_;conv=>whnf)))
  intro b w0 hb ho hx0
  ((conv=>whnf);repeat(first|(refine mvT ?_;conv=>whnf)|(refine mvF ?_;conv=>whnf)|(refine cT (by rfl) ?_;conv=>whnf)|(refine cF (by rfl) ?_;conv=>whnf)))
  refine Does.mono (newGroupMetadataKey w0) ?_;rintro r1 w1 ⟨rfl, hx1⟩;((conv=>whnf);repeat(first|(refine mvT ?_;conv=>whnf)|(refine mvF ?_;conv=>whnf)|(refine cT (by rfl) ?_;conv=>whnf)|(refine cF (by rfl) ?_;conv=>whnf)))
  intro p w2 hp hop hx2
  ((conv=>whnf);repeat(first|(refine mvT ?_;conv=>whnf)|(refine mvF ?_;conv=>whnf)|(refine cT (by rfl) ?_;conv=>whnf)|(refine cF (by rfl) ?_;conv=>whnf)))
  refine st_all [.int .i16 0, str []] hop rfl rfl rfl ?_
  intro w3 hop hx3
  have hx03 : Ext nob w w3 := (hx0.e0 hx1).e0 (hx2.st hx3 hp)
  have hwp : w.heap.size ≤ p := Nat.le_trans (hx0.e0 hx1).size hp
  have ho3 := (ho.e0 hx1).e0 (hx2.st hx3 hp)
  have hpb : p ≠ b := by have := (ho.e0 hx1).lt; omega
  ((conv=>whnf);repeat(first|(refine mvT ?_;conv=>whnf)|(refine mvF ?_;conv=>whnf)|(refine cT (by rfl) ?_;conv=>whnf)|(refine cF (by rfl) ?_;conv=>whnf)))
  refine app_bytes rfl rfl (OB.nil w3 w3.heap.size) (hx.e0 hx03).src rfl (by simp only [List.length_nil]; omega) (Nat.le_refl _) ?_
  intro x4 w4 h4 hx4 _ _
  ((conv=>whnf);repeat(first|(refine mvT ?_;conv=>whnf)|(refine mvF ?_;conv=>whnf)|(refine cT (by rfl) ?_;conv=>whnf)|(refine cF (by rfl) ?_;conv=>whnf)))
  rw [List.nil_append] at h4
  have hx4 : Ext nob w3 w4 := hx4.mono fun k _ h => by simp [Value.ownBlock] at h
  have hx04 := hx03.e0 hx4
  have hpl := hop.lt
  have hread : Does X.P 13 #[.pointer (some ⟨p, 0, none⟩), x4] w4 fun r w' => r = .nilIface ∧ Own w' p 48 [.int .i16 n, str u] ∧ Ext (fun k => k = p) w4 w' := by
    obtain ⟨a4, c4, rfl, _⟩ := h4.shape
    refine Does.go (X := X) (l := [_, _]) Tryd.func13 rfl (by kernel_rfl) (by kernel_rfl) _ rfl ?_
    ((conv=>whnf);repeat(first|(refine mvT ?_;conv=>whnf)|(refine mvF ?_;conv=>whnf)|(refine cT (by rfl) ?_;conv=>whnf)|(refine cF (by rfl) ?_;conv=>whnf)))
    refine Does.mono (readGroupMetadataKey (hL.ext hx04 fun f => f) (hop.e0 hx4) (h4.bytes (F := fun k => k ≠ p) fun k hk => by omega) (fun k h => h) (by omega) h1 h2) ?_;rintro r w' ⟨h5, h6, h7⟩;((conv=>whnf);repeat(first|(refine mvT ?_;conv=>whnf)|(refine mvF ?_;conv=>whnf)|(refine cT (by rfl) ?_;conv=>whnf)|(refine cF (by rfl) ?_;conv=>whnf)))
    exact ⟨h5, h6, h7⟩
  refine Does.mono hread ?_
  rintro r5 w5 ⟨rfl, hop5, hx5⟩
  have hx05 := hx04.st hx5 hwp
  have ho5 := (ho3.e0 hx4).ext hx5 (fun e => hpb e.symm)
  ((conv=>whnf);repeat(first|(refine mvT ?_;conv=>whnf)|(refine mvF ?_;conv=>whnf)|(refine cT (by rfl) ?_;conv=>whnf)|(refine cF (by rfl) ?_;conv=>whnf)))
  refine Does.mono (tellGroupMetadataKey hop5.cells hu) ?_
  rintro r6 w6 ⟨⟨cr, rfl, htr⟩, hx6⟩
  obtain ⟨n6, sv6, nl6, lv6, uv6, rfl⟩ := htr.five
  have hok6 := htr.ok
  ((conv=>whnf);repeat(first|(refine mvT ?_;conv=>whnf)|(refine mvF ?_;conv=>whnf)|(refine cT (by rfl) ?_;conv=>whnf)|(refine cF (by rfl) ?_;conv=>whnf)))
  intro b7 w7 hb7 ho7 hx7
  ((conv=>whnf);repeat(first|(refine mvT ?_;conv=>whnf)|(refine mvF ?_;conv=>whnf)|(refine cT (by rfl) ?_;conv=>whnf)|(refine cF (by rfl) ?_;conv=>whnf)))
  refine st_all [.int .i64 n6, sv6, .bool nl6, lv6, uv6] ho7 rfl rfl hok6 ?_
  intro w8 ho8 hx8
  have hx68 := hx7.st hx8 hb7
  ((conv=>whnf);repeat(first|(refine mvT ?_;conv=>whnf)|(refine mvF ?_;conv=>whnf)|(refine cT (by rfl) ?_;conv=>whnf)|(refine cF (by rfl) ?_;conv=>whnf)))
  refine ldS (((hop5.e0 hx6).e0 hx68).cell rfl) ?_;((conv=>whnf);repeat(first|(refine mvT ?_;conv=>whnf)|(refine mvF ?_;conv=>whnf)|(refine cT (by rfl) ?_;conv=>whnf)|(refine cF (by rfl) ?_;conv=>whnf)))
  rw [hn]
  refine ⟨_, _, ho8, rfl, rfl, rfl, ?_⟩
  intro w9 ho9 hx9
  have ho9 : Own w9 b7 _ [.int .i64 n, sv6, .bool nl6, lv6, uv6] := ho9
  have hx69 := hx68.st hx9 hb7
  ((conv=>whnf);repeat(first|(refine mvT ?_;conv=>whnf)|(refine mvF ?_;conv=>whnf)|(refine cT (by rfl) ?_;conv=>whnf)|(refine cF (by rfl) ?_;conv=>whnf)))
  refine ⟨_, rfl, ho9.cells, ?_⟩
  ((conv=>whnf);repeat(first|(refine mvT ?_;conv=>whnf)|(refine mvF ?_;conv=>whnf)|(refine cT (by rfl) ?_;conv=>whnf)|(refine cF (by rfl) ?_;conv=>whnf)))
  refine st_all [.int .i64 n, sv6, .bool nl6, lv6, uv6] ((ho5.e0 hx6).e0 hx69) rfl rfl hok6 ?_
  intro w10 ho10 hx10
  ((conv=>whnf);repeat(first|(refine mvT ?_;conv=>whnf)|(refine mvF ?_;conv=>whnf)|(refine cT (by rfl) ?_;conv=>whnf)|(refine cF (by rfl) ?_;conv=>whnf)))
  refine ⟨_, rfl, ho10.cells, ?_⟩
  obtain ⟨_, rfl, hsv, ls, hls, hlen, hr, hu6⟩ := htr.inv2
  have hsz := hx05.size
  have hbl := (ho5.e0 hx6).lt
  have hx610 : Ext (fun k => k = b) w6 w10 := (hx69.mono fun _ _ f => f.elim).trans hx10 fun _ _ h => h
  have hb5 := ho5.lt
  have key : TrC w10 (fun k => w5.heap.size ≤ k) [.int .i64 n, sv6, .bool false, lv6, uv6] (.mk n [] false [.mk 0 u false [] []] []) :=
    .mk n [] false _ [] _ _ _ ls hn (hsv.ext hx610 fun k _ h e => by omega) (hls.ext hx610 fun k _ h e => by omega) hlen (fun i c t h1 h2 => (hr i c t h1 h2).ext hx610 fun k _ h e => by omega) (hu6.ext hx610 fun k _ h e => by omega)
  exact ⟨_, rfl, ⟨_, rfl, key.mono fun k _ h => by omega⟩, ((hx05.e0 hx6).e0 hx69).st hx10 hb⟩
theorem walkGroupMetadataKey {w : World} {n : Nat} (hn : n < 256) {x ev : Value} {t : T} (hL : Laid w ev) (ht : Tr w anyB x t) : Does X.P 3 #[.int .u8 n, x] w fun r w' => r = .bool true ∧ Ext nob w w' := by
  have hkeys := ht.keys
  obtain ⟨sv, lv, uv, ls, rfl, _⟩ := ht.open
  have e1 : IntKind.i64.wrap (n : Int) = (n : Int) := i64_of (by omega) (by omega)
  refine Does.go (X := X) (l := [_, _]) Tryd.func3 rfl (by kernel_rfl) (by kernel_rfl) _ rfl ?_
  ((conv=>whnf);repeat(first|(refine mvT ?_;conv=>whnf)|(refine mvF ?_;conv=>whnf)|(refine cT (by rfl) ?_;conv=>whnf)|(refine cF (by rfl) ?_;conv=>whnf)))
  intro b w1 hb ho hx
  ((conv=>whnf);repeat(first|(refine mvT ?_;conv=>whnf)|(refine mvF ?_;conv=>whnf)|(refine cT (by rfl) ?_;conv=>whnf)|(refine cF (by rfl) ?_;conv=>whnf)))
  refine ⟨_, rfl, ho.cells, ?_⟩
  ((conv=>whnf);repeat(first|(refine mvT ?_;conv=>whnf)|(refine mvF ?_;conv=>whnf)|(refine cT (by rfl) ?_;conv=>whnf)|(refine cF (by rfl) ?_;conv=>whnf)))
  refine Does.mono (zzFits1_does (ht.e0 hx)) ?_;rintro r2 w2 ⟨⟨b2, rfl⟩, hx2⟩;((conv=>whnf);repeat(first|(refine mvT ?_;conv=>whnf)|(refine mvF ?_;conv=>whnf)|(refine cT (by rfl) ?_;conv=>whnf)|(refine cF (by rfl) ?_;conv=>whnf)))
  have hx02 := hx.e0 hx2
  refine cI (by rfl) (fun h1=>?_) (fun h1=>?_)
  · ((conv=>whnf);repeat(first|(refine mvT ?_;conv=>whnf)|(refine mvF ?_;conv=>whnf)|(refine cT (by rfl) ?_;conv=>whnf)|(refine cF (by rfl) ?_;conv=>whnf)))
    exact ⟨rfl, hx02⟩
  · ((conv=>whnf);repeat(first|(refine mvT ?_;conv=>whnf)|(refine mvF ?_;conv=>whnf)|(refine cT (by rfl) ?_;conv=>whnf)|(refine cF (by rfl) ?_;conv=>whnf)))
    refine Does.mono (sGroupMetadataKey w2) ?_;rintro r4 w4 ⟨⟨fv, rfl, hfd⟩, hx4⟩;((conv=>whnf);repeat(first|(refine mvT ?_;conv=>whnf)|(refine mvF ?_;conv=>whnf)|(refine cT (by rfl) ?_;conv=>whnf)|(refine cF (by rfl) ?_;conv=>whnf)))
    have hone := hfd
    obtain ⟨ls3, hsl3, _⟩ := hone
    obtain ⟨a3, c3, rfl, _⟩ := hsl3.view
    refine ⟨rfl, by decide, ?_⟩
    ((conv=>whnf);repeat(first|(refine mvT ?_;conv=>whnf)|(refine mvF ?_;conv=>whnf)|(refine cT (by rfl) ?_;conv=>whnf)|(refine cF (by rfl) ?_;conv=>whnf)))
    intro b6 w6 hb6 ho6 hx6
    ((conv=>whnf);repeat(first|(refine mvT ?_;conv=>whnf)|(refine mvF ?_;conv=>whnf)|(refine cT (by rfl) ?_;conv=>whnf)|(refine cF (by rfl) ?_;conv=>whnf)))
    refine ⟨_, _, ho6, rfl, rfl, rfl, ?_⟩
    intro w7 ho7 hx7
    have hx47 : Ext nob w4 w7 := hx6.st hx7 hb6
    ((conv=>whnf);repeat(first|(refine mvT ?_;conv=>whnf)|(refine mvF ?_;conv=>whnf)|(refine cT (by rfl) ?_;conv=>whnf)|(refine cF (by rfl) ?_;conv=>whnf)))
    rw [e1, show Int.tmod (n : Int) 3 = ((n % 3 : Nat) : Int) from rfl]
    have hx07 : Ext nob w w7 := (hx02.e0 hx4).e0 hx47
    have ho1 := ((ho.e0 hx2).e0 hx4).e0 hx47
    generalize hvv : ((n % 3 : Nat) : Int) = v
    have hv0 : 0 ≤ v := by omega
    have hv1 : v < 3 := by omega
    have hok : ∀ f, f ∈ dGroupMetadataKey → okF 9 f = true := List.all_eq_true.1 (show dGroupMetadataKey.all (okF 9) = true by decide)
    have hnt : ∀ f, f ∈ dGroupMetadataKey → ntF 9 f = true := List.all_eq_true.1 (show dGroupMetadataKey.all (ntF 9) = true by decide)
    have hrr : ∀ f, f ∈ dGroupMetadataKey → okR (-1) 9 f = true := List.all_eq_true.1 (show dGroupMetadataKey.all (okR (-1) 9) = true by decide)
    have hww : ∀ f, f ∈ dGroupMetadataKey → okW 9 f = true := List.all_eq_true.1 (show dGroupMetadataKey.all (okW 9) = true by decide)
    have hnn : ∀ f, f ∈ dGroupMetadataKey → okN 9 f = true := List.all_eq_true.1 (show dGroupMetadataKey.all (okN 9) = true by decide)
    refine ⟨_, rfl, ho7.cells, ?_⟩
    ((conv=>whnf);repeat(first|(refine mvT ?_;conv=>whnf)|(refine mvF ?_;conv=>whnf)|(refine cT (by rfl) ?_;conv=>whnf)|(refine cF (by rfl) ?_;conv=>whnf)))
    refine ⟨_, rfl, ho1.cells, ?_⟩
    ((conv=>whnf);repeat(first|(refine mvT ?_;conv=>whnf)|(refine mvF ?_;conv=>whnf)|(refine cT (by rfl) ?_;conv=>whnf)|(refine cF (by rfl) ?_;conv=>whnf)))
    have hlen : (partB 9 v (flexB (-1) v) dGroupMetadataKey t).length ≤ 90000000000000 := Nat.le_trans (partB_len 9 v _ dGroupMetadataKey t hnt hkeys) (Nat.le_of_ble_eq_true rfl)
    refine Does.mono (kept_does 9 (v := v) ⟨_, rfl, hfd.e0 hx47⟩ (ht.e0 hx07) hok (by decide) (Nat.le_trans hlen (by decide))) ?_
    rintro r8 w8 ⟨hr8, hx8⟩
    obtain ⟨a8, c8, rfl, _⟩ := hr8.shape
    ((conv=>whnf);repeat(first|(refine mvT ?_;conv=>whnf)|(refine mvF ?_;conv=>whnf)|(refine cT (by rfl) ?_;conv=>whnf)|(refine cF (by rfl) ?_;conv=>whnf)))
    have hx08 := hx07.e0 hx8
    have hrd := part_read 9 (-1) v dGroupMetadataKey t hnt hrr hkeys hv0 []
    rw [List.append_nil] at hrd
    have hfx : flexB (-1) v = false := rfl
    rw [hfx] at hrd hlen hr8
    have hp : rdPart 9 v false dGroupMetadataKey (partB 9 v false dGroupMetadataKey t, false) = (.mk 0 [] false [.mk 0 (rdTx false (partB 9 v false dGroupMetadataKey t, false)).1 false [] []] [], (rdTx false (partB 9 v false dGroupMetadataKey t, false)).2) := by
      unfold rdPart rdPartW
      rw [rdAll_yes (df := dfT 9) (rdField8 (by decide) rfl) ⟨by decide, has_all hv0⟩]
      rfl
    rw [hp] at hrd
    obtain ⟨e3, e4⟩ := Prod.mk.inj hrd
    generalize hu : (rdTx false (partB 9 v false dGroupMetadataKey t, false)).1 = u at e3
    have h2 : rdTx false (partB 9 v false dGroupMetadataKey t, false) = (u, ([], false)) := Prod.ext hu e4
    have hgd := gd_part 9 v false dGroupMetadataKey t hok (by decide) hkeys
    have hul : u.length ≤ 32767 := by
      rw [← e3] at hgd
      cases hgd
      rename_i g1 g2 g3 g4 g5
      have : GdT (.mk 0 u false [] []) := by first | exact g5 _ (by simp) | exact g1 _ (by simp) | exact g2 _ (by simp) | exact g3 _ (by simp) | exact g4 _ (by simp)
      cases this
      assumption
    have h16 : IntKind.i16.wrap v = v := by rw [wrap_i16]; omega
    have h1' : rdNum 2 .i16 (fixed v 2 ++ partB 9 v false dGroupMetadataKey t, false) = (numT v, (partB 9 v false dGroupMetadataKey t, false)) := by
      have := rdNum_fixed 2 .i16 v (partB 9 v false dGroupMetadataKey t) (wr2 v)
      rw [h16] at this
      exact this
    have hv64 : IntKind.i64.wrap v = v := i64_of (by omega) (by omega)
    refine Does.mono (tellsGroupMetadataKey (hL.ext hx08 fun f => f) hr8.bytesAny h1' h2 hul (by rw [List.length_append, fixed_length]; omega) hv64) ?_
    rintro r9 w9 ⟨o9, rfl, ⟨c9, rfl, hc9⟩, hx9⟩
    have hlen9 := hc9.len
    have hok9 := hc9.ok
    obtain ⟨n9, sv9, nl9, lv9, uv9, rfl⟩ := hc9.five
    obtain ⟨rfl, _⟩ := hc9.inv2
    have hsm : Small (.mk n9 [] false [.mk 0 u false [] []] []) := .mk _ _ _ _ _ (by simp) (by simp) (by simp; exact small_leaf 0 u false)
    ((conv=>whnf);repeat(first|(refine mvT ?_;conv=>whnf)|(refine mvF ?_;conv=>whnf)|(refine cT (by rfl) ?_;conv=>whnf)|(refine cF (by rfl) ?_;conv=>whnf)))
    intro b10 w10 hb10 ho10 hx10
    ((conv=>whnf);repeat(first|(refine mvT ?_;conv=>whnf)|(refine mvF ?_;conv=>whnf)|(refine cT (by rfl) ?_;conv=>whnf)|(refine cF (by rfl) ?_;conv=>whnf)))
    refine st_all [.int .i64 n9, sv9, .bool nl9, lv9, uv9] ho10 rfl rfl hok9 ?_
    intro w11 ho11 hx11
    ((conv=>whnf);repeat(first|(refine mvT ?_;conv=>whnf)|(refine mvF ?_;conv=>whnf)|(refine cT (by rfl) ?_;conv=>whnf)|(refine cF (by rfl) ?_;conv=>whnf)))
    have hx911 : Ext nob w9 w11 := hx10.st hx11 hb10
    have hx011 := (hx08.e0 hx9).e0 hx911
    have hx711 := (hx8.e0 hx9).e0 hx911
    have hxd : Ext nob w11 w11.drew := ext_drew _
    have ho7d := (ho7.e0 hx711).e0 hxd
    have ho1d := (ho1.e0 hx711).e0 hxd
    have ho11d := ho11.e0 hxd
    have hc9d := (hc9.e0 hx911).e0 hxd
    refine VD.draw mixed (.q 0 (.q 1 (.q 2 (.q 3 (.q 4 (.q 5 (.q 6 (.q 7 (.q 8 (.q 9 (.q 10 (.q 11 (.q 12 (.q 14 (.q 15 (.eff 13 [9, 14, 15] (.eff 16 [9, 14] (.eff 17 [] (.q 18 (.eff 19 [] (.done))))))))))))))))))))) (by kernel_rfl) ?_;((conv=>whnf);repeat(first|(refine mvT ?_;conv=>whnf)|(refine mvF ?_;conv=>whnf)|(refine cT (by rfl) ?_;conv=>whnf)|(refine cF (by rfl) ?_;conv=>whnf)))
    refine ldS (ho11d.cell rfl) ?_;((conv=>whnf);repeat(first|(refine mvT ?_;conv=>whnf)|(refine mvF ?_;conv=>whnf)|(refine cT (by rfl) ?_;conv=>whnf)|(refine cF (by rfl) ?_;conv=>whnf)))
    intro cq hcq
    cases cq
    · simp at hcq
    ((conv=>whnf);repeat(first|(refine mvT ?_;conv=>whnf)|(refine mvF ?_;conv=>whnf)|(refine cT (by rfl) ?_;conv=>whnf)|(refine cF (by rfl) ?_;conv=>whnf)))
    refine ldS (ho7d.cell rfl) ?_;((conv=>whnf);repeat(first|(refine mvT ?_;conv=>whnf)|(refine mvF ?_;conv=>whnf)|(refine cT (by rfl) ?_;conv=>whnf)|(refine cF (by rfl) ?_;conv=>whnf)))
    refine ⟨_, rfl, ho7d.cells, ?_⟩
    ((conv=>whnf);repeat(first|(refine mvT ?_;conv=>whnf)|(refine mvF ?_;conv=>whnf)|(refine cT (by rfl) ?_;conv=>whnf)|(refine cF (by rfl) ?_;conv=>whnf)))
    refine ⟨_, rfl, ho1d.cells, ?_⟩
    ((conv=>whnf);repeat(first|(refine mvT ?_;conv=>whnf)|(refine mvF ?_;conv=>whnf)|(refine cT (by rfl) ?_;conv=>whnf)|(refine cF (by rfl) ?_;conv=>whnf)))
    refine ⟨_, rfl, ho11d.cells, ?_⟩
    ((conv=>whnf);repeat(first|(refine mvT ?_;conv=>whnf)|(refine mvF ?_;conv=>whnf)|(refine cT (by rfl) ?_;conv=>whnf)|(refine cF (by rfl) ?_;conv=>whnf)))
    refine Does.mono (Flexible2_does (w := w11.drew)) ?_
    rintro r12 w12 ⟨rfl, hx12⟩
    refine ⟨by (conv => whnf); exact ⟨⟨_, (ho7d.e0 hx12).cell rfl, rfl, rfl⟩, ⟨_, rfl, (ho1d.e0 hx12).cells, rfl, rfl⟩, ⟨_, rfl, (ho11d.e0 hx12).cells, rfl, rfl⟩, trivial⟩, ?_⟩
    ((conv=>whnf);repeat(first|(refine mvT ?_;conv=>whnf)|(refine mvF ?_;conv=>whnf)|(refine cT (by rfl) ?_;conv=>whnf)|(refine cF (by rfl) ?_;conv=>whnf)))
    refine Does.mono (got_does ⟨_, rfl, hc9d.e0 hx12⟩ hsm) ?_
    rintro r13 w13 ⟨hr13, hx13⟩
    have hxd13 := hx12.e0 hx13
    refine ⟨by (conv => whnf); exact ⟨⟨_, (ho7d.e0 hxd13).cell rfl, rfl, rfl⟩, ⟨_, rfl, (ho1d.e0 hxd13).cells, rfl, rfl⟩, trivial⟩, ?_⟩
    ((conv=>whnf);repeat(first|(refine mvT ?_;conv=>whnf)|(refine mvF ?_;conv=>whnf)|(refine cT (by rfl) ?_;conv=>whnf)|(refine cF (by rfl) ?_;conv=>whnf)))
    have hx013 := (hx011.e0 hxd).e0 hxd13
    rw [hfx]
    refine Does.mono (ToldN_does 8 n9 ((((hfd.e0 hx47).e0 hx711).e0 hxd).e0 hxd13) (ht.e0 hx013) (by rw [← e3]; exact hr13) hok hnt hww hnn (by decide) hv0) ?_
    rintro r14 w14 ⟨rfl, hx14⟩
    ((conv=>whnf);repeat(first|(refine mvT ?_;conv=>whnf)|(refine mvF ?_;conv=>whnf)|(refine cT (by rfl) ?_;conv=>whnf)|(refine cF (by rfl) ?_;conv=>whnf)))
    exact ⟨rfl, hx013.e0 hx14⟩
end Go.Proofs.YtgajnmbjchdioaaDoor.K
