/- CreateDelegationTokenResponse is read and told. -/
import Derived.Test.YteofeendidabgaaGreatDoorU6
import Derived.Test.YteofeendidabgaaGreatDoorV31
import Derived.Test.YteofeendidabgaaGreatDoorGversion
set_option linter.unusedVariables false
set_option linter.unusedSimpArgs false
namespace Go.Proofs.YteofeendidabgaaGreatDoor.K
open Go
set_option maxHeartbeats 4000000
set_option maxRecDepth 100000

theorem tgCreateDelegationTokenResponse : TellsT 101 := by
  intro w N bt T lv bv F u x hI hN hbt hu hk hx hxl
  obtain ⟨uv, ho, hT⟩ := hI
  obtain ⟨av, cv, rfl, _⟩ := hx.view
  obtain ⟨au, nu, cu, rfl⟩ := hT.one
  refine Does.go (X := X) (l := [_, _, _]) Tryz.func101 rfl (by kernel_rfl) (by kernel_rfl) _ rfl ?_
  ((conv=>whnf);repeat(first|(refine mvT ?_;conv=>whnf)|(refine mvF ?_;conv=>whnf)|(refine cT (by rfl) ?_;conv=>whnf)|(refine cF (by rfl) ?_;conv=>whnf)))
  refine VD.draw mixed (.q 0 (.q 1 (.q 2 (.q 3 (.eff 4 [1] (.q 5 (.eff 6 [1] (.eff 7 [] (.q 8 (.eff 9 [] (.done))))))))))) (by kernel_rfl) ?_;((conv=>whnf);repeat(first|(refine mvT ?_;conv=>whnf)|(refine mvF ?_;conv=>whnf)|(refine cT (by rfl) ?_;conv=>whnf)|(refine cF (by rfl) ?_;conv=>whnf)))
  have hxd : Ext nob w w.drew := ext_drew _
  refine ldS ((ho.e0 hxd).cell rfl) ?_;((conv=>whnf);repeat(first|(refine mvT ?_;conv=>whnf)|(refine mvF ?_;conv=>whnf)|(refine cT (by rfl) ?_;conv=>whnf)|(refine cF (by rfl) ?_;conv=>whnf)))
  refine app_bytes rfl rfl (OB.nil w.drew w.drew.heap.size) (hx.e0 hxd).src rfl (by simp only [List.length_nil]; omega) (Nat.le_refl _) ?_
  intro v3 w3 h3 hx3 _ _
  rw [List.nil_append] at h3
  have hx3 : Ext nob w w3 := hxd.e0 (hx3.mono fun k _ h => by simp [Value.ownBlock] at h)
  obtain ⟨a3, c3, rfl, _⟩ := h3.shape
  refine ⟨by (conv => whnf); exact ⟨⟨_, (ho.e0 hx3).cell rfl, rfl, rfl⟩, trivial⟩, ?_⟩
  ((conv=>whnf);repeat(first|(refine mvT ?_;conv=>whnf)|(refine mvF ?_;conv=>whnf)|(refine cT (by rfl) ?_;conv=>whnf)|(refine cF (by rfl) ?_;conv=>whnf)))
  intro b4 w4 hb4 ho4 hx4
  have ho4 : Own w4 b4 TGT [.int .u32 (x.1 : Int), .slice a3 x.2.length c3] := ho4
  have hx04 := hx3.e0 hx4
  refine ⟨by (conv => whnf); exact ⟨⟨_, (ho.e0 hx04).cell rfl, rfl, rfl⟩, trivial⟩, ?_⟩
  ((conv=>whnf);repeat(first|(refine mvT ?_;conv=>whnf)|(refine mvF ?_;conv=>whnf)|(refine cT (by rfl) ?_;conv=>whnf)|(refine cF (by rfl) ?_;conv=>whnf)))
  have hs3 := hx3.size
  have hown : ∀ k, (Value.slice au nu cu).ownBlock = some k → N ≤ k ∧ k < w.heap.size := fun k hk => by
    obtain ⟨ls, h1, _⟩ := hT
    exact ⟨h1.blk k hk, h1.own.lt k hk⟩
  have hwd : w.drew.heap.size = w.heap.size := rfl
  refine OTn.app (hT.ext hx04 fun _ _ _ f => f) rfl ho4 rfl rfl rfl hu (by decide) (Nat.le_trans hN hx04.size) hk ((h3.e0 hx4).bytes fun k hk => ⟨by omega, fun e => by have := hown k e; omega⟩) ?_
  intro v5 w5 hT5 hx5
  obtain ⟨a5, n5, c5, rfl⟩ := hT5.one
  have hob := (ho.e0 hx04).ext hx5 fun h => by have := hown bt h; omega
  ((conv=>whnf);repeat(first|(refine mvT ?_;conv=>whnf)|(refine mvF ?_;conv=>whnf)|(refine cT (by rfl) ?_;conv=>whnf)|(refine cF (by rfl) ?_;conv=>whnf)))
  refine st_cell (o := 4) (v := .slice a5 n5 c5) hob rfl (by omega) rfl (by simp) rfl ?_
  intro w6 ho6 hx6
  ((conv=>whnf);repeat(first|(refine mvT ?_;conv=>whnf)|(refine mvF ?_;conv=>whnf)|(refine cT (by rfl) ?_;conv=>whnf)|(refine cF (by rfl) ?_;conv=>whnf)))
  refine ⟨⟨_, ho6, hT5.ext hx6 fun k _ h1 h2 => by omega⟩, ?_⟩
  refine (hx04.mono fun _ _ f => f.elim).trans ((hx5.mono (M' := fun j => j = bt ∨ N ≤ j) fun k _ h => .inr (hown k h).1).trans hx6 fun k _ h => .inl h) fun _ _ h => h
theorem tellCreateDelegationTokenResponse {w0 : World} {F : Nat → Prop} {q o : Nat} {cv0 : Value} {cs : List Value} {t : T} (hq : Cells w0 q o (cv0 :: cs)) (hQ : QPart true 9 dCreateDelegationTokenResponse ⟨w0, F⟩ cs t) (hlim : LimT t) :
    Does X.P 59 #[.pointer (some ⟨q, o, none⟩)] w0 fun r w' => ∃ t', Nrm t t' ∧ Tr w' (fun k => w0.heap.size ≤ k) r t' ∧ Ext nob w0 w' := by
  obtain ⟨_, _, u_, m, rfl, rfl, hA0, hm⟩ := iP hQ
  clear hQ
  obtain ⟨cc0, _, x0, _, rfl, rfl, h0, hA1⟩ := iA hA0
  obtain ⟨n0, hn0, rfl, rfl⟩ : ∃ n, IntKind.i16.wrap n = n ∧ cc0 = [.int .i16 n] ∧ x0 = numT n := h0
  obtain ⟨cc1, _, x1, _, rfl, rfl, h1, hA2⟩ := iA hA1
  obtain ⟨s1, rfl, rfl⟩ := iF8 (by decide) h1
  obtain ⟨cc2, _, x2, _, rfl, rfl, h2, hA3⟩ := iA hA2
  obtain ⟨s2, rfl, rfl⟩ := iF8 (by decide) h2
  obtain ⟨cc3, _, x3, _, rfl, rfl, h3, hA4⟩ := iA hA3
  obtain ⟨s3, rfl, rfl⟩ := iF8 (by decide) h3
  obtain ⟨cc4, _, x4, _, rfl, rfl, h4, hA5⟩ := iA hA4
  obtain ⟨s4, rfl, rfl⟩ := iF8 (by decide) h4
  obtain ⟨cc5, _, x5, _, rfl, rfl, h5, hA6⟩ := iA hA5
  obtain ⟨n5, hn5, rfl, rfl⟩ : ∃ n, IntKind.i64.wrap n = n ∧ cc5 = [.int .i64 n] ∧ x5 = numT n := h5
  obtain ⟨cc6, _, x6, _, rfl, rfl, h6, hA7⟩ := iA hA6
  obtain ⟨n6, hn6, rfl, rfl⟩ : ∃ n, IntKind.i64.wrap n = n ∧ cc6 = [.int .i64 n] ∧ x6 = numT n := h6
  obtain ⟨cc7, _, x7, _, rfl, rfl, h7, hA8⟩ := iA hA7
  obtain ⟨n7, hn7, rfl, rfl⟩ : ∃ n, IntKind.i64.wrap n = n ∧ cc7 = [.int .i64 n] ∧ x7 = numT n := h7
  obtain ⟨cc8, _, x8, _, rfl, rfl, h8, hA9⟩ := iA hA8
  obtain ⟨s8, rfl, rfl⟩ := iF8 (by decide) h8
  obtain ⟨cc9, _, x9, _, rfl, rfl, h9, hA10⟩ := iA hA9
  obtain ⟨c9, nl9, s9, rfl, hnl9, rfl, hc9⟩ : ∃ c nl u, cc9 = [c] ∧ (nl = true → u = []) ∧ x9 = .mk 0 u nl [] [] ∧ OctR true w0 F c x9 := h9
  obtain ⟨cc10, _, x10, _, rfl, rfl, h10, hA11⟩ := iA hA10
  obtain ⟨n10, hn10, rfl, rfl⟩ : ∃ n, IntKind.i32.wrap n = n ∧ cc10 = [.int .i32 n] ∧ x10 = numT n := h10
  obtain ⟨rfl, rfl⟩ := hA11
  cases hlim
  rename_i hU hKU hDU hLs hu0 hs0 hd0
  have hq : Cells w0 q o [cv0, .int .i16 n0, str s1, str s2, str s3, str s4, .int .i64 n5, .int .i64 n6, .int .i64 n7, str s8, c9, .int .i32 n10, m] := hq
  have hw0 : IntKind.i64.wrap n0 = n0 := by have := hLs (numT n0) (by simp); cases this; assumption
  have hw5 : IntKind.i64.wrap n5 = n5 := by have := hLs (numT n5) (by simp); cases this; assumption
  have hw6 : IntKind.i64.wrap n6 = n6 := by have := hLs (numT n6) (by simp); cases this; assumption
  have hw7 : IntKind.i64.wrap n7 = n7 := by have := hLs (numT n7) (by simp); cases this; assumption
  have hw10 : IntKind.i64.wrap n10 = n10 := by have := hLs (numT n10) (by simp); cases this; assumption
  refine Does.go (X := X) (l := [_]) Tryz.func59 rfl (by kernel_rfl) (by kernel_rfl) _ rfl ?_
  ((conv=>whnf);repeat(first|(refine mvT ?_;conv=>whnf)|(refine mvF ?_;conv=>whnf)|(refine cT (by rfl) ?_;conv=>whnf)|(refine cF (by rfl) ?_;conv=>whnf)))
  intro b2 w1 hb2 ho2 hx1
  ((conv=>whnf);repeat(first|(refine mvT ?_;conv=>whnf)|(refine mvF ?_;conv=>whnf)|(refine cT (by rfl) ?_;conv=>whnf)|(refine cF (by rfl) ?_;conv=>whnf)))
  refine ⟨⟨by decide, by decide, by decide, by decide⟩, ⟨by decide, rfl⟩, ?_⟩
  intro bl w2 hbl hol hx2
  ((conv=>whnf);repeat(first|(refine mvT ?_;conv=>whnf)|(refine mvF ?_;conv=>whnf)|(refine cT (by rfl) ?_;conv=>whnf)|(refine cF (by rfl) ?_;conv=>whnf)))
  intro bt w3 hbt hot hx3
  ((conv=>whnf);repeat(first|(refine mvT ?_;conv=>whnf)|(refine mvF ?_;conv=>whnf)|(refine cT (by rfl) ?_;conv=>whnf)|(refine cF (by rfl) ?_;conv=>whnf)))
  have hzz : w0.heap.size ≤ w1.heap.size := hx1.size
  have H := (((Sg.start w0).push hx1 ho2 hb2).push hx2 hol hbl).push hx3 hot hbt
  refine Sg.st (A := []) (o' := 0) (m := [.int .i64 0, .slice none 0 0, .bool false, .slice (some ⟨bl, 0, none⟩) 11 11, .slice none 0 0]) H rfl (Nat.le_of_ble_eq_true rfl) rfl ?_
  clear H hot hol ho2 hx1 hx2 hx3
  intro w H
  obtain ⟨Tt, Tl, T2, H⟩ : ∃ Tt Tl T2, Sg w0 [(bt, Tt, [.int .i64 0, .slice none 0 0, .bool false, .slice (some ⟨bl, 0, none⟩) 11 11, .slice none 0 0]), (bl, Tl, (.int .i64 0 :: .slice none 0 0 :: .bool false :: .slice none 0 0 :: .slice none 0 0 :: .int .i64 0 :: .slice none 0 0 :: .bool false :: .slice none 0 0 :: .slice none 0 0 :: .int .i64 0 :: .slice none 0 0 :: .bool false :: .slice none 0 0 :: .slice none 0 0 :: .int .i64 0 :: .slice none 0 0 :: .bool false :: .slice none 0 0 :: .slice none 0 0 :: .int .i64 0 :: .slice none 0 0 :: .bool false :: .slice none 0 0 :: .slice none 0 0 :: .int .i64 0 :: .slice none 0 0 :: .bool false :: .slice none 0 0 :: .slice none 0 0 :: .int .i64 0 :: .slice none 0 0 :: .bool false :: .slice none 0 0 :: .slice none 0 0 :: .int .i64 0 :: .slice none 0 0 :: .bool false :: .slice none 0 0 :: .slice none 0 0 :: .int .i64 0 :: .slice none 0 0 :: .bool false :: .slice none 0 0 :: .slice none 0 0 :: .int .i64 0 :: .slice none 0 0 :: .bool false :: .slice none 0 0 :: .slice none 0 0 :: .int .i64 0 :: .slice none 0 0 :: .bool false :: .slice none 0 0 :: .slice none 0 0 :: [])), (b2, T2, [.int .i64 0, .slice none 0 0, .bool false, .slice none 0 0, .slice none 0 0])] (fun _ => True) w := ⟨_, _, _, H⟩
  have hb2w : w0.heap.size ≤ b2 := hb2
  have hblw : w0.heap.size ≤ bl := by omega
  have hbtw : w0.heap.size ≤ bt := by have := H.dis.1; exact this
  ((conv=>whnf);repeat(first|(refine mvT ?_;conv=>whnf)|(refine mvF ?_;conv=>whnf)|(refine cT (by rfl) ?_;conv=>whnf)|(refine cF (by rfl) ?_;conv=>whnf)))
  refine VD.draw mixed (.q 0 (.q 1 (.q 2 (.q 3 (.q 4 (.q 5 (.q 6 (.q 7 (.q 8 (.eff 9 [] (.done))))))))))) (by kernel_rfl) ?_;((conv=>whnf);repeat(first|(refine mvT ?_;conv=>whnf)|(refine mvF ?_;conv=>whnf)|(refine cT (by rfl) ?_;conv=>whnf)|(refine cF (by rfl) ?_;conv=>whnf)))
  replace H := H.e0 (ext_drew _)
  refine ldS ((Sg.at (A := []) H).cell rfl) ?_;((conv=>whnf);repeat(first|(refine mvT ?_;conv=>whnf)|(refine mvF ?_;conv=>whnf)|(refine cT (by rfl) ?_;conv=>whnf)|(refine cF (by rfl) ?_;conv=>whnf)))
  refine ⟨_, ld ((hq.e0 H.ext).cell (j := 1) rfl) (by simp), ?_⟩
  ((conv=>whnf);repeat(first|(refine mvT ?_;conv=>whnf)|(refine mvF ?_;conv=>whnf)|(refine cT (by rfl) ?_;conv=>whnf)|(refine cF (by rfl) ?_;conv=>whnf)))
  refine ⟨bl, 0, rfl, ⟨by omega, by omega⟩, ?_⟩
  ((conv=>whnf);repeat(first|(refine mvT ?_;conv=>whnf)|(refine mvF ?_;conv=>whnf)|(refine cT (by rfl) ?_;conv=>whnf)|(refine cF (by rfl) ?_;conv=>whnf)))
  refine Sg.st (A := [_]) (o' := 0) (m := [.int .i64 (IntKind.i64.wrap n0), .slice none 0 0, .bool false, .slice none 0 0, .slice none 0 0]) H rfl (Nat.le_of_ble_eq_true rfl) (rfl) ?_
  clear H
  intro w H
  rw [hw0] at H
  replace H : Sg w0 [(bt, Tt, [.int .i64 0, .slice none 0 0, .bool false, .slice (some ⟨bl, 0, none⟩) 11 11, .slice none 0 0]), (bl, Tl, (.int .i64 n0 :: .slice none 0 0 :: .bool false :: .slice none 0 0 :: .slice none 0 0 :: .int .i64 0 :: .slice none 0 0 :: .bool false :: .slice none 0 0 :: .slice none 0 0 :: .int .i64 0 :: .slice none 0 0 :: .bool false :: .slice none 0 0 :: .slice none 0 0 :: .int .i64 0 :: .slice none 0 0 :: .bool false :: .slice none 0 0 :: .slice none 0 0 :: .int .i64 0 :: .slice none 0 0 :: .bool false :: .slice none 0 0 :: .slice none 0 0 :: .int .i64 0 :: .slice none 0 0 :: .bool false :: .slice none 0 0 :: .slice none 0 0 :: .int .i64 0 :: .slice none 0 0 :: .bool false :: .slice none 0 0 :: .slice none 0 0 :: .int .i64 0 :: .slice none 0 0 :: .bool false :: .slice none 0 0 :: .slice none 0 0 :: .int .i64 0 :: .slice none 0 0 :: .bool false :: .slice none 0 0 :: .slice none 0 0 :: .int .i64 0 :: .slice none 0 0 :: .bool false :: .slice none 0 0 :: .slice none 0 0 :: .int .i64 0 :: .slice none 0 0 :: .bool false :: .slice none 0 0 :: .slice none 0 0 :: [])), (b2, T2, [.int .i64 0, .slice none 0 0, .bool false, .slice none 0 0, .slice none 0 0])] (fun _ => True) w := H
  ((conv=>whnf);repeat(first|(refine mvT ?_;conv=>whnf)|(refine mvF ?_;conv=>whnf)|(refine cT (by rfl) ?_;conv=>whnf)|(refine cF (by rfl) ?_;conv=>whnf)))
  refine VD.draw mixed (.q 0 (.q 1 (.q 2 (.q 3 (.q 4 (.q 5 (.eff 6 [1] (.q 7 (.q 8 (.eff 9 [] (.done))))))))))) (by kernel_rfl) ?_;((conv=>whnf);repeat(first|(refine mvT ?_;conv=>whnf)|(refine mvF ?_;conv=>whnf)|(refine cT (by rfl) ?_;conv=>whnf)|(refine cF (by rfl) ?_;conv=>whnf)))
  replace H := H.e0 (ext_drew _)
  refine ldS ((Sg.at (A := []) H).cell rfl) ?_;((conv=>whnf);repeat(first|(refine mvT ?_;conv=>whnf)|(refine mvF ?_;conv=>whnf)|(refine cT (by rfl) ?_;conv=>whnf)|(refine cF (by rfl) ?_;conv=>whnf)))
  refine ⟨_, ld ((hq.e0 H.ext).cell (j := 2) rfl) (by simp), ?_⟩
  ((conv=>whnf);repeat(first|(refine mvT ?_;conv=>whnf)|(refine mvF ?_;conv=>whnf)|(refine cT (by rfl) ?_;conv=>whnf)|(refine cF (by rfl) ?_;conv=>whnf)))
  refine ⟨by show s1.length ≤ maxLen; have := hLs (.mk 0 s1 false [] []) (by simp); cases this; rw [maxLen_eq]; omega, ?_⟩
  intro bb1 cb1 wb1 hbb1 hbl1 hC1 hcp1 hxb1
  have hC1 : Cells wb1 bb1 0 (s1.map bcell) := hC1
  have hcp1 : s1.length ≤ cb1 ∧ cb1 ≤ maxLen := hcp1
  have H := H.keepN (H.e0 hxb1) (trL [.int .i64 0, .slice (some ⟨bb1, 0, none⟩) s1.length cb1, .bool false, .slice none 0 0, .slice none 0 0] (.mk 0 s1 false [] [])) (F := fun k => _ ≤ k) (TrC.leaf rfl (conv_bytes hbb1 hbl1 hC1 hcp1)) fun k h => h
  refine ⟨by (conv => whnf); exact ⟨⟨_, (Sg.at (A := []) H).cell rfl, rfl, rfl⟩, trivial⟩, ?_⟩
  ((conv=>whnf);repeat(first|(refine mvT ?_;conv=>whnf)|(refine mvF ?_;conv=>whnf)|(refine cT (by rfl) ?_;conv=>whnf)|(refine cF (by rfl) ?_;conv=>whnf)))
  refine ⟨bl, 0, rfl, ⟨by omega, by omega⟩, ?_⟩
  ((conv=>whnf);repeat(first|(refine mvT ?_;conv=>whnf)|(refine mvF ?_;conv=>whnf)|(refine cT (by rfl) ?_;conv=>whnf)|(refine cF (by rfl) ?_;conv=>whnf)))
  refine Sg.st (A := [_]) (o' := 5) (m := [.int .i64 0, .slice (some ⟨bb1, 0, none⟩) s1.length cb1, .bool false, .slice none 0 0, .slice none 0 0]) H rfl (Nat.le_of_ble_eq_true rfl) (rfl) ?_
  clear H
  intro w H
  obtain ⟨P1, hP1⟩ : ∃ P : World → Prop, P = fun w => TrC w (fun k => w0.heap.size ≤ k) [.int .i64 0, .slice (some ⟨bb1, 0, none⟩) s1.length cb1, .bool false, .slice none 0 0, .slice none 0 0] (.mk 0 s1 false [] []) ∧ True := ⟨_, rfl⟩
  replace H : Sg w0 [(bt, Tt, [.int .i64 0, .slice none 0 0, .bool false, .slice (some ⟨bl, 0, none⟩) 11 11, .slice none 0 0]), (bl, Tl, (.int .i64 n0 :: .slice none 0 0 :: .bool false :: .slice none 0 0 :: .slice none 0 0 :: .int .i64 0 :: .slice (some ⟨bb1, 0, none⟩) s1.length cb1 :: .bool false :: .slice none 0 0 :: .slice none 0 0 :: .int .i64 0 :: .slice none 0 0 :: .bool false :: .slice none 0 0 :: .slice none 0 0 :: .int .i64 0 :: .slice none 0 0 :: .bool false :: .slice none 0 0 :: .slice none 0 0 :: .int .i64 0 :: .slice none 0 0 :: .bool false :: .slice none 0 0 :: .slice none 0 0 :: .int .i64 0 :: .slice none 0 0 :: .bool false :: .slice none 0 0 :: .slice none 0 0 :: .int .i64 0 :: .slice none 0 0 :: .bool false :: .slice none 0 0 :: .slice none 0 0 :: .int .i64 0 :: .slice none 0 0 :: .bool false :: .slice none 0 0 :: .slice none 0 0 :: .int .i64 0 :: .slice none 0 0 :: .bool false :: .slice none 0 0 :: .slice none 0 0 :: .int .i64 0 :: .slice none 0 0 :: .bool false :: .slice none 0 0 :: .slice none 0 0 :: .int .i64 0 :: .slice none 0 0 :: .bool false :: .slice none 0 0 :: .slice none 0 0 :: [])), (b2, T2, [.int .i64 0, .slice none 0 0, .bool false, .slice none 0 0, .slice none 0 0])] P1 w := by rw [hP1]; exact H
  ((conv=>whnf);repeat(first|(refine mvT ?_;conv=>whnf)|(refine mvF ?_;conv=>whnf)|(refine cT (by rfl) ?_;conv=>whnf)|(refine cF (by rfl) ?_;conv=>whnf)))
  refine VD.draw mixed (.q 0 (.q 1 (.q 2 (.q 3 (.q 4 (.q 5 (.eff 6 [1] (.q 7 (.q 8 (.eff 9 [] (.done))))))))))) (by kernel_rfl) ?_;((conv=>whnf);repeat(first|(refine mvT ?_;conv=>whnf)|(refine mvF ?_;conv=>whnf)|(refine cT (by rfl) ?_;conv=>whnf)|(refine cF (by rfl) ?_;conv=>whnf)))
  replace H := H.e0 (ext_drew _)
  refine ldS ((Sg.at (A := []) H).cell rfl) ?_;((conv=>whnf);repeat(first|(refine mvT ?_;conv=>whnf)|(refine mvF ?_;conv=>whnf)|(refine cT (by rfl) ?_;conv=>whnf)|(refine cF (by rfl) ?_;conv=>whnf)))
  refine ⟨_, ld ((hq.e0 H.ext).cell (j := 3) rfl) (by simp), ?_⟩
  ((conv=>whnf);repeat(first|(refine mvT ?_;conv=>whnf)|(refine mvF ?_;conv=>whnf)|(refine cT (by rfl) ?_;conv=>whnf)|(refine cF (by rfl) ?_;conv=>whnf)))
  refine ⟨by show s2.length ≤ maxLen; have := hLs (.mk 0 s2 false [] []) (by simp); cases this; rw [maxLen_eq]; omega, ?_⟩
  intro bb2 cb2 wb2 hbb2 hbl2 hC2 hcp2 hxb2
  have hC2 : Cells wb2 bb2 0 (s2.map bcell) := hC2
  have hcp2 : s2.length ≤ cb2 ∧ cb2 ≤ maxLen := hcp2
  have H := H.keepN (H.e0 hxb2) (trL [.int .i64 0, .slice (some ⟨bb2, 0, none⟩) s2.length cb2, .bool false, .slice none 0 0, .slice none 0 0] (.mk 0 s2 false [] [])) (F := fun k => _ ≤ k) (TrC.leaf rfl (conv_bytes hbb2 hbl2 hC2 hcp2)) fun k h => h
  refine ⟨by (conv => whnf); exact ⟨⟨_, (Sg.at (A := []) H).cell rfl, rfl, rfl⟩, trivial⟩, ?_⟩
  ((conv=>whnf);repeat(first|(refine mvT ?_;conv=>whnf)|(refine mvF ?_;conv=>whnf)|(refine cT (by rfl) ?_;conv=>whnf)|(refine cF (by rfl) ?_;conv=>whnf)))
  refine ⟨bl, 0, rfl, ⟨by omega, by omega⟩, ?_⟩
  ((conv=>whnf);repeat(first|(refine mvT ?_;conv=>whnf)|(refine mvF ?_;conv=>whnf)|(refine cT (by rfl) ?_;conv=>whnf)|(refine cF (by rfl) ?_;conv=>whnf)))
  refine Sg.st (A := [_]) (o' := 10) (m := [.int .i64 0, .slice (some ⟨bb2, 0, none⟩) s2.length cb2, .bool false, .slice none 0 0, .slice none 0 0]) H rfl (Nat.le_of_ble_eq_true rfl) (rfl) ?_
  clear H
  intro w H
  obtain ⟨P2, hP2⟩ : ∃ P : World → Prop, P = fun w => TrC w (fun k => w0.heap.size ≤ k) [.int .i64 0, .slice (some ⟨bb2, 0, none⟩) s2.length cb2, .bool false, .slice none 0 0, .slice none 0 0] (.mk 0 s2 false [] []) ∧ P1 w := ⟨_, rfl⟩
  replace H : Sg w0 [(bt, Tt, [.int .i64 0, .slice none 0 0, .bool false, .slice (some ⟨bl, 0, none⟩) 11 11, .slice none 0 0]), (bl, Tl, (.int .i64 n0 :: .slice none 0 0 :: .bool false :: .slice none 0 0 :: .slice none 0 0 :: .int .i64 0 :: .slice (some ⟨bb1, 0, none⟩) s1.length cb1 :: .bool false :: .slice none 0 0 :: .slice none 0 0 :: .int .i64 0 :: .slice (some ⟨bb2, 0, none⟩) s2.length cb2 :: .bool false :: .slice none 0 0 :: .slice none 0 0 :: .int .i64 0 :: .slice none 0 0 :: .bool false :: .slice none 0 0 :: .slice none 0 0 :: .int .i64 0 :: .slice none 0 0 :: .bool false :: .slice none 0 0 :: .slice none 0 0 :: .int .i64 0 :: .slice none 0 0 :: .bool false :: .slice none 0 0 :: .slice none 0 0 :: .int .i64 0 :: .slice none 0 0 :: .bool false :: .slice none 0 0 :: .slice none 0 0 :: .int .i64 0 :: .slice none 0 0 :: .bool false :: .slice none 0 0 :: .slice none 0 0 :: .int .i64 0 :: .slice none 0 0 :: .bool false :: .slice none 0 0 :: .slice none 0 0 :: .int .i64 0 :: .slice none 0 0 :: .bool false :: .slice none 0 0 :: .slice none 0 0 :: .int .i64 0 :: .slice none 0 0 :: .bool false :: .slice none 0 0 :: .slice none 0 0 :: [])), (b2, T2, [.int .i64 0, .slice none 0 0, .bool false, .slice none 0 0, .slice none 0 0])] P2 w := by rw [hP2]; exact H
  ((conv=>whnf);repeat(first|(refine mvT ?_;conv=>whnf)|(refine mvF ?_;conv=>whnf)|(refine cT (by rfl) ?_;conv=>whnf)|(refine cF (by rfl) ?_;conv=>whnf)))
  refine VD.draw mixed (.q 0 (.q 1 (.q 2 (.q 3 (.q 4 (.q 5 (.eff 6 [1] (.q 7 (.q 8 (.eff 9 [] (.done))))))))))) (by kernel_rfl) ?_;((conv=>whnf);repeat(first|(refine mvT ?_;conv=>whnf)|(refine mvF ?_;conv=>whnf)|(refine cT (by rfl) ?_;conv=>whnf)|(refine cF (by rfl) ?_;conv=>whnf)))
  replace H := H.e0 (ext_drew _)
  refine ldS ((Sg.at (A := []) H).cell rfl) ?_;((conv=>whnf);repeat(first|(refine mvT ?_;conv=>whnf)|(refine mvF ?_;conv=>whnf)|(refine cT (by rfl) ?_;conv=>whnf)|(refine cF (by rfl) ?_;conv=>whnf)))
  refine ⟨_, ld ((hq.e0 H.ext).cell (j := 4) rfl) (by simp), ?_⟩
  ((conv=>whnf);repeat(first|(refine mvT ?_;conv=>whnf)|(refine mvF ?_;conv=>whnf)|(refine cT (by rfl) ?_;conv=>whnf)|(refine cF (by rfl) ?_;conv=>whnf)))
  refine ⟨by show s3.length ≤ maxLen; have := hLs (.mk 0 s3 false [] []) (by simp); cases this; rw [maxLen_eq]; omega, ?_⟩
  intro bb3 cb3 wb3 hbb3 hbl3 hC3 hcp3 hxb3
  have hC3 : Cells wb3 bb3 0 (s3.map bcell) := hC3
  have hcp3 : s3.length ≤ cb3 ∧ cb3 ≤ maxLen := hcp3
  have H := H.keepN (H.e0 hxb3) (trL [.int .i64 0, .slice (some ⟨bb3, 0, none⟩) s3.length cb3, .bool false, .slice none 0 0, .slice none 0 0] (.mk 0 s3 false [] [])) (F := fun k => _ ≤ k) (TrC.leaf rfl (conv_bytes hbb3 hbl3 hC3 hcp3)) fun k h => h
  refine ⟨by (conv => whnf); exact ⟨⟨_, (Sg.at (A := []) H).cell rfl, rfl, rfl⟩, trivial⟩, ?_⟩
  ((conv=>whnf);repeat(first|(refine mvT ?_;conv=>whnf)|(refine mvF ?_;conv=>whnf)|(refine cT (by rfl) ?_;conv=>whnf)|(refine cF (by rfl) ?_;conv=>whnf)))
  refine ⟨bl, 0, rfl, ⟨by omega, by omega⟩, ?_⟩
  ((conv=>whnf);repeat(first|(refine mvT ?_;conv=>whnf)|(refine mvF ?_;conv=>whnf)|(refine cT (by rfl) ?_;conv=>whnf)|(refine cF (by rfl) ?_;conv=>whnf)))
  refine Sg.st (A := [_]) (o' := 15) (m := [.int .i64 0, .slice (some ⟨bb3, 0, none⟩) s3.length cb3, .bool false, .slice none 0 0, .slice none 0 0]) H rfl (Nat.le_of_ble_eq_true rfl) (rfl) ?_
  clear H
  intro w H
  obtain ⟨P3, hP3⟩ : ∃ P : World → Prop, P = fun w => TrC w (fun k => w0.heap.size ≤ k) [.int .i64 0, .slice (some ⟨bb3, 0, none⟩) s3.length cb3, .bool false, .slice none 0 0, .slice none 0 0] (.mk 0 s3 false [] []) ∧ P2 w := ⟨_, rfl⟩
  replace H : Sg w0 [(bt, Tt, [.int .i64 0, .slice none 0 0, .bool false, .slice (some ⟨bl, 0, none⟩) 11 11, .slice none 0 0]), (bl, Tl, (.int .i64 n0 :: .slice none 0 0 :: .bool false :: .slice none 0 0 :: .slice none 0 0 :: .int .i64 0 :: .slice (some ⟨bb1, 0, none⟩) s1.length cb1 :: .bool false :: .slice none 0 0 :: .slice none 0 0 :: .int .i64 0 :: .slice (some ⟨bb2, 0, none⟩) s2.length cb2 :: .bool false :: .slice none 0 0 :: .slice none 0 0 :: .int .i64 0 :: .slice (some ⟨bb3, 0, none⟩) s3.length cb3 :: .bool false :: .slice none 0 0 :: .slice none 0 0 :: .int .i64 0 :: .slice none 0 0 :: .bool false :: .slice none 0 0 :: .slice none 0 0 :: .int .i64 0 :: .slice none 0 0 :: .bool false :: .slice none 0 0 :: .slice none 0 0 :: .int .i64 0 :: .slice none 0 0 :: .bool false :: .slice none 0 0 :: .slice none 0 0 :: .int .i64 0 :: .slice none 0 0 :: .bool false :: .slice none 0 0 :: .slice none 0 0 :: .int .i64 0 :: .slice none 0 0 :: .bool false :: .slice none 0 0 :: .slice none 0 0 :: .int .i64 0 :: .slice none 0 0 :: .bool false :: .slice none 0 0 :: .slice none 0 0 :: .int .i64 0 :: .slice none 0 0 :: .bool false :: .slice none 0 0 :: .slice none 0 0 :: [])), (b2, T2, [.int .i64 0, .slice none 0 0, .bool false, .slice none 0 0, .slice none 0 0])] P3 w := by rw [hP3]; exact H
  ((conv=>whnf);repeat(first|(refine mvT ?_;conv=>whnf)|(refine mvF ?_;conv=>whnf)|(refine cT (by rfl) ?_;conv=>whnf)|(refine cF (by rfl) ?_;conv=>whnf)))
  refine VD.draw mixed (.q 0 (.q 1 (.q 2 (.q 3 (.q 4 (.q 5 (.eff 6 [1] (.q 7 (.q 8 (.eff 9 [] (.done))))))))))) (by kernel_rfl) ?_;((conv=>whnf);repeat(first|(refine mvT ?_;conv=>whnf)|(refine mvF ?_;conv=>whnf)|(refine cT (by rfl) ?_;conv=>whnf)|(refine cF (by rfl) ?_;conv=>whnf)))
  replace H := H.e0 (ext_drew _)
  refine ldS ((Sg.at (A := []) H).cell rfl) ?_;((conv=>whnf);repeat(first|(refine mvT ?_;conv=>whnf)|(refine mvF ?_;conv=>whnf)|(refine cT (by rfl) ?_;conv=>whnf)|(refine cF (by rfl) ?_;conv=>whnf)))
  refine ⟨_, ld ((hq.e0 H.ext).cell (j := 5) rfl) (by simp), ?_⟩
  ((conv=>whnf);repeat(first|(refine mvT ?_;conv=>whnf)|(refine mvF ?_;conv=>whnf)|(refine cT (by rfl) ?_;conv=>whnf)|(refine cF (by rfl) ?_;conv=>whnf)))
  refine ⟨by show s4.length ≤ maxLen; have := hLs (.mk 0 s4 false [] []) (by simp); cases this; rw [maxLen_eq]; omega, ?_⟩
  intro bb4 cb4 wb4 hbb4 hbl4 hC4 hcp4 hxb4
  have hC4 : Cells wb4 bb4 0 (s4.map bcell) := hC4
  have hcp4 : s4.length ≤ cb4 ∧ cb4 ≤ maxLen := hcp4
  have H := H.keepN (H.e0 hxb4) (trL [.int .i64 0, .slice (some ⟨bb4, 0, none⟩) s4.length cb4, .bool false, .slice none 0 0, .slice none 0 0] (.mk 0 s4 false [] [])) (F := fun k => _ ≤ k) (TrC.leaf rfl (conv_bytes hbb4 hbl4 hC4 hcp4)) fun k h => h
  refine ⟨by (conv => whnf); exact ⟨⟨_, (Sg.at (A := []) H).cell rfl, rfl, rfl⟩, trivial⟩, ?_⟩
  ((conv=>whnf);repeat(first|(refine mvT ?_;conv=>whnf)|(refine mvF ?_;conv=>whnf)|(refine cT (by rfl) ?_;conv=>whnf)|(refine cF (by rfl) ?_;conv=>whnf)))
  refine ⟨bl, 0, rfl, ⟨by omega, by omega⟩, ?_⟩
  ((conv=>whnf);repeat(first|(refine mvT ?_;conv=>whnf)|(refine mvF ?_;conv=>whnf)|(refine cT (by rfl) ?_;conv=>whnf)|(refine cF (by rfl) ?_;conv=>whnf)))
  refine Sg.st (A := [_]) (o' := 20) (m := [.int .i64 0, .slice (some ⟨bb4, 0, none⟩) s4.length cb4, .bool false, .slice none 0 0, .slice none 0 0]) H rfl (Nat.le_of_ble_eq_true rfl) (rfl) ?_
  clear H
  intro w H
  obtain ⟨P4, hP4⟩ : ∃ P : World → Prop, P = fun w => TrC w (fun k => w0.heap.size ≤ k) [.int .i64 0, .slice (some ⟨bb4, 0, none⟩) s4.length cb4, .bool false, .slice none 0 0, .slice none 0 0] (.mk 0 s4 false [] []) ∧ P3 w := ⟨_, rfl⟩
  replace H : Sg w0 [(bt, Tt, [.int .i64 0, .slice none 0 0, .bool false, .slice (some ⟨bl, 0, none⟩) 11 11, .slice none 0 0]), (bl, Tl, (.int .i64 n0 :: .slice none 0 0 :: .bool false :: .slice none 0 0 :: .slice none 0 0 :: .int .i64 0 :: .slice (some ⟨bb1, 0, none⟩) s1.length cb1 :: .bool false :: .slice none 0 0 :: .slice none 0 0 :: .int .i64 0 :: .slice (some ⟨bb2, 0, none⟩) s2.length cb2 :: .bool false :: .slice none 0 0 :: .slice none 0 0 :: .int .i64 0 :: .slice (some ⟨bb3, 0, none⟩) s3.length cb3 :: .bool false :: .slice none 0 0 :: .slice none 0 0 :: .int .i64 0 :: .slice (some ⟨bb4, 0, none⟩) s4.length cb4 :: .bool false :: .slice none 0 0 :: .slice none 0 0 :: .int .i64 0 :: .slice none 0 0 :: .bool false :: .slice none 0 0 :: .slice none 0 0 :: .int .i64 0 :: .slice none 0 0 :: .bool false :: .slice none 0 0 :: .slice none 0 0 :: .int .i64 0 :: .slice none 0 0 :: .bool false :: .slice none 0 0 :: .slice none 0 0 :: .int .i64 0 :: .slice none 0 0 :: .bool false :: .slice none 0 0 :: .slice none 0 0 :: .int .i64 0 :: .slice none 0 0 :: .bool false :: .slice none 0 0 :: .slice none 0 0 :: .int .i64 0 :: .slice none 0 0 :: .bool false :: .slice none 0 0 :: .slice none 0 0 :: [])), (b2, T2, [.int .i64 0, .slice none 0 0, .bool false, .slice none 0 0, .slice none 0 0])] P4 w := by rw [hP4]; exact H
  ((conv=>whnf);repeat(first|(refine mvT ?_;conv=>whnf)|(refine mvF ?_;conv=>whnf)|(refine cT (by rfl) ?_;conv=>whnf)|(refine cF (by rfl) ?_;conv=>whnf)))
  refine VD.draw mixed (.q 0 (.q 1 (.q 2 (.q 3 (.q 4 (.q 5 (.q 6 (.q 7 (.eff 8 [] (.done)))))))))) (by kernel_rfl) ?_;((conv=>whnf);repeat(first|(refine mvT ?_;conv=>whnf)|(refine mvF ?_;conv=>whnf)|(refine cT (by rfl) ?_;conv=>whnf)|(refine cF (by rfl) ?_;conv=>whnf)))
  replace H := H.e0 (ext_drew _)
  refine ldS ((Sg.at (A := []) H).cell rfl) ?_;((conv=>whnf);repeat(first|(refine mvT ?_;conv=>whnf)|(refine mvF ?_;conv=>whnf)|(refine cT (by rfl) ?_;conv=>whnf)|(refine cF (by rfl) ?_;conv=>whnf)))
  refine ⟨_, ld ((hq.e0 H.ext).cell (j := 6) rfl) (by simp), ?_⟩
  ((conv=>whnf);repeat(first|(refine mvT ?_;conv=>whnf)|(refine mvF ?_;conv=>whnf)|(refine cT (by rfl) ?_;conv=>whnf)|(refine cF (by rfl) ?_;conv=>whnf)))
  refine ⟨bl, 0, rfl, ⟨by omega, by omega⟩, ?_⟩
  ((conv=>whnf);repeat(first|(refine mvT ?_;conv=>whnf)|(refine mvF ?_;conv=>whnf)|(refine cT (by rfl) ?_;conv=>whnf)|(refine cF (by rfl) ?_;conv=>whnf)))
  refine Sg.st (A := [_]) (o' := 25) (m := [.int .i64 n5, .slice none 0 0, .bool false, .slice none 0 0, .slice none 0 0]) H rfl (Nat.le_of_ble_eq_true rfl) (rfl) ?_
  clear H
  intro w H
  replace H : Sg w0 [(bt, Tt, [.int .i64 0, .slice none 0 0, .bool false, .slice (some ⟨bl, 0, none⟩) 11 11, .slice none 0 0]), (bl, Tl, (.int .i64 n0 :: .slice none 0 0 :: .bool false :: .slice none 0 0 :: .slice none 0 0 :: .int .i64 0 :: .slice (some ⟨bb1, 0, none⟩) s1.length cb1 :: .bool false :: .slice none 0 0 :: .slice none 0 0 :: .int .i64 0 :: .slice (some ⟨bb2, 0, none⟩) s2.length cb2 :: .bool false :: .slice none 0 0 :: .slice none 0 0 :: .int .i64 0 :: .slice (some ⟨bb3, 0, none⟩) s3.length cb3 :: .bool false :: .slice none 0 0 :: .slice none 0 0 :: .int .i64 0 :: .slice (some ⟨bb4, 0, none⟩) s4.length cb4 :: .bool false :: .slice none 0 0 :: .slice none 0 0 :: .int .i64 n5 :: .slice none 0 0 :: .bool false :: .slice none 0 0 :: .slice none 0 0 :: .int .i64 0 :: .slice none 0 0 :: .bool false :: .slice none 0 0 :: .slice none 0 0 :: .int .i64 0 :: .slice none 0 0 :: .bool false :: .slice none 0 0 :: .slice none 0 0 :: .int .i64 0 :: .slice none 0 0 :: .bool false :: .slice none 0 0 :: .slice none 0 0 :: .int .i64 0 :: .slice none 0 0 :: .bool false :: .slice none 0 0 :: .slice none 0 0 :: .int .i64 0 :: .slice none 0 0 :: .bool false :: .slice none 0 0 :: .slice none 0 0 :: [])), (b2, T2, [.int .i64 0, .slice none 0 0, .bool false, .slice none 0 0, .slice none 0 0])] P4 w := H
  ((conv=>whnf);repeat(first|(refine mvT ?_;conv=>whnf)|(refine mvF ?_;conv=>whnf)|(refine cT (by rfl) ?_;conv=>whnf)|(refine cF (by rfl) ?_;conv=>whnf)))
  refine VD.draw mixed (.q 0 (.q 1 (.q 2 (.q 3 (.q 4 (.q 5 (.q 6 (.q 7 (.eff 8 [] (.done)))))))))) (by kernel_rfl) ?_;((conv=>whnf);repeat(first|(refine mvT ?_;conv=>whnf)|(refine mvF ?_;conv=>whnf)|(refine cT (by rfl) ?_;conv=>whnf)|(refine cF (by rfl) ?_;conv=>whnf)))
  replace H := H.e0 (ext_drew _)
  refine ldS ((Sg.at (A := []) H).cell rfl) ?_;((conv=>whnf);repeat(first|(refine mvT ?_;conv=>whnf)|(refine mvF ?_;conv=>whnf)|(refine cT (by rfl) ?_;conv=>whnf)|(refine cF (by rfl) ?_;conv=>whnf)))
  refine ⟨_, ld ((hq.e0 H.ext).cell (j := 7) rfl) (by simp), ?_⟩
  ((conv=>whnf);repeat(first|(refine mvT ?_;conv=>whnf)|(refine mvF ?_;conv=>whnf)|(refine cT (by rfl) ?_;conv=>whnf)|(refine cF (by rfl) ?_;conv=>whnf)))
  refine ⟨bl, 0, rfl, ⟨by omega, by omega⟩, ?_⟩
  ((conv=>whnf);repeat(first|(refine mvT ?_;conv=>whnf)|(refine mvF ?_;conv=>whnf)|(refine cT (by rfl) ?_;conv=>whnf)|(refine cF (by rfl) ?_;conv=>whnf)))
  refine Sg.st (A := [_]) (o' := 30) (m := [.int .i64 n6, .slice none 0 0, .bool false, .slice none 0 0, .slice none 0 0]) H rfl (Nat.le_of_ble_eq_true rfl) (rfl) ?_
  clear H
  intro w H
  replace H : Sg w0 [(bt, Tt, [.int .i64 0, .slice none 0 0, .bool false, .slice (some ⟨bl, 0, none⟩) 11 11, .slice none 0 0]), (bl, Tl, (.int .i64 n0 :: .slice none 0 0 :: .bool false :: .slice none 0 0 :: .slice none 0 0 :: .int .i64 0 :: .slice (some ⟨bb1, 0, none⟩) s1.length cb1 :: .bool false :: .slice none 0 0 :: .slice none 0 0 :: .int .i64 0 :: .slice (some ⟨bb2, 0, none⟩) s2.length cb2 :: .bool false :: .slice none 0 0 :: .slice none 0 0 :: .int .i64 0 :: .slice (some ⟨bb3, 0, none⟩) s3.length cb3 :: .bool false :: .slice none 0 0 :: .slice none 0 0 :: .int .i64 0 :: .slice (some ⟨bb4, 0, none⟩) s4.length cb4 :: .bool false :: .slice none 0 0 :: .slice none 0 0 :: .int .i64 n5 :: .slice none 0 0 :: .bool false :: .slice none 0 0 :: .slice none 0 0 :: .int .i64 n6 :: .slice none 0 0 :: .bool false :: .slice none 0 0 :: .slice none 0 0 :: .int .i64 0 :: .slice none 0 0 :: .bool false :: .slice none 0 0 :: .slice none 0 0 :: .int .i64 0 :: .slice none 0 0 :: .bool false :: .slice none 0 0 :: .slice none 0 0 :: .int .i64 0 :: .slice none 0 0 :: .bool false :: .slice none 0 0 :: .slice none 0 0 :: .int .i64 0 :: .slice none 0 0 :: .bool false :: .slice none 0 0 :: .slice none 0 0 :: [])), (b2, T2, [.int .i64 0, .slice none 0 0, .bool false, .slice none 0 0, .slice none 0 0])] P4 w := H
  ((conv=>whnf);repeat(first|(refine mvT ?_;conv=>whnf)|(refine mvF ?_;conv=>whnf)|(refine cT (by rfl) ?_;conv=>whnf)|(refine cF (by rfl) ?_;conv=>whnf)))
  refine VD.draw mixed (.q 0 (.q 1 (.q 2 (.q 3 (.q 4 (.q 5 (.q 6 (.q 7 (.eff 8 [] (.done)))))))))) (by kernel_rfl) ?_;((conv=>whnf);repeat(first|(refine mvT ?_;conv=>whnf)|(refine mvF ?_;conv=>whnf)|(refine cT (by rfl) ?_;conv=>whnf)|(refine cF (by rfl) ?_;conv=>whnf)))
  replace H := H.e0 (ext_drew _)
  refine ldS ((Sg.at (A := []) H).cell rfl) ?_;((conv=>whnf);repeat(first|(refine mvT ?_;conv=>whnf)|(refine mvF ?_;conv=>whnf)|(refine cT (by rfl) ?_;conv=>whnf)|(refine cF (by rfl) ?_;conv=>whnf)))
  refine ⟨_, ld ((hq.e0 H.ext).cell (j := 8) rfl) (by simp), ?_⟩
  ((conv=>whnf);repeat(first|(refine mvT ?_;conv=>whnf)|(refine mvF ?_;conv=>whnf)|(refine cT (by rfl) ?_;conv=>whnf)|(refine cF (by rfl) ?_;conv=>whnf)))
  refine ⟨bl, 0, rfl, ⟨by omega, by omega⟩, ?_⟩
  ((conv=>whnf);repeat(first|(refine mvT ?_;conv=>whnf)|(refine mvF ?_;conv=>whnf)|(refine cT (by rfl) ?_;conv=>whnf)|(refine cF (by rfl) ?_;conv=>whnf)))
  refine Sg.st (A := [_]) (o' := 35) (m := [.int .i64 n7, .slice none 0 0, .bool false, .slice none 0 0, .slice none 0 0]) H rfl (Nat.le_of_ble_eq_true rfl) (rfl) ?_
  clear H
  intro w H
  replace H : Sg w0 [(bt, Tt, [.int .i64 0, .slice none 0 0, .bool false, .slice (some ⟨bl, 0, none⟩) 11 11, .slice none 0 0]), (bl, Tl, (.int .i64 n0 :: .slice none 0 0 :: .bool false :: .slice none 0 0 :: .slice none 0 0 :: .int .i64 0 :: .slice (some ⟨bb1, 0, none⟩) s1.length cb1 :: .bool false :: .slice none 0 0 :: .slice none 0 0 :: .int .i64 0 :: .slice (some ⟨bb2, 0, none⟩) s2.length cb2 :: .bool false :: .slice none 0 0 :: .slice none 0 0 :: .int .i64 0 :: .slice (some ⟨bb3, 0, none⟩) s3.length cb3 :: .bool false :: .slice none 0 0 :: .slice none 0 0 :: .int .i64 0 :: .slice (some ⟨bb4, 0, none⟩) s4.length cb4 :: .bool false :: .slice none 0 0 :: .slice none 0 0 :: .int .i64 n5 :: .slice none 0 0 :: .bool false :: .slice none 0 0 :: .slice none 0 0 :: .int .i64 n6 :: .slice none 0 0 :: .bool false :: .slice none 0 0 :: .slice none 0 0 :: .int .i64 n7 :: .slice none 0 0 :: .bool false :: .slice none 0 0 :: .slice none 0 0 :: .int .i64 0 :: .slice none 0 0 :: .bool false :: .slice none 0 0 :: .slice none 0 0 :: .int .i64 0 :: .slice none 0 0 :: .bool false :: .slice none 0 0 :: .slice none 0 0 :: .int .i64 0 :: .slice none 0 0 :: .bool false :: .slice none 0 0 :: .slice none 0 0 :: [])), (b2, T2, [.int .i64 0, .slice none 0 0, .bool false, .slice none 0 0, .slice none 0 0])] P4 w := H
  ((conv=>whnf);repeat(first|(refine mvT ?_;conv=>whnf)|(refine mvF ?_;conv=>whnf)|(refine cT (by rfl) ?_;conv=>whnf)|(refine cF (by rfl) ?_;conv=>whnf)))
  refine VD.draw mixed (.q 0 (.q 1 (.q 2 (.q 3 (.q 4 (.q 5 (.eff 6 [1] (.q 7 (.q 8 (.eff 9 [] (.done))))))))))) (by kernel_rfl) ?_;((conv=>whnf);repeat(first|(refine mvT ?_;conv=>whnf)|(refine mvF ?_;conv=>whnf)|(refine cT (by rfl) ?_;conv=>whnf)|(refine cF (by rfl) ?_;conv=>whnf)))
  replace H := H.e0 (ext_drew _)
  refine ldS ((Sg.at (A := []) H).cell rfl) ?_;((conv=>whnf);repeat(first|(refine mvT ?_;conv=>whnf)|(refine mvF ?_;conv=>whnf)|(refine cT (by rfl) ?_;conv=>whnf)|(refine cF (by rfl) ?_;conv=>whnf)))
  refine ⟨_, ld ((hq.e0 H.ext).cell (j := 9) rfl) (by simp), ?_⟩
  ((conv=>whnf);repeat(first|(refine mvT ?_;conv=>whnf)|(refine mvF ?_;conv=>whnf)|(refine cT (by rfl) ?_;conv=>whnf)|(refine cF (by rfl) ?_;conv=>whnf)))
  refine ⟨by show s8.length ≤ maxLen; have := hLs (.mk 0 s8 false [] []) (by simp); cases this; rw [maxLen_eq]; omega, ?_⟩
  intro bb8 cb8 wb8 hbb8 hbl8 hC8 hcp8 hxb8
  have hC8 : Cells wb8 bb8 0 (s8.map bcell) := hC8
  have hcp8 : s8.length ≤ cb8 ∧ cb8 ≤ maxLen := hcp8
  have H := H.keepN (H.e0 hxb8) (trL [.int .i64 0, .slice (some ⟨bb8, 0, none⟩) s8.length cb8, .bool false, .slice none 0 0, .slice none 0 0] (.mk 0 s8 false [] [])) (F := fun k => _ ≤ k) (TrC.leaf rfl (conv_bytes hbb8 hbl8 hC8 hcp8)) fun k h => h
  refine ⟨by (conv => whnf); exact ⟨⟨_, (Sg.at (A := []) H).cell rfl, rfl, rfl⟩, trivial⟩, ?_⟩
  ((conv=>whnf);repeat(first|(refine mvT ?_;conv=>whnf)|(refine mvF ?_;conv=>whnf)|(refine cT (by rfl) ?_;conv=>whnf)|(refine cF (by rfl) ?_;conv=>whnf)))
  refine ⟨bl, 0, rfl, ⟨by omega, by omega⟩, ?_⟩
  ((conv=>whnf);repeat(first|(refine mvT ?_;conv=>whnf)|(refine mvF ?_;conv=>whnf)|(refine cT (by rfl) ?_;conv=>whnf)|(refine cF (by rfl) ?_;conv=>whnf)))
  refine Sg.st (A := [_]) (o' := 40) (m := [.int .i64 0, .slice (some ⟨bb8, 0, none⟩) s8.length cb8, .bool false, .slice none 0 0, .slice none 0 0]) H rfl (Nat.le_of_ble_eq_true rfl) (rfl) ?_
  clear H
  intro w H
  obtain ⟨P8, hP8⟩ : ∃ P : World → Prop, P = fun w => TrC w (fun k => w0.heap.size ≤ k) [.int .i64 0, .slice (some ⟨bb8, 0, none⟩) s8.length cb8, .bool false, .slice none 0 0, .slice none 0 0] (.mk 0 s8 false [] []) ∧ P4 w := ⟨_, rfl⟩
  replace H : Sg w0 [(bt, Tt, [.int .i64 0, .slice none 0 0, .bool false, .slice (some ⟨bl, 0, none⟩) 11 11, .slice none 0 0]), (bl, Tl, (.int .i64 n0 :: .slice none 0 0 :: .bool false :: .slice none 0 0 :: .slice none 0 0 :: .int .i64 0 :: .slice (some ⟨bb1, 0, none⟩) s1.length cb1 :: .bool false :: .slice none 0 0 :: .slice none 0 0 :: .int .i64 0 :: .slice (some ⟨bb2, 0, none⟩) s2.length cb2 :: .bool false :: .slice none 0 0 :: .slice none 0 0 :: .int .i64 0 :: .slice (some ⟨bb3, 0, none⟩) s3.length cb3 :: .bool false :: .slice none 0 0 :: .slice none 0 0 :: .int .i64 0 :: .slice (some ⟨bb4, 0, none⟩) s4.length cb4 :: .bool false :: .slice none 0 0 :: .slice none 0 0 :: .int .i64 n5 :: .slice none 0 0 :: .bool false :: .slice none 0 0 :: .slice none 0 0 :: .int .i64 n6 :: .slice none 0 0 :: .bool false :: .slice none 0 0 :: .slice none 0 0 :: .int .i64 n7 :: .slice none 0 0 :: .bool false :: .slice none 0 0 :: .slice none 0 0 :: .int .i64 0 :: .slice (some ⟨bb8, 0, none⟩) s8.length cb8 :: .bool false :: .slice none 0 0 :: .slice none 0 0 :: .int .i64 0 :: .slice none 0 0 :: .bool false :: .slice none 0 0 :: .slice none 0 0 :: .int .i64 0 :: .slice none 0 0 :: .bool false :: .slice none 0 0 :: .slice none 0 0 :: [])), (b2, T2, [.int .i64 0, .slice none 0 0, .bool false, .slice none 0 0, .slice none 0 0])] P8 w := by rw [hP8]; exact H
  ((conv=>whnf);repeat(first|(refine mvT ?_;conv=>whnf)|(refine mvF ?_;conv=>whnf)|(refine cT (by rfl) ?_;conv=>whnf)|(refine cF (by rfl) ?_;conv=>whnf)))
  refine VD.draw mixed (.q 0 (.q 1 (.q 2 (.q 3 (.q 4 (.q 5 (.eff 6 [1] (.q 7 (.eff 8 [] (.done)))))))))) (by kernel_rfl) ?_;((conv=>whnf);repeat(first|(refine mvT ?_;conv=>whnf)|(refine mvF ?_;conv=>whnf)|(refine cT (by rfl) ?_;conv=>whnf)|(refine cF (by rfl) ?_;conv=>whnf)))
  replace H := H.e0 (ext_drew _)
  refine ldS ((Sg.at (A := []) H).cell rfl) ?_;((conv=>whnf);repeat(first|(refine mvT ?_;conv=>whnf)|(refine mvF ?_;conv=>whnf)|(refine cT (by rfl) ?_;conv=>whnf)|(refine cF (by rfl) ?_;conv=>whnf)))
  refine ⟨_, ld ((hq.e0 H.ext).cell (j := 10) rfl) (by simp), ?_⟩
  ((conv=>whnf);repeat(first|(refine mvT ?_;conv=>whnf)|(refine mvF ?_;conv=>whnf)|(refine cT (by rfl) ?_;conv=>whnf)|(refine cF (by rfl) ?_;conv=>whnf)))
  refine Does.mono (octetsTree_does (F := F) (hc9.ext H.ext fun _ _ _ f => f) hnl9 (by have := hLs (.mk 0 s9 nl9 [] []) (by simp); cases this; omega)) ?_
  rintro rr9 wr9 ⟨⟨cr9, rfl, hr9⟩, hxr9⟩
  obtain ⟨nv9, sv9, nm9, lv9, uv9, rfl⟩ : ∃ n sv nl lv uv, cr9 = [.int .i64 n, sv, .bool nl, lv, uv] := by cases hr9; exact ⟨_, _, _, _, _, rfl⟩
  have H := H.keepN (H.e0 hxr9) (trL [.int .i64 nv9, sv9, .bool nm9, lv9, uv9] (.mk 0 s9 nl9 [] [])) (F := fun k => _ ≤ k) hr9 fun k h => h
  refine ⟨by (conv => whnf); exact ⟨⟨_, (Sg.at (A := []) H).cell rfl, rfl, rfl⟩, trivial⟩, ?_⟩
  ((conv=>whnf);repeat(first|(refine mvT ?_;conv=>whnf)|(refine mvF ?_;conv=>whnf)|(refine cT (by rfl) ?_;conv=>whnf)|(refine cF (by rfl) ?_;conv=>whnf)))
  refine ⟨bl, 0, rfl, ⟨by omega, by omega⟩, ?_⟩
  ((conv=>whnf);repeat(first|(refine mvT ?_;conv=>whnf)|(refine mvF ?_;conv=>whnf)|(refine cT (by rfl) ?_;conv=>whnf)|(refine cF (by rfl) ?_;conv=>whnf)))
  refine Sg.st (A := [_]) (o' := 45) (m := [.int .i64 nv9, sv9, .bool nm9, lv9, uv9]) H rfl (Nat.le_of_ble_eq_true rfl) (hr9.ok) ?_
  clear H
  intro w H
  obtain ⟨P9, hP9⟩ : ∃ P : World → Prop, P = fun w => TrC w (fun k => w0.heap.size ≤ k) [.int .i64 nv9, sv9, .bool nm9, lv9, uv9] (.mk 0 s9 nl9 [] []) ∧ P8 w := ⟨_, rfl⟩
  replace H : Sg w0 [(bt, Tt, [.int .i64 0, .slice none 0 0, .bool false, .slice (some ⟨bl, 0, none⟩) 11 11, .slice none 0 0]), (bl, Tl, (.int .i64 n0 :: .slice none 0 0 :: .bool false :: .slice none 0 0 :: .slice none 0 0 :: .int .i64 0 :: .slice (some ⟨bb1, 0, none⟩) s1.length cb1 :: .bool false :: .slice none 0 0 :: .slice none 0 0 :: .int .i64 0 :: .slice (some ⟨bb2, 0, none⟩) s2.length cb2 :: .bool false :: .slice none 0 0 :: .slice none 0 0 :: .int .i64 0 :: .slice (some ⟨bb3, 0, none⟩) s3.length cb3 :: .bool false :: .slice none 0 0 :: .slice none 0 0 :: .int .i64 0 :: .slice (some ⟨bb4, 0, none⟩) s4.length cb4 :: .bool false :: .slice none 0 0 :: .slice none 0 0 :: .int .i64 n5 :: .slice none 0 0 :: .bool false :: .slice none 0 0 :: .slice none 0 0 :: .int .i64 n6 :: .slice none 0 0 :: .bool false :: .slice none 0 0 :: .slice none 0 0 :: .int .i64 n7 :: .slice none 0 0 :: .bool false :: .slice none 0 0 :: .slice none 0 0 :: .int .i64 0 :: .slice (some ⟨bb8, 0, none⟩) s8.length cb8 :: .bool false :: .slice none 0 0 :: .slice none 0 0 :: .int .i64 nv9 :: sv9 :: .bool nm9 :: lv9 :: uv9 :: .int .i64 0 :: .slice none 0 0 :: .bool false :: .slice none 0 0 :: .slice none 0 0 :: [])), (b2, T2, [.int .i64 0, .slice none 0 0, .bool false, .slice none 0 0, .slice none 0 0])] P9 w := by rw [hP9]; exact H
  ((conv=>whnf);repeat(first|(refine mvT ?_;conv=>whnf)|(refine mvF ?_;conv=>whnf)|(refine cT (by rfl) ?_;conv=>whnf)|(refine cF (by rfl) ?_;conv=>whnf)))
  refine VD.draw mixed (.q 0 (.q 1 (.q 2 (.q 3 (.q 4 (.q 5 (.q 6 (.q 7 (.q 8 (.eff 9 [] (.done))))))))))) (by kernel_rfl) ?_;((conv=>whnf);repeat(first|(refine mvT ?_;conv=>whnf)|(refine mvF ?_;conv=>whnf)|(refine cT (by rfl) ?_;conv=>whnf)|(refine cF (by rfl) ?_;conv=>whnf)))
  replace H := H.e0 (ext_drew _)
  refine ldS ((Sg.at (A := []) H).cell rfl) ?_;((conv=>whnf);repeat(first|(refine mvT ?_;conv=>whnf)|(refine mvF ?_;conv=>whnf)|(refine cT (by rfl) ?_;conv=>whnf)|(refine cF (by rfl) ?_;conv=>whnf)))
  refine ⟨_, ld ((hq.e0 H.ext).cell (j := 11) rfl) (by simp), ?_⟩
  ((conv=>whnf);repeat(first|(refine mvT ?_;conv=>whnf)|(refine mvF ?_;conv=>whnf)|(refine cT (by rfl) ?_;conv=>whnf)|(refine cF (by rfl) ?_;conv=>whnf)))
  refine ⟨bl, 0, rfl, ⟨by omega, by omega⟩, ?_⟩
  ((conv=>whnf);repeat(first|(refine mvT ?_;conv=>whnf)|(refine mvF ?_;conv=>whnf)|(refine cT (by rfl) ?_;conv=>whnf)|(refine cF (by rfl) ?_;conv=>whnf)))
  refine Sg.st (A := [_]) (o' := 50) (m := [.int .i64 (IntKind.i64.wrap n10), .slice none 0 0, .bool false, .slice none 0 0, .slice none 0 0]) H rfl (Nat.le_of_ble_eq_true rfl) (rfl) ?_
  clear H
  intro w H
  rw [hw10] at H
  replace H : Sg w0 [(bt, Tt, [.int .i64 0, .slice none 0 0, .bool false, .slice (some ⟨bl, 0, none⟩) 11 11, .slice none 0 0]), (bl, Tl, (.int .i64 n0 :: .slice none 0 0 :: .bool false :: .slice none 0 0 :: .slice none 0 0 :: .int .i64 0 :: .slice (some ⟨bb1, 0, none⟩) s1.length cb1 :: .bool false :: .slice none 0 0 :: .slice none 0 0 :: .int .i64 0 :: .slice (some ⟨bb2, 0, none⟩) s2.length cb2 :: .bool false :: .slice none 0 0 :: .slice none 0 0 :: .int .i64 0 :: .slice (some ⟨bb3, 0, none⟩) s3.length cb3 :: .bool false :: .slice none 0 0 :: .slice none 0 0 :: .int .i64 0 :: .slice (some ⟨bb4, 0, none⟩) s4.length cb4 :: .bool false :: .slice none 0 0 :: .slice none 0 0 :: .int .i64 n5 :: .slice none 0 0 :: .bool false :: .slice none 0 0 :: .slice none 0 0 :: .int .i64 n6 :: .slice none 0 0 :: .bool false :: .slice none 0 0 :: .slice none 0 0 :: .int .i64 n7 :: .slice none 0 0 :: .bool false :: .slice none 0 0 :: .slice none 0 0 :: .int .i64 0 :: .slice (some ⟨bb8, 0, none⟩) s8.length cb8 :: .bool false :: .slice none 0 0 :: .slice none 0 0 :: .int .i64 nv9 :: sv9 :: .bool nm9 :: lv9 :: uv9 :: .int .i64 n10 :: .slice none 0 0 :: .bool false :: .slice none 0 0 :: .slice none 0 0 :: [])), (b2, T2, [.int .i64 0, .slice none 0 0, .bool false, .slice none 0 0, .slice none 0 0])] P9 w := H
  ((conv=>whnf);repeat(first|(refine mvT ?_;conv=>whnf)|(refine mvF ?_;conv=>whnf)|(refine cT (by rfl) ?_;conv=>whnf)|(refine cF (by rfl) ?_;conv=>whnf)))
  have hql : q < w0.heap.size := World.block_lt_of_cell? w0 _ (hq.cell (j := 0) rfl)
  have hm2 : TagsR w (fun k => F k ∧ k < w0.heap.size) m u_ := (hm.mono (F' := fun k => F k ∧ k < w0.heap.size) fun k h1 h2 => ⟨h2, h1⟩).ext H.ext fun _ _ _ f => f
  refine Does.mono (EachT tgCreateDelegationTokenResponse ((hq.e0 H.ext).cell (j := 12) rfl) hm2 hd0 hu0 hs0 (Sg.at (A := []) H) (by omega) (fun k _ h e => by have := h.2; omega)) ?_
  rintro r w2 ⟨u', uv, hperm, hpw, hob, hT, hxe⟩
  have hLlt := H.own.lt
  have hw02 := H.ext.size
  have H2 := Sg.up (A := []) H hob hxe
  obtain ⟨auv, nuv, cuv, rfl⟩ := hT.one
  have H := H2.add (Q := fun w => TgsR w (fun k => w0.heap.size ≤ k) (.slice auv nuv cuv) u') fun w3 x => (hT.ext x fun k hk h1 h2 => by
    have h3 : k < w.heap.size := hLlt k (by rcases inL3 h2 with h | h | h <;> subst h <;> simp [inL])
    omega).tgs fun k hk => by omega
  clear H2
  ((conv=>whnf);repeat(first|(refine mvT ?_;conv=>whnf)|(refine mvF ?_;conv=>whnf)|(refine cT (by rfl) ?_;conv=>whnf)|(refine cF (by rfl) ?_;conv=>whnf)))
  refine ldS ((Sg.at (A := []) H).cell rfl) ?_;((conv=>whnf);repeat(first|(refine mvT ?_;conv=>whnf)|(refine mvF ?_;conv=>whnf)|(refine cT (by rfl) ?_;conv=>whnf)|(refine cF (by rfl) ?_;conv=>whnf)))
  refine Does.mono (sorted_does H.now.1 hpw (by rw [hperm.length_eq]; exact hu0)) ?_
  rintro r w3 hx3
  replace H := H.e0 hx3
  ((conv=>whnf);repeat(first|(refine mvT ?_;conv=>whnf)|(refine mvF ?_;conv=>whnf)|(refine cT (by rfl) ?_;conv=>whnf)|(refine cF (by rfl) ?_;conv=>whnf)))
  refine ⟨_, rfl, (Sg.at (A := []) H).cells, ?_⟩
  ((conv=>whnf);repeat(first|(refine mvT ?_;conv=>whnf)|(refine mvF ?_;conv=>whnf)|(refine cT (by rfl) ?_;conv=>whnf)|(refine cF (by rfl) ?_;conv=>whnf)))
  refine Sg.st (A := [_, _]) (o' := 0) (m := [.int .i64 0, .slice none 0 0, .bool false, .slice (some ⟨bl, 0, none⟩) 11 11, .slice auv nuv cuv]) H rfl (Nat.le_of_ble_eq_true rfl) rfl ?_
  clear H
  intro w H
  ((conv=>whnf);repeat(first|(refine mvT ?_;conv=>whnf)|(refine mvF ?_;conv=>whnf)|(refine cT (by rfl) ?_;conv=>whnf)|(refine cF (by rfl) ?_;conv=>whnf)))
  refine ⟨_, rfl, (Sg.at (A := [_, _]) H).cells, ?_⟩
  have hP := H.now
  rw [hP9, hP8, hP4, hP3, hP2, hP1] at hP
  have hbl := Sg.at (A := [_]) H
  refine ⟨.mk 0 [] false [numT n0, .mk 0 s1 false [] [], .mk 0 s2 false [] [], .mk 0 s3 false [] [], .mk 0 s4 false [] [], numT n5, numT n6, numT n7, .mk 0 s8 false [] [], .mk 0 s9 nl9 [] [], numT n10] u', ?_, ⟨_, rfl, .mk 0 [] false [numT n0, .mk 0 s1 false [] [], .mk 0 s2 false [] [], .mk 0 s3 false [] [], .mk 0 s4 false [] [], numT n5, numT n6, numT n7, .mk 0 s8 false [] [], .mk 0 s9 nl9 [] [], numT n10] u' _ _ _ [[.int .i64 n0, .slice none 0 0, .bool false, .slice none 0 0, .slice none 0 0], [.int .i64 0, .slice (some ⟨bb1, 0, none⟩) s1.length cb1, .bool false, .slice none 0 0, .slice none 0 0], [.int .i64 0, .slice (some ⟨bb2, 0, none⟩) s2.length cb2, .bool false, .slice none 0 0, .slice none 0 0], [.int .i64 0, .slice (some ⟨bb3, 0, none⟩) s3.length cb3, .bool false, .slice none 0 0, .slice none 0 0], [.int .i64 0, .slice (some ⟨bb4, 0, none⟩) s4.length cb4, .bool false, .slice none 0 0, .slice none 0 0], [.int .i64 n5, .slice none 0 0, .bool false, .slice none 0 0, .slice none 0 0], [.int .i64 n6, .slice none 0 0, .bool false, .slice none 0 0, .slice none 0 0], [.int .i64 n7, .slice none 0 0, .bool false, .slice none 0 0, .slice none 0 0], [.int .i64 0, .slice (some ⟨bb8, 0, none⟩) s8.length cb8, .bool false, .slice none 0 0, .slice none 0 0], [.int .i64 nv9, sv9, .bool nm9, lv9, uv9], [.int .i64 n10, .slice none 0 0, .bool false, .slice none 0 0, .slice none 0 0]] rfl (Bytes.nil _ _) (rows_sl hbl (by simp) rfl (by rw [maxLen_eq]; decide) hblw) rfl ?_ hP.1⟩, H.ext⟩
  · refine .mk _ _ _ _ _ _ _ rfl ?_ hperm hpw
    intro i x y hx hy
    match i, hx, hy with
    | 0, hx, hy => simp only [List.getElem?_cons_succ, List.getElem?_cons_zero, Option.some.injEq] at hx hy; subst hx; subst hy; exact Nrm.leaf _ _ _
    | 1, hx, hy => simp only [List.getElem?_cons_succ, List.getElem?_cons_zero, Option.some.injEq] at hx hy; subst hx; subst hy; exact Nrm.leaf _ _ _
    | 2, hx, hy => simp only [List.getElem?_cons_succ, List.getElem?_cons_zero, Option.some.injEq] at hx hy; subst hx; subst hy; exact Nrm.leaf _ _ _
    | 3, hx, hy => simp only [List.getElem?_cons_succ, List.getElem?_cons_zero, Option.some.injEq] at hx hy; subst hx; subst hy; exact Nrm.leaf _ _ _
    | 4, hx, hy => simp only [List.getElem?_cons_succ, List.getElem?_cons_zero, Option.some.injEq] at hx hy; subst hx; subst hy; exact Nrm.leaf _ _ _
    | 5, hx, hy => simp only [List.getElem?_cons_succ, List.getElem?_cons_zero, Option.some.injEq] at hx hy; subst hx; subst hy; exact Nrm.leaf _ _ _
    | 6, hx, hy => simp only [List.getElem?_cons_succ, List.getElem?_cons_zero, Option.some.injEq] at hx hy; subst hx; subst hy; exact Nrm.leaf _ _ _
    | 7, hx, hy => simp only [List.getElem?_cons_succ, List.getElem?_cons_zero, Option.some.injEq] at hx hy; subst hx; subst hy; exact Nrm.leaf _ _ _
    | 8, hx, hy => simp only [List.getElem?_cons_succ, List.getElem?_cons_zero, Option.some.injEq] at hx hy; subst hx; subst hy; exact Nrm.leaf _ _ _
    | 9, hx, hy => simp only [List.getElem?_cons_succ, List.getElem?_cons_zero, Option.some.injEq] at hx hy; subst hx; subst hy; exact Nrm.leaf _ _ _
    | 10, hx, hy => simp only [List.getElem?_cons_succ, List.getElem?_cons_zero, Option.some.injEq] at hx hy; subst hx; subst hy; exact Nrm.leaf _ _ _
  · intro i x y hx hy
    match i, hx, hy with
    | 0, hx, hy => simp only [List.getElem?_cons_succ, List.getElem?_cons_zero, Option.some.injEq] at hx hy; subst hx; subst hy; exact TrC.leaf hw0 (Bytes.nil _ _)
    | 1, hx, hy => simp only [List.getElem?_cons_succ, List.getElem?_cons_zero, Option.some.injEq] at hx hy; subst hx; subst hy; exact hP.2.2.2.2.2.2.1
    | 2, hx, hy => simp only [List.getElem?_cons_succ, List.getElem?_cons_zero, Option.some.injEq] at hx hy; subst hx; subst hy; exact hP.2.2.2.2.2.1
    | 3, hx, hy => simp only [List.getElem?_cons_succ, List.getElem?_cons_zero, Option.some.injEq] at hx hy; subst hx; subst hy; exact hP.2.2.2.2.1
    | 4, hx, hy => simp only [List.getElem?_cons_succ, List.getElem?_cons_zero, Option.some.injEq] at hx hy; subst hx; subst hy; exact hP.2.2.2.1
    | 5, hx, hy => simp only [List.getElem?_cons_succ, List.getElem?_cons_zero, Option.some.injEq] at hx hy; subst hx; subst hy; exact TrC.leaf hw5 (Bytes.nil _ _)
    | 6, hx, hy => simp only [List.getElem?_cons_succ, List.getElem?_cons_zero, Option.some.injEq] at hx hy; subst hx; subst hy; exact TrC.leaf hw6 (Bytes.nil _ _)
    | 7, hx, hy => simp only [List.getElem?_cons_succ, List.getElem?_cons_zero, Option.some.injEq] at hx hy; subst hx; subst hy; exact TrC.leaf hw7 (Bytes.nil _ _)
    | 8, hx, hy => simp only [List.getElem?_cons_succ, List.getElem?_cons_zero, Option.some.injEq] at hx hy; subst hx; subst hy; exact hP.2.2.1
    | 9, hx, hy => simp only [List.getElem?_cons_succ, List.getElem?_cons_zero, Option.some.injEq] at hx hy; subst hx; subst hy; exact hP.2.1
    | 10, hx, hy => simp only [List.getElem?_cons_succ, List.getElem?_cons_zero, Option.some.injEq] at hx hy; subst hx; subst hy; exact TrC.leaf hw10 (Bytes.nil _ _)
theorem newCreateDelegationTokenResponse (w : World) : Does X.P 55 #[] w fun r w' => ∃ p, r = .pointer (some ⟨p, 0, none⟩) ∧ w.heap.size ≤ p ∧ Own w' p 119 [.int .i16 0, .int .i16 0, str [], str [], str [], str [], .int .i64 0, .int .i64 0, .int .i64 0, str [], .slice none 0 0, .int .i32 0, .map none] ∧ Ext nob w w' := by
  refine Does.go (X := X) (l := []) Tryz.func55 rfl (by kernel_rfl) (by kernel_rfl) _ rfl ?_
  ((conv=>whnf);repeat(first|(refine mvT ?_;conv=>whnf)|(refine mvF ?_;conv=>whnf)|(refine cT (by rfl) ?_;conv=>whnf)|(refine cF (by rfl) ?_;conv=>whnf)))
  intro p w1 hp ho hx
  ((conv=>whnf);repeat(first|(refine mvT ?_;conv=>whnf)|(refine mvF ?_;conv=>whnf)|(refine cT (by rfl) ?_;conv=>whnf)|(refine cF (by rfl) ?_;conv=>whnf)))
  refine Does.mono (dfCreateDelegationTokenResponse (pre := []) (cur := [.int .i16 0, .int .i16 0, str [], str [], str [], str [], .int .i64 0, .int .i64 0, .int .i64 0, str [], .slice none 0 0, .int .i32 0, .map none]) (post := []) (by simpa using ho) rfl rfl) ?_;rintro r2 w2 ⟨hd, hx2⟩;((conv=>whnf);repeat(first|(refine mvT ?_;conv=>whnf)|(refine mvF ?_;conv=>whnf)|(refine cT (by rfl) ?_;conv=>whnf)|(refine cF (by rfl) ?_;conv=>whnf)))
  exact ⟨p, rfl, hp, by simpa using hd, hx.st hx2 hp⟩
theorem maxCreateDelegationTokenResponse (w : World) : Does X.P 21 #[] w fun r w' => r = .int .i64 3 ∧ Ext nob w w' := by
  have hmax : ∀ (p : Nat) (w : World), Does X.P 56 #[.pointer (some ⟨p, 0, none⟩)] w fun r w' => r = .int .i16 3 ∧ w' = w := by
    intro p w
    refine Does.go (X := X) (l := [_]) Tryz.func56 rfl (by kernel_rfl) (by kernel_rfl) _ rfl ?_
    ((conv=>whnf);repeat(first|(refine mvT ?_;conv=>whnf)|(refine mvF ?_;conv=>whnf)|(refine cT (by rfl) ?_;conv=>whnf)|(refine cF (by rfl) ?_;conv=>whnf)))
    exact ⟨rfl, rfl⟩
  refine Does.go (X := X) (l := []) Tryz.func21 rfl (by kernel_rfl) (by kernel_rfl) _ rfl ?_
  ((conv=>whnf);repeat(first|(refine mvT ?_;conv=>whnf)|(refine mvF ?_;conv=>whnf)|(refine cT (by rfl) ?_;conv=>whnf)|(refine cF (by rfl) ?_;conv=>whnf)))
  refine Does.mono (newCreateDelegationTokenResponse w) ?_;rintro r1 w1 ⟨p, rfl, _, _, hx⟩;((conv=>whnf);repeat(first|(refine mvT ?_;conv=>whnf)|(refine mvF ?_;conv=>whnf)|(refine cT (by rfl) ?_;conv=>whnf)|(refine cF (by rfl) ?_;conv=>whnf)))
  refine Does.mono (hmax p w1) ?_;rintro r2 w2 ⟨rfl, rfl⟩;((conv=>whnf);repeat(first|(refine mvT ?_;conv=>whnf)|(refine mvF ?_;conv=>whnf)|(refine cT (by rfl) ?_;conv=>whnf)|(refine cF (by rfl) ?_;conv=>whnf)))
  exact ⟨rfl, hx⟩
theorem tellsCreateDelegationTokenResponse {G : Nat → Prop} {w : World} {v : Int} {x ev : Value} {s : List UInt8} {t : T} (hL : Laid w ev) (hx : Bytes w G x s) (hv : 0 ≤ v) (hv2 : v < 32768)
    (hrd : rdPart 9 v (decide (v ≥ 2)) dCreateDelegationTokenResponse (s, false) = (t, ([], false))) (hlim : LimT t) (hs : s.length ≤ 100000000000000) :
    Does X.P 23 #[.int .i64 v, x] w fun r w' => ∃ o t', r = .tuple #[o, .bool true] ∧ Nrm t t' ∧ Tr w' (fun k => w.heap.size ≤ k) o t' ∧ Ext nob w w' := by
  have hv16 : IntKind.i16.wrap v = v := by
    simp only [IntKind.wrap, IntKind.bits, IntKind.signed]
    simp
    omega
  obtain ⟨ax, cx, rfl, _⟩ := hx.view
  have hL1 := hL.lt
  refine Does.go (X := X) (l := [_, _]) Tryz.func23 rfl (by kernel_rfl) (by kernel_rfl) _ rfl ?_
  ((conv=>whnf);repeat(first|(refine mvT ?_;conv=>whnf)|(refine mvF ?_;conv=>whnf)|(refine cT (by rfl) ?_;conv=>whnf)|(refine cF (by rfl) ?_;conv=>whnf)))
  intro b w0 hb ho hx0
  ((conv=>whnf);repeat(first|(refine mvT ?_;conv=>whnf)|(refine mvF ?_;conv=>whnf)|(refine cT (by rfl) ?_;conv=>whnf)|(refine cF (by rfl) ?_;conv=>whnf)))
  refine Does.mono (newCreateDelegationTokenResponse w0) ?_;rintro r1 w1 ⟨p, rfl, hwp, hop, hx1⟩;((conv=>whnf);repeat(first|(refine mvT ?_;conv=>whnf)|(refine mvF ?_;conv=>whnf)|(refine cT (by rfl) ?_;conv=>whnf)|(refine cF (by rfl) ?_;conv=>whnf)))
  have hwp : w.heap.size ≤ p := Nat.le_trans hx0.size hwp
  have hpb : p ≠ b := by have := ho.lt; omega
  have hx01 := hx0.e0 hx1
  have hset : Does X.P 57 #[.pointer (some ⟨p, 0, none⟩), .int .i16 (IntKind.i16.wrap v)] w1 fun r w' => Own w' p 119 [.int .i16 v, .int .i16 0, str [], str [], str [], str [], .int .i64 0, .int .i64 0, .int .i64 0, str [], .slice none 0 0, .int .i32 0, .map none] ∧ Ext (fun k => k = p) w1 w' := by
    rw [hv16]
    refine Does.go (X := X) (l := [_, _]) Tryz.func57 rfl (by kernel_rfl) (by kernel_rfl) _ rfl ?_
    ((conv=>whnf);repeat(first|(refine mvT ?_;conv=>whnf)|(refine mvF ?_;conv=>whnf)|(refine cT (by rfl) ?_;conv=>whnf)|(refine cF (by rfl) ?_;conv=>whnf)))
    refine ⟨_, _, hop, rfl, rfl, rfl, ?_⟩
    intro w3 ho3 hx3
    ((conv=>whnf);repeat(first|(refine mvT ?_;conv=>whnf)|(refine mvF ?_;conv=>whnf)|(refine cT (by rfl) ?_;conv=>whnf)|(refine cF (by rfl) ?_;conv=>whnf)))
    exact ⟨ho3, hx3⟩
  refine Does.mono (hset) ?_;rintro r2 w2 ⟨hop2, hx2⟩;((conv=>whnf);repeat(first|(refine mvT ?_;conv=>whnf)|(refine mvF ?_;conv=>whnf)|(refine cT (by rfl) ?_;conv=>whnf)|(refine cF (by rfl) ?_;conv=>whnf)))
  have hx02 := hx01.st hx2 hwp
  have ho2 := (ho.e0 hx1).ext hx2 (fun e => hpb e.symm)
  refine app_bytes rfl rfl (OB.nil w2 w2.heap.size) (hx.e0 hx02).src rfl (by simp only [List.length_nil]; omega) (Nat.le_refl _) ?_
  intro x3 w3 h3 hx3 _ _
  ((conv=>whnf);repeat(first|(refine mvT ?_;conv=>whnf)|(refine mvF ?_;conv=>whnf)|(refine cT (by rfl) ?_;conv=>whnf)|(refine cF (by rfl) ?_;conv=>whnf)))
  rw [List.nil_append] at h3
  have hx3 : Ext nob w2 w3 := hx3.mono fun k _ h => by simp [Value.ownBlock] at h
  have hx03 := hx02.e0 hx3
  have hpl := hop2.lt
  have hread : Does X.P 58 #[.pointer (some ⟨p, 0, none⟩), x3] w3 fun r w' => RdPost w3 p 119 v (decide (v ≥ 2)) true dCreateDelegationTokenResponse ev s r w' := by
    obtain ⟨a3, c3, rfl, _⟩ := h3.shape
    refine Does.go (X := X) (l := [_, _]) Tryz.func58 rfl (by kernel_rfl) (by kernel_rfl) _ rfl ?_
    ((conv=>whnf);repeat(first|(refine mvT ?_;conv=>whnf)|(refine mvF ?_;conv=>whnf)|(refine cT (by rfl) ?_;conv=>whnf)|(refine cF (by rfl) ?_;conv=>whnf)))
    refine Does.mono (readCreateDelegationTokenResponse (hL.ext hx03 fun f => f) (hop2.e0 hx3) (h3.bytes (F := fun k => k ≠ p) fun k hk => by omega) (fun k h => h) hv (by omega)) ?_;rintro r w' h;((conv=>whnf);repeat(first|(refine mvT ?_;conv=>whnf)|(refine mvF ?_;conv=>whnf)|(refine cT (by rfl) ?_;conv=>whnf)|(refine cF (by rfl) ?_;conv=>whnf)))
    exact h
  refine Does.mono hread ?_
  rintro r4 w4 ⟨hr4, hx4, hpost⟩
  rw [hrd] at hr4 hpost
  obtain rfl : r4 = .nilIface := hr4.trans (if_neg Bool.false_ne_true)
  obtain ⟨cs, hop4, hq⟩ := hpost rfl
  ((conv=>whnf);repeat(first|(refine mvT ?_;conv=>whnf)|(refine mvF ?_;conv=>whnf)|(refine cT (by rfl) ?_;conv=>whnf)|(refine cF (by rfl) ?_;conv=>whnf)))
  have hx04 := hx03.st hx4 hwp
  have ho4 := (ho2.e0 hx3).ext hx4 (fun e => hpb e.symm)
  have hbl4 := ho4.lt
  refine Does.mono (tellCreateDelegationTokenResponse hop4.cells hq hlim) ?_
  rintro r5 w5 ⟨t', hn, ⟨cr, rfl, htr⟩, hx5⟩
  have hlen5 := htr.len
  have hok5 := htr.ok
  ((conv=>whnf);repeat(first|(refine mvT ?_;conv=>whnf)|(refine mvF ?_;conv=>whnf)|(refine cT (by rfl) ?_;conv=>whnf)|(refine cF (by rfl) ?_;conv=>whnf)))
  refine st_all cr (ho4.e0 hx5) hlen5 rfl hok5 ?_
  intro w6 ho6 hx6
  ((conv=>whnf);repeat(first|(refine mvT ?_;conv=>whnf)|(refine mvF ?_;conv=>whnf)|(refine cT (by rfl) ?_;conv=>whnf)|(refine cF (by rfl) ?_;conv=>whnf)))
  refine ⟨cr, hlen5, ho6.cells, ?_⟩
  have hsz4 := hx04.size
  exact ⟨_, t', rfl, hn, ⟨_, rfl, (htr.ext hx6 fun k _ h e => by omega).mono fun k _ h => by omega⟩, (hx04.e0 hx5).st hx6 hb⟩
theorem walkCreateDelegationTokenResponse {w : World} {n : Nat} (hn : n < 256) {x ev : Value} {t : T} (hL : Laid w ev) (ht : Tr w anyB x t) : Does X.P 5 #[.int .u8 n, x] w fun r w' => r = .bool true ∧ Ext nob w w' := by
  have hkeys := ht.keys
  obtain ⟨sv, lv, uv, ls, rfl, _⟩ := ht.open
  refine Does.go (X := X) (l := [_, _]) Tryz.func5 rfl (by kernel_rfl) (by kernel_rfl) _ rfl ?_
  ((conv=>whnf);repeat(first|(refine mvT ?_;conv=>whnf)|(refine mvF ?_;conv=>whnf)|(refine cT (by rfl) ?_;conv=>whnf)|(refine cF (by rfl) ?_;conv=>whnf)))
  intro b w1 hb ho hx
  ((conv=>whnf);repeat(first|(refine mvT ?_;conv=>whnf)|(refine mvF ?_;conv=>whnf)|(refine cT (by rfl) ?_;conv=>whnf)|(refine cF (by rfl) ?_;conv=>whnf)))
  refine ⟨_, rfl, ho.cells, ?_⟩
  ((conv=>whnf);repeat(first|(refine mvT ?_;conv=>whnf)|(refine mvF ?_;conv=>whnf)|(refine cT (by rfl) ?_;conv=>whnf)|(refine cF (by rfl) ?_;conv=>whnf)))
  refine Does.mono (zzFits1_does (ht.e0 hx)) ?_;rintro r2 w2 ⟨⟨b2, rfl⟩, hx2⟩;((conv=>whnf);repeat(first|(refine mvT ?_;conv=>whnf)|(refine mvF ?_;conv=>whnf)|(refine cT (by rfl) ?_;conv=>whnf)|(refine cF (by rfl) ?_;conv=>whnf)))
  have hx02 := hx.e0 hx2
  refine cI (by rfl) (fun h1=>?_) (fun h1=>?_)
  · ((conv=>whnf);repeat(first|(refine mvT ?_;conv=>whnf)|(refine mvF ?_;conv=>whnf)|(refine cT (by rfl) ?_;conv=>whnf)|(refine cF (by rfl) ?_;conv=>whnf)))
    exact ⟨rfl, hx02⟩
  · ((conv=>whnf);repeat(first|(refine mvT ?_;conv=>whnf)|(refine mvF ?_;conv=>whnf)|(refine cT (by rfl) ?_;conv=>whnf)|(refine cF (by rfl) ?_;conv=>whnf)))
    refine Does.mono (maxCreateDelegationTokenResponse w2) ?_;rintro r3 w3 ⟨rfl, hx3⟩;((conv=>whnf);repeat(first|(refine mvT ?_;conv=>whnf)|(refine mvF ?_;conv=>whnf)|(refine cT (by rfl) ?_;conv=>whnf)|(refine cF (by rfl) ?_;conv=>whnf)))
    refine Does.mono (sCreateDelegationTokenResponse w3) ?_;rintro r4 w4 ⟨⟨fv, rfl, hfd⟩, hx4⟩;((conv=>whnf);repeat(first|(refine mvT ?_;conv=>whnf)|(refine mvF ?_;conv=>whnf)|(refine cT (by rfl) ?_;conv=>whnf)|(refine cF (by rfl) ?_;conv=>whnf)))
    have hone := hfd
    obtain ⟨ls3, hsl3, _⟩ := hone
    obtain ⟨a3, c3, rfl, _⟩ := hsl3.view
    refine Does.mono (version_does n 3 hn (by omega) w4) ?_;rintro r5 w5 ⟨rfl, rfl⟩;((conv=>whnf);repeat(first|(refine mvT ?_;conv=>whnf)|(refine mvF ?_;conv=>whnf)|(refine cT (by rfl) ?_;conv=>whnf)|(refine cF (by rfl) ?_;conv=>whnf)))
    intro b6 w6 hb6 ho6 hx6
    ((conv=>whnf);repeat(first|(refine mvT ?_;conv=>whnf)|(refine mvF ?_;conv=>whnf)|(refine cT (by rfl) ?_;conv=>whnf)|(refine cF (by rfl) ?_;conv=>whnf)))
    refine ⟨_, _, ho6, rfl, rfl, rfl, ?_⟩
    intro w7 ho7 hx7
    have hx57 : Ext nob w5 w7 := hx6.st hx7 hb6
    ((conv=>whnf);repeat(first|(refine mvT ?_;conv=>whnf)|(refine mvF ?_;conv=>whnf)|(refine cT (by rfl) ?_;conv=>whnf)|(refine cF (by rfl) ?_;conv=>whnf)))
    have hx07 : Ext nob w w7 := ((hx02.e0 hx3).e0 hx4).e0 hx57
    have ho1 := (((ho.e0 hx2).e0 hx3).e0 hx4).e0 hx57
    generalize hvv : ((n % (3 + 1) : Nat) : Int) = v
    have hv0 : 0 ≤ v := by omega
    have hv1 : v < 32768 := by omega
    have hok : ∀ f, f ∈ dCreateDelegationTokenResponse → okF 9 f = true := List.all_eq_true.1 (show (dCreateDelegationTokenResponse).all (okF 9) = true by decide)
    have hnt : ∀ f, f ∈ dCreateDelegationTokenResponse → ntF 9 f = true := List.all_eq_true.1 (show (dCreateDelegationTokenResponse).all (ntF 9) = true by decide)
    have hrr : ∀ f, f ∈ dCreateDelegationTokenResponse → okR 2 9 f = true := List.all_eq_true.1 (show (dCreateDelegationTokenResponse).all (okR 2 9) = true by decide)
    have hww : ∀ f, f ∈ dCreateDelegationTokenResponse → okW 9 f = true := List.all_eq_true.1 (show (dCreateDelegationTokenResponse).all (okW 9) = true by decide)
    have hnn : ∀ f, f ∈ dCreateDelegationTokenResponse → okN 9 f = true := List.all_eq_true.1 (show (dCreateDelegationTokenResponse).all (okN 9) = true by decide)
    refine ⟨_, rfl, ho7.cells, ?_⟩
    ((conv=>whnf);repeat(first|(refine mvT ?_;conv=>whnf)|(refine mvF ?_;conv=>whnf)|(refine cT (by rfl) ?_;conv=>whnf)|(refine cF (by rfl) ?_;conv=>whnf)))
    refine ⟨_, rfl, ho1.cells, ?_⟩
    ((conv=>whnf);repeat(first|(refine mvT ?_;conv=>whnf)|(refine mvF ?_;conv=>whnf)|(refine cT (by rfl) ?_;conv=>whnf)|(refine cF (by rfl) ?_;conv=>whnf)))
    have hfx : decide (v ≥ 2) = flexB 2 v := by simp [flexB]
    have hlen : (partB 9 v (flexB 2 v) dCreateDelegationTokenResponse t).length ≤ 90000000000000 := Nat.le_trans (partB_len 9 v _ dCreateDelegationTokenResponse t hnt hkeys) (Nat.le_of_ble_eq_true rfl)
    refine Does.mono (write_does 9 (v := v) ⟨_, rfl, hfd.e0 hx57⟩ (ht.e0 hx07) hok (by decide) (Nat.le_trans hlen (by decide))) ?_
    rintro r8 w8 ⟨hr8, hx8⟩
    obtain ⟨a8, c8, rfl, _⟩ := hr8.shape
    ((conv=>whnf);repeat(first|(refine mvT ?_;conv=>whnf)|(refine mvF ?_;conv=>whnf)|(refine cT (by rfl) ?_;conv=>whnf)|(refine cF (by rfl) ?_;conv=>whnf)))
    have hx08 := hx07.e0 hx8
    have hrd : rdPart 9 v (decide (v ≥ 2)) dCreateDelegationTokenResponse (partB 9 v (flexB 2 v) dCreateDelegationTokenResponse t, false) = (toPart 9 v (decide (v ≥ 2)) dCreateDelegationTokenResponse t, ([], false)) := by
      have := part_read 9 2 v dCreateDelegationTokenResponse t hnt hrr hkeys hv0 []
      rw [List.append_nil] at this
      rw [hfx]
      exact this
    have hgd := gd_part 9 v (decide (v ≥ 2)) dCreateDelegationTokenResponse t hok (by decide) hkeys
    refine Does.mono (tellsCreateDelegationTokenResponse (v := v) (hL.ext hx08 fun f => f) hr8.bytesAny hv0 hv1 hrd hgd.lim (by omega)) ?_
    rintro r9 w9 ⟨o9, t9, rfl, hn9, hr9, hx9⟩
    obtain rfl := hgd.nrm hn9
    have hsm := hgd.small
    obtain ⟨c9, rfl, hc9⟩ := hr9
    have hlen9 := hc9.len
    have hok9 := hc9.ok
    ((conv=>whnf);repeat(first|(refine mvT ?_;conv=>whnf)|(refine mvF ?_;conv=>whnf)|(refine cT (by rfl) ?_;conv=>whnf)|(refine cF (by rfl) ?_;conv=>whnf)))
    intro b10 w10 hb10 ho10 hx10
    ((conv=>whnf);repeat(first|(refine mvT ?_;conv=>whnf)|(refine mvF ?_;conv=>whnf)|(refine cT (by rfl) ?_;conv=>whnf)|(refine cF (by rfl) ?_;conv=>whnf)))
    refine st_all c9 ho10 hlen9 rfl hok9 ?_
    intro w11 ho11 hx11
    ((conv=>whnf);repeat(first|(refine mvT ?_;conv=>whnf)|(refine mvF ?_;conv=>whnf)|(refine cT (by rfl) ?_;conv=>whnf)|(refine cF (by rfl) ?_;conv=>whnf)))
    have hx911 : Ext nob w9 w11 := hx10.st hx11 hb10
    have hx011 := (hx08.e0 hx9).e0 hx911
    have hx711 := (hx8.e0 hx9).e0 hx911
    refine VD.draw mixed (.q 0 (.q 1 (.q 2 (.q 3 (.q 4 (.q 5 (.q 6 (.q 8 (.q 9 (.eff 7 [3, 8, 9] (.eff 10 [3, 8] (.eff 11 [] (.q 12 (.eff 13 [] (.done))))))))))))))) (by kernel_rfl) ?_;((conv=>whnf);repeat(first|(refine mvT ?_;conv=>whnf)|(refine mvF ?_;conv=>whnf)|(refine cT (by rfl) ?_;conv=>whnf)|(refine cF (by rfl) ?_;conv=>whnf)))
    have hxd : Ext nob w11 w11.drew := ext_drew _
    have ho7d := (ho7.e0 hx711).e0 hxd
    have ho1d := (ho1.e0 hx711).e0 hxd
    have ho11d := ho11.e0 hxd
    have hc9d := (hc9.e0 hx911).e0 hxd
    refine ldS (ho7d.cell rfl) ?_;((conv=>whnf);repeat(first|(refine mvT ?_;conv=>whnf)|(refine mvF ?_;conv=>whnf)|(refine cT (by rfl) ?_;conv=>whnf)|(refine cF (by rfl) ?_;conv=>whnf)))
    refine ⟨_, rfl, ho7d.cells, ?_⟩
    ((conv=>whnf);repeat(first|(refine mvT ?_;conv=>whnf)|(refine mvF ?_;conv=>whnf)|(refine cT (by rfl) ?_;conv=>whnf)|(refine cF (by rfl) ?_;conv=>whnf)))
    refine ⟨_, rfl, ho1d.cells, ?_⟩
    ((conv=>whnf);repeat(first|(refine mvT ?_;conv=>whnf)|(refine mvF ?_;conv=>whnf)|(refine cT (by rfl) ?_;conv=>whnf)|(refine cF (by rfl) ?_;conv=>whnf)))
    refine ⟨c9, hlen9, ho11d.cells, ?_⟩
    ((conv=>whnf);repeat(first|(refine mvT ?_;conv=>whnf)|(refine mvF ?_;conv=>whnf)|(refine cT (by rfl) ?_;conv=>whnf)|(refine cF (by rfl) ?_;conv=>whnf)))
    refine Does.mono (Flexible2_does (w := w11.drew)) ?_
    rintro r12 w12 ⟨rfl, hx12⟩
    refine ⟨by (conv => whnf); exact ⟨⟨_, (ho7d.e0 hx12).cell rfl, rfl, rfl⟩, ⟨_, rfl, (ho1d.e0 hx12).cells, rfl, rfl⟩, ⟨c9, hlen9, (ho11d.e0 hx12).cells, rfl, rfl⟩, trivial⟩, ?_⟩
    ((conv=>whnf);repeat(first|(refine mvT ?_;conv=>whnf)|(refine mvF ?_;conv=>whnf)|(refine cT (by rfl) ?_;conv=>whnf)|(refine cF (by rfl) ?_;conv=>whnf)))
    refine Does.mono (got_does ⟨_, rfl, hc9d.e0 hx12⟩ hsm) ?_
    rintro r13 w13 ⟨hr13, hx13⟩
    have hxd13 := hx12.e0 hx13
    refine ⟨by (conv => whnf); exact ⟨⟨_, (ho7d.e0 hxd13).cell rfl, rfl, rfl⟩, ⟨_, rfl, (ho1d.e0 hxd13).cells, rfl, rfl⟩, trivial⟩, ?_⟩
    ((conv=>whnf);repeat(first|(refine mvT ?_;conv=>whnf)|(refine mvF ?_;conv=>whnf)|(refine cT (by rfl) ?_;conv=>whnf)|(refine cF (by rfl) ?_;conv=>whnf)))
    have hx013 := (hx011.e0 hxd).e0 hxd13
    rw [hfx] at hr13
    refine Does.mono (Told_does 8 ((((hfd.e0 hx57).e0 hx711).e0 hxd).e0 hxd13) (ht.e0 hx013) hr13 hok hnt hww hnn (by decide) hv0) ?_
    rintro r14 w14 ⟨rfl, hx14⟩
    ((conv=>whnf);repeat(first|(refine mvT ?_;conv=>whnf)|(refine mvF ?_;conv=>whnf)|(refine cT (by rfl) ?_;conv=>whnf)|(refine cF (by rfl) ?_;conv=>whnf)))
    exact ⟨rfl, hx013.e0 hx14⟩
end Go.Proofs.YteofeendidabgaaGreatDoor.K
