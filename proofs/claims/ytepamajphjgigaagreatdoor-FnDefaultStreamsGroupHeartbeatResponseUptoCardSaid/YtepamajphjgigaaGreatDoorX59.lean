/- StreamsGroupHeartbeatResponse is read and told. -/
import Derived.Test.YtepamajphjgigaaGreatDoorU6
import Derived.Test.YtepamajphjgigaaGreatDoorU8
import Derived.Test.YtepamajphjgigaaGreatDoorV59
import Derived.Test.YtepamajphjgigaaGreatDoorW59
import Derived.Test.YtepamajphjgigaaGreatDoorU9
import Derived.Test.YtepamajphjgigaaGreatDoorGversion
import Derived.Test.YtepamajphjgigaaGreatDoorP1
set_option linter.unusedVariables false
set_option linter.unusedSimpArgs false
namespace Go.Proofs.YtepamajphjgigaaGreatDoor.K
open Go
set_option maxHeartbeats 4000000
set_option maxRecDepth 100000

theorem tgStreamsGroupHeartbeatResponse : TellsT 36 := by
  intro w N bt T lv bv F u x hI hN hbt hu hk hx hxl
  obtain ⟨uv, ho, hT⟩ := hI
  obtain ⟨av, cv, rfl, _⟩ := hx.view
  obtain ⟨au, nu, cu, rfl⟩ := hT.one
  refine Does.go (X := X) (l := [_, _, _]) Tryz.func36 rfl (by kernel_rfl) (by kernel_rfl) _ rfl ?_
  ((conv=>whnf);repeat((first|refine mvT ?_|refine mvF ?_|refine yT ?_|refine yF ?_);conv=>whnf))
  refine VD.draw mixed (.q 0 (.q 1 (.q 2 (.q 3 (.eff 4 [1] (.q 5 (.eff 6 [1] (.eff 7 [] (.q 8 (.eff 9 [] (.done))))))))))) (by kernel_rfl) ?_;((conv=>whnf);repeat((first|refine mvT ?_|refine mvF ?_|refine yT ?_|refine yF ?_);conv=>whnf))
  have hxd : Ext nob w w.drew := ext_drew _
  refine ldS ((ho.e0 hxd).cell rfl) ?_;((conv=>whnf);repeat((first|refine mvT ?_|refine mvF ?_|refine yT ?_|refine yF ?_);conv=>whnf))
  refine app_bytes rfl rfl (OB.nil w.drew w.drew.heap.size) (hx.e0 hxd).src rfl (by simp only [List.length_nil]; omega) (Nat.le_refl _) ?_
  intro v3 w3 h3 hx3 _ _
  rw [List.nil_append] at h3
  have hx3 : Ext nob w w3 := hxd.e0 (hx3.mono fun k _ h => by simp [Value.ownBlock] at h)
  obtain ⟨a3, c3, rfl, _⟩ := h3.shape
  refine ⟨by (conv => whnf); exact ⟨⟨_, (ho.e0 hx3).cell rfl, rfl, rfl⟩, trivial⟩, ?_⟩
  ((conv=>whnf);repeat((first|refine mvT ?_|refine mvF ?_|refine yT ?_|refine yF ?_);conv=>whnf))
  intro b4 w4 hb4 ho4 hx4
  have ho4 : Own w4 b4 TGT [.int .u32 (x.1 : Int), .slice a3 x.2.length c3] := ho4
  have hx04 := hx3.e0 hx4
  refine ⟨by (conv => whnf); exact ⟨⟨_, (ho.e0 hx04).cell rfl, rfl, rfl⟩, trivial⟩, ?_⟩
  ((conv=>whnf);repeat((first|refine mvT ?_|refine mvF ?_|refine yT ?_|refine yF ?_);conv=>whnf))
  have hs3 := hx3.size
  have hown : ∀ k, (Value.slice au nu cu).ownBlock = some k → N ≤ k ∧ k < w.heap.size := fun k hk => by
    obtain ⟨ls, h1, _⟩ := hT
    exact ⟨h1.blk k hk, h1.own.lt k hk⟩
  have hwd : w.drew.heap.size = w.heap.size := rfl
  refine OTn.app (hT.ext hx04 fun _ _ _ f => f) rfl ho4 rfl rfl rfl hu (by decide) (Nat.le_trans hN hx04.size) hk ((h3.e0 hx4).bytes fun k hk => ⟨by omega, fun e => by have := hown k e; omega⟩) ?_
  intro v5 w5 hT5 hx5
  obtain ⟨a5, n5, c5, rfl⟩ := hT5.one
  have hob := (ho.e0 hx04).ext hx5 fun h => by have := hown bt h; omega
  ((conv=>whnf);repeat((first|refine mvT ?_|refine mvF ?_|refine yT ?_|refine yF ?_);conv=>whnf))
  refine st_cell (o := 4) (v := .slice a5 n5 c5) hob rfl (by omega) rfl (by simp) rfl ?_
  intro w6 ho6 hx6
  ((conv=>whnf);repeat((first|refine mvT ?_|refine mvF ?_|refine yT ?_|refine yF ?_);conv=>whnf))
  refine ⟨⟨_, ho6, hT5.ext hx6 fun k _ h1 h2 => by omega⟩, ?_⟩
  refine (hx04.mono fun _ _ f => f.elim).trans ((hx5.mono (M' := fun j => j = bt ∨ N ≤ j) fun k _ h => .inr (hown k h).1).trans hx6 fun k _ h => .inl h) fun _ _ h => h
theorem tellStreamsGroupHeartbeatResponse {w0 : World} {F : Nat → Prop} {q o : Nat} {cv0 : Value} {cs : List Value} {t : T} (hq : Cells w0 q o (cv0 :: cs)) (hQ : QPart true 9 dStreamsGroupHeartbeatResponse ⟨w0, F⟩ cs t) (hlim : LimT t) :
    Does X.P 21 #[.pointer (some ⟨q, o, none⟩)] w0 fun r w' => ∃ t', Nrm t t' ∧ Tr w' (fun k => w0.heap.size ≤ k) r t' ∧ Ext nob w0 w' := by
  obtain ⟨_, _, u_, m, rfl, rfl, hA0, hm⟩ := iP hQ
  clear hQ
  obtain ⟨cc0, _, x0, _, rfl, rfl, h0, hA1⟩ := iA hA0
  obtain ⟨n0, hn0, rfl, rfl⟩ : ∃ n, IntKind.i32.wrap n = n ∧ cc0 = [.int .i32 n] ∧ x0 = numT n := h0
  obtain ⟨cc1, _, x1, _, rfl, rfl, h1, hA2⟩ := iA hA1
  obtain ⟨n1, hn1, rfl, rfl⟩ : ∃ n, IntKind.i16.wrap n = n ∧ cc1 = [.int .i16 n] ∧ x1 = numT n := h1
  obtain ⟨cc2, _, x2, _, rfl, rfl, h2, hA3⟩ := iA hA2
  obtain ⟨c2, nl2, s2, rfl, hnl2, rfl, hc2⟩ : ∃ c nl u, cc2 = [c] ∧ (nl = true → u = []) ∧ x2 = .mk 0 u nl [] [] ∧ NTextR w0 F c x2 := h2
  obtain ⟨cc3, _, x3, _, rfl, rfl, h3, hA4⟩ := iA hA3
  obtain ⟨s3, rfl, rfl⟩ := iF8 (by decide) h3
  obtain ⟨cc4, _, x4, _, rfl, rfl, h4, hA5⟩ := iA hA4
  obtain ⟨n4, hn4, rfl, rfl⟩ : ∃ n, IntKind.i32.wrap n = n ∧ cc4 = [.int .i32 n] ∧ x4 = numT n := h4
  obtain ⟨cc5, _, x5, _, rfl, rfl, h5, hA6⟩ := iA hA5
  obtain ⟨n5, hn5, rfl, rfl⟩ : ∃ n, IntKind.i32.wrap n = n ∧ cc5 = [.int .i32 n] ∧ x5 = numT n := h5
  obtain ⟨cc6, _, x6, _, rfl, rfl, h6, hA7⟩ := iA hA6
  obtain ⟨n6, hn6, rfl, rfl⟩ : ∃ n, IntKind.i32.wrap n = n ∧ cc6 = [.int .i32 n] ∧ x6 = numT n := h6
  obtain ⟨cc7, _, x7, _, rfl, rfl, h7, hA8⟩ := iA hA7
  obtain ⟨n7, hn7, rfl, rfl⟩ : ∃ n, IntKind.i32.wrap n = n ∧ cc7 = [.int .i32 n] ∧ x7 = numT n := h7
  obtain ⟨cc8, _, x8, _, rfl, rfl, h8, hA9⟩ := iA hA8
  obtain ⟨n8, hn8, rfl, rfl⟩ : ∃ n, IntKind.i64.wrap n = n ∧ cc8 = [.int .i64 n] ∧ x8 = numT n := h8
  obtain ⟨cc9, _, x9, _, rfl, rfl, h9, hA10⟩ := iA hA9
  obtain ⟨c9, nl9, l9, rfl, hnl9, rfl, hc9⟩ : ∃ c nl l, cc9 = [c] ∧ (nl = true → l = []) ∧ x9 = .mk 0 [] nl l [] ∧ ListR true (elZ true 8 10 dStreamsGroupHeartbeatResponseStatus) (elQ true 8 10 dStreamsGroupHeartbeatResponseStatus ⟨w0, F⟩) w0 F c x9 := h9
  obtain ⟨cc10, _, x10, _, rfl, rfl, h10, hA11⟩ := iA hA10
  obtain ⟨c10, nl10, l10, rfl, hnl10, rfl, hc10⟩ : ∃ c nl l, cc10 = [c] ∧ (nl = true → l = []) ∧ x10 = .mk 0 [] nl l [] ∧ ListR true (elZ true 8 10 dTaskIDs) (elQ true 8 10 dTaskIDs ⟨w0, F⟩) w0 F c x10 := h10
  obtain ⟨cc11, _, x11, _, rfl, rfl, h11, hA12⟩ := iA hA11
  obtain ⟨c11, nl11, l11, rfl, hnl11, rfl, hc11⟩ : ∃ c nl l, cc11 = [c] ∧ (nl = true → l = []) ∧ x11 = .mk 0 [] nl l [] ∧ ListR true (elZ true 8 10 dTaskIDs) (elQ true 8 10 dTaskIDs ⟨w0, F⟩) w0 F c x11 := h11
  obtain ⟨cc12, _, x12, _, rfl, rfl, h12, hA13⟩ := iA hA12
  obtain ⟨c12, nl12, l12, rfl, hnl12, rfl, hc12⟩ : ∃ c nl l, cc12 = [c] ∧ (nl = true → l = []) ∧ x12 = .mk 0 [] nl l [] ∧ ListR true (elZ true 8 10 dTaskIDs) (elQ true 8 10 dTaskIDs ⟨w0, F⟩) w0 F c x12 := h12
  obtain ⟨cc13, _, x13, _, rfl, rfl, h13, hA14⟩ := iA hA13
  obtain ⟨bo13, rfl, rfl⟩ : ∃ b : Bool, cc13 = [.bool b] ∧ x13 = numT (if b = true then 1 else 0) := h13
  obtain ⟨cc14, _, x14, _, rfl, rfl, h14, hA15⟩ := iA hA14
  obtain ⟨n14, hn14, rfl, rfl⟩ : ∃ n, IntKind.i32.wrap n = n ∧ cc14 = [.int .i32 n] ∧ x14 = numT n := h14
  obtain ⟨cc15, _, x15, _, rfl, rfl, h15, hA16⟩ := iA hA15
  obtain ⟨c15, nl15, l15, rfl, hnl15, rfl, hc15⟩ : ∃ c nl l, cc15 = [c] ∧ (nl = true → l = []) ∧ x15 = .mk 0 [] nl l [] ∧ ListR true (elZ true 8 10 dStreamsGroupHeartbeatResponsePartitionsByUserEndpoint) (elQ true 8 10 dStreamsGroupHeartbeatResponsePartitionsByUserEndpoint ⟨w0, F⟩) w0 F c x15 := h15
  obtain ⟨rfl, rfl⟩ := hA16
  cases hlim
  rename_i hU hKU hDU hLs hu0 hs0 hd0
  have hq : Cells w0 q o [cv0, .int .i32 n0, .int .i16 n1, c2, str s3, .int .i32 n4, .int .i32 n5, .int .i32 n6, .int .i32 n7, .int .i64 n8, c9, c10, c11, c12, .bool bo13, .int .i32 n14, c15, m] := hq
  have hw0 : IntKind.i64.wrap n0 = n0 := by have := hLs (numT n0) (by simp); cases this; assumption
  have hw1 : IntKind.i64.wrap n1 = n1 := by have := hLs (numT n1) (by simp); cases this; assumption
  have hw4 : IntKind.i64.wrap n4 = n4 := by have := hLs (numT n4) (by simp); cases this; assumption
  have hw5 : IntKind.i64.wrap n5 = n5 := by have := hLs (numT n5) (by simp); cases this; assumption
  have hw6 : IntKind.i64.wrap n6 = n6 := by have := hLs (numT n6) (by simp); cases this; assumption
  have hw7 : IntKind.i64.wrap n7 = n7 := by have := hLs (numT n7) (by simp); cases this; assumption
  have hw8 : IntKind.i64.wrap n8 = n8 := by have := hLs (numT n8) (by simp); cases this; assumption
  obtain ⟨a9, k9, ls9, rfl, hk9, hll9, hnn9, hcl9, hrl9⟩ := hc9.view
  obtain ⟨a10, k10, ls10, rfl, hk10, hll10, hnn10, hcl10, hrl10⟩ := hc10.view
  obtain ⟨a11, k11, ls11, rfl, hk11, hll11, hnn11, hcl11, hrl11⟩ := hc11.view
  obtain ⟨a12, k12, ls12, rfl, hk12, hll12, hnn12, hcl12, hrl12⟩ := hc12.view
  have hw14 : IntKind.i64.wrap n14 = n14 := by have := hLs (numT n14) (by simp); cases this; assumption
  obtain ⟨a15, k15, ls15, rfl, hk15, hll15, hnn15, hcl15, hrl15⟩ := hc15.view
  refine Does.go (X := X) (l := [_]) Tryz.func21 rfl (by kernel_rfl) (by kernel_rfl) _ rfl ?_
  ((conv=>whnf);repeat((first|refine mvT ?_|refine mvF ?_|refine yT ?_|refine yF ?_);conv=>whnf))
  intro b2 w1 hb2 ho2 hx1
  ((conv=>whnf);repeat((first|refine mvT ?_|refine mvF ?_|refine yT ?_|refine yF ?_);conv=>whnf))
  refine ⟨⟨by decide, by decide, by decide, by decide⟩, ⟨by decide, rfl⟩, ?_⟩
  intro bl w2 hbl hol hx2
  ((conv=>whnf);repeat((first|refine mvT ?_|refine mvF ?_|refine yT ?_|refine yF ?_);conv=>whnf))
  intro bt w3 hbt hot hx3
  ((conv=>whnf);repeat((first|refine mvT ?_|refine mvF ?_|refine yT ?_|refine yF ?_);conv=>whnf))
  have hzz : w0.heap.size ≤ w1.heap.size := hx1.size
  have H := (((Sg.start w0).push hx1 ho2 hb2).push hx2 hol hbl).push hx3 hot hbt
  refine Sg.st (A := []) (o' := 0) (m := [.int .i64 0, .slice none 0 0, .bool false, .slice (some ⟨bl, 0, none⟩) 16 16, .slice none 0 0]) H rfl (Nat.le_of_ble_eq_true rfl) rfl ?_
  clear H hot hol ho2 hx1 hx2 hx3
  intro w H
  obtain ⟨Tt, Tl, T2, H⟩ : ∃ Tt Tl T2, Sg w0 [(bt, Tt, [.int .i64 0, .slice none 0 0, .bool false, .slice (some ⟨bl, 0, none⟩) 16 16, .slice none 0 0]), (bl, Tl, (.int .i64 0 :: .slice none 0 0 :: .bool false :: .slice none 0 0 :: .slice none 0 0 :: .int .i64 0 :: .slice none 0 0 :: .bool false :: .slice none 0 0 :: .slice none 0 0 :: .int .i64 0 :: .slice none 0 0 :: .bool false :: .slice none 0 0 :: .slice none 0 0 :: .int .i64 0 :: .slice none 0 0 :: .bool false :: .slice none 0 0 :: .slice none 0 0 :: .int .i64 0 :: .slice none 0 0 :: .bool false :: .slice none 0 0 :: .slice none 0 0 :: .int .i64 0 :: .slice none 0 0 :: .bool false :: .slice none 0 0 :: .slice none 0 0 :: .int .i64 0 :: .slice none 0 0 :: .bool false :: .slice none 0 0 :: .slice none 0 0 :: .int .i64 0 :: .slice none 0 0 :: .bool false :: .slice none 0 0 :: .slice none 0 0 :: .int .i64 0 :: .slice none 0 0 :: .bool false :: .slice none 0 0 :: .slice none 0 0 :: .int .i64 0 :: .slice none 0 0 :: .bool false :: .slice none 0 0 :: .slice none 0 0 :: .int .i64 0 :: .slice none 0 0 :: .bool false :: .slice none 0 0 :: .slice none 0 0 :: .int .i64 0 :: .slice none 0 0 :: .bool false :: .slice none 0 0 :: .slice none 0 0 :: .int .i64 0 :: .slice none 0 0 :: .bool false :: .slice none 0 0 :: .slice none 0 0 :: .int .i64 0 :: .slice none 0 0 :: .bool false :: .slice none 0 0 :: .slice none 0 0 :: .int .i64 0 :: .slice none 0 0 :: .bool false :: .slice none 0 0 :: .slice none 0 0 :: .int .i64 0 :: .slice none 0 0 :: .bool false :: .slice none 0 0 :: .slice none 0 0 :: [])), (b2, T2, [.int .i64 0, .slice none 0 0, .bool false, .slice none 0 0, .slice none 0 0])] (fun _ => True) w := ⟨_, _, _, H⟩
  have hb2w : w0.heap.size ≤ b2 := hb2
  have hblw : w0.heap.size ≤ bl := by omega
  have hbtw : w0.heap.size ≤ bt := by have := H.dis.1; exact this
  ((conv=>whnf);repeat((first|refine mvT ?_|refine mvF ?_|refine yT ?_|refine yF ?_);conv=>whnf))
  refine VD.draw mixed (.q 0 (.q 1 (.q 2 (.q 3 (.q 4 (.q 5 (.q 6 (.q 7 (.q 8 (.eff 9 [] (.done))))))))))) (by kernel_rfl) ?_;((conv=>whnf);repeat((first|refine mvT ?_|refine mvF ?_|refine yT ?_|refine yF ?_);conv=>whnf))
  replace H := H.e0 (ext_drew _)
  refine ldS ((Sg.at (A := []) H).cell rfl) ?_;((conv=>whnf);repeat((first|refine mvT ?_|refine mvF ?_|refine yT ?_|refine yF ?_);conv=>whnf))
  refine ⟨_, ld ((hq.e0 H.ext).cell (j := 1) rfl) (by simp), ?_⟩
  ((conv=>whnf);repeat((first|refine mvT ?_|refine mvF ?_|refine yT ?_|refine yF ?_);conv=>whnf))
  refine ⟨bl, 0, rfl, ⟨by omega, by omega⟩, ?_⟩
  ((conv=>whnf);repeat((first|refine mvT ?_|refine mvF ?_|refine yT ?_|refine yF ?_);conv=>whnf))
  refine Sg.st (A := [_]) (o' := 0) (m := [.int .i64 (IntKind.i64.wrap n0), .slice none 0 0, .bool false, .slice none 0 0, .slice none 0 0]) H rfl (Nat.le_of_ble_eq_true rfl) (rfl) ?_
  clear H
  intro w H
  rw [hw0] at H
  replace H : Sg w0 [(bt, Tt, [.int .i64 0, .slice none 0 0, .bool false, .slice (some ⟨bl, 0, none⟩) 16 16, .slice none 0 0]), (bl, Tl, (.int .i64 n0 :: .slice none 0 0 :: .bool false :: .slice none 0 0 :: .slice none 0 0 :: .int .i64 0 :: .slice none 0 0 :: .bool false :: .slice none 0 0 :: .slice none 0 0 :: .int .i64 0 :: .slice none 0 0 :: .bool false :: .slice none 0 0 :: .slice none 0 0 :: .int .i64 0 :: .slice none 0 0 :: .bool false :: .slice none 0 0 :: .slice none 0 0 :: .int .i64 0 :: .slice none 0 0 :: .bool false :: .slice none 0 0 :: .slice none 0 0 :: .int .i64 0 :: .slice none 0 0 :: .bool false :: .slice none 0 0 :: .slice none 0 0 :: .int .i64 0 :: .slice none 0 0 :: .bool false :: .slice none 0 0 :: .slice none 0 0 :: .int .i64 0 :: .slice none 0 0 :: .bool false :: .slice none 0 0 :: .slice none 0 0 :: .int .i64 0 :: .slice none 0 0 :: .bool false :: .slice none 0 0 :: .slice none 0 0 :: .int .i64 0 :: .slice none 0 0 :: .bool false :: .slice none 0 0 :: .slice none 0 0 :: .int .i64 0 :: .slice none 0 0 :: .bool false :: .slice none 0 0 :: .slice none 0 0 :: .int .i64 0 :: .slice none 0 0 :: .bool false :: .slice none 0 0 :: .slice none 0 0 :: .int .i64 0 :: .slice none 0 0 :: .bool false :: .slice none 0 0 :: .slice none 0 0 :: .int .i64 0 :: .slice none 0 0 :: .bool false :: .slice none 0 0 :: .slice none 0 0 :: .int .i64 0 :: .slice none 0 0 :: .bool false :: .slice none 0 0 :: .slice none 0 0 :: .int .i64 0 :: .slice none 0 0 :: .bool false :: .slice none 0 0 :: .slice none 0 0 :: [])), (b2, T2, [.int .i64 0, .slice none 0 0, .bool false, .slice none 0 0, .slice none 0 0])] (fun _ => True) w := H
  ((conv=>whnf);repeat((first|refine mvT ?_|refine mvF ?_|refine yT ?_|refine yF ?_);conv=>whnf))
  refine VD.draw mixed (.q 0 (.q 1 (.q 2 (.q 3 (.q 4 (.q 5 (.q 6 (.q 7 (.q 8 (.eff 9 [] (.done))))))))))) (by kernel_rfl) ?_;((conv=>whnf);repeat((first|refine mvT ?_|refine mvF ?_|refine yT ?_|refine yF ?_);conv=>whnf))
  replace H := H.e0 (ext_drew _)
  refine ldS ((Sg.at (A := []) H).cell rfl) ?_;((conv=>whnf);repeat((first|refine mvT ?_|refine mvF ?_|refine yT ?_|refine yF ?_);conv=>whnf))
  refine ⟨_, ld ((hq.e0 H.ext).cell (j := 2) rfl) (by simp), ?_⟩
  ((conv=>whnf);repeat((first|refine mvT ?_|refine mvF ?_|refine yT ?_|refine yF ?_);conv=>whnf))
  refine ⟨bl, 0, rfl, ⟨by omega, by omega⟩, ?_⟩
  ((conv=>whnf);repeat((first|refine mvT ?_|refine mvF ?_|refine yT ?_|refine yF ?_);conv=>whnf))
  refine Sg.st (A := [_]) (o' := 5) (m := [.int .i64 (IntKind.i64.wrap n1), .slice none 0 0, .bool false, .slice none 0 0, .slice none 0 0]) H rfl (Nat.le_of_ble_eq_true rfl) (rfl) ?_
  clear H
  intro w H
  rw [hw1] at H
  replace H : Sg w0 [(bt, Tt, [.int .i64 0, .slice none 0 0, .bool false, .slice (some ⟨bl, 0, none⟩) 16 16, .slice none 0 0]), (bl, Tl, (.int .i64 n0 :: .slice none 0 0 :: .bool false :: .slice none 0 0 :: .slice none 0 0 :: .int .i64 n1 :: .slice none 0 0 :: .bool false :: .slice none 0 0 :: .slice none 0 0 :: .int .i64 0 :: .slice none 0 0 :: .bool false :: .slice none 0 0 :: .slice none 0 0 :: .int .i64 0 :: .slice none 0 0 :: .bool false :: .slice none 0 0 :: .slice none 0 0 :: .int .i64 0 :: .slice none 0 0 :: .bool false :: .slice none 0 0 :: .slice none 0 0 :: .int .i64 0 :: .slice none 0 0 :: .bool false :: .slice none 0 0 :: .slice none 0 0 :: .int .i64 0 :: .slice none 0 0 :: .bool false :: .slice none 0 0 :: .slice none 0 0 :: .int .i64 0 :: .slice none 0 0 :: .bool false :: .slice none 0 0 :: .slice none 0 0 :: .int .i64 0 :: .slice none 0 0 :: .bool false :: .slice none 0 0 :: .slice none 0 0 :: .int .i64 0 :: .slice none 0 0 :: .bool false :: .slice none 0 0 :: .slice none 0 0 :: .int .i64 0 :: .slice none 0 0 :: .bool false :: .slice none 0 0 :: .slice none 0 0 :: .int .i64 0 :: .slice none 0 0 :: .bool false :: .slice none 0 0 :: .slice none 0 0 :: .int .i64 0 :: .slice none 0 0 :: .bool false :: .slice none 0 0 :: .slice none 0 0 :: .int .i64 0 :: .slice none 0 0 :: .bool false :: .slice none 0 0 :: .slice none 0 0 :: .int .i64 0 :: .slice none 0 0 :: .bool false :: .slice none 0 0 :: .slice none 0 0 :: .int .i64 0 :: .slice none 0 0 :: .bool false :: .slice none 0 0 :: .slice none 0 0 :: [])), (b2, T2, [.int .i64 0, .slice none 0 0, .bool false, .slice none 0 0, .slice none 0 0])] (fun _ => True) w := H
  ((conv=>whnf);repeat((first|refine mvT ?_|refine mvF ?_|refine yT ?_|refine yF ?_);conv=>whnf))
  refine VD.draw mixed (.q 0 (.q 1 (.q 2 (.q 3 (.q 4 (.q 5 (.eff 6 [1] (.q 7 (.eff 8 [] (.done)))))))))) (by kernel_rfl) ?_;((conv=>whnf);repeat((first|refine mvT ?_|refine mvF ?_|refine yT ?_|refine yF ?_);conv=>whnf))
  replace H := H.e0 (ext_drew _)
  refine ldS ((Sg.at (A := []) H).cell rfl) ?_;((conv=>whnf);repeat((first|refine mvT ?_|refine mvF ?_|refine yT ?_|refine yF ?_);conv=>whnf))
  refine ⟨_, ld ((hq.e0 H.ext).cell (j := 3) rfl) (by simp), ?_⟩
  ((conv=>whnf);repeat((first|refine mvT ?_|refine mvF ?_|refine yT ?_|refine yF ?_);conv=>whnf))
  refine Does.mono (textTree_does (F := F) (hc2.ext H.ext fun _ _ _ f => f) hnl2 (by have := hLs (.mk 0 s2 nl2 [] []) (by simp); cases this; rw [maxLen_eq]; omega)) ?_
  rintro rr2 wr2 ⟨⟨cr2, rfl, hr2⟩, hxr2⟩
  obtain ⟨nv2, sv2, nm2, lv2, uv2, rfl⟩ : ∃ n sv nl lv uv, cr2 = [.int .i64 n, sv, .bool nl, lv, uv] := by cases hr2; exact ⟨_, _, _, _, _, rfl⟩
  have H := H.keepN (H.e0 hxr2) (trL [.int .i64 nv2, sv2, .bool nm2, lv2, uv2] (.mk 0 s2 nl2 [] [])) (F := fun k => _ ≤ k) hr2 fun k h => h
  refine ⟨by (conv => whnf); exact ⟨⟨_, (Sg.at (A := []) H).cell rfl, rfl, rfl⟩, trivial⟩, ?_⟩
  ((conv=>whnf);repeat((first|refine mvT ?_|refine mvF ?_|refine yT ?_|refine yF ?_);conv=>whnf))
  refine ⟨bl, 0, rfl, ⟨by omega, by omega⟩, ?_⟩
  ((conv=>whnf);repeat((first|refine mvT ?_|refine mvF ?_|refine yT ?_|refine yF ?_);conv=>whnf))
  refine Sg.st (A := [_]) (o' := 10) (m := [.int .i64 nv2, sv2, .bool nm2, lv2, uv2]) H rfl (Nat.le_of_ble_eq_true rfl) (hr2.ok) ?_
  clear H
  intro w H
  obtain ⟨P2, hP2⟩ : ∃ P : World → Prop, P = fun w => TrC w (fun k => w0.heap.size ≤ k) [.int .i64 nv2, sv2, .bool nm2, lv2, uv2] (.mk 0 s2 nl2 [] []) ∧ True := ⟨_, rfl⟩
  replace H : Sg w0 [(bt, Tt, [.int .i64 0, .slice none 0 0, .bool false, .slice (some ⟨bl, 0, none⟩) 16 16, .slice none 0 0]), (bl, Tl, (.int .i64 n0 :: .slice none 0 0 :: .bool false :: .slice none 0 0 :: .slice none 0 0 :: .int .i64 n1 :: .slice none 0 0 :: .bool false :: .slice none 0 0 :: .slice none 0 0 :: .int .i64 nv2 :: sv2 :: .bool nm2 :: lv2 :: uv2 :: .int .i64 0 :: .slice none 0 0 :: .bool false :: .slice none 0 0 :: .slice none 0 0 :: .int .i64 0 :: .slice none 0 0 :: .bool false :: .slice none 0 0 :: .slice none 0 0 :: .int .i64 0 :: .slice none 0 0 :: .bool false :: .slice none 0 0 :: .slice none 0 0 :: .int .i64 0 :: .slice none 0 0 :: .bool false :: .slice none 0 0 :: .slice none 0 0 :: .int .i64 0 :: .slice none 0 0 :: .bool false :: .slice none 0 0 :: .slice none 0 0 :: .int .i64 0 :: .slice none 0 0 :: .bool false :: .slice none 0 0 :: .slice none 0 0 :: .int .i64 0 :: .slice none 0 0 :: .bool false :: .slice none 0 0 :: .slice none 0 0 :: .int .i64 0 :: .slice none 0 0 :: .bool false :: .slice none 0 0 :: .slice none 0 0 :: .int .i64 0 :: .slice none 0 0 :: .bool false :: .slice none 0 0 :: .slice none 0 0 :: .int .i64 0 :: .slice none 0 0 :: .bool false :: .slice none 0 0 :: .slice none 0 0 :: .int .i64 0 :: .slice none 0 0 :: .bool false :: .slice none 0 0 :: .slice none 0 0 :: .int .i64 0 :: .slice none 0 0 :: .bool false :: .slice none 0 0 :: .slice none 0 0 :: .int .i64 0 :: .slice none 0 0 :: .bool false :: .slice none 0 0 :: .slice none 0 0 :: [])), (b2, T2, [.int .i64 0, .slice none 0 0, .bool false, .slice none 0 0, .slice none 0 0])] P2 w := by rw [hP2]; exact H
  ((conv=>whnf);repeat((first|refine mvT ?_|refine mvF ?_|refine yT ?_|refine yF ?_);conv=>whnf))
  refine VD.draw mixed (.q 0 (.q 1 (.q 2 (.q 3 (.q 4 (.q 5 (.eff 6 [1] (.q 7 (.q 8 (.eff 9 [] (.done))))))))))) (by kernel_rfl) ?_;((conv=>whnf);repeat((first|refine mvT ?_|refine mvF ?_|refine yT ?_|refine yF ?_);conv=>whnf))
  replace H := H.e0 (ext_drew _)
  refine ldS ((Sg.at (A := []) H).cell rfl) ?_;((conv=>whnf);repeat((first|refine mvT ?_|refine mvF ?_|refine yT ?_|refine yF ?_);conv=>whnf))
  refine ⟨_, ld ((hq.e0 H.ext).cell (j := 4) rfl) (by simp), ?_⟩
  ((conv=>whnf);repeat((first|refine mvT ?_|refine mvF ?_|refine yT ?_|refine yF ?_);conv=>whnf))
  refine ⟨by show s3.length ≤ maxLen; have := hLs (.mk 0 s3 false [] []) (by simp); cases this; rw [maxLen_eq]; omega, ?_⟩
  intro bb3 cb3 wb3 hbb3 hbl3 hC3 hcp3 hxb3
  have hC3 : Cells wb3 bb3 0 (s3.map bcell) := hC3
  have hcp3 : s3.length ≤ cb3 ∧ cb3 ≤ maxLen := hcp3
  have H := H.keepN (H.e0 hxb3) (trL [.int .i64 0, .slice (some ⟨bb3, 0, none⟩) s3.length cb3, .bool false, .slice none 0 0, .slice none 0 0] (.mk 0 s3 false [] [])) (F := fun k => _ ≤ k) (TrC.leaf rfl (conv_bytes hbb3 hbl3 hC3 hcp3)) fun k h => h
  refine ⟨by (conv => whnf); exact ⟨⟨_, (Sg.at (A := []) H).cell rfl, rfl, rfl⟩, trivial⟩, ?_⟩
  ((conv=>whnf);repeat((first|refine mvT ?_|refine mvF ?_|refine yT ?_|refine yF ?_);conv=>whnf))
  refine ⟨bl, 0, rfl, ⟨by omega, by omega⟩, ?_⟩
  ((conv=>whnf);repeat((first|refine mvT ?_|refine mvF ?_|refine yT ?_|refine yF ?_);conv=>whnf))
  refine Sg.st (A := [_]) (o' := 15) (m := [.int .i64 0, .slice (some ⟨bb3, 0, none⟩) s3.length cb3, .bool false, .slice none 0 0, .slice none 0 0]) H rfl (Nat.le_of_ble_eq_true rfl) (rfl) ?_
  clear H
  intro w H
  obtain ⟨P3, hP3⟩ : ∃ P : World → Prop, P = fun w => TrC w (fun k => w0.heap.size ≤ k) [.int .i64 0, .slice (some ⟨bb3, 0, none⟩) s3.length cb3, .bool false, .slice none 0 0, .slice none 0 0] (.mk 0 s3 false [] []) ∧ P2 w := ⟨_, rfl⟩
  replace H : Sg w0 [(bt, Tt, [.int .i64 0, .slice none 0 0, .bool false, .slice (some ⟨bl, 0, none⟩) 16 16, .slice none 0 0]), (bl, Tl, (.int .i64 n0 :: .slice none 0 0 :: .bool false :: .slice none 0 0 :: .slice none 0 0 :: .int .i64 n1 :: .slice none 0 0 :: .bool false :: .slice none 0 0 :: .slice none 0 0 :: .int .i64 nv2 :: sv2 :: .bool nm2 :: lv2 :: uv2 :: .int .i64 0 :: .slice (some ⟨bb3, 0, none⟩) s3.length cb3 :: .bool false :: .slice none 0 0 :: .slice none 0 0 :: .int .i64 0 :: .slice none 0 0 :: .bool false :: .slice none 0 0 :: .slice none 0 0 :: .int .i64 0 :: .slice none 0 0 :: .bool false :: .slice none 0 0 :: .slice none 0 0 :: .int .i64 0 :: .slice none 0 0 :: .bool false :: .slice none 0 0 :: .slice none 0 0 :: .int .i64 0 :: .slice none 0 0 :: .bool false :: .slice none 0 0 :: .slice none 0 0 :: .int .i64 0 :: .slice none 0 0 :: .bool false :: .slice none 0 0 :: .slice none 0 0 :: .int .i64 0 :: .slice none 0 0 :: .bool false :: .slice none 0 0 :: .slice none 0 0 :: .int .i64 0 :: .slice none 0 0 :: .bool false :: .slice none 0 0 :: .slice none 0 0 :: .int .i64 0 :: .slice none 0 0 :: .bool false :: .slice none 0 0 :: .slice none 0 0 :: .int .i64 0 :: .slice none 0 0 :: .bool false :: .slice none 0 0 :: .slice none 0 0 :: .int .i64 0 :: .slice none 0 0 :: .bool false :: .slice none 0 0 :: .slice none 0 0 :: .int .i64 0 :: .slice none 0 0 :: .bool false :: .slice none 0 0 :: .slice none 0 0 :: .int .i64 0 :: .slice none 0 0 :: .bool false :: .slice none 0 0 :: .slice none 0 0 :: [])), (b2, T2, [.int .i64 0, .slice none 0 0, .bool false, .slice none 0 0, .slice none 0 0])] P3 w := by rw [hP3]; exact H
  ((conv=>whnf);repeat((first|refine mvT ?_|refine mvF ?_|refine yT ?_|refine yF ?_);conv=>whnf))
  refine VD.draw mixed (.q 0 (.q 1 (.q 2 (.q 3 (.q 4 (.q 5 (.q 6 (.q 7 (.q 8 (.eff 9 [] (.done))))))))))) (by kernel_rfl) ?_;((conv=>whnf);repeat((first|refine mvT ?_|refine mvF ?_|refine yT ?_|refine yF ?_);conv=>whnf))
  replace H := H.e0 (ext_drew _)
  refine ldS ((Sg.at (A := []) H).cell rfl) ?_;((conv=>whnf);repeat((first|refine mvT ?_|refine mvF ?_|refine yT ?_|refine yF ?_);conv=>whnf))
  refine ⟨_, ld ((hq.e0 H.ext).cell (j := 5) rfl) (by simp), ?_⟩
  ((conv=>whnf);repeat((first|refine mvT ?_|refine mvF ?_|refine yT ?_|refine yF ?_);conv=>whnf))
  refine ⟨bl, 0, rfl, ⟨by omega, by omega⟩, ?_⟩
  ((conv=>whnf);repeat((first|refine mvT ?_|refine mvF ?_|refine yT ?_|refine yF ?_);conv=>whnf))
  refine Sg.st (A := [_]) (o' := 20) (m := [.int .i64 (IntKind.i64.wrap n4), .slice none 0 0, .bool false, .slice none 0 0, .slice none 0 0]) H rfl (Nat.le_of_ble_eq_true rfl) (rfl) ?_
  clear H
  intro w H
  rw [hw4] at H
  replace H : Sg w0 [(bt, Tt, [.int .i64 0, .slice none 0 0, .bool false, .slice (some ⟨bl, 0, none⟩) 16 16, .slice none 0 0]), (bl, Tl, (.int .i64 n0 :: .slice none 0 0 :: .bool false :: .slice none 0 0 :: .slice none 0 0 :: .int .i64 n1 :: .slice none 0 0 :: .bool false :: .slice none 0 0 :: .slice none 0 0 :: .int .i64 nv2 :: sv2 :: .bool nm2 :: lv2 :: uv2 :: .int .i64 0 :: .slice (some ⟨bb3, 0, none⟩) s3.length cb3 :: .bool false :: .slice none 0 0 :: .slice none 0 0 :: .int .i64 n4 :: .slice none 0 0 :: .bool false :: .slice none 0 0 :: .slice none 0 0 :: .int .i64 0 :: .slice none 0 0 :: .bool false :: .slice none 0 0 :: .slice none 0 0 :: .int .i64 0 :: .slice none 0 0 :: .bool false :: .slice none 0 0 :: .slice none 0 0 :: .int .i64 0 :: .slice none 0 0 :: .bool false :: .slice none 0 0 :: .slice none 0 0 :: .int .i64 0 :: .slice none 0 0 :: .bool false :: .slice none 0 0 :: .slice none 0 0 :: .int .i64 0 :: .slice none 0 0 :: .bool false :: .slice none 0 0 :: .slice none 0 0 :: .int .i64 0 :: .slice none 0 0 :: .bool false :: .slice none 0 0 :: .slice none 0 0 :: .int .i64 0 :: .slice none 0 0 :: .bool false :: .slice none 0 0 :: .slice none 0 0 :: .int .i64 0 :: .slice none 0 0 :: .bool false :: .slice none 0 0 :: .slice none 0 0 :: .int .i64 0 :: .slice none 0 0 :: .bool false :: .slice none 0 0 :: .slice none 0 0 :: .int .i64 0 :: .slice none 0 0 :: .bool false :: .slice none 0 0 :: .slice none 0 0 :: .int .i64 0 :: .slice none 0 0 :: .bool false :: .slice none 0 0 :: .slice none 0 0 :: [])), (b2, T2, [.int .i64 0, .slice none 0 0, .bool false, .slice none 0 0, .slice none 0 0])] P3 w := H
  ((conv=>whnf);repeat((first|refine mvT ?_|refine mvF ?_|refine yT ?_|refine yF ?_);conv=>whnf))
  refine VD.draw mixed (.q 0 (.q 1 (.q 2 (.q 3 (.q 4 (.q 5 (.q 6 (.q 7 (.q 8 (.eff 9 [] (.done))))))))))) (by kernel_rfl) ?_;((conv=>whnf);repeat((first|refine mvT ?_|refine mvF ?_|refine yT ?_|refine yF ?_);conv=>whnf))
  replace H := H.e0 (ext_drew _)
  refine ldS ((Sg.at (A := []) H).cell rfl) ?_;((conv=>whnf);repeat((first|refine mvT ?_|refine mvF ?_|refine yT ?_|refine yF ?_);conv=>whnf))
  refine ⟨_, ld ((hq.e0 H.ext).cell (j := 6) rfl) (by simp), ?_⟩
  ((conv=>whnf);repeat((first|refine mvT ?_|refine mvF ?_|refine yT ?_|refine yF ?_);conv=>whnf))
  refine ⟨bl, 0, rfl, ⟨by omega, by omega⟩, ?_⟩
  ((conv=>whnf);repeat((first|refine mvT ?_|refine mvF ?_|refine yT ?_|refine yF ?_);conv=>whnf))
  refine Sg.st (A := [_]) (o' := 25) (m := [.int .i64 (IntKind.i64.wrap n5), .slice none 0 0, .bool false, .slice none 0 0, .slice none 0 0]) H rfl (Nat.le_of_ble_eq_true rfl) (rfl) ?_
  clear H
  intro w H
  rw [hw5] at H
  replace H : Sg w0 [(bt, Tt, [.int .i64 0, .slice none 0 0, .bool false, .slice (some ⟨bl, 0, none⟩) 16 16, .slice none 0 0]), (bl, Tl, (.int .i64 n0 :: .slice none 0 0 :: .bool false :: .slice none 0 0 :: .slice none 0 0 :: .int .i64 n1 :: .slice none 0 0 :: .bool false :: .slice none 0 0 :: .slice none 0 0 :: .int .i64 nv2 :: sv2 :: .bool nm2 :: lv2 :: uv2 :: .int .i64 0 :: .slice (some ⟨bb3, 0, none⟩) s3.length cb3 :: .bool false :: .slice none 0 0 :: .slice none 0 0 :: .int .i64 n4 :: .slice none 0 0 :: .bool false :: .slice none 0 0 :: .slice none 0 0 :: .int .i64 n5 :: .slice none 0 0 :: .bool false :: .slice none 0 0 :: .slice none 0 0 :: .int .i64 0 :: .slice none 0 0 :: .bool false :: .slice none 0 0 :: .slice none 0 0 :: .int .i64 0 :: .slice none 0 0 :: .bool false :: .slice none 0 0 :: .slice none 0 0 :: .int .i64 0 :: .slice none 0 0 :: .bool false :: .slice none 0 0 :: .slice none 0 0 :: .int .i64 0 :: .slice none 0 0 :: .bool false :: .slice none 0 0 :: .slice none 0 0 :: .int .i64 0 :: .slice none 0 0 :: .bool false :: .slice none 0 0 :: .slice none 0 0 :: .int .i64 0 :: .slice none 0 0 :: .bool false :: .slice none 0 0 :: .slice none 0 0 :: .int .i64 0 :: .slice none 0 0 :: .bool false :: .slice none 0 0 :: .slice none 0 0 :: .int .i64 0 :: .slice none 0 0 :: .bool false :: .slice none 0 0 :: .slice none 0 0 :: .int .i64 0 :: .slice none 0 0 :: .bool false :: .slice none 0 0 :: .slice none 0 0 :: .int .i64 0 :: .slice none 0 0 :: .bool false :: .slice none 0 0 :: .slice none 0 0 :: [])), (b2, T2, [.int .i64 0, .slice none 0 0, .bool false, .slice none 0 0, .slice none 0 0])] P3 w := H
  ((conv=>whnf);repeat((first|refine mvT ?_|refine mvF ?_|refine yT ?_|refine yF ?_);conv=>whnf))
  refine VD.draw mixed (.q 0 (.q 1 (.q 2 (.q 3 (.q 4 (.q 5 (.q 6 (.q 7 (.q 8 (.eff 9 [] (.done))))))))))) (by kernel_rfl) ?_;((conv=>whnf);repeat((first|refine mvT ?_|refine mvF ?_|refine yT ?_|refine yF ?_);conv=>whnf))
  replace H := H.e0 (ext_drew _)
  refine ldS ((Sg.at (A := []) H).cell rfl) ?_;((conv=>whnf);repeat((first|refine mvT ?_|refine mvF ?_|refine yT ?_|refine yF ?_);conv=>whnf))
  refine ⟨_, ld ((hq.e0 H.ext).cell (j := 7) rfl) (by simp), ?_⟩
  ((conv=>whnf);repeat((first|refine mvT ?_|refine mvF ?_|refine yT ?_|refine yF ?_);conv=>whnf))
  refine ⟨bl, 0, rfl, ⟨by omega, by omega⟩, ?_⟩
  ((conv=>whnf);repeat((first|refine mvT ?_|refine mvF ?_|refine yT ?_|refine yF ?_);conv=>whnf))
  refine Sg.st (A := [_]) (o' := 30) (m := [.int .i64 (IntKind.i64.wrap n6), .slice none 0 0, .bool false, .slice none 0 0, .slice none 0 0]) H rfl (Nat.le_of_ble_eq_true rfl) (rfl) ?_
  clear H
  intro w H
  rw [hw6] at H
  replace H : Sg w0 [(bt, Tt, [.int .i64 0, .slice none 0 0, .bool false, .slice (some ⟨bl, 0, none⟩) 16 16, .slice none 0 0]), (bl, Tl, (.int .i64 n0 :: .slice none 0 0 :: .bool false :: .slice none 0 0 :: .slice none 0 0 :: .int .i64 n1 :: .slice none 0 0 :: .bool false :: .slice none 0 0 :: .slice none 0 0 :: .int .i64 nv2 :: sv2 :: .bool nm2 :: lv2 :: uv2 :: .int .i64 0 :: .slice (some ⟨bb3, 0, none⟩) s3.length cb3 :: .bool false :: .slice none 0 0 :: .slice none 0 0 :: .int .i64 n4 :: .slice none 0 0 :: .bool false :: .slice none 0 0 :: .slice none 0 0 :: .int .i64 n5 :: .slice none 0 0 :: .bool false :: .slice none 0 0 :: .slice none 0 0 :: .int .i64 n6 :: .slice none 0 0 :: .bool false :: .slice none 0 0 :: .slice none 0 0 :: .int .i64 0 :: .slice none 0 0 :: .bool false :: .slice none 0 0 :: .slice none 0 0 :: .int .i64 0 :: .slice none 0 0 :: .bool false :: .slice none 0 0 :: .slice none 0 0 :: .int .i64 0 :: .slice none 0 0 :: .bool false :: .slice none 0 0 :: .slice none 0 0 :: .int .i64 0 :: .slice none 0 0 :: .bool false :: .slice none 0 0 :: .slice none 0 0 :: .int .i64 0 :: .slice none 0 0 :: .bool false :: .slice none 0 0 :: .slice none 0 0 :: .int .i64 0 :: .slice none 0 0 :: .bool false :: .slice none 0 0 :: .slice none 0 0 :: .int .i64 0 :: .slice none 0 0 :: .bool false :: .slice none 0 0 :: .slice none 0 0 :: .int .i64 0 :: .slice none 0 0 :: .bool false :: .slice none 0 0 :: .slice none 0 0 :: .int .i64 0 :: .slice none 0 0 :: .bool false :: .slice none 0 0 :: .slice none 0 0 :: [])), (b2, T2, [.int .i64 0, .slice none 0 0, .bool false, .slice none 0 0, .slice none 0 0])] P3 w := H
  ((conv=>whnf);repeat((first|refine mvT ?_|refine mvF ?_|refine yT ?_|refine yF ?_);conv=>whnf))
  refine VD.draw mixed (.q 0 (.q 1 (.q 2 (.q 3 (.q 4 (.q 5 (.q 6 (.q 7 (.q 8 (.eff 9 [] (.done))))))))))) (by kernel_rfl) ?_;((conv=>whnf);repeat((first|refine mvT ?_|refine mvF ?_|refine yT ?_|refine yF ?_);conv=>whnf))
  replace H := H.e0 (ext_drew _)
  refine ldS ((Sg.at (A := []) H).cell rfl) ?_;((conv=>whnf);repeat((first|refine mvT ?_|refine mvF ?_|refine yT ?_|refine yF ?_);conv=>whnf))
  refine ⟨_, ld ((hq.e0 H.ext).cell (j := 8) rfl) (by simp), ?_⟩
  ((conv=>whnf);repeat((first|refine mvT ?_|refine mvF ?_|refine yT ?_|refine yF ?_);conv=>whnf))
  refine ⟨bl, 0, rfl, ⟨by omega, by omega⟩, ?_⟩
  ((conv=>whnf);repeat((first|refine mvT ?_|refine mvF ?_|refine yT ?_|refine yF ?_);conv=>whnf))
  refine Sg.st (A := [_]) (o' := 35) (m := [.int .i64 (IntKind.i64.wrap n7), .slice none 0 0, .bool false, .slice none 0 0, .slice none 0 0]) H rfl (Nat.le_of_ble_eq_true rfl) (rfl) ?_
  clear H
  intro w H
  rw [hw7] at H
  replace H : Sg w0 [(bt, Tt, [.int .i64 0, .slice none 0 0, .bool false, .slice (some ⟨bl, 0, none⟩) 16 16, .slice none 0 0]), (bl, Tl, (.int .i64 n0 :: .slice none 0 0 :: .bool false :: .slice none 0 0 :: .slice none 0 0 :: .int .i64 n1 :: .slice none 0 0 :: .bool false :: .slice none 0 0 :: .slice none 0 0 :: .int .i64 nv2 :: sv2 :: .bool nm2 :: lv2 :: uv2 :: .int .i64 0 :: .slice (some ⟨bb3, 0, none⟩) s3.length cb3 :: .bool false :: .slice none 0 0 :: .slice none 0 0 :: .int .i64 n4 :: .slice none 0 0 :: .bool false :: .slice none 0 0 :: .slice none 0 0 :: .int .i64 n5 :: .slice none 0 0 :: .bool false :: .slice none 0 0 :: .slice none 0 0 :: .int .i64 n6 :: .slice none 0 0 :: .bool false :: .slice none 0 0 :: .slice none 0 0 :: .int .i64 n7 :: .slice none 0 0 :: .bool false :: .slice none 0 0 :: .slice none 0 0 :: .int .i64 0 :: .slice none 0 0 :: .bool false :: .slice none 0 0 :: .slice none 0 0 :: .int .i64 0 :: .slice none 0 0 :: .bool false :: .slice none 0 0 :: .slice none 0 0 :: .int .i64 0 :: .slice none 0 0 :: .bool false :: .slice none 0 0 :: .slice none 0 0 :: .int .i64 0 :: .slice none 0 0 :: .bool false :: .slice none 0 0 :: .slice none 0 0 :: .int .i64 0 :: .slice none 0 0 :: .bool false :: .slice none 0 0 :: .slice none 0 0 :: .int .i64 0 :: .slice none 0 0 :: .bool false :: .slice none 0 0 :: .slice none 0 0 :: .int .i64 0 :: .slice none 0 0 :: .bool false :: .slice none 0 0 :: .slice none 0 0 :: .int .i64 0 :: .slice none 0 0 :: .bool false :: .slice none 0 0 :: .slice none 0 0 :: [])), (b2, T2, [.int .i64 0, .slice none 0 0, .bool false, .slice none 0 0, .slice none 0 0])] P3 w := H
  ((conv=>whnf);repeat((first|refine mvT ?_|refine mvF ?_|refine yT ?_|refine yF ?_);conv=>whnf))
  refine VD.draw mixed (.q 0 (.q 1 (.q 2 (.q 3 (.q 4 (.q 5 (.q 6 (.q 7 (.eff 8 [] (.done)))))))))) (by kernel_rfl) ?_;((conv=>whnf);repeat((first|refine mvT ?_|refine mvF ?_|refine yT ?_|refine yF ?_);conv=>whnf))
  replace H := H.e0 (ext_drew _)
  refine ldS ((Sg.at (A := []) H).cell rfl) ?_;((conv=>whnf);repeat((first|refine mvT ?_|refine mvF ?_|refine yT ?_|refine yF ?_);conv=>whnf))
  refine ⟨_, ld ((hq.e0 H.ext).cell (j := 9) rfl) (by simp), ?_⟩
  ((conv=>whnf);repeat((first|refine mvT ?_|refine mvF ?_|refine yT ?_|refine yF ?_);conv=>whnf))
  refine ⟨bl, 0, rfl, ⟨by omega, by omega⟩, ?_⟩
  ((conv=>whnf);repeat((first|refine mvT ?_|refine mvF ?_|refine yT ?_|refine yF ?_);conv=>whnf))
  refine Sg.st (A := [_]) (o' := 40) (m := [.int .i64 n8, .slice none 0 0, .bool false, .slice none 0 0, .slice none 0 0]) H rfl (Nat.le_of_ble_eq_true rfl) (rfl) ?_
  clear H
  intro w H
  replace H : Sg w0 [(bt, Tt, [.int .i64 0, .slice none 0 0, .bool false, .slice (some ⟨bl, 0, none⟩) 16 16, .slice none 0 0]), (bl, Tl, (.int .i64 n0 :: .slice none 0 0 :: .bool false :: .slice none 0 0 :: .slice none 0 0 :: .int .i64 n1 :: .slice none 0 0 :: .bool false :: .slice none 0 0 :: .slice none 0 0 :: .int .i64 nv2 :: sv2 :: .bool nm2 :: lv2 :: uv2 :: .int .i64 0 :: .slice (some ⟨bb3, 0, none⟩) s3.length cb3 :: .bool false :: .slice none 0 0 :: .slice none 0 0 :: .int .i64 n4 :: .slice none 0 0 :: .bool false :: .slice none 0 0 :: .slice none 0 0 :: .int .i64 n5 :: .slice none 0 0 :: .bool false :: .slice none 0 0 :: .slice none 0 0 :: .int .i64 n6 :: .slice none 0 0 :: .bool false :: .slice none 0 0 :: .slice none 0 0 :: .int .i64 n7 :: .slice none 0 0 :: .bool false :: .slice none 0 0 :: .slice none 0 0 :: .int .i64 n8 :: .slice none 0 0 :: .bool false :: .slice none 0 0 :: .slice none 0 0 :: .int .i64 0 :: .slice none 0 0 :: .bool false :: .slice none 0 0 :: .slice none 0 0 :: .int .i64 0 :: .slice none 0 0 :: .bool false :: .slice none 0 0 :: .slice none 0 0 :: .int .i64 0 :: .slice none 0 0 :: .bool false :: .slice none 0 0 :: .slice none 0 0 :: .int .i64 0 :: .slice none 0 0 :: .bool false :: .slice none 0 0 :: .slice none 0 0 :: .int .i64 0 :: .slice none 0 0 :: .bool false :: .slice none 0 0 :: .slice none 0 0 :: .int .i64 0 :: .slice none 0 0 :: .bool false :: .slice none 0 0 :: .slice none 0 0 :: .int .i64 0 :: .slice none 0 0 :: .bool false :: .slice none 0 0 :: .slice none 0 0 :: [])), (b2, T2, [.int .i64 0, .slice none 0 0, .bool false, .slice none 0 0, .slice none 0 0])] P3 w := H
  ((conv=>whnf);repeat((first|refine mvT ?_|refine mvF ?_|refine yT ?_|refine yF ?_);conv=>whnf))
  refine VD.draw mixed (.q 0 (.q 1 (.q 2 (.q 3 (.q 4 (.q 5 (.q 6 (.q 7 (.q 8 (.eff 9 [] (.done))))))))))) (by kernel_rfl) ?_;((conv=>whnf);repeat((first|refine mvT ?_|refine mvF ?_|refine yT ?_|refine yF ?_);conv=>whnf))
  replace H := H.e0 (ext_drew _)
  refine ldS ((Sg.at (A := []) H).cell rfl) ?_;((conv=>whnf);repeat((first|refine mvT ?_|refine mvF ?_|refine yT ?_|refine yF ?_);conv=>whnf))
  refine ⟨_, ld ((hq.e0 H.ext).cell (j := 10) rfl) (by simp), ?_⟩
  ((conv=>whnf);repeat((first|refine mvT ?_|refine mvF ?_|refine yT ?_|refine yF ?_);conv=>whnf))
  refine ⟨bl, 0, rfl, ⟨by omega, by omega⟩, ?_⟩
  ((conv=>whnf);repeat((first|refine mvT ?_|refine mvF ?_|refine yT ?_|refine yF ?_);conv=>whnf))
  refine Sg.st (A := [_]) (o' := 47) (m := [.bool a9.isNone]) H rfl (Nat.le_of_ble_eq_true rfl) (rfl) ?_
  clear H
  intro w H
  replace H : Sg w0 [(bt, Tt, [.int .i64 0, .slice none 0 0, .bool false, .slice (some ⟨bl, 0, none⟩) 16 16, .slice none 0 0]), (bl, Tl, (.int .i64 n0 :: .slice none 0 0 :: .bool false :: .slice none 0 0 :: .slice none 0 0 :: .int .i64 n1 :: .slice none 0 0 :: .bool false :: .slice none 0 0 :: .slice none 0 0 :: .int .i64 nv2 :: sv2 :: .bool nm2 :: lv2 :: uv2 :: .int .i64 0 :: .slice (some ⟨bb3, 0, none⟩) s3.length cb3 :: .bool false :: .slice none 0 0 :: .slice none 0 0 :: .int .i64 n4 :: .slice none 0 0 :: .bool false :: .slice none 0 0 :: .slice none 0 0 :: .int .i64 n5 :: .slice none 0 0 :: .bool false :: .slice none 0 0 :: .slice none 0 0 :: .int .i64 n6 :: .slice none 0 0 :: .bool false :: .slice none 0 0 :: .slice none 0 0 :: .int .i64 n7 :: .slice none 0 0 :: .bool false :: .slice none 0 0 :: .slice none 0 0 :: .int .i64 n8 :: .slice none 0 0 :: .bool false :: .slice none 0 0 :: .slice none 0 0 :: .int .i64 0 :: .slice none 0 0 :: .bool a9.isNone :: .slice none 0 0 :: .slice none 0 0 :: .int .i64 0 :: .slice none 0 0 :: .bool false :: .slice none 0 0 :: .slice none 0 0 :: .int .i64 0 :: .slice none 0 0 :: .bool false :: .slice none 0 0 :: .slice none 0 0 :: .int .i64 0 :: .slice none 0 0 :: .bool false :: .slice none 0 0 :: .slice none 0 0 :: .int .i64 0 :: .slice none 0 0 :: .bool false :: .slice none 0 0 :: .slice none 0 0 :: .int .i64 0 :: .slice none 0 0 :: .bool false :: .slice none 0 0 :: .slice none 0 0 :: .int .i64 0 :: .slice none 0 0 :: .bool false :: .slice none 0 0 :: .slice none 0 0 :: [])), (b2, T2, [.int .i64 0, .slice none 0 0, .bool false, .slice none 0 0, .slice none 0 0])] P3 w := H
  ((conv=>whnf);repeat((first|refine mvT ?_|refine mvF ?_|refine yT ?_|refine yF ?_);conv=>whnf))
  refine ⟨_, ld ((hq.e0 H.ext).cell (j := 10) rfl) (by simp), ?_⟩
  ((conv=>whnf);repeat((first|refine mvT ?_|refine mvF ?_|refine yT ?_|refine yF ?_);conv=>whnf))
  have hlsT : lsT (.mk 0 [] nl9 l9 []) = l9 := by
    show (if nl9 = true then [] else l9) = l9
    split
    · rename_i e
      exact (hnl9 e).symm
    · rfl
  rw [hlsT] at hll9 hrl9
  obtain ⟨wL, hwL⟩ : ∃ wL, wL = w := ⟨_, rfl⟩
  rw [← hwL] at H ⊢
  have hLlt := H.own.lt
  have hLl : l9.length ≤ 1000000 ∧ ∀ x, x ∈ l9 → LimT x := by
    have := hLs (.mk 0 [] nl9 l9 []) (by simp)
    cases this
    exact ⟨by assumption, by assumption⟩
  have hs0L := H.ext.size
  refine VL.loop (fun i : Nat => [(103, .int .i64 ls9.length), (104, .int .i64 i), (0, .pointer (some ⟨q, o, none⟩)), (2, .pointer (some ⟨b2, 0, none⟩)), (3, .pointer (some ⟨bt, 0, none⟩))])
    (fun i w' => i ≤ ls9.length ∧ Ext (fun k => k = bl ∨ wL.heap.size ≤ k) wL w' ∧ ∃ vl ts, Own w' bl Tl (.int .i64 n0 :: .slice none 0 0 :: .bool false :: .slice none 0 0 :: .slice none 0 0 :: .int .i64 n1 :: .slice none 0 0 :: .bool false :: .slice none 0 0 :: .slice none 0 0 :: .int .i64 nv2 :: sv2 :: .bool nm2 :: lv2 :: uv2 :: .int .i64 0 :: .slice (some ⟨bb3, 0, none⟩) s3.length cb3 :: .bool false :: .slice none 0 0 :: .slice none 0 0 :: .int .i64 n4 :: .slice none 0 0 :: .bool false :: .slice none 0 0 :: .slice none 0 0 :: .int .i64 n5 :: .slice none 0 0 :: .bool false :: .slice none 0 0 :: .slice none 0 0 :: .int .i64 n6 :: .slice none 0 0 :: .bool false :: .slice none 0 0 :: .slice none 0 0 :: .int .i64 n7 :: .slice none 0 0 :: .bool false :: .slice none 0 0 :: .slice none 0 0 :: .int .i64 n8 :: .slice none 0 0 :: .bool false :: .slice none 0 0 :: .slice none 0 0 :: .int .i64 0 :: .slice none 0 0 :: .bool a9.isNone :: vl :: .slice none 0 0 :: .int .i64 0 :: .slice none 0 0 :: .bool false :: .slice none 0 0 :: .slice none 0 0 :: .int .i64 0 :: .slice none 0 0 :: .bool false :: .slice none 0 0 :: .slice none 0 0 :: .int .i64 0 :: .slice none 0 0 :: .bool false :: .slice none 0 0 :: .slice none 0 0 :: .int .i64 0 :: .slice none 0 0 :: .bool false :: .slice none 0 0 :: .slice none 0 0 :: .int .i64 0 :: .slice none 0 0 :: .bool false :: .slice none 0 0 :: .slice none 0 0 :: .int .i64 0 :: .slice none 0 0 :: .bool false :: .slice none 0 0 :: .slice none 0 0 :: []) ∧ OLn w' wL.heap.size vl ts ∧ ts.length = i ∧ ∀ (j : Nat) (x y : T), l9[j]? = some x → ts[j]? = some y → Nrm x y) (fun i => ls9.length - i) 0
    ⟨rfl, rfl, rfl, rfl, rfl, trivial⟩ ⟨Nat.zero_le _, Ext.refl _ _, _, [], Sg.at (A := [_]) H, OLn.nil _ _, rfl, by simp⟩ ?_
  rintro i w ⟨hi, hxL, vl9, ts9, hobl, hT, htl9, hnr9⟩
  ((conv=>whnf);repeat((first|refine mvT ?_|refine mvF ?_|refine yT ?_|refine yF ?_);conv=>whnf))
  refine cI (by rfl) (fun h9=>?_) (fun h9=>?_)
  · have hil : i < ls9.length := by have := of_decide_eq_true h9; omega
    obtain ⟨be, oe, rfl, hFe, hbe, hce⟩ := hcl9 i ls9[i] (by simp [hil])
    have hqe := hrl9 i ls9[i] l9[i] (by simp [hil]) (by simp)
    have hlime := hLl.2 l9[i] (List.getElem_mem _)
    have hx0 : Ext nob w0 w := H.ext.trans hxL fun k hk h => by
      rcases h with h | h
      · omega
      · omega
    have hobt : Own w bt Tt [.int .i64 0, .slice none 0 0, .bool false, .slice (some ⟨bl, 0, none⟩) 16 16, .slice none 0 0] := (Sg.at (A := []) H).ext hxL fun h => by
      have := hLlt bt (by simp [inL])
      have h2 := (H.dis.2.1 : ¬ inL _ bt)
      rcases h with h | h
      · exact h2 (by rw [h]; simp [inL])
      · omega
    obtain ⟨av, cv, rfl⟩ := hT.one
    ((conv=>whnf);repeat((first|refine mvT ?_|refine mvF ?_|refine yT ?_|refine yF ?_);conv=>whnf))
    refine VD.draw mixed (.eff 0 [] (.alt (.eff 1 [] (.eff 2 [] (.q 3 (.done)))) (.eff 2 [] (.eff 1 [] (.q 3 (.done)))))) (by kernel_rfl) ?_;((conv=>whnf);repeat((first|refine mvT ?_|refine mvF ?_|refine yT ?_|refine yF ?_);conv=>whnf))
    intro bb wb hbb hob hxb
    have hxb : Ext nob w wb := (ext_drew w).e0 hxb
    have hbb : w.heap.size ≤ bb := hbb
    ((conv=>whnf);repeat((first|refine mvT ?_|refine mvF ?_|refine yT ?_|refine yF ?_);conv=>whnf))
    constructor
    · conv => whnf
      refine st_all [.bool true] hob rfl rfl rfl ?_
      intro wc hoc hxc
      conv => whnf
      refine st_all [.bool false] hoc rfl rfl rfl ?_
      intro wd hod hxd
      ((conv=>whnf);repeat((first|refine mvT ?_|refine mvF ?_|refine yT ?_|refine yF ?_);conv=>whnf))
      refine ldS (hod.cell rfl) ?_;((conv=>whnf);repeat((first|refine mvT ?_|refine mvF ?_|refine yT ?_|refine yF ?_);conv=>whnf))
      have hxw : Ext nob w wd := (hxb.st hxc hbb).st hxd hbb
      refine VD.draw mixed (.q 0 (.q 1 (.q 2 (.q 3 (.q 4 (.q 5 (.q 6 (.q 7 (.q 8 (.q 9 (.q 10 (.q 11 (.q 12 (.eff 13 [1, 3, 6] (.eff 14 [1, 3, 6] (.eff 15 [1] (.q 16 (.q 17 (.eff 18 [] (.done)))))))))))))))))))) (by kernel_rfl) ?_;((conv=>whnf);repeat((first|refine mvT ?_|refine mvF ?_|refine yT ?_|refine yF ?_);conv=>whnf))
      have hxw := hxw.e0 (ext_drew _)
      have hszd := hxw.size
      refine ldS ((hobt.e0 hxw).cell rfl) ?_;((conv=>whnf);repeat((first|refine mvT ?_|refine mvF ?_|refine yT ?_|refine yF ?_);conv=>whnf))
      refine ldS ((hobt.e0 hxw).cell rfl) ?_;((conv=>whnf);repeat((first|refine mvT ?_|refine mvF ?_|refine yT ?_|refine yF ?_);conv=>whnf))
      refine ⟨bl, 0, rfl, ⟨by omega, by omega⟩, ?_⟩
      ((conv=>whnf);repeat((first|refine mvT ?_|refine mvF ?_|refine yT ?_|refine yF ?_);conv=>whnf))
      refine ldS ((hobl.e0 hxw).cell rfl) ?_;((conv=>whnf);repeat((first|refine mvT ?_|refine mvF ?_|refine yT ?_|refine yF ?_);conv=>whnf))
      refine ⟨_, ld ((hq.e0 (hx0.e0 hxw)).cell (j := 10) rfl) (by simp), ?_⟩
      ((conv=>whnf);repeat((first|refine mvT ?_|refine mvF ?_|refine yT ?_|refine yF ?_);conv=>whnf))
      refine ⟨be, oe, rfl, ⟨by omega, by omega⟩, ?_⟩
      ((conv=>whnf);repeat((first|refine mvT ?_|refine mvF ?_|refine yT ?_|refine yF ?_);conv=>whnf))
      refine Does.mono (tellStreamsGroupHeartbeatResponseStatus (F := F) (hce.e0 (hx0.e0 hxw)) (QPart_later true 8 _ _ _ w0 _ F F nob hqe (hx0.e0 hxw) fun k _ hf => ⟨fun f => f, hf⟩) hlime) ?_
      rintro r wt ⟨t', hnr', ⟨cr, rfl, htr⟩, hxt⟩
      have hszt := hxw.size
      have hxw := hxw.e0 hxt
      obtain ⟨n', sv', nl', lv', uv', rfl⟩ : ∃ n sv nl lv uv, cr = [.int .i64 n, sv, .bool nl, lv, uv] := by cases htr; exact ⟨_, _, _, _, _, rfl⟩
      refine ⟨by (conv => whnf); exact ⟨⟨_, (hobt.e0 hxw).cell rfl, rfl, rfl⟩, ⟨_, (hobt.e0 hxw).cell rfl, rfl, rfl⟩, ⟨_, (hobl.e0 hxw).cell rfl, rfl, rfl⟩, trivial⟩, ?_⟩
      conv => whnf
      intro bs ws hbs hos hxs
      have hos : Own ws bs TT [.int .i64 n', sv', .bool nl', lv', uv'] := hos
      have hxw := hxw.e0 hxs
      refine ⟨by (conv => whnf); exact ⟨⟨_, (hobt.e0 hxw).cell rfl, rfl, rfl⟩, ⟨_, (hobt.e0 hxw).cell rfl, rfl, rfl⟩, ⟨_, (hobl.e0 hxw).cell rfl, rfl, rfl⟩, trivial⟩, ?_⟩
      conv => whnf
      have hsLw := hxL.size
      refine OLn.app (x := t') (hT.ext hxw fun _ _ _ f => f) rfl hos rfl rfl (by omega) (by decide) (by have := hxw.size; omega) ((htr.ext hxs fun _ _ _ f => f).mono fun k _ hk => ⟨by omega, fun e => by have := hT.own k e; omega⟩) ?_
      intro v5 w5 hT5 hx5 _
      obtain ⟨a5, c5, rfl⟩ := hT5.one
      have hown5 : ∀ k, (Value.slice av ts9.length cv).ownBlock = some k → wL.heap.size ≤ k := fun k hk => (hT.own k hk).1
      have hbt5 := (hobt.e0 hxw).ext hx5 fun h => by have := hown5 bt h; have := hLlt bt (by simp [inL]); omega
      have hbl5 := (hobl.e0 hxw).ext hx5 fun h => by have := hown5 bl h; have := hLlt bl (by simp [inL]); omega
      refine ⟨by (conv => whnf); exact ⟨⟨_, hbt5.cell rfl, rfl, rfl⟩, trivial⟩, ?_⟩
      conv => whnf
      refine ⟨bl, 0, rfl, ⟨by omega, by omega⟩, ?_⟩
      ((conv=>whnf);repeat((first|refine mvT ?_|refine mvF ?_|refine yT ?_|refine yF ?_);conv=>whnf))
      refine st_cell (o := 48) (v := .slice a5 (ts9 ++ [t']).length c5) hbl5 rfl rfl rfl (by simp) rfl ?_
      intro w6 ho6 hx6
      ((conv=>whnf);repeat((first|refine mvT ?_|refine mvF ?_|refine yT ?_|refine yF ?_);conv=>whnf))
      have hxL6 : Ext (fun k => k = bl ∨ wL.heap.size ≤ k) wL w6 := ((hxL.trans (hxw.mono (M' := nob) fun _ _ f => f) fun k hk f => f.elim).trans hx5 fun k hk h => by have := hown5 k h; omega).trans hx6 fun k hk h => .inl h
      refine ⟨i + 1, ⟨rfl, inc_eq (by omega), rfl, rfl, rfl, trivial⟩, ⟨by omega, hxL6, _, ts9 ++ [t'], ho6, hT5.ext hx6 (fun k _ h1 h2 => by have := hLlt bl (by simp [inL]); omega), by simp [htl9], ?_⟩, by omega⟩
      intro j x y hx hy
      rcases Nat.lt_or_ge j ts9.length with hj | hj
      · rw [List.getElem?_append_left hj] at hy
        exact hnr9 j x y hx hy
      · rw [List.getElem?_append_right hj] at hy
        obtain ⟨e, he⟩ : ∃ e, j - ts9.length = e := ⟨_, rfl⟩
        rw [he] at hy
        cases e with
        | zero =>
          have : j = i := by omega
          subst this
          simp only [List.getElem?_cons_zero, Option.some.injEq] at hy
          subst hy
          rw [List.getElem?_eq_getElem (by omega), Option.some.injEq] at hx
          subst hx
          exact hnr'
        | succ e => simp at hy
    · conv => whnf
      refine st_all [.bool false] hob rfl rfl rfl ?_
      intro wc hoc hxc
      conv => whnf
      refine st_all [.bool true] hoc rfl rfl rfl ?_
      intro wd hod hxd
      ((conv=>whnf);repeat((first|refine mvT ?_|refine mvF ?_|refine yT ?_|refine yF ?_);conv=>whnf))
      refine ldS (hod.cell rfl) ?_;((conv=>whnf);repeat((first|refine mvT ?_|refine mvF ?_|refine yT ?_|refine yF ?_);conv=>whnf))
      have hxw : Ext nob w wd := (hxb.st hxc hbb).st hxd hbb
      refine VD.draw mixed (.q 0 (.q 1 (.q 2 (.q 3 (.q 4 (.q 5 (.q 6 (.q 7 (.q 8 (.q 9 (.q 10 (.q 12 (.alt (.eff 11 [1, 4] (.eff 13 [1, 4, 8] (.eff 14 [] (.q 15 (.q 16 (.eff 17 [] (.done))))))) (.eff 13 [1, 4, 8] (.eff 11 [1, 4] (.eff 14 [] (.q 15 (.q 16 (.eff 17 [] (.done)))))))))))))))))))) (by kernel_rfl) ?_;((conv=>whnf);repeat((first|refine mvT ?_|refine mvF ?_|refine yT ?_|refine yF ?_);conv=>whnf))
      have hxw := hxw.e0 (ext_drew _)
      have hszd := hxw.size
      refine ldS ((hobt.e0 hxw).cell rfl) ?_;((conv=>whnf);repeat((first|refine mvT ?_|refine mvF ?_|refine yT ?_|refine yF ?_);conv=>whnf))
      refine ⟨bl, 0, rfl, ⟨by omega, by omega⟩, ?_⟩
      ((conv=>whnf);repeat((first|refine mvT ?_|refine mvF ?_|refine yT ?_|refine yF ?_);conv=>whnf))
      refine ldS ((hobl.e0 hxw).cell rfl) ?_;((conv=>whnf);repeat((first|refine mvT ?_|refine mvF ?_|refine yT ?_|refine yF ?_);conv=>whnf))
      refine ⟨_, ld ((hq.e0 (hx0.e0 hxw)).cell (j := 10) rfl) (by simp), ?_⟩
      ((conv=>whnf);repeat((first|refine mvT ?_|refine mvF ?_|refine yT ?_|refine yF ?_);conv=>whnf))
      refine ⟨be, oe, rfl, ⟨by omega, by omega⟩, ?_⟩
      ((conv=>whnf);repeat((first|refine mvT ?_|refine mvF ?_|refine yT ?_|refine yF ?_);conv=>whnf))
      constructor
      · conv => whnf
        refine Does.mono (tellStreamsGroupHeartbeatResponseStatus (F := F) (hce.e0 (hx0.e0 hxw)) (QPart_later true 8 _ _ _ w0 _ F F nob hqe (hx0.e0 hxw) fun k _ hf => ⟨fun f => f, hf⟩) hlime) ?_
        rintro r wt ⟨t', hnr', ⟨cr, rfl, htr⟩, hxt⟩
        have hszt := hxw.size
        have hxw := hxw.e0 hxt
        obtain ⟨n', sv', nl', lv', uv', rfl⟩ : ∃ n sv nl lv uv, cr = [.int .i64 n, sv, .bool nl, lv, uv] := by cases htr; exact ⟨_, _, _, _, _, rfl⟩
        refine ⟨by (conv => whnf); exact ⟨⟨_, (hobt.e0 hxw).cell rfl, rfl, rfl⟩, ⟨_, (hobl.e0 hxw).cell rfl, rfl, rfl⟩, trivial⟩, ?_⟩
        conv => whnf
        intro bs ws hbs hos hxs
        have hos : Own ws bs TT [.int .i64 0, .slice none 0 0, .bool false, .slice none 0 0, .slice none 0 0] := hos
        have hxw := hxw.e0 hxs
        refine ⟨by (conv => whnf); exact ⟨⟨_, (hobt.e0 hxw).cell rfl, rfl, rfl⟩, ⟨_, (hobl.e0 hxw).cell rfl, rfl, rfl⟩, ⟨_, (hq.e0 (hx0.e0 hxw)).cell (j := 10) rfl, rfl, rfl⟩, trivial⟩, ?_⟩
        have htrw : TrC ws (fun k => w.heap.size ≤ k ∧ k < ws.heap.size) [.int .i64 n', sv', .bool nl', lv', uv'] t' := ((htr.mono (F' := fun k => w.heap.size ≤ k ∧ k < wt.heap.size) fun k hk h => ⟨by omega, hk⟩).ext hxs fun _ _ _ f => f).mono fun k hk h => ⟨h.1, hk⟩
        conv => whnf
        refine OLn.app (x := .mk 0 [] false [] []) (hT.ext hxw fun _ _ _ f => f) rfl hos rfl rfl (by omega) (by decide) (by have := hxw.size; have := hxL.size; omega) (TrC.leaf rfl (Bytes.nil _ _)) ?_
        intro v5 w5 hT5 hx5 hbk5
        obtain ⟨a5, c5, rfl⟩ := hT5.one
        have hown5 : ∀ k, (Value.slice av ts9.length cv).ownBlock = some k → wL.heap.size ≤ k ∧ k < w.heap.size := fun k hk => hT.own k hk
        have hbl5 := (hobl.e0 hxw).ext hx5 fun h => by have := hown5 bl h; have := hLlt bl (by simp [inL]); omega
        have hblL := hLlt bl (by simp [inL])
        have hsLw := hxL.size
        have hszx := hxw.size
        ((conv=>whnf);repeat((first|refine mvT ?_|refine mvF ?_|refine yT ?_|refine yF ?_);conv=>whnf))
        refine ⟨bl, 0, rfl, ⟨by omega, by omega⟩, ?_⟩
        ((conv=>whnf);repeat((first|refine mvT ?_|refine mvF ?_|refine yT ?_|refine yF ?_);conv=>whnf))
        refine st_cell (o := 48) (v := .slice a5 (ts9 ++ [T.mk 0 [] false [] []]).length c5) hbl5 rfl rfl rfl (by simp) rfl ?_
        intro w6 ho6 hx6
        ((conv=>whnf);repeat((first|refine mvT ?_|refine mvF ?_|refine yT ?_|refine yF ?_);conv=>whnf))
        have hT6 := hT5.ext hx6 (fun k _ h1 h2 => by omega)
        obtain ⟨g, cap, hv, hput⟩ := hT6.last
        injection hv with e1 e2 e3
        subst e1
        subst e3
        have htr6 : TrC w6 (fun k => wL.heap.size ≤ k ∧ (Value.slice (some ⟨g, 0, none⟩) (ts9 ++ [T.mk 0 [] false [] []]).length c5).ownBlock ≠ some k) [.int .i64 n', sv', .bool nl', lv', uv'] t' := by
          refine ((htrw.ext hx5 fun k _ h e => by have := hown5 k e; omega).ext hx6 fun k _ h e => by omega).mono fun k _ h => ⟨by omega, fun e => ?_⟩
          rcases hbk5 with e2 | ⟨q2, e2, hle⟩
          · have := hown5 k (e2 ▸ e); omega
          · rw [e, Option.some.injEq] at e2
            omega
        refine ⟨g, 0, rfl, ⟨by omega, by simp; omega⟩, ?_⟩
        ((conv=>whnf);repeat((first|refine mvT ?_|refine mvF ?_|refine yT ?_|refine yF ?_);conv=>whnf))
        refine hput [.int .i64 n', sv', .bool nl', lv', uv'] t' _ _ _ rfl (by simp) htr6 ?_
        intro w7 hT7 hx7
        ((conv=>whnf);repeat((first|refine mvT ?_|refine mvF ?_|refine yT ?_|refine yF ?_);conv=>whnf))
        have hgL : wL.heap.size ≤ g := (hT6.own g rfl).1
        have hxL7 : Ext (fun k => k = bl ∨ wL.heap.size ≤ k) wL w7 := (((hxL.trans (hxw.mono (M' := nob) fun _ _ f => f) fun k hk f => f.elim).trans hx5 fun k hk h => by have := hown5 k h; omega).trans hx6 fun k hk h => .inl h).trans hx7 fun k hk h => by omega
        refine ⟨i + 1, ⟨rfl, inc_eq (by omega), rfl, rfl, rfl, trivial⟩, ⟨by omega, hxL7, _, ts9 ++ [t'], ho6.ext hx7 (by omega), hT7, by simp [htl9], ?_⟩, by omega⟩
        intro j x y hx hy
        rcases Nat.lt_or_ge j ts9.length with hj | hj
        · rw [List.getElem?_append_left hj] at hy
          exact hnr9 j x y hx hy
        · rw [List.getElem?_append_right hj] at hy
          obtain ⟨e, he⟩ : ∃ e, j - ts9.length = e := ⟨_, rfl⟩
          rw [he] at hy
          cases e with
          | zero =>
            have : j = i := by omega
            subst this
            simp only [List.getElem?_cons_zero, Option.some.injEq] at hy
            subst hy
            rw [List.getElem?_eq_getElem (by omega), Option.some.injEq] at hx
            subst hx
            exact hnr'
          | succ e => simp at hy
      · conv => whnf
        intro bs ws hbs hos hxs
        have hos : Own ws bs TT [.int .i64 0, .slice none 0 0, .bool false, .slice none 0 0, .slice none 0 0] := hos
        have hxw := hxw.e0 hxs
        refine ⟨by (conv => whnf); exact ⟨⟨_, (hobt.e0 hxw).cell rfl, rfl, rfl⟩, ⟨_, (hobl.e0 hxw).cell rfl, rfl, rfl⟩, ⟨_, (hq.e0 (hx0.e0 hxw)).cell (j := 10) rfl, rfl, rfl⟩, trivial⟩, ?_⟩
        conv => whnf
        refine Does.mono (tellStreamsGroupHeartbeatResponseStatus (F := F) (hce.e0 (hx0.e0 hxw)) (QPart_later true 8 _ _ _ w0 _ F F nob hqe (hx0.e0 hxw) fun k _ hf => ⟨fun f => f, hf⟩) hlime) ?_
        rintro r wt ⟨t', hnr', ⟨cr, rfl, htr⟩, hxt⟩
        have hszt := hxw.size
        have hxw := hxw.e0 hxt
        obtain ⟨n', sv', nl', lv', uv', rfl⟩ : ∃ n sv nl lv uv, cr = [.int .i64 n, sv, .bool nl, lv, uv] := by cases htr; exact ⟨_, _, _, _, _, rfl⟩
        refine ⟨by (conv => whnf); exact ⟨⟨_, (hobt.e0 hxw).cell rfl, rfl, rfl⟩, ⟨_, (hobl.e0 hxw).cell rfl, rfl, rfl⟩, trivial⟩, ?_⟩
        have hos := hos.e0 hxt
        have htrw : TrC wt (fun k => w.heap.size ≤ k ∧ k < wt.heap.size) [.int .i64 n', sv', .bool nl', lv', uv'] t' := htr.mono fun k hk h => ⟨by omega, hk⟩
        conv => whnf
        refine OLn.app (x := .mk 0 [] false [] []) (hT.ext hxw fun _ _ _ f => f) rfl hos rfl rfl (by omega) (by decide) (by have := hxw.size; have := hxL.size; omega) (TrC.leaf rfl (Bytes.nil _ _)) ?_
        intro v5 w5 hT5 hx5 hbk5
        obtain ⟨a5, c5, rfl⟩ := hT5.one
        have hown5 : ∀ k, (Value.slice av ts9.length cv).ownBlock = some k → wL.heap.size ≤ k ∧ k < w.heap.size := fun k hk => hT.own k hk
        have hbl5 := (hobl.e0 hxw).ext hx5 fun h => by have := hown5 bl h; have := hLlt bl (by simp [inL]); omega
        have hblL := hLlt bl (by simp [inL])
        have hsLw := hxL.size
        have hszx := hxw.size
        ((conv=>whnf);repeat((first|refine mvT ?_|refine mvF ?_|refine yT ?_|refine yF ?_);conv=>whnf))
        refine ⟨bl, 0, rfl, ⟨by omega, by omega⟩, ?_⟩
        ((conv=>whnf);repeat((first|refine mvT ?_|refine mvF ?_|refine yT ?_|refine yF ?_);conv=>whnf))
        refine st_cell (o := 48) (v := .slice a5 (ts9 ++ [T.mk 0 [] false [] []]).length c5) hbl5 rfl rfl rfl (by simp) rfl ?_
        intro w6 ho6 hx6
        ((conv=>whnf);repeat((first|refine mvT ?_|refine mvF ?_|refine yT ?_|refine yF ?_);conv=>whnf))
        have hT6 := hT5.ext hx6 (fun k _ h1 h2 => by omega)
        obtain ⟨g, cap, hv, hput⟩ := hT6.last
        injection hv with e1 e2 e3
        subst e1
        subst e3
        have htr6 : TrC w6 (fun k => wL.heap.size ≤ k ∧ (Value.slice (some ⟨g, 0, none⟩) (ts9 ++ [T.mk 0 [] false [] []]).length c5).ownBlock ≠ some k) [.int .i64 n', sv', .bool nl', lv', uv'] t' := by
          refine ((htrw.ext hx5 fun k _ h e => by have := hown5 k e; omega).ext hx6 fun k _ h e => by omega).mono fun k _ h => ⟨by omega, fun e => ?_⟩
          rcases hbk5 with e2 | ⟨q2, e2, hle⟩
          · have := hown5 k (e2 ▸ e); omega
          · rw [e, Option.some.injEq] at e2
            omega
        refine ⟨g, 0, rfl, ⟨by omega, by simp; omega⟩, ?_⟩
        ((conv=>whnf);repeat((first|refine mvT ?_|refine mvF ?_|refine yT ?_|refine yF ?_);conv=>whnf))
        refine hput [.int .i64 n', sv', .bool nl', lv', uv'] t' _ _ _ rfl (by simp) htr6 ?_
        intro w7 hT7 hx7
        ((conv=>whnf);repeat((first|refine mvT ?_|refine mvF ?_|refine yT ?_|refine yF ?_);conv=>whnf))
        have hgL : wL.heap.size ≤ g := (hT6.own g rfl).1
        have hxL7 : Ext (fun k => k = bl ∨ wL.heap.size ≤ k) wL w7 := (((hxL.trans (hxw.mono (M' := nob) fun _ _ f => f) fun k hk f => f.elim).trans hx5 fun k hk h => by have := hown5 k h; omega).trans hx6 fun k hk h => .inl h).trans hx7 fun k hk h => by omega
        refine ⟨i + 1, ⟨rfl, inc_eq (by omega), rfl, rfl, rfl, trivial⟩, ⟨by omega, hxL7, _, ts9 ++ [t'], ho6.ext hx7 (by omega), hT7, by simp [htl9], ?_⟩, by omega⟩
        intro j x y hx hy
        rcases Nat.lt_or_ge j ts9.length with hj | hj
        · rw [List.getElem?_append_left hj] at hy
          exact hnr9 j x y hx hy
        · rw [List.getElem?_append_right hj] at hy
          obtain ⟨e, he⟩ : ∃ e, j - ts9.length = e := ⟨_, rfl⟩
          rw [he] at hy
          cases e with
          | zero =>
            have : j = i := by omega
            subst this
            simp only [List.getElem?_cons_zero, Option.some.injEq] at hy
            subst hy
            rw [List.getElem?_eq_getElem (by omega), Option.some.injEq] at hx
            subst hx
            exact hnr'
          | succ e => simp at hy
  · have hil : i = ls9.length := by have := of_decide_eq_false h9; omega
    have H := Sg.up (A := [_]) H hobl (hxL.mono fun k hk h => by rcases h with h | h; exact h; omega)
    have htl9 : ts9.length = l9.length := by omega
    have hnl : a9.isNone = nl9 := hnn9 rfl
    rw [hnl] at H
    have H := H.add (Q := fun w => TrC w (fun k => w0.heap.size ≤ k) [.int .i64 0, .slice none 0 0, .bool nl9, vl9, .slice none 0 0] (.mk 0 [] nl9 ts9 [])) fun w3 x => (hT.ext x fun k hk h1 h2 => by
      have h3 : k < wL.heap.size := hLlt k (by rcases inL3 h2 with h | h | h <;> subst h <;> simp [inL])
      omega).row fun k hk => by omega
    obtain ⟨P9, hP9⟩ : ∃ P : World → Prop, P = fun w => TrC w (fun k => w0.heap.size ≤ k) [.int .i64 0, .slice none 0 0, .bool nl9, vl9, .slice none 0 0] (.mk 0 [] nl9 ts9 []) ∧ P3 w := ⟨_, rfl⟩
    replace H : Sg w0 [(bt, Tt, [.int .i64 0, .slice none 0 0, .bool false, .slice (some ⟨bl, 0, none⟩) 16 16, .slice none 0 0]), (bl, Tl, (.int .i64 n0 :: .slice none 0 0 :: .bool false :: .slice none 0 0 :: .slice none 0 0 :: .int .i64 n1 :: .slice none 0 0 :: .bool false :: .slice none 0 0 :: .slice none 0 0 :: .int .i64 nv2 :: sv2 :: .bool nm2 :: lv2 :: uv2 :: .int .i64 0 :: .slice (some ⟨bb3, 0, none⟩) s3.length cb3 :: .bool false :: .slice none 0 0 :: .slice none 0 0 :: .int .i64 n4 :: .slice none 0 0 :: .bool false :: .slice none 0 0 :: .slice none 0 0 :: .int .i64 n5 :: .slice none 0 0 :: .bool false :: .slice none 0 0 :: .slice none 0 0 :: .int .i64 n6 :: .slice none 0 0 :: .bool false :: .slice none 0 0 :: .slice none 0 0 :: .int .i64 n7 :: .slice none 0 0 :: .bool false :: .slice none 0 0 :: .slice none 0 0 :: .int .i64 n8 :: .slice none 0 0 :: .bool false :: .slice none 0 0 :: .slice none 0 0 :: .int .i64 0 :: .slice none 0 0 :: .bool nl9 :: vl9 :: .slice none 0 0 :: .int .i64 0 :: .slice none 0 0 :: .bool false :: .slice none 0 0 :: .slice none 0 0 :: .int .i64 0 :: .slice none 0 0 :: .bool false :: .slice none 0 0 :: .slice none 0 0 :: .int .i64 0 :: .slice none 0 0 :: .bool false :: .slice none 0 0 :: .slice none 0 0 :: .int .i64 0 :: .slice none 0 0 :: .bool false :: .slice none 0 0 :: .slice none 0 0 :: .int .i64 0 :: .slice none 0 0 :: .bool false :: .slice none 0 0 :: .slice none 0 0 :: .int .i64 0 :: .slice none 0 0 :: .bool false :: .slice none 0 0 :: .slice none 0 0 :: [])), (b2, T2, [.int .i64 0, .slice none 0 0, .bool false, .slice none 0 0, .slice none 0 0])] P9 w := by rw [hP9]; exact H
    ((conv=>whnf);repeat((first|refine mvT ?_|refine mvF ?_|refine yT ?_|refine yF ?_);conv=>whnf))
    refine VD.draw mixed (.q 0 (.q 1 (.q 2 (.q 3 (.q 4 (.q 5 (.q 6 (.q 7 (.q 8 (.eff 9 [] (.done))))))))))) (by kernel_rfl) ?_;((conv=>whnf);repeat((first|refine mvT ?_|refine mvF ?_|refine yT ?_|refine yF ?_);conv=>whnf))
    replace H := H.e0 (ext_drew _)
    refine ldS ((Sg.at (A := []) H).cell rfl) ?_;((conv=>whnf);repeat((first|refine mvT ?_|refine mvF ?_|refine yT ?_|refine yF ?_);conv=>whnf))
    refine ⟨_, ld ((hq.e0 H.ext).cell (j := 11) rfl) (by simp), ?_⟩
    ((conv=>whnf);repeat((first|refine mvT ?_|refine mvF ?_|refine yT ?_|refine yF ?_);conv=>whnf))
    refine ⟨bl, 0, rfl, ⟨by omega, by omega⟩, ?_⟩
    ((conv=>whnf);repeat((first|refine mvT ?_|refine mvF ?_|refine yT ?_|refine yF ?_);conv=>whnf))
    refine Sg.st (A := [_]) (o' := 52) (m := [.bool a10.isNone]) H rfl (Nat.le_of_ble_eq_true rfl) (rfl) ?_
    clear H
    intro w H
    replace H : Sg w0 [(bt, Tt, [.int .i64 0, .slice none 0 0, .bool false, .slice (some ⟨bl, 0, none⟩) 16 16, .slice none 0 0]), (bl, Tl, (.int .i64 n0 :: .slice none 0 0 :: .bool false :: .slice none 0 0 :: .slice none 0 0 :: .int .i64 n1 :: .slice none 0 0 :: .bool false :: .slice none 0 0 :: .slice none 0 0 :: .int .i64 nv2 :: sv2 :: .bool nm2 :: lv2 :: uv2 :: .int .i64 0 :: .slice (some ⟨bb3, 0, none⟩) s3.length cb3 :: .bool false :: .slice none 0 0 :: .slice none 0 0 :: .int .i64 n4 :: .slice none 0 0 :: .bool false :: .slice none 0 0 :: .slice none 0 0 :: .int .i64 n5 :: .slice none 0 0 :: .bool false :: .slice none 0 0 :: .slice none 0 0 :: .int .i64 n6 :: .slice none 0 0 :: .bool false :: .slice none 0 0 :: .slice none 0 0 :: .int .i64 n7 :: .slice none 0 0 :: .bool false :: .slice none 0 0 :: .slice none 0 0 :: .int .i64 n8 :: .slice none 0 0 :: .bool false :: .slice none 0 0 :: .slice none 0 0 :: .int .i64 0 :: .slice none 0 0 :: .bool nl9 :: vl9 :: .slice none 0 0 :: .int .i64 0 :: .slice none 0 0 :: .bool a10.isNone :: .slice none 0 0 :: .slice none 0 0 :: .int .i64 0 :: .slice none 0 0 :: .bool false :: .slice none 0 0 :: .slice none 0 0 :: .int .i64 0 :: .slice none 0 0 :: .bool false :: .slice none 0 0 :: .slice none 0 0 :: .int .i64 0 :: .slice none 0 0 :: .bool false :: .slice none 0 0 :: .slice none 0 0 :: .int .i64 0 :: .slice none 0 0 :: .bool false :: .slice none 0 0 :: .slice none 0 0 :: .int .i64 0 :: .slice none 0 0 :: .bool false :: .slice none 0 0 :: .slice none 0 0 :: [])), (b2, T2, [.int .i64 0, .slice none 0 0, .bool false, .slice none 0 0, .slice none 0 0])] P9 w := H
    ((conv=>whnf);repeat((first|refine mvT ?_|refine mvF ?_|refine yT ?_|refine yF ?_);conv=>whnf))
    refine ⟨_, ld ((hq.e0 H.ext).cell (j := 11) rfl) (by simp), ?_⟩
    ((conv=>whnf);repeat((first|refine mvT ?_|refine mvF ?_|refine yT ?_|refine yF ?_);conv=>whnf))
    have hlsT : lsT (.mk 0 [] nl10 l10 []) = l10 := by
      show (if nl10 = true then [] else l10) = l10
      split
      · rename_i e
        exact (hnl10 e).symm
      · rfl
    rw [hlsT] at hll10 hrl10
    obtain ⟨wL, hwL⟩ : ∃ wL, wL = w := ⟨_, rfl⟩
    rw [← hwL] at H ⊢
    have hLlt := H.own.lt
    have hLl : l10.length ≤ 1000000 ∧ ∀ x, x ∈ l10 → LimT x := by
      have := hLs (.mk 0 [] nl10 l10 []) (by simp)
      cases this
      exact ⟨by assumption, by assumption⟩
    have hs0L := H.ext.size
    refine VL.loop (fun i : Nat => [(159, .int .i64 ls10.length), (160, .int .i64 i), (0, .pointer (some ⟨q, o, none⟩)), (2, .pointer (some ⟨b2, 0, none⟩)), (3, .pointer (some ⟨bt, 0, none⟩))])
      (fun i w' => i ≤ ls10.length ∧ Ext (fun k => k = bl ∨ wL.heap.size ≤ k) wL w' ∧ ∃ vl ts, Own w' bl Tl (.int .i64 n0 :: .slice none 0 0 :: .bool false :: .slice none 0 0 :: .slice none 0 0 :: .int .i64 n1 :: .slice none 0 0 :: .bool false :: .slice none 0 0 :: .slice none 0 0 :: .int .i64 nv2 :: sv2 :: .bool nm2 :: lv2 :: uv2 :: .int .i64 0 :: .slice (some ⟨bb3, 0, none⟩) s3.length cb3 :: .bool false :: .slice none 0 0 :: .slice none 0 0 :: .int .i64 n4 :: .slice none 0 0 :: .bool false :: .slice none 0 0 :: .slice none 0 0 :: .int .i64 n5 :: .slice none 0 0 :: .bool false :: .slice none 0 0 :: .slice none 0 0 :: .int .i64 n6 :: .slice none 0 0 :: .bool false :: .slice none 0 0 :: .slice none 0 0 :: .int .i64 n7 :: .slice none 0 0 :: .bool false :: .slice none 0 0 :: .slice none 0 0 :: .int .i64 n8 :: .slice none 0 0 :: .bool false :: .slice none 0 0 :: .slice none 0 0 :: .int .i64 0 :: .slice none 0 0 :: .bool nl9 :: vl9 :: .slice none 0 0 :: .int .i64 0 :: .slice none 0 0 :: .bool a10.isNone :: vl :: .slice none 0 0 :: .int .i64 0 :: .slice none 0 0 :: .bool false :: .slice none 0 0 :: .slice none 0 0 :: .int .i64 0 :: .slice none 0 0 :: .bool false :: .slice none 0 0 :: .slice none 0 0 :: .int .i64 0 :: .slice none 0 0 :: .bool false :: .slice none 0 0 :: .slice none 0 0 :: .int .i64 0 :: .slice none 0 0 :: .bool false :: .slice none 0 0 :: .slice none 0 0 :: .int .i64 0 :: .slice none 0 0 :: .bool false :: .slice none 0 0 :: .slice none 0 0 :: []) ∧ OLn w' wL.heap.size vl ts ∧ ts.length = i ∧ ∀ (j : Nat) (x y : T), l10[j]? = some x → ts[j]? = some y → Nrm x y) (fun i => ls10.length - i) 0
      ⟨rfl, rfl, rfl, rfl, rfl, trivial⟩ ⟨Nat.zero_le _, Ext.refl _ _, _, [], Sg.at (A := [_]) H, OLn.nil _ _, rfl, by simp⟩ ?_
    rintro i w ⟨hi, hxL, vl10, ts10, hobl, hT, htl10, hnr10⟩
    ((conv=>whnf);repeat((first|refine mvT ?_|refine mvF ?_|refine yT ?_|refine yF ?_);conv=>whnf))
    refine cI (by rfl) (fun h9=>?_) (fun h9=>?_)
    · have hil : i < ls10.length := by have := of_decide_eq_true h9; omega
      obtain ⟨be, oe, rfl, hFe, hbe, hce⟩ := hcl10 i ls10[i] (by simp [hil])
      have hqe := hrl10 i ls10[i] l10[i] (by simp [hil]) (by simp)
      have hlime := hLl.2 l10[i] (List.getElem_mem _)
      have hx0 : Ext nob w0 w := H.ext.trans hxL fun k hk h => by
        rcases h with h | h
        · omega
        · omega
      have hobt : Own w bt Tt [.int .i64 0, .slice none 0 0, .bool false, .slice (some ⟨bl, 0, none⟩) 16 16, .slice none 0 0] := (Sg.at (A := []) H).ext hxL fun h => by
        have := hLlt bt (by simp [inL])
        have h2 := (H.dis.2.1 : ¬ inL _ bt)
        rcases h with h | h
        · exact h2 (by rw [h]; simp [inL])
        · omega
      obtain ⟨av, cv, rfl⟩ := hT.one
      ((conv=>whnf);repeat((first|refine mvT ?_|refine mvF ?_|refine yT ?_|refine yF ?_);conv=>whnf))
      refine VD.draw mixed (.eff 0 [] (.alt (.eff 1 [] (.eff 2 [] (.q 3 (.done)))) (.eff 2 [] (.eff 1 [] (.q 3 (.done)))))) (by kernel_rfl) ?_;((conv=>whnf);repeat((first|refine mvT ?_|refine mvF ?_|refine yT ?_|refine yF ?_);conv=>whnf))
      intro bb wb hbb hob hxb
      have hxb : Ext nob w wb := (ext_drew w).e0 hxb
      have hbb : w.heap.size ≤ bb := hbb
      ((conv=>whnf);repeat((first|refine mvT ?_|refine mvF ?_|refine yT ?_|refine yF ?_);conv=>whnf))
      constructor
      · conv => whnf
        refine st_all [.bool true] hob rfl rfl rfl ?_
        intro wc hoc hxc
        conv => whnf
        refine st_all [.bool false] hoc rfl rfl rfl ?_
        intro wd hod hxd
        ((conv=>whnf);repeat((first|refine mvT ?_|refine mvF ?_|refine yT ?_|refine yF ?_);conv=>whnf))
        refine ldS (hod.cell rfl) ?_;((conv=>whnf);repeat((first|refine mvT ?_|refine mvF ?_|refine yT ?_|refine yF ?_);conv=>whnf))
        have hxw : Ext nob w wd := (hxb.st hxc hbb).st hxd hbb
        refine VD.draw mixed (.q 0 (.q 1 (.q 2 (.q 3 (.q 4 (.q 5 (.q 6 (.q 7 (.q 8 (.q 9 (.q 10 (.q 11 (.q 12 (.eff 13 [1, 3, 6] (.eff 14 [1, 3, 6] (.eff 15 [1] (.q 16 (.q 17 (.eff 18 [] (.done)))))))))))))))))))) (by kernel_rfl) ?_;((conv=>whnf);repeat((first|refine mvT ?_|refine mvF ?_|refine yT ?_|refine yF ?_);conv=>whnf))
        have hxw := hxw.e0 (ext_drew _)
        have hszd := hxw.size
        refine ldS ((hobt.e0 hxw).cell rfl) ?_;((conv=>whnf);repeat((first|refine mvT ?_|refine mvF ?_|refine yT ?_|refine yF ?_);conv=>whnf))
        refine ldS ((hobt.e0 hxw).cell rfl) ?_;((conv=>whnf);repeat((first|refine mvT ?_|refine mvF ?_|refine yT ?_|refine yF ?_);conv=>whnf))
        refine ⟨bl, 0, rfl, ⟨by omega, by omega⟩, ?_⟩
        ((conv=>whnf);repeat((first|refine mvT ?_|refine mvF ?_|refine yT ?_|refine yF ?_);conv=>whnf))
        refine ldS ((hobl.e0 hxw).cell rfl) ?_;((conv=>whnf);repeat((first|refine mvT ?_|refine mvF ?_|refine yT ?_|refine yF ?_);conv=>whnf))
        refine ⟨_, ld ((hq.e0 (hx0.e0 hxw)).cell (j := 11) rfl) (by simp), ?_⟩
        ((conv=>whnf);repeat((first|refine mvT ?_|refine mvF ?_|refine yT ?_|refine yF ?_);conv=>whnf))
        refine ⟨be, oe, rfl, ⟨by omega, by omega⟩, ?_⟩
        ((conv=>whnf);repeat((first|refine mvT ?_|refine mvF ?_|refine yT ?_|refine yF ?_);conv=>whnf))
        refine Does.mono (tellTaskIDs (F := F) (hce.e0 (hx0.e0 hxw)) (QPart_later true 8 _ _ _ w0 _ F F nob hqe (hx0.e0 hxw) fun k _ hf => ⟨fun f => f, hf⟩) hlime) ?_
        rintro r wt ⟨t', hnr', ⟨cr, rfl, htr⟩, hxt⟩
        have hszt := hxw.size
        have hxw := hxw.e0 hxt
        obtain ⟨n', sv', nl', lv', uv', rfl⟩ : ∃ n sv nl lv uv, cr = [.int .i64 n, sv, .bool nl, lv, uv] := by cases htr; exact ⟨_, _, _, _, _, rfl⟩
        refine ⟨by (conv => whnf); exact ⟨⟨_, (hobt.e0 hxw).cell rfl, rfl, rfl⟩, ⟨_, (hobt.e0 hxw).cell rfl, rfl, rfl⟩, ⟨_, (hobl.e0 hxw).cell rfl, rfl, rfl⟩, trivial⟩, ?_⟩
        conv => whnf
        intro bs ws hbs hos hxs
        have hos : Own ws bs TT [.int .i64 n', sv', .bool nl', lv', uv'] := hos
        have hxw := hxw.e0 hxs
        refine ⟨by (conv => whnf); exact ⟨⟨_, (hobt.e0 hxw).cell rfl, rfl, rfl⟩, ⟨_, (hobt.e0 hxw).cell rfl, rfl, rfl⟩, ⟨_, (hobl.e0 hxw).cell rfl, rfl, rfl⟩, trivial⟩, ?_⟩
        conv => whnf
        have hsLw := hxL.size
        refine OLn.app (x := t') (hT.ext hxw fun _ _ _ f => f) rfl hos rfl rfl (by omega) (by decide) (by have := hxw.size; omega) ((htr.ext hxs fun _ _ _ f => f).mono fun k _ hk => ⟨by omega, fun e => by have := hT.own k e; omega⟩) ?_
        intro v5 w5 hT5 hx5 _
        obtain ⟨a5, c5, rfl⟩ := hT5.one
        have hown5 : ∀ k, (Value.slice av ts10.length cv).ownBlock = some k → wL.heap.size ≤ k := fun k hk => (hT.own k hk).1
        have hbt5 := (hobt.e0 hxw).ext hx5 fun h => by have := hown5 bt h; have := hLlt bt (by simp [inL]); omega
        have hbl5 := (hobl.e0 hxw).ext hx5 fun h => by have := hown5 bl h; have := hLlt bl (by simp [inL]); omega
        refine ⟨by (conv => whnf); exact ⟨⟨_, hbt5.cell rfl, rfl, rfl⟩, trivial⟩, ?_⟩
        conv => whnf
        refine ⟨bl, 0, rfl, ⟨by omega, by omega⟩, ?_⟩
        ((conv=>whnf);repeat((first|refine mvT ?_|refine mvF ?_|refine yT ?_|refine yF ?_);conv=>whnf))
        refine st_cell (o := 53) (v := .slice a5 (ts10 ++ [t']).length c5) hbl5 rfl rfl rfl (by simp) rfl ?_
        intro w6 ho6 hx6
        ((conv=>whnf);repeat((first|refine mvT ?_|refine mvF ?_|refine yT ?_|refine yF ?_);conv=>whnf))
        have hxL6 : Ext (fun k => k = bl ∨ wL.heap.size ≤ k) wL w6 := ((hxL.trans (hxw.mono (M' := nob) fun _ _ f => f) fun k hk f => f.elim).trans hx5 fun k hk h => by have := hown5 k h; omega).trans hx6 fun k hk h => .inl h
        refine ⟨i + 1, ⟨rfl, inc_eq (by omega), rfl, rfl, rfl, trivial⟩, ⟨by omega, hxL6, _, ts10 ++ [t'], ho6, hT5.ext hx6 (fun k _ h1 h2 => by have := hLlt bl (by simp [inL]); omega), by simp [htl10], ?_⟩, by omega⟩
        intro j x y hx hy
        rcases Nat.lt_or_ge j ts10.length with hj | hj
        · rw [List.getElem?_append_left hj] at hy
          exact hnr10 j x y hx hy
        · rw [List.getElem?_append_right hj] at hy
          obtain ⟨e, he⟩ : ∃ e, j - ts10.length = e := ⟨_, rfl⟩
          rw [he] at hy
          cases e with
          | zero =>
            have : j = i := by omega
            subst this
            simp only [List.getElem?_cons_zero, Option.some.injEq] at hy
            subst hy
            rw [List.getElem?_eq_getElem (by omega), Option.some.injEq] at hx
            subst hx
            exact hnr'
          | succ e => simp at hy
      · conv => whnf
        refine st_all [.bool false] hob rfl rfl rfl ?_
        intro wc hoc hxc
        conv => whnf
        refine st_all [.bool true] hoc rfl rfl rfl ?_
        intro wd hod hxd
        ((conv=>whnf);repeat((first|refine mvT ?_|refine mvF ?_|refine yT ?_|refine yF ?_);conv=>whnf))
        refine ldS (hod.cell rfl) ?_;((conv=>whnf);repeat((first|refine mvT ?_|refine mvF ?_|refine yT ?_|refine yF ?_);conv=>whnf))
        have hxw : Ext nob w wd := (hxb.st hxc hbb).st hxd hbb
        refine VD.draw mixed (.q 0 (.q 1 (.q 2 (.q 3 (.q 4 (.q 5 (.q 6 (.q 7 (.q 8 (.q 9 (.q 10 (.q 12 (.alt (.eff 11 [1, 4] (.eff 13 [1, 4, 8] (.eff 14 [] (.q 15 (.q 16 (.eff 17 [] (.done))))))) (.eff 13 [1, 4, 8] (.eff 11 [1, 4] (.eff 14 [] (.q 15 (.q 16 (.eff 17 [] (.done)))))))))))))))))))) (by kernel_rfl) ?_;((conv=>whnf);repeat((first|refine mvT ?_|refine mvF ?_|refine yT ?_|refine yF ?_);conv=>whnf))
        have hxw := hxw.e0 (ext_drew _)
        have hszd := hxw.size
        refine ldS ((hobt.e0 hxw).cell rfl) ?_;((conv=>whnf);repeat((first|refine mvT ?_|refine mvF ?_|refine yT ?_|refine yF ?_);conv=>whnf))
        refine ⟨bl, 0, rfl, ⟨by omega, by omega⟩, ?_⟩
        ((conv=>whnf);repeat((first|refine mvT ?_|refine mvF ?_|refine yT ?_|refine yF ?_);conv=>whnf))
        refine ldS ((hobl.e0 hxw).cell rfl) ?_;((conv=>whnf);repeat((first|refine mvT ?_|refine mvF ?_|refine yT ?_|refine yF ?_);conv=>whnf))
        refine ⟨_, ld ((hq.e0 (hx0.e0 hxw)).cell (j := 11) rfl) (by simp), ?_⟩
        ((conv=>whnf);repeat((first|refine mvT ?_|refine mvF ?_|refine yT ?_|refine yF ?_);conv=>whnf))
        refine ⟨be, oe, rfl, ⟨by omega, by omega⟩, ?_⟩
        ((conv=>whnf);repeat((first|refine mvT ?_|refine mvF ?_|refine yT ?_|refine yF ?_);conv=>whnf))
        constructor
        · conv => whnf
          refine Does.mono (tellTaskIDs (F := F) (hce.e0 (hx0.e0 hxw)) (QPart_later true 8 _ _ _ w0 _ F F nob hqe (hx0.e0 hxw) fun k _ hf => ⟨fun f => f, hf⟩) hlime) ?_
          rintro r wt ⟨t', hnr', ⟨cr, rfl, htr⟩, hxt⟩
          have hszt := hxw.size
          have hxw := hxw.e0 hxt
          obtain ⟨n', sv', nl', lv', uv', rfl⟩ : ∃ n sv nl lv uv, cr = [.int .i64 n, sv, .bool nl, lv, uv] := by cases htr; exact ⟨_, _, _, _, _, rfl⟩
          refine ⟨by (conv => whnf); exact ⟨⟨_, (hobt.e0 hxw).cell rfl, rfl, rfl⟩, ⟨_, (hobl.e0 hxw).cell rfl, rfl, rfl⟩, trivial⟩, ?_⟩
          conv => whnf
          intro bs ws hbs hos hxs
          have hos : Own ws bs TT [.int .i64 0, .slice none 0 0, .bool false, .slice none 0 0, .slice none 0 0] := hos
          have hxw := hxw.e0 hxs
          refine ⟨by (conv => whnf); exact ⟨⟨_, (hobt.e0 hxw).cell rfl, rfl, rfl⟩, ⟨_, (hobl.e0 hxw).cell rfl, rfl, rfl⟩, ⟨_, (hq.e0 (hx0.e0 hxw)).cell (j := 11) rfl, rfl, rfl⟩, trivial⟩, ?_⟩
          have htrw : TrC ws (fun k => w.heap.size ≤ k ∧ k < ws.heap.size) [.int .i64 n', sv', .bool nl', lv', uv'] t' := ((htr.mono (F' := fun k => w.heap.size ≤ k ∧ k < wt.heap.size) fun k hk h => ⟨by omega, hk⟩).ext hxs fun _ _ _ f => f).mono fun k hk h => ⟨h.1, hk⟩
          conv => whnf
          refine OLn.app (x := .mk 0 [] false [] []) (hT.ext hxw fun _ _ _ f => f) rfl hos rfl rfl (by omega) (by decide) (by have := hxw.size; have := hxL.size; omega) (TrC.leaf rfl (Bytes.nil _ _)) ?_
          intro v5 w5 hT5 hx5 hbk5
          obtain ⟨a5, c5, rfl⟩ := hT5.one
          have hown5 : ∀ k, (Value.slice av ts10.length cv).ownBlock = some k → wL.heap.size ≤ k ∧ k < w.heap.size := fun k hk => hT.own k hk
          have hbl5 := (hobl.e0 hxw).ext hx5 fun h => by have := hown5 bl h; have := hLlt bl (by simp [inL]); omega
          have hblL := hLlt bl (by simp [inL])
          have hsLw := hxL.size
          have hszx := hxw.size
          ((conv=>whnf);repeat((first|refine mvT ?_|refine mvF ?_|refine yT ?_|refine yF ?_);conv=>whnf))
          refine ⟨bl, 0, rfl, ⟨by omega, by omega⟩, ?_⟩
          ((conv=>whnf);repeat((first|refine mvT ?_|refine mvF ?_|refine yT ?_|refine yF ?_);conv=>whnf))
          refine st_cell (o := 53) (v := .slice a5 (ts10 ++ [T.mk 0 [] false [] []]).length c5) hbl5 rfl rfl rfl (by simp) rfl ?_
          intro w6 ho6 hx6
          ((conv=>whnf);repeat((first|refine mvT ?_|refine mvF ?_|refine yT ?_|refine yF ?_);conv=>whnf))
          have hT6 := hT5.ext hx6 (fun k _ h1 h2 => by omega)
          obtain ⟨g, cap, hv, hput⟩ := hT6.last
          injection hv with e1 e2 e3
          subst e1
          subst e3
          have htr6 : TrC w6 (fun k => wL.heap.size ≤ k ∧ (Value.slice (some ⟨g, 0, none⟩) (ts10 ++ [T.mk 0 [] false [] []]).length c5).ownBlock ≠ some k) [.int .i64 n', sv', .bool nl', lv', uv'] t' := by
            refine ((htrw.ext hx5 fun k _ h e => by have := hown5 k e; omega).ext hx6 fun k _ h e => by omega).mono fun k _ h => ⟨by omega, fun e => ?_⟩
            rcases hbk5 with e2 | ⟨q2, e2, hle⟩
            · have := hown5 k (e2 ▸ e); omega
            · rw [e, Option.some.injEq] at e2
              omega
          refine ⟨g, 0, rfl, ⟨by omega, by simp; omega⟩, ?_⟩
          ((conv=>whnf);repeat((first|refine mvT ?_|refine mvF ?_|refine yT ?_|refine yF ?_);conv=>whnf))
          refine hput [.int .i64 n', sv', .bool nl', lv', uv'] t' _ _ _ rfl (by simp) htr6 ?_
          intro w7 hT7 hx7
          ((conv=>whnf);repeat((first|refine mvT ?_|refine mvF ?_|refine yT ?_|refine yF ?_);conv=>whnf))
          have hgL : wL.heap.size ≤ g := (hT6.own g rfl).1
          have hxL7 : Ext (fun k => k = bl ∨ wL.heap.size ≤ k) wL w7 := (((hxL.trans (hxw.mono (M' := nob) fun _ _ f => f) fun k hk f => f.elim).trans hx5 fun k hk h => by have := hown5 k h; omega).trans hx6 fun k hk h => .inl h).trans hx7 fun k hk h => by omega
          refine ⟨i + 1, ⟨rfl, inc_eq (by omega), rfl, rfl, rfl, trivial⟩, ⟨by omega, hxL7, _, ts10 ++ [t'], ho6.ext hx7 (by omega), hT7, by simp [htl10], ?_⟩, by omega⟩
          intro j x y hx hy
          rcases Nat.lt_or_ge j ts10.length with hj | hj
          · rw [List.getElem?_append_left hj] at hy
            exact hnr10 j x y hx hy
          · rw [List.getElem?_append_right hj] at hy
            obtain ⟨e, he⟩ : ∃ e, j - ts10.length = e := ⟨_, rfl⟩
            rw [he] at hy
            cases e with
            | zero =>
              have : j = i := by omega
              subst this
              simp only [List.getElem?_cons_zero, Option.some.injEq] at hy
              subst hy
              rw [List.getElem?_eq_getElem (by omega), Option.some.injEq] at hx
              subst hx
              exact hnr'
            | succ e => simp at hy
        · conv => whnf
          intro bs ws hbs hos hxs
          have hos : Own ws bs TT [.int .i64 0, .slice none 0 0, .bool false, .slice none 0 0, .slice none 0 0] := hos
          have hxw := hxw.e0 hxs
          refine ⟨by (conv => whnf); exact ⟨⟨_, (hobt.e0 hxw).cell rfl, rfl, rfl⟩, ⟨_, (hobl.e0 hxw).cell rfl, rfl, rfl⟩, ⟨_, (hq.e0 (hx0.e0 hxw)).cell (j := 11) rfl, rfl, rfl⟩, trivial⟩, ?_⟩
          conv => whnf
          refine Does.mono (tellTaskIDs (F := F) (hce.e0 (hx0.e0 hxw)) (QPart_later true 8 _ _ _ w0 _ F F nob hqe (hx0.e0 hxw) fun k _ hf => ⟨fun f => f, hf⟩) hlime) ?_
          rintro r wt ⟨t', hnr', ⟨cr, rfl, htr⟩, hxt⟩
          have hszt := hxw.size
          have hxw := hxw.e0 hxt
          obtain ⟨n', sv', nl', lv', uv', rfl⟩ : ∃ n sv nl lv uv, cr = [.int .i64 n, sv, .bool nl, lv, uv] := by cases htr; exact ⟨_, _, _, _, _, rfl⟩
          refine ⟨by (conv => whnf); exact ⟨⟨_, (hobt.e0 hxw).cell rfl, rfl, rfl⟩, ⟨_, (hobl.e0 hxw).cell rfl, rfl, rfl⟩, trivial⟩, ?_⟩
          have hos := hos.e0 hxt
          have htrw : TrC wt (fun k => w.heap.size ≤ k ∧ k < wt.heap.size) [.int .i64 n', sv', .bool nl', lv', uv'] t' := htr.mono fun k hk h => ⟨by omega, hk⟩
          conv => whnf
          refine OLn.app (x := .mk 0 [] false [] []) (hT.ext hxw fun _ _ _ f => f) rfl hos rfl rfl (by omega) (by decide) (by have := hxw.size; have := hxL.size; omega) (TrC.leaf rfl (Bytes.nil _ _)) ?_
          intro v5 w5 hT5 hx5 hbk5
          obtain ⟨a5, c5, rfl⟩ := hT5.one
          have hown5 : ∀ k, (Value.slice av ts10.length cv).ownBlock = some k → wL.heap.size ≤ k ∧ k < w.heap.size := fun k hk => hT.own k hk
          have hbl5 := (hobl.e0 hxw).ext hx5 fun h => by have := hown5 bl h; have := hLlt bl (by simp [inL]); omega
          have hblL := hLlt bl (by simp [inL])
          have hsLw := hxL.size
          have hszx := hxw.size
          ((conv=>whnf);repeat((first|refine mvT ?_|refine mvF ?_|refine yT ?_|refine yF ?_);conv=>whnf))
          refine ⟨bl, 0, rfl, ⟨by omega, by omega⟩, ?_⟩
          ((conv=>whnf);repeat((first|refine mvT ?_|refine mvF ?_|refine yT ?_|refine yF ?_);conv=>whnf))
          refine st_cell (o := 53) (v := .slice a5 (ts10 ++ [T.mk 0 [] false [] []]).length c5) hbl5 rfl rfl rfl (by simp) rfl ?_
          intro w6 ho6 hx6
          ((conv=>whnf);repeat((first|refine mvT ?_|refine mvF ?_|refine yT ?_|refine yF ?_);conv=>whnf))
          have hT6 := hT5.ext hx6 (fun k _ h1 h2 => by omega)
          obtain ⟨g, cap, hv, hput⟩ := hT6.last
          injection hv with e1 e2 e3
          subst e1
          subst e3
          have htr6 : TrC w6 (fun k => wL.heap.size ≤ k ∧ (Value.slice (some ⟨g, 0, none⟩) (ts10 ++ [T.mk 0 [] false [] []]).length c5).ownBlock ≠ some k) [.int .i64 n', sv', .bool nl', lv', uv'] t' := by
            refine ((htrw.ext hx5 fun k _ h e => by have := hown5 k e; omega).ext hx6 fun k _ h e => by omega).mono fun k _ h => ⟨by omega, fun e => ?_⟩
            rcases hbk5 with e2 | ⟨q2, e2, hle⟩
            · have := hown5 k (e2 ▸ e); omega
            · rw [e, Option.some.injEq] at e2
              omega
          refine ⟨g, 0, rfl, ⟨by omega, by simp; omega⟩, ?_⟩
          ((conv=>whnf);repeat((first|refine mvT ?_|refine mvF ?_|refine yT ?_|refine yF ?_);conv=>whnf))
          refine hput [.int .i64 n', sv', .bool nl', lv', uv'] t' _ _ _ rfl (by simp) htr6 ?_
          intro w7 hT7 hx7
          ((conv=>whnf);repeat((first|refine mvT ?_|refine mvF ?_|refine yT ?_|refine yF ?_);conv=>whnf))
          have hgL : wL.heap.size ≤ g := (hT6.own g rfl).1
          have hxL7 : Ext (fun k => k = bl ∨ wL.heap.size ≤ k) wL w7 := (((hxL.trans (hxw.mono (M' := nob) fun _ _ f => f) fun k hk f => f.elim).trans hx5 fun k hk h => by have := hown5 k h; omega).trans hx6 fun k hk h => .inl h).trans hx7 fun k hk h => by omega
          refine ⟨i + 1, ⟨rfl, inc_eq (by omega), rfl, rfl, rfl, trivial⟩, ⟨by omega, hxL7, _, ts10 ++ [t'], ho6.ext hx7 (by omega), hT7, by simp [htl10], ?_⟩, by omega⟩
          intro j x y hx hy
          rcases Nat.lt_or_ge j ts10.length with hj | hj
          · rw [List.getElem?_append_left hj] at hy
            exact hnr10 j x y hx hy
          · rw [List.getElem?_append_right hj] at hy
            obtain ⟨e, he⟩ : ∃ e, j - ts10.length = e := ⟨_, rfl⟩
            rw [he] at hy
            cases e with
            | zero =>
              have : j = i := by omega
              subst this
              simp only [List.getElem?_cons_zero, Option.some.injEq] at hy
              subst hy
              rw [List.getElem?_eq_getElem (by omega), Option.some.injEq] at hx
              subst hx
              exact hnr'
            | succ e => simp at hy
    · have hil : i = ls10.length := by have := of_decide_eq_false h9; omega
      have H := Sg.up (A := [_]) H hobl (hxL.mono fun k hk h => by rcases h with h | h; exact h; omega)
      have htl10 : ts10.length = l10.length := by omega
      have hnl : a10.isNone = nl10 := hnn10 rfl
      rw [hnl] at H
      have H := H.add (Q := fun w => TrC w (fun k => w0.heap.size ≤ k) [.int .i64 0, .slice none 0 0, .bool nl10, vl10, .slice none 0 0] (.mk 0 [] nl10 ts10 [])) fun w3 x => (hT.ext x fun k hk h1 h2 => by
        have h3 : k < wL.heap.size := hLlt k (by rcases inL3 h2 with h | h | h <;> subst h <;> simp [inL])
        omega).row fun k hk => by omega
      obtain ⟨P10, hP10⟩ : ∃ P : World → Prop, P = fun w => TrC w (fun k => w0.heap.size ≤ k) [.int .i64 0, .slice none 0 0, .bool nl10, vl10, .slice none 0 0] (.mk 0 [] nl10 ts10 []) ∧ P9 w := ⟨_, rfl⟩
      replace H : Sg w0 [(bt, Tt, [.int .i64 0, .slice none 0 0, .bool false, .slice (some ⟨bl, 0, none⟩) 16 16, .slice none 0 0]), (bl, Tl, (.int .i64 n0 :: .slice none 0 0 :: .bool false :: .slice none 0 0 :: .slice none 0 0 :: .int .i64 n1 :: .slice none 0 0 :: .bool false :: .slice none 0 0 :: .slice none 0 0 :: .int .i64 nv2 :: sv2 :: .bool nm2 :: lv2 :: uv2 :: .int .i64 0 :: .slice (some ⟨bb3, 0, none⟩) s3.length cb3 :: .bool false :: .slice none 0 0 :: .slice none 0 0 :: .int .i64 n4 :: .slice none 0 0 :: .bool false :: .slice none 0 0 :: .slice none 0 0 :: .int .i64 n5 :: .slice none 0 0 :: .bool false :: .slice none 0 0 :: .slice none 0 0 :: .int .i64 n6 :: .slice none 0 0 :: .bool false :: .slice none 0 0 :: .slice none 0 0 :: .int .i64 n7 :: .slice none 0 0 :: .bool false :: .slice none 0 0 :: .slice none 0 0 :: .int .i64 n8 :: .slice none 0 0 :: .bool false :: .slice none 0 0 :: .slice none 0 0 :: .int .i64 0 :: .slice none 0 0 :: .bool nl9 :: vl9 :: .slice none 0 0 :: .int .i64 0 :: .slice none 0 0 :: .bool nl10 :: vl10 :: .slice none 0 0 :: .int .i64 0 :: .slice none 0 0 :: .bool false :: .slice none 0 0 :: .slice none 0 0 :: .int .i64 0 :: .slice none 0 0 :: .bool false :: .slice none 0 0 :: .slice none 0 0 :: .int .i64 0 :: .slice none 0 0 :: .bool false :: .slice none 0 0 :: .slice none 0 0 :: .int .i64 0 :: .slice none 0 0 :: .bool false :: .slice none 0 0 :: .slice none 0 0 :: .int .i64 0 :: .slice none 0 0 :: .bool false :: .slice none 0 0 :: .slice none 0 0 :: [])), (b2, T2, [.int .i64 0, .slice none 0 0, .bool false, .slice none 0 0, .slice none 0 0])] P10 w := by rw [hP10]; exact H
      ((conv=>whnf);repeat((first|refine mvT ?_|refine mvF ?_|refine yT ?_|refine yF ?_);conv=>whnf))
      refine VD.draw mixed (.q 0 (.q 1 (.q 2 (.q 3 (.q 4 (.q 5 (.q 6 (.q 7 (.q 8 (.eff 9 [] (.done))))))))))) (by kernel_rfl) ?_;((conv=>whnf);repeat((first|refine mvT ?_|refine mvF ?_|refine yT ?_|refine yF ?_);conv=>whnf))
      replace H := H.e0 (ext_drew _)
      refine ldS ((Sg.at (A := []) H).cell rfl) ?_;((conv=>whnf);repeat((first|refine mvT ?_|refine mvF ?_|refine yT ?_|refine yF ?_);conv=>whnf))
      refine ⟨_, ld ((hq.e0 H.ext).cell (j := 12) rfl) (by simp), ?_⟩
      ((conv=>whnf);repeat((first|refine mvT ?_|refine mvF ?_|refine yT ?_|refine yF ?_);conv=>whnf))
      refine ⟨bl, 0, rfl, ⟨by omega, by omega⟩, ?_⟩
      ((conv=>whnf);repeat((first|refine mvT ?_|refine mvF ?_|refine yT ?_|refine yF ?_);conv=>whnf))
      refine Sg.st (A := [_]) (o' := 57) (m := [.bool a11.isNone]) H rfl (Nat.le_of_ble_eq_true rfl) (rfl) ?_
      clear H
      intro w H
      replace H : Sg w0 [(bt, Tt, [.int .i64 0, .slice none 0 0, .bool false, .slice (some ⟨bl, 0, none⟩) 16 16, .slice none 0 0]), (bl, Tl, (.int .i64 n0 :: .slice none 0 0 :: .bool false :: .slice none 0 0 :: .slice none 0 0 :: .int .i64 n1 :: .slice none 0 0 :: .bool false :: .slice none 0 0 :: .slice none 0 0 :: .int .i64 nv2 :: sv2 :: .bool nm2 :: lv2 :: uv2 :: .int .i64 0 :: .slice (some ⟨bb3, 0, none⟩) s3.length cb3 :: .bool false :: .slice none 0 0 :: .slice none 0 0 :: .int .i64 n4 :: .slice none 0 0 :: .bool false :: .slice none 0 0 :: .slice none 0 0 :: .int .i64 n5 :: .slice none 0 0 :: .bool false :: .slice none 0 0 :: .slice none 0 0 :: .int .i64 n6 :: .slice none 0 0 :: .bool false :: .slice none 0 0 :: .slice none 0 0 :: .int .i64 n7 :: .slice none 0 0 :: .bool false :: .slice none 0 0 :: .slice none 0 0 :: .int .i64 n8 :: .slice none 0 0 :: .bool false :: .slice none 0 0 :: .slice none 0 0 :: .int .i64 0 :: .slice none 0 0 :: .bool nl9 :: vl9 :: .slice none 0 0 :: .int .i64 0 :: .slice none 0 0 :: .bool nl10 :: vl10 :: .slice none 0 0 :: .int .i64 0 :: .slice none 0 0 :: .bool a11.isNone :: .slice none 0 0 :: .slice none 0 0 :: .int .i64 0 :: .slice none 0 0 :: .bool false :: .slice none 0 0 :: .slice none 0 0 :: .int .i64 0 :: .slice none 0 0 :: .bool false :: .slice none 0 0 :: .slice none 0 0 :: .int .i64 0 :: .slice none 0 0 :: .bool false :: .slice none 0 0 :: .slice none 0 0 :: .int .i64 0 :: .slice none 0 0 :: .bool false :: .slice none 0 0 :: .slice none 0 0 :: [])), (b2, T2, [.int .i64 0, .slice none 0 0, .bool false, .slice none 0 0, .slice none 0 0])] P10 w := H
      ((conv=>whnf);repeat((first|refine mvT ?_|refine mvF ?_|refine yT ?_|refine yF ?_);conv=>whnf))
      refine ⟨_, ld ((hq.e0 H.ext).cell (j := 12) rfl) (by simp), ?_⟩
      ((conv=>whnf);repeat((first|refine mvT ?_|refine mvF ?_|refine yT ?_|refine yF ?_);conv=>whnf))
      have hlsT : lsT (.mk 0 [] nl11 l11 []) = l11 := by
        show (if nl11 = true then [] else l11) = l11
        split
        · rename_i e
          exact (hnl11 e).symm
        · rfl
      rw [hlsT] at hll11 hrl11
      obtain ⟨wL, hwL⟩ : ∃ wL, wL = w := ⟨_, rfl⟩
      rw [← hwL] at H ⊢
      have hLlt := H.own.lt
      have hLl : l11.length ≤ 1000000 ∧ ∀ x, x ∈ l11 → LimT x := by
        have := hLs (.mk 0 [] nl11 l11 []) (by simp)
        cases this
        exact ⟨by assumption, by assumption⟩
      have hs0L := H.ext.size
      refine VL.loop (fun i : Nat => [(215, .int .i64 ls11.length), (216, .int .i64 i), (0, .pointer (some ⟨q, o, none⟩)), (2, .pointer (some ⟨b2, 0, none⟩)), (3, .pointer (some ⟨bt, 0, none⟩))])
        (fun i w' => i ≤ ls11.length ∧ Ext (fun k => k = bl ∨ wL.heap.size ≤ k) wL w' ∧ ∃ vl ts, Own w' bl Tl (.int .i64 n0 :: .slice none 0 0 :: .bool false :: .slice none 0 0 :: .slice none 0 0 :: .int .i64 n1 :: .slice none 0 0 :: .bool false :: .slice none 0 0 :: .slice none 0 0 :: .int .i64 nv2 :: sv2 :: .bool nm2 :: lv2 :: uv2 :: .int .i64 0 :: .slice (some ⟨bb3, 0, none⟩) s3.length cb3 :: .bool false :: .slice none 0 0 :: .slice none 0 0 :: .int .i64 n4 :: .slice none 0 0 :: .bool false :: .slice none 0 0 :: .slice none 0 0 :: .int .i64 n5 :: .slice none 0 0 :: .bool false :: .slice none 0 0 :: .slice none 0 0 :: .int .i64 n6 :: .slice none 0 0 :: .bool false :: .slice none 0 0 :: .slice none 0 0 :: .int .i64 n7 :: .slice none 0 0 :: .bool false :: .slice none 0 0 :: .slice none 0 0 :: .int .i64 n8 :: .slice none 0 0 :: .bool false :: .slice none 0 0 :: .slice none 0 0 :: .int .i64 0 :: .slice none 0 0 :: .bool nl9 :: vl9 :: .slice none 0 0 :: .int .i64 0 :: .slice none 0 0 :: .bool nl10 :: vl10 :: .slice none 0 0 :: .int .i64 0 :: .slice none 0 0 :: .bool a11.isNone :: vl :: .slice none 0 0 :: .int .i64 0 :: .slice none 0 0 :: .bool false :: .slice none 0 0 :: .slice none 0 0 :: .int .i64 0 :: .slice none 0 0 :: .bool false :: .slice none 0 0 :: .slice none 0 0 :: .int .i64 0 :: .slice none 0 0 :: .bool false :: .slice none 0 0 :: .slice none 0 0 :: .int .i64 0 :: .slice none 0 0 :: .bool false :: .slice none 0 0 :: .slice none 0 0 :: []) ∧ OLn w' wL.heap.size vl ts ∧ ts.length = i ∧ ∀ (j : Nat) (x y : T), l11[j]? = some x → ts[j]? = some y → Nrm x y) (fun i => ls11.length - i) 0
        ⟨rfl, rfl, rfl, rfl, rfl, trivial⟩ ⟨Nat.zero_le _, Ext.refl _ _, _, [], Sg.at (A := [_]) H, OLn.nil _ _, rfl, by simp⟩ ?_
      rintro i w ⟨hi, hxL, vl11, ts11, hobl, hT, htl11, hnr11⟩
      ((conv=>whnf);repeat((first|refine mvT ?_|refine mvF ?_|refine yT ?_|refine yF ?_);conv=>whnf))
      refine cI (by rfl) (fun h9=>?_) (fun h9=>?_)
      · have hil : i < ls11.length := by have := of_decide_eq_true h9; omega
        obtain ⟨be, oe, rfl, hFe, hbe, hce⟩ := hcl11 i ls11[i] (by simp [hil])
        have hqe := hrl11 i ls11[i] l11[i] (by simp [hil]) (by simp)
        have hlime := hLl.2 l11[i] (List.getElem_mem _)
        have hx0 : Ext nob w0 w := H.ext.trans hxL fun k hk h => by
          rcases h with h | h
          · omega
          · omega
        have hobt : Own w bt Tt [.int .i64 0, .slice none 0 0, .bool false, .slice (some ⟨bl, 0, none⟩) 16 16, .slice none 0 0] := (Sg.at (A := []) H).ext hxL fun h => by
          have := hLlt bt (by simp [inL])
          have h2 := (H.dis.2.1 : ¬ inL _ bt)
          rcases h with h | h
          · exact h2 (by rw [h]; simp [inL])
          · omega
        obtain ⟨av, cv, rfl⟩ := hT.one
        ((conv=>whnf);repeat((first|refine mvT ?_|refine mvF ?_|refine yT ?_|refine yF ?_);conv=>whnf))
        refine VD.draw mixed (.eff 0 [] (.alt (.eff 1 [] (.eff 2 [] (.q 3 (.done)))) (.eff 2 [] (.eff 1 [] (.q 3 (.done)))))) (by kernel_rfl) ?_;((conv=>whnf);repeat((first|refine mvT ?_|refine mvF ?_|refine yT ?_|refine yF ?_);conv=>whnf))
        intro bb wb hbb hob hxb
        have hxb : Ext nob w wb := (ext_drew w).e0 hxb
        have hbb : w.heap.size ≤ bb := hbb
        ((conv=>whnf);repeat((first|refine mvT ?_|refine mvF ?_|refine yT ?_|refine yF ?_);conv=>whnf))
        constructor
        · conv => whnf
          refine st_all [.bool true] hob rfl rfl rfl ?_
          intro wc hoc hxc
          conv => whnf
          refine st_all [.bool false] hoc rfl rfl rfl ?_
          intro wd hod hxd
          ((conv=>whnf);repeat((first|refine mvT ?_|refine mvF ?_|refine yT ?_|refine yF ?_);conv=>whnf))
          refine ldS (hod.cell rfl) ?_;((conv=>whnf);repeat((first|refine mvT ?_|refine mvF ?_|refine yT ?_|refine yF ?_);conv=>whnf))
          have hxw : Ext nob w wd := (hxb.st hxc hbb).st hxd hbb
          refine VD.draw mixed (.q 0 (.q 1 (.q 2 (.q 3 (.q 4 (.q 5 (.q 6 (.q 7 (.q 8 (.q 9 (.q 10 (.q 11 (.q 12 (.eff 13 [1, 3, 6] (.eff 14 [1, 3, 6] (.eff 15 [1] (.q 16 (.q 17 (.eff 18 [] (.done)))))))))))))))))))) (by kernel_rfl) ?_;((conv=>whnf);repeat((first|refine mvT ?_|refine mvF ?_|refine yT ?_|refine yF ?_);conv=>whnf))
          have hxw := hxw.e0 (ext_drew _)
          have hszd := hxw.size
          refine ldS ((hobt.e0 hxw).cell rfl) ?_;((conv=>whnf);repeat((first|refine mvT ?_|refine mvF ?_|refine yT ?_|refine yF ?_);conv=>whnf))
          refine ldS ((hobt.e0 hxw).cell rfl) ?_;((conv=>whnf);repeat((first|refine mvT ?_|refine mvF ?_|refine yT ?_|refine yF ?_);conv=>whnf))
          refine ⟨bl, 0, rfl, ⟨by omega, by omega⟩, ?_⟩
          ((conv=>whnf);repeat((first|refine mvT ?_|refine mvF ?_|refine yT ?_|refine yF ?_);conv=>whnf))
          refine ldS ((hobl.e0 hxw).cell rfl) ?_;((conv=>whnf);repeat((first|refine mvT ?_|refine mvF ?_|refine yT ?_|refine yF ?_);conv=>whnf))
          refine ⟨_, ld ((hq.e0 (hx0.e0 hxw)).cell (j := 12) rfl) (by simp), ?_⟩
          ((conv=>whnf);repeat((first|refine mvT ?_|refine mvF ?_|refine yT ?_|refine yF ?_);conv=>whnf))
          refine ⟨be, oe, rfl, ⟨by omega, by omega⟩, ?_⟩
          ((conv=>whnf);repeat((first|refine mvT ?_|refine mvF ?_|refine yT ?_|refine yF ?_);conv=>whnf))
          refine Does.mono (tellTaskIDs (F := F) (hce.e0 (hx0.e0 hxw)) (QPart_later true 8 _ _ _ w0 _ F F nob hqe (hx0.e0 hxw) fun k _ hf => ⟨fun f => f, hf⟩) hlime) ?_
          rintro r wt ⟨t', hnr', ⟨cr, rfl, htr⟩, hxt⟩
          have hszt := hxw.size
          have hxw := hxw.e0 hxt
          obtain ⟨n', sv', nl', lv', uv', rfl⟩ : ∃ n sv nl lv uv, cr = [.int .i64 n, sv, .bool nl, lv, uv] := by cases htr; exact ⟨_, _, _, _, _, rfl⟩
          refine ⟨by (conv => whnf); exact ⟨⟨_, (hobt.e0 hxw).cell rfl, rfl, rfl⟩, ⟨_, (hobt.e0 hxw).cell rfl, rfl, rfl⟩, ⟨_, (hobl.e0 hxw).cell rfl, rfl, rfl⟩, trivial⟩, ?_⟩
          conv => whnf
          intro bs ws hbs hos hxs
          have hos : Own ws bs TT [.int .i64 n', sv', .bool nl', lv', uv'] := hos
          have hxw := hxw.e0 hxs
          refine ⟨by (conv => whnf); exact ⟨⟨_, (hobt.e0 hxw).cell rfl, rfl, rfl⟩, ⟨_, (hobt.e0 hxw).cell rfl, rfl, rfl⟩, ⟨_, (hobl.e0 hxw).cell rfl, rfl, rfl⟩, trivial⟩, ?_⟩
          conv => whnf
          have hsLw := hxL.size
          refine OLn.app (x := t') (hT.ext hxw fun _ _ _ f => f) rfl hos rfl rfl (by omega) (by decide) (by have := hxw.size; omega) ((htr.ext hxs fun _ _ _ f => f).mono fun k _ hk => ⟨by omega, fun e => by have := hT.own k e; omega⟩) ?_
          intro v5 w5 hT5 hx5 _
          obtain ⟨a5, c5, rfl⟩ := hT5.one
          have hown5 : ∀ k, (Value.slice av ts11.length cv).ownBlock = some k → wL.heap.size ≤ k := fun k hk => (hT.own k hk).1
          have hbt5 := (hobt.e0 hxw).ext hx5 fun h => by have := hown5 bt h; have := hLlt bt (by simp [inL]); omega
          have hbl5 := (hobl.e0 hxw).ext hx5 fun h => by have := hown5 bl h; have := hLlt bl (by simp [inL]); omega
          refine ⟨by (conv => whnf); exact ⟨⟨_, hbt5.cell rfl, rfl, rfl⟩, trivial⟩, ?_⟩
          conv => whnf
          refine ⟨bl, 0, rfl, ⟨by omega, by omega⟩, ?_⟩
          ((conv=>whnf);repeat((first|refine mvT ?_|refine mvF ?_|refine yT ?_|refine yF ?_);conv=>whnf))
          refine st_cell (o := 58) (v := .slice a5 (ts11 ++ [t']).length c5) hbl5 rfl rfl rfl (by simp) rfl ?_
          intro w6 ho6 hx6
          ((conv=>whnf);repeat((first|refine mvT ?_|refine mvF ?_|refine yT ?_|refine yF ?_);conv=>whnf))
          have hxL6 : Ext (fun k => k = bl ∨ wL.heap.size ≤ k) wL w6 := ((hxL.trans (hxw.mono (M' := nob) fun _ _ f => f) fun k hk f => f.elim).trans hx5 fun k hk h => by have := hown5 k h; omega).trans hx6 fun k hk h => .inl h
          refine ⟨i + 1, ⟨rfl, inc_eq (by omega), rfl, rfl, rfl, trivial⟩, ⟨by omega, hxL6, _, ts11 ++ [t'], ho6, hT5.ext hx6 (fun k _ h1 h2 => by have := hLlt bl (by simp [inL]); omega), by simp [htl11], ?_⟩, by omega⟩
          intro j x y hx hy
          rcases Nat.lt_or_ge j ts11.length with hj | hj
          · rw [List.getElem?_append_left hj] at hy
            exact hnr11 j x y hx hy
          · rw [List.getElem?_append_right hj] at hy
            obtain ⟨e, he⟩ : ∃ e, j - ts11.length = e := ⟨_, rfl⟩
            rw [he] at hy
            cases e with
            | zero =>
              have : j = i := by omega
              subst this
              simp only [List.getElem?_cons_zero, Option.some.injEq] at hy
              subst hy
              rw [List.getElem?_eq_getElem (by omega), Option.some.injEq] at hx
              subst hx
              exact hnr'
            | succ e => simp at hy
        · conv => whnf
          refine st_all [.bool false] hob rfl rfl rfl ?_
          intro wc hoc hxc
          conv => whnf
          refine st_all [.bool true] hoc rfl rfl rfl ?_
          intro wd hod hxd
          ((conv=>whnf);repeat((first|refine mvT ?_|refine mvF ?_|refine yT ?_|refine yF ?_);conv=>whnf))
          refine ldS (hod.cell rfl) ?_;((conv=>whnf);repeat((first|refine mvT ?_|refine mvF ?_|refine yT ?_|refine yF ?_);conv=>whnf))
          have hxw : Ext nob w wd := (hxb.st hxc hbb).st hxd hbb
          refine VD.draw mixed (.q 0 (.q 1 (.q 2 (.q 3 (.q 4 (.q 5 (.q 6 (.q 7 (.q 8 (.q 9 (.q 10 (.q 12 (.alt (.eff 11 [1, 4] (.eff 13 [1, 4, 8] (.eff 14 [] (.q 15 (.q 16 (.eff 17 [] (.done))))))) (.eff 13 [1, 4, 8] (.eff 11 [1, 4] (.eff 14 [] (.q 15 (.q 16 (.eff 17 [] (.done)))))))))))))))))))) (by kernel_rfl) ?_;((conv=>whnf);repeat((first|refine mvT ?_|refine mvF ?_|refine yT ?_|refine yF ?_);conv=>whnf))
          have hxw := hxw.e0 (ext_drew _)
          have hszd := hxw.size
          refine ldS ((hobt.e0 hxw).cell rfl) ?_;((conv=>whnf);repeat((first|refine mvT ?_|refine mvF ?_|refine yT ?_|refine yF ?_);conv=>whnf))
          refine ⟨bl, 0, rfl, ⟨by omega, by omega⟩, ?_⟩
          ((conv=>whnf);repeat((first|refine mvT ?_|refine mvF ?_|refine yT ?_|refine yF ?_);conv=>whnf))
          refine ldS ((hobl.e0 hxw).cell rfl) ?_;((conv=>whnf);repeat((first|refine mvT ?_|refine mvF ?_|refine yT ?_|refine yF ?_);conv=>whnf))
          refine ⟨_, ld ((hq.e0 (hx0.e0 hxw)).cell (j := 12) rfl) (by simp), ?_⟩
          ((conv=>whnf);repeat((first|refine mvT ?_|refine mvF ?_|refine yT ?_|refine yF ?_);conv=>whnf))
          refine ⟨be, oe, rfl, ⟨by omega, by omega⟩, ?_⟩
          ((conv=>whnf);repeat((first|refine mvT ?_|refine mvF ?_|refine yT ?_|refine yF ?_);conv=>whnf))
          constructor
          · conv => whnf
            refine Does.mono (tellTaskIDs (F := F) (hce.e0 (hx0.e0 hxw)) (QPart_later true 8 _ _ _ w0 _ F F nob hqe (hx0.e0 hxw) fun k _ hf => ⟨fun f => f, hf⟩) hlime) ?_
            rintro r wt ⟨t', hnr', ⟨cr, rfl, htr⟩, hxt⟩
            have hszt := hxw.size
            have hxw := hxw.e0 hxt
            obtain ⟨n', sv', nl', lv', uv', rfl⟩ : ∃ n sv nl lv uv, cr = [.int .i64 n, sv, .bool nl, lv, uv] := by cases htr; exact ⟨_, _, _, _, _, rfl⟩
            refine ⟨by (conv => whnf); exact ⟨⟨_, (hobt.e0 hxw).cell rfl, rfl, rfl⟩, ⟨_, (hobl.e0 hxw).cell rfl, rfl, rfl⟩, trivial⟩, ?_⟩
            conv => whnf
            intro bs ws hbs hos hxs
            have hos : Own ws bs TT [.int .i64 0, .slice none 0 0, .bool false, .slice none 0 0, .slice none 0 0] := hos
            have hxw := hxw.e0 hxs
            refine ⟨by (conv => whnf); exact ⟨⟨_, (hobt.e0 hxw).cell rfl, rfl, rfl⟩, ⟨_, (hobl.e0 hxw).cell rfl, rfl, rfl⟩, ⟨_, (hq.e0 (hx0.e0 hxw)).cell (j := 12) rfl, rfl, rfl⟩, trivial⟩, ?_⟩
            have htrw : TrC ws (fun k => w.heap.size ≤ k ∧ k < ws.heap.size) [.int .i64 n', sv', .bool nl', lv', uv'] t' := ((htr.mono (F' := fun k => w.heap.size ≤ k ∧ k < wt.heap.size) fun k hk h => ⟨by omega, hk⟩).ext hxs fun _ _ _ f => f).mono fun k hk h => ⟨h.1, hk⟩
            conv => whnf
            refine OLn.app (x := .mk 0 [] false [] []) (hT.ext hxw fun _ _ _ f => f) rfl hos rfl rfl (by omega) (by decide) (by have := hxw.size; have := hxL.size; omega) (TrC.leaf rfl (Bytes.nil _ _)) ?_
            intro v5 w5 hT5 hx5 hbk5
            obtain ⟨a5, c5, rfl⟩ := hT5.one
            have hown5 : ∀ k, (Value.slice av ts11.length cv).ownBlock = some k → wL.heap.size ≤ k ∧ k < w.heap.size := fun k hk => hT.own k hk
            have hbl5 := (hobl.e0 hxw).ext hx5 fun h => by have := hown5 bl h; have := hLlt bl (by simp [inL]); omega
            have hblL := hLlt bl (by simp [inL])
            have hsLw := hxL.size
            have hszx := hxw.size
            ((conv=>whnf);repeat((first|refine mvT ?_|refine mvF ?_|refine yT ?_|refine yF ?_);conv=>whnf))
            refine ⟨bl, 0, rfl, ⟨by omega, by omega⟩, ?_⟩
            ((conv=>whnf);repeat((first|refine mvT ?_|refine mvF ?_|refine yT ?_|refine yF ?_);conv=>whnf))
            refine st_cell (o := 58) (v := .slice a5 (ts11 ++ [T.mk 0 [] false [] []]).length c5) hbl5 rfl rfl rfl (by simp) rfl ?_
            intro w6 ho6 hx6
            ((conv=>whnf);repeat((first|refine mvT ?_|refine mvF ?_|refine yT ?_|refine yF ?_);conv=>whnf))
            have hT6 := hT5.ext hx6 (fun k _ h1 h2 => by omega)
            obtain ⟨g, cap, hv, hput⟩ := hT6.last
            injection hv with e1 e2 e3
            subst e1
            subst e3
            have htr6 : TrC w6 (fun k => wL.heap.size ≤ k ∧ (Value.slice (some ⟨g, 0, none⟩) (ts11 ++ [T.mk 0 [] false [] []]).length c5).ownBlock ≠ some k) [.int .i64 n', sv', .bool nl', lv', uv'] t' := by
              refine ((htrw.ext hx5 fun k _ h e => by have := hown5 k e; omega).ext hx6 fun k _ h e => by omega).mono fun k _ h => ⟨by omega, fun e => ?_⟩
              rcases hbk5 with e2 | ⟨q2, e2, hle⟩
              · have := hown5 k (e2 ▸ e); omega
              · rw [e, Option.some.injEq] at e2
                omega
            refine ⟨g, 0, rfl, ⟨by omega, by simp; omega⟩, ?_⟩
            ((conv=>whnf);repeat((first|refine mvT ?_|refine mvF ?_|refine yT ?_|refine yF ?_);conv=>whnf))
            refine hput [.int .i64 n', sv', .bool nl', lv', uv'] t' _ _ _ rfl (by simp) htr6 ?_
            intro w7 hT7 hx7
            ((conv=>whnf);repeat((first|refine mvT ?_|refine mvF ?_|refine yT ?_|refine yF ?_);conv=>whnf))
            have hgL : wL.heap.size ≤ g := (hT6.own g rfl).1
            have hxL7 : Ext (fun k => k = bl ∨ wL.heap.size ≤ k) wL w7 := (((hxL.trans (hxw.mono (M' := nob) fun _ _ f => f) fun k hk f => f.elim).trans hx5 fun k hk h => by have := hown5 k h; omega).trans hx6 fun k hk h => .inl h).trans hx7 fun k hk h => by omega
            refine ⟨i + 1, ⟨rfl, inc_eq (by omega), rfl, rfl, rfl, trivial⟩, ⟨by omega, hxL7, _, ts11 ++ [t'], ho6.ext hx7 (by omega), hT7, by simp [htl11], ?_⟩, by omega⟩
            intro j x y hx hy
            rcases Nat.lt_or_ge j ts11.length with hj | hj
            · rw [List.getElem?_append_left hj] at hy
              exact hnr11 j x y hx hy
            · rw [List.getElem?_append_right hj] at hy
              obtain ⟨e, he⟩ : ∃ e, j - ts11.length = e := ⟨_, rfl⟩
              rw [he] at hy
              cases e with
              | zero =>
                have : j = i := by omega
                subst this
                simp only [List.getElem?_cons_zero, Option.some.injEq] at hy
                subst hy
                rw [List.getElem?_eq_getElem (by omega), Option.some.injEq] at hx
                subst hx
                exact hnr'
              | succ e => simp at hy
          · conv => whnf
            intro bs ws hbs hos hxs
            have hos : Own ws bs TT [.int .i64 0, .slice none 0 0, .bool false, .slice none 0 0, .slice none 0 0] := hos
            have hxw := hxw.e0 hxs
            refine ⟨by (conv => whnf); exact ⟨⟨_, (hobt.e0 hxw).cell rfl, rfl, rfl⟩, ⟨_, (hobl.e0 hxw).cell rfl, rfl, rfl⟩, ⟨_, (hq.e0 (hx0.e0 hxw)).cell (j := 12) rfl, rfl, rfl⟩, trivial⟩, ?_⟩
            conv => whnf
            refine Does.mono (tellTaskIDs (F := F) (hce.e0 (hx0.e0 hxw)) (QPart_later true 8 _ _ _ w0 _ F F nob hqe (hx0.e0 hxw) fun k _ hf => ⟨fun f => f, hf⟩) hlime) ?_
            rintro r wt ⟨t', hnr', ⟨cr, rfl, htr⟩, hxt⟩
            have hszt := hxw.size
            have hxw := hxw.e0 hxt
            obtain ⟨n', sv', nl', lv', uv', rfl⟩ : ∃ n sv nl lv uv, cr = [.int .i64 n, sv, .bool nl, lv, uv] := by cases htr; exact ⟨_, _, _, _, _, rfl⟩
            refine ⟨by (conv => whnf); exact ⟨⟨_, (hobt.e0 hxw).cell rfl, rfl, rfl⟩, ⟨_, (hobl.e0 hxw).cell rfl, rfl, rfl⟩, trivial⟩, ?_⟩
            have hos := hos.e0 hxt
            have htrw : TrC wt (fun k => w.heap.size ≤ k ∧ k < wt.heap.size) [.int .i64 n', sv', .bool nl', lv', uv'] t' := htr.mono fun k hk h => ⟨by omega, hk⟩
            conv => whnf
            refine OLn.app (x := .mk 0 [] false [] []) (hT.ext hxw fun _ _ _ f => f) rfl hos rfl rfl (by omega) (by decide) (by have := hxw.size; have := hxL.size; omega) (TrC.leaf rfl (Bytes.nil _ _)) ?_
            intro v5 w5 hT5 hx5 hbk5
            obtain ⟨a5, c5, rfl⟩ := hT5.one
            have hown5 : ∀ k, (Value.slice av ts11.length cv).ownBlock = some k → wL.heap.size ≤ k ∧ k < w.heap.size := fun k hk => hT.own k hk
            have hbl5 := (hobl.e0 hxw).ext hx5 fun h => by have := hown5 bl h; have := hLlt bl (by simp [inL]); omega
            have hblL := hLlt bl (by simp [inL])
            have hsLw := hxL.size
            have hszx := hxw.size
            ((conv=>whnf);repeat((first|refine mvT ?_|refine mvF ?_|refine yT ?_|refine yF ?_);conv=>whnf))
            refine ⟨bl, 0, rfl, ⟨by omega, by omega⟩, ?_⟩
            ((conv=>whnf);repeat((first|refine mvT ?_|refine mvF ?_|refine yT ?_|refine yF ?_);conv=>whnf))
            refine st_cell (o := 58) (v := .slice a5 (ts11 ++ [T.mk 0 [] false [] []]).length c5) hbl5 rfl rfl rfl (by simp) rfl ?_
            intro w6 ho6 hx6
            ((conv=>whnf);repeat((first|refine mvT ?_|refine mvF ?_|refine yT ?_|refine yF ?_);conv=>whnf))
            have hT6 := hT5.ext hx6 (fun k _ h1 h2 => by omega)
            obtain ⟨g, cap, hv, hput⟩ := hT6.last
            injection hv with e1 e2 e3
            subst e1
            subst e3
            have htr6 : TrC w6 (fun k => wL.heap.size ≤ k ∧ (Value.slice (some ⟨g, 0, none⟩) (ts11 ++ [T.mk 0 [] false [] []]).length c5).ownBlock ≠ some k) [.int .i64 n', sv', .bool nl', lv', uv'] t' := by
              refine ((htrw.ext hx5 fun k _ h e => by have := hown5 k e; omega).ext hx6 fun k _ h e => by omega).mono fun k _ h => ⟨by omega, fun e => ?_⟩
              rcases hbk5 with e2 | ⟨q2, e2, hle⟩
              · have := hown5 k (e2 ▸ e); omega
              · rw [e, Option.some.injEq] at e2
                omega
            refine ⟨g, 0, rfl, ⟨by omega, by simp; omega⟩, ?_⟩
            ((conv=>whnf);repeat((first|refine mvT ?_|refine mvF ?_|refine yT ?_|refine yF ?_);conv=>whnf))
            refine hput [.int .i64 n', sv', .bool nl', lv', uv'] t' _ _ _ rfl (by simp) htr6 ?_
            intro w7 hT7 hx7
            ((conv=>whnf);repeat((first|refine mvT ?_|refine mvF ?_|refine yT ?_|refine yF ?_);conv=>whnf))
            have hgL : wL.heap.size ≤ g := (hT6.own g rfl).1
            have hxL7 : Ext (fun k => k = bl ∨ wL.heap.size ≤ k) wL w7 := (((hxL.trans (hxw.mono (M' := nob) fun _ _ f => f) fun k hk f => f.elim).trans hx5 fun k hk h => by have := hown5 k h; omega).trans hx6 fun k hk h => .inl h).trans hx7 fun k hk h => by omega
            refine ⟨i + 1, ⟨rfl, inc_eq (by omega), rfl, rfl, rfl, trivial⟩, ⟨by omega, hxL7, _, ts11 ++ [t'], ho6.ext hx7 (by omega), hT7, by simp [htl11], ?_⟩, by omega⟩
            intro j x y hx hy
            rcases Nat.lt_or_ge j ts11.length with hj | hj
            · rw [List.getElem?_append_left hj] at hy
              exact hnr11 j x y hx hy
            · rw [List.getElem?_append_right hj] at hy
              obtain ⟨e, he⟩ : ∃ e, j - ts11.length = e := ⟨_, rfl⟩
              rw [he] at hy
              cases e with
              | zero =>
                have : j = i := by omega
                subst this
                simp only [List.getElem?_cons_zero, Option.some.injEq] at hy
                subst hy
                rw [List.getElem?_eq_getElem (by omega), Option.some.injEq] at hx
                subst hx
                exact hnr'
              | succ e => simp at hy
      · have hil : i = ls11.length := by have := of_decide_eq_false h9; omega
        have H := Sg.up (A := [_]) H hobl (hxL.mono fun k hk h => by rcases h with h | h; exact h; omega)
        have htl11 : ts11.length = l11.length := by omega
        have hnl : a11.isNone = nl11 := hnn11 rfl
        rw [hnl] at H
        have H := H.add (Q := fun w => TrC w (fun k => w0.heap.size ≤ k) [.int .i64 0, .slice none 0 0, .bool nl11, vl11, .slice none 0 0] (.mk 0 [] nl11 ts11 [])) fun w3 x => (hT.ext x fun k hk h1 h2 => by
          have h3 : k < wL.heap.size := hLlt k (by rcases inL3 h2 with h | h | h <;> subst h <;> simp [inL])
          omega).row fun k hk => by omega
        obtain ⟨P11, hP11⟩ : ∃ P : World → Prop, P = fun w => TrC w (fun k => w0.heap.size ≤ k) [.int .i64 0, .slice none 0 0, .bool nl11, vl11, .slice none 0 0] (.mk 0 [] nl11 ts11 []) ∧ P10 w := ⟨_, rfl⟩
        replace H : Sg w0 [(bt, Tt, [.int .i64 0, .slice none 0 0, .bool false, .slice (some ⟨bl, 0, none⟩) 16 16, .slice none 0 0]), (bl, Tl, (.int .i64 n0 :: .slice none 0 0 :: .bool false :: .slice none 0 0 :: .slice none 0 0 :: .int .i64 n1 :: .slice none 0 0 :: .bool false :: .slice none 0 0 :: .slice none 0 0 :: .int .i64 nv2 :: sv2 :: .bool nm2 :: lv2 :: uv2 :: .int .i64 0 :: .slice (some ⟨bb3, 0, none⟩) s3.length cb3 :: .bool false :: .slice none 0 0 :: .slice none 0 0 :: .int .i64 n4 :: .slice none 0 0 :: .bool false :: .slice none 0 0 :: .slice none 0 0 :: .int .i64 n5 :: .slice none 0 0 :: .bool false :: .slice none 0 0 :: .slice none 0 0 :: .int .i64 n6 :: .slice none 0 0 :: .bool false :: .slice none 0 0 :: .slice none 0 0 :: .int .i64 n7 :: .slice none 0 0 :: .bool false :: .slice none 0 0 :: .slice none 0 0 :: .int .i64 n8 :: .slice none 0 0 :: .bool false :: .slice none 0 0 :: .slice none 0 0 :: .int .i64 0 :: .slice none 0 0 :: .bool nl9 :: vl9 :: .slice none 0 0 :: .int .i64 0 :: .slice none 0 0 :: .bool nl10 :: vl10 :: .slice none 0 0 :: .int .i64 0 :: .slice none 0 0 :: .bool nl11 :: vl11 :: .slice none 0 0 :: .int .i64 0 :: .slice none 0 0 :: .bool false :: .slice none 0 0 :: .slice none 0 0 :: .int .i64 0 :: .slice none 0 0 :: .bool false :: .slice none 0 0 :: .slice none 0 0 :: .int .i64 0 :: .slice none 0 0 :: .bool false :: .slice none 0 0 :: .slice none 0 0 :: .int .i64 0 :: .slice none 0 0 :: .bool false :: .slice none 0 0 :: .slice none 0 0 :: [])), (b2, T2, [.int .i64 0, .slice none 0 0, .bool false, .slice none 0 0, .slice none 0 0])] P11 w := by rw [hP11]; exact H
        ((conv=>whnf);repeat((first|refine mvT ?_|refine mvF ?_|refine yT ?_|refine yF ?_);conv=>whnf))
        refine VD.draw mixed (.q 0 (.q 1 (.q 2 (.q 3 (.q 4 (.q 5 (.q 6 (.q 7 (.q 8 (.eff 9 [] (.done))))))))))) (by kernel_rfl) ?_;((conv=>whnf);repeat((first|refine mvT ?_|refine mvF ?_|refine yT ?_|refine yF ?_);conv=>whnf))
        replace H := H.e0 (ext_drew _)
        refine ldS ((Sg.at (A := []) H).cell rfl) ?_;((conv=>whnf);repeat((first|refine mvT ?_|refine mvF ?_|refine yT ?_|refine yF ?_);conv=>whnf))
        refine ⟨_, ld ((hq.e0 H.ext).cell (j := 13) rfl) (by simp), ?_⟩
        ((conv=>whnf);repeat((first|refine mvT ?_|refine mvF ?_|refine yT ?_|refine yF ?_);conv=>whnf))
        refine ⟨bl, 0, rfl, ⟨by omega, by omega⟩, ?_⟩
        ((conv=>whnf);repeat((first|refine mvT ?_|refine mvF ?_|refine yT ?_|refine yF ?_);conv=>whnf))
        refine Sg.st (A := [_]) (o' := 62) (m := [.bool a12.isNone]) H rfl (Nat.le_of_ble_eq_true rfl) (rfl) ?_
        clear H
        intro w H
        replace H : Sg w0 [(bt, Tt, [.int .i64 0, .slice none 0 0, .bool false, .slice (some ⟨bl, 0, none⟩) 16 16, .slice none 0 0]), (bl, Tl, (.int .i64 n0 :: .slice none 0 0 :: .bool false :: .slice none 0 0 :: .slice none 0 0 :: .int .i64 n1 :: .slice none 0 0 :: .bool false :: .slice none 0 0 :: .slice none 0 0 :: .int .i64 nv2 :: sv2 :: .bool nm2 :: lv2 :: uv2 :: .int .i64 0 :: .slice (some ⟨bb3, 0, none⟩) s3.length cb3 :: .bool false :: .slice none 0 0 :: .slice none 0 0 :: .int .i64 n4 :: .slice none 0 0 :: .bool false :: .slice none 0 0 :: .slice none 0 0 :: .int .i64 n5 :: .slice none 0 0 :: .bool false :: .slice none 0 0 :: .slice none 0 0 :: .int .i64 n6 :: .slice none 0 0 :: .bool false :: .slice none 0 0 :: .slice none 0 0 :: .int .i64 n7 :: .slice none 0 0 :: .bool false :: .slice none 0 0 :: .slice none 0 0 :: .int .i64 n8 :: .slice none 0 0 :: .bool false :: .slice none 0 0 :: .slice none 0 0 :: .int .i64 0 :: .slice none 0 0 :: .bool nl9 :: vl9 :: .slice none 0 0 :: .int .i64 0 :: .slice none 0 0 :: .bool nl10 :: vl10 :: .slice none 0 0 :: .int .i64 0 :: .slice none 0 0 :: .bool nl11 :: vl11 :: .slice none 0 0 :: .int .i64 0 :: .slice none 0 0 :: .bool a12.isNone :: .slice none 0 0 :: .slice none 0 0 :: .int .i64 0 :: .slice none 0 0 :: .bool false :: .slice none 0 0 :: .slice none 0 0 :: .int .i64 0 :: .slice none 0 0 :: .bool false :: .slice none 0 0 :: .slice none 0 0 :: .int .i64 0 :: .slice none 0 0 :: .bool false :: .slice none 0 0 :: .slice none 0 0 :: [])), (b2, T2, [.int .i64 0, .slice none 0 0, .bool false, .slice none 0 0, .slice none 0 0])] P11 w := H
        ((conv=>whnf);repeat((first|refine mvT ?_|refine mvF ?_|refine yT ?_|refine yF ?_);conv=>whnf))
        refine ⟨_, ld ((hq.e0 H.ext).cell (j := 13) rfl) (by simp), ?_⟩
        ((conv=>whnf);repeat((first|refine mvT ?_|refine mvF ?_|refine yT ?_|refine yF ?_);conv=>whnf))
        have hlsT : lsT (.mk 0 [] nl12 l12 []) = l12 := by
          show (if nl12 = true then [] else l12) = l12
          split
          · rename_i e
            exact (hnl12 e).symm
          · rfl
        rw [hlsT] at hll12 hrl12
        obtain ⟨wL, hwL⟩ : ∃ wL, wL = w := ⟨_, rfl⟩
        rw [← hwL] at H ⊢
        have hLlt := H.own.lt
        have hLl : l12.length ≤ 1000000 ∧ ∀ x, x ∈ l12 → LimT x := by
          have := hLs (.mk 0 [] nl12 l12 []) (by simp)
          cases this
          exact ⟨by assumption, by assumption⟩
        have hs0L := H.ext.size
        refine VL.loop (fun i : Nat => [(271, .int .i64 ls12.length), (272, .int .i64 i), (0, .pointer (some ⟨q, o, none⟩)), (2, .pointer (some ⟨b2, 0, none⟩)), (3, .pointer (some ⟨bt, 0, none⟩))])
          (fun i w' => i ≤ ls12.length ∧ Ext (fun k => k = bl ∨ wL.heap.size ≤ k) wL w' ∧ ∃ vl ts, Own w' bl Tl (.int .i64 n0 :: .slice none 0 0 :: .bool false :: .slice none 0 0 :: .slice none 0 0 :: .int .i64 n1 :: .slice none 0 0 :: .bool false :: .slice none 0 0 :: .slice none 0 0 :: .int .i64 nv2 :: sv2 :: .bool nm2 :: lv2 :: uv2 :: .int .i64 0 :: .slice (some ⟨bb3, 0, none⟩) s3.length cb3 :: .bool false :: .slice none 0 0 :: .slice none 0 0 :: .int .i64 n4 :: .slice none 0 0 :: .bool false :: .slice none 0 0 :: .slice none 0 0 :: .int .i64 n5 :: .slice none 0 0 :: .bool false :: .slice none 0 0 :: .slice none 0 0 :: .int .i64 n6 :: .slice none 0 0 :: .bool false :: .slice none 0 0 :: .slice none 0 0 :: .int .i64 n7 :: .slice none 0 0 :: .bool false :: .slice none 0 0 :: .slice none 0 0 :: .int .i64 n8 :: .slice none 0 0 :: .bool false :: .slice none 0 0 :: .slice none 0 0 :: .int .i64 0 :: .slice none 0 0 :: .bool nl9 :: vl9 :: .slice none 0 0 :: .int .i64 0 :: .slice none 0 0 :: .bool nl10 :: vl10 :: .slice none 0 0 :: .int .i64 0 :: .slice none 0 0 :: .bool nl11 :: vl11 :: .slice none 0 0 :: .int .i64 0 :: .slice none 0 0 :: .bool a12.isNone :: vl :: .slice none 0 0 :: .int .i64 0 :: .slice none 0 0 :: .bool false :: .slice none 0 0 :: .slice none 0 0 :: .int .i64 0 :: .slice none 0 0 :: .bool false :: .slice none 0 0 :: .slice none 0 0 :: .int .i64 0 :: .slice none 0 0 :: .bool false :: .slice none 0 0 :: .slice none 0 0 :: []) ∧ OLn w' wL.heap.size vl ts ∧ ts.length = i ∧ ∀ (j : Nat) (x y : T), l12[j]? = some x → ts[j]? = some y → Nrm x y) (fun i => ls12.length - i) 0
          ⟨rfl, rfl, rfl, rfl, rfl, trivial⟩ ⟨Nat.zero_le _, Ext.refl _ _, _, [], Sg.at (A := [_]) H, OLn.nil _ _, rfl, by simp⟩ ?_
        rintro i w ⟨hi, hxL, vl12, ts12, hobl, hT, htl12, hnr12⟩
        ((conv=>whnf);repeat((first|refine mvT ?_|refine mvF ?_|refine yT ?_|refine yF ?_);conv=>whnf))
        refine cI (by rfl) (fun h9=>?_) (fun h9=>?_)
        · have hil : i < ls12.length := by have := of_decide_eq_true h9; omega
          obtain ⟨be, oe, rfl, hFe, hbe, hce⟩ := hcl12 i ls12[i] (by simp [hil])
          have hqe := hrl12 i ls12[i] l12[i] (by simp [hil]) (by simp)
          have hlime := hLl.2 l12[i] (List.getElem_mem _)
          have hx0 : Ext nob w0 w := H.ext.trans hxL fun k hk h => by
            rcases h with h | h
            · omega
            · omega
          have hobt : Own w bt Tt [.int .i64 0, .slice none 0 0, .bool false, .slice (some ⟨bl, 0, none⟩) 16 16, .slice none 0 0] := (Sg.at (A := []) H).ext hxL fun h => by
            have := hLlt bt (by simp [inL])
            have h2 := (H.dis.2.1 : ¬ inL _ bt)
            rcases h with h | h
            · exact h2 (by rw [h]; simp [inL])
            · omega
          obtain ⟨av, cv, rfl⟩ := hT.one
          ((conv=>whnf);repeat((first|refine mvT ?_|refine mvF ?_|refine yT ?_|refine yF ?_);conv=>whnf))
          refine VD.draw mixed (.eff 0 [] (.alt (.eff 1 [] (.eff 2 [] (.q 3 (.done)))) (.eff 2 [] (.eff 1 [] (.q 3 (.done)))))) (by kernel_rfl) ?_;((conv=>whnf);repeat((first|refine mvT ?_|refine mvF ?_|refine yT ?_|refine yF ?_);conv=>whnf))
          intro bb wb hbb hob hxb
          have hxb : Ext nob w wb := (ext_drew w).e0 hxb
          have hbb : w.heap.size ≤ bb := hbb
          ((conv=>whnf);repeat((first|refine mvT ?_|refine mvF ?_|refine yT ?_|refine yF ?_);conv=>whnf))
          constructor
          · conv => whnf
            refine st_all [.bool true] hob rfl rfl rfl ?_
            intro wc hoc hxc
            conv => whnf
            refine st_all [.bool false] hoc rfl rfl rfl ?_
            intro wd hod hxd
            ((conv=>whnf);repeat((first|refine mvT ?_|refine mvF ?_|refine yT ?_|refine yF ?_);conv=>whnf))
            refine ldS (hod.cell rfl) ?_;((conv=>whnf);repeat((first|refine mvT ?_|refine mvF ?_|refine yT ?_|refine yF ?_);conv=>whnf))
            have hxw : Ext nob w wd := (hxb.st hxc hbb).st hxd hbb
            refine VD.draw mixed (.q 0 (.q 1 (.q 2 (.q 3 (.q 4 (.q 5 (.q 6 (.q 7 (.q 8 (.q 9 (.q 10 (.q 11 (.q 12 (.eff 13 [1, 3, 6] (.eff 14 [1, 3, 6] (.eff 15 [1] (.q 16 (.q 17 (.eff 18 [] (.done)))))))))))))))))))) (by kernel_rfl) ?_;((conv=>whnf);repeat((first|refine mvT ?_|refine mvF ?_|refine yT ?_|refine yF ?_);conv=>whnf))
            have hxw := hxw.e0 (ext_drew _)
            have hszd := hxw.size
            refine ldS ((hobt.e0 hxw).cell rfl) ?_;((conv=>whnf);repeat((first|refine mvT ?_|refine mvF ?_|refine yT ?_|refine yF ?_);conv=>whnf))
            refine ldS ((hobt.e0 hxw).cell rfl) ?_;((conv=>whnf);repeat((first|refine mvT ?_|refine mvF ?_|refine yT ?_|refine yF ?_);conv=>whnf))
            refine ⟨bl, 0, rfl, ⟨by omega, by omega⟩, ?_⟩
            ((conv=>whnf);repeat((first|refine mvT ?_|refine mvF ?_|refine yT ?_|refine yF ?_);conv=>whnf))
            refine ldS ((hobl.e0 hxw).cell rfl) ?_;((conv=>whnf);repeat((first|refine mvT ?_|refine mvF ?_|refine yT ?_|refine yF ?_);conv=>whnf))
            refine ⟨_, ld ((hq.e0 (hx0.e0 hxw)).cell (j := 13) rfl) (by simp), ?_⟩
            ((conv=>whnf);repeat((first|refine mvT ?_|refine mvF ?_|refine yT ?_|refine yF ?_);conv=>whnf))
            refine ⟨be, oe, rfl, ⟨by omega, by omega⟩, ?_⟩
            ((conv=>whnf);repeat((first|refine mvT ?_|refine mvF ?_|refine yT ?_|refine yF ?_);conv=>whnf))
            refine Does.mono (tellTaskIDs (F := F) (hce.e0 (hx0.e0 hxw)) (QPart_later true 8 _ _ _ w0 _ F F nob hqe (hx0.e0 hxw) fun k _ hf => ⟨fun f => f, hf⟩) hlime) ?_
            rintro r wt ⟨t', hnr', ⟨cr, rfl, htr⟩, hxt⟩
            have hszt := hxw.size
            have hxw := hxw.e0 hxt
            obtain ⟨n', sv', nl', lv', uv', rfl⟩ : ∃ n sv nl lv uv, cr = [.int .i64 n, sv, .bool nl, lv, uv] := by cases htr; exact ⟨_, _, _, _, _, rfl⟩
            refine ⟨by (conv => whnf); exact ⟨⟨_, (hobt.e0 hxw).cell rfl, rfl, rfl⟩, ⟨_, (hobt.e0 hxw).cell rfl, rfl, rfl⟩, ⟨_, (hobl.e0 hxw).cell rfl, rfl, rfl⟩, trivial⟩, ?_⟩
            conv => whnf
            intro bs ws hbs hos hxs
            have hos : Own ws bs TT [.int .i64 n', sv', .bool nl', lv', uv'] := hos
            have hxw := hxw.e0 hxs
            refine ⟨by (conv => whnf); exact ⟨⟨_, (hobt.e0 hxw).cell rfl, rfl, rfl⟩, ⟨_, (hobt.e0 hxw).cell rfl, rfl, rfl⟩, ⟨_, (hobl.e0 hxw).cell rfl, rfl, rfl⟩, trivial⟩, ?_⟩
            conv => whnf
            have hsLw := hxL.size
            refine OLn.app (x := t') (hT.ext hxw fun _ _ _ f => f) rfl hos rfl rfl (by omega) (by decide) (by have := hxw.size; omega) ((htr.ext hxs fun _ _ _ f => f).mono fun k _ hk => ⟨by omega, fun e => by have := hT.own k e; omega⟩) ?_
            intro v5 w5 hT5 hx5 _
            obtain ⟨a5, c5, rfl⟩ := hT5.one
            have hown5 : ∀ k, (Value.slice av ts12.length cv).ownBlock = some k → wL.heap.size ≤ k := fun k hk => (hT.own k hk).1
            have hbt5 := (hobt.e0 hxw).ext hx5 fun h => by have := hown5 bt h; have := hLlt bt (by simp [inL]); omega
            have hbl5 := (hobl.e0 hxw).ext hx5 fun h => by have := hown5 bl h; have := hLlt bl (by simp [inL]); omega
            refine ⟨by (conv => whnf); exact ⟨⟨_, hbt5.cell rfl, rfl, rfl⟩, trivial⟩, ?_⟩
            conv => whnf
            refine ⟨bl, 0, rfl, ⟨by omega, by omega⟩, ?_⟩
            ((conv=>whnf);repeat((first|refine mvT ?_|refine mvF ?_|refine yT ?_|refine yF ?_);conv=>whnf))
            refine st_cell (o := 63) (v := .slice a5 (ts12 ++ [t']).length c5) hbl5 rfl rfl rfl (by simp) rfl ?_
            intro w6 ho6 hx6
            ((conv=>whnf);repeat((first|refine mvT ?_|refine mvF ?_|refine yT ?_|refine yF ?_);conv=>whnf))
            have hxL6 : Ext (fun k => k = bl ∨ wL.heap.size ≤ k) wL w6 := ((hxL.trans (hxw.mono (M' := nob) fun _ _ f => f) fun k hk f => f.elim).trans hx5 fun k hk h => by have := hown5 k h; omega).trans hx6 fun k hk h => .inl h
            refine ⟨i + 1, ⟨rfl, inc_eq (by omega), rfl, rfl, rfl, trivial⟩, ⟨by omega, hxL6, _, ts12 ++ [t'], ho6, hT5.ext hx6 (fun k _ h1 h2 => by have := hLlt bl (by simp [inL]); omega), by simp [htl12], ?_⟩, by omega⟩
            intro j x y hx hy
            rcases Nat.lt_or_ge j ts12.length with hj | hj
            · rw [List.getElem?_append_left hj] at hy
              exact hnr12 j x y hx hy
            · rw [List.getElem?_append_right hj] at hy
              obtain ⟨e, he⟩ : ∃ e, j - ts12.length = e := ⟨_, rfl⟩
              rw [he] at hy
              cases e with
              | zero =>
                have : j = i := by omega
                subst this
                simp only [List.getElem?_cons_zero, Option.some.injEq] at hy
                subst hy
                rw [List.getElem?_eq_getElem (by omega), Option.some.injEq] at hx
                subst hx
                exact hnr'
              | succ e => simp at hy
          · conv => whnf
            refine st_all [.bool false] hob rfl rfl rfl ?_
            intro wc hoc hxc
            conv => whnf
            refine st_all [.bool true] hoc rfl rfl rfl ?_
            intro wd hod hxd
            ((conv=>whnf);repeat((first|refine mvT ?_|refine mvF ?_|refine yT ?_|refine yF ?_);conv=>whnf))
            refine ldS (hod.cell rfl) ?_;((conv=>whnf);repeat((first|refine mvT ?_|refine mvF ?_|refine yT ?_|refine yF ?_);conv=>whnf))
            have hxw : Ext nob w wd := (hxb.st hxc hbb).st hxd hbb
            refine VD.draw mixed (.q 0 (.q 1 (.q 2 (.q 3 (.q 4 (.q 5 (.q 6 (.q 7 (.q 8 (.q 9 (.q 10 (.q 12 (.alt (.eff 11 [1, 4] (.eff 13 [1, 4, 8] (.eff 14 [] (.q 15 (.q 16 (.eff 17 [] (.done))))))) (.eff 13 [1, 4, 8] (.eff 11 [1, 4] (.eff 14 [] (.q 15 (.q 16 (.eff 17 [] (.done)))))))))))))))))))) (by kernel_rfl) ?_;((conv=>whnf);repeat((first|refine mvT ?_|refine mvF ?_|refine yT ?_|refine yF ?_);conv=>whnf))
            have hxw := hxw.e0 (ext_drew _)
            have hszd := hxw.size
            refine ldS ((hobt.e0 hxw).cell rfl) ?_;((conv=>whnf);repeat((first|refine mvT ?_|refine mvF ?_|refine yT ?_|refine yF ?_);conv=>whnf))
            refine ⟨bl, 0, rfl, ⟨by omega, by omega⟩, ?_⟩
            ((conv=>whnf);repeat((first|refine mvT ?_|refine mvF ?_|refine yT ?_|refine yF ?_);conv=>whnf))
            refine ldS ((hobl.e0 hxw).cell rfl) ?_;((conv=>whnf);repeat((first|refine mvT ?_|refine mvF ?_|refine yT ?_|refine yF ?_);conv=>whnf))
            refine ⟨_, ld ((hq.e0 (hx0.e0 hxw)).cell (j := 13) rfl) (by simp), ?_⟩
            ((conv=>whnf);repeat((first|refine mvT ?_|refine mvF ?_|refine yT ?_|refine yF ?_);conv=>whnf))
            refine ⟨be, oe, rfl, ⟨by omega, by omega⟩, ?_⟩
            ((conv=>whnf);repeat((first|refine mvT ?_|refine mvF ?_|refine yT ?_|refine yF ?_);conv=>whnf))
            constructor
            · conv => whnf
              refine Does.mono (tellTaskIDs (F := F) (hce.e0 (hx0.e0 hxw)) (QPart_later true 8 _ _ _ w0 _ F F nob hqe (hx0.e0 hxw) fun k _ hf => ⟨fun f => f, hf⟩) hlime) ?_
              rintro r wt ⟨t', hnr', ⟨cr, rfl, htr⟩, hxt⟩
              have hszt := hxw.size
              have hxw := hxw.e0 hxt
              obtain ⟨n', sv', nl', lv', uv', rfl⟩ : ∃ n sv nl lv uv, cr = [.int .i64 n, sv, .bool nl, lv, uv] := by cases htr; exact ⟨_, _, _, _, _, rfl⟩
              refine ⟨by (conv => whnf); exact ⟨⟨_, (hobt.e0 hxw).cell rfl, rfl, rfl⟩, ⟨_, (hobl.e0 hxw).cell rfl, rfl, rfl⟩, trivial⟩, ?_⟩
              conv => whnf
              intro bs ws hbs hos hxs
              have hos : Own ws bs TT [.int .i64 0, .slice none 0 0, .bool false, .slice none 0 0, .slice none 0 0] := hos
              have hxw := hxw.e0 hxs
              refine ⟨by (conv => whnf); exact ⟨⟨_, (hobt.e0 hxw).cell rfl, rfl, rfl⟩, ⟨_, (hobl.e0 hxw).cell rfl, rfl, rfl⟩, ⟨_, (hq.e0 (hx0.e0 hxw)).cell (j := 13) rfl, rfl, rfl⟩, trivial⟩, ?_⟩
              have htrw : TrC ws (fun k => w.heap.size ≤ k ∧ k < ws.heap.size) [.int .i64 n', sv', .bool nl', lv', uv'] t' := ((htr.mono (F' := fun k => w.heap.size ≤ k ∧ k < wt.heap.size) fun k hk h => ⟨by omega, hk⟩).ext hxs fun _ _ _ f => f).mono fun k hk h => ⟨h.1, hk⟩
              conv => whnf
              refine OLn.app (x := .mk 0 [] false [] []) (hT.ext hxw fun _ _ _ f => f) rfl hos rfl rfl (by omega) (by decide) (by have := hxw.size; have := hxL.size; omega) (TrC.leaf rfl (Bytes.nil _ _)) ?_
              intro v5 w5 hT5 hx5 hbk5
              obtain ⟨a5, c5, rfl⟩ := hT5.one
              have hown5 : ∀ k, (Value.slice av ts12.length cv).ownBlock = some k → wL.heap.size ≤ k ∧ k < w.heap.size := fun k hk => hT.own k hk
              have hbl5 := (hobl.e0 hxw).ext hx5 fun h => by have := hown5 bl h; have := hLlt bl (by simp [inL]); omega
              have hblL := hLlt bl (by simp [inL])
              have hsLw := hxL.size
              have hszx := hxw.size
              ((conv=>whnf);repeat((first|refine mvT ?_|refine mvF ?_|refine yT ?_|refine yF ?_);conv=>whnf))
              refine ⟨bl, 0, rfl, ⟨by omega, by omega⟩, ?_⟩
              ((conv=>whnf);repeat((first|refine mvT ?_|refine mvF ?_|refine yT ?_|refine yF ?_);conv=>whnf))
              refine st_cell (o := 63) (v := .slice a5 (ts12 ++ [T.mk 0 [] false [] []]).length c5) hbl5 rfl rfl rfl (by simp) rfl ?_
              intro w6 ho6 hx6
              ((conv=>whnf);repeat((first|refine mvT ?_|refine mvF ?_|refine yT ?_|refine yF ?_);conv=>whnf))
              have hT6 := hT5.ext hx6 (fun k _ h1 h2 => by omega)
              obtain ⟨g, cap, hv, hput⟩ := hT6.last
              injection hv with e1 e2 e3
              subst e1
              subst e3
              have htr6 : TrC w6 (fun k => wL.heap.size ≤ k ∧ (Value.slice (some ⟨g, 0, none⟩) (ts12 ++ [T.mk 0 [] false [] []]).length c5).ownBlock ≠ some k) [.int .i64 n', sv', .bool nl', lv', uv'] t' := by
                refine ((htrw.ext hx5 fun k _ h e => by have := hown5 k e; omega).ext hx6 fun k _ h e => by omega).mono fun k _ h => ⟨by omega, fun e => ?_⟩
                rcases hbk5 with e2 | ⟨q2, e2, hle⟩
                · have := hown5 k (e2 ▸ e); omega
                · rw [e, Option.some.injEq] at e2
                  omega
              refine ⟨g, 0, rfl, ⟨by omega, by simp; omega⟩, ?_⟩
              ((conv=>whnf);repeat((first|refine mvT ?_|refine mvF ?_|refine yT ?_|refine yF ?_);conv=>whnf))
              refine hput [.int .i64 n', sv', .bool nl', lv', uv'] t' _ _ _ rfl (by simp) htr6 ?_
              intro w7 hT7 hx7
              ((conv=>whnf);repeat((first|refine mvT ?_|refine mvF ?_|refine yT ?_|refine yF ?_);conv=>whnf))
              have hgL : wL.heap.size ≤ g := (hT6.own g rfl).1
              have hxL7 : Ext (fun k => k = bl ∨ wL.heap.size ≤ k) wL w7 := (((hxL.trans (hxw.mono (M' := nob) fun _ _ f => f) fun k hk f => f.elim).trans hx5 fun k hk h => by have := hown5 k h; omega).trans hx6 fun k hk h => .inl h).trans hx7 fun k hk h => by omega
              refine ⟨i + 1, ⟨rfl, inc_eq (by omega), rfl, rfl, rfl, trivial⟩, ⟨by omega, hxL7, _, ts12 ++ [t'], ho6.ext hx7 (by omega), hT7, by simp [htl12], ?_⟩, by omega⟩
              intro j x y hx hy
              rcases Nat.lt_or_ge j ts12.length with hj | hj
              · rw [List.getElem?_append_left hj] at hy
                exact hnr12 j x y hx hy
              · rw [List.getElem?_append_right hj] at hy
                obtain ⟨e, he⟩ : ∃ e, j - ts12.length = e := ⟨_, rfl⟩
                rw [he] at hy
                cases e with
                | zero =>
                  have : j = i := by omega
                  subst this
                  simp only [List.getElem?_cons_zero, Option.some.injEq] at hy
                  subst hy
                  rw [List.getElem?_eq_getElem (by omega), Option.some.injEq] at hx
                  subst hx
                  exact hnr'
                | succ e => simp at hy
            · conv => whnf
              intro bs ws hbs hos hxs
              have hos : Own ws bs TT [.int .i64 0, .slice none 0 0, .bool false, .slice none 0 0, .slice none 0 0] := hos
              have hxw := hxw.e0 hxs
              refine ⟨by (conv => whnf); exact ⟨⟨_, (hobt.e0 hxw).cell rfl, rfl, rfl⟩, ⟨_, (hobl.e0 hxw).cell rfl, rfl, rfl⟩, ⟨_, (hq.e0 (hx0.e0 hxw)).cell (j := 13) rfl, rfl, rfl⟩, trivial⟩, ?_⟩
              conv => whnf
              refine Does.mono (tellTaskIDs (F := F) (hce.e0 (hx0.e0 hxw)) (QPart_later true 8 _ _ _ w0 _ F F nob hqe (hx0.e0 hxw) fun k _ hf => ⟨fun f => f, hf⟩) hlime) ?_
              rintro r wt ⟨t', hnr', ⟨cr, rfl, htr⟩, hxt⟩
              have hszt := hxw.size
              have hxw := hxw.e0 hxt
              obtain ⟨n', sv', nl', lv', uv', rfl⟩ : ∃ n sv nl lv uv, cr = [.int .i64 n, sv, .bool nl, lv, uv] := by cases htr; exact ⟨_, _, _, _, _, rfl⟩
              refine ⟨by (conv => whnf); exact ⟨⟨_, (hobt.e0 hxw).cell rfl, rfl, rfl⟩, ⟨_, (hobl.e0 hxw).cell rfl, rfl, rfl⟩, trivial⟩, ?_⟩
              have hos := hos.e0 hxt
              have htrw : TrC wt (fun k => w.heap.size ≤ k ∧ k < wt.heap.size) [.int .i64 n', sv', .bool nl', lv', uv'] t' := htr.mono fun k hk h => ⟨by omega, hk⟩
              conv => whnf
              refine OLn.app (x := .mk 0 [] false [] []) (hT.ext hxw fun _ _ _ f => f) rfl hos rfl rfl (by omega) (by decide) (by have := hxw.size; have := hxL.size; omega) (TrC.leaf rfl (Bytes.nil _ _)) ?_
              intro v5 w5 hT5 hx5 hbk5
              obtain ⟨a5, c5, rfl⟩ := hT5.one
              have hown5 : ∀ k, (Value.slice av ts12.length cv).ownBlock = some k → wL.heap.size ≤ k ∧ k < w.heap.size := fun k hk => hT.own k hk
              have hbl5 := (hobl.e0 hxw).ext hx5 fun h => by have := hown5 bl h; have := hLlt bl (by simp [inL]); omega
              have hblL := hLlt bl (by simp [inL])
              have hsLw := hxL.size
              have hszx := hxw.size
              ((conv=>whnf);repeat((first|refine mvT ?_|refine mvF ?_|refine yT ?_|refine yF ?_);conv=>whnf))
              refine ⟨bl, 0, rfl, ⟨by omega, by omega⟩, ?_⟩
              ((conv=>whnf);repeat((first|refine mvT ?_|refine mvF ?_|refine yT ?_|refine yF ?_);conv=>whnf))
              refine st_cell (o := 63) (v := .slice a5 (ts12 ++ [T.mk 0 [] false [] []]).length c5) hbl5 rfl rfl rfl (by simp) rfl ?_
              intro w6 ho6 hx6
              ((conv=>whnf);repeat((first|refine mvT ?_|refine mvF ?_|refine yT ?_|refine yF ?_);conv=>whnf))
              have hT6 := hT5.ext hx6 (fun k _ h1 h2 => by omega)
              obtain ⟨g, cap, hv, hput⟩ := hT6.last
              injection hv with e1 e2 e3
              subst e1
              subst e3
              have htr6 : TrC w6 (fun k => wL.heap.size ≤ k ∧ (Value.slice (some ⟨g, 0, none⟩) (ts12 ++ [T.mk 0 [] false [] []]).length c5).ownBlock ≠ some k) [.int .i64 n', sv', .bool nl', lv', uv'] t' := by
                refine ((htrw.ext hx5 fun k _ h e => by have := hown5 k e; omega).ext hx6 fun k _ h e => by omega).mono fun k _ h => ⟨by omega, fun e => ?_⟩
                rcases hbk5 with e2 | ⟨q2, e2, hle⟩
                · have := hown5 k (e2 ▸ e); omega
                · rw [e, Option.some.injEq] at e2
                  omega
              refine ⟨g, 0, rfl, ⟨by omega, by simp; omega⟩, ?_⟩
              ((conv=>whnf);repeat((first|refine mvT ?_|refine mvF ?_|refine yT ?_|refine yF ?_);conv=>whnf))
              refine hput [.int .i64 n', sv', .bool nl', lv', uv'] t' _ _ _ rfl (by simp) htr6 ?_
              intro w7 hT7 hx7
              ((conv=>whnf);repeat((first|refine mvT ?_|refine mvF ?_|refine yT ?_|refine yF ?_);conv=>whnf))
              have hgL : wL.heap.size ≤ g := (hT6.own g rfl).1
              have hxL7 : Ext (fun k => k = bl ∨ wL.heap.size ≤ k) wL w7 := (((hxL.trans (hxw.mono (M' := nob) fun _ _ f => f) fun k hk f => f.elim).trans hx5 fun k hk h => by have := hown5 k h; omega).trans hx6 fun k hk h => .inl h).trans hx7 fun k hk h => by omega
              refine ⟨i + 1, ⟨rfl, inc_eq (by omega), rfl, rfl, rfl, trivial⟩, ⟨by omega, hxL7, _, ts12 ++ [t'], ho6.ext hx7 (by omega), hT7, by simp [htl12], ?_⟩, by omega⟩
              intro j x y hx hy
              rcases Nat.lt_or_ge j ts12.length with hj | hj
              · rw [List.getElem?_append_left hj] at hy
                exact hnr12 j x y hx hy
              · rw [List.getElem?_append_right hj] at hy
                obtain ⟨e, he⟩ : ∃ e, j - ts12.length = e := ⟨_, rfl⟩
                rw [he] at hy
                cases e with
                | zero =>
                  have : j = i := by omega
                  subst this
                  simp only [List.getElem?_cons_zero, Option.some.injEq] at hy
                  subst hy
                  rw [List.getElem?_eq_getElem (by omega), Option.some.injEq] at hx
                  subst hx
                  exact hnr'
                | succ e => simp at hy
        · have hil : i = ls12.length := by have := of_decide_eq_false h9; omega
          have H := Sg.up (A := [_]) H hobl (hxL.mono fun k hk h => by rcases h with h | h; exact h; omega)
          have htl12 : ts12.length = l12.length := by omega
          have hnl : a12.isNone = nl12 := hnn12 rfl
          rw [hnl] at H
          have H := H.add (Q := fun w => TrC w (fun k => w0.heap.size ≤ k) [.int .i64 0, .slice none 0 0, .bool nl12, vl12, .slice none 0 0] (.mk 0 [] nl12 ts12 [])) fun w3 x => (hT.ext x fun k hk h1 h2 => by
            have h3 : k < wL.heap.size := hLlt k (by rcases inL3 h2 with h | h | h <;> subst h <;> simp [inL])
            omega).row fun k hk => by omega
          obtain ⟨P12, hP12⟩ : ∃ P : World → Prop, P = fun w => TrC w (fun k => w0.heap.size ≤ k) [.int .i64 0, .slice none 0 0, .bool nl12, vl12, .slice none 0 0] (.mk 0 [] nl12 ts12 []) ∧ P11 w := ⟨_, rfl⟩
          replace H : Sg w0 [(bt, Tt, [.int .i64 0, .slice none 0 0, .bool false, .slice (some ⟨bl, 0, none⟩) 16 16, .slice none 0 0]), (bl, Tl, (.int .i64 n0 :: .slice none 0 0 :: .bool false :: .slice none 0 0 :: .slice none 0 0 :: .int .i64 n1 :: .slice none 0 0 :: .bool false :: .slice none 0 0 :: .slice none 0 0 :: .int .i64 nv2 :: sv2 :: .bool nm2 :: lv2 :: uv2 :: .int .i64 0 :: .slice (some ⟨bb3, 0, none⟩) s3.length cb3 :: .bool false :: .slice none 0 0 :: .slice none 0 0 :: .int .i64 n4 :: .slice none 0 0 :: .bool false :: .slice none 0 0 :: .slice none 0 0 :: .int .i64 n5 :: .slice none 0 0 :: .bool false :: .slice none 0 0 :: .slice none 0 0 :: .int .i64 n6 :: .slice none 0 0 :: .bool false :: .slice none 0 0 :: .slice none 0 0 :: .int .i64 n7 :: .slice none 0 0 :: .bool false :: .slice none 0 0 :: .slice none 0 0 :: .int .i64 n8 :: .slice none 0 0 :: .bool false :: .slice none 0 0 :: .slice none 0 0 :: .int .i64 0 :: .slice none 0 0 :: .bool nl9 :: vl9 :: .slice none 0 0 :: .int .i64 0 :: .slice none 0 0 :: .bool nl10 :: vl10 :: .slice none 0 0 :: .int .i64 0 :: .slice none 0 0 :: .bool nl11 :: vl11 :: .slice none 0 0 :: .int .i64 0 :: .slice none 0 0 :: .bool nl12 :: vl12 :: .slice none 0 0 :: .int .i64 0 :: .slice none 0 0 :: .bool false :: .slice none 0 0 :: .slice none 0 0 :: .int .i64 0 :: .slice none 0 0 :: .bool false :: .slice none 0 0 :: .slice none 0 0 :: .int .i64 0 :: .slice none 0 0 :: .bool false :: .slice none 0 0 :: .slice none 0 0 :: [])), (b2, T2, [.int .i64 0, .slice none 0 0, .bool false, .slice none 0 0, .slice none 0 0])] P12 w := by rw [hP12]; exact H
          ((conv=>whnf);repeat((first|refine mvT ?_|refine mvF ?_|refine yT ?_|refine yF ?_);conv=>whnf))
          refine VD.draw mixed (.q 0 (.q 1 (.q 2 (.q 3 (.q 4 (.q 5 (.eff 6 [1] (.q 7 (.eff 8 [] (.done)))))))))) (by kernel_rfl) ?_;((conv=>whnf);repeat((first|refine mvT ?_|refine mvF ?_|refine yT ?_|refine yF ?_);conv=>whnf))
          replace H := H.e0 (ext_drew _)
          refine ldS ((Sg.at (A := []) H).cell rfl) ?_;((conv=>whnf);repeat((first|refine mvT ?_|refine mvF ?_|refine yT ?_|refine yF ?_);conv=>whnf))
          refine ⟨_, ld ((hq.e0 H.ext).cell (j := 14) rfl) (by simp), ?_⟩
          ((conv=>whnf);repeat((first|refine mvT ?_|refine mvF ?_|refine yT ?_|refine yF ?_);conv=>whnf))
          refine Does.mono (boolTree_does bo13) ?_
          rintro rr13 wr13 ⟨⟨cr13, rfl, hr13⟩, hxr13⟩
          obtain ⟨nv13, sv13, nm13, lv13, uv13, rfl⟩ : ∃ n sv nl lv uv, cr13 = [.int .i64 n, sv, .bool nl, lv, uv] := by cases hr13; exact ⟨_, _, _, _, _, rfl⟩
          have H := H.keepN (H.e0 hxr13) (trL [.int .i64 nv13, sv13, .bool nm13, lv13, uv13] (numT (if bo13 = true then 1 else 0))) (F := fun k => _ ≤ k) hr13 fun k h => h
          refine ⟨by (conv => whnf); exact ⟨⟨_, (Sg.at (A := []) H).cell rfl, rfl, rfl⟩, trivial⟩, ?_⟩
          ((conv=>whnf);repeat((first|refine mvT ?_|refine mvF ?_|refine yT ?_|refine yF ?_);conv=>whnf))
          refine ⟨bl, 0, rfl, ⟨by omega, by omega⟩, ?_⟩
          ((conv=>whnf);repeat((first|refine mvT ?_|refine mvF ?_|refine yT ?_|refine yF ?_);conv=>whnf))
          refine Sg.st (A := [_]) (o' := 65) (m := [.int .i64 nv13, sv13, .bool nm13, lv13, uv13]) H rfl (Nat.le_of_ble_eq_true rfl) (hr13.ok) ?_
          clear H
          intro w H
          obtain ⟨P13, hP13⟩ : ∃ P : World → Prop, P = fun w => TrC w (fun k => w0.heap.size ≤ k) [.int .i64 nv13, sv13, .bool nm13, lv13, uv13] (numT (if bo13 = true then 1 else 0)) ∧ P12 w := ⟨_, rfl⟩
          replace H : Sg w0 [(bt, Tt, [.int .i64 0, .slice none 0 0, .bool false, .slice (some ⟨bl, 0, none⟩) 16 16, .slice none 0 0]), (bl, Tl, (.int .i64 n0 :: .slice none 0 0 :: .bool false :: .slice none 0 0 :: .slice none 0 0 :: .int .i64 n1 :: .slice none 0 0 :: .bool false :: .slice none 0 0 :: .slice none 0 0 :: .int .i64 nv2 :: sv2 :: .bool nm2 :: lv2 :: uv2 :: .int .i64 0 :: .slice (some ⟨bb3, 0, none⟩) s3.length cb3 :: .bool false :: .slice none 0 0 :: .slice none 0 0 :: .int .i64 n4 :: .slice none 0 0 :: .bool false :: .slice none 0 0 :: .slice none 0 0 :: .int .i64 n5 :: .slice none 0 0 :: .bool false :: .slice none 0 0 :: .slice none 0 0 :: .int .i64 n6 :: .slice none 0 0 :: .bool false :: .slice none 0 0 :: .slice none 0 0 :: .int .i64 n7 :: .slice none 0 0 :: .bool false :: .slice none 0 0 :: .slice none 0 0 :: .int .i64 n8 :: .slice none 0 0 :: .bool false :: .slice none 0 0 :: .slice none 0 0 :: .int .i64 0 :: .slice none 0 0 :: .bool nl9 :: vl9 :: .slice none 0 0 :: .int .i64 0 :: .slice none 0 0 :: .bool nl10 :: vl10 :: .slice none 0 0 :: .int .i64 0 :: .slice none 0 0 :: .bool nl11 :: vl11 :: .slice none 0 0 :: .int .i64 0 :: .slice none 0 0 :: .bool nl12 :: vl12 :: .slice none 0 0 :: .int .i64 nv13 :: sv13 :: .bool nm13 :: lv13 :: uv13 :: .int .i64 0 :: .slice none 0 0 :: .bool false :: .slice none 0 0 :: .slice none 0 0 :: .int .i64 0 :: .slice none 0 0 :: .bool false :: .slice none 0 0 :: .slice none 0 0 :: [])), (b2, T2, [.int .i64 0, .slice none 0 0, .bool false, .slice none 0 0, .slice none 0 0])] P13 w := by rw [hP13]; exact H
          ((conv=>whnf);repeat((first|refine mvT ?_|refine mvF ?_|refine yT ?_|refine yF ?_);conv=>whnf))
          refine VD.draw mixed (.q 0 (.q 1 (.q 2 (.q 3 (.q 4 (.q 5 (.q 6 (.q 7 (.q 8 (.eff 9 [] (.done))))))))))) (by kernel_rfl) ?_;((conv=>whnf);repeat((first|refine mvT ?_|refine mvF ?_|refine yT ?_|refine yF ?_);conv=>whnf))
          replace H := H.e0 (ext_drew _)
          refine ldS ((Sg.at (A := []) H).cell rfl) ?_;((conv=>whnf);repeat((first|refine mvT ?_|refine mvF ?_|refine yT ?_|refine yF ?_);conv=>whnf))
          refine ⟨_, ld ((hq.e0 H.ext).cell (j := 15) rfl) (by simp), ?_⟩
          ((conv=>whnf);repeat((first|refine mvT ?_|refine mvF ?_|refine yT ?_|refine yF ?_);conv=>whnf))
          refine ⟨bl, 0, rfl, ⟨by omega, by omega⟩, ?_⟩
          ((conv=>whnf);repeat((first|refine mvT ?_|refine mvF ?_|refine yT ?_|refine yF ?_);conv=>whnf))
          refine Sg.st (A := [_]) (o' := 70) (m := [.int .i64 (IntKind.i64.wrap n14), .slice none 0 0, .bool false, .slice none 0 0, .slice none 0 0]) H rfl (Nat.le_of_ble_eq_true rfl) (rfl) ?_
          clear H
          intro w H
          rw [hw14] at H
          replace H : Sg w0 [(bt, Tt, [.int .i64 0, .slice none 0 0, .bool false, .slice (some ⟨bl, 0, none⟩) 16 16, .slice none 0 0]), (bl, Tl, (.int .i64 n0 :: .slice none 0 0 :: .bool false :: .slice none 0 0 :: .slice none 0 0 :: .int .i64 n1 :: .slice none 0 0 :: .bool false :: .slice none 0 0 :: .slice none 0 0 :: .int .i64 nv2 :: sv2 :: .bool nm2 :: lv2 :: uv2 :: .int .i64 0 :: .slice (some ⟨bb3, 0, none⟩) s3.length cb3 :: .bool false :: .slice none 0 0 :: .slice none 0 0 :: .int .i64 n4 :: .slice none 0 0 :: .bool false :: .slice none 0 0 :: .slice none 0 0 :: .int .i64 n5 :: .slice none 0 0 :: .bool false :: .slice none 0 0 :: .slice none 0 0 :: .int .i64 n6 :: .slice none 0 0 :: .bool false :: .slice none 0 0 :: .slice none 0 0 :: .int .i64 n7 :: .slice none 0 0 :: .bool false :: .slice none 0 0 :: .slice none 0 0 :: .int .i64 n8 :: .slice none 0 0 :: .bool false :: .slice none 0 0 :: .slice none 0 0 :: .int .i64 0 :: .slice none 0 0 :: .bool nl9 :: vl9 :: .slice none 0 0 :: .int .i64 0 :: .slice none 0 0 :: .bool nl10 :: vl10 :: .slice none 0 0 :: .int .i64 0 :: .slice none 0 0 :: .bool nl11 :: vl11 :: .slice none 0 0 :: .int .i64 0 :: .slice none 0 0 :: .bool nl12 :: vl12 :: .slice none 0 0 :: .int .i64 nv13 :: sv13 :: .bool nm13 :: lv13 :: uv13 :: .int .i64 n14 :: .slice none 0 0 :: .bool false :: .slice none 0 0 :: .slice none 0 0 :: .int .i64 0 :: .slice none 0 0 :: .bool false :: .slice none 0 0 :: .slice none 0 0 :: [])), (b2, T2, [.int .i64 0, .slice none 0 0, .bool false, .slice none 0 0, .slice none 0 0])] P13 w := H
          ((conv=>whnf);repeat((first|refine mvT ?_|refine mvF ?_|refine yT ?_|refine yF ?_);conv=>whnf))
          refine VD.draw mixed (.q 0 (.q 1 (.q 2 (.q 3 (.q 4 (.q 5 (.q 6 (.q 7 (.q 8 (.eff 9 [] (.done))))))))))) (by kernel_rfl) ?_;((conv=>whnf);repeat((first|refine mvT ?_|refine mvF ?_|refine yT ?_|refine yF ?_);conv=>whnf))
          replace H := H.e0 (ext_drew _)
          refine ldS ((Sg.at (A := []) H).cell rfl) ?_;((conv=>whnf);repeat((first|refine mvT ?_|refine mvF ?_|refine yT ?_|refine yF ?_);conv=>whnf))
          refine ⟨_, ld ((hq.e0 H.ext).cell (j := 16) rfl) (by simp), ?_⟩
          ((conv=>whnf);repeat((first|refine mvT ?_|refine mvF ?_|refine yT ?_|refine yF ?_);conv=>whnf))
          refine ⟨bl, 0, rfl, ⟨by omega, by omega⟩, ?_⟩
          ((conv=>whnf);repeat((first|refine mvT ?_|refine mvF ?_|refine yT ?_|refine yF ?_);conv=>whnf))
          refine Sg.st (A := [_]) (o' := 77) (m := [.bool a15.isNone]) H rfl (Nat.le_of_ble_eq_true rfl) (rfl) ?_
          clear H
          intro w H
          replace H : Sg w0 [(bt, Tt, [.int .i64 0, .slice none 0 0, .bool false, .slice (some ⟨bl, 0, none⟩) 16 16, .slice none 0 0]), (bl, Tl, (.int .i64 n0 :: .slice none 0 0 :: .bool false :: .slice none 0 0 :: .slice none 0 0 :: .int .i64 n1 :: .slice none 0 0 :: .bool false :: .slice none 0 0 :: .slice none 0 0 :: .int .i64 nv2 :: sv2 :: .bool nm2 :: lv2 :: uv2 :: .int .i64 0 :: .slice (some ⟨bb3, 0, none⟩) s3.length cb3 :: .bool false :: .slice none 0 0 :: .slice none 0 0 :: .int .i64 n4 :: .slice none 0 0 :: .bool false :: .slice none 0 0 :: .slice none 0 0 :: .int .i64 n5 :: .slice none 0 0 :: .bool false :: .slice none 0 0 :: .slice none 0 0 :: .int .i64 n6 :: .slice none 0 0 :: .bool false :: .slice none 0 0 :: .slice none 0 0 :: .int .i64 n7 :: .slice none 0 0 :: .bool false :: .slice none 0 0 :: .slice none 0 0 :: .int .i64 n8 :: .slice none 0 0 :: .bool false :: .slice none 0 0 :: .slice none 0 0 :: .int .i64 0 :: .slice none 0 0 :: .bool nl9 :: vl9 :: .slice none 0 0 :: .int .i64 0 :: .slice none 0 0 :: .bool nl10 :: vl10 :: .slice none 0 0 :: .int .i64 0 :: .slice none 0 0 :: .bool nl11 :: vl11 :: .slice none 0 0 :: .int .i64 0 :: .slice none 0 0 :: .bool nl12 :: vl12 :: .slice none 0 0 :: .int .i64 nv13 :: sv13 :: .bool nm13 :: lv13 :: uv13 :: .int .i64 n14 :: .slice none 0 0 :: .bool false :: .slice none 0 0 :: .slice none 0 0 :: .int .i64 0 :: .slice none 0 0 :: .bool a15.isNone :: .slice none 0 0 :: .slice none 0 0 :: [])), (b2, T2, [.int .i64 0, .slice none 0 0, .bool false, .slice none 0 0, .slice none 0 0])] P13 w := H
          ((conv=>whnf);repeat((first|refine mvT ?_|refine mvF ?_|refine yT ?_|refine yF ?_);conv=>whnf))
          refine ⟨_, ld ((hq.e0 H.ext).cell (j := 16) rfl) (by simp), ?_⟩
          ((conv=>whnf);repeat((first|refine mvT ?_|refine mvF ?_|refine yT ?_|refine yF ?_);conv=>whnf))
          have hlsT : lsT (.mk 0 [] nl15 l15 []) = l15 := by
            show (if nl15 = true then [] else l15) = l15
            split
            · rename_i e
              exact (hnl15 e).symm
            · rfl
          rw [hlsT] at hll15 hrl15
          obtain ⟨wL, hwL⟩ : ∃ wL, wL = w := ⟨_, rfl⟩
          rw [← hwL] at H ⊢
          have hLlt := H.own.lt
          have hLl : l15.length ≤ 1000000 ∧ ∀ x, x ∈ l15 → LimT x := by
            have := hLs (.mk 0 [] nl15 l15 []) (by simp)
            cases this
            exact ⟨by assumption, by assumption⟩
          have hs0L := H.ext.size
          refine VL.loop (fun i : Nat => [(344, .int .i64 ls15.length), (345, .int .i64 i), (0, .pointer (some ⟨q, o, none⟩)), (2, .pointer (some ⟨b2, 0, none⟩)), (3, .pointer (some ⟨bt, 0, none⟩))])
            (fun i w' => i ≤ ls15.length ∧ Ext (fun k => k = bl ∨ wL.heap.size ≤ k) wL w' ∧ ∃ vl ts, Own w' bl Tl (.int .i64 n0 :: .slice none 0 0 :: .bool false :: .slice none 0 0 :: .slice none 0 0 :: .int .i64 n1 :: .slice none 0 0 :: .bool false :: .slice none 0 0 :: .slice none 0 0 :: .int .i64 nv2 :: sv2 :: .bool nm2 :: lv2 :: uv2 :: .int .i64 0 :: .slice (some ⟨bb3, 0, none⟩) s3.length cb3 :: .bool false :: .slice none 0 0 :: .slice none 0 0 :: .int .i64 n4 :: .slice none 0 0 :: .bool false :: .slice none 0 0 :: .slice none 0 0 :: .int .i64 n5 :: .slice none 0 0 :: .bool false :: .slice none 0 0 :: .slice none 0 0 :: .int .i64 n6 :: .slice none 0 0 :: .bool false :: .slice none 0 0 :: .slice none 0 0 :: .int .i64 n7 :: .slice none 0 0 :: .bool false :: .slice none 0 0 :: .slice none 0 0 :: .int .i64 n8 :: .slice none 0 0 :: .bool false :: .slice none 0 0 :: .slice none 0 0 :: .int .i64 0 :: .slice none 0 0 :: .bool nl9 :: vl9 :: .slice none 0 0 :: .int .i64 0 :: .slice none 0 0 :: .bool nl10 :: vl10 :: .slice none 0 0 :: .int .i64 0 :: .slice none 0 0 :: .bool nl11 :: vl11 :: .slice none 0 0 :: .int .i64 0 :: .slice none 0 0 :: .bool nl12 :: vl12 :: .slice none 0 0 :: .int .i64 nv13 :: sv13 :: .bool nm13 :: lv13 :: uv13 :: .int .i64 n14 :: .slice none 0 0 :: .bool false :: .slice none 0 0 :: .slice none 0 0 :: .int .i64 0 :: .slice none 0 0 :: .bool a15.isNone :: vl :: .slice none 0 0 :: []) ∧ OLn w' wL.heap.size vl ts ∧ ts.length = i ∧ ∀ (j : Nat) (x y : T), l15[j]? = some x → ts[j]? = some y → Nrm x y) (fun i => ls15.length - i) 0
            ⟨rfl, rfl, rfl, rfl, rfl, trivial⟩ ⟨Nat.zero_le _, Ext.refl _ _, _, [], Sg.at (A := [_]) H, OLn.nil _ _, rfl, by simp⟩ ?_
          rintro i w ⟨hi, hxL, vl15, ts15, hobl, hT, htl15, hnr15⟩
          ((conv=>whnf);repeat((first|refine mvT ?_|refine mvF ?_|refine yT ?_|refine yF ?_);conv=>whnf))
          refine cI (by rfl) (fun h9=>?_) (fun h9=>?_)
          · have hil : i < ls15.length := by have := of_decide_eq_true h9; omega
            obtain ⟨be, oe, rfl, hFe, hbe, hce⟩ := hcl15 i ls15[i] (by simp [hil])
            have hqe := hrl15 i ls15[i] l15[i] (by simp [hil]) (by simp)
            have hlime := hLl.2 l15[i] (List.getElem_mem _)
            have hx0 : Ext nob w0 w := H.ext.trans hxL fun k hk h => by
              rcases h with h | h
              · omega
              · omega
            have hobt : Own w bt Tt [.int .i64 0, .slice none 0 0, .bool false, .slice (some ⟨bl, 0, none⟩) 16 16, .slice none 0 0] := (Sg.at (A := []) H).ext hxL fun h => by
              have := hLlt bt (by simp [inL])
              have h2 := (H.dis.2.1 : ¬ inL _ bt)
              rcases h with h | h
              · exact h2 (by rw [h]; simp [inL])
              · omega
            obtain ⟨av, cv, rfl⟩ := hT.one
            ((conv=>whnf);repeat((first|refine mvT ?_|refine mvF ?_|refine yT ?_|refine yF ?_);conv=>whnf))
            refine VD.draw mixed (.eff 0 [] (.alt (.eff 1 [] (.eff 2 [] (.q 3 (.done)))) (.eff 2 [] (.eff 1 [] (.q 3 (.done)))))) (by kernel_rfl) ?_;((conv=>whnf);repeat((first|refine mvT ?_|refine mvF ?_|refine yT ?_|refine yF ?_);conv=>whnf))
            intro bb wb hbb hob hxb
            have hxb : Ext nob w wb := (ext_drew w).e0 hxb
            have hbb : w.heap.size ≤ bb := hbb
            ((conv=>whnf);repeat((first|refine mvT ?_|refine mvF ?_|refine yT ?_|refine yF ?_);conv=>whnf))
            constructor
            · conv => whnf
              refine st_all [.bool true] hob rfl rfl rfl ?_
              intro wc hoc hxc
              conv => whnf
              refine st_all [.bool false] hoc rfl rfl rfl ?_
              intro wd hod hxd
              ((conv=>whnf);repeat((first|refine mvT ?_|refine mvF ?_|refine yT ?_|refine yF ?_);conv=>whnf))
              refine ldS (hod.cell rfl) ?_;((conv=>whnf);repeat((first|refine mvT ?_|refine mvF ?_|refine yT ?_|refine yF ?_);conv=>whnf))
              have hxw : Ext nob w wd := (hxb.st hxc hbb).st hxd hbb
              refine VD.draw mixed (.q 0 (.q 1 (.q 2 (.q 3 (.q 4 (.q 5 (.q 6 (.q 7 (.q 8 (.q 9 (.q 10 (.q 11 (.q 12 (.eff 13 [1, 3, 6] (.eff 14 [1, 3, 6] (.eff 15 [1] (.q 16 (.q 17 (.eff 18 [] (.done)))))))))))))))))))) (by kernel_rfl) ?_;((conv=>whnf);repeat((first|refine mvT ?_|refine mvF ?_|refine yT ?_|refine yF ?_);conv=>whnf))
              have hxw := hxw.e0 (ext_drew _)
              have hszd := hxw.size
              refine ldS ((hobt.e0 hxw).cell rfl) ?_;((conv=>whnf);repeat((first|refine mvT ?_|refine mvF ?_|refine yT ?_|refine yF ?_);conv=>whnf))
              refine ldS ((hobt.e0 hxw).cell rfl) ?_;((conv=>whnf);repeat((first|refine mvT ?_|refine mvF ?_|refine yT ?_|refine yF ?_);conv=>whnf))
              refine ⟨bl, 0, rfl, ⟨by omega, by omega⟩, ?_⟩
              ((conv=>whnf);repeat((first|refine mvT ?_|refine mvF ?_|refine yT ?_|refine yF ?_);conv=>whnf))
              refine ldS ((hobl.e0 hxw).cell rfl) ?_;((conv=>whnf);repeat((first|refine mvT ?_|refine mvF ?_|refine yT ?_|refine yF ?_);conv=>whnf))
              refine ⟨_, ld ((hq.e0 (hx0.e0 hxw)).cell (j := 16) rfl) (by simp), ?_⟩
              ((conv=>whnf);repeat((first|refine mvT ?_|refine mvF ?_|refine yT ?_|refine yF ?_);conv=>whnf))
              refine ⟨be, oe, rfl, ⟨by omega, by omega⟩, ?_⟩
              ((conv=>whnf);repeat((first|refine mvT ?_|refine mvF ?_|refine yT ?_|refine yF ?_);conv=>whnf))
              refine Does.mono (tellStreamsGroupHeartbeatResponsePartitionsByUserEndpoint (F := F) (hce.e0 (hx0.e0 hxw)) (QPart_later true 8 _ _ _ w0 _ F F nob hqe (hx0.e0 hxw) fun k _ hf => ⟨fun f => f, hf⟩) hlime) ?_
              rintro r wt ⟨t', hnr', ⟨cr, rfl, htr⟩, hxt⟩
              have hszt := hxw.size
              have hxw := hxw.e0 hxt
              obtain ⟨n', sv', nl', lv', uv', rfl⟩ : ∃ n sv nl lv uv, cr = [.int .i64 n, sv, .bool nl, lv, uv] := by cases htr; exact ⟨_, _, _, _, _, rfl⟩
              refine ⟨by (conv => whnf); exact ⟨⟨_, (hobt.e0 hxw).cell rfl, rfl, rfl⟩, ⟨_, (hobt.e0 hxw).cell rfl, rfl, rfl⟩, ⟨_, (hobl.e0 hxw).cell rfl, rfl, rfl⟩, trivial⟩, ?_⟩
              conv => whnf
              intro bs ws hbs hos hxs
              have hos : Own ws bs TT [.int .i64 n', sv', .bool nl', lv', uv'] := hos
              have hxw := hxw.e0 hxs
              refine ⟨by (conv => whnf); exact ⟨⟨_, (hobt.e0 hxw).cell rfl, rfl, rfl⟩, ⟨_, (hobt.e0 hxw).cell rfl, rfl, rfl⟩, ⟨_, (hobl.e0 hxw).cell rfl, rfl, rfl⟩, trivial⟩, ?_⟩
              conv => whnf
              have hsLw := hxL.size
              refine OLn.app (x := t') (hT.ext hxw fun _ _ _ f => f) rfl hos rfl rfl (by omega) (by decide) (by have := hxw.size; omega) ((htr.ext hxs fun _ _ _ f => f).mono fun k _ hk => ⟨by omega, fun e => by have := hT.own k e; omega⟩) ?_
              intro v5 w5 hT5 hx5 _
              obtain ⟨a5, c5, rfl⟩ := hT5.one
              have hown5 : ∀ k, (Value.slice av ts15.length cv).ownBlock = some k → wL.heap.size ≤ k := fun k hk => (hT.own k hk).1
              have hbt5 := (hobt.e0 hxw).ext hx5 fun h => by have := hown5 bt h; have := hLlt bt (by simp [inL]); omega
              have hbl5 := (hobl.e0 hxw).ext hx5 fun h => by have := hown5 bl h; have := hLlt bl (by simp [inL]); omega
              refine ⟨by (conv => whnf); exact ⟨⟨_, hbt5.cell rfl, rfl, rfl⟩, trivial⟩, ?_⟩
              conv => whnf
              refine ⟨bl, 0, rfl, ⟨by omega, by omega⟩, ?_⟩
              ((conv=>whnf);repeat((first|refine mvT ?_|refine mvF ?_|refine yT ?_|refine yF ?_);conv=>whnf))
              refine st_cell (o := 78) (v := .slice a5 (ts15 ++ [t']).length c5) hbl5 rfl rfl rfl (by simp) rfl ?_
              intro w6 ho6 hx6
              ((conv=>whnf);repeat((first|refine mvT ?_|refine mvF ?_|refine yT ?_|refine yF ?_);conv=>whnf))
              have hxL6 : Ext (fun k => k = bl ∨ wL.heap.size ≤ k) wL w6 := ((hxL.trans (hxw.mono (M' := nob) fun _ _ f => f) fun k hk f => f.elim).trans hx5 fun k hk h => by have := hown5 k h; omega).trans hx6 fun k hk h => .inl h
              refine ⟨i + 1, ⟨rfl, inc_eq (by omega), rfl, rfl, rfl, trivial⟩, ⟨by omega, hxL6, _, ts15 ++ [t'], ho6, hT5.ext hx6 (fun k _ h1 h2 => by have := hLlt bl (by simp [inL]); omega), by simp [htl15], ?_⟩, by omega⟩
              intro j x y hx hy
              rcases Nat.lt_or_ge j ts15.length with hj | hj
              · rw [List.getElem?_append_left hj] at hy
                exact hnr15 j x y hx hy
              · rw [List.getElem?_append_right hj] at hy
                obtain ⟨e, he⟩ : ∃ e, j - ts15.length = e := ⟨_, rfl⟩
                rw [he] at hy
                cases e with
                | zero =>
                  have : j = i := by omega
                  subst this
                  simp only [List.getElem?_cons_zero, Option.some.injEq] at hy
                  subst hy
                  rw [List.getElem?_eq_getElem (by omega), Option.some.injEq] at hx
                  subst hx
                  exact hnr'
                | succ e => simp at hy
            · conv => whnf
              refine st_all [.bool false] hob rfl rfl rfl ?_
              intro wc hoc hxc
              conv => whnf
              refine st_all [.bool true] hoc rfl rfl rfl ?_
              intro wd hod hxd
              ((conv=>whnf);repeat((first|refine mvT ?_|refine mvF ?_|refine yT ?_|refine yF ?_);conv=>whnf))
              refine ldS (hod.cell rfl) ?_;((conv=>whnf);repeat((first|refine mvT ?_|refine mvF ?_|refine yT ?_|refine yF ?_);conv=>whnf))
              have hxw : Ext nob w wd := (hxb.st hxc hbb).st hxd hbb
              refine VD.draw mixed (.q 0 (.q 1 (.q 2 (.q 3 (.q 4 (.q 5 (.q 6 (.q 7 (.q 8 (.q 9 (.q 10 (.q 12 (.alt (.eff 11 [1, 4] (.eff 13 [1, 4, 8] (.eff 14 [] (.q 15 (.q 16 (.eff 17 [] (.done))))))) (.eff 13 [1, 4, 8] (.eff 11 [1, 4] (.eff 14 [] (.q 15 (.q 16 (.eff 17 [] (.done)))))))))))))))))))) (by kernel_rfl) ?_;((conv=>whnf);repeat((first|refine mvT ?_|refine mvF ?_|refine yT ?_|refine yF ?_);conv=>whnf))
              have hxw := hxw.e0 (ext_drew _)
              have hszd := hxw.size
              refine ldS ((hobt.e0 hxw).cell rfl) ?_;((conv=>whnf);repeat((first|refine mvT ?_|refine mvF ?_|refine yT ?_|refine yF ?_);conv=>whnf))
              refine ⟨bl, 0, rfl, ⟨by omega, by omega⟩, ?_⟩
              ((conv=>whnf);repeat((first|refine mvT ?_|refine mvF ?_|refine yT ?_|refine yF ?_);conv=>whnf))
              refine ldS ((hobl.e0 hxw).cell rfl) ?_;((conv=>whnf);repeat((first|refine mvT ?_|refine mvF ?_|refine yT ?_|refine yF ?_);conv=>whnf))
              refine ⟨_, ld ((hq.e0 (hx0.e0 hxw)).cell (j := 16) rfl) (by simp), ?_⟩
              ((conv=>whnf);repeat((first|refine mvT ?_|refine mvF ?_|refine yT ?_|refine yF ?_);conv=>whnf))
              refine ⟨be, oe, rfl, ⟨by omega, by omega⟩, ?_⟩
              ((conv=>whnf);repeat((first|refine mvT ?_|refine mvF ?_|refine yT ?_|refine yF ?_);conv=>whnf))
              constructor
              · conv => whnf
                refine Does.mono (tellStreamsGroupHeartbeatResponsePartitionsByUserEndpoint (F := F) (hce.e0 (hx0.e0 hxw)) (QPart_later true 8 _ _ _ w0 _ F F nob hqe (hx0.e0 hxw) fun k _ hf => ⟨fun f => f, hf⟩) hlime) ?_
                rintro r wt ⟨t', hnr', ⟨cr, rfl, htr⟩, hxt⟩
                have hszt := hxw.size
                have hxw := hxw.e0 hxt
                obtain ⟨n', sv', nl', lv', uv', rfl⟩ : ∃ n sv nl lv uv, cr = [.int .i64 n, sv, .bool nl, lv, uv] := by cases htr; exact ⟨_, _, _, _, _, rfl⟩
                refine ⟨by (conv => whnf); exact ⟨⟨_, (hobt.e0 hxw).cell rfl, rfl, rfl⟩, ⟨_, (hobl.e0 hxw).cell rfl, rfl, rfl⟩, trivial⟩, ?_⟩
                conv => whnf
                intro bs ws hbs hos hxs
                have hos : Own ws bs TT [.int .i64 0, .slice none 0 0, .bool false, .slice none 0 0, .slice none 0 0] := hos
                have hxw := hxw.e0 hxs
                refine ⟨by (conv => whnf); exact ⟨⟨_, (hobt.e0 hxw).cell rfl, rfl, rfl⟩, ⟨_, (hobl.e0 hxw).cell rfl, rfl, rfl⟩, ⟨_, (hq.e0 (hx0.e0 hxw)).cell (j := 16) rfl, rfl, rfl⟩, trivial⟩, ?_⟩
                have htrw : TrC ws (fun k => w.heap.size ≤ k ∧ k < ws.heap.size) [.int .i64 n', sv', .bool nl', lv', uv'] t' := ((htr.mono (F' := fun k => w.heap.size ≤ k ∧ k < wt.heap.size) fun k hk h => ⟨by omega, hk⟩).ext hxs fun _ _ _ f => f).mono fun k hk h => ⟨h.1, hk⟩
                conv => whnf
                refine OLn.app (x := .mk 0 [] false [] []) (hT.ext hxw fun _ _ _ f => f) rfl hos rfl rfl (by omega) (by decide) (by have := hxw.size; have := hxL.size; omega) (TrC.leaf rfl (Bytes.nil _ _)) ?_
                intro v5 w5 hT5 hx5 hbk5
                obtain ⟨a5, c5, rfl⟩ := hT5.one
                have hown5 : ∀ k, (Value.slice av ts15.length cv).ownBlock = some k → wL.heap.size ≤ k ∧ k < w.heap.size := fun k hk => hT.own k hk
                have hbl5 := (hobl.e0 hxw).ext hx5 fun h => by have := hown5 bl h; have := hLlt bl (by simp [inL]); omega
                have hblL := hLlt bl (by simp [inL])
                have hsLw := hxL.size
                have hszx := hxw.size
                ((conv=>whnf);repeat((first|refine mvT ?_|refine mvF ?_|refine yT ?_|refine yF ?_);conv=>whnf))
                refine ⟨bl, 0, rfl, ⟨by omega, by omega⟩, ?_⟩
                ((conv=>whnf);repeat((first|refine mvT ?_|refine mvF ?_|refine yT ?_|refine yF ?_);conv=>whnf))
                refine st_cell (o := 78) (v := .slice a5 (ts15 ++ [T.mk 0 [] false [] []]).length c5) hbl5 rfl rfl rfl (by simp) rfl ?_
                intro w6 ho6 hx6
                ((conv=>whnf);repeat((first|refine mvT ?_|refine mvF ?_|refine yT ?_|refine yF ?_);conv=>whnf))
                have hT6 := hT5.ext hx6 (fun k _ h1 h2 => by omega)
                obtain ⟨g, cap, hv, hput⟩ := hT6.last
                injection hv with e1 e2 e3
                subst e1
                subst e3
                have htr6 : TrC w6 (fun k => wL.heap.size ≤ k ∧ (Value.slice (some ⟨g, 0, none⟩) (ts15 ++ [T.mk 0 [] false [] []]).length c5).ownBlock ≠ some k) [.int .i64 n', sv', .bool nl', lv', uv'] t' := by
                  refine ((htrw.ext hx5 fun k _ h e => by have := hown5 k e; omega).ext hx6 fun k _ h e => by omega).mono fun k _ h => ⟨by omega, fun e => ?_⟩
                  rcases hbk5 with e2 | ⟨q2, e2, hle⟩
                  · have := hown5 k (e2 ▸ e); omega
                  · rw [e, Option.some.injEq] at e2
                    omega
                refine ⟨g, 0, rfl, ⟨by omega, by simp; omega⟩, ?_⟩
                ((conv=>whnf);repeat((first|refine mvT ?_|refine mvF ?_|refine yT ?_|refine yF ?_);conv=>whnf))
                refine hput [.int .i64 n', sv', .bool nl', lv', uv'] t' _ _ _ rfl (by simp) htr6 ?_
                intro w7 hT7 hx7
                ((conv=>whnf);repeat((first|refine mvT ?_|refine mvF ?_|refine yT ?_|refine yF ?_);conv=>whnf))
                have hgL : wL.heap.size ≤ g := (hT6.own g rfl).1
                have hxL7 : Ext (fun k => k = bl ∨ wL.heap.size ≤ k) wL w7 := (((hxL.trans (hxw.mono (M' := nob) fun _ _ f => f) fun k hk f => f.elim).trans hx5 fun k hk h => by have := hown5 k h; omega).trans hx6 fun k hk h => .inl h).trans hx7 fun k hk h => by omega
                refine ⟨i + 1, ⟨rfl, inc_eq (by omega), rfl, rfl, rfl, trivial⟩, ⟨by omega, hxL7, _, ts15 ++ [t'], ho6.ext hx7 (by omega), hT7, by simp [htl15], ?_⟩, by omega⟩
                intro j x y hx hy
                rcases Nat.lt_or_ge j ts15.length with hj | hj
                · rw [List.getElem?_append_left hj] at hy
                  exact hnr15 j x y hx hy
                · rw [List.getElem?_append_right hj] at hy
                  obtain ⟨e, he⟩ : ∃ e, j - ts15.length = e := ⟨_, rfl⟩
                  rw [he] at hy
                  cases e with
                  | zero =>
                    have : j = i := by omega
                    subst this
                    simp only [List.getElem?_cons_zero, Option.some.injEq] at hy
                    subst hy
                    rw [List.getElem?_eq_getElem (by omega), Option.some.injEq] at hx
                    subst hx
                    exact hnr'
                  | succ e => simp at hy
              · conv => whnf
                intro bs ws hbs hos hxs
                have hos : Own ws bs TT [.int .i64 0, .slice none 0 0, .bool false, .slice none 0 0, .slice none 0 0] := hos
                have hxw := hxw.e0 hxs
                refine ⟨by (conv => whnf); exact ⟨⟨_, (hobt.e0 hxw).cell rfl, rfl, rfl⟩, ⟨_, (hobl.e0 hxw).cell rfl, rfl, rfl⟩, ⟨_, (hq.e0 (hx0.e0 hxw)).cell (j := 16) rfl, rfl, rfl⟩, trivial⟩, ?_⟩
                conv => whnf
                refine Does.mono (tellStreamsGroupHeartbeatResponsePartitionsByUserEndpoint (F := F) (hce.e0 (hx0.e0 hxw)) (QPart_later true 8 _ _ _ w0 _ F F nob hqe (hx0.e0 hxw) fun k _ hf => ⟨fun f => f, hf⟩) hlime) ?_
                rintro r wt ⟨t', hnr', ⟨cr, rfl, htr⟩, hxt⟩
                have hszt := hxw.size
                have hxw := hxw.e0 hxt
                obtain ⟨n', sv', nl', lv', uv', rfl⟩ : ∃ n sv nl lv uv, cr = [.int .i64 n, sv, .bool nl, lv, uv] := by cases htr; exact ⟨_, _, _, _, _, rfl⟩
                refine ⟨by (conv => whnf); exact ⟨⟨_, (hobt.e0 hxw).cell rfl, rfl, rfl⟩, ⟨_, (hobl.e0 hxw).cell rfl, rfl, rfl⟩, trivial⟩, ?_⟩
                have hos := hos.e0 hxt
                have htrw : TrC wt (fun k => w.heap.size ≤ k ∧ k < wt.heap.size) [.int .i64 n', sv', .bool nl', lv', uv'] t' := htr.mono fun k hk h => ⟨by omega, hk⟩
                conv => whnf
                refine OLn.app (x := .mk 0 [] false [] []) (hT.ext hxw fun _ _ _ f => f) rfl hos rfl rfl (by omega) (by decide) (by have := hxw.size; have := hxL.size; omega) (TrC.leaf rfl (Bytes.nil _ _)) ?_
                intro v5 w5 hT5 hx5 hbk5
                obtain ⟨a5, c5, rfl⟩ := hT5.one
                have hown5 : ∀ k, (Value.slice av ts15.length cv).ownBlock = some k → wL.heap.size ≤ k ∧ k < w.heap.size := fun k hk => hT.own k hk
                have hbl5 := (hobl.e0 hxw).ext hx5 fun h => by have := hown5 bl h; have := hLlt bl (by simp [inL]); omega
                have hblL := hLlt bl (by simp [inL])
                have hsLw := hxL.size
                have hszx := hxw.size
                ((conv=>whnf);repeat((first|refine mvT ?_|refine mvF ?_|refine yT ?_|refine yF ?_);conv=>whnf))
                refine ⟨bl, 0, rfl, ⟨by omega, by omega⟩, ?_⟩
                ((conv=>whnf);repeat((first|refine mvT ?_|refine mvF ?_|refine yT ?_|refine yF ?_);conv=>whnf))
                refine st_cell (o := 78) (v := .slice a5 (ts15 ++ [T.mk 0 [] false [] []]).length c5) hbl5 rfl rfl rfl (by simp) rfl ?_
                intro w6 ho6 hx6
                ((conv=>whnf);repeat((first|refine mvT ?_|refine mvF ?_|refine yT ?_|refine yF ?_);conv=>whnf))
                have hT6 := hT5.ext hx6 (fun k _ h1 h2 => by omega)
                obtain ⟨g, cap, hv, hput⟩ := hT6.last
                injection hv with e1 e2 e3
                subst e1
                subst e3
                have htr6 : TrC w6 (fun k => wL.heap.size ≤ k ∧ (Value.slice (some ⟨g, 0, none⟩) (ts15 ++ [T.mk 0 [] false [] []]).length c5).ownBlock ≠ some k) [.int .i64 n', sv', .bool nl', lv', uv'] t' := by
                  refine ((htrw.ext hx5 fun k _ h e => by have := hown5 k e; omega).ext hx6 fun k _ h e => by omega).mono fun k _ h => ⟨by omega, fun e => ?_⟩
                  rcases hbk5 with e2 | ⟨q2, e2, hle⟩
                  · have := hown5 k (e2 ▸ e); omega
                  · rw [e, Option.some.injEq] at e2
                    omega
                refine ⟨g, 0, rfl, ⟨by omega, by simp; omega⟩, ?_⟩
                ((conv=>whnf);repeat((first|refine mvT ?_|refine mvF ?_|refine yT ?_|refine yF ?_);conv=>whnf))
                refine hput [.int .i64 n', sv', .bool nl', lv', uv'] t' _ _ _ rfl (by simp) htr6 ?_
                intro w7 hT7 hx7
                ((conv=>whnf);repeat((first|refine mvT ?_|refine mvF ?_|refine yT ?_|refine yF ?_);conv=>whnf))
                have hgL : wL.heap.size ≤ g := (hT6.own g rfl).1
                have hxL7 : Ext (fun k => k = bl ∨ wL.heap.size ≤ k) wL w7 := (((hxL.trans (hxw.mono (M' := nob) fun _ _ f => f) fun k hk f => f.elim).trans hx5 fun k hk h => by have := hown5 k h; omega).trans hx6 fun k hk h => .inl h).trans hx7 fun k hk h => by omega
                refine ⟨i + 1, ⟨rfl, inc_eq (by omega), rfl, rfl, rfl, trivial⟩, ⟨by omega, hxL7, _, ts15 ++ [t'], ho6.ext hx7 (by omega), hT7, by simp [htl15], ?_⟩, by omega⟩
                intro j x y hx hy
                rcases Nat.lt_or_ge j ts15.length with hj | hj
                · rw [List.getElem?_append_left hj] at hy
                  exact hnr15 j x y hx hy
                · rw [List.getElem?_append_right hj] at hy
                  obtain ⟨e, he⟩ : ∃ e, j - ts15.length = e := ⟨_, rfl⟩
                  rw [he] at hy
                  cases e with
                  | zero =>
                    have : j = i := by omega
                    subst this
                    simp only [List.getElem?_cons_zero, Option.some.injEq] at hy
                    subst hy
                    rw [List.getElem?_eq_getElem (by omega), Option.some.injEq] at hx
                    subst hx
                    exact hnr'
                  | succ e => simp at hy
          · have hil : i = ls15.length := by have := of_decide_eq_false h9; omega
            have H := Sg.up (A := [_]) H hobl (hxL.mono fun k hk h => by rcases h with h | h; exact h; omega)
            have htl15 : ts15.length = l15.length := by omega
            have hnl : a15.isNone = nl15 := hnn15 rfl
            rw [hnl] at H
            have H := H.add (Q := fun w => TrC w (fun k => w0.heap.size ≤ k) [.int .i64 0, .slice none 0 0, .bool nl15, vl15, .slice none 0 0] (.mk 0 [] nl15 ts15 [])) fun w3 x => (hT.ext x fun k hk h1 h2 => by
              have h3 : k < wL.heap.size := hLlt k (by rcases inL3 h2 with h | h | h <;> subst h <;> simp [inL])
              omega).row fun k hk => by omega
            obtain ⟨P15, hP15⟩ : ∃ P : World → Prop, P = fun w => TrC w (fun k => w0.heap.size ≤ k) [.int .i64 0, .slice none 0 0, .bool nl15, vl15, .slice none 0 0] (.mk 0 [] nl15 ts15 []) ∧ P13 w := ⟨_, rfl⟩
            replace H : Sg w0 [(bt, Tt, [.int .i64 0, .slice none 0 0, .bool false, .slice (some ⟨bl, 0, none⟩) 16 16, .slice none 0 0]), (bl, Tl, (.int .i64 n0 :: .slice none 0 0 :: .bool false :: .slice none 0 0 :: .slice none 0 0 :: .int .i64 n1 :: .slice none 0 0 :: .bool false :: .slice none 0 0 :: .slice none 0 0 :: .int .i64 nv2 :: sv2 :: .bool nm2 :: lv2 :: uv2 :: .int .i64 0 :: .slice (some ⟨bb3, 0, none⟩) s3.length cb3 :: .bool false :: .slice none 0 0 :: .slice none 0 0 :: .int .i64 n4 :: .slice none 0 0 :: .bool false :: .slice none 0 0 :: .slice none 0 0 :: .int .i64 n5 :: .slice none 0 0 :: .bool false :: .slice none 0 0 :: .slice none 0 0 :: .int .i64 n6 :: .slice none 0 0 :: .bool false :: .slice none 0 0 :: .slice none 0 0 :: .int .i64 n7 :: .slice none 0 0 :: .bool false :: .slice none 0 0 :: .slice none 0 0 :: .int .i64 n8 :: .slice none 0 0 :: .bool false :: .slice none 0 0 :: .slice none 0 0 :: .int .i64 0 :: .slice none 0 0 :: .bool nl9 :: vl9 :: .slice none 0 0 :: .int .i64 0 :: .slice none 0 0 :: .bool nl10 :: vl10 :: .slice none 0 0 :: .int .i64 0 :: .slice none 0 0 :: .bool nl11 :: vl11 :: .slice none 0 0 :: .int .i64 0 :: .slice none 0 0 :: .bool nl12 :: vl12 :: .slice none 0 0 :: .int .i64 nv13 :: sv13 :: .bool nm13 :: lv13 :: uv13 :: .int .i64 n14 :: .slice none 0 0 :: .bool false :: .slice none 0 0 :: .slice none 0 0 :: .int .i64 0 :: .slice none 0 0 :: .bool nl15 :: vl15 :: .slice none 0 0 :: [])), (b2, T2, [.int .i64 0, .slice none 0 0, .bool false, .slice none 0 0, .slice none 0 0])] P15 w := by rw [hP15]; exact H
            ((conv=>whnf);repeat((first|refine mvT ?_|refine mvF ?_|refine yT ?_|refine yF ?_);conv=>whnf))
            have hql : q < w0.heap.size := World.block_lt_of_cell? w0 _ (hq.cell (j := 0) rfl)
            have hm2 : TagsR w (fun k => F k ∧ k < w0.heap.size) m u_ := (hm.mono (F' := fun k => F k ∧ k < w0.heap.size) fun k h1 h2 => ⟨h2, h1⟩).ext H.ext fun _ _ _ f => f
            refine Does.mono (EachT tgStreamsGroupHeartbeatResponse ((hq.e0 H.ext).cell (j := 17) rfl) hm2 hd0 hu0 hs0 (Sg.at (A := []) H) (by omega) (fun k _ h e => by have := h.2; omega)) ?_
            rintro r w2 ⟨u', uv, hperm, hpw, hob, hT, hxe⟩
            have hLlt := H.own.lt
            have hw02 := H.ext.size
            have H2 := Sg.up (A := []) H hob hxe
            obtain ⟨auv, nuv, cuv, rfl⟩ := hT.one
            have H := H2.add (Q := fun w => TgsR w (fun k => w0.heap.size ≤ k) (.slice auv nuv cuv) u') fun w3 x => (hT.ext x fun k hk h1 h2 => by
              have h3 : k < w.heap.size := hLlt k (by rcases inL3 h2 with h | h | h <;> subst h <;> simp [inL])
              omega).tgs fun k hk => by omega
            clear H2
            ((conv=>whnf);repeat((first|refine mvT ?_|refine mvF ?_|refine yT ?_|refine yF ?_);conv=>whnf))
            refine ldS ((Sg.at (A := []) H).cell rfl) ?_;((conv=>whnf);repeat((first|refine mvT ?_|refine mvF ?_|refine yT ?_|refine yF ?_);conv=>whnf))
            refine Does.mono (sorted_does H.now.1 hpw (by rw [hperm.length_eq]; exact hu0)) ?_
            rintro r w3 hx3
            replace H := H.e0 hx3
            ((conv=>whnf);repeat((first|refine mvT ?_|refine mvF ?_|refine yT ?_|refine yF ?_);conv=>whnf))
            refine ⟨_, rfl, (Sg.at (A := []) H).cells, ?_⟩
            ((conv=>whnf);repeat((first|refine mvT ?_|refine mvF ?_|refine yT ?_|refine yF ?_);conv=>whnf))
            refine Sg.st (A := [_, _]) (o' := 0) (m := [.int .i64 0, .slice none 0 0, .bool false, .slice (some ⟨bl, 0, none⟩) 16 16, .slice auv nuv cuv]) H rfl (Nat.le_of_ble_eq_true rfl) rfl ?_
            clear H
            intro w H
            ((conv=>whnf);repeat((first|refine mvT ?_|refine mvF ?_|refine yT ?_|refine yF ?_);conv=>whnf))
            refine ⟨_, rfl, (Sg.at (A := [_, _]) H).cells, ?_⟩
            have hP := H.now
            rw [hP15, hP13, hP12, hP11, hP10, hP9, hP3, hP2] at hP
            have hbl := Sg.at (A := [_]) H
            refine ⟨.mk 0 [] false [numT n0, numT n1, .mk 0 s2 nl2 [] [], .mk 0 s3 false [] [], numT n4, numT n5, numT n6, numT n7, numT n8, .mk 0 [] nl9 ts9 [], .mk 0 [] nl10 ts10 [], .mk 0 [] nl11 ts11 [], .mk 0 [] nl12 ts12 [], numT (if bo13 = true then 1 else 0), numT n14, .mk 0 [] nl15 ts15 []] u', ?_, ⟨_, rfl, .mk 0 [] false [numT n0, numT n1, .mk 0 s2 nl2 [] [], .mk 0 s3 false [] [], numT n4, numT n5, numT n6, numT n7, numT n8, .mk 0 [] nl9 ts9 [], .mk 0 [] nl10 ts10 [], .mk 0 [] nl11 ts11 [], .mk 0 [] nl12 ts12 [], numT (if bo13 = true then 1 else 0), numT n14, .mk 0 [] nl15 ts15 []] u' _ _ _ [[.int .i64 n0, .slice none 0 0, .bool false, .slice none 0 0, .slice none 0 0], [.int .i64 n1, .slice none 0 0, .bool false, .slice none 0 0, .slice none 0 0], [.int .i64 nv2, sv2, .bool nm2, lv2, uv2], [.int .i64 0, .slice (some ⟨bb3, 0, none⟩) s3.length cb3, .bool false, .slice none 0 0, .slice none 0 0], [.int .i64 n4, .slice none 0 0, .bool false, .slice none 0 0, .slice none 0 0], [.int .i64 n5, .slice none 0 0, .bool false, .slice none 0 0, .slice none 0 0], [.int .i64 n6, .slice none 0 0, .bool false, .slice none 0 0, .slice none 0 0], [.int .i64 n7, .slice none 0 0, .bool false, .slice none 0 0, .slice none 0 0], [.int .i64 n8, .slice none 0 0, .bool false, .slice none 0 0, .slice none 0 0], [.int .i64 0, .slice none 0 0, .bool nl9, vl9, .slice none 0 0], [.int .i64 0, .slice none 0 0, .bool nl10, vl10, .slice none 0 0], [.int .i64 0, .slice none 0 0, .bool nl11, vl11, .slice none 0 0], [.int .i64 0, .slice none 0 0, .bool nl12, vl12, .slice none 0 0], [.int .i64 nv13, sv13, .bool nm13, lv13, uv13], [.int .i64 n14, .slice none 0 0, .bool false, .slice none 0 0, .slice none 0 0], [.int .i64 0, .slice none 0 0, .bool nl15, vl15, .slice none 0 0]] rfl (Bytes.nil _ _) (rows_sl hbl (by simp) rfl (by rw [maxLen_eq]; decide) hblw) rfl ?_ hP.1⟩, H.ext⟩
            · refine .mk _ _ _ _ _ _ _ rfl ?_ hperm hpw
              intro i x y hx hy
              match i, hx, hy with
              | 0, hx, hy => simp only [List.getElem?_cons_succ, List.getElem?_cons_zero, Option.some.injEq] at hx hy; subst hx; subst hy; exact Nrm.leaf _ _ _
              | 1, hx, hy => simp only [List.getElem?_cons_succ, List.getElem?_cons_zero, Option.some.injEq] at hx hy; subst hx; subst hy; exact Nrm.leaf _ _ _
              | 2, hx, hy => simp only [List.getElem?_cons_succ, List.getElem?_cons_zero, Option.some.injEq] at hx hy; subst hx; subst hy; exact Nrm.leaf _ _ _
              | 3, hx, hy => simp only [List.getElem?_cons_succ, List.getElem?_cons_zero, Option.some.injEq] at hx hy; subst hx; subst hy; exact Nrm.leaf _ _ _
              | 4, hx, hy => simp only [List.getElem?_cons_succ, List.getElem?_cons_zero, Option.some.injEq] at hx hy; subst hx; subst hy; exact Nrm.leaf _ _ _
              | 5, hx, hy => simp only [List.getElem?_cons_succ, List.getElem?_cons_zero, Option.some.injEq] at hx hy; subst hx; subst hy; exact Nrm.leaf _ _ _
              | 6, hx, hy => simp only [List.getElem?_cons_succ, List.getElem?_cons_zero, Option.some.injEq] at hx hy; subst hx; subst hy; exact Nrm.leaf _ _ _
              | 7, hx, hy => simp only [List.getElem?_cons_succ, List.getElem?_cons_zero, Option.some.injEq] at hx hy; subst hx; subst hy; exact Nrm.leaf _ _ _
              | 8, hx, hy => simp only [List.getElem?_cons_succ, List.getElem?_cons_zero, Option.some.injEq] at hx hy; subst hx; subst hy; exact Nrm.leaf _ _ _
              | 9, hx, hy => simp only [List.getElem?_cons_succ, List.getElem?_cons_zero, Option.some.injEq] at hx hy; subst hx; subst hy; exact .mk _ _ _ _ _ _ _ htl9 hnr9 (List.Perm.refl _) List.Pairwise.nil
              | 10, hx, hy => simp only [List.getElem?_cons_succ, List.getElem?_cons_zero, Option.some.injEq] at hx hy; subst hx; subst hy; exact .mk _ _ _ _ _ _ _ htl10 hnr10 (List.Perm.refl _) List.Pairwise.nil
              | 11, hx, hy => simp only [List.getElem?_cons_succ, List.getElem?_cons_zero, Option.some.injEq] at hx hy; subst hx; subst hy; exact .mk _ _ _ _ _ _ _ htl11 hnr11 (List.Perm.refl _) List.Pairwise.nil
              | 12, hx, hy => simp only [List.getElem?_cons_succ, List.getElem?_cons_zero, Option.some.injEq] at hx hy; subst hx; subst hy; exact .mk _ _ _ _ _ _ _ htl12 hnr12 (List.Perm.refl _) List.Pairwise.nil
              | 13, hx, hy => simp only [List.getElem?_cons_succ, List.getElem?_cons_zero, Option.some.injEq] at hx hy; subst hx; subst hy; exact Nrm.leaf _ _ _
              | 14, hx, hy => simp only [List.getElem?_cons_succ, List.getElem?_cons_zero, Option.some.injEq] at hx hy; subst hx; subst hy; exact Nrm.leaf _ _ _
              | 15, hx, hy => simp only [List.getElem?_cons_succ, List.getElem?_cons_zero, Option.some.injEq] at hx hy; subst hx; subst hy; exact .mk _ _ _ _ _ _ _ htl15 hnr15 (List.Perm.refl _) List.Pairwise.nil
            · intro i x y hx hy
              match i, hx, hy with
              | 0, hx, hy => simp only [List.getElem?_cons_succ, List.getElem?_cons_zero, Option.some.injEq] at hx hy; subst hx; subst hy; exact TrC.leaf hw0 (Bytes.nil _ _)
              | 1, hx, hy => simp only [List.getElem?_cons_succ, List.getElem?_cons_zero, Option.some.injEq] at hx hy; subst hx; subst hy; exact TrC.leaf hw1 (Bytes.nil _ _)
              | 2, hx, hy => simp only [List.getElem?_cons_succ, List.getElem?_cons_zero, Option.some.injEq] at hx hy; subst hx; subst hy; exact hP.2.2.2.2.2.2.2.2.1
              | 3, hx, hy => simp only [List.getElem?_cons_succ, List.getElem?_cons_zero, Option.some.injEq] at hx hy; subst hx; subst hy; exact hP.2.2.2.2.2.2.2.1
              | 4, hx, hy => simp only [List.getElem?_cons_succ, List.getElem?_cons_zero, Option.some.injEq] at hx hy; subst hx; subst hy; exact TrC.leaf hw4 (Bytes.nil _ _)
              | 5, hx, hy => simp only [List.getElem?_cons_succ, List.getElem?_cons_zero, Option.some.injEq] at hx hy; subst hx; subst hy; exact TrC.leaf hw5 (Bytes.nil _ _)
              | 6, hx, hy => simp only [List.getElem?_cons_succ, List.getElem?_cons_zero, Option.some.injEq] at hx hy; subst hx; subst hy; exact TrC.leaf hw6 (Bytes.nil _ _)
              | 7, hx, hy => simp only [List.getElem?_cons_succ, List.getElem?_cons_zero, Option.some.injEq] at hx hy; subst hx; subst hy; exact TrC.leaf hw7 (Bytes.nil _ _)
              | 8, hx, hy => simp only [List.getElem?_cons_succ, List.getElem?_cons_zero, Option.some.injEq] at hx hy; subst hx; subst hy; exact TrC.leaf hw8 (Bytes.nil _ _)
              | 9, hx, hy => simp only [List.getElem?_cons_succ, List.getElem?_cons_zero, Option.some.injEq] at hx hy; subst hx; subst hy; exact hP.2.2.2.2.2.2.1
              | 10, hx, hy => simp only [List.getElem?_cons_succ, List.getElem?_cons_zero, Option.some.injEq] at hx hy; subst hx; subst hy; exact hP.2.2.2.2.2.1
              | 11, hx, hy => simp only [List.getElem?_cons_succ, List.getElem?_cons_zero, Option.some.injEq] at hx hy; subst hx; subst hy; exact hP.2.2.2.2.1
              | 12, hx, hy => simp only [List.getElem?_cons_succ, List.getElem?_cons_zero, Option.some.injEq] at hx hy; subst hx; subst hy; exact hP.2.2.2.1
              | 13, hx, hy => simp only [List.getElem?_cons_succ, List.getElem?_cons_zero, Option.some.injEq] at hx hy; subst hx; subst hy; exact hP.2.2.1
              | 14, hx, hy => simp only [List.getElem?_cons_succ, List.getElem?_cons_zero, Option.some.injEq] at hx hy; subst hx; subst hy; exact TrC.leaf hw14 (Bytes.nil _ _)
              | 15, hx, hy => simp only [List.getElem?_cons_succ, List.getElem?_cons_zero, Option.some.injEq] at hx hy; subst hx; subst hy; exact hP.2.1
theorem newStreamsGroupHeartbeatResponse (w : World) : Does X.P 13 #[] w fun r w' => ∃ p, r = .pointer (some ⟨p, 0, none⟩) ∧ w.heap.size ≤ p ∧ Own w' p 73 [.int .i16 0, .int .i32 0, .int .i16 0, .pointer none, str [], .int .i32 0, .int .i32 0, .int .i32 0, .int .i32 0, .int .i64 (-1), .slice none 0 0, .slice none 0 0, .slice none 0 0, .slice none 0 0, .bool false, .int .i32 0, .slice none 0 0, .map none] ∧ Ext nob w w' := by
  refine Does.go (X := X) (l := []) Tryz.func13 rfl (by kernel_rfl) (by kernel_rfl) _ rfl ?_
  ((conv=>whnf);repeat((first|refine mvT ?_|refine mvF ?_|refine yT ?_|refine yF ?_);conv=>whnf))
  intro p w1 hp ho hx
  ((conv=>whnf);repeat((first|refine mvT ?_|refine mvF ?_|refine yT ?_|refine yF ?_);conv=>whnf))
  refine Does.mono (dfStreamsGroupHeartbeatResponse (pre := []) (cur := [.int .i16 0, .int .i32 0, .int .i16 0, .pointer none, str [], .int .i32 0, .int .i32 0, .int .i32 0, .int .i32 0, .int .i64 0, .slice none 0 0, .slice none 0 0, .slice none 0 0, .slice none 0 0, .bool false, .int .i32 0, .slice none 0 0, .map none]) (post := []) (by simpa using ho) rfl rfl) ?_;rintro r2 w2 ⟨hd, hx2⟩;((conv=>whnf);repeat((first|refine mvT ?_|refine mvF ?_|refine yT ?_|refine yF ?_);conv=>whnf))
  exact ⟨p, rfl, hp, by simpa using hd, hx.st hx2 hp⟩
theorem maxStreamsGroupHeartbeatResponse (w : World) : Does X.P 5 #[] w fun r w' => r = .int .i64 1 ∧ Ext nob w w' := by
  have hmax : ∀ (p : Nat) (w : World), Does X.P 14 #[.pointer (some ⟨p, 0, none⟩)] w fun r w' => r = .int .i16 1 ∧ w' = w := by
    intro p w
    refine Does.go (X := X) (l := [_]) Tryz.func14 rfl (by kernel_rfl) (by kernel_rfl) _ rfl ?_
    ((conv=>whnf);repeat((first|refine mvT ?_|refine mvF ?_|refine yT ?_|refine yF ?_);conv=>whnf))
    exact ⟨rfl, rfl⟩
  refine Does.go (X := X) (l := []) Tryz.func5 rfl (by kernel_rfl) (by kernel_rfl) _ rfl ?_
  ((conv=>whnf);repeat((first|refine mvT ?_|refine mvF ?_|refine yT ?_|refine yF ?_);conv=>whnf))
  refine Does.mono (newStreamsGroupHeartbeatResponse w) ?_;rintro r1 w1 ⟨p, rfl, _, _, hx⟩;((conv=>whnf);repeat((first|refine mvT ?_|refine mvF ?_|refine yT ?_|refine yF ?_);conv=>whnf))
  refine Does.mono (hmax p w1) ?_;rintro r2 w2 ⟨rfl, rfl⟩;((conv=>whnf);repeat((first|refine mvT ?_|refine mvF ?_|refine yT ?_|refine yF ?_);conv=>whnf))
  exact ⟨rfl, hx⟩
theorem defsStreamsGroupHeartbeatResponse {G : Nat → Prop} {w : World} {v : Int} {x ev : Value} {s : List UInt8} {t : T} (hL : Laid w ev) (hx : Bytes w G x s) (hv : 0 ≤ v) (hv2 : v < 32768)
    (hrd : rdPart 9 v (decide (v ≥ 0)) dStreamsGroupHeartbeatResponse (s, false) = (t, ([], false))) (hlim : LimT t) (hs : s.length ≤ 100000000000000) (hll : t.l.length = 16) :
    Does X.P 8 #[.int .i64 v, x] w fun r w' => ∃ o t', r = .tuple #[o, .bool true] ∧ Small t' ∧ (atT t' 8).n = (-1) ∧ Tr w' (fun k => w.heap.size ≤ k) o t' ∧ Ext nob w w' := by
  have hv16 : IntKind.i16.wrap v = v := by
    simp only [IntKind.wrap, IntKind.bits, IntKind.signed]
    simp
    omega
  obtain ⟨ax, cx, rfl, _⟩ := hx.view
  have hL1 := hL.lt
  refine Does.go (X := X) (l := [_, _]) Tryz.func8 rfl (by kernel_rfl) (by kernel_rfl) _ rfl ?_
  ((conv=>whnf);repeat((first|refine mvT ?_|refine mvF ?_|refine yT ?_|refine yF ?_);conv=>whnf))
  intro b w0 hb ho hx0
  ((conv=>whnf);repeat((first|refine mvT ?_|refine mvF ?_|refine yT ?_|refine yF ?_);conv=>whnf))
  refine Does.mono (newStreamsGroupHeartbeatResponse w0) ?_;rintro r1 w1 ⟨p, rfl, hwp, hop, hx1⟩;((conv=>whnf);repeat((first|refine mvT ?_|refine mvF ?_|refine yT ?_|refine yF ?_);conv=>whnf))
  have hwp : w.heap.size ≤ p := Nat.le_trans hx0.size hwp
  have hpb : p ≠ b := by have := ho.lt; omega
  have hx01 := hx0.e0 hx1
  have hset : Does X.P 18 #[.pointer (some ⟨p, 0, none⟩), .int .i16 (IntKind.i16.wrap v)] w1 fun r w' => Own w' p 73 [.int .i16 v, .int .i32 0, .int .i16 0, .pointer none, str [], .int .i32 0, .int .i32 0, .int .i32 0, .int .i32 0, .int .i64 (-1), .slice none 0 0, .slice none 0 0, .slice none 0 0, .slice none 0 0, .bool false, .int .i32 0, .slice none 0 0, .map none] ∧ Ext (fun k => k = p) w1 w' := by
    rw [hv16]
    refine Does.go (X := X) (l := [_, _]) Tryz.func18 rfl (by kernel_rfl) (by kernel_rfl) _ rfl ?_
    ((conv=>whnf);repeat((first|refine mvT ?_|refine mvF ?_|refine yT ?_|refine yF ?_);conv=>whnf))
    refine ⟨_, _, hop, rfl, rfl, rfl, ?_⟩
    intro w3 ho3 hx3
    ((conv=>whnf);repeat((first|refine mvT ?_|refine mvF ?_|refine yT ?_|refine yF ?_);conv=>whnf))
    exact ⟨ho3, hx3⟩
  refine Does.mono (hset) ?_;rintro r2 w2 ⟨hop2, hx2⟩;((conv=>whnf);repeat((first|refine mvT ?_|refine mvF ?_|refine yT ?_|refine yF ?_);conv=>whnf))
  have hx02 := hx01.st hx2 hwp
  have ho2 := (ho.e0 hx1).ext hx2 (fun e => hpb e.symm)
  refine app_bytes rfl rfl (OB.nil w2 w2.heap.size) (hx.e0 hx02).src rfl (by simp only [List.length_nil]; omega) (Nat.le_refl _) ?_
  intro x3 w3 h3 hx3 _ _
  ((conv=>whnf);repeat((first|refine mvT ?_|refine mvF ?_|refine yT ?_|refine yF ?_);conv=>whnf))
  rw [List.nil_append] at h3
  have hx3 : Ext nob w2 w3 := hx3.mono fun k _ h => by simp [Value.ownBlock] at h
  have hx03 := hx02.e0 hx3
  have hpl := hop2.lt
  have hread : Does X.P 19 #[.pointer (some ⟨p, 0, none⟩), x3] w3 fun r w' => RdPost w3 p 73 v (decide (v ≥ 0)) true dStreamsGroupHeartbeatResponse ev s r w' := by
    obtain ⟨a3, c3, rfl, _⟩ := h3.shape
    refine Does.go (X := X) (l := [_, _]) Tryz.func19 rfl (by kernel_rfl) (by kernel_rfl) _ rfl ?_
    ((conv=>whnf);repeat((first|refine mvT ?_|refine mvF ?_|refine yT ?_|refine yF ?_);conv=>whnf))
    refine Does.mono (readStreamsGroupHeartbeatResponse (hL.ext hx03 fun f => f) (hop2.e0 hx3) (h3.bytes (F := fun k => k ≠ p) fun k hk => by omega) (fun k h => h) hv (by omega)) ?_;rintro r w' h;((conv=>whnf);repeat((first|refine mvT ?_|refine mvF ?_|refine yT ?_|refine yF ?_);conv=>whnf))
    exact h
  refine Does.mono hread ?_
  rintro r4 w4 ⟨hr4, hx4, hpost⟩
  rw [hrd] at hr4 hpost
  obtain rfl : r4 = .nilIface := hr4.trans (if_neg Bool.false_ne_true)
  obtain ⟨cs, hop4, hq⟩ := hpost rfl
  ((conv=>whnf);repeat((first|refine mvT ?_|refine mvF ?_|refine yT ?_|refine yF ?_);conv=>whnf))
  have hx04 := hx03.st hx4 hwp
  have ho4 := (ho2.e0 hx3).ext hx4 (fun e => hpb e.symm)
  have hbl4 := ho4.lt
  have hcl : cs.length = 17 := (QPart_len hq).trans (by decide)
  refine Does.mono (dfStreamsGroupHeartbeatResponse (pre := []) (cur := .int .i16 v :: cs) (post := []) (by simpa using hop4) rfl (by simp [hcl])) ?_
  rintro rd wd ⟨hd, hxd⟩
  have hopd : Own wd p 73 (.int .i16 v :: cs.set 8 (.int .i64 (-1))) := by simpa using hd
  obtain ⟨_, ll, uu, _, _, rfl, _, _⟩ := iP hq
  have hll : ll.length = 16 := hll
  have hqd : QPart true 9 dStreamsGroupHeartbeatResponse ⟨wd, fun k => k ≠ p⟩ (cs.set 8 (.int .i64 (-1))) (.mk 0 [] false (ll.set 8 (numT (-1))) uu) :=
    QPart_set (c' := .int .i64 (-1)) (x' := numT (-1)) 8 (QPart_later true 9 _ _ _ w4 wd (fun k => k ≠ p) (fun k => k ≠ p) (fun k => k = p) hq hxd fun k _ hk => ⟨hk, hk⟩) rfl rfl (QF4 rfl)
  have hlimd := hlim.set 8 (x := numT (-1)) (.mk _ _ _ _ _ rfl (by simp) (by simp) (by simp) (by simp) (by simp) (by simp))
  have hx04d := hx04.st hxd hwp
  have ho4d := ho4.ext hxd (fun e => hpb e.symm)
  ((conv=>whnf);repeat((first|refine mvT ?_|refine mvF ?_|refine yT ?_|refine yF ?_);conv=>whnf))
  refine Does.mono (tellStreamsGroupHeartbeatResponse hopd.cells hqd hlimd) ?_
  rintro r5 w5 ⟨t', hn, ⟨cr, rfl, htr⟩, hx5⟩
  have hlen5 := htr.len
  have hok5 := htr.ok
  ((conv=>whnf);repeat((first|refine mvT ?_|refine mvF ?_|refine yT ?_|refine yF ?_);conv=>whnf))
  refine st_all cr (ho4d.e0 hx5) hlen5 rfl hok5 ?_
  intro w6 ho6 hx6
  ((conv=>whnf);repeat((first|refine mvT ?_|refine mvF ?_|refine yT ?_|refine yF ?_);conv=>whnf))
  refine ⟨cr, hlen5, ho6.cells, ?_⟩
  have hsz4 := hx04d.size
  have hbl4d := ho4d.lt
  exact ⟨_, t', rfl, Nrm.small' hlimd hn, Nrm.at hn 8 (by rw [List.getElem?_set_self (by omega)]), ⟨_, rfl, (htr.ext hx6 fun k _ h e => by omega).mono fun k _ h => by omega⟩, (hx04d.e0 hx5).st hx6 hb⟩
theorem walkStreamsGroupHeartbeatResponse {w : World} {n : Nat} (hn : n < 256) {x ev : Value} {t : T} (hL : Laid w ev) (ht : Tr w anyB x t) (hsz : wtT t ≤ 1048576) : Does X.P 3 #[.int .u8 n, x] w fun r w' => r = .bool true ∧ Ext nob w w' := by
  have hkeys := ht.keys
  obtain ⟨sv, lv, uv, ls, rfl, _⟩ := ht.open
  refine Does.go (X := X) (l := [_, _]) Tryz.func3 rfl (by kernel_rfl) (by kernel_rfl) _ rfl ?_
  ((conv=>whnf);repeat((first|refine mvT ?_|refine mvF ?_|refine yT ?_|refine yF ?_);conv=>whnf))
  intro b w1 hb ho hx
  ((conv=>whnf);repeat((first|refine mvT ?_|refine mvF ?_|refine yT ?_|refine yF ?_);conv=>whnf))
  refine ⟨_, rfl, ho.cells, ?_⟩
  ((conv=>whnf);repeat((first|refine mvT ?_|refine mvF ?_|refine yT ?_|refine yF ?_);conv=>whnf))
  refine Does.mono (zzFits1_does (ht.e0 hx)) ?_;rintro r2 w2 ⟨⟨b2, rfl⟩, hx2⟩;((conv=>whnf);repeat((first|refine mvT ?_|refine mvF ?_|refine yT ?_|refine yF ?_);conv=>whnf))
  have hx02 := hx.e0 hx2
  refine cI (by rfl) (fun h1=>?_) (fun h1=>?_)
  · ((conv=>whnf);repeat((first|refine mvT ?_|refine mvF ?_|refine yT ?_|refine yF ?_);conv=>whnf))
    exact ⟨rfl, hx02⟩
  · ((conv=>whnf);repeat((first|refine mvT ?_|refine mvF ?_|refine yT ?_|refine yF ?_);conv=>whnf))
    refine Does.mono (maxStreamsGroupHeartbeatResponse w2) ?_;rintro r3 w3 ⟨rfl, hx3⟩;((conv=>whnf);repeat((first|refine mvT ?_|refine mvF ?_|refine yT ?_|refine yF ?_);conv=>whnf))
    refine Does.mono (sStreamsGroupHeartbeatResponse w3) ?_;rintro r4 w4 ⟨⟨fv, rfl, hfd⟩, hx4⟩;((conv=>whnf);repeat((first|refine mvT ?_|refine mvF ?_|refine yT ?_|refine yF ?_);conv=>whnf))
    have hone := hfd
    obtain ⟨ls3, hsl3, _⟩ := hone
    obtain ⟨a3, c3, rfl, _⟩ := hsl3.view
    refine Does.mono (version_does n 1 hn (by omega) w4) ?_;rintro r5 w5 ⟨rfl, rfl⟩;((conv=>whnf);repeat((first|refine mvT ?_|refine mvF ?_|refine yT ?_|refine yF ?_);conv=>whnf))
    intro b6 w6 hb6 ho6 hx6
    ((conv=>whnf);repeat((first|refine mvT ?_|refine mvF ?_|refine yT ?_|refine yF ?_);conv=>whnf))
    refine ⟨_, _, ho6, rfl, rfl, rfl, ?_⟩
    intro w7 ho7 hx7
    have hx57 : Ext nob w5 w7 := hx6.st hx7 hb6
    ((conv=>whnf);repeat((first|refine mvT ?_|refine mvF ?_|refine yT ?_|refine yF ?_);conv=>whnf))
    have hx07 : Ext nob w w7 := ((hx02.e0 hx3).e0 hx4).e0 hx57
    have ho1 := (((ho.e0 hx2).e0 hx3).e0 hx4).e0 hx57
    generalize hvv : ((n % (1 + 1) : Nat) : Int) = v
    have hv0 : 0 ≤ v := by omega
    have hv1 : v < 32768 := by omega
    have hok : ∀ f, f ∈ dStreamsGroupHeartbeatResponse → okF 9 f = true := List.all_eq_true.1 (show (dStreamsGroupHeartbeatResponse).all (okF 9) = true by decide)
    have hnt : ∀ f, f ∈ dStreamsGroupHeartbeatResponse → ntF 9 f = true := List.all_eq_true.1 (show (dStreamsGroupHeartbeatResponse).all (ntF 9) = true by decide)
    have hrr : ∀ f, f ∈ dStreamsGroupHeartbeatResponse → okR 0 9 f = true := List.all_eq_true.1 (show (dStreamsGroupHeartbeatResponse).all (okR 0 9) = true by decide)
    have hww : ∀ f, f ∈ dStreamsGroupHeartbeatResponse → okW 9 f = true := List.all_eq_true.1 (show (dStreamsGroupHeartbeatResponse).all (okW 9) = true by decide)
    have hnn : ∀ f, f ∈ dStreamsGroupHeartbeatResponse → okN 9 f = true := List.all_eq_true.1 (show (dStreamsGroupHeartbeatResponse).all (okN 9) = true by decide)
    refine ⟨_, rfl, ho7.cells, ?_⟩
    ((conv=>whnf);repeat((first|refine mvT ?_|refine mvF ?_|refine yT ?_|refine yF ?_);conv=>whnf))
    refine ⟨_, rfl, ho1.cells, ?_⟩
    ((conv=>whnf);repeat((first|refine mvT ?_|refine mvF ?_|refine yT ?_|refine yF ?_);conv=>whnf))
    have hfx : decide (v ≥ 0) = flexB 0 v := by simp [flexB]
    have hlen : (partB 9 v (flexB 0 v) dStreamsGroupHeartbeatResponse t).length ≤ 90000000000000 := Nat.le_trans (partB_wt 9 v _ dStreamsGroupHeartbeatResponse t hnt hkeys) (Nat.le_trans (Nat.mul_le_mul_left _ hsz) (Nat.le_of_ble_eq_true rfl))
    refine Does.mono (write_does 9 (v := v) ⟨_, rfl, hfd.e0 hx57⟩ (ht.e0 hx07) hok (by decide) (Nat.le_trans hlen (by decide))) ?_
    rintro r8 w8 ⟨hr8, hx8⟩
    obtain ⟨a8, c8, rfl, _⟩ := hr8.shape
    ((conv=>whnf);repeat((first|refine mvT ?_|refine mvF ?_|refine yT ?_|refine yF ?_);conv=>whnf))
    have hx08 := hx07.e0 hx8
    have hrd : rdPart 9 v (decide (v ≥ 0)) dStreamsGroupHeartbeatResponse (partB 9 v (flexB 0 v) dStreamsGroupHeartbeatResponse t, false) = (toPart 9 v (decide (v ≥ 0)) dStreamsGroupHeartbeatResponse t, ([], false)) := by
      have := part_read 9 0 v dStreamsGroupHeartbeatResponse t hnt hrr hkeys hv0 []
      rw [List.append_nil] at this
      rw [hfx]
      exact this
    have hgd := gd_part 9 v (decide (v ≥ 0)) dStreamsGroupHeartbeatResponse t hok (by decide) hkeys
    refine Does.mono (defsStreamsGroupHeartbeatResponse (v := v) (hL.ext hx08 fun f => f) hr8.bytesAny hv0 hv1 hrd hgd.lim (by omega) (toAll_length _ _ _ _ _ _)) ?_
    rintro r9 w9 ⟨o9, t9, rfl, hsm, hn9, hr9, hx9⟩
    obtain ⟨c9, rfl, hc9⟩ := hr9
    have hlen9 := hc9.len
    have hok9 := hc9.ok
    ((conv=>whnf);repeat((first|refine mvT ?_|refine mvF ?_|refine yT ?_|refine yF ?_);conv=>whnf))
    intro b10 w10 hb10 ho10 hx10
    ((conv=>whnf);repeat((first|refine mvT ?_|refine mvF ?_|refine yT ?_|refine yF ?_);conv=>whnf))
    refine st_all c9 ho10 hlen9 rfl hok9 ?_
    intro w11 ho11 hx11
    ((conv=>whnf);repeat((first|refine mvT ?_|refine mvF ?_|refine yT ?_|refine yF ?_);conv=>whnf))
    have hx911 : Ext nob w9 w11 := hx10.st hx11 hb10
    have hx011 := (hx08.e0 hx9).e0 hx911
    have hx711 := (hx8.e0 hx9).e0 hx911
    refine VD.draw mixed (.q 0 (.q 1 (.q 2 (.q 3 (.q 4 (.eff 5 [3] (.eff 6 [] (.q 7 (.eff 8 [] (.done)))))))))) (by kernel_rfl) ?_;((conv=>whnf);repeat((first|refine mvT ?_|refine mvF ?_|refine yT ?_|refine yF ?_);conv=>whnf))
    have hxd : Ext nob w11 w11.drew := ext_drew _
    have ho7d := (ho7.e0 hx711).e0 hxd
    have ho11d := ho11.e0 hxd
    have hc9d := (hc9.e0 hx911).e0 hxd
    refine ldS (ho7d.cell rfl) ?_;((conv=>whnf);repeat((first|refine mvT ?_|refine mvF ?_|refine yT ?_|refine yF ?_);conv=>whnf))
    refine ⟨c9, hlen9, ho11d.cells, ?_⟩
    ((conv=>whnf);repeat((first|refine mvT ?_|refine mvF ?_|refine yT ?_|refine yF ?_);conv=>whnf))
    refine Does.mono (got_does ⟨_, rfl, hc9d⟩ hsm) ?_
    rintro r13 w13 ⟨hr13, hx13⟩
    refine ⟨by (conv => whnf); exact ⟨⟨_, (ho7d.e0 hx13).cell rfl, rfl, rfl⟩, trivial⟩, ?_⟩
    ((conv=>whnf);repeat((first|refine mvT ?_|refine mvF ?_|refine yT ?_|refine yF ?_);conv=>whnf))
    have hx013 := (hx011.e0 hxd).e0 hx13
    refine Does.mono (Defaults_does (d := 8) (((((hfd.e0 hx57).e0 hx711).e0 hxd).e0 hx13)) hr13 hok ?_ (fun f hf => of_decide_eq_true (List.all_eq_true.1 (show (dStreamsGroupHeartbeatResponse).all (fun f => decide (IntKind.i64.wrap f.df = f.df)) = true by decide) f hf))) ?_
    · intro i f hi hne
      match i, hi with
      | 0, hi => simp only [dStreamsGroupHeartbeatResponse, List.getElem?_cons_succ, List.getElem?_cons_zero, Option.some.injEq] at hi; subst hi; exact absurd rfl hne
      | 1, hi => simp only [dStreamsGroupHeartbeatResponse, List.getElem?_cons_succ, List.getElem?_cons_zero, Option.some.injEq] at hi; subst hi; exact absurd rfl hne
      | 2, hi => simp only [dStreamsGroupHeartbeatResponse, List.getElem?_cons_succ, List.getElem?_cons_zero, Option.some.injEq] at hi; subst hi; exact absurd rfl hne
      | 3, hi => simp only [dStreamsGroupHeartbeatResponse, List.getElem?_cons_succ, List.getElem?_cons_zero, Option.some.injEq] at hi; subst hi; exact absurd rfl hne
      | 4, hi => simp only [dStreamsGroupHeartbeatResponse, List.getElem?_cons_succ, List.getElem?_cons_zero, Option.some.injEq] at hi; subst hi; exact absurd rfl hne
      | 5, hi => simp only [dStreamsGroupHeartbeatResponse, List.getElem?_cons_succ, List.getElem?_cons_zero, Option.some.injEq] at hi; subst hi; exact absurd rfl hne
      | 6, hi => simp only [dStreamsGroupHeartbeatResponse, List.getElem?_cons_succ, List.getElem?_cons_zero, Option.some.injEq] at hi; subst hi; exact absurd rfl hne
      | 7, hi => simp only [dStreamsGroupHeartbeatResponse, List.getElem?_cons_succ, List.getElem?_cons_zero, Option.some.injEq] at hi; subst hi; exact absurd rfl hne
      | 8, hi => simp only [dStreamsGroupHeartbeatResponse, List.getElem?_cons_succ, List.getElem?_cons_zero, Option.some.injEq] at hi; subst hi; exact hn9.trans (by first | rfl | decide)
      | 9, hi => simp only [dStreamsGroupHeartbeatResponse, List.getElem?_cons_succ, List.getElem?_cons_zero, Option.some.injEq] at hi; subst hi; exact absurd rfl hne
      | 10, hi => simp only [dStreamsGroupHeartbeatResponse, List.getElem?_cons_succ, List.getElem?_cons_zero, Option.some.injEq] at hi; subst hi; exact absurd rfl hne
      | 11, hi => simp only [dStreamsGroupHeartbeatResponse, List.getElem?_cons_succ, List.getElem?_cons_zero, Option.some.injEq] at hi; subst hi; exact absurd rfl hne
      | 12, hi => simp only [dStreamsGroupHeartbeatResponse, List.getElem?_cons_succ, List.getElem?_cons_zero, Option.some.injEq] at hi; subst hi; exact absurd rfl hne
      | 13, hi => simp only [dStreamsGroupHeartbeatResponse, List.getElem?_cons_succ, List.getElem?_cons_zero, Option.some.injEq] at hi; subst hi; exact absurd rfl hne
      | 14, hi => simp only [dStreamsGroupHeartbeatResponse, List.getElem?_cons_succ, List.getElem?_cons_zero, Option.some.injEq] at hi; subst hi; exact absurd rfl hne
      | 15, hi => simp only [dStreamsGroupHeartbeatResponse, List.getElem?_cons_succ, List.getElem?_cons_zero, Option.some.injEq] at hi; subst hi; exact absurd rfl hne
      | i + 16, hi => simp at hi
    · rintro r14 w14 ⟨rfl, hx14⟩
      ((conv=>whnf);repeat((first|refine mvT ?_|refine mvF ?_|refine yT ?_|refine yF ?_);conv=>whnf))
      exact ⟨rfl, hx013.e0 hx14⟩

end Go.Proofs.YtepamajphjgigaaGreatDoor.K
