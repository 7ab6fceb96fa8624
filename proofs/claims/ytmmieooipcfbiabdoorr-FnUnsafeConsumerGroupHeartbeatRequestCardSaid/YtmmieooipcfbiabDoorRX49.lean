/- ConsumerGroupHeartbeatRequest is read and told. -/
import Derived.Test.YtmmieooipcfbiabDoorRU7
import Derived.Test.YtmmieooipcfbiabDoorRV49
import Derived.Test.YtmmieooipcfbiabDoorRGversion
set_option linter.unusedVariables false
set_option linter.unusedSimpArgs false
namespace Go.Proofs.YtmmieooipcfbiabDoorR.K
open Go
set_option maxHeartbeats 4000000
set_option maxRecDepth 100000

theorem tgConsumerGroupHeartbeatRequestTopic : TellsT 88 := by
  intro w N bt T lv bv F u x hI hN hbt hu hk hx hxl
  obtain ⟨uv, ho, hT⟩ := hI
  obtain ⟨av, cv, rfl, _⟩ := hx.view
  obtain ⟨au, nu, cu, rfl⟩ := hT.one
  refine Does.go (X := X) (l := [_, _, _]) Tryd.func88 rfl (by kernel_rfl) (by kernel_rfl) _ rfl ?_
  ((conv=>whnf);repeat(first|(refine mvT ?_;conv=>whnf)|(refine mvF ?_;conv=>whnf)|(refine cT (by rfl) ?_;conv=>whnf)|(refine cF (by rfl) ?_;conv=>whnf)))
  refine VD.draw mixed (.q 0 (.q 1 (.q 2 (.q 3 (.eff 4 [1] (.q 5 (.eff 6 [1] (.eff 7 [] (.q 8 (.eff 9 [] (.done))))))))))) (by kernel_rfl) ?_;((conv=>whnf);repeat(first|(refine mvT ?_;conv=>whnf)|(refine mvF ?_;conv=>whnf)|(refine cT (by rfl) ?_;conv=>whnf)|(refine cF (by rfl) ?_;conv=>whnf)))
  have hxd : Ext nob w w.drew := ext_drew _
  refine ldS ((ho.e0 hxd).cell rfl) ?_;((conv=>whnf);repeat(first|(refine mvT ?_;conv=>whnf)|(refine mvF ?_;conv=>whnf)|(refine cT (by rfl) ?_;conv=>whnf)|(refine cF (by rfl) ?_;conv=>whnf)))
  refine app_bytes rfl rfl (OB.nil w.drew w.drew.heap.size) (hx.e0 hxd).src rfl (by simp only [List.length_nil]; omega) (Nat.le_refl _) ?_
  intro v3 w3 h3 hx3 _ _
  rw [List.nil_append] at h3
  have hx3 : Ext nob w w3 := hxd.e0 (hx3.mono fun k _ h => by simp [Value.ownBlock] at h)
  obtain ⟨a3, c3, rfl, _⟩ := h3.shape
  refine ⟨by (conv => whnf); exact ⟨⟨_, (ho.e0 hx3).cell rfl, rfl, rfl⟩, trivial⟩, ?_⟩
  ((conv=>whnf);repeat(first|(refine mvT ?_;conv=>whnf)|(refine mvF ?_;conv=>whnf)|(refine cT (by rfl) ?_;conv=>whnf)|(refine cF (by rfl) ?_;conv=>whnf)))
  intro b4 w4 hb4 ho4 hx4
  have ho4 : Own w4 b4 TGT [.int .u32 (x.1 : Int), .slice a3 x.2.length c3] := ho4
  have hx04 := hx3.e0 hx4
  refine ⟨by (conv => whnf); exact ⟨⟨_, (ho.e0 hx04).cell rfl, rfl, rfl⟩, trivial⟩, ?_⟩
  ((conv=>whnf);repeat(first|(refine mvT ?_;conv=>whnf)|(refine mvF ?_;conv=>whnf)|(refine cT (by rfl) ?_;conv=>whnf)|(refine cF (by rfl) ?_;conv=>whnf)))
  have hs3 := hx3.size
  have hown : ∀ k, (Value.slice au nu cu).ownBlock = some k → N ≤ k ∧ k < w.heap.size := fun k hk => by
    obtain ⟨ls, h1, _⟩ := hT
    exact ⟨h1.blk k hk, h1.own.lt k hk⟩
  have hwd : w.drew.heap.size = w.heap.size := rfl
  refine OTn.app (hT.ext hx04 fun _ _ _ f => f) rfl ho4 rfl rfl rfl hu (by decide) (Nat.le_trans hN hx04.size) hk ((h3.e0 hx4).bytes fun k hk => ⟨by omega, fun e => by have := hown k e; omega⟩) ?_
  intro v5 w5 hT5 hx5
  obtain ⟨a5, n5, c5, rfl⟩ := hT5.one
  have hob := (ho.e0 hx04).ext hx5 fun h => by have := hown bt h; omega
  ((conv=>whnf);repeat(first|(refine mvT ?_;conv=>whnf)|(refine mvF ?_;conv=>whnf)|(refine cT (by rfl) ?_;conv=>whnf)|(refine cF (by rfl) ?_;conv=>whnf)))
  refine st_cell (o := 4) (v := .slice a5 n5 c5) hob rfl (by omega) rfl (by simp) rfl ?_
  intro w6 ho6 hx6
  ((conv=>whnf);repeat(first|(refine mvT ?_;conv=>whnf)|(refine mvF ?_;conv=>whnf)|(refine cT (by rfl) ?_;conv=>whnf)|(refine cF (by rfl) ?_;conv=>whnf)))
  refine ⟨⟨_, ho6, hT5.ext hx6 fun k _ h1 h2 => by omega⟩, ?_⟩
  refine (hx04.mono fun _ _ f => f.elim).trans ((hx5.mono (M' := fun j => j = bt ∨ N ≤ j) fun k _ h => .inr (hown k h).1).trans hx6 fun k _ h => .inl h) fun _ _ h => h
theorem tellConsumerGroupHeartbeatRequestTopic {w0 : World} {F : Nat → Prop} {q o : Nat} {cs : List Value} {t : T} (hq : Cells w0 q o cs) (hQ : QPart true 8 dConsumerGroupHeartbeatRequestTopic ⟨w0, F⟩ cs t) (hlim : LimT t) :
    Does X.P 62 #[.pointer (some ⟨q, o, none⟩)] w0 fun r w' => ∃ t', Nrm t t' ∧ Tr w' (fun k => w0.heap.size ≤ k) r t' ∧ Ext nob w0 w' := by
  obtain ⟨_, _, u_, m, rfl, rfl, hA0, hm⟩ := iP hQ
  clear hQ
  obtain ⟨cc0, _, x0, _, rfl, rfl, h0, hA1⟩ := iA hA0
  obtain ⟨u0_0, u0_1, u0_2, u0_3, u0_4, u0_5, u0_6, u0_7, u0_8, u0_9, u0_10, u0_11, u0_12, u0_13, u0_14, u0_15, rfl, rfl⟩ := iF7 h0
  obtain ⟨cc1, _, x1, _, rfl, rfl, h1, hA2⟩ := iA hA1
  obtain ⟨c1, nl1, l1, rfl, hnl1, rfl, hc1⟩ : ∃ c nl l, cc1 = [c] ∧ (nl = true → l = []) ∧ x1 = .mk 0 [] nl l [] ∧ ListR true (elZ true 7 3 []) (elQ true 7 3 [] ⟨w0, F⟩) w0 F c x1 := h1
  obtain ⟨rfl, rfl⟩ := hA2
  cases hlim
  rename_i hU hKU hDU hLs hu0 hs0 hd0
  have hq : Cells w0 q o [bcell u0_0, bcell u0_1, bcell u0_2, bcell u0_3, bcell u0_4, bcell u0_5, bcell u0_6, bcell u0_7, bcell u0_8, bcell u0_9, bcell u0_10, bcell u0_11, bcell u0_12, bcell u0_13, bcell u0_14, bcell u0_15, c1, m] := hq
  obtain ⟨a1, k1, ls1, rfl, hk1, hll1, hnn1, hcl1, hrl1⟩ := hc1.view
  refine Does.go (X := X) (l := [_]) Tryd.func62 rfl (by kernel_rfl) (by kernel_rfl) _ rfl ?_
  ((conv=>whnf);repeat(first|(refine mvT ?_;conv=>whnf)|(refine mvF ?_;conv=>whnf)|(refine cT (by rfl) ?_;conv=>whnf)|(refine cF (by rfl) ?_;conv=>whnf)))
  intro b2 w1 hb2 ho2 hx1
  ((conv=>whnf);repeat(first|(refine mvT ?_;conv=>whnf)|(refine mvF ?_;conv=>whnf)|(refine cT (by rfl) ?_;conv=>whnf)|(refine cF (by rfl) ?_;conv=>whnf)))
  refine ⟨⟨by decide, by decide, by decide, by decide⟩, ⟨by decide, rfl⟩, ?_⟩
  intro bl w2 hbl hol hx2
  ((conv=>whnf);repeat(first|(refine mvT ?_;conv=>whnf)|(refine mvF ?_;conv=>whnf)|(refine cT (by rfl) ?_;conv=>whnf)|(refine cF (by rfl) ?_;conv=>whnf)))
  intro bt w3 hbt hot hx3
  ((conv=>whnf);repeat(first|(refine mvT ?_;conv=>whnf)|(refine mvF ?_;conv=>whnf)|(refine cT (by rfl) ?_;conv=>whnf)|(refine cF (by rfl) ?_;conv=>whnf)))
  have hzz : w0.heap.size ≤ w1.heap.size := hx1.size
  have H := (((Sg.start w0).push hx1 ho2 hb2).push hx2 hol hbl).push hx3 hot hbt
  refine Sg.st (A := []) (o' := 0) (m := [.int .i64 0, .slice none 0 0, .bool false, .slice (some ⟨bl, 0, none⟩) 2 2, .slice none 0 0]) H rfl (Nat.le_of_ble_eq_true rfl) rfl ?_
  clear H hot hol ho2 hx1 hx2 hx3
  intro w H
  obtain ⟨Tt, Tl, T2, H⟩ : ∃ Tt Tl T2, Sg w0 [(bt, Tt, [.int .i64 0, .slice none 0 0, .bool false, .slice (some ⟨bl, 0, none⟩) 2 2, .slice none 0 0]), (bl, Tl, [.int .i64 0, .slice none 0 0, .bool false, .slice none 0 0, .slice none 0 0, .int .i64 0, .slice none 0 0, .bool false, .slice none 0 0, .slice none 0 0]), (b2, T2, [.int .i64 0, .slice none 0 0, .bool false, .slice none 0 0, .slice none 0 0])] (fun _ => True) w := ⟨_, _, _, H⟩
  have hb2w : w0.heap.size ≤ b2 := hb2
  have hblw : w0.heap.size ≤ bl := by omega
  have hbtw : w0.heap.size ≤ bt := by have := H.dis.1; exact this
  ((conv=>whnf);repeat(first|(refine mvT ?_;conv=>whnf)|(refine mvF ?_;conv=>whnf)|(refine cT (by rfl) ?_;conv=>whnf)|(refine cF (by rfl) ?_;conv=>whnf)))
  refine VD.draw mixed (.q 0 (.q 1 (.q 2 (.q 3 (.q 4 (.q 5 (.eff 6 [1] (.q 7 (.q 8 (.eff 9 [] (.done))))))))))) (by kernel_rfl) ?_;((conv=>whnf);repeat(first|(refine mvT ?_;conv=>whnf)|(refine mvF ?_;conv=>whnf)|(refine cT (by rfl) ?_;conv=>whnf)|(refine cF (by rfl) ?_;conv=>whnf)))
  replace H := H.e0 (ext_drew _)
  refine ldS ((Sg.at (A := []) H).cell rfl) ?_;((conv=>whnf);repeat(first|(refine mvT ?_;conv=>whnf)|(refine mvF ?_;conv=>whnf)|(refine cT (by rfl) ?_;conv=>whnf)|(refine cF (by rfl) ?_;conv=>whnf)))
  have hsr0 : Src w.drew 1 (.slice (some ⟨q, o + 0, none⟩) 16 16) 16 ([u0_0, u0_1, u0_2, u0_3, u0_4, u0_5, u0_6, u0_7, u0_8, u0_9, u0_10, u0_11, u0_12, u0_13, u0_14, u0_15].map bcell) := .some q (o + 0) 16 16 _ rfl ((hq.e0 H.ext).sub2 0 16 rfl rfl)
  refine app_bytes (l := []) (m := [u0_0, u0_1, u0_2, u0_3, u0_4, u0_5, u0_6, u0_7, u0_8, u0_9, u0_10, u0_11, u0_12, u0_13, u0_14, u0_15]) rfl rfl (OB.nil _ _) (hsr0) rfl (by simp) (Nat.le_refl _) ?_
  intro va0 wa0 hba0 hxa0 _ _
  rw [List.nil_append] at hba0
  have hxa0 : Ext nob _ wa0 := hxa0.mono fun k _ h => by simp [Value.ownBlock] at h
  obtain ⟨aa0, ca0, rfl, _⟩ := hba0.shape
  have H := H.keepN (H.e0 hxa0) (trL [.int .i64 0, .slice aa0 16 ca0, .bool false, .slice none 0 0, .slice none 0 0] (.mk 0 [u0_0, u0_1, u0_2, u0_3, u0_4, u0_5, u0_6, u0_7, u0_8, u0_9, u0_10, u0_11, u0_12, u0_13, u0_14, u0_15] false [] [])) (F := fun k => _ ≤ k) (TrC.leaf rfl (hba0.bytes (F := fun k => _ ≤ k) fun k hk => hk)) fun k h => h
  refine ⟨by (conv => whnf); exact ⟨⟨_, (Sg.at (A := []) H).cell rfl, rfl, rfl⟩, trivial⟩, ?_⟩
  ((conv=>whnf);repeat(first|(refine mvT ?_;conv=>whnf)|(refine mvF ?_;conv=>whnf)|(refine cT (by rfl) ?_;conv=>whnf)|(refine cF (by rfl) ?_;conv=>whnf)))
  refine ⟨bl, 0, rfl, ⟨by omega, by omega⟩, ?_⟩
  ((conv=>whnf);repeat(first|(refine mvT ?_;conv=>whnf)|(refine mvF ?_;conv=>whnf)|(refine cT (by rfl) ?_;conv=>whnf)|(refine cF (by rfl) ?_;conv=>whnf)))
  refine Sg.st (A := [_]) (o' := 0) (m := [.int .i64 0, .slice aa0 16 ca0, .bool false, .slice none 0 0, .slice none 0 0]) H rfl (Nat.le_of_ble_eq_true rfl) (rfl) ?_
  clear H
  intro w H
  obtain ⟨P0, hP0⟩ : ∃ P : World → Prop, P = fun w => TrC w (fun k => w0.heap.size ≤ k) [.int .i64 0, .slice aa0 16 ca0, .bool false, .slice none 0 0, .slice none 0 0] (.mk 0 [u0_0, u0_1, u0_2, u0_3, u0_4, u0_5, u0_6, u0_7, u0_8, u0_9, u0_10, u0_11, u0_12, u0_13, u0_14, u0_15] false [] []) ∧ True := ⟨_, rfl⟩
  replace H : Sg w0 [(bt, Tt, [.int .i64 0, .slice none 0 0, .bool false, .slice (some ⟨bl, 0, none⟩) 2 2, .slice none 0 0]), (bl, Tl, [.int .i64 0, .slice aa0 16 ca0, .bool false, .slice none 0 0, .slice none 0 0, .int .i64 0, .slice none 0 0, .bool false, .slice none 0 0, .slice none 0 0]), (b2, T2, [.int .i64 0, .slice none 0 0, .bool false, .slice none 0 0, .slice none 0 0])] P0 w := by rw [hP0]; exact H
  ((conv=>whnf);repeat(first|(refine mvT ?_;conv=>whnf)|(refine mvF ?_;conv=>whnf)|(refine cT (by rfl) ?_;conv=>whnf)|(refine cF (by rfl) ?_;conv=>whnf)))
  refine VD.draw mixed (.q 0 (.q 1 (.q 2 (.q 3 (.q 4 (.q 5 (.q 6 (.q 7 (.q 8 (.eff 9 [] (.done))))))))))) (by kernel_rfl) ?_;((conv=>whnf);repeat(first|(refine mvT ?_;conv=>whnf)|(refine mvF ?_;conv=>whnf)|(refine cT (by rfl) ?_;conv=>whnf)|(refine cF (by rfl) ?_;conv=>whnf)))
  replace H := H.e0 (ext_drew _)
  refine ldS ((Sg.at (A := []) H).cell rfl) ?_;((conv=>whnf);repeat(first|(refine mvT ?_;conv=>whnf)|(refine mvF ?_;conv=>whnf)|(refine cT (by rfl) ?_;conv=>whnf)|(refine cF (by rfl) ?_;conv=>whnf)))
  refine ⟨_, ld ((hq.e0 H.ext).cell (j := 16) rfl) (by simp), ?_⟩
  ((conv=>whnf);repeat(first|(refine mvT ?_;conv=>whnf)|(refine mvF ?_;conv=>whnf)|(refine cT (by rfl) ?_;conv=>whnf)|(refine cF (by rfl) ?_;conv=>whnf)))
  refine ⟨bl, 0, rfl, ⟨by omega, by omega⟩, ?_⟩
  ((conv=>whnf);repeat(first|(refine mvT ?_;conv=>whnf)|(refine mvF ?_;conv=>whnf)|(refine cT (by rfl) ?_;conv=>whnf)|(refine cF (by rfl) ?_;conv=>whnf)))
  refine Sg.st (A := [_]) (o' := 7) (m := [.bool a1.isNone]) H rfl (Nat.le_of_ble_eq_true rfl) (rfl) ?_
  clear H
  intro w H
  replace H : Sg w0 [(bt, Tt, [.int .i64 0, .slice none 0 0, .bool false, .slice (some ⟨bl, 0, none⟩) 2 2, .slice none 0 0]), (bl, Tl, [.int .i64 0, .slice aa0 16 ca0, .bool false, .slice none 0 0, .slice none 0 0, .int .i64 0, .slice none 0 0, .bool a1.isNone, .slice none 0 0, .slice none 0 0]), (b2, T2, [.int .i64 0, .slice none 0 0, .bool false, .slice none 0 0, .slice none 0 0])] P0 w := H
  ((conv=>whnf);repeat(first|(refine mvT ?_;conv=>whnf)|(refine mvF ?_;conv=>whnf)|(refine cT (by rfl) ?_;conv=>whnf)|(refine cF (by rfl) ?_;conv=>whnf)))
  refine ⟨_, ld ((hq.e0 H.ext).cell (j := 16) rfl) (by simp), ?_⟩
  ((conv=>whnf);repeat(first|(refine mvT ?_;conv=>whnf)|(refine mvF ?_;conv=>whnf)|(refine cT (by rfl) ?_;conv=>whnf)|(refine cF (by rfl) ?_;conv=>whnf)))
  have hlsT : lsT (.mk 0 [] nl1 l1 []) = l1 := by
    show (if nl1 = true then [] else l1) = l1
    split
    · rename_i e
      exact (hnl1 e).symm
    · rfl
  rw [hlsT] at hll1 hrl1
  obtain ⟨wL, hwL⟩ : ∃ wL, wL = w := ⟨_, rfl⟩
  rw [← hwL] at H ⊢
  have hLlt := H.own.lt
  have hLl : l1.length ≤ 1000000 ∧ ∀ x, x ∈ l1 → LimT x := by
    have := hLs (.mk 0 [] nl1 l1 []) (by simp)
    cases this
    exact ⟨by assumption, by assumption⟩
  have hs0L := H.ext.size
  refine VL.loop (fun i : Nat => [(29, .int .i64 ls1.length), (30, .int .i64 i), (0, .pointer (some ⟨q, o, none⟩)), (2, .pointer (some ⟨b2, 0, none⟩)), (3, .pointer (some ⟨bt, 0, none⟩))])
    (fun i w' => i ≤ ls1.length ∧ Ext (fun k => k = bl ∨ wL.heap.size ≤ k) wL w' ∧ ∃ vl ts, Own w' bl Tl [.int .i64 0, .slice aa0 16 ca0, .bool false, .slice none 0 0, .slice none 0 0, .int .i64 0, .slice none 0 0, .bool a1.isNone, vl, .slice none 0 0] ∧ OLn w' wL.heap.size vl ts ∧ ts.length = i ∧ ∀ (j : Nat) (x y : T), l1[j]? = some x → ts[j]? = some y → Nrm x y) (fun i => ls1.length - i) 0
    ⟨rfl, rfl, rfl, rfl, rfl, trivial⟩ ⟨Nat.zero_le _, Ext.refl _ _, _, [], Sg.at (A := [_]) H, OLn.nil _ _, rfl, by simp⟩ ?_
  rintro i w ⟨hi, hxL, vl1, ts1, hobl, hT, htl1, hnr1⟩
  ((conv=>whnf);repeat(first|(refine mvT ?_;conv=>whnf)|(refine mvF ?_;conv=>whnf)|(refine cT (by rfl) ?_;conv=>whnf)|(refine cF (by rfl) ?_;conv=>whnf)))
  refine cI (by rfl) (fun h9=>?_) (fun h9=>?_)
  · have hil : i < ls1.length := by have := of_decide_eq_true h9; omega
    obtain ⟨be, oe, rfl, hFe, hbe, hce⟩ := hcl1 i ls1[i] (by simp [hil])
    have hqe := hrl1 i ls1[i] l1[i] (by simp [hil]) (by simp)
    have hlime := hLl.2 l1[i] (List.getElem_mem _)
    obtain ⟨t', ht'⟩ : ∃ t', t' = l1[i] := ⟨_, rfl⟩
    obtain ⟨n', _, hce', hxe'⟩ : ∃ n, IntKind.i32.wrap n = n ∧ ls1[i] = [.int .i32 n] ∧ l1[i] = numT n := hqe
    rw [hce'] at hce
    have hwn : IntKind.i64.wrap n' = n' := by rw [hxe'] at hlime; cases hlime; assumption
    have hnr' : Nrm l1[i] t' := by rw [ht', hxe']; exact Nrm.leaf _ _ _
    rw [hxe'] at ht'
    have hx0 : Ext nob w0 w := H.ext.trans hxL fun k hk h => by
      rcases h with h | h
      · omega
      · omega
    have hobt : Own w bt Tt [.int .i64 0, .slice none 0 0, .bool false, .slice (some ⟨bl, 0, none⟩) 2 2, .slice none 0 0] := (Sg.at (A := []) H).ext hxL fun h => by
      have := hLlt bt (by simp [inL])
      have h2 := (H.dis.2.1 : ¬ inL _ bt)
      rcases h with h | h
      · exact h2 (by rw [h]; simp [inL])
      · omega
    obtain ⟨av, cv, rfl⟩ := hT.one
    ((conv=>whnf);repeat(first|(refine mvT ?_;conv=>whnf)|(refine mvF ?_;conv=>whnf)|(refine cT (by rfl) ?_;conv=>whnf)|(refine cF (by rfl) ?_;conv=>whnf)))
    refine VD.draw mixed (.eff 0 [] (.alt (.eff 1 [] (.eff 2 [] (.q 3 (.done)))) (.eff 2 [] (.eff 1 [] (.q 3 (.done)))))) (by kernel_rfl) ?_;((conv=>whnf);repeat(first|(refine mvT ?_;conv=>whnf)|(refine mvF ?_;conv=>whnf)|(refine cT (by rfl) ?_;conv=>whnf)|(refine cF (by rfl) ?_;conv=>whnf)))
    intro bb wb hbb hob hxb
    have hxb : Ext nob w wb := (ext_drew w).e0 hxb
    have hbb : w.heap.size ≤ bb := hbb
    ((conv=>whnf);repeat(first|(refine mvT ?_;conv=>whnf)|(refine mvF ?_;conv=>whnf)|(refine cT (by rfl) ?_;conv=>whnf)|(refine cF (by rfl) ?_;conv=>whnf)))
    constructor
    · conv => whnf
      refine st_all [.bool true] hob rfl rfl rfl ?_
      intro wc hoc hxc
      conv => whnf
      refine st_all [.bool false] hoc rfl rfl rfl ?_
      intro wd hod hxd
      ((conv=>whnf);repeat(first|(refine mvT ?_;conv=>whnf)|(refine mvF ?_;conv=>whnf)|(refine cT (by rfl) ?_;conv=>whnf)|(refine cF (by rfl) ?_;conv=>whnf)))
      refine ldS (hod.cell rfl) ?_;((conv=>whnf);repeat(first|(refine mvT ?_;conv=>whnf)|(refine mvF ?_;conv=>whnf)|(refine cT (by rfl) ?_;conv=>whnf)|(refine cF (by rfl) ?_;conv=>whnf)))
      have hxw : Ext nob w wd := (hxb.st hxc hbb).st hxd hbb
      refine VD.draw mixed (.q 0 (.q 1 (.q 2 (.q 3 (.q 4 (.q 5 (.q 6 (.q 7 (.q 8 (.q 9 (.q 10 (.q 11 (.q 12 (.q 13 (.q 14 (.q 15 (.eff 16 [1, 3, 6] (.eff 17 [1] (.q 18 (.q 19 (.eff 20 [] (.done)))))))))))))))))))))) (by kernel_rfl) ?_;((conv=>whnf);repeat(first|(refine mvT ?_;conv=>whnf)|(refine mvF ?_;conv=>whnf)|(refine cT (by rfl) ?_;conv=>whnf)|(refine cF (by rfl) ?_;conv=>whnf)))
      have hxw := hxw.e0 (ext_drew _)
      have hszd := hxw.size
      refine ldS ((hobt.e0 hxw).cell rfl) ?_;((conv=>whnf);repeat(first|(refine mvT ?_;conv=>whnf)|(refine mvF ?_;conv=>whnf)|(refine cT (by rfl) ?_;conv=>whnf)|(refine cF (by rfl) ?_;conv=>whnf)))
      refine ldS ((hobt.e0 hxw).cell rfl) ?_;((conv=>whnf);repeat(first|(refine mvT ?_;conv=>whnf)|(refine mvF ?_;conv=>whnf)|(refine cT (by rfl) ?_;conv=>whnf)|(refine cF (by rfl) ?_;conv=>whnf)))
      refine ⟨bl, 0, rfl, ⟨by omega, by omega⟩, ?_⟩
      ((conv=>whnf);repeat(first|(refine mvT ?_;conv=>whnf)|(refine mvF ?_;conv=>whnf)|(refine cT (by rfl) ?_;conv=>whnf)|(refine cF (by rfl) ?_;conv=>whnf)))
      refine ldS ((hobl.e0 hxw).cell rfl) ?_;((conv=>whnf);repeat(first|(refine mvT ?_;conv=>whnf)|(refine mvF ?_;conv=>whnf)|(refine cT (by rfl) ?_;conv=>whnf)|(refine cF (by rfl) ?_;conv=>whnf)))
      refine ⟨_, ld ((hq.e0 (hx0.e0 hxw)).cell (j := 16) rfl) (by simp), ?_⟩
      ((conv=>whnf);repeat(first|(refine mvT ?_;conv=>whnf)|(refine mvF ?_;conv=>whnf)|(refine cT (by rfl) ?_;conv=>whnf)|(refine cF (by rfl) ?_;conv=>whnf)))
      refine ⟨be, oe, rfl, ⟨by omega, by omega⟩, ?_⟩
      ((conv=>whnf);repeat(first|(refine mvT ?_;conv=>whnf)|(refine mvF ?_;conv=>whnf)|(refine cT (by rfl) ?_;conv=>whnf)|(refine cF (by rfl) ?_;conv=>whnf)))
      refine ⟨_, ld ((hce.e0 (hx0.e0 hxw)).cell (j := 0) rfl) (by simp [show elZ true 7 3 [] = 1 from rfl]), ?_⟩
      ((conv=>whnf);repeat(first|(refine mvT ?_;conv=>whnf)|(refine mvF ?_;conv=>whnf)|(refine cT (by rfl) ?_;conv=>whnf)|(refine cF (by rfl) ?_;conv=>whnf)))
      intro bs ws hbs hos hxs
      rw [hwn] at hos
      have hos : Own ws bs TT [.int .i64 n', .slice none 0 0, .bool false, .slice none 0 0, .slice none 0 0] := hos
      have hxw := hxw.e0 hxs
      refine ⟨by (conv => whnf); exact ⟨⟨_, (hobt.e0 hxw).cell rfl, rfl, rfl⟩, ⟨_, (hobt.e0 hxw).cell rfl, rfl, rfl⟩, ⟨_, (hobl.e0 hxw).cell rfl, rfl, rfl⟩, trivial⟩, ?_⟩
      conv => whnf
      have hsLw := hxL.size
      refine OLn.app (x := t') (hT.ext hxw fun _ _ _ f => f) rfl hos rfl rfl (by omega) (by decide) (by have := hxw.size; omega) (by rw [ht']; exact TrC.leaf hwn (Bytes.nil _ _)) ?_
      intro v5 w5 hT5 hx5 _
      obtain ⟨a5, c5, rfl⟩ := hT5.one
      have hown5 : ∀ k, (Value.slice av ts1.length cv).ownBlock = some k → wL.heap.size ≤ k := fun k hk => (hT.own k hk).1
      have hbt5 := (hobt.e0 hxw).ext hx5 fun h => by have := hown5 bt h; have := hLlt bt (by simp [inL]); omega
      have hbl5 := (hobl.e0 hxw).ext hx5 fun h => by have := hown5 bl h; have := hLlt bl (by simp [inL]); omega
      refine ⟨by (conv => whnf); exact ⟨⟨_, hbt5.cell rfl, rfl, rfl⟩, trivial⟩, ?_⟩
      conv => whnf
      refine ⟨bl, 0, rfl, ⟨by omega, by omega⟩, ?_⟩
      ((conv=>whnf);repeat(first|(refine mvT ?_;conv=>whnf)|(refine mvF ?_;conv=>whnf)|(refine cT (by rfl) ?_;conv=>whnf)|(refine cF (by rfl) ?_;conv=>whnf)))
      refine st_cell (o := 8) (v := .slice a5 (ts1 ++ [t']).length c5) hbl5 rfl rfl rfl (by simp) rfl ?_
      intro w6 ho6 hx6
      ((conv=>whnf);repeat(first|(refine mvT ?_;conv=>whnf)|(refine mvF ?_;conv=>whnf)|(refine cT (by rfl) ?_;conv=>whnf)|(refine cF (by rfl) ?_;conv=>whnf)))
      have hxL6 : Ext (fun k => k = bl ∨ wL.heap.size ≤ k) wL w6 := ((hxL.trans (hxw.mono (M' := nob) fun _ _ f => f) fun k hk f => f.elim).trans hx5 fun k hk h => by have := hown5 k h; omega).trans hx6 fun k hk h => .inl h
      refine ⟨i + 1, ⟨rfl, inc_eq (by omega), rfl, rfl, rfl, trivial⟩, ⟨by omega, hxL6, _, ts1 ++ [t'], ho6, hT5.ext hx6 (fun k _ h1 h2 => by have := hLlt bl (by simp [inL]); omega), by simp [htl1], ?_⟩, by omega⟩
      intro j x y hx hy
      rcases Nat.lt_or_ge j ts1.length with hj | hj
      · rw [List.getElem?_append_left hj] at hy
        exact hnr1 j x y hx hy
      · rw [List.getElem?_append_right hj] at hy
        obtain ⟨e, he⟩ : ∃ e, j - ts1.length = e := ⟨_, rfl⟩
        rw [he] at hy
        cases e with
        | zero =>
          have : j = i := by omega
          subst this
          simp only [List.getElem?_cons_zero, Option.some.injEq] at hy
          subst hy
          rw [List.getElem?_eq_getElem (by omega), Option.some.injEq] at hx
          subst hx
          exact hnr'
        | succ e => simp at hy
    · conv => whnf
      refine st_all [.bool false] hob rfl rfl rfl ?_
      intro wc hoc hxc
      conv => whnf
      refine st_all [.bool true] hoc rfl rfl rfl ?_
      intro wd hod hxd
      ((conv=>whnf);repeat(first|(refine mvT ?_;conv=>whnf)|(refine mvF ?_;conv=>whnf)|(refine cT (by rfl) ?_;conv=>whnf)|(refine cF (by rfl) ?_;conv=>whnf)))
      refine ldS (hod.cell rfl) ?_;((conv=>whnf);repeat(first|(refine mvT ?_;conv=>whnf)|(refine mvF ?_;conv=>whnf)|(refine cT (by rfl) ?_;conv=>whnf)|(refine cF (by rfl) ?_;conv=>whnf)))
      have hxw : Ext nob w wd := (hxb.st hxc hbb).st hxd hbb
      refine VD.draw mixed (.q 0 (.q 1 (.q 2 (.q 3 (.q 4 (.q 5 (.q 6 (.q 7 (.q 8 (.q 9 (.q 10 (.q 11 (.q 12 (.q 13 (.q 14 (.eff 15 [1, 4, 8, 11] (.eff 16 [] (.q 17 (.q 18 (.eff 19 [] (.done))))))))))))))))))))) (by kernel_rfl) ?_;((conv=>whnf);repeat(first|(refine mvT ?_;conv=>whnf)|(refine mvF ?_;conv=>whnf)|(refine cT (by rfl) ?_;conv=>whnf)|(refine cF (by rfl) ?_;conv=>whnf)))
      have hxw := hxw.e0 (ext_drew _)
      have hszd := hxw.size
      refine ldS ((hobt.e0 hxw).cell rfl) ?_;((conv=>whnf);repeat(first|(refine mvT ?_;conv=>whnf)|(refine mvF ?_;conv=>whnf)|(refine cT (by rfl) ?_;conv=>whnf)|(refine cF (by rfl) ?_;conv=>whnf)))
      refine ⟨bl, 0, rfl, ⟨by omega, by omega⟩, ?_⟩
      ((conv=>whnf);repeat(first|(refine mvT ?_;conv=>whnf)|(refine mvF ?_;conv=>whnf)|(refine cT (by rfl) ?_;conv=>whnf)|(refine cF (by rfl) ?_;conv=>whnf)))
      refine ldS ((hobl.e0 hxw).cell rfl) ?_;((conv=>whnf);repeat(first|(refine mvT ?_;conv=>whnf)|(refine mvF ?_;conv=>whnf)|(refine cT (by rfl) ?_;conv=>whnf)|(refine cF (by rfl) ?_;conv=>whnf)))
      refine ⟨_, ld ((hq.e0 (hx0.e0 hxw)).cell (j := 16) rfl) (by simp), ?_⟩
      ((conv=>whnf);repeat(first|(refine mvT ?_;conv=>whnf)|(refine mvF ?_;conv=>whnf)|(refine cT (by rfl) ?_;conv=>whnf)|(refine cF (by rfl) ?_;conv=>whnf)))
      refine ⟨be, oe, rfl, ⟨by omega, by omega⟩, ?_⟩
      ((conv=>whnf);repeat(first|(refine mvT ?_;conv=>whnf)|(refine mvF ?_;conv=>whnf)|(refine cT (by rfl) ?_;conv=>whnf)|(refine cF (by rfl) ?_;conv=>whnf)))
      refine ⟨_, ld ((hce.e0 (hx0.e0 hxw)).cell (j := 0) rfl) (by simp [show elZ true 7 3 [] = 1 from rfl]), ?_⟩
      ((conv=>whnf);repeat(first|(refine mvT ?_;conv=>whnf)|(refine mvF ?_;conv=>whnf)|(refine cT (by rfl) ?_;conv=>whnf)|(refine cF (by rfl) ?_;conv=>whnf)))
      intro bs ws hbs hos hxs
      have hos : Own ws bs TT [.int .i64 0, .slice none 0 0, .bool false, .slice none 0 0, .slice none 0 0] := hos
      have hxw := hxw.e0 hxs
      refine ⟨by (conv => whnf); exact ⟨⟨_, (hobt.e0 hxw).cell rfl, rfl, rfl⟩, ⟨_, (hobl.e0 hxw).cell rfl, rfl, rfl⟩, ⟨_, (hq.e0 (hx0.e0 hxw)).cell (j := 16) rfl, rfl, rfl⟩, ⟨_, (hce.e0 (hx0.e0 hxw)).cell (j := 0) rfl, rfl, rfl⟩, trivial⟩, ?_⟩
      have htrw : TrC ws (fun k => w.heap.size ≤ k ∧ k < ws.heap.size) [.int .i64 n', .slice none 0 0, .bool false, .slice none 0 0, .slice none 0 0] t' := by rw [ht']; exact TrC.leaf hwn (Bytes.nil _ _)
      conv => whnf
      refine OLn.app (x := .mk 0 [] false [] []) (hT.ext hxw fun _ _ _ f => f) rfl hos rfl rfl (by omega) (by decide) (by have := hxw.size; have := hxL.size; omega) (TrC.leaf rfl (Bytes.nil _ _)) ?_
      intro v5 w5 hT5 hx5 hbk5
      obtain ⟨a5, c5, rfl⟩ := hT5.one
      have hown5 : ∀ k, (Value.slice av ts1.length cv).ownBlock = some k → wL.heap.size ≤ k ∧ k < w.heap.size := fun k hk => hT.own k hk
      have hbl5 := (hobl.e0 hxw).ext hx5 fun h => by have := hown5 bl h; have := hLlt bl (by simp [inL]); omega
      have hblL := hLlt bl (by simp [inL])
      have hsLw := hxL.size
      have hszx := hxw.size
      ((conv=>whnf);repeat(first|(refine mvT ?_;conv=>whnf)|(refine mvF ?_;conv=>whnf)|(refine cT (by rfl) ?_;conv=>whnf)|(refine cF (by rfl) ?_;conv=>whnf)))
      refine ⟨bl, 0, rfl, ⟨by omega, by omega⟩, ?_⟩
      ((conv=>whnf);repeat(first|(refine mvT ?_;conv=>whnf)|(refine mvF ?_;conv=>whnf)|(refine cT (by rfl) ?_;conv=>whnf)|(refine cF (by rfl) ?_;conv=>whnf)))
      refine st_cell (o := 8) (v := .slice a5 (ts1 ++ [T.mk 0 [] false [] []]).length c5) hbl5 rfl rfl rfl (by simp) rfl ?_
      intro w6 ho6 hx6
      ((conv=>whnf);repeat(first|(refine mvT ?_;conv=>whnf)|(refine mvF ?_;conv=>whnf)|(refine cT (by rfl) ?_;conv=>whnf)|(refine cF (by rfl) ?_;conv=>whnf)))
      have hT6 := hT5.ext hx6 (fun k _ h1 h2 => by omega)
      obtain ⟨g, cap, hv, hput⟩ := hT6.last
      injection hv with e1 e2 e3
      subst e1
      subst e3
      have htr6 : TrC w6 (fun k => wL.heap.size ≤ k ∧ (Value.slice (some ⟨g, 0, none⟩) (ts1 ++ [T.mk 0 [] false [] []]).length c5).ownBlock ≠ some k) [.int .i64 n', .slice none 0 0, .bool false, .slice none 0 0, .slice none 0 0] t' := by
        refine ((htrw.ext hx5 fun k _ h e => by have := hown5 k e; omega).ext hx6 fun k _ h e => by omega).mono fun k _ h => ⟨by omega, fun e => ?_⟩
        rcases hbk5 with e2 | ⟨q2, e2, hle⟩
        · have := hown5 k (e2 ▸ e); omega
        · rw [e, Option.some.injEq] at e2
          omega
      refine ⟨g, 0, rfl, ⟨by omega, by simp; omega⟩, ?_⟩
      ((conv=>whnf);repeat(first|(refine mvT ?_;conv=>whnf)|(refine mvF ?_;conv=>whnf)|(refine cT (by rfl) ?_;conv=>whnf)|(refine cF (by rfl) ?_;conv=>whnf)))
      rw [hwn]
      refine hput [.int .i64 n', .slice none 0 0, .bool false, .slice none 0 0, .slice none 0 0] t' _ _ _ rfl (by simp) htr6 ?_
      intro w7 hT7 hx7
      ((conv=>whnf);repeat(first|(refine mvT ?_;conv=>whnf)|(refine mvF ?_;conv=>whnf)|(refine cT (by rfl) ?_;conv=>whnf)|(refine cF (by rfl) ?_;conv=>whnf)))
      have hgL : wL.heap.size ≤ g := (hT6.own g rfl).1
      have hxL7 : Ext (fun k => k = bl ∨ wL.heap.size ≤ k) wL w7 := (((hxL.trans (hxw.mono (M' := nob) fun _ _ f => f) fun k hk f => f.elim).trans hx5 fun k hk h => by have := hown5 k h; omega).trans hx6 fun k hk h => .inl h).trans hx7 fun k hk h => by omega
      refine ⟨i + 1, ⟨rfl, inc_eq (by omega), rfl, rfl, rfl, trivial⟩, ⟨by omega, hxL7, _, ts1 ++ [t'], ho6.ext hx7 (by omega), hT7, by simp [htl1], ?_⟩, by omega⟩
      intro j x y hx hy
      rcases Nat.lt_or_ge j ts1.length with hj | hj
      · rw [List.getElem?_append_left hj] at hy
        exact hnr1 j x y hx hy
      · rw [List.getElem?_append_right hj] at hy
        obtain ⟨e, he⟩ : ∃ e, j - ts1.length = e := ⟨_, rfl⟩
        rw [he] at hy
        cases e with
        | zero =>
          have : j = i := by omega
          subst this
          simp only [List.getElem?_cons_zero, Option.some.injEq] at hy
          subst hy
          rw [List.getElem?_eq_getElem (by omega), Option.some.injEq] at hx
          subst hx
          exact hnr'
        | succ e => simp at hy
  · have hil : i = ls1.length := by have := of_decide_eq_false h9; omega
    have H := Sg.up (A := [_]) H hobl (hxL.mono fun k hk h => by rcases h with h | h; exact h; omega)
    have htl1 : ts1.length = l1.length := by omega
    have hnl : a1.isNone = nl1 := hnn1 rfl
    rw [hnl] at H
    have H := H.add (Q := fun w => TrC w (fun k => w0.heap.size ≤ k) [.int .i64 0, .slice none 0 0, .bool nl1, vl1, .slice none 0 0] (.mk 0 [] nl1 ts1 [])) fun w3 x => (hT.ext x fun k hk h1 h2 => by
      have h3 : k < wL.heap.size := hLlt k (by rcases inL3 h2 with h | h | h <;> subst h <;> simp [inL])
      omega).row fun k hk => by omega
    obtain ⟨P1, hP1⟩ : ∃ P : World → Prop, P = fun w => TrC w (fun k => w0.heap.size ≤ k) [.int .i64 0, .slice none 0 0, .bool nl1, vl1, .slice none 0 0] (.mk 0 [] nl1 ts1 []) ∧ P0 w := ⟨_, rfl⟩
    replace H : Sg w0 [(bt, Tt, [.int .i64 0, .slice none 0 0, .bool false, .slice (some ⟨bl, 0, none⟩) 2 2, .slice none 0 0]), (bl, Tl, [.int .i64 0, .slice aa0 16 ca0, .bool false, .slice none 0 0, .slice none 0 0, .int .i64 0, .slice none 0 0, .bool nl1, vl1, .slice none 0 0]), (b2, T2, [.int .i64 0, .slice none 0 0, .bool false, .slice none 0 0, .slice none 0 0])] P1 w := by rw [hP1]; exact H
    ((conv=>whnf);repeat(first|(refine mvT ?_;conv=>whnf)|(refine mvF ?_;conv=>whnf)|(refine cT (by rfl) ?_;conv=>whnf)|(refine cF (by rfl) ?_;conv=>whnf)))
    have hql : q < w0.heap.size := World.block_lt_of_cell? w0 _ (hq.cell (j := 0) rfl)
    have hm2 : TagsR w (fun k => F k ∧ k < w0.heap.size) m u_ := (hm.mono (F' := fun k => F k ∧ k < w0.heap.size) fun k h1 h2 => ⟨h2, h1⟩).ext H.ext fun _ _ _ f => f
    refine Does.mono (EachT tgConsumerGroupHeartbeatRequestTopic ((hq.e0 H.ext).cell (j := 17) rfl) hm2 hd0 hu0 hs0 (Sg.at (A := []) H) (by omega) (fun k _ h e => by have := h.2; omega)) ?_
    rintro r w2 ⟨u', uv, hperm, hpw, hob, hT, hxe⟩
    have hLlt := H.own.lt
    have hw02 := H.ext.size
    have H2 := Sg.up (A := []) H hob hxe
    obtain ⟨auv, nuv, cuv, rfl⟩ := hT.one
    have H := H2.add (Q := fun w => TgsR w (fun k => w0.heap.size ≤ k) (.slice auv nuv cuv) u') fun w3 x => (hT.ext x fun k hk h1 h2 => by
      have h3 : k < w.heap.size := hLlt k (by rcases inL3 h2 with h | h | h <;> subst h <;> simp [inL])
      omega).tgs fun k hk => by omega
    clear H2
    ((conv=>whnf);repeat(first|(refine mvT ?_;conv=>whnf)|(refine mvF ?_;conv=>whnf)|(refine cT (by rfl) ?_;conv=>whnf)|(refine cF (by rfl) ?_;conv=>whnf)))
    refine ldS ((Sg.at (A := []) H).cell rfl) ?_;((conv=>whnf);repeat(first|(refine mvT ?_;conv=>whnf)|(refine mvF ?_;conv=>whnf)|(refine cT (by rfl) ?_;conv=>whnf)|(refine cF (by rfl) ?_;conv=>whnf)))
    refine Does.mono (sorted_does H.now.1 hpw (by rw [hperm.length_eq]; exact hu0)) ?_
    rintro r w3 hx3
    replace H := H.e0 hx3
    ((conv=>whnf);repeat(first|(refine mvT ?_;conv=>whnf)|(refine mvF ?_;conv=>whnf)|(refine cT (by rfl) ?_;conv=>whnf)|(refine cF (by rfl) ?_;conv=>whnf)))
    refine ⟨_, rfl, (Sg.at (A := []) H).cells, ?_⟩
    ((conv=>whnf);repeat(first|(refine mvT ?_;conv=>whnf)|(refine mvF ?_;conv=>whnf)|(refine cT (by rfl) ?_;conv=>whnf)|(refine cF (by rfl) ?_;conv=>whnf)))
    refine Sg.st (A := [_, _]) (o' := 0) (m := [.int .i64 0, .slice none 0 0, .bool false, .slice (some ⟨bl, 0, none⟩) 2 2, .slice auv nuv cuv]) H rfl (Nat.le_of_ble_eq_true rfl) rfl ?_
    clear H
    intro w H
    ((conv=>whnf);repeat(first|(refine mvT ?_;conv=>whnf)|(refine mvF ?_;conv=>whnf)|(refine cT (by rfl) ?_;conv=>whnf)|(refine cF (by rfl) ?_;conv=>whnf)))
    refine ⟨_, rfl, (Sg.at (A := [_, _]) H).cells, ?_⟩
    have hP := H.now
    rw [hP1, hP0] at hP
    have hbl := Sg.at (A := [_]) H
    refine ⟨.mk 0 [] false [.mk 0 [u0_0, u0_1, u0_2, u0_3, u0_4, u0_5, u0_6, u0_7, u0_8, u0_9, u0_10, u0_11, u0_12, u0_13, u0_14, u0_15] false [] [], .mk 0 [] nl1 ts1 []] u', ?_, ⟨_, rfl, .mk 0 [] false [.mk 0 [u0_0, u0_1, u0_2, u0_3, u0_4, u0_5, u0_6, u0_7, u0_8, u0_9, u0_10, u0_11, u0_12, u0_13, u0_14, u0_15] false [] [], .mk 0 [] nl1 ts1 []] u' _ _ _ [[.int .i64 0, .slice aa0 16 ca0, .bool false, .slice none 0 0, .slice none 0 0], [.int .i64 0, .slice none 0 0, .bool nl1, vl1, .slice none 0 0]] rfl (Bytes.nil _ _) (rows_sl hbl (by simp) rfl (by rw [maxLen_eq]; decide) hblw) rfl ?_ hP.1⟩, H.ext⟩
    · refine .mk _ _ _ _ _ _ _ rfl ?_ hperm hpw
      intro i x y hx hy
      match i, hx, hy with
      | 0, hx, hy => simp only [List.getElem?_cons_succ, List.getElem?_cons_zero, Option.some.injEq] at hx hy; subst hx; subst hy; exact Nrm.leaf _ _ _
      | 1, hx, hy => simp only [List.getElem?_cons_succ, List.getElem?_cons_zero, Option.some.injEq] at hx hy; subst hx; subst hy; exact .mk _ _ _ _ _ _ _ htl1 hnr1 (List.Perm.refl _) List.Pairwise.nil
    · intro i x y hx hy
      match i, hx, hy with
      | 0, hx, hy => simp only [List.getElem?_cons_succ, List.getElem?_cons_zero, Option.some.injEq] at hx hy; subst hx; subst hy; exact hP.2.2.1
      | 1, hx, hy => simp only [List.getElem?_cons_succ, List.getElem?_cons_zero, Option.some.injEq] at hx hy; subst hx; subst hy; exact hP.2.1
theorem tgConsumerGroupHeartbeatRequest : TellsT 63 := by
  intro w N bt T lv bv F u x hI hN hbt hu hk hx hxl
  obtain ⟨uv, ho, hT⟩ := hI
  obtain ⟨av, cv, rfl, _⟩ := hx.view
  obtain ⟨au, nu, cu, rfl⟩ := hT.one
  refine Does.go (X := X) (l := [_, _, _]) Tryd.func63 rfl (by kernel_rfl) (by kernel_rfl) _ rfl ?_
  ((conv=>whnf);repeat(first|(refine mvT ?_;conv=>whnf)|(refine mvF ?_;conv=>whnf)|(refine cT (by rfl) ?_;conv=>whnf)|(refine cF (by rfl) ?_;conv=>whnf)))
  refine VD.draw mixed (.q 0 (.q 1 (.q 2 (.q 3 (.eff 4 [1] (.q 5 (.eff 6 [1] (.eff 7 [] (.q 8 (.eff 9 [] (.done))))))))))) (by kernel_rfl) ?_;((conv=>whnf);repeat(first|(refine mvT ?_;conv=>whnf)|(refine mvF ?_;conv=>whnf)|(refine cT (by rfl) ?_;conv=>whnf)|(refine cF (by rfl) ?_;conv=>whnf)))
  have hxd : Ext nob w w.drew := ext_drew _
  refine ldS ((ho.e0 hxd).cell rfl) ?_;((conv=>whnf);repeat(first|(refine mvT ?_;conv=>whnf)|(refine mvF ?_;conv=>whnf)|(refine cT (by rfl) ?_;conv=>whnf)|(refine cF (by rfl) ?_;conv=>whnf)))
  refine app_bytes rfl rfl (OB.nil w.drew w.drew.heap.size) (hx.e0 hxd).src rfl (by simp only [List.length_nil]; omega) (Nat.le_refl _) ?_
  intro v3 w3 h3 hx3 _ _
  rw [List.nil_append] at h3
  have hx3 : Ext nob w w3 := hxd.e0 (hx3.mono fun k _ h => by simp [Value.ownBlock] at h)
  obtain ⟨a3, c3, rfl, _⟩ := h3.shape
  refine ⟨by (conv => whnf); exact ⟨⟨_, (ho.e0 hx3).cell rfl, rfl, rfl⟩, trivial⟩, ?_⟩
  ((conv=>whnf);repeat(first|(refine mvT ?_;conv=>whnf)|(refine mvF ?_;conv=>whnf)|(refine cT (by rfl) ?_;conv=>whnf)|(refine cF (by rfl) ?_;conv=>whnf)))
  intro b4 w4 hb4 ho4 hx4
  have ho4 : Own w4 b4 TGT [.int .u32 (x.1 : Int), .slice a3 x.2.length c3] := ho4
  have hx04 := hx3.e0 hx4
  refine ⟨by (conv => whnf); exact ⟨⟨_, (ho.e0 hx04).cell rfl, rfl, rfl⟩, trivial⟩, ?_⟩
  ((conv=>whnf);repeat(first|(refine mvT ?_;conv=>whnf)|(refine mvF ?_;conv=>whnf)|(refine cT (by rfl) ?_;conv=>whnf)|(refine cF (by rfl) ?_;conv=>whnf)))
  have hs3 := hx3.size
  have hown : ∀ k, (Value.slice au nu cu).ownBlock = some k → N ≤ k ∧ k < w.heap.size := fun k hk => by
    obtain ⟨ls, h1, _⟩ := hT
    exact ⟨h1.blk k hk, h1.own.lt k hk⟩
  have hwd : w.drew.heap.size = w.heap.size := rfl
  refine OTn.app (hT.ext hx04 fun _ _ _ f => f) rfl ho4 rfl rfl rfl hu (by decide) (Nat.le_trans hN hx04.size) hk ((h3.e0 hx4).bytes fun k hk => ⟨by omega, fun e => by have := hown k e; omega⟩) ?_
  intro v5 w5 hT5 hx5
  obtain ⟨a5, n5, c5, rfl⟩ := hT5.one
  have hob := (ho.e0 hx04).ext hx5 fun h => by have := hown bt h; omega
  ((conv=>whnf);repeat(first|(refine mvT ?_;conv=>whnf)|(refine mvF ?_;conv=>whnf)|(refine cT (by rfl) ?_;conv=>whnf)|(refine cF (by rfl) ?_;conv=>whnf)))
  refine st_cell (o := 4) (v := .slice a5 n5 c5) hob rfl (by omega) rfl (by simp) rfl ?_
  intro w6 ho6 hx6
  ((conv=>whnf);repeat(first|(refine mvT ?_;conv=>whnf)|(refine mvF ?_;conv=>whnf)|(refine cT (by rfl) ?_;conv=>whnf)|(refine cF (by rfl) ?_;conv=>whnf)))
  refine ⟨⟨_, ho6, hT5.ext hx6 fun k _ h1 h2 => by omega⟩, ?_⟩
  refine (hx04.mono fun _ _ f => f.elim).trans ((hx5.mono (M' := fun j => j = bt ∨ N ≤ j) fun k _ h => .inr (hown k h).1).trans hx6 fun k _ h => .inl h) fun _ _ h => h
theorem tellConsumerGroupHeartbeatRequest {w0 : World} {F : Nat → Prop} {q o : Nat} {cv0 : Value} {cs : List Value} {t : T} (hq : Cells w0 q o (cv0 :: cs)) (hQ : QPart true 9 dConsumerGroupHeartbeatRequest ⟨w0, F⟩ cs t) (hlim : LimT t) :
    Does X.P 45 #[.pointer (some ⟨q, o, none⟩)] w0 fun r w' => ∃ t', Nrm t t' ∧ Tr w' (fun k => w0.heap.size ≤ k) r t' ∧ Ext nob w0 w' := by
  obtain ⟨_, _, u_, m, rfl, rfl, hA0, hm⟩ := iP hQ
  clear hQ
  obtain ⟨cc0, _, x0, _, rfl, rfl, h0, hA1⟩ := iA hA0
  obtain ⟨s0, rfl, rfl⟩ := iF8 (by decide) h0
  obtain ⟨cc1, _, x1, _, rfl, rfl, h1, hA2⟩ := iA hA1
  obtain ⟨s1, rfl, rfl⟩ := iF8 (by decide) h1
  obtain ⟨cc2, _, x2, _, rfl, rfl, h2, hA3⟩ := iA hA2
  obtain ⟨n2, hn2, rfl, rfl⟩ : ∃ n, IntKind.i32.wrap n = n ∧ cc2 = [.int .i32 n] ∧ x2 = numT n := h2
  obtain ⟨cc3, _, x3, _, rfl, rfl, h3, hA4⟩ := iA hA3
  obtain ⟨c3, nl3, s3, rfl, hnl3, rfl, hc3⟩ : ∃ c nl u, cc3 = [c] ∧ (nl = true → u = []) ∧ x3 = .mk 0 u nl [] [] ∧ NTextR w0 F c x3 := h3
  obtain ⟨cc4, _, x4, _, rfl, rfl, h4, hA5⟩ := iA hA4
  obtain ⟨c4, nl4, s4, rfl, hnl4, rfl, hc4⟩ : ∃ c nl u, cc4 = [c] ∧ (nl = true → u = []) ∧ x4 = .mk 0 u nl [] [] ∧ NTextR w0 F c x4 := h4
  obtain ⟨cc5, _, x5, _, rfl, rfl, h5, hA6⟩ := iA hA5
  obtain ⟨n5, hn5, rfl, rfl⟩ : ∃ n, IntKind.i32.wrap n = n ∧ cc5 = [.int .i32 n] ∧ x5 = numT n := h5
  obtain ⟨cc6, _, x6, _, rfl, rfl, h6, hA7⟩ := iA hA6
  obtain ⟨c6, nl6, l6, rfl, hnl6, rfl, hc6⟩ : ∃ c nl l, cc6 = [c] ∧ (nl = true → l = []) ∧ x6 = .mk 0 [] nl l [] ∧ ListR true (elZ true 8 8 []) (elQ true 8 8 [] ⟨w0, F⟩) w0 F c x6 := h6
  obtain ⟨cc7, _, x7, _, rfl, rfl, h7, hA8⟩ := iA hA7
  obtain ⟨c7, nl7, s7, rfl, hnl7, rfl, hc7⟩ : ∃ c nl u, cc7 = [c] ∧ (nl = true → u = []) ∧ x7 = .mk 0 u nl [] [] ∧ NTextR w0 F c x7 := h7
  obtain ⟨cc8, _, x8, _, rfl, rfl, h8, hA9⟩ := iA hA8
  obtain ⟨c8, nl8, s8, rfl, hnl8, rfl, hc8⟩ : ∃ c nl u, cc8 = [c] ∧ (nl = true → u = []) ∧ x8 = .mk 0 u nl [] [] ∧ NTextR w0 F c x8 := h8
  obtain ⟨cc9, _, x9, _, rfl, rfl, h9, hA10⟩ := iA hA9
  obtain ⟨c9, nl9, l9, rfl, hnl9, rfl, hc9⟩ : ∃ c nl l, cc9 = [c] ∧ (nl = true → l = []) ∧ x9 = .mk 0 [] nl l [] ∧ ListR true (elZ true 8 10 dConsumerGroupHeartbeatRequestTopic) (elQ true 8 10 dConsumerGroupHeartbeatRequestTopic ⟨w0, F⟩) w0 F c x9 := h9
  obtain ⟨rfl, rfl⟩ := hA10
  cases hlim
  rename_i hU hKU hDU hLs hu0 hs0 hd0
  have hq : Cells w0 q o [cv0, str s0, str s1, .int .i32 n2, c3, c4, .int .i32 n5, c6, c7, c8, c9, m] := hq
  have hw2 : IntKind.i64.wrap n2 = n2 := by have := hLs (numT n2) (by simp); cases this; assumption
  have hw5 : IntKind.i64.wrap n5 = n5 := by have := hLs (numT n5) (by simp); cases this; assumption
  obtain ⟨a6, k6, ls6, rfl, hk6, hll6, hnn6, hcl6, hrl6⟩ := hc6.view
  obtain ⟨a9, k9, ls9, rfl, hk9, hll9, hnn9, hcl9, hrl9⟩ := hc9.view
  refine Does.go (X := X) (l := [_]) Tryd.func45 rfl (by kernel_rfl) (by kernel_rfl) _ rfl ?_
  ((conv=>whnf);repeat(first|(refine mvT ?_;conv=>whnf)|(refine mvF ?_;conv=>whnf)|(refine cT (by rfl) ?_;conv=>whnf)|(refine cF (by rfl) ?_;conv=>whnf)))
  intro b2 w1 hb2 ho2 hx1
  ((conv=>whnf);repeat(first|(refine mvT ?_;conv=>whnf)|(refine mvF ?_;conv=>whnf)|(refine cT (by rfl) ?_;conv=>whnf)|(refine cF (by rfl) ?_;conv=>whnf)))
  refine ⟨⟨by decide, by decide, by decide, by decide⟩, ⟨by decide, rfl⟩, ?_⟩
  intro bl w2 hbl hol hx2
  ((conv=>whnf);repeat(first|(refine mvT ?_;conv=>whnf)|(refine mvF ?_;conv=>whnf)|(refine cT (by rfl) ?_;conv=>whnf)|(refine cF (by rfl) ?_;conv=>whnf)))
  intro bt w3 hbt hot hx3
  ((conv=>whnf);repeat(first|(refine mvT ?_;conv=>whnf)|(refine mvF ?_;conv=>whnf)|(refine cT (by rfl) ?_;conv=>whnf)|(refine cF (by rfl) ?_;conv=>whnf)))
  have hzz : w0.heap.size ≤ w1.heap.size := hx1.size
  have H := (((Sg.start w0).push hx1 ho2 hb2).push hx2 hol hbl).push hx3 hot hbt
  refine Sg.st (A := []) (o' := 0) (m := [.int .i64 0, .slice none 0 0, .bool false, .slice (some ⟨bl, 0, none⟩) 10 10, .slice none 0 0]) H rfl (Nat.le_of_ble_eq_true rfl) rfl ?_
  clear H hot hol ho2 hx1 hx2 hx3
  intro w H
  obtain ⟨Tt, Tl, T2, H⟩ : ∃ Tt Tl T2, Sg w0 [(bt, Tt, [.int .i64 0, .slice none 0 0, .bool false, .slice (some ⟨bl, 0, none⟩) 10 10, .slice none 0 0]), (bl, Tl, (.int .i64 0 :: .slice none 0 0 :: .bool false :: .slice none 0 0 :: .slice none 0 0 :: .int .i64 0 :: .slice none 0 0 :: .bool false :: .slice none 0 0 :: .slice none 0 0 :: .int .i64 0 :: .slice none 0 0 :: .bool false :: .slice none 0 0 :: .slice none 0 0 :: .int .i64 0 :: .slice none 0 0 :: .bool false :: .slice none 0 0 :: .slice none 0 0 :: .int .i64 0 :: .slice none 0 0 :: .bool false :: .slice none 0 0 :: .slice none 0 0 :: .int .i64 0 :: .slice none 0 0 :: .bool false :: .slice none 0 0 :: .slice none 0 0 :: .int .i64 0 :: .slice none 0 0 :: .bool false :: .slice none 0 0 :: .slice none 0 0 :: .int .i64 0 :: .slice none 0 0 :: .bool false :: .slice none 0 0 :: .slice none 0 0 :: .int .i64 0 :: .slice none 0 0 :: .bool false :: .slice none 0 0 :: .slice none 0 0 :: .int .i64 0 :: .slice none 0 0 :: .bool false :: .slice none 0 0 :: .slice none 0 0 :: [])), (b2, T2, [.int .i64 0, .slice none 0 0, .bool false, .slice none 0 0, .slice none 0 0])] (fun _ => True) w := ⟨_, _, _, H⟩
  have hb2w : w0.heap.size ≤ b2 := hb2
  have hblw : w0.heap.size ≤ bl := by omega
  have hbtw : w0.heap.size ≤ bt := by have := H.dis.1; exact this
  ((conv=>whnf);repeat(first|(refine mvT ?_;conv=>whnf)|(refine mvF ?_;conv=>whnf)|(refine cT (by rfl) ?_;conv=>whnf)|(refine cF (by rfl) ?_;conv=>whnf)))
  refine VD.draw mixed (.q 0 (.q 1 (.q 2 (.q 3 (.q 4 (.q 5 (.eff 6 [1] (.q 7 (.q 8 (.eff 9 [] (.done))))))))))) (by kernel_rfl) ?_;((conv=>whnf);repeat(first|(refine mvT ?_;conv=>whnf)|(refine mvF ?_;conv=>whnf)|(refine cT (by rfl) ?_;conv=>whnf)|(refine cF (by rfl) ?_;conv=>whnf)))
  replace H := H.e0 (ext_drew _)
  refine ldS ((Sg.at (A := []) H).cell rfl) ?_;((conv=>whnf);repeat(first|(refine mvT ?_;conv=>whnf)|(refine mvF ?_;conv=>whnf)|(refine cT (by rfl) ?_;conv=>whnf)|(refine cF (by rfl) ?_;conv=>whnf)))
  refine ⟨_, ld ((hq.e0 H.ext).cell (j := 1) rfl) (by simp), ?_⟩
  ((conv=>whnf);repeat(first|(refine mvT ?_;conv=>whnf)|(refine mvF ?_;conv=>whnf)|(refine cT (by rfl) ?_;conv=>whnf)|(refine cF (by rfl) ?_;conv=>whnf)))
  refine ⟨by show s0.length ≤ maxLen; have := hLs (.mk 0 s0 false [] []) (by simp); cases this; rw [maxLen_eq]; omega, ?_⟩
  intro bb0 cb0 wb0 hbb0 hbl0 hC0 hcp0 hxb0
  have hC0 : Cells wb0 bb0 0 (s0.map bcell) := hC0
  have hcp0 : s0.length ≤ cb0 ∧ cb0 ≤ maxLen := hcp0
  have H := H.keepN (H.e0 hxb0) (trL [.int .i64 0, .slice (some ⟨bb0, 0, none⟩) s0.length cb0, .bool false, .slice none 0 0, .slice none 0 0] (.mk 0 s0 false [] [])) (F := fun k => _ ≤ k) (TrC.leaf rfl (conv_bytes hbb0 hbl0 hC0 hcp0)) fun k h => h
  refine ⟨by (conv => whnf); exact ⟨⟨_, (Sg.at (A := []) H).cell rfl, rfl, rfl⟩, trivial⟩, ?_⟩
  ((conv=>whnf);repeat(first|(refine mvT ?_;conv=>whnf)|(refine mvF ?_;conv=>whnf)|(refine cT (by rfl) ?_;conv=>whnf)|(refine cF (by rfl) ?_;conv=>whnf)))
  refine ⟨bl, 0, rfl, ⟨by omega, by omega⟩, ?_⟩
  ((conv=>whnf);repeat(first|(refine mvT ?_;conv=>whnf)|(refine mvF ?_;conv=>whnf)|(refine cT (by rfl) ?_;conv=>whnf)|(refine cF (by rfl) ?_;conv=>whnf)))
  refine Sg.st (A := [_]) (o' := 0) (m := [.int .i64 0, .slice (some ⟨bb0, 0, none⟩) s0.length cb0, .bool false, .slice none 0 0, .slice none 0 0]) H rfl (Nat.le_of_ble_eq_true rfl) (rfl) ?_
  clear H
  intro w H
  obtain ⟨P0, hP0⟩ : ∃ P : World → Prop, P = fun w => TrC w (fun k => w0.heap.size ≤ k) [.int .i64 0, .slice (some ⟨bb0, 0, none⟩) s0.length cb0, .bool false, .slice none 0 0, .slice none 0 0] (.mk 0 s0 false [] []) ∧ True := ⟨_, rfl⟩
  replace H : Sg w0 [(bt, Tt, [.int .i64 0, .slice none 0 0, .bool false, .slice (some ⟨bl, 0, none⟩) 10 10, .slice none 0 0]), (bl, Tl, (.int .i64 0 :: .slice (some ⟨bb0, 0, none⟩) s0.length cb0 :: .bool false :: .slice none 0 0 :: .slice none 0 0 :: .int .i64 0 :: .slice none 0 0 :: .bool false :: .slice none 0 0 :: .slice none 0 0 :: .int .i64 0 :: .slice none 0 0 :: .bool false :: .slice none 0 0 :: .slice none 0 0 :: .int .i64 0 :: .slice none 0 0 :: .bool false :: .slice none 0 0 :: .slice none 0 0 :: .int .i64 0 :: .slice none 0 0 :: .bool false :: .slice none 0 0 :: .slice none 0 0 :: .int .i64 0 :: .slice none 0 0 :: .bool false :: .slice none 0 0 :: .slice none 0 0 :: .int .i64 0 :: .slice none 0 0 :: .bool false :: .slice none 0 0 :: .slice none 0 0 :: .int .i64 0 :: .slice none 0 0 :: .bool false :: .slice none 0 0 :: .slice none 0 0 :: .int .i64 0 :: .slice none 0 0 :: .bool false :: .slice none 0 0 :: .slice none 0 0 :: .int .i64 0 :: .slice none 0 0 :: .bool false :: .slice none 0 0 :: .slice none 0 0 :: [])), (b2, T2, [.int .i64 0, .slice none 0 0, .bool false, .slice none 0 0, .slice none 0 0])] P0 w := by rw [hP0]; exact H
  ((conv=>whnf);repeat(first|(refine mvT ?_;conv=>whnf)|(refine mvF ?_;conv=>whnf)|(refine cT (by rfl) ?_;conv=>whnf)|(refine cF (by rfl) ?_;conv=>whnf)))
  refine VD.draw mixed (.q 0 (.q 1 (.q 2 (.q 3 (.q 4 (.q 5 (.eff 6 [1] (.q 7 (.q 8 (.eff 9 [] (.done))))))))))) (by kernel_rfl) ?_;((conv=>whnf);repeat(first|(refine mvT ?_;conv=>whnf)|(refine mvF ?_;conv=>whnf)|(refine cT (by rfl) ?_;conv=>whnf)|(refine cF (by rfl) ?_;conv=>whnf)))
  replace H := H.e0 (ext_drew _)
  refine ldS ((Sg.at (A := []) H).cell rfl) ?_;((conv=>whnf);repeat(first|(refine mvT ?_;conv=>whnf)|(refine mvF ?_;conv=>whnf)|(refine cT (by rfl) ?_;conv=>whnf)|(refine cF (by rfl) ?_;conv=>whnf)))
  refine ⟨_, ld ((hq.e0 H.ext).cell (j := 2) rfl) (by simp), ?_⟩
  ((conv=>whnf);repeat(first|(refine mvT ?_;conv=>whnf)|(refine mvF ?_;conv=>whnf)|(refine cT (by rfl) ?_;conv=>whnf)|(refine cF (by rfl) ?_;conv=>whnf)))
  refine ⟨by show s1.length ≤ maxLen; have := hLs (.mk 0 s1 false [] []) (by simp); cases this; rw [maxLen_eq]; omega, ?_⟩
  intro bb1 cb1 wb1 hbb1 hbl1 hC1 hcp1 hxb1
  have hC1 : Cells wb1 bb1 0 (s1.map bcell) := hC1
  have hcp1 : s1.length ≤ cb1 ∧ cb1 ≤ maxLen := hcp1
  have H := H.keepN (H.e0 hxb1) (trL [.int .i64 0, .slice (some ⟨bb1, 0, none⟩) s1.length cb1, .bool false, .slice none 0 0, .slice none 0 0] (.mk 0 s1 false [] [])) (F := fun k => _ ≤ k) (TrC.leaf rfl (conv_bytes hbb1 hbl1 hC1 hcp1)) fun k h => h
  refine ⟨by (conv => whnf); exact ⟨⟨_, (Sg.at (A := []) H).cell rfl, rfl, rfl⟩, trivial⟩, ?_⟩
  ((conv=>whnf);repeat(first|(refine mvT ?_;conv=>whnf)|(refine mvF ?_;conv=>whnf)|(refine cT (by rfl) ?_;conv=>whnf)|(refine cF (by rfl) ?_;conv=>whnf)))
  refine ⟨bl, 0, rfl, ⟨by omega, by omega⟩, ?_⟩
  ((conv=>whnf);repeat(first|(refine mvT ?_;conv=>whnf)|(refine mvF ?_;conv=>whnf)|(refine cT (by rfl) ?_;conv=>whnf)|(refine cF (by rfl) ?_;conv=>whnf)))
  refine Sg.st (A := [_]) (o' := 5) (m := [.int .i64 0, .slice (some ⟨bb1, 0, none⟩) s1.length cb1, .bool false, .slice none 0 0, .slice none 0 0]) H rfl (Nat.le_of_ble_eq_true rfl) (rfl) ?_
  clear H
  intro w H
  obtain ⟨P1, hP1⟩ : ∃ P : World → Prop, P = fun w => TrC w (fun k => w0.heap.size ≤ k) [.int .i64 0, .slice (some ⟨bb1, 0, none⟩) s1.length cb1, .bool false, .slice none 0 0, .slice none 0 0] (.mk 0 s1 false [] []) ∧ P0 w := ⟨_, rfl⟩
  replace H : Sg w0 [(bt, Tt, [.int .i64 0, .slice none 0 0, .bool false, .slice (some ⟨bl, 0, none⟩) 10 10, .slice none 0 0]), (bl, Tl, (.int .i64 0 :: .slice (some ⟨bb0, 0, none⟩) s0.length cb0 :: .bool false :: .slice none 0 0 :: .slice none 0 0 :: .int .i64 0 :: .slice (some ⟨bb1, 0, none⟩) s1.length cb1 :: .bool false :: .slice none 0 0 :: .slice none 0 0 :: .int .i64 0 :: .slice none 0 0 :: .bool false :: .slice none 0 0 :: .slice none 0 0 :: .int .i64 0 :: .slice none 0 0 :: .bool false :: .slice none 0 0 :: .slice none 0 0 :: .int .i64 0 :: .slice none 0 0 :: .bool false :: .slice none 0 0 :: .slice none 0 0 :: .int .i64 0 :: .slice none 0 0 :: .bool false :: .slice none 0 0 :: .slice none 0 0 :: .int .i64 0 :: .slice none 0 0 :: .bool false :: .slice none 0 0 :: .slice none 0 0 :: .int .i64 0 :: .slice none 0 0 :: .bool false :: .slice none 0 0 :: .slice none 0 0 :: .int .i64 0 :: .slice none 0 0 :: .bool false :: .slice none 0 0 :: .slice none 0 0 :: .int .i64 0 :: .slice none 0 0 :: .bool false :: .slice none 0 0 :: .slice none 0 0 :: [])), (b2, T2, [.int .i64 0, .slice none 0 0, .bool false, .slice none 0 0, .slice none 0 0])] P1 w := by rw [hP1]; exact H
  ((conv=>whnf);repeat(first|(refine mvT ?_;conv=>whnf)|(refine mvF ?_;conv=>whnf)|(refine cT (by rfl) ?_;conv=>whnf)|(refine cF (by rfl) ?_;conv=>whnf)))
  refine VD.draw mixed (.q 0 (.q 1 (.q 2 (.q 3 (.q 4 (.q 5 (.q 6 (.q 7 (.q 8 (.eff 9 [] (.done))))))))))) (by kernel_rfl) ?_;((conv=>whnf);repeat(first|(refine mvT ?_;conv=>whnf)|(refine mvF ?_;conv=>whnf)|(refine cT (by rfl) ?_;conv=>whnf)|(refine cF (by rfl) ?_;conv=>whnf)))
  replace H := H.e0 (ext_drew _)
  refine ldS ((Sg.at (A := []) H).cell rfl) ?_;((conv=>whnf);repeat(first|(refine mvT ?_;conv=>whnf)|(refine mvF ?_;conv=>whnf)|(refine cT (by rfl) ?_;conv=>whnf)|(refine cF (by rfl) ?_;conv=>whnf)))
  refine ⟨_, ld ((hq.e0 H.ext).cell (j := 3) rfl) (by simp), ?_⟩
  ((conv=>whnf);repeat(first|(refine mvT ?_;conv=>whnf)|(refine mvF ?_;conv=>whnf)|(refine cT (by rfl) ?_;conv=>whnf)|(refine cF (by rfl) ?_;conv=>whnf)))
  refine ⟨bl, 0, rfl, ⟨by omega, by omega⟩, ?_⟩
  ((conv=>whnf);repeat(first|(refine mvT ?_;conv=>whnf)|(refine mvF ?_;conv=>whnf)|(refine cT (by rfl) ?_;conv=>whnf)|(refine cF (by rfl) ?_;conv=>whnf)))
  refine Sg.st (A := [_]) (o' := 10) (m := [.int .i64 (IntKind.i64.wrap n2), .slice none 0 0, .bool false, .slice none 0 0, .slice none 0 0]) H rfl (Nat.le_of_ble_eq_true rfl) (rfl) ?_
  clear H
  intro w H
  rw [hw2] at H
  replace H : Sg w0 [(bt, Tt, [.int .i64 0, .slice none 0 0, .bool false, .slice (some ⟨bl, 0, none⟩) 10 10, .slice none 0 0]), (bl, Tl, (.int .i64 0 :: .slice (some ⟨bb0, 0, none⟩) s0.length cb0 :: .bool false :: .slice none 0 0 :: .slice none 0 0 :: .int .i64 0 :: .slice (some ⟨bb1, 0, none⟩) s1.length cb1 :: .bool false :: .slice none 0 0 :: .slice none 0 0 :: .int .i64 n2 :: .slice none 0 0 :: .bool false :: .slice none 0 0 :: .slice none 0 0 :: .int .i64 0 :: .slice none 0 0 :: .bool false :: .slice none 0 0 :: .slice none 0 0 :: .int .i64 0 :: .slice none 0 0 :: .bool false :: .slice none 0 0 :: .slice none 0 0 :: .int .i64 0 :: .slice none 0 0 :: .bool false :: .slice none 0 0 :: .slice none 0 0 :: .int .i64 0 :: .slice none 0 0 :: .bool false :: .slice none 0 0 :: .slice none 0 0 :: .int .i64 0 :: .slice none 0 0 :: .bool false :: .slice none 0 0 :: .slice none 0 0 :: .int .i64 0 :: .slice none 0 0 :: .bool false :: .slice none 0 0 :: .slice none 0 0 :: .int .i64 0 :: .slice none 0 0 :: .bool false :: .slice none 0 0 :: .slice none 0 0 :: [])), (b2, T2, [.int .i64 0, .slice none 0 0, .bool false, .slice none 0 0, .slice none 0 0])] P1 w := H
  ((conv=>whnf);repeat(first|(refine mvT ?_;conv=>whnf)|(refine mvF ?_;conv=>whnf)|(refine cT (by rfl) ?_;conv=>whnf)|(refine cF (by rfl) ?_;conv=>whnf)))
  refine VD.draw mixed (.q 0 (.q 1 (.q 2 (.q 3 (.q 4 (.q 5 (.eff 6 [1] (.q 7 (.eff 8 [] (.done)))))))))) (by kernel_rfl) ?_;((conv=>whnf);repeat(first|(refine mvT ?_;conv=>whnf)|(refine mvF ?_;conv=>whnf)|(refine cT (by rfl) ?_;conv=>whnf)|(refine cF (by rfl) ?_;conv=>whnf)))
  replace H := H.e0 (ext_drew _)
  refine ldS ((Sg.at (A := []) H).cell rfl) ?_;((conv=>whnf);repeat(first|(refine mvT ?_;conv=>whnf)|(refine mvF ?_;conv=>whnf)|(refine cT (by rfl) ?_;conv=>whnf)|(refine cF (by rfl) ?_;conv=>whnf)))
  refine ⟨_, ld ((hq.e0 H.ext).cell (j := 4) rfl) (by simp), ?_⟩
  ((conv=>whnf);repeat(first|(refine mvT ?_;conv=>whnf)|(refine mvF ?_;conv=>whnf)|(refine cT (by rfl) ?_;conv=>whnf)|(refine cF (by rfl) ?_;conv=>whnf)))
  refine Does.mono (textTree_does (F := F) (hc3.ext H.ext fun _ _ _ f => f) hnl3 (by have := hLs (.mk 0 s3 nl3 [] []) (by simp); cases this; rw [maxLen_eq]; omega)) ?_
  rintro rr3 wr3 ⟨⟨cr3, rfl, hr3⟩, hxr3⟩
  obtain ⟨nv3, sv3, nm3, lv3, uv3, rfl⟩ : ∃ n sv nl lv uv, cr3 = [.int .i64 n, sv, .bool nl, lv, uv] := by cases hr3; exact ⟨_, _, _, _, _, rfl⟩
  have H := H.keepN (H.e0 hxr3) (trL [.int .i64 nv3, sv3, .bool nm3, lv3, uv3] (.mk 0 s3 nl3 [] [])) (F := fun k => _ ≤ k) hr3 fun k h => h
  refine ⟨by (conv => whnf); exact ⟨⟨_, (Sg.at (A := []) H).cell rfl, rfl, rfl⟩, trivial⟩, ?_⟩
  ((conv=>whnf);repeat(first|(refine mvT ?_;conv=>whnf)|(refine mvF ?_;conv=>whnf)|(refine cT (by rfl) ?_;conv=>whnf)|(refine cF (by rfl) ?_;conv=>whnf)))
  refine ⟨bl, 0, rfl, ⟨by omega, by omega⟩, ?_⟩
  ((conv=>whnf);repeat(first|(refine mvT ?_;conv=>whnf)|(refine mvF ?_;conv=>whnf)|(refine cT (by rfl) ?_;conv=>whnf)|(refine cF (by rfl) ?_;conv=>whnf)))
  refine Sg.st (A := [_]) (o' := 15) (m := [.int .i64 nv3, sv3, .bool nm3, lv3, uv3]) H rfl (Nat.le_of_ble_eq_true rfl) (hr3.ok) ?_
  clear H
  intro w H
  obtain ⟨P3, hP3⟩ : ∃ P : World → Prop, P = fun w => TrC w (fun k => w0.heap.size ≤ k) [.int .i64 nv3, sv3, .bool nm3, lv3, uv3] (.mk 0 s3 nl3 [] []) ∧ P1 w := ⟨_, rfl⟩
  replace H : Sg w0 [(bt, Tt, [.int .i64 0, .slice none 0 0, .bool false, .slice (some ⟨bl, 0, none⟩) 10 10, .slice none 0 0]), (bl, Tl, (.int .i64 0 :: .slice (some ⟨bb0, 0, none⟩) s0.length cb0 :: .bool false :: .slice none 0 0 :: .slice none 0 0 :: .int .i64 0 :: .slice (some ⟨bb1, 0, none⟩) s1.length cb1 :: .bool false :: .slice none 0 0 :: .slice none 0 0 :: .int .i64 n2 :: .slice none 0 0 :: .bool false :: .slice none 0 0 :: .slice none 0 0 :: .int .i64 nv3 :: sv3 :: .bool nm3 :: lv3 :: uv3 :: .int .i64 0 :: .slice none 0 0 :: .bool false :: .slice none 0 0 :: .slice none 0 0 :: .int .i64 0 :: .slice none 0 0 :: .bool false :: .slice none 0 0 :: .slice none 0 0 :: .int .i64 0 :: .slice none 0 0 :: .bool false :: .slice none 0 0 :: .slice none 0 0 :: .int .i64 0 :: .slice none 0 0 :: .bool false :: .slice none 0 0 :: .slice none 0 0 :: .int .i64 0 :: .slice none 0 0 :: .bool false :: .slice none 0 0 :: .slice none 0 0 :: .int .i64 0 :: .slice none 0 0 :: .bool false :: .slice none 0 0 :: .slice none 0 0 :: [])), (b2, T2, [.int .i64 0, .slice none 0 0, .bool false, .slice none 0 0, .slice none 0 0])] P3 w := by rw [hP3]; exact H
  ((conv=>whnf);repeat(first|(refine mvT ?_;conv=>whnf)|(refine mvF ?_;conv=>whnf)|(refine cT (by rfl) ?_;conv=>whnf)|(refine cF (by rfl) ?_;conv=>whnf)))
  refine VD.draw mixed (.q 0 (.q 1 (.q 2 (.q 3 (.q 4 (.q 5 (.eff 6 [1] (.q 7 (.eff 8 [] (.done)))))))))) (by kernel_rfl) ?_;((conv=>whnf);repeat(first|(refine mvT ?_;conv=>whnf)|(refine mvF ?_;conv=>whnf)|(refine cT (by rfl) ?_;conv=>whnf)|(refine cF (by rfl) ?_;conv=>whnf)))
  replace H := H.e0 (ext_drew _)
  refine ldS ((Sg.at (A := []) H).cell rfl) ?_;((conv=>whnf);repeat(first|(refine mvT ?_;conv=>whnf)|(refine mvF ?_;conv=>whnf)|(refine cT (by rfl) ?_;conv=>whnf)|(refine cF (by rfl) ?_;conv=>whnf)))
  refine ⟨_, ld ((hq.e0 H.ext).cell (j := 5) rfl) (by simp), ?_⟩
  ((conv=>whnf);repeat(first|(refine mvT ?_;conv=>whnf)|(refine mvF ?_;conv=>whnf)|(refine cT (by rfl) ?_;conv=>whnf)|(refine cF (by rfl) ?_;conv=>whnf)))
  refine Does.mono (textTree_does (F := F) (hc4.ext H.ext fun _ _ _ f => f) hnl4 (by have := hLs (.mk 0 s4 nl4 [] []) (by simp); cases this; rw [maxLen_eq]; omega)) ?_
  rintro rr4 wr4 ⟨⟨cr4, rfl, hr4⟩, hxr4⟩
  obtain ⟨nv4, sv4, nm4, lv4, uv4, rfl⟩ : ∃ n sv nl lv uv, cr4 = [.int .i64 n, sv, .bool nl, lv, uv] := by cases hr4; exact ⟨_, _, _, _, _, rfl⟩
  have H := H.keepN (H.e0 hxr4) (trL [.int .i64 nv4, sv4, .bool nm4, lv4, uv4] (.mk 0 s4 nl4 [] [])) (F := fun k => _ ≤ k) hr4 fun k h => h
  refine ⟨by (conv => whnf); exact ⟨⟨_, (Sg.at (A := []) H).cell rfl, rfl, rfl⟩, trivial⟩, ?_⟩
  ((conv=>whnf);repeat(first|(refine mvT ?_;conv=>whnf)|(refine mvF ?_;conv=>whnf)|(refine cT (by rfl) ?_;conv=>whnf)|(refine cF (by rfl) ?_;conv=>whnf)))
  refine ⟨bl, 0, rfl, ⟨by omega, by omega⟩, ?_⟩
  ((conv=>whnf);repeat(first|(refine mvT ?_;conv=>whnf)|(refine mvF ?_;conv=>whnf)|(refine cT (by rfl) ?_;conv=>whnf)|(refine cF (by rfl) ?_;conv=>whnf)))
  refine Sg.st (A := [_]) (o' := 20) (m := [.int .i64 nv4, sv4, .bool nm4, lv4, uv4]) H rfl (Nat.le_of_ble_eq_true rfl) (hr4.ok) ?_
  clear H
  intro w H
  obtain ⟨P4, hP4⟩ : ∃ P : World → Prop, P = fun w => TrC w (fun k => w0.heap.size ≤ k) [.int .i64 nv4, sv4, .bool nm4, lv4, uv4] (.mk 0 s4 nl4 [] []) ∧ P3 w := ⟨_, rfl⟩
  replace H : Sg w0 [(bt, Tt, [.int .i64 0, .slice none 0 0, .bool false, .slice (some ⟨bl, 0, none⟩) 10 10, .slice none 0 0]), (bl, Tl, (.int .i64 0 :: .slice (some ⟨bb0, 0, none⟩) s0.length cb0 :: .bool false :: .slice none 0 0 :: .slice none 0 0 :: .int .i64 0 :: .slice (some ⟨bb1, 0, none⟩) s1.length cb1 :: .bool false :: .slice none 0 0 :: .slice none 0 0 :: .int .i64 n2 :: .slice none 0 0 :: .bool false :: .slice none 0 0 :: .slice none 0 0 :: .int .i64 nv3 :: sv3 :: .bool nm3 :: lv3 :: uv3 :: .int .i64 nv4 :: sv4 :: .bool nm4 :: lv4 :: uv4 :: .int .i64 0 :: .slice none 0 0 :: .bool false :: .slice none 0 0 :: .slice none 0 0 :: .int .i64 0 :: .slice none 0 0 :: .bool false :: .slice none 0 0 :: .slice none 0 0 :: .int .i64 0 :: .slice none 0 0 :: .bool false :: .slice none 0 0 :: .slice none 0 0 :: .int .i64 0 :: .slice none 0 0 :: .bool false :: .slice none 0 0 :: .slice none 0 0 :: .int .i64 0 :: .slice none 0 0 :: .bool false :: .slice none 0 0 :: .slice none 0 0 :: [])), (b2, T2, [.int .i64 0, .slice none 0 0, .bool false, .slice none 0 0, .slice none 0 0])] P4 w := by rw [hP4]; exact H
  ((conv=>whnf);repeat(first|(refine mvT ?_;conv=>whnf)|(refine mvF ?_;conv=>whnf)|(refine cT (by rfl) ?_;conv=>whnf)|(refine cF (by rfl) ?_;conv=>whnf)))
  refine VD.draw mixed (.q 0 (.q 1 (.q 2 (.q 3 (.q 4 (.q 5 (.q 6 (.q 7 (.q 8 (.eff 9 [] (.done))))))))))) (by kernel_rfl) ?_;((conv=>whnf);repeat(first|(refine mvT ?_;conv=>whnf)|(refine mvF ?_;conv=>whnf)|(refine cT (by rfl) ?_;conv=>whnf)|(refine cF (by rfl) ?_;conv=>whnf)))
  replace H := H.e0 (ext_drew _)
  refine ldS ((Sg.at (A := []) H).cell rfl) ?_;((conv=>whnf);repeat(first|(refine mvT ?_;conv=>whnf)|(refine mvF ?_;conv=>whnf)|(refine cT (by rfl) ?_;conv=>whnf)|(refine cF (by rfl) ?_;conv=>whnf)))
  refine ⟨_, ld ((hq.e0 H.ext).cell (j := 6) rfl) (by simp), ?_⟩
  ((conv=>whnf);repeat(first|(refine mvT ?_;conv=>whnf)|(refine mvF ?_;conv=>whnf)|(refine cT (by rfl) ?_;conv=>whnf)|(refine cF (by rfl) ?_;conv=>whnf)))
  refine ⟨bl, 0, rfl, ⟨by omega, by omega⟩, ?_⟩
  ((conv=>whnf);repeat(first|(refine mvT ?_;conv=>whnf)|(refine mvF ?_;conv=>whnf)|(refine cT (by rfl) ?_;conv=>whnf)|(refine cF (by rfl) ?_;conv=>whnf)))
  refine Sg.st (A := [_]) (o' := 25) (m := [.int .i64 (IntKind.i64.wrap n5), .slice none 0 0, .bool false, .slice none 0 0, .slice none 0 0]) H rfl (Nat.le_of_ble_eq_true rfl) (rfl) ?_
  clear H
  intro w H
  rw [hw5] at H
  replace H : Sg w0 [(bt, Tt, [.int .i64 0, .slice none 0 0, .bool false, .slice (some ⟨bl, 0, none⟩) 10 10, .slice none 0 0]), (bl, Tl, (.int .i64 0 :: .slice (some ⟨bb0, 0, none⟩) s0.length cb0 :: .bool false :: .slice none 0 0 :: .slice none 0 0 :: .int .i64 0 :: .slice (some ⟨bb1, 0, none⟩) s1.length cb1 :: .bool false :: .slice none 0 0 :: .slice none 0 0 :: .int .i64 n2 :: .slice none 0 0 :: .bool false :: .slice none 0 0 :: .slice none 0 0 :: .int .i64 nv3 :: sv3 :: .bool nm3 :: lv3 :: uv3 :: .int .i64 nv4 :: sv4 :: .bool nm4 :: lv4 :: uv4 :: .int .i64 n5 :: .slice none 0 0 :: .bool false :: .slice none 0 0 :: .slice none 0 0 :: .int .i64 0 :: .slice none 0 0 :: .bool false :: .slice none 0 0 :: .slice none 0 0 :: .int .i64 0 :: .slice none 0 0 :: .bool false :: .slice none 0 0 :: .slice none 0 0 :: .int .i64 0 :: .slice none 0 0 :: .bool false :: .slice none 0 0 :: .slice none 0 0 :: .int .i64 0 :: .slice none 0 0 :: .bool false :: .slice none 0 0 :: .slice none 0 0 :: [])), (b2, T2, [.int .i64 0, .slice none 0 0, .bool false, .slice none 0 0, .slice none 0 0])] P4 w := H
  ((conv=>whnf);repeat(first|(refine mvT ?_;conv=>whnf)|(refine mvF ?_;conv=>whnf)|(refine cT (by rfl) ?_;conv=>whnf)|(refine cF (by rfl) ?_;conv=>whnf)))
  refine VD.draw mixed (.q 0 (.q 1 (.q 2 (.q 3 (.q 4 (.q 5 (.q 6 (.q 7 (.q 8 (.eff 9 [] (.done))))))))))) (by kernel_rfl) ?_;((conv=>whnf);repeat(first|(refine mvT ?_;conv=>whnf)|(refine mvF ?_;conv=>whnf)|(refine cT (by rfl) ?_;conv=>whnf)|(refine cF (by rfl) ?_;conv=>whnf)))
  replace H := H.e0 (ext_drew _)
  refine ldS ((Sg.at (A := []) H).cell rfl) ?_;((conv=>whnf);repeat(first|(refine mvT ?_;conv=>whnf)|(refine mvF ?_;conv=>whnf)|(refine cT (by rfl) ?_;conv=>whnf)|(refine cF (by rfl) ?_;conv=>whnf)))
  refine ⟨_, ld ((hq.e0 H.ext).cell (j := 7) rfl) (by simp), ?_⟩
  ((conv=>whnf);repeat(first|(refine mvT ?_;conv=>whnf)|(refine mvF ?_;conv=>whnf)|(refine cT (by rfl) ?_;conv=>whnf)|(refine cF (by rfl) ?_;conv=>whnf)))
  refine ⟨bl, 0, rfl, ⟨by omega, by omega⟩, ?_⟩
  ((conv=>whnf);repeat(first|(refine mvT ?_;conv=>whnf)|(refine mvF ?_;conv=>whnf)|(refine cT (by rfl) ?_;conv=>whnf)|(refine cF (by rfl) ?_;conv=>whnf)))
  refine Sg.st (A := [_]) (o' := 32) (m := [.bool a6.isNone]) H rfl (Nat.le_of_ble_eq_true rfl) (rfl) ?_
  clear H
  intro w H
  replace H : Sg w0 [(bt, Tt, [.int .i64 0, .slice none 0 0, .bool false, .slice (some ⟨bl, 0, none⟩) 10 10, .slice none 0 0]), (bl, Tl, (.int .i64 0 :: .slice (some ⟨bb0, 0, none⟩) s0.length cb0 :: .bool false :: .slice none 0 0 :: .slice none 0 0 :: .int .i64 0 :: .slice (some ⟨bb1, 0, none⟩) s1.length cb1 :: .bool false :: .slice none 0 0 :: .slice none 0 0 :: .int .i64 n2 :: .slice none 0 0 :: .bool false :: .slice none 0 0 :: .slice none 0 0 :: .int .i64 nv3 :: sv3 :: .bool nm3 :: lv3 :: uv3 :: .int .i64 nv4 :: sv4 :: .bool nm4 :: lv4 :: uv4 :: .int .i64 n5 :: .slice none 0 0 :: .bool false :: .slice none 0 0 :: .slice none 0 0 :: .int .i64 0 :: .slice none 0 0 :: .bool a6.isNone :: .slice none 0 0 :: .slice none 0 0 :: .int .i64 0 :: .slice none 0 0 :: .bool false :: .slice none 0 0 :: .slice none 0 0 :: .int .i64 0 :: .slice none 0 0 :: .bool false :: .slice none 0 0 :: .slice none 0 0 :: .int .i64 0 :: .slice none 0 0 :: .bool false :: .slice none 0 0 :: .slice none 0 0 :: [])), (b2, T2, [.int .i64 0, .slice none 0 0, .bool false, .slice none 0 0, .slice none 0 0])] P4 w := H
  ((conv=>whnf);repeat(first|(refine mvT ?_;conv=>whnf)|(refine mvF ?_;conv=>whnf)|(refine cT (by rfl) ?_;conv=>whnf)|(refine cF (by rfl) ?_;conv=>whnf)))
  refine ⟨_, ld ((hq.e0 H.ext).cell (j := 7) rfl) (by simp), ?_⟩
  ((conv=>whnf);repeat(first|(refine mvT ?_;conv=>whnf)|(refine mvF ?_;conv=>whnf)|(refine cT (by rfl) ?_;conv=>whnf)|(refine cF (by rfl) ?_;conv=>whnf)))
  have hlsT : lsT (.mk 0 [] nl6 l6 []) = l6 := by
    show (if nl6 = true then [] else l6) = l6
    split
    · rename_i e
      exact (hnl6 e).symm
    · rfl
  rw [hlsT] at hll6 hrl6
  obtain ⟨wL, hwL⟩ : ∃ wL, wL = w := ⟨_, rfl⟩
  rw [← hwL] at H ⊢
  have hLlt := H.own.lt
  have hLl : l6.length ≤ 1000000 ∧ ∀ x, x ∈ l6 → LimT x := by
    have := hLs (.mk 0 [] nl6 l6 []) (by simp)
    cases this
    exact ⟨by assumption, by assumption⟩
  have hs0L := H.ext.size
  refine VL.loop (fun i : Nat => [(73, .int .i64 ls6.length), (74, .int .i64 i), (0, .pointer (some ⟨q, o, none⟩)), (2, .pointer (some ⟨b2, 0, none⟩)), (3, .pointer (some ⟨bt, 0, none⟩))])
    (fun i w' => i ≤ ls6.length ∧ Ext (fun k => k = bl ∨ wL.heap.size ≤ k) wL w' ∧ ∃ vl ts, Own w' bl Tl (.int .i64 0 :: .slice (some ⟨bb0, 0, none⟩) s0.length cb0 :: .bool false :: .slice none 0 0 :: .slice none 0 0 :: .int .i64 0 :: .slice (some ⟨bb1, 0, none⟩) s1.length cb1 :: .bool false :: .slice none 0 0 :: .slice none 0 0 :: .int .i64 n2 :: .slice none 0 0 :: .bool false :: .slice none 0 0 :: .slice none 0 0 :: .int .i64 nv3 :: sv3 :: .bool nm3 :: lv3 :: uv3 :: .int .i64 nv4 :: sv4 :: .bool nm4 :: lv4 :: uv4 :: .int .i64 n5 :: .slice none 0 0 :: .bool false :: .slice none 0 0 :: .slice none 0 0 :: .int .i64 0 :: .slice none 0 0 :: .bool a6.isNone :: vl :: .slice none 0 0 :: .int .i64 0 :: .slice none 0 0 :: .bool false :: .slice none 0 0 :: .slice none 0 0 :: .int .i64 0 :: .slice none 0 0 :: .bool false :: .slice none 0 0 :: .slice none 0 0 :: .int .i64 0 :: .slice none 0 0 :: .bool false :: .slice none 0 0 :: .slice none 0 0 :: []) ∧ OLn w' wL.heap.size vl ts ∧ ts.length = i ∧ ∀ (j : Nat) (x y : T), l6[j]? = some x → ts[j]? = some y → Nrm x y) (fun i => ls6.length - i) 0
    ⟨rfl, rfl, rfl, rfl, rfl, trivial⟩ ⟨Nat.zero_le _, Ext.refl _ _, _, [], Sg.at (A := [_]) H, OLn.nil _ _, rfl, by simp⟩ ?_
  rintro i w ⟨hi, hxL, vl6, ts6, hobl, hT, htl6, hnr6⟩
  ((conv=>whnf);repeat(first|(refine mvT ?_;conv=>whnf)|(refine mvF ?_;conv=>whnf)|(refine cT (by rfl) ?_;conv=>whnf)|(refine cF (by rfl) ?_;conv=>whnf)))
  refine cI (by rfl) (fun h9=>?_) (fun h9=>?_)
  · have hil : i < ls6.length := by have := of_decide_eq_true h9; omega
    obtain ⟨be, oe, rfl, hFe, hbe, hce⟩ := hcl6 i ls6[i] (by simp [hil])
    have hqe := hrl6 i ls6[i] l6[i] (by simp [hil]) (by simp)
    have hlime := hLl.2 l6[i] (List.getElem_mem _)
    obtain ⟨t', ht'⟩ : ∃ t', t' = l6[i] := ⟨_, rfl⟩
    obtain ⟨u', hce', hxe'⟩ : ∃ u, ls6[i] = [str u] ∧ l6[i] = .mk 0 u false [] [] := hqe
    rw [hce'] at hce
    have hul : u'.length ≤ 2147483647 := by rw [hxe'] at hlime; cases hlime; assumption
    have hnr' : Nrm l6[i] t' := by rw [ht', hxe']; exact Nrm.leaf _ _ _
    rw [hxe'] at ht'
    have hx0 : Ext nob w0 w := H.ext.trans hxL fun k hk h => by
      rcases h with h | h
      · omega
      · omega
    have hobt : Own w bt Tt [.int .i64 0, .slice none 0 0, .bool false, .slice (some ⟨bl, 0, none⟩) 10 10, .slice none 0 0] := (Sg.at (A := []) H).ext hxL fun h => by
      have := hLlt bt (by simp [inL])
      have h2 := (H.dis.2.1 : ¬ inL _ bt)
      rcases h with h | h
      · exact h2 (by rw [h]; simp [inL])
      · omega
    obtain ⟨av, cv, rfl⟩ := hT.one
    ((conv=>whnf);repeat(first|(refine mvT ?_;conv=>whnf)|(refine mvF ?_;conv=>whnf)|(refine cT (by rfl) ?_;conv=>whnf)|(refine cF (by rfl) ?_;conv=>whnf)))
    refine VD.draw mixed (.eff 0 [] (.alt (.eff 1 [] (.eff 2 [] (.q 3 (.done)))) (.eff 2 [] (.eff 1 [] (.q 3 (.done)))))) (by kernel_rfl) ?_;((conv=>whnf);repeat(first|(refine mvT ?_;conv=>whnf)|(refine mvF ?_;conv=>whnf)|(refine cT (by rfl) ?_;conv=>whnf)|(refine cF (by rfl) ?_;conv=>whnf)))
    intro bb wb hbb hob hxb
    have hxb : Ext nob w wb := (ext_drew w).e0 hxb
    have hbb : w.heap.size ≤ bb := hbb
    ((conv=>whnf);repeat(first|(refine mvT ?_;conv=>whnf)|(refine mvF ?_;conv=>whnf)|(refine cT (by rfl) ?_;conv=>whnf)|(refine cF (by rfl) ?_;conv=>whnf)))
    constructor
    · conv => whnf
      refine st_all [.bool true] hob rfl rfl rfl ?_
      intro wc hoc hxc
      conv => whnf
      refine st_all [.bool false] hoc rfl rfl rfl ?_
      intro wd hod hxd
      ((conv=>whnf);repeat(first|(refine mvT ?_;conv=>whnf)|(refine mvF ?_;conv=>whnf)|(refine cT (by rfl) ?_;conv=>whnf)|(refine cF (by rfl) ?_;conv=>whnf)))
      refine ldS (hod.cell rfl) ?_;((conv=>whnf);repeat(first|(refine mvT ?_;conv=>whnf)|(refine mvF ?_;conv=>whnf)|(refine cT (by rfl) ?_;conv=>whnf)|(refine cF (by rfl) ?_;conv=>whnf)))
      have hxw : Ext nob w wd := (hxb.st hxc hbb).st hxd hbb
      refine VD.draw mixed (.q 0 (.q 1 (.q 2 (.q 3 (.q 4 (.q 5 (.q 6 (.q 7 (.q 8 (.q 9 (.q 10 (.q 11 (.q 12 (.q 13 (.eff 14 [1, 3, 6] (.q 15 (.eff 16 [1, 3, 6] (.eff 17 [1] (.q 18 (.q 19 (.eff 20 [] (.done)))))))))))))))))))))) (by kernel_rfl) ?_;((conv=>whnf);repeat(first|(refine mvT ?_;conv=>whnf)|(refine mvF ?_;conv=>whnf)|(refine cT (by rfl) ?_;conv=>whnf)|(refine cF (by rfl) ?_;conv=>whnf)))
      have hxw := hxw.e0 (ext_drew _)
      have hszd := hxw.size
      refine ldS ((hobt.e0 hxw).cell rfl) ?_;((conv=>whnf);repeat(first|(refine mvT ?_;conv=>whnf)|(refine mvF ?_;conv=>whnf)|(refine cT (by rfl) ?_;conv=>whnf)|(refine cF (by rfl) ?_;conv=>whnf)))
      refine ldS ((hobt.e0 hxw).cell rfl) ?_;((conv=>whnf);repeat(first|(refine mvT ?_;conv=>whnf)|(refine mvF ?_;conv=>whnf)|(refine cT (by rfl) ?_;conv=>whnf)|(refine cF (by rfl) ?_;conv=>whnf)))
      refine ⟨bl, 0, rfl, ⟨by omega, by omega⟩, ?_⟩
      ((conv=>whnf);repeat(first|(refine mvT ?_;conv=>whnf)|(refine mvF ?_;conv=>whnf)|(refine cT (by rfl) ?_;conv=>whnf)|(refine cF (by rfl) ?_;conv=>whnf)))
      refine ldS ((hobl.e0 hxw).cell rfl) ?_;((conv=>whnf);repeat(first|(refine mvT ?_;conv=>whnf)|(refine mvF ?_;conv=>whnf)|(refine cT (by rfl) ?_;conv=>whnf)|(refine cF (by rfl) ?_;conv=>whnf)))
      refine ⟨_, ld ((hq.e0 (hx0.e0 hxw)).cell (j := 7) rfl) (by simp), ?_⟩
      ((conv=>whnf);repeat(first|(refine mvT ?_;conv=>whnf)|(refine mvF ?_;conv=>whnf)|(refine cT (by rfl) ?_;conv=>whnf)|(refine cF (by rfl) ?_;conv=>whnf)))
      refine ⟨be, oe, rfl, ⟨by omega, by omega⟩, ?_⟩
      ((conv=>whnf);repeat(first|(refine mvT ?_;conv=>whnf)|(refine mvF ?_;conv=>whnf)|(refine cT (by rfl) ?_;conv=>whnf)|(refine cF (by rfl) ?_;conv=>whnf)))
      refine ⟨_, ld ((hce.e0 (hx0.e0 hxw)).cell (j := 0) rfl) (by simp [show elZ true 8 8 [] = 1 from rfl]), ?_⟩
      ((conv=>whnf);repeat(first|(refine mvT ?_;conv=>whnf)|(refine mvF ?_;conv=>whnf)|(refine cT (by rfl) ?_;conv=>whnf)|(refine cF (by rfl) ?_;conv=>whnf)))
      refine ⟨by show u'.length ≤ maxLen; rw [maxLen_eq]; omega, ?_⟩
      intro bc cc wt hbc hbct hCc hcc hxt
      have hCc : Cells wt bc 0 (u'.map bcell) := hCc
      have hcc : u'.length ≤ cc ∧ cc ≤ maxLen := hcc
      have hszt := hxw.size
      have hxw := hxw.e0 hxt
      have htr := (TrC.leaf (n := 0) (nl := false) rfl (conv_bytes hbc hbct hCc hcc) : TrC wt (fun k => _ ≤ k) [.int .i64 0, .slice (some ⟨bc, 0, none⟩) u'.length cc, .bool false, .slice none 0 0, .slice none 0 0] (.mk 0 u' false [] []))
      rw [← ht'] at htr
      refine ⟨by (conv => whnf); exact ⟨⟨_, (hobt.e0 hxw).cell rfl, rfl, rfl⟩, ⟨_, (hobt.e0 hxw).cell rfl, rfl, rfl⟩, ⟨_, (hobl.e0 hxw).cell rfl, rfl, rfl⟩, trivial⟩, ?_⟩
      conv => whnf
      intro bs ws hbs hos hxs
      have hos : Own ws bs TT [.int .i64 0, .slice (some ⟨bc, 0, none⟩) u'.length cc, .bool false, .slice none 0 0, .slice none 0 0] := hos
      have hxw := hxw.e0 hxs
      refine ⟨by (conv => whnf); exact ⟨⟨_, (hobt.e0 hxw).cell rfl, rfl, rfl⟩, ⟨_, (hobt.e0 hxw).cell rfl, rfl, rfl⟩, ⟨_, (hobl.e0 hxw).cell rfl, rfl, rfl⟩, trivial⟩, ?_⟩
      conv => whnf
      have hsLw := hxL.size
      refine OLn.app (x := t') (hT.ext hxw fun _ _ _ f => f) rfl hos rfl rfl (by omega) (by decide) (by have := hxw.size; omega) ((htr.ext hxs fun _ _ _ f => f).mono fun k _ hk => ⟨by omega, fun e => by have := hT.own k e; omega⟩) ?_
      intro v5 w5 hT5 hx5 _
      obtain ⟨a5, c5, rfl⟩ := hT5.one
      have hown5 : ∀ k, (Value.slice av ts6.length cv).ownBlock = some k → wL.heap.size ≤ k := fun k hk => (hT.own k hk).1
      have hbt5 := (hobt.e0 hxw).ext hx5 fun h => by have := hown5 bt h; have := hLlt bt (by simp [inL]); omega
      have hbl5 := (hobl.e0 hxw).ext hx5 fun h => by have := hown5 bl h; have := hLlt bl (by simp [inL]); omega
      refine ⟨by (conv => whnf); exact ⟨⟨_, hbt5.cell rfl, rfl, rfl⟩, trivial⟩, ?_⟩
      conv => whnf
      refine ⟨bl, 0, rfl, ⟨by omega, by omega⟩, ?_⟩
      ((conv=>whnf);repeat(first|(refine mvT ?_;conv=>whnf)|(refine mvF ?_;conv=>whnf)|(refine cT (by rfl) ?_;conv=>whnf)|(refine cF (by rfl) ?_;conv=>whnf)))
      refine st_cell (o := 33) (v := .slice a5 (ts6 ++ [t']).length c5) hbl5 rfl rfl rfl (by simp) rfl ?_
      intro w6 ho6 hx6
      ((conv=>whnf);repeat(first|(refine mvT ?_;conv=>whnf)|(refine mvF ?_;conv=>whnf)|(refine cT (by rfl) ?_;conv=>whnf)|(refine cF (by rfl) ?_;conv=>whnf)))
      have hxL6 : Ext (fun k => k = bl ∨ wL.heap.size ≤ k) wL w6 := ((hxL.trans (hxw.mono (M' := nob) fun _ _ f => f) fun k hk f => f.elim).trans hx5 fun k hk h => by have := hown5 k h; omega).trans hx6 fun k hk h => .inl h
      refine ⟨i + 1, ⟨rfl, inc_eq (by omega), rfl, rfl, rfl, trivial⟩, ⟨by omega, hxL6, _, ts6 ++ [t'], ho6, hT5.ext hx6 (fun k _ h1 h2 => by have := hLlt bl (by simp [inL]); omega), by simp [htl6], ?_⟩, by omega⟩
      intro j x y hx hy
      rcases Nat.lt_or_ge j ts6.length with hj | hj
      · rw [List.getElem?_append_left hj] at hy
        exact hnr6 j x y hx hy
      · rw [List.getElem?_append_right hj] at hy
        obtain ⟨e, he⟩ : ∃ e, j - ts6.length = e := ⟨_, rfl⟩
        rw [he] at hy
        cases e with
        | zero =>
          have : j = i := by omega
          subst this
          simp only [List.getElem?_cons_zero, Option.some.injEq] at hy
          subst hy
          rw [List.getElem?_eq_getElem (by omega), Option.some.injEq] at hx
          subst hx
          exact hnr'
        | succ e => simp at hy
    · conv => whnf
      refine st_all [.bool false] hob rfl rfl rfl ?_
      intro wc hoc hxc
      conv => whnf
      refine st_all [.bool true] hoc rfl rfl rfl ?_
      intro wd hod hxd
      ((conv=>whnf);repeat(first|(refine mvT ?_;conv=>whnf)|(refine mvF ?_;conv=>whnf)|(refine cT (by rfl) ?_;conv=>whnf)|(refine cF (by rfl) ?_;conv=>whnf)))
      refine ldS (hod.cell rfl) ?_;((conv=>whnf);repeat(first|(refine mvT ?_;conv=>whnf)|(refine mvF ?_;conv=>whnf)|(refine cT (by rfl) ?_;conv=>whnf)|(refine cF (by rfl) ?_;conv=>whnf)))
      have hxw : Ext nob w wd := (hxb.st hxc hbb).st hxd hbb
      refine VD.draw mixed (.q 0 (.q 1 (.q 2 (.q 3 (.q 4 (.q 5 (.q 6 (.q 7 (.q 8 (.q 9 (.q 10 (.q 11 (.q 14 (.alt (.eff 12 [1, 4] (.q 13 (.eff 15 [1, 4, 8, 11] (.eff 16 [] (.q 17 (.q 18 (.eff 19 [] (.done)))))))) (.eff 15 [1, 4, 8, 11] (.eff 12 [1, 4] (.q 13 (.eff 16 [] (.q 17 (.q 18 (.eff 19 [] (.done)))))))))))))))))))))) (by kernel_rfl) ?_;((conv=>whnf);repeat(first|(refine mvT ?_;conv=>whnf)|(refine mvF ?_;conv=>whnf)|(refine cT (by rfl) ?_;conv=>whnf)|(refine cF (by rfl) ?_;conv=>whnf)))
      have hxw := hxw.e0 (ext_drew _)
      have hszd := hxw.size
      refine ldS ((hobt.e0 hxw).cell rfl) ?_;((conv=>whnf);repeat(first|(refine mvT ?_;conv=>whnf)|(refine mvF ?_;conv=>whnf)|(refine cT (by rfl) ?_;conv=>whnf)|(refine cF (by rfl) ?_;conv=>whnf)))
      refine ⟨bl, 0, rfl, ⟨by omega, by omega⟩, ?_⟩
      ((conv=>whnf);repeat(first|(refine mvT ?_;conv=>whnf)|(refine mvF ?_;conv=>whnf)|(refine cT (by rfl) ?_;conv=>whnf)|(refine cF (by rfl) ?_;conv=>whnf)))
      refine ldS ((hobl.e0 hxw).cell rfl) ?_;((conv=>whnf);repeat(first|(refine mvT ?_;conv=>whnf)|(refine mvF ?_;conv=>whnf)|(refine cT (by rfl) ?_;conv=>whnf)|(refine cF (by rfl) ?_;conv=>whnf)))
      refine ⟨_, ld ((hq.e0 (hx0.e0 hxw)).cell (j := 7) rfl) (by simp), ?_⟩
      ((conv=>whnf);repeat(first|(refine mvT ?_;conv=>whnf)|(refine mvF ?_;conv=>whnf)|(refine cT (by rfl) ?_;conv=>whnf)|(refine cF (by rfl) ?_;conv=>whnf)))
      refine ⟨be, oe, rfl, ⟨by omega, by omega⟩, ?_⟩
      ((conv=>whnf);repeat(first|(refine mvT ?_;conv=>whnf)|(refine mvF ?_;conv=>whnf)|(refine cT (by rfl) ?_;conv=>whnf)|(refine cF (by rfl) ?_;conv=>whnf)))
      refine ⟨_, ld ((hce.e0 (hx0.e0 hxw)).cell (j := 0) rfl) (by simp [show elZ true 8 8 [] = 1 from rfl]), ?_⟩
      ((conv=>whnf);repeat(first|(refine mvT ?_;conv=>whnf)|(refine mvF ?_;conv=>whnf)|(refine cT (by rfl) ?_;conv=>whnf)|(refine cF (by rfl) ?_;conv=>whnf)))
      constructor
      · conv => whnf
        refine ⟨by show u'.length ≤ maxLen; rw [maxLen_eq]; omega, ?_⟩
        intro bc cc wt hbc hbct hCc hcc hxt
        have hCc : Cells wt bc 0 (u'.map bcell) := hCc
        have hcc : u'.length ≤ cc ∧ cc ≤ maxLen := hcc
        have hszt := hxw.size
        have hxw := hxw.e0 hxt
        have htr := (TrC.leaf (n := 0) (nl := false) rfl (conv_bytes hbc hbct hCc hcc) : TrC wt (fun k => _ ≤ k) [.int .i64 0, .slice (some ⟨bc, 0, none⟩) u'.length cc, .bool false, .slice none 0 0, .slice none 0 0] (.mk 0 u' false [] []))
        rw [← ht'] at htr
        refine ⟨by (conv => whnf); exact ⟨⟨_, (hobt.e0 hxw).cell rfl, rfl, rfl⟩, ⟨_, (hobl.e0 hxw).cell rfl, rfl, rfl⟩, trivial⟩, ?_⟩
        conv => whnf
        intro bs ws hbs hos hxs
        have hos : Own ws bs TT [.int .i64 0, .slice none 0 0, .bool false, .slice none 0 0, .slice none 0 0] := hos
        have hxw := hxw.e0 hxs
        refine ⟨by (conv => whnf); exact ⟨⟨_, (hobt.e0 hxw).cell rfl, rfl, rfl⟩, ⟨_, (hobl.e0 hxw).cell rfl, rfl, rfl⟩, ⟨_, (hq.e0 (hx0.e0 hxw)).cell (j := 7) rfl, rfl, rfl⟩, ⟨_, (hce.e0 (hx0.e0 hxw)).cell (j := 0) rfl, rfl, rfl⟩, trivial⟩, ?_⟩
        have htrw : TrC ws (fun k => w.heap.size ≤ k ∧ k < ws.heap.size) [.int .i64 0, .slice (some ⟨bc, 0, none⟩) u'.length cc, .bool false, .slice none 0 0, .slice none 0 0] t' := ((htr.mono (F' := fun k => w.heap.size ≤ k ∧ k < wt.heap.size) fun k hk h => ⟨by omega, hk⟩).ext hxs fun _ _ _ f => f).mono fun k hk h => ⟨h.1, hk⟩
        conv => whnf
        refine OLn.app (x := .mk 0 [] false [] []) (hT.ext hxw fun _ _ _ f => f) rfl hos rfl rfl (by omega) (by decide) (by have := hxw.size; have := hxL.size; omega) (TrC.leaf rfl (Bytes.nil _ _)) ?_
        intro v5 w5 hT5 hx5 hbk5
        obtain ⟨a5, c5, rfl⟩ := hT5.one
        have hown5 : ∀ k, (Value.slice av ts6.length cv).ownBlock = some k → wL.heap.size ≤ k ∧ k < w.heap.size := fun k hk => hT.own k hk
        have hbl5 := (hobl.e0 hxw).ext hx5 fun h => by have := hown5 bl h; have := hLlt bl (by simp [inL]); omega
        have hblL := hLlt bl (by simp [inL])
        have hsLw := hxL.size
        have hszx := hxw.size
        ((conv=>whnf);repeat(first|(refine mvT ?_;conv=>whnf)|(refine mvF ?_;conv=>whnf)|(refine cT (by rfl) ?_;conv=>whnf)|(refine cF (by rfl) ?_;conv=>whnf)))
        refine ⟨bl, 0, rfl, ⟨by omega, by omega⟩, ?_⟩
        ((conv=>whnf);repeat(first|(refine mvT ?_;conv=>whnf)|(refine mvF ?_;conv=>whnf)|(refine cT (by rfl) ?_;conv=>whnf)|(refine cF (by rfl) ?_;conv=>whnf)))
        refine st_cell (o := 33) (v := .slice a5 (ts6 ++ [T.mk 0 [] false [] []]).length c5) hbl5 rfl rfl rfl (by simp) rfl ?_
        intro w6 ho6 hx6
        ((conv=>whnf);repeat(first|(refine mvT ?_;conv=>whnf)|(refine mvF ?_;conv=>whnf)|(refine cT (by rfl) ?_;conv=>whnf)|(refine cF (by rfl) ?_;conv=>whnf)))
        have hT6 := hT5.ext hx6 (fun k _ h1 h2 => by omega)
        obtain ⟨g, cap, hv, hput⟩ := hT6.last
        injection hv with e1 e2 e3
        subst e1
        subst e3
        have htr6 : TrC w6 (fun k => wL.heap.size ≤ k ∧ (Value.slice (some ⟨g, 0, none⟩) (ts6 ++ [T.mk 0 [] false [] []]).length c5).ownBlock ≠ some k) [.int .i64 0, .slice (some ⟨bc, 0, none⟩) u'.length cc, .bool false, .slice none 0 0, .slice none 0 0] t' := by
          refine ((htrw.ext hx5 fun k _ h e => by have := hown5 k e; omega).ext hx6 fun k _ h e => by omega).mono fun k _ h => ⟨by omega, fun e => ?_⟩
          rcases hbk5 with e2 | ⟨q2, e2, hle⟩
          · have := hown5 k (e2 ▸ e); omega
          · rw [e, Option.some.injEq] at e2
            omega
        refine ⟨g, 0, rfl, ⟨by omega, by simp; omega⟩, ?_⟩
        ((conv=>whnf);repeat(first|(refine mvT ?_;conv=>whnf)|(refine mvF ?_;conv=>whnf)|(refine cT (by rfl) ?_;conv=>whnf)|(refine cF (by rfl) ?_;conv=>whnf)))
        refine hput [.int .i64 0, .slice (some ⟨bc, 0, none⟩) u'.length cc, .bool false, .slice none 0 0, .slice none 0 0] t' _ _ _ rfl (by simp) htr6 ?_
        intro w7 hT7 hx7
        ((conv=>whnf);repeat(first|(refine mvT ?_;conv=>whnf)|(refine mvF ?_;conv=>whnf)|(refine cT (by rfl) ?_;conv=>whnf)|(refine cF (by rfl) ?_;conv=>whnf)))
        have hgL : wL.heap.size ≤ g := (hT6.own g rfl).1
        have hxL7 : Ext (fun k => k = bl ∨ wL.heap.size ≤ k) wL w7 := (((hxL.trans (hxw.mono (M' := nob) fun _ _ f => f) fun k hk f => f.elim).trans hx5 fun k hk h => by have := hown5 k h; omega).trans hx6 fun k hk h => .inl h).trans hx7 fun k hk h => by omega
        refine ⟨i + 1, ⟨rfl, inc_eq (by omega), rfl, rfl, rfl, trivial⟩, ⟨by omega, hxL7, _, ts6 ++ [t'], ho6.ext hx7 (by omega), hT7, by simp [htl6], ?_⟩, by omega⟩
        intro j x y hx hy
        rcases Nat.lt_or_ge j ts6.length with hj | hj
        · rw [List.getElem?_append_left hj] at hy
          exact hnr6 j x y hx hy
        · rw [List.getElem?_append_right hj] at hy
          obtain ⟨e, he⟩ : ∃ e, j - ts6.length = e := ⟨_, rfl⟩
          rw [he] at hy
          cases e with
          | zero =>
            have : j = i := by omega
            subst this
            simp only [List.getElem?_cons_zero, Option.some.injEq] at hy
            subst hy
            rw [List.getElem?_eq_getElem (by omega), Option.some.injEq] at hx
            subst hx
            exact hnr'
          | succ e => simp at hy
      · conv => whnf
        intro bs ws hbs hos hxs
        have hos : Own ws bs TT [.int .i64 0, .slice none 0 0, .bool false, .slice none 0 0, .slice none 0 0] := hos
        have hxw := hxw.e0 hxs
        refine ⟨by (conv => whnf); exact ⟨⟨_, (hobt.e0 hxw).cell rfl, rfl, rfl⟩, ⟨_, (hobl.e0 hxw).cell rfl, rfl, rfl⟩, ⟨_, (hq.e0 (hx0.e0 hxw)).cell (j := 7) rfl, rfl, rfl⟩, ⟨_, (hce.e0 (hx0.e0 hxw)).cell (j := 0) rfl, rfl, rfl⟩, trivial⟩, ?_⟩
        conv => whnf
        refine ⟨by show u'.length ≤ maxLen; rw [maxLen_eq]; omega, ?_⟩
        intro bc cc wt hbc hbct hCc hcc hxt
        have hCc : Cells wt bc 0 (u'.map bcell) := hCc
        have hcc : u'.length ≤ cc ∧ cc ≤ maxLen := hcc
        have hszt := hxw.size
        have hxw := hxw.e0 hxt
        have htr := (TrC.leaf (n := 0) (nl := false) rfl (conv_bytes hbc hbct hCc hcc) : TrC wt (fun k => _ ≤ k) [.int .i64 0, .slice (some ⟨bc, 0, none⟩) u'.length cc, .bool false, .slice none 0 0, .slice none 0 0] (.mk 0 u' false [] []))
        rw [← ht'] at htr
        refine ⟨by (conv => whnf); exact ⟨⟨_, (hobt.e0 hxw).cell rfl, rfl, rfl⟩, ⟨_, (hobl.e0 hxw).cell rfl, rfl, rfl⟩, trivial⟩, ?_⟩
        have hos := hos.e0 hxt
        have htrw : TrC wt (fun k => w.heap.size ≤ k ∧ k < wt.heap.size) [.int .i64 0, .slice (some ⟨bc, 0, none⟩) u'.length cc, .bool false, .slice none 0 0, .slice none 0 0] t' := htr.mono fun k hk h => ⟨by omega, hk⟩
        conv => whnf
        refine OLn.app (x := .mk 0 [] false [] []) (hT.ext hxw fun _ _ _ f => f) rfl hos rfl rfl (by omega) (by decide) (by have := hxw.size; have := hxL.size; omega) (TrC.leaf rfl (Bytes.nil _ _)) ?_
        intro v5 w5 hT5 hx5 hbk5
        obtain ⟨a5, c5, rfl⟩ := hT5.one
        have hown5 : ∀ k, (Value.slice av ts6.length cv).ownBlock = some k → wL.heap.size ≤ k ∧ k < w.heap.size := fun k hk => hT.own k hk
        have hbl5 := (hobl.e0 hxw).ext hx5 fun h => by have := hown5 bl h; have := hLlt bl (by simp [inL]); omega
        have hblL := hLlt bl (by simp [inL])
        have hsLw := hxL.size
        have hszx := hxw.size
        ((conv=>whnf);repeat(first|(refine mvT ?_;conv=>whnf)|(refine mvF ?_;conv=>whnf)|(refine cT (by rfl) ?_;conv=>whnf)|(refine cF (by rfl) ?_;conv=>whnf)))
        refine ⟨bl, 0, rfl, ⟨by omega, by omega⟩, ?_⟩
        ((conv=>whnf);repeat(first|(refine mvT ?_;conv=>whnf)|(refine mvF ?_;conv=>whnf)|(refine cT (by rfl) ?_;conv=>whnf)|(refine cF (by rfl) ?_;conv=>whnf)))
        refine st_cell (o := 33) (v := .slice a5 (ts6 ++ [T.mk 0 [] false [] []]).length c5) hbl5 rfl rfl rfl (by simp) rfl ?_
        intro w6 ho6 hx6
        ((conv=>whnf);repeat(first|(refine mvT ?_;conv=>whnf)|(refine mvF ?_;conv=>whnf)|(refine cT (by rfl) ?_;conv=>whnf)|(refine cF (by rfl) ?_;conv=>whnf)))
        have hT6 := hT5.ext hx6 (fun k _ h1 h2 => by omega)
        obtain ⟨g, cap, hv, hput⟩ := hT6.last
        injection hv with e1 e2 e3
        subst e1
        subst e3
        have htr6 : TrC w6 (fun k => wL.heap.size ≤ k ∧ (Value.slice (some ⟨g, 0, none⟩) (ts6 ++ [T.mk 0 [] false [] []]).length c5).ownBlock ≠ some k) [.int .i64 0, .slice (some ⟨bc, 0, none⟩) u'.length cc, .bool false, .slice none 0 0, .slice none 0 0] t' := by
          refine ((htrw.ext hx5 fun k _ h e => by have := hown5 k e; omega).ext hx6 fun k _ h e => by omega).mono fun k _ h => ⟨by omega, fun e => ?_⟩
          rcases hbk5 with e2 | ⟨q2, e2, hle⟩
          · have := hown5 k (e2 ▸ e); omega
          · rw [e, Option.some.injEq] at e2
            omega
        refine ⟨g, 0, rfl, ⟨by omega, by simp; omega⟩, ?_⟩
        ((conv=>whnf);repeat(first|(refine mvT ?_;conv=>whnf)|(refine mvF ?_;conv=>whnf)|(refine cT (by rfl) ?_;conv=>whnf)|(refine cF (by rfl) ?_;conv=>whnf)))
        refine hput [.int .i64 0, .slice (some ⟨bc, 0, none⟩) u'.length cc, .bool false, .slice none 0 0, .slice none 0 0] t' _ _ _ rfl (by simp) htr6 ?_
        intro w7 hT7 hx7
        ((conv=>whnf);repeat(first|(refine mvT ?_;conv=>whnf)|(refine mvF ?_;conv=>whnf)|(refine cT (by rfl) ?_;conv=>whnf)|(refine cF (by rfl) ?_;conv=>whnf)))
        have hgL : wL.heap.size ≤ g := (hT6.own g rfl).1
        have hxL7 : Ext (fun k => k = bl ∨ wL.heap.size ≤ k) wL w7 := (((hxL.trans (hxw.mono (M' := nob) fun _ _ f => f) fun k hk f => f.elim).trans hx5 fun k hk h => by have := hown5 k h; omega).trans hx6 fun k hk h => .inl h).trans hx7 fun k hk h => by omega
        refine ⟨i + 1, ⟨rfl, inc_eq (by omega), rfl, rfl, rfl, trivial⟩, ⟨by omega, hxL7, _, ts6 ++ [t'], ho6.ext hx7 (by omega), hT7, by simp [htl6], ?_⟩, by omega⟩
        intro j x y hx hy
        rcases Nat.lt_or_ge j ts6.length with hj | hj
        · rw [List.getElem?_append_left hj] at hy
          exact hnr6 j x y hx hy
        · rw [List.getElem?_append_right hj] at hy
          obtain ⟨e, he⟩ : ∃ e, j - ts6.length = e := ⟨_, rfl⟩
          rw [he] at hy
          cases e with
          | zero =>
            have : j = i := by omega
            subst this
            simp only [List.getElem?_cons_zero, Option.some.injEq] at hy
            subst hy
            rw [List.getElem?_eq_getElem (by omega), Option.some.injEq] at hx
            subst hx
            exact hnr'
          | succ e => simp at hy
  · have hil : i = ls6.length := by have := of_decide_eq_false h9; omega
    have H := Sg.up (A := [_]) H hobl (hxL.mono fun k hk h => by rcases h with h | h; exact h; omega)
    have htl6 : ts6.length = l6.length := by omega
    have hnl : a6.isNone = nl6 := hnn6 rfl
    rw [hnl] at H
    have H := H.add (Q := fun w => TrC w (fun k => w0.heap.size ≤ k) [.int .i64 0, .slice none 0 0, .bool nl6, vl6, .slice none 0 0] (.mk 0 [] nl6 ts6 [])) fun w3 x => (hT.ext x fun k hk h1 h2 => by
      have h3 : k < wL.heap.size := hLlt k (by rcases inL3 h2 with h | h | h <;> subst h <;> simp [inL])
      omega).row fun k hk => by omega
    obtain ⟨P6, hP6⟩ : ∃ P : World → Prop, P = fun w => TrC w (fun k => w0.heap.size ≤ k) [.int .i64 0, .slice none 0 0, .bool nl6, vl6, .slice none 0 0] (.mk 0 [] nl6 ts6 []) ∧ P4 w := ⟨_, rfl⟩
    replace H : Sg w0 [(bt, Tt, [.int .i64 0, .slice none 0 0, .bool false, .slice (some ⟨bl, 0, none⟩) 10 10, .slice none 0 0]), (bl, Tl, (.int .i64 0 :: .slice (some ⟨bb0, 0, none⟩) s0.length cb0 :: .bool false :: .slice none 0 0 :: .slice none 0 0 :: .int .i64 0 :: .slice (some ⟨bb1, 0, none⟩) s1.length cb1 :: .bool false :: .slice none 0 0 :: .slice none 0 0 :: .int .i64 n2 :: .slice none 0 0 :: .bool false :: .slice none 0 0 :: .slice none 0 0 :: .int .i64 nv3 :: sv3 :: .bool nm3 :: lv3 :: uv3 :: .int .i64 nv4 :: sv4 :: .bool nm4 :: lv4 :: uv4 :: .int .i64 n5 :: .slice none 0 0 :: .bool false :: .slice none 0 0 :: .slice none 0 0 :: .int .i64 0 :: .slice none 0 0 :: .bool nl6 :: vl6 :: .slice none 0 0 :: .int .i64 0 :: .slice none 0 0 :: .bool false :: .slice none 0 0 :: .slice none 0 0 :: .int .i64 0 :: .slice none 0 0 :: .bool false :: .slice none 0 0 :: .slice none 0 0 :: .int .i64 0 :: .slice none 0 0 :: .bool false :: .slice none 0 0 :: .slice none 0 0 :: [])), (b2, T2, [.int .i64 0, .slice none 0 0, .bool false, .slice none 0 0, .slice none 0 0])] P6 w := by rw [hP6]; exact H
    ((conv=>whnf);repeat(first|(refine mvT ?_;conv=>whnf)|(refine mvF ?_;conv=>whnf)|(refine cT (by rfl) ?_;conv=>whnf)|(refine cF (by rfl) ?_;conv=>whnf)))
    refine VD.draw mixed (.q 0 (.q 1 (.q 2 (.q 3 (.q 4 (.q 5 (.eff 6 [1] (.q 7 (.eff 8 [] (.done)))))))))) (by kernel_rfl) ?_;((conv=>whnf);repeat(first|(refine mvT ?_;conv=>whnf)|(refine mvF ?_;conv=>whnf)|(refine cT (by rfl) ?_;conv=>whnf)|(refine cF (by rfl) ?_;conv=>whnf)))
    replace H := H.e0 (ext_drew _)
    refine ldS ((Sg.at (A := []) H).cell rfl) ?_;((conv=>whnf);repeat(first|(refine mvT ?_;conv=>whnf)|(refine mvF ?_;conv=>whnf)|(refine cT (by rfl) ?_;conv=>whnf)|(refine cF (by rfl) ?_;conv=>whnf)))
    refine ⟨_, ld ((hq.e0 H.ext).cell (j := 8) rfl) (by simp), ?_⟩
    ((conv=>whnf);repeat(first|(refine mvT ?_;conv=>whnf)|(refine mvF ?_;conv=>whnf)|(refine cT (by rfl) ?_;conv=>whnf)|(refine cF (by rfl) ?_;conv=>whnf)))
    refine Does.mono (textTree_does (F := F) (hc7.ext H.ext fun _ _ _ f => f) hnl7 (by have := hLs (.mk 0 s7 nl7 [] []) (by simp); cases this; rw [maxLen_eq]; omega)) ?_
    rintro rr7 wr7 ⟨⟨cr7, rfl, hr7⟩, hxr7⟩
    obtain ⟨nv7, sv7, nm7, lv7, uv7, rfl⟩ : ∃ n sv nl lv uv, cr7 = [.int .i64 n, sv, .bool nl, lv, uv] := by cases hr7; exact ⟨_, _, _, _, _, rfl⟩
    have H := H.keepN (H.e0 hxr7) (trL [.int .i64 nv7, sv7, .bool nm7, lv7, uv7] (.mk 0 s7 nl7 [] [])) (F := fun k => _ ≤ k) hr7 fun k h => h
    refine ⟨by (conv => whnf); exact ⟨⟨_, (Sg.at (A := []) H).cell rfl, rfl, rfl⟩, trivial⟩, ?_⟩
    ((conv=>whnf);repeat(first|(refine mvT ?_;conv=>whnf)|(refine mvF ?_;conv=>whnf)|(refine cT (by rfl) ?_;conv=>whnf)|(refine cF (by rfl) ?_;conv=>whnf)))
    refine ⟨bl, 0, rfl, ⟨by omega, by omega⟩, ?_⟩
    ((conv=>whnf);repeat(first|(refine mvT ?_;conv=>whnf)|(refine mvF ?_;conv=>whnf)|(refine cT (by rfl) ?_;conv=>whnf)|(refine cF (by rfl) ?_;conv=>whnf)))
    refine Sg.st (A := [_]) (o' := 35) (m := [.int .i64 nv7, sv7, .bool nm7, lv7, uv7]) H rfl (Nat.le_of_ble_eq_true rfl) (hr7.ok) ?_
    clear H
    intro w H
    obtain ⟨P7, hP7⟩ : ∃ P : World → Prop, P = fun w => TrC w (fun k => w0.heap.size ≤ k) [.int .i64 nv7, sv7, .bool nm7, lv7, uv7] (.mk 0 s7 nl7 [] []) ∧ P6 w := ⟨_, rfl⟩
    replace H : Sg w0 [(bt, Tt, [.int .i64 0, .slice none 0 0, .bool false, .slice (some ⟨bl, 0, none⟩) 10 10, .slice none 0 0]), (bl, Tl, (.int .i64 0 :: .slice (some ⟨bb0, 0, none⟩) s0.length cb0 :: .bool false :: .slice none 0 0 :: .slice none 0 0 :: .int .i64 0 :: .slice (some ⟨bb1, 0, none⟩) s1.length cb1 :: .bool false :: .slice none 0 0 :: .slice none 0 0 :: .int .i64 n2 :: .slice none 0 0 :: .bool false :: .slice none 0 0 :: .slice none 0 0 :: .int .i64 nv3 :: sv3 :: .bool nm3 :: lv3 :: uv3 :: .int .i64 nv4 :: sv4 :: .bool nm4 :: lv4 :: uv4 :: .int .i64 n5 :: .slice none 0 0 :: .bool false :: .slice none 0 0 :: .slice none 0 0 :: .int .i64 0 :: .slice none 0 0 :: .bool nl6 :: vl6 :: .slice none 0 0 :: .int .i64 nv7 :: sv7 :: .bool nm7 :: lv7 :: uv7 :: .int .i64 0 :: .slice none 0 0 :: .bool false :: .slice none 0 0 :: .slice none 0 0 :: .int .i64 0 :: .slice none 0 0 :: .bool false :: .slice none 0 0 :: .slice none 0 0 :: [])), (b2, T2, [.int .i64 0, .slice none 0 0, .bool false, .slice none 0 0, .slice none 0 0])] P7 w := by rw [hP7]; exact H
    ((conv=>whnf);repeat(first|(refine mvT ?_;conv=>whnf)|(refine mvF ?_;conv=>whnf)|(refine cT (by rfl) ?_;conv=>whnf)|(refine cF (by rfl) ?_;conv=>whnf)))
    refine VD.draw mixed (.q 0 (.q 1 (.q 2 (.q 3 (.q 4 (.q 5 (.eff 6 [1] (.q 7 (.eff 8 [] (.done)))))))))) (by kernel_rfl) ?_;((conv=>whnf);repeat(first|(refine mvT ?_;conv=>whnf)|(refine mvF ?_;conv=>whnf)|(refine cT (by rfl) ?_;conv=>whnf)|(refine cF (by rfl) ?_;conv=>whnf)))
    replace H := H.e0 (ext_drew _)
    refine ldS ((Sg.at (A := []) H).cell rfl) ?_;((conv=>whnf);repeat(first|(refine mvT ?_;conv=>whnf)|(refine mvF ?_;conv=>whnf)|(refine cT (by rfl) ?_;conv=>whnf)|(refine cF (by rfl) ?_;conv=>whnf)))
    refine ⟨_, ld ((hq.e0 H.ext).cell (j := 9) rfl) (by simp), ?_⟩
    ((conv=>whnf);repeat(first|(refine mvT ?_;conv=>whnf)|(refine mvF ?_;conv=>whnf)|(refine cT (by rfl) ?_;conv=>whnf)|(refine cF (by rfl) ?_;conv=>whnf)))
    refine Does.mono (textTree_does (F := F) (hc8.ext H.ext fun _ _ _ f => f) hnl8 (by have := hLs (.mk 0 s8 nl8 [] []) (by simp); cases this; rw [maxLen_eq]; omega)) ?_
    rintro rr8 wr8 ⟨⟨cr8, rfl, hr8⟩, hxr8⟩
    obtain ⟨nv8, sv8, nm8, lv8, uv8, rfl⟩ : ∃ n sv nl lv uv, cr8 = [.int .i64 n, sv, .bool nl, lv, uv] := by cases hr8; exact ⟨_, _, _, _, _, rfl⟩
    have H := H.keepN (H.e0 hxr8) (trL [.int .i64 nv8, sv8, .bool nm8, lv8, uv8] (.mk 0 s8 nl8 [] [])) (F := fun k => _ ≤ k) hr8 fun k h => h
    refine ⟨by (conv => whnf); exact ⟨⟨_, (Sg.at (A := []) H).cell rfl, rfl, rfl⟩, trivial⟩, ?_⟩
    ((conv=>whnf);repeat(first|(refine mvT ?_;conv=>whnf)|(refine mvF ?_;conv=>whnf)|(refine cT (by rfl) ?_;conv=>whnf)|(refine cF (by rfl) ?_;conv=>whnf)))
    refine ⟨bl, 0, rfl, ⟨by omega, by omega⟩, ?_⟩
    ((conv=>whnf);repeat(first|(refine mvT ?_;conv=>whnf)|(refine mvF ?_;conv=>whnf)|(refine cT (by rfl) ?_;conv=>whnf)|(refine cF (by rfl) ?_;conv=>whnf)))
    refine Sg.st (A := [_]) (o' := 40) (m := [.int .i64 nv8, sv8, .bool nm8, lv8, uv8]) H rfl (Nat.le_of_ble_eq_true rfl) (hr8.ok) ?_
    clear H
    intro w H
    obtain ⟨P8, hP8⟩ : ∃ P : World → Prop, P = fun w => TrC w (fun k => w0.heap.size ≤ k) [.int .i64 nv8, sv8, .bool nm8, lv8, uv8] (.mk 0 s8 nl8 [] []) ∧ P7 w := ⟨_, rfl⟩
    replace H : Sg w0 [(bt, Tt, [.int .i64 0, .slice none 0 0, .bool false, .slice (some ⟨bl, 0, none⟩) 10 10, .slice none 0 0]), (bl, Tl, (.int .i64 0 :: .slice (some ⟨bb0, 0, none⟩) s0.length cb0 :: .bool false :: .slice none 0 0 :: .slice none 0 0 :: .int .i64 0 :: .slice (some ⟨bb1, 0, none⟩) s1.length cb1 :: .bool false :: .slice none 0 0 :: .slice none 0 0 :: .int .i64 n2 :: .slice none 0 0 :: .bool false :: .slice none 0 0 :: .slice none 0 0 :: .int .i64 nv3 :: sv3 :: .bool nm3 :: lv3 :: uv3 :: .int .i64 nv4 :: sv4 :: .bool nm4 :: lv4 :: uv4 :: .int .i64 n5 :: .slice none 0 0 :: .bool false :: .slice none 0 0 :: .slice none 0 0 :: .int .i64 0 :: .slice none 0 0 :: .bool nl6 :: vl6 :: .slice none 0 0 :: .int .i64 nv7 :: sv7 :: .bool nm7 :: lv7 :: uv7 :: .int .i64 nv8 :: sv8 :: .bool nm8 :: lv8 :: uv8 :: .int .i64 0 :: .slice none 0 0 :: .bool false :: .slice none 0 0 :: .slice none 0 0 :: [])), (b2, T2, [.int .i64 0, .slice none 0 0, .bool false, .slice none 0 0, .slice none 0 0])] P8 w := by rw [hP8]; exact H
    ((conv=>whnf);repeat(first|(refine mvT ?_;conv=>whnf)|(refine mvF ?_;conv=>whnf)|(refine cT (by rfl) ?_;conv=>whnf)|(refine cF (by rfl) ?_;conv=>whnf)))
    refine VD.draw mixed (.q 0 (.q 1 (.q 2 (.q 3 (.q 4 (.q 5 (.q 6 (.q 7 (.q 8 (.eff 9 [] (.done))))))))))) (by kernel_rfl) ?_;((conv=>whnf);repeat(first|(refine mvT ?_;conv=>whnf)|(refine mvF ?_;conv=>whnf)|(refine cT (by rfl) ?_;conv=>whnf)|(refine cF (by rfl) ?_;conv=>whnf)))
    replace H := H.e0 (ext_drew _)
    refine ldS ((Sg.at (A := []) H).cell rfl) ?_;((conv=>whnf);repeat(first|(refine mvT ?_;conv=>whnf)|(refine mvF ?_;conv=>whnf)|(refine cT (by rfl) ?_;conv=>whnf)|(refine cF (by rfl) ?_;conv=>whnf)))
    refine ⟨_, ld ((hq.e0 H.ext).cell (j := 10) rfl) (by simp), ?_⟩
    ((conv=>whnf);repeat(first|(refine mvT ?_;conv=>whnf)|(refine mvF ?_;conv=>whnf)|(refine cT (by rfl) ?_;conv=>whnf)|(refine cF (by rfl) ?_;conv=>whnf)))
    refine ⟨bl, 0, rfl, ⟨by omega, by omega⟩, ?_⟩
    ((conv=>whnf);repeat(first|(refine mvT ?_;conv=>whnf)|(refine mvF ?_;conv=>whnf)|(refine cT (by rfl) ?_;conv=>whnf)|(refine cF (by rfl) ?_;conv=>whnf)))
    refine Sg.st (A := [_]) (o' := 47) (m := [.bool a9.isNone]) H rfl (Nat.le_of_ble_eq_true rfl) (rfl) ?_
    clear H
    intro w H
    replace H : Sg w0 [(bt, Tt, [.int .i64 0, .slice none 0 0, .bool false, .slice (some ⟨bl, 0, none⟩) 10 10, .slice none 0 0]), (bl, Tl, (.int .i64 0 :: .slice (some ⟨bb0, 0, none⟩) s0.length cb0 :: .bool false :: .slice none 0 0 :: .slice none 0 0 :: .int .i64 0 :: .slice (some ⟨bb1, 0, none⟩) s1.length cb1 :: .bool false :: .slice none 0 0 :: .slice none 0 0 :: .int .i64 n2 :: .slice none 0 0 :: .bool false :: .slice none 0 0 :: .slice none 0 0 :: .int .i64 nv3 :: sv3 :: .bool nm3 :: lv3 :: uv3 :: .int .i64 nv4 :: sv4 :: .bool nm4 :: lv4 :: uv4 :: .int .i64 n5 :: .slice none 0 0 :: .bool false :: .slice none 0 0 :: .slice none 0 0 :: .int .i64 0 :: .slice none 0 0 :: .bool nl6 :: vl6 :: .slice none 0 0 :: .int .i64 nv7 :: sv7 :: .bool nm7 :: lv7 :: uv7 :: .int .i64 nv8 :: sv8 :: .bool nm8 :: lv8 :: uv8 :: .int .i64 0 :: .slice none 0 0 :: .bool a9.isNone :: .slice none 0 0 :: .slice none 0 0 :: [])), (b2, T2, [.int .i64 0, .slice none 0 0, .bool false, .slice none 0 0, .slice none 0 0])] P8 w := H
    ((conv=>whnf);repeat(first|(refine mvT ?_;conv=>whnf)|(refine mvF ?_;conv=>whnf)|(refine cT (by rfl) ?_;conv=>whnf)|(refine cF (by rfl) ?_;conv=>whnf)))
    refine ⟨_, ld ((hq.e0 H.ext).cell (j := 10) rfl) (by simp), ?_⟩
    ((conv=>whnf);repeat(first|(refine mvT ?_;conv=>whnf)|(refine mvF ?_;conv=>whnf)|(refine cT (by rfl) ?_;conv=>whnf)|(refine cF (by rfl) ?_;conv=>whnf)))
    have hlsT : lsT (.mk 0 [] nl9 l9 []) = l9 := by
      show (if nl9 = true then [] else l9) = l9
      split
      · rename_i e
        exact (hnl9 e).symm
      · rfl
    rw [hlsT] at hll9 hrl9
    obtain ⟨wL, hwL⟩ : ∃ wL, wL = w := ⟨_, rfl⟩
    rw [← hwL] at H ⊢
    have hLlt := H.own.lt
    have hLl : l9.length ≤ 1000000 ∧ ∀ x, x ∈ l9 → LimT x := by
      have := hLs (.mk 0 [] nl9 l9 []) (by simp)
      cases this
      exact ⟨by assumption, by assumption⟩
    have hs0L := H.ext.size
    refine VL.loop (fun i : Nat => [(149, .int .i64 ls9.length), (150, .int .i64 i), (0, .pointer (some ⟨q, o, none⟩)), (2, .pointer (some ⟨b2, 0, none⟩)), (3, .pointer (some ⟨bt, 0, none⟩))])
      (fun i w' => i ≤ ls9.length ∧ Ext (fun k => k = bl ∨ wL.heap.size ≤ k) wL w' ∧ ∃ vl ts, Own w' bl Tl (.int .i64 0 :: .slice (some ⟨bb0, 0, none⟩) s0.length cb0 :: .bool false :: .slice none 0 0 :: .slice none 0 0 :: .int .i64 0 :: .slice (some ⟨bb1, 0, none⟩) s1.length cb1 :: .bool false :: .slice none 0 0 :: .slice none 0 0 :: .int .i64 n2 :: .slice none 0 0 :: .bool false :: .slice none 0 0 :: .slice none 0 0 :: .int .i64 nv3 :: sv3 :: .bool nm3 :: lv3 :: uv3 :: .int .i64 nv4 :: sv4 :: .bool nm4 :: lv4 :: uv4 :: .int .i64 n5 :: .slice none 0 0 :: .bool false :: .slice none 0 0 :: .slice none 0 0 :: .int .i64 0 :: .slice none 0 0 :: .bool nl6 :: vl6 :: .slice none 0 0 :: .int .i64 nv7 :: sv7 :: .bool nm7 :: lv7 :: uv7 :: .int .i64 nv8 :: sv8 :: .bool nm8 :: lv8 :: uv8 :: .int .i64 0 :: .slice none 0 0 :: .bool a9.isNone :: vl :: .slice none 0 0 :: []) ∧ OLn w' wL.heap.size vl ts ∧ ts.length = i ∧ ∀ (j : Nat) (x y : T), l9[j]? = some x → ts[j]? = some y → Nrm x y) (fun i => ls9.length - i) 0
      ⟨rfl, rfl, rfl, rfl, rfl, trivial⟩ ⟨Nat.zero_le _, Ext.refl _ _, _, [], Sg.at (A := [_]) H, OLn.nil _ _, rfl, by simp⟩ ?_
    rintro i w ⟨hi, hxL, vl9, ts9, hobl, hT, htl9, hnr9⟩
    ((conv=>whnf);repeat(first|(refine mvT ?_;conv=>whnf)|(refine mvF ?_;conv=>whnf)|(refine cT (by rfl) ?_;conv=>whnf)|(refine cF (by rfl) ?_;conv=>whnf)))
    refine cI (by rfl) (fun h9=>?_) (fun h9=>?_)
    · have hil : i < ls9.length := by have := of_decide_eq_true h9; omega
      obtain ⟨be, oe, rfl, hFe, hbe, hce⟩ := hcl9 i ls9[i] (by simp [hil])
      have hqe := hrl9 i ls9[i] l9[i] (by simp [hil]) (by simp)
      have hlime := hLl.2 l9[i] (List.getElem_mem _)
      have hx0 : Ext nob w0 w := H.ext.trans hxL fun k hk h => by
        rcases h with h | h
        · omega
        · omega
      have hobt : Own w bt Tt [.int .i64 0, .slice none 0 0, .bool false, .slice (some ⟨bl, 0, none⟩) 10 10, .slice none 0 0] := (Sg.at (A := []) H).ext hxL fun h => by
        have := hLlt bt (by simp [inL])
        have h2 := (H.dis.2.1 : ¬ inL _ bt)
        rcases h with h | h
        · exact h2 (by rw [h]; simp [inL])
        · omega
      obtain ⟨av, cv, rfl⟩ := hT.one
      ((conv=>whnf);repeat(first|(refine mvT ?_;conv=>whnf)|(refine mvF ?_;conv=>whnf)|(refine cT (by rfl) ?_;conv=>whnf)|(refine cF (by rfl) ?_;conv=>whnf)))
      refine VD.draw mixed (.eff 0 [] (.alt (.eff 1 [] (.eff 2 [] (.q 3 (.done)))) (.eff 2 [] (.eff 1 [] (.q 3 (.done)))))) (by kernel_rfl) ?_;((conv=>whnf);repeat(first|(refine mvT ?_;conv=>whnf)|(refine mvF ?_;conv=>whnf)|(refine cT (by rfl) ?_;conv=>whnf)|(refine cF (by rfl) ?_;conv=>whnf)))
      intro bb wb hbb hob hxb
      have hxb : Ext nob w wb := (ext_drew w).e0 hxb
      have hbb : w.heap.size ≤ bb := hbb
      ((conv=>whnf);repeat(first|(refine mvT ?_;conv=>whnf)|(refine mvF ?_;conv=>whnf)|(refine cT (by rfl) ?_;conv=>whnf)|(refine cF (by rfl) ?_;conv=>whnf)))
      constructor
      · conv => whnf
        refine st_all [.bool true] hob rfl rfl rfl ?_
        intro wc hoc hxc
        conv => whnf
        refine st_all [.bool false] hoc rfl rfl rfl ?_
        intro wd hod hxd
        ((conv=>whnf);repeat(first|(refine mvT ?_;conv=>whnf)|(refine mvF ?_;conv=>whnf)|(refine cT (by rfl) ?_;conv=>whnf)|(refine cF (by rfl) ?_;conv=>whnf)))
        refine ldS (hod.cell rfl) ?_;((conv=>whnf);repeat(first|(refine mvT ?_;conv=>whnf)|(refine mvF ?_;conv=>whnf)|(refine cT (by rfl) ?_;conv=>whnf)|(refine cF (by rfl) ?_;conv=>whnf)))
        have hxw : Ext nob w wd := (hxb.st hxc hbb).st hxd hbb
        refine VD.draw mixed (.q 0 (.q 1 (.q 2 (.q 3 (.q 4 (.q 5 (.q 6 (.q 7 (.q 8 (.q 9 (.q 10 (.q 11 (.q 12 (.eff 13 [1, 3, 6] (.eff 14 [1, 3, 6] (.eff 15 [1] (.q 16 (.q 17 (.eff 18 [] (.done)))))))))))))))))))) (by kernel_rfl) ?_;((conv=>whnf);repeat(first|(refine mvT ?_;conv=>whnf)|(refine mvF ?_;conv=>whnf)|(refine cT (by rfl) ?_;conv=>whnf)|(refine cF (by rfl) ?_;conv=>whnf)))
        have hxw := hxw.e0 (ext_drew _)
        have hszd := hxw.size
        refine ldS ((hobt.e0 hxw).cell rfl) ?_;((conv=>whnf);repeat(first|(refine mvT ?_;conv=>whnf)|(refine mvF ?_;conv=>whnf)|(refine cT (by rfl) ?_;conv=>whnf)|(refine cF (by rfl) ?_;conv=>whnf)))
        refine ldS ((hobt.e0 hxw).cell rfl) ?_;((conv=>whnf);repeat(first|(refine mvT ?_;conv=>whnf)|(refine mvF ?_;conv=>whnf)|(refine cT (by rfl) ?_;conv=>whnf)|(refine cF (by rfl) ?_;conv=>whnf)))
        refine ⟨bl, 0, rfl, ⟨by omega, by omega⟩, ?_⟩
        ((conv=>whnf);repeat(first|(refine mvT ?_;conv=>whnf)|(refine mvF ?_;conv=>whnf)|(refine cT (by rfl) ?_;conv=>whnf)|(refine cF (by rfl) ?_;conv=>whnf)))
        refine ldS ((hobl.e0 hxw).cell rfl) ?_;((conv=>whnf);repeat(first|(refine mvT ?_;conv=>whnf)|(refine mvF ?_;conv=>whnf)|(refine cT (by rfl) ?_;conv=>whnf)|(refine cF (by rfl) ?_;conv=>whnf)))
        refine ⟨_, ld ((hq.e0 (hx0.e0 hxw)).cell (j := 10) rfl) (by simp), ?_⟩
        ((conv=>whnf);repeat(first|(refine mvT ?_;conv=>whnf)|(refine mvF ?_;conv=>whnf)|(refine cT (by rfl) ?_;conv=>whnf)|(refine cF (by rfl) ?_;conv=>whnf)))
        refine ⟨be, oe, rfl, ⟨by omega, by omega⟩, ?_⟩
        ((conv=>whnf);repeat(first|(refine mvT ?_;conv=>whnf)|(refine mvF ?_;conv=>whnf)|(refine cT (by rfl) ?_;conv=>whnf)|(refine cF (by rfl) ?_;conv=>whnf)))
        refine Does.mono (tellConsumerGroupHeartbeatRequestTopic (F := F) (hce.e0 (hx0.e0 hxw)) (QPart_later true 8 _ _ _ w0 _ F F nob hqe (hx0.e0 hxw) fun k _ hf => ⟨fun f => f, hf⟩) hlime) ?_
        rintro r wt ⟨t', hnr', ⟨cr, rfl, htr⟩, hxt⟩
        have hszt := hxw.size
        have hxw := hxw.e0 hxt
        obtain ⟨n', sv', nl', lv', uv', rfl⟩ : ∃ n sv nl lv uv, cr = [.int .i64 n, sv, .bool nl, lv, uv] := by cases htr; exact ⟨_, _, _, _, _, rfl⟩
        refine ⟨by (conv => whnf); exact ⟨⟨_, (hobt.e0 hxw).cell rfl, rfl, rfl⟩, ⟨_, (hobt.e0 hxw).cell rfl, rfl, rfl⟩, ⟨_, (hobl.e0 hxw).cell rfl, rfl, rfl⟩, trivial⟩, ?_⟩
        conv => whnf
        intro bs ws hbs hos hxs
        have hos : Own ws bs TT [.int .i64 n', sv', .bool nl', lv', uv'] := hos
        have hxw := hxw.e0 hxs
        refine ⟨by (conv => whnf); exact ⟨⟨_, (hobt.e0 hxw).cell rfl, rfl, rfl⟩, ⟨_, (hobt.e0 hxw).cell rfl, rfl, rfl⟩, ⟨_, (hobl.e0 hxw).cell rfl, rfl, rfl⟩, trivial⟩, ?_⟩
        conv => whnf
        have hsLw := hxL.size
        refine OLn.app (x := t') (hT.ext hxw fun _ _ _ f => f) rfl hos rfl rfl (by omega) (by decide) (by have := hxw.size; omega) ((htr.ext hxs fun _ _ _ f => f).mono fun k _ hk => ⟨by omega, fun e => by have := hT.own k e; omega⟩) ?_
        intro v5 w5 hT5 hx5 _
        obtain ⟨a5, c5, rfl⟩ := hT5.one
        have hown5 : ∀ k, (Value.slice av ts9.length cv).ownBlock = some k → wL.heap.size ≤ k := fun k hk => (hT.own k hk).1
        have hbt5 := (hobt.e0 hxw).ext hx5 fun h => by have := hown5 bt h; have := hLlt bt (by simp [inL]); omega
        have hbl5 := (hobl.e0 hxw).ext hx5 fun h => by have := hown5 bl h; have := hLlt bl (by simp [inL]); omega
        refine ⟨by (conv => whnf); exact ⟨⟨_, hbt5.cell rfl, rfl, rfl⟩, trivial⟩, ?_⟩
        conv => whnf
        refine ⟨bl, 0, rfl, ⟨by omega, by omega⟩, ?_⟩
        ((conv=>whnf);repeat(first|(refine mvT ?_;conv=>whnf)|(refine mvF ?_;conv=>whnf)|(refine cT (by rfl) ?_;conv=>whnf)|(refine cF (by rfl) ?_;conv=>whnf)))
        refine st_cell (o := 48) (v := .slice a5 (ts9 ++ [t']).length c5) hbl5 rfl rfl rfl (by simp) rfl ?_
        intro w6 ho6 hx6
        ((conv=>whnf);repeat(first|(refine mvT ?_;conv=>whnf)|(refine mvF ?_;conv=>whnf)|(refine cT (by rfl) ?_;conv=>whnf)|(refine cF (by rfl) ?_;conv=>whnf)))
        have hxL6 : Ext (fun k => k = bl ∨ wL.heap.size ≤ k) wL w6 := ((hxL.trans (hxw.mono (M' := nob) fun _ _ f => f) fun k hk f => f.elim).trans hx5 fun k hk h => by have := hown5 k h; omega).trans hx6 fun k hk h => .inl h
        refine ⟨i + 1, ⟨rfl, inc_eq (by omega), rfl, rfl, rfl, trivial⟩, ⟨by omega, hxL6, _, ts9 ++ [t'], ho6, hT5.ext hx6 (fun k _ h1 h2 => by have := hLlt bl (by simp [inL]); omega), by simp [htl9], ?_⟩, by omega⟩
        intro j x y hx hy
        rcases Nat.lt_or_ge j ts9.length with hj | hj
        · rw [List.getElem?_append_left hj] at hy
          exact hnr9 j x y hx hy
        · rw [List.getElem?_append_right hj] at hy
          obtain ⟨e, he⟩ : ∃ e, j - ts9.length = e := ⟨_, rfl⟩
          rw [he] at hy
          cases e with
          | zero =>
            have : j = i := by omega
            subst this
            simp only [List.getElem?_cons_zero, Option.some.injEq] at hy
            subst hy
            rw [List.getElem?_eq_getElem (by omega), Option.some.injEq] at hx
            subst hx
            exact hnr'
          | succ e => simp at hy
      · conv => whnf
        refine st_all [.bool false] hob rfl rfl rfl ?_
        intro wc hoc hxc
        conv => whnf
        refine st_all [.bool true] hoc rfl rfl rfl ?_
        intro wd hod hxd
        ((conv=>whnf);repeat(first|(refine mvT ?_;conv=>whnf)|(refine mvF ?_;conv=>whnf)|(refine cT (by rfl) ?_;conv=>whnf)|(refine cF (by rfl) ?_;conv=>whnf)))
        refine ldS (hod.cell rfl) ?_;((conv=>whnf);repeat(first|(refine mvT ?_;conv=>whnf)|(refine mvF ?_;conv=>whnf)|(refine cT (by rfl) ?_;conv=>whnf)|(refine cF (by rfl) ?_;conv=>whnf)))
        have hxw : Ext nob w wd := (hxb.st hxc hbb).st hxd hbb
        refine VD.draw mixed (.q 0 (.q 1 (.q 2 (.q 3 (.q 4 (.q 5 (.q 6 (.q 7 (.q 8 (.q 9 (.q 10 (.q 12 (.alt (.eff 11 [1, 4] (.eff 13 [1, 4, 8] (.eff 14 [] (.q 15 (.q 16 (.eff 17 [] (.done))))))) (.eff 13 [1, 4, 8] (.eff 11 [1, 4] (.eff 14 [] (.q 15 (.q 16 (.eff 17 [] (.done)))))))))))))))))))) (by kernel_rfl) ?_;((conv=>whnf);repeat(first|(refine mvT ?_;conv=>whnf)|(refine mvF ?_;conv=>whnf)|(refine cT (by rfl) ?_;conv=>whnf)|(refine cF (by rfl) ?_;conv=>whnf)))
        have hxw := hxw.e0 (ext_drew _)
        have hszd := hxw.size
        refine ldS ((hobt.e0 hxw).cell rfl) ?_;((conv=>whnf);repeat(first|(refine mvT ?_;conv=>whnf)|(refine mvF ?_;conv=>whnf)|(refine cT (by rfl) ?_;conv=>whnf)|(refine cF (by rfl) ?_;conv=>whnf)))
        refine ⟨bl, 0, rfl, ⟨by omega, by omega⟩, ?_⟩
        ((conv=>whnf);repeat(first|(refine mvT ?_;conv=>whnf)|(refine mvF ?_;conv=>whnf)|(refine cT (by rfl) ?_;conv=>whnf)|(refine cF (by rfl) ?_;conv=>whnf)))
        refine ldS ((hobl.e0 hxw).cell rfl) ?_;((conv=>whnf);repeat(first|(refine mvT ?_;conv=>whnf)|(refine mvF ?_;conv=>whnf)|(refine cT (by rfl) ?_;conv=>whnf)|(refine cF (by rfl) ?_;conv=>whnf)))
        refine ⟨_, ld ((hq.e0 (hx0.e0 hxw)).cell (j := 10) rfl) (by simp), ?_⟩
        ((conv=>whnf);repeat(first|(refine mvT ?_;conv=>whnf)|(refine mvF ?_;conv=>whnf)|(refine cT (by rfl) ?_;conv=>whnf)|(refine cF (by rfl) ?_;conv=>whnf)))
        refine ⟨be, oe, rfl, ⟨by omega, by omega⟩, ?_⟩
        ((conv=>whnf);repeat(first|(refine mvT ?_;conv=>whnf)|(refine mvF ?_;conv=>whnf)|(refine cT (by rfl) ?_;conv=>whnf)|(refine cF (by rfl) ?_;conv=>whnf)))
        constructor
        · conv => whnf
          refine Does.mono (tellConsumerGroupHeartbeatRequestTopic (F := F) (hce.e0 (hx0.e0 hxw)) (QPart_later true 8 _ _ _ w0 _ F F nob hqe (hx0.e0 hxw) fun k _ hf => ⟨fun f => f, hf⟩) hlime) ?_
          rintro r wt ⟨t', hnr', ⟨cr, rfl, htr⟩, hxt⟩
          have hszt := hxw.size
          have hxw := hxw.e0 hxt
          obtain ⟨n', sv', nl', lv', uv', rfl⟩ : ∃ n sv nl lv uv, cr = [.int .i64 n, sv, .bool nl, lv, uv] := by cases htr; exact ⟨_, _, _, _, _, rfl⟩
          refine ⟨by (conv => whnf); exact ⟨⟨_, (hobt.e0 hxw).cell rfl, rfl, rfl⟩, ⟨_, (hobl.e0 hxw).cell rfl, rfl, rfl⟩, trivial⟩, ?_⟩
          conv => whnf
          intro bs ws hbs hos hxs
          have hos : Own ws bs TT [.int .i64 0, .slice none 0 0, .bool false, .slice none 0 0, .slice none 0 0] := hos
          have hxw := hxw.e0 hxs
          refine ⟨by (conv => whnf); exact ⟨⟨_, (hobt.e0 hxw).cell rfl, rfl, rfl⟩, ⟨_, (hobl.e0 hxw).cell rfl, rfl, rfl⟩, ⟨_, (hq.e0 (hx0.e0 hxw)).cell (j := 10) rfl, rfl, rfl⟩, trivial⟩, ?_⟩
          have htrw : TrC ws (fun k => w.heap.size ≤ k ∧ k < ws.heap.size) [.int .i64 n', sv', .bool nl', lv', uv'] t' := ((htr.mono (F' := fun k => w.heap.size ≤ k ∧ k < wt.heap.size) fun k hk h => ⟨by omega, hk⟩).ext hxs fun _ _ _ f => f).mono fun k hk h => ⟨h.1, hk⟩
          conv => whnf
          refine OLn.app (x := .mk 0 [] false [] []) (hT.ext hxw fun _ _ _ f => f) rfl hos rfl rfl (by omega) (by decide) (by have := hxw.size; have := hxL.size; omega) (TrC.leaf rfl (Bytes.nil _ _)) ?_
          intro v5 w5 hT5 hx5 hbk5
          obtain ⟨a5, c5, rfl⟩ := hT5.one
          have hown5 : ∀ k, (Value.slice av ts9.length cv).ownBlock = some k → wL.heap.size ≤ k ∧ k < w.heap.size := fun k hk => hT.own k hk
          have hbl5 := (hobl.e0 hxw).ext hx5 fun h => by have := hown5 bl h; have := hLlt bl (by simp [inL]); omega
          have hblL := hLlt bl (by simp [inL])
          have hsLw := hxL.size
          have hszx := hxw.size
          ((conv=>whnf);repeat(first|(refine mvT ?_;conv=>whnf)|(refine mvF ?_;conv=>whnf)|(refine cT (by rfl) ?_;conv=>whnf)|(refine cF (by rfl) ?_;conv=>whnf)))
          refine ⟨bl, 0, rfl, ⟨by omega, by omega⟩, ?_⟩
          ((conv=>whnf);repeat(first|(refine mvT ?_;conv=>whnf)|(refine mvF ?_;conv=>whnf)|(refine cT (by rfl) ?_;conv=>whnf)|(refine cF (by rfl) ?_;conv=>whnf)))
          refine st_cell (o := 48) (v := .slice a5 (ts9 ++ [T.mk 0 [] false [] []]).length c5) hbl5 rfl rfl rfl (by simp) rfl ?_
          intro w6 ho6 hx6
          ((conv=>whnf);repeat(first|(refine mvT ?_;conv=>whnf)|(refine mvF ?_;conv=>whnf)|(refine cT (by rfl) ?_;conv=>whnf)|(refine cF (by rfl) ?_;conv=>whnf)))
          have hT6 := hT5.ext hx6 (fun k _ h1 h2 => by omega)
          obtain ⟨g, cap, hv, hput⟩ := hT6.last
          injection hv with e1 e2 e3
          subst e1
          subst e3
          have htr6 : TrC w6 (fun k => wL.heap.size ≤ k ∧ (Value.slice (some ⟨g, 0, none⟩) (ts9 ++ [T.mk 0 [] false [] []]).length c5).ownBlock ≠ some k) [.int .i64 n', sv', .bool nl', lv', uv'] t' := by
            refine ((htrw.ext hx5 fun k _ h e => by have := hown5 k e; omega).ext hx6 fun k _ h e => by omega).mono fun k _ h => ⟨by omega, fun e => ?_⟩
            rcases hbk5 with e2 | ⟨q2, e2, hle⟩
            · have := hown5 k (e2 ▸ e); omega
            · rw [e, Option.some.injEq] at e2
              omega
          refine ⟨g, 0, rfl, ⟨by omega, by simp; omega⟩, ?_⟩
          ((conv=>whnf);repeat(first|(refine mvT ?_;conv=>whnf)|(refine mvF ?_;conv=>whnf)|(refine cT (by rfl) ?_;conv=>whnf)|(refine cF (by rfl) ?_;conv=>whnf)))
          refine hput [.int .i64 n', sv', .bool nl', lv', uv'] t' _ _ _ rfl (by simp) htr6 ?_
          intro w7 hT7 hx7
          ((conv=>whnf);repeat(first|(refine mvT ?_;conv=>whnf)|(refine mvF ?_;conv=>whnf)|(refine cT (by rfl) ?_;conv=>whnf)|(refine cF (by rfl) ?_;conv=>whnf)))
          have hgL : wL.heap.size ≤ g := (hT6.own g rfl).1
          have hxL7 : Ext (fun k => k = bl ∨ wL.heap.size ≤ k) wL w7 := (((hxL.trans (hxw.mono (M' := nob) fun _ _ f => f) fun k hk f => f.elim).trans hx5 fun k hk h => by have := hown5 k h; omega).trans hx6 fun k hk h => .inl h).trans hx7 fun k hk h => by omega
          refine ⟨i + 1, ⟨rfl, inc_eq (by omega), rfl, rfl, rfl, trivial⟩, ⟨by omega, hxL7, _, ts9 ++ [t'], ho6.ext hx7 (by omega), hT7, by simp [htl9], ?_⟩, by omega⟩
          intro j x y hx hy
          rcases Nat.lt_or_ge j ts9.length with hj | hj
          · rw [List.getElem?_append_left hj] at hy
            exact hnr9 j x y hx hy
          · rw [List.getElem?_append_right hj] at hy
            obtain ⟨e, he⟩ : ∃ e, j - ts9.length = e := ⟨_, rfl⟩
            rw [he] at hy
            cases e with
            | zero =>
              have : j = i := by omega
              subst this
              simp only [List.getElem?_cons_zero, Option.some.injEq] at hy
              subst hy
              rw [List.getElem?_eq_getElem (by omega), Option.some.injEq] at hx
              subst hx
              exact hnr'
            | succ e => simp at hy
        · conv => whnf
          intro bs ws hbs hos hxs
          have hos : Own ws bs TT [.int .i64 0, .slice none 0 0, .bool false, .slice none 0 0, .slice none 0 0] := hos
          have hxw := hxw.e0 hxs
          refine ⟨by (conv => whnf); exact ⟨⟨_, (hobt.e0 hxw).cell rfl, rfl, rfl⟩, ⟨_, (hobl.e0 hxw).cell rfl, rfl, rfl⟩, ⟨_, (hq.e0 (hx0.e0 hxw)).cell (j := 10) rfl, rfl, rfl⟩, trivial⟩, ?_⟩
          conv => whnf
          refine Does.mono (tellConsumerGroupHeartbeatRequestTopic (F := F) (hce.e0 (hx0.e0 hxw)) (QPart_later true 8 _ _ _ w0 _ F F nob hqe (hx0.e0 hxw) fun k _ hf => ⟨fun f => f, hf⟩) hlime) ?_
          rintro r wt ⟨t', hnr', ⟨cr, rfl, htr⟩, hxt⟩
          have hszt := hxw.size
          have hxw := hxw.e0 hxt
          obtain ⟨n', sv', nl', lv', uv', rfl⟩ : ∃ n sv nl lv uv, cr = [.int .i64 n, sv, .bool nl, lv, uv] := by cases htr; exact ⟨_, _, _, _, _, rfl⟩
          refine ⟨by (conv => whnf); exact ⟨⟨_, (hobt.e0 hxw).cell rfl, rfl, rfl⟩, ⟨_, (hobl.e0 hxw).cell rfl, rfl, rfl⟩, trivial⟩, ?_⟩
          have hos := hos.e0 hxt
          have htrw : TrC wt (fun k => w.heap.size ≤ k ∧ k < wt.heap.size) [.int .i64 n', sv', .bool nl', lv', uv'] t' := htr.mono fun k hk h => ⟨by omega, hk⟩
          conv => whnf
          refine OLn.app (x := .mk 0 [] false [] []) (hT.ext hxw fun _ _ _ f => f) rfl hos rfl rfl (by omega) (by decide) (by have := hxw.size; have := hxL.size; omega) (TrC.leaf rfl (Bytes.nil _ _)) ?_
          intro v5 w5 hT5 hx5 hbk5
          obtain ⟨a5, c5, rfl⟩ := hT5.one
          have hown5 : ∀ k, (Value.slice av ts9.length cv).ownBlock = some k → wL.heap.size ≤ k ∧ k < w.heap.size := fun k hk => hT.own k hk
          have hbl5 := (hobl.e0 hxw).ext hx5 fun h => by have := hown5 bl h; have := hLlt bl (by simp [inL]); omega
          have hblL := hLlt bl (by simp [inL])
          have hsLw := hxL.size
          have hszx := hxw.size
          ((conv=>whnf);repeat(first|(refine mvT ?_;conv=>whnf)|(refine mvF ?_;conv=>whnf)|(refine cT (by rfl) ?_;conv=>whnf)|(refine cF (by rfl) ?_;conv=>whnf)))
          refine ⟨bl, 0, rfl, ⟨by omega, by omega⟩, ?_⟩
          ((conv=>whnf);repeat(first|(refine mvT ?_;conv=>whnf)|(refine mvF ?_;conv=>whnf)|(refine cT (by rfl) ?_;conv=>whnf)|(refine cF (by rfl) ?_;conv=>whnf)))
          refine st_cell (o := 48) (v := .slice a5 (ts9 ++ [T.mk 0 [] false [] []]).length c5) hbl5 rfl rfl rfl (by simp) rfl ?_
          intro w6 ho6 hx6
          ((conv=>whnf);repeat(first|(refine mvT ?_;conv=>whnf)|(refine mvF ?_;conv=>whnf)|(refine cT (by rfl) ?_;conv=>whnf)|(refine cF (by rfl) ?_;conv=>whnf)))
          have hT6 := hT5.ext hx6 (fun k _ h1 h2 => by omega)
          obtain ⟨g, cap, hv, hput⟩ := hT6.last
          injection hv with e1 e2 e3
          subst e1
          subst e3
          have htr6 : TrC w6 (fun k => wL.heap.size ≤ k ∧ (Value.slice (some ⟨g, 0, none⟩) (ts9 ++ [T.mk 0 [] false [] []]).length c5).ownBlock ≠ some k) [.int .i64 n', sv', .bool nl', lv', uv'] t' := by
            refine ((htrw.ext hx5 fun k _ h e => by have := hown5 k e; omega).ext hx6 fun k _ h e => by omega).mono fun k _ h => ⟨by omega, fun e => ?_⟩
            rcases hbk5 with e2 | ⟨q2, e2, hle⟩
            · have := hown5 k (e2 ▸ e); omega
            · rw [e, Option.some.injEq] at e2
              omega
          refine ⟨g, 0, rfl, ⟨by omega, by simp; omega⟩, ?_⟩
          ((conv=>whnf);repeat(first|(refine mvT ?_;conv=>whnf)|(refine mvF ?_;conv=>whnf)|(refine cT (by rfl) ?_;conv=>whnf)|(refine cF (by rfl) ?_;conv=>whnf)))
          refine hput [.int .i64 n', sv', .bool nl', lv', uv'] t' _ _ _ rfl (by simp) htr6 ?_
          intro w7 hT7 hx7
          ((conv=>whnf);repeat(first|(refine mvT ?_;conv=>whnf)|(refine mvF ?_;conv=>whnf)|(refine cT (by rfl) ?_;conv=>whnf)|(refine cF (by rfl) ?_;conv=>whnf)))
          have hgL : wL.heap.size ≤ g := (hT6.own g rfl).1
          have hxL7 : Ext (fun k => k = bl ∨ wL.heap.size ≤ k) wL w7 := (((hxL.trans (hxw.mono (M' := nob) fun _ _ f => f) fun k hk f => f.elim).trans hx5 fun k hk h => by have := hown5 k h; omega).trans hx6 fun k hk h => .inl h).trans hx7 fun k hk h => by omega
          refine ⟨i + 1, ⟨rfl, inc_eq (by omega), rfl, rfl, rfl, trivial⟩, ⟨by omega, hxL7, _, ts9 ++ [t'], ho6.ext hx7 (by omega), hT7, by simp [htl9], ?_⟩, by omega⟩
          intro j x y hx hy
          rcases Nat.lt_or_ge j ts9.length with hj | hj
          · rw [List.getElem?_append_left hj] at hy
            exact hnr9 j x y hx hy
          · rw [List.getElem?_append_right hj] at hy
            obtain ⟨e, he⟩ : ∃ e, j - ts9.length = e := ⟨_, rfl⟩
            rw [he] at hy
            cases e with
            | zero =>
              have : j = i := by omega
              subst this
              simp only [List.getElem?_cons_zero, Option.some.injEq] at hy
              subst hy
              rw [List.getElem?_eq_getElem (by omega), Option.some.injEq] at hx
              subst hx
              exact hnr'
            | succ e => simp at hy
    · have hil : i = ls9.length := by have := of_decide_eq_false h9; omega
      have H := Sg.up (A := [_]) H hobl (hxL.mono fun k hk h => by rcases h with h | h; exact h; omega)
      have htl9 : ts9.length = l9.length := by omega
      have hnl : a9.isNone = nl9 := hnn9 rfl
      rw [hnl] at H
      have H := H.add (Q := fun w => TrC w (fun k => w0.heap.size ≤ k) [.int .i64 0, .slice none 0 0, .bool nl9, vl9, .slice none 0 0] (.mk 0 [] nl9 ts9 [])) fun w3 x => (hT.ext x fun k hk h1 h2 => by
        have h3 : k < wL.heap.size := hLlt k (by rcases inL3 h2 with h | h | h <;> subst h <;> simp [inL])
        omega).row fun k hk => by omega
      obtain ⟨P9, hP9⟩ : ∃ P : World → Prop, P = fun w => TrC w (fun k => w0.heap.size ≤ k) [.int .i64 0, .slice none 0 0, .bool nl9, vl9, .slice none 0 0] (.mk 0 [] nl9 ts9 []) ∧ P8 w := ⟨_, rfl⟩
      replace H : Sg w0 [(bt, Tt, [.int .i64 0, .slice none 0 0, .bool false, .slice (some ⟨bl, 0, none⟩) 10 10, .slice none 0 0]), (bl, Tl, (.int .i64 0 :: .slice (some ⟨bb0, 0, none⟩) s0.length cb0 :: .bool false :: .slice none 0 0 :: .slice none 0 0 :: .int .i64 0 :: .slice (some ⟨bb1, 0, none⟩) s1.length cb1 :: .bool false :: .slice none 0 0 :: .slice none 0 0 :: .int .i64 n2 :: .slice none 0 0 :: .bool false :: .slice none 0 0 :: .slice none 0 0 :: .int .i64 nv3 :: sv3 :: .bool nm3 :: lv3 :: uv3 :: .int .i64 nv4 :: sv4 :: .bool nm4 :: lv4 :: uv4 :: .int .i64 n5 :: .slice none 0 0 :: .bool false :: .slice none 0 0 :: .slice none 0 0 :: .int .i64 0 :: .slice none 0 0 :: .bool nl6 :: vl6 :: .slice none 0 0 :: .int .i64 nv7 :: sv7 :: .bool nm7 :: lv7 :: uv7 :: .int .i64 nv8 :: sv8 :: .bool nm8 :: lv8 :: uv8 :: .int .i64 0 :: .slice none 0 0 :: .bool nl9 :: vl9 :: .slice none 0 0 :: [])), (b2, T2, [.int .i64 0, .slice none 0 0, .bool false, .slice none 0 0, .slice none 0 0])] P9 w := by rw [hP9]; exact H
      ((conv=>whnf);repeat(first|(refine mvT ?_;conv=>whnf)|(refine mvF ?_;conv=>whnf)|(refine cT (by rfl) ?_;conv=>whnf)|(refine cF (by rfl) ?_;conv=>whnf)))
      have hql : q < w0.heap.size := World.block_lt_of_cell? w0 _ (hq.cell (j := 0) rfl)
      have hm2 : TagsR w (fun k => F k ∧ k < w0.heap.size) m u_ := (hm.mono (F' := fun k => F k ∧ k < w0.heap.size) fun k h1 h2 => ⟨h2, h1⟩).ext H.ext fun _ _ _ f => f
      refine Does.mono (EachT tgConsumerGroupHeartbeatRequest ((hq.e0 H.ext).cell (j := 11) rfl) hm2 hd0 hu0 hs0 (Sg.at (A := []) H) (by omega) (fun k _ h e => by have := h.2; omega)) ?_
      rintro r w2 ⟨u', uv, hperm, hpw, hob, hT, hxe⟩
      have hLlt := H.own.lt
      have hw02 := H.ext.size
      have H2 := Sg.up (A := []) H hob hxe
      obtain ⟨auv, nuv, cuv, rfl⟩ := hT.one
      have H := H2.add (Q := fun w => TgsR w (fun k => w0.heap.size ≤ k) (.slice auv nuv cuv) u') fun w3 x => (hT.ext x fun k hk h1 h2 => by
        have h3 : k < w.heap.size := hLlt k (by rcases inL3 h2 with h | h | h <;> subst h <;> simp [inL])
        omega).tgs fun k hk => by omega
      clear H2
      ((conv=>whnf);repeat(first|(refine mvT ?_;conv=>whnf)|(refine mvF ?_;conv=>whnf)|(refine cT (by rfl) ?_;conv=>whnf)|(refine cF (by rfl) ?_;conv=>whnf)))
      refine ldS ((Sg.at (A := []) H).cell rfl) ?_;((conv=>whnf);repeat(first|(refine mvT ?_;conv=>whnf)|(refine mvF ?_;conv=>whnf)|(refine cT (by rfl) ?_;conv=>whnf)|(refine cF (by rfl) ?_;conv=>whnf)))
      refine Does.mono (sorted_does H.now.1 hpw (by rw [hperm.length_eq]; exact hu0)) ?_
      rintro r w3 hx3
      replace H := H.e0 hx3
      ((conv=>whnf);repeat(first|(refine mvT ?_;conv=>whnf)|(refine mvF ?_;conv=>whnf)|(refine cT (by rfl) ?_;conv=>whnf)|(refine cF (by rfl) ?_;conv=>whnf)))
      refine ⟨_, rfl, (Sg.at (A := []) H).cells, ?_⟩
      ((conv=>whnf);repeat(first|(refine mvT ?_;conv=>whnf)|(refine mvF ?_;conv=>whnf)|(refine cT (by rfl) ?_;conv=>whnf)|(refine cF (by rfl) ?_;conv=>whnf)))
      refine Sg.st (A := [_, _]) (o' := 0) (m := [.int .i64 0, .slice none 0 0, .bool false, .slice (some ⟨bl, 0, none⟩) 10 10, .slice auv nuv cuv]) H rfl (Nat.le_of_ble_eq_true rfl) rfl ?_
      clear H
      intro w H
      ((conv=>whnf);repeat(first|(refine mvT ?_;conv=>whnf)|(refine mvF ?_;conv=>whnf)|(refine cT (by rfl) ?_;conv=>whnf)|(refine cF (by rfl) ?_;conv=>whnf)))
      refine ⟨_, rfl, (Sg.at (A := [_, _]) H).cells, ?_⟩
      have hP := H.now
      rw [hP9, hP8, hP7, hP6, hP4, hP3, hP1, hP0] at hP
      have hbl := Sg.at (A := [_]) H
      refine ⟨.mk 0 [] false [.mk 0 s0 false [] [], .mk 0 s1 false [] [], numT n2, .mk 0 s3 nl3 [] [], .mk 0 s4 nl4 [] [], numT n5, .mk 0 [] nl6 ts6 [], .mk 0 s7 nl7 [] [], .mk 0 s8 nl8 [] [], .mk 0 [] nl9 ts9 []] u', ?_, ⟨_, rfl, .mk 0 [] false [.mk 0 s0 false [] [], .mk 0 s1 false [] [], numT n2, .mk 0 s3 nl3 [] [], .mk 0 s4 nl4 [] [], numT n5, .mk 0 [] nl6 ts6 [], .mk 0 s7 nl7 [] [], .mk 0 s8 nl8 [] [], .mk 0 [] nl9 ts9 []] u' _ _ _ [[.int .i64 0, .slice (some ⟨bb0, 0, none⟩) s0.length cb0, .bool false, .slice none 0 0, .slice none 0 0], [.int .i64 0, .slice (some ⟨bb1, 0, none⟩) s1.length cb1, .bool false, .slice none 0 0, .slice none 0 0], [.int .i64 n2, .slice none 0 0, .bool false, .slice none 0 0, .slice none 0 0], [.int .i64 nv3, sv3, .bool nm3, lv3, uv3], [.int .i64 nv4, sv4, .bool nm4, lv4, uv4], [.int .i64 n5, .slice none 0 0, .bool false, .slice none 0 0, .slice none 0 0], [.int .i64 0, .slice none 0 0, .bool nl6, vl6, .slice none 0 0], [.int .i64 nv7, sv7, .bool nm7, lv7, uv7], [.int .i64 nv8, sv8, .bool nm8, lv8, uv8], [.int .i64 0, .slice none 0 0, .bool nl9, vl9, .slice none 0 0]] rfl (Bytes.nil _ _) (rows_sl hbl (by simp) rfl (by rw [maxLen_eq]; decide) hblw) rfl ?_ hP.1⟩, H.ext⟩
      · refine .mk _ _ _ _ _ _ _ rfl ?_ hperm hpw
        intro i x y hx hy
        match i, hx, hy with
        | 0, hx, hy => simp only [List.getElem?_cons_succ, List.getElem?_cons_zero, Option.some.injEq] at hx hy; subst hx; subst hy; exact Nrm.leaf _ _ _
        | 1, hx, hy => simp only [List.getElem?_cons_succ, List.getElem?_cons_zero, Option.some.injEq] at hx hy; subst hx; subst hy; exact Nrm.leaf _ _ _
        | 2, hx, hy => simp only [List.getElem?_cons_succ, List.getElem?_cons_zero, Option.some.injEq] at hx hy; subst hx; subst hy; exact Nrm.leaf _ _ _
        | 3, hx, hy => simp only [List.getElem?_cons_succ, List.getElem?_cons_zero, Option.some.injEq] at hx hy; subst hx; subst hy; exact Nrm.leaf _ _ _
        | 4, hx, hy => simp only [List.getElem?_cons_succ, List.getElem?_cons_zero, Option.some.injEq] at hx hy; subst hx; subst hy; exact Nrm.leaf _ _ _
        | 5, hx, hy => simp only [List.getElem?_cons_succ, List.getElem?_cons_zero, Option.some.injEq] at hx hy; subst hx; subst hy; exact Nrm.leaf _ _ _
        | 6, hx, hy => simp only [List.getElem?_cons_succ, List.getElem?_cons_zero, Option.some.injEq] at hx hy; subst hx; subst hy; exact .mk _ _ _ _ _ _ _ htl6 hnr6 (List.Perm.refl _) List.Pairwise.nil
        | 7, hx, hy => simp only [List.getElem?_cons_succ, List.getElem?_cons_zero, Option.some.injEq] at hx hy; subst hx; subst hy; exact Nrm.leaf _ _ _
        | 8, hx, hy => simp only [List.getElem?_cons_succ, List.getElem?_cons_zero, Option.some.injEq] at hx hy; subst hx; subst hy; exact Nrm.leaf _ _ _
        | 9, hx, hy => simp only [List.getElem?_cons_succ, List.getElem?_cons_zero, Option.some.injEq] at hx hy; subst hx; subst hy; exact .mk _ _ _ _ _ _ _ htl9 hnr9 (List.Perm.refl _) List.Pairwise.nil
      · intro i x y hx hy
        match i, hx, hy with
        | 0, hx, hy => simp only [List.getElem?_cons_succ, List.getElem?_cons_zero, Option.some.injEq] at hx hy; subst hx; subst hy; exact hP.2.2.2.2.2.2.2.2.1
        | 1, hx, hy => simp only [List.getElem?_cons_succ, List.getElem?_cons_zero, Option.some.injEq] at hx hy; subst hx; subst hy; exact hP.2.2.2.2.2.2.2.1
        | 2, hx, hy => simp only [List.getElem?_cons_succ, List.getElem?_cons_zero, Option.some.injEq] at hx hy; subst hx; subst hy; exact TrC.leaf hw2 (Bytes.nil _ _)
        | 3, hx, hy => simp only [List.getElem?_cons_succ, List.getElem?_cons_zero, Option.some.injEq] at hx hy; subst hx; subst hy; exact hP.2.2.2.2.2.2.1
        | 4, hx, hy => simp only [List.getElem?_cons_succ, List.getElem?_cons_zero, Option.some.injEq] at hx hy; subst hx; subst hy; exact hP.2.2.2.2.2.1
        | 5, hx, hy => simp only [List.getElem?_cons_succ, List.getElem?_cons_zero, Option.some.injEq] at hx hy; subst hx; subst hy; exact TrC.leaf hw5 (Bytes.nil _ _)
        | 6, hx, hy => simp only [List.getElem?_cons_succ, List.getElem?_cons_zero, Option.some.injEq] at hx hy; subst hx; subst hy; exact hP.2.2.2.2.1
        | 7, hx, hy => simp only [List.getElem?_cons_succ, List.getElem?_cons_zero, Option.some.injEq] at hx hy; subst hx; subst hy; exact hP.2.2.2.1
        | 8, hx, hy => simp only [List.getElem?_cons_succ, List.getElem?_cons_zero, Option.some.injEq] at hx hy; subst hx; subst hy; exact hP.2.2.1
        | 9, hx, hy => simp only [List.getElem?_cons_succ, List.getElem?_cons_zero, Option.some.injEq] at hx hy; subst hx; subst hy; exact hP.2.1
theorem ureadConsumerGroupHeartbeatRequest {w0 : World} {F : Nat → Prop} {p : Nat} {ty : TypeId} {v : Int} {x ev : Value} {l : List UInt8} (hL : Laid w0 ev) (hp : Own w0 p ty [.int .i16 v, str [], str [], .int .i32 0, .pointer none, .pointer none, .int .i32 (-1), .slice none 0 0, .pointer none, .pointer none, .slice none 0 0, .map none]) (hx : Bytes w0 F x l) (hF : ∀ k, F k → k ≠ p) (hv : 0 ≤ v) (hp1 : p ≠ errG) :
    Does X.P 60 #[.pointer (some ⟨p, 0, none⟩), x, .bool true] w0 fun r w' => RdPost w0 p ty v (decide (v ≥ 0)) true dConsumerGroupHeartbeatRequest ev l r w' := by
  have hpl := hp.lt
  obtain ⟨fx, hfx⟩ : ∃ fx, fx = decide (v ≥ 0) := ⟨_, rfl⟩
  rw [← hfx]
  obtain ⟨G0, hG0, hx⟩ : ∃ G0 : Nat → Prop, (∀ k, G0 k → k < w0.heap.size ∧ k ≠ p) ∧ Bytes w0 G0 x l := ⟨fun k => F k ∧ k < w0.heap.size, fun k h => ⟨h.2, hF k h.1⟩, Sl.mono hx fun k hk h => ⟨h, hk⟩⟩
  obtain ⟨a0, c0, rfl, _⟩ := hx.view
  refine Does.go (X := X) (l := [_, _, _]) Tryd.func60 rfl (by kernel_rfl) (by kernel_rfl) _ rfl ?_
  ((conv=>whnf);repeat(first|(refine mvT ?_;conv=>whnf)|(refine mvF ?_;conv=>whnf)|(refine cT (by rfl) ?_;conv=>whnf)|(refine cF (by rfl) ?_;conv=>whnf)))
  refine Does.mono (dfConsumerGroupHeartbeatRequest (pre := []) (cur := [.int .i16 v, str [], str [], .int .i32 0, .pointer none, .pointer none, .int .i32 (-1), .slice none 0 0, .pointer none, .pointer none, .slice none 0 0, .map none]) (post := []) (by simpa using hp) rfl rfl) ?_
  rintro rd wd ⟨hpd, hxd⟩
  ((conv=>whnf);repeat(first|(refine mvT ?_;conv=>whnf)|(refine mvF ?_;conv=>whnf)|(refine cT (by rfl) ?_;conv=>whnf)|(refine cF (by rfl) ?_;conv=>whnf)))
  intro pb w1 hpb hb hx1
  ((conv=>whnf);repeat(first|(refine mvT ?_;conv=>whnf)|(refine mvF ?_;conv=>whnf)|(refine cT (by rfl) ?_;conv=>whnf)|(refine cF (by rfl) ?_;conv=>whnf)))
  refine st_all [.slice a0 l.length c0, .bool false] hb rfl rfl rfl ?_
  intro w hb hx2
  ((conv=>whnf);repeat(first|(refine mvT ?_;conv=>whnf)|(refine mvF ?_;conv=>whnf)|(refine cT (by rfl) ?_;conv=>whnf)|(refine cF (by rfl) ?_;conv=>whnf)))
  have hsd := hxd.size
  have hwp : w0.heap.size ≤ pb := by omega
  have he1 : Ext nob wd w := hx1.trans hx2 fun k hk h => by omega
  have hpw : Own w p ty [.int .i16 v, str [], str [], .int .i32 0, .pointer none, .pointer none, .int .i32 (-1), .slice none 0 0, .pointer none, .pointer none, .slice none 0 0, .map none] := by have := hpd.e0 he1; simpa using this
  have he := hxd.tr0 he1
  have H := St.init hpw hb (hx.ext he fun k _ h => (hG0 k h).2) hG0 he hpl hwp
  clear hpd hxd hx1 hx2 hb hpw he1 hp
  refine ldS (H.cell (o := 0) rfl (k := 0) rfl) ?_;((conv=>whnf);repeat(first|(refine mvT ?_;conv=>whnf)|(refine mvF ?_;conv=>whnf)|(refine cT (by rfl) ?_;conv=>whnf)|(refine cF (by rfl) ?_;conv=>whnf)))
  rw [← hfx]
  (refine mvB ?_;((conv=>whnf);repeat(first|(refine mvT ?_;conv=>whnf)|(refine mvF ?_;conv=>whnf)|(refine cT (by rfl) ?_;conv=>whnf)|(refine cF (by rfl) ?_;conv=>whnf))))
  have hup0 : tailBad 9 v fx dConsumerGroupHeartbeatRequest (l, false) = true → (rdPart 9 v fx dConsumerGroupHeartbeatRequest (l, false)).2.2 = true := id
  (refine mvB ?_;((conv=>whnf);repeat(first|(refine mvT ?_;conv=>whnf)|(refine mvF ?_;conv=>whnf)|(refine cT (by rfl) ?_;conv=>whnf)|(refine cF (by rfl) ?_;conv=>whnf))))
  refine VC.cutE (fun q : List UInt8 × Rd => [(11, str q.1), (0, .pointer (some ⟨p, 0, none⟩)), (2, .bool true), (7, .pointer (some ⟨pb, 0, none⟩)), (8, .int .i16 v), (9, .bool fx), (10, .pointer (some ⟨p, 0, none⟩))]) (fun q w' => rdTx fx (l, false) = q ∧ St w0 G0 p pb q.2 ((p, ty, [] ++ [.int .i16 v, str [], str [], .int .i32 0, .pointer none, .pointer none, .int .i32 (-1), .slice none 0 0, .pointer none, .pointer none, .slice none 0 0, .map none] ++ []) :: []) (fun _ => True) w') ?_ ?_
  · refine cI (by rfl) (fun hc=>?_) (fun hc=>?_)
    · ((conv=>whnf);repeat(first|(refine mvT ?_;conv=>whnf)|(refine mvF ?_;conv=>whnf)|(refine cT (by rfl) ?_;conv=>whnf)|(refine cF (by rfl) ?_;conv=>whnf)))
      refine Does.mono H.utxc ?_
      rintro r w ⟨u, s', rfl, hr, H⟩
      ((conv=>whnf);repeat(first|(refine mvT ?_;conv=>whnf)|(refine mvF ?_;conv=>whnf)|(refine cT (by rfl) ?_;conv=>whnf)|(refine cF (by rfl) ?_;conv=>whnf)))
      exact ⟨(u, s'), ⟨rfl, rfl, rfl, rfl, rfl, rfl, rfl, trivial⟩, by rw [hc]; exact hr, H⟩
    · ((conv=>whnf);repeat(first|(refine mvT ?_;conv=>whnf)|(refine mvF ?_;conv=>whnf)|(refine cT (by rfl) ?_;conv=>whnf)|(refine cF (by rfl) ?_;conv=>whnf)))
      refine Does.mono H.utxp ?_
      rintro r w ⟨u, s', rfl, hr, H⟩
      ((conv=>whnf);repeat(first|(refine mvT ?_;conv=>whnf)|(refine mvF ?_;conv=>whnf)|(refine cT (by rfl) ?_;conv=>whnf)|(refine cF (by rfl) ?_;conv=>whnf)))
      exact ⟨(u, s'), ⟨rfl, rfl, rfl, rfl, rfl, rfl, rfl, trivial⟩, by rw [hc]; exact hr, H⟩
  clear H
  rintro ⟨u1, s1⟩ w ⟨hr1, H⟩
  dsimp only at hr1 H
  ((conv=>whnf);repeat(first|(refine mvT ?_;conv=>whnf)|(refine mvF ?_;conv=>whnf)|(refine cT (by rfl) ?_;conv=>whnf)|(refine cF (by rfl) ?_;conv=>whnf)))
  refine H.st1 (v := str u1) 1 (rfl) (rfl) rfl (by simp) rfl (Nat.lt_of_lt_of_le (Nat.lt_succ_self _) (Nat.le_of_ble_eq_true rfl)) ?_
  intro w H
  ((conv=>whnf);repeat(first|(refine mvT ?_;conv=>whnf)|(refine mvF ?_;conv=>whnf)|(refine cT (by rfl) ?_;conv=>whnf)|(refine cF (by rfl) ?_;conv=>whnf)))
  replace H : St w0 G0 p pb s1 ((p, ty, [] ++ [.int .i16 v, str u1, str [], .int .i32 0, .pointer none, .pointer none, .int .i32 (-1), .slice none 0 0, .pointer none, .pointer none, .slice none 0 0, .map none] ++ []) :: []) (fun _ => True) w := H
  (refine mvB ?_;((conv=>whnf);repeat(first|(refine mvT ?_;conv=>whnf)|(refine mvF ?_;conv=>whnf)|(refine cT (by rfl) ?_;conv=>whnf)|(refine cF (by rfl) ?_;conv=>whnf))))
  refine VC.cutE (fun q : List UInt8 × Rd => [(12, str q.1), (0, .pointer (some ⟨p, 0, none⟩)), (2, .bool true), (7, .pointer (some ⟨pb, 0, none⟩)), (8, .int .i16 v), (9, .bool fx), (10, .pointer (some ⟨p, 0, none⟩))]) (fun q w' => rdTx fx s1 = q ∧ St w0 G0 p pb q.2 ((p, ty, [] ++ [.int .i16 v, str u1, str [], .int .i32 0, .pointer none, .pointer none, .int .i32 (-1), .slice none 0 0, .pointer none, .pointer none, .slice none 0 0, .map none] ++ []) :: []) (fun _ => True) w') ?_ ?_
  · refine cI (by rfl) (fun hc=>?_) (fun hc=>?_)
    · ((conv=>whnf);repeat(first|(refine mvT ?_;conv=>whnf)|(refine mvF ?_;conv=>whnf)|(refine cT (by rfl) ?_;conv=>whnf)|(refine cF (by rfl) ?_;conv=>whnf)))
      refine Does.mono H.utxc ?_
      rintro r w ⟨u, s', rfl, hr, H⟩
      ((conv=>whnf);repeat(first|(refine mvT ?_;conv=>whnf)|(refine mvF ?_;conv=>whnf)|(refine cT (by rfl) ?_;conv=>whnf)|(refine cF (by rfl) ?_;conv=>whnf)))
      exact ⟨(u, s'), ⟨rfl, rfl, rfl, rfl, rfl, rfl, rfl, trivial⟩, by rw [hc]; exact hr, H⟩
    · ((conv=>whnf);repeat(first|(refine mvT ?_;conv=>whnf)|(refine mvF ?_;conv=>whnf)|(refine cT (by rfl) ?_;conv=>whnf)|(refine cF (by rfl) ?_;conv=>whnf)))
      refine Does.mono H.utxp ?_
      rintro r w ⟨u, s', rfl, hr, H⟩
      ((conv=>whnf);repeat(first|(refine mvT ?_;conv=>whnf)|(refine mvF ?_;conv=>whnf)|(refine cT (by rfl) ?_;conv=>whnf)|(refine cF (by rfl) ?_;conv=>whnf)))
      exact ⟨(u, s'), ⟨rfl, rfl, rfl, rfl, rfl, rfl, rfl, trivial⟩, by rw [hc]; exact hr, H⟩
  clear H
  rintro ⟨u3, s3⟩ w ⟨hr3, H⟩
  dsimp only at hr3 H
  ((conv=>whnf);repeat(first|(refine mvT ?_;conv=>whnf)|(refine mvF ?_;conv=>whnf)|(refine cT (by rfl) ?_;conv=>whnf)|(refine cF (by rfl) ?_;conv=>whnf)))
  refine H.st1 (v := str u3) 2 (rfl) (rfl) rfl (by simp) rfl (Nat.lt_of_lt_of_le (Nat.lt_succ_self _) (Nat.le_of_ble_eq_true rfl)) ?_
  intro w H
  ((conv=>whnf);repeat(first|(refine mvT ?_;conv=>whnf)|(refine mvF ?_;conv=>whnf)|(refine cT (by rfl) ?_;conv=>whnf)|(refine cF (by rfl) ?_;conv=>whnf)))
  replace H : St w0 G0 p pb s3 ((p, ty, [] ++ [.int .i16 v, str u1, str u3, .int .i32 0, .pointer none, .pointer none, .int .i32 (-1), .slice none 0 0, .pointer none, .pointer none, .slice none 0 0, .map none] ++ []) :: []) (fun _ => True) w := H
  refine Does.mono H.int32 ?_
  rintro r w ⟨n5, s5, rfl, hn5, hr5, H⟩
  ((conv=>whnf);repeat(first|(refine mvT ?_;conv=>whnf)|(refine mvF ?_;conv=>whnf)|(refine cT (by rfl) ?_;conv=>whnf)|(refine cF (by rfl) ?_;conv=>whnf)))
  refine H.st1 (v := .int .i32 n5) 3 (rfl) (rfl) rfl (by simp) rfl (Nat.lt_of_lt_of_le (Nat.lt_succ_self _) (Nat.le_of_ble_eq_true rfl)) ?_
  intro w H
  ((conv=>whnf);repeat(first|(refine mvT ?_;conv=>whnf)|(refine mvF ?_;conv=>whnf)|(refine cT (by rfl) ?_;conv=>whnf)|(refine cF (by rfl) ?_;conv=>whnf)))
  replace H : St w0 G0 p pb s5 ((p, ty, [] ++ [.int .i16 v, str u1, str u3, .int .i32 n5, .pointer none, .pointer none, .int .i32 (-1), .slice none 0 0, .pointer none, .pointer none, .slice none 0 0, .map none] ++ []) :: []) (fun _ => True) w := H
  (refine mvB ?_;((conv=>whnf);repeat(first|(refine mvT ?_;conv=>whnf)|(refine mvF ?_;conv=>whnf)|(refine cT (by rfl) ?_;conv=>whnf)|(refine cF (by rfl) ?_;conv=>whnf))))
  refine VC.cutE (fun q : Value × Bool × List UInt8 × Rd => [(14, q.1), (0, .pointer (some ⟨p, 0, none⟩)), (2, .bool true), (7, .pointer (some ⟨pb, 0, none⟩)), (8, .int .i16 v), (9, .bool fx), (10, .pointer (some ⟨p, 0, none⟩))]) (fun q w' => q.1.oneCell' = true ∧ (q.2.1 = true → q.2.2.1 = []) ∧ rdNt fx s5 = (.mk 0 q.2.2.1 q.2.1 [] [], q.2.2.2) ∧ St w0 G0 p pb q.2.2.2 ((p, ty, [] ++ [.int .i16 v, str u1, str u3, .int .i32 n5, .pointer none, .pointer none, .int .i32 (-1), .slice none 0 0, .pointer none, .pointer none, .slice none 0 0, .map none] ++ []) :: []) (fun w => NTf p q.1 (.mk 0 q.2.2.1 q.2.1 [] []) w ∧ (fun _ => True) w) w') ?_ ?_
  · refine cI (by rfl) (fun hc=>?_) (fun hc=>?_)
    · ((conv=>whnf);repeat(first|(refine mvT ?_;conv=>whnf)|(refine mvF ?_;conv=>whnf)|(refine cT (by rfl) ?_;conv=>whnf)|(refine cF (by rfl) ?_;conv=>whnf)))
      refine Does.mono H.untc ?_
      rintro r w ⟨c, nl, u, s', rfl, hone, hnl, hr, H⟩
      ((conv=>whnf);repeat(first|(refine mvT ?_;conv=>whnf)|(refine mvF ?_;conv=>whnf)|(refine cT (by rfl) ?_;conv=>whnf)|(refine cF (by rfl) ?_;conv=>whnf)))
      exact ⟨(r, nl, u, s'), ⟨rfl, rfl, rfl, rfl, rfl, rfl, rfl, trivial⟩, hone, hnl, by rw [hc]; exact hr, H⟩
    · ((conv=>whnf);repeat(first|(refine mvT ?_;conv=>whnf)|(refine mvF ?_;conv=>whnf)|(refine cT (by rfl) ?_;conv=>whnf)|(refine cF (by rfl) ?_;conv=>whnf)))
      refine Does.mono H.untp ?_
      rintro r w ⟨c, nl, u, s', rfl, hone, hnl, hr, H⟩
      ((conv=>whnf);repeat(first|(refine mvT ?_;conv=>whnf)|(refine mvF ?_;conv=>whnf)|(refine cT (by rfl) ?_;conv=>whnf)|(refine cF (by rfl) ?_;conv=>whnf)))
      exact ⟨(r, nl, u, s'), ⟨rfl, rfl, rfl, rfl, rfl, rfl, rfl, trivial⟩, hone, hnl, by rw [hc]; exact hr, H⟩
  clear H
  rintro ⟨c7, nl7, u7, s7⟩ w ⟨hone7, hnl7, hr7, H⟩
  dsimp only at hone7 hnl7 hr7 H
  ((conv=>whnf);repeat(first|(refine mvT ?_;conv=>whnf)|(refine mvF ?_;conv=>whnf)|(refine cT (by rfl) ?_;conv=>whnf)|(refine cF (by rfl) ?_;conv=>whnf)))
  obtain ⟨P8, hP8⟩ : ∃ P : World → Prop, P = fun w => NTf p c7 (.mk 0 u7 nl7 [] []) w ∧ (fun _ => True) w := ⟨_, rfl⟩
  replace H : St w0 G0 p pb s7 ((p, ty, [] ++ [.int .i16 v, str u1, str u3, .int .i32 n5, .pointer none, .pointer none, .int .i32 (-1), .slice none 0 0, .pointer none, .pointer none, .slice none 0 0, .map none] ++ []) :: []) P8 w := by rw [hP8]; exact H
  refine H.st1 (v := c7) 4 (cells_one hone7) (hone7) rfl (by simp) rfl (Nat.lt_of_lt_of_le (Nat.lt_succ_self _) (Nat.le_of_ble_eq_true rfl)) ?_
  intro w H
  ((conv=>whnf);repeat(first|(refine mvT ?_;conv=>whnf)|(refine mvF ?_;conv=>whnf)|(refine cT (by rfl) ?_;conv=>whnf)|(refine cF (by rfl) ?_;conv=>whnf)))
  replace H : St w0 G0 p pb s7 ((p, ty, [] ++ [.int .i16 v, str u1, str u3, .int .i32 n5, c7, .pointer none, .int .i32 (-1), .slice none 0 0, .pointer none, .pointer none, .slice none 0 0, .map none] ++ []) :: []) P8 w := H
  (refine mvB ?_;((conv=>whnf);repeat(first|(refine mvT ?_;conv=>whnf)|(refine mvF ?_;conv=>whnf)|(refine cT (by rfl) ?_;conv=>whnf)|(refine cF (by rfl) ?_;conv=>whnf))))
  refine VC.cutE (fun q : Value × Bool × List UInt8 × Rd => [(15, q.1), (0, .pointer (some ⟨p, 0, none⟩)), (2, .bool true), (7, .pointer (some ⟨pb, 0, none⟩)), (8, .int .i16 v), (9, .bool fx), (10, .pointer (some ⟨p, 0, none⟩))]) (fun q w' => q.1.oneCell' = true ∧ (q.2.1 = true → q.2.2.1 = []) ∧ rdNt fx s7 = (.mk 0 q.2.2.1 q.2.1 [] [], q.2.2.2) ∧ St w0 G0 p pb q.2.2.2 ((p, ty, [] ++ [.int .i16 v, str u1, str u3, .int .i32 n5, c7, .pointer none, .int .i32 (-1), .slice none 0 0, .pointer none, .pointer none, .slice none 0 0, .map none] ++ []) :: []) (fun w => NTf p q.1 (.mk 0 q.2.2.1 q.2.1 [] []) w ∧ P8 w) w') ?_ ?_
  · refine cI (by rfl) (fun hc=>?_) (fun hc=>?_)
    · ((conv=>whnf);repeat(first|(refine mvT ?_;conv=>whnf)|(refine mvF ?_;conv=>whnf)|(refine cT (by rfl) ?_;conv=>whnf)|(refine cF (by rfl) ?_;conv=>whnf)))
      refine Does.mono H.untc ?_
      rintro r w ⟨c, nl, u, s', rfl, hone, hnl, hr, H⟩
      ((conv=>whnf);repeat(first|(refine mvT ?_;conv=>whnf)|(refine mvF ?_;conv=>whnf)|(refine cT (by rfl) ?_;conv=>whnf)|(refine cF (by rfl) ?_;conv=>whnf)))
      exact ⟨(r, nl, u, s'), ⟨rfl, rfl, rfl, rfl, rfl, rfl, rfl, trivial⟩, hone, hnl, by rw [hc]; exact hr, H⟩
    · ((conv=>whnf);repeat(first|(refine mvT ?_;conv=>whnf)|(refine mvF ?_;conv=>whnf)|(refine cT (by rfl) ?_;conv=>whnf)|(refine cF (by rfl) ?_;conv=>whnf)))
      refine Does.mono H.untp ?_
      rintro r w ⟨c, nl, u, s', rfl, hone, hnl, hr, H⟩
      ((conv=>whnf);repeat(first|(refine mvT ?_;conv=>whnf)|(refine mvF ?_;conv=>whnf)|(refine cT (by rfl) ?_;conv=>whnf)|(refine cF (by rfl) ?_;conv=>whnf)))
      exact ⟨(r, nl, u, s'), ⟨rfl, rfl, rfl, rfl, rfl, rfl, rfl, trivial⟩, hone, hnl, by rw [hc]; exact hr, H⟩
  clear H
  rintro ⟨c10, nl10, u10, s10⟩ w ⟨hone10, hnl10, hr10, H⟩
  dsimp only at hone10 hnl10 hr10 H
  ((conv=>whnf);repeat(first|(refine mvT ?_;conv=>whnf)|(refine mvF ?_;conv=>whnf)|(refine cT (by rfl) ?_;conv=>whnf)|(refine cF (by rfl) ?_;conv=>whnf)))
  obtain ⟨P11, hP11⟩ : ∃ P : World → Prop, P = fun w => NTf p c10 (.mk 0 u10 nl10 [] []) w ∧ P8 w := ⟨_, rfl⟩
  replace H : St w0 G0 p pb s10 ((p, ty, [] ++ [.int .i16 v, str u1, str u3, .int .i32 n5, c7, .pointer none, .int .i32 (-1), .slice none 0 0, .pointer none, .pointer none, .slice none 0 0, .map none] ++ []) :: []) P11 w := by rw [hP11]; exact H
  refine H.st1 (v := c10) 5 (cells_one hone10) (hone10) rfl (by simp) rfl (Nat.lt_of_lt_of_le (Nat.lt_succ_self _) (Nat.le_of_ble_eq_true rfl)) ?_
  intro w H
  ((conv=>whnf);repeat(first|(refine mvT ?_;conv=>whnf)|(refine mvF ?_;conv=>whnf)|(refine cT (by rfl) ?_;conv=>whnf)|(refine cF (by rfl) ?_;conv=>whnf)))
  replace H : St w0 G0 p pb s10 ((p, ty, [] ++ [.int .i16 v, str u1, str u3, .int .i32 n5, c7, c10, .int .i32 (-1), .slice none 0 0, .pointer none, .pointer none, .slice none 0 0, .map none] ++ []) :: []) P11 w := H
  refine Does.mono H.int32 ?_
  rintro r w ⟨n13, s13, rfl, hn13, hr13, H⟩
  ((conv=>whnf);repeat(first|(refine mvT ?_;conv=>whnf)|(refine mvF ?_;conv=>whnf)|(refine cT (by rfl) ?_;conv=>whnf)|(refine cF (by rfl) ?_;conv=>whnf)))
  refine H.st1 (v := .int .i32 n13) 6 (rfl) (rfl) rfl (by simp) rfl (Nat.lt_of_lt_of_le (Nat.lt_succ_self _) (Nat.le_of_ble_eq_true rfl)) ?_
  intro w H
  ((conv=>whnf);repeat(first|(refine mvT ?_;conv=>whnf)|(refine mvF ?_;conv=>whnf)|(refine cT (by rfl) ?_;conv=>whnf)|(refine cF (by rfl) ?_;conv=>whnf)))
  replace H : St w0 G0 p pb s13 ((p, ty, [] ++ [.int .i16 v, str u1, str u3, .int .i32 n5, c7, c10, .int .i32 n13, .slice none 0 0, .pointer none, .pointer none, .slice none 0 0, .map none] ++ []) :: []) P11 w := H
  refine ldS (H.cell (o := 0) rfl (k := 7) rfl) ?_;((conv=>whnf);repeat(first|(refine mvT ?_;conv=>whnf)|(refine mvF ?_;conv=>whnf)|(refine cT (by rfl) ?_;conv=>whnf)|(refine cF (by rfl) ?_;conv=>whnf)))
  (refine mvB ?_;((conv=>whnf);repeat(first|(refine mvT ?_;conv=>whnf)|(refine mvF ?_;conv=>whnf)|(refine cT (by rfl) ?_;conv=>whnf)|(refine cF (by rfl) ?_;conv=>whnf))))
  refine VC.cutE (fun q : Int × Rd => [(19, .int .i32 q.1), (18, .slice none 0 0), (0, .pointer (some ⟨p, 0, none⟩)), (2, .bool true), (7, .pointer (some ⟨pb, 0, none⟩)), (8, .int .i16 v), (9, .bool fx), (10, .pointer (some ⟨p, 0, none⟩))]) (fun q w' => (-2147483648 ≤ q.1 ∧ q.1 ≤ 2147483647) ∧ rdLn fx s13 = q ∧ St w0 G0 p pb q.2 ((p, ty, [] ++ [.int .i16 v, str u1, str u3, .int .i32 n5, c7, c10, .int .i32 n13, .slice none 0 0, .pointer none, .pointer none, .slice none 0 0, .map none] ++ []) :: []) P11 w') ?_ ?_
  · refine cI (by rfl) (fun hc=>?_) (fun hc=>?_)
    · ((conv=>whnf);repeat(first|(refine mvT ?_;conv=>whnf)|(refine mvF ?_;conv=>whnf)|(refine cT (by rfl) ?_;conv=>whnf)|(refine cF (by rfl) ?_;conv=>whnf)))
      refine Does.mono H.lnc ?_
      rintro r w ⟨n, s', rfl, hn, hr, H⟩
      ((conv=>whnf);repeat(first|(refine mvT ?_;conv=>whnf)|(refine mvF ?_;conv=>whnf)|(refine cT (by rfl) ?_;conv=>whnf)|(refine cF (by rfl) ?_;conv=>whnf)))
      exact ⟨(n, s'), ⟨rfl, rfl, rfl, rfl, rfl, rfl, rfl, rfl, trivial⟩, hn, by rw [hc]; exact hr, H⟩
    · ((conv=>whnf);repeat(first|(refine mvT ?_;conv=>whnf)|(refine mvF ?_;conv=>whnf)|(refine cT (by rfl) ?_;conv=>whnf)|(refine cF (by rfl) ?_;conv=>whnf)))
      refine Does.mono H.lnp ?_
      rintro r w ⟨n, s', rfl, hn, hr, H⟩
      ((conv=>whnf);repeat(first|(refine mvT ?_;conv=>whnf)|(refine mvF ?_;conv=>whnf)|(refine cT (by rfl) ?_;conv=>whnf)|(refine cF (by rfl) ?_;conv=>whnf)))
      exact ⟨(n, s'), ⟨rfl, rfl, rfl, rfl, rfl, rfl, rfl, rfl, trivial⟩, hn, by rw [hc]; exact hr, H⟩
  clear H
  rintro ⟨n15, s15⟩ w ⟨hn15, hln15, H⟩
  dsimp only at hn15 hln15 H
  ((conv=>whnf);repeat(first|(refine mvT ?_;conv=>whnf)|(refine mvF ?_;conv=>whnf)|(refine cT (by rfl) ?_;conv=>whnf)|(refine cF (by rfl) ?_;conv=>whnf)))
  intro cq hcq
  obtain rfl : cq = false := by rw [← hcq]; exact decide_eq_false (by omega)
  ((conv=>whnf);repeat(first|(refine mvT ?_;conv=>whnf)|(refine mvF ?_;conv=>whnf)|(refine cT (by rfl) ?_;conv=>whnf)|(refine cF (by rfl) ?_;conv=>whnf)))
  refine VC.cutE (fun a : Option Addr => [(19, .int .i32 n15), (18, .slice a 0 0), (0, .pointer (some ⟨p, 0, none⟩)), (2, .bool true), (7, .pointer (some ⟨pb, 0, none⟩)), (8, .int .i16 v), (9, .bool fx), (10, .pointer (some ⟨p, 0, none⟩))]) (fun a w' => StE w0 G0 p pb s15 9 ((p, ty, [] ++ [.int .i16 v, str u1, str u3, .int .i32 n5, c7, c10, .int .i32 n13, .slice none 0 0, .pointer none, .pointer none, .slice none 0 0, .map none] ++ []) :: []) P11 (v < 0 ∨ n15 = 0) a w') ?_ ?_
  · refine cI (by rfl) (fun hz=>?_) (fun hz=>?_)
    · have hz : n15 = 0 := by simpa using hz
      ((conv=>whnf);repeat(first|(refine mvT ?_;conv=>whnf)|(refine mvF ?_;conv=>whnf)|(refine cT (by rfl) ?_;conv=>whnf)|(refine cF (by rfl) ?_;conv=>whnf)))
      intro be we hbe hoe hxe
      ((conv=>whnf);repeat(first|(refine mvT ?_;conv=>whnf)|(refine mvF ?_;conv=>whnf)|(refine cT (by rfl) ?_;conv=>whnf)|(refine cF (by rfl) ?_;conv=>whnf)))
      exact ⟨_, ⟨rfl, rfl, rfl, rfl, rfl, rfl, rfl, rfl, trivial⟩, .inr ⟨.inr hz, be, rfl, H.push hxe hoe hbe⟩⟩
    · have hz : ¬ n15 = 0 := by simpa using hz
      ((conv=>whnf);repeat(first|(refine mvT ?_;conv=>whnf)|(refine mvF ?_;conv=>whnf)|(refine cT (by rfl) ?_;conv=>whnf)|(refine cF (by rfl) ?_;conv=>whnf)))
      exact ⟨_, ⟨rfl, rfl, rfl, rfl, rfl, rfl, rfl, rfl, trivial⟩, .inl ⟨by omega, rfl, H⟩⟩
  clear H
  rintro ae15 w H
  ((conv=>whnf);repeat(first|(refine mvT ?_;conv=>whnf)|(refine mvF ?_;conv=>whnf)|(refine cT (by rfl) ?_;conv=>whnf)|(refine cF (by rfl) ?_;conv=>whnf)))
  refine Does.mono H.ok ?_
  rintro r w ⟨rfl, H⟩
  ((conv=>whnf);repeat(first|(refine mvT ?_;conv=>whnf)|(refine mvF ?_;conv=>whnf)|(refine cT (by rfl) ?_;conv=>whnf)|(refine cF (by rfl) ?_;conv=>whnf)))
  refine cI (by rfl) (fun hbd=>?_) (fun hbd=>?_)
  · have hbd : s15.2 = true := by simpa using hbd
    ((conv=>whnf);repeat(first|(refine mvT ?_;conv=>whnf)|(refine mvF ?_;conv=>whnf)|(refine cT (by rfl) ?_;conv=>whnf)|(refine cF (by rfl) ?_;conv=>whnf)))
    refine Does.mono (H.done hL hp1) ?_
    rintro r w ⟨rfl, H⟩
    ((conv=>whnf);repeat(first|(refine mvT ?_;conv=>whnf)|(refine mvF ?_;conv=>whnf)|(refine cT (by rfl) ?_;conv=>whnf)|(refine cF (by rfl) ?_;conv=>whnf)))
    obtain ⟨_, H⟩ := H
    refine RdPost.early hbd (hup0 (?_)) H
    rw [tail_yes (rdField8 (by decide) hr1) ⟨by decide, has_all hv⟩, tail_yes (rdField8 (by decide) hr3) ⟨by decide, has_all hv⟩, tail_yes (rdField3.trans hr5) ⟨by decide, has_all hv⟩, tail_yes ((rdField8n (by decide)).trans hr7) ⟨by decide, has_all hv⟩, tail_yes ((rdField8n (by decide)).trans hr10) ⟨by decide, has_all hv⟩, tail_yes (rdField3.trans hr13) ⟨by decide, has_all hv⟩, tail_len ⟨by decide, has_all hv⟩ hln15 hbd]
  have hbd : s15.2 = false := by simpa using hbd
  clear hbd
  ((conv=>whnf);repeat(first|(refine mvT ?_;conv=>whnf)|(refine mvF ?_;conv=>whnf)|(refine cT (by rfl) ?_;conv=>whnf)|(refine cF (by rfl) ?_;conv=>whnf)))
  refine cut_zero ?_
  ((conv=>whnf);repeat(first|(refine mvT ?_;conv=>whnf)|(refine mvF ?_;conv=>whnf)|(refine cT (by rfl) ?_;conv=>whnf)|(refine cF (by rfl) ?_;conv=>whnf)))
  refine VC.cutE (fun a : Value => [(19, .int .i32 n15), (18, a), (0, .pointer (some ⟨p, 0, none⟩)), (2, .bool true), (7, .pointer (some ⟨pb, 0, none⟩)), (8, .int .i16 v), (9, .bool fx), (10, .pointer (some ⟨p, 0, none⟩))]) (fun a w' => ListI w0 G0 p pb 9 [str []] (elR 8 v fx 8 []) (elQ true 8 8 []) s15 n15 ((decide (n15 < 0) && decide (0 ≤ v))) ((p, ty, [] ++ [.int .i16 v, str u1, str u3, .int .i32 n5, c7, c10, .int .i32 n13, .slice none 0 0, .pointer none, .pointer none, .slice none 0 0, .map none] ++ []) :: []) P11 a 0 w') ?_ ?_
  · refine cI (by rfl) (fun hps=>?_) (fun hps=>?_)
    · have hps : 0 < n15 := by have := of_decide_eq_true hps; omega
      ((conv=>whnf);repeat(first|(refine mvT ?_;conv=>whnf)|(refine mvF ?_;conv=>whnf)|(refine cT (by rfl) ?_;conv=>whnf)|(refine cF (by rfl) ?_;conv=>whnf)))
      refine H.grow hps hn15.2 (by decide) rfl rfl (by decide) ?_
      intro g cap post w hc1 hc2 H
      ((conv=>whnf);repeat(first|(refine mvT ?_;conv=>whnf)|(refine mvF ?_;conv=>whnf)|(refine cT (by rfl) ?_;conv=>whnf)|(refine cF (by rfl) ?_;conv=>whnf)))
      exact ⟨_, ⟨rfl, rfl, rfl, rfl, rfl, rfl, rfl, rfl, trivial⟩, ListI.some hps (by simp; omega) hc1 hc2 H⟩
    · have hps : n15 ≤ 0 := by have := of_decide_eq_false hps; omega
      ((conv=>whnf);repeat(first|(refine mvT ?_;conv=>whnf)|(refine mvF ?_;conv=>whnf)|(refine cT (by rfl) ?_;conv=>whnf)|(refine cF (by rfl) ?_;conv=>whnf)))
      exact ⟨_, ⟨rfl, rfl, rfl, rfl, rfl, rfl, rfl, rfl, trivial⟩, H.none hps (fun h => by rcases h with h | h <;> (simp; omega)) (fun h => by simp; omega)⟩
  clear H
  rintro a15 w H
  ((conv=>whnf);repeat(first|(refine mvT ?_;conv=>whnf)|(refine mvF ?_;conv=>whnf)|(refine cT (by rfl) ?_;conv=>whnf)|(refine cF (by rfl) ?_;conv=>whnf)))
  have hpL15 : inL ((p, ty, [] ++ [.int .i16 v, str u1, str u3, .int .i32 n5, c7, c10, .int .i32 n13, .slice none 0 0, .pointer none, .pointer none, .slice none 0 0, .map none] ++ []) :: []) p := inL.head _ _
  refine VL.loop (fun i : Nat => [(19, .int .i32 n15), (18, a15), (20, .int .i32 i), (0, .pointer (some ⟨p, 0, none⟩)), (2, .bool true), (7, .pointer (some ⟨pb, 0, none⟩)), (8, .int .i16 v), (9, .bool fx), (10, .pointer (some ⟨p, 0, none⟩))]) (fun i w' => i ≤ 2147483647 ∧ ListI w0 G0 p pb 9 [str []] (elR 8 v fx 8 []) (elQ true 8 8 []) s15 n15 ((decide (n15 < 0) && decide (0 ≤ v))) ((p, ty, [] ++ [.int .i16 v, str u1, str u3, .int .i32 n5, c7, c10, .int .i32 n13, .slice none 0 0, .pointer none, .pointer none, .slice none 0 0, .map none] ++ []) :: []) P11 a15 i w') (fun i => n15.toNat - i) 0 ⟨rfl, rfl, rfl, rfl, rfl, rfl, rfl, rfl, rfl, trivial⟩ ⟨by decide, H⟩ ?_
  clear H
  rintro i15 w ⟨hi15, H⟩
  ((conv=>whnf);repeat(first|(refine mvT ?_;conv=>whnf)|(refine mvF ?_;conv=>whnf)|(refine cT (by rfl) ?_;conv=>whnf)|(refine cF (by rfl) ?_;conv=>whnf)))
  refine cI (by rfl) (fun h9=>?_) (fun h9=>?_)
  · have hlt15 : (i15 : Int) < n15 := of_decide_eq_true h9
    obtain ⟨g15, cap15, post15, rfl, hgo15, HI⟩ := H.go hlt15
    obtain ⟨es15, ts15, si15, hes15, hez15, hrn15, hts15, hlen1, H⟩ := HI.open hgo15.2.2.2.2
    obtain ⟨L15, hL15⟩ : ∃ L : List Ob, L = ((p, ty, [] ++ [.int .i16 v, str u1, str u3, .int .i32 n5, c7, c10, .int .i32 n13, .slice none 0 0, .pointer none, .pointer none, .slice none 0 0, .map none] ++ []) :: []) := ⟨_, rfl⟩
    rw [← hL15] at H hpL15
    obtain ⟨P15, hP15⟩ : ∃ P : World → Prop, P = fun w => (∀ (j : Nat) (c : List Value) (y : T), es15[j]? = some c → ts15[j]? = some y → elQ true 8 8 [] ⟨w, fun k => k ≠ p⟩ c y) ∧ P11 w := ⟨_, rfl⟩
    rw [← hP15] at H
    replace H : St w0 G0 p pb si15 ((g15, 9, es15.flatten ++ [str []] ++ ((List.replicate (n15.toNat - (i15 + 1)) [str []]).flatten ++ post15)) :: L15) P15 w := H
    ((conv=>whnf);repeat(first|(refine mvT ?_;conv=>whnf)|(refine mvF ?_;conv=>whnf)|(refine cT (by rfl) ?_;conv=>whnf)|(refine cF (by rfl) ?_;conv=>whnf)))
    (refine mvB ?_;((conv=>whnf);repeat(first|(refine mvT ?_;conv=>whnf)|(refine mvF ?_;conv=>whnf)|(refine cT (by rfl) ?_;conv=>whnf)|(refine cF (by rfl) ?_;conv=>whnf))))
    refine VC.cutE (fun q : List UInt8 × Rd => [(21, str q.1), (0, .pointer (some ⟨p, 0, none⟩)), (2, .bool true), (7, .pointer (some ⟨pb, 0, none⟩)), (8, .int .i16 v), (9, .bool fx), (10, .pointer (some ⟨p, 0, none⟩)), (19, .int .i32 n15), (18, .slice (some ⟨g15, 0, none⟩) n15.toNat cap15), (20, .int .i32 i15)]) (fun q w' => rdTx fx si15 = q ∧ St w0 G0 p pb q.2 ((g15, 9, es15.flatten ++ [str []] ++ ((List.replicate (n15.toNat - (i15 + 1)) [str []]).flatten ++ post15)) :: L15) P15 w') ?_ ?_
    · refine cI (by rfl) (fun hc=>?_) (fun hc=>?_)
      · ((conv=>whnf);repeat(first|(refine mvT ?_;conv=>whnf)|(refine mvF ?_;conv=>whnf)|(refine cT (by rfl) ?_;conv=>whnf)|(refine cF (by rfl) ?_;conv=>whnf)))
        refine Does.mono H.utxc ?_
        rintro r w ⟨u, s', rfl, hr, H⟩
        ((conv=>whnf);repeat(first|(refine mvT ?_;conv=>whnf)|(refine mvF ?_;conv=>whnf)|(refine cT (by rfl) ?_;conv=>whnf)|(refine cF (by rfl) ?_;conv=>whnf)))
        exact ⟨(u, s'), ⟨rfl, rfl, rfl, rfl, rfl, rfl, rfl, rfl, rfl, rfl, trivial⟩, by rw [hc]; exact hr, H⟩
      · ((conv=>whnf);repeat(first|(refine mvT ?_;conv=>whnf)|(refine mvF ?_;conv=>whnf)|(refine cT (by rfl) ?_;conv=>whnf)|(refine cF (by rfl) ?_;conv=>whnf)))
        refine Does.mono H.utxp ?_
        rintro r w ⟨u, s', rfl, hr, H⟩
        ((conv=>whnf);repeat(first|(refine mvT ?_;conv=>whnf)|(refine mvF ?_;conv=>whnf)|(refine cT (by rfl) ?_;conv=>whnf)|(refine cF (by rfl) ?_;conv=>whnf)))
        exact ⟨(u, s'), ⟨rfl, rfl, rfl, rfl, rfl, rfl, rfl, rfl, rfl, rfl, trivial⟩, by rw [hc]; exact hr, H⟩
    clear H
    rintro ⟨u16, s16⟩ w ⟨hr16, H⟩
    dsimp only at hr16 H
    ((conv=>whnf);repeat(first|(refine mvT ?_;conv=>whnf)|(refine mvF ?_;conv=>whnf)|(refine cT (by rfl) ?_;conv=>whnf)|(refine cF (by rfl) ?_;conv=>whnf)))
    refine ⟨g15, 0, rfl, ⟨by omega, by omega⟩, ?_⟩
    ((conv=>whnf);repeat(first|(refine mvT ?_;conv=>whnf)|(refine mvF ?_;conv=>whnf)|(refine cT (by rfl) ?_;conv=>whnf)|(refine cF (by rfl) ?_;conv=>whnf)))
    refine H.st1 (v := str u16) 0 (rfl) (rfl) rfl (by first | omega | (simp [hlen1]; done) | (simp [hlen1]; omega)) rfl (Nat.lt_of_lt_of_le (Nat.lt_succ_self _) (Nat.le_of_ble_eq_true rfl)) ?_
    intro w H
    ((conv=>whnf);repeat(first|(refine mvT ?_;conv=>whnf)|(refine mvF ?_;conv=>whnf)|(refine cT (by rfl) ?_;conv=>whnf)|(refine cF (by rfl) ?_;conv=>whnf)))
    replace H : St w0 G0 p pb s16 ((g15, 9, es15.flatten ++ [str u16] ++ ((List.replicate (n15.toNat - (i15 + 1)) [str []]).flatten ++ post15)) :: L15) P15 w := H
    refine ⟨i15 + 1, ⟨rfl, rfl, ?_, rfl, rfl, rfl, rfl, rfl, rfl, trivial⟩, ⟨by omega, ListI.back hgo15 (LoopI.next hes15 hez15 hrn15 hts15 (cur := [str u16]) (x := .mk 0 u16 false [] []) (elR8 hr16) rfl (by rw [← hL15]; exact H) fun w hP => ?_)⟩, by omega⟩
    · show some (Value.int .i32 _) = _
      rw [IntKind.wrap_i32]
      simp only [Option.some.injEq, Value.int.injEq, true_and]
      omega
    · skip
      rw [hP15] at hP
      exact ⟨⟨_, rfl, rfl⟩, hP⟩
  have hge15 : ¬ (i15 : Int) < n15 := of_decide_eq_false h9
  obtain ⟨l17, s17, hone17, hl17, hr17, H⟩ := H.done hge15 hln15 (nl := nlF (.mk 11 0 (-1) 0 (-1) 0 8 []) v) (sz := elZ true 8 8 []) rfl hpL15 rfl
  ((conv=>whnf);repeat(first|(refine mvT ?_;conv=>whnf)|(refine mvF ?_;conv=>whnf)|(refine cT (by rfl) ?_;conv=>whnf)|(refine cF (by rfl) ?_;conv=>whnf)))
  obtain ⟨P18, hP18⟩ : ∃ P : World → Prop, P = fun w => ListR true (elZ true 8 8 []) (elQ true 8 8 [] ⟨w, fun k => k ≠ p⟩) w (fun k => k ≠ p) a15 (.mk 0 [] ((decide (n15 < 0) && decide (0 ≤ v))) l17 []) ∧ P11 w := ⟨_, rfl⟩
  replace H : St w0 G0 p pb s17 ((p, ty, [] ++ [.int .i16 v, str u1, str u3, .int .i32 n5, c7, c10, .int .i32 n13, .slice none 0 0, .pointer none, .pointer none, .slice none 0 0, .map none] ++ []) :: []) P18 w := by rw [hP18]; exact H
  refine H.st1 (v := a15) 7 (cells_one hone17) (hone17) rfl (by simp) rfl (Nat.lt_of_lt_of_le (Nat.lt_succ_self _) (Nat.le_of_ble_eq_true rfl)) ?_
  intro w H
  ((conv=>whnf);repeat(first|(refine mvT ?_;conv=>whnf)|(refine mvF ?_;conv=>whnf)|(refine cT (by rfl) ?_;conv=>whnf)|(refine cF (by rfl) ?_;conv=>whnf)))
  replace H : St w0 G0 p pb s17 ((p, ty, [] ++ [.int .i16 v, str u1, str u3, .int .i32 n5, c7, c10, .int .i32 n13, a15, .pointer none, .pointer none, .slice none 0 0, .map none] ++ []) :: []) P18 w := H
  refine VC.cutE (fun q : Value × Bool × List UInt8 × Rd => [(0, .pointer (some ⟨p, 0, none⟩)), (2, .bool true), (7, .pointer (some ⟨pb, 0, none⟩)), (8, .int .i16 v), (9, .bool fx), (10, .pointer (some ⟨p, 0, none⟩))]) (fun q w' => (q.2.1 = true → q.2.2.1 = []) ∧ (if hasF (.mk 8 1 (-1) 1 (-1) 0 0 []) v = true then rdField 9 v fx (.mk 8 1 (-1) 1 (-1) 0 0 []) s17 else (dfT 9 (.mk 8 1 (-1) 1 (-1) 0 0 []), s17)) = (.mk 0 q.2.2.1 q.2.1 [] [], q.2.2.2) ∧ St w0 G0 p pb q.2.2.2 ((p, ty, [] ++ [.int .i16 v, str u1, str u3, .int .i32 n5, c7, c10, .int .i32 n13, a15, q.1, .pointer none, .slice none 0 0, .map none] ++ []) :: []) (fun w => NTf p q.1 (.mk 0 q.2.2.1 q.2.1 [] []) w ∧ P18 w) w') ?_ ?_
  · refine cI (by rfl) (fun hcv=>?_) (fun hcv=>?_)
    · ((conv=>whnf);repeat(first|(refine mvT ?_;conv=>whnf)|(refine mvF ?_;conv=>whnf)|(refine cT (by rfl) ?_;conv=>whnf)|(refine cF (by rfl) ?_;conv=>whnf)))
      (refine mvB ?_;((conv=>whnf);repeat(first|(refine mvT ?_;conv=>whnf)|(refine mvF ?_;conv=>whnf)|(refine cT (by rfl) ?_;conv=>whnf)|(refine cF (by rfl) ?_;conv=>whnf))))
      refine VC.cutE (fun q : Value × Bool × List UInt8 × Rd => [(22, q.1), (0, .pointer (some ⟨p, 0, none⟩)), (2, .bool true), (7, .pointer (some ⟨pb, 0, none⟩)), (8, .int .i16 v), (9, .bool fx), (10, .pointer (some ⟨p, 0, none⟩))]) (fun q w' => q.1.oneCell' = true ∧ (q.2.1 = true → q.2.2.1 = []) ∧ rdNt fx s17 = (.mk 0 q.2.2.1 q.2.1 [] [], q.2.2.2) ∧ St w0 G0 p pb q.2.2.2 ((p, ty, [] ++ [.int .i16 v, str u1, str u3, .int .i32 n5, c7, c10, .int .i32 n13, a15, .pointer none, .pointer none, .slice none 0 0, .map none] ++ []) :: []) (fun w => NTf p q.1 (.mk 0 q.2.2.1 q.2.1 [] []) w ∧ P18 w) w') ?_ ?_
      · refine cI (by rfl) (fun hc=>?_) (fun hc=>?_)
        · ((conv=>whnf);repeat(first|(refine mvT ?_;conv=>whnf)|(refine mvF ?_;conv=>whnf)|(refine cT (by rfl) ?_;conv=>whnf)|(refine cF (by rfl) ?_;conv=>whnf)))
          refine Does.mono H.untc ?_
          rintro r w ⟨c, nl, u, s', rfl, hone, hnl, hr, H⟩
          ((conv=>whnf);repeat(first|(refine mvT ?_;conv=>whnf)|(refine mvF ?_;conv=>whnf)|(refine cT (by rfl) ?_;conv=>whnf)|(refine cF (by rfl) ?_;conv=>whnf)))
          exact ⟨(r, nl, u, s'), ⟨rfl, rfl, rfl, rfl, rfl, rfl, rfl, trivial⟩, hone, hnl, by rw [hc]; exact hr, H⟩
        · ((conv=>whnf);repeat(first|(refine mvT ?_;conv=>whnf)|(refine mvF ?_;conv=>whnf)|(refine cT (by rfl) ?_;conv=>whnf)|(refine cF (by rfl) ?_;conv=>whnf)))
          refine Does.mono H.untp ?_
          rintro r w ⟨c, nl, u, s', rfl, hone, hnl, hr, H⟩
          ((conv=>whnf);repeat(first|(refine mvT ?_;conv=>whnf)|(refine mvF ?_;conv=>whnf)|(refine cT (by rfl) ?_;conv=>whnf)|(refine cF (by rfl) ?_;conv=>whnf)))
          exact ⟨(r, nl, u, s'), ⟨rfl, rfl, rfl, rfl, rfl, rfl, rfl, trivial⟩, hone, hnl, by rw [hc]; exact hr, H⟩
      clear H
      rintro ⟨c21, nl21, u21, s21⟩ w ⟨hone21, hnl21, hr21, H⟩
      dsimp only at hone21 hnl21 hr21 H
      ((conv=>whnf);repeat(first|(refine mvT ?_;conv=>whnf)|(refine mvF ?_;conv=>whnf)|(refine cT (by rfl) ?_;conv=>whnf)|(refine cF (by rfl) ?_;conv=>whnf)))
      obtain ⟨P22, hP22⟩ : ∃ P : World → Prop, P = fun w => NTf p c21 (.mk 0 u21 nl21 [] []) w ∧ P18 w := ⟨_, rfl⟩
      replace H : St w0 G0 p pb s21 ((p, ty, [] ++ [.int .i16 v, str u1, str u3, .int .i32 n5, c7, c10, .int .i32 n13, a15, .pointer none, .pointer none, .slice none 0 0, .map none] ++ []) :: []) P22 w := by rw [hP22]; exact H
      refine H.st1 (v := c21) 8 (cells_one hone21) (hone21) rfl (by simp) rfl (Nat.lt_of_lt_of_le (Nat.lt_succ_self _) (Nat.le_of_ble_eq_true rfl)) ?_
      intro w H
      ((conv=>whnf);repeat(first|(refine mvT ?_;conv=>whnf)|(refine mvF ?_;conv=>whnf)|(refine cT (by rfl) ?_;conv=>whnf)|(refine cF (by rfl) ?_;conv=>whnf)))
      replace H : St w0 G0 p pb s21 ((p, ty, [] ++ [.int .i16 v, str u1, str u3, .int .i32 n5, c7, c10, .int .i32 n13, a15, c21, .pointer none, .slice none 0 0, .map none] ++ []) :: []) P22 w := H
      have hh : hasF (.mk 8 1 (-1) 1 (-1) 0 0 []) v = true := by have := of_decide_eq_true hcv; rw [hasF_iff]; omega
      exact ⟨(c21, nl21, u21, s21), ⟨rfl, rfl, rfl, rfl, rfl, rfl, trivial⟩, hnl21, by rw [if_pos hh]; exact ((rdField8n (by decide)).trans hr21), by rw [hP22] at H; exact H⟩
    · ((conv=>whnf);repeat(first|(refine mvT ?_;conv=>whnf)|(refine mvF ?_;conv=>whnf)|(refine cT (by rfl) ?_;conv=>whnf)|(refine cF (by rfl) ?_;conv=>whnf)))
      have hh : ¬ hasF (.mk 8 1 (-1) 1 (-1) 0 0 []) v = true := by have := of_decide_eq_false hcv; rw [hasF_iff]; omega
      exact ⟨(.pointer none, true, [], s17), ⟨rfl, rfl, rfl, rfl, rfl, rfl, trivial⟩, fun _ => rfl, by rw [if_neg hh]; rfl, H.add fun w' _ => .inl ⟨rfl, rfl⟩⟩
  clear H
  rintro ⟨c20, nl20, u20, s20⟩ w ⟨hnl20, hr20, H⟩
  dsimp only at hnl20 hr20 H
  ((conv=>whnf);repeat(first|(refine mvT ?_;conv=>whnf)|(refine mvF ?_;conv=>whnf)|(refine cT (by rfl) ?_;conv=>whnf)|(refine cF (by rfl) ?_;conv=>whnf)))
  obtain ⟨P24, hP24⟩ : ∃ P : World → Prop, P = fun w => NTf p c20 (.mk 0 u20 nl20 [] []) w ∧ P18 w := ⟨_, rfl⟩
  replace H : St w0 G0 p pb s20 ((p, ty, [] ++ [.int .i16 v, str u1, str u3, .int .i32 n5, c7, c10, .int .i32 n13, a15, c20, .pointer none, .slice none 0 0, .map none] ++ []) :: []) P24 w := by rw [hP24]; exact H
  (refine mvB ?_;((conv=>whnf);repeat(first|(refine mvT ?_;conv=>whnf)|(refine mvF ?_;conv=>whnf)|(refine cT (by rfl) ?_;conv=>whnf)|(refine cF (by rfl) ?_;conv=>whnf))))
  refine VC.cutE (fun q : Value × Bool × List UInt8 × Rd => [(23, q.1), (0, .pointer (some ⟨p, 0, none⟩)), (2, .bool true), (7, .pointer (some ⟨pb, 0, none⟩)), (8, .int .i16 v), (9, .bool fx), (10, .pointer (some ⟨p, 0, none⟩))]) (fun q w' => q.1.oneCell' = true ∧ (q.2.1 = true → q.2.2.1 = []) ∧ rdNt fx s20 = (.mk 0 q.2.2.1 q.2.1 [] [], q.2.2.2) ∧ St w0 G0 p pb q.2.2.2 ((p, ty, [] ++ [.int .i16 v, str u1, str u3, .int .i32 n5, c7, c10, .int .i32 n13, a15, c20, .pointer none, .slice none 0 0, .map none] ++ []) :: []) (fun w => NTf p q.1 (.mk 0 q.2.2.1 q.2.1 [] []) w ∧ P24 w) w') ?_ ?_
  · refine cI (by rfl) (fun hc=>?_) (fun hc=>?_)
    · ((conv=>whnf);repeat(first|(refine mvT ?_;conv=>whnf)|(refine mvF ?_;conv=>whnf)|(refine cT (by rfl) ?_;conv=>whnf)|(refine cF (by rfl) ?_;conv=>whnf)))
      refine Does.mono H.untc ?_
      rintro r w ⟨c, nl, u, s', rfl, hone, hnl, hr, H⟩
      ((conv=>whnf);repeat(first|(refine mvT ?_;conv=>whnf)|(refine mvF ?_;conv=>whnf)|(refine cT (by rfl) ?_;conv=>whnf)|(refine cF (by rfl) ?_;conv=>whnf)))
      exact ⟨(r, nl, u, s'), ⟨rfl, rfl, rfl, rfl, rfl, rfl, rfl, trivial⟩, hone, hnl, by rw [hc]; exact hr, H⟩
    · ((conv=>whnf);repeat(first|(refine mvT ?_;conv=>whnf)|(refine mvF ?_;conv=>whnf)|(refine cT (by rfl) ?_;conv=>whnf)|(refine cF (by rfl) ?_;conv=>whnf)))
      refine Does.mono H.untp ?_
      rintro r w ⟨c, nl, u, s', rfl, hone, hnl, hr, H⟩
      ((conv=>whnf);repeat(first|(refine mvT ?_;conv=>whnf)|(refine mvF ?_;conv=>whnf)|(refine cT (by rfl) ?_;conv=>whnf)|(refine cF (by rfl) ?_;conv=>whnf)))
      exact ⟨(r, nl, u, s'), ⟨rfl, rfl, rfl, rfl, rfl, rfl, rfl, trivial⟩, hone, hnl, by rw [hc]; exact hr, H⟩
  clear H
  rintro ⟨c25, nl25, u25, s25⟩ w ⟨hone25, hnl25, hr25, H⟩
  dsimp only at hone25 hnl25 hr25 H
  ((conv=>whnf);repeat(first|(refine mvT ?_;conv=>whnf)|(refine mvF ?_;conv=>whnf)|(refine cT (by rfl) ?_;conv=>whnf)|(refine cF (by rfl) ?_;conv=>whnf)))
  obtain ⟨P26, hP26⟩ : ∃ P : World → Prop, P = fun w => NTf p c25 (.mk 0 u25 nl25 [] []) w ∧ P24 w := ⟨_, rfl⟩
  replace H : St w0 G0 p pb s25 ((p, ty, [] ++ [.int .i16 v, str u1, str u3, .int .i32 n5, c7, c10, .int .i32 n13, a15, c20, .pointer none, .slice none 0 0, .map none] ++ []) :: []) P26 w := by rw [hP26]; exact H
  refine H.st1 (v := c25) 9 (cells_one hone25) (hone25) rfl (by simp) rfl (Nat.lt_of_lt_of_le (Nat.lt_succ_self _) (Nat.le_of_ble_eq_true rfl)) ?_
  intro w H
  ((conv=>whnf);repeat(first|(refine mvT ?_;conv=>whnf)|(refine mvF ?_;conv=>whnf)|(refine cT (by rfl) ?_;conv=>whnf)|(refine cF (by rfl) ?_;conv=>whnf)))
  replace H : St w0 G0 p pb s25 ((p, ty, [] ++ [.int .i16 v, str u1, str u3, .int .i32 n5, c7, c10, .int .i32 n13, a15, c20, c25, .slice none 0 0, .map none] ++ []) :: []) P26 w := H
  refine ldS (H.cell (o := 0) rfl (k := 10) rfl) ?_;((conv=>whnf);repeat(first|(refine mvT ?_;conv=>whnf)|(refine mvF ?_;conv=>whnf)|(refine cT (by rfl) ?_;conv=>whnf)|(refine cF (by rfl) ?_;conv=>whnf)))
  (refine mvB ?_;((conv=>whnf);repeat(first|(refine mvT ?_;conv=>whnf)|(refine mvF ?_;conv=>whnf)|(refine cT (by rfl) ?_;conv=>whnf)|(refine cF (by rfl) ?_;conv=>whnf))))
  refine VC.cutE (fun q : Int × Rd => [(26, .int .i32 q.1), (25, .slice none 0 0), (0, .pointer (some ⟨p, 0, none⟩)), (2, .bool true), (7, .pointer (some ⟨pb, 0, none⟩)), (8, .int .i16 v), (9, .bool fx), (10, .pointer (some ⟨p, 0, none⟩))]) (fun q w' => (-2147483648 ≤ q.1 ∧ q.1 ≤ 2147483647) ∧ rdLn fx s25 = q ∧ St w0 G0 p pb q.2 ((p, ty, [] ++ [.int .i16 v, str u1, str u3, .int .i32 n5, c7, c10, .int .i32 n13, a15, c20, c25, .slice none 0 0, .map none] ++ []) :: []) P26 w') ?_ ?_
  · refine cI (by rfl) (fun hc=>?_) (fun hc=>?_)
    · ((conv=>whnf);repeat(first|(refine mvT ?_;conv=>whnf)|(refine mvF ?_;conv=>whnf)|(refine cT (by rfl) ?_;conv=>whnf)|(refine cF (by rfl) ?_;conv=>whnf)))
      refine Does.mono H.lnc ?_
      rintro r w ⟨n, s', rfl, hn, hr, H⟩
      ((conv=>whnf);repeat(first|(refine mvT ?_;conv=>whnf)|(refine mvF ?_;conv=>whnf)|(refine cT (by rfl) ?_;conv=>whnf)|(refine cF (by rfl) ?_;conv=>whnf)))
      exact ⟨(n, s'), ⟨rfl, rfl, rfl, rfl, rfl, rfl, rfl, rfl, trivial⟩, hn, by rw [hc]; exact hr, H⟩
    · ((conv=>whnf);repeat(first|(refine mvT ?_;conv=>whnf)|(refine mvF ?_;conv=>whnf)|(refine cT (by rfl) ?_;conv=>whnf)|(refine cF (by rfl) ?_;conv=>whnf)))
      refine Does.mono H.lnp ?_
      rintro r w ⟨n, s', rfl, hn, hr, H⟩
      ((conv=>whnf);repeat(first|(refine mvT ?_;conv=>whnf)|(refine mvF ?_;conv=>whnf)|(refine cT (by rfl) ?_;conv=>whnf)|(refine cF (by rfl) ?_;conv=>whnf)))
      exact ⟨(n, s'), ⟨rfl, rfl, rfl, rfl, rfl, rfl, rfl, rfl, trivial⟩, hn, by rw [hc]; exact hr, H⟩
  clear H
  rintro ⟨n28, s28⟩ w ⟨hn28, hln28, H⟩
  dsimp only at hn28 hln28 H
  ((conv=>whnf);repeat(first|(refine mvT ?_;conv=>whnf)|(refine mvF ?_;conv=>whnf)|(refine cT (by rfl) ?_;conv=>whnf)|(refine cF (by rfl) ?_;conv=>whnf)))
  intro cq hcq
  obtain rfl : cq = false := by rw [← hcq]; exact decide_eq_false (by omega)
  ((conv=>whnf);repeat(first|(refine mvT ?_;conv=>whnf)|(refine mvF ?_;conv=>whnf)|(refine cT (by rfl) ?_;conv=>whnf)|(refine cF (by rfl) ?_;conv=>whnf)))
  refine VC.cutE (fun a : Option Addr => [(26, .int .i32 n28), (25, .slice a 0 0), (0, .pointer (some ⟨p, 0, none⟩)), (2, .bool true), (7, .pointer (some ⟨pb, 0, none⟩)), (8, .int .i16 v), (9, .bool fx), (10, .pointer (some ⟨p, 0, none⟩))]) (fun a w' => StE w0 G0 p pb s28 91 ((p, ty, [] ++ [.int .i16 v, str u1, str u3, .int .i32 n5, c7, c10, .int .i32 n13, a15, c20, c25, .slice none 0 0, .map none] ++ []) :: []) P26 (v < 0 ∨ n28 = 0) a w') ?_ ?_
  · refine cI (by rfl) (fun hz=>?_) (fun hz=>?_)
    · have hz : n28 = 0 := by simpa using hz
      ((conv=>whnf);repeat(first|(refine mvT ?_;conv=>whnf)|(refine mvF ?_;conv=>whnf)|(refine cT (by rfl) ?_;conv=>whnf)|(refine cF (by rfl) ?_;conv=>whnf)))
      intro be we hbe hoe hxe
      ((conv=>whnf);repeat(first|(refine mvT ?_;conv=>whnf)|(refine mvF ?_;conv=>whnf)|(refine cT (by rfl) ?_;conv=>whnf)|(refine cF (by rfl) ?_;conv=>whnf)))
      exact ⟨_, ⟨rfl, rfl, rfl, rfl, rfl, rfl, rfl, rfl, trivial⟩, .inr ⟨.inr hz, be, rfl, H.push hxe hoe hbe⟩⟩
    · have hz : ¬ n28 = 0 := by simpa using hz
      ((conv=>whnf);repeat(first|(refine mvT ?_;conv=>whnf)|(refine mvF ?_;conv=>whnf)|(refine cT (by rfl) ?_;conv=>whnf)|(refine cF (by rfl) ?_;conv=>whnf)))
      exact ⟨_, ⟨rfl, rfl, rfl, rfl, rfl, rfl, rfl, rfl, trivial⟩, .inl ⟨by omega, rfl, H⟩⟩
  clear H
  rintro ae28 w H
  ((conv=>whnf);repeat(first|(refine mvT ?_;conv=>whnf)|(refine mvF ?_;conv=>whnf)|(refine cT (by rfl) ?_;conv=>whnf)|(refine cF (by rfl) ?_;conv=>whnf)))
  refine Does.mono H.ok ?_
  rintro r w ⟨rfl, H⟩
  ((conv=>whnf);repeat(first|(refine mvT ?_;conv=>whnf)|(refine mvF ?_;conv=>whnf)|(refine cT (by rfl) ?_;conv=>whnf)|(refine cF (by rfl) ?_;conv=>whnf)))
  refine cI (by rfl) (fun hbd=>?_) (fun hbd=>?_)
  · have hbd : s28.2 = true := by simpa using hbd
    ((conv=>whnf);repeat(first|(refine mvT ?_;conv=>whnf)|(refine mvF ?_;conv=>whnf)|(refine cT (by rfl) ?_;conv=>whnf)|(refine cF (by rfl) ?_;conv=>whnf)))
    refine Does.mono (H.done hL hp1) ?_
    rintro r w ⟨rfl, H⟩
    ((conv=>whnf);repeat(first|(refine mvT ?_;conv=>whnf)|(refine mvF ?_;conv=>whnf)|(refine cT (by rfl) ?_;conv=>whnf)|(refine cF (by rfl) ?_;conv=>whnf)))
    obtain ⟨_, H⟩ := H
    refine RdPost.early hbd (hup0 (?_)) H
    rw [tail_yes (rdField8 (by decide) hr1) ⟨by decide, has_all hv⟩, tail_yes (rdField8 (by decide) hr3) ⟨by decide, has_all hv⟩, tail_yes (rdField3.trans hr5) ⟨by decide, has_all hv⟩, tail_yes ((rdField8n (by decide)).trans hr7) ⟨by decide, has_all hv⟩, tail_yes ((rdField8n (by decide)).trans hr10) ⟨by decide, has_all hv⟩, tail_yes (rdField3.trans hr13) ⟨by decide, has_all hv⟩, tail_yes ((rdField_list _ _ _ _ _ _ _ _ _ _ _).trans hr17) ⟨by decide, has_all hv⟩, tail_ver hr20 (by decide), tail_yes ((rdField8n (by decide)).trans hr25) ⟨by decide, has_all hv⟩, tail_len ⟨by decide, has_all hv⟩ hln28 hbd]
  have hbd : s28.2 = false := by simpa using hbd
  clear hbd
  ((conv=>whnf);repeat(first|(refine mvT ?_;conv=>whnf)|(refine mvF ?_;conv=>whnf)|(refine cT (by rfl) ?_;conv=>whnf)|(refine cF (by rfl) ?_;conv=>whnf)))
  refine cut_zero ?_
  ((conv=>whnf);repeat(first|(refine mvT ?_;conv=>whnf)|(refine mvF ?_;conv=>whnf)|(refine cT (by rfl) ?_;conv=>whnf)|(refine cF (by rfl) ?_;conv=>whnf)))
  refine VC.cutE (fun a : Value => [(26, .int .i32 n28), (25, a), (0, .pointer (some ⟨p, 0, none⟩)), (2, .bool true), (7, .pointer (some ⟨pb, 0, none⟩)), (8, .int .i16 v), (9, .bool fx), (10, .pointer (some ⟨p, 0, none⟩))]) (fun a w' => ListI w0 G0 p pb 91 [.int .u8 0, .int .u8 0, .int .u8 0, .int .u8 0, .int .u8 0, .int .u8 0, .int .u8 0, .int .u8 0, .int .u8 0, .int .u8 0, .int .u8 0, .int .u8 0, .int .u8 0, .int .u8 0, .int .u8 0, .int .u8 0, .slice none 0 0, .map none] (elR 8 v fx 10 dConsumerGroupHeartbeatRequestTopic) (elQ true 8 10 dConsumerGroupHeartbeatRequestTopic) s28 n28 ((decide (n28 < 0) && decide (0 ≤ v))) ((p, ty, [] ++ [.int .i16 v, str u1, str u3, .int .i32 n5, c7, c10, .int .i32 n13, a15, c20, c25, .slice none 0 0, .map none] ++ []) :: []) P26 a 0 w') ?_ ?_
  · refine cI (by rfl) (fun hps=>?_) (fun hps=>?_)
    · have hps : 0 < n28 := by have := of_decide_eq_true hps; omega
      ((conv=>whnf);repeat(first|(refine mvT ?_;conv=>whnf)|(refine mvF ?_;conv=>whnf)|(refine cT (by rfl) ?_;conv=>whnf)|(refine cF (by rfl) ?_;conv=>whnf)))
      refine H.grow hps hn28.2 (by decide) rfl rfl (by decide) ?_
      intro g cap post w hc1 hc2 H
      ((conv=>whnf);repeat(first|(refine mvT ?_;conv=>whnf)|(refine mvF ?_;conv=>whnf)|(refine cT (by rfl) ?_;conv=>whnf)|(refine cF (by rfl) ?_;conv=>whnf)))
      exact ⟨_, ⟨rfl, rfl, rfl, rfl, rfl, rfl, rfl, rfl, trivial⟩, ListI.some hps (by simp; omega) hc1 hc2 H⟩
    · have hps : n28 ≤ 0 := by have := of_decide_eq_false hps; omega
      ((conv=>whnf);repeat(first|(refine mvT ?_;conv=>whnf)|(refine mvF ?_;conv=>whnf)|(refine cT (by rfl) ?_;conv=>whnf)|(refine cF (by rfl) ?_;conv=>whnf)))
      exact ⟨_, ⟨rfl, rfl, rfl, rfl, rfl, rfl, rfl, rfl, trivial⟩, H.none hps (fun h => by rcases h with h | h <;> (simp; omega)) (fun h => by simp; omega)⟩
  clear H
  rintro a28 w H
  ((conv=>whnf);repeat(first|(refine mvT ?_;conv=>whnf)|(refine mvF ?_;conv=>whnf)|(refine cT (by rfl) ?_;conv=>whnf)|(refine cF (by rfl) ?_;conv=>whnf)))
  have hpL28 : inL ((p, ty, [] ++ [.int .i16 v, str u1, str u3, .int .i32 n5, c7, c10, .int .i32 n13, a15, c20, c25, .slice none 0 0, .map none] ++ []) :: []) p := inL.head _ _
  refine VL.loop (fun i : Nat => [(26, .int .i32 n28), (25, a28), (27, .int .i32 i), (0, .pointer (some ⟨p, 0, none⟩)), (2, .bool true), (7, .pointer (some ⟨pb, 0, none⟩)), (8, .int .i16 v), (9, .bool fx), (10, .pointer (some ⟨p, 0, none⟩))]) (fun i w' => i ≤ 2147483647 ∧ ListI w0 G0 p pb 91 [.int .u8 0, .int .u8 0, .int .u8 0, .int .u8 0, .int .u8 0, .int .u8 0, .int .u8 0, .int .u8 0, .int .u8 0, .int .u8 0, .int .u8 0, .int .u8 0, .int .u8 0, .int .u8 0, .int .u8 0, .int .u8 0, .slice none 0 0, .map none] (elR 8 v fx 10 dConsumerGroupHeartbeatRequestTopic) (elQ true 8 10 dConsumerGroupHeartbeatRequestTopic) s28 n28 ((decide (n28 < 0) && decide (0 ≤ v))) ((p, ty, [] ++ [.int .i16 v, str u1, str u3, .int .i32 n5, c7, c10, .int .i32 n13, a15, c20, c25, .slice none 0 0, .map none] ++ []) :: []) P26 a28 i w') (fun i => n28.toNat - i) 0 ⟨rfl, rfl, rfl, rfl, rfl, rfl, rfl, rfl, rfl, trivial⟩ ⟨by decide, H⟩ ?_
  clear H
  rintro i28 w ⟨hi28, H⟩
  ((conv=>whnf);repeat(first|(refine mvT ?_;conv=>whnf)|(refine mvF ?_;conv=>whnf)|(refine cT (by rfl) ?_;conv=>whnf)|(refine cF (by rfl) ?_;conv=>whnf)))
  refine cI (by rfl) (fun h9=>?_) (fun h9=>?_)
  · have hlt28 : (i28 : Int) < n28 := of_decide_eq_true h9
    obtain ⟨g28, cap28, post28, rfl, hgo28, HI⟩ := H.go hlt28
    obtain ⟨es28, ts28, si28, hes28, hez28, hrn28, hts28, hlen1, H⟩ := HI.open hgo28.2.2.2.2
    obtain ⟨L28, hL28⟩ : ∃ L : List Ob, L = ((p, ty, [] ++ [.int .i16 v, str u1, str u3, .int .i32 n5, c7, c10, .int .i32 n13, a15, c20, c25, .slice none 0 0, .map none] ++ []) :: []) := ⟨_, rfl⟩
    rw [← hL28] at H hpL28
    obtain ⟨P28, hP28⟩ : ∃ P : World → Prop, P = fun w => (∀ (j : Nat) (c : List Value) (y : T), es28[j]? = some c → ts28[j]? = some y → elQ true 8 10 dConsumerGroupHeartbeatRequestTopic ⟨w, fun k => k ≠ p⟩ c y) ∧ P26 w := ⟨_, rfl⟩
    rw [← hP28] at H
    replace H : St w0 G0 p pb si28 ((g28, 91, es28.flatten ++ [.int .u8 0, .int .u8 0, .int .u8 0, .int .u8 0, .int .u8 0, .int .u8 0, .int .u8 0, .int .u8 0, .int .u8 0, .int .u8 0, .int .u8 0, .int .u8 0, .int .u8 0, .int .u8 0, .int .u8 0, .int .u8 0, .slice none 0 0, .map none] ++ ((List.replicate (n28.toNat - (i28 + 1)) [.int .u8 0, .int .u8 0, .int .u8 0, .int .u8 0, .int .u8 0, .int .u8 0, .int .u8 0, .int .u8 0, .int .u8 0, .int .u8 0, .int .u8 0, .int .u8 0, .int .u8 0, .int .u8 0, .int .u8 0, .int .u8 0, .slice none 0 0, .map none]).flatten ++ post28)) :: L28) P28 w := H
    ((conv=>whnf);repeat(first|(refine mvT ?_;conv=>whnf)|(refine mvF ?_;conv=>whnf)|(refine cT (by rfl) ?_;conv=>whnf)|(refine cF (by rfl) ?_;conv=>whnf)))
    refine ⟨g28, 0, rfl, ⟨by omega, by omega⟩, ?_⟩
    ((conv=>whnf);repeat(first|(refine mvT ?_;conv=>whnf)|(refine mvF ?_;conv=>whnf)|(refine cT (by rfl) ?_;conv=>whnf)|(refine cF (by rfl) ?_;conv=>whnf)))
    refine Does.mono (dfConsumerGroupHeartbeatRequestTopic (pre := es28.flatten) (cur := [.int .u8 0, .int .u8 0, .int .u8 0, .int .u8 0, .int .u8 0, .int .u8 0, .int .u8 0, .int .u8 0, .int .u8 0, .int .u8 0, .int .u8 0, .int .u8 0, .int .u8 0, .int .u8 0, .int .u8 0, .int .u8 0, .slice none 0 0, .map none]) (post := ((List.replicate (n28.toNat - (i28 + 1)) [.int .u8 0, .int .u8 0, .int .u8 0, .int .u8 0, .int .u8 0, .int .u8 0, .int .u8 0, .int .u8 0, .int .u8 0, .int .u8 0, .int .u8 0, .int .u8 0, .int .u8 0, .int .u8 0, .int .u8 0, .int .u8 0, .slice none 0 0, .map none]).flatten ++ post28)) H.head (by first | (rw [hlen1]; simp; done) | (simp [hlen1]; done) | (simp [hlen1]; omega)) rfl) ?_
    rintro rd w2 ⟨hdf, hxd⟩
    replace H := H.put hdf hxd
    clear hdf hxd
    replace H : St w0 G0 p pb si28 ((g28, 91, es28.flatten ++ [.int .u8 0, .int .u8 0, .int .u8 0, .int .u8 0, .int .u8 0, .int .u8 0, .int .u8 0, .int .u8 0, .int .u8 0, .int .u8 0, .int .u8 0, .int .u8 0, .int .u8 0, .int .u8 0, .int .u8 0, .int .u8 0, .slice none 0 0, .map none] ++ ((List.replicate (n28.toNat - (i28 + 1)) [.int .u8 0, .int .u8 0, .int .u8 0, .int .u8 0, .int .u8 0, .int .u8 0, .int .u8 0, .int .u8 0, .int .u8 0, .int .u8 0, .int .u8 0, .int .u8 0, .int .u8 0, .int .u8 0, .int .u8 0, .int .u8 0, .slice none 0 0, .map none]).flatten ++ post28)) :: L28) P28 w2 := H
    ((conv=>whnf);repeat(first|(refine mvT ?_;conv=>whnf)|(refine mvF ?_;conv=>whnf)|(refine cT (by rfl) ?_;conv=>whnf)|(refine cF (by rfl) ?_;conv=>whnf)))
    have hup28 : tailBad 8 v fx dConsumerGroupHeartbeatRequestTopic si28 = true → (rdPart 9 v fx dConsumerGroupHeartbeatRequest (l, false)).2.2 = true := by
      intro hb
      refine hup0 ?_
      rw [tail_yes (rdField8 (by decide) hr1) ⟨by decide, has_all hv⟩, tail_yes (rdField8 (by decide) hr3) ⟨by decide, has_all hv⟩, tail_yes (rdField3.trans hr5) ⟨by decide, has_all hv⟩, tail_yes ((rdField8n (by decide)).trans hr7) ⟨by decide, has_all hv⟩, tail_yes ((rdField8n (by decide)).trans hr10) ⟨by decide, has_all hv⟩, tail_yes (rdField3.trans hr13) ⟨by decide, has_all hv⟩, tail_yes ((rdField_list _ _ _ _ _ _ _ _ _ _ _).trans hr17) ⟨by decide, has_all hv⟩, tail_ver hr20 (by decide), tail_yes ((rdField8n (by decide)).trans hr25) ⟨by decide, has_all hv⟩, tail_el ⟨by decide, has_all hv⟩ hln28 hgo28.2.2.2.2 hrn28 hb]
    refine Does.mono H.uuid ?_
    rintro r w ⟨u29, s29, rfl, hu29, hr29, H⟩
    ((conv=>whnf);repeat(first|(refine mvT ?_;conv=>whnf)|(refine mvF ?_;conv=>whnf)|(refine cT (by rfl) ?_;conv=>whnf)|(refine cF (by rfl) ?_;conv=>whnf)))
    obtain ⟨u29_0, u29_1, u29_2, u29_3, u29_4, u29_5, u29_6, u29_7, u29_8, u29_9, u29_10, u29_11, u29_12, u29_13, u29_14, u29_15, rfl⟩ : ∃ u29_0 u29_1 u29_2 u29_3 u29_4 u29_5 u29_6 u29_7 u29_8 u29_9 u29_10 u29_11 u29_12 u29_13 u29_14 u29_15, u29 = [u29_0, u29_1, u29_2, u29_3, u29_4, u29_5, u29_6, u29_7, u29_8, u29_9, u29_10, u29_11, u29_12, u29_13, u29_14, u29_15] := by
      match u29, hu29 with
      | [u29_0, u29_1, u29_2, u29_3, u29_4, u29_5, u29_6, u29_7, u29_8, u29_9, u29_10, u29_11, u29_12, u29_13, u29_14, u29_15], _ => exact ⟨u29_0, u29_1, u29_2, u29_3, u29_4, u29_5, u29_6, u29_7, u29_8, u29_9, u29_10, u29_11, u29_12, u29_13, u29_14, u29_15, rfl⟩
    intro bu wu hbu hou hxu
    ((conv=>whnf);repeat(first|(refine mvT ?_;conv=>whnf)|(refine mvF ?_;conv=>whnf)|(refine cT (by rfl) ?_;conv=>whnf)|(refine cF (by rfl) ?_;conv=>whnf)))
    refine st_all [bcell u29_0, bcell u29_1, bcell u29_2, bcell u29_3, bcell u29_4, bcell u29_5, bcell u29_6, bcell u29_7, bcell u29_8, bcell u29_9, bcell u29_10, bcell u29_11, bcell u29_12, bcell u29_13, bcell u29_14, bcell u29_15] hou rfl rfl rfl ?_
    intro w2 hou hxs
    ((conv=>whnf);repeat(first|(refine mvT ?_;conv=>whnf)|(refine mvF ?_;conv=>whnf)|(refine cT (by rfl) ?_;conv=>whnf)|(refine cF (by rfl) ?_;conv=>whnf)))
    replace H := H.e0 (hxu.trans hxs (M := nob) fun k hk e => by omega)
    refine ⟨_, rfl, hou.cells, ?_⟩
    ((conv=>whnf);repeat(first|(refine mvT ?_;conv=>whnf)|(refine mvF ?_;conv=>whnf)|(refine cT (by rfl) ?_;conv=>whnf)|(refine cF (by rfl) ?_;conv=>whnf)))
    refine H.stn [bcell u29_0, bcell u29_1, bcell u29_2, bcell u29_3, bcell u29_4, bcell u29_5, bcell u29_6, bcell u29_7, bcell u29_8, bcell u29_9, bcell u29_10, bcell u29_11, bcell u29_12, bcell u29_13, bcell u29_14, bcell u29_15] 0 rfl rfl rfl (by first | omega | (simp [hlen1]; done) | (simp [hlen1]; omega)) rfl (Nat.le_of_ble_eq_true rfl) ?_
    intro w H
    ((conv=>whnf);repeat(first|(refine mvT ?_;conv=>whnf)|(refine mvF ?_;conv=>whnf)|(refine cT (by rfl) ?_;conv=>whnf)|(refine cF (by rfl) ?_;conv=>whnf)))
    replace H : St w0 G0 p pb s29 ((g28, 91, es28.flatten ++ [bcell u29_0, bcell u29_1, bcell u29_2, bcell u29_3, bcell u29_4, bcell u29_5, bcell u29_6, bcell u29_7, bcell u29_8, bcell u29_9, bcell u29_10, bcell u29_11, bcell u29_12, bcell u29_13, bcell u29_14, bcell u29_15, .slice none 0 0, .map none] ++ ((List.replicate (n28.toNat - (i28 + 1)) [.int .u8 0, .int .u8 0, .int .u8 0, .int .u8 0, .int .u8 0, .int .u8 0, .int .u8 0, .int .u8 0, .int .u8 0, .int .u8 0, .int .u8 0, .int .u8 0, .int .u8 0, .int .u8 0, .int .u8 0, .int .u8 0, .slice none 0 0, .map none]).flatten ++ post28)) :: L28) P28 w := H
    refine ⟨_, ld (H.cell rfl (k := 16) rfl) (by first | omega | (simp [hlen1]; done) | (simp [hlen1]; omega)), ?_⟩; ((conv=>whnf);repeat(first|(refine mvT ?_;conv=>whnf)|(refine mvF ?_;conv=>whnf)|(refine cT (by rfl) ?_;conv=>whnf)|(refine cF (by rfl) ?_;conv=>whnf)))
    (refine mvB ?_;((conv=>whnf);repeat(first|(refine mvT ?_;conv=>whnf)|(refine mvF ?_;conv=>whnf)|(refine cT (by rfl) ?_;conv=>whnf)|(refine cF (by rfl) ?_;conv=>whnf))))
    refine VC.cutE (fun q : Int × Rd => [(33, .int .i32 q.1), (32, .slice none 0 0), (0, .pointer (some ⟨p, 0, none⟩)), (2, .bool true), (7, .pointer (some ⟨pb, 0, none⟩)), (8, .int .i16 v), (9, .bool fx), (10, .pointer (some ⟨p, 0, none⟩)), (26, .int .i32 n28), (25, .slice (some ⟨g28, 0, none⟩) n28.toNat cap28), (27, .int .i32 i28), (28, .pointer (some ⟨g28, 0 + (i28 : Int).toNat * 18, none⟩)), (29, .pointer (some ⟨g28, 0 + (i28 : Int).toNat * 18, none⟩))]) (fun q w' => (-2147483648 ≤ q.1 ∧ q.1 ≤ 2147483647) ∧ rdLn fx s29 = q ∧ St w0 G0 p pb q.2 ((g28, 91, es28.flatten ++ [bcell u29_0, bcell u29_1, bcell u29_2, bcell u29_3, bcell u29_4, bcell u29_5, bcell u29_6, bcell u29_7, bcell u29_8, bcell u29_9, bcell u29_10, bcell u29_11, bcell u29_12, bcell u29_13, bcell u29_14, bcell u29_15, .slice none 0 0, .map none] ++ ((List.replicate (n28.toNat - (i28 + 1)) [.int .u8 0, .int .u8 0, .int .u8 0, .int .u8 0, .int .u8 0, .int .u8 0, .int .u8 0, .int .u8 0, .int .u8 0, .int .u8 0, .int .u8 0, .int .u8 0, .int .u8 0, .int .u8 0, .int .u8 0, .int .u8 0, .slice none 0 0, .map none]).flatten ++ post28)) :: L28) P28 w') ?_ ?_
    · refine cI (by rfl) (fun hc=>?_) (fun hc=>?_)
      · ((conv=>whnf);repeat(first|(refine mvT ?_;conv=>whnf)|(refine mvF ?_;conv=>whnf)|(refine cT (by rfl) ?_;conv=>whnf)|(refine cF (by rfl) ?_;conv=>whnf)))
        refine Does.mono H.lnc ?_
        rintro r w ⟨n, s', rfl, hn, hr, H⟩
        ((conv=>whnf);repeat(first|(refine mvT ?_;conv=>whnf)|(refine mvF ?_;conv=>whnf)|(refine cT (by rfl) ?_;conv=>whnf)|(refine cF (by rfl) ?_;conv=>whnf)))
        exact ⟨(n, s'), ⟨rfl, rfl, rfl, rfl, rfl, rfl, rfl, rfl, rfl, rfl, rfl, rfl, rfl, trivial⟩, hn, by rw [hc]; exact hr, H⟩
      · ((conv=>whnf);repeat(first|(refine mvT ?_;conv=>whnf)|(refine mvF ?_;conv=>whnf)|(refine cT (by rfl) ?_;conv=>whnf)|(refine cF (by rfl) ?_;conv=>whnf)))
        refine Does.mono H.lnp ?_
        rintro r w ⟨n, s', rfl, hn, hr, H⟩
        ((conv=>whnf);repeat(first|(refine mvT ?_;conv=>whnf)|(refine mvF ?_;conv=>whnf)|(refine cT (by rfl) ?_;conv=>whnf)|(refine cF (by rfl) ?_;conv=>whnf)))
        exact ⟨(n, s'), ⟨rfl, rfl, rfl, rfl, rfl, rfl, rfl, rfl, rfl, rfl, rfl, rfl, rfl, trivial⟩, hn, by rw [hc]; exact hr, H⟩
    clear H
    rintro ⟨n32, s32⟩ w ⟨hn32, hln32, H⟩
    dsimp only at hn32 hln32 H
    ((conv=>whnf);repeat(first|(refine mvT ?_;conv=>whnf)|(refine mvF ?_;conv=>whnf)|(refine cT (by rfl) ?_;conv=>whnf)|(refine cF (by rfl) ?_;conv=>whnf)))
    refine Does.mono H.ok ?_
    rintro r w ⟨rfl, H⟩
    ((conv=>whnf);repeat(first|(refine mvT ?_;conv=>whnf)|(refine mvF ?_;conv=>whnf)|(refine cT (by rfl) ?_;conv=>whnf)|(refine cF (by rfl) ?_;conv=>whnf)))
    refine cI (by rfl) (fun hbd=>?_) (fun hbd=>?_)
    · have hbd : s32.2 = true := by simpa using hbd
      ((conv=>whnf);repeat(first|(refine mvT ?_;conv=>whnf)|(refine mvF ?_;conv=>whnf)|(refine cT (by rfl) ?_;conv=>whnf)|(refine cF (by rfl) ?_;conv=>whnf)))
      refine Does.mono (H.done hL hp1) ?_
      rintro r w ⟨rfl, H⟩
      ((conv=>whnf);repeat(first|(refine mvT ?_;conv=>whnf)|(refine mvF ?_;conv=>whnf)|(refine cT (by rfl) ?_;conv=>whnf)|(refine cF (by rfl) ?_;conv=>whnf)))
      refine RdPost.early hbd (hup28 (?_)) H
      rw [tail_yes (rdField7.trans hr29) ⟨by decide, has_all hv⟩, tail_len ⟨by decide, has_all hv⟩ hln32 hbd]
    have hbd : s32.2 = false := by simpa using hbd
    clear hbd
    ((conv=>whnf);repeat(first|(refine mvT ?_;conv=>whnf)|(refine mvF ?_;conv=>whnf)|(refine cT (by rfl) ?_;conv=>whnf)|(refine cF (by rfl) ?_;conv=>whnf)))
    refine cut_zero ?_
    ((conv=>whnf);repeat(first|(refine mvT ?_;conv=>whnf)|(refine mvF ?_;conv=>whnf)|(refine cT (by rfl) ?_;conv=>whnf)|(refine cF (by rfl) ?_;conv=>whnf)))
    refine VC.cutE (fun a : Value => [(33, .int .i32 n32), (32, a), (0, .pointer (some ⟨p, 0, none⟩)), (2, .bool true), (7, .pointer (some ⟨pb, 0, none⟩)), (8, .int .i16 v), (9, .bool fx), (10, .pointer (some ⟨p, 0, none⟩)), (26, .int .i32 n28), (25, .slice (some ⟨g28, 0, none⟩) n28.toNat cap28), (27, .int .i32 i28), (28, .pointer (some ⟨g28, 0 + (i28 : Int).toNat * 18, none⟩)), (29, .pointer (some ⟨g28, 0 + (i28 : Int).toNat * 18, none⟩))]) (fun a w' => ListI w0 G0 p pb 21 [.int .i32 0] (elR 7 v fx 3 []) (elQ true 7 3 []) s32 n32 (decide (n32 ≤ 0)) ((g28, 91, es28.flatten ++ [bcell u29_0, bcell u29_1, bcell u29_2, bcell u29_3, bcell u29_4, bcell u29_5, bcell u29_6, bcell u29_7, bcell u29_8, bcell u29_9, bcell u29_10, bcell u29_11, bcell u29_12, bcell u29_13, bcell u29_14, bcell u29_15, .slice none 0 0, .map none] ++ ((List.replicate (n28.toNat - (i28 + 1)) [.int .u8 0, .int .u8 0, .int .u8 0, .int .u8 0, .int .u8 0, .int .u8 0, .int .u8 0, .int .u8 0, .int .u8 0, .int .u8 0, .int .u8 0, .int .u8 0, .int .u8 0, .int .u8 0, .int .u8 0, .int .u8 0, .slice none 0 0, .map none]).flatten ++ post28)) :: L28) P28 a 0 w') ?_ ?_
    · refine cI (by rfl) (fun hps=>?_) (fun hps=>?_)
      · have hps : 0 < n32 := by have := of_decide_eq_true hps; omega
        ((conv=>whnf);repeat(first|(refine mvT ?_;conv=>whnf)|(refine mvF ?_;conv=>whnf)|(refine cT (by rfl) ?_;conv=>whnf)|(refine cF (by rfl) ?_;conv=>whnf)))
        refine H.grow hps hn32.2 (by decide) rfl rfl (by decide) ?_
        intro g cap post w hc1 hc2 H
        ((conv=>whnf);repeat(first|(refine mvT ?_;conv=>whnf)|(refine mvF ?_;conv=>whnf)|(refine cT (by rfl) ?_;conv=>whnf)|(refine cF (by rfl) ?_;conv=>whnf)))
        exact ⟨_, ⟨rfl, rfl, rfl, rfl, rfl, rfl, rfl, rfl, rfl, rfl, rfl, rfl, rfl, trivial⟩, ListI.some hps (decide_eq_false (by omega)) hc1 hc2 H⟩
      · have hps : n32 ≤ 0 := by have := of_decide_eq_false hps; omega
        ((conv=>whnf);repeat(first|(refine mvT ?_;conv=>whnf)|(refine mvF ?_;conv=>whnf)|(refine cT (by rfl) ?_;conv=>whnf)|(refine cF (by rfl) ?_;conv=>whnf)))
        exact ⟨_, ⟨rfl, rfl, rfl, rfl, rfl, rfl, rfl, rfl, rfl, rfl, rfl, rfl, rfl, trivial⟩, ListI.none hps (decide_eq_true hps) H⟩
    clear H
    rintro a32 w H
    ((conv=>whnf);repeat(first|(refine mvT ?_;conv=>whnf)|(refine mvF ?_;conv=>whnf)|(refine cT (by rfl) ?_;conv=>whnf)|(refine cF (by rfl) ?_;conv=>whnf)))
    have hpL32 : inL ((g28, 91, es28.flatten ++ [bcell u29_0, bcell u29_1, bcell u29_2, bcell u29_3, bcell u29_4, bcell u29_5, bcell u29_6, bcell u29_7, bcell u29_8, bcell u29_9, bcell u29_10, bcell u29_11, bcell u29_12, bcell u29_13, bcell u29_14, bcell u29_15, .slice none 0 0, .map none] ++ ((List.replicate (n28.toNat - (i28 + 1)) [.int .u8 0, .int .u8 0, .int .u8 0, .int .u8 0, .int .u8 0, .int .u8 0, .int .u8 0, .int .u8 0, .int .u8 0, .int .u8 0, .int .u8 0, .int .u8 0, .int .u8 0, .int .u8 0, .int .u8 0, .int .u8 0, .slice none 0 0, .map none]).flatten ++ post28)) :: L28) p := inL.tail hpL28
    refine VL.loop (fun i : Nat => [(33, .int .i32 n32), (32, a32), (34, .int .i32 i), (0, .pointer (some ⟨p, 0, none⟩)), (2, .bool true), (7, .pointer (some ⟨pb, 0, none⟩)), (8, .int .i16 v), (9, .bool fx), (10, .pointer (some ⟨p, 0, none⟩)), (26, .int .i32 n28), (25, .slice (some ⟨g28, 0, none⟩) n28.toNat cap28), (27, .int .i32 i28), (28, .pointer (some ⟨g28, 0 + (i28 : Int).toNat * 18, none⟩)), (29, .pointer (some ⟨g28, 0 + (i28 : Int).toNat * 18, none⟩))]) (fun i w' => i ≤ 2147483647 ∧ ListI w0 G0 p pb 21 [.int .i32 0] (elR 7 v fx 3 []) (elQ true 7 3 []) s32 n32 (decide (n32 ≤ 0)) ((g28, 91, es28.flatten ++ [bcell u29_0, bcell u29_1, bcell u29_2, bcell u29_3, bcell u29_4, bcell u29_5, bcell u29_6, bcell u29_7, bcell u29_8, bcell u29_9, bcell u29_10, bcell u29_11, bcell u29_12, bcell u29_13, bcell u29_14, bcell u29_15, .slice none 0 0, .map none] ++ ((List.replicate (n28.toNat - (i28 + 1)) [.int .u8 0, .int .u8 0, .int .u8 0, .int .u8 0, .int .u8 0, .int .u8 0, .int .u8 0, .int .u8 0, .int .u8 0, .int .u8 0, .int .u8 0, .int .u8 0, .int .u8 0, .int .u8 0, .int .u8 0, .int .u8 0, .slice none 0 0, .map none]).flatten ++ post28)) :: L28) P28 a32 i w') (fun i => n32.toNat - i) 0 ⟨rfl, rfl, rfl, rfl, rfl, rfl, rfl, rfl, rfl, rfl, rfl, rfl, rfl, rfl, trivial⟩ ⟨by decide, H⟩ ?_
    clear H
    rintro i32 w ⟨hi32, H⟩
    ((conv=>whnf);repeat(first|(refine mvT ?_;conv=>whnf)|(refine mvF ?_;conv=>whnf)|(refine cT (by rfl) ?_;conv=>whnf)|(refine cF (by rfl) ?_;conv=>whnf)))
    refine cI (by rfl) (fun h9=>?_) (fun h9=>?_)
    · have hlt32 : (i32 : Int) < n32 := of_decide_eq_true h9
      obtain ⟨g32, cap32, post32, rfl, hgo32, HI⟩ := H.go hlt32
      obtain ⟨es32, ts32, si32, hes32, hez32, hrn32, hts32, hlen2, H⟩ := HI.open hgo32.2.2.2.2
      obtain ⟨L32, hL32⟩ : ∃ L : List Ob, L = ((g28, 91, es28.flatten ++ [bcell u29_0, bcell u29_1, bcell u29_2, bcell u29_3, bcell u29_4, bcell u29_5, bcell u29_6, bcell u29_7, bcell u29_8, bcell u29_9, bcell u29_10, bcell u29_11, bcell u29_12, bcell u29_13, bcell u29_14, bcell u29_15, .slice none 0 0, .map none] ++ ((List.replicate (n28.toNat - (i28 + 1)) [.int .u8 0, .int .u8 0, .int .u8 0, .int .u8 0, .int .u8 0, .int .u8 0, .int .u8 0, .int .u8 0, .int .u8 0, .int .u8 0, .int .u8 0, .int .u8 0, .int .u8 0, .int .u8 0, .int .u8 0, .int .u8 0, .slice none 0 0, .map none]).flatten ++ post28)) :: L28) := ⟨_, rfl⟩
      rw [← hL32] at H hpL32
      obtain ⟨P32, hP32⟩ : ∃ P : World → Prop, P = fun w => (∀ (j : Nat) (c : List Value) (y : T), es32[j]? = some c → ts32[j]? = some y → elQ true 7 3 [] ⟨w, fun k => k ≠ p⟩ c y) ∧ P28 w := ⟨_, rfl⟩
      rw [← hP32] at H
      replace H : St w0 G0 p pb si32 ((g32, 21, es32.flatten ++ [.int .i32 0] ++ ((List.replicate (n32.toNat - (i32 + 1)) [.int .i32 0]).flatten ++ post32)) :: L32) P32 w := H
      ((conv=>whnf);repeat(first|(refine mvT ?_;conv=>whnf)|(refine mvF ?_;conv=>whnf)|(refine cT (by rfl) ?_;conv=>whnf)|(refine cF (by rfl) ?_;conv=>whnf)))
      refine Does.mono H.int32 ?_
      rintro r w ⟨n33, s33, rfl, hn33, hr33, H⟩
      ((conv=>whnf);repeat(first|(refine mvT ?_;conv=>whnf)|(refine mvF ?_;conv=>whnf)|(refine cT (by rfl) ?_;conv=>whnf)|(refine cF (by rfl) ?_;conv=>whnf)))
      refine ⟨g32, 0, rfl, ⟨by omega, by omega⟩, ?_⟩
      ((conv=>whnf);repeat(first|(refine mvT ?_;conv=>whnf)|(refine mvF ?_;conv=>whnf)|(refine cT (by rfl) ?_;conv=>whnf)|(refine cF (by rfl) ?_;conv=>whnf)))
      refine H.st1 (v := .int .i32 n33) 0 (rfl) (rfl) rfl (by first | omega | (simp [hlen2]; done) | (simp [hlen2]; omega)) rfl (Nat.lt_of_lt_of_le (Nat.lt_succ_self _) (Nat.le_of_ble_eq_true rfl)) ?_
      intro w H
      ((conv=>whnf);repeat(first|(refine mvT ?_;conv=>whnf)|(refine mvF ?_;conv=>whnf)|(refine cT (by rfl) ?_;conv=>whnf)|(refine cF (by rfl) ?_;conv=>whnf)))
      replace H : St w0 G0 p pb s33 ((g32, 21, es32.flatten ++ [.int .i32 n33] ++ ((List.replicate (n32.toNat - (i32 + 1)) [.int .i32 0]).flatten ++ post32)) :: L32) P32 w := H
      refine ⟨i32 + 1, ⟨rfl, rfl, ?_, rfl, rfl, rfl, rfl, rfl, rfl, rfl, rfl, rfl, rfl, rfl, trivial⟩, ⟨by omega, ListI.back hgo32 (LoopI.next hes32 hez32 hrn32 hts32 (cur := [.int .i32 n33]) (x := numT n33) (hr33) rfl (by rw [← hL32]; exact H) fun w hP => ?_)⟩, by omega⟩
      · show some (Value.int .i32 _) = _
        rw [IntKind.wrap_i32]
        simp only [Option.some.injEq, Value.int.injEq, true_and]
        omega
      · skip
        rw [hP32] at hP
        exact ⟨⟨_, hn33, rfl, rfl⟩, hP⟩
    have hge32 : ¬ (i32 : Int) < n32 := of_decide_eq_false h9
    obtain ⟨l34, s34, hone34, hl34, hr34, H⟩ := H.done hge32 hln32 (nl := nlF (.mk 11 0 (-1) (-1) (-1) 0 3 []) v) (sz := elZ true 7 3 []) rfl hpL32 rfl
    ((conv=>whnf);repeat(first|(refine mvT ?_;conv=>whnf)|(refine mvF ?_;conv=>whnf)|(refine cT (by rfl) ?_;conv=>whnf)|(refine cF (by rfl) ?_;conv=>whnf)))
    obtain ⟨P35, hP35⟩ : ∃ P : World → Prop, P = fun w => ListR true (elZ true 7 3 []) (elQ true 7 3 [] ⟨w, fun k => k ≠ p⟩) w (fun k => k ≠ p) a32 (.mk 0 [] (decide (n32 ≤ 0)) l34 []) ∧ P28 w := ⟨_, rfl⟩
    replace H : St w0 G0 p pb s34 ((g28, 91, es28.flatten ++ [bcell u29_0, bcell u29_1, bcell u29_2, bcell u29_3, bcell u29_4, bcell u29_5, bcell u29_6, bcell u29_7, bcell u29_8, bcell u29_9, bcell u29_10, bcell u29_11, bcell u29_12, bcell u29_13, bcell u29_14, bcell u29_15, .slice none 0 0, .map none] ++ ((List.replicate (n28.toNat - (i28 + 1)) [.int .u8 0, .int .u8 0, .int .u8 0, .int .u8 0, .int .u8 0, .int .u8 0, .int .u8 0, .int .u8 0, .int .u8 0, .int .u8 0, .int .u8 0, .int .u8 0, .int .u8 0, .int .u8 0, .int .u8 0, .int .u8 0, .slice none 0 0, .map none]).flatten ++ post28)) :: L28) P35 w := by rw [hP35]; exact H
    refine H.st1 (v := a32) 16 (cells_one hone34) (hone34) rfl (by first | omega | (simp [hlen1]; done) | (simp [hlen1]; omega)) rfl (Nat.lt_of_lt_of_le (Nat.lt_succ_self _) (Nat.le_of_ble_eq_true rfl)) ?_
    intro w H
    ((conv=>whnf);repeat(first|(refine mvT ?_;conv=>whnf)|(refine mvF ?_;conv=>whnf)|(refine cT (by rfl) ?_;conv=>whnf)|(refine cF (by rfl) ?_;conv=>whnf)))
    replace H : St w0 G0 p pb s34 ((g28, 91, es28.flatten ++ [bcell u29_0, bcell u29_1, bcell u29_2, bcell u29_3, bcell u29_4, bcell u29_5, bcell u29_6, bcell u29_7, bcell u29_8, bcell u29_9, bcell u29_10, bcell u29_11, bcell u29_12, bcell u29_13, bcell u29_14, bcell u29_15, a32, .map none] ++ ((List.replicate (n28.toNat - (i28 + 1)) [.int .u8 0, .int .u8 0, .int .u8 0, .int .u8 0, .int .u8 0, .int .u8 0, .int .u8 0, .int .u8 0, .int .u8 0, .int .u8 0, .int .u8 0, .int .u8 0, .int .u8 0, .int .u8 0, .int .u8 0, .int .u8 0, .slice none 0 0, .map none]).flatten ++ post28)) :: L28) P35 w := H
    (refine mvB ?_;((conv=>whnf);repeat(first|(refine mvT ?_;conv=>whnf)|(refine mvF ?_;conv=>whnf)|(refine cT (by rfl) ?_;conv=>whnf)|(refine cF (by rfl) ?_;conv=>whnf))))
    refine VC.cutB (fun q : Value × List Tg × Rd => [(0, .pointer (some ⟨p, 0, none⟩)), (2, .bool true), (7, .pointer (some ⟨pb, 0, none⟩)), (8, .int .i16 v), (9, .bool fx), (10, .pointer (some ⟨p, 0, none⟩)), (26, .int .i32 n28), (25, .slice (some ⟨g28, 0, none⟩) n28.toNat cap28), (27, .int .i32 i28), (28, .pointer (some ⟨g28, 0 + (i28 : Int).toNat * 18, none⟩)), (29, .pointer (some ⟨g28, 0 + (i28 : Int).toNat * 18, none⟩))]) (fun q w' => rdTagsF fx s34 = q.2 ∧ St w0 G0 p pb q.2.2 ((g28, 91, es28.flatten ++ [bcell u29_0, bcell u29_1, bcell u29_2, bcell u29_3, bcell u29_4, bcell u29_5, bcell u29_6, bcell u29_7, bcell u29_8, bcell u29_9, bcell u29_10, bcell u29_11, bcell u29_12, bcell u29_13, bcell u29_14, bcell u29_15, a32, q.1] ++ ((List.replicate (n28.toNat - (i28 + 1)) [.int .u8 0, .int .u8 0, .int .u8 0, .int .u8 0, .int .u8 0, .int .u8 0, .int .u8 0, .int .u8 0, .int .u8 0, .int .u8 0, .int .u8 0, .int .u8 0, .int .u8 0, .int .u8 0, .int .u8 0, .int .u8 0, .slice none 0 0, .map none]).flatten ++ post28)) :: L28) (fun w => TGf p q.1 q.2.1 w ∧ P35 w) w') ?_ ?_
    · refine cI (by rfl) (fun hc=>?_) (fun hc=>?_)
      · ((conv=>whnf);repeat(first|(refine mvT ?_;conv=>whnf)|(refine mvF ?_;conv=>whnf)|(refine cT (by rfl) ?_;conv=>whnf)|(refine cF (by rfl) ?_;conv=>whnf)))
        refine Does.mono H.tags ?_
        rintro r w ⟨m, u, s', rfl, hone, hr, H⟩
        ((conv=>whnf);repeat(first|(refine mvT ?_;conv=>whnf)|(refine mvF ?_;conv=>whnf)|(refine cT (by rfl) ?_;conv=>whnf)|(refine cF (by rfl) ?_;conv=>whnf)))
        refine H.st1 (v := m) 17 (rfl) (hone) rfl (by first | omega | (simp [hlen1]; done) | (simp [hlen1]; omega)) rfl (Nat.lt_of_lt_of_le (Nat.lt_succ_self _) (Nat.le_of_ble_eq_true rfl)) ?_
        intro w H
        ((conv=>whnf);repeat(first|(refine mvT ?_;conv=>whnf)|(refine mvF ?_;conv=>whnf)|(refine cT (by rfl) ?_;conv=>whnf)|(refine cF (by rfl) ?_;conv=>whnf)))
        exact ⟨(m, u, s'), ⟨rfl, rfl, rfl, rfl, rfl, rfl, rfl, rfl, rfl, rfl, rfl, trivial⟩, by rw [rdTagsF, if_pos hc]; exact hr, H⟩
      · ((conv=>whnf);repeat(first|(refine mvT ?_;conv=>whnf)|(refine mvF ?_;conv=>whnf)|(refine cT (by rfl) ?_;conv=>whnf)|(refine cF (by rfl) ?_;conv=>whnf)))
        exact ⟨(.map none, [], s34), ⟨rfl, rfl, rfl, rfl, rfl, rfl, rfl, rfl, rfl, rfl, rfl, trivial⟩, by rw [rdTagsF, if_neg (by rw [hc]; decide)], H.add fun w' _ => TagsR.nil _ _⟩
    clear H
    rintro ⟨m37, u37, s37⟩ w ⟨htg, H⟩
    dsimp only at htg H
    ((conv=>whnf);repeat(first|(refine mvT ?_;conv=>whnf)|(refine mvF ?_;conv=>whnf)|(refine cT (by rfl) ?_;conv=>whnf)|(refine cF (by rfl) ?_;conv=>whnf)))
    obtain ⟨P38, hP38⟩ : ∃ P : World → Prop, P = fun w => TGf p m37 u37 w ∧ P35 w := ⟨_, rfl⟩
    replace H : St w0 G0 p pb s37 ((g28, 91, es28.flatten ++ [bcell u29_0, bcell u29_1, bcell u29_2, bcell u29_3, bcell u29_4, bcell u29_5, bcell u29_6, bcell u29_7, bcell u29_8, bcell u29_9, bcell u29_10, bcell u29_11, bcell u29_12, bcell u29_13, bcell u29_14, bcell u29_15, a32, m37] ++ ((List.replicate (n28.toNat - (i28 + 1)) [.int .u8 0, .int .u8 0, .int .u8 0, .int .u8 0, .int .u8 0, .int .u8 0, .int .u8 0, .int .u8 0, .int .u8 0, .int .u8 0, .int .u8 0, .int .u8 0, .int .u8 0, .int .u8 0, .int .u8 0, .int .u8 0, .slice none 0 0, .map none]).flatten ++ post28)) :: L28) P38 w := by rw [hP38]; exact H
    have hpart : rdPart 8 v fx dConsumerGroupHeartbeatRequestTopic si28 = (.mk 0 [] false [.mk 0 [u29_0, u29_1, u29_2, u29_3, u29_4, u29_5, u29_6, u29_7, u29_8, u29_9, u29_10, u29_11, u29_12, u29_13, u29_14, u29_15] false [] [], .mk 0 [] (decide (n32 ≤ 0)) l34 []] u37, s37) := by
      unfold rdPart rdPartW
      rw [rdAll_yes (df := dfT 8) (rdField7.trans hr29) ⟨by decide, has_all hv⟩, rdAll_yes (df := dfT 8) ((rdField_list _ _ _ _ _ _ _ _ _ _ _).trans hr34) ⟨by decide, has_all hv⟩]
      simp only [rdAll]
      rw [htg]
    refine ⟨i28 + 1, ⟨rfl, rfl, ?_, rfl, rfl, rfl, rfl, rfl, rfl, trivial⟩, ⟨by omega, ListI.back hgo28 (LoopI.next hes28 hez28 hrn28 hts28 (cur := [bcell u29_0, bcell u29_1, bcell u29_2, bcell u29_3, bcell u29_4, bcell u29_5, bcell u29_6, bcell u29_7, bcell u29_8, bcell u29_9, bcell u29_10, bcell u29_11, bcell u29_12, bcell u29_13, bcell u29_14, bcell u29_15, a32, m37]) (x := .mk 0 [] false [.mk 0 [u29_0, u29_1, u29_2, u29_3, u29_4, u29_5, u29_6, u29_7, u29_8, u29_9, u29_10, u29_11, u29_12, u29_13, u29_14, u29_15] false [] [], .mk 0 [] (decide (n32 ≤ 0)) l34 []] u37) (hpart) rfl (by rw [← hL28]; exact H) fun w hP => ?_)⟩, by omega⟩
    · show some (Value.int .i32 _) = _
      rw [IntKind.wrap_i32]
      simp only [Option.some.injEq, Value.int.injEq, true_and]
      omega
    · skip
      rw [hP38] at hP
      obtain ⟨hf38_, hP⟩ := hP
      rw [hP35] at hP
      obtain ⟨hf35_, hP⟩ := hP
      rw [hP28] at hP
      exact ⟨QPt (QA1 (QF7 (u := [u29_0, u29_1, u29_2, u29_3, u29_4, u29_5, u29_6, u29_7, u29_8, u29_9, u29_10, u29_11, u29_12, u29_13, u29_14, u29_15]) rfl) (QA1 (QF11 hl34 hf35_) (QA0))) hf38_, hP⟩
  have hge28 : ¬ (i28 : Int) < n28 := of_decide_eq_false h9
  obtain ⟨l39, s39, hone39, hl39, hr39, H⟩ := H.done hge28 hln28 (nl := nlF (.mk 11 0 (-1) 0 (-1) 0 10 dConsumerGroupHeartbeatRequestTopic) v) (sz := elZ true 8 10 dConsumerGroupHeartbeatRequestTopic) rfl hpL28 rfl
  ((conv=>whnf);repeat(first|(refine mvT ?_;conv=>whnf)|(refine mvF ?_;conv=>whnf)|(refine cT (by rfl) ?_;conv=>whnf)|(refine cF (by rfl) ?_;conv=>whnf)))
  obtain ⟨P40, hP40⟩ : ∃ P : World → Prop, P = fun w => ListR true (elZ true 8 10 dConsumerGroupHeartbeatRequestTopic) (elQ true 8 10 dConsumerGroupHeartbeatRequestTopic ⟨w, fun k => k ≠ p⟩) w (fun k => k ≠ p) a28 (.mk 0 [] ((decide (n28 < 0) && decide (0 ≤ v))) l39 []) ∧ P26 w := ⟨_, rfl⟩
  replace H : St w0 G0 p pb s39 ((p, ty, [] ++ [.int .i16 v, str u1, str u3, .int .i32 n5, c7, c10, .int .i32 n13, a15, c20, c25, .slice none 0 0, .map none] ++ []) :: []) P40 w := by rw [hP40]; exact H
  refine H.st1 (v := a28) 10 (cells_one hone39) (hone39) rfl (by simp) rfl (Nat.lt_of_lt_of_le (Nat.lt_succ_self _) (Nat.le_of_ble_eq_true rfl)) ?_
  intro w H
  ((conv=>whnf);repeat(first|(refine mvT ?_;conv=>whnf)|(refine mvF ?_;conv=>whnf)|(refine cT (by rfl) ?_;conv=>whnf)|(refine cF (by rfl) ?_;conv=>whnf)))
  replace H : St w0 G0 p pb s39 ((p, ty, [] ++ [.int .i16 v, str u1, str u3, .int .i32 n5, c7, c10, .int .i32 n13, a15, c20, c25, a28, .map none] ++ []) :: []) P40 w := H
  (refine mvB ?_;((conv=>whnf);repeat(first|(refine mvT ?_;conv=>whnf)|(refine mvF ?_;conv=>whnf)|(refine cT (by rfl) ?_;conv=>whnf)|(refine cF (by rfl) ?_;conv=>whnf))))
  refine VC.cutE (fun q : Value × List Tg × Rd => [(0, .pointer (some ⟨p, 0, none⟩)), (2, .bool true), (7, .pointer (some ⟨pb, 0, none⟩)), (8, .int .i16 v), (9, .bool fx), (10, .pointer (some ⟨p, 0, none⟩))]) (fun q w' => rdTagsF fx s39 = q.2 ∧ St w0 G0 p pb q.2.2 ((p, ty, [] ++ [.int .i16 v, str u1, str u3, .int .i32 n5, c7, c10, .int .i32 n13, a15, c20, c25, a28, q.1] ++ []) :: []) (fun w => TGf p q.1 q.2.1 w ∧ P40 w) w') ?_ ?_
  · refine cI (by rfl) (fun hc=>?_) (fun hc=>?_)
    · ((conv=>whnf);repeat(first|(refine mvT ?_;conv=>whnf)|(refine mvF ?_;conv=>whnf)|(refine cT (by rfl) ?_;conv=>whnf)|(refine cF (by rfl) ?_;conv=>whnf)))
      refine Does.mono H.tags ?_
      rintro r w ⟨m, u, s', rfl, hone, hr, H⟩
      ((conv=>whnf);repeat(first|(refine mvT ?_;conv=>whnf)|(refine mvF ?_;conv=>whnf)|(refine cT (by rfl) ?_;conv=>whnf)|(refine cF (by rfl) ?_;conv=>whnf)))
      refine H.st1 (v := m) 11 (rfl) (hone) rfl (by simp) rfl (Nat.lt_of_lt_of_le (Nat.lt_succ_self _) (Nat.le_of_ble_eq_true rfl)) ?_
      intro w H
      ((conv=>whnf);repeat(first|(refine mvT ?_;conv=>whnf)|(refine mvF ?_;conv=>whnf)|(refine cT (by rfl) ?_;conv=>whnf)|(refine cF (by rfl) ?_;conv=>whnf)))
      exact ⟨(m, u, s'), ⟨rfl, rfl, rfl, rfl, rfl, rfl, trivial⟩, by rw [rdTagsF, if_pos hc]; exact hr, H⟩
    · ((conv=>whnf);repeat(first|(refine mvT ?_;conv=>whnf)|(refine mvF ?_;conv=>whnf)|(refine cT (by rfl) ?_;conv=>whnf)|(refine cF (by rfl) ?_;conv=>whnf)))
      exact ⟨(.map none, [], s39), ⟨rfl, rfl, rfl, rfl, rfl, rfl, trivial⟩, by rw [rdTagsF, if_neg (by rw [hc]; decide)], H.add fun w' _ => TagsR.nil _ _⟩
  clear H
  rintro ⟨m42, u42, s42⟩ w ⟨htg, H⟩
  dsimp only at htg H
  ((conv=>whnf);repeat(first|(refine mvT ?_;conv=>whnf)|(refine mvF ?_;conv=>whnf)|(refine cT (by rfl) ?_;conv=>whnf)|(refine cF (by rfl) ?_;conv=>whnf)))
  obtain ⟨P43, hP43⟩ : ∃ P : World → Prop, P = fun w => TGf p m42 u42 w ∧ P40 w := ⟨_, rfl⟩
  replace H : St w0 G0 p pb s42 ((p, ty, [] ++ [.int .i16 v, str u1, str u3, .int .i32 n5, c7, c10, .int .i32 n13, a15, c20, c25, a28, m42] ++ []) :: []) P43 w := by rw [hP43]; exact H
  have hpart : rdPart 9 v fx dConsumerGroupHeartbeatRequest (l, false) = (.mk 0 [] false [.mk 0 u1 false [] [], .mk 0 u3 false [] [], numT n5, .mk 0 u7 nl7 [] [], .mk 0 u10 nl10 [] [], numT n13, .mk 0 [] ((decide (n15 < 0) && decide (0 ≤ v))) l17 [], .mk 0 u20 nl20 [] [], .mk 0 u25 nl25 [] [], .mk 0 [] ((decide (n28 < 0) && decide (0 ≤ v))) l39 []] u42, s42) := by
    unfold rdPart rdPartW
    rw [rdAll_yes (df := dfT 9) (rdField8 (by decide) hr1) ⟨by decide, has_all hv⟩, rdAll_yes (df := dfT 9) (rdField8 (by decide) hr3) ⟨by decide, has_all hv⟩, rdAll_yes (df := dfT 9) (rdField3.trans hr5) ⟨by decide, has_all hv⟩, rdAll_yes (df := dfT 9) ((rdField8n (by decide)).trans hr7) ⟨by decide, has_all hv⟩, rdAll_yes (df := dfT 9) ((rdField8n (by decide)).trans hr10) ⟨by decide, has_all hv⟩, rdAll_yes (df := dfT 9) (rdField3.trans hr13) ⟨by decide, has_all hv⟩, rdAll_yes (df := dfT 9) ((rdField_list _ _ _ _ _ _ _ _ _ _ _).trans hr17) ⟨by decide, has_all hv⟩, rdAll_ver hr20 (by decide), rdAll_yes (df := dfT 9) ((rdField8n (by decide)).trans hr25) ⟨by decide, has_all hv⟩, rdAll_yes (df := dfT 9) ((rdField_list _ _ _ _ _ _ _ _ _ _ _).trans hr39) ⟨by decide, has_all hv⟩]
    simp only [rdAll]
    rw [htg]
  refine Does.mono (H.done hL hp1) ?_
  rintro r w ⟨rfl, H⟩
  ((conv=>whnf);repeat(first|(refine mvT ?_;conv=>whnf)|(refine mvF ?_;conv=>whnf)|(refine cT (by rfl) ?_;conv=>whnf)|(refine cF (by rfl) ?_;conv=>whnf)))
  refine RdPost.end hpart H fun hP => ?_
  rw [hP43] at hP
  obtain ⟨hf43_, hP⟩ := hP
  rw [hP40] at hP
  obtain ⟨hf40_, hP⟩ := hP
  rw [hP26] at hP
  obtain ⟨hf26_, hP⟩ := hP
  rw [hP24] at hP
  obtain ⟨hf24_, hP⟩ := hP
  rw [hP18] at hP
  obtain ⟨hf18_, hP⟩ := hP
  rw [hP11] at hP
  obtain ⟨hf11_, hP⟩ := hP
  rw [hP8] at hP
  obtain ⟨hf8_, hP⟩ := hP
  exact QPt (QA1 (QF8 (by decide) u1) (QA1 (QF8 (by decide) u3) (QA1 (QF3 hn5) (QA1 (QF8n (by decide) hnl7 hf8_) (QA1 (QF8n (by decide) hnl10 hf11_) (QA1 (QF3 hn13) (QA1 (QF11 hl17 hf18_) (QA1 (QF8n (by decide) hnl20 hf24_) (QA1 (QF8n (by decide) hnl25 hf26_) (QA1 (QF11 hl39 hf40_) (QA0))))))))))) hf43_
theorem newConsumerGroupHeartbeatRequest (w : World) : Does X.P 41 #[] w fun r w' => ∃ p, r = .pointer (some ⟨p, 0, none⟩) ∧ w.heap.size ≤ p ∧ Own w' p 84 [.int .i16 0, str [], str [], .int .i32 0, .pointer none, .pointer none, .int .i32 (-1), .slice none 0 0, .pointer none, .pointer none, .slice none 0 0, .map none] ∧ Ext nob w w' := by
  refine Does.go (X := X) (l := []) Tryd.func41 rfl (by kernel_rfl) (by kernel_rfl) _ rfl ?_
  ((conv=>whnf);repeat(first|(refine mvT ?_;conv=>whnf)|(refine mvF ?_;conv=>whnf)|(refine cT (by rfl) ?_;conv=>whnf)|(refine cF (by rfl) ?_;conv=>whnf)))
  intro p w1 hp ho hx
  ((conv=>whnf);repeat(first|(refine mvT ?_;conv=>whnf)|(refine mvF ?_;conv=>whnf)|(refine cT (by rfl) ?_;conv=>whnf)|(refine cF (by rfl) ?_;conv=>whnf)))
  refine Does.mono (dfConsumerGroupHeartbeatRequest (pre := []) (cur := [.int .i16 0, str [], str [], .int .i32 0, .pointer none, .pointer none, .int .i32 0, .slice none 0 0, .pointer none, .pointer none, .slice none 0 0, .map none]) (post := []) (by simpa using ho) rfl rfl) ?_;rintro r2 w2 ⟨hd, hx2⟩;((conv=>whnf);repeat(first|(refine mvT ?_;conv=>whnf)|(refine mvF ?_;conv=>whnf)|(refine cT (by rfl) ?_;conv=>whnf)|(refine cF (by rfl) ?_;conv=>whnf)))
  exact ⟨p, rfl, hp, by simpa using hd, hx.st hx2 hp⟩
theorem maxConsumerGroupHeartbeatRequest (w : World) : Does X.P 19 #[] w fun r w' => r = .int .i64 1 ∧ Ext nob w w' := by
  have hmax : ∀ (p : Nat) (w : World), Does X.P 42 #[.pointer (some ⟨p, 0, none⟩)] w fun r w' => r = .int .i16 1 ∧ w' = w := by
    intro p w
    refine Does.go (X := X) (l := [_]) Tryd.func42 rfl (by kernel_rfl) (by kernel_rfl) _ rfl ?_
    ((conv=>whnf);repeat(first|(refine mvT ?_;conv=>whnf)|(refine mvF ?_;conv=>whnf)|(refine cT (by rfl) ?_;conv=>whnf)|(refine cF (by rfl) ?_;conv=>whnf)))
    exact ⟨rfl, rfl⟩
  refine Does.go (X := X) (l := []) Tryd.func19 rfl (by kernel_rfl) (by kernel_rfl) _ rfl ?_
  ((conv=>whnf);repeat(first|(refine mvT ?_;conv=>whnf)|(refine mvF ?_;conv=>whnf)|(refine cT (by rfl) ?_;conv=>whnf)|(refine cF (by rfl) ?_;conv=>whnf)))
  refine Does.mono (newConsumerGroupHeartbeatRequest w) ?_;rintro r1 w1 ⟨p, rfl, _, _, hx⟩;((conv=>whnf);repeat(first|(refine mvT ?_;conv=>whnf)|(refine mvF ?_;conv=>whnf)|(refine cT (by rfl) ?_;conv=>whnf)|(refine cF (by rfl) ?_;conv=>whnf)))
  refine Does.mono (hmax p w1) ?_;rintro r2 w2 ⟨rfl, rfl⟩;((conv=>whnf);repeat(first|(refine mvT ?_;conv=>whnf)|(refine mvF ?_;conv=>whnf)|(refine cT (by rfl) ?_;conv=>whnf)|(refine cF (by rfl) ?_;conv=>whnf)))
  exact ⟨rfl, hx⟩
theorem anyConsumerGroupHeartbeatRequest {G : Nat → Prop} {w : World} {v : Int} {x ev : Value} {s : List UInt8} (hL : Laid w ev) (hx : Bytes w G x s) (hv : 0 ≤ v) (hv2 : v < 32768) (hs : s.length ≤ 1000) :
    Does X.P 20 #[.int .i64 v, x] w fun r w' => ∃ o t', r = .tuple #[o, .bool (!(rdPart 9 v (decide (v ≥ 0)) dConsumerGroupHeartbeatRequest (s, false)).2.2)] ∧ ((rdPart 9 v (decide (v ≥ 0)) dConsumerGroupHeartbeatRequest (s, false)).2.2 = false → Nrm (rdPart 9 v (decide (v ≥ 0)) dConsumerGroupHeartbeatRequest (s, false)).1 t') ∧ Tr w' (fun k => w.heap.size ≤ k) o t' ∧ Ext nob w w' := by
  have hv16 : IntKind.i16.wrap v = v := by
    simp only [IntKind.wrap, IntKind.bits, IntKind.signed]
    simp
    omega
  have hok : ∀ f, f ∈ dConsumerGroupHeartbeatRequest → okF 9 f = true := List.all_eq_true.1 (show (dConsumerGroupHeartbeatRequest).all (okF 9) = true by decide)
  obtain ⟨ax, cx, rfl, _⟩ := hx.view
  have hL1 := hL.lt
  refine Does.go (X := X) (l := [_, _]) Tryd.func20 rfl (by kernel_rfl) (by kernel_rfl) _ rfl ?_
  ((conv=>whnf);repeat(first|(refine mvT ?_;conv=>whnf)|(refine mvF ?_;conv=>whnf)|(refine cT (by rfl) ?_;conv=>whnf)|(refine cF (by rfl) ?_;conv=>whnf)))
  intro b w0 hb ho hx0
  ((conv=>whnf);repeat(first|(refine mvT ?_;conv=>whnf)|(refine mvF ?_;conv=>whnf)|(refine cT (by rfl) ?_;conv=>whnf)|(refine cF (by rfl) ?_;conv=>whnf)))
  refine Does.mono (newConsumerGroupHeartbeatRequest w0) ?_;rintro r1 w1 ⟨p, rfl, hwp, hop, hx1⟩;((conv=>whnf);repeat(first|(refine mvT ?_;conv=>whnf)|(refine mvF ?_;conv=>whnf)|(refine cT (by rfl) ?_;conv=>whnf)|(refine cF (by rfl) ?_;conv=>whnf)))
  have hwp : w.heap.size ≤ p := Nat.le_trans hx0.size hwp
  have hpb : p ≠ b := by have := ho.lt; omega
  have hx01 := hx0.e0 hx1
  have hset : Does X.P 43 #[.pointer (some ⟨p, 0, none⟩), .int .i16 (IntKind.i16.wrap v)] w1 fun r w' => Own w' p 84 [.int .i16 v, str [], str [], .int .i32 0, .pointer none, .pointer none, .int .i32 (-1), .slice none 0 0, .pointer none, .pointer none, .slice none 0 0, .map none] ∧ Ext (fun k => k = p) w1 w' := by
    rw [hv16]
    refine Does.go (X := X) (l := [_, _]) Tryd.func43 rfl (by kernel_rfl) (by kernel_rfl) _ rfl ?_
    ((conv=>whnf);repeat(first|(refine mvT ?_;conv=>whnf)|(refine mvF ?_;conv=>whnf)|(refine cT (by rfl) ?_;conv=>whnf)|(refine cF (by rfl) ?_;conv=>whnf)))
    refine ⟨_, _, hop, rfl, rfl, rfl, ?_⟩
    intro w3 ho3 hx3
    ((conv=>whnf);repeat(first|(refine mvT ?_;conv=>whnf)|(refine mvF ?_;conv=>whnf)|(refine cT (by rfl) ?_;conv=>whnf)|(refine cF (by rfl) ?_;conv=>whnf)))
    exact ⟨ho3, hx3⟩
  refine Does.mono (hset) ?_;rintro r2 w2 ⟨hop2, hx2⟩;((conv=>whnf);repeat(first|(refine mvT ?_;conv=>whnf)|(refine mvF ?_;conv=>whnf)|(refine cT (by rfl) ?_;conv=>whnf)|(refine cF (by rfl) ?_;conv=>whnf)))
  have hx02 := hx01.st hx2 hwp
  have ho2 := (ho.e0 hx1).ext hx2 (fun e => hpb e.symm)
  refine app_bytes rfl rfl (OB.nil w2 w2.heap.size) (hx.e0 hx02).src rfl (by simp only [List.length_nil]; omega) (Nat.le_refl _) ?_
  intro x3 w3 h3 hx3 _ _
  ((conv=>whnf);repeat(first|(refine mvT ?_;conv=>whnf)|(refine mvF ?_;conv=>whnf)|(refine cT (by rfl) ?_;conv=>whnf)|(refine cF (by rfl) ?_;conv=>whnf)))
  rw [List.nil_append] at h3
  have hx3 : Ext nob w2 w3 := hx3.mono fun k _ h => by simp [Value.ownBlock] at h
  have hx03 := hx02.e0 hx3
  have hpl := hop2.lt
  have hread : Does X.P 44 #[.pointer (some ⟨p, 0, none⟩), x3] w3 fun r w' => RdPost w3 p 84 v (decide (v ≥ 0)) true dConsumerGroupHeartbeatRequest ev s r w' := by
    obtain ⟨a3, c3, rfl, _⟩ := h3.shape
    refine Does.go (X := X) (l := [_, _]) Tryd.func44 rfl (by kernel_rfl) (by kernel_rfl) _ rfl ?_
    ((conv=>whnf);repeat(first|(refine mvT ?_;conv=>whnf)|(refine mvF ?_;conv=>whnf)|(refine cT (by rfl) ?_;conv=>whnf)|(refine cF (by rfl) ?_;conv=>whnf)))
    refine Does.mono (readConsumerGroupHeartbeatRequest (hL.ext hx03 fun f => f) (hop2.e0 hx3) (h3.bytes (F := fun k => k ≠ p) fun k hk => by omega) (fun k h => h) hv (by omega)) ?_;rintro r w' h;((conv=>whnf);repeat(first|(refine mvT ?_;conv=>whnf)|(refine mvF ?_;conv=>whnf)|(refine cT (by rfl) ?_;conv=>whnf)|(refine cF (by rfl) ?_;conv=>whnf)))
    exact h
  refine Does.mono hread ?_
  rintro r4 w4 ⟨hr4, hx4, hpost⟩
  have hlg := rdPart_lg (B := 1000) (Nat.le_refl _) 9 v (decide (v ≥ 0)) dConsumerGroupHeartbeatRequest hok (by decide) (s, false) hs
  generalize rdPart 9 v (decide (v ≥ 0)) dConsumerGroupHeartbeatRequest (s, false) = R at hr4 hpost hlg ⊢
  have hx04 := hx03.st hx4 hwp
  have ho4 := (ho2.e0 hx3).ext hx4 (fun e => hpb e.symm)
  have hbl4 := ho4.lt
  have hsz4 := hx04.size
  cases hbad : R.2.2 with
  | true =>
    rw [hbad, if_pos rfl] at hr4
    obtain ⟨te, xe, hev⟩ := hL.iface
    rw [hev] at hr4
    subst hr4
    ((conv=>whnf);repeat(first|(refine mvT ?_;conv=>whnf)|(refine mvF ?_;conv=>whnf)|(refine cT (by rfl) ?_;conv=>whnf)|(refine cF (by rfl) ?_;conv=>whnf)))
    refine st_all [.int .i64 0, .slice none 0 0, .bool false, .slice none 0 0, .slice none 0 0] ho4 rfl rfl rfl ?_
    intro w6 ho6 hx6
    ((conv=>whnf);repeat(first|(refine mvT ?_;conv=>whnf)|(refine mvF ?_;conv=>whnf)|(refine cT (by rfl) ?_;conv=>whnf)|(refine cF (by rfl) ?_;conv=>whnf)))
    refine ⟨_, rfl, ho6.cells, ?_⟩
    exact ⟨_, T.zero, rfl, fun h => (by cases h), ⟨_, rfl, TrC.leaf rfl (Bytes.nil _ _)⟩, hx04.st hx6 hb⟩
  | false =>
    rw [hbad, if_neg Bool.false_ne_true] at hr4
    subst hr4
    obtain ⟨cs, hop4, hq⟩ := hpost hbad
    have hlim := (hlg hbad).1.lim (by decide)
    ((conv=>whnf);repeat(first|(refine mvT ?_;conv=>whnf)|(refine mvF ?_;conv=>whnf)|(refine cT (by rfl) ?_;conv=>whnf)|(refine cF (by rfl) ?_;conv=>whnf)))
    refine Does.mono (tellConsumerGroupHeartbeatRequest hop4.cells hq hlim) ?_
    rintro r5 w5 ⟨t', hn, ⟨cr, rfl, htr⟩, hx5⟩
    have hlen5 := htr.len
    have hok5 := htr.ok
    ((conv=>whnf);repeat(first|(refine mvT ?_;conv=>whnf)|(refine mvF ?_;conv=>whnf)|(refine cT (by rfl) ?_;conv=>whnf)|(refine cF (by rfl) ?_;conv=>whnf)))
    refine st_all cr (ho4.e0 hx5) hlen5 rfl hok5 ?_
    intro w6 ho6 hx6
    ((conv=>whnf);repeat(first|(refine mvT ?_;conv=>whnf)|(refine mvF ?_;conv=>whnf)|(refine cT (by rfl) ?_;conv=>whnf)|(refine cF (by rfl) ?_;conv=>whnf)))
    refine ⟨cr, hlen5, ho6.cells, ?_⟩
    exact ⟨_, t', rfl, fun _ => hn, ⟨_, rfl, (htr.ext hx6 fun k _ h e => by omega).mono fun k _ h => by omega⟩, (hx04.e0 hx5).st hx6 hb⟩
theorem uanyConsumerGroupHeartbeatRequest {G : Nat → Prop} {w : World} {v : Int} {x ev : Value} {s : List UInt8} (hL : Laid w ev) (hx : Bytes w G x s) (hv : 0 ≤ v) (hv2 : v < 32768) (hs : s.length ≤ 1000) :
    Does X.P 21 #[.int .i64 v, x] w fun r w' => ∃ o t', r = .tuple #[o, .bool (!(rdPart 9 v (decide (v ≥ 0)) dConsumerGroupHeartbeatRequest (s, false)).2.2)] ∧ ((rdPart 9 v (decide (v ≥ 0)) dConsumerGroupHeartbeatRequest (s, false)).2.2 = false → Nrm (rdPart 9 v (decide (v ≥ 0)) dConsumerGroupHeartbeatRequest (s, false)).1 t') ∧ Tr w' (fun k => w.heap.size ≤ k) o t' ∧ Ext nob w w' := by
  have hv16 : IntKind.i16.wrap v = v := by
    simp only [IntKind.wrap, IntKind.bits, IntKind.signed]
    simp
    omega
  have hok : ∀ f, f ∈ dConsumerGroupHeartbeatRequest → okF 9 f = true := List.all_eq_true.1 (show (dConsumerGroupHeartbeatRequest).all (okF 9) = true by decide)
  obtain ⟨ax, cx, rfl, _⟩ := hx.view
  have hL1 := hL.lt
  refine Does.go (X := X) (l := [_, _]) Tryd.func21 rfl (by kernel_rfl) (by kernel_rfl) _ rfl ?_
  ((conv=>whnf);repeat(first|(refine mvT ?_;conv=>whnf)|(refine mvF ?_;conv=>whnf)|(refine cT (by rfl) ?_;conv=>whnf)|(refine cF (by rfl) ?_;conv=>whnf)))
  intro b w0 hb ho hx0
  ((conv=>whnf);repeat(first|(refine mvT ?_;conv=>whnf)|(refine mvF ?_;conv=>whnf)|(refine cT (by rfl) ?_;conv=>whnf)|(refine cF (by rfl) ?_;conv=>whnf)))
  refine Does.mono (newConsumerGroupHeartbeatRequest w0) ?_;rintro r1 w1 ⟨p, rfl, hwp, hop, hx1⟩;((conv=>whnf);repeat(first|(refine mvT ?_;conv=>whnf)|(refine mvF ?_;conv=>whnf)|(refine cT (by rfl) ?_;conv=>whnf)|(refine cF (by rfl) ?_;conv=>whnf)))
  have hwp : w.heap.size ≤ p := Nat.le_trans hx0.size hwp
  have hpb : p ≠ b := by have := ho.lt; omega
  have hx01 := hx0.e0 hx1
  have hset : Does X.P 43 #[.pointer (some ⟨p, 0, none⟩), .int .i16 (IntKind.i16.wrap v)] w1 fun r w' => Own w' p 84 [.int .i16 v, str [], str [], .int .i32 0, .pointer none, .pointer none, .int .i32 (-1), .slice none 0 0, .pointer none, .pointer none, .slice none 0 0, .map none] ∧ Ext (fun k => k = p) w1 w' := by
    rw [hv16]
    refine Does.go (X := X) (l := [_, _]) Tryd.func43 rfl (by kernel_rfl) (by kernel_rfl) _ rfl ?_
    ((conv=>whnf);repeat(first|(refine mvT ?_;conv=>whnf)|(refine mvF ?_;conv=>whnf)|(refine cT (by rfl) ?_;conv=>whnf)|(refine cF (by rfl) ?_;conv=>whnf)))
    refine ⟨_, _, hop, rfl, rfl, rfl, ?_⟩
    intro w3 ho3 hx3
    ((conv=>whnf);repeat(first|(refine mvT ?_;conv=>whnf)|(refine mvF ?_;conv=>whnf)|(refine cT (by rfl) ?_;conv=>whnf)|(refine cF (by rfl) ?_;conv=>whnf)))
    exact ⟨ho3, hx3⟩
  refine Does.mono (hset) ?_;rintro r2 w2 ⟨hop2, hx2⟩;((conv=>whnf);repeat(first|(refine mvT ?_;conv=>whnf)|(refine mvF ?_;conv=>whnf)|(refine cT (by rfl) ?_;conv=>whnf)|(refine cF (by rfl) ?_;conv=>whnf)))
  have hx02 := hx01.st hx2 hwp
  have ho2 := (ho.e0 hx1).ext hx2 (fun e => hpb e.symm)
  refine app_bytes rfl rfl (OB.nil w2 w2.heap.size) (hx.e0 hx02).src rfl (by simp only [List.length_nil]; omega) (Nat.le_refl _) ?_
  intro x3 w3 h3 hx3 _ _
  ((conv=>whnf);repeat(first|(refine mvT ?_;conv=>whnf)|(refine mvF ?_;conv=>whnf)|(refine cT (by rfl) ?_;conv=>whnf)|(refine cF (by rfl) ?_;conv=>whnf)))
  rw [List.nil_append] at h3
  have hx3 : Ext nob w2 w3 := hx3.mono fun k _ h => by simp [Value.ownBlock] at h
  have hx03 := hx02.e0 hx3
  have hpl := hop2.lt
  have hread : Does X.P 46 #[.pointer (some ⟨p, 0, none⟩), x3] w3 fun r w' => RdPost w3 p 84 v (decide (v ≥ 0)) true dConsumerGroupHeartbeatRequest ev s r w' := by
    obtain ⟨a3, c3, rfl, _⟩ := h3.shape
    refine Does.go (X := X) (l := [_, _]) Tryd.func46 rfl (by kernel_rfl) (by kernel_rfl) _ rfl ?_
    ((conv=>whnf);repeat(first|(refine mvT ?_;conv=>whnf)|(refine mvF ?_;conv=>whnf)|(refine cT (by rfl) ?_;conv=>whnf)|(refine cF (by rfl) ?_;conv=>whnf)))
    refine Does.mono (ureadConsumerGroupHeartbeatRequest (hL.ext hx03 fun f => f) (hop2.e0 hx3) (h3.bytes (F := fun k => k ≠ p) fun k hk => by omega) (fun k h => h) hv (by omega)) ?_;rintro r w' h;((conv=>whnf);repeat(first|(refine mvT ?_;conv=>whnf)|(refine mvF ?_;conv=>whnf)|(refine cT (by rfl) ?_;conv=>whnf)|(refine cF (by rfl) ?_;conv=>whnf)))
    exact h
  refine Does.mono hread ?_
  rintro r4 w4 ⟨hr4, hx4, hpost⟩
  have hlg := rdPart_lg (B := 1000) (Nat.le_refl _) 9 v (decide (v ≥ 0)) dConsumerGroupHeartbeatRequest hok (by decide) (s, false) hs
  generalize rdPart 9 v (decide (v ≥ 0)) dConsumerGroupHeartbeatRequest (s, false) = R at hr4 hpost hlg ⊢
  have hx04 := hx03.st hx4 hwp
  have ho4 := (ho2.e0 hx3).ext hx4 (fun e => hpb e.symm)
  have hbl4 := ho4.lt
  have hsz4 := hx04.size
  cases hbad : R.2.2 with
  | true =>
    rw [hbad, if_pos rfl] at hr4
    obtain ⟨te, xe, hev⟩ := hL.iface
    rw [hev] at hr4
    subst hr4
    ((conv=>whnf);repeat(first|(refine mvT ?_;conv=>whnf)|(refine mvF ?_;conv=>whnf)|(refine cT (by rfl) ?_;conv=>whnf)|(refine cF (by rfl) ?_;conv=>whnf)))
    refine st_all [.int .i64 0, .slice none 0 0, .bool false, .slice none 0 0, .slice none 0 0] ho4 rfl rfl rfl ?_
    intro w6 ho6 hx6
    ((conv=>whnf);repeat(first|(refine mvT ?_;conv=>whnf)|(refine mvF ?_;conv=>whnf)|(refine cT (by rfl) ?_;conv=>whnf)|(refine cF (by rfl) ?_;conv=>whnf)))
    refine ⟨_, rfl, ho6.cells, ?_⟩
    exact ⟨_, T.zero, rfl, fun h => (by cases h), ⟨_, rfl, TrC.leaf rfl (Bytes.nil _ _)⟩, hx04.st hx6 hb⟩
  | false =>
    rw [hbad, if_neg Bool.false_ne_true] at hr4
    subst hr4
    obtain ⟨cs, hop4, hq⟩ := hpost hbad
    have hlim := (hlg hbad).1.lim (by decide)
    ((conv=>whnf);repeat(first|(refine mvT ?_;conv=>whnf)|(refine mvF ?_;conv=>whnf)|(refine cT (by rfl) ?_;conv=>whnf)|(refine cF (by rfl) ?_;conv=>whnf)))
    refine Does.mono (tellConsumerGroupHeartbeatRequest hop4.cells hq hlim) ?_
    rintro r5 w5 ⟨t', hn, ⟨cr, rfl, htr⟩, hx5⟩
    have hlen5 := htr.len
    have hok5 := htr.ok
    ((conv=>whnf);repeat(first|(refine mvT ?_;conv=>whnf)|(refine mvF ?_;conv=>whnf)|(refine cT (by rfl) ?_;conv=>whnf)|(refine cF (by rfl) ?_;conv=>whnf)))
    refine st_all cr (ho4.e0 hx5) hlen5 rfl hok5 ?_
    intro w6 ho6 hx6
    ((conv=>whnf);repeat(first|(refine mvT ?_;conv=>whnf)|(refine mvF ?_;conv=>whnf)|(refine cT (by rfl) ?_;conv=>whnf)|(refine cF (by rfl) ?_;conv=>whnf)))
    refine ⟨cr, hlen5, ho6.cells, ?_⟩
    exact ⟨_, t', rfl, fun _ => hn, ⟨_, rfl, (htr.ext hx6 fun k _ h e => by omega).mono fun k _ h => by omega⟩, (hx04.e0 hx5).st hx6 hb⟩
theorem walkConsumerGroupHeartbeatRequest {w : World} {n : Nat} (hn : n < 256) {y ev : Value} {l : List UInt8} (hL : Laid w ev) (hy : Bytes w anyB y l) : Does X.P 6 #[.int .u8 n, y] w fun r w' => r = .bool true ∧ Ext nob w w' := by
  have hok : ∀ f, f ∈ dConsumerGroupHeartbeatRequest → okF 9 f = true := List.all_eq_true.1 (show (dConsumerGroupHeartbeatRequest).all (okF 9) = true by decide)
  obtain ⟨ay, cy, rfl, _⟩ := hy.view
  refine Does.go (X := X) (l := [_, _]) Tryd.func6 rfl (by kernel_rfl) (by kernel_rfl) _ rfl ?_
  ((conv=>whnf);repeat(first|(refine mvT ?_;conv=>whnf)|(refine mvF ?_;conv=>whnf)|(refine cT (by rfl) ?_;conv=>whnf)|(refine cF (by rfl) ?_;conv=>whnf)))
  refine cI (by rfl) (fun h0=>?_) (fun h0=>?_)
  · ((conv=>whnf);repeat(first|(refine mvT ?_;conv=>whnf)|(refine mvF ?_;conv=>whnf)|(refine cT (by rfl) ?_;conv=>whnf)|(refine cF (by rfl) ?_;conv=>whnf)))
    exact ⟨rfl, Ext.refl _ _⟩
  ((conv=>whnf);repeat(first|(refine mvT ?_;conv=>whnf)|(refine mvF ?_;conv=>whnf)|(refine cT (by rfl) ?_;conv=>whnf)|(refine cF (by rfl) ?_;conv=>whnf)))
  refine Does.mono (maxConsumerGroupHeartbeatRequest w) ?_;rintro r1 w1 ⟨rfl, hx1⟩;((conv=>whnf);repeat(first|(refine mvT ?_;conv=>whnf)|(refine mvF ?_;conv=>whnf)|(refine cT (by rfl) ?_;conv=>whnf)|(refine cF (by rfl) ?_;conv=>whnf)))
  refine cI (by rfl) (fun h2=>?_) (fun h2=>?_)
  · ((conv=>whnf);repeat(first|(refine mvT ?_;conv=>whnf)|(refine mvF ?_;conv=>whnf)|(refine cT (by rfl) ?_;conv=>whnf)|(refine cF (by rfl) ?_;conv=>whnf)))
    exact ⟨rfl, hx1⟩
  have hl1 : l.length ≤ 1000 := by have := of_decide_eq_false h2; omega
  ((conv=>whnf);repeat(first|(refine mvT ?_;conv=>whnf)|(refine mvF ?_;conv=>whnf)|(refine cT (by rfl) ?_;conv=>whnf)|(refine cF (by rfl) ?_;conv=>whnf)))
  refine Does.mono (version_does n 1 hn (by omega) w1) ?_;rintro r2 w2 ⟨rfl, rfl⟩;((conv=>whnf);repeat(first|(refine mvT ?_;conv=>whnf)|(refine mvF ?_;conv=>whnf)|(refine cT (by rfl) ?_;conv=>whnf)|(refine cF (by rfl) ?_;conv=>whnf)))
  generalize hvv : ((n % (1 + 1) : Nat) : Int) = v
  have hv0 : 0 ≤ v := by omega
  have hv1 : v < 32768 := by omega
  refine Does.mono (anyConsumerGroupHeartbeatRequest (v := v) (hL.ext hx1 fun f => f) (hy.e0 hx1) hv0 hv1 hl1) ?_
  rintro r3 w3 ⟨o3, t3, rfl, hn3, ⟨c3, rfl, hc3⟩, hx3⟩
  have hlen3 := hc3.len
  have hok3 := hc3.ok
  ((conv=>whnf);repeat(first|(refine mvT ?_;conv=>whnf)|(refine mvF ?_;conv=>whnf)|(refine cT (by rfl) ?_;conv=>whnf)|(refine cF (by rfl) ?_;conv=>whnf)))
  intro b4 w4 hb4 ho4 hx4
  ((conv=>whnf);repeat(first|(refine mvT ?_;conv=>whnf)|(refine mvF ?_;conv=>whnf)|(refine cT (by rfl) ?_;conv=>whnf)|(refine cF (by rfl) ?_;conv=>whnf)))
  refine st_all c3 ho4 hlen3 rfl hok3 ?_
  intro w5 ho5 hx5
  have hx35 : Ext nob w3 w5 := hx4.st hx5 hb4
  have hx05 := (hx1.e0 hx3).e0 hx35
  ((conv=>whnf);repeat(first|(refine mvT ?_;conv=>whnf)|(refine mvF ?_;conv=>whnf)|(refine cT (by rfl) ?_;conv=>whnf)|(refine cF (by rfl) ?_;conv=>whnf)))
  refine Does.mono (version_does n 1 hn (by omega) w5) ?_;rintro r6 w6 ⟨rfl, rfl⟩;((conv=>whnf);repeat(first|(refine mvT ?_;conv=>whnf)|(refine mvF ?_;conv=>whnf)|(refine cT (by rfl) ?_;conv=>whnf)|(refine cF (by rfl) ?_;conv=>whnf)))
  rw [hvv]
  refine Does.mono (uanyConsumerGroupHeartbeatRequest (v := v) (hL.ext hx05 fun f => f) (hy.e0 hx05) hv0 hv1 hl1) ?_
  rintro r7 w7 ⟨o7, t7, rfl, hn7, ⟨c7, rfl, hc7⟩, hx7⟩
  have hlen7 := hc7.len
  have hok7 := hc7.ok
  ((conv=>whnf);repeat(first|(refine mvT ?_;conv=>whnf)|(refine mvF ?_;conv=>whnf)|(refine cT (by rfl) ?_;conv=>whnf)|(refine cF (by rfl) ?_;conv=>whnf)))
  intro b8 w8 hb8 ho8 hx8
  ((conv=>whnf);repeat(first|(refine mvT ?_;conv=>whnf)|(refine mvF ?_;conv=>whnf)|(refine cT (by rfl) ?_;conv=>whnf)|(refine cF (by rfl) ?_;conv=>whnf)))
  refine st_all c7 ho8 hlen7 rfl hok7 ?_
  intro w9 ho9 hx9
  have hx79 : Ext nob w7 w9 := hx8.st hx9 hb8
  have hx09 := (hx05.e0 hx7).e0 hx79
  have hlg := rdPart_lg (B := 1000) (Nat.le_refl _) 9 v (decide (v ≥ 0)) dConsumerGroupHeartbeatRequest hok (by decide) (l, false) hl1
  have hxd : Ext nob w9 w9.drew := ext_drew _
  have ho5d := (ho5.e0 hx7).e0 (hx79.e0 hxd)
  have ho9d := ho9.e0 hxd
  have hc3d := ((hc3.e0 hx35).e0 hx7).e0 (hx79.e0 hxd)
  have hc7d := hc7.e0 (hx79.e0 hxd)
  generalize rdPart 9 v (decide (v ≥ 0)) dConsumerGroupHeartbeatRequest (l, false) = R at hn3 hn7 hlg ⊢
  cases hbad : R.2.2 with
  | true =>
    ((conv=>whnf);repeat(first|(refine mvT ?_;conv=>whnf)|(refine mvF ?_;conv=>whnf)|(refine cT (by rfl) ?_;conv=>whnf)|(refine cF (by rfl) ?_;conv=>whnf)))
    refine VD.draw mixed (.q 0 (.q 1 (.q 2 (.q 3 (.q 4 (.q 5 (.q 6 (.q 7 (.q 9 (.eff 8 [9] (.eff 10 [] (.eff 11 [] (.q 12 (.q 13 (.eff 14 [] (.done)))))))))))))))) (by kernel_rfl) ?_;((conv=>whnf);repeat(first|(refine mvT ?_;conv=>whnf)|(refine mvF ?_;conv=>whnf)|(refine cT (by rfl) ?_;conv=>whnf)|(refine cF (by rfl) ?_;conv=>whnf)))
    refine ⟨by (conv => whnf); exact ⟨⟨rfl, rfl⟩, trivial⟩, ?_⟩
    ((conv=>whnf);repeat(first|(refine mvT ?_;conv=>whnf)|(refine mvF ?_;conv=>whnf)|(refine cT (by rfl) ?_;conv=>whnf)|(refine cF (by rfl) ?_;conv=>whnf)))
    exact ⟨rfl, hx09.e0 hxd⟩
  | false =>
    have hlm := (hlg hbad).1
    have hlim := hlm.lim (by decide)
    have hN3 := hn3 hbad
    have hN7 := hn7 hbad
    have hsm3 := Nrm.small hlim hN3
    obtain rfl := Nrm.same hlim hN3 hN7
    ((conv=>whnf);repeat(first|(refine mvT ?_;conv=>whnf)|(refine mvF ?_;conv=>whnf)|(refine cT (by rfl) ?_;conv=>whnf)|(refine cF (by rfl) ?_;conv=>whnf)))
    refine VD.draw mixed (.q 0 (.q 1 (.q 2 (.q 3 (.q 4 (.q 5 (.q 6 (.q 7 (.q 9 (.eff 8 [9] (.eff 10 [] (.eff 11 [] (.q 12 (.q 13 (.eff 14 [] (.done)))))))))))))))) (by kernel_rfl) ?_;((conv=>whnf);repeat(first|(refine mvT ?_;conv=>whnf)|(refine mvF ?_;conv=>whnf)|(refine cT (by rfl) ?_;conv=>whnf)|(refine cF (by rfl) ?_;conv=>whnf)))
    refine ⟨c3, hlen3, ho5d.cells, ?_⟩
    ((conv=>whnf);repeat(first|(refine mvT ?_;conv=>whnf)|(refine mvF ?_;conv=>whnf)|(refine cT (by rfl) ?_;conv=>whnf)|(refine cF (by rfl) ?_;conv=>whnf)))
    refine ⟨c7, hlen7, ho9d.cells, ?_⟩
    ((conv=>whnf);repeat(first|(refine mvT ?_;conv=>whnf)|(refine mvF ?_;conv=>whnf)|(refine cT (by rfl) ?_;conv=>whnf)|(refine cF (by rfl) ?_;conv=>whnf)))
    refine Does.mono (got_does ⟨_, rfl, hc3d⟩ hsm3) ?_
    rintro r10 w10 ⟨hr10, hx10⟩
    refine ⟨by (conv => whnf); exact ⟨⟨c7, hlen7, (ho9d.e0 hx10).cells, rfl, rfl⟩, trivial⟩, ?_⟩
    ((conv=>whnf);repeat(first|(refine mvT ?_;conv=>whnf)|(refine mvF ?_;conv=>whnf)|(refine cT (by rfl) ?_;conv=>whnf)|(refine cF (by rfl) ?_;conv=>whnf)))
    refine Does.mono (got_does ⟨_, rfl, hc7d.e0 hx10⟩ hsm3) ?_
    rintro r11 w11 ⟨hr11, hx11⟩
    ((conv=>whnf);repeat(first|(refine mvT ?_;conv=>whnf)|(refine mvF ?_;conv=>whnf)|(refine cT (by rfl) ?_;conv=>whnf)|(refine cF (by rfl) ?_;conv=>whnf)))
    refine Does.mono (same_does (hr10.e0 hx11) hr11) ?_
    rintro r12 w12 ⟨rfl, hx12⟩
    ((conv=>whnf);repeat(first|(refine mvT ?_;conv=>whnf)|(refine mvF ?_;conv=>whnf)|(refine cT (by rfl) ?_;conv=>whnf)|(refine cF (by rfl) ?_;conv=>whnf)))
    exact ⟨rfl, (((hx09.e0 hxd).e0 hx10).e0 hx11).e0 hx12⟩
end Go.Proofs.YtmmieooipcfbiabDoorR.K
