/- CreateTopicsRequest is read and told. -/
import Derived.Test.YtmmieooipcfbiaaGreatDoorU6
import Derived.Test.YtmmieooipcfbiaaGreatDoorV48
import Derived.Test.YtmmieooipcfbiaaGreatDoorGversion
import Derived.Test.YtmmieooipcfbiaaGreatDoorP1
set_option linter.unusedVariables false
set_option linter.unusedSimpArgs false
namespace Go.Proofs.YtmmieooipcfbiaaGreatDoor.K
open Go
set_option maxHeartbeats 4000000
set_option maxRecDepth 100000

theorem tgCreateTopicsRequestTopicReplicaAssignment : TellsT 171 := by
  intro w N bt T lv bv F u x hI hN hbt hu hk hx hxl
  obtain ⟨uv, ho, hT⟩ := hI
  obtain ⟨av, cv, rfl, _⟩ := hx.view
  obtain ⟨au, nu, cu, rfl⟩ := hT.one
  refine Does.go (X := X) (l := [_, _, _]) Tryz.func171 rfl (by kernel_rfl) (by kernel_rfl) _ rfl ?_
  ((conv=>whnf);repeat(first|(refine mvT ?_;conv=>whnf)|(refine mvF ?_;conv=>whnf)|(refine cT (by rfl) ?_;conv=>whnf)|(refine cF (by rfl) ?_;conv=>whnf)))
  refine VD.draw mixed (.q 0 (.q 1 (.q 2 (.q 3 (.eff 4 [1] (.q 5 (.eff 6 [1] (.eff 7 [] (.q 8 (.eff 9 [] (.done))))))))))) (by kernel_rfl) ?_;((conv=>whnf);repeat(first|(refine mvT ?_;conv=>whnf)|(refine mvF ?_;conv=>whnf)|(refine cT (by rfl) ?_;conv=>whnf)|(refine cF (by rfl) ?_;conv=>whnf)))
  have hxd : Ext nob w w.drew := ext_drew _
  refine ldS ((ho.e0 hxd).cell rfl) ?_;((conv=>whnf);repeat(first|(refine mvT ?_;conv=>whnf)|(refine mvF ?_;conv=>whnf)|(refine cT (by rfl) ?_;conv=>whnf)|(refine cF (by rfl) ?_;conv=>whnf)))
  refine app_bytes rfl rfl (OB.nil w.drew w.drew.heap.size) (hx.e0 hxd).src rfl (by simp only [List.length_nil]; omega) (Nat.le_refl _) ?_
  intro v3 w3 h3 hx3 _ _
  rw [List.nil_append] at h3
  have hx3 : Ext nob w w3 := hxd.e0 (hx3.mono fun k _ h => by simp [Value.ownBlock] at h)
  obtain ⟨a3, c3, rfl, _⟩ := h3.shape
  refine ⟨by (conv => whnf); exact ⟨⟨_, (ho.e0 hx3).cell rfl, rfl, rfl⟩, trivial⟩, ?_⟩
  ((conv=>whnf);repeat(first|(refine mvT ?_;conv=>whnf)|(refine mvF ?_;conv=>whnf)|(refine cT (by rfl) ?_;conv=>whnf)|(refine cF (by rfl) ?_;conv=>whnf)))
  intro b4 w4 hb4 ho4 hx4
  have ho4 : Own w4 b4 TGT [.int .u32 (x.1 : Int), .slice a3 x.2.length c3] := ho4
  have hx04 := hx3.e0 hx4
  refine ⟨by (conv => whnf); exact ⟨⟨_, (ho.e0 hx04).cell rfl, rfl, rfl⟩, trivial⟩, ?_⟩
  ((conv=>whnf);repeat(first|(refine mvT ?_;conv=>whnf)|(refine mvF ?_;conv=>whnf)|(refine cT (by rfl) ?_;conv=>whnf)|(refine cF (by rfl) ?_;conv=>whnf)))
  have hs3 := hx3.size
  have hown : ∀ k, (Value.slice au nu cu).ownBlock = some k → N ≤ k ∧ k < w.heap.size := fun k hk => by
    obtain ⟨ls, h1, _⟩ := hT
    exact ⟨h1.blk k hk, h1.own.lt k hk⟩
  have hwd : w.drew.heap.size = w.heap.size := rfl
  refine OTn.app (hT.ext hx04 fun _ _ _ f => f) rfl ho4 rfl rfl rfl hu (by decide) (Nat.le_trans hN hx04.size) hk ((h3.e0 hx4).bytes fun k hk => ⟨by omega, fun e => by have := hown k e; omega⟩) ?_
  intro v5 w5 hT5 hx5
  obtain ⟨a5, n5, c5, rfl⟩ := hT5.one
  have hob := (ho.e0 hx04).ext hx5 fun h => by have := hown bt h; omega
  ((conv=>whnf);repeat(first|(refine mvT ?_;conv=>whnf)|(refine mvF ?_;conv=>whnf)|(refine cT (by rfl) ?_;conv=>whnf)|(refine cF (by rfl) ?_;conv=>whnf)))
  refine st_cell (o := 4) (v := .slice a5 n5 c5) hob rfl (by omega) rfl (by simp) rfl ?_
  intro w6 ho6 hx6
  ((conv=>whnf);repeat(first|(refine mvT ?_;conv=>whnf)|(refine mvF ?_;conv=>whnf)|(refine cT (by rfl) ?_;conv=>whnf)|(refine cF (by rfl) ?_;conv=>whnf)))
  refine ⟨⟨_, ho6, hT5.ext hx6 fun k _ h1 h2 => by omega⟩, ?_⟩
  refine (hx04.mono fun _ _ f => f.elim).trans ((hx5.mono (M' := fun j => j = bt ∨ N ≤ j) fun k _ h => .inr (hown k h).1).trans hx6 fun k _ h => .inl h) fun _ _ h => h
theorem tellCreateTopicsRequestTopicReplicaAssignment {w0 : World} {F : Nat → Prop} {q o : Nat} {cs : List Value} {t : T} (hq : Cells w0 q o cs) (hQ : QPart true 7 dCreateTopicsRequestTopicReplicaAssignment ⟨w0, F⟩ cs t) (hlim : LimT t) :
    Does X.P 145 #[.pointer (some ⟨q, o, none⟩)] w0 fun r w' => ∃ t', Nrm t t' ∧ Tr w' (fun k => w0.heap.size ≤ k) r t' ∧ Ext nob w0 w' := by
  obtain ⟨_, _, u_, m, rfl, rfl, hA0, hm⟩ := iP hQ
  clear hQ
  obtain ⟨cc0, _, x0, _, rfl, rfl, h0, hA1⟩ := iA hA0
  obtain ⟨n0, hn0, rfl, rfl⟩ : ∃ n, IntKind.i32.wrap n = n ∧ cc0 = [.int .i32 n] ∧ x0 = numT n := h0
  obtain ⟨cc1, _, x1, _, rfl, rfl, h1, hA2⟩ := iA hA1
  obtain ⟨c1, nl1, l1, rfl, hnl1, rfl, hc1⟩ : ∃ c nl l, cc1 = [c] ∧ (nl = true → l = []) ∧ x1 = .mk 0 [] nl l [] ∧ ListR true (elZ true 6 3 []) (elQ true 6 3 [] ⟨w0, F⟩) w0 F c x1 := h1
  obtain ⟨rfl, rfl⟩ := hA2
  cases hlim
  rename_i hU hKU hDU hLs hu0 hs0 hd0
  have hq : Cells w0 q o [.int .i32 n0, c1, m] := hq
  have hw0 : IntKind.i64.wrap n0 = n0 := by have := hLs (numT n0) (by simp); cases this; assumption
  obtain ⟨a1, k1, ls1, rfl, hk1, hll1, hnn1, hcl1, hrl1⟩ := hc1.view
  refine Does.go (X := X) (l := [_]) Tryz.func145 rfl (by kernel_rfl) (by kernel_rfl) _ rfl ?_
  ((conv=>whnf);repeat(first|(refine mvT ?_;conv=>whnf)|(refine mvF ?_;conv=>whnf)|(refine cT (by rfl) ?_;conv=>whnf)|(refine cF (by rfl) ?_;conv=>whnf)))
  intro b2 w1 hb2 ho2 hx1
  ((conv=>whnf);repeat(first|(refine mvT ?_;conv=>whnf)|(refine mvF ?_;conv=>whnf)|(refine cT (by rfl) ?_;conv=>whnf)|(refine cF (by rfl) ?_;conv=>whnf)))
  refine ⟨⟨by decide, by decide, by decide, by decide⟩, ⟨by decide, rfl⟩, ?_⟩
  intro bl w2 hbl hol hx2
  ((conv=>whnf);repeat(first|(refine mvT ?_;conv=>whnf)|(refine mvF ?_;conv=>whnf)|(refine cT (by rfl) ?_;conv=>whnf)|(refine cF (by rfl) ?_;conv=>whnf)))
  intro bt w3 hbt hot hx3
  ((conv=>whnf);repeat(first|(refine mvT ?_;conv=>whnf)|(refine mvF ?_;conv=>whnf)|(refine cT (by rfl) ?_;conv=>whnf)|(refine cF (by rfl) ?_;conv=>whnf)))
  have hzz : w0.heap.size ≤ w1.heap.size := hx1.size
  have H := (((Sg.start w0).push hx1 ho2 hb2).push hx2 hol hbl).push hx3 hot hbt
  refine Sg.st (A := []) (o' := 0) (m := [.int .i64 0, .slice none 0 0, .bool false, .slice (some ⟨bl, 0, none⟩) 2 2, .slice none 0 0]) H rfl (Nat.le_of_ble_eq_true rfl) rfl ?_
  clear H hot hol ho2 hx1 hx2 hx3
  intro w H
  obtain ⟨Tt, Tl, T2, H⟩ : ∃ Tt Tl T2, Sg w0 [(bt, Tt, [.int .i64 0, .slice none 0 0, .bool false, .slice (some ⟨bl, 0, none⟩) 2 2, .slice none 0 0]), (bl, Tl, [.int .i64 0, .slice none 0 0, .bool false, .slice none 0 0, .slice none 0 0, .int .i64 0, .slice none 0 0, .bool false, .slice none 0 0, .slice none 0 0]), (b2, T2, [.int .i64 0, .slice none 0 0, .bool false, .slice none 0 0, .slice none 0 0])] (fun _ => True) w := ⟨_, _, _, H⟩
  have hb2w : w0.heap.size ≤ b2 := hb2
  have hblw : w0.heap.size ≤ bl := by omega
  have hbtw : w0.heap.size ≤ bt := by have := H.dis.1; exact this
  ((conv=>whnf);repeat(first|(refine mvT ?_;conv=>whnf)|(refine mvF ?_;conv=>whnf)|(refine cT (by rfl) ?_;conv=>whnf)|(refine cF (by rfl) ?_;conv=>whnf)))
  refine VD.draw mixed (.q 0 (.q 1 (.q 2 (.q 3 (.q 4 (.q 5 (.q 6 (.q 7 (.q 8 (.eff 9 [] (.done))))))))))) (by kernel_rfl) ?_;((conv=>whnf);repeat(first|(refine mvT ?_;conv=>whnf)|(refine mvF ?_;conv=>whnf)|(refine cT (by rfl) ?_;conv=>whnf)|(refine cF (by rfl) ?_;conv=>whnf)))
  replace H := H.e0 (ext_drew _)
  refine ldS ((Sg.at (A := []) H).cell rfl) ?_;((conv=>whnf);repeat(first|(refine mvT ?_;conv=>whnf)|(refine mvF ?_;conv=>whnf)|(refine cT (by rfl) ?_;conv=>whnf)|(refine cF (by rfl) ?_;conv=>whnf)))
  refine ⟨_, ld ((hq.e0 H.ext).cell (j := 0) rfl) (by simp), ?_⟩
  ((conv=>whnf);repeat(first|(refine mvT ?_;conv=>whnf)|(refine mvF ?_;conv=>whnf)|(refine cT (by rfl) ?_;conv=>whnf)|(refine cF (by rfl) ?_;conv=>whnf)))
  refine ⟨bl, 0, rfl, ⟨by omega, by omega⟩, ?_⟩
  ((conv=>whnf);repeat(first|(refine mvT ?_;conv=>whnf)|(refine mvF ?_;conv=>whnf)|(refine cT (by rfl) ?_;conv=>whnf)|(refine cF (by rfl) ?_;conv=>whnf)))
  refine Sg.st (A := [_]) (o' := 0) (m := [.int .i64 (IntKind.i64.wrap n0), .slice none 0 0, .bool false, .slice none 0 0, .slice none 0 0]) H rfl (Nat.le_of_ble_eq_true rfl) (rfl) ?_
  clear H
  intro w H
  rw [hw0] at H
  replace H : Sg w0 [(bt, Tt, [.int .i64 0, .slice none 0 0, .bool false, .slice (some ⟨bl, 0, none⟩) 2 2, .slice none 0 0]), (bl, Tl, [.int .i64 n0, .slice none 0 0, .bool false, .slice none 0 0, .slice none 0 0, .int .i64 0, .slice none 0 0, .bool false, .slice none 0 0, .slice none 0 0]), (b2, T2, [.int .i64 0, .slice none 0 0, .bool false, .slice none 0 0, .slice none 0 0])] (fun _ => True) w := H
  ((conv=>whnf);repeat(first|(refine mvT ?_;conv=>whnf)|(refine mvF ?_;conv=>whnf)|(refine cT (by rfl) ?_;conv=>whnf)|(refine cF (by rfl) ?_;conv=>whnf)))
  refine VD.draw mixed (.q 0 (.q 1 (.q 2 (.q 3 (.q 4 (.q 5 (.q 6 (.q 7 (.q 8 (.eff 9 [] (.done))))))))))) (by kernel_rfl) ?_;((conv=>whnf);repeat(first|(refine mvT ?_;conv=>whnf)|(refine mvF ?_;conv=>whnf)|(refine cT (by rfl) ?_;conv=>whnf)|(refine cF (by rfl) ?_;conv=>whnf)))
  replace H := H.e0 (ext_drew _)
  refine ldS ((Sg.at (A := []) H).cell rfl) ?_;((conv=>whnf);repeat(first|(refine mvT ?_;conv=>whnf)|(refine mvF ?_;conv=>whnf)|(refine cT (by rfl) ?_;conv=>whnf)|(refine cF (by rfl) ?_;conv=>whnf)))
  refine ⟨_, ld ((hq.e0 H.ext).cell (j := 1) rfl) (by simp), ?_⟩
  ((conv=>whnf);repeat(first|(refine mvT ?_;conv=>whnf)|(refine mvF ?_;conv=>whnf)|(refine cT (by rfl) ?_;conv=>whnf)|(refine cF (by rfl) ?_;conv=>whnf)))
  refine ⟨bl, 0, rfl, ⟨by omega, by omega⟩, ?_⟩
  ((conv=>whnf);repeat(first|(refine mvT ?_;conv=>whnf)|(refine mvF ?_;conv=>whnf)|(refine cT (by rfl) ?_;conv=>whnf)|(refine cF (by rfl) ?_;conv=>whnf)))
  refine Sg.st (A := [_]) (o' := 7) (m := [.bool a1.isNone]) H rfl (Nat.le_of_ble_eq_true rfl) (rfl) ?_
  clear H
  intro w H
  replace H : Sg w0 [(bt, Tt, [.int .i64 0, .slice none 0 0, .bool false, .slice (some ⟨bl, 0, none⟩) 2 2, .slice none 0 0]), (bl, Tl, [.int .i64 n0, .slice none 0 0, .bool false, .slice none 0 0, .slice none 0 0, .int .i64 0, .slice none 0 0, .bool a1.isNone, .slice none 0 0, .slice none 0 0]), (b2, T2, [.int .i64 0, .slice none 0 0, .bool false, .slice none 0 0, .slice none 0 0])] (fun _ => True) w := H
  ((conv=>whnf);repeat(first|(refine mvT ?_;conv=>whnf)|(refine mvF ?_;conv=>whnf)|(refine cT (by rfl) ?_;conv=>whnf)|(refine cF (by rfl) ?_;conv=>whnf)))
  refine ⟨_, ld ((hq.e0 H.ext).cell (j := 1) rfl) (by simp), ?_⟩
  ((conv=>whnf);repeat(first|(refine mvT ?_;conv=>whnf)|(refine mvF ?_;conv=>whnf)|(refine cT (by rfl) ?_;conv=>whnf)|(refine cF (by rfl) ?_;conv=>whnf)))
  have hlsT : lsT (.mk 0 [] nl1 l1 []) = l1 := by
    show (if nl1 = true then [] else l1) = l1
    split
    · rename_i e
      exact (hnl1 e).symm
    · rfl
  rw [hlsT] at hll1 hrl1
  obtain ⟨wL, hwL⟩ : ∃ wL, wL = w := ⟨_, rfl⟩
  rw [← hwL] at H ⊢
  have hLlt := H.own.lt
  have hLl : l1.length ≤ 1000000 ∧ ∀ x, x ∈ l1 → LimT x := by
    have := hLs (.mk 0 [] nl1 l1 []) (by simp)
    cases this
    exact ⟨by assumption, by assumption⟩
  have hs0L := H.ext.size
  refine VL.loop (fun i : Nat => [(29, .int .i64 ls1.length), (30, .int .i64 i), (0, .pointer (some ⟨q, o, none⟩)), (2, .pointer (some ⟨b2, 0, none⟩)), (3, .pointer (some ⟨bt, 0, none⟩))])
    (fun i w' => i ≤ ls1.length ∧ Ext (fun k => k = bl ∨ wL.heap.size ≤ k) wL w' ∧ ∃ vl ts, Own w' bl Tl [.int .i64 n0, .slice none 0 0, .bool false, .slice none 0 0, .slice none 0 0, .int .i64 0, .slice none 0 0, .bool a1.isNone, vl, .slice none 0 0] ∧ OLn w' wL.heap.size vl ts ∧ ts.length = i ∧ ∀ (j : Nat) (x y : T), l1[j]? = some x → ts[j]? = some y → Nrm x y) (fun i => ls1.length - i) 0
    ⟨rfl, rfl, rfl, rfl, rfl, trivial⟩ ⟨Nat.zero_le _, Ext.refl _ _, _, [], Sg.at (A := [_]) H, OLn.nil _ _, rfl, by simp⟩ ?_
  rintro i w ⟨hi, hxL, vl1, ts1, hobl, hT, htl1, hnr1⟩
  ((conv=>whnf);repeat(first|(refine mvT ?_;conv=>whnf)|(refine mvF ?_;conv=>whnf)|(refine cT (by rfl) ?_;conv=>whnf)|(refine cF (by rfl) ?_;conv=>whnf)))
  refine cI (by rfl) (fun h9=>?_) (fun h9=>?_)
  · have hil : i < ls1.length := by have := of_decide_eq_true h9; omega
    obtain ⟨be, oe, rfl, hFe, hbe, hce⟩ := hcl1 i ls1[i] (by simp [hil])
    have hqe := hrl1 i ls1[i] l1[i] (by simp [hil]) (by simp)
    have hlime := hLl.2 l1[i] (List.getElem_mem _)
    obtain ⟨t', ht'⟩ : ∃ t', t' = l1[i] := ⟨_, rfl⟩
    obtain ⟨n', _, hce', hxe'⟩ : ∃ n, IntKind.i32.wrap n = n ∧ ls1[i] = [.int .i32 n] ∧ l1[i] = numT n := hqe
    rw [hce'] at hce
    have hwn : IntKind.i64.wrap n' = n' := by rw [hxe'] at hlime; cases hlime; assumption
    have hnr' : Nrm l1[i] t' := by rw [ht', hxe']; exact Nrm.leaf _ _ _
    rw [hxe'] at ht'
    have hx0 : Ext nob w0 w := H.ext.trans hxL fun k hk h => by
      rcases h with h | h
      · omega
      · omega
    have hobt : Own w bt Tt [.int .i64 0, .slice none 0 0, .bool false, .slice (some ⟨bl, 0, none⟩) 2 2, .slice none 0 0] := (Sg.at (A := []) H).ext hxL fun h => by
      have := hLlt bt (by simp [inL])
      have h2 := (H.dis.2.1 : ¬ inL _ bt)
      rcases h with h | h
      · exact h2 (by rw [h]; simp [inL])
      · omega
    obtain ⟨av, cv, rfl⟩ := hT.one
    ((conv=>whnf);repeat(first|(refine mvT ?_;conv=>whnf)|(refine mvF ?_;conv=>whnf)|(refine cT (by rfl) ?_;conv=>whnf)|(refine cF (by rfl) ?_;conv=>whnf)))
    refine VD.draw mixed (.eff 0 [] (.alt (.eff 1 [] (.eff 2 [] (.q 3 (.done)))) (.eff 2 [] (.eff 1 [] (.q 3 (.done)))))) (by kernel_rfl) ?_;((conv=>whnf);repeat(first|(refine mvT ?_;conv=>whnf)|(refine mvF ?_;conv=>whnf)|(refine cT (by rfl) ?_;conv=>whnf)|(refine cF (by rfl) ?_;conv=>whnf)))
    intro bb wb hbb hob hxb
    have hxb : Ext nob w wb := (ext_drew w).e0 hxb
    have hbb : w.heap.size ≤ bb := hbb
    ((conv=>whnf);repeat(first|(refine mvT ?_;conv=>whnf)|(refine mvF ?_;conv=>whnf)|(refine cT (by rfl) ?_;conv=>whnf)|(refine cF (by rfl) ?_;conv=>whnf)))
    constructor
    · conv => whnf
      refine st_all [.bool true] hob rfl rfl rfl ?_
      intro wc hoc hxc
      conv => whnf
      refine st_all [.bool false] hoc rfl rfl rfl ?_
      intro wd hod hxd
      ((conv=>whnf);repeat(first|(refine mvT ?_;conv=>whnf)|(refine mvF ?_;conv=>whnf)|(refine cT (by rfl) ?_;conv=>whnf)|(refine cF (by rfl) ?_;conv=>whnf)))
      refine ldS (hod.cell rfl) ?_;((conv=>whnf);repeat(first|(refine mvT ?_;conv=>whnf)|(refine mvF ?_;conv=>whnf)|(refine cT (by rfl) ?_;conv=>whnf)|(refine cF (by rfl) ?_;conv=>whnf)))
      have hxw : Ext nob w wd := (hxb.st hxc hbb).st hxd hbb
      refine VD.draw mixed (.q 0 (.q 1 (.q 2 (.q 3 (.q 4 (.q 5 (.q 6 (.q 7 (.q 8 (.q 9 (.q 10 (.q 11 (.q 12 (.q 13 (.q 14 (.q 15 (.eff 16 [1, 3, 6] (.eff 17 [1] (.q 18 (.q 19 (.eff 20 [] (.done)))))))))))))))))))))) (by kernel_rfl) ?_;((conv=>whnf);repeat(first|(refine mvT ?_;conv=>whnf)|(refine mvF ?_;conv=>whnf)|(refine cT (by rfl) ?_;conv=>whnf)|(refine cF (by rfl) ?_;conv=>whnf)))
      have hxw := hxw.e0 (ext_drew _)
      have hszd := hxw.size
      refine ldS ((hobt.e0 hxw).cell rfl) ?_;((conv=>whnf);repeat(first|(refine mvT ?_;conv=>whnf)|(refine mvF ?_;conv=>whnf)|(refine cT (by rfl) ?_;conv=>whnf)|(refine cF (by rfl) ?_;conv=>whnf)))
      refine ldS ((hobt.e0 hxw).cell rfl) ?_;((conv=>whnf);repeat(first|(refine mvT ?_;conv=>whnf)|(refine mvF ?_;conv=>whnf)|(refine cT (by rfl) ?_;conv=>whnf)|(refine cF (by rfl) ?_;conv=>whnf)))
      refine ⟨bl, 0, rfl, ⟨by omega, by omega⟩, ?_⟩
      ((conv=>whnf);repeat(first|(refine mvT ?_;conv=>whnf)|(refine mvF ?_;conv=>whnf)|(refine cT (by rfl) ?_;conv=>whnf)|(refine cF (by rfl) ?_;conv=>whnf)))
      refine ldS ((hobl.e0 hxw).cell rfl) ?_;((conv=>whnf);repeat(first|(refine mvT ?_;conv=>whnf)|(refine mvF ?_;conv=>whnf)|(refine cT (by rfl) ?_;conv=>whnf)|(refine cF (by rfl) ?_;conv=>whnf)))
      refine ⟨_, ld ((hq.e0 (hx0.e0 hxw)).cell (j := 1) rfl) (by simp), ?_⟩
      ((conv=>whnf);repeat(first|(refine mvT ?_;conv=>whnf)|(refine mvF ?_;conv=>whnf)|(refine cT (by rfl) ?_;conv=>whnf)|(refine cF (by rfl) ?_;conv=>whnf)))
      refine ⟨be, oe, rfl, ⟨by omega, by omega⟩, ?_⟩
      ((conv=>whnf);repeat(first|(refine mvT ?_;conv=>whnf)|(refine mvF ?_;conv=>whnf)|(refine cT (by rfl) ?_;conv=>whnf)|(refine cF (by rfl) ?_;conv=>whnf)))
      refine ⟨_, ld ((hce.e0 (hx0.e0 hxw)).cell (j := 0) rfl) (by simp [show elZ true 6 3 [] = 1 from rfl]), ?_⟩
      ((conv=>whnf);repeat(first|(refine mvT ?_;conv=>whnf)|(refine mvF ?_;conv=>whnf)|(refine cT (by rfl) ?_;conv=>whnf)|(refine cF (by rfl) ?_;conv=>whnf)))
      intro bs ws hbs hos hxs
      rw [hwn] at hos
      have hos : Own ws bs TT [.int .i64 n', .slice none 0 0, .bool false, .slice none 0 0, .slice none 0 0] := hos
      have hxw := hxw.e0 hxs
      refine ⟨by (conv => whnf); exact ⟨⟨_, (hobt.e0 hxw).cell rfl, rfl, rfl⟩, ⟨_, (hobt.e0 hxw).cell rfl, rfl, rfl⟩, ⟨_, (hobl.e0 hxw).cell rfl, rfl, rfl⟩, trivial⟩, ?_⟩
      conv => whnf
      have hsLw := hxL.size
      refine OLn.app (x := t') (hT.ext hxw fun _ _ _ f => f) rfl hos rfl rfl (by omega) (by decide) (by have := hxw.size; omega) (by rw [ht']; exact TrC.leaf hwn (Bytes.nil _ _)) ?_
      intro v5 w5 hT5 hx5 _
      obtain ⟨a5, c5, rfl⟩ := hT5.one
      have hown5 : ∀ k, (Value.slice av ts1.length cv).ownBlock = some k → wL.heap.size ≤ k := fun k hk => (hT.own k hk).1
      have hbt5 := (hobt.e0 hxw).ext hx5 fun h => by have := hown5 bt h; have := hLlt bt (by simp [inL]); omega
      have hbl5 := (hobl.e0 hxw).ext hx5 fun h => by have := hown5 bl h; have := hLlt bl (by simp [inL]); omega
      refine ⟨by (conv => whnf); exact ⟨⟨_, hbt5.cell rfl, rfl, rfl⟩, trivial⟩, ?_⟩
      conv => whnf
      refine ⟨bl, 0, rfl, ⟨by omega, by omega⟩, ?_⟩
      ((conv=>whnf);repeat(first|(refine mvT ?_;conv=>whnf)|(refine mvF ?_;conv=>whnf)|(refine cT (by rfl) ?_;conv=>whnf)|(refine cF (by rfl) ?_;conv=>whnf)))
      refine st_cell (o := 8) (v := .slice a5 (ts1 ++ [t']).length c5) hbl5 rfl rfl rfl (by simp) rfl ?_
      intro w6 ho6 hx6
      ((conv=>whnf);repeat(first|(refine mvT ?_;conv=>whnf)|(refine mvF ?_;conv=>whnf)|(refine cT (by rfl) ?_;conv=>whnf)|(refine cF (by rfl) ?_;conv=>whnf)))
      have hxL6 : Ext (fun k => k = bl ∨ wL.heap.size ≤ k) wL w6 := ((hxL.trans (hxw.mono (M' := nob) fun _ _ f => f) fun k hk f => f.elim).trans hx5 fun k hk h => by have := hown5 k h; omega).trans hx6 fun k hk h => .inl h
      refine ⟨i + 1, ⟨rfl, inc_eq (by omega), rfl, rfl, rfl, trivial⟩, ⟨by omega, hxL6, _, ts1 ++ [t'], ho6, hT5.ext hx6 (fun k _ h1 h2 => by have := hLlt bl (by simp [inL]); omega), by simp [htl1], ?_⟩, by omega⟩
      intro j x y hx hy
      rcases Nat.lt_or_ge j ts1.length with hj | hj
      · rw [List.getElem?_append_left hj] at hy
        exact hnr1 j x y hx hy
      · rw [List.getElem?_append_right hj] at hy
        obtain ⟨e, he⟩ : ∃ e, j - ts1.length = e := ⟨_, rfl⟩
        rw [he] at hy
        cases e with
        | zero =>
          have : j = i := by omega
          subst this
          simp only [List.getElem?_cons_zero, Option.some.injEq] at hy
          subst hy
          rw [List.getElem?_eq_getElem (by omega), Option.some.injEq] at hx
          subst hx
          exact hnr'
        | succ e => simp at hy
    · conv => whnf
      refine st_all [.bool false] hob rfl rfl rfl ?_
      intro wc hoc hxc
      conv => whnf
      refine st_all [.bool true] hoc rfl rfl rfl ?_
      intro wd hod hxd
      ((conv=>whnf);repeat(first|(refine mvT ?_;conv=>whnf)|(refine mvF ?_;conv=>whnf)|(refine cT (by rfl) ?_;conv=>whnf)|(refine cF (by rfl) ?_;conv=>whnf)))
      refine ldS (hod.cell rfl) ?_;((conv=>whnf);repeat(first|(refine mvT ?_;conv=>whnf)|(refine mvF ?_;conv=>whnf)|(refine cT (by rfl) ?_;conv=>whnf)|(refine cF (by rfl) ?_;conv=>whnf)))
      have hxw : Ext nob w wd := (hxb.st hxc hbb).st hxd hbb
      refine VD.draw mixed (.q 0 (.q 1 (.q 2 (.q 3 (.q 4 (.q 5 (.q 6 (.q 7 (.q 8 (.q 9 (.q 10 (.q 11 (.q 12 (.q 13 (.q 14 (.eff 15 [1, 4, 8, 11] (.eff 16 [] (.q 17 (.q 18 (.eff 19 [] (.done))))))))))))))))))))) (by kernel_rfl) ?_;((conv=>whnf);repeat(first|(refine mvT ?_;conv=>whnf)|(refine mvF ?_;conv=>whnf)|(refine cT (by rfl) ?_;conv=>whnf)|(refine cF (by rfl) ?_;conv=>whnf)))
      have hxw := hxw.e0 (ext_drew _)
      have hszd := hxw.size
      refine ldS ((hobt.e0 hxw).cell rfl) ?_;((conv=>whnf);repeat(first|(refine mvT ?_;conv=>whnf)|(refine mvF ?_;conv=>whnf)|(refine cT (by rfl) ?_;conv=>whnf)|(refine cF (by rfl) ?_;conv=>whnf)))
      refine ⟨bl, 0, rfl, ⟨by omega, by omega⟩, ?_⟩
      ((conv=>whnf);repeat(first|(refine mvT ?_;conv=>whnf)|(refine mvF ?_;conv=>whnf)|(refine cT (by rfl) ?_;conv=>whnf)|(refine cF (by rfl) ?_;conv=>whnf)))
      refine ldS ((hobl.e0 hxw).cell rfl) ?_;((conv=>whnf);repeat(first|(refine mvT ?_;conv=>whnf)|(refine mvF ?_;conv=>whnf)|(refine cT (by rfl) ?_;conv=>whnf)|(refine cF (by rfl) ?_;conv=>whnf)))
      refine ⟨_, ld ((hq.e0 (hx0.e0 hxw)).cell (j := 1) rfl) (by simp), ?_⟩
      ((conv=>whnf);repeat(first|(refine mvT ?_;conv=>whnf)|(refine mvF ?_;conv=>whnf)|(refine cT (by rfl) ?_;conv=>whnf)|(refine cF (by rfl) ?_;conv=>whnf)))
      refine ⟨be, oe, rfl, ⟨by omega, by omega⟩, ?_⟩
      ((conv=>whnf);repeat(first|(refine mvT ?_;conv=>whnf)|(refine mvF ?_;conv=>whnf)|(refine cT (by rfl) ?_;conv=>whnf)|(refine cF (by rfl) ?_;conv=>whnf)))
      refine ⟨_, ld ((hce.e0 (hx0.e0 hxw)).cell (j := 0) rfl) (by simp [show elZ true 6 3 [] = 1 from rfl]), ?_⟩
      ((conv=>whnf);repeat(first|(refine mvT ?_;conv=>whnf)|(refine mvF ?_;conv=>whnf)|(refine cT (by rfl) ?_;conv=>whnf)|(refine cF (by rfl) ?_;conv=>whnf)))
      intro bs ws hbs hos hxs
      have hos : Own ws bs TT [.int .i64 0, .slice none 0 0, .bool false, .slice none 0 0, .slice none 0 0] := hos
      have hxw := hxw.e0 hxs
      refine ⟨by (conv => whnf); exact ⟨⟨_, (hobt.e0 hxw).cell rfl, rfl, rfl⟩, ⟨_, (hobl.e0 hxw).cell rfl, rfl, rfl⟩, ⟨_, (hq.e0 (hx0.e0 hxw)).cell (j := 1) rfl, rfl, rfl⟩, ⟨_, (hce.e0 (hx0.e0 hxw)).cell (j := 0) rfl, rfl, rfl⟩, trivial⟩, ?_⟩
      have htrw : TrC ws (fun k => w.heap.size ≤ k ∧ k < ws.heap.size) [.int .i64 n', .slice none 0 0, .bool false, .slice none 0 0, .slice none 0 0] t' := by rw [ht']; exact TrC.leaf hwn (Bytes.nil _ _)
      conv => whnf
      refine OLn.app (x := .mk 0 [] false [] []) (hT.ext hxw fun _ _ _ f => f) rfl hos rfl rfl (by omega) (by decide) (by have := hxw.size; have := hxL.size; omega) (TrC.leaf rfl (Bytes.nil _ _)) ?_
      intro v5 w5 hT5 hx5 hbk5
      obtain ⟨a5, c5, rfl⟩ := hT5.one
      have hown5 : ∀ k, (Value.slice av ts1.length cv).ownBlock = some k → wL.heap.size ≤ k ∧ k < w.heap.size := fun k hk => hT.own k hk
      have hbl5 := (hobl.e0 hxw).ext hx5 fun h => by have := hown5 bl h; have := hLlt bl (by simp [inL]); omega
      have hblL := hLlt bl (by simp [inL])
      have hsLw := hxL.size
      have hszx := hxw.size
      ((conv=>whnf);repeat(first|(refine mvT ?_;conv=>whnf)|(refine mvF ?_;conv=>whnf)|(refine cT (by rfl) ?_;conv=>whnf)|(refine cF (by rfl) ?_;conv=>whnf)))
      refine ⟨bl, 0, rfl, ⟨by omega, by omega⟩, ?_⟩
      ((conv=>whnf);repeat(first|(refine mvT ?_;conv=>whnf)|(refine mvF ?_;conv=>whnf)|(refine cT (by rfl) ?_;conv=>whnf)|(refine cF (by rfl) ?_;conv=>whnf)))
      refine st_cell (o := 8) (v := .slice a5 (ts1 ++ [T.mk 0 [] false [] []]).length c5) hbl5 rfl rfl rfl (by simp) rfl ?_
      intro w6 ho6 hx6
      ((conv=>whnf);repeat(first|(refine mvT ?_;conv=>whnf)|(refine mvF ?_;conv=>whnf)|(refine cT (by rfl) ?_;conv=>whnf)|(refine cF (by rfl) ?_;conv=>whnf)))
      have hT6 := hT5.ext hx6 (fun k _ h1 h2 => by omega)
      obtain ⟨g, cap, hv, hput⟩ := hT6.last
      injection hv with e1 e2 e3
      subst e1
      subst e3
      have htr6 : TrC w6 (fun k => wL.heap.size ≤ k ∧ (Value.slice (some ⟨g, 0, none⟩) (ts1 ++ [T.mk 0 [] false [] []]).length c5).ownBlock ≠ some k) [.int .i64 n', .slice none 0 0, .bool false, .slice none 0 0, .slice none 0 0] t' := by
        refine ((htrw.ext hx5 fun k _ h e => by have := hown5 k e; omega).ext hx6 fun k _ h e => by omega).mono fun k _ h => ⟨by omega, fun e => ?_⟩
        rcases hbk5 with e2 | ⟨q2, e2, hle⟩
        · have := hown5 k (e2 ▸ e); omega
        · rw [e, Option.some.injEq] at e2
          omega
      refine ⟨g, 0, rfl, ⟨by omega, by simp; omega⟩, ?_⟩
      ((conv=>whnf);repeat(first|(refine mvT ?_;conv=>whnf)|(refine mvF ?_;conv=>whnf)|(refine cT (by rfl) ?_;conv=>whnf)|(refine cF (by rfl) ?_;conv=>whnf)))
      rw [hwn]
      refine hput [.int .i64 n', .slice none 0 0, .bool false, .slice none 0 0, .slice none 0 0] t' _ _ _ rfl (by simp) htr6 ?_
      intro w7 hT7 hx7
      ((conv=>whnf);repeat(first|(refine mvT ?_;conv=>whnf)|(refine mvF ?_;conv=>whnf)|(refine cT (by rfl) ?_;conv=>whnf)|(refine cF (by rfl) ?_;conv=>whnf)))
      have hgL : wL.heap.size ≤ g := (hT6.own g rfl).1
      have hxL7 : Ext (fun k => k = bl ∨ wL.heap.size ≤ k) wL w7 := (((hxL.trans (hxw.mono (M' := nob) fun _ _ f => f) fun k hk f => f.elim).trans hx5 fun k hk h => by have := hown5 k h; omega).trans hx6 fun k hk h => .inl h).trans hx7 fun k hk h => by omega
      refine ⟨i + 1, ⟨rfl, inc_eq (by omega), rfl, rfl, rfl, trivial⟩, ⟨by omega, hxL7, _, ts1 ++ [t'], ho6.ext hx7 (by omega), hT7, by simp [htl1], ?_⟩, by omega⟩
      intro j x y hx hy
      rcases Nat.lt_or_ge j ts1.length with hj | hj
      · rw [List.getElem?_append_left hj] at hy
        exact hnr1 j x y hx hy
      · rw [List.getElem?_append_right hj] at hy
        obtain ⟨e, he⟩ : ∃ e, j - ts1.length = e := ⟨_, rfl⟩
        rw [he] at hy
        cases e with
        | zero =>
          have : j = i := by omega
          subst this
          simp only [List.getElem?_cons_zero, Option.some.injEq] at hy
          subst hy
          rw [List.getElem?_eq_getElem (by omega), Option.some.injEq] at hx
          subst hx
          exact hnr'
        | succ e => simp at hy
  · have hil : i = ls1.length := by have := of_decide_eq_false h9; omega
    have H := Sg.up (A := [_]) H hobl (hxL.mono fun k hk h => by rcases h with h | h; exact h; omega)
    have htl1 : ts1.length = l1.length := by omega
    have hnl : a1.isNone = nl1 := hnn1 rfl
    rw [hnl] at H
    have H := H.add (Q := fun w => TrC w (fun k => w0.heap.size ≤ k) [.int .i64 0, .slice none 0 0, .bool nl1, vl1, .slice none 0 0] (.mk 0 [] nl1 ts1 [])) fun w3 x => (hT.ext x fun k hk h1 h2 => by
      have h3 : k < wL.heap.size := hLlt k (by rcases inL3 h2 with h | h | h <;> subst h <;> simp [inL])
      omega).row fun k hk => by omega
    obtain ⟨P1, hP1⟩ : ∃ P : World → Prop, P = fun w => TrC w (fun k => w0.heap.size ≤ k) [.int .i64 0, .slice none 0 0, .bool nl1, vl1, .slice none 0 0] (.mk 0 [] nl1 ts1 []) ∧ True := ⟨_, rfl⟩
    replace H : Sg w0 [(bt, Tt, [.int .i64 0, .slice none 0 0, .bool false, .slice (some ⟨bl, 0, none⟩) 2 2, .slice none 0 0]), (bl, Tl, [.int .i64 n0, .slice none 0 0, .bool false, .slice none 0 0, .slice none 0 0, .int .i64 0, .slice none 0 0, .bool nl1, vl1, .slice none 0 0]), (b2, T2, [.int .i64 0, .slice none 0 0, .bool false, .slice none 0 0, .slice none 0 0])] P1 w := by rw [hP1]; exact H
    ((conv=>whnf);repeat(first|(refine mvT ?_;conv=>whnf)|(refine mvF ?_;conv=>whnf)|(refine cT (by rfl) ?_;conv=>whnf)|(refine cF (by rfl) ?_;conv=>whnf)))
    have hql : q < w0.heap.size := World.block_lt_of_cell? w0 _ (hq.cell (j := 0) rfl)
    have hm2 : TagsR w (fun k => F k ∧ k < w0.heap.size) m u_ := (hm.mono (F' := fun k => F k ∧ k < w0.heap.size) fun k h1 h2 => ⟨h2, h1⟩).ext H.ext fun _ _ _ f => f
    refine Does.mono (EachT tgCreateTopicsRequestTopicReplicaAssignment ((hq.e0 H.ext).cell (j := 2) rfl) hm2 hd0 hu0 hs0 (Sg.at (A := []) H) (by omega) (fun k _ h e => by have := h.2; omega)) ?_
    rintro r w2 ⟨u', uv, hperm, hpw, hob, hT, hxe⟩
    have hLlt := H.own.lt
    have hw02 := H.ext.size
    have H2 := Sg.up (A := []) H hob hxe
    obtain ⟨auv, nuv, cuv, rfl⟩ := hT.one
    have H := H2.add (Q := fun w => TgsR w (fun k => w0.heap.size ≤ k) (.slice auv nuv cuv) u') fun w3 x => (hT.ext x fun k hk h1 h2 => by
      have h3 : k < w.heap.size := hLlt k (by rcases inL3 h2 with h | h | h <;> subst h <;> simp [inL])
      omega).tgs fun k hk => by omega
    clear H2
    ((conv=>whnf);repeat(first|(refine mvT ?_;conv=>whnf)|(refine mvF ?_;conv=>whnf)|(refine cT (by rfl) ?_;conv=>whnf)|(refine cF (by rfl) ?_;conv=>whnf)))
    refine ldS ((Sg.at (A := []) H).cell rfl) ?_;((conv=>whnf);repeat(first|(refine mvT ?_;conv=>whnf)|(refine mvF ?_;conv=>whnf)|(refine cT (by rfl) ?_;conv=>whnf)|(refine cF (by rfl) ?_;conv=>whnf)))
    refine Does.mono (sorted_does H.now.1 hpw (by rw [hperm.length_eq]; exact hu0)) ?_
    rintro r w3 hx3
    replace H := H.e0 hx3
    ((conv=>whnf);repeat(first|(refine mvT ?_;conv=>whnf)|(refine mvF ?_;conv=>whnf)|(refine cT (by rfl) ?_;conv=>whnf)|(refine cF (by rfl) ?_;conv=>whnf)))
    refine ⟨_, rfl, (Sg.at (A := []) H).cells, ?_⟩
    ((conv=>whnf);repeat(first|(refine mvT ?_;conv=>whnf)|(refine mvF ?_;conv=>whnf)|(refine cT (by rfl) ?_;conv=>whnf)|(refine cF (by rfl) ?_;conv=>whnf)))
    refine Sg.st (A := [_, _]) (o' := 0) (m := [.int .i64 0, .slice none 0 0, .bool false, .slice (some ⟨bl, 0, none⟩) 2 2, .slice auv nuv cuv]) H rfl (Nat.le_of_ble_eq_true rfl) rfl ?_
    clear H
    intro w H
    ((conv=>whnf);repeat(first|(refine mvT ?_;conv=>whnf)|(refine mvF ?_;conv=>whnf)|(refine cT (by rfl) ?_;conv=>whnf)|(refine cF (by rfl) ?_;conv=>whnf)))
    refine ⟨_, rfl, (Sg.at (A := [_, _]) H).cells, ?_⟩
    have hP := H.now
    rw [hP1] at hP
    have hbl := Sg.at (A := [_]) H
    refine ⟨.mk 0 [] false [numT n0, .mk 0 [] nl1 ts1 []] u', ?_, ⟨_, rfl, .mk 0 [] false [numT n0, .mk 0 [] nl1 ts1 []] u' _ _ _ [[.int .i64 n0, .slice none 0 0, .bool false, .slice none 0 0, .slice none 0 0], [.int .i64 0, .slice none 0 0, .bool nl1, vl1, .slice none 0 0]] rfl (Bytes.nil _ _) (rows_sl hbl (by simp) rfl (by rw [maxLen_eq]; decide) hblw) rfl ?_ hP.1⟩, H.ext⟩
    · refine .mk _ _ _ _ _ _ _ rfl ?_ hperm hpw
      intro i x y hx hy
      match i, hx, hy with
      | 0, hx, hy => simp only [List.getElem?_cons_succ, List.getElem?_cons_zero, Option.some.injEq] at hx hy; subst hx; subst hy; exact Nrm.leaf _ _ _
      | 1, hx, hy => simp only [List.getElem?_cons_succ, List.getElem?_cons_zero, Option.some.injEq] at hx hy; subst hx; subst hy; exact .mk _ _ _ _ _ _ _ htl1 hnr1 (List.Perm.refl _) List.Pairwise.nil
    · intro i x y hx hy
      match i, hx, hy with
      | 0, hx, hy => simp only [List.getElem?_cons_succ, List.getElem?_cons_zero, Option.some.injEq] at hx hy; subst hx; subst hy; exact TrC.leaf hw0 (Bytes.nil _ _)
      | 1, hx, hy => simp only [List.getElem?_cons_succ, List.getElem?_cons_zero, Option.some.injEq] at hx hy; subst hx; subst hy; exact hP.2.1
theorem tgCreateTopicsRequestTopicConfig : TellsT 172 := by
  intro w N bt T lv bv F u x hI hN hbt hu hk hx hxl
  obtain ⟨uv, ho, hT⟩ := hI
  obtain ⟨av, cv, rfl, _⟩ := hx.view
  obtain ⟨au, nu, cu, rfl⟩ := hT.one
  refine Does.go (X := X) (l := [_, _, _]) Tryz.func172 rfl (by kernel_rfl) (by kernel_rfl) _ rfl ?_
  ((conv=>whnf);repeat(first|(refine mvT ?_;conv=>whnf)|(refine mvF ?_;conv=>whnf)|(refine cT (by rfl) ?_;conv=>whnf)|(refine cF (by rfl) ?_;conv=>whnf)))
  refine VD.draw mixed (.q 0 (.q 1 (.q 2 (.q 3 (.eff 4 [1] (.q 5 (.eff 6 [1] (.eff 7 [] (.q 8 (.eff 9 [] (.done))))))))))) (by kernel_rfl) ?_;((conv=>whnf);repeat(first|(refine mvT ?_;conv=>whnf)|(refine mvF ?_;conv=>whnf)|(refine cT (by rfl) ?_;conv=>whnf)|(refine cF (by rfl) ?_;conv=>whnf)))
  have hxd : Ext nob w w.drew := ext_drew _
  refine ldS ((ho.e0 hxd).cell rfl) ?_;((conv=>whnf);repeat(first|(refine mvT ?_;conv=>whnf)|(refine mvF ?_;conv=>whnf)|(refine cT (by rfl) ?_;conv=>whnf)|(refine cF (by rfl) ?_;conv=>whnf)))
  refine app_bytes rfl rfl (OB.nil w.drew w.drew.heap.size) (hx.e0 hxd).src rfl (by simp only [List.length_nil]; omega) (Nat.le_refl _) ?_
  intro v3 w3 h3 hx3 _ _
  rw [List.nil_append] at h3
  have hx3 : Ext nob w w3 := hxd.e0 (hx3.mono fun k _ h => by simp [Value.ownBlock] at h)
  obtain ⟨a3, c3, rfl, _⟩ := h3.shape
  refine ⟨by (conv => whnf); exact ⟨⟨_, (ho.e0 hx3).cell rfl, rfl, rfl⟩, trivial⟩, ?_⟩
  ((conv=>whnf);repeat(first|(refine mvT ?_;conv=>whnf)|(refine mvF ?_;conv=>whnf)|(refine cT (by rfl) ?_;conv=>whnf)|(refine cF (by rfl) ?_;conv=>whnf)))
  intro b4 w4 hb4 ho4 hx4
  have ho4 : Own w4 b4 TGT [.int .u32 (x.1 : Int), .slice a3 x.2.length c3] := ho4
  have hx04 := hx3.e0 hx4
  refine ⟨by (conv => whnf); exact ⟨⟨_, (ho.e0 hx04).cell rfl, rfl, rfl⟩, trivial⟩, ?_⟩
  ((conv=>whnf);repeat(first|(refine mvT ?_;conv=>whnf)|(refine mvF ?_;conv=>whnf)|(refine cT (by rfl) ?_;conv=>whnf)|(refine cF (by rfl) ?_;conv=>whnf)))
  have hs3 := hx3.size
  have hown : ∀ k, (Value.slice au nu cu).ownBlock = some k → N ≤ k ∧ k < w.heap.size := fun k hk => by
    obtain ⟨ls, h1, _⟩ := hT
    exact ⟨h1.blk k hk, h1.own.lt k hk⟩
  have hwd : w.drew.heap.size = w.heap.size := rfl
  refine OTn.app (hT.ext hx04 fun _ _ _ f => f) rfl ho4 rfl rfl rfl hu (by decide) (Nat.le_trans hN hx04.size) hk ((h3.e0 hx4).bytes fun k hk => ⟨by omega, fun e => by have := hown k e; omega⟩) ?_
  intro v5 w5 hT5 hx5
  obtain ⟨a5, n5, c5, rfl⟩ := hT5.one
  have hob := (ho.e0 hx04).ext hx5 fun h => by have := hown bt h; omega
  ((conv=>whnf);repeat(first|(refine mvT ?_;conv=>whnf)|(refine mvF ?_;conv=>whnf)|(refine cT (by rfl) ?_;conv=>whnf)|(refine cF (by rfl) ?_;conv=>whnf)))
  refine st_cell (o := 4) (v := .slice a5 n5 c5) hob rfl (by omega) rfl (by simp) rfl ?_
  intro w6 ho6 hx6
  ((conv=>whnf);repeat(first|(refine mvT ?_;conv=>whnf)|(refine mvF ?_;conv=>whnf)|(refine cT (by rfl) ?_;conv=>whnf)|(refine cF (by rfl) ?_;conv=>whnf)))
  refine ⟨⟨_, ho6, hT5.ext hx6 fun k _ h1 h2 => by omega⟩, ?_⟩
  refine (hx04.mono fun _ _ f => f.elim).trans ((hx5.mono (M' := fun j => j = bt ∨ N ≤ j) fun k _ h => .inr (hown k h).1).trans hx6 fun k _ h => .inl h) fun _ _ h => h
theorem tellCreateTopicsRequestTopicConfig {w0 : World} {F : Nat → Prop} {q o : Nat} {cs : List Value} {t : T} (hq : Cells w0 q o cs) (hQ : QPart true 7 dCreateTopicsRequestTopicConfig ⟨w0, F⟩ cs t) (hlim : LimT t) :
    Does X.P 146 #[.pointer (some ⟨q, o, none⟩)] w0 fun r w' => ∃ t', Nrm t t' ∧ Tr w' (fun k => w0.heap.size ≤ k) r t' ∧ Ext nob w0 w' := by
  obtain ⟨_, _, u_, m, rfl, rfl, hA0, hm⟩ := iP hQ
  clear hQ
  obtain ⟨cc0, _, x0, _, rfl, rfl, h0, hA1⟩ := iA hA0
  obtain ⟨s0, rfl, rfl⟩ := iF8 (by decide) h0
  obtain ⟨cc1, _, x1, _, rfl, rfl, h1, hA2⟩ := iA hA1
  obtain ⟨c1, nl1, s1, rfl, hnl1, rfl, hc1⟩ : ∃ c nl u, cc1 = [c] ∧ (nl = true → u = []) ∧ x1 = .mk 0 u nl [] [] ∧ NTextR w0 F c x1 := h1
  obtain ⟨rfl, rfl⟩ := hA2
  cases hlim
  rename_i hU hKU hDU hLs hu0 hs0 hd0
  have hq : Cells w0 q o [str s0, c1, m] := hq
  refine Does.go (X := X) (l := [_]) Tryz.func146 rfl (by kernel_rfl) (by kernel_rfl) _ rfl ?_
  ((conv=>whnf);repeat(first|(refine mvT ?_;conv=>whnf)|(refine mvF ?_;conv=>whnf)|(refine cT (by rfl) ?_;conv=>whnf)|(refine cF (by rfl) ?_;conv=>whnf)))
  intro b2 w1 hb2 ho2 hx1
  ((conv=>whnf);repeat(first|(refine mvT ?_;conv=>whnf)|(refine mvF ?_;conv=>whnf)|(refine cT (by rfl) ?_;conv=>whnf)|(refine cF (by rfl) ?_;conv=>whnf)))
  refine ⟨⟨by decide, by decide, by decide, by decide⟩, ⟨by decide, rfl⟩, ?_⟩
  intro bl w2 hbl hol hx2
  ((conv=>whnf);repeat(first|(refine mvT ?_;conv=>whnf)|(refine mvF ?_;conv=>whnf)|(refine cT (by rfl) ?_;conv=>whnf)|(refine cF (by rfl) ?_;conv=>whnf)))
  intro bt w3 hbt hot hx3
  ((conv=>whnf);repeat(first|(refine mvT ?_;conv=>whnf)|(refine mvF ?_;conv=>whnf)|(refine cT (by rfl) ?_;conv=>whnf)|(refine cF (by rfl) ?_;conv=>whnf)))
  have hzz : w0.heap.size ≤ w1.heap.size := hx1.size
  have H := (((Sg.start w0).push hx1 ho2 hb2).push hx2 hol hbl).push hx3 hot hbt
  refine Sg.st (A := []) (o' := 0) (m := [.int .i64 0, .slice none 0 0, .bool false, .slice (some ⟨bl, 0, none⟩) 2 2, .slice none 0 0]) H rfl (Nat.le_of_ble_eq_true rfl) rfl ?_
  clear H hot hol ho2 hx1 hx2 hx3
  intro w H
  obtain ⟨Tt, Tl, T2, H⟩ : ∃ Tt Tl T2, Sg w0 [(bt, Tt, [.int .i64 0, .slice none 0 0, .bool false, .slice (some ⟨bl, 0, none⟩) 2 2, .slice none 0 0]), (bl, Tl, [.int .i64 0, .slice none 0 0, .bool false, .slice none 0 0, .slice none 0 0, .int .i64 0, .slice none 0 0, .bool false, .slice none 0 0, .slice none 0 0]), (b2, T2, [.int .i64 0, .slice none 0 0, .bool false, .slice none 0 0, .slice none 0 0])] (fun _ => True) w := ⟨_, _, _, H⟩
  have hb2w : w0.heap.size ≤ b2 := hb2
  have hblw : w0.heap.size ≤ bl := by omega
  have hbtw : w0.heap.size ≤ bt := by have := H.dis.1; exact this
  ((conv=>whnf);repeat(first|(refine mvT ?_;conv=>whnf)|(refine mvF ?_;conv=>whnf)|(refine cT (by rfl) ?_;conv=>whnf)|(refine cF (by rfl) ?_;conv=>whnf)))
  refine VD.draw mixed (.q 0 (.q 1 (.q 2 (.q 3 (.q 4 (.q 5 (.eff 6 [1] (.q 7 (.q 8 (.eff 9 [] (.done))))))))))) (by kernel_rfl) ?_;((conv=>whnf);repeat(first|(refine mvT ?_;conv=>whnf)|(refine mvF ?_;conv=>whnf)|(refine cT (by rfl) ?_;conv=>whnf)|(refine cF (by rfl) ?_;conv=>whnf)))
  replace H := H.e0 (ext_drew _)
  refine ldS ((Sg.at (A := []) H).cell rfl) ?_;((conv=>whnf);repeat(first|(refine mvT ?_;conv=>whnf)|(refine mvF ?_;conv=>whnf)|(refine cT (by rfl) ?_;conv=>whnf)|(refine cF (by rfl) ?_;conv=>whnf)))
  refine ⟨_, ld ((hq.e0 H.ext).cell (j := 0) rfl) (by simp), ?_⟩
  ((conv=>whnf);repeat(first|(refine mvT ?_;conv=>whnf)|(refine mvF ?_;conv=>whnf)|(refine cT (by rfl) ?_;conv=>whnf)|(refine cF (by rfl) ?_;conv=>whnf)))
  refine ⟨by show s0.length ≤ maxLen; have := hLs (.mk 0 s0 false [] []) (by simp); cases this; rw [maxLen_eq]; omega, ?_⟩
  intro bb0 cb0 wb0 hbb0 hbl0 hC0 hcp0 hxb0
  have hC0 : Cells wb0 bb0 0 (s0.map bcell) := hC0
  have hcp0 : s0.length ≤ cb0 ∧ cb0 ≤ maxLen := hcp0
  have H := H.keepN (H.e0 hxb0) (trL [.int .i64 0, .slice (some ⟨bb0, 0, none⟩) s0.length cb0, .bool false, .slice none 0 0, .slice none 0 0] (.mk 0 s0 false [] [])) (F := fun k => _ ≤ k) (TrC.leaf rfl (conv_bytes hbb0 hbl0 hC0 hcp0)) fun k h => h
  refine ⟨by (conv => whnf); exact ⟨⟨_, (Sg.at (A := []) H).cell rfl, rfl, rfl⟩, trivial⟩, ?_⟩
  ((conv=>whnf);repeat(first|(refine mvT ?_;conv=>whnf)|(refine mvF ?_;conv=>whnf)|(refine cT (by rfl) ?_;conv=>whnf)|(refine cF (by rfl) ?_;conv=>whnf)))
  refine ⟨bl, 0, rfl, ⟨by omega, by omega⟩, ?_⟩
  ((conv=>whnf);repeat(first|(refine mvT ?_;conv=>whnf)|(refine mvF ?_;conv=>whnf)|(refine cT (by rfl) ?_;conv=>whnf)|(refine cF (by rfl) ?_;conv=>whnf)))
  refine Sg.st (A := [_]) (o' := 0) (m := [.int .i64 0, .slice (some ⟨bb0, 0, none⟩) s0.length cb0, .bool false, .slice none 0 0, .slice none 0 0]) H rfl (Nat.le_of_ble_eq_true rfl) (rfl) ?_
  clear H
  intro w H
  obtain ⟨P0, hP0⟩ : ∃ P : World → Prop, P = fun w => TrC w (fun k => w0.heap.size ≤ k) [.int .i64 0, .slice (some ⟨bb0, 0, none⟩) s0.length cb0, .bool false, .slice none 0 0, .slice none 0 0] (.mk 0 s0 false [] []) ∧ True := ⟨_, rfl⟩
  replace H : Sg w0 [(bt, Tt, [.int .i64 0, .slice none 0 0, .bool false, .slice (some ⟨bl, 0, none⟩) 2 2, .slice none 0 0]), (bl, Tl, [.int .i64 0, .slice (some ⟨bb0, 0, none⟩) s0.length cb0, .bool false, .slice none 0 0, .slice none 0 0, .int .i64 0, .slice none 0 0, .bool false, .slice none 0 0, .slice none 0 0]), (b2, T2, [.int .i64 0, .slice none 0 0, .bool false, .slice none 0 0, .slice none 0 0])] P0 w := by rw [hP0]; exact H
  ((conv=>whnf);repeat(first|(refine mvT ?_;conv=>whnf)|(refine mvF ?_;conv=>whnf)|(refine cT (by rfl) ?_;conv=>whnf)|(refine cF (by rfl) ?_;conv=>whnf)))
  refine VD.draw mixed (.q 0 (.q 1 (.q 2 (.q 3 (.q 4 (.q 5 (.eff 6 [1] (.q 7 (.eff 8 [] (.done)))))))))) (by kernel_rfl) ?_;((conv=>whnf);repeat(first|(refine mvT ?_;conv=>whnf)|(refine mvF ?_;conv=>whnf)|(refine cT (by rfl) ?_;conv=>whnf)|(refine cF (by rfl) ?_;conv=>whnf)))
  replace H := H.e0 (ext_drew _)
  refine ldS ((Sg.at (A := []) H).cell rfl) ?_;((conv=>whnf);repeat(first|(refine mvT ?_;conv=>whnf)|(refine mvF ?_;conv=>whnf)|(refine cT (by rfl) ?_;conv=>whnf)|(refine cF (by rfl) ?_;conv=>whnf)))
  refine ⟨_, ld ((hq.e0 H.ext).cell (j := 1) rfl) (by simp), ?_⟩
  ((conv=>whnf);repeat(first|(refine mvT ?_;conv=>whnf)|(refine mvF ?_;conv=>whnf)|(refine cT (by rfl) ?_;conv=>whnf)|(refine cF (by rfl) ?_;conv=>whnf)))
  refine Does.mono (textTree_does (F := F) (hc1.ext H.ext fun _ _ _ f => f) hnl1 (by have := hLs (.mk 0 s1 nl1 [] []) (by simp); cases this; rw [maxLen_eq]; omega)) ?_
  rintro rr1 wr1 ⟨⟨cr1, rfl, hr1⟩, hxr1⟩
  obtain ⟨nv1, sv1, nm1, lv1, uv1, rfl⟩ : ∃ n sv nl lv uv, cr1 = [.int .i64 n, sv, .bool nl, lv, uv] := by cases hr1; exact ⟨_, _, _, _, _, rfl⟩
  have H := H.keepN (H.e0 hxr1) (trL [.int .i64 nv1, sv1, .bool nm1, lv1, uv1] (.mk 0 s1 nl1 [] [])) (F := fun k => _ ≤ k) hr1 fun k h => h
  refine ⟨by (conv => whnf); exact ⟨⟨_, (Sg.at (A := []) H).cell rfl, rfl, rfl⟩, trivial⟩, ?_⟩
  ((conv=>whnf);repeat(first|(refine mvT ?_;conv=>whnf)|(refine mvF ?_;conv=>whnf)|(refine cT (by rfl) ?_;conv=>whnf)|(refine cF (by rfl) ?_;conv=>whnf)))
  refine ⟨bl, 0, rfl, ⟨by omega, by omega⟩, ?_⟩
  ((conv=>whnf);repeat(first|(refine mvT ?_;conv=>whnf)|(refine mvF ?_;conv=>whnf)|(refine cT (by rfl) ?_;conv=>whnf)|(refine cF (by rfl) ?_;conv=>whnf)))
  refine Sg.st (A := [_]) (o' := 5) (m := [.int .i64 nv1, sv1, .bool nm1, lv1, uv1]) H rfl (Nat.le_of_ble_eq_true rfl) (hr1.ok) ?_
  clear H
  intro w H
  obtain ⟨P1, hP1⟩ : ∃ P : World → Prop, P = fun w => TrC w (fun k => w0.heap.size ≤ k) [.int .i64 nv1, sv1, .bool nm1, lv1, uv1] (.mk 0 s1 nl1 [] []) ∧ P0 w := ⟨_, rfl⟩
  replace H : Sg w0 [(bt, Tt, [.int .i64 0, .slice none 0 0, .bool false, .slice (some ⟨bl, 0, none⟩) 2 2, .slice none 0 0]), (bl, Tl, [.int .i64 0, .slice (some ⟨bb0, 0, none⟩) s0.length cb0, .bool false, .slice none 0 0, .slice none 0 0, .int .i64 nv1, sv1, .bool nm1, lv1, uv1]), (b2, T2, [.int .i64 0, .slice none 0 0, .bool false, .slice none 0 0, .slice none 0 0])] P1 w := by rw [hP1]; exact H
  ((conv=>whnf);repeat(first|(refine mvT ?_;conv=>whnf)|(refine mvF ?_;conv=>whnf)|(refine cT (by rfl) ?_;conv=>whnf)|(refine cF (by rfl) ?_;conv=>whnf)))
  have hql : q < w0.heap.size := World.block_lt_of_cell? w0 _ (hq.cell (j := 0) rfl)
  have hm2 : TagsR w (fun k => F k ∧ k < w0.heap.size) m u_ := (hm.mono (F' := fun k => F k ∧ k < w0.heap.size) fun k h1 h2 => ⟨h2, h1⟩).ext H.ext fun _ _ _ f => f
  refine Does.mono (EachT tgCreateTopicsRequestTopicConfig ((hq.e0 H.ext).cell (j := 2) rfl) hm2 hd0 hu0 hs0 (Sg.at (A := []) H) (by omega) (fun k _ h e => by have := h.2; omega)) ?_
  rintro r w2 ⟨u', uv, hperm, hpw, hob, hT, hxe⟩
  have hLlt := H.own.lt
  have hw02 := H.ext.size
  have H2 := Sg.up (A := []) H hob hxe
  obtain ⟨auv, nuv, cuv, rfl⟩ := hT.one
  have H := H2.add (Q := fun w => TgsR w (fun k => w0.heap.size ≤ k) (.slice auv nuv cuv) u') fun w3 x => (hT.ext x fun k hk h1 h2 => by
    have h3 : k < w.heap.size := hLlt k (by rcases inL3 h2 with h | h | h <;> subst h <;> simp [inL])
    omega).tgs fun k hk => by omega
  clear H2
  ((conv=>whnf);repeat(first|(refine mvT ?_;conv=>whnf)|(refine mvF ?_;conv=>whnf)|(refine cT (by rfl) ?_;conv=>whnf)|(refine cF (by rfl) ?_;conv=>whnf)))
  refine ldS ((Sg.at (A := []) H).cell rfl) ?_;((conv=>whnf);repeat(first|(refine mvT ?_;conv=>whnf)|(refine mvF ?_;conv=>whnf)|(refine cT (by rfl) ?_;conv=>whnf)|(refine cF (by rfl) ?_;conv=>whnf)))
  refine Does.mono (sorted_does H.now.1 hpw (by rw [hperm.length_eq]; exact hu0)) ?_
  rintro r w3 hx3
  replace H := H.e0 hx3
  ((conv=>whnf);repeat(first|(refine mvT ?_;conv=>whnf)|(refine mvF ?_;conv=>whnf)|(refine cT (by rfl) ?_;conv=>whnf)|(refine cF (by rfl) ?_;conv=>whnf)))
  refine ⟨_, rfl, (Sg.at (A := []) H).cells, ?_⟩
  ((conv=>whnf);repeat(first|(refine mvT ?_;conv=>whnf)|(refine mvF ?_;conv=>whnf)|(refine cT (by rfl) ?_;conv=>whnf)|(refine cF (by rfl) ?_;conv=>whnf)))
  refine Sg.st (A := [_, _]) (o' := 0) (m := [.int .i64 0, .slice none 0 0, .bool false, .slice (some ⟨bl, 0, none⟩) 2 2, .slice auv nuv cuv]) H rfl (Nat.le_of_ble_eq_true rfl) rfl ?_
  clear H
  intro w H
  ((conv=>whnf);repeat(first|(refine mvT ?_;conv=>whnf)|(refine mvF ?_;conv=>whnf)|(refine cT (by rfl) ?_;conv=>whnf)|(refine cF (by rfl) ?_;conv=>whnf)))
  refine ⟨_, rfl, (Sg.at (A := [_, _]) H).cells, ?_⟩
  have hP := H.now
  rw [hP1, hP0] at hP
  have hbl := Sg.at (A := [_]) H
  refine ⟨.mk 0 [] false [.mk 0 s0 false [] [], .mk 0 s1 nl1 [] []] u', ?_, ⟨_, rfl, .mk 0 [] false [.mk 0 s0 false [] [], .mk 0 s1 nl1 [] []] u' _ _ _ [[.int .i64 0, .slice (some ⟨bb0, 0, none⟩) s0.length cb0, .bool false, .slice none 0 0, .slice none 0 0], [.int .i64 nv1, sv1, .bool nm1, lv1, uv1]] rfl (Bytes.nil _ _) (rows_sl hbl (by simp) rfl (by rw [maxLen_eq]; decide) hblw) rfl ?_ hP.1⟩, H.ext⟩
  · refine .mk _ _ _ _ _ _ _ rfl ?_ hperm hpw
    intro i x y hx hy
    match i, hx, hy with
    | 0, hx, hy => simp only [List.getElem?_cons_succ, List.getElem?_cons_zero, Option.some.injEq] at hx hy; subst hx; subst hy; exact Nrm.leaf _ _ _
    | 1, hx, hy => simp only [List.getElem?_cons_succ, List.getElem?_cons_zero, Option.some.injEq] at hx hy; subst hx; subst hy; exact Nrm.leaf _ _ _
  · intro i x y hx hy
    match i, hx, hy with
    | 0, hx, hy => simp only [List.getElem?_cons_succ, List.getElem?_cons_zero, Option.some.injEq] at hx hy; subst hx; subst hy; exact hP.2.2.1
    | 1, hx, hy => simp only [List.getElem?_cons_succ, List.getElem?_cons_zero, Option.some.injEq] at hx hy; subst hx; subst hy; exact hP.2.1
theorem tgCreateTopicsRequestTopic : TellsT 147 := by
  intro w N bt T lv bv F u x hI hN hbt hu hk hx hxl
  obtain ⟨uv, ho, hT⟩ := hI
  obtain ⟨av, cv, rfl, _⟩ := hx.view
  obtain ⟨au, nu, cu, rfl⟩ := hT.one
  refine Does.go (X := X) (l := [_, _, _]) Tryz.func147 rfl (by kernel_rfl) (by kernel_rfl) _ rfl ?_
  ((conv=>whnf);repeat(first|(refine mvT ?_;conv=>whnf)|(refine mvF ?_;conv=>whnf)|(refine cT (by rfl) ?_;conv=>whnf)|(refine cF (by rfl) ?_;conv=>whnf)))
  refine VD.draw mixed (.q 0 (.q 1 (.q 2 (.q 3 (.eff 4 [1] (.q 5 (.eff 6 [1] (.eff 7 [] (.q 8 (.eff 9 [] (.done))))))))))) (by kernel_rfl) ?_;((conv=>whnf);repeat(first|(refine mvT ?_;conv=>whnf)|(refine mvF ?_;conv=>whnf)|(refine cT (by rfl) ?_;conv=>whnf)|(refine cF (by rfl) ?_;conv=>whnf)))
  have hxd : Ext nob w w.drew := ext_drew _
  refine ldS ((ho.e0 hxd).cell rfl) ?_;((conv=>whnf);repeat(first|(refine mvT ?_;conv=>whnf)|(refine mvF ?_;conv=>whnf)|(refine cT (by rfl) ?_;conv=>whnf)|(refine cF (by rfl) ?_;conv=>whnf)))
  refine app_bytes rfl rfl (OB.nil w.drew w.drew.heap.size) (hx.e0 hxd).src rfl (by simp only [List.length_nil]; omega) (Nat.le_refl _) ?_
  intro v3 w3 h3 hx3 _ _
  rw [List.nil_append] at h3
  have hx3 : Ext nob w w3 := hxd.e0 (hx3.mono fun k _ h => by simp [Value.ownBlock] at h)
  obtain ⟨a3, c3, rfl, _⟩ := h3.shape
  refine ⟨by (conv => whnf); exact ⟨⟨_, (ho.e0 hx3).cell rfl, rfl, rfl⟩, trivial⟩, ?_⟩
  ((conv=>whnf);repeat(first|(refine mvT ?_;conv=>whnf)|(refine mvF ?_;conv=>whnf)|(refine cT (by rfl) ?_;conv=>whnf)|(refine cF (by rfl) ?_;conv=>whnf)))
  intro b4 w4 hb4 ho4 hx4
  have ho4 : Own w4 b4 TGT [.int .u32 (x.1 : Int), .slice a3 x.2.length c3] := ho4
  have hx04 := hx3.e0 hx4
  refine ⟨by (conv => whnf); exact ⟨⟨_, (ho.e0 hx04).cell rfl, rfl, rfl⟩, trivial⟩, ?_⟩
  ((conv=>whnf);repeat(first|(refine mvT ?_;conv=>whnf)|(refine mvF ?_;conv=>whnf)|(refine cT (by rfl) ?_;conv=>whnf)|(refine cF (by rfl) ?_;conv=>whnf)))
  have hs3 := hx3.size
  have hown : ∀ k, (Value.slice au nu cu).ownBlock = some k → N ≤ k ∧ k < w.heap.size := fun k hk => by
    obtain ⟨ls, h1, _⟩ := hT
    exact ⟨h1.blk k hk, h1.own.lt k hk⟩
  have hwd : w.drew.heap.size = w.heap.size := rfl
  refine OTn.app (hT.ext hx04 fun _ _ _ f => f) rfl ho4 rfl rfl rfl hu (by decide) (Nat.le_trans hN hx04.size) hk ((h3.e0 hx4).bytes fun k hk => ⟨by omega, fun e => by have := hown k e; omega⟩) ?_
  intro v5 w5 hT5 hx5
  obtain ⟨a5, n5, c5, rfl⟩ := hT5.one
  have hob := (ho.e0 hx04).ext hx5 fun h => by have := hown bt h; omega
  ((conv=>whnf);repeat(first|(refine mvT ?_;conv=>whnf)|(refine mvF ?_;conv=>whnf)|(refine cT (by rfl) ?_;conv=>whnf)|(refine cF (by rfl) ?_;conv=>whnf)))
  refine st_cell (o := 4) (v := .slice a5 n5 c5) hob rfl (by omega) rfl (by simp) rfl ?_
  intro w6 ho6 hx6
  ((conv=>whnf);repeat(first|(refine mvT ?_;conv=>whnf)|(refine mvF ?_;conv=>whnf)|(refine cT (by rfl) ?_;conv=>whnf)|(refine cF (by rfl) ?_;conv=>whnf)))
  refine ⟨⟨_, ho6, hT5.ext hx6 fun k _ h1 h2 => by omega⟩, ?_⟩
  refine (hx04.mono fun _ _ f => f.elim).trans ((hx5.mono (M' := fun j => j = bt ∨ N ≤ j) fun k _ h => .inr (hown k h).1).trans hx6 fun k _ h => .inl h) fun _ _ h => h
theorem tellCreateTopicsRequestTopic {w0 : World} {F : Nat → Prop} {q o : Nat} {cs : List Value} {t : T} (hq : Cells w0 q o cs) (hQ : QPart true 8 dCreateTopicsRequestTopic ⟨w0, F⟩ cs t) (hlim : LimT t) :
    Does X.P 101 #[.pointer (some ⟨q, o, none⟩)] w0 fun r w' => ∃ t', Nrm t t' ∧ Tr w' (fun k => w0.heap.size ≤ k) r t' ∧ Ext nob w0 w' := by
  obtain ⟨_, _, u_, m, rfl, rfl, hA0, hm⟩ := iP hQ
  clear hQ
  obtain ⟨cc0, _, x0, _, rfl, rfl, h0, hA1⟩ := iA hA0
  obtain ⟨s0, rfl, rfl⟩ := iF8 (by decide) h0
  obtain ⟨cc1, _, x1, _, rfl, rfl, h1, hA2⟩ := iA hA1
  obtain ⟨n1, hn1, rfl, rfl⟩ : ∃ n, IntKind.i32.wrap n = n ∧ cc1 = [.int .i32 n] ∧ x1 = numT n := h1
  obtain ⟨cc2, _, x2, _, rfl, rfl, h2, hA3⟩ := iA hA2
  obtain ⟨n2, hn2, rfl, rfl⟩ : ∃ n, IntKind.i16.wrap n = n ∧ cc2 = [.int .i16 n] ∧ x2 = numT n := h2
  obtain ⟨cc3, _, x3, _, rfl, rfl, h3, hA4⟩ := iA hA3
  obtain ⟨c3, nl3, l3, rfl, hnl3, rfl, hc3⟩ : ∃ c nl l, cc3 = [c] ∧ (nl = true → l = []) ∧ x3 = .mk 0 [] nl l [] ∧ ListR true (elZ true 7 10 dCreateTopicsRequestTopicReplicaAssignment) (elQ true 7 10 dCreateTopicsRequestTopicReplicaAssignment ⟨w0, F⟩) w0 F c x3 := h3
  obtain ⟨cc4, _, x4, _, rfl, rfl, h4, hA5⟩ := iA hA4
  obtain ⟨c4, nl4, l4, rfl, hnl4, rfl, hc4⟩ : ∃ c nl l, cc4 = [c] ∧ (nl = true → l = []) ∧ x4 = .mk 0 [] nl l [] ∧ ListR true (elZ true 7 10 dCreateTopicsRequestTopicConfig) (elQ true 7 10 dCreateTopicsRequestTopicConfig ⟨w0, F⟩) w0 F c x4 := h4
  obtain ⟨rfl, rfl⟩ := hA5
  cases hlim
  rename_i hU hKU hDU hLs hu0 hs0 hd0
  have hq : Cells w0 q o [str s0, .int .i32 n1, .int .i16 n2, c3, c4, m] := hq
  have hw1 : IntKind.i64.wrap n1 = n1 := by have := hLs (numT n1) (by simp); cases this; assumption
  have hw2 : IntKind.i64.wrap n2 = n2 := by have := hLs (numT n2) (by simp); cases this; assumption
  obtain ⟨a3, k3, ls3, rfl, hk3, hll3, hnn3, hcl3, hrl3⟩ := hc3.view
  obtain ⟨a4, k4, ls4, rfl, hk4, hll4, hnn4, hcl4, hrl4⟩ := hc4.view
  refine Does.go (X := X) (l := [_]) Tryz.func101 rfl (by kernel_rfl) (by kernel_rfl) _ rfl ?_
  ((conv=>whnf);repeat(first|(refine mvT ?_;conv=>whnf)|(refine mvF ?_;conv=>whnf)|(refine cT (by rfl) ?_;conv=>whnf)|(refine cF (by rfl) ?_;conv=>whnf)))
  intro b2 w1 hb2 ho2 hx1
  ((conv=>whnf);repeat(first|(refine mvT ?_;conv=>whnf)|(refine mvF ?_;conv=>whnf)|(refine cT (by rfl) ?_;conv=>whnf)|(refine cF (by rfl) ?_;conv=>whnf)))
  refine ⟨⟨by decide, by decide, by decide, by decide⟩, ⟨by decide, rfl⟩, ?_⟩
  intro bl w2 hbl hol hx2
  ((conv=>whnf);repeat(first|(refine mvT ?_;conv=>whnf)|(refine mvF ?_;conv=>whnf)|(refine cT (by rfl) ?_;conv=>whnf)|(refine cF (by rfl) ?_;conv=>whnf)))
  intro bt w3 hbt hot hx3
  ((conv=>whnf);repeat(first|(refine mvT ?_;conv=>whnf)|(refine mvF ?_;conv=>whnf)|(refine cT (by rfl) ?_;conv=>whnf)|(refine cF (by rfl) ?_;conv=>whnf)))
  have hzz : w0.heap.size ≤ w1.heap.size := hx1.size
  have H := (((Sg.start w0).push hx1 ho2 hb2).push hx2 hol hbl).push hx3 hot hbt
  refine Sg.st (A := []) (o' := 0) (m := [.int .i64 0, .slice none 0 0, .bool false, .slice (some ⟨bl, 0, none⟩) 5 5, .slice none 0 0]) H rfl (Nat.le_of_ble_eq_true rfl) rfl ?_
  clear H hot hol ho2 hx1 hx2 hx3
  intro w H
  obtain ⟨Tt, Tl, T2, H⟩ : ∃ Tt Tl T2, Sg w0 [(bt, Tt, [.int .i64 0, .slice none 0 0, .bool false, .slice (some ⟨bl, 0, none⟩) 5 5, .slice none 0 0]), (bl, Tl, [.int .i64 0, .slice none 0 0, .bool false, .slice none 0 0, .slice none 0 0, .int .i64 0, .slice none 0 0, .bool false, .slice none 0 0, .slice none 0 0, .int .i64 0, .slice none 0 0, .bool false, .slice none 0 0, .slice none 0 0, .int .i64 0, .slice none 0 0, .bool false, .slice none 0 0, .slice none 0 0, .int .i64 0, .slice none 0 0, .bool false, .slice none 0 0, .slice none 0 0]), (b2, T2, [.int .i64 0, .slice none 0 0, .bool false, .slice none 0 0, .slice none 0 0])] (fun _ => True) w := ⟨_, _, _, H⟩
  have hb2w : w0.heap.size ≤ b2 := hb2
  have hblw : w0.heap.size ≤ bl := by omega
  have hbtw : w0.heap.size ≤ bt := by have := H.dis.1; exact this
  ((conv=>whnf);repeat(first|(refine mvT ?_;conv=>whnf)|(refine mvF ?_;conv=>whnf)|(refine cT (by rfl) ?_;conv=>whnf)|(refine cF (by rfl) ?_;conv=>whnf)))
  refine VD.draw mixed (.q 0 (.q 1 (.q 2 (.q 3 (.q 4 (.q 5 (.eff 6 [1] (.q 7 (.q 8 (.eff 9 [] (.done))))))))))) (by kernel_rfl) ?_;((conv=>whnf);repeat(first|(refine mvT ?_;conv=>whnf)|(refine mvF ?_;conv=>whnf)|(refine cT (by rfl) ?_;conv=>whnf)|(refine cF (by rfl) ?_;conv=>whnf)))
  replace H := H.e0 (ext_drew _)
  refine ldS ((Sg.at (A := []) H).cell rfl) ?_;((conv=>whnf);repeat(first|(refine mvT ?_;conv=>whnf)|(refine mvF ?_;conv=>whnf)|(refine cT (by rfl) ?_;conv=>whnf)|(refine cF (by rfl) ?_;conv=>whnf)))
  refine ⟨_, ld ((hq.e0 H.ext).cell (j := 0) rfl) (by simp), ?_⟩
  ((conv=>whnf);repeat(first|(refine mvT ?_;conv=>whnf)|(refine mvF ?_;conv=>whnf)|(refine cT (by rfl) ?_;conv=>whnf)|(refine cF (by rfl) ?_;conv=>whnf)))
  refine ⟨by show s0.length ≤ maxLen; have := hLs (.mk 0 s0 false [] []) (by simp); cases this; rw [maxLen_eq]; omega, ?_⟩
  intro bb0 cb0 wb0 hbb0 hbl0 hC0 hcp0 hxb0
  have hC0 : Cells wb0 bb0 0 (s0.map bcell) := hC0
  have hcp0 : s0.length ≤ cb0 ∧ cb0 ≤ maxLen := hcp0
  have H := H.keepN (H.e0 hxb0) (trL [.int .i64 0, .slice (some ⟨bb0, 0, none⟩) s0.length cb0, .bool false, .slice none 0 0, .slice none 0 0] (.mk 0 s0 false [] [])) (F := fun k => _ ≤ k) (TrC.leaf rfl (conv_bytes hbb0 hbl0 hC0 hcp0)) fun k h => h
  refine ⟨by (conv => whnf); exact ⟨⟨_, (Sg.at (A := []) H).cell rfl, rfl, rfl⟩, trivial⟩, ?_⟩
  ((conv=>whnf);repeat(first|(refine mvT ?_;conv=>whnf)|(refine mvF ?_;conv=>whnf)|(refine cT (by rfl) ?_;conv=>whnf)|(refine cF (by rfl) ?_;conv=>whnf)))
  refine ⟨bl, 0, rfl, ⟨by omega, by omega⟩, ?_⟩
  ((conv=>whnf);repeat(first|(refine mvT ?_;conv=>whnf)|(refine mvF ?_;conv=>whnf)|(refine cT (by rfl) ?_;conv=>whnf)|(refine cF (by rfl) ?_;conv=>whnf)))
  refine Sg.st (A := [_]) (o' := 0) (m := [.int .i64 0, .slice (some ⟨bb0, 0, none⟩) s0.length cb0, .bool false, .slice none 0 0, .slice none 0 0]) H rfl (Nat.le_of_ble_eq_true rfl) (rfl) ?_
  clear H
  intro w H
  obtain ⟨P0, hP0⟩ : ∃ P : World → Prop, P = fun w => TrC w (fun k => w0.heap.size ≤ k) [.int .i64 0, .slice (some ⟨bb0, 0, none⟩) s0.length cb0, .bool false, .slice none 0 0, .slice none 0 0] (.mk 0 s0 false [] []) ∧ True := ⟨_, rfl⟩
  replace H : Sg w0 [(bt, Tt, [.int .i64 0, .slice none 0 0, .bool false, .slice (some ⟨bl, 0, none⟩) 5 5, .slice none 0 0]), (bl, Tl, [.int .i64 0, .slice (some ⟨bb0, 0, none⟩) s0.length cb0, .bool false, .slice none 0 0, .slice none 0 0, .int .i64 0, .slice none 0 0, .bool false, .slice none 0 0, .slice none 0 0, .int .i64 0, .slice none 0 0, .bool false, .slice none 0 0, .slice none 0 0, .int .i64 0, .slice none 0 0, .bool false, .slice none 0 0, .slice none 0 0, .int .i64 0, .slice none 0 0, .bool false, .slice none 0 0, .slice none 0 0]), (b2, T2, [.int .i64 0, .slice none 0 0, .bool false, .slice none 0 0, .slice none 0 0])] P0 w := by rw [hP0]; exact H
  ((conv=>whnf);repeat(first|(refine mvT ?_;conv=>whnf)|(refine mvF ?_;conv=>whnf)|(refine cT (by rfl) ?_;conv=>whnf)|(refine cF (by rfl) ?_;conv=>whnf)))
  refine VD.draw mixed (.q 0 (.q 1 (.q 2 (.q 3 (.q 4 (.q 5 (.q 6 (.q 7 (.q 8 (.eff 9 [] (.done))))))))))) (by kernel_rfl) ?_;((conv=>whnf);repeat(first|(refine mvT ?_;conv=>whnf)|(refine mvF ?_;conv=>whnf)|(refine cT (by rfl) ?_;conv=>whnf)|(refine cF (by rfl) ?_;conv=>whnf)))
  replace H := H.e0 (ext_drew _)
  refine ldS ((Sg.at (A := []) H).cell rfl) ?_;((conv=>whnf);repeat(first|(refine mvT ?_;conv=>whnf)|(refine mvF ?_;conv=>whnf)|(refine cT (by rfl) ?_;conv=>whnf)|(refine cF (by rfl) ?_;conv=>whnf)))
  refine ⟨_, ld ((hq.e0 H.ext).cell (j := 1) rfl) (by simp), ?_⟩
  ((conv=>whnf);repeat(first|(refine mvT ?_;conv=>whnf)|(refine mvF ?_;conv=>whnf)|(refine cT (by rfl) ?_;conv=>whnf)|(refine cF (by rfl) ?_;conv=>whnf)))
  refine ⟨bl, 0, rfl, ⟨by omega, by omega⟩, ?_⟩
  ((conv=>whnf);repeat(first|(refine mvT ?_;conv=>whnf)|(refine mvF ?_;conv=>whnf)|(refine cT (by rfl) ?_;conv=>whnf)|(refine cF (by rfl) ?_;conv=>whnf)))
  refine Sg.st (A := [_]) (o' := 5) (m := [.int .i64 (IntKind.i64.wrap n1), .slice none 0 0, .bool false, .slice none 0 0, .slice none 0 0]) H rfl (Nat.le_of_ble_eq_true rfl) (rfl) ?_
  clear H
  intro w H
  rw [hw1] at H
  replace H : Sg w0 [(bt, Tt, [.int .i64 0, .slice none 0 0, .bool false, .slice (some ⟨bl, 0, none⟩) 5 5, .slice none 0 0]), (bl, Tl, [.int .i64 0, .slice (some ⟨bb0, 0, none⟩) s0.length cb0, .bool false, .slice none 0 0, .slice none 0 0, .int .i64 n1, .slice none 0 0, .bool false, .slice none 0 0, .slice none 0 0, .int .i64 0, .slice none 0 0, .bool false, .slice none 0 0, .slice none 0 0, .int .i64 0, .slice none 0 0, .bool false, .slice none 0 0, .slice none 0 0, .int .i64 0, .slice none 0 0, .bool false, .slice none 0 0, .slice none 0 0]), (b2, T2, [.int .i64 0, .slice none 0 0, .bool false, .slice none 0 0, .slice none 0 0])] P0 w := H
  ((conv=>whnf);repeat(first|(refine mvT ?_;conv=>whnf)|(refine mvF ?_;conv=>whnf)|(refine cT (by rfl) ?_;conv=>whnf)|(refine cF (by rfl) ?_;conv=>whnf)))
  refine VD.draw mixed (.q 0 (.q 1 (.q 2 (.q 3 (.q 4 (.q 5 (.q 6 (.q 7 (.q 8 (.eff 9 [] (.done))))))))))) (by kernel_rfl) ?_;((conv=>whnf);repeat(first|(refine mvT ?_;conv=>whnf)|(refine mvF ?_;conv=>whnf)|(refine cT (by rfl) ?_;conv=>whnf)|(refine cF (by rfl) ?_;conv=>whnf)))
  replace H := H.e0 (ext_drew _)
  refine ldS ((Sg.at (A := []) H).cell rfl) ?_;((conv=>whnf);repeat(first|(refine mvT ?_;conv=>whnf)|(refine mvF ?_;conv=>whnf)|(refine cT (by rfl) ?_;conv=>whnf)|(refine cF (by rfl) ?_;conv=>whnf)))
  refine ⟨_, ld ((hq.e0 H.ext).cell (j := 2) rfl) (by simp), ?_⟩
  ((conv=>whnf);repeat(first|(refine mvT ?_;conv=>whnf)|(refine mvF ?_;conv=>whnf)|(refine cT (by rfl) ?_;conv=>whnf)|(refine cF (by rfl) ?_;conv=>whnf)))
  refine ⟨bl, 0, rfl, ⟨by omega, by omega⟩, ?_⟩
  ((conv=>whnf);repeat(first|(refine mvT ?_;conv=>whnf)|(refine mvF ?_;conv=>whnf)|(refine cT (by rfl) ?_;conv=>whnf)|(refine cF (by rfl) ?_;conv=>whnf)))
  refine Sg.st (A := [_]) (o' := 10) (m := [.int .i64 (IntKind.i64.wrap n2), .slice none 0 0, .bool false, .slice none 0 0, .slice none 0 0]) H rfl (Nat.le_of_ble_eq_true rfl) (rfl) ?_
  clear H
  intro w H
  rw [hw2] at H
  replace H : Sg w0 [(bt, Tt, [.int .i64 0, .slice none 0 0, .bool false, .slice (some ⟨bl, 0, none⟩) 5 5, .slice none 0 0]), (bl, Tl, [.int .i64 0, .slice (some ⟨bb0, 0, none⟩) s0.length cb0, .bool false, .slice none 0 0, .slice none 0 0, .int .i64 n1, .slice none 0 0, .bool false, .slice none 0 0, .slice none 0 0, .int .i64 n2, .slice none 0 0, .bool false, .slice none 0 0, .slice none 0 0, .int .i64 0, .slice none 0 0, .bool false, .slice none 0 0, .slice none 0 0, .int .i64 0, .slice none 0 0, .bool false, .slice none 0 0, .slice none 0 0]), (b2, T2, [.int .i64 0, .slice none 0 0, .bool false, .slice none 0 0, .slice none 0 0])] P0 w := H
  ((conv=>whnf);repeat(first|(refine mvT ?_;conv=>whnf)|(refine mvF ?_;conv=>whnf)|(refine cT (by rfl) ?_;conv=>whnf)|(refine cF (by rfl) ?_;conv=>whnf)))
  refine VD.draw mixed (.q 0 (.q 1 (.q 2 (.q 3 (.q 4 (.q 5 (.q 6 (.q 7 (.q 8 (.eff 9 [] (.done))))))))))) (by kernel_rfl) ?_;((conv=>whnf);repeat(first|(refine mvT ?_;conv=>whnf)|(refine mvF ?_;conv=>whnf)|(refine cT (by rfl) ?_;conv=>whnf)|(refine cF (by rfl) ?_;conv=>whnf)))
  replace H := H.e0 (ext_drew _)
  refine ldS ((Sg.at (A := []) H).cell rfl) ?_;((conv=>whnf);repeat(first|(refine mvT ?_;conv=>whnf)|(refine mvF ?_;conv=>whnf)|(refine cT (by rfl) ?_;conv=>whnf)|(refine cF (by rfl) ?_;conv=>whnf)))
  refine ⟨_, ld ((hq.e0 H.ext).cell (j := 3) rfl) (by simp), ?_⟩
  ((conv=>whnf);repeat(first|(refine mvT ?_;conv=>whnf)|(refine mvF ?_;conv=>whnf)|(refine cT (by rfl) ?_;conv=>whnf)|(refine cF (by rfl) ?_;conv=>whnf)))
  refine ⟨bl, 0, rfl, ⟨by omega, by omega⟩, ?_⟩
  ((conv=>whnf);repeat(first|(refine mvT ?_;conv=>whnf)|(refine mvF ?_;conv=>whnf)|(refine cT (by rfl) ?_;conv=>whnf)|(refine cF (by rfl) ?_;conv=>whnf)))
  refine Sg.st (A := [_]) (o' := 17) (m := [.bool a3.isNone]) H rfl (Nat.le_of_ble_eq_true rfl) (rfl) ?_
  clear H
  intro w H
  replace H : Sg w0 [(bt, Tt, [.int .i64 0, .slice none 0 0, .bool false, .slice (some ⟨bl, 0, none⟩) 5 5, .slice none 0 0]), (bl, Tl, [.int .i64 0, .slice (some ⟨bb0, 0, none⟩) s0.length cb0, .bool false, .slice none 0 0, .slice none 0 0, .int .i64 n1, .slice none 0 0, .bool false, .slice none 0 0, .slice none 0 0, .int .i64 n2, .slice none 0 0, .bool false, .slice none 0 0, .slice none 0 0, .int .i64 0, .slice none 0 0, .bool a3.isNone, .slice none 0 0, .slice none 0 0, .int .i64 0, .slice none 0 0, .bool false, .slice none 0 0, .slice none 0 0]), (b2, T2, [.int .i64 0, .slice none 0 0, .bool false, .slice none 0 0, .slice none 0 0])] P0 w := H
  ((conv=>whnf);repeat(first|(refine mvT ?_;conv=>whnf)|(refine mvF ?_;conv=>whnf)|(refine cT (by rfl) ?_;conv=>whnf)|(refine cF (by rfl) ?_;conv=>whnf)))
  refine ⟨_, ld ((hq.e0 H.ext).cell (j := 3) rfl) (by simp), ?_⟩
  ((conv=>whnf);repeat(first|(refine mvT ?_;conv=>whnf)|(refine mvF ?_;conv=>whnf)|(refine cT (by rfl) ?_;conv=>whnf)|(refine cF (by rfl) ?_;conv=>whnf)))
  have hlsT : lsT (.mk 0 [] nl3 l3 []) = l3 := by
    show (if nl3 = true then [] else l3) = l3
    split
    · rename_i e
      exact (hnl3 e).symm
    · rfl
  rw [hlsT] at hll3 hrl3
  obtain ⟨wL, hwL⟩ : ∃ wL, wL = w := ⟨_, rfl⟩
  rw [← hwL] at H ⊢
  have hLlt := H.own.lt
  have hLl : l3.length ≤ 1000000 ∧ ∀ x, x ∈ l3 → LimT x := by
    have := hLs (.mk 0 [] nl3 l3 []) (by simp)
    cases this
    exact ⟨by assumption, by assumption⟩
  have hs0L := H.ext.size
  refine VL.loop (fun i : Nat => [(48, .int .i64 ls3.length), (49, .int .i64 i), (0, .pointer (some ⟨q, o, none⟩)), (2, .pointer (some ⟨b2, 0, none⟩)), (3, .pointer (some ⟨bt, 0, none⟩))])
    (fun i w' => i ≤ ls3.length ∧ Ext (fun k => k = bl ∨ wL.heap.size ≤ k) wL w' ∧ ∃ vl ts, Own w' bl Tl [.int .i64 0, .slice (some ⟨bb0, 0, none⟩) s0.length cb0, .bool false, .slice none 0 0, .slice none 0 0, .int .i64 n1, .slice none 0 0, .bool false, .slice none 0 0, .slice none 0 0, .int .i64 n2, .slice none 0 0, .bool false, .slice none 0 0, .slice none 0 0, .int .i64 0, .slice none 0 0, .bool a3.isNone, vl, .slice none 0 0, .int .i64 0, .slice none 0 0, .bool false, .slice none 0 0, .slice none 0 0] ∧ OLn w' wL.heap.size vl ts ∧ ts.length = i ∧ ∀ (j : Nat) (x y : T), l3[j]? = some x → ts[j]? = some y → Nrm x y) (fun i => ls3.length - i) 0
    ⟨rfl, rfl, rfl, rfl, rfl, trivial⟩ ⟨Nat.zero_le _, Ext.refl _ _, _, [], Sg.at (A := [_]) H, OLn.nil _ _, rfl, by simp⟩ ?_
  rintro i w ⟨hi, hxL, vl3, ts3, hobl, hT, htl3, hnr3⟩
  ((conv=>whnf);repeat(first|(refine mvT ?_;conv=>whnf)|(refine mvF ?_;conv=>whnf)|(refine cT (by rfl) ?_;conv=>whnf)|(refine cF (by rfl) ?_;conv=>whnf)))
  refine cI (by rfl) (fun h9=>?_) (fun h9=>?_)
  · have hil : i < ls3.length := by have := of_decide_eq_true h9; omega
    obtain ⟨be, oe, rfl, hFe, hbe, hce⟩ := hcl3 i ls3[i] (by simp [hil])
    have hqe := hrl3 i ls3[i] l3[i] (by simp [hil]) (by simp)
    have hlime := hLl.2 l3[i] (List.getElem_mem _)
    have hx0 : Ext nob w0 w := H.ext.trans hxL fun k hk h => by
      rcases h with h | h
      · omega
      · omega
    have hobt : Own w bt Tt [.int .i64 0, .slice none 0 0, .bool false, .slice (some ⟨bl, 0, none⟩) 5 5, .slice none 0 0] := (Sg.at (A := []) H).ext hxL fun h => by
      have := hLlt bt (by simp [inL])
      have h2 := (H.dis.2.1 : ¬ inL _ bt)
      rcases h with h | h
      · exact h2 (by rw [h]; simp [inL])
      · omega
    obtain ⟨av, cv, rfl⟩ := hT.one
    ((conv=>whnf);repeat(first|(refine mvT ?_;conv=>whnf)|(refine mvF ?_;conv=>whnf)|(refine cT (by rfl) ?_;conv=>whnf)|(refine cF (by rfl) ?_;conv=>whnf)))
    refine VD.draw mixed (.eff 0 [] (.alt (.eff 1 [] (.eff 2 [] (.q 3 (.done)))) (.eff 2 [] (.eff 1 [] (.q 3 (.done)))))) (by kernel_rfl) ?_;((conv=>whnf);repeat(first|(refine mvT ?_;conv=>whnf)|(refine mvF ?_;conv=>whnf)|(refine cT (by rfl) ?_;conv=>whnf)|(refine cF (by rfl) ?_;conv=>whnf)))
    intro bb wb hbb hob hxb
    have hxb : Ext nob w wb := (ext_drew w).e0 hxb
    have hbb : w.heap.size ≤ bb := hbb
    ((conv=>whnf);repeat(first|(refine mvT ?_;conv=>whnf)|(refine mvF ?_;conv=>whnf)|(refine cT (by rfl) ?_;conv=>whnf)|(refine cF (by rfl) ?_;conv=>whnf)))
    constructor
    · conv => whnf
      refine st_all [.bool true] hob rfl rfl rfl ?_
      intro wc hoc hxc
      conv => whnf
      refine st_all [.bool false] hoc rfl rfl rfl ?_
      intro wd hod hxd
      ((conv=>whnf);repeat(first|(refine mvT ?_;conv=>whnf)|(refine mvF ?_;conv=>whnf)|(refine cT (by rfl) ?_;conv=>whnf)|(refine cF (by rfl) ?_;conv=>whnf)))
      refine ldS (hod.cell rfl) ?_;((conv=>whnf);repeat(first|(refine mvT ?_;conv=>whnf)|(refine mvF ?_;conv=>whnf)|(refine cT (by rfl) ?_;conv=>whnf)|(refine cF (by rfl) ?_;conv=>whnf)))
      have hxw : Ext nob w wd := (hxb.st hxc hbb).st hxd hbb
      refine VD.draw mixed (.q 0 (.q 1 (.q 2 (.q 3 (.q 4 (.q 5 (.q 6 (.q 7 (.q 8 (.q 9 (.q 10 (.q 11 (.q 12 (.eff 13 [1, 3, 6] (.eff 14 [1, 3, 6] (.eff 15 [1] (.q 16 (.q 17 (.eff 18 [] (.done)))))))))))))))))))) (by kernel_rfl) ?_;((conv=>whnf);repeat(first|(refine mvT ?_;conv=>whnf)|(refine mvF ?_;conv=>whnf)|(refine cT (by rfl) ?_;conv=>whnf)|(refine cF (by rfl) ?_;conv=>whnf)))
      have hxw := hxw.e0 (ext_drew _)
      have hszd := hxw.size
      refine ldS ((hobt.e0 hxw).cell rfl) ?_;((conv=>whnf);repeat(first|(refine mvT ?_;conv=>whnf)|(refine mvF ?_;conv=>whnf)|(refine cT (by rfl) ?_;conv=>whnf)|(refine cF (by rfl) ?_;conv=>whnf)))
      refine ldS ((hobt.e0 hxw).cell rfl) ?_;((conv=>whnf);repeat(first|(refine mvT ?_;conv=>whnf)|(refine mvF ?_;conv=>whnf)|(refine cT (by rfl) ?_;conv=>whnf)|(refine cF (by rfl) ?_;conv=>whnf)))
      refine ⟨bl, 0, rfl, ⟨by omega, by omega⟩, ?_⟩
      ((conv=>whnf);repeat(first|(refine mvT ?_;conv=>whnf)|(refine mvF ?_;conv=>whnf)|(refine cT (by rfl) ?_;conv=>whnf)|(refine cF (by rfl) ?_;conv=>whnf)))
      refine ldS ((hobl.e0 hxw).cell rfl) ?_;((conv=>whnf);repeat(first|(refine mvT ?_;conv=>whnf)|(refine mvF ?_;conv=>whnf)|(refine cT (by rfl) ?_;conv=>whnf)|(refine cF (by rfl) ?_;conv=>whnf)))
      refine ⟨_, ld ((hq.e0 (hx0.e0 hxw)).cell (j := 3) rfl) (by simp), ?_⟩
      ((conv=>whnf);repeat(first|(refine mvT ?_;conv=>whnf)|(refine mvF ?_;conv=>whnf)|(refine cT (by rfl) ?_;conv=>whnf)|(refine cF (by rfl) ?_;conv=>whnf)))
      refine ⟨be, oe, rfl, ⟨by omega, by omega⟩, ?_⟩
      ((conv=>whnf);repeat(first|(refine mvT ?_;conv=>whnf)|(refine mvF ?_;conv=>whnf)|(refine cT (by rfl) ?_;conv=>whnf)|(refine cF (by rfl) ?_;conv=>whnf)))
      refine Does.mono (tellCreateTopicsRequestTopicReplicaAssignment (F := F) (hce.e0 (hx0.e0 hxw)) (QPart_later true 7 _ _ _ w0 _ F F nob hqe (hx0.e0 hxw) fun k _ hf => ⟨fun f => f, hf⟩) hlime) ?_
      rintro r wt ⟨t', hnr', ⟨cr, rfl, htr⟩, hxt⟩
      have hszt := hxw.size
      have hxw := hxw.e0 hxt
      obtain ⟨n', sv', nl', lv', uv', rfl⟩ : ∃ n sv nl lv uv, cr = [.int .i64 n, sv, .bool nl, lv, uv] := by cases htr; exact ⟨_, _, _, _, _, rfl⟩
      refine ⟨by (conv => whnf); exact ⟨⟨_, (hobt.e0 hxw).cell rfl, rfl, rfl⟩, ⟨_, (hobt.e0 hxw).cell rfl, rfl, rfl⟩, ⟨_, (hobl.e0 hxw).cell rfl, rfl, rfl⟩, trivial⟩, ?_⟩
      conv => whnf
      intro bs ws hbs hos hxs
      have hos : Own ws bs TT [.int .i64 n', sv', .bool nl', lv', uv'] := hos
      have hxw := hxw.e0 hxs
      refine ⟨by (conv => whnf); exact ⟨⟨_, (hobt.e0 hxw).cell rfl, rfl, rfl⟩, ⟨_, (hobt.e0 hxw).cell rfl, rfl, rfl⟩, ⟨_, (hobl.e0 hxw).cell rfl, rfl, rfl⟩, trivial⟩, ?_⟩
      conv => whnf
      have hsLw := hxL.size
      refine OLn.app (x := t') (hT.ext hxw fun _ _ _ f => f) rfl hos rfl rfl (by omega) (by decide) (by have := hxw.size; omega) ((htr.ext hxs fun _ _ _ f => f).mono fun k _ hk => ⟨by omega, fun e => by have := hT.own k e; omega⟩) ?_
      intro v5 w5 hT5 hx5 _
      obtain ⟨a5, c5, rfl⟩ := hT5.one
      have hown5 : ∀ k, (Value.slice av ts3.length cv).ownBlock = some k → wL.heap.size ≤ k := fun k hk => (hT.own k hk).1
      have hbt5 := (hobt.e0 hxw).ext hx5 fun h => by have := hown5 bt h; have := hLlt bt (by simp [inL]); omega
      have hbl5 := (hobl.e0 hxw).ext hx5 fun h => by have := hown5 bl h; have := hLlt bl (by simp [inL]); omega
      refine ⟨by (conv => whnf); exact ⟨⟨_, hbt5.cell rfl, rfl, rfl⟩, trivial⟩, ?_⟩
      conv => whnf
      refine ⟨bl, 0, rfl, ⟨by omega, by omega⟩, ?_⟩
      ((conv=>whnf);repeat(first|(refine mvT ?_;conv=>whnf)|(refine mvF ?_;conv=>whnf)|(refine cT (by rfl) ?_;conv=>whnf)|(refine cF (by rfl) ?_;conv=>whnf)))
      refine st_cell (o := 18) (v := .slice a5 (ts3 ++ [t']).length c5) hbl5 rfl rfl rfl (by simp) rfl ?_
      intro w6 ho6 hx6
      ((conv=>whnf);repeat(first|(refine mvT ?_;conv=>whnf)|(refine mvF ?_;conv=>whnf)|(refine cT (by rfl) ?_;conv=>whnf)|(refine cF (by rfl) ?_;conv=>whnf)))
      have hxL6 : Ext (fun k => k = bl ∨ wL.heap.size ≤ k) wL w6 := ((hxL.trans (hxw.mono (M' := nob) fun _ _ f => f) fun k hk f => f.elim).trans hx5 fun k hk h => by have := hown5 k h; omega).trans hx6 fun k hk h => .inl h
      refine ⟨i + 1, ⟨rfl, inc_eq (by omega), rfl, rfl, rfl, trivial⟩, ⟨by omega, hxL6, _, ts3 ++ [t'], ho6, hT5.ext hx6 (fun k _ h1 h2 => by have := hLlt bl (by simp [inL]); omega), by simp [htl3], ?_⟩, by omega⟩
      intro j x y hx hy
      rcases Nat.lt_or_ge j ts3.length with hj | hj
      · rw [List.getElem?_append_left hj] at hy
        exact hnr3 j x y hx hy
      · rw [List.getElem?_append_right hj] at hy
        obtain ⟨e, he⟩ : ∃ e, j - ts3.length = e := ⟨_, rfl⟩
        rw [he] at hy
        cases e with
        | zero =>
          have : j = i := by omega
          subst this
          simp only [List.getElem?_cons_zero, Option.some.injEq] at hy
          subst hy
          rw [List.getElem?_eq_getElem (by omega), Option.some.injEq] at hx
          subst hx
          exact hnr'
        | succ e => simp at hy
    · conv => whnf
      refine st_all [.bool false] hob rfl rfl rfl ?_
      intro wc hoc hxc
      conv => whnf
      refine st_all [.bool true] hoc rfl rfl rfl ?_
      intro wd hod hxd
      ((conv=>whnf);repeat(first|(refine mvT ?_;conv=>whnf)|(refine mvF ?_;conv=>whnf)|(refine cT (by rfl) ?_;conv=>whnf)|(refine cF (by rfl) ?_;conv=>whnf)))
      refine ldS (hod.cell rfl) ?_;((conv=>whnf);repeat(first|(refine mvT ?_;conv=>whnf)|(refine mvF ?_;conv=>whnf)|(refine cT (by rfl) ?_;conv=>whnf)|(refine cF (by rfl) ?_;conv=>whnf)))
      have hxw : Ext nob w wd := (hxb.st hxc hbb).st hxd hbb
      refine VD.draw mixed (.q 0 (.q 1 (.q 2 (.q 3 (.q 4 (.q 5 (.q 6 (.q 7 (.q 8 (.q 9 (.q 10 (.q 12 (.alt (.eff 11 [1, 4] (.eff 13 [1, 4, 8] (.eff 14 [] (.q 15 (.q 16 (.eff 17 [] (.done))))))) (.eff 13 [1, 4, 8] (.eff 11 [1, 4] (.eff 14 [] (.q 15 (.q 16 (.eff 17 [] (.done)))))))))))))))))))) (by kernel_rfl) ?_;((conv=>whnf);repeat(first|(refine mvT ?_;conv=>whnf)|(refine mvF ?_;conv=>whnf)|(refine cT (by rfl) ?_;conv=>whnf)|(refine cF (by rfl) ?_;conv=>whnf)))
      have hxw := hxw.e0 (ext_drew _)
      have hszd := hxw.size
      refine ldS ((hobt.e0 hxw).cell rfl) ?_;((conv=>whnf);repeat(first|(refine mvT ?_;conv=>whnf)|(refine mvF ?_;conv=>whnf)|(refine cT (by rfl) ?_;conv=>whnf)|(refine cF (by rfl) ?_;conv=>whnf)))
      refine ⟨bl, 0, rfl, ⟨by omega, by omega⟩, ?_⟩
      ((conv=>whnf);repeat(first|(refine mvT ?_;conv=>whnf)|(refine mvF ?_;conv=>whnf)|(refine cT (by rfl) ?_;conv=>whnf)|(refine cF (by rfl) ?_;conv=>whnf)))
      refine ldS ((hobl.e0 hxw).cell rfl) ?_;((conv=>whnf);repeat(first|(refine mvT ?_;conv=>whnf)|(refine mvF ?_;conv=>whnf)|(refine cT (by rfl) ?_;conv=>whnf)|(refine cF (by rfl) ?_;conv=>whnf)))
      refine ⟨_, ld ((hq.e0 (hx0.e0 hxw)).cell (j := 3) rfl) (by simp), ?_⟩
      ((conv=>whnf);repeat(first|(refine mvT ?_;conv=>whnf)|(refine mvF ?_;conv=>whnf)|(refine cT (by rfl) ?_;conv=>whnf)|(refine cF (by rfl) ?_;conv=>whnf)))
      refine ⟨be, oe, rfl, ⟨by omega, by omega⟩, ?_⟩
      ((conv=>whnf);repeat(first|(refine mvT ?_;conv=>whnf)|(refine mvF ?_;conv=>whnf)|(refine cT (by rfl) ?_;conv=>whnf)|(refine cF (by rfl) ?_;conv=>whnf)))
      constructor
      · conv => whnf
        refine Does.mono (tellCreateTopicsRequestTopicReplicaAssignment (F := F) (hce.e0 (hx0.e0 hxw)) (QPart_later true 7 _ _ _ w0 _ F F nob hqe (hx0.e0 hxw) fun k _ hf => ⟨fun f => f, hf⟩) hlime) ?_
        rintro r wt ⟨t', hnr', ⟨cr, rfl, htr⟩, hxt⟩
        have hszt := hxw.size
        have hxw := hxw.e0 hxt
        obtain ⟨n', sv', nl', lv', uv', rfl⟩ : ∃ n sv nl lv uv, cr = [.int .i64 n, sv, .bool nl, lv, uv] := by cases htr; exact ⟨_, _, _, _, _, rfl⟩
        refine ⟨by (conv => whnf); exact ⟨⟨_, (hobt.e0 hxw).cell rfl, rfl, rfl⟩, ⟨_, (hobl.e0 hxw).cell rfl, rfl, rfl⟩, trivial⟩, ?_⟩
        conv => whnf
        intro bs ws hbs hos hxs
        have hos : Own ws bs TT [.int .i64 0, .slice none 0 0, .bool false, .slice none 0 0, .slice none 0 0] := hos
        have hxw := hxw.e0 hxs
        refine ⟨by (conv => whnf); exact ⟨⟨_, (hobt.e0 hxw).cell rfl, rfl, rfl⟩, ⟨_, (hobl.e0 hxw).cell rfl, rfl, rfl⟩, ⟨_, (hq.e0 (hx0.e0 hxw)).cell (j := 3) rfl, rfl, rfl⟩, trivial⟩, ?_⟩
        have htrw : TrC ws (fun k => w.heap.size ≤ k ∧ k < ws.heap.size) [.int .i64 n', sv', .bool nl', lv', uv'] t' := ((htr.mono (F' := fun k => w.heap.size ≤ k ∧ k < wt.heap.size) fun k hk h => ⟨by omega, hk⟩).ext hxs fun _ _ _ f => f).mono fun k hk h => ⟨h.1, hk⟩
        conv => whnf
        refine OLn.app (x := .mk 0 [] false [] []) (hT.ext hxw fun _ _ _ f => f) rfl hos rfl rfl (by omega) (by decide) (by have := hxw.size; have := hxL.size; omega) (TrC.leaf rfl (Bytes.nil _ _)) ?_
        intro v5 w5 hT5 hx5 hbk5
        obtain ⟨a5, c5, rfl⟩ := hT5.one
        have hown5 : ∀ k, (Value.slice av ts3.length cv).ownBlock = some k → wL.heap.size ≤ k ∧ k < w.heap.size := fun k hk => hT.own k hk
        have hbl5 := (hobl.e0 hxw).ext hx5 fun h => by have := hown5 bl h; have := hLlt bl (by simp [inL]); omega
        have hblL := hLlt bl (by simp [inL])
        have hsLw := hxL.size
        have hszx := hxw.size
        ((conv=>whnf);repeat(first|(refine mvT ?_;conv=>whnf)|(refine mvF ?_;conv=>whnf)|(refine cT (by rfl) ?_;conv=>whnf)|(refine cF (by rfl) ?_;conv=>whnf)))
        refine ⟨bl, 0, rfl, ⟨by omega, by omega⟩, ?_⟩
        ((conv=>whnf);repeat(first|(refine mvT ?_;conv=>whnf)|(refine mvF ?_;conv=>whnf)|(refine cT (by rfl) ?_;conv=>whnf)|(refine cF (by rfl) ?_;conv=>whnf)))
        refine st_cell (o := 18) (v := .slice a5 (ts3 ++ [T.mk 0 [] false [] []]).length c5) hbl5 rfl rfl rfl (by simp) rfl ?_
        intro w6 ho6 hx6
        ((conv=>whnf);repeat(first|(refine mvT ?_;conv=>whnf)|(refine mvF ?_;conv=>whnf)|(refine cT (by rfl) ?_;conv=>whnf)|(refine cF (by rfl) ?_;conv=>whnf)))
        have hT6 := hT5.ext hx6 (fun k _ h1 h2 => by omega)
        obtain ⟨g, cap, hv, hput⟩ := hT6.last
        injection hv with e1 e2 e3
        subst e1
        subst e3
        have htr6 : TrC w6 (fun k => wL.heap.size ≤ k ∧ (Value.slice (some ⟨g, 0, none⟩) (ts3 ++ [T.mk 0 [] false [] []]).length c5).ownBlock ≠ some k) [.int .i64 n', sv', .bool nl', lv', uv'] t' := by
          refine ((htrw.ext hx5 fun k _ h e => by have := hown5 k e; omega).ext hx6 fun k _ h e => by omega).mono fun k _ h => ⟨by omega, fun e => ?_⟩
          rcases hbk5 with e2 | ⟨q2, e2, hle⟩
          · have := hown5 k (e2 ▸ e); omega
          · rw [e, Option.some.injEq] at e2
            omega
        refine ⟨g, 0, rfl, ⟨by omega, by simp; omega⟩, ?_⟩
        ((conv=>whnf);repeat(first|(refine mvT ?_;conv=>whnf)|(refine mvF ?_;conv=>whnf)|(refine cT (by rfl) ?_;conv=>whnf)|(refine cF (by rfl) ?_;conv=>whnf)))
        refine hput [.int .i64 n', sv', .bool nl', lv', uv'] t' _ _ _ rfl (by simp) htr6 ?_
        intro w7 hT7 hx7
        ((conv=>whnf);repeat(first|(refine mvT ?_;conv=>whnf)|(refine mvF ?_;conv=>whnf)|(refine cT (by rfl) ?_;conv=>whnf)|(refine cF (by rfl) ?_;conv=>whnf)))
        have hgL : wL.heap.size ≤ g := (hT6.own g rfl).1
        have hxL7 : Ext (fun k => k = bl ∨ wL.heap.size ≤ k) wL w7 := (((hxL.trans (hxw.mono (M' := nob) fun _ _ f => f) fun k hk f => f.elim).trans hx5 fun k hk h => by have := hown5 k h; omega).trans hx6 fun k hk h => .inl h).trans hx7 fun k hk h => by omega
        refine ⟨i + 1, ⟨rfl, inc_eq (by omega), rfl, rfl, rfl, trivial⟩, ⟨by omega, hxL7, _, ts3 ++ [t'], ho6.ext hx7 (by omega), hT7, by simp [htl3], ?_⟩, by omega⟩
        intro j x y hx hy
        rcases Nat.lt_or_ge j ts3.length with hj | hj
        · rw [List.getElem?_append_left hj] at hy
          exact hnr3 j x y hx hy
        · rw [List.getElem?_append_right hj] at hy
          obtain ⟨e, he⟩ : ∃ e, j - ts3.length = e := ⟨_, rfl⟩
          rw [he] at hy
          cases e with
          | zero =>
            have : j = i := by omega
            subst this
            simp only [List.getElem?_cons_zero, Option.some.injEq] at hy
            subst hy
            rw [List.getElem?_eq_getElem (by omega), Option.some.injEq] at hx
            subst hx
            exact hnr'
          | succ e => simp at hy
      · conv => whnf
        intro bs ws hbs hos hxs
        have hos : Own ws bs TT [.int .i64 0, .slice none 0 0, .bool false, .slice none 0 0, .slice none 0 0] := hos
        have hxw := hxw.e0 hxs
        refine ⟨by (conv => whnf); exact ⟨⟨_, (hobt.e0 hxw).cell rfl, rfl, rfl⟩, ⟨_, (hobl.e0 hxw).cell rfl, rfl, rfl⟩, ⟨_, (hq.e0 (hx0.e0 hxw)).cell (j := 3) rfl, rfl, rfl⟩, trivial⟩, ?_⟩
        conv => whnf
        refine Does.mono (tellCreateTopicsRequestTopicReplicaAssignment (F := F) (hce.e0 (hx0.e0 hxw)) (QPart_later true 7 _ _ _ w0 _ F F nob hqe (hx0.e0 hxw) fun k _ hf => ⟨fun f => f, hf⟩) hlime) ?_
        rintro r wt ⟨t', hnr', ⟨cr, rfl, htr⟩, hxt⟩
        have hszt := hxw.size
        have hxw := hxw.e0 hxt
        obtain ⟨n', sv', nl', lv', uv', rfl⟩ : ∃ n sv nl lv uv, cr = [.int .i64 n, sv, .bool nl, lv, uv] := by cases htr; exact ⟨_, _, _, _, _, rfl⟩
        refine ⟨by (conv => whnf); exact ⟨⟨_, (hobt.e0 hxw).cell rfl, rfl, rfl⟩, ⟨_, (hobl.e0 hxw).cell rfl, rfl, rfl⟩, trivial⟩, ?_⟩
        have hos := hos.e0 hxt
        have htrw : TrC wt (fun k => w.heap.size ≤ k ∧ k < wt.heap.size) [.int .i64 n', sv', .bool nl', lv', uv'] t' := htr.mono fun k hk h => ⟨by omega, hk⟩
        conv => whnf
        refine OLn.app (x := .mk 0 [] false [] []) (hT.ext hxw fun _ _ _ f => f) rfl hos rfl rfl (by omega) (by decide) (by have := hxw.size; have := hxL.size; omega) (TrC.leaf rfl (Bytes.nil _ _)) ?_
        intro v5 w5 hT5 hx5 hbk5
        obtain ⟨a5, c5, rfl⟩ := hT5.one
        have hown5 : ∀ k, (Value.slice av ts3.length cv).ownBlock = some k → wL.heap.size ≤ k ∧ k < w.heap.size := fun k hk => hT.own k hk
        have hbl5 := (hobl.e0 hxw).ext hx5 fun h => by have := hown5 bl h; have := hLlt bl (by simp [inL]); omega
        have hblL := hLlt bl (by simp [inL])
        have hsLw := hxL.size
        have hszx := hxw.size
        ((conv=>whnf);repeat(first|(refine mvT ?_;conv=>whnf)|(refine mvF ?_;conv=>whnf)|(refine cT (by rfl) ?_;conv=>whnf)|(refine cF (by rfl) ?_;conv=>whnf)))
        refine ⟨bl, 0, rfl, ⟨by omega, by omega⟩, ?_⟩
        ((conv=>whnf);repeat(first|(refine mvT ?_;conv=>whnf)|(refine mvF ?_;conv=>whnf)|(refine cT (by rfl) ?_;conv=>whnf)|(refine cF (by rfl) ?_;conv=>whnf)))
        refine st_cell (o := 18) (v := .slice a5 (ts3 ++ [T.mk 0 [] false [] []]).length c5) hbl5 rfl rfl rfl (by simp) rfl ?_
        intro w6 ho6 hx6
        ((conv=>whnf);repeat(first|(refine mvT ?_;conv=>whnf)|(refine mvF ?_;conv=>whnf)|(refine cT (by rfl) ?_;conv=>whnf)|(refine cF (by rfl) ?_;conv=>whnf)))
        have hT6 := hT5.ext hx6 (fun k _ h1 h2 => by omega)
        obtain ⟨g, cap, hv, hput⟩ := hT6.last
        injection hv with e1 e2 e3
        subst e1
        subst e3
        have htr6 : TrC w6 (fun k => wL.heap.size ≤ k ∧ (Value.slice (some ⟨g, 0, none⟩) (ts3 ++ [T.mk 0 [] false [] []]).length c5).ownBlock ≠ some k) [.int .i64 n', sv', .bool nl', lv', uv'] t' := by
          refine ((htrw.ext hx5 fun k _ h e => by have := hown5 k e; omega).ext hx6 fun k _ h e => by omega).mono fun k _ h => ⟨by omega, fun e => ?_⟩
          rcases hbk5 with e2 | ⟨q2, e2, hle⟩
          · have := hown5 k (e2 ▸ e); omega
          · rw [e, Option.some.injEq] at e2
            omega
        refine ⟨g, 0, rfl, ⟨by omega, by simp; omega⟩, ?_⟩
        ((conv=>whnf);repeat(first|(refine mvT ?_;conv=>whnf)|(refine mvF ?_;conv=>whnf)|(refine cT (by rfl) ?_;conv=>whnf)|(refine cF (by rfl) ?_;conv=>whnf)))
        refine hput [.int .i64 n', sv', .bool nl', lv', uv'] t' _ _ _ rfl (by simp) htr6 ?_
        intro w7 hT7 hx7
        ((conv=>whnf);repeat(first|(refine mvT ?_;conv=>whnf)|(refine mvF ?_;conv=>whnf)|(refine cT (by rfl) ?_;conv=>whnf)|(refine cF (by rfl) ?_;conv=>whnf)))
        have hgL : wL.heap.size ≤ g := (hT6.own g rfl).1
        have hxL7 : Ext (fun k => k = bl ∨ wL.heap.size ≤ k) wL w7 := (((hxL.trans (hxw.mono (M' := nob) fun _ _ f => f) fun k hk f => f.elim).trans hx5 fun k hk h => by have := hown5 k h; omega).trans hx6 fun k hk h => .inl h).trans hx7 fun k hk h => by omega
        refine ⟨i + 1, ⟨rfl, inc_eq (by omega), rfl, rfl, rfl, trivial⟩, ⟨by omega, hxL7, _, ts3 ++ [t'], ho6.ext hx7 (by omega), hT7, by simp [htl3], ?_⟩, by omega⟩
        intro j x y hx hy
        rcases Nat.lt_or_ge j ts3.length with hj | hj
        · rw [List.getElem?_append_left hj] at hy
          exact hnr3 j x y hx hy
        · rw [List.getElem?_append_right hj] at hy
          obtain ⟨e, he⟩ : ∃ e, j - ts3.length = e := ⟨_, rfl⟩
          rw [he] at hy
          cases e with
          | zero =>
            have : j = i := by omega
            subst this
            simp only [List.getElem?_cons_zero, Option.some.injEq] at hy
            subst hy
            rw [List.getElem?_eq_getElem (by omega), Option.some.injEq] at hx
            subst hx
            exact hnr'
          | succ e => simp at hy
  · have hil : i = ls3.length := by have := of_decide_eq_false h9; omega
    have H := Sg.up (A := [_]) H hobl (hxL.mono fun k hk h => by rcases h with h | h; exact h; omega)
    have htl3 : ts3.length = l3.length := by omega
    have hnl : a3.isNone = nl3 := hnn3 rfl
    rw [hnl] at H
    have H := H.add (Q := fun w => TrC w (fun k => w0.heap.size ≤ k) [.int .i64 0, .slice none 0 0, .bool nl3, vl3, .slice none 0 0] (.mk 0 [] nl3 ts3 [])) fun w3 x => (hT.ext x fun k hk h1 h2 => by
      have h3 : k < wL.heap.size := hLlt k (by rcases inL3 h2 with h | h | h <;> subst h <;> simp [inL])
      omega).row fun k hk => by omega
    obtain ⟨P3, hP3⟩ : ∃ P : World → Prop, P = fun w => TrC w (fun k => w0.heap.size ≤ k) [.int .i64 0, .slice none 0 0, .bool nl3, vl3, .slice none 0 0] (.mk 0 [] nl3 ts3 []) ∧ P0 w := ⟨_, rfl⟩
    replace H : Sg w0 [(bt, Tt, [.int .i64 0, .slice none 0 0, .bool false, .slice (some ⟨bl, 0, none⟩) 5 5, .slice none 0 0]), (bl, Tl, [.int .i64 0, .slice (some ⟨bb0, 0, none⟩) s0.length cb0, .bool false, .slice none 0 0, .slice none 0 0, .int .i64 n1, .slice none 0 0, .bool false, .slice none 0 0, .slice none 0 0, .int .i64 n2, .slice none 0 0, .bool false, .slice none 0 0, .slice none 0 0, .int .i64 0, .slice none 0 0, .bool nl3, vl3, .slice none 0 0, .int .i64 0, .slice none 0 0, .bool false, .slice none 0 0, .slice none 0 0]), (b2, T2, [.int .i64 0, .slice none 0 0, .bool false, .slice none 0 0, .slice none 0 0])] P3 w := by rw [hP3]; exact H
    ((conv=>whnf);repeat(first|(refine mvT ?_;conv=>whnf)|(refine mvF ?_;conv=>whnf)|(refine cT (by rfl) ?_;conv=>whnf)|(refine cF (by rfl) ?_;conv=>whnf)))
    refine VD.draw mixed (.q 0 (.q 1 (.q 2 (.q 3 (.q 4 (.q 5 (.q 6 (.q 7 (.q 8 (.eff 9 [] (.done))))))))))) (by kernel_rfl) ?_;((conv=>whnf);repeat(first|(refine mvT ?_;conv=>whnf)|(refine mvF ?_;conv=>whnf)|(refine cT (by rfl) ?_;conv=>whnf)|(refine cF (by rfl) ?_;conv=>whnf)))
    replace H := H.e0 (ext_drew _)
    refine ldS ((Sg.at (A := []) H).cell rfl) ?_;((conv=>whnf);repeat(first|(refine mvT ?_;conv=>whnf)|(refine mvF ?_;conv=>whnf)|(refine cT (by rfl) ?_;conv=>whnf)|(refine cF (by rfl) ?_;conv=>whnf)))
    refine ⟨_, ld ((hq.e0 H.ext).cell (j := 4) rfl) (by simp), ?_⟩
    ((conv=>whnf);repeat(first|(refine mvT ?_;conv=>whnf)|(refine mvF ?_;conv=>whnf)|(refine cT (by rfl) ?_;conv=>whnf)|(refine cF (by rfl) ?_;conv=>whnf)))
    refine ⟨bl, 0, rfl, ⟨by omega, by omega⟩, ?_⟩
    ((conv=>whnf);repeat(first|(refine mvT ?_;conv=>whnf)|(refine mvF ?_;conv=>whnf)|(refine cT (by rfl) ?_;conv=>whnf)|(refine cF (by rfl) ?_;conv=>whnf)))
    refine Sg.st (A := [_]) (o' := 22) (m := [.bool a4.isNone]) H rfl (Nat.le_of_ble_eq_true rfl) (rfl) ?_
    clear H
    intro w H
    replace H : Sg w0 [(bt, Tt, [.int .i64 0, .slice none 0 0, .bool false, .slice (some ⟨bl, 0, none⟩) 5 5, .slice none 0 0]), (bl, Tl, [.int .i64 0, .slice (some ⟨bb0, 0, none⟩) s0.length cb0, .bool false, .slice none 0 0, .slice none 0 0, .int .i64 n1, .slice none 0 0, .bool false, .slice none 0 0, .slice none 0 0, .int .i64 n2, .slice none 0 0, .bool false, .slice none 0 0, .slice none 0 0, .int .i64 0, .slice none 0 0, .bool nl3, vl3, .slice none 0 0, .int .i64 0, .slice none 0 0, .bool a4.isNone, .slice none 0 0, .slice none 0 0]), (b2, T2, [.int .i64 0, .slice none 0 0, .bool false, .slice none 0 0, .slice none 0 0])] P3 w := H
    ((conv=>whnf);repeat(first|(refine mvT ?_;conv=>whnf)|(refine mvF ?_;conv=>whnf)|(refine cT (by rfl) ?_;conv=>whnf)|(refine cF (by rfl) ?_;conv=>whnf)))
    refine ⟨_, ld ((hq.e0 H.ext).cell (j := 4) rfl) (by simp), ?_⟩
    ((conv=>whnf);repeat(first|(refine mvT ?_;conv=>whnf)|(refine mvF ?_;conv=>whnf)|(refine cT (by rfl) ?_;conv=>whnf)|(refine cF (by rfl) ?_;conv=>whnf)))
    have hlsT : lsT (.mk 0 [] nl4 l4 []) = l4 := by
      show (if nl4 = true then [] else l4) = l4
      split
      · rename_i e
        exact (hnl4 e).symm
      · rfl
    rw [hlsT] at hll4 hrl4
    obtain ⟨wL, hwL⟩ : ∃ wL, wL = w := ⟨_, rfl⟩
    rw [← hwL] at H ⊢
    have hLlt := H.own.lt
    have hLl : l4.length ≤ 1000000 ∧ ∀ x, x ∈ l4 → LimT x := by
      have := hLs (.mk 0 [] nl4 l4 []) (by simp)
      cases this
      exact ⟨by assumption, by assumption⟩
    have hs0L := H.ext.size
    refine VL.loop (fun i : Nat => [(104, .int .i64 ls4.length), (105, .int .i64 i), (0, .pointer (some ⟨q, o, none⟩)), (2, .pointer (some ⟨b2, 0, none⟩)), (3, .pointer (some ⟨bt, 0, none⟩))])
      (fun i w' => i ≤ ls4.length ∧ Ext (fun k => k = bl ∨ wL.heap.size ≤ k) wL w' ∧ ∃ vl ts, Own w' bl Tl [.int .i64 0, .slice (some ⟨bb0, 0, none⟩) s0.length cb0, .bool false, .slice none 0 0, .slice none 0 0, .int .i64 n1, .slice none 0 0, .bool false, .slice none 0 0, .slice none 0 0, .int .i64 n2, .slice none 0 0, .bool false, .slice none 0 0, .slice none 0 0, .int .i64 0, .slice none 0 0, .bool nl3, vl3, .slice none 0 0, .int .i64 0, .slice none 0 0, .bool a4.isNone, vl, .slice none 0 0] ∧ OLn w' wL.heap.size vl ts ∧ ts.length = i ∧ ∀ (j : Nat) (x y : T), l4[j]? = some x → ts[j]? = some y → Nrm x y) (fun i => ls4.length - i) 0
      ⟨rfl, rfl, rfl, rfl, rfl, trivial⟩ ⟨Nat.zero_le _, Ext.refl _ _, _, [], Sg.at (A := [_]) H, OLn.nil _ _, rfl, by simp⟩ ?_
    rintro i w ⟨hi, hxL, vl4, ts4, hobl, hT, htl4, hnr4⟩
    ((conv=>whnf);repeat(first|(refine mvT ?_;conv=>whnf)|(refine mvF ?_;conv=>whnf)|(refine cT (by rfl) ?_;conv=>whnf)|(refine cF (by rfl) ?_;conv=>whnf)))
    refine cI (by rfl) (fun h9=>?_) (fun h9=>?_)
    · have hil : i < ls4.length := by have := of_decide_eq_true h9; omega
      obtain ⟨be, oe, rfl, hFe, hbe, hce⟩ := hcl4 i ls4[i] (by simp [hil])
      have hqe := hrl4 i ls4[i] l4[i] (by simp [hil]) (by simp)
      have hlime := hLl.2 l4[i] (List.getElem_mem _)
      have hx0 : Ext nob w0 w := H.ext.trans hxL fun k hk h => by
        rcases h with h | h
        · omega
        · omega
      have hobt : Own w bt Tt [.int .i64 0, .slice none 0 0, .bool false, .slice (some ⟨bl, 0, none⟩) 5 5, .slice none 0 0] := (Sg.at (A := []) H).ext hxL fun h => by
        have := hLlt bt (by simp [inL])
        have h2 := (H.dis.2.1 : ¬ inL _ bt)
        rcases h with h | h
        · exact h2 (by rw [h]; simp [inL])
        · omega
      obtain ⟨av, cv, rfl⟩ := hT.one
      ((conv=>whnf);repeat(first|(refine mvT ?_;conv=>whnf)|(refine mvF ?_;conv=>whnf)|(refine cT (by rfl) ?_;conv=>whnf)|(refine cF (by rfl) ?_;conv=>whnf)))
      refine VD.draw mixed (.eff 0 [] (.alt (.eff 1 [] (.eff 2 [] (.q 3 (.done)))) (.eff 2 [] (.eff 1 [] (.q 3 (.done)))))) (by kernel_rfl) ?_;((conv=>whnf);repeat(first|(refine mvT ?_;conv=>whnf)|(refine mvF ?_;conv=>whnf)|(refine cT (by rfl) ?_;conv=>whnf)|(refine cF (by rfl) ?_;conv=>whnf)))
      intro bb wb hbb hob hxb
      have hxb : Ext nob w wb := (ext_drew w).e0 hxb
      have hbb : w.heap.size ≤ bb := hbb
      ((conv=>whnf);repeat(first|(refine mvT ?_;conv=>whnf)|(refine mvF ?_;conv=>whnf)|(refine cT (by rfl) ?_;conv=>whnf)|(refine cF (by rfl) ?_;conv=>whnf)))
      constructor
      · conv => whnf
        refine st_all [.bool true] hob rfl rfl rfl ?_
        intro wc hoc hxc
        conv => whnf
        refine st_all [.bool false] hoc rfl rfl rfl ?_
        intro wd hod hxd
        ((conv=>whnf);repeat(first|(refine mvT ?_;conv=>whnf)|(refine mvF ?_;conv=>whnf)|(refine cT (by rfl) ?_;conv=>whnf)|(refine cF (by rfl) ?_;conv=>whnf)))
        refine ldS (hod.cell rfl) ?_;((conv=>whnf);repeat(first|(refine mvT ?_;conv=>whnf)|(refine mvF ?_;conv=>whnf)|(refine cT (by rfl) ?_;conv=>whnf)|(refine cF (by rfl) ?_;conv=>whnf)))
        have hxw : Ext nob w wd := (hxb.st hxc hbb).st hxd hbb
        refine VD.draw mixed (.q 0 (.q 1 (.q 2 (.q 3 (.q 4 (.q 5 (.q 6 (.q 7 (.q 8 (.q 9 (.q 10 (.q 11 (.q 12 (.eff 13 [1, 3, 6] (.eff 14 [1, 3, 6] (.eff 15 [1] (.q 16 (.q 17 (.eff 18 [] (.done)))))))))))))))))))) (by kernel_rfl) ?_;((conv=>whnf);repeat(first|(refine mvT ?_;conv=>whnf)|(refine mvF ?_;conv=>whnf)|(refine cT (by rfl) ?_;conv=>whnf)|(refine cF (by rfl) ?_;conv=>whnf)))
        have hxw := hxw.e0 (ext_drew _)
        have hszd := hxw.size
        refine ldS ((hobt.e0 hxw).cell rfl) ?_;((conv=>whnf);repeat(first|(refine mvT ?_;conv=>whnf)|(refine mvF ?_;conv=>whnf)|(refine cT (by rfl) ?_;conv=>whnf)|(refine cF (by rfl) ?_;conv=>whnf)))
        refine ldS ((hobt.e0 hxw).cell rfl) ?_;((conv=>whnf);repeat(first|(refine mvT ?_;conv=>whnf)|(refine mvF ?_;conv=>whnf)|(refine cT (by rfl) ?_;conv=>whnf)|(refine cF (by rfl) ?_;conv=>whnf)))
        refine ⟨bl, 0, rfl, ⟨by omega, by omega⟩, ?_⟩
        ((conv=>whnf);repeat(first|(refine mvT ?_;conv=>whnf)|(refine mvF ?_;conv=>whnf)|(refine cT (by rfl) ?_;conv=>whnf)|(refine cF (by rfl) ?_;conv=>whnf)))
        refine ldS ((hobl.e0 hxw).cell rfl) ?_;((conv=>whnf);repeat(first|(refine mvT ?_;conv=>whnf)|(refine mvF ?_;conv=>whnf)|(refine cT (by rfl) ?_;conv=>whnf)|(refine cF (by rfl) ?_;conv=>whnf)))
        refine ⟨_, ld ((hq.e0 (hx0.e0 hxw)).cell (j := 4) rfl) (by simp), ?_⟩
        ((conv=>whnf);repeat(first|(refine mvT ?_;conv=>whnf)|(refine mvF ?_;conv=>whnf)|(refine cT (by rfl) ?_;conv=>whnf)|(refine cF (by rfl) ?_;conv=>whnf)))
        refine ⟨be, oe, rfl, ⟨by omega, by omega⟩, ?_⟩
        ((conv=>whnf);repeat(first|(refine mvT ?_;conv=>whnf)|(refine mvF ?_;conv=>whnf)|(refine cT (by rfl) ?_;conv=>whnf)|(refine cF (by rfl) ?_;conv=>whnf)))
        refine Does.mono (tellCreateTopicsRequestTopicConfig (F := F) (hce.e0 (hx0.e0 hxw)) (QPart_later true 7 _ _ _ w0 _ F F nob hqe (hx0.e0 hxw) fun k _ hf => ⟨fun f => f, hf⟩) hlime) ?_
        rintro r wt ⟨t', hnr', ⟨cr, rfl, htr⟩, hxt⟩
        have hszt := hxw.size
        have hxw := hxw.e0 hxt
        obtain ⟨n', sv', nl', lv', uv', rfl⟩ : ∃ n sv nl lv uv, cr = [.int .i64 n, sv, .bool nl, lv, uv] := by cases htr; exact ⟨_, _, _, _, _, rfl⟩
        refine ⟨by (conv => whnf); exact ⟨⟨_, (hobt.e0 hxw).cell rfl, rfl, rfl⟩, ⟨_, (hobt.e0 hxw).cell rfl, rfl, rfl⟩, ⟨_, (hobl.e0 hxw).cell rfl, rfl, rfl⟩, trivial⟩, ?_⟩
        conv => whnf
        intro bs ws hbs hos hxs
        have hos : Own ws bs TT [.int .i64 n', sv', .bool nl', lv', uv'] := hos
        have hxw := hxw.e0 hxs
        refine ⟨by (conv => whnf); exact ⟨⟨_, (hobt.e0 hxw).cell rfl, rfl, rfl⟩, ⟨_, (hobt.e0 hxw).cell rfl, rfl, rfl⟩, ⟨_, (hobl.e0 hxw).cell rfl, rfl, rfl⟩, trivial⟩, ?_⟩
        conv => whnf
        have hsLw := hxL.size
        refine OLn.app (x := t') (hT.ext hxw fun _ _ _ f => f) rfl hos rfl rfl (by omega) (by decide) (by have := hxw.size; omega) ((htr.ext hxs fun _ _ _ f => f).mono fun k _ hk => ⟨by omega, fun e => by have := hT.own k e; omega⟩) ?_
        intro v5 w5 hT5 hx5 _
        obtain ⟨a5, c5, rfl⟩ := hT5.one
        have hown5 : ∀ k, (Value.slice av ts4.length cv).ownBlock = some k → wL.heap.size ≤ k := fun k hk => (hT.own k hk).1
        have hbt5 := (hobt.e0 hxw).ext hx5 fun h => by have := hown5 bt h; have := hLlt bt (by simp [inL]); omega
        have hbl5 := (hobl.e0 hxw).ext hx5 fun h => by have := hown5 bl h; have := hLlt bl (by simp [inL]); omega
        refine ⟨by (conv => whnf); exact ⟨⟨_, hbt5.cell rfl, rfl, rfl⟩, trivial⟩, ?_⟩
        conv => whnf
        refine ⟨bl, 0, rfl, ⟨by omega, by omega⟩, ?_⟩
        ((conv=>whnf);repeat(first|(refine mvT ?_;conv=>whnf)|(refine mvF ?_;conv=>whnf)|(refine cT (by rfl) ?_;conv=>whnf)|(refine cF (by rfl) ?_;conv=>whnf)))
        refine st_cell (o := 23) (v := .slice a5 (ts4 ++ [t']).length c5) hbl5 rfl rfl rfl (by simp) rfl ?_
        intro w6 ho6 hx6
        ((conv=>whnf);repeat(first|(refine mvT ?_;conv=>whnf)|(refine mvF ?_;conv=>whnf)|(refine cT (by rfl) ?_;conv=>whnf)|(refine cF (by rfl) ?_;conv=>whnf)))
        have hxL6 : Ext (fun k => k = bl ∨ wL.heap.size ≤ k) wL w6 := ((hxL.trans (hxw.mono (M' := nob) fun _ _ f => f) fun k hk f => f.elim).trans hx5 fun k hk h => by have := hown5 k h; omega).trans hx6 fun k hk h => .inl h
        refine ⟨i + 1, ⟨rfl, inc_eq (by omega), rfl, rfl, rfl, trivial⟩, ⟨by omega, hxL6, _, ts4 ++ [t'], ho6, hT5.ext hx6 (fun k _ h1 h2 => by have := hLlt bl (by simp [inL]); omega), by simp [htl4], ?_⟩, by omega⟩
        intro j x y hx hy
        rcases Nat.lt_or_ge j ts4.length with hj | hj
        · rw [List.getElem?_append_left hj] at hy
          exact hnr4 j x y hx hy
        · rw [List.getElem?_append_right hj] at hy
          obtain ⟨e, he⟩ : ∃ e, j - ts4.length = e := ⟨_, rfl⟩
          rw [he] at hy
          cases e with
          | zero =>
            have : j = i := by omega
            subst this
            simp only [List.getElem?_cons_zero, Option.some.injEq] at hy
            subst hy
            rw [List.getElem?_eq_getElem (by omega), Option.some.injEq] at hx
            subst hx
            exact hnr'
          | succ e => simp at hy
      · conv => whnf
        refine st_all [.bool false] hob rfl rfl rfl ?_
        intro wc hoc hxc
        conv => whnf
        refine st_all [.bool true] hoc rfl rfl rfl ?_
        intro wd hod hxd
        ((conv=>whnf);repeat(first|(refine mvT ?_;conv=>whnf)|(refine mvF ?_;conv=>whnf)|(refine cT (by rfl) ?_;conv=>whnf)|(refine cF (by rfl) ?_;conv=>whnf)))
        refine ldS (hod.cell rfl) ?_;((conv=>whnf);repeat(first|(refine mvT ?_;conv=>whnf)|(refine mvF ?_;conv=>whnf)|(refine cT (by rfl) ?_;conv=>whnf)|(refine cF (by rfl) ?_;conv=>whnf)))
        have hxw : Ext nob w wd := (hxb.st hxc hbb).st hxd hbb
        refine VD.draw mixed (.q 0 (.q 1 (.q 2 (.q 3 (.q 4 (.q 5 (.q 6 (.q 7 (.q 8 (.q 9 (.q 10 (.q 12 (.alt (.eff 11 [1, 4] (.eff 13 [1, 4, 8] (.eff 14 [] (.q 15 (.q 16 (.eff 17 [] (.done))))))) (.eff 13 [1, 4, 8] (.eff 11 [1, 4] (.eff 14 [] (.q 15 (.q 16 (.eff 17 [] (.done)))))))))))))))))))) (by kernel_rfl) ?_;((conv=>whnf);repeat(first|(refine mvT ?_;conv=>whnf)|(refine mvF ?_;conv=>whnf)|(refine cT (by rfl) ?_;conv=>whnf)|(refine cF (by rfl) ?_;conv=>whnf)))
        have hxw := hxw.e0 (ext_drew _)
        have hszd := hxw.size
        refine ldS ((hobt.e0 hxw).cell rfl) ?_;((conv=>whnf);repeat(first|(refine mvT ?_;conv=>whnf)|(refine mvF ?_;conv=>whnf)|(refine cT (by rfl) ?_;conv=>whnf)|(refine cF (by rfl) ?_;conv=>whnf)))
        refine ⟨bl, 0, rfl, ⟨by omega, by omega⟩, ?_⟩
        ((conv=>whnf);repeat(first|(refine mvT ?_;conv=>whnf)|(refine mvF ?_;conv=>whnf)|(refine cT (by rfl) ?_;conv=>whnf)|(refine cF (by rfl) ?_;conv=>whnf)))
        refine ldS ((hobl.e0 hxw).cell rfl) ?_;((conv=>whnf);repeat(first|(refine mvT ?_;conv=>whnf)|(refine mvF ?_;conv=>whnf)|(refine cT (by rfl) ?_;conv=>whnf)|(refine cF (by rfl) ?_;conv=>whnf)))
        refine ⟨_, ld ((hq.e0 (hx0.e0 hxw)).cell (j := 4) rfl) (by simp), ?_⟩
        ((conv=>whnf);repeat(first|(refine mvT ?_;conv=>whnf)|(refine mvF ?_;conv=>whnf)|(refine cT (by rfl) ?_;conv=>whnf)|(refine cF (by rfl) ?_;conv=>whnf)))
        refine ⟨be, oe, rfl, ⟨by omega, by omega⟩, ?_⟩
        ((conv=>whnf);repeat(first|(refine mvT ?_;conv=>whnf)|(refine mvF ?_;conv=>whnf)|(refine cT (by rfl) ?_;conv=>whnf)|(refine cF (by rfl) ?_;conv=>whnf)))
        constructor
        · conv => whnf
          refine Does.mono (tellCreateTopicsRequestTopicConfig (F := F) (hce.e0 (hx0.e0 hxw)) (QPart_later true 7 _ _ _ w0 _ F F nob hqe (hx0.e0 hxw) fun k _ hf => ⟨fun f => f, hf⟩) hlime) ?_
          rintro r wt ⟨t', hnr', ⟨cr, rfl, htr⟩, hxt⟩
          have hszt := hxw.size
          have hxw := hxw.e0 hxt
          obtain ⟨n', sv', nl', lv', uv', rfl⟩ : ∃ n sv nl lv uv, cr = [.int .i64 n, sv, .bool nl, lv, uv] := by cases htr; exact ⟨_, _, _, _, _, rfl⟩
          refine ⟨by (conv => whnf); exact ⟨⟨_, (hobt.e0 hxw).cell rfl, rfl, rfl⟩, ⟨_, (hobl.e0 hxw).cell rfl, rfl, rfl⟩, trivial⟩, ?_⟩
          conv => whnf
          intro bs ws hbs hos hxs
          have hos : Own ws bs TT [.int .i64 0, .slice none 0 0, .bool false, .slice none 0 0, .slice none 0 0] := hos
          have hxw := hxw.e0 hxs
          refine ⟨by (conv => whnf); exact ⟨⟨_, (hobt.e0 hxw).cell rfl, rfl, rfl⟩, ⟨_, (hobl.e0 hxw).cell rfl, rfl, rfl⟩, ⟨_, (hq.e0 (hx0.e0 hxw)).cell (j := 4) rfl, rfl, rfl⟩, trivial⟩, ?_⟩
          have htrw : TrC ws (fun k => w.heap.size ≤ k ∧ k < ws.heap.size) [.int .i64 n', sv', .bool nl', lv', uv'] t' := ((htr.mono (F' := fun k => w.heap.size ≤ k ∧ k < wt.heap.size) fun k hk h => ⟨by omega, hk⟩).ext hxs fun _ _ _ f => f).mono fun k hk h => ⟨h.1, hk⟩
          conv => whnf
          refine OLn.app (x := .mk 0 [] false [] []) (hT.ext hxw fun _ _ _ f => f) rfl hos rfl rfl (by omega) (by decide) (by have := hxw.size; have := hxL.size; omega) (TrC.leaf rfl (Bytes.nil _ _)) ?_
          intro v5 w5 hT5 hx5 hbk5
          obtain ⟨a5, c5, rfl⟩ := hT5.one
          have hown5 : ∀ k, (Value.slice av ts4.length cv).ownBlock = some k → wL.heap.size ≤ k ∧ k < w.heap.size := fun k hk => hT.own k hk
          have hbl5 := (hobl.e0 hxw).ext hx5 fun h => by have := hown5 bl h; have := hLlt bl (by simp [inL]); omega
          have hblL := hLlt bl (by simp [inL])
          have hsLw := hxL.size
          have hszx := hxw.size
          ((conv=>whnf);repeat(first|(refine mvT ?_;conv=>whnf)|(refine mvF ?_;conv=>whnf)|(refine cT (by rfl) ?_;conv=>whnf)|(refine cF (by rfl) ?_;conv=>whnf)))
          refine ⟨bl, 0, rfl, ⟨by omega, by omega⟩, ?_⟩
          ((conv=>whnf);repeat(first|(refine mvT ?_;conv=>whnf)|(refine mvF ?_;conv=>whnf)|(refine cT (by rfl) ?_;conv=>whnf)|(refine cF (by rfl) ?_;conv=>whnf)))
          refine st_cell (o := 23) (v := .slice a5 (ts4 ++ [T.mk 0 [] false [] []]).length c5) hbl5 rfl rfl rfl (by simp) rfl ?_
          intro w6 ho6 hx6
          ((conv=>whnf);repeat(first|(refine mvT ?_;conv=>whnf)|(refine mvF ?_;conv=>whnf)|(refine cT (by rfl) ?_;conv=>whnf)|(refine cF (by rfl) ?_;conv=>whnf)))
          have hT6 := hT5.ext hx6 (fun k _ h1 h2 => by omega)
          obtain ⟨g, cap, hv, hput⟩ := hT6.last
          injection hv with e1 e2 e3
          subst e1
          subst e3
          have htr6 : TrC w6 (fun k => wL.heap.size ≤ k ∧ (Value.slice (some ⟨g, 0, none⟩) (ts4 ++ [T.mk 0 [] false [] []]).length c5).ownBlock ≠ some k) [.int .i64 n', sv', .bool nl', lv', uv'] t' := by
            refine ((htrw.ext hx5 fun k _ h e => by have := hown5 k e; omega).ext hx6 fun k _ h e => by omega).mono fun k _ h => ⟨by omega, fun e => ?_⟩
            rcases hbk5 with e2 | ⟨q2, e2, hle⟩
            · have := hown5 k (e2 ▸ e); omega
            · rw [e, Option.some.injEq] at e2
              omega
          refine ⟨g, 0, rfl, ⟨by omega, by simp; omega⟩, ?_⟩
          ((conv=>whnf);repeat(first|(refine mvT ?_;conv=>whnf)|(refine mvF ?_;conv=>whnf)|(refine cT (by rfl) ?_;conv=>whnf)|(refine cF (by rfl) ?_;conv=>whnf)))
          refine hput [.int .i64 n', sv', .bool nl', lv', uv'] t' _ _ _ rfl (by simp) htr6 ?_
          intro w7 hT7 hx7
          ((conv=>whnf);repeat(first|(refine mvT ?_;conv=>whnf)|(refine mvF ?_;conv=>whnf)|(refine cT (by rfl) ?_;conv=>whnf)|(refine cF (by rfl) ?_;conv=>whnf)))
          have hgL : wL.heap.size ≤ g := (hT6.own g rfl).1
          have hxL7 : Ext (fun k => k = bl ∨ wL.heap.size ≤ k) wL w7 := (((hxL.trans (hxw.mono (M' := nob) fun _ _ f => f) fun k hk f => f.elim).trans hx5 fun k hk h => by have := hown5 k h; omega).trans hx6 fun k hk h => .inl h).trans hx7 fun k hk h => by omega
          refine ⟨i + 1, ⟨rfl, inc_eq (by omega), rfl, rfl, rfl, trivial⟩, ⟨by omega, hxL7, _, ts4 ++ [t'], ho6.ext hx7 (by omega), hT7, by simp [htl4], ?_⟩, by omega⟩
          intro j x y hx hy
          rcases Nat.lt_or_ge j ts4.length with hj | hj
          · rw [List.getElem?_append_left hj] at hy
            exact hnr4 j x y hx hy
          · rw [List.getElem?_append_right hj] at hy
            obtain ⟨e, he⟩ : ∃ e, j - ts4.length = e := ⟨_, rfl⟩
            rw [he] at hy
            cases e with
            | zero =>
              have : j = i := by omega
              subst this
              simp only [List.getElem?_cons_zero, Option.some.injEq] at hy
              subst hy
              rw [List.getElem?_eq_getElem (by omega), Option.some.injEq] at hx
              subst hx
              exact hnr'
            | succ e => simp at hy
        · conv => whnf
          intro bs ws hbs hos hxs
          have hos : Own ws bs TT [.int .i64 0, .slice none 0 0, .bool false, .slice none 0 0, .slice none 0 0] := hos
          have hxw := hxw.e0 hxs
          refine ⟨by (conv => whnf); exact ⟨⟨_, (hobt.e0 hxw).cell rfl, rfl, rfl⟩, ⟨_, (hobl.e0 hxw).cell rfl, rfl, rfl⟩, ⟨_, (hq.e0 (hx0.e0 hxw)).cell (j := 4) rfl, rfl, rfl⟩, trivial⟩, ?_⟩
          conv => whnf
          refine Does.mono (tellCreateTopicsRequestTopicConfig (F := F) (hce.e0 (hx0.e0 hxw)) (QPart_later true 7 _ _ _ w0 _ F F nob hqe (hx0.e0 hxw) fun k _ hf => ⟨fun f => f, hf⟩) hlime) ?_
          rintro r wt ⟨t', hnr', ⟨cr, rfl, htr⟩, hxt⟩
          have hszt := hxw.size
          have hxw := hxw.e0 hxt
          obtain ⟨n', sv', nl', lv', uv', rfl⟩ : ∃ n sv nl lv uv, cr = [.int .i64 n, sv, .bool nl, lv, uv] := by cases htr; exact ⟨_, _, _, _, _, rfl⟩
          refine ⟨by (conv => whnf); exact ⟨⟨_, (hobt.e0 hxw).cell rfl, rfl, rfl⟩, ⟨_, (hobl.e0 hxw).cell rfl, rfl, rfl⟩, trivial⟩, ?_⟩
          have hos := hos.e0 hxt
          have htrw : TrC wt (fun k => w.heap.size ≤ k ∧ k < wt.heap.size) [.int .i64 n', sv', .bool nl', lv', uv'] t' := htr.mono fun k hk h => ⟨by omega, hk⟩
          conv => whnf
          refine OLn.app (x := .mk 0 [] false [] []) (hT.ext hxw fun _ _ _ f => f) rfl hos rfl rfl (by omega) (by decide) (by have := hxw.size; have := hxL.size; omega) (TrC.leaf rfl (Bytes.nil _ _)) ?_
          intro v5 w5 hT5 hx5 hbk5
          obtain ⟨a5, c5, rfl⟩ := hT5.one
          have hown5 : ∀ k, (Value.slice av ts4.length cv).ownBlock = some k → wL.heap.size ≤ k ∧ k < w.heap.size := fun k hk => hT.own k hk
          have hbl5 := (hobl.e0 hxw).ext hx5 fun h => by have := hown5 bl h; have := hLlt bl (by simp [inL]); omega
          have hblL := hLlt bl (by simp [inL])
          have hsLw := hxL.size
          have hszx := hxw.size
          ((conv=>whnf);repeat(first|(refine mvT ?_;conv=>whnf)|(refine mvF ?_;conv=>whnf)|(refine cT (by rfl) ?_;conv=>whnf)|(refine cF (by rfl) ?_;conv=>whnf)))
          refine ⟨bl, 0, rfl, ⟨by omega, by omega⟩, ?_⟩
          ((conv=>whnf);repeat(first|(refine mvT ?_;conv=>whnf)|(refine mvF ?_;conv=>whnf)|(refine cT (by rfl) ?_;conv=>whnf)|(refine cF (by rfl) ?_;conv=>whnf)))
          refine st_cell (o := 23) (v := .slice a5 (ts4 ++ [T.mk 0 [] false [] []]).length c5) hbl5 rfl rfl rfl (by simp) rfl ?_
          intro w6 ho6 hx6
          ((conv=>whnf);repeat(first|(refine mvT ?_;conv=>whnf)|(refine mvF ?_;conv=>whnf)|(refine cT (by rfl) ?_;conv=>whnf)|(refine cF (by rfl) ?_;conv=>whnf)))
          have hT6 := hT5.ext hx6 (fun k _ h1 h2 => by omega)
          obtain ⟨g, cap, hv, hput⟩ := hT6.last
          injection hv with e1 e2 e3
          subst e1
          subst e3
          have htr6 : TrC w6 (fun k => wL.heap.size ≤ k ∧ (Value.slice (some ⟨g, 0, none⟩) (ts4 ++ [T.mk 0 [] false [] []]).length c5).ownBlock ≠ some k) [.int .i64 n', sv', .bool nl', lv', uv'] t' := by
            refine ((htrw.ext hx5 fun k _ h e => by have := hown5 k e; omega).ext hx6 fun k _ h e => by omega).mono fun k _ h => ⟨by omega, fun e => ?_⟩
            rcases hbk5 with e2 | ⟨q2, e2, hle⟩
            · have := hown5 k (e2 ▸ e); omega
            · rw [e, Option.some.injEq] at e2
              omega
          refine ⟨g, 0, rfl, ⟨by omega, by simp; omega⟩, ?_⟩
          ((conv=>whnf);repeat(first|(refine mvT ?_;conv=>whnf)|(refine mvF ?_;conv=>whnf)|(refine cT (by rfl) ?_;conv=>whnf)|(refine cF (by rfl) ?_;conv=>whnf)))
          refine hput [.int .i64 n', sv', .bool nl', lv', uv'] t' _ _ _ rfl (by simp) htr6 ?_
          intro w7 hT7 hx7
          ((conv=>whnf);repeat(first|(refine mvT ?_;conv=>whnf)|(refine mvF ?_;conv=>whnf)|(refine cT (by rfl) ?_;conv=>whnf)|(refine cF (by rfl) ?_;conv=>whnf)))
          have hgL : wL.heap.size ≤ g := (hT6.own g rfl).1
          have hxL7 : Ext (fun k => k = bl ∨ wL.heap.size ≤ k) wL w7 := (((hxL.trans (hxw.mono (M' := nob) fun _ _ f => f) fun k hk f => f.elim).trans hx5 fun k hk h => by have := hown5 k h; omega).trans hx6 fun k hk h => .inl h).trans hx7 fun k hk h => by omega
          refine ⟨i + 1, ⟨rfl, inc_eq (by omega), rfl, rfl, rfl, trivial⟩, ⟨by omega, hxL7, _, ts4 ++ [t'], ho6.ext hx7 (by omega), hT7, by simp [htl4], ?_⟩, by omega⟩
          intro j x y hx hy
          rcases Nat.lt_or_ge j ts4.length with hj | hj
          · rw [List.getElem?_append_left hj] at hy
            exact hnr4 j x y hx hy
          · rw [List.getElem?_append_right hj] at hy
            obtain ⟨e, he⟩ : ∃ e, j - ts4.length = e := ⟨_, rfl⟩
            rw [he] at hy
            cases e with
            | zero =>
              have : j = i := by omega
              subst this
              simp only [List.getElem?_cons_zero, Option.some.injEq] at hy
              subst hy
              rw [List.getElem?_eq_getElem (by omega), Option.some.injEq] at hx
              subst hx
              exact hnr'
            | succ e => simp at hy
    · have hil : i = ls4.length := by have := of_decide_eq_false h9; omega
      have H := Sg.up (A := [_]) H hobl (hxL.mono fun k hk h => by rcases h with h | h; exact h; omega)
      have htl4 : ts4.length = l4.length := by omega
      have hnl : a4.isNone = nl4 := hnn4 rfl
      rw [hnl] at H
      have H := H.add (Q := fun w => TrC w (fun k => w0.heap.size ≤ k) [.int .i64 0, .slice none 0 0, .bool nl4, vl4, .slice none 0 0] (.mk 0 [] nl4 ts4 [])) fun w3 x => (hT.ext x fun k hk h1 h2 => by
        have h3 : k < wL.heap.size := hLlt k (by rcases inL3 h2 with h | h | h <;> subst h <;> simp [inL])
        omega).row fun k hk => by omega
      obtain ⟨P4, hP4⟩ : ∃ P : World → Prop, P = fun w => TrC w (fun k => w0.heap.size ≤ k) [.int .i64 0, .slice none 0 0, .bool nl4, vl4, .slice none 0 0] (.mk 0 [] nl4 ts4 []) ∧ P3 w := ⟨_, rfl⟩
      replace H : Sg w0 [(bt, Tt, [.int .i64 0, .slice none 0 0, .bool false, .slice (some ⟨bl, 0, none⟩) 5 5, .slice none 0 0]), (bl, Tl, [.int .i64 0, .slice (some ⟨bb0, 0, none⟩) s0.length cb0, .bool false, .slice none 0 0, .slice none 0 0, .int .i64 n1, .slice none 0 0, .bool false, .slice none 0 0, .slice none 0 0, .int .i64 n2, .slice none 0 0, .bool false, .slice none 0 0, .slice none 0 0, .int .i64 0, .slice none 0 0, .bool nl3, vl3, .slice none 0 0, .int .i64 0, .slice none 0 0, .bool nl4, vl4, .slice none 0 0]), (b2, T2, [.int .i64 0, .slice none 0 0, .bool false, .slice none 0 0, .slice none 0 0])] P4 w := by rw [hP4]; exact H
      ((conv=>whnf);repeat(first|(refine mvT ?_;conv=>whnf)|(refine mvF ?_;conv=>whnf)|(refine cT (by rfl) ?_;conv=>whnf)|(refine cF (by rfl) ?_;conv=>whnf)))
      have hql : q < w0.heap.size := World.block_lt_of_cell? w0 _ (hq.cell (j := 0) rfl)
      have hm2 : TagsR w (fun k => F k ∧ k < w0.heap.size) m u_ := (hm.mono (F' := fun k => F k ∧ k < w0.heap.size) fun k h1 h2 => ⟨h2, h1⟩).ext H.ext fun _ _ _ f => f
      refine Does.mono (EachT tgCreateTopicsRequestTopic ((hq.e0 H.ext).cell (j := 5) rfl) hm2 hd0 hu0 hs0 (Sg.at (A := []) H) (by omega) (fun k _ h e => by have := h.2; omega)) ?_
      rintro r w2 ⟨u', uv, hperm, hpw, hob, hT, hxe⟩
      have hLlt := H.own.lt
      have hw02 := H.ext.size
      have H2 := Sg.up (A := []) H hob hxe
      obtain ⟨auv, nuv, cuv, rfl⟩ := hT.one
      have H := H2.add (Q := fun w => TgsR w (fun k => w0.heap.size ≤ k) (.slice auv nuv cuv) u') fun w3 x => (hT.ext x fun k hk h1 h2 => by
        have h3 : k < w.heap.size := hLlt k (by rcases inL3 h2 with h | h | h <;> subst h <;> simp [inL])
        omega).tgs fun k hk => by omega
      clear H2
      ((conv=>whnf);repeat(first|(refine mvT ?_;conv=>whnf)|(refine mvF ?_;conv=>whnf)|(refine cT (by rfl) ?_;conv=>whnf)|(refine cF (by rfl) ?_;conv=>whnf)))
      refine ldS ((Sg.at (A := []) H).cell rfl) ?_;((conv=>whnf);repeat(first|(refine mvT ?_;conv=>whnf)|(refine mvF ?_;conv=>whnf)|(refine cT (by rfl) ?_;conv=>whnf)|(refine cF (by rfl) ?_;conv=>whnf)))
      refine Does.mono (sorted_does H.now.1 hpw (by rw [hperm.length_eq]; exact hu0)) ?_
      rintro r w3 hx3
      replace H := H.e0 hx3
      ((conv=>whnf);repeat(first|(refine mvT ?_;conv=>whnf)|(refine mvF ?_;conv=>whnf)|(refine cT (by rfl) ?_;conv=>whnf)|(refine cF (by rfl) ?_;conv=>whnf)))
      refine ⟨_, rfl, (Sg.at (A := []) H).cells, ?_⟩
      ((conv=>whnf);repeat(first|(refine mvT ?_;conv=>whnf)|(refine mvF ?_;conv=>whnf)|(refine cT (by rfl) ?_;conv=>whnf)|(refine cF (by rfl) ?_;conv=>whnf)))
      refine Sg.st (A := [_, _]) (o' := 0) (m := [.int .i64 0, .slice none 0 0, .bool false, .slice (some ⟨bl, 0, none⟩) 5 5, .slice auv nuv cuv]) H rfl (Nat.le_of_ble_eq_true rfl) rfl ?_
      clear H
      intro w H
      ((conv=>whnf);repeat(first|(refine mvT ?_;conv=>whnf)|(refine mvF ?_;conv=>whnf)|(refine cT (by rfl) ?_;conv=>whnf)|(refine cF (by rfl) ?_;conv=>whnf)))
      refine ⟨_, rfl, (Sg.at (A := [_, _]) H).cells, ?_⟩
      have hP := H.now
      rw [hP4, hP3, hP0] at hP
      have hbl := Sg.at (A := [_]) H
      refine ⟨.mk 0 [] false [.mk 0 s0 false [] [], numT n1, numT n2, .mk 0 [] nl3 ts3 [], .mk 0 [] nl4 ts4 []] u', ?_, ⟨_, rfl, .mk 0 [] false [.mk 0 s0 false [] [], numT n1, numT n2, .mk 0 [] nl3 ts3 [], .mk 0 [] nl4 ts4 []] u' _ _ _ [[.int .i64 0, .slice (some ⟨bb0, 0, none⟩) s0.length cb0, .bool false, .slice none 0 0, .slice none 0 0], [.int .i64 n1, .slice none 0 0, .bool false, .slice none 0 0, .slice none 0 0], [.int .i64 n2, .slice none 0 0, .bool false, .slice none 0 0, .slice none 0 0], [.int .i64 0, .slice none 0 0, .bool nl3, vl3, .slice none 0 0], [.int .i64 0, .slice none 0 0, .bool nl4, vl4, .slice none 0 0]] rfl (Bytes.nil _ _) (rows_sl hbl (by simp) rfl (by rw [maxLen_eq]; decide) hblw) rfl ?_ hP.1⟩, H.ext⟩
      · refine .mk _ _ _ _ _ _ _ rfl ?_ hperm hpw
        intro i x y hx hy
        match i, hx, hy with
        | 0, hx, hy => simp only [List.getElem?_cons_succ, List.getElem?_cons_zero, Option.some.injEq] at hx hy; subst hx; subst hy; exact Nrm.leaf _ _ _
        | 1, hx, hy => simp only [List.getElem?_cons_succ, List.getElem?_cons_zero, Option.some.injEq] at hx hy; subst hx; subst hy; exact Nrm.leaf _ _ _
        | 2, hx, hy => simp only [List.getElem?_cons_succ, List.getElem?_cons_zero, Option.some.injEq] at hx hy; subst hx; subst hy; exact Nrm.leaf _ _ _
        | 3, hx, hy => simp only [List.getElem?_cons_succ, List.getElem?_cons_zero, Option.some.injEq] at hx hy; subst hx; subst hy; exact .mk _ _ _ _ _ _ _ htl3 hnr3 (List.Perm.refl _) List.Pairwise.nil
        | 4, hx, hy => simp only [List.getElem?_cons_succ, List.getElem?_cons_zero, Option.some.injEq] at hx hy; subst hx; subst hy; exact .mk _ _ _ _ _ _ _ htl4 hnr4 (List.Perm.refl _) List.Pairwise.nil
      · intro i x y hx hy
        match i, hx, hy with
        | 0, hx, hy => simp only [List.getElem?_cons_succ, List.getElem?_cons_zero, Option.some.injEq] at hx hy; subst hx; subst hy; exact hP.2.2.2.1
        | 1, hx, hy => simp only [List.getElem?_cons_succ, List.getElem?_cons_zero, Option.some.injEq] at hx hy; subst hx; subst hy; exact TrC.leaf hw1 (Bytes.nil _ _)
        | 2, hx, hy => simp only [List.getElem?_cons_succ, List.getElem?_cons_zero, Option.some.injEq] at hx hy; subst hx; subst hy; exact TrC.leaf hw2 (Bytes.nil _ _)
        | 3, hx, hy => simp only [List.getElem?_cons_succ, List.getElem?_cons_zero, Option.some.injEq] at hx hy; subst hx; subst hy; exact hP.2.2.1
        | 4, hx, hy => simp only [List.getElem?_cons_succ, List.getElem?_cons_zero, Option.some.injEq] at hx hy; subst hx; subst hy; exact hP.2.1
theorem tgCreateTopicsRequest : TellsT 102 := by
  intro w N bt T lv bv F u x hI hN hbt hu hk hx hxl
  obtain ⟨uv, ho, hT⟩ := hI
  obtain ⟨av, cv, rfl, _⟩ := hx.view
  obtain ⟨au, nu, cu, rfl⟩ := hT.one
  refine Does.go (X := X) (l := [_, _, _]) Tryz.func102 rfl (by kernel_rfl) (by kernel_rfl) _ rfl ?_
  ((conv=>whnf);repeat(first|(refine mvT ?_;conv=>whnf)|(refine mvF ?_;conv=>whnf)|(refine cT (by rfl) ?_;conv=>whnf)|(refine cF (by rfl) ?_;conv=>whnf)))
  refine VD.draw mixed (.q 0 (.q 1 (.q 2 (.q 3 (.eff 4 [1] (.q 5 (.eff 6 [1] (.eff 7 [] (.q 8 (.eff 9 [] (.done))))))))))) (by kernel_rfl) ?_;((conv=>whnf);repeat(first|(refine mvT ?_;conv=>whnf)|(refine mvF ?_;conv=>whnf)|(refine cT (by rfl) ?_;conv=>whnf)|(refine cF (by rfl) ?_;conv=>whnf)))
  have hxd : Ext nob w w.drew := ext_drew _
  refine ldS ((ho.e0 hxd).cell rfl) ?_;((conv=>whnf);repeat(first|(refine mvT ?_;conv=>whnf)|(refine mvF ?_;conv=>whnf)|(refine cT (by rfl) ?_;conv=>whnf)|(refine cF (by rfl) ?_;conv=>whnf)))
  refine app_bytes rfl rfl (OB.nil w.drew w.drew.heap.size) (hx.e0 hxd).src rfl (by simp only [List.length_nil]; omega) (Nat.le_refl _) ?_
  intro v3 w3 h3 hx3 _ _
  rw [List.nil_append] at h3
  have hx3 : Ext nob w w3 := hxd.e0 (hx3.mono fun k _ h => by simp [Value.ownBlock] at h)
  obtain ⟨a3, c3, rfl, _⟩ := h3.shape
  refine ⟨by (conv => whnf); exact ⟨⟨_, (ho.e0 hx3).cell rfl, rfl, rfl⟩, trivial⟩, ?_⟩
  ((conv=>whnf);repeat(first|(refine mvT ?_;conv=>whnf)|(refine mvF ?_;conv=>whnf)|(refine cT (by rfl) ?_;conv=>whnf)|(refine cF (by rfl) ?_;conv=>whnf)))
  intro b4 w4 hb4 ho4 hx4
  have ho4 : Own w4 b4 TGT [.int .u32 (x.1 : Int), .slice a3 x.2.length c3] := ho4
  have hx04 := hx3.e0 hx4
  refine ⟨by (conv => whnf); exact ⟨⟨_, (ho.e0 hx04).cell rfl, rfl, rfl⟩, trivial⟩, ?_⟩
  ((conv=>whnf);repeat(first|(refine mvT ?_;conv=>whnf)|(refine mvF ?_;conv=>whnf)|(refine cT (by rfl) ?_;conv=>whnf)|(refine cF (by rfl) ?_;conv=>whnf)))
  have hs3 := hx3.size
  have hown : ∀ k, (Value.slice au nu cu).ownBlock = some k → N ≤ k ∧ k < w.heap.size := fun k hk => by
    obtain ⟨ls, h1, _⟩ := hT
    exact ⟨h1.blk k hk, h1.own.lt k hk⟩
  have hwd : w.drew.heap.size = w.heap.size := rfl
  refine OTn.app (hT.ext hx04 fun _ _ _ f => f) rfl ho4 rfl rfl rfl hu (by decide) (Nat.le_trans hN hx04.size) hk ((h3.e0 hx4).bytes fun k hk => ⟨by omega, fun e => by have := hown k e; omega⟩) ?_
  intro v5 w5 hT5 hx5
  obtain ⟨a5, n5, c5, rfl⟩ := hT5.one
  have hob := (ho.e0 hx04).ext hx5 fun h => by have := hown bt h; omega
  ((conv=>whnf);repeat(first|(refine mvT ?_;conv=>whnf)|(refine mvF ?_;conv=>whnf)|(refine cT (by rfl) ?_;conv=>whnf)|(refine cF (by rfl) ?_;conv=>whnf)))
  refine st_cell (o := 4) (v := .slice a5 n5 c5) hob rfl (by omega) rfl (by simp) rfl ?_
  intro w6 ho6 hx6
  ((conv=>whnf);repeat(first|(refine mvT ?_;conv=>whnf)|(refine mvF ?_;conv=>whnf)|(refine cT (by rfl) ?_;conv=>whnf)|(refine cF (by rfl) ?_;conv=>whnf)))
  refine ⟨⟨_, ho6, hT5.ext hx6 fun k _ h1 h2 => by omega⟩, ?_⟩
  refine (hx04.mono fun _ _ f => f.elim).trans ((hx5.mono (M' := fun j => j = bt ∨ N ≤ j) fun k _ h => .inr (hown k h).1).trans hx6 fun k _ h => .inl h) fun _ _ h => h
theorem tellCreateTopicsRequest {w0 : World} {F : Nat → Prop} {q o : Nat} {cv0 : Value} {cs : List Value} {t : T} (hq : Cells w0 q o (cv0 :: cs)) (hQ : QPart true 9 dCreateTopicsRequest ⟨w0, F⟩ cs t) (hlim : LimT t) :
    Does X.P 62 #[.pointer (some ⟨q, o, none⟩)] w0 fun r w' => ∃ t', Nrm t t' ∧ Tr w' (fun k => w0.heap.size ≤ k) r t' ∧ Ext nob w0 w' := by
  obtain ⟨_, _, u_, m, rfl, rfl, hA0, hm⟩ := iP hQ
  clear hQ
  obtain ⟨cc0, _, x0, _, rfl, rfl, h0, hA1⟩ := iA hA0
  obtain ⟨c0, nl0, l0, rfl, hnl0, rfl, hc0⟩ : ∃ c nl l, cc0 = [c] ∧ (nl = true → l = []) ∧ x0 = .mk 0 [] nl l [] ∧ ListR true (elZ true 8 10 dCreateTopicsRequestTopic) (elQ true 8 10 dCreateTopicsRequestTopic ⟨w0, F⟩) w0 F c x0 := h0
  obtain ⟨cc1, _, x1, _, rfl, rfl, h1, hA2⟩ := iA hA1
  obtain ⟨n1, hn1, rfl, rfl⟩ : ∃ n, IntKind.i32.wrap n = n ∧ cc1 = [.int .i32 n] ∧ x1 = numT n := h1
  obtain ⟨cc2, _, x2, _, rfl, rfl, h2, hA3⟩ := iA hA2
  obtain ⟨bo2, rfl, rfl⟩ : ∃ b : Bool, cc2 = [.bool b] ∧ x2 = numT (if b = true then 1 else 0) := h2
  obtain ⟨rfl, rfl⟩ := hA3
  cases hlim
  rename_i hU hKU hDU hLs hu0 hs0 hd0
  have hq : Cells w0 q o [cv0, c0, .int .i32 n1, .bool bo2, m] := hq
  obtain ⟨a0, k0, ls0, rfl, hk0, hll0, hnn0, hcl0, hrl0⟩ := hc0.view
  have hw1 : IntKind.i64.wrap n1 = n1 := by have := hLs (numT n1) (by simp); cases this; assumption
  refine Does.go (X := X) (l := [_]) Tryz.func62 rfl (by kernel_rfl) (by kernel_rfl) _ rfl ?_
  ((conv=>whnf);repeat(first|(refine mvT ?_;conv=>whnf)|(refine mvF ?_;conv=>whnf)|(refine cT (by rfl) ?_;conv=>whnf)|(refine cF (by rfl) ?_;conv=>whnf)))
  intro b2 w1 hb2 ho2 hx1
  ((conv=>whnf);repeat(first|(refine mvT ?_;conv=>whnf)|(refine mvF ?_;conv=>whnf)|(refine cT (by rfl) ?_;conv=>whnf)|(refine cF (by rfl) ?_;conv=>whnf)))
  refine ⟨⟨by decide, by decide, by decide, by decide⟩, ⟨by decide, rfl⟩, ?_⟩
  intro bl w2 hbl hol hx2
  ((conv=>whnf);repeat(first|(refine mvT ?_;conv=>whnf)|(refine mvF ?_;conv=>whnf)|(refine cT (by rfl) ?_;conv=>whnf)|(refine cF (by rfl) ?_;conv=>whnf)))
  intro bt w3 hbt hot hx3
  ((conv=>whnf);repeat(first|(refine mvT ?_;conv=>whnf)|(refine mvF ?_;conv=>whnf)|(refine cT (by rfl) ?_;conv=>whnf)|(refine cF (by rfl) ?_;conv=>whnf)))
  have hzz : w0.heap.size ≤ w1.heap.size := hx1.size
  have H := (((Sg.start w0).push hx1 ho2 hb2).push hx2 hol hbl).push hx3 hot hbt
  refine Sg.st (A := []) (o' := 0) (m := [.int .i64 0, .slice none 0 0, .bool false, .slice (some ⟨bl, 0, none⟩) 3 3, .slice none 0 0]) H rfl (Nat.le_of_ble_eq_true rfl) rfl ?_
  clear H hot hol ho2 hx1 hx2 hx3
  intro w H
  obtain ⟨Tt, Tl, T2, H⟩ : ∃ Tt Tl T2, Sg w0 [(bt, Tt, [.int .i64 0, .slice none 0 0, .bool false, .slice (some ⟨bl, 0, none⟩) 3 3, .slice none 0 0]), (bl, Tl, [.int .i64 0, .slice none 0 0, .bool false, .slice none 0 0, .slice none 0 0, .int .i64 0, .slice none 0 0, .bool false, .slice none 0 0, .slice none 0 0, .int .i64 0, .slice none 0 0, .bool false, .slice none 0 0, .slice none 0 0]), (b2, T2, [.int .i64 0, .slice none 0 0, .bool false, .slice none 0 0, .slice none 0 0])] (fun _ => True) w := ⟨_, _, _, H⟩
  have hb2w : w0.heap.size ≤ b2 := hb2
  have hblw : w0.heap.size ≤ bl := by omega
  have hbtw : w0.heap.size ≤ bt := by have := H.dis.1; exact this
  ((conv=>whnf);repeat(first|(refine mvT ?_;conv=>whnf)|(refine mvF ?_;conv=>whnf)|(refine cT (by rfl) ?_;conv=>whnf)|(refine cF (by rfl) ?_;conv=>whnf)))
  refine VD.draw mixed (.q 0 (.q 1 (.q 2 (.q 3 (.q 4 (.q 5 (.q 6 (.q 7 (.q 8 (.eff 9 [] (.done))))))))))) (by kernel_rfl) ?_;((conv=>whnf);repeat(first|(refine mvT ?_;conv=>whnf)|(refine mvF ?_;conv=>whnf)|(refine cT (by rfl) ?_;conv=>whnf)|(refine cF (by rfl) ?_;conv=>whnf)))
  replace H := H.e0 (ext_drew _)
  refine ldS ((Sg.at (A := []) H).cell rfl) ?_;((conv=>whnf);repeat(first|(refine mvT ?_;conv=>whnf)|(refine mvF ?_;conv=>whnf)|(refine cT (by rfl) ?_;conv=>whnf)|(refine cF (by rfl) ?_;conv=>whnf)))
  refine ⟨_, ld ((hq.e0 H.ext).cell (j := 1) rfl) (by simp), ?_⟩
  ((conv=>whnf);repeat(first|(refine mvT ?_;conv=>whnf)|(refine mvF ?_;conv=>whnf)|(refine cT (by rfl) ?_;conv=>whnf)|(refine cF (by rfl) ?_;conv=>whnf)))
  refine ⟨bl, 0, rfl, ⟨by omega, by omega⟩, ?_⟩
  ((conv=>whnf);repeat(first|(refine mvT ?_;conv=>whnf)|(refine mvF ?_;conv=>whnf)|(refine cT (by rfl) ?_;conv=>whnf)|(refine cF (by rfl) ?_;conv=>whnf)))
  refine Sg.st (A := [_]) (o' := 2) (m := [.bool a0.isNone]) H rfl (Nat.le_of_ble_eq_true rfl) (rfl) ?_
  clear H
  intro w H
  replace H : Sg w0 [(bt, Tt, [.int .i64 0, .slice none 0 0, .bool false, .slice (some ⟨bl, 0, none⟩) 3 3, .slice none 0 0]), (bl, Tl, [.int .i64 0, .slice none 0 0, .bool a0.isNone, .slice none 0 0, .slice none 0 0, .int .i64 0, .slice none 0 0, .bool false, .slice none 0 0, .slice none 0 0, .int .i64 0, .slice none 0 0, .bool false, .slice none 0 0, .slice none 0 0]), (b2, T2, [.int .i64 0, .slice none 0 0, .bool false, .slice none 0 0, .slice none 0 0])] (fun _ => True) w := H
  ((conv=>whnf);repeat(first|(refine mvT ?_;conv=>whnf)|(refine mvF ?_;conv=>whnf)|(refine cT (by rfl) ?_;conv=>whnf)|(refine cF (by rfl) ?_;conv=>whnf)))
  refine ⟨_, ld ((hq.e0 H.ext).cell (j := 1) rfl) (by simp), ?_⟩
  ((conv=>whnf);repeat(first|(refine mvT ?_;conv=>whnf)|(refine mvF ?_;conv=>whnf)|(refine cT (by rfl) ?_;conv=>whnf)|(refine cF (by rfl) ?_;conv=>whnf)))
  have hlsT : lsT (.mk 0 [] nl0 l0 []) = l0 := by
    show (if nl0 = true then [] else l0) = l0
    split
    · rename_i e
      exact (hnl0 e).symm
    · rfl
  rw [hlsT] at hll0 hrl0
  obtain ⟨wL, hwL⟩ : ∃ wL, wL = w := ⟨_, rfl⟩
  rw [← hwL] at H ⊢
  have hLlt := H.own.lt
  have hLl : l0.length ≤ 1000000 ∧ ∀ x, x ∈ l0 → LimT x := by
    have := hLs (.mk 0 [] nl0 l0 []) (by simp)
    cases this
    exact ⟨by assumption, by assumption⟩
  have hs0L := H.ext.size
  refine VL.loop (fun i : Nat => [(20, .int .i64 ls0.length), (21, .int .i64 i), (0, .pointer (some ⟨q, o, none⟩)), (2, .pointer (some ⟨b2, 0, none⟩)), (3, .pointer (some ⟨bt, 0, none⟩))])
    (fun i w' => i ≤ ls0.length ∧ Ext (fun k => k = bl ∨ wL.heap.size ≤ k) wL w' ∧ ∃ vl ts, Own w' bl Tl [.int .i64 0, .slice none 0 0, .bool a0.isNone, vl, .slice none 0 0, .int .i64 0, .slice none 0 0, .bool false, .slice none 0 0, .slice none 0 0, .int .i64 0, .slice none 0 0, .bool false, .slice none 0 0, .slice none 0 0] ∧ OLn w' wL.heap.size vl ts ∧ ts.length = i ∧ ∀ (j : Nat) (x y : T), l0[j]? = some x → ts[j]? = some y → Nrm x y) (fun i => ls0.length - i) 0
    ⟨rfl, rfl, rfl, rfl, rfl, trivial⟩ ⟨Nat.zero_le _, Ext.refl _ _, _, [], Sg.at (A := [_]) H, OLn.nil _ _, rfl, by simp⟩ ?_
  rintro i w ⟨hi, hxL, vl0, ts0, hobl, hT, htl0, hnr0⟩
  ((conv=>whnf);repeat(first|(refine mvT ?_;conv=>whnf)|(refine mvF ?_;conv=>whnf)|(refine cT (by rfl) ?_;conv=>whnf)|(refine cF (by rfl) ?_;conv=>whnf)))
  refine cI (by rfl) (fun h9=>?_) (fun h9=>?_)
  · have hil : i < ls0.length := by have := of_decide_eq_true h9; omega
    obtain ⟨be, oe, rfl, hFe, hbe, hce⟩ := hcl0 i ls0[i] (by simp [hil])
    have hqe := hrl0 i ls0[i] l0[i] (by simp [hil]) (by simp)
    have hlime := hLl.2 l0[i] (List.getElem_mem _)
    have hx0 : Ext nob w0 w := H.ext.trans hxL fun k hk h => by
      rcases h with h | h
      · omega
      · omega
    have hobt : Own w bt Tt [.int .i64 0, .slice none 0 0, .bool false, .slice (some ⟨bl, 0, none⟩) 3 3, .slice none 0 0] := (Sg.at (A := []) H).ext hxL fun h => by
      have := hLlt bt (by simp [inL])
      have h2 := (H.dis.2.1 : ¬ inL _ bt)
      rcases h with h | h
      · exact h2 (by rw [h]; simp [inL])
      · omega
    obtain ⟨av, cv, rfl⟩ := hT.one
    ((conv=>whnf);repeat(first|(refine mvT ?_;conv=>whnf)|(refine mvF ?_;conv=>whnf)|(refine cT (by rfl) ?_;conv=>whnf)|(refine cF (by rfl) ?_;conv=>whnf)))
    refine VD.draw mixed (.eff 0 [] (.alt (.eff 1 [] (.eff 2 [] (.q 3 (.done)))) (.eff 2 [] (.eff 1 [] (.q 3 (.done)))))) (by kernel_rfl) ?_;((conv=>whnf);repeat(first|(refine mvT ?_;conv=>whnf)|(refine mvF ?_;conv=>whnf)|(refine cT (by rfl) ?_;conv=>whnf)|(refine cF (by rfl) ?_;conv=>whnf)))
    intro bb wb hbb hob hxb
    have hxb : Ext nob w wb := (ext_drew w).e0 hxb
    have hbb : w.heap.size ≤ bb := hbb
    ((conv=>whnf);repeat(first|(refine mvT ?_;conv=>whnf)|(refine mvF ?_;conv=>whnf)|(refine cT (by rfl) ?_;conv=>whnf)|(refine cF (by rfl) ?_;conv=>whnf)))
    constructor
    · conv => whnf
      refine st_all [.bool true] hob rfl rfl rfl ?_
      intro wc hoc hxc
      conv => whnf
      refine st_all [.bool false] hoc rfl rfl rfl ?_
      intro wd hod hxd
      ((conv=>whnf);repeat(first|(refine mvT ?_;conv=>whnf)|(refine mvF ?_;conv=>whnf)|(refine cT (by rfl) ?_;conv=>whnf)|(refine cF (by rfl) ?_;conv=>whnf)))
      refine ldS (hod.cell rfl) ?_;((conv=>whnf);repeat(first|(refine mvT ?_;conv=>whnf)|(refine mvF ?_;conv=>whnf)|(refine cT (by rfl) ?_;conv=>whnf)|(refine cF (by rfl) ?_;conv=>whnf)))
      have hxw : Ext nob w wd := (hxb.st hxc hbb).st hxd hbb
      refine VD.draw mixed (.q 0 (.q 1 (.q 2 (.q 3 (.q 4 (.q 5 (.q 6 (.q 7 (.q 8 (.q 9 (.q 10 (.q 11 (.q 12 (.eff 13 [1, 3, 6] (.eff 14 [1, 3, 6] (.eff 15 [1] (.q 16 (.q 17 (.eff 18 [] (.done)))))))))))))))))))) (by kernel_rfl) ?_;((conv=>whnf);repeat(first|(refine mvT ?_;conv=>whnf)|(refine mvF ?_;conv=>whnf)|(refine cT (by rfl) ?_;conv=>whnf)|(refine cF (by rfl) ?_;conv=>whnf)))
      have hxw := hxw.e0 (ext_drew _)
      have hszd := hxw.size
      refine ldS ((hobt.e0 hxw).cell rfl) ?_;((conv=>whnf);repeat(first|(refine mvT ?_;conv=>whnf)|(refine mvF ?_;conv=>whnf)|(refine cT (by rfl) ?_;conv=>whnf)|(refine cF (by rfl) ?_;conv=>whnf)))
      refine ldS ((hobt.e0 hxw).cell rfl) ?_;((conv=>whnf);repeat(first|(refine mvT ?_;conv=>whnf)|(refine mvF ?_;conv=>whnf)|(refine cT (by rfl) ?_;conv=>whnf)|(refine cF (by rfl) ?_;conv=>whnf)))
      refine ⟨bl, 0, rfl, ⟨by omega, by omega⟩, ?_⟩
      ((conv=>whnf);repeat(first|(refine mvT ?_;conv=>whnf)|(refine mvF ?_;conv=>whnf)|(refine cT (by rfl) ?_;conv=>whnf)|(refine cF (by rfl) ?_;conv=>whnf)))
      refine ldS ((hobl.e0 hxw).cell rfl) ?_;((conv=>whnf);repeat(first|(refine mvT ?_;conv=>whnf)|(refine mvF ?_;conv=>whnf)|(refine cT (by rfl) ?_;conv=>whnf)|(refine cF (by rfl) ?_;conv=>whnf)))
      refine ⟨_, ld ((hq.e0 (hx0.e0 hxw)).cell (j := 1) rfl) (by simp), ?_⟩
      ((conv=>whnf);repeat(first|(refine mvT ?_;conv=>whnf)|(refine mvF ?_;conv=>whnf)|(refine cT (by rfl) ?_;conv=>whnf)|(refine cF (by rfl) ?_;conv=>whnf)))
      refine ⟨be, oe, rfl, ⟨by omega, by omega⟩, ?_⟩
      ((conv=>whnf);repeat(first|(refine mvT ?_;conv=>whnf)|(refine mvF ?_;conv=>whnf)|(refine cT (by rfl) ?_;conv=>whnf)|(refine cF (by rfl) ?_;conv=>whnf)))
      refine Does.mono (tellCreateTopicsRequestTopic (F := F) (hce.e0 (hx0.e0 hxw)) (QPart_later true 8 _ _ _ w0 _ F F nob hqe (hx0.e0 hxw) fun k _ hf => ⟨fun f => f, hf⟩) hlime) ?_
      rintro r wt ⟨t', hnr', ⟨cr, rfl, htr⟩, hxt⟩
      have hszt := hxw.size
      have hxw := hxw.e0 hxt
      obtain ⟨n', sv', nl', lv', uv', rfl⟩ : ∃ n sv nl lv uv, cr = [.int .i64 n, sv, .bool nl, lv, uv] := by cases htr; exact ⟨_, _, _, _, _, rfl⟩
      refine ⟨by (conv => whnf); exact ⟨⟨_, (hobt.e0 hxw).cell rfl, rfl, rfl⟩, ⟨_, (hobt.e0 hxw).cell rfl, rfl, rfl⟩, ⟨_, (hobl.e0 hxw).cell rfl, rfl, rfl⟩, trivial⟩, ?_⟩
      conv => whnf
      intro bs ws hbs hos hxs
      have hos : Own ws bs TT [.int .i64 n', sv', .bool nl', lv', uv'] := hos
      have hxw := hxw.e0 hxs
      refine ⟨by (conv => whnf); exact ⟨⟨_, (hobt.e0 hxw).cell rfl, rfl, rfl⟩, ⟨_, (hobt.e0 hxw).cell rfl, rfl, rfl⟩, ⟨_, (hobl.e0 hxw).cell rfl, rfl, rfl⟩, trivial⟩, ?_⟩
      conv => whnf
      have hsLw := hxL.size
      refine OLn.app (x := t') (hT.ext hxw fun _ _ _ f => f) rfl hos rfl rfl (by omega) (by decide) (by have := hxw.size; omega) ((htr.ext hxs fun _ _ _ f => f).mono fun k _ hk => ⟨by omega, fun e => by have := hT.own k e; omega⟩) ?_
      intro v5 w5 hT5 hx5 _
      obtain ⟨a5, c5, rfl⟩ := hT5.one
      have hown5 : ∀ k, (Value.slice av ts0.length cv).ownBlock = some k → wL.heap.size ≤ k := fun k hk => (hT.own k hk).1
      have hbt5 := (hobt.e0 hxw).ext hx5 fun h => by have := hown5 bt h; have := hLlt bt (by simp [inL]); omega
      have hbl5 := (hobl.e0 hxw).ext hx5 fun h => by have := hown5 bl h; have := hLlt bl (by simp [inL]); omega
      refine ⟨by (conv => whnf); exact ⟨⟨_, hbt5.cell rfl, rfl, rfl⟩, trivial⟩, ?_⟩
      conv => whnf
      refine ⟨bl, 0, rfl, ⟨by omega, by omega⟩, ?_⟩
      ((conv=>whnf);repeat(first|(refine mvT ?_;conv=>whnf)|(refine mvF ?_;conv=>whnf)|(refine cT (by rfl) ?_;conv=>whnf)|(refine cF (by rfl) ?_;conv=>whnf)))
      refine st_cell (o := 3) (v := .slice a5 (ts0 ++ [t']).length c5) hbl5 rfl rfl rfl (by simp) rfl ?_
      intro w6 ho6 hx6
      ((conv=>whnf);repeat(first|(refine mvT ?_;conv=>whnf)|(refine mvF ?_;conv=>whnf)|(refine cT (by rfl) ?_;conv=>whnf)|(refine cF (by rfl) ?_;conv=>whnf)))
      have hxL6 : Ext (fun k => k = bl ∨ wL.heap.size ≤ k) wL w6 := ((hxL.trans (hxw.mono (M' := nob) fun _ _ f => f) fun k hk f => f.elim).trans hx5 fun k hk h => by have := hown5 k h; omega).trans hx6 fun k hk h => .inl h
      refine ⟨i + 1, ⟨rfl, inc_eq (by omega), rfl, rfl, rfl, trivial⟩, ⟨by omega, hxL6, _, ts0 ++ [t'], ho6, hT5.ext hx6 (fun k _ h1 h2 => by have := hLlt bl (by simp [inL]); omega), by simp [htl0], ?_⟩, by omega⟩
      intro j x y hx hy
      rcases Nat.lt_or_ge j ts0.length with hj | hj
      · rw [List.getElem?_append_left hj] at hy
        exact hnr0 j x y hx hy
      · rw [List.getElem?_append_right hj] at hy
        obtain ⟨e, he⟩ : ∃ e, j - ts0.length = e := ⟨_, rfl⟩
        rw [he] at hy
        cases e with
        | zero =>
          have : j = i := by omega
          subst this
          simp only [List.getElem?_cons_zero, Option.some.injEq] at hy
          subst hy
          rw [List.getElem?_eq_getElem (by omega), Option.some.injEq] at hx
          subst hx
          exact hnr'
        | succ e => simp at hy
    · conv => whnf
      refine st_all [.bool false] hob rfl rfl rfl ?_
      intro wc hoc hxc
      conv => whnf
      refine st_all [.bool true] hoc rfl rfl rfl ?_
      intro wd hod hxd
      ((conv=>whnf);repeat(first|(refine mvT ?_;conv=>whnf)|(refine mvF ?_;conv=>whnf)|(refine cT (by rfl) ?_;conv=>whnf)|(refine cF (by rfl) ?_;conv=>whnf)))
      refine ldS (hod.cell rfl) ?_;((conv=>whnf);repeat(first|(refine mvT ?_;conv=>whnf)|(refine mvF ?_;conv=>whnf)|(refine cT (by rfl) ?_;conv=>whnf)|(refine cF (by rfl) ?_;conv=>whnf)))
      have hxw : Ext nob w wd := (hxb.st hxc hbb).st hxd hbb
      refine VD.draw mixed (.q 0 (.q 1 (.q 2 (.q 3 (.q 4 (.q 5 (.q 6 (.q 7 (.q 8 (.q 9 (.q 10 (.q 12 (.alt (.eff 11 [1, 4] (.eff 13 [1, 4, 8] (.eff 14 [] (.q 15 (.q 16 (.eff 17 [] (.done))))))) (.eff 13 [1, 4, 8] (.eff 11 [1, 4] (.eff 14 [] (.q 15 (.q 16 (.eff 17 [] (.done)))))))))))))))))))) (by kernel_rfl) ?_;((conv=>whnf);repeat(first|(refine mvT ?_;conv=>whnf)|(refine mvF ?_;conv=>whnf)|(refine cT (by rfl) ?_;conv=>whnf)|(refine cF (by rfl) ?_;conv=>whnf)))
      have hxw := hxw.e0 (ext_drew _)
      have hszd := hxw.size
      refine ldS ((hobt.e0 hxw).cell rfl) ?_;((conv=>whnf);repeat(first|(refine mvT ?_;conv=>whnf)|(refine mvF ?_;conv=>whnf)|(refine cT (by rfl) ?_;conv=>whnf)|(refine cF (by rfl) ?_;conv=>whnf)))
      refine ⟨bl, 0, rfl, ⟨by omega, by omega⟩, ?_⟩
      ((conv=>whnf);repeat(first|(refine mvT ?_;conv=>whnf)|(refine mvF ?_;conv=>whnf)|(refine cT (by rfl) ?_;conv=>whnf)|(refine cF (by rfl) ?_;conv=>whnf)))
      refine ldS ((hobl.e0 hxw).cell rfl) ?_;((conv=>whnf);repeat(first|(refine mvT ?_;conv=>whnf)|(refine mvF ?_;conv=>whnf)|(refine cT (by rfl) ?_;conv=>whnf)|(refine cF (by rfl) ?_;conv=>whnf)))
      refine ⟨_, ld ((hq.e0 (hx0.e0 hxw)).cell (j := 1) rfl) (by simp), ?_⟩
      ((conv=>whnf);repeat(first|(refine mvT ?_;conv=>whnf)|(refine mvF ?_;conv=>whnf)|(refine cT (by rfl) ?_;conv=>whnf)|(refine cF (by rfl) ?_;conv=>whnf)))
      refine ⟨be, oe, rfl, ⟨by omega, by omega⟩, ?_⟩
      ((conv=>whnf);repeat(first|(refine mvT ?_;conv=>whnf)|(refine mvF ?_;conv=>whnf)|(refine cT (by rfl) ?_;conv=>whnf)|(refine cF (by rfl) ?_;conv=>whnf)))
      constructor
      · conv => whnf
        refine Does.mono (tellCreateTopicsRequestTopic (F := F) (hce.e0 (hx0.e0 hxw)) (QPart_later true 8 _ _ _ w0 _ F F nob hqe (hx0.e0 hxw) fun k _ hf => ⟨fun f => f, hf⟩) hlime) ?_
        rintro r wt ⟨t', hnr', ⟨cr, rfl, htr⟩, hxt⟩
        have hszt := hxw.size
        have hxw := hxw.e0 hxt
        obtain ⟨n', sv', nl', lv', uv', rfl⟩ : ∃ n sv nl lv uv, cr = [.int .i64 n, sv, .bool nl, lv, uv] := by cases htr; exact ⟨_, _, _, _, _, rfl⟩
        refine ⟨by (conv => whnf); exact ⟨⟨_, (hobt.e0 hxw).cell rfl, rfl, rfl⟩, ⟨_, (hobl.e0 hxw).cell rfl, rfl, rfl⟩, trivial⟩, ?_⟩
        conv => whnf
        intro bs ws hbs hos hxs
        have hos : Own ws bs TT [.int .i64 0, .slice none 0 0, .bool false, .slice none 0 0, .slice none 0 0] := hos
        have hxw := hxw.e0 hxs
        refine ⟨by (conv => whnf); exact ⟨⟨_, (hobt.e0 hxw).cell rfl, rfl, rfl⟩, ⟨_, (hobl.e0 hxw).cell rfl, rfl, rfl⟩, ⟨_, (hq.e0 (hx0.e0 hxw)).cell (j := 1) rfl, rfl, rfl⟩, trivial⟩, ?_⟩
        have htrw : TrC ws (fun k => w.heap.size ≤ k ∧ k < ws.heap.size) [.int .i64 n', sv', .bool nl', lv', uv'] t' := ((htr.mono (F' := fun k => w.heap.size ≤ k ∧ k < wt.heap.size) fun k hk h => ⟨by omega, hk⟩).ext hxs fun _ _ _ f => f).mono fun k hk h => ⟨h.1, hk⟩
        conv => whnf
        refine OLn.app (x := .mk 0 [] false [] []) (hT.ext hxw fun _ _ _ f => f) rfl hos rfl rfl (by omega) (by decide) (by have := hxw.size; have := hxL.size; omega) (TrC.leaf rfl (Bytes.nil _ _)) ?_
        intro v5 w5 hT5 hx5 hbk5
        obtain ⟨a5, c5, rfl⟩ := hT5.one
        have hown5 : ∀ k, (Value.slice av ts0.length cv).ownBlock = some k → wL.heap.size ≤ k ∧ k < w.heap.size := fun k hk => hT.own k hk
        have hbl5 := (hobl.e0 hxw).ext hx5 fun h => by have := hown5 bl h; have := hLlt bl (by simp [inL]); omega
        have hblL := hLlt bl (by simp [inL])
        have hsLw := hxL.size
        have hszx := hxw.size
        ((conv=>whnf);repeat(first|(refine mvT ?_;conv=>whnf)|(refine mvF ?_;conv=>whnf)|(refine cT (by rfl) ?_;conv=>whnf)|(refine cF (by rfl) ?_;conv=>whnf)))
        refine ⟨bl, 0, rfl, ⟨by omega, by omega⟩, ?_⟩
        ((conv=>whnf);repeat(first|(refine mvT ?_;conv=>whnf)|(refine mvF ?_;conv=>whnf)|(refine cT (by rfl) ?_;conv=>whnf)|(refine cF (by rfl) ?_;conv=>whnf)))
        refine st_cell (o := 3) (v := .slice a5 (ts0 ++ [T.mk 0 [] false [] []]).length c5) hbl5 rfl rfl rfl (by simp) rfl ?_
        intro w6 ho6 hx6
        ((conv=>whnf);repeat(first|(refine mvT ?_;conv=>whnf)|(refine mvF ?_;conv=>whnf)|(refine cT (by rfl) ?_;conv=>whnf)|(refine cF (by rfl) ?_;conv=>whnf)))
        have hT6 := hT5.ext hx6 (fun k _ h1 h2 => by omega)
        obtain ⟨g, cap, hv, hput⟩ := hT6.last
        injection hv with e1 e2 e3
        subst e1
        subst e3
        have htr6 : TrC w6 (fun k => wL.heap.size ≤ k ∧ (Value.slice (some ⟨g, 0, none⟩) (ts0 ++ [T.mk 0 [] false [] []]).length c5).ownBlock ≠ some k) [.int .i64 n', sv', .bool nl', lv', uv'] t' := by
          refine ((htrw.ext hx5 fun k _ h e => by have := hown5 k e; omega).ext hx6 fun k _ h e => by omega).mono fun k _ h => ⟨by omega, fun e => ?_⟩
          rcases hbk5 with e2 | ⟨q2, e2, hle⟩
          · have := hown5 k (e2 ▸ e); omega
          · rw [e, Option.some.injEq] at e2
            omega
        refine ⟨g, 0, rfl, ⟨by omega, by simp; omega⟩, ?_⟩
        ((conv=>whnf);repeat(first|(refine mvT ?_;conv=>whnf)|(refine mvF ?_;conv=>whnf)|(refine cT (by rfl) ?_;conv=>whnf)|(refine cF (by rfl) ?_;conv=>whnf)))
        refine hput [.int .i64 n', sv', .bool nl', lv', uv'] t' _ _ _ rfl (by simp) htr6 ?_
        intro w7 hT7 hx7
        ((conv=>whnf);repeat(first|(refine mvT ?_;conv=>whnf)|(refine mvF ?_;conv=>whnf)|(refine cT (by rfl) ?_;conv=>whnf)|(refine cF (by rfl) ?_;conv=>whnf)))
        have hgL : wL.heap.size ≤ g := (hT6.own g rfl).1
        have hxL7 : Ext (fun k => k = bl ∨ wL.heap.size ≤ k) wL w7 := (((hxL.trans (hxw.mono (M' := nob) fun _ _ f => f) fun k hk f => f.elim).trans hx5 fun k hk h => by have := hown5 k h; omega).trans hx6 fun k hk h => .inl h).trans hx7 fun k hk h => by omega
        refine ⟨i + 1, ⟨rfl, inc_eq (by omega), rfl, rfl, rfl, trivial⟩, ⟨by omega, hxL7, _, ts0 ++ [t'], ho6.ext hx7 (by omega), hT7, by simp [htl0], ?_⟩, by omega⟩
        intro j x y hx hy
        rcases Nat.lt_or_ge j ts0.length with hj | hj
        · rw [List.getElem?_append_left hj] at hy
          exact hnr0 j x y hx hy
        · rw [List.getElem?_append_right hj] at hy
          obtain ⟨e, he⟩ : ∃ e, j - ts0.length = e := ⟨_, rfl⟩
          rw [he] at hy
          cases e with
          | zero =>
            have : j = i := by omega
            subst this
            simp only [List.getElem?_cons_zero, Option.some.injEq] at hy
            subst hy
            rw [List.getElem?_eq_getElem (by omega), Option.some.injEq] at hx
            subst hx
            exact hnr'
          | succ e => simp at hy
      · conv => whnf
        intro bs ws hbs hos hxs
        have hos : Own ws bs TT [.int .i64 0, .slice none 0 0, .bool false, .slice none 0 0, .slice none 0 0] := hos
        have hxw := hxw.e0 hxs
        refine ⟨by (conv => whnf); exact ⟨⟨_, (hobt.e0 hxw).cell rfl, rfl, rfl⟩, ⟨_, (hobl.e0 hxw).cell rfl, rfl, rfl⟩, ⟨_, (hq.e0 (hx0.e0 hxw)).cell (j := 1) rfl, rfl, rfl⟩, trivial⟩, ?_⟩
        conv => whnf
        refine Does.mono (tellCreateTopicsRequestTopic (F := F) (hce.e0 (hx0.e0 hxw)) (QPart_later true 8 _ _ _ w0 _ F F nob hqe (hx0.e0 hxw) fun k _ hf => ⟨fun f => f, hf⟩) hlime) ?_
        rintro r wt ⟨t', hnr', ⟨cr, rfl, htr⟩, hxt⟩
        have hszt := hxw.size
        have hxw := hxw.e0 hxt
        obtain ⟨n', sv', nl', lv', uv', rfl⟩ : ∃ n sv nl lv uv, cr = [.int .i64 n, sv, .bool nl, lv, uv] := by cases htr; exact ⟨_, _, _, _, _, rfl⟩
        refine ⟨by (conv => whnf); exact ⟨⟨_, (hobt.e0 hxw).cell rfl, rfl, rfl⟩, ⟨_, (hobl.e0 hxw).cell rfl, rfl, rfl⟩, trivial⟩, ?_⟩
        have hos := hos.e0 hxt
        have htrw : TrC wt (fun k => w.heap.size ≤ k ∧ k < wt.heap.size) [.int .i64 n', sv', .bool nl', lv', uv'] t' := htr.mono fun k hk h => ⟨by omega, hk⟩
        conv => whnf
        refine OLn.app (x := .mk 0 [] false [] []) (hT.ext hxw fun _ _ _ f => f) rfl hos rfl rfl (by omega) (by decide) (by have := hxw.size; have := hxL.size; omega) (TrC.leaf rfl (Bytes.nil _ _)) ?_
        intro v5 w5 hT5 hx5 hbk5
        obtain ⟨a5, c5, rfl⟩ := hT5.one
        have hown5 : ∀ k, (Value.slice av ts0.length cv).ownBlock = some k → wL.heap.size ≤ k ∧ k < w.heap.size := fun k hk => hT.own k hk
        have hbl5 := (hobl.e0 hxw).ext hx5 fun h => by have := hown5 bl h; have := hLlt bl (by simp [inL]); omega
        have hblL := hLlt bl (by simp [inL])
        have hsLw := hxL.size
        have hszx := hxw.size
        ((conv=>whnf);repeat(first|(refine mvT ?_;conv=>whnf)|(refine mvF ?_;conv=>whnf)|(refine cT (by rfl) ?_;conv=>whnf)|(refine cF (by rfl) ?_;conv=>whnf)))
        refine ⟨bl, 0, rfl, ⟨by omega, by omega⟩, ?_⟩
        ((conv=>whnf);repeat(first|(refine mvT ?_;conv=>whnf)|(refine mvF ?_;conv=>whnf)|(refine cT (by rfl) ?_;conv=>whnf)|(refine cF (by rfl) ?_;conv=>whnf)))
        refine st_cell (o := 3) (v := .slice a5 (ts0 ++ [T.mk 0 [] false [] []]).length c5) hbl5 rfl rfl rfl (by simp) rfl ?_
        intro w6 ho6 hx6
        ((conv=>whnf);repeat(first|(refine mvT ?_;conv=>whnf)|(refine mvF ?_;conv=>whnf)|(refine cT (by rfl) ?_;conv=>whnf)|(refine cF (by rfl) ?_;conv=>whnf)))
        have hT6 := hT5.ext hx6 (fun k _ h1 h2 => by omega)
        obtain ⟨g, cap, hv, hput⟩ := hT6.last
        injection hv with e1 e2 e3
        subst e1
        subst e3
        have htr6 : TrC w6 (fun k => wL.heap.size ≤ k ∧ (Value.slice (some ⟨g, 0, none⟩) (ts0 ++ [T.mk 0 [] false [] []]).length c5).ownBlock ≠ some k) [.int .i64 n', sv', .bool nl', lv', uv'] t' := by
          refine ((htrw.ext hx5 fun k _ h e => by have := hown5 k e; omega).ext hx6 fun k _ h e => by omega).mono fun k _ h => ⟨by omega, fun e => ?_⟩
          rcases hbk5 with e2 | ⟨q2, e2, hle⟩
          · have := hown5 k (e2 ▸ e); omega
          · rw [e, Option.some.injEq] at e2
            omega
        refine ⟨g, 0, rfl, ⟨by omega, by simp; omega⟩, ?_⟩
        ((conv=>whnf);repeat(first|(refine mvT ?_;conv=>whnf)|(refine mvF ?_;conv=>whnf)|(refine cT (by rfl) ?_;conv=>whnf)|(refine cF (by rfl) ?_;conv=>whnf)))
        refine hput [.int .i64 n', sv', .bool nl', lv', uv'] t' _ _ _ rfl (by simp) htr6 ?_
        intro w7 hT7 hx7
        ((conv=>whnf);repeat(first|(refine mvT ?_;conv=>whnf)|(refine mvF ?_;conv=>whnf)|(refine cT (by rfl) ?_;conv=>whnf)|(refine cF (by rfl) ?_;conv=>whnf)))
        have hgL : wL.heap.size ≤ g := (hT6.own g rfl).1
        have hxL7 : Ext (fun k => k = bl ∨ wL.heap.size ≤ k) wL w7 := (((hxL.trans (hxw.mono (M' := nob) fun _ _ f => f) fun k hk f => f.elim).trans hx5 fun k hk h => by have := hown5 k h; omega).trans hx6 fun k hk h => .inl h).trans hx7 fun k hk h => by omega
        refine ⟨i + 1, ⟨rfl, inc_eq (by omega), rfl, rfl, rfl, trivial⟩, ⟨by omega, hxL7, _, ts0 ++ [t'], ho6.ext hx7 (by omega), hT7, by simp [htl0], ?_⟩, by omega⟩
        intro j x y hx hy
        rcases Nat.lt_or_ge j ts0.length with hj | hj
        · rw [List.getElem?_append_left hj] at hy
          exact hnr0 j x y hx hy
        · rw [List.getElem?_append_right hj] at hy
          obtain ⟨e, he⟩ : ∃ e, j - ts0.length = e := ⟨_, rfl⟩
          rw [he] at hy
          cases e with
          | zero =>
            have : j = i := by omega
            subst this
            simp only [List.getElem?_cons_zero, Option.some.injEq] at hy
            subst hy
            rw [List.getElem?_eq_getElem (by omega), Option.some.injEq] at hx
            subst hx
            exact hnr'
          | succ e => simp at hy
  · have hil : i = ls0.length := by have := of_decide_eq_false h9; omega
    have H := Sg.up (A := [_]) H hobl (hxL.mono fun k hk h => by rcases h with h | h; exact h; omega)
    have htl0 : ts0.length = l0.length := by omega
    have hnl : a0.isNone = nl0 := hnn0 rfl
    rw [hnl] at H
    have H := H.add (Q := fun w => TrC w (fun k => w0.heap.size ≤ k) [.int .i64 0, .slice none 0 0, .bool nl0, vl0, .slice none 0 0] (.mk 0 [] nl0 ts0 [])) fun w3 x => (hT.ext x fun k hk h1 h2 => by
      have h3 : k < wL.heap.size := hLlt k (by rcases inL3 h2 with h | h | h <;> subst h <;> simp [inL])
      omega).row fun k hk => by omega
    obtain ⟨P0, hP0⟩ : ∃ P : World → Prop, P = fun w => TrC w (fun k => w0.heap.size ≤ k) [.int .i64 0, .slice none 0 0, .bool nl0, vl0, .slice none 0 0] (.mk 0 [] nl0 ts0 []) ∧ True := ⟨_, rfl⟩
    replace H : Sg w0 [(bt, Tt, [.int .i64 0, .slice none 0 0, .bool false, .slice (some ⟨bl, 0, none⟩) 3 3, .slice none 0 0]), (bl, Tl, [.int .i64 0, .slice none 0 0, .bool nl0, vl0, .slice none 0 0, .int .i64 0, .slice none 0 0, .bool false, .slice none 0 0, .slice none 0 0, .int .i64 0, .slice none 0 0, .bool false, .slice none 0 0, .slice none 0 0]), (b2, T2, [.int .i64 0, .slice none 0 0, .bool false, .slice none 0 0, .slice none 0 0])] P0 w := by rw [hP0]; exact H
    ((conv=>whnf);repeat(first|(refine mvT ?_;conv=>whnf)|(refine mvF ?_;conv=>whnf)|(refine cT (by rfl) ?_;conv=>whnf)|(refine cF (by rfl) ?_;conv=>whnf)))
    refine VD.draw mixed (.q 0 (.q 1 (.q 2 (.q 3 (.q 4 (.q 5 (.q 6 (.q 7 (.q 8 (.eff 9 [] (.done))))))))))) (by kernel_rfl) ?_;((conv=>whnf);repeat(first|(refine mvT ?_;conv=>whnf)|(refine mvF ?_;conv=>whnf)|(refine cT (by rfl) ?_;conv=>whnf)|(refine cF (by rfl) ?_;conv=>whnf)))
    replace H := H.e0 (ext_drew _)
    refine ldS ((Sg.at (A := []) H).cell rfl) ?_;((conv=>whnf);repeat(first|(refine mvT ?_;conv=>whnf)|(refine mvF ?_;conv=>whnf)|(refine cT (by rfl) ?_;conv=>whnf)|(refine cF (by rfl) ?_;conv=>whnf)))
    refine ⟨_, ld ((hq.e0 H.ext).cell (j := 2) rfl) (by simp), ?_⟩
    ((conv=>whnf);repeat(first|(refine mvT ?_;conv=>whnf)|(refine mvF ?_;conv=>whnf)|(refine cT (by rfl) ?_;conv=>whnf)|(refine cF (by rfl) ?_;conv=>whnf)))
    refine ⟨bl, 0, rfl, ⟨by omega, by omega⟩, ?_⟩
    ((conv=>whnf);repeat(first|(refine mvT ?_;conv=>whnf)|(refine mvF ?_;conv=>whnf)|(refine cT (by rfl) ?_;conv=>whnf)|(refine cF (by rfl) ?_;conv=>whnf)))
    refine Sg.st (A := [_]) (o' := 5) (m := [.int .i64 (IntKind.i64.wrap n1), .slice none 0 0, .bool false, .slice none 0 0, .slice none 0 0]) H rfl (Nat.le_of_ble_eq_true rfl) (rfl) ?_
    clear H
    intro w H
    rw [hw1] at H
    replace H : Sg w0 [(bt, Tt, [.int .i64 0, .slice none 0 0, .bool false, .slice (some ⟨bl, 0, none⟩) 3 3, .slice none 0 0]), (bl, Tl, [.int .i64 0, .slice none 0 0, .bool nl0, vl0, .slice none 0 0, .int .i64 n1, .slice none 0 0, .bool false, .slice none 0 0, .slice none 0 0, .int .i64 0, .slice none 0 0, .bool false, .slice none 0 0, .slice none 0 0]), (b2, T2, [.int .i64 0, .slice none 0 0, .bool false, .slice none 0 0, .slice none 0 0])] P0 w := H
    ((conv=>whnf);repeat(first|(refine mvT ?_;conv=>whnf)|(refine mvF ?_;conv=>whnf)|(refine cT (by rfl) ?_;conv=>whnf)|(refine cF (by rfl) ?_;conv=>whnf)))
    refine VD.draw mixed (.q 0 (.q 1 (.q 2 (.q 3 (.q 4 (.q 5 (.eff 6 [1] (.q 7 (.eff 8 [] (.done)))))))))) (by kernel_rfl) ?_;((conv=>whnf);repeat(first|(refine mvT ?_;conv=>whnf)|(refine mvF ?_;conv=>whnf)|(refine cT (by rfl) ?_;conv=>whnf)|(refine cF (by rfl) ?_;conv=>whnf)))
    replace H := H.e0 (ext_drew _)
    refine ldS ((Sg.at (A := []) H).cell rfl) ?_;((conv=>whnf);repeat(first|(refine mvT ?_;conv=>whnf)|(refine mvF ?_;conv=>whnf)|(refine cT (by rfl) ?_;conv=>whnf)|(refine cF (by rfl) ?_;conv=>whnf)))
    refine ⟨_, ld ((hq.e0 H.ext).cell (j := 3) rfl) (by simp), ?_⟩
    ((conv=>whnf);repeat(first|(refine mvT ?_;conv=>whnf)|(refine mvF ?_;conv=>whnf)|(refine cT (by rfl) ?_;conv=>whnf)|(refine cF (by rfl) ?_;conv=>whnf)))
    refine Does.mono (boolTree_does bo2) ?_
    rintro rr2 wr2 ⟨⟨cr2, rfl, hr2⟩, hxr2⟩
    obtain ⟨nv2, sv2, nm2, lv2, uv2, rfl⟩ : ∃ n sv nl lv uv, cr2 = [.int .i64 n, sv, .bool nl, lv, uv] := by cases hr2; exact ⟨_, _, _, _, _, rfl⟩
    have H := H.keepN (H.e0 hxr2) (trL [.int .i64 nv2, sv2, .bool nm2, lv2, uv2] (numT (if bo2 = true then 1 else 0))) (F := fun k => _ ≤ k) hr2 fun k h => h
    refine ⟨by (conv => whnf); exact ⟨⟨_, (Sg.at (A := []) H).cell rfl, rfl, rfl⟩, trivial⟩, ?_⟩
    ((conv=>whnf);repeat(first|(refine mvT ?_;conv=>whnf)|(refine mvF ?_;conv=>whnf)|(refine cT (by rfl) ?_;conv=>whnf)|(refine cF (by rfl) ?_;conv=>whnf)))
    refine ⟨bl, 0, rfl, ⟨by omega, by omega⟩, ?_⟩
    ((conv=>whnf);repeat(first|(refine mvT ?_;conv=>whnf)|(refine mvF ?_;conv=>whnf)|(refine cT (by rfl) ?_;conv=>whnf)|(refine cF (by rfl) ?_;conv=>whnf)))
    refine Sg.st (A := [_]) (o' := 10) (m := [.int .i64 nv2, sv2, .bool nm2, lv2, uv2]) H rfl (Nat.le_of_ble_eq_true rfl) (hr2.ok) ?_
    clear H
    intro w H
    obtain ⟨P2, hP2⟩ : ∃ P : World → Prop, P = fun w => TrC w (fun k => w0.heap.size ≤ k) [.int .i64 nv2, sv2, .bool nm2, lv2, uv2] (numT (if bo2 = true then 1 else 0)) ∧ P0 w := ⟨_, rfl⟩
    replace H : Sg w0 [(bt, Tt, [.int .i64 0, .slice none 0 0, .bool false, .slice (some ⟨bl, 0, none⟩) 3 3, .slice none 0 0]), (bl, Tl, [.int .i64 0, .slice none 0 0, .bool nl0, vl0, .slice none 0 0, .int .i64 n1, .slice none 0 0, .bool false, .slice none 0 0, .slice none 0 0, .int .i64 nv2, sv2, .bool nm2, lv2, uv2]), (b2, T2, [.int .i64 0, .slice none 0 0, .bool false, .slice none 0 0, .slice none 0 0])] P2 w := by rw [hP2]; exact H
    ((conv=>whnf);repeat(first|(refine mvT ?_;conv=>whnf)|(refine mvF ?_;conv=>whnf)|(refine cT (by rfl) ?_;conv=>whnf)|(refine cF (by rfl) ?_;conv=>whnf)))
    have hql : q < w0.heap.size := World.block_lt_of_cell? w0 _ (hq.cell (j := 0) rfl)
    have hm2 : TagsR w (fun k => F k ∧ k < w0.heap.size) m u_ := (hm.mono (F' := fun k => F k ∧ k < w0.heap.size) fun k h1 h2 => ⟨h2, h1⟩).ext H.ext fun _ _ _ f => f
    refine Does.mono (EachT tgCreateTopicsRequest ((hq.e0 H.ext).cell (j := 4) rfl) hm2 hd0 hu0 hs0 (Sg.at (A := []) H) (by omega) (fun k _ h e => by have := h.2; omega)) ?_
    rintro r w2 ⟨u', uv, hperm, hpw, hob, hT, hxe⟩
    have hLlt := H.own.lt
    have hw02 := H.ext.size
    have H2 := Sg.up (A := []) H hob hxe
    obtain ⟨auv, nuv, cuv, rfl⟩ := hT.one
    have H := H2.add (Q := fun w => TgsR w (fun k => w0.heap.size ≤ k) (.slice auv nuv cuv) u') fun w3 x => (hT.ext x fun k hk h1 h2 => by
      have h3 : k < w.heap.size := hLlt k (by rcases inL3 h2 with h | h | h <;> subst h <;> simp [inL])
      omega).tgs fun k hk => by omega
    clear H2
    ((conv=>whnf);repeat(first|(refine mvT ?_;conv=>whnf)|(refine mvF ?_;conv=>whnf)|(refine cT (by rfl) ?_;conv=>whnf)|(refine cF (by rfl) ?_;conv=>whnf)))
    refine ldS ((Sg.at (A := []) H).cell rfl) ?_;((conv=>whnf);repeat(first|(refine mvT ?_;conv=>whnf)|(refine mvF ?_;conv=>whnf)|(refine cT (by rfl) ?_;conv=>whnf)|(refine cF (by rfl) ?_;conv=>whnf)))
    refine Does.mono (sorted_does H.now.1 hpw (by rw [hperm.length_eq]; exact hu0)) ?_
    rintro r w3 hx3
    replace H := H.e0 hx3
    ((conv=>whnf);repeat(first|(refine mvT ?_;conv=>whnf)|(refine mvF ?_;conv=>whnf)|(refine cT (by rfl) ?_;conv=>whnf)|(refine cF (by rfl) ?_;conv=>whnf)))
    refine ⟨_, rfl, (Sg.at (A := []) H).cells, ?_⟩
    ((conv=>whnf);repeat(first|(refine mvT ?_;conv=>whnf)|(refine mvF ?_;conv=>whnf)|(refine cT (by rfl) ?_;conv=>whnf)|(refine cF (by rfl) ?_;conv=>whnf)))
    refine Sg.st (A := [_, _]) (o' := 0) (m := [.int .i64 0, .slice none 0 0, .bool false, .slice (some ⟨bl, 0, none⟩) 3 3, .slice auv nuv cuv]) H rfl (Nat.le_of_ble_eq_true rfl) rfl ?_
    clear H
    intro w H
    ((conv=>whnf);repeat(first|(refine mvT ?_;conv=>whnf)|(refine mvF ?_;conv=>whnf)|(refine cT (by rfl) ?_;conv=>whnf)|(refine cF (by rfl) ?_;conv=>whnf)))
    refine ⟨_, rfl, (Sg.at (A := [_, _]) H).cells, ?_⟩
    have hP := H.now
    rw [hP2, hP0] at hP
    have hbl := Sg.at (A := [_]) H
    refine ⟨.mk 0 [] false [.mk 0 [] nl0 ts0 [], numT n1, numT (if bo2 = true then 1 else 0)] u', ?_, ⟨_, rfl, .mk 0 [] false [.mk 0 [] nl0 ts0 [], numT n1, numT (if bo2 = true then 1 else 0)] u' _ _ _ [[.int .i64 0, .slice none 0 0, .bool nl0, vl0, .slice none 0 0], [.int .i64 n1, .slice none 0 0, .bool false, .slice none 0 0, .slice none 0 0], [.int .i64 nv2, sv2, .bool nm2, lv2, uv2]] rfl (Bytes.nil _ _) (rows_sl hbl (by simp) rfl (by rw [maxLen_eq]; decide) hblw) rfl ?_ hP.1⟩, H.ext⟩
    · refine .mk _ _ _ _ _ _ _ rfl ?_ hperm hpw
      intro i x y hx hy
      match i, hx, hy with
      | 0, hx, hy => simp only [List.getElem?_cons_succ, List.getElem?_cons_zero, Option.some.injEq] at hx hy; subst hx; subst hy; exact .mk _ _ _ _ _ _ _ htl0 hnr0 (List.Perm.refl _) List.Pairwise.nil
      | 1, hx, hy => simp only [List.getElem?_cons_succ, List.getElem?_cons_zero, Option.some.injEq] at hx hy; subst hx; subst hy; exact Nrm.leaf _ _ _
      | 2, hx, hy => simp only [List.getElem?_cons_succ, List.getElem?_cons_zero, Option.some.injEq] at hx hy; subst hx; subst hy; exact Nrm.leaf _ _ _
    · intro i x y hx hy
      match i, hx, hy with
      | 0, hx, hy => simp only [List.getElem?_cons_succ, List.getElem?_cons_zero, Option.some.injEq] at hx hy; subst hx; subst hy; exact hP.2.2.1
      | 1, hx, hy => simp only [List.getElem?_cons_succ, List.getElem?_cons_zero, Option.some.injEq] at hx hy; subst hx; subst hy; exact TrC.leaf hw1 (Bytes.nil _ _)
      | 2, hx, hy => simp only [List.getElem?_cons_succ, List.getElem?_cons_zero, Option.some.injEq] at hx hy; subst hx; subst hy; exact hP.2.1
theorem newCreateTopicsRequest (w : World) : Does X.P 57 #[] w fun r w' => ∃ p, r = .pointer (some ⟨p, 0, none⟩) ∧ w.heap.size ≤ p ∧ Own w' p 131 [.int .i16 0, .slice none 0 0, .int .i32 60000, .bool false, .map none] ∧ Ext nob w w' := by
  refine Does.go (X := X) (l := []) Tryz.func57 rfl (by kernel_rfl) (by kernel_rfl) _ rfl ?_
  ((conv=>whnf);repeat(first|(refine mvT ?_;conv=>whnf)|(refine mvF ?_;conv=>whnf)|(refine cT (by rfl) ?_;conv=>whnf)|(refine cF (by rfl) ?_;conv=>whnf)))
  intro p w1 hp ho hx
  ((conv=>whnf);repeat(first|(refine mvT ?_;conv=>whnf)|(refine mvF ?_;conv=>whnf)|(refine cT (by rfl) ?_;conv=>whnf)|(refine cF (by rfl) ?_;conv=>whnf)))
  refine Does.mono (dfCreateTopicsRequest (pre := []) (cur := [.int .i16 0, .slice none 0 0, .int .i32 0, .bool false, .map none]) (post := []) (by simpa using ho) rfl rfl) ?_;rintro r2 w2 ⟨hd, hx2⟩;((conv=>whnf);repeat(first|(refine mvT ?_;conv=>whnf)|(refine mvF ?_;conv=>whnf)|(refine cT (by rfl) ?_;conv=>whnf)|(refine cF (by rfl) ?_;conv=>whnf)))
  exact ⟨p, rfl, hp, by simpa using hd, hx.st hx2 hp⟩
theorem maxCreateTopicsRequest (w : World) : Does X.P 23 #[] w fun r w' => r = .int .i64 7 ∧ Ext nob w w' := by
  have hmax : ∀ (p : Nat) (w : World), Does X.P 58 #[.pointer (some ⟨p, 0, none⟩)] w fun r w' => r = .int .i16 7 ∧ w' = w := by
    intro p w
    refine Does.go (X := X) (l := [_]) Tryz.func58 rfl (by kernel_rfl) (by kernel_rfl) _ rfl ?_
    ((conv=>whnf);repeat(first|(refine mvT ?_;conv=>whnf)|(refine mvF ?_;conv=>whnf)|(refine cT (by rfl) ?_;conv=>whnf)|(refine cF (by rfl) ?_;conv=>whnf)))
    exact ⟨rfl, rfl⟩
  refine Does.go (X := X) (l := []) Tryz.func23 rfl (by kernel_rfl) (by kernel_rfl) _ rfl ?_
  ((conv=>whnf);repeat(first|(refine mvT ?_;conv=>whnf)|(refine mvF ?_;conv=>whnf)|(refine cT (by rfl) ?_;conv=>whnf)|(refine cF (by rfl) ?_;conv=>whnf)))
  refine Does.mono (newCreateTopicsRequest w) ?_;rintro r1 w1 ⟨p, rfl, _, _, hx⟩;((conv=>whnf);repeat(first|(refine mvT ?_;conv=>whnf)|(refine mvF ?_;conv=>whnf)|(refine cT (by rfl) ?_;conv=>whnf)|(refine cF (by rfl) ?_;conv=>whnf)))
  refine Does.mono (hmax p w1) ?_;rintro r2 w2 ⟨rfl, rfl⟩;((conv=>whnf);repeat(first|(refine mvT ?_;conv=>whnf)|(refine mvF ?_;conv=>whnf)|(refine cT (by rfl) ?_;conv=>whnf)|(refine cF (by rfl) ?_;conv=>whnf)))
  exact ⟨rfl, hx⟩
theorem tellsCreateTopicsRequest {G : Nat → Prop} {w : World} {v : Int} {x ev : Value} {s : List UInt8} {t : T} (hL : Laid w ev) (hx : Bytes w G x s) (hv : 0 ≤ v) (hv2 : v < 32768)
    (hrd : rdPart 9 v (decide (v ≥ 5)) dCreateTopicsRequest (s, false) = (t, ([], false))) (hlim : LimT t) (hs : s.length ≤ 100000000000000) :
    Does X.P 25 #[.int .i64 v, x] w fun r w' => ∃ o t', r = .tuple #[o, .bool true] ∧ Nrm t t' ∧ Tr w' (fun k => w.heap.size ≤ k) o t' ∧ Ext nob w w' := by
  have hv16 : IntKind.i16.wrap v = v := by
    simp only [IntKind.wrap, IntKind.bits, IntKind.signed]
    simp
    omega
  obtain ⟨ax, cx, rfl, _⟩ := hx.view
  have hL1 := hL.lt
  refine Does.go (X := X) (l := [_, _]) Tryz.func25 rfl (by kernel_rfl) (by kernel_rfl) _ rfl ?_
  ((conv=>whnf);repeat(first|(refine mvT ?_;conv=>whnf)|(refine mvF ?_;conv=>whnf)|(refine cT (by rfl) ?_;conv=>whnf)|(refine cF (by rfl) ?_;conv=>whnf)))
  intro b w0 hb ho hx0
  ((conv=>whnf);repeat(first|(refine mvT ?_;conv=>whnf)|(refine mvF ?_;conv=>whnf)|(refine cT (by rfl) ?_;conv=>whnf)|(refine cF (by rfl) ?_;conv=>whnf)))
  refine Does.mono (newCreateTopicsRequest w0) ?_;rintro r1 w1 ⟨p, rfl, hwp, hop, hx1⟩;((conv=>whnf);repeat(first|(refine mvT ?_;conv=>whnf)|(refine mvF ?_;conv=>whnf)|(refine cT (by rfl) ?_;conv=>whnf)|(refine cF (by rfl) ?_;conv=>whnf)))
  have hwp : w.heap.size ≤ p := Nat.le_trans hx0.size hwp
  have hpb : p ≠ b := by have := ho.lt; omega
  have hx01 := hx0.e0 hx1
  have hset : Does X.P 60 #[.pointer (some ⟨p, 0, none⟩), .int .i16 (IntKind.i16.wrap v)] w1 fun r w' => Own w' p 131 [.int .i16 v, .slice none 0 0, .int .i32 60000, .bool false, .map none] ∧ Ext (fun k => k = p) w1 w' := by
    rw [hv16]
    refine Does.go (X := X) (l := [_, _]) Tryz.func60 rfl (by kernel_rfl) (by kernel_rfl) _ rfl ?_
    ((conv=>whnf);repeat(first|(refine mvT ?_;conv=>whnf)|(refine mvF ?_;conv=>whnf)|(refine cT (by rfl) ?_;conv=>whnf)|(refine cF (by rfl) ?_;conv=>whnf)))
    refine ⟨_, _, hop, rfl, rfl, rfl, ?_⟩
    intro w3 ho3 hx3
    ((conv=>whnf);repeat(first|(refine mvT ?_;conv=>whnf)|(refine mvF ?_;conv=>whnf)|(refine cT (by rfl) ?_;conv=>whnf)|(refine cF (by rfl) ?_;conv=>whnf)))
    exact ⟨ho3, hx3⟩
  refine Does.mono (hset) ?_;rintro r2 w2 ⟨hop2, hx2⟩;((conv=>whnf);repeat(first|(refine mvT ?_;conv=>whnf)|(refine mvF ?_;conv=>whnf)|(refine cT (by rfl) ?_;conv=>whnf)|(refine cF (by rfl) ?_;conv=>whnf)))
  have hx02 := hx01.st hx2 hwp
  have ho2 := (ho.e0 hx1).ext hx2 (fun e => hpb e.symm)
  refine app_bytes rfl rfl (OB.nil w2 w2.heap.size) (hx.e0 hx02).src rfl (by simp only [List.length_nil]; omega) (Nat.le_refl _) ?_
  intro x3 w3 h3 hx3 _ _
  ((conv=>whnf);repeat(first|(refine mvT ?_;conv=>whnf)|(refine mvF ?_;conv=>whnf)|(refine cT (by rfl) ?_;conv=>whnf)|(refine cF (by rfl) ?_;conv=>whnf)))
  rw [List.nil_append] at h3
  have hx3 : Ext nob w2 w3 := hx3.mono fun k _ h => by simp [Value.ownBlock] at h
  have hx03 := hx02.e0 hx3
  have hpl := hop2.lt
  have hread : Does X.P 61 #[.pointer (some ⟨p, 0, none⟩), x3] w3 fun r w' => RdPost w3 p 131 v (decide (v ≥ 5)) true dCreateTopicsRequest ev s r w' := by
    obtain ⟨a3, c3, rfl, _⟩ := h3.shape
    refine Does.go (X := X) (l := [_, _]) Tryz.func61 rfl (by kernel_rfl) (by kernel_rfl) _ rfl ?_
    ((conv=>whnf);repeat(first|(refine mvT ?_;conv=>whnf)|(refine mvF ?_;conv=>whnf)|(refine cT (by rfl) ?_;conv=>whnf)|(refine cF (by rfl) ?_;conv=>whnf)))
    refine Does.mono (readCreateTopicsRequest (hL.ext hx03 fun f => f) (hop2.e0 hx3) (h3.bytes (F := fun k => k ≠ p) fun k hk => by omega) (fun k h => h) hv (by omega)) ?_;rintro r w' h;((conv=>whnf);repeat(first|(refine mvT ?_;conv=>whnf)|(refine mvF ?_;conv=>whnf)|(refine cT (by rfl) ?_;conv=>whnf)|(refine cF (by rfl) ?_;conv=>whnf)))
    exact h
  refine Does.mono hread ?_
  rintro r4 w4 ⟨hr4, hx4, hpost⟩
  rw [hrd] at hr4 hpost
  obtain rfl : r4 = .nilIface := hr4.trans (if_neg Bool.false_ne_true)
  obtain ⟨cs, hop4, hq⟩ := hpost rfl
  ((conv=>whnf);repeat(first|(refine mvT ?_;conv=>whnf)|(refine mvF ?_;conv=>whnf)|(refine cT (by rfl) ?_;conv=>whnf)|(refine cF (by rfl) ?_;conv=>whnf)))
  have hx04 := hx03.st hx4 hwp
  have ho4 := (ho2.e0 hx3).ext hx4 (fun e => hpb e.symm)
  have hbl4 := ho4.lt
  refine Does.mono (tellCreateTopicsRequest hop4.cells hq hlim) ?_
  rintro r5 w5 ⟨t', hn, ⟨cr, rfl, htr⟩, hx5⟩
  have hlen5 := htr.len
  have hok5 := htr.ok
  ((conv=>whnf);repeat(first|(refine mvT ?_;conv=>whnf)|(refine mvF ?_;conv=>whnf)|(refine cT (by rfl) ?_;conv=>whnf)|(refine cF (by rfl) ?_;conv=>whnf)))
  refine st_all cr (ho4.e0 hx5) hlen5 rfl hok5 ?_
  intro w6 ho6 hx6
  ((conv=>whnf);repeat(first|(refine mvT ?_;conv=>whnf)|(refine mvF ?_;conv=>whnf)|(refine cT (by rfl) ?_;conv=>whnf)|(refine cF (by rfl) ?_;conv=>whnf)))
  refine ⟨cr, hlen5, ho6.cells, ?_⟩
  have hsz4 := hx04.size
  exact ⟨_, t', rfl, hn, ⟨_, rfl, (htr.ext hx6 fun k _ h e => by omega).mono fun k _ h => by omega⟩, (hx04.e0 hx5).st hx6 hb⟩
theorem walkCreateTopicsRequest {w : World} {n : Nat} (hn : n < 256) {x ev : Value} {t : T} (hL : Laid w ev) (ht : Tr w anyB x t) (hsz : wtT t ≤ 1048576) : Does X.P 6 #[.int .u8 n, x] w fun r w' => r = .bool true ∧ Ext nob w w' := by
  have hkeys := ht.keys
  obtain ⟨sv, lv, uv, ls, rfl, _⟩ := ht.open
  refine Does.go (X := X) (l := [_, _]) Tryz.func6 rfl (by kernel_rfl) (by kernel_rfl) _ rfl ?_
  ((conv=>whnf);repeat(first|(refine mvT ?_;conv=>whnf)|(refine mvF ?_;conv=>whnf)|(refine cT (by rfl) ?_;conv=>whnf)|(refine cF (by rfl) ?_;conv=>whnf)))
  intro b w1 hb ho hx
  ((conv=>whnf);repeat(first|(refine mvT ?_;conv=>whnf)|(refine mvF ?_;conv=>whnf)|(refine cT (by rfl) ?_;conv=>whnf)|(refine cF (by rfl) ?_;conv=>whnf)))
  refine ⟨_, rfl, ho.cells, ?_⟩
  ((conv=>whnf);repeat(first|(refine mvT ?_;conv=>whnf)|(refine mvF ?_;conv=>whnf)|(refine cT (by rfl) ?_;conv=>whnf)|(refine cF (by rfl) ?_;conv=>whnf)))
  refine Does.mono (zzFits1_does (ht.e0 hx)) ?_;rintro r2 w2 ⟨⟨b2, rfl⟩, hx2⟩;((conv=>whnf);repeat(first|(refine mvT ?_;conv=>whnf)|(refine mvF ?_;conv=>whnf)|(refine cT (by rfl) ?_;conv=>whnf)|(refine cF (by rfl) ?_;conv=>whnf)))
  have hx02 := hx.e0 hx2
  refine cI (by rfl) (fun h1=>?_) (fun h1=>?_)
  · ((conv=>whnf);repeat(first|(refine mvT ?_;conv=>whnf)|(refine mvF ?_;conv=>whnf)|(refine cT (by rfl) ?_;conv=>whnf)|(refine cF (by rfl) ?_;conv=>whnf)))
    exact ⟨rfl, hx02⟩
  · ((conv=>whnf);repeat(first|(refine mvT ?_;conv=>whnf)|(refine mvF ?_;conv=>whnf)|(refine cT (by rfl) ?_;conv=>whnf)|(refine cF (by rfl) ?_;conv=>whnf)))
    refine Does.mono (maxCreateTopicsRequest w2) ?_;rintro r3 w3 ⟨rfl, hx3⟩;((conv=>whnf);repeat(first|(refine mvT ?_;conv=>whnf)|(refine mvF ?_;conv=>whnf)|(refine cT (by rfl) ?_;conv=>whnf)|(refine cF (by rfl) ?_;conv=>whnf)))
    refine Does.mono (sCreateTopicsRequest w3) ?_;rintro r4 w4 ⟨⟨fv, rfl, hfd⟩, hx4⟩;((conv=>whnf);repeat(first|(refine mvT ?_;conv=>whnf)|(refine mvF ?_;conv=>whnf)|(refine cT (by rfl) ?_;conv=>whnf)|(refine cF (by rfl) ?_;conv=>whnf)))
    have hone := hfd
    obtain ⟨ls3, hsl3, _⟩ := hone
    obtain ⟨a3, c3, rfl, _⟩ := hsl3.view
    refine Does.mono (version_does n 7 hn (by omega) w4) ?_;rintro r5 w5 ⟨rfl, rfl⟩;((conv=>whnf);repeat(first|(refine mvT ?_;conv=>whnf)|(refine mvF ?_;conv=>whnf)|(refine cT (by rfl) ?_;conv=>whnf)|(refine cF (by rfl) ?_;conv=>whnf)))
    intro b6 w6 hb6 ho6 hx6
    ((conv=>whnf);repeat(first|(refine mvT ?_;conv=>whnf)|(refine mvF ?_;conv=>whnf)|(refine cT (by rfl) ?_;conv=>whnf)|(refine cF (by rfl) ?_;conv=>whnf)))
    refine ⟨_, _, ho6, rfl, rfl, rfl, ?_⟩
    intro w7 ho7 hx7
    have hx57 : Ext nob w5 w7 := hx6.st hx7 hb6
    ((conv=>whnf);repeat(first|(refine mvT ?_;conv=>whnf)|(refine mvF ?_;conv=>whnf)|(refine cT (by rfl) ?_;conv=>whnf)|(refine cF (by rfl) ?_;conv=>whnf)))
    have hx07 : Ext nob w w7 := ((hx02.e0 hx3).e0 hx4).e0 hx57
    have ho1 := (((ho.e0 hx2).e0 hx3).e0 hx4).e0 hx57
    generalize hvv : ((n % (7 + 1) : Nat) : Int) = v
    have hv0 : 0 ≤ v := by omega
    have hv1 : v < 32768 := by omega
    have hok : ∀ f, f ∈ dCreateTopicsRequest → okF 9 f = true := List.all_eq_true.1 (show (dCreateTopicsRequest).all (okF 9) = true by decide)
    have hnt : ∀ f, f ∈ dCreateTopicsRequest → ntF 9 f = true := List.all_eq_true.1 (show (dCreateTopicsRequest).all (ntF 9) = true by decide)
    have hrr : ∀ f, f ∈ dCreateTopicsRequest → okR 5 9 f = true := List.all_eq_true.1 (show (dCreateTopicsRequest).all (okR 5 9) = true by decide)
    have hww : ∀ f, f ∈ dCreateTopicsRequest → okW 9 f = true := List.all_eq_true.1 (show (dCreateTopicsRequest).all (okW 9) = true by decide)
    have hnn : ∀ f, f ∈ dCreateTopicsRequest → okN 9 f = true := List.all_eq_true.1 (show (dCreateTopicsRequest).all (okN 9) = true by decide)
    refine ⟨_, rfl, ho7.cells, ?_⟩
    ((conv=>whnf);repeat(first|(refine mvT ?_;conv=>whnf)|(refine mvF ?_;conv=>whnf)|(refine cT (by rfl) ?_;conv=>whnf)|(refine cF (by rfl) ?_;conv=>whnf)))
    refine ⟨_, rfl, ho1.cells, ?_⟩
    ((conv=>whnf);repeat(first|(refine mvT ?_;conv=>whnf)|(refine mvF ?_;conv=>whnf)|(refine cT (by rfl) ?_;conv=>whnf)|(refine cF (by rfl) ?_;conv=>whnf)))
    have hfx : decide (v ≥ 5) = flexB 5 v := by simp [flexB]
    have hlen : (partB 9 v (flexB 5 v) dCreateTopicsRequest t).length ≤ 90000000000000 := Nat.le_trans (partB_wt 9 v _ dCreateTopicsRequest t hnt hkeys) (Nat.le_trans (Nat.mul_le_mul_left _ hsz) (Nat.le_of_ble_eq_true rfl))
    refine Does.mono (write_does 9 (v := v) ⟨_, rfl, hfd.e0 hx57⟩ (ht.e0 hx07) hok (by decide) (Nat.le_trans hlen (by decide))) ?_
    rintro r8 w8 ⟨hr8, hx8⟩
    obtain ⟨a8, c8, rfl, _⟩ := hr8.shape
    ((conv=>whnf);repeat(first|(refine mvT ?_;conv=>whnf)|(refine mvF ?_;conv=>whnf)|(refine cT (by rfl) ?_;conv=>whnf)|(refine cF (by rfl) ?_;conv=>whnf)))
    have hx08 := hx07.e0 hx8
    have hrd : rdPart 9 v (decide (v ≥ 5)) dCreateTopicsRequest (partB 9 v (flexB 5 v) dCreateTopicsRequest t, false) = (toPart 9 v (decide (v ≥ 5)) dCreateTopicsRequest t, ([], false)) := by
      have := part_read 9 5 v dCreateTopicsRequest t hnt hrr hkeys hv0 []
      rw [List.append_nil] at this
      rw [hfx]
      exact this
    have hgd := gd_part 9 v (decide (v ≥ 5)) dCreateTopicsRequest t hok (by decide) hkeys
    refine Does.mono (tellsCreateTopicsRequest (v := v) (hL.ext hx08 fun f => f) hr8.bytesAny hv0 hv1 hrd hgd.lim (by omega)) ?_
    rintro r9 w9 ⟨o9, t9, rfl, hn9, hr9, hx9⟩
    obtain rfl := hgd.nrm hn9
    have hsm := hgd.small
    obtain ⟨c9, rfl, hc9⟩ := hr9
    have hlen9 := hc9.len
    have hok9 := hc9.ok
    ((conv=>whnf);repeat(first|(refine mvT ?_;conv=>whnf)|(refine mvF ?_;conv=>whnf)|(refine cT (by rfl) ?_;conv=>whnf)|(refine cF (by rfl) ?_;conv=>whnf)))
    intro b10 w10 hb10 ho10 hx10
    ((conv=>whnf);repeat(first|(refine mvT ?_;conv=>whnf)|(refine mvF ?_;conv=>whnf)|(refine cT (by rfl) ?_;conv=>whnf)|(refine cF (by rfl) ?_;conv=>whnf)))
    refine st_all c9 ho10 hlen9 rfl hok9 ?_
    intro w11 ho11 hx11
    ((conv=>whnf);repeat(first|(refine mvT ?_;conv=>whnf)|(refine mvF ?_;conv=>whnf)|(refine cT (by rfl) ?_;conv=>whnf)|(refine cF (by rfl) ?_;conv=>whnf)))
    have hx911 : Ext nob w9 w11 := hx10.st hx11 hb10
    have hx011 := (hx08.e0 hx9).e0 hx911
    have hx711 := (hx8.e0 hx9).e0 hx911
    refine VD.draw mixed (.q 0 (.q 1 (.q 2 (.q 3 (.q 4 (.q 5 (.q 6 (.q 8 (.q 9 (.eff 7 [3, 8, 9] (.eff 10 [3, 8] (.eff 11 [] (.q 12 (.eff 13 [] (.done))))))))))))))) (by kernel_rfl) ?_;((conv=>whnf);repeat(first|(refine mvT ?_;conv=>whnf)|(refine mvF ?_;conv=>whnf)|(refine cT (by rfl) ?_;conv=>whnf)|(refine cF (by rfl) ?_;conv=>whnf)))
    have hxd : Ext nob w11 w11.drew := ext_drew _
    have ho7d := (ho7.e0 hx711).e0 hxd
    have ho1d := (ho1.e0 hx711).e0 hxd
    have ho11d := ho11.e0 hxd
    have hc9d := (hc9.e0 hx911).e0 hxd
    refine ldS (ho7d.cell rfl) ?_;((conv=>whnf);repeat(first|(refine mvT ?_;conv=>whnf)|(refine mvF ?_;conv=>whnf)|(refine cT (by rfl) ?_;conv=>whnf)|(refine cF (by rfl) ?_;conv=>whnf)))
    refine ⟨_, rfl, ho7d.cells, ?_⟩
    ((conv=>whnf);repeat(first|(refine mvT ?_;conv=>whnf)|(refine mvF ?_;conv=>whnf)|(refine cT (by rfl) ?_;conv=>whnf)|(refine cF (by rfl) ?_;conv=>whnf)))
    refine ⟨_, rfl, ho1d.cells, ?_⟩
    ((conv=>whnf);repeat(first|(refine mvT ?_;conv=>whnf)|(refine mvF ?_;conv=>whnf)|(refine cT (by rfl) ?_;conv=>whnf)|(refine cF (by rfl) ?_;conv=>whnf)))
    refine ⟨c9, hlen9, ho11d.cells, ?_⟩
    ((conv=>whnf);repeat(first|(refine mvT ?_;conv=>whnf)|(refine mvF ?_;conv=>whnf)|(refine cT (by rfl) ?_;conv=>whnf)|(refine cF (by rfl) ?_;conv=>whnf)))
    refine Does.mono (Flexible2_does (w := w11.drew)) ?_
    rintro r12 w12 ⟨rfl, hx12⟩
    refine ⟨by (conv => whnf); exact ⟨⟨_, (ho7d.e0 hx12).cell rfl, rfl, rfl⟩, ⟨_, rfl, (ho1d.e0 hx12).cells, rfl, rfl⟩, ⟨c9, hlen9, (ho11d.e0 hx12).cells, rfl, rfl⟩, trivial⟩, ?_⟩
    ((conv=>whnf);repeat(first|(refine mvT ?_;conv=>whnf)|(refine mvF ?_;conv=>whnf)|(refine cT (by rfl) ?_;conv=>whnf)|(refine cF (by rfl) ?_;conv=>whnf)))
    refine Does.mono (got_does ⟨_, rfl, hc9d.e0 hx12⟩ hsm) ?_
    rintro r13 w13 ⟨hr13, hx13⟩
    have hxd13 := hx12.e0 hx13
    refine ⟨by (conv => whnf); exact ⟨⟨_, (ho7d.e0 hxd13).cell rfl, rfl, rfl⟩, ⟨_, rfl, (ho1d.e0 hxd13).cells, rfl, rfl⟩, trivial⟩, ?_⟩
    ((conv=>whnf);repeat(first|(refine mvT ?_;conv=>whnf)|(refine mvF ?_;conv=>whnf)|(refine cT (by rfl) ?_;conv=>whnf)|(refine cF (by rfl) ?_;conv=>whnf)))
    have hx013 := (hx011.e0 hxd).e0 hxd13
    rw [hfx] at hr13
    refine Does.mono (Told_does 8 ((((hfd.e0 hx57).e0 hx711).e0 hxd).e0 hxd13) (ht.e0 hx013) hr13 hok hnt hww hnn (by decide) hv0) ?_
    rintro r14 w14 ⟨rfl, hx14⟩
    ((conv=>whnf);repeat(first|(refine mvT ?_;conv=>whnf)|(refine mvF ?_;conv=>whnf)|(refine cT (by rfl) ?_;conv=>whnf)|(refine cF (by rfl) ?_;conv=>whnf)))
    exact ⟨rfl, hx013.e0 hx14⟩
end Go.Proofs.YtmmieooipcfbiaaGreatDoor.K
