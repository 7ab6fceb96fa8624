/- ConsumerMemberAssignment is read and told. -/
import Derived.Test.YtefgfdbckbkfiaaDoorU7
import Derived.Test.YtefgfdbckbkfiaaDoorV4
import Derived.Test.YtefgfdbckbkfiaaDoorGkept
set_option linter.unusedVariables false
set_option linter.unusedSimpArgs false
namespace Go.Proofs.YtefgfdbckbkfiaaDoor.K
open Go
set_option maxHeartbeats 4000000
set_option maxRecDepth 100000

theorem tellConsumerMemberAssignmentTopic {w0 : World} {F : Nat → Prop} {q o : Nat} {cs : List Value} {t : T} (hq : Cells w0 q o cs) (hQ : QPart false 8 dConsumerMemberAssignmentTopic ⟨w0, F⟩ cs t) (hlim : LimT t) :
    Does X.P 20 #[.pointer (some ⟨q, o, none⟩)] w0 fun r w' => ∃ t', Nrm t t' ∧ Tr w' (fun k => w0.heap.size ≤ k) r t' ∧ Ext nob w0 w' := by
  obtain ⟨_, rfl, hA0⟩ := iPf hQ
  clear hQ
  obtain ⟨cc0, _, x0, _, rfl, rfl, h0, hA1⟩ := iA hA0
  obtain ⟨s0, rfl, rfl⟩ := iF8 (by decide) h0
  obtain ⟨cc1, _, x1, _, rfl, rfl, h1, hA2⟩ := iA hA1
  obtain ⟨c1, nl1, l1, rfl, hnl1, rfl, hc1⟩ : ∃ c nl l, cc1 = [c] ∧ (nl = true → l = []) ∧ x1 = .mk 0 [] nl l [] ∧ ListR true (elZ false 7 3 []) (elQ false 7 3 [] ⟨w0, F⟩) w0 F c x1 := h1
  obtain ⟨rfl, rfl⟩ := hA2
  cases hlim
  rename_i hU hKU hDU hLs hu0 hs0 hd0
  have hq : Cells w0 q o [str s0, c1] := hq
  obtain ⟨a1, k1, ls1, rfl, hk1, hll1, hnn1, hcl1, hrl1⟩ := hc1.view
  refine Does.go (X := X) (l := [_]) Tryd.func20 rfl (by kernel_rfl) (by kernel_rfl) _ rfl ?_
  ((conv=>whnf);repeat((first|refine mvT ?_|refine mvF ?_|refine yT ?_|refine yF ?_);conv=>whnf))
  intro b2 w1 hb2 ho2 hx1
  ((conv=>whnf);repeat((first|refine mvT ?_|refine mvF ?_|refine yT ?_|refine yF ?_);conv=>whnf))
  refine ⟨⟨by decide, by decide, by decide, by decide⟩, ⟨by decide, rfl⟩, ?_⟩
  intro bl w2 hbl hol hx2
  ((conv=>whnf);repeat((first|refine mvT ?_|refine mvF ?_|refine yT ?_|refine yF ?_);conv=>whnf))
  intro bt w3 hbt hot hx3
  ((conv=>whnf);repeat((first|refine mvT ?_|refine mvF ?_|refine yT ?_|refine yF ?_);conv=>whnf))
  have hzz : w0.heap.size ≤ w1.heap.size := hx1.size
  have H := (((Sg.start w0).push hx1 ho2 hb2).push hx2 hol hbl).push hx3 hot hbt
  refine Sg.st (A := []) (o' := 0) (m := [.int .i64 0, .slice none 0 0, .bool false, .slice (some ⟨bl, 0, none⟩) 2 2, .slice none 0 0]) H rfl (Nat.le_of_ble_eq_true rfl) rfl ?_
  clear H hot hol ho2 hx1 hx2 hx3
  intro w H
  obtain ⟨Tt, Tl, T2, H⟩ : ∃ Tt Tl T2, Sg w0 [(bt, Tt, [.int .i64 0, .slice none 0 0, .bool false, .slice (some ⟨bl, 0, none⟩) 2 2, .slice none 0 0]), (bl, Tl, [.int .i64 0, .slice none 0 0, .bool false, .slice none 0 0, .slice none 0 0, .int .i64 0, .slice none 0 0, .bool false, .slice none 0 0, .slice none 0 0]), (b2, T2, [.int .i64 0, .slice none 0 0, .bool false, .slice none 0 0, .slice none 0 0])] (fun _ => True) w := ⟨_, _, _, H⟩
  have hb2w : w0.heap.size ≤ b2 := hb2
  have hblw : w0.heap.size ≤ bl := by omega
  have hbtw : w0.heap.size ≤ bt := by have := H.dis.1; exact this
  ((conv=>whnf);repeat((first|refine mvT ?_|refine mvF ?_|refine yT ?_|refine yF ?_);conv=>whnf))
  refine VD.draw mixed (.q 0 (.q 1 (.q 2 (.q 3 (.q 4 (.q 5 (.eff 6 [1] (.q 7 (.q 8 (.eff 9 [] (.done))))))))))) (by kernel_rfl) ?_;((conv=>whnf);repeat((first|refine mvT ?_|refine mvF ?_|refine yT ?_|refine yF ?_);conv=>whnf))
  replace H := H.e0 (ext_drew _)
  refine ldS ((Sg.at (A := []) H).cell rfl) ?_;((conv=>whnf);repeat((first|refine mvT ?_|refine mvF ?_|refine yT ?_|refine yF ?_);conv=>whnf))
  refine ⟨_, ld ((hq.e0 H.ext).cell (j := 0) rfl) (by simp), ?_⟩
  ((conv=>whnf);repeat((first|refine mvT ?_|refine mvF ?_|refine yT ?_|refine yF ?_);conv=>whnf))
  refine ⟨by show s0.length ≤ maxLen; have := hLs (.mk 0 s0 false [] []) (by simp); cases this; rw [maxLen_eq]; omega, ?_⟩
  intro bb0 cb0 wb0 hbb0 hbl0 hC0 hcp0 hxb0
  have hC0 : Cells wb0 bb0 0 (s0.map bcell) := hC0
  have hcp0 : s0.length ≤ cb0 ∧ cb0 ≤ maxLen := hcp0
  have H := H.keepN (H.e0 hxb0) (trL [.int .i64 0, .slice (some ⟨bb0, 0, none⟩) s0.length cb0, .bool false, .slice none 0 0, .slice none 0 0] (.mk 0 s0 false [] [])) (F := fun k => _ ≤ k) (TrC.leaf rfl (conv_bytes hbb0 hbl0 hC0 hcp0)) fun k h => h
  refine ⟨by (conv => whnf); exact ⟨⟨_, (Sg.at (A := []) H).cell rfl, rfl, rfl⟩, trivial⟩, ?_⟩
  ((conv=>whnf);repeat((first|refine mvT ?_|refine mvF ?_|refine yT ?_|refine yF ?_);conv=>whnf))
  refine ⟨bl, 0, rfl, ⟨by omega, by omega⟩, ?_⟩
  ((conv=>whnf);repeat((first|refine mvT ?_|refine mvF ?_|refine yT ?_|refine yF ?_);conv=>whnf))
  refine Sg.st (A := [_]) (o' := 0) (m := [.int .i64 0, .slice (some ⟨bb0, 0, none⟩) s0.length cb0, .bool false, .slice none 0 0, .slice none 0 0]) H rfl (Nat.le_of_ble_eq_true rfl) (rfl) ?_
  clear H
  intro w H
  obtain ⟨P0, hP0⟩ : ∃ P : World → Prop, P = fun w => TrC w (fun k => w0.heap.size ≤ k) [.int .i64 0, .slice (some ⟨bb0, 0, none⟩) s0.length cb0, .bool false, .slice none 0 0, .slice none 0 0] (.mk 0 s0 false [] []) ∧ True := ⟨_, rfl⟩
  replace H : Sg w0 [(bt, Tt, [.int .i64 0, .slice none 0 0, .bool false, .slice (some ⟨bl, 0, none⟩) 2 2, .slice none 0 0]), (bl, Tl, [.int .i64 0, .slice (some ⟨bb0, 0, none⟩) s0.length cb0, .bool false, .slice none 0 0, .slice none 0 0, .int .i64 0, .slice none 0 0, .bool false, .slice none 0 0, .slice none 0 0]), (b2, T2, [.int .i64 0, .slice none 0 0, .bool false, .slice none 0 0, .slice none 0 0])] P0 w := by rw [hP0]; exact H
  ((conv=>whnf);repeat((first|refine mvT ?_|refine mvF ?_|refine yT ?_|refine yF ?_);conv=>whnf))
  refine VD.draw mixed (.q 0 (.q 1 (.q 2 (.q 3 (.q 4 (.q 5 (.q 6 (.q 7 (.q 8 (.eff 9 [] (.done))))))))))) (by kernel_rfl) ?_;((conv=>whnf);repeat((first|refine mvT ?_|refine mvF ?_|refine yT ?_|refine yF ?_);conv=>whnf))
  replace H := H.e0 (ext_drew _)
  refine ldS ((Sg.at (A := []) H).cell rfl) ?_;((conv=>whnf);repeat((first|refine mvT ?_|refine mvF ?_|refine yT ?_|refine yF ?_);conv=>whnf))
  refine ⟨_, ld ((hq.e0 H.ext).cell (j := 1) rfl) (by simp), ?_⟩
  ((conv=>whnf);repeat((first|refine mvT ?_|refine mvF ?_|refine yT ?_|refine yF ?_);conv=>whnf))
  refine ⟨bl, 0, rfl, ⟨by omega, by omega⟩, ?_⟩
  ((conv=>whnf);repeat((first|refine mvT ?_|refine mvF ?_|refine yT ?_|refine yF ?_);conv=>whnf))
  refine Sg.st (A := [_]) (o' := 7) (m := [.bool a1.isNone]) H rfl (Nat.le_of_ble_eq_true rfl) (rfl) ?_
  clear H
  intro w H
  replace H : Sg w0 [(bt, Tt, [.int .i64 0, .slice none 0 0, .bool false, .slice (some ⟨bl, 0, none⟩) 2 2, .slice none 0 0]), (bl, Tl, [.int .i64 0, .slice (some ⟨bb0, 0, none⟩) s0.length cb0, .bool false, .slice none 0 0, .slice none 0 0, .int .i64 0, .slice none 0 0, .bool a1.isNone, .slice none 0 0, .slice none 0 0]), (b2, T2, [.int .i64 0, .slice none 0 0, .bool false, .slice none 0 0, .slice none 0 0])] P0 w := H
  ((conv=>whnf);repeat((first|refine mvT ?_|refine mvF ?_|refine yT ?_|refine yF ?_);conv=>whnf))
  refine ⟨_, ld ((hq.e0 H.ext).cell (j := 1) rfl) (by simp), ?_⟩
  ((conv=>whnf);repeat((first|refine mvT ?_|refine mvF ?_|refine yT ?_|refine yF ?_);conv=>whnf))
  have hlsT : lsT (.mk 0 [] nl1 l1 []) = l1 := by
    show (if nl1 = true then [] else l1) = l1
    split
    · rename_i e
      exact (hnl1 e).symm
    · rfl
  rw [hlsT] at hll1 hrl1
  obtain ⟨wL, hwL⟩ : ∃ wL, wL = w := ⟨_, rfl⟩
  rw [← hwL] at H ⊢
  have hLlt := H.own.lt
  have hLl : l1.length ≤ 1000000 ∧ ∀ x, x ∈ l1 → LimT x := by
    have := hLs (.mk 0 [] nl1 l1 []) (by simp)
    cases this
    exact ⟨by assumption, by assumption⟩
  have hs0L := H.ext.size
  refine VL.loop (fun i : Nat => [(29, .int .i64 ls1.length), (30, .int .i64 i), (0, .pointer (some ⟨q, o, none⟩)), (2, .pointer (some ⟨b2, 0, none⟩)), (3, .pointer (some ⟨bt, 0, none⟩))])
    (fun i w' => i ≤ ls1.length ∧ Ext (fun k => k = bl ∨ wL.heap.size ≤ k) wL w' ∧ ∃ vl ts, Own w' bl Tl [.int .i64 0, .slice (some ⟨bb0, 0, none⟩) s0.length cb0, .bool false, .slice none 0 0, .slice none 0 0, .int .i64 0, .slice none 0 0, .bool a1.isNone, vl, .slice none 0 0] ∧ OLn w' wL.heap.size vl ts ∧ ts.length = i ∧ ∀ (j : Nat) (x y : T), l1[j]? = some x → ts[j]? = some y → Nrm x y) (fun i => ls1.length - i) 0
    ⟨rfl, rfl, rfl, rfl, rfl, trivial⟩ ⟨Nat.zero_le _, Ext.refl _ _, _, [], Sg.at (A := [_]) H, OLn.nil _ _, rfl, by simp⟩ ?_
  rintro i w ⟨hi, hxL, vl1, ts1, hobl, hT, htl1, hnr1⟩
  ((conv=>whnf);repeat((first|refine mvT ?_|refine mvF ?_|refine yT ?_|refine yF ?_);conv=>whnf))
  refine cI (by rfl) (fun h9=>?_) (fun h9=>?_)
  · have hil : i < ls1.length := by have := of_decide_eq_true h9; omega
    obtain ⟨be, oe, rfl, hFe, hbe, hce⟩ := hcl1 i ls1[i] (by simp [hil])
    have hqe := hrl1 i ls1[i] l1[i] (by simp [hil]) (by simp)
    have hlime := hLl.2 l1[i] (List.getElem_mem _)
    obtain ⟨t', ht'⟩ : ∃ t', t' = l1[i] := ⟨_, rfl⟩
    obtain ⟨n', _, hce', hxe'⟩ : ∃ n, IntKind.i32.wrap n = n ∧ ls1[i] = [.int .i32 n] ∧ l1[i] = numT n := hqe
    rw [hce'] at hce
    have hwn : IntKind.i64.wrap n' = n' := by rw [hxe'] at hlime; cases hlime; assumption
    have hnr' : Nrm l1[i] t' := by rw [ht', hxe']; exact Nrm.leaf _ _ _
    rw [hxe'] at ht'
    have hx0 : Ext nob w0 w := H.ext.trans hxL fun k hk h => by
      rcases h with h | h
      · omega
      · omega
    have hobt : Own w bt Tt [.int .i64 0, .slice none 0 0, .bool false, .slice (some ⟨bl, 0, none⟩) 2 2, .slice none 0 0] := (Sg.at (A := []) H).ext hxL fun h => by
      have := hLlt bt (by simp [inL])
      have h2 := (H.dis.2.1 : ¬ inL _ bt)
      rcases h with h | h
      · exact h2 (by rw [h]; simp [inL])
      · omega
    obtain ⟨av, cv, rfl⟩ := hT.one
    ((conv=>whnf);repeat((first|refine mvT ?_|refine mvF ?_|refine yT ?_|refine yF ?_);conv=>whnf))
    refine VD.draw mixed (.eff 0 [] (.alt (.eff 1 [] (.eff 2 [] (.q 3 (.done)))) (.eff 2 [] (.eff 1 [] (.q 3 (.done)))))) (by kernel_rfl) ?_;((conv=>whnf);repeat((first|refine mvT ?_|refine mvF ?_|refine yT ?_|refine yF ?_);conv=>whnf))
    intro bb wb hbb hob hxb
    have hxb : Ext nob w wb := (ext_drew w).e0 hxb
    have hbb : w.heap.size ≤ bb := hbb
    ((conv=>whnf);repeat((first|refine mvT ?_|refine mvF ?_|refine yT ?_|refine yF ?_);conv=>whnf))
    constructor
    · conv => whnf
      refine st_all [.bool true] hob rfl rfl rfl ?_
      intro wc hoc hxc
      conv => whnf
      refine st_all [.bool false] hoc rfl rfl rfl ?_
      intro wd hod hxd
      ((conv=>whnf);repeat((first|refine mvT ?_|refine mvF ?_|refine yT ?_|refine yF ?_);conv=>whnf))
      refine ldS (hod.cell rfl) ?_;((conv=>whnf);repeat((first|refine mvT ?_|refine mvF ?_|refine yT ?_|refine yF ?_);conv=>whnf))
      have hxw : Ext nob w wd := (hxb.st hxc hbb).st hxd hbb
      refine VD.draw mixed (.q 0 (.q 1 (.q 2 (.q 3 (.q 4 (.q 5 (.q 6 (.q 7 (.q 8 (.q 9 (.q 10 (.q 11 (.q 12 (.q 13 (.q 14 (.q 15 (.eff 16 [1, 3, 6] (.eff 17 [1] (.q 18 (.q 19 (.eff 20 [] (.done)))))))))))))))))))))) (by kernel_rfl) ?_;((conv=>whnf);repeat((first|refine mvT ?_|refine mvF ?_|refine yT ?_|refine yF ?_);conv=>whnf))
      have hxw := hxw.e0 (ext_drew _)
      have hszd := hxw.size
      refine ldS ((hobt.e0 hxw).cell rfl) ?_;((conv=>whnf);repeat((first|refine mvT ?_|refine mvF ?_|refine yT ?_|refine yF ?_);conv=>whnf))
      refine ldS ((hobt.e0 hxw).cell rfl) ?_;((conv=>whnf);repeat((first|refine mvT ?_|refine mvF ?_|refine yT ?_|refine yF ?_);conv=>whnf))
      refine ⟨bl, 0, rfl, ⟨by omega, by omega⟩, ?_⟩
      ((conv=>whnf);repeat((first|refine mvT ?_|refine mvF ?_|refine yT ?_|refine yF ?_);conv=>whnf))
      refine ldS ((hobl.e0 hxw).cell rfl) ?_;((conv=>whnf);repeat((first|refine mvT ?_|refine mvF ?_|refine yT ?_|refine yF ?_);conv=>whnf))
      refine ⟨_, ld ((hq.e0 (hx0.e0 hxw)).cell (j := 1) rfl) (by simp), ?_⟩
      ((conv=>whnf);repeat((first|refine mvT ?_|refine mvF ?_|refine yT ?_|refine yF ?_);conv=>whnf))
      refine ⟨be, oe, rfl, ⟨by omega, by omega⟩, ?_⟩
      ((conv=>whnf);repeat((first|refine mvT ?_|refine mvF ?_|refine yT ?_|refine yF ?_);conv=>whnf))
      refine ⟨_, ld ((hce.e0 (hx0.e0 hxw)).cell (j := 0) rfl) (by simp [show elZ false 7 3 [] = 1 from rfl]), ?_⟩
      ((conv=>whnf);repeat((first|refine mvT ?_|refine mvF ?_|refine yT ?_|refine yF ?_);conv=>whnf))
      intro bs ws hbs hos hxs
      rw [hwn] at hos
      have hos : Own ws bs TT [.int .i64 n', .slice none 0 0, .bool false, .slice none 0 0, .slice none 0 0] := hos
      have hxw := hxw.e0 hxs
      refine ⟨by (conv => whnf); exact ⟨⟨_, (hobt.e0 hxw).cell rfl, rfl, rfl⟩, ⟨_, (hobt.e0 hxw).cell rfl, rfl, rfl⟩, ⟨_, (hobl.e0 hxw).cell rfl, rfl, rfl⟩, trivial⟩, ?_⟩
      conv => whnf
      have hsLw := hxL.size
      refine OLn.app (x := t') (hT.ext hxw fun _ _ _ f => f) rfl hos rfl rfl (by omega) (by decide) (by have := hxw.size; omega) (by rw [ht']; exact TrC.leaf hwn (Bytes.nil _ _)) ?_
      intro v5 w5 hT5 hx5 _
      obtain ⟨a5, c5, rfl⟩ := hT5.one
      have hown5 : ∀ k, (Value.slice av ts1.length cv).ownBlock = some k → wL.heap.size ≤ k := fun k hk => (hT.own k hk).1
      have hbt5 := (hobt.e0 hxw).ext hx5 fun h => by have := hown5 bt h; have := hLlt bt (by simp [inL]); omega
      have hbl5 := (hobl.e0 hxw).ext hx5 fun h => by have := hown5 bl h; have := hLlt bl (by simp [inL]); omega
      refine ⟨by (conv => whnf); exact ⟨⟨_, hbt5.cell rfl, rfl, rfl⟩, trivial⟩, ?_⟩
      conv => whnf
      refine ⟨bl, 0, rfl, ⟨by omega, by omega⟩, ?_⟩
      ((conv=>whnf);repeat((first|refine mvT ?_|refine mvF ?_|refine yT ?_|refine yF ?_);conv=>whnf))
      refine st_cell (o := 8) (v := .slice a5 (ts1 ++ [t']).length c5) hbl5 rfl rfl rfl (by simp) rfl ?_
      intro w6 ho6 hx6
      ((conv=>whnf);repeat((first|refine mvT ?_|refine mvF ?_|refine yT ?_|refine yF ?_);conv=>whnf))
      have hxL6 : Ext (fun k => k = bl ∨ wL.heap.size ≤ k) wL w6 := ((hxL.trans (hxw.mono (M' := nob) fun _ _ f => f) fun k hk f => f.elim).trans hx5 fun k hk h => by have := hown5 k h; omega).trans hx6 fun k hk h => .inl h
      refine ⟨i + 1, ⟨rfl, inc_eq (by omega), rfl, rfl, rfl, trivial⟩, ⟨by omega, hxL6, _, ts1 ++ [t'], ho6, hT5.ext hx6 (fun k _ h1 h2 => by have := hLlt bl (by simp [inL]); omega), by simp [htl1], ?_⟩, by omega⟩
      intro j x y hx hy
      rcases Nat.lt_or_ge j ts1.length with hj | hj
      · rw [List.getElem?_append_left hj] at hy
        exact hnr1 j x y hx hy
      · rw [List.getElem?_append_right hj] at hy
        obtain ⟨e, he⟩ : ∃ e, j - ts1.length = e := ⟨_, rfl⟩
        rw [he] at hy
        cases e with
        | zero =>
          have : j = i := by omega
          subst this
          simp only [List.getElem?_cons_zero, Option.some.injEq] at hy
          subst hy
          rw [List.getElem?_eq_getElem (by omega), Option.some.injEq] at hx
          subst hx
          exact hnr'
        | succ e => simp at hy
    · conv => whnf
      refine st_all [.bool false] hob rfl rfl rfl ?_
      intro wc hoc hxc
      conv => whnf
      refine st_all [.bool true] hoc rfl rfl rfl ?_
      intro wd hod hxd
      ((conv=>whnf);repeat((first|refine mvT ?_|refine mvF ?_|refine yT ?_|refine yF ?_);conv=>whnf))
      refine ldS (hod.cell rfl) ?_;((conv=>whnf);repeat((first|refine mvT ?_|refine mvF ?_|refine yT ?_|refine yF ?_);conv=>whnf))
      have hxw : Ext nob w wd := (hxb.st hxc hbb).st hxd hbb
      refine VD.draw mixed (.q 0 (.q 1 (.q 2 (.q 3 (.q 4 (.q 5 (.q 6 (.q 7 (.q 8 (.q 9 (.q 10 (.q 11 (.q 12 (.q 13 (.q 14 (.eff 15 [1, 4, 8, 11] (.eff 16 [] (.q 17 (.q 18 (.eff 19 [] (.done))))))))))))))))))))) (by kernel_rfl) ?_;((conv=>whnf);repeat((first|refine mvT ?_|refine mvF ?_|refine yT ?_|refine yF ?_);conv=>whnf))
      have hxw := hxw.e0 (ext_drew _)
      have hszd := hxw.size
      refine ldS ((hobt.e0 hxw).cell rfl) ?_;((conv=>whnf);repeat((first|refine mvT ?_|refine mvF ?_|refine yT ?_|refine yF ?_);conv=>whnf))
      refine ⟨bl, 0, rfl, ⟨by omega, by omega⟩, ?_⟩
      ((conv=>whnf);repeat((first|refine mvT ?_|refine mvF ?_|refine yT ?_|refine yF ?_);conv=>whnf))
      refine ldS ((hobl.e0 hxw).cell rfl) ?_;((conv=>whnf);repeat((first|refine mvT ?_|refine mvF ?_|refine yT ?_|refine yF ?_);conv=>whnf))
      refine ⟨_, ld ((hq.e0 (hx0.e0 hxw)).cell (j := 1) rfl) (by simp), ?_⟩
      ((conv=>whnf);repeat((first|refine mvT ?_|refine mvF ?_|refine yT ?_|refine yF ?_);conv=>whnf))
      refine ⟨be, oe, rfl, ⟨by omega, by omega⟩, ?_⟩
      ((conv=>whnf);repeat((first|refine mvT ?_|refine mvF ?_|refine yT ?_|refine yF ?_);conv=>whnf))
      refine ⟨_, ld ((hce.e0 (hx0.e0 hxw)).cell (j := 0) rfl) (by simp [show elZ false 7 3 [] = 1 from rfl]), ?_⟩
      ((conv=>whnf);repeat((first|refine mvT ?_|refine mvF ?_|refine yT ?_|refine yF ?_);conv=>whnf))
      intro bs ws hbs hos hxs
      have hos : Own ws bs TT [.int .i64 0, .slice none 0 0, .bool false, .slice none 0 0, .slice none 0 0] := hos
      have hxw := hxw.e0 hxs
      refine ⟨by (conv => whnf); exact ⟨⟨_, (hobt.e0 hxw).cell rfl, rfl, rfl⟩, ⟨_, (hobl.e0 hxw).cell rfl, rfl, rfl⟩, ⟨_, (hq.e0 (hx0.e0 hxw)).cell (j := 1) rfl, rfl, rfl⟩, ⟨_, (hce.e0 (hx0.e0 hxw)).cell (j := 0) rfl, rfl, rfl⟩, trivial⟩, ?_⟩
      have htrw : TrC ws (fun k => w.heap.size ≤ k ∧ k < ws.heap.size) [.int .i64 n', .slice none 0 0, .bool false, .slice none 0 0, .slice none 0 0] t' := by rw [ht']; exact TrC.leaf hwn (Bytes.nil _ _)
      conv => whnf
      refine OLn.app (x := .mk 0 [] false [] []) (hT.ext hxw fun _ _ _ f => f) rfl hos rfl rfl (by omega) (by decide) (by have := hxw.size; have := hxL.size; omega) (TrC.leaf rfl (Bytes.nil _ _)) ?_
      intro v5 w5 hT5 hx5 hbk5
      obtain ⟨a5, c5, rfl⟩ := hT5.one
      have hown5 : ∀ k, (Value.slice av ts1.length cv).ownBlock = some k → wL.heap.size ≤ k ∧ k < w.heap.size := fun k hk => hT.own k hk
      have hbl5 := (hobl.e0 hxw).ext hx5 fun h => by have := hown5 bl h; have := hLlt bl (by simp [inL]); omega
      have hblL := hLlt bl (by simp [inL])
      have hsLw := hxL.size
      have hszx := hxw.size
      ((conv=>whnf);repeat((first|refine mvT ?_|refine mvF ?_|refine yT ?_|refine yF ?_);conv=>whnf))
      refine ⟨bl, 0, rfl, ⟨by omega, by omega⟩, ?_⟩
      ((conv=>whnf);repeat((first|refine mvT ?_|refine mvF ?_|refine yT ?_|refine yF ?_);conv=>whnf))
      refine st_cell (o := 8) (v := .slice a5 (ts1 ++ [T.mk 0 [] false [] []]).length c5) hbl5 rfl rfl rfl (by simp) rfl ?_
      intro w6 ho6 hx6
      ((conv=>whnf);repeat((first|refine mvT ?_|refine mvF ?_|refine yT ?_|refine yF ?_);conv=>whnf))
      have hT6 := hT5.ext hx6 (fun k _ h1 h2 => by omega)
      obtain ⟨g, cap, hv, hput⟩ := hT6.last
      injection hv with e1 e2 e3
      subst e1
      subst e3
      have htr6 : TrC w6 (fun k => wL.heap.size ≤ k ∧ (Value.slice (some ⟨g, 0, none⟩) (ts1 ++ [T.mk 0 [] false [] []]).length c5).ownBlock ≠ some k) [.int .i64 n', .slice none 0 0, .bool false, .slice none 0 0, .slice none 0 0] t' := by
        refine ((htrw.ext hx5 fun k _ h e => by have := hown5 k e; omega).ext hx6 fun k _ h e => by omega).mono fun k _ h => ⟨by omega, fun e => ?_⟩
        rcases hbk5 with e2 | ⟨q2, e2, hle⟩
        · have := hown5 k (e2 ▸ e); omega
        · rw [e, Option.some.injEq] at e2
          omega
      refine ⟨g, 0, rfl, ⟨by omega, by simp; omega⟩, ?_⟩
      ((conv=>whnf);repeat((first|refine mvT ?_|refine mvF ?_|refine yT ?_|refine yF ?_);conv=>whnf))
      rw [hwn]
      refine hput [.int .i64 n', .slice none 0 0, .bool false, .slice none 0 0, .slice none 0 0] t' _ _ _ rfl (by simp) htr6 ?_
      intro w7 hT7 hx7
      ((conv=>whnf);repeat((first|refine mvT ?_|refine mvF ?_|refine yT ?_|refine yF ?_);conv=>whnf))
      have hgL : wL.heap.size ≤ g := (hT6.own g rfl).1
      have hxL7 : Ext (fun k => k = bl ∨ wL.heap.size ≤ k) wL w7 := (((hxL.trans (hxw.mono (M' := nob) fun _ _ f => f) fun k hk f => f.elim).trans hx5 fun k hk h => by have := hown5 k h; omega).trans hx6 fun k hk h => .inl h).trans hx7 fun k hk h => by omega
      refine ⟨i + 1, ⟨rfl, inc_eq (by omega), rfl, rfl, rfl, trivial⟩, ⟨by omega, hxL7, _, ts1 ++ [t'], ho6.ext hx7 (by omega), hT7, by simp [htl1], ?_⟩, by omega⟩
      intro j x y hx hy
      rcases Nat.lt_or_ge j ts1.length with hj | hj
      · rw [List.getElem?_append_left hj] at hy
        exact hnr1 j x y hx hy
      · rw [List.getElem?_append_right hj] at hy
        obtain ⟨e, he⟩ : ∃ e, j - ts1.length = e := ⟨_, rfl⟩
        rw [he] at hy
        cases e with
        | zero =>
          have : j = i := by omega
          subst this
          simp only [List.getElem?_cons_zero, Option.some.injEq] at hy
          subst hy
          rw [List.getElem?_eq_getElem (by omega), Option.some.injEq] at hx
          subst hx
          exact hnr'
        | succ e => simp at hy
  · have hil : i = ls1.length := by have := of_decide_eq_false h9; omega
    have H := Sg.up (A := [_]) H hobl (hxL.mono fun k hk h => by rcases h with h | h; exact h; omega)
    have htl1 : ts1.length = l1.length := by omega
    have hnl : a1.isNone = nl1 := hnn1 rfl
    rw [hnl] at H
    have H := H.add (Q := fun w => TrC w (fun k => w0.heap.size ≤ k) [.int .i64 0, .slice none 0 0, .bool nl1, vl1, .slice none 0 0] (.mk 0 [] nl1 ts1 [])) fun w3 x => (hT.ext x fun k hk h1 h2 => by
      have h3 : k < wL.heap.size := hLlt k (by rcases inL3 h2 with h | h | h <;> subst h <;> simp [inL])
      omega).row fun k hk => by omega
    obtain ⟨P1, hP1⟩ : ∃ P : World → Prop, P = fun w => TrC w (fun k => w0.heap.size ≤ k) [.int .i64 0, .slice none 0 0, .bool nl1, vl1, .slice none 0 0] (.mk 0 [] nl1 ts1 []) ∧ P0 w := ⟨_, rfl⟩
    replace H : Sg w0 [(bt, Tt, [.int .i64 0, .slice none 0 0, .bool false, .slice (some ⟨bl, 0, none⟩) 2 2, .slice none 0 0]), (bl, Tl, [.int .i64 0, .slice (some ⟨bb0, 0, none⟩) s0.length cb0, .bool false, .slice none 0 0, .slice none 0 0, .int .i64 0, .slice none 0 0, .bool nl1, vl1, .slice none 0 0]), (b2, T2, [.int .i64 0, .slice none 0 0, .bool false, .slice none 0 0, .slice none 0 0])] P1 w := by rw [hP1]; exact H
    ((conv=>whnf);repeat((first|refine mvT ?_|refine mvF ?_|refine yT ?_|refine yF ?_);conv=>whnf))
    refine ⟨_, rfl, (Sg.at (A := []) H).cells, ?_⟩
    ((conv=>whnf);repeat((first|refine mvT ?_|refine mvF ?_|refine yT ?_|refine yF ?_);conv=>whnf))
    refine Sg.st (A := [_, _]) (o' := 0) (m := [.int .i64 0, .slice none 0 0, .bool false, .slice (some ⟨bl, 0, none⟩) 2 2, .slice none 0 0]) H rfl (Nat.le_of_ble_eq_true rfl) rfl ?_
    clear H
    intro w H
    ((conv=>whnf);repeat((first|refine mvT ?_|refine mvF ?_|refine yT ?_|refine yF ?_);conv=>whnf))
    refine ⟨_, rfl, (Sg.at (A := [_, _]) H).cells, ?_⟩
    have hP := H.now
    rw [hP1, hP0] at hP
    have hbl := Sg.at (A := [_]) H
    refine ⟨.mk 0 [] false [.mk 0 s0 false [] [], .mk 0 [] nl1 ts1 []] [], ?_, ⟨_, rfl, .mk 0 [] false [.mk 0 s0 false [] [], .mk 0 [] nl1 ts1 []] [] _ _ _ [[.int .i64 0, .slice (some ⟨bb0, 0, none⟩) s0.length cb0, .bool false, .slice none 0 0, .slice none 0 0], [.int .i64 0, .slice none 0 0, .bool nl1, vl1, .slice none 0 0]] rfl (Bytes.nil _ _) (rows_sl hbl (by simp) rfl (by rw [maxLen_eq]; decide) hblw) rfl ?_ (TgsR.nil _ _)⟩, H.ext⟩
    · refine .mk _ _ _ _ _ _ _ rfl ?_ (List.Perm.refl _) List.Pairwise.nil
      intro i x y hx hy
      match i, hx, hy with
      | 0, hx, hy => simp only [List.getElem?_cons_succ, List.getElem?_cons_zero, Option.some.injEq] at hx hy; subst hx; subst hy; exact Nrm.leaf _ _ _
      | 1, hx, hy => simp only [List.getElem?_cons_succ, List.getElem?_cons_zero, Option.some.injEq] at hx hy; subst hx; subst hy; exact .mk _ _ _ _ _ _ _ htl1 hnr1 (List.Perm.refl _) List.Pairwise.nil
    · intro i x y hx hy
      match i, hx, hy with
      | 0, hx, hy => simp only [List.getElem?_cons_succ, List.getElem?_cons_zero, Option.some.injEq] at hx hy; subst hx; subst hy; exact hP.2.1
      | 1, hx, hy => simp only [List.getElem?_cons_succ, List.getElem?_cons_zero, Option.some.injEq] at hx hy; subst hx; subst hy; exact hP.1
theorem tellConsumerMemberAssignment {w0 : World} {F : Nat → Prop} {q o : Nat} {cv0 : Value} {cs : List Value} {t : T} (hq : Cells w0 q o (cv0 :: cs)) (hQ : QPart false 9 dConsumerMemberAssignment ⟨w0, F⟩ cs t) (hlim : LimT t) :
    Does X.P 12 #[.pointer (some ⟨q, o, none⟩)] w0 fun r w' => ∃ t', Nrm t t' ∧ Tr w' (fun k => w0.heap.size ≤ k) r t' ∧ Ext nob w0 w' := by
  obtain ⟨_, rfl, hA0⟩ := iPf hQ
  clear hQ
  obtain ⟨cc0, _, x0, _, rfl, rfl, h0, hA1⟩ := iA hA0
  obtain ⟨c0, nl0, l0, rfl, hnl0, rfl, hc0⟩ : ∃ c nl l, cc0 = [c] ∧ (nl = true → l = []) ∧ x0 = .mk 0 [] nl l [] ∧ ListR true (elZ false 8 10 dConsumerMemberAssignmentTopic) (elQ false 8 10 dConsumerMemberAssignmentTopic ⟨w0, F⟩) w0 F c x0 := h0
  obtain ⟨cc1, _, x1, _, rfl, rfl, h1, hA2⟩ := iA hA1
  obtain ⟨c1, nl1, s1, rfl, hnl1, rfl, hc1⟩ : ∃ c nl u, cc1 = [c] ∧ (nl = true → u = []) ∧ x1 = .mk 0 u nl [] [] ∧ OctR true w0 F c x1 := h1
  obtain ⟨rfl, rfl⟩ := hA2
  cases hlim
  rename_i hU hKU hDU hLs hu0 hs0 hd0
  have hq : Cells w0 q o [cv0, c0, c1] := hq
  obtain ⟨a0, k0, ls0, rfl, hk0, hll0, hnn0, hcl0, hrl0⟩ := hc0.view
  refine Does.go (X := X) (l := [_]) Tryd.func12 rfl (by kernel_rfl) (by kernel_rfl) _ rfl ?_
  ((conv=>whnf);repeat((first|refine mvT ?_|refine mvF ?_|refine yT ?_|refine yF ?_);conv=>whnf))
  intro b2 w1 hb2 ho2 hx1
  ((conv=>whnf);repeat((first|refine mvT ?_|refine mvF ?_|refine yT ?_|refine yF ?_);conv=>whnf))
  refine ⟨⟨by decide, by decide, by decide, by decide⟩, ⟨by decide, rfl⟩, ?_⟩
  intro bl w2 hbl hol hx2
  ((conv=>whnf);repeat((first|refine mvT ?_|refine mvF ?_|refine yT ?_|refine yF ?_);conv=>whnf))
  intro bt w3 hbt hot hx3
  ((conv=>whnf);repeat((first|refine mvT ?_|refine mvF ?_|refine yT ?_|refine yF ?_);conv=>whnf))
  have hzz : w0.heap.size ≤ w1.heap.size := hx1.size
  have H := (((Sg.start w0).push hx1 ho2 hb2).push hx2 hol hbl).push hx3 hot hbt
  refine Sg.st (A := []) (o' := 0) (m := [.int .i64 0, .slice none 0 0, .bool false, .slice (some ⟨bl, 0, none⟩) 2 2, .slice none 0 0]) H rfl (Nat.le_of_ble_eq_true rfl) rfl ?_
  clear H hot hol ho2 hx1 hx2 hx3
  intro w H
  obtain ⟨Tt, Tl, T2, H⟩ : ∃ Tt Tl T2, Sg w0 [(bt, Tt, [.int .i64 0, .slice none 0 0, .bool false, .slice (some ⟨bl, 0, none⟩) 2 2, .slice none 0 0]), (bl, Tl, [.int .i64 0, .slice none 0 0, .bool false, .slice none 0 0, .slice none 0 0, .int .i64 0, .slice none 0 0, .bool false, .slice none 0 0, .slice none 0 0]), (b2, T2, [.int .i64 0, .slice none 0 0, .bool false, .slice none 0 0, .slice none 0 0])] (fun _ => True) w := ⟨_, _, _, H⟩
  have hb2w : w0.heap.size ≤ b2 := hb2
  have hblw : w0.heap.size ≤ bl := by omega
  have hbtw : w0.heap.size ≤ bt := by have := H.dis.1; exact this
  ((conv=>whnf);repeat((first|refine mvT ?_|refine mvF ?_|refine yT ?_|refine yF ?_);conv=>whnf))
  refine VD.draw mixed (.q 0 (.q 1 (.q 2 (.q 3 (.q 4 (.q 5 (.q 6 (.q 7 (.q 8 (.eff 9 [] (.done))))))))))) (by kernel_rfl) ?_;((conv=>whnf);repeat((first|refine mvT ?_|refine mvF ?_|refine yT ?_|refine yF ?_);conv=>whnf))
  replace H := H.e0 (ext_drew _)
  refine ldS ((Sg.at (A := []) H).cell rfl) ?_;((conv=>whnf);repeat((first|refine mvT ?_|refine mvF ?_|refine yT ?_|refine yF ?_);conv=>whnf))
  refine ⟨_, ld ((hq.e0 H.ext).cell (j := 1) rfl) (by simp), ?_⟩
  ((conv=>whnf);repeat((first|refine mvT ?_|refine mvF ?_|refine yT ?_|refine yF ?_);conv=>whnf))
  refine ⟨bl, 0, rfl, ⟨by omega, by omega⟩, ?_⟩
  ((conv=>whnf);repeat((first|refine mvT ?_|refine mvF ?_|refine yT ?_|refine yF ?_);conv=>whnf))
  refine Sg.st (A := [_]) (o' := 2) (m := [.bool a0.isNone]) H rfl (Nat.le_of_ble_eq_true rfl) (rfl) ?_
  clear H
  intro w H
  replace H : Sg w0 [(bt, Tt, [.int .i64 0, .slice none 0 0, .bool false, .slice (some ⟨bl, 0, none⟩) 2 2, .slice none 0 0]), (bl, Tl, [.int .i64 0, .slice none 0 0, .bool a0.isNone, .slice none 0 0, .slice none 0 0, .int .i64 0, .slice none 0 0, .bool false, .slice none 0 0, .slice none 0 0]), (b2, T2, [.int .i64 0, .slice none 0 0, .bool false, .slice none 0 0, .slice none 0 0])] (fun _ => True) w := H
  ((conv=>whnf);repeat((first|refine mvT ?_|refine mvF ?_|refine yT ?_|refine yF ?_);conv=>whnf))
  refine ⟨_, ld ((hq.e0 H.ext).cell (j := 1) rfl) (by simp), ?_⟩
  ((conv=>whnf);repeat((first|refine mvT ?_|refine mvF ?_|refine yT ?_|refine yF ?_);conv=>whnf))
  have hlsT : lsT (.mk 0 [] nl0 l0 []) = l0 := by
    show (if nl0 = true then [] else l0) = l0
    split
    · rename_i e
      exact (hnl0 e).symm
    · rfl
  rw [hlsT] at hll0 hrl0
  obtain ⟨wL, hwL⟩ : ∃ wL, wL = w := ⟨_, rfl⟩
  rw [← hwL] at H ⊢
  have hLlt := H.own.lt
  have hLl : l0.length ≤ 1000000 ∧ ∀ x, x ∈ l0 → LimT x := by
    have := hLs (.mk 0 [] nl0 l0 []) (by simp)
    cases this
    exact ⟨by assumption, by assumption⟩
  have hs0L := H.ext.size
  refine VL.loop (fun i : Nat => [(20, .int .i64 ls0.length), (21, .int .i64 i), (0, .pointer (some ⟨q, o, none⟩)), (2, .pointer (some ⟨b2, 0, none⟩)), (3, .pointer (some ⟨bt, 0, none⟩))])
    (fun i w' => i ≤ ls0.length ∧ Ext (fun k => k = bl ∨ wL.heap.size ≤ k) wL w' ∧ ∃ vl ts, Own w' bl Tl [.int .i64 0, .slice none 0 0, .bool a0.isNone, vl, .slice none 0 0, .int .i64 0, .slice none 0 0, .bool false, .slice none 0 0, .slice none 0 0] ∧ OLn w' wL.heap.size vl ts ∧ ts.length = i ∧ ∀ (j : Nat) (x y : T), l0[j]? = some x → ts[j]? = some y → Nrm x y) (fun i => ls0.length - i) 0
    ⟨rfl, rfl, rfl, rfl, rfl, trivial⟩ ⟨Nat.zero_le _, Ext.refl _ _, _, [], Sg.at (A := [_]) H, OLn.nil _ _, rfl, by simp⟩ ?_
  rintro i w ⟨hi, hxL, vl0, ts0, hobl, hT, htl0, hnr0⟩
  ((conv=>whnf);repeat((first|refine mvT ?_|refine mvF ?_|refine yT ?_|refine yF ?_);conv=>whnf))
  refine cI (by rfl) (fun h9=>?_) (fun h9=>?_)
  · have hil : i < ls0.length := by have := of_decide_eq_true h9; omega
    obtain ⟨be, oe, rfl, hFe, hbe, hce⟩ := hcl0 i ls0[i] (by simp [hil])
    have hqe := hrl0 i ls0[i] l0[i] (by simp [hil]) (by simp)
    have hlime := hLl.2 l0[i] (List.getElem_mem _)
    have hx0 : Ext nob w0 w := H.ext.trans hxL fun k hk h => by
      rcases h with h | h
      · omega
      · omega
    have hobt : Own w bt Tt [.int .i64 0, .slice none 0 0, .bool false, .slice (some ⟨bl, 0, none⟩) 2 2, .slice none 0 0] := (Sg.at (A := []) H).ext hxL fun h => by
      have := hLlt bt (by simp [inL])
      have h2 := (H.dis.2.1 : ¬ inL _ bt)
      rcases h with h | h
      · exact h2 (by rw [h]; simp [inL])
      · omega
    obtain ⟨av, cv, rfl⟩ := hT.one
    ((conv=>whnf);repeat((first|refine mvT ?_|refine mvF ?_|refine yT ?_|refine yF ?_);conv=>whnf))
    refine VD.draw mixed (.eff 0 [] (.alt (.eff 1 [] (.eff 2 [] (.q 3 (.done)))) (.eff 2 [] (.eff 1 [] (.q 3 (.done)))))) (by kernel_rfl) ?_;((conv=>whnf);repeat((first|refine mvT ?_|refine mvF ?_|refine yT ?_|refine yF ?_);conv=>whnf))
    intro bb wb hbb hob hxb
    have hxb : Ext nob w wb := (ext_drew w).e0 hxb
    have hbb : w.heap.size ≤ bb := hbb
    ((conv=>whnf);repeat((first|refine mvT ?_|refine mvF ?_|refine yT ?_|refine yF ?_);conv=>whnf))
    constructor
    · conv => whnf
      refine st_all [.bool true] hob rfl rfl rfl ?_
      intro wc hoc hxc
      conv => whnf
      refine st_all [.bool false] hoc rfl rfl rfl ?_
      intro wd hod hxd
      ((conv=>whnf);repeat((first|refine mvT ?_|refine mvF ?_|refine yT ?_|refine yF ?_);conv=>whnf))
      refine ldS (hod.cell rfl) ?_;((conv=>whnf);repeat((first|refine mvT ?_|refine mvF ?_|refine yT ?_|refine yF ?_);conv=>whnf))
      have hxw : Ext nob w wd := (hxb.st hxc hbb).st hxd hbb
      refine VD.draw mixed (.q 0 (.q 1 (.q 2 (.q 3 (.q 4 (.q 5 (.q 6 (.q 7 (.q 8 (.q 9 (.q 10 (.q 11 (.q 12 (.eff 13 [1, 3, 6] (.eff 14 [1, 3, 6] (.eff 15 [1] (.q 16 (.q 17 (.eff 18 [] (.done)))))))))))))))))))) (by kernel_rfl) ?_;((conv=>whnf);repeat((first|refine mvT ?_|refine mvF ?_|refine yT ?_|refine yF ?_);conv=>whnf))
      have hxw := hxw.e0 (ext_drew _)
      have hszd := hxw.size
      refine ldS ((hobt.e0 hxw).cell rfl) ?_;((conv=>whnf);repeat((first|refine mvT ?_|refine mvF ?_|refine yT ?_|refine yF ?_);conv=>whnf))
      refine ldS ((hobt.e0 hxw).cell rfl) ?_;((conv=>whnf);repeat((first|refine mvT ?_|refine mvF ?_|refine yT ?_|refine yF ?_);conv=>whnf))
      refine ⟨bl, 0, rfl, ⟨by omega, by omega⟩, ?_⟩
      ((conv=>whnf);repeat((first|refine mvT ?_|refine mvF ?_|refine yT ?_|refine yF ?_);conv=>whnf))
      refine ldS ((hobl.e0 hxw).cell rfl) ?_;((conv=>whnf);repeat((first|refine mvT ?_|refine mvF ?_|refine yT ?_|refine yF ?_);conv=>whnf))
      refine ⟨_, ld ((hq.e0 (hx0.e0 hxw)).cell (j := 1) rfl) (by simp), ?_⟩
      ((conv=>whnf);repeat((first|refine mvT ?_|refine mvF ?_|refine yT ?_|refine yF ?_);conv=>whnf))
      refine ⟨be, oe, rfl, ⟨by omega, by omega⟩, ?_⟩
      ((conv=>whnf);repeat((first|refine mvT ?_|refine mvF ?_|refine yT ?_|refine yF ?_);conv=>whnf))
      refine Does.mono (tellConsumerMemberAssignmentTopic (F := F) (hce.e0 (hx0.e0 hxw)) (QPart_later false 8 _ _ _ w0 _ F F nob hqe (hx0.e0 hxw) fun k _ hf => ⟨fun f => f, hf⟩) hlime) ?_
      rintro r wt ⟨t', hnr', ⟨cr, rfl, htr⟩, hxt⟩
      have hszt := hxw.size
      have hxw := hxw.e0 hxt
      obtain ⟨n', sv', nl', lv', uv', rfl⟩ : ∃ n sv nl lv uv, cr = [.int .i64 n, sv, .bool nl, lv, uv] := by cases htr; exact ⟨_, _, _, _, _, rfl⟩
      refine ⟨by (conv => whnf); exact ⟨⟨_, (hobt.e0 hxw).cell rfl, rfl, rfl⟩, ⟨_, (hobt.e0 hxw).cell rfl, rfl, rfl⟩, ⟨_, (hobl.e0 hxw).cell rfl, rfl, rfl⟩, trivial⟩, ?_⟩
      conv => whnf
      intro bs ws hbs hos hxs
      have hos : Own ws bs TT [.int .i64 n', sv', .bool nl', lv', uv'] := hos
      have hxw := hxw.e0 hxs
      refine ⟨by (conv => whnf); exact ⟨⟨_, (hobt.e0 hxw).cell rfl, rfl, rfl⟩, ⟨_, (hobt.e0 hxw).cell rfl, rfl, rfl⟩, ⟨_, (hobl.e0 hxw).cell rfl, rfl, rfl⟩, trivial⟩, ?_⟩
      conv => whnf
      have hsLw := hxL.size
      refine OLn.app (x := t') (hT.ext hxw fun _ _ _ f => f) rfl hos rfl rfl (by omega) (by decide) (by have := hxw.size; omega) ((htr.ext hxs fun _ _ _ f => f).mono fun k _ hk => ⟨by omega, fun e => by have := hT.own k e; omega⟩) ?_
      intro v5 w5 hT5 hx5 _
      obtain ⟨a5, c5, rfl⟩ := hT5.one
      have hown5 : ∀ k, (Value.slice av ts0.length cv).ownBlock = some k → wL.heap.size ≤ k := fun k hk => (hT.own k hk).1
      have hbt5 := (hobt.e0 hxw).ext hx5 fun h => by have := hown5 bt h; have := hLlt bt (by simp [inL]); omega
      have hbl5 := (hobl.e0 hxw).ext hx5 fun h => by have := hown5 bl h; have := hLlt bl (by simp [inL]); omega
      refine ⟨by (conv => whnf); exact ⟨⟨_, hbt5.cell rfl, rfl, rfl⟩, trivial⟩, ?_⟩
      conv => whnf
      refine ⟨bl, 0, rfl, ⟨by omega, by omega⟩, ?_⟩
      ((conv=>whnf);repeat((first|refine mvT ?_|refine mvF ?_|refine yT ?_|refine yF ?_);conv=>whnf))
      refine st_cell (o := 3) (v := .slice a5 (ts0 ++ [t']).length c5) hbl5 rfl rfl rfl (by simp) rfl ?_
      intro w6 ho6 hx6
      ((conv=>whnf);repeat((first|refine mvT ?_|refine mvF ?_|refine yT ?_|refine yF ?_);conv=>whnf))
      have hxL6 : Ext (fun k => k = bl ∨ wL.heap.size ≤ k) wL w6 := ((hxL.trans (hxw.mono (M' := nob) fun _ _ f => f) fun k hk f => f.elim).trans hx5 fun k hk h => by have := hown5 k h; omega).trans hx6 fun k hk h => .inl h
      refine ⟨i + 1, ⟨rfl, inc_eq (by omega), rfl, rfl, rfl, trivial⟩, ⟨by omega, hxL6, _, ts0 ++ [t'], ho6, hT5.ext hx6 (fun k _ h1 h2 => by have := hLlt bl (by simp [inL]); omega), by simp [htl0], ?_⟩, by omega⟩
      intro j x y hx hy
      rcases Nat.lt_or_ge j ts0.length with hj | hj
      · rw [List.getElem?_append_left hj] at hy
        exact hnr0 j x y hx hy
      · rw [List.getElem?_append_right hj] at hy
        obtain ⟨e, he⟩ : ∃ e, j - ts0.length = e := ⟨_, rfl⟩
        rw [he] at hy
        cases e with
        | zero =>
          have : j = i := by omega
          subst this
          simp only [List.getElem?_cons_zero, Option.some.injEq] at hy
          subst hy
          rw [List.getElem?_eq_getElem (by omega), Option.some.injEq] at hx
          subst hx
          exact hnr'
        | succ e => simp at hy
    · conv => whnf
      refine st_all [.bool false] hob rfl rfl rfl ?_
      intro wc hoc hxc
      conv => whnf
      refine st_all [.bool true] hoc rfl rfl rfl ?_
      intro wd hod hxd
      ((conv=>whnf);repeat((first|refine mvT ?_|refine mvF ?_|refine yT ?_|refine yF ?_);conv=>whnf))
      refine ldS (hod.cell rfl) ?_;((conv=>whnf);repeat((first|refine mvT ?_|refine mvF ?_|refine yT ?_|refine yF ?_);conv=>whnf))
      have hxw : Ext nob w wd := (hxb.st hxc hbb).st hxd hbb
      refine VD.draw mixed (.q 0 (.q 1 (.q 2 (.q 3 (.q 4 (.q 5 (.q 6 (.q 7 (.q 8 (.q 9 (.q 10 (.q 12 (.alt (.eff 11 [1, 4] (.eff 13 [1, 4, 8] (.eff 14 [] (.q 15 (.q 16 (.eff 17 [] (.done))))))) (.eff 13 [1, 4, 8] (.eff 11 [1, 4] (.eff 14 [] (.q 15 (.q 16 (.eff 17 [] (.done)))))))))))))))))))) (by kernel_rfl) ?_;((conv=>whnf);repeat((first|refine mvT ?_|refine mvF ?_|refine yT ?_|refine yF ?_);conv=>whnf))
      have hxw := hxw.e0 (ext_drew _)
      have hszd := hxw.size
      refine ldS ((hobt.e0 hxw).cell rfl) ?_;((conv=>whnf);repeat((first|refine mvT ?_|refine mvF ?_|refine yT ?_|refine yF ?_);conv=>whnf))
      refine ⟨bl, 0, rfl, ⟨by omega, by omega⟩, ?_⟩
      ((conv=>whnf);repeat((first|refine mvT ?_|refine mvF ?_|refine yT ?_|refine yF ?_);conv=>whnf))
      refine ldS ((hobl.e0 hxw).cell rfl) ?_;((conv=>whnf);repeat((first|refine mvT ?_|refine mvF ?_|refine yT ?_|refine yF ?_);conv=>whnf))
      refine ⟨_, ld ((hq.e0 (hx0.e0 hxw)).cell (j := 1) rfl) (by simp), ?_⟩
      ((conv=>whnf);repeat((first|refine mvT ?_|refine mvF ?_|refine yT ?_|refine yF ?_);conv=>whnf))
      refine ⟨be, oe, rfl, ⟨by omega, by omega⟩, ?_⟩
      ((conv=>whnf);repeat((first|refine mvT ?_|refine mvF ?_|refine yT ?_|refine yF ?_);conv=>whnf))
      constructor
      · conv => whnf
        refine Does.mono (tellConsumerMemberAssignmentTopic (F := F) (hce.e0 (hx0.e0 hxw)) (QPart_later false 8 _ _ _ w0 _ F F nob hqe (hx0.e0 hxw) fun k _ hf => ⟨fun f => f, hf⟩) hlime) ?_
        rintro r wt ⟨t', hnr', ⟨cr, rfl, htr⟩, hxt⟩
        have hszt := hxw.size
        have hxw := hxw.e0 hxt
        obtain ⟨n', sv', nl', lv', uv', rfl⟩ : ∃ n sv nl lv uv, cr = [.int .i64 n, sv, .bool nl, lv, uv] := by cases htr; exact ⟨_, _, _, _, _, rfl⟩
        refine ⟨by (conv => whnf); exact ⟨⟨_, (hobt.e0 hxw).cell rfl, rfl, rfl⟩, ⟨_, (hobl.e0 hxw).cell rfl, rfl, rfl⟩, trivial⟩, ?_⟩
        conv => whnf
        intro bs ws hbs hos hxs
        have hos : Own ws bs TT [.int .i64 0, .slice none 0 0, .bool false, .slice none 0 0, .slice none 0 0] := hos
        have hxw := hxw.e0 hxs
        refine ⟨by (conv => whnf); exact ⟨⟨_, (hobt.e0 hxw).cell rfl, rfl, rfl⟩, ⟨_, (hobl.e0 hxw).cell rfl, rfl, rfl⟩, ⟨_, (hq.e0 (hx0.e0 hxw)).cell (j := 1) rfl, rfl, rfl⟩, trivial⟩, ?_⟩
        have htrw : TrC ws (fun k => w.heap.size ≤ k ∧ k < ws.heap.size) [.int .i64 n', sv', .bool nl', lv', uv'] t' := ((htr.mono (F' := fun k => w.heap.size ≤ k ∧ k < wt.heap.size) fun k hk h => ⟨by omega, hk⟩).ext hxs fun _ _ _ f => f).mono fun k hk h => ⟨h.1, hk⟩
        conv => whnf
        refine OLn.app (x := .mk 0 [] false [] []) (hT.ext hxw fun _ _ _ f => f) rfl hos rfl rfl (by omega) (by decide) (by have := hxw.size; have := hxL.size; omega) (TrC.leaf rfl (Bytes.nil _ _)) ?_
        intro v5 w5 hT5 hx5 hbk5
        obtain ⟨a5, c5, rfl⟩ := hT5.one
        have hown5 : ∀ k, (Value.slice av ts0.length cv).ownBlock = some k → wL.heap.size ≤ k ∧ k < w.heap.size := fun k hk => hT.own k hk
        have hbl5 := (hobl.e0 hxw).ext hx5 fun h => by have := hown5 bl h; have := hLlt bl (by simp [inL]); omega
        have hblL := hLlt bl (by simp [inL])
        have hsLw := hxL.size
        have hszx := hxw.size
        ((conv=>whnf);repeat((first|refine mvT ?_|refine mvF ?_|refine yT ?_|refine yF ?_);conv=>whnf))
        refine ⟨bl, 0, rfl, ⟨by omega, by omega⟩, ?_⟩
        ((conv=>whnf);repeat((first|refine mvT ?_|refine mvF ?_|refine yT ?_|refine yF ?_);conv=>whnf))
        refine st_cell (o := 3) (v := .slice a5 (ts0 ++ [T.mk 0 [] false [] []]).length c5) hbl5 rfl rfl rfl (by simp) rfl ?_
        intro w6 ho6 hx6
        ((conv=>whnf);repeat((first|refine mvT ?_|refine mvF ?_|refine yT ?_|refine yF ?_);conv=>whnf))
        have hT6 := hT5.ext hx6 (fun k _ h1 h2 => by omega)
        obtain ⟨g, cap, hv, hput⟩ := hT6.last
        injection hv with e1 e2 e3
        subst e1
        subst e3
        have htr6 : TrC w6 (fun k => wL.heap.size ≤ k ∧ (Value.slice (some ⟨g, 0, none⟩) (ts0 ++ [T.mk 0 [] false [] []]).length c5).ownBlock ≠ some k) [.int .i64 n', sv', .bool nl', lv', uv'] t' := by
          refine ((htrw.ext hx5 fun k _ h e => by have := hown5 k e; omega).ext hx6 fun k _ h e => by omega).mono fun k _ h => ⟨by omega, fun e => ?_⟩
          rcases hbk5 with e2 | ⟨q2, e2, hle⟩
          · have := hown5 k (e2 ▸ e); omega
          · rw [e, Option.some.injEq] at e2
            omega
        refine ⟨g, 0, rfl, ⟨by omega, by simp; omega⟩, ?_⟩
        ((conv=>whnf);repeat((first|refine mvT ?_|refine mvF ?_|refine yT ?_|refine yF ?_);conv=>whnf))
        refine hput [.int .i64 n', sv', .bool nl', lv', uv'] t' _ _ _ rfl (by simp) htr6 ?_
        intro w7 hT7 hx7
        ((conv=>whnf);repeat((first|refine mvT ?_|refine mvF ?_|refine yT ?_|refine yF ?_);conv=>whnf))
        have hgL : wL.heap.size ≤ g := (hT6.own g rfl).1
        have hxL7 : Ext (fun k => k = bl ∨ wL.heap.size ≤ k) wL w7 := (((hxL.trans (hxw.mono (M' := nob) fun _ _ f => f) fun k hk f => f.elim).trans hx5 fun k hk h => by have := hown5 k h; omega).trans hx6 fun k hk h => .inl h).trans hx7 fun k hk h => by omega
        refine ⟨i + 1, ⟨rfl, inc_eq (by omega), rfl, rfl, rfl, trivial⟩, ⟨by omega, hxL7, _, ts0 ++ [t'], ho6.ext hx7 (by omega), hT7, by simp [htl0], ?_⟩, by omega⟩
        intro j x y hx hy
        rcases Nat.lt_or_ge j ts0.length with hj | hj
        · rw [List.getElem?_append_left hj] at hy
          exact hnr0 j x y hx hy
        · rw [List.getElem?_append_right hj] at hy
          obtain ⟨e, he⟩ : ∃ e, j - ts0.length = e := ⟨_, rfl⟩
          rw [he] at hy
          cases e with
          | zero =>
            have : j = i := by omega
            subst this
            simp only [List.getElem?_cons_zero, Option.some.injEq] at hy
            subst hy
            rw [List.getElem?_eq_getElem (by omega), Option.some.injEq] at hx
            subst hx
            exact hnr'
          | succ e => simp at hy
      · conv => whnf
        intro bs ws hbs hos hxs
        have hos : Own ws bs TT [.int .i64 0, .slice none 0 0, .bool false, .slice none 0 0, .slice none 0 0] := hos
        have hxw := hxw.e0 hxs
        refine ⟨by (conv => whnf); exact ⟨⟨_, (hobt.e0 hxw).cell rfl, rfl, rfl⟩, ⟨_, (hobl.e0 hxw).cell rfl, rfl, rfl⟩, ⟨_, (hq.e0 (hx0.e0 hxw)).cell (j := 1) rfl, rfl, rfl⟩, trivial⟩, ?_⟩
        conv => whnf
        refine Does.mono (tellConsumerMemberAssignmentTopic (F := F) (hce.e0 (hx0.e0 hxw)) (QPart_later false 8 _ _ _ w0 _ F F nob hqe (hx0.e0 hxw) fun k _ hf => ⟨fun f => f, hf⟩) hlime) ?_
        rintro r wt ⟨t', hnr', ⟨cr, rfl, htr⟩, hxt⟩
        have hszt := hxw.size
        have hxw := hxw.e0 hxt
        obtain ⟨n', sv', nl', lv', uv', rfl⟩ : ∃ n sv nl lv uv, cr = [.int .i64 n, sv, .bool nl, lv, uv] := by cases htr; exact ⟨_, _, _, _, _, rfl⟩
        refine ⟨by (conv => whnf); exact ⟨⟨_, (hobt.e0 hxw).cell rfl, rfl, rfl⟩, ⟨_, (hobl.e0 hxw).cell rfl, rfl, rfl⟩, trivial⟩, ?_⟩
        have hos := hos.e0 hxt
        have htrw : TrC wt (fun k => w.heap.size ≤ k ∧ k < wt.heap.size) [.int .i64 n', sv', .bool nl', lv', uv'] t' := htr.mono fun k hk h => ⟨by omega, hk⟩
        conv => whnf
        refine OLn.app (x := .mk 0 [] false [] []) (hT.ext hxw fun _ _ _ f => f) rfl hos rfl rfl (by omega) (by decide) (by have := hxw.size; have := hxL.size; omega) (TrC.leaf rfl (Bytes.nil _ _)) ?_
        intro v5 w5 hT5 hx5 hbk5
        obtain ⟨a5, c5, rfl⟩ := hT5.one
        have hown5 : ∀ k, (Value.slice av ts0.length cv).ownBlock = some k → wL.heap.size ≤ k ∧ k < w.heap.size := fun k hk => hT.own k hk
        have hbl5 := (hobl.e0 hxw).ext hx5 fun h => by have := hown5 bl h; have := hLlt bl (by simp [inL]); omega
        have hblL := hLlt bl (by simp [inL])
        have hsLw := hxL.size
        have hszx := hxw.size
        ((conv=>whnf);repeat((first|refine mvT ?_|refine mvF ?_|refine yT ?_|refine yF ?_);conv=>whnf))
        refine ⟨bl, 0, rfl, ⟨by omega, by omega⟩, ?_⟩
        ((conv=>whnf);repeat((first|refine mvT ?_|refine mvF ?_|refine yT ?_|refine yF ?_);conv=>whnf))
        refine st_cell (o := 3) (v := .slice a5 (ts0 ++ [T.mk 0 [] false [] []]).length c5) hbl5 rfl rfl rfl (by simp) rfl ?_
        intro w6 ho6 hx6
        ((conv=>whnf);repeat((first|refine mvT ?_|refine mvF ?_|refine yT ?_|refine yF ?_);conv=>whnf))
        have hT6 := hT5.ext hx6 (fun k _ h1 h2 => by omega)
        obtain ⟨g, cap, hv, hput⟩ := hT6.last
        injection hv with e1 e2 e3
        subst e1
        subst e3
        have htr6 : TrC w6 (fun k => wL.heap.size ≤ k ∧ (Value.slice (some ⟨g, 0, none⟩) (ts0 ++ [T.mk 0 [] false [] []]).length c5).ownBlock ≠ some k) [.int .i64 n', sv', .bool nl', lv', uv'] t' := by
          refine ((htrw.ext hx5 fun k _ h e => by have := hown5 k e; omega).ext hx6 fun k _ h e => by omega).mono fun k _ h => ⟨by omega, fun e => ?_⟩
          rcases hbk5 with e2 | ⟨q2, e2, hle⟩
          · have := hown5 k (e2 ▸ e); omega
          · rw [e, Option.some.injEq] at e2
            omega
        refine ⟨g, 0, rfl, ⟨by omega, by simp; omega⟩, ?_⟩
        ((conv=>whnf);repeat((first|refine mvT ?_|refine mvF ?_|refine yT ?_|refine yF ?_);conv=>whnf))
        refine hput [.int .i64 n', sv', .bool nl', lv', uv'] t' _ _ _ rfl (by simp) htr6 ?_
        intro w7 hT7 hx7
        ((conv=>whnf);repeat((first|refine mvT ?_|refine mvF ?_|refine yT ?_|refine yF ?_);conv=>whnf))
        have hgL : wL.heap.size ≤ g := (hT6.own g rfl).1
        have hxL7 : Ext (fun k => k = bl ∨ wL.heap.size ≤ k) wL w7 := (((hxL.trans (hxw.mono (M' := nob) fun _ _ f => f) fun k hk f => f.elim).trans hx5 fun k hk h => by have := hown5 k h; omega).trans hx6 fun k hk h => .inl h).trans hx7 fun k hk h => by omega
        refine ⟨i + 1, ⟨rfl, inc_eq (by omega), rfl, rfl, rfl, trivial⟩, ⟨by omega, hxL7, _, ts0 ++ [t'], ho6.ext hx7 (by omega), hT7, by simp [htl0], ?_⟩, by omega⟩
        intro j x y hx hy
        rcases Nat.lt_or_ge j ts0.length with hj | hj
        · rw [List.getElem?_append_left hj] at hy
          exact hnr0 j x y hx hy
        · rw [List.getElem?_append_right hj] at hy
          obtain ⟨e, he⟩ : ∃ e, j - ts0.length = e := ⟨_, rfl⟩
          rw [he] at hy
          cases e with
          | zero =>
            have : j = i := by omega
            subst this
            simp only [List.getElem?_cons_zero, Option.some.injEq] at hy
            subst hy
            rw [List.getElem?_eq_getElem (by omega), Option.some.injEq] at hx
            subst hx
            exact hnr'
          | succ e => simp at hy
  · have hil : i = ls0.length := by have := of_decide_eq_false h9; omega
    have H := Sg.up (A := [_]) H hobl (hxL.mono fun k hk h => by rcases h with h | h; exact h; omega)
    have htl0 : ts0.length = l0.length := by omega
    have hnl : a0.isNone = nl0 := hnn0 rfl
    rw [hnl] at H
    have H := H.add (Q := fun w => TrC w (fun k => w0.heap.size ≤ k) [.int .i64 0, .slice none 0 0, .bool nl0, vl0, .slice none 0 0] (.mk 0 [] nl0 ts0 [])) fun w3 x => (hT.ext x fun k hk h1 h2 => by
      have h3 : k < wL.heap.size := hLlt k (by rcases inL3 h2 with h | h | h <;> subst h <;> simp [inL])
      omega).row fun k hk => by omega
    obtain ⟨P0, hP0⟩ : ∃ P : World → Prop, P = fun w => TrC w (fun k => w0.heap.size ≤ k) [.int .i64 0, .slice none 0 0, .bool nl0, vl0, .slice none 0 0] (.mk 0 [] nl0 ts0 []) ∧ True := ⟨_, rfl⟩
    replace H : Sg w0 [(bt, Tt, [.int .i64 0, .slice none 0 0, .bool false, .slice (some ⟨bl, 0, none⟩) 2 2, .slice none 0 0]), (bl, Tl, [.int .i64 0, .slice none 0 0, .bool nl0, vl0, .slice none 0 0, .int .i64 0, .slice none 0 0, .bool false, .slice none 0 0, .slice none 0 0]), (b2, T2, [.int .i64 0, .slice none 0 0, .bool false, .slice none 0 0, .slice none 0 0])] P0 w := by rw [hP0]; exact H
    ((conv=>whnf);repeat((first|refine mvT ?_|refine mvF ?_|refine yT ?_|refine yF ?_);conv=>whnf))
    refine VD.draw mixed (.q 0 (.q 1 (.q 2 (.q 3 (.q 4 (.q 5 (.eff 6 [1] (.q 7 (.eff 8 [] (.done)))))))))) (by kernel_rfl) ?_;((conv=>whnf);repeat((first|refine mvT ?_|refine mvF ?_|refine yT ?_|refine yF ?_);conv=>whnf))
    replace H := H.e0 (ext_drew _)
    refine ldS ((Sg.at (A := []) H).cell rfl) ?_;((conv=>whnf);repeat((first|refine mvT ?_|refine mvF ?_|refine yT ?_|refine yF ?_);conv=>whnf))
    refine ⟨_, ld ((hq.e0 H.ext).cell (j := 2) rfl) (by simp), ?_⟩
    ((conv=>whnf);repeat((first|refine mvT ?_|refine mvF ?_|refine yT ?_|refine yF ?_);conv=>whnf))
    refine Does.mono (octetsTree_does (F := F) (hc1.ext H.ext fun _ _ _ f => f) hnl1 (by have := hLs (.mk 0 s1 nl1 [] []) (by simp); cases this; omega)) ?_
    rintro rr1 wr1 ⟨⟨cr1, rfl, hr1⟩, hxr1⟩
    obtain ⟨nv1, sv1, nm1, lv1, uv1, rfl⟩ : ∃ n sv nl lv uv, cr1 = [.int .i64 n, sv, .bool nl, lv, uv] := by cases hr1; exact ⟨_, _, _, _, _, rfl⟩
    have H := H.keepN (H.e0 hxr1) (trL [.int .i64 nv1, sv1, .bool nm1, lv1, uv1] (.mk 0 s1 nl1 [] [])) (F := fun k => _ ≤ k) hr1 fun k h => h
    refine ⟨by (conv => whnf); exact ⟨⟨_, (Sg.at (A := []) H).cell rfl, rfl, rfl⟩, trivial⟩, ?_⟩
    ((conv=>whnf);repeat((first|refine mvT ?_|refine mvF ?_|refine yT ?_|refine yF ?_);conv=>whnf))
    refine ⟨bl, 0, rfl, ⟨by omega, by omega⟩, ?_⟩
    ((conv=>whnf);repeat((first|refine mvT ?_|refine mvF ?_|refine yT ?_|refine yF ?_);conv=>whnf))
    refine Sg.st (A := [_]) (o' := 5) (m := [.int .i64 nv1, sv1, .bool nm1, lv1, uv1]) H rfl (Nat.le_of_ble_eq_true rfl) (hr1.ok) ?_
    clear H
    intro w H
    obtain ⟨P1, hP1⟩ : ∃ P : World → Prop, P = fun w => TrC w (fun k => w0.heap.size ≤ k) [.int .i64 nv1, sv1, .bool nm1, lv1, uv1] (.mk 0 s1 nl1 [] []) ∧ P0 w := ⟨_, rfl⟩
    replace H : Sg w0 [(bt, Tt, [.int .i64 0, .slice none 0 0, .bool false, .slice (some ⟨bl, 0, none⟩) 2 2, .slice none 0 0]), (bl, Tl, [.int .i64 0, .slice none 0 0, .bool nl0, vl0, .slice none 0 0, .int .i64 nv1, sv1, .bool nm1, lv1, uv1]), (b2, T2, [.int .i64 0, .slice none 0 0, .bool false, .slice none 0 0, .slice none 0 0])] P1 w := by rw [hP1]; exact H
    ((conv=>whnf);repeat((first|refine mvT ?_|refine mvF ?_|refine yT ?_|refine yF ?_);conv=>whnf))
    refine ⟨_, rfl, (Sg.at (A := []) H).cells, ?_⟩
    ((conv=>whnf);repeat((first|refine mvT ?_|refine mvF ?_|refine yT ?_|refine yF ?_);conv=>whnf))
    refine Sg.st (A := [_, _]) (o' := 0) (m := [.int .i64 0, .slice none 0 0, .bool false, .slice (some ⟨bl, 0, none⟩) 2 2, .slice none 0 0]) H rfl (Nat.le_of_ble_eq_true rfl) rfl ?_
    clear H
    intro w H
    ((conv=>whnf);repeat((first|refine mvT ?_|refine mvF ?_|refine yT ?_|refine yF ?_);conv=>whnf))
    refine ⟨_, rfl, (Sg.at (A := [_, _]) H).cells, ?_⟩
    have hP := H.now
    rw [hP1, hP0] at hP
    have hbl := Sg.at (A := [_]) H
    refine ⟨.mk 0 [] false [.mk 0 [] nl0 ts0 [], .mk 0 s1 nl1 [] []] [], ?_, ⟨_, rfl, .mk 0 [] false [.mk 0 [] nl0 ts0 [], .mk 0 s1 nl1 [] []] [] _ _ _ [[.int .i64 0, .slice none 0 0, .bool nl0, vl0, .slice none 0 0], [.int .i64 nv1, sv1, .bool nm1, lv1, uv1]] rfl (Bytes.nil _ _) (rows_sl hbl (by simp) rfl (by rw [maxLen_eq]; decide) hblw) rfl ?_ (TgsR.nil _ _)⟩, H.ext⟩
    · refine .mk _ _ _ _ _ _ _ rfl ?_ (List.Perm.refl _) List.Pairwise.nil
      intro i x y hx hy
      match i, hx, hy with
      | 0, hx, hy => simp only [List.getElem?_cons_succ, List.getElem?_cons_zero, Option.some.injEq] at hx hy; subst hx; subst hy; exact .mk _ _ _ _ _ _ _ htl0 hnr0 (List.Perm.refl _) List.Pairwise.nil
      | 1, hx, hy => simp only [List.getElem?_cons_succ, List.getElem?_cons_zero, Option.some.injEq] at hx hy; subst hx; subst hy; exact Nrm.leaf _ _ _
    · intro i x y hx hy
      match i, hx, hy with
      | 0, hx, hy => simp only [List.getElem?_cons_succ, List.getElem?_cons_zero, Option.some.injEq] at hx hy; subst hx; subst hy; exact hP.2.1
      | 1, hx, hy => simp only [List.getElem?_cons_succ, List.getElem?_cons_zero, Option.some.injEq] at hx hy; subst hx; subst hy; exact hP.1
theorem ureadConsumerMemberAssignment {w0 : World} {F : Nat → Prop} {p : Nat} {ty : TypeId} {v n0 : Int} {x ev : Value} {l : List UInt8} {sV : Rd} {fx : Bool} (hL : Laid w0 ev) (hp : Own w0 p ty [.int .i16 0, .slice none 0 0, .slice none 0 0]) (hx : Bytes w0 F x l) (hF : ∀ k, F k → k ≠ p) (hv : 0 ≤ v) (hp1 : p ≠ errG) (hfx : fx = false) (hn0 : rdNum 2 .i16 (l, false) = (numT n0, sV)) :
    Does X.P 19 #[.pointer (some ⟨p, 0, none⟩), x, .bool true] w0 fun r w' => RdPostS w0 p ty n0 v fx false dConsumerMemberAssignment ev sV r w' := by
  have hpl := hp.lt
  obtain ⟨G0, hG0, hx⟩ : ∃ G0 : Nat → Prop, (∀ k, G0 k → k < w0.heap.size ∧ k ≠ p) ∧ Bytes w0 G0 x l := ⟨fun k => F k ∧ k < w0.heap.size, fun k h => ⟨h.2, hF k h.1⟩, Sl.mono hx fun k hk h => ⟨h, hk⟩⟩
  obtain ⟨a0, c0, rfl, _⟩ := hx.view
  refine Does.go (X := X) (l := [_, _, _]) Tryd.func19 rfl (by kernel_rfl) (by kernel_rfl) _ rfl ?_
  ((conv=>whnf);repeat((first|refine mvT ?_|refine mvF ?_|refine yT ?_|refine yF ?_);conv=>whnf))
  refine Does.mono (dfConsumerMemberAssignment (pre := []) (cur := [.int .i16 0, .slice none 0 0, .slice none 0 0]) (post := []) (by simpa using hp) rfl rfl) ?_
  rintro rd wd ⟨hpd, hxd⟩
  ((conv=>whnf);repeat((first|refine mvT ?_|refine mvF ?_|refine yT ?_|refine yF ?_);conv=>whnf))
  intro pb w1 hpb hb hx1
  ((conv=>whnf);repeat((first|refine mvT ?_|refine mvF ?_|refine yT ?_|refine yF ?_);conv=>whnf))
  refine st_all [.slice a0 l.length c0, .bool false] hb rfl rfl rfl ?_
  intro w hb hx2
  ((conv=>whnf);repeat((first|refine mvT ?_|refine mvF ?_|refine yT ?_|refine yF ?_);conv=>whnf))
  have hsd := hxd.size
  have hwp : w0.heap.size ≤ pb := by omega
  have he1 : Ext nob wd w := hx1.trans hx2 fun k hk h => by omega
  have hpw : Own w p ty [.int .i16 0, .slice none 0 0, .slice none 0 0] := by have := hpd.e0 he1; simpa using this
  have he := hxd.tr0 he1
  have H := St.init hpw hb (hx.ext he fun k _ h => (hG0 k h).2) hG0 he hpl hwp
  clear hpd hxd hx1 hx2 hb hpw he1 hp
  refine Does.mono H.int16 ?_
  rintro r w ⟨nV, sV', rfl, hnV, hrV, H⟩
  rw [hn0] at hrV
  obtain ⟨e1, rfl⟩ := Prod.mk.inj hrV
  obtain rfl : n0 = nV := by injection e1
  ((conv=>whnf);repeat((first|refine mvT ?_|refine mvF ?_|refine yT ?_|refine yF ?_);conv=>whnf))
  refine H.st1 (v := .int .i16 n0) 0 (rfl) (rfl) rfl (by simp) rfl (Nat.lt_of_lt_of_le (Nat.lt_succ_self _) (Nat.le_of_ble_eq_true rfl)) ?_
  intro w H
  ((conv=>whnf);repeat((first|refine mvT ?_|refine mvF ?_|refine yT ?_|refine yF ?_);conv=>whnf))
  replace H : St w0 G0 p pb sV ((p, ty, [] ++ [.int .i16 n0, .slice none 0 0, .slice none 0 0] ++ []) :: []) (fun _ => True) w := H
  refine ldS (H.cell (o := 0) rfl (k := 0) rfl) ?_;((conv=>whnf);repeat((first|refine mvT ?_|refine mvF ?_|refine yT ?_|refine yF ?_);conv=>whnf))
  have hup0 : tailBad 9 v fx dConsumerMemberAssignment dConsumerMemberAssignment sV = true → (rdPart 9 v fx dConsumerMemberAssignment sV).2.2 = true := fun h => (tailBad_part _ _ _ _ _).symm.trans h
  refine ldS (H.cell (o := 0) rfl (k := 1) rfl) ?_;((conv=>whnf);repeat((first|refine mvT ?_|refine mvF ?_|refine yT ?_|refine yF ?_);conv=>whnf))
  refine Does.mono H.lnp ?_
  rintro r w ⟨n1, s1, rfl, hn1, hln1, H⟩
  rw [← hfx] at hln1
  ((conv=>whnf);repeat((first|refine mvT ?_|refine mvF ?_|refine yT ?_|refine yF ?_);conv=>whnf))
  refine Does.mono H.ok ?_
  rintro r w ⟨rfl, H⟩
  ((conv=>whnf);repeat((first|refine mvT ?_|refine mvF ?_|refine yT ?_|refine yF ?_);conv=>whnf))
  refine cI (by rfl) (fun hbd=>?_) (fun hbd=>?_)
  · have hbd : s1.2 = true := by simpa using hbd
    ((conv=>whnf);repeat((first|refine mvT ?_|refine mvF ?_|refine yT ?_|refine yF ?_);conv=>whnf))
    refine Does.mono (H.done hL hp1) ?_
    rintro r w ⟨rfl, H⟩
    ((conv=>whnf);repeat((first|refine mvT ?_|refine mvF ?_|refine yT ?_|refine yF ?_);conv=>whnf))
    refine RdPostS.early hbd (hup0 (?_)) H
    rw [tail_len ⟨by decide, has_all hv⟩ hln1 hbd]
  have hbd : s1.2 = false := by simpa using hbd
  clear hbd
  ((conv=>whnf);repeat((first|refine mvT ?_|refine mvF ?_|refine yT ?_|refine yF ?_);conv=>whnf))
  refine cut_zero ?_
  ((conv=>whnf);repeat((first|refine mvT ?_|refine mvF ?_|refine yT ?_|refine yF ?_);conv=>whnf))
  refine VC.cutE (fun a : Value => [(12, .int .i32 n1), (11, a), (0, .pointer (some ⟨p, 0, none⟩)), (2, .bool true), (7, .pointer (some ⟨pb, 0, none⟩)), (8, .int .i16 n0), (9, .pointer (some ⟨p, 0, none⟩))]) (fun a w' => ListI w0 G0 p pb 65 [str [], .slice none 0 0] (elR 8 v fx 10 dConsumerMemberAssignmentTopic) (elQ false 8 10 dConsumerMemberAssignmentTopic) s1 n1 (decide (n1 ≤ 0)) ((p, ty, [] ++ [.int .i16 n0, .slice none 0 0, .slice none 0 0] ++ []) :: []) (fun _ => True) a 0 w') ?_ ?_
  · refine cI (by rfl) (fun hps=>?_) (fun hps=>?_)
    · have hps : 0 < n1 := by have := of_decide_eq_true hps; omega
      ((conv=>whnf);repeat((first|refine mvT ?_|refine mvF ?_|refine yT ?_|refine yF ?_);conv=>whnf))
      refine H.grow hps hn1.2 (by decide) rfl rfl (by decide) ?_
      intro g cap post w hc1 hc2 H
      ((conv=>whnf);repeat((first|refine mvT ?_|refine mvF ?_|refine yT ?_|refine yF ?_);conv=>whnf))
      exact ⟨_, ⟨rfl, rfl, rfl, rfl, rfl, rfl, rfl, trivial⟩, ListI.some hps (decide_eq_false (by omega)) hc1 hc2 H⟩
    · have hps : n1 ≤ 0 := by have := of_decide_eq_false hps; omega
      ((conv=>whnf);repeat((first|refine mvT ?_|refine mvF ?_|refine yT ?_|refine yF ?_);conv=>whnf))
      exact ⟨_, ⟨rfl, rfl, rfl, rfl, rfl, rfl, rfl, trivial⟩, ListI.none hps (decide_eq_true hps) H⟩
  clear H
  rintro a1 w H
  ((conv=>whnf);repeat((first|refine mvT ?_|refine mvF ?_|refine yT ?_|refine yF ?_);conv=>whnf))
  have hpL1 : inL ((p, ty, [] ++ [.int .i16 n0, .slice none 0 0, .slice none 0 0] ++ []) :: []) p := inL.head _ _
  refine VL.loop (fun i : Nat => [(12, .int .i32 n1), (11, a1), (13, .int .i32 i), (0, .pointer (some ⟨p, 0, none⟩)), (2, .bool true), (7, .pointer (some ⟨pb, 0, none⟩)), (8, .int .i16 n0), (9, .pointer (some ⟨p, 0, none⟩))]) (fun i w' => i ≤ 2147483647 ∧ ListI w0 G0 p pb 65 [str [], .slice none 0 0] (elR 8 v fx 10 dConsumerMemberAssignmentTopic) (elQ false 8 10 dConsumerMemberAssignmentTopic) s1 n1 (decide (n1 ≤ 0)) ((p, ty, [] ++ [.int .i16 n0, .slice none 0 0, .slice none 0 0] ++ []) :: []) (fun _ => True) a1 i w') (fun i => n1.toNat - i) 0 ⟨rfl, rfl, rfl, rfl, rfl, rfl, rfl, rfl, trivial⟩ ⟨by decide, H⟩ ?_
  clear H
  rintro i1 w ⟨hi1, H⟩
  ((conv=>whnf);repeat((first|refine mvT ?_|refine mvF ?_|refine yT ?_|refine yF ?_);conv=>whnf))
  refine cI (by rfl) (fun h9=>?_) (fun h9=>?_)
  · have hlt1 : (i1 : Int) < n1 := of_decide_eq_true h9
    obtain ⟨g1, cap1, post1, rfl, hgo1, HI⟩ := H.go hlt1
    obtain ⟨es1, ts1, si1, hes1, hez1, hrn1, hts1, hlen1, H⟩ := HI.open hgo1.2.2.2.2
    obtain ⟨L1, hL1⟩ : ∃ L : List Ob, L = ((p, ty, [] ++ [.int .i16 n0, .slice none 0 0, .slice none 0 0] ++ []) :: []) := ⟨_, rfl⟩
    rw [← hL1] at H hpL1
    obtain ⟨P1, hP1⟩ : ∃ P : World → Prop, P = fun w => (∀ (j : Nat) (c : List Value) (y : T), es1[j]? = some c → ts1[j]? = some y → elQ false 8 10 dConsumerMemberAssignmentTopic ⟨w, FG w0 G0⟩ c y) ∧ (fun _ => True) w := ⟨_, rfl⟩
    rw [← hP1] at H
    replace H : St w0 G0 p pb si1 ((g1, 65, es1.flatten ++ [str [], .slice none 0 0] ++ ((List.replicate (n1.toNat - (i1 + 1)) [str [], .slice none 0 0]).flatten ++ post1)) :: L1) P1 w := H
    ((conv=>whnf);repeat((first|refine mvT ?_|refine mvF ?_|refine yT ?_|refine yF ?_);conv=>whnf))
    refine ⟨g1, 0, rfl, ⟨by omega, by omega⟩, ?_⟩
    ((conv=>whnf);repeat((first|refine mvT ?_|refine mvF ?_|refine yT ?_|refine yF ?_);conv=>whnf))
    refine Does.mono (dfConsumerMemberAssignmentTopic (pre := es1.flatten) (cur := [str [], .slice none 0 0]) (post := ((List.replicate (n1.toNat - (i1 + 1)) [str [], .slice none 0 0]).flatten ++ post1)) H.head (by first | (rw [hlen1]; simp; done) | (simp [hlen1]; done) | (simp [hlen1]; omega)) rfl) ?_
    rintro rd w2 ⟨hdf, hxd⟩
    replace H := H.put hdf hxd
    clear hdf hxd
    replace H : St w0 G0 p pb si1 ((g1, 65, es1.flatten ++ [str [], .slice none 0 0] ++ ((List.replicate (n1.toNat - (i1 + 1)) [str [], .slice none 0 0]).flatten ++ post1)) :: L1) P1 w2 := H
    ((conv=>whnf);repeat((first|refine mvT ?_|refine mvF ?_|refine yT ?_|refine yF ?_);conv=>whnf))
    have hup1 : tailBad 8 v fx dConsumerMemberAssignmentTopic dConsumerMemberAssignmentTopic si1 = true → (rdPart 9 v fx dConsumerMemberAssignment sV).2.2 = true := by
      intro hb
      refine hup0 ?_
      rw [tail_el ⟨by decide, has_all hv⟩ hln1 hgo1.2.2.2.2 hrn1 ((tailBad_part _ _ _ _ _).symm.trans hb)]
    refine Does.mono H.utxp ?_
    rintro r w ⟨u2, s2, rfl, hr2, H⟩
    rw [← hfx] at hr2
    ((conv=>whnf);repeat((first|refine mvT ?_|refine mvF ?_|refine yT ?_|refine yF ?_);conv=>whnf))
    refine H.st1 (v := str u2) 0 (rfl) (rfl) rfl (by first | omega | (simp [hlen1]; done) | (simp [hlen1]; omega)) rfl (Nat.lt_of_lt_of_le (Nat.lt_succ_self _) (Nat.le_of_ble_eq_true rfl)) ?_
    intro w H
    ((conv=>whnf);repeat((first|refine mvT ?_|refine mvF ?_|refine yT ?_|refine yF ?_);conv=>whnf))
    replace H : St w0 G0 p pb s2 ((g1, 65, es1.flatten ++ [str u2, .slice none 0 0] ++ ((List.replicate (n1.toNat - (i1 + 1)) [str [], .slice none 0 0]).flatten ++ post1)) :: L1) P1 w := H
    refine ⟨_, ld (H.cell rfl (k := 1) rfl) (by first | omega | (simp [hlen1]; done) | (simp [hlen1]; omega)), ?_⟩; ((conv=>whnf);repeat((first|refine mvT ?_|refine mvF ?_|refine yT ?_|refine yF ?_);conv=>whnf))
    refine Does.mono H.lnp ?_
    rintro r w ⟨n4, s4, rfl, hn4, hln4, H⟩
    rw [← hfx] at hln4
    ((conv=>whnf);repeat((first|refine mvT ?_|refine mvF ?_|refine yT ?_|refine yF ?_);conv=>whnf))
    refine Does.mono H.ok ?_
    rintro r w ⟨rfl, H⟩
    ((conv=>whnf);repeat((first|refine mvT ?_|refine mvF ?_|refine yT ?_|refine yF ?_);conv=>whnf))
    refine cI (by rfl) (fun hbd=>?_) (fun hbd=>?_)
    · have hbd : s4.2 = true := by simpa using hbd
      ((conv=>whnf);repeat((first|refine mvT ?_|refine mvF ?_|refine yT ?_|refine yF ?_);conv=>whnf))
      refine Does.mono (H.done hL hp1) ?_
      rintro r w ⟨rfl, H⟩
      ((conv=>whnf);repeat((first|refine mvT ?_|refine mvF ?_|refine yT ?_|refine yF ?_);conv=>whnf))
      refine RdPostS.early hbd (hup1 (?_)) H
      rw [tail_yes (rdField8 (by decide) hr2) ⟨by decide, has_all hv⟩, tail_len ⟨by decide, has_all hv⟩ hln4 hbd]
    have hbd : s4.2 = false := by simpa using hbd
    clear hbd
    ((conv=>whnf);repeat((first|refine mvT ?_|refine mvF ?_|refine yT ?_|refine yF ?_);conv=>whnf))
    refine cut_zero ?_
    ((conv=>whnf);repeat((first|refine mvT ?_|refine mvF ?_|refine yT ?_|refine yF ?_);conv=>whnf))
    refine VC.cutE (fun a : Value => [(19, .int .i32 n4), (18, a), (0, .pointer (some ⟨p, 0, none⟩)), (2, .bool true), (7, .pointer (some ⟨pb, 0, none⟩)), (8, .int .i16 n0), (9, .pointer (some ⟨p, 0, none⟩)), (12, .int .i32 n1), (11, .slice (some ⟨g1, 0, none⟩) n1.toNat cap1), (13, .int .i32 i1), (14, .pointer (some ⟨g1, 0 + (i1 : Int).toNat * 2, none⟩)), (15, .pointer (some ⟨g1, 0 + (i1 : Int).toNat * 2, none⟩))]) (fun a w' => ListI w0 G0 p pb 21 [.int .i32 0] (elR 7 v fx 3 []) (elQ false 7 3 []) s4 n4 (decide (n4 ≤ 0)) ((g1, 65, es1.flatten ++ [str u2, .slice none 0 0] ++ ((List.replicate (n1.toNat - (i1 + 1)) [str [], .slice none 0 0]).flatten ++ post1)) :: L1) P1 a 0 w') ?_ ?_
    · refine cI (by rfl) (fun hps=>?_) (fun hps=>?_)
      · have hps : 0 < n4 := by have := of_decide_eq_true hps; omega
        ((conv=>whnf);repeat((first|refine mvT ?_|refine mvF ?_|refine yT ?_|refine yF ?_);conv=>whnf))
        refine H.grow hps hn4.2 (by decide) rfl rfl (by decide) ?_
        intro g cap post w hc1 hc2 H
        ((conv=>whnf);repeat((first|refine mvT ?_|refine mvF ?_|refine yT ?_|refine yF ?_);conv=>whnf))
        exact ⟨_, ⟨rfl, rfl, rfl, rfl, rfl, rfl, rfl, rfl, rfl, rfl, rfl, rfl, trivial⟩, ListI.some hps (decide_eq_false (by omega)) hc1 hc2 H⟩
      · have hps : n4 ≤ 0 := by have := of_decide_eq_false hps; omega
        ((conv=>whnf);repeat((first|refine mvT ?_|refine mvF ?_|refine yT ?_|refine yF ?_);conv=>whnf))
        exact ⟨_, ⟨rfl, rfl, rfl, rfl, rfl, rfl, rfl, rfl, rfl, rfl, rfl, rfl, trivial⟩, ListI.none hps (decide_eq_true hps) H⟩
    clear H
    rintro a4 w H
    ((conv=>whnf);repeat((first|refine mvT ?_|refine mvF ?_|refine yT ?_|refine yF ?_);conv=>whnf))
    have hpL4 : inL ((g1, 65, es1.flatten ++ [str u2, .slice none 0 0] ++ ((List.replicate (n1.toNat - (i1 + 1)) [str [], .slice none 0 0]).flatten ++ post1)) :: L1) p := inL.tail hpL1
    refine VL.loop (fun i : Nat => [(19, .int .i32 n4), (18, a4), (20, .int .i32 i), (0, .pointer (some ⟨p, 0, none⟩)), (2, .bool true), (7, .pointer (some ⟨pb, 0, none⟩)), (8, .int .i16 n0), (9, .pointer (some ⟨p, 0, none⟩)), (12, .int .i32 n1), (11, .slice (some ⟨g1, 0, none⟩) n1.toNat cap1), (13, .int .i32 i1), (14, .pointer (some ⟨g1, 0 + (i1 : Int).toNat * 2, none⟩)), (15, .pointer (some ⟨g1, 0 + (i1 : Int).toNat * 2, none⟩))]) (fun i w' => i ≤ 2147483647 ∧ ListI w0 G0 p pb 21 [.int .i32 0] (elR 7 v fx 3 []) (elQ false 7 3 []) s4 n4 (decide (n4 ≤ 0)) ((g1, 65, es1.flatten ++ [str u2, .slice none 0 0] ++ ((List.replicate (n1.toNat - (i1 + 1)) [str [], .slice none 0 0]).flatten ++ post1)) :: L1) P1 a4 i w') (fun i => n4.toNat - i) 0 ⟨rfl, rfl, rfl, rfl, rfl, rfl, rfl, rfl, rfl, rfl, rfl, rfl, rfl, trivial⟩ ⟨by decide, H⟩ ?_
    clear H
    rintro i4 w ⟨hi4, H⟩
    ((conv=>whnf);repeat((first|refine mvT ?_|refine mvF ?_|refine yT ?_|refine yF ?_);conv=>whnf))
    refine cI (by rfl) (fun h9=>?_) (fun h9=>?_)
    · have hlt4 : (i4 : Int) < n4 := of_decide_eq_true h9
      obtain ⟨g4, cap4, post4, rfl, hgo4, HI⟩ := H.go hlt4
      obtain ⟨es4, ts4, si4, hes4, hez4, hrn4, hts4, hlen2, H⟩ := HI.open hgo4.2.2.2.2
      obtain ⟨L4, hL4⟩ : ∃ L : List Ob, L = ((g1, 65, es1.flatten ++ [str u2, .slice none 0 0] ++ ((List.replicate (n1.toNat - (i1 + 1)) [str [], .slice none 0 0]).flatten ++ post1)) :: L1) := ⟨_, rfl⟩
      rw [← hL4] at H hpL4
      obtain ⟨P4, hP4⟩ : ∃ P : World → Prop, P = fun w => (∀ (j : Nat) (c : List Value) (y : T), es4[j]? = some c → ts4[j]? = some y → elQ false 7 3 [] ⟨w, FG w0 G0⟩ c y) ∧ P1 w := ⟨_, rfl⟩
      rw [← hP4] at H
      replace H : St w0 G0 p pb si4 ((g4, 21, es4.flatten ++ [.int .i32 0] ++ ((List.replicate (n4.toNat - (i4 + 1)) [.int .i32 0]).flatten ++ post4)) :: L4) P4 w := H
      ((conv=>whnf);repeat((first|refine mvT ?_|refine mvF ?_|refine yT ?_|refine yF ?_);conv=>whnf))
      refine Does.mono H.int32 ?_
      rintro r w ⟨n5, s5, rfl, hn5, hr5, H⟩
      ((conv=>whnf);repeat((first|refine mvT ?_|refine mvF ?_|refine yT ?_|refine yF ?_);conv=>whnf))
      refine ⟨g4, 0, rfl, ⟨by omega, by omega⟩, ?_⟩
      ((conv=>whnf);repeat((first|refine mvT ?_|refine mvF ?_|refine yT ?_|refine yF ?_);conv=>whnf))
      refine H.st1 (v := .int .i32 n5) 0 (rfl) (rfl) rfl (by first | omega | (simp [hlen2]; done) | (simp [hlen2]; omega)) rfl (Nat.lt_of_lt_of_le (Nat.lt_succ_self _) (Nat.le_of_ble_eq_true rfl)) ?_
      intro w H
      ((conv=>whnf);repeat((first|refine mvT ?_|refine mvF ?_|refine yT ?_|refine yF ?_);conv=>whnf))
      replace H : St w0 G0 p pb s5 ((g4, 21, es4.flatten ++ [.int .i32 n5] ++ ((List.replicate (n4.toNat - (i4 + 1)) [.int .i32 0]).flatten ++ post4)) :: L4) P4 w := H
      refine ⟨i4 + 1, ⟨rfl, rfl, ?_, rfl, rfl, rfl, rfl, rfl, rfl, rfl, rfl, rfl, rfl, trivial⟩, ⟨by omega, ListI.back hgo4 (LoopI.next hes4 hez4 hrn4 hts4 (cur := [.int .i32 n5]) (x := numT n5) (hr5) rfl (by rw [← hL4]; exact H) fun w hP => ?_)⟩, by omega⟩
      · show some (Value.int .i32 _) = _
        rw [IntKind.wrap_i32]
        simp only [Option.some.injEq, Value.int.injEq, true_and]
        omega
      · skip
        rw [hP4] at hP
        exact ⟨⟨_, hn5, rfl, rfl⟩, hP⟩
    have hge4 : ¬ (i4 : Int) < n4 := of_decide_eq_false h9
    obtain ⟨l6, s6, hone6, hl6, hr6, H⟩ := H.done hge4 hln4 (nl := nlF (.mk 11 0 (-1) (-1) (-1) 0 3 []) v) (sz := elZ false 7 3 []) rfl hpL4 rfl
    ((conv=>whnf);repeat((first|refine mvT ?_|refine mvF ?_|refine yT ?_|refine yF ?_);conv=>whnf))
    obtain ⟨P7, hP7⟩ : ∃ P : World → Prop, P = fun w => ListR true (elZ false 7 3 []) (elQ false 7 3 [] ⟨w, FG w0 G0⟩) w (FG w0 G0) a4 (.mk 0 [] (decide (n4 ≤ 0)) l6 []) ∧ P1 w := ⟨_, rfl⟩
    replace H : St w0 G0 p pb s6 ((g1, 65, es1.flatten ++ [str u2, .slice none 0 0] ++ ((List.replicate (n1.toNat - (i1 + 1)) [str [], .slice none 0 0]).flatten ++ post1)) :: L1) P7 w := by rw [hP7]; exact H
    refine H.st1 (v := a4) 1 (cells_one hone6) (hone6) rfl (by first | omega | (simp [hlen1]; done) | (simp [hlen1]; omega)) rfl (Nat.lt_of_lt_of_le (Nat.lt_succ_self _) (Nat.le_of_ble_eq_true rfl)) ?_
    intro w H
    ((conv=>whnf);repeat((first|refine mvT ?_|refine mvF ?_|refine yT ?_|refine yF ?_);conv=>whnf))
    replace H : St w0 G0 p pb s6 ((g1, 65, es1.flatten ++ [str u2, a4] ++ ((List.replicate (n1.toNat - (i1 + 1)) [str [], .slice none 0 0]).flatten ++ post1)) :: L1) P7 w := H
    have htg : rdTagsF fx s6 = ([], s6) := by rw [rdTagsF, if_neg (by rw [hfx]; decide)]
    have hpart : rdPart 8 v fx dConsumerMemberAssignmentTopic si1 = (.mk 0 [] false [.mk 0 u2 false [] [], .mk 0 [] (decide (n4 ≤ 0)) l6 []] [], s6) := by
      unfold rdPart rdPartW
      rw [rdTail_plain (by decide)]
      rw [rdAll_yes (df := dfT 8) (rdField8 (by decide) hr2) ⟨by decide, has_all hv⟩, rdAll_yes (df := dfT 8) ((rdField_list _ _ _ _ _ _ _ _ _ _ _).trans hr6) ⟨by decide, has_all hv⟩]
      simp only [rdAll]
      rw [htg]
    refine ⟨i1 + 1, ⟨rfl, rfl, ?_, rfl, rfl, rfl, rfl, rfl, trivial⟩, ⟨by omega, ListI.back hgo1 (LoopI.next hes1 hez1 hrn1 hts1 (cur := [str u2, a4]) (x := .mk 0 [] false [.mk 0 u2 false [] [], .mk 0 [] (decide (n4 ≤ 0)) l6 []] []) (hpart) rfl (by rw [← hL1]; exact H) fun w hP => ?_)⟩, by omega⟩
    · show some (Value.int .i32 _) = _
      rw [IntKind.wrap_i32]
      simp only [Option.some.injEq, Value.int.injEq, true_and]
      omega
    · skip
      rw [hP7] at hP
      obtain ⟨hf7_, hP⟩ := hP
      rw [hP1] at hP
      exact ⟨QPf (QA1 (QF8 (by decide) u2) (QA1 (QF11 hl6 hf7_) (QA0))), hP⟩
  have hge1 : ¬ (i1 : Int) < n1 := of_decide_eq_false h9
  obtain ⟨l9, s9, hone9, hl9, hr9, H⟩ := H.done hge1 hln1 (nl := nlF (.mk 11 0 (-1) (-1) (-1) 0 10 dConsumerMemberAssignmentTopic) v) (sz := elZ false 8 10 dConsumerMemberAssignmentTopic) rfl hpL1 rfl
  ((conv=>whnf);repeat((first|refine mvT ?_|refine mvF ?_|refine yT ?_|refine yF ?_);conv=>whnf))
  obtain ⟨P10, hP10⟩ : ∃ P : World → Prop, P = fun w => ListR true (elZ false 8 10 dConsumerMemberAssignmentTopic) (elQ false 8 10 dConsumerMemberAssignmentTopic ⟨w, FG w0 G0⟩) w (FG w0 G0) a1 (.mk 0 [] (decide (n1 ≤ 0)) l9 []) ∧ (fun _ => True) w := ⟨_, rfl⟩
  replace H : St w0 G0 p pb s9 ((p, ty, [] ++ [.int .i16 n0, .slice none 0 0, .slice none 0 0] ++ []) :: []) P10 w := by rw [hP10]; exact H
  refine H.st1 (v := a1) 1 (cells_one hone9) (hone9) rfl (by simp) rfl (Nat.lt_of_lt_of_le (Nat.lt_succ_self _) (Nat.le_of_ble_eq_true rfl)) ?_
  intro w H
  ((conv=>whnf);repeat((first|refine mvT ?_|refine mvF ?_|refine yT ?_|refine yF ?_);conv=>whnf))
  replace H : St w0 G0 p pb s9 ((p, ty, [] ++ [.int .i16 n0, a1, .slice none 0 0] ++ []) :: []) P10 w := H
  refine Does.mono H.nop ?_
  rintro c12 w ⟨_, nl12, u12, s12, rfl, hone12, hnl12, hr12, H⟩
  rw [← hfx] at hr12
  ((conv=>whnf);repeat((first|refine mvT ?_|refine mvF ?_|refine yT ?_|refine yF ?_);conv=>whnf))
  obtain ⟨P13, hP13⟩ : ∃ P : World → Prop, P = fun w => OCf w0 G0 c12 (.mk 0 u12 nl12 [] []) w ∧ P10 w := ⟨_, rfl⟩
  replace H : St w0 G0 p pb s12 ((p, ty, [] ++ [.int .i16 n0, a1, .slice none 0 0] ++ []) :: []) P13 w := by rw [hP13]; exact H
  refine H.st1 (v := c12) 2 (cells_one hone12) (hone12) rfl (by simp) rfl (Nat.lt_of_lt_of_le (Nat.lt_succ_self _) (Nat.le_of_ble_eq_true rfl)) ?_
  intro w H
  ((conv=>whnf);repeat((first|refine mvT ?_|refine mvF ?_|refine yT ?_|refine yF ?_);conv=>whnf))
  replace H : St w0 G0 p pb s12 ((p, ty, [] ++ [.int .i16 n0, a1, c12] ++ []) :: []) P13 w := H
  have htg : rdTagsF fx s12 = ([], s12) := by rw [rdTagsF, if_neg (by rw [hfx]; decide)]
  have hpart : rdPart 9 v fx dConsumerMemberAssignment sV = (.mk 0 [] false [.mk 0 [] (decide (n1 ≤ 0)) l9 [], .mk 0 u12 nl12 [] []] [], s12) := by
    unfold rdPart rdPartW
    rw [rdTail_plain (by decide)]
    rw [rdAll_yes (df := dfT 9) ((rdField_list _ _ _ _ _ _ _ _ _ _ _).trans hr9) ⟨by decide, has_all hv⟩, rdAll_yes (df := dfT 9) ((rdField9n (by decide)).trans hr12) ⟨by decide, has_all hv⟩]
    simp only [rdAll]
    rw [htg]
  refine Does.mono (H.done hL hp1) ?_
  rintro r w ⟨rfl, H⟩
  ((conv=>whnf);repeat((first|refine mvT ?_|refine mvF ?_|refine yT ?_|refine yF ?_);conv=>whnf))
  refine RdPostS.end hpart H fun hP => ?_
  rw [hP13] at hP
  obtain ⟨hf13_, hP⟩ := hP
  rw [hP10] at hP
  obtain ⟨hf10_, hP⟩ := hP
  exact QPf (QA1 (QF11 hl9 hf10_) (QA1 (QF9 hnl12 hf13_) (QA0)))
theorem newConsumerMemberAssignment (w : World) : Does X.P 10 #[] w fun r w' => r = .agg #[.int .i16 0, .slice none 0 0, .slice none 0 0] ∧ Ext nob w w' := by
  refine Does.go (X := X) (l := []) Tryd.func10 rfl (by kernel_rfl) (by kernel_rfl) _ rfl ?_
  ((conv=>whnf);repeat((first|refine mvT ?_|refine mvF ?_|refine yT ?_|refine yF ?_);conv=>whnf))
  intro p0 w0 hp0 ho0 hx0
  ((conv=>whnf);repeat((first|refine mvT ?_|refine mvF ?_|refine yT ?_|refine yF ?_);conv=>whnf))
  intro p w1 hp ho hx
  ((conv=>whnf);repeat((first|refine mvT ?_|refine mvF ?_|refine yT ?_|refine yF ?_);conv=>whnf))
  refine Does.mono (dfConsumerMemberAssignment (pre := []) (cur := [.int .i16 0, .slice none 0 0, .slice none 0 0]) (post := []) (by simpa using ho) rfl rfl) ?_
  rintro r2 w2 ⟨hd, hxd⟩
  obtain ⟨TT, hd⟩ : ∃ TT, Own w2 p TT [.int .i16 0, .slice none 0 0, .slice none 0 0] := ⟨_, by simpa using hd⟩
  ((conv=>whnf);repeat((first|refine mvT ?_|refine mvF ?_|refine yT ?_|refine yF ?_);conv=>whnf))
  refine ⟨_, rfl, hd.cells, ?_⟩
  ((conv=>whnf);repeat((first|refine mvT ?_|refine mvF ?_|refine yT ?_|refine yF ?_);conv=>whnf))
  have hx12 : Ext nob w0 w2 := hx.st hxd hp
  refine st_all [.int .i16 0, .slice none 0 0, .slice none 0 0] (ho0.e0 hx12) rfl rfl rfl ?_
  intro w3 ho3 hx3
  ((conv=>whnf);repeat((first|refine mvT ?_|refine mvF ?_|refine yT ?_|refine yF ?_);conv=>whnf))
  refine ⟨_, rfl, ho3.cells, ?_⟩
  exact ⟨rfl, (hx0.e0 hx12).st hx3 hp0⟩
/-- A tree with another number. -/
def setN (n : Int) (t : T) : T := .mk n t.s t.nl t.l t.u
theorem Nrm.setN {t t' : T} (h : Nrm t t') (n : Int) : Nrm (setN n t) (setN n t') := by
  cases h
  rename_i h1 h2 h3 h4
  exact .mk _ _ _ _ _ _ _ h1 h2 h3 h4
theorem LimT.setN {t : T} (h : LimT t) {n : Int} (hn : IntKind.i64.wrap n = n) : LimT (setN n t) := by
  cases h
  rename_i h1 h2 h3 h4 h5 h6 h7
  exact .mk _ _ _ _ _ hn h2 h3 h4 h5 h6 h7
theorem anyConsumerMemberAssignment {G : Nat → Prop} {w : World} {x ev : Value} {s : List UInt8} {n : Int} {s1 : Rd} (hL : Laid w ev) (hx : Bytes w G x s) (hs : s.length ≤ 1000) (h1 : rdNum 2 .i16 (s, false) = (numT n, s1)) (hn : IntKind.i64.wrap n = n) (hs1 : s1.1.length ≤ 1000) :
    Does X.P 4 #[x] w fun r w' => ∃ o t', r = .tuple #[o, .bool (!(rdPart 9 0 false dConsumerMemberAssignment s1).2.2)] ∧ ((rdPart 9 0 false dConsumerMemberAssignment s1).2.2 = false → Nrm (setN n (rdPart 9 0 false dConsumerMemberAssignment s1).1) t') ∧ Tr w' (fun k => w.heap.size ≤ k) o t' ∧ Ext nob w w' := by
  have hok : ∀ f, f ∈ dConsumerMemberAssignment → okF 9 f = true := List.all_eq_true.1 (show (dConsumerMemberAssignment).all (okF 9) = true by decide)
  obtain ⟨ax, cx, rfl, _⟩ := hx.view
  have hL1 := hL.lt
  refine Does.go (X := X) (l := [_]) Tryd.func4 rfl (by kernel_rfl) (by kernel_rfl) _ rfl ?_
  ((conv=>whnf);repeat((first|refine mvT ?_|refine mvF ?_|refine yT ?_|refine yF ?_);conv=>whnf))
  intro b w0 hb ho hx0
  ((conv=>whnf);repeat((first|refine mvT ?_|refine mvF ?_|refine yT ?_|refine yF ?_);conv=>whnf))
  refine Does.mono (newConsumerMemberAssignment w0) ?_;rintro r1 w1 ⟨rfl, hx1⟩;((conv=>whnf);repeat((first|refine mvT ?_|refine mvF ?_|refine yT ?_|refine yF ?_);conv=>whnf))
  intro p w2 hp hop hx2
  ((conv=>whnf);repeat((first|refine mvT ?_|refine mvF ?_|refine yT ?_|refine yF ?_);conv=>whnf))
  refine st_all [.int .i16 0, .slice none 0 0, .slice none 0 0] hop rfl rfl rfl ?_
  intro w3 hop hx3
  have hx03 : Ext nob w w3 := (hx0.e0 hx1).e0 (hx2.st hx3 hp)
  have hwp : w.heap.size ≤ p := Nat.le_trans (hx0.e0 hx1).size hp
  have ho3 := (ho.e0 hx1).e0 (hx2.st hx3 hp)
  have hpb : p ≠ b := by have := (ho.e0 hx1).lt; omega
  ((conv=>whnf);repeat((first|refine mvT ?_|refine mvF ?_|refine yT ?_|refine yF ?_);conv=>whnf))
  refine app_bytes rfl rfl (OB.nil w3 w3.heap.size) (hx.e0 hx03).src rfl (by simp only [List.length_nil]; omega) (Nat.le_refl _) ?_
  intro x4 w4 h4 hx4 _ _
  ((conv=>whnf);repeat((first|refine mvT ?_|refine mvF ?_|refine yT ?_|refine yF ?_);conv=>whnf))
  rw [List.nil_append] at h4
  have hx4 : Ext nob w3 w4 := hx4.mono fun k _ h => by simp [Value.ownBlock] at h
  have hx04 := hx03.e0 hx4
  have hpl := hop.lt
  have hread : Does X.P 11 #[.pointer (some ⟨p, 0, none⟩), x4] w4 fun r w' => RdPostS w4 p 44 n 0 false false dConsumerMemberAssignment ev s1 r w' := by
    obtain ⟨a4, c4, rfl, _⟩ := h4.shape
    refine Does.go (X := X) (l := [_, _]) Tryd.func11 rfl (by kernel_rfl) (by kernel_rfl) _ rfl ?_
    ((conv=>whnf);repeat((first|refine mvT ?_|refine mvF ?_|refine yT ?_|refine yF ?_);conv=>whnf))
    refine Does.mono (readConsumerMemberAssignment (v := 0) (hL.ext hx04 fun f => f) (hop.e0 hx4) (h4.bytes (F := fun k => k ≠ p) fun k hk => by omega) (fun k h => h) (by decide) (by omega) rfl h1) ?_;rintro r w' h;((conv=>whnf);repeat((first|refine mvT ?_|refine mvF ?_|refine yT ?_|refine yF ?_);conv=>whnf))
    exact h
  refine Does.mono hread ?_
  rintro r5 w5 ⟨hr5, hx5, hpost⟩
  have hlg := rdPart_lg (B := 1000) (Nat.le_refl _) 9 0 false dConsumerMemberAssignment hok (by decide) s1 hs1
  generalize rdPart 9 0 false dConsumerMemberAssignment s1 = R at hr5 hpost hlg ⊢
  have hx05 := hx04.st hx5 hwp
  have ho5 := (ho3.e0 hx4).ext hx5 (fun e => hpb e.symm)
  have hbl5 := ho5.lt
  have hsz5 := hx05.size
  cases hbad : R.2.2 with
  | true =>
    rw [hbad, if_pos rfl] at hr5
    obtain ⟨te, xe, hev⟩ := hL.iface
    rw [hev] at hr5
    subst hr5
    ((conv=>whnf);repeat((first|refine mvT ?_|refine mvF ?_|refine yT ?_|refine yF ?_);conv=>whnf))
    refine st_all [.int .i64 0, .slice none 0 0, .bool false, .slice none 0 0, .slice none 0 0] ho5 rfl rfl rfl ?_
    intro w6 ho6 hx6
    ((conv=>whnf);repeat((first|refine mvT ?_|refine mvF ?_|refine yT ?_|refine yF ?_);conv=>whnf))
    refine ⟨_, rfl, ho6.cells, ?_⟩
    exact ⟨_, T.zero, rfl, fun h => (by cases h), ⟨_, rfl, TrC.leaf rfl (Bytes.nil _ _)⟩, hx05.st hx6 hb⟩
  | false =>
    rw [hbad, if_neg Bool.false_ne_true] at hr5
    subst hr5
    obtain ⟨cs, hop5, hq⟩ := hpost hbad
    have hlim := (hlg hbad).1.lim (by decide)
    ((conv=>whnf);repeat((first|refine mvT ?_|refine mvF ?_|refine yT ?_|refine yF ?_);conv=>whnf))
    refine Does.mono (tellConsumerMemberAssignment hop5.cells hq hlim) ?_
    rintro r6 w6 ⟨t', hn6, ⟨cr, rfl, htr⟩, hx6⟩
    obtain ⟨n6, sv6, nl6, lv6, uv6, rfl⟩ := htr.five
    have hok6 := htr.ok
    ((conv=>whnf);repeat((first|refine mvT ?_|refine mvF ?_|refine yT ?_|refine yF ?_);conv=>whnf))
    intro b7 w7 hb7 ho7 hx7
    ((conv=>whnf);repeat((first|refine mvT ?_|refine mvF ?_|refine yT ?_|refine yF ?_);conv=>whnf))
    refine st_all [.int .i64 n6, sv6, .bool nl6, lv6, uv6] ho7 rfl rfl hok6 ?_
    intro w8 ho8 hx8
    have hx68 := hx7.st hx8 hb7
    ((conv=>whnf);repeat((first|refine mvT ?_|refine mvF ?_|refine yT ?_|refine yF ?_);conv=>whnf))
    refine ldS (((hop5.e0 hx6).e0 hx68).cell rfl) ?_;((conv=>whnf);repeat((first|refine mvT ?_|refine mvF ?_|refine yT ?_|refine yF ?_);conv=>whnf))
    rw [hn]
    refine ⟨_, _, ho8, rfl, rfl, rfl, ?_⟩
    intro w9 ho9 hx9
    have ho9 : Own w9 b7 _ [.int .i64 n, sv6, .bool nl6, lv6, uv6] := ho9
    have hx69 := hx68.st hx9 hb7
    ((conv=>whnf);repeat((first|refine mvT ?_|refine mvF ?_|refine yT ?_|refine yF ?_);conv=>whnf))
    refine ⟨_, rfl, ho9.cells, ?_⟩
    ((conv=>whnf);repeat((first|refine mvT ?_|refine mvF ?_|refine yT ?_|refine yF ?_);conv=>whnf))
    refine st_all [.int .i64 n, sv6, .bool nl6, lv6, uv6] ((ho5.e0 hx6).e0 hx69) rfl rfl hok6 ?_
    intro w10 ho10 hx10
    ((conv=>whnf);repeat((first|refine mvT ?_|refine mvF ?_|refine yT ?_|refine yF ?_);conv=>whnf))
    refine ⟨_, rfl, ho10.cells, ?_⟩
    obtain ⟨tn, ts, tnl, tl, tu⟩ := t'
    obtain ⟨_, rfl, hsv, ls, hls, hlen, hr, hu6⟩ := htr.inv2
    have hbl := (ho5.e0 hx6).lt
    have hx610 : Ext (fun k => k = b) w6 w10 := (hx69.mono fun _ _ f => f.elim).trans hx10 fun _ _ h => h
    have hb5 := ho5.lt
    have key : TrC w10 (fun k => w5.heap.size ≤ k) [.int .i64 n, sv6, .bool nl6, lv6, uv6] (setN n (.mk tn ts nl6 tl tu)) :=
      .mk n _ nl6 _ _ _ _ _ ls hn (hsv.ext hx610 fun k _ h e => by omega) (hls.ext hx610 fun k _ h e => by omega) hlen (fun i c t h1 h2 => (hr i c t h1 h2).ext hx610 fun k _ h e => by omega) (hu6.ext hx610 fun k _ h e => by omega)
    exact ⟨_, _, rfl, fun _ => hn6.setN n, ⟨_, rfl, key.mono fun k _ h => by omega⟩, ((hx05.e0 hx6).e0 hx69).st hx10 hb⟩
theorem uanyConsumerMemberAssignment {G : Nat → Prop} {w : World} {x ev : Value} {s : List UInt8} {n : Int} {s1 : Rd} (hL : Laid w ev) (hx : Bytes w G x s) (hs : s.length ≤ 1000) (h1 : rdNum 2 .i16 (s, false) = (numT n, s1)) (hn : IntKind.i64.wrap n = n) (hs1 : s1.1.length ≤ 1000) :
    Does X.P 7 #[x] w fun r w' => ∃ o t', r = .tuple #[o, .bool (!(rdPart 9 0 false dConsumerMemberAssignment s1).2.2)] ∧ ((rdPart 9 0 false dConsumerMemberAssignment s1).2.2 = false → Nrm (setN n (rdPart 9 0 false dConsumerMemberAssignment s1).1) t') ∧ Tr w' (fun k => w.heap.size ≤ k) o t' ∧ Ext nob w w' := by
  have hok : ∀ f, f ∈ dConsumerMemberAssignment → okF 9 f = true := List.all_eq_true.1 (show (dConsumerMemberAssignment).all (okF 9) = true by decide)
  obtain ⟨ax, cx, rfl, _⟩ := hx.view
  have hL1 := hL.lt
  refine Does.go (X := X) (l := [_]) Tryd.func7 rfl (by kernel_rfl) (by kernel_rfl) _ rfl ?_
  ((conv=>whnf);repeat((first|refine mvT ?_|refine mvF ?_|refine yT ?_|refine yF ?_);conv=>whnf))
  intro b w0 hb ho hx0
  ((conv=>whnf);repeat((first|refine mvT ?_|refine mvF ?_|refine yT ?_|refine yF ?_);conv=>whnf))
  refine Does.mono (newConsumerMemberAssignment w0) ?_;rintro r1 w1 ⟨rfl, hx1⟩;((conv=>whnf);repeat((first|refine mvT ?_|refine mvF ?_|refine yT ?_|refine yF ?_);conv=>whnf))
  intro p w2 hp hop hx2
  ((conv=>whnf);repeat((first|refine mvT ?_|refine mvF ?_|refine yT ?_|refine yF ?_);conv=>whnf))
  refine st_all [.int .i16 0, .slice none 0 0, .slice none 0 0] hop rfl rfl rfl ?_
  intro w3 hop hx3
  have hx03 : Ext nob w w3 := (hx0.e0 hx1).e0 (hx2.st hx3 hp)
  have hwp : w.heap.size ≤ p := Nat.le_trans (hx0.e0 hx1).size hp
  have ho3 := (ho.e0 hx1).e0 (hx2.st hx3 hp)
  have hpb : p ≠ b := by have := (ho.e0 hx1).lt; omega
  ((conv=>whnf);repeat((first|refine mvT ?_|refine mvF ?_|refine yT ?_|refine yF ?_);conv=>whnf))
  refine app_bytes rfl rfl (OB.nil w3 w3.heap.size) (hx.e0 hx03).src rfl (by simp only [List.length_nil]; omega) (Nat.le_refl _) ?_
  intro x4 w4 h4 hx4 _ _
  ((conv=>whnf);repeat((first|refine mvT ?_|refine mvF ?_|refine yT ?_|refine yF ?_);conv=>whnf))
  rw [List.nil_append] at h4
  have hx4 : Ext nob w3 w4 := hx4.mono fun k _ h => by simp [Value.ownBlock] at h
  have hx04 := hx03.e0 hx4
  have hpl := hop.lt
  have hread : Does X.P 16 #[.pointer (some ⟨p, 0, none⟩), x4] w4 fun r w' => RdPostS w4 p 44 n 0 false false dConsumerMemberAssignment ev s1 r w' := by
    obtain ⟨a4, c4, rfl, _⟩ := h4.shape
    refine Does.go (X := X) (l := [_, _]) Tryd.func16 rfl (by kernel_rfl) (by kernel_rfl) _ rfl ?_
    ((conv=>whnf);repeat((first|refine mvT ?_|refine mvF ?_|refine yT ?_|refine yF ?_);conv=>whnf))
    refine Does.mono (ureadConsumerMemberAssignment (v := 0) (hL.ext hx04 fun f => f) (hop.e0 hx4) (h4.bytes (F := fun k => k ≠ p) fun k hk => by omega) (fun k h => h) (by decide) (by omega) rfl h1) ?_;rintro r w' h;((conv=>whnf);repeat((first|refine mvT ?_|refine mvF ?_|refine yT ?_|refine yF ?_);conv=>whnf))
    exact h
  refine Does.mono hread ?_
  rintro r5 w5 ⟨hr5, hx5, hpost⟩
  have hlg := rdPart_lg (B := 1000) (Nat.le_refl _) 9 0 false dConsumerMemberAssignment hok (by decide) s1 hs1
  generalize rdPart 9 0 false dConsumerMemberAssignment s1 = R at hr5 hpost hlg ⊢
  have hx05 := hx04.st hx5 hwp
  have ho5 := (ho3.e0 hx4).ext hx5 (fun e => hpb e.symm)
  have hbl5 := ho5.lt
  have hsz5 := hx05.size
  cases hbad : R.2.2 with
  | true =>
    rw [hbad, if_pos rfl] at hr5
    obtain ⟨te, xe, hev⟩ := hL.iface
    rw [hev] at hr5
    subst hr5
    ((conv=>whnf);repeat((first|refine mvT ?_|refine mvF ?_|refine yT ?_|refine yF ?_);conv=>whnf))
    refine st_all [.int .i64 0, .slice none 0 0, .bool false, .slice none 0 0, .slice none 0 0] ho5 rfl rfl rfl ?_
    intro w6 ho6 hx6
    ((conv=>whnf);repeat((first|refine mvT ?_|refine mvF ?_|refine yT ?_|refine yF ?_);conv=>whnf))
    refine ⟨_, rfl, ho6.cells, ?_⟩
    exact ⟨_, T.zero, rfl, fun h => (by cases h), ⟨_, rfl, TrC.leaf rfl (Bytes.nil _ _)⟩, hx05.st hx6 hb⟩
  | false =>
    rw [hbad, if_neg Bool.false_ne_true] at hr5
    subst hr5
    obtain ⟨cs, hop5, hq⟩ := hpost hbad
    have hlim := (hlg hbad).1.lim (by decide)
    ((conv=>whnf);repeat((first|refine mvT ?_|refine mvF ?_|refine yT ?_|refine yF ?_);conv=>whnf))
    refine Does.mono (tellConsumerMemberAssignment hop5.cells hq hlim) ?_
    rintro r6 w6 ⟨t', hn6, ⟨cr, rfl, htr⟩, hx6⟩
    obtain ⟨n6, sv6, nl6, lv6, uv6, rfl⟩ := htr.five
    have hok6 := htr.ok
    ((conv=>whnf);repeat((first|refine mvT ?_|refine mvF ?_|refine yT ?_|refine yF ?_);conv=>whnf))
    intro b7 w7 hb7 ho7 hx7
    ((conv=>whnf);repeat((first|refine mvT ?_|refine mvF ?_|refine yT ?_|refine yF ?_);conv=>whnf))
    refine st_all [.int .i64 n6, sv6, .bool nl6, lv6, uv6] ho7 rfl rfl hok6 ?_
    intro w8 ho8 hx8
    have hx68 := hx7.st hx8 hb7
    ((conv=>whnf);repeat((first|refine mvT ?_|refine mvF ?_|refine yT ?_|refine yF ?_);conv=>whnf))
    refine ldS (((hop5.e0 hx6).e0 hx68).cell rfl) ?_;((conv=>whnf);repeat((first|refine mvT ?_|refine mvF ?_|refine yT ?_|refine yF ?_);conv=>whnf))
    rw [hn]
    refine ⟨_, _, ho8, rfl, rfl, rfl, ?_⟩
    intro w9 ho9 hx9
    have ho9 : Own w9 b7 _ [.int .i64 n, sv6, .bool nl6, lv6, uv6] := ho9
    have hx69 := hx68.st hx9 hb7
    ((conv=>whnf);repeat((first|refine mvT ?_|refine mvF ?_|refine yT ?_|refine yF ?_);conv=>whnf))
    refine ⟨_, rfl, ho9.cells, ?_⟩
    ((conv=>whnf);repeat((first|refine mvT ?_|refine mvF ?_|refine yT ?_|refine yF ?_);conv=>whnf))
    refine st_all [.int .i64 n, sv6, .bool nl6, lv6, uv6] ((ho5.e0 hx6).e0 hx69) rfl rfl hok6 ?_
    intro w10 ho10 hx10
    ((conv=>whnf);repeat((first|refine mvT ?_|refine mvF ?_|refine yT ?_|refine yF ?_);conv=>whnf))
    refine ⟨_, rfl, ho10.cells, ?_⟩
    obtain ⟨tn, ts, tnl, tl, tu⟩ := t'
    obtain ⟨_, rfl, hsv, ls, hls, hlen, hr, hu6⟩ := htr.inv2
    have hbl := (ho5.e0 hx6).lt
    have hx610 : Ext (fun k => k = b) w6 w10 := (hx69.mono fun _ _ f => f.elim).trans hx10 fun _ _ h => h
    have hb5 := ho5.lt
    have key : TrC w10 (fun k => w5.heap.size ≤ k) [.int .i64 n, sv6, .bool nl6, lv6, uv6] (setN n (.mk tn ts nl6 tl tu)) :=
      .mk n _ nl6 _ _ _ _ _ ls hn (hsv.ext hx610 fun k _ h e => by omega) (hls.ext hx610 fun k _ h e => by omega) hlen (fun i c t h1 h2 => (hr i c t h1 h2).ext hx610 fun k _ h e => by omega) (hu6.ext hx610 fun k _ h e => by omega)
    exact ⟨_, _, rfl, fun _ => hn6.setN n, ⟨_, rfl, key.mono fun k _ h => by omega⟩, ((hx05.e0 hx6).e0 hx69).st hx10 hb⟩
theorem rdNum_in (l : List UInt8) : ∃ n s1, rdNum 2 .i16 (l, false) = (numT n, s1) ∧ IntKind.i64.wrap n = n ∧ s1.1.length ≤ l.length := by
  refine ⟨_, _, rfl, ?_, ?_⟩
  · have := wrap_i16 ((rdK 2 (l, false)).1 : Int)
    refine i64_of ?_ ?_ <;> omega
  · exact rdK_sk 2 (l, false)
theorem walkConsumerMemberAssignment {w : World} {y ev : Value} {l : List UInt8} (hL : Laid w ev) (hy : Bytes w anyB y l) : Does X.P 3 #[y] w fun r w' => r = .bool true ∧ Ext nob w w' := by
  have hoko : ∀ f, f ∈ oConsumerMemberAssignment → okF 9 f = true := List.all_eq_true.1 (show (oConsumerMemberAssignment).all (okF 9) = true by decide)
  have hok : ∀ f, f ∈ dConsumerMemberAssignment → okF 9 f = true := List.all_eq_true.1 (show (dConsumerMemberAssignment).all (okF 9) = true by decide)
  obtain ⟨ay, cy, rfl, _⟩ := hy.view
  refine Does.go (X := X) (l := [_]) Tryd.func3 rfl (by kernel_rfl) (by kernel_rfl) _ rfl ?_
  ((conv=>whnf);repeat((first|refine mvT ?_|refine mvF ?_|refine yT ?_|refine yF ?_);conv=>whnf))
  refine cI (by rfl) (fun h0=>?_) (fun h0=>?_)
  · ((conv=>whnf);repeat((first|refine mvT ?_|refine mvF ?_|refine yT ?_|refine yF ?_);conv=>whnf))
    exact ⟨rfl, Ext.refl _ _⟩
  ((conv=>whnf);repeat((first|refine mvT ?_|refine mvF ?_|refine yT ?_|refine yF ?_);conv=>whnf))
  refine cI (by rfl) (fun h2=>?_) (fun h2=>?_)
  · ((conv=>whnf);repeat((first|refine mvT ?_|refine mvF ?_|refine yT ?_|refine yF ?_);conv=>whnf))
    exact ⟨rfl, Ext.refl _ _⟩
  have hl1 : l.length ≤ 1000 := by have := of_decide_eq_false h2; omega
  ((conv=>whnf);repeat((first|refine mvT ?_|refine mvF ?_|refine yT ?_|refine yF ?_);conv=>whnf))
  refine Does.mono (sConsumerMemberAssignment w) ?_;rintro r1 w1 ⟨⟨fv, rfl, hfd⟩, hx1⟩;((conv=>whnf);repeat((first|refine mvT ?_|refine mvF ?_|refine yT ?_|refine yF ?_);conv=>whnf))
  have e10 : fixed 0 2 ++ partB 9 0 (flexB (-1) 0) oConsumerMemberAssignment T.zero = [0, 0, 0, 0, 0, 0, 0, 0, 0, 0] := by decide
  have hlen : (partB 9 0 (flexB (-1) 0) oConsumerMemberAssignment T.zero).length ≤ 105000000000000 := by decide
  refine Does.mono (kept_does 9 (v := 0) (t := T.zero) (G := anyB) ⟨_, rfl, hfd⟩ ⟨_, rfl, TrC.leaf rfl (Bytes.nil _ _)⟩ hoko (by decide) hlen) ?_
  rintro r2 w2 ⟨hr2, hx2⟩
  rw [e10] at hr2
  obtain ⟨a2, c2, rfl, _⟩ := hr2.shape
  have hx02 := hx1.e0 hx2
  ((conv=>whnf);repeat((first|refine mvT ?_|refine mvF ?_|refine yT ?_|refine yF ?_);conv=>whnf))
  have hgood : (rdPart 9 0 false dConsumerMemberAssignment ([0, 0, 0, 0, 0, 0, 0, 0], false)).2.2 = false := by decide
  refine Does.mono (anyConsumerMemberAssignment (n := 0) (s1 := ([0, 0, 0, 0, 0, 0, 0, 0], false)) (hL.ext hx02 fun f => f) hr2.bytesAny (by decide) (by rfl) rfl (by decide)) ?_
  rw [hgood]
  rintro r3 w30 ⟨o3, t3, rfl, _, ⟨c3, rfl, hc3⟩, hx3⟩
  have hlen3 := hc3.len
  have hok3 := hc3.ok
  ((conv=>whnf);repeat((first|refine mvT ?_|refine mvF ?_|refine yT ?_|refine yF ?_);conv=>whnf))
  intro b3 w31 hb3 ho3 hx31
  ((conv=>whnf);repeat((first|refine mvT ?_|refine mvF ?_|refine yT ?_|refine yF ?_);conv=>whnf))
  refine st_all c3 ho3 hlen3 rfl hok3 ?_
  intro w3 ho3 hx32
  have hx03 := (hx02.e0 hx3).e0 (hx31.st hx32 hb3)
  ((conv=>whnf);repeat((first|refine mvT ?_|refine mvF ?_|refine yT ?_|refine yF ?_);conv=>whnf))
  obtain ⟨n, s1, hn1, hn, hs1⟩ := rdNum_in l
  have hs1 : s1.1.length ≤ 1000 := by omega
  refine Does.mono (anyConsumerMemberAssignment (hL.ext hx03 fun f => f) (hy.e0 hx03) hl1 hn1 hn hs1) ?_
  rintro r4 w4 ⟨o4, t4, rfl, hn4, ⟨c4, rfl, hc4⟩, hx4⟩
  have hlen4 := hc4.len
  have hok4 := hc4.ok
  ((conv=>whnf);repeat((first|refine mvT ?_|refine mvF ?_|refine yT ?_|refine yF ?_);conv=>whnf))
  intro b5 w5 hb5 ho5 hx5
  ((conv=>whnf);repeat((first|refine mvT ?_|refine mvF ?_|refine yT ?_|refine yF ?_);conv=>whnf))
  refine st_all c4 ho5 hlen4 rfl hok4 ?_
  intro w6 ho6 hx6
  have hx46 : Ext nob w4 w6 := hx5.st hx6 hb5
  have hx06 := (hx03.e0 hx4).e0 hx46
  ((conv=>whnf);repeat((first|refine mvT ?_|refine mvF ?_|refine yT ?_|refine yF ?_);conv=>whnf))
  refine Does.mono (uanyConsumerMemberAssignment (hL.ext hx06 fun f => f) (hy.e0 hx06) hl1 hn1 hn hs1) ?_
  rintro r7 w7 ⟨o7, t7, rfl, hn7, ⟨c7, rfl, hc7⟩, hx7⟩
  have hlen7 := hc7.len
  have hok7 := hc7.ok
  ((conv=>whnf);repeat((first|refine mvT ?_|refine mvF ?_|refine yT ?_|refine yF ?_);conv=>whnf))
  intro b8 w8 hb8 ho8 hx8
  ((conv=>whnf);repeat((first|refine mvT ?_|refine mvF ?_|refine yT ?_|refine yF ?_);conv=>whnf))
  refine st_all c7 ho8 hlen7 rfl hok7 ?_
  intro w9 ho9 hx9
  have hx79 : Ext nob w7 w9 := hx8.st hx9 hb8
  have hx09 := (hx06.e0 hx7).e0 hx79
  have hlg := rdPart_lg (B := 1000) (Nat.le_refl _) 9 0 false dConsumerMemberAssignment hok (by decide) s1 hs1
  have hxd : Ext nob w9 w9.drew := ext_drew _
  have ho6d := (ho6.e0 hx7).e0 (hx79.e0 hxd)
  have ho9d := ho9.e0 hxd
  have hc4d := ((hc4.e0 hx46).e0 hx7).e0 (hx79.e0 hxd)
  have hc7d := hc7.e0 (hx79.e0 hxd)
  generalize rdPart 9 0 false dConsumerMemberAssignment s1 = R at hn4 hn7 hlg ⊢
  cases hbad : R.2.2 with
  | true =>
    ((conv=>whnf);repeat((first|refine mvT ?_|refine mvF ?_|refine yT ?_|refine yF ?_);conv=>whnf))
    refine VD.draw mixed (.q 0 (.q 1 (.q 2 (.q 3 (.q 4 (.q 5 (.q 6 (.q 7 (.q 8 (.q 9 (.q 10 (.q 12 (.eff 11 [12] (.eff 13 [] (.eff 14 [] (.q 15 (.q 16 (.eff 17 [] (.done))))))))))))))))))) (by kernel_rfl) ?_;((conv=>whnf);repeat((first|refine mvT ?_|refine mvF ?_|refine yT ?_|refine yF ?_);conv=>whnf))
    refine ⟨by (conv => whnf); exact ⟨⟨rfl, rfl⟩, trivial⟩, ?_⟩
    ((conv=>whnf);repeat((first|refine mvT ?_|refine mvF ?_|refine yT ?_|refine yF ?_);conv=>whnf))
    exact ⟨rfl, hx09.e0 hxd⟩
  | false =>
    have hlm := (hlg hbad).1
    have hlim := (hlm.lim (by decide)).setN hn
    have hN4 := hn4 hbad
    have hN7 := hn7 hbad
    have hsm4 := Nrm.small hlim hN4
    obtain rfl := Nrm.same hlim hN4 hN7
    ((conv=>whnf);repeat((first|refine mvT ?_|refine mvF ?_|refine yT ?_|refine yF ?_);conv=>whnf))
    refine VD.draw mixed (.q 0 (.q 1 (.q 2 (.q 3 (.q 4 (.q 5 (.q 6 (.q 7 (.q 8 (.q 9 (.q 10 (.q 12 (.eff 11 [12] (.eff 13 [] (.eff 14 [] (.q 15 (.q 16 (.eff 17 [] (.done))))))))))))))))))) (by kernel_rfl) ?_;((conv=>whnf);repeat((first|refine mvT ?_|refine mvF ?_|refine yT ?_|refine yF ?_);conv=>whnf))
    refine ⟨c4, hlen4, ho6d.cells, ?_⟩
    ((conv=>whnf);repeat((first|refine mvT ?_|refine mvF ?_|refine yT ?_|refine yF ?_);conv=>whnf))
    refine ⟨c7, hlen7, ho9d.cells, ?_⟩
    ((conv=>whnf);repeat((first|refine mvT ?_|refine mvF ?_|refine yT ?_|refine yF ?_);conv=>whnf))
    refine Does.mono (got_does ⟨_, rfl, hc4d⟩ hsm4) ?_
    rintro r10 w10 ⟨hr10, hx10⟩
    refine ⟨by (conv => whnf); exact ⟨⟨c7, hlen7, (ho9d.e0 hx10).cells, rfl, rfl⟩, trivial⟩, ?_⟩
    ((conv=>whnf);repeat((first|refine mvT ?_|refine mvF ?_|refine yT ?_|refine yF ?_);conv=>whnf))
    refine Does.mono (got_does ⟨_, rfl, hc7d.e0 hx10⟩ hsm4) ?_
    rintro r11 w11 ⟨hr11, hx11⟩
    ((conv=>whnf);repeat((first|refine mvT ?_|refine mvF ?_|refine yT ?_|refine yF ?_);conv=>whnf))
    refine Does.mono (same_does (hr10.e0 hx11) hr11) ?_
    rintro r12 w12 ⟨rfl, hx12⟩
    ((conv=>whnf);repeat((first|refine mvT ?_|refine mvF ?_|refine yT ?_|refine yF ?_);conv=>whnf))
    exact ⟨rfl, (((hx09.e0 hxd).e0 hx10).e0 hx11).e0 hx12⟩
end Go.Proofs.YtefgfdbckbkfiaaDoor.K
