/- StreamsGroupHeartbeatResponse is read and told. -/
import Derived.Test.YtepamajphjgigaaGreatDoorU6
import Derived.Test.YtepamajphjgigaaGreatDoorU8
import Derived.Test.YtepamajphjgigaaGreatDoorV59
import Derived.Test.YtepamajphjgigaaGreatDoorU9
import Derived.Test.YtepamajphjgigaaGreatDoorGversion
import Derived.Test.YtepamajphjgigaaGreatDoorP1
set_option linter.unusedVariables false
set_option linter.unusedSimpArgs false
namespace Go.Proofs.YtepamajphjgigaaGreatDoor.K
open Go
set_option maxHeartbeats 4000000
set_option maxRecDepth 100000

theorem tgStreamsGroupHeartbeatResponseStatus : TellsT 70 := by
  intro w N bt T lv bv F u x hI hN hbt hu hk hx hxl
  obtain ⟨uv, ho, hT⟩ := hI
  obtain ⟨av, cv, rfl, _⟩ := hx.view
  obtain ⟨au, nu, cu, rfl⟩ := hT.one
  refine Does.go (X := X) (l := [_, _, _]) Tryz.func70 rfl (by kernel_rfl) (by kernel_rfl) _ rfl ?_
  ((conv=>whnf);repeat((first|refine mvT ?_|refine mvF ?_|refine yT ?_|refine yF ?_);conv=>whnf))
  refine VD.draw mixed (.q 0 (.q 1 (.q 2 (.q 3 (.eff 4 [1] (.q 5 (.eff 6 [1] (.eff 7 [] (.q 8 (.eff 9 [] (.done))))))))))) (by kernel_rfl) ?_;((conv=>whnf);repeat((first|refine mvT ?_|refine mvF ?_|refine yT ?_|refine yF ?_);conv=>whnf))
  have hxd : Ext nob w w.drew := ext_drew _
  refine ldS ((ho.e0 hxd).cell rfl) ?_;((conv=>whnf);repeat((first|refine mvT ?_|refine mvF ?_|refine yT ?_|refine yF ?_);conv=>whnf))
  refine app_bytes rfl rfl (OB.nil w.drew w.drew.heap.size) (hx.e0 hxd).src rfl (by simp only [List.length_nil]; omega) (Nat.le_refl _) ?_
  intro v3 w3 h3 hx3 _ _
  rw [List.nil_append] at h3
  have hx3 : Ext nob w w3 := hxd.e0 (hx3.mono fun k _ h => by simp [Value.ownBlock] at h)
  obtain ⟨a3, c3, rfl, _⟩ := h3.shape
  refine ⟨by (conv => whnf); exact ⟨⟨_, (ho.e0 hx3).cell rfl, rfl, rfl⟩, trivial⟩, ?_⟩
  ((conv=>whnf);repeat((first|refine mvT ?_|refine mvF ?_|refine yT ?_|refine yF ?_);conv=>whnf))
  intro b4 w4 hb4 ho4 hx4
  have ho4 : Own w4 b4 TGT [.int .u32 (x.1 : Int), .slice a3 x.2.length c3] := ho4
  have hx04 := hx3.e0 hx4
  refine ⟨by (conv => whnf); exact ⟨⟨_, (ho.e0 hx04).cell rfl, rfl, rfl⟩, trivial⟩, ?_⟩
  ((conv=>whnf);repeat((first|refine mvT ?_|refine mvF ?_|refine yT ?_|refine yF ?_);conv=>whnf))
  have hs3 := hx3.size
  have hown : ∀ k, (Value.slice au nu cu).ownBlock = some k → N ≤ k ∧ k < w.heap.size := fun k hk => by
    obtain ⟨ls, h1, _⟩ := hT
    exact ⟨h1.blk k hk, h1.own.lt k hk⟩
  have hwd : w.drew.heap.size = w.heap.size := rfl
  refine OTn.app (hT.ext hx04 fun _ _ _ f => f) rfl ho4 rfl rfl rfl hu (by decide) (Nat.le_trans hN hx04.size) hk ((h3.e0 hx4).bytes fun k hk => ⟨by omega, fun e => by have := hown k e; omega⟩) ?_
  intro v5 w5 hT5 hx5
  obtain ⟨a5, n5, c5, rfl⟩ := hT5.one
  have hob := (ho.e0 hx04).ext hx5 fun h => by have := hown bt h; omega
  ((conv=>whnf);repeat((first|refine mvT ?_|refine mvF ?_|refine yT ?_|refine yF ?_);conv=>whnf))
  refine st_cell (o := 4) (v := .slice a5 n5 c5) hob rfl (by omega) rfl (by simp) rfl ?_
  intro w6 ho6 hx6
  ((conv=>whnf);repeat((first|refine mvT ?_|refine mvF ?_|refine yT ?_|refine yF ?_);conv=>whnf))
  refine ⟨⟨_, ho6, hT5.ext hx6 fun k _ h1 h2 => by omega⟩, ?_⟩
  refine (hx04.mono fun _ _ f => f.elim).trans ((hx5.mono (M' := fun j => j = bt ∨ N ≤ j) fun k _ h => .inr (hown k h).1).trans hx6 fun k _ h => .inl h) fun _ _ h => h
theorem tellStreamsGroupHeartbeatResponseStatus {w0 : World} {F : Nat → Prop} {q o : Nat} {cs : List Value} {t : T} (hq : Cells w0 q o cs) (hQ : QPart true 8 dStreamsGroupHeartbeatResponseStatus ⟨w0, F⟩ cs t) (hlim : LimT t) :
    Does X.P 31 #[.pointer (some ⟨q, o, none⟩)] w0 fun r w' => ∃ t', Nrm t t' ∧ Tr w' (fun k => w0.heap.size ≤ k) r t' ∧ Ext nob w0 w' := by
  obtain ⟨_, _, u_, m, rfl, rfl, hA0, hm⟩ := iP hQ
  clear hQ
  obtain ⟨cc0, _, x0, _, rfl, rfl, h0, hA1⟩ := iA hA0
  obtain ⟨n0, hn0, rfl, rfl⟩ : ∃ n, IntKind.i8.wrap n = n ∧ cc0 = [.int .i8 n] ∧ x0 = numT n := h0
  obtain ⟨cc1, _, x1, _, rfl, rfl, h1, hA2⟩ := iA hA1
  obtain ⟨s1, rfl, rfl⟩ := iF8 (by decide) h1
  obtain ⟨rfl, rfl⟩ := hA2
  cases hlim
  rename_i hU hKU hDU hLs hu0 hs0 hd0
  have hq : Cells w0 q o [.int .i8 n0, str s1, m] := hq
  have hw0 : IntKind.i64.wrap n0 = n0 := by have := hLs (numT n0) (by simp); cases this; assumption
  refine Does.go (X := X) (l := [_]) Tryz.func31 rfl (by kernel_rfl) (by kernel_rfl) _ rfl ?_
  ((conv=>whnf);repeat((first|refine mvT ?_|refine mvF ?_|refine yT ?_|refine yF ?_);conv=>whnf))
  intro b2 w1 hb2 ho2 hx1
  ((conv=>whnf);repeat((first|refine mvT ?_|refine mvF ?_|refine yT ?_|refine yF ?_);conv=>whnf))
  refine ⟨⟨by decide, by decide, by decide, by decide⟩, ⟨by decide, rfl⟩, ?_⟩
  intro bl w2 hbl hol hx2
  ((conv=>whnf);repeat((first|refine mvT ?_|refine mvF ?_|refine yT ?_|refine yF ?_);conv=>whnf))
  intro bt w3 hbt hot hx3
  ((conv=>whnf);repeat((first|refine mvT ?_|refine mvF ?_|refine yT ?_|refine yF ?_);conv=>whnf))
  have hzz : w0.heap.size ≤ w1.heap.size := hx1.size
  have H := (((Sg.start w0).push hx1 ho2 hb2).push hx2 hol hbl).push hx3 hot hbt
  refine Sg.st (A := []) (o' := 0) (m := [.int .i64 0, .slice none 0 0, .bool false, .slice (some ⟨bl, 0, none⟩) 2 2, .slice none 0 0]) H rfl (Nat.le_of_ble_eq_true rfl) rfl ?_
  clear H hot hol ho2 hx1 hx2 hx3
  intro w H
  obtain ⟨Tt, Tl, T2, H⟩ : ∃ Tt Tl T2, Sg w0 [(bt, Tt, [.int .i64 0, .slice none 0 0, .bool false, .slice (some ⟨bl, 0, none⟩) 2 2, .slice none 0 0]), (bl, Tl, [.int .i64 0, .slice none 0 0, .bool false, .slice none 0 0, .slice none 0 0, .int .i64 0, .slice none 0 0, .bool false, .slice none 0 0, .slice none 0 0]), (b2, T2, [.int .i64 0, .slice none 0 0, .bool false, .slice none 0 0, .slice none 0 0])] (fun _ => True) w := ⟨_, _, _, H⟩
  have hb2w : w0.heap.size ≤ b2 := hb2
  have hblw : w0.heap.size ≤ bl := by omega
  have hbtw : w0.heap.size ≤ bt := by have := H.dis.1; exact this
  ((conv=>whnf);repeat((first|refine mvT ?_|refine mvF ?_|refine yT ?_|refine yF ?_);conv=>whnf))
  refine VD.draw mixed (.q 0 (.q 1 (.q 2 (.q 3 (.q 4 (.q 5 (.q 6 (.q 7 (.q 8 (.eff 9 [] (.done))))))))))) (by kernel_rfl) ?_;((conv=>whnf);repeat((first|refine mvT ?_|refine mvF ?_|refine yT ?_|refine yF ?_);conv=>whnf))
  replace H := H.e0 (ext_drew _)
  refine ldS ((Sg.at (A := []) H).cell rfl) ?_;((conv=>whnf);repeat((first|refine mvT ?_|refine mvF ?_|refine yT ?_|refine yF ?_);conv=>whnf))
  refine ⟨_, ld ((hq.e0 H.ext).cell (j := 0) rfl) (by simp), ?_⟩
  ((conv=>whnf);repeat((first|refine mvT ?_|refine mvF ?_|refine yT ?_|refine yF ?_);conv=>whnf))
  refine ⟨bl, 0, rfl, ⟨by omega, by omega⟩, ?_⟩
  ((conv=>whnf);repeat((first|refine mvT ?_|refine mvF ?_|refine yT ?_|refine yF ?_);conv=>whnf))
  refine Sg.st (A := [_]) (o' := 0) (m := [.int .i64 (IntKind.i64.wrap n0), .slice none 0 0, .bool false, .slice none 0 0, .slice none 0 0]) H rfl (Nat.le_of_ble_eq_true rfl) (rfl) ?_
  clear H
  intro w H
  rw [hw0] at H
  replace H : Sg w0 [(bt, Tt, [.int .i64 0, .slice none 0 0, .bool false, .slice (some ⟨bl, 0, none⟩) 2 2, .slice none 0 0]), (bl, Tl, [.int .i64 n0, .slice none 0 0, .bool false, .slice none 0 0, .slice none 0 0, .int .i64 0, .slice none 0 0, .bool false, .slice none 0 0, .slice none 0 0]), (b2, T2, [.int .i64 0, .slice none 0 0, .bool false, .slice none 0 0, .slice none 0 0])] (fun _ => True) w := H
  ((conv=>whnf);repeat((first|refine mvT ?_|refine mvF ?_|refine yT ?_|refine yF ?_);conv=>whnf))
  refine VD.draw mixed (.q 0 (.q 1 (.q 2 (.q 3 (.q 4 (.q 5 (.eff 6 [1] (.q 7 (.q 8 (.eff 9 [] (.done))))))))))) (by kernel_rfl) ?_;((conv=>whnf);repeat((first|refine mvT ?_|refine mvF ?_|refine yT ?_|refine yF ?_);conv=>whnf))
  replace H := H.e0 (ext_drew _)
  refine ldS ((Sg.at (A := []) H).cell rfl) ?_;((conv=>whnf);repeat((first|refine mvT ?_|refine mvF ?_|refine yT ?_|refine yF ?_);conv=>whnf))
  refine ⟨_, ld ((hq.e0 H.ext).cell (j := 1) rfl) (by simp), ?_⟩
  ((conv=>whnf);repeat((first|refine mvT ?_|refine mvF ?_|refine yT ?_|refine yF ?_);conv=>whnf))
  refine ⟨by show s1.length ≤ maxLen; have := hLs (.mk 0 s1 false [] []) (by simp); cases this; rw [maxLen_eq]; omega, ?_⟩
  intro bb1 cb1 wb1 hbb1 hbl1 hC1 hcp1 hxb1
  have hC1 : Cells wb1 bb1 0 (s1.map bcell) := hC1
  have hcp1 : s1.length ≤ cb1 ∧ cb1 ≤ maxLen := hcp1
  have H := H.keepN (H.e0 hxb1) (trL [.int .i64 0, .slice (some ⟨bb1, 0, none⟩) s1.length cb1, .bool false, .slice none 0 0, .slice none 0 0] (.mk 0 s1 false [] [])) (F := fun k => _ ≤ k) (TrC.leaf rfl (conv_bytes hbb1 hbl1 hC1 hcp1)) fun k h => h
  refine ⟨by (conv => whnf); exact ⟨⟨_, (Sg.at (A := []) H).cell rfl, rfl, rfl⟩, trivial⟩, ?_⟩
  ((conv=>whnf);repeat((first|refine mvT ?_|refine mvF ?_|refine yT ?_|refine yF ?_);conv=>whnf))
  refine ⟨bl, 0, rfl, ⟨by omega, by omega⟩, ?_⟩
  ((conv=>whnf);repeat((first|refine mvT ?_|refine mvF ?_|refine yT ?_|refine yF ?_);conv=>whnf))
  refine Sg.st (A := [_]) (o' := 5) (m := [.int .i64 0, .slice (some ⟨bb1, 0, none⟩) s1.length cb1, .bool false, .slice none 0 0, .slice none 0 0]) H rfl (Nat.le_of_ble_eq_true rfl) (rfl) ?_
  clear H
  intro w H
  obtain ⟨P1, hP1⟩ : ∃ P : World → Prop, P = fun w => TrC w (fun k => w0.heap.size ≤ k) [.int .i64 0, .slice (some ⟨bb1, 0, none⟩) s1.length cb1, .bool false, .slice none 0 0, .slice none 0 0] (.mk 0 s1 false [] []) ∧ True := ⟨_, rfl⟩
  replace H : Sg w0 [(bt, Tt, [.int .i64 0, .slice none 0 0, .bool false, .slice (some ⟨bl, 0, none⟩) 2 2, .slice none 0 0]), (bl, Tl, [.int .i64 n0, .slice none 0 0, .bool false, .slice none 0 0, .slice none 0 0, .int .i64 0, .slice (some ⟨bb1, 0, none⟩) s1.length cb1, .bool false, .slice none 0 0, .slice none 0 0]), (b2, T2, [.int .i64 0, .slice none 0 0, .bool false, .slice none 0 0, .slice none 0 0])] P1 w := by rw [hP1]; exact H
  ((conv=>whnf);repeat((first|refine mvT ?_|refine mvF ?_|refine yT ?_|refine yF ?_);conv=>whnf))
  have hql : q < w0.heap.size := World.block_lt_of_cell? w0 _ (hq.cell (j := 0) rfl)
  have hm2 : TagsR w (fun k => F k ∧ k < w0.heap.size) m u_ := (hm.mono (F' := fun k => F k ∧ k < w0.heap.size) fun k h1 h2 => ⟨h2, h1⟩).ext H.ext fun _ _ _ f => f
  refine Does.mono (EachT tgStreamsGroupHeartbeatResponseStatus ((hq.e0 H.ext).cell (j := 2) rfl) hm2 hd0 hu0 hs0 (Sg.at (A := []) H) (by omega) (fun k _ h e => by have := h.2; omega)) ?_
  rintro r w2 ⟨u', uv, hperm, hpw, hob, hT, hxe⟩
  have hLlt := H.own.lt
  have hw02 := H.ext.size
  have H2 := Sg.up (A := []) H hob hxe
  obtain ⟨auv, nuv, cuv, rfl⟩ := hT.one
  have H := H2.add (Q := fun w => TgsR w (fun k => w0.heap.size ≤ k) (.slice auv nuv cuv) u') fun w3 x => (hT.ext x fun k hk h1 h2 => by
    have h3 : k < w.heap.size := hLlt k (by rcases inL3 h2 with h | h | h <;> subst h <;> simp [inL])
    omega).tgs fun k hk => by omega
  clear H2
  ((conv=>whnf);repeat((first|refine mvT ?_|refine mvF ?_|refine yT ?_|refine yF ?_);conv=>whnf))
  refine ldS ((Sg.at (A := []) H).cell rfl) ?_;((conv=>whnf);repeat((first|refine mvT ?_|refine mvF ?_|refine yT ?_|refine yF ?_);conv=>whnf))
  refine Does.mono (sorted_does H.now.1 hpw (by rw [hperm.length_eq]; exact hu0)) ?_
  rintro r w3 hx3
  replace H := H.e0 hx3
  ((conv=>whnf);repeat((first|refine mvT ?_|refine mvF ?_|refine yT ?_|refine yF ?_);conv=>whnf))
  refine ⟨_, rfl, (Sg.at (A := []) H).cells, ?_⟩
  ((conv=>whnf);repeat((first|refine mvT ?_|refine mvF ?_|refine yT ?_|refine yF ?_);conv=>whnf))
  refine Sg.st (A := [_, _]) (o' := 0) (m := [.int .i64 0, .slice none 0 0, .bool false, .slice (some ⟨bl, 0, none⟩) 2 2, .slice auv nuv cuv]) H rfl (Nat.le_of_ble_eq_true rfl) rfl ?_
  clear H
  intro w H
  ((conv=>whnf);repeat((first|refine mvT ?_|refine mvF ?_|refine yT ?_|refine yF ?_);conv=>whnf))
  refine ⟨_, rfl, (Sg.at (A := [_, _]) H).cells, ?_⟩
  have hP := H.now
  rw [hP1] at hP
  have hbl := Sg.at (A := [_]) H
  refine ⟨.mk 0 [] false [numT n0, .mk 0 s1 false [] []] u', ?_, ⟨_, rfl, .mk 0 [] false [numT n0, .mk 0 s1 false [] []] u' _ _ _ [[.int .i64 n0, .slice none 0 0, .bool false, .slice none 0 0, .slice none 0 0], [.int .i64 0, .slice (some ⟨bb1, 0, none⟩) s1.length cb1, .bool false, .slice none 0 0, .slice none 0 0]] rfl (Bytes.nil _ _) (rows_sl hbl (by simp) rfl (by rw [maxLen_eq]; decide) hblw) rfl ?_ hP.1⟩, H.ext⟩
  · refine .mk _ _ _ _ _ _ _ rfl ?_ hperm hpw
    intro i x y hx hy
    match i, hx, hy with
    | 0, hx, hy => simp only [List.getElem?_cons_succ, List.getElem?_cons_zero, Option.some.injEq] at hx hy; subst hx; subst hy; exact Nrm.leaf _ _ _
    | 1, hx, hy => simp only [List.getElem?_cons_succ, List.getElem?_cons_zero, Option.some.injEq] at hx hy; subst hx; subst hy; exact Nrm.leaf _ _ _
  · intro i x y hx hy
    match i, hx, hy with
    | 0, hx, hy => simp only [List.getElem?_cons_succ, List.getElem?_cons_zero, Option.some.injEq] at hx hy; subst hx; subst hy; exact TrC.leaf hw0 (Bytes.nil _ _)
    | 1, hx, hy => simp only [List.getElem?_cons_succ, List.getElem?_cons_zero, Option.some.injEq] at hx hy; subst hx; subst hy; exact hP.2.1
theorem tgTaskIDs : TellsT 71 := by
  intro w N bt T lv bv F u x hI hN hbt hu hk hx hxl
  obtain ⟨uv, ho, hT⟩ := hI
  obtain ⟨av, cv, rfl, _⟩ := hx.view
  obtain ⟨au, nu, cu, rfl⟩ := hT.one
  refine Does.go (X := X) (l := [_, _, _]) Tryz.func71 rfl (by kernel_rfl) (by kernel_rfl) _ rfl ?_
  ((conv=>whnf);repeat((first|refine mvT ?_|refine mvF ?_|refine yT ?_|refine yF ?_);conv=>whnf))
  refine VD.draw mixed (.q 0 (.q 1 (.q 2 (.q 3 (.eff 4 [1] (.q 5 (.eff 6 [1] (.eff 7 [] (.q 8 (.eff 9 [] (.done))))))))))) (by kernel_rfl) ?_;((conv=>whnf);repeat((first|refine mvT ?_|refine mvF ?_|refine yT ?_|refine yF ?_);conv=>whnf))
  have hxd : Ext nob w w.drew := ext_drew _
  refine ldS ((ho.e0 hxd).cell rfl) ?_;((conv=>whnf);repeat((first|refine mvT ?_|refine mvF ?_|refine yT ?_|refine yF ?_);conv=>whnf))
  refine app_bytes rfl rfl (OB.nil w.drew w.drew.heap.size) (hx.e0 hxd).src rfl (by simp only [List.length_nil]; omega) (Nat.le_refl _) ?_
  intro v3 w3 h3 hx3 _ _
  rw [List.nil_append] at h3
  have hx3 : Ext nob w w3 := hxd.e0 (hx3.mono fun k _ h => by simp [Value.ownBlock] at h)
  obtain ⟨a3, c3, rfl, _⟩ := h3.shape
  refine ⟨by (conv => whnf); exact ⟨⟨_, (ho.e0 hx3).cell rfl, rfl, rfl⟩, trivial⟩, ?_⟩
  ((conv=>whnf);repeat((first|refine mvT ?_|refine mvF ?_|refine yT ?_|refine yF ?_);conv=>whnf))
  intro b4 w4 hb4 ho4 hx4
  have ho4 : Own w4 b4 TGT [.int .u32 (x.1 : Int), .slice a3 x.2.length c3] := ho4
  have hx04 := hx3.e0 hx4
  refine ⟨by (conv => whnf); exact ⟨⟨_, (ho.e0 hx04).cell rfl, rfl, rfl⟩, trivial⟩, ?_⟩
  ((conv=>whnf);repeat((first|refine mvT ?_|refine mvF ?_|refine yT ?_|refine yF ?_);conv=>whnf))
  have hs3 := hx3.size
  have hown : ∀ k, (Value.slice au nu cu).ownBlock = some k → N ≤ k ∧ k < w.heap.size := fun k hk => by
    obtain ⟨ls, h1, _⟩ := hT
    exact ⟨h1.blk k hk, h1.own.lt k hk⟩
  have hwd : w.drew.heap.size = w.heap.size := rfl
  refine OTn.app (hT.ext hx04 fun _ _ _ f => f) rfl ho4 rfl rfl rfl hu (by decide) (Nat.le_trans hN hx04.size) hk ((h3.e0 hx4).bytes fun k hk => ⟨by omega, fun e => by have := hown k e; omega⟩) ?_
  intro v5 w5 hT5 hx5
  obtain ⟨a5, n5, c5, rfl⟩ := hT5.one
  have hob := (ho.e0 hx04).ext hx5 fun h => by have := hown bt h; omega
  ((conv=>whnf);repeat((first|refine mvT ?_|refine mvF ?_|refine yT ?_|refine yF ?_);conv=>whnf))
  refine st_cell (o := 4) (v := .slice a5 n5 c5) hob rfl (by omega) rfl (by simp) rfl ?_
  intro w6 ho6 hx6
  ((conv=>whnf);repeat((first|refine mvT ?_|refine mvF ?_|refine yT ?_|refine yF ?_);conv=>whnf))
  refine ⟨⟨_, ho6, hT5.ext hx6 fun k _ h1 h2 => by omega⟩, ?_⟩
  refine (hx04.mono fun _ _ f => f.elim).trans ((hx5.mono (M' := fun j => j = bt ∨ N ≤ j) fun k _ h => .inr (hown k h).1).trans hx6 fun k _ h => .inl h) fun _ _ h => h
theorem tellTaskIDs {w0 : World} {F : Nat → Prop} {q o : Nat} {cs : List Value} {t : T} (hq : Cells w0 q o cs) (hQ : QPart true 8 dTaskIDs ⟨w0, F⟩ cs t) (hlim : LimT t) :
    Does X.P 32 #[.pointer (some ⟨q, o, none⟩)] w0 fun r w' => ∃ t', Nrm t t' ∧ Tr w' (fun k => w0.heap.size ≤ k) r t' ∧ Ext nob w0 w' := by
  obtain ⟨_, _, u_, m, rfl, rfl, hA0, hm⟩ := iP hQ
  clear hQ
  obtain ⟨cc0, _, x0, _, rfl, rfl, h0, hA1⟩ := iA hA0
  obtain ⟨s0, rfl, rfl⟩ := iF8 (by decide) h0
  obtain ⟨cc1, _, x1, _, rfl, rfl, h1, hA2⟩ := iA hA1
  obtain ⟨c1, nl1, l1, rfl, hnl1, rfl, hc1⟩ : ∃ c nl l, cc1 = [c] ∧ (nl = true → l = []) ∧ x1 = .mk 0 [] nl l [] ∧ ListR true (elZ true 7 3 []) (elQ true 7 3 [] ⟨w0, F⟩) w0 F c x1 := h1
  obtain ⟨rfl, rfl⟩ := hA2
  cases hlim
  rename_i hU hKU hDU hLs hu0 hs0 hd0
  have hq : Cells w0 q o [str s0, c1, m] := hq
  obtain ⟨a1, k1, ls1, rfl, hk1, hll1, hnn1, hcl1, hrl1⟩ := hc1.view
  refine Does.go (X := X) (l := [_]) Tryz.func32 rfl (by kernel_rfl) (by kernel_rfl) _ rfl ?_
  ((conv=>whnf);repeat((first|refine mvT ?_|refine mvF ?_|refine yT ?_|refine yF ?_);conv=>whnf))
  intro b2 w1 hb2 ho2 hx1
  ((conv=>whnf);repeat((first|refine mvT ?_|refine mvF ?_|refine yT ?_|refine yF ?_);conv=>whnf))
  refine ⟨⟨by decide, by decide, by decide, by decide⟩, ⟨by decide, rfl⟩, ?_⟩
  intro bl w2 hbl hol hx2
  ((conv=>whnf);repeat((first|refine mvT ?_|refine mvF ?_|refine yT ?_|refine yF ?_);conv=>whnf))
  intro bt w3 hbt hot hx3
  ((conv=>whnf);repeat((first|refine mvT ?_|refine mvF ?_|refine yT ?_|refine yF ?_);conv=>whnf))
  have hzz : w0.heap.size ≤ w1.heap.size := hx1.size
  have H := (((Sg.start w0).push hx1 ho2 hb2).push hx2 hol hbl).push hx3 hot hbt
  refine Sg.st (A := []) (o' := 0) (m := [.int .i64 0, .slice none 0 0, .bool false, .slice (some ⟨bl, 0, none⟩) 2 2, .slice none 0 0]) H rfl (Nat.le_of_ble_eq_true rfl) rfl ?_
  clear H hot hol ho2 hx1 hx2 hx3
  intro w H
  obtain ⟨Tt, Tl, T2, H⟩ : ∃ Tt Tl T2, Sg w0 [(bt, Tt, [.int .i64 0, .slice none 0 0, .bool false, .slice (some ⟨bl, 0, none⟩) 2 2, .slice none 0 0]), (bl, Tl, [.int .i64 0, .slice none 0 0, .bool false, .slice none 0 0, .slice none 0 0, .int .i64 0, .slice none 0 0, .bool false, .slice none 0 0, .slice none 0 0]), (b2, T2, [.int .i64 0, .slice none 0 0, .bool false, .slice none 0 0, .slice none 0 0])] (fun _ => True) w := ⟨_, _, _, H⟩
  have hb2w : w0.heap.size ≤ b2 := hb2
  have hblw : w0.heap.size ≤ bl := by omega
  have hbtw : w0.heap.size ≤ bt := by have := H.dis.1; exact this
  ((conv=>whnf);repeat((first|refine mvT ?_|refine mvF ?_|refine yT ?_|refine yF ?_);conv=>whnf))
  refine VD.draw mixed (.q 0 (.q 1 (.q 2 (.q 3 (.q 4 (.q 5 (.eff 6 [1] (.q 7 (.q 8 (.eff 9 [] (.done))))))))))) (by kernel_rfl) ?_;((conv=>whnf);repeat((first|refine mvT ?_|refine mvF ?_|refine yT ?_|refine yF ?_);conv=>whnf))
  replace H := H.e0 (ext_drew _)
  refine ldS ((Sg.at (A := []) H).cell rfl) ?_;((conv=>whnf);repeat((first|refine mvT ?_|refine mvF ?_|refine yT ?_|refine yF ?_);conv=>whnf))
  refine ⟨_, ld ((hq.e0 H.ext).cell (j := 0) rfl) (by simp), ?_⟩
  ((conv=>whnf);repeat((first|refine mvT ?_|refine mvF ?_|refine yT ?_|refine yF ?_);conv=>whnf))
  refine ⟨by show s0.length ≤ maxLen; have := hLs (.mk 0 s0 false [] []) (by simp); cases this; rw [maxLen_eq]; omega, ?_⟩
  intro bb0 cb0 wb0 hbb0 hbl0 hC0 hcp0 hxb0
  have hC0 : Cells wb0 bb0 0 (s0.map bcell) := hC0
  have hcp0 : s0.length ≤ cb0 ∧ cb0 ≤ maxLen := hcp0
  have H := H.keepN (H.e0 hxb0) (trL [.int .i64 0, .slice (some ⟨bb0, 0, none⟩) s0.length cb0, .bool false, .slice none 0 0, .slice none 0 0] (.mk 0 s0 false [] [])) (F := fun k => _ ≤ k) (TrC.leaf rfl (conv_bytes hbb0 hbl0 hC0 hcp0)) fun k h => h
  refine ⟨by (conv => whnf); exact ⟨⟨_, (Sg.at (A := []) H).cell rfl, rfl, rfl⟩, trivial⟩, ?_⟩
  ((conv=>whnf);repeat((first|refine mvT ?_|refine mvF ?_|refine yT ?_|refine yF ?_);conv=>whnf))
  refine ⟨bl, 0, rfl, ⟨by omega, by omega⟩, ?_⟩
  ((conv=>whnf);repeat((first|refine mvT ?_|refine mvF ?_|refine yT ?_|refine yF ?_);conv=>whnf))
  refine Sg.st (A := [_]) (o' := 0) (m := [.int .i64 0, .slice (some ⟨bb0, 0, none⟩) s0.length cb0, .bool false, .slice none 0 0, .slice none 0 0]) H rfl (Nat.le_of_ble_eq_true rfl) (rfl) ?_
  clear H
  intro w H
  obtain ⟨P0, hP0⟩ : ∃ P : World → Prop, P = fun w => TrC w (fun k => w0.heap.size ≤ k) [.int .i64 0, .slice (some ⟨bb0, 0, none⟩) s0.length cb0, .bool false, .slice none 0 0, .slice none 0 0] (.mk 0 s0 false [] []) ∧ True := ⟨_, rfl⟩
  replace H : Sg w0 [(bt, Tt, [.int .i64 0, .slice none 0 0, .bool false, .slice (some ⟨bl, 0, none⟩) 2 2, .slice none 0 0]), (bl, Tl, [.int .i64 0, .slice (some ⟨bb0, 0, none⟩) s0.length cb0, .bool false, .slice none 0 0, .slice none 0 0, .int .i64 0, .slice none 0 0, .bool false, .slice none 0 0, .slice none 0 0]), (b2, T2, [.int .i64 0, .slice none 0 0, .bool false, .slice none 0 0, .slice none 0 0])] P0 w := by rw [hP0]; exact H
  ((conv=>whnf);repeat((first|refine mvT ?_|refine mvF ?_|refine yT ?_|refine yF ?_);conv=>whnf))
  refine VD.draw mixed (.q 0 (.q 1 (.q 2 (.q 3 (.q 4 (.q 5 (.q 6 (.q 7 (.q 8 (.eff 9 [] (.done))))))))))) (by kernel_rfl) ?_;((conv=>whnf);repeat((first|refine mvT ?_|refine mvF ?_|refine yT ?_|refine yF ?_);conv=>whnf))
  replace H := H.e0 (ext_drew _)
  refine ldS ((Sg.at (A := []) H).cell rfl) ?_;((conv=>whnf);repeat((first|refine mvT ?_|refine mvF ?_|refine yT ?_|refine yF ?_);conv=>whnf))
  refine ⟨_, ld ((hq.e0 H.ext).cell (j := 1) rfl) (by simp), ?_⟩
  ((conv=>whnf);repeat((first|refine mvT ?_|refine mvF ?_|refine yT ?_|refine yF ?_);conv=>whnf))
  refine ⟨bl, 0, rfl, ⟨by omega, by omega⟩, ?_⟩
  ((conv=>whnf);repeat((first|refine mvT ?_|refine mvF ?_|refine yT ?_|refine yF ?_);conv=>whnf))
  refine Sg.st (A := [_]) (o' := 7) (m := [.bool a1.isNone]) H rfl (Nat.le_of_ble_eq_true rfl) (rfl) ?_
  clear H
  intro w H
  replace H : Sg w0 [(bt, Tt, [.int .i64 0, .slice none 0 0, .bool false, .slice (some ⟨bl, 0, none⟩) 2 2, .slice none 0 0]), (bl, Tl, [.int .i64 0, .slice (some ⟨bb0, 0, none⟩) s0.length cb0, .bool false, .slice none 0 0, .slice none 0 0, .int .i64 0, .slice none 0 0, .bool a1.isNone, .slice none 0 0, .slice none 0 0]), (b2, T2, [.int .i64 0, .slice none 0 0, .bool false, .slice none 0 0, .slice none 0 0])] P0 w := H
  ((conv=>whnf);repeat((first|refine mvT ?_|refine mvF ?_|refine yT ?_|refine yF ?_);conv=>whnf))
  refine ⟨_, ld ((hq.e0 H.ext).cell (j := 1) rfl) (by simp), ?_⟩
  ((conv=>whnf);repeat((first|refine mvT ?_|refine mvF ?_|refine yT ?_|refine yF ?_);conv=>whnf))
  have hlsT : lsT (.mk 0 [] nl1 l1 []) = l1 := by
    show (if nl1 = true then [] else l1) = l1
    split
    · rename_i e
      exact (hnl1 e).symm
    · rfl
  rw [hlsT] at hll1 hrl1
  obtain ⟨wL, hwL⟩ : ∃ wL, wL = w := ⟨_, rfl⟩
  rw [← hwL] at H ⊢
  have hLlt := H.own.lt
  have hLl : l1.length ≤ 1000000 ∧ ∀ x, x ∈ l1 → LimT x := by
    have := hLs (.mk 0 [] nl1 l1 []) (by simp)
    cases this
    exact ⟨by assumption, by assumption⟩
  have hs0L := H.ext.size
  refine VL.loop (fun i : Nat => [(29, .int .i64 ls1.length), (30, .int .i64 i), (0, .pointer (some ⟨q, o, none⟩)), (2, .pointer (some ⟨b2, 0, none⟩)), (3, .pointer (some ⟨bt, 0, none⟩))])
    (fun i w' => i ≤ ls1.length ∧ Ext (fun k => k = bl ∨ wL.heap.size ≤ k) wL w' ∧ ∃ vl ts, Own w' bl Tl [.int .i64 0, .slice (some ⟨bb0, 0, none⟩) s0.length cb0, .bool false, .slice none 0 0, .slice none 0 0, .int .i64 0, .slice none 0 0, .bool a1.isNone, vl, .slice none 0 0] ∧ OLn w' wL.heap.size vl ts ∧ ts.length = i ∧ ∀ (j : Nat) (x y : T), l1[j]? = some x → ts[j]? = some y → Nrm x y) (fun i => ls1.length - i) 0
    ⟨rfl, rfl, rfl, rfl, rfl, trivial⟩ ⟨Nat.zero_le _, Ext.refl _ _, _, [], Sg.at (A := [_]) H, OLn.nil _ _, rfl, by simp⟩ ?_
  rintro i w ⟨hi, hxL, vl1, ts1, hobl, hT, htl1, hnr1⟩
  ((conv=>whnf);repeat((first|refine mvT ?_|refine mvF ?_|refine yT ?_|refine yF ?_);conv=>whnf))
  refine cI (by rfl) (fun h9=>?_) (fun h9=>?_)
  · have hil : i < ls1.length := by have := of_decide_eq_true h9; omega
    obtain ⟨be, oe, rfl, hFe, hbe, hce⟩ := hcl1 i ls1[i] (by simp [hil])
    have hqe := hrl1 i ls1[i] l1[i] (by simp [hil]) (by simp)
    have hlime := hLl.2 l1[i] (List.getElem_mem _)
    obtain ⟨t', ht'⟩ : ∃ t', t' = l1[i] := ⟨_, rfl⟩
    obtain ⟨n', _, hce', hxe'⟩ : ∃ n, IntKind.i32.wrap n = n ∧ ls1[i] = [.int .i32 n] ∧ l1[i] = numT n := hqe
    rw [hce'] at hce
    have hwn : IntKind.i64.wrap n' = n' := by rw [hxe'] at hlime; cases hlime; assumption
    have hnr' : Nrm l1[i] t' := by rw [ht', hxe']; exact Nrm.leaf _ _ _
    rw [hxe'] at ht'
    have hx0 : Ext nob w0 w := H.ext.trans hxL fun k hk h => by
      rcases h with h | h
      · omega
      · omega
    have hobt : Own w bt Tt [.int .i64 0, .slice none 0 0, .bool false, .slice (some ⟨bl, 0, none⟩) 2 2, .slice none 0 0] := (Sg.at (A := []) H).ext hxL fun h => by
      have := hLlt bt (by simp [inL])
      have h2 := (H.dis.2.1 : ¬ inL _ bt)
      rcases h with h | h
      · exact h2 (by rw [h]; simp [inL])
      · omega
    obtain ⟨av, cv, rfl⟩ := hT.one
    ((conv=>whnf);repeat((first|refine mvT ?_|refine mvF ?_|refine yT ?_|refine yF ?_);conv=>whnf))
    refine VD.draw mixed (.eff 0 [] (.alt (.eff 1 [] (.eff 2 [] (.q 3 (.done)))) (.eff 2 [] (.eff 1 [] (.q 3 (.done)))))) (by kernel_rfl) ?_;((conv=>whnf);repeat((first|refine mvT ?_|refine mvF ?_|refine yT ?_|refine yF ?_);conv=>whnf))
    intro bb wb hbb hob hxb
    have hxb : Ext nob w wb := (ext_drew w).e0 hxb
    have hbb : w.heap.size ≤ bb := hbb
    ((conv=>whnf);repeat((first|refine mvT ?_|refine mvF ?_|refine yT ?_|refine yF ?_);conv=>whnf))
    constructor
    · conv => whnf
      refine st_all [.bool true] hob rfl rfl rfl ?_
      intro wc hoc hxc
      conv => whnf
      refine st_all [.bool false] hoc rfl rfl rfl ?_
      intro wd hod hxd
      ((conv=>whnf);repeat((first|refine mvT ?_|refine mvF ?_|refine yT ?_|refine yF ?_);conv=>whnf))
      refine ldS (hod.cell rfl) ?_;((conv=>whnf);repeat((first|refine mvT ?_|refine mvF ?_|refine yT ?_|refine yF ?_);conv=>whnf))
      have hxw : Ext nob w wd := (hxb.st hxc hbb).st hxd hbb
      refine VD.draw mixed (.q 0 (.q 1 (.q 2 (.q 3 (.q 4 (.q 5 (.q 6 (.q 7 (.q 8 (.q 9 (.q 10 (.q 11 (.q 12 (.q 13 (.q 14 (.q 15 (.eff 16 [1, 3, 6] (.eff 17 [1] (.q 18 (.q 19 (.eff 20 [] (.done)))))))))))))))))))))) (by kernel_rfl) ?_;((conv=>whnf);repeat((first|refine mvT ?_|refine mvF ?_|refine yT ?_|refine yF ?_);conv=>whnf))
      have hxw := hxw.e0 (ext_drew _)
      have hszd := hxw.size
      refine ldS ((hobt.e0 hxw).cell rfl) ?_;((conv=>whnf);repeat((first|refine mvT ?_|refine mvF ?_|refine yT ?_|refine yF ?_);conv=>whnf))
      refine ldS ((hobt.e0 hxw).cell rfl) ?_;((conv=>whnf);repeat((first|refine mvT ?_|refine mvF ?_|refine yT ?_|refine yF ?_);conv=>whnf))
      refine ⟨bl, 0, rfl, ⟨by omega, by omega⟩, ?_⟩
      ((conv=>whnf);repeat((first|refine mvT ?_|refine mvF ?_|refine yT ?_|refine yF ?_);conv=>whnf))
      refine ldS ((hobl.e0 hxw).cell rfl) ?_;((conv=>whnf);repeat((first|refine mvT ?_|refine mvF ?_|refine yT ?_|refine yF ?_);conv=>whnf))
      refine ⟨_, ld ((hq.e0 (hx0.e0 hxw)).cell (j := 1) rfl) (by simp), ?_⟩
      ((conv=>whnf);repeat((first|refine mvT ?_|refine mvF ?_|refine yT ?_|refine yF ?_);conv=>whnf))
      refine ⟨be, oe, rfl, ⟨by omega, by omega⟩, ?_⟩
      ((conv=>whnf);repeat((first|refine mvT ?_|refine mvF ?_|refine yT ?_|refine yF ?_);conv=>whnf))
      refine ⟨_, ld ((hce.e0 (hx0.e0 hxw)).cell (j := 0) rfl) (by simp [show elZ true 7 3 [] = 1 from rfl]), ?_⟩
      ((conv=>whnf);repeat((first|refine mvT ?_|refine mvF ?_|refine yT ?_|refine yF ?_);conv=>whnf))
      intro bs ws hbs hos hxs
      rw [hwn] at hos
      have hos : Own ws bs TT [.int .i64 n', .slice none 0 0, .bool false, .slice none 0 0, .slice none 0 0] := hos
      have hxw := hxw.e0 hxs
      refine ⟨by (conv => whnf); exact ⟨⟨_, (hobt.e0 hxw).cell rfl, rfl, rfl⟩, ⟨_, (hobt.e0 hxw).cell rfl, rfl, rfl⟩, ⟨_, (hobl.e0 hxw).cell rfl, rfl, rfl⟩, trivial⟩, ?_⟩
      conv => whnf
      have hsLw := hxL.size
      refine OLn.app (x := t') (hT.ext hxw fun _ _ _ f => f) rfl hos rfl rfl (by omega) (by decide) (by have := hxw.size; omega) (by rw [ht']; exact TrC.leaf hwn (Bytes.nil _ _)) ?_
      intro v5 w5 hT5 hx5 _
      obtain ⟨a5, c5, rfl⟩ := hT5.one
      have hown5 : ∀ k, (Value.slice av ts1.length cv).ownBlock = some k → wL.heap.size ≤ k := fun k hk => (hT.own k hk).1
      have hbt5 := (hobt.e0 hxw).ext hx5 fun h => by have := hown5 bt h; have := hLlt bt (by simp [inL]); omega
      have hbl5 := (hobl.e0 hxw).ext hx5 fun h => by have := hown5 bl h; have := hLlt bl (by simp [inL]); omega
      refine ⟨by (conv => whnf); exact ⟨⟨_, hbt5.cell rfl, rfl, rfl⟩, trivial⟩, ?_⟩
      conv => whnf
      refine ⟨bl, 0, rfl, ⟨by omega, by omega⟩, ?_⟩
      ((conv=>whnf);repeat((first|refine mvT ?_|refine mvF ?_|refine yT ?_|refine yF ?_);conv=>whnf))
      refine st_cell (o := 8) (v := .slice a5 (ts1 ++ [t']).length c5) hbl5 rfl rfl rfl (by simp) rfl ?_
      intro w6 ho6 hx6
      ((conv=>whnf);repeat((first|refine mvT ?_|refine mvF ?_|refine yT ?_|refine yF ?_);conv=>whnf))
      have hxL6 : Ext (fun k => k = bl ∨ wL.heap.size ≤ k) wL w6 := ((hxL.trans (hxw.mono (M' := nob) fun _ _ f => f) fun k hk f => f.elim).trans hx5 fun k hk h => by have := hown5 k h; omega).trans hx6 fun k hk h => .inl h
      refine ⟨i + 1, ⟨rfl, inc_eq (by omega), rfl, rfl, rfl, trivial⟩, ⟨by omega, hxL6, _, ts1 ++ [t'], ho6, hT5.ext hx6 (fun k _ h1 h2 => by have := hLlt bl (by simp [inL]); omega), by simp [htl1], ?_⟩, by omega⟩
      intro j x y hx hy
      rcases Nat.lt_or_ge j ts1.length with hj | hj
      · rw [List.getElem?_append_left hj] at hy
        exact hnr1 j x y hx hy
      · rw [List.getElem?_append_right hj] at hy
        obtain ⟨e, he⟩ : ∃ e, j - ts1.length = e := ⟨_, rfl⟩
        rw [he] at hy
        cases e with
        | zero =>
          have : j = i := by omega
          subst this
          simp only [List.getElem?_cons_zero, Option.some.injEq] at hy
          subst hy
          rw [List.getElem?_eq_getElem (by omega), Option.some.injEq] at hx
          subst hx
          exact hnr'
        | succ e => simp at hy
    · conv => whnf
      refine st_all [.bool false] hob rfl rfl rfl ?_
      intro wc hoc hxc
      conv => whnf
      refine st_all [.bool true] hoc rfl rfl rfl ?_
      intro wd hod hxd
      ((conv=>whnf);repeat((first|refine mvT ?_|refine mvF ?_|refine yT ?_|refine yF ?_);conv=>whnf))
      refine ldS (hod.cell rfl) ?_;((conv=>whnf);repeat((first|refine mvT ?_|refine mvF ?_|refine yT ?_|refine yF ?_);conv=>whnf))
      have hxw : Ext nob w wd := (hxb.st hxc hbb).st hxd hbb
      refine VD.draw mixed (.q 0 (.q 1 (.q 2 (.q 3 (.q 4 (.q 5 (.q 6 (.q 7 (.q 8 (.q 9 (.q 10 (.q 11 (.q 12 (.q 13 (.q 14 (.eff 15 [1, 4, 8, 11] (.eff 16 [] (.q 17 (.q 18 (.eff 19 [] (.done))))))))))))))))))))) (by kernel_rfl) ?_;((conv=>whnf);repeat((first|refine mvT ?_|refine mvF ?_|refine yT ?_|refine yF ?_);conv=>whnf))
      have hxw := hxw.e0 (ext_drew _)
      have hszd := hxw.size
      refine ldS ((hobt.e0 hxw).cell rfl) ?_;((conv=>whnf);repeat((first|refine mvT ?_|refine mvF ?_|refine yT ?_|refine yF ?_);conv=>whnf))
      refine ⟨bl, 0, rfl, ⟨by omega, by omega⟩, ?_⟩
      ((conv=>whnf);repeat((first|refine mvT ?_|refine mvF ?_|refine yT ?_|refine yF ?_);conv=>whnf))
      refine ldS ((hobl.e0 hxw).cell rfl) ?_;((conv=>whnf);repeat((first|refine mvT ?_|refine mvF ?_|refine yT ?_|refine yF ?_);conv=>whnf))
      refine ⟨_, ld ((hq.e0 (hx0.e0 hxw)).cell (j := 1) rfl) (by simp), ?_⟩
      ((conv=>whnf);repeat((first|refine mvT ?_|refine mvF ?_|refine yT ?_|refine yF ?_);conv=>whnf))
      refine ⟨be, oe, rfl, ⟨by omega, by omega⟩, ?_⟩
      ((conv=>whnf);repeat((first|refine mvT ?_|refine mvF ?_|refine yT ?_|refine yF ?_);conv=>whnf))
      refine ⟨_, ld ((hce.e0 (hx0.e0 hxw)).cell (j := 0) rfl) (by simp [show elZ true 7 3 [] = 1 from rfl]), ?_⟩
      ((conv=>whnf);repeat((first|refine mvT ?_|refine mvF ?_|refine yT ?_|refine yF ?_);conv=>whnf))
      intro bs ws hbs hos hxs
      have hos : Own ws bs TT [.int .i64 0, .slice none 0 0, .bool false, .slice none 0 0, .slice none 0 0] := hos
      have hxw := hxw.e0 hxs
      refine ⟨by (conv => whnf); exact ⟨⟨_, (hobt.e0 hxw).cell rfl, rfl, rfl⟩, ⟨_, (hobl.e0 hxw).cell rfl, rfl, rfl⟩, ⟨_, (hq.e0 (hx0.e0 hxw)).cell (j := 1) rfl, rfl, rfl⟩, ⟨_, (hce.e0 (hx0.e0 hxw)).cell (j := 0) rfl, rfl, rfl⟩, trivial⟩, ?_⟩
      have htrw : TrC ws (fun k => w.heap.size ≤ k ∧ k < ws.heap.size) [.int .i64 n', .slice none 0 0, .bool false, .slice none 0 0, .slice none 0 0] t' := by rw [ht']; exact TrC.leaf hwn (Bytes.nil _ _)
      conv => whnf
      refine OLn.app (x := .mk 0 [] false [] []) (hT.ext hxw fun _ _ _ f => f) rfl hos rfl rfl (by omega) (by decide) (by have := hxw.size; have := hxL.size; omega) (TrC.leaf rfl (Bytes.nil _ _)) ?_
      intro v5 w5 hT5 hx5 hbk5
      obtain ⟨a5, c5, rfl⟩ := hT5.one
      have hown5 : ∀ k, (Value.slice av ts1.length cv).ownBlock = some k → wL.heap.size ≤ k ∧ k < w.heap.size := fun k hk => hT.own k hk
      have hbl5 := (hobl.e0 hxw).ext hx5 fun h => by have := hown5 bl h; have := hLlt bl (by simp [inL]); omega
      have hblL := hLlt bl (by simp [inL])
      have hsLw := hxL.size
      have hszx := hxw.size
      ((conv=>whnf);repeat((first|refine mvT ?_|refine mvF ?_|refine yT ?_|refine yF ?_);conv=>whnf))
      refine ⟨bl, 0, rfl, ⟨by omega, by omega⟩, ?_⟩
      ((conv=>whnf);repeat((first|refine mvT ?_|refine mvF ?_|refine yT ?_|refine yF ?_);conv=>whnf))
      refine st_cell (o := 8) (v := .slice a5 (ts1 ++ [T.mk 0 [] false [] []]).length c5) hbl5 rfl rfl rfl (by simp) rfl ?_
      intro w6 ho6 hx6
      ((conv=>whnf);repeat((first|refine mvT ?_|refine mvF ?_|refine yT ?_|refine yF ?_);conv=>whnf))
      have hT6 := hT5.ext hx6 (fun k _ h1 h2 => by omega)
      obtain ⟨g, cap, hv, hput⟩ := hT6.last
      injection hv with e1 e2 e3
      subst e1
      subst e3
      have htr6 : TrC w6 (fun k => wL.heap.size ≤ k ∧ (Value.slice (some ⟨g, 0, none⟩) (ts1 ++ [T.mk 0 [] false [] []]).length c5).ownBlock ≠ some k) [.int .i64 n', .slice none 0 0, .bool false, .slice none 0 0, .slice none 0 0] t' := by
        refine ((htrw.ext hx5 fun k _ h e => by have := hown5 k e; omega).ext hx6 fun k _ h e => by omega).mono fun k _ h => ⟨by omega, fun e => ?_⟩
        rcases hbk5 with e2 | ⟨q2, e2, hle⟩
        · have := hown5 k (e2 ▸ e); omega
        · rw [e, Option.some.injEq] at e2
          omega
      refine ⟨g, 0, rfl, ⟨by omega, by simp; omega⟩, ?_⟩
      ((conv=>whnf);repeat((first|refine mvT ?_|refine mvF ?_|refine yT ?_|refine yF ?_);conv=>whnf))
      rw [hwn]
      refine hput [.int .i64 n', .slice none 0 0, .bool false, .slice none 0 0, .slice none 0 0] t' _ _ _ rfl (by simp) htr6 ?_
      intro w7 hT7 hx7
      ((conv=>whnf);repeat((first|refine mvT ?_|refine mvF ?_|refine yT ?_|refine yF ?_);conv=>whnf))
      have hgL : wL.heap.size ≤ g := (hT6.own g rfl).1
      have hxL7 : Ext (fun k => k = bl ∨ wL.heap.size ≤ k) wL w7 := (((hxL.trans (hxw.mono (M' := nob) fun _ _ f => f) fun k hk f => f.elim).trans hx5 fun k hk h => by have := hown5 k h; omega).trans hx6 fun k hk h => .inl h).trans hx7 fun k hk h => by omega
      refine ⟨i + 1, ⟨rfl, inc_eq (by omega), rfl, rfl, rfl, trivial⟩, ⟨by omega, hxL7, _, ts1 ++ [t'], ho6.ext hx7 (by omega), hT7, by simp [htl1], ?_⟩, by omega⟩
      intro j x y hx hy
      rcases Nat.lt_or_ge j ts1.length with hj | hj
      · rw [List.getElem?_append_left hj] at hy
        exact hnr1 j x y hx hy
      · rw [List.getElem?_append_right hj] at hy
        obtain ⟨e, he⟩ : ∃ e, j - ts1.length = e := ⟨_, rfl⟩
        rw [he] at hy
        cases e with
        | zero =>
          have : j = i := by omega
          subst this
          simp only [List.getElem?_cons_zero, Option.some.injEq] at hy
          subst hy
          rw [List.getElem?_eq_getElem (by omega), Option.some.injEq] at hx
          subst hx
          exact hnr'
        | succ e => simp at hy
  · have hil : i = ls1.length := by have := of_decide_eq_false h9; omega
    have H := Sg.up (A := [_]) H hobl (hxL.mono fun k hk h => by rcases h with h | h; exact h; omega)
    have htl1 : ts1.length = l1.length := by omega
    have hnl : a1.isNone = nl1 := hnn1 rfl
    rw [hnl] at H
    have H := H.add (Q := fun w => TrC w (fun k => w0.heap.size ≤ k) [.int .i64 0, .slice none 0 0, .bool nl1, vl1, .slice none 0 0] (.mk 0 [] nl1 ts1 [])) fun w3 x => (hT.ext x fun k hk h1 h2 => by
      have h3 : k < wL.heap.size := hLlt k (by rcases inL3 h2 with h | h | h <;> subst h <;> simp [inL])
      omega).row fun k hk => by omega
    obtain ⟨P1, hP1⟩ : ∃ P : World → Prop, P = fun w => TrC w (fun k => w0.heap.size ≤ k) [.int .i64 0, .slice none 0 0, .bool nl1, vl1, .slice none 0 0] (.mk 0 [] nl1 ts1 []) ∧ P0 w := ⟨_, rfl⟩
    replace H : Sg w0 [(bt, Tt, [.int .i64 0, .slice none 0 0, .bool false, .slice (some ⟨bl, 0, none⟩) 2 2, .slice none 0 0]), (bl, Tl, [.int .i64 0, .slice (some ⟨bb0, 0, none⟩) s0.length cb0, .bool false, .slice none 0 0, .slice none 0 0, .int .i64 0, .slice none 0 0, .bool nl1, vl1, .slice none 0 0]), (b2, T2, [.int .i64 0, .slice none 0 0, .bool false, .slice none 0 0, .slice none 0 0])] P1 w := by rw [hP1]; exact H
    ((conv=>whnf);repeat((first|refine mvT ?_|refine mvF ?_|refine yT ?_|refine yF ?_);conv=>whnf))
    have hql : q < w0.heap.size := World.block_lt_of_cell? w0 _ (hq.cell (j := 0) rfl)
    have hm2 : TagsR w (fun k => F k ∧ k < w0.heap.size) m u_ := (hm.mono (F' := fun k => F k ∧ k < w0.heap.size) fun k h1 h2 => ⟨h2, h1⟩).ext H.ext fun _ _ _ f => f
    refine Does.mono (EachT tgTaskIDs ((hq.e0 H.ext).cell (j := 2) rfl) hm2 hd0 hu0 hs0 (Sg.at (A := []) H) (by omega) (fun k _ h e => by have := h.2; omega)) ?_
    rintro r w2 ⟨u', uv, hperm, hpw, hob, hT, hxe⟩
    have hLlt := H.own.lt
    have hw02 := H.ext.size
    have H2 := Sg.up (A := []) H hob hxe
    obtain ⟨auv, nuv, cuv, rfl⟩ := hT.one
    have H := H2.add (Q := fun w => TgsR w (fun k => w0.heap.size ≤ k) (.slice auv nuv cuv) u') fun w3 x => (hT.ext x fun k hk h1 h2 => by
      have h3 : k < w.heap.size := hLlt k (by rcases inL3 h2 with h | h | h <;> subst h <;> simp [inL])
      omega).tgs fun k hk => by omega
    clear H2
    ((conv=>whnf);repeat((first|refine mvT ?_|refine mvF ?_|refine yT ?_|refine yF ?_);conv=>whnf))
    refine ldS ((Sg.at (A := []) H).cell rfl) ?_;((conv=>whnf);repeat((first|refine mvT ?_|refine mvF ?_|refine yT ?_|refine yF ?_);conv=>whnf))
    refine Does.mono (sorted_does H.now.1 hpw (by rw [hperm.length_eq]; exact hu0)) ?_
    rintro r w3 hx3
    replace H := H.e0 hx3
    ((conv=>whnf);repeat((first|refine mvT ?_|refine mvF ?_|refine yT ?_|refine yF ?_);conv=>whnf))
    refine ⟨_, rfl, (Sg.at (A := []) H).cells, ?_⟩
    ((conv=>whnf);repeat((first|refine mvT ?_|refine mvF ?_|refine yT ?_|refine yF ?_);conv=>whnf))
    refine Sg.st (A := [_, _]) (o' := 0) (m := [.int .i64 0, .slice none 0 0, .bool false, .slice (some ⟨bl, 0, none⟩) 2 2, .slice auv nuv cuv]) H rfl (Nat.le_of_ble_eq_true rfl) rfl ?_
    clear H
    intro w H
    ((conv=>whnf);repeat((first|refine mvT ?_|refine mvF ?_|refine yT ?_|refine yF ?_);conv=>whnf))
    refine ⟨_, rfl, (Sg.at (A := [_, _]) H).cells, ?_⟩
    have hP := H.now
    rw [hP1, hP0] at hP
    have hbl := Sg.at (A := [_]) H
    refine ⟨.mk 0 [] false [.mk 0 s0 false [] [], .mk 0 [] nl1 ts1 []] u', ?_, ⟨_, rfl, .mk 0 [] false [.mk 0 s0 false [] [], .mk 0 [] nl1 ts1 []] u' _ _ _ [[.int .i64 0, .slice (some ⟨bb0, 0, none⟩) s0.length cb0, .bool false, .slice none 0 0, .slice none 0 0], [.int .i64 0, .slice none 0 0, .bool nl1, vl1, .slice none 0 0]] rfl (Bytes.nil _ _) (rows_sl hbl (by simp) rfl (by rw [maxLen_eq]; decide) hblw) rfl ?_ hP.1⟩, H.ext⟩
    · refine .mk _ _ _ _ _ _ _ rfl ?_ hperm hpw
      intro i x y hx hy
      match i, hx, hy with
      | 0, hx, hy => simp only [List.getElem?_cons_succ, List.getElem?_cons_zero, Option.some.injEq] at hx hy; subst hx; subst hy; exact Nrm.leaf _ _ _
      | 1, hx, hy => simp only [List.getElem?_cons_succ, List.getElem?_cons_zero, Option.some.injEq] at hx hy; subst hx; subst hy; exact .mk _ _ _ _ _ _ _ htl1 hnr1 (List.Perm.refl _) List.Pairwise.nil
    · intro i x y hx hy
      match i, hx, hy with
      | 0, hx, hy => simp only [List.getElem?_cons_succ, List.getElem?_cons_zero, Option.some.injEq] at hx hy; subst hx; subst hy; exact hP.2.2.1
      | 1, hx, hy => simp only [List.getElem?_cons_succ, List.getElem?_cons_zero, Option.some.injEq] at hx hy; subst hx; subst hy; exact hP.2.1
theorem tgEndpoint : TellsT 92 := by
  intro w N bt T lv bv F u x hI hN hbt hu hk hx hxl
  obtain ⟨uv, ho, hT⟩ := hI
  obtain ⟨av, cv, rfl, _⟩ := hx.view
  obtain ⟨au, nu, cu, rfl⟩ := hT.one
  refine Does.go (X := X) (l := [_, _, _]) Tryz.func92 rfl (by kernel_rfl) (by kernel_rfl) _ rfl ?_
  ((conv=>whnf);repeat((first|refine mvT ?_|refine mvF ?_|refine yT ?_|refine yF ?_);conv=>whnf))
  refine VD.draw mixed (.q 0 (.q 1 (.q 2 (.q 3 (.eff 4 [1] (.q 5 (.eff 6 [1] (.eff 7 [] (.q 8 (.eff 9 [] (.done))))))))))) (by kernel_rfl) ?_;((conv=>whnf);repeat((first|refine mvT ?_|refine mvF ?_|refine yT ?_|refine yF ?_);conv=>whnf))
  have hxd : Ext nob w w.drew := ext_drew _
  refine ldS ((ho.e0 hxd).cell rfl) ?_;((conv=>whnf);repeat((first|refine mvT ?_|refine mvF ?_|refine yT ?_|refine yF ?_);conv=>whnf))
  refine app_bytes rfl rfl (OB.nil w.drew w.drew.heap.size) (hx.e0 hxd).src rfl (by simp only [List.length_nil]; omega) (Nat.le_refl _) ?_
  intro v3 w3 h3 hx3 _ _
  rw [List.nil_append] at h3
  have hx3 : Ext nob w w3 := hxd.e0 (hx3.mono fun k _ h => by simp [Value.ownBlock] at h)
  obtain ⟨a3, c3, rfl, _⟩ := h3.shape
  refine ⟨by (conv => whnf); exact ⟨⟨_, (ho.e0 hx3).cell rfl, rfl, rfl⟩, trivial⟩, ?_⟩
  ((conv=>whnf);repeat((first|refine mvT ?_|refine mvF ?_|refine yT ?_|refine yF ?_);conv=>whnf))
  intro b4 w4 hb4 ho4 hx4
  have ho4 : Own w4 b4 TGT [.int .u32 (x.1 : Int), .slice a3 x.2.length c3] := ho4
  have hx04 := hx3.e0 hx4
  refine ⟨by (conv => whnf); exact ⟨⟨_, (ho.e0 hx04).cell rfl, rfl, rfl⟩, trivial⟩, ?_⟩
  ((conv=>whnf);repeat((first|refine mvT ?_|refine mvF ?_|refine yT ?_|refine yF ?_);conv=>whnf))
  have hs3 := hx3.size
  have hown : ∀ k, (Value.slice au nu cu).ownBlock = some k → N ≤ k ∧ k < w.heap.size := fun k hk => by
    obtain ⟨ls, h1, _⟩ := hT
    exact ⟨h1.blk k hk, h1.own.lt k hk⟩
  have hwd : w.drew.heap.size = w.heap.size := rfl
  refine OTn.app (hT.ext hx04 fun _ _ _ f => f) rfl ho4 rfl rfl rfl hu (by decide) (Nat.le_trans hN hx04.size) hk ((h3.e0 hx4).bytes fun k hk => ⟨by omega, fun e => by have := hown k e; omega⟩) ?_
  intro v5 w5 hT5 hx5
  obtain ⟨a5, n5, c5, rfl⟩ := hT5.one
  have hob := (ho.e0 hx04).ext hx5 fun h => by have := hown bt h; omega
  ((conv=>whnf);repeat((first|refine mvT ?_|refine mvF ?_|refine yT ?_|refine yF ?_);conv=>whnf))
  refine st_cell (o := 4) (v := .slice a5 n5 c5) hob rfl (by omega) rfl (by simp) rfl ?_
  intro w6 ho6 hx6
  ((conv=>whnf);repeat((first|refine mvT ?_|refine mvF ?_|refine yT ?_|refine yF ?_);conv=>whnf))
  refine ⟨⟨_, ho6, hT5.ext hx6 fun k _ h1 h2 => by omega⟩, ?_⟩
  refine (hx04.mono fun _ _ f => f.elim).trans ((hx5.mono (M' := fun j => j = bt ∨ N ≤ j) fun k _ h => .inr (hown k h).1).trans hx6 fun k _ h => .inl h) fun _ _ h => h
theorem tellEndpoint {w0 : World} {F : Nat → Prop} {q o : Nat} {cs : List Value} {t : T} (hq : Cells w0 q o cs) (hQ : QPart true 7 dEndpoint ⟨w0, F⟩ cs t) (hlim : LimT t) :
    Does X.P 72 #[.pointer (some ⟨q, o, none⟩)] w0 fun r w' => ∃ t', Nrm t t' ∧ Tr w' (fun k => w0.heap.size ≤ k) r t' ∧ Ext nob w0 w' := by
  obtain ⟨_, _, u_, m, rfl, rfl, hA0, hm⟩ := iP hQ
  clear hQ
  obtain ⟨cc0, _, x0, _, rfl, rfl, h0, hA1⟩ := iA hA0
  obtain ⟨s0, rfl, rfl⟩ := iF8 (by decide) h0
  obtain ⟨cc1, _, x1, _, rfl, rfl, h1, hA2⟩ := iA hA1
  obtain ⟨n1, hn1, rfl, rfl⟩ : ∃ n, IntKind.u16.wrap n = n ∧ cc1 = [.int .u16 n] ∧ x1 = numT n := h1
  obtain ⟨rfl, rfl⟩ := hA2
  cases hlim
  rename_i hU hKU hDU hLs hu0 hs0 hd0
  have hq : Cells w0 q o [str s0, .int .u16 n1, m] := hq
  have hw1 : IntKind.i64.wrap n1 = n1 := by have := hLs (numT n1) (by simp); cases this; assumption
  refine Does.go (X := X) (l := [_]) Tryz.func72 rfl (by kernel_rfl) (by kernel_rfl) _ rfl ?_
  ((conv=>whnf);repeat((first|refine mvT ?_|refine mvF ?_|refine yT ?_|refine yF ?_);conv=>whnf))
  intro b2 w1 hb2 ho2 hx1
  ((conv=>whnf);repeat((first|refine mvT ?_|refine mvF ?_|refine yT ?_|refine yF ?_);conv=>whnf))
  refine ⟨⟨by decide, by decide, by decide, by decide⟩, ⟨by decide, rfl⟩, ?_⟩
  intro bl w2 hbl hol hx2
  ((conv=>whnf);repeat((first|refine mvT ?_|refine mvF ?_|refine yT ?_|refine yF ?_);conv=>whnf))
  intro bt w3 hbt hot hx3
  ((conv=>whnf);repeat((first|refine mvT ?_|refine mvF ?_|refine yT ?_|refine yF ?_);conv=>whnf))
  have hzz : w0.heap.size ≤ w1.heap.size := hx1.size
  have H := (((Sg.start w0).push hx1 ho2 hb2).push hx2 hol hbl).push hx3 hot hbt
  refine Sg.st (A := []) (o' := 0) (m := [.int .i64 0, .slice none 0 0, .bool false, .slice (some ⟨bl, 0, none⟩) 2 2, .slice none 0 0]) H rfl (Nat.le_of_ble_eq_true rfl) rfl ?_
  clear H hot hol ho2 hx1 hx2 hx3
  intro w H
  obtain ⟨Tt, Tl, T2, H⟩ : ∃ Tt Tl T2, Sg w0 [(bt, Tt, [.int .i64 0, .slice none 0 0, .bool false, .slice (some ⟨bl, 0, none⟩) 2 2, .slice none 0 0]), (bl, Tl, [.int .i64 0, .slice none 0 0, .bool false, .slice none 0 0, .slice none 0 0, .int .i64 0, .slice none 0 0, .bool false, .slice none 0 0, .slice none 0 0]), (b2, T2, [.int .i64 0, .slice none 0 0, .bool false, .slice none 0 0, .slice none 0 0])] (fun _ => True) w := ⟨_, _, _, H⟩
  have hb2w : w0.heap.size ≤ b2 := hb2
  have hblw : w0.heap.size ≤ bl := by omega
  have hbtw : w0.heap.size ≤ bt := by have := H.dis.1; exact this
  ((conv=>whnf);repeat((first|refine mvT ?_|refine mvF ?_|refine yT ?_|refine yF ?_);conv=>whnf))
  refine VD.draw mixed (.q 0 (.q 1 (.q 2 (.q 3 (.q 4 (.q 5 (.eff 6 [1] (.q 7 (.q 8 (.eff 9 [] (.done))))))))))) (by kernel_rfl) ?_;((conv=>whnf);repeat((first|refine mvT ?_|refine mvF ?_|refine yT ?_|refine yF ?_);conv=>whnf))
  replace H := H.e0 (ext_drew _)
  refine ldS ((Sg.at (A := []) H).cell rfl) ?_;((conv=>whnf);repeat((first|refine mvT ?_|refine mvF ?_|refine yT ?_|refine yF ?_);conv=>whnf))
  refine ⟨_, ld ((hq.e0 H.ext).cell (j := 0) rfl) (by simp), ?_⟩
  ((conv=>whnf);repeat((first|refine mvT ?_|refine mvF ?_|refine yT ?_|refine yF ?_);conv=>whnf))
  refine ⟨by show s0.length ≤ maxLen; have := hLs (.mk 0 s0 false [] []) (by simp); cases this; rw [maxLen_eq]; omega, ?_⟩
  intro bb0 cb0 wb0 hbb0 hbl0 hC0 hcp0 hxb0
  have hC0 : Cells wb0 bb0 0 (s0.map bcell) := hC0
  have hcp0 : s0.length ≤ cb0 ∧ cb0 ≤ maxLen := hcp0
  have H := H.keepN (H.e0 hxb0) (trL [.int .i64 0, .slice (some ⟨bb0, 0, none⟩) s0.length cb0, .bool false, .slice none 0 0, .slice none 0 0] (.mk 0 s0 false [] [])) (F := fun k => _ ≤ k) (TrC.leaf rfl (conv_bytes hbb0 hbl0 hC0 hcp0)) fun k h => h
  refine ⟨by (conv => whnf); exact ⟨⟨_, (Sg.at (A := []) H).cell rfl, rfl, rfl⟩, trivial⟩, ?_⟩
  ((conv=>whnf);repeat((first|refine mvT ?_|refine mvF ?_|refine yT ?_|refine yF ?_);conv=>whnf))
  refine ⟨bl, 0, rfl, ⟨by omega, by omega⟩, ?_⟩
  ((conv=>whnf);repeat((first|refine mvT ?_|refine mvF ?_|refine yT ?_|refine yF ?_);conv=>whnf))
  refine Sg.st (A := [_]) (o' := 0) (m := [.int .i64 0, .slice (some ⟨bb0, 0, none⟩) s0.length cb0, .bool false, .slice none 0 0, .slice none 0 0]) H rfl (Nat.le_of_ble_eq_true rfl) (rfl) ?_
  clear H
  intro w H
  obtain ⟨P0, hP0⟩ : ∃ P : World → Prop, P = fun w => TrC w (fun k => w0.heap.size ≤ k) [.int .i64 0, .slice (some ⟨bb0, 0, none⟩) s0.length cb0, .bool false, .slice none 0 0, .slice none 0 0] (.mk 0 s0 false [] []) ∧ True := ⟨_, rfl⟩
  replace H : Sg w0 [(bt, Tt, [.int .i64 0, .slice none 0 0, .bool false, .slice (some ⟨bl, 0, none⟩) 2 2, .slice none 0 0]), (bl, Tl, [.int .i64 0, .slice (some ⟨bb0, 0, none⟩) s0.length cb0, .bool false, .slice none 0 0, .slice none 0 0, .int .i64 0, .slice none 0 0, .bool false, .slice none 0 0, .slice none 0 0]), (b2, T2, [.int .i64 0, .slice none 0 0, .bool false, .slice none 0 0, .slice none 0 0])] P0 w := by rw [hP0]; exact H
  ((conv=>whnf);repeat((first|refine mvT ?_|refine mvF ?_|refine yT ?_|refine yF ?_);conv=>whnf))
  refine VD.draw mixed (.q 0 (.q 1 (.q 2 (.q 3 (.q 4 (.q 5 (.q 6 (.q 7 (.q 8 (.eff 9 [] (.done))))))))))) (by kernel_rfl) ?_;((conv=>whnf);repeat((first|refine mvT ?_|refine mvF ?_|refine yT ?_|refine yF ?_);conv=>whnf))
  replace H := H.e0 (ext_drew _)
  refine ldS ((Sg.at (A := []) H).cell rfl) ?_;((conv=>whnf);repeat((first|refine mvT ?_|refine mvF ?_|refine yT ?_|refine yF ?_);conv=>whnf))
  refine ⟨_, ld ((hq.e0 H.ext).cell (j := 1) rfl) (by simp), ?_⟩
  ((conv=>whnf);repeat((first|refine mvT ?_|refine mvF ?_|refine yT ?_|refine yF ?_);conv=>whnf))
  refine ⟨bl, 0, rfl, ⟨by omega, by omega⟩, ?_⟩
  ((conv=>whnf);repeat((first|refine mvT ?_|refine mvF ?_|refine yT ?_|refine yF ?_);conv=>whnf))
  refine Sg.st (A := [_]) (o' := 5) (m := [.int .i64 (IntKind.i64.wrap n1), .slice none 0 0, .bool false, .slice none 0 0, .slice none 0 0]) H rfl (Nat.le_of_ble_eq_true rfl) (rfl) ?_
  clear H
  intro w H
  rw [hw1] at H
  replace H : Sg w0 [(bt, Tt, [.int .i64 0, .slice none 0 0, .bool false, .slice (some ⟨bl, 0, none⟩) 2 2, .slice none 0 0]), (bl, Tl, [.int .i64 0, .slice (some ⟨bb0, 0, none⟩) s0.length cb0, .bool false, .slice none 0 0, .slice none 0 0, .int .i64 n1, .slice none 0 0, .bool false, .slice none 0 0, .slice none 0 0]), (b2, T2, [.int .i64 0, .slice none 0 0, .bool false, .slice none 0 0, .slice none 0 0])] P0 w := H
  ((conv=>whnf);repeat((first|refine mvT ?_|refine mvF ?_|refine yT ?_|refine yF ?_);conv=>whnf))
  have hql : q < w0.heap.size := World.block_lt_of_cell? w0 _ (hq.cell (j := 0) rfl)
  have hm2 : TagsR w (fun k => F k ∧ k < w0.heap.size) m u_ := (hm.mono (F' := fun k => F k ∧ k < w0.heap.size) fun k h1 h2 => ⟨h2, h1⟩).ext H.ext fun _ _ _ f => f
  refine Does.mono (EachT tgEndpoint ((hq.e0 H.ext).cell (j := 2) rfl) hm2 hd0 hu0 hs0 (Sg.at (A := []) H) (by omega) (fun k _ h e => by have := h.2; omega)) ?_
  rintro r w2 ⟨u', uv, hperm, hpw, hob, hT, hxe⟩
  have hLlt := H.own.lt
  have hw02 := H.ext.size
  have H2 := Sg.up (A := []) H hob hxe
  obtain ⟨auv, nuv, cuv, rfl⟩ := hT.one
  have H := H2.add (Q := fun w => TgsR w (fun k => w0.heap.size ≤ k) (.slice auv nuv cuv) u') fun w3 x => (hT.ext x fun k hk h1 h2 => by
    have h3 : k < w.heap.size := hLlt k (by rcases inL3 h2 with h | h | h <;> subst h <;> simp [inL])
    omega).tgs fun k hk => by omega
  clear H2
  ((conv=>whnf);repeat((first|refine mvT ?_|refine mvF ?_|refine yT ?_|refine yF ?_);conv=>whnf))
  refine ldS ((Sg.at (A := []) H).cell rfl) ?_;((conv=>whnf);repeat((first|refine mvT ?_|refine mvF ?_|refine yT ?_|refine yF ?_);conv=>whnf))
  refine Does.mono (sorted_does H.now.1 hpw (by rw [hperm.length_eq]; exact hu0)) ?_
  rintro r w3 hx3
  replace H := H.e0 hx3
  ((conv=>whnf);repeat((first|refine mvT ?_|refine mvF ?_|refine yT ?_|refine yF ?_);conv=>whnf))
  refine ⟨_, rfl, (Sg.at (A := []) H).cells, ?_⟩
  ((conv=>whnf);repeat((first|refine mvT ?_|refine mvF ?_|refine yT ?_|refine yF ?_);conv=>whnf))
  refine Sg.st (A := [_, _]) (o' := 0) (m := [.int .i64 0, .slice none 0 0, .bool false, .slice (some ⟨bl, 0, none⟩) 2 2, .slice auv nuv cuv]) H rfl (Nat.le_of_ble_eq_true rfl) rfl ?_
  clear H
  intro w H
  ((conv=>whnf);repeat((first|refine mvT ?_|refine mvF ?_|refine yT ?_|refine yF ?_);conv=>whnf))
  refine ⟨_, rfl, (Sg.at (A := [_, _]) H).cells, ?_⟩
  have hP := H.now
  rw [hP0] at hP
  have hbl := Sg.at (A := [_]) H
  refine ⟨.mk 0 [] false [.mk 0 s0 false [] [], numT n1] u', ?_, ⟨_, rfl, .mk 0 [] false [.mk 0 s0 false [] [], numT n1] u' _ _ _ [[.int .i64 0, .slice (some ⟨bb0, 0, none⟩) s0.length cb0, .bool false, .slice none 0 0, .slice none 0 0], [.int .i64 n1, .slice none 0 0, .bool false, .slice none 0 0, .slice none 0 0]] rfl (Bytes.nil _ _) (rows_sl hbl (by simp) rfl (by rw [maxLen_eq]; decide) hblw) rfl ?_ hP.1⟩, H.ext⟩
  · refine .mk _ _ _ _ _ _ _ rfl ?_ hperm hpw
    intro i x y hx hy
    match i, hx, hy with
    | 0, hx, hy => simp only [List.getElem?_cons_succ, List.getElem?_cons_zero, Option.some.injEq] at hx hy; subst hx; subst hy; exact Nrm.leaf _ _ _
    | 1, hx, hy => simp only [List.getElem?_cons_succ, List.getElem?_cons_zero, Option.some.injEq] at hx hy; subst hx; subst hy; exact Nrm.leaf _ _ _
  · intro i x y hx hy
    match i, hx, hy with
    | 0, hx, hy => simp only [List.getElem?_cons_succ, List.getElem?_cons_zero, Option.some.injEq] at hx hy; subst hx; subst hy; exact hP.2.1
    | 1, hx, hy => simp only [List.getElem?_cons_succ, List.getElem?_cons_zero, Option.some.injEq] at hx hy; subst hx; subst hy; exact TrC.leaf hw1 (Bytes.nil _ _)
theorem tgStreamsGroupHeartbeatResponsePartitionsByUserEndpointActivePartition : TellsT 93 := by
  intro w N bt T lv bv F u x hI hN hbt hu hk hx hxl
  obtain ⟨uv, ho, hT⟩ := hI
  obtain ⟨av, cv, rfl, _⟩ := hx.view
  obtain ⟨au, nu, cu, rfl⟩ := hT.one
  refine Does.go (X := X) (l := [_, _, _]) Tryz.func93 rfl (by kernel_rfl) (by kernel_rfl) _ rfl ?_
  ((conv=>whnf);repeat((first|refine mvT ?_|refine mvF ?_|refine yT ?_|refine yF ?_);conv=>whnf))
  refine VD.draw mixed (.q 0 (.q 1 (.q 2 (.q 3 (.eff 4 [1] (.q 5 (.eff 6 [1] (.eff 7 [] (.q 8 (.eff 9 [] (.done))))))))))) (by kernel_rfl) ?_;((conv=>whnf);repeat((first|refine mvT ?_|refine mvF ?_|refine yT ?_|refine yF ?_);conv=>whnf))
  have hxd : Ext nob w w.drew := ext_drew _
  refine ldS ((ho.e0 hxd).cell rfl) ?_;((conv=>whnf);repeat((first|refine mvT ?_|refine mvF ?_|refine yT ?_|refine yF ?_);conv=>whnf))
  refine app_bytes rfl rfl (OB.nil w.drew w.drew.heap.size) (hx.e0 hxd).src rfl (by simp only [List.length_nil]; omega) (Nat.le_refl _) ?_
  intro v3 w3 h3 hx3 _ _
  rw [List.nil_append] at h3
  have hx3 : Ext nob w w3 := hxd.e0 (hx3.mono fun k _ h => by simp [Value.ownBlock] at h)
  obtain ⟨a3, c3, rfl, _⟩ := h3.shape
  refine ⟨by (conv => whnf); exact ⟨⟨_, (ho.e0 hx3).cell rfl, rfl, rfl⟩, trivial⟩, ?_⟩
  ((conv=>whnf);repeat((first|refine mvT ?_|refine mvF ?_|refine yT ?_|refine yF ?_);conv=>whnf))
  intro b4 w4 hb4 ho4 hx4
  have ho4 : Own w4 b4 TGT [.int .u32 (x.1 : Int), .slice a3 x.2.length c3] := ho4
  have hx04 := hx3.e0 hx4
  refine ⟨by (conv => whnf); exact ⟨⟨_, (ho.e0 hx04).cell rfl, rfl, rfl⟩, trivial⟩, ?_⟩
  ((conv=>whnf);repeat((first|refine mvT ?_|refine mvF ?_|refine yT ?_|refine yF ?_);conv=>whnf))
  have hs3 := hx3.size
  have hown : ∀ k, (Value.slice au nu cu).ownBlock = some k → N ≤ k ∧ k < w.heap.size := fun k hk => by
    obtain ⟨ls, h1, _⟩ := hT
    exact ⟨h1.blk k hk, h1.own.lt k hk⟩
  have hwd : w.drew.heap.size = w.heap.size := rfl
  refine OTn.app (hT.ext hx04 fun _ _ _ f => f) rfl ho4 rfl rfl rfl hu (by decide) (Nat.le_trans hN hx04.size) hk ((h3.e0 hx4).bytes fun k hk => ⟨by omega, fun e => by have := hown k e; omega⟩) ?_
  intro v5 w5 hT5 hx5
  obtain ⟨a5, n5, c5, rfl⟩ := hT5.one
  have hob := (ho.e0 hx04).ext hx5 fun h => by have := hown bt h; omega
  ((conv=>whnf);repeat((first|refine mvT ?_|refine mvF ?_|refine yT ?_|refine yF ?_);conv=>whnf))
  refine st_cell (o := 4) (v := .slice a5 n5 c5) hob rfl (by omega) rfl (by simp) rfl ?_
  intro w6 ho6 hx6
  ((conv=>whnf);repeat((first|refine mvT ?_|refine mvF ?_|refine yT ?_|refine yF ?_);conv=>whnf))
  refine ⟨⟨_, ho6, hT5.ext hx6 fun k _ h1 h2 => by omega⟩, ?_⟩
  refine (hx04.mono fun _ _ f => f.elim).trans ((hx5.mono (M' := fun j => j = bt ∨ N ≤ j) fun k _ h => .inr (hown k h).1).trans hx6 fun k _ h => .inl h) fun _ _ h => h
theorem tellStreamsGroupHeartbeatResponsePartitionsByUserEndpointActivePartition {w0 : World} {F : Nat → Prop} {q o : Nat} {cs : List Value} {t : T} (hq : Cells w0 q o cs) (hQ : QPart true 7 dStreamsGroupHeartbeatResponsePartitionsByUserEndpointActivePartition ⟨w0, F⟩ cs t) (hlim : LimT t) :
    Does X.P 73 #[.pointer (some ⟨q, o, none⟩)] w0 fun r w' => ∃ t', Nrm t t' ∧ Tr w' (fun k => w0.heap.size ≤ k) r t' ∧ Ext nob w0 w' := by
  obtain ⟨_, _, u_, m, rfl, rfl, hA0, hm⟩ := iP hQ
  clear hQ
  obtain ⟨cc0, _, x0, _, rfl, rfl, h0, hA1⟩ := iA hA0
  obtain ⟨s0, rfl, rfl⟩ := iF8 (by decide) h0
  obtain ⟨cc1, _, x1, _, rfl, rfl, h1, hA2⟩ := iA hA1
  obtain ⟨c1, nl1, l1, rfl, hnl1, rfl, hc1⟩ : ∃ c nl l, cc1 = [c] ∧ (nl = true → l = []) ∧ x1 = .mk 0 [] nl l [] ∧ ListR true (elZ true 6 3 []) (elQ true 6 3 [] ⟨w0, F⟩) w0 F c x1 := h1
  obtain ⟨rfl, rfl⟩ := hA2
  cases hlim
  rename_i hU hKU hDU hLs hu0 hs0 hd0
  have hq : Cells w0 q o [str s0, c1, m] := hq
  obtain ⟨a1, k1, ls1, rfl, hk1, hll1, hnn1, hcl1, hrl1⟩ := hc1.view
  refine Does.go (X := X) (l := [_]) Tryz.func73 rfl (by kernel_rfl) (by kernel_rfl) _ rfl ?_
  ((conv=>whnf);repeat((first|refine mvT ?_|refine mvF ?_|refine yT ?_|refine yF ?_);conv=>whnf))
  intro b2 w1 hb2 ho2 hx1
  ((conv=>whnf);repeat((first|refine mvT ?_|refine mvF ?_|refine yT ?_|refine yF ?_);conv=>whnf))
  refine ⟨⟨by decide, by decide, by decide, by decide⟩, ⟨by decide, rfl⟩, ?_⟩
  intro bl w2 hbl hol hx2
  ((conv=>whnf);repeat((first|refine mvT ?_|refine mvF ?_|refine yT ?_|refine yF ?_);conv=>whnf))
  intro bt w3 hbt hot hx3
  ((conv=>whnf);repeat((first|refine mvT ?_|refine mvF ?_|refine yT ?_|refine yF ?_);conv=>whnf))
  have hzz : w0.heap.size ≤ w1.heap.size := hx1.size
  have H := (((Sg.start w0).push hx1 ho2 hb2).push hx2 hol hbl).push hx3 hot hbt
  refine Sg.st (A := []) (o' := 0) (m := [.int .i64 0, .slice none 0 0, .bool false, .slice (some ⟨bl, 0, none⟩) 2 2, .slice none 0 0]) H rfl (Nat.le_of_ble_eq_true rfl) rfl ?_
  clear H hot hol ho2 hx1 hx2 hx3
  intro w H
  obtain ⟨Tt, Tl, T2, H⟩ : ∃ Tt Tl T2, Sg w0 [(bt, Tt, [.int .i64 0, .slice none 0 0, .bool false, .slice (some ⟨bl, 0, none⟩) 2 2, .slice none 0 0]), (bl, Tl, [.int .i64 0, .slice none 0 0, .bool false, .slice none 0 0, .slice none 0 0, .int .i64 0, .slice none 0 0, .bool false, .slice none 0 0, .slice none 0 0]), (b2, T2, [.int .i64 0, .slice none 0 0, .bool false, .slice none 0 0, .slice none 0 0])] (fun _ => True) w := ⟨_, _, _, H⟩
  have hb2w : w0.heap.size ≤ b2 := hb2
  have hblw : w0.heap.size ≤ bl := by omega
  have hbtw : w0.heap.size ≤ bt := by have := H.dis.1; exact this
  ((conv=>whnf);repeat((first|refine mvT ?_|refine mvF ?_|refine yT ?_|refine yF ?_);conv=>whnf))
  refine VD.draw mixed (.q 0 (.q 1 (.q 2 (.q 3 (.q 4 (.q 5 (.eff 6 [1] (.q 7 (.q 8 (.eff 9 [] (.done))))))))))) (by kernel_rfl) ?_;((conv=>whnf);repeat((first|refine mvT ?_|refine mvF ?_|refine yT ?_|refine yF ?_);conv=>whnf))
  replace H := H.e0 (ext_drew _)
  refine ldS ((Sg.at (A := []) H).cell rfl) ?_;((conv=>whnf);repeat((first|refine mvT ?_|refine mvF ?_|refine yT ?_|refine yF ?_);conv=>whnf))
  refine ⟨_, ld ((hq.e0 H.ext).cell (j := 0) rfl) (by simp), ?_⟩
  ((conv=>whnf);repeat((first|refine mvT ?_|refine mvF ?_|refine yT ?_|refine yF ?_);conv=>whnf))
  refine ⟨by show s0.length ≤ maxLen; have := hLs (.mk 0 s0 false [] []) (by simp); cases this; rw [maxLen_eq]; omega, ?_⟩
  intro bb0 cb0 wb0 hbb0 hbl0 hC0 hcp0 hxb0
  have hC0 : Cells wb0 bb0 0 (s0.map bcell) := hC0
  have hcp0 : s0.length ≤ cb0 ∧ cb0 ≤ maxLen := hcp0
  have H := H.keepN (H.e0 hxb0) (trL [.int .i64 0, .slice (some ⟨bb0, 0, none⟩) s0.length cb0, .bool false, .slice none 0 0, .slice none 0 0] (.mk 0 s0 false [] [])) (F := fun k => _ ≤ k) (TrC.leaf rfl (conv_bytes hbb0 hbl0 hC0 hcp0)) fun k h => h
  refine ⟨by (conv => whnf); exact ⟨⟨_, (Sg.at (A := []) H).cell rfl, rfl, rfl⟩, trivial⟩, ?_⟩
  ((conv=>whnf);repeat((first|refine mvT ?_|refine mvF ?_|refine yT ?_|refine yF ?_);conv=>whnf))
  refine ⟨bl, 0, rfl, ⟨by omega, by omega⟩, ?_⟩
  ((conv=>whnf);repeat((first|refine mvT ?_|refine mvF ?_|refine yT ?_|refine yF ?_);conv=>whnf))
  refine Sg.st (A := [_]) (o' := 0) (m := [.int .i64 0, .slice (some ⟨bb0, 0, none⟩) s0.length cb0, .bool false, .slice none 0 0, .slice none 0 0]) H rfl (Nat.le_of_ble_eq_true rfl) (rfl) ?_
  clear H
  intro w H
  obtain ⟨P0, hP0⟩ : ∃ P : World → Prop, P = fun w => TrC w (fun k => w0.heap.size ≤ k) [.int .i64 0, .slice (some ⟨bb0, 0, none⟩) s0.length cb0, .bool false, .slice none 0 0, .slice none 0 0] (.mk 0 s0 false [] []) ∧ True := ⟨_, rfl⟩
  replace H : Sg w0 [(bt, Tt, [.int .i64 0, .slice none 0 0, .bool false, .slice (some ⟨bl, 0, none⟩) 2 2, .slice none 0 0]), (bl, Tl, [.int .i64 0, .slice (some ⟨bb0, 0, none⟩) s0.length cb0, .bool false, .slice none 0 0, .slice none 0 0, .int .i64 0, .slice none 0 0, .bool false, .slice none 0 0, .slice none 0 0]), (b2, T2, [.int .i64 0, .slice none 0 0, .bool false, .slice none 0 0, .slice none 0 0])] P0 w := by rw [hP0]; exact H
  ((conv=>whnf);repeat((first|refine mvT ?_|refine mvF ?_|refine yT ?_|refine yF ?_);conv=>whnf))
  refine VD.draw mixed (.q 0 (.q 1 (.q 2 (.q 3 (.q 4 (.q 5 (.q 6 (.q 7 (.q 8 (.eff 9 [] (.done))))))))))) (by kernel_rfl) ?_;((conv=>whnf);repeat((first|refine mvT ?_|refine mvF ?_|refine yT ?_|refine yF ?_);conv=>whnf))
  replace H := H.e0 (ext_drew _)
  refine ldS ((Sg.at (A := []) H).cell rfl) ?_;((conv=>whnf);repeat((first|refine mvT ?_|refine mvF ?_|refine yT ?_|refine yF ?_);conv=>whnf))
  refine ⟨_, ld ((hq.e0 H.ext).cell (j := 1) rfl) (by simp), ?_⟩
  ((conv=>whnf);repeat((first|refine mvT ?_|refine mvF ?_|refine yT ?_|refine yF ?_);conv=>whnf))
  refine ⟨bl, 0, rfl, ⟨by omega, by omega⟩, ?_⟩
  ((conv=>whnf);repeat((first|refine mvT ?_|refine mvF ?_|refine yT ?_|refine yF ?_);conv=>whnf))
  refine Sg.st (A := [_]) (o' := 7) (m := [.bool a1.isNone]) H rfl (Nat.le_of_ble_eq_true rfl) (rfl) ?_
  clear H
  intro w H
  replace H : Sg w0 [(bt, Tt, [.int .i64 0, .slice none 0 0, .bool false, .slice (some ⟨bl, 0, none⟩) 2 2, .slice none 0 0]), (bl, Tl, [.int .i64 0, .slice (some ⟨bb0, 0, none⟩) s0.length cb0, .bool false, .slice none 0 0, .slice none 0 0, .int .i64 0, .slice none 0 0, .bool a1.isNone, .slice none 0 0, .slice none 0 0]), (b2, T2, [.int .i64 0, .slice none 0 0, .bool false, .slice none 0 0, .slice none 0 0])] P0 w := H
  ((conv=>whnf);repeat((first|refine mvT ?_|refine mvF ?_|refine yT ?_|refine yF ?_);conv=>whnf))
  refine ⟨_, ld ((hq.e0 H.ext).cell (j := 1) rfl) (by simp), ?_⟩
  ((conv=>whnf);repeat((first|refine mvT ?_|refine mvF ?_|refine yT ?_|refine yF ?_);conv=>whnf))
  have hlsT : lsT (.mk 0 [] nl1 l1 []) = l1 := by
    show (if nl1 = true then [] else l1) = l1
    split
    · rename_i e
      exact (hnl1 e).symm
    · rfl
  rw [hlsT] at hll1 hrl1
  obtain ⟨wL, hwL⟩ : ∃ wL, wL = w := ⟨_, rfl⟩
  rw [← hwL] at H ⊢
  have hLlt := H.own.lt
  have hLl : l1.length ≤ 1000000 ∧ ∀ x, x ∈ l1 → LimT x := by
    have := hLs (.mk 0 [] nl1 l1 []) (by simp)
    cases this
    exact ⟨by assumption, by assumption⟩
  have hs0L := H.ext.size
  refine VL.loop (fun i : Nat => [(29, .int .i64 ls1.length), (30, .int .i64 i), (0, .pointer (some ⟨q, o, none⟩)), (2, .pointer (some ⟨b2, 0, none⟩)), (3, .pointer (some ⟨bt, 0, none⟩))])
    (fun i w' => i ≤ ls1.length ∧ Ext (fun k => k = bl ∨ wL.heap.size ≤ k) wL w' ∧ ∃ vl ts, Own w' bl Tl [.int .i64 0, .slice (some ⟨bb0, 0, none⟩) s0.length cb0, .bool false, .slice none 0 0, .slice none 0 0, .int .i64 0, .slice none 0 0, .bool a1.isNone, vl, .slice none 0 0] ∧ OLn w' wL.heap.size vl ts ∧ ts.length = i ∧ ∀ (j : Nat) (x y : T), l1[j]? = some x → ts[j]? = some y → Nrm x y) (fun i => ls1.length - i) 0
    ⟨rfl, rfl, rfl, rfl, rfl, trivial⟩ ⟨Nat.zero_le _, Ext.refl _ _, _, [], Sg.at (A := [_]) H, OLn.nil _ _, rfl, by simp⟩ ?_
  rintro i w ⟨hi, hxL, vl1, ts1, hobl, hT, htl1, hnr1⟩
  ((conv=>whnf);repeat((first|refine mvT ?_|refine mvF ?_|refine yT ?_|refine yF ?_);conv=>whnf))
  refine cI (by rfl) (fun h9=>?_) (fun h9=>?_)
  · have hil : i < ls1.length := by have := of_decide_eq_true h9; omega
    obtain ⟨be, oe, rfl, hFe, hbe, hce⟩ := hcl1 i ls1[i] (by simp [hil])
    have hqe := hrl1 i ls1[i] l1[i] (by simp [hil]) (by simp)
    have hlime := hLl.2 l1[i] (List.getElem_mem _)
    obtain ⟨t', ht'⟩ : ∃ t', t' = l1[i] := ⟨_, rfl⟩
    obtain ⟨n', _, hce', hxe'⟩ : ∃ n, IntKind.i32.wrap n = n ∧ ls1[i] = [.int .i32 n] ∧ l1[i] = numT n := hqe
    rw [hce'] at hce
    have hwn : IntKind.i64.wrap n' = n' := by rw [hxe'] at hlime; cases hlime; assumption
    have hnr' : Nrm l1[i] t' := by rw [ht', hxe']; exact Nrm.leaf _ _ _
    rw [hxe'] at ht'
    have hx0 : Ext nob w0 w := H.ext.trans hxL fun k hk h => by
      rcases h with h | h
      · omega
      · omega
    have hobt : Own w bt Tt [.int .i64 0, .slice none 0 0, .bool false, .slice (some ⟨bl, 0, none⟩) 2 2, .slice none 0 0] := (Sg.at (A := []) H).ext hxL fun h => by
      have := hLlt bt (by simp [inL])
      have h2 := (H.dis.2.1 : ¬ inL _ bt)
      rcases h with h | h
      · exact h2 (by rw [h]; simp [inL])
      · omega
    obtain ⟨av, cv, rfl⟩ := hT.one
    ((conv=>whnf);repeat((first|refine mvT ?_|refine mvF ?_|refine yT ?_|refine yF ?_);conv=>whnf))
    refine VD.draw mixed (.eff 0 [] (.alt (.eff 1 [] (.eff 2 [] (.q 3 (.done)))) (.eff 2 [] (.eff 1 [] (.q 3 (.done)))))) (by kernel_rfl) ?_;((conv=>whnf);repeat((first|refine mvT ?_|refine mvF ?_|refine yT ?_|refine yF ?_);conv=>whnf))
    intro bb wb hbb hob hxb
    have hxb : Ext nob w wb := (ext_drew w).e0 hxb
    have hbb : w.heap.size ≤ bb := hbb
    ((conv=>whnf);repeat((first|refine mvT ?_|refine mvF ?_|refine yT ?_|refine yF ?_);conv=>whnf))
    constructor
    · conv => whnf
      refine st_all [.bool true] hob rfl rfl rfl ?_
      intro wc hoc hxc
      conv => whnf
      refine st_all [.bool false] hoc rfl rfl rfl ?_
      intro wd hod hxd
      ((conv=>whnf);repeat((first|refine mvT ?_|refine mvF ?_|refine yT ?_|refine yF ?_);conv=>whnf))
      refine ldS (hod.cell rfl) ?_;((conv=>whnf);repeat((first|refine mvT ?_|refine mvF ?_|refine yT ?_|refine yF ?_);conv=>whnf))
      have hxw : Ext nob w wd := (hxb.st hxc hbb).st hxd hbb
      refine VD.draw mixed (.q 0 (.q 1 (.q 2 (.q 3 (.q 4 (.q 5 (.q 6 (.q 7 (.q 8 (.q 9 (.q 10 (.q 11 (.q 12 (.q 13 (.q 14 (.q 15 (.eff 16 [1, 3, 6] (.eff 17 [1] (.q 18 (.q 19 (.eff 20 [] (.done)))))))))))))))))))))) (by kernel_rfl) ?_;((conv=>whnf);repeat((first|refine mvT ?_|refine mvF ?_|refine yT ?_|refine yF ?_);conv=>whnf))
      have hxw := hxw.e0 (ext_drew _)
      have hszd := hxw.size
      refine ldS ((hobt.e0 hxw).cell rfl) ?_;((conv=>whnf);repeat((first|refine mvT ?_|refine mvF ?_|refine yT ?_|refine yF ?_);conv=>whnf))
      refine ldS ((hobt.e0 hxw).cell rfl) ?_;((conv=>whnf);repeat((first|refine mvT ?_|refine mvF ?_|refine yT ?_|refine yF ?_);conv=>whnf))
      refine ⟨bl, 0, rfl, ⟨by omega, by omega⟩, ?_⟩
      ((conv=>whnf);repeat((first|refine mvT ?_|refine mvF ?_|refine yT ?_|refine yF ?_);conv=>whnf))
      refine ldS ((hobl.e0 hxw).cell rfl) ?_;((conv=>whnf);repeat((first|refine mvT ?_|refine mvF ?_|refine yT ?_|refine yF ?_);conv=>whnf))
      refine ⟨_, ld ((hq.e0 (hx0.e0 hxw)).cell (j := 1) rfl) (by simp), ?_⟩
      ((conv=>whnf);repeat((first|refine mvT ?_|refine mvF ?_|refine yT ?_|refine yF ?_);conv=>whnf))
      refine ⟨be, oe, rfl, ⟨by omega, by omega⟩, ?_⟩
      ((conv=>whnf);repeat((first|refine mvT ?_|refine mvF ?_|refine yT ?_|refine yF ?_);conv=>whnf))
      refine ⟨_, ld ((hce.e0 (hx0.e0 hxw)).cell (j := 0) rfl) (by simp [show elZ true 6 3 [] = 1 from rfl]), ?_⟩
      ((conv=>whnf);repeat((first|refine mvT ?_|refine mvF ?_|refine yT ?_|refine yF ?_);conv=>whnf))
      intro bs ws hbs hos hxs
      rw [hwn] at hos
      have hos : Own ws bs TT [.int .i64 n', .slice none 0 0, .bool false, .slice none 0 0, .slice none 0 0] := hos
      have hxw := hxw.e0 hxs
      refine ⟨by (conv => whnf); exact ⟨⟨_, (hobt.e0 hxw).cell rfl, rfl, rfl⟩, ⟨_, (hobt.e0 hxw).cell rfl, rfl, rfl⟩, ⟨_, (hobl.e0 hxw).cell rfl, rfl, rfl⟩, trivial⟩, ?_⟩
      conv => whnf
      have hsLw := hxL.size
      refine OLn.app (x := t') (hT.ext hxw fun _ _ _ f => f) rfl hos rfl rfl (by omega) (by decide) (by have := hxw.size; omega) (by rw [ht']; exact TrC.leaf hwn (Bytes.nil _ _)) ?_
      intro v5 w5 hT5 hx5 _
      obtain ⟨a5, c5, rfl⟩ := hT5.one
      have hown5 : ∀ k, (Value.slice av ts1.length cv).ownBlock = some k → wL.heap.size ≤ k := fun k hk => (hT.own k hk).1
      have hbt5 := (hobt.e0 hxw).ext hx5 fun h => by have := hown5 bt h; have := hLlt bt (by simp [inL]); omega
      have hbl5 := (hobl.e0 hxw).ext hx5 fun h => by have := hown5 bl h; have := hLlt bl (by simp [inL]); omega
      refine ⟨by (conv => whnf); exact ⟨⟨_, hbt5.cell rfl, rfl, rfl⟩, trivial⟩, ?_⟩
      conv => whnf
      refine ⟨bl, 0, rfl, ⟨by omega, by omega⟩, ?_⟩
      ((conv=>whnf);repeat((first|refine mvT ?_|refine mvF ?_|refine yT ?_|refine yF ?_);conv=>whnf))
      refine st_cell (o := 8) (v := .slice a5 (ts1 ++ [t']).length c5) hbl5 rfl rfl rfl (by simp) rfl ?_
      intro w6 ho6 hx6
      ((conv=>whnf);repeat((first|refine mvT ?_|refine mvF ?_|refine yT ?_|refine yF ?_);conv=>whnf))
      have hxL6 : Ext (fun k => k = bl ∨ wL.heap.size ≤ k) wL w6 := ((hxL.trans (hxw.mono (M' := nob) fun _ _ f => f) fun k hk f => f.elim).trans hx5 fun k hk h => by have := hown5 k h; omega).trans hx6 fun k hk h => .inl h
      refine ⟨i + 1, ⟨rfl, inc_eq (by omega), rfl, rfl, rfl, trivial⟩, ⟨by omega, hxL6, _, ts1 ++ [t'], ho6, hT5.ext hx6 (fun k _ h1 h2 => by have := hLlt bl (by simp [inL]); omega), by simp [htl1], ?_⟩, by omega⟩
      intro j x y hx hy
      rcases Nat.lt_or_ge j ts1.length with hj | hj
      · rw [List.getElem?_append_left hj] at hy
        exact hnr1 j x y hx hy
      · rw [List.getElem?_append_right hj] at hy
        obtain ⟨e, he⟩ : ∃ e, j - ts1.length = e := ⟨_, rfl⟩
        rw [he] at hy
        cases e with
        | zero =>
          have : j = i := by omega
          subst this
          simp only [List.getElem?_cons_zero, Option.some.injEq] at hy
          subst hy
          rw [List.getElem?_eq_getElem (by omega), Option.some.injEq] at hx
          subst hx
          exact hnr'
        | succ e => simp at hy
    · conv => whnf
      refine st_all [.bool false] hob rfl rfl rfl ?_
      intro wc hoc hxc
      conv => whnf
      refine st_all [.bool true] hoc rfl rfl rfl ?_
      intro wd hod hxd
      ((conv=>whnf);repeat((first|refine mvT ?_|refine mvF ?_|refine yT ?_|refine yF ?_);conv=>whnf))
      refine ldS (hod.cell rfl) ?_;((conv=>whnf);repeat((first|refine mvT ?_|refine mvF ?_|refine yT ?_|refine yF ?_);conv=>whnf))
      have hxw : Ext nob w wd := (hxb.st hxc hbb).st hxd hbb
      refine VD.draw mixed (.q 0 (.q 1 (.q 2 (.q 3 (.q 4 (.q 5 (.q 6 (.q 7 (.q 8 (.q 9 (.q 10 (.q 11 (.q 12 (.q 13 (.q 14 (.eff 15 [1, 4, 8, 11] (.eff 16 [] (.q 17 (.q 18 (.eff 19 [] (.done))))))))))))))))))))) (by kernel_rfl) ?_;((conv=>whnf);repeat((first|refine mvT ?_|refine mvF ?_|refine yT ?_|refine yF ?_);conv=>whnf))
      have hxw := hxw.e0 (ext_drew _)
      have hszd := hxw.size
      refine ldS ((hobt.e0 hxw).cell rfl) ?_;((conv=>whnf);repeat((first|refine mvT ?_|refine mvF ?_|refine yT ?_|refine yF ?_);conv=>whnf))
      refine ⟨bl, 0, rfl, ⟨by omega, by omega⟩, ?_⟩
      ((conv=>whnf);repeat((first|refine mvT ?_|refine mvF ?_|refine yT ?_|refine yF ?_);conv=>whnf))
      refine ldS ((hobl.e0 hxw).cell rfl) ?_;((conv=>whnf);repeat((first|refine mvT ?_|refine mvF ?_|refine yT ?_|refine yF ?_);conv=>whnf))
      refine ⟨_, ld ((hq.e0 (hx0.e0 hxw)).cell (j := 1) rfl) (by simp), ?_⟩
      ((conv=>whnf);repeat((first|refine mvT ?_|refine mvF ?_|refine yT ?_|refine yF ?_);conv=>whnf))
      refine ⟨be, oe, rfl, ⟨by omega, by omega⟩, ?_⟩
      ((conv=>whnf);repeat((first|refine mvT ?_|refine mvF ?_|refine yT ?_|refine yF ?_);conv=>whnf))
      refine ⟨_, ld ((hce.e0 (hx0.e0 hxw)).cell (j := 0) rfl) (by simp [show elZ true 6 3 [] = 1 from rfl]), ?_⟩
      ((conv=>whnf);repeat((first|refine mvT ?_|refine mvF ?_|refine yT ?_|refine yF ?_);conv=>whnf))
      intro bs ws hbs hos hxs
      have hos : Own ws bs TT [.int .i64 0, .slice none 0 0, .bool false, .slice none 0 0, .slice none 0 0] := hos
      have hxw := hxw.e0 hxs
      refine ⟨by (conv => whnf); exact ⟨⟨_, (hobt.e0 hxw).cell rfl, rfl, rfl⟩, ⟨_, (hobl.e0 hxw).cell rfl, rfl, rfl⟩, ⟨_, (hq.e0 (hx0.e0 hxw)).cell (j := 1) rfl, rfl, rfl⟩, ⟨_, (hce.e0 (hx0.e0 hxw)).cell (j := 0) rfl, rfl, rfl⟩, trivial⟩, ?_⟩
      have htrw : TrC ws (fun k => w.heap.size ≤ k ∧ k < ws.heap.size) [.int .i64 n', .slice none 0 0, .bool false, .slice none 0 0, .slice none 0 0] t' := by rw [ht']; exact TrC.leaf hwn (Bytes.nil _ _)
      conv => whnf
      refine OLn.app (x := .mk 0 [] false [] []) (hT.ext hxw fun _ _ _ f => f) rfl hos rfl rfl (by omega) (by decide) (by have := hxw.size; have := hxL.size; omega) (TrC.leaf rfl (Bytes.nil _ _)) ?_
      intro v5 w5 hT5 hx5 hbk5
      obtain ⟨a5, c5, rfl⟩ := hT5.one
      have hown5 : ∀ k, (Value.slice av ts1.length cv).ownBlock = some k → wL.heap.size ≤ k ∧ k < w.heap.size := fun k hk => hT.own k hk
      have hbl5 := (hobl.e0 hxw).ext hx5 fun h => by have := hown5 bl h; have := hLlt bl (by simp [inL]); omega
      have hblL := hLlt bl (by simp [inL])
      have hsLw := hxL.size
      have hszx := hxw.size
      ((conv=>whnf);repeat((first|refine mvT ?_|refine mvF ?_|refine yT ?_|refine yF ?_);conv=>whnf))
      refine ⟨bl, 0, rfl, ⟨by omega, by omega⟩, ?_⟩
      ((conv=>whnf);repeat((first|refine mvT ?_|refine mvF ?_|refine yT ?_|refine yF ?_);conv=>whnf))
      refine st_cell (o := 8) (v := .slice a5 (ts1 ++ [T.mk 0 [] false [] []]).length c5) hbl5 rfl rfl rfl (by simp) rfl ?_
      intro w6 ho6 hx6
      ((conv=>whnf);repeat((first|refine mvT ?_|refine mvF ?_|refine yT ?_|refine yF ?_);conv=>whnf))
      have hT6 := hT5.ext hx6 (fun k _ h1 h2 => by omega)
      obtain ⟨g, cap, hv, hput⟩ := hT6.last
      injection hv with e1 e2 e3
      subst e1
      subst e3
      have htr6 : TrC w6 (fun k => wL.heap.size ≤ k ∧ (Value.slice (some ⟨g, 0, none⟩) (ts1 ++ [T.mk 0 [] false [] []]).length c5).ownBlock ≠ some k) [.int .i64 n', .slice none 0 0, .bool false, .slice none 0 0, .slice none 0 0] t' := by
        refine ((htrw.ext hx5 fun k _ h e => by have := hown5 k e; omega).ext hx6 fun k _ h e => by omega).mono fun k _ h => ⟨by omega, fun e => ?_⟩
        rcases hbk5 with e2 | ⟨q2, e2, hle⟩
        · have := hown5 k (e2 ▸ e); omega
        · rw [e, Option.some.injEq] at e2
          omega
      refine ⟨g, 0, rfl, ⟨by omega, by simp; omega⟩, ?_⟩
      ((conv=>whnf);repeat((first|refine mvT ?_|refine mvF ?_|refine yT ?_|refine yF ?_);conv=>whnf))
      rw [hwn]
      refine hput [.int .i64 n', .slice none 0 0, .bool false, .slice none 0 0, .slice none 0 0] t' _ _ _ rfl (by simp) htr6 ?_
      intro w7 hT7 hx7
      ((conv=>whnf);repeat((first|refine mvT ?_|refine mvF ?_|refine yT ?_|refine yF ?_);conv=>whnf))
      have hgL : wL.heap.size ≤ g := (hT6.own g rfl).1
      have hxL7 : Ext (fun k => k = bl ∨ wL.heap.size ≤ k) wL w7 := (((hxL.trans (hxw.mono (M' := nob) fun _ _ f => f) fun k hk f => f.elim).trans hx5 fun k hk h => by have := hown5 k h; omega).trans hx6 fun k hk h => .inl h).trans hx7 fun k hk h => by omega
      refine ⟨i + 1, ⟨rfl, inc_eq (by omega), rfl, rfl, rfl, trivial⟩, ⟨by omega, hxL7, _, ts1 ++ [t'], ho6.ext hx7 (by omega), hT7, by simp [htl1], ?_⟩, by omega⟩
      intro j x y hx hy
      rcases Nat.lt_or_ge j ts1.length with hj | hj
      · rw [List.getElem?_append_left hj] at hy
        exact hnr1 j x y hx hy
      · rw [List.getElem?_append_right hj] at hy
        obtain ⟨e, he⟩ : ∃ e, j - ts1.length = e := ⟨_, rfl⟩
        rw [he] at hy
        cases e with
        | zero =>
          have : j = i := by omega
          subst this
          simp only [List.getElem?_cons_zero, Option.some.injEq] at hy
          subst hy
          rw [List.getElem?_eq_getElem (by omega), Option.some.injEq] at hx
          subst hx
          exact hnr'
        | succ e => simp at hy
  · have hil : i = ls1.length := by have := of_decide_eq_false h9; omega
    have H := Sg.up (A := [_]) H hobl (hxL.mono fun k hk h => by rcases h with h | h; exact h; omega)
    have htl1 : ts1.length = l1.length := by omega
    have hnl : a1.isNone = nl1 := hnn1 rfl
    rw [hnl] at H
    have H := H.add (Q := fun w => TrC w (fun k => w0.heap.size ≤ k) [.int .i64 0, .slice none 0 0, .bool nl1, vl1, .slice none 0 0] (.mk 0 [] nl1 ts1 [])) fun w3 x => (hT.ext x fun k hk h1 h2 => by
      have h3 : k < wL.heap.size := hLlt k (by rcases inL3 h2 with h | h | h <;> subst h <;> simp [inL])
      omega).row fun k hk => by omega
    obtain ⟨P1, hP1⟩ : ∃ P : World → Prop, P = fun w => TrC w (fun k => w0.heap.size ≤ k) [.int .i64 0, .slice none 0 0, .bool nl1, vl1, .slice none 0 0] (.mk 0 [] nl1 ts1 []) ∧ P0 w := ⟨_, rfl⟩
    replace H : Sg w0 [(bt, Tt, [.int .i64 0, .slice none 0 0, .bool false, .slice (some ⟨bl, 0, none⟩) 2 2, .slice none 0 0]), (bl, Tl, [.int .i64 0, .slice (some ⟨bb0, 0, none⟩) s0.length cb0, .bool false, .slice none 0 0, .slice none 0 0, .int .i64 0, .slice none 0 0, .bool nl1, vl1, .slice none 0 0]), (b2, T2, [.int .i64 0, .slice none 0 0, .bool false, .slice none 0 0, .slice none 0 0])] P1 w := by rw [hP1]; exact H
    ((conv=>whnf);repeat((first|refine mvT ?_|refine mvF ?_|refine yT ?_|refine yF ?_);conv=>whnf))
    have hql : q < w0.heap.size := World.block_lt_of_cell? w0 _ (hq.cell (j := 0) rfl)
    have hm2 : TagsR w (fun k => F k ∧ k < w0.heap.size) m u_ := (hm.mono (F' := fun k => F k ∧ k < w0.heap.size) fun k h1 h2 => ⟨h2, h1⟩).ext H.ext fun _ _ _ f => f
    refine Does.mono (EachT tgStreamsGroupHeartbeatResponsePartitionsByUserEndpointActivePartition ((hq.e0 H.ext).cell (j := 2) rfl) hm2 hd0 hu0 hs0 (Sg.at (A := []) H) (by omega) (fun k _ h e => by have := h.2; omega)) ?_
    rintro r w2 ⟨u', uv, hperm, hpw, hob, hT, hxe⟩
    have hLlt := H.own.lt
    have hw02 := H.ext.size
    have H2 := Sg.up (A := []) H hob hxe
    obtain ⟨auv, nuv, cuv, rfl⟩ := hT.one
    have H := H2.add (Q := fun w => TgsR w (fun k => w0.heap.size ≤ k) (.slice auv nuv cuv) u') fun w3 x => (hT.ext x fun k hk h1 h2 => by
      have h3 : k < w.heap.size := hLlt k (by rcases inL3 h2 with h | h | h <;> subst h <;> simp [inL])
      omega).tgs fun k hk => by omega
    clear H2
    ((conv=>whnf);repeat((first|refine mvT ?_|refine mvF ?_|refine yT ?_|refine yF ?_);conv=>whnf))
    refine ldS ((Sg.at (A := []) H).cell rfl) ?_;((conv=>whnf);repeat((first|refine mvT ?_|refine mvF ?_|refine yT ?_|refine yF ?_);conv=>whnf))
    refine Does.mono (sorted_does H.now.1 hpw (by rw [hperm.length_eq]; exact hu0)) ?_
    rintro r w3 hx3
    replace H := H.e0 hx3
    ((conv=>whnf);repeat((first|refine mvT ?_|refine mvF ?_|refine yT ?_|refine yF ?_);conv=>whnf))
    refine ⟨_, rfl, (Sg.at (A := []) H).cells, ?_⟩
    ((conv=>whnf);repeat((first|refine mvT ?_|refine mvF ?_|refine yT ?_|refine yF ?_);conv=>whnf))
    refine Sg.st (A := [_, _]) (o' := 0) (m := [.int .i64 0, .slice none 0 0, .bool false, .slice (some ⟨bl, 0, none⟩) 2 2, .slice auv nuv cuv]) H rfl (Nat.le_of_ble_eq_true rfl) rfl ?_
    clear H
    intro w H
    ((conv=>whnf);repeat((first|refine mvT ?_|refine mvF ?_|refine yT ?_|refine yF ?_);conv=>whnf))
    refine ⟨_, rfl, (Sg.at (A := [_, _]) H).cells, ?_⟩
    have hP := H.now
    rw [hP1, hP0] at hP
    have hbl := Sg.at (A := [_]) H
    refine ⟨.mk 0 [] false [.mk 0 s0 false [] [], .mk 0 [] nl1 ts1 []] u', ?_, ⟨_, rfl, .mk 0 [] false [.mk 0 s0 false [] [], .mk 0 [] nl1 ts1 []] u' _ _ _ [[.int .i64 0, .slice (some ⟨bb0, 0, none⟩) s0.length cb0, .bool false, .slice none 0 0, .slice none 0 0], [.int .i64 0, .slice none 0 0, .bool nl1, vl1, .slice none 0 0]] rfl (Bytes.nil _ _) (rows_sl hbl (by simp) rfl (by rw [maxLen_eq]; decide) hblw) rfl ?_ hP.1⟩, H.ext⟩
    · refine .mk _ _ _ _ _ _ _ rfl ?_ hperm hpw
      intro i x y hx hy
      match i, hx, hy with
      | 0, hx, hy => simp only [List.getElem?_cons_succ, List.getElem?_cons_zero, Option.some.injEq] at hx hy; subst hx; subst hy; exact Nrm.leaf _ _ _
      | 1, hx, hy => simp only [List.getElem?_cons_succ, List.getElem?_cons_zero, Option.some.injEq] at hx hy; subst hx; subst hy; exact .mk _ _ _ _ _ _ _ htl1 hnr1 (List.Perm.refl _) List.Pairwise.nil
    · intro i x y hx hy
      match i, hx, hy with
      | 0, hx, hy => simp only [List.getElem?_cons_succ, List.getElem?_cons_zero, Option.some.injEq] at hx hy; subst hx; subst hy; exact hP.2.2.1
      | 1, hx, hy => simp only [List.getElem?_cons_succ, List.getElem?_cons_zero, Option.some.injEq] at hx hy; subst hx; subst hy; exact hP.2.1
theorem tgStreamsGroupHeartbeatResponsePartitionsByUserEndpointStandbyPartition : TellsT 94 := by
  intro w N bt T lv bv F u x hI hN hbt hu hk hx hxl
  obtain ⟨uv, ho, hT⟩ := hI
  obtain ⟨av, cv, rfl, _⟩ := hx.view
  obtain ⟨au, nu, cu, rfl⟩ := hT.one
  refine Does.go (X := X) (l := [_, _, _]) Tryz.func94 rfl (by kernel_rfl) (by kernel_rfl) _ rfl ?_
  ((conv=>whnf);repeat((first|refine mvT ?_|refine mvF ?_|refine yT ?_|refine yF ?_);conv=>whnf))
  refine VD.draw mixed (.q 0 (.q 1 (.q 2 (.q 3 (.eff 4 [1] (.q 5 (.eff 6 [1] (.eff 7 [] (.q 8 (.eff 9 [] (.done))))))))))) (by kernel_rfl) ?_;((conv=>whnf);repeat((first|refine mvT ?_|refine mvF ?_|refine yT ?_|refine yF ?_);conv=>whnf))
  have hxd : Ext nob w w.drew := ext_drew _
  refine ldS ((ho.e0 hxd).cell rfl) ?_;((conv=>whnf);repeat((first|refine mvT ?_|refine mvF ?_|refine yT ?_|refine yF ?_);conv=>whnf))
  refine app_bytes rfl rfl (OB.nil w.drew w.drew.heap.size) (hx.e0 hxd).src rfl (by simp only [List.length_nil]; omega) (Nat.le_refl _) ?_
  intro v3 w3 h3 hx3 _ _
  rw [List.nil_append] at h3
  have hx3 : Ext nob w w3 := hxd.e0 (hx3.mono fun k _ h => by simp [Value.ownBlock] at h)
  obtain ⟨a3, c3, rfl, _⟩ := h3.shape
  refine ⟨by (conv => whnf); exact ⟨⟨_, (ho.e0 hx3).cell rfl, rfl, rfl⟩, trivial⟩, ?_⟩
  ((conv=>whnf);repeat((first|refine mvT ?_|refine mvF ?_|refine yT ?_|refine yF ?_);conv=>whnf))
  intro b4 w4 hb4 ho4 hx4
  have ho4 : Own w4 b4 TGT [.int .u32 (x.1 : Int), .slice a3 x.2.length c3] := ho4
  have hx04 := hx3.e0 hx4
  refine ⟨by (conv => whnf); exact ⟨⟨_, (ho.e0 hx04).cell rfl, rfl, rfl⟩, trivial⟩, ?_⟩
  ((conv=>whnf);repeat((first|refine mvT ?_|refine mvF ?_|refine yT ?_|refine yF ?_);conv=>whnf))
  have hs3 := hx3.size
  have hown : ∀ k, (Value.slice au nu cu).ownBlock = some k → N ≤ k ∧ k < w.heap.size := fun k hk => by
    obtain ⟨ls, h1, _⟩ := hT
    exact ⟨h1.blk k hk, h1.own.lt k hk⟩
  have hwd : w.drew.heap.size = w.heap.size := rfl
  refine OTn.app (hT.ext hx04 fun _ _ _ f => f) rfl ho4 rfl rfl rfl hu (by decide) (Nat.le_trans hN hx04.size) hk ((h3.e0 hx4).bytes fun k hk => ⟨by omega, fun e => by have := hown k e; omega⟩) ?_
  intro v5 w5 hT5 hx5
  obtain ⟨a5, n5, c5, rfl⟩ := hT5.one
  have hob := (ho.e0 hx04).ext hx5 fun h => by have := hown bt h; omega
  ((conv=>whnf);repeat((first|refine mvT ?_|refine mvF ?_|refine yT ?_|refine yF ?_);conv=>whnf))
  refine st_cell (o := 4) (v := .slice a5 n5 c5) hob rfl (by omega) rfl (by simp) rfl ?_
  intro w6 ho6 hx6
  ((conv=>whnf);repeat((first|refine mvT ?_|refine mvF ?_|refine yT ?_|refine yF ?_);conv=>whnf))
  refine ⟨⟨_, ho6, hT5.ext hx6 fun k _ h1 h2 => by omega⟩, ?_⟩
  refine (hx04.mono fun _ _ f => f.elim).trans ((hx5.mono (M' := fun j => j = bt ∨ N ≤ j) fun k _ h => .inr (hown k h).1).trans hx6 fun k _ h => .inl h) fun _ _ h => h
theorem tellStreamsGroupHeartbeatResponsePartitionsByUserEndpointStandbyPartition {w0 : World} {F : Nat → Prop} {q o : Nat} {cs : List Value} {t : T} (hq : Cells w0 q o cs) (hQ : QPart true 7 dStreamsGroupHeartbeatResponsePartitionsByUserEndpointStandbyPartition ⟨w0, F⟩ cs t) (hlim : LimT t) :
    Does X.P 74 #[.pointer (some ⟨q, o, none⟩)] w0 fun r w' => ∃ t', Nrm t t' ∧ Tr w' (fun k => w0.heap.size ≤ k) r t' ∧ Ext nob w0 w' := by
  obtain ⟨_, _, u_, m, rfl, rfl, hA0, hm⟩ := iP hQ
  clear hQ
  obtain ⟨cc0, _, x0, _, rfl, rfl, h0, hA1⟩ := iA hA0
  obtain ⟨s0, rfl, rfl⟩ := iF8 (by decide) h0
  obtain ⟨cc1, _, x1, _, rfl, rfl, h1, hA2⟩ := iA hA1
  obtain ⟨c1, nl1, l1, rfl, hnl1, rfl, hc1⟩ : ∃ c nl l, cc1 = [c] ∧ (nl = true → l = []) ∧ x1 = .mk 0 [] nl l [] ∧ ListR true (elZ true 6 3 []) (elQ true 6 3 [] ⟨w0, F⟩) w0 F c x1 := h1
  obtain ⟨rfl, rfl⟩ := hA2
  cases hlim
  rename_i hU hKU hDU hLs hu0 hs0 hd0
  have hq : Cells w0 q o [str s0, c1, m] := hq
  obtain ⟨a1, k1, ls1, rfl, hk1, hll1, hnn1, hcl1, hrl1⟩ := hc1.view
  refine Does.go (X := X) (l := [_]) Tryz.func74 rfl (by kernel_rfl) (by kernel_rfl) _ rfl ?_
  ((conv=>whnf);repeat((first|refine mvT ?_|refine mvF ?_|refine yT ?_|refine yF ?_);conv=>whnf))
  intro b2 w1 hb2 ho2 hx1
  ((conv=>whnf);repeat((first|refine mvT ?_|refine mvF ?_|refine yT ?_|refine yF ?_);conv=>whnf))
  refine ⟨⟨by decide, by decide, by decide, by decide⟩, ⟨by decide, rfl⟩, ?_⟩
  intro bl w2 hbl hol hx2
  ((conv=>whnf);repeat((first|refine mvT ?_|refine mvF ?_|refine yT ?_|refine yF ?_);conv=>whnf))
  intro bt w3 hbt hot hx3
  ((conv=>whnf);repeat((first|refine mvT ?_|refine mvF ?_|refine yT ?_|refine yF ?_);conv=>whnf))
  have hzz : w0.heap.size ≤ w1.heap.size := hx1.size
  have H := (((Sg.start w0).push hx1 ho2 hb2).push hx2 hol hbl).push hx3 hot hbt
  refine Sg.st (A := []) (o' := 0) (m := [.int .i64 0, .slice none 0 0, .bool false, .slice (some ⟨bl, 0, none⟩) 2 2, .slice none 0 0]) H rfl (Nat.le_of_ble_eq_true rfl) rfl ?_
  clear H hot hol ho2 hx1 hx2 hx3
  intro w H
  obtain ⟨Tt, Tl, T2, H⟩ : ∃ Tt Tl T2, Sg w0 [(bt, Tt, [.int .i64 0, .slice none 0 0, .bool false, .slice (some ⟨bl, 0, none⟩) 2 2, .slice none 0 0]), (bl, Tl, [.int .i64 0, .slice none 0 0, .bool false, .slice none 0 0, .slice none 0 0, .int .i64 0, .slice none 0 0, .bool false, .slice none 0 0, .slice none 0 0]), (b2, T2, [.int .i64 0, .slice none 0 0, .bool false, .slice none 0 0, .slice none 0 0])] (fun _ => True) w := ⟨_, _, _, H⟩
  have hb2w : w0.heap.size ≤ b2 := hb2
  have hblw : w0.heap.size ≤ bl := by omega
  have hbtw : w0.heap.size ≤ bt := by have := H.dis.1; exact this
  ((conv=>whnf);repeat((first|refine mvT ?_|refine mvF ?_|refine yT ?_|refine yF ?_);conv=>whnf))
  refine VD.draw mixed (.q 0 (.q 1 (.q 2 (.q 3 (.q 4 (.q 5 (.eff 6 [1] (.q 7 (.q 8 (.eff 9 [] (.done))))))))))) (by kernel_rfl) ?_;((conv=>whnf);repeat((first|refine mvT ?_|refine mvF ?_|refine yT ?_|refine yF ?_);conv=>whnf))
  replace H := H.e0 (ext_drew _)
  refine ldS ((Sg.at (A := []) H).cell rfl) ?_;((conv=>whnf);repeat((first|refine mvT ?_|refine mvF ?_|refine yT ?_|refine yF ?_);conv=>whnf))
  refine ⟨_, ld ((hq.e0 H.ext).cell (j := 0) rfl) (by simp), ?_⟩
  ((conv=>whnf);repeat((first|refine mvT ?_|refine mvF ?_|refine yT ?_|refine yF ?_);conv=>whnf))
  refine ⟨by show s0.length ≤ maxLen; have := hLs (.mk 0 s0 false [] []) (by simp); cases this; rw [maxLen_eq]; omega, ?_⟩
  intro bb0 cb0 wb0 hbb0 hbl0 hC0 hcp0 hxb0
  have hC0 : Cells wb0 bb0 0 (s0.map bcell) := hC0
  have hcp0 : s0.length ≤ cb0 ∧ cb0 ≤ maxLen := hcp0
  have H := H.keepN (H.e0 hxb0) (trL [.int .i64 0, .slice (some ⟨bb0, 0, none⟩) s0.length cb0, .bool false, .slice none 0 0, .slice none 0 0] (.mk 0 s0 false [] [])) (F := fun k => _ ≤ k) (TrC.leaf rfl (conv_bytes hbb0 hbl0 hC0 hcp0)) fun k h => h
  refine ⟨by (conv => whnf); exact ⟨⟨_, (Sg.at (A := []) H).cell rfl, rfl, rfl⟩, trivial⟩, ?_⟩
  ((conv=>whnf);repeat((first|refine mvT ?_|refine mvF ?_|refine yT ?_|refine yF ?_);conv=>whnf))
  refine ⟨bl, 0, rfl, ⟨by omega, by omega⟩, ?_⟩
  ((conv=>whnf);repeat((first|refine mvT ?_|refine mvF ?_|refine yT ?_|refine yF ?_);conv=>whnf))
  refine Sg.st (A := [_]) (o' := 0) (m := [.int .i64 0, .slice (some ⟨bb0, 0, none⟩) s0.length cb0, .bool false, .slice none 0 0, .slice none 0 0]) H rfl (Nat.le_of_ble_eq_true rfl) (rfl) ?_
  clear H
  intro w H
  obtain ⟨P0, hP0⟩ : ∃ P : World → Prop, P = fun w => TrC w (fun k => w0.heap.size ≤ k) [.int .i64 0, .slice (some ⟨bb0, 0, none⟩) s0.length cb0, .bool false, .slice none 0 0, .slice none 0 0] (.mk 0 s0 false [] []) ∧ True := ⟨_, rfl⟩
  replace H : Sg w0 [(bt, Tt, [.int .i64 0, .slice none 0 0, .bool false, .slice (some ⟨bl, 0, none⟩) 2 2, .slice none 0 0]), (bl, Tl, [.int .i64 0, .slice (some ⟨bb0, 0, none⟩) s0.length cb0, .bool false, .slice none 0 0, .slice none 0 0, .int .i64 0, .slice none 0 0, .bool false, .slice none 0 0, .slice none 0 0]), (b2, T2, [.int .i64 0, .slice none 0 0, .bool false, .slice none 0 0, .slice none 0 0])] P0 w := by rw [hP0]; exact H
  ((conv=>whnf);repeat((first|refine mvT ?_|refine mvF ?_|refine yT ?_|refine yF ?_);conv=>whnf))
  refine VD.draw mixed (.q 0 (.q 1 (.q 2 (.q 3 (.q 4 (.q 5 (.q 6 (.q 7 (.q 8 (.eff 9 [] (.done))))))))))) (by kernel_rfl) ?_;((conv=>whnf);repeat((first|refine mvT ?_|refine mvF ?_|refine yT ?_|refine yF ?_);conv=>whnf))
  replace H := H.e0 (ext_drew _)
  refine ldS ((Sg.at (A := []) H).cell rfl) ?_;((conv=>whnf);repeat((first|refine mvT ?_|refine mvF ?_|refine yT ?_|refine yF ?_);conv=>whnf))
  refine ⟨_, ld ((hq.e0 H.ext).cell (j := 1) rfl) (by simp), ?_⟩
  ((conv=>whnf);repeat((first|refine mvT ?_|refine mvF ?_|refine yT ?_|refine yF ?_);conv=>whnf))
  refine ⟨bl, 0, rfl, ⟨by omega, by omega⟩, ?_⟩
  ((conv=>whnf);repeat((first|refine mvT ?_|refine mvF ?_|refine yT ?_|refine yF ?_);conv=>whnf))
  refine Sg.st (A := [_]) (o' := 7) (m := [.bool a1.isNone]) H rfl (Nat.le_of_ble_eq_true rfl) (rfl) ?_
  clear H
  intro w H
  replace H : Sg w0 [(bt, Tt, [.int .i64 0, .slice none 0 0, .bool false, .slice (some ⟨bl, 0, none⟩) 2 2, .slice none 0 0]), (bl, Tl, [.int .i64 0, .slice (some ⟨bb0, 0, none⟩) s0.length cb0, .bool false, .slice none 0 0, .slice none 0 0, .int .i64 0, .slice none 0 0, .bool a1.isNone, .slice none 0 0, .slice none 0 0]), (b2, T2, [.int .i64 0, .slice none 0 0, .bool false, .slice none 0 0, .slice none 0 0])] P0 w := H
  ((conv=>whnf);repeat((first|refine mvT ?_|refine mvF ?_|refine yT ?_|refine yF ?_);conv=>whnf))
  refine ⟨_, ld ((hq.e0 H.ext).cell (j := 1) rfl) (by simp), ?_⟩
  ((conv=>whnf);repeat((first|refine mvT ?_|refine mvF ?_|refine yT ?_|refine yF ?_);conv=>whnf))
  have hlsT : lsT (.mk 0 [] nl1 l1 []) = l1 := by
    show (if nl1 = true then [] else l1) = l1
    split
    · rename_i e
      exact (hnl1 e).symm
    · rfl
  rw [hlsT] at hll1 hrl1
  obtain ⟨wL, hwL⟩ : ∃ wL, wL = w := ⟨_, rfl⟩
  rw [← hwL] at H ⊢
  have hLlt := H.own.lt
  have hLl : l1.length ≤ 1000000 ∧ ∀ x, x ∈ l1 → LimT x := by
    have := hLs (.mk 0 [] nl1 l1 []) (by simp)
    cases this
    exact ⟨by assumption, by assumption⟩
  have hs0L := H.ext.size
  refine VL.loop (fun i : Nat => [(29, .int .i64 ls1.length), (30, .int .i64 i), (0, .pointer (some ⟨q, o, none⟩)), (2, .pointer (some ⟨b2, 0, none⟩)), (3, .pointer (some ⟨bt, 0, none⟩))])
    (fun i w' => i ≤ ls1.length ∧ Ext (fun k => k = bl ∨ wL.heap.size ≤ k) wL w' ∧ ∃ vl ts, Own w' bl Tl [.int .i64 0, .slice (some ⟨bb0, 0, none⟩) s0.length cb0, .bool false, .slice none 0 0, .slice none 0 0, .int .i64 0, .slice none 0 0, .bool a1.isNone, vl, .slice none 0 0] ∧ OLn w' wL.heap.size vl ts ∧ ts.length = i ∧ ∀ (j : Nat) (x y : T), l1[j]? = some x → ts[j]? = some y → Nrm x y) (fun i => ls1.length - i) 0
    ⟨rfl, rfl, rfl, rfl, rfl, trivial⟩ ⟨Nat.zero_le _, Ext.refl _ _, _, [], Sg.at (A := [_]) H, OLn.nil _ _, rfl, by simp⟩ ?_
  rintro i w ⟨hi, hxL, vl1, ts1, hobl, hT, htl1, hnr1⟩
  ((conv=>whnf);repeat((first|refine mvT ?_|refine mvF ?_|refine yT ?_|refine yF ?_);conv=>whnf))
  refine cI (by rfl) (fun h9=>?_) (fun h9=>?_)
  · have hil : i < ls1.length := by have := of_decide_eq_true h9; omega
    obtain ⟨be, oe, rfl, hFe, hbe, hce⟩ := hcl1 i ls1[i] (by simp [hil])
    have hqe := hrl1 i ls1[i] l1[i] (by simp [hil]) (by simp)
    have hlime := hLl.2 l1[i] (List.getElem_mem _)
    obtain ⟨t', ht'⟩ : ∃ t', t' = l1[i] := ⟨_, rfl⟩
    obtain ⟨n', _, hce', hxe'⟩ : ∃ n, IntKind.i32.wrap n = n ∧ ls1[i] = [.int .i32 n] ∧ l1[i] = numT n := hqe
    rw [hce'] at hce
    have hwn : IntKind.i64.wrap n' = n' := by rw [hxe'] at hlime; cases hlime; assumption
    have hnr' : Nrm l1[i] t' := by rw [ht', hxe']; exact Nrm.leaf _ _ _
    rw [hxe'] at ht'
    have hx0 : Ext nob w0 w := H.ext.trans hxL fun k hk h => by
      rcases h with h | h
      · omega
      · omega
    have hobt : Own w bt Tt [.int .i64 0, .slice none 0 0, .bool false, .slice (some ⟨bl, 0, none⟩) 2 2, .slice none 0 0] := (Sg.at (A := []) H).ext hxL fun h => by
      have := hLlt bt (by simp [inL])
      have h2 := (H.dis.2.1 : ¬ inL _ bt)
      rcases h with h | h
      · exact h2 (by rw [h]; simp [inL])
      · omega
    obtain ⟨av, cv, rfl⟩ := hT.one
    ((conv=>whnf);repeat((first|refine mvT ?_|refine mvF ?_|refine yT ?_|refine yF ?_);conv=>whnf))
    refine VD.draw mixed (.eff 0 [] (.alt (.eff 1 [] (.eff 2 [] (.q 3 (.done)))) (.eff 2 [] (.eff 1 [] (.q 3 (.done)))))) (by kernel_rfl) ?_;((conv=>whnf);repeat((first|refine mvT ?_|refine mvF ?_|refine yT ?_|refine yF ?_);conv=>whnf))
    intro bb wb hbb hob hxb
    have hxb : Ext nob w wb := (ext_drew w).e0 hxb
    have hbb : w.heap.size ≤ bb := hbb
    ((conv=>whnf);repeat((first|refine mvT ?_|refine mvF ?_|refine yT ?_|refine yF ?_);conv=>whnf))
    constructor
    · conv => whnf
      refine st_all [.bool true] hob rfl rfl rfl ?_
      intro wc hoc hxc
      conv => whnf
      refine st_all [.bool false] hoc rfl rfl rfl ?_
      intro wd hod hxd
      ((conv=>whnf);repeat((first|refine mvT ?_|refine mvF ?_|refine yT ?_|refine yF ?_);conv=>whnf))
      refine ldS (hod.cell rfl) ?_;((conv=>whnf);repeat((first|refine mvT ?_|refine mvF ?_|refine yT ?_|refine yF ?_);conv=>whnf))
      have hxw : Ext nob w wd := (hxb.st hxc hbb).st hxd hbb
      refine VD.draw mixed (.q 0 (.q 1 (.q 2 (.q 3 (.q 4 (.q 5 (.q 6 (.q 7 (.q 8 (.q 9 (.q 10 (.q 11 (.q 12 (.q 13 (.q 14 (.q 15 (.eff 16 [1, 3, 6] (.eff 17 [1] (.q 18 (.q 19 (.eff 20 [] (.done)))))))))))))))))))))) (by kernel_rfl) ?_;((conv=>whnf);repeat((first|refine mvT ?_|refine mvF ?_|refine yT ?_|refine yF ?_);conv=>whnf))
      have hxw := hxw.e0 (ext_drew _)
      have hszd := hxw.size
      refine ldS ((hobt.e0 hxw).cell rfl) ?_;((conv=>whnf);repeat((first|refine mvT ?_|refine mvF ?_|refine yT ?_|refine yF ?_);conv=>whnf))
      refine ldS ((hobt.e0 hxw).cell rfl) ?_;((conv=>whnf);repeat((first|refine mvT ?_|refine mvF ?_|refine yT ?_|refine yF ?_);conv=>whnf))
      refine ⟨bl, 0, rfl, ⟨by omega, by omega⟩, ?_⟩
      ((conv=>whnf);repeat((first|refine mvT ?_|refine mvF ?_|refine yT ?_|refine yF ?_);conv=>whnf))
      refine ldS ((hobl.e0 hxw).cell rfl) ?_;((conv=>whnf);repeat((first|refine mvT ?_|refine mvF ?_|refine yT ?_|refine yF ?_);conv=>whnf))
      refine ⟨_, ld ((hq.e0 (hx0.e0 hxw)).cell (j := 1) rfl) (by simp), ?_⟩
      ((conv=>whnf);repeat((first|refine mvT ?_|refine mvF ?_|refine yT ?_|refine yF ?_);conv=>whnf))
      refine ⟨be, oe, rfl, ⟨by omega, by omega⟩, ?_⟩
      ((conv=>whnf);repeat((first|refine mvT ?_|refine mvF ?_|refine yT ?_|refine yF ?_);conv=>whnf))
      refine ⟨_, ld ((hce.e0 (hx0.e0 hxw)).cell (j := 0) rfl) (by simp [show elZ true 6 3 [] = 1 from rfl]), ?_⟩
      ((conv=>whnf);repeat((first|refine mvT ?_|refine mvF ?_|refine yT ?_|refine yF ?_);conv=>whnf))
      intro bs ws hbs hos hxs
      rw [hwn] at hos
      have hos : Own ws bs TT [.int .i64 n', .slice none 0 0, .bool false, .slice none 0 0, .slice none 0 0] := hos
      have hxw := hxw.e0 hxs
      refine ⟨by (conv => whnf); exact ⟨⟨_, (hobt.e0 hxw).cell rfl, rfl, rfl⟩, ⟨_, (hobt.e0 hxw).cell rfl, rfl, rfl⟩, ⟨_, (hobl.e0 hxw).cell rfl, rfl, rfl⟩, trivial⟩, ?_⟩
      conv => whnf
      have hsLw := hxL.size
      refine OLn.app (x := t') (hT.ext hxw fun _ _ _ f => f) rfl hos rfl rfl (by omega) (by decide) (by have := hxw.size; omega) (by rw [ht']; exact TrC.leaf hwn (Bytes.nil _ _)) ?_
      intro v5 w5 hT5 hx5 _
      obtain ⟨a5, c5, rfl⟩ := hT5.one
      have hown5 : ∀ k, (Value.slice av ts1.length cv).ownBlock = some k → wL.heap.size ≤ k := fun k hk => (hT.own k hk).1
      have hbt5 := (hobt.e0 hxw).ext hx5 fun h => by have := hown5 bt h; have := hLlt bt (by simp [inL]); omega
      have hbl5 := (hobl.e0 hxw).ext hx5 fun h => by have := hown5 bl h; have := hLlt bl (by simp [inL]); omega
      refine ⟨by (conv => whnf); exact ⟨⟨_, hbt5.cell rfl, rfl, rfl⟩, trivial⟩, ?_⟩
      conv => whnf
      refine ⟨bl, 0, rfl, ⟨by omega, by omega⟩, ?_⟩
      ((conv=>whnf);repeat((first|refine mvT ?_|refine mvF ?_|refine yT ?_|refine yF ?_);conv=>whnf))
      refine st_cell (o := 8) (v := .slice a5 (ts1 ++ [t']).length c5) hbl5 rfl rfl rfl (by simp) rfl ?_
      intro w6 ho6 hx6
      ((conv=>whnf);repeat((first|refine mvT ?_|refine mvF ?_|refine yT ?_|refine yF ?_);conv=>whnf))
      have hxL6 : Ext (fun k => k = bl ∨ wL.heap.size ≤ k) wL w6 := ((hxL.trans (hxw.mono (M' := nob) fun _ _ f => f) fun k hk f => f.elim).trans hx5 fun k hk h => by have := hown5 k h; omega).trans hx6 fun k hk h => .inl h
      refine ⟨i + 1, ⟨rfl, inc_eq (by omega), rfl, rfl, rfl, trivial⟩, ⟨by omega, hxL6, _, ts1 ++ [t'], ho6, hT5.ext hx6 (fun k _ h1 h2 => by have := hLlt bl (by simp [inL]); omega), by simp [htl1], ?_⟩, by omega⟩
      intro j x y hx hy
      rcases Nat.lt_or_ge j ts1.length with hj | hj
      · rw [List.getElem?_append_left hj] at hy
        exact hnr1 j x y hx hy
      · rw [List.getElem?_append_right hj] at hy
        obtain ⟨e, he⟩ : ∃ e, j - ts1.length = e := ⟨_, rfl⟩
        rw [he] at hy
        cases e with
        | zero =>
          have : j = i := by omega
          subst this
          simp only [List.getElem?_cons_zero, Option.some.injEq] at hy
          subst hy
          rw [List.getElem?_eq_getElem (by omega), Option.some.injEq] at hx
          subst hx
          exact hnr'
        | succ e => simp at hy
    · conv => whnf
      refine st_all [.bool false] hob rfl rfl rfl ?_
      intro wc hoc hxc
      conv => whnf
      refine st_all [.bool true] hoc rfl rfl rfl ?_
      intro wd hod hxd
      ((conv=>whnf);repeat((first|refine mvT ?_|refine mvF ?_|refine yT ?_|refine yF ?_);conv=>whnf))
      refine ldS (hod.cell rfl) ?_;((conv=>whnf);repeat((first|refine mvT ?_|refine mvF ?_|refine yT ?_|refine yF ?_);conv=>whnf))
      have hxw : Ext nob w wd := (hxb.st hxc hbb).st hxd hbb
      refine VD.draw mixed (.q 0 (.q 1 (.q 2 (.q 3 (.q 4 (.q 5 (.q 6 (.q 7 (.q 8 (.q 9 (.q 10 (.q 11 (.q 12 (.q 13 (.q 14 (.eff 15 [1, 4, 8, 11] (.eff 16 [] (.q 17 (.q 18 (.eff 19 [] (.done))))))))))))))))))))) (by kernel_rfl) ?_;((conv=>whnf);repeat((first|refine mvT ?_|refine mvF ?_|refine yT ?_|refine yF ?_);conv=>whnf))
      have hxw := hxw.e0 (ext_drew _)
      have hszd := hxw.size
      refine ldS ((hobt.e0 hxw).cell rfl) ?_;((conv=>whnf);repeat((first|refine mvT ?_|refine mvF ?_|refine yT ?_|refine yF ?_);conv=>whnf))
      refine ⟨bl, 0, rfl, ⟨by omega, by omega⟩, ?_⟩
      ((conv=>whnf);repeat((first|refine mvT ?_|refine mvF ?_|refine yT ?_|refine yF ?_);conv=>whnf))
      refine ldS ((hobl.e0 hxw).cell rfl) ?_;((conv=>whnf);repeat((first|refine mvT ?_|refine mvF ?_|refine yT ?_|refine yF ?_);conv=>whnf))
      refine ⟨_, ld ((hq.e0 (hx0.e0 hxw)).cell (j := 1) rfl) (by simp), ?_⟩
      ((conv=>whnf);repeat((first|refine mvT ?_|refine mvF ?_|refine yT ?_|refine yF ?_);conv=>whnf))
      refine ⟨be, oe, rfl, ⟨by omega, by omega⟩, ?_⟩
      ((conv=>whnf);repeat((first|refine mvT ?_|refine mvF ?_|refine yT ?_|refine yF ?_);conv=>whnf))
      refine ⟨_, ld ((hce.e0 (hx0.e0 hxw)).cell (j := 0) rfl) (by simp [show elZ true 6 3 [] = 1 from rfl]), ?_⟩
      ((conv=>whnf);repeat((first|refine mvT ?_|refine mvF ?_|refine yT ?_|refine yF ?_);conv=>whnf))
      intro bs ws hbs hos hxs
      have hos : Own ws bs TT [.int .i64 0, .slice none 0 0, .bool false, .slice none 0 0, .slice none 0 0] := hos
      have hxw := hxw.e0 hxs
      refine ⟨by (conv => whnf); exact ⟨⟨_, (hobt.e0 hxw).cell rfl, rfl, rfl⟩, ⟨_, (hobl.e0 hxw).cell rfl, rfl, rfl⟩, ⟨_, (hq.e0 (hx0.e0 hxw)).cell (j := 1) rfl, rfl, rfl⟩, ⟨_, (hce.e0 (hx0.e0 hxw)).cell (j := 0) rfl, rfl, rfl⟩, trivial⟩, ?_⟩
      have htrw : TrC ws (fun k => w.heap.size ≤ k ∧ k < ws.heap.size) [.int .i64 n', .slice none 0 0, .bool false, .slice none 0 0, .slice none 0 0] t' := by rw [ht']; exact TrC.leaf hwn (Bytes.nil _ _)
      conv => whnf
      refine OLn.app (x := .mk 0 [] false [] []) (hT.ext hxw fun _ _ _ f => f) rfl hos rfl rfl (by omega) (by decide) (by have := hxw.size; have := hxL.size; omega) (TrC.leaf rfl (Bytes.nil _ _)) ?_
      intro v5 w5 hT5 hx5 hbk5
      obtain ⟨a5, c5, rfl⟩ := hT5.one
      have hown5 : ∀ k, (Value.slice av ts1.length cv).ownBlock = some k → wL.heap.size ≤ k ∧ k < w.heap.size := fun k hk => hT.own k hk
      have hbl5 := (hobl.e0 hxw).ext hx5 fun h => by have := hown5 bl h; have := hLlt bl (by simp [inL]); omega
      have hblL := hLlt bl (by simp [inL])
      have hsLw := hxL.size
      have hszx := hxw.size
      ((conv=>whnf);repeat((first|refine mvT ?_|refine mvF ?_|refine yT ?_|refine yF ?_);conv=>whnf))
      refine ⟨bl, 0, rfl, ⟨by omega, by omega⟩, ?_⟩
      ((conv=>whnf);repeat((first|refine mvT ?_|refine mvF ?_|refine yT ?_|refine yF ?_);conv=>whnf))
      refine st_cell (o := 8) (v := .slice a5 (ts1 ++ [T.mk 0 [] false [] []]).length c5) hbl5 rfl rfl rfl (by simp) rfl ?_
      intro w6 ho6 hx6
      ((conv=>whnf);repeat((first|refine mvT ?_|refine mvF ?_|refine yT ?_|refine yF ?_);conv=>whnf))
      have hT6 := hT5.ext hx6 (fun k _ h1 h2 => by omega)
      obtain ⟨g, cap, hv, hput⟩ := hT6.last
      injection hv with e1 e2 e3
      subst e1
      subst e3
      have htr6 : TrC w6 (fun k => wL.heap.size ≤ k ∧ (Value.slice (some ⟨g, 0, none⟩) (ts1 ++ [T.mk 0 [] false [] []]).length c5).ownBlock ≠ some k) [.int .i64 n', .slice none 0 0, .bool false, .slice none 0 0, .slice none 0 0] t' := by
        refine ((htrw.ext hx5 fun k _ h e => by have := hown5 k e; omega).ext hx6 fun k _ h e => by omega).mono fun k _ h => ⟨by omega, fun e => ?_⟩
        rcases hbk5 with e2 | ⟨q2, e2, hle⟩
        · have := hown5 k (e2 ▸ e); omega
        · rw [e, Option.some.injEq] at e2
          omega
      refine ⟨g, 0, rfl, ⟨by omega, by simp; omega⟩, ?_⟩
      ((conv=>whnf);repeat((first|refine mvT ?_|refine mvF ?_|refine yT ?_|refine yF ?_);conv=>whnf))
      rw [hwn]
      refine hput [.int .i64 n', .slice none 0 0, .bool false, .slice none 0 0, .slice none 0 0] t' _ _ _ rfl (by simp) htr6 ?_
      intro w7 hT7 hx7
      ((conv=>whnf);repeat((first|refine mvT ?_|refine mvF ?_|refine yT ?_|refine yF ?_);conv=>whnf))
      have hgL : wL.heap.size ≤ g := (hT6.own g rfl).1
      have hxL7 : Ext (fun k => k = bl ∨ wL.heap.size ≤ k) wL w7 := (((hxL.trans (hxw.mono (M' := nob) fun _ _ f => f) fun k hk f => f.elim).trans hx5 fun k hk h => by have := hown5 k h; omega).trans hx6 fun k hk h => .inl h).trans hx7 fun k hk h => by omega
      refine ⟨i + 1, ⟨rfl, inc_eq (by omega), rfl, rfl, rfl, trivial⟩, ⟨by omega, hxL7, _, ts1 ++ [t'], ho6.ext hx7 (by omega), hT7, by simp [htl1], ?_⟩, by omega⟩
      intro j x y hx hy
      rcases Nat.lt_or_ge j ts1.length with hj | hj
      · rw [List.getElem?_append_left hj] at hy
        exact hnr1 j x y hx hy
      · rw [List.getElem?_append_right hj] at hy
        obtain ⟨e, he⟩ : ∃ e, j - ts1.length = e := ⟨_, rfl⟩
        rw [he] at hy
        cases e with
        | zero =>
          have : j = i := by omega
          subst this
          simp only [List.getElem?_cons_zero, Option.some.injEq] at hy
          subst hy
          rw [List.getElem?_eq_getElem (by omega), Option.some.injEq] at hx
          subst hx
          exact hnr'
        | succ e => simp at hy
  · have hil : i = ls1.length := by have := of_decide_eq_false h9; omega
    have H := Sg.up (A := [_]) H hobl (hxL.mono fun k hk h => by rcases h with h | h; exact h; omega)
    have htl1 : ts1.length = l1.length := by omega
    have hnl : a1.isNone = nl1 := hnn1 rfl
    rw [hnl] at H
    have H := H.add (Q := fun w => TrC w (fun k => w0.heap.size ≤ k) [.int .i64 0, .slice none 0 0, .bool nl1, vl1, .slice none 0 0] (.mk 0 [] nl1 ts1 [])) fun w3 x => (hT.ext x fun k hk h1 h2 => by
      have h3 : k < wL.heap.size := hLlt k (by rcases inL3 h2 with h | h | h <;> subst h <;> simp [inL])
      omega).row fun k hk => by omega
    obtain ⟨P1, hP1⟩ : ∃ P : World → Prop, P = fun w => TrC w (fun k => w0.heap.size ≤ k) [.int .i64 0, .slice none 0 0, .bool nl1, vl1, .slice none 0 0] (.mk 0 [] nl1 ts1 []) ∧ P0 w := ⟨_, rfl⟩
    replace H : Sg w0 [(bt, Tt, [.int .i64 0, .slice none 0 0, .bool false, .slice (some ⟨bl, 0, none⟩) 2 2, .slice none 0 0]), (bl, Tl, [.int .i64 0, .slice (some ⟨bb0, 0, none⟩) s0.length cb0, .bool false, .slice none 0 0, .slice none 0 0, .int .i64 0, .slice none 0 0, .bool nl1, vl1, .slice none 0 0]), (b2, T2, [.int .i64 0, .slice none 0 0, .bool false, .slice none 0 0, .slice none 0 0])] P1 w := by rw [hP1]; exact H
    ((conv=>whnf);repeat((first|refine mvT ?_|refine mvF ?_|refine yT ?_|refine yF ?_);conv=>whnf))
    have hql : q < w0.heap.size := World.block_lt_of_cell? w0 _ (hq.cell (j := 0) rfl)
    have hm2 : TagsR w (fun k => F k ∧ k < w0.heap.size) m u_ := (hm.mono (F' := fun k => F k ∧ k < w0.heap.size) fun k h1 h2 => ⟨h2, h1⟩).ext H.ext fun _ _ _ f => f
    refine Does.mono (EachT tgStreamsGroupHeartbeatResponsePartitionsByUserEndpointStandbyPartition ((hq.e0 H.ext).cell (j := 2) rfl) hm2 hd0 hu0 hs0 (Sg.at (A := []) H) (by omega) (fun k _ h e => by have := h.2; omega)) ?_
    rintro r w2 ⟨u', uv, hperm, hpw, hob, hT, hxe⟩
    have hLlt := H.own.lt
    have hw02 := H.ext.size
    have H2 := Sg.up (A := []) H hob hxe
    obtain ⟨auv, nuv, cuv, rfl⟩ := hT.one
    have H := H2.add (Q := fun w => TgsR w (fun k => w0.heap.size ≤ k) (.slice auv nuv cuv) u') fun w3 x => (hT.ext x fun k hk h1 h2 => by
      have h3 : k < w.heap.size := hLlt k (by rcases inL3 h2 with h | h | h <;> subst h <;> simp [inL])
      omega).tgs fun k hk => by omega
    clear H2
    ((conv=>whnf);repeat((first|refine mvT ?_|refine mvF ?_|refine yT ?_|refine yF ?_);conv=>whnf))
    refine ldS ((Sg.at (A := []) H).cell rfl) ?_;((conv=>whnf);repeat((first|refine mvT ?_|refine mvF ?_|refine yT ?_|refine yF ?_);conv=>whnf))
    refine Does.mono (sorted_does H.now.1 hpw (by rw [hperm.length_eq]; exact hu0)) ?_
    rintro r w3 hx3
    replace H := H.e0 hx3
    ((conv=>whnf);repeat((first|refine mvT ?_|refine mvF ?_|refine yT ?_|refine yF ?_);conv=>whnf))
    refine ⟨_, rfl, (Sg.at (A := []) H).cells, ?_⟩
    ((conv=>whnf);repeat((first|refine mvT ?_|refine mvF ?_|refine yT ?_|refine yF ?_);conv=>whnf))
    refine Sg.st (A := [_, _]) (o' := 0) (m := [.int .i64 0, .slice none 0 0, .bool false, .slice (some ⟨bl, 0, none⟩) 2 2, .slice auv nuv cuv]) H rfl (Nat.le_of_ble_eq_true rfl) rfl ?_
    clear H
    intro w H
    ((conv=>whnf);repeat((first|refine mvT ?_|refine mvF ?_|refine yT ?_|refine yF ?_);conv=>whnf))
    refine ⟨_, rfl, (Sg.at (A := [_, _]) H).cells, ?_⟩
    have hP := H.now
    rw [hP1, hP0] at hP
    have hbl := Sg.at (A := [_]) H
    refine ⟨.mk 0 [] false [.mk 0 s0 false [] [], .mk 0 [] nl1 ts1 []] u', ?_, ⟨_, rfl, .mk 0 [] false [.mk 0 s0 false [] [], .mk 0 [] nl1 ts1 []] u' _ _ _ [[.int .i64 0, .slice (some ⟨bb0, 0, none⟩) s0.length cb0, .bool false, .slice none 0 0, .slice none 0 0], [.int .i64 0, .slice none 0 0, .bool nl1, vl1, .slice none 0 0]] rfl (Bytes.nil _ _) (rows_sl hbl (by simp) rfl (by rw [maxLen_eq]; decide) hblw) rfl ?_ hP.1⟩, H.ext⟩
    · refine .mk _ _ _ _ _ _ _ rfl ?_ hperm hpw
      intro i x y hx hy
      match i, hx, hy with
      | 0, hx, hy => simp only [List.getElem?_cons_succ, List.getElem?_cons_zero, Option.some.injEq] at hx hy; subst hx; subst hy; exact Nrm.leaf _ _ _
      | 1, hx, hy => simp only [List.getElem?_cons_succ, List.getElem?_cons_zero, Option.some.injEq] at hx hy; subst hx; subst hy; exact .mk _ _ _ _ _ _ _ htl1 hnr1 (List.Perm.refl _) List.Pairwise.nil
    · intro i x y hx hy
      match i, hx, hy with
      | 0, hx, hy => simp only [List.getElem?_cons_succ, List.getElem?_cons_zero, Option.some.injEq] at hx hy; subst hx; subst hy; exact hP.2.2.1
      | 1, hx, hy => simp only [List.getElem?_cons_succ, List.getElem?_cons_zero, Option.some.injEq] at hx hy; subst hx; subst hy; exact hP.2.1
theorem tgStreamsGroupHeartbeatResponsePartitionsByUserEndpoint : TellsT 75 := by
  intro w N bt T lv bv F u x hI hN hbt hu hk hx hxl
  obtain ⟨uv, ho, hT⟩ := hI
  obtain ⟨av, cv, rfl, _⟩ := hx.view
  obtain ⟨au, nu, cu, rfl⟩ := hT.one
  refine Does.go (X := X) (l := [_, _, _]) Tryz.func75 rfl (by kernel_rfl) (by kernel_rfl) _ rfl ?_
  ((conv=>whnf);repeat((first|refine mvT ?_|refine mvF ?_|refine yT ?_|refine yF ?_);conv=>whnf))
  refine VD.draw mixed (.q 0 (.q 1 (.q 2 (.q 3 (.eff 4 [1] (.q 5 (.eff 6 [1] (.eff 7 [] (.q 8 (.eff 9 [] (.done))))))))))) (by kernel_rfl) ?_;((conv=>whnf);repeat((first|refine mvT ?_|refine mvF ?_|refine yT ?_|refine yF ?_);conv=>whnf))
  have hxd : Ext nob w w.drew := ext_drew _
  refine ldS ((ho.e0 hxd).cell rfl) ?_;((conv=>whnf);repeat((first|refine mvT ?_|refine mvF ?_|refine yT ?_|refine yF ?_);conv=>whnf))
  refine app_bytes rfl rfl (OB.nil w.drew w.drew.heap.size) (hx.e0 hxd).src rfl (by simp only [List.length_nil]; omega) (Nat.le_refl _) ?_
  intro v3 w3 h3 hx3 _ _
  rw [List.nil_append] at h3
  have hx3 : Ext nob w w3 := hxd.e0 (hx3.mono fun k _ h => by simp [Value.ownBlock] at h)
  obtain ⟨a3, c3, rfl, _⟩ := h3.shape
  refine ⟨by (conv => whnf); exact ⟨⟨_, (ho.e0 hx3).cell rfl, rfl, rfl⟩, trivial⟩, ?_⟩
  ((conv=>whnf);repeat((first|refine mvT ?_|refine mvF ?_|refine yT ?_|refine yF ?_);conv=>whnf))
  intro b4 w4 hb4 ho4 hx4
  have ho4 : Own w4 b4 TGT [.int .u32 (x.1 : Int), .slice a3 x.2.length c3] := ho4
  have hx04 := hx3.e0 hx4
  refine ⟨by (conv => whnf); exact ⟨⟨_, (ho.e0 hx04).cell rfl, rfl, rfl⟩, trivial⟩, ?_⟩
  ((conv=>whnf);repeat((first|refine mvT ?_|refine mvF ?_|refine yT ?_|refine yF ?_);conv=>whnf))
  have hs3 := hx3.size
  have hown : ∀ k, (Value.slice au nu cu).ownBlock = some k → N ≤ k ∧ k < w.heap.size := fun k hk => by
    obtain ⟨ls, h1, _⟩ := hT
    exact ⟨h1.blk k hk, h1.own.lt k hk⟩
  have hwd : w.drew.heap.size = w.heap.size := rfl
  refine OTn.app (hT.ext hx04 fun _ _ _ f => f) rfl ho4 rfl rfl rfl hu (by decide) (Nat.le_trans hN hx04.size) hk ((h3.e0 hx4).bytes fun k hk => ⟨by omega, fun e => by have := hown k e; omega⟩) ?_
  intro v5 w5 hT5 hx5
  obtain ⟨a5, n5, c5, rfl⟩ := hT5.one
  have hob := (ho.e0 hx04).ext hx5 fun h => by have := hown bt h; omega
  ((conv=>whnf);repeat((first|refine mvT ?_|refine mvF ?_|refine yT ?_|refine yF ?_);conv=>whnf))
  refine st_cell (o := 4) (v := .slice a5 n5 c5) hob rfl (by omega) rfl (by simp) rfl ?_
  intro w6 ho6 hx6
  ((conv=>whnf);repeat((first|refine mvT ?_|refine mvF ?_|refine yT ?_|refine yF ?_);conv=>whnf))
  refine ⟨⟨_, ho6, hT5.ext hx6 fun k _ h1 h2 => by omega⟩, ?_⟩
  refine (hx04.mono fun _ _ f => f.elim).trans ((hx5.mono (M' := fun j => j = bt ∨ N ≤ j) fun k _ h => .inr (hown k h).1).trans hx6 fun k _ h => .inl h) fun _ _ h => h
theorem tellStreamsGroupHeartbeatResponsePartitionsByUserEndpoint {w0 : World} {F : Nat → Prop} {q o : Nat} {cs : List Value} {t : T} (hq : Cells w0 q o cs) (hQ : QPart true 8 dStreamsGroupHeartbeatResponsePartitionsByUserEndpoint ⟨w0, F⟩ cs t) (hlim : LimT t) :
    Does X.P 34 #[.pointer (some ⟨q, o, none⟩)] w0 fun r w' => ∃ t', Nrm t t' ∧ Tr w' (fun k => w0.heap.size ≤ k) r t' ∧ Ext nob w0 w' := by
  obtain ⟨_, _, u_, m, rfl, rfl, hA0, hm⟩ := iP hQ
  clear hQ
  obtain ⟨cc0, _, x0, _, rfl, rfl, h0, hA1⟩ := iA hA0
  have hin0 : QPart true 7 dEndpoint ⟨w0, F⟩ cc0 x0 := h0
  have hsl0 : cc0.length = 3 := QPart_len hin0
  obtain ⟨c0_0, c0_1, c0_2, rfl⟩ : ∃ c0_0 c0_1 c0_2, cc0 = [c0_0, c0_1, c0_2] := by
    match cc0, hsl0 with
    | [c0_0, c0_1, c0_2], _ => exact ⟨_, _, _, rfl⟩
  obtain ⟨cc1, _, x1, _, rfl, rfl, h1, hA2⟩ := iA hA1
  obtain ⟨c1, nl1, l1, rfl, hnl1, rfl, hc1⟩ : ∃ c nl l, cc1 = [c] ∧ (nl = true → l = []) ∧ x1 = .mk 0 [] nl l [] ∧ ListR true (elZ true 7 10 dStreamsGroupHeartbeatResponsePartitionsByUserEndpointActivePartition) (elQ true 7 10 dStreamsGroupHeartbeatResponsePartitionsByUserEndpointActivePartition ⟨w0, F⟩) w0 F c x1 := h1
  obtain ⟨cc2, _, x2, _, rfl, rfl, h2, hA3⟩ := iA hA2
  obtain ⟨c2, nl2, l2, rfl, hnl2, rfl, hc2⟩ : ∃ c nl l, cc2 = [c] ∧ (nl = true → l = []) ∧ x2 = .mk 0 [] nl l [] ∧ ListR true (elZ true 7 10 dStreamsGroupHeartbeatResponsePartitionsByUserEndpointStandbyPartition) (elQ true 7 10 dStreamsGroupHeartbeatResponsePartitionsByUserEndpointStandbyPartition ⟨w0, F⟩) w0 F c x2 := h2
  obtain ⟨rfl, rfl⟩ := hA3
  cases hlim
  rename_i hU hKU hDU hLs hu0 hs0 hd0
  have hq : Cells w0 q o [c0_0, c0_1, c0_2, c1, c2, m] := hq
  obtain ⟨a1, k1, ls1, rfl, hk1, hll1, hnn1, hcl1, hrl1⟩ := hc1.view
  obtain ⟨a2, k2, ls2, rfl, hk2, hll2, hnn2, hcl2, hrl2⟩ := hc2.view
  refine Does.go (X := X) (l := [_]) Tryz.func34 rfl (by kernel_rfl) (by kernel_rfl) _ rfl ?_
  ((conv=>whnf);repeat((first|refine mvT ?_|refine mvF ?_|refine yT ?_|refine yF ?_);conv=>whnf))
  intro b2 w1 hb2 ho2 hx1
  ((conv=>whnf);repeat((first|refine mvT ?_|refine mvF ?_|refine yT ?_|refine yF ?_);conv=>whnf))
  refine ⟨⟨by decide, by decide, by decide, by decide⟩, ⟨by decide, rfl⟩, ?_⟩
  intro bl w2 hbl hol hx2
  ((conv=>whnf);repeat((first|refine mvT ?_|refine mvF ?_|refine yT ?_|refine yF ?_);conv=>whnf))
  intro bt w3 hbt hot hx3
  ((conv=>whnf);repeat((first|refine mvT ?_|refine mvF ?_|refine yT ?_|refine yF ?_);conv=>whnf))
  have hzz : w0.heap.size ≤ w1.heap.size := hx1.size
  have H := (((Sg.start w0).push hx1 ho2 hb2).push hx2 hol hbl).push hx3 hot hbt
  refine Sg.st (A := []) (o' := 0) (m := [.int .i64 0, .slice none 0 0, .bool false, .slice (some ⟨bl, 0, none⟩) 3 3, .slice none 0 0]) H rfl (Nat.le_of_ble_eq_true rfl) rfl ?_
  clear H hot hol ho2 hx1 hx2 hx3
  intro w H
  obtain ⟨Tt, Tl, T2, H⟩ : ∃ Tt Tl T2, Sg w0 [(bt, Tt, [.int .i64 0, .slice none 0 0, .bool false, .slice (some ⟨bl, 0, none⟩) 3 3, .slice none 0 0]), (bl, Tl, [.int .i64 0, .slice none 0 0, .bool false, .slice none 0 0, .slice none 0 0, .int .i64 0, .slice none 0 0, .bool false, .slice none 0 0, .slice none 0 0, .int .i64 0, .slice none 0 0, .bool false, .slice none 0 0, .slice none 0 0]), (b2, T2, [.int .i64 0, .slice none 0 0, .bool false, .slice none 0 0, .slice none 0 0])] (fun _ => True) w := ⟨_, _, _, H⟩
  have hb2w : w0.heap.size ≤ b2 := hb2
  have hblw : w0.heap.size ≤ bl := by omega
  have hbtw : w0.heap.size ≤ bt := by have := H.dis.1; exact this
  ((conv=>whnf);repeat((first|refine mvT ?_|refine mvF ?_|refine yT ?_|refine yF ?_);conv=>whnf))
  refine VD.draw mixed (.q 0 (.q 1 (.q 2 (.q 3 (.q 4 (.eff 5 [1] (.q 6 (.eff 7 [] (.done))))))))) (by kernel_rfl) ?_;((conv=>whnf);repeat((first|refine mvT ?_|refine mvF ?_|refine yT ?_|refine yF ?_);conv=>whnf))
  replace H := H.e0 (ext_drew _)
  refine ldS ((Sg.at (A := []) H).cell rfl) ?_;((conv=>whnf);repeat((first|refine mvT ?_|refine mvF ?_|refine yT ?_|refine yF ?_);conv=>whnf))
  refine Does.mono (tellEndpoint (F := F) ((hq.e0 H.ext).sub2 0 3 rfl rfl) (QPart_later true 7 _ _ _ w0 _ F F nob hin0 H.ext fun k _ hf => ⟨fun f => f, hf⟩) (hLs x0 (by simp))) ?_
  rintro rr0 wr0 ⟨xt0, hnx0, ⟨cr0, rfl, hr0⟩, hxr0⟩
  obtain ⟨nv0, sv0, nm0, lv0, uv0, rfl⟩ : ∃ n sv nl lv uv, cr0 = [.int .i64 n, sv, .bool nl, lv, uv] := by cases hr0; exact ⟨_, _, _, _, _, rfl⟩
  have H := H.keepN (H.e0 hxr0) (trL [.int .i64 nv0, sv0, .bool nm0, lv0, uv0] (xt0)) (F := fun k => _ ≤ k) hr0 fun k h => h
  refine ⟨by (conv => whnf); exact ⟨⟨_, (Sg.at (A := []) H).cell rfl, rfl, rfl⟩, trivial⟩, ?_⟩
  ((conv=>whnf);repeat((first|refine mvT ?_|refine mvF ?_|refine yT ?_|refine yF ?_);conv=>whnf))
  refine ⟨bl, 0, rfl, ⟨by omega, by omega⟩, ?_⟩
  ((conv=>whnf);repeat((first|refine mvT ?_|refine mvF ?_|refine yT ?_|refine yF ?_);conv=>whnf))
  refine Sg.st (A := [_]) (o' := 0) (m := [.int .i64 nv0, sv0, .bool nm0, lv0, uv0]) H rfl (Nat.le_of_ble_eq_true rfl) (hr0.ok) ?_
  clear H
  intro w H
  obtain ⟨P0, hP0⟩ : ∃ P : World → Prop, P = fun w => TrC w (fun k => w0.heap.size ≤ k) [.int .i64 nv0, sv0, .bool nm0, lv0, uv0] (xt0) ∧ True := ⟨_, rfl⟩
  replace H : Sg w0 [(bt, Tt, [.int .i64 0, .slice none 0 0, .bool false, .slice (some ⟨bl, 0, none⟩) 3 3, .slice none 0 0]), (bl, Tl, [.int .i64 nv0, sv0, .bool nm0, lv0, uv0, .int .i64 0, .slice none 0 0, .bool false, .slice none 0 0, .slice none 0 0, .int .i64 0, .slice none 0 0, .bool false, .slice none 0 0, .slice none 0 0]), (b2, T2, [.int .i64 0, .slice none 0 0, .bool false, .slice none 0 0, .slice none 0 0])] P0 w := by rw [hP0]; exact H
  ((conv=>whnf);repeat((first|refine mvT ?_|refine mvF ?_|refine yT ?_|refine yF ?_);conv=>whnf))
  refine VD.draw mixed (.q 0 (.q 1 (.q 2 (.q 3 (.q 4 (.q 5 (.q 6 (.q 7 (.q 8 (.eff 9 [] (.done))))))))))) (by kernel_rfl) ?_;((conv=>whnf);repeat((first|refine mvT ?_|refine mvF ?_|refine yT ?_|refine yF ?_);conv=>whnf))
  replace H := H.e0 (ext_drew _)
  refine ldS ((Sg.at (A := []) H).cell rfl) ?_;((conv=>whnf);repeat((first|refine mvT ?_|refine mvF ?_|refine yT ?_|refine yF ?_);conv=>whnf))
  refine ⟨_, ld ((hq.e0 H.ext).cell (j := 3) rfl) (by simp), ?_⟩
  ((conv=>whnf);repeat((first|refine mvT ?_|refine mvF ?_|refine yT ?_|refine yF ?_);conv=>whnf))
  refine ⟨bl, 0, rfl, ⟨by omega, by omega⟩, ?_⟩
  ((conv=>whnf);repeat((first|refine mvT ?_|refine mvF ?_|refine yT ?_|refine yF ?_);conv=>whnf))
  refine Sg.st (A := [_]) (o' := 7) (m := [.bool a1.isNone]) H rfl (Nat.le_of_ble_eq_true rfl) (rfl) ?_
  clear H
  intro w H
  replace H : Sg w0 [(bt, Tt, [.int .i64 0, .slice none 0 0, .bool false, .slice (some ⟨bl, 0, none⟩) 3 3, .slice none 0 0]), (bl, Tl, [.int .i64 nv0, sv0, .bool nm0, lv0, uv0, .int .i64 0, .slice none 0 0, .bool a1.isNone, .slice none 0 0, .slice none 0 0, .int .i64 0, .slice none 0 0, .bool false, .slice none 0 0, .slice none 0 0]), (b2, T2, [.int .i64 0, .slice none 0 0, .bool false, .slice none 0 0, .slice none 0 0])] P0 w := H
  ((conv=>whnf);repeat((first|refine mvT ?_|refine mvF ?_|refine yT ?_|refine yF ?_);conv=>whnf))
  refine ⟨_, ld ((hq.e0 H.ext).cell (j := 3) rfl) (by simp), ?_⟩
  ((conv=>whnf);repeat((first|refine mvT ?_|refine mvF ?_|refine yT ?_|refine yF ?_);conv=>whnf))
  have hlsT : lsT (.mk 0 [] nl1 l1 []) = l1 := by
    show (if nl1 = true then [] else l1) = l1
    split
    · rename_i e
      exact (hnl1 e).symm
    · rfl
  rw [hlsT] at hll1 hrl1
  obtain ⟨wL, hwL⟩ : ∃ wL, wL = w := ⟨_, rfl⟩
  rw [← hwL] at H ⊢
  have hLlt := H.own.lt
  have hLl : l1.length ≤ 1000000 ∧ ∀ x, x ∈ l1 → LimT x := by
    have := hLs (.mk 0 [] nl1 l1 []) (by simp)
    cases this
    exact ⟨by assumption, by assumption⟩
  have hs0L := H.ext.size
  refine VL.loop (fun i : Nat => [(28, .int .i64 ls1.length), (29, .int .i64 i), (0, .pointer (some ⟨q, o, none⟩)), (2, .pointer (some ⟨b2, 0, none⟩)), (3, .pointer (some ⟨bt, 0, none⟩))])
    (fun i w' => i ≤ ls1.length ∧ Ext (fun k => k = bl ∨ wL.heap.size ≤ k) wL w' ∧ ∃ vl ts, Own w' bl Tl [.int .i64 nv0, sv0, .bool nm0, lv0, uv0, .int .i64 0, .slice none 0 0, .bool a1.isNone, vl, .slice none 0 0, .int .i64 0, .slice none 0 0, .bool false, .slice none 0 0, .slice none 0 0] ∧ OLn w' wL.heap.size vl ts ∧ ts.length = i ∧ ∀ (j : Nat) (x y : T), l1[j]? = some x → ts[j]? = some y → Nrm x y) (fun i => ls1.length - i) 0
    ⟨rfl, rfl, rfl, rfl, rfl, trivial⟩ ⟨Nat.zero_le _, Ext.refl _ _, _, [], Sg.at (A := [_]) H, OLn.nil _ _, rfl, by simp⟩ ?_
  rintro i w ⟨hi, hxL, vl1, ts1, hobl, hT, htl1, hnr1⟩
  ((conv=>whnf);repeat((first|refine mvT ?_|refine mvF ?_|refine yT ?_|refine yF ?_);conv=>whnf))
  refine cI (by rfl) (fun h9=>?_) (fun h9=>?_)
  · have hil : i < ls1.length := by have := of_decide_eq_true h9; omega
    obtain ⟨be, oe, rfl, hFe, hbe, hce⟩ := hcl1 i ls1[i] (by simp [hil])
    have hqe := hrl1 i ls1[i] l1[i] (by simp [hil]) (by simp)
    have hlime := hLl.2 l1[i] (List.getElem_mem _)
    have hx0 : Ext nob w0 w := H.ext.trans hxL fun k hk h => by
      rcases h with h | h
      · omega
      · omega
    have hobt : Own w bt Tt [.int .i64 0, .slice none 0 0, .bool false, .slice (some ⟨bl, 0, none⟩) 3 3, .slice none 0 0] := (Sg.at (A := []) H).ext hxL fun h => by
      have := hLlt bt (by simp [inL])
      have h2 := (H.dis.2.1 : ¬ inL _ bt)
      rcases h with h | h
      · exact h2 (by rw [h]; simp [inL])
      · omega
    obtain ⟨av, cv, rfl⟩ := hT.one
    ((conv=>whnf);repeat((first|refine mvT ?_|refine mvF ?_|refine yT ?_|refine yF ?_);conv=>whnf))
    refine VD.draw mixed (.eff 0 [] (.alt (.eff 1 [] (.eff 2 [] (.q 3 (.done)))) (.eff 2 [] (.eff 1 [] (.q 3 (.done)))))) (by kernel_rfl) ?_;((conv=>whnf);repeat((first|refine mvT ?_|refine mvF ?_|refine yT ?_|refine yF ?_);conv=>whnf))
    intro bb wb hbb hob hxb
    have hxb : Ext nob w wb := (ext_drew w).e0 hxb
    have hbb : w.heap.size ≤ bb := hbb
    ((conv=>whnf);repeat((first|refine mvT ?_|refine mvF ?_|refine yT ?_|refine yF ?_);conv=>whnf))
    constructor
    · conv => whnf
      refine st_all [.bool true] hob rfl rfl rfl ?_
      intro wc hoc hxc
      conv => whnf
      refine st_all [.bool false] hoc rfl rfl rfl ?_
      intro wd hod hxd
      ((conv=>whnf);repeat((first|refine mvT ?_|refine mvF ?_|refine yT ?_|refine yF ?_);conv=>whnf))
      refine ldS (hod.cell rfl) ?_;((conv=>whnf);repeat((first|refine mvT ?_|refine mvF ?_|refine yT ?_|refine yF ?_);conv=>whnf))
      have hxw : Ext nob w wd := (hxb.st hxc hbb).st hxd hbb
      refine VD.draw mixed (.q 0 (.q 1 (.q 2 (.q 3 (.q 4 (.q 5 (.q 6 (.q 7 (.q 8 (.q 9 (.q 10 (.q 11 (.q 12 (.eff 13 [1, 3, 6] (.eff 14 [1, 3, 6] (.eff 15 [1] (.q 16 (.q 17 (.eff 18 [] (.done)))))))))))))))))))) (by kernel_rfl) ?_;((conv=>whnf);repeat((first|refine mvT ?_|refine mvF ?_|refine yT ?_|refine yF ?_);conv=>whnf))
      have hxw := hxw.e0 (ext_drew _)
      have hszd := hxw.size
      refine ldS ((hobt.e0 hxw).cell rfl) ?_;((conv=>whnf);repeat((first|refine mvT ?_|refine mvF ?_|refine yT ?_|refine yF ?_);conv=>whnf))
      refine ldS ((hobt.e0 hxw).cell rfl) ?_;((conv=>whnf);repeat((first|refine mvT ?_|refine mvF ?_|refine yT ?_|refine yF ?_);conv=>whnf))
      refine ⟨bl, 0, rfl, ⟨by omega, by omega⟩, ?_⟩
      ((conv=>whnf);repeat((first|refine mvT ?_|refine mvF ?_|refine yT ?_|refine yF ?_);conv=>whnf))
      refine ldS ((hobl.e0 hxw).cell rfl) ?_;((conv=>whnf);repeat((first|refine mvT ?_|refine mvF ?_|refine yT ?_|refine yF ?_);conv=>whnf))
      refine ⟨_, ld ((hq.e0 (hx0.e0 hxw)).cell (j := 3) rfl) (by simp), ?_⟩
      ((conv=>whnf);repeat((first|refine mvT ?_|refine mvF ?_|refine yT ?_|refine yF ?_);conv=>whnf))
      refine ⟨be, oe, rfl, ⟨by omega, by omega⟩, ?_⟩
      ((conv=>whnf);repeat((first|refine mvT ?_|refine mvF ?_|refine yT ?_|refine yF ?_);conv=>whnf))
      refine Does.mono (tellStreamsGroupHeartbeatResponsePartitionsByUserEndpointActivePartition (F := F) (hce.e0 (hx0.e0 hxw)) (QPart_later true 7 _ _ _ w0 _ F F nob hqe (hx0.e0 hxw) fun k _ hf => ⟨fun f => f, hf⟩) hlime) ?_
      rintro r wt ⟨t', hnr', ⟨cr, rfl, htr⟩, hxt⟩
      have hszt := hxw.size
      have hxw := hxw.e0 hxt
      obtain ⟨n', sv', nl', lv', uv', rfl⟩ : ∃ n sv nl lv uv, cr = [.int .i64 n, sv, .bool nl, lv, uv] := by cases htr; exact ⟨_, _, _, _, _, rfl⟩
      refine ⟨by (conv => whnf); exact ⟨⟨_, (hobt.e0 hxw).cell rfl, rfl, rfl⟩, ⟨_, (hobt.e0 hxw).cell rfl, rfl, rfl⟩, ⟨_, (hobl.e0 hxw).cell rfl, rfl, rfl⟩, trivial⟩, ?_⟩
      conv => whnf
      intro bs ws hbs hos hxs
      have hos : Own ws bs TT [.int .i64 n', sv', .bool nl', lv', uv'] := hos
      have hxw := hxw.e0 hxs
      refine ⟨by (conv => whnf); exact ⟨⟨_, (hobt.e0 hxw).cell rfl, rfl, rfl⟩, ⟨_, (hobt.e0 hxw).cell rfl, rfl, rfl⟩, ⟨_, (hobl.e0 hxw).cell rfl, rfl, rfl⟩, trivial⟩, ?_⟩
      conv => whnf
      have hsLw := hxL.size
      refine OLn.app (x := t') (hT.ext hxw fun _ _ _ f => f) rfl hos rfl rfl (by omega) (by decide) (by have := hxw.size; omega) ((htr.ext hxs fun _ _ _ f => f).mono fun k _ hk => ⟨by omega, fun e => by have := hT.own k e; omega⟩) ?_
      intro v5 w5 hT5 hx5 _
      obtain ⟨a5, c5, rfl⟩ := hT5.one
      have hown5 : ∀ k, (Value.slice av ts1.length cv).ownBlock = some k → wL.heap.size ≤ k := fun k hk => (hT.own k hk).1
      have hbt5 := (hobt.e0 hxw).ext hx5 fun h => by have := hown5 bt h; have := hLlt bt (by simp [inL]); omega
      have hbl5 := (hobl.e0 hxw).ext hx5 fun h => by have := hown5 bl h; have := hLlt bl (by simp [inL]); omega
      refine ⟨by (conv => whnf); exact ⟨⟨_, hbt5.cell rfl, rfl, rfl⟩, trivial⟩, ?_⟩
      conv => whnf
      refine ⟨bl, 0, rfl, ⟨by omega, by omega⟩, ?_⟩
      ((conv=>whnf);repeat((first|refine mvT ?_|refine mvF ?_|refine yT ?_|refine yF ?_);conv=>whnf))
      refine st_cell (o := 8) (v := .slice a5 (ts1 ++ [t']).length c5) hbl5 rfl rfl rfl (by simp) rfl ?_
      intro w6 ho6 hx6
      ((conv=>whnf);repeat((first|refine mvT ?_|refine mvF ?_|refine yT ?_|refine yF ?_);conv=>whnf))
      have hxL6 : Ext (fun k => k = bl ∨ wL.heap.size ≤ k) wL w6 := ((hxL.trans (hxw.mono (M' := nob) fun _ _ f => f) fun k hk f => f.elim).trans hx5 fun k hk h => by have := hown5 k h; omega).trans hx6 fun k hk h => .inl h
      refine ⟨i + 1, ⟨rfl, inc_eq (by omega), rfl, rfl, rfl, trivial⟩, ⟨by omega, hxL6, _, ts1 ++ [t'], ho6, hT5.ext hx6 (fun k _ h1 h2 => by have := hLlt bl (by simp [inL]); omega), by simp [htl1], ?_⟩, by omega⟩
      intro j x y hx hy
      rcases Nat.lt_or_ge j ts1.length with hj | hj
      · rw [List.getElem?_append_left hj] at hy
        exact hnr1 j x y hx hy
      · rw [List.getElem?_append_right hj] at hy
        obtain ⟨e, he⟩ : ∃ e, j - ts1.length = e := ⟨_, rfl⟩
        rw [he] at hy
        cases e with
        | zero =>
          have : j = i := by omega
          subst this
          simp only [List.getElem?_cons_zero, Option.some.injEq] at hy
          subst hy
          rw [List.getElem?_eq_getElem (by omega), Option.some.injEq] at hx
          subst hx
          exact hnr'
        | succ e => simp at hy
    · conv => whnf
      refine st_all [.bool false] hob rfl rfl rfl ?_
      intro wc hoc hxc
      conv => whnf
      refine st_all [.bool true] hoc rfl rfl rfl ?_
      intro wd hod hxd
      ((conv=>whnf);repeat((first|refine mvT ?_|refine mvF ?_|refine yT ?_|refine yF ?_);conv=>whnf))
      refine ldS (hod.cell rfl) ?_;((conv=>whnf);repeat((first|refine mvT ?_|refine mvF ?_|refine yT ?_|refine yF ?_);conv=>whnf))
      have hxw : Ext nob w wd := (hxb.st hxc hbb).st hxd hbb
      refine VD.draw mixed (.q 0 (.q 1 (.q 2 (.q 3 (.q 4 (.q 5 (.q 6 (.q 7 (.q 8 (.q 9 (.q 10 (.q 12 (.alt (.eff 11 [1, 4] (.eff 13 [1, 4, 8] (.eff 14 [] (.q 15 (.q 16 (.eff 17 [] (.done))))))) (.eff 13 [1, 4, 8] (.eff 11 [1, 4] (.eff 14 [] (.q 15 (.q 16 (.eff 17 [] (.done)))))))))))))))))))) (by kernel_rfl) ?_;((conv=>whnf);repeat((first|refine mvT ?_|refine mvF ?_|refine yT ?_|refine yF ?_);conv=>whnf))
      have hxw := hxw.e0 (ext_drew _)
      have hszd := hxw.size
      refine ldS ((hobt.e0 hxw).cell rfl) ?_;((conv=>whnf);repeat((first|refine mvT ?_|refine mvF ?_|refine yT ?_|refine yF ?_);conv=>whnf))
      refine ⟨bl, 0, rfl, ⟨by omega, by omega⟩, ?_⟩
      ((conv=>whnf);repeat((first|refine mvT ?_|refine mvF ?_|refine yT ?_|refine yF ?_);conv=>whnf))
      refine ldS ((hobl.e0 hxw).cell rfl) ?_;((conv=>whnf);repeat((first|refine mvT ?_|refine mvF ?_|refine yT ?_|refine yF ?_);conv=>whnf))
      refine ⟨_, ld ((hq.e0 (hx0.e0 hxw)).cell (j := 3) rfl) (by simp), ?_⟩
      ((conv=>whnf);repeat((first|refine mvT ?_|refine mvF ?_|refine yT ?_|refine yF ?_);conv=>whnf))
      refine ⟨be, oe, rfl, ⟨by omega, by omega⟩, ?_⟩
      ((conv=>whnf);repeat((first|refine mvT ?_|refine mvF ?_|refine yT ?_|refine yF ?_);conv=>whnf))
      constructor
      · conv => whnf
        refine Does.mono (tellStreamsGroupHeartbeatResponsePartitionsByUserEndpointActivePartition (F := F) (hce.e0 (hx0.e0 hxw)) (QPart_later true 7 _ _ _ w0 _ F F nob hqe (hx0.e0 hxw) fun k _ hf => ⟨fun f => f, hf⟩) hlime) ?_
        rintro r wt ⟨t', hnr', ⟨cr, rfl, htr⟩, hxt⟩
        have hszt := hxw.size
        have hxw := hxw.e0 hxt
        obtain ⟨n', sv', nl', lv', uv', rfl⟩ : ∃ n sv nl lv uv, cr = [.int .i64 n, sv, .bool nl, lv, uv] := by cases htr; exact ⟨_, _, _, _, _, rfl⟩
        refine ⟨by (conv => whnf); exact ⟨⟨_, (hobt.e0 hxw).cell rfl, rfl, rfl⟩, ⟨_, (hobl.e0 hxw).cell rfl, rfl, rfl⟩, trivial⟩, ?_⟩
        conv => whnf
        intro bs ws hbs hos hxs
        have hos : Own ws bs TT [.int .i64 0, .slice none 0 0, .bool false, .slice none 0 0, .slice none 0 0] := hos
        have hxw := hxw.e0 hxs
        refine ⟨by (conv => whnf); exact ⟨⟨_, (hobt.e0 hxw).cell rfl, rfl, rfl⟩, ⟨_, (hobl.e0 hxw).cell rfl, rfl, rfl⟩, ⟨_, (hq.e0 (hx0.e0 hxw)).cell (j := 3) rfl, rfl, rfl⟩, trivial⟩, ?_⟩
        have htrw : TrC ws (fun k => w.heap.size ≤ k ∧ k < ws.heap.size) [.int .i64 n', sv', .bool nl', lv', uv'] t' := ((htr.mono (F' := fun k => w.heap.size ≤ k ∧ k < wt.heap.size) fun k hk h => ⟨by omega, hk⟩).ext hxs fun _ _ _ f => f).mono fun k hk h => ⟨h.1, hk⟩
        conv => whnf
        refine OLn.app (x := .mk 0 [] false [] []) (hT.ext hxw fun _ _ _ f => f) rfl hos rfl rfl (by omega) (by decide) (by have := hxw.size; have := hxL.size; omega) (TrC.leaf rfl (Bytes.nil _ _)) ?_
        intro v5 w5 hT5 hx5 hbk5
        obtain ⟨a5, c5, rfl⟩ := hT5.one
        have hown5 : ∀ k, (Value.slice av ts1.length cv).ownBlock = some k → wL.heap.size ≤ k ∧ k < w.heap.size := fun k hk => hT.own k hk
        have hbl5 := (hobl.e0 hxw).ext hx5 fun h => by have := hown5 bl h; have := hLlt bl (by simp [inL]); omega
        have hblL := hLlt bl (by simp [inL])
        have hsLw := hxL.size
        have hszx := hxw.size
        ((conv=>whnf);repeat((first|refine mvT ?_|refine mvF ?_|refine yT ?_|refine yF ?_);conv=>whnf))
        refine ⟨bl, 0, rfl, ⟨by omega, by omega⟩, ?_⟩
        ((conv=>whnf);repeat((first|refine mvT ?_|refine mvF ?_|refine yT ?_|refine yF ?_);conv=>whnf))
        refine st_cell (o := 8) (v := .slice a5 (ts1 ++ [T.mk 0 [] false [] []]).length c5) hbl5 rfl rfl rfl (by simp) rfl ?_
        intro w6 ho6 hx6
        ((conv=>whnf);repeat((first|refine mvT ?_|refine mvF ?_|refine yT ?_|refine yF ?_);conv=>whnf))
        have hT6 := hT5.ext hx6 (fun k _ h1 h2 => by omega)
        obtain ⟨g, cap, hv, hput⟩ := hT6.last
        injection hv with e1 e2 e3
        subst e1
        subst e3
        have htr6 : TrC w6 (fun k => wL.heap.size ≤ k ∧ (Value.slice (some ⟨g, 0, none⟩) (ts1 ++ [T.mk 0 [] false [] []]).length c5).ownBlock ≠ some k) [.int .i64 n', sv', .bool nl', lv', uv'] t' := by
          refine ((htrw.ext hx5 fun k _ h e => by have := hown5 k e; omega).ext hx6 fun k _ h e => by omega).mono fun k _ h => ⟨by omega, fun e => ?_⟩
          rcases hbk5 with e2 | ⟨q2, e2, hle⟩
          · have := hown5 k (e2 ▸ e); omega
          · rw [e, Option.some.injEq] at e2
            omega
        refine ⟨g, 0, rfl, ⟨by omega, by simp; omega⟩, ?_⟩
        ((conv=>whnf);repeat((first|refine mvT ?_|refine mvF ?_|refine yT ?_|refine yF ?_);conv=>whnf))
        refine hput [.int .i64 n', sv', .bool nl', lv', uv'] t' _ _ _ rfl (by simp) htr6 ?_
        intro w7 hT7 hx7
        ((conv=>whnf);repeat((first|refine mvT ?_|refine mvF ?_|refine yT ?_|refine yF ?_);conv=>whnf))
        have hgL : wL.heap.size ≤ g := (hT6.own g rfl).1
        have hxL7 : Ext (fun k => k = bl ∨ wL.heap.size ≤ k) wL w7 := (((hxL.trans (hxw.mono (M' := nob) fun _ _ f => f) fun k hk f => f.elim).trans hx5 fun k hk h => by have := hown5 k h; omega).trans hx6 fun k hk h => .inl h).trans hx7 fun k hk h => by omega
        refine ⟨i + 1, ⟨rfl, inc_eq (by omega), rfl, rfl, rfl, trivial⟩, ⟨by omega, hxL7, _, ts1 ++ [t'], ho6.ext hx7 (by omega), hT7, by simp [htl1], ?_⟩, by omega⟩
        intro j x y hx hy
        rcases Nat.lt_or_ge j ts1.length with hj | hj
        · rw [List.getElem?_append_left hj] at hy
          exact hnr1 j x y hx hy
        · rw [List.getElem?_append_right hj] at hy
          obtain ⟨e, he⟩ : ∃ e, j - ts1.length = e := ⟨_, rfl⟩
          rw [he] at hy
          cases e with
          | zero =>
            have : j = i := by omega
            subst this
            simp only [List.getElem?_cons_zero, Option.some.injEq] at hy
            subst hy
            rw [List.getElem?_eq_getElem (by omega), Option.some.injEq] at hx
            subst hx
            exact hnr'
          | succ e => simp at hy
      · conv => whnf
        intro bs ws hbs hos hxs
        have hos : Own ws bs TT [.int .i64 0, .slice none 0 0, .bool false, .slice none 0 0, .slice none 0 0] := hos
        have hxw := hxw.e0 hxs
        refine ⟨by (conv => whnf); exact ⟨⟨_, (hobt.e0 hxw).cell rfl, rfl, rfl⟩, ⟨_, (hobl.e0 hxw).cell rfl, rfl, rfl⟩, ⟨_, (hq.e0 (hx0.e0 hxw)).cell (j := 3) rfl, rfl, rfl⟩, trivial⟩, ?_⟩
        conv => whnf
        refine Does.mono (tellStreamsGroupHeartbeatResponsePartitionsByUserEndpointActivePartition (F := F) (hce.e0 (hx0.e0 hxw)) (QPart_later true 7 _ _ _ w0 _ F F nob hqe (hx0.e0 hxw) fun k _ hf => ⟨fun f => f, hf⟩) hlime) ?_
        rintro r wt ⟨t', hnr', ⟨cr, rfl, htr⟩, hxt⟩
        have hszt := hxw.size
        have hxw := hxw.e0 hxt
        obtain ⟨n', sv', nl', lv', uv', rfl⟩ : ∃ n sv nl lv uv, cr = [.int .i64 n, sv, .bool nl, lv, uv] := by cases htr; exact ⟨_, _, _, _, _, rfl⟩
        refine ⟨by (conv => whnf); exact ⟨⟨_, (hobt.e0 hxw).cell rfl, rfl, rfl⟩, ⟨_, (hobl.e0 hxw).cell rfl, rfl, rfl⟩, trivial⟩, ?_⟩
        have hos := hos.e0 hxt
        have htrw : TrC wt (fun k => w.heap.size ≤ k ∧ k < wt.heap.size) [.int .i64 n', sv', .bool nl', lv', uv'] t' := htr.mono fun k hk h => ⟨by omega, hk⟩
        conv => whnf
        refine OLn.app (x := .mk 0 [] false [] []) (hT.ext hxw fun _ _ _ f => f) rfl hos rfl rfl (by omega) (by decide) (by have := hxw.size; have := hxL.size; omega) (TrC.leaf rfl (Bytes.nil _ _)) ?_
        intro v5 w5 hT5 hx5 hbk5
        obtain ⟨a5, c5, rfl⟩ := hT5.one
        have hown5 : ∀ k, (Value.slice av ts1.length cv).ownBlock = some k → wL.heap.size ≤ k ∧ k < w.heap.size := fun k hk => hT.own k hk
        have hbl5 := (hobl.e0 hxw).ext hx5 fun h => by have := hown5 bl h; have := hLlt bl (by simp [inL]); omega
        have hblL := hLlt bl (by simp [inL])
        have hsLw := hxL.size
        have hszx := hxw.size
        ((conv=>whnf);repeat((first|refine mvT ?_|refine mvF ?_|refine yT ?_|refine yF ?_);conv=>whnf))
        refine ⟨bl, 0, rfl, ⟨by omega, by omega⟩, ?_⟩
        ((conv=>whnf);repeat((first|refine mvT ?_|refine mvF ?_|refine yT ?_|refine yF ?_);conv=>whnf))
        refine st_cell (o := 8) (v := .slice a5 (ts1 ++ [T.mk 0 [] false [] []]).length c5) hbl5 rfl rfl rfl (by simp) rfl ?_
        intro w6 ho6 hx6
        ((conv=>whnf);repeat((first|refine mvT ?_|refine mvF ?_|refine yT ?_|refine yF ?_);conv=>whnf))
        have hT6 := hT5.ext hx6 (fun k _ h1 h2 => by omega)
        obtain ⟨g, cap, hv, hput⟩ := hT6.last
        injection hv with e1 e2 e3
        subst e1
        subst e3
        have htr6 : TrC w6 (fun k => wL.heap.size ≤ k ∧ (Value.slice (some ⟨g, 0, none⟩) (ts1 ++ [T.mk 0 [] false [] []]).length c5).ownBlock ≠ some k) [.int .i64 n', sv', .bool nl', lv', uv'] t' := by
          refine ((htrw.ext hx5 fun k _ h e => by have := hown5 k e; omega).ext hx6 fun k _ h e => by omega).mono fun k _ h => ⟨by omega, fun e => ?_⟩
          rcases hbk5 with e2 | ⟨q2, e2, hle⟩
          · have := hown5 k (e2 ▸ e); omega
          · rw [e, Option.some.injEq] at e2
            omega
        refine ⟨g, 0, rfl, ⟨by omega, by simp; omega⟩, ?_⟩
        ((conv=>whnf);repeat((first|refine mvT ?_|refine mvF ?_|refine yT ?_|refine yF ?_);conv=>whnf))
        refine hput [.int .i64 n', sv', .bool nl', lv', uv'] t' _ _ _ rfl (by simp) htr6 ?_
        intro w7 hT7 hx7
        ((conv=>whnf);repeat((first|refine mvT ?_|refine mvF ?_|refine yT ?_|refine yF ?_);conv=>whnf))
        have hgL : wL.heap.size ≤ g := (hT6.own g rfl).1
        have hxL7 : Ext (fun k => k = bl ∨ wL.heap.size ≤ k) wL w7 := (((hxL.trans (hxw.mono (M' := nob) fun _ _ f => f) fun k hk f => f.elim).trans hx5 fun k hk h => by have := hown5 k h; omega).trans hx6 fun k hk h => .inl h).trans hx7 fun k hk h => by omega
        refine ⟨i + 1, ⟨rfl, inc_eq (by omega), rfl, rfl, rfl, trivial⟩, ⟨by omega, hxL7, _, ts1 ++ [t'], ho6.ext hx7 (by omega), hT7, by simp [htl1], ?_⟩, by omega⟩
        intro j x y hx hy
        rcases Nat.lt_or_ge j ts1.length with hj | hj
        · rw [List.getElem?_append_left hj] at hy
          exact hnr1 j x y hx hy
        · rw [List.getElem?_append_right hj] at hy
          obtain ⟨e, he⟩ : ∃ e, j - ts1.length = e := ⟨_, rfl⟩
          rw [he] at hy
          cases e with
          | zero =>
            have : j = i := by omega
            subst this
            simp only [List.getElem?_cons_zero, Option.some.injEq] at hy
            subst hy
            rw [List.getElem?_eq_getElem (by omega), Option.some.injEq] at hx
            subst hx
            exact hnr'
          | succ e => simp at hy
  · have hil : i = ls1.length := by have := of_decide_eq_false h9; omega
    have H := Sg.up (A := [_]) H hobl (hxL.mono fun k hk h => by rcases h with h | h; exact h; omega)
    have htl1 : ts1.length = l1.length := by omega
    have hnl : a1.isNone = nl1 := hnn1 rfl
    rw [hnl] at H
    have H := H.add (Q := fun w => TrC w (fun k => w0.heap.size ≤ k) [.int .i64 0, .slice none 0 0, .bool nl1, vl1, .slice none 0 0] (.mk 0 [] nl1 ts1 [])) fun w3 x => (hT.ext x fun k hk h1 h2 => by
      have h3 : k < wL.heap.size := hLlt k (by rcases inL3 h2 with h | h | h <;> subst h <;> simp [inL])
      omega).row fun k hk => by omega
    obtain ⟨P1, hP1⟩ : ∃ P : World → Prop, P = fun w => TrC w (fun k => w0.heap.size ≤ k) [.int .i64 0, .slice none 0 0, .bool nl1, vl1, .slice none 0 0] (.mk 0 [] nl1 ts1 []) ∧ P0 w := ⟨_, rfl⟩
    replace H : Sg w0 [(bt, Tt, [.int .i64 0, .slice none 0 0, .bool false, .slice (some ⟨bl, 0, none⟩) 3 3, .slice none 0 0]), (bl, Tl, [.int .i64 nv0, sv0, .bool nm0, lv0, uv0, .int .i64 0, .slice none 0 0, .bool nl1, vl1, .slice none 0 0, .int .i64 0, .slice none 0 0, .bool false, .slice none 0 0, .slice none 0 0]), (b2, T2, [.int .i64 0, .slice none 0 0, .bool false, .slice none 0 0, .slice none 0 0])] P1 w := by rw [hP1]; exact H
    ((conv=>whnf);repeat((first|refine mvT ?_|refine mvF ?_|refine yT ?_|refine yF ?_);conv=>whnf))
    refine VD.draw mixed (.q 0 (.q 1 (.q 2 (.q 3 (.q 4 (.q 5 (.q 6 (.q 7 (.q 8 (.eff 9 [] (.done))))))))))) (by kernel_rfl) ?_;((conv=>whnf);repeat((first|refine mvT ?_|refine mvF ?_|refine yT ?_|refine yF ?_);conv=>whnf))
    replace H := H.e0 (ext_drew _)
    refine ldS ((Sg.at (A := []) H).cell rfl) ?_;((conv=>whnf);repeat((first|refine mvT ?_|refine mvF ?_|refine yT ?_|refine yF ?_);conv=>whnf))
    refine ⟨_, ld ((hq.e0 H.ext).cell (j := 4) rfl) (by simp), ?_⟩
    ((conv=>whnf);repeat((first|refine mvT ?_|refine mvF ?_|refine yT ?_|refine yF ?_);conv=>whnf))
    refine ⟨bl, 0, rfl, ⟨by omega, by omega⟩, ?_⟩
    ((conv=>whnf);repeat((first|refine mvT ?_|refine mvF ?_|refine yT ?_|refine yF ?_);conv=>whnf))
    refine Sg.st (A := [_]) (o' := 12) (m := [.bool a2.isNone]) H rfl (Nat.le_of_ble_eq_true rfl) (rfl) ?_
    clear H
    intro w H
    replace H : Sg w0 [(bt, Tt, [.int .i64 0, .slice none 0 0, .bool false, .slice (some ⟨bl, 0, none⟩) 3 3, .slice none 0 0]), (bl, Tl, [.int .i64 nv0, sv0, .bool nm0, lv0, uv0, .int .i64 0, .slice none 0 0, .bool nl1, vl1, .slice none 0 0, .int .i64 0, .slice none 0 0, .bool a2.isNone, .slice none 0 0, .slice none 0 0]), (b2, T2, [.int .i64 0, .slice none 0 0, .bool false, .slice none 0 0, .slice none 0 0])] P1 w := H
    ((conv=>whnf);repeat((first|refine mvT ?_|refine mvF ?_|refine yT ?_|refine yF ?_);conv=>whnf))
    refine ⟨_, ld ((hq.e0 H.ext).cell (j := 4) rfl) (by simp), ?_⟩
    ((conv=>whnf);repeat((first|refine mvT ?_|refine mvF ?_|refine yT ?_|refine yF ?_);conv=>whnf))
    have hlsT : lsT (.mk 0 [] nl2 l2 []) = l2 := by
      show (if nl2 = true then [] else l2) = l2
      split
      · rename_i e
        exact (hnl2 e).symm
      · rfl
    rw [hlsT] at hll2 hrl2
    obtain ⟨wL, hwL⟩ : ∃ wL, wL = w := ⟨_, rfl⟩
    rw [← hwL] at H ⊢
    have hLlt := H.own.lt
    have hLl : l2.length ≤ 1000000 ∧ ∀ x, x ∈ l2 → LimT x := by
      have := hLs (.mk 0 [] nl2 l2 []) (by simp)
      cases this
      exact ⟨by assumption, by assumption⟩
    have hs0L := H.ext.size
    refine VL.loop (fun i : Nat => [(84, .int .i64 ls2.length), (85, .int .i64 i), (0, .pointer (some ⟨q, o, none⟩)), (2, .pointer (some ⟨b2, 0, none⟩)), (3, .pointer (some ⟨bt, 0, none⟩))])
      (fun i w' => i ≤ ls2.length ∧ Ext (fun k => k = bl ∨ wL.heap.size ≤ k) wL w' ∧ ∃ vl ts, Own w' bl Tl [.int .i64 nv0, sv0, .bool nm0, lv0, uv0, .int .i64 0, .slice none 0 0, .bool nl1, vl1, .slice none 0 0, .int .i64 0, .slice none 0 0, .bool a2.isNone, vl, .slice none 0 0] ∧ OLn w' wL.heap.size vl ts ∧ ts.length = i ∧ ∀ (j : Nat) (x y : T), l2[j]? = some x → ts[j]? = some y → Nrm x y) (fun i => ls2.length - i) 0
      ⟨rfl, rfl, rfl, rfl, rfl, trivial⟩ ⟨Nat.zero_le _, Ext.refl _ _, _, [], Sg.at (A := [_]) H, OLn.nil _ _, rfl, by simp⟩ ?_
    rintro i w ⟨hi, hxL, vl2, ts2, hobl, hT, htl2, hnr2⟩
    ((conv=>whnf);repeat((first|refine mvT ?_|refine mvF ?_|refine yT ?_|refine yF ?_);conv=>whnf))
    refine cI (by rfl) (fun h9=>?_) (fun h9=>?_)
    · have hil : i < ls2.length := by have := of_decide_eq_true h9; omega
      obtain ⟨be, oe, rfl, hFe, hbe, hce⟩ := hcl2 i ls2[i] (by simp [hil])
      have hqe := hrl2 i ls2[i] l2[i] (by simp [hil]) (by simp)
      have hlime := hLl.2 l2[i] (List.getElem_mem _)
      have hx0 : Ext nob w0 w := H.ext.trans hxL fun k hk h => by
        rcases h with h | h
        · omega
        · omega
      have hobt : Own w bt Tt [.int .i64 0, .slice none 0 0, .bool false, .slice (some ⟨bl, 0, none⟩) 3 3, .slice none 0 0] := (Sg.at (A := []) H).ext hxL fun h => by
        have := hLlt bt (by simp [inL])
        have h2 := (H.dis.2.1 : ¬ inL _ bt)
        rcases h with h | h
        · exact h2 (by rw [h]; simp [inL])
        · omega
      obtain ⟨av, cv, rfl⟩ := hT.one
      ((conv=>whnf);repeat((first|refine mvT ?_|refine mvF ?_|refine yT ?_|refine yF ?_);conv=>whnf))
      refine VD.draw mixed (.eff 0 [] (.alt (.eff 1 [] (.eff 2 [] (.q 3 (.done)))) (.eff 2 [] (.eff 1 [] (.q 3 (.done)))))) (by kernel_rfl) ?_;((conv=>whnf);repeat((first|refine mvT ?_|refine mvF ?_|refine yT ?_|refine yF ?_);conv=>whnf))
      intro bb wb hbb hob hxb
      have hxb : Ext nob w wb := (ext_drew w).e0 hxb
      have hbb : w.heap.size ≤ bb := hbb
      ((conv=>whnf);repeat((first|refine mvT ?_|refine mvF ?_|refine yT ?_|refine yF ?_);conv=>whnf))
      constructor
      · conv => whnf
        refine st_all [.bool true] hob rfl rfl rfl ?_
        intro wc hoc hxc
        conv => whnf
        refine st_all [.bool false] hoc rfl rfl rfl ?_
        intro wd hod hxd
        ((conv=>whnf);repeat((first|refine mvT ?_|refine mvF ?_|refine yT ?_|refine yF ?_);conv=>whnf))
        refine ldS (hod.cell rfl) ?_;((conv=>whnf);repeat((first|refine mvT ?_|refine mvF ?_|refine yT ?_|refine yF ?_);conv=>whnf))
        have hxw : Ext nob w wd := (hxb.st hxc hbb).st hxd hbb
        refine VD.draw mixed (.q 0 (.q 1 (.q 2 (.q 3 (.q 4 (.q 5 (.q 6 (.q 7 (.q 8 (.q 9 (.q 10 (.q 11 (.q 12 (.eff 13 [1, 3, 6] (.eff 14 [1, 3, 6] (.eff 15 [1] (.q 16 (.q 17 (.eff 18 [] (.done)))))))))))))))))))) (by kernel_rfl) ?_;((conv=>whnf);repeat((first|refine mvT ?_|refine mvF ?_|refine yT ?_|refine yF ?_);conv=>whnf))
        have hxw := hxw.e0 (ext_drew _)
        have hszd := hxw.size
        refine ldS ((hobt.e0 hxw).cell rfl) ?_;((conv=>whnf);repeat((first|refine mvT ?_|refine mvF ?_|refine yT ?_|refine yF ?_);conv=>whnf))
        refine ldS ((hobt.e0 hxw).cell rfl) ?_;((conv=>whnf);repeat((first|refine mvT ?_|refine mvF ?_|refine yT ?_|refine yF ?_);conv=>whnf))
        refine ⟨bl, 0, rfl, ⟨by omega, by omega⟩, ?_⟩
        ((conv=>whnf);repeat((first|refine mvT ?_|refine mvF ?_|refine yT ?_|refine yF ?_);conv=>whnf))
        refine ldS ((hobl.e0 hxw).cell rfl) ?_;((conv=>whnf);repeat((first|refine mvT ?_|refine mvF ?_|refine yT ?_|refine yF ?_);conv=>whnf))
        refine ⟨_, ld ((hq.e0 (hx0.e0 hxw)).cell (j := 4) rfl) (by simp), ?_⟩
        ((conv=>whnf);repeat((first|refine mvT ?_|refine mvF ?_|refine yT ?_|refine yF ?_);conv=>whnf))
        refine ⟨be, oe, rfl, ⟨by omega, by omega⟩, ?_⟩
        ((conv=>whnf);repeat((first|refine mvT ?_|refine mvF ?_|refine yT ?_|refine yF ?_);conv=>whnf))
        refine Does.mono (tellStreamsGroupHeartbeatResponsePartitionsByUserEndpointStandbyPartition (F := F) (hce.e0 (hx0.e0 hxw)) (QPart_later true 7 _ _ _ w0 _ F F nob hqe (hx0.e0 hxw) fun k _ hf => ⟨fun f => f, hf⟩) hlime) ?_
        rintro r wt ⟨t', hnr', ⟨cr, rfl, htr⟩, hxt⟩
        have hszt := hxw.size
        have hxw := hxw.e0 hxt
        obtain ⟨n', sv', nl', lv', uv', rfl⟩ : ∃ n sv nl lv uv, cr = [.int .i64 n, sv, .bool nl, lv, uv] := by cases htr; exact ⟨_, _, _, _, _, rfl⟩
        refine ⟨by (conv => whnf); exact ⟨⟨_, (hobt.e0 hxw).cell rfl, rfl, rfl⟩, ⟨_, (hobt.e0 hxw).cell rfl, rfl, rfl⟩, ⟨_, (hobl.e0 hxw).cell rfl, rfl, rfl⟩, trivial⟩, ?_⟩
        conv => whnf
        intro bs ws hbs hos hxs
        have hos : Own ws bs TT [.int .i64 n', sv', .bool nl', lv', uv'] := hos
        have hxw := hxw.e0 hxs
        refine ⟨by (conv => whnf); exact ⟨⟨_, (hobt.e0 hxw).cell rfl, rfl, rfl⟩, ⟨_, (hobt.e0 hxw).cell rfl, rfl, rfl⟩, ⟨_, (hobl.e0 hxw).cell rfl, rfl, rfl⟩, trivial⟩, ?_⟩
        conv => whnf
        have hsLw := hxL.size
        refine OLn.app (x := t') (hT.ext hxw fun _ _ _ f => f) rfl hos rfl rfl (by omega) (by decide) (by have := hxw.size; omega) ((htr.ext hxs fun _ _ _ f => f).mono fun k _ hk => ⟨by omega, fun e => by have := hT.own k e; omega⟩) ?_
        intro v5 w5 hT5 hx5 _
        obtain ⟨a5, c5, rfl⟩ := hT5.one
        have hown5 : ∀ k, (Value.slice av ts2.length cv).ownBlock = some k → wL.heap.size ≤ k := fun k hk => (hT.own k hk).1
        have hbt5 := (hobt.e0 hxw).ext hx5 fun h => by have := hown5 bt h; have := hLlt bt (by simp [inL]); omega
        have hbl5 := (hobl.e0 hxw).ext hx5 fun h => by have := hown5 bl h; have := hLlt bl (by simp [inL]); omega
        refine ⟨by (conv => whnf); exact ⟨⟨_, hbt5.cell rfl, rfl, rfl⟩, trivial⟩, ?_⟩
        conv => whnf
        refine ⟨bl, 0, rfl, ⟨by omega, by omega⟩, ?_⟩
        ((conv=>whnf);repeat((first|refine mvT ?_|refine mvF ?_|refine yT ?_|refine yF ?_);conv=>whnf))
        refine st_cell (o := 13) (v := .slice a5 (ts2 ++ [t']).length c5) hbl5 rfl rfl rfl (by simp) rfl ?_
        intro w6 ho6 hx6
        ((conv=>whnf);repeat((first|refine mvT ?_|refine mvF ?_|refine yT ?_|refine yF ?_);conv=>whnf))
        have hxL6 : Ext (fun k => k = bl ∨ wL.heap.size ≤ k) wL w6 := ((hxL.trans (hxw.mono (M' := nob) fun _ _ f => f) fun k hk f => f.elim).trans hx5 fun k hk h => by have := hown5 k h; omega).trans hx6 fun k hk h => .inl h
        refine ⟨i + 1, ⟨rfl, inc_eq (by omega), rfl, rfl, rfl, trivial⟩, ⟨by omega, hxL6, _, ts2 ++ [t'], ho6, hT5.ext hx6 (fun k _ h1 h2 => by have := hLlt bl (by simp [inL]); omega), by simp [htl2], ?_⟩, by omega⟩
        intro j x y hx hy
        rcases Nat.lt_or_ge j ts2.length with hj | hj
        · rw [List.getElem?_append_left hj] at hy
          exact hnr2 j x y hx hy
        · rw [List.getElem?_append_right hj] at hy
          obtain ⟨e, he⟩ : ∃ e, j - ts2.length = e := ⟨_, rfl⟩
          rw [he] at hy
          cases e with
          | zero =>
            have : j = i := by omega
            subst this
            simp only [List.getElem?_cons_zero, Option.some.injEq] at hy
            subst hy
            rw [List.getElem?_eq_getElem (by omega), Option.some.injEq] at hx
            subst hx
            exact hnr'
          | succ e => simp at hy
      · conv => whnf
        refine st_all [.bool false] hob rfl rfl rfl ?_
        intro wc hoc hxc
        conv => whnf
        refine st_all [.bool true] hoc rfl rfl rfl ?_
        intro wd hod hxd
        ((conv=>whnf);repeat((first|refine mvT ?_|refine mvF ?_|refine yT ?_|refine yF ?_);conv=>whnf))
        refine ldS (hod.cell rfl) ?_;((conv=>whnf);repeat((first|refine mvT ?_|refine mvF ?_|refine yT ?_|refine yF ?_);conv=>whnf))
        have hxw : Ext nob w wd := (hxb.st hxc hbb).st hxd hbb
        refine VD.draw mixed (.q 0 (.q 1 (.q 2 (.q 3 (.q 4 (.q 5 (.q 6 (.q 7 (.q 8 (.q 9 (.q 10 (.q 12 (.alt (.eff 11 [1, 4] (.eff 13 [1, 4, 8] (.eff 14 [] (.q 15 (.q 16 (.eff 17 [] (.done))))))) (.eff 13 [1, 4, 8] (.eff 11 [1, 4] (.eff 14 [] (.q 15 (.q 16 (.eff 17 [] (.done)))))))))))))))))))) (by kernel_rfl) ?_;((conv=>whnf);repeat((first|refine mvT ?_|refine mvF ?_|refine yT ?_|refine yF ?_);conv=>whnf))
        have hxw := hxw.e0 (ext_drew _)
        have hszd := hxw.size
        refine ldS ((hobt.e0 hxw).cell rfl) ?_;((conv=>whnf);repeat((first|refine mvT ?_|refine mvF ?_|refine yT ?_|refine yF ?_);conv=>whnf))
        refine ⟨bl, 0, rfl, ⟨by omega, by omega⟩, ?_⟩
        ((conv=>whnf);repeat((first|refine mvT ?_|refine mvF ?_|refine yT ?_|refine yF ?_);conv=>whnf))
        refine ldS ((hobl.e0 hxw).cell rfl) ?_;((conv=>whnf);repeat((first|refine mvT ?_|refine mvF ?_|refine yT ?_|refine yF ?_);conv=>whnf))
        refine ⟨_, ld ((hq.e0 (hx0.e0 hxw)).cell (j := 4) rfl) (by simp), ?_⟩
        ((conv=>whnf);repeat((first|refine mvT ?_|refine mvF ?_|refine yT ?_|refine yF ?_);conv=>whnf))
        refine ⟨be, oe, rfl, ⟨by omega, by omega⟩, ?_⟩
        ((conv=>whnf);repeat((first|refine mvT ?_|refine mvF ?_|refine yT ?_|refine yF ?_);conv=>whnf))
        constructor
        · conv => whnf
          refine Does.mono (tellStreamsGroupHeartbeatResponsePartitionsByUserEndpointStandbyPartition (F := F) (hce.e0 (hx0.e0 hxw)) (QPart_later true 7 _ _ _ w0 _ F F nob hqe (hx0.e0 hxw) fun k _ hf => ⟨fun f => f, hf⟩) hlime) ?_
          rintro r wt ⟨t', hnr', ⟨cr, rfl, htr⟩, hxt⟩
          have hszt := hxw.size
          have hxw := hxw.e0 hxt
          obtain ⟨n', sv', nl', lv', uv', rfl⟩ : ∃ n sv nl lv uv, cr = [.int .i64 n, sv, .bool nl, lv, uv] := by cases htr; exact ⟨_, _, _, _, _, rfl⟩
          refine ⟨by (conv => whnf); exact ⟨⟨_, (hobt.e0 hxw).cell rfl, rfl, rfl⟩, ⟨_, (hobl.e0 hxw).cell rfl, rfl, rfl⟩, trivial⟩, ?_⟩
          conv => whnf
          intro bs ws hbs hos hxs
          have hos : Own ws bs TT [.int .i64 0, .slice none 0 0, .bool false, .slice none 0 0, .slice none 0 0] := hos
          have hxw := hxw.e0 hxs
          refine ⟨by (conv => whnf); exact ⟨⟨_, (hobt.e0 hxw).cell rfl, rfl, rfl⟩, ⟨_, (hobl.e0 hxw).cell rfl, rfl, rfl⟩, ⟨_, (hq.e0 (hx0.e0 hxw)).cell (j := 4) rfl, rfl, rfl⟩, trivial⟩, ?_⟩
          have htrw : TrC ws (fun k => w.heap.size ≤ k ∧ k < ws.heap.size) [.int .i64 n', sv', .bool nl', lv', uv'] t' := ((htr.mono (F' := fun k => w.heap.size ≤ k ∧ k < wt.heap.size) fun k hk h => ⟨by omega, hk⟩).ext hxs fun _ _ _ f => f).mono fun k hk h => ⟨h.1, hk⟩
          conv => whnf
          refine OLn.app (x := .mk 0 [] false [] []) (hT.ext hxw fun _ _ _ f => f) rfl hos rfl rfl (by omega) (by decide) (by have := hxw.size; have := hxL.size; omega) (TrC.leaf rfl (Bytes.nil _ _)) ?_
          intro v5 w5 hT5 hx5 hbk5
          obtain ⟨a5, c5, rfl⟩ := hT5.one
          have hown5 : ∀ k, (Value.slice av ts2.length cv).ownBlock = some k → wL.heap.size ≤ k ∧ k < w.heap.size := fun k hk => hT.own k hk
          have hbl5 := (hobl.e0 hxw).ext hx5 fun h => by have := hown5 bl h; have := hLlt bl (by simp [inL]); omega
          have hblL := hLlt bl (by simp [inL])
          have hsLw := hxL.size
          have hszx := hxw.size
          ((conv=>whnf);repeat((first|refine mvT ?_|refine mvF ?_|refine yT ?_|refine yF ?_);conv=>whnf))
          refine ⟨bl, 0, rfl, ⟨by omega, by omega⟩, ?_⟩
          ((conv=>whnf);repeat((first|refine mvT ?_|refine mvF ?_|refine yT ?_|refine yF ?_);conv=>whnf))
          refine st_cell (o := 13) (v := .slice a5 (ts2 ++ [T.mk 0 [] false [] []]).length c5) hbl5 rfl rfl rfl (by simp) rfl ?_
          intro w6 ho6 hx6
          ((conv=>whnf);repeat((first|refine mvT ?_|refine mvF ?_|refine yT ?_|refine yF ?_);conv=>whnf))
          have hT6 := hT5.ext hx6 (fun k _ h1 h2 => by omega)
          obtain ⟨g, cap, hv, hput⟩ := hT6.last
          injection hv with e1 e2 e3
          subst e1
          subst e3
          have htr6 : TrC w6 (fun k => wL.heap.size ≤ k ∧ (Value.slice (some ⟨g, 0, none⟩) (ts2 ++ [T.mk 0 [] false [] []]).length c5).ownBlock ≠ some k) [.int .i64 n', sv', .bool nl', lv', uv'] t' := by
            refine ((htrw.ext hx5 fun k _ h e => by have := hown5 k e; omega).ext hx6 fun k _ h e => by omega).mono fun k _ h => ⟨by omega, fun e => ?_⟩
            rcases hbk5 with e2 | ⟨q2, e2, hle⟩
            · have := hown5 k (e2 ▸ e); omega
            · rw [e, Option.some.injEq] at e2
              omega
          refine ⟨g, 0, rfl, ⟨by omega, by simp; omega⟩, ?_⟩
          ((conv=>whnf);repeat((first|refine mvT ?_|refine mvF ?_|refine yT ?_|refine yF ?_);conv=>whnf))
          refine hput [.int .i64 n', sv', .bool nl', lv', uv'] t' _ _ _ rfl (by simp) htr6 ?_
          intro w7 hT7 hx7
          ((conv=>whnf);repeat((first|refine mvT ?_|refine mvF ?_|refine yT ?_|refine yF ?_);conv=>whnf))
          have hgL : wL.heap.size ≤ g := (hT6.own g rfl).1
          have hxL7 : Ext (fun k => k = bl ∨ wL.heap.size ≤ k) wL w7 := (((hxL.trans (hxw.mono (M' := nob) fun _ _ f => f) fun k hk f => f.elim).trans hx5 fun k hk h => by have := hown5 k h; omega).trans hx6 fun k hk h => .inl h).trans hx7 fun k hk h => by omega
          refine ⟨i + 1, ⟨rfl, inc_eq (by omega), rfl, rfl, rfl, trivial⟩, ⟨by omega, hxL7, _, ts2 ++ [t'], ho6.ext hx7 (by omega), hT7, by simp [htl2], ?_⟩, by omega⟩
          intro j x y hx hy
          rcases Nat.lt_or_ge j ts2.length with hj | hj
          · rw [List.getElem?_append_left hj] at hy
            exact hnr2 j x y hx hy
          · rw [List.getElem?_append_right hj] at hy
            obtain ⟨e, he⟩ : ∃ e, j - ts2.length = e := ⟨_, rfl⟩
            rw [he] at hy
            cases e with
            | zero =>
              have : j = i := by omega
              subst this
              simp only [List.getElem?_cons_zero, Option.some.injEq] at hy
              subst hy
              rw [List.getElem?_eq_getElem (by omega), Option.some.injEq] at hx
              subst hx
              exact hnr'
            | succ e => simp at hy
        · conv => whnf
          intro bs ws hbs hos hxs
          have hos : Own ws bs TT [.int .i64 0, .slice none 0 0, .bool false, .slice none 0 0, .slice none 0 0] := hos
          have hxw := hxw.e0 hxs
          refine ⟨by (conv => whnf); exact ⟨⟨_, (hobt.e0 hxw).cell rfl, rfl, rfl⟩, ⟨_, (hobl.e0 hxw).cell rfl, rfl, rfl⟩, ⟨_, (hq.e0 (hx0.e0 hxw)).cell (j := 4) rfl, rfl, rfl⟩, trivial⟩, ?_⟩
          conv => whnf
          refine Does.mono (tellStreamsGroupHeartbeatResponsePartitionsByUserEndpointStandbyPartition (F := F) (hce.e0 (hx0.e0 hxw)) (QPart_later true 7 _ _ _ w0 _ F F nob hqe (hx0.e0 hxw) fun k _ hf => ⟨fun f => f, hf⟩) hlime) ?_
          rintro r wt ⟨t', hnr', ⟨cr, rfl, htr⟩, hxt⟩
          have hszt := hxw.size
          have hxw := hxw.e0 hxt
          obtain ⟨n', sv', nl', lv', uv', rfl⟩ : ∃ n sv nl lv uv, cr = [.int .i64 n, sv, .bool nl, lv, uv] := by cases htr; exact ⟨_, _, _, _, _, rfl⟩
          refine ⟨by (conv => whnf); exact ⟨⟨_, (hobt.e0 hxw).cell rfl, rfl, rfl⟩, ⟨_, (hobl.e0 hxw).cell rfl, rfl, rfl⟩, trivial⟩, ?_⟩
          have hos := hos.e0 hxt
          have htrw : TrC wt (fun k => w.heap.size ≤ k ∧ k < wt.heap.size) [.int .i64 n', sv', .bool nl', lv', uv'] t' := htr.mono fun k hk h => ⟨by omega, hk⟩
          conv => whnf
          refine OLn.app (x := .mk 0 [] false [] []) (hT.ext hxw fun _ _ _ f => f) rfl hos rfl rfl (by omega) (by decide) (by have := hxw.size; have := hxL.size; omega) (TrC.leaf rfl (Bytes.nil _ _)) ?_
          intro v5 w5 hT5 hx5 hbk5
          obtain ⟨a5, c5, rfl⟩ := hT5.one
          have hown5 : ∀ k, (Value.slice av ts2.length cv).ownBlock = some k → wL.heap.size ≤ k ∧ k < w.heap.size := fun k hk => hT.own k hk
          have hbl5 := (hobl.e0 hxw).ext hx5 fun h => by have := hown5 bl h; have := hLlt bl (by simp [inL]); omega
          have hblL := hLlt bl (by simp [inL])
          have hsLw := hxL.size
          have hszx := hxw.size
          ((conv=>whnf);repeat((first|refine mvT ?_|refine mvF ?_|refine yT ?_|refine yF ?_);conv=>whnf))
          refine ⟨bl, 0, rfl, ⟨by omega, by omega⟩, ?_⟩
          ((conv=>whnf);repeat((first|refine mvT ?_|refine mvF ?_|refine yT ?_|refine yF ?_);conv=>whnf))
          refine st_cell (o := 13) (v := .slice a5 (ts2 ++ [T.mk 0 [] false [] []]).length c5) hbl5 rfl rfl rfl (by simp) rfl ?_
          intro w6 ho6 hx6
          ((conv=>whnf);repeat((first|refine mvT ?_|refine mvF ?_|refine yT ?_|refine yF ?_);conv=>whnf))
          have hT6 := hT5.ext hx6 (fun k _ h1 h2 => by omega)
          obtain ⟨g, cap, hv, hput⟩ := hT6.last
          injection hv with e1 e2 e3
          subst e1
          subst e3
          have htr6 : TrC w6 (fun k => wL.heap.size ≤ k ∧ (Value.slice (some ⟨g, 0, none⟩) (ts2 ++ [T.mk 0 [] false [] []]).length c5).ownBlock ≠ some k) [.int .i64 n', sv', .bool nl', lv', uv'] t' := by
            refine ((htrw.ext hx5 fun k _ h e => by have := hown5 k e; omega).ext hx6 fun k _ h e => by omega).mono fun k _ h => ⟨by omega, fun e => ?_⟩
            rcases hbk5 with e2 | ⟨q2, e2, hle⟩
            · have := hown5 k (e2 ▸ e); omega
            · rw [e, Option.some.injEq] at e2
              omega
          refine ⟨g, 0, rfl, ⟨by omega, by simp; omega⟩, ?_⟩
          ((conv=>whnf);repeat((first|refine mvT ?_|refine mvF ?_|refine yT ?_|refine yF ?_);conv=>whnf))
          refine hput [.int .i64 n', sv', .bool nl', lv', uv'] t' _ _ _ rfl (by simp) htr6 ?_
          intro w7 hT7 hx7
          ((conv=>whnf);repeat((first|refine mvT ?_|refine mvF ?_|refine yT ?_|refine yF ?_);conv=>whnf))
          have hgL : wL.heap.size ≤ g := (hT6.own g rfl).1
          have hxL7 : Ext (fun k => k = bl ∨ wL.heap.size ≤ k) wL w7 := (((hxL.trans (hxw.mono (M' := nob) fun _ _ f => f) fun k hk f => f.elim).trans hx5 fun k hk h => by have := hown5 k h; omega).trans hx6 fun k hk h => .inl h).trans hx7 fun k hk h => by omega
          refine ⟨i + 1, ⟨rfl, inc_eq (by omega), rfl, rfl, rfl, trivial⟩, ⟨by omega, hxL7, _, ts2 ++ [t'], ho6.ext hx7 (by omega), hT7, by simp [htl2], ?_⟩, by omega⟩
          intro j x y hx hy
          rcases Nat.lt_or_ge j ts2.length with hj | hj
          · rw [List.getElem?_append_left hj] at hy
            exact hnr2 j x y hx hy
          · rw [List.getElem?_append_right hj] at hy
            obtain ⟨e, he⟩ : ∃ e, j - ts2.length = e := ⟨_, rfl⟩
            rw [he] at hy
            cases e with
            | zero =>
              have : j = i := by omega
              subst this
              simp only [List.getElem?_cons_zero, Option.some.injEq] at hy
              subst hy
              rw [List.getElem?_eq_getElem (by omega), Option.some.injEq] at hx
              subst hx
              exact hnr'
            | succ e => simp at hy
    · have hil : i = ls2.length := by have := of_decide_eq_false h9; omega
      have H := Sg.up (A := [_]) H hobl (hxL.mono fun k hk h => by rcases h with h | h; exact h; omega)
      have htl2 : ts2.length = l2.length := by omega
      have hnl : a2.isNone = nl2 := hnn2 rfl
      rw [hnl] at H
      have H := H.add (Q := fun w => TrC w (fun k => w0.heap.size ≤ k) [.int .i64 0, .slice none 0 0, .bool nl2, vl2, .slice none 0 0] (.mk 0 [] nl2 ts2 [])) fun w3 x => (hT.ext x fun k hk h1 h2 => by
        have h3 : k < wL.heap.size := hLlt k (by rcases inL3 h2 with h | h | h <;> subst h <;> simp [inL])
        omega).row fun k hk => by omega
      obtain ⟨P2, hP2⟩ : ∃ P : World → Prop, P = fun w => TrC w (fun k => w0.heap.size ≤ k) [.int .i64 0, .slice none 0 0, .bool nl2, vl2, .slice none 0 0] (.mk 0 [] nl2 ts2 []) ∧ P1 w := ⟨_, rfl⟩
      replace H : Sg w0 [(bt, Tt, [.int .i64 0, .slice none 0 0, .bool false, .slice (some ⟨bl, 0, none⟩) 3 3, .slice none 0 0]), (bl, Tl, [.int .i64 nv0, sv0, .bool nm0, lv0, uv0, .int .i64 0, .slice none 0 0, .bool nl1, vl1, .slice none 0 0, .int .i64 0, .slice none 0 0, .bool nl2, vl2, .slice none 0 0]), (b2, T2, [.int .i64 0, .slice none 0 0, .bool false, .slice none 0 0, .slice none 0 0])] P2 w := by rw [hP2]; exact H
      ((conv=>whnf);repeat((first|refine mvT ?_|refine mvF ?_|refine yT ?_|refine yF ?_);conv=>whnf))
      have hql : q < w0.heap.size := World.block_lt_of_cell? w0 _ (hq.cell (j := 0) rfl)
      have hm2 : TagsR w (fun k => F k ∧ k < w0.heap.size) m u_ := (hm.mono (F' := fun k => F k ∧ k < w0.heap.size) fun k h1 h2 => ⟨h2, h1⟩).ext H.ext fun _ _ _ f => f
      refine Does.mono (EachT tgStreamsGroupHeartbeatResponsePartitionsByUserEndpoint ((hq.e0 H.ext).cell (j := 5) rfl) hm2 hd0 hu0 hs0 (Sg.at (A := []) H) (by omega) (fun k _ h e => by have := h.2; omega)) ?_
      rintro r w2 ⟨u', uv, hperm, hpw, hob, hT, hxe⟩
      have hLlt := H.own.lt
      have hw02 := H.ext.size
      have H2 := Sg.up (A := []) H hob hxe
      obtain ⟨auv, nuv, cuv, rfl⟩ := hT.one
      have H := H2.add (Q := fun w => TgsR w (fun k => w0.heap.size ≤ k) (.slice auv nuv cuv) u') fun w3 x => (hT.ext x fun k hk h1 h2 => by
        have h3 : k < w.heap.size := hLlt k (by rcases inL3 h2 with h | h | h <;> subst h <;> simp [inL])
        omega).tgs fun k hk => by omega
      clear H2
      ((conv=>whnf);repeat((first|refine mvT ?_|refine mvF ?_|refine yT ?_|refine yF ?_);conv=>whnf))
      refine ldS ((Sg.at (A := []) H).cell rfl) ?_;((conv=>whnf);repeat((first|refine mvT ?_|refine mvF ?_|refine yT ?_|refine yF ?_);conv=>whnf))
      refine Does.mono (sorted_does H.now.1 hpw (by rw [hperm.length_eq]; exact hu0)) ?_
      rintro r w3 hx3
      replace H := H.e0 hx3
      ((conv=>whnf);repeat((first|refine mvT ?_|refine mvF ?_|refine yT ?_|refine yF ?_);conv=>whnf))
      refine ⟨_, rfl, (Sg.at (A := []) H).cells, ?_⟩
      ((conv=>whnf);repeat((first|refine mvT ?_|refine mvF ?_|refine yT ?_|refine yF ?_);conv=>whnf))
      refine Sg.st (A := [_, _]) (o' := 0) (m := [.int .i64 0, .slice none 0 0, .bool false, .slice (some ⟨bl, 0, none⟩) 3 3, .slice auv nuv cuv]) H rfl (Nat.le_of_ble_eq_true rfl) rfl ?_
      clear H
      intro w H
      ((conv=>whnf);repeat((first|refine mvT ?_|refine mvF ?_|refine yT ?_|refine yF ?_);conv=>whnf))
      refine ⟨_, rfl, (Sg.at (A := [_, _]) H).cells, ?_⟩
      have hP := H.now
      rw [hP2, hP1, hP0] at hP
      have hbl := Sg.at (A := [_]) H
      refine ⟨.mk 0 [] false [xt0, .mk 0 [] nl1 ts1 [], .mk 0 [] nl2 ts2 []] u', ?_, ⟨_, rfl, .mk 0 [] false [xt0, .mk 0 [] nl1 ts1 [], .mk 0 [] nl2 ts2 []] u' _ _ _ [[.int .i64 nv0, sv0, .bool nm0, lv0, uv0], [.int .i64 0, .slice none 0 0, .bool nl1, vl1, .slice none 0 0], [.int .i64 0, .slice none 0 0, .bool nl2, vl2, .slice none 0 0]] rfl (Bytes.nil _ _) (rows_sl hbl (by simp) rfl (by rw [maxLen_eq]; decide) hblw) rfl ?_ hP.1⟩, H.ext⟩
      · refine .mk _ _ _ _ _ _ _ rfl ?_ hperm hpw
        intro i x y hx hy
        match i, hx, hy with
        | 0, hx, hy => simp only [List.getElem?_cons_succ, List.getElem?_cons_zero, Option.some.injEq] at hx hy; subst hx; subst hy; exact hnx0
        | 1, hx, hy => simp only [List.getElem?_cons_succ, List.getElem?_cons_zero, Option.some.injEq] at hx hy; subst hx; subst hy; exact .mk _ _ _ _ _ _ _ htl1 hnr1 (List.Perm.refl _) List.Pairwise.nil
        | 2, hx, hy => simp only [List.getElem?_cons_succ, List.getElem?_cons_zero, Option.some.injEq] at hx hy; subst hx; subst hy; exact .mk _ _ _ _ _ _ _ htl2 hnr2 (List.Perm.refl _) List.Pairwise.nil
      · intro i x y hx hy
        match i, hx, hy with
        | 0, hx, hy => simp only [List.getElem?_cons_succ, List.getElem?_cons_zero, Option.some.injEq] at hx hy; subst hx; subst hy; exact hP.2.2.2.1
        | 1, hx, hy => simp only [List.getElem?_cons_succ, List.getElem?_cons_zero, Option.some.injEq] at hx hy; subst hx; subst hy; exact hP.2.2.1
        | 2, hx, hy => simp only [List.getElem?_cons_succ, List.getElem?_cons_zero, Option.some.injEq] at hx hy; subst hx; subst hy; exact hP.2.1
end Go.Proofs.YtepamajphjgigaaGreatDoor.K
