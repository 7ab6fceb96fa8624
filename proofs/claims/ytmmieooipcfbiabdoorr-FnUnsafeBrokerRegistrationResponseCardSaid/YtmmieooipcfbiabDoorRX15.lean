/- BrokerRegistrationResponse is read and told. -/
import Derived.Test.YtmmieooipcfbiabDoorRU7
import Derived.Test.YtmmieooipcfbiabDoorRV15
import Derived.Test.YtmmieooipcfbiabDoorRGversion
set_option linter.unusedVariables false
set_option linter.unusedSimpArgs false
namespace Go.Proofs.YtmmieooipcfbiabDoorR.K
open Go
set_option maxHeartbeats 4000000
set_option maxRecDepth 100000

theorem tgBrokerRegistrationResponse : TellsT 50 := by
  intro w N bt T lv bv F u x hI hN hbt hu hk hx hxl
  obtain ⟨uv, ho, hT⟩ := hI
  obtain ⟨av, cv, rfl, _⟩ := hx.view
  obtain ⟨au, nu, cu, rfl⟩ := hT.one
  refine Does.go (X := X) (l := [_, _, _]) Tryd.func50 rfl (by kernel_rfl) (by kernel_rfl) _ rfl ?_
  ((conv=>whnf);repeat(first|(refine mvT ?_;conv=>whnf)|(refine mvF ?_;conv=>whnf)|(refine cT (by rfl) ?_;conv=>whnf)|(refine cF (by rfl) ?_;conv=>whnf)))
  refine VD.draw mixed (.q 0 (.q 1 (.q 2 (.q 3 (.eff 4 [1] (.q 5 (.eff 6 [1] (.eff 7 [] (.q 8 (.eff 9 [] (.done))))))))))) (by kernel_rfl) ?_;((conv=>whnf);repeat(first|(refine mvT ?_;conv=>whnf)|(refine mvF ?_;conv=>whnf)|(refine cT (by rfl) ?_;conv=>whnf)|(refine cF (by rfl) ?_;conv=>whnf)))
  have hxd : Ext nob w w.drew := ext_drew _
  refine ldS ((ho.e0 hxd).cell rfl) ?_;((conv=>whnf);repeat(first|(refine mvT ?_;conv=>whnf)|(refine mvF ?_;conv=>whnf)|(refine cT (by rfl) ?_;conv=>whnf)|(refine cF (by rfl) ?_;conv=>whnf)))
  refine app_bytes rfl rfl (OB.nil w.drew w.drew.heap.size) (hx.e0 hxd).src rfl (by simp only [List.length_nil]; omega) (Nat.le_refl _) ?_
  intro v3 w3 h3 hx3 _ _
  rw [List.nil_append] at h3
  have hx3 : Ext nob w w3 := hxd.e0 (hx3.mono fun k _ h => by simp [Value.ownBlock] at h)
  obtain ⟨a3, c3, rfl, _⟩ := h3.shape
  refine ⟨by (conv => whnf); exact ⟨⟨_, (ho.e0 hx3).cell rfl, rfl, rfl⟩, trivial⟩, ?_⟩
  ((conv=>whnf);repeat(first|(refine mvT ?_;conv=>whnf)|(refine mvF ?_;conv=>whnf)|(refine cT (by rfl) ?_;conv=>whnf)|(refine cF (by rfl) ?_;conv=>whnf)))
  intro b4 w4 hb4 ho4 hx4
  have ho4 : Own w4 b4 TGT [.int .u32 (x.1 : Int), .slice a3 x.2.length c3] := ho4
  have hx04 := hx3.e0 hx4
  refine ⟨by (conv => whnf); exact ⟨⟨_, (ho.e0 hx04).cell rfl, rfl, rfl⟩, trivial⟩, ?_⟩
  ((conv=>whnf);repeat(first|(refine mvT ?_;conv=>whnf)|(refine mvF ?_;conv=>whnf)|(refine cT (by rfl) ?_;conv=>whnf)|(refine cF (by rfl) ?_;conv=>whnf)))
  have hs3 := hx3.size
  have hown : ∀ k, (Value.slice au nu cu).ownBlock = some k → N ≤ k ∧ k < w.heap.size := fun k hk => by
    obtain ⟨ls, h1, _⟩ := hT
    exact ⟨h1.blk k hk, h1.own.lt k hk⟩
  have hwd : w.drew.heap.size = w.heap.size := rfl
  refine OTn.app (hT.ext hx04 fun _ _ _ f => f) rfl ho4 rfl rfl rfl hu (by decide) (Nat.le_trans hN hx04.size) hk ((h3.e0 hx4).bytes fun k hk => ⟨by omega, fun e => by have := hown k e; omega⟩) ?_
  intro v5 w5 hT5 hx5
  obtain ⟨a5, n5, c5, rfl⟩ := hT5.one
  have hob := (ho.e0 hx04).ext hx5 fun h => by have := hown bt h; omega
  ((conv=>whnf);repeat(first|(refine mvT ?_;conv=>whnf)|(refine mvF ?_;conv=>whnf)|(refine cT (by rfl) ?_;conv=>whnf)|(refine cF (by rfl) ?_;conv=>whnf)))
  refine st_cell (o := 4) (v := .slice a5 n5 c5) hob rfl (by omega) rfl (by simp) rfl ?_
  intro w6 ho6 hx6
  ((conv=>whnf);repeat(first|(refine mvT ?_;conv=>whnf)|(refine mvF ?_;conv=>whnf)|(refine cT (by rfl) ?_;conv=>whnf)|(refine cF (by rfl) ?_;conv=>whnf)))
  refine ⟨⟨_, ho6, hT5.ext hx6 fun k _ h1 h2 => by omega⟩, ?_⟩
  refine (hx04.mono fun _ _ f => f.elim).trans ((hx5.mono (M' := fun j => j = bt ∨ N ≤ j) fun k _ h => .inr (hown k h).1).trans hx6 fun k _ h => .inl h) fun _ _ h => h
theorem tellBrokerRegistrationResponse {w0 : World} {F : Nat → Prop} {q o : Nat} {cv0 : Value} {cs : List Value} {t : T} (hq : Cells w0 q o (cv0 :: cs)) (hQ : QPart true 9 dBrokerRegistrationResponse ⟨w0, F⟩ cs t) (hlim : LimT t) :
    Does X.P 26 #[.pointer (some ⟨q, o, none⟩)] w0 fun r w' => ∃ t', Nrm t t' ∧ Tr w' (fun k => w0.heap.size ≤ k) r t' ∧ Ext nob w0 w' := by
  obtain ⟨_, _, u_, m, rfl, rfl, hA0, hm⟩ := iP hQ
  clear hQ
  obtain ⟨cc0, _, x0, _, rfl, rfl, h0, hA1⟩ := iA hA0
  obtain ⟨n0, hn0, rfl, rfl⟩ : ∃ n, IntKind.i32.wrap n = n ∧ cc0 = [.int .i32 n] ∧ x0 = numT n := h0
  obtain ⟨cc1, _, x1, _, rfl, rfl, h1, hA2⟩ := iA hA1
  obtain ⟨n1, hn1, rfl, rfl⟩ : ∃ n, IntKind.i16.wrap n = n ∧ cc1 = [.int .i16 n] ∧ x1 = numT n := h1
  obtain ⟨cc2, _, x2, _, rfl, rfl, h2, hA3⟩ := iA hA2
  obtain ⟨n2, hn2, rfl, rfl⟩ : ∃ n, IntKind.i64.wrap n = n ∧ cc2 = [.int .i64 n] ∧ x2 = numT n := h2
  obtain ⟨rfl, rfl⟩ := hA3
  cases hlim
  rename_i hU hKU hDU hLs hu0 hs0 hd0
  have hq : Cells w0 q o [cv0, .int .i32 n0, .int .i16 n1, .int .i64 n2, m] := hq
  have hw0 : IntKind.i64.wrap n0 = n0 := by have := hLs (numT n0) (by simp); cases this; assumption
  have hw1 : IntKind.i64.wrap n1 = n1 := by have := hLs (numT n1) (by simp); cases this; assumption
  have hw2 : IntKind.i64.wrap n2 = n2 := by have := hLs (numT n2) (by simp); cases this; assumption
  refine Does.go (X := X) (l := [_]) Tryd.func26 rfl (by kernel_rfl) (by kernel_rfl) _ rfl ?_
  ((conv=>whnf);repeat(first|(refine mvT ?_;conv=>whnf)|(refine mvF ?_;conv=>whnf)|(refine cT (by rfl) ?_;conv=>whnf)|(refine cF (by rfl) ?_;conv=>whnf)))
  intro b2 w1 hb2 ho2 hx1
  ((conv=>whnf);repeat(first|(refine mvT ?_;conv=>whnf)|(refine mvF ?_;conv=>whnf)|(refine cT (by rfl) ?_;conv=>whnf)|(refine cF (by rfl) ?_;conv=>whnf)))
  refine ⟨⟨by decide, by decide, by decide, by decide⟩, ⟨by decide, rfl⟩, ?_⟩
  intro bl w2 hbl hol hx2
  ((conv=>whnf);repeat(first|(refine mvT ?_;conv=>whnf)|(refine mvF ?_;conv=>whnf)|(refine cT (by rfl) ?_;conv=>whnf)|(refine cF (by rfl) ?_;conv=>whnf)))
  intro bt w3 hbt hot hx3
  ((conv=>whnf);repeat(first|(refine mvT ?_;conv=>whnf)|(refine mvF ?_;conv=>whnf)|(refine cT (by rfl) ?_;conv=>whnf)|(refine cF (by rfl) ?_;conv=>whnf)))
  have hzz : w0.heap.size ≤ w1.heap.size := hx1.size
  have H := (((Sg.start w0).push hx1 ho2 hb2).push hx2 hol hbl).push hx3 hot hbt
  refine Sg.st (A := []) (o' := 0) (m := [.int .i64 0, .slice none 0 0, .bool false, .slice (some ⟨bl, 0, none⟩) 3 3, .slice none 0 0]) H rfl (Nat.le_of_ble_eq_true rfl) rfl ?_
  clear H hot hol ho2 hx1 hx2 hx3
  intro w H
  obtain ⟨Tt, Tl, T2, H⟩ : ∃ Tt Tl T2, Sg w0 [(bt, Tt, [.int .i64 0, .slice none 0 0, .bool false, .slice (some ⟨bl, 0, none⟩) 3 3, .slice none 0 0]), (bl, Tl, [.int .i64 0, .slice none 0 0, .bool false, .slice none 0 0, .slice none 0 0, .int .i64 0, .slice none 0 0, .bool false, .slice none 0 0, .slice none 0 0, .int .i64 0, .slice none 0 0, .bool false, .slice none 0 0, .slice none 0 0]), (b2, T2, [.int .i64 0, .slice none 0 0, .bool false, .slice none 0 0, .slice none 0 0])] (fun _ => True) w := ⟨_, _, _, H⟩
  have hb2w : w0.heap.size ≤ b2 := hb2
  have hblw : w0.heap.size ≤ bl := by omega
  have hbtw : w0.heap.size ≤ bt := by have := H.dis.1; exact this
  ((conv=>whnf);repeat(first|(refine mvT ?_;conv=>whnf)|(refine mvF ?_;conv=>whnf)|(refine cT (by rfl) ?_;conv=>whnf)|(refine cF (by rfl) ?_;conv=>whnf)))
  refine VD.draw mixed (.q 0 (.q 1 (.q 2 (.q 3 (.q 4 (.q 5 (.q 6 (.q 7 (.q 8 (.eff 9 [] (.done))))))))))) (by kernel_rfl) ?_;((conv=>whnf);repeat(first|(refine mvT ?_;conv=>whnf)|(refine mvF ?_;conv=>whnf)|(refine cT (by rfl) ?_;conv=>whnf)|(refine cF (by rfl) ?_;conv=>whnf)))
  replace H := H.e0 (ext_drew _)
  refine ldS ((Sg.at (A := []) H).cell rfl) ?_;((conv=>whnf);repeat(first|(refine mvT ?_;conv=>whnf)|(refine mvF ?_;conv=>whnf)|(refine cT (by rfl) ?_;conv=>whnf)|(refine cF (by rfl) ?_;conv=>whnf)))
  refine ⟨_, ld ((hq.e0 H.ext).cell (j := 1) rfl) (by simp), ?_⟩
  ((conv=>whnf);repeat(first|(refine mvT ?_;conv=>whnf)|(refine mvF ?_;conv=>whnf)|(refine cT (by rfl) ?_;conv=>whnf)|(refine cF (by rfl) ?_;conv=>whnf)))
  refine ⟨bl, 0, rfl, ⟨by omega, by omega⟩, ?_⟩
  ((conv=>whnf);repeat(first|(refine mvT ?_;conv=>whnf)|(refine mvF ?_;conv=>whnf)|(refine cT (by rfl) ?_;conv=>whnf)|(refine cF (by rfl) ?_;conv=>whnf)))
  refine Sg.st (A := [_]) (o' := 0) (m := [.int .i64 (IntKind.i64.wrap n0), .slice none 0 0, .bool false, .slice none 0 0, .slice none 0 0]) H rfl (Nat.le_of_ble_eq_true rfl) (rfl) ?_
  clear H
  intro w H
  rw [hw0] at H
  replace H : Sg w0 [(bt, Tt, [.int .i64 0, .slice none 0 0, .bool false, .slice (some ⟨bl, 0, none⟩) 3 3, .slice none 0 0]), (bl, Tl, [.int .i64 n0, .slice none 0 0, .bool false, .slice none 0 0, .slice none 0 0, .int .i64 0, .slice none 0 0, .bool false, .slice none 0 0, .slice none 0 0, .int .i64 0, .slice none 0 0, .bool false, .slice none 0 0, .slice none 0 0]), (b2, T2, [.int .i64 0, .slice none 0 0, .bool false, .slice none 0 0, .slice none 0 0])] (fun _ => True) w := H
  ((conv=>whnf);repeat(first|(refine mvT ?_;conv=>whnf)|(refine mvF ?_;conv=>whnf)|(refine cT (by rfl) ?_;conv=>whnf)|(refine cF (by rfl) ?_;conv=>whnf)))
  refine VD.draw mixed (.q 0 (.q 1 (.q 2 (.q 3 (.q 4 (.q 5 (.q 6 (.q 7 (.q 8 (.eff 9 [] (.done))))))))))) (by kernel_rfl) ?_;((conv=>whnf);repeat(first|(refine mvT ?_;conv=>whnf)|(refine mvF ?_;conv=>whnf)|(refine cT (by rfl) ?_;conv=>whnf)|(refine cF (by rfl) ?_;conv=>whnf)))
  replace H := H.e0 (ext_drew _)
  refine ldS ((Sg.at (A := []) H).cell rfl) ?_;((conv=>whnf);repeat(first|(refine mvT ?_;conv=>whnf)|(refine mvF ?_;conv=>whnf)|(refine cT (by rfl) ?_;conv=>whnf)|(refine cF (by rfl) ?_;conv=>whnf)))
  refine ⟨_, ld ((hq.e0 H.ext).cell (j := 2) rfl) (by simp), ?_⟩
  ((conv=>whnf);repeat(first|(refine mvT ?_;conv=>whnf)|(refine mvF ?_;conv=>whnf)|(refine cT (by rfl) ?_;conv=>whnf)|(refine cF (by rfl) ?_;conv=>whnf)))
  refine ⟨bl, 0, rfl, ⟨by omega, by omega⟩, ?_⟩
  ((conv=>whnf);repeat(first|(refine mvT ?_;conv=>whnf)|(refine mvF ?_;conv=>whnf)|(refine cT (by rfl) ?_;conv=>whnf)|(refine cF (by rfl) ?_;conv=>whnf)))
  refine Sg.st (A := [_]) (o' := 5) (m := [.int .i64 (IntKind.i64.wrap n1), .slice none 0 0, .bool false, .slice none 0 0, .slice none 0 0]) H rfl (Nat.le_of_ble_eq_true rfl) (rfl) ?_
  clear H
  intro w H
  rw [hw1] at H
  replace H : Sg w0 [(bt, Tt, [.int .i64 0, .slice none 0 0, .bool false, .slice (some ⟨bl, 0, none⟩) 3 3, .slice none 0 0]), (bl, Tl, [.int .i64 n0, .slice none 0 0, .bool false, .slice none 0 0, .slice none 0 0, .int .i64 n1, .slice none 0 0, .bool false, .slice none 0 0, .slice none 0 0, .int .i64 0, .slice none 0 0, .bool false, .slice none 0 0, .slice none 0 0]), (b2, T2, [.int .i64 0, .slice none 0 0, .bool false, .slice none 0 0, .slice none 0 0])] (fun _ => True) w := H
  ((conv=>whnf);repeat(first|(refine mvT ?_;conv=>whnf)|(refine mvF ?_;conv=>whnf)|(refine cT (by rfl) ?_;conv=>whnf)|(refine cF (by rfl) ?_;conv=>whnf)))
  refine VD.draw mixed (.q 0 (.q 1 (.q 2 (.q 3 (.q 4 (.q 5 (.q 6 (.q 7 (.eff 8 [] (.done)))))))))) (by kernel_rfl) ?_;((conv=>whnf);repeat(first|(refine mvT ?_;conv=>whnf)|(refine mvF ?_;conv=>whnf)|(refine cT (by rfl) ?_;conv=>whnf)|(refine cF (by rfl) ?_;conv=>whnf)))
  replace H := H.e0 (ext_drew _)
  refine ldS ((Sg.at (A := []) H).cell rfl) ?_;((conv=>whnf);repeat(first|(refine mvT ?_;conv=>whnf)|(refine mvF ?_;conv=>whnf)|(refine cT (by rfl) ?_;conv=>whnf)|(refine cF (by rfl) ?_;conv=>whnf)))
  refine ⟨_, ld ((hq.e0 H.ext).cell (j := 3) rfl) (by simp), ?_⟩
  ((conv=>whnf);repeat(first|(refine mvT ?_;conv=>whnf)|(refine mvF ?_;conv=>whnf)|(refine cT (by rfl) ?_;conv=>whnf)|(refine cF (by rfl) ?_;conv=>whnf)))
  refine ⟨bl, 0, rfl, ⟨by omega, by omega⟩, ?_⟩
  ((conv=>whnf);repeat(first|(refine mvT ?_;conv=>whnf)|(refine mvF ?_;conv=>whnf)|(refine cT (by rfl) ?_;conv=>whnf)|(refine cF (by rfl) ?_;conv=>whnf)))
  refine Sg.st (A := [_]) (o' := 10) (m := [.int .i64 n2, .slice none 0 0, .bool false, .slice none 0 0, .slice none 0 0]) H rfl (Nat.le_of_ble_eq_true rfl) (rfl) ?_
  clear H
  intro w H
  replace H : Sg w0 [(bt, Tt, [.int .i64 0, .slice none 0 0, .bool false, .slice (some ⟨bl, 0, none⟩) 3 3, .slice none 0 0]), (bl, Tl, [.int .i64 n0, .slice none 0 0, .bool false, .slice none 0 0, .slice none 0 0, .int .i64 n1, .slice none 0 0, .bool false, .slice none 0 0, .slice none 0 0, .int .i64 n2, .slice none 0 0, .bool false, .slice none 0 0, .slice none 0 0]), (b2, T2, [.int .i64 0, .slice none 0 0, .bool false, .slice none 0 0, .slice none 0 0])] (fun _ => True) w := H
  ((conv=>whnf);repeat(first|(refine mvT ?_;conv=>whnf)|(refine mvF ?_;conv=>whnf)|(refine cT (by rfl) ?_;conv=>whnf)|(refine cF (by rfl) ?_;conv=>whnf)))
  have hql : q < w0.heap.size := World.block_lt_of_cell? w0 _ (hq.cell (j := 0) rfl)
  have hm2 : TagsR w (fun k => F k ∧ k < w0.heap.size) m u_ := (hm.mono (F' := fun k => F k ∧ k < w0.heap.size) fun k h1 h2 => ⟨h2, h1⟩).ext H.ext fun _ _ _ f => f
  refine Does.mono (EachT tgBrokerRegistrationResponse ((hq.e0 H.ext).cell (j := 4) rfl) hm2 hd0 hu0 hs0 (Sg.at (A := []) H) (by omega) (fun k _ h e => by have := h.2; omega)) ?_
  rintro r w2 ⟨u', uv, hperm, hpw, hob, hT, hxe⟩
  have hLlt := H.own.lt
  have hw02 := H.ext.size
  have H2 := Sg.up (A := []) H hob hxe
  obtain ⟨auv, nuv, cuv, rfl⟩ := hT.one
  have H := H2.add (Q := fun w => TgsR w (fun k => w0.heap.size ≤ k) (.slice auv nuv cuv) u') fun w3 x => (hT.ext x fun k hk h1 h2 => by
    have h3 : k < w.heap.size := hLlt k (by rcases inL3 h2 with h | h | h <;> subst h <;> simp [inL])
    omega).tgs fun k hk => by omega
  clear H2
  ((conv=>whnf);repeat(first|(refine mvT ?_;conv=>whnf)|(refine mvF ?_;conv=>whnf)|(refine cT (by rfl) ?_;conv=>whnf)|(refine cF (by rfl) ?_;conv=>whnf)))
  refine ldS ((Sg.at (A := []) H).cell rfl) ?_;((conv=>whnf);repeat(first|(refine mvT ?_;conv=>whnf)|(refine mvF ?_;conv=>whnf)|(refine cT (by rfl) ?_;conv=>whnf)|(refine cF (by rfl) ?_;conv=>whnf)))
  refine Does.mono (sorted_does H.now.1 hpw (by rw [hperm.length_eq]; exact hu0)) ?_
  rintro r w3 hx3
  replace H := H.e0 hx3
  ((conv=>whnf);repeat(first|(refine mvT ?_;conv=>whnf)|(refine mvF ?_;conv=>whnf)|(refine cT (by rfl) ?_;conv=>whnf)|(refine cF (by rfl) ?_;conv=>whnf)))
  refine ⟨_, rfl, (Sg.at (A := []) H).cells, ?_⟩
  ((conv=>whnf);repeat(first|(refine mvT ?_;conv=>whnf)|(refine mvF ?_;conv=>whnf)|(refine cT (by rfl) ?_;conv=>whnf)|(refine cF (by rfl) ?_;conv=>whnf)))
  refine Sg.st (A := [_, _]) (o' := 0) (m := [.int .i64 0, .slice none 0 0, .bool false, .slice (some ⟨bl, 0, none⟩) 3 3, .slice auv nuv cuv]) H rfl (Nat.le_of_ble_eq_true rfl) rfl ?_
  clear H
  intro w H
  ((conv=>whnf);repeat(first|(refine mvT ?_;conv=>whnf)|(refine mvF ?_;conv=>whnf)|(refine cT (by rfl) ?_;conv=>whnf)|(refine cF (by rfl) ?_;conv=>whnf)))
  refine ⟨_, rfl, (Sg.at (A := [_, _]) H).cells, ?_⟩
  have hP := H.now
  have hbl := Sg.at (A := [_]) H
  refine ⟨.mk 0 [] false [numT n0, numT n1, numT n2] u', ?_, ⟨_, rfl, .mk 0 [] false [numT n0, numT n1, numT n2] u' _ _ _ [[.int .i64 n0, .slice none 0 0, .bool false, .slice none 0 0, .slice none 0 0], [.int .i64 n1, .slice none 0 0, .bool false, .slice none 0 0, .slice none 0 0], [.int .i64 n2, .slice none 0 0, .bool false, .slice none 0 0, .slice none 0 0]] rfl (Bytes.nil _ _) (rows_sl hbl (by simp) rfl (by rw [maxLen_eq]; decide) hblw) rfl ?_ hP.1⟩, H.ext⟩
  · refine .mk _ _ _ _ _ _ _ rfl ?_ hperm hpw
    intro i x y hx hy
    match i, hx, hy with
    | 0, hx, hy => simp only [List.getElem?_cons_succ, List.getElem?_cons_zero, Option.some.injEq] at hx hy; subst hx; subst hy; exact Nrm.leaf _ _ _
    | 1, hx, hy => simp only [List.getElem?_cons_succ, List.getElem?_cons_zero, Option.some.injEq] at hx hy; subst hx; subst hy; exact Nrm.leaf _ _ _
    | 2, hx, hy => simp only [List.getElem?_cons_succ, List.getElem?_cons_zero, Option.some.injEq] at hx hy; subst hx; subst hy; exact Nrm.leaf _ _ _
  · intro i x y hx hy
    match i, hx, hy with
    | 0, hx, hy => simp only [List.getElem?_cons_succ, List.getElem?_cons_zero, Option.some.injEq] at hx hy; subst hx; subst hy; exact TrC.leaf hw0 (Bytes.nil _ _)
    | 1, hx, hy => simp only [List.getElem?_cons_succ, List.getElem?_cons_zero, Option.some.injEq] at hx hy; subst hx; subst hy; exact TrC.leaf hw1 (Bytes.nil _ _)
    | 2, hx, hy => simp only [List.getElem?_cons_succ, List.getElem?_cons_zero, Option.some.injEq] at hx hy; subst hx; subst hy; exact TrC.leaf hw2 (Bytes.nil _ _)
theorem ureadBrokerRegistrationResponse {w0 : World} {F : Nat → Prop} {p : Nat} {ty : TypeId} {v : Int} {x ev : Value} {l : List UInt8} (hL : Laid w0 ev) (hp : Own w0 p ty [.int .i16 v, .int .i32 0, .int .i16 0, .int .i64 (-1), .map none]) (hx : Bytes w0 F x l) (hF : ∀ k, F k → k ≠ p) (hv : 0 ≤ v) (hp1 : p ≠ errG) :
    Does X.P 48 #[.pointer (some ⟨p, 0, none⟩), x, .bool true] w0 fun r w' => RdPost w0 p ty v (decide (v ≥ 0)) true dBrokerRegistrationResponse ev l r w' := by
  have hpl := hp.lt
  obtain ⟨fx, hfx⟩ : ∃ fx, fx = decide (v ≥ 0) := ⟨_, rfl⟩
  rw [← hfx]
  obtain ⟨G0, hG0, hx⟩ : ∃ G0 : Nat → Prop, (∀ k, G0 k → k < w0.heap.size ∧ k ≠ p) ∧ Bytes w0 G0 x l := ⟨fun k => F k ∧ k < w0.heap.size, fun k h => ⟨h.2, hF k h.1⟩, Sl.mono hx fun k hk h => ⟨h, hk⟩⟩
  obtain ⟨a0, c0, rfl, _⟩ := hx.view
  refine Does.go (X := X) (l := [_, _, _]) Tryd.func48 rfl (by kernel_rfl) (by kernel_rfl) _ rfl ?_
  ((conv=>whnf);repeat(first|(refine mvT ?_;conv=>whnf)|(refine mvF ?_;conv=>whnf)|(refine cT (by rfl) ?_;conv=>whnf)|(refine cF (by rfl) ?_;conv=>whnf)))
  refine Does.mono (dfBrokerRegistrationResponse (pre := []) (cur := [.int .i16 v, .int .i32 0, .int .i16 0, .int .i64 (-1), .map none]) (post := []) (by simpa using hp) rfl rfl) ?_
  rintro rd wd ⟨hpd, hxd⟩
  ((conv=>whnf);repeat(first|(refine mvT ?_;conv=>whnf)|(refine mvF ?_;conv=>whnf)|(refine cT (by rfl) ?_;conv=>whnf)|(refine cF (by rfl) ?_;conv=>whnf)))
  intro pb w1 hpb hb hx1
  ((conv=>whnf);repeat(first|(refine mvT ?_;conv=>whnf)|(refine mvF ?_;conv=>whnf)|(refine cT (by rfl) ?_;conv=>whnf)|(refine cF (by rfl) ?_;conv=>whnf)))
  refine st_all [.slice a0 l.length c0, .bool false] hb rfl rfl rfl ?_
  intro w hb hx2
  ((conv=>whnf);repeat(first|(refine mvT ?_;conv=>whnf)|(refine mvF ?_;conv=>whnf)|(refine cT (by rfl) ?_;conv=>whnf)|(refine cF (by rfl) ?_;conv=>whnf)))
  have hsd := hxd.size
  have hwp : w0.heap.size ≤ pb := by omega
  have he1 : Ext nob wd w := hx1.trans hx2 fun k hk h => by omega
  have hpw : Own w p ty [.int .i16 v, .int .i32 0, .int .i16 0, .int .i64 (-1), .map none] := by have := hpd.e0 he1; simpa using this
  have he := hxd.tr0 he1
  have H := St.init hpw hb (hx.ext he fun k _ h => (hG0 k h).2) hG0 he hpl hwp
  clear hpd hxd hx1 hx2 hb hpw he1 hp
  refine ldS (H.cell (o := 0) rfl (k := 0) rfl) ?_;((conv=>whnf);repeat(first|(refine mvT ?_;conv=>whnf)|(refine mvF ?_;conv=>whnf)|(refine cT (by rfl) ?_;conv=>whnf)|(refine cF (by rfl) ?_;conv=>whnf)))
  rw [← hfx]
  (refine mvB ?_;((conv=>whnf);repeat(first|(refine mvT ?_;conv=>whnf)|(refine mvF ?_;conv=>whnf)|(refine cT (by rfl) ?_;conv=>whnf)|(refine cF (by rfl) ?_;conv=>whnf))))
  have hup0 : tailBad 9 v fx dBrokerRegistrationResponse (l, false) = true → (rdPart 9 v fx dBrokerRegistrationResponse (l, false)).2.2 = true := id
  refine Does.mono H.int32 ?_
  rintro r w ⟨n1, s1, rfl, hn1, hr1, H⟩
  ((conv=>whnf);repeat(first|(refine mvT ?_;conv=>whnf)|(refine mvF ?_;conv=>whnf)|(refine cT (by rfl) ?_;conv=>whnf)|(refine cF (by rfl) ?_;conv=>whnf)))
  refine H.st1 (v := .int .i32 n1) 1 (rfl) (rfl) rfl (by simp) rfl (Nat.lt_of_lt_of_le (Nat.lt_succ_self _) (Nat.le_of_ble_eq_true rfl)) ?_
  intro w H
  ((conv=>whnf);repeat(first|(refine mvT ?_;conv=>whnf)|(refine mvF ?_;conv=>whnf)|(refine cT (by rfl) ?_;conv=>whnf)|(refine cF (by rfl) ?_;conv=>whnf)))
  replace H : St w0 G0 p pb s1 ((p, ty, [] ++ [.int .i16 v, .int .i32 n1, .int .i16 0, .int .i64 (-1), .map none] ++ []) :: []) (fun _ => True) w := H
  refine Does.mono H.int16 ?_
  rintro r w ⟨n3, s3, rfl, hn3, hr3, H⟩
  ((conv=>whnf);repeat(first|(refine mvT ?_;conv=>whnf)|(refine mvF ?_;conv=>whnf)|(refine cT (by rfl) ?_;conv=>whnf)|(refine cF (by rfl) ?_;conv=>whnf)))
  refine H.st1 (v := .int .i16 n3) 2 (rfl) (rfl) rfl (by simp) rfl (Nat.lt_of_lt_of_le (Nat.lt_succ_self _) (Nat.le_of_ble_eq_true rfl)) ?_
  intro w H
  ((conv=>whnf);repeat(first|(refine mvT ?_;conv=>whnf)|(refine mvF ?_;conv=>whnf)|(refine cT (by rfl) ?_;conv=>whnf)|(refine cF (by rfl) ?_;conv=>whnf)))
  replace H : St w0 G0 p pb s3 ((p, ty, [] ++ [.int .i16 v, .int .i32 n1, .int .i16 n3, .int .i64 (-1), .map none] ++ []) :: []) (fun _ => True) w := H
  refine Does.mono H.int64 ?_
  rintro r w ⟨n5, s5, rfl, hn5, hr5, H⟩
  ((conv=>whnf);repeat(first|(refine mvT ?_;conv=>whnf)|(refine mvF ?_;conv=>whnf)|(refine cT (by rfl) ?_;conv=>whnf)|(refine cF (by rfl) ?_;conv=>whnf)))
  refine H.st1 (v := .int .i64 n5) 3 (rfl) (rfl) rfl (by simp) rfl (Nat.lt_of_lt_of_le (Nat.lt_succ_self _) (Nat.le_of_ble_eq_true rfl)) ?_
  intro w H
  ((conv=>whnf);repeat(first|(refine mvT ?_;conv=>whnf)|(refine mvF ?_;conv=>whnf)|(refine cT (by rfl) ?_;conv=>whnf)|(refine cF (by rfl) ?_;conv=>whnf)))
  replace H : St w0 G0 p pb s5 ((p, ty, [] ++ [.int .i16 v, .int .i32 n1, .int .i16 n3, .int .i64 n5, .map none] ++ []) :: []) (fun _ => True) w := H
  (refine mvB ?_;((conv=>whnf);repeat(first|(refine mvT ?_;conv=>whnf)|(refine mvF ?_;conv=>whnf)|(refine cT (by rfl) ?_;conv=>whnf)|(refine cF (by rfl) ?_;conv=>whnf))))
  refine VC.cutE (fun q : Value × List Tg × Rd => [(0, .pointer (some ⟨p, 0, none⟩)), (2, .bool true), (7, .pointer (some ⟨pb, 0, none⟩)), (8, .int .i16 v), (9, .bool fx), (10, .pointer (some ⟨p, 0, none⟩))]) (fun q w' => rdTagsF fx s5 = q.2 ∧ St w0 G0 p pb q.2.2 ((p, ty, [] ++ [.int .i16 v, .int .i32 n1, .int .i16 n3, .int .i64 n5, q.1] ++ []) :: []) (fun w => TGf p q.1 q.2.1 w ∧ (fun _ => True) w) w') ?_ ?_
  · refine cI (by rfl) (fun hc=>?_) (fun hc=>?_)
    · ((conv=>whnf);repeat(first|(refine mvT ?_;conv=>whnf)|(refine mvF ?_;conv=>whnf)|(refine cT (by rfl) ?_;conv=>whnf)|(refine cF (by rfl) ?_;conv=>whnf)))
      refine Does.mono H.tags ?_
      rintro r w ⟨m, u, s', rfl, hone, hr, H⟩
      ((conv=>whnf);repeat(first|(refine mvT ?_;conv=>whnf)|(refine mvF ?_;conv=>whnf)|(refine cT (by rfl) ?_;conv=>whnf)|(refine cF (by rfl) ?_;conv=>whnf)))
      refine H.st1 (v := m) 4 (rfl) (hone) rfl (by simp) rfl (Nat.lt_of_lt_of_le (Nat.lt_succ_self _) (Nat.le_of_ble_eq_true rfl)) ?_
      intro w H
      ((conv=>whnf);repeat(first|(refine mvT ?_;conv=>whnf)|(refine mvF ?_;conv=>whnf)|(refine cT (by rfl) ?_;conv=>whnf)|(refine cF (by rfl) ?_;conv=>whnf)))
      exact ⟨(m, u, s'), ⟨rfl, rfl, rfl, rfl, rfl, rfl, trivial⟩, by rw [rdTagsF, if_pos hc]; exact hr, H⟩
    · ((conv=>whnf);repeat(first|(refine mvT ?_;conv=>whnf)|(refine mvF ?_;conv=>whnf)|(refine cT (by rfl) ?_;conv=>whnf)|(refine cF (by rfl) ?_;conv=>whnf)))
      exact ⟨(.map none, [], s5), ⟨rfl, rfl, rfl, rfl, rfl, rfl, trivial⟩, by rw [rdTagsF, if_neg (by rw [hc]; decide)], H.add fun w' _ => TagsR.nil _ _⟩
  clear H
  rintro ⟨m7, u7, s7⟩ w ⟨htg, H⟩
  dsimp only at htg H
  ((conv=>whnf);repeat(first|(refine mvT ?_;conv=>whnf)|(refine mvF ?_;conv=>whnf)|(refine cT (by rfl) ?_;conv=>whnf)|(refine cF (by rfl) ?_;conv=>whnf)))
  obtain ⟨P8, hP8⟩ : ∃ P : World → Prop, P = fun w => TGf p m7 u7 w ∧ (fun _ => True) w := ⟨_, rfl⟩
  replace H : St w0 G0 p pb s7 ((p, ty, [] ++ [.int .i16 v, .int .i32 n1, .int .i16 n3, .int .i64 n5, m7] ++ []) :: []) P8 w := by rw [hP8]; exact H
  have hpart : rdPart 9 v fx dBrokerRegistrationResponse (l, false) = (.mk 0 [] false [numT n1, numT n3, numT n5] u7, s7) := by
    unfold rdPart rdPartW
    rw [rdAll_yes (df := dfT 9) (rdField3.trans hr1) ⟨by decide, has_all hv⟩, rdAll_yes (df := dfT 9) (rdField2.trans hr3) ⟨by decide, has_all hv⟩, rdAll_yes (df := dfT 9) (rdField4.trans hr5) ⟨by decide, has_all hv⟩]
    simp only [rdAll]
    rw [htg]
  refine Does.mono (H.done hL hp1) ?_
  rintro r w ⟨rfl, H⟩
  ((conv=>whnf);repeat(first|(refine mvT ?_;conv=>whnf)|(refine mvF ?_;conv=>whnf)|(refine cT (by rfl) ?_;conv=>whnf)|(refine cF (by rfl) ?_;conv=>whnf)))
  refine RdPost.end hpart H fun hP => ?_
  rw [hP8] at hP
  obtain ⟨hf8_, hP⟩ := hP
  exact QPt (QA1 (QF3 hn1) (QA1 (QF2 hn3) (QA1 (QF4 hn5) (QA0)))) hf8_
theorem newBrokerRegistrationResponse (w : World) : Does X.P 22 #[] w fun r w' => ∃ p, r = .pointer (some ⟨p, 0, none⟩) ∧ w.heap.size ≤ p ∧ Own w' p 65 [.int .i16 0, .int .i32 0, .int .i16 0, .int .i64 (-1), .map none] ∧ Ext nob w w' := by
  refine Does.go (X := X) (l := []) Tryd.func22 rfl (by kernel_rfl) (by kernel_rfl) _ rfl ?_
  ((conv=>whnf);repeat(first|(refine mvT ?_;conv=>whnf)|(refine mvF ?_;conv=>whnf)|(refine cT (by rfl) ?_;conv=>whnf)|(refine cF (by rfl) ?_;conv=>whnf)))
  intro p w1 hp ho hx
  ((conv=>whnf);repeat(first|(refine mvT ?_;conv=>whnf)|(refine mvF ?_;conv=>whnf)|(refine cT (by rfl) ?_;conv=>whnf)|(refine cF (by rfl) ?_;conv=>whnf)))
  refine Does.mono (dfBrokerRegistrationResponse (pre := []) (cur := [.int .i16 0, .int .i32 0, .int .i16 0, .int .i64 0, .map none]) (post := []) (by simpa using ho) rfl rfl) ?_;rintro r2 w2 ⟨hd, hx2⟩;((conv=>whnf);repeat(first|(refine mvT ?_;conv=>whnf)|(refine mvF ?_;conv=>whnf)|(refine cT (by rfl) ?_;conv=>whnf)|(refine cF (by rfl) ?_;conv=>whnf)))
  exact ⟨p, rfl, hp, by simpa using hd, hx.st hx2 hp⟩
theorem maxBrokerRegistrationResponse (w : World) : Does X.P 7 #[] w fun r w' => r = .int .i64 4 ∧ Ext nob w w' := by
  have hmax : ∀ (p : Nat) (w : World), Does X.P 23 #[.pointer (some ⟨p, 0, none⟩)] w fun r w' => r = .int .i16 4 ∧ w' = w := by
    intro p w
    refine Does.go (X := X) (l := [_]) Tryd.func23 rfl (by kernel_rfl) (by kernel_rfl) _ rfl ?_
    ((conv=>whnf);repeat(first|(refine mvT ?_;conv=>whnf)|(refine mvF ?_;conv=>whnf)|(refine cT (by rfl) ?_;conv=>whnf)|(refine cF (by rfl) ?_;conv=>whnf)))
    exact ⟨rfl, rfl⟩
  refine Does.go (X := X) (l := []) Tryd.func7 rfl (by kernel_rfl) (by kernel_rfl) _ rfl ?_
  ((conv=>whnf);repeat(first|(refine mvT ?_;conv=>whnf)|(refine mvF ?_;conv=>whnf)|(refine cT (by rfl) ?_;conv=>whnf)|(refine cF (by rfl) ?_;conv=>whnf)))
  refine Does.mono (newBrokerRegistrationResponse w) ?_;rintro r1 w1 ⟨p, rfl, _, _, hx⟩;((conv=>whnf);repeat(first|(refine mvT ?_;conv=>whnf)|(refine mvF ?_;conv=>whnf)|(refine cT (by rfl) ?_;conv=>whnf)|(refine cF (by rfl) ?_;conv=>whnf)))
  refine Does.mono (hmax p w1) ?_;rintro r2 w2 ⟨rfl, rfl⟩;((conv=>whnf);repeat(first|(refine mvT ?_;conv=>whnf)|(refine mvF ?_;conv=>whnf)|(refine cT (by rfl) ?_;conv=>whnf)|(refine cF (by rfl) ?_;conv=>whnf)))
  exact ⟨rfl, hx⟩
theorem anyBrokerRegistrationResponse {G : Nat → Prop} {w : World} {v : Int} {x ev : Value} {s : List UInt8} (hL : Laid w ev) (hx : Bytes w G x s) (hv : 0 ≤ v) (hv2 : v < 32768) (hs : s.length ≤ 1000) :
    Does X.P 8 #[.int .i64 v, x] w fun r w' => ∃ o t', r = .tuple #[o, .bool (!(rdPart 9 v (decide (v ≥ 0)) dBrokerRegistrationResponse (s, false)).2.2)] ∧ ((rdPart 9 v (decide (v ≥ 0)) dBrokerRegistrationResponse (s, false)).2.2 = false → Nrm (rdPart 9 v (decide (v ≥ 0)) dBrokerRegistrationResponse (s, false)).1 t') ∧ Tr w' (fun k => w.heap.size ≤ k) o t' ∧ Ext nob w w' := by
  have hv16 : IntKind.i16.wrap v = v := by
    simp only [IntKind.wrap, IntKind.bits, IntKind.signed]
    simp
    omega
  have hok : ∀ f, f ∈ dBrokerRegistrationResponse → okF 9 f = true := List.all_eq_true.1 (show (dBrokerRegistrationResponse).all (okF 9) = true by decide)
  obtain ⟨ax, cx, rfl, _⟩ := hx.view
  have hL1 := hL.lt
  refine Does.go (X := X) (l := [_, _]) Tryd.func8 rfl (by kernel_rfl) (by kernel_rfl) _ rfl ?_
  ((conv=>whnf);repeat(first|(refine mvT ?_;conv=>whnf)|(refine mvF ?_;conv=>whnf)|(refine cT (by rfl) ?_;conv=>whnf)|(refine cF (by rfl) ?_;conv=>whnf)))
  intro b w0 hb ho hx0
  ((conv=>whnf);repeat(first|(refine mvT ?_;conv=>whnf)|(refine mvF ?_;conv=>whnf)|(refine cT (by rfl) ?_;conv=>whnf)|(refine cF (by rfl) ?_;conv=>whnf)))
  refine Does.mono (newBrokerRegistrationResponse w0) ?_;rintro r1 w1 ⟨p, rfl, hwp, hop, hx1⟩;((conv=>whnf);repeat(first|(refine mvT ?_;conv=>whnf)|(refine mvF ?_;conv=>whnf)|(refine cT (by rfl) ?_;conv=>whnf)|(refine cF (by rfl) ?_;conv=>whnf)))
  have hwp : w.heap.size ≤ p := Nat.le_trans hx0.size hwp
  have hpb : p ≠ b := by have := ho.lt; omega
  have hx01 := hx0.e0 hx1
  have hset : Does X.P 24 #[.pointer (some ⟨p, 0, none⟩), .int .i16 (IntKind.i16.wrap v)] w1 fun r w' => Own w' p 65 [.int .i16 v, .int .i32 0, .int .i16 0, .int .i64 (-1), .map none] ∧ Ext (fun k => k = p) w1 w' := by
    rw [hv16]
    refine Does.go (X := X) (l := [_, _]) Tryd.func24 rfl (by kernel_rfl) (by kernel_rfl) _ rfl ?_
    ((conv=>whnf);repeat(first|(refine mvT ?_;conv=>whnf)|(refine mvF ?_;conv=>whnf)|(refine cT (by rfl) ?_;conv=>whnf)|(refine cF (by rfl) ?_;conv=>whnf)))
    refine ⟨_, _, hop, rfl, rfl, rfl, ?_⟩
    intro w3 ho3 hx3
    ((conv=>whnf);repeat(first|(refine mvT ?_;conv=>whnf)|(refine mvF ?_;conv=>whnf)|(refine cT (by rfl) ?_;conv=>whnf)|(refine cF (by rfl) ?_;conv=>whnf)))
    exact ⟨ho3, hx3⟩
  refine Does.mono (hset) ?_;rintro r2 w2 ⟨hop2, hx2⟩;((conv=>whnf);repeat(first|(refine mvT ?_;conv=>whnf)|(refine mvF ?_;conv=>whnf)|(refine cT (by rfl) ?_;conv=>whnf)|(refine cF (by rfl) ?_;conv=>whnf)))
  have hx02 := hx01.st hx2 hwp
  have ho2 := (ho.e0 hx1).ext hx2 (fun e => hpb e.symm)
  refine app_bytes rfl rfl (OB.nil w2 w2.heap.size) (hx.e0 hx02).src rfl (by simp only [List.length_nil]; omega) (Nat.le_refl _) ?_
  intro x3 w3 h3 hx3 _ _
  ((conv=>whnf);repeat(first|(refine mvT ?_;conv=>whnf)|(refine mvF ?_;conv=>whnf)|(refine cT (by rfl) ?_;conv=>whnf)|(refine cF (by rfl) ?_;conv=>whnf)))
  rw [List.nil_append] at h3
  have hx3 : Ext nob w2 w3 := hx3.mono fun k _ h => by simp [Value.ownBlock] at h
  have hx03 := hx02.e0 hx3
  have hpl := hop2.lt
  have hread : Does X.P 25 #[.pointer (some ⟨p, 0, none⟩), x3] w3 fun r w' => RdPost w3 p 65 v (decide (v ≥ 0)) true dBrokerRegistrationResponse ev s r w' := by
    obtain ⟨a3, c3, rfl, _⟩ := h3.shape
    refine Does.go (X := X) (l := [_, _]) Tryd.func25 rfl (by kernel_rfl) (by kernel_rfl) _ rfl ?_
    ((conv=>whnf);repeat(first|(refine mvT ?_;conv=>whnf)|(refine mvF ?_;conv=>whnf)|(refine cT (by rfl) ?_;conv=>whnf)|(refine cF (by rfl) ?_;conv=>whnf)))
    refine Does.mono (readBrokerRegistrationResponse (hL.ext hx03 fun f => f) (hop2.e0 hx3) (h3.bytes (F := fun k => k ≠ p) fun k hk => by omega) (fun k h => h) hv (by omega)) ?_;rintro r w' h;((conv=>whnf);repeat(first|(refine mvT ?_;conv=>whnf)|(refine mvF ?_;conv=>whnf)|(refine cT (by rfl) ?_;conv=>whnf)|(refine cF (by rfl) ?_;conv=>whnf)))
    exact h
  refine Does.mono hread ?_
  rintro r4 w4 ⟨hr4, hx4, hpost⟩
  have hlg := rdPart_lg (B := 1000) (Nat.le_refl _) 9 v (decide (v ≥ 0)) dBrokerRegistrationResponse hok (by decide) (s, false) hs
  generalize rdPart 9 v (decide (v ≥ 0)) dBrokerRegistrationResponse (s, false) = R at hr4 hpost hlg ⊢
  have hx04 := hx03.st hx4 hwp
  have ho4 := (ho2.e0 hx3).ext hx4 (fun e => hpb e.symm)
  have hbl4 := ho4.lt
  have hsz4 := hx04.size
  cases hbad : R.2.2 with
  | true =>
    rw [hbad, if_pos rfl] at hr4
    obtain ⟨te, xe, hev⟩ := hL.iface
    rw [hev] at hr4
    subst hr4
    ((conv=>whnf);repeat(first|(refine mvT ?_;conv=>whnf)|(refine mvF ?_;conv=>whnf)|(refine cT (by rfl) ?_;conv=>whnf)|(refine cF (by rfl) ?_;conv=>whnf)))
    refine st_all [.int .i64 0, .slice none 0 0, .bool false, .slice none 0 0, .slice none 0 0] ho4 rfl rfl rfl ?_
    intro w6 ho6 hx6
    ((conv=>whnf);repeat(first|(refine mvT ?_;conv=>whnf)|(refine mvF ?_;conv=>whnf)|(refine cT (by rfl) ?_;conv=>whnf)|(refine cF (by rfl) ?_;conv=>whnf)))
    refine ⟨_, rfl, ho6.cells, ?_⟩
    exact ⟨_, T.zero, rfl, fun h => (by cases h), ⟨_, rfl, TrC.leaf rfl (Bytes.nil _ _)⟩, hx04.st hx6 hb⟩
  | false =>
    rw [hbad, if_neg Bool.false_ne_true] at hr4
    subst hr4
    obtain ⟨cs, hop4, hq⟩ := hpost hbad
    have hlim := (hlg hbad).1.lim (by decide)
    ((conv=>whnf);repeat(first|(refine mvT ?_;conv=>whnf)|(refine mvF ?_;conv=>whnf)|(refine cT (by rfl) ?_;conv=>whnf)|(refine cF (by rfl) ?_;conv=>whnf)))
    refine Does.mono (tellBrokerRegistrationResponse hop4.cells hq hlim) ?_
    rintro r5 w5 ⟨t', hn, ⟨cr, rfl, htr⟩, hx5⟩
    have hlen5 := htr.len
    have hok5 := htr.ok
    ((conv=>whnf);repeat(first|(refine mvT ?_;conv=>whnf)|(refine mvF ?_;conv=>whnf)|(refine cT (by rfl) ?_;conv=>whnf)|(refine cF (by rfl) ?_;conv=>whnf)))
    refine st_all cr (ho4.e0 hx5) hlen5 rfl hok5 ?_
    intro w6 ho6 hx6
    ((conv=>whnf);repeat(first|(refine mvT ?_;conv=>whnf)|(refine mvF ?_;conv=>whnf)|(refine cT (by rfl) ?_;conv=>whnf)|(refine cF (by rfl) ?_;conv=>whnf)))
    refine ⟨cr, hlen5, ho6.cells, ?_⟩
    exact ⟨_, t', rfl, fun _ => hn, ⟨_, rfl, (htr.ext hx6 fun k _ h e => by omega).mono fun k _ h => by omega⟩, (hx04.e0 hx5).st hx6 hb⟩
theorem uanyBrokerRegistrationResponse {G : Nat → Prop} {w : World} {v : Int} {x ev : Value} {s : List UInt8} (hL : Laid w ev) (hx : Bytes w G x s) (hv : 0 ≤ v) (hv2 : v < 32768) (hs : s.length ≤ 1000) :
    Does X.P 10 #[.int .i64 v, x] w fun r w' => ∃ o t', r = .tuple #[o, .bool (!(rdPart 9 v (decide (v ≥ 0)) dBrokerRegistrationResponse (s, false)).2.2)] ∧ ((rdPart 9 v (decide (v ≥ 0)) dBrokerRegistrationResponse (s, false)).2.2 = false → Nrm (rdPart 9 v (decide (v ≥ 0)) dBrokerRegistrationResponse (s, false)).1 t') ∧ Tr w' (fun k => w.heap.size ≤ k) o t' ∧ Ext nob w w' := by
  have hv16 : IntKind.i16.wrap v = v := by
    simp only [IntKind.wrap, IntKind.bits, IntKind.signed]
    simp
    omega
  have hok : ∀ f, f ∈ dBrokerRegistrationResponse → okF 9 f = true := List.all_eq_true.1 (show (dBrokerRegistrationResponse).all (okF 9) = true by decide)
  obtain ⟨ax, cx, rfl, _⟩ := hx.view
  have hL1 := hL.lt
  refine Does.go (X := X) (l := [_, _]) Tryd.func10 rfl (by kernel_rfl) (by kernel_rfl) _ rfl ?_
  ((conv=>whnf);repeat(first|(refine mvT ?_;conv=>whnf)|(refine mvF ?_;conv=>whnf)|(refine cT (by rfl) ?_;conv=>whnf)|(refine cF (by rfl) ?_;conv=>whnf)))
  intro b w0 hb ho hx0
  ((conv=>whnf);repeat(first|(refine mvT ?_;conv=>whnf)|(refine mvF ?_;conv=>whnf)|(refine cT (by rfl) ?_;conv=>whnf)|(refine cF (by rfl) ?_;conv=>whnf)))
  refine Does.mono (newBrokerRegistrationResponse w0) ?_;rintro r1 w1 ⟨p, rfl, hwp, hop, hx1⟩;((conv=>whnf);repeat(first|(refine mvT ?_;conv=>whnf)|(refine mvF ?_;conv=>whnf)|(refine cT (by rfl) ?_;conv=>whnf)|(refine cF (by rfl) ?_;conv=>whnf)))
  have hwp : w.heap.size ≤ p := Nat.le_trans hx0.size hwp
  have hpb : p ≠ b := by have := ho.lt; omega
  have hx01 := hx0.e0 hx1
  have hset : Does X.P 24 #[.pointer (some ⟨p, 0, none⟩), .int .i16 (IntKind.i16.wrap v)] w1 fun r w' => Own w' p 65 [.int .i16 v, .int .i32 0, .int .i16 0, .int .i64 (-1), .map none] ∧ Ext (fun k => k = p) w1 w' := by
    rw [hv16]
    refine Does.go (X := X) (l := [_, _]) Tryd.func24 rfl (by kernel_rfl) (by kernel_rfl) _ rfl ?_
    ((conv=>whnf);repeat(first|(refine mvT ?_;conv=>whnf)|(refine mvF ?_;conv=>whnf)|(refine cT (by rfl) ?_;conv=>whnf)|(refine cF (by rfl) ?_;conv=>whnf)))
    refine ⟨_, _, hop, rfl, rfl, rfl, ?_⟩
    intro w3 ho3 hx3
    ((conv=>whnf);repeat(first|(refine mvT ?_;conv=>whnf)|(refine mvF ?_;conv=>whnf)|(refine cT (by rfl) ?_;conv=>whnf)|(refine cF (by rfl) ?_;conv=>whnf)))
    exact ⟨ho3, hx3⟩
  refine Does.mono (hset) ?_;rintro r2 w2 ⟨hop2, hx2⟩;((conv=>whnf);repeat(first|(refine mvT ?_;conv=>whnf)|(refine mvF ?_;conv=>whnf)|(refine cT (by rfl) ?_;conv=>whnf)|(refine cF (by rfl) ?_;conv=>whnf)))
  have hx02 := hx01.st hx2 hwp
  have ho2 := (ho.e0 hx1).ext hx2 (fun e => hpb e.symm)
  refine app_bytes rfl rfl (OB.nil w2 w2.heap.size) (hx.e0 hx02).src rfl (by simp only [List.length_nil]; omega) (Nat.le_refl _) ?_
  intro x3 w3 h3 hx3 _ _
  ((conv=>whnf);repeat(first|(refine mvT ?_;conv=>whnf)|(refine mvF ?_;conv=>whnf)|(refine cT (by rfl) ?_;conv=>whnf)|(refine cF (by rfl) ?_;conv=>whnf)))
  rw [List.nil_append] at h3
  have hx3 : Ext nob w2 w3 := hx3.mono fun k _ h => by simp [Value.ownBlock] at h
  have hx03 := hx02.e0 hx3
  have hpl := hop2.lt
  have hread : Does X.P 27 #[.pointer (some ⟨p, 0, none⟩), x3] w3 fun r w' => RdPost w3 p 65 v (decide (v ≥ 0)) true dBrokerRegistrationResponse ev s r w' := by
    obtain ⟨a3, c3, rfl, _⟩ := h3.shape
    refine Does.go (X := X) (l := [_, _]) Tryd.func27 rfl (by kernel_rfl) (by kernel_rfl) _ rfl ?_
    ((conv=>whnf);repeat(first|(refine mvT ?_;conv=>whnf)|(refine mvF ?_;conv=>whnf)|(refine cT (by rfl) ?_;conv=>whnf)|(refine cF (by rfl) ?_;conv=>whnf)))
    refine Does.mono (ureadBrokerRegistrationResponse (hL.ext hx03 fun f => f) (hop2.e0 hx3) (h3.bytes (F := fun k => k ≠ p) fun k hk => by omega) (fun k h => h) hv (by omega)) ?_;rintro r w' h;((conv=>whnf);repeat(first|(refine mvT ?_;conv=>whnf)|(refine mvF ?_;conv=>whnf)|(refine cT (by rfl) ?_;conv=>whnf)|(refine cF (by rfl) ?_;conv=>whnf)))
    exact h
  refine Does.mono hread ?_
  rintro r4 w4 ⟨hr4, hx4, hpost⟩
  have hlg := rdPart_lg (B := 1000) (Nat.le_refl _) 9 v (decide (v ≥ 0)) dBrokerRegistrationResponse hok (by decide) (s, false) hs
  generalize rdPart 9 v (decide (v ≥ 0)) dBrokerRegistrationResponse (s, false) = R at hr4 hpost hlg ⊢
  have hx04 := hx03.st hx4 hwp
  have ho4 := (ho2.e0 hx3).ext hx4 (fun e => hpb e.symm)
  have hbl4 := ho4.lt
  have hsz4 := hx04.size
  cases hbad : R.2.2 with
  | true =>
    rw [hbad, if_pos rfl] at hr4
    obtain ⟨te, xe, hev⟩ := hL.iface
    rw [hev] at hr4
    subst hr4
    ((conv=>whnf);repeat(first|(refine mvT ?_;conv=>whnf)|(refine mvF ?_;conv=>whnf)|(refine cT (by rfl) ?_;conv=>whnf)|(refine cF (by rfl) ?_;conv=>whnf)))
    refine st_all [.int .i64 0, .slice none 0 0, .bool false, .slice none 0 0, .slice none 0 0] ho4 rfl rfl rfl ?_
    intro w6 ho6 hx6
    ((conv=>whnf);repeat(first|(refine mvT ?_;conv=>whnf)|(refine mvF ?_;conv=>whnf)|(refine cT (by rfl) ?_;conv=>whnf)|(refine cF (by rfl) ?_;conv=>whnf)))
    refine ⟨_, rfl, ho6.cells, ?_⟩
    exact ⟨_, T.zero, rfl, fun h => (by cases h), ⟨_, rfl, TrC.leaf rfl (Bytes.nil _ _)⟩, hx04.st hx6 hb⟩
  | false =>
    rw [hbad, if_neg Bool.false_ne_true] at hr4
    subst hr4
    obtain ⟨cs, hop4, hq⟩ := hpost hbad
    have hlim := (hlg hbad).1.lim (by decide)
    ((conv=>whnf);repeat(first|(refine mvT ?_;conv=>whnf)|(refine mvF ?_;conv=>whnf)|(refine cT (by rfl) ?_;conv=>whnf)|(refine cF (by rfl) ?_;conv=>whnf)))
    refine Does.mono (tellBrokerRegistrationResponse hop4.cells hq hlim) ?_
    rintro r5 w5 ⟨t', hn, ⟨cr, rfl, htr⟩, hx5⟩
    have hlen5 := htr.len
    have hok5 := htr.ok
    ((conv=>whnf);repeat(first|(refine mvT ?_;conv=>whnf)|(refine mvF ?_;conv=>whnf)|(refine cT (by rfl) ?_;conv=>whnf)|(refine cF (by rfl) ?_;conv=>whnf)))
    refine st_all cr (ho4.e0 hx5) hlen5 rfl hok5 ?_
    intro w6 ho6 hx6
    ((conv=>whnf);repeat(first|(refine mvT ?_;conv=>whnf)|(refine mvF ?_;conv=>whnf)|(refine cT (by rfl) ?_;conv=>whnf)|(refine cF (by rfl) ?_;conv=>whnf)))
    refine ⟨cr, hlen5, ho6.cells, ?_⟩
    exact ⟨_, t', rfl, fun _ => hn, ⟨_, rfl, (htr.ext hx6 fun k _ h e => by omega).mono fun k _ h => by omega⟩, (hx04.e0 hx5).st hx6 hb⟩
theorem walkBrokerRegistrationResponse {w : World} {n : Nat} (hn : n < 256) {y ev : Value} {l : List UInt8} (hL : Laid w ev) (hy : Bytes w anyB y l) : Does X.P 3 #[.int .u8 n, y] w fun r w' => r = .bool true ∧ Ext nob w w' := by
  have hok : ∀ f, f ∈ dBrokerRegistrationResponse → okF 9 f = true := List.all_eq_true.1 (show (dBrokerRegistrationResponse).all (okF 9) = true by decide)
  obtain ⟨ay, cy, rfl, _⟩ := hy.view
  refine Does.go (X := X) (l := [_, _]) Tryd.func3 rfl (by kernel_rfl) (by kernel_rfl) _ rfl ?_
  ((conv=>whnf);repeat(first|(refine mvT ?_;conv=>whnf)|(refine mvF ?_;conv=>whnf)|(refine cT (by rfl) ?_;conv=>whnf)|(refine cF (by rfl) ?_;conv=>whnf)))
  refine cI (by rfl) (fun h0=>?_) (fun h0=>?_)
  · ((conv=>whnf);repeat(first|(refine mvT ?_;conv=>whnf)|(refine mvF ?_;conv=>whnf)|(refine cT (by rfl) ?_;conv=>whnf)|(refine cF (by rfl) ?_;conv=>whnf)))
    exact ⟨rfl, Ext.refl _ _⟩
  ((conv=>whnf);repeat(first|(refine mvT ?_;conv=>whnf)|(refine mvF ?_;conv=>whnf)|(refine cT (by rfl) ?_;conv=>whnf)|(refine cF (by rfl) ?_;conv=>whnf)))
  refine Does.mono (maxBrokerRegistrationResponse w) ?_;rintro r1 w1 ⟨rfl, hx1⟩;((conv=>whnf);repeat(first|(refine mvT ?_;conv=>whnf)|(refine mvF ?_;conv=>whnf)|(refine cT (by rfl) ?_;conv=>whnf)|(refine cF (by rfl) ?_;conv=>whnf)))
  refine cI (by rfl) (fun h2=>?_) (fun h2=>?_)
  · ((conv=>whnf);repeat(first|(refine mvT ?_;conv=>whnf)|(refine mvF ?_;conv=>whnf)|(refine cT (by rfl) ?_;conv=>whnf)|(refine cF (by rfl) ?_;conv=>whnf)))
    exact ⟨rfl, hx1⟩
  have hl1 : l.length ≤ 1000 := by have := of_decide_eq_false h2; omega
  ((conv=>whnf);repeat(first|(refine mvT ?_;conv=>whnf)|(refine mvF ?_;conv=>whnf)|(refine cT (by rfl) ?_;conv=>whnf)|(refine cF (by rfl) ?_;conv=>whnf)))
  refine Does.mono (version_does n 4 hn (by omega) w1) ?_;rintro r2 w2 ⟨rfl, rfl⟩;((conv=>whnf);repeat(first|(refine mvT ?_;conv=>whnf)|(refine mvF ?_;conv=>whnf)|(refine cT (by rfl) ?_;conv=>whnf)|(refine cF (by rfl) ?_;conv=>whnf)))
  generalize hvv : ((n % (4 + 1) : Nat) : Int) = v
  have hv0 : 0 ≤ v := by omega
  have hv1 : v < 32768 := by omega
  refine Does.mono (anyBrokerRegistrationResponse (v := v) (hL.ext hx1 fun f => f) (hy.e0 hx1) hv0 hv1 hl1) ?_
  rintro r3 w3 ⟨o3, t3, rfl, hn3, ⟨c3, rfl, hc3⟩, hx3⟩
  have hlen3 := hc3.len
  have hok3 := hc3.ok
  ((conv=>whnf);repeat(first|(refine mvT ?_;conv=>whnf)|(refine mvF ?_;conv=>whnf)|(refine cT (by rfl) ?_;conv=>whnf)|(refine cF (by rfl) ?_;conv=>whnf)))
  intro b4 w4 hb4 ho4 hx4
  ((conv=>whnf);repeat(first|(refine mvT ?_;conv=>whnf)|(refine mvF ?_;conv=>whnf)|(refine cT (by rfl) ?_;conv=>whnf)|(refine cF (by rfl) ?_;conv=>whnf)))
  refine st_all c3 ho4 hlen3 rfl hok3 ?_
  intro w5 ho5 hx5
  have hx35 : Ext nob w3 w5 := hx4.st hx5 hb4
  have hx05 := (hx1.e0 hx3).e0 hx35
  ((conv=>whnf);repeat(first|(refine mvT ?_;conv=>whnf)|(refine mvF ?_;conv=>whnf)|(refine cT (by rfl) ?_;conv=>whnf)|(refine cF (by rfl) ?_;conv=>whnf)))
  refine Does.mono (version_does n 4 hn (by omega) w5) ?_;rintro r6 w6 ⟨rfl, rfl⟩;((conv=>whnf);repeat(first|(refine mvT ?_;conv=>whnf)|(refine mvF ?_;conv=>whnf)|(refine cT (by rfl) ?_;conv=>whnf)|(refine cF (by rfl) ?_;conv=>whnf)))
  rw [hvv]
  refine Does.mono (uanyBrokerRegistrationResponse (v := v) (hL.ext hx05 fun f => f) (hy.e0 hx05) hv0 hv1 hl1) ?_
  rintro r7 w7 ⟨o7, t7, rfl, hn7, ⟨c7, rfl, hc7⟩, hx7⟩
  have hlen7 := hc7.len
  have hok7 := hc7.ok
  ((conv=>whnf);repeat(first|(refine mvT ?_;conv=>whnf)|(refine mvF ?_;conv=>whnf)|(refine cT (by rfl) ?_;conv=>whnf)|(refine cF (by rfl) ?_;conv=>whnf)))
  intro b8 w8 hb8 ho8 hx8
  ((conv=>whnf);repeat(first|(refine mvT ?_;conv=>whnf)|(refine mvF ?_;conv=>whnf)|(refine cT (by rfl) ?_;conv=>whnf)|(refine cF (by rfl) ?_;conv=>whnf)))
  refine st_all c7 ho8 hlen7 rfl hok7 ?_
  intro w9 ho9 hx9
  have hx79 : Ext nob w7 w9 := hx8.st hx9 hb8
  have hx09 := (hx05.e0 hx7).e0 hx79
  have hlg := rdPart_lg (B := 1000) (Nat.le_refl _) 9 v (decide (v ≥ 0)) dBrokerRegistrationResponse hok (by decide) (l, false) hl1
  have hxd : Ext nob w9 w9.drew := ext_drew _
  have ho5d := (ho5.e0 hx7).e0 (hx79.e0 hxd)
  have ho9d := ho9.e0 hxd
  have hc3d := ((hc3.e0 hx35).e0 hx7).e0 (hx79.e0 hxd)
  have hc7d := hc7.e0 (hx79.e0 hxd)
  generalize rdPart 9 v (decide (v ≥ 0)) dBrokerRegistrationResponse (l, false) = R at hn3 hn7 hlg ⊢
  cases hbad : R.2.2 with
  | true =>
    ((conv=>whnf);repeat(first|(refine mvT ?_;conv=>whnf)|(refine mvF ?_;conv=>whnf)|(refine cT (by rfl) ?_;conv=>whnf)|(refine cF (by rfl) ?_;conv=>whnf)))
    refine VD.draw mixed (.q 0 (.q 1 (.q 2 (.q 3 (.q 4 (.q 5 (.q 6 (.q 7 (.q 9 (.eff 8 [9] (.eff 10 [] (.eff 11 [] (.q 12 (.q 13 (.eff 14 [] (.done)))))))))))))))) (by kernel_rfl) ?_;((conv=>whnf);repeat(first|(refine mvT ?_;conv=>whnf)|(refine mvF ?_;conv=>whnf)|(refine cT (by rfl) ?_;conv=>whnf)|(refine cF (by rfl) ?_;conv=>whnf)))
    refine ⟨by (conv => whnf); exact ⟨⟨rfl, rfl⟩, trivial⟩, ?_⟩
    ((conv=>whnf);repeat(first|(refine mvT ?_;conv=>whnf)|(refine mvF ?_;conv=>whnf)|(refine cT (by rfl) ?_;conv=>whnf)|(refine cF (by rfl) ?_;conv=>whnf)))
    exact ⟨rfl, hx09.e0 hxd⟩
  | false =>
    have hlm := (hlg hbad).1
    have hlim := hlm.lim (by decide)
    have hN3 := hn3 hbad
    have hN7 := hn7 hbad
    have hsm3 := Nrm.small hlim hN3
    obtain rfl := Nrm.same hlim hN3 hN7
    ((conv=>whnf);repeat(first|(refine mvT ?_;conv=>whnf)|(refine mvF ?_;conv=>whnf)|(refine cT (by rfl) ?_;conv=>whnf)|(refine cF (by rfl) ?_;conv=>whnf)))
    refine VD.draw mixed (.q 0 (.q 1 (.q 2 (.q 3 (.q 4 (.q 5 (.q 6 (.q 7 (.q 9 (.eff 8 [9] (.eff 10 [] (.eff 11 [] (.q 12 (.q 13 (.eff 14 [] (.done)))))))))))))))) (by kernel_rfl) ?_;((conv=>whnf);repeat(first|(refine mvT ?_;conv=>whnf)|(refine mvF ?_;conv=>whnf)|(refine cT (by rfl) ?_;conv=>whnf)|(refine cF (by rfl) ?_;conv=>whnf)))
    refine ⟨c3, hlen3, ho5d.cells, ?_⟩
    ((conv=>whnf);repeat(first|(refine mvT ?_;conv=>whnf)|(refine mvF ?_;conv=>whnf)|(refine cT (by rfl) ?_;conv=>whnf)|(refine cF (by rfl) ?_;conv=>whnf)))
    refine ⟨c7, hlen7, ho9d.cells, ?_⟩
    ((conv=>whnf);repeat(first|(refine mvT ?_;conv=>whnf)|(refine mvF ?_;conv=>whnf)|(refine cT (by rfl) ?_;conv=>whnf)|(refine cF (by rfl) ?_;conv=>whnf)))
    refine Does.mono (got_does ⟨_, rfl, hc3d⟩ hsm3) ?_
    rintro r10 w10 ⟨hr10, hx10⟩
    refine ⟨by (conv => whnf); exact ⟨⟨c7, hlen7, (ho9d.e0 hx10).cells, rfl, rfl⟩, trivial⟩, ?_⟩
    ((conv=>whnf);repeat(first|(refine mvT ?_;conv=>whnf)|(refine mvF ?_;conv=>whnf)|(refine cT (by rfl) ?_;conv=>whnf)|(refine cF (by rfl) ?_;conv=>whnf)))
    refine Does.mono (got_does ⟨_, rfl, hc7d.e0 hx10⟩ hsm3) ?_
    rintro r11 w11 ⟨hr11, hx11⟩
    ((conv=>whnf);repeat(first|(refine mvT ?_;conv=>whnf)|(refine mvF ?_;conv=>whnf)|(refine cT (by rfl) ?_;conv=>whnf)|(refine cF (by rfl) ?_;conv=>whnf)))
    refine Does.mono (same_does (hr10.e0 hx11) hr11) ?_
    rintro r12 w12 ⟨rfl, hx12⟩
    ((conv=>whnf);repeat(first|(refine mvT ?_;conv=>whnf)|(refine mvF ?_;conv=>whnf)|(refine cT (by rfl) ?_;conv=>whnf)|(refine cF (by rfl) ?_;conv=>whnf)))
    exact ⟨rfl, (((hx09.e0 hxd).e0 hx10).e0 hx11).e0 hx12⟩
end Go.Proofs.YtmmieooipcfbiabDoorR.K
