/- AlterReplicaLogDirsResponse is read and told. -/
import Derived.Test.YtmmieooipcfbiabDoorRU7
import Derived.Test.YtmmieooipcfbiabDoorRV28
import Derived.Test.YtmmieooipcfbiabDoorRGversion
set_option linter.unusedVariables false
set_option linter.unusedSimpArgs false
namespace Go.Proofs.YtmmieooipcfbiabDoorR.K
open Go
set_option maxHeartbeats 4000000
set_option maxRecDepth 100000

theorem tgAlterReplicaLogDirsResponseTopicPartition : TellsT 101 := by
  intro w N bt T lv bv F u x hI hN hbt hu hk hx hxl
  obtain ⟨uv, ho, hT⟩ := hI
  obtain ⟨av, cv, rfl, _⟩ := hx.view
  obtain ⟨au, nu, cu, rfl⟩ := hT.one
  refine Does.go (X := X) (l := [_, _, _]) Tryd.func101 rfl (by kernel_rfl) (by kernel_rfl) _ rfl ?_
  ((conv=>whnf);repeat(first|(refine mvT ?_;conv=>whnf)|(refine mvF ?_;conv=>whnf)|(refine cT (by rfl) ?_;conv=>whnf)|(refine cF (by rfl) ?_;conv=>whnf)))
  refine VD.draw mixed (.q 0 (.q 1 (.q 2 (.q 3 (.eff 4 [1] (.q 5 (.eff 6 [1] (.eff 7 [] (.q 8 (.eff 9 [] (.done))))))))))) (by kernel_rfl) ?_;((conv=>whnf);repeat(first|(refine mvT ?_;conv=>whnf)|(refine mvF ?_;conv=>whnf)|(refine cT (by rfl) ?_;conv=>whnf)|(refine cF (by rfl) ?_;conv=>whnf)))
  have hxd : Ext nob w w.drew := ext_drew _
  refine ldS ((ho.e0 hxd).cell rfl) ?_;((conv=>whnf);repeat(first|(refine mvT ?_;conv=>whnf)|(refine mvF ?_;conv=>whnf)|(refine cT (by rfl) ?_;conv=>whnf)|(refine cF (by rfl) ?_;conv=>whnf)))
  refine app_bytes rfl rfl (OB.nil w.drew w.drew.heap.size) (hx.e0 hxd).src rfl (by simp only [List.length_nil]; omega) (Nat.le_refl _) ?_
  intro v3 w3 h3 hx3 _ _
  rw [List.nil_append] at h3
  have hx3 : Ext nob w w3 := hxd.e0 (hx3.mono fun k _ h => by simp [Value.ownBlock] at h)
  obtain ⟨a3, c3, rfl, _⟩ := h3.shape
  refine ⟨by (conv => whnf); exact ⟨⟨_, (ho.e0 hx3).cell rfl, rfl, rfl⟩, trivial⟩, ?_⟩
  ((conv=>whnf);repeat(first|(refine mvT ?_;conv=>whnf)|(refine mvF ?_;conv=>whnf)|(refine cT (by rfl) ?_;conv=>whnf)|(refine cF (by rfl) ?_;conv=>whnf)))
  intro b4 w4 hb4 ho4 hx4
  have ho4 : Own w4 b4 TGT [.int .u32 (x.1 : Int), .slice a3 x.2.length c3] := ho4
  have hx04 := hx3.e0 hx4
  refine ⟨by (conv => whnf); exact ⟨⟨_, (ho.e0 hx04).cell rfl, rfl, rfl⟩, trivial⟩, ?_⟩
  ((conv=>whnf);repeat(first|(refine mvT ?_;conv=>whnf)|(refine mvF ?_;conv=>whnf)|(refine cT (by rfl) ?_;conv=>whnf)|(refine cF (by rfl) ?_;conv=>whnf)))
  have hs3 := hx3.size
  have hown : ∀ k, (Value.slice au nu cu).ownBlock = some k → N ≤ k ∧ k < w.heap.size := fun k hk => by
    obtain ⟨ls, h1, _⟩ := hT
    exact ⟨h1.blk k hk, h1.own.lt k hk⟩
  have hwd : w.drew.heap.size = w.heap.size := rfl
  refine OTn.app (hT.ext hx04 fun _ _ _ f => f) rfl ho4 rfl rfl rfl hu (by decide) (Nat.le_trans hN hx04.size) hk ((h3.e0 hx4).bytes fun k hk => ⟨by omega, fun e => by have := hown k e; omega⟩) ?_
  intro v5 w5 hT5 hx5
  obtain ⟨a5, n5, c5, rfl⟩ := hT5.one
  have hob := (ho.e0 hx04).ext hx5 fun h => by have := hown bt h; omega
  ((conv=>whnf);repeat(first|(refine mvT ?_;conv=>whnf)|(refine mvF ?_;conv=>whnf)|(refine cT (by rfl) ?_;conv=>whnf)|(refine cF (by rfl) ?_;conv=>whnf)))
  refine st_cell (o := 4) (v := .slice a5 n5 c5) hob rfl (by omega) rfl (by simp) rfl ?_
  intro w6 ho6 hx6
  ((conv=>whnf);repeat(first|(refine mvT ?_;conv=>whnf)|(refine mvF ?_;conv=>whnf)|(refine cT (by rfl) ?_;conv=>whnf)|(refine cF (by rfl) ?_;conv=>whnf)))
  refine ⟨⟨_, ho6, hT5.ext hx6 fun k _ h1 h2 => by omega⟩, ?_⟩
  refine (hx04.mono fun _ _ f => f.elim).trans ((hx5.mono (M' := fun j => j = bt ∨ N ≤ j) fun k _ h => .inr (hown k h).1).trans hx6 fun k _ h => .inl h) fun _ _ h => h
theorem tellAlterReplicaLogDirsResponseTopicPartition {w0 : World} {F : Nat → Prop} {q o : Nat} {cs : List Value} {t : T} (hq : Cells w0 q o cs) (hQ : QPart true 7 dAlterReplicaLogDirsResponseTopicPartition ⟨w0, F⟩ cs t) (hlim : LimT t) :
    Does X.P 80 #[.pointer (some ⟨q, o, none⟩)] w0 fun r w' => ∃ t', Nrm t t' ∧ Tr w' (fun k => w0.heap.size ≤ k) r t' ∧ Ext nob w0 w' := by
  obtain ⟨_, _, u_, m, rfl, rfl, hA0, hm⟩ := iP hQ
  clear hQ
  obtain ⟨cc0, _, x0, _, rfl, rfl, h0, hA1⟩ := iA hA0
  obtain ⟨n0, hn0, rfl, rfl⟩ : ∃ n, IntKind.i32.wrap n = n ∧ cc0 = [.int .i32 n] ∧ x0 = numT n := h0
  obtain ⟨cc1, _, x1, _, rfl, rfl, h1, hA2⟩ := iA hA1
  obtain ⟨n1, hn1, rfl, rfl⟩ : ∃ n, IntKind.i16.wrap n = n ∧ cc1 = [.int .i16 n] ∧ x1 = numT n := h1
  obtain ⟨rfl, rfl⟩ := hA2
  cases hlim
  rename_i hU hKU hDU hLs hu0 hs0 hd0
  have hq : Cells w0 q o [.int .i32 n0, .int .i16 n1, m] := hq
  have hw0 : IntKind.i64.wrap n0 = n0 := by have := hLs (numT n0) (by simp); cases this; assumption
  have hw1 : IntKind.i64.wrap n1 = n1 := by have := hLs (numT n1) (by simp); cases this; assumption
  refine Does.go (X := X) (l := [_]) Tryd.func80 rfl (by kernel_rfl) (by kernel_rfl) _ rfl ?_
  ((conv=>whnf);repeat(first|(refine mvT ?_;conv=>whnf)|(refine mvF ?_;conv=>whnf)|(refine cT (by rfl) ?_;conv=>whnf)|(refine cF (by rfl) ?_;conv=>whnf)))
  intro b2 w1 hb2 ho2 hx1
  ((conv=>whnf);repeat(first|(refine mvT ?_;conv=>whnf)|(refine mvF ?_;conv=>whnf)|(refine cT (by rfl) ?_;conv=>whnf)|(refine cF (by rfl) ?_;conv=>whnf)))
  refine ⟨⟨by decide, by decide, by decide, by decide⟩, ⟨by decide, rfl⟩, ?_⟩
  intro bl w2 hbl hol hx2
  ((conv=>whnf);repeat(first|(refine mvT ?_;conv=>whnf)|(refine mvF ?_;conv=>whnf)|(refine cT (by rfl) ?_;conv=>whnf)|(refine cF (by rfl) ?_;conv=>whnf)))
  intro bt w3 hbt hot hx3
  ((conv=>whnf);repeat(first|(refine mvT ?_;conv=>whnf)|(refine mvF ?_;conv=>whnf)|(refine cT (by rfl) ?_;conv=>whnf)|(refine cF (by rfl) ?_;conv=>whnf)))
  have hzz : w0.heap.size ≤ w1.heap.size := hx1.size
  have H := (((Sg.start w0).push hx1 ho2 hb2).push hx2 hol hbl).push hx3 hot hbt
  refine Sg.st (A := []) (o' := 0) (m := [.int .i64 0, .slice none 0 0, .bool false, .slice (some ⟨bl, 0, none⟩) 2 2, .slice none 0 0]) H rfl (Nat.le_of_ble_eq_true rfl) rfl ?_
  clear H hot hol ho2 hx1 hx2 hx3
  intro w H
  obtain ⟨Tt, Tl, T2, H⟩ : ∃ Tt Tl T2, Sg w0 [(bt, Tt, [.int .i64 0, .slice none 0 0, .bool false, .slice (some ⟨bl, 0, none⟩) 2 2, .slice none 0 0]), (bl, Tl, [.int .i64 0, .slice none 0 0, .bool false, .slice none 0 0, .slice none 0 0, .int .i64 0, .slice none 0 0, .bool false, .slice none 0 0, .slice none 0 0]), (b2, T2, [.int .i64 0, .slice none 0 0, .bool false, .slice none 0 0, .slice none 0 0])] (fun _ => True) w := ⟨_, _, _, H⟩
  have hb2w : w0.heap.size ≤ b2 := hb2
  have hblw : w0.heap.size ≤ bl := by omega
  have hbtw : w0.heap.size ≤ bt := by have := H.dis.1; exact this
  ((conv=>whnf);repeat(first|(refine mvT ?_;conv=>whnf)|(refine mvF ?_;conv=>whnf)|(refine cT (by rfl) ?_;conv=>whnf)|(refine cF (by rfl) ?_;conv=>whnf)))
  refine VD.draw mixed (.q 0 (.q 1 (.q 2 (.q 3 (.q 4 (.q 5 (.q 6 (.q 7 (.q 8 (.eff 9 [] (.done))))))))))) (by kernel_rfl) ?_;((conv=>whnf);repeat(first|(refine mvT ?_;conv=>whnf)|(refine mvF ?_;conv=>whnf)|(refine cT (by rfl) ?_;conv=>whnf)|(refine cF (by rfl) ?_;conv=>whnf)))
  replace H := H.e0 (ext_drew _)
  refine ldS ((Sg.at (A := []) H).cell rfl) ?_;((conv=>whnf);repeat(first|(refine mvT ?_;conv=>whnf)|(refine mvF ?_;conv=>whnf)|(refine cT (by rfl) ?_;conv=>whnf)|(refine cF (by rfl) ?_;conv=>whnf)))
  refine ⟨_, ld ((hq.e0 H.ext).cell (j := 0) rfl) (by simp), ?_⟩
  ((conv=>whnf);repeat(first|(refine mvT ?_;conv=>whnf)|(refine mvF ?_;conv=>whnf)|(refine cT (by rfl) ?_;conv=>whnf)|(refine cF (by rfl) ?_;conv=>whnf)))
  refine ⟨bl, 0, rfl, ⟨by omega, by omega⟩, ?_⟩
  ((conv=>whnf);repeat(first|(refine mvT ?_;conv=>whnf)|(refine mvF ?_;conv=>whnf)|(refine cT (by rfl) ?_;conv=>whnf)|(refine cF (by rfl) ?_;conv=>whnf)))
  refine Sg.st (A := [_]) (o' := 0) (m := [.int .i64 (IntKind.i64.wrap n0), .slice none 0 0, .bool false, .slice none 0 0, .slice none 0 0]) H rfl (Nat.le_of_ble_eq_true rfl) (rfl) ?_
  clear H
  intro w H
  rw [hw0] at H
  replace H : Sg w0 [(bt, Tt, [.int .i64 0, .slice none 0 0, .bool false, .slice (some ⟨bl, 0, none⟩) 2 2, .slice none 0 0]), (bl, Tl, [.int .i64 n0, .slice none 0 0, .bool false, .slice none 0 0, .slice none 0 0, .int .i64 0, .slice none 0 0, .bool false, .slice none 0 0, .slice none 0 0]), (b2, T2, [.int .i64 0, .slice none 0 0, .bool false, .slice none 0 0, .slice none 0 0])] (fun _ => True) w := H
  ((conv=>whnf);repeat(first|(refine mvT ?_;conv=>whnf)|(refine mvF ?_;conv=>whnf)|(refine cT (by rfl) ?_;conv=>whnf)|(refine cF (by rfl) ?_;conv=>whnf)))
  refine VD.draw mixed (.q 0 (.q 1 (.q 2 (.q 3 (.q 4 (.q 5 (.q 6 (.q 7 (.q 8 (.eff 9 [] (.done))))))))))) (by kernel_rfl) ?_;((conv=>whnf);repeat(first|(refine mvT ?_;conv=>whnf)|(refine mvF ?_;conv=>whnf)|(refine cT (by rfl) ?_;conv=>whnf)|(refine cF (by rfl) ?_;conv=>whnf)))
  replace H := H.e0 (ext_drew _)
  refine ldS ((Sg.at (A := []) H).cell rfl) ?_;((conv=>whnf);repeat(first|(refine mvT ?_;conv=>whnf)|(refine mvF ?_;conv=>whnf)|(refine cT (by rfl) ?_;conv=>whnf)|(refine cF (by rfl) ?_;conv=>whnf)))
  refine ⟨_, ld ((hq.e0 H.ext).cell (j := 1) rfl) (by simp), ?_⟩
  ((conv=>whnf);repeat(first|(refine mvT ?_;conv=>whnf)|(refine mvF ?_;conv=>whnf)|(refine cT (by rfl) ?_;conv=>whnf)|(refine cF (by rfl) ?_;conv=>whnf)))
  refine ⟨bl, 0, rfl, ⟨by omega, by omega⟩, ?_⟩
  ((conv=>whnf);repeat(first|(refine mvT ?_;conv=>whnf)|(refine mvF ?_;conv=>whnf)|(refine cT (by rfl) ?_;conv=>whnf)|(refine cF (by rfl) ?_;conv=>whnf)))
  refine Sg.st (A := [_]) (o' := 5) (m := [.int .i64 (IntKind.i64.wrap n1), .slice none 0 0, .bool false, .slice none 0 0, .slice none 0 0]) H rfl (Nat.le_of_ble_eq_true rfl) (rfl) ?_
  clear H
  intro w H
  rw [hw1] at H
  replace H : Sg w0 [(bt, Tt, [.int .i64 0, .slice none 0 0, .bool false, .slice (some ⟨bl, 0, none⟩) 2 2, .slice none 0 0]), (bl, Tl, [.int .i64 n0, .slice none 0 0, .bool false, .slice none 0 0, .slice none 0 0, .int .i64 n1, .slice none 0 0, .bool false, .slice none 0 0, .slice none 0 0]), (b2, T2, [.int .i64 0, .slice none 0 0, .bool false, .slice none 0 0, .slice none 0 0])] (fun _ => True) w := H
  ((conv=>whnf);repeat(first|(refine mvT ?_;conv=>whnf)|(refine mvF ?_;conv=>whnf)|(refine cT (by rfl) ?_;conv=>whnf)|(refine cF (by rfl) ?_;conv=>whnf)))
  have hql : q < w0.heap.size := World.block_lt_of_cell? w0 _ (hq.cell (j := 0) rfl)
  have hm2 : TagsR w (fun k => F k ∧ k < w0.heap.size) m u_ := (hm.mono (F' := fun k => F k ∧ k < w0.heap.size) fun k h1 h2 => ⟨h2, h1⟩).ext H.ext fun _ _ _ f => f
  refine Does.mono (EachT tgAlterReplicaLogDirsResponseTopicPartition ((hq.e0 H.ext).cell (j := 2) rfl) hm2 hd0 hu0 hs0 (Sg.at (A := []) H) (by omega) (fun k _ h e => by have := h.2; omega)) ?_
  rintro r w2 ⟨u', uv, hperm, hpw, hob, hT, hxe⟩
  have hLlt := H.own.lt
  have hw02 := H.ext.size
  have H2 := Sg.up (A := []) H hob hxe
  obtain ⟨auv, nuv, cuv, rfl⟩ := hT.one
  have H := H2.add (Q := fun w => TgsR w (fun k => w0.heap.size ≤ k) (.slice auv nuv cuv) u') fun w3 x => (hT.ext x fun k hk h1 h2 => by
    have h3 : k < w.heap.size := hLlt k (by rcases inL3 h2 with h | h | h <;> subst h <;> simp [inL])
    omega).tgs fun k hk => by omega
  clear H2
  ((conv=>whnf);repeat(first|(refine mvT ?_;conv=>whnf)|(refine mvF ?_;conv=>whnf)|(refine cT (by rfl) ?_;conv=>whnf)|(refine cF (by rfl) ?_;conv=>whnf)))
  refine ldS ((Sg.at (A := []) H).cell rfl) ?_;((conv=>whnf);repeat(first|(refine mvT ?_;conv=>whnf)|(refine mvF ?_;conv=>whnf)|(refine cT (by rfl) ?_;conv=>whnf)|(refine cF (by rfl) ?_;conv=>whnf)))
  refine Does.mono (sorted_does H.now.1 hpw (by rw [hperm.length_eq]; exact hu0)) ?_
  rintro r w3 hx3
  replace H := H.e0 hx3
  ((conv=>whnf);repeat(first|(refine mvT ?_;conv=>whnf)|(refine mvF ?_;conv=>whnf)|(refine cT (by rfl) ?_;conv=>whnf)|(refine cF (by rfl) ?_;conv=>whnf)))
  refine ⟨_, rfl, (Sg.at (A := []) H).cells, ?_⟩
  ((conv=>whnf);repeat(first|(refine mvT ?_;conv=>whnf)|(refine mvF ?_;conv=>whnf)|(refine cT (by rfl) ?_;conv=>whnf)|(refine cF (by rfl) ?_;conv=>whnf)))
  refine Sg.st (A := [_, _]) (o' := 0) (m := [.int .i64 0, .slice none 0 0, .bool false, .slice (some ⟨bl, 0, none⟩) 2 2, .slice auv nuv cuv]) H rfl (Nat.le_of_ble_eq_true rfl) rfl ?_
  clear H
  intro w H
  ((conv=>whnf);repeat(first|(refine mvT ?_;conv=>whnf)|(refine mvF ?_;conv=>whnf)|(refine cT (by rfl) ?_;conv=>whnf)|(refine cF (by rfl) ?_;conv=>whnf)))
  refine ⟨_, rfl, (Sg.at (A := [_, _]) H).cells, ?_⟩
  have hP := H.now
  have hbl := Sg.at (A := [_]) H
  refine ⟨.mk 0 [] false [numT n0, numT n1] u', ?_, ⟨_, rfl, .mk 0 [] false [numT n0, numT n1] u' _ _ _ [[.int .i64 n0, .slice none 0 0, .bool false, .slice none 0 0, .slice none 0 0], [.int .i64 n1, .slice none 0 0, .bool false, .slice none 0 0, .slice none 0 0]] rfl (Bytes.nil _ _) (rows_sl hbl (by simp) rfl (by rw [maxLen_eq]; decide) hblw) rfl ?_ hP.1⟩, H.ext⟩
  · refine .mk _ _ _ _ _ _ _ rfl ?_ hperm hpw
    intro i x y hx hy
    match i, hx, hy with
    | 0, hx, hy => simp only [List.getElem?_cons_succ, List.getElem?_cons_zero, Option.some.injEq] at hx hy; subst hx; subst hy; exact Nrm.leaf _ _ _
    | 1, hx, hy => simp only [List.getElem?_cons_succ, List.getElem?_cons_zero, Option.some.injEq] at hx hy; subst hx; subst hy; exact Nrm.leaf _ _ _
  · intro i x y hx hy
    match i, hx, hy with
    | 0, hx, hy => simp only [List.getElem?_cons_succ, List.getElem?_cons_zero, Option.some.injEq] at hx hy; subst hx; subst hy; exact TrC.leaf hw0 (Bytes.nil _ _)
    | 1, hx, hy => simp only [List.getElem?_cons_succ, List.getElem?_cons_zero, Option.some.injEq] at hx hy; subst hx; subst hy; exact TrC.leaf hw1 (Bytes.nil _ _)
theorem tgAlterReplicaLogDirsResponseTopic : TellsT 81 := by
  intro w N bt T lv bv F u x hI hN hbt hu hk hx hxl
  obtain ⟨uv, ho, hT⟩ := hI
  obtain ⟨av, cv, rfl, _⟩ := hx.view
  obtain ⟨au, nu, cu, rfl⟩ := hT.one
  refine Does.go (X := X) (l := [_, _, _]) Tryd.func81 rfl (by kernel_rfl) (by kernel_rfl) _ rfl ?_
  ((conv=>whnf);repeat(first|(refine mvT ?_;conv=>whnf)|(refine mvF ?_;conv=>whnf)|(refine cT (by rfl) ?_;conv=>whnf)|(refine cF (by rfl) ?_;conv=>whnf)))
  refine VD.draw mixed (.q 0 (.q 1 (.q 2 (.q 3 (.eff 4 [1] (.q 5 (.eff 6 [1] (.eff 7 [] (.q 8 (.eff 9 [] (.done))))))))))) (by kernel_rfl) ?_;((conv=>whnf);repeat(first|(refine mvT ?_;conv=>whnf)|(refine mvF ?_;conv=>whnf)|(refine cT (by rfl) ?_;conv=>whnf)|(refine cF (by rfl) ?_;conv=>whnf)))
  have hxd : Ext nob w w.drew := ext_drew _
  refine ldS ((ho.e0 hxd).cell rfl) ?_;((conv=>whnf);repeat(first|(refine mvT ?_;conv=>whnf)|(refine mvF ?_;conv=>whnf)|(refine cT (by rfl) ?_;conv=>whnf)|(refine cF (by rfl) ?_;conv=>whnf)))
  refine app_bytes rfl rfl (OB.nil w.drew w.drew.heap.size) (hx.e0 hxd).src rfl (by simp only [List.length_nil]; omega) (Nat.le_refl _) ?_
  intro v3 w3 h3 hx3 _ _
  rw [List.nil_append] at h3
  have hx3 : Ext nob w w3 := hxd.e0 (hx3.mono fun k _ h => by simp [Value.ownBlock] at h)
  obtain ⟨a3, c3, rfl, _⟩ := h3.shape
  refine ⟨by (conv => whnf); exact ⟨⟨_, (ho.e0 hx3).cell rfl, rfl, rfl⟩, trivial⟩, ?_⟩
  ((conv=>whnf);repeat(first|(refine mvT ?_;conv=>whnf)|(refine mvF ?_;conv=>whnf)|(refine cT (by rfl) ?_;conv=>whnf)|(refine cF (by rfl) ?_;conv=>whnf)))
  intro b4 w4 hb4 ho4 hx4
  have ho4 : Own w4 b4 TGT [.int .u32 (x.1 : Int), .slice a3 x.2.length c3] := ho4
  have hx04 := hx3.e0 hx4
  refine ⟨by (conv => whnf); exact ⟨⟨_, (ho.e0 hx04).cell rfl, rfl, rfl⟩, trivial⟩, ?_⟩
  ((conv=>whnf);repeat(first|(refine mvT ?_;conv=>whnf)|(refine mvF ?_;conv=>whnf)|(refine cT (by rfl) ?_;conv=>whnf)|(refine cF (by rfl) ?_;conv=>whnf)))
  have hs3 := hx3.size
  have hown : ∀ k, (Value.slice au nu cu).ownBlock = some k → N ≤ k ∧ k < w.heap.size := fun k hk => by
    obtain ⟨ls, h1, _⟩ := hT
    exact ⟨h1.blk k hk, h1.own.lt k hk⟩
  have hwd : w.drew.heap.size = w.heap.size := rfl
  refine OTn.app (hT.ext hx04 fun _ _ _ f => f) rfl ho4 rfl rfl rfl hu (by decide) (Nat.le_trans hN hx04.size) hk ((h3.e0 hx4).bytes fun k hk => ⟨by omega, fun e => by have := hown k e; omega⟩) ?_
  intro v5 w5 hT5 hx5
  obtain ⟨a5, n5, c5, rfl⟩ := hT5.one
  have hob := (ho.e0 hx04).ext hx5 fun h => by have := hown bt h; omega
  ((conv=>whnf);repeat(first|(refine mvT ?_;conv=>whnf)|(refine mvF ?_;conv=>whnf)|(refine cT (by rfl) ?_;conv=>whnf)|(refine cF (by rfl) ?_;conv=>whnf)))
  refine st_cell (o := 4) (v := .slice a5 n5 c5) hob rfl (by omega) rfl (by simp) rfl ?_
  intro w6 ho6 hx6
  ((conv=>whnf);repeat(first|(refine mvT ?_;conv=>whnf)|(refine mvF ?_;conv=>whnf)|(refine cT (by rfl) ?_;conv=>whnf)|(refine cF (by rfl) ?_;conv=>whnf)))
  refine ⟨⟨_, ho6, hT5.ext hx6 fun k _ h1 h2 => by omega⟩, ?_⟩
  refine (hx04.mono fun _ _ f => f.elim).trans ((hx5.mono (M' := fun j => j = bt ∨ N ≤ j) fun k _ h => .inr (hown k h).1).trans hx6 fun k _ h => .inl h) fun _ _ h => h
theorem tellAlterReplicaLogDirsResponseTopic {w0 : World} {F : Nat → Prop} {q o : Nat} {cs : List Value} {t : T} (hq : Cells w0 q o cs) (hQ : QPart true 8 dAlterReplicaLogDirsResponseTopic ⟨w0, F⟩ cs t) (hlim : LimT t) :
    Does X.P 57 #[.pointer (some ⟨q, o, none⟩)] w0 fun r w' => ∃ t', Nrm t t' ∧ Tr w' (fun k => w0.heap.size ≤ k) r t' ∧ Ext nob w0 w' := by
  obtain ⟨_, _, u_, m, rfl, rfl, hA0, hm⟩ := iP hQ
  clear hQ
  obtain ⟨cc0, _, x0, _, rfl, rfl, h0, hA1⟩ := iA hA0
  obtain ⟨s0, rfl, rfl⟩ := iF8 (by decide) h0
  obtain ⟨cc1, _, x1, _, rfl, rfl, h1, hA2⟩ := iA hA1
  obtain ⟨c1, nl1, l1, rfl, hnl1, rfl, hc1⟩ : ∃ c nl l, cc1 = [c] ∧ (nl = true → l = []) ∧ x1 = .mk 0 [] nl l [] ∧ ListR true (elZ true 7 10 dAlterReplicaLogDirsResponseTopicPartition) (elQ true 7 10 dAlterReplicaLogDirsResponseTopicPartition ⟨w0, F⟩) w0 F c x1 := h1
  obtain ⟨rfl, rfl⟩ := hA2
  cases hlim
  rename_i hU hKU hDU hLs hu0 hs0 hd0
  have hq : Cells w0 q o [str s0, c1, m] := hq
  obtain ⟨a1, k1, ls1, rfl, hk1, hll1, hnn1, hcl1, hrl1⟩ := hc1.view
  refine Does.go (X := X) (l := [_]) Tryd.func57 rfl (by kernel_rfl) (by kernel_rfl) _ rfl ?_
  ((conv=>whnf);repeat(first|(refine mvT ?_;conv=>whnf)|(refine mvF ?_;conv=>whnf)|(refine cT (by rfl) ?_;conv=>whnf)|(refine cF (by rfl) ?_;conv=>whnf)))
  intro b2 w1 hb2 ho2 hx1
  ((conv=>whnf);repeat(first|(refine mvT ?_;conv=>whnf)|(refine mvF ?_;conv=>whnf)|(refine cT (by rfl) ?_;conv=>whnf)|(refine cF (by rfl) ?_;conv=>whnf)))
  refine ⟨⟨by decide, by decide, by decide, by decide⟩, ⟨by decide, rfl⟩, ?_⟩
  intro bl w2 hbl hol hx2
  ((conv=>whnf);repeat(first|(refine mvT ?_;conv=>whnf)|(refine mvF ?_;conv=>whnf)|(refine cT (by rfl) ?_;conv=>whnf)|(refine cF (by rfl) ?_;conv=>whnf)))
  intro bt w3 hbt hot hx3
  ((conv=>whnf);repeat(first|(refine mvT ?_;conv=>whnf)|(refine mvF ?_;conv=>whnf)|(refine cT (by rfl) ?_;conv=>whnf)|(refine cF (by rfl) ?_;conv=>whnf)))
  have hzz : w0.heap.size ≤ w1.heap.size := hx1.size
  have H := (((Sg.start w0).push hx1 ho2 hb2).push hx2 hol hbl).push hx3 hot hbt
  refine Sg.st (A := []) (o' := 0) (m := [.int .i64 0, .slice none 0 0, .bool false, .slice (some ⟨bl, 0, none⟩) 2 2, .slice none 0 0]) H rfl (Nat.le_of_ble_eq_true rfl) rfl ?_
  clear H hot hol ho2 hx1 hx2 hx3
  intro w H
  obtain ⟨Tt, Tl, T2, H⟩ : ∃ Tt Tl T2, Sg w0 [(bt, Tt, [.int .i64 0, .slice none 0 0, .bool false, .slice (some ⟨bl, 0, none⟩) 2 2, .slice none 0 0]), (bl, Tl, [.int .i64 0, .slice none 0 0, .bool false, .slice none 0 0, .slice none 0 0, .int .i64 0, .slice none 0 0, .bool false, .slice none 0 0, .slice none 0 0]), (b2, T2, [.int .i64 0, .slice none 0 0, .bool false, .slice none 0 0, .slice none 0 0])] (fun _ => True) w := ⟨_, _, _, H⟩
  have hb2w : w0.heap.size ≤ b2 := hb2
  have hblw : w0.heap.size ≤ bl := by omega
  have hbtw : w0.heap.size ≤ bt := by have := H.dis.1; exact this
  ((conv=>whnf);repeat(first|(refine mvT ?_;conv=>whnf)|(refine mvF ?_;conv=>whnf)|(refine cT (by rfl) ?_;conv=>whnf)|(refine cF (by rfl) ?_;conv=>whnf)))
  refine VD.draw mixed (.q 0 (.q 1 (.q 2 (.q 3 (.q 4 (.q 5 (.eff 6 [1] (.q 7 (.q 8 (.eff 9 [] (.done))))))))))) (by kernel_rfl) ?_;((conv=>whnf);repeat(first|(refine mvT ?_;conv=>whnf)|(refine mvF ?_;conv=>whnf)|(refine cT (by rfl) ?_;conv=>whnf)|(refine cF (by rfl) ?_;conv=>whnf)))
  replace H := H.e0 (ext_drew _)
  refine ldS ((Sg.at (A := []) H).cell rfl) ?_;((conv=>whnf);repeat(first|(refine mvT ?_;conv=>whnf)|(refine mvF ?_;conv=>whnf)|(refine cT (by rfl) ?_;conv=>whnf)|(refine cF (by rfl) ?_;conv=>whnf)))
  refine ⟨_, ld ((hq.e0 H.ext).cell (j := 0) rfl) (by simp), ?_⟩
  ((conv=>whnf);repeat(first|(refine mvT ?_;conv=>whnf)|(refine mvF ?_;conv=>whnf)|(refine cT (by rfl) ?_;conv=>whnf)|(refine cF (by rfl) ?_;conv=>whnf)))
  refine ⟨by show s0.length ≤ maxLen; have := hLs (.mk 0 s0 false [] []) (by simp); cases this; rw [maxLen_eq]; omega, ?_⟩
  intro bb0 cb0 wb0 hbb0 hbl0 hC0 hcp0 hxb0
  have hC0 : Cells wb0 bb0 0 (s0.map bcell) := hC0
  have hcp0 : s0.length ≤ cb0 ∧ cb0 ≤ maxLen := hcp0
  have H := H.keepN (H.e0 hxb0) (trL [.int .i64 0, .slice (some ⟨bb0, 0, none⟩) s0.length cb0, .bool false, .slice none 0 0, .slice none 0 0] (.mk 0 s0 false [] [])) (F := fun k => _ ≤ k) (TrC.leaf rfl (conv_bytes hbb0 hbl0 hC0 hcp0)) fun k h => h
  refine ⟨by (conv => whnf); exact ⟨⟨_, (Sg.at (A := []) H).cell rfl, rfl, rfl⟩, trivial⟩, ?_⟩
  ((conv=>whnf);repeat(first|(refine mvT ?_;conv=>whnf)|(refine mvF ?_;conv=>whnf)|(refine cT (by rfl) ?_;conv=>whnf)|(refine cF (by rfl) ?_;conv=>whnf)))
  refine ⟨bl, 0, rfl, ⟨by omega, by omega⟩, ?_⟩
  ((conv=>whnf);repeat(first|(refine mvT ?_;conv=>whnf)|(refine mvF ?_;conv=>whnf)|(refine cT (by rfl) ?_;conv=>whnf)|(refine cF (by rfl) ?_;conv=>whnf)))
  refine Sg.st (A := [_]) (o' := 0) (m := [.int .i64 0, .slice (some ⟨bb0, 0, none⟩) s0.length cb0, .bool false, .slice none 0 0, .slice none 0 0]) H rfl (Nat.le_of_ble_eq_true rfl) (rfl) ?_
  clear H
  intro w H
  obtain ⟨P0, hP0⟩ : ∃ P : World → Prop, P = fun w => TrC w (fun k => w0.heap.size ≤ k) [.int .i64 0, .slice (some ⟨bb0, 0, none⟩) s0.length cb0, .bool false, .slice none 0 0, .slice none 0 0] (.mk 0 s0 false [] []) ∧ True := ⟨_, rfl⟩
  replace H : Sg w0 [(bt, Tt, [.int .i64 0, .slice none 0 0, .bool false, .slice (some ⟨bl, 0, none⟩) 2 2, .slice none 0 0]), (bl, Tl, [.int .i64 0, .slice (some ⟨bb0, 0, none⟩) s0.length cb0, .bool false, .slice none 0 0, .slice none 0 0, .int .i64 0, .slice none 0 0, .bool false, .slice none 0 0, .slice none 0 0]), (b2, T2, [.int .i64 0, .slice none 0 0, .bool false, .slice none 0 0, .slice none 0 0])] P0 w := by rw [hP0]; exact H
  ((conv=>whnf);repeat(first|(refine mvT ?_;conv=>whnf)|(refine mvF ?_;conv=>whnf)|(refine cT (by rfl) ?_;conv=>whnf)|(refine cF (by rfl) ?_;conv=>whnf)))
  refine VD.draw mixed (.q 0 (.q 1 (.q 2 (.q 3 (.q 4 (.q 5 (.q 6 (.q 7 (.q 8 (.eff 9 [] (.done))))))))))) (by kernel_rfl) ?_;((conv=>whnf);repeat(first|(refine mvT ?_;conv=>whnf)|(refine mvF ?_;conv=>whnf)|(refine cT (by rfl) ?_;conv=>whnf)|(refine cF (by rfl) ?_;conv=>whnf)))
  replace H := H.e0 (ext_drew _)
  refine ldS ((Sg.at (A := []) H).cell rfl) ?_;((conv=>whnf);repeat(first|(refine mvT ?_;conv=>whnf)|(refine mvF ?_;conv=>whnf)|(refine cT (by rfl) ?_;conv=>whnf)|(refine cF (by rfl) ?_;conv=>whnf)))
  refine ⟨_, ld ((hq.e0 H.ext).cell (j := 1) rfl) (by simp), ?_⟩
  ((conv=>whnf);repeat(first|(refine mvT ?_;conv=>whnf)|(refine mvF ?_;conv=>whnf)|(refine cT (by rfl) ?_;conv=>whnf)|(refine cF (by rfl) ?_;conv=>whnf)))
  refine ⟨bl, 0, rfl, ⟨by omega, by omega⟩, ?_⟩
  ((conv=>whnf);repeat(first|(refine mvT ?_;conv=>whnf)|(refine mvF ?_;conv=>whnf)|(refine cT (by rfl) ?_;conv=>whnf)|(refine cF (by rfl) ?_;conv=>whnf)))
  refine Sg.st (A := [_]) (o' := 7) (m := [.bool a1.isNone]) H rfl (Nat.le_of_ble_eq_true rfl) (rfl) ?_
  clear H
  intro w H
  replace H : Sg w0 [(bt, Tt, [.int .i64 0, .slice none 0 0, .bool false, .slice (some ⟨bl, 0, none⟩) 2 2, .slice none 0 0]), (bl, Tl, [.int .i64 0, .slice (some ⟨bb0, 0, none⟩) s0.length cb0, .bool false, .slice none 0 0, .slice none 0 0, .int .i64 0, .slice none 0 0, .bool a1.isNone, .slice none 0 0, .slice none 0 0]), (b2, T2, [.int .i64 0, .slice none 0 0, .bool false, .slice none 0 0, .slice none 0 0])] P0 w := H
  ((conv=>whnf);repeat(first|(refine mvT ?_;conv=>whnf)|(refine mvF ?_;conv=>whnf)|(refine cT (by rfl) ?_;conv=>whnf)|(refine cF (by rfl) ?_;conv=>whnf)))
  refine ⟨_, ld ((hq.e0 H.ext).cell (j := 1) rfl) (by simp), ?_⟩
  ((conv=>whnf);repeat(first|(refine mvT ?_;conv=>whnf)|(refine mvF ?_;conv=>whnf)|(refine cT (by rfl) ?_;conv=>whnf)|(refine cF (by rfl) ?_;conv=>whnf)))
  have hlsT : lsT (.mk 0 [] nl1 l1 []) = l1 := by
    show (if nl1 = true then [] else l1) = l1
    split
    · rename_i e
      exact (hnl1 e).symm
    · rfl
  rw [hlsT] at hll1 hrl1
  obtain ⟨wL, hwL⟩ : ∃ wL, wL = w := ⟨_, rfl⟩
  rw [← hwL] at H ⊢
  have hLlt := H.own.lt
  have hLl : l1.length ≤ 1000000 ∧ ∀ x, x ∈ l1 → LimT x := by
    have := hLs (.mk 0 [] nl1 l1 []) (by simp)
    cases this
    exact ⟨by assumption, by assumption⟩
  have hs0L := H.ext.size
  refine VL.loop (fun i : Nat => [(29, .int .i64 ls1.length), (30, .int .i64 i), (0, .pointer (some ⟨q, o, none⟩)), (2, .pointer (some ⟨b2, 0, none⟩)), (3, .pointer (some ⟨bt, 0, none⟩))])
    (fun i w' => i ≤ ls1.length ∧ Ext (fun k => k = bl ∨ wL.heap.size ≤ k) wL w' ∧ ∃ vl ts, Own w' bl Tl [.int .i64 0, .slice (some ⟨bb0, 0, none⟩) s0.length cb0, .bool false, .slice none 0 0, .slice none 0 0, .int .i64 0, .slice none 0 0, .bool a1.isNone, vl, .slice none 0 0] ∧ OLn w' wL.heap.size vl ts ∧ ts.length = i ∧ ∀ (j : Nat) (x y : T), l1[j]? = some x → ts[j]? = some y → Nrm x y) (fun i => ls1.length - i) 0
    ⟨rfl, rfl, rfl, rfl, rfl, trivial⟩ ⟨Nat.zero_le _, Ext.refl _ _, _, [], Sg.at (A := [_]) H, OLn.nil _ _, rfl, by simp⟩ ?_
  rintro i w ⟨hi, hxL, vl1, ts1, hobl, hT, htl1, hnr1⟩
  ((conv=>whnf);repeat(first|(refine mvT ?_;conv=>whnf)|(refine mvF ?_;conv=>whnf)|(refine cT (by rfl) ?_;conv=>whnf)|(refine cF (by rfl) ?_;conv=>whnf)))
  refine cI (by rfl) (fun h9=>?_) (fun h9=>?_)
  · have hil : i < ls1.length := by have := of_decide_eq_true h9; omega
    obtain ⟨be, oe, rfl, hFe, hbe, hce⟩ := hcl1 i ls1[i] (by simp [hil])
    have hqe := hrl1 i ls1[i] l1[i] (by simp [hil]) (by simp)
    have hlime := hLl.2 l1[i] (List.getElem_mem _)
    have hx0 : Ext nob w0 w := H.ext.trans hxL fun k hk h => by
      rcases h with h | h
      · omega
      · omega
    have hobt : Own w bt Tt [.int .i64 0, .slice none 0 0, .bool false, .slice (some ⟨bl, 0, none⟩) 2 2, .slice none 0 0] := (Sg.at (A := []) H).ext hxL fun h => by
      have := hLlt bt (by simp [inL])
      have h2 := (H.dis.2.1 : ¬ inL _ bt)
      rcases h with h | h
      · exact h2 (by rw [h]; simp [inL])
      · omega
    obtain ⟨av, cv, rfl⟩ := hT.one
    ((conv=>whnf);repeat(first|(refine mvT ?_;conv=>whnf)|(refine mvF ?_;conv=>whnf)|(refine cT (by rfl) ?_;conv=>whnf)|(refine cF (by rfl) ?_;conv=>whnf)))
    refine VD.draw mixed (.eff 0 [] (.alt (.eff 1 [] (.eff 2 [] (.q 3 (.done)))) (.eff 2 [] (.eff 1 [] (.q 3 (.done)))))) (by kernel_rfl) ?_;((conv=>whnf);repeat(first|(refine mvT ?_;conv=>whnf)|(refine mvF ?_;conv=>whnf)|(refine cT (by rfl) ?_;conv=>whnf)|(refine cF (by rfl) ?_;conv=>whnf)))
    intro bb wb hbb hob hxb
    have hxb : Ext nob w wb := (ext_drew w).e0 hxb
    have hbb : w.heap.size ≤ bb := hbb
    ((conv=>whnf);repeat(first|(refine mvT ?_;conv=>whnf)|(refine mvF ?_;conv=>whnf)|(refine cT (by rfl) ?_;conv=>whnf)|(refine cF (by rfl) ?_;conv=>whnf)))
    constructor
    · conv => whnf
      refine st_all [.bool true] hob rfl rfl rfl ?_
      intro wc hoc hxc
      conv => whnf
      refine st_all [.bool false] hoc rfl rfl rfl ?_
      intro wd hod hxd
      ((conv=>whnf);repeat(first|(refine mvT ?_;conv=>whnf)|(refine mvF ?_;conv=>whnf)|(refine cT (by rfl) ?_;conv=>whnf)|(refine cF (by rfl) ?_;conv=>whnf)))
      refine ldS (hod.cell rfl) ?_;((conv=>whnf);repeat(first|(refine mvT ?_;conv=>whnf)|(refine mvF ?_;conv=>whnf)|(refine cT (by rfl) ?_;conv=>whnf)|(refine cF (by rfl) ?_;conv=>whnf)))
      have hxw : Ext nob w wd := (hxb.st hxc hbb).st hxd hbb
      refine VD.draw mixed (.q 0 (.q 1 (.q 2 (.q 3 (.q 4 (.q 5 (.q 6 (.q 7 (.q 8 (.q 9 (.q 10 (.q 11 (.q 12 (.eff 13 [1, 3, 6] (.eff 14 [1, 3, 6] (.eff 15 [1] (.q 16 (.q 17 (.eff 18 [] (.done)))))))))))))))))))) (by kernel_rfl) ?_;((conv=>whnf);repeat(first|(refine mvT ?_;conv=>whnf)|(refine mvF ?_;conv=>whnf)|(refine cT (by rfl) ?_;conv=>whnf)|(refine cF (by rfl) ?_;conv=>whnf)))
      have hxw := hxw.e0 (ext_drew _)
      have hszd := hxw.size
      refine ldS ((hobt.e0 hxw).cell rfl) ?_;((conv=>whnf);repeat(first|(refine mvT ?_;conv=>whnf)|(refine mvF ?_;conv=>whnf)|(refine cT (by rfl) ?_;conv=>whnf)|(refine cF (by rfl) ?_;conv=>whnf)))
      refine ldS ((hobt.e0 hxw).cell rfl) ?_;((conv=>whnf);repeat(first|(refine mvT ?_;conv=>whnf)|(refine mvF ?_;conv=>whnf)|(refine cT (by rfl) ?_;conv=>whnf)|(refine cF (by rfl) ?_;conv=>whnf)))
      refine ⟨bl, 0, rfl, ⟨by omega, by omega⟩, ?_⟩
      ((conv=>whnf);repeat(first|(refine mvT ?_;conv=>whnf)|(refine mvF ?_;conv=>whnf)|(refine cT (by rfl) ?_;conv=>whnf)|(refine cF (by rfl) ?_;conv=>whnf)))
      refine ldS ((hobl.e0 hxw).cell rfl) ?_;((conv=>whnf);repeat(first|(refine mvT ?_;conv=>whnf)|(refine mvF ?_;conv=>whnf)|(refine cT (by rfl) ?_;conv=>whnf)|(refine cF (by rfl) ?_;conv=>whnf)))
      refine ⟨_, ld ((hq.e0 (hx0.e0 hxw)).cell (j := 1) rfl) (by simp), ?_⟩
      ((conv=>whnf);repeat(first|(refine mvT ?_;conv=>whnf)|(refine mvF ?_;conv=>whnf)|(refine cT (by rfl) ?_;conv=>whnf)|(refine cF (by rfl) ?_;conv=>whnf)))
      refine ⟨be, oe, rfl, ⟨by omega, by omega⟩, ?_⟩
      ((conv=>whnf);repeat(first|(refine mvT ?_;conv=>whnf)|(refine mvF ?_;conv=>whnf)|(refine cT (by rfl) ?_;conv=>whnf)|(refine cF (by rfl) ?_;conv=>whnf)))
      refine Does.mono (tellAlterReplicaLogDirsResponseTopicPartition (F := F) (hce.e0 (hx0.e0 hxw)) (QPart_later true 7 _ _ _ w0 _ F F nob hqe (hx0.e0 hxw) fun k _ hf => ⟨fun f => f, hf⟩) hlime) ?_
      rintro r wt ⟨t', hnr', ⟨cr, rfl, htr⟩, hxt⟩
      have hszt := hxw.size
      have hxw := hxw.e0 hxt
      obtain ⟨n', sv', nl', lv', uv', rfl⟩ : ∃ n sv nl lv uv, cr = [.int .i64 n, sv, .bool nl, lv, uv] := by cases htr; exact ⟨_, _, _, _, _, rfl⟩
      refine ⟨by (conv => whnf); exact ⟨⟨_, (hobt.e0 hxw).cell rfl, rfl, rfl⟩, ⟨_, (hobt.e0 hxw).cell rfl, rfl, rfl⟩, ⟨_, (hobl.e0 hxw).cell rfl, rfl, rfl⟩, trivial⟩, ?_⟩
      conv => whnf
      intro bs ws hbs hos hxs
      have hos : Own ws bs TT [.int .i64 n', sv', .bool nl', lv', uv'] := hos
      have hxw := hxw.e0 hxs
      refine ⟨by (conv => whnf); exact ⟨⟨_, (hobt.e0 hxw).cell rfl, rfl, rfl⟩, ⟨_, (hobt.e0 hxw).cell rfl, rfl, rfl⟩, ⟨_, (hobl.e0 hxw).cell rfl, rfl, rfl⟩, trivial⟩, ?_⟩
      conv => whnf
      have hsLw := hxL.size
      refine OLn.app (x := t') (hT.ext hxw fun _ _ _ f => f) rfl hos rfl rfl (by omega) (by decide) (by have := hxw.size; omega) ((htr.ext hxs fun _ _ _ f => f).mono fun k _ hk => ⟨by omega, fun e => by have := hT.own k e; omega⟩) ?_
      intro v5 w5 hT5 hx5 _
      obtain ⟨a5, c5, rfl⟩ := hT5.one
      have hown5 : ∀ k, (Value.slice av ts1.length cv).ownBlock = some k → wL.heap.size ≤ k := fun k hk => (hT.own k hk).1
      have hbt5 := (hobt.e0 hxw).ext hx5 fun h => by have := hown5 bt h; have := hLlt bt (by simp [inL]); omega
      have hbl5 := (hobl.e0 hxw).ext hx5 fun h => by have := hown5 bl h; have := hLlt bl (by simp [inL]); omega
      refine ⟨by (conv => whnf); exact ⟨⟨_, hbt5.cell rfl, rfl, rfl⟩, trivial⟩, ?_⟩
      conv => whnf
      refine ⟨bl, 0, rfl, ⟨by omega, by omega⟩, ?_⟩
      ((conv=>whnf);repeat(first|(refine mvT ?_;conv=>whnf)|(refine mvF ?_;conv=>whnf)|(refine cT (by rfl) ?_;conv=>whnf)|(refine cF (by rfl) ?_;conv=>whnf)))
      refine st_cell (o := 8) (v := .slice a5 (ts1 ++ [t']).length c5) hbl5 rfl rfl rfl (by simp) rfl ?_
      intro w6 ho6 hx6
      ((conv=>whnf);repeat(first|(refine mvT ?_;conv=>whnf)|(refine mvF ?_;conv=>whnf)|(refine cT (by rfl) ?_;conv=>whnf)|(refine cF (by rfl) ?_;conv=>whnf)))
      have hxL6 : Ext (fun k => k = bl ∨ wL.heap.size ≤ k) wL w6 := ((hxL.trans (hxw.mono (M' := nob) fun _ _ f => f) fun k hk f => f.elim).trans hx5 fun k hk h => by have := hown5 k h; omega).trans hx6 fun k hk h => .inl h
      refine ⟨i + 1, ⟨rfl, inc_eq (by omega), rfl, rfl, rfl, trivial⟩, ⟨by omega, hxL6, _, ts1 ++ [t'], ho6, hT5.ext hx6 (fun k _ h1 h2 => by have := hLlt bl (by simp [inL]); omega), by simp [htl1], ?_⟩, by omega⟩
      intro j x y hx hy
      rcases Nat.lt_or_ge j ts1.length with hj | hj
      · rw [List.getElem?_append_left hj] at hy
        exact hnr1 j x y hx hy
      · rw [List.getElem?_append_right hj] at hy
        obtain ⟨e, he⟩ : ∃ e, j - ts1.length = e := ⟨_, rfl⟩
        rw [he] at hy
        cases e with
        | zero =>
          have : j = i := by omega
          subst this
          simp only [List.getElem?_cons_zero, Option.some.injEq] at hy
          subst hy
          rw [List.getElem?_eq_getElem (by omega), Option.some.injEq] at hx
          subst hx
          exact hnr'
        | succ e => simp at hy
    · conv => whnf
      refine st_all [.bool false] hob rfl rfl rfl ?_
      intro wc hoc hxc
      conv => whnf
      refine st_all [.bool true] hoc rfl rfl rfl ?_
      intro wd hod hxd
      ((conv=>whnf);repeat(first|(refine mvT ?_;conv=>whnf)|(refine mvF ?_;conv=>whnf)|(refine cT (by rfl) ?_;conv=>whnf)|(refine cF (by rfl) ?_;conv=>whnf)))
      refine ldS (hod.cell rfl) ?_;((conv=>whnf);repeat(first|(refine mvT ?_;conv=>whnf)|(refine mvF ?_;conv=>whnf)|(refine cT (by rfl) ?_;conv=>whnf)|(refine cF (by rfl) ?_;conv=>whnf)))
      have hxw : Ext nob w wd := (hxb.st hxc hbb).st hxd hbb
      refine VD.draw mixed (.q 0 (.q 1 (.q 2 (.q 3 (.q 4 (.q 5 (.q 6 (.q 7 (.q 8 (.q 9 (.q 10 (.q 12 (.alt (.eff 11 [1, 4] (.eff 13 [1, 4, 8] (.eff 14 [] (.q 15 (.q 16 (.eff 17 [] (.done))))))) (.eff 13 [1, 4, 8] (.eff 11 [1, 4] (.eff 14 [] (.q 15 (.q 16 (.eff 17 [] (.done)))))))))))))))))))) (by kernel_rfl) ?_;((conv=>whnf);repeat(first|(refine mvT ?_;conv=>whnf)|(refine mvF ?_;conv=>whnf)|(refine cT (by rfl) ?_;conv=>whnf)|(refine cF (by rfl) ?_;conv=>whnf)))
      have hxw := hxw.e0 (ext_drew _)
      have hszd := hxw.size
      refine ldS ((hobt.e0 hxw).cell rfl) ?_;((conv=>whnf);repeat(first|(refine mvT ?_;conv=>whnf)|(refine mvF ?_;conv=>whnf)|(refine cT (by rfl) ?_;conv=>whnf)|(refine cF (by rfl) ?_;conv=>whnf)))
      refine ⟨bl, 0, rfl, ⟨by omega, by omega⟩, ?_⟩
      ((conv=>whnf);repeat(first|(refine mvT ?_;conv=>whnf)|(refine mvF ?_;conv=>whnf)|(refine cT (by rfl) ?_;conv=>whnf)|(refine cF (by rfl) ?_;conv=>whnf)))
      refine ldS ((hobl.e0 hxw).cell rfl) ?_;((conv=>whnf);repeat(first|(refine mvT ?_;conv=>whnf)|(refine mvF ?_;conv=>whnf)|(refine cT (by rfl) ?_;conv=>whnf)|(refine cF (by rfl) ?_;conv=>whnf)))
      refine ⟨_, ld ((hq.e0 (hx0.e0 hxw)).cell (j := 1) rfl) (by simp), ?_⟩
      ((conv=>whnf);repeat(first|(refine mvT ?_;conv=>whnf)|(refine mvF ?_;conv=>whnf)|(refine cT (by rfl) ?_;conv=>whnf)|(refine cF (by rfl) ?_;conv=>whnf)))
      refine ⟨be, oe, rfl, ⟨by omega, by omega⟩, ?_⟩
      ((conv=>whnf);repeat(first|(refine mvT ?_;conv=>whnf)|(refine mvF ?_;conv=>whnf)|(refine cT (by rfl) ?_;conv=>whnf)|(refine cF (by rfl) ?_;conv=>whnf)))
      constructor
      · conv => whnf
        refine Does.mono (tellAlterReplicaLogDirsResponseTopicPartition (F := F) (hce.e0 (hx0.e0 hxw)) (QPart_later true 7 _ _ _ w0 _ F F nob hqe (hx0.e0 hxw) fun k _ hf => ⟨fun f => f, hf⟩) hlime) ?_
        rintro r wt ⟨t', hnr', ⟨cr, rfl, htr⟩, hxt⟩
        have hszt := hxw.size
        have hxw := hxw.e0 hxt
        obtain ⟨n', sv', nl', lv', uv', rfl⟩ : ∃ n sv nl lv uv, cr = [.int .i64 n, sv, .bool nl, lv, uv] := by cases htr; exact ⟨_, _, _, _, _, rfl⟩
        refine ⟨by (conv => whnf); exact ⟨⟨_, (hobt.e0 hxw).cell rfl, rfl, rfl⟩, ⟨_, (hobl.e0 hxw).cell rfl, rfl, rfl⟩, trivial⟩, ?_⟩
        conv => whnf
        intro bs ws hbs hos hxs
        have hos : Own ws bs TT [.int .i64 0, .slice none 0 0, .bool false, .slice none 0 0, .slice none 0 0] := hos
        have hxw := hxw.e0 hxs
        refine ⟨by (conv => whnf); exact ⟨⟨_, (hobt.e0 hxw).cell rfl, rfl, rfl⟩, ⟨_, (hobl.e0 hxw).cell rfl, rfl, rfl⟩, ⟨_, (hq.e0 (hx0.e0 hxw)).cell (j := 1) rfl, rfl, rfl⟩, trivial⟩, ?_⟩
        have htrw : TrC ws (fun k => w.heap.size ≤ k ∧ k < ws.heap.size) [.int .i64 n', sv', .bool nl', lv', uv'] t' := ((htr.mono (F' := fun k => w.heap.size ≤ k ∧ k < wt.heap.size) fun k hk h => ⟨by omega, hk⟩).ext hxs fun _ _ _ f => f).mono fun k hk h => ⟨h.1, hk⟩
        conv => whnf
        refine OLn.app (x := .mk 0 [] false [] []) (hT.ext hxw fun _ _ _ f => f) rfl hos rfl rfl (by omega) (by decide) (by have := hxw.size; have := hxL.size; omega) (TrC.leaf rfl (Bytes.nil _ _)) ?_
        intro v5 w5 hT5 hx5 hbk5
        obtain ⟨a5, c5, rfl⟩ := hT5.one
        have hown5 : ∀ k, (Value.slice av ts1.length cv).ownBlock = some k → wL.heap.size ≤ k ∧ k < w.heap.size := fun k hk => hT.own k hk
        have hbl5 := (hobl.e0 hxw).ext hx5 fun h => by have := hown5 bl h; have := hLlt bl (by simp [inL]); omega
        have hblL := hLlt bl (by simp [inL])
        have hsLw := hxL.size
        have hszx := hxw.size
        ((conv=>whnf);repeat(first|(refine mvT ?_;conv=>whnf)|(refine mvF ?_;conv=>whnf)|(refine cT (by rfl) ?_;conv=>whnf)|(refine cF (by rfl) ?_;conv=>whnf)))
        refine ⟨bl, 0, rfl, ⟨by omega, by omega⟩, ?_⟩
        ((conv=>whnf);repeat(first|(refine mvT ?_;conv=>whnf)|(refine mvF ?_;conv=>whnf)|(refine cT (by rfl) ?_;conv=>whnf)|(refine cF (by rfl) ?_;conv=>whnf)))
        refine st_cell (o := 8) (v := .slice a5 (ts1 ++ [T.mk 0 [] false [] []]).length c5) hbl5 rfl rfl rfl (by simp) rfl ?_
        intro w6 ho6 hx6
        ((conv=>whnf);repeat(first|(refine mvT ?_;conv=>whnf)|(refine mvF ?_;conv=>whnf)|(refine cT (by rfl) ?_;conv=>whnf)|(refine cF (by rfl) ?_;conv=>whnf)))
        have hT6 := hT5.ext hx6 (fun k _ h1 h2 => by omega)
        obtain ⟨g, cap, hv, hput⟩ := hT6.last
        injection hv with e1 e2 e3
        subst e1
        subst e3
        have htr6 : TrC w6 (fun k => wL.heap.size ≤ k ∧ (Value.slice (some ⟨g, 0, none⟩) (ts1 ++ [T.mk 0 [] false [] []]).length c5).ownBlock ≠ some k) [.int .i64 n', sv', .bool nl', lv', uv'] t' := by
          refine ((htrw.ext hx5 fun k _ h e => by have := hown5 k e; omega).ext hx6 fun k _ h e => by omega).mono fun k _ h => ⟨by omega, fun e => ?_⟩
          rcases hbk5 with e2 | ⟨q2, e2, hle⟩
          · have := hown5 k (e2 ▸ e); omega
          · rw [e, Option.some.injEq] at e2
            omega
        refine ⟨g, 0, rfl, ⟨by omega, by simp; omega⟩, ?_⟩
        ((conv=>whnf);repeat(first|(refine mvT ?_;conv=>whnf)|(refine mvF ?_;conv=>whnf)|(refine cT (by rfl) ?_;conv=>whnf)|(refine cF (by rfl) ?_;conv=>whnf)))
        refine hput [.int .i64 n', sv', .bool nl', lv', uv'] t' _ _ _ rfl (by simp) htr6 ?_
        intro w7 hT7 hx7
        ((conv=>whnf);repeat(first|(refine mvT ?_;conv=>whnf)|(refine mvF ?_;conv=>whnf)|(refine cT (by rfl) ?_;conv=>whnf)|(refine cF (by rfl) ?_;conv=>whnf)))
        have hgL : wL.heap.size ≤ g := (hT6.own g rfl).1
        have hxL7 : Ext (fun k => k = bl ∨ wL.heap.size ≤ k) wL w7 := (((hxL.trans (hxw.mono (M' := nob) fun _ _ f => f) fun k hk f => f.elim).trans hx5 fun k hk h => by have := hown5 k h; omega).trans hx6 fun k hk h => .inl h).trans hx7 fun k hk h => by omega
        refine ⟨i + 1, ⟨rfl, inc_eq (by omega), rfl, rfl, rfl, trivial⟩, ⟨by omega, hxL7, _, ts1 ++ [t'], ho6.ext hx7 (by omega), hT7, by simp [htl1], ?_⟩, by omega⟩
        intro j x y hx hy
        rcases Nat.lt_or_ge j ts1.length with hj | hj
        · rw [List.getElem?_append_left hj] at hy
          exact hnr1 j x y hx hy
        · rw [List.getElem?_append_right hj] at hy
          obtain ⟨e, he⟩ : ∃ e, j - ts1.length = e := ⟨_, rfl⟩
          rw [he] at hy
          cases e with
          | zero =>
            have : j = i := by omega
            subst this
            simp only [List.getElem?_cons_zero, Option.some.injEq] at hy
            subst hy
            rw [List.getElem?_eq_getElem (by omega), Option.some.injEq] at hx
            subst hx
            exact hnr'
          | succ e => simp at hy
      · conv => whnf
        intro bs ws hbs hos hxs
        have hos : Own ws bs TT [.int .i64 0, .slice none 0 0, .bool false, .slice none 0 0, .slice none 0 0] := hos
        have hxw := hxw.e0 hxs
        refine ⟨by (conv => whnf); exact ⟨⟨_, (hobt.e0 hxw).cell rfl, rfl, rfl⟩, ⟨_, (hobl.e0 hxw).cell rfl, rfl, rfl⟩, ⟨_, (hq.e0 (hx0.e0 hxw)).cell (j := 1) rfl, rfl, rfl⟩, trivial⟩, ?_⟩
        conv => whnf
        refine Does.mono (tellAlterReplicaLogDirsResponseTopicPartition (F := F) (hce.e0 (hx0.e0 hxw)) (QPart_later true 7 _ _ _ w0 _ F F nob hqe (hx0.e0 hxw) fun k _ hf => ⟨fun f => f, hf⟩) hlime) ?_
        rintro r wt ⟨t', hnr', ⟨cr, rfl, htr⟩, hxt⟩
        have hszt := hxw.size
        have hxw := hxw.e0 hxt
        obtain ⟨n', sv', nl', lv', uv', rfl⟩ : ∃ n sv nl lv uv, cr = [.int .i64 n, sv, .bool nl, lv, uv] := by cases htr; exact ⟨_, _, _, _, _, rfl⟩
        refine ⟨by (conv => whnf); exact ⟨⟨_, (hobt.e0 hxw).cell rfl, rfl, rfl⟩, ⟨_, (hobl.e0 hxw).cell rfl, rfl, rfl⟩, trivial⟩, ?_⟩
        have hos := hos.e0 hxt
        have htrw : TrC wt (fun k => w.heap.size ≤ k ∧ k < wt.heap.size) [.int .i64 n', sv', .bool nl', lv', uv'] t' := htr.mono fun k hk h => ⟨by omega, hk⟩
        conv => whnf
        refine OLn.app (x := .mk 0 [] false [] []) (hT.ext hxw fun _ _ _ f => f) rfl hos rfl rfl (by omega) (by decide) (by have := hxw.size; have := hxL.size; omega) (TrC.leaf rfl (Bytes.nil _ _)) ?_
        intro v5 w5 hT5 hx5 hbk5
        obtain ⟨a5, c5, rfl⟩ := hT5.one
        have hown5 : ∀ k, (Value.slice av ts1.length cv).ownBlock = some k → wL.heap.size ≤ k ∧ k < w.heap.size := fun k hk => hT.own k hk
        have hbl5 := (hobl.e0 hxw).ext hx5 fun h => by have := hown5 bl h; have := hLlt bl (by simp [inL]); omega
        have hblL := hLlt bl (by simp [inL])
        have hsLw := hxL.size
        have hszx := hxw.size
        ((conv=>whnf);repeat(first|(refine mvT ?_;conv=>whnf)|(refine mvF ?_;conv=>whnf)|(refine cT (by rfl) ?_;conv=>whnf)|(refine cF (by rfl) ?_;conv=>whnf)))
        refine ⟨bl, 0, rfl, ⟨by omega, by omega⟩, ?_⟩
        ((conv=>whnf);repeat(first|(refine mvT ?_;conv=>whnf)|(refine mvF ?_;conv=>whnf)|(refine cT (by rfl) ?_;conv=>whnf)|(refine cF (by rfl) ?_;conv=>whnf)))
        refine st_cell (o := 8) (v := .slice a5 (ts1 ++ [T.mk 0 [] false [] []]).length c5) hbl5 rfl rfl rfl (by simp) rfl ?_
        intro w6 ho6 hx6
        ((conv=>whnf);repeat(first|(refine mvT ?_;conv=>whnf)|(refine mvF ?_;conv=>whnf)|(refine cT (by rfl) ?_;conv=>whnf)|(refine cF (by rfl) ?_;conv=>whnf)))
        have hT6 := hT5.ext hx6 (fun k _ h1 h2 => by omega)
        obtain ⟨g, cap, hv, hput⟩ := hT6.last
        injection hv with e1 e2 e3
        subst e1
        subst e3
        have htr6 : TrC w6 (fun k => wL.heap.size ≤ k ∧ (Value.slice (some ⟨g, 0, none⟩) (ts1 ++ [T.mk 0 [] false [] []]).length c5).ownBlock ≠ some k) [.int .i64 n', sv', .bool nl', lv', uv'] t' := by
          refine ((htrw.ext hx5 fun k _ h e => by have := hown5 k e; omega).ext hx6 fun k _ h e => by omega).mono fun k _ h => ⟨by omega, fun e => ?_⟩
          rcases hbk5 with e2 | ⟨q2, e2, hle⟩
          · have := hown5 k (e2 ▸ e); omega
          · rw [e, Option.some.injEq] at e2
            omega
        refine ⟨g, 0, rfl, ⟨by omega, by simp; omega⟩, ?_⟩
        ((conv=>whnf);repeat(first|(refine mvT ?_;conv=>whnf)|(refine mvF ?_;conv=>whnf)|(refine cT (by rfl) ?_;conv=>whnf)|(refine cF (by rfl) ?_;conv=>whnf)))
        refine hput [.int .i64 n', sv', .bool nl', lv', uv'] t' _ _ _ rfl (by simp) htr6 ?_
        intro w7 hT7 hx7
        ((conv=>whnf);repeat(first|(refine mvT ?_;conv=>whnf)|(refine mvF ?_;conv=>whnf)|(refine cT (by rfl) ?_;conv=>whnf)|(refine cF (by rfl) ?_;conv=>whnf)))
        have hgL : wL.heap.size ≤ g := (hT6.own g rfl).1
        have hxL7 : Ext (fun k => k = bl ∨ wL.heap.size ≤ k) wL w7 := (((hxL.trans (hxw.mono (M' := nob) fun _ _ f => f) fun k hk f => f.elim).trans hx5 fun k hk h => by have := hown5 k h; omega).trans hx6 fun k hk h => .inl h).trans hx7 fun k hk h => by omega
        refine ⟨i + 1, ⟨rfl, inc_eq (by omega), rfl, rfl, rfl, trivial⟩, ⟨by omega, hxL7, _, ts1 ++ [t'], ho6.ext hx7 (by omega), hT7, by simp [htl1], ?_⟩, by omega⟩
        intro j x y hx hy
        rcases Nat.lt_or_ge j ts1.length with hj | hj
        · rw [List.getElem?_append_left hj] at hy
          exact hnr1 j x y hx hy
        · rw [List.getElem?_append_right hj] at hy
          obtain ⟨e, he⟩ : ∃ e, j - ts1.length = e := ⟨_, rfl⟩
          rw [he] at hy
          cases e with
          | zero =>
            have : j = i := by omega
            subst this
            simp only [List.getElem?_cons_zero, Option.some.injEq] at hy
            subst hy
            rw [List.getElem?_eq_getElem (by omega), Option.some.injEq] at hx
            subst hx
            exact hnr'
          | succ e => simp at hy
  · have hil : i = ls1.length := by have := of_decide_eq_false h9; omega
    have H := Sg.up (A := [_]) H hobl (hxL.mono fun k hk h => by rcases h with h | h; exact h; omega)
    have htl1 : ts1.length = l1.length := by omega
    have hnl : a1.isNone = nl1 := hnn1 rfl
    rw [hnl] at H
    have H := H.add (Q := fun w => TrC w (fun k => w0.heap.size ≤ k) [.int .i64 0, .slice none 0 0, .bool nl1, vl1, .slice none 0 0] (.mk 0 [] nl1 ts1 [])) fun w3 x => (hT.ext x fun k hk h1 h2 => by
      have h3 : k < wL.heap.size := hLlt k (by rcases inL3 h2 with h | h | h <;> subst h <;> simp [inL])
      omega).row fun k hk => by omega
    obtain ⟨P1, hP1⟩ : ∃ P : World → Prop, P = fun w => TrC w (fun k => w0.heap.size ≤ k) [.int .i64 0, .slice none 0 0, .bool nl1, vl1, .slice none 0 0] (.mk 0 [] nl1 ts1 []) ∧ P0 w := ⟨_, rfl⟩
    replace H : Sg w0 [(bt, Tt, [.int .i64 0, .slice none 0 0, .bool false, .slice (some ⟨bl, 0, none⟩) 2 2, .slice none 0 0]), (bl, Tl, [.int .i64 0, .slice (some ⟨bb0, 0, none⟩) s0.length cb0, .bool false, .slice none 0 0, .slice none 0 0, .int .i64 0, .slice none 0 0, .bool nl1, vl1, .slice none 0 0]), (b2, T2, [.int .i64 0, .slice none 0 0, .bool false, .slice none 0 0, .slice none 0 0])] P1 w := by rw [hP1]; exact H
    ((conv=>whnf);repeat(first|(refine mvT ?_;conv=>whnf)|(refine mvF ?_;conv=>whnf)|(refine cT (by rfl) ?_;conv=>whnf)|(refine cF (by rfl) ?_;conv=>whnf)))
    have hql : q < w0.heap.size := World.block_lt_of_cell? w0 _ (hq.cell (j := 0) rfl)
    have hm2 : TagsR w (fun k => F k ∧ k < w0.heap.size) m u_ := (hm.mono (F' := fun k => F k ∧ k < w0.heap.size) fun k h1 h2 => ⟨h2, h1⟩).ext H.ext fun _ _ _ f => f
    refine Does.mono (EachT tgAlterReplicaLogDirsResponseTopic ((hq.e0 H.ext).cell (j := 2) rfl) hm2 hd0 hu0 hs0 (Sg.at (A := []) H) (by omega) (fun k _ h e => by have := h.2; omega)) ?_
    rintro r w2 ⟨u', uv, hperm, hpw, hob, hT, hxe⟩
    have hLlt := H.own.lt
    have hw02 := H.ext.size
    have H2 := Sg.up (A := []) H hob hxe
    obtain ⟨auv, nuv, cuv, rfl⟩ := hT.one
    have H := H2.add (Q := fun w => TgsR w (fun k => w0.heap.size ≤ k) (.slice auv nuv cuv) u') fun w3 x => (hT.ext x fun k hk h1 h2 => by
      have h3 : k < w.heap.size := hLlt k (by rcases inL3 h2 with h | h | h <;> subst h <;> simp [inL])
      omega).tgs fun k hk => by omega
    clear H2
    ((conv=>whnf);repeat(first|(refine mvT ?_;conv=>whnf)|(refine mvF ?_;conv=>whnf)|(refine cT (by rfl) ?_;conv=>whnf)|(refine cF (by rfl) ?_;conv=>whnf)))
    refine ldS ((Sg.at (A := []) H).cell rfl) ?_;((conv=>whnf);repeat(first|(refine mvT ?_;conv=>whnf)|(refine mvF ?_;conv=>whnf)|(refine cT (by rfl) ?_;conv=>whnf)|(refine cF (by rfl) ?_;conv=>whnf)))
    refine Does.mono (sorted_does H.now.1 hpw (by rw [hperm.length_eq]; exact hu0)) ?_
    rintro r w3 hx3
    replace H := H.e0 hx3
    ((conv=>whnf);repeat(first|(refine mvT ?_;conv=>whnf)|(refine mvF ?_;conv=>whnf)|(refine cT (by rfl) ?_;conv=>whnf)|(refine cF (by rfl) ?_;conv=>whnf)))
    refine ⟨_, rfl, (Sg.at (A := []) H).cells, ?_⟩
    ((conv=>whnf);repeat(first|(refine mvT ?_;conv=>whnf)|(refine mvF ?_;conv=>whnf)|(refine cT (by rfl) ?_;conv=>whnf)|(refine cF (by rfl) ?_;conv=>whnf)))
    refine Sg.st (A := [_, _]) (o' := 0) (m := [.int .i64 0, .slice none 0 0, .bool false, .slice (some ⟨bl, 0, none⟩) 2 2, .slice auv nuv cuv]) H rfl (Nat.le_of_ble_eq_true rfl) rfl ?_
    clear H
    intro w H
    ((conv=>whnf);repeat(first|(refine mvT ?_;conv=>whnf)|(refine mvF ?_;conv=>whnf)|(refine cT (by rfl) ?_;conv=>whnf)|(refine cF (by rfl) ?_;conv=>whnf)))
    refine ⟨_, rfl, (Sg.at (A := [_, _]) H).cells, ?_⟩
    have hP := H.now
    rw [hP1, hP0] at hP
    have hbl := Sg.at (A := [_]) H
    refine ⟨.mk 0 [] false [.mk 0 s0 false [] [], .mk 0 [] nl1 ts1 []] u', ?_, ⟨_, rfl, .mk 0 [] false [.mk 0 s0 false [] [], .mk 0 [] nl1 ts1 []] u' _ _ _ [[.int .i64 0, .slice (some ⟨bb0, 0, none⟩) s0.length cb0, .bool false, .slice none 0 0, .slice none 0 0], [.int .i64 0, .slice none 0 0, .bool nl1, vl1, .slice none 0 0]] rfl (Bytes.nil _ _) (rows_sl hbl (by simp) rfl (by rw [maxLen_eq]; decide) hblw) rfl ?_ hP.1⟩, H.ext⟩
    · refine .mk _ _ _ _ _ _ _ rfl ?_ hperm hpw
      intro i x y hx hy
      match i, hx, hy with
      | 0, hx, hy => simp only [List.getElem?_cons_succ, List.getElem?_cons_zero, Option.some.injEq] at hx hy; subst hx; subst hy; exact Nrm.leaf _ _ _
      | 1, hx, hy => simp only [List.getElem?_cons_succ, List.getElem?_cons_zero, Option.some.injEq] at hx hy; subst hx; subst hy; exact .mk _ _ _ _ _ _ _ htl1 hnr1 (List.Perm.refl _) List.Pairwise.nil
    · intro i x y hx hy
      match i, hx, hy with
      | 0, hx, hy => simp only [List.getElem?_cons_succ, List.getElem?_cons_zero, Option.some.injEq] at hx hy; subst hx; subst hy; exact hP.2.2.1
      | 1, hx, hy => simp only [List.getElem?_cons_succ, List.getElem?_cons_zero, Option.some.injEq] at hx hy; subst hx; subst hy; exact hP.2.1
theorem tgAlterReplicaLogDirsResponse : TellsT 58 := by
  intro w N bt T lv bv F u x hI hN hbt hu hk hx hxl
  obtain ⟨uv, ho, hT⟩ := hI
  obtain ⟨av, cv, rfl, _⟩ := hx.view
  obtain ⟨au, nu, cu, rfl⟩ := hT.one
  refine Does.go (X := X) (l := [_, _, _]) Tryd.func58 rfl (by kernel_rfl) (by kernel_rfl) _ rfl ?_
  ((conv=>whnf);repeat(first|(refine mvT ?_;conv=>whnf)|(refine mvF ?_;conv=>whnf)|(refine cT (by rfl) ?_;conv=>whnf)|(refine cF (by rfl) ?_;conv=>whnf)))
  refine VD.draw mixed (.q 0 (.q 1 (.q 2 (.q 3 (.eff 4 [1] (.q 5 (.eff 6 [1] (.eff 7 [] (.q 8 (.eff 9 [] (.done))))))))))) (by kernel_rfl) ?_;((conv=>whnf);repeat(first|(refine mvT ?_;conv=>whnf)|(refine mvF ?_;conv=>whnf)|(refine cT (by rfl) ?_;conv=>whnf)|(refine cF (by rfl) ?_;conv=>whnf)))
  have hxd : Ext nob w w.drew := ext_drew _
  refine ldS ((ho.e0 hxd).cell rfl) ?_;((conv=>whnf);repeat(first|(refine mvT ?_;conv=>whnf)|(refine mvF ?_;conv=>whnf)|(refine cT (by rfl) ?_;conv=>whnf)|(refine cF (by rfl) ?_;conv=>whnf)))
  refine app_bytes rfl rfl (OB.nil w.drew w.drew.heap.size) (hx.e0 hxd).src rfl (by simp only [List.length_nil]; omega) (Nat.le_refl _) ?_
  intro v3 w3 h3 hx3 _ _
  rw [List.nil_append] at h3
  have hx3 : Ext nob w w3 := hxd.e0 (hx3.mono fun k _ h => by simp [Value.ownBlock] at h)
  obtain ⟨a3, c3, rfl, _⟩ := h3.shape
  refine ⟨by (conv => whnf); exact ⟨⟨_, (ho.e0 hx3).cell rfl, rfl, rfl⟩, trivial⟩, ?_⟩
  ((conv=>whnf);repeat(first|(refine mvT ?_;conv=>whnf)|(refine mvF ?_;conv=>whnf)|(refine cT (by rfl) ?_;conv=>whnf)|(refine cF (by rfl) ?_;conv=>whnf)))
  intro b4 w4 hb4 ho4 hx4
  have ho4 : Own w4 b4 TGT [.int .u32 (x.1 : Int), .slice a3 x.2.length c3] := ho4
  have hx04 := hx3.e0 hx4
  refine ⟨by (conv => whnf); exact ⟨⟨_, (ho.e0 hx04).cell rfl, rfl, rfl⟩, trivial⟩, ?_⟩
  ((conv=>whnf);repeat(first|(refine mvT ?_;conv=>whnf)|(refine mvF ?_;conv=>whnf)|(refine cT (by rfl) ?_;conv=>whnf)|(refine cF (by rfl) ?_;conv=>whnf)))
  have hs3 := hx3.size
  have hown : ∀ k, (Value.slice au nu cu).ownBlock = some k → N ≤ k ∧ k < w.heap.size := fun k hk => by
    obtain ⟨ls, h1, _⟩ := hT
    exact ⟨h1.blk k hk, h1.own.lt k hk⟩
  have hwd : w.drew.heap.size = w.heap.size := rfl
  refine OTn.app (hT.ext hx04 fun _ _ _ f => f) rfl ho4 rfl rfl rfl hu (by decide) (Nat.le_trans hN hx04.size) hk ((h3.e0 hx4).bytes fun k hk => ⟨by omega, fun e => by have := hown k e; omega⟩) ?_
  intro v5 w5 hT5 hx5
  obtain ⟨a5, n5, c5, rfl⟩ := hT5.one
  have hob := (ho.e0 hx04).ext hx5 fun h => by have := hown bt h; omega
  ((conv=>whnf);repeat(first|(refine mvT ?_;conv=>whnf)|(refine mvF ?_;conv=>whnf)|(refine cT (by rfl) ?_;conv=>whnf)|(refine cF (by rfl) ?_;conv=>whnf)))
  refine st_cell (o := 4) (v := .slice a5 n5 c5) hob rfl (by omega) rfl (by simp) rfl ?_
  intro w6 ho6 hx6
  ((conv=>whnf);repeat(first|(refine mvT ?_;conv=>whnf)|(refine mvF ?_;conv=>whnf)|(refine cT (by rfl) ?_;conv=>whnf)|(refine cF (by rfl) ?_;conv=>whnf)))
  refine ⟨⟨_, ho6, hT5.ext hx6 fun k _ h1 h2 => by omega⟩, ?_⟩
  refine (hx04.mono fun _ _ f => f.elim).trans ((hx5.mono (M' := fun j => j = bt ∨ N ≤ j) fun k _ h => .inr (hown k h).1).trans hx6 fun k _ h => .inl h) fun _ _ h => h
theorem tellAlterReplicaLogDirsResponse {w0 : World} {F : Nat → Prop} {q o : Nat} {cv0 : Value} {cs : List Value} {t : T} (hq : Cells w0 q o (cv0 :: cs)) (hQ : QPart true 9 dAlterReplicaLogDirsResponse ⟨w0, F⟩ cs t) (hlim : LimT t) :
    Does X.P 39 #[.pointer (some ⟨q, o, none⟩)] w0 fun r w' => ∃ t', Nrm t t' ∧ Tr w' (fun k => w0.heap.size ≤ k) r t' ∧ Ext nob w0 w' := by
  obtain ⟨_, _, u_, m, rfl, rfl, hA0, hm⟩ := iP hQ
  clear hQ
  obtain ⟨cc0, _, x0, _, rfl, rfl, h0, hA1⟩ := iA hA0
  obtain ⟨n0, hn0, rfl, rfl⟩ : ∃ n, IntKind.i32.wrap n = n ∧ cc0 = [.int .i32 n] ∧ x0 = numT n := h0
  obtain ⟨cc1, _, x1, _, rfl, rfl, h1, hA2⟩ := iA hA1
  obtain ⟨c1, nl1, l1, rfl, hnl1, rfl, hc1⟩ : ∃ c nl l, cc1 = [c] ∧ (nl = true → l = []) ∧ x1 = .mk 0 [] nl l [] ∧ ListR true (elZ true 8 10 dAlterReplicaLogDirsResponseTopic) (elQ true 8 10 dAlterReplicaLogDirsResponseTopic ⟨w0, F⟩) w0 F c x1 := h1
  obtain ⟨rfl, rfl⟩ := hA2
  cases hlim
  rename_i hU hKU hDU hLs hu0 hs0 hd0
  have hq : Cells w0 q o [cv0, .int .i32 n0, c1, m] := hq
  have hw0 : IntKind.i64.wrap n0 = n0 := by have := hLs (numT n0) (by simp); cases this; assumption
  obtain ⟨a1, k1, ls1, rfl, hk1, hll1, hnn1, hcl1, hrl1⟩ := hc1.view
  refine Does.go (X := X) (l := [_]) Tryd.func39 rfl (by kernel_rfl) (by kernel_rfl) _ rfl ?_
  ((conv=>whnf);repeat(first|(refine mvT ?_;conv=>whnf)|(refine mvF ?_;conv=>whnf)|(refine cT (by rfl) ?_;conv=>whnf)|(refine cF (by rfl) ?_;conv=>whnf)))
  intro b2 w1 hb2 ho2 hx1
  ((conv=>whnf);repeat(first|(refine mvT ?_;conv=>whnf)|(refine mvF ?_;conv=>whnf)|(refine cT (by rfl) ?_;conv=>whnf)|(refine cF (by rfl) ?_;conv=>whnf)))
  refine ⟨⟨by decide, by decide, by decide, by decide⟩, ⟨by decide, rfl⟩, ?_⟩
  intro bl w2 hbl hol hx2
  ((conv=>whnf);repeat(first|(refine mvT ?_;conv=>whnf)|(refine mvF ?_;conv=>whnf)|(refine cT (by rfl) ?_;conv=>whnf)|(refine cF (by rfl) ?_;conv=>whnf)))
  intro bt w3 hbt hot hx3
  ((conv=>whnf);repeat(first|(refine mvT ?_;conv=>whnf)|(refine mvF ?_;conv=>whnf)|(refine cT (by rfl) ?_;conv=>whnf)|(refine cF (by rfl) ?_;conv=>whnf)))
  have hzz : w0.heap.size ≤ w1.heap.size := hx1.size
  have H := (((Sg.start w0).push hx1 ho2 hb2).push hx2 hol hbl).push hx3 hot hbt
  refine Sg.st (A := []) (o' := 0) (m := [.int .i64 0, .slice none 0 0, .bool false, .slice (some ⟨bl, 0, none⟩) 2 2, .slice none 0 0]) H rfl (Nat.le_of_ble_eq_true rfl) rfl ?_
  clear H hot hol ho2 hx1 hx2 hx3
  intro w H
  obtain ⟨Tt, Tl, T2, H⟩ : ∃ Tt Tl T2, Sg w0 [(bt, Tt, [.int .i64 0, .slice none 0 0, .bool false, .slice (some ⟨bl, 0, none⟩) 2 2, .slice none 0 0]), (bl, Tl, [.int .i64 0, .slice none 0 0, .bool false, .slice none 0 0, .slice none 0 0, .int .i64 0, .slice none 0 0, .bool false, .slice none 0 0, .slice none 0 0]), (b2, T2, [.int .i64 0, .slice none 0 0, .bool false, .slice none 0 0, .slice none 0 0])] (fun _ => True) w := ⟨_, _, _, H⟩
  have hb2w : w0.heap.size ≤ b2 := hb2
  have hblw : w0.heap.size ≤ bl := by omega
  have hbtw : w0.heap.size ≤ bt := by have := H.dis.1; exact this
  ((conv=>whnf);repeat(first|(refine mvT ?_;conv=>whnf)|(refine mvF ?_;conv=>whnf)|(refine cT (by rfl) ?_;conv=>whnf)|(refine cF (by rfl) ?_;conv=>whnf)))
  refine VD.draw mixed (.q 0 (.q 1 (.q 2 (.q 3 (.q 4 (.q 5 (.q 6 (.q 7 (.q 8 (.eff 9 [] (.done))))))))))) (by kernel_rfl) ?_;((conv=>whnf);repeat(first|(refine mvT ?_;conv=>whnf)|(refine mvF ?_;conv=>whnf)|(refine cT (by rfl) ?_;conv=>whnf)|(refine cF (by rfl) ?_;conv=>whnf)))
  replace H := H.e0 (ext_drew _)
  refine ldS ((Sg.at (A := []) H).cell rfl) ?_;((conv=>whnf);repeat(first|(refine mvT ?_;conv=>whnf)|(refine mvF ?_;conv=>whnf)|(refine cT (by rfl) ?_;conv=>whnf)|(refine cF (by rfl) ?_;conv=>whnf)))
  refine ⟨_, ld ((hq.e0 H.ext).cell (j := 1) rfl) (by simp), ?_⟩
  ((conv=>whnf);repeat(first|(refine mvT ?_;conv=>whnf)|(refine mvF ?_;conv=>whnf)|(refine cT (by rfl) ?_;conv=>whnf)|(refine cF (by rfl) ?_;conv=>whnf)))
  refine ⟨bl, 0, rfl, ⟨by omega, by omega⟩, ?_⟩
  ((conv=>whnf);repeat(first|(refine mvT ?_;conv=>whnf)|(refine mvF ?_;conv=>whnf)|(refine cT (by rfl) ?_;conv=>whnf)|(refine cF (by rfl) ?_;conv=>whnf)))
  refine Sg.st (A := [_]) (o' := 0) (m := [.int .i64 (IntKind.i64.wrap n0), .slice none 0 0, .bool false, .slice none 0 0, .slice none 0 0]) H rfl (Nat.le_of_ble_eq_true rfl) (rfl) ?_
  clear H
  intro w H
  rw [hw0] at H
  replace H : Sg w0 [(bt, Tt, [.int .i64 0, .slice none 0 0, .bool false, .slice (some ⟨bl, 0, none⟩) 2 2, .slice none 0 0]), (bl, Tl, [.int .i64 n0, .slice none 0 0, .bool false, .slice none 0 0, .slice none 0 0, .int .i64 0, .slice none 0 0, .bool false, .slice none 0 0, .slice none 0 0]), (b2, T2, [.int .i64 0, .slice none 0 0, .bool false, .slice none 0 0, .slice none 0 0])] (fun _ => True) w := H
  ((conv=>whnf);repeat(first|(refine mvT ?_;conv=>whnf)|(refine mvF ?_;conv=>whnf)|(refine cT (by rfl) ?_;conv=>whnf)|(refine cF (by rfl) ?_;conv=>whnf)))
  refine VD.draw mixed (.q 0 (.q 1 (.q 2 (.q 3 (.q 4 (.q 5 (.q 6 (.q 7 (.q 8 (.eff 9 [] (.done))))))))))) (by kernel_rfl) ?_;((conv=>whnf);repeat(first|(refine mvT ?_;conv=>whnf)|(refine mvF ?_;conv=>whnf)|(refine cT (by rfl) ?_;conv=>whnf)|(refine cF (by rfl) ?_;conv=>whnf)))
  replace H := H.e0 (ext_drew _)
  refine ldS ((Sg.at (A := []) H).cell rfl) ?_;((conv=>whnf);repeat(first|(refine mvT ?_;conv=>whnf)|(refine mvF ?_;conv=>whnf)|(refine cT (by rfl) ?_;conv=>whnf)|(refine cF (by rfl) ?_;conv=>whnf)))
  refine ⟨_, ld ((hq.e0 H.ext).cell (j := 2) rfl) (by simp), ?_⟩
  ((conv=>whnf);repeat(first|(refine mvT ?_;conv=>whnf)|(refine mvF ?_;conv=>whnf)|(refine cT (by rfl) ?_;conv=>whnf)|(refine cF (by rfl) ?_;conv=>whnf)))
  refine ⟨bl, 0, rfl, ⟨by omega, by omega⟩, ?_⟩
  ((conv=>whnf);repeat(first|(refine mvT ?_;conv=>whnf)|(refine mvF ?_;conv=>whnf)|(refine cT (by rfl) ?_;conv=>whnf)|(refine cF (by rfl) ?_;conv=>whnf)))
  refine Sg.st (A := [_]) (o' := 7) (m := [.bool a1.isNone]) H rfl (Nat.le_of_ble_eq_true rfl) (rfl) ?_
  clear H
  intro w H
  replace H : Sg w0 [(bt, Tt, [.int .i64 0, .slice none 0 0, .bool false, .slice (some ⟨bl, 0, none⟩) 2 2, .slice none 0 0]), (bl, Tl, [.int .i64 n0, .slice none 0 0, .bool false, .slice none 0 0, .slice none 0 0, .int .i64 0, .slice none 0 0, .bool a1.isNone, .slice none 0 0, .slice none 0 0]), (b2, T2, [.int .i64 0, .slice none 0 0, .bool false, .slice none 0 0, .slice none 0 0])] (fun _ => True) w := H
  ((conv=>whnf);repeat(first|(refine mvT ?_;conv=>whnf)|(refine mvF ?_;conv=>whnf)|(refine cT (by rfl) ?_;conv=>whnf)|(refine cF (by rfl) ?_;conv=>whnf)))
  refine ⟨_, ld ((hq.e0 H.ext).cell (j := 2) rfl) (by simp), ?_⟩
  ((conv=>whnf);repeat(first|(refine mvT ?_;conv=>whnf)|(refine mvF ?_;conv=>whnf)|(refine cT (by rfl) ?_;conv=>whnf)|(refine cF (by rfl) ?_;conv=>whnf)))
  have hlsT : lsT (.mk 0 [] nl1 l1 []) = l1 := by
    show (if nl1 = true then [] else l1) = l1
    split
    · rename_i e
      exact (hnl1 e).symm
    · rfl
  rw [hlsT] at hll1 hrl1
  obtain ⟨wL, hwL⟩ : ∃ wL, wL = w := ⟨_, rfl⟩
  rw [← hwL] at H ⊢
  have hLlt := H.own.lt
  have hLl : l1.length ≤ 1000000 ∧ ∀ x, x ∈ l1 → LimT x := by
    have := hLs (.mk 0 [] nl1 l1 []) (by simp)
    cases this
    exact ⟨by assumption, by assumption⟩
  have hs0L := H.ext.size
  refine VL.loop (fun i : Nat => [(29, .int .i64 ls1.length), (30, .int .i64 i), (0, .pointer (some ⟨q, o, none⟩)), (2, .pointer (some ⟨b2, 0, none⟩)), (3, .pointer (some ⟨bt, 0, none⟩))])
    (fun i w' => i ≤ ls1.length ∧ Ext (fun k => k = bl ∨ wL.heap.size ≤ k) wL w' ∧ ∃ vl ts, Own w' bl Tl [.int .i64 n0, .slice none 0 0, .bool false, .slice none 0 0, .slice none 0 0, .int .i64 0, .slice none 0 0, .bool a1.isNone, vl, .slice none 0 0] ∧ OLn w' wL.heap.size vl ts ∧ ts.length = i ∧ ∀ (j : Nat) (x y : T), l1[j]? = some x → ts[j]? = some y → Nrm x y) (fun i => ls1.length - i) 0
    ⟨rfl, rfl, rfl, rfl, rfl, trivial⟩ ⟨Nat.zero_le _, Ext.refl _ _, _, [], Sg.at (A := [_]) H, OLn.nil _ _, rfl, by simp⟩ ?_
  rintro i w ⟨hi, hxL, vl1, ts1, hobl, hT, htl1, hnr1⟩
  ((conv=>whnf);repeat(first|(refine mvT ?_;conv=>whnf)|(refine mvF ?_;conv=>whnf)|(refine cT (by rfl) ?_;conv=>whnf)|(refine cF (by rfl) ?_;conv=>whnf)))
  refine cI (by rfl) (fun h9=>?_) (fun h9=>?_)
  · have hil : i < ls1.length := by have := of_decide_eq_true h9; omega
    obtain ⟨be, oe, rfl, hFe, hbe, hce⟩ := hcl1 i ls1[i] (by simp [hil])
    have hqe := hrl1 i ls1[i] l1[i] (by simp [hil]) (by simp)
    have hlime := hLl.2 l1[i] (List.getElem_mem _)
    have hx0 : Ext nob w0 w := H.ext.trans hxL fun k hk h => by
      rcases h with h | h
      · omega
      · omega
    have hobt : Own w bt Tt [.int .i64 0, .slice none 0 0, .bool false, .slice (some ⟨bl, 0, none⟩) 2 2, .slice none 0 0] := (Sg.at (A := []) H).ext hxL fun h => by
      have := hLlt bt (by simp [inL])
      have h2 := (H.dis.2.1 : ¬ inL _ bt)
      rcases h with h | h
      · exact h2 (by rw [h]; simp [inL])
      · omega
    obtain ⟨av, cv, rfl⟩ := hT.one
    ((conv=>whnf);repeat(first|(refine mvT ?_;conv=>whnf)|(refine mvF ?_;conv=>whnf)|(refine cT (by rfl) ?_;conv=>whnf)|(refine cF (by rfl) ?_;conv=>whnf)))
    refine VD.draw mixed (.eff 0 [] (.alt (.eff 1 [] (.eff 2 [] (.q 3 (.done)))) (.eff 2 [] (.eff 1 [] (.q 3 (.done)))))) (by kernel_rfl) ?_;((conv=>whnf);repeat(first|(refine mvT ?_;conv=>whnf)|(refine mvF ?_;conv=>whnf)|(refine cT (by rfl) ?_;conv=>whnf)|(refine cF (by rfl) ?_;conv=>whnf)))
    intro bb wb hbb hob hxb
    have hxb : Ext nob w wb := (ext_drew w).e0 hxb
    have hbb : w.heap.size ≤ bb := hbb
    ((conv=>whnf);repeat(first|(refine mvT ?_;conv=>whnf)|(refine mvF ?_;conv=>whnf)|(refine cT (by rfl) ?_;conv=>whnf)|(refine cF (by rfl) ?_;conv=>whnf)))
    constructor
    · conv => whnf
      refine st_all [.bool true] hob rfl rfl rfl ?_
      intro wc hoc hxc
      conv => whnf
      refine st_all [.bool false] hoc rfl rfl rfl ?_
      intro wd hod hxd
      ((conv=>whnf);repeat(first|(refine mvT ?_;conv=>whnf)|(refine mvF ?_;conv=>whnf)|(refine cT (by rfl) ?_;conv=>whnf)|(refine cF (by rfl) ?_;conv=>whnf)))
      refine ldS (hod.cell rfl) ?_;((conv=>whnf);repeat(first|(refine mvT ?_;conv=>whnf)|(refine mvF ?_;conv=>whnf)|(refine cT (by rfl) ?_;conv=>whnf)|(refine cF (by rfl) ?_;conv=>whnf)))
      have hxw : Ext nob w wd := (hxb.st hxc hbb).st hxd hbb
      refine VD.draw mixed (.q 0 (.q 1 (.q 2 (.q 3 (.q 4 (.q 5 (.q 6 (.q 7 (.q 8 (.q 9 (.q 10 (.q 11 (.q 12 (.eff 13 [1, 3, 6] (.eff 14 [1, 3, 6] (.eff 15 [1] (.q 16 (.q 17 (.eff 18 [] (.done)))))))))))))))))))) (by kernel_rfl) ?_;((conv=>whnf);repeat(first|(refine mvT ?_;conv=>whnf)|(refine mvF ?_;conv=>whnf)|(refine cT (by rfl) ?_;conv=>whnf)|(refine cF (by rfl) ?_;conv=>whnf)))
      have hxw := hxw.e0 (ext_drew _)
      have hszd := hxw.size
      refine ldS ((hobt.e0 hxw).cell rfl) ?_;((conv=>whnf);repeat(first|(refine mvT ?_;conv=>whnf)|(refine mvF ?_;conv=>whnf)|(refine cT (by rfl) ?_;conv=>whnf)|(refine cF (by rfl) ?_;conv=>whnf)))
      refine ldS ((hobt.e0 hxw).cell rfl) ?_;((conv=>whnf);repeat(first|(refine mvT ?_;conv=>whnf)|(refine mvF ?_;conv=>whnf)|(refine cT (by rfl) ?_;conv=>whnf)|(refine cF (by rfl) ?_;conv=>whnf)))
      refine ⟨bl, 0, rfl, ⟨by omega, by omega⟩, ?_⟩
      ((conv=>whnf);repeat(first|(refine mvT ?_;conv=>whnf)|(refine mvF ?_;conv=>whnf)|(refine cT (by rfl) ?_;conv=>whnf)|(refine cF (by rfl) ?_;conv=>whnf)))
      refine ldS ((hobl.e0 hxw).cell rfl) ?_;((conv=>whnf);repeat(first|(refine mvT ?_;conv=>whnf)|(refine mvF ?_;conv=>whnf)|(refine cT (by rfl) ?_;conv=>whnf)|(refine cF (by rfl) ?_;conv=>whnf)))
      refine ⟨_, ld ((hq.e0 (hx0.e0 hxw)).cell (j := 2) rfl) (by simp), ?_⟩
      ((conv=>whnf);repeat(first|(refine mvT ?_;conv=>whnf)|(refine mvF ?_;conv=>whnf)|(refine cT (by rfl) ?_;conv=>whnf)|(refine cF (by rfl) ?_;conv=>whnf)))
      refine ⟨be, oe, rfl, ⟨by omega, by omega⟩, ?_⟩
      ((conv=>whnf);repeat(first|(refine mvT ?_;conv=>whnf)|(refine mvF ?_;conv=>whnf)|(refine cT (by rfl) ?_;conv=>whnf)|(refine cF (by rfl) ?_;conv=>whnf)))
      refine Does.mono (tellAlterReplicaLogDirsResponseTopic (F := F) (hce.e0 (hx0.e0 hxw)) (QPart_later true 8 _ _ _ w0 _ F F nob hqe (hx0.e0 hxw) fun k _ hf => ⟨fun f => f, hf⟩) hlime) ?_
      rintro r wt ⟨t', hnr', ⟨cr, rfl, htr⟩, hxt⟩
      have hszt := hxw.size
      have hxw := hxw.e0 hxt
      obtain ⟨n', sv', nl', lv', uv', rfl⟩ : ∃ n sv nl lv uv, cr = [.int .i64 n, sv, .bool nl, lv, uv] := by cases htr; exact ⟨_, _, _, _, _, rfl⟩
      refine ⟨by (conv => whnf); exact ⟨⟨_, (hobt.e0 hxw).cell rfl, rfl, rfl⟩, ⟨_, (hobt.e0 hxw).cell rfl, rfl, rfl⟩, ⟨_, (hobl.e0 hxw).cell rfl, rfl, rfl⟩, trivial⟩, ?_⟩
      conv => whnf
      intro bs ws hbs hos hxs
      have hos : Own ws bs TT [.int .i64 n', sv', .bool nl', lv', uv'] := hos
      have hxw := hxw.e0 hxs
      refine ⟨by (conv => whnf); exact ⟨⟨_, (hobt.e0 hxw).cell rfl, rfl, rfl⟩, ⟨_, (hobt.e0 hxw).cell rfl, rfl, rfl⟩, ⟨_, (hobl.e0 hxw).cell rfl, rfl, rfl⟩, trivial⟩, ?_⟩
      conv => whnf
      have hsLw := hxL.size
      refine OLn.app (x := t') (hT.ext hxw fun _ _ _ f => f) rfl hos rfl rfl (by omega) (by decide) (by have := hxw.size; omega) ((htr.ext hxs fun _ _ _ f => f).mono fun k _ hk => ⟨by omega, fun e => by have := hT.own k e; omega⟩) ?_
      intro v5 w5 hT5 hx5 _
      obtain ⟨a5, c5, rfl⟩ := hT5.one
      have hown5 : ∀ k, (Value.slice av ts1.length cv).ownBlock = some k → wL.heap.size ≤ k := fun k hk => (hT.own k hk).1
      have hbt5 := (hobt.e0 hxw).ext hx5 fun h => by have := hown5 bt h; have := hLlt bt (by simp [inL]); omega
      have hbl5 := (hobl.e0 hxw).ext hx5 fun h => by have := hown5 bl h; have := hLlt bl (by simp [inL]); omega
      refine ⟨by (conv => whnf); exact ⟨⟨_, hbt5.cell rfl, rfl, rfl⟩, trivial⟩, ?_⟩
      conv => whnf
      refine ⟨bl, 0, rfl, ⟨by omega, by omega⟩, ?_⟩
      ((conv=>whnf);repeat(first|(refine mvT ?_;conv=>whnf)|(refine mvF ?_;conv=>whnf)|(refine cT (by rfl) ?_;conv=>whnf)|(refine cF (by rfl) ?_;conv=>whnf)))
      refine st_cell (o := 8) (v := .slice a5 (ts1 ++ [t']).length c5) hbl5 rfl rfl rfl (by simp) rfl ?_
      intro w6 ho6 hx6
      ((conv=>whnf);repeat(first|(refine mvT ?_;conv=>whnf)|(refine mvF ?_;conv=>whnf)|(refine cT (by rfl) ?_;conv=>whnf)|(refine cF (by rfl) ?_;conv=>whnf)))
      have hxL6 : Ext (fun k => k = bl ∨ wL.heap.size ≤ k) wL w6 := ((hxL.trans (hxw.mono (M' := nob) fun _ _ f => f) fun k hk f => f.elim).trans hx5 fun k hk h => by have := hown5 k h; omega).trans hx6 fun k hk h => .inl h
      refine ⟨i + 1, ⟨rfl, inc_eq (by omega), rfl, rfl, rfl, trivial⟩, ⟨by omega, hxL6, _, ts1 ++ [t'], ho6, hT5.ext hx6 (fun k _ h1 h2 => by have := hLlt bl (by simp [inL]); omega), by simp [htl1], ?_⟩, by omega⟩
      intro j x y hx hy
      rcases Nat.lt_or_ge j ts1.length with hj | hj
      · rw [List.getElem?_append_left hj] at hy
        exact hnr1 j x y hx hy
      · rw [List.getElem?_append_right hj] at hy
        obtain ⟨e, he⟩ : ∃ e, j - ts1.length = e := ⟨_, rfl⟩
        rw [he] at hy
        cases e with
        | zero =>
          have : j = i := by omega
          subst this
          simp only [List.getElem?_cons_zero, Option.some.injEq] at hy
          subst hy
          rw [List.getElem?_eq_getElem (by omega), Option.some.injEq] at hx
          subst hx
          exact hnr'
        | succ e => simp at hy
    · conv => whnf
      refine st_all [.bool false] hob rfl rfl rfl ?_
      intro wc hoc hxc
      conv => whnf
      refine st_all [.bool true] hoc rfl rfl rfl ?_
      intro wd hod hxd
      ((conv=>whnf);repeat(first|(refine mvT ?_;conv=>whnf)|(refine mvF ?_;conv=>whnf)|(refine cT (by rfl) ?_;conv=>whnf)|(refine cF (by rfl) ?_;conv=>whnf)))
      refine ldS (hod.cell rfl) ?_;((conv=>whnf);repeat(first|(refine mvT ?_;conv=>whnf)|(refine mvF ?_;conv=>whnf)|(refine cT (by rfl) ?_;conv=>whnf)|(refine cF (by rfl) ?_;conv=>whnf)))
      have hxw : Ext nob w wd := (hxb.st hxc hbb).st hxd hbb
      refine VD.draw mixed (.q 0 (.q 1 (.q 2 (.q 3 (.q 4 (.q 5 (.q 6 (.q 7 (.q 8 (.q 9 (.q 10 (.q 12 (.alt (.eff 11 [1, 4] (.eff 13 [1, 4, 8] (.eff 14 [] (.q 15 (.q 16 (.eff 17 [] (.done))))))) (.eff 13 [1, 4, 8] (.eff 11 [1, 4] (.eff 14 [] (.q 15 (.q 16 (.eff 17 [] (.done)))))))))))))))))))) (by kernel_rfl) ?_;((conv=>whnf);repeat(first|(refine mvT ?_;conv=>whnf)|(refine mvF ?_;conv=>whnf)|(refine cT (by rfl) ?_;conv=>whnf)|(refine cF (by rfl) ?_;conv=>whnf)))
      have hxw := hxw.e0 (ext_drew _)
      have hszd := hxw.size
      refine ldS ((hobt.e0 hxw).cell rfl) ?_;((conv=>whnf);repeat(first|(refine mvT ?_;conv=>whnf)|(refine mvF ?_;conv=>whnf)|(refine cT (by rfl) ?_;conv=>whnf)|(refine cF (by rfl) ?_;conv=>whnf)))
      refine ⟨bl, 0, rfl, ⟨by omega, by omega⟩, ?_⟩
      ((conv=>whnf);repeat(first|(refine mvT ?_;conv=>whnf)|(refine mvF ?_;conv=>whnf)|(refine cT (by rfl) ?_;conv=>whnf)|(refine cF (by rfl) ?_;conv=>whnf)))
      refine ldS ((hobl.e0 hxw).cell rfl) ?_;((conv=>whnf);repeat(first|(refine mvT ?_;conv=>whnf)|(refine mvF ?_;conv=>whnf)|(refine cT (by rfl) ?_;conv=>whnf)|(refine cF (by rfl) ?_;conv=>whnf)))
      refine ⟨_, ld ((hq.e0 (hx0.e0 hxw)).cell (j := 2) rfl) (by simp), ?_⟩
      ((conv=>whnf);repeat(first|(refine mvT ?_;conv=>whnf)|(refine mvF ?_;conv=>whnf)|(refine cT (by rfl) ?_;conv=>whnf)|(refine cF (by rfl) ?_;conv=>whnf)))
      refine ⟨be, oe, rfl, ⟨by omega, by omega⟩, ?_⟩
      ((conv=>whnf);repeat(first|(refine mvT ?_;conv=>whnf)|(refine mvF ?_;conv=>whnf)|(refine cT (by rfl) ?_;conv=>whnf)|(refine cF (by rfl) ?_;conv=>whnf)))
      constructor
      · conv => whnf
        refine Does.mono (tellAlterReplicaLogDirsResponseTopic (F := F) (hce.e0 (hx0.e0 hxw)) (QPart_later true 8 _ _ _ w0 _ F F nob hqe (hx0.e0 hxw) fun k _ hf => ⟨fun f => f, hf⟩) hlime) ?_
        rintro r wt ⟨t', hnr', ⟨cr, rfl, htr⟩, hxt⟩
        have hszt := hxw.size
        have hxw := hxw.e0 hxt
        obtain ⟨n', sv', nl', lv', uv', rfl⟩ : ∃ n sv nl lv uv, cr = [.int .i64 n, sv, .bool nl, lv, uv] := by cases htr; exact ⟨_, _, _, _, _, rfl⟩
        refine ⟨by (conv => whnf); exact ⟨⟨_, (hobt.e0 hxw).cell rfl, rfl, rfl⟩, ⟨_, (hobl.e0 hxw).cell rfl, rfl, rfl⟩, trivial⟩, ?_⟩
        conv => whnf
        intro bs ws hbs hos hxs
        have hos : Own ws bs TT [.int .i64 0, .slice none 0 0, .bool false, .slice none 0 0, .slice none 0 0] := hos
        have hxw := hxw.e0 hxs
        refine ⟨by (conv => whnf); exact ⟨⟨_, (hobt.e0 hxw).cell rfl, rfl, rfl⟩, ⟨_, (hobl.e0 hxw).cell rfl, rfl, rfl⟩, ⟨_, (hq.e0 (hx0.e0 hxw)).cell (j := 2) rfl, rfl, rfl⟩, trivial⟩, ?_⟩
        have htrw : TrC ws (fun k => w.heap.size ≤ k ∧ k < ws.heap.size) [.int .i64 n', sv', .bool nl', lv', uv'] t' := ((htr.mono (F' := fun k => w.heap.size ≤ k ∧ k < wt.heap.size) fun k hk h => ⟨by omega, hk⟩).ext hxs fun _ _ _ f => f).mono fun k hk h => ⟨h.1, hk⟩
        conv => whnf
        refine OLn.app (x := .mk 0 [] false [] []) (hT.ext hxw fun _ _ _ f => f) rfl hos rfl rfl (by omega) (by decide) (by have := hxw.size; have := hxL.size; omega) (TrC.leaf rfl (Bytes.nil _ _)) ?_
        intro v5 w5 hT5 hx5 hbk5
        obtain ⟨a5, c5, rfl⟩ := hT5.one
        have hown5 : ∀ k, (Value.slice av ts1.length cv).ownBlock = some k → wL.heap.size ≤ k ∧ k < w.heap.size := fun k hk => hT.own k hk
        have hbl5 := (hobl.e0 hxw).ext hx5 fun h => by have := hown5 bl h; have := hLlt bl (by simp [inL]); omega
        have hblL := hLlt bl (by simp [inL])
        have hsLw := hxL.size
        have hszx := hxw.size
        ((conv=>whnf);repeat(first|(refine mvT ?_;conv=>whnf)|(refine mvF ?_;conv=>whnf)|(refine cT (by rfl) ?_;conv=>whnf)|(refine cF (by rfl) ?_;conv=>whnf)))
        refine ⟨bl, 0, rfl, ⟨by omega, by omega⟩, ?_⟩
        ((conv=>whnf);repeat(first|(refine mvT ?_;conv=>whnf)|(refine mvF ?_;conv=>whnf)|(refine cT (by rfl) ?_;conv=>whnf)|(refine cF (by rfl) ?_;conv=>whnf)))
        refine st_cell (o := 8) (v := .slice a5 (ts1 ++ [T.mk 0 [] false [] []]).length c5) hbl5 rfl rfl rfl (by simp) rfl ?_
        intro w6 ho6 hx6
        ((conv=>whnf);repeat(first|(refine mvT ?_;conv=>whnf)|(refine mvF ?_;conv=>whnf)|(refine cT (by rfl) ?_;conv=>whnf)|(refine cF (by rfl) ?_;conv=>whnf)))
        have hT6 := hT5.ext hx6 (fun k _ h1 h2 => by omega)
        obtain ⟨g, cap, hv, hput⟩ := hT6.last
        injection hv with e1 e2 e3
        subst e1
        subst e3
        have htr6 : TrC w6 (fun k => wL.heap.size ≤ k ∧ (Value.slice (some ⟨g, 0, none⟩) (ts1 ++ [T.mk 0 [] false [] []]).length c5).ownBlock ≠ some k) [.int .i64 n', sv', .bool nl', lv', uv'] t' := by
          refine ((htrw.ext hx5 fun k _ h e => by have := hown5 k e; omega).ext hx6 fun k _ h e => by omega).mono fun k _ h => ⟨by omega, fun e => ?_⟩
          rcases hbk5 with e2 | ⟨q2, e2, hle⟩
          · have := hown5 k (e2 ▸ e); omega
          · rw [e, Option.some.injEq] at e2
            omega
        refine ⟨g, 0, rfl, ⟨by omega, by simp; omega⟩, ?_⟩
        ((conv=>whnf);repeat(first|(refine mvT ?_;conv=>whnf)|(refine mvF ?_;conv=>whnf)|(refine cT (by rfl) ?_;conv=>whnf)|(refine cF (by rfl) ?_;conv=>whnf)))
        refine hput [.int .i64 n', sv', .bool nl', lv', uv'] t' _ _ _ rfl (by simp) htr6 ?_
        intro w7 hT7 hx7
        ((conv=>whnf);repeat(first|(refine mvT ?_;conv=>whnf)|(refine mvF ?_;conv=>whnf)|(refine cT (by rfl) ?_;conv=>whnf)|(refine cF (by rfl) ?_;conv=>whnf)))
        have hgL : wL.heap.size ≤ g := (hT6.own g rfl).1
        have hxL7 : Ext (fun k => k = bl ∨ wL.heap.size ≤ k) wL w7 := (((hxL.trans (hxw.mono (M' := nob) fun _ _ f => f) fun k hk f => f.elim).trans hx5 fun k hk h => by have := hown5 k h; omega).trans hx6 fun k hk h => .inl h).trans hx7 fun k hk h => by omega
        refine ⟨i + 1, ⟨rfl, inc_eq (by omega), rfl, rfl, rfl, trivial⟩, ⟨by omega, hxL7, _, ts1 ++ [t'], ho6.ext hx7 (by omega), hT7, by simp [htl1], ?_⟩, by omega⟩
        intro j x y hx hy
        rcases Nat.lt_or_ge j ts1.length with hj | hj
        · rw [List.getElem?_append_left hj] at hy
          exact hnr1 j x y hx hy
        · rw [List.getElem?_append_right hj] at hy
          obtain ⟨e, he⟩ : ∃ e, j - ts1.length = e := ⟨_, rfl⟩
          rw [he] at hy
          cases e with
          | zero =>
            have : j = i := by omega
            subst this
            simp only [List.getElem?_cons_zero, Option.some.injEq] at hy
            subst hy
            rw [List.getElem?_eq_getElem (by omega), Option.some.injEq] at hx
            subst hx
            exact hnr'
          | succ e => simp at hy
      · conv => whnf
        intro bs ws hbs hos hxs
        have hos : Own ws bs TT [.int .i64 0, .slice none 0 0, .bool false, .slice none 0 0, .slice none 0 0] := hos
        have hxw := hxw.e0 hxs
        refine ⟨by (conv => whnf); exact ⟨⟨_, (hobt.e0 hxw).cell rfl, rfl, rfl⟩, ⟨_, (hobl.e0 hxw).cell rfl, rfl, rfl⟩, ⟨_, (hq.e0 (hx0.e0 hxw)).cell (j := 2) rfl, rfl, rfl⟩, trivial⟩, ?_⟩
        conv => whnf
        refine Does.mono (tellAlterReplicaLogDirsResponseTopic (F := F) (hce.e0 (hx0.e0 hxw)) (QPart_later true 8 _ _ _ w0 _ F F nob hqe (hx0.e0 hxw) fun k _ hf => ⟨fun f => f, hf⟩) hlime) ?_
        rintro r wt ⟨t', hnr', ⟨cr, rfl, htr⟩, hxt⟩
        have hszt := hxw.size
        have hxw := hxw.e0 hxt
        obtain ⟨n', sv', nl', lv', uv', rfl⟩ : ∃ n sv nl lv uv, cr = [.int .i64 n, sv, .bool nl, lv, uv] := by cases htr; exact ⟨_, _, _, _, _, rfl⟩
        refine ⟨by (conv => whnf); exact ⟨⟨_, (hobt.e0 hxw).cell rfl, rfl, rfl⟩, ⟨_, (hobl.e0 hxw).cell rfl, rfl, rfl⟩, trivial⟩, ?_⟩
        have hos := hos.e0 hxt
        have htrw : TrC wt (fun k => w.heap.size ≤ k ∧ k < wt.heap.size) [.int .i64 n', sv', .bool nl', lv', uv'] t' := htr.mono fun k hk h => ⟨by omega, hk⟩
        conv => whnf
        refine OLn.app (x := .mk 0 [] false [] []) (hT.ext hxw fun _ _ _ f => f) rfl hos rfl rfl (by omega) (by decide) (by have := hxw.size; have := hxL.size; omega) (TrC.leaf rfl (Bytes.nil _ _)) ?_
        intro v5 w5 hT5 hx5 hbk5
        obtain ⟨a5, c5, rfl⟩ := hT5.one
        have hown5 : ∀ k, (Value.slice av ts1.length cv).ownBlock = some k → wL.heap.size ≤ k ∧ k < w.heap.size := fun k hk => hT.own k hk
        have hbl5 := (hobl.e0 hxw).ext hx5 fun h => by have := hown5 bl h; have := hLlt bl (by simp [inL]); omega
        have hblL := hLlt bl (by simp [inL])
        have hsLw := hxL.size
        have hszx := hxw.size
        ((conv=>whnf);repeat(first|(refine mvT ?_;conv=>whnf)|(refine mvF ?_;conv=>whnf)|(refine cT (by rfl) ?_;conv=>whnf)|(refine cF (by rfl) ?_;conv=>whnf)))
        refine ⟨bl, 0, rfl, ⟨by omega, by omega⟩, ?_⟩
        ((conv=>whnf);repeat(first|(refine mvT ?_;conv=>whnf)|(refine mvF ?_;conv=>whnf)|(refine cT (by rfl) ?_;conv=>whnf)|(refine cF (by rfl) ?_;conv=>whnf)))
        refine st_cell (o := 8) (v := .slice a5 (ts1 ++ [T.mk 0 [] false [] []]).length c5) hbl5 rfl rfl rfl (by simp) rfl ?_
        intro w6 ho6 hx6
        ((conv=>whnf);repeat(first|(refine mvT ?_;conv=>whnf)|(refine mvF ?_;conv=>whnf)|(refine cT (by rfl) ?_;conv=>whnf)|(refine cF (by rfl) ?_;conv=>whnf)))
        have hT6 := hT5.ext hx6 (fun k _ h1 h2 => by omega)
        obtain ⟨g, cap, hv, hput⟩ := hT6.last
        injection hv with e1 e2 e3
        subst e1
        subst e3
        have htr6 : TrC w6 (fun k => wL.heap.size ≤ k ∧ (Value.slice (some ⟨g, 0, none⟩) (ts1 ++ [T.mk 0 [] false [] []]).length c5).ownBlock ≠ some k) [.int .i64 n', sv', .bool nl', lv', uv'] t' := by
          refine ((htrw.ext hx5 fun k _ h e => by have := hown5 k e; omega).ext hx6 fun k _ h e => by omega).mono fun k _ h => ⟨by omega, fun e => ?_⟩
          rcases hbk5 with e2 | ⟨q2, e2, hle⟩
          · have := hown5 k (e2 ▸ e); omega
          · rw [e, Option.some.injEq] at e2
            omega
        refine ⟨g, 0, rfl, ⟨by omega, by simp; omega⟩, ?_⟩
        ((conv=>whnf);repeat(first|(refine mvT ?_;conv=>whnf)|(refine mvF ?_;conv=>whnf)|(refine cT (by rfl) ?_;conv=>whnf)|(refine cF (by rfl) ?_;conv=>whnf)))
        refine hput [.int .i64 n', sv', .bool nl', lv', uv'] t' _ _ _ rfl (by simp) htr6 ?_
        intro w7 hT7 hx7
        ((conv=>whnf);repeat(first|(refine mvT ?_;conv=>whnf)|(refine mvF ?_;conv=>whnf)|(refine cT (by rfl) ?_;conv=>whnf)|(refine cF (by rfl) ?_;conv=>whnf)))
        have hgL : wL.heap.size ≤ g := (hT6.own g rfl).1
        have hxL7 : Ext (fun k => k = bl ∨ wL.heap.size ≤ k) wL w7 := (((hxL.trans (hxw.mono (M' := nob) fun _ _ f => f) fun k hk f => f.elim).trans hx5 fun k hk h => by have := hown5 k h; omega).trans hx6 fun k hk h => .inl h).trans hx7 fun k hk h => by omega
        refine ⟨i + 1, ⟨rfl, inc_eq (by omega), rfl, rfl, rfl, trivial⟩, ⟨by omega, hxL7, _, ts1 ++ [t'], ho6.ext hx7 (by omega), hT7, by simp [htl1], ?_⟩, by omega⟩
        intro j x y hx hy
        rcases Nat.lt_or_ge j ts1.length with hj | hj
        · rw [List.getElem?_append_left hj] at hy
          exact hnr1 j x y hx hy
        · rw [List.getElem?_append_right hj] at hy
          obtain ⟨e, he⟩ : ∃ e, j - ts1.length = e := ⟨_, rfl⟩
          rw [he] at hy
          cases e with
          | zero =>
            have : j = i := by omega
            subst this
            simp only [List.getElem?_cons_zero, Option.some.injEq] at hy
            subst hy
            rw [List.getElem?_eq_getElem (by omega), Option.some.injEq] at hx
            subst hx
            exact hnr'
          | succ e => simp at hy
  · have hil : i = ls1.length := by have := of_decide_eq_false h9; omega
    have H := Sg.up (A := [_]) H hobl (hxL.mono fun k hk h => by rcases h with h | h; exact h; omega)
    have htl1 : ts1.length = l1.length := by omega
    have hnl : a1.isNone = nl1 := hnn1 rfl
    rw [hnl] at H
    have H := H.add (Q := fun w => TrC w (fun k => w0.heap.size ≤ k) [.int .i64 0, .slice none 0 0, .bool nl1, vl1, .slice none 0 0] (.mk 0 [] nl1 ts1 [])) fun w3 x => (hT.ext x fun k hk h1 h2 => by
      have h3 : k < wL.heap.size := hLlt k (by rcases inL3 h2 with h | h | h <;> subst h <;> simp [inL])
      omega).row fun k hk => by omega
    obtain ⟨P1, hP1⟩ : ∃ P : World → Prop, P = fun w => TrC w (fun k => w0.heap.size ≤ k) [.int .i64 0, .slice none 0 0, .bool nl1, vl1, .slice none 0 0] (.mk 0 [] nl1 ts1 []) ∧ True := ⟨_, rfl⟩
    replace H : Sg w0 [(bt, Tt, [.int .i64 0, .slice none 0 0, .bool false, .slice (some ⟨bl, 0, none⟩) 2 2, .slice none 0 0]), (bl, Tl, [.int .i64 n0, .slice none 0 0, .bool false, .slice none 0 0, .slice none 0 0, .int .i64 0, .slice none 0 0, .bool nl1, vl1, .slice none 0 0]), (b2, T2, [.int .i64 0, .slice none 0 0, .bool false, .slice none 0 0, .slice none 0 0])] P1 w := by rw [hP1]; exact H
    ((conv=>whnf);repeat(first|(refine mvT ?_;conv=>whnf)|(refine mvF ?_;conv=>whnf)|(refine cT (by rfl) ?_;conv=>whnf)|(refine cF (by rfl) ?_;conv=>whnf)))
    have hql : q < w0.heap.size := World.block_lt_of_cell? w0 _ (hq.cell (j := 0) rfl)
    have hm2 : TagsR w (fun k => F k ∧ k < w0.heap.size) m u_ := (hm.mono (F' := fun k => F k ∧ k < w0.heap.size) fun k h1 h2 => ⟨h2, h1⟩).ext H.ext fun _ _ _ f => f
    refine Does.mono (EachT tgAlterReplicaLogDirsResponse ((hq.e0 H.ext).cell (j := 3) rfl) hm2 hd0 hu0 hs0 (Sg.at (A := []) H) (by omega) (fun k _ h e => by have := h.2; omega)) ?_
    rintro r w2 ⟨u', uv, hperm, hpw, hob, hT, hxe⟩
    have hLlt := H.own.lt
    have hw02 := H.ext.size
    have H2 := Sg.up (A := []) H hob hxe
    obtain ⟨auv, nuv, cuv, rfl⟩ := hT.one
    have H := H2.add (Q := fun w => TgsR w (fun k => w0.heap.size ≤ k) (.slice auv nuv cuv) u') fun w3 x => (hT.ext x fun k hk h1 h2 => by
      have h3 : k < w.heap.size := hLlt k (by rcases inL3 h2 with h | h | h <;> subst h <;> simp [inL])
      omega).tgs fun k hk => by omega
    clear H2
    ((conv=>whnf);repeat(first|(refine mvT ?_;conv=>whnf)|(refine mvF ?_;conv=>whnf)|(refine cT (by rfl) ?_;conv=>whnf)|(refine cF (by rfl) ?_;conv=>whnf)))
    refine ldS ((Sg.at (A := []) H).cell rfl) ?_;((conv=>whnf);repeat(first|(refine mvT ?_;conv=>whnf)|(refine mvF ?_;conv=>whnf)|(refine cT (by rfl) ?_;conv=>whnf)|(refine cF (by rfl) ?_;conv=>whnf)))
    refine Does.mono (sorted_does H.now.1 hpw (by rw [hperm.length_eq]; exact hu0)) ?_
    rintro r w3 hx3
    replace H := H.e0 hx3
    ((conv=>whnf);repeat(first|(refine mvT ?_;conv=>whnf)|(refine mvF ?_;conv=>whnf)|(refine cT (by rfl) ?_;conv=>whnf)|(refine cF (by rfl) ?_;conv=>whnf)))
    refine ⟨_, rfl, (Sg.at (A := []) H).cells, ?_⟩
    ((conv=>whnf);repeat(first|(refine mvT ?_;conv=>whnf)|(refine mvF ?_;conv=>whnf)|(refine cT (by rfl) ?_;conv=>whnf)|(refine cF (by rfl) ?_;conv=>whnf)))
    refine Sg.st (A := [_, _]) (o' := 0) (m := [.int .i64 0, .slice none 0 0, .bool false, .slice (some ⟨bl, 0, none⟩) 2 2, .slice auv nuv cuv]) H rfl (Nat.le_of_ble_eq_true rfl) rfl ?_
    clear H
    intro w H
    ((conv=>whnf);repeat(first|(refine mvT ?_;conv=>whnf)|(refine mvF ?_;conv=>whnf)|(refine cT (by rfl) ?_;conv=>whnf)|(refine cF (by rfl) ?_;conv=>whnf)))
    refine ⟨_, rfl, (Sg.at (A := [_, _]) H).cells, ?_⟩
    have hP := H.now
    rw [hP1] at hP
    have hbl := Sg.at (A := [_]) H
    refine ⟨.mk 0 [] false [numT n0, .mk 0 [] nl1 ts1 []] u', ?_, ⟨_, rfl, .mk 0 [] false [numT n0, .mk 0 [] nl1 ts1 []] u' _ _ _ [[.int .i64 n0, .slice none 0 0, .bool false, .slice none 0 0, .slice none 0 0], [.int .i64 0, .slice none 0 0, .bool nl1, vl1, .slice none 0 0]] rfl (Bytes.nil _ _) (rows_sl hbl (by simp) rfl (by rw [maxLen_eq]; decide) hblw) rfl ?_ hP.1⟩, H.ext⟩
    · refine .mk _ _ _ _ _ _ _ rfl ?_ hperm hpw
      intro i x y hx hy
      match i, hx, hy with
      | 0, hx, hy => simp only [List.getElem?_cons_succ, List.getElem?_cons_zero, Option.some.injEq] at hx hy; subst hx; subst hy; exact Nrm.leaf _ _ _
      | 1, hx, hy => simp only [List.getElem?_cons_succ, List.getElem?_cons_zero, Option.some.injEq] at hx hy; subst hx; subst hy; exact .mk _ _ _ _ _ _ _ htl1 hnr1 (List.Perm.refl _) List.Pairwise.nil
    · intro i x y hx hy
      match i, hx, hy with
      | 0, hx, hy => simp only [List.getElem?_cons_succ, List.getElem?_cons_zero, Option.some.injEq] at hx hy; subst hx; subst hy; exact TrC.leaf hw0 (Bytes.nil _ _)
      | 1, hx, hy => simp only [List.getElem?_cons_succ, List.getElem?_cons_zero, Option.some.injEq] at hx hy; subst hx; subst hy; exact hP.2.1
theorem ureadAlterReplicaLogDirsResponse {w0 : World} {F : Nat → Prop} {p : Nat} {ty : TypeId} {v : Int} {x ev : Value} {l : List UInt8} (hL : Laid w0 ev) (hp : Own w0 p ty [.int .i16 v, .int .i32 0, .slice none 0 0, .map none]) (hx : Bytes w0 F x l) (hF : ∀ k, F k → k ≠ p) (hv : 0 ≤ v) (hp1 : p ≠ errG) :
    Does X.P 56 #[.pointer (some ⟨p, 0, none⟩), x, .bool true] w0 fun r w' => RdPost w0 p ty v (decide (v ≥ 2)) true dAlterReplicaLogDirsResponse ev l r w' := by
  have hpl := hp.lt
  obtain ⟨fx, hfx⟩ : ∃ fx, fx = decide (v ≥ 2) := ⟨_, rfl⟩
  rw [← hfx]
  obtain ⟨G0, hG0, hx⟩ : ∃ G0 : Nat → Prop, (∀ k, G0 k → k < w0.heap.size ∧ k ≠ p) ∧ Bytes w0 G0 x l := ⟨fun k => F k ∧ k < w0.heap.size, fun k h => ⟨h.2, hF k h.1⟩, Sl.mono hx fun k hk h => ⟨h, hk⟩⟩
  obtain ⟨a0, c0, rfl, _⟩ := hx.view
  refine Does.go (X := X) (l := [_, _, _]) Tryd.func56 rfl (by kernel_rfl) (by kernel_rfl) _ rfl ?_
  ((conv=>whnf);repeat(first|(refine mvT ?_;conv=>whnf)|(refine mvF ?_;conv=>whnf)|(refine cT (by rfl) ?_;conv=>whnf)|(refine cF (by rfl) ?_;conv=>whnf)))
  refine Does.mono (dfAlterReplicaLogDirsResponse (pre := []) (cur := [.int .i16 v, .int .i32 0, .slice none 0 0, .map none]) (post := []) (by simpa using hp) rfl rfl) ?_
  rintro rd wd ⟨hpd, hxd⟩
  ((conv=>whnf);repeat(first|(refine mvT ?_;conv=>whnf)|(refine mvF ?_;conv=>whnf)|(refine cT (by rfl) ?_;conv=>whnf)|(refine cF (by rfl) ?_;conv=>whnf)))
  intro pb w1 hpb hb hx1
  ((conv=>whnf);repeat(first|(refine mvT ?_;conv=>whnf)|(refine mvF ?_;conv=>whnf)|(refine cT (by rfl) ?_;conv=>whnf)|(refine cF (by rfl) ?_;conv=>whnf)))
  refine st_all [.slice a0 l.length c0, .bool false] hb rfl rfl rfl ?_
  intro w hb hx2
  ((conv=>whnf);repeat(first|(refine mvT ?_;conv=>whnf)|(refine mvF ?_;conv=>whnf)|(refine cT (by rfl) ?_;conv=>whnf)|(refine cF (by rfl) ?_;conv=>whnf)))
  have hsd := hxd.size
  have hwp : w0.heap.size ≤ pb := by omega
  have he1 : Ext nob wd w := hx1.trans hx2 fun k hk h => by omega
  have hpw : Own w p ty [.int .i16 v, .int .i32 0, .slice none 0 0, .map none] := by have := hpd.e0 he1; simpa using this
  have he := hxd.tr0 he1
  have H := St.init hpw hb (hx.ext he fun k _ h => (hG0 k h).2) hG0 he hpl hwp
  clear hpd hxd hx1 hx2 hb hpw he1 hp
  refine ldS (H.cell (o := 0) rfl (k := 0) rfl) ?_;((conv=>whnf);repeat(first|(refine mvT ?_;conv=>whnf)|(refine mvF ?_;conv=>whnf)|(refine cT (by rfl) ?_;conv=>whnf)|(refine cF (by rfl) ?_;conv=>whnf)))
  rw [← hfx]
  (refine mvB ?_;((conv=>whnf);repeat(first|(refine mvT ?_;conv=>whnf)|(refine mvF ?_;conv=>whnf)|(refine cT (by rfl) ?_;conv=>whnf)|(refine cF (by rfl) ?_;conv=>whnf))))
  have hup0 : tailBad 9 v fx dAlterReplicaLogDirsResponse (l, false) = true → (rdPart 9 v fx dAlterReplicaLogDirsResponse (l, false)).2.2 = true := id
  refine Does.mono H.int32 ?_
  rintro r w ⟨n1, s1, rfl, hn1, hr1, H⟩
  ((conv=>whnf);repeat(first|(refine mvT ?_;conv=>whnf)|(refine mvF ?_;conv=>whnf)|(refine cT (by rfl) ?_;conv=>whnf)|(refine cF (by rfl) ?_;conv=>whnf)))
  refine H.st1 (v := .int .i32 n1) 1 (rfl) (rfl) rfl (by simp) rfl (Nat.lt_of_lt_of_le (Nat.lt_succ_self _) (Nat.le_of_ble_eq_true rfl)) ?_
  intro w H
  ((conv=>whnf);repeat(first|(refine mvT ?_;conv=>whnf)|(refine mvF ?_;conv=>whnf)|(refine cT (by rfl) ?_;conv=>whnf)|(refine cF (by rfl) ?_;conv=>whnf)))
  replace H : St w0 G0 p pb s1 ((p, ty, [] ++ [.int .i16 v, .int .i32 n1, .slice none 0 0, .map none] ++ []) :: []) (fun _ => True) w := H
  refine ldS (H.cell (o := 0) rfl (k := 2) rfl) ?_;((conv=>whnf);repeat(first|(refine mvT ?_;conv=>whnf)|(refine mvF ?_;conv=>whnf)|(refine cT (by rfl) ?_;conv=>whnf)|(refine cF (by rfl) ?_;conv=>whnf)))
  (refine mvB ?_;((conv=>whnf);repeat(first|(refine mvT ?_;conv=>whnf)|(refine mvF ?_;conv=>whnf)|(refine cT (by rfl) ?_;conv=>whnf)|(refine cF (by rfl) ?_;conv=>whnf))))
  refine VC.cutE (fun q : Int × Rd => [(14, .int .i32 q.1), (13, .slice none 0 0), (0, .pointer (some ⟨p, 0, none⟩)), (2, .bool true), (7, .pointer (some ⟨pb, 0, none⟩)), (8, .int .i16 v), (9, .bool fx), (10, .pointer (some ⟨p, 0, none⟩))]) (fun q w' => (-2147483648 ≤ q.1 ∧ q.1 ≤ 2147483647) ∧ rdLn fx s1 = q ∧ St w0 G0 p pb q.2 ((p, ty, [] ++ [.int .i16 v, .int .i32 n1, .slice none 0 0, .map none] ++ []) :: []) (fun _ => True) w') ?_ ?_
  · refine cI (by rfl) (fun hc=>?_) (fun hc=>?_)
    · ((conv=>whnf);repeat(first|(refine mvT ?_;conv=>whnf)|(refine mvF ?_;conv=>whnf)|(refine cT (by rfl) ?_;conv=>whnf)|(refine cF (by rfl) ?_;conv=>whnf)))
      refine Does.mono H.lnc ?_
      rintro r w ⟨n, s', rfl, hn, hr, H⟩
      ((conv=>whnf);repeat(first|(refine mvT ?_;conv=>whnf)|(refine mvF ?_;conv=>whnf)|(refine cT (by rfl) ?_;conv=>whnf)|(refine cF (by rfl) ?_;conv=>whnf)))
      exact ⟨(n, s'), ⟨rfl, rfl, rfl, rfl, rfl, rfl, rfl, rfl, trivial⟩, hn, by rw [hc]; exact hr, H⟩
    · ((conv=>whnf);repeat(first|(refine mvT ?_;conv=>whnf)|(refine mvF ?_;conv=>whnf)|(refine cT (by rfl) ?_;conv=>whnf)|(refine cF (by rfl) ?_;conv=>whnf)))
      refine Does.mono H.lnp ?_
      rintro r w ⟨n, s', rfl, hn, hr, H⟩
      ((conv=>whnf);repeat(first|(refine mvT ?_;conv=>whnf)|(refine mvF ?_;conv=>whnf)|(refine cT (by rfl) ?_;conv=>whnf)|(refine cF (by rfl) ?_;conv=>whnf)))
      exact ⟨(n, s'), ⟨rfl, rfl, rfl, rfl, rfl, rfl, rfl, rfl, trivial⟩, hn, by rw [hc]; exact hr, H⟩
  clear H
  rintro ⟨n3, s3⟩ w ⟨hn3, hln3, H⟩
  dsimp only at hn3 hln3 H
  ((conv=>whnf);repeat(first|(refine mvT ?_;conv=>whnf)|(refine mvF ?_;conv=>whnf)|(refine cT (by rfl) ?_;conv=>whnf)|(refine cF (by rfl) ?_;conv=>whnf)))
  refine Does.mono H.ok ?_
  rintro r w ⟨rfl, H⟩
  ((conv=>whnf);repeat(first|(refine mvT ?_;conv=>whnf)|(refine mvF ?_;conv=>whnf)|(refine cT (by rfl) ?_;conv=>whnf)|(refine cF (by rfl) ?_;conv=>whnf)))
  refine cI (by rfl) (fun hbd=>?_) (fun hbd=>?_)
  · have hbd : s3.2 = true := by simpa using hbd
    ((conv=>whnf);repeat(first|(refine mvT ?_;conv=>whnf)|(refine mvF ?_;conv=>whnf)|(refine cT (by rfl) ?_;conv=>whnf)|(refine cF (by rfl) ?_;conv=>whnf)))
    refine Does.mono (H.done hL hp1) ?_
    rintro r w ⟨rfl, H⟩
    ((conv=>whnf);repeat(first|(refine mvT ?_;conv=>whnf)|(refine mvF ?_;conv=>whnf)|(refine cT (by rfl) ?_;conv=>whnf)|(refine cF (by rfl) ?_;conv=>whnf)))
    refine RdPost.early hbd (hup0 (?_)) H
    rw [tail_yes (rdField3.trans hr1) ⟨by decide, has_all hv⟩, tail_len ⟨by decide, has_all hv⟩ hln3 hbd]
  have hbd : s3.2 = false := by simpa using hbd
  clear hbd
  ((conv=>whnf);repeat(first|(refine mvT ?_;conv=>whnf)|(refine mvF ?_;conv=>whnf)|(refine cT (by rfl) ?_;conv=>whnf)|(refine cF (by rfl) ?_;conv=>whnf)))
  refine cut_zero ?_
  ((conv=>whnf);repeat(first|(refine mvT ?_;conv=>whnf)|(refine mvF ?_;conv=>whnf)|(refine cT (by rfl) ?_;conv=>whnf)|(refine cF (by rfl) ?_;conv=>whnf)))
  refine VC.cutE (fun a : Value => [(14, .int .i32 n3), (13, a), (0, .pointer (some ⟨p, 0, none⟩)), (2, .bool true), (7, .pointer (some ⟨pb, 0, none⟩)), (8, .int .i16 v), (9, .bool fx), (10, .pointer (some ⟨p, 0, none⟩))]) (fun a w' => ListI w0 G0 p pb 80 [str [], .slice none 0 0, .map none] (elR 8 v fx 10 dAlterReplicaLogDirsResponseTopic) (elQ true 8 10 dAlterReplicaLogDirsResponseTopic) s3 n3 (decide (n3 ≤ 0)) ((p, ty, [] ++ [.int .i16 v, .int .i32 n1, .slice none 0 0, .map none] ++ []) :: []) (fun _ => True) a 0 w') ?_ ?_
  · refine cI (by rfl) (fun hps=>?_) (fun hps=>?_)
    · have hps : 0 < n3 := by have := of_decide_eq_true hps; omega
      ((conv=>whnf);repeat(first|(refine mvT ?_;conv=>whnf)|(refine mvF ?_;conv=>whnf)|(refine cT (by rfl) ?_;conv=>whnf)|(refine cF (by rfl) ?_;conv=>whnf)))
      refine H.grow hps hn3.2 (by decide) rfl rfl (by decide) ?_
      intro g cap post w hc1 hc2 H
      ((conv=>whnf);repeat(first|(refine mvT ?_;conv=>whnf)|(refine mvF ?_;conv=>whnf)|(refine cT (by rfl) ?_;conv=>whnf)|(refine cF (by rfl) ?_;conv=>whnf)))
      exact ⟨_, ⟨rfl, rfl, rfl, rfl, rfl, rfl, rfl, rfl, trivial⟩, ListI.some hps (decide_eq_false (by omega)) hc1 hc2 H⟩
    · have hps : n3 ≤ 0 := by have := of_decide_eq_false hps; omega
      ((conv=>whnf);repeat(first|(refine mvT ?_;conv=>whnf)|(refine mvF ?_;conv=>whnf)|(refine cT (by rfl) ?_;conv=>whnf)|(refine cF (by rfl) ?_;conv=>whnf)))
      exact ⟨_, ⟨rfl, rfl, rfl, rfl, rfl, rfl, rfl, rfl, trivial⟩, ListI.none hps (decide_eq_true hps) H⟩
  clear H
  rintro a3 w H
  ((conv=>whnf);repeat(first|(refine mvT ?_;conv=>whnf)|(refine mvF ?_;conv=>whnf)|(refine cT (by rfl) ?_;conv=>whnf)|(refine cF (by rfl) ?_;conv=>whnf)))
  have hpL3 : inL ((p, ty, [] ++ [.int .i16 v, .int .i32 n1, .slice none 0 0, .map none] ++ []) :: []) p := inL.head _ _
  refine VL.loop (fun i : Nat => [(14, .int .i32 n3), (13, a3), (15, .int .i32 i), (0, .pointer (some ⟨p, 0, none⟩)), (2, .bool true), (7, .pointer (some ⟨pb, 0, none⟩)), (8, .int .i16 v), (9, .bool fx), (10, .pointer (some ⟨p, 0, none⟩))]) (fun i w' => i ≤ 2147483647 ∧ ListI w0 G0 p pb 80 [str [], .slice none 0 0, .map none] (elR 8 v fx 10 dAlterReplicaLogDirsResponseTopic) (elQ true 8 10 dAlterReplicaLogDirsResponseTopic) s3 n3 (decide (n3 ≤ 0)) ((p, ty, [] ++ [.int .i16 v, .int .i32 n1, .slice none 0 0, .map none] ++ []) :: []) (fun _ => True) a3 i w') (fun i => n3.toNat - i) 0 ⟨rfl, rfl, rfl, rfl, rfl, rfl, rfl, rfl, rfl, trivial⟩ ⟨by decide, H⟩ ?_
  clear H
  rintro i3 w ⟨hi3, H⟩
  ((conv=>whnf);repeat(first|(refine mvT ?_;conv=>whnf)|(refine mvF ?_;conv=>whnf)|(refine cT (by rfl) ?_;conv=>whnf)|(refine cF (by rfl) ?_;conv=>whnf)))
  refine cI (by rfl) (fun h9=>?_) (fun h9=>?_)
  · have hlt3 : (i3 : Int) < n3 := of_decide_eq_true h9
    obtain ⟨g3, cap3, post3, rfl, hgo3, HI⟩ := H.go hlt3
    obtain ⟨es3, ts3, si3, hes3, hez3, hrn3, hts3, hlen1, H⟩ := HI.open hgo3.2.2.2.2
    obtain ⟨L3, hL3⟩ : ∃ L : List Ob, L = ((p, ty, [] ++ [.int .i16 v, .int .i32 n1, .slice none 0 0, .map none] ++ []) :: []) := ⟨_, rfl⟩
    rw [← hL3] at H hpL3
    obtain ⟨P3, hP3⟩ : ∃ P : World → Prop, P = fun w => (∀ (j : Nat) (c : List Value) (y : T), es3[j]? = some c → ts3[j]? = some y → elQ true 8 10 dAlterReplicaLogDirsResponseTopic ⟨w, fun k => k ≠ p⟩ c y) ∧ (fun _ => True) w := ⟨_, rfl⟩
    rw [← hP3] at H
    replace H : St w0 G0 p pb si3 ((g3, 80, es3.flatten ++ [str [], .slice none 0 0, .map none] ++ ((List.replicate (n3.toNat - (i3 + 1)) [str [], .slice none 0 0, .map none]).flatten ++ post3)) :: L3) P3 w := H
    ((conv=>whnf);repeat(first|(refine mvT ?_;conv=>whnf)|(refine mvF ?_;conv=>whnf)|(refine cT (by rfl) ?_;conv=>whnf)|(refine cF (by rfl) ?_;conv=>whnf)))
    refine ⟨g3, 0, rfl, ⟨by omega, by omega⟩, ?_⟩
    ((conv=>whnf);repeat(first|(refine mvT ?_;conv=>whnf)|(refine mvF ?_;conv=>whnf)|(refine cT (by rfl) ?_;conv=>whnf)|(refine cF (by rfl) ?_;conv=>whnf)))
    refine Does.mono (dfAlterReplicaLogDirsResponseTopic (pre := es3.flatten) (cur := [str [], .slice none 0 0, .map none]) (post := ((List.replicate (n3.toNat - (i3 + 1)) [str [], .slice none 0 0, .map none]).flatten ++ post3)) H.head (by first | (rw [hlen1]; simp; done) | (simp [hlen1]; done) | (simp [hlen1]; omega)) rfl) ?_
    rintro rd w2 ⟨hdf, hxd⟩
    replace H := H.put hdf hxd
    clear hdf hxd
    replace H : St w0 G0 p pb si3 ((g3, 80, es3.flatten ++ [str [], .slice none 0 0, .map none] ++ ((List.replicate (n3.toNat - (i3 + 1)) [str [], .slice none 0 0, .map none]).flatten ++ post3)) :: L3) P3 w2 := H
    ((conv=>whnf);repeat(first|(refine mvT ?_;conv=>whnf)|(refine mvF ?_;conv=>whnf)|(refine cT (by rfl) ?_;conv=>whnf)|(refine cF (by rfl) ?_;conv=>whnf)))
    have hup3 : tailBad 8 v fx dAlterReplicaLogDirsResponseTopic si3 = true → (rdPart 9 v fx dAlterReplicaLogDirsResponse (l, false)).2.2 = true := by
      intro hb
      refine hup0 ?_
      rw [tail_yes (rdField3.trans hr1) ⟨by decide, has_all hv⟩, tail_el ⟨by decide, has_all hv⟩ hln3 hgo3.2.2.2.2 hrn3 hb]
    (refine mvB ?_;((conv=>whnf);repeat(first|(refine mvT ?_;conv=>whnf)|(refine mvF ?_;conv=>whnf)|(refine cT (by rfl) ?_;conv=>whnf)|(refine cF (by rfl) ?_;conv=>whnf))))
    refine VC.cutE (fun q : List UInt8 × Rd => [(18, str q.1), (0, .pointer (some ⟨p, 0, none⟩)), (2, .bool true), (7, .pointer (some ⟨pb, 0, none⟩)), (8, .int .i16 v), (9, .bool fx), (10, .pointer (some ⟨p, 0, none⟩)), (14, .int .i32 n3), (13, .slice (some ⟨g3, 0, none⟩) n3.toNat cap3), (15, .int .i32 i3), (16, .pointer (some ⟨g3, 0 + (i3 : Int).toNat * 3, none⟩)), (17, .pointer (some ⟨g3, 0 + (i3 : Int).toNat * 3, none⟩))]) (fun q w' => rdTx fx si3 = q ∧ St w0 G0 p pb q.2 ((g3, 80, es3.flatten ++ [str [], .slice none 0 0, .map none] ++ ((List.replicate (n3.toNat - (i3 + 1)) [str [], .slice none 0 0, .map none]).flatten ++ post3)) :: L3) P3 w') ?_ ?_
    · refine cI (by rfl) (fun hc=>?_) (fun hc=>?_)
      · ((conv=>whnf);repeat(first|(refine mvT ?_;conv=>whnf)|(refine mvF ?_;conv=>whnf)|(refine cT (by rfl) ?_;conv=>whnf)|(refine cF (by rfl) ?_;conv=>whnf)))
        refine Does.mono H.utxc ?_
        rintro r w ⟨u, s', rfl, hr, H⟩
        ((conv=>whnf);repeat(first|(refine mvT ?_;conv=>whnf)|(refine mvF ?_;conv=>whnf)|(refine cT (by rfl) ?_;conv=>whnf)|(refine cF (by rfl) ?_;conv=>whnf)))
        exact ⟨(u, s'), ⟨rfl, rfl, rfl, rfl, rfl, rfl, rfl, rfl, rfl, rfl, rfl, rfl, trivial⟩, by rw [hc]; exact hr, H⟩
      · ((conv=>whnf);repeat(first|(refine mvT ?_;conv=>whnf)|(refine mvF ?_;conv=>whnf)|(refine cT (by rfl) ?_;conv=>whnf)|(refine cF (by rfl) ?_;conv=>whnf)))
        refine Does.mono H.utxp ?_
        rintro r w ⟨u, s', rfl, hr, H⟩
        ((conv=>whnf);repeat(first|(refine mvT ?_;conv=>whnf)|(refine mvF ?_;conv=>whnf)|(refine cT (by rfl) ?_;conv=>whnf)|(refine cF (by rfl) ?_;conv=>whnf)))
        exact ⟨(u, s'), ⟨rfl, rfl, rfl, rfl, rfl, rfl, rfl, rfl, rfl, rfl, rfl, rfl, trivial⟩, by rw [hc]; exact hr, H⟩
    clear H
    rintro ⟨u4, s4⟩ w ⟨hr4, H⟩
    dsimp only at hr4 H
    ((conv=>whnf);repeat(first|(refine mvT ?_;conv=>whnf)|(refine mvF ?_;conv=>whnf)|(refine cT (by rfl) ?_;conv=>whnf)|(refine cF (by rfl) ?_;conv=>whnf)))
    refine H.st1 (v := str u4) 0 (rfl) (rfl) rfl (by first | omega | (simp [hlen1]; done) | (simp [hlen1]; omega)) rfl (Nat.lt_of_lt_of_le (Nat.lt_succ_self _) (Nat.le_of_ble_eq_true rfl)) ?_
    intro w H
    ((conv=>whnf);repeat(first|(refine mvT ?_;conv=>whnf)|(refine mvF ?_;conv=>whnf)|(refine cT (by rfl) ?_;conv=>whnf)|(refine cF (by rfl) ?_;conv=>whnf)))
    replace H : St w0 G0 p pb s4 ((g3, 80, es3.flatten ++ [str u4, .slice none 0 0, .map none] ++ ((List.replicate (n3.toNat - (i3 + 1)) [str [], .slice none 0 0, .map none]).flatten ++ post3)) :: L3) P3 w := H
    refine ⟨_, ld (H.cell rfl (k := 1) rfl) (by first | omega | (simp [hlen1]; done) | (simp [hlen1]; omega)), ?_⟩; ((conv=>whnf);repeat(first|(refine mvT ?_;conv=>whnf)|(refine mvF ?_;conv=>whnf)|(refine cT (by rfl) ?_;conv=>whnf)|(refine cF (by rfl) ?_;conv=>whnf)))
    (refine mvB ?_;((conv=>whnf);repeat(first|(refine mvT ?_;conv=>whnf)|(refine mvF ?_;conv=>whnf)|(refine cT (by rfl) ?_;conv=>whnf)|(refine cF (by rfl) ?_;conv=>whnf))))
    refine VC.cutE (fun q : Int × Rd => [(21, .int .i32 q.1), (20, .slice none 0 0), (0, .pointer (some ⟨p, 0, none⟩)), (2, .bool true), (7, .pointer (some ⟨pb, 0, none⟩)), (8, .int .i16 v), (9, .bool fx), (10, .pointer (some ⟨p, 0, none⟩)), (14, .int .i32 n3), (13, .slice (some ⟨g3, 0, none⟩) n3.toNat cap3), (15, .int .i32 i3), (16, .pointer (some ⟨g3, 0 + (i3 : Int).toNat * 3, none⟩)), (17, .pointer (some ⟨g3, 0 + (i3 : Int).toNat * 3, none⟩))]) (fun q w' => (-2147483648 ≤ q.1 ∧ q.1 ≤ 2147483647) ∧ rdLn fx s4 = q ∧ St w0 G0 p pb q.2 ((g3, 80, es3.flatten ++ [str u4, .slice none 0 0, .map none] ++ ((List.replicate (n3.toNat - (i3 + 1)) [str [], .slice none 0 0, .map none]).flatten ++ post3)) :: L3) P3 w') ?_ ?_
    · refine cI (by rfl) (fun hc=>?_) (fun hc=>?_)
      · ((conv=>whnf);repeat(first|(refine mvT ?_;conv=>whnf)|(refine mvF ?_;conv=>whnf)|(refine cT (by rfl) ?_;conv=>whnf)|(refine cF (by rfl) ?_;conv=>whnf)))
        refine Does.mono H.lnc ?_
        rintro r w ⟨n, s', rfl, hn, hr, H⟩
        ((conv=>whnf);repeat(first|(refine mvT ?_;conv=>whnf)|(refine mvF ?_;conv=>whnf)|(refine cT (by rfl) ?_;conv=>whnf)|(refine cF (by rfl) ?_;conv=>whnf)))
        exact ⟨(n, s'), ⟨rfl, rfl, rfl, rfl, rfl, rfl, rfl, rfl, rfl, rfl, rfl, rfl, rfl, trivial⟩, hn, by rw [hc]; exact hr, H⟩
      · ((conv=>whnf);repeat(first|(refine mvT ?_;conv=>whnf)|(refine mvF ?_;conv=>whnf)|(refine cT (by rfl) ?_;conv=>whnf)|(refine cF (by rfl) ?_;conv=>whnf)))
        refine Does.mono H.lnp ?_
        rintro r w ⟨n, s', rfl, hn, hr, H⟩
        ((conv=>whnf);repeat(first|(refine mvT ?_;conv=>whnf)|(refine mvF ?_;conv=>whnf)|(refine cT (by rfl) ?_;conv=>whnf)|(refine cF (by rfl) ?_;conv=>whnf)))
        exact ⟨(n, s'), ⟨rfl, rfl, rfl, rfl, rfl, rfl, rfl, rfl, rfl, rfl, rfl, rfl, rfl, trivial⟩, hn, by rw [hc]; exact hr, H⟩
    clear H
    rintro ⟨n6, s6⟩ w ⟨hn6, hln6, H⟩
    dsimp only at hn6 hln6 H
    ((conv=>whnf);repeat(first|(refine mvT ?_;conv=>whnf)|(refine mvF ?_;conv=>whnf)|(refine cT (by rfl) ?_;conv=>whnf)|(refine cF (by rfl) ?_;conv=>whnf)))
    refine Does.mono H.ok ?_
    rintro r w ⟨rfl, H⟩
    ((conv=>whnf);repeat(first|(refine mvT ?_;conv=>whnf)|(refine mvF ?_;conv=>whnf)|(refine cT (by rfl) ?_;conv=>whnf)|(refine cF (by rfl) ?_;conv=>whnf)))
    refine cI (by rfl) (fun hbd=>?_) (fun hbd=>?_)
    · have hbd : s6.2 = true := by simpa using hbd
      ((conv=>whnf);repeat(first|(refine mvT ?_;conv=>whnf)|(refine mvF ?_;conv=>whnf)|(refine cT (by rfl) ?_;conv=>whnf)|(refine cF (by rfl) ?_;conv=>whnf)))
      refine Does.mono (H.done hL hp1) ?_
      rintro r w ⟨rfl, H⟩
      ((conv=>whnf);repeat(first|(refine mvT ?_;conv=>whnf)|(refine mvF ?_;conv=>whnf)|(refine cT (by rfl) ?_;conv=>whnf)|(refine cF (by rfl) ?_;conv=>whnf)))
      refine RdPost.early hbd (hup3 (?_)) H
      rw [tail_yes (rdField8 (by decide) hr4) ⟨by decide, has_all hv⟩, tail_len ⟨by decide, has_all hv⟩ hln6 hbd]
    have hbd : s6.2 = false := by simpa using hbd
    clear hbd
    ((conv=>whnf);repeat(first|(refine mvT ?_;conv=>whnf)|(refine mvF ?_;conv=>whnf)|(refine cT (by rfl) ?_;conv=>whnf)|(refine cF (by rfl) ?_;conv=>whnf)))
    refine cut_zero ?_
    ((conv=>whnf);repeat(first|(refine mvT ?_;conv=>whnf)|(refine mvF ?_;conv=>whnf)|(refine cT (by rfl) ?_;conv=>whnf)|(refine cF (by rfl) ?_;conv=>whnf)))
    refine VC.cutE (fun a : Value => [(21, .int .i32 n6), (20, a), (0, .pointer (some ⟨p, 0, none⟩)), (2, .bool true), (7, .pointer (some ⟨pb, 0, none⟩)), (8, .int .i16 v), (9, .bool fx), (10, .pointer (some ⟨p, 0, none⟩)), (14, .int .i32 n3), (13, .slice (some ⟨g3, 0, none⟩) n3.toNat cap3), (15, .int .i32 i3), (16, .pointer (some ⟨g3, 0 + (i3 : Int).toNat * 3, none⟩)), (17, .pointer (some ⟨g3, 0 + (i3 : Int).toNat * 3, none⟩))]) (fun a w' => ListI w0 G0 p pb 107 [.int .i32 0, .int .i16 0, .map none] (elR 7 v fx 10 dAlterReplicaLogDirsResponseTopicPartition) (elQ true 7 10 dAlterReplicaLogDirsResponseTopicPartition) s6 n6 (decide (n6 ≤ 0)) ((g3, 80, es3.flatten ++ [str u4, .slice none 0 0, .map none] ++ ((List.replicate (n3.toNat - (i3 + 1)) [str [], .slice none 0 0, .map none]).flatten ++ post3)) :: L3) P3 a 0 w') ?_ ?_
    · refine cI (by rfl) (fun hps=>?_) (fun hps=>?_)
      · have hps : 0 < n6 := by have := of_decide_eq_true hps; omega
        ((conv=>whnf);repeat(first|(refine mvT ?_;conv=>whnf)|(refine mvF ?_;conv=>whnf)|(refine cT (by rfl) ?_;conv=>whnf)|(refine cF (by rfl) ?_;conv=>whnf)))
        refine H.grow hps hn6.2 (by decide) rfl rfl (by decide) ?_
        intro g cap post w hc1 hc2 H
        ((conv=>whnf);repeat(first|(refine mvT ?_;conv=>whnf)|(refine mvF ?_;conv=>whnf)|(refine cT (by rfl) ?_;conv=>whnf)|(refine cF (by rfl) ?_;conv=>whnf)))
        exact ⟨_, ⟨rfl, rfl, rfl, rfl, rfl, rfl, rfl, rfl, rfl, rfl, rfl, rfl, rfl, trivial⟩, ListI.some hps (decide_eq_false (by omega)) hc1 hc2 H⟩
      · have hps : n6 ≤ 0 := by have := of_decide_eq_false hps; omega
        ((conv=>whnf);repeat(first|(refine mvT ?_;conv=>whnf)|(refine mvF ?_;conv=>whnf)|(refine cT (by rfl) ?_;conv=>whnf)|(refine cF (by rfl) ?_;conv=>whnf)))
        exact ⟨_, ⟨rfl, rfl, rfl, rfl, rfl, rfl, rfl, rfl, rfl, rfl, rfl, rfl, rfl, trivial⟩, ListI.none hps (decide_eq_true hps) H⟩
    clear H
    rintro a6 w H
    ((conv=>whnf);repeat(first|(refine mvT ?_;conv=>whnf)|(refine mvF ?_;conv=>whnf)|(refine cT (by rfl) ?_;conv=>whnf)|(refine cF (by rfl) ?_;conv=>whnf)))
    have hpL6 : inL ((g3, 80, es3.flatten ++ [str u4, .slice none 0 0, .map none] ++ ((List.replicate (n3.toNat - (i3 + 1)) [str [], .slice none 0 0, .map none]).flatten ++ post3)) :: L3) p := inL.tail hpL3
    refine VL.loop (fun i : Nat => [(21, .int .i32 n6), (20, a6), (22, .int .i32 i), (0, .pointer (some ⟨p, 0, none⟩)), (2, .bool true), (7, .pointer (some ⟨pb, 0, none⟩)), (8, .int .i16 v), (9, .bool fx), (10, .pointer (some ⟨p, 0, none⟩)), (14, .int .i32 n3), (13, .slice (some ⟨g3, 0, none⟩) n3.toNat cap3), (15, .int .i32 i3), (16, .pointer (some ⟨g3, 0 + (i3 : Int).toNat * 3, none⟩)), (17, .pointer (some ⟨g3, 0 + (i3 : Int).toNat * 3, none⟩))]) (fun i w' => i ≤ 2147483647 ∧ ListI w0 G0 p pb 107 [.int .i32 0, .int .i16 0, .map none] (elR 7 v fx 10 dAlterReplicaLogDirsResponseTopicPartition) (elQ true 7 10 dAlterReplicaLogDirsResponseTopicPartition) s6 n6 (decide (n6 ≤ 0)) ((g3, 80, es3.flatten ++ [str u4, .slice none 0 0, .map none] ++ ((List.replicate (n3.toNat - (i3 + 1)) [str [], .slice none 0 0, .map none]).flatten ++ post3)) :: L3) P3 a6 i w') (fun i => n6.toNat - i) 0 ⟨rfl, rfl, rfl, rfl, rfl, rfl, rfl, rfl, rfl, rfl, rfl, rfl, rfl, rfl, trivial⟩ ⟨by decide, H⟩ ?_
    clear H
    rintro i6 w ⟨hi6, H⟩
    ((conv=>whnf);repeat(first|(refine mvT ?_;conv=>whnf)|(refine mvF ?_;conv=>whnf)|(refine cT (by rfl) ?_;conv=>whnf)|(refine cF (by rfl) ?_;conv=>whnf)))
    refine cI (by rfl) (fun h9=>?_) (fun h9=>?_)
    · have hlt6 : (i6 : Int) < n6 := of_decide_eq_true h9
      obtain ⟨g6, cap6, post6, rfl, hgo6, HI⟩ := H.go hlt6
      obtain ⟨es6, ts6, si6, hes6, hez6, hrn6, hts6, hlen2, H⟩ := HI.open hgo6.2.2.2.2
      obtain ⟨L6, hL6⟩ : ∃ L : List Ob, L = ((g3, 80, es3.flatten ++ [str u4, .slice none 0 0, .map none] ++ ((List.replicate (n3.toNat - (i3 + 1)) [str [], .slice none 0 0, .map none]).flatten ++ post3)) :: L3) := ⟨_, rfl⟩
      rw [← hL6] at H hpL6
      obtain ⟨P6, hP6⟩ : ∃ P : World → Prop, P = fun w => (∀ (j : Nat) (c : List Value) (y : T), es6[j]? = some c → ts6[j]? = some y → elQ true 7 10 dAlterReplicaLogDirsResponseTopicPartition ⟨w, fun k => k ≠ p⟩ c y) ∧ P3 w := ⟨_, rfl⟩
      rw [← hP6] at H
      replace H : St w0 G0 p pb si6 ((g6, 107, es6.flatten ++ [.int .i32 0, .int .i16 0, .map none] ++ ((List.replicate (n6.toNat - (i6 + 1)) [.int .i32 0, .int .i16 0, .map none]).flatten ++ post6)) :: L6) P6 w := H
      ((conv=>whnf);repeat(first|(refine mvT ?_;conv=>whnf)|(refine mvF ?_;conv=>whnf)|(refine cT (by rfl) ?_;conv=>whnf)|(refine cF (by rfl) ?_;conv=>whnf)))
      refine ⟨g6, 0, rfl, ⟨by omega, by omega⟩, ?_⟩
      ((conv=>whnf);repeat(first|(refine mvT ?_;conv=>whnf)|(refine mvF ?_;conv=>whnf)|(refine cT (by rfl) ?_;conv=>whnf)|(refine cF (by rfl) ?_;conv=>whnf)))
      refine Does.mono (dfAlterReplicaLogDirsResponseTopicPartition (pre := es6.flatten) (cur := [.int .i32 0, .int .i16 0, .map none]) (post := ((List.replicate (n6.toNat - (i6 + 1)) [.int .i32 0, .int .i16 0, .map none]).flatten ++ post6)) H.head (by first | (rw [hlen2]; simp; done) | (simp [hlen2]; done) | (simp [hlen2]; omega)) rfl) ?_
      rintro rd w2 ⟨hdf, hxd⟩
      replace H := H.put hdf hxd
      clear hdf hxd
      replace H : St w0 G0 p pb si6 ((g6, 107, es6.flatten ++ [.int .i32 0, .int .i16 0, .map none] ++ ((List.replicate (n6.toNat - (i6 + 1)) [.int .i32 0, .int .i16 0, .map none]).flatten ++ post6)) :: L6) P6 w2 := H
      ((conv=>whnf);repeat(first|(refine mvT ?_;conv=>whnf)|(refine mvF ?_;conv=>whnf)|(refine cT (by rfl) ?_;conv=>whnf)|(refine cF (by rfl) ?_;conv=>whnf)))
      have hup6 : tailBad 7 v fx dAlterReplicaLogDirsResponseTopicPartition si6 = true → (rdPart 9 v fx dAlterReplicaLogDirsResponse (l, false)).2.2 = true := by
        intro hb
        refine hup3 ?_
        rw [tail_yes (rdField8 (by decide) hr4) ⟨by decide, has_all hv⟩, tail_el ⟨by decide, has_all hv⟩ hln6 hgo6.2.2.2.2 hrn6 hb]
      refine Does.mono H.int32 ?_
      rintro r w ⟨n7, s7, rfl, hn7, hr7, H⟩
      ((conv=>whnf);repeat(first|(refine mvT ?_;conv=>whnf)|(refine mvF ?_;conv=>whnf)|(refine cT (by rfl) ?_;conv=>whnf)|(refine cF (by rfl) ?_;conv=>whnf)))
      refine H.st1 (v := .int .i32 n7) 0 (rfl) (rfl) rfl (by first | omega | (simp [hlen2]; done) | (simp [hlen2]; omega)) rfl (Nat.lt_of_lt_of_le (Nat.lt_succ_self _) (Nat.le_of_ble_eq_true rfl)) ?_
      intro w H
      ((conv=>whnf);repeat(first|(refine mvT ?_;conv=>whnf)|(refine mvF ?_;conv=>whnf)|(refine cT (by rfl) ?_;conv=>whnf)|(refine cF (by rfl) ?_;conv=>whnf)))
      replace H : St w0 G0 p pb s7 ((g6, 107, es6.flatten ++ [.int .i32 n7, .int .i16 0, .map none] ++ ((List.replicate (n6.toNat - (i6 + 1)) [.int .i32 0, .int .i16 0, .map none]).flatten ++ post6)) :: L6) P6 w := H
      refine Does.mono H.int16 ?_
      rintro r w ⟨n9, s9, rfl, hn9, hr9, H⟩
      ((conv=>whnf);repeat(first|(refine mvT ?_;conv=>whnf)|(refine mvF ?_;conv=>whnf)|(refine cT (by rfl) ?_;conv=>whnf)|(refine cF (by rfl) ?_;conv=>whnf)))
      refine H.st1 (v := .int .i16 n9) 1 (rfl) (rfl) rfl (by first | omega | (simp [hlen2]; done) | (simp [hlen2]; omega)) rfl (Nat.lt_of_lt_of_le (Nat.lt_succ_self _) (Nat.le_of_ble_eq_true rfl)) ?_
      intro w H
      ((conv=>whnf);repeat(first|(refine mvT ?_;conv=>whnf)|(refine mvF ?_;conv=>whnf)|(refine cT (by rfl) ?_;conv=>whnf)|(refine cF (by rfl) ?_;conv=>whnf)))
      replace H : St w0 G0 p pb s9 ((g6, 107, es6.flatten ++ [.int .i32 n7, .int .i16 n9, .map none] ++ ((List.replicate (n6.toNat - (i6 + 1)) [.int .i32 0, .int .i16 0, .map none]).flatten ++ post6)) :: L6) P6 w := H
      (refine mvB ?_;((conv=>whnf);repeat(first|(refine mvT ?_;conv=>whnf)|(refine mvF ?_;conv=>whnf)|(refine cT (by rfl) ?_;conv=>whnf)|(refine cF (by rfl) ?_;conv=>whnf))))
      refine VC.cutB (fun q : Value × List Tg × Rd => [(0, .pointer (some ⟨p, 0, none⟩)), (2, .bool true), (7, .pointer (some ⟨pb, 0, none⟩)), (8, .int .i16 v), (9, .bool fx), (10, .pointer (some ⟨p, 0, none⟩)), (14, .int .i32 n3), (13, .slice (some ⟨g3, 0, none⟩) n3.toNat cap3), (15, .int .i32 i3), (16, .pointer (some ⟨g3, 0 + (i3 : Int).toNat * 3, none⟩)), (17, .pointer (some ⟨g3, 0 + (i3 : Int).toNat * 3, none⟩)), (21, .int .i32 n6), (20, .slice (some ⟨g6, 0, none⟩) n6.toNat cap6), (22, .int .i32 i6), (23, .pointer (some ⟨g6, 0 + (i6 : Int).toNat * 3, none⟩)), (24, .pointer (some ⟨g6, 0 + (i6 : Int).toNat * 3, none⟩))]) (fun q w' => rdTagsF fx s9 = q.2 ∧ St w0 G0 p pb q.2.2 ((g6, 107, es6.flatten ++ [.int .i32 n7, .int .i16 n9, q.1] ++ ((List.replicate (n6.toNat - (i6 + 1)) [.int .i32 0, .int .i16 0, .map none]).flatten ++ post6)) :: L6) (fun w => TGf p q.1 q.2.1 w ∧ P6 w) w') ?_ ?_
      · refine cI (by rfl) (fun hc=>?_) (fun hc=>?_)
        · ((conv=>whnf);repeat(first|(refine mvT ?_;conv=>whnf)|(refine mvF ?_;conv=>whnf)|(refine cT (by rfl) ?_;conv=>whnf)|(refine cF (by rfl) ?_;conv=>whnf)))
          refine Does.mono H.tags ?_
          rintro r w ⟨m, u, s', rfl, hone, hr, H⟩
          ((conv=>whnf);repeat(first|(refine mvT ?_;conv=>whnf)|(refine mvF ?_;conv=>whnf)|(refine cT (by rfl) ?_;conv=>whnf)|(refine cF (by rfl) ?_;conv=>whnf)))
          refine H.st1 (v := m) 2 (rfl) (hone) rfl (by first | omega | (simp [hlen2]; done) | (simp [hlen2]; omega)) rfl (Nat.lt_of_lt_of_le (Nat.lt_succ_self _) (Nat.le_of_ble_eq_true rfl)) ?_
          intro w H
          ((conv=>whnf);repeat(first|(refine mvT ?_;conv=>whnf)|(refine mvF ?_;conv=>whnf)|(refine cT (by rfl) ?_;conv=>whnf)|(refine cF (by rfl) ?_;conv=>whnf)))
          exact ⟨(m, u, s'), ⟨rfl, rfl, rfl, rfl, rfl, rfl, rfl, rfl, rfl, rfl, rfl, rfl, rfl, rfl, rfl, rfl, trivial⟩, by rw [rdTagsF, if_pos hc]; exact hr, H⟩
        · ((conv=>whnf);repeat(first|(refine mvT ?_;conv=>whnf)|(refine mvF ?_;conv=>whnf)|(refine cT (by rfl) ?_;conv=>whnf)|(refine cF (by rfl) ?_;conv=>whnf)))
          exact ⟨(.map none, [], s9), ⟨rfl, rfl, rfl, rfl, rfl, rfl, rfl, rfl, rfl, rfl, rfl, rfl, rfl, rfl, rfl, rfl, trivial⟩, by rw [rdTagsF, if_neg (by rw [hc]; decide)], H.add fun w' _ => TagsR.nil _ _⟩
      clear H
      rintro ⟨m11, u11, s11⟩ w ⟨htg, H⟩
      dsimp only at htg H
      ((conv=>whnf);repeat(first|(refine mvT ?_;conv=>whnf)|(refine mvF ?_;conv=>whnf)|(refine cT (by rfl) ?_;conv=>whnf)|(refine cF (by rfl) ?_;conv=>whnf)))
      obtain ⟨P12, hP12⟩ : ∃ P : World → Prop, P = fun w => TGf p m11 u11 w ∧ P6 w := ⟨_, rfl⟩
      replace H : St w0 G0 p pb s11 ((g6, 107, es6.flatten ++ [.int .i32 n7, .int .i16 n9, m11] ++ ((List.replicate (n6.toNat - (i6 + 1)) [.int .i32 0, .int .i16 0, .map none]).flatten ++ post6)) :: L6) P12 w := by rw [hP12]; exact H
      have hpart : rdPart 7 v fx dAlterReplicaLogDirsResponseTopicPartition si6 = (.mk 0 [] false [numT n7, numT n9] u11, s11) := by
        unfold rdPart rdPartW
        rw [rdAll_yes (df := dfT 7) (rdField3.trans hr7) ⟨by decide, has_all hv⟩, rdAll_yes (df := dfT 7) (rdField2.trans hr9) ⟨by decide, has_all hv⟩]
        simp only [rdAll]
        rw [htg]
      refine ⟨i6 + 1, ⟨rfl, rfl, ?_, rfl, rfl, rfl, rfl, rfl, rfl, rfl, rfl, rfl, rfl, rfl, trivial⟩, ⟨by omega, ListI.back hgo6 (LoopI.next hes6 hez6 hrn6 hts6 (cur := [.int .i32 n7, .int .i16 n9, m11]) (x := .mk 0 [] false [numT n7, numT n9] u11) (hpart) rfl (by rw [← hL6]; exact H) fun w hP => ?_)⟩, by omega⟩
      · show some (Value.int .i32 _) = _
        rw [IntKind.wrap_i32]
        simp only [Option.some.injEq, Value.int.injEq, true_and]
        omega
      · skip
        rw [hP12] at hP
        obtain ⟨hf12_, hP⟩ := hP
        rw [hP6] at hP
        exact ⟨QPt (QA1 (QF3 hn7) (QA1 (QF2 hn9) (QA0))) hf12_, hP⟩
    have hge6 : ¬ (i6 : Int) < n6 := of_decide_eq_false h9
    obtain ⟨l13, s13, hone13, hl13, hr13, H⟩ := H.done hge6 hln6 (nl := nlF (.mk 11 0 (-1) (-1) (-1) 0 10 dAlterReplicaLogDirsResponseTopicPartition) v) (sz := elZ true 7 10 dAlterReplicaLogDirsResponseTopicPartition) rfl hpL6 rfl
    ((conv=>whnf);repeat(first|(refine mvT ?_;conv=>whnf)|(refine mvF ?_;conv=>whnf)|(refine cT (by rfl) ?_;conv=>whnf)|(refine cF (by rfl) ?_;conv=>whnf)))
    obtain ⟨P14, hP14⟩ : ∃ P : World → Prop, P = fun w => ListR true (elZ true 7 10 dAlterReplicaLogDirsResponseTopicPartition) (elQ true 7 10 dAlterReplicaLogDirsResponseTopicPartition ⟨w, fun k => k ≠ p⟩) w (fun k => k ≠ p) a6 (.mk 0 [] (decide (n6 ≤ 0)) l13 []) ∧ P3 w := ⟨_, rfl⟩
    replace H : St w0 G0 p pb s13 ((g3, 80, es3.flatten ++ [str u4, .slice none 0 0, .map none] ++ ((List.replicate (n3.toNat - (i3 + 1)) [str [], .slice none 0 0, .map none]).flatten ++ post3)) :: L3) P14 w := by rw [hP14]; exact H
    refine H.st1 (v := a6) 1 (cells_one hone13) (hone13) rfl (by first | omega | (simp [hlen1]; done) | (simp [hlen1]; omega)) rfl (Nat.lt_of_lt_of_le (Nat.lt_succ_self _) (Nat.le_of_ble_eq_true rfl)) ?_
    intro w H
    ((conv=>whnf);repeat(first|(refine mvT ?_;conv=>whnf)|(refine mvF ?_;conv=>whnf)|(refine cT (by rfl) ?_;conv=>whnf)|(refine cF (by rfl) ?_;conv=>whnf)))
    replace H : St w0 G0 p pb s13 ((g3, 80, es3.flatten ++ [str u4, a6, .map none] ++ ((List.replicate (n3.toNat - (i3 + 1)) [str [], .slice none 0 0, .map none]).flatten ++ post3)) :: L3) P14 w := H
    (refine mvB ?_;((conv=>whnf);repeat(first|(refine mvT ?_;conv=>whnf)|(refine mvF ?_;conv=>whnf)|(refine cT (by rfl) ?_;conv=>whnf)|(refine cF (by rfl) ?_;conv=>whnf))))
    refine VC.cutB (fun q : Value × List Tg × Rd => [(0, .pointer (some ⟨p, 0, none⟩)), (2, .bool true), (7, .pointer (some ⟨pb, 0, none⟩)), (8, .int .i16 v), (9, .bool fx), (10, .pointer (some ⟨p, 0, none⟩)), (14, .int .i32 n3), (13, .slice (some ⟨g3, 0, none⟩) n3.toNat cap3), (15, .int .i32 i3), (16, .pointer (some ⟨g3, 0 + (i3 : Int).toNat * 3, none⟩)), (17, .pointer (some ⟨g3, 0 + (i3 : Int).toNat * 3, none⟩))]) (fun q w' => rdTagsF fx s13 = q.2 ∧ St w0 G0 p pb q.2.2 ((g3, 80, es3.flatten ++ [str u4, a6, q.1] ++ ((List.replicate (n3.toNat - (i3 + 1)) [str [], .slice none 0 0, .map none]).flatten ++ post3)) :: L3) (fun w => TGf p q.1 q.2.1 w ∧ P14 w) w') ?_ ?_
    · refine cI (by rfl) (fun hc=>?_) (fun hc=>?_)
      · ((conv=>whnf);repeat(first|(refine mvT ?_;conv=>whnf)|(refine mvF ?_;conv=>whnf)|(refine cT (by rfl) ?_;conv=>whnf)|(refine cF (by rfl) ?_;conv=>whnf)))
        refine Does.mono H.tags ?_
        rintro r w ⟨m, u, s', rfl, hone, hr, H⟩
        ((conv=>whnf);repeat(first|(refine mvT ?_;conv=>whnf)|(refine mvF ?_;conv=>whnf)|(refine cT (by rfl) ?_;conv=>whnf)|(refine cF (by rfl) ?_;conv=>whnf)))
        refine H.st1 (v := m) 2 (rfl) (hone) rfl (by first | omega | (simp [hlen1]; done) | (simp [hlen1]; omega)) rfl (Nat.lt_of_lt_of_le (Nat.lt_succ_self _) (Nat.le_of_ble_eq_true rfl)) ?_
        intro w H
        ((conv=>whnf);repeat(first|(refine mvT ?_;conv=>whnf)|(refine mvF ?_;conv=>whnf)|(refine cT (by rfl) ?_;conv=>whnf)|(refine cF (by rfl) ?_;conv=>whnf)))
        exact ⟨(m, u, s'), ⟨rfl, rfl, rfl, rfl, rfl, rfl, rfl, rfl, rfl, rfl, rfl, trivial⟩, by rw [rdTagsF, if_pos hc]; exact hr, H⟩
      · ((conv=>whnf);repeat(first|(refine mvT ?_;conv=>whnf)|(refine mvF ?_;conv=>whnf)|(refine cT (by rfl) ?_;conv=>whnf)|(refine cF (by rfl) ?_;conv=>whnf)))
        exact ⟨(.map none, [], s13), ⟨rfl, rfl, rfl, rfl, rfl, rfl, rfl, rfl, rfl, rfl, rfl, trivial⟩, by rw [rdTagsF, if_neg (by rw [hc]; decide)], H.add fun w' _ => TagsR.nil _ _⟩
    clear H
    rintro ⟨m16, u16, s16⟩ w ⟨htg, H⟩
    dsimp only at htg H
    ((conv=>whnf);repeat(first|(refine mvT ?_;conv=>whnf)|(refine mvF ?_;conv=>whnf)|(refine cT (by rfl) ?_;conv=>whnf)|(refine cF (by rfl) ?_;conv=>whnf)))
    obtain ⟨P17, hP17⟩ : ∃ P : World → Prop, P = fun w => TGf p m16 u16 w ∧ P14 w := ⟨_, rfl⟩
    replace H : St w0 G0 p pb s16 ((g3, 80, es3.flatten ++ [str u4, a6, m16] ++ ((List.replicate (n3.toNat - (i3 + 1)) [str [], .slice none 0 0, .map none]).flatten ++ post3)) :: L3) P17 w := by rw [hP17]; exact H
    have hpart : rdPart 8 v fx dAlterReplicaLogDirsResponseTopic si3 = (.mk 0 [] false [.mk 0 u4 false [] [], .mk 0 [] (decide (n6 ≤ 0)) l13 []] u16, s16) := by
      unfold rdPart rdPartW
      rw [rdAll_yes (df := dfT 8) (rdField8 (by decide) hr4) ⟨by decide, has_all hv⟩, rdAll_yes (df := dfT 8) ((rdField_list _ _ _ _ _ _ _ _ _ _ _).trans hr13) ⟨by decide, has_all hv⟩]
      simp only [rdAll]
      rw [htg]
    refine ⟨i3 + 1, ⟨rfl, rfl, ?_, rfl, rfl, rfl, rfl, rfl, rfl, trivial⟩, ⟨by omega, ListI.back hgo3 (LoopI.next hes3 hez3 hrn3 hts3 (cur := [str u4, a6, m16]) (x := .mk 0 [] false [.mk 0 u4 false [] [], .mk 0 [] (decide (n6 ≤ 0)) l13 []] u16) (hpart) rfl (by rw [← hL3]; exact H) fun w hP => ?_)⟩, by omega⟩
    · show some (Value.int .i32 _) = _
      rw [IntKind.wrap_i32]
      simp only [Option.some.injEq, Value.int.injEq, true_and]
      omega
    · skip
      rw [hP17] at hP
      obtain ⟨hf17_, hP⟩ := hP
      rw [hP14] at hP
      obtain ⟨hf14_, hP⟩ := hP
      rw [hP3] at hP
      exact ⟨QPt (QA1 (QF8 (by decide) u4) (QA1 (QF11 hl13 hf14_) (QA0))) hf17_, hP⟩
  have hge3 : ¬ (i3 : Int) < n3 := of_decide_eq_false h9
  obtain ⟨l18, s18, hone18, hl18, hr18, H⟩ := H.done hge3 hln3 (nl := nlF (.mk 11 0 (-1) (-1) (-1) 0 10 dAlterReplicaLogDirsResponseTopic) v) (sz := elZ true 8 10 dAlterReplicaLogDirsResponseTopic) rfl hpL3 rfl
  ((conv=>whnf);repeat(first|(refine mvT ?_;conv=>whnf)|(refine mvF ?_;conv=>whnf)|(refine cT (by rfl) ?_;conv=>whnf)|(refine cF (by rfl) ?_;conv=>whnf)))
  obtain ⟨P19, hP19⟩ : ∃ P : World → Prop, P = fun w => ListR true (elZ true 8 10 dAlterReplicaLogDirsResponseTopic) (elQ true 8 10 dAlterReplicaLogDirsResponseTopic ⟨w, fun k => k ≠ p⟩) w (fun k => k ≠ p) a3 (.mk 0 [] (decide (n3 ≤ 0)) l18 []) ∧ (fun _ => True) w := ⟨_, rfl⟩
  replace H : St w0 G0 p pb s18 ((p, ty, [] ++ [.int .i16 v, .int .i32 n1, .slice none 0 0, .map none] ++ []) :: []) P19 w := by rw [hP19]; exact H
  refine H.st1 (v := a3) 2 (cells_one hone18) (hone18) rfl (by simp) rfl (Nat.lt_of_lt_of_le (Nat.lt_succ_self _) (Nat.le_of_ble_eq_true rfl)) ?_
  intro w H
  ((conv=>whnf);repeat(first|(refine mvT ?_;conv=>whnf)|(refine mvF ?_;conv=>whnf)|(refine cT (by rfl) ?_;conv=>whnf)|(refine cF (by rfl) ?_;conv=>whnf)))
  replace H : St w0 G0 p pb s18 ((p, ty, [] ++ [.int .i16 v, .int .i32 n1, a3, .map none] ++ []) :: []) P19 w := H
  (refine mvB ?_;((conv=>whnf);repeat(first|(refine mvT ?_;conv=>whnf)|(refine mvF ?_;conv=>whnf)|(refine cT (by rfl) ?_;conv=>whnf)|(refine cF (by rfl) ?_;conv=>whnf))))
  refine VC.cutE (fun q : Value × List Tg × Rd => [(0, .pointer (some ⟨p, 0, none⟩)), (2, .bool true), (7, .pointer (some ⟨pb, 0, none⟩)), (8, .int .i16 v), (9, .bool fx), (10, .pointer (some ⟨p, 0, none⟩))]) (fun q w' => rdTagsF fx s18 = q.2 ∧ St w0 G0 p pb q.2.2 ((p, ty, [] ++ [.int .i16 v, .int .i32 n1, a3, q.1] ++ []) :: []) (fun w => TGf p q.1 q.2.1 w ∧ P19 w) w') ?_ ?_
  · refine cI (by rfl) (fun hc=>?_) (fun hc=>?_)
    · ((conv=>whnf);repeat(first|(refine mvT ?_;conv=>whnf)|(refine mvF ?_;conv=>whnf)|(refine cT (by rfl) ?_;conv=>whnf)|(refine cF (by rfl) ?_;conv=>whnf)))
      refine Does.mono H.tags ?_
      rintro r w ⟨m, u, s', rfl, hone, hr, H⟩
      ((conv=>whnf);repeat(first|(refine mvT ?_;conv=>whnf)|(refine mvF ?_;conv=>whnf)|(refine cT (by rfl) ?_;conv=>whnf)|(refine cF (by rfl) ?_;conv=>whnf)))
      refine H.st1 (v := m) 3 (rfl) (hone) rfl (by simp) rfl (Nat.lt_of_lt_of_le (Nat.lt_succ_self _) (Nat.le_of_ble_eq_true rfl)) ?_
      intro w H
      ((conv=>whnf);repeat(first|(refine mvT ?_;conv=>whnf)|(refine mvF ?_;conv=>whnf)|(refine cT (by rfl) ?_;conv=>whnf)|(refine cF (by rfl) ?_;conv=>whnf)))
      exact ⟨(m, u, s'), ⟨rfl, rfl, rfl, rfl, rfl, rfl, trivial⟩, by rw [rdTagsF, if_pos hc]; exact hr, H⟩
    · ((conv=>whnf);repeat(first|(refine mvT ?_;conv=>whnf)|(refine mvF ?_;conv=>whnf)|(refine cT (by rfl) ?_;conv=>whnf)|(refine cF (by rfl) ?_;conv=>whnf)))
      exact ⟨(.map none, [], s18), ⟨rfl, rfl, rfl, rfl, rfl, rfl, trivial⟩, by rw [rdTagsF, if_neg (by rw [hc]; decide)], H.add fun w' _ => TagsR.nil _ _⟩
  clear H
  rintro ⟨m21, u21, s21⟩ w ⟨htg, H⟩
  dsimp only at htg H
  ((conv=>whnf);repeat(first|(refine mvT ?_;conv=>whnf)|(refine mvF ?_;conv=>whnf)|(refine cT (by rfl) ?_;conv=>whnf)|(refine cF (by rfl) ?_;conv=>whnf)))
  obtain ⟨P22, hP22⟩ : ∃ P : World → Prop, P = fun w => TGf p m21 u21 w ∧ P19 w := ⟨_, rfl⟩
  replace H : St w0 G0 p pb s21 ((p, ty, [] ++ [.int .i16 v, .int .i32 n1, a3, m21] ++ []) :: []) P22 w := by rw [hP22]; exact H
  have hpart : rdPart 9 v fx dAlterReplicaLogDirsResponse (l, false) = (.mk 0 [] false [numT n1, .mk 0 [] (decide (n3 ≤ 0)) l18 []] u21, s21) := by
    unfold rdPart rdPartW
    rw [rdAll_yes (df := dfT 9) (rdField3.trans hr1) ⟨by decide, has_all hv⟩, rdAll_yes (df := dfT 9) ((rdField_list _ _ _ _ _ _ _ _ _ _ _).trans hr18) ⟨by decide, has_all hv⟩]
    simp only [rdAll]
    rw [htg]
  refine Does.mono (H.done hL hp1) ?_
  rintro r w ⟨rfl, H⟩
  ((conv=>whnf);repeat(first|(refine mvT ?_;conv=>whnf)|(refine mvF ?_;conv=>whnf)|(refine cT (by rfl) ?_;conv=>whnf)|(refine cF (by rfl) ?_;conv=>whnf)))
  refine RdPost.end hpart H fun hP => ?_
  rw [hP22] at hP
  obtain ⟨hf22_, hP⟩ := hP
  rw [hP19] at hP
  obtain ⟨hf19_, hP⟩ := hP
  exact QPt (QA1 (QF3 hn1) (QA1 (QF11 hl18 hf19_) (QA0))) hf22_
theorem newAlterReplicaLogDirsResponse (w : World) : Does X.P 35 #[] w fun r w' => ∃ p, r = .pointer (some ⟨p, 0, none⟩) ∧ w.heap.size ≤ p ∧ Own w' p 75 [.int .i16 0, .int .i32 0, .slice none 0 0, .map none] ∧ Ext nob w w' := by
  refine Does.go (X := X) (l := []) Tryd.func35 rfl (by kernel_rfl) (by kernel_rfl) _ rfl ?_
  ((conv=>whnf);repeat(first|(refine mvT ?_;conv=>whnf)|(refine mvF ?_;conv=>whnf)|(refine cT (by rfl) ?_;conv=>whnf)|(refine cF (by rfl) ?_;conv=>whnf)))
  intro p w1 hp ho hx
  ((conv=>whnf);repeat(first|(refine mvT ?_;conv=>whnf)|(refine mvF ?_;conv=>whnf)|(refine cT (by rfl) ?_;conv=>whnf)|(refine cF (by rfl) ?_;conv=>whnf)))
  refine Does.mono (dfAlterReplicaLogDirsResponse (pre := []) (cur := [.int .i16 0, .int .i32 0, .slice none 0 0, .map none]) (post := []) (by simpa using ho) rfl rfl) ?_;rintro r2 w2 ⟨hd, hx2⟩;((conv=>whnf);repeat(first|(refine mvT ?_;conv=>whnf)|(refine mvF ?_;conv=>whnf)|(refine cT (by rfl) ?_;conv=>whnf)|(refine cF (by rfl) ?_;conv=>whnf)))
  exact ⟨p, rfl, hp, by simpa using hd, hx.st hx2 hp⟩
theorem maxAlterReplicaLogDirsResponse (w : World) : Does X.P 16 #[] w fun r w' => r = .int .i64 2 ∧ Ext nob w w' := by
  have hmax : ∀ (p : Nat) (w : World), Does X.P 36 #[.pointer (some ⟨p, 0, none⟩)] w fun r w' => r = .int .i16 2 ∧ w' = w := by
    intro p w
    refine Does.go (X := X) (l := [_]) Tryd.func36 rfl (by kernel_rfl) (by kernel_rfl) _ rfl ?_
    ((conv=>whnf);repeat(first|(refine mvT ?_;conv=>whnf)|(refine mvF ?_;conv=>whnf)|(refine cT (by rfl) ?_;conv=>whnf)|(refine cF (by rfl) ?_;conv=>whnf)))
    exact ⟨rfl, rfl⟩
  refine Does.go (X := X) (l := []) Tryd.func16 rfl (by kernel_rfl) (by kernel_rfl) _ rfl ?_
  ((conv=>whnf);repeat(first|(refine mvT ?_;conv=>whnf)|(refine mvF ?_;conv=>whnf)|(refine cT (by rfl) ?_;conv=>whnf)|(refine cF (by rfl) ?_;conv=>whnf)))
  refine Does.mono (newAlterReplicaLogDirsResponse w) ?_;rintro r1 w1 ⟨p, rfl, _, _, hx⟩;((conv=>whnf);repeat(first|(refine mvT ?_;conv=>whnf)|(refine mvF ?_;conv=>whnf)|(refine cT (by rfl) ?_;conv=>whnf)|(refine cF (by rfl) ?_;conv=>whnf)))
  refine Does.mono (hmax p w1) ?_;rintro r2 w2 ⟨rfl, rfl⟩;((conv=>whnf);repeat(first|(refine mvT ?_;conv=>whnf)|(refine mvF ?_;conv=>whnf)|(refine cT (by rfl) ?_;conv=>whnf)|(refine cF (by rfl) ?_;conv=>whnf)))
  exact ⟨rfl, hx⟩
theorem anyAlterReplicaLogDirsResponse {G : Nat → Prop} {w : World} {v : Int} {x ev : Value} {s : List UInt8} (hL : Laid w ev) (hx : Bytes w G x s) (hv : 0 ≤ v) (hv2 : v < 32768) (hs : s.length ≤ 1000) :
    Does X.P 17 #[.int .i64 v, x] w fun r w' => ∃ o t', r = .tuple #[o, .bool (!(rdPart 9 v (decide (v ≥ 2)) dAlterReplicaLogDirsResponse (s, false)).2.2)] ∧ ((rdPart 9 v (decide (v ≥ 2)) dAlterReplicaLogDirsResponse (s, false)).2.2 = false → Nrm (rdPart 9 v (decide (v ≥ 2)) dAlterReplicaLogDirsResponse (s, false)).1 t') ∧ Tr w' (fun k => w.heap.size ≤ k) o t' ∧ Ext nob w w' := by
  have hv16 : IntKind.i16.wrap v = v := by
    simp only [IntKind.wrap, IntKind.bits, IntKind.signed]
    simp
    omega
  have hok : ∀ f, f ∈ dAlterReplicaLogDirsResponse → okF 9 f = true := List.all_eq_true.1 (show (dAlterReplicaLogDirsResponse).all (okF 9) = true by decide)
  obtain ⟨ax, cx, rfl, _⟩ := hx.view
  have hL1 := hL.lt
  refine Does.go (X := X) (l := [_, _]) Tryd.func17 rfl (by kernel_rfl) (by kernel_rfl) _ rfl ?_
  ((conv=>whnf);repeat(first|(refine mvT ?_;conv=>whnf)|(refine mvF ?_;conv=>whnf)|(refine cT (by rfl) ?_;conv=>whnf)|(refine cF (by rfl) ?_;conv=>whnf)))
  intro b w0 hb ho hx0
  ((conv=>whnf);repeat(first|(refine mvT ?_;conv=>whnf)|(refine mvF ?_;conv=>whnf)|(refine cT (by rfl) ?_;conv=>whnf)|(refine cF (by rfl) ?_;conv=>whnf)))
  refine Does.mono (newAlterReplicaLogDirsResponse w0) ?_;rintro r1 w1 ⟨p, rfl, hwp, hop, hx1⟩;((conv=>whnf);repeat(first|(refine mvT ?_;conv=>whnf)|(refine mvF ?_;conv=>whnf)|(refine cT (by rfl) ?_;conv=>whnf)|(refine cF (by rfl) ?_;conv=>whnf)))
  have hwp : w.heap.size ≤ p := Nat.le_trans hx0.size hwp
  have hpb : p ≠ b := by have := ho.lt; omega
  have hx01 := hx0.e0 hx1
  have hset : Does X.P 37 #[.pointer (some ⟨p, 0, none⟩), .int .i16 (IntKind.i16.wrap v)] w1 fun r w' => Own w' p 75 [.int .i16 v, .int .i32 0, .slice none 0 0, .map none] ∧ Ext (fun k => k = p) w1 w' := by
    rw [hv16]
    refine Does.go (X := X) (l := [_, _]) Tryd.func37 rfl (by kernel_rfl) (by kernel_rfl) _ rfl ?_
    ((conv=>whnf);repeat(first|(refine mvT ?_;conv=>whnf)|(refine mvF ?_;conv=>whnf)|(refine cT (by rfl) ?_;conv=>whnf)|(refine cF (by rfl) ?_;conv=>whnf)))
    refine ⟨_, _, hop, rfl, rfl, rfl, ?_⟩
    intro w3 ho3 hx3
    ((conv=>whnf);repeat(first|(refine mvT ?_;conv=>whnf)|(refine mvF ?_;conv=>whnf)|(refine cT (by rfl) ?_;conv=>whnf)|(refine cF (by rfl) ?_;conv=>whnf)))
    exact ⟨ho3, hx3⟩
  refine Does.mono (hset) ?_;rintro r2 w2 ⟨hop2, hx2⟩;((conv=>whnf);repeat(first|(refine mvT ?_;conv=>whnf)|(refine mvF ?_;conv=>whnf)|(refine cT (by rfl) ?_;conv=>whnf)|(refine cF (by rfl) ?_;conv=>whnf)))
  have hx02 := hx01.st hx2 hwp
  have ho2 := (ho.e0 hx1).ext hx2 (fun e => hpb e.symm)
  refine app_bytes rfl rfl (OB.nil w2 w2.heap.size) (hx.e0 hx02).src rfl (by simp only [List.length_nil]; omega) (Nat.le_refl _) ?_
  intro x3 w3 h3 hx3 _ _
  ((conv=>whnf);repeat(first|(refine mvT ?_;conv=>whnf)|(refine mvF ?_;conv=>whnf)|(refine cT (by rfl) ?_;conv=>whnf)|(refine cF (by rfl) ?_;conv=>whnf)))
  rw [List.nil_append] at h3
  have hx3 : Ext nob w2 w3 := hx3.mono fun k _ h => by simp [Value.ownBlock] at h
  have hx03 := hx02.e0 hx3
  have hpl := hop2.lt
  have hread : Does X.P 38 #[.pointer (some ⟨p, 0, none⟩), x3] w3 fun r w' => RdPost w3 p 75 v (decide (v ≥ 2)) true dAlterReplicaLogDirsResponse ev s r w' := by
    obtain ⟨a3, c3, rfl, _⟩ := h3.shape
    refine Does.go (X := X) (l := [_, _]) Tryd.func38 rfl (by kernel_rfl) (by kernel_rfl) _ rfl ?_
    ((conv=>whnf);repeat(first|(refine mvT ?_;conv=>whnf)|(refine mvF ?_;conv=>whnf)|(refine cT (by rfl) ?_;conv=>whnf)|(refine cF (by rfl) ?_;conv=>whnf)))
    refine Does.mono (readAlterReplicaLogDirsResponse (hL.ext hx03 fun f => f) (hop2.e0 hx3) (h3.bytes (F := fun k => k ≠ p) fun k hk => by omega) (fun k h => h) hv (by omega)) ?_;rintro r w' h;((conv=>whnf);repeat(first|(refine mvT ?_;conv=>whnf)|(refine mvF ?_;conv=>whnf)|(refine cT (by rfl) ?_;conv=>whnf)|(refine cF (by rfl) ?_;conv=>whnf)))
    exact h
  refine Does.mono hread ?_
  rintro r4 w4 ⟨hr4, hx4, hpost⟩
  have hlg := rdPart_lg (B := 1000) (Nat.le_refl _) 9 v (decide (v ≥ 2)) dAlterReplicaLogDirsResponse hok (by decide) (s, false) hs
  generalize rdPart 9 v (decide (v ≥ 2)) dAlterReplicaLogDirsResponse (s, false) = R at hr4 hpost hlg ⊢
  have hx04 := hx03.st hx4 hwp
  have ho4 := (ho2.e0 hx3).ext hx4 (fun e => hpb e.symm)
  have hbl4 := ho4.lt
  have hsz4 := hx04.size
  cases hbad : R.2.2 with
  | true =>
    rw [hbad, if_pos rfl] at hr4
    obtain ⟨te, xe, hev⟩ := hL.iface
    rw [hev] at hr4
    subst hr4
    ((conv=>whnf);repeat(first|(refine mvT ?_;conv=>whnf)|(refine mvF ?_;conv=>whnf)|(refine cT (by rfl) ?_;conv=>whnf)|(refine cF (by rfl) ?_;conv=>whnf)))
    refine st_all [.int .i64 0, .slice none 0 0, .bool false, .slice none 0 0, .slice none 0 0] ho4 rfl rfl rfl ?_
    intro w6 ho6 hx6
    ((conv=>whnf);repeat(first|(refine mvT ?_;conv=>whnf)|(refine mvF ?_;conv=>whnf)|(refine cT (by rfl) ?_;conv=>whnf)|(refine cF (by rfl) ?_;conv=>whnf)))
    refine ⟨_, rfl, ho6.cells, ?_⟩
    exact ⟨_, T.zero, rfl, fun h => (by cases h), ⟨_, rfl, TrC.leaf rfl (Bytes.nil _ _)⟩, hx04.st hx6 hb⟩
  | false =>
    rw [hbad, if_neg Bool.false_ne_true] at hr4
    subst hr4
    obtain ⟨cs, hop4, hq⟩ := hpost hbad
    have hlim := (hlg hbad).1.lim (by decide)
    ((conv=>whnf);repeat(first|(refine mvT ?_;conv=>whnf)|(refine mvF ?_;conv=>whnf)|(refine cT (by rfl) ?_;conv=>whnf)|(refine cF (by rfl) ?_;conv=>whnf)))
    refine Does.mono (tellAlterReplicaLogDirsResponse hop4.cells hq hlim) ?_
    rintro r5 w5 ⟨t', hn, ⟨cr, rfl, htr⟩, hx5⟩
    have hlen5 := htr.len
    have hok5 := htr.ok
    ((conv=>whnf);repeat(first|(refine mvT ?_;conv=>whnf)|(refine mvF ?_;conv=>whnf)|(refine cT (by rfl) ?_;conv=>whnf)|(refine cF (by rfl) ?_;conv=>whnf)))
    refine st_all cr (ho4.e0 hx5) hlen5 rfl hok5 ?_
    intro w6 ho6 hx6
    ((conv=>whnf);repeat(first|(refine mvT ?_;conv=>whnf)|(refine mvF ?_;conv=>whnf)|(refine cT (by rfl) ?_;conv=>whnf)|(refine cF (by rfl) ?_;conv=>whnf)))
    refine ⟨cr, hlen5, ho6.cells, ?_⟩
    exact ⟨_, t', rfl, fun _ => hn, ⟨_, rfl, (htr.ext hx6 fun k _ h e => by omega).mono fun k _ h => by omega⟩, (hx04.e0 hx5).st hx6 hb⟩
theorem uanyAlterReplicaLogDirsResponse {G : Nat → Prop} {w : World} {v : Int} {x ev : Value} {s : List UInt8} (hL : Laid w ev) (hx : Bytes w G x s) (hv : 0 ≤ v) (hv2 : v < 32768) (hs : s.length ≤ 1000) :
    Does X.P 18 #[.int .i64 v, x] w fun r w' => ∃ o t', r = .tuple #[o, .bool (!(rdPart 9 v (decide (v ≥ 2)) dAlterReplicaLogDirsResponse (s, false)).2.2)] ∧ ((rdPart 9 v (decide (v ≥ 2)) dAlterReplicaLogDirsResponse (s, false)).2.2 = false → Nrm (rdPart 9 v (decide (v ≥ 2)) dAlterReplicaLogDirsResponse (s, false)).1 t') ∧ Tr w' (fun k => w.heap.size ≤ k) o t' ∧ Ext nob w w' := by
  have hv16 : IntKind.i16.wrap v = v := by
    simp only [IntKind.wrap, IntKind.bits, IntKind.signed]
    simp
    omega
  have hok : ∀ f, f ∈ dAlterReplicaLogDirsResponse → okF 9 f = true := List.all_eq_true.1 (show (dAlterReplicaLogDirsResponse).all (okF 9) = true by decide)
  obtain ⟨ax, cx, rfl, _⟩ := hx.view
  have hL1 := hL.lt
  refine Does.go (X := X) (l := [_, _]) Tryd.func18 rfl (by kernel_rfl) (by kernel_rfl) _ rfl ?_
  ((conv=>whnf);repeat(first|(refine mvT ?_;conv=>whnf)|(refine mvF ?_;conv=>whnf)|(refine cT (by rfl) ?_;conv=>whnf)|(refine cF (by rfl) ?_;conv=>whnf)))
  intro b w0 hb ho hx0
  ((conv=>whnf);repeat(first|(refine mvT ?_;conv=>whnf)|(refine mvF ?_;conv=>whnf)|(refine cT (by rfl) ?_;conv=>whnf)|(refine cF (by rfl) ?_;conv=>whnf)))
  refine Does.mono (newAlterReplicaLogDirsResponse w0) ?_;rintro r1 w1 ⟨p, rfl, hwp, hop, hx1⟩;((conv=>whnf);repeat(first|(refine mvT ?_;conv=>whnf)|(refine mvF ?_;conv=>whnf)|(refine cT (by rfl) ?_;conv=>whnf)|(refine cF (by rfl) ?_;conv=>whnf)))
  have hwp : w.heap.size ≤ p := Nat.le_trans hx0.size hwp
  have hpb : p ≠ b := by have := ho.lt; omega
  have hx01 := hx0.e0 hx1
  have hset : Does X.P 37 #[.pointer (some ⟨p, 0, none⟩), .int .i16 (IntKind.i16.wrap v)] w1 fun r w' => Own w' p 75 [.int .i16 v, .int .i32 0, .slice none 0 0, .map none] ∧ Ext (fun k => k = p) w1 w' := by
    rw [hv16]
    refine Does.go (X := X) (l := [_, _]) Tryd.func37 rfl (by kernel_rfl) (by kernel_rfl) _ rfl ?_
    ((conv=>whnf);repeat(first|(refine mvT ?_;conv=>whnf)|(refine mvF ?_;conv=>whnf)|(refine cT (by rfl) ?_;conv=>whnf)|(refine cF (by rfl) ?_;conv=>whnf)))
    refine ⟨_, _, hop, rfl, rfl, rfl, ?_⟩
    intro w3 ho3 hx3
    ((conv=>whnf);repeat(first|(refine mvT ?_;conv=>whnf)|(refine mvF ?_;conv=>whnf)|(refine cT (by rfl) ?_;conv=>whnf)|(refine cF (by rfl) ?_;conv=>whnf)))
    exact ⟨ho3, hx3⟩
  refine Does.mono (hset) ?_;rintro r2 w2 ⟨hop2, hx2⟩;((conv=>whnf);repeat(first|(refine mvT ?_;conv=>whnf)|(refine mvF ?_;conv=>whnf)|(refine cT (by rfl) ?_;conv=>whnf)|(refine cF (by rfl) ?_;conv=>whnf)))
  have hx02 := hx01.st hx2 hwp
  have ho2 := (ho.e0 hx1).ext hx2 (fun e => hpb e.symm)
  refine app_bytes rfl rfl (OB.nil w2 w2.heap.size) (hx.e0 hx02).src rfl (by simp only [List.length_nil]; omega) (Nat.le_refl _) ?_
  intro x3 w3 h3 hx3 _ _
  ((conv=>whnf);repeat(first|(refine mvT ?_;conv=>whnf)|(refine mvF ?_;conv=>whnf)|(refine cT (by rfl) ?_;conv=>whnf)|(refine cF (by rfl) ?_;conv=>whnf)))
  rw [List.nil_append] at h3
  have hx3 : Ext nob w2 w3 := hx3.mono fun k _ h => by simp [Value.ownBlock] at h
  have hx03 := hx02.e0 hx3
  have hpl := hop2.lt
  have hread : Does X.P 40 #[.pointer (some ⟨p, 0, none⟩), x3] w3 fun r w' => RdPost w3 p 75 v (decide (v ≥ 2)) true dAlterReplicaLogDirsResponse ev s r w' := by
    obtain ⟨a3, c3, rfl, _⟩ := h3.shape
    refine Does.go (X := X) (l := [_, _]) Tryd.func40 rfl (by kernel_rfl) (by kernel_rfl) _ rfl ?_
    ((conv=>whnf);repeat(first|(refine mvT ?_;conv=>whnf)|(refine mvF ?_;conv=>whnf)|(refine cT (by rfl) ?_;conv=>whnf)|(refine cF (by rfl) ?_;conv=>whnf)))
    refine Does.mono (ureadAlterReplicaLogDirsResponse (hL.ext hx03 fun f => f) (hop2.e0 hx3) (h3.bytes (F := fun k => k ≠ p) fun k hk => by omega) (fun k h => h) hv (by omega)) ?_;rintro r w' h;((conv=>whnf);repeat(first|(refine mvT ?_;conv=>whnf)|(refine mvF ?_;conv=>whnf)|(refine cT (by rfl) ?_;conv=>whnf)|(refine cF (by rfl) ?_;conv=>whnf)))
    exact h
  refine Does.mono hread ?_
  rintro r4 w4 ⟨hr4, hx4, hpost⟩
  have hlg := rdPart_lg (B := 1000) (Nat.le_refl _) 9 v (decide (v ≥ 2)) dAlterReplicaLogDirsResponse hok (by decide) (s, false) hs
  generalize rdPart 9 v (decide (v ≥ 2)) dAlterReplicaLogDirsResponse (s, false) = R at hr4 hpost hlg ⊢
  have hx04 := hx03.st hx4 hwp
  have ho4 := (ho2.e0 hx3).ext hx4 (fun e => hpb e.symm)
  have hbl4 := ho4.lt
  have hsz4 := hx04.size
  cases hbad : R.2.2 with
  | true =>
    rw [hbad, if_pos rfl] at hr4
    obtain ⟨te, xe, hev⟩ := hL.iface
    rw [hev] at hr4
    subst hr4
    ((conv=>whnf);repeat(first|(refine mvT ?_;conv=>whnf)|(refine mvF ?_;conv=>whnf)|(refine cT (by rfl) ?_;conv=>whnf)|(refine cF (by rfl) ?_;conv=>whnf)))
    refine st_all [.int .i64 0, .slice none 0 0, .bool false, .slice none 0 0, .slice none 0 0] ho4 rfl rfl rfl ?_
    intro w6 ho6 hx6
    ((conv=>whnf);repeat(first|(refine mvT ?_;conv=>whnf)|(refine mvF ?_;conv=>whnf)|(refine cT (by rfl) ?_;conv=>whnf)|(refine cF (by rfl) ?_;conv=>whnf)))
    refine ⟨_, rfl, ho6.cells, ?_⟩
    exact ⟨_, T.zero, rfl, fun h => (by cases h), ⟨_, rfl, TrC.leaf rfl (Bytes.nil _ _)⟩, hx04.st hx6 hb⟩
  | false =>
    rw [hbad, if_neg Bool.false_ne_true] at hr4
    subst hr4
    obtain ⟨cs, hop4, hq⟩ := hpost hbad
    have hlim := (hlg hbad).1.lim (by decide)
    ((conv=>whnf);repeat(first|(refine mvT ?_;conv=>whnf)|(refine mvF ?_;conv=>whnf)|(refine cT (by rfl) ?_;conv=>whnf)|(refine cF (by rfl) ?_;conv=>whnf)))
    refine Does.mono (tellAlterReplicaLogDirsResponse hop4.cells hq hlim) ?_
    rintro r5 w5 ⟨t', hn, ⟨cr, rfl, htr⟩, hx5⟩
    have hlen5 := htr.len
    have hok5 := htr.ok
    ((conv=>whnf);repeat(first|(refine mvT ?_;conv=>whnf)|(refine mvF ?_;conv=>whnf)|(refine cT (by rfl) ?_;conv=>whnf)|(refine cF (by rfl) ?_;conv=>whnf)))
    refine st_all cr (ho4.e0 hx5) hlen5 rfl hok5 ?_
    intro w6 ho6 hx6
    ((conv=>whnf);repeat(first|(refine mvT ?_;conv=>whnf)|(refine mvF ?_;conv=>whnf)|(refine cT (by rfl) ?_;conv=>whnf)|(refine cF (by rfl) ?_;conv=>whnf)))
    refine ⟨cr, hlen5, ho6.cells, ?_⟩
    exact ⟨_, t', rfl, fun _ => hn, ⟨_, rfl, (htr.ext hx6 fun k _ h e => by omega).mono fun k _ h => by omega⟩, (hx04.e0 hx5).st hx6 hb⟩
theorem walkAlterReplicaLogDirsResponse {w : World} {n : Nat} (hn : n < 256) {y ev : Value} {l : List UInt8} (hL : Laid w ev) (hy : Bytes w anyB y l) : Does X.P 5 #[.int .u8 n, y] w fun r w' => r = .bool true ∧ Ext nob w w' := by
  have hok : ∀ f, f ∈ dAlterReplicaLogDirsResponse → okF 9 f = true := List.all_eq_true.1 (show (dAlterReplicaLogDirsResponse).all (okF 9) = true by decide)
  obtain ⟨ay, cy, rfl, _⟩ := hy.view
  refine Does.go (X := X) (l := [_, _]) Tryd.func5 rfl (by kernel_rfl) (by kernel_rfl) _ rfl ?_
  ((conv=>whnf);repeat(first|(refine mvT ?_;conv=>whnf)|(refine mvF ?_;conv=>whnf)|(refine cT (by rfl) ?_;conv=>whnf)|(refine cF (by rfl) ?_;conv=>whnf)))
  refine cI (by rfl) (fun h0=>?_) (fun h0=>?_)
  · ((conv=>whnf);repeat(first|(refine mvT ?_;conv=>whnf)|(refine mvF ?_;conv=>whnf)|(refine cT (by rfl) ?_;conv=>whnf)|(refine cF (by rfl) ?_;conv=>whnf)))
    exact ⟨rfl, Ext.refl _ _⟩
  ((conv=>whnf);repeat(first|(refine mvT ?_;conv=>whnf)|(refine mvF ?_;conv=>whnf)|(refine cT (by rfl) ?_;conv=>whnf)|(refine cF (by rfl) ?_;conv=>whnf)))
  refine Does.mono (maxAlterReplicaLogDirsResponse w) ?_;rintro r1 w1 ⟨rfl, hx1⟩;((conv=>whnf);repeat(first|(refine mvT ?_;conv=>whnf)|(refine mvF ?_;conv=>whnf)|(refine cT (by rfl) ?_;conv=>whnf)|(refine cF (by rfl) ?_;conv=>whnf)))
  refine cI (by rfl) (fun h2=>?_) (fun h2=>?_)
  · ((conv=>whnf);repeat(first|(refine mvT ?_;conv=>whnf)|(refine mvF ?_;conv=>whnf)|(refine cT (by rfl) ?_;conv=>whnf)|(refine cF (by rfl) ?_;conv=>whnf)))
    exact ⟨rfl, hx1⟩
  have hl1 : l.length ≤ 1000 := by have := of_decide_eq_false h2; omega
  ((conv=>whnf);repeat(first|(refine mvT ?_;conv=>whnf)|(refine mvF ?_;conv=>whnf)|(refine cT (by rfl) ?_;conv=>whnf)|(refine cF (by rfl) ?_;conv=>whnf)))
  refine Does.mono (version_does n 2 hn (by omega) w1) ?_;rintro r2 w2 ⟨rfl, rfl⟩;((conv=>whnf);repeat(first|(refine mvT ?_;conv=>whnf)|(refine mvF ?_;conv=>whnf)|(refine cT (by rfl) ?_;conv=>whnf)|(refine cF (by rfl) ?_;conv=>whnf)))
  generalize hvv : ((n % (2 + 1) : Nat) : Int) = v
  have hv0 : 0 ≤ v := by omega
  have hv1 : v < 32768 := by omega
  refine Does.mono (anyAlterReplicaLogDirsResponse (v := v) (hL.ext hx1 fun f => f) (hy.e0 hx1) hv0 hv1 hl1) ?_
  rintro r3 w3 ⟨o3, t3, rfl, hn3, ⟨c3, rfl, hc3⟩, hx3⟩
  have hlen3 := hc3.len
  have hok3 := hc3.ok
  ((conv=>whnf);repeat(first|(refine mvT ?_;conv=>whnf)|(refine mvF ?_;conv=>whnf)|(refine cT (by rfl) ?_;conv=>whnf)|(refine cF (by rfl) ?_;conv=>whnf)))
  intro b4 w4 hb4 ho4 hx4
  ((conv=>whnf);repeat(first|(refine mvT ?_;conv=>whnf)|(refine mvF ?_;conv=>whnf)|(refine cT (by rfl) ?_;conv=>whnf)|(refine cF (by rfl) ?_;conv=>whnf)))
  refine st_all c3 ho4 hlen3 rfl hok3 ?_
  intro w5 ho5 hx5
  have hx35 : Ext nob w3 w5 := hx4.st hx5 hb4
  have hx05 := (hx1.e0 hx3).e0 hx35
  ((conv=>whnf);repeat(first|(refine mvT ?_;conv=>whnf)|(refine mvF ?_;conv=>whnf)|(refine cT (by rfl) ?_;conv=>whnf)|(refine cF (by rfl) ?_;conv=>whnf)))
  refine Does.mono (version_does n 2 hn (by omega) w5) ?_;rintro r6 w6 ⟨rfl, rfl⟩;((conv=>whnf);repeat(first|(refine mvT ?_;conv=>whnf)|(refine mvF ?_;conv=>whnf)|(refine cT (by rfl) ?_;conv=>whnf)|(refine cF (by rfl) ?_;conv=>whnf)))
  rw [hvv]
  refine Does.mono (uanyAlterReplicaLogDirsResponse (v := v) (hL.ext hx05 fun f => f) (hy.e0 hx05) hv0 hv1 hl1) ?_
  rintro r7 w7 ⟨o7, t7, rfl, hn7, ⟨c7, rfl, hc7⟩, hx7⟩
  have hlen7 := hc7.len
  have hok7 := hc7.ok
  ((conv=>whnf);repeat(first|(refine mvT ?_;conv=>whnf)|(refine mvF ?_;conv=>whnf)|(refine cT (by rfl) ?_;conv=>whnf)|(refine cF (by rfl) ?_;conv=>whnf)))
  intro b8 w8 hb8 ho8 hx8
  ((conv=>whnf);repeat(first|(refine mvT ?_;conv=>whnf)|(refine mvF ?_;conv=>whnf)|(refine cT (by rfl) ?_;conv=>whnf)|(refine cF (by rfl) ?_;conv=>whnf)))
  refine st_all c7 ho8 hlen7 rfl hok7 ?_
  intro w9 ho9 hx9
  have hx79 : Ext nob w7 w9 := hx8.st hx9 hb8
  have hx09 := (hx05.e0 hx7).e0 hx79
  have hlg := rdPart_lg (B := 1000) (Nat.le_refl _) 9 v (decide (v ≥ 2)) dAlterReplicaLogDirsResponse hok (by decide) (l, false) hl1
  have hxd : Ext nob w9 w9.drew := ext_drew _
  have ho5d := (ho5.e0 hx7).e0 (hx79.e0 hxd)
  have ho9d := ho9.e0 hxd
  have hc3d := ((hc3.e0 hx35).e0 hx7).e0 (hx79.e0 hxd)
  have hc7d := hc7.e0 (hx79.e0 hxd)
  generalize rdPart 9 v (decide (v ≥ 2)) dAlterReplicaLogDirsResponse (l, false) = R at hn3 hn7 hlg ⊢
  cases hbad : R.2.2 with
  | true =>
    ((conv=>whnf);repeat(first|(refine mvT ?_;conv=>whnf)|(refine mvF ?_;conv=>whnf)|(refine cT (by rfl) ?_;conv=>whnf)|(refine cF (by rfl) ?_;conv=>whnf)))
    refine VD.draw mixed (.q 0 (.q 1 (.q 2 (.q 3 (.q 4 (.q 5 (.q 6 (.q 7 (.q 9 (.eff 8 [9] (.eff 10 [] (.eff 11 [] (.q 12 (.q 13 (.eff 14 [] (.done)))))))))))))))) (by kernel_rfl) ?_;((conv=>whnf);repeat(first|(refine mvT ?_;conv=>whnf)|(refine mvF ?_;conv=>whnf)|(refine cT (by rfl) ?_;conv=>whnf)|(refine cF (by rfl) ?_;conv=>whnf)))
    refine ⟨by (conv => whnf); exact ⟨⟨rfl, rfl⟩, trivial⟩, ?_⟩
    ((conv=>whnf);repeat(first|(refine mvT ?_;conv=>whnf)|(refine mvF ?_;conv=>whnf)|(refine cT (by rfl) ?_;conv=>whnf)|(refine cF (by rfl) ?_;conv=>whnf)))
    exact ⟨rfl, hx09.e0 hxd⟩
  | false =>
    have hlm := (hlg hbad).1
    have hlim := hlm.lim (by decide)
    have hN3 := hn3 hbad
    have hN7 := hn7 hbad
    have hsm3 := Nrm.small hlim hN3
    obtain rfl := Nrm.same hlim hN3 hN7
    ((conv=>whnf);repeat(first|(refine mvT ?_;conv=>whnf)|(refine mvF ?_;conv=>whnf)|(refine cT (by rfl) ?_;conv=>whnf)|(refine cF (by rfl) ?_;conv=>whnf)))
    refine VD.draw mixed (.q 0 (.q 1 (.q 2 (.q 3 (.q 4 (.q 5 (.q 6 (.q 7 (.q 9 (.eff 8 [9] (.eff 10 [] (.eff 11 [] (.q 12 (.q 13 (.eff 14 [] (.done)))))))))))))))) (by kernel_rfl) ?_;((conv=>whnf);repeat(first|(refine mvT ?_;conv=>whnf)|(refine mvF ?_;conv=>whnf)|(refine cT (by rfl) ?_;conv=>whnf)|(refine cF (by rfl) ?_;conv=>whnf)))
    refine ⟨c3, hlen3, ho5d.cells, ?_⟩
    ((conv=>whnf);repeat(first|(refine mvT ?_;conv=>whnf)|(refine mvF ?_;conv=>whnf)|(refine cT (by rfl) ?_;conv=>whnf)|(refine cF (by rfl) ?_;conv=>whnf)))
    refine ⟨c7, hlen7, ho9d.cells, ?_⟩
    ((conv=>whnf);repeat(first|(refine mvT ?_;conv=>whnf)|(refine mvF ?_;conv=>whnf)|(refine cT (by rfl) ?_;conv=>whnf)|(refine cF (by rfl) ?_;conv=>whnf)))
    refine Does.mono (got_does ⟨_, rfl, hc3d⟩ hsm3) ?_
    rintro r10 w10 ⟨hr10, hx10⟩
    refine ⟨by (conv => whnf); exact ⟨⟨c7, hlen7, (ho9d.e0 hx10).cells, rfl, rfl⟩, trivial⟩, ?_⟩
    ((conv=>whnf);repeat(first|(refine mvT ?_;conv=>whnf)|(refine mvF ?_;conv=>whnf)|(refine cT (by rfl) ?_;conv=>whnf)|(refine cF (by rfl) ?_;conv=>whnf)))
    refine Does.mono (got_does ⟨_, rfl, hc7d.e0 hx10⟩ hsm3) ?_
    rintro r11 w11 ⟨hr11, hx11⟩
    ((conv=>whnf);repeat(first|(refine mvT ?_;conv=>whnf)|(refine mvF ?_;conv=>whnf)|(refine cT (by rfl) ?_;conv=>whnf)|(refine cF (by rfl) ?_;conv=>whnf)))
    refine Does.mono (same_does (hr10.e0 hx11) hr11) ?_
    rintro r12 w12 ⟨rfl, hx12⟩
    ((conv=>whnf);repeat(first|(refine mvT ?_;conv=>whnf)|(refine mvF ?_;conv=>whnf)|(refine cT (by rfl) ?_;conv=>whnf)|(refine cF (by rfl) ?_;conv=>whnf)))
    exact ⟨rfl, (((hx09.e0 hxd).e0 hx10).e0 hx11).e0 hx12⟩
end Go.Proofs.YtmmieooipcfbiabDoorR.K
