/- AddOffsetsToTxnRequest. -/
import Derived.Test.YteciepjfbipfgaaC3
import Derived.Test.YteciepjfbipfgaaGversion
set_option linter.unusedVariables false
set_option linter.unusedSimpArgs false
namespace Go.Proofs.Yteciepjfbipfgaa.K
open Go
set_option maxHeartbeats 1600000
set_option maxRecDepth 100000

abbrev dAddOffsetsToTxnRequest : List Fd := [.mk 8 0 (-1) (-1) (-1) 0 0 [], .mk 4 0 (-1) (-1) (-1) 0 0 [], .mk 2 0 (-1) (-1) (-1) 0 0 [], .mk 8 0 (-1) (-1) (-1) 0 0 []]
theorem sAddOffsetsToTxnRequest (w : World) : Does X.P 27 #[] w fun r w' => Msg w' (fun k => w.heap.size ≤ k) r dAddOffsetsToTxnRequest 3 ∧ Ext nob w w' := by
  have hx0 : Ext nob w w := Ext.refl _ _
  refine Does.go (X := X) (l := []) Try.func27 rfl (by kernel_rfl) (by kernel_rfl) _ rfl ?_
  ((conv=>whnf);repeat(first|(refine mvT ?_;conv=>whnf)|(refine mvF ?_;conv=>whnf)|(refine cT (by rfl) ?_;conv=>whnf)|(refine cF (by rfl) ?_;conv=>whnf)))
  intro b w1 hb ho hx
  have hx0 := hx0.e0 hx
  have ho := ho
  ((conv=>whnf);repeat(first|(refine mvT ?_;conv=>whnf)|(refine mvF ?_;conv=>whnf)|(refine cT (by rfl) ?_;conv=>whnf)|(refine cF (by rfl) ?_;conv=>whnf)))
  have hxs := hx0
  intro b2 w2 hb2 ho2 hx2
  ((conv=>whnf);repeat(first|(refine mvT ?_;conv=>whnf)|(refine mvF ?_;conv=>whnf)|(refine cT (by rfl) ?_;conv=>whnf)|(refine cF (by rfl) ?_;conv=>whnf)))
  have hx0 := hx0.e0 hx2
  refine ⟨_, _, ho.e0 hx2, rfl, rfl, rfl, ?_⟩
  intro w3 ho3 hx3
  have hx03 := hx0.st hx3 hb
  ((conv=>whnf);repeat(first|(refine mvT ?_;conv=>whnf)|(refine mvF ?_;conv=>whnf)|(refine cT (by rfl) ?_;conv=>whnf)|(refine cF (by rfl) ?_;conv=>whnf)))
  refine ⟨_, rfl, ho3.cells, ?_⟩
  refine ⟨⟨_, rfl, ?_⟩, hx03⟩
  have ho2 := ho2.ext hx3 (by have := ho.lt; omega)
  have hs := hx0.size
  have hs2 : w.heap.size ≤ b2 := Nat.le_trans hxs.size hb2
  exact FdL.fds (cs := [[.int .i64 8, .int .i64 0, .int .i64 (-1), .int .i64 (-1), .int .i64 (-1), .int .i64 0, .int .i64 0, .slice none 0 0], [.int .i64 4, .int .i64 0, .int .i64 (-1), .int .i64 (-1), .int .i64 (-1), .int .i64 0, .int .i64 0, .slice none 0 0], [.int .i64 2, .int .i64 0, .int .i64 (-1), .int .i64 (-1), .int .i64 (-1), .int .i64 0, .int .i64 0, .slice none 0 0], [.int .i64 8, .int .i64 0, .int .i64 (-1), .int .i64 (-1), .int .i64 (-1), .int .i64 0, .int .i64 0, .slice none 0 0]])
    ⟨fdLeaf _ _ _ _ _ _ _ _ _, fdLeaf _ _ _ _ _ _ _ _ _, fdLeaf _ _ _ _ _ _ _ _ _, fdLeaf _ _ _ _ _ _ _ _ _, trivial⟩ ho2 rfl (by omega) (by omega)
theorem fillAddOffsetsToTxnRequest {F : Nat → Prop} {w0 : World} {p : Nat} {ty : TypeId} {v u : Int} {x : Value} {t : T} (hp : Own w0 p ty [.int .i16 v, str [], .int .i64 0, .int .i16 0, str [], .map none]) (ht : Tr w0 F x t) (hF : ∀ k, F k → k ≠ p) (hok : partOK 9 u dAddOffsetsToTxnRequest t) :
    Does X.P 58 #[.pointer (some ⟨p, 0, none⟩), x] w0 fun r w' => Ext (fun k => k = p) w0 w' ∧ ∃ m, Own w' p ty [.int .i16 v, str (atT t 0).s, .int .i64 (atT t 1).n, .int .i16 (IntKind.i16.wrap (atT t 2).n), str (atT t 3).s, m] ∧ TagsR w' (fun k => k ≠ p) m t.u := by
  have hpl := hp.lt
  obtain ⟨R0, hR0, ht0⟩ : ∃ R0 : Nat → Prop, (∀ k, R0 k → k < w0.heap.size ∧ k ≠ p) ∧ Tr w0 R0 x t := ⟨fun k => k < w0.heap.size ∧ k ≠ p, fun k h => h, ht.mono fun k h1 h2 => ⟨h1, hF k h2⟩⟩
  clear ht hF
  obtain ⟨sv, lv, uv, ls, rfl, hn, hs, hl, hels, htg⟩ := ht0.open
  obtain ⟨us, hus, husl, huc⟩ := id htg
  obtain ⟨au, cu, rfl, husc, husm, husF, _, husC⟩ := hus.view
  refine Does.go (X := X) (l := [_, _]) Try.func58 rfl (by kernel_rfl) (by kernel_rfl) _ rfl ?_
  ((conv=>whnf);repeat(first|(refine mvT ?_;conv=>whnf)|(refine mvF ?_;conv=>whnf)|(refine cT (by rfl) ?_;conv=>whnf)|(refine cF (by rfl) ?_;conv=>whnf)))
  intro b wc hb ho hx
  have hpb : p ≠ b := by omega
  have ho : Own wc b ImplTreeT [.int .i64 t.n, sv, .bool t.nl, lv, .slice au us.length cu] := ho
  have hx0 : Ext (fun k => k = p) w0 wc := hx.mono fun _ _ f => f.elim
  have hp := hp.e0 hx
  ((conv=>whnf);repeat(first|(refine mvT ?_;conv=>whnf)|(refine mvF ?_;conv=>whnf)|(refine cT (by rfl) ?_;conv=>whnf)|(refine cF (by rfl) ?_;conv=>whnf)))
  refine ⟨_, rfl, ho.cells, ?_⟩
  ((conv=>whnf);repeat(first|(refine mvT ?_;conv=>whnf)|(refine mvF ?_;conv=>whnf)|(refine cT (by rfl) ?_;conv=>whnf)|(refine cF (by rfl) ?_;conv=>whnf)))
  refine Does.mono (iat_does (ht0.ext hx0 fun k _ h => (hR0 k h).2) 0) ?_
  rintro ra wa ⟨hra, hxa⟩
  obtain ⟨sva, lva, uva, lsa, rfl, hna, hsa, hla, helsa, hua⟩ := hra.open
  ((conv=>whnf);repeat(first|(refine mvT ?_;conv=>whnf)|(refine mvF ?_;conv=>whnf)|(refine cT (by rfl) ?_;conv=>whnf)|(refine cF (by rfl) ?_;conv=>whnf)))
  refine ⟨_, _, hsa, ?_⟩
  ((conv=>whnf);repeat(first|(refine mvT ?_;conv=>whnf)|(refine mvF ?_;conv=>whnf)|(refine cT (by rfl) ?_;conv=>whnf)|(refine cF (by rfl) ?_;conv=>whnf)))
  refine st_cell (o := 1) (v := str (atT t 0).s) (hp.e0 hxa) (rfl) (by omega) rfl (by simp) (rfl) ?_
  intro wc hoc hxc
  have hp : Own wc p ty [.int .i16 v, str (atT t 0).s, .int .i64 0, .int .i16 0, str [], .map none] := hoc
  have ho := (ho.e0 hxa).ext hxc (Ne.symm hpb)
  have hx0 := (hx0.tr0 hxa).trans hxc fun _ _ h => h
  ((conv=>whnf);repeat(first|(refine mvT ?_;conv=>whnf)|(refine mvF ?_;conv=>whnf)|(refine cT (by rfl) ?_;conv=>whnf)|(refine cF (by rfl) ?_;conv=>whnf)))
  refine ⟨_, rfl, ho.cells, ?_⟩
  ((conv=>whnf);repeat(first|(refine mvT ?_;conv=>whnf)|(refine mvF ?_;conv=>whnf)|(refine cT (by rfl) ?_;conv=>whnf)|(refine cF (by rfl) ?_;conv=>whnf)))
  refine Does.mono (iat_does (ht0.ext hx0 fun k _ h => (hR0 k h).2) 1) ?_
  rintro ra wa ⟨hra, hxa⟩
  obtain ⟨sva, lva, uva, lsa, rfl, hna, hsa, hla, helsa, hua⟩ := hra.open
  ((conv=>whnf);repeat(first|(refine mvT ?_;conv=>whnf)|(refine mvF ?_;conv=>whnf)|(refine cT (by rfl) ?_;conv=>whnf)|(refine cF (by rfl) ?_;conv=>whnf)))
  refine st_cell (o := 2) (v := .int .i64 (atT t 1).n) (hp.e0 hxa) (rfl) (by omega) rfl (by simp) (rfl) ?_
  intro wc hoc hxc
  have hp : Own wc p ty [.int .i16 v, str (atT t 0).s, .int .i64 (atT t 1).n, .int .i16 0, str [], .map none] := hoc
  have ho := (ho.e0 hxa).ext hxc (Ne.symm hpb)
  have hx0 := (hx0.tr0 hxa).trans hxc fun _ _ h => h
  ((conv=>whnf);repeat(first|(refine mvT ?_;conv=>whnf)|(refine mvF ?_;conv=>whnf)|(refine cT (by rfl) ?_;conv=>whnf)|(refine cF (by rfl) ?_;conv=>whnf)))
  refine ⟨_, rfl, ho.cells, ?_⟩
  ((conv=>whnf);repeat(first|(refine mvT ?_;conv=>whnf)|(refine mvF ?_;conv=>whnf)|(refine cT (by rfl) ?_;conv=>whnf)|(refine cF (by rfl) ?_;conv=>whnf)))
  refine Does.mono (iat_does (ht0.ext hx0 fun k _ h => (hR0 k h).2) 2) ?_
  rintro ra wa ⟨hra, hxa⟩
  obtain ⟨sva, lva, uva, lsa, rfl, hna, hsa, hla, helsa, hua⟩ := hra.open
  ((conv=>whnf);repeat(first|(refine mvT ?_;conv=>whnf)|(refine mvF ?_;conv=>whnf)|(refine cT (by rfl) ?_;conv=>whnf)|(refine cF (by rfl) ?_;conv=>whnf)))
  refine st_cell (o := 3) (v := .int .i16 (IntKind.i16.wrap (atT t 2).n)) (hp.e0 hxa) (rfl) (by omega) rfl (by simp) (rfl) ?_
  intro wc hoc hxc
  have hp : Own wc p ty [.int .i16 v, str (atT t 0).s, .int .i64 (atT t 1).n, .int .i16 (IntKind.i16.wrap (atT t 2).n), str [], .map none] := hoc
  have ho := (ho.e0 hxa).ext hxc (Ne.symm hpb)
  have hx0 := (hx0.tr0 hxa).trans hxc fun _ _ h => h
  ((conv=>whnf);repeat(first|(refine mvT ?_;conv=>whnf)|(refine mvF ?_;conv=>whnf)|(refine cT (by rfl) ?_;conv=>whnf)|(refine cF (by rfl) ?_;conv=>whnf)))
  refine ⟨_, rfl, ho.cells, ?_⟩
  ((conv=>whnf);repeat(first|(refine mvT ?_;conv=>whnf)|(refine mvF ?_;conv=>whnf)|(refine cT (by rfl) ?_;conv=>whnf)|(refine cF (by rfl) ?_;conv=>whnf)))
  refine Does.mono (iat_does (ht0.ext hx0 fun k _ h => (hR0 k h).2) 3) ?_
  rintro ra wa ⟨hra, hxa⟩
  obtain ⟨sva, lva, uva, lsa, rfl, hna, hsa, hla, helsa, hua⟩ := hra.open
  ((conv=>whnf);repeat(first|(refine mvT ?_;conv=>whnf)|(refine mvF ?_;conv=>whnf)|(refine cT (by rfl) ?_;conv=>whnf)|(refine cF (by rfl) ?_;conv=>whnf)))
  refine ⟨_, _, hsa, ?_⟩
  ((conv=>whnf);repeat(first|(refine mvT ?_;conv=>whnf)|(refine mvF ?_;conv=>whnf)|(refine cT (by rfl) ?_;conv=>whnf)|(refine cF (by rfl) ?_;conv=>whnf)))
  refine st_cell (o := 4) (v := str (atT t 3).s) (hp.e0 hxa) (rfl) (by omega) rfl (by simp) (rfl) ?_
  intro wc hoc hxc
  have hp : Own wc p ty [.int .i16 v, str (atT t 0).s, .int .i64 (atT t 1).n, .int .i16 (IntKind.i16.wrap (atT t 2).n), str (atT t 3).s, .map none] := hoc
  have ho := (ho.e0 hxa).ext hxc (Ne.symm hpb)
  have hx0 := (hx0.tr0 hxa).trans hxc fun _ _ h => h
  ((conv=>whnf);repeat(first|(refine mvT ?_;conv=>whnf)|(refine mvF ?_;conv=>whnf)|(refine cT (by rfl) ?_;conv=>whnf)|(refine cF (by rfl) ?_;conv=>whnf)))
  refine ldS (ho.cell rfl) ?_;((conv=>whnf);repeat(first|(refine mvT ?_;conv=>whnf)|(refine mvF ?_;conv=>whnf)|(refine cT (by rfl) ?_;conv=>whnf)|(refine cF (by rfl) ?_;conv=>whnf)))
  have hpN := hp.lt
  have h0N := hx0.size
  refine VL.loop (fun s : Nat × Value => [(0, .pointer (some ⟨p, 0, none⟩)), (3, .pointer (some ⟨b, 0, none⟩)), (34, .slice au us.length cu), (35, .int .i64 us.length), (36, .int .i64 s.1)])
    (fun s w' => (Ext (fun k => k = p) w0 w' ∧ Ext (fun k => k = p ∨ wc.heap.size ≤ k) wc w' ∧ s.1 ≤ us.length) ∧ Own w' p ty [.int .i16 v, str (atT t 0).s, .int .i64 (atT t 1).n, .int .i16 (IntKind.i16.wrap (atT t 2).n), str (atT t 3).s, s.2] ∧ TagsO w' wc.heap.size R0 s.2 (t.u.take s.1)) (fun s => us.length - s.1) (0, .map none)
    ⟨rfl, rfl, rfl, rfl, rfl, trivial⟩ ⟨⟨hx0, Ext.refl _ _, Nat.zero_le _⟩, hp, TagsO.nil _ _ _⟩ ?_
  rintro ⟨i, m⟩ w9 ⟨⟨hx09, hxc9, hi⟩, hp9, hm9⟩
  dsimp only at hi hp9 hm9
  ((conv=>whnf);repeat(first|(refine mvT ?_;conv=>whnf)|(refine mvF ?_;conv=>whnf)|(refine cT (by rfl) ?_;conv=>whnf)|(refine cF (by rfl) ?_;conv=>whnf)))
  refine cI (by rfl) (fun h9=>?_) (fun h9=>?_)
  · have hil : i < us.length := by have := of_decide_eq_true h9; simp only at this; omega
    have hilu : i < t.u.length := by omega
    obtain ⟨hkey, bv, hci, hbv⟩ := huc i us[i] t.u[i] (by simp [hil]) (by simp [hilu])
    obtain ⟨b10, o10, rfl, hc10⟩ := husC i us[i] (by simp [hil])
    have hb10 := husF b10 o10 rfl (by omega)
    rw [hci] at hc10
    obtain ⟨av, cv, rfl, _⟩ := hbv.view
    have hc10 := hc10.ext hx09 (hR0 _ hb10.1).2
    have hbv9 := hbv.ext hx09 fun k _ h => (hR0 k h).2
    ((conv=>whnf);repeat(first|(refine mvT ?_;conv=>whnf)|(refine mvF ?_;conv=>whnf)|(refine cT (by rfl) ?_;conv=>whnf)|(refine cF (by rfl) ?_;conv=>whnf)))
    refine ⟨b10, o10, rfl, ⟨by omega, by omega⟩, ?_⟩
    ((conv=>whnf);repeat(first|(refine mvT ?_;conv=>whnf)|(refine mvF ?_;conv=>whnf)|(refine cT (by rfl) ?_;conv=>whnf)|(refine cF (by rfl) ?_;conv=>whnf)))
    refine ⟨_, rfl, by rw [Int.toNat_natCast]; exact hc10, ?_⟩
    ((conv=>whnf);repeat(first|(refine mvT ?_;conv=>whnf)|(refine mvF ?_;conv=>whnf)|(refine cT (by rfl) ?_;conv=>whnf)|(refine cF (by rfl) ?_;conv=>whnf)))
    intro b11 w11 hb11 ho11 hx11
    ((conv=>whnf);repeat(first|(refine mvT ?_;conv=>whnf)|(refine mvF ?_;conv=>whnf)|(refine cT (by rfl) ?_;conv=>whnf)|(refine cF (by rfl) ?_;conv=>whnf)))
    refine st_all [.int .u32 (t.u[i].1 : Int), .slice av (t.u[i]).2.length cv] ho11 rfl rfl rfl ?_
    intro w12 ho12 hx12
    have hx912 : Ext nob w9 w12.drew := (hx11.st hx12 hb11).e0 (ext_drew _)
    have ho12 := ho12.e0 (ext_drew _)
    ((conv=>whnf);repeat(first|(refine mvT ?_;conv=>whnf)|(refine mvF ?_;conv=>whnf)|(refine cT (by rfl) ?_;conv=>whnf)|(refine cF (by rfl) ?_;conv=>whnf)))
    refine VD.draw mixed (.q 0 (.q 1 (.q 2 (.q 3 (.q 4 (.q 5 (.q 6 (.eff 7 [] (.done))))))))) (by kernel_rfl) ?_;((conv=>whnf);repeat(first|(refine mvT ?_;conv=>whnf)|(refine mvF ?_;conv=>whnf)|(refine cT (by rfl) ?_;conv=>whnf)|(refine cF (by rfl) ?_;conv=>whnf)))
    refine ldS (ho12.cell rfl) ?_;((conv=>whnf);repeat(first|(refine mvT ?_;conv=>whnf)|(refine mvF ?_;conv=>whnf)|(refine cT (by rfl) ?_;conv=>whnf)|(refine cF (by rfl) ?_;conv=>whnf)))
    refine ldS (ho12.cell rfl) ?_;((conv=>whnf);repeat(first|(refine mvT ?_;conv=>whnf)|(refine mvF ?_;conv=>whnf)|(refine cT (by rfl) ?_;conv=>whnf)|(refine cF (by rfl) ?_;conv=>whnf)))
    have hnew : ∀ x, x ∈ t.u.take i → x.1 ≠ (t.u[i]).1 := by
      intro x hx
      obtain ⟨j, hj, rfl⟩ := List.mem_take_iff_getElem.1 hx
      have := List.pairwise_iff_getElem.1 hok.2.rise j i (by omega) hilu (by omega)
      omega
    refine Does.mono (Tags_Set_does (o := 5) (N := wc.heap.size) (hp9.e0 hx912) rfl (hm9.e0 hx912) (Nat.le_trans hxc9.size hx912.size) hpN (fun k h => ⟨by have := (hR0 k h).1; omega, (hR0 k h).2⟩) (hbv9.e0 hx912) hnew) ?_
    rintro r13 w13 ⟨m13, hone, hp13, hm13, hx13⟩
    ((conv=>whnf);repeat(first|(refine mvT ?_;conv=>whnf)|(refine mvF ?_;conv=>whnf)|(refine cT (by rfl) ?_;conv=>whnf)|(refine cF (by rfl) ?_;conv=>whnf)))
    have hx913 : Ext (fun k => k = p ∨ wc.heap.size ≤ k) w9 w13 := (hx912.mono fun _ _ f => f.elim).trans hx13 fun _ _ h => h
    refine ⟨(i + 1, m13), ⟨rfl, rfl, rfl, rfl, inc_eq (by rw [maxLen_eq] at husm; omega), trivial⟩, ⟨⟨hx09.trans hx913 fun k hk h => by omega, hxc9.trans hx913 fun _ _ h => h, by simp only; omega⟩, hp13, ?_⟩, by simp only; omega⟩
    rw [List.take_succ_eq_append_getElem hilu]
    exact hm13
  have hil : i = us.length := by have := of_decide_eq_false h9; simp only at this; omega
  ((conv=>whnf);repeat(first|(refine mvT ?_;conv=>whnf)|(refine mvF ?_;conv=>whnf)|(refine cT (by rfl) ?_;conv=>whnf)|(refine cF (by rfl) ?_;conv=>whnf)))
  rw [hil, husl, List.take_length] at hm9
  exact ⟨hx09, m, hp9, hm9.tags.mono fun k hk h => by rcases h with h | h; exact (hR0 k h).2; omega⟩
def bAddOffsetsToTxnRequest (v : Int) (fx : Bool) (t : T) : List UInt8 := ((txA fx (atT t 0).s) ++ ((fixed (atT t 1).n 8) ++ ((fixed (atT t 2).n 2) ++ ((txA fx (atT t 3).s) ++ ([]))))) ++ tgsB fx t.u
theorem bAddOffsetsToTxnRequest_eq {v : Int} {fx : Bool} {t : T} (hv : 0 ≤ v) (hok : partOK 9 v dAddOffsetsToTxnRequest t) : partA 9 v fx dAddOffsetsToTxnRequest t = bAddOffsetsToTxnRequest v fx t := by
  unfold partA partAW bAddOffsetsToTxnRequest
  have hf := hok.1 0 _ rfl
  rw [plainW_all hv]
  rw [tx_eq hf]
  have hf := hok.1 1 _ rfl
  rw [plainW_all hv]
  have hf := hok.1 2 _ rfl
  rw [plainW_all hv]
  have hf := hok.1 3 _ rfl
  rw [plainW_all hv]
  rw [tx_eq hf]
  rfl
theorem appAddOffsetsToTxnRequest {F : Nat → Prop} {w0 : World} {p B : Nat} {ty : TypeId} {v : Int} {x m : Value} {l : List UInt8} {t : T} (hp : Own w0 p ty [.int .i16 v, str (atT t 0).s, .int .i64 (atT t 1).n, .int .i16 (IntKind.i16.wrap (atT t 2).n), str (atT t 3).s, m]) (hm : TagsR w0 F m t.u) (hok : partOK 9 v dAddOffsetsToTxnRequest t)
    (hF : ∀ j, j < w0.heap.size → F j → x.ownBlock ≠ some j) (hxp : x.ownBlock ≠ some p) (hx : OB w0 B x l) (hB : B ≤ w0.heap.size) (hv : 0 ≤ v) (hl : l.length + (bAddOffsetsToTxnRequest v (decide (v ≥ 3)) t).length ≤ 70000000000000) :
    Does X.P 59 #[.pointer (some ⟨p, 0, none⟩), x] w0 fun r w' => Apd w0 B x l (bAddOffsetsToTxnRequest v (decide (v ≥ 3)) t) r w' := by
  have hpl := hp.lt
  obtain ⟨fx, hfx⟩ : ∃ fx, fx = decide (v ≥ 3) := ⟨_, rfl⟩
  rw [← hfx] at hl ⊢
  unfold bAddOffsetsToTxnRequest at hl ⊢
  simp only [List.length_append, List.length_nil] at hl
  obtain ⟨F0, hF0, hFx, hcs⟩ : ∃ F0 : Nat → Prop, (∀ j, F0 j → j < w0.heap.size ∧ x.ownBlock ≠ some j) ∧ (∀ j, j < w0.heap.size → F0 j → ¬ x.ownBlock = some j) ∧ (TagsR w0 F0 m t.u) :=
    ⟨fun j => F j ∧ j < w0.heap.size, fun j h => ⟨h.2, hF j h.2 h.1⟩, fun j _ h => hF j h.2 h.1, hm.mono fun k h1 h2 => ⟨h2, h1⟩⟩
  clear hm hF
  have hm := hcs
  have hA := Apd.start hx
  obtain ⟨m0, hm0⟩ : ∃ m0 : List UInt8, m0 = [] := ⟨_, rfl⟩
  rw [← hm0] at hA
  have hl0 : m0.length = 0 := by rw [hm0]; rfl
  refine Does.go (X := X) (l := [_, _]) Try.func59 rfl (by kernel_rfl) (by kernel_rfl) _ rfl ?_
  ((conv=>whnf);repeat(first|(refine mvT ?_;conv=>whnf)|(refine mvF ?_;conv=>whnf)|(refine cT (by rfl) ?_;conv=>whnf)|(refine cF (by rfl) ?_;conv=>whnf)))
  refine ldS (hp.cell rfl) ?_;((conv=>whnf);repeat(first|(refine mvT ?_;conv=>whnf)|(refine mvF ?_;conv=>whnf)|(refine cT (by rfl) ?_;conv=>whnf)|(refine cF (by rfl) ?_;conv=>whnf)))
  rw [← hfx]
  (refine mvB ?_;((conv=>whnf);repeat(first|(refine mvT ?_;conv=>whnf)|(refine mvF ?_;conv=>whnf)|(refine cT (by rfl) ?_;conv=>whnf)|(refine cF (by rfl) ?_;conv=>whnf))))
  refine ldS ((hp.ext hA.ext hxp).cell rfl) ?_;((conv=>whnf);repeat(first|(refine mvT ?_;conv=>whnf)|(refine mvF ?_;conv=>whnf)|(refine cT (by rfl) ?_;conv=>whnf)|(refine cF (by rfl) ?_;conv=>whnf)))
  have hsl := fieldOK_text (hok.1 0 _ rfl)
  (refine mvB ?_;((conv=>whnf);repeat(first|(refine mvT ?_;conv=>whnf)|(refine mvF ?_;conv=>whnf)|(refine cT (by rfl) ?_;conv=>whnf)|(refine cF (by rfl) ?_;conv=>whnf))))
  refine VC.cutE (fun r => [(1, r), (0, .pointer (some ⟨p, 0, none⟩)), (5, .int .i16 v), (6, .bool fx)]) (fun r w' => Apd w0 B x l (m0 ++ (txA fx (atT t 0).s)) r w') ?_ ?_
  · refine cI (by rfl) (fun hc=>?_) (fun hc=>?_)
    · ((conv=>whnf);repeat(first|(refine mvT ?_;conv=>whnf)|(refine mvF ?_;conv=>whnf)|(refine cT (by rfl) ?_;conv=>whnf)|(refine cF (by rfl) ?_;conv=>whnf)))
      refine Does.mono (AppendCompactString_does hA.ob (Nat.le_trans hB hA.size) _ (by omega) (by simp only [List.length_append]; omega)) ?_;rintro r w h;((conv=>whnf);repeat(first|(refine mvT ?_;conv=>whnf)|(refine mvF ?_;conv=>whnf)|(refine cT (by rfl) ?_;conv=>whnf)|(refine cF (by rfl) ?_;conv=>whnf)))
      replace hA := hA.tr h
      clear h
      refine ⟨_, ⟨rfl, rfl, rfl, rfl, trivial⟩, ?_⟩
      rw [hc]
      exact hA
    · ((conv=>whnf);repeat(first|(refine mvT ?_;conv=>whnf)|(refine mvF ?_;conv=>whnf)|(refine cT (by rfl) ?_;conv=>whnf)|(refine cF (by rfl) ?_;conv=>whnf)))
      refine Does.mono (AppendString_does hA.ob (Nat.le_trans hB hA.size) _ (by simp only [List.length_append]; omega)) ?_;rintro r w h;((conv=>whnf);repeat(first|(refine mvT ?_;conv=>whnf)|(refine mvF ?_;conv=>whnf)|(refine cT (by rfl) ?_;conv=>whnf)|(refine cF (by rfl) ?_;conv=>whnf)))
      replace hA := hA.tr h
      clear h
      refine ⟨_, ⟨rfl, rfl, rfl, rfl, trivial⟩, ?_⟩
      rw [hc]
      exact hA
  clear hA
  rintro r w hA
  ((conv=>whnf);repeat(first|(refine mvT ?_;conv=>whnf)|(refine mvF ?_;conv=>whnf)|(refine cT (by rfl) ?_;conv=>whnf)|(refine cF (by rfl) ?_;conv=>whnf)))
  generalize hm1 : m0 ++ (txA fx (atT t 0).s) = m1 at hA
  have hl1 : m1.length = m0.length + (txA fx (atT t 0).s).length := by rw [← hm1, List.length_append]
  refine ldS ((hp.ext hA.ext hxp).cell rfl) ?_;((conv=>whnf);repeat(first|(refine mvT ?_;conv=>whnf)|(refine mvF ?_;conv=>whnf)|(refine cT (by rfl) ?_;conv=>whnf)|(refine cF (by rfl) ?_;conv=>whnf)))
  refine Does.mono (AppendInt64_does hA.ob (Nat.le_trans hB hA.size) (by simp only [List.length_append]; omega) _) ?_;rintro r w h;((conv=>whnf);repeat(first|(refine mvT ?_;conv=>whnf)|(refine mvF ?_;conv=>whnf)|(refine cT (by rfl) ?_;conv=>whnf)|(refine cF (by rfl) ?_;conv=>whnf)))
  replace hA := hA.tr h
  clear h
  generalize hm2 : m1 ++ (fixed (atT t 1).n 8) = m2 at hA
  have hl2 : m2.length = m1.length + (fixed (atT t 1).n 8).length := by rw [← hm2, List.length_append]
  refine ldS ((hp.ext hA.ext hxp).cell rfl) ?_;((conv=>whnf);repeat(first|(refine mvT ?_;conv=>whnf)|(refine mvF ?_;conv=>whnf)|(refine cT (by rfl) ?_;conv=>whnf)|(refine cF (by rfl) ?_;conv=>whnf)))
  refine Does.mono (AppendInt16_does hA.ob (Nat.le_trans hB hA.size) (by simp only [List.length_append]; omega) _) ?_;rintro r w h;((conv=>whnf);repeat(first|(refine mvT ?_;conv=>whnf)|(refine mvF ?_;conv=>whnf)|(refine cT (by rfl) ?_;conv=>whnf)|(refine cF (by rfl) ?_;conv=>whnf)))
  rw [fixed2_mod (wrap_i16m _)] at h
  replace hA := hA.tr h
  clear h
  generalize hm3 : m2 ++ (fixed (atT t 2).n 2) = m3 at hA
  have hl3 : m3.length = m2.length + (fixed (atT t 2).n 2).length := by rw [← hm3, List.length_append]
  refine ldS ((hp.ext hA.ext hxp).cell rfl) ?_;((conv=>whnf);repeat(first|(refine mvT ?_;conv=>whnf)|(refine mvF ?_;conv=>whnf)|(refine cT (by rfl) ?_;conv=>whnf)|(refine cF (by rfl) ?_;conv=>whnf)))
  have hsl := fieldOK_text (hok.1 3 _ rfl)
  (refine mvB ?_;((conv=>whnf);repeat(first|(refine mvT ?_;conv=>whnf)|(refine mvF ?_;conv=>whnf)|(refine cT (by rfl) ?_;conv=>whnf)|(refine cF (by rfl) ?_;conv=>whnf))))
  refine VC.cutE (fun r => [(1, r), (0, .pointer (some ⟨p, 0, none⟩)), (5, .int .i16 v), (6, .bool fx)]) (fun r w' => Apd w0 B x l (m3 ++ (txA fx (atT t 3).s)) r w') ?_ ?_
  · refine cI (by rfl) (fun hc=>?_) (fun hc=>?_)
    · ((conv=>whnf);repeat(first|(refine mvT ?_;conv=>whnf)|(refine mvF ?_;conv=>whnf)|(refine cT (by rfl) ?_;conv=>whnf)|(refine cF (by rfl) ?_;conv=>whnf)))
      refine Does.mono (AppendCompactString_does hA.ob (Nat.le_trans hB hA.size) _ (by omega) (by simp only [List.length_append]; omega)) ?_;rintro r w h;((conv=>whnf);repeat(first|(refine mvT ?_;conv=>whnf)|(refine mvF ?_;conv=>whnf)|(refine cT (by rfl) ?_;conv=>whnf)|(refine cF (by rfl) ?_;conv=>whnf)))
      replace hA := hA.tr h
      clear h
      refine ⟨_, ⟨rfl, rfl, rfl, rfl, trivial⟩, ?_⟩
      rw [hc]
      exact hA
    · ((conv=>whnf);repeat(first|(refine mvT ?_;conv=>whnf)|(refine mvF ?_;conv=>whnf)|(refine cT (by rfl) ?_;conv=>whnf)|(refine cF (by rfl) ?_;conv=>whnf)))
      refine Does.mono (AppendString_does hA.ob (Nat.le_trans hB hA.size) _ (by simp only [List.length_append]; omega)) ?_;rintro r w h;((conv=>whnf);repeat(first|(refine mvT ?_;conv=>whnf)|(refine mvF ?_;conv=>whnf)|(refine cT (by rfl) ?_;conv=>whnf)|(refine cF (by rfl) ?_;conv=>whnf)))
      replace hA := hA.tr h
      clear h
      refine ⟨_, ⟨rfl, rfl, rfl, rfl, trivial⟩, ?_⟩
      rw [hc]
      exact hA
  clear hA
  rintro r w hA
  ((conv=>whnf);repeat(first|(refine mvT ?_;conv=>whnf)|(refine mvF ?_;conv=>whnf)|(refine cT (by rfl) ?_;conv=>whnf)|(refine cF (by rfl) ?_;conv=>whnf)))
  generalize hm4 : m3 ++ (txA fx (atT t 3).s) = m4 at hA
  have hl4 : m4.length = m3.length + (txA fx (atT t 3).s).length := by rw [← hm4, List.length_append]
  (refine mvB ?_;((conv=>whnf);repeat(first|(refine mvT ?_;conv=>whnf)|(refine mvF ?_;conv=>whnf)|(refine cT (by rfl) ?_;conv=>whnf)|(refine cF (by rfl) ?_;conv=>whnf))))
  refine VC.cutE (fun r => [(1, r), (0, .pointer (some ⟨p, 0, none⟩)), (5, .int .i16 v), (6, .bool fx)]) (fun r w' => Apd w0 B x l (m4 ++ (tgsB fx (t).u)) r w') ?_ ?_
  · refine cI (by rfl) (fun hc=>?_) (fun hc=>?_)
    · ((conv=>whnf);repeat(first|(refine mvT ?_;conv=>whnf)|(refine mvF ?_;conv=>whnf)|(refine cT (by rfl) ?_;conv=>whnf)|(refine cF (by rfl) ?_;conv=>whnf)))
      have hul := hok.2.len
      refine Does.mono (Tags_Len_does ((hp.ext hA.ext hxp).cell rfl) (hm.ext hA.ext hFx)) ?_;rintro r w ⟨rfl, rfl⟩;((conv=>whnf);repeat(first|(refine mvT ?_;conv=>whnf)|(refine mvF ?_;conv=>whnf)|(refine cT (by rfl) ?_;conv=>whnf)|(refine cF (by rfl) ?_;conv=>whnf)))
      rw [u32_add0 (by omega)]
      refine Does.mono (AppendUvarint_does hA.ob (Nat.le_trans hB hA.size) (t).u.length (by omega) (by simp only [List.length_append]; omega)) ?_;rintro r w h;((conv=>whnf);repeat(first|(refine mvT ?_;conv=>whnf)|(refine mvF ?_;conv=>whnf)|(refine cT (by rfl) ?_;conv=>whnf)|(refine cF (by rfl) ?_;conv=>whnf)))
      have hul2 := uvar10 (n := (t).u.length) (by omega)
      replace hA := hA.tr h
      clear h
      refine Does.mono (AppendEach_does ((hp.ext hA.ext hxp).cell rfl) (hm.ext hA.ext hFx) hok.2 hA.ob (Nat.le_trans hB hA.size) (hA.ne hxp hpl) (fun j _ hf => hA.ne (hF0 j hf).2 (hF0 j hf).1) (by simp only [List.length_append]; omega)) ?_;rintro r w h;((conv=>whnf);repeat(first|(refine mvT ?_;conv=>whnf)|(refine mvF ?_;conv=>whnf)|(refine cT (by rfl) ?_;conv=>whnf)|(refine cF (by rfl) ?_;conv=>whnf)))
      replace hA := hA.tr h
      clear h
      refine ⟨_, ⟨rfl, rfl, rfl, rfl, trivial⟩, ?_⟩
      rw [tgsB, if_pos hc, ← List.append_assoc]
      exact hA
    · ((conv=>whnf);repeat(first|(refine mvT ?_;conv=>whnf)|(refine mvF ?_;conv=>whnf)|(refine cT (by rfl) ?_;conv=>whnf)|(refine cF (by rfl) ?_;conv=>whnf)))
      refine ⟨_, ⟨rfl, rfl, rfl, rfl, trivial⟩, ?_⟩
      rw [tgsB, if_neg (by rw [hc]; decide), List.append_nil]
      exact hA
  clear hA
  rintro r w hA
  ((conv=>whnf);repeat(first|(refine mvT ?_;conv=>whnf)|(refine mvF ?_;conv=>whnf)|(refine cT (by rfl) ?_;conv=>whnf)|(refine cF (by rfl) ?_;conv=>whnf)))
  generalize hm5 : m4 ++ (tgsB fx (t).u) = m5 at hA
  have hl5 : m5.length = m4.length + (tgsB fx (t).u).length := by rw [← hm5, List.length_append]
  show Apd w0 B x l _ r w
  rw [show ((txA fx (atT t 0).s) ++ ((fixed (atT t 1).n 8) ++ ((fixed (atT t 2).n 2) ++ ((txA fx (atT t 3).s) ++ ([]))))) ++ tgsB fx t.u = m5 by simp only [← hm5, ← hm4, ← hm3, ← hm2, ← hm1, hm0, List.append_assoc, List.nil_append, List.append_nil]]
  exact hA
theorem makeAddOffsetsToTxnRequest {F : Nat → Prop} {w : World} {v : Int} {x : Value} {t : T} (ht : Tr w F x t) (hok : partOK 9 v dAddOffsetsToTxnRequest t) (hv : 0 ≤ v) (hv2 : v < 32768) (hl : (bAddOffsetsToTxnRequest v (decide (v ≥ 3)) t).length ≤ 70000000000000) :
    Does X.P 28 #[.int .i64 v, x] w fun r w' => OB w' w.heap.size r (bAddOffsetsToTxnRequest v (decide (v ≥ 3)) t) ∧ Ext nob w w' := by
  have htm := ht.mono (F' := fun k => k < w.heap.size) fun k h1 h2 => h1
  clear ht
  obtain ⟨sv, lv, uv, ls, rfl, _⟩ := htm.open
  have hv16 : IntKind.i16.wrap v = v := by
    simp only [IntKind.wrap, IntKind.bits, IntKind.signed]
    simp
    omega
  refine Does.go (X := X) (l := [_, _]) Try.func28 rfl (by kernel_rfl) (by kernel_rfl) _ rfl ?_
  ((conv=>whnf);repeat(first|(refine mvT ?_;conv=>whnf)|(refine mvF ?_;conv=>whnf)|(refine cT (by rfl) ?_;conv=>whnf)|(refine cF (by rfl) ?_;conv=>whnf)))
  intro b w1 hb ho hx
  ((conv=>whnf);repeat(first|(refine mvT ?_;conv=>whnf)|(refine mvF ?_;conv=>whnf)|(refine cT (by rfl) ?_;conv=>whnf)|(refine cF (by rfl) ?_;conv=>whnf)))
  intro p w2 hp hop hx2
  have hx02 := hx.e0 hx2
  have hwp : w.heap.size ≤ p := by have := hx.size; omega
  ((conv=>whnf);repeat(first|(refine mvT ?_;conv=>whnf)|(refine mvF ?_;conv=>whnf)|(refine cT (by rfl) ?_;conv=>whnf)|(refine cF (by rfl) ?_;conv=>whnf)))
  have hset : Does X.P 57 #[.pointer (some ⟨p, 0, none⟩), .int .i16 (IntKind.i16.wrap v)] w2 fun r w' => Own w' p 86 [.int .i16 v, str [], .int .i64 0, .int .i16 0, str [], .map none] ∧ Ext (fun k => k = p) w2 w' := by
    rw [hv16]
    refine Does.go (X := X) (l := [_, _]) Try.func57 rfl (by kernel_rfl) (by kernel_rfl) _ rfl ?_
    ((conv=>whnf);repeat(first|(refine mvT ?_;conv=>whnf)|(refine mvF ?_;conv=>whnf)|(refine cT (by rfl) ?_;conv=>whnf)|(refine cF (by rfl) ?_;conv=>whnf)))
    refine ⟨_, _, hop, rfl, rfl, rfl, ?_⟩
    intro w3 ho3 hx3
    ((conv=>whnf);repeat(first|(refine mvT ?_;conv=>whnf)|(refine mvF ?_;conv=>whnf)|(refine cT (by rfl) ?_;conv=>whnf)|(refine cF (by rfl) ?_;conv=>whnf)))
    exact ⟨ho3, hx3⟩
  refine Does.mono (hset) ?_;rintro r3 w3 ⟨hop3, hx3⟩;((conv=>whnf);repeat(first|(refine mvT ?_;conv=>whnf)|(refine mvF ?_;conv=>whnf)|(refine cT (by rfl) ?_;conv=>whnf)|(refine cF (by rfl) ?_;conv=>whnf)))
  have hx03 := hx02.st hx3 hwp
  have hpb : p ≠ b := by have := ho.lt; omega
  refine ⟨_, rfl, ((ho.e0 hx2).ext hx3 fun h => hpb h.symm).cells, ?_⟩
  ((conv=>whnf);repeat(first|(refine mvT ?_;conv=>whnf)|(refine mvF ?_;conv=>whnf)|(refine cT (by rfl) ?_;conv=>whnf)|(refine cF (by rfl) ?_;conv=>whnf)))
  refine Does.mono (fillAddOffsetsToTxnRequest hop3 (htm.e0 hx03) (fun k h1 h2 => by omega) hok) ?_;rintro r4 w4 ⟨hx4, m, hop4, hm4⟩;((conv=>whnf);repeat(first|(refine mvT ?_;conv=>whnf)|(refine mvF ?_;conv=>whnf)|(refine cT (by rfl) ?_;conv=>whnf)|(refine cF (by rfl) ?_;conv=>whnf)))
  have hx04 := hx03.st hx4 hwp
  refine Does.mono (appAddOffsetsToTxnRequest (F := anyB) hop4 (hm4.mono fun _ _ _ => trivial) hok (fun _ _ _ => by simp [Value.ownBlock]) (by simp [Value.ownBlock]) (OB.nil _ _) (Nat.le_refl _) hv (by rw [List.length_nil, Nat.zero_add]; exact hl)) ?_;rintro r5 w5 h5;((conv=>whnf);repeat(first|(refine mvT ?_;conv=>whnf)|(refine mvF ?_;conv=>whnf)|(refine cT (by rfl) ?_;conv=>whnf)|(refine cF (by rfl) ?_;conv=>whnf)))
  refine ⟨?_, hx04.own h5.ext (B := w.heap.size) (by simp [Value.ownBlock]) (Nat.le_refl _)⟩
  have := h5.ob
  rw [List.nil_append] at this
  exact this.mono hx04.size
theorem defaultAddOffsetsToTxnRequest (p : Nat) (w : World) (T : TypeId) (l : List Value) (h : Own w p T l) (hl : l.length = 6) : Does X.P 85 #[.pointer (some ⟨p, 0, none⟩)] w fun r w' => Ext (fun k => k = p) w w' := by
  have hx0 : Ext (fun k => k = p) w w := Ext.refl _ _
  refine Does.go (X := X) (l := [_]) Try.func85 rfl (by kernel_rfl) (by kernel_rfl) _ rfl ?_
  ((conv=>whnf);repeat(first|(refine mvT ?_;conv=>whnf)|(refine mvF ?_;conv=>whnf)|(refine cT (by rfl) ?_;conv=>whnf)|(refine cF (by rfl) ?_;conv=>whnf)))
  exact hx0
theorem maxAddOffsetsToTxnRequest (w : World) : Does X.P 26 #[] w fun r w' => r = .int .i64 4 ∧ Ext nob w w' := by
  have hmax : ∀ (p : Nat) (w : World), Does X.P 56 #[.pointer (some ⟨p, 0, none⟩)] w fun r w' => r = .int .i16 4 ∧ w' = w := by
    intro p w
    refine Does.go (X := X) (l := [_]) Try.func56 rfl (by kernel_rfl) (by kernel_rfl) _ rfl ?_
    ((conv=>whnf);repeat(first|(refine mvT ?_;conv=>whnf)|(refine mvF ?_;conv=>whnf)|(refine cT (by rfl) ?_;conv=>whnf)|(refine cF (by rfl) ?_;conv=>whnf)))
    exact ⟨rfl, rfl⟩
  have hnew : Does X.P 55 #[] w fun r w' => (∃ p, r = .pointer (some ⟨p, 0, none⟩)) ∧ Ext nob w w' := by
    refine Does.go (X := X) (l := []) Try.func55 rfl (by kernel_rfl) (by kernel_rfl) _ rfl ?_
    ((conv=>whnf);repeat(first|(refine mvT ?_;conv=>whnf)|(refine mvF ?_;conv=>whnf)|(refine cT (by rfl) ?_;conv=>whnf)|(refine cF (by rfl) ?_;conv=>whnf)))
    intro p w1 hp ho hx
    ((conv=>whnf);repeat(first|(refine mvT ?_;conv=>whnf)|(refine mvF ?_;conv=>whnf)|(refine cT (by rfl) ?_;conv=>whnf)|(refine cF (by rfl) ?_;conv=>whnf)))
    refine Does.mono (defaultAddOffsetsToTxnRequest p w1 _ _ ho rfl) ?_;rintro r2 w2 hx2;((conv=>whnf);repeat(first|(refine mvT ?_;conv=>whnf)|(refine mvF ?_;conv=>whnf)|(refine cT (by rfl) ?_;conv=>whnf)|(refine cF (by rfl) ?_;conv=>whnf)))
    exact ⟨⟨p, rfl⟩, hx.st hx2 hp⟩
  refine Does.go (X := X) (l := []) Try.func26 rfl (by kernel_rfl) (by kernel_rfl) _ rfl ?_
  ((conv=>whnf);repeat(first|(refine mvT ?_;conv=>whnf)|(refine mvF ?_;conv=>whnf)|(refine cT (by rfl) ?_;conv=>whnf)|(refine cF (by rfl) ?_;conv=>whnf)))
  refine Does.mono (hnew) ?_;rintro r1 w1 ⟨⟨p, rfl⟩, hx⟩;((conv=>whnf);repeat(first|(refine mvT ?_;conv=>whnf)|(refine mvF ?_;conv=>whnf)|(refine cT (by rfl) ?_;conv=>whnf)|(refine cF (by rfl) ?_;conv=>whnf)))
  refine Does.mono (hmax p w1) ?_;rintro r2 w2 ⟨rfl, rfl⟩;((conv=>whnf);repeat(first|(refine mvT ?_;conv=>whnf)|(refine mvF ?_;conv=>whnf)|(refine cT (by rfl) ?_;conv=>whnf)|(refine cF (by rfl) ?_;conv=>whnf)))
  exact ⟨rfl, hx⟩
theorem walkAddOffsetsToTxnRequest {w : World} {n : Nat} (hn : n < 256) {x : Value} {t : T} (ht : Tr w anyB x t) : Does X.P 7 #[.int .u8 n, x] w fun r w' => r = .bool true ∧ Ext nob w w' := by
  have hkeys := ht.keys
  obtain ⟨sv, lv, uv, ls, rfl, _⟩ := ht.open
  refine Does.go (X := X) (l := [_, _]) Try.func7 rfl (by kernel_rfl) (by kernel_rfl) _ rfl ?_
  ((conv=>whnf);repeat(first|(refine mvT ?_;conv=>whnf)|(refine mvF ?_;conv=>whnf)|(refine cT (by rfl) ?_;conv=>whnf)|(refine cF (by rfl) ?_;conv=>whnf)))
  intro b w1 hb ho hx
  ((conv=>whnf);repeat(first|(refine mvT ?_;conv=>whnf)|(refine mvF ?_;conv=>whnf)|(refine cT (by rfl) ?_;conv=>whnf)|(refine cF (by rfl) ?_;conv=>whnf)))
  refine ⟨_, rfl, ho.cells, ?_⟩
  ((conv=>whnf);repeat(first|(refine mvT ?_;conv=>whnf)|(refine mvF ?_;conv=>whnf)|(refine cT (by rfl) ?_;conv=>whnf)|(refine cF (by rfl) ?_;conv=>whnf)))
  refine Does.mono (zzFits1_does (ht.e0 hx)) ?_;rintro r2 w2 ⟨⟨b2, rfl⟩, hx2⟩;((conv=>whnf);repeat(first|(refine mvT ?_;conv=>whnf)|(refine mvF ?_;conv=>whnf)|(refine cT (by rfl) ?_;conv=>whnf)|(refine cF (by rfl) ?_;conv=>whnf)))
  have hx02 := hx.e0 hx2
  refine cI (by rfl) (fun h1=>?_) (fun h1=>?_)
  · ((conv=>whnf);repeat(first|(refine mvT ?_;conv=>whnf)|(refine mvF ?_;conv=>whnf)|(refine cT (by rfl) ?_;conv=>whnf)|(refine cF (by rfl) ?_;conv=>whnf)))
    exact ⟨rfl, hx02⟩
  · ((conv=>whnf);repeat(first|(refine mvT ?_;conv=>whnf)|(refine mvF ?_;conv=>whnf)|(refine cT (by rfl) ?_;conv=>whnf)|(refine cF (by rfl) ?_;conv=>whnf)))
    refine Does.mono (maxAddOffsetsToTxnRequest w2) ?_;rintro r3 w3 ⟨rfl, hx3⟩;((conv=>whnf);repeat(first|(refine mvT ?_;conv=>whnf)|(refine mvF ?_;conv=>whnf)|(refine cT (by rfl) ?_;conv=>whnf)|(refine cF (by rfl) ?_;conv=>whnf)))
    refine Does.mono (sAddOffsetsToTxnRequest w3) ?_;rintro r4 w4 ⟨⟨fv, rfl, hfd⟩, hx4⟩;((conv=>whnf);repeat(first|(refine mvT ?_;conv=>whnf)|(refine mvF ?_;conv=>whnf)|(refine cT (by rfl) ?_;conv=>whnf)|(refine cF (by rfl) ?_;conv=>whnf)))
    have hone := hfd
    obtain ⟨ls3, hsl3, _⟩ := hone
    obtain ⟨a3, c3, rfl, _⟩ := hsl3.view
    refine Does.mono (version_does n 4 hn (by omega) w4) ?_;rintro r5 w5 ⟨rfl, rfl⟩;((conv=>whnf);repeat(first|(refine mvT ?_;conv=>whnf)|(refine mvF ?_;conv=>whnf)|(refine cT (by rfl) ?_;conv=>whnf)|(refine cF (by rfl) ?_;conv=>whnf)))
    intro b6 w6 hb6 ho6 hx6
    ((conv=>whnf);repeat(first|(refine mvT ?_;conv=>whnf)|(refine mvF ?_;conv=>whnf)|(refine cT (by rfl) ?_;conv=>whnf)|(refine cF (by rfl) ?_;conv=>whnf)))
    refine ⟨_, _, ho6, rfl, rfl, rfl, ?_⟩
    intro w7 ho7 hx7
    have hx57 : Ext nob w5 w7 := hx6.st hx7 hb6
    ((conv=>whnf);repeat(first|(refine mvT ?_;conv=>whnf)|(refine mvF ?_;conv=>whnf)|(refine cT (by rfl) ?_;conv=>whnf)|(refine cF (by rfl) ?_;conv=>whnf)))
    have hx07 : Ext nob w w7 := ((hx02.e0 hx3).e0 hx4).e0 hx57
    have hxd := hx07.e0 (ext_drew _)
    have hod := ((((ho.e0 hx2).e0 hx3).e0 hx4).e0 hx57).e0 (ext_drew _)
    have ho7d := ho7.e0 (ext_drew _)
    have hfdd := (hfd.e0 hx57).e0 (ext_drew _)
    generalize hvv : ((n % (4 + 1) : Nat) : Int) = v
    have hv0 : 0 ≤ v := by omega
    have hv1 : v < 32768 := by omega
    have hok : ∀ f, f ∈ dAddOffsetsToTxnRequest → okF 9 f = true := List.all_eq_true.1 (show (dAddOffsetsToTxnRequest).all (okF 9) = true by decide)
    have hnt : ∀ f, f ∈ dAddOffsetsToTxnRequest → ntF 9 f = true := List.all_eq_true.1 (show (dAddOffsetsToTxnRequest).all (ntF 9) = true by decide)
    refine VD.draw mixed (.q 0 (.q 1 (.q 2 (.q 3 (.q 4 (.q 8 (.q 9 (.q 10 (.eff 5 [8, 10] (.eff 6 [8, 10] (.eff 7 [8, 10] (.eff 11 [] (.eff 12 [] (.eff 13 [] (.done))))))))))))))) (by kernel_rfl) ?_;((conv=>whnf);repeat(first|(refine mvT ?_;conv=>whnf)|(refine mvF ?_;conv=>whnf)|(refine cT (by rfl) ?_;conv=>whnf)|(refine cF (by rfl) ?_;conv=>whnf)))
    refine ldS (ho7d.cell rfl) ?_;((conv=>whnf);repeat(first|(refine mvT ?_;conv=>whnf)|(refine mvF ?_;conv=>whnf)|(refine cT (by rfl) ?_;conv=>whnf)|(refine cF (by rfl) ?_;conv=>whnf)))
    refine ⟨_, rfl, hod.cells, ?_⟩
    ((conv=>whnf);repeat(first|(refine mvT ?_;conv=>whnf)|(refine mvF ?_;conv=>whnf)|(refine cT (by rfl) ?_;conv=>whnf)|(refine cF (by rfl) ?_;conv=>whnf)))
    refine ⟨_, rfl, ho7d.cells, ?_⟩
    ((conv=>whnf);repeat(first|(refine mvT ?_;conv=>whnf)|(refine mvF ?_;conv=>whnf)|(refine cT (by rfl) ?_;conv=>whnf)|(refine cF (by rfl) ?_;conv=>whnf)))
    refine ⟨_, rfl, hod.cells, ?_⟩
    ((conv=>whnf);repeat(first|(refine mvT ?_;conv=>whnf)|(refine mvF ?_;conv=>whnf)|(refine cT (by rfl) ?_;conv=>whnf)|(refine cF (by rfl) ?_;conv=>whnf)))
    refine Does.mono (fit_does (fits_do 9) (v := v) hfdd (ht.e0 hxd) hok (by decide)) ?_
    rintro r8 w8 ⟨hr8, hx8⟩
    refine ⟨by (conv => whnf); exact ⟨⟨_, rfl, (ho7d.e0 hx8).cells, rfl, rfl⟩, ⟨_, rfl, (hod.e0 hx8).cells, rfl, rfl⟩, trivial⟩, ?_⟩
    ((conv=>whnf);repeat(first|(refine mvT ?_;conv=>whnf)|(refine mvF ?_;conv=>whnf)|(refine cT (by rfl) ?_;conv=>whnf)|(refine cF (by rfl) ?_;conv=>whnf)))
    have hsmall := fit_small 9 _ (by decide) v hok t
    refine Does.mono (given_does hr8 hsmall) ?_
    rintro r9 w9 ⟨hr9, hx9⟩
    have hx89 := hx8.e0 hx9
    refine ⟨by (conv => whnf); exact ⟨⟨_, rfl, (ho7d.e0 hx89).cells, rfl, rfl⟩, ⟨_, rfl, (hod.e0 hx89).cells, rfl, rfl⟩, trivial⟩, ?_⟩
    ((conv=>whnf);repeat(first|(refine mvT ?_;conv=>whnf)|(refine mvF ?_;conv=>whnf)|(refine cT (by rfl) ?_;conv=>whnf)|(refine cF (by rfl) ?_;conv=>whnf)))
    have hfx : decide (v ≥ 3) = flexB 3 v := by simp [flexB]
    have hfit := part_ok 9 v dAddOffsetsToTxnRequest t hnt hkeys
    have hlaw : bAddOffsetsToTxnRequest v (decide (v ≥ 3)) (fitB 9 v dAddOffsetsToTxnRequest t) = partB 9 v (flexB 3 v) dAddOffsetsToTxnRequest t := by
      rw [← bAddOffsetsToTxnRequest_eq hv0 hfit, hfx]
      exact part_law 9 v _ dAddOffsetsToTxnRequest t hnt
    have hlen : (partB 9 v (flexB 3 v) dAddOffsetsToTxnRequest t).length ≤ 70000000000000 := Nat.le_trans (partB_len 9 v _ dAddOffsetsToTxnRequest t hnt hkeys) (Nat.le_of_ble_eq_true rfl)
    refine Does.mono (makeAddOffsetsToTxnRequest (v := v) hr9 hfit hv0 hv1 (by rw [hlaw]; exact hlen)) ?_
    rintro r10 w10 ⟨hr10, hx10⟩
    have hx810 := hx89.e0 hx10
    refine ⟨by (conv => whnf); exact ⟨⟨_, rfl, (ho7d.e0 hx810).cells, rfl, rfl⟩, ⟨_, rfl, (hod.e0 hx810).cells, rfl, rfl⟩, trivial⟩, ?_⟩
    ((conv=>whnf);repeat(first|(refine mvT ?_;conv=>whnf)|(refine mvF ?_;conv=>whnf)|(refine cT (by rfl) ?_;conv=>whnf)|(refine cF (by rfl) ?_;conv=>whnf)))
    rw [hlaw] at hr10
    refine Does.mono (write_does 9 (v := v) ⟨_, rfl, hfdd.e0 hx810⟩ (ht.e0 (hxd.e0 hx810)) hok (by decide) (Nat.le_trans hlen (by decide))) ?_
    rintro r11 w11 ⟨hr11, hx11⟩
    ((conv=>whnf);repeat(first|(refine mvT ?_;conv=>whnf)|(refine mvF ?_;conv=>whnf)|(refine cT (by rfl) ?_;conv=>whnf)|(refine cF (by rfl) ?_;conv=>whnf)))
    refine Does.mono (Same_does (hr10.e0 hx11).bytesAny hr11.bytesAny) ?_
    rintro r12 w12 ⟨rfl, hx12⟩
    ((conv=>whnf);repeat(first|(refine mvT ?_;conv=>whnf)|(refine mvF ?_;conv=>whnf)|(refine cT (by rfl) ?_;conv=>whnf)|(refine cF (by rfl) ?_;conv=>whnf)))
    exact ⟨by simp [oneOr], ((hxd.e0 hx810).e0 hx11).e0 hx12⟩
end Go.Proofs.Yteciepjfbipfgaa.K
