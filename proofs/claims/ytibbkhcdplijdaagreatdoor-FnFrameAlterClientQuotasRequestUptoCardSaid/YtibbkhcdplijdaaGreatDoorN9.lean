/- AlterClientQuotasRequest is read and written as a whole request. -/
import Derived.Test.YtibbkhcdplijdaaGreatDoorH1
import Derived.Test.YtibbkhcdplijdaaGreatDoorV9
import Derived.Test.YtibbkhcdplijdaaGreatDoorGversion
set_option linter.unusedVariables false
set_option linter.unusedSimpArgs false
namespace Go.Proofs.YtibbkhcdplijdaaGreatDoor.K
open Go
set_option maxHeartbeats 1600000
set_option maxRecDepth 100000

def rAlterClientQuotasRequestEntryEntity (w : World) (F : Nat → Prop) (cs : List Value) (t : T) : Prop := ∃ c1 m, cs = [str (atT t 0).s, c1, m] ∧ NTextR w F c1 (atT t 1) ∧ TagsR w F m t.u
theorem rAlterClientQuotasRequestEntryEntity_ext {M F : Nat → Prop} {w w' : World} {cs : List Value} {t : T} (h : rAlterClientQuotasRequestEntryEntity w F cs t) (x : Ext M w w') (hF : ∀ k, k < w.heap.size → F k → ¬ M k) : rAlterClientQuotasRequestEntryEntity w' F cs t := by
  obtain ⟨c1, m, rfl, h1, hm⟩ := h
  exact ⟨c1, m, rfl, h1.ext x hF, hm.ext x hF⟩
theorem rAlterClientQuotasRequestEntryEntity_mono {F F' : Nat → Prop} {w : World} {cs : List Value} {t : T} (h : rAlterClientQuotasRequestEntryEntity w F cs t) (hF : ∀ k, k < w.heap.size → F k → F' k) : rAlterClientQuotasRequestEntryEntity w F' cs t := by
  obtain ⟨c1, m, rfl, h1, hm⟩ := h
  exact ⟨c1, m, rfl, h1.mono hF, hm.mono hF⟩
theorem rAlterClientQuotasRequestEntryEntity_len {F : Nat → Prop} {w : World} {cs : List Value} {t : T} (h : rAlterClientQuotasRequestEntryEntity w F cs t) : cs.length = 3 := by
  obtain ⟨c1, m, rfl, h1, hm⟩ := h
  rfl
def rAlterClientQuotasRequestEntryOp (w : World) (F : Nat → Prop) (cs : List Value) (t : T) : Prop := ∃ m, cs = [str (atT t 0).s, .float .f64 (fb (atT t 1).n), .bool (decide ((atT t 2).n % 2 = 1)), m] ∧ TagsR w F m t.u
theorem rAlterClientQuotasRequestEntryOp_ext {M F : Nat → Prop} {w w' : World} {cs : List Value} {t : T} (h : rAlterClientQuotasRequestEntryOp w F cs t) (x : Ext M w w') (hF : ∀ k, k < w.heap.size → F k → ¬ M k) : rAlterClientQuotasRequestEntryOp w' F cs t := by
  obtain ⟨m, rfl, hm⟩ := h
  exact ⟨m, rfl, hm.ext x hF⟩
theorem rAlterClientQuotasRequestEntryOp_mono {F F' : Nat → Prop} {w : World} {cs : List Value} {t : T} (h : rAlterClientQuotasRequestEntryOp w F cs t) (hF : ∀ k, k < w.heap.size → F k → F' k) : rAlterClientQuotasRequestEntryOp w F' cs t := by
  obtain ⟨m, rfl, hm⟩ := h
  exact ⟨m, rfl, hm.mono hF⟩
theorem rAlterClientQuotasRequestEntryOp_len {F : Nat → Prop} {w : World} {cs : List Value} {t : T} (h : rAlterClientQuotasRequestEntryOp w F cs t) : cs.length = 4 := by
  obtain ⟨m, rfl, hm⟩ := h
  rfl
def rAlterClientQuotasRequestEntry (w : World) (F : Nat → Prop) (cs : List Value) (t : T) : Prop := ∃ c0 c1 m, cs = [c0, c1, m] ∧ ListR true 3 (rAlterClientQuotasRequestEntryEntity w F) w F c0 (atT t 0) ∧ ListR true 4 (rAlterClientQuotasRequestEntryOp w F) w F c1 (atT t 1) ∧ TagsR w F m t.u
theorem rAlterClientQuotasRequestEntry_ext {M F : Nat → Prop} {w w' : World} {cs : List Value} {t : T} (h : rAlterClientQuotasRequestEntry w F cs t) (x : Ext M w w') (hF : ∀ k, k < w.heap.size → F k → ¬ M k) : rAlterClientQuotasRequestEntry w' F cs t := by
  obtain ⟨c0, c1, m, rfl, h0, h1, hm⟩ := h
  exact ⟨c0, c1, m, rfl, h0.ext x hF (fun _ _ h => rAlterClientQuotasRequestEntryEntity_ext h x hF), h1.ext x hF (fun _ _ h => rAlterClientQuotasRequestEntryOp_ext h x hF), hm.ext x hF⟩
theorem rAlterClientQuotasRequestEntry_mono {F F' : Nat → Prop} {w : World} {cs : List Value} {t : T} (h : rAlterClientQuotasRequestEntry w F cs t) (hF : ∀ k, k < w.heap.size → F k → F' k) : rAlterClientQuotasRequestEntry w F' cs t := by
  obtain ⟨c0, c1, m, rfl, h0, h1, hm⟩ := h
  exact ⟨c0, c1, m, rfl, h0.mono hF (fun _ _ h => rAlterClientQuotasRequestEntryEntity_mono h hF), h1.mono hF (fun _ _ h => rAlterClientQuotasRequestEntryOp_mono h hF), hm.mono hF⟩
theorem rAlterClientQuotasRequestEntry_len {F : Nat → Prop} {w : World} {cs : List Value} {t : T} (h : rAlterClientQuotasRequestEntry w F cs t) : cs.length = 3 := by
  obtain ⟨c0, c1, m, rfl, h0, h1, hm⟩ := h
  rfl
def bAlterClientQuotasRequestEntryEntity (v : Int) (fx : Bool) (t : T) : List UInt8 := ((txA fx (atT t 0).s) ++ ((ntA fx (atT t 1).nl (atT t 1).s) ++ ([]))) ++ tgsB fx t.u
theorem bAlterClientQuotasRequestEntryEntity_eq {v : Int} {fx : Bool} {t : T} (hv : 0 ≤ v) (hok : partOK 7 v dAlterClientQuotasRequestEntryEntity t) : partA 7 v fx dAlterClientQuotasRequestEntryEntity t = bAlterClientQuotasRequestEntryEntity v fx t := by
  unfold partA partAW bAlterClientQuotasRequestEntryEntity
  rw [tgA_nt (by decide)]
  have hf := hok.1 0 _ rfl
  rw [plainW_all hv]
  rw [tx_eq hf]
  have hf := hok.1 1 _ rfl
  rw [plainW_all hv]
  rw [nt_eq hf (by decide) (.inr hv)]
  rfl
def bAlterClientQuotasRequestEntryOp (v : Int) (fx : Bool) (t : T) : List UInt8 := ((txA fx (atT t 0).s) ++ ((fixed (atT t 1).n 8) ++ ((boA (atT t 2).n) ++ ([])))) ++ tgsB fx t.u
theorem bAlterClientQuotasRequestEntryOp_eq {v : Int} {fx : Bool} {t : T} (hv : 0 ≤ v) (hok : partOK 7 v dAlterClientQuotasRequestEntryOp t) : partA 7 v fx dAlterClientQuotasRequestEntryOp t = bAlterClientQuotasRequestEntryOp v fx t := by
  unfold partA partAW bAlterClientQuotasRequestEntryOp
  rw [tgA_nt (by decide)]
  have hf := hok.1 0 _ rfl
  rw [plainW_all hv]
  rw [tx_eq hf]
  have hf := hok.1 1 _ rfl
  rw [plainW_all hv]
  have hf := hok.1 2 _ rfl
  rw [plainW_all hv]
  rfl
def bAlterClientQuotasRequestEntry (v : Int) (fx : Bool) (t : T) : List UInt8 := ((arA fx (lsT (atT t 0)).length ++ (lsT (atT t 0)).flatMap (bAlterClientQuotasRequestEntryEntity v fx)) ++ ((arA fx (lsT (atT t 1)).length ++ (lsT (atT t 1)).flatMap (bAlterClientQuotasRequestEntryOp v fx)) ++ ([]))) ++ tgsB fx t.u
theorem bAlterClientQuotasRequestEntry_eq {v : Int} {fx : Bool} {t : T} (hv : 0 ≤ v) (hok : partOK 8 v dAlterClientQuotasRequestEntry t) : partA 8 v fx dAlterClientQuotasRequestEntry t = bAlterClientQuotasRequestEntry v fx t := by
  unfold partA partAW bAlterClientQuotasRequestEntry
  rw [tgA_nt (by decide)]
  have hf := hok.1 0 _ rfl
  rw [plainW_all hv]
  rw [ar_eq (g := (bAlterClientQuotasRequestEntryEntity v fx)) hf fun y hy => bAlterClientQuotasRequestEntryEntity_eq hv ((lsT_ok hf y hy).2.2 rfl)]
  have hf := hok.1 1 _ rfl
  rw [plainW_all hv]
  rw [ar_eq (g := (bAlterClientQuotasRequestEntryOp v fx)) hf fun y hy => bAlterClientQuotasRequestEntryOp_eq hv ((lsT_ok hf y hy).2.2 rfl)]
  rfl
def bAlterClientQuotasRequest (v : Int) (fx : Bool) (t : T) : List UInt8 := ((arA fx (lsT (atT t 0)).length ++ (lsT (atT t 0)).flatMap (bAlterClientQuotasRequestEntry v fx)) ++ ((boA (atT t 1).n) ++ ([]))) ++ tgsB fx t.u
theorem bAlterClientQuotasRequest_eq {v : Int} {fx : Bool} {t : T} (hv : 0 ≤ v) (hok : partOK 9 v dAlterClientQuotasRequest t) : partA 9 v fx dAlterClientQuotasRequest t = bAlterClientQuotasRequest v fx t := by
  unfold partA partAW bAlterClientQuotasRequest
  rw [tgA_nt (by decide)]
  have hf := hok.1 0 _ rfl
  rw [plainW_all hv]
  rw [ar_eq (g := (bAlterClientQuotasRequestEntry v fx)) hf fun y hy => bAlterClientQuotasRequestEntry_eq hv ((lsT_ok hf y hy).2.2 rfl)]
  have hf := hok.1 1 _ rfl
  rw [plainW_all hv]
  rfl
theorem appAlterClientQuotasRequest {F : Nat → Prop} {w0 : World} {p B : Nat} {ty : TypeId} {v : Int} {x c0 m : Value} {l : List UInt8} {t : T} (hp : Own w0 p ty [.int .i16 v, c0, .bool (decide ((atT t 1).n % 2 = 1)), m]) (hc0 : ListR true 3 (rAlterClientQuotasRequestEntry w0 F) w0 F c0 (atT t 0)) (hm : TagsR w0 F m t.u) (hok : partOK 9 v dAlterClientQuotasRequest t)
    (hF : ∀ j, j < w0.heap.size → F j → x.ownBlock ≠ some j) (hxp : x.ownBlock ≠ some p) (hx : OB w0 B x l) (hB : B ≤ w0.heap.size) (hv : 0 ≤ v) (hl : l.length + (bAlterClientQuotasRequest v (decide (v ≥ 1)) t).length ≤ 100000000000000) :
    Does X.P 97 #[.pointer (some ⟨p, 0, none⟩), x] w0 fun r w' => Apd w0 B x l (bAlterClientQuotasRequest v (decide (v ≥ 1)) t) r w' := by
  have hpl := hp.lt
  obtain ⟨fx, hfx⟩ : ∃ fx, fx = decide (v ≥ 1) := ⟨_, rfl⟩
  rw [← hfx] at hl ⊢
  unfold bAlterClientQuotasRequest at hl
  simp only [List.length_append, List.length_nil] at hl
  obtain ⟨F0, hFR, hFx, hcs⟩ : ∃ F0 : Nat → Prop, (∀ j, F0 j → j < w0.heap.size ∧ x.ownBlock ≠ some j) ∧ (∀ j, j < w0.heap.size → F0 j → ¬ x.ownBlock = some j) ∧ (ListR true 3 (rAlterClientQuotasRequestEntry w0 F0) w0 F0 c0 (atT t 0) ∧ TagsR w0 F0 m t.u) :=
    ⟨fun j => F j ∧ j < w0.heap.size, fun j h => ⟨h.2, hF j h.2 h.1⟩, fun j _ h => hF j h.2 h.1, hc0.mono (fun k h1 h2 => ⟨h2, h1⟩) (fun _ _ h => rAlterClientQuotasRequestEntry_mono h fun k h1 h2 => ⟨h2, h1⟩), hm.mono fun k h1 h2 => ⟨h2, h1⟩⟩
  clear hm hc0 hF
  obtain ⟨hc0, hm⟩ := hcs
  obtain ⟨a0, k0, l0, rfl, hkm0, hll0, hnn0, hcl0, hrl0⟩ := hc0.view
  have hA := Apd.start hx
  obtain ⟨m0, hm0⟩ : ∃ m0 : List UInt8, m0 = [] := ⟨_, rfl⟩
  rw [← hm0] at hA
  have hl0 : m0.length = 0 := by rw [hm0]; rfl
  refine Does.go (X := X) (l := [_, _]) Tryz.func97 rfl (by kernel_rfl) (by kernel_rfl) _ rfl ?_
  ((conv=>whnf);repeat((first|refine mvT ?_|refine mvF ?_|refine yT ?_|refine yF ?_);conv=>whnf))
  refine ldS (hp.cell rfl) ?_;((conv=>whnf);repeat((first|refine mvT ?_|refine mvF ?_|refine yT ?_|refine yF ?_);conv=>whnf))
  rw [← hfx]
  (refine mvB ?_;((conv=>whnf);repeat((first|refine mvT ?_|refine mvF ?_|refine yT ?_|refine yF ?_);conv=>whnf)))
  refine ldS ((hp.ext hA.ext hxp).cell rfl) ?_;((conv=>whnf);repeat((first|refine mvT ?_|refine mvF ?_|refine yT ?_|refine yF ?_);conv=>whnf))
  have hml0 := lsT_len (hok.1 0 _ rfl)
  (refine mvB ?_;((conv=>whnf);repeat((first|refine mvT ?_|refine mvF ?_|refine yT ?_|refine yF ?_);conv=>whnf)))
  refine VC.cutE (fun r => [(1, r), (0, .pointer (some ⟨p, 0, none⟩)), (5, .int .i16 v), (6, .bool fx), (7, .slice a0 l0.length k0)]) (fun r w' => Apd w0 B x l (m0 ++ (arA fx (lsT (atT t 0)).length)) r w') ?_ ?_
  · refine cI (by rfl) (fun hc=>?_) (fun hc=>?_)
    · ((conv=>whnf);repeat((first|refine mvT ?_|refine mvF ?_|refine yT ?_|refine yF ?_);conv=>whnf))
      refine Does.mono (AppendCompactArrayLen_does hA.ob (Nat.le_trans hB hA.size) (by simp only [List.length_append]; omega) l0.length (by omega)) ?_;rintro r w h;((conv=>whnf);repeat((first|refine mvT ?_|refine mvF ?_|refine yT ?_|refine yF ?_);conv=>whnf))
      rw [hll0] at h
      replace hA := hA.tr h
      clear h
      refine ⟨_, ⟨rfl, rfl, rfl, rfl, rfl, trivial⟩, ?_⟩
      rw [hc]
      exact hA
    · ((conv=>whnf);repeat((first|refine mvT ?_|refine mvF ?_|refine yT ?_|refine yF ?_);conv=>whnf))
      refine Does.mono (AppendArrayLen_does hA.ob (Nat.le_trans hB hA.size) (by simp only [List.length_append]; omega) l0.length) ?_;rintro r w h;((conv=>whnf);repeat((first|refine mvT ?_|refine mvF ?_|refine yT ?_|refine yF ?_);conv=>whnf))
      rw [hll0] at h
      replace hA := hA.tr h
      clear h
      refine ⟨_, ⟨rfl, rfl, rfl, rfl, rfl, trivial⟩, ?_⟩
      rw [hc]
      exact hA
  clear hA
  rintro r w hA
  ((conv=>whnf);repeat((first|refine mvT ?_|refine mvF ?_|refine yT ?_|refine yF ?_);conv=>whnf))
  generalize hm1 : m0 ++ (arA fx (lsT (atT t 0)).length) = m1 at hA
  have hl1 : m1.length = m0.length + (arA fx (lsT (atT t 0)).length).length := by rw [← hm1, List.length_append]
  refine VL.loop (fun s : Nat × Value => [(1, s.2), (0, .pointer (some ⟨p, 0, none⟩)), (5, .int .i16 v), (6, .bool fx), (7, .slice a0 l0.length k0), (43, .slice a0 l0.length k0), (44, .int .i64 l0.length), (45, .int .i64 s.1)])
    (fun s w' => s.1 ≤ l0.length ∧ Apd w0 B x l (m1 ++ ((lsT (atT t 0)).take s.1).flatMap (bAlterClientQuotasRequestEntry v fx)) s.2 w') (fun s => l0.length - s.1) (0, r) ⟨rfl, rfl, rfl, rfl, rfl, rfl, rfl, rfl, trivial⟩ ⟨Nat.zero_le _, by rw [List.take_zero, List.flatMap_nil, List.append_nil]; exact hA⟩ ?_
  clear hA
  rintro ⟨i1, r⟩ w ⟨hi1, hA⟩
  dsimp only at hi1 hA
  ((conv=>whnf);repeat((first|refine mvT ?_|refine mvF ?_|refine yT ?_|refine yF ?_);conv=>whnf))
  refine cI (by rfl) (fun h9=>?_) (fun h9=>?_)
  · have hil : i1 < l0.length := by have := of_decide_eq_true h9; simp only at this; omega
    have hiL1 : i1 < (lsT (atT t 0)).length := by omega
    obtain ⟨hft, hfl⟩ := flat_take (bAlterClientQuotasRequestEntry v fx) (lsT (atT t 0)) i1 hiL1
    obtain ⟨b0, o0, rfl, hF0, hb0, hce0⟩ := hcl0 i1 l0[i1] (by simp [hil])
    have hre0 := hrl0 i1 l0[i1] ((lsT (atT t 0))[i1]) (by simp [hil]) (by simp [hiL1])
    have hlo0 := lsT_ok (hok.1 0 _ rfl) ((lsT (atT t 0))[i1]) (List.getElem_mem hiL1)
    generalize hm2 : m1 ++ ((lsT (atT t 0)).take i1).flatMap (bAlterClientQuotasRequestEntry v fx) = m2 at hA
    have hl2 : m2.length = m1.length + (((lsT (atT t 0)).take i1).flatMap (bAlterClientQuotasRequestEntry v fx)).length := by rw [← hm2, List.length_append]
    obtain ⟨x1, hx1⟩ : ∃ y, y = (lsT (atT t 0))[i1] := ⟨_, rfl⟩
    rw [← hx1] at hft hfl hre0 hlo0
    obtain ⟨c1_0, c1_1, m1_, hcells, hc1_0, hc1_1, hm1_⟩ := hre0
    rw [hcells] at hce0
    have hok1_ := hlo0.2.2 rfl
    obtain ⟨a1_0, k1_0, l1_0, rfl, hkm1_0, hll1_0, hnn1_0, hcl1_0, hrl1_0⟩ := hc1_0.view
    obtain ⟨a1_1, k1_1, l1_1, rfl, hkm1_1, hll1_1, hnn1_1, hcl1_1, hrl1_1⟩ := hc1_1.view
    have hgl : (bAlterClientQuotasRequestEntry v fx x1).length = (bAlterClientQuotasRequestEntry v fx x1).length := rfl
    conv at hgl => rhs; unfold bAlterClientQuotasRequestEntry
    simp only [List.length_append, List.length_nil] at hgl
    ((conv=>whnf);repeat((first|refine mvT ?_|refine mvF ?_|refine yT ?_|refine yF ?_);conv=>whnf))
    refine ⟨b0, o0, rfl, ⟨by omega, by omega⟩, ?_⟩
    ((conv=>whnf);repeat((first|refine mvT ?_|refine mvF ?_|refine yT ?_|refine yF ?_);conv=>whnf))
    refine ⟨_, ld ((hce0.ext hA.ext (hFx _ hb0 hF0)).cell (j := 0) rfl) (by simp <;> omega), ?_⟩; ((conv=>whnf);repeat((first|refine mvT ?_|refine mvF ?_|refine yT ?_|refine yF ?_);conv=>whnf))
    have hml1_0 := lsT_len (hok1_.1 0 _ rfl)
    (refine mvB ?_;((conv=>whnf);repeat((first|refine mvT ?_|refine mvF ?_|refine yT ?_|refine yF ?_);conv=>whnf)))
    refine VC.cutE (fun r => [(1, r), (0, .pointer (some ⟨p, 0, none⟩)), (5, .int .i16 v), (6, .bool fx), (7, .slice (some ⟨b0, o0, none⟩) l0.length k0), (43, .slice (some ⟨b0, o0, none⟩) l0.length k0), (44, .int .i64 l0.length), (45, .int .i64 i1), (9, .pointer (some ⟨b0, o0 + i1 * 3, none⟩)), (10, .slice a1_0 l1_0.length k1_0)]) (fun r w' => Apd w0 B x l (m2 ++ (arA fx (lsT (atT x1 0)).length)) r w') ?_ ?_
    · refine cI (by rfl) (fun hc=>?_) (fun hc=>?_)
      · ((conv=>whnf);repeat((first|refine mvT ?_|refine mvF ?_|refine yT ?_|refine yF ?_);conv=>whnf))
        refine Does.mono (AppendCompactArrayLen_does hA.ob (Nat.le_trans hB hA.size) (by simp only [List.length_append]; omega) l1_0.length (by omega)) ?_;rintro r w h;((conv=>whnf);repeat((first|refine mvT ?_|refine mvF ?_|refine yT ?_|refine yF ?_);conv=>whnf))
        rw [hll1_0] at h
        replace hA := hA.tr h
        clear h
        refine ⟨_, ⟨rfl, rfl, rfl, rfl, rfl, rfl, rfl, rfl, rfl, rfl, trivial⟩, ?_⟩
        rw [hc]
        exact hA
      · ((conv=>whnf);repeat((first|refine mvT ?_|refine mvF ?_|refine yT ?_|refine yF ?_);conv=>whnf))
        refine Does.mono (AppendArrayLen_does hA.ob (Nat.le_trans hB hA.size) (by simp only [List.length_append]; omega) l1_0.length) ?_;rintro r w h;((conv=>whnf);repeat((first|refine mvT ?_|refine mvF ?_|refine yT ?_|refine yF ?_);conv=>whnf))
        rw [hll1_0] at h
        replace hA := hA.tr h
        clear h
        refine ⟨_, ⟨rfl, rfl, rfl, rfl, rfl, rfl, rfl, rfl, rfl, rfl, trivial⟩, ?_⟩
        rw [hc]
        exact hA
    clear hA
    rintro r w hA
    ((conv=>whnf);repeat((first|refine mvT ?_|refine mvF ?_|refine yT ?_|refine yF ?_);conv=>whnf))
    generalize hm3 : m2 ++ (arA fx (lsT (atT x1 0)).length) = m3 at hA
    have hl3 : m3.length = m2.length + (arA fx (lsT (atT x1 0)).length).length := by rw [← hm3, List.length_append]
    refine VL.loop (fun s : Nat × Value => [(1, s.2), (0, .pointer (some ⟨p, 0, none⟩)), (5, .int .i16 v), (6, .bool fx), (7, .slice (some ⟨b0, o0, none⟩) l0.length k0), (43, .slice (some ⟨b0, o0, none⟩) l0.length k0), (44, .int .i64 l0.length), (45, .int .i64 i1), (9, .pointer (some ⟨b0, o0 + i1 * 3, none⟩)), (10, .slice a1_0 l1_0.length k1_0), (64, .slice a1_0 l1_0.length k1_0), (65, .int .i64 l1_0.length), (66, .int .i64 s.1)])
      (fun s w' => s.1 ≤ l1_0.length ∧ Apd w0 B x l (m3 ++ ((lsT (atT x1 0)).take s.1).flatMap (bAlterClientQuotasRequestEntryEntity v fx)) s.2 w') (fun s => l1_0.length - s.1) (0, r) ⟨rfl, rfl, rfl, rfl, rfl, rfl, rfl, rfl, rfl, rfl, rfl, rfl, rfl, trivial⟩ ⟨Nat.zero_le _, by rw [List.take_zero, List.flatMap_nil, List.append_nil]; exact hA⟩ ?_
    clear hA
    rintro ⟨i2, r⟩ w ⟨hi2, hA⟩
    dsimp only at hi2 hA
    ((conv=>whnf);repeat((first|refine mvT ?_|refine mvF ?_|refine yT ?_|refine yF ?_);conv=>whnf))
    refine cI (by rfl) (fun h9=>?_) (fun h9=>?_)
    · have hil : i2 < l1_0.length := by have := of_decide_eq_true h9; simp only at this; omega
      have hiL2 : i2 < (lsT (atT x1 0)).length := by omega
      obtain ⟨hft, hfl⟩ := flat_take (bAlterClientQuotasRequestEntryEntity v fx) (lsT (atT x1 0)) i2 hiL2
      obtain ⟨b1_0, o1_0, rfl, hF1_0, hb1_0, hce1_0⟩ := hcl1_0 i2 l1_0[i2] (by simp [hil])
      have hre1_0 := hrl1_0 i2 l1_0[i2] ((lsT (atT x1 0))[i2]) (by simp [hil]) (by simp [hiL2])
      have hlo1_0 := lsT_ok (hok1_.1 0 _ rfl) ((lsT (atT x1 0))[i2]) (List.getElem_mem hiL2)
      generalize hm4 : m3 ++ ((lsT (atT x1 0)).take i2).flatMap (bAlterClientQuotasRequestEntryEntity v fx) = m4 at hA
      have hl4 : m4.length = m3.length + (((lsT (atT x1 0)).take i2).flatMap (bAlterClientQuotasRequestEntryEntity v fx)).length := by rw [← hm4, List.length_append]
      obtain ⟨x2, hx2⟩ : ∃ y, y = (lsT (atT x1 0))[i2] := ⟨_, rfl⟩
      rw [← hx2] at hft hfl hre1_0 hlo1_0
      obtain ⟨c2_1, m2_, hcells, hc2_1, hm2_⟩ := hre1_0
      rw [hcells] at hce1_0
      have hok2_ := hlo1_0.2.2 rfl
      have hgl : (bAlterClientQuotasRequestEntryEntity v fx x2).length = (bAlterClientQuotasRequestEntryEntity v fx x2).length := rfl
      conv at hgl => rhs; unfold bAlterClientQuotasRequestEntryEntity
      simp only [List.length_append, List.length_nil] at hgl
      ((conv=>whnf);repeat((first|refine mvT ?_|refine mvF ?_|refine yT ?_|refine yF ?_);conv=>whnf))
      refine ⟨b1_0, o1_0, rfl, ⟨by omega, by omega⟩, ?_⟩
      ((conv=>whnf);repeat((first|refine mvT ?_|refine mvF ?_|refine yT ?_|refine yF ?_);conv=>whnf))
      refine ⟨_, ld ((hce1_0.ext hA.ext (hFx _ hb1_0 hF1_0)).cell (j := 0) rfl) (by simp <;> omega), ?_⟩; ((conv=>whnf);repeat((first|refine mvT ?_|refine mvF ?_|refine yT ?_|refine yF ?_);conv=>whnf))
      have hsl := fieldOK_text (hok2_.1 0 _ rfl)
      (refine mvB ?_;((conv=>whnf);repeat((first|refine mvT ?_|refine mvF ?_|refine yT ?_|refine yF ?_);conv=>whnf)))
      refine VC.cutE (fun r => [(1, r), (0, .pointer (some ⟨p, 0, none⟩)), (5, .int .i16 v), (6, .bool fx), (7, .slice (some ⟨b0, o0, none⟩) l0.length k0), (43, .slice (some ⟨b0, o0, none⟩) l0.length k0), (44, .int .i64 l0.length), (45, .int .i64 i1), (9, .pointer (some ⟨b0, o0 + i1 * 3, none⟩)), (10, .slice (some ⟨b1_0, o1_0, none⟩) l1_0.length k1_0), (64, .slice (some ⟨b1_0, o1_0, none⟩) l1_0.length k1_0), (65, .int .i64 l1_0.length), (66, .int .i64 i2), (12, .pointer (some ⟨b1_0, o1_0 + i2 * 3, none⟩))]) (fun r w' => Apd w0 B x l (m4 ++ (txA fx (atT x2 0).s)) r w') ?_ ?_
      · refine cI (by rfl) (fun hc=>?_) (fun hc=>?_)
        · ((conv=>whnf);repeat((first|refine mvT ?_|refine mvF ?_|refine yT ?_|refine yF ?_);conv=>whnf))
          refine Does.mono (AppendCompactString_does hA.ob (Nat.le_trans hB hA.size) _ (by omega) (by simp only [List.length_append]; omega)) ?_;rintro r w h;((conv=>whnf);repeat((first|refine mvT ?_|refine mvF ?_|refine yT ?_|refine yF ?_);conv=>whnf))
          replace hA := hA.tr h
          clear h
          refine ⟨_, ⟨rfl, rfl, rfl, rfl, rfl, rfl, rfl, rfl, rfl, rfl, rfl, rfl, rfl, rfl, trivial⟩, ?_⟩
          rw [hc]
          exact hA
        · ((conv=>whnf);repeat((first|refine mvT ?_|refine mvF ?_|refine yT ?_|refine yF ?_);conv=>whnf))
          refine Does.mono (AppendString_does hA.ob (Nat.le_trans hB hA.size) _ (by simp only [List.length_append]; omega)) ?_;rintro r w h;((conv=>whnf);repeat((first|refine mvT ?_|refine mvF ?_|refine yT ?_|refine yF ?_);conv=>whnf))
          replace hA := hA.tr h
          clear h
          refine ⟨_, ⟨rfl, rfl, rfl, rfl, rfl, rfl, rfl, rfl, rfl, rfl, rfl, rfl, rfl, rfl, trivial⟩, ?_⟩
          rw [hc]
          exact hA
      clear hA
      rintro r w hA
      ((conv=>whnf);repeat((first|refine mvT ?_|refine mvF ?_|refine yT ?_|refine yF ?_);conv=>whnf))
      generalize hm5 : m4 ++ (txA fx (atT x2 0).s) = m5 at hA
      have hl5 : m5.length = m4.length + (txA fx (atT x2 0).s).length := by rw [← hm5, List.length_append]
      refine ⟨_, ld ((hce1_0.ext hA.ext (hFx _ hb1_0 hF1_0)).cell (j := 1) rfl) (by simp <;> omega), ?_⟩; ((conv=>whnf);repeat((first|refine mvT ?_|refine mvF ?_|refine yT ?_|refine yF ?_);conv=>whnf))
      have hsl := fieldOK_text (hok2_.1 1 _ rfl)
      (refine mvB ?_;((conv=>whnf);repeat((first|refine mvT ?_|refine mvF ?_|refine yT ?_|refine yF ?_);conv=>whnf)))
      refine VC.cutE (fun r => [(1, r), (0, .pointer (some ⟨p, 0, none⟩)), (5, .int .i16 v), (6, .bool fx), (7, .slice (some ⟨b0, o0, none⟩) l0.length k0), (43, .slice (some ⟨b0, o0, none⟩) l0.length k0), (44, .int .i64 l0.length), (45, .int .i64 i1), (9, .pointer (some ⟨b0, o0 + i1 * 3, none⟩)), (10, .slice (some ⟨b1_0, o1_0, none⟩) l1_0.length k1_0), (64, .slice (some ⟨b1_0, o1_0, none⟩) l1_0.length k1_0), (65, .int .i64 l1_0.length), (66, .int .i64 i2), (12, .pointer (some ⟨b1_0, o1_0 + i2 * 3, none⟩))]) (fun r w' => Apd w0 B x l (m5 ++ (ntA fx (atT x2 1).nl (atT x2 1).s)) r w') ?_ ?_
      · refine cI (by rfl) (fun hc=>?_) (fun hc=>?_)
        · ((conv=>whnf);repeat((first|refine mvT ?_|refine mvF ?_|refine yT ?_|refine yF ?_);conv=>whnf))
          refine Does.mono (AppendCompactNullableString_R hA.ob (Nat.le_trans hB hA.size) (hc2_1.ext hA.ext hFx) hsl (by simp only [List.length_append]; omega)) ?_;rintro r w h;((conv=>whnf);repeat((first|refine mvT ?_|refine mvF ?_|refine yT ?_|refine yF ?_);conv=>whnf))
          replace hA := hA.tr h
          clear h
          refine ⟨_, ⟨rfl, rfl, rfl, rfl, rfl, rfl, rfl, rfl, rfl, rfl, rfl, rfl, rfl, rfl, trivial⟩, ?_⟩
          rw [hc]
          exact hA
        · ((conv=>whnf);repeat((first|refine mvT ?_|refine mvF ?_|refine yT ?_|refine yF ?_);conv=>whnf))
          refine Does.mono (AppendNullableString_R hA.ob (Nat.le_trans hB hA.size) (hc2_1.ext hA.ext hFx) (by simp only [List.length_append]; omega)) ?_;rintro r w h;((conv=>whnf);repeat((first|refine mvT ?_|refine mvF ?_|refine yT ?_|refine yF ?_);conv=>whnf))
          replace hA := hA.tr h
          clear h
          refine ⟨_, ⟨rfl, rfl, rfl, rfl, rfl, rfl, rfl, rfl, rfl, rfl, rfl, rfl, rfl, rfl, trivial⟩, ?_⟩
          rw [hc]
          exact hA
      clear hA
      rintro r w hA
      ((conv=>whnf);repeat((first|refine mvT ?_|refine mvF ?_|refine yT ?_|refine yF ?_);conv=>whnf))
      generalize hm6 : m5 ++ (ntA fx (atT x2 1).nl (atT x2 1).s) = m6 at hA
      have hl6 : m6.length = m5.length + (ntA fx (atT x2 1).nl (atT x2 1).s).length := by rw [← hm6, List.length_append]
      (refine mvB ?_;((conv=>whnf);repeat((first|refine mvT ?_|refine mvF ?_|refine yT ?_|refine yF ?_);conv=>whnf)))
      refine VC.cutB (fun r => [(1, r), (0, .pointer (some ⟨p, 0, none⟩)), (5, .int .i16 v), (6, .bool fx), (7, .slice (some ⟨b0, o0, none⟩) l0.length k0), (43, .slice (some ⟨b0, o0, none⟩) l0.length k0), (44, .int .i64 l0.length), (45, .int .i64 i1), (9, .pointer (some ⟨b0, o0 + i1 * 3, none⟩)), (10, .slice (some ⟨b1_0, o1_0, none⟩) l1_0.length k1_0), (64, .slice (some ⟨b1_0, o1_0, none⟩) l1_0.length k1_0), (65, .int .i64 l1_0.length), (66, .int .i64 i2), (12, .pointer (some ⟨b1_0, o1_0 + i2 * 3, none⟩))]) (fun r w' => Apd w0 B x l (m6 ++ (tgsB fx (x2).u)) r w') ?_ ?_
      · refine cI (by rfl) (fun hc=>?_) (fun hc=>?_)
        · ((conv=>whnf);repeat((first|refine mvT ?_|refine mvF ?_|refine yT ?_|refine yF ?_);conv=>whnf))
          have hul := hok2_.2.len
          refine Does.mono (Tags_Len_does (ld ((hce1_0.ext hA.ext (hFx _ hb1_0 hF1_0)).cell (j := 2) rfl) (by simp <;> omega)) (hm2_.ext hA.ext hFx)) ?_;rintro r w ⟨rfl, rfl⟩;((conv=>whnf);repeat((first|refine mvT ?_|refine mvF ?_|refine yT ?_|refine yF ?_);conv=>whnf))
          rw [u32_add0 (by omega)]
          refine Does.mono (AppendUvarint_does hA.ob (Nat.le_trans hB hA.size) (x2).u.length (by omega) (by simp only [List.length_append]; omega)) ?_;rintro r w h;((conv=>whnf);repeat((first|refine mvT ?_|refine mvF ?_|refine yT ?_|refine yF ?_);conv=>whnf))
          have hul2 := uvar10 (n := (x2).u.length) (by omega)
          replace hA := hA.tr h
          clear h
          refine Does.mono (AppendEach_does (ld ((hce1_0.ext hA.ext (hFx _ hb1_0 hF1_0)).cell (j := 2) rfl) (by simp <;> omega)) (hm2_.ext hA.ext hFx) hok2_.2 hA.ob (Nat.le_trans hB hA.size) (hA.ne (hFR _ hF1_0).2 (hFR _ hF1_0).1) (fun j _ hf => hA.ne (hFR j hf).2 (hFR j hf).1) (by simp only [List.length_append]; omega)) ?_;rintro r w h;((conv=>whnf);repeat((first|refine mvT ?_|refine mvF ?_|refine yT ?_|refine yF ?_);conv=>whnf))
          replace hA := hA.tr h
          clear h
          refine ⟨_, ⟨rfl, rfl, rfl, rfl, rfl, rfl, rfl, rfl, rfl, rfl, rfl, rfl, rfl, rfl, trivial⟩, ?_⟩
          rw [tgsB, if_pos hc, ← List.append_assoc]
          exact hA
        · ((conv=>whnf);repeat((first|refine mvT ?_|refine mvF ?_|refine yT ?_|refine yF ?_);conv=>whnf))
          refine ⟨_, ⟨rfl, rfl, rfl, rfl, rfl, rfl, rfl, rfl, rfl, rfl, rfl, rfl, rfl, rfl, trivial⟩, ?_⟩
          rw [tgsB, if_neg (by rw [hc]; decide), List.append_nil]
          exact hA
      clear hA
      rintro r w hA
      ((conv=>whnf);repeat((first|refine mvT ?_|refine mvF ?_|refine yT ?_|refine yF ?_);conv=>whnf))
      generalize hm7 : m6 ++ (tgsB fx (x2).u) = m7 at hA
      have hl7 : m7.length = m6.length + (tgsB fx (x2).u).length := by rw [← hm7, List.length_append]
      have hfin : m4 ++ (bAlterClientQuotasRequestEntryEntity v fx) x2 = m7 := by unfold bAlterClientQuotasRequestEntryEntity; simp only [← hm7, ← hm6, ← hm5, List.append_assoc, List.nil_append, List.append_nil]
      refine ⟨(i2 + 1, r), ⟨rfl, rfl, rfl, rfl, rfl, rfl, rfl, rfl, rfl, rfl, rfl, rfl, inc_eq (by rw [maxLen_eq] at hkm1_0; omega), trivial⟩, ⟨by simp only; omega, ?_⟩, by simp only; omega⟩
      rw [hft, ← List.append_assoc, hm4, hfin]
      exact hA
    have hil : i2 = l1_0.length := by have := of_decide_eq_false h9; simp only at this; omega
    ((conv=>whnf);repeat((first|refine mvT ?_|refine mvF ?_|refine yT ?_|refine yF ?_);conv=>whnf))
    rw [hil, hll1_0, List.take_length] at hA
    generalize hm4 : m3 ++ ((lsT (atT x1 0)).flatMap (bAlterClientQuotasRequestEntryEntity v fx)) = m4 at hA
    have hl4 : m4.length = m3.length + ((lsT (atT x1 0)).flatMap (bAlterClientQuotasRequestEntryEntity v fx)).length := by rw [← hm4, List.length_append]
    refine ⟨_, ld ((hce0.ext hA.ext (hFx _ hb0 hF0)).cell (j := 1) rfl) (by simp <;> omega), ?_⟩; ((conv=>whnf);repeat((first|refine mvT ?_|refine mvF ?_|refine yT ?_|refine yF ?_);conv=>whnf))
    have hml1_1 := lsT_len (hok1_.1 1 _ rfl)
    (refine mvB ?_;((conv=>whnf);repeat((first|refine mvT ?_|refine mvF ?_|refine yT ?_|refine yF ?_);conv=>whnf)))
    refine VC.cutE (fun r => [(1, r), (0, .pointer (some ⟨p, 0, none⟩)), (5, .int .i16 v), (6, .bool fx), (7, .slice (some ⟨b0, o0, none⟩) l0.length k0), (43, .slice (some ⟨b0, o0, none⟩) l0.length k0), (44, .int .i64 l0.length), (45, .int .i64 i1), (9, .pointer (some ⟨b0, o0 + i1 * 3, none⟩)), (15, .slice a1_1 l1_1.length k1_1)]) (fun r w' => Apd w0 B x l (m4 ++ (arA fx (lsT (atT x1 1)).length)) r w') ?_ ?_
    · refine cI (by rfl) (fun hc=>?_) (fun hc=>?_)
      · ((conv=>whnf);repeat((first|refine mvT ?_|refine mvF ?_|refine yT ?_|refine yF ?_);conv=>whnf))
        refine Does.mono (AppendCompactArrayLen_does hA.ob (Nat.le_trans hB hA.size) (by simp only [List.length_append]; omega) l1_1.length (by omega)) ?_;rintro r w h;((conv=>whnf);repeat((first|refine mvT ?_|refine mvF ?_|refine yT ?_|refine yF ?_);conv=>whnf))
        rw [hll1_1] at h
        replace hA := hA.tr h
        clear h
        refine ⟨_, ⟨rfl, rfl, rfl, rfl, rfl, rfl, rfl, rfl, rfl, rfl, trivial⟩, ?_⟩
        rw [hc]
        exact hA
      · ((conv=>whnf);repeat((first|refine mvT ?_|refine mvF ?_|refine yT ?_|refine yF ?_);conv=>whnf))
        refine Does.mono (AppendArrayLen_does hA.ob (Nat.le_trans hB hA.size) (by simp only [List.length_append]; omega) l1_1.length) ?_;rintro r w h;((conv=>whnf);repeat((first|refine mvT ?_|refine mvF ?_|refine yT ?_|refine yF ?_);conv=>whnf))
        rw [hll1_1] at h
        replace hA := hA.tr h
        clear h
        refine ⟨_, ⟨rfl, rfl, rfl, rfl, rfl, rfl, rfl, rfl, rfl, rfl, trivial⟩, ?_⟩
        rw [hc]
        exact hA
    clear hA
    rintro r w hA
    ((conv=>whnf);repeat((first|refine mvT ?_|refine mvF ?_|refine yT ?_|refine yF ?_);conv=>whnf))
    generalize hm5 : m4 ++ (arA fx (lsT (atT x1 1)).length) = m5 at hA
    have hl5 : m5.length = m4.length + (arA fx (lsT (atT x1 1)).length).length := by rw [← hm5, List.length_append]
    refine VL.loop (fun s : Nat × Value => [(1, s.2), (0, .pointer (some ⟨p, 0, none⟩)), (5, .int .i16 v), (6, .bool fx), (7, .slice (some ⟨b0, o0, none⟩) l0.length k0), (43, .slice (some ⟨b0, o0, none⟩) l0.length k0), (44, .int .i64 l0.length), (45, .int .i64 i1), (9, .pointer (some ⟨b0, o0 + i1 * 3, none⟩)), (15, .slice a1_1 l1_1.length k1_1), (122, .slice a1_1 l1_1.length k1_1), (123, .int .i64 l1_1.length), (124, .int .i64 s.1)])
      (fun s w' => s.1 ≤ l1_1.length ∧ Apd w0 B x l (m5 ++ ((lsT (atT x1 1)).take s.1).flatMap (bAlterClientQuotasRequestEntryOp v fx)) s.2 w') (fun s => l1_1.length - s.1) (0, r) ⟨rfl, rfl, rfl, rfl, rfl, rfl, rfl, rfl, rfl, rfl, rfl, rfl, rfl, trivial⟩ ⟨Nat.zero_le _, by rw [List.take_zero, List.flatMap_nil, List.append_nil]; exact hA⟩ ?_
    clear hA
    rintro ⟨i3, r⟩ w ⟨hi3, hA⟩
    dsimp only at hi3 hA
    ((conv=>whnf);repeat((first|refine mvT ?_|refine mvF ?_|refine yT ?_|refine yF ?_);conv=>whnf))
    refine cI (by rfl) (fun h9=>?_) (fun h9=>?_)
    · have hil : i3 < l1_1.length := by have := of_decide_eq_true h9; simp only at this; omega
      have hiL3 : i3 < (lsT (atT x1 1)).length := by omega
      obtain ⟨hft, hfl⟩ := flat_take (bAlterClientQuotasRequestEntryOp v fx) (lsT (atT x1 1)) i3 hiL3
      obtain ⟨b1_1, o1_1, rfl, hF1_1, hb1_1, hce1_1⟩ := hcl1_1 i3 l1_1[i3] (by simp [hil])
      have hre1_1 := hrl1_1 i3 l1_1[i3] ((lsT (atT x1 1))[i3]) (by simp [hil]) (by simp [hiL3])
      have hlo1_1 := lsT_ok (hok1_.1 1 _ rfl) ((lsT (atT x1 1))[i3]) (List.getElem_mem hiL3)
      generalize hm6 : m5 ++ ((lsT (atT x1 1)).take i3).flatMap (bAlterClientQuotasRequestEntryOp v fx) = m6 at hA
      have hl6 : m6.length = m5.length + (((lsT (atT x1 1)).take i3).flatMap (bAlterClientQuotasRequestEntryOp v fx)).length := by rw [← hm6, List.length_append]
      obtain ⟨x3, hx3⟩ : ∃ y, y = (lsT (atT x1 1))[i3] := ⟨_, rfl⟩
      rw [← hx3] at hft hfl hre1_1 hlo1_1
      obtain ⟨m3_, hcells, hm3_⟩ := hre1_1
      rw [hcells] at hce1_1
      have hok3_ := hlo1_1.2.2 rfl
      have hgl : (bAlterClientQuotasRequestEntryOp v fx x3).length = (bAlterClientQuotasRequestEntryOp v fx x3).length := rfl
      conv at hgl => rhs; unfold bAlterClientQuotasRequestEntryOp
      simp only [List.length_append, List.length_nil] at hgl
      ((conv=>whnf);repeat((first|refine mvT ?_|refine mvF ?_|refine yT ?_|refine yF ?_);conv=>whnf))
      refine ⟨b1_1, o1_1, rfl, ⟨by omega, by omega⟩, ?_⟩
      ((conv=>whnf);repeat((first|refine mvT ?_|refine mvF ?_|refine yT ?_|refine yF ?_);conv=>whnf))
      refine ⟨_, ld ((hce1_1.ext hA.ext (hFx _ hb1_1 hF1_1)).cell (j := 0) rfl) (by simp <;> omega), ?_⟩; ((conv=>whnf);repeat((first|refine mvT ?_|refine mvF ?_|refine yT ?_|refine yF ?_);conv=>whnf))
      have hsl := fieldOK_text (hok3_.1 0 _ rfl)
      (refine mvB ?_;((conv=>whnf);repeat((first|refine mvT ?_|refine mvF ?_|refine yT ?_|refine yF ?_);conv=>whnf)))
      refine VC.cutE (fun r => [(1, r), (0, .pointer (some ⟨p, 0, none⟩)), (5, .int .i16 v), (6, .bool fx), (7, .slice (some ⟨b0, o0, none⟩) l0.length k0), (43, .slice (some ⟨b0, o0, none⟩) l0.length k0), (44, .int .i64 l0.length), (45, .int .i64 i1), (9, .pointer (some ⟨b0, o0 + i1 * 3, none⟩)), (15, .slice (some ⟨b1_1, o1_1, none⟩) l1_1.length k1_1), (122, .slice (some ⟨b1_1, o1_1, none⟩) l1_1.length k1_1), (123, .int .i64 l1_1.length), (124, .int .i64 i3), (17, .pointer (some ⟨b1_1, o1_1 + i3 * 4, none⟩))]) (fun r w' => Apd w0 B x l (m6 ++ (txA fx (atT x3 0).s)) r w') ?_ ?_
      · refine cI (by rfl) (fun hc=>?_) (fun hc=>?_)
        · ((conv=>whnf);repeat((first|refine mvT ?_|refine mvF ?_|refine yT ?_|refine yF ?_);conv=>whnf))
          refine Does.mono (AppendCompactString_does hA.ob (Nat.le_trans hB hA.size) _ (by omega) (by simp only [List.length_append]; omega)) ?_;rintro r w h;((conv=>whnf);repeat((first|refine mvT ?_|refine mvF ?_|refine yT ?_|refine yF ?_);conv=>whnf))
          replace hA := hA.tr h
          clear h
          refine ⟨_, ⟨rfl, rfl, rfl, rfl, rfl, rfl, rfl, rfl, rfl, rfl, rfl, rfl, rfl, rfl, trivial⟩, ?_⟩
          rw [hc]
          exact hA
        · ((conv=>whnf);repeat((first|refine mvT ?_|refine mvF ?_|refine yT ?_|refine yF ?_);conv=>whnf))
          refine Does.mono (AppendString_does hA.ob (Nat.le_trans hB hA.size) _ (by simp only [List.length_append]; omega)) ?_;rintro r w h;((conv=>whnf);repeat((first|refine mvT ?_|refine mvF ?_|refine yT ?_|refine yF ?_);conv=>whnf))
          replace hA := hA.tr h
          clear h
          refine ⟨_, ⟨rfl, rfl, rfl, rfl, rfl, rfl, rfl, rfl, rfl, rfl, rfl, rfl, rfl, rfl, trivial⟩, ?_⟩
          rw [hc]
          exact hA
      clear hA
      rintro r w hA
      ((conv=>whnf);repeat((first|refine mvT ?_|refine mvF ?_|refine yT ?_|refine yF ?_);conv=>whnf))
      generalize hm7 : m6 ++ (txA fx (atT x3 0).s) = m7 at hA
      have hl7 : m7.length = m6.length + (txA fx (atT x3 0).s).length := by rw [← hm7, List.length_append]
      refine ⟨_, ld ((hce1_1.ext hA.ext (hFx _ hb1_1 hF1_1)).cell (j := 1) rfl) (by simp <;> omega), ?_⟩; ((conv=>whnf);repeat((first|refine mvT ?_|refine mvF ?_|refine yT ?_|refine yF ?_);conv=>whnf))
      refine Does.mono (AppendFloat64_does hA.ob (Nat.le_trans hB hA.size) (by simp only [List.length_append]; omega) (atT x3 1).n) ?_;rintro r w h;((conv=>whnf);repeat((first|refine mvT ?_|refine mvF ?_|refine yT ?_|refine yF ?_);conv=>whnf))
      replace hA := hA.tr h
      clear h
      generalize hm8 : m7 ++ (fixed (atT x3 1).n 8) = m8 at hA
      have hl8 : m8.length = m7.length + (fixed (atT x3 1).n 8).length := by rw [← hm8, List.length_append]
      refine ⟨_, ld ((hce1_1.ext hA.ext (hFx _ hb1_1 hF1_1)).cell (j := 2) rfl) (by simp <;> omega), ?_⟩; ((conv=>whnf);repeat((first|refine mvT ?_|refine mvF ?_|refine yT ?_|refine yF ?_);conv=>whnf))
      (refine mvB ?_;((conv=>whnf);repeat((first|refine mvT ?_|refine mvF ?_|refine yT ?_|refine yF ?_);conv=>whnf)))
      refine Does.mono (AppendBool_does hA.ob (Nat.le_trans hB hA.size) (by simp only [List.length_append]; omega) _) ?_;rintro r w h;((conv=>whnf);repeat((first|refine mvT ?_|refine mvF ?_|refine yT ?_|refine yF ?_);conv=>whnf))
      replace hA := hA.tr h
      clear h
      rw [bo_eq] at hA
      generalize hm9 : m8 ++ (boA (atT x3 2).n) = m9 at hA
      have hl9 : m9.length = m8.length + (boA (atT x3 2).n).length := by rw [← hm9, List.length_append]
      (refine mvB ?_;((conv=>whnf);repeat((first|refine mvT ?_|refine mvF ?_|refine yT ?_|refine yF ?_);conv=>whnf)))
      refine VC.cutB (fun r => [(1, r), (0, .pointer (some ⟨p, 0, none⟩)), (5, .int .i16 v), (6, .bool fx), (7, .slice (some ⟨b0, o0, none⟩) l0.length k0), (43, .slice (some ⟨b0, o0, none⟩) l0.length k0), (44, .int .i64 l0.length), (45, .int .i64 i1), (9, .pointer (some ⟨b0, o0 + i1 * 3, none⟩)), (15, .slice (some ⟨b1_1, o1_1, none⟩) l1_1.length k1_1), (122, .slice (some ⟨b1_1, o1_1, none⟩) l1_1.length k1_1), (123, .int .i64 l1_1.length), (124, .int .i64 i3), (17, .pointer (some ⟨b1_1, o1_1 + i3 * 4, none⟩))]) (fun r w' => Apd w0 B x l (m9 ++ (tgsB fx (x3).u)) r w') ?_ ?_
      · refine cI (by rfl) (fun hc=>?_) (fun hc=>?_)
        · ((conv=>whnf);repeat((first|refine mvT ?_|refine mvF ?_|refine yT ?_|refine yF ?_);conv=>whnf))
          have hul := hok3_.2.len
          refine Does.mono (Tags_Len_does (ld ((hce1_1.ext hA.ext (hFx _ hb1_1 hF1_1)).cell (j := 3) rfl) (by simp <;> omega)) (hm3_.ext hA.ext hFx)) ?_;rintro r w ⟨rfl, rfl⟩;((conv=>whnf);repeat((first|refine mvT ?_|refine mvF ?_|refine yT ?_|refine yF ?_);conv=>whnf))
          rw [u32_add0 (by omega)]
          refine Does.mono (AppendUvarint_does hA.ob (Nat.le_trans hB hA.size) (x3).u.length (by omega) (by simp only [List.length_append]; omega)) ?_;rintro r w h;((conv=>whnf);repeat((first|refine mvT ?_|refine mvF ?_|refine yT ?_|refine yF ?_);conv=>whnf))
          have hul2 := uvar10 (n := (x3).u.length) (by omega)
          replace hA := hA.tr h
          clear h
          refine Does.mono (AppendEach_does (ld ((hce1_1.ext hA.ext (hFx _ hb1_1 hF1_1)).cell (j := 3) rfl) (by simp <;> omega)) (hm3_.ext hA.ext hFx) hok3_.2 hA.ob (Nat.le_trans hB hA.size) (hA.ne (hFR _ hF1_1).2 (hFR _ hF1_1).1) (fun j _ hf => hA.ne (hFR j hf).2 (hFR j hf).1) (by simp only [List.length_append]; omega)) ?_;rintro r w h;((conv=>whnf);repeat((first|refine mvT ?_|refine mvF ?_|refine yT ?_|refine yF ?_);conv=>whnf))
          replace hA := hA.tr h
          clear h
          refine ⟨_, ⟨rfl, rfl, rfl, rfl, rfl, rfl, rfl, rfl, rfl, rfl, rfl, rfl, rfl, rfl, trivial⟩, ?_⟩
          rw [tgsB, if_pos hc, ← List.append_assoc]
          exact hA
        · ((conv=>whnf);repeat((first|refine mvT ?_|refine mvF ?_|refine yT ?_|refine yF ?_);conv=>whnf))
          refine ⟨_, ⟨rfl, rfl, rfl, rfl, rfl, rfl, rfl, rfl, rfl, rfl, rfl, rfl, rfl, rfl, trivial⟩, ?_⟩
          rw [tgsB, if_neg (by rw [hc]; decide), List.append_nil]
          exact hA
      clear hA
      rintro r w hA
      ((conv=>whnf);repeat((first|refine mvT ?_|refine mvF ?_|refine yT ?_|refine yF ?_);conv=>whnf))
      generalize hm10 : m9 ++ (tgsB fx (x3).u) = m10 at hA
      have hl10 : m10.length = m9.length + (tgsB fx (x3).u).length := by rw [← hm10, List.length_append]
      have hfin : m6 ++ (bAlterClientQuotasRequestEntryOp v fx) x3 = m10 := by unfold bAlterClientQuotasRequestEntryOp; simp only [← hm10, ← hm9, ← hm8, ← hm7, List.append_assoc, List.nil_append, List.append_nil]
      refine ⟨(i3 + 1, r), ⟨rfl, rfl, rfl, rfl, rfl, rfl, rfl, rfl, rfl, rfl, rfl, rfl, inc_eq (by rw [maxLen_eq] at hkm1_1; omega), trivial⟩, ⟨by simp only; omega, ?_⟩, by simp only; omega⟩
      rw [hft, ← List.append_assoc, hm6, hfin]
      exact hA
    have hil : i3 = l1_1.length := by have := of_decide_eq_false h9; simp only at this; omega
    ((conv=>whnf);repeat((first|refine mvT ?_|refine mvF ?_|refine yT ?_|refine yF ?_);conv=>whnf))
    rw [hil, hll1_1, List.take_length] at hA
    generalize hm6 : m5 ++ ((lsT (atT x1 1)).flatMap (bAlterClientQuotasRequestEntryOp v fx)) = m6 at hA
    have hl6 : m6.length = m5.length + ((lsT (atT x1 1)).flatMap (bAlterClientQuotasRequestEntryOp v fx)).length := by rw [← hm6, List.length_append]
    (refine mvB ?_;((conv=>whnf);repeat((first|refine mvT ?_|refine mvF ?_|refine yT ?_|refine yF ?_);conv=>whnf)))
    refine VC.cutB (fun r => [(1, r), (0, .pointer (some ⟨p, 0, none⟩)), (5, .int .i16 v), (6, .bool fx), (7, .slice (some ⟨b0, o0, none⟩) l0.length k0), (43, .slice (some ⟨b0, o0, none⟩) l0.length k0), (44, .int .i64 l0.length), (45, .int .i64 i1), (9, .pointer (some ⟨b0, o0 + i1 * 3, none⟩))]) (fun r w' => Apd w0 B x l (m6 ++ (tgsB fx (x1).u)) r w') ?_ ?_
    · refine cI (by rfl) (fun hc=>?_) (fun hc=>?_)
      · ((conv=>whnf);repeat((first|refine mvT ?_|refine mvF ?_|refine yT ?_|refine yF ?_);conv=>whnf))
        have hul := hok1_.2.len
        refine Does.mono (Tags_Len_does (ld ((hce0.ext hA.ext (hFx _ hb0 hF0)).cell (j := 2) rfl) (by simp <;> omega)) (hm1_.ext hA.ext hFx)) ?_;rintro r w ⟨rfl, rfl⟩;((conv=>whnf);repeat((first|refine mvT ?_|refine mvF ?_|refine yT ?_|refine yF ?_);conv=>whnf))
        rw [u32_add0 (by omega)]
        refine Does.mono (AppendUvarint_does hA.ob (Nat.le_trans hB hA.size) (x1).u.length (by omega) (by simp only [List.length_append]; omega)) ?_;rintro r w h;((conv=>whnf);repeat((first|refine mvT ?_|refine mvF ?_|refine yT ?_|refine yF ?_);conv=>whnf))
        have hul2 := uvar10 (n := (x1).u.length) (by omega)
        replace hA := hA.tr h
        clear h
        refine Does.mono (AppendEach_does (ld ((hce0.ext hA.ext (hFx _ hb0 hF0)).cell (j := 2) rfl) (by simp <;> omega)) (hm1_.ext hA.ext hFx) hok1_.2 hA.ob (Nat.le_trans hB hA.size) (hA.ne (hFR _ hF0).2 (hFR _ hF0).1) (fun j _ hf => hA.ne (hFR j hf).2 (hFR j hf).1) (by simp only [List.length_append]; omega)) ?_;rintro r w h;((conv=>whnf);repeat((first|refine mvT ?_|refine mvF ?_|refine yT ?_|refine yF ?_);conv=>whnf))
        replace hA := hA.tr h
        clear h
        refine ⟨_, ⟨rfl, rfl, rfl, rfl, rfl, rfl, rfl, rfl, rfl, trivial⟩, ?_⟩
        rw [tgsB, if_pos hc, ← List.append_assoc]
        exact hA
      · ((conv=>whnf);repeat((first|refine mvT ?_|refine mvF ?_|refine yT ?_|refine yF ?_);conv=>whnf))
        refine ⟨_, ⟨rfl, rfl, rfl, rfl, rfl, rfl, rfl, rfl, rfl, trivial⟩, ?_⟩
        rw [tgsB, if_neg (by rw [hc]; decide), List.append_nil]
        exact hA
    clear hA
    rintro r w hA
    ((conv=>whnf);repeat((first|refine mvT ?_|refine mvF ?_|refine yT ?_|refine yF ?_);conv=>whnf))
    generalize hm7 : m6 ++ (tgsB fx (x1).u) = m7 at hA
    have hl7 : m7.length = m6.length + (tgsB fx (x1).u).length := by rw [← hm7, List.length_append]
    have hfin : m2 ++ (bAlterClientQuotasRequestEntry v fx) x1 = m7 := by unfold bAlterClientQuotasRequestEntry; simp only [← hm7, ← hm6, ← hm5, ← hm4, ← hm3, List.append_assoc, List.nil_append, List.append_nil]
    refine ⟨(i1 + 1, r), ⟨rfl, rfl, rfl, rfl, rfl, rfl, rfl, inc_eq (by rw [maxLen_eq] at hkm0; omega), trivial⟩, ⟨by simp only; omega, ?_⟩, by simp only; omega⟩
    rw [hft, ← List.append_assoc, hm2, hfin]
    exact hA
  have hil : i1 = l0.length := by have := of_decide_eq_false h9; simp only at this; omega
  ((conv=>whnf);repeat((first|refine mvT ?_|refine mvF ?_|refine yT ?_|refine yF ?_);conv=>whnf))
  rw [hil, hll0, List.take_length] at hA
  generalize hm2 : m1 ++ ((lsT (atT t 0)).flatMap (bAlterClientQuotasRequestEntry v fx)) = m2 at hA
  have hl2 : m2.length = m1.length + ((lsT (atT t 0)).flatMap (bAlterClientQuotasRequestEntry v fx)).length := by rw [← hm2, List.length_append]
  refine ldS ((hp.ext hA.ext hxp).cell rfl) ?_;((conv=>whnf);repeat((first|refine mvT ?_|refine mvF ?_|refine yT ?_|refine yF ?_);conv=>whnf))
  (refine mvB ?_;((conv=>whnf);repeat((first|refine mvT ?_|refine mvF ?_|refine yT ?_|refine yF ?_);conv=>whnf)))
  refine Does.mono (AppendBool_does hA.ob (Nat.le_trans hB hA.size) (by simp only [List.length_append]; omega) _) ?_;rintro r w h;((conv=>whnf);repeat((first|refine mvT ?_|refine mvF ?_|refine yT ?_|refine yF ?_);conv=>whnf))
  replace hA := hA.tr h
  clear h
  rw [bo_eq] at hA
  generalize hm3 : m2 ++ (boA (atT t 1).n) = m3 at hA
  have hl3 : m3.length = m2.length + (boA (atT t 1).n).length := by rw [← hm3, List.length_append]
  (refine mvB ?_;((conv=>whnf);repeat((first|refine mvT ?_|refine mvF ?_|refine yT ?_|refine yF ?_);conv=>whnf)))
  refine VC.cutE (fun r => [(1, r), (0, .pointer (some ⟨p, 0, none⟩)), (5, .int .i16 v), (6, .bool fx)]) (fun r w' => Apd w0 B x l (m3 ++ (tgsB fx (t).u)) r w') ?_ ?_
  · refine cI (by rfl) (fun hc=>?_) (fun hc=>?_)
    · ((conv=>whnf);repeat((first|refine mvT ?_|refine mvF ?_|refine yT ?_|refine yF ?_);conv=>whnf))
      have hul := hok.2.len
      refine Does.mono (Tags_Len_does ((hp.ext hA.ext hxp).cell rfl) (hm.ext hA.ext hFx)) ?_;rintro r w ⟨rfl, rfl⟩;((conv=>whnf);repeat((first|refine mvT ?_|refine mvF ?_|refine yT ?_|refine yF ?_);conv=>whnf))
      rw [u32_add0 (by omega)]
      refine Does.mono (AppendUvarint_does hA.ob (Nat.le_trans hB hA.size) (t).u.length (by omega) (by simp only [List.length_append]; omega)) ?_;rintro r w h;((conv=>whnf);repeat((first|refine mvT ?_|refine mvF ?_|refine yT ?_|refine yF ?_);conv=>whnf))
      have hul2 := uvar10 (n := (t).u.length) (by omega)
      replace hA := hA.tr h
      clear h
      refine Does.mono (AppendEach_does ((hp.ext hA.ext hxp).cell rfl) (hm.ext hA.ext hFx) hok.2 hA.ob (Nat.le_trans hB hA.size) (hA.ne hxp hpl) (fun j _ hf => hA.ne (hFR j hf).2 (hFR j hf).1) (by simp only [List.length_append]; omega)) ?_;rintro r w h;((conv=>whnf);repeat((first|refine mvT ?_|refine mvF ?_|refine yT ?_|refine yF ?_);conv=>whnf))
      replace hA := hA.tr h
      clear h
      refine ⟨_, ⟨rfl, rfl, rfl, rfl, trivial⟩, ?_⟩
      rw [tgsB, if_pos hc, ← List.append_assoc]
      exact hA
    · ((conv=>whnf);repeat((first|refine mvT ?_|refine mvF ?_|refine yT ?_|refine yF ?_);conv=>whnf))
      refine ⟨_, ⟨rfl, rfl, rfl, rfl, trivial⟩, ?_⟩
      rw [tgsB, if_neg (by rw [hc]; decide), List.append_nil]
      exact hA
  clear hA
  rintro r w hA
  ((conv=>whnf);repeat((first|refine mvT ?_|refine mvF ?_|refine yT ?_|refine yF ?_);conv=>whnf))
  generalize hm4 : m3 ++ (tgsB fx (t).u) = m4 at hA
  have hl4 : m4.length = m3.length + (tgsB fx (t).u).length := by rw [← hm4, List.length_append]
  show Apd w0 B x l _ r w
  rw [show bAlterClientQuotasRequest v fx t = m4 by unfold bAlterClientQuotasRequest; simp only [← hm4, ← hm3, ← hm2, ← hm1, hm0, List.append_assoc, List.nil_append, List.append_nil]]
  exact hA
theorem qAlterClientQuotasRequestEntryEntity {w : World} {F : Nat → Prop} {cs : List Value} {t : T} (h : QPart true 7 dAlterClientQuotasRequestEntryEntity ⟨w, F⟩ cs t) : rAlterClientQuotasRequestEntryEntity w F cs t := by
  obtain ⟨_, _, u_, m, rfl, rfl, hA0, hm⟩ := iP h
  clear h
  obtain ⟨cc0, _, x0, _, rfl, rfl, h0, hA1⟩ := iA hA0
  obtain ⟨n0, rfl, rfl⟩ := iF8 (by decide) h0
  obtain ⟨cc1, _, x1, _, rfl, rfl, h1, hA2⟩ := iA hA1
  obtain ⟨c1, rfl, hh1⟩ := iF8n (by decide) h1
  obtain ⟨rfl, rfl⟩ := hA2
  exact ⟨c1, m, rfl, hh1, hm⟩
theorem qAlterClientQuotasRequestEntryOp {w : World} {F : Nat → Prop} {cs : List Value} {t : T} (h : QPart true 7 dAlterClientQuotasRequestEntryOp ⟨w, F⟩ cs t) : rAlterClientQuotasRequestEntryOp w F cs t := by
  obtain ⟨_, _, u_, m, rfl, rfl, hA0, hm⟩ := iP h
  clear h
  obtain ⟨cc0, _, x0, _, rfl, rfl, h0, hA1⟩ := iA hA0
  obtain ⟨n0, rfl, rfl⟩ := iF8 (by decide) h0
  obtain ⟨cc1, _, x1, _, rfl, rfl, h1, hA2⟩ := iA hA1
  obtain ⟨n1, rfl, rfl⟩ := iF6 h1
  obtain ⟨cc2, _, x2, _, rfl, rfl, h2, hA3⟩ := iA hA2
  obtain ⟨n2, rfl, rfl⟩ := iF0 h2
  obtain ⟨rfl, rfl⟩ := hA3
  exact ⟨m, rfl, hm⟩
theorem qAlterClientQuotasRequestEntry {w : World} {F : Nat → Prop} {cs : List Value} {t : T} (h : QPart true 8 dAlterClientQuotasRequestEntry ⟨w, F⟩ cs t) : rAlterClientQuotasRequestEntry w F cs t := by
  obtain ⟨_, _, u_, m, rfl, rfl, hA0, hm⟩ := iP h
  clear h
  obtain ⟨cc0, _, x0, _, rfl, rfl, h0, hA1⟩ := iA hA0
  obtain ⟨c0, rfl, hh0⟩ := iF11 (tg := true) (d := 7) (wf := ⟨w, F⟩) (of := 10) (sub := dAlterClientQuotasRequestEntryEntity) (sz := 3) (R := (rAlterClientQuotasRequestEntryEntity w F)) rfl (fun c y hc => qAlterClientQuotasRequestEntryEntity hc) h0
  obtain ⟨cc1, _, x1, _, rfl, rfl, h1, hA2⟩ := iA hA1
  obtain ⟨c1, rfl, hh1⟩ := iF11 (tg := true) (d := 7) (wf := ⟨w, F⟩) (of := 10) (sub := dAlterClientQuotasRequestEntryOp) (sz := 4) (R := (rAlterClientQuotasRequestEntryOp w F)) rfl (fun c y hc => qAlterClientQuotasRequestEntryOp hc) h1
  obtain ⟨rfl, rfl⟩ := hA2
  exact ⟨c0, c1, m, rfl, hh0, hh1, hm⟩
theorem qAlterClientQuotasRequest {w : World} {F : Nat → Prop} {cs : List Value} {t : T} (h : QPart true 9 dAlterClientQuotasRequest ⟨w, F⟩ cs t) : ∃ c0 m, cs = [c0, .bool (decide ((atT t 1).n % 2 = 1)), m] ∧ ListR true 3 (rAlterClientQuotasRequestEntry w F) w F c0 (atT t 0) ∧ TagsR w F m t.u := by
  obtain ⟨_, _, u_, m, rfl, rfl, hA0, hm⟩ := iP h
  clear h
  obtain ⟨cc0, _, x0, _, rfl, rfl, h0, hA1⟩ := iA hA0
  obtain ⟨c0, rfl, hh0⟩ := iF11 (tg := true) (d := 8) (wf := ⟨w, F⟩) (of := 10) (sub := dAlterClientQuotasRequestEntry) (sz := 3) (R := (rAlterClientQuotasRequestEntry w F)) rfl (fun c y hc => qAlterClientQuotasRequestEntry hc) h0
  obtain ⟨cc1, _, x1, _, rfl, rfl, h1, hA2⟩ := iA hA1
  obtain ⟨n1, rfl, rfl⟩ := iF0 h1
  obtain ⟨rfl, rfl⟩ := hA2
  exact ⟨c0, m, rfl, hh0, hm⟩
theorem newAlterClientQuotasRequest (w : World) : Does X.P 15 #[] w fun r w' => ∃ p, r = .pointer (some ⟨p, 0, none⟩) ∧ w.heap.size ≤ p ∧ Own w' p 68 [.int .i16 0, .slice none 0 0, .bool false, .map none] ∧ Ext nob w w' := by
  refine Does.go (X := X) (l := []) Tryz.func15 rfl (by kernel_rfl) (by kernel_rfl) _ rfl ?_
  ((conv=>whnf);repeat((first|refine mvT ?_|refine mvF ?_|refine yT ?_|refine yF ?_);conv=>whnf))
  intro p w1 hp ho hx
  ((conv=>whnf);repeat((first|refine mvT ?_|refine mvF ?_|refine yT ?_|refine yF ?_);conv=>whnf))
  refine Does.mono (dfAlterClientQuotasRequest (pre := []) (cur := [.int .i16 0, .slice none 0 0, .bool false, .map none]) (post := []) (by simpa using ho) rfl rfl) ?_;rintro r2 w2 ⟨hd, hx2⟩;((conv=>whnf);repeat((first|refine mvT ?_|refine mvF ?_|refine yT ?_|refine yF ?_);conv=>whnf))
  exact ⟨p, rfl, hp, by simpa using hd, hx.st hx2 hp⟩
theorem maxAlterClientQuotasRequest (w : World) : Does X.P 6 #[] w fun r w' => r = .int .i64 1 ∧ Ext nob w w' := by
  have hmax : ∀ (p : Nat) (w : World), Does X.P 16 #[.pointer (some ⟨p, 0, none⟩)] w fun r w' => r = .int .i16 1 ∧ w' = w := by
    intro p w
    refine Does.go (X := X) (l := [_]) Tryz.func16 rfl (by kernel_rfl) (by kernel_rfl) _ rfl ?_
    ((conv=>whnf);repeat((first|refine mvT ?_|refine mvF ?_|refine yT ?_|refine yF ?_);conv=>whnf))
    exact ⟨rfl, rfl⟩
  refine Does.go (X := X) (l := []) Tryz.func6 rfl (by kernel_rfl) (by kernel_rfl) _ rfl ?_
  ((conv=>whnf);repeat((first|refine mvT ?_|refine mvF ?_|refine yT ?_|refine yF ?_);conv=>whnf))
  refine Does.mono (newAlterClientQuotasRequest w) ?_;rintro r1 w1 ⟨p, rfl, _, _, hx⟩;((conv=>whnf);repeat((first|refine mvT ?_|refine mvF ?_|refine yT ?_|refine yF ?_);conv=>whnf))
  refine Does.mono (hmax p w1) ?_;rintro r2 w2 ⟨rfl, rfl⟩;((conv=>whnf);repeat((first|refine mvT ?_|refine mvF ?_|refine yT ?_|refine yF ?_);conv=>whnf))
  exact ⟨rfl, hx⟩
theorem frameAlterClientQuotasRequest {G : Nat → Prop} {w : World} {v num : Int} {has : Bool} {x ev : Value} {s id : List UInt8} {t : T} (hL : Laid w ev) (hx : Bytes w G x s) (hv : 0 ≤ v) (hv2 : v < 32768) (hid : id.length ≤ 32767)
    (hrd : rdPart 9 v (decide (v ≥ 1)) dAlterClientQuotasRequest (s, false) = (t, ([], false))) (hok : partOK 9 v dAlterClientQuotasRequest t) (hs : s.length ≤ 100000000000000) (hl : (bAlterClientQuotasRequest v (decide (v ≥ 1)) t).length ≤ 90000000000000) :
    Does X.P 10 #[.agg #[.bool has, str id], .int .i32 num, .int .i64 v, x] w fun r w' => ∃ o, r = .tuple #[o, .bool true] ∧ OB w' w.heap.size o (fixed (headB 49 v num (decide (v ≥ 1)) (.mk 0 id (!has) [] []) ++ bAlterClientQuotasRequest v (decide (v ≥ 1)) t).length 4 ++ (headB 49 v num (decide (v ≥ 1)) (.mk 0 id (!has) [] []) ++ bAlterClientQuotasRequest v (decide (v ≥ 1)) t)) ∧ Ext nob w w' := by
  have hv16 : IntKind.i16.wrap v = v := by
    simp only [IntKind.wrap, IntKind.bits, IntKind.signed]
    simp
    omega
  obtain ⟨ax, cx, rfl, _⟩ := hx.view
  have hL1 := hL.lt
  refine Does.go (X := X) (l := [_, _, _, _]) Tryz.func10 rfl (by kernel_rfl) (by kernel_rfl) _ rfl ?_
  ((conv=>whnf);repeat((first|refine mvT ?_|refine mvF ?_|refine yT ?_|refine yF ?_);conv=>whnf))
  intro b w0 hb ho hx0
  have ho : Own w0 b 23 [.bool has, str id] := ho
  ((conv=>whnf);repeat((first|refine mvT ?_|refine mvF ?_|refine yT ?_|refine yF ?_);conv=>whnf))
  refine Does.mono (newAlterClientQuotasRequest w0) ?_;rintro r1 w1 ⟨p, rfl, hwp, hop, hx1⟩;((conv=>whnf);repeat((first|refine mvT ?_|refine mvF ?_|refine yT ?_|refine yF ?_);conv=>whnf))
  have hwp : w.heap.size ≤ p := Nat.le_trans hx0.size hwp
  have hpb : p ≠ b := by have := ho.lt; omega
  have hx01 := hx0.e0 hx1
  have hset : Does X.P 19 #[.pointer (some ⟨p, 0, none⟩), .int .i16 (IntKind.i16.wrap v)] w1 fun r w' => Own w' p 68 [.int .i16 v, .slice none 0 0, .bool false, .map none] ∧ Ext (fun k => k = p) w1 w' := by
    rw [hv16]
    refine Does.go (X := X) (l := [_, _]) Tryz.func19 rfl (by kernel_rfl) (by kernel_rfl) _ rfl ?_
    ((conv=>whnf);repeat((first|refine mvT ?_|refine mvF ?_|refine yT ?_|refine yF ?_);conv=>whnf))
    refine ⟨_, _, hop, rfl, rfl, rfl, ?_⟩
    intro w3 ho3 hx3
    ((conv=>whnf);repeat((first|refine mvT ?_|refine mvF ?_|refine yT ?_|refine yF ?_);conv=>whnf))
    exact ⟨ho3, hx3⟩
  refine Does.mono (hset) ?_;rintro r2 w2 ⟨hop2, hx2⟩;((conv=>whnf);repeat((first|refine mvT ?_|refine mvF ?_|refine yT ?_|refine yF ?_);conv=>whnf))
  have hx02 := hx01.st hx2 hwp
  have ho2 := (ho.e0 hx1).ext hx2 (fun e => hpb e.symm)
  refine app_bytes rfl rfl (OB.nil w2 w2.heap.size) (hx.e0 hx02).src rfl (by simp only [List.length_nil]; omega) (Nat.le_refl _) ?_
  intro x3 w3 h3 hx3 _ _
  ((conv=>whnf);repeat((first|refine mvT ?_|refine mvF ?_|refine yT ?_|refine yF ?_);conv=>whnf))
  rw [List.nil_append] at h3
  have hx3 : Ext nob w2 w3 := hx3.mono fun k _ h => by simp [Value.ownBlock] at h
  have hx03 := hx02.e0 hx3
  have hpl := hop2.lt
  have hread : Does X.P 20 #[.pointer (some ⟨p, 0, none⟩), x3] w3 fun r w' => RdPost w3 p 68 v (decide (v ≥ 1)) true dAlterClientQuotasRequest ev s r w' := by
    obtain ⟨a3, c3, rfl, _⟩ := h3.shape
    refine Does.go (X := X) (l := [_, _]) Tryz.func20 rfl (by kernel_rfl) (by kernel_rfl) _ rfl ?_
    ((conv=>whnf);repeat((first|refine mvT ?_|refine mvF ?_|refine yT ?_|refine yF ?_);conv=>whnf))
    refine Does.mono (readAlterClientQuotasRequest (hL.ext hx03 fun f => f) (hop2.e0 hx3) (h3.bytes (F := fun k => k ≠ p) fun k hk => by omega) (fun k h => h) hv (by omega)) ?_;rintro r w' h;((conv=>whnf);repeat((first|refine mvT ?_|refine mvF ?_|refine yT ?_|refine yF ?_);conv=>whnf))
    exact h
  refine Does.mono hread ?_
  rintro r4 w4 ⟨hr4, hx4, hpost⟩
  rw [hrd] at hr4 hpost
  obtain rfl : r4 = .nilIface := hr4.trans (if_neg Bool.false_ne_true)
  obtain ⟨cs, hop4, hq⟩ := hpost rfl
  obtain ⟨c0, m, rfl, hc0, hm⟩ := qAlterClientQuotasRequest hq
  ((conv=>whnf);repeat((first|refine mvT ?_|refine mvF ?_|refine yT ?_|refine yF ?_);conv=>whnf))
  have hx04 := hx03.st hx4 hwp
  have ho4 := (ho2.e0 hx3).ext hx4 (fun e => hpb e.symm)
  refine ⟨_, rfl, ho4.cells, ?_⟩
  ((conv=>whnf);repeat((first|refine mvT ?_|refine mvF ?_|refine yT ?_|refine yF ?_);conv=>whnf))
  have hpl4 := hop4.lt
  have hM : ReqM w4 46 p 49 v (decide (v ≥ 1)) (bAlterClientQuotasRequest v (decide (v ≥ 1)) t) 100 98 99 97 := by
    refine ⟨fun _ => by kernel_rfl, fun _ => by kernel_rfl, fun _ => by kernel_rfl, fun _ => by kernel_rfl, fun w => ?_, fun w5 hx5 => ?_, fun w5 hx5 => ?_, fun w5 y l hx5 hoy hly => ?_⟩
    · refine Does.go (X := X) (l := [_]) Tryz.func100 rfl (by kernel_rfl) (by kernel_rfl) _ rfl ?_
      ((conv=>whnf);repeat((first|refine mvT ?_|refine mvF ?_|refine yT ?_|refine yF ?_);conv=>whnf))
      exact ⟨rfl, rfl⟩
    · refine Does.go (X := X) (l := [_]) Tryz.func98 rfl (by kernel_rfl) (by kernel_rfl) _ rfl ?_
      ((conv=>whnf);repeat((first|refine mvT ?_|refine mvF ?_|refine yT ?_|refine yF ?_);conv=>whnf))
      refine ldS ((hop4.e0 hx5).cell rfl) ?_;((conv=>whnf);repeat((first|refine mvT ?_|refine mvF ?_|refine yT ?_|refine yF ?_);conv=>whnf))
      exact ⟨rfl, rfl⟩
    · refine Does.go (X := X) (l := [_]) Tryz.func99 rfl (by kernel_rfl) (by kernel_rfl) _ rfl ?_
      ((conv=>whnf);repeat((first|refine mvT ?_|refine mvF ?_|refine yT ?_|refine yF ?_);conv=>whnf))
      refine ldS ((hop4.e0 hx5).cell rfl) ?_;((conv=>whnf);repeat((first|refine mvT ?_|refine mvF ?_|refine yT ?_|refine yF ?_);conv=>whnf))
      exact ⟨rfl, rfl⟩
    · obtain ⟨F4, hF4⟩ : ∃ F4 : Nat → Prop, F4 = fun k => k ≠ p ∧ k < w4.heap.size := ⟨_, rfl⟩
      exact appAlterClientQuotasRequest (F := fun k => k ≠ p ∧ k < w4.heap.size) (hop4.e0 hx5) (by have := (hc0.mono (F' := F4) (fun k h1 h2 => by rw [hF4]; exact ⟨h2, h1⟩) (fun _ _ h => rAlterClientQuotasRequestEntry_mono (F' := F4) h fun k h1 h2 => by rw [hF4]; exact ⟨h2, h1⟩)).ext hx5 (fun _ _ _ f => f) (fun _ _ h => rAlterClientQuotasRequestEntry_ext h hx5 fun _ _ _ f => f); rw [hF4] at this; exact this) (by have := (hm.mono (F' := F4) fun k h1 h2 => by rw [hF4]; exact ⟨h2, h1⟩).ext hx5 fun _ _ _ f => f; rw [hF4] at this; exact this) hok (fun j _ hj e => by have := hoy.blk j e; have := hj.2; omega) (fun e => by have := hoy.blk p e; omega) hoy hx5.size hv (by omega)
  refine Does.mono (framed_does (w := w4) (num := num) hM (by decide) hid (by omega)) ?_
  rintro r6 w6 ⟨h6, hx6⟩
  ((conv=>whnf);repeat((first|refine mvT ?_|refine mvF ?_|refine yT ?_|refine yF ?_);conv=>whnf))
  exact ⟨r6, rfl, h6.mono hx04.size, hx04.e0 hx6⟩
theorem walkAlterClientQuotasRequest {w : World} {n : Nat} (hn : n < 256) {has : Bool} {id : List UInt8} {num : Int} {x ev : Value} {t : T} (hL : Laid w ev) (ht : Tr w anyB x t) (hsz : wtT t ≤ 1048576) : Does X.P 3 #[.int .u8 n, .agg #[.bool has, str id], .int .i32 num, x] w fun r w' => r = .bool true ∧ Ext nob w w' := by
  have hkeys := ht.keys
  obtain ⟨sv, lv, uv, ls, rfl, _⟩ := ht.open
  refine Does.go (X := X) (l := [_, _, _, _]) Tryz.func3 rfl (by kernel_rfl) (by kernel_rfl) _ rfl ?_
  ((conv=>whnf);repeat((first|refine mvT ?_|refine mvF ?_|refine yT ?_|refine yF ?_);conv=>whnf))
  intro bi wi hbi hoi hxi
  have hoi : Own wi bi 23 [.bool has, str id] := hoi
  ((conv=>whnf);repeat((first|refine mvT ?_|refine mvF ?_|refine yT ?_|refine yF ?_);conv=>whnf))
  intro b w1 hb ho hx1
  have hx := hxi.e0 hx1
  have hoi := hoi.e0 hx1
  ((conv=>whnf);repeat((first|refine mvT ?_|refine mvF ?_|refine yT ?_|refine yF ?_);conv=>whnf))
  refine ⟨_, rfl, hoi.cells, ?_⟩
  ((conv=>whnf);repeat((first|refine mvT ?_|refine mvF ?_|refine yT ?_|refine yF ?_);conv=>whnf))
  refine Does.mono (zzFits4_does (w := w1)) ?_;rintro ra wa ⟨⟨ba, rfl⟩, hxa⟩;((conv=>whnf);repeat((first|refine mvT ?_|refine mvF ?_|refine yT ?_|refine yF ?_);conv=>whnf))
  have hx := hx.e0 hxa
  have hoi := hoi.e0 hxa
  have ho := ho.e0 hxa
  cases ba with
  | false =>
    ((conv=>whnf);repeat((first|refine mvT ?_|refine mvF ?_|refine yT ?_|refine yF ?_);conv=>whnf))
    exact ⟨rfl, hx⟩
  | true =>
  ((conv=>whnf);repeat((first|refine mvT ?_|refine mvF ?_|refine yT ?_|refine yF ?_);conv=>whnf))
  refine ⟨_, rfl, ho.cells, ?_⟩
  ((conv=>whnf);repeat((first|refine mvT ?_|refine mvF ?_|refine yT ?_|refine yF ?_);conv=>whnf))
  refine Does.mono (zzFits1_does (ht.e0 hx)) ?_;rintro r2 w2 ⟨⟨b2, rfl⟩, hx2⟩;((conv=>whnf);repeat((first|refine mvT ?_|refine mvF ?_|refine yT ?_|refine yF ?_);conv=>whnf))
  have hx02 := hx.e0 hx2
  refine cI (by rfl) (fun h1=>?_) (fun h1=>?_)
  · ((conv=>whnf);repeat((first|refine mvT ?_|refine mvF ?_|refine yT ?_|refine yF ?_);conv=>whnf))
    exact ⟨rfl, hx02⟩
  · ((conv=>whnf);repeat((first|refine mvT ?_|refine mvF ?_|refine yT ?_|refine yF ?_);conv=>whnf))
    refine Does.mono (maxAlterClientQuotasRequest w2) ?_;rintro r3 w3 ⟨rfl, hx3⟩;((conv=>whnf);repeat((first|refine mvT ?_|refine mvF ?_|refine yT ?_|refine yF ?_);conv=>whnf))
    refine Does.mono (sAlterClientQuotasRequest w3) ?_;rintro r4 w4 ⟨⟨fv, rfl, hfd⟩, hx4⟩;((conv=>whnf);repeat((first|refine mvT ?_|refine mvF ?_|refine yT ?_|refine yF ?_);conv=>whnf))
    have hone := hfd
    obtain ⟨ls3, hsl3, _⟩ := hone
    obtain ⟨a3, c3, rfl, _⟩ := hsl3.view
    refine Does.mono (version_does n 1 hn (by omega) w4) ?_;rintro r5 w5 ⟨rfl, rfl⟩;((conv=>whnf);repeat((first|refine mvT ?_|refine mvF ?_|refine yT ?_|refine yF ?_);conv=>whnf))
    intro b6 w6 hb6 ho6 hx6
    ((conv=>whnf);repeat((first|refine mvT ?_|refine mvF ?_|refine yT ?_|refine yF ?_);conv=>whnf))
    refine ⟨_, _, ho6, rfl, rfl, rfl, ?_⟩
    intro w7 ho7 hx7
    have hx57 : Ext nob w5 w7 := hx6.st hx7 hb6
    ((conv=>whnf);repeat((first|refine mvT ?_|refine mvF ?_|refine yT ?_|refine yF ?_);conv=>whnf))
    have hx27 : Ext nob w2 w7 := (hx3.e0 hx4).e0 hx57
    have hx07 : Ext nob w w7 := hx02.e0 hx27
    have ho1 := (ho.e0 hx2).e0 hx27
    have hoi1 := (hoi.e0 hx2).e0 hx27
    generalize hvv : ((n % (1 + 1) : Nat) : Int) = v
    have hv0 : 0 ≤ v := by omega
    have hv1 : v < 32768 := by omega
    have hok : ∀ f, f ∈ dAlterClientQuotasRequest → okF 9 f = true := List.all_eq_true.1 (show (dAlterClientQuotasRequest).all (okF 9) = true by decide)
    have hnt : ∀ f, f ∈ dAlterClientQuotasRequest → ntF 9 f = true := List.all_eq_true.1 (show (dAlterClientQuotasRequest).all (ntF 9) = true by decide)
    have hrr : ∀ f, f ∈ dAlterClientQuotasRequest → okR 1 9 f = true := List.all_eq_true.1 (show (dAlterClientQuotasRequest).all (okR 1 9) = true by decide)
    have hww : ∀ f, f ∈ dAlterClientQuotasRequest → okW 9 f = true := List.all_eq_true.1 (show (dAlterClientQuotasRequest).all (okW 9) = true by decide)
    refine ldS (hoi1.cell rfl) ?_;((conv=>whnf);repeat((first|refine mvT ?_|refine mvF ?_|refine yT ?_|refine yF ?_);conv=>whnf))
    refine cI (by rfl) (fun hd=>?_) (fun hd=>?_)
    · ((conv=>whnf);repeat((first|refine mvT ?_|refine mvF ?_|refine yT ?_|refine yF ?_);conv=>whnf))
      exact ⟨rfl, hx07⟩
    · have hl1 : id.length ≤ 32767 := by have := of_decide_eq_false hd; simp only [ByteArray.size, List.size_toArray] at this; omega
      ((conv=>whnf);repeat((first|refine mvT ?_|refine mvF ?_|refine yT ?_|refine yF ?_);conv=>whnf))
      refine ⟨_, rfl, ho7.cells, ?_⟩
      ((conv=>whnf);repeat((first|refine mvT ?_|refine mvF ?_|refine yT ?_|refine yF ?_);conv=>whnf))
      refine ⟨_, rfl, ho1.cells, ?_⟩
      ((conv=>whnf);repeat((first|refine mvT ?_|refine mvF ?_|refine yT ?_|refine yF ?_);conv=>whnf))
      have hfx : decide (v ≥ 1) = flexB 1 v := by simp [flexB]
      have hlen : (partB 9 v (flexB 1 v) dAlterClientQuotasRequest t).length ≤ 90000000000000 := Nat.le_trans (partB_wt 9 v _ dAlterClientQuotasRequest t hnt hkeys) (Nat.le_trans (Nat.mul_le_mul_left _ hsz) (Nat.le_of_ble_eq_true rfl))
      refine Does.mono (write_does 9 (v := v) ⟨_, rfl, hfd.e0 hx57⟩ (ht.e0 hx07) hok (by decide) (Nat.le_trans hlen (by decide))) ?_
      rintro r8 w8 ⟨hr8, hx8⟩
      obtain ⟨a8, c8, rfl, _⟩ := hr8.shape
      ((conv=>whnf);repeat((first|refine mvT ?_|refine mvF ?_|refine yT ?_|refine yF ?_);conv=>whnf))
      have hx08 := hx07.e0 hx8
      have hoi8 := hoi1.e0 hx8
      have ho78 := ho7.e0 hx8
      have hrd : rdPart 9 v (decide (v ≥ 1)) dAlterClientQuotasRequest (partB 9 v (flexB 1 v) dAlterClientQuotasRequest t, false) = (toPart 9 v (decide (v ≥ 1)) dAlterClientQuotasRequest t, ([], false)) := by
        have := part_read 9 1 v dAlterClientQuotasRequest t hnt hrr hkeys hv0 []
        rw [List.append_nil] at this
        rw [hfx]
        exact this
      have hokT := part_okT 9 v (decide (v ≥ 1)) dAlterClientQuotasRequest t hnt hww hkeys hv0
      have hlaw : bAlterClientQuotasRequest v (decide (v ≥ 1)) (toPart 9 v (decide (v ≥ 1)) dAlterClientQuotasRequest t) = partB 9 v (flexB 1 v) dAlterClientQuotasRequest t := by
        rw [← bAlterClientQuotasRequest_eq hv0 hokT, hfx]
        exact partT_law 9 v _ dAlterClientQuotasRequest t hnt hww
      refine ⟨_, rfl, hoi8.cells, ?_⟩
      ((conv=>whnf);repeat((first|refine mvT ?_|refine mvF ?_|refine yT ?_|refine yF ?_);conv=>whnf))
      refine Does.mono (frameAlterClientQuotasRequest (v := v) (num := num) (hL.ext hx08 fun f => f) hr8.bytesAny hv0 hv1 hl1 hrd hokT (by omega) (by rw [hlaw]; omega)) ?_
      rintro r9 w9 ⟨o9, rfl, ho9, hx9⟩
      rw [hlaw] at ho9
      obtain ⟨a9, c9, rfl, _⟩ := ho9.shape
      ((conv=>whnf);repeat((first|refine mvT ?_|refine mvF ?_|refine yT ?_|refine yF ?_);conv=>whnf))
      have hx09 := hx08.e0 hx9
      have hoi9 := hoi8.e0 hx9
      have ho79 := ho78.e0 hx9
      have hr89 := hr8.e0 hx9
      refine VD.draw mixed (.q 0 (.q 1 (.q 2 (.q 3 (.q 4 (.q 5 (.q 6 (.q 7 (.q 8 (.q 10 (.q 11 (.q 13 (.alt (.eff 9 [6, 10] (.eff 12 [6, 8] (.eff 14 [] (.eff 15 [] (.q 16 (.eff 17 [] (.done))))))) (.eff 12 [6, 8] (.eff 9 [6, 10] (.eff 14 [] (.eff 15 [] (.q 16 (.eff 17 [] (.done)))))))))))))))))))) (by kernel_rfl) ?_;((conv=>whnf);repeat((first|refine mvT ?_|refine mvF ?_|refine yT ?_|refine yF ?_);conv=>whnf))
      have hxd : Ext nob w9 w9.drew := ext_drew _
      have hoid := hoi9.e0 hxd
      have ho7d := ho79.e0 hxd
      refine ldS (hoid.cell rfl) ?_;((conv=>whnf);repeat((first|refine mvT ?_|refine mvF ?_|refine yT ?_|refine yF ?_);conv=>whnf))
      refine ldS (hoid.cell rfl) ?_;((conv=>whnf);repeat((first|refine mvT ?_|refine mvF ?_|refine yT ?_|refine yF ?_);conv=>whnf))
      refine ⟨_, rfl, ho7d.cells, ?_⟩
      ((conv=>whnf);repeat((first|refine mvT ?_|refine mvF ?_|refine yT ?_|refine yF ?_);conv=>whnf))
      have ag6 : ∀ {w' : World}, Ext nob w9 w' → w'.cell? ⟨bi, 0 + 0, none⟩ = some (.bool has) := fun h => (hoi9.e0 h).cell rfl
      have ag8 : ∀ {w' : World}, Ext nob w9 w' → w'.cell? ⟨bi, 0 + 1, none⟩ = some (str id) := fun h => (hoi9.e0 h).cell rfl
      have hB : ∀ {w' : World} {b c : Nat}, Cells w' b 0 (id.map bcell) → b < w'.heap.size → id.length ≤ c ∧ c ≤ maxLen → Bytes w' anyB (.slice (some ⟨b, 0, none⟩) id.length c) id := fun h1 h2 h3 => ⟨_, _, rfl, h3, by simp, .inr ⟨_, _, rfl, trivial, h2, h1⟩⟩
      constructor
      · conv => whnf
        refine ⟨by rw [maxLen_eq]; simp only [ByteArray.size, List.size_toArray]; omega, ?_⟩
        intro b10 c10 w10 hb10 hbl10 hC10 hc10 hx10
        simp only [ByteArray.size, List.size_toArray] at hC10 hc10
        have hx9 : Ext nob w9 w10 := hxd.e0 hx10
        refine ⟨by (conv => whnf); exact ⟨⟨_, ag6 hx9, rfl, rfl⟩, ⟨_, rfl, (ho79.e0 hx9).cells, rfl, rfl⟩, trivial⟩, ?_⟩
        conv => whnf
        refine Does.mono (Flexible_does (w := w10)) ?_
        rintro r12 w12 ⟨rfl, hx12⟩
        have hx9 := hx9.e0 hx12
        refine ⟨by (conv => whnf); exact ⟨⟨_, ag6 hx9, rfl, rfl⟩, ⟨_, ag8 hx9, rfl, rfl⟩, trivial⟩, ?_⟩
        conv => whnf
        refine Does.mono (Frame_does (has := has) (num := num) ((hB hC10 hbl10 hc10).e0 hx12) (hr89.e0 hx9).bytesAny hl1 (by omega)) ?_
        rintro r14 w14 ⟨h14, hx14⟩
        obtain ⟨a14, c14, rfl, _⟩ := h14.shape
        have hx9 := hx9.e0 hx14
        ((conv=>whnf);repeat((first|refine mvT ?_|refine mvF ?_|refine yT ?_|refine yF ?_);conv=>whnf))
        refine Does.mono (Same_does (ho9.e0 hx9).bytesAny h14.bytesAny) ?_
        rintro r15 w15 ⟨rfl, hx15⟩
        ((conv=>whnf);repeat((first|refine mvT ?_|refine mvF ?_|refine yT ?_|refine yF ?_);conv=>whnf))
        exact ⟨by simp [oneOr, hfx], (hx09.e0 hx9).e0 hx15⟩
      · conv => whnf
        refine Does.mono (Flexible_does (w := w9.drew)) ?_
        rintro r12 w12 ⟨rfl, hx12⟩
        have hx9 := hxd.e0 hx12
        refine ⟨by (conv => whnf); exact ⟨⟨_, ag6 hx9, rfl, rfl⟩, ⟨_, ag8 hx9, rfl, rfl⟩, trivial⟩, ?_⟩
        conv => whnf
        refine ⟨by rw [maxLen_eq]; simp only [ByteArray.size, List.size_toArray]; omega, ?_⟩
        intro b10 c10 w10 hb10 hbl10 hC10 hc10 hx10
        simp only [ByteArray.size, List.size_toArray] at hC10 hc10
        have hx9 := hx9.e0 hx10
        refine ⟨by (conv => whnf); exact ⟨⟨_, ag6 hx9, rfl, rfl⟩, ⟨_, rfl, (ho79.e0 hx9).cells, rfl, rfl⟩, trivial⟩, ?_⟩
        conv => whnf
        refine Does.mono (Frame_does (has := has) (num := num) (hB hC10 hbl10 hc10) (hr89.e0 hx9).bytesAny hl1 (by omega)) ?_
        rintro r14 w14 ⟨h14, hx14⟩
        obtain ⟨a14, c14, rfl, _⟩ := h14.shape
        have hx9 := hx9.e0 hx14
        ((conv=>whnf);repeat((first|refine mvT ?_|refine mvF ?_|refine yT ?_|refine yF ?_);conv=>whnf))
        refine Does.mono (Same_does (ho9.e0 hx9).bytesAny h14.bytesAny) ?_
        rintro r15 w15 ⟨rfl, hx15⟩
        ((conv=>whnf);repeat((first|refine mvT ?_|refine mvF ?_|refine yT ?_|refine yF ?_);conv=>whnf))
        exact ⟨by simp [oneOr, hfx], (hx09.e0 hx9).e0 hx15⟩
end Go.Proofs.YtibbkhcdplijdaaGreatDoor.K
