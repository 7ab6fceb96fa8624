/- DescribeDelegationTokenResponse is read and written behind octets. -/
import Derived.Test.YtanohglljnajiaaGreatDoorF1
import Derived.Test.YtanohglljnajiaaGreatDoorV56
import Derived.Test.YtanohglljnajiaaGreatDoorGversion
set_option linter.unusedVariables false
set_option linter.unusedSimpArgs false
namespace Go.Proofs.YtanohglljnajiaaGreatDoor.K
open Go
set_option maxHeartbeats 1600000
set_option maxRecDepth 100000

def rDescribeDelegationTokenResponseTokenDetailRenewer (w : World) (F : Nat → Prop) (cs : List Value) (t : T) : Prop := ∃ m, cs = [str (atT t 0).s, str (atT t 1).s, m] ∧ TagsR w F m t.u
theorem rDescribeDelegationTokenResponseTokenDetailRenewer_ext {M F : Nat → Prop} {w w' : World} {cs : List Value} {t : T} (h : rDescribeDelegationTokenResponseTokenDetailRenewer w F cs t) (x : Ext M w w') (hF : ∀ k, k < w.heap.size → F k → ¬ M k) : rDescribeDelegationTokenResponseTokenDetailRenewer w' F cs t := by
  obtain ⟨m, rfl, hm⟩ := h
  exact ⟨m, rfl, hm.ext x hF⟩
theorem rDescribeDelegationTokenResponseTokenDetailRenewer_mono {F F' : Nat → Prop} {w : World} {cs : List Value} {t : T} (h : rDescribeDelegationTokenResponseTokenDetailRenewer w F cs t) (hF : ∀ k, k < w.heap.size → F k → F' k) : rDescribeDelegationTokenResponseTokenDetailRenewer w F' cs t := by
  obtain ⟨m, rfl, hm⟩ := h
  exact ⟨m, rfl, hm.mono hF⟩
theorem rDescribeDelegationTokenResponseTokenDetailRenewer_len {F : Nat → Prop} {w : World} {cs : List Value} {t : T} (h : rDescribeDelegationTokenResponseTokenDetailRenewer w F cs t) : cs.length = 3 := by
  obtain ⟨m, rfl, hm⟩ := h
  rfl
def rDescribeDelegationTokenResponseTokenDetail (w : World) (F : Nat → Prop) (cs : List Value) (t : T) : Prop := ∃ c8 c9 m, cs = [str (atT t 0).s, str (atT t 1).s, str (atT t 2).s, str (atT t 3).s, .int .i64 (atT t 4).n, .int .i64 (atT t 5).n, .int .i64 (atT t 6).n, str (atT t 7).s, c8, c9, m] ∧ OctR true w F c8 (atT t 8) ∧ ListR true 3 (rDescribeDelegationTokenResponseTokenDetailRenewer w F) w F c9 (atT t 9) ∧ TagsR w F m t.u
theorem rDescribeDelegationTokenResponseTokenDetail_ext {M F : Nat → Prop} {w w' : World} {cs : List Value} {t : T} (h : rDescribeDelegationTokenResponseTokenDetail w F cs t) (x : Ext M w w') (hF : ∀ k, k < w.heap.size → F k → ¬ M k) : rDescribeDelegationTokenResponseTokenDetail w' F cs t := by
  obtain ⟨c8, c9, m, rfl, h8, h9, hm⟩ := h
  exact ⟨c8, c9, m, rfl, h8.ext x hF, h9.ext x hF (fun _ _ h => rDescribeDelegationTokenResponseTokenDetailRenewer_ext h x hF), hm.ext x hF⟩
theorem rDescribeDelegationTokenResponseTokenDetail_mono {F F' : Nat → Prop} {w : World} {cs : List Value} {t : T} (h : rDescribeDelegationTokenResponseTokenDetail w F cs t) (hF : ∀ k, k < w.heap.size → F k → F' k) : rDescribeDelegationTokenResponseTokenDetail w F' cs t := by
  obtain ⟨c8, c9, m, rfl, h8, h9, hm⟩ := h
  exact ⟨c8, c9, m, rfl, h8.mono hF, h9.mono hF (fun _ _ h => rDescribeDelegationTokenResponseTokenDetailRenewer_mono h hF), hm.mono hF⟩
theorem rDescribeDelegationTokenResponseTokenDetail_len {F : Nat → Prop} {w : World} {cs : List Value} {t : T} (h : rDescribeDelegationTokenResponseTokenDetail w F cs t) : cs.length = 11 := by
  obtain ⟨c8, c9, m, rfl, h8, h9, hm⟩ := h
  rfl
def bDescribeDelegationTokenResponseTokenDetailRenewer (v : Int) (fx : Bool) (t : T) : List UInt8 := ((txA fx (atT t 0).s) ++ ((txA fx (atT t 1).s) ++ ([]))) ++ tgsB fx t.u
theorem bDescribeDelegationTokenResponseTokenDetailRenewer_eq {v : Int} {fx : Bool} {t : T} (hv : 0 ≤ v) (hok : partOK 7 v dDescribeDelegationTokenResponseTokenDetailRenewer t) : partA 7 v fx dDescribeDelegationTokenResponseTokenDetailRenewer t = bDescribeDelegationTokenResponseTokenDetailRenewer v fx t := by
  unfold partA partAW bDescribeDelegationTokenResponseTokenDetailRenewer
  have hf := hok.1 0 _ rfl
  rw [plainW_all hv]
  rw [tx_eq hf]
  have hf := hok.1 1 _ rfl
  rw [plainW_all hv]
  rw [tx_eq hf]
  rfl
def bDescribeDelegationTokenResponseTokenDetail (v : Int) (fx : Bool) (t : T) : List UInt8 := ((txA fx (atT t 0).s) ++ ((txA fx (atT t 1).s) ++ (((if (decide (3 ≤ v) && (decide ((-1 : Int) < 0) || decide (v ≤ (-1)))) = true then txA fx (atT t 2).s else [])) ++ (((if (decide (3 ≤ v) && (decide ((-1 : Int) < 0) || decide (v ≤ (-1)))) = true then txA fx (atT t 3).s else [])) ++ ((fixed (atT t 4).n 8) ++ ((fixed (atT t 5).n 8) ++ ((fixed (atT t 6).n 8) ++ ((txA fx (atT t 7).s) ++ ((ocA fx (atT t 8).s) ++ ((arA fx (lsT (atT t 9)).length ++ (lsT (atT t 9)).flatMap (bDescribeDelegationTokenResponseTokenDetailRenewer v fx)) ++ ([]))))))))))) ++ tgsB fx t.u
theorem bDescribeDelegationTokenResponseTokenDetail_eq {v : Int} {fx : Bool} {t : T} (hv : 0 ≤ v) (hok : partOK 8 v dDescribeDelegationTokenResponseTokenDetail t) : partA 8 v fx dDescribeDelegationTokenResponseTokenDetail t = bDescribeDelegationTokenResponseTokenDetail v fx t := by
  unfold partA partAW bDescribeDelegationTokenResponseTokenDetail
  have hf := hok.1 0 _ rfl
  rw [plainW_all hv]
  rw [tx_eq hf]
  have hf := hok.1 1 _ rfl
  rw [plainW_all hv]
  rw [tx_eq hf]
  have hf := hok.1 2 _ rfl
  rw [plainW_ver]
  rw [tx_eq hf]
  have hf := hok.1 3 _ rfl
  rw [plainW_ver]
  rw [tx_eq hf]
  have hf := hok.1 4 _ rfl
  rw [plainW_all hv]
  have hf := hok.1 5 _ rfl
  rw [plainW_all hv]
  have hf := hok.1 6 _ rfl
  rw [plainW_all hv]
  have hf := hok.1 7 _ rfl
  rw [plainW_all hv]
  rw [tx_eq hf]
  have hf := hok.1 8 _ rfl
  rw [plainW_all hv]
  rw [oc_eq hf]
  have hf := hok.1 9 _ rfl
  rw [plainW_all hv]
  rw [ar_eq (g := (bDescribeDelegationTokenResponseTokenDetailRenewer v fx)) hf fun y hy => bDescribeDelegationTokenResponseTokenDetailRenewer_eq hv ((lsT_ok hf y hy).2.2 rfl)]
  rfl
def bDescribeDelegationTokenResponse (v : Int) (fx : Bool) (t : T) : List UInt8 := ((fixed (atT t 0).n 2) ++ ((arA fx (lsT (atT t 1)).length ++ (lsT (atT t 1)).flatMap (bDescribeDelegationTokenResponseTokenDetail v fx)) ++ ((fixed (atT t 2).n 4) ++ ([])))) ++ tgsB fx t.u
theorem bDescribeDelegationTokenResponse_eq {v : Int} {fx : Bool} {t : T} (hv : 0 ≤ v) (hok : partOK 9 v dDescribeDelegationTokenResponse t) : partA 9 v fx dDescribeDelegationTokenResponse t = bDescribeDelegationTokenResponse v fx t := by
  unfold partA partAW bDescribeDelegationTokenResponse
  have hf := hok.1 0 _ rfl
  rw [plainW_all hv]
  have hf := hok.1 1 _ rfl
  rw [plainW_all hv]
  rw [ar_eq (g := (bDescribeDelegationTokenResponseTokenDetail v fx)) hf fun y hy => bDescribeDelegationTokenResponseTokenDetail_eq hv ((lsT_ok hf y hy).2.2 rfl)]
  have hf := hok.1 2 _ rfl
  rw [plainW_all hv]
  rfl
theorem appDescribeDelegationTokenResponse {F : Nat → Prop} {w0 : World} {p B : Nat} {ty : TypeId} {v : Int} {x c1 m : Value} {l : List UInt8} {t : T} (hp : Own w0 p ty [.int .i16 v, .int .i16 (IntKind.i16.wrap (atT t 0).n), c1, .int .i32 (IntKind.i32.wrap (atT t 2).n), m]) (hc1 : ListR true 11 (rDescribeDelegationTokenResponseTokenDetail w0 F) w0 F c1 (atT t 1)) (hm : TagsR w0 F m t.u) (hok : partOK 9 v dDescribeDelegationTokenResponse t)
    (hF : ∀ j, j < w0.heap.size → F j → x.ownBlock ≠ some j) (hxp : x.ownBlock ≠ some p) (hx : OB w0 B x l) (hB : B ≤ w0.heap.size) (hv : 0 ≤ v) (hl : l.length + (bDescribeDelegationTokenResponse v (decide (v ≥ 2)) t).length ≤ 70000000000000) :
    Does X.P 80 #[.pointer (some ⟨p, 0, none⟩), x] w0 fun r w' => Apd w0 B x l (bDescribeDelegationTokenResponse v (decide (v ≥ 2)) t) r w' := by
  have hpl := hp.lt
  obtain ⟨fx, hfx⟩ : ∃ fx, fx = decide (v ≥ 2) := ⟨_, rfl⟩
  rw [← hfx] at hl ⊢
  unfold bDescribeDelegationTokenResponse at hl
  simp only [List.length_append, List.length_nil] at hl
  obtain ⟨F0, hFR, hFx, hcs⟩ : ∃ F0 : Nat → Prop, (∀ j, F0 j → j < w0.heap.size ∧ x.ownBlock ≠ some j) ∧ (∀ j, j < w0.heap.size → F0 j → ¬ x.ownBlock = some j) ∧ (ListR true 11 (rDescribeDelegationTokenResponseTokenDetail w0 F0) w0 F0 c1 (atT t 1) ∧ TagsR w0 F0 m t.u) :=
    ⟨fun j => F j ∧ j < w0.heap.size, fun j h => ⟨h.2, hF j h.2 h.1⟩, fun j _ h => hF j h.2 h.1, hc1.mono (fun k h1 h2 => ⟨h2, h1⟩) (fun _ _ h => rDescribeDelegationTokenResponseTokenDetail_mono h fun k h1 h2 => ⟨h2, h1⟩), hm.mono fun k h1 h2 => ⟨h2, h1⟩⟩
  clear hm hc1 hF
  obtain ⟨hc1, hm⟩ := hcs
  obtain ⟨a1, k1, l1, rfl, hkm1, hll1, hnn1, hcl1, hrl1⟩ := hc1.view
  have hA := Apd.start hx
  obtain ⟨m0, hm0⟩ : ∃ m0 : List UInt8, m0 = [] := ⟨_, rfl⟩
  rw [← hm0] at hA
  have hl0 : m0.length = 0 := by rw [hm0]; rfl
  refine Does.go (X := X) (l := [_, _]) Tryz.func80 rfl (by kernel_rfl) (by kernel_rfl) _ rfl ?_
  ((conv=>whnf);repeat(first|(refine mvT ?_;conv=>whnf)|(refine mvF ?_;conv=>whnf)|(refine cT (by rfl) ?_;conv=>whnf)|(refine cF (by rfl) ?_;conv=>whnf)))
  refine ldS (hp.cell rfl) ?_;((conv=>whnf);repeat(first|(refine mvT ?_;conv=>whnf)|(refine mvF ?_;conv=>whnf)|(refine cT (by rfl) ?_;conv=>whnf)|(refine cF (by rfl) ?_;conv=>whnf)))
  rw [← hfx]
  (refine mvB ?_;((conv=>whnf);repeat(first|(refine mvT ?_;conv=>whnf)|(refine mvF ?_;conv=>whnf)|(refine cT (by rfl) ?_;conv=>whnf)|(refine cF (by rfl) ?_;conv=>whnf))))
  refine ldS ((hp.ext hA.ext hxp).cell rfl) ?_;((conv=>whnf);repeat(first|(refine mvT ?_;conv=>whnf)|(refine mvF ?_;conv=>whnf)|(refine cT (by rfl) ?_;conv=>whnf)|(refine cF (by rfl) ?_;conv=>whnf)))
  refine Does.mono (AppendInt16_does hA.ob (Nat.le_trans hB hA.size) (by simp only [List.length_append]; omega) _) ?_;rintro r w h;((conv=>whnf);repeat(first|(refine mvT ?_;conv=>whnf)|(refine mvF ?_;conv=>whnf)|(refine cT (by rfl) ?_;conv=>whnf)|(refine cF (by rfl) ?_;conv=>whnf)))
  rw [fixed2_mod (wrap_i16m _)] at h
  replace hA := hA.tr h
  clear h
  generalize hm1 : m0 ++ (fixed (atT t 0).n 2) = m1 at hA
  have hl1 : m1.length = m0.length + (fixed (atT t 0).n 2).length := by rw [← hm1, List.length_append]
  refine ldS ((hp.ext hA.ext hxp).cell rfl) ?_;((conv=>whnf);repeat(first|(refine mvT ?_;conv=>whnf)|(refine mvF ?_;conv=>whnf)|(refine cT (by rfl) ?_;conv=>whnf)|(refine cF (by rfl) ?_;conv=>whnf)))
  have hml1 := lsT_len (hok.1 1 _ rfl)
  (refine mvB ?_;((conv=>whnf);repeat(first|(refine mvT ?_;conv=>whnf)|(refine mvF ?_;conv=>whnf)|(refine cT (by rfl) ?_;conv=>whnf)|(refine cF (by rfl) ?_;conv=>whnf))))
  refine VC.cutE (fun r => [(1, r), (0, .pointer (some ⟨p, 0, none⟩)), (5, .int .i16 v), (6, .bool fx), (8, .slice a1 l1.length k1)]) (fun r w' => Apd w0 B x l (m1 ++ (arA fx (lsT (atT t 1)).length)) r w') ?_ ?_
  · refine cI (by rfl) (fun hc=>?_) (fun hc=>?_)
    · ((conv=>whnf);repeat(first|(refine mvT ?_;conv=>whnf)|(refine mvF ?_;conv=>whnf)|(refine cT (by rfl) ?_;conv=>whnf)|(refine cF (by rfl) ?_;conv=>whnf)))
      refine Does.mono (AppendCompactArrayLen_does hA.ob (Nat.le_trans hB hA.size) (by simp only [List.length_append]; omega) l1.length (by omega)) ?_;rintro r w h;((conv=>whnf);repeat(first|(refine mvT ?_;conv=>whnf)|(refine mvF ?_;conv=>whnf)|(refine cT (by rfl) ?_;conv=>whnf)|(refine cF (by rfl) ?_;conv=>whnf)))
      rw [hll1] at h
      replace hA := hA.tr h
      clear h
      refine ⟨_, ⟨rfl, rfl, rfl, rfl, rfl, trivial⟩, ?_⟩
      rw [hc]
      exact hA
    · ((conv=>whnf);repeat(first|(refine mvT ?_;conv=>whnf)|(refine mvF ?_;conv=>whnf)|(refine cT (by rfl) ?_;conv=>whnf)|(refine cF (by rfl) ?_;conv=>whnf)))
      refine Does.mono (AppendArrayLen_does hA.ob (Nat.le_trans hB hA.size) (by simp only [List.length_append]; omega) l1.length) ?_;rintro r w h;((conv=>whnf);repeat(first|(refine mvT ?_;conv=>whnf)|(refine mvF ?_;conv=>whnf)|(refine cT (by rfl) ?_;conv=>whnf)|(refine cF (by rfl) ?_;conv=>whnf)))
      rw [hll1] at h
      replace hA := hA.tr h
      clear h
      refine ⟨_, ⟨rfl, rfl, rfl, rfl, rfl, trivial⟩, ?_⟩
      rw [hc]
      exact hA
  clear hA
  rintro r w hA
  ((conv=>whnf);repeat(first|(refine mvT ?_;conv=>whnf)|(refine mvF ?_;conv=>whnf)|(refine cT (by rfl) ?_;conv=>whnf)|(refine cF (by rfl) ?_;conv=>whnf)))
  generalize hm2 : m1 ++ (arA fx (lsT (atT t 1)).length) = m2 at hA
  have hl2 : m2.length = m1.length + (arA fx (lsT (atT t 1)).length).length := by rw [← hm2, List.length_append]
  refine VL.loop (fun s : Nat × Value => [(1, s.2), (0, .pointer (some ⟨p, 0, none⟩)), (5, .int .i16 v), (6, .bool fx), (8, .slice a1 l1.length k1), (54, .slice a1 l1.length k1), (55, .int .i64 l1.length), (56, .int .i64 s.1)])
    (fun s w' => s.1 ≤ l1.length ∧ Apd w0 B x l (m2 ++ ((lsT (atT t 1)).take s.1).flatMap (bDescribeDelegationTokenResponseTokenDetail v fx)) s.2 w') (fun s => l1.length - s.1) (0, r) ⟨rfl, rfl, rfl, rfl, rfl, rfl, rfl, rfl, trivial⟩ ⟨Nat.zero_le _, by rw [List.take_zero, List.flatMap_nil, List.append_nil]; exact hA⟩ ?_
  clear hA
  rintro ⟨i1, r⟩ w ⟨hi1, hA⟩
  dsimp only at hi1 hA
  ((conv=>whnf);repeat(first|(refine mvT ?_;conv=>whnf)|(refine mvF ?_;conv=>whnf)|(refine cT (by rfl) ?_;conv=>whnf)|(refine cF (by rfl) ?_;conv=>whnf)))
  refine cI (by rfl) (fun h9=>?_) (fun h9=>?_)
  · have hil : i1 < l1.length := by have := of_decide_eq_true h9; simp only at this; omega
    have hiL1 : i1 < (lsT (atT t 1)).length := by omega
    obtain ⟨hft, hfl⟩ := flat_take (bDescribeDelegationTokenResponseTokenDetail v fx) (lsT (atT t 1)) i1 hiL1
    obtain ⟨b1, o1, rfl, hF1, hb1, hce1⟩ := hcl1 i1 l1[i1] (by simp [hil])
    have hre1 := hrl1 i1 l1[i1] ((lsT (atT t 1))[i1]) (by simp [hil]) (by simp [hiL1])
    have hlo1 := lsT_ok (hok.1 1 _ rfl) ((lsT (atT t 1))[i1]) (List.getElem_mem hiL1)
    generalize hm3 : m2 ++ ((lsT (atT t 1)).take i1).flatMap (bDescribeDelegationTokenResponseTokenDetail v fx) = m3 at hA
    have hl3 : m3.length = m2.length + (((lsT (atT t 1)).take i1).flatMap (bDescribeDelegationTokenResponseTokenDetail v fx)).length := by rw [← hm3, List.length_append]
    obtain ⟨x1, hx1⟩ : ∃ y, y = (lsT (atT t 1))[i1] := ⟨_, rfl⟩
    rw [← hx1] at hft hfl hre1 hlo1
    obtain ⟨c1_8, c1_9, m1_, hcells, hc1_8, hc1_9, hm1_⟩ := hre1
    rw [hcells] at hce1
    have hok1_ := hlo1.2.2 rfl
    obtain ⟨a1_9, k1_9, l1_9, rfl, hkm1_9, hll1_9, hnn1_9, hcl1_9, hrl1_9⟩ := hc1_9.view
    have hgl : (bDescribeDelegationTokenResponseTokenDetail v fx x1).length = (bDescribeDelegationTokenResponseTokenDetail v fx x1).length := rfl
    conv at hgl => rhs; unfold bDescribeDelegationTokenResponseTokenDetail
    simp only [List.length_append, List.length_nil] at hgl
    ((conv=>whnf);repeat(first|(refine mvT ?_;conv=>whnf)|(refine mvF ?_;conv=>whnf)|(refine cT (by rfl) ?_;conv=>whnf)|(refine cF (by rfl) ?_;conv=>whnf)))
    refine ⟨b1, o1, rfl, ⟨by omega, by omega⟩, ?_⟩
    ((conv=>whnf);repeat(first|(refine mvT ?_;conv=>whnf)|(refine mvF ?_;conv=>whnf)|(refine cT (by rfl) ?_;conv=>whnf)|(refine cF (by rfl) ?_;conv=>whnf)))
    refine ⟨_, ld ((hce1.ext hA.ext (hFx _ hb1 hF1)).cell (j := 0) rfl) (by simp <;> omega), ?_⟩; ((conv=>whnf);repeat(first|(refine mvT ?_;conv=>whnf)|(refine mvF ?_;conv=>whnf)|(refine cT (by rfl) ?_;conv=>whnf)|(refine cF (by rfl) ?_;conv=>whnf)))
    have hsl := fieldOK_text (hok1_.1 0 _ rfl)
    (refine mvB ?_;((conv=>whnf);repeat(first|(refine mvT ?_;conv=>whnf)|(refine mvF ?_;conv=>whnf)|(refine cT (by rfl) ?_;conv=>whnf)|(refine cF (by rfl) ?_;conv=>whnf))))
    refine VC.cutE (fun r => [(1, r), (0, .pointer (some ⟨p, 0, none⟩)), (5, .int .i16 v), (6, .bool fx), (8, .slice (some ⟨b1, o1, none⟩) l1.length k1), (54, .slice (some ⟨b1, o1, none⟩) l1.length k1), (55, .int .i64 l1.length), (56, .int .i64 i1), (10, .pointer (some ⟨b1, o1 + i1 * 11, none⟩))]) (fun r w' => Apd w0 B x l (m3 ++ (txA fx (atT x1 0).s)) r w') ?_ ?_
    · refine cI (by rfl) (fun hc=>?_) (fun hc=>?_)
      · ((conv=>whnf);repeat(first|(refine mvT ?_;conv=>whnf)|(refine mvF ?_;conv=>whnf)|(refine cT (by rfl) ?_;conv=>whnf)|(refine cF (by rfl) ?_;conv=>whnf)))
        refine Does.mono (AppendCompactString_does hA.ob (Nat.le_trans hB hA.size) _ (by omega) (by simp only [List.length_append]; omega)) ?_;rintro r w h;((conv=>whnf);repeat(first|(refine mvT ?_;conv=>whnf)|(refine mvF ?_;conv=>whnf)|(refine cT (by rfl) ?_;conv=>whnf)|(refine cF (by rfl) ?_;conv=>whnf)))
        replace hA := hA.tr h
        clear h
        refine ⟨_, ⟨rfl, rfl, rfl, rfl, rfl, rfl, rfl, rfl, rfl, trivial⟩, ?_⟩
        rw [hc]
        exact hA
      · ((conv=>whnf);repeat(first|(refine mvT ?_;conv=>whnf)|(refine mvF ?_;conv=>whnf)|(refine cT (by rfl) ?_;conv=>whnf)|(refine cF (by rfl) ?_;conv=>whnf)))
        refine Does.mono (AppendString_does hA.ob (Nat.le_trans hB hA.size) _ (by simp only [List.length_append]; omega)) ?_;rintro r w h;((conv=>whnf);repeat(first|(refine mvT ?_;conv=>whnf)|(refine mvF ?_;conv=>whnf)|(refine cT (by rfl) ?_;conv=>whnf)|(refine cF (by rfl) ?_;conv=>whnf)))
        replace hA := hA.tr h
        clear h
        refine ⟨_, ⟨rfl, rfl, rfl, rfl, rfl, rfl, rfl, rfl, rfl, trivial⟩, ?_⟩
        rw [hc]
        exact hA
    clear hA
    rintro r w hA
    ((conv=>whnf);repeat(first|(refine mvT ?_;conv=>whnf)|(refine mvF ?_;conv=>whnf)|(refine cT (by rfl) ?_;conv=>whnf)|(refine cF (by rfl) ?_;conv=>whnf)))
    generalize hm4 : m3 ++ (txA fx (atT x1 0).s) = m4 at hA
    have hl4 : m4.length = m3.length + (txA fx (atT x1 0).s).length := by rw [← hm4, List.length_append]
    refine ⟨_, ld ((hce1.ext hA.ext (hFx _ hb1 hF1)).cell (j := 1) rfl) (by simp <;> omega), ?_⟩; ((conv=>whnf);repeat(first|(refine mvT ?_;conv=>whnf)|(refine mvF ?_;conv=>whnf)|(refine cT (by rfl) ?_;conv=>whnf)|(refine cF (by rfl) ?_;conv=>whnf)))
    have hsl := fieldOK_text (hok1_.1 1 _ rfl)
    (refine mvB ?_;((conv=>whnf);repeat(first|(refine mvT ?_;conv=>whnf)|(refine mvF ?_;conv=>whnf)|(refine cT (by rfl) ?_;conv=>whnf)|(refine cF (by rfl) ?_;conv=>whnf))))
    refine VC.cutE (fun r => [(1, r), (0, .pointer (some ⟨p, 0, none⟩)), (5, .int .i16 v), (6, .bool fx), (8, .slice (some ⟨b1, o1, none⟩) l1.length k1), (54, .slice (some ⟨b1, o1, none⟩) l1.length k1), (55, .int .i64 l1.length), (56, .int .i64 i1), (10, .pointer (some ⟨b1, o1 + i1 * 11, none⟩))]) (fun r w' => Apd w0 B x l (m4 ++ (txA fx (atT x1 1).s)) r w') ?_ ?_
    · refine cI (by rfl) (fun hc=>?_) (fun hc=>?_)
      · ((conv=>whnf);repeat(first|(refine mvT ?_;conv=>whnf)|(refine mvF ?_;conv=>whnf)|(refine cT (by rfl) ?_;conv=>whnf)|(refine cF (by rfl) ?_;conv=>whnf)))
        refine Does.mono (AppendCompactString_does hA.ob (Nat.le_trans hB hA.size) _ (by omega) (by simp only [List.length_append]; omega)) ?_;rintro r w h;((conv=>whnf);repeat(first|(refine mvT ?_;conv=>whnf)|(refine mvF ?_;conv=>whnf)|(refine cT (by rfl) ?_;conv=>whnf)|(refine cF (by rfl) ?_;conv=>whnf)))
        replace hA := hA.tr h
        clear h
        refine ⟨_, ⟨rfl, rfl, rfl, rfl, rfl, rfl, rfl, rfl, rfl, trivial⟩, ?_⟩
        rw [hc]
        exact hA
      · ((conv=>whnf);repeat(first|(refine mvT ?_;conv=>whnf)|(refine mvF ?_;conv=>whnf)|(refine cT (by rfl) ?_;conv=>whnf)|(refine cF (by rfl) ?_;conv=>whnf)))
        refine Does.mono (AppendString_does hA.ob (Nat.le_trans hB hA.size) _ (by simp only [List.length_append]; omega)) ?_;rintro r w h;((conv=>whnf);repeat(first|(refine mvT ?_;conv=>whnf)|(refine mvF ?_;conv=>whnf)|(refine cT (by rfl) ?_;conv=>whnf)|(refine cF (by rfl) ?_;conv=>whnf)))
        replace hA := hA.tr h
        clear h
        refine ⟨_, ⟨rfl, rfl, rfl, rfl, rfl, rfl, rfl, rfl, rfl, trivial⟩, ?_⟩
        rw [hc]
        exact hA
    clear hA
    rintro r w hA
    ((conv=>whnf);repeat(first|(refine mvT ?_;conv=>whnf)|(refine mvF ?_;conv=>whnf)|(refine cT (by rfl) ?_;conv=>whnf)|(refine cF (by rfl) ?_;conv=>whnf)))
    generalize hm5 : m4 ++ (txA fx (atT x1 1).s) = m5 at hA
    have hl5 : m5.length = m4.length + (txA fx (atT x1 1).s).length := by rw [← hm5, List.length_append]
    refine VC.cutE (fun r => [(1, r), (0, .pointer (some ⟨p, 0, none⟩)), (5, .int .i16 v), (6, .bool fx), (8, .slice (some ⟨b1, o1, none⟩) l1.length k1), (54, .slice (some ⟨b1, o1, none⟩) l1.length k1), (55, .int .i64 l1.length), (56, .int .i64 i1), (10, .pointer (some ⟨b1, o1 + i1 * 11, none⟩))]) (fun r w' => Apd w0 B x l (m5 ++ ((if (decide (3 ≤ v) && (decide ((-1 : Int) < 0) || decide (v ≤ (-1)))) = true then txA fx (atT x1 2).s else []))) r w') ?_ ?_
    · refine cI (by rfl) (fun hcv=>?_) (fun hcv=>?_)
      · ((conv=>whnf);repeat(first|(refine mvT ?_;conv=>whnf)|(refine mvF ?_;conv=>whnf)|(refine cT (by rfl) ?_;conv=>whnf)|(refine cF (by rfl) ?_;conv=>whnf)))
        refine ⟨_, ld ((hce1.ext hA.ext (hFx _ hb1 hF1)).cell (j := 2) rfl) (by simp <;> omega), ?_⟩; ((conv=>whnf);repeat(first|(refine mvT ?_;conv=>whnf)|(refine mvF ?_;conv=>whnf)|(refine cT (by rfl) ?_;conv=>whnf)|(refine cF (by rfl) ?_;conv=>whnf)))
        have hsl := fieldOK_text (hok1_.1 2 _ rfl)
        (refine mvB ?_;((conv=>whnf);repeat(first|(refine mvT ?_;conv=>whnf)|(refine mvF ?_;conv=>whnf)|(refine cT (by rfl) ?_;conv=>whnf)|(refine cF (by rfl) ?_;conv=>whnf))))
        refine cI (by rfl) (fun hc=>?_) (fun hc=>?_)
        · ((conv=>whnf);repeat(first|(refine mvT ?_;conv=>whnf)|(refine mvF ?_;conv=>whnf)|(refine cT (by rfl) ?_;conv=>whnf)|(refine cF (by rfl) ?_;conv=>whnf)))
          refine Does.mono (AppendCompactString_does hA.ob (Nat.le_trans hB hA.size) _ (by omega) (by simp only [List.length_append]; omega)) ?_;rintro r w h;((conv=>whnf);repeat(first|(refine mvT ?_;conv=>whnf)|(refine mvF ?_;conv=>whnf)|(refine cT (by rfl) ?_;conv=>whnf)|(refine cF (by rfl) ?_;conv=>whnf)))
          replace hA := hA.tr h
          clear h
          refine ⟨_, ⟨rfl, rfl, rfl, rfl, rfl, rfl, rfl, rfl, rfl, trivial⟩, ?_⟩
          rw [if_pos (by simp only [ge_iff_le, decide_eq_true_eq] at hcv; simp; omega), hc]
          exact hA
        · ((conv=>whnf);repeat(first|(refine mvT ?_;conv=>whnf)|(refine mvF ?_;conv=>whnf)|(refine cT (by rfl) ?_;conv=>whnf)|(refine cF (by rfl) ?_;conv=>whnf)))
          refine Does.mono (AppendString_does hA.ob (Nat.le_trans hB hA.size) _ (by simp only [List.length_append]; omega)) ?_;rintro r w h;((conv=>whnf);repeat(first|(refine mvT ?_;conv=>whnf)|(refine mvF ?_;conv=>whnf)|(refine cT (by rfl) ?_;conv=>whnf)|(refine cF (by rfl) ?_;conv=>whnf)))
          replace hA := hA.tr h
          clear h
          refine ⟨_, ⟨rfl, rfl, rfl, rfl, rfl, rfl, rfl, rfl, rfl, trivial⟩, ?_⟩
          rw [if_pos (by simp only [ge_iff_le, decide_eq_true_eq] at hcv; simp; omega), hc]
          exact hA
      · ((conv=>whnf);repeat(first|(refine mvT ?_;conv=>whnf)|(refine mvF ?_;conv=>whnf)|(refine cT (by rfl) ?_;conv=>whnf)|(refine cF (by rfl) ?_;conv=>whnf)))
        refine ⟨_, ⟨rfl, rfl, rfl, rfl, rfl, rfl, rfl, rfl, rfl, trivial⟩, ?_⟩
        rw [if_neg (by simp only [ge_iff_le, decide_eq_false_iff_not] at hcv; simp; omega), List.append_nil]
        exact hA
    clear hA
    rintro r w hA
    ((conv=>whnf);repeat(first|(refine mvT ?_;conv=>whnf)|(refine mvF ?_;conv=>whnf)|(refine cT (by rfl) ?_;conv=>whnf)|(refine cF (by rfl) ?_;conv=>whnf)))
    generalize hm6 : m5 ++ ((if (decide (3 ≤ v) && (decide ((-1 : Int) < 0) || decide (v ≤ (-1)))) = true then txA fx (atT x1 2).s else [])) = m6 at hA
    have hl6 : m6.length = m5.length + ((if (decide (3 ≤ v) && (decide ((-1 : Int) < 0) || decide (v ≤ (-1)))) = true then txA fx (atT x1 2).s else [])).length := by rw [← hm6, List.length_append]
    refine VC.cutE (fun r => [(1, r), (0, .pointer (some ⟨p, 0, none⟩)), (5, .int .i16 v), (6, .bool fx), (8, .slice (some ⟨b1, o1, none⟩) l1.length k1), (54, .slice (some ⟨b1, o1, none⟩) l1.length k1), (55, .int .i64 l1.length), (56, .int .i64 i1), (10, .pointer (some ⟨b1, o1 + i1 * 11, none⟩))]) (fun r w' => Apd w0 B x l (m6 ++ ((if (decide (3 ≤ v) && (decide ((-1 : Int) < 0) || decide (v ≤ (-1)))) = true then txA fx (atT x1 3).s else []))) r w') ?_ ?_
    · refine cI (by rfl) (fun hcv=>?_) (fun hcv=>?_)
      · ((conv=>whnf);repeat(first|(refine mvT ?_;conv=>whnf)|(refine mvF ?_;conv=>whnf)|(refine cT (by rfl) ?_;conv=>whnf)|(refine cF (by rfl) ?_;conv=>whnf)))
        refine ⟨_, ld ((hce1.ext hA.ext (hFx _ hb1 hF1)).cell (j := 3) rfl) (by simp <;> omega), ?_⟩; ((conv=>whnf);repeat(first|(refine mvT ?_;conv=>whnf)|(refine mvF ?_;conv=>whnf)|(refine cT (by rfl) ?_;conv=>whnf)|(refine cF (by rfl) ?_;conv=>whnf)))
        have hsl := fieldOK_text (hok1_.1 3 _ rfl)
        (refine mvB ?_;((conv=>whnf);repeat(first|(refine mvT ?_;conv=>whnf)|(refine mvF ?_;conv=>whnf)|(refine cT (by rfl) ?_;conv=>whnf)|(refine cF (by rfl) ?_;conv=>whnf))))
        refine cI (by rfl) (fun hc=>?_) (fun hc=>?_)
        · ((conv=>whnf);repeat(first|(refine mvT ?_;conv=>whnf)|(refine mvF ?_;conv=>whnf)|(refine cT (by rfl) ?_;conv=>whnf)|(refine cF (by rfl) ?_;conv=>whnf)))
          refine Does.mono (AppendCompactString_does hA.ob (Nat.le_trans hB hA.size) _ (by omega) (by simp only [List.length_append]; omega)) ?_;rintro r w h;((conv=>whnf);repeat(first|(refine mvT ?_;conv=>whnf)|(refine mvF ?_;conv=>whnf)|(refine cT (by rfl) ?_;conv=>whnf)|(refine cF (by rfl) ?_;conv=>whnf)))
          replace hA := hA.tr h
          clear h
          refine ⟨_, ⟨rfl, rfl, rfl, rfl, rfl, rfl, rfl, rfl, rfl, trivial⟩, ?_⟩
          rw [if_pos (by simp only [ge_iff_le, decide_eq_true_eq] at hcv; simp; omega), hc]
          exact hA
        · ((conv=>whnf);repeat(first|(refine mvT ?_;conv=>whnf)|(refine mvF ?_;conv=>whnf)|(refine cT (by rfl) ?_;conv=>whnf)|(refine cF (by rfl) ?_;conv=>whnf)))
          refine Does.mono (AppendString_does hA.ob (Nat.le_trans hB hA.size) _ (by simp only [List.length_append]; omega)) ?_;rintro r w h;((conv=>whnf);repeat(first|(refine mvT ?_;conv=>whnf)|(refine mvF ?_;conv=>whnf)|(refine cT (by rfl) ?_;conv=>whnf)|(refine cF (by rfl) ?_;conv=>whnf)))
          replace hA := hA.tr h
          clear h
          refine ⟨_, ⟨rfl, rfl, rfl, rfl, rfl, rfl, rfl, rfl, rfl, trivial⟩, ?_⟩
          rw [if_pos (by simp only [ge_iff_le, decide_eq_true_eq] at hcv; simp; omega), hc]
          exact hA
      · ((conv=>whnf);repeat(first|(refine mvT ?_;conv=>whnf)|(refine mvF ?_;conv=>whnf)|(refine cT (by rfl) ?_;conv=>whnf)|(refine cF (by rfl) ?_;conv=>whnf)))
        refine ⟨_, ⟨rfl, rfl, rfl, rfl, rfl, rfl, rfl, rfl, rfl, trivial⟩, ?_⟩
        rw [if_neg (by simp only [ge_iff_le, decide_eq_false_iff_not] at hcv; simp; omega), List.append_nil]
        exact hA
    clear hA
    rintro r w hA
    ((conv=>whnf);repeat(first|(refine mvT ?_;conv=>whnf)|(refine mvF ?_;conv=>whnf)|(refine cT (by rfl) ?_;conv=>whnf)|(refine cF (by rfl) ?_;conv=>whnf)))
    generalize hm7 : m6 ++ ((if (decide (3 ≤ v) && (decide ((-1 : Int) < 0) || decide (v ≤ (-1)))) = true then txA fx (atT x1 3).s else [])) = m7 at hA
    have hl7 : m7.length = m6.length + ((if (decide (3 ≤ v) && (decide ((-1 : Int) < 0) || decide (v ≤ (-1)))) = true then txA fx (atT x1 3).s else [])).length := by rw [← hm7, List.length_append]
    refine ⟨_, ld ((hce1.ext hA.ext (hFx _ hb1 hF1)).cell (j := 4) rfl) (by simp <;> omega), ?_⟩; ((conv=>whnf);repeat(first|(refine mvT ?_;conv=>whnf)|(refine mvF ?_;conv=>whnf)|(refine cT (by rfl) ?_;conv=>whnf)|(refine cF (by rfl) ?_;conv=>whnf)))
    refine Does.mono (AppendInt64_does hA.ob (Nat.le_trans hB hA.size) (by simp only [List.length_append]; omega) _) ?_;rintro r w h;((conv=>whnf);repeat(first|(refine mvT ?_;conv=>whnf)|(refine mvF ?_;conv=>whnf)|(refine cT (by rfl) ?_;conv=>whnf)|(refine cF (by rfl) ?_;conv=>whnf)))
    replace hA := hA.tr h
    clear h
    generalize hm8 : m7 ++ (fixed (atT x1 4).n 8) = m8 at hA
    have hl8 : m8.length = m7.length + (fixed (atT x1 4).n 8).length := by rw [← hm8, List.length_append]
    refine ⟨_, ld ((hce1.ext hA.ext (hFx _ hb1 hF1)).cell (j := 5) rfl) (by simp <;> omega), ?_⟩; ((conv=>whnf);repeat(first|(refine mvT ?_;conv=>whnf)|(refine mvF ?_;conv=>whnf)|(refine cT (by rfl) ?_;conv=>whnf)|(refine cF (by rfl) ?_;conv=>whnf)))
    refine Does.mono (AppendInt64_does hA.ob (Nat.le_trans hB hA.size) (by simp only [List.length_append]; omega) _) ?_;rintro r w h;((conv=>whnf);repeat(first|(refine mvT ?_;conv=>whnf)|(refine mvF ?_;conv=>whnf)|(refine cT (by rfl) ?_;conv=>whnf)|(refine cF (by rfl) ?_;conv=>whnf)))
    replace hA := hA.tr h
    clear h
    generalize hm9 : m8 ++ (fixed (atT x1 5).n 8) = m9 at hA
    have hl9 : m9.length = m8.length + (fixed (atT x1 5).n 8).length := by rw [← hm9, List.length_append]
    refine ⟨_, ld ((hce1.ext hA.ext (hFx _ hb1 hF1)).cell (j := 6) rfl) (by simp <;> omega), ?_⟩; ((conv=>whnf);repeat(first|(refine mvT ?_;conv=>whnf)|(refine mvF ?_;conv=>whnf)|(refine cT (by rfl) ?_;conv=>whnf)|(refine cF (by rfl) ?_;conv=>whnf)))
    refine Does.mono (AppendInt64_does hA.ob (Nat.le_trans hB hA.size) (by simp only [List.length_append]; omega) _) ?_;rintro r w h;((conv=>whnf);repeat(first|(refine mvT ?_;conv=>whnf)|(refine mvF ?_;conv=>whnf)|(refine cT (by rfl) ?_;conv=>whnf)|(refine cF (by rfl) ?_;conv=>whnf)))
    replace hA := hA.tr h
    clear h
    generalize hm10 : m9 ++ (fixed (atT x1 6).n 8) = m10 at hA
    have hl10 : m10.length = m9.length + (fixed (atT x1 6).n 8).length := by rw [← hm10, List.length_append]
    refine ⟨_, ld ((hce1.ext hA.ext (hFx _ hb1 hF1)).cell (j := 7) rfl) (by simp <;> omega), ?_⟩; ((conv=>whnf);repeat(first|(refine mvT ?_;conv=>whnf)|(refine mvF ?_;conv=>whnf)|(refine cT (by rfl) ?_;conv=>whnf)|(refine cF (by rfl) ?_;conv=>whnf)))
    have hsl := fieldOK_text (hok1_.1 7 _ rfl)
    (refine mvB ?_;((conv=>whnf);repeat(first|(refine mvT ?_;conv=>whnf)|(refine mvF ?_;conv=>whnf)|(refine cT (by rfl) ?_;conv=>whnf)|(refine cF (by rfl) ?_;conv=>whnf))))
    refine VC.cutE (fun r => [(1, r), (0, .pointer (some ⟨p, 0, none⟩)), (5, .int .i16 v), (6, .bool fx), (8, .slice (some ⟨b1, o1, none⟩) l1.length k1), (54, .slice (some ⟨b1, o1, none⟩) l1.length k1), (55, .int .i64 l1.length), (56, .int .i64 i1), (10, .pointer (some ⟨b1, o1 + i1 * 11, none⟩))]) (fun r w' => Apd w0 B x l (m10 ++ (txA fx (atT x1 7).s)) r w') ?_ ?_
    · refine cI (by rfl) (fun hc=>?_) (fun hc=>?_)
      · ((conv=>whnf);repeat(first|(refine mvT ?_;conv=>whnf)|(refine mvF ?_;conv=>whnf)|(refine cT (by rfl) ?_;conv=>whnf)|(refine cF (by rfl) ?_;conv=>whnf)))
        refine Does.mono (AppendCompactString_does hA.ob (Nat.le_trans hB hA.size) _ (by omega) (by simp only [List.length_append]; omega)) ?_;rintro r w h;((conv=>whnf);repeat(first|(refine mvT ?_;conv=>whnf)|(refine mvF ?_;conv=>whnf)|(refine cT (by rfl) ?_;conv=>whnf)|(refine cF (by rfl) ?_;conv=>whnf)))
        replace hA := hA.tr h
        clear h
        refine ⟨_, ⟨rfl, rfl, rfl, rfl, rfl, rfl, rfl, rfl, rfl, trivial⟩, ?_⟩
        rw [hc]
        exact hA
      · ((conv=>whnf);repeat(first|(refine mvT ?_;conv=>whnf)|(refine mvF ?_;conv=>whnf)|(refine cT (by rfl) ?_;conv=>whnf)|(refine cF (by rfl) ?_;conv=>whnf)))
        refine Does.mono (AppendString_does hA.ob (Nat.le_trans hB hA.size) _ (by simp only [List.length_append]; omega)) ?_;rintro r w h;((conv=>whnf);repeat(first|(refine mvT ?_;conv=>whnf)|(refine mvF ?_;conv=>whnf)|(refine cT (by rfl) ?_;conv=>whnf)|(refine cF (by rfl) ?_;conv=>whnf)))
        replace hA := hA.tr h
        clear h
        refine ⟨_, ⟨rfl, rfl, rfl, rfl, rfl, rfl, rfl, rfl, rfl, trivial⟩, ?_⟩
        rw [hc]
        exact hA
    clear hA
    rintro r w hA
    ((conv=>whnf);repeat(first|(refine mvT ?_;conv=>whnf)|(refine mvF ?_;conv=>whnf)|(refine cT (by rfl) ?_;conv=>whnf)|(refine cF (by rfl) ?_;conv=>whnf)))
    generalize hm11 : m10 ++ (txA fx (atT x1 7).s) = m11 at hA
    have hl11 : m11.length = m10.length + (txA fx (atT x1 7).s).length := by rw [← hm11, List.length_append]
    refine ⟨_, ld ((hce1.ext hA.ext (hFx _ hb1 hF1)).cell (j := 8) rfl) (by simp <;> omega), ?_⟩; ((conv=>whnf);repeat(first|(refine mvT ?_;conv=>whnf)|(refine mvF ?_;conv=>whnf)|(refine cT (by rfl) ?_;conv=>whnf)|(refine cF (by rfl) ?_;conv=>whnf)))
    have hsl := fieldOK_bytes (hok1_.1 8 _ rfl)
    (refine mvB ?_;((conv=>whnf);repeat(first|(refine mvT ?_;conv=>whnf)|(refine mvF ?_;conv=>whnf)|(refine cT (by rfl) ?_;conv=>whnf)|(refine cF (by rfl) ?_;conv=>whnf))))
    refine VC.cutE (fun r => [(1, r), (0, .pointer (some ⟨p, 0, none⟩)), (5, .int .i16 v), (6, .bool fx), (8, .slice (some ⟨b1, o1, none⟩) l1.length k1), (54, .slice (some ⟨b1, o1, none⟩) l1.length k1), (55, .int .i64 l1.length), (56, .int .i64 i1), (10, .pointer (some ⟨b1, o1 + i1 * 11, none⟩))]) (fun r w' => Apd w0 B x l (m11 ++ (ocA fx (atT x1 8).s)) r w') ?_ ?_
    · refine cI (by rfl) (fun hc=>?_) (fun hc=>?_)
      · ((conv=>whnf);repeat(first|(refine mvT ?_;conv=>whnf)|(refine mvF ?_;conv=>whnf)|(refine cT (by rfl) ?_;conv=>whnf)|(refine cF (by rfl) ?_;conv=>whnf)))
        refine Does.mono (AppendCompactBytes_R hA.ob (Nat.le_trans hB hA.size) (hc1_8.ext hA.ext hFx) (fun e => (fieldOK_empty (hok1_.1 8 _ rfl) e).1) (fun j _ hf => hA.ne (hFR j hf).2 (hFR j hf).1) hsl (by simp only [List.length_append]; omega)) ?_;rintro r w h;((conv=>whnf);repeat(first|(refine mvT ?_;conv=>whnf)|(refine mvF ?_;conv=>whnf)|(refine cT (by rfl) ?_;conv=>whnf)|(refine cF (by rfl) ?_;conv=>whnf)))
        replace hA := hA.tr h
        clear h
        refine ⟨_, ⟨rfl, rfl, rfl, rfl, rfl, rfl, rfl, rfl, rfl, trivial⟩, ?_⟩
        rw [hc]
        exact hA
      · ((conv=>whnf);repeat(first|(refine mvT ?_;conv=>whnf)|(refine mvF ?_;conv=>whnf)|(refine cT (by rfl) ?_;conv=>whnf)|(refine cF (by rfl) ?_;conv=>whnf)))
        refine Does.mono (AppendBytes_R hA.ob (Nat.le_trans hB hA.size) (hc1_8.ext hA.ext hFx) (fun e => (fieldOK_empty (hok1_.1 8 _ rfl) e).1) (fun j _ hf => hA.ne (hFR j hf).2 (hFR j hf).1) (by simp only [List.length_append]; omega)) ?_;rintro r w h;((conv=>whnf);repeat(first|(refine mvT ?_;conv=>whnf)|(refine mvF ?_;conv=>whnf)|(refine cT (by rfl) ?_;conv=>whnf)|(refine cF (by rfl) ?_;conv=>whnf)))
        replace hA := hA.tr h
        clear h
        refine ⟨_, ⟨rfl, rfl, rfl, rfl, rfl, rfl, rfl, rfl, rfl, trivial⟩, ?_⟩
        rw [hc]
        exact hA
    clear hA
    rintro r w hA
    ((conv=>whnf);repeat(first|(refine mvT ?_;conv=>whnf)|(refine mvF ?_;conv=>whnf)|(refine cT (by rfl) ?_;conv=>whnf)|(refine cF (by rfl) ?_;conv=>whnf)))
    generalize hm12 : m11 ++ (ocA fx (atT x1 8).s) = m12 at hA
    have hl12 : m12.length = m11.length + (ocA fx (atT x1 8).s).length := by rw [← hm12, List.length_append]
    refine ⟨_, ld ((hce1.ext hA.ext (hFx _ hb1 hF1)).cell (j := 9) rfl) (by simp <;> omega), ?_⟩; ((conv=>whnf);repeat(first|(refine mvT ?_;conv=>whnf)|(refine mvF ?_;conv=>whnf)|(refine cT (by rfl) ?_;conv=>whnf)|(refine cF (by rfl) ?_;conv=>whnf)))
    have hml1_9 := lsT_len (hok1_.1 9 _ rfl)
    (refine mvB ?_;((conv=>whnf);repeat(first|(refine mvT ?_;conv=>whnf)|(refine mvF ?_;conv=>whnf)|(refine cT (by rfl) ?_;conv=>whnf)|(refine cF (by rfl) ?_;conv=>whnf))))
    refine VC.cutE (fun r => [(1, r), (0, .pointer (some ⟨p, 0, none⟩)), (5, .int .i16 v), (6, .bool fx), (8, .slice (some ⟨b1, o1, none⟩) l1.length k1), (54, .slice (some ⟨b1, o1, none⟩) l1.length k1), (55, .int .i64 l1.length), (56, .int .i64 i1), (10, .pointer (some ⟨b1, o1 + i1 * 11, none⟩)), (20, .slice a1_9 l1_9.length k1_9)]) (fun r w' => Apd w0 B x l (m12 ++ (arA fx (lsT (atT x1 9)).length)) r w') ?_ ?_
    · refine cI (by rfl) (fun hc=>?_) (fun hc=>?_)
      · ((conv=>whnf);repeat(first|(refine mvT ?_;conv=>whnf)|(refine mvF ?_;conv=>whnf)|(refine cT (by rfl) ?_;conv=>whnf)|(refine cF (by rfl) ?_;conv=>whnf)))
        refine Does.mono (AppendCompactArrayLen_does hA.ob (Nat.le_trans hB hA.size) (by simp only [List.length_append]; omega) l1_9.length (by omega)) ?_;rintro r w h;((conv=>whnf);repeat(first|(refine mvT ?_;conv=>whnf)|(refine mvF ?_;conv=>whnf)|(refine cT (by rfl) ?_;conv=>whnf)|(refine cF (by rfl) ?_;conv=>whnf)))
        rw [hll1_9] at h
        replace hA := hA.tr h
        clear h
        refine ⟨_, ⟨rfl, rfl, rfl, rfl, rfl, rfl, rfl, rfl, rfl, rfl, trivial⟩, ?_⟩
        rw [hc]
        exact hA
      · ((conv=>whnf);repeat(first|(refine mvT ?_;conv=>whnf)|(refine mvF ?_;conv=>whnf)|(refine cT (by rfl) ?_;conv=>whnf)|(refine cF (by rfl) ?_;conv=>whnf)))
        refine Does.mono (AppendArrayLen_does hA.ob (Nat.le_trans hB hA.size) (by simp only [List.length_append]; omega) l1_9.length) ?_;rintro r w h;((conv=>whnf);repeat(first|(refine mvT ?_;conv=>whnf)|(refine mvF ?_;conv=>whnf)|(refine cT (by rfl) ?_;conv=>whnf)|(refine cF (by rfl) ?_;conv=>whnf)))
        rw [hll1_9] at h
        replace hA := hA.tr h
        clear h
        refine ⟨_, ⟨rfl, rfl, rfl, rfl, rfl, rfl, rfl, rfl, rfl, rfl, trivial⟩, ?_⟩
        rw [hc]
        exact hA
    clear hA
    rintro r w hA
    ((conv=>whnf);repeat(first|(refine mvT ?_;conv=>whnf)|(refine mvF ?_;conv=>whnf)|(refine cT (by rfl) ?_;conv=>whnf)|(refine cF (by rfl) ?_;conv=>whnf)))
    generalize hm13 : m12 ++ (arA fx (lsT (atT x1 9)).length) = m13 at hA
    have hl13 : m13.length = m12.length + (arA fx (lsT (atT x1 9)).length).length := by rw [← hm13, List.length_append]
    refine VL.loop (fun s : Nat × Value => [(1, s.2), (0, .pointer (some ⟨p, 0, none⟩)), (5, .int .i16 v), (6, .bool fx), (8, .slice (some ⟨b1, o1, none⟩) l1.length k1), (54, .slice (some ⟨b1, o1, none⟩) l1.length k1), (55, .int .i64 l1.length), (56, .int .i64 i1), (10, .pointer (some ⟨b1, o1 + i1 * 11, none⟩)), (20, .slice a1_9 l1_9.length k1_9), (166, .slice a1_9 l1_9.length k1_9), (167, .int .i64 l1_9.length), (168, .int .i64 s.1)])
      (fun s w' => s.1 ≤ l1_9.length ∧ Apd w0 B x l (m13 ++ ((lsT (atT x1 9)).take s.1).flatMap (bDescribeDelegationTokenResponseTokenDetailRenewer v fx)) s.2 w') (fun s => l1_9.length - s.1) (0, r) ⟨rfl, rfl, rfl, rfl, rfl, rfl, rfl, rfl, rfl, rfl, rfl, rfl, rfl, trivial⟩ ⟨Nat.zero_le _, by rw [List.take_zero, List.flatMap_nil, List.append_nil]; exact hA⟩ ?_
    clear hA
    rintro ⟨i2, r⟩ w ⟨hi2, hA⟩
    dsimp only at hi2 hA
    ((conv=>whnf);repeat(first|(refine mvT ?_;conv=>whnf)|(refine mvF ?_;conv=>whnf)|(refine cT (by rfl) ?_;conv=>whnf)|(refine cF (by rfl) ?_;conv=>whnf)))
    refine cI (by rfl) (fun h9=>?_) (fun h9=>?_)
    · have hil : i2 < l1_9.length := by have := of_decide_eq_true h9; simp only at this; omega
      have hiL2 : i2 < (lsT (atT x1 9)).length := by omega
      obtain ⟨hft, hfl⟩ := flat_take (bDescribeDelegationTokenResponseTokenDetailRenewer v fx) (lsT (atT x1 9)) i2 hiL2
      obtain ⟨b1_9, o1_9, rfl, hF1_9, hb1_9, hce1_9⟩ := hcl1_9 i2 l1_9[i2] (by simp [hil])
      have hre1_9 := hrl1_9 i2 l1_9[i2] ((lsT (atT x1 9))[i2]) (by simp [hil]) (by simp [hiL2])
      have hlo1_9 := lsT_ok (hok1_.1 9 _ rfl) ((lsT (atT x1 9))[i2]) (List.getElem_mem hiL2)
      generalize hm14 : m13 ++ ((lsT (atT x1 9)).take i2).flatMap (bDescribeDelegationTokenResponseTokenDetailRenewer v fx) = m14 at hA
      have hl14 : m14.length = m13.length + (((lsT (atT x1 9)).take i2).flatMap (bDescribeDelegationTokenResponseTokenDetailRenewer v fx)).length := by rw [← hm14, List.length_append]
      obtain ⟨x2, hx2⟩ : ∃ y, y = (lsT (atT x1 9))[i2] := ⟨_, rfl⟩
      rw [← hx2] at hft hfl hre1_9 hlo1_9
      obtain ⟨m2_, hcells, hm2_⟩ := hre1_9
      rw [hcells] at hce1_9
      have hok2_ := hlo1_9.2.2 rfl
      have hgl : (bDescribeDelegationTokenResponseTokenDetailRenewer v fx x2).length = (bDescribeDelegationTokenResponseTokenDetailRenewer v fx x2).length := rfl
      conv at hgl => rhs; unfold bDescribeDelegationTokenResponseTokenDetailRenewer
      simp only [List.length_append, List.length_nil] at hgl
      ((conv=>whnf);repeat(first|(refine mvT ?_;conv=>whnf)|(refine mvF ?_;conv=>whnf)|(refine cT (by rfl) ?_;conv=>whnf)|(refine cF (by rfl) ?_;conv=>whnf)))
      refine ⟨b1_9, o1_9, rfl, ⟨by omega, by omega⟩, ?_⟩
      ((conv=>whnf);repeat(first|(refine mvT ?_;conv=>whnf)|(refine mvF ?_;conv=>whnf)|(refine cT (by rfl) ?_;conv=>whnf)|(refine cF (by rfl) ?_;conv=>whnf)))
      refine ⟨_, ld ((hce1_9.ext hA.ext (hFx _ hb1_9 hF1_9)).cell (j := 0) rfl) (by simp <;> omega), ?_⟩; ((conv=>whnf);repeat(first|(refine mvT ?_;conv=>whnf)|(refine mvF ?_;conv=>whnf)|(refine cT (by rfl) ?_;conv=>whnf)|(refine cF (by rfl) ?_;conv=>whnf)))
      have hsl := fieldOK_text (hok2_.1 0 _ rfl)
      (refine mvB ?_;((conv=>whnf);repeat(first|(refine mvT ?_;conv=>whnf)|(refine mvF ?_;conv=>whnf)|(refine cT (by rfl) ?_;conv=>whnf)|(refine cF (by rfl) ?_;conv=>whnf))))
      refine VC.cutE (fun r => [(1, r), (0, .pointer (some ⟨p, 0, none⟩)), (5, .int .i16 v), (6, .bool fx), (8, .slice (some ⟨b1, o1, none⟩) l1.length k1), (54, .slice (some ⟨b1, o1, none⟩) l1.length k1), (55, .int .i64 l1.length), (56, .int .i64 i1), (10, .pointer (some ⟨b1, o1 + i1 * 11, none⟩)), (20, .slice (some ⟨b1_9, o1_9, none⟩) l1_9.length k1_9), (166, .slice (some ⟨b1_9, o1_9, none⟩) l1_9.length k1_9), (167, .int .i64 l1_9.length), (168, .int .i64 i2), (22, .pointer (some ⟨b1_9, o1_9 + i2 * 3, none⟩))]) (fun r w' => Apd w0 B x l (m14 ++ (txA fx (atT x2 0).s)) r w') ?_ ?_
      · refine cI (by rfl) (fun hc=>?_) (fun hc=>?_)
        · ((conv=>whnf);repeat(first|(refine mvT ?_;conv=>whnf)|(refine mvF ?_;conv=>whnf)|(refine cT (by rfl) ?_;conv=>whnf)|(refine cF (by rfl) ?_;conv=>whnf)))
          refine Does.mono (AppendCompactString_does hA.ob (Nat.le_trans hB hA.size) _ (by omega) (by simp only [List.length_append]; omega)) ?_;rintro r w h;((conv=>whnf);repeat(first|(refine mvT ?_;conv=>whnf)|(refine mvF ?_;conv=>whnf)|(refine cT (by rfl) ?_;conv=>whnf)|(refine cF (by rfl) ?_;conv=>whnf)))
          replace hA := hA.tr h
          clear h
          refine ⟨_, ⟨rfl, rfl, rfl, rfl, rfl, rfl, rfl, rfl, rfl, rfl, rfl, rfl, rfl, rfl, trivial⟩, ?_⟩
          rw [hc]
          exact hA
        · ((conv=>whnf);repeat(first|(refine mvT ?_;conv=>whnf)|(refine mvF ?_;conv=>whnf)|(refine cT (by rfl) ?_;conv=>whnf)|(refine cF (by rfl) ?_;conv=>whnf)))
          refine Does.mono (AppendString_does hA.ob (Nat.le_trans hB hA.size) _ (by simp only [List.length_append]; omega)) ?_;rintro r w h;((conv=>whnf);repeat(first|(refine mvT ?_;conv=>whnf)|(refine mvF ?_;conv=>whnf)|(refine cT (by rfl) ?_;conv=>whnf)|(refine cF (by rfl) ?_;conv=>whnf)))
          replace hA := hA.tr h
          clear h
          refine ⟨_, ⟨rfl, rfl, rfl, rfl, rfl, rfl, rfl, rfl, rfl, rfl, rfl, rfl, rfl, rfl, trivial⟩, ?_⟩
          rw [hc]
          exact hA
      clear hA
      rintro r w hA
      ((conv=>whnf);repeat(first|(refine mvT ?_;conv=>whnf)|(refine mvF ?_;conv=>whnf)|(refine cT (by rfl) ?_;conv=>whnf)|(refine cF (by rfl) ?_;conv=>whnf)))
      generalize hm15 : m14 ++ (txA fx (atT x2 0).s) = m15 at hA
      have hl15 : m15.length = m14.length + (txA fx (atT x2 0).s).length := by rw [← hm15, List.length_append]
      refine ⟨_, ld ((hce1_9.ext hA.ext (hFx _ hb1_9 hF1_9)).cell (j := 1) rfl) (by simp <;> omega), ?_⟩; ((conv=>whnf);repeat(first|(refine mvT ?_;conv=>whnf)|(refine mvF ?_;conv=>whnf)|(refine cT (by rfl) ?_;conv=>whnf)|(refine cF (by rfl) ?_;conv=>whnf)))
      have hsl := fieldOK_text (hok2_.1 1 _ rfl)
      (refine mvB ?_;((conv=>whnf);repeat(first|(refine mvT ?_;conv=>whnf)|(refine mvF ?_;conv=>whnf)|(refine cT (by rfl) ?_;conv=>whnf)|(refine cF (by rfl) ?_;conv=>whnf))))
      refine VC.cutE (fun r => [(1, r), (0, .pointer (some ⟨p, 0, none⟩)), (5, .int .i16 v), (6, .bool fx), (8, .slice (some ⟨b1, o1, none⟩) l1.length k1), (54, .slice (some ⟨b1, o1, none⟩) l1.length k1), (55, .int .i64 l1.length), (56, .int .i64 i1), (10, .pointer (some ⟨b1, o1 + i1 * 11, none⟩)), (20, .slice (some ⟨b1_9, o1_9, none⟩) l1_9.length k1_9), (166, .slice (some ⟨b1_9, o1_9, none⟩) l1_9.length k1_9), (167, .int .i64 l1_9.length), (168, .int .i64 i2), (22, .pointer (some ⟨b1_9, o1_9 + i2 * 3, none⟩))]) (fun r w' => Apd w0 B x l (m15 ++ (txA fx (atT x2 1).s)) r w') ?_ ?_
      · refine cI (by rfl) (fun hc=>?_) (fun hc=>?_)
        · ((conv=>whnf);repeat(first|(refine mvT ?_;conv=>whnf)|(refine mvF ?_;conv=>whnf)|(refine cT (by rfl) ?_;conv=>whnf)|(refine cF (by rfl) ?_;conv=>whnf)))
          refine Does.mono (AppendCompactString_does hA.ob (Nat.le_trans hB hA.size) _ (by omega) (by simp only [List.length_append]; omega)) ?_;rintro r w h;((conv=>whnf);repeat(first|(refine mvT ?_;conv=>whnf)|(refine mvF ?_;conv=>whnf)|(refine cT (by rfl) ?_;conv=>whnf)|(refine cF (by rfl) ?_;conv=>whnf)))
          replace hA := hA.tr h
          clear h
          refine ⟨_, ⟨rfl, rfl, rfl, rfl, rfl, rfl, rfl, rfl, rfl, rfl, rfl, rfl, rfl, rfl, trivial⟩, ?_⟩
          rw [hc]
          exact hA
        · ((conv=>whnf);repeat(first|(refine mvT ?_;conv=>whnf)|(refine mvF ?_;conv=>whnf)|(refine cT (by rfl) ?_;conv=>whnf)|(refine cF (by rfl) ?_;conv=>whnf)))
          refine Does.mono (AppendString_does hA.ob (Nat.le_trans hB hA.size) _ (by simp only [List.length_append]; omega)) ?_;rintro r w h;((conv=>whnf);repeat(first|(refine mvT ?_;conv=>whnf)|(refine mvF ?_;conv=>whnf)|(refine cT (by rfl) ?_;conv=>whnf)|(refine cF (by rfl) ?_;conv=>whnf)))
          replace hA := hA.tr h
          clear h
          refine ⟨_, ⟨rfl, rfl, rfl, rfl, rfl, rfl, rfl, rfl, rfl, rfl, rfl, rfl, rfl, rfl, trivial⟩, ?_⟩
          rw [hc]
          exact hA
      clear hA
      rintro r w hA
      ((conv=>whnf);repeat(first|(refine mvT ?_;conv=>whnf)|(refine mvF ?_;conv=>whnf)|(refine cT (by rfl) ?_;conv=>whnf)|(refine cF (by rfl) ?_;conv=>whnf)))
      generalize hm16 : m15 ++ (txA fx (atT x2 1).s) = m16 at hA
      have hl16 : m16.length = m15.length + (txA fx (atT x2 1).s).length := by rw [← hm16, List.length_append]
      (refine mvB ?_;((conv=>whnf);repeat(first|(refine mvT ?_;conv=>whnf)|(refine mvF ?_;conv=>whnf)|(refine cT (by rfl) ?_;conv=>whnf)|(refine cF (by rfl) ?_;conv=>whnf))))
      refine VC.cutB (fun r => [(1, r), (0, .pointer (some ⟨p, 0, none⟩)), (5, .int .i16 v), (6, .bool fx), (8, .slice (some ⟨b1, o1, none⟩) l1.length k1), (54, .slice (some ⟨b1, o1, none⟩) l1.length k1), (55, .int .i64 l1.length), (56, .int .i64 i1), (10, .pointer (some ⟨b1, o1 + i1 * 11, none⟩)), (20, .slice (some ⟨b1_9, o1_9, none⟩) l1_9.length k1_9), (166, .slice (some ⟨b1_9, o1_9, none⟩) l1_9.length k1_9), (167, .int .i64 l1_9.length), (168, .int .i64 i2), (22, .pointer (some ⟨b1_9, o1_9 + i2 * 3, none⟩))]) (fun r w' => Apd w0 B x l (m16 ++ (tgsB fx (x2).u)) r w') ?_ ?_
      · refine cI (by rfl) (fun hc=>?_) (fun hc=>?_)
        · ((conv=>whnf);repeat(first|(refine mvT ?_;conv=>whnf)|(refine mvF ?_;conv=>whnf)|(refine cT (by rfl) ?_;conv=>whnf)|(refine cF (by rfl) ?_;conv=>whnf)))
          have hul := hok2_.2.len
          refine Does.mono (Tags_Len_does (ld ((hce1_9.ext hA.ext (hFx _ hb1_9 hF1_9)).cell (j := 2) rfl) (by simp <;> omega)) (hm2_.ext hA.ext hFx)) ?_;rintro r w ⟨rfl, rfl⟩;((conv=>whnf);repeat(first|(refine mvT ?_;conv=>whnf)|(refine mvF ?_;conv=>whnf)|(refine cT (by rfl) ?_;conv=>whnf)|(refine cF (by rfl) ?_;conv=>whnf)))
          rw [u32_add0 (by omega)]
          refine Does.mono (AppendUvarint_does hA.ob (Nat.le_trans hB hA.size) (x2).u.length (by omega) (by simp only [List.length_append]; omega)) ?_;rintro r w h;((conv=>whnf);repeat(first|(refine mvT ?_;conv=>whnf)|(refine mvF ?_;conv=>whnf)|(refine cT (by rfl) ?_;conv=>whnf)|(refine cF (by rfl) ?_;conv=>whnf)))
          have hul2 := uvar10 (n := (x2).u.length) (by omega)
          replace hA := hA.tr h
          clear h
          refine Does.mono (AppendEach_does (ld ((hce1_9.ext hA.ext (hFx _ hb1_9 hF1_9)).cell (j := 2) rfl) (by simp <;> omega)) (hm2_.ext hA.ext hFx) hok2_.2 hA.ob (Nat.le_trans hB hA.size) (hA.ne (hFR _ hF1_9).2 (hFR _ hF1_9).1) (fun j _ hf => hA.ne (hFR j hf).2 (hFR j hf).1) (by simp only [List.length_append]; omega)) ?_;rintro r w h;((conv=>whnf);repeat(first|(refine mvT ?_;conv=>whnf)|(refine mvF ?_;conv=>whnf)|(refine cT (by rfl) ?_;conv=>whnf)|(refine cF (by rfl) ?_;conv=>whnf)))
          replace hA := hA.tr h
          clear h
          refine ⟨_, ⟨rfl, rfl, rfl, rfl, rfl, rfl, rfl, rfl, rfl, rfl, rfl, rfl, rfl, rfl, trivial⟩, ?_⟩
          rw [tgsB, if_pos hc, ← List.append_assoc]
          exact hA
        · ((conv=>whnf);repeat(first|(refine mvT ?_;conv=>whnf)|(refine mvF ?_;conv=>whnf)|(refine cT (by rfl) ?_;conv=>whnf)|(refine cF (by rfl) ?_;conv=>whnf)))
          refine ⟨_, ⟨rfl, rfl, rfl, rfl, rfl, rfl, rfl, rfl, rfl, rfl, rfl, rfl, rfl, rfl, trivial⟩, ?_⟩
          rw [tgsB, if_neg (by rw [hc]; decide), List.append_nil]
          exact hA
      clear hA
      rintro r w hA
      ((conv=>whnf);repeat(first|(refine mvT ?_;conv=>whnf)|(refine mvF ?_;conv=>whnf)|(refine cT (by rfl) ?_;conv=>whnf)|(refine cF (by rfl) ?_;conv=>whnf)))
      generalize hm17 : m16 ++ (tgsB fx (x2).u) = m17 at hA
      have hl17 : m17.length = m16.length + (tgsB fx (x2).u).length := by rw [← hm17, List.length_append]
      have hfin : m14 ++ (bDescribeDelegationTokenResponseTokenDetailRenewer v fx) x2 = m17 := by unfold bDescribeDelegationTokenResponseTokenDetailRenewer; simp only [← hm17, ← hm16, ← hm15, List.append_assoc, List.nil_append, List.append_nil]
      refine ⟨(i2 + 1, r), ⟨rfl, rfl, rfl, rfl, rfl, rfl, rfl, rfl, rfl, rfl, rfl, rfl, inc_eq (by rw [maxLen_eq] at hkm1_9; omega), trivial⟩, ⟨by simp only; omega, ?_⟩, by simp only; omega⟩
      rw [hft, ← List.append_assoc, hm14, hfin]
      exact hA
    have hil : i2 = l1_9.length := by have := of_decide_eq_false h9; simp only at this; omega
    ((conv=>whnf);repeat(first|(refine mvT ?_;conv=>whnf)|(refine mvF ?_;conv=>whnf)|(refine cT (by rfl) ?_;conv=>whnf)|(refine cF (by rfl) ?_;conv=>whnf)))
    rw [hil, hll1_9, List.take_length] at hA
    generalize hm14 : m13 ++ ((lsT (atT x1 9)).flatMap (bDescribeDelegationTokenResponseTokenDetailRenewer v fx)) = m14 at hA
    have hl14 : m14.length = m13.length + ((lsT (atT x1 9)).flatMap (bDescribeDelegationTokenResponseTokenDetailRenewer v fx)).length := by rw [← hm14, List.length_append]
    (refine mvB ?_;((conv=>whnf);repeat(first|(refine mvT ?_;conv=>whnf)|(refine mvF ?_;conv=>whnf)|(refine cT (by rfl) ?_;conv=>whnf)|(refine cF (by rfl) ?_;conv=>whnf))))
    refine VC.cutB (fun r => [(1, r), (0, .pointer (some ⟨p, 0, none⟩)), (5, .int .i16 v), (6, .bool fx), (8, .slice (some ⟨b1, o1, none⟩) l1.length k1), (54, .slice (some ⟨b1, o1, none⟩) l1.length k1), (55, .int .i64 l1.length), (56, .int .i64 i1), (10, .pointer (some ⟨b1, o1 + i1 * 11, none⟩))]) (fun r w' => Apd w0 B x l (m14 ++ (tgsB fx (x1).u)) r w') ?_ ?_
    · refine cI (by rfl) (fun hc=>?_) (fun hc=>?_)
      · ((conv=>whnf);repeat(first|(refine mvT ?_;conv=>whnf)|(refine mvF ?_;conv=>whnf)|(refine cT (by rfl) ?_;conv=>whnf)|(refine cF (by rfl) ?_;conv=>whnf)))
        have hul := hok1_.2.len
        refine Does.mono (Tags_Len_does (ld ((hce1.ext hA.ext (hFx _ hb1 hF1)).cell (j := 10) rfl) (by simp <;> omega)) (hm1_.ext hA.ext hFx)) ?_;rintro r w ⟨rfl, rfl⟩;((conv=>whnf);repeat(first|(refine mvT ?_;conv=>whnf)|(refine mvF ?_;conv=>whnf)|(refine cT (by rfl) ?_;conv=>whnf)|(refine cF (by rfl) ?_;conv=>whnf)))
        rw [u32_add0 (by omega)]
        refine Does.mono (AppendUvarint_does hA.ob (Nat.le_trans hB hA.size) (x1).u.length (by omega) (by simp only [List.length_append]; omega)) ?_;rintro r w h;((conv=>whnf);repeat(first|(refine mvT ?_;conv=>whnf)|(refine mvF ?_;conv=>whnf)|(refine cT (by rfl) ?_;conv=>whnf)|(refine cF (by rfl) ?_;conv=>whnf)))
        have hul2 := uvar10 (n := (x1).u.length) (by omega)
        replace hA := hA.tr h
        clear h
        refine Does.mono (AppendEach_does (ld ((hce1.ext hA.ext (hFx _ hb1 hF1)).cell (j := 10) rfl) (by simp <;> omega)) (hm1_.ext hA.ext hFx) hok1_.2 hA.ob (Nat.le_trans hB hA.size) (hA.ne (hFR _ hF1).2 (hFR _ hF1).1) (fun j _ hf => hA.ne (hFR j hf).2 (hFR j hf).1) (by simp only [List.length_append]; omega)) ?_;rintro r w h;((conv=>whnf);repeat(first|(refine mvT ?_;conv=>whnf)|(refine mvF ?_;conv=>whnf)|(refine cT (by rfl) ?_;conv=>whnf)|(refine cF (by rfl) ?_;conv=>whnf)))
        replace hA := hA.tr h
        clear h
        refine ⟨_, ⟨rfl, rfl, rfl, rfl, rfl, rfl, rfl, rfl, rfl, trivial⟩, ?_⟩
        rw [tgsB, if_pos hc, ← List.append_assoc]
        exact hA
      · ((conv=>whnf);repeat(first|(refine mvT ?_;conv=>whnf)|(refine mvF ?_;conv=>whnf)|(refine cT (by rfl) ?_;conv=>whnf)|(refine cF (by rfl) ?_;conv=>whnf)))
        refine ⟨_, ⟨rfl, rfl, rfl, rfl, rfl, rfl, rfl, rfl, rfl, trivial⟩, ?_⟩
        rw [tgsB, if_neg (by rw [hc]; decide), List.append_nil]
        exact hA
    clear hA
    rintro r w hA
    ((conv=>whnf);repeat(first|(refine mvT ?_;conv=>whnf)|(refine mvF ?_;conv=>whnf)|(refine cT (by rfl) ?_;conv=>whnf)|(refine cF (by rfl) ?_;conv=>whnf)))
    generalize hm15 : m14 ++ (tgsB fx (x1).u) = m15 at hA
    have hl15 : m15.length = m14.length + (tgsB fx (x1).u).length := by rw [← hm15, List.length_append]
    have hfin : m3 ++ (bDescribeDelegationTokenResponseTokenDetail v fx) x1 = m15 := by unfold bDescribeDelegationTokenResponseTokenDetail; simp only [← hm15, ← hm14, ← hm13, ← hm12, ← hm11, ← hm10, ← hm9, ← hm8, ← hm7, ← hm6, ← hm5, ← hm4, List.append_assoc, List.nil_append, List.append_nil]
    refine ⟨(i1 + 1, r), ⟨rfl, rfl, rfl, rfl, rfl, rfl, rfl, inc_eq (by rw [maxLen_eq] at hkm1; omega), trivial⟩, ⟨by simp only; omega, ?_⟩, by simp only; omega⟩
    rw [hft, ← List.append_assoc, hm3, hfin]
    exact hA
  have hil : i1 = l1.length := by have := of_decide_eq_false h9; simp only at this; omega
  ((conv=>whnf);repeat(first|(refine mvT ?_;conv=>whnf)|(refine mvF ?_;conv=>whnf)|(refine cT (by rfl) ?_;conv=>whnf)|(refine cF (by rfl) ?_;conv=>whnf)))
  rw [hil, hll1, List.take_length] at hA
  generalize hm3 : m2 ++ ((lsT (atT t 1)).flatMap (bDescribeDelegationTokenResponseTokenDetail v fx)) = m3 at hA
  have hl3 : m3.length = m2.length + ((lsT (atT t 1)).flatMap (bDescribeDelegationTokenResponseTokenDetail v fx)).length := by rw [← hm3, List.length_append]
  refine ldS ((hp.ext hA.ext hxp).cell rfl) ?_;((conv=>whnf);repeat(first|(refine mvT ?_;conv=>whnf)|(refine mvF ?_;conv=>whnf)|(refine cT (by rfl) ?_;conv=>whnf)|(refine cF (by rfl) ?_;conv=>whnf)))
  refine Does.mono (AppendInt32_does hA.ob (Nat.le_trans hB hA.size) (by simp only [List.length_append]; omega) _) ?_;rintro r w h;((conv=>whnf);repeat(first|(refine mvT ?_;conv=>whnf)|(refine mvF ?_;conv=>whnf)|(refine cT (by rfl) ?_;conv=>whnf)|(refine cF (by rfl) ?_;conv=>whnf)))
  rw [fixed4_mod (wrap_i32m _)] at h
  replace hA := hA.tr h
  clear h
  generalize hm4 : m3 ++ (fixed (atT t 2).n 4) = m4 at hA
  have hl4 : m4.length = m3.length + (fixed (atT t 2).n 4).length := by rw [← hm4, List.length_append]
  (refine mvB ?_;((conv=>whnf);repeat(first|(refine mvT ?_;conv=>whnf)|(refine mvF ?_;conv=>whnf)|(refine cT (by rfl) ?_;conv=>whnf)|(refine cF (by rfl) ?_;conv=>whnf))))
  refine VC.cutE (fun r => [(1, r), (0, .pointer (some ⟨p, 0, none⟩)), (5, .int .i16 v), (6, .bool fx)]) (fun r w' => Apd w0 B x l (m4 ++ (tgsB fx (t).u)) r w') ?_ ?_
  · refine cI (by rfl) (fun hc=>?_) (fun hc=>?_)
    · ((conv=>whnf);repeat(first|(refine mvT ?_;conv=>whnf)|(refine mvF ?_;conv=>whnf)|(refine cT (by rfl) ?_;conv=>whnf)|(refine cF (by rfl) ?_;conv=>whnf)))
      have hul := hok.2.len
      refine Does.mono (Tags_Len_does ((hp.ext hA.ext hxp).cell rfl) (hm.ext hA.ext hFx)) ?_;rintro r w ⟨rfl, rfl⟩;((conv=>whnf);repeat(first|(refine mvT ?_;conv=>whnf)|(refine mvF ?_;conv=>whnf)|(refine cT (by rfl) ?_;conv=>whnf)|(refine cF (by rfl) ?_;conv=>whnf)))
      rw [u32_add0 (by omega)]
      refine Does.mono (AppendUvarint_does hA.ob (Nat.le_trans hB hA.size) (t).u.length (by omega) (by simp only [List.length_append]; omega)) ?_;rintro r w h;((conv=>whnf);repeat(first|(refine mvT ?_;conv=>whnf)|(refine mvF ?_;conv=>whnf)|(refine cT (by rfl) ?_;conv=>whnf)|(refine cF (by rfl) ?_;conv=>whnf)))
      have hul2 := uvar10 (n := (t).u.length) (by omega)
      replace hA := hA.tr h
      clear h
      refine Does.mono (AppendEach_does ((hp.ext hA.ext hxp).cell rfl) (hm.ext hA.ext hFx) hok.2 hA.ob (Nat.le_trans hB hA.size) (hA.ne hxp hpl) (fun j _ hf => hA.ne (hFR j hf).2 (hFR j hf).1) (by simp only [List.length_append]; omega)) ?_;rintro r w h;((conv=>whnf);repeat(first|(refine mvT ?_;conv=>whnf)|(refine mvF ?_;conv=>whnf)|(refine cT (by rfl) ?_;conv=>whnf)|(refine cF (by rfl) ?_;conv=>whnf)))
      replace hA := hA.tr h
      clear h
      refine ⟨_, ⟨rfl, rfl, rfl, rfl, trivial⟩, ?_⟩
      rw [tgsB, if_pos hc, ← List.append_assoc]
      exact hA
    · ((conv=>whnf);repeat(first|(refine mvT ?_;conv=>whnf)|(refine mvF ?_;conv=>whnf)|(refine cT (by rfl) ?_;conv=>whnf)|(refine cF (by rfl) ?_;conv=>whnf)))
      refine ⟨_, ⟨rfl, rfl, rfl, rfl, trivial⟩, ?_⟩
      rw [tgsB, if_neg (by rw [hc]; decide), List.append_nil]
      exact hA
  clear hA
  rintro r w hA
  ((conv=>whnf);repeat(first|(refine mvT ?_;conv=>whnf)|(refine mvF ?_;conv=>whnf)|(refine cT (by rfl) ?_;conv=>whnf)|(refine cF (by rfl) ?_;conv=>whnf)))
  generalize hm5 : m4 ++ (tgsB fx (t).u) = m5 at hA
  have hl5 : m5.length = m4.length + (tgsB fx (t).u).length := by rw [← hm5, List.length_append]
  show Apd w0 B x l _ r w
  rw [show bDescribeDelegationTokenResponse v fx t = m5 by unfold bDescribeDelegationTokenResponse; simp only [← hm5, ← hm4, ← hm3, ← hm2, ← hm1, hm0, List.append_assoc, List.nil_append, List.append_nil]]
  exact hA
theorem qDescribeDelegationTokenResponseTokenDetailRenewer {w : World} {F : Nat → Prop} {cs : List Value} {t : T} (h : QPart true 7 dDescribeDelegationTokenResponseTokenDetailRenewer ⟨w, F⟩ cs t) : rDescribeDelegationTokenResponseTokenDetailRenewer w F cs t := by
  obtain ⟨_, _, u_, m, rfl, rfl, hA0, hm⟩ := iP h
  clear h
  obtain ⟨_, _, x0, _, rfl, rfl, h0, hA1⟩ := iA hA0
  obtain ⟨n0, rfl, rfl⟩ := iF8 (by decide) h0
  obtain ⟨_, _, x1, _, rfl, rfl, h1, hA2⟩ := iA hA1
  obtain ⟨n1, rfl, rfl⟩ := iF8 (by decide) h1
  obtain ⟨rfl, rfl⟩ := hA2
  exact ⟨m, rfl, hm⟩
theorem qDescribeDelegationTokenResponseTokenDetail {w : World} {F : Nat → Prop} {cs : List Value} {t : T} (h : QPart true 8 dDescribeDelegationTokenResponseTokenDetail ⟨w, F⟩ cs t) : rDescribeDelegationTokenResponseTokenDetail w F cs t := by
  obtain ⟨_, _, u_, m, rfl, rfl, hA0, hm⟩ := iP h
  clear h
  obtain ⟨_, _, x0, _, rfl, rfl, h0, hA1⟩ := iA hA0
  obtain ⟨n0, rfl, rfl⟩ := iF8 (by decide) h0
  obtain ⟨_, _, x1, _, rfl, rfl, h1, hA2⟩ := iA hA1
  obtain ⟨n1, rfl, rfl⟩ := iF8 (by decide) h1
  obtain ⟨_, _, x2, _, rfl, rfl, h2, hA3⟩ := iA hA2
  obtain ⟨n2, rfl, rfl⟩ := iF8 (by decide) h2
  obtain ⟨_, _, x3, _, rfl, rfl, h3, hA4⟩ := iA hA3
  obtain ⟨n3, rfl, rfl⟩ := iF8 (by decide) h3
  obtain ⟨_, _, x4, _, rfl, rfl, h4, hA5⟩ := iA hA4
  obtain ⟨n4, rfl, rfl⟩ := iF4 h4
  obtain ⟨_, _, x5, _, rfl, rfl, h5, hA6⟩ := iA hA5
  obtain ⟨n5, rfl, rfl⟩ := iF4 h5
  obtain ⟨_, _, x6, _, rfl, rfl, h6, hA7⟩ := iA hA6
  obtain ⟨n6, rfl, rfl⟩ := iF4 h6
  obtain ⟨_, _, x7, _, rfl, rfl, h7, hA8⟩ := iA hA7
  obtain ⟨n7, rfl, rfl⟩ := iF8 (by decide) h7
  obtain ⟨_, _, x8, _, rfl, rfl, h8, hA9⟩ := iA hA8
  obtain ⟨c8, rfl, hh8⟩ := iF9 h8
  obtain ⟨_, _, x9, _, rfl, rfl, h9, hA10⟩ := iA hA9
  obtain ⟨c9, rfl, hh9⟩ := iF11 (tg := true) (d := 7) (wf := ⟨w, F⟩) (of := 10) (sub := dDescribeDelegationTokenResponseTokenDetailRenewer) (sz := 3) (R := (rDescribeDelegationTokenResponseTokenDetailRenewer w F)) rfl (fun c y hc => qDescribeDelegationTokenResponseTokenDetailRenewer hc) h9
  obtain ⟨rfl, rfl⟩ := hA10
  exact ⟨c8, c9, m, rfl, hh8, hh9, hm⟩
theorem qDescribeDelegationTokenResponse {w : World} {F : Nat → Prop} {cs : List Value} {t : T} (h : QPart true 9 dDescribeDelegationTokenResponse ⟨w, F⟩ cs t) : ∃ c1 m, cs = [.int .i16 (IntKind.i16.wrap (atT t 0).n), c1, .int .i32 (IntKind.i32.wrap (atT t 2).n), m] ∧ ListR true 11 (rDescribeDelegationTokenResponseTokenDetail w F) w F c1 (atT t 1) ∧ TagsR w F m t.u := by
  obtain ⟨_, _, u_, m, rfl, rfl, hA0, hm⟩ := iP h
  clear h
  obtain ⟨_, _, x0, _, rfl, rfl, h0, hA1⟩ := iA hA0
  obtain ⟨n0, rfl, rfl⟩ := iF2 h0
  obtain ⟨_, _, x1, _, rfl, rfl, h1, hA2⟩ := iA hA1
  obtain ⟨c1, rfl, hh1⟩ := iF11 (tg := true) (d := 8) (wf := ⟨w, F⟩) (of := 10) (sub := dDescribeDelegationTokenResponseTokenDetail) (sz := 11) (R := (rDescribeDelegationTokenResponseTokenDetail w F)) rfl (fun c y hc => qDescribeDelegationTokenResponseTokenDetail hc) h1
  obtain ⟨_, _, x2, _, rfl, rfl, h2, hA3⟩ := iA hA2
  obtain ⟨n2, rfl, rfl⟩ := iF3 h2
  obtain ⟨rfl, rfl⟩ := hA3
  exact ⟨c1, m, rfl, hh1, hm⟩
theorem newDescribeDelegationTokenResponse (w : World) : Does X.P 75 #[] w fun r w' => ∃ p, r = .pointer (some ⟨p, 0, none⟩) ∧ w.heap.size ≤ p ∧ Own w' p 166 [.int .i16 0, .int .i16 0, .slice none 0 0, .int .i32 0, .map none] ∧ Ext nob w w' := by
  refine Does.go (X := X) (l := []) Tryz.func75 rfl (by kernel_rfl) (by kernel_rfl) _ rfl ?_
  ((conv=>whnf);repeat(first|(refine mvT ?_;conv=>whnf)|(refine mvF ?_;conv=>whnf)|(refine cT (by rfl) ?_;conv=>whnf)|(refine cF (by rfl) ?_;conv=>whnf)))
  intro p w1 hp ho hx
  ((conv=>whnf);repeat(first|(refine mvT ?_;conv=>whnf)|(refine mvF ?_;conv=>whnf)|(refine cT (by rfl) ?_;conv=>whnf)|(refine cF (by rfl) ?_;conv=>whnf)))
  refine Does.mono (dfDescribeDelegationTokenResponse (pre := []) (cur := [.int .i16 0, .int .i16 0, .slice none 0 0, .int .i32 0, .map none]) (post := []) (by simpa using ho) rfl rfl) ?_;rintro r2 w2 ⟨hd, hx2⟩;((conv=>whnf);repeat(first|(refine mvT ?_;conv=>whnf)|(refine mvF ?_;conv=>whnf)|(refine cT (by rfl) ?_;conv=>whnf)|(refine cF (by rfl) ?_;conv=>whnf)))
  exact ⟨p, rfl, hp, by simpa using hd, hx.st hx2 hp⟩
theorem maxDescribeDelegationTokenResponse (w : World) : Does X.P 32 #[] w fun r w' => r = .int .i64 3 ∧ Ext nob w w' := by
  have hmax : ∀ (p : Nat) (w : World), Does X.P 76 #[.pointer (some ⟨p, 0, none⟩)] w fun r w' => r = .int .i16 3 ∧ w' = w := by
    intro p w
    refine Does.go (X := X) (l := [_]) Tryz.func76 rfl (by kernel_rfl) (by kernel_rfl) _ rfl ?_
    ((conv=>whnf);repeat(first|(refine mvT ?_;conv=>whnf)|(refine mvF ?_;conv=>whnf)|(refine cT (by rfl) ?_;conv=>whnf)|(refine cF (by rfl) ?_;conv=>whnf)))
    exact ⟨rfl, rfl⟩
  refine Does.go (X := X) (l := []) Tryz.func32 rfl (by kernel_rfl) (by kernel_rfl) _ rfl ?_
  ((conv=>whnf);repeat(first|(refine mvT ?_;conv=>whnf)|(refine mvF ?_;conv=>whnf)|(refine cT (by rfl) ?_;conv=>whnf)|(refine cF (by rfl) ?_;conv=>whnf)))
  refine Does.mono (newDescribeDelegationTokenResponse w) ?_;rintro r1 w1 ⟨p, rfl, _, _, hx⟩;((conv=>whnf);repeat(first|(refine mvT ?_;conv=>whnf)|(refine mvF ?_;conv=>whnf)|(refine cT (by rfl) ?_;conv=>whnf)|(refine cF (by rfl) ?_;conv=>whnf)))
  refine Does.mono (hmax p w1) ?_;rintro r2 w2 ⟨rfl, rfl⟩;((conv=>whnf);repeat(first|(refine mvT ?_;conv=>whnf)|(refine mvF ?_;conv=>whnf)|(refine cT (by rfl) ?_;conv=>whnf)|(refine cF (by rfl) ?_;conv=>whnf)))
  exact ⟨rfl, hx⟩
theorem backDescribeDelegationTokenResponse {G F : Nat → Prop} {w : World} {v : Int} {y x ev : Value} {l s : List UInt8} {t : T} (hL : Laid w ev) (hy : Bytes w F y l) (hx : Bytes w G x s) (hv : 0 ≤ v) (hv2 : v < 32768)
    (hrd : rdPart 9 v (decide (v ≥ 2)) dDescribeDelegationTokenResponse (s, false) = (t, ([], false))) (hok : partOK 9 v dDescribeDelegationTokenResponse t) (hs : s.length ≤ 70000000000000) (hl : l.length + (bDescribeDelegationTokenResponse v (decide (v ≥ 2)) t).length ≤ 70000000000000) :
    Does X.P 34 #[.int .i64 v, y, x] w fun r w' => ∃ o, r = .tuple #[o, .bool true] ∧ OB w' w.heap.size o (l ++ bDescribeDelegationTokenResponse v (decide (v ≥ 2)) t) ∧ Ext nob w w' := by
  have hv16 : IntKind.i16.wrap v = v := by
    simp only [IntKind.wrap, IntKind.bits, IntKind.signed]
    simp
    omega
  obtain ⟨ay, cy, rfl, _⟩ := hy.view
  obtain ⟨ax, cx, rfl, _⟩ := hx.view
  have hy : Bytes w (fun k => F k ∧ k < w.heap.size) (.slice ay l.length cy) l := Sl.mono hy fun k h1 h2 => ⟨h2, h1⟩
  have hL1 := hL.lt
  refine Does.go (X := X) (l := [_, _, _]) Tryz.func34 rfl (by kernel_rfl) (by kernel_rfl) _ rfl ?_
  ((conv=>whnf);repeat(first|(refine mvT ?_;conv=>whnf)|(refine mvF ?_;conv=>whnf)|(refine cT (by rfl) ?_;conv=>whnf)|(refine cF (by rfl) ?_;conv=>whnf)))
  refine Does.mono (newDescribeDelegationTokenResponse w) ?_;rintro r1 w1 ⟨p, rfl, hwp, hop, hx1⟩;((conv=>whnf);repeat(first|(refine mvT ?_;conv=>whnf)|(refine mvF ?_;conv=>whnf)|(refine cT (by rfl) ?_;conv=>whnf)|(refine cF (by rfl) ?_;conv=>whnf)))
  have hset : Does X.P 78 #[.pointer (some ⟨p, 0, none⟩), .int .i16 (IntKind.i16.wrap v)] w1 fun r w' => Own w' p 166 [.int .i16 v, .int .i16 0, .slice none 0 0, .int .i32 0, .map none] ∧ Ext (fun k => k = p) w1 w' := by
    rw [hv16]
    refine Does.go (X := X) (l := [_, _]) Tryz.func78 rfl (by kernel_rfl) (by kernel_rfl) _ rfl ?_
    ((conv=>whnf);repeat(first|(refine mvT ?_;conv=>whnf)|(refine mvF ?_;conv=>whnf)|(refine cT (by rfl) ?_;conv=>whnf)|(refine cF (by rfl) ?_;conv=>whnf)))
    refine ⟨_, _, hop, rfl, rfl, rfl, ?_⟩
    intro w3 ho3 hx3
    ((conv=>whnf);repeat(first|(refine mvT ?_;conv=>whnf)|(refine mvF ?_;conv=>whnf)|(refine cT (by rfl) ?_;conv=>whnf)|(refine cF (by rfl) ?_;conv=>whnf)))
    exact ⟨ho3, hx3⟩
  refine Does.mono (hset) ?_;rintro r2 w2 ⟨hop2, hx2⟩;((conv=>whnf);repeat(first|(refine mvT ?_;conv=>whnf)|(refine mvF ?_;conv=>whnf)|(refine cT (by rfl) ?_;conv=>whnf)|(refine cF (by rfl) ?_;conv=>whnf)))
  have hx02 := hx1.st hx2 hwp
  refine app_bytes rfl rfl (OB.nil w2 w2.heap.size) (hx.e0 hx02).src rfl (by simp only [List.length_nil]; omega) (Nat.le_refl _) ?_
  intro x3 w3 h3 hx3 _ _
  ((conv=>whnf);repeat(first|(refine mvT ?_;conv=>whnf)|(refine mvF ?_;conv=>whnf)|(refine cT (by rfl) ?_;conv=>whnf)|(refine cF (by rfl) ?_;conv=>whnf)))
  rw [List.nil_append] at h3
  have hx3 : Ext nob w2 w3 := hx3.mono fun k _ h => by simp [Value.ownBlock] at h
  have hx03 := hx02.e0 hx3
  have hpl := hop2.lt
  have hread : Does X.P 79 #[.pointer (some ⟨p, 0, none⟩), x3] w3 fun r w' => RdPost w3 p 166 v (decide (v ≥ 2)) true dDescribeDelegationTokenResponse ev s r w' := by
    obtain ⟨a3, c3, rfl, _⟩ := h3.shape
    refine Does.go (X := X) (l := [_, _]) Tryz.func79 rfl (by kernel_rfl) (by kernel_rfl) _ rfl ?_
    ((conv=>whnf);repeat(first|(refine mvT ?_;conv=>whnf)|(refine mvF ?_;conv=>whnf)|(refine cT (by rfl) ?_;conv=>whnf)|(refine cF (by rfl) ?_;conv=>whnf)))
    refine Does.mono (readDescribeDelegationTokenResponse (hL.ext hx03 fun f => f) (hop2.e0 hx3) (h3.bytes (F := fun k => k ≠ p) fun k hk => by omega) (fun k h => h) hv (by omega)) ?_;rintro r w' h;((conv=>whnf);repeat(first|(refine mvT ?_;conv=>whnf)|(refine mvF ?_;conv=>whnf)|(refine cT (by rfl) ?_;conv=>whnf)|(refine cF (by rfl) ?_;conv=>whnf)))
    exact h
  refine Does.mono hread ?_
  rintro r4 w4 ⟨hr4, hx4, hpost⟩
  rw [hrd] at hr4 hpost
  obtain rfl : r4 = .nilIface := hr4.trans (if_neg Bool.false_ne_true)
  obtain ⟨cs, hop4, hq⟩ := hpost rfl
  obtain ⟨c1, m, rfl, hc1, hm⟩ := qDescribeDelegationTokenResponse hq
  ((conv=>whnf);repeat(first|(refine mvT ?_;conv=>whnf)|(refine mvF ?_;conv=>whnf)|(refine cT (by rfl) ?_;conv=>whnf)|(refine cF (by rfl) ?_;conv=>whnf)))
  have hx04 := hx03.st hx4 hwp
  refine app_bytes rfl rfl (OB.nil w4 w4.heap.size) (hy.e0 hx04).src rfl (by simp only [List.length_nil]; omega) (Nat.le_refl _) ?_
  intro y5 w5 h5 hx5 _ _
  ((conv=>whnf);repeat(first|(refine mvT ?_;conv=>whnf)|(refine mvF ?_;conv=>whnf)|(refine cT (by rfl) ?_;conv=>whnf)|(refine cF (by rfl) ?_;conv=>whnf)))
  rw [List.nil_append] at h5
  have hx5 : Ext nob w4 w5 := hx5.mono fun k _ h => by simp [Value.ownBlock] at h
  obtain ⟨F4, hF4⟩ : ∃ F4 : Nat → Prop, F4 = fun k => k ≠ p ∧ k < w4.heap.size := ⟨_, rfl⟩
  have hpl4 := hop4.lt
  refine Does.mono (appDescribeDelegationTokenResponse (F := fun k => k ≠ p ∧ k < w4.heap.size) (hop4.e0 hx5) (by have := (hc1.mono (F' := F4) (fun k h1 h2 => by rw [hF4]; exact ⟨h2, h1⟩) (fun _ _ h => rDescribeDelegationTokenResponseTokenDetail_mono (F' := F4) h fun k h1 h2 => by rw [hF4]; exact ⟨h2, h1⟩)).ext hx5 (fun _ _ _ f => f) (fun _ _ h => rDescribeDelegationTokenResponseTokenDetail_ext h hx5 fun _ _ _ f => f); rw [hF4] at this; exact this) (by have := (hm.mono (F' := F4) fun k h1 h2 => by rw [hF4]; exact ⟨h2, h1⟩).ext hx5 fun _ _ _ f => f; rw [hF4] at this; exact this) hok (fun j _ hj e => by have := h5.blk j e; have := hj.2; omega) (fun e => by have := h5.blk p e; omega) h5 hx5.size hv hl) ?_
  rintro r6 w6 h6
  ((conv=>whnf);repeat(first|(refine mvT ?_;conv=>whnf)|(refine mvF ?_;conv=>whnf)|(refine cT (by rfl) ?_;conv=>whnf)|(refine cF (by rfl) ?_;conv=>whnf)))
  exact ⟨r6, rfl, h6.ob.mono hx04.size, (hx04.e0 hx5).own h6.ext (B := w4.heap.size) h5.blk hx04.size⟩
theorem walkDescribeDelegationTokenResponse {w : World} {n : Nat} (hn : n < 256) {y x ev : Value} {l : List UInt8} {t : T} (hL : Laid w ev) (hy : Bytes w anyB y l) (ht : Tr w anyB x t) (hsz : wtT t ≤ 1048576) : Does X.P 9 #[.int .u8 n, y, x] w fun r w' => r = .bool true ∧ Ext nob w w' := by
  have hkeys := ht.keys
  obtain ⟨ay, cy, rfl, _⟩ := hy.view
  obtain ⟨sv, lv, uv, ls, rfl, _⟩ := ht.open
  refine Does.go (X := X) (l := [_, _, _]) Tryz.func9 rfl (by kernel_rfl) (by kernel_rfl) _ rfl ?_
  ((conv=>whnf);repeat(first|(refine mvT ?_;conv=>whnf)|(refine mvF ?_;conv=>whnf)|(refine cT (by rfl) ?_;conv=>whnf)|(refine cF (by rfl) ?_;conv=>whnf)))
  intro b w1 hb ho hx
  ((conv=>whnf);repeat(first|(refine mvT ?_;conv=>whnf)|(refine mvF ?_;conv=>whnf)|(refine cT (by rfl) ?_;conv=>whnf)|(refine cF (by rfl) ?_;conv=>whnf)))
  intro cq hcq
  cases cq with
  | true =>
    ((conv=>whnf);repeat(first|(refine mvT ?_;conv=>whnf)|(refine mvF ?_;conv=>whnf)|(refine cT (by rfl) ?_;conv=>whnf)|(refine cF (by rfl) ?_;conv=>whnf)))
    exact ⟨rfl, hx⟩
  | false =>
  ((conv=>whnf);repeat(first|(refine mvT ?_;conv=>whnf)|(refine mvF ?_;conv=>whnf)|(refine cT (by rfl) ?_;conv=>whnf)|(refine cF (by rfl) ?_;conv=>whnf)))
  ((conv=>whnf);repeat(first|(refine mvT ?_;conv=>whnf)|(refine mvF ?_;conv=>whnf)|(refine cT (by rfl) ?_;conv=>whnf)|(refine cF (by rfl) ?_;conv=>whnf)))
  refine ⟨_, rfl, ho.cells, ?_⟩
  ((conv=>whnf);repeat(first|(refine mvT ?_;conv=>whnf)|(refine mvF ?_;conv=>whnf)|(refine cT (by rfl) ?_;conv=>whnf)|(refine cF (by rfl) ?_;conv=>whnf)))
  refine Does.mono (zzFits1_does (ht.e0 hx)) ?_;rintro r2 w2 ⟨⟨b2, rfl⟩, hx2⟩;((conv=>whnf);repeat(first|(refine mvT ?_;conv=>whnf)|(refine mvF ?_;conv=>whnf)|(refine cT (by rfl) ?_;conv=>whnf)|(refine cF (by rfl) ?_;conv=>whnf)))
  have hx02 := hx.e0 hx2
  refine cI (by rfl) (fun h1=>?_) (fun h1=>?_)
  · ((conv=>whnf);repeat(first|(refine mvT ?_;conv=>whnf)|(refine mvF ?_;conv=>whnf)|(refine cT (by rfl) ?_;conv=>whnf)|(refine cF (by rfl) ?_;conv=>whnf)))
    exact ⟨rfl, hx02⟩
  · ((conv=>whnf);repeat(first|(refine mvT ?_;conv=>whnf)|(refine mvF ?_;conv=>whnf)|(refine cT (by rfl) ?_;conv=>whnf)|(refine cF (by rfl) ?_;conv=>whnf)))
    refine Does.mono (maxDescribeDelegationTokenResponse w2) ?_;rintro r3 w3 ⟨rfl, hx3⟩;((conv=>whnf);repeat(first|(refine mvT ?_;conv=>whnf)|(refine mvF ?_;conv=>whnf)|(refine cT (by rfl) ?_;conv=>whnf)|(refine cF (by rfl) ?_;conv=>whnf)))
    refine Does.mono (sDescribeDelegationTokenResponse w3) ?_;rintro r4 w4 ⟨⟨fv, rfl, hfd⟩, hx4⟩;((conv=>whnf);repeat(first|(refine mvT ?_;conv=>whnf)|(refine mvF ?_;conv=>whnf)|(refine cT (by rfl) ?_;conv=>whnf)|(refine cF (by rfl) ?_;conv=>whnf)))
    have hone := hfd
    obtain ⟨ls3, hsl3, _⟩ := hone
    obtain ⟨a3, c3, rfl, _⟩ := hsl3.view
    refine Does.mono (version_does n 3 hn (by omega) w4) ?_;rintro r5 w5 ⟨rfl, rfl⟩;((conv=>whnf);repeat(first|(refine mvT ?_;conv=>whnf)|(refine mvF ?_;conv=>whnf)|(refine cT (by rfl) ?_;conv=>whnf)|(refine cF (by rfl) ?_;conv=>whnf)))
    intro b6 w6 hb6 ho6 hx6
    ((conv=>whnf);repeat(first|(refine mvT ?_;conv=>whnf)|(refine mvF ?_;conv=>whnf)|(refine cT (by rfl) ?_;conv=>whnf)|(refine cF (by rfl) ?_;conv=>whnf)))
    refine ⟨_, _, ho6, rfl, rfl, rfl, ?_⟩
    intro w7 ho7 hx7
    have hx57 : Ext nob w5 w7 := hx6.st hx7 hb6
    ((conv=>whnf);repeat(first|(refine mvT ?_;conv=>whnf)|(refine mvF ?_;conv=>whnf)|(refine cT (by rfl) ?_;conv=>whnf)|(refine cF (by rfl) ?_;conv=>whnf)))
    have hx07 : Ext nob w w7 := ((hx02.e0 hx3).e0 hx4).e0 hx57
    have ho1 := (((ho.e0 hx2).e0 hx3).e0 hx4).e0 hx57
    generalize hvv : ((n % (3 + 1) : Nat) : Int) = v
    have hv0 : 0 ≤ v := by omega
    have hv1 : v < 32768 := by omega
    have hok : ∀ f, f ∈ dDescribeDelegationTokenResponse → okF 9 f = true := List.all_eq_true.1 (show (dDescribeDelegationTokenResponse).all (okF 9) = true by decide)
    have hnt : ∀ f, f ∈ dDescribeDelegationTokenResponse → ntF 9 f = true := List.all_eq_true.1 (show (dDescribeDelegationTokenResponse).all (ntF 9) = true by decide)
    have hrr : ∀ f, f ∈ dDescribeDelegationTokenResponse → okR 2 9 f = true := List.all_eq_true.1 (show (dDescribeDelegationTokenResponse).all (okR 2 9) = true by decide)
    have hww : ∀ f, f ∈ dDescribeDelegationTokenResponse → okW 9 f = true := List.all_eq_true.1 (show (dDescribeDelegationTokenResponse).all (okW 9) = true by decide)
    refine cI (by rfl) (fun hd=>?_) (fun hd=>?_)
    · ((conv=>whnf);repeat(first|(refine mvT ?_;conv=>whnf)|(refine mvF ?_;conv=>whnf)|(refine cT (by rfl) ?_;conv=>whnf)|(refine cF (by rfl) ?_;conv=>whnf)))
      exact ⟨rfl, hx07⟩
    · have hl1 : l.length ≤ 1000 := by have := of_decide_eq_false hd; omega
      ((conv=>whnf);repeat(first|(refine mvT ?_;conv=>whnf)|(refine mvF ?_;conv=>whnf)|(refine cT (by rfl) ?_;conv=>whnf)|(refine cF (by rfl) ?_;conv=>whnf)))
      refine ⟨_, rfl, ho7.cells, ?_⟩
      ((conv=>whnf);repeat(first|(refine mvT ?_;conv=>whnf)|(refine mvF ?_;conv=>whnf)|(refine cT (by rfl) ?_;conv=>whnf)|(refine cF (by rfl) ?_;conv=>whnf)))
      refine ⟨_, rfl, ho1.cells, ?_⟩
      ((conv=>whnf);repeat(first|(refine mvT ?_;conv=>whnf)|(refine mvF ?_;conv=>whnf)|(refine cT (by rfl) ?_;conv=>whnf)|(refine cF (by rfl) ?_;conv=>whnf)))
      have hfx : decide (v ≥ 2) = flexB 2 v := by simp [flexB]
      have hlen : (partB 9 v (flexB 2 v) dDescribeDelegationTokenResponse t).length ≤ 60000000000000 := Nat.le_trans (partB_wt 9 v _ dDescribeDelegationTokenResponse t hnt hkeys) (Nat.le_trans (Nat.mul_le_mul_left _ hsz) (Nat.le_of_ble_eq_true rfl))
      refine Does.mono (write_does 9 (v := v) ⟨_, rfl, hfd.e0 hx57⟩ (ht.e0 hx07) hok (by decide) (Nat.le_trans hlen (by decide))) ?_
      rintro r8 w8 ⟨hr8, hx8⟩
      obtain ⟨a8, c8, rfl, _⟩ := hr8.shape
      ((conv=>whnf);repeat(first|(refine mvT ?_;conv=>whnf)|(refine mvF ?_;conv=>whnf)|(refine cT (by rfl) ?_;conv=>whnf)|(refine cF (by rfl) ?_;conv=>whnf)))
      have hx08 := hx07.e0 hx8
      have hrd : rdPart 9 v (decide (v ≥ 2)) dDescribeDelegationTokenResponse (partB 9 v (flexB 2 v) dDescribeDelegationTokenResponse t, false) = (toPart 9 v (decide (v ≥ 2)) dDescribeDelegationTokenResponse t, ([], false)) := by
        have := part_read 9 2 v dDescribeDelegationTokenResponse t hnt hrr hkeys hv0 []
        rw [List.append_nil] at this
        rw [hfx]
        exact this
      have hokT := part_okT 9 v (decide (v ≥ 2)) dDescribeDelegationTokenResponse t hnt hww hkeys hv0
      have hlaw : bDescribeDelegationTokenResponse v (decide (v ≥ 2)) (toPart 9 v (decide (v ≥ 2)) dDescribeDelegationTokenResponse t) = partB 9 v (flexB 2 v) dDescribeDelegationTokenResponse t := by
        rw [← bDescribeDelegationTokenResponse_eq hv0 hokT, hfx]
        exact partT_law 9 v _ dDescribeDelegationTokenResponse t hnt hww
      refine Does.mono (backDescribeDelegationTokenResponse (v := v) (hL.ext hx08 fun f => f) (hy.e0 hx08) hr8.bytesAny hv0 hv1 hrd hokT (by omega) (by rw [hlaw]; omega)) ?_
      rintro r9 w9 ⟨o9, rfl, ho9, hx9⟩
      rw [hlaw] at ho9
      obtain ⟨a9, c9, rfl, _⟩ := ho9.shape
      ((conv=>whnf);repeat(first|(refine mvT ?_;conv=>whnf)|(refine mvF ?_;conv=>whnf)|(refine cT (by rfl) ?_;conv=>whnf)|(refine cF (by rfl) ?_;conv=>whnf)))
      have hx09 := hx08.e0 hx9
      intro b10 w10 hb10 ho10 hx10
      ((conv=>whnf);repeat(first|(refine mvT ?_;conv=>whnf)|(refine mvF ?_;conv=>whnf)|(refine cT (by rfl) ?_;conv=>whnf)|(refine cF (by rfl) ?_;conv=>whnf)))
      have hob : OB w10 w9.heap.size (.slice (some ⟨b10, 0, none⟩) 0 0) [] := ⟨OwnSl.of_own (sz := 1) (n := 0) (cap := 0) ho10 (Nat.le_refl _) (by rw [maxLen_eq]; omega) rfl, fun k hk => by simp only [Value.ownBlock, Option.some.injEq] at hk; omega⟩
      refine app_bytes rfl rfl hob (hy.e0 (hx09.e0 hx10)).src rfl (by simp only [List.length_nil]; omega) hx10.size ?_
      intro v11 w11 h11 hx11 _ _
      have hx911 : Ext nob w9 w11 := hx10.trans hx11 fun k hk e => by simp only [Value.ownBlock, Option.some.injEq] at e; omega
      obtain ⟨a11, c11, rfl, _⟩ := h11.shape
      ((conv=>whnf);repeat(first|(refine mvT ?_;conv=>whnf)|(refine mvF ?_;conv=>whnf)|(refine cT (by rfl) ?_;conv=>whnf)|(refine cF (by rfl) ?_;conv=>whnf)))
      rw [List.nil_append] at h11
      refine app_bytes rfl rfl h11 ((hr8.e0 hx9).e0 hx911).bytesAny.src rfl (by omega) hx911.size ?_
      intro v12 w12 h12 hx12 _ _
      have hx912 : Ext nob w9 w12 := hx911.own hx12 (B := w9.heap.size) h11.blk (Nat.le_refl _)
      obtain ⟨a12, c12, rfl, _⟩ := h12.shape
      ((conv=>whnf);repeat(first|(refine mvT ?_;conv=>whnf)|(refine mvF ?_;conv=>whnf)|(refine cT (by rfl) ?_;conv=>whnf)|(refine cF (by rfl) ?_;conv=>whnf)))
      refine Does.mono (Same_does (ho9.e0 hx912).bytesAny h12.bytesAny) ?_
      rintro r13 w13 ⟨rfl, hx13⟩
      ((conv=>whnf);repeat(first|(refine mvT ?_;conv=>whnf)|(refine mvF ?_;conv=>whnf)|(refine cT (by rfl) ?_;conv=>whnf)|(refine cF (by rfl) ?_;conv=>whnf)))
      exact ⟨by simp [oneOr], (hx09.e0 hx912).e0 hx13⟩
end Go.Proofs.YtanohglljnajiaaGreatDoor.K
