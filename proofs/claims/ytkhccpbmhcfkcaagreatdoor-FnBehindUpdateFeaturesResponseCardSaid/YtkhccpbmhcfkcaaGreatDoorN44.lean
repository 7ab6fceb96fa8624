/- UpdateFeaturesResponse is read and written behind octets. -/
import Derived.Test.YtkhccpbmhcfkcaaGreatDoorF1
import Derived.Test.YtkhccpbmhcfkcaaGreatDoorV44
import Derived.Test.YtkhccpbmhcfkcaaGreatDoorGversion
set_option linter.unusedVariables false
set_option linter.unusedSimpArgs false
namespace Go.Proofs.YtkhccpbmhcfkcaaGreatDoor.K
open Go
set_option maxHeartbeats 1600000
set_option maxRecDepth 100000

def rUpdateFeaturesResponseResult (w : World) (F : Nat → Prop) (cs : List Value) (t : T) : Prop := ∃ c2 m, cs = [str (atT t 0).s, .int .i16 (IntKind.i16.wrap (atT t 1).n), c2, m] ∧ NTextR w F c2 (atT t 2) ∧ TagsR w F m t.u
theorem rUpdateFeaturesResponseResult_ext {M F : Nat → Prop} {w w' : World} {cs : List Value} {t : T} (h : rUpdateFeaturesResponseResult w F cs t) (x : Ext M w w') (hF : ∀ k, k < w.heap.size → F k → ¬ M k) : rUpdateFeaturesResponseResult w' F cs t := by
  obtain ⟨c2, m, rfl, h2, hm⟩ := h
  exact ⟨c2, m, rfl, h2.ext x hF, hm.ext x hF⟩
theorem rUpdateFeaturesResponseResult_mono {F F' : Nat → Prop} {w : World} {cs : List Value} {t : T} (h : rUpdateFeaturesResponseResult w F cs t) (hF : ∀ k, k < w.heap.size → F k → F' k) : rUpdateFeaturesResponseResult w F' cs t := by
  obtain ⟨c2, m, rfl, h2, hm⟩ := h
  exact ⟨c2, m, rfl, h2.mono hF, hm.mono hF⟩
theorem rUpdateFeaturesResponseResult_len {F : Nat → Prop} {w : World} {cs : List Value} {t : T} (h : rUpdateFeaturesResponseResult w F cs t) : cs.length = 4 := by
  obtain ⟨c2, m, rfl, h2, hm⟩ := h
  rfl
def bUpdateFeaturesResponseResult (v : Int) (fx : Bool) (t : T) : List UInt8 := ((txA fx (atT t 0).s) ++ ((fixed (atT t 1).n 2) ++ ((ntA fx (atT t 2).nl (atT t 2).s) ++ ([])))) ++ tgsB fx t.u
theorem bUpdateFeaturesResponseResult_eq {v : Int} {fx : Bool} {t : T} (hv : 0 ≤ v) (hok : partOK 8 v dUpdateFeaturesResponseResult t) : partA 8 v fx dUpdateFeaturesResponseResult t = bUpdateFeaturesResponseResult v fx t := by
  unfold partA partAW bUpdateFeaturesResponseResult
  have hf := hok.1 0 _ rfl
  rw [plainW_all hv]
  rw [tx_eq hf]
  have hf := hok.1 1 _ rfl
  rw [plainW_all hv]
  have hf := hok.1 2 _ rfl
  rw [plainW_all hv]
  rw [nt_eq hf (by decide) (.inr hv)]
  rfl
def bUpdateFeaturesResponse (v : Int) (fx : Bool) (t : T) : List UInt8 := ((fixed (atT t 0).n 4) ++ ((fixed (atT t 1).n 2) ++ ((ntA fx (atT t 2).nl (atT t 2).s) ++ (((if (decide (0 ≤ v) && (decide ((1 : Int) < 0) || decide (v ≤ 1))) = true then arA fx (lsT (atT t 3)).length ++ (lsT (atT t 3)).flatMap (bUpdateFeaturesResponseResult v fx) else [])) ++ ([]))))) ++ tgsB fx t.u
theorem bUpdateFeaturesResponse_eq {v : Int} {fx : Bool} {t : T} (hv : 0 ≤ v) (hok : partOK 9 v dUpdateFeaturesResponse t) : partA 9 v fx dUpdateFeaturesResponse t = bUpdateFeaturesResponse v fx t := by
  unfold partA partAW bUpdateFeaturesResponse
  have hf := hok.1 0 _ rfl
  rw [plainW_all hv]
  have hf := hok.1 1 _ rfl
  rw [plainW_all hv]
  have hf := hok.1 2 _ rfl
  rw [plainW_all hv]
  rw [nt_eq hf (by decide) (.inr hv)]
  have hf := hok.1 3 _ rfl
  rw [plainW_ver]
  rw [ar_eq (g := (bUpdateFeaturesResponseResult v fx)) hf fun y hy => bUpdateFeaturesResponseResult_eq hv ((lsT_ok hf y hy).2.2 rfl)]
  rfl
theorem appUpdateFeaturesResponse {F : Nat → Prop} {w0 : World} {p B : Nat} {ty : TypeId} {v : Int} {x c2 c3 m : Value} {l : List UInt8} {t : T} (hp : Own w0 p ty [.int .i16 v, .int .i32 (IntKind.i32.wrap (atT t 0).n), .int .i16 (IntKind.i16.wrap (atT t 1).n), c2, c3, m]) (hc2 : NTextR w0 F c2 (atT t 2)) (hc3 : ListR true 4 (rUpdateFeaturesResponseResult w0 F) w0 F c3 (atT t 3)) (hm : TagsR w0 F m t.u) (hok : partOK 9 v dUpdateFeaturesResponse t)
    (hF : ∀ j, j < w0.heap.size → F j → x.ownBlock ≠ some j) (hxp : x.ownBlock ≠ some p) (hx : OB w0 B x l) (hB : B ≤ w0.heap.size) (hv : 0 ≤ v) (hl : l.length + (bUpdateFeaturesResponse v (decide (v ≥ 0)) t).length ≤ 100000000000000) :
    Does X.P 41 #[.pointer (some ⟨p, 0, none⟩), x] w0 fun r w' => Apd w0 B x l (bUpdateFeaturesResponse v (decide (v ≥ 0)) t) r w' := by
  have hpl := hp.lt
  obtain ⟨fx, hfx⟩ : ∃ fx, fx = decide (v ≥ 0) := ⟨_, rfl⟩
  rw [← hfx] at hl ⊢
  unfold bUpdateFeaturesResponse at hl
  simp only [List.length_append, List.length_nil] at hl
  obtain ⟨F0, hFR, hFx, hcs⟩ : ∃ F0 : Nat → Prop, (∀ j, F0 j → j < w0.heap.size ∧ x.ownBlock ≠ some j) ∧ (∀ j, j < w0.heap.size → F0 j → ¬ x.ownBlock = some j) ∧ (NTextR w0 F0 c2 (atT t 2) ∧ ListR true 4 (rUpdateFeaturesResponseResult w0 F0) w0 F0 c3 (atT t 3) ∧ TagsR w0 F0 m t.u) :=
    ⟨fun j => F j ∧ j < w0.heap.size, fun j h => ⟨h.2, hF j h.2 h.1⟩, fun j _ h => hF j h.2 h.1, hc2.mono (fun k h1 h2 => ⟨h2, h1⟩), hc3.mono (fun k h1 h2 => ⟨h2, h1⟩) (fun _ _ h => rUpdateFeaturesResponseResult_mono h fun k h1 h2 => ⟨h2, h1⟩), hm.mono fun k h1 h2 => ⟨h2, h1⟩⟩
  clear hm hc2 hc3 hF
  obtain ⟨hc2, hc3, hm⟩ := hcs
  obtain ⟨a3, k3, l3, rfl, hkm3, hll3, hnn3, hcl3, hrl3⟩ := hc3.view
  have hA := Apd.start hx
  obtain ⟨m0, hm0⟩ : ∃ m0 : List UInt8, m0 = [] := ⟨_, rfl⟩
  rw [← hm0] at hA
  have hl0 : m0.length = 0 := by rw [hm0]; rfl
  refine Does.go (X := X) (l := [_, _]) Tryz.func41 rfl (by kernel_rfl) (by kernel_rfl) _ rfl ?_
  ((conv=>whnf);repeat(first|(refine mvT ?_;conv=>whnf)|(refine mvF ?_;conv=>whnf)|(refine cT (by rfl) ?_;conv=>whnf)|(refine cF (by rfl) ?_;conv=>whnf)))
  refine ldS (hp.cell rfl) ?_;((conv=>whnf);repeat(first|(refine mvT ?_;conv=>whnf)|(refine mvF ?_;conv=>whnf)|(refine cT (by rfl) ?_;conv=>whnf)|(refine cF (by rfl) ?_;conv=>whnf)))
  rw [← hfx]
  (refine mvB ?_;((conv=>whnf);repeat(first|(refine mvT ?_;conv=>whnf)|(refine mvF ?_;conv=>whnf)|(refine cT (by rfl) ?_;conv=>whnf)|(refine cF (by rfl) ?_;conv=>whnf))))
  refine ldS ((hp.ext hA.ext hxp).cell rfl) ?_;((conv=>whnf);repeat(first|(refine mvT ?_;conv=>whnf)|(refine mvF ?_;conv=>whnf)|(refine cT (by rfl) ?_;conv=>whnf)|(refine cF (by rfl) ?_;conv=>whnf)))
  refine Does.mono (AppendInt32_does hA.ob (Nat.le_trans hB hA.size) (by simp only [List.length_append]; omega) _) ?_;rintro r w h;((conv=>whnf);repeat(first|(refine mvT ?_;conv=>whnf)|(refine mvF ?_;conv=>whnf)|(refine cT (by rfl) ?_;conv=>whnf)|(refine cF (by rfl) ?_;conv=>whnf)))
  rw [fixed4_mod (wrap_i32m _)] at h
  replace hA := hA.tr h
  clear h
  generalize hm1 : m0 ++ (fixed (atT t 0).n 4) = m1 at hA
  have hl1 : m1.length = m0.length + (fixed (atT t 0).n 4).length := by rw [← hm1, List.length_append]
  refine ldS ((hp.ext hA.ext hxp).cell rfl) ?_;((conv=>whnf);repeat(first|(refine mvT ?_;conv=>whnf)|(refine mvF ?_;conv=>whnf)|(refine cT (by rfl) ?_;conv=>whnf)|(refine cF (by rfl) ?_;conv=>whnf)))
  refine Does.mono (AppendInt16_does hA.ob (Nat.le_trans hB hA.size) (by simp only [List.length_append]; omega) _) ?_;rintro r w h;((conv=>whnf);repeat(first|(refine mvT ?_;conv=>whnf)|(refine mvF ?_;conv=>whnf)|(refine cT (by rfl) ?_;conv=>whnf)|(refine cF (by rfl) ?_;conv=>whnf)))
  rw [fixed2_mod (wrap_i16m _)] at h
  replace hA := hA.tr h
  clear h
  generalize hm2 : m1 ++ (fixed (atT t 1).n 2) = m2 at hA
  have hl2 : m2.length = m1.length + (fixed (atT t 1).n 2).length := by rw [← hm2, List.length_append]
  refine ldS ((hp.ext hA.ext hxp).cell rfl) ?_;((conv=>whnf);repeat(first|(refine mvT ?_;conv=>whnf)|(refine mvF ?_;conv=>whnf)|(refine cT (by rfl) ?_;conv=>whnf)|(refine cF (by rfl) ?_;conv=>whnf)))
  have hsl := fieldOK_text (hok.1 2 _ rfl)
  (refine mvB ?_;((conv=>whnf);repeat(first|(refine mvT ?_;conv=>whnf)|(refine mvF ?_;conv=>whnf)|(refine cT (by rfl) ?_;conv=>whnf)|(refine cF (by rfl) ?_;conv=>whnf))))
  refine VC.cutE (fun r => [(1, r), (0, .pointer (some ⟨p, 0, none⟩)), (5, .int .i16 v), (6, .bool fx)]) (fun r w' => Apd w0 B x l (m2 ++ (ntA fx (atT t 2).nl (atT t 2).s)) r w') ?_ ?_
  · refine cI (by rfl) (fun hc=>?_) (fun hc=>?_)
    · ((conv=>whnf);repeat(first|(refine mvT ?_;conv=>whnf)|(refine mvF ?_;conv=>whnf)|(refine cT (by rfl) ?_;conv=>whnf)|(refine cF (by rfl) ?_;conv=>whnf)))
      refine Does.mono (AppendCompactNullableString_R hA.ob (Nat.le_trans hB hA.size) (hc2.ext hA.ext hFx) hsl (by simp only [List.length_append]; omega)) ?_;rintro r w h;((conv=>whnf);repeat(first|(refine mvT ?_;conv=>whnf)|(refine mvF ?_;conv=>whnf)|(refine cT (by rfl) ?_;conv=>whnf)|(refine cF (by rfl) ?_;conv=>whnf)))
      replace hA := hA.tr h
      clear h
      refine ⟨_, ⟨rfl, rfl, rfl, rfl, trivial⟩, ?_⟩
      rw [hc]
      exact hA
    · ((conv=>whnf);repeat(first|(refine mvT ?_;conv=>whnf)|(refine mvF ?_;conv=>whnf)|(refine cT (by rfl) ?_;conv=>whnf)|(refine cF (by rfl) ?_;conv=>whnf)))
      refine Does.mono (AppendNullableString_R hA.ob (Nat.le_trans hB hA.size) (hc2.ext hA.ext hFx) (by simp only [List.length_append]; omega)) ?_;rintro r w h;((conv=>whnf);repeat(first|(refine mvT ?_;conv=>whnf)|(refine mvF ?_;conv=>whnf)|(refine cT (by rfl) ?_;conv=>whnf)|(refine cF (by rfl) ?_;conv=>whnf)))
      replace hA := hA.tr h
      clear h
      refine ⟨_, ⟨rfl, rfl, rfl, rfl, trivial⟩, ?_⟩
      rw [hc]
      exact hA
  clear hA
  rintro r w hA
  ((conv=>whnf);repeat(first|(refine mvT ?_;conv=>whnf)|(refine mvF ?_;conv=>whnf)|(refine cT (by rfl) ?_;conv=>whnf)|(refine cF (by rfl) ?_;conv=>whnf)))
  generalize hm3 : m2 ++ (ntA fx (atT t 2).nl (atT t 2).s) = m3 at hA
  have hl3 : m3.length = m2.length + (ntA fx (atT t 2).nl (atT t 2).s).length := by rw [← hm3, List.length_append]
  intro cq hcq
  obtain rfl : cq = true := by rw [← hcq]; exact decide_eq_true hv
  ((conv=>whnf);repeat(first|(refine mvT ?_;conv=>whnf)|(refine mvF ?_;conv=>whnf)|(refine cT (by rfl) ?_;conv=>whnf)|(refine cF (by rfl) ?_;conv=>whnf)))
  refine VC.cutE (fun r => [(1, r), (0, .pointer (some ⟨p, 0, none⟩)), (5, .int .i16 v), (6, .bool fx)]) (fun r w' => Apd w0 B x l (m3 ++ ((if (decide (0 ≤ v) && (decide ((1 : Int) < 0) || decide (v ≤ 1))) = true then arA fx (lsT (atT t 3)).length ++ (lsT (atT t 3)).flatMap (bUpdateFeaturesResponseResult v fx) else []))) r w') ?_ ?_
  · refine cI (by rfl) (fun hcv=>?_) (fun hcv=>?_)
    · ((conv=>whnf);repeat(first|(refine mvT ?_;conv=>whnf)|(refine mvF ?_;conv=>whnf)|(refine cT (by rfl) ?_;conv=>whnf)|(refine cF (by rfl) ?_;conv=>whnf)))
      refine ldS ((hp.ext hA.ext hxp).cell rfl) ?_;((conv=>whnf);repeat(first|(refine mvT ?_;conv=>whnf)|(refine mvF ?_;conv=>whnf)|(refine cT (by rfl) ?_;conv=>whnf)|(refine cF (by rfl) ?_;conv=>whnf)))
      have hvl3 : ((if (decide (0 ≤ v) && (decide ((1 : Int) < 0) || decide (v ≤ 1))) = true then arA fx (lsT (atT t 3)).length ++ (lsT (atT t 3)).flatMap (bUpdateFeaturesResponseResult v fx) else [])).length = (arA fx (lsT (atT t 3)).length ++ (lsT (atT t 3)).flatMap (bUpdateFeaturesResponseResult v fx)).length := by rw [if_pos (by simp only [ge_iff_le, decide_eq_true_eq] at hcv; simp; omega)]
      simp only [List.length_append] at hvl3
      have hml3 := lsT_len (hok.1 3 _ rfl)
      (refine mvB ?_;((conv=>whnf);repeat(first|(refine mvT ?_;conv=>whnf)|(refine mvF ?_;conv=>whnf)|(refine cT (by rfl) ?_;conv=>whnf)|(refine cF (by rfl) ?_;conv=>whnf))))
      refine VC.cutE (fun r => [(1, r), (0, .pointer (some ⟨p, 0, none⟩)), (5, .int .i16 v), (6, .bool fx), (10, .slice a3 l3.length k3)]) (fun r w' => Apd w0 B x l (m3 ++ (arA fx (lsT (atT t 3)).length)) r w') ?_ ?_
      · refine cI (by rfl) (fun hc=>?_) (fun hc=>?_)
        · ((conv=>whnf);repeat(first|(refine mvT ?_;conv=>whnf)|(refine mvF ?_;conv=>whnf)|(refine cT (by rfl) ?_;conv=>whnf)|(refine cF (by rfl) ?_;conv=>whnf)))
          refine Does.mono (AppendCompactArrayLen_does hA.ob (Nat.le_trans hB hA.size) (by simp only [List.length_append]; omega) l3.length (by omega)) ?_;rintro r w h;((conv=>whnf);repeat(first|(refine mvT ?_;conv=>whnf)|(refine mvF ?_;conv=>whnf)|(refine cT (by rfl) ?_;conv=>whnf)|(refine cF (by rfl) ?_;conv=>whnf)))
          rw [hll3] at h
          replace hA := hA.tr h
          clear h
          refine ⟨_, ⟨rfl, rfl, rfl, rfl, rfl, trivial⟩, ?_⟩
          rw [hc]
          exact hA
        · ((conv=>whnf);repeat(first|(refine mvT ?_;conv=>whnf)|(refine mvF ?_;conv=>whnf)|(refine cT (by rfl) ?_;conv=>whnf)|(refine cF (by rfl) ?_;conv=>whnf)))
          refine Does.mono (AppendArrayLen_does hA.ob (Nat.le_trans hB hA.size) (by simp only [List.length_append]; omega) l3.length) ?_;rintro r w h;((conv=>whnf);repeat(first|(refine mvT ?_;conv=>whnf)|(refine mvF ?_;conv=>whnf)|(refine cT (by rfl) ?_;conv=>whnf)|(refine cF (by rfl) ?_;conv=>whnf)))
          rw [hll3] at h
          replace hA := hA.tr h
          clear h
          refine ⟨_, ⟨rfl, rfl, rfl, rfl, rfl, trivial⟩, ?_⟩
          rw [hc]
          exact hA
      clear hA
      rintro r w hA
      ((conv=>whnf);repeat(first|(refine mvT ?_;conv=>whnf)|(refine mvF ?_;conv=>whnf)|(refine cT (by rfl) ?_;conv=>whnf)|(refine cF (by rfl) ?_;conv=>whnf)))
      generalize hm4 : m3 ++ (arA fx (lsT (atT t 3)).length) = m4 at hA
      have hl4 : m4.length = m3.length + (arA fx (lsT (atT t 3)).length).length := by rw [← hm4, List.length_append]
      refine VL.loop (fun s : Nat × Value => [(1, s.2), (0, .pointer (some ⟨p, 0, none⟩)), (5, .int .i16 v), (6, .bool fx), (10, .slice a3 l3.length k3), (68, .slice a3 l3.length k3), (69, .int .i64 l3.length), (70, .int .i64 s.1)])
        (fun s w' => s.1 ≤ l3.length ∧ Apd w0 B x l (m4 ++ ((lsT (atT t 3)).take s.1).flatMap (bUpdateFeaturesResponseResult v fx)) s.2 w') (fun s => l3.length - s.1) (0, r) ⟨rfl, rfl, rfl, rfl, rfl, rfl, rfl, rfl, trivial⟩ ⟨Nat.zero_le _, by rw [List.take_zero, List.flatMap_nil, List.append_nil]; exact hA⟩ ?_
      clear hA
      rintro ⟨i1, r⟩ w ⟨hi1, hA⟩
      dsimp only at hi1 hA
      ((conv=>whnf);repeat(first|(refine mvT ?_;conv=>whnf)|(refine mvF ?_;conv=>whnf)|(refine cT (by rfl) ?_;conv=>whnf)|(refine cF (by rfl) ?_;conv=>whnf)))
      refine cI (by rfl) (fun h9=>?_) (fun h9=>?_)
      · have hil : i1 < l3.length := by have := of_decide_eq_true h9; simp only at this; omega
        have hiL1 : i1 < (lsT (atT t 3)).length := by omega
        obtain ⟨hft, hfl⟩ := flat_take (bUpdateFeaturesResponseResult v fx) (lsT (atT t 3)) i1 hiL1
        obtain ⟨b3, o3, rfl, hF3, hb3, hce3⟩ := hcl3 i1 l3[i1] (by simp [hil])
        have hre3 := hrl3 i1 l3[i1] ((lsT (atT t 3))[i1]) (by simp [hil]) (by simp [hiL1])
        have hlo3 := lsT_ok (hok.1 3 _ rfl) ((lsT (atT t 3))[i1]) (List.getElem_mem hiL1)
        generalize hm5 : m4 ++ ((lsT (atT t 3)).take i1).flatMap (bUpdateFeaturesResponseResult v fx) = m5 at hA
        have hl5 : m5.length = m4.length + (((lsT (atT t 3)).take i1).flatMap (bUpdateFeaturesResponseResult v fx)).length := by rw [← hm5, List.length_append]
        obtain ⟨x1, hx1⟩ : ∃ y, y = (lsT (atT t 3))[i1] := ⟨_, rfl⟩
        rw [← hx1] at hft hfl hre3 hlo3
        obtain ⟨c1_2, m1_, hcells, hc1_2, hm1_⟩ := hre3
        rw [hcells] at hce3
        have hok1_ := hlo3.2.2 rfl
        have hgl : (bUpdateFeaturesResponseResult v fx x1).length = (bUpdateFeaturesResponseResult v fx x1).length := rfl
        conv at hgl => rhs; unfold bUpdateFeaturesResponseResult
        simp only [List.length_append, List.length_nil] at hgl
        ((conv=>whnf);repeat(first|(refine mvT ?_;conv=>whnf)|(refine mvF ?_;conv=>whnf)|(refine cT (by rfl) ?_;conv=>whnf)|(refine cF (by rfl) ?_;conv=>whnf)))
        refine ⟨b3, o3, rfl, ⟨by omega, by omega⟩, ?_⟩
        ((conv=>whnf);repeat(first|(refine mvT ?_;conv=>whnf)|(refine mvF ?_;conv=>whnf)|(refine cT (by rfl) ?_;conv=>whnf)|(refine cF (by rfl) ?_;conv=>whnf)))
        refine ⟨_, ld ((hce3.ext hA.ext (hFx _ hb3 hF3)).cell (j := 0) rfl) (by simp <;> omega), ?_⟩; ((conv=>whnf);repeat(first|(refine mvT ?_;conv=>whnf)|(refine mvF ?_;conv=>whnf)|(refine cT (by rfl) ?_;conv=>whnf)|(refine cF (by rfl) ?_;conv=>whnf)))
        have hsl := fieldOK_text (hok1_.1 0 _ rfl)
        (refine mvB ?_;((conv=>whnf);repeat(first|(refine mvT ?_;conv=>whnf)|(refine mvF ?_;conv=>whnf)|(refine cT (by rfl) ?_;conv=>whnf)|(refine cF (by rfl) ?_;conv=>whnf))))
        refine VC.cutE (fun r => [(1, r), (0, .pointer (some ⟨p, 0, none⟩)), (5, .int .i16 v), (6, .bool fx), (10, .slice (some ⟨b3, o3, none⟩) l3.length k3), (68, .slice (some ⟨b3, o3, none⟩) l3.length k3), (69, .int .i64 l3.length), (70, .int .i64 i1), (12, .pointer (some ⟨b3, o3 + i1 * 4, none⟩))]) (fun r w' => Apd w0 B x l (m5 ++ (txA fx (atT x1 0).s)) r w') ?_ ?_
        · refine cI (by rfl) (fun hc=>?_) (fun hc=>?_)
          · ((conv=>whnf);repeat(first|(refine mvT ?_;conv=>whnf)|(refine mvF ?_;conv=>whnf)|(refine cT (by rfl) ?_;conv=>whnf)|(refine cF (by rfl) ?_;conv=>whnf)))
            refine Does.mono (AppendCompactString_does hA.ob (Nat.le_trans hB hA.size) _ (by omega) (by simp only [List.length_append]; omega)) ?_;rintro r w h;((conv=>whnf);repeat(first|(refine mvT ?_;conv=>whnf)|(refine mvF ?_;conv=>whnf)|(refine cT (by rfl) ?_;conv=>whnf)|(refine cF (by rfl) ?_;conv=>whnf)))
            replace hA := hA.tr h
            clear h
            refine ⟨_, ⟨rfl, rfl, rfl, rfl, rfl, rfl, rfl, rfl, rfl, trivial⟩, ?_⟩
            rw [hc]
            exact hA
          · ((conv=>whnf);repeat(first|(refine mvT ?_;conv=>whnf)|(refine mvF ?_;conv=>whnf)|(refine cT (by rfl) ?_;conv=>whnf)|(refine cF (by rfl) ?_;conv=>whnf)))
            refine Does.mono (AppendString_does hA.ob (Nat.le_trans hB hA.size) _ (by simp only [List.length_append]; omega)) ?_;rintro r w h;((conv=>whnf);repeat(first|(refine mvT ?_;conv=>whnf)|(refine mvF ?_;conv=>whnf)|(refine cT (by rfl) ?_;conv=>whnf)|(refine cF (by rfl) ?_;conv=>whnf)))
            replace hA := hA.tr h
            clear h
            refine ⟨_, ⟨rfl, rfl, rfl, rfl, rfl, rfl, rfl, rfl, rfl, trivial⟩, ?_⟩
            rw [hc]
            exact hA
        clear hA
        rintro r w hA
        ((conv=>whnf);repeat(first|(refine mvT ?_;conv=>whnf)|(refine mvF ?_;conv=>whnf)|(refine cT (by rfl) ?_;conv=>whnf)|(refine cF (by rfl) ?_;conv=>whnf)))
        generalize hm6 : m5 ++ (txA fx (atT x1 0).s) = m6 at hA
        have hl6 : m6.length = m5.length + (txA fx (atT x1 0).s).length := by rw [← hm6, List.length_append]
        refine ⟨_, ld ((hce3.ext hA.ext (hFx _ hb3 hF3)).cell (j := 1) rfl) (by simp <;> omega), ?_⟩; ((conv=>whnf);repeat(first|(refine mvT ?_;conv=>whnf)|(refine mvF ?_;conv=>whnf)|(refine cT (by rfl) ?_;conv=>whnf)|(refine cF (by rfl) ?_;conv=>whnf)))
        refine Does.mono (AppendInt16_does hA.ob (Nat.le_trans hB hA.size) (by simp only [List.length_append]; omega) _) ?_;rintro r w h;((conv=>whnf);repeat(first|(refine mvT ?_;conv=>whnf)|(refine mvF ?_;conv=>whnf)|(refine cT (by rfl) ?_;conv=>whnf)|(refine cF (by rfl) ?_;conv=>whnf)))
        rw [fixed2_mod (wrap_i16m _)] at h
        replace hA := hA.tr h
        clear h
        generalize hm7 : m6 ++ (fixed (atT x1 1).n 2) = m7 at hA
        have hl7 : m7.length = m6.length + (fixed (atT x1 1).n 2).length := by rw [← hm7, List.length_append]
        refine ⟨_, ld ((hce3.ext hA.ext (hFx _ hb3 hF3)).cell (j := 2) rfl) (by simp <;> omega), ?_⟩; ((conv=>whnf);repeat(first|(refine mvT ?_;conv=>whnf)|(refine mvF ?_;conv=>whnf)|(refine cT (by rfl) ?_;conv=>whnf)|(refine cF (by rfl) ?_;conv=>whnf)))
        have hsl := fieldOK_text (hok1_.1 2 _ rfl)
        (refine mvB ?_;((conv=>whnf);repeat(first|(refine mvT ?_;conv=>whnf)|(refine mvF ?_;conv=>whnf)|(refine cT (by rfl) ?_;conv=>whnf)|(refine cF (by rfl) ?_;conv=>whnf))))
        refine VC.cutE (fun r => [(1, r), (0, .pointer (some ⟨p, 0, none⟩)), (5, .int .i16 v), (6, .bool fx), (10, .slice (some ⟨b3, o3, none⟩) l3.length k3), (68, .slice (some ⟨b3, o3, none⟩) l3.length k3), (69, .int .i64 l3.length), (70, .int .i64 i1), (12, .pointer (some ⟨b3, o3 + i1 * 4, none⟩))]) (fun r w' => Apd w0 B x l (m7 ++ (ntA fx (atT x1 2).nl (atT x1 2).s)) r w') ?_ ?_
        · refine cI (by rfl) (fun hc=>?_) (fun hc=>?_)
          · ((conv=>whnf);repeat(first|(refine mvT ?_;conv=>whnf)|(refine mvF ?_;conv=>whnf)|(refine cT (by rfl) ?_;conv=>whnf)|(refine cF (by rfl) ?_;conv=>whnf)))
            refine Does.mono (AppendCompactNullableString_R hA.ob (Nat.le_trans hB hA.size) (hc1_2.ext hA.ext hFx) hsl (by simp only [List.length_append]; omega)) ?_;rintro r w h;((conv=>whnf);repeat(first|(refine mvT ?_;conv=>whnf)|(refine mvF ?_;conv=>whnf)|(refine cT (by rfl) ?_;conv=>whnf)|(refine cF (by rfl) ?_;conv=>whnf)))
            replace hA := hA.tr h
            clear h
            refine ⟨_, ⟨rfl, rfl, rfl, rfl, rfl, rfl, rfl, rfl, rfl, trivial⟩, ?_⟩
            rw [hc]
            exact hA
          · ((conv=>whnf);repeat(first|(refine mvT ?_;conv=>whnf)|(refine mvF ?_;conv=>whnf)|(refine cT (by rfl) ?_;conv=>whnf)|(refine cF (by rfl) ?_;conv=>whnf)))
            refine Does.mono (AppendNullableString_R hA.ob (Nat.le_trans hB hA.size) (hc1_2.ext hA.ext hFx) (by simp only [List.length_append]; omega)) ?_;rintro r w h;((conv=>whnf);repeat(first|(refine mvT ?_;conv=>whnf)|(refine mvF ?_;conv=>whnf)|(refine cT (by rfl) ?_;conv=>whnf)|(refine cF (by rfl) ?_;conv=>whnf)))
            replace hA := hA.tr h
            clear h
            refine ⟨_, ⟨rfl, rfl, rfl, rfl, rfl, rfl, rfl, rfl, rfl, trivial⟩, ?_⟩
            rw [hc]
            exact hA
        clear hA
        rintro r w hA
        ((conv=>whnf);repeat(first|(refine mvT ?_;conv=>whnf)|(refine mvF ?_;conv=>whnf)|(refine cT (by rfl) ?_;conv=>whnf)|(refine cF (by rfl) ?_;conv=>whnf)))
        generalize hm8 : m7 ++ (ntA fx (atT x1 2).nl (atT x1 2).s) = m8 at hA
        have hl8 : m8.length = m7.length + (ntA fx (atT x1 2).nl (atT x1 2).s).length := by rw [← hm8, List.length_append]
        (refine mvB ?_;((conv=>whnf);repeat(first|(refine mvT ?_;conv=>whnf)|(refine mvF ?_;conv=>whnf)|(refine cT (by rfl) ?_;conv=>whnf)|(refine cF (by rfl) ?_;conv=>whnf))))
        refine VC.cutB (fun r => [(1, r), (0, .pointer (some ⟨p, 0, none⟩)), (5, .int .i16 v), (6, .bool fx), (10, .slice (some ⟨b3, o3, none⟩) l3.length k3), (68, .slice (some ⟨b3, o3, none⟩) l3.length k3), (69, .int .i64 l3.length), (70, .int .i64 i1), (12, .pointer (some ⟨b3, o3 + i1 * 4, none⟩))]) (fun r w' => Apd w0 B x l (m8 ++ (tgsB fx (x1).u)) r w') ?_ ?_
        · refine cI (by rfl) (fun hc=>?_) (fun hc=>?_)
          · ((conv=>whnf);repeat(first|(refine mvT ?_;conv=>whnf)|(refine mvF ?_;conv=>whnf)|(refine cT (by rfl) ?_;conv=>whnf)|(refine cF (by rfl) ?_;conv=>whnf)))
            have hul := hok1_.2.len
            refine Does.mono (Tags_Len_does (ld ((hce3.ext hA.ext (hFx _ hb3 hF3)).cell (j := 3) rfl) (by simp <;> omega)) (hm1_.ext hA.ext hFx)) ?_;rintro r w ⟨rfl, rfl⟩;((conv=>whnf);repeat(first|(refine mvT ?_;conv=>whnf)|(refine mvF ?_;conv=>whnf)|(refine cT (by rfl) ?_;conv=>whnf)|(refine cF (by rfl) ?_;conv=>whnf)))
            rw [u32_add0 (by omega)]
            refine Does.mono (AppendUvarint_does hA.ob (Nat.le_trans hB hA.size) (x1).u.length (by omega) (by simp only [List.length_append]; omega)) ?_;rintro r w h;((conv=>whnf);repeat(first|(refine mvT ?_;conv=>whnf)|(refine mvF ?_;conv=>whnf)|(refine cT (by rfl) ?_;conv=>whnf)|(refine cF (by rfl) ?_;conv=>whnf)))
            have hul2 := uvar10 (n := (x1).u.length) (by omega)
            replace hA := hA.tr h
            clear h
            refine Does.mono (AppendEach_does (ld ((hce3.ext hA.ext (hFx _ hb3 hF3)).cell (j := 3) rfl) (by simp <;> omega)) (hm1_.ext hA.ext hFx) hok1_.2 hA.ob (Nat.le_trans hB hA.size) (hA.ne (hFR _ hF3).2 (hFR _ hF3).1) (fun j _ hf => hA.ne (hFR j hf).2 (hFR j hf).1) (by simp only [List.length_append]; omega)) ?_;rintro r w h;((conv=>whnf);repeat(first|(refine mvT ?_;conv=>whnf)|(refine mvF ?_;conv=>whnf)|(refine cT (by rfl) ?_;conv=>whnf)|(refine cF (by rfl) ?_;conv=>whnf)))
            replace hA := hA.tr h
            clear h
            refine ⟨_, ⟨rfl, rfl, rfl, rfl, rfl, rfl, rfl, rfl, rfl, trivial⟩, ?_⟩
            rw [tgsB, if_pos hc, ← List.append_assoc]
            exact hA
          · ((conv=>whnf);repeat(first|(refine mvT ?_;conv=>whnf)|(refine mvF ?_;conv=>whnf)|(refine cT (by rfl) ?_;conv=>whnf)|(refine cF (by rfl) ?_;conv=>whnf)))
            refine ⟨_, ⟨rfl, rfl, rfl, rfl, rfl, rfl, rfl, rfl, rfl, trivial⟩, ?_⟩
            rw [tgsB, if_neg (by rw [hc]; decide), List.append_nil]
            exact hA
        clear hA
        rintro r w hA
        ((conv=>whnf);repeat(first|(refine mvT ?_;conv=>whnf)|(refine mvF ?_;conv=>whnf)|(refine cT (by rfl) ?_;conv=>whnf)|(refine cF (by rfl) ?_;conv=>whnf)))
        generalize hm9 : m8 ++ (tgsB fx (x1).u) = m9 at hA
        have hl9 : m9.length = m8.length + (tgsB fx (x1).u).length := by rw [← hm9, List.length_append]
        have hfin : m5 ++ (bUpdateFeaturesResponseResult v fx) x1 = m9 := by unfold bUpdateFeaturesResponseResult; simp only [← hm9, ← hm8, ← hm7, ← hm6, List.append_assoc, List.nil_append, List.append_nil]
        refine ⟨(i1 + 1, r), ⟨rfl, rfl, rfl, rfl, rfl, rfl, rfl, inc_eq (by rw [maxLen_eq] at hkm3; omega), trivial⟩, ⟨by simp only; omega, ?_⟩, by simp only; omega⟩
        rw [hft, ← List.append_assoc, hm5, hfin]
        exact hA
      have hil : i1 = l3.length := by have := of_decide_eq_false h9; simp only at this; omega
      ((conv=>whnf);repeat(first|(refine mvT ?_;conv=>whnf)|(refine mvF ?_;conv=>whnf)|(refine cT (by rfl) ?_;conv=>whnf)|(refine cF (by rfl) ?_;conv=>whnf)))
      rw [hil, hll3, List.take_length] at hA
      generalize hm5 : m4 ++ ((lsT (atT t 3)).flatMap (bUpdateFeaturesResponseResult v fx)) = m5 at hA
      have hl5 : m5.length = m4.length + ((lsT (atT t 3)).flatMap (bUpdateFeaturesResponseResult v fx)).length := by rw [← hm5, List.length_append]
      refine ⟨_, ⟨rfl, rfl, rfl, rfl, trivial⟩, ?_⟩
      rw [if_pos (by simp only [ge_iff_le, decide_eq_true_eq] at hcv; simp; omega)]
      rw [show m3 ++ (arA fx (lsT (atT t 3)).length ++ (lsT (atT t 3)).flatMap (bUpdateFeaturesResponseResult v fx)) = m5 by simp only [← hm5, ← hm4, List.append_assoc]]
      exact hA
    · ((conv=>whnf);repeat(first|(refine mvT ?_;conv=>whnf)|(refine mvF ?_;conv=>whnf)|(refine cT (by rfl) ?_;conv=>whnf)|(refine cF (by rfl) ?_;conv=>whnf)))
      refine ⟨_, ⟨rfl, rfl, rfl, rfl, trivial⟩, ?_⟩
      rw [if_neg (by simp only [ge_iff_le, decide_eq_false_iff_not] at hcv; simp; omega), List.append_nil]
      exact hA
  clear hA
  rintro r w hA
  ((conv=>whnf);repeat(first|(refine mvT ?_;conv=>whnf)|(refine mvF ?_;conv=>whnf)|(refine cT (by rfl) ?_;conv=>whnf)|(refine cF (by rfl) ?_;conv=>whnf)))
  generalize hm4 : m3 ++ ((if (decide (0 ≤ v) && (decide ((1 : Int) < 0) || decide (v ≤ 1))) = true then arA fx (lsT (atT t 3)).length ++ (lsT (atT t 3)).flatMap (bUpdateFeaturesResponseResult v fx) else [])) = m4 at hA
  have hl4 : m4.length = m3.length + ((if (decide (0 ≤ v) && (decide ((1 : Int) < 0) || decide (v ≤ 1))) = true then arA fx (lsT (atT t 3)).length ++ (lsT (atT t 3)).flatMap (bUpdateFeaturesResponseResult v fx) else [])).length := by rw [← hm4, List.length_append]
  (refine mvB ?_;((conv=>whnf);repeat(first|(refine mvT ?_;conv=>whnf)|(refine mvF ?_;conv=>whnf)|(refine cT (by rfl) ?_;conv=>whnf)|(refine cF (by rfl) ?_;conv=>whnf))))
  refine VC.cutE (fun r => [(1, r), (0, .pointer (some ⟨p, 0, none⟩)), (5, .int .i16 v), (6, .bool fx)]) (fun r w' => Apd w0 B x l (m4 ++ (tgsB fx (t).u)) r w') ?_ ?_
  · refine cI (by rfl) (fun hc=>?_) (fun hc=>?_)
    · ((conv=>whnf);repeat(first|(refine mvT ?_;conv=>whnf)|(refine mvF ?_;conv=>whnf)|(refine cT (by rfl) ?_;conv=>whnf)|(refine cF (by rfl) ?_;conv=>whnf)))
      have hul := hok.2.len
      refine Does.mono (Tags_Len_does ((hp.ext hA.ext hxp).cell rfl) (hm.ext hA.ext hFx)) ?_;rintro r w ⟨rfl, rfl⟩;((conv=>whnf);repeat(first|(refine mvT ?_;conv=>whnf)|(refine mvF ?_;conv=>whnf)|(refine cT (by rfl) ?_;conv=>whnf)|(refine cF (by rfl) ?_;conv=>whnf)))
      rw [u32_add0 (by omega)]
      refine Does.mono (AppendUvarint_does hA.ob (Nat.le_trans hB hA.size) (t).u.length (by omega) (by simp only [List.length_append]; omega)) ?_;rintro r w h;((conv=>whnf);repeat(first|(refine mvT ?_;conv=>whnf)|(refine mvF ?_;conv=>whnf)|(refine cT (by rfl) ?_;conv=>whnf)|(refine cF (by rfl) ?_;conv=>whnf)))
      have hul2 := uvar10 (n := (t).u.length) (by omega)
      replace hA := hA.tr h
      clear h
      refine Does.mono (AppendEach_does ((hp.ext hA.ext hxp).cell rfl) (hm.ext hA.ext hFx) hok.2 hA.ob (Nat.le_trans hB hA.size) (hA.ne hxp hpl) (fun j _ hf => hA.ne (hFR j hf).2 (hFR j hf).1) (by simp only [List.length_append]; omega)) ?_;rintro r w h;((conv=>whnf);repeat(first|(refine mvT ?_;conv=>whnf)|(refine mvF ?_;conv=>whnf)|(refine cT (by rfl) ?_;conv=>whnf)|(refine cF (by rfl) ?_;conv=>whnf)))
      replace hA := hA.tr h
      clear h
      refine ⟨_, ⟨rfl, rfl, rfl, rfl, trivial⟩, ?_⟩
      rw [tgsB, if_pos hc, ← List.append_assoc]
      exact hA
    · ((conv=>whnf);repeat(first|(refine mvT ?_;conv=>whnf)|(refine mvF ?_;conv=>whnf)|(refine cT (by rfl) ?_;conv=>whnf)|(refine cF (by rfl) ?_;conv=>whnf)))
      refine ⟨_, ⟨rfl, rfl, rfl, rfl, trivial⟩, ?_⟩
      rw [tgsB, if_neg (by rw [hc]; decide), List.append_nil]
      exact hA
  clear hA
  rintro r w hA
  ((conv=>whnf);repeat(first|(refine mvT ?_;conv=>whnf)|(refine mvF ?_;conv=>whnf)|(refine cT (by rfl) ?_;conv=>whnf)|(refine cF (by rfl) ?_;conv=>whnf)))
  generalize hm5 : m4 ++ (tgsB fx (t).u) = m5 at hA
  have hl5 : m5.length = m4.length + (tgsB fx (t).u).length := by rw [← hm5, List.length_append]
  show Apd w0 B x l _ r w
  rw [show bUpdateFeaturesResponse v fx t = m5 by unfold bUpdateFeaturesResponse; simp only [← hm5, ← hm4, ← hm3, ← hm2, ← hm1, hm0, List.append_assoc, List.nil_append, List.append_nil]]
  exact hA
theorem qUpdateFeaturesResponseResult {w : World} {F : Nat → Prop} {cs : List Value} {t : T} (h : QPart true 8 dUpdateFeaturesResponseResult ⟨w, F⟩ cs t) : rUpdateFeaturesResponseResult w F cs t := by
  obtain ⟨_, _, u_, m, rfl, rfl, hA0, hm⟩ := iP h
  clear h
  obtain ⟨cc0, _, x0, _, rfl, rfl, h0, hA1⟩ := iA hA0
  obtain ⟨n0, rfl, rfl⟩ := iF8 (by decide) h0
  obtain ⟨cc1, _, x1, _, rfl, rfl, h1, hA2⟩ := iA hA1
  obtain ⟨n1, rfl, rfl⟩ := iF2 h1
  obtain ⟨cc2, _, x2, _, rfl, rfl, h2, hA3⟩ := iA hA2
  obtain ⟨c2, rfl, hh2⟩ := iF8n (by decide) h2
  obtain ⟨rfl, rfl⟩ := hA3
  exact ⟨c2, m, rfl, hh2, hm⟩
theorem qUpdateFeaturesResponse {w : World} {F : Nat → Prop} {cs : List Value} {t : T} (h : QPart true 9 dUpdateFeaturesResponse ⟨w, F⟩ cs t) : ∃ c2 c3 m, cs = [.int .i32 (IntKind.i32.wrap (atT t 0).n), .int .i16 (IntKind.i16.wrap (atT t 1).n), c2, c3, m] ∧ NTextR w F c2 (atT t 2) ∧ ListR true 4 (rUpdateFeaturesResponseResult w F) w F c3 (atT t 3) ∧ TagsR w F m t.u := by
  obtain ⟨_, _, u_, m, rfl, rfl, hA0, hm⟩ := iP h
  clear h
  obtain ⟨cc0, _, x0, _, rfl, rfl, h0, hA1⟩ := iA hA0
  obtain ⟨n0, rfl, rfl⟩ := iF3 h0
  obtain ⟨cc1, _, x1, _, rfl, rfl, h1, hA2⟩ := iA hA1
  obtain ⟨n1, rfl, rfl⟩ := iF2 h1
  obtain ⟨cc2, _, x2, _, rfl, rfl, h2, hA3⟩ := iA hA2
  obtain ⟨c2, rfl, hh2⟩ := iF8n (by decide) h2
  obtain ⟨cc3, _, x3, _, rfl, rfl, h3, hA4⟩ := iA hA3
  obtain ⟨c3, rfl, hh3⟩ := iF11 (tg := true) (d := 8) (wf := ⟨w, F⟩) (of := 10) (sub := dUpdateFeaturesResponseResult) (sz := 4) (R := (rUpdateFeaturesResponseResult w F)) rfl (fun c y hc => qUpdateFeaturesResponseResult hc) h3
  obtain ⟨rfl, rfl⟩ := hA4
  exact ⟨c2, c3, m, rfl, hh2, hh3, hm⟩
theorem newUpdateFeaturesResponse (w : World) : Does X.P 35 #[] w fun r w' => ∃ p, r = .pointer (some ⟨p, 0, none⟩) ∧ w.heap.size ≤ p ∧ Own w' p 82 [.int .i16 0, .int .i32 0, .int .i16 0, .pointer none, .slice none 0 0, .map none] ∧ Ext nob w w' := by
  refine Does.go (X := X) (l := []) Tryz.func35 rfl (by kernel_rfl) (by kernel_rfl) _ rfl ?_
  ((conv=>whnf);repeat(first|(refine mvT ?_;conv=>whnf)|(refine mvF ?_;conv=>whnf)|(refine cT (by rfl) ?_;conv=>whnf)|(refine cF (by rfl) ?_;conv=>whnf)))
  intro p w1 hp ho hx
  ((conv=>whnf);repeat(first|(refine mvT ?_;conv=>whnf)|(refine mvF ?_;conv=>whnf)|(refine cT (by rfl) ?_;conv=>whnf)|(refine cF (by rfl) ?_;conv=>whnf)))
  refine Does.mono (dfUpdateFeaturesResponse (pre := []) (cur := [.int .i16 0, .int .i32 0, .int .i16 0, .pointer none, .slice none 0 0, .map none]) (post := []) (by simpa using ho) rfl rfl) ?_;rintro r2 w2 ⟨hd, hx2⟩;((conv=>whnf);repeat(first|(refine mvT ?_;conv=>whnf)|(refine mvF ?_;conv=>whnf)|(refine cT (by rfl) ?_;conv=>whnf)|(refine cF (by rfl) ?_;conv=>whnf)))
  exact ⟨p, rfl, hp, by simpa using hd, hx.st hx2 hp⟩
theorem maxUpdateFeaturesResponse (w : World) : Does X.P 10 #[] w fun r w' => r = .int .i64 2 ∧ Ext nob w w' := by
  have hmax : ∀ (p : Nat) (w : World), Does X.P 36 #[.pointer (some ⟨p, 0, none⟩)] w fun r w' => r = .int .i16 2 ∧ w' = w := by
    intro p w
    refine Does.go (X := X) (l := [_]) Tryz.func36 rfl (by kernel_rfl) (by kernel_rfl) _ rfl ?_
    ((conv=>whnf);repeat(first|(refine mvT ?_;conv=>whnf)|(refine mvF ?_;conv=>whnf)|(refine cT (by rfl) ?_;conv=>whnf)|(refine cF (by rfl) ?_;conv=>whnf)))
    exact ⟨rfl, rfl⟩
  refine Does.go (X := X) (l := []) Tryz.func10 rfl (by kernel_rfl) (by kernel_rfl) _ rfl ?_
  ((conv=>whnf);repeat(first|(refine mvT ?_;conv=>whnf)|(refine mvF ?_;conv=>whnf)|(refine cT (by rfl) ?_;conv=>whnf)|(refine cF (by rfl) ?_;conv=>whnf)))
  refine Does.mono (newUpdateFeaturesResponse w) ?_;rintro r1 w1 ⟨p, rfl, _, _, hx⟩;((conv=>whnf);repeat(first|(refine mvT ?_;conv=>whnf)|(refine mvF ?_;conv=>whnf)|(refine cT (by rfl) ?_;conv=>whnf)|(refine cF (by rfl) ?_;conv=>whnf)))
  refine Does.mono (hmax p w1) ?_;rintro r2 w2 ⟨rfl, rfl⟩;((conv=>whnf);repeat(first|(refine mvT ?_;conv=>whnf)|(refine mvF ?_;conv=>whnf)|(refine cT (by rfl) ?_;conv=>whnf)|(refine cF (by rfl) ?_;conv=>whnf)))
  exact ⟨rfl, hx⟩
theorem backUpdateFeaturesResponse {G F : Nat → Prop} {w : World} {v : Int} {y x ev : Value} {l s : List UInt8} {t : T} (hL : Laid w ev) (hy : Bytes w F y l) (hx : Bytes w G x s) (hv : 0 ≤ v) (hv2 : v < 32768)
    (hrd : rdPart 9 v (decide (v ≥ 0)) dUpdateFeaturesResponse (s, false) = (t, ([], false))) (hok : partOK 9 v dUpdateFeaturesResponse t) (hs : s.length ≤ 100000000000000) (hl : l.length + (bUpdateFeaturesResponse v (decide (v ≥ 0)) t).length ≤ 100000000000000) :
    Does X.P 14 #[.int .i64 v, y, x] w fun r w' => ∃ o, r = .tuple #[o, .bool true] ∧ OB w' w.heap.size o (l ++ bUpdateFeaturesResponse v (decide (v ≥ 0)) t) ∧ Ext nob w w' := by
  have hv16 : IntKind.i16.wrap v = v := by
    simp only [IntKind.wrap, IntKind.bits, IntKind.signed]
    simp
    omega
  obtain ⟨ay, cy, rfl, _⟩ := hy.view
  obtain ⟨ax, cx, rfl, _⟩ := hx.view
  have hy : Bytes w (fun k => F k ∧ k < w.heap.size) (.slice ay l.length cy) l := Sl.mono hy fun k h1 h2 => ⟨h2, h1⟩
  have hL1 := hL.lt
  refine Does.go (X := X) (l := [_, _, _]) Tryz.func14 rfl (by kernel_rfl) (by kernel_rfl) _ rfl ?_
  ((conv=>whnf);repeat(first|(refine mvT ?_;conv=>whnf)|(refine mvF ?_;conv=>whnf)|(refine cT (by rfl) ?_;conv=>whnf)|(refine cF (by rfl) ?_;conv=>whnf)))
  refine Does.mono (newUpdateFeaturesResponse w) ?_;rintro r1 w1 ⟨p, rfl, hwp, hop, hx1⟩;((conv=>whnf);repeat(first|(refine mvT ?_;conv=>whnf)|(refine mvF ?_;conv=>whnf)|(refine cT (by rfl) ?_;conv=>whnf)|(refine cF (by rfl) ?_;conv=>whnf)))
  have hset : Does X.P 39 #[.pointer (some ⟨p, 0, none⟩), .int .i16 (IntKind.i16.wrap v)] w1 fun r w' => Own w' p 82 [.int .i16 v, .int .i32 0, .int .i16 0, .pointer none, .slice none 0 0, .map none] ∧ Ext (fun k => k = p) w1 w' := by
    rw [hv16]
    refine Does.go (X := X) (l := [_, _]) Tryz.func39 rfl (by kernel_rfl) (by kernel_rfl) _ rfl ?_
    ((conv=>whnf);repeat(first|(refine mvT ?_;conv=>whnf)|(refine mvF ?_;conv=>whnf)|(refine cT (by rfl) ?_;conv=>whnf)|(refine cF (by rfl) ?_;conv=>whnf)))
    refine ⟨_, _, hop, rfl, rfl, rfl, ?_⟩
    intro w3 ho3 hx3
    ((conv=>whnf);repeat(first|(refine mvT ?_;conv=>whnf)|(refine mvF ?_;conv=>whnf)|(refine cT (by rfl) ?_;conv=>whnf)|(refine cF (by rfl) ?_;conv=>whnf)))
    exact ⟨ho3, hx3⟩
  refine Does.mono (hset) ?_;rintro r2 w2 ⟨hop2, hx2⟩;((conv=>whnf);repeat(first|(refine mvT ?_;conv=>whnf)|(refine mvF ?_;conv=>whnf)|(refine cT (by rfl) ?_;conv=>whnf)|(refine cF (by rfl) ?_;conv=>whnf)))
  have hx02 := hx1.st hx2 hwp
  refine app_bytes rfl rfl (OB.nil w2 w2.heap.size) (hx.e0 hx02).src rfl (by simp only [List.length_nil]; omega) (Nat.le_refl _) ?_
  intro x3 w3 h3 hx3 _ _
  ((conv=>whnf);repeat(first|(refine mvT ?_;conv=>whnf)|(refine mvF ?_;conv=>whnf)|(refine cT (by rfl) ?_;conv=>whnf)|(refine cF (by rfl) ?_;conv=>whnf)))
  rw [List.nil_append] at h3
  have hx3 : Ext nob w2 w3 := hx3.mono fun k _ h => by simp [Value.ownBlock] at h
  have hx03 := hx02.e0 hx3
  have hpl := hop2.lt
  have hread : Does X.P 40 #[.pointer (some ⟨p, 0, none⟩), x3] w3 fun r w' => RdPost w3 p 82 v (decide (v ≥ 0)) true dUpdateFeaturesResponse ev s r w' := by
    obtain ⟨a3, c3, rfl, _⟩ := h3.shape
    refine Does.go (X := X) (l := [_, _]) Tryz.func40 rfl (by kernel_rfl) (by kernel_rfl) _ rfl ?_
    ((conv=>whnf);repeat(first|(refine mvT ?_;conv=>whnf)|(refine mvF ?_;conv=>whnf)|(refine cT (by rfl) ?_;conv=>whnf)|(refine cF (by rfl) ?_;conv=>whnf)))
    refine Does.mono (readUpdateFeaturesResponse (hL.ext hx03 fun f => f) (hop2.e0 hx3) (h3.bytes (F := fun k => k ≠ p) fun k hk => by omega) (fun k h => h) hv (by omega)) ?_;rintro r w' h;((conv=>whnf);repeat(first|(refine mvT ?_;conv=>whnf)|(refine mvF ?_;conv=>whnf)|(refine cT (by rfl) ?_;conv=>whnf)|(refine cF (by rfl) ?_;conv=>whnf)))
    exact h
  refine Does.mono hread ?_
  rintro r4 w4 ⟨hr4, hx4, hpost⟩
  rw [hrd] at hr4 hpost
  obtain rfl : r4 = .nilIface := hr4.trans (if_neg Bool.false_ne_true)
  obtain ⟨cs, hop4, hq⟩ := hpost rfl
  obtain ⟨c2, c3, m, rfl, hc2, hc3, hm⟩ := qUpdateFeaturesResponse hq
  ((conv=>whnf);repeat(first|(refine mvT ?_;conv=>whnf)|(refine mvF ?_;conv=>whnf)|(refine cT (by rfl) ?_;conv=>whnf)|(refine cF (by rfl) ?_;conv=>whnf)))
  have hx04 := hx03.st hx4 hwp
  refine app_bytes rfl rfl (OB.nil w4 w4.heap.size) (hy.e0 hx04).src rfl (by simp only [List.length_nil]; omega) (Nat.le_refl _) ?_
  intro y5 w5 h5 hx5 _ _
  ((conv=>whnf);repeat(first|(refine mvT ?_;conv=>whnf)|(refine mvF ?_;conv=>whnf)|(refine cT (by rfl) ?_;conv=>whnf)|(refine cF (by rfl) ?_;conv=>whnf)))
  rw [List.nil_append] at h5
  have hx5 : Ext nob w4 w5 := hx5.mono fun k _ h => by simp [Value.ownBlock] at h
  obtain ⟨F4, hF4⟩ : ∃ F4 : Nat → Prop, F4 = fun k => k ≠ p ∧ k < w4.heap.size := ⟨_, rfl⟩
  have hpl4 := hop4.lt
  refine Does.mono (appUpdateFeaturesResponse (F := fun k => k ≠ p ∧ k < w4.heap.size) (hop4.e0 hx5) (by have := (hc2.mono (F' := F4) fun k h1 h2 => by rw [hF4]; exact ⟨h2, h1⟩).ext hx5 fun _ _ _ f => f; rw [hF4] at this; exact this) (by have := (hc3.mono (F' := F4) (fun k h1 h2 => by rw [hF4]; exact ⟨h2, h1⟩) (fun _ _ h => rUpdateFeaturesResponseResult_mono (F' := F4) h fun k h1 h2 => by rw [hF4]; exact ⟨h2, h1⟩)).ext hx5 (fun _ _ _ f => f) (fun _ _ h => rUpdateFeaturesResponseResult_ext h hx5 fun _ _ _ f => f); rw [hF4] at this; exact this) (by have := (hm.mono (F' := F4) fun k h1 h2 => by rw [hF4]; exact ⟨h2, h1⟩).ext hx5 fun _ _ _ f => f; rw [hF4] at this; exact this) hok (fun j _ hj e => by have := h5.blk j e; have := hj.2; omega) (fun e => by have := h5.blk p e; omega) h5 hx5.size hv hl) ?_
  rintro r6 w6 h6
  ((conv=>whnf);repeat(first|(refine mvT ?_;conv=>whnf)|(refine mvF ?_;conv=>whnf)|(refine cT (by rfl) ?_;conv=>whnf)|(refine cF (by rfl) ?_;conv=>whnf)))
  exact ⟨r6, rfl, h6.ob.mono hx04.size, (hx04.e0 hx5).own h6.ext (B := w4.heap.size) h5.blk hx04.size⟩
theorem walkUpdateFeaturesResponse {w : World} {n : Nat} (hn : n < 256) {y x ev : Value} {l : List UInt8} {t : T} (hL : Laid w ev) (hy : Bytes w anyB y l) (ht : Tr w anyB x t) : Does X.P 3 #[.int .u8 n, y, x] w fun r w' => r = .bool true ∧ Ext nob w w' := by
  have hkeys := ht.keys
  obtain ⟨ay, cy, rfl, _⟩ := hy.view
  obtain ⟨sv, lv, uv, ls, rfl, _⟩ := ht.open
  refine Does.go (X := X) (l := [_, _, _]) Tryz.func3 rfl (by kernel_rfl) (by kernel_rfl) _ rfl ?_
  ((conv=>whnf);repeat(first|(refine mvT ?_;conv=>whnf)|(refine mvF ?_;conv=>whnf)|(refine cT (by rfl) ?_;conv=>whnf)|(refine cF (by rfl) ?_;conv=>whnf)))
  intro b w1 hb ho hx
  ((conv=>whnf);repeat(first|(refine mvT ?_;conv=>whnf)|(refine mvF ?_;conv=>whnf)|(refine cT (by rfl) ?_;conv=>whnf)|(refine cF (by rfl) ?_;conv=>whnf)))
  intro cq hcq
  cases cq with
  | true =>
    ((conv=>whnf);repeat(first|(refine mvT ?_;conv=>whnf)|(refine mvF ?_;conv=>whnf)|(refine cT (by rfl) ?_;conv=>whnf)|(refine cF (by rfl) ?_;conv=>whnf)))
    exact ⟨rfl, hx⟩
  | false =>
  ((conv=>whnf);repeat(first|(refine mvT ?_;conv=>whnf)|(refine mvF ?_;conv=>whnf)|(refine cT (by rfl) ?_;conv=>whnf)|(refine cF (by rfl) ?_;conv=>whnf)))
  ((conv=>whnf);repeat(first|(refine mvT ?_;conv=>whnf)|(refine mvF ?_;conv=>whnf)|(refine cT (by rfl) ?_;conv=>whnf)|(refine cF (by rfl) ?_;conv=>whnf)))
  refine ⟨_, rfl, ho.cells, ?_⟩
  ((conv=>whnf);repeat(first|(refine mvT ?_;conv=>whnf)|(refine mvF ?_;conv=>whnf)|(refine cT (by rfl) ?_;conv=>whnf)|(refine cF (by rfl) ?_;conv=>whnf)))
  refine Does.mono (zzFits1_does (ht.e0 hx)) ?_;rintro r2 w2 ⟨⟨b2, rfl⟩, hx2⟩;((conv=>whnf);repeat(first|(refine mvT ?_;conv=>whnf)|(refine mvF ?_;conv=>whnf)|(refine cT (by rfl) ?_;conv=>whnf)|(refine cF (by rfl) ?_;conv=>whnf)))
  have hx02 := hx.e0 hx2
  refine cI (by rfl) (fun h1=>?_) (fun h1=>?_)
  · ((conv=>whnf);repeat(first|(refine mvT ?_;conv=>whnf)|(refine mvF ?_;conv=>whnf)|(refine cT (by rfl) ?_;conv=>whnf)|(refine cF (by rfl) ?_;conv=>whnf)))
    exact ⟨rfl, hx02⟩
  · ((conv=>whnf);repeat(first|(refine mvT ?_;conv=>whnf)|(refine mvF ?_;conv=>whnf)|(refine cT (by rfl) ?_;conv=>whnf)|(refine cF (by rfl) ?_;conv=>whnf)))
    refine Does.mono (maxUpdateFeaturesResponse w2) ?_;rintro r3 w3 ⟨rfl, hx3⟩;((conv=>whnf);repeat(first|(refine mvT ?_;conv=>whnf)|(refine mvF ?_;conv=>whnf)|(refine cT (by rfl) ?_;conv=>whnf)|(refine cF (by rfl) ?_;conv=>whnf)))
    refine Does.mono (sUpdateFeaturesResponse w3) ?_;rintro r4 w4 ⟨⟨fv, rfl, hfd⟩, hx4⟩;((conv=>whnf);repeat(first|(refine mvT ?_;conv=>whnf)|(refine mvF ?_;conv=>whnf)|(refine cT (by rfl) ?_;conv=>whnf)|(refine cF (by rfl) ?_;conv=>whnf)))
    have hone := hfd
    obtain ⟨ls3, hsl3, _⟩ := hone
    obtain ⟨a3, c3, rfl, _⟩ := hsl3.view
    refine Does.mono (version_does n 2 hn (by omega) w4) ?_;rintro r5 w5 ⟨rfl, rfl⟩;((conv=>whnf);repeat(first|(refine mvT ?_;conv=>whnf)|(refine mvF ?_;conv=>whnf)|(refine cT (by rfl) ?_;conv=>whnf)|(refine cF (by rfl) ?_;conv=>whnf)))
    intro b6 w6 hb6 ho6 hx6
    ((conv=>whnf);repeat(first|(refine mvT ?_;conv=>whnf)|(refine mvF ?_;conv=>whnf)|(refine cT (by rfl) ?_;conv=>whnf)|(refine cF (by rfl) ?_;conv=>whnf)))
    refine ⟨_, _, ho6, rfl, rfl, rfl, ?_⟩
    intro w7 ho7 hx7
    have hx57 : Ext nob w5 w7 := hx6.st hx7 hb6
    ((conv=>whnf);repeat(first|(refine mvT ?_;conv=>whnf)|(refine mvF ?_;conv=>whnf)|(refine cT (by rfl) ?_;conv=>whnf)|(refine cF (by rfl) ?_;conv=>whnf)))
    have hx07 : Ext nob w w7 := ((hx02.e0 hx3).e0 hx4).e0 hx57
    have ho1 := (((ho.e0 hx2).e0 hx3).e0 hx4).e0 hx57
    generalize hvv : ((n % (2 + 1) : Nat) : Int) = v
    have hv0 : 0 ≤ v := by omega
    have hv1 : v < 32768 := by omega
    have hok : ∀ f, f ∈ dUpdateFeaturesResponse → okF 9 f = true := List.all_eq_true.1 (show (dUpdateFeaturesResponse).all (okF 9) = true by decide)
    have hnt : ∀ f, f ∈ dUpdateFeaturesResponse → ntF 9 f = true := List.all_eq_true.1 (show (dUpdateFeaturesResponse).all (ntF 9) = true by decide)
    have hrr : ∀ f, f ∈ dUpdateFeaturesResponse → okR 0 9 f = true := List.all_eq_true.1 (show (dUpdateFeaturesResponse).all (okR 0 9) = true by decide)
    have hww : ∀ f, f ∈ dUpdateFeaturesResponse → okW 9 f = true := List.all_eq_true.1 (show (dUpdateFeaturesResponse).all (okW 9) = true by decide)
    refine cI (by rfl) (fun hd=>?_) (fun hd=>?_)
    · ((conv=>whnf);repeat(first|(refine mvT ?_;conv=>whnf)|(refine mvF ?_;conv=>whnf)|(refine cT (by rfl) ?_;conv=>whnf)|(refine cF (by rfl) ?_;conv=>whnf)))
      exact ⟨rfl, hx07⟩
    · have hl1 : l.length ≤ 1000 := by have := of_decide_eq_false hd; omega
      ((conv=>whnf);repeat(first|(refine mvT ?_;conv=>whnf)|(refine mvF ?_;conv=>whnf)|(refine cT (by rfl) ?_;conv=>whnf)|(refine cF (by rfl) ?_;conv=>whnf)))
      refine ⟨_, rfl, ho7.cells, ?_⟩
      ((conv=>whnf);repeat(first|(refine mvT ?_;conv=>whnf)|(refine mvF ?_;conv=>whnf)|(refine cT (by rfl) ?_;conv=>whnf)|(refine cF (by rfl) ?_;conv=>whnf)))
      refine ⟨_, rfl, ho1.cells, ?_⟩
      ((conv=>whnf);repeat(first|(refine mvT ?_;conv=>whnf)|(refine mvF ?_;conv=>whnf)|(refine cT (by rfl) ?_;conv=>whnf)|(refine cF (by rfl) ?_;conv=>whnf)))
      have hfx : decide (v ≥ 0) = flexB 0 v := by simp [flexB]
      have hlen : (partB 9 v (flexB 0 v) dUpdateFeaturesResponse t).length ≤ 90000000000000 := Nat.le_trans (partB_len 9 v _ dUpdateFeaturesResponse t hnt hkeys) (Nat.le_of_ble_eq_true rfl)
      refine Does.mono (write_does 9 (v := v) ⟨_, rfl, hfd.e0 hx57⟩ (ht.e0 hx07) hok (by decide) (Nat.le_trans hlen (by decide))) ?_
      rintro r8 w8 ⟨hr8, hx8⟩
      obtain ⟨a8, c8, rfl, _⟩ := hr8.shape
      ((conv=>whnf);repeat(first|(refine mvT ?_;conv=>whnf)|(refine mvF ?_;conv=>whnf)|(refine cT (by rfl) ?_;conv=>whnf)|(refine cF (by rfl) ?_;conv=>whnf)))
      have hx08 := hx07.e0 hx8
      have hrd : rdPart 9 v (decide (v ≥ 0)) dUpdateFeaturesResponse (partB 9 v (flexB 0 v) dUpdateFeaturesResponse t, false) = (toPart 9 v (decide (v ≥ 0)) dUpdateFeaturesResponse t, ([], false)) := by
        have := part_read 9 0 v dUpdateFeaturesResponse t hnt hrr hkeys hv0 []
        rw [List.append_nil] at this
        rw [hfx]
        exact this
      have hokT := part_okT 9 v (decide (v ≥ 0)) dUpdateFeaturesResponse t hnt hww hkeys hv0
      have hlaw : bUpdateFeaturesResponse v (decide (v ≥ 0)) (toPart 9 v (decide (v ≥ 0)) dUpdateFeaturesResponse t) = partB 9 v (flexB 0 v) dUpdateFeaturesResponse t := by
        rw [← bUpdateFeaturesResponse_eq hv0 hokT, hfx]
        exact partT_law 9 v _ dUpdateFeaturesResponse t hnt hww
      refine Does.mono (backUpdateFeaturesResponse (v := v) (hL.ext hx08 fun f => f) (hy.e0 hx08) hr8.bytesAny hv0 hv1 hrd hokT (by omega) (by rw [hlaw]; omega)) ?_
      rintro r9 w9 ⟨o9, rfl, ho9, hx9⟩
      rw [hlaw] at ho9
      obtain ⟨a9, c9, rfl, _⟩ := ho9.shape
      ((conv=>whnf);repeat(first|(refine mvT ?_;conv=>whnf)|(refine mvF ?_;conv=>whnf)|(refine cT (by rfl) ?_;conv=>whnf)|(refine cF (by rfl) ?_;conv=>whnf)))
      have hx09 := hx08.e0 hx9
      intro b10 w10 hb10 ho10 hx10
      ((conv=>whnf);repeat(first|(refine mvT ?_;conv=>whnf)|(refine mvF ?_;conv=>whnf)|(refine cT (by rfl) ?_;conv=>whnf)|(refine cF (by rfl) ?_;conv=>whnf)))
      have hob : OB w10 w9.heap.size (.slice (some ⟨b10, 0, none⟩) 0 0) [] := ⟨OwnSl.of_own (sz := 1) (n := 0) (cap := 0) ho10 (Nat.le_refl _) (by rw [maxLen_eq]; omega) rfl, fun k hk => by simp only [Value.ownBlock, Option.some.injEq] at hk; omega⟩
      refine app_bytes rfl rfl hob (hy.e0 (hx09.e0 hx10)).src rfl (by simp only [List.length_nil]; omega) hx10.size ?_
      intro v11 w11 h11 hx11 _ _
      have hx911 : Ext nob w9 w11 := hx10.trans hx11 fun k hk e => by simp only [Value.ownBlock, Option.some.injEq] at e; omega
      obtain ⟨a11, c11, rfl, _⟩ := h11.shape
      ((conv=>whnf);repeat(first|(refine mvT ?_;conv=>whnf)|(refine mvF ?_;conv=>whnf)|(refine cT (by rfl) ?_;conv=>whnf)|(refine cF (by rfl) ?_;conv=>whnf)))
      rw [List.nil_append] at h11
      refine app_bytes rfl rfl h11 ((hr8.e0 hx9).e0 hx911).bytesAny.src rfl (by omega) hx911.size ?_
      intro v12 w12 h12 hx12 _ _
      have hx912 : Ext nob w9 w12 := hx911.own hx12 (B := w9.heap.size) h11.blk (Nat.le_refl _)
      obtain ⟨a12, c12, rfl, _⟩ := h12.shape
      ((conv=>whnf);repeat(first|(refine mvT ?_;conv=>whnf)|(refine mvF ?_;conv=>whnf)|(refine cT (by rfl) ?_;conv=>whnf)|(refine cF (by rfl) ?_;conv=>whnf)))
      refine Does.mono (Same_does (ho9.e0 hx912).bytesAny h12.bytesAny) ?_
      rintro r13 w13 ⟨rfl, hx13⟩
      ((conv=>whnf);repeat(first|(refine mvT ?_;conv=>whnf)|(refine mvF ?_;conv=>whnf)|(refine cT (by rfl) ?_;conv=>whnf)|(refine cF (by rfl) ?_;conv=>whnf)))
      exact ⟨by simp [oneOr], (hx09.e0 hx912).e0 hx13⟩
end Go.Proofs.YtkhccpbmhcfkcaaGreatDoor.K
