/- DescribeConfigsRequest is read and written behind octets. -/
import Derived.Test.YtkhccpbmhcfkcaaGreatDoorF1
import Derived.Test.YtkhccpbmhcfkcaaGreatDoorV45
import Derived.Test.YtkhccpbmhcfkcaaGreatDoorGversion
set_option linter.unusedVariables false
set_option linter.unusedSimpArgs false
namespace Go.Proofs.YtkhccpbmhcfkcaaGreatDoor.K
open Go
set_option maxHeartbeats 1600000
set_option maxRecDepth 100000

def rDescribeConfigsRequestResource (w : World) (F : Nat → Prop) (cs : List Value) (t : T) : Prop := ∃ c2 m, cs = [.int .i8 (IntKind.i8.wrap (atT t 0).n), str (atT t 1).s, c2, m] ∧ ListR true 1 (fun c x => c = [str x.s]) w F c2 (atT t 2) ∧ TagsR w F m t.u
theorem rDescribeConfigsRequestResource_ext {M F : Nat → Prop} {w w' : World} {cs : List Value} {t : T} (h : rDescribeConfigsRequestResource w F cs t) (x : Ext M w w') (hF : ∀ k, k < w.heap.size → F k → ¬ M k) : rDescribeConfigsRequestResource w' F cs t := by
  obtain ⟨c2, m, rfl, h2, hm⟩ := h
  exact ⟨c2, m, rfl, h2.ext x hF (fun _ _ h => h), hm.ext x hF⟩
theorem rDescribeConfigsRequestResource_mono {F F' : Nat → Prop} {w : World} {cs : List Value} {t : T} (h : rDescribeConfigsRequestResource w F cs t) (hF : ∀ k, k < w.heap.size → F k → F' k) : rDescribeConfigsRequestResource w F' cs t := by
  obtain ⟨c2, m, rfl, h2, hm⟩ := h
  exact ⟨c2, m, rfl, h2.mono hF (fun _ _ h => h), hm.mono hF⟩
theorem rDescribeConfigsRequestResource_len {F : Nat → Prop} {w : World} {cs : List Value} {t : T} (h : rDescribeConfigsRequestResource w F cs t) : cs.length = 4 := by
  obtain ⟨c2, m, rfl, h2, hm⟩ := h
  rfl
def bDescribeConfigsRequestResource (v : Int) (fx : Bool) (t : T) : List UInt8 := ((fixed (atT t 0).n 1) ++ ((txA fx (atT t 1).s) ++ ((naA fx (atT t 2).nl (lsT (atT t 2)).length ++ (lsT (atT t 2)).flatMap (fun x => txA fx x.s)) ++ ([])))) ++ tgsB fx t.u
theorem bDescribeConfigsRequestResource_eq {v : Int} {fx : Bool} {t : T} (hv : 0 ≤ v) (hok : partOK 8 v dDescribeConfigsRequestResource t) : partA 8 v fx dDescribeConfigsRequestResource t = bDescribeConfigsRequestResource v fx t := by
  unfold partA partAW bDescribeConfigsRequestResource
  have hf := hok.1 0 _ rfl
  rw [plainW_all hv]
  have hf := hok.1 1 _ rfl
  rw [plainW_all hv]
  rw [tx_eq hf]
  have hf := hok.1 2 _ rfl
  rw [plainW_all hv]
  rw [na_eq (g := (fun x => txA fx x.s)) hf (by decide) (.inr hv) fun y hy => vtx_eq]
  rfl
def bDescribeConfigsRequest (v : Int) (fx : Bool) (t : T) : List UInt8 := ((arA fx (lsT (atT t 0)).length ++ (lsT (atT t 0)).flatMap (bDescribeConfigsRequestResource v fx)) ++ (((if (decide (1 ≤ v) && (decide ((-1 : Int) < 0) || decide (v ≤ (-1)))) = true then boA (atT t 1).n else [])) ++ (((if (decide (3 ≤ v) && (decide ((-1 : Int) < 0) || decide (v ≤ (-1)))) = true then boA (atT t 2).n else [])) ++ ([])))) ++ tgsB fx t.u
theorem bDescribeConfigsRequest_eq {v : Int} {fx : Bool} {t : T} (hv : 0 ≤ v) (hok : partOK 9 v dDescribeConfigsRequest t) : partA 9 v fx dDescribeConfigsRequest t = bDescribeConfigsRequest v fx t := by
  unfold partA partAW bDescribeConfigsRequest
  have hf := hok.1 0 _ rfl
  rw [plainW_all hv]
  rw [ar_eq (g := (bDescribeConfigsRequestResource v fx)) hf fun y hy => bDescribeConfigsRequestResource_eq hv ((lsT_ok hf y hy).2.2 rfl)]
  have hf := hok.1 1 _ rfl
  rw [plainW_ver]
  have hf := hok.1 2 _ rfl
  rw [plainW_ver]
  rfl
theorem appDescribeConfigsRequest {F : Nat → Prop} {w0 : World} {p B : Nat} {ty : TypeId} {v : Int} {x c0 m : Value} {l : List UInt8} {t : T} (hp : Own w0 p ty [.int .i16 v, c0, .bool (decide ((atT t 1).n % 2 = 1)), .bool (decide ((atT t 2).n % 2 = 1)), m]) (hc0 : ListR true 4 (rDescribeConfigsRequestResource w0 F) w0 F c0 (atT t 0)) (hm : TagsR w0 F m t.u) (hok : partOK 9 v dDescribeConfigsRequest t)
    (hF : ∀ j, j < w0.heap.size → F j → x.ownBlock ≠ some j) (hxp : x.ownBlock ≠ some p) (hx : OB w0 B x l) (hB : B ≤ w0.heap.size) (hv : 0 ≤ v) (hl : l.length + (bDescribeConfigsRequest v (decide (v ≥ 4)) t).length ≤ 100000000000000) :
    Does X.P 47 #[.pointer (some ⟨p, 0, none⟩), x] w0 fun r w' => Apd w0 B x l (bDescribeConfigsRequest v (decide (v ≥ 4)) t) r w' := by
  have hpl := hp.lt
  obtain ⟨fx, hfx⟩ : ∃ fx, fx = decide (v ≥ 4) := ⟨_, rfl⟩
  rw [← hfx] at hl ⊢
  unfold bDescribeConfigsRequest at hl
  simp only [List.length_append, List.length_nil] at hl
  obtain ⟨F0, hFR, hFx, hcs⟩ : ∃ F0 : Nat → Prop, (∀ j, F0 j → j < w0.heap.size ∧ x.ownBlock ≠ some j) ∧ (∀ j, j < w0.heap.size → F0 j → ¬ x.ownBlock = some j) ∧ (ListR true 4 (rDescribeConfigsRequestResource w0 F0) w0 F0 c0 (atT t 0) ∧ TagsR w0 F0 m t.u) :=
    ⟨fun j => F j ∧ j < w0.heap.size, fun j h => ⟨h.2, hF j h.2 h.1⟩, fun j _ h => hF j h.2 h.1, hc0.mono (fun k h1 h2 => ⟨h2, h1⟩) (fun _ _ h => rDescribeConfigsRequestResource_mono h fun k h1 h2 => ⟨h2, h1⟩), hm.mono fun k h1 h2 => ⟨h2, h1⟩⟩
  clear hm hc0 hF
  obtain ⟨hc0, hm⟩ := hcs
  obtain ⟨a0, k0, l0, rfl, hkm0, hll0, hnn0, hcl0, hrl0⟩ := hc0.view
  have hA := Apd.start hx
  obtain ⟨m0, hm0⟩ : ∃ m0 : List UInt8, m0 = [] := ⟨_, rfl⟩
  rw [← hm0] at hA
  have hl0 : m0.length = 0 := by rw [hm0]; rfl
  refine Does.go (X := X) (l := [_, _]) Tryz.func47 rfl (by kernel_rfl) (by kernel_rfl) _ rfl ?_
  ((conv=>whnf);repeat(first|(refine mvT ?_;conv=>whnf)|(refine mvF ?_;conv=>whnf)|(refine cT (by rfl) ?_;conv=>whnf)|(refine cF (by rfl) ?_;conv=>whnf)))
  refine ldS (hp.cell rfl) ?_;((conv=>whnf);repeat(first|(refine mvT ?_;conv=>whnf)|(refine mvF ?_;conv=>whnf)|(refine cT (by rfl) ?_;conv=>whnf)|(refine cF (by rfl) ?_;conv=>whnf)))
  rw [← hfx]
  (refine mvB ?_;((conv=>whnf);repeat(first|(refine mvT ?_;conv=>whnf)|(refine mvF ?_;conv=>whnf)|(refine cT (by rfl) ?_;conv=>whnf)|(refine cF (by rfl) ?_;conv=>whnf))))
  refine ldS ((hp.ext hA.ext hxp).cell rfl) ?_;((conv=>whnf);repeat(first|(refine mvT ?_;conv=>whnf)|(refine mvF ?_;conv=>whnf)|(refine cT (by rfl) ?_;conv=>whnf)|(refine cF (by rfl) ?_;conv=>whnf)))
  have hml0 := lsT_len (hok.1 0 _ rfl)
  (refine mvB ?_;((conv=>whnf);repeat(first|(refine mvT ?_;conv=>whnf)|(refine mvF ?_;conv=>whnf)|(refine cT (by rfl) ?_;conv=>whnf)|(refine cF (by rfl) ?_;conv=>whnf))))
  refine VC.cutE (fun r => [(1, r), (0, .pointer (some ⟨p, 0, none⟩)), (5, .int .i16 v), (6, .bool fx), (7, .slice a0 l0.length k0)]) (fun r w' => Apd w0 B x l (m0 ++ (arA fx (lsT (atT t 0)).length)) r w') ?_ ?_
  · refine cI (by rfl) (fun hc=>?_) (fun hc=>?_)
    · ((conv=>whnf);repeat(first|(refine mvT ?_;conv=>whnf)|(refine mvF ?_;conv=>whnf)|(refine cT (by rfl) ?_;conv=>whnf)|(refine cF (by rfl) ?_;conv=>whnf)))
      refine Does.mono (AppendCompactArrayLen_does hA.ob (Nat.le_trans hB hA.size) (by simp only [List.length_append]; omega) l0.length (by omega)) ?_;rintro r w h;((conv=>whnf);repeat(first|(refine mvT ?_;conv=>whnf)|(refine mvF ?_;conv=>whnf)|(refine cT (by rfl) ?_;conv=>whnf)|(refine cF (by rfl) ?_;conv=>whnf)))
      rw [hll0] at h
      replace hA := hA.tr h
      clear h
      refine ⟨_, ⟨rfl, rfl, rfl, rfl, rfl, trivial⟩, ?_⟩
      rw [hc]
      exact hA
    · ((conv=>whnf);repeat(first|(refine mvT ?_;conv=>whnf)|(refine mvF ?_;conv=>whnf)|(refine cT (by rfl) ?_;conv=>whnf)|(refine cF (by rfl) ?_;conv=>whnf)))
      refine Does.mono (AppendArrayLen_does hA.ob (Nat.le_trans hB hA.size) (by simp only [List.length_append]; omega) l0.length) ?_;rintro r w h;((conv=>whnf);repeat(first|(refine mvT ?_;conv=>whnf)|(refine mvF ?_;conv=>whnf)|(refine cT (by rfl) ?_;conv=>whnf)|(refine cF (by rfl) ?_;conv=>whnf)))
      rw [hll0] at h
      replace hA := hA.tr h
      clear h
      refine ⟨_, ⟨rfl, rfl, rfl, rfl, rfl, trivial⟩, ?_⟩
      rw [hc]
      exact hA
  clear hA
  rintro r w hA
  ((conv=>whnf);repeat(first|(refine mvT ?_;conv=>whnf)|(refine mvF ?_;conv=>whnf)|(refine cT (by rfl) ?_;conv=>whnf)|(refine cF (by rfl) ?_;conv=>whnf)))
  generalize hm1 : m0 ++ (arA fx (lsT (atT t 0)).length) = m1 at hA
  have hl1 : m1.length = m0.length + (arA fx (lsT (atT t 0)).length).length := by rw [← hm1, List.length_append]
  refine VL.loop (fun s : Nat × Value => [(1, s.2), (0, .pointer (some ⟨p, 0, none⟩)), (5, .int .i16 v), (6, .bool fx), (7, .slice a0 l0.length k0), (39, .slice a0 l0.length k0), (40, .int .i64 l0.length), (41, .int .i64 s.1)])
    (fun s w' => s.1 ≤ l0.length ∧ Apd w0 B x l (m1 ++ ((lsT (atT t 0)).take s.1).flatMap (bDescribeConfigsRequestResource v fx)) s.2 w') (fun s => l0.length - s.1) (0, r) ⟨rfl, rfl, rfl, rfl, rfl, rfl, rfl, rfl, trivial⟩ ⟨Nat.zero_le _, by rw [List.take_zero, List.flatMap_nil, List.append_nil]; exact hA⟩ ?_
  clear hA
  rintro ⟨i1, r⟩ w ⟨hi1, hA⟩
  dsimp only at hi1 hA
  ((conv=>whnf);repeat(first|(refine mvT ?_;conv=>whnf)|(refine mvF ?_;conv=>whnf)|(refine cT (by rfl) ?_;conv=>whnf)|(refine cF (by rfl) ?_;conv=>whnf)))
  refine cI (by rfl) (fun h9=>?_) (fun h9=>?_)
  · have hil : i1 < l0.length := by have := of_decide_eq_true h9; simp only at this; omega
    have hiL1 : i1 < (lsT (atT t 0)).length := by omega
    obtain ⟨hft, hfl⟩ := flat_take (bDescribeConfigsRequestResource v fx) (lsT (atT t 0)) i1 hiL1
    obtain ⟨b0, o0, rfl, hF0, hb0, hce0⟩ := hcl0 i1 l0[i1] (by simp [hil])
    have hre0 := hrl0 i1 l0[i1] ((lsT (atT t 0))[i1]) (by simp [hil]) (by simp [hiL1])
    have hlo0 := lsT_ok (hok.1 0 _ rfl) ((lsT (atT t 0))[i1]) (List.getElem_mem hiL1)
    generalize hm2 : m1 ++ ((lsT (atT t 0)).take i1).flatMap (bDescribeConfigsRequestResource v fx) = m2 at hA
    have hl2 : m2.length = m1.length + (((lsT (atT t 0)).take i1).flatMap (bDescribeConfigsRequestResource v fx)).length := by rw [← hm2, List.length_append]
    obtain ⟨x1, hx1⟩ : ∃ y, y = (lsT (atT t 0))[i1] := ⟨_, rfl⟩
    rw [← hx1] at hft hfl hre0 hlo0
    obtain ⟨c1_2, m1_, hcells, hc1_2, hm1_⟩ := hre0
    rw [hcells] at hce0
    have hok1_ := hlo0.2.2 rfl
    obtain ⟨a1_2, k1_2, l1_2, rfl, hkm1_2, hll1_2, hnn1_2, hcl1_2, hrl1_2⟩ := hc1_2.view
    have hgl : (bDescribeConfigsRequestResource v fx x1).length = (bDescribeConfigsRequestResource v fx x1).length := rfl
    conv at hgl => rhs; unfold bDescribeConfigsRequestResource
    simp only [List.length_append, List.length_nil] at hgl
    ((conv=>whnf);repeat(first|(refine mvT ?_;conv=>whnf)|(refine mvF ?_;conv=>whnf)|(refine cT (by rfl) ?_;conv=>whnf)|(refine cF (by rfl) ?_;conv=>whnf)))
    refine ⟨b0, o0, rfl, ⟨by omega, by omega⟩, ?_⟩
    ((conv=>whnf);repeat(first|(refine mvT ?_;conv=>whnf)|(refine mvF ?_;conv=>whnf)|(refine cT (by rfl) ?_;conv=>whnf)|(refine cF (by rfl) ?_;conv=>whnf)))
    refine ⟨_, ld ((hce0.ext hA.ext (hFx _ hb0 hF0)).cell (j := 0) rfl) (by simp <;> omega), ?_⟩; ((conv=>whnf);repeat(first|(refine mvT ?_;conv=>whnf)|(refine mvF ?_;conv=>whnf)|(refine cT (by rfl) ?_;conv=>whnf)|(refine cF (by rfl) ?_;conv=>whnf)))
    refine Does.mono (AppendInt8_does hA.ob (Nat.le_trans hB hA.size) (by simp only [List.length_append]; omega) _) ?_;rintro r w h;((conv=>whnf);repeat(first|(refine mvT ?_;conv=>whnf)|(refine mvF ?_;conv=>whnf)|(refine cT (by rfl) ?_;conv=>whnf)|(refine cF (by rfl) ?_;conv=>whnf)))
    rw [fixed1_mod (wrap_i8m _)] at h
    replace hA := hA.tr h
    clear h
    generalize hm3 : m2 ++ (fixed (atT x1 0).n 1) = m3 at hA
    have hl3 : m3.length = m2.length + (fixed (atT x1 0).n 1).length := by rw [← hm3, List.length_append]
    refine ⟨_, ld ((hce0.ext hA.ext (hFx _ hb0 hF0)).cell (j := 1) rfl) (by simp <;> omega), ?_⟩; ((conv=>whnf);repeat(first|(refine mvT ?_;conv=>whnf)|(refine mvF ?_;conv=>whnf)|(refine cT (by rfl) ?_;conv=>whnf)|(refine cF (by rfl) ?_;conv=>whnf)))
    have hsl := fieldOK_text (hok1_.1 1 _ rfl)
    (refine mvB ?_;((conv=>whnf);repeat(first|(refine mvT ?_;conv=>whnf)|(refine mvF ?_;conv=>whnf)|(refine cT (by rfl) ?_;conv=>whnf)|(refine cF (by rfl) ?_;conv=>whnf))))
    refine VC.cutE (fun r => [(1, r), (0, .pointer (some ⟨p, 0, none⟩)), (5, .int .i16 v), (6, .bool fx), (7, .slice (some ⟨b0, o0, none⟩) l0.length k0), (39, .slice (some ⟨b0, o0, none⟩) l0.length k0), (40, .int .i64 l0.length), (41, .int .i64 i1), (9, .pointer (some ⟨b0, o0 + i1 * 4, none⟩))]) (fun r w' => Apd w0 B x l (m3 ++ (txA fx (atT x1 1).s)) r w') ?_ ?_
    · refine cI (by rfl) (fun hc=>?_) (fun hc=>?_)
      · ((conv=>whnf);repeat(first|(refine mvT ?_;conv=>whnf)|(refine mvF ?_;conv=>whnf)|(refine cT (by rfl) ?_;conv=>whnf)|(refine cF (by rfl) ?_;conv=>whnf)))
        refine Does.mono (AppendCompactString_does hA.ob (Nat.le_trans hB hA.size) _ (by omega) (by simp only [List.length_append]; omega)) ?_;rintro r w h;((conv=>whnf);repeat(first|(refine mvT ?_;conv=>whnf)|(refine mvF ?_;conv=>whnf)|(refine cT (by rfl) ?_;conv=>whnf)|(refine cF (by rfl) ?_;conv=>whnf)))
        replace hA := hA.tr h
        clear h
        refine ⟨_, ⟨rfl, rfl, rfl, rfl, rfl, rfl, rfl, rfl, rfl, trivial⟩, ?_⟩
        rw [hc]
        exact hA
      · ((conv=>whnf);repeat(first|(refine mvT ?_;conv=>whnf)|(refine mvF ?_;conv=>whnf)|(refine cT (by rfl) ?_;conv=>whnf)|(refine cF (by rfl) ?_;conv=>whnf)))
        refine Does.mono (AppendString_does hA.ob (Nat.le_trans hB hA.size) _ (by simp only [List.length_append]; omega)) ?_;rintro r w h;((conv=>whnf);repeat(first|(refine mvT ?_;conv=>whnf)|(refine mvF ?_;conv=>whnf)|(refine cT (by rfl) ?_;conv=>whnf)|(refine cF (by rfl) ?_;conv=>whnf)))
        replace hA := hA.tr h
        clear h
        refine ⟨_, ⟨rfl, rfl, rfl, rfl, rfl, rfl, rfl, rfl, rfl, trivial⟩, ?_⟩
        rw [hc]
        exact hA
    clear hA
    rintro r w hA
    ((conv=>whnf);repeat(first|(refine mvT ?_;conv=>whnf)|(refine mvF ?_;conv=>whnf)|(refine cT (by rfl) ?_;conv=>whnf)|(refine cF (by rfl) ?_;conv=>whnf)))
    generalize hm4 : m3 ++ (txA fx (atT x1 1).s) = m4 at hA
    have hl4 : m4.length = m3.length + (txA fx (atT x1 1).s).length := by rw [← hm4, List.length_append]
    refine ⟨_, ld ((hce0.ext hA.ext (hFx _ hb0 hF0)).cell (j := 2) rfl) (by simp <;> omega), ?_⟩; ((conv=>whnf);repeat(first|(refine mvT ?_;conv=>whnf)|(refine mvF ?_;conv=>whnf)|(refine cT (by rfl) ?_;conv=>whnf)|(refine cF (by rfl) ?_;conv=>whnf)))
    have hml1_2 := lsT_len (hok1_.1 2 _ rfl)
    (refine mvB ?_;((conv=>whnf);repeat(first|(refine mvT ?_;conv=>whnf)|(refine mvF ?_;conv=>whnf)|(refine cT (by rfl) ?_;conv=>whnf)|(refine cF (by rfl) ?_;conv=>whnf))))
    refine VC.cutE (fun r => [(1, r), (0, .pointer (some ⟨p, 0, none⟩)), (5, .int .i16 v), (6, .bool fx), (7, .slice (some ⟨b0, o0, none⟩) l0.length k0), (39, .slice (some ⟨b0, o0, none⟩) l0.length k0), (40, .int .i64 l0.length), (41, .int .i64 i1), (9, .pointer (some ⟨b0, o0 + i1 * 4, none⟩)), (13, .slice a1_2 l1_2.length k1_2)]) (fun r w' => Apd w0 B x l (m4 ++ (naA fx (atT x1 2).nl (lsT (atT x1 2)).length)) r w') ?_ ?_
    · refine cI (by rfl) (fun hc=>?_) (fun hc=>?_)
      · ((conv=>whnf);repeat(first|(refine mvT ?_;conv=>whnf)|(refine mvF ?_;conv=>whnf)|(refine cT (by rfl) ?_;conv=>whnf)|(refine cF (by rfl) ?_;conv=>whnf)))
        refine Does.mono (AppendCompactNullableArrayLen_does hA.ob (Nat.le_trans hB hA.size) (by simp only [List.length_append]; omega) l1_2.length (by omega) _) ?_;rintro r w h;((conv=>whnf);repeat(first|(refine mvT ?_;conv=>whnf)|(refine mvF ?_;conv=>whnf)|(refine cT (by rfl) ?_;conv=>whnf)|(refine cF (by rfl) ?_;conv=>whnf)))
        rw [hll1_2, hnn1_2 rfl] at h
        replace hA := hA.tr h
        clear h
        refine ⟨_, ⟨rfl, rfl, rfl, rfl, rfl, rfl, rfl, rfl, rfl, rfl, trivial⟩, ?_⟩
        rw [hc]
        exact hA
      · ((conv=>whnf);repeat(first|(refine mvT ?_;conv=>whnf)|(refine mvF ?_;conv=>whnf)|(refine cT (by rfl) ?_;conv=>whnf)|(refine cF (by rfl) ?_;conv=>whnf)))
        refine Does.mono (AppendNullableArrayLen_does hA.ob (Nat.le_trans hB hA.size) (by simp only [List.length_append]; omega) l1_2.length _) ?_;rintro r w h;((conv=>whnf);repeat(first|(refine mvT ?_;conv=>whnf)|(refine mvF ?_;conv=>whnf)|(refine cT (by rfl) ?_;conv=>whnf)|(refine cF (by rfl) ?_;conv=>whnf)))
        rw [hll1_2, hnn1_2 rfl] at h
        replace hA := hA.tr h
        clear h
        refine ⟨_, ⟨rfl, rfl, rfl, rfl, rfl, rfl, rfl, rfl, rfl, rfl, trivial⟩, ?_⟩
        rw [hc]
        exact hA
    clear hA
    rintro r w hA
    ((conv=>whnf);repeat(first|(refine mvT ?_;conv=>whnf)|(refine mvF ?_;conv=>whnf)|(refine cT (by rfl) ?_;conv=>whnf)|(refine cF (by rfl) ?_;conv=>whnf)))
    generalize hm5 : m4 ++ (naA fx (atT x1 2).nl (lsT (atT x1 2)).length) = m5 at hA
    have hl5 : m5.length = m4.length + (naA fx (atT x1 2).nl (lsT (atT x1 2)).length).length := by rw [← hm5, List.length_append]
    refine VL.loop (fun s : Nat × Value => [(1, s.2), (0, .pointer (some ⟨p, 0, none⟩)), (5, .int .i16 v), (6, .bool fx), (7, .slice (some ⟨b0, o0, none⟩) l0.length k0), (39, .slice (some ⟨b0, o0, none⟩) l0.length k0), (40, .int .i64 l0.length), (41, .int .i64 i1), (9, .pointer (some ⟨b0, o0 + i1 * 4, none⟩)), (13, .slice a1_2 l1_2.length k1_2), (83, .slice a1_2 l1_2.length k1_2), (84, .int .i64 l1_2.length), (85, .int .i64 s.1)])
      (fun s w' => s.1 ≤ l1_2.length ∧ Apd w0 B x l (m5 ++ ((lsT (atT x1 2)).take s.1).flatMap (fun x => txA fx x.s)) s.2 w') (fun s => l1_2.length - s.1) (0, r) ⟨rfl, rfl, rfl, rfl, rfl, rfl, rfl, rfl, rfl, rfl, rfl, rfl, rfl, trivial⟩ ⟨Nat.zero_le _, by rw [List.take_zero, List.flatMap_nil, List.append_nil]; exact hA⟩ ?_
    clear hA
    rintro ⟨i2, r⟩ w ⟨hi2, hA⟩
    dsimp only at hi2 hA
    ((conv=>whnf);repeat(first|(refine mvT ?_;conv=>whnf)|(refine mvF ?_;conv=>whnf)|(refine cT (by rfl) ?_;conv=>whnf)|(refine cF (by rfl) ?_;conv=>whnf)))
    refine cI (by rfl) (fun h9=>?_) (fun h9=>?_)
    · have hil : i2 < l1_2.length := by have := of_decide_eq_true h9; simp only at this; omega
      have hiL2 : i2 < (lsT (atT x1 2)).length := by omega
      obtain ⟨hft, hfl⟩ := flat_take (fun x => txA fx x.s) (lsT (atT x1 2)) i2 hiL2
      obtain ⟨b1_2, o1_2, rfl, hF1_2, hb1_2, hce1_2⟩ := hcl1_2 i2 l1_2[i2] (by simp [hil])
      have hre1_2 := hrl1_2 i2 l1_2[i2] ((lsT (atT x1 2))[i2]) (by simp [hil]) (by simp [hiL2])
      have hlo1_2 := lsT_ok (hok1_.1 2 _ rfl) ((lsT (atT x1 2))[i2]) (List.getElem_mem hiL2)
      generalize hm6 : m5 ++ ((lsT (atT x1 2)).take i2).flatMap (fun x => txA fx x.s) = m6 at hA
      have hl6 : m6.length = m5.length + (((lsT (atT x1 2)).take i2).flatMap (fun x => txA fx x.s)).length := by rw [← hm6, List.length_append]
      obtain ⟨x2, hx2⟩ : ∃ y, y = (lsT (atT x1 2))[i2] := ⟨_, rfl⟩
      rw [← hx2] at hft hfl hre1_2 hlo1_2
      rw [hre1_2] at hce1_2
      ((conv=>whnf);repeat(first|(refine mvT ?_;conv=>whnf)|(refine mvF ?_;conv=>whnf)|(refine cT (by rfl) ?_;conv=>whnf)|(refine cF (by rfl) ?_;conv=>whnf)))
      refine ⟨b1_2, o1_2, rfl, ⟨by omega, by omega⟩, ?_⟩
      ((conv=>whnf);repeat(first|(refine mvT ?_;conv=>whnf)|(refine mvF ?_;conv=>whnf)|(refine cT (by rfl) ?_;conv=>whnf)|(refine cF (by rfl) ?_;conv=>whnf)))
      refine ⟨_, ld ((hce1_2.ext hA.ext (hFx _ hb1_2 hF1_2)).cell (j := 0) rfl) (by simp), ?_⟩
      ((conv=>whnf);repeat(first|(refine mvT ?_;conv=>whnf)|(refine mvF ?_;conv=>whnf)|(refine cT (by rfl) ?_;conv=>whnf)|(refine cF (by rfl) ?_;conv=>whnf)))
      have hsl := hlo1_2.2.1 (.inl rfl)
      (refine mvB ?_;((conv=>whnf);repeat(first|(refine mvT ?_;conv=>whnf)|(refine mvF ?_;conv=>whnf)|(refine cT (by rfl) ?_;conv=>whnf)|(refine cF (by rfl) ?_;conv=>whnf))))
      refine VC.cutB (fun r => [(1, r), (0, .pointer (some ⟨p, 0, none⟩)), (5, .int .i16 v), (6, .bool fx), (7, .slice (some ⟨b0, o0, none⟩) l0.length k0), (39, .slice (some ⟨b0, o0, none⟩) l0.length k0), (40, .int .i64 l0.length), (41, .int .i64 i1), (9, .pointer (some ⟨b0, o0 + i1 * 4, none⟩)), (13, .slice (some ⟨b1_2, o1_2, none⟩) l1_2.length k1_2), (83, .slice (some ⟨b1_2, o1_2, none⟩) l1_2.length k1_2), (84, .int .i64 l1_2.length), (85, .int .i64 i2)]) (fun r w' => Apd w0 B x l (m6 ++ (txA fx x2.s)) r w') ?_ ?_
      · refine cI (by rfl) (fun hc=>?_) (fun hc=>?_)
        · ((conv=>whnf);repeat(first|(refine mvT ?_;conv=>whnf)|(refine mvF ?_;conv=>whnf)|(refine cT (by rfl) ?_;conv=>whnf)|(refine cF (by rfl) ?_;conv=>whnf)))
          refine Does.mono (AppendCompactString_does hA.ob (Nat.le_trans hB hA.size) _ (by omega) (by simp only [List.length_append]; omega)) ?_;rintro r w h;((conv=>whnf);repeat(first|(refine mvT ?_;conv=>whnf)|(refine mvF ?_;conv=>whnf)|(refine cT (by rfl) ?_;conv=>whnf)|(refine cF (by rfl) ?_;conv=>whnf)))
          replace hA := hA.tr h
          clear h
          refine ⟨_, ⟨rfl, rfl, rfl, rfl, rfl, rfl, rfl, rfl, rfl, rfl, rfl, rfl, rfl, trivial⟩, ?_⟩
          rw [hc]
          exact hA
        · ((conv=>whnf);repeat(first|(refine mvT ?_;conv=>whnf)|(refine mvF ?_;conv=>whnf)|(refine cT (by rfl) ?_;conv=>whnf)|(refine cF (by rfl) ?_;conv=>whnf)))
          refine Does.mono (AppendString_does hA.ob (Nat.le_trans hB hA.size) _ (by simp only [List.length_append]; omega)) ?_;rintro r w h;((conv=>whnf);repeat(first|(refine mvT ?_;conv=>whnf)|(refine mvF ?_;conv=>whnf)|(refine cT (by rfl) ?_;conv=>whnf)|(refine cF (by rfl) ?_;conv=>whnf)))
          replace hA := hA.tr h
          clear h
          refine ⟨_, ⟨rfl, rfl, rfl, rfl, rfl, rfl, rfl, rfl, rfl, rfl, rfl, rfl, rfl, trivial⟩, ?_⟩
          rw [hc]
          exact hA
      clear hA
      rintro r w hA
      ((conv=>whnf);repeat(first|(refine mvT ?_;conv=>whnf)|(refine mvF ?_;conv=>whnf)|(refine cT (by rfl) ?_;conv=>whnf)|(refine cF (by rfl) ?_;conv=>whnf)))
      generalize hm7 : m6 ++ (txA fx x2.s) = m7 at hA
      have hl7 : m7.length = m6.length + (txA fx x2.s).length := by rw [← hm7, List.length_append]
      have hfin : m6 ++ (fun x => txA fx x.s) x2 = m7 := by simp only [← hm7, List.append_assoc, List.nil_append, List.append_nil]
      refine ⟨(i2 + 1, r), ⟨rfl, rfl, rfl, rfl, rfl, rfl, rfl, rfl, rfl, rfl, rfl, rfl, inc_eq (by rw [maxLen_eq] at hkm1_2; omega), trivial⟩, ⟨by simp only; omega, ?_⟩, by simp only; omega⟩
      rw [hft, ← List.append_assoc, hm6, hfin]
      exact hA
    have hil : i2 = l1_2.length := by have := of_decide_eq_false h9; simp only at this; omega
    ((conv=>whnf);repeat(first|(refine mvT ?_;conv=>whnf)|(refine mvF ?_;conv=>whnf)|(refine cT (by rfl) ?_;conv=>whnf)|(refine cF (by rfl) ?_;conv=>whnf)))
    rw [hil, hll1_2, List.take_length] at hA
    generalize hm6 : m5 ++ ((lsT (atT x1 2)).flatMap (fun x => txA fx x.s)) = m6 at hA
    have hl6 : m6.length = m5.length + ((lsT (atT x1 2)).flatMap (fun x => txA fx x.s)).length := by rw [← hm6, List.length_append]
    (refine mvB ?_;((conv=>whnf);repeat(first|(refine mvT ?_;conv=>whnf)|(refine mvF ?_;conv=>whnf)|(refine cT (by rfl) ?_;conv=>whnf)|(refine cF (by rfl) ?_;conv=>whnf))))
    refine VC.cutB (fun r => [(1, r), (0, .pointer (some ⟨p, 0, none⟩)), (5, .int .i16 v), (6, .bool fx), (7, .slice (some ⟨b0, o0, none⟩) l0.length k0), (39, .slice (some ⟨b0, o0, none⟩) l0.length k0), (40, .int .i64 l0.length), (41, .int .i64 i1), (9, .pointer (some ⟨b0, o0 + i1 * 4, none⟩))]) (fun r w' => Apd w0 B x l (m6 ++ (tgsB fx (x1).u)) r w') ?_ ?_
    · refine cI (by rfl) (fun hc=>?_) (fun hc=>?_)
      · ((conv=>whnf);repeat(first|(refine mvT ?_;conv=>whnf)|(refine mvF ?_;conv=>whnf)|(refine cT (by rfl) ?_;conv=>whnf)|(refine cF (by rfl) ?_;conv=>whnf)))
        have hul := hok1_.2.len
        refine Does.mono (Tags_Len_does (ld ((hce0.ext hA.ext (hFx _ hb0 hF0)).cell (j := 3) rfl) (by simp <;> omega)) (hm1_.ext hA.ext hFx)) ?_;rintro r w ⟨rfl, rfl⟩;((conv=>whnf);repeat(first|(refine mvT ?_;conv=>whnf)|(refine mvF ?_;conv=>whnf)|(refine cT (by rfl) ?_;conv=>whnf)|(refine cF (by rfl) ?_;conv=>whnf)))
        rw [u32_add0 (by omega)]
        refine Does.mono (AppendUvarint_does hA.ob (Nat.le_trans hB hA.size) (x1).u.length (by omega) (by simp only [List.length_append]; omega)) ?_;rintro r w h;((conv=>whnf);repeat(first|(refine mvT ?_;conv=>whnf)|(refine mvF ?_;conv=>whnf)|(refine cT (by rfl) ?_;conv=>whnf)|(refine cF (by rfl) ?_;conv=>whnf)))
        have hul2 := uvar10 (n := (x1).u.length) (by omega)
        replace hA := hA.tr h
        clear h
        refine Does.mono (AppendEach_does (ld ((hce0.ext hA.ext (hFx _ hb0 hF0)).cell (j := 3) rfl) (by simp <;> omega)) (hm1_.ext hA.ext hFx) hok1_.2 hA.ob (Nat.le_trans hB hA.size) (hA.ne (hFR _ hF0).2 (hFR _ hF0).1) (fun j _ hf => hA.ne (hFR j hf).2 (hFR j hf).1) (by simp only [List.length_append]; omega)) ?_;rintro r w h;((conv=>whnf);repeat(first|(refine mvT ?_;conv=>whnf)|(refine mvF ?_;conv=>whnf)|(refine cT (by rfl) ?_;conv=>whnf)|(refine cF (by rfl) ?_;conv=>whnf)))
        replace hA := hA.tr h
        clear h
        refine ⟨_, ⟨rfl, rfl, rfl, rfl, rfl, rfl, rfl, rfl, rfl, trivial⟩, ?_⟩
        rw [tgsB, if_pos hc, ← List.append_assoc]
        exact hA
      · ((conv=>whnf);repeat(first|(refine mvT ?_;conv=>whnf)|(refine mvF ?_;conv=>whnf)|(refine cT (by rfl) ?_;conv=>whnf)|(refine cF (by rfl) ?_;conv=>whnf)))
        refine ⟨_, ⟨rfl, rfl, rfl, rfl, rfl, rfl, rfl, rfl, rfl, trivial⟩, ?_⟩
        rw [tgsB, if_neg (by rw [hc]; decide), List.append_nil]
        exact hA
    clear hA
    rintro r w hA
    ((conv=>whnf);repeat(first|(refine mvT ?_;conv=>whnf)|(refine mvF ?_;conv=>whnf)|(refine cT (by rfl) ?_;conv=>whnf)|(refine cF (by rfl) ?_;conv=>whnf)))
    generalize hm7 : m6 ++ (tgsB fx (x1).u) = m7 at hA
    have hl7 : m7.length = m6.length + (tgsB fx (x1).u).length := by rw [← hm7, List.length_append]
    have hfin : m2 ++ (bDescribeConfigsRequestResource v fx) x1 = m7 := by unfold bDescribeConfigsRequestResource; simp only [← hm7, ← hm6, ← hm5, ← hm4, ← hm3, List.append_assoc, List.nil_append, List.append_nil]
    refine ⟨(i1 + 1, r), ⟨rfl, rfl, rfl, rfl, rfl, rfl, rfl, inc_eq (by rw [maxLen_eq] at hkm0; omega), trivial⟩, ⟨by simp only; omega, ?_⟩, by simp only; omega⟩
    rw [hft, ← List.append_assoc, hm2, hfin]
    exact hA
  have hil : i1 = l0.length := by have := of_decide_eq_false h9; simp only at this; omega
  ((conv=>whnf);repeat(first|(refine mvT ?_;conv=>whnf)|(refine mvF ?_;conv=>whnf)|(refine cT (by rfl) ?_;conv=>whnf)|(refine cF (by rfl) ?_;conv=>whnf)))
  rw [hil, hll0, List.take_length] at hA
  generalize hm2 : m1 ++ ((lsT (atT t 0)).flatMap (bDescribeConfigsRequestResource v fx)) = m2 at hA
  have hl2 : m2.length = m1.length + ((lsT (atT t 0)).flatMap (bDescribeConfigsRequestResource v fx)).length := by rw [← hm2, List.length_append]
  refine VC.cutE (fun r => [(1, r), (0, .pointer (some ⟨p, 0, none⟩)), (5, .int .i16 v), (6, .bool fx)]) (fun r w' => Apd w0 B x l (m2 ++ ((if (decide (1 ≤ v) && (decide ((-1 : Int) < 0) || decide (v ≤ (-1)))) = true then boA (atT t 1).n else []))) r w') ?_ ?_
  · refine cI (by rfl) (fun hcv=>?_) (fun hcv=>?_)
    · ((conv=>whnf);repeat(first|(refine mvT ?_;conv=>whnf)|(refine mvF ?_;conv=>whnf)|(refine cT (by rfl) ?_;conv=>whnf)|(refine cF (by rfl) ?_;conv=>whnf)))
      refine ldS ((hp.ext hA.ext hxp).cell rfl) ?_;((conv=>whnf);repeat(first|(refine mvT ?_;conv=>whnf)|(refine mvF ?_;conv=>whnf)|(refine cT (by rfl) ?_;conv=>whnf)|(refine cF (by rfl) ?_;conv=>whnf)))
      (refine mvB ?_;((conv=>whnf);repeat(first|(refine mvT ?_;conv=>whnf)|(refine mvF ?_;conv=>whnf)|(refine cT (by rfl) ?_;conv=>whnf)|(refine cF (by rfl) ?_;conv=>whnf))))
      refine Does.mono (AppendBool_does hA.ob (Nat.le_trans hB hA.size) (by simp only [List.length_append]; omega) _) ?_;rintro r w h;((conv=>whnf);repeat(first|(refine mvT ?_;conv=>whnf)|(refine mvF ?_;conv=>whnf)|(refine cT (by rfl) ?_;conv=>whnf)|(refine cF (by rfl) ?_;conv=>whnf)))
      replace hA := hA.tr h
      clear h
      rw [bo_eq] at hA
      generalize hm3 : m2 ++ (boA (atT t 1).n) = m3 at hA
      have hl3 : m3.length = m2.length + (boA (atT t 1).n).length := by rw [← hm3, List.length_append]
      refine ⟨_, ⟨rfl, rfl, rfl, rfl, trivial⟩, ?_⟩
      rw [if_pos (by simp only [ge_iff_le, decide_eq_true_eq] at hcv; simp; omega)]
      rw [hm3]
      exact hA
    · ((conv=>whnf);repeat(first|(refine mvT ?_;conv=>whnf)|(refine mvF ?_;conv=>whnf)|(refine cT (by rfl) ?_;conv=>whnf)|(refine cF (by rfl) ?_;conv=>whnf)))
      refine ⟨_, ⟨rfl, rfl, rfl, rfl, trivial⟩, ?_⟩
      rw [if_neg (by simp only [ge_iff_le, decide_eq_false_iff_not] at hcv; simp; omega), List.append_nil]
      exact hA
  clear hA
  rintro r w hA
  ((conv=>whnf);repeat(first|(refine mvT ?_;conv=>whnf)|(refine mvF ?_;conv=>whnf)|(refine cT (by rfl) ?_;conv=>whnf)|(refine cF (by rfl) ?_;conv=>whnf)))
  generalize hm3 : m2 ++ ((if (decide (1 ≤ v) && (decide ((-1 : Int) < 0) || decide (v ≤ (-1)))) = true then boA (atT t 1).n else [])) = m3 at hA
  have hl3 : m3.length = m2.length + ((if (decide (1 ≤ v) && (decide ((-1 : Int) < 0) || decide (v ≤ (-1)))) = true then boA (atT t 1).n else [])).length := by rw [← hm3, List.length_append]
  refine VC.cutE (fun r => [(1, r), (0, .pointer (some ⟨p, 0, none⟩)), (5, .int .i16 v), (6, .bool fx)]) (fun r w' => Apd w0 B x l (m3 ++ ((if (decide (3 ≤ v) && (decide ((-1 : Int) < 0) || decide (v ≤ (-1)))) = true then boA (atT t 2).n else []))) r w') ?_ ?_
  · refine cI (by rfl) (fun hcv=>?_) (fun hcv=>?_)
    · ((conv=>whnf);repeat(first|(refine mvT ?_;conv=>whnf)|(refine mvF ?_;conv=>whnf)|(refine cT (by rfl) ?_;conv=>whnf)|(refine cF (by rfl) ?_;conv=>whnf)))
      refine ldS ((hp.ext hA.ext hxp).cell rfl) ?_;((conv=>whnf);repeat(first|(refine mvT ?_;conv=>whnf)|(refine mvF ?_;conv=>whnf)|(refine cT (by rfl) ?_;conv=>whnf)|(refine cF (by rfl) ?_;conv=>whnf)))
      (refine mvB ?_;((conv=>whnf);repeat(first|(refine mvT ?_;conv=>whnf)|(refine mvF ?_;conv=>whnf)|(refine cT (by rfl) ?_;conv=>whnf)|(refine cF (by rfl) ?_;conv=>whnf))))
      refine Does.mono (AppendBool_does hA.ob (Nat.le_trans hB hA.size) (by simp only [List.length_append]; omega) _) ?_;rintro r w h;((conv=>whnf);repeat(first|(refine mvT ?_;conv=>whnf)|(refine mvF ?_;conv=>whnf)|(refine cT (by rfl) ?_;conv=>whnf)|(refine cF (by rfl) ?_;conv=>whnf)))
      replace hA := hA.tr h
      clear h
      rw [bo_eq] at hA
      generalize hm4 : m3 ++ (boA (atT t 2).n) = m4 at hA
      have hl4 : m4.length = m3.length + (boA (atT t 2).n).length := by rw [← hm4, List.length_append]
      refine ⟨_, ⟨rfl, rfl, rfl, rfl, trivial⟩, ?_⟩
      rw [if_pos (by simp only [ge_iff_le, decide_eq_true_eq] at hcv; simp; omega)]
      rw [hm4]
      exact hA
    · ((conv=>whnf);repeat(first|(refine mvT ?_;conv=>whnf)|(refine mvF ?_;conv=>whnf)|(refine cT (by rfl) ?_;conv=>whnf)|(refine cF (by rfl) ?_;conv=>whnf)))
      refine ⟨_, ⟨rfl, rfl, rfl, rfl, trivial⟩, ?_⟩
      rw [if_neg (by simp only [ge_iff_le, decide_eq_false_iff_not] at hcv; simp; omega), List.append_nil]
      exact hA
  clear hA
  rintro r w hA
  ((conv=>whnf);repeat(first|(refine mvT ?_;conv=>whnf)|(refine mvF ?_;conv=>whnf)|(refine cT (by rfl) ?_;conv=>whnf)|(refine cF (by rfl) ?_;conv=>whnf)))
  generalize hm4 : m3 ++ ((if (decide (3 ≤ v) && (decide ((-1 : Int) < 0) || decide (v ≤ (-1)))) = true then boA (atT t 2).n else [])) = m4 at hA
  have hl4 : m4.length = m3.length + ((if (decide (3 ≤ v) && (decide ((-1 : Int) < 0) || decide (v ≤ (-1)))) = true then boA (atT t 2).n else [])).length := by rw [← hm4, List.length_append]
  (refine mvB ?_;((conv=>whnf);repeat(first|(refine mvT ?_;conv=>whnf)|(refine mvF ?_;conv=>whnf)|(refine cT (by rfl) ?_;conv=>whnf)|(refine cF (by rfl) ?_;conv=>whnf))))
  refine VC.cutE (fun r => [(1, r), (0, .pointer (some ⟨p, 0, none⟩)), (5, .int .i16 v), (6, .bool fx)]) (fun r w' => Apd w0 B x l (m4 ++ (tgsB fx (t).u)) r w') ?_ ?_
  · refine cI (by rfl) (fun hc=>?_) (fun hc=>?_)
    · ((conv=>whnf);repeat(first|(refine mvT ?_;conv=>whnf)|(refine mvF ?_;conv=>whnf)|(refine cT (by rfl) ?_;conv=>whnf)|(refine cF (by rfl) ?_;conv=>whnf)))
      have hul := hok.2.len
      refine Does.mono (Tags_Len_does ((hp.ext hA.ext hxp).cell rfl) (hm.ext hA.ext hFx)) ?_;rintro r w ⟨rfl, rfl⟩;((conv=>whnf);repeat(first|(refine mvT ?_;conv=>whnf)|(refine mvF ?_;conv=>whnf)|(refine cT (by rfl) ?_;conv=>whnf)|(refine cF (by rfl) ?_;conv=>whnf)))
      rw [u32_add0 (by omega)]
      refine Does.mono (AppendUvarint_does hA.ob (Nat.le_trans hB hA.size) (t).u.length (by omega) (by simp only [List.length_append]; omega)) ?_;rintro r w h;((conv=>whnf);repeat(first|(refine mvT ?_;conv=>whnf)|(refine mvF ?_;conv=>whnf)|(refine cT (by rfl) ?_;conv=>whnf)|(refine cF (by rfl) ?_;conv=>whnf)))
      have hul2 := uvar10 (n := (t).u.length) (by omega)
      replace hA := hA.tr h
      clear h
      refine Does.mono (AppendEach_does ((hp.ext hA.ext hxp).cell rfl) (hm.ext hA.ext hFx) hok.2 hA.ob (Nat.le_trans hB hA.size) (hA.ne hxp hpl) (fun j _ hf => hA.ne (hFR j hf).2 (hFR j hf).1) (by simp only [List.length_append]; omega)) ?_;rintro r w h;((conv=>whnf);repeat(first|(refine mvT ?_;conv=>whnf)|(refine mvF ?_;conv=>whnf)|(refine cT (by rfl) ?_;conv=>whnf)|(refine cF (by rfl) ?_;conv=>whnf)))
      replace hA := hA.tr h
      clear h
      refine ⟨_, ⟨rfl, rfl, rfl, rfl, trivial⟩, ?_⟩
      rw [tgsB, if_pos hc, ← List.append_assoc]
      exact hA
    · ((conv=>whnf);repeat(first|(refine mvT ?_;conv=>whnf)|(refine mvF ?_;conv=>whnf)|(refine cT (by rfl) ?_;conv=>whnf)|(refine cF (by rfl) ?_;conv=>whnf)))
      refine ⟨_, ⟨rfl, rfl, rfl, rfl, trivial⟩, ?_⟩
      rw [tgsB, if_neg (by rw [hc]; decide), List.append_nil]
      exact hA
  clear hA
  rintro r w hA
  ((conv=>whnf);repeat(first|(refine mvT ?_;conv=>whnf)|(refine mvF ?_;conv=>whnf)|(refine cT (by rfl) ?_;conv=>whnf)|(refine cF (by rfl) ?_;conv=>whnf)))
  generalize hm5 : m4 ++ (tgsB fx (t).u) = m5 at hA
  have hl5 : m5.length = m4.length + (tgsB fx (t).u).length := by rw [← hm5, List.length_append]
  show Apd w0 B x l _ r w
  rw [show bDescribeConfigsRequest v fx t = m5 by unfold bDescribeConfigsRequest; simp only [← hm5, ← hm4, ← hm3, ← hm2, ← hm1, hm0, List.append_assoc, List.nil_append, List.append_nil]]
  exact hA
theorem qDescribeConfigsRequestResource {w : World} {F : Nat → Prop} {cs : List Value} {t : T} (h : QPart true 8 dDescribeConfigsRequestResource ⟨w, F⟩ cs t) : rDescribeConfigsRequestResource w F cs t := by
  obtain ⟨_, _, u_, m, rfl, rfl, hA0, hm⟩ := iP h
  clear h
  obtain ⟨cc0, _, x0, _, rfl, rfl, h0, hA1⟩ := iA hA0
  obtain ⟨n0, rfl, rfl⟩ := iF1 h0
  obtain ⟨cc1, _, x1, _, rfl, rfl, h1, hA2⟩ := iA hA1
  obtain ⟨n1, rfl, rfl⟩ := iF8 (by decide) h1
  obtain ⟨cc2, _, x2, _, rfl, rfl, h2, hA3⟩ := iA hA2
  obtain ⟨c2, rfl, hh2⟩ := iF11 (tg := true) (d := 7) (wf := ⟨w, F⟩) (of := 8) (sub := []) (sz := 1) (R := (fun c x => c = [str x.s])) rfl iE8 h2
  obtain ⟨rfl, rfl⟩ := hA3
  exact ⟨c2, m, rfl, hh2, hm⟩
theorem qDescribeConfigsRequest {w : World} {F : Nat → Prop} {cs : List Value} {t : T} (h : QPart true 9 dDescribeConfigsRequest ⟨w, F⟩ cs t) : ∃ c0 m, cs = [c0, .bool (decide ((atT t 1).n % 2 = 1)), .bool (decide ((atT t 2).n % 2 = 1)), m] ∧ ListR true 4 (rDescribeConfigsRequestResource w F) w F c0 (atT t 0) ∧ TagsR w F m t.u := by
  obtain ⟨_, _, u_, m, rfl, rfl, hA0, hm⟩ := iP h
  clear h
  obtain ⟨cc0, _, x0, _, rfl, rfl, h0, hA1⟩ := iA hA0
  obtain ⟨c0, rfl, hh0⟩ := iF11 (tg := true) (d := 8) (wf := ⟨w, F⟩) (of := 10) (sub := dDescribeConfigsRequestResource) (sz := 4) (R := (rDescribeConfigsRequestResource w F)) rfl (fun c y hc => qDescribeConfigsRequestResource hc) h0
  obtain ⟨cc1, _, x1, _, rfl, rfl, h1, hA2⟩ := iA hA1
  obtain ⟨n1, rfl, rfl⟩ := iF0 h1
  obtain ⟨cc2, _, x2, _, rfl, rfl, h2, hA3⟩ := iA hA2
  obtain ⟨n2, rfl, rfl⟩ := iF0 h2
  obtain ⟨rfl, rfl⟩ := hA3
  exact ⟨c0, m, rfl, hh0, hm⟩
theorem newDescribeConfigsRequest (w : World) : Does X.P 42 #[] w fun r w' => ∃ p, r = .pointer (some ⟨p, 0, none⟩) ∧ w.heap.size ≤ p ∧ Own w' p 102 [.int .i16 0, .slice none 0 0, .bool false, .bool false, .map none] ∧ Ext nob w w' := by
  refine Does.go (X := X) (l := []) Tryz.func42 rfl (by kernel_rfl) (by kernel_rfl) _ rfl ?_
  ((conv=>whnf);repeat(first|(refine mvT ?_;conv=>whnf)|(refine mvF ?_;conv=>whnf)|(refine cT (by rfl) ?_;conv=>whnf)|(refine cF (by rfl) ?_;conv=>whnf)))
  intro p w1 hp ho hx
  ((conv=>whnf);repeat(first|(refine mvT ?_;conv=>whnf)|(refine mvF ?_;conv=>whnf)|(refine cT (by rfl) ?_;conv=>whnf)|(refine cF (by rfl) ?_;conv=>whnf)))
  refine Does.mono (dfDescribeConfigsRequest (pre := []) (cur := [.int .i16 0, .slice none 0 0, .bool false, .bool false, .map none]) (post := []) (by simpa using ho) rfl rfl) ?_;rintro r2 w2 ⟨hd, hx2⟩;((conv=>whnf);repeat(first|(refine mvT ?_;conv=>whnf)|(refine mvF ?_;conv=>whnf)|(refine cT (by rfl) ?_;conv=>whnf)|(refine cF (by rfl) ?_;conv=>whnf)))
  exact ⟨p, rfl, hp, by simpa using hd, hx.st hx2 hp⟩
theorem maxDescribeConfigsRequest (w : World) : Does X.P 16 #[] w fun r w' => r = .int .i64 4 ∧ Ext nob w w' := by
  have hmax : ∀ (p : Nat) (w : World), Does X.P 43 #[.pointer (some ⟨p, 0, none⟩)] w fun r w' => r = .int .i16 4 ∧ w' = w := by
    intro p w
    refine Does.go (X := X) (l := [_]) Tryz.func43 rfl (by kernel_rfl) (by kernel_rfl) _ rfl ?_
    ((conv=>whnf);repeat(first|(refine mvT ?_;conv=>whnf)|(refine mvF ?_;conv=>whnf)|(refine cT (by rfl) ?_;conv=>whnf)|(refine cF (by rfl) ?_;conv=>whnf)))
    exact ⟨rfl, rfl⟩
  refine Does.go (X := X) (l := []) Tryz.func16 rfl (by kernel_rfl) (by kernel_rfl) _ rfl ?_
  ((conv=>whnf);repeat(first|(refine mvT ?_;conv=>whnf)|(refine mvF ?_;conv=>whnf)|(refine cT (by rfl) ?_;conv=>whnf)|(refine cF (by rfl) ?_;conv=>whnf)))
  refine Does.mono (newDescribeConfigsRequest w) ?_;rintro r1 w1 ⟨p, rfl, _, _, hx⟩;((conv=>whnf);repeat(first|(refine mvT ?_;conv=>whnf)|(refine mvF ?_;conv=>whnf)|(refine cT (by rfl) ?_;conv=>whnf)|(refine cF (by rfl) ?_;conv=>whnf)))
  refine Does.mono (hmax p w1) ?_;rintro r2 w2 ⟨rfl, rfl⟩;((conv=>whnf);repeat(first|(refine mvT ?_;conv=>whnf)|(refine mvF ?_;conv=>whnf)|(refine cT (by rfl) ?_;conv=>whnf)|(refine cF (by rfl) ?_;conv=>whnf)))
  exact ⟨rfl, hx⟩
theorem backDescribeConfigsRequest {G F : Nat → Prop} {w : World} {v : Int} {y x ev : Value} {l s : List UInt8} {t : T} (hL : Laid w ev) (hy : Bytes w F y l) (hx : Bytes w G x s) (hv : 0 ≤ v) (hv2 : v < 32768)
    (hrd : rdPart 9 v (decide (v ≥ 4)) dDescribeConfigsRequest (s, false) = (t, ([], false))) (hok : partOK 9 v dDescribeConfigsRequest t) (hs : s.length ≤ 100000000000000) (hl : l.length + (bDescribeConfigsRequest v (decide (v ≥ 4)) t).length ≤ 100000000000000) :
    Does X.P 18 #[.int .i64 v, y, x] w fun r w' => ∃ o, r = .tuple #[o, .bool true] ∧ OB w' w.heap.size o (l ++ bDescribeConfigsRequest v (decide (v ≥ 4)) t) ∧ Ext nob w w' := by
  have hv16 : IntKind.i16.wrap v = v := by
    simp only [IntKind.wrap, IntKind.bits, IntKind.signed]
    simp
    omega
  obtain ⟨ay, cy, rfl, _⟩ := hy.view
  obtain ⟨ax, cx, rfl, _⟩ := hx.view
  have hy : Bytes w (fun k => F k ∧ k < w.heap.size) (.slice ay l.length cy) l := Sl.mono hy fun k h1 h2 => ⟨h2, h1⟩
  have hL1 := hL.lt
  refine Does.go (X := X) (l := [_, _, _]) Tryz.func18 rfl (by kernel_rfl) (by kernel_rfl) _ rfl ?_
  ((conv=>whnf);repeat(first|(refine mvT ?_;conv=>whnf)|(refine mvF ?_;conv=>whnf)|(refine cT (by rfl) ?_;conv=>whnf)|(refine cF (by rfl) ?_;conv=>whnf)))
  refine Does.mono (newDescribeConfigsRequest w) ?_;rintro r1 w1 ⟨p, rfl, hwp, hop, hx1⟩;((conv=>whnf);repeat(first|(refine mvT ?_;conv=>whnf)|(refine mvF ?_;conv=>whnf)|(refine cT (by rfl) ?_;conv=>whnf)|(refine cF (by rfl) ?_;conv=>whnf)))
  have hset : Does X.P 45 #[.pointer (some ⟨p, 0, none⟩), .int .i16 (IntKind.i16.wrap v)] w1 fun r w' => Own w' p 102 [.int .i16 v, .slice none 0 0, .bool false, .bool false, .map none] ∧ Ext (fun k => k = p) w1 w' := by
    rw [hv16]
    refine Does.go (X := X) (l := [_, _]) Tryz.func45 rfl (by kernel_rfl) (by kernel_rfl) _ rfl ?_
    ((conv=>whnf);repeat(first|(refine mvT ?_;conv=>whnf)|(refine mvF ?_;conv=>whnf)|(refine cT (by rfl) ?_;conv=>whnf)|(refine cF (by rfl) ?_;conv=>whnf)))
    refine ⟨_, _, hop, rfl, rfl, rfl, ?_⟩
    intro w3 ho3 hx3
    ((conv=>whnf);repeat(first|(refine mvT ?_;conv=>whnf)|(refine mvF ?_;conv=>whnf)|(refine cT (by rfl) ?_;conv=>whnf)|(refine cF (by rfl) ?_;conv=>whnf)))
    exact ⟨ho3, hx3⟩
  refine Does.mono (hset) ?_;rintro r2 w2 ⟨hop2, hx2⟩;((conv=>whnf);repeat(first|(refine mvT ?_;conv=>whnf)|(refine mvF ?_;conv=>whnf)|(refine cT (by rfl) ?_;conv=>whnf)|(refine cF (by rfl) ?_;conv=>whnf)))
  have hx02 := hx1.st hx2 hwp
  refine app_bytes rfl rfl (OB.nil w2 w2.heap.size) (hx.e0 hx02).src rfl (by simp only [List.length_nil]; omega) (Nat.le_refl _) ?_
  intro x3 w3 h3 hx3 _ _
  ((conv=>whnf);repeat(first|(refine mvT ?_;conv=>whnf)|(refine mvF ?_;conv=>whnf)|(refine cT (by rfl) ?_;conv=>whnf)|(refine cF (by rfl) ?_;conv=>whnf)))
  rw [List.nil_append] at h3
  have hx3 : Ext nob w2 w3 := hx3.mono fun k _ h => by simp [Value.ownBlock] at h
  have hx03 := hx02.e0 hx3
  have hpl := hop2.lt
  have hread : Does X.P 46 #[.pointer (some ⟨p, 0, none⟩), x3] w3 fun r w' => RdPost w3 p 102 v (decide (v ≥ 4)) true dDescribeConfigsRequest ev s r w' := by
    obtain ⟨a3, c3, rfl, _⟩ := h3.shape
    refine Does.go (X := X) (l := [_, _]) Tryz.func46 rfl (by kernel_rfl) (by kernel_rfl) _ rfl ?_
    ((conv=>whnf);repeat(first|(refine mvT ?_;conv=>whnf)|(refine mvF ?_;conv=>whnf)|(refine cT (by rfl) ?_;conv=>whnf)|(refine cF (by rfl) ?_;conv=>whnf)))
    refine Does.mono (readDescribeConfigsRequest (hL.ext hx03 fun f => f) (hop2.e0 hx3) (h3.bytes (F := fun k => k ≠ p) fun k hk => by omega) (fun k h => h) hv (by omega)) ?_;rintro r w' h;((conv=>whnf);repeat(first|(refine mvT ?_;conv=>whnf)|(refine mvF ?_;conv=>whnf)|(refine cT (by rfl) ?_;conv=>whnf)|(refine cF (by rfl) ?_;conv=>whnf)))
    exact h
  refine Does.mono hread ?_
  rintro r4 w4 ⟨hr4, hx4, hpost⟩
  rw [hrd] at hr4 hpost
  obtain rfl : r4 = .nilIface := hr4.trans (if_neg Bool.false_ne_true)
  obtain ⟨cs, hop4, hq⟩ := hpost rfl
  obtain ⟨c0, m, rfl, hc0, hm⟩ := qDescribeConfigsRequest hq
  ((conv=>whnf);repeat(first|(refine mvT ?_;conv=>whnf)|(refine mvF ?_;conv=>whnf)|(refine cT (by rfl) ?_;conv=>whnf)|(refine cF (by rfl) ?_;conv=>whnf)))
  have hx04 := hx03.st hx4 hwp
  refine app_bytes rfl rfl (OB.nil w4 w4.heap.size) (hy.e0 hx04).src rfl (by simp only [List.length_nil]; omega) (Nat.le_refl _) ?_
  intro y5 w5 h5 hx5 _ _
  ((conv=>whnf);repeat(first|(refine mvT ?_;conv=>whnf)|(refine mvF ?_;conv=>whnf)|(refine cT (by rfl) ?_;conv=>whnf)|(refine cF (by rfl) ?_;conv=>whnf)))
  rw [List.nil_append] at h5
  have hx5 : Ext nob w4 w5 := hx5.mono fun k _ h => by simp [Value.ownBlock] at h
  obtain ⟨F4, hF4⟩ : ∃ F4 : Nat → Prop, F4 = fun k => k ≠ p ∧ k < w4.heap.size := ⟨_, rfl⟩
  have hpl4 := hop4.lt
  refine Does.mono (appDescribeConfigsRequest (F := fun k => k ≠ p ∧ k < w4.heap.size) (hop4.e0 hx5) (by have := (hc0.mono (F' := F4) (fun k h1 h2 => by rw [hF4]; exact ⟨h2, h1⟩) (fun _ _ h => rDescribeConfigsRequestResource_mono (F' := F4) h fun k h1 h2 => by rw [hF4]; exact ⟨h2, h1⟩)).ext hx5 (fun _ _ _ f => f) (fun _ _ h => rDescribeConfigsRequestResource_ext h hx5 fun _ _ _ f => f); rw [hF4] at this; exact this) (by have := (hm.mono (F' := F4) fun k h1 h2 => by rw [hF4]; exact ⟨h2, h1⟩).ext hx5 fun _ _ _ f => f; rw [hF4] at this; exact this) hok (fun j _ hj e => by have := h5.blk j e; have := hj.2; omega) (fun e => by have := h5.blk p e; omega) h5 hx5.size hv hl) ?_
  rintro r6 w6 h6
  ((conv=>whnf);repeat(first|(refine mvT ?_;conv=>whnf)|(refine mvF ?_;conv=>whnf)|(refine cT (by rfl) ?_;conv=>whnf)|(refine cF (by rfl) ?_;conv=>whnf)))
  exact ⟨r6, rfl, h6.ob.mono hx04.size, (hx04.e0 hx5).own h6.ext (B := w4.heap.size) h5.blk hx04.size⟩
theorem walkDescribeConfigsRequest {w : World} {n : Nat} (hn : n < 256) {y x ev : Value} {l : List UInt8} {t : T} (hL : Laid w ev) (hy : Bytes w anyB y l) (ht : Tr w anyB x t) : Does X.P 4 #[.int .u8 n, y, x] w fun r w' => r = .bool true ∧ Ext nob w w' := by
  have hkeys := ht.keys
  obtain ⟨ay, cy, rfl, _⟩ := hy.view
  obtain ⟨sv, lv, uv, ls, rfl, _⟩ := ht.open
  refine Does.go (X := X) (l := [_, _, _]) Tryz.func4 rfl (by kernel_rfl) (by kernel_rfl) _ rfl ?_
  ((conv=>whnf);repeat(first|(refine mvT ?_;conv=>whnf)|(refine mvF ?_;conv=>whnf)|(refine cT (by rfl) ?_;conv=>whnf)|(refine cF (by rfl) ?_;conv=>whnf)))
  intro b w1 hb ho hx
  ((conv=>whnf);repeat(first|(refine mvT ?_;conv=>whnf)|(refine mvF ?_;conv=>whnf)|(refine cT (by rfl) ?_;conv=>whnf)|(refine cF (by rfl) ?_;conv=>whnf)))
  intro cq hcq
  cases cq with
  | true =>
    ((conv=>whnf);repeat(first|(refine mvT ?_;conv=>whnf)|(refine mvF ?_;conv=>whnf)|(refine cT (by rfl) ?_;conv=>whnf)|(refine cF (by rfl) ?_;conv=>whnf)))
    exact ⟨rfl, hx⟩
  | false =>
  ((conv=>whnf);repeat(first|(refine mvT ?_;conv=>whnf)|(refine mvF ?_;conv=>whnf)|(refine cT (by rfl) ?_;conv=>whnf)|(refine cF (by rfl) ?_;conv=>whnf)))
  ((conv=>whnf);repeat(first|(refine mvT ?_;conv=>whnf)|(refine mvF ?_;conv=>whnf)|(refine cT (by rfl) ?_;conv=>whnf)|(refine cF (by rfl) ?_;conv=>whnf)))
  refine ⟨_, rfl, ho.cells, ?_⟩
  ((conv=>whnf);repeat(first|(refine mvT ?_;conv=>whnf)|(refine mvF ?_;conv=>whnf)|(refine cT (by rfl) ?_;conv=>whnf)|(refine cF (by rfl) ?_;conv=>whnf)))
  refine Does.mono (zzFits1_does (ht.e0 hx)) ?_;rintro r2 w2 ⟨⟨b2, rfl⟩, hx2⟩;((conv=>whnf);repeat(first|(refine mvT ?_;conv=>whnf)|(refine mvF ?_;conv=>whnf)|(refine cT (by rfl) ?_;conv=>whnf)|(refine cF (by rfl) ?_;conv=>whnf)))
  have hx02 := hx.e0 hx2
  refine cI (by rfl) (fun h1=>?_) (fun h1=>?_)
  · ((conv=>whnf);repeat(first|(refine mvT ?_;conv=>whnf)|(refine mvF ?_;conv=>whnf)|(refine cT (by rfl) ?_;conv=>whnf)|(refine cF (by rfl) ?_;conv=>whnf)))
    exact ⟨rfl, hx02⟩
  · ((conv=>whnf);repeat(first|(refine mvT ?_;conv=>whnf)|(refine mvF ?_;conv=>whnf)|(refine cT (by rfl) ?_;conv=>whnf)|(refine cF (by rfl) ?_;conv=>whnf)))
    refine Does.mono (maxDescribeConfigsRequest w2) ?_;rintro r3 w3 ⟨rfl, hx3⟩;((conv=>whnf);repeat(first|(refine mvT ?_;conv=>whnf)|(refine mvF ?_;conv=>whnf)|(refine cT (by rfl) ?_;conv=>whnf)|(refine cF (by rfl) ?_;conv=>whnf)))
    refine Does.mono (sDescribeConfigsRequest w3) ?_;rintro r4 w4 ⟨⟨fv, rfl, hfd⟩, hx4⟩;((conv=>whnf);repeat(first|(refine mvT ?_;conv=>whnf)|(refine mvF ?_;conv=>whnf)|(refine cT (by rfl) ?_;conv=>whnf)|(refine cF (by rfl) ?_;conv=>whnf)))
    have hone := hfd
    obtain ⟨ls3, hsl3, _⟩ := hone
    obtain ⟨a3, c3, rfl, _⟩ := hsl3.view
    refine Does.mono (version_does n 4 hn (by omega) w4) ?_;rintro r5 w5 ⟨rfl, rfl⟩;((conv=>whnf);repeat(first|(refine mvT ?_;conv=>whnf)|(refine mvF ?_;conv=>whnf)|(refine cT (by rfl) ?_;conv=>whnf)|(refine cF (by rfl) ?_;conv=>whnf)))
    intro b6 w6 hb6 ho6 hx6
    ((conv=>whnf);repeat(first|(refine mvT ?_;conv=>whnf)|(refine mvF ?_;conv=>whnf)|(refine cT (by rfl) ?_;conv=>whnf)|(refine cF (by rfl) ?_;conv=>whnf)))
    refine ⟨_, _, ho6, rfl, rfl, rfl, ?_⟩
    intro w7 ho7 hx7
    have hx57 : Ext nob w5 w7 := hx6.st hx7 hb6
    ((conv=>whnf);repeat(first|(refine mvT ?_;conv=>whnf)|(refine mvF ?_;conv=>whnf)|(refine cT (by rfl) ?_;conv=>whnf)|(refine cF (by rfl) ?_;conv=>whnf)))
    have hx07 : Ext nob w w7 := ((hx02.e0 hx3).e0 hx4).e0 hx57
    have ho1 := (((ho.e0 hx2).e0 hx3).e0 hx4).e0 hx57
    generalize hvv : ((n % (4 + 1) : Nat) : Int) = v
    have hv0 : 0 ≤ v := by omega
    have hv1 : v < 32768 := by omega
    have hok : ∀ f, f ∈ dDescribeConfigsRequest → okF 9 f = true := List.all_eq_true.1 (show (dDescribeConfigsRequest).all (okF 9) = true by decide)
    have hnt : ∀ f, f ∈ dDescribeConfigsRequest → ntF 9 f = true := List.all_eq_true.1 (show (dDescribeConfigsRequest).all (ntF 9) = true by decide)
    have hrr : ∀ f, f ∈ dDescribeConfigsRequest → okR 4 9 f = true := List.all_eq_true.1 (show (dDescribeConfigsRequest).all (okR 4 9) = true by decide)
    have hww : ∀ f, f ∈ dDescribeConfigsRequest → okW 9 f = true := List.all_eq_true.1 (show (dDescribeConfigsRequest).all (okW 9) = true by decide)
    refine cI (by rfl) (fun hd=>?_) (fun hd=>?_)
    · ((conv=>whnf);repeat(first|(refine mvT ?_;conv=>whnf)|(refine mvF ?_;conv=>whnf)|(refine cT (by rfl) ?_;conv=>whnf)|(refine cF (by rfl) ?_;conv=>whnf)))
      exact ⟨rfl, hx07⟩
    · have hl1 : l.length ≤ 1000 := by have := of_decide_eq_false hd; omega
      ((conv=>whnf);repeat(first|(refine mvT ?_;conv=>whnf)|(refine mvF ?_;conv=>whnf)|(refine cT (by rfl) ?_;conv=>whnf)|(refine cF (by rfl) ?_;conv=>whnf)))
      refine ⟨_, rfl, ho7.cells, ?_⟩
      ((conv=>whnf);repeat(first|(refine mvT ?_;conv=>whnf)|(refine mvF ?_;conv=>whnf)|(refine cT (by rfl) ?_;conv=>whnf)|(refine cF (by rfl) ?_;conv=>whnf)))
      refine ⟨_, rfl, ho1.cells, ?_⟩
      ((conv=>whnf);repeat(first|(refine mvT ?_;conv=>whnf)|(refine mvF ?_;conv=>whnf)|(refine cT (by rfl) ?_;conv=>whnf)|(refine cF (by rfl) ?_;conv=>whnf)))
      have hfx : decide (v ≥ 4) = flexB 4 v := by simp [flexB]
      have hlen : (partB 9 v (flexB 4 v) dDescribeConfigsRequest t).length ≤ 90000000000000 := Nat.le_trans (partB_len 9 v _ dDescribeConfigsRequest t hnt hkeys) (Nat.le_of_ble_eq_true rfl)
      refine Does.mono (write_does 9 (v := v) ⟨_, rfl, hfd.e0 hx57⟩ (ht.e0 hx07) hok (by decide) (Nat.le_trans hlen (by decide))) ?_
      rintro r8 w8 ⟨hr8, hx8⟩
      obtain ⟨a8, c8, rfl, _⟩ := hr8.shape
      ((conv=>whnf);repeat(first|(refine mvT ?_;conv=>whnf)|(refine mvF ?_;conv=>whnf)|(refine cT (by rfl) ?_;conv=>whnf)|(refine cF (by rfl) ?_;conv=>whnf)))
      have hx08 := hx07.e0 hx8
      have hrd : rdPart 9 v (decide (v ≥ 4)) dDescribeConfigsRequest (partB 9 v (flexB 4 v) dDescribeConfigsRequest t, false) = (toPart 9 v (decide (v ≥ 4)) dDescribeConfigsRequest t, ([], false)) := by
        have := part_read 9 4 v dDescribeConfigsRequest t hnt hrr hkeys hv0 []
        rw [List.append_nil] at this
        rw [hfx]
        exact this
      have hokT := part_okT 9 v (decide (v ≥ 4)) dDescribeConfigsRequest t hnt hww hkeys hv0
      have hlaw : bDescribeConfigsRequest v (decide (v ≥ 4)) (toPart 9 v (decide (v ≥ 4)) dDescribeConfigsRequest t) = partB 9 v (flexB 4 v) dDescribeConfigsRequest t := by
        rw [← bDescribeConfigsRequest_eq hv0 hokT, hfx]
        exact partT_law 9 v _ dDescribeConfigsRequest t hnt hww
      refine Does.mono (backDescribeConfigsRequest (v := v) (hL.ext hx08 fun f => f) (hy.e0 hx08) hr8.bytesAny hv0 hv1 hrd hokT (by omega) (by rw [hlaw]; omega)) ?_
      rintro r9 w9 ⟨o9, rfl, ho9, hx9⟩
      rw [hlaw] at ho9
      obtain ⟨a9, c9, rfl, _⟩ := ho9.shape
      ((conv=>whnf);repeat(first|(refine mvT ?_;conv=>whnf)|(refine mvF ?_;conv=>whnf)|(refine cT (by rfl) ?_;conv=>whnf)|(refine cF (by rfl) ?_;conv=>whnf)))
      have hx09 := hx08.e0 hx9
      intro b10 w10 hb10 ho10 hx10
      ((conv=>whnf);repeat(first|(refine mvT ?_;conv=>whnf)|(refine mvF ?_;conv=>whnf)|(refine cT (by rfl) ?_;conv=>whnf)|(refine cF (by rfl) ?_;conv=>whnf)))
      have hob : OB w10 w9.heap.size (.slice (some ⟨b10, 0, none⟩) 0 0) [] := ⟨OwnSl.of_own (sz := 1) (n := 0) (cap := 0) ho10 (Nat.le_refl _) (by rw [maxLen_eq]; omega) rfl, fun k hk => by simp only [Value.ownBlock, Option.some.injEq] at hk; omega⟩
      refine app_bytes rfl rfl hob (hy.e0 (hx09.e0 hx10)).src rfl (by simp only [List.length_nil]; omega) hx10.size ?_
      intro v11 w11 h11 hx11 _ _
      have hx911 : Ext nob w9 w11 := hx10.trans hx11 fun k hk e => by simp only [Value.ownBlock, Option.some.injEq] at e; omega
      obtain ⟨a11, c11, rfl, _⟩ := h11.shape
      ((conv=>whnf);repeat(first|(refine mvT ?_;conv=>whnf)|(refine mvF ?_;conv=>whnf)|(refine cT (by rfl) ?_;conv=>whnf)|(refine cF (by rfl) ?_;conv=>whnf)))
      rw [List.nil_append] at h11
      refine app_bytes rfl rfl h11 ((hr8.e0 hx9).e0 hx911).bytesAny.src rfl (by omega) hx911.size ?_
      intro v12 w12 h12 hx12 _ _
      have hx912 : Ext nob w9 w12 := hx911.own hx12 (B := w9.heap.size) h11.blk (Nat.le_refl _)
      obtain ⟨a12, c12, rfl, _⟩ := h12.shape
      ((conv=>whnf);repeat(first|(refine mvT ?_;conv=>whnf)|(refine mvF ?_;conv=>whnf)|(refine cT (by rfl) ?_;conv=>whnf)|(refine cF (by rfl) ?_;conv=>whnf)))
      refine Does.mono (Same_does (ho9.e0 hx912).bytesAny h12.bytesAny) ?_
      rintro r13 w13 ⟨rfl, hx13⟩
      ((conv=>whnf);repeat(first|(refine mvT ?_;conv=>whnf)|(refine mvF ?_;conv=>whnf)|(refine cT (by rfl) ?_;conv=>whnf)|(refine cF (by rfl) ?_;conv=>whnf)))
      exact ⟨by simp [oneOr], (hx09.e0 hx912).e0 hx13⟩
end Go.Proofs.YtkhccpbmhcfkcaaGreatDoor.K
