/- DescribeLogDirsRequest is read and written as a whole request. -/
import Derived.Test.YtkhccpbmhcfkcaaGreatDoorH1
import Derived.Test.YtkhccpbmhcfkcaaGreatDoorV65
import Derived.Test.YtkhccpbmhcfkcaaGreatDoorGversion
set_option linter.unusedVariables false
set_option linter.unusedSimpArgs false
namespace Go.Proofs.YtkhccpbmhcfkcaaGreatDoor.K
open Go
set_option maxHeartbeats 1600000
set_option maxRecDepth 100000

def rDescribeLogDirsRequestTopic (w : World) (F : Nat → Prop) (cs : List Value) (t : T) : Prop := ∃ c1 m, cs = [str (atT t 0).s, c1, m] ∧ ListR true 1 (fun c x => c = [.int .i32 (IntKind.i32.wrap x.n)]) w F c1 (atT t 1) ∧ TagsR w F m t.u
theorem rDescribeLogDirsRequestTopic_ext {M F : Nat → Prop} {w w' : World} {cs : List Value} {t : T} (h : rDescribeLogDirsRequestTopic w F cs t) (x : Ext M w w') (hF : ∀ k, k < w.heap.size → F k → ¬ M k) : rDescribeLogDirsRequestTopic w' F cs t := by
  obtain ⟨c1, m, rfl, h1, hm⟩ := h
  exact ⟨c1, m, rfl, h1.ext x hF (fun _ _ h => h), hm.ext x hF⟩
theorem rDescribeLogDirsRequestTopic_mono {F F' : Nat → Prop} {w : World} {cs : List Value} {t : T} (h : rDescribeLogDirsRequestTopic w F cs t) (hF : ∀ k, k < w.heap.size → F k → F' k) : rDescribeLogDirsRequestTopic w F' cs t := by
  obtain ⟨c1, m, rfl, h1, hm⟩ := h
  exact ⟨c1, m, rfl, h1.mono hF (fun _ _ h => h), hm.mono hF⟩
theorem rDescribeLogDirsRequestTopic_len {F : Nat → Prop} {w : World} {cs : List Value} {t : T} (h : rDescribeLogDirsRequestTopic w F cs t) : cs.length = 3 := by
  obtain ⟨c1, m, rfl, h1, hm⟩ := h
  rfl
def bDescribeLogDirsRequestTopic (v : Int) (fx : Bool) (t : T) : List UInt8 := ((txA fx (atT t 0).s) ++ ((arA fx (lsT (atT t 1)).length ++ (lsT (atT t 1)).flatMap (fun x => fixed x.n 4)) ++ ([]))) ++ tgsB fx t.u
theorem bDescribeLogDirsRequestTopic_eq {v : Int} {fx : Bool} {t : T} (hv : 0 ≤ v) (hok : partOK 8 v dDescribeLogDirsRequestTopic t) : partA 8 v fx dDescribeLogDirsRequestTopic t = bDescribeLogDirsRequestTopic v fx t := by
  unfold partA partAW bDescribeLogDirsRequestTopic
  have hf := hok.1 0 _ rfl
  rw [plainW_all hv]
  rw [tx_eq hf]
  have hf := hok.1 1 _ rfl
  rw [plainW_all hv]
  rw [ar_eq (g := (fun x => fixed x.n 4)) hf fun y hy => rfl]
  rfl
def bDescribeLogDirsRequest (v : Int) (fx : Bool) (t : T) : List UInt8 := ((naA fx (atT t 0).nl (lsT (atT t 0)).length ++ (lsT (atT t 0)).flatMap (bDescribeLogDirsRequestTopic v fx)) ++ ([])) ++ tgsB fx t.u
theorem bDescribeLogDirsRequest_eq {v : Int} {fx : Bool} {t : T} (hv : 0 ≤ v) (hok : partOK 9 v dDescribeLogDirsRequest t) : partA 9 v fx dDescribeLogDirsRequest t = bDescribeLogDirsRequest v fx t := by
  unfold partA partAW bDescribeLogDirsRequest
  have hf := hok.1 0 _ rfl
  rw [plainW_all hv]
  rw [na_eq (g := (bDescribeLogDirsRequestTopic v fx)) hf (by decide) (.inr hv) fun y hy => bDescribeLogDirsRequestTopic_eq hv ((lsT_ok hf y hy).2.2 rfl)]
  rfl
theorem appDescribeLogDirsRequest {F : Nat → Prop} {w0 : World} {p B : Nat} {ty : TypeId} {v : Int} {x c0 m : Value} {l : List UInt8} {t : T} (hp : Own w0 p ty [.int .i16 v, c0, m]) (hc0 : ListR true 3 (rDescribeLogDirsRequestTopic w0 F) w0 F c0 (atT t 0)) (hm : TagsR w0 F m t.u) (hok : partOK 9 v dDescribeLogDirsRequest t)
    (hF : ∀ j, j < w0.heap.size → F j → x.ownBlock ≠ some j) (hxp : x.ownBlock ≠ some p) (hx : OB w0 B x l) (hB : B ≤ w0.heap.size) (hv : 0 ≤ v) (hl : l.length + (bDescribeLogDirsRequest v (decide (v ≥ 2)) t).length ≤ 100000000000000) :
    Does X.P 212 #[.pointer (some ⟨p, 0, none⟩), x] w0 fun r w' => Apd w0 B x l (bDescribeLogDirsRequest v (decide (v ≥ 2)) t) r w' := by
  have hpl := hp.lt
  obtain ⟨fx, hfx⟩ : ∃ fx, fx = decide (v ≥ 2) := ⟨_, rfl⟩
  rw [← hfx] at hl ⊢
  unfold bDescribeLogDirsRequest at hl
  simp only [List.length_append, List.length_nil] at hl
  obtain ⟨F0, hFR, hFx, hcs⟩ : ∃ F0 : Nat → Prop, (∀ j, F0 j → j < w0.heap.size ∧ x.ownBlock ≠ some j) ∧ (∀ j, j < w0.heap.size → F0 j → ¬ x.ownBlock = some j) ∧ (ListR true 3 (rDescribeLogDirsRequestTopic w0 F0) w0 F0 c0 (atT t 0) ∧ TagsR w0 F0 m t.u) :=
    ⟨fun j => F j ∧ j < w0.heap.size, fun j h => ⟨h.2, hF j h.2 h.1⟩, fun j _ h => hF j h.2 h.1, hc0.mono (fun k h1 h2 => ⟨h2, h1⟩) (fun _ _ h => rDescribeLogDirsRequestTopic_mono h fun k h1 h2 => ⟨h2, h1⟩), hm.mono fun k h1 h2 => ⟨h2, h1⟩⟩
  clear hm hc0 hF
  obtain ⟨hc0, hm⟩ := hcs
  obtain ⟨a0, k0, l0, rfl, hkm0, hll0, hnn0, hcl0, hrl0⟩ := hc0.view
  have hA := Apd.start hx
  obtain ⟨m0, hm0⟩ : ∃ m0 : List UInt8, m0 = [] := ⟨_, rfl⟩
  rw [← hm0] at hA
  have hl0 : m0.length = 0 := by rw [hm0]; rfl
  refine Does.go (X := X) (l := [_, _]) Tryz.func212 rfl (by kernel_rfl) (by kernel_rfl) _ rfl ?_
  ((conv=>whnf);repeat(first|(refine mvT ?_;conv=>whnf)|(refine mvF ?_;conv=>whnf)|(refine cT (by rfl) ?_;conv=>whnf)|(refine cF (by rfl) ?_;conv=>whnf)))
  refine ldS (hp.cell rfl) ?_;((conv=>whnf);repeat(first|(refine mvT ?_;conv=>whnf)|(refine mvF ?_;conv=>whnf)|(refine cT (by rfl) ?_;conv=>whnf)|(refine cF (by rfl) ?_;conv=>whnf)))
  rw [← hfx]
  (refine mvB ?_;((conv=>whnf);repeat(first|(refine mvT ?_;conv=>whnf)|(refine mvF ?_;conv=>whnf)|(refine cT (by rfl) ?_;conv=>whnf)|(refine cF (by rfl) ?_;conv=>whnf))))
  refine ldS ((hp.ext hA.ext hxp).cell rfl) ?_;((conv=>whnf);repeat(first|(refine mvT ?_;conv=>whnf)|(refine mvF ?_;conv=>whnf)|(refine cT (by rfl) ?_;conv=>whnf)|(refine cF (by rfl) ?_;conv=>whnf)))
  have hml0 := lsT_len (hok.1 0 _ rfl)
  (refine mvB ?_;((conv=>whnf);repeat(first|(refine mvT ?_;conv=>whnf)|(refine mvF ?_;conv=>whnf)|(refine cT (by rfl) ?_;conv=>whnf)|(refine cF (by rfl) ?_;conv=>whnf))))
  refine VC.cutE (fun r => [(1, r), (0, .pointer (some ⟨p, 0, none⟩)), (5, .int .i16 v), (6, .bool fx), (7, .slice a0 l0.length k0)]) (fun r w' => Apd w0 B x l (m0 ++ (naA fx (atT t 0).nl (lsT (atT t 0)).length)) r w') ?_ ?_
  · refine cI (by rfl) (fun hc=>?_) (fun hc=>?_)
    · ((conv=>whnf);repeat(first|(refine mvT ?_;conv=>whnf)|(refine mvF ?_;conv=>whnf)|(refine cT (by rfl) ?_;conv=>whnf)|(refine cF (by rfl) ?_;conv=>whnf)))
      refine Does.mono (AppendCompactNullableArrayLen_does hA.ob (Nat.le_trans hB hA.size) (by simp only [List.length_append]; omega) l0.length (by omega) _) ?_;rintro r w h;((conv=>whnf);repeat(first|(refine mvT ?_;conv=>whnf)|(refine mvF ?_;conv=>whnf)|(refine cT (by rfl) ?_;conv=>whnf)|(refine cF (by rfl) ?_;conv=>whnf)))
      rw [hll0, hnn0 rfl] at h
      replace hA := hA.tr h
      clear h
      refine ⟨_, ⟨rfl, rfl, rfl, rfl, rfl, trivial⟩, ?_⟩
      rw [hc]
      exact hA
    · ((conv=>whnf);repeat(first|(refine mvT ?_;conv=>whnf)|(refine mvF ?_;conv=>whnf)|(refine cT (by rfl) ?_;conv=>whnf)|(refine cF (by rfl) ?_;conv=>whnf)))
      refine Does.mono (AppendNullableArrayLen_does hA.ob (Nat.le_trans hB hA.size) (by simp only [List.length_append]; omega) l0.length _) ?_;rintro r w h;((conv=>whnf);repeat(first|(refine mvT ?_;conv=>whnf)|(refine mvF ?_;conv=>whnf)|(refine cT (by rfl) ?_;conv=>whnf)|(refine cF (by rfl) ?_;conv=>whnf)))
      rw [hll0, hnn0 rfl] at h
      replace hA := hA.tr h
      clear h
      refine ⟨_, ⟨rfl, rfl, rfl, rfl, rfl, trivial⟩, ?_⟩
      rw [hc]
      exact hA
  clear hA
  rintro r w hA
  ((conv=>whnf);repeat(first|(refine mvT ?_;conv=>whnf)|(refine mvF ?_;conv=>whnf)|(refine cT (by rfl) ?_;conv=>whnf)|(refine cF (by rfl) ?_;conv=>whnf)))
  generalize hm1 : m0 ++ (naA fx (atT t 0).nl (lsT (atT t 0)).length) = m1 at hA
  have hl1 : m1.length = m0.length + (naA fx (atT t 0).nl (lsT (atT t 0)).length).length := by rw [← hm1, List.length_append]
  refine VL.loop (fun s : Nat × Value => [(1, s.2), (0, .pointer (some ⟨p, 0, none⟩)), (5, .int .i16 v), (6, .bool fx), (7, .slice a0 l0.length k0), (39, .slice a0 l0.length k0), (40, .int .i64 l0.length), (41, .int .i64 s.1)])
    (fun s w' => s.1 ≤ l0.length ∧ Apd w0 B x l (m1 ++ ((lsT (atT t 0)).take s.1).flatMap (bDescribeLogDirsRequestTopic v fx)) s.2 w') (fun s => l0.length - s.1) (0, r) ⟨rfl, rfl, rfl, rfl, rfl, rfl, rfl, rfl, trivial⟩ ⟨Nat.zero_le _, by rw [List.take_zero, List.flatMap_nil, List.append_nil]; exact hA⟩ ?_
  clear hA
  rintro ⟨i1, r⟩ w ⟨hi1, hA⟩
  dsimp only at hi1 hA
  ((conv=>whnf);repeat(first|(refine mvT ?_;conv=>whnf)|(refine mvF ?_;conv=>whnf)|(refine cT (by rfl) ?_;conv=>whnf)|(refine cF (by rfl) ?_;conv=>whnf)))
  refine cI (by rfl) (fun h9=>?_) (fun h9=>?_)
  · have hil : i1 < l0.length := by have := of_decide_eq_true h9; simp only at this; omega
    have hiL1 : i1 < (lsT (atT t 0)).length := by omega
    obtain ⟨hft, hfl⟩ := flat_take (bDescribeLogDirsRequestTopic v fx) (lsT (atT t 0)) i1 hiL1
    obtain ⟨b0, o0, rfl, hF0, hb0, hce0⟩ := hcl0 i1 l0[i1] (by simp [hil])
    have hre0 := hrl0 i1 l0[i1] ((lsT (atT t 0))[i1]) (by simp [hil]) (by simp [hiL1])
    have hlo0 := lsT_ok (hok.1 0 _ rfl) ((lsT (atT t 0))[i1]) (List.getElem_mem hiL1)
    generalize hm2 : m1 ++ ((lsT (atT t 0)).take i1).flatMap (bDescribeLogDirsRequestTopic v fx) = m2 at hA
    have hl2 : m2.length = m1.length + (((lsT (atT t 0)).take i1).flatMap (bDescribeLogDirsRequestTopic v fx)).length := by rw [← hm2, List.length_append]
    obtain ⟨x1, hx1⟩ : ∃ y, y = (lsT (atT t 0))[i1] := ⟨_, rfl⟩
    rw [← hx1] at hft hfl hre0 hlo0
    obtain ⟨c1_1, m1_, hcells, hc1_1, hm1_⟩ := hre0
    rw [hcells] at hce0
    have hok1_ := hlo0.2.2 rfl
    obtain ⟨a1_1, k1_1, l1_1, rfl, hkm1_1, hll1_1, hnn1_1, hcl1_1, hrl1_1⟩ := hc1_1.view
    have hgl : (bDescribeLogDirsRequestTopic v fx x1).length = (bDescribeLogDirsRequestTopic v fx x1).length := rfl
    conv at hgl => rhs; unfold bDescribeLogDirsRequestTopic
    simp only [List.length_append, List.length_nil] at hgl
    ((conv=>whnf);repeat(first|(refine mvT ?_;conv=>whnf)|(refine mvF ?_;conv=>whnf)|(refine cT (by rfl) ?_;conv=>whnf)|(refine cF (by rfl) ?_;conv=>whnf)))
    refine ⟨b0, o0, rfl, ⟨by omega, by omega⟩, ?_⟩
    ((conv=>whnf);repeat(first|(refine mvT ?_;conv=>whnf)|(refine mvF ?_;conv=>whnf)|(refine cT (by rfl) ?_;conv=>whnf)|(refine cF (by rfl) ?_;conv=>whnf)))
    refine ⟨_, ld ((hce0.ext hA.ext (hFx _ hb0 hF0)).cell (j := 0) rfl) (by simp <;> omega), ?_⟩; ((conv=>whnf);repeat(first|(refine mvT ?_;conv=>whnf)|(refine mvF ?_;conv=>whnf)|(refine cT (by rfl) ?_;conv=>whnf)|(refine cF (by rfl) ?_;conv=>whnf)))
    have hsl := fieldOK_text (hok1_.1 0 _ rfl)
    (refine mvB ?_;((conv=>whnf);repeat(first|(refine mvT ?_;conv=>whnf)|(refine mvF ?_;conv=>whnf)|(refine cT (by rfl) ?_;conv=>whnf)|(refine cF (by rfl) ?_;conv=>whnf))))
    refine VC.cutE (fun r => [(1, r), (0, .pointer (some ⟨p, 0, none⟩)), (5, .int .i16 v), (6, .bool fx), (7, .slice (some ⟨b0, o0, none⟩) l0.length k0), (39, .slice (some ⟨b0, o0, none⟩) l0.length k0), (40, .int .i64 l0.length), (41, .int .i64 i1), (9, .pointer (some ⟨b0, o0 + i1 * 3, none⟩))]) (fun r w' => Apd w0 B x l (m2 ++ (txA fx (atT x1 0).s)) r w') ?_ ?_
    · refine cI (by rfl) (fun hc=>?_) (fun hc=>?_)
      · ((conv=>whnf);repeat(first|(refine mvT ?_;conv=>whnf)|(refine mvF ?_;conv=>whnf)|(refine cT (by rfl) ?_;conv=>whnf)|(refine cF (by rfl) ?_;conv=>whnf)))
        refine Does.mono (AppendCompactString_does hA.ob (Nat.le_trans hB hA.size) _ (by omega) (by simp only [List.length_append]; omega)) ?_;rintro r w h;((conv=>whnf);repeat(first|(refine mvT ?_;conv=>whnf)|(refine mvF ?_;conv=>whnf)|(refine cT (by rfl) ?_;conv=>whnf)|(refine cF (by rfl) ?_;conv=>whnf)))
        replace hA := hA.tr h
        clear h
        refine ⟨_, ⟨rfl, rfl, rfl, rfl, rfl, rfl, rfl, rfl, rfl, trivial⟩, ?_⟩
        rw [hc]
        exact hA
      · ((conv=>whnf);repeat(first|(refine mvT ?_;conv=>whnf)|(refine mvF ?_;conv=>whnf)|(refine cT (by rfl) ?_;conv=>whnf)|(refine cF (by rfl) ?_;conv=>whnf)))
        refine Does.mono (AppendString_does hA.ob (Nat.le_trans hB hA.size) _ (by simp only [List.length_append]; omega)) ?_;rintro r w h;((conv=>whnf);repeat(first|(refine mvT ?_;conv=>whnf)|(refine mvF ?_;conv=>whnf)|(refine cT (by rfl) ?_;conv=>whnf)|(refine cF (by rfl) ?_;conv=>whnf)))
        replace hA := hA.tr h
        clear h
        refine ⟨_, ⟨rfl, rfl, rfl, rfl, rfl, rfl, rfl, rfl, rfl, trivial⟩, ?_⟩
        rw [hc]
        exact hA
    clear hA
    rintro r w hA
    ((conv=>whnf);repeat(first|(refine mvT ?_;conv=>whnf)|(refine mvF ?_;conv=>whnf)|(refine cT (by rfl) ?_;conv=>whnf)|(refine cF (by rfl) ?_;conv=>whnf)))
    generalize hm3 : m2 ++ (txA fx (atT x1 0).s) = m3 at hA
    have hl3 : m3.length = m2.length + (txA fx (atT x1 0).s).length := by rw [← hm3, List.length_append]
    refine ⟨_, ld ((hce0.ext hA.ext (hFx _ hb0 hF0)).cell (j := 1) rfl) (by simp <;> omega), ?_⟩; ((conv=>whnf);repeat(first|(refine mvT ?_;conv=>whnf)|(refine mvF ?_;conv=>whnf)|(refine cT (by rfl) ?_;conv=>whnf)|(refine cF (by rfl) ?_;conv=>whnf)))
    have hml1_1 := lsT_len (hok1_.1 1 _ rfl)
    (refine mvB ?_;((conv=>whnf);repeat(first|(refine mvT ?_;conv=>whnf)|(refine mvF ?_;conv=>whnf)|(refine cT (by rfl) ?_;conv=>whnf)|(refine cF (by rfl) ?_;conv=>whnf))))
    refine VC.cutE (fun r => [(1, r), (0, .pointer (some ⟨p, 0, none⟩)), (5, .int .i16 v), (6, .bool fx), (7, .slice (some ⟨b0, o0, none⟩) l0.length k0), (39, .slice (some ⟨b0, o0, none⟩) l0.length k0), (40, .int .i64 l0.length), (41, .int .i64 i1), (9, .pointer (some ⟨b0, o0 + i1 * 3, none⟩)), (11, .slice a1_1 l1_1.length k1_1)]) (fun r w' => Apd w0 B x l (m3 ++ (arA fx (lsT (atT x1 1)).length)) r w') ?_ ?_
    · refine cI (by rfl) (fun hc=>?_) (fun hc=>?_)
      · ((conv=>whnf);repeat(first|(refine mvT ?_;conv=>whnf)|(refine mvF ?_;conv=>whnf)|(refine cT (by rfl) ?_;conv=>whnf)|(refine cF (by rfl) ?_;conv=>whnf)))
        refine Does.mono (AppendCompactArrayLen_does hA.ob (Nat.le_trans hB hA.size) (by simp only [List.length_append]; omega) l1_1.length (by omega)) ?_;rintro r w h;((conv=>whnf);repeat(first|(refine mvT ?_;conv=>whnf)|(refine mvF ?_;conv=>whnf)|(refine cT (by rfl) ?_;conv=>whnf)|(refine cF (by rfl) ?_;conv=>whnf)))
        rw [hll1_1] at h
        replace hA := hA.tr h
        clear h
        refine ⟨_, ⟨rfl, rfl, rfl, rfl, rfl, rfl, rfl, rfl, rfl, rfl, trivial⟩, ?_⟩
        rw [hc]
        exact hA
      · ((conv=>whnf);repeat(first|(refine mvT ?_;conv=>whnf)|(refine mvF ?_;conv=>whnf)|(refine cT (by rfl) ?_;conv=>whnf)|(refine cF (by rfl) ?_;conv=>whnf)))
        refine Does.mono (AppendArrayLen_does hA.ob (Nat.le_trans hB hA.size) (by simp only [List.length_append]; omega) l1_1.length) ?_;rintro r w h;((conv=>whnf);repeat(first|(refine mvT ?_;conv=>whnf)|(refine mvF ?_;conv=>whnf)|(refine cT (by rfl) ?_;conv=>whnf)|(refine cF (by rfl) ?_;conv=>whnf)))
        rw [hll1_1] at h
        replace hA := hA.tr h
        clear h
        refine ⟨_, ⟨rfl, rfl, rfl, rfl, rfl, rfl, rfl, rfl, rfl, rfl, trivial⟩, ?_⟩
        rw [hc]
        exact hA
    clear hA
    rintro r w hA
    ((conv=>whnf);repeat(first|(refine mvT ?_;conv=>whnf)|(refine mvF ?_;conv=>whnf)|(refine cT (by rfl) ?_;conv=>whnf)|(refine cF (by rfl) ?_;conv=>whnf)))
    generalize hm4 : m3 ++ (arA fx (lsT (atT x1 1)).length) = m4 at hA
    have hl4 : m4.length = m3.length + (arA fx (lsT (atT x1 1)).length).length := by rw [← hm4, List.length_append]
    refine VL.loop (fun s : Nat × Value => [(1, s.2), (0, .pointer (some ⟨p, 0, none⟩)), (5, .int .i16 v), (6, .bool fx), (7, .slice (some ⟨b0, o0, none⟩) l0.length k0), (39, .slice (some ⟨b0, o0, none⟩) l0.length k0), (40, .int .i64 l0.length), (41, .int .i64 i1), (9, .pointer (some ⟨b0, o0 + i1 * 3, none⟩)), (11, .slice a1_1 l1_1.length k1_1), (71, .slice a1_1 l1_1.length k1_1), (72, .int .i64 l1_1.length), (73, .int .i64 s.1)])
      (fun s w' => s.1 ≤ l1_1.length ∧ Apd w0 B x l (m4 ++ ((lsT (atT x1 1)).take s.1).flatMap (fun x => fixed x.n 4)) s.2 w') (fun s => l1_1.length - s.1) (0, r) ⟨rfl, rfl, rfl, rfl, rfl, rfl, rfl, rfl, rfl, rfl, rfl, rfl, rfl, trivial⟩ ⟨Nat.zero_le _, by rw [List.take_zero, List.flatMap_nil, List.append_nil]; exact hA⟩ ?_
    clear hA
    rintro ⟨i2, r⟩ w ⟨hi2, hA⟩
    dsimp only at hi2 hA
    ((conv=>whnf);repeat(first|(refine mvT ?_;conv=>whnf)|(refine mvF ?_;conv=>whnf)|(refine cT (by rfl) ?_;conv=>whnf)|(refine cF (by rfl) ?_;conv=>whnf)))
    refine cI (by rfl) (fun h9=>?_) (fun h9=>?_)
    · have hil : i2 < l1_1.length := by have := of_decide_eq_true h9; simp only at this; omega
      have hiL2 : i2 < (lsT (atT x1 1)).length := by omega
      obtain ⟨hft, hfl⟩ := flat_take (fun x => fixed x.n 4) (lsT (atT x1 1)) i2 hiL2
      obtain ⟨b1_1, o1_1, rfl, hF1_1, hb1_1, hce1_1⟩ := hcl1_1 i2 l1_1[i2] (by simp [hil])
      have hre1_1 := hrl1_1 i2 l1_1[i2] ((lsT (atT x1 1))[i2]) (by simp [hil]) (by simp [hiL2])
      have hlo1_1 := lsT_ok (hok1_.1 1 _ rfl) ((lsT (atT x1 1))[i2]) (List.getElem_mem hiL2)
      generalize hm5 : m4 ++ ((lsT (atT x1 1)).take i2).flatMap (fun x => fixed x.n 4) = m5 at hA
      have hl5 : m5.length = m4.length + (((lsT (atT x1 1)).take i2).flatMap (fun x => fixed x.n 4)).length := by rw [← hm5, List.length_append]
      obtain ⟨x2, hx2⟩ : ∃ y, y = (lsT (atT x1 1))[i2] := ⟨_, rfl⟩
      rw [← hx2] at hft hfl hre1_1 hlo1_1
      rw [hre1_1] at hce1_1
      ((conv=>whnf);repeat(first|(refine mvT ?_;conv=>whnf)|(refine mvF ?_;conv=>whnf)|(refine cT (by rfl) ?_;conv=>whnf)|(refine cF (by rfl) ?_;conv=>whnf)))
      refine ⟨b1_1, o1_1, rfl, ⟨by omega, by omega⟩, ?_⟩
      ((conv=>whnf);repeat(first|(refine mvT ?_;conv=>whnf)|(refine mvF ?_;conv=>whnf)|(refine cT (by rfl) ?_;conv=>whnf)|(refine cF (by rfl) ?_;conv=>whnf)))
      refine ⟨_, ld ((hce1_1.ext hA.ext (hFx _ hb1_1 hF1_1)).cell (j := 0) rfl) (by simp), ?_⟩
      ((conv=>whnf);repeat(first|(refine mvT ?_;conv=>whnf)|(refine mvF ?_;conv=>whnf)|(refine cT (by rfl) ?_;conv=>whnf)|(refine cF (by rfl) ?_;conv=>whnf)))
      refine Does.mono (AppendInt32_does hA.ob (Nat.le_trans hB hA.size) (by simp only [List.length_append]; omega) _) ?_;rintro r w h;((conv=>whnf);repeat(first|(refine mvT ?_;conv=>whnf)|(refine mvF ?_;conv=>whnf)|(refine cT (by rfl) ?_;conv=>whnf)|(refine cF (by rfl) ?_;conv=>whnf)))
      rw [fixed4_mod (wrap_i32m _)] at h
      replace hA := hA.tr h
      clear h
      generalize hm6 : m5 ++ (fixed (x2).n 4) = m6 at hA
      have hl6 : m6.length = m5.length + (fixed (x2).n 4).length := by rw [← hm6, List.length_append]
      have hfin : m5 ++ (fun x => fixed x.n 4) x2 = m6 := by simp only [← hm6, List.append_assoc, List.nil_append, List.append_nil]
      refine ⟨(i2 + 1, r), ⟨rfl, rfl, rfl, rfl, rfl, rfl, rfl, rfl, rfl, rfl, rfl, rfl, inc_eq (by rw [maxLen_eq] at hkm1_1; omega), trivial⟩, ⟨by simp only; omega, ?_⟩, by simp only; omega⟩
      rw [hft, ← List.append_assoc, hm5, hfin]
      exact hA
    have hil : i2 = l1_1.length := by have := of_decide_eq_false h9; simp only at this; omega
    ((conv=>whnf);repeat(first|(refine mvT ?_;conv=>whnf)|(refine mvF ?_;conv=>whnf)|(refine cT (by rfl) ?_;conv=>whnf)|(refine cF (by rfl) ?_;conv=>whnf)))
    rw [hil, hll1_1, List.take_length] at hA
    generalize hm5 : m4 ++ ((lsT (atT x1 1)).flatMap (fun x => fixed x.n 4)) = m5 at hA
    have hl5 : m5.length = m4.length + ((lsT (atT x1 1)).flatMap (fun x => fixed x.n 4)).length := by rw [← hm5, List.length_append]
    (refine mvB ?_;((conv=>whnf);repeat(first|(refine mvT ?_;conv=>whnf)|(refine mvF ?_;conv=>whnf)|(refine cT (by rfl) ?_;conv=>whnf)|(refine cF (by rfl) ?_;conv=>whnf))))
    refine VC.cutB (fun r => [(1, r), (0, .pointer (some ⟨p, 0, none⟩)), (5, .int .i16 v), (6, .bool fx), (7, .slice (some ⟨b0, o0, none⟩) l0.length k0), (39, .slice (some ⟨b0, o0, none⟩) l0.length k0), (40, .int .i64 l0.length), (41, .int .i64 i1), (9, .pointer (some ⟨b0, o0 + i1 * 3, none⟩))]) (fun r w' => Apd w0 B x l (m5 ++ (tgsB fx (x1).u)) r w') ?_ ?_
    · refine cI (by rfl) (fun hc=>?_) (fun hc=>?_)
      · ((conv=>whnf);repeat(first|(refine mvT ?_;conv=>whnf)|(refine mvF ?_;conv=>whnf)|(refine cT (by rfl) ?_;conv=>whnf)|(refine cF (by rfl) ?_;conv=>whnf)))
        have hul := hok1_.2.len
        refine Does.mono (Tags_Len_does (ld ((hce0.ext hA.ext (hFx _ hb0 hF0)).cell (j := 2) rfl) (by simp <;> omega)) (hm1_.ext hA.ext hFx)) ?_;rintro r w ⟨rfl, rfl⟩;((conv=>whnf);repeat(first|(refine mvT ?_;conv=>whnf)|(refine mvF ?_;conv=>whnf)|(refine cT (by rfl) ?_;conv=>whnf)|(refine cF (by rfl) ?_;conv=>whnf)))
        rw [u32_add0 (by omega)]
        refine Does.mono (AppendUvarint_does hA.ob (Nat.le_trans hB hA.size) (x1).u.length (by omega) (by simp only [List.length_append]; omega)) ?_;rintro r w h;((conv=>whnf);repeat(first|(refine mvT ?_;conv=>whnf)|(refine mvF ?_;conv=>whnf)|(refine cT (by rfl) ?_;conv=>whnf)|(refine cF (by rfl) ?_;conv=>whnf)))
        have hul2 := uvar10 (n := (x1).u.length) (by omega)
        replace hA := hA.tr h
        clear h
        refine Does.mono (AppendEach_does (ld ((hce0.ext hA.ext (hFx _ hb0 hF0)).cell (j := 2) rfl) (by simp <;> omega)) (hm1_.ext hA.ext hFx) hok1_.2 hA.ob (Nat.le_trans hB hA.size) (hA.ne (hFR _ hF0).2 (hFR _ hF0).1) (fun j _ hf => hA.ne (hFR j hf).2 (hFR j hf).1) (by simp only [List.length_append]; omega)) ?_;rintro r w h;((conv=>whnf);repeat(first|(refine mvT ?_;conv=>whnf)|(refine mvF ?_;conv=>whnf)|(refine cT (by rfl) ?_;conv=>whnf)|(refine cF (by rfl) ?_;conv=>whnf)))
        replace hA := hA.tr h
        clear h
        refine ⟨_, ⟨rfl, rfl, rfl, rfl, rfl, rfl, rfl, rfl, rfl, trivial⟩, ?_⟩
        rw [tgsB, if_pos hc, ← List.append_assoc]
        exact hA
      · ((conv=>whnf);repeat(first|(refine mvT ?_;conv=>whnf)|(refine mvF ?_;conv=>whnf)|(refine cT (by rfl) ?_;conv=>whnf)|(refine cF (by rfl) ?_;conv=>whnf)))
        refine ⟨_, ⟨rfl, rfl, rfl, rfl, rfl, rfl, rfl, rfl, rfl, trivial⟩, ?_⟩
        rw [tgsB, if_neg (by rw [hc]; decide), List.append_nil]
        exact hA
    clear hA
    rintro r w hA
    ((conv=>whnf);repeat(first|(refine mvT ?_;conv=>whnf)|(refine mvF ?_;conv=>whnf)|(refine cT (by rfl) ?_;conv=>whnf)|(refine cF (by rfl) ?_;conv=>whnf)))
    generalize hm6 : m5 ++ (tgsB fx (x1).u) = m6 at hA
    have hl6 : m6.length = m5.length + (tgsB fx (x1).u).length := by rw [← hm6, List.length_append]
    have hfin : m2 ++ (bDescribeLogDirsRequestTopic v fx) x1 = m6 := by unfold bDescribeLogDirsRequestTopic; simp only [← hm6, ← hm5, ← hm4, ← hm3, List.append_assoc, List.nil_append, List.append_nil]
    refine ⟨(i1 + 1, r), ⟨rfl, rfl, rfl, rfl, rfl, rfl, rfl, inc_eq (by rw [maxLen_eq] at hkm0; omega), trivial⟩, ⟨by simp only; omega, ?_⟩, by simp only; omega⟩
    rw [hft, ← List.append_assoc, hm2, hfin]
    exact hA
  have hil : i1 = l0.length := by have := of_decide_eq_false h9; simp only at this; omega
  ((conv=>whnf);repeat(first|(refine mvT ?_;conv=>whnf)|(refine mvF ?_;conv=>whnf)|(refine cT (by rfl) ?_;conv=>whnf)|(refine cF (by rfl) ?_;conv=>whnf)))
  rw [hil, hll0, List.take_length] at hA
  generalize hm2 : m1 ++ ((lsT (atT t 0)).flatMap (bDescribeLogDirsRequestTopic v fx)) = m2 at hA
  have hl2 : m2.length = m1.length + ((lsT (atT t 0)).flatMap (bDescribeLogDirsRequestTopic v fx)).length := by rw [← hm2, List.length_append]
  (refine mvB ?_;((conv=>whnf);repeat(first|(refine mvT ?_;conv=>whnf)|(refine mvF ?_;conv=>whnf)|(refine cT (by rfl) ?_;conv=>whnf)|(refine cF (by rfl) ?_;conv=>whnf))))
  refine VC.cutE (fun r => [(1, r), (0, .pointer (some ⟨p, 0, none⟩)), (5, .int .i16 v), (6, .bool fx)]) (fun r w' => Apd w0 B x l (m2 ++ (tgsB fx (t).u)) r w') ?_ ?_
  · refine cI (by rfl) (fun hc=>?_) (fun hc=>?_)
    · ((conv=>whnf);repeat(first|(refine mvT ?_;conv=>whnf)|(refine mvF ?_;conv=>whnf)|(refine cT (by rfl) ?_;conv=>whnf)|(refine cF (by rfl) ?_;conv=>whnf)))
      have hul := hok.2.len
      refine Does.mono (Tags_Len_does ((hp.ext hA.ext hxp).cell rfl) (hm.ext hA.ext hFx)) ?_;rintro r w ⟨rfl, rfl⟩;((conv=>whnf);repeat(first|(refine mvT ?_;conv=>whnf)|(refine mvF ?_;conv=>whnf)|(refine cT (by rfl) ?_;conv=>whnf)|(refine cF (by rfl) ?_;conv=>whnf)))
      rw [u32_add0 (by omega)]
      refine Does.mono (AppendUvarint_does hA.ob (Nat.le_trans hB hA.size) (t).u.length (by omega) (by simp only [List.length_append]; omega)) ?_;rintro r w h;((conv=>whnf);repeat(first|(refine mvT ?_;conv=>whnf)|(refine mvF ?_;conv=>whnf)|(refine cT (by rfl) ?_;conv=>whnf)|(refine cF (by rfl) ?_;conv=>whnf)))
      have hul2 := uvar10 (n := (t).u.length) (by omega)
      replace hA := hA.tr h
      clear h
      refine Does.mono (AppendEach_does ((hp.ext hA.ext hxp).cell rfl) (hm.ext hA.ext hFx) hok.2 hA.ob (Nat.le_trans hB hA.size) (hA.ne hxp hpl) (fun j _ hf => hA.ne (hFR j hf).2 (hFR j hf).1) (by simp only [List.length_append]; omega)) ?_;rintro r w h;((conv=>whnf);repeat(first|(refine mvT ?_;conv=>whnf)|(refine mvF ?_;conv=>whnf)|(refine cT (by rfl) ?_;conv=>whnf)|(refine cF (by rfl) ?_;conv=>whnf)))
      replace hA := hA.tr h
      clear h
      refine ⟨_, ⟨rfl, rfl, rfl, rfl, trivial⟩, ?_⟩
      rw [tgsB, if_pos hc, ← List.append_assoc]
      exact hA
    · ((conv=>whnf);repeat(first|(refine mvT ?_;conv=>whnf)|(refine mvF ?_;conv=>whnf)|(refine cT (by rfl) ?_;conv=>whnf)|(refine cF (by rfl) ?_;conv=>whnf)))
      refine ⟨_, ⟨rfl, rfl, rfl, rfl, trivial⟩, ?_⟩
      rw [tgsB, if_neg (by rw [hc]; decide), List.append_nil]
      exact hA
  clear hA
  rintro r w hA
  ((conv=>whnf);repeat(first|(refine mvT ?_;conv=>whnf)|(refine mvF ?_;conv=>whnf)|(refine cT (by rfl) ?_;conv=>whnf)|(refine cF (by rfl) ?_;conv=>whnf)))
  generalize hm3 : m2 ++ (tgsB fx (t).u) = m3 at hA
  have hl3 : m3.length = m2.length + (tgsB fx (t).u).length := by rw [← hm3, List.length_append]
  show Apd w0 B x l _ r w
  rw [show bDescribeLogDirsRequest v fx t = m3 by unfold bDescribeLogDirsRequest; simp only [← hm3, ← hm2, ← hm1, hm0, List.append_assoc, List.nil_append, List.append_nil]]
  exact hA
theorem qDescribeLogDirsRequestTopic {w : World} {F : Nat → Prop} {cs : List Value} {t : T} (h : QPart true 8 dDescribeLogDirsRequestTopic ⟨w, F⟩ cs t) : rDescribeLogDirsRequestTopic w F cs t := by
  obtain ⟨_, _, u_, m, rfl, rfl, hA0, hm⟩ := iP h
  clear h
  obtain ⟨cc0, _, x0, _, rfl, rfl, h0, hA1⟩ := iA hA0
  obtain ⟨n0, rfl, rfl⟩ := iF8 (by decide) h0
  obtain ⟨cc1, _, x1, _, rfl, rfl, h1, hA2⟩ := iA hA1
  obtain ⟨c1, rfl, hh1⟩ := iF11 (tg := true) (d := 7) (wf := ⟨w, F⟩) (of := 3) (sub := []) (sz := 1) (R := (fun c x => c = [.int .i32 (IntKind.i32.wrap x.n)])) rfl iE3 h1
  obtain ⟨rfl, rfl⟩ := hA2
  exact ⟨c1, m, rfl, hh1, hm⟩
theorem qDescribeLogDirsRequest {w : World} {F : Nat → Prop} {cs : List Value} {t : T} (h : QPart true 9 dDescribeLogDirsRequest ⟨w, F⟩ cs t) : ∃ c0 m, cs = [c0, m] ∧ ListR true 3 (rDescribeLogDirsRequestTopic w F) w F c0 (atT t 0) ∧ TagsR w F m t.u := by
  obtain ⟨_, _, u_, m, rfl, rfl, hA0, hm⟩ := iP h
  clear h
  obtain ⟨cc0, _, x0, _, rfl, rfl, h0, hA1⟩ := iA hA0
  obtain ⟨c0, rfl, hh0⟩ := iF11 (tg := true) (d := 8) (wf := ⟨w, F⟩) (of := 10) (sub := dDescribeLogDirsRequestTopic) (sz := 3) (R := (rDescribeLogDirsRequestTopic w F)) rfl (fun c y hc => qDescribeLogDirsRequestTopic hc) h0
  obtain ⟨rfl, rfl⟩ := hA1
  exact ⟨c0, m, rfl, hh0, hm⟩
theorem newDescribeLogDirsRequest (w : World) : Does X.P 55 #[] w fun r w' => ∃ p, r = .pointer (some ⟨p, 0, none⟩) ∧ w.heap.size ≤ p ∧ Own w' p 125 [.int .i16 0, .slice none 0 0, .map none] ∧ Ext nob w w' := by
  refine Does.go (X := X) (l := []) Tryz.func55 rfl (by kernel_rfl) (by kernel_rfl) _ rfl ?_
  ((conv=>whnf);repeat(first|(refine mvT ?_;conv=>whnf)|(refine mvF ?_;conv=>whnf)|(refine cT (by rfl) ?_;conv=>whnf)|(refine cF (by rfl) ?_;conv=>whnf)))
  intro p w1 hp ho hx
  ((conv=>whnf);repeat(first|(refine mvT ?_;conv=>whnf)|(refine mvF ?_;conv=>whnf)|(refine cT (by rfl) ?_;conv=>whnf)|(refine cF (by rfl) ?_;conv=>whnf)))
  refine Does.mono (dfDescribeLogDirsRequest (pre := []) (cur := [.int .i16 0, .slice none 0 0, .map none]) (post := []) (by simpa using ho) rfl rfl) ?_;rintro r2 w2 ⟨hd, hx2⟩;((conv=>whnf);repeat(first|(refine mvT ?_;conv=>whnf)|(refine mvF ?_;conv=>whnf)|(refine cT (by rfl) ?_;conv=>whnf)|(refine cF (by rfl) ?_;conv=>whnf)))
  exact ⟨p, rfl, hp, by simpa using hd, hx.st hx2 hp⟩
theorem maxDescribeLogDirsRequest (w : World) : Does X.P 23 #[] w fun r w' => r = .int .i64 5 ∧ Ext nob w w' := by
  have hmax : ∀ (p : Nat) (w : World), Does X.P 56 #[.pointer (some ⟨p, 0, none⟩)] w fun r w' => r = .int .i16 5 ∧ w' = w := by
    intro p w
    refine Does.go (X := X) (l := [_]) Tryz.func56 rfl (by kernel_rfl) (by kernel_rfl) _ rfl ?_
    ((conv=>whnf);repeat(first|(refine mvT ?_;conv=>whnf)|(refine mvF ?_;conv=>whnf)|(refine cT (by rfl) ?_;conv=>whnf)|(refine cF (by rfl) ?_;conv=>whnf)))
    exact ⟨rfl, rfl⟩
  refine Does.go (X := X) (l := []) Tryz.func23 rfl (by kernel_rfl) (by kernel_rfl) _ rfl ?_
  ((conv=>whnf);repeat(first|(refine mvT ?_;conv=>whnf)|(refine mvF ?_;conv=>whnf)|(refine cT (by rfl) ?_;conv=>whnf)|(refine cF (by rfl) ?_;conv=>whnf)))
  refine Does.mono (newDescribeLogDirsRequest w) ?_;rintro r1 w1 ⟨p, rfl, _, _, hx⟩;((conv=>whnf);repeat(first|(refine mvT ?_;conv=>whnf)|(refine mvF ?_;conv=>whnf)|(refine cT (by rfl) ?_;conv=>whnf)|(refine cF (by rfl) ?_;conv=>whnf)))
  refine Does.mono (hmax p w1) ?_;rintro r2 w2 ⟨rfl, rfl⟩;((conv=>whnf);repeat(first|(refine mvT ?_;conv=>whnf)|(refine mvF ?_;conv=>whnf)|(refine cT (by rfl) ?_;conv=>whnf)|(refine cF (by rfl) ?_;conv=>whnf)))
  exact ⟨rfl, hx⟩
theorem frameDescribeLogDirsRequest {G : Nat → Prop} {w : World} {v num : Int} {has : Bool} {x ev : Value} {s id : List UInt8} {t : T} (hL : Laid w ev) (hx : Bytes w G x s) (hv : 0 ≤ v) (hv2 : v < 32768) (hid : id.length ≤ 32767)
    (hrd : rdPart 9 v (decide (v ≥ 2)) dDescribeLogDirsRequest (s, false) = (t, ([], false))) (hok : partOK 9 v dDescribeLogDirsRequest t) (hs : s.length ≤ 100000000000000) (hl : (bDescribeLogDirsRequest v (decide (v ≥ 2)) t).length ≤ 90000000000000) :
    Does X.P 25 #[.agg #[.bool has, str id], .int .i32 num, .int .i64 v, x] w fun r w' => ∃ o, r = .tuple #[o, .bool true] ∧ OB w' w.heap.size o (fixed (headB 35 v num (decide (v ≥ 2)) (.mk 0 id (!has) [] []) ++ bDescribeLogDirsRequest v (decide (v ≥ 2)) t).length 4 ++ (headB 35 v num (decide (v ≥ 2)) (.mk 0 id (!has) [] []) ++ bDescribeLogDirsRequest v (decide (v ≥ 2)) t)) ∧ Ext nob w w' := by
  have hv16 : IntKind.i16.wrap v = v := by
    simp only [IntKind.wrap, IntKind.bits, IntKind.signed]
    simp
    omega
  obtain ⟨ax, cx, rfl, _⟩ := hx.view
  have hL1 := hL.lt
  refine Does.go (X := X) (l := [_, _, _, _]) Tryz.func25 rfl (by kernel_rfl) (by kernel_rfl) _ rfl ?_
  ((conv=>whnf);repeat(first|(refine mvT ?_;conv=>whnf)|(refine mvF ?_;conv=>whnf)|(refine cT (by rfl) ?_;conv=>whnf)|(refine cF (by rfl) ?_;conv=>whnf)))
  intro b w0 hb ho hx0
  have ho : Own w0 b 40 [.bool has, str id] := ho
  ((conv=>whnf);repeat(first|(refine mvT ?_;conv=>whnf)|(refine mvF ?_;conv=>whnf)|(refine cT (by rfl) ?_;conv=>whnf)|(refine cF (by rfl) ?_;conv=>whnf)))
  refine Does.mono (newDescribeLogDirsRequest w0) ?_;rintro r1 w1 ⟨p, rfl, hwp, hop, hx1⟩;((conv=>whnf);repeat(first|(refine mvT ?_;conv=>whnf)|(refine mvF ?_;conv=>whnf)|(refine cT (by rfl) ?_;conv=>whnf)|(refine cF (by rfl) ?_;conv=>whnf)))
  have hwp : w.heap.size ≤ p := Nat.le_trans hx0.size hwp
  have hpb : p ≠ b := by have := ho.lt; omega
  have hx01 := hx0.e0 hx1
  have hset : Does X.P 58 #[.pointer (some ⟨p, 0, none⟩), .int .i16 (IntKind.i16.wrap v)] w1 fun r w' => Own w' p 125 [.int .i16 v, .slice none 0 0, .map none] ∧ Ext (fun k => k = p) w1 w' := by
    rw [hv16]
    refine Does.go (X := X) (l := [_, _]) Tryz.func58 rfl (by kernel_rfl) (by kernel_rfl) _ rfl ?_
    ((conv=>whnf);repeat(first|(refine mvT ?_;conv=>whnf)|(refine mvF ?_;conv=>whnf)|(refine cT (by rfl) ?_;conv=>whnf)|(refine cF (by rfl) ?_;conv=>whnf)))
    refine ⟨_, _, hop, rfl, rfl, rfl, ?_⟩
    intro w3 ho3 hx3
    ((conv=>whnf);repeat(first|(refine mvT ?_;conv=>whnf)|(refine mvF ?_;conv=>whnf)|(refine cT (by rfl) ?_;conv=>whnf)|(refine cF (by rfl) ?_;conv=>whnf)))
    exact ⟨ho3, hx3⟩
  refine Does.mono (hset) ?_;rintro r2 w2 ⟨hop2, hx2⟩;((conv=>whnf);repeat(first|(refine mvT ?_;conv=>whnf)|(refine mvF ?_;conv=>whnf)|(refine cT (by rfl) ?_;conv=>whnf)|(refine cF (by rfl) ?_;conv=>whnf)))
  have hx02 := hx01.st hx2 hwp
  have ho2 := (ho.e0 hx1).ext hx2 (fun e => hpb e.symm)
  refine app_bytes rfl rfl (OB.nil w2 w2.heap.size) (hx.e0 hx02).src rfl (by simp only [List.length_nil]; omega) (Nat.le_refl _) ?_
  intro x3 w3 h3 hx3 _ _
  ((conv=>whnf);repeat(first|(refine mvT ?_;conv=>whnf)|(refine mvF ?_;conv=>whnf)|(refine cT (by rfl) ?_;conv=>whnf)|(refine cF (by rfl) ?_;conv=>whnf)))
  rw [List.nil_append] at h3
  have hx3 : Ext nob w2 w3 := hx3.mono fun k _ h => by simp [Value.ownBlock] at h
  have hx03 := hx02.e0 hx3
  have hpl := hop2.lt
  have hread : Does X.P 59 #[.pointer (some ⟨p, 0, none⟩), x3] w3 fun r w' => RdPost w3 p 125 v (decide (v ≥ 2)) true dDescribeLogDirsRequest ev s r w' := by
    obtain ⟨a3, c3, rfl, _⟩ := h3.shape
    refine Does.go (X := X) (l := [_, _]) Tryz.func59 rfl (by kernel_rfl) (by kernel_rfl) _ rfl ?_
    ((conv=>whnf);repeat(first|(refine mvT ?_;conv=>whnf)|(refine mvF ?_;conv=>whnf)|(refine cT (by rfl) ?_;conv=>whnf)|(refine cF (by rfl) ?_;conv=>whnf)))
    refine Does.mono (readDescribeLogDirsRequest (hL.ext hx03 fun f => f) (hop2.e0 hx3) (h3.bytes (F := fun k => k ≠ p) fun k hk => by omega) (fun k h => h) hv (by omega)) ?_;rintro r w' h;((conv=>whnf);repeat(first|(refine mvT ?_;conv=>whnf)|(refine mvF ?_;conv=>whnf)|(refine cT (by rfl) ?_;conv=>whnf)|(refine cF (by rfl) ?_;conv=>whnf)))
    exact h
  refine Does.mono hread ?_
  rintro r4 w4 ⟨hr4, hx4, hpost⟩
  rw [hrd] at hr4 hpost
  obtain rfl : r4 = .nilIface := hr4.trans (if_neg Bool.false_ne_true)
  obtain ⟨cs, hop4, hq⟩ := hpost rfl
  obtain ⟨c0, m, rfl, hc0, hm⟩ := qDescribeLogDirsRequest hq
  ((conv=>whnf);repeat(first|(refine mvT ?_;conv=>whnf)|(refine mvF ?_;conv=>whnf)|(refine cT (by rfl) ?_;conv=>whnf)|(refine cF (by rfl) ?_;conv=>whnf)))
  have hx04 := hx03.st hx4 hwp
  have ho4 := (ho2.e0 hx3).ext hx4 (fun e => hpb e.symm)
  refine ⟨_, rfl, ho4.cells, ?_⟩
  ((conv=>whnf);repeat(first|(refine mvT ?_;conv=>whnf)|(refine mvF ?_;conv=>whnf)|(refine cT (by rfl) ?_;conv=>whnf)|(refine cF (by rfl) ?_;conv=>whnf)))
  have hpl4 := hop4.lt
  have hM : ReqM w4 64 p 35 v (decide (v ≥ 2)) (bDescribeLogDirsRequest v (decide (v ≥ 2)) t) 215 213 214 212 := by
    refine ⟨fun _ => by kernel_rfl, fun _ => by kernel_rfl, fun _ => by kernel_rfl, fun _ => by kernel_rfl, fun w => ?_, fun w5 hx5 => ?_, fun w5 hx5 => ?_, fun w5 y l hx5 hoy hly => ?_⟩
    · refine Does.go (X := X) (l := [_]) Tryz.func215 rfl (by kernel_rfl) (by kernel_rfl) _ rfl ?_
      ((conv=>whnf);repeat(first|(refine mvT ?_;conv=>whnf)|(refine mvF ?_;conv=>whnf)|(refine cT (by rfl) ?_;conv=>whnf)|(refine cF (by rfl) ?_;conv=>whnf)))
      exact ⟨rfl, rfl⟩
    · refine Does.go (X := X) (l := [_]) Tryz.func213 rfl (by kernel_rfl) (by kernel_rfl) _ rfl ?_
      ((conv=>whnf);repeat(first|(refine mvT ?_;conv=>whnf)|(refine mvF ?_;conv=>whnf)|(refine cT (by rfl) ?_;conv=>whnf)|(refine cF (by rfl) ?_;conv=>whnf)))
      refine ldS ((hop4.e0 hx5).cell rfl) ?_;((conv=>whnf);repeat(first|(refine mvT ?_;conv=>whnf)|(refine mvF ?_;conv=>whnf)|(refine cT (by rfl) ?_;conv=>whnf)|(refine cF (by rfl) ?_;conv=>whnf)))
      exact ⟨rfl, rfl⟩
    · refine Does.go (X := X) (l := [_]) Tryz.func214 rfl (by kernel_rfl) (by kernel_rfl) _ rfl ?_
      ((conv=>whnf);repeat(first|(refine mvT ?_;conv=>whnf)|(refine mvF ?_;conv=>whnf)|(refine cT (by rfl) ?_;conv=>whnf)|(refine cF (by rfl) ?_;conv=>whnf)))
      refine ldS ((hop4.e0 hx5).cell rfl) ?_;((conv=>whnf);repeat(first|(refine mvT ?_;conv=>whnf)|(refine mvF ?_;conv=>whnf)|(refine cT (by rfl) ?_;conv=>whnf)|(refine cF (by rfl) ?_;conv=>whnf)))
      exact ⟨rfl, rfl⟩
    · obtain ⟨F4, hF4⟩ : ∃ F4 : Nat → Prop, F4 = fun k => k ≠ p ∧ k < w4.heap.size := ⟨_, rfl⟩
      exact appDescribeLogDirsRequest (F := fun k => k ≠ p ∧ k < w4.heap.size) (hop4.e0 hx5) (by have := (hc0.mono (F' := F4) (fun k h1 h2 => by rw [hF4]; exact ⟨h2, h1⟩) (fun _ _ h => rDescribeLogDirsRequestTopic_mono (F' := F4) h fun k h1 h2 => by rw [hF4]; exact ⟨h2, h1⟩)).ext hx5 (fun _ _ _ f => f) (fun _ _ h => rDescribeLogDirsRequestTopic_ext h hx5 fun _ _ _ f => f); rw [hF4] at this; exact this) (by have := (hm.mono (F' := F4) fun k h1 h2 => by rw [hF4]; exact ⟨h2, h1⟩).ext hx5 fun _ _ _ f => f; rw [hF4] at this; exact this) hok (fun j _ hj e => by have := hoy.blk j e; have := hj.2; omega) (fun e => by have := hoy.blk p e; omega) hoy hx5.size hv (by omega)
  refine Does.mono (framed_does (w := w4) (num := num) hM (by decide) hid (by omega)) ?_
  rintro r6 w6 ⟨h6, hx6⟩
  ((conv=>whnf);repeat(first|(refine mvT ?_;conv=>whnf)|(refine mvF ?_;conv=>whnf)|(refine cT (by rfl) ?_;conv=>whnf)|(refine cF (by rfl) ?_;conv=>whnf)))
  exact ⟨r6, rfl, h6.mono hx04.size, hx04.e0 hx6⟩
theorem walkDescribeLogDirsRequest {w : World} {n : Nat} (hn : n < 256) {has : Bool} {id : List UInt8} {num : Int} {x ev : Value} {t : T} (hL : Laid w ev) (ht : Tr w anyB x t) : Does X.P 6 #[.int .u8 n, .agg #[.bool has, str id], .int .i32 num, x] w fun r w' => r = .bool true ∧ Ext nob w w' := by
  have hkeys := ht.keys
  obtain ⟨sv, lv, uv, ls, rfl, _⟩ := ht.open
  refine Does.go (X := X) (l := [_, _, _, _]) Tryz.func6 rfl (by kernel_rfl) (by kernel_rfl) _ rfl ?_
  ((conv=>whnf);repeat(first|(refine mvT ?_;conv=>whnf)|(refine mvF ?_;conv=>whnf)|(refine cT (by rfl) ?_;conv=>whnf)|(refine cF (by rfl) ?_;conv=>whnf)))
  intro bi wi hbi hoi hxi
  have hoi : Own wi bi 40 [.bool has, str id] := hoi
  ((conv=>whnf);repeat(first|(refine mvT ?_;conv=>whnf)|(refine mvF ?_;conv=>whnf)|(refine cT (by rfl) ?_;conv=>whnf)|(refine cF (by rfl) ?_;conv=>whnf)))
  intro b w1 hb ho hx1
  have hx := hxi.e0 hx1
  have hoi := hoi.e0 hx1
  ((conv=>whnf);repeat(first|(refine mvT ?_;conv=>whnf)|(refine mvF ?_;conv=>whnf)|(refine cT (by rfl) ?_;conv=>whnf)|(refine cF (by rfl) ?_;conv=>whnf)))
  refine ⟨_, rfl, hoi.cells, ?_⟩
  ((conv=>whnf);repeat(first|(refine mvT ?_;conv=>whnf)|(refine mvF ?_;conv=>whnf)|(refine cT (by rfl) ?_;conv=>whnf)|(refine cF (by rfl) ?_;conv=>whnf)))
  refine Does.mono (zzFits4_does (w := w1)) ?_;rintro ra wa ⟨⟨ba, rfl⟩, hxa⟩;((conv=>whnf);repeat(first|(refine mvT ?_;conv=>whnf)|(refine mvF ?_;conv=>whnf)|(refine cT (by rfl) ?_;conv=>whnf)|(refine cF (by rfl) ?_;conv=>whnf)))
  have hx := hx.e0 hxa
  have hoi := hoi.e0 hxa
  have ho := ho.e0 hxa
  cases ba with
  | false =>
    ((conv=>whnf);repeat(first|(refine mvT ?_;conv=>whnf)|(refine mvF ?_;conv=>whnf)|(refine cT (by rfl) ?_;conv=>whnf)|(refine cF (by rfl) ?_;conv=>whnf)))
    exact ⟨rfl, hx⟩
  | true =>
  ((conv=>whnf);repeat(first|(refine mvT ?_;conv=>whnf)|(refine mvF ?_;conv=>whnf)|(refine cT (by rfl) ?_;conv=>whnf)|(refine cF (by rfl) ?_;conv=>whnf)))
  refine ⟨_, rfl, ho.cells, ?_⟩
  ((conv=>whnf);repeat(first|(refine mvT ?_;conv=>whnf)|(refine mvF ?_;conv=>whnf)|(refine cT (by rfl) ?_;conv=>whnf)|(refine cF (by rfl) ?_;conv=>whnf)))
  refine Does.mono (zzFits1_does (ht.e0 hx)) ?_;rintro r2 w2 ⟨⟨b2, rfl⟩, hx2⟩;((conv=>whnf);repeat(first|(refine mvT ?_;conv=>whnf)|(refine mvF ?_;conv=>whnf)|(refine cT (by rfl) ?_;conv=>whnf)|(refine cF (by rfl) ?_;conv=>whnf)))
  have hx02 := hx.e0 hx2
  refine cI (by rfl) (fun h1=>?_) (fun h1=>?_)
  · ((conv=>whnf);repeat(first|(refine mvT ?_;conv=>whnf)|(refine mvF ?_;conv=>whnf)|(refine cT (by rfl) ?_;conv=>whnf)|(refine cF (by rfl) ?_;conv=>whnf)))
    exact ⟨rfl, hx02⟩
  · ((conv=>whnf);repeat(first|(refine mvT ?_;conv=>whnf)|(refine mvF ?_;conv=>whnf)|(refine cT (by rfl) ?_;conv=>whnf)|(refine cF (by rfl) ?_;conv=>whnf)))
    refine Does.mono (maxDescribeLogDirsRequest w2) ?_;rintro r3 w3 ⟨rfl, hx3⟩;((conv=>whnf);repeat(first|(refine mvT ?_;conv=>whnf)|(refine mvF ?_;conv=>whnf)|(refine cT (by rfl) ?_;conv=>whnf)|(refine cF (by rfl) ?_;conv=>whnf)))
    refine Does.mono (sDescribeLogDirsRequest w3) ?_;rintro r4 w4 ⟨⟨fv, rfl, hfd⟩, hx4⟩;((conv=>whnf);repeat(first|(refine mvT ?_;conv=>whnf)|(refine mvF ?_;conv=>whnf)|(refine cT (by rfl) ?_;conv=>whnf)|(refine cF (by rfl) ?_;conv=>whnf)))
    have hone := hfd
    obtain ⟨ls3, hsl3, _⟩ := hone
    obtain ⟨a3, c3, rfl, _⟩ := hsl3.view
    refine Does.mono (version_does n 5 hn (by omega) w4) ?_;rintro r5 w5 ⟨rfl, rfl⟩;((conv=>whnf);repeat(first|(refine mvT ?_;conv=>whnf)|(refine mvF ?_;conv=>whnf)|(refine cT (by rfl) ?_;conv=>whnf)|(refine cF (by rfl) ?_;conv=>whnf)))
    intro b6 w6 hb6 ho6 hx6
    ((conv=>whnf);repeat(first|(refine mvT ?_;conv=>whnf)|(refine mvF ?_;conv=>whnf)|(refine cT (by rfl) ?_;conv=>whnf)|(refine cF (by rfl) ?_;conv=>whnf)))
    refine ⟨_, _, ho6, rfl, rfl, rfl, ?_⟩
    intro w7 ho7 hx7
    have hx57 : Ext nob w5 w7 := hx6.st hx7 hb6
    ((conv=>whnf);repeat(first|(refine mvT ?_;conv=>whnf)|(refine mvF ?_;conv=>whnf)|(refine cT (by rfl) ?_;conv=>whnf)|(refine cF (by rfl) ?_;conv=>whnf)))
    have hx27 : Ext nob w2 w7 := (hx3.e0 hx4).e0 hx57
    have hx07 : Ext nob w w7 := hx02.e0 hx27
    have ho1 := (ho.e0 hx2).e0 hx27
    have hoi1 := (hoi.e0 hx2).e0 hx27
    generalize hvv : ((n % (5 + 1) : Nat) : Int) = v
    have hv0 : 0 ≤ v := by omega
    have hv1 : v < 32768 := by omega
    have hok : ∀ f, f ∈ dDescribeLogDirsRequest → okF 9 f = true := List.all_eq_true.1 (show (dDescribeLogDirsRequest).all (okF 9) = true by decide)
    have hnt : ∀ f, f ∈ dDescribeLogDirsRequest → ntF 9 f = true := List.all_eq_true.1 (show (dDescribeLogDirsRequest).all (ntF 9) = true by decide)
    have hrr : ∀ f, f ∈ dDescribeLogDirsRequest → okR 2 9 f = true := List.all_eq_true.1 (show (dDescribeLogDirsRequest).all (okR 2 9) = true by decide)
    have hww : ∀ f, f ∈ dDescribeLogDirsRequest → okW 9 f = true := List.all_eq_true.1 (show (dDescribeLogDirsRequest).all (okW 9) = true by decide)
    refine ldS (hoi1.cell rfl) ?_;((conv=>whnf);repeat(first|(refine mvT ?_;conv=>whnf)|(refine mvF ?_;conv=>whnf)|(refine cT (by rfl) ?_;conv=>whnf)|(refine cF (by rfl) ?_;conv=>whnf)))
    refine cI (by rfl) (fun hd=>?_) (fun hd=>?_)
    · ((conv=>whnf);repeat(first|(refine mvT ?_;conv=>whnf)|(refine mvF ?_;conv=>whnf)|(refine cT (by rfl) ?_;conv=>whnf)|(refine cF (by rfl) ?_;conv=>whnf)))
      exact ⟨rfl, hx07⟩
    · have hl1 : id.length ≤ 32767 := by have := of_decide_eq_false hd; simp only [ByteArray.size, List.size_toArray] at this; omega
      ((conv=>whnf);repeat(first|(refine mvT ?_;conv=>whnf)|(refine mvF ?_;conv=>whnf)|(refine cT (by rfl) ?_;conv=>whnf)|(refine cF (by rfl) ?_;conv=>whnf)))
      refine ⟨_, rfl, ho7.cells, ?_⟩
      ((conv=>whnf);repeat(first|(refine mvT ?_;conv=>whnf)|(refine mvF ?_;conv=>whnf)|(refine cT (by rfl) ?_;conv=>whnf)|(refine cF (by rfl) ?_;conv=>whnf)))
      refine ⟨_, rfl, ho1.cells, ?_⟩
      ((conv=>whnf);repeat(first|(refine mvT ?_;conv=>whnf)|(refine mvF ?_;conv=>whnf)|(refine cT (by rfl) ?_;conv=>whnf)|(refine cF (by rfl) ?_;conv=>whnf)))
      have hfx : decide (v ≥ 2) = flexB 2 v := by simp [flexB]
      have hlen : (partB 9 v (flexB 2 v) dDescribeLogDirsRequest t).length ≤ 90000000000000 := Nat.le_trans (partB_len 9 v _ dDescribeLogDirsRequest t hnt hkeys) (Nat.le_of_ble_eq_true rfl)
      refine Does.mono (write_does 9 (v := v) ⟨_, rfl, hfd.e0 hx57⟩ (ht.e0 hx07) hok (by decide) (Nat.le_trans hlen (by decide))) ?_
      rintro r8 w8 ⟨hr8, hx8⟩
      obtain ⟨a8, c8, rfl, _⟩ := hr8.shape
      ((conv=>whnf);repeat(first|(refine mvT ?_;conv=>whnf)|(refine mvF ?_;conv=>whnf)|(refine cT (by rfl) ?_;conv=>whnf)|(refine cF (by rfl) ?_;conv=>whnf)))
      have hx08 := hx07.e0 hx8
      have hoi8 := hoi1.e0 hx8
      have ho78 := ho7.e0 hx8
      have hrd : rdPart 9 v (decide (v ≥ 2)) dDescribeLogDirsRequest (partB 9 v (flexB 2 v) dDescribeLogDirsRequest t, false) = (toPart 9 v (decide (v ≥ 2)) dDescribeLogDirsRequest t, ([], false)) := by
        have := part_read 9 2 v dDescribeLogDirsRequest t hnt hrr hkeys hv0 []
        rw [List.append_nil] at this
        rw [hfx]
        exact this
      have hokT := part_okT 9 v (decide (v ≥ 2)) dDescribeLogDirsRequest t hnt hww hkeys hv0
      have hlaw : bDescribeLogDirsRequest v (decide (v ≥ 2)) (toPart 9 v (decide (v ≥ 2)) dDescribeLogDirsRequest t) = partB 9 v (flexB 2 v) dDescribeLogDirsRequest t := by
        rw [← bDescribeLogDirsRequest_eq hv0 hokT, hfx]
        exact partT_law 9 v _ dDescribeLogDirsRequest t hnt hww
      refine ⟨_, rfl, hoi8.cells, ?_⟩
      ((conv=>whnf);repeat(first|(refine mvT ?_;conv=>whnf)|(refine mvF ?_;conv=>whnf)|(refine cT (by rfl) ?_;conv=>whnf)|(refine cF (by rfl) ?_;conv=>whnf)))
      refine Does.mono (frameDescribeLogDirsRequest (v := v) (num := num) (hL.ext hx08 fun f => f) hr8.bytesAny hv0 hv1 hl1 hrd hokT (by omega) (by rw [hlaw]; omega)) ?_
      rintro r9 w9 ⟨o9, rfl, ho9, hx9⟩
      rw [hlaw] at ho9
      obtain ⟨a9, c9, rfl, _⟩ := ho9.shape
      ((conv=>whnf);repeat(first|(refine mvT ?_;conv=>whnf)|(refine mvF ?_;conv=>whnf)|(refine cT (by rfl) ?_;conv=>whnf)|(refine cF (by rfl) ?_;conv=>whnf)))
      have hx09 := hx08.e0 hx9
      have hoi9 := hoi8.e0 hx9
      have ho79 := ho78.e0 hx9
      have hr89 := hr8.e0 hx9
      refine VD.draw mixed (.q 0 (.q 1 (.q 2 (.q 3 (.q 4 (.q 5 (.q 6 (.q 7 (.q 8 (.q 10 (.q 11 (.q 13 (.alt (.eff 9 [6, 10] (.eff 12 [6, 8] (.eff 14 [] (.eff 15 [] (.q 16 (.eff 17 [] (.done))))))) (.eff 12 [6, 8] (.eff 9 [6, 10] (.eff 14 [] (.eff 15 [] (.q 16 (.eff 17 [] (.done)))))))))))))))))))) (by kernel_rfl) ?_;((conv=>whnf);repeat(first|(refine mvT ?_;conv=>whnf)|(refine mvF ?_;conv=>whnf)|(refine cT (by rfl) ?_;conv=>whnf)|(refine cF (by rfl) ?_;conv=>whnf)))
      have hxd : Ext nob w9 w9.drew := ext_drew _
      have hoid := hoi9.e0 hxd
      have ho7d := ho79.e0 hxd
      refine ldS (hoid.cell rfl) ?_;((conv=>whnf);repeat(first|(refine mvT ?_;conv=>whnf)|(refine mvF ?_;conv=>whnf)|(refine cT (by rfl) ?_;conv=>whnf)|(refine cF (by rfl) ?_;conv=>whnf)))
      refine ldS (hoid.cell rfl) ?_;((conv=>whnf);repeat(first|(refine mvT ?_;conv=>whnf)|(refine mvF ?_;conv=>whnf)|(refine cT (by rfl) ?_;conv=>whnf)|(refine cF (by rfl) ?_;conv=>whnf)))
      refine ⟨_, rfl, ho7d.cells, ?_⟩
      ((conv=>whnf);repeat(first|(refine mvT ?_;conv=>whnf)|(refine mvF ?_;conv=>whnf)|(refine cT (by rfl) ?_;conv=>whnf)|(refine cF (by rfl) ?_;conv=>whnf)))
      have ag6 : ∀ {w' : World}, Ext nob w9 w' → w'.cell? ⟨bi, 0 + 0, none⟩ = some (.bool has) := fun h => (hoi9.e0 h).cell rfl
      have ag8 : ∀ {w' : World}, Ext nob w9 w' → w'.cell? ⟨bi, 0 + 1, none⟩ = some (str id) := fun h => (hoi9.e0 h).cell rfl
      have hB : ∀ {w' : World} {b c : Nat}, Cells w' b 0 (id.map bcell) → b < w'.heap.size → id.length ≤ c ∧ c ≤ maxLen → Bytes w' anyB (.slice (some ⟨b, 0, none⟩) id.length c) id := fun h1 h2 h3 => ⟨_, _, rfl, h3, by simp, .inr ⟨_, _, rfl, trivial, h2, h1⟩⟩
      constructor
      · conv => whnf
        refine ⟨by rw [maxLen_eq]; simp only [ByteArray.size, List.size_toArray]; omega, ?_⟩
        intro b10 c10 w10 hb10 hbl10 hC10 hc10 hx10
        simp only [ByteArray.size, List.size_toArray] at hC10 hc10
        have hx9 : Ext nob w9 w10 := hxd.e0 hx10
        refine ⟨by (conv => whnf); exact ⟨⟨_, ag6 hx9, rfl, rfl⟩, ⟨_, rfl, (ho79.e0 hx9).cells, rfl, rfl⟩, trivial⟩, ?_⟩
        conv => whnf
        refine Does.mono (Flexible_does (w := w10)) ?_
        rintro r12 w12 ⟨rfl, hx12⟩
        have hx9 := hx9.e0 hx12
        refine ⟨by (conv => whnf); exact ⟨⟨_, ag6 hx9, rfl, rfl⟩, ⟨_, ag8 hx9, rfl, rfl⟩, trivial⟩, ?_⟩
        conv => whnf
        refine Does.mono (Frame_does (has := has) (num := num) ((hB hC10 hbl10 hc10).e0 hx12) (hr89.e0 hx9).bytesAny hl1 (by omega)) ?_
        rintro r14 w14 ⟨h14, hx14⟩
        obtain ⟨a14, c14, rfl, _⟩ := h14.shape
        have hx9 := hx9.e0 hx14
        ((conv=>whnf);repeat(first|(refine mvT ?_;conv=>whnf)|(refine mvF ?_;conv=>whnf)|(refine cT (by rfl) ?_;conv=>whnf)|(refine cF (by rfl) ?_;conv=>whnf)))
        refine Does.mono (Same_does (ho9.e0 hx9).bytesAny h14.bytesAny) ?_
        rintro r15 w15 ⟨rfl, hx15⟩
        ((conv=>whnf);repeat(first|(refine mvT ?_;conv=>whnf)|(refine mvF ?_;conv=>whnf)|(refine cT (by rfl) ?_;conv=>whnf)|(refine cF (by rfl) ?_;conv=>whnf)))
        exact ⟨by simp [oneOr, hfx], (hx09.e0 hx9).e0 hx15⟩
      · conv => whnf
        refine Does.mono (Flexible_does (w := w9.drew)) ?_
        rintro r12 w12 ⟨rfl, hx12⟩
        have hx9 := hxd.e0 hx12
        refine ⟨by (conv => whnf); exact ⟨⟨_, ag6 hx9, rfl, rfl⟩, ⟨_, ag8 hx9, rfl, rfl⟩, trivial⟩, ?_⟩
        conv => whnf
        refine ⟨by rw [maxLen_eq]; simp only [ByteArray.size, List.size_toArray]; omega, ?_⟩
        intro b10 c10 w10 hb10 hbl10 hC10 hc10 hx10
        simp only [ByteArray.size, List.size_toArray] at hC10 hc10
        have hx9 := hx9.e0 hx10
        refine ⟨by (conv => whnf); exact ⟨⟨_, ag6 hx9, rfl, rfl⟩, ⟨_, rfl, (ho79.e0 hx9).cells, rfl, rfl⟩, trivial⟩, ?_⟩
        conv => whnf
        refine Does.mono (Frame_does (has := has) (num := num) (hB hC10 hbl10 hc10) (hr89.e0 hx9).bytesAny hl1 (by omega)) ?_
        rintro r14 w14 ⟨h14, hx14⟩
        obtain ⟨a14, c14, rfl, _⟩ := h14.shape
        have hx9 := hx9.e0 hx14
        ((conv=>whnf);repeat(first|(refine mvT ?_;conv=>whnf)|(refine mvF ?_;conv=>whnf)|(refine cT (by rfl) ?_;conv=>whnf)|(refine cF (by rfl) ?_;conv=>whnf)))
        refine Does.mono (Same_does (ho9.e0 hx9).bytesAny h14.bytesAny) ?_
        rintro r15 w15 ⟨rfl, hx15⟩
        ((conv=>whnf);repeat(first|(refine mvT ?_;conv=>whnf)|(refine mvF ?_;conv=>whnf)|(refine cT (by rfl) ?_;conv=>whnf)|(refine cF (by rfl) ?_;conv=>whnf)))
        exact ⟨by simp [oneOr, hfx], (hx09.e0 hx9).e0 hx15⟩
end Go.Proofs.YtkhccpbmhcfkcaaGreatDoor.K
