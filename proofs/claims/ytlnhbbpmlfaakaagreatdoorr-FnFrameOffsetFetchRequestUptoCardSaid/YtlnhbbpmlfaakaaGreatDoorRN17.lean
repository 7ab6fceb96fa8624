/- OffsetFetchRequest is read and written as a whole request. -/
import Derived.Test.YtlnhbbpmlfaakaaGreatDoorRH1
import Derived.Test.YtlnhbbpmlfaakaaGreatDoorRV17
import Derived.Test.YtlnhbbpmlfaakaaGreatDoorRGversion
set_option linter.unusedVariables false
set_option linter.unusedSimpArgs false
namespace Go.Proofs.YtlnhbbpmlfaakaaGreatDoorR.K
open Go
set_option maxHeartbeats 1600000
set_option maxRecDepth 100000

def rOffsetFetchRequestTopic (w : World) (F : Nat → Prop) (cs : List Value) (t : T) : Prop := ∃ c1 m, cs = [str (atT t 0).s, c1, m] ∧ ListR true 1 (fun c x => c = [.int .i32 (IntKind.i32.wrap x.n)]) w F c1 (atT t 1) ∧ TagsR w F m t.u
theorem rOffsetFetchRequestTopic_ext {M F : Nat → Prop} {w w' : World} {cs : List Value} {t : T} (h : rOffsetFetchRequestTopic w F cs t) (x : Ext M w w') (hF : ∀ k, k < w.heap.size → F k → ¬ M k) : rOffsetFetchRequestTopic w' F cs t := by
  obtain ⟨c1, m, rfl, h1, hm⟩ := h
  exact ⟨c1, m, rfl, h1.ext x hF (fun _ _ h => h), hm.ext x hF⟩
theorem rOffsetFetchRequestTopic_mono {F F' : Nat → Prop} {w : World} {cs : List Value} {t : T} (h : rOffsetFetchRequestTopic w F cs t) (hF : ∀ k, k < w.heap.size → F k → F' k) : rOffsetFetchRequestTopic w F' cs t := by
  obtain ⟨c1, m, rfl, h1, hm⟩ := h
  exact ⟨c1, m, rfl, h1.mono hF (fun _ _ h => h), hm.mono hF⟩
theorem rOffsetFetchRequestTopic_len {F : Nat → Prop} {w : World} {cs : List Value} {t : T} (h : rOffsetFetchRequestTopic w F cs t) : cs.length = 3 := by
  obtain ⟨c1, m, rfl, h1, hm⟩ := h
  rfl
def rOffsetFetchRequestGroupTopic (w : World) (F : Nat → Prop) (cs : List Value) (t : T) : Prop := ∃ u1_0 u1_1 u1_2 u1_3 u1_4 u1_5 u1_6 u1_7 u1_8 u1_9 u1_10 u1_11 u1_12 u1_13 u1_14 u1_15 c2 m, cs = [str (atT t 0).s, bcell u1_0, bcell u1_1, bcell u1_2, bcell u1_3, bcell u1_4, bcell u1_5, bcell u1_6, bcell u1_7, bcell u1_8, bcell u1_9, bcell u1_10, bcell u1_11, bcell u1_12, bcell u1_13, bcell u1_14, bcell u1_15, c2, m] ∧ uuidB (atT t 1).s = [u1_0, u1_1, u1_2, u1_3, u1_4, u1_5, u1_6, u1_7, u1_8, u1_9, u1_10, u1_11, u1_12, u1_13, u1_14, u1_15] ∧ ListR true 1 (fun c x => c = [.int .i32 (IntKind.i32.wrap x.n)]) w F c2 (atT t 2) ∧ TagsR w F m t.u
theorem rOffsetFetchRequestGroupTopic_ext {M F : Nat → Prop} {w w' : World} {cs : List Value} {t : T} (h : rOffsetFetchRequestGroupTopic w F cs t) (x : Ext M w w') (hF : ∀ k, k < w.heap.size → F k → ¬ M k) : rOffsetFetchRequestGroupTopic w' F cs t := by
  obtain ⟨u1_0, u1_1, u1_2, u1_3, u1_4, u1_5, u1_6, u1_7, u1_8, u1_9, u1_10, u1_11, u1_12, u1_13, u1_14, u1_15, c2, m, rfl, h1, h2, hm⟩ := h
  exact ⟨u1_0, u1_1, u1_2, u1_3, u1_4, u1_5, u1_6, u1_7, u1_8, u1_9, u1_10, u1_11, u1_12, u1_13, u1_14, u1_15, c2, m, rfl, h1, h2.ext x hF (fun _ _ h => h), hm.ext x hF⟩
theorem rOffsetFetchRequestGroupTopic_mono {F F' : Nat → Prop} {w : World} {cs : List Value} {t : T} (h : rOffsetFetchRequestGroupTopic w F cs t) (hF : ∀ k, k < w.heap.size → F k → F' k) : rOffsetFetchRequestGroupTopic w F' cs t := by
  obtain ⟨u1_0, u1_1, u1_2, u1_3, u1_4, u1_5, u1_6, u1_7, u1_8, u1_9, u1_10, u1_11, u1_12, u1_13, u1_14, u1_15, c2, m, rfl, h1, h2, hm⟩ := h
  exact ⟨u1_0, u1_1, u1_2, u1_3, u1_4, u1_5, u1_6, u1_7, u1_8, u1_9, u1_10, u1_11, u1_12, u1_13, u1_14, u1_15, c2, m, rfl, h1, h2.mono hF (fun _ _ h => h), hm.mono hF⟩
theorem rOffsetFetchRequestGroupTopic_len {F : Nat → Prop} {w : World} {cs : List Value} {t : T} (h : rOffsetFetchRequestGroupTopic w F cs t) : cs.length = 19 := by
  obtain ⟨u1_0, u1_1, u1_2, u1_3, u1_4, u1_5, u1_6, u1_7, u1_8, u1_9, u1_10, u1_11, u1_12, u1_13, u1_14, u1_15, c2, m, rfl, h1, h2, hm⟩ := h
  rfl
def rOffsetFetchRequestGroup (w : World) (F : Nat → Prop) (cs : List Value) (t : T) : Prop := ∃ c1 c3 m, cs = [str (atT t 0).s, c1, .int .i32 (IntKind.i32.wrap (atT t 2).n), c3, m] ∧ NTextR w F c1 (atT t 1) ∧ ListR true 19 (rOffsetFetchRequestGroupTopic w F) w F c3 (atT t 3) ∧ TagsR w F m t.u
theorem rOffsetFetchRequestGroup_ext {M F : Nat → Prop} {w w' : World} {cs : List Value} {t : T} (h : rOffsetFetchRequestGroup w F cs t) (x : Ext M w w') (hF : ∀ k, k < w.heap.size → F k → ¬ M k) : rOffsetFetchRequestGroup w' F cs t := by
  obtain ⟨c1, c3, m, rfl, h1, h3, hm⟩ := h
  exact ⟨c1, c3, m, rfl, h1.ext x hF, h3.ext x hF (fun _ _ h => rOffsetFetchRequestGroupTopic_ext h x hF), hm.ext x hF⟩
theorem rOffsetFetchRequestGroup_mono {F F' : Nat → Prop} {w : World} {cs : List Value} {t : T} (h : rOffsetFetchRequestGroup w F cs t) (hF : ∀ k, k < w.heap.size → F k → F' k) : rOffsetFetchRequestGroup w F' cs t := by
  obtain ⟨c1, c3, m, rfl, h1, h3, hm⟩ := h
  exact ⟨c1, c3, m, rfl, h1.mono hF, h3.mono hF (fun _ _ h => rOffsetFetchRequestGroupTopic_mono h hF), hm.mono hF⟩
theorem rOffsetFetchRequestGroup_len {F : Nat → Prop} {w : World} {cs : List Value} {t : T} (h : rOffsetFetchRequestGroup w F cs t) : cs.length = 5 := by
  obtain ⟨c1, c3, m, rfl, h1, h3, hm⟩ := h
  rfl
def bOffsetFetchRequestTopic (v : Int) (fx : Bool) (t : T) : List UInt8 := ((txA fx (atT t 0).s) ++ ((arA fx (lsT (atT t 1)).length ++ (lsT (atT t 1)).flatMap (fun x => fixed x.n 4)) ++ ([]))) ++ tgsB fx t.u
theorem bOffsetFetchRequestTopic_eq {v : Int} {fx : Bool} {t : T} (hv : 0 ≤ v) (hok : partOK 8 v dOffsetFetchRequestTopic t) : partA 8 v fx dOffsetFetchRequestTopic t = bOffsetFetchRequestTopic v fx t := by
  unfold partA partAW bOffsetFetchRequestTopic
  have hf := hok.1 0 _ rfl
  rw [plainW_all hv]
  rw [tx_eq hf]
  have hf := hok.1 1 _ rfl
  rw [plainW_all hv]
  rw [ar_eq (g := (fun x => fixed x.n 4)) hf fun y hy => rfl]
  rfl
def bOffsetFetchRequestGroupTopic (v : Int) (fx : Bool) (t : T) : List UInt8 := (((if (decide (8 ≤ v) && (decide ((9 : Int) < 0) || decide (v ≤ 9))) = true then txA fx (atT t 0).s else [])) ++ (((if (decide (10 ≤ v) && (decide ((-1 : Int) < 0) || decide (v ≤ (-1)))) = true then uuidB (atT t 1).s else [])) ++ ((arA fx (lsT (atT t 2)).length ++ (lsT (atT t 2)).flatMap (fun x => fixed x.n 4)) ++ ([])))) ++ tgsB fx t.u
theorem bOffsetFetchRequestGroupTopic_eq {v : Int} {fx : Bool} {t : T} (hv : 0 ≤ v) (hok : partOK 7 v dOffsetFetchRequestGroupTopic t) : partA 7 v fx dOffsetFetchRequestGroupTopic t = bOffsetFetchRequestGroupTopic v fx t := by
  unfold partA partAW bOffsetFetchRequestGroupTopic
  have hf := hok.1 0 _ rfl
  rw [plainW_ver]
  rw [tx_eq hf]
  have hf := hok.1 1 _ rfl
  rw [plainW_ver]
  have hf := hok.1 2 _ rfl
  rw [plainW_all hv]
  rw [ar_eq (g := (fun x => fixed x.n 4)) hf fun y hy => rfl]
  rfl
def bOffsetFetchRequestGroup (v : Int) (fx : Bool) (t : T) : List UInt8 := ((txA fx (atT t 0).s) ++ (((if (decide (9 ≤ v) && (decide ((-1 : Int) < 0) || decide (v ≤ (-1)))) = true then ntA fx (atT t 1).nl (atT t 1).s else [])) ++ (((if (decide (9 ≤ v) && (decide ((-1 : Int) < 0) || decide (v ≤ (-1)))) = true then fixed (atT t 2).n 4 else [])) ++ ((naA fx (atT t 3).nl (lsT (atT t 3)).length ++ (lsT (atT t 3)).flatMap (bOffsetFetchRequestGroupTopic v fx)) ++ ([]))))) ++ tgsB fx t.u
theorem bOffsetFetchRequestGroup_eq {v : Int} {fx : Bool} {t : T} (hv : 0 ≤ v) (hok : partOK 8 v dOffsetFetchRequestGroup t) : partA 8 v fx dOffsetFetchRequestGroup t = bOffsetFetchRequestGroup v fx t := by
  unfold partA partAW bOffsetFetchRequestGroup
  have hf := hok.1 0 _ rfl
  rw [plainW_all hv]
  rw [tx_eq hf]
  have hf := hok.1 1 _ rfl
  rw [plainW_ver]
  rw [ifT (c := (decide (9 ≤ v) && (decide ((-1 : Int) < 0) || decide (v ≤ (-1))))) fun hh => nt_eq hf (by decide) (.inl hh)]
  have hf := hok.1 2 _ rfl
  rw [plainW_ver]
  have hf := hok.1 3 _ rfl
  rw [plainW_all hv]
  rw [n2_eq (g := (bOffsetFetchRequestGroupTopic v fx)) hf (has_alw hv) fun y hy => bOffsetFetchRequestGroupTopic_eq hv ((lsT_ok hf y hy).2.2 rfl)]
  rfl
def bOffsetFetchRequest (v : Int) (fx : Bool) (t : T) : List UInt8 := (((if (decide (0 ≤ v) && (decide ((7 : Int) < 0) || decide (v ≤ 7))) = true then txA fx (atT t 0).s else [])) ++ (((if (decide (0 ≤ v) && (decide ((7 : Int) < 0) || decide (v ≤ 7))) = true then naA fx (atT t 1).nl (lsT (atT t 1)).length ++ (lsT (atT t 1)).flatMap (bOffsetFetchRequestTopic v fx) else [])) ++ (((if (decide (8 ≤ v) && (decide ((-1 : Int) < 0) || decide (v ≤ (-1)))) = true then arA fx (lsT (atT t 2)).length ++ (lsT (atT t 2)).flatMap (bOffsetFetchRequestGroup v fx) else [])) ++ (((if (decide (7 ≤ v) && (decide ((-1 : Int) < 0) || decide (v ≤ (-1)))) = true then boA (atT t 3).n else [])) ++ ([]))))) ++ tgsB fx t.u
theorem bOffsetFetchRequest_eq {v : Int} {fx : Bool} {t : T} (hv : 0 ≤ v) (hok : partOK 9 v dOffsetFetchRequest t) : partA 9 v fx dOffsetFetchRequest t = bOffsetFetchRequest v fx t := by
  unfold partA partAW bOffsetFetchRequest
  have hf := hok.1 0 _ rfl
  rw [plainW_ver]
  rw [tx_eq hf]
  have hf := hok.1 1 _ rfl
  rw [plainW_ver]
  rw [ifT (c := (decide (0 ≤ v) && (decide ((7 : Int) < 0) || decide (v ≤ 7)))) fun hh => na_eq (g := (bOffsetFetchRequestTopic v fx)) hf (by decide) (.inl hh) fun y hy => bOffsetFetchRequestTopic_eq hv ((lsT_ok hf y hy).2.2 rfl)]
  have hf := hok.1 2 _ rfl
  rw [plainW_ver]
  rw [ar_eq (g := (bOffsetFetchRequestGroup v fx)) hf fun y hy => bOffsetFetchRequestGroup_eq hv ((lsT_ok hf y hy).2.2 rfl)]
  have hf := hok.1 3 _ rfl
  rw [plainW_ver]
  rfl
theorem appOffsetFetchRequest {F : Nat → Prop} {w0 : World} {p B : Nat} {ty : TypeId} {v : Int} {x c1 c2 m : Value} {l : List UInt8} {t : T} (hp : Own w0 p ty [.int .i16 v, str (atT t 0).s, c1, c2, .bool (decide ((atT t 3).n % 2 = 1)), m]) (hc1 : ListR true 3 (rOffsetFetchRequestTopic w0 F) w0 F c1 (atT t 1)) (hc2 : ListR true 5 (rOffsetFetchRequestGroup w0 F) w0 F c2 (atT t 2)) (hm : TagsR w0 F m t.u) (hok : partOK 9 v dOffsetFetchRequest t)
    (hF : ∀ j, j < w0.heap.size → F j → x.ownBlock ≠ some j) (hxp : x.ownBlock ≠ some p) (hx : OB w0 B x l) (hB : B ≤ w0.heap.size) (hv : 0 ≤ v) (hl : l.length + (bOffsetFetchRequest v (decide (v ≥ 6)) t).length ≤ 100000000000000) :
    Does X.P 94 #[.pointer (some ⟨p, 0, none⟩), x] w0 fun r w' => Apd w0 B x l (bOffsetFetchRequest v (decide (v ≥ 6)) t) r w' := by
  have hpl := hp.lt
  obtain ⟨fx, hfx⟩ : ∃ fx, fx = decide (v ≥ 6) := ⟨_, rfl⟩
  rw [← hfx] at hl ⊢
  unfold bOffsetFetchRequest at hl
  simp only [List.length_append, List.length_nil] at hl
  obtain ⟨F0, hFR, hFx, hcs⟩ : ∃ F0 : Nat → Prop, (∀ j, F0 j → j < w0.heap.size ∧ x.ownBlock ≠ some j) ∧ (∀ j, j < w0.heap.size → F0 j → ¬ x.ownBlock = some j) ∧ (ListR true 3 (rOffsetFetchRequestTopic w0 F0) w0 F0 c1 (atT t 1) ∧ ListR true 5 (rOffsetFetchRequestGroup w0 F0) w0 F0 c2 (atT t 2) ∧ TagsR w0 F0 m t.u) :=
    ⟨fun j => F j ∧ j < w0.heap.size, fun j h => ⟨h.2, hF j h.2 h.1⟩, fun j _ h => hF j h.2 h.1, hc1.mono (fun k h1 h2 => ⟨h2, h1⟩) (fun _ _ h => rOffsetFetchRequestTopic_mono h fun k h1 h2 => ⟨h2, h1⟩), hc2.mono (fun k h1 h2 => ⟨h2, h1⟩) (fun _ _ h => rOffsetFetchRequestGroup_mono h fun k h1 h2 => ⟨h2, h1⟩), hm.mono fun k h1 h2 => ⟨h2, h1⟩⟩
  clear hm hc1 hc2 hF
  obtain ⟨hc1, hc2, hm⟩ := hcs
  obtain ⟨a1, k1, l1, rfl, hkm1, hll1, hnn1, hcl1, hrl1⟩ := hc1.view
  obtain ⟨a2, k2, l2, rfl, hkm2, hll2, hnn2, hcl2, hrl2⟩ := hc2.view
  have hA := Apd.start hx
  obtain ⟨m0, hm0⟩ : ∃ m0 : List UInt8, m0 = [] := ⟨_, rfl⟩
  rw [← hm0] at hA
  have hl0 : m0.length = 0 := by rw [hm0]; rfl
  refine Does.go (X := X) (l := [_, _]) Tryz.func94 rfl (by kernel_rfl) (by kernel_rfl) _ rfl ?_
  ((conv=>whnf);repeat(first|(refine mvT ?_;conv=>whnf)|(refine mvF ?_;conv=>whnf)|(refine cT (by rfl) ?_;conv=>whnf)|(refine cF (by rfl) ?_;conv=>whnf)))
  refine ldS (hp.cell rfl) ?_;((conv=>whnf);repeat(first|(refine mvT ?_;conv=>whnf)|(refine mvF ?_;conv=>whnf)|(refine cT (by rfl) ?_;conv=>whnf)|(refine cF (by rfl) ?_;conv=>whnf)))
  rw [← hfx]
  (refine mvB ?_;((conv=>whnf);repeat(first|(refine mvT ?_;conv=>whnf)|(refine mvF ?_;conv=>whnf)|(refine cT (by rfl) ?_;conv=>whnf)|(refine cF (by rfl) ?_;conv=>whnf))))
  intro cq hcq
  obtain rfl : cq = true := by rw [← hcq]; exact decide_eq_true hv
  ((conv=>whnf);repeat(first|(refine mvT ?_;conv=>whnf)|(refine mvF ?_;conv=>whnf)|(refine cT (by rfl) ?_;conv=>whnf)|(refine cF (by rfl) ?_;conv=>whnf)))
  refine VC.cutE (fun r => [(1, r), (0, .pointer (some ⟨p, 0, none⟩)), (5, .int .i16 v), (6, .bool fx)]) (fun r w' => Apd w0 B x l (m0 ++ ((if (decide (0 ≤ v) && (decide ((7 : Int) < 0) || decide (v ≤ 7))) = true then txA fx (atT t 0).s else []))) r w') ?_ ?_
  · refine cI (by rfl) (fun hcv=>?_) (fun hcv=>?_)
    · ((conv=>whnf);repeat(first|(refine mvT ?_;conv=>whnf)|(refine mvF ?_;conv=>whnf)|(refine cT (by rfl) ?_;conv=>whnf)|(refine cF (by rfl) ?_;conv=>whnf)))
      refine ldS ((hp.ext hA.ext hxp).cell rfl) ?_;((conv=>whnf);repeat(first|(refine mvT ?_;conv=>whnf)|(refine mvF ?_;conv=>whnf)|(refine cT (by rfl) ?_;conv=>whnf)|(refine cF (by rfl) ?_;conv=>whnf)))
      have hsl := fieldOK_text (hok.1 0 _ rfl)
      (refine mvB ?_;((conv=>whnf);repeat(first|(refine mvT ?_;conv=>whnf)|(refine mvF ?_;conv=>whnf)|(refine cT (by rfl) ?_;conv=>whnf)|(refine cF (by rfl) ?_;conv=>whnf))))
      refine cI (by rfl) (fun hc=>?_) (fun hc=>?_)
      · ((conv=>whnf);repeat(first|(refine mvT ?_;conv=>whnf)|(refine mvF ?_;conv=>whnf)|(refine cT (by rfl) ?_;conv=>whnf)|(refine cF (by rfl) ?_;conv=>whnf)))
        refine Does.mono (AppendCompactString_does hA.ob (Nat.le_trans hB hA.size) _ (by omega) (by simp only [List.length_append]; omega)) ?_;rintro r w h;((conv=>whnf);repeat(first|(refine mvT ?_;conv=>whnf)|(refine mvF ?_;conv=>whnf)|(refine cT (by rfl) ?_;conv=>whnf)|(refine cF (by rfl) ?_;conv=>whnf)))
        replace hA := hA.tr h
        clear h
        refine ⟨_, ⟨rfl, rfl, rfl, rfl, trivial⟩, ?_⟩
        rw [if_pos (by simp only [ge_iff_le, decide_eq_true_eq] at hcv; simp; omega), hc]
        exact hA
      · ((conv=>whnf);repeat(first|(refine mvT ?_;conv=>whnf)|(refine mvF ?_;conv=>whnf)|(refine cT (by rfl) ?_;conv=>whnf)|(refine cF (by rfl) ?_;conv=>whnf)))
        refine Does.mono (AppendString_does hA.ob (Nat.le_trans hB hA.size) _ (by simp only [List.length_append]; omega)) ?_;rintro r w h;((conv=>whnf);repeat(first|(refine mvT ?_;conv=>whnf)|(refine mvF ?_;conv=>whnf)|(refine cT (by rfl) ?_;conv=>whnf)|(refine cF (by rfl) ?_;conv=>whnf)))
        replace hA := hA.tr h
        clear h
        refine ⟨_, ⟨rfl, rfl, rfl, rfl, trivial⟩, ?_⟩
        rw [if_pos (by simp only [ge_iff_le, decide_eq_true_eq] at hcv; simp; omega), hc]
        exact hA
    · ((conv=>whnf);repeat(first|(refine mvT ?_;conv=>whnf)|(refine mvF ?_;conv=>whnf)|(refine cT (by rfl) ?_;conv=>whnf)|(refine cF (by rfl) ?_;conv=>whnf)))
      refine ⟨_, ⟨rfl, rfl, rfl, rfl, trivial⟩, ?_⟩
      rw [if_neg (by simp only [ge_iff_le, decide_eq_false_iff_not] at hcv; simp; omega), List.append_nil]
      exact hA
  clear hA
  rintro r w hA
  ((conv=>whnf);repeat(first|(refine mvT ?_;conv=>whnf)|(refine mvF ?_;conv=>whnf)|(refine cT (by rfl) ?_;conv=>whnf)|(refine cF (by rfl) ?_;conv=>whnf)))
  generalize hm1 : m0 ++ ((if (decide (0 ≤ v) && (decide ((7 : Int) < 0) || decide (v ≤ 7))) = true then txA fx (atT t 0).s else [])) = m1 at hA
  have hl1 : m1.length = m0.length + ((if (decide (0 ≤ v) && (decide ((7 : Int) < 0) || decide (v ≤ 7))) = true then txA fx (atT t 0).s else [])).length := by rw [← hm1, List.length_append]
  intro cq hcq
  obtain rfl : cq = true := by rw [← hcq]; exact decide_eq_true hv
  ((conv=>whnf);repeat(first|(refine mvT ?_;conv=>whnf)|(refine mvF ?_;conv=>whnf)|(refine cT (by rfl) ?_;conv=>whnf)|(refine cF (by rfl) ?_;conv=>whnf)))
  refine VC.cutE (fun r => [(1, r), (0, .pointer (some ⟨p, 0, none⟩)), (5, .int .i16 v), (6, .bool fx)]) (fun r w' => Apd w0 B x l (m1 ++ ((if (decide (0 ≤ v) && (decide ((7 : Int) < 0) || decide (v ≤ 7))) = true then naA fx (atT t 1).nl (lsT (atT t 1)).length ++ (lsT (atT t 1)).flatMap (bOffsetFetchRequestTopic v fx) else []))) r w') ?_ ?_
  · refine cI (by rfl) (fun hcv=>?_) (fun hcv=>?_)
    · ((conv=>whnf);repeat(first|(refine mvT ?_;conv=>whnf)|(refine mvF ?_;conv=>whnf)|(refine cT (by rfl) ?_;conv=>whnf)|(refine cF (by rfl) ?_;conv=>whnf)))
      refine ldS ((hp.ext hA.ext hxp).cell rfl) ?_;((conv=>whnf);repeat(first|(refine mvT ?_;conv=>whnf)|(refine mvF ?_;conv=>whnf)|(refine cT (by rfl) ?_;conv=>whnf)|(refine cF (by rfl) ?_;conv=>whnf)))
      have hvl1 : ((if (decide (0 ≤ v) && (decide ((7 : Int) < 0) || decide (v ≤ 7))) = true then naA fx (atT t 1).nl (lsT (atT t 1)).length ++ (lsT (atT t 1)).flatMap (bOffsetFetchRequestTopic v fx) else [])).length = (naA fx (atT t 1).nl (lsT (atT t 1)).length ++ (lsT (atT t 1)).flatMap (bOffsetFetchRequestTopic v fx)).length := by rw [if_pos (by simp only [ge_iff_le, decide_eq_true_eq] at hcv; simp; omega)]
      simp only [List.length_append] at hvl1
      have hml1 := lsT_len (hok.1 1 _ rfl)
      refine VC.cutE (fun r => [(1, r), (0, .pointer (some ⟨p, 0, none⟩)), (5, .int .i16 v), (6, .bool fx), (8, .slice a1 l1.length k1)]) (fun r w' => Apd w0 B x l (m1 ++ (naA fx (atT t 1).nl (lsT (atT t 1)).length)) r w') ?_ ?_
      · refine cI (by rfl) (fun hn2=>?_) (fun hn2=>?_)
        · ((conv=>whnf);repeat(first|(refine mvT ?_;conv=>whnf)|(refine mvF ?_;conv=>whnf)|(refine cT (by rfl) ?_;conv=>whnf)|(refine cF (by rfl) ?_;conv=>whnf)))
          (refine mvB ?_;((conv=>whnf);repeat(first|(refine mvT ?_;conv=>whnf)|(refine mvF ?_;conv=>whnf)|(refine cT (by rfl) ?_;conv=>whnf)|(refine cF (by rfl) ?_;conv=>whnf))))
          refine cI (by rfl) (fun hc=>?_) (fun hc=>?_)
          · ((conv=>whnf);repeat(first|(refine mvT ?_;conv=>whnf)|(refine mvF ?_;conv=>whnf)|(refine cT (by rfl) ?_;conv=>whnf)|(refine cF (by rfl) ?_;conv=>whnf)))
            refine Does.mono (AppendCompactNullableArrayLen_does hA.ob (Nat.le_trans hB hA.size) (by simp only [List.length_append]; omega) l1.length (by omega) _) ?_;rintro r w h;((conv=>whnf);repeat(first|(refine mvT ?_;conv=>whnf)|(refine mvF ?_;conv=>whnf)|(refine cT (by rfl) ?_;conv=>whnf)|(refine cF (by rfl) ?_;conv=>whnf)))
            rw [hll1, hnn1 rfl] at h
            replace hA := hA.tr h
            clear h
            refine ⟨_, ⟨rfl, rfl, rfl, rfl, rfl, trivial⟩, ?_⟩
            rw [hc]
            exact hA
          · ((conv=>whnf);repeat(first|(refine mvT ?_;conv=>whnf)|(refine mvF ?_;conv=>whnf)|(refine cT (by rfl) ?_;conv=>whnf)|(refine cF (by rfl) ?_;conv=>whnf)))
            refine Does.mono (AppendNullableArrayLen_does hA.ob (Nat.le_trans hB hA.size) (by simp only [List.length_append]; omega) l1.length _) ?_;rintro r w h;((conv=>whnf);repeat(first|(refine mvT ?_;conv=>whnf)|(refine mvF ?_;conv=>whnf)|(refine cT (by rfl) ?_;conv=>whnf)|(refine cF (by rfl) ?_;conv=>whnf)))
            rw [hll1, hnn1 rfl] at h
            replace hA := hA.tr h
            clear h
            refine ⟨_, ⟨rfl, rfl, rfl, rfl, rfl, trivial⟩, ?_⟩
            rw [hc]
            exact hA
        · have hnl : (atT t 1).nl = false := by
            have h := fieldOK_null (hok.1 1 _ rfl) (by decide) (.inl (show (decide (0 ≤ v) && (decide ((7 : Int) < 0) || decide (v ≤ 7))) = true by simp only [ge_iff_le, decide_eq_true_eq] at hcv; simp; omega))
            rw [← h]
            have := of_decide_eq_false hn2
            simp [nullF, Fd.nul]
            first | exact fun _ => decide_eq_false (by omega) | omega | (intros; omega)
          ((conv=>whnf);repeat(first|(refine mvT ?_;conv=>whnf)|(refine mvF ?_;conv=>whnf)|(refine cT (by rfl) ?_;conv=>whnf)|(refine cF (by rfl) ?_;conv=>whnf)))
          (refine mvB ?_;((conv=>whnf);repeat(first|(refine mvT ?_;conv=>whnf)|(refine mvF ?_;conv=>whnf)|(refine cT (by rfl) ?_;conv=>whnf)|(refine cF (by rfl) ?_;conv=>whnf))))
          refine cI (by rfl) (fun hc=>?_) (fun hc=>?_)
          · ((conv=>whnf);repeat(first|(refine mvT ?_;conv=>whnf)|(refine mvF ?_;conv=>whnf)|(refine cT (by rfl) ?_;conv=>whnf)|(refine cF (by rfl) ?_;conv=>whnf)))
            refine Does.mono (AppendCompactArrayLen_does hA.ob (Nat.le_trans hB hA.size) (by simp only [List.length_append]; omega) l1.length (by omega)) ?_;rintro r w h;((conv=>whnf);repeat(first|(refine mvT ?_;conv=>whnf)|(refine mvF ?_;conv=>whnf)|(refine cT (by rfl) ?_;conv=>whnf)|(refine cF (by rfl) ?_;conv=>whnf)))
            rw [hll1] at h
            replace hA := hA.tr h
            clear h
            refine ⟨_, ⟨rfl, rfl, rfl, rfl, rfl, trivial⟩, ?_⟩
            rw [hnl, show naA fx false (lsT (atT t 1)).length = arA fx (lsT (atT t 1)).length by unfold naA; cases fx <;> rfl]
            rw [hc]
            exact hA
          · ((conv=>whnf);repeat(first|(refine mvT ?_;conv=>whnf)|(refine mvF ?_;conv=>whnf)|(refine cT (by rfl) ?_;conv=>whnf)|(refine cF (by rfl) ?_;conv=>whnf)))
            refine Does.mono (AppendArrayLen_does hA.ob (Nat.le_trans hB hA.size) (by simp only [List.length_append]; omega) l1.length) ?_;rintro r w h;((conv=>whnf);repeat(first|(refine mvT ?_;conv=>whnf)|(refine mvF ?_;conv=>whnf)|(refine cT (by rfl) ?_;conv=>whnf)|(refine cF (by rfl) ?_;conv=>whnf)))
            rw [hll1] at h
            replace hA := hA.tr h
            clear h
            refine ⟨_, ⟨rfl, rfl, rfl, rfl, rfl, trivial⟩, ?_⟩
            rw [hnl, show naA fx false (lsT (atT t 1)).length = arA fx (lsT (atT t 1)).length by unfold naA; cases fx <;> rfl]
            rw [hc]
            exact hA
      clear hA
      rintro r w hA
      ((conv=>whnf);repeat(first|(refine mvT ?_;conv=>whnf)|(refine mvF ?_;conv=>whnf)|(refine cT (by rfl) ?_;conv=>whnf)|(refine cF (by rfl) ?_;conv=>whnf)))
      generalize hm2 : m1 ++ (naA fx (atT t 1).nl (lsT (atT t 1)).length) = m2 at hA
      have hl2 : m2.length = m1.length + (naA fx (atT t 1).nl (lsT (atT t 1)).length).length := by rw [← hm2, List.length_append]
      refine VL.loop (fun s : Nat × Value => [(1, s.2), (0, .pointer (some ⟨p, 0, none⟩)), (5, .int .i16 v), (6, .bool fx), (8, .slice a1 l1.length k1), (89, .slice a1 l1.length k1), (90, .int .i64 l1.length), (91, .int .i64 s.1)])
        (fun s w' => s.1 ≤ l1.length ∧ Apd w0 B x l (m2 ++ ((lsT (atT t 1)).take s.1).flatMap (bOffsetFetchRequestTopic v fx)) s.2 w') (fun s => l1.length - s.1) (0, r) ⟨rfl, rfl, rfl, rfl, rfl, rfl, rfl, rfl, trivial⟩ ⟨Nat.zero_le _, by rw [List.take_zero, List.flatMap_nil, List.append_nil]; exact hA⟩ ?_
      clear hA
      rintro ⟨i1, r⟩ w ⟨hi1, hA⟩
      dsimp only at hi1 hA
      ((conv=>whnf);repeat(first|(refine mvT ?_;conv=>whnf)|(refine mvF ?_;conv=>whnf)|(refine cT (by rfl) ?_;conv=>whnf)|(refine cF (by rfl) ?_;conv=>whnf)))
      refine cI (by rfl) (fun h9=>?_) (fun h9=>?_)
      · have hil : i1 < l1.length := by have := of_decide_eq_true h9; simp only at this; omega
        have hiL1 : i1 < (lsT (atT t 1)).length := by omega
        obtain ⟨hft, hfl⟩ := flat_take (bOffsetFetchRequestTopic v fx) (lsT (atT t 1)) i1 hiL1
        obtain ⟨b1, o1, rfl, hF1, hb1, hce1⟩ := hcl1 i1 l1[i1] (by simp [hil])
        have hre1 := hrl1 i1 l1[i1] ((lsT (atT t 1))[i1]) (by simp [hil]) (by simp [hiL1])
        have hlo1 := lsT_ok (hok.1 1 _ rfl) ((lsT (atT t 1))[i1]) (List.getElem_mem hiL1)
        generalize hm3 : m2 ++ ((lsT (atT t 1)).take i1).flatMap (bOffsetFetchRequestTopic v fx) = m3 at hA
        have hl3 : m3.length = m2.length + (((lsT (atT t 1)).take i1).flatMap (bOffsetFetchRequestTopic v fx)).length := by rw [← hm3, List.length_append]
        obtain ⟨x1, hx1⟩ : ∃ y, y = (lsT (atT t 1))[i1] := ⟨_, rfl⟩
        rw [← hx1] at hft hfl hre1 hlo1
        obtain ⟨c1_1, m1_, hcells, hc1_1, hm1_⟩ := hre1
        rw [hcells] at hce1
        have hok1_ := hlo1.2.2 rfl
        obtain ⟨a1_1, k1_1, l1_1, rfl, hkm1_1, hll1_1, hnn1_1, hcl1_1, hrl1_1⟩ := hc1_1.view
        have hgl : (bOffsetFetchRequestTopic v fx x1).length = (bOffsetFetchRequestTopic v fx x1).length := rfl
        conv at hgl => rhs; unfold bOffsetFetchRequestTopic
        simp only [List.length_append, List.length_nil] at hgl
        ((conv=>whnf);repeat(first|(refine mvT ?_;conv=>whnf)|(refine mvF ?_;conv=>whnf)|(refine cT (by rfl) ?_;conv=>whnf)|(refine cF (by rfl) ?_;conv=>whnf)))
        refine ⟨b1, o1, rfl, ⟨by omega, by omega⟩, ?_⟩
        ((conv=>whnf);repeat(first|(refine mvT ?_;conv=>whnf)|(refine mvF ?_;conv=>whnf)|(refine cT (by rfl) ?_;conv=>whnf)|(refine cF (by rfl) ?_;conv=>whnf)))
        refine ⟨_, ld ((hce1.ext hA.ext (hFx _ hb1 hF1)).cell (j := 0) rfl) (by simp <;> omega), ?_⟩; ((conv=>whnf);repeat(first|(refine mvT ?_;conv=>whnf)|(refine mvF ?_;conv=>whnf)|(refine cT (by rfl) ?_;conv=>whnf)|(refine cF (by rfl) ?_;conv=>whnf)))
        have hsl := fieldOK_text (hok1_.1 0 _ rfl)
        (refine mvB ?_;((conv=>whnf);repeat(first|(refine mvT ?_;conv=>whnf)|(refine mvF ?_;conv=>whnf)|(refine cT (by rfl) ?_;conv=>whnf)|(refine cF (by rfl) ?_;conv=>whnf))))
        refine VC.cutE (fun r => [(1, r), (0, .pointer (some ⟨p, 0, none⟩)), (5, .int .i16 v), (6, .bool fx), (8, .slice (some ⟨b1, o1, none⟩) l1.length k1), (89, .slice (some ⟨b1, o1, none⟩) l1.length k1), (90, .int .i64 l1.length), (91, .int .i64 i1), (10, .pointer (some ⟨b1, o1 + i1 * 3, none⟩))]) (fun r w' => Apd w0 B x l (m3 ++ (txA fx (atT x1 0).s)) r w') ?_ ?_
        · refine cI (by rfl) (fun hc=>?_) (fun hc=>?_)
          · ((conv=>whnf);repeat(first|(refine mvT ?_;conv=>whnf)|(refine mvF ?_;conv=>whnf)|(refine cT (by rfl) ?_;conv=>whnf)|(refine cF (by rfl) ?_;conv=>whnf)))
            refine Does.mono (AppendCompactString_does hA.ob (Nat.le_trans hB hA.size) _ (by omega) (by simp only [List.length_append]; omega)) ?_;rintro r w h;((conv=>whnf);repeat(first|(refine mvT ?_;conv=>whnf)|(refine mvF ?_;conv=>whnf)|(refine cT (by rfl) ?_;conv=>whnf)|(refine cF (by rfl) ?_;conv=>whnf)))
            replace hA := hA.tr h
            clear h
            refine ⟨_, ⟨rfl, rfl, rfl, rfl, rfl, rfl, rfl, rfl, rfl, trivial⟩, ?_⟩
            rw [hc]
            exact hA
          · ((conv=>whnf);repeat(first|(refine mvT ?_;conv=>whnf)|(refine mvF ?_;conv=>whnf)|(refine cT (by rfl) ?_;conv=>whnf)|(refine cF (by rfl) ?_;conv=>whnf)))
            refine Does.mono (AppendString_does hA.ob (Nat.le_trans hB hA.size) _ (by simp only [List.length_append]; omega)) ?_;rintro r w h;((conv=>whnf);repeat(first|(refine mvT ?_;conv=>whnf)|(refine mvF ?_;conv=>whnf)|(refine cT (by rfl) ?_;conv=>whnf)|(refine cF (by rfl) ?_;conv=>whnf)))
            replace hA := hA.tr h
            clear h
            refine ⟨_, ⟨rfl, rfl, rfl, rfl, rfl, rfl, rfl, rfl, rfl, trivial⟩, ?_⟩
            rw [hc]
            exact hA
        clear hA
        rintro r w hA
        ((conv=>whnf);repeat(first|(refine mvT ?_;conv=>whnf)|(refine mvF ?_;conv=>whnf)|(refine cT (by rfl) ?_;conv=>whnf)|(refine cF (by rfl) ?_;conv=>whnf)))
        generalize hm4 : m3 ++ (txA fx (atT x1 0).s) = m4 at hA
        have hl4 : m4.length = m3.length + (txA fx (atT x1 0).s).length := by rw [← hm4, List.length_append]
        refine ⟨_, ld ((hce1.ext hA.ext (hFx _ hb1 hF1)).cell (j := 1) rfl) (by simp <;> omega), ?_⟩; ((conv=>whnf);repeat(first|(refine mvT ?_;conv=>whnf)|(refine mvF ?_;conv=>whnf)|(refine cT (by rfl) ?_;conv=>whnf)|(refine cF (by rfl) ?_;conv=>whnf)))
        have hml1_1 := lsT_len (hok1_.1 1 _ rfl)
        (refine mvB ?_;((conv=>whnf);repeat(first|(refine mvT ?_;conv=>whnf)|(refine mvF ?_;conv=>whnf)|(refine cT (by rfl) ?_;conv=>whnf)|(refine cF (by rfl) ?_;conv=>whnf))))
        refine VC.cutE (fun r => [(1, r), (0, .pointer (some ⟨p, 0, none⟩)), (5, .int .i16 v), (6, .bool fx), (8, .slice (some ⟨b1, o1, none⟩) l1.length k1), (89, .slice (some ⟨b1, o1, none⟩) l1.length k1), (90, .int .i64 l1.length), (91, .int .i64 i1), (10, .pointer (some ⟨b1, o1 + i1 * 3, none⟩)), (12, .slice a1_1 l1_1.length k1_1)]) (fun r w' => Apd w0 B x l (m4 ++ (arA fx (lsT (atT x1 1)).length)) r w') ?_ ?_
        · refine cI (by rfl) (fun hc=>?_) (fun hc=>?_)
          · ((conv=>whnf);repeat(first|(refine mvT ?_;conv=>whnf)|(refine mvF ?_;conv=>whnf)|(refine cT (by rfl) ?_;conv=>whnf)|(refine cF (by rfl) ?_;conv=>whnf)))
            refine Does.mono (AppendCompactArrayLen_does hA.ob (Nat.le_trans hB hA.size) (by simp only [List.length_append]; omega) l1_1.length (by omega)) ?_;rintro r w h;((conv=>whnf);repeat(first|(refine mvT ?_;conv=>whnf)|(refine mvF ?_;conv=>whnf)|(refine cT (by rfl) ?_;conv=>whnf)|(refine cF (by rfl) ?_;conv=>whnf)))
            rw [hll1_1] at h
            replace hA := hA.tr h
            clear h
            refine ⟨_, ⟨rfl, rfl, rfl, rfl, rfl, rfl, rfl, rfl, rfl, rfl, trivial⟩, ?_⟩
            rw [hc]
            exact hA
          · ((conv=>whnf);repeat(first|(refine mvT ?_;conv=>whnf)|(refine mvF ?_;conv=>whnf)|(refine cT (by rfl) ?_;conv=>whnf)|(refine cF (by rfl) ?_;conv=>whnf)))
            refine Does.mono (AppendArrayLen_does hA.ob (Nat.le_trans hB hA.size) (by simp only [List.length_append]; omega) l1_1.length) ?_;rintro r w h;((conv=>whnf);repeat(first|(refine mvT ?_;conv=>whnf)|(refine mvF ?_;conv=>whnf)|(refine cT (by rfl) ?_;conv=>whnf)|(refine cF (by rfl) ?_;conv=>whnf)))
            rw [hll1_1] at h
            replace hA := hA.tr h
            clear h
            refine ⟨_, ⟨rfl, rfl, rfl, rfl, rfl, rfl, rfl, rfl, rfl, rfl, trivial⟩, ?_⟩
            rw [hc]
            exact hA
        clear hA
        rintro r w hA
        ((conv=>whnf);repeat(first|(refine mvT ?_;conv=>whnf)|(refine mvF ?_;conv=>whnf)|(refine cT (by rfl) ?_;conv=>whnf)|(refine cF (by rfl) ?_;conv=>whnf)))
        generalize hm5 : m4 ++ (arA fx (lsT (atT x1 1)).length) = m5 at hA
        have hl5 : m5.length = m4.length + (arA fx (lsT (atT x1 1)).length).length := by rw [← hm5, List.length_append]
        refine VL.loop (fun s : Nat × Value => [(1, s.2), (0, .pointer (some ⟨p, 0, none⟩)), (5, .int .i16 v), (6, .bool fx), (8, .slice (some ⟨b1, o1, none⟩) l1.length k1), (89, .slice (some ⟨b1, o1, none⟩) l1.length k1), (90, .int .i64 l1.length), (91, .int .i64 i1), (10, .pointer (some ⟨b1, o1 + i1 * 3, none⟩)), (12, .slice a1_1 l1_1.length k1_1), (121, .slice a1_1 l1_1.length k1_1), (122, .int .i64 l1_1.length), (123, .int .i64 s.1)])
          (fun s w' => s.1 ≤ l1_1.length ∧ Apd w0 B x l (m5 ++ ((lsT (atT x1 1)).take s.1).flatMap (fun x => fixed x.n 4)) s.2 w') (fun s => l1_1.length - s.1) (0, r) ⟨rfl, rfl, rfl, rfl, rfl, rfl, rfl, rfl, rfl, rfl, rfl, rfl, rfl, trivial⟩ ⟨Nat.zero_le _, by rw [List.take_zero, List.flatMap_nil, List.append_nil]; exact hA⟩ ?_
        clear hA
        rintro ⟨i2, r⟩ w ⟨hi2, hA⟩
        dsimp only at hi2 hA
        ((conv=>whnf);repeat(first|(refine mvT ?_;conv=>whnf)|(refine mvF ?_;conv=>whnf)|(refine cT (by rfl) ?_;conv=>whnf)|(refine cF (by rfl) ?_;conv=>whnf)))
        refine cI (by rfl) (fun h9=>?_) (fun h9=>?_)
        · have hil : i2 < l1_1.length := by have := of_decide_eq_true h9; simp only at this; omega
          have hiL2 : i2 < (lsT (atT x1 1)).length := by omega
          obtain ⟨hft, hfl⟩ := flat_take (fun x => fixed x.n 4) (lsT (atT x1 1)) i2 hiL2
          obtain ⟨b1_1, o1_1, rfl, hF1_1, hb1_1, hce1_1⟩ := hcl1_1 i2 l1_1[i2] (by simp [hil])
          have hre1_1 := hrl1_1 i2 l1_1[i2] ((lsT (atT x1 1))[i2]) (by simp [hil]) (by simp [hiL2])
          have hlo1_1 := lsT_ok (hok1_.1 1 _ rfl) ((lsT (atT x1 1))[i2]) (List.getElem_mem hiL2)
          generalize hm6 : m5 ++ ((lsT (atT x1 1)).take i2).flatMap (fun x => fixed x.n 4) = m6 at hA
          have hl6 : m6.length = m5.length + (((lsT (atT x1 1)).take i2).flatMap (fun x => fixed x.n 4)).length := by rw [← hm6, List.length_append]
          obtain ⟨x2, hx2⟩ : ∃ y, y = (lsT (atT x1 1))[i2] := ⟨_, rfl⟩
          rw [← hx2] at hft hfl hre1_1 hlo1_1
          rw [hre1_1] at hce1_1
          ((conv=>whnf);repeat(first|(refine mvT ?_;conv=>whnf)|(refine mvF ?_;conv=>whnf)|(refine cT (by rfl) ?_;conv=>whnf)|(refine cF (by rfl) ?_;conv=>whnf)))
          refine ⟨b1_1, o1_1, rfl, ⟨by omega, by omega⟩, ?_⟩
          ((conv=>whnf);repeat(first|(refine mvT ?_;conv=>whnf)|(refine mvF ?_;conv=>whnf)|(refine cT (by rfl) ?_;conv=>whnf)|(refine cF (by rfl) ?_;conv=>whnf)))
          refine ⟨_, ld ((hce1_1.ext hA.ext (hFx _ hb1_1 hF1_1)).cell (j := 0) rfl) (by simp), ?_⟩
          ((conv=>whnf);repeat(first|(refine mvT ?_;conv=>whnf)|(refine mvF ?_;conv=>whnf)|(refine cT (by rfl) ?_;conv=>whnf)|(refine cF (by rfl) ?_;conv=>whnf)))
          refine Does.mono (AppendInt32_does hA.ob (Nat.le_trans hB hA.size) (by simp only [List.length_append]; omega) _) ?_;rintro r w h;((conv=>whnf);repeat(first|(refine mvT ?_;conv=>whnf)|(refine mvF ?_;conv=>whnf)|(refine cT (by rfl) ?_;conv=>whnf)|(refine cF (by rfl) ?_;conv=>whnf)))
          rw [fixed4_mod (wrap_i32m _)] at h
          replace hA := hA.tr h
          clear h
          generalize hm7 : m6 ++ (fixed (x2).n 4) = m7 at hA
          have hl7 : m7.length = m6.length + (fixed (x2).n 4).length := by rw [← hm7, List.length_append]
          have hfin : m6 ++ (fun x => fixed x.n 4) x2 = m7 := by simp only [← hm7, List.append_assoc, List.nil_append, List.append_nil]
          refine ⟨(i2 + 1, r), ⟨rfl, rfl, rfl, rfl, rfl, rfl, rfl, rfl, rfl, rfl, rfl, rfl, inc_eq (by rw [maxLen_eq] at hkm1_1; omega), trivial⟩, ⟨by simp only; omega, ?_⟩, by simp only; omega⟩
          rw [hft, ← List.append_assoc, hm6, hfin]
          exact hA
        have hil : i2 = l1_1.length := by have := of_decide_eq_false h9; simp only at this; omega
        ((conv=>whnf);repeat(first|(refine mvT ?_;conv=>whnf)|(refine mvF ?_;conv=>whnf)|(refine cT (by rfl) ?_;conv=>whnf)|(refine cF (by rfl) ?_;conv=>whnf)))
        rw [hil, hll1_1, List.take_length] at hA
        generalize hm6 : m5 ++ ((lsT (atT x1 1)).flatMap (fun x => fixed x.n 4)) = m6 at hA
        have hl6 : m6.length = m5.length + ((lsT (atT x1 1)).flatMap (fun x => fixed x.n 4)).length := by rw [← hm6, List.length_append]
        (refine mvB ?_;((conv=>whnf);repeat(first|(refine mvT ?_;conv=>whnf)|(refine mvF ?_;conv=>whnf)|(refine cT (by rfl) ?_;conv=>whnf)|(refine cF (by rfl) ?_;conv=>whnf))))
        refine VC.cutB (fun r => [(1, r), (0, .pointer (some ⟨p, 0, none⟩)), (5, .int .i16 v), (6, .bool fx), (8, .slice (some ⟨b1, o1, none⟩) l1.length k1), (89, .slice (some ⟨b1, o1, none⟩) l1.length k1), (90, .int .i64 l1.length), (91, .int .i64 i1), (10, .pointer (some ⟨b1, o1 + i1 * 3, none⟩))]) (fun r w' => Apd w0 B x l (m6 ++ (tgsB fx (x1).u)) r w') ?_ ?_
        · refine cI (by rfl) (fun hc=>?_) (fun hc=>?_)
          · ((conv=>whnf);repeat(first|(refine mvT ?_;conv=>whnf)|(refine mvF ?_;conv=>whnf)|(refine cT (by rfl) ?_;conv=>whnf)|(refine cF (by rfl) ?_;conv=>whnf)))
            have hul := hok1_.2.len
            refine Does.mono (Tags_Len_does (ld ((hce1.ext hA.ext (hFx _ hb1 hF1)).cell (j := 2) rfl) (by simp <;> omega)) (hm1_.ext hA.ext hFx)) ?_;rintro r w ⟨rfl, rfl⟩;((conv=>whnf);repeat(first|(refine mvT ?_;conv=>whnf)|(refine mvF ?_;conv=>whnf)|(refine cT (by rfl) ?_;conv=>whnf)|(refine cF (by rfl) ?_;conv=>whnf)))
            rw [u32_add0 (by omega)]
            refine Does.mono (AppendUvarint_does hA.ob (Nat.le_trans hB hA.size) (x1).u.length (by omega) (by simp only [List.length_append]; omega)) ?_;rintro r w h;((conv=>whnf);repeat(first|(refine mvT ?_;conv=>whnf)|(refine mvF ?_;conv=>whnf)|(refine cT (by rfl) ?_;conv=>whnf)|(refine cF (by rfl) ?_;conv=>whnf)))
            have hul2 := uvar10 (n := (x1).u.length) (by omega)
            replace hA := hA.tr h
            clear h
            refine Does.mono (AppendEach_does (ld ((hce1.ext hA.ext (hFx _ hb1 hF1)).cell (j := 2) rfl) (by simp <;> omega)) (hm1_.ext hA.ext hFx) hok1_.2 hA.ob (Nat.le_trans hB hA.size) (hA.ne (hFR _ hF1).2 (hFR _ hF1).1) (fun j _ hf => hA.ne (hFR j hf).2 (hFR j hf).1) (by simp only [List.length_append]; omega)) ?_;rintro r w h;((conv=>whnf);repeat(first|(refine mvT ?_;conv=>whnf)|(refine mvF ?_;conv=>whnf)|(refine cT (by rfl) ?_;conv=>whnf)|(refine cF (by rfl) ?_;conv=>whnf)))
            replace hA := hA.tr h
            clear h
            refine ⟨_, ⟨rfl, rfl, rfl, rfl, rfl, rfl, rfl, rfl, rfl, trivial⟩, ?_⟩
            rw [tgsB, if_pos hc, ← List.append_assoc]
            exact hA
          · ((conv=>whnf);repeat(first|(refine mvT ?_;conv=>whnf)|(refine mvF ?_;conv=>whnf)|(refine cT (by rfl) ?_;conv=>whnf)|(refine cF (by rfl) ?_;conv=>whnf)))
            refine ⟨_, ⟨rfl, rfl, rfl, rfl, rfl, rfl, rfl, rfl, rfl, trivial⟩, ?_⟩
            rw [tgsB, if_neg (by rw [hc]; decide), List.append_nil]
            exact hA
        clear hA
        rintro r w hA
        ((conv=>whnf);repeat(first|(refine mvT ?_;conv=>whnf)|(refine mvF ?_;conv=>whnf)|(refine cT (by rfl) ?_;conv=>whnf)|(refine cF (by rfl) ?_;conv=>whnf)))
        generalize hm7 : m6 ++ (tgsB fx (x1).u) = m7 at hA
        have hl7 : m7.length = m6.length + (tgsB fx (x1).u).length := by rw [← hm7, List.length_append]
        have hfin : m3 ++ (bOffsetFetchRequestTopic v fx) x1 = m7 := by unfold bOffsetFetchRequestTopic; simp only [← hm7, ← hm6, ← hm5, ← hm4, List.append_assoc, List.nil_append, List.append_nil]
        refine ⟨(i1 + 1, r), ⟨rfl, rfl, rfl, rfl, rfl, rfl, rfl, inc_eq (by rw [maxLen_eq] at hkm1; omega), trivial⟩, ⟨by simp only; omega, ?_⟩, by simp only; omega⟩
        rw [hft, ← List.append_assoc, hm3, hfin]
        exact hA
      have hil : i1 = l1.length := by have := of_decide_eq_false h9; simp only at this; omega
      ((conv=>whnf);repeat(first|(refine mvT ?_;conv=>whnf)|(refine mvF ?_;conv=>whnf)|(refine cT (by rfl) ?_;conv=>whnf)|(refine cF (by rfl) ?_;conv=>whnf)))
      rw [hil, hll1, List.take_length] at hA
      generalize hm3 : m2 ++ ((lsT (atT t 1)).flatMap (bOffsetFetchRequestTopic v fx)) = m3 at hA
      have hl3 : m3.length = m2.length + ((lsT (atT t 1)).flatMap (bOffsetFetchRequestTopic v fx)).length := by rw [← hm3, List.length_append]
      refine ⟨_, ⟨rfl, rfl, rfl, rfl, trivial⟩, ?_⟩
      rw [if_pos (by simp only [ge_iff_le, decide_eq_true_eq] at hcv; simp; omega)]
      rw [show m1 ++ (naA fx (atT t 1).nl (lsT (atT t 1)).length ++ (lsT (atT t 1)).flatMap (bOffsetFetchRequestTopic v fx)) = m3 by simp only [← hm3, ← hm2, List.append_assoc]]
      exact hA
    · ((conv=>whnf);repeat(first|(refine mvT ?_;conv=>whnf)|(refine mvF ?_;conv=>whnf)|(refine cT (by rfl) ?_;conv=>whnf)|(refine cF (by rfl) ?_;conv=>whnf)))
      refine ⟨_, ⟨rfl, rfl, rfl, rfl, trivial⟩, ?_⟩
      rw [if_neg (by simp only [ge_iff_le, decide_eq_false_iff_not] at hcv; simp; omega), List.append_nil]
      exact hA
  clear hA
  rintro r w hA
  ((conv=>whnf);repeat(first|(refine mvT ?_;conv=>whnf)|(refine mvF ?_;conv=>whnf)|(refine cT (by rfl) ?_;conv=>whnf)|(refine cF (by rfl) ?_;conv=>whnf)))
  generalize hm2 : m1 ++ ((if (decide (0 ≤ v) && (decide ((7 : Int) < 0) || decide (v ≤ 7))) = true then naA fx (atT t 1).nl (lsT (atT t 1)).length ++ (lsT (atT t 1)).flatMap (bOffsetFetchRequestTopic v fx) else [])) = m2 at hA
  have hl2 : m2.length = m1.length + ((if (decide (0 ≤ v) && (decide ((7 : Int) < 0) || decide (v ≤ 7))) = true then naA fx (atT t 1).nl (lsT (atT t 1)).length ++ (lsT (atT t 1)).flatMap (bOffsetFetchRequestTopic v fx) else [])).length := by rw [← hm2, List.length_append]
  refine VC.cutE (fun r => [(1, r), (0, .pointer (some ⟨p, 0, none⟩)), (5, .int .i16 v), (6, .bool fx)]) (fun r w' => Apd w0 B x l (m2 ++ ((if (decide (8 ≤ v) && (decide ((-1 : Int) < 0) || decide (v ≤ (-1)))) = true then arA fx (lsT (atT t 2)).length ++ (lsT (atT t 2)).flatMap (bOffsetFetchRequestGroup v fx) else []))) r w') ?_ ?_
  · refine cI (by rfl) (fun hcv=>?_) (fun hcv=>?_)
    · ((conv=>whnf);repeat(first|(refine mvT ?_;conv=>whnf)|(refine mvF ?_;conv=>whnf)|(refine cT (by rfl) ?_;conv=>whnf)|(refine cF (by rfl) ?_;conv=>whnf)))
      refine ldS ((hp.ext hA.ext hxp).cell rfl) ?_;((conv=>whnf);repeat(first|(refine mvT ?_;conv=>whnf)|(refine mvF ?_;conv=>whnf)|(refine cT (by rfl) ?_;conv=>whnf)|(refine cF (by rfl) ?_;conv=>whnf)))
      have hvl2 : ((if (decide (8 ≤ v) && (decide ((-1 : Int) < 0) || decide (v ≤ (-1)))) = true then arA fx (lsT (atT t 2)).length ++ (lsT (atT t 2)).flatMap (bOffsetFetchRequestGroup v fx) else [])).length = (arA fx (lsT (atT t 2)).length ++ (lsT (atT t 2)).flatMap (bOffsetFetchRequestGroup v fx)).length := by rw [if_pos (by simp only [ge_iff_le, decide_eq_true_eq] at hcv; simp; omega)]
      simp only [List.length_append] at hvl2
      have hml2 := lsT_len (hok.1 2 _ rfl)
      (refine mvB ?_;((conv=>whnf);repeat(first|(refine mvT ?_;conv=>whnf)|(refine mvF ?_;conv=>whnf)|(refine cT (by rfl) ?_;conv=>whnf)|(refine cF (by rfl) ?_;conv=>whnf))))
      refine VC.cutE (fun r => [(1, r), (0, .pointer (some ⟨p, 0, none⟩)), (5, .int .i16 v), (6, .bool fx), (15, .slice a2 l2.length k2)]) (fun r w' => Apd w0 B x l (m2 ++ (arA fx (lsT (atT t 2)).length)) r w') ?_ ?_
      · refine cI (by rfl) (fun hc=>?_) (fun hc=>?_)
        · ((conv=>whnf);repeat(first|(refine mvT ?_;conv=>whnf)|(refine mvF ?_;conv=>whnf)|(refine cT (by rfl) ?_;conv=>whnf)|(refine cF (by rfl) ?_;conv=>whnf)))
          refine Does.mono (AppendCompactArrayLen_does hA.ob (Nat.le_trans hB hA.size) (by simp only [List.length_append]; omega) l2.length (by omega)) ?_;rintro r w h;((conv=>whnf);repeat(first|(refine mvT ?_;conv=>whnf)|(refine mvF ?_;conv=>whnf)|(refine cT (by rfl) ?_;conv=>whnf)|(refine cF (by rfl) ?_;conv=>whnf)))
          rw [hll2] at h
          replace hA := hA.tr h
          clear h
          refine ⟨_, ⟨rfl, rfl, rfl, rfl, rfl, trivial⟩, ?_⟩
          rw [hc]
          exact hA
        · ((conv=>whnf);repeat(first|(refine mvT ?_;conv=>whnf)|(refine mvF ?_;conv=>whnf)|(refine cT (by rfl) ?_;conv=>whnf)|(refine cF (by rfl) ?_;conv=>whnf)))
          refine Does.mono (AppendArrayLen_does hA.ob (Nat.le_trans hB hA.size) (by simp only [List.length_append]; omega) l2.length) ?_;rintro r w h;((conv=>whnf);repeat(first|(refine mvT ?_;conv=>whnf)|(refine mvF ?_;conv=>whnf)|(refine cT (by rfl) ?_;conv=>whnf)|(refine cF (by rfl) ?_;conv=>whnf)))
          rw [hll2] at h
          replace hA := hA.tr h
          clear h
          refine ⟨_, ⟨rfl, rfl, rfl, rfl, rfl, trivial⟩, ?_⟩
          rw [hc]
          exact hA
      clear hA
      rintro r w hA
      ((conv=>whnf);repeat(first|(refine mvT ?_;conv=>whnf)|(refine mvF ?_;conv=>whnf)|(refine cT (by rfl) ?_;conv=>whnf)|(refine cF (by rfl) ?_;conv=>whnf)))
      generalize hm3 : m2 ++ (arA fx (lsT (atT t 2)).length) = m3 at hA
      have hl3 : m3.length = m2.length + (arA fx (lsT (atT t 2)).length).length := by rw [← hm3, List.length_append]
      refine VL.loop (fun s : Nat × Value => [(1, s.2), (0, .pointer (some ⟨p, 0, none⟩)), (5, .int .i16 v), (6, .bool fx), (15, .slice a2 l2.length k2), (164, .slice a2 l2.length k2), (165, .int .i64 l2.length), (166, .int .i64 s.1)])
        (fun s w' => s.1 ≤ l2.length ∧ Apd w0 B x l (m3 ++ ((lsT (atT t 2)).take s.1).flatMap (bOffsetFetchRequestGroup v fx)) s.2 w') (fun s => l2.length - s.1) (0, r) ⟨rfl, rfl, rfl, rfl, rfl, rfl, rfl, rfl, trivial⟩ ⟨Nat.zero_le _, by rw [List.take_zero, List.flatMap_nil, List.append_nil]; exact hA⟩ ?_
      clear hA
      rintro ⟨i2, r⟩ w ⟨hi2, hA⟩
      dsimp only at hi2 hA
      ((conv=>whnf);repeat(first|(refine mvT ?_;conv=>whnf)|(refine mvF ?_;conv=>whnf)|(refine cT (by rfl) ?_;conv=>whnf)|(refine cF (by rfl) ?_;conv=>whnf)))
      refine cI (by rfl) (fun h9=>?_) (fun h9=>?_)
      · have hil : i2 < l2.length := by have := of_decide_eq_true h9; simp only at this; omega
        have hiL2 : i2 < (lsT (atT t 2)).length := by omega
        obtain ⟨hft, hfl⟩ := flat_take (bOffsetFetchRequestGroup v fx) (lsT (atT t 2)) i2 hiL2
        obtain ⟨b2, o2, rfl, hF2, hb2, hce2⟩ := hcl2 i2 l2[i2] (by simp [hil])
        have hre2 := hrl2 i2 l2[i2] ((lsT (atT t 2))[i2]) (by simp [hil]) (by simp [hiL2])
        have hlo2 := lsT_ok (hok.1 2 _ rfl) ((lsT (atT t 2))[i2]) (List.getElem_mem hiL2)
        generalize hm4 : m3 ++ ((lsT (atT t 2)).take i2).flatMap (bOffsetFetchRequestGroup v fx) = m4 at hA
        have hl4 : m4.length = m3.length + (((lsT (atT t 2)).take i2).flatMap (bOffsetFetchRequestGroup v fx)).length := by rw [← hm4, List.length_append]
        obtain ⟨x2, hx2⟩ : ∃ y, y = (lsT (atT t 2))[i2] := ⟨_, rfl⟩
        rw [← hx2] at hft hfl hre2 hlo2
        obtain ⟨c2_1, c2_3, m2_, hcells, hc2_1, hc2_3, hm2_⟩ := hre2
        rw [hcells] at hce2
        have hok2_ := hlo2.2.2 rfl
        obtain ⟨a2_3, k2_3, l2_3, rfl, hkm2_3, hll2_3, hnn2_3, hcl2_3, hrl2_3⟩ := hc2_3.view
        have hgl : (bOffsetFetchRequestGroup v fx x2).length = (bOffsetFetchRequestGroup v fx x2).length := rfl
        conv at hgl => rhs; unfold bOffsetFetchRequestGroup
        simp only [List.length_append, List.length_nil] at hgl
        ((conv=>whnf);repeat(first|(refine mvT ?_;conv=>whnf)|(refine mvF ?_;conv=>whnf)|(refine cT (by rfl) ?_;conv=>whnf)|(refine cF (by rfl) ?_;conv=>whnf)))
        refine ⟨b2, o2, rfl, ⟨by omega, by omega⟩, ?_⟩
        ((conv=>whnf);repeat(first|(refine mvT ?_;conv=>whnf)|(refine mvF ?_;conv=>whnf)|(refine cT (by rfl) ?_;conv=>whnf)|(refine cF (by rfl) ?_;conv=>whnf)))
        refine ⟨_, ld ((hce2.ext hA.ext (hFx _ hb2 hF2)).cell (j := 0) rfl) (by simp <;> omega), ?_⟩; ((conv=>whnf);repeat(first|(refine mvT ?_;conv=>whnf)|(refine mvF ?_;conv=>whnf)|(refine cT (by rfl) ?_;conv=>whnf)|(refine cF (by rfl) ?_;conv=>whnf)))
        have hsl := fieldOK_text (hok2_.1 0 _ rfl)
        (refine mvB ?_;((conv=>whnf);repeat(first|(refine mvT ?_;conv=>whnf)|(refine mvF ?_;conv=>whnf)|(refine cT (by rfl) ?_;conv=>whnf)|(refine cF (by rfl) ?_;conv=>whnf))))
        refine VC.cutE (fun r => [(1, r), (0, .pointer (some ⟨p, 0, none⟩)), (5, .int .i16 v), (6, .bool fx), (15, .slice (some ⟨b2, o2, none⟩) l2.length k2), (164, .slice (some ⟨b2, o2, none⟩) l2.length k2), (165, .int .i64 l2.length), (166, .int .i64 i2), (17, .pointer (some ⟨b2, o2 + i2 * 5, none⟩))]) (fun r w' => Apd w0 B x l (m4 ++ (txA fx (atT x2 0).s)) r w') ?_ ?_
        · refine cI (by rfl) (fun hc=>?_) (fun hc=>?_)
          · ((conv=>whnf);repeat(first|(refine mvT ?_;conv=>whnf)|(refine mvF ?_;conv=>whnf)|(refine cT (by rfl) ?_;conv=>whnf)|(refine cF (by rfl) ?_;conv=>whnf)))
            refine Does.mono (AppendCompactString_does hA.ob (Nat.le_trans hB hA.size) _ (by omega) (by simp only [List.length_append]; omega)) ?_;rintro r w h;((conv=>whnf);repeat(first|(refine mvT ?_;conv=>whnf)|(refine mvF ?_;conv=>whnf)|(refine cT (by rfl) ?_;conv=>whnf)|(refine cF (by rfl) ?_;conv=>whnf)))
            replace hA := hA.tr h
            clear h
            refine ⟨_, ⟨rfl, rfl, rfl, rfl, rfl, rfl, rfl, rfl, rfl, trivial⟩, ?_⟩
            rw [hc]
            exact hA
          · ((conv=>whnf);repeat(first|(refine mvT ?_;conv=>whnf)|(refine mvF ?_;conv=>whnf)|(refine cT (by rfl) ?_;conv=>whnf)|(refine cF (by rfl) ?_;conv=>whnf)))
            refine Does.mono (AppendString_does hA.ob (Nat.le_trans hB hA.size) _ (by simp only [List.length_append]; omega)) ?_;rintro r w h;((conv=>whnf);repeat(first|(refine mvT ?_;conv=>whnf)|(refine mvF ?_;conv=>whnf)|(refine cT (by rfl) ?_;conv=>whnf)|(refine cF (by rfl) ?_;conv=>whnf)))
            replace hA := hA.tr h
            clear h
            refine ⟨_, ⟨rfl, rfl, rfl, rfl, rfl, rfl, rfl, rfl, rfl, trivial⟩, ?_⟩
            rw [hc]
            exact hA
        clear hA
        rintro r w hA
        ((conv=>whnf);repeat(first|(refine mvT ?_;conv=>whnf)|(refine mvF ?_;conv=>whnf)|(refine cT (by rfl) ?_;conv=>whnf)|(refine cF (by rfl) ?_;conv=>whnf)))
        generalize hm5 : m4 ++ (txA fx (atT x2 0).s) = m5 at hA
        have hl5 : m5.length = m4.length + (txA fx (atT x2 0).s).length := by rw [← hm5, List.length_append]
        refine VC.cutE (fun r => [(1, r), (0, .pointer (some ⟨p, 0, none⟩)), (5, .int .i16 v), (6, .bool fx), (15, .slice (some ⟨b2, o2, none⟩) l2.length k2), (164, .slice (some ⟨b2, o2, none⟩) l2.length k2), (165, .int .i64 l2.length), (166, .int .i64 i2), (17, .pointer (some ⟨b2, o2 + i2 * 5, none⟩))]) (fun r w' => Apd w0 B x l (m5 ++ ((if (decide (9 ≤ v) && (decide ((-1 : Int) < 0) || decide (v ≤ (-1)))) = true then ntA fx (atT x2 1).nl (atT x2 1).s else []))) r w') ?_ ?_
        · refine cI (by rfl) (fun hcv=>?_) (fun hcv=>?_)
          · ((conv=>whnf);repeat(first|(refine mvT ?_;conv=>whnf)|(refine mvF ?_;conv=>whnf)|(refine cT (by rfl) ?_;conv=>whnf)|(refine cF (by rfl) ?_;conv=>whnf)))
            refine ⟨_, ld ((hce2.ext hA.ext (hFx _ hb2 hF2)).cell (j := 1) rfl) (by simp <;> omega), ?_⟩; ((conv=>whnf);repeat(first|(refine mvT ?_;conv=>whnf)|(refine mvF ?_;conv=>whnf)|(refine cT (by rfl) ?_;conv=>whnf)|(refine cF (by rfl) ?_;conv=>whnf)))
            have hsl := fieldOK_text (hok2_.1 1 _ rfl)
            (refine mvB ?_;((conv=>whnf);repeat(first|(refine mvT ?_;conv=>whnf)|(refine mvF ?_;conv=>whnf)|(refine cT (by rfl) ?_;conv=>whnf)|(refine cF (by rfl) ?_;conv=>whnf))))
            refine cI (by rfl) (fun hc=>?_) (fun hc=>?_)
            · ((conv=>whnf);repeat(first|(refine mvT ?_;conv=>whnf)|(refine mvF ?_;conv=>whnf)|(refine cT (by rfl) ?_;conv=>whnf)|(refine cF (by rfl) ?_;conv=>whnf)))
              refine Does.mono (AppendCompactNullableString_R hA.ob (Nat.le_trans hB hA.size) (hc2_1.ext hA.ext hFx) hsl (by simp only [List.length_append]; omega)) ?_;rintro r w h;((conv=>whnf);repeat(first|(refine mvT ?_;conv=>whnf)|(refine mvF ?_;conv=>whnf)|(refine cT (by rfl) ?_;conv=>whnf)|(refine cF (by rfl) ?_;conv=>whnf)))
              replace hA := hA.tr h
              clear h
              refine ⟨_, ⟨rfl, rfl, rfl, rfl, rfl, rfl, rfl, rfl, rfl, trivial⟩, ?_⟩
              rw [if_pos (by simp only [ge_iff_le, decide_eq_true_eq] at hcv; simp; omega), hc]
              exact hA
            · ((conv=>whnf);repeat(first|(refine mvT ?_;conv=>whnf)|(refine mvF ?_;conv=>whnf)|(refine cT (by rfl) ?_;conv=>whnf)|(refine cF (by rfl) ?_;conv=>whnf)))
              refine Does.mono (AppendNullableString_R hA.ob (Nat.le_trans hB hA.size) (hc2_1.ext hA.ext hFx) (by simp only [List.length_append]; omega)) ?_;rintro r w h;((conv=>whnf);repeat(first|(refine mvT ?_;conv=>whnf)|(refine mvF ?_;conv=>whnf)|(refine cT (by rfl) ?_;conv=>whnf)|(refine cF (by rfl) ?_;conv=>whnf)))
              replace hA := hA.tr h
              clear h
              refine ⟨_, ⟨rfl, rfl, rfl, rfl, rfl, rfl, rfl, rfl, rfl, trivial⟩, ?_⟩
              rw [if_pos (by simp only [ge_iff_le, decide_eq_true_eq] at hcv; simp; omega), hc]
              exact hA
          · ((conv=>whnf);repeat(first|(refine mvT ?_;conv=>whnf)|(refine mvF ?_;conv=>whnf)|(refine cT (by rfl) ?_;conv=>whnf)|(refine cF (by rfl) ?_;conv=>whnf)))
            refine ⟨_, ⟨rfl, rfl, rfl, rfl, rfl, rfl, rfl, rfl, rfl, trivial⟩, ?_⟩
            rw [if_neg (by simp only [ge_iff_le, decide_eq_false_iff_not] at hcv; simp; omega), List.append_nil]
            exact hA
        clear hA
        rintro r w hA
        ((conv=>whnf);repeat(first|(refine mvT ?_;conv=>whnf)|(refine mvF ?_;conv=>whnf)|(refine cT (by rfl) ?_;conv=>whnf)|(refine cF (by rfl) ?_;conv=>whnf)))
        generalize hm6 : m5 ++ ((if (decide (9 ≤ v) && (decide ((-1 : Int) < 0) || decide (v ≤ (-1)))) = true then ntA fx (atT x2 1).nl (atT x2 1).s else [])) = m6 at hA
        have hl6 : m6.length = m5.length + ((if (decide (9 ≤ v) && (decide ((-1 : Int) < 0) || decide (v ≤ (-1)))) = true then ntA fx (atT x2 1).nl (atT x2 1).s else [])).length := by rw [← hm6, List.length_append]
        refine VC.cutE (fun r => [(1, r), (0, .pointer (some ⟨p, 0, none⟩)), (5, .int .i16 v), (6, .bool fx), (15, .slice (some ⟨b2, o2, none⟩) l2.length k2), (164, .slice (some ⟨b2, o2, none⟩) l2.length k2), (165, .int .i64 l2.length), (166, .int .i64 i2), (17, .pointer (some ⟨b2, o2 + i2 * 5, none⟩))]) (fun r w' => Apd w0 B x l (m6 ++ ((if (decide (9 ≤ v) && (decide ((-1 : Int) < 0) || decide (v ≤ (-1)))) = true then fixed (atT x2 2).n 4 else []))) r w') ?_ ?_
        · refine cI (by rfl) (fun hcv=>?_) (fun hcv=>?_)
          · ((conv=>whnf);repeat(first|(refine mvT ?_;conv=>whnf)|(refine mvF ?_;conv=>whnf)|(refine cT (by rfl) ?_;conv=>whnf)|(refine cF (by rfl) ?_;conv=>whnf)))
            refine ⟨_, ld ((hce2.ext hA.ext (hFx _ hb2 hF2)).cell (j := 2) rfl) (by simp <;> omega), ?_⟩; ((conv=>whnf);repeat(first|(refine mvT ?_;conv=>whnf)|(refine mvF ?_;conv=>whnf)|(refine cT (by rfl) ?_;conv=>whnf)|(refine cF (by rfl) ?_;conv=>whnf)))
            refine Does.mono (AppendInt32_does hA.ob (Nat.le_trans hB hA.size) (by simp only [List.length_append]; omega) _) ?_;rintro r w h;((conv=>whnf);repeat(first|(refine mvT ?_;conv=>whnf)|(refine mvF ?_;conv=>whnf)|(refine cT (by rfl) ?_;conv=>whnf)|(refine cF (by rfl) ?_;conv=>whnf)))
            rw [fixed4_mod (wrap_i32m _)] at h
            replace hA := hA.tr h
            clear h
            generalize hm7 : m6 ++ (fixed (atT x2 2).n 4) = m7 at hA
            have hl7 : m7.length = m6.length + (fixed (atT x2 2).n 4).length := by rw [← hm7, List.length_append]
            refine ⟨_, ⟨rfl, rfl, rfl, rfl, rfl, rfl, rfl, rfl, rfl, trivial⟩, ?_⟩
            rw [if_pos (by simp only [ge_iff_le, decide_eq_true_eq] at hcv; simp; omega)]
            rw [hm7]
            exact hA
          · ((conv=>whnf);repeat(first|(refine mvT ?_;conv=>whnf)|(refine mvF ?_;conv=>whnf)|(refine cT (by rfl) ?_;conv=>whnf)|(refine cF (by rfl) ?_;conv=>whnf)))
            refine ⟨_, ⟨rfl, rfl, rfl, rfl, rfl, rfl, rfl, rfl, rfl, trivial⟩, ?_⟩
            rw [if_neg (by simp only [ge_iff_le, decide_eq_false_iff_not] at hcv; simp; omega), List.append_nil]
            exact hA
        clear hA
        rintro r w hA
        ((conv=>whnf);repeat(first|(refine mvT ?_;conv=>whnf)|(refine mvF ?_;conv=>whnf)|(refine cT (by rfl) ?_;conv=>whnf)|(refine cF (by rfl) ?_;conv=>whnf)))
        generalize hm7 : m6 ++ ((if (decide (9 ≤ v) && (decide ((-1 : Int) < 0) || decide (v ≤ (-1)))) = true then fixed (atT x2 2).n 4 else [])) = m7 at hA
        have hl7 : m7.length = m6.length + ((if (decide (9 ≤ v) && (decide ((-1 : Int) < 0) || decide (v ≤ (-1)))) = true then fixed (atT x2 2).n 4 else [])).length := by rw [← hm7, List.length_append]
        refine ⟨_, ld ((hce2.ext hA.ext (hFx _ hb2 hF2)).cell (j := 3) rfl) (by simp <;> omega), ?_⟩; ((conv=>whnf);repeat(first|(refine mvT ?_;conv=>whnf)|(refine mvF ?_;conv=>whnf)|(refine cT (by rfl) ?_;conv=>whnf)|(refine cF (by rfl) ?_;conv=>whnf)))
        have hml2_3 := lsT_len (hok2_.1 3 _ rfl)
        (refine mvB ?_;((conv=>whnf);repeat(first|(refine mvT ?_;conv=>whnf)|(refine mvF ?_;conv=>whnf)|(refine cT (by rfl) ?_;conv=>whnf)|(refine cF (by rfl) ?_;conv=>whnf))))
        refine VC.cutE (fun r => [(1, r), (0, .pointer (some ⟨p, 0, none⟩)), (5, .int .i16 v), (6, .bool fx), (15, .slice (some ⟨b2, o2, none⟩) l2.length k2), (164, .slice (some ⟨b2, o2, none⟩) l2.length k2), (165, .int .i64 l2.length), (166, .int .i64 i2), (17, .pointer (some ⟨b2, o2 + i2 * 5, none⟩)), (21, .slice a2_3 l2_3.length k2_3)]) (fun r w' => Apd w0 B x l (m7 ++ (naA fx (atT x2 3).nl (lsT (atT x2 3)).length)) r w') ?_ ?_
        · refine cI (by rfl) (fun hc=>?_) (fun hc=>?_)
          · ((conv=>whnf);repeat(first|(refine mvT ?_;conv=>whnf)|(refine mvF ?_;conv=>whnf)|(refine cT (by rfl) ?_;conv=>whnf)|(refine cF (by rfl) ?_;conv=>whnf)))
            refine Does.mono (AppendCompactNullableArrayLen_does hA.ob (Nat.le_trans hB hA.size) (by simp only [List.length_append]; omega) l2_3.length (by omega) _) ?_;rintro r w h;((conv=>whnf);repeat(first|(refine mvT ?_;conv=>whnf)|(refine mvF ?_;conv=>whnf)|(refine cT (by rfl) ?_;conv=>whnf)|(refine cF (by rfl) ?_;conv=>whnf)))
            rw [hll2_3, hnn2_3 rfl] at h
            replace hA := hA.tr h
            clear h
            refine ⟨_, ⟨rfl, rfl, rfl, rfl, rfl, rfl, rfl, rfl, rfl, rfl, trivial⟩, ?_⟩
            rw [hc]
            exact hA
          · ((conv=>whnf);repeat(first|(refine mvT ?_;conv=>whnf)|(refine mvF ?_;conv=>whnf)|(refine cT (by rfl) ?_;conv=>whnf)|(refine cF (by rfl) ?_;conv=>whnf)))
            refine Does.mono (AppendNullableArrayLen_does hA.ob (Nat.le_trans hB hA.size) (by simp only [List.length_append]; omega) l2_3.length _) ?_;rintro r w h;((conv=>whnf);repeat(first|(refine mvT ?_;conv=>whnf)|(refine mvF ?_;conv=>whnf)|(refine cT (by rfl) ?_;conv=>whnf)|(refine cF (by rfl) ?_;conv=>whnf)))
            rw [hll2_3, hnn2_3 rfl] at h
            replace hA := hA.tr h
            clear h
            refine ⟨_, ⟨rfl, rfl, rfl, rfl, rfl, rfl, rfl, rfl, rfl, rfl, trivial⟩, ?_⟩
            rw [hc]
            exact hA
        clear hA
        rintro r w hA
        ((conv=>whnf);repeat(first|(refine mvT ?_;conv=>whnf)|(refine mvF ?_;conv=>whnf)|(refine cT (by rfl) ?_;conv=>whnf)|(refine cF (by rfl) ?_;conv=>whnf)))
        generalize hm8 : m7 ++ (naA fx (atT x2 3).nl (lsT (atT x2 3)).length) = m8 at hA
        have hl8 : m8.length = m7.length + (naA fx (atT x2 3).nl (lsT (atT x2 3)).length).length := by rw [← hm8, List.length_append]
        refine VL.loop (fun s : Nat × Value => [(1, s.2), (0, .pointer (some ⟨p, 0, none⟩)), (5, .int .i16 v), (6, .bool fx), (15, .slice (some ⟨b2, o2, none⟩) l2.length k2), (164, .slice (some ⟨b2, o2, none⟩) l2.length k2), (165, .int .i64 l2.length), (166, .int .i64 i2), (17, .pointer (some ⟨b2, o2 + i2 * 5, none⟩)), (21, .slice a2_3 l2_3.length k2_3), (222, .slice a2_3 l2_3.length k2_3), (223, .int .i64 l2_3.length), (224, .int .i64 s.1)])
          (fun s w' => s.1 ≤ l2_3.length ∧ Apd w0 B x l (m8 ++ ((lsT (atT x2 3)).take s.1).flatMap (bOffsetFetchRequestGroupTopic v fx)) s.2 w') (fun s => l2_3.length - s.1) (0, r) ⟨rfl, rfl, rfl, rfl, rfl, rfl, rfl, rfl, rfl, rfl, rfl, rfl, rfl, trivial⟩ ⟨Nat.zero_le _, by rw [List.take_zero, List.flatMap_nil, List.append_nil]; exact hA⟩ ?_
        clear hA
        rintro ⟨i3, r⟩ w ⟨hi3, hA⟩
        dsimp only at hi3 hA
        ((conv=>whnf);repeat(first|(refine mvT ?_;conv=>whnf)|(refine mvF ?_;conv=>whnf)|(refine cT (by rfl) ?_;conv=>whnf)|(refine cF (by rfl) ?_;conv=>whnf)))
        refine cI (by rfl) (fun h9=>?_) (fun h9=>?_)
        · have hil : i3 < l2_3.length := by have := of_decide_eq_true h9; simp only at this; omega
          have hiL3 : i3 < (lsT (atT x2 3)).length := by omega
          obtain ⟨hft, hfl⟩ := flat_take (bOffsetFetchRequestGroupTopic v fx) (lsT (atT x2 3)) i3 hiL3
          obtain ⟨b2_3, o2_3, rfl, hF2_3, hb2_3, hce2_3⟩ := hcl2_3 i3 l2_3[i3] (by simp [hil])
          have hre2_3 := hrl2_3 i3 l2_3[i3] ((lsT (atT x2 3))[i3]) (by simp [hil]) (by simp [hiL3])
          have hlo2_3 := lsT_ok (hok2_.1 3 _ rfl) ((lsT (atT x2 3))[i3]) (List.getElem_mem hiL3)
          generalize hm9 : m8 ++ ((lsT (atT x2 3)).take i3).flatMap (bOffsetFetchRequestGroupTopic v fx) = m9 at hA
          have hl9 : m9.length = m8.length + (((lsT (atT x2 3)).take i3).flatMap (bOffsetFetchRequestGroupTopic v fx)).length := by rw [← hm9, List.length_append]
          obtain ⟨x3, hx3⟩ : ∃ y, y = (lsT (atT x2 3))[i3] := ⟨_, rfl⟩
          rw [← hx3] at hft hfl hre2_3 hlo2_3
          obtain ⟨u3_1_0, u3_1_1, u3_1_2, u3_1_3, u3_1_4, u3_1_5, u3_1_6, u3_1_7, u3_1_8, u3_1_9, u3_1_10, u3_1_11, u3_1_12, u3_1_13, u3_1_14, u3_1_15, c3_2, m3_, hcells, hc3_1, hc3_2, hm3_⟩ := hre2_3
          rw [hcells] at hce2_3
          have hok3_ := hlo2_3.2.2 rfl
          obtain ⟨a3_2, k3_2, l3_2, rfl, hkm3_2, hll3_2, hnn3_2, hcl3_2, hrl3_2⟩ := hc3_2.view
          have hgl : (bOffsetFetchRequestGroupTopic v fx x3).length = (bOffsetFetchRequestGroupTopic v fx x3).length := rfl
          conv at hgl => rhs; unfold bOffsetFetchRequestGroupTopic
          simp only [List.length_append, List.length_nil] at hgl
          ((conv=>whnf);repeat(first|(refine mvT ?_;conv=>whnf)|(refine mvF ?_;conv=>whnf)|(refine cT (by rfl) ?_;conv=>whnf)|(refine cF (by rfl) ?_;conv=>whnf)))
          refine ⟨b2_3, o2_3, rfl, ⟨by omega, by omega⟩, ?_⟩
          ((conv=>whnf);repeat(first|(refine mvT ?_;conv=>whnf)|(refine mvF ?_;conv=>whnf)|(refine cT (by rfl) ?_;conv=>whnf)|(refine cF (by rfl) ?_;conv=>whnf)))
          apply mvG
          rotate_left
          · intro rest cq hcq
            cases cq
            · conv => whnf
              refine VC.cutE (fun r => [(1, r), (0, .pointer (some ⟨p, 0, none⟩)), (5, .int .i16 v), (6, .bool fx), (15, .slice (some ⟨b2, o2, none⟩) l2.length k2), (164, .slice (some ⟨b2, o2, none⟩) l2.length k2), (165, .int .i64 l2.length), (166, .int .i64 i2), (17, .pointer (some ⟨b2, o2 + i2 * 5, none⟩)), (21, .slice (some ⟨b2_3, o2_3, none⟩) l2_3.length k2_3), (222, .slice (some ⟨b2_3, o2_3, none⟩) l2_3.length k2_3), (223, .int .i64 l2_3.length), (224, .int .i64 i3), (23, .pointer (some ⟨b2_3, o2_3 + i3 * 19, none⟩))]) (fun r w' => Apd w0 B x l (m9 ++ ((if (decide (8 ≤ v) && (decide ((9 : Int) < 0) || decide (v ≤ 9))) = true then txA fx (atT x3 0).s else []))) r w') ?_ rest
              have hcv := hcq
              ((conv=>whnf);repeat(first|(refine mvT ?_;conv=>whnf)|(refine mvF ?_;conv=>whnf)|(refine cT (by rfl) ?_;conv=>whnf)|(refine cF (by rfl) ?_;conv=>whnf)))
              refine ⟨_, ⟨rfl, rfl, rfl, rfl, rfl, rfl, rfl, rfl, rfl, rfl, rfl, rfl, rfl, rfl, trivial⟩, ?_⟩
              rw [if_neg (by simp only [ge_iff_le, decide_eq_false_iff_not] at hcv; simp; omega), List.append_nil]
              exact hA
            · conv => whnf
              refine VC.cutE (fun r => [(1, r), (0, .pointer (some ⟨p, 0, none⟩)), (5, .int .i16 v), (6, .bool fx), (15, .slice (some ⟨b2, o2, none⟩) l2.length k2), (164, .slice (some ⟨b2, o2, none⟩) l2.length k2), (165, .int .i64 l2.length), (166, .int .i64 i2), (17, .pointer (some ⟨b2, o2 + i2 * 5, none⟩)), (21, .slice (some ⟨b2_3, o2_3, none⟩) l2_3.length k2_3), (222, .slice (some ⟨b2_3, o2_3, none⟩) l2_3.length k2_3), (223, .int .i64 l2_3.length), (224, .int .i64 i3), (23, .pointer (some ⟨b2_3, o2_3 + i3 * 19, none⟩))]) (fun r w' => Apd w0 B x l (m9 ++ ((if (decide (8 ≤ v) && (decide ((9 : Int) < 0) || decide (v ≤ 9))) = true then txA fx (atT x3 0).s else []))) r w') ?_ rest
              refine cI (by rfl) (fun hcv=>?_) (fun hcv=>?_)
              · ((conv=>whnf);repeat(first|(refine mvT ?_;conv=>whnf)|(refine mvF ?_;conv=>whnf)|(refine cT (by rfl) ?_;conv=>whnf)|(refine cF (by rfl) ?_;conv=>whnf)))
                refine ⟨_, ld ((hce2_3.ext hA.ext (hFx _ hb2_3 hF2_3)).cell (j := 0) rfl) (by simp <;> omega), ?_⟩; ((conv=>whnf);repeat(first|(refine mvT ?_;conv=>whnf)|(refine mvF ?_;conv=>whnf)|(refine cT (by rfl) ?_;conv=>whnf)|(refine cF (by rfl) ?_;conv=>whnf)))
                have hsl := fieldOK_text (hok3_.1 0 _ rfl)
                (refine mvB ?_;((conv=>whnf);repeat(first|(refine mvT ?_;conv=>whnf)|(refine mvF ?_;conv=>whnf)|(refine cT (by rfl) ?_;conv=>whnf)|(refine cF (by rfl) ?_;conv=>whnf))))
                refine cI (by rfl) (fun hc=>?_) (fun hc=>?_)
                · ((conv=>whnf);repeat(first|(refine mvT ?_;conv=>whnf)|(refine mvF ?_;conv=>whnf)|(refine cT (by rfl) ?_;conv=>whnf)|(refine cF (by rfl) ?_;conv=>whnf)))
                  refine Does.mono (AppendCompactString_does hA.ob (Nat.le_trans hB hA.size) _ (by omega) (by simp only [List.length_append]; omega)) ?_;rintro r w h;((conv=>whnf);repeat(first|(refine mvT ?_;conv=>whnf)|(refine mvF ?_;conv=>whnf)|(refine cT (by rfl) ?_;conv=>whnf)|(refine cF (by rfl) ?_;conv=>whnf)))
                  replace hA := hA.tr h
                  clear h
                  refine ⟨_, ⟨rfl, rfl, rfl, rfl, rfl, rfl, rfl, rfl, rfl, rfl, rfl, rfl, rfl, rfl, trivial⟩, ?_⟩
                  rw [if_pos (by simp only [ge_iff_le, decide_eq_true_eq] at hcv hcq; simp; omega), hc]
                  exact hA
                · ((conv=>whnf);repeat(first|(refine mvT ?_;conv=>whnf)|(refine mvF ?_;conv=>whnf)|(refine cT (by rfl) ?_;conv=>whnf)|(refine cF (by rfl) ?_;conv=>whnf)))
                  refine Does.mono (AppendString_does hA.ob (Nat.le_trans hB hA.size) _ (by simp only [List.length_append]; omega)) ?_;rintro r w h;((conv=>whnf);repeat(first|(refine mvT ?_;conv=>whnf)|(refine mvF ?_;conv=>whnf)|(refine cT (by rfl) ?_;conv=>whnf)|(refine cF (by rfl) ?_;conv=>whnf)))
                  replace hA := hA.tr h
                  clear h
                  refine ⟨_, ⟨rfl, rfl, rfl, rfl, rfl, rfl, rfl, rfl, rfl, rfl, rfl, rfl, rfl, rfl, trivial⟩, ?_⟩
                  rw [if_pos (by simp only [ge_iff_le, decide_eq_true_eq] at hcv hcq; simp; omega), hc]
                  exact hA
              · ((conv=>whnf);repeat(first|(refine mvT ?_;conv=>whnf)|(refine mvF ?_;conv=>whnf)|(refine cT (by rfl) ?_;conv=>whnf)|(refine cF (by rfl) ?_;conv=>whnf)))
                refine ⟨_, ⟨rfl, rfl, rfl, rfl, rfl, rfl, rfl, rfl, rfl, rfl, rfl, rfl, rfl, rfl, trivial⟩, ?_⟩
                rw [if_neg (by simp only [ge_iff_le, decide_eq_false_iff_not] at hcv; simp; omega), List.append_nil]
                exact hA
          clear hA
          rintro r w hA
          ((conv=>whnf);repeat(first|(refine mvT ?_;conv=>whnf)|(refine mvF ?_;conv=>whnf)|(refine cT (by rfl) ?_;conv=>whnf)|(refine cF (by rfl) ?_;conv=>whnf)))
          generalize hm10 : m9 ++ ((if (decide (8 ≤ v) && (decide ((9 : Int) < 0) || decide (v ≤ 9))) = true then txA fx (atT x3 0).s else [])) = m10 at hA
          have hl10 : m10.length = m9.length + ((if (decide (8 ≤ v) && (decide ((9 : Int) < 0) || decide (v ≤ 9))) = true then txA fx (atT x3 0).s else [])).length := by rw [← hm10, List.length_append]
          refine VC.cutE (fun r => [(1, r), (0, .pointer (some ⟨p, 0, none⟩)), (5, .int .i16 v), (6, .bool fx), (15, .slice (some ⟨b2, o2, none⟩) l2.length k2), (164, .slice (some ⟨b2, o2, none⟩) l2.length k2), (165, .int .i64 l2.length), (166, .int .i64 i2), (17, .pointer (some ⟨b2, o2 + i2 * 5, none⟩)), (21, .slice (some ⟨b2_3, o2_3, none⟩) l2_3.length k2_3), (222, .slice (some ⟨b2_3, o2_3, none⟩) l2_3.length k2_3), (223, .int .i64 l2_3.length), (224, .int .i64 i3), (23, .pointer (some ⟨b2_3, o2_3 + i3 * 19, none⟩))]) (fun r w' => Apd w0 B x l (m10 ++ ((if (decide (10 ≤ v) && (decide ((-1 : Int) < 0) || decide (v ≤ (-1)))) = true then uuidB (atT x3 1).s else []))) r w') ?_ ?_
          · refine cI (by rfl) (fun hcv=>?_) (fun hcv=>?_)
            · ((conv=>whnf);repeat(first|(refine mvT ?_;conv=>whnf)|(refine mvF ?_;conv=>whnf)|(refine cT (by rfl) ?_;conv=>whnf)|(refine cF (by rfl) ?_;conv=>whnf)))
              refine ⟨_, rfl, Cells.sub2 (hce2_3.ext hA.ext (hFx _ hb2_3 hF2_3)) 1 16 rfl (by simp <;> omega), ?_⟩; ((conv=>whnf);repeat(first|(refine mvT ?_;conv=>whnf)|(refine mvF ?_;conv=>whnf)|(refine cT (by rfl) ?_;conv=>whnf)|(refine cF (by rfl) ?_;conv=>whnf)))
              intro bu wu hbu hou hxu
              ((conv=>whnf);repeat(first|(refine mvT ?_;conv=>whnf)|(refine mvF ?_;conv=>whnf)|(refine cT (by rfl) ?_;conv=>whnf)|(refine cF (by rfl) ?_;conv=>whnf)))
              refine st_all [bcell u3_1_0, bcell u3_1_1, bcell u3_1_2, bcell u3_1_3, bcell u3_1_4, bcell u3_1_5, bcell u3_1_6, bcell u3_1_7, bcell u3_1_8, bcell u3_1_9, bcell u3_1_10, bcell u3_1_11, bcell u3_1_12, bcell u3_1_13, bcell u3_1_14, bcell u3_1_15] hou rfl rfl rfl ?_
              intro wv hov hxv
              ((conv=>whnf);repeat(first|(refine mvT ?_;conv=>whnf)|(refine mvF ?_;conv=>whnf)|(refine cT (by rfl) ?_;conv=>whnf)|(refine cF (by rfl) ?_;conv=>whnf)))
              replace hA := hA.e0 ((Ext.refl nob _).trans (hxu.trans hxv (M' := fun k => k = bu) fun k hk e => by omega) fun _ _ h => h)
              refine ⟨_, rfl, hov.cells, ?_⟩
              ((conv=>whnf);repeat(first|(refine mvT ?_;conv=>whnf)|(refine mvF ?_;conv=>whnf)|(refine cT (by rfl) ?_;conv=>whnf)|(refine cF (by rfl) ?_;conv=>whnf)))
              refine Does.mono (AppendUuid_does (s := [u3_1_0, u3_1_1, u3_1_2, u3_1_3, u3_1_4, u3_1_5, u3_1_6, u3_1_7, u3_1_8, u3_1_9, u3_1_10, u3_1_11, u3_1_12, u3_1_13, u3_1_14, u3_1_15]) hA.ob (Nat.le_trans hB hA.size) (by simp only [List.length_append, List.length_cons, List.length_nil]; omega)) ?_;rintro r w h;((conv=>whnf);repeat(first|(refine mvT ?_;conv=>whnf)|(refine mvF ?_;conv=>whnf)|(refine cT (by rfl) ?_;conv=>whnf)|(refine cF (by rfl) ?_;conv=>whnf)))
              replace hA := hA.tr h
              clear h
              rw [← hc3_1] at hA
              generalize hm11 : m10 ++ (uuidB (atT x3 1).s) = m11 at hA
              have hl11 : m11.length = m10.length + (uuidB (atT x3 1).s).length := by rw [← hm11, List.length_append]
              refine ⟨_, ⟨rfl, rfl, rfl, rfl, rfl, rfl, rfl, rfl, rfl, rfl, rfl, rfl, rfl, rfl, trivial⟩, ?_⟩
              rw [if_pos (by simp only [ge_iff_le, decide_eq_true_eq] at hcv; simp; omega)]
              rw [hm11]
              exact hA
            · ((conv=>whnf);repeat(first|(refine mvT ?_;conv=>whnf)|(refine mvF ?_;conv=>whnf)|(refine cT (by rfl) ?_;conv=>whnf)|(refine cF (by rfl) ?_;conv=>whnf)))
              refine ⟨_, ⟨rfl, rfl, rfl, rfl, rfl, rfl, rfl, rfl, rfl, rfl, rfl, rfl, rfl, rfl, trivial⟩, ?_⟩
              rw [if_neg (by simp only [ge_iff_le, decide_eq_false_iff_not] at hcv; simp; omega), List.append_nil]
              exact hA
          clear hA
          rintro r w hA
          ((conv=>whnf);repeat(first|(refine mvT ?_;conv=>whnf)|(refine mvF ?_;conv=>whnf)|(refine cT (by rfl) ?_;conv=>whnf)|(refine cF (by rfl) ?_;conv=>whnf)))
          generalize hm11 : m10 ++ ((if (decide (10 ≤ v) && (decide ((-1 : Int) < 0) || decide (v ≤ (-1)))) = true then uuidB (atT x3 1).s else [])) = m11 at hA
          have hl11 : m11.length = m10.length + ((if (decide (10 ≤ v) && (decide ((-1 : Int) < 0) || decide (v ≤ (-1)))) = true then uuidB (atT x3 1).s else [])).length := by rw [← hm11, List.length_append]
          refine ⟨_, ld ((hce2_3.ext hA.ext (hFx _ hb2_3 hF2_3)).cell (j := 17) rfl) (by simp <;> omega), ?_⟩; ((conv=>whnf);repeat(first|(refine mvT ?_;conv=>whnf)|(refine mvF ?_;conv=>whnf)|(refine cT (by rfl) ?_;conv=>whnf)|(refine cF (by rfl) ?_;conv=>whnf)))
          have hml3_2 := lsT_len (hok3_.1 2 _ rfl)
          (refine mvB ?_;((conv=>whnf);repeat(first|(refine mvT ?_;conv=>whnf)|(refine mvF ?_;conv=>whnf)|(refine cT (by rfl) ?_;conv=>whnf)|(refine cF (by rfl) ?_;conv=>whnf))))
          refine VC.cutE (fun r => [(1, r), (0, .pointer (some ⟨p, 0, none⟩)), (5, .int .i16 v), (6, .bool fx), (15, .slice (some ⟨b2, o2, none⟩) l2.length k2), (164, .slice (some ⟨b2, o2, none⟩) l2.length k2), (165, .int .i64 l2.length), (166, .int .i64 i2), (17, .pointer (some ⟨b2, o2 + i2 * 5, none⟩)), (21, .slice (some ⟨b2_3, o2_3, none⟩) l2_3.length k2_3), (222, .slice (some ⟨b2_3, o2_3, none⟩) l2_3.length k2_3), (223, .int .i64 l2_3.length), (224, .int .i64 i3), (23, .pointer (some ⟨b2_3, o2_3 + i3 * 19, none⟩)), (26, .slice a3_2 l3_2.length k3_2)]) (fun r w' => Apd w0 B x l (m11 ++ (arA fx (lsT (atT x3 2)).length)) r w') ?_ ?_
          · refine cI (by rfl) (fun hc=>?_) (fun hc=>?_)
            · ((conv=>whnf);repeat(first|(refine mvT ?_;conv=>whnf)|(refine mvF ?_;conv=>whnf)|(refine cT (by rfl) ?_;conv=>whnf)|(refine cF (by rfl) ?_;conv=>whnf)))
              refine Does.mono (AppendCompactArrayLen_does hA.ob (Nat.le_trans hB hA.size) (by simp only [List.length_append]; omega) l3_2.length (by omega)) ?_;rintro r w h;((conv=>whnf);repeat(first|(refine mvT ?_;conv=>whnf)|(refine mvF ?_;conv=>whnf)|(refine cT (by rfl) ?_;conv=>whnf)|(refine cF (by rfl) ?_;conv=>whnf)))
              rw [hll3_2] at h
              replace hA := hA.tr h
              clear h
              refine ⟨_, ⟨rfl, rfl, rfl, rfl, rfl, rfl, rfl, rfl, rfl, rfl, rfl, rfl, rfl, rfl, rfl, trivial⟩, ?_⟩
              rw [hc]
              exact hA
            · ((conv=>whnf);repeat(first|(refine mvT ?_;conv=>whnf)|(refine mvF ?_;conv=>whnf)|(refine cT (by rfl) ?_;conv=>whnf)|(refine cF (by rfl) ?_;conv=>whnf)))
              refine Does.mono (AppendArrayLen_does hA.ob (Nat.le_trans hB hA.size) (by simp only [List.length_append]; omega) l3_2.length) ?_;rintro r w h;((conv=>whnf);repeat(first|(refine mvT ?_;conv=>whnf)|(refine mvF ?_;conv=>whnf)|(refine cT (by rfl) ?_;conv=>whnf)|(refine cF (by rfl) ?_;conv=>whnf)))
              rw [hll3_2] at h
              replace hA := hA.tr h
              clear h
              refine ⟨_, ⟨rfl, rfl, rfl, rfl, rfl, rfl, rfl, rfl, rfl, rfl, rfl, rfl, rfl, rfl, rfl, trivial⟩, ?_⟩
              rw [hc]
              exact hA
          clear hA
          rintro r w hA
          ((conv=>whnf);repeat(first|(refine mvT ?_;conv=>whnf)|(refine mvF ?_;conv=>whnf)|(refine cT (by rfl) ?_;conv=>whnf)|(refine cF (by rfl) ?_;conv=>whnf)))
          generalize hm12 : m11 ++ (arA fx (lsT (atT x3 2)).length) = m12 at hA
          have hl12 : m12.length = m11.length + (arA fx (lsT (atT x3 2)).length).length := by rw [← hm12, List.length_append]
          refine VL.loop (fun s : Nat × Value => [(1, s.2), (0, .pointer (some ⟨p, 0, none⟩)), (5, .int .i16 v), (6, .bool fx), (15, .slice (some ⟨b2, o2, none⟩) l2.length k2), (164, .slice (some ⟨b2, o2, none⟩) l2.length k2), (165, .int .i64 l2.length), (166, .int .i64 i2), (17, .pointer (some ⟨b2, o2 + i2 * 5, none⟩)), (21, .slice (some ⟨b2_3, o2_3, none⟩) l2_3.length k2_3), (222, .slice (some ⟨b2_3, o2_3, none⟩) l2_3.length k2_3), (223, .int .i64 l2_3.length), (224, .int .i64 i3), (23, .pointer (some ⟨b2_3, o2_3 + i3 * 19, none⟩)), (26, .slice a3_2 l3_2.length k3_2), (269, .slice a3_2 l3_2.length k3_2), (270, .int .i64 l3_2.length), (271, .int .i64 s.1)])
            (fun s w' => s.1 ≤ l3_2.length ∧ Apd w0 B x l (m12 ++ ((lsT (atT x3 2)).take s.1).flatMap (fun x => fixed x.n 4)) s.2 w') (fun s => l3_2.length - s.1) (0, r) ⟨rfl, rfl, rfl, rfl, rfl, rfl, rfl, rfl, rfl, rfl, rfl, rfl, rfl, rfl, rfl, rfl, rfl, rfl, trivial⟩ ⟨Nat.zero_le _, by rw [List.take_zero, List.flatMap_nil, List.append_nil]; exact hA⟩ ?_
          clear hA
          rintro ⟨i4, r⟩ w ⟨hi4, hA⟩
          dsimp only at hi4 hA
          ((conv=>whnf);repeat(first|(refine mvT ?_;conv=>whnf)|(refine mvF ?_;conv=>whnf)|(refine cT (by rfl) ?_;conv=>whnf)|(refine cF (by rfl) ?_;conv=>whnf)))
          refine cI (by rfl) (fun h9=>?_) (fun h9=>?_)
          · have hil : i4 < l3_2.length := by have := of_decide_eq_true h9; simp only at this; omega
            have hiL4 : i4 < (lsT (atT x3 2)).length := by omega
            obtain ⟨hft, hfl⟩ := flat_take (fun x => fixed x.n 4) (lsT (atT x3 2)) i4 hiL4
            obtain ⟨b3_2, o3_2, rfl, hF3_2, hb3_2, hce3_2⟩ := hcl3_2 i4 l3_2[i4] (by simp [hil])
            have hre3_2 := hrl3_2 i4 l3_2[i4] ((lsT (atT x3 2))[i4]) (by simp [hil]) (by simp [hiL4])
            have hlo3_2 := lsT_ok (hok3_.1 2 _ rfl) ((lsT (atT x3 2))[i4]) (List.getElem_mem hiL4)
            generalize hm13 : m12 ++ ((lsT (atT x3 2)).take i4).flatMap (fun x => fixed x.n 4) = m13 at hA
            have hl13 : m13.length = m12.length + (((lsT (atT x3 2)).take i4).flatMap (fun x => fixed x.n 4)).length := by rw [← hm13, List.length_append]
            obtain ⟨x4, hx4⟩ : ∃ y, y = (lsT (atT x3 2))[i4] := ⟨_, rfl⟩
            rw [← hx4] at hft hfl hre3_2 hlo3_2
            rw [hre3_2] at hce3_2
            ((conv=>whnf);repeat(first|(refine mvT ?_;conv=>whnf)|(refine mvF ?_;conv=>whnf)|(refine cT (by rfl) ?_;conv=>whnf)|(refine cF (by rfl) ?_;conv=>whnf)))
            refine ⟨b3_2, o3_2, rfl, ⟨by omega, by omega⟩, ?_⟩
            ((conv=>whnf);repeat(first|(refine mvT ?_;conv=>whnf)|(refine mvF ?_;conv=>whnf)|(refine cT (by rfl) ?_;conv=>whnf)|(refine cF (by rfl) ?_;conv=>whnf)))
            refine ⟨_, ld ((hce3_2.ext hA.ext (hFx _ hb3_2 hF3_2)).cell (j := 0) rfl) (by simp), ?_⟩
            ((conv=>whnf);repeat(first|(refine mvT ?_;conv=>whnf)|(refine mvF ?_;conv=>whnf)|(refine cT (by rfl) ?_;conv=>whnf)|(refine cF (by rfl) ?_;conv=>whnf)))
            refine Does.mono (AppendInt32_does hA.ob (Nat.le_trans hB hA.size) (by simp only [List.length_append]; omega) _) ?_;rintro r w h;((conv=>whnf);repeat(first|(refine mvT ?_;conv=>whnf)|(refine mvF ?_;conv=>whnf)|(refine cT (by rfl) ?_;conv=>whnf)|(refine cF (by rfl) ?_;conv=>whnf)))
            rw [fixed4_mod (wrap_i32m _)] at h
            replace hA := hA.tr h
            clear h
            generalize hm14 : m13 ++ (fixed (x4).n 4) = m14 at hA
            have hl14 : m14.length = m13.length + (fixed (x4).n 4).length := by rw [← hm14, List.length_append]
            have hfin : m13 ++ (fun x => fixed x.n 4) x4 = m14 := by simp only [← hm14, List.append_assoc, List.nil_append, List.append_nil]
            refine ⟨(i4 + 1, r), ⟨rfl, rfl, rfl, rfl, rfl, rfl, rfl, rfl, rfl, rfl, rfl, rfl, rfl, rfl, rfl, rfl, rfl, inc_eq (by rw [maxLen_eq] at hkm3_2; omega), trivial⟩, ⟨by simp only; omega, ?_⟩, by simp only; omega⟩
            rw [hft, ← List.append_assoc, hm13, hfin]
            exact hA
          have hil : i4 = l3_2.length := by have := of_decide_eq_false h9; simp only at this; omega
          ((conv=>whnf);repeat(first|(refine mvT ?_;conv=>whnf)|(refine mvF ?_;conv=>whnf)|(refine cT (by rfl) ?_;conv=>whnf)|(refine cF (by rfl) ?_;conv=>whnf)))
          rw [hil, hll3_2, List.take_length] at hA
          generalize hm13 : m12 ++ ((lsT (atT x3 2)).flatMap (fun x => fixed x.n 4)) = m13 at hA
          have hl13 : m13.length = m12.length + ((lsT (atT x3 2)).flatMap (fun x => fixed x.n 4)).length := by rw [← hm13, List.length_append]
          (refine mvB ?_;((conv=>whnf);repeat(first|(refine mvT ?_;conv=>whnf)|(refine mvF ?_;conv=>whnf)|(refine cT (by rfl) ?_;conv=>whnf)|(refine cF (by rfl) ?_;conv=>whnf))))
          refine VC.cutB (fun r => [(1, r), (0, .pointer (some ⟨p, 0, none⟩)), (5, .int .i16 v), (6, .bool fx), (15, .slice (some ⟨b2, o2, none⟩) l2.length k2), (164, .slice (some ⟨b2, o2, none⟩) l2.length k2), (165, .int .i64 l2.length), (166, .int .i64 i2), (17, .pointer (some ⟨b2, o2 + i2 * 5, none⟩)), (21, .slice (some ⟨b2_3, o2_3, none⟩) l2_3.length k2_3), (222, .slice (some ⟨b2_3, o2_3, none⟩) l2_3.length k2_3), (223, .int .i64 l2_3.length), (224, .int .i64 i3), (23, .pointer (some ⟨b2_3, o2_3 + i3 * 19, none⟩))]) (fun r w' => Apd w0 B x l (m13 ++ (tgsB fx (x3).u)) r w') ?_ ?_
          · refine cI (by rfl) (fun hc=>?_) (fun hc=>?_)
            · ((conv=>whnf);repeat(first|(refine mvT ?_;conv=>whnf)|(refine mvF ?_;conv=>whnf)|(refine cT (by rfl) ?_;conv=>whnf)|(refine cF (by rfl) ?_;conv=>whnf)))
              have hul := hok3_.2.len
              refine Does.mono (Tags_Len_does (ld ((hce2_3.ext hA.ext (hFx _ hb2_3 hF2_3)).cell (j := 18) rfl) (by simp <;> omega)) (hm3_.ext hA.ext hFx)) ?_;rintro r w ⟨rfl, rfl⟩;((conv=>whnf);repeat(first|(refine mvT ?_;conv=>whnf)|(refine mvF ?_;conv=>whnf)|(refine cT (by rfl) ?_;conv=>whnf)|(refine cF (by rfl) ?_;conv=>whnf)))
              rw [u32_add0 (by omega)]
              refine Does.mono (AppendUvarint_does hA.ob (Nat.le_trans hB hA.size) (x3).u.length (by omega) (by simp only [List.length_append]; omega)) ?_;rintro r w h;((conv=>whnf);repeat(first|(refine mvT ?_;conv=>whnf)|(refine mvF ?_;conv=>whnf)|(refine cT (by rfl) ?_;conv=>whnf)|(refine cF (by rfl) ?_;conv=>whnf)))
              have hul2 := uvar10 (n := (x3).u.length) (by omega)
              replace hA := hA.tr h
              clear h
              refine Does.mono (AppendEach_does (ld ((hce2_3.ext hA.ext (hFx _ hb2_3 hF2_3)).cell (j := 18) rfl) (by simp <;> omega)) (hm3_.ext hA.ext hFx) hok3_.2 hA.ob (Nat.le_trans hB hA.size) (hA.ne (hFR _ hF2_3).2 (hFR _ hF2_3).1) (fun j _ hf => hA.ne (hFR j hf).2 (hFR j hf).1) (by simp only [List.length_append]; omega)) ?_;rintro r w h;((conv=>whnf);repeat(first|(refine mvT ?_;conv=>whnf)|(refine mvF ?_;conv=>whnf)|(refine cT (by rfl) ?_;conv=>whnf)|(refine cF (by rfl) ?_;conv=>whnf)))
              replace hA := hA.tr h
              clear h
              refine ⟨_, ⟨rfl, rfl, rfl, rfl, rfl, rfl, rfl, rfl, rfl, rfl, rfl, rfl, rfl, rfl, trivial⟩, ?_⟩
              rw [tgsB, if_pos hc, ← List.append_assoc]
              exact hA
            · ((conv=>whnf);repeat(first|(refine mvT ?_;conv=>whnf)|(refine mvF ?_;conv=>whnf)|(refine cT (by rfl) ?_;conv=>whnf)|(refine cF (by rfl) ?_;conv=>whnf)))
              refine ⟨_, ⟨rfl, rfl, rfl, rfl, rfl, rfl, rfl, rfl, rfl, rfl, rfl, rfl, rfl, rfl, trivial⟩, ?_⟩
              rw [tgsB, if_neg (by rw [hc]; decide), List.append_nil]
              exact hA
          clear hA
          rintro r w hA
          ((conv=>whnf);repeat(first|(refine mvT ?_;conv=>whnf)|(refine mvF ?_;conv=>whnf)|(refine cT (by rfl) ?_;conv=>whnf)|(refine cF (by rfl) ?_;conv=>whnf)))
          generalize hm14 : m13 ++ (tgsB fx (x3).u) = m14 at hA
          have hl14 : m14.length = m13.length + (tgsB fx (x3).u).length := by rw [← hm14, List.length_append]
          have hfin : m9 ++ (bOffsetFetchRequestGroupTopic v fx) x3 = m14 := by unfold bOffsetFetchRequestGroupTopic; simp only [← hm14, ← hm13, ← hm12, ← hm11, ← hm10, List.append_assoc, List.nil_append, List.append_nil]
          refine ⟨(i3 + 1, r), ⟨rfl, rfl, rfl, rfl, rfl, rfl, rfl, rfl, rfl, rfl, rfl, rfl, inc_eq (by rw [maxLen_eq] at hkm2_3; omega), trivial⟩, ⟨by simp only; omega, ?_⟩, by simp only; omega⟩
          rw [hft, ← List.append_assoc, hm9, hfin]
          exact hA
        have hil : i3 = l2_3.length := by have := of_decide_eq_false h9; simp only at this; omega
        ((conv=>whnf);repeat(first|(refine mvT ?_;conv=>whnf)|(refine mvF ?_;conv=>whnf)|(refine cT (by rfl) ?_;conv=>whnf)|(refine cF (by rfl) ?_;conv=>whnf)))
        rw [hil, hll2_3, List.take_length] at hA
        generalize hm9 : m8 ++ ((lsT (atT x2 3)).flatMap (bOffsetFetchRequestGroupTopic v fx)) = m9 at hA
        have hl9 : m9.length = m8.length + ((lsT (atT x2 3)).flatMap (bOffsetFetchRequestGroupTopic v fx)).length := by rw [← hm9, List.length_append]
        (refine mvB ?_;((conv=>whnf);repeat(first|(refine mvT ?_;conv=>whnf)|(refine mvF ?_;conv=>whnf)|(refine cT (by rfl) ?_;conv=>whnf)|(refine cF (by rfl) ?_;conv=>whnf))))
        refine VC.cutB (fun r => [(1, r), (0, .pointer (some ⟨p, 0, none⟩)), (5, .int .i16 v), (6, .bool fx), (15, .slice (some ⟨b2, o2, none⟩) l2.length k2), (164, .slice (some ⟨b2, o2, none⟩) l2.length k2), (165, .int .i64 l2.length), (166, .int .i64 i2), (17, .pointer (some ⟨b2, o2 + i2 * 5, none⟩))]) (fun r w' => Apd w0 B x l (m9 ++ (tgsB fx (x2).u)) r w') ?_ ?_
        · refine cI (by rfl) (fun hc=>?_) (fun hc=>?_)
          · ((conv=>whnf);repeat(first|(refine mvT ?_;conv=>whnf)|(refine mvF ?_;conv=>whnf)|(refine cT (by rfl) ?_;conv=>whnf)|(refine cF (by rfl) ?_;conv=>whnf)))
            have hul := hok2_.2.len
            refine Does.mono (Tags_Len_does (ld ((hce2.ext hA.ext (hFx _ hb2 hF2)).cell (j := 4) rfl) (by simp <;> omega)) (hm2_.ext hA.ext hFx)) ?_;rintro r w ⟨rfl, rfl⟩;((conv=>whnf);repeat(first|(refine mvT ?_;conv=>whnf)|(refine mvF ?_;conv=>whnf)|(refine cT (by rfl) ?_;conv=>whnf)|(refine cF (by rfl) ?_;conv=>whnf)))
            rw [u32_add0 (by omega)]
            refine Does.mono (AppendUvarint_does hA.ob (Nat.le_trans hB hA.size) (x2).u.length (by omega) (by simp only [List.length_append]; omega)) ?_;rintro r w h;((conv=>whnf);repeat(first|(refine mvT ?_;conv=>whnf)|(refine mvF ?_;conv=>whnf)|(refine cT (by rfl) ?_;conv=>whnf)|(refine cF (by rfl) ?_;conv=>whnf)))
            have hul2 := uvar10 (n := (x2).u.length) (by omega)
            replace hA := hA.tr h
            clear h
            refine Does.mono (AppendEach_does (ld ((hce2.ext hA.ext (hFx _ hb2 hF2)).cell (j := 4) rfl) (by simp <;> omega)) (hm2_.ext hA.ext hFx) hok2_.2 hA.ob (Nat.le_trans hB hA.size) (hA.ne (hFR _ hF2).2 (hFR _ hF2).1) (fun j _ hf => hA.ne (hFR j hf).2 (hFR j hf).1) (by simp only [List.length_append]; omega)) ?_;rintro r w h;((conv=>whnf);repeat(first|(refine mvT ?_;conv=>whnf)|(refine mvF ?_;conv=>whnf)|(refine cT (by rfl) ?_;conv=>whnf)|(refine cF (by rfl) ?_;conv=>whnf)))
            replace hA := hA.tr h
            clear h
            refine ⟨_, ⟨rfl, rfl, rfl, rfl, rfl, rfl, rfl, rfl, rfl, trivial⟩, ?_⟩
            rw [tgsB, if_pos hc, ← List.append_assoc]
            exact hA
          · ((conv=>whnf);repeat(first|(refine mvT ?_;conv=>whnf)|(refine mvF ?_;conv=>whnf)|(refine cT (by rfl) ?_;conv=>whnf)|(refine cF (by rfl) ?_;conv=>whnf)))
            refine ⟨_, ⟨rfl, rfl, rfl, rfl, rfl, rfl, rfl, rfl, rfl, trivial⟩, ?_⟩
            rw [tgsB, if_neg (by rw [hc]; decide), List.append_nil]
            exact hA
        clear hA
        rintro r w hA
        ((conv=>whnf);repeat(first|(refine mvT ?_;conv=>whnf)|(refine mvF ?_;conv=>whnf)|(refine cT (by rfl) ?_;conv=>whnf)|(refine cF (by rfl) ?_;conv=>whnf)))
        generalize hm10 : m9 ++ (tgsB fx (x2).u) = m10 at hA
        have hl10 : m10.length = m9.length + (tgsB fx (x2).u).length := by rw [← hm10, List.length_append]
        have hfin : m4 ++ (bOffsetFetchRequestGroup v fx) x2 = m10 := by unfold bOffsetFetchRequestGroup; simp only [← hm10, ← hm9, ← hm8, ← hm7, ← hm6, ← hm5, List.append_assoc, List.nil_append, List.append_nil]
        refine ⟨(i2 + 1, r), ⟨rfl, rfl, rfl, rfl, rfl, rfl, rfl, inc_eq (by rw [maxLen_eq] at hkm2; omega), trivial⟩, ⟨by simp only; omega, ?_⟩, by simp only; omega⟩
        rw [hft, ← List.append_assoc, hm4, hfin]
        exact hA
      have hil : i2 = l2.length := by have := of_decide_eq_false h9; simp only at this; omega
      ((conv=>whnf);repeat(first|(refine mvT ?_;conv=>whnf)|(refine mvF ?_;conv=>whnf)|(refine cT (by rfl) ?_;conv=>whnf)|(refine cF (by rfl) ?_;conv=>whnf)))
      rw [hil, hll2, List.take_length] at hA
      generalize hm4 : m3 ++ ((lsT (atT t 2)).flatMap (bOffsetFetchRequestGroup v fx)) = m4 at hA
      have hl4 : m4.length = m3.length + ((lsT (atT t 2)).flatMap (bOffsetFetchRequestGroup v fx)).length := by rw [← hm4, List.length_append]
      refine ⟨_, ⟨rfl, rfl, rfl, rfl, trivial⟩, ?_⟩
      rw [if_pos (by simp only [ge_iff_le, decide_eq_true_eq] at hcv; simp; omega)]
      rw [show m2 ++ (arA fx (lsT (atT t 2)).length ++ (lsT (atT t 2)).flatMap (bOffsetFetchRequestGroup v fx)) = m4 by simp only [← hm4, ← hm3, List.append_assoc]]
      exact hA
    · ((conv=>whnf);repeat(first|(refine mvT ?_;conv=>whnf)|(refine mvF ?_;conv=>whnf)|(refine cT (by rfl) ?_;conv=>whnf)|(refine cF (by rfl) ?_;conv=>whnf)))
      refine ⟨_, ⟨rfl, rfl, rfl, rfl, trivial⟩, ?_⟩
      rw [if_neg (by simp only [ge_iff_le, decide_eq_false_iff_not] at hcv; simp; omega), List.append_nil]
      exact hA
  clear hA
  rintro r w hA
  ((conv=>whnf);repeat(first|(refine mvT ?_;conv=>whnf)|(refine mvF ?_;conv=>whnf)|(refine cT (by rfl) ?_;conv=>whnf)|(refine cF (by rfl) ?_;conv=>whnf)))
  generalize hm3 : m2 ++ ((if (decide (8 ≤ v) && (decide ((-1 : Int) < 0) || decide (v ≤ (-1)))) = true then arA fx (lsT (atT t 2)).length ++ (lsT (atT t 2)).flatMap (bOffsetFetchRequestGroup v fx) else [])) = m3 at hA
  have hl3 : m3.length = m2.length + ((if (decide (8 ≤ v) && (decide ((-1 : Int) < 0) || decide (v ≤ (-1)))) = true then arA fx (lsT (atT t 2)).length ++ (lsT (atT t 2)).flatMap (bOffsetFetchRequestGroup v fx) else [])).length := by rw [← hm3, List.length_append]
  refine VC.cutE (fun r => [(1, r), (0, .pointer (some ⟨p, 0, none⟩)), (5, .int .i16 v), (6, .bool fx)]) (fun r w' => Apd w0 B x l (m3 ++ ((if (decide (7 ≤ v) && (decide ((-1 : Int) < 0) || decide (v ≤ (-1)))) = true then boA (atT t 3).n else []))) r w') ?_ ?_
  · refine cI (by rfl) (fun hcv=>?_) (fun hcv=>?_)
    · ((conv=>whnf);repeat(first|(refine mvT ?_;conv=>whnf)|(refine mvF ?_;conv=>whnf)|(refine cT (by rfl) ?_;conv=>whnf)|(refine cF (by rfl) ?_;conv=>whnf)))
      refine ldS ((hp.ext hA.ext hxp).cell rfl) ?_;((conv=>whnf);repeat(first|(refine mvT ?_;conv=>whnf)|(refine mvF ?_;conv=>whnf)|(refine cT (by rfl) ?_;conv=>whnf)|(refine cF (by rfl) ?_;conv=>whnf)))
      (refine mvB ?_;((conv=>whnf);repeat(first|(refine mvT ?_;conv=>whnf)|(refine mvF ?_;conv=>whnf)|(refine cT (by rfl) ?_;conv=>whnf)|(refine cF (by rfl) ?_;conv=>whnf))))
      refine Does.mono (AppendBool_does hA.ob (Nat.le_trans hB hA.size) (by simp only [List.length_append]; omega) _) ?_;rintro r w h;((conv=>whnf);repeat(first|(refine mvT ?_;conv=>whnf)|(refine mvF ?_;conv=>whnf)|(refine cT (by rfl) ?_;conv=>whnf)|(refine cF (by rfl) ?_;conv=>whnf)))
      replace hA := hA.tr h
      clear h
      rw [bo_eq] at hA
      generalize hm4 : m3 ++ (boA (atT t 3).n) = m4 at hA
      have hl4 : m4.length = m3.length + (boA (atT t 3).n).length := by rw [← hm4, List.length_append]
      refine ⟨_, ⟨rfl, rfl, rfl, rfl, trivial⟩, ?_⟩
      rw [if_pos (by simp only [ge_iff_le, decide_eq_true_eq] at hcv; simp; omega)]
      rw [hm4]
      exact hA
    · ((conv=>whnf);repeat(first|(refine mvT ?_;conv=>whnf)|(refine mvF ?_;conv=>whnf)|(refine cT (by rfl) ?_;conv=>whnf)|(refine cF (by rfl) ?_;conv=>whnf)))
      refine ⟨_, ⟨rfl, rfl, rfl, rfl, trivial⟩, ?_⟩
      rw [if_neg (by simp only [ge_iff_le, decide_eq_false_iff_not] at hcv; simp; omega), List.append_nil]
      exact hA
  clear hA
  rintro r w hA
  ((conv=>whnf);repeat(first|(refine mvT ?_;conv=>whnf)|(refine mvF ?_;conv=>whnf)|(refine cT (by rfl) ?_;conv=>whnf)|(refine cF (by rfl) ?_;conv=>whnf)))
  generalize hm4 : m3 ++ ((if (decide (7 ≤ v) && (decide ((-1 : Int) < 0) || decide (v ≤ (-1)))) = true then boA (atT t 3).n else [])) = m4 at hA
  have hl4 : m4.length = m3.length + ((if (decide (7 ≤ v) && (decide ((-1 : Int) < 0) || decide (v ≤ (-1)))) = true then boA (atT t 3).n else [])).length := by rw [← hm4, List.length_append]
  (refine mvB ?_;((conv=>whnf);repeat(first|(refine mvT ?_;conv=>whnf)|(refine mvF ?_;conv=>whnf)|(refine cT (by rfl) ?_;conv=>whnf)|(refine cF (by rfl) ?_;conv=>whnf))))
  refine VC.cutE (fun r => [(1, r), (0, .pointer (some ⟨p, 0, none⟩)), (5, .int .i16 v), (6, .bool fx)]) (fun r w' => Apd w0 B x l (m4 ++ (tgsB fx (t).u)) r w') ?_ ?_
  · refine cI (by rfl) (fun hc=>?_) (fun hc=>?_)
    · ((conv=>whnf);repeat(first|(refine mvT ?_;conv=>whnf)|(refine mvF ?_;conv=>whnf)|(refine cT (by rfl) ?_;conv=>whnf)|(refine cF (by rfl) ?_;conv=>whnf)))
      have hul := hok.2.len
      refine Does.mono (Tags_Len_does ((hp.ext hA.ext hxp).cell rfl) (hm.ext hA.ext hFx)) ?_;rintro r w ⟨rfl, rfl⟩;((conv=>whnf);repeat(first|(refine mvT ?_;conv=>whnf)|(refine mvF ?_;conv=>whnf)|(refine cT (by rfl) ?_;conv=>whnf)|(refine cF (by rfl) ?_;conv=>whnf)))
      rw [u32_add0 (by omega)]
      refine Does.mono (AppendUvarint_does hA.ob (Nat.le_trans hB hA.size) (t).u.length (by omega) (by simp only [List.length_append]; omega)) ?_;rintro r w h;((conv=>whnf);repeat(first|(refine mvT ?_;conv=>whnf)|(refine mvF ?_;conv=>whnf)|(refine cT (by rfl) ?_;conv=>whnf)|(refine cF (by rfl) ?_;conv=>whnf)))
      have hul2 := uvar10 (n := (t).u.length) (by omega)
      replace hA := hA.tr h
      clear h
      refine Does.mono (AppendEach_does ((hp.ext hA.ext hxp).cell rfl) (hm.ext hA.ext hFx) hok.2 hA.ob (Nat.le_trans hB hA.size) (hA.ne hxp hpl) (fun j _ hf => hA.ne (hFR j hf).2 (hFR j hf).1) (by simp only [List.length_append]; omega)) ?_;rintro r w h;((conv=>whnf);repeat(first|(refine mvT ?_;conv=>whnf)|(refine mvF ?_;conv=>whnf)|(refine cT (by rfl) ?_;conv=>whnf)|(refine cF (by rfl) ?_;conv=>whnf)))
      replace hA := hA.tr h
      clear h
      refine ⟨_, ⟨rfl, rfl, rfl, rfl, trivial⟩, ?_⟩
      rw [tgsB, if_pos hc, ← List.append_assoc]
      exact hA
    · ((conv=>whnf);repeat(first|(refine mvT ?_;conv=>whnf)|(refine mvF ?_;conv=>whnf)|(refine cT (by rfl) ?_;conv=>whnf)|(refine cF (by rfl) ?_;conv=>whnf)))
      refine ⟨_, ⟨rfl, rfl, rfl, rfl, trivial⟩, ?_⟩
      rw [tgsB, if_neg (by rw [hc]; decide), List.append_nil]
      exact hA
  clear hA
  rintro r w hA
  ((conv=>whnf);repeat(first|(refine mvT ?_;conv=>whnf)|(refine mvF ?_;conv=>whnf)|(refine cT (by rfl) ?_;conv=>whnf)|(refine cF (by rfl) ?_;conv=>whnf)))
  generalize hm5 : m4 ++ (tgsB fx (t).u) = m5 at hA
  have hl5 : m5.length = m4.length + (tgsB fx (t).u).length := by rw [← hm5, List.length_append]
  show Apd w0 B x l _ r w
  rw [show bOffsetFetchRequest v fx t = m5 by unfold bOffsetFetchRequest; simp only [← hm5, ← hm4, ← hm3, ← hm2, ← hm1, hm0, List.append_assoc, List.nil_append, List.append_nil]]
  exact hA
theorem qOffsetFetchRequestTopic {w : World} {F : Nat → Prop} {cs : List Value} {t : T} (h : QPart true 8 dOffsetFetchRequestTopic ⟨w, F⟩ cs t) : rOffsetFetchRequestTopic w F cs t := by
  obtain ⟨_, _, u_, m, rfl, rfl, hA0, hm⟩ := iP h
  clear h
  obtain ⟨cc0, _, x0, _, rfl, rfl, h0, hA1⟩ := iA hA0
  obtain ⟨n0, rfl, rfl⟩ := iF8 (by decide) h0
  obtain ⟨cc1, _, x1, _, rfl, rfl, h1, hA2⟩ := iA hA1
  obtain ⟨c1, rfl, hh1⟩ := iF11 (tg := true) (d := 7) (wf := ⟨w, F⟩) (of := 3) (sub := []) (sz := 1) (R := (fun c x => c = [.int .i32 (IntKind.i32.wrap x.n)])) rfl iE3 h1
  obtain ⟨rfl, rfl⟩ := hA2
  exact ⟨c1, m, rfl, hh1, hm⟩
theorem qOffsetFetchRequestGroupTopic {w : World} {F : Nat → Prop} {cs : List Value} {t : T} (h : QPart true 7 dOffsetFetchRequestGroupTopic ⟨w, F⟩ cs t) : rOffsetFetchRequestGroupTopic w F cs t := by
  obtain ⟨_, _, u_, m, rfl, rfl, hA0, hm⟩ := iP h
  clear h
  obtain ⟨cc0, _, x0, _, rfl, rfl, h0, hA1⟩ := iA hA0
  obtain ⟨n0, rfl, rfl⟩ := iF8 (by decide) h0
  obtain ⟨cc1, _, x1, _, rfl, rfl, h1, hA2⟩ := iA hA1
  obtain ⟨u1_0, u1_1, u1_2, u1_3, u1_4, u1_5, u1_6, u1_7, u1_8, u1_9, u1_10, u1_11, u1_12, u1_13, u1_14, u1_15, rfl, rfl⟩ := iF7 h1
  obtain ⟨cc2, _, x2, _, rfl, rfl, h2, hA3⟩ := iA hA2
  obtain ⟨c2, rfl, hh2⟩ := iF11 (tg := true) (d := 6) (wf := ⟨w, F⟩) (of := 3) (sub := []) (sz := 1) (R := (fun c x => c = [.int .i32 (IntKind.i32.wrap x.n)])) rfl iE3 h2
  obtain ⟨rfl, rfl⟩ := hA3
  exact ⟨u1_0, u1_1, u1_2, u1_3, u1_4, u1_5, u1_6, u1_7, u1_8, u1_9, u1_10, u1_11, u1_12, u1_13, u1_14, u1_15, c2, m, rfl, rfl, hh2, hm⟩
theorem qOffsetFetchRequestGroup {w : World} {F : Nat → Prop} {cs : List Value} {t : T} (h : QPart true 8 dOffsetFetchRequestGroup ⟨w, F⟩ cs t) : rOffsetFetchRequestGroup w F cs t := by
  obtain ⟨_, _, u_, m, rfl, rfl, hA0, hm⟩ := iP h
  clear h
  obtain ⟨cc0, _, x0, _, rfl, rfl, h0, hA1⟩ := iA hA0
  obtain ⟨n0, rfl, rfl⟩ := iF8 (by decide) h0
  obtain ⟨cc1, _, x1, _, rfl, rfl, h1, hA2⟩ := iA hA1
  obtain ⟨c1, rfl, hh1⟩ := iF8n (by decide) h1
  obtain ⟨cc2, _, x2, _, rfl, rfl, h2, hA3⟩ := iA hA2
  obtain ⟨n2, rfl, rfl⟩ := iF3 h2
  obtain ⟨cc3, _, x3, _, rfl, rfl, h3, hA4⟩ := iA hA3
  obtain ⟨c3, rfl, hh3⟩ := iF11 (tg := true) (d := 7) (wf := ⟨w, F⟩) (of := 10) (sub := dOffsetFetchRequestGroupTopic) (sz := 19) (R := (rOffsetFetchRequestGroupTopic w F)) rfl (fun c y hc => qOffsetFetchRequestGroupTopic hc) h3
  obtain ⟨rfl, rfl⟩ := hA4
  exact ⟨c1, c3, m, rfl, hh1, hh3, hm⟩
theorem qOffsetFetchRequest {w : World} {F : Nat → Prop} {cs : List Value} {t : T} (h : QPart true 9 dOffsetFetchRequest ⟨w, F⟩ cs t) : ∃ c1 c2 m, cs = [str (atT t 0).s, c1, c2, .bool (decide ((atT t 3).n % 2 = 1)), m] ∧ ListR true 3 (rOffsetFetchRequestTopic w F) w F c1 (atT t 1) ∧ ListR true 5 (rOffsetFetchRequestGroup w F) w F c2 (atT t 2) ∧ TagsR w F m t.u := by
  obtain ⟨_, _, u_, m, rfl, rfl, hA0, hm⟩ := iP h
  clear h
  obtain ⟨cc0, _, x0, _, rfl, rfl, h0, hA1⟩ := iA hA0
  obtain ⟨n0, rfl, rfl⟩ := iF8 (by decide) h0
  obtain ⟨cc1, _, x1, _, rfl, rfl, h1, hA2⟩ := iA hA1
  obtain ⟨c1, rfl, hh1⟩ := iF11 (tg := true) (d := 8) (wf := ⟨w, F⟩) (of := 10) (sub := dOffsetFetchRequestTopic) (sz := 3) (R := (rOffsetFetchRequestTopic w F)) rfl (fun c y hc => qOffsetFetchRequestTopic hc) h1
  obtain ⟨cc2, _, x2, _, rfl, rfl, h2, hA3⟩ := iA hA2
  obtain ⟨c2, rfl, hh2⟩ := iF11 (tg := true) (d := 8) (wf := ⟨w, F⟩) (of := 10) (sub := dOffsetFetchRequestGroup) (sz := 5) (R := (rOffsetFetchRequestGroup w F)) rfl (fun c y hc => qOffsetFetchRequestGroup hc) h2
  obtain ⟨cc3, _, x3, _, rfl, rfl, h3, hA4⟩ := iA hA3
  obtain ⟨n3, rfl, rfl⟩ := iF0 h3
  obtain ⟨rfl, rfl⟩ := hA4
  exact ⟨c1, c2, m, rfl, hh1, hh2, hm⟩
theorem newOffsetFetchRequest (w : World) : Does X.P 15 #[] w fun r w' => ∃ p, r = .pointer (some ⟨p, 0, none⟩) ∧ w.heap.size ≤ p ∧ Own w' p 69 [.int .i16 0, str [], .slice none 0 0, .slice none 0 0, .bool false, .map none] ∧ Ext nob w w' := by
  refine Does.go (X := X) (l := []) Tryz.func15 rfl (by kernel_rfl) (by kernel_rfl) _ rfl ?_
  ((conv=>whnf);repeat(first|(refine mvT ?_;conv=>whnf)|(refine mvF ?_;conv=>whnf)|(refine cT (by rfl) ?_;conv=>whnf)|(refine cF (by rfl) ?_;conv=>whnf)))
  intro p w1 hp ho hx
  ((conv=>whnf);repeat(first|(refine mvT ?_;conv=>whnf)|(refine mvF ?_;conv=>whnf)|(refine cT (by rfl) ?_;conv=>whnf)|(refine cF (by rfl) ?_;conv=>whnf)))
  refine Does.mono (dfOffsetFetchRequest (pre := []) (cur := [.int .i16 0, str [], .slice none 0 0, .slice none 0 0, .bool false, .map none]) (post := []) (by simpa using ho) rfl rfl) ?_;rintro r2 w2 ⟨hd, hx2⟩;((conv=>whnf);repeat(first|(refine mvT ?_;conv=>whnf)|(refine mvF ?_;conv=>whnf)|(refine cT (by rfl) ?_;conv=>whnf)|(refine cF (by rfl) ?_;conv=>whnf)))
  exact ⟨p, rfl, hp, by simpa using hd, hx.st hx2 hp⟩
theorem maxOffsetFetchRequest (w : World) : Does X.P 6 #[] w fun r w' => r = .int .i64 10 ∧ Ext nob w w' := by
  have hmax : ∀ (p : Nat) (w : World), Does X.P 16 #[.pointer (some ⟨p, 0, none⟩)] w fun r w' => r = .int .i16 10 ∧ w' = w := by
    intro p w
    refine Does.go (X := X) (l := [_]) Tryz.func16 rfl (by kernel_rfl) (by kernel_rfl) _ rfl ?_
    ((conv=>whnf);repeat(first|(refine mvT ?_;conv=>whnf)|(refine mvF ?_;conv=>whnf)|(refine cT (by rfl) ?_;conv=>whnf)|(refine cF (by rfl) ?_;conv=>whnf)))
    exact ⟨rfl, rfl⟩
  refine Does.go (X := X) (l := []) Tryz.func6 rfl (by kernel_rfl) (by kernel_rfl) _ rfl ?_
  ((conv=>whnf);repeat(first|(refine mvT ?_;conv=>whnf)|(refine mvF ?_;conv=>whnf)|(refine cT (by rfl) ?_;conv=>whnf)|(refine cF (by rfl) ?_;conv=>whnf)))
  refine Does.mono (newOffsetFetchRequest w) ?_;rintro r1 w1 ⟨p, rfl, _, _, hx⟩;((conv=>whnf);repeat(first|(refine mvT ?_;conv=>whnf)|(refine mvF ?_;conv=>whnf)|(refine cT (by rfl) ?_;conv=>whnf)|(refine cF (by rfl) ?_;conv=>whnf)))
  refine Does.mono (hmax p w1) ?_;rintro r2 w2 ⟨rfl, rfl⟩;((conv=>whnf);repeat(first|(refine mvT ?_;conv=>whnf)|(refine mvF ?_;conv=>whnf)|(refine cT (by rfl) ?_;conv=>whnf)|(refine cF (by rfl) ?_;conv=>whnf)))
  exact ⟨rfl, hx⟩
theorem frameOffsetFetchRequest {G : Nat → Prop} {w : World} {v num : Int} {has : Bool} {x ev : Value} {s id : List UInt8} {t : T} (hL : Laid w ev) (hx : Bytes w G x s) (hv : 0 ≤ v) (hv2 : v < 32768) (hid : id.length ≤ 32767)
    (hrd : rdPart 9 v (decide (v ≥ 6)) dOffsetFetchRequest (s, false) = (t, ([], false))) (hok : partOK 9 v dOffsetFetchRequest t) (hs : s.length ≤ 100000000000000) (hl : (bOffsetFetchRequest v (decide (v ≥ 6)) t).length ≤ 90000000000000) :
    Does X.P 10 #[.agg #[.bool has, str id], .int .i32 num, .int .i64 v, x] w fun r w' => ∃ o, r = .tuple #[o, .bool true] ∧ OB w' w.heap.size o (fixed (headB 9 v num (decide (v ≥ 6)) (.mk 0 id (!has) [] []) ++ bOffsetFetchRequest v (decide (v ≥ 6)) t).length 4 ++ (headB 9 v num (decide (v ≥ 6)) (.mk 0 id (!has) [] []) ++ bOffsetFetchRequest v (decide (v ≥ 6)) t)) ∧ Ext nob w w' := by
  have hv16 : IntKind.i16.wrap v = v := by
    simp only [IntKind.wrap, IntKind.bits, IntKind.signed]
    simp
    omega
  obtain ⟨ax, cx, rfl, _⟩ := hx.view
  have hL1 := hL.lt
  refine Does.go (X := X) (l := [_, _, _, _]) Tryz.func10 rfl (by kernel_rfl) (by kernel_rfl) _ rfl ?_
  ((conv=>whnf);repeat(first|(refine mvT ?_;conv=>whnf)|(refine mvF ?_;conv=>whnf)|(refine cT (by rfl) ?_;conv=>whnf)|(refine cF (by rfl) ?_;conv=>whnf)))
  intro b w0 hb ho hx0
  have ho : Own w0 b 23 [.bool has, str id] := ho
  ((conv=>whnf);repeat(first|(refine mvT ?_;conv=>whnf)|(refine mvF ?_;conv=>whnf)|(refine cT (by rfl) ?_;conv=>whnf)|(refine cF (by rfl) ?_;conv=>whnf)))
  refine Does.mono (newOffsetFetchRequest w0) ?_;rintro r1 w1 ⟨p, rfl, hwp, hop, hx1⟩;((conv=>whnf);repeat(first|(refine mvT ?_;conv=>whnf)|(refine mvF ?_;conv=>whnf)|(refine cT (by rfl) ?_;conv=>whnf)|(refine cF (by rfl) ?_;conv=>whnf)))
  have hwp : w.heap.size ≤ p := Nat.le_trans hx0.size hwp
  have hpb : p ≠ b := by have := ho.lt; omega
  have hx01 := hx0.e0 hx1
  have hset : Does X.P 20 #[.pointer (some ⟨p, 0, none⟩), .int .i16 (IntKind.i16.wrap v)] w1 fun r w' => Own w' p 69 [.int .i16 v, str [], .slice none 0 0, .slice none 0 0, .bool false, .map none] ∧ Ext (fun k => k = p) w1 w' := by
    rw [hv16]
    refine Does.go (X := X) (l := [_, _]) Tryz.func20 rfl (by kernel_rfl) (by kernel_rfl) _ rfl ?_
    ((conv=>whnf);repeat(first|(refine mvT ?_;conv=>whnf)|(refine mvF ?_;conv=>whnf)|(refine cT (by rfl) ?_;conv=>whnf)|(refine cF (by rfl) ?_;conv=>whnf)))
    refine ⟨_, _, hop, rfl, rfl, rfl, ?_⟩
    intro w3 ho3 hx3
    ((conv=>whnf);repeat(first|(refine mvT ?_;conv=>whnf)|(refine mvF ?_;conv=>whnf)|(refine cT (by rfl) ?_;conv=>whnf)|(refine cF (by rfl) ?_;conv=>whnf)))
    exact ⟨ho3, hx3⟩
  refine Does.mono (hset) ?_;rintro r2 w2 ⟨hop2, hx2⟩;((conv=>whnf);repeat(first|(refine mvT ?_;conv=>whnf)|(refine mvF ?_;conv=>whnf)|(refine cT (by rfl) ?_;conv=>whnf)|(refine cF (by rfl) ?_;conv=>whnf)))
  have hx02 := hx01.st hx2 hwp
  have ho2 := (ho.e0 hx1).ext hx2 (fun e => hpb e.symm)
  refine app_bytes rfl rfl (OB.nil w2 w2.heap.size) (hx.e0 hx02).src rfl (by simp only [List.length_nil]; omega) (Nat.le_refl _) ?_
  intro x3 w3 h3 hx3 _ _
  ((conv=>whnf);repeat(first|(refine mvT ?_;conv=>whnf)|(refine mvF ?_;conv=>whnf)|(refine cT (by rfl) ?_;conv=>whnf)|(refine cF (by rfl) ?_;conv=>whnf)))
  rw [List.nil_append] at h3
  have hx3 : Ext nob w2 w3 := hx3.mono fun k _ h => by simp [Value.ownBlock] at h
  have hx03 := hx02.e0 hx3
  have hpl := hop2.lt
  have hread : Does X.P 21 #[.pointer (some ⟨p, 0, none⟩), x3] w3 fun r w' => RdPost w3 p 69 v (decide (v ≥ 6)) true dOffsetFetchRequest ev s r w' := by
    obtain ⟨a3, c3, rfl, _⟩ := h3.shape
    refine Does.go (X := X) (l := [_, _]) Tryz.func21 rfl (by kernel_rfl) (by kernel_rfl) _ rfl ?_
    ((conv=>whnf);repeat(first|(refine mvT ?_;conv=>whnf)|(refine mvF ?_;conv=>whnf)|(refine cT (by rfl) ?_;conv=>whnf)|(refine cF (by rfl) ?_;conv=>whnf)))
    refine Does.mono (readOffsetFetchRequest (hL.ext hx03 fun f => f) (hop2.e0 hx3) (h3.bytes (F := fun k => k ≠ p) fun k hk => by omega) (fun k h => h) hv (by omega)) ?_;rintro r w' h;((conv=>whnf);repeat(first|(refine mvT ?_;conv=>whnf)|(refine mvF ?_;conv=>whnf)|(refine cT (by rfl) ?_;conv=>whnf)|(refine cF (by rfl) ?_;conv=>whnf)))
    exact h
  refine Does.mono hread ?_
  rintro r4 w4 ⟨hr4, hx4, hpost⟩
  rw [hrd] at hr4 hpost
  obtain rfl : r4 = .nilIface := hr4.trans (if_neg Bool.false_ne_true)
  obtain ⟨cs, hop4, hq⟩ := hpost rfl
  obtain ⟨c1, c2, m, rfl, hc1, hc2, hm⟩ := qOffsetFetchRequest hq
  ((conv=>whnf);repeat(first|(refine mvT ?_;conv=>whnf)|(refine mvF ?_;conv=>whnf)|(refine cT (by rfl) ?_;conv=>whnf)|(refine cF (by rfl) ?_;conv=>whnf)))
  have hx04 := hx03.st hx4 hwp
  have ho4 := (ho2.e0 hx3).ext hx4 (fun e => hpb e.symm)
  refine ⟨_, rfl, ho4.cells, ?_⟩
  ((conv=>whnf);repeat(first|(refine mvT ?_;conv=>whnf)|(refine mvF ?_;conv=>whnf)|(refine cT (by rfl) ?_;conv=>whnf)|(refine cF (by rfl) ?_;conv=>whnf)))
  have hpl4 := hop4.lt
  have hM : ReqM w4 46 p 9 v (decide (v ≥ 6)) (bOffsetFetchRequest v (decide (v ≥ 6)) t) 97 95 96 94 := by
    refine ⟨fun _ => by kernel_rfl, fun _ => by kernel_rfl, fun _ => by kernel_rfl, fun _ => by kernel_rfl, fun w => ?_, fun w5 hx5 => ?_, fun w5 hx5 => ?_, fun w5 y l hx5 hoy hly => ?_⟩
    · refine Does.go (X := X) (l := [_]) Tryz.func97 rfl (by kernel_rfl) (by kernel_rfl) _ rfl ?_
      ((conv=>whnf);repeat(first|(refine mvT ?_;conv=>whnf)|(refine mvF ?_;conv=>whnf)|(refine cT (by rfl) ?_;conv=>whnf)|(refine cF (by rfl) ?_;conv=>whnf)))
      exact ⟨rfl, rfl⟩
    · refine Does.go (X := X) (l := [_]) Tryz.func95 rfl (by kernel_rfl) (by kernel_rfl) _ rfl ?_
      ((conv=>whnf);repeat(first|(refine mvT ?_;conv=>whnf)|(refine mvF ?_;conv=>whnf)|(refine cT (by rfl) ?_;conv=>whnf)|(refine cF (by rfl) ?_;conv=>whnf)))
      refine ldS ((hop4.e0 hx5).cell rfl) ?_;((conv=>whnf);repeat(first|(refine mvT ?_;conv=>whnf)|(refine mvF ?_;conv=>whnf)|(refine cT (by rfl) ?_;conv=>whnf)|(refine cF (by rfl) ?_;conv=>whnf)))
      exact ⟨rfl, rfl⟩
    · refine Does.go (X := X) (l := [_]) Tryz.func96 rfl (by kernel_rfl) (by kernel_rfl) _ rfl ?_
      ((conv=>whnf);repeat(first|(refine mvT ?_;conv=>whnf)|(refine mvF ?_;conv=>whnf)|(refine cT (by rfl) ?_;conv=>whnf)|(refine cF (by rfl) ?_;conv=>whnf)))
      refine ldS ((hop4.e0 hx5).cell rfl) ?_;((conv=>whnf);repeat(first|(refine mvT ?_;conv=>whnf)|(refine mvF ?_;conv=>whnf)|(refine cT (by rfl) ?_;conv=>whnf)|(refine cF (by rfl) ?_;conv=>whnf)))
      exact ⟨rfl, rfl⟩
    · obtain ⟨F4, hF4⟩ : ∃ F4 : Nat → Prop, F4 = fun k => k ≠ p ∧ k < w4.heap.size := ⟨_, rfl⟩
      exact appOffsetFetchRequest (F := fun k => k ≠ p ∧ k < w4.heap.size) (hop4.e0 hx5) (by have := (hc1.mono (F' := F4) (fun k h1 h2 => by rw [hF4]; exact ⟨h2, h1⟩) (fun _ _ h => rOffsetFetchRequestTopic_mono (F' := F4) h fun k h1 h2 => by rw [hF4]; exact ⟨h2, h1⟩)).ext hx5 (fun _ _ _ f => f) (fun _ _ h => rOffsetFetchRequestTopic_ext h hx5 fun _ _ _ f => f); rw [hF4] at this; exact this) (by have := (hc2.mono (F' := F4) (fun k h1 h2 => by rw [hF4]; exact ⟨h2, h1⟩) (fun _ _ h => rOffsetFetchRequestGroup_mono (F' := F4) h fun k h1 h2 => by rw [hF4]; exact ⟨h2, h1⟩)).ext hx5 (fun _ _ _ f => f) (fun _ _ h => rOffsetFetchRequestGroup_ext h hx5 fun _ _ _ f => f); rw [hF4] at this; exact this) (by have := (hm.mono (F' := F4) fun k h1 h2 => by rw [hF4]; exact ⟨h2, h1⟩).ext hx5 fun _ _ _ f => f; rw [hF4] at this; exact this) hok (fun j _ hj e => by have := hoy.blk j e; have := hj.2; omega) (fun e => by have := hoy.blk p e; omega) hoy hx5.size hv (by omega)
  refine Does.mono (framed_does (w := w4) (num := num) hM (by decide) hid (by omega)) ?_
  rintro r6 w6 ⟨h6, hx6⟩
  ((conv=>whnf);repeat(first|(refine mvT ?_;conv=>whnf)|(refine mvF ?_;conv=>whnf)|(refine cT (by rfl) ?_;conv=>whnf)|(refine cF (by rfl) ?_;conv=>whnf)))
  exact ⟨r6, rfl, h6.mono hx04.size, hx04.e0 hx6⟩
theorem walkOffsetFetchRequest {w : World} {n : Nat} (hn : n < 256) {has : Bool} {id : List UInt8} {num : Int} {x ev : Value} {t : T} (hL : Laid w ev) (ht : Tr w anyB x t) (hsz : wtT t ≤ 1048576) : Does X.P 3 #[.int .u8 n, .agg #[.bool has, str id], .int .i32 num, x] w fun r w' => r = .bool true ∧ Ext nob w w' := by
  have hkeys := ht.keys
  obtain ⟨sv, lv, uv, ls, rfl, _⟩ := ht.open
  refine Does.go (X := X) (l := [_, _, _, _]) Tryz.func3 rfl (by kernel_rfl) (by kernel_rfl) _ rfl ?_
  ((conv=>whnf);repeat(first|(refine mvT ?_;conv=>whnf)|(refine mvF ?_;conv=>whnf)|(refine cT (by rfl) ?_;conv=>whnf)|(refine cF (by rfl) ?_;conv=>whnf)))
  intro bi wi hbi hoi hxi
  have hoi : Own wi bi 23 [.bool has, str id] := hoi
  ((conv=>whnf);repeat(first|(refine mvT ?_;conv=>whnf)|(refine mvF ?_;conv=>whnf)|(refine cT (by rfl) ?_;conv=>whnf)|(refine cF (by rfl) ?_;conv=>whnf)))
  intro b w1 hb ho hx1
  have hx := hxi.e0 hx1
  have hoi := hoi.e0 hx1
  ((conv=>whnf);repeat(first|(refine mvT ?_;conv=>whnf)|(refine mvF ?_;conv=>whnf)|(refine cT (by rfl) ?_;conv=>whnf)|(refine cF (by rfl) ?_;conv=>whnf)))
  refine ⟨_, rfl, hoi.cells, ?_⟩
  ((conv=>whnf);repeat(first|(refine mvT ?_;conv=>whnf)|(refine mvF ?_;conv=>whnf)|(refine cT (by rfl) ?_;conv=>whnf)|(refine cF (by rfl) ?_;conv=>whnf)))
  refine Does.mono (zzFits4_does (w := w1)) ?_;rintro ra wa ⟨⟨ba, rfl⟩, hxa⟩;((conv=>whnf);repeat(first|(refine mvT ?_;conv=>whnf)|(refine mvF ?_;conv=>whnf)|(refine cT (by rfl) ?_;conv=>whnf)|(refine cF (by rfl) ?_;conv=>whnf)))
  have hx := hx.e0 hxa
  have hoi := hoi.e0 hxa
  have ho := ho.e0 hxa
  cases ba with
  | false =>
    ((conv=>whnf);repeat(first|(refine mvT ?_;conv=>whnf)|(refine mvF ?_;conv=>whnf)|(refine cT (by rfl) ?_;conv=>whnf)|(refine cF (by rfl) ?_;conv=>whnf)))
    exact ⟨rfl, hx⟩
  | true =>
  ((conv=>whnf);repeat(first|(refine mvT ?_;conv=>whnf)|(refine mvF ?_;conv=>whnf)|(refine cT (by rfl) ?_;conv=>whnf)|(refine cF (by rfl) ?_;conv=>whnf)))
  refine ⟨_, rfl, ho.cells, ?_⟩
  ((conv=>whnf);repeat(first|(refine mvT ?_;conv=>whnf)|(refine mvF ?_;conv=>whnf)|(refine cT (by rfl) ?_;conv=>whnf)|(refine cF (by rfl) ?_;conv=>whnf)))
  refine Does.mono (zzFits1_does (ht.e0 hx)) ?_;rintro r2 w2 ⟨⟨b2, rfl⟩, hx2⟩;((conv=>whnf);repeat(first|(refine mvT ?_;conv=>whnf)|(refine mvF ?_;conv=>whnf)|(refine cT (by rfl) ?_;conv=>whnf)|(refine cF (by rfl) ?_;conv=>whnf)))
  have hx02 := hx.e0 hx2
  refine cI (by rfl) (fun h1=>?_) (fun h1=>?_)
  · ((conv=>whnf);repeat(first|(refine mvT ?_;conv=>whnf)|(refine mvF ?_;conv=>whnf)|(refine cT (by rfl) ?_;conv=>whnf)|(refine cF (by rfl) ?_;conv=>whnf)))
    exact ⟨rfl, hx02⟩
  · ((conv=>whnf);repeat(first|(refine mvT ?_;conv=>whnf)|(refine mvF ?_;conv=>whnf)|(refine cT (by rfl) ?_;conv=>whnf)|(refine cF (by rfl) ?_;conv=>whnf)))
    refine Does.mono (maxOffsetFetchRequest w2) ?_;rintro r3 w3 ⟨rfl, hx3⟩;((conv=>whnf);repeat(first|(refine mvT ?_;conv=>whnf)|(refine mvF ?_;conv=>whnf)|(refine cT (by rfl) ?_;conv=>whnf)|(refine cF (by rfl) ?_;conv=>whnf)))
    refine Does.mono (sOffsetFetchRequest w3) ?_;rintro r4 w4 ⟨⟨fv, rfl, hfd⟩, hx4⟩;((conv=>whnf);repeat(first|(refine mvT ?_;conv=>whnf)|(refine mvF ?_;conv=>whnf)|(refine cT (by rfl) ?_;conv=>whnf)|(refine cF (by rfl) ?_;conv=>whnf)))
    have hone := hfd
    obtain ⟨ls3, hsl3, _⟩ := hone
    obtain ⟨a3, c3, rfl, _⟩ := hsl3.view
    refine Does.mono (version_does n 10 hn (by omega) w4) ?_;rintro r5 w5 ⟨rfl, rfl⟩;((conv=>whnf);repeat(first|(refine mvT ?_;conv=>whnf)|(refine mvF ?_;conv=>whnf)|(refine cT (by rfl) ?_;conv=>whnf)|(refine cF (by rfl) ?_;conv=>whnf)))
    intro b6 w6 hb6 ho6 hx6
    ((conv=>whnf);repeat(first|(refine mvT ?_;conv=>whnf)|(refine mvF ?_;conv=>whnf)|(refine cT (by rfl) ?_;conv=>whnf)|(refine cF (by rfl) ?_;conv=>whnf)))
    refine ⟨_, _, ho6, rfl, rfl, rfl, ?_⟩
    intro w7 ho7 hx7
    have hx57 : Ext nob w5 w7 := hx6.st hx7 hb6
    ((conv=>whnf);repeat(first|(refine mvT ?_;conv=>whnf)|(refine mvF ?_;conv=>whnf)|(refine cT (by rfl) ?_;conv=>whnf)|(refine cF (by rfl) ?_;conv=>whnf)))
    have hx27 : Ext nob w2 w7 := (hx3.e0 hx4).e0 hx57
    have hx07 : Ext nob w w7 := hx02.e0 hx27
    have ho1 := (ho.e0 hx2).e0 hx27
    have hoi1 := (hoi.e0 hx2).e0 hx27
    generalize hvv : ((n % (10 + 1) : Nat) : Int) = v
    have hv0 : 0 ≤ v := by omega
    have hv1 : v < 32768 := by omega
    have hok : ∀ f, f ∈ dOffsetFetchRequest → okF 9 f = true := List.all_eq_true.1 (show (dOffsetFetchRequest).all (okF 9) = true by decide)
    have hnt : ∀ f, f ∈ dOffsetFetchRequest → ntF 9 f = true := List.all_eq_true.1 (show (dOffsetFetchRequest).all (ntF 9) = true by decide)
    have hrr : ∀ f, f ∈ dOffsetFetchRequest → okR 6 9 f = true := List.all_eq_true.1 (show (dOffsetFetchRequest).all (okR 6 9) = true by decide)
    have hww : ∀ f, f ∈ dOffsetFetchRequest → okW 9 f = true := List.all_eq_true.1 (show (dOffsetFetchRequest).all (okW 9) = true by decide)
    refine ldS (hoi1.cell rfl) ?_;((conv=>whnf);repeat(first|(refine mvT ?_;conv=>whnf)|(refine mvF ?_;conv=>whnf)|(refine cT (by rfl) ?_;conv=>whnf)|(refine cF (by rfl) ?_;conv=>whnf)))
    refine cI (by rfl) (fun hd=>?_) (fun hd=>?_)
    · ((conv=>whnf);repeat(first|(refine mvT ?_;conv=>whnf)|(refine mvF ?_;conv=>whnf)|(refine cT (by rfl) ?_;conv=>whnf)|(refine cF (by rfl) ?_;conv=>whnf)))
      exact ⟨rfl, hx07⟩
    · have hl1 : id.length ≤ 32767 := by have := of_decide_eq_false hd; simp only [ByteArray.size, List.size_toArray] at this; omega
      ((conv=>whnf);repeat(first|(refine mvT ?_;conv=>whnf)|(refine mvF ?_;conv=>whnf)|(refine cT (by rfl) ?_;conv=>whnf)|(refine cF (by rfl) ?_;conv=>whnf)))
      refine ⟨_, rfl, ho7.cells, ?_⟩
      ((conv=>whnf);repeat(first|(refine mvT ?_;conv=>whnf)|(refine mvF ?_;conv=>whnf)|(refine cT (by rfl) ?_;conv=>whnf)|(refine cF (by rfl) ?_;conv=>whnf)))
      refine ⟨_, rfl, ho1.cells, ?_⟩
      ((conv=>whnf);repeat(first|(refine mvT ?_;conv=>whnf)|(refine mvF ?_;conv=>whnf)|(refine cT (by rfl) ?_;conv=>whnf)|(refine cF (by rfl) ?_;conv=>whnf)))
      have hfx : decide (v ≥ 6) = flexB 6 v := by simp [flexB]
      have hlen : (partB 9 v (flexB 6 v) dOffsetFetchRequest t).length ≤ 90000000000000 := Nat.le_trans (partB_wt 9 v _ dOffsetFetchRequest t hnt hkeys) (Nat.le_trans (Nat.mul_le_mul_left _ hsz) (Nat.le_of_ble_eq_true rfl))
      have hoe : partB 9 v (flexB 6 v) oOffsetFetchRequest t = partB 9 v (flexB 6 v) dOffsetFetchRequest t := partB_nn 9 9 v _ dOffsetFetchRequest t
      refine Does.mono (write_does 9 (v := v) ⟨_, rfl, hfd.e0 hx57⟩ (ht.e0 hx07) (List.all_eq_true.1 (show (oOffsetFetchRequest).all (okF 9) = true by decide)) (by decide) (Nat.le_trans (by rw [hoe]; exact hlen) (by decide))) ?_
      rintro r8 w8 ⟨hr8, hx8⟩
      rw [hoe] at hr8
      obtain ⟨a8, c8, rfl, _⟩ := hr8.shape
      ((conv=>whnf);repeat(first|(refine mvT ?_;conv=>whnf)|(refine mvF ?_;conv=>whnf)|(refine cT (by rfl) ?_;conv=>whnf)|(refine cF (by rfl) ?_;conv=>whnf)))
      have hx08 := hx07.e0 hx8
      have hoi8 := hoi1.e0 hx8
      have ho78 := ho7.e0 hx8
      have hrd : rdPart 9 v (decide (v ≥ 6)) dOffsetFetchRequest (partB 9 v (flexB 6 v) dOffsetFetchRequest t, false) = (toPart 9 v (decide (v ≥ 6)) dOffsetFetchRequest t, ([], false)) := by
        have := part_read 9 6 v dOffsetFetchRequest t hnt hrr hkeys hv0 []
        rw [List.append_nil] at this
        rw [hfx]
        exact this
      have hokT := part_okT 9 v (decide (v ≥ 6)) dOffsetFetchRequest t hnt hww hkeys hv0
      have hlaw : bOffsetFetchRequest v (decide (v ≥ 6)) (toPart 9 v (decide (v ≥ 6)) dOffsetFetchRequest t) = partB 9 v (flexB 6 v) dOffsetFetchRequest t := by
        rw [← bOffsetFetchRequest_eq hv0 hokT, hfx]
        exact partT_law 9 v _ dOffsetFetchRequest t hnt hww
      refine ⟨_, rfl, hoi8.cells, ?_⟩
      ((conv=>whnf);repeat(first|(refine mvT ?_;conv=>whnf)|(refine mvF ?_;conv=>whnf)|(refine cT (by rfl) ?_;conv=>whnf)|(refine cF (by rfl) ?_;conv=>whnf)))
      refine Does.mono (frameOffsetFetchRequest (v := v) (num := num) (hL.ext hx08 fun f => f) hr8.bytesAny hv0 hv1 hl1 hrd hokT (by omega) (by rw [hlaw]; omega)) ?_
      rintro r9 w9 ⟨o9, rfl, ho9, hx9⟩
      rw [hlaw] at ho9
      obtain ⟨a9, c9, rfl, _⟩ := ho9.shape
      ((conv=>whnf);repeat(first|(refine mvT ?_;conv=>whnf)|(refine mvF ?_;conv=>whnf)|(refine cT (by rfl) ?_;conv=>whnf)|(refine cF (by rfl) ?_;conv=>whnf)))
      have hx09 := hx08.e0 hx9
      have hoi9 := hoi8.e0 hx9
      have ho79 := ho78.e0 hx9
      have hr89 := hr8.e0 hx9
      refine VD.draw mixed (.q 0 (.q 1 (.q 2 (.q 3 (.q 4 (.q 5 (.q 6 (.q 7 (.q 8 (.q 10 (.q 11 (.q 13 (.alt (.eff 9 [6, 10] (.eff 12 [6, 8] (.eff 14 [] (.eff 15 [] (.q 16 (.eff 17 [] (.done))))))) (.eff 12 [6, 8] (.eff 9 [6, 10] (.eff 14 [] (.eff 15 [] (.q 16 (.eff 17 [] (.done)))))))))))))))))))) (by kernel_rfl) ?_;((conv=>whnf);repeat(first|(refine mvT ?_;conv=>whnf)|(refine mvF ?_;conv=>whnf)|(refine cT (by rfl) ?_;conv=>whnf)|(refine cF (by rfl) ?_;conv=>whnf)))
      have hxd : Ext nob w9 w9.drew := ext_drew _
      have hoid := hoi9.e0 hxd
      have ho7d := ho79.e0 hxd
      refine ldS (hoid.cell rfl) ?_;((conv=>whnf);repeat(first|(refine mvT ?_;conv=>whnf)|(refine mvF ?_;conv=>whnf)|(refine cT (by rfl) ?_;conv=>whnf)|(refine cF (by rfl) ?_;conv=>whnf)))
      refine ldS (hoid.cell rfl) ?_;((conv=>whnf);repeat(first|(refine mvT ?_;conv=>whnf)|(refine mvF ?_;conv=>whnf)|(refine cT (by rfl) ?_;conv=>whnf)|(refine cF (by rfl) ?_;conv=>whnf)))
      refine ⟨_, rfl, ho7d.cells, ?_⟩
      ((conv=>whnf);repeat(first|(refine mvT ?_;conv=>whnf)|(refine mvF ?_;conv=>whnf)|(refine cT (by rfl) ?_;conv=>whnf)|(refine cF (by rfl) ?_;conv=>whnf)))
      have ag6 : ∀ {w' : World}, Ext nob w9 w' → w'.cell? ⟨bi, 0 + 0, none⟩ = some (.bool has) := fun h => (hoi9.e0 h).cell rfl
      have ag8 : ∀ {w' : World}, Ext nob w9 w' → w'.cell? ⟨bi, 0 + 1, none⟩ = some (str id) := fun h => (hoi9.e0 h).cell rfl
      have hB : ∀ {w' : World} {b c : Nat}, Cells w' b 0 (id.map bcell) → b < w'.heap.size → id.length ≤ c ∧ c ≤ maxLen → Bytes w' anyB (.slice (some ⟨b, 0, none⟩) id.length c) id := fun h1 h2 h3 => ⟨_, _, rfl, h3, by simp, .inr ⟨_, _, rfl, trivial, h2, h1⟩⟩
      constructor
      · conv => whnf
        refine ⟨by rw [maxLen_eq]; simp only [ByteArray.size, List.size_toArray]; omega, ?_⟩
        intro b10 c10 w10 hb10 hbl10 hC10 hc10 hx10
        simp only [ByteArray.size, List.size_toArray] at hC10 hc10
        have hx9 : Ext nob w9 w10 := hxd.e0 hx10
        refine ⟨by (conv => whnf); exact ⟨⟨_, ag6 hx9, rfl, rfl⟩, ⟨_, rfl, (ho79.e0 hx9).cells, rfl, rfl⟩, trivial⟩, ?_⟩
        conv => whnf
        refine Does.mono (Flexible_does (w := w10)) ?_
        rintro r12 w12 ⟨rfl, hx12⟩
        have hx9 := hx9.e0 hx12
        refine ⟨by (conv => whnf); exact ⟨⟨_, ag6 hx9, rfl, rfl⟩, ⟨_, ag8 hx9, rfl, rfl⟩, trivial⟩, ?_⟩
        conv => whnf
        refine Does.mono (Frame_does (has := has) (num := num) ((hB hC10 hbl10 hc10).e0 hx12) (hr89.e0 hx9).bytesAny hl1 (by omega)) ?_
        rintro r14 w14 ⟨h14, hx14⟩
        obtain ⟨a14, c14, rfl, _⟩ := h14.shape
        have hx9 := hx9.e0 hx14
        ((conv=>whnf);repeat(first|(refine mvT ?_;conv=>whnf)|(refine mvF ?_;conv=>whnf)|(refine cT (by rfl) ?_;conv=>whnf)|(refine cF (by rfl) ?_;conv=>whnf)))
        refine Does.mono (Same_does (ho9.e0 hx9).bytesAny h14.bytesAny) ?_
        rintro r15 w15 ⟨rfl, hx15⟩
        ((conv=>whnf);repeat(first|(refine mvT ?_;conv=>whnf)|(refine mvF ?_;conv=>whnf)|(refine cT (by rfl) ?_;conv=>whnf)|(refine cF (by rfl) ?_;conv=>whnf)))
        exact ⟨by simp [oneOr, hfx], (hx09.e0 hx9).e0 hx15⟩
      · conv => whnf
        refine Does.mono (Flexible_does (w := w9.drew)) ?_
        rintro r12 w12 ⟨rfl, hx12⟩
        have hx9 := hxd.e0 hx12
        refine ⟨by (conv => whnf); exact ⟨⟨_, ag6 hx9, rfl, rfl⟩, ⟨_, ag8 hx9, rfl, rfl⟩, trivial⟩, ?_⟩
        conv => whnf
        refine ⟨by rw [maxLen_eq]; simp only [ByteArray.size, List.size_toArray]; omega, ?_⟩
        intro b10 c10 w10 hb10 hbl10 hC10 hc10 hx10
        simp only [ByteArray.size, List.size_toArray] at hC10 hc10
        have hx9 := hx9.e0 hx10
        refine ⟨by (conv => whnf); exact ⟨⟨_, ag6 hx9, rfl, rfl⟩, ⟨_, rfl, (ho79.e0 hx9).cells, rfl, rfl⟩, trivial⟩, ?_⟩
        conv => whnf
        refine Does.mono (Frame_does (has := has) (num := num) (hB hC10 hbl10 hc10) (hr89.e0 hx9).bytesAny hl1 (by omega)) ?_
        rintro r14 w14 ⟨h14, hx14⟩
        obtain ⟨a14, c14, rfl, _⟩ := h14.shape
        have hx9 := hx9.e0 hx14
        ((conv=>whnf);repeat(first|(refine mvT ?_;conv=>whnf)|(refine mvF ?_;conv=>whnf)|(refine cT (by rfl) ?_;conv=>whnf)|(refine cF (by rfl) ?_;conv=>whnf)))
        refine Does.mono (Same_does (ho9.e0 hx9).bytesAny h14.bytesAny) ?_
        rintro r15 w15 ⟨rfl, hx15⟩
        ((conv=>whnf);repeat(first|(refine mvT ?_;conv=>whnf)|(refine mvF ?_;conv=>whnf)|(refine cT (by rfl) ?_;conv=>whnf)|(refine cF (by rfl) ?_;conv=>whnf)))
        exact ⟨by simp [oneOr, hfx], (hx09.e0 hx9).e0 hx15⟩
end Go.Proofs.YtlnhbbpmlfaakaaGreatDoorR.K
