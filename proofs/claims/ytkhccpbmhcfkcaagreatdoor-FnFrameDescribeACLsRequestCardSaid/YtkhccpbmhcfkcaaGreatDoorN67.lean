/- DescribeACLsRequest is read and written as a whole request. -/
import Derived.Test.YtkhccpbmhcfkcaaGreatDoorH1
import Derived.Test.YtkhccpbmhcfkcaaGreatDoorV67
import Derived.Test.YtkhccpbmhcfkcaaGreatDoorGversion
set_option linter.unusedVariables false
set_option linter.unusedSimpArgs false
namespace Go.Proofs.YtkhccpbmhcfkcaaGreatDoor.K
open Go
set_option maxHeartbeats 1600000
set_option maxRecDepth 100000

def bDescribeACLsRequest (v : Int) (fx : Bool) (t : T) : List UInt8 := ((fixed (atT t 0).n 1) ++ ((ntA fx (atT t 1).nl (atT t 1).s) ++ (((if (decide (1 ≤ v) && (decide ((-1 : Int) < 0) || decide (v ≤ (-1)))) = true then fixed (atT t 2).n 1 else [])) ++ ((ntA fx (atT t 3).nl (atT t 3).s) ++ ((ntA fx (atT t 4).nl (atT t 4).s) ++ ((fixed (atT t 5).n 1) ++ ((fixed (atT t 6).n 1) ++ ([])))))))) ++ tgsB fx t.u
theorem bDescribeACLsRequest_eq {v : Int} {fx : Bool} {t : T} (hv : 0 ≤ v) (hok : partOK 9 v dDescribeACLsRequest t) : partA 9 v fx dDescribeACLsRequest t = bDescribeACLsRequest v fx t := by
  unfold partA partAW bDescribeACLsRequest
  have hf := hok.1 0 _ rfl
  rw [plainW_all hv]
  have hf := hok.1 1 _ rfl
  rw [plainW_all hv]
  rw [nt_eq hf (by decide) (.inr hv)]
  have hf := hok.1 2 _ rfl
  rw [plainW_ver]
  have hf := hok.1 3 _ rfl
  rw [plainW_all hv]
  rw [nt_eq hf (by decide) (.inr hv)]
  have hf := hok.1 4 _ rfl
  rw [plainW_all hv]
  rw [nt_eq hf (by decide) (.inr hv)]
  have hf := hok.1 5 _ rfl
  rw [plainW_all hv]
  have hf := hok.1 6 _ rfl
  rw [plainW_all hv]
  rfl
theorem appDescribeACLsRequest {F : Nat → Prop} {w0 : World} {p B : Nat} {ty : TypeId} {v : Int} {x c1 c3 c4 m : Value} {l : List UInt8} {t : T} (hp : Own w0 p ty [.int .i16 v, .int .i8 (IntKind.i8.wrap (atT t 0).n), c1, .int .i8 (IntKind.i8.wrap (atT t 2).n), c3, c4, .int .i8 (IntKind.i8.wrap (atT t 5).n), .int .i8 (IntKind.i8.wrap (atT t 6).n), m]) (hc1 : NTextR w0 F c1 (atT t 1)) (hc3 : NTextR w0 F c3 (atT t 3)) (hc4 : NTextR w0 F c4 (atT t 4)) (hm : TagsR w0 F m t.u) (hok : partOK 9 v dDescribeACLsRequest t)
    (hF : ∀ j, j < w0.heap.size → F j → x.ownBlock ≠ some j) (hxp : x.ownBlock ≠ some p) (hx : OB w0 B x l) (hB : B ≤ w0.heap.size) (hv : 0 ≤ v) (hl : l.length + (bDescribeACLsRequest v (decide (v ≥ 2)) t).length ≤ 100000000000000) :
    Does X.P 216 #[.pointer (some ⟨p, 0, none⟩), x] w0 fun r w' => Apd w0 B x l (bDescribeACLsRequest v (decide (v ≥ 2)) t) r w' := by
  have hpl := hp.lt
  obtain ⟨fx, hfx⟩ : ∃ fx, fx = decide (v ≥ 2) := ⟨_, rfl⟩
  rw [← hfx] at hl ⊢
  unfold bDescribeACLsRequest at hl
  simp only [List.length_append, List.length_nil] at hl
  obtain ⟨F0, hFR, hFx, hcs⟩ : ∃ F0 : Nat → Prop, (∀ j, F0 j → j < w0.heap.size ∧ x.ownBlock ≠ some j) ∧ (∀ j, j < w0.heap.size → F0 j → ¬ x.ownBlock = some j) ∧ (NTextR w0 F0 c1 (atT t 1) ∧ NTextR w0 F0 c3 (atT t 3) ∧ NTextR w0 F0 c4 (atT t 4) ∧ TagsR w0 F0 m t.u) :=
    ⟨fun j => F j ∧ j < w0.heap.size, fun j h => ⟨h.2, hF j h.2 h.1⟩, fun j _ h => hF j h.2 h.1, hc1.mono (fun k h1 h2 => ⟨h2, h1⟩), hc3.mono (fun k h1 h2 => ⟨h2, h1⟩), hc4.mono (fun k h1 h2 => ⟨h2, h1⟩), hm.mono fun k h1 h2 => ⟨h2, h1⟩⟩
  clear hm hc1 hc3 hc4 hF
  obtain ⟨hc1, hc3, hc4, hm⟩ := hcs
  have hA := Apd.start hx
  obtain ⟨m0, hm0⟩ : ∃ m0 : List UInt8, m0 = [] := ⟨_, rfl⟩
  rw [← hm0] at hA
  have hl0 : m0.length = 0 := by rw [hm0]; rfl
  refine Does.go (X := X) (l := [_, _]) Tryz.func216 rfl (by kernel_rfl) (by kernel_rfl) _ rfl ?_
  ((conv=>whnf);repeat(first|(refine mvT ?_;conv=>whnf)|(refine mvF ?_;conv=>whnf)|(refine cT (by rfl) ?_;conv=>whnf)|(refine cF (by rfl) ?_;conv=>whnf)))
  refine ldS (hp.cell rfl) ?_;((conv=>whnf);repeat(first|(refine mvT ?_;conv=>whnf)|(refine mvF ?_;conv=>whnf)|(refine cT (by rfl) ?_;conv=>whnf)|(refine cF (by rfl) ?_;conv=>whnf)))
  rw [← hfx]
  (refine mvB ?_;((conv=>whnf);repeat(first|(refine mvT ?_;conv=>whnf)|(refine mvF ?_;conv=>whnf)|(refine cT (by rfl) ?_;conv=>whnf)|(refine cF (by rfl) ?_;conv=>whnf))))
  refine ldS ((hp.ext hA.ext hxp).cell rfl) ?_;((conv=>whnf);repeat(first|(refine mvT ?_;conv=>whnf)|(refine mvF ?_;conv=>whnf)|(refine cT (by rfl) ?_;conv=>whnf)|(refine cF (by rfl) ?_;conv=>whnf)))
  refine Does.mono (AppendInt8_does hA.ob (Nat.le_trans hB hA.size) (by simp only [List.length_append]; omega) _) ?_;rintro r w h;((conv=>whnf);repeat(first|(refine mvT ?_;conv=>whnf)|(refine mvF ?_;conv=>whnf)|(refine cT (by rfl) ?_;conv=>whnf)|(refine cF (by rfl) ?_;conv=>whnf)))
  rw [fixed1_mod (wrap_i8m _)] at h
  replace hA := hA.tr h
  clear h
  generalize hm1 : m0 ++ (fixed (atT t 0).n 1) = m1 at hA
  have hl1 : m1.length = m0.length + (fixed (atT t 0).n 1).length := by rw [← hm1, List.length_append]
  refine ldS ((hp.ext hA.ext hxp).cell rfl) ?_;((conv=>whnf);repeat(first|(refine mvT ?_;conv=>whnf)|(refine mvF ?_;conv=>whnf)|(refine cT (by rfl) ?_;conv=>whnf)|(refine cF (by rfl) ?_;conv=>whnf)))
  have hsl := fieldOK_text (hok.1 1 _ rfl)
  (refine mvB ?_;((conv=>whnf);repeat(first|(refine mvT ?_;conv=>whnf)|(refine mvF ?_;conv=>whnf)|(refine cT (by rfl) ?_;conv=>whnf)|(refine cF (by rfl) ?_;conv=>whnf))))
  refine VC.cutE (fun r => [(1, r), (0, .pointer (some ⟨p, 0, none⟩)), (5, .int .i16 v), (6, .bool fx)]) (fun r w' => Apd w0 B x l (m1 ++ (ntA fx (atT t 1).nl (atT t 1).s)) r w') ?_ ?_
  · refine cI (by rfl) (fun hc=>?_) (fun hc=>?_)
    · ((conv=>whnf);repeat(first|(refine mvT ?_;conv=>whnf)|(refine mvF ?_;conv=>whnf)|(refine cT (by rfl) ?_;conv=>whnf)|(refine cF (by rfl) ?_;conv=>whnf)))
      refine Does.mono (AppendCompactNullableString_R hA.ob (Nat.le_trans hB hA.size) (hc1.ext hA.ext hFx) hsl (by simp only [List.length_append]; omega)) ?_;rintro r w h;((conv=>whnf);repeat(first|(refine mvT ?_;conv=>whnf)|(refine mvF ?_;conv=>whnf)|(refine cT (by rfl) ?_;conv=>whnf)|(refine cF (by rfl) ?_;conv=>whnf)))
      replace hA := hA.tr h
      clear h
      refine ⟨_, ⟨rfl, rfl, rfl, rfl, trivial⟩, ?_⟩
      rw [hc]
      exact hA
    · ((conv=>whnf);repeat(first|(refine mvT ?_;conv=>whnf)|(refine mvF ?_;conv=>whnf)|(refine cT (by rfl) ?_;conv=>whnf)|(refine cF (by rfl) ?_;conv=>whnf)))
      refine Does.mono (AppendNullableString_R hA.ob (Nat.le_trans hB hA.size) (hc1.ext hA.ext hFx) (by simp only [List.length_append]; omega)) ?_;rintro r w h;((conv=>whnf);repeat(first|(refine mvT ?_;conv=>whnf)|(refine mvF ?_;conv=>whnf)|(refine cT (by rfl) ?_;conv=>whnf)|(refine cF (by rfl) ?_;conv=>whnf)))
      replace hA := hA.tr h
      clear h
      refine ⟨_, ⟨rfl, rfl, rfl, rfl, trivial⟩, ?_⟩
      rw [hc]
      exact hA
  clear hA
  rintro r w hA
  ((conv=>whnf);repeat(first|(refine mvT ?_;conv=>whnf)|(refine mvF ?_;conv=>whnf)|(refine cT (by rfl) ?_;conv=>whnf)|(refine cF (by rfl) ?_;conv=>whnf)))
  generalize hm2 : m1 ++ (ntA fx (atT t 1).nl (atT t 1).s) = m2 at hA
  have hl2 : m2.length = m1.length + (ntA fx (atT t 1).nl (atT t 1).s).length := by rw [← hm2, List.length_append]
  refine VC.cutE (fun r => [(1, r), (0, .pointer (some ⟨p, 0, none⟩)), (5, .int .i16 v), (6, .bool fx)]) (fun r w' => Apd w0 B x l (m2 ++ ((if (decide (1 ≤ v) && (decide ((-1 : Int) < 0) || decide (v ≤ (-1)))) = true then fixed (atT t 2).n 1 else []))) r w') ?_ ?_
  · refine cI (by rfl) (fun hcv=>?_) (fun hcv=>?_)
    · ((conv=>whnf);repeat(first|(refine mvT ?_;conv=>whnf)|(refine mvF ?_;conv=>whnf)|(refine cT (by rfl) ?_;conv=>whnf)|(refine cF (by rfl) ?_;conv=>whnf)))
      refine ldS ((hp.ext hA.ext hxp).cell rfl) ?_;((conv=>whnf);repeat(first|(refine mvT ?_;conv=>whnf)|(refine mvF ?_;conv=>whnf)|(refine cT (by rfl) ?_;conv=>whnf)|(refine cF (by rfl) ?_;conv=>whnf)))
      refine Does.mono (AppendInt8_does hA.ob (Nat.le_trans hB hA.size) (by simp only [List.length_append]; omega) _) ?_;rintro r w h;((conv=>whnf);repeat(first|(refine mvT ?_;conv=>whnf)|(refine mvF ?_;conv=>whnf)|(refine cT (by rfl) ?_;conv=>whnf)|(refine cF (by rfl) ?_;conv=>whnf)))
      rw [fixed1_mod (wrap_i8m _)] at h
      replace hA := hA.tr h
      clear h
      generalize hm3 : m2 ++ (fixed (atT t 2).n 1) = m3 at hA
      have hl3 : m3.length = m2.length + (fixed (atT t 2).n 1).length := by rw [← hm3, List.length_append]
      refine ⟨_, ⟨rfl, rfl, rfl, rfl, trivial⟩, ?_⟩
      rw [if_pos (by simp only [ge_iff_le, decide_eq_true_eq] at hcv; simp; omega)]
      rw [hm3]
      exact hA
    · ((conv=>whnf);repeat(first|(refine mvT ?_;conv=>whnf)|(refine mvF ?_;conv=>whnf)|(refine cT (by rfl) ?_;conv=>whnf)|(refine cF (by rfl) ?_;conv=>whnf)))
      refine ⟨_, ⟨rfl, rfl, rfl, rfl, trivial⟩, ?_⟩
      rw [if_neg (by simp only [ge_iff_le, decide_eq_false_iff_not] at hcv; simp; omega), List.append_nil]
      exact hA
  clear hA
  rintro r w hA
  ((conv=>whnf);repeat(first|(refine mvT ?_;conv=>whnf)|(refine mvF ?_;conv=>whnf)|(refine cT (by rfl) ?_;conv=>whnf)|(refine cF (by rfl) ?_;conv=>whnf)))
  generalize hm3 : m2 ++ ((if (decide (1 ≤ v) && (decide ((-1 : Int) < 0) || decide (v ≤ (-1)))) = true then fixed (atT t 2).n 1 else [])) = m3 at hA
  have hl3 : m3.length = m2.length + ((if (decide (1 ≤ v) && (decide ((-1 : Int) < 0) || decide (v ≤ (-1)))) = true then fixed (atT t 2).n 1 else [])).length := by rw [← hm3, List.length_append]
  refine ldS ((hp.ext hA.ext hxp).cell rfl) ?_;((conv=>whnf);repeat(first|(refine mvT ?_;conv=>whnf)|(refine mvF ?_;conv=>whnf)|(refine cT (by rfl) ?_;conv=>whnf)|(refine cF (by rfl) ?_;conv=>whnf)))
  have hsl := fieldOK_text (hok.1 3 _ rfl)
  (refine mvB ?_;((conv=>whnf);repeat(first|(refine mvT ?_;conv=>whnf)|(refine mvF ?_;conv=>whnf)|(refine cT (by rfl) ?_;conv=>whnf)|(refine cF (by rfl) ?_;conv=>whnf))))
  refine VC.cutE (fun r => [(1, r), (0, .pointer (some ⟨p, 0, none⟩)), (5, .int .i16 v), (6, .bool fx)]) (fun r w' => Apd w0 B x l (m3 ++ (ntA fx (atT t 3).nl (atT t 3).s)) r w') ?_ ?_
  · refine cI (by rfl) (fun hc=>?_) (fun hc=>?_)
    · ((conv=>whnf);repeat(first|(refine mvT ?_;conv=>whnf)|(refine mvF ?_;conv=>whnf)|(refine cT (by rfl) ?_;conv=>whnf)|(refine cF (by rfl) ?_;conv=>whnf)))
      refine Does.mono (AppendCompactNullableString_R hA.ob (Nat.le_trans hB hA.size) (hc3.ext hA.ext hFx) hsl (by simp only [List.length_append]; omega)) ?_;rintro r w h;((conv=>whnf);repeat(first|(refine mvT ?_;conv=>whnf)|(refine mvF ?_;conv=>whnf)|(refine cT (by rfl) ?_;conv=>whnf)|(refine cF (by rfl) ?_;conv=>whnf)))
      replace hA := hA.tr h
      clear h
      refine ⟨_, ⟨rfl, rfl, rfl, rfl, trivial⟩, ?_⟩
      rw [hc]
      exact hA
    · ((conv=>whnf);repeat(first|(refine mvT ?_;conv=>whnf)|(refine mvF ?_;conv=>whnf)|(refine cT (by rfl) ?_;conv=>whnf)|(refine cF (by rfl) ?_;conv=>whnf)))
      refine Does.mono (AppendNullableString_R hA.ob (Nat.le_trans hB hA.size) (hc3.ext hA.ext hFx) (by simp only [List.length_append]; omega)) ?_;rintro r w h;((conv=>whnf);repeat(first|(refine mvT ?_;conv=>whnf)|(refine mvF ?_;conv=>whnf)|(refine cT (by rfl) ?_;conv=>whnf)|(refine cF (by rfl) ?_;conv=>whnf)))
      replace hA := hA.tr h
      clear h
      refine ⟨_, ⟨rfl, rfl, rfl, rfl, trivial⟩, ?_⟩
      rw [hc]
      exact hA
  clear hA
  rintro r w hA
  ((conv=>whnf);repeat(first|(refine mvT ?_;conv=>whnf)|(refine mvF ?_;conv=>whnf)|(refine cT (by rfl) ?_;conv=>whnf)|(refine cF (by rfl) ?_;conv=>whnf)))
  generalize hm4 : m3 ++ (ntA fx (atT t 3).nl (atT t 3).s) = m4 at hA
  have hl4 : m4.length = m3.length + (ntA fx (atT t 3).nl (atT t 3).s).length := by rw [← hm4, List.length_append]
  refine ldS ((hp.ext hA.ext hxp).cell rfl) ?_;((conv=>whnf);repeat(first|(refine mvT ?_;conv=>whnf)|(refine mvF ?_;conv=>whnf)|(refine cT (by rfl) ?_;conv=>whnf)|(refine cF (by rfl) ?_;conv=>whnf)))
  have hsl := fieldOK_text (hok.1 4 _ rfl)
  (refine mvB ?_;((conv=>whnf);repeat(first|(refine mvT ?_;conv=>whnf)|(refine mvF ?_;conv=>whnf)|(refine cT (by rfl) ?_;conv=>whnf)|(refine cF (by rfl) ?_;conv=>whnf))))
  refine VC.cutE (fun r => [(1, r), (0, .pointer (some ⟨p, 0, none⟩)), (5, .int .i16 v), (6, .bool fx)]) (fun r w' => Apd w0 B x l (m4 ++ (ntA fx (atT t 4).nl (atT t 4).s)) r w') ?_ ?_
  · refine cI (by rfl) (fun hc=>?_) (fun hc=>?_)
    · ((conv=>whnf);repeat(first|(refine mvT ?_;conv=>whnf)|(refine mvF ?_;conv=>whnf)|(refine cT (by rfl) ?_;conv=>whnf)|(refine cF (by rfl) ?_;conv=>whnf)))
      refine Does.mono (AppendCompactNullableString_R hA.ob (Nat.le_trans hB hA.size) (hc4.ext hA.ext hFx) hsl (by simp only [List.length_append]; omega)) ?_;rintro r w h;((conv=>whnf);repeat(first|(refine mvT ?_;conv=>whnf)|(refine mvF ?_;conv=>whnf)|(refine cT (by rfl) ?_;conv=>whnf)|(refine cF (by rfl) ?_;conv=>whnf)))
      replace hA := hA.tr h
      clear h
      refine ⟨_, ⟨rfl, rfl, rfl, rfl, trivial⟩, ?_⟩
      rw [hc]
      exact hA
    · ((conv=>whnf);repeat(first|(refine mvT ?_;conv=>whnf)|(refine mvF ?_;conv=>whnf)|(refine cT (by rfl) ?_;conv=>whnf)|(refine cF (by rfl) ?_;conv=>whnf)))
      refine Does.mono (AppendNullableString_R hA.ob (Nat.le_trans hB hA.size) (hc4.ext hA.ext hFx) (by simp only [List.length_append]; omega)) ?_;rintro r w h;((conv=>whnf);repeat(first|(refine mvT ?_;conv=>whnf)|(refine mvF ?_;conv=>whnf)|(refine cT (by rfl) ?_;conv=>whnf)|(refine cF (by rfl) ?_;conv=>whnf)))
      replace hA := hA.tr h
      clear h
      refine ⟨_, ⟨rfl, rfl, rfl, rfl, trivial⟩, ?_⟩
      rw [hc]
      exact hA
  clear hA
  rintro r w hA
  ((conv=>whnf);repeat(first|(refine mvT ?_;conv=>whnf)|(refine mvF ?_;conv=>whnf)|(refine cT (by rfl) ?_;conv=>whnf)|(refine cF (by rfl) ?_;conv=>whnf)))
  generalize hm5 : m4 ++ (ntA fx (atT t 4).nl (atT t 4).s) = m5 at hA
  have hl5 : m5.length = m4.length + (ntA fx (atT t 4).nl (atT t 4).s).length := by rw [← hm5, List.length_append]
  refine ldS ((hp.ext hA.ext hxp).cell rfl) ?_;((conv=>whnf);repeat(first|(refine mvT ?_;conv=>whnf)|(refine mvF ?_;conv=>whnf)|(refine cT (by rfl) ?_;conv=>whnf)|(refine cF (by rfl) ?_;conv=>whnf)))
  refine Does.mono (AppendInt8_does hA.ob (Nat.le_trans hB hA.size) (by simp only [List.length_append]; omega) _) ?_;rintro r w h;((conv=>whnf);repeat(first|(refine mvT ?_;conv=>whnf)|(refine mvF ?_;conv=>whnf)|(refine cT (by rfl) ?_;conv=>whnf)|(refine cF (by rfl) ?_;conv=>whnf)))
  rw [fixed1_mod (wrap_i8m _)] at h
  replace hA := hA.tr h
  clear h
  generalize hm6 : m5 ++ (fixed (atT t 5).n 1) = m6 at hA
  have hl6 : m6.length = m5.length + (fixed (atT t 5).n 1).length := by rw [← hm6, List.length_append]
  refine ldS ((hp.ext hA.ext hxp).cell rfl) ?_;((conv=>whnf);repeat(first|(refine mvT ?_;conv=>whnf)|(refine mvF ?_;conv=>whnf)|(refine cT (by rfl) ?_;conv=>whnf)|(refine cF (by rfl) ?_;conv=>whnf)))
  refine Does.mono (AppendInt8_does hA.ob (Nat.le_trans hB hA.size) (by simp only [List.length_append]; omega) _) ?_;rintro r w h;((conv=>whnf);repeat(first|(refine mvT ?_;conv=>whnf)|(refine mvF ?_;conv=>whnf)|(refine cT (by rfl) ?_;conv=>whnf)|(refine cF (by rfl) ?_;conv=>whnf)))
  rw [fixed1_mod (wrap_i8m _)] at h
  replace hA := hA.tr h
  clear h
  generalize hm7 : m6 ++ (fixed (atT t 6).n 1) = m7 at hA
  have hl7 : m7.length = m6.length + (fixed (atT t 6).n 1).length := by rw [← hm7, List.length_append]
  (refine mvB ?_;((conv=>whnf);repeat(first|(refine mvT ?_;conv=>whnf)|(refine mvF ?_;conv=>whnf)|(refine cT (by rfl) ?_;conv=>whnf)|(refine cF (by rfl) ?_;conv=>whnf))))
  refine VC.cutE (fun r => [(1, r), (0, .pointer (some ⟨p, 0, none⟩)), (5, .int .i16 v), (6, .bool fx)]) (fun r w' => Apd w0 B x l (m7 ++ (tgsB fx (t).u)) r w') ?_ ?_
  · refine cI (by rfl) (fun hc=>?_) (fun hc=>?_)
    · ((conv=>whnf);repeat(first|(refine mvT ?_;conv=>whnf)|(refine mvF ?_;conv=>whnf)|(refine cT (by rfl) ?_;conv=>whnf)|(refine cF (by rfl) ?_;conv=>whnf)))
      have hul := hok.2.len
      refine Does.mono (Tags_Len_does ((hp.ext hA.ext hxp).cell rfl) (hm.ext hA.ext hFx)) ?_;rintro r w ⟨rfl, rfl⟩;((conv=>whnf);repeat(first|(refine mvT ?_;conv=>whnf)|(refine mvF ?_;conv=>whnf)|(refine cT (by rfl) ?_;conv=>whnf)|(refine cF (by rfl) ?_;conv=>whnf)))
      rw [u32_add0 (by omega)]
      refine Does.mono (AppendUvarint_does hA.ob (Nat.le_trans hB hA.size) (t).u.length (by omega) (by simp only [List.length_append]; omega)) ?_;rintro r w h;((conv=>whnf);repeat(first|(refine mvT ?_;conv=>whnf)|(refine mvF ?_;conv=>whnf)|(refine cT (by rfl) ?_;conv=>whnf)|(refine cF (by rfl) ?_;conv=>whnf)))
      have hul2 := uvar10 (n := (t).u.length) (by omega)
      replace hA := hA.tr h
      clear h
      refine Does.mono (AppendEach_does ((hp.ext hA.ext hxp).cell rfl) (hm.ext hA.ext hFx) hok.2 hA.ob (Nat.le_trans hB hA.size) (hA.ne hxp hpl) (fun j _ hf => hA.ne (hFR j hf).2 (hFR j hf).1) (by simp only [List.length_append]; omega)) ?_;rintro r w h;((conv=>whnf);repeat(first|(refine mvT ?_;conv=>whnf)|(refine mvF ?_;conv=>whnf)|(refine cT (by rfl) ?_;conv=>whnf)|(refine cF (by rfl) ?_;conv=>whnf)))
      replace hA := hA.tr h
      clear h
      refine ⟨_, ⟨rfl, rfl, rfl, rfl, trivial⟩, ?_⟩
      rw [tgsB, if_pos hc, ← List.append_assoc]
      exact hA
    · ((conv=>whnf);repeat(first|(refine mvT ?_;conv=>whnf)|(refine mvF ?_;conv=>whnf)|(refine cT (by rfl) ?_;conv=>whnf)|(refine cF (by rfl) ?_;conv=>whnf)))
      refine ⟨_, ⟨rfl, rfl, rfl, rfl, trivial⟩, ?_⟩
      rw [tgsB, if_neg (by rw [hc]; decide), List.append_nil]
      exact hA
  clear hA
  rintro r w hA
  ((conv=>whnf);repeat(first|(refine mvT ?_;conv=>whnf)|(refine mvF ?_;conv=>whnf)|(refine cT (by rfl) ?_;conv=>whnf)|(refine cF (by rfl) ?_;conv=>whnf)))
  generalize hm8 : m7 ++ (tgsB fx (t).u) = m8 at hA
  have hl8 : m8.length = m7.length + (tgsB fx (t).u).length := by rw [← hm8, List.length_append]
  show Apd w0 B x l _ r w
  rw [show bDescribeACLsRequest v fx t = m8 by unfold bDescribeACLsRequest; simp only [← hm8, ← hm7, ← hm6, ← hm5, ← hm4, ← hm3, ← hm2, ← hm1, hm0, List.append_assoc, List.nil_append, List.append_nil]]
  exact hA
theorem qDescribeACLsRequest {w : World} {F : Nat → Prop} {cs : List Value} {t : T} (h : QPart true 9 dDescribeACLsRequest ⟨w, F⟩ cs t) : ∃ c1 c3 c4 m, cs = [.int .i8 (IntKind.i8.wrap (atT t 0).n), c1, .int .i8 (IntKind.i8.wrap (atT t 2).n), c3, c4, .int .i8 (IntKind.i8.wrap (atT t 5).n), .int .i8 (IntKind.i8.wrap (atT t 6).n), m] ∧ NTextR w F c1 (atT t 1) ∧ NTextR w F c3 (atT t 3) ∧ NTextR w F c4 (atT t 4) ∧ TagsR w F m t.u := by
  obtain ⟨_, _, u_, m, rfl, rfl, hA0, hm⟩ := iP h
  clear h
  obtain ⟨cc0, _, x0, _, rfl, rfl, h0, hA1⟩ := iA hA0
  obtain ⟨n0, rfl, rfl⟩ := iF1 h0
  obtain ⟨cc1, _, x1, _, rfl, rfl, h1, hA2⟩ := iA hA1
  obtain ⟨c1, rfl, hh1⟩ := iF8n (by decide) h1
  obtain ⟨cc2, _, x2, _, rfl, rfl, h2, hA3⟩ := iA hA2
  obtain ⟨n2, rfl, rfl⟩ := iF1 h2
  obtain ⟨cc3, _, x3, _, rfl, rfl, h3, hA4⟩ := iA hA3
  obtain ⟨c3, rfl, hh3⟩ := iF8n (by decide) h3
  obtain ⟨cc4, _, x4, _, rfl, rfl, h4, hA5⟩ := iA hA4
  obtain ⟨c4, rfl, hh4⟩ := iF8n (by decide) h4
  obtain ⟨cc5, _, x5, _, rfl, rfl, h5, hA6⟩ := iA hA5
  obtain ⟨n5, rfl, rfl⟩ := iF1 h5
  obtain ⟨cc6, _, x6, _, rfl, rfl, h6, hA7⟩ := iA hA6
  obtain ⟨n6, rfl, rfl⟩ := iF1 h6
  obtain ⟨rfl, rfl⟩ := hA7
  exact ⟨c1, c3, c4, m, rfl, hh1, hh3, hh4, hm⟩
theorem newDescribeACLsRequest (w : World) : Does X.P 62 #[] w fun r w' => ∃ p, r = .pointer (some ⟨p, 0, none⟩) ∧ w.heap.size ≤ p ∧ Own w' p 139 [.int .i16 0, .int .i8 0, .pointer none, .int .i8 3, .pointer none, .pointer none, .int .i8 0, .int .i8 0, .map none] ∧ Ext nob w w' := by
  refine Does.go (X := X) (l := []) Tryz.func62 rfl (by kernel_rfl) (by kernel_rfl) _ rfl ?_
  ((conv=>whnf);repeat(first|(refine mvT ?_;conv=>whnf)|(refine mvF ?_;conv=>whnf)|(refine cT (by rfl) ?_;conv=>whnf)|(refine cF (by rfl) ?_;conv=>whnf)))
  intro p w1 hp ho hx
  ((conv=>whnf);repeat(first|(refine mvT ?_;conv=>whnf)|(refine mvF ?_;conv=>whnf)|(refine cT (by rfl) ?_;conv=>whnf)|(refine cF (by rfl) ?_;conv=>whnf)))
  refine Does.mono (dfDescribeACLsRequest (pre := []) (cur := [.int .i16 0, .int .i8 0, .pointer none, .int .i8 0, .pointer none, .pointer none, .int .i8 0, .int .i8 0, .map none]) (post := []) (by simpa using ho) rfl rfl) ?_;rintro r2 w2 ⟨hd, hx2⟩;((conv=>whnf);repeat(first|(refine mvT ?_;conv=>whnf)|(refine mvF ?_;conv=>whnf)|(refine cT (by rfl) ?_;conv=>whnf)|(refine cF (by rfl) ?_;conv=>whnf)))
  exact ⟨p, rfl, hp, by simpa using hd, hx.st hx2 hp⟩
theorem maxDescribeACLsRequest (w : World) : Does X.P 28 #[] w fun r w' => r = .int .i64 3 ∧ Ext nob w w' := by
  have hmax : ∀ (p : Nat) (w : World), Does X.P 63 #[.pointer (some ⟨p, 0, none⟩)] w fun r w' => r = .int .i16 3 ∧ w' = w := by
    intro p w
    refine Does.go (X := X) (l := [_]) Tryz.func63 rfl (by kernel_rfl) (by kernel_rfl) _ rfl ?_
    ((conv=>whnf);repeat(first|(refine mvT ?_;conv=>whnf)|(refine mvF ?_;conv=>whnf)|(refine cT (by rfl) ?_;conv=>whnf)|(refine cF (by rfl) ?_;conv=>whnf)))
    exact ⟨rfl, rfl⟩
  refine Does.go (X := X) (l := []) Tryz.func28 rfl (by kernel_rfl) (by kernel_rfl) _ rfl ?_
  ((conv=>whnf);repeat(first|(refine mvT ?_;conv=>whnf)|(refine mvF ?_;conv=>whnf)|(refine cT (by rfl) ?_;conv=>whnf)|(refine cF (by rfl) ?_;conv=>whnf)))
  refine Does.mono (newDescribeACLsRequest w) ?_;rintro r1 w1 ⟨p, rfl, _, _, hx⟩;((conv=>whnf);repeat(first|(refine mvT ?_;conv=>whnf)|(refine mvF ?_;conv=>whnf)|(refine cT (by rfl) ?_;conv=>whnf)|(refine cF (by rfl) ?_;conv=>whnf)))
  refine Does.mono (hmax p w1) ?_;rintro r2 w2 ⟨rfl, rfl⟩;((conv=>whnf);repeat(first|(refine mvT ?_;conv=>whnf)|(refine mvF ?_;conv=>whnf)|(refine cT (by rfl) ?_;conv=>whnf)|(refine cF (by rfl) ?_;conv=>whnf)))
  exact ⟨rfl, hx⟩
theorem frameDescribeACLsRequest {G : Nat → Prop} {w : World} {v num : Int} {has : Bool} {x ev : Value} {s id : List UInt8} {t : T} (hL : Laid w ev) (hx : Bytes w G x s) (hv : 0 ≤ v) (hv2 : v < 32768) (hid : id.length ≤ 32767)
    (hrd : rdPart 9 v (decide (v ≥ 2)) dDescribeACLsRequest (s, false) = (t, ([], false))) (hok : partOK 9 v dDescribeACLsRequest t) (hs : s.length ≤ 100000000000000) (hl : (bDescribeACLsRequest v (decide (v ≥ 2)) t).length ≤ 90000000000000) :
    Does X.P 30 #[.agg #[.bool has, str id], .int .i32 num, .int .i64 v, x] w fun r w' => ∃ o, r = .tuple #[o, .bool true] ∧ OB w' w.heap.size o (fixed (headB 29 v num (decide (v ≥ 2)) (.mk 0 id (!has) [] []) ++ bDescribeACLsRequest v (decide (v ≥ 2)) t).length 4 ++ (headB 29 v num (decide (v ≥ 2)) (.mk 0 id (!has) [] []) ++ bDescribeACLsRequest v (decide (v ≥ 2)) t)) ∧ Ext nob w w' := by
  have hv16 : IntKind.i16.wrap v = v := by
    simp only [IntKind.wrap, IntKind.bits, IntKind.signed]
    simp
    omega
  obtain ⟨ax, cx, rfl, _⟩ := hx.view
  have hL1 := hL.lt
  refine Does.go (X := X) (l := [_, _, _, _]) Tryz.func30 rfl (by kernel_rfl) (by kernel_rfl) _ rfl ?_
  ((conv=>whnf);repeat(first|(refine mvT ?_;conv=>whnf)|(refine mvF ?_;conv=>whnf)|(refine cT (by rfl) ?_;conv=>whnf)|(refine cF (by rfl) ?_;conv=>whnf)))
  intro b w0 hb ho hx0
  have ho : Own w0 b 40 [.bool has, str id] := ho
  ((conv=>whnf);repeat(first|(refine mvT ?_;conv=>whnf)|(refine mvF ?_;conv=>whnf)|(refine cT (by rfl) ?_;conv=>whnf)|(refine cF (by rfl) ?_;conv=>whnf)))
  refine Does.mono (newDescribeACLsRequest w0) ?_;rintro r1 w1 ⟨p, rfl, hwp, hop, hx1⟩;((conv=>whnf);repeat(first|(refine mvT ?_;conv=>whnf)|(refine mvF ?_;conv=>whnf)|(refine cT (by rfl) ?_;conv=>whnf)|(refine cF (by rfl) ?_;conv=>whnf)))
  have hwp : w.heap.size ≤ p := Nat.le_trans hx0.size hwp
  have hpb : p ≠ b := by have := ho.lt; omega
  have hx01 := hx0.e0 hx1
  have hset : Does X.P 64 #[.pointer (some ⟨p, 0, none⟩), .int .i16 (IntKind.i16.wrap v)] w1 fun r w' => Own w' p 139 [.int .i16 v, .int .i8 0, .pointer none, .int .i8 3, .pointer none, .pointer none, .int .i8 0, .int .i8 0, .map none] ∧ Ext (fun k => k = p) w1 w' := by
    rw [hv16]
    refine Does.go (X := X) (l := [_, _]) Tryz.func64 rfl (by kernel_rfl) (by kernel_rfl) _ rfl ?_
    ((conv=>whnf);repeat(first|(refine mvT ?_;conv=>whnf)|(refine mvF ?_;conv=>whnf)|(refine cT (by rfl) ?_;conv=>whnf)|(refine cF (by rfl) ?_;conv=>whnf)))
    refine ⟨_, _, hop, rfl, rfl, rfl, ?_⟩
    intro w3 ho3 hx3
    ((conv=>whnf);repeat(first|(refine mvT ?_;conv=>whnf)|(refine mvF ?_;conv=>whnf)|(refine cT (by rfl) ?_;conv=>whnf)|(refine cF (by rfl) ?_;conv=>whnf)))
    exact ⟨ho3, hx3⟩
  refine Does.mono (hset) ?_;rintro r2 w2 ⟨hop2, hx2⟩;((conv=>whnf);repeat(first|(refine mvT ?_;conv=>whnf)|(refine mvF ?_;conv=>whnf)|(refine cT (by rfl) ?_;conv=>whnf)|(refine cF (by rfl) ?_;conv=>whnf)))
  have hx02 := hx01.st hx2 hwp
  have ho2 := (ho.e0 hx1).ext hx2 (fun e => hpb e.symm)
  refine app_bytes rfl rfl (OB.nil w2 w2.heap.size) (hx.e0 hx02).src rfl (by simp only [List.length_nil]; omega) (Nat.le_refl _) ?_
  intro x3 w3 h3 hx3 _ _
  ((conv=>whnf);repeat(first|(refine mvT ?_;conv=>whnf)|(refine mvF ?_;conv=>whnf)|(refine cT (by rfl) ?_;conv=>whnf)|(refine cF (by rfl) ?_;conv=>whnf)))
  rw [List.nil_append] at h3
  have hx3 : Ext nob w2 w3 := hx3.mono fun k _ h => by simp [Value.ownBlock] at h
  have hx03 := hx02.e0 hx3
  have hpl := hop2.lt
  have hread : Does X.P 65 #[.pointer (some ⟨p, 0, none⟩), x3] w3 fun r w' => RdPost w3 p 139 v (decide (v ≥ 2)) true dDescribeACLsRequest ev s r w' := by
    obtain ⟨a3, c3, rfl, _⟩ := h3.shape
    refine Does.go (X := X) (l := [_, _]) Tryz.func65 rfl (by kernel_rfl) (by kernel_rfl) _ rfl ?_
    ((conv=>whnf);repeat(first|(refine mvT ?_;conv=>whnf)|(refine mvF ?_;conv=>whnf)|(refine cT (by rfl) ?_;conv=>whnf)|(refine cF (by rfl) ?_;conv=>whnf)))
    refine Does.mono (readDescribeACLsRequest (hL.ext hx03 fun f => f) (hop2.e0 hx3) (h3.bytes (F := fun k => k ≠ p) fun k hk => by omega) (fun k h => h) hv (by omega)) ?_;rintro r w' h;((conv=>whnf);repeat(first|(refine mvT ?_;conv=>whnf)|(refine mvF ?_;conv=>whnf)|(refine cT (by rfl) ?_;conv=>whnf)|(refine cF (by rfl) ?_;conv=>whnf)))
    exact h
  refine Does.mono hread ?_
  rintro r4 w4 ⟨hr4, hx4, hpost⟩
  rw [hrd] at hr4 hpost
  obtain rfl : r4 = .nilIface := hr4.trans (if_neg Bool.false_ne_true)
  obtain ⟨cs, hop4, hq⟩ := hpost rfl
  obtain ⟨c1, c3, c4, m, rfl, hc1, hc3, hc4, hm⟩ := qDescribeACLsRequest hq
  ((conv=>whnf);repeat(first|(refine mvT ?_;conv=>whnf)|(refine mvF ?_;conv=>whnf)|(refine cT (by rfl) ?_;conv=>whnf)|(refine cF (by rfl) ?_;conv=>whnf)))
  have hx04 := hx03.st hx4 hwp
  have ho4 := (ho2.e0 hx3).ext hx4 (fun e => hpb e.symm)
  refine ⟨_, rfl, ho4.cells, ?_⟩
  ((conv=>whnf);repeat(first|(refine mvT ?_;conv=>whnf)|(refine mvF ?_;conv=>whnf)|(refine cT (by rfl) ?_;conv=>whnf)|(refine cF (by rfl) ?_;conv=>whnf)))
  have hpl4 := hop4.lt
  have hM : ReqM w4 68 p 29 v (decide (v ≥ 2)) (bDescribeACLsRequest v (decide (v ≥ 2)) t) 219 217 218 216 := by
    refine ⟨fun _ => by kernel_rfl, fun _ => by kernel_rfl, fun _ => by kernel_rfl, fun _ => by kernel_rfl, fun w => ?_, fun w5 hx5 => ?_, fun w5 hx5 => ?_, fun w5 y l hx5 hoy hly => ?_⟩
    · refine Does.go (X := X) (l := [_]) Tryz.func219 rfl (by kernel_rfl) (by kernel_rfl) _ rfl ?_
      ((conv=>whnf);repeat(first|(refine mvT ?_;conv=>whnf)|(refine mvF ?_;conv=>whnf)|(refine cT (by rfl) ?_;conv=>whnf)|(refine cF (by rfl) ?_;conv=>whnf)))
      exact ⟨rfl, rfl⟩
    · refine Does.go (X := X) (l := [_]) Tryz.func217 rfl (by kernel_rfl) (by kernel_rfl) _ rfl ?_
      ((conv=>whnf);repeat(first|(refine mvT ?_;conv=>whnf)|(refine mvF ?_;conv=>whnf)|(refine cT (by rfl) ?_;conv=>whnf)|(refine cF (by rfl) ?_;conv=>whnf)))
      refine ldS ((hop4.e0 hx5).cell rfl) ?_;((conv=>whnf);repeat(first|(refine mvT ?_;conv=>whnf)|(refine mvF ?_;conv=>whnf)|(refine cT (by rfl) ?_;conv=>whnf)|(refine cF (by rfl) ?_;conv=>whnf)))
      exact ⟨rfl, rfl⟩
    · refine Does.go (X := X) (l := [_]) Tryz.func218 rfl (by kernel_rfl) (by kernel_rfl) _ rfl ?_
      ((conv=>whnf);repeat(first|(refine mvT ?_;conv=>whnf)|(refine mvF ?_;conv=>whnf)|(refine cT (by rfl) ?_;conv=>whnf)|(refine cF (by rfl) ?_;conv=>whnf)))
      refine ldS ((hop4.e0 hx5).cell rfl) ?_;((conv=>whnf);repeat(first|(refine mvT ?_;conv=>whnf)|(refine mvF ?_;conv=>whnf)|(refine cT (by rfl) ?_;conv=>whnf)|(refine cF (by rfl) ?_;conv=>whnf)))
      exact ⟨rfl, rfl⟩
    · obtain ⟨F4, hF4⟩ : ∃ F4 : Nat → Prop, F4 = fun k => k ≠ p ∧ k < w4.heap.size := ⟨_, rfl⟩
      exact appDescribeACLsRequest (F := fun k => k ≠ p ∧ k < w4.heap.size) (hop4.e0 hx5) (by have := (hc1.mono (F' := F4) fun k h1 h2 => by rw [hF4]; exact ⟨h2, h1⟩).ext hx5 fun _ _ _ f => f; rw [hF4] at this; exact this) (by have := (hc3.mono (F' := F4) fun k h1 h2 => by rw [hF4]; exact ⟨h2, h1⟩).ext hx5 fun _ _ _ f => f; rw [hF4] at this; exact this) (by have := (hc4.mono (F' := F4) fun k h1 h2 => by rw [hF4]; exact ⟨h2, h1⟩).ext hx5 fun _ _ _ f => f; rw [hF4] at this; exact this) (by have := (hm.mono (F' := F4) fun k h1 h2 => by rw [hF4]; exact ⟨h2, h1⟩).ext hx5 fun _ _ _ f => f; rw [hF4] at this; exact this) hok (fun j _ hj e => by have := hoy.blk j e; have := hj.2; omega) (fun e => by have := hoy.blk p e; omega) hoy hx5.size hv (by omega)
  refine Does.mono (framed_does (w := w4) (num := num) hM (by decide) hid (by omega)) ?_
  rintro r6 w6 ⟨h6, hx6⟩
  ((conv=>whnf);repeat(first|(refine mvT ?_;conv=>whnf)|(refine mvF ?_;conv=>whnf)|(refine cT (by rfl) ?_;conv=>whnf)|(refine cF (by rfl) ?_;conv=>whnf)))
  exact ⟨r6, rfl, h6.mono hx04.size, hx04.e0 hx6⟩
theorem walkDescribeACLsRequest {w : World} {n : Nat} (hn : n < 256) {has : Bool} {id : List UInt8} {num : Int} {x ev : Value} {t : T} (hL : Laid w ev) (ht : Tr w anyB x t) : Does X.P 7 #[.int .u8 n, .agg #[.bool has, str id], .int .i32 num, x] w fun r w' => r = .bool true ∧ Ext nob w w' := by
  have hkeys := ht.keys
  obtain ⟨sv, lv, uv, ls, rfl, _⟩ := ht.open
  refine Does.go (X := X) (l := [_, _, _, _]) Tryz.func7 rfl (by kernel_rfl) (by kernel_rfl) _ rfl ?_
  ((conv=>whnf);repeat(first|(refine mvT ?_;conv=>whnf)|(refine mvF ?_;conv=>whnf)|(refine cT (by rfl) ?_;conv=>whnf)|(refine cF (by rfl) ?_;conv=>whnf)))
  intro bi wi hbi hoi hxi
  have hoi : Own wi bi 40 [.bool has, str id] := hoi
  ((conv=>whnf);repeat(first|(refine mvT ?_;conv=>whnf)|(refine mvF ?_;conv=>whnf)|(refine cT (by rfl) ?_;conv=>whnf)|(refine cF (by rfl) ?_;conv=>whnf)))
  intro b w1 hb ho hx1
  have hx := hxi.e0 hx1
  have hoi := hoi.e0 hx1
  ((conv=>whnf);repeat(first|(refine mvT ?_;conv=>whnf)|(refine mvF ?_;conv=>whnf)|(refine cT (by rfl) ?_;conv=>whnf)|(refine cF (by rfl) ?_;conv=>whnf)))
  refine ⟨_, rfl, hoi.cells, ?_⟩
  ((conv=>whnf);repeat(first|(refine mvT ?_;conv=>whnf)|(refine mvF ?_;conv=>whnf)|(refine cT (by rfl) ?_;conv=>whnf)|(refine cF (by rfl) ?_;conv=>whnf)))
  refine Does.mono (zzFits4_does (w := w1)) ?_;rintro ra wa ⟨⟨ba, rfl⟩, hxa⟩;((conv=>whnf);repeat(first|(refine mvT ?_;conv=>whnf)|(refine mvF ?_;conv=>whnf)|(refine cT (by rfl) ?_;conv=>whnf)|(refine cF (by rfl) ?_;conv=>whnf)))
  have hx := hx.e0 hxa
  have hoi := hoi.e0 hxa
  have ho := ho.e0 hxa
  cases ba with
  | false =>
    ((conv=>whnf);repeat(first|(refine mvT ?_;conv=>whnf)|(refine mvF ?_;conv=>whnf)|(refine cT (by rfl) ?_;conv=>whnf)|(refine cF (by rfl) ?_;conv=>whnf)))
    exact ⟨rfl, hx⟩
  | true =>
  ((conv=>whnf);repeat(first|(refine mvT ?_;conv=>whnf)|(refine mvF ?_;conv=>whnf)|(refine cT (by rfl) ?_;conv=>whnf)|(refine cF (by rfl) ?_;conv=>whnf)))
  refine ⟨_, rfl, ho.cells, ?_⟩
  ((conv=>whnf);repeat(first|(refine mvT ?_;conv=>whnf)|(refine mvF ?_;conv=>whnf)|(refine cT (by rfl) ?_;conv=>whnf)|(refine cF (by rfl) ?_;conv=>whnf)))
  refine Does.mono (zzFits1_does (ht.e0 hx)) ?_;rintro r2 w2 ⟨⟨b2, rfl⟩, hx2⟩;((conv=>whnf);repeat(first|(refine mvT ?_;conv=>whnf)|(refine mvF ?_;conv=>whnf)|(refine cT (by rfl) ?_;conv=>whnf)|(refine cF (by rfl) ?_;conv=>whnf)))
  have hx02 := hx.e0 hx2
  refine cI (by rfl) (fun h1=>?_) (fun h1=>?_)
  · ((conv=>whnf);repeat(first|(refine mvT ?_;conv=>whnf)|(refine mvF ?_;conv=>whnf)|(refine cT (by rfl) ?_;conv=>whnf)|(refine cF (by rfl) ?_;conv=>whnf)))
    exact ⟨rfl, hx02⟩
  · ((conv=>whnf);repeat(first|(refine mvT ?_;conv=>whnf)|(refine mvF ?_;conv=>whnf)|(refine cT (by rfl) ?_;conv=>whnf)|(refine cF (by rfl) ?_;conv=>whnf)))
    refine Does.mono (maxDescribeACLsRequest w2) ?_;rintro r3 w3 ⟨rfl, hx3⟩;((conv=>whnf);repeat(first|(refine mvT ?_;conv=>whnf)|(refine mvF ?_;conv=>whnf)|(refine cT (by rfl) ?_;conv=>whnf)|(refine cF (by rfl) ?_;conv=>whnf)))
    refine Does.mono (sDescribeACLsRequest w3) ?_;rintro r4 w4 ⟨⟨fv, rfl, hfd⟩, hx4⟩;((conv=>whnf);repeat(first|(refine mvT ?_;conv=>whnf)|(refine mvF ?_;conv=>whnf)|(refine cT (by rfl) ?_;conv=>whnf)|(refine cF (by rfl) ?_;conv=>whnf)))
    have hone := hfd
    obtain ⟨ls3, hsl3, _⟩ := hone
    obtain ⟨a3, c3, rfl, _⟩ := hsl3.view
    refine Does.mono (version_does n 3 hn (by omega) w4) ?_;rintro r5 w5 ⟨rfl, rfl⟩;((conv=>whnf);repeat(first|(refine mvT ?_;conv=>whnf)|(refine mvF ?_;conv=>whnf)|(refine cT (by rfl) ?_;conv=>whnf)|(refine cF (by rfl) ?_;conv=>whnf)))
    intro b6 w6 hb6 ho6 hx6
    ((conv=>whnf);repeat(first|(refine mvT ?_;conv=>whnf)|(refine mvF ?_;conv=>whnf)|(refine cT (by rfl) ?_;conv=>whnf)|(refine cF (by rfl) ?_;conv=>whnf)))
    refine ⟨_, _, ho6, rfl, rfl, rfl, ?_⟩
    intro w7 ho7 hx7
    have hx57 : Ext nob w5 w7 := hx6.st hx7 hb6
    ((conv=>whnf);repeat(first|(refine mvT ?_;conv=>whnf)|(refine mvF ?_;conv=>whnf)|(refine cT (by rfl) ?_;conv=>whnf)|(refine cF (by rfl) ?_;conv=>whnf)))
    have hx27 : Ext nob w2 w7 := (hx3.e0 hx4).e0 hx57
    have hx07 : Ext nob w w7 := hx02.e0 hx27
    have ho1 := (ho.e0 hx2).e0 hx27
    have hoi1 := (hoi.e0 hx2).e0 hx27
    generalize hvv : ((n % (3 + 1) : Nat) : Int) = v
    have hv0 : 0 ≤ v := by omega
    have hv1 : v < 32768 := by omega
    have hok : ∀ f, f ∈ dDescribeACLsRequest → okF 9 f = true := List.all_eq_true.1 (show (dDescribeACLsRequest).all (okF 9) = true by decide)
    have hnt : ∀ f, f ∈ dDescribeACLsRequest → ntF 9 f = true := List.all_eq_true.1 (show (dDescribeACLsRequest).all (ntF 9) = true by decide)
    have hrr : ∀ f, f ∈ dDescribeACLsRequest → okR 2 9 f = true := List.all_eq_true.1 (show (dDescribeACLsRequest).all (okR 2 9) = true by decide)
    have hww : ∀ f, f ∈ dDescribeACLsRequest → okW 9 f = true := List.all_eq_true.1 (show (dDescribeACLsRequest).all (okW 9) = true by decide)
    refine ldS (hoi1.cell rfl) ?_;((conv=>whnf);repeat(first|(refine mvT ?_;conv=>whnf)|(refine mvF ?_;conv=>whnf)|(refine cT (by rfl) ?_;conv=>whnf)|(refine cF (by rfl) ?_;conv=>whnf)))
    refine cI (by rfl) (fun hd=>?_) (fun hd=>?_)
    · ((conv=>whnf);repeat(first|(refine mvT ?_;conv=>whnf)|(refine mvF ?_;conv=>whnf)|(refine cT (by rfl) ?_;conv=>whnf)|(refine cF (by rfl) ?_;conv=>whnf)))
      exact ⟨rfl, hx07⟩
    · have hl1 : id.length ≤ 32767 := by have := of_decide_eq_false hd; simp only [ByteArray.size, List.size_toArray] at this; omega
      ((conv=>whnf);repeat(first|(refine mvT ?_;conv=>whnf)|(refine mvF ?_;conv=>whnf)|(refine cT (by rfl) ?_;conv=>whnf)|(refine cF (by rfl) ?_;conv=>whnf)))
      refine ⟨_, rfl, ho7.cells, ?_⟩
      ((conv=>whnf);repeat(first|(refine mvT ?_;conv=>whnf)|(refine mvF ?_;conv=>whnf)|(refine cT (by rfl) ?_;conv=>whnf)|(refine cF (by rfl) ?_;conv=>whnf)))
      refine ⟨_, rfl, ho1.cells, ?_⟩
      ((conv=>whnf);repeat(first|(refine mvT ?_;conv=>whnf)|(refine mvF ?_;conv=>whnf)|(refine cT (by rfl) ?_;conv=>whnf)|(refine cF (by rfl) ?_;conv=>whnf)))
      have hfx : decide (v ≥ 2) = flexB 2 v := by simp [flexB]
      have hlen : (partB 9 v (flexB 2 v) dDescribeACLsRequest t).length ≤ 90000000000000 := Nat.le_trans (partB_len 9 v _ dDescribeACLsRequest t hnt hkeys) (Nat.le_of_ble_eq_true rfl)
      refine Does.mono (write_does 9 (v := v) ⟨_, rfl, hfd.e0 hx57⟩ (ht.e0 hx07) hok (by decide) (Nat.le_trans hlen (by decide))) ?_
      rintro r8 w8 ⟨hr8, hx8⟩
      obtain ⟨a8, c8, rfl, _⟩ := hr8.shape
      ((conv=>whnf);repeat(first|(refine mvT ?_;conv=>whnf)|(refine mvF ?_;conv=>whnf)|(refine cT (by rfl) ?_;conv=>whnf)|(refine cF (by rfl) ?_;conv=>whnf)))
      have hx08 := hx07.e0 hx8
      have hoi8 := hoi1.e0 hx8
      have ho78 := ho7.e0 hx8
      have hrd : rdPart 9 v (decide (v ≥ 2)) dDescribeACLsRequest (partB 9 v (flexB 2 v) dDescribeACLsRequest t, false) = (toPart 9 v (decide (v ≥ 2)) dDescribeACLsRequest t, ([], false)) := by
        have := part_read 9 2 v dDescribeACLsRequest t hnt hrr hkeys hv0 []
        rw [List.append_nil] at this
        rw [hfx]
        exact this
      have hokT := part_okT 9 v (decide (v ≥ 2)) dDescribeACLsRequest t hnt hww hkeys hv0
      have hlaw : bDescribeACLsRequest v (decide (v ≥ 2)) (toPart 9 v (decide (v ≥ 2)) dDescribeACLsRequest t) = partB 9 v (flexB 2 v) dDescribeACLsRequest t := by
        rw [← bDescribeACLsRequest_eq hv0 hokT, hfx]
        exact partT_law 9 v _ dDescribeACLsRequest t hnt hww
      refine ⟨_, rfl, hoi8.cells, ?_⟩
      ((conv=>whnf);repeat(first|(refine mvT ?_;conv=>whnf)|(refine mvF ?_;conv=>whnf)|(refine cT (by rfl) ?_;conv=>whnf)|(refine cF (by rfl) ?_;conv=>whnf)))
      refine Does.mono (frameDescribeACLsRequest (v := v) (num := num) (hL.ext hx08 fun f => f) hr8.bytesAny hv0 hv1 hl1 hrd hokT (by omega) (by rw [hlaw]; omega)) ?_
      rintro r9 w9 ⟨o9, rfl, ho9, hx9⟩
      rw [hlaw] at ho9
      obtain ⟨a9, c9, rfl, _⟩ := ho9.shape
      ((conv=>whnf);repeat(first|(refine mvT ?_;conv=>whnf)|(refine mvF ?_;conv=>whnf)|(refine cT (by rfl) ?_;conv=>whnf)|(refine cF (by rfl) ?_;conv=>whnf)))
      have hx09 := hx08.e0 hx9
      have hoi9 := hoi8.e0 hx9
      have ho79 := ho78.e0 hx9
      have hr89 := hr8.e0 hx9
      refine VD.draw mixed (.q 0 (.q 1 (.q 2 (.q 3 (.q 4 (.q 5 (.q 6 (.q 7 (.q 8 (.q 10 (.q 11 (.q 13 (.alt (.eff 9 [6, 10] (.eff 12 [6, 8] (.eff 14 [] (.eff 15 [] (.q 16 (.eff 17 [] (.done))))))) (.eff 12 [6, 8] (.eff 9 [6, 10] (.eff 14 [] (.eff 15 [] (.q 16 (.eff 17 [] (.done)))))))))))))))))))) (by kernel_rfl) ?_;((conv=>whnf);repeat(first|(refine mvT ?_;conv=>whnf)|(refine mvF ?_;conv=>whnf)|(refine cT (by rfl) ?_;conv=>whnf)|(refine cF (by rfl) ?_;conv=>whnf)))
      have hxd : Ext nob w9 w9.drew := ext_drew _
      have hoid := hoi9.e0 hxd
      have ho7d := ho79.e0 hxd
      refine ldS (hoid.cell rfl) ?_;((conv=>whnf);repeat(first|(refine mvT ?_;conv=>whnf)|(refine mvF ?_;conv=>whnf)|(refine cT (by rfl) ?_;conv=>whnf)|(refine cF (by rfl) ?_;conv=>whnf)))
      refine ldS (hoid.cell rfl) ?_;((conv=>whnf);repeat(first|(refine mvT ?_;conv=>whnf)|(refine mvF ?_;conv=>whnf)|(refine cT (by rfl) ?_;conv=>whnf)|(refine cF (by rfl) ?_;conv=>whnf)))
      refine ⟨_, rfl, ho7d.cells, ?_⟩
      ((conv=>whnf);repeat(first|(refine mvT ?_;conv=>whnf)|(refine mvF ?_;conv=>whnf)|(refine cT (by rfl) ?_;conv=>whnf)|(refine cF (by rfl) ?_;conv=>whnf)))
      have ag6 : ∀ {w' : World}, Ext nob w9 w' → w'.cell? ⟨bi, 0 + 0, none⟩ = some (.bool has) := fun h => (hoi9.e0 h).cell rfl
      have ag8 : ∀ {w' : World}, Ext nob w9 w' → w'.cell? ⟨bi, 0 + 1, none⟩ = some (str id) := fun h => (hoi9.e0 h).cell rfl
      have hB : ∀ {w' : World} {b c : Nat}, Cells w' b 0 (id.map bcell) → b < w'.heap.size → id.length ≤ c ∧ c ≤ maxLen → Bytes w' anyB (.slice (some ⟨b, 0, none⟩) id.length c) id := fun h1 h2 h3 => ⟨_, _, rfl, h3, by simp, .inr ⟨_, _, rfl, trivial, h2, h1⟩⟩
      constructor
      · conv => whnf
        refine ⟨by rw [maxLen_eq]; simp only [ByteArray.size, List.size_toArray]; omega, ?_⟩
        intro b10 c10 w10 hb10 hbl10 hC10 hc10 hx10
        simp only [ByteArray.size, List.size_toArray] at hC10 hc10
        have hx9 : Ext nob w9 w10 := hxd.e0 hx10
        refine ⟨by (conv => whnf); exact ⟨⟨_, ag6 hx9, rfl, rfl⟩, ⟨_, rfl, (ho79.e0 hx9).cells, rfl, rfl⟩, trivial⟩, ?_⟩
        conv => whnf
        refine Does.mono (Flexible_does (w := w10)) ?_
        rintro r12 w12 ⟨rfl, hx12⟩
        have hx9 := hx9.e0 hx12
        refine ⟨by (conv => whnf); exact ⟨⟨_, ag6 hx9, rfl, rfl⟩, ⟨_, ag8 hx9, rfl, rfl⟩, trivial⟩, ?_⟩
        conv => whnf
        refine Does.mono (Frame_does (has := has) (num := num) ((hB hC10 hbl10 hc10).e0 hx12) (hr89.e0 hx9).bytesAny hl1 (by omega)) ?_
        rintro r14 w14 ⟨h14, hx14⟩
        obtain ⟨a14, c14, rfl, _⟩ := h14.shape
        have hx9 := hx9.e0 hx14
        ((conv=>whnf);repeat(first|(refine mvT ?_;conv=>whnf)|(refine mvF ?_;conv=>whnf)|(refine cT (by rfl) ?_;conv=>whnf)|(refine cF (by rfl) ?_;conv=>whnf)))
        refine Does.mono (Same_does (ho9.e0 hx9).bytesAny h14.bytesAny) ?_
        rintro r15 w15 ⟨rfl, hx15⟩
        ((conv=>whnf);repeat(first|(refine mvT ?_;conv=>whnf)|(refine mvF ?_;conv=>whnf)|(refine cT (by rfl) ?_;conv=>whnf)|(refine cF (by rfl) ?_;conv=>whnf)))
        exact ⟨by simp [oneOr, hfx], (hx09.e0 hx9).e0 hx15⟩
      · conv => whnf
        refine Does.mono (Flexible_does (w := w9.drew)) ?_
        rintro r12 w12 ⟨rfl, hx12⟩
        have hx9 := hxd.e0 hx12
        refine ⟨by (conv => whnf); exact ⟨⟨_, ag6 hx9, rfl, rfl⟩, ⟨_, ag8 hx9, rfl, rfl⟩, trivial⟩, ?_⟩
        conv => whnf
        refine ⟨by rw [maxLen_eq]; simp only [ByteArray.size, List.size_toArray]; omega, ?_⟩
        intro b10 c10 w10 hb10 hbl10 hC10 hc10 hx10
        simp only [ByteArray.size, List.size_toArray] at hC10 hc10
        have hx9 := hx9.e0 hx10
        refine ⟨by (conv => whnf); exact ⟨⟨_, ag6 hx9, rfl, rfl⟩, ⟨_, rfl, (ho79.e0 hx9).cells, rfl, rfl⟩, trivial⟩, ?_⟩
        conv => whnf
        refine Does.mono (Frame_does (has := has) (num := num) (hB hC10 hbl10 hc10) (hr89.e0 hx9).bytesAny hl1 (by omega)) ?_
        rintro r14 w14 ⟨h14, hx14⟩
        obtain ⟨a14, c14, rfl, _⟩ := h14.shape
        have hx9 := hx9.e0 hx14
        ((conv=>whnf);repeat(first|(refine mvT ?_;conv=>whnf)|(refine mvF ?_;conv=>whnf)|(refine cT (by rfl) ?_;conv=>whnf)|(refine cF (by rfl) ?_;conv=>whnf)))
        refine Does.mono (Same_does (ho9.e0 hx9).bytesAny h14.bytesAny) ?_
        rintro r15 w15 ⟨rfl, hx15⟩
        ((conv=>whnf);repeat(first|(refine mvT ?_;conv=>whnf)|(refine mvF ?_;conv=>whnf)|(refine cT (by rfl) ?_;conv=>whnf)|(refine cF (by rfl) ?_;conv=>whnf)))
        exact ⟨by simp [oneOr, hfx], (hx09.e0 hx9).e0 hx15⟩
end Go.Proofs.YtkhccpbmhcfkcaaGreatDoor.K
