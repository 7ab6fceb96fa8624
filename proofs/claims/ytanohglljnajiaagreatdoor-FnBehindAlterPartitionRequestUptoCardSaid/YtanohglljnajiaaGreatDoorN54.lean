/- AlterPartitionRequest is read and written behind octets. -/
import Derived.Test.YtanohglljnajiaaGreatDoorF1
import Derived.Test.YtanohglljnajiaaGreatDoorV54
import Derived.Test.YtanohglljnajiaaGreatDoorGversion
set_option linter.unusedVariables false
set_option linter.unusedSimpArgs false
namespace Go.Proofs.YtanohglljnajiaaGreatDoor.K
open Go
set_option maxHeartbeats 1600000
set_option maxRecDepth 100000

def rAlterPartitionRequestTopicPartitionNewEpochISR (w : World) (F : Nat → Prop) (cs : List Value) (t : T) : Prop := ∃ m, cs = [.int .i32 (IntKind.i32.wrap (atT t 0).n), .int .i64 (atT t 1).n, m] ∧ TagsR w F m t.u
theorem rAlterPartitionRequestTopicPartitionNewEpochISR_ext {M F : Nat → Prop} {w w' : World} {cs : List Value} {t : T} (h : rAlterPartitionRequestTopicPartitionNewEpochISR w F cs t) (x : Ext M w w') (hF : ∀ k, k < w.heap.size → F k → ¬ M k) : rAlterPartitionRequestTopicPartitionNewEpochISR w' F cs t := by
  obtain ⟨m, rfl, hm⟩ := h
  exact ⟨m, rfl, hm.ext x hF⟩
theorem rAlterPartitionRequestTopicPartitionNewEpochISR_mono {F F' : Nat → Prop} {w : World} {cs : List Value} {t : T} (h : rAlterPartitionRequestTopicPartitionNewEpochISR w F cs t) (hF : ∀ k, k < w.heap.size → F k → F' k) : rAlterPartitionRequestTopicPartitionNewEpochISR w F' cs t := by
  obtain ⟨m, rfl, hm⟩ := h
  exact ⟨m, rfl, hm.mono hF⟩
theorem rAlterPartitionRequestTopicPartitionNewEpochISR_len {F : Nat → Prop} {w : World} {cs : List Value} {t : T} (h : rAlterPartitionRequestTopicPartitionNewEpochISR w F cs t) : cs.length = 3 := by
  obtain ⟨m, rfl, hm⟩ := h
  rfl
def rAlterPartitionRequestTopicPartition (w : World) (F : Nat → Prop) (cs : List Value) (t : T) : Prop := ∃ c2 c3 m, cs = [.int .i32 (IntKind.i32.wrap (atT t 0).n), .int .i32 (IntKind.i32.wrap (atT t 1).n), c2, c3, .int .i8 (IntKind.i8.wrap (atT t 4).n), .int .i32 (IntKind.i32.wrap (atT t 5).n), m] ∧ ListR true 1 (fun c x => c = [.int .i32 (IntKind.i32.wrap x.n)]) w F c2 (atT t 2) ∧ ListR true 3 (rAlterPartitionRequestTopicPartitionNewEpochISR w F) w F c3 (atT t 3) ∧ TagsR w F m t.u
theorem rAlterPartitionRequestTopicPartition_ext {M F : Nat → Prop} {w w' : World} {cs : List Value} {t : T} (h : rAlterPartitionRequestTopicPartition w F cs t) (x : Ext M w w') (hF : ∀ k, k < w.heap.size → F k → ¬ M k) : rAlterPartitionRequestTopicPartition w' F cs t := by
  obtain ⟨c2, c3, m, rfl, h2, h3, hm⟩ := h
  exact ⟨c2, c3, m, rfl, h2.ext x hF (fun _ _ h => h), h3.ext x hF (fun _ _ h => rAlterPartitionRequestTopicPartitionNewEpochISR_ext h x hF), hm.ext x hF⟩
theorem rAlterPartitionRequestTopicPartition_mono {F F' : Nat → Prop} {w : World} {cs : List Value} {t : T} (h : rAlterPartitionRequestTopicPartition w F cs t) (hF : ∀ k, k < w.heap.size → F k → F' k) : rAlterPartitionRequestTopicPartition w F' cs t := by
  obtain ⟨c2, c3, m, rfl, h2, h3, hm⟩ := h
  exact ⟨c2, c3, m, rfl, h2.mono hF (fun _ _ h => h), h3.mono hF (fun _ _ h => rAlterPartitionRequestTopicPartitionNewEpochISR_mono h hF), hm.mono hF⟩
theorem rAlterPartitionRequestTopicPartition_len {F : Nat → Prop} {w : World} {cs : List Value} {t : T} (h : rAlterPartitionRequestTopicPartition w F cs t) : cs.length = 7 := by
  obtain ⟨c2, c3, m, rfl, h2, h3, hm⟩ := h
  rfl
def rAlterPartitionRequestTopic (w : World) (F : Nat → Prop) (cs : List Value) (t : T) : Prop := ∃ u1_0 u1_1 u1_2 u1_3 u1_4 u1_5 u1_6 u1_7 u1_8 u1_9 u1_10 u1_11 u1_12 u1_13 u1_14 u1_15 c2 m, cs = [str (atT t 0).s, bcell u1_0, bcell u1_1, bcell u1_2, bcell u1_3, bcell u1_4, bcell u1_5, bcell u1_6, bcell u1_7, bcell u1_8, bcell u1_9, bcell u1_10, bcell u1_11, bcell u1_12, bcell u1_13, bcell u1_14, bcell u1_15, c2, m] ∧ uuidB (atT t 1).s = [u1_0, u1_1, u1_2, u1_3, u1_4, u1_5, u1_6, u1_7, u1_8, u1_9, u1_10, u1_11, u1_12, u1_13, u1_14, u1_15] ∧ ListR true 7 (rAlterPartitionRequestTopicPartition w F) w F c2 (atT t 2) ∧ TagsR w F m t.u
theorem rAlterPartitionRequestTopic_ext {M F : Nat → Prop} {w w' : World} {cs : List Value} {t : T} (h : rAlterPartitionRequestTopic w F cs t) (x : Ext M w w') (hF : ∀ k, k < w.heap.size → F k → ¬ M k) : rAlterPartitionRequestTopic w' F cs t := by
  obtain ⟨u1_0, u1_1, u1_2, u1_3, u1_4, u1_5, u1_6, u1_7, u1_8, u1_9, u1_10, u1_11, u1_12, u1_13, u1_14, u1_15, c2, m, rfl, h1, h2, hm⟩ := h
  exact ⟨u1_0, u1_1, u1_2, u1_3, u1_4, u1_5, u1_6, u1_7, u1_8, u1_9, u1_10, u1_11, u1_12, u1_13, u1_14, u1_15, c2, m, rfl, h1, h2.ext x hF (fun _ _ h => rAlterPartitionRequestTopicPartition_ext h x hF), hm.ext x hF⟩
theorem rAlterPartitionRequestTopic_mono {F F' : Nat → Prop} {w : World} {cs : List Value} {t : T} (h : rAlterPartitionRequestTopic w F cs t) (hF : ∀ k, k < w.heap.size → F k → F' k) : rAlterPartitionRequestTopic w F' cs t := by
  obtain ⟨u1_0, u1_1, u1_2, u1_3, u1_4, u1_5, u1_6, u1_7, u1_8, u1_9, u1_10, u1_11, u1_12, u1_13, u1_14, u1_15, c2, m, rfl, h1, h2, hm⟩ := h
  exact ⟨u1_0, u1_1, u1_2, u1_3, u1_4, u1_5, u1_6, u1_7, u1_8, u1_9, u1_10, u1_11, u1_12, u1_13, u1_14, u1_15, c2, m, rfl, h1, h2.mono hF (fun _ _ h => rAlterPartitionRequestTopicPartition_mono h hF), hm.mono hF⟩
theorem rAlterPartitionRequestTopic_len {F : Nat → Prop} {w : World} {cs : List Value} {t : T} (h : rAlterPartitionRequestTopic w F cs t) : cs.length = 19 := by
  obtain ⟨u1_0, u1_1, u1_2, u1_3, u1_4, u1_5, u1_6, u1_7, u1_8, u1_9, u1_10, u1_11, u1_12, u1_13, u1_14, u1_15, c2, m, rfl, h1, h2, hm⟩ := h
  rfl
def bAlterPartitionRequestTopicPartitionNewEpochISR (v : Int) (fx : Bool) (t : T) : List UInt8 := ((fixed (atT t 0).n 4) ++ ((fixed (atT t 1).n 8) ++ ([]))) ++ tgsB fx t.u
theorem bAlterPartitionRequestTopicPartitionNewEpochISR_eq {v : Int} {fx : Bool} {t : T} (hv : 0 ≤ v) (hok : partOK 6 v dAlterPartitionRequestTopicPartitionNewEpochISR t) : partA 6 v fx dAlterPartitionRequestTopicPartitionNewEpochISR t = bAlterPartitionRequestTopicPartitionNewEpochISR v fx t := by
  unfold partA partAW bAlterPartitionRequestTopicPartitionNewEpochISR
  have hf := hok.1 0 _ rfl
  rw [plainW_all hv]
  have hf := hok.1 1 _ rfl
  rw [plainW_all hv]
  rfl
def bAlterPartitionRequestTopicPartition (v : Int) (fx : Bool) (t : T) : List UInt8 := ((fixed (atT t 0).n 4) ++ ((fixed (atT t 1).n 4) ++ (((if (decide (0 ≤ v) && (decide ((2 : Int) < 0) || decide (v ≤ 2))) = true then arA fx (lsT (atT t 2)).length ++ (lsT (atT t 2)).flatMap (fun x => fixed x.n 4) else [])) ++ (((if (decide (3 ≤ v) && (decide ((-1 : Int) < 0) || decide (v ≤ (-1)))) = true then arA fx (lsT (atT t 3)).length ++ (lsT (atT t 3)).flatMap (bAlterPartitionRequestTopicPartitionNewEpochISR v fx) else [])) ++ (((if (decide (1 ≤ v) && (decide ((-1 : Int) < 0) || decide (v ≤ (-1)))) = true then fixed (atT t 4).n 1 else [])) ++ ((fixed (atT t 5).n 4) ++ ([]))))))) ++ tgsB fx t.u
theorem bAlterPartitionRequestTopicPartition_eq {v : Int} {fx : Bool} {t : T} (hv : 0 ≤ v) (hok : partOK 7 v dAlterPartitionRequestTopicPartition t) : partA 7 v fx dAlterPartitionRequestTopicPartition t = bAlterPartitionRequestTopicPartition v fx t := by
  unfold partA partAW bAlterPartitionRequestTopicPartition
  have hf := hok.1 0 _ rfl
  rw [plainW_all hv]
  have hf := hok.1 1 _ rfl
  rw [plainW_all hv]
  have hf := hok.1 2 _ rfl
  rw [plainW_ver]
  rw [ar_eq (g := (fun x => fixed x.n 4)) hf fun y hy => rfl]
  have hf := hok.1 3 _ rfl
  rw [plainW_ver]
  rw [ar_eq (g := (bAlterPartitionRequestTopicPartitionNewEpochISR v fx)) hf fun y hy => bAlterPartitionRequestTopicPartitionNewEpochISR_eq hv ((lsT_ok hf y hy).2.2 rfl)]
  have hf := hok.1 4 _ rfl
  rw [plainW_ver]
  have hf := hok.1 5 _ rfl
  rw [plainW_all hv]
  rfl
def bAlterPartitionRequestTopic (v : Int) (fx : Bool) (t : T) : List UInt8 := (((if (decide (0 ≤ v) && (decide ((1 : Int) < 0) || decide (v ≤ 1))) = true then txA fx (atT t 0).s else [])) ++ (((if (decide (2 ≤ v) && (decide ((-1 : Int) < 0) || decide (v ≤ (-1)))) = true then uuidB (atT t 1).s else [])) ++ ((arA fx (lsT (atT t 2)).length ++ (lsT (atT t 2)).flatMap (bAlterPartitionRequestTopicPartition v fx)) ++ ([])))) ++ tgsB fx t.u
theorem bAlterPartitionRequestTopic_eq {v : Int} {fx : Bool} {t : T} (hv : 0 ≤ v) (hok : partOK 8 v dAlterPartitionRequestTopic t) : partA 8 v fx dAlterPartitionRequestTopic t = bAlterPartitionRequestTopic v fx t := by
  unfold partA partAW bAlterPartitionRequestTopic
  have hf := hok.1 0 _ rfl
  rw [plainW_ver]
  rw [tx_eq hf]
  have hf := hok.1 1 _ rfl
  rw [plainW_ver]
  have hf := hok.1 2 _ rfl
  rw [plainW_all hv]
  rw [ar_eq (g := (bAlterPartitionRequestTopicPartition v fx)) hf fun y hy => bAlterPartitionRequestTopicPartition_eq hv ((lsT_ok hf y hy).2.2 rfl)]
  rfl
def bAlterPartitionRequest (v : Int) (fx : Bool) (t : T) : List UInt8 := ((fixed (atT t 0).n 4) ++ ((fixed (atT t 1).n 8) ++ ((arA fx (lsT (atT t 2)).length ++ (lsT (atT t 2)).flatMap (bAlterPartitionRequestTopic v fx)) ++ ([])))) ++ tgsB fx t.u
theorem bAlterPartitionRequest_eq {v : Int} {fx : Bool} {t : T} (hv : 0 ≤ v) (hok : partOK 9 v dAlterPartitionRequest t) : partA 9 v fx dAlterPartitionRequest t = bAlterPartitionRequest v fx t := by
  unfold partA partAW bAlterPartitionRequest
  have hf := hok.1 0 _ rfl
  rw [plainW_all hv]
  have hf := hok.1 1 _ rfl
  rw [plainW_all hv]
  have hf := hok.1 2 _ rfl
  rw [plainW_all hv]
  rw [ar_eq (g := (bAlterPartitionRequestTopic v fx)) hf fun y hy => bAlterPartitionRequestTopic_eq hv ((lsT_ok hf y hy).2.2 rfl)]
  rfl
theorem appAlterPartitionRequest {F : Nat → Prop} {w0 : World} {p B : Nat} {ty : TypeId} {v : Int} {x c2 m : Value} {l : List UInt8} {t : T} (hp : Own w0 p ty [.int .i16 v, .int .i32 (IntKind.i32.wrap (atT t 0).n), .int .i64 (atT t 1).n, c2, m]) (hc2 : ListR true 19 (rAlterPartitionRequestTopic w0 F) w0 F c2 (atT t 2)) (hm : TagsR w0 F m t.u) (hok : partOK 9 v dAlterPartitionRequest t)
    (hF : ∀ j, j < w0.heap.size → F j → x.ownBlock ≠ some j) (hxp : x.ownBlock ≠ some p) (hx : OB w0 B x l) (hB : B ≤ w0.heap.size) (hv : 0 ≤ v) (hl : l.length + (bAlterPartitionRequest v (decide (v ≥ 0)) t).length ≤ 70000000000000) :
    Does X.P 74 #[.pointer (some ⟨p, 0, none⟩), x] w0 fun r w' => Apd w0 B x l (bAlterPartitionRequest v (decide (v ≥ 0)) t) r w' := by
  have hpl := hp.lt
  obtain ⟨fx, hfx⟩ : ∃ fx, fx = decide (v ≥ 0) := ⟨_, rfl⟩
  rw [← hfx] at hl ⊢
  unfold bAlterPartitionRequest at hl
  simp only [List.length_append, List.length_nil] at hl
  obtain ⟨F0, hFR, hFx, hcs⟩ : ∃ F0 : Nat → Prop, (∀ j, F0 j → j < w0.heap.size ∧ x.ownBlock ≠ some j) ∧ (∀ j, j < w0.heap.size → F0 j → ¬ x.ownBlock = some j) ∧ (ListR true 19 (rAlterPartitionRequestTopic w0 F0) w0 F0 c2 (atT t 2) ∧ TagsR w0 F0 m t.u) :=
    ⟨fun j => F j ∧ j < w0.heap.size, fun j h => ⟨h.2, hF j h.2 h.1⟩, fun j _ h => hF j h.2 h.1, hc2.mono (fun k h1 h2 => ⟨h2, h1⟩) (fun _ _ h => rAlterPartitionRequestTopic_mono h fun k h1 h2 => ⟨h2, h1⟩), hm.mono fun k h1 h2 => ⟨h2, h1⟩⟩
  clear hm hc2 hF
  obtain ⟨hc2, hm⟩ := hcs
  obtain ⟨a2, k2, l2, rfl, hkm2, hll2, hnn2, hcl2, hrl2⟩ := hc2.view
  have hA := Apd.start hx
  obtain ⟨m0, hm0⟩ : ∃ m0 : List UInt8, m0 = [] := ⟨_, rfl⟩
  rw [← hm0] at hA
  have hl0 : m0.length = 0 := by rw [hm0]; rfl
  refine Does.go (X := X) (l := [_, _]) Tryz.func74 rfl (by kernel_rfl) (by kernel_rfl) _ rfl ?_
  ((conv=>whnf);repeat(first|(refine mvT ?_;conv=>whnf)|(refine mvF ?_;conv=>whnf)|(refine cT (by rfl) ?_;conv=>whnf)|(refine cF (by rfl) ?_;conv=>whnf)))
  refine ldS (hp.cell rfl) ?_;((conv=>whnf);repeat(first|(refine mvT ?_;conv=>whnf)|(refine mvF ?_;conv=>whnf)|(refine cT (by rfl) ?_;conv=>whnf)|(refine cF (by rfl) ?_;conv=>whnf)))
  rw [← hfx]
  (refine mvB ?_;((conv=>whnf);repeat(first|(refine mvT ?_;conv=>whnf)|(refine mvF ?_;conv=>whnf)|(refine cT (by rfl) ?_;conv=>whnf)|(refine cF (by rfl) ?_;conv=>whnf))))
  refine ldS ((hp.ext hA.ext hxp).cell rfl) ?_;((conv=>whnf);repeat(first|(refine mvT ?_;conv=>whnf)|(refine mvF ?_;conv=>whnf)|(refine cT (by rfl) ?_;conv=>whnf)|(refine cF (by rfl) ?_;conv=>whnf)))
  refine Does.mono (AppendInt32_does hA.ob (Nat.le_trans hB hA.size) (by simp only [List.length_append]; omega) _) ?_;rintro r w h;((conv=>whnf);repeat(first|(refine mvT ?_;conv=>whnf)|(refine mvF ?_;conv=>whnf)|(refine cT (by rfl) ?_;conv=>whnf)|(refine cF (by rfl) ?_;conv=>whnf)))
  rw [fixed4_mod (wrap_i32m _)] at h
  replace hA := hA.tr h
  clear h
  generalize hm1 : m0 ++ (fixed (atT t 0).n 4) = m1 at hA
  have hl1 : m1.length = m0.length + (fixed (atT t 0).n 4).length := by rw [← hm1, List.length_append]
  refine ldS ((hp.ext hA.ext hxp).cell rfl) ?_;((conv=>whnf);repeat(first|(refine mvT ?_;conv=>whnf)|(refine mvF ?_;conv=>whnf)|(refine cT (by rfl) ?_;conv=>whnf)|(refine cF (by rfl) ?_;conv=>whnf)))
  refine Does.mono (AppendInt64_does hA.ob (Nat.le_trans hB hA.size) (by simp only [List.length_append]; omega) _) ?_;rintro r w h;((conv=>whnf);repeat(first|(refine mvT ?_;conv=>whnf)|(refine mvF ?_;conv=>whnf)|(refine cT (by rfl) ?_;conv=>whnf)|(refine cF (by rfl) ?_;conv=>whnf)))
  replace hA := hA.tr h
  clear h
  generalize hm2 : m1 ++ (fixed (atT t 1).n 8) = m2 at hA
  have hl2 : m2.length = m1.length + (fixed (atT t 1).n 8).length := by rw [← hm2, List.length_append]
  refine ldS ((hp.ext hA.ext hxp).cell rfl) ?_;((conv=>whnf);repeat(first|(refine mvT ?_;conv=>whnf)|(refine mvF ?_;conv=>whnf)|(refine cT (by rfl) ?_;conv=>whnf)|(refine cF (by rfl) ?_;conv=>whnf)))
  have hml2 := lsT_len (hok.1 2 _ rfl)
  (refine mvB ?_;((conv=>whnf);repeat(first|(refine mvT ?_;conv=>whnf)|(refine mvF ?_;conv=>whnf)|(refine cT (by rfl) ?_;conv=>whnf)|(refine cF (by rfl) ?_;conv=>whnf))))
  refine VC.cutE (fun r => [(1, r), (0, .pointer (some ⟨p, 0, none⟩)), (5, .int .i16 v), (6, .bool fx), (9, .slice a2 l2.length k2)]) (fun r w' => Apd w0 B x l (m2 ++ (arA fx (lsT (atT t 2)).length)) r w') ?_ ?_
  · refine cI (by rfl) (fun hc=>?_) (fun hc=>?_)
    · ((conv=>whnf);repeat(first|(refine mvT ?_;conv=>whnf)|(refine mvF ?_;conv=>whnf)|(refine cT (by rfl) ?_;conv=>whnf)|(refine cF (by rfl) ?_;conv=>whnf)))
      refine Does.mono (AppendCompactArrayLen_does hA.ob (Nat.le_trans hB hA.size) (by simp only [List.length_append]; omega) l2.length (by omega)) ?_;rintro r w h;((conv=>whnf);repeat(first|(refine mvT ?_;conv=>whnf)|(refine mvF ?_;conv=>whnf)|(refine cT (by rfl) ?_;conv=>whnf)|(refine cF (by rfl) ?_;conv=>whnf)))
      rw [hll2] at h
      replace hA := hA.tr h
      clear h
      refine ⟨_, ⟨rfl, rfl, rfl, rfl, rfl, trivial⟩, ?_⟩
      rw [hc]
      exact hA
    · ((conv=>whnf);repeat(first|(refine mvT ?_;conv=>whnf)|(refine mvF ?_;conv=>whnf)|(refine cT (by rfl) ?_;conv=>whnf)|(refine cF (by rfl) ?_;conv=>whnf)))
      refine Does.mono (AppendArrayLen_does hA.ob (Nat.le_trans hB hA.size) (by simp only [List.length_append]; omega) l2.length) ?_;rintro r w h;((conv=>whnf);repeat(first|(refine mvT ?_;conv=>whnf)|(refine mvF ?_;conv=>whnf)|(refine cT (by rfl) ?_;conv=>whnf)|(refine cF (by rfl) ?_;conv=>whnf)))
      rw [hll2] at h
      replace hA := hA.tr h
      clear h
      refine ⟨_, ⟨rfl, rfl, rfl, rfl, rfl, trivial⟩, ?_⟩
      rw [hc]
      exact hA
  clear hA
  rintro r w hA
  ((conv=>whnf);repeat(first|(refine mvT ?_;conv=>whnf)|(refine mvF ?_;conv=>whnf)|(refine cT (by rfl) ?_;conv=>whnf)|(refine cF (by rfl) ?_;conv=>whnf)))
  generalize hm3 : m2 ++ (arA fx (lsT (atT t 2)).length) = m3 at hA
  have hl3 : m3.length = m2.length + (arA fx (lsT (atT t 2)).length).length := by rw [← hm3, List.length_append]
  refine VL.loop (fun s : Nat × Value => [(1, s.2), (0, .pointer (some ⟨p, 0, none⟩)), (5, .int .i16 v), (6, .bool fx), (9, .slice a2 l2.length k2), (64, .slice a2 l2.length k2), (65, .int .i64 l2.length), (66, .int .i64 s.1)])
    (fun s w' => s.1 ≤ l2.length ∧ Apd w0 B x l (m3 ++ ((lsT (atT t 2)).take s.1).flatMap (bAlterPartitionRequestTopic v fx)) s.2 w') (fun s => l2.length - s.1) (0, r) ⟨rfl, rfl, rfl, rfl, rfl, rfl, rfl, rfl, trivial⟩ ⟨Nat.zero_le _, by rw [List.take_zero, List.flatMap_nil, List.append_nil]; exact hA⟩ ?_
  clear hA
  rintro ⟨i1, r⟩ w ⟨hi1, hA⟩
  dsimp only at hi1 hA
  ((conv=>whnf);repeat(first|(refine mvT ?_;conv=>whnf)|(refine mvF ?_;conv=>whnf)|(refine cT (by rfl) ?_;conv=>whnf)|(refine cF (by rfl) ?_;conv=>whnf)))
  refine cI (by rfl) (fun h9=>?_) (fun h9=>?_)
  · have hil : i1 < l2.length := by have := of_decide_eq_true h9; simp only at this; omega
    have hiL1 : i1 < (lsT (atT t 2)).length := by omega
    obtain ⟨hft, hfl⟩ := flat_take (bAlterPartitionRequestTopic v fx) (lsT (atT t 2)) i1 hiL1
    obtain ⟨b2, o2, rfl, hF2, hb2, hce2⟩ := hcl2 i1 l2[i1] (by simp [hil])
    have hre2 := hrl2 i1 l2[i1] ((lsT (atT t 2))[i1]) (by simp [hil]) (by simp [hiL1])
    have hlo2 := lsT_ok (hok.1 2 _ rfl) ((lsT (atT t 2))[i1]) (List.getElem_mem hiL1)
    generalize hm4 : m3 ++ ((lsT (atT t 2)).take i1).flatMap (bAlterPartitionRequestTopic v fx) = m4 at hA
    have hl4 : m4.length = m3.length + (((lsT (atT t 2)).take i1).flatMap (bAlterPartitionRequestTopic v fx)).length := by rw [← hm4, List.length_append]
    obtain ⟨x1, hx1⟩ : ∃ y, y = (lsT (atT t 2))[i1] := ⟨_, rfl⟩
    rw [← hx1] at hft hfl hre2 hlo2
    obtain ⟨u1_1_0, u1_1_1, u1_1_2, u1_1_3, u1_1_4, u1_1_5, u1_1_6, u1_1_7, u1_1_8, u1_1_9, u1_1_10, u1_1_11, u1_1_12, u1_1_13, u1_1_14, u1_1_15, c1_2, m1_, hcells, hc1_1, hc1_2, hm1_⟩ := hre2
    rw [hcells] at hce2
    have hok1_ := hlo2.2.2 rfl
    obtain ⟨a1_2, k1_2, l1_2, rfl, hkm1_2, hll1_2, hnn1_2, hcl1_2, hrl1_2⟩ := hc1_2.view
    have hgl : (bAlterPartitionRequestTopic v fx x1).length = (bAlterPartitionRequestTopic v fx x1).length := rfl
    conv at hgl => rhs; unfold bAlterPartitionRequestTopic
    simp only [List.length_append, List.length_nil] at hgl
    ((conv=>whnf);repeat(first|(refine mvT ?_;conv=>whnf)|(refine mvF ?_;conv=>whnf)|(refine cT (by rfl) ?_;conv=>whnf)|(refine cF (by rfl) ?_;conv=>whnf)))
    refine ⟨b2, o2, rfl, ⟨by omega, by omega⟩, ?_⟩
    ((conv=>whnf);repeat(first|(refine mvT ?_;conv=>whnf)|(refine mvF ?_;conv=>whnf)|(refine cT (by rfl) ?_;conv=>whnf)|(refine cF (by rfl) ?_;conv=>whnf)))
    intro cq hcq
    obtain rfl : cq = true := by rw [← hcq]; exact decide_eq_true hv
    ((conv=>whnf);repeat(first|(refine mvT ?_;conv=>whnf)|(refine mvF ?_;conv=>whnf)|(refine cT (by rfl) ?_;conv=>whnf)|(refine cF (by rfl) ?_;conv=>whnf)))
    refine VC.cutE (fun r => [(1, r), (0, .pointer (some ⟨p, 0, none⟩)), (5, .int .i16 v), (6, .bool fx), (9, .slice (some ⟨b2, o2, none⟩) l2.length k2), (64, .slice (some ⟨b2, o2, none⟩) l2.length k2), (65, .int .i64 l2.length), (66, .int .i64 i1), (11, .pointer (some ⟨b2, o2 + i1 * 19, none⟩))]) (fun r w' => Apd w0 B x l (m4 ++ ((if (decide (0 ≤ v) && (decide ((1 : Int) < 0) || decide (v ≤ 1))) = true then txA fx (atT x1 0).s else []))) r w') ?_ ?_
    · refine cI (by rfl) (fun hcv=>?_) (fun hcv=>?_)
      · ((conv=>whnf);repeat(first|(refine mvT ?_;conv=>whnf)|(refine mvF ?_;conv=>whnf)|(refine cT (by rfl) ?_;conv=>whnf)|(refine cF (by rfl) ?_;conv=>whnf)))
        refine ⟨_, ld ((hce2.ext hA.ext (hFx _ hb2 hF2)).cell (j := 0) rfl) (by simp <;> omega), ?_⟩; ((conv=>whnf);repeat(first|(refine mvT ?_;conv=>whnf)|(refine mvF ?_;conv=>whnf)|(refine cT (by rfl) ?_;conv=>whnf)|(refine cF (by rfl) ?_;conv=>whnf)))
        have hsl := fieldOK_text (hok1_.1 0 _ rfl)
        (refine mvB ?_;((conv=>whnf);repeat(first|(refine mvT ?_;conv=>whnf)|(refine mvF ?_;conv=>whnf)|(refine cT (by rfl) ?_;conv=>whnf)|(refine cF (by rfl) ?_;conv=>whnf))))
        refine cI (by rfl) (fun hc=>?_) (fun hc=>?_)
        · ((conv=>whnf);repeat(first|(refine mvT ?_;conv=>whnf)|(refine mvF ?_;conv=>whnf)|(refine cT (by rfl) ?_;conv=>whnf)|(refine cF (by rfl) ?_;conv=>whnf)))
          refine Does.mono (AppendCompactString_does hA.ob (Nat.le_trans hB hA.size) _ (by omega) (by simp only [List.length_append]; omega)) ?_;rintro r w h;((conv=>whnf);repeat(first|(refine mvT ?_;conv=>whnf)|(refine mvF ?_;conv=>whnf)|(refine cT (by rfl) ?_;conv=>whnf)|(refine cF (by rfl) ?_;conv=>whnf)))
          replace hA := hA.tr h
          clear h
          refine ⟨_, ⟨rfl, rfl, rfl, rfl, rfl, rfl, rfl, rfl, rfl, trivial⟩, ?_⟩
          rw [if_pos (by simp only [ge_iff_le, decide_eq_true_eq] at hcv; simp; omega), hc]
          exact hA
        · ((conv=>whnf);repeat(first|(refine mvT ?_;conv=>whnf)|(refine mvF ?_;conv=>whnf)|(refine cT (by rfl) ?_;conv=>whnf)|(refine cF (by rfl) ?_;conv=>whnf)))
          refine Does.mono (AppendString_does hA.ob (Nat.le_trans hB hA.size) _ (by simp only [List.length_append]; omega)) ?_;rintro r w h;((conv=>whnf);repeat(first|(refine mvT ?_;conv=>whnf)|(refine mvF ?_;conv=>whnf)|(refine cT (by rfl) ?_;conv=>whnf)|(refine cF (by rfl) ?_;conv=>whnf)))
          replace hA := hA.tr h
          clear h
          refine ⟨_, ⟨rfl, rfl, rfl, rfl, rfl, rfl, rfl, rfl, rfl, trivial⟩, ?_⟩
          rw [if_pos (by simp only [ge_iff_le, decide_eq_true_eq] at hcv; simp; omega), hc]
          exact hA
      · ((conv=>whnf);repeat(first|(refine mvT ?_;conv=>whnf)|(refine mvF ?_;conv=>whnf)|(refine cT (by rfl) ?_;conv=>whnf)|(refine cF (by rfl) ?_;conv=>whnf)))
        refine ⟨_, ⟨rfl, rfl, rfl, rfl, rfl, rfl, rfl, rfl, rfl, trivial⟩, ?_⟩
        rw [if_neg (by simp only [ge_iff_le, decide_eq_false_iff_not] at hcv; simp; omega), List.append_nil]
        exact hA
    clear hA
    rintro r w hA
    ((conv=>whnf);repeat(first|(refine mvT ?_;conv=>whnf)|(refine mvF ?_;conv=>whnf)|(refine cT (by rfl) ?_;conv=>whnf)|(refine cF (by rfl) ?_;conv=>whnf)))
    generalize hm5 : m4 ++ ((if (decide (0 ≤ v) && (decide ((1 : Int) < 0) || decide (v ≤ 1))) = true then txA fx (atT x1 0).s else [])) = m5 at hA
    have hl5 : m5.length = m4.length + ((if (decide (0 ≤ v) && (decide ((1 : Int) < 0) || decide (v ≤ 1))) = true then txA fx (atT x1 0).s else [])).length := by rw [← hm5, List.length_append]
    refine VC.cutE (fun r => [(1, r), (0, .pointer (some ⟨p, 0, none⟩)), (5, .int .i16 v), (6, .bool fx), (9, .slice (some ⟨b2, o2, none⟩) l2.length k2), (64, .slice (some ⟨b2, o2, none⟩) l2.length k2), (65, .int .i64 l2.length), (66, .int .i64 i1), (11, .pointer (some ⟨b2, o2 + i1 * 19, none⟩))]) (fun r w' => Apd w0 B x l (m5 ++ ((if (decide (2 ≤ v) && (decide ((-1 : Int) < 0) || decide (v ≤ (-1)))) = true then uuidB (atT x1 1).s else []))) r w') ?_ ?_
    · refine cI (by rfl) (fun hcv=>?_) (fun hcv=>?_)
      · ((conv=>whnf);repeat(first|(refine mvT ?_;conv=>whnf)|(refine mvF ?_;conv=>whnf)|(refine cT (by rfl) ?_;conv=>whnf)|(refine cF (by rfl) ?_;conv=>whnf)))
        refine ⟨_, rfl, Cells.sub2 (hce2.ext hA.ext (hFx _ hb2 hF2)) 1 16 rfl (by simp <;> omega), ?_⟩; ((conv=>whnf);repeat(first|(refine mvT ?_;conv=>whnf)|(refine mvF ?_;conv=>whnf)|(refine cT (by rfl) ?_;conv=>whnf)|(refine cF (by rfl) ?_;conv=>whnf)))
        intro bu wu hbu hou hxu
        ((conv=>whnf);repeat(first|(refine mvT ?_;conv=>whnf)|(refine mvF ?_;conv=>whnf)|(refine cT (by rfl) ?_;conv=>whnf)|(refine cF (by rfl) ?_;conv=>whnf)))
        refine st_all [bcell u1_1_0, bcell u1_1_1, bcell u1_1_2, bcell u1_1_3, bcell u1_1_4, bcell u1_1_5, bcell u1_1_6, bcell u1_1_7, bcell u1_1_8, bcell u1_1_9, bcell u1_1_10, bcell u1_1_11, bcell u1_1_12, bcell u1_1_13, bcell u1_1_14, bcell u1_1_15] hou rfl rfl rfl ?_
        intro wv hov hxv
        ((conv=>whnf);repeat(first|(refine mvT ?_;conv=>whnf)|(refine mvF ?_;conv=>whnf)|(refine cT (by rfl) ?_;conv=>whnf)|(refine cF (by rfl) ?_;conv=>whnf)))
        replace hA := hA.e0 ((Ext.refl nob _).trans (hxu.trans hxv (M' := fun k => k = bu) fun k hk e => by omega) fun _ _ h => h)
        refine ⟨_, rfl, hov.cells, ?_⟩
        ((conv=>whnf);repeat(first|(refine mvT ?_;conv=>whnf)|(refine mvF ?_;conv=>whnf)|(refine cT (by rfl) ?_;conv=>whnf)|(refine cF (by rfl) ?_;conv=>whnf)))
        refine Does.mono (AppendUuid_does (s := [u1_1_0, u1_1_1, u1_1_2, u1_1_3, u1_1_4, u1_1_5, u1_1_6, u1_1_7, u1_1_8, u1_1_9, u1_1_10, u1_1_11, u1_1_12, u1_1_13, u1_1_14, u1_1_15]) hA.ob (Nat.le_trans hB hA.size) (by simp only [List.length_append, List.length_cons, List.length_nil]; omega)) ?_;rintro r w h;((conv=>whnf);repeat(first|(refine mvT ?_;conv=>whnf)|(refine mvF ?_;conv=>whnf)|(refine cT (by rfl) ?_;conv=>whnf)|(refine cF (by rfl) ?_;conv=>whnf)))
        replace hA := hA.tr h
        clear h
        rw [← hc1_1] at hA
        generalize hm6 : m5 ++ (uuidB (atT x1 1).s) = m6 at hA
        have hl6 : m6.length = m5.length + (uuidB (atT x1 1).s).length := by rw [← hm6, List.length_append]
        refine ⟨_, ⟨rfl, rfl, rfl, rfl, rfl, rfl, rfl, rfl, rfl, trivial⟩, ?_⟩
        rw [if_pos (by simp only [ge_iff_le, decide_eq_true_eq] at hcv; simp; omega)]
        rw [hm6]
        exact hA
      · ((conv=>whnf);repeat(first|(refine mvT ?_;conv=>whnf)|(refine mvF ?_;conv=>whnf)|(refine cT (by rfl) ?_;conv=>whnf)|(refine cF (by rfl) ?_;conv=>whnf)))
        refine ⟨_, ⟨rfl, rfl, rfl, rfl, rfl, rfl, rfl, rfl, rfl, trivial⟩, ?_⟩
        rw [if_neg (by simp only [ge_iff_le, decide_eq_false_iff_not] at hcv; simp; omega), List.append_nil]
        exact hA
    clear hA
    rintro r w hA
    ((conv=>whnf);repeat(first|(refine mvT ?_;conv=>whnf)|(refine mvF ?_;conv=>whnf)|(refine cT (by rfl) ?_;conv=>whnf)|(refine cF (by rfl) ?_;conv=>whnf)))
    generalize hm6 : m5 ++ ((if (decide (2 ≤ v) && (decide ((-1 : Int) < 0) || decide (v ≤ (-1)))) = true then uuidB (atT x1 1).s else [])) = m6 at hA
    have hl6 : m6.length = m5.length + ((if (decide (2 ≤ v) && (decide ((-1 : Int) < 0) || decide (v ≤ (-1)))) = true then uuidB (atT x1 1).s else [])).length := by rw [← hm6, List.length_append]
    refine ⟨_, ld ((hce2.ext hA.ext (hFx _ hb2 hF2)).cell (j := 17) rfl) (by simp <;> omega), ?_⟩; ((conv=>whnf);repeat(first|(refine mvT ?_;conv=>whnf)|(refine mvF ?_;conv=>whnf)|(refine cT (by rfl) ?_;conv=>whnf)|(refine cF (by rfl) ?_;conv=>whnf)))
    have hml1_2 := lsT_len (hok1_.1 2 _ rfl)
    (refine mvB ?_;((conv=>whnf);repeat(first|(refine mvT ?_;conv=>whnf)|(refine mvF ?_;conv=>whnf)|(refine cT (by rfl) ?_;conv=>whnf)|(refine cF (by rfl) ?_;conv=>whnf))))
    refine VC.cutE (fun r => [(1, r), (0, .pointer (some ⟨p, 0, none⟩)), (5, .int .i16 v), (6, .bool fx), (9, .slice (some ⟨b2, o2, none⟩) l2.length k2), (64, .slice (some ⟨b2, o2, none⟩) l2.length k2), (65, .int .i64 l2.length), (66, .int .i64 i1), (11, .pointer (some ⟨b2, o2 + i1 * 19, none⟩)), (14, .slice a1_2 l1_2.length k1_2)]) (fun r w' => Apd w0 B x l (m6 ++ (arA fx (lsT (atT x1 2)).length)) r w') ?_ ?_
    · refine cI (by rfl) (fun hc=>?_) (fun hc=>?_)
      · ((conv=>whnf);repeat(first|(refine mvT ?_;conv=>whnf)|(refine mvF ?_;conv=>whnf)|(refine cT (by rfl) ?_;conv=>whnf)|(refine cF (by rfl) ?_;conv=>whnf)))
        refine Does.mono (AppendCompactArrayLen_does hA.ob (Nat.le_trans hB hA.size) (by simp only [List.length_append]; omega) l1_2.length (by omega)) ?_;rintro r w h;((conv=>whnf);repeat(first|(refine mvT ?_;conv=>whnf)|(refine mvF ?_;conv=>whnf)|(refine cT (by rfl) ?_;conv=>whnf)|(refine cF (by rfl) ?_;conv=>whnf)))
        rw [hll1_2] at h
        replace hA := hA.tr h
        clear h
        refine ⟨_, ⟨rfl, rfl, rfl, rfl, rfl, rfl, rfl, rfl, rfl, rfl, trivial⟩, ?_⟩
        rw [hc]
        exact hA
      · ((conv=>whnf);repeat(first|(refine mvT ?_;conv=>whnf)|(refine mvF ?_;conv=>whnf)|(refine cT (by rfl) ?_;conv=>whnf)|(refine cF (by rfl) ?_;conv=>whnf)))
        refine Does.mono (AppendArrayLen_does hA.ob (Nat.le_trans hB hA.size) (by simp only [List.length_append]; omega) l1_2.length) ?_;rintro r w h;((conv=>whnf);repeat(first|(refine mvT ?_;conv=>whnf)|(refine mvF ?_;conv=>whnf)|(refine cT (by rfl) ?_;conv=>whnf)|(refine cF (by rfl) ?_;conv=>whnf)))
        rw [hll1_2] at h
        replace hA := hA.tr h
        clear h
        refine ⟨_, ⟨rfl, rfl, rfl, rfl, rfl, rfl, rfl, rfl, rfl, rfl, trivial⟩, ?_⟩
        rw [hc]
        exact hA
    clear hA
    rintro r w hA
    ((conv=>whnf);repeat(first|(refine mvT ?_;conv=>whnf)|(refine mvF ?_;conv=>whnf)|(refine cT (by rfl) ?_;conv=>whnf)|(refine cF (by rfl) ?_;conv=>whnf)))
    generalize hm7 : m6 ++ (arA fx (lsT (atT x1 2)).length) = m7 at hA
    have hl7 : m7.length = m6.length + (arA fx (lsT (atT x1 2)).length).length := by rw [← hm7, List.length_append]
    refine VL.loop (fun s : Nat × Value => [(1, s.2), (0, .pointer (some ⟨p, 0, none⟩)), (5, .int .i16 v), (6, .bool fx), (9, .slice (some ⟨b2, o2, none⟩) l2.length k2), (64, .slice (some ⟨b2, o2, none⟩) l2.length k2), (65, .int .i64 l2.length), (66, .int .i64 i1), (11, .pointer (some ⟨b2, o2 + i1 * 19, none⟩)), (14, .slice a1_2 l1_2.length k1_2), (111, .slice a1_2 l1_2.length k1_2), (112, .int .i64 l1_2.length), (113, .int .i64 s.1)])
      (fun s w' => s.1 ≤ l1_2.length ∧ Apd w0 B x l (m7 ++ ((lsT (atT x1 2)).take s.1).flatMap (bAlterPartitionRequestTopicPartition v fx)) s.2 w') (fun s => l1_2.length - s.1) (0, r) ⟨rfl, rfl, rfl, rfl, rfl, rfl, rfl, rfl, rfl, rfl, rfl, rfl, rfl, trivial⟩ ⟨Nat.zero_le _, by rw [List.take_zero, List.flatMap_nil, List.append_nil]; exact hA⟩ ?_
    clear hA
    rintro ⟨i2, r⟩ w ⟨hi2, hA⟩
    dsimp only at hi2 hA
    ((conv=>whnf);repeat(first|(refine mvT ?_;conv=>whnf)|(refine mvF ?_;conv=>whnf)|(refine cT (by rfl) ?_;conv=>whnf)|(refine cF (by rfl) ?_;conv=>whnf)))
    refine cI (by rfl) (fun h9=>?_) (fun h9=>?_)
    · have hil : i2 < l1_2.length := by have := of_decide_eq_true h9; simp only at this; omega
      have hiL2 : i2 < (lsT (atT x1 2)).length := by omega
      obtain ⟨hft, hfl⟩ := flat_take (bAlterPartitionRequestTopicPartition v fx) (lsT (atT x1 2)) i2 hiL2
      obtain ⟨b1_2, o1_2, rfl, hF1_2, hb1_2, hce1_2⟩ := hcl1_2 i2 l1_2[i2] (by simp [hil])
      have hre1_2 := hrl1_2 i2 l1_2[i2] ((lsT (atT x1 2))[i2]) (by simp [hil]) (by simp [hiL2])
      have hlo1_2 := lsT_ok (hok1_.1 2 _ rfl) ((lsT (atT x1 2))[i2]) (List.getElem_mem hiL2)
      generalize hm8 : m7 ++ ((lsT (atT x1 2)).take i2).flatMap (bAlterPartitionRequestTopicPartition v fx) = m8 at hA
      have hl8 : m8.length = m7.length + (((lsT (atT x1 2)).take i2).flatMap (bAlterPartitionRequestTopicPartition v fx)).length := by rw [← hm8, List.length_append]
      obtain ⟨x2, hx2⟩ : ∃ y, y = (lsT (atT x1 2))[i2] := ⟨_, rfl⟩
      rw [← hx2] at hft hfl hre1_2 hlo1_2
      obtain ⟨c2_2, c2_3, m2_, hcells, hc2_2, hc2_3, hm2_⟩ := hre1_2
      rw [hcells] at hce1_2
      have hok2_ := hlo1_2.2.2 rfl
      obtain ⟨a2_2, k2_2, l2_2, rfl, hkm2_2, hll2_2, hnn2_2, hcl2_2, hrl2_2⟩ := hc2_2.view
      obtain ⟨a2_3, k2_3, l2_3, rfl, hkm2_3, hll2_3, hnn2_3, hcl2_3, hrl2_3⟩ := hc2_3.view
      have hgl : (bAlterPartitionRequestTopicPartition v fx x2).length = (bAlterPartitionRequestTopicPartition v fx x2).length := rfl
      conv at hgl => rhs; unfold bAlterPartitionRequestTopicPartition
      simp only [List.length_append, List.length_nil] at hgl
      ((conv=>whnf);repeat(first|(refine mvT ?_;conv=>whnf)|(refine mvF ?_;conv=>whnf)|(refine cT (by rfl) ?_;conv=>whnf)|(refine cF (by rfl) ?_;conv=>whnf)))
      refine ⟨b1_2, o1_2, rfl, ⟨by omega, by omega⟩, ?_⟩
      ((conv=>whnf);repeat(first|(refine mvT ?_;conv=>whnf)|(refine mvF ?_;conv=>whnf)|(refine cT (by rfl) ?_;conv=>whnf)|(refine cF (by rfl) ?_;conv=>whnf)))
      refine ⟨_, ld ((hce1_2.ext hA.ext (hFx _ hb1_2 hF1_2)).cell (j := 0) rfl) (by simp <;> omega), ?_⟩; ((conv=>whnf);repeat(first|(refine mvT ?_;conv=>whnf)|(refine mvF ?_;conv=>whnf)|(refine cT (by rfl) ?_;conv=>whnf)|(refine cF (by rfl) ?_;conv=>whnf)))
      refine Does.mono (AppendInt32_does hA.ob (Nat.le_trans hB hA.size) (by simp only [List.length_append]; omega) _) ?_;rintro r w h;((conv=>whnf);repeat(first|(refine mvT ?_;conv=>whnf)|(refine mvF ?_;conv=>whnf)|(refine cT (by rfl) ?_;conv=>whnf)|(refine cF (by rfl) ?_;conv=>whnf)))
      rw [fixed4_mod (wrap_i32m _)] at h
      replace hA := hA.tr h
      clear h
      generalize hm9 : m8 ++ (fixed (atT x2 0).n 4) = m9 at hA
      have hl9 : m9.length = m8.length + (fixed (atT x2 0).n 4).length := by rw [← hm9, List.length_append]
      refine ⟨_, ld ((hce1_2.ext hA.ext (hFx _ hb1_2 hF1_2)).cell (j := 1) rfl) (by simp <;> omega), ?_⟩; ((conv=>whnf);repeat(first|(refine mvT ?_;conv=>whnf)|(refine mvF ?_;conv=>whnf)|(refine cT (by rfl) ?_;conv=>whnf)|(refine cF (by rfl) ?_;conv=>whnf)))
      refine Does.mono (AppendInt32_does hA.ob (Nat.le_trans hB hA.size) (by simp only [List.length_append]; omega) _) ?_;rintro r w h;((conv=>whnf);repeat(first|(refine mvT ?_;conv=>whnf)|(refine mvF ?_;conv=>whnf)|(refine cT (by rfl) ?_;conv=>whnf)|(refine cF (by rfl) ?_;conv=>whnf)))
      rw [fixed4_mod (wrap_i32m _)] at h
      replace hA := hA.tr h
      clear h
      generalize hm10 : m9 ++ (fixed (atT x2 1).n 4) = m10 at hA
      have hl10 : m10.length = m9.length + (fixed (atT x2 1).n 4).length := by rw [← hm10, List.length_append]
      intro cq hcq
      obtain rfl : cq = true := by rw [← hcq]; exact decide_eq_true hv
      ((conv=>whnf);repeat(first|(refine mvT ?_;conv=>whnf)|(refine mvF ?_;conv=>whnf)|(refine cT (by rfl) ?_;conv=>whnf)|(refine cF (by rfl) ?_;conv=>whnf)))
      refine VC.cutE (fun r => [(1, r), (0, .pointer (some ⟨p, 0, none⟩)), (5, .int .i16 v), (6, .bool fx), (9, .slice (some ⟨b2, o2, none⟩) l2.length k2), (64, .slice (some ⟨b2, o2, none⟩) l2.length k2), (65, .int .i64 l2.length), (66, .int .i64 i1), (11, .pointer (some ⟨b2, o2 + i1 * 19, none⟩)), (14, .slice (some ⟨b1_2, o1_2, none⟩) l1_2.length k1_2), (111, .slice (some ⟨b1_2, o1_2, none⟩) l1_2.length k1_2), (112, .int .i64 l1_2.length), (113, .int .i64 i2), (16, .pointer (some ⟨b1_2, o1_2 + i2 * 7, none⟩))]) (fun r w' => Apd w0 B x l (m10 ++ ((if (decide (0 ≤ v) && (decide ((2 : Int) < 0) || decide (v ≤ 2))) = true then arA fx (lsT (atT x2 2)).length ++ (lsT (atT x2 2)).flatMap (fun x => fixed x.n 4) else []))) r w') ?_ ?_
      · refine cI (by rfl) (fun hcv=>?_) (fun hcv=>?_)
        · ((conv=>whnf);repeat(first|(refine mvT ?_;conv=>whnf)|(refine mvF ?_;conv=>whnf)|(refine cT (by rfl) ?_;conv=>whnf)|(refine cF (by rfl) ?_;conv=>whnf)))
          refine ⟨_, ld ((hce1_2.ext hA.ext (hFx _ hb1_2 hF1_2)).cell (j := 2) rfl) (by simp <;> omega), ?_⟩; ((conv=>whnf);repeat(first|(refine mvT ?_;conv=>whnf)|(refine mvF ?_;conv=>whnf)|(refine cT (by rfl) ?_;conv=>whnf)|(refine cF (by rfl) ?_;conv=>whnf)))
          have hvl10 : ((if (decide (0 ≤ v) && (decide ((2 : Int) < 0) || decide (v ≤ 2))) = true then arA fx (lsT (atT x2 2)).length ++ (lsT (atT x2 2)).flatMap (fun x => fixed x.n 4) else [])).length = (arA fx (lsT (atT x2 2)).length ++ (lsT (atT x2 2)).flatMap (fun x => fixed x.n 4)).length := by rw [if_pos (by simp only [ge_iff_le, decide_eq_true_eq] at hcv; simp; omega)]
          simp only [List.length_append] at hvl10
          have hml2_2 := lsT_len (hok2_.1 2 _ rfl)
          (refine mvB ?_;((conv=>whnf);repeat(first|(refine mvT ?_;conv=>whnf)|(refine mvF ?_;conv=>whnf)|(refine cT (by rfl) ?_;conv=>whnf)|(refine cF (by rfl) ?_;conv=>whnf))))
          refine VC.cutE (fun r => [(1, r), (0, .pointer (some ⟨p, 0, none⟩)), (5, .int .i16 v), (6, .bool fx), (9, .slice (some ⟨b2, o2, none⟩) l2.length k2), (64, .slice (some ⟨b2, o2, none⟩) l2.length k2), (65, .int .i64 l2.length), (66, .int .i64 i1), (11, .pointer (some ⟨b2, o2 + i1 * 19, none⟩)), (14, .slice (some ⟨b1_2, o1_2, none⟩) l1_2.length k1_2), (111, .slice (some ⟨b1_2, o1_2, none⟩) l1_2.length k1_2), (112, .int .i64 l1_2.length), (113, .int .i64 i2), (16, .pointer (some ⟨b1_2, o1_2 + i2 * 7, none⟩)), (19, .slice a2_2 l2_2.length k2_2)]) (fun r w' => Apd w0 B x l (m10 ++ (arA fx (lsT (atT x2 2)).length)) r w') ?_ ?_
          · refine cI (by rfl) (fun hc=>?_) (fun hc=>?_)
            · ((conv=>whnf);repeat(first|(refine mvT ?_;conv=>whnf)|(refine mvF ?_;conv=>whnf)|(refine cT (by rfl) ?_;conv=>whnf)|(refine cF (by rfl) ?_;conv=>whnf)))
              refine Does.mono (AppendCompactArrayLen_does hA.ob (Nat.le_trans hB hA.size) (by simp only [List.length_append]; omega) l2_2.length (by omega)) ?_;rintro r w h;((conv=>whnf);repeat(first|(refine mvT ?_;conv=>whnf)|(refine mvF ?_;conv=>whnf)|(refine cT (by rfl) ?_;conv=>whnf)|(refine cF (by rfl) ?_;conv=>whnf)))
              rw [hll2_2] at h
              replace hA := hA.tr h
              clear h
              refine ⟨_, ⟨rfl, rfl, rfl, rfl, rfl, rfl, rfl, rfl, rfl, rfl, rfl, rfl, rfl, rfl, rfl, trivial⟩, ?_⟩
              rw [hc]
              exact hA
            · ((conv=>whnf);repeat(first|(refine mvT ?_;conv=>whnf)|(refine mvF ?_;conv=>whnf)|(refine cT (by rfl) ?_;conv=>whnf)|(refine cF (by rfl) ?_;conv=>whnf)))
              refine Does.mono (AppendArrayLen_does hA.ob (Nat.le_trans hB hA.size) (by simp only [List.length_append]; omega) l2_2.length) ?_;rintro r w h;((conv=>whnf);repeat(first|(refine mvT ?_;conv=>whnf)|(refine mvF ?_;conv=>whnf)|(refine cT (by rfl) ?_;conv=>whnf)|(refine cF (by rfl) ?_;conv=>whnf)))
              rw [hll2_2] at h
              replace hA := hA.tr h
              clear h
              refine ⟨_, ⟨rfl, rfl, rfl, rfl, rfl, rfl, rfl, rfl, rfl, rfl, rfl, rfl, rfl, rfl, rfl, trivial⟩, ?_⟩
              rw [hc]
              exact hA
          clear hA
          rintro r w hA
          ((conv=>whnf);repeat(first|(refine mvT ?_;conv=>whnf)|(refine mvF ?_;conv=>whnf)|(refine cT (by rfl) ?_;conv=>whnf)|(refine cF (by rfl) ?_;conv=>whnf)))
          generalize hm11 : m10 ++ (arA fx (lsT (atT x2 2)).length) = m11 at hA
          have hl11 : m11.length = m10.length + (arA fx (lsT (atT x2 2)).length).length := by rw [← hm11, List.length_append]
          refine VL.loop (fun s : Nat × Value => [(1, s.2), (0, .pointer (some ⟨p, 0, none⟩)), (5, .int .i16 v), (6, .bool fx), (9, .slice (some ⟨b2, o2, none⟩) l2.length k2), (64, .slice (some ⟨b2, o2, none⟩) l2.length k2), (65, .int .i64 l2.length), (66, .int .i64 i1), (11, .pointer (some ⟨b2, o2 + i1 * 19, none⟩)), (14, .slice (some ⟨b1_2, o1_2, none⟩) l1_2.length k1_2), (111, .slice (some ⟨b1_2, o1_2, none⟩) l1_2.length k1_2), (112, .int .i64 l1_2.length), (113, .int .i64 i2), (16, .pointer (some ⟨b1_2, o1_2 + i2 * 7, none⟩)), (19, .slice a2_2 l2_2.length k2_2), (152, .slice a2_2 l2_2.length k2_2), (153, .int .i64 l2_2.length), (154, .int .i64 s.1)])
            (fun s w' => s.1 ≤ l2_2.length ∧ Apd w0 B x l (m11 ++ ((lsT (atT x2 2)).take s.1).flatMap (fun x => fixed x.n 4)) s.2 w') (fun s => l2_2.length - s.1) (0, r) ⟨rfl, rfl, rfl, rfl, rfl, rfl, rfl, rfl, rfl, rfl, rfl, rfl, rfl, rfl, rfl, rfl, rfl, rfl, trivial⟩ ⟨Nat.zero_le _, by rw [List.take_zero, List.flatMap_nil, List.append_nil]; exact hA⟩ ?_
          clear hA
          rintro ⟨i3, r⟩ w ⟨hi3, hA⟩
          dsimp only at hi3 hA
          ((conv=>whnf);repeat(first|(refine mvT ?_;conv=>whnf)|(refine mvF ?_;conv=>whnf)|(refine cT (by rfl) ?_;conv=>whnf)|(refine cF (by rfl) ?_;conv=>whnf)))
          refine cI (by rfl) (fun h9=>?_) (fun h9=>?_)
          · have hil : i3 < l2_2.length := by have := of_decide_eq_true h9; simp only at this; omega
            have hiL3 : i3 < (lsT (atT x2 2)).length := by omega
            obtain ⟨hft, hfl⟩ := flat_take (fun x => fixed x.n 4) (lsT (atT x2 2)) i3 hiL3
            obtain ⟨b2_2, o2_2, rfl, hF2_2, hb2_2, hce2_2⟩ := hcl2_2 i3 l2_2[i3] (by simp [hil])
            have hre2_2 := hrl2_2 i3 l2_2[i3] ((lsT (atT x2 2))[i3]) (by simp [hil]) (by simp [hiL3])
            have hlo2_2 := lsT_ok (hok2_.1 2 _ rfl) ((lsT (atT x2 2))[i3]) (List.getElem_mem hiL3)
            generalize hm12 : m11 ++ ((lsT (atT x2 2)).take i3).flatMap (fun x => fixed x.n 4) = m12 at hA
            have hl12 : m12.length = m11.length + (((lsT (atT x2 2)).take i3).flatMap (fun x => fixed x.n 4)).length := by rw [← hm12, List.length_append]
            obtain ⟨x3, hx3⟩ : ∃ y, y = (lsT (atT x2 2))[i3] := ⟨_, rfl⟩
            rw [← hx3] at hft hfl hre2_2 hlo2_2
            rw [hre2_2] at hce2_2
            ((conv=>whnf);repeat(first|(refine mvT ?_;conv=>whnf)|(refine mvF ?_;conv=>whnf)|(refine cT (by rfl) ?_;conv=>whnf)|(refine cF (by rfl) ?_;conv=>whnf)))
            refine ⟨b2_2, o2_2, rfl, ⟨by omega, by omega⟩, ?_⟩
            ((conv=>whnf);repeat(first|(refine mvT ?_;conv=>whnf)|(refine mvF ?_;conv=>whnf)|(refine cT (by rfl) ?_;conv=>whnf)|(refine cF (by rfl) ?_;conv=>whnf)))
            refine ⟨_, ld ((hce2_2.ext hA.ext (hFx _ hb2_2 hF2_2)).cell (j := 0) rfl) (by simp), ?_⟩
            ((conv=>whnf);repeat(first|(refine mvT ?_;conv=>whnf)|(refine mvF ?_;conv=>whnf)|(refine cT (by rfl) ?_;conv=>whnf)|(refine cF (by rfl) ?_;conv=>whnf)))
            refine Does.mono (AppendInt32_does hA.ob (Nat.le_trans hB hA.size) (by simp only [List.length_append]; omega) _) ?_;rintro r w h;((conv=>whnf);repeat(first|(refine mvT ?_;conv=>whnf)|(refine mvF ?_;conv=>whnf)|(refine cT (by rfl) ?_;conv=>whnf)|(refine cF (by rfl) ?_;conv=>whnf)))
            rw [fixed4_mod (wrap_i32m _)] at h
            replace hA := hA.tr h
            clear h
            generalize hm13 : m12 ++ (fixed (x3).n 4) = m13 at hA
            have hl13 : m13.length = m12.length + (fixed (x3).n 4).length := by rw [← hm13, List.length_append]
            have hfin : m12 ++ (fun x => fixed x.n 4) x3 = m13 := by simp only [← hm13, List.append_assoc, List.nil_append, List.append_nil]
            refine ⟨(i3 + 1, r), ⟨rfl, rfl, rfl, rfl, rfl, rfl, rfl, rfl, rfl, rfl, rfl, rfl, rfl, rfl, rfl, rfl, rfl, inc_eq (by rw [maxLen_eq] at hkm2_2; omega), trivial⟩, ⟨by simp only; omega, ?_⟩, by simp only; omega⟩
            rw [hft, ← List.append_assoc, hm12, hfin]
            exact hA
          have hil : i3 = l2_2.length := by have := of_decide_eq_false h9; simp only at this; omega
          ((conv=>whnf);repeat(first|(refine mvT ?_;conv=>whnf)|(refine mvF ?_;conv=>whnf)|(refine cT (by rfl) ?_;conv=>whnf)|(refine cF (by rfl) ?_;conv=>whnf)))
          rw [hil, hll2_2, List.take_length] at hA
          generalize hm12 : m11 ++ ((lsT (atT x2 2)).flatMap (fun x => fixed x.n 4)) = m12 at hA
          have hl12 : m12.length = m11.length + ((lsT (atT x2 2)).flatMap (fun x => fixed x.n 4)).length := by rw [← hm12, List.length_append]
          refine ⟨_, ⟨rfl, rfl, rfl, rfl, rfl, rfl, rfl, rfl, rfl, rfl, rfl, rfl, rfl, rfl, trivial⟩, ?_⟩
          rw [if_pos (by simp only [ge_iff_le, decide_eq_true_eq] at hcv; simp; omega)]
          rw [show m10 ++ (arA fx (lsT (atT x2 2)).length ++ (lsT (atT x2 2)).flatMap (fun x => fixed x.n 4)) = m12 by simp only [← hm12, ← hm11, List.append_assoc]]
          exact hA
        · ((conv=>whnf);repeat(first|(refine mvT ?_;conv=>whnf)|(refine mvF ?_;conv=>whnf)|(refine cT (by rfl) ?_;conv=>whnf)|(refine cF (by rfl) ?_;conv=>whnf)))
          refine ⟨_, ⟨rfl, rfl, rfl, rfl, rfl, rfl, rfl, rfl, rfl, rfl, rfl, rfl, rfl, rfl, trivial⟩, ?_⟩
          rw [if_neg (by simp only [ge_iff_le, decide_eq_false_iff_not] at hcv; simp; omega), List.append_nil]
          exact hA
      clear hA
      rintro r w hA
      ((conv=>whnf);repeat(first|(refine mvT ?_;conv=>whnf)|(refine mvF ?_;conv=>whnf)|(refine cT (by rfl) ?_;conv=>whnf)|(refine cF (by rfl) ?_;conv=>whnf)))
      generalize hm11 : m10 ++ ((if (decide (0 ≤ v) && (decide ((2 : Int) < 0) || decide (v ≤ 2))) = true then arA fx (lsT (atT x2 2)).length ++ (lsT (atT x2 2)).flatMap (fun x => fixed x.n 4) else [])) = m11 at hA
      have hl11 : m11.length = m10.length + ((if (decide (0 ≤ v) && (decide ((2 : Int) < 0) || decide (v ≤ 2))) = true then arA fx (lsT (atT x2 2)).length ++ (lsT (atT x2 2)).flatMap (fun x => fixed x.n 4) else [])).length := by rw [← hm11, List.length_append]
      refine VC.cutE (fun r => [(1, r), (0, .pointer (some ⟨p, 0, none⟩)), (5, .int .i16 v), (6, .bool fx), (9, .slice (some ⟨b2, o2, none⟩) l2.length k2), (64, .slice (some ⟨b2, o2, none⟩) l2.length k2), (65, .int .i64 l2.length), (66, .int .i64 i1), (11, .pointer (some ⟨b2, o2 + i1 * 19, none⟩)), (14, .slice (some ⟨b1_2, o1_2, none⟩) l1_2.length k1_2), (111, .slice (some ⟨b1_2, o1_2, none⟩) l1_2.length k1_2), (112, .int .i64 l1_2.length), (113, .int .i64 i2), (16, .pointer (some ⟨b1_2, o1_2 + i2 * 7, none⟩))]) (fun r w' => Apd w0 B x l (m11 ++ ((if (decide (3 ≤ v) && (decide ((-1 : Int) < 0) || decide (v ≤ (-1)))) = true then arA fx (lsT (atT x2 3)).length ++ (lsT (atT x2 3)).flatMap (bAlterPartitionRequestTopicPartitionNewEpochISR v fx) else []))) r w') ?_ ?_
      · refine cI (by rfl) (fun hcv=>?_) (fun hcv=>?_)
        · ((conv=>whnf);repeat(first|(refine mvT ?_;conv=>whnf)|(refine mvF ?_;conv=>whnf)|(refine cT (by rfl) ?_;conv=>whnf)|(refine cF (by rfl) ?_;conv=>whnf)))
          refine ⟨_, ld ((hce1_2.ext hA.ext (hFx _ hb1_2 hF1_2)).cell (j := 3) rfl) (by simp <;> omega), ?_⟩; ((conv=>whnf);repeat(first|(refine mvT ?_;conv=>whnf)|(refine mvF ?_;conv=>whnf)|(refine cT (by rfl) ?_;conv=>whnf)|(refine cF (by rfl) ?_;conv=>whnf)))
          have hvl11 : ((if (decide (3 ≤ v) && (decide ((-1 : Int) < 0) || decide (v ≤ (-1)))) = true then arA fx (lsT (atT x2 3)).length ++ (lsT (atT x2 3)).flatMap (bAlterPartitionRequestTopicPartitionNewEpochISR v fx) else [])).length = (arA fx (lsT (atT x2 3)).length ++ (lsT (atT x2 3)).flatMap (bAlterPartitionRequestTopicPartitionNewEpochISR v fx)).length := by rw [if_pos (by simp only [ge_iff_le, decide_eq_true_eq] at hcv; simp; omega)]
          simp only [List.length_append] at hvl11
          have hml2_3 := lsT_len (hok2_.1 3 _ rfl)
          (refine mvB ?_;((conv=>whnf);repeat(first|(refine mvT ?_;conv=>whnf)|(refine mvF ?_;conv=>whnf)|(refine cT (by rfl) ?_;conv=>whnf)|(refine cF (by rfl) ?_;conv=>whnf))))
          refine VC.cutE (fun r => [(1, r), (0, .pointer (some ⟨p, 0, none⟩)), (5, .int .i16 v), (6, .bool fx), (9, .slice (some ⟨b2, o2, none⟩) l2.length k2), (64, .slice (some ⟨b2, o2, none⟩) l2.length k2), (65, .int .i64 l2.length), (66, .int .i64 i1), (11, .pointer (some ⟨b2, o2 + i1 * 19, none⟩)), (14, .slice (some ⟨b1_2, o1_2, none⟩) l1_2.length k1_2), (111, .slice (some ⟨b1_2, o1_2, none⟩) l1_2.length k1_2), (112, .int .i64 l1_2.length), (113, .int .i64 i2), (16, .pointer (some ⟨b1_2, o1_2 + i2 * 7, none⟩)), (22, .slice a2_3 l2_3.length k2_3)]) (fun r w' => Apd w0 B x l (m11 ++ (arA fx (lsT (atT x2 3)).length)) r w') ?_ ?_
          · refine cI (by rfl) (fun hc=>?_) (fun hc=>?_)
            · ((conv=>whnf);repeat(first|(refine mvT ?_;conv=>whnf)|(refine mvF ?_;conv=>whnf)|(refine cT (by rfl) ?_;conv=>whnf)|(refine cF (by rfl) ?_;conv=>whnf)))
              refine Does.mono (AppendCompactArrayLen_does hA.ob (Nat.le_trans hB hA.size) (by simp only [List.length_append]; omega) l2_3.length (by omega)) ?_;rintro r w h;((conv=>whnf);repeat(first|(refine mvT ?_;conv=>whnf)|(refine mvF ?_;conv=>whnf)|(refine cT (by rfl) ?_;conv=>whnf)|(refine cF (by rfl) ?_;conv=>whnf)))
              rw [hll2_3] at h
              replace hA := hA.tr h
              clear h
              refine ⟨_, ⟨rfl, rfl, rfl, rfl, rfl, rfl, rfl, rfl, rfl, rfl, rfl, rfl, rfl, rfl, rfl, trivial⟩, ?_⟩
              rw [hc]
              exact hA
            · ((conv=>whnf);repeat(first|(refine mvT ?_;conv=>whnf)|(refine mvF ?_;conv=>whnf)|(refine cT (by rfl) ?_;conv=>whnf)|(refine cF (by rfl) ?_;conv=>whnf)))
              refine Does.mono (AppendArrayLen_does hA.ob (Nat.le_trans hB hA.size) (by simp only [List.length_append]; omega) l2_3.length) ?_;rintro r w h;((conv=>whnf);repeat(first|(refine mvT ?_;conv=>whnf)|(refine mvF ?_;conv=>whnf)|(refine cT (by rfl) ?_;conv=>whnf)|(refine cF (by rfl) ?_;conv=>whnf)))
              rw [hll2_3] at h
              replace hA := hA.tr h
              clear h
              refine ⟨_, ⟨rfl, rfl, rfl, rfl, rfl, rfl, rfl, rfl, rfl, rfl, rfl, rfl, rfl, rfl, rfl, trivial⟩, ?_⟩
              rw [hc]
              exact hA
          clear hA
          rintro r w hA
          ((conv=>whnf);repeat(first|(refine mvT ?_;conv=>whnf)|(refine mvF ?_;conv=>whnf)|(refine cT (by rfl) ?_;conv=>whnf)|(refine cF (by rfl) ?_;conv=>whnf)))
          generalize hm12 : m11 ++ (arA fx (lsT (atT x2 3)).length) = m12 at hA
          have hl12 : m12.length = m11.length + (arA fx (lsT (atT x2 3)).length).length := by rw [← hm12, List.length_append]
          refine VL.loop (fun s : Nat × Value => [(1, s.2), (0, .pointer (some ⟨p, 0, none⟩)), (5, .int .i16 v), (6, .bool fx), (9, .slice (some ⟨b2, o2, none⟩) l2.length k2), (64, .slice (some ⟨b2, o2, none⟩) l2.length k2), (65, .int .i64 l2.length), (66, .int .i64 i1), (11, .pointer (some ⟨b2, o2 + i1 * 19, none⟩)), (14, .slice (some ⟨b1_2, o1_2, none⟩) l1_2.length k1_2), (111, .slice (some ⟨b1_2, o1_2, none⟩) l1_2.length k1_2), (112, .int .i64 l1_2.length), (113, .int .i64 i2), (16, .pointer (some ⟨b1_2, o1_2 + i2 * 7, none⟩)), (22, .slice a2_3 l2_3.length k2_3), (180, .slice a2_3 l2_3.length k2_3), (181, .int .i64 l2_3.length), (182, .int .i64 s.1)])
            (fun s w' => s.1 ≤ l2_3.length ∧ Apd w0 B x l (m12 ++ ((lsT (atT x2 3)).take s.1).flatMap (bAlterPartitionRequestTopicPartitionNewEpochISR v fx)) s.2 w') (fun s => l2_3.length - s.1) (0, r) ⟨rfl, rfl, rfl, rfl, rfl, rfl, rfl, rfl, rfl, rfl, rfl, rfl, rfl, rfl, rfl, rfl, rfl, rfl, trivial⟩ ⟨Nat.zero_le _, by rw [List.take_zero, List.flatMap_nil, List.append_nil]; exact hA⟩ ?_
          clear hA
          rintro ⟨i4, r⟩ w ⟨hi4, hA⟩
          dsimp only at hi4 hA
          ((conv=>whnf);repeat(first|(refine mvT ?_;conv=>whnf)|(refine mvF ?_;conv=>whnf)|(refine cT (by rfl) ?_;conv=>whnf)|(refine cF (by rfl) ?_;conv=>whnf)))
          refine cI (by rfl) (fun h9=>?_) (fun h9=>?_)
          · have hil : i4 < l2_3.length := by have := of_decide_eq_true h9; simp only at this; omega
            have hiL4 : i4 < (lsT (atT x2 3)).length := by omega
            obtain ⟨hft, hfl⟩ := flat_take (bAlterPartitionRequestTopicPartitionNewEpochISR v fx) (lsT (atT x2 3)) i4 hiL4
            obtain ⟨b2_3, o2_3, rfl, hF2_3, hb2_3, hce2_3⟩ := hcl2_3 i4 l2_3[i4] (by simp [hil])
            have hre2_3 := hrl2_3 i4 l2_3[i4] ((lsT (atT x2 3))[i4]) (by simp [hil]) (by simp [hiL4])
            have hlo2_3 := lsT_ok (hok2_.1 3 _ rfl) ((lsT (atT x2 3))[i4]) (List.getElem_mem hiL4)
            generalize hm13 : m12 ++ ((lsT (atT x2 3)).take i4).flatMap (bAlterPartitionRequestTopicPartitionNewEpochISR v fx) = m13 at hA
            have hl13 : m13.length = m12.length + (((lsT (atT x2 3)).take i4).flatMap (bAlterPartitionRequestTopicPartitionNewEpochISR v fx)).length := by rw [← hm13, List.length_append]
            obtain ⟨x4, hx4⟩ : ∃ y, y = (lsT (atT x2 3))[i4] := ⟨_, rfl⟩
            rw [← hx4] at hft hfl hre2_3 hlo2_3
            obtain ⟨m4_, hcells, hm4_⟩ := hre2_3
            rw [hcells] at hce2_3
            have hok4_ := hlo2_3.2.2 rfl
            have hgl : (bAlterPartitionRequestTopicPartitionNewEpochISR v fx x4).length = (bAlterPartitionRequestTopicPartitionNewEpochISR v fx x4).length := rfl
            conv at hgl => rhs; unfold bAlterPartitionRequestTopicPartitionNewEpochISR
            simp only [List.length_append, List.length_nil] at hgl
            ((conv=>whnf);repeat(first|(refine mvT ?_;conv=>whnf)|(refine mvF ?_;conv=>whnf)|(refine cT (by rfl) ?_;conv=>whnf)|(refine cF (by rfl) ?_;conv=>whnf)))
            refine ⟨b2_3, o2_3, rfl, ⟨by omega, by omega⟩, ?_⟩
            ((conv=>whnf);repeat(first|(refine mvT ?_;conv=>whnf)|(refine mvF ?_;conv=>whnf)|(refine cT (by rfl) ?_;conv=>whnf)|(refine cF (by rfl) ?_;conv=>whnf)))
            refine ⟨_, ld ((hce2_3.ext hA.ext (hFx _ hb2_3 hF2_3)).cell (j := 0) rfl) (by simp <;> omega), ?_⟩; ((conv=>whnf);repeat(first|(refine mvT ?_;conv=>whnf)|(refine mvF ?_;conv=>whnf)|(refine cT (by rfl) ?_;conv=>whnf)|(refine cF (by rfl) ?_;conv=>whnf)))
            refine Does.mono (AppendInt32_does hA.ob (Nat.le_trans hB hA.size) (by simp only [List.length_append]; omega) _) ?_;rintro r w h;((conv=>whnf);repeat(first|(refine mvT ?_;conv=>whnf)|(refine mvF ?_;conv=>whnf)|(refine cT (by rfl) ?_;conv=>whnf)|(refine cF (by rfl) ?_;conv=>whnf)))
            rw [fixed4_mod (wrap_i32m _)] at h
            replace hA := hA.tr h
            clear h
            generalize hm14 : m13 ++ (fixed (atT x4 0).n 4) = m14 at hA
            have hl14 : m14.length = m13.length + (fixed (atT x4 0).n 4).length := by rw [← hm14, List.length_append]
            refine ⟨_, ld ((hce2_3.ext hA.ext (hFx _ hb2_3 hF2_3)).cell (j := 1) rfl) (by simp <;> omega), ?_⟩; ((conv=>whnf);repeat(first|(refine mvT ?_;conv=>whnf)|(refine mvF ?_;conv=>whnf)|(refine cT (by rfl) ?_;conv=>whnf)|(refine cF (by rfl) ?_;conv=>whnf)))
            refine Does.mono (AppendInt64_does hA.ob (Nat.le_trans hB hA.size) (by simp only [List.length_append]; omega) _) ?_;rintro r w h;((conv=>whnf);repeat(first|(refine mvT ?_;conv=>whnf)|(refine mvF ?_;conv=>whnf)|(refine cT (by rfl) ?_;conv=>whnf)|(refine cF (by rfl) ?_;conv=>whnf)))
            replace hA := hA.tr h
            clear h
            generalize hm15 : m14 ++ (fixed (atT x4 1).n 8) = m15 at hA
            have hl15 : m15.length = m14.length + (fixed (atT x4 1).n 8).length := by rw [← hm15, List.length_append]
            (refine mvB ?_;((conv=>whnf);repeat(first|(refine mvT ?_;conv=>whnf)|(refine mvF ?_;conv=>whnf)|(refine cT (by rfl) ?_;conv=>whnf)|(refine cF (by rfl) ?_;conv=>whnf))))
            refine VC.cutB (fun r => [(1, r), (0, .pointer (some ⟨p, 0, none⟩)), (5, .int .i16 v), (6, .bool fx), (9, .slice (some ⟨b2, o2, none⟩) l2.length k2), (64, .slice (some ⟨b2, o2, none⟩) l2.length k2), (65, .int .i64 l2.length), (66, .int .i64 i1), (11, .pointer (some ⟨b2, o2 + i1 * 19, none⟩)), (14, .slice (some ⟨b1_2, o1_2, none⟩) l1_2.length k1_2), (111, .slice (some ⟨b1_2, o1_2, none⟩) l1_2.length k1_2), (112, .int .i64 l1_2.length), (113, .int .i64 i2), (16, .pointer (some ⟨b1_2, o1_2 + i2 * 7, none⟩)), (22, .slice (some ⟨b2_3, o2_3, none⟩) l2_3.length k2_3), (180, .slice (some ⟨b2_3, o2_3, none⟩) l2_3.length k2_3), (181, .int .i64 l2_3.length), (182, .int .i64 i4), (24, .pointer (some ⟨b2_3, o2_3 + i4 * 3, none⟩))]) (fun r w' => Apd w0 B x l (m15 ++ (tgsB fx (x4).u)) r w') ?_ ?_
            · refine cI (by rfl) (fun hc=>?_) (fun hc=>?_)
              · ((conv=>whnf);repeat(first|(refine mvT ?_;conv=>whnf)|(refine mvF ?_;conv=>whnf)|(refine cT (by rfl) ?_;conv=>whnf)|(refine cF (by rfl) ?_;conv=>whnf)))
                have hul := hok4_.2.len
                refine Does.mono (Tags_Len_does (ld ((hce2_3.ext hA.ext (hFx _ hb2_3 hF2_3)).cell (j := 2) rfl) (by simp <;> omega)) (hm4_.ext hA.ext hFx)) ?_;rintro r w ⟨rfl, rfl⟩;((conv=>whnf);repeat(first|(refine mvT ?_;conv=>whnf)|(refine mvF ?_;conv=>whnf)|(refine cT (by rfl) ?_;conv=>whnf)|(refine cF (by rfl) ?_;conv=>whnf)))
                rw [u32_add0 (by omega)]
                refine Does.mono (AppendUvarint_does hA.ob (Nat.le_trans hB hA.size) (x4).u.length (by omega) (by simp only [List.length_append]; omega)) ?_;rintro r w h;((conv=>whnf);repeat(first|(refine mvT ?_;conv=>whnf)|(refine mvF ?_;conv=>whnf)|(refine cT (by rfl) ?_;conv=>whnf)|(refine cF (by rfl) ?_;conv=>whnf)))
                have hul2 := uvar10 (n := (x4).u.length) (by omega)
                replace hA := hA.tr h
                clear h
                refine Does.mono (AppendEach_does (ld ((hce2_3.ext hA.ext (hFx _ hb2_3 hF2_3)).cell (j := 2) rfl) (by simp <;> omega)) (hm4_.ext hA.ext hFx) hok4_.2 hA.ob (Nat.le_trans hB hA.size) (hA.ne (hFR _ hF2_3).2 (hFR _ hF2_3).1) (fun j _ hf => hA.ne (hFR j hf).2 (hFR j hf).1) (by simp only [List.length_append]; omega)) ?_;rintro r w h;((conv=>whnf);repeat(first|(refine mvT ?_;conv=>whnf)|(refine mvF ?_;conv=>whnf)|(refine cT (by rfl) ?_;conv=>whnf)|(refine cF (by rfl) ?_;conv=>whnf)))
                replace hA := hA.tr h
                clear h
                refine ⟨_, ⟨rfl, rfl, rfl, rfl, rfl, rfl, rfl, rfl, rfl, rfl, rfl, rfl, rfl, rfl, rfl, rfl, rfl, rfl, rfl, trivial⟩, ?_⟩
                rw [tgsB, if_pos hc, ← List.append_assoc]
                exact hA
              · ((conv=>whnf);repeat(first|(refine mvT ?_;conv=>whnf)|(refine mvF ?_;conv=>whnf)|(refine cT (by rfl) ?_;conv=>whnf)|(refine cF (by rfl) ?_;conv=>whnf)))
                refine ⟨_, ⟨rfl, rfl, rfl, rfl, rfl, rfl, rfl, rfl, rfl, rfl, rfl, rfl, rfl, rfl, rfl, rfl, rfl, rfl, rfl, trivial⟩, ?_⟩
                rw [tgsB, if_neg (by rw [hc]; decide), List.append_nil]
                exact hA
            clear hA
            rintro r w hA
            ((conv=>whnf);repeat(first|(refine mvT ?_;conv=>whnf)|(refine mvF ?_;conv=>whnf)|(refine cT (by rfl) ?_;conv=>whnf)|(refine cF (by rfl) ?_;conv=>whnf)))
            generalize hm16 : m15 ++ (tgsB fx (x4).u) = m16 at hA
            have hl16 : m16.length = m15.length + (tgsB fx (x4).u).length := by rw [← hm16, List.length_append]
            have hfin : m13 ++ (bAlterPartitionRequestTopicPartitionNewEpochISR v fx) x4 = m16 := by unfold bAlterPartitionRequestTopicPartitionNewEpochISR; simp only [← hm16, ← hm15, ← hm14, List.append_assoc, List.nil_append, List.append_nil]
            refine ⟨(i4 + 1, r), ⟨rfl, rfl, rfl, rfl, rfl, rfl, rfl, rfl, rfl, rfl, rfl, rfl, rfl, rfl, rfl, rfl, rfl, inc_eq (by rw [maxLen_eq] at hkm2_3; omega), trivial⟩, ⟨by simp only; omega, ?_⟩, by simp only; omega⟩
            rw [hft, ← List.append_assoc, hm13, hfin]
            exact hA
          have hil : i4 = l2_3.length := by have := of_decide_eq_false h9; simp only at this; omega
          ((conv=>whnf);repeat(first|(refine mvT ?_;conv=>whnf)|(refine mvF ?_;conv=>whnf)|(refine cT (by rfl) ?_;conv=>whnf)|(refine cF (by rfl) ?_;conv=>whnf)))
          rw [hil, hll2_3, List.take_length] at hA
          generalize hm13 : m12 ++ ((lsT (atT x2 3)).flatMap (bAlterPartitionRequestTopicPartitionNewEpochISR v fx)) = m13 at hA
          have hl13 : m13.length = m12.length + ((lsT (atT x2 3)).flatMap (bAlterPartitionRequestTopicPartitionNewEpochISR v fx)).length := by rw [← hm13, List.length_append]
          refine ⟨_, ⟨rfl, rfl, rfl, rfl, rfl, rfl, rfl, rfl, rfl, rfl, rfl, rfl, rfl, rfl, trivial⟩, ?_⟩
          rw [if_pos (by simp only [ge_iff_le, decide_eq_true_eq] at hcv; simp; omega)]
          rw [show m11 ++ (arA fx (lsT (atT x2 3)).length ++ (lsT (atT x2 3)).flatMap (bAlterPartitionRequestTopicPartitionNewEpochISR v fx)) = m13 by simp only [← hm13, ← hm12, List.append_assoc]]
          exact hA
        · ((conv=>whnf);repeat(first|(refine mvT ?_;conv=>whnf)|(refine mvF ?_;conv=>whnf)|(refine cT (by rfl) ?_;conv=>whnf)|(refine cF (by rfl) ?_;conv=>whnf)))
          refine ⟨_, ⟨rfl, rfl, rfl, rfl, rfl, rfl, rfl, rfl, rfl, rfl, rfl, rfl, rfl, rfl, trivial⟩, ?_⟩
          rw [if_neg (by simp only [ge_iff_le, decide_eq_false_iff_not] at hcv; simp; omega), List.append_nil]
          exact hA
      clear hA
      rintro r w hA
      ((conv=>whnf);repeat(first|(refine mvT ?_;conv=>whnf)|(refine mvF ?_;conv=>whnf)|(refine cT (by rfl) ?_;conv=>whnf)|(refine cF (by rfl) ?_;conv=>whnf)))
      generalize hm12 : m11 ++ ((if (decide (3 ≤ v) && (decide ((-1 : Int) < 0) || decide (v ≤ (-1)))) = true then arA fx (lsT (atT x2 3)).length ++ (lsT (atT x2 3)).flatMap (bAlterPartitionRequestTopicPartitionNewEpochISR v fx) else [])) = m12 at hA
      have hl12 : m12.length = m11.length + ((if (decide (3 ≤ v) && (decide ((-1 : Int) < 0) || decide (v ≤ (-1)))) = true then arA fx (lsT (atT x2 3)).length ++ (lsT (atT x2 3)).flatMap (bAlterPartitionRequestTopicPartitionNewEpochISR v fx) else [])).length := by rw [← hm12, List.length_append]
      refine VC.cutE (fun r => [(1, r), (0, .pointer (some ⟨p, 0, none⟩)), (5, .int .i16 v), (6, .bool fx), (9, .slice (some ⟨b2, o2, none⟩) l2.length k2), (64, .slice (some ⟨b2, o2, none⟩) l2.length k2), (65, .int .i64 l2.length), (66, .int .i64 i1), (11, .pointer (some ⟨b2, o2 + i1 * 19, none⟩)), (14, .slice (some ⟨b1_2, o1_2, none⟩) l1_2.length k1_2), (111, .slice (some ⟨b1_2, o1_2, none⟩) l1_2.length k1_2), (112, .int .i64 l1_2.length), (113, .int .i64 i2), (16, .pointer (some ⟨b1_2, o1_2 + i2 * 7, none⟩))]) (fun r w' => Apd w0 B x l (m12 ++ ((if (decide (1 ≤ v) && (decide ((-1 : Int) < 0) || decide (v ≤ (-1)))) = true then fixed (atT x2 4).n 1 else []))) r w') ?_ ?_
      · refine cI (by rfl) (fun hcv=>?_) (fun hcv=>?_)
        · ((conv=>whnf);repeat(first|(refine mvT ?_;conv=>whnf)|(refine mvF ?_;conv=>whnf)|(refine cT (by rfl) ?_;conv=>whnf)|(refine cF (by rfl) ?_;conv=>whnf)))
          refine ⟨_, ld ((hce1_2.ext hA.ext (hFx _ hb1_2 hF1_2)).cell (j := 4) rfl) (by simp <;> omega), ?_⟩; ((conv=>whnf);repeat(first|(refine mvT ?_;conv=>whnf)|(refine mvF ?_;conv=>whnf)|(refine cT (by rfl) ?_;conv=>whnf)|(refine cF (by rfl) ?_;conv=>whnf)))
          refine Does.mono (AppendInt8_does hA.ob (Nat.le_trans hB hA.size) (by simp only [List.length_append]; omega) _) ?_;rintro r w h;((conv=>whnf);repeat(first|(refine mvT ?_;conv=>whnf)|(refine mvF ?_;conv=>whnf)|(refine cT (by rfl) ?_;conv=>whnf)|(refine cF (by rfl) ?_;conv=>whnf)))
          rw [fixed1_mod (wrap_i8m _)] at h
          replace hA := hA.tr h
          clear h
          generalize hm13 : m12 ++ (fixed (atT x2 4).n 1) = m13 at hA
          have hl13 : m13.length = m12.length + (fixed (atT x2 4).n 1).length := by rw [← hm13, List.length_append]
          refine ⟨_, ⟨rfl, rfl, rfl, rfl, rfl, rfl, rfl, rfl, rfl, rfl, rfl, rfl, rfl, rfl, trivial⟩, ?_⟩
          rw [if_pos (by simp only [ge_iff_le, decide_eq_true_eq] at hcv; simp; omega)]
          rw [hm13]
          exact hA
        · ((conv=>whnf);repeat(first|(refine mvT ?_;conv=>whnf)|(refine mvF ?_;conv=>whnf)|(refine cT (by rfl) ?_;conv=>whnf)|(refine cF (by rfl) ?_;conv=>whnf)))
          refine ⟨_, ⟨rfl, rfl, rfl, rfl, rfl, rfl, rfl, rfl, rfl, rfl, rfl, rfl, rfl, rfl, trivial⟩, ?_⟩
          rw [if_neg (by simp only [ge_iff_le, decide_eq_false_iff_not] at hcv; simp; omega), List.append_nil]
          exact hA
      clear hA
      rintro r w hA
      ((conv=>whnf);repeat(first|(refine mvT ?_;conv=>whnf)|(refine mvF ?_;conv=>whnf)|(refine cT (by rfl) ?_;conv=>whnf)|(refine cF (by rfl) ?_;conv=>whnf)))
      generalize hm13 : m12 ++ ((if (decide (1 ≤ v) && (decide ((-1 : Int) < 0) || decide (v ≤ (-1)))) = true then fixed (atT x2 4).n 1 else [])) = m13 at hA
      have hl13 : m13.length = m12.length + ((if (decide (1 ≤ v) && (decide ((-1 : Int) < 0) || decide (v ≤ (-1)))) = true then fixed (atT x2 4).n 1 else [])).length := by rw [← hm13, List.length_append]
      refine ⟨_, ld ((hce1_2.ext hA.ext (hFx _ hb1_2 hF1_2)).cell (j := 5) rfl) (by simp <;> omega), ?_⟩; ((conv=>whnf);repeat(first|(refine mvT ?_;conv=>whnf)|(refine mvF ?_;conv=>whnf)|(refine cT (by rfl) ?_;conv=>whnf)|(refine cF (by rfl) ?_;conv=>whnf)))
      refine Does.mono (AppendInt32_does hA.ob (Nat.le_trans hB hA.size) (by simp only [List.length_append]; omega) _) ?_;rintro r w h;((conv=>whnf);repeat(first|(refine mvT ?_;conv=>whnf)|(refine mvF ?_;conv=>whnf)|(refine cT (by rfl) ?_;conv=>whnf)|(refine cF (by rfl) ?_;conv=>whnf)))
      rw [fixed4_mod (wrap_i32m _)] at h
      replace hA := hA.tr h
      clear h
      generalize hm14 : m13 ++ (fixed (atT x2 5).n 4) = m14 at hA
      have hl14 : m14.length = m13.length + (fixed (atT x2 5).n 4).length := by rw [← hm14, List.length_append]
      (refine mvB ?_;((conv=>whnf);repeat(first|(refine mvT ?_;conv=>whnf)|(refine mvF ?_;conv=>whnf)|(refine cT (by rfl) ?_;conv=>whnf)|(refine cF (by rfl) ?_;conv=>whnf))))
      refine VC.cutB (fun r => [(1, r), (0, .pointer (some ⟨p, 0, none⟩)), (5, .int .i16 v), (6, .bool fx), (9, .slice (some ⟨b2, o2, none⟩) l2.length k2), (64, .slice (some ⟨b2, o2, none⟩) l2.length k2), (65, .int .i64 l2.length), (66, .int .i64 i1), (11, .pointer (some ⟨b2, o2 + i1 * 19, none⟩)), (14, .slice (some ⟨b1_2, o1_2, none⟩) l1_2.length k1_2), (111, .slice (some ⟨b1_2, o1_2, none⟩) l1_2.length k1_2), (112, .int .i64 l1_2.length), (113, .int .i64 i2), (16, .pointer (some ⟨b1_2, o1_2 + i2 * 7, none⟩))]) (fun r w' => Apd w0 B x l (m14 ++ (tgsB fx (x2).u)) r w') ?_ ?_
      · refine cI (by rfl) (fun hc=>?_) (fun hc=>?_)
        · ((conv=>whnf);repeat(first|(refine mvT ?_;conv=>whnf)|(refine mvF ?_;conv=>whnf)|(refine cT (by rfl) ?_;conv=>whnf)|(refine cF (by rfl) ?_;conv=>whnf)))
          have hul := hok2_.2.len
          refine Does.mono (Tags_Len_does (ld ((hce1_2.ext hA.ext (hFx _ hb1_2 hF1_2)).cell (j := 6) rfl) (by simp <;> omega)) (hm2_.ext hA.ext hFx)) ?_;rintro r w ⟨rfl, rfl⟩;((conv=>whnf);repeat(first|(refine mvT ?_;conv=>whnf)|(refine mvF ?_;conv=>whnf)|(refine cT (by rfl) ?_;conv=>whnf)|(refine cF (by rfl) ?_;conv=>whnf)))
          rw [u32_add0 (by omega)]
          refine Does.mono (AppendUvarint_does hA.ob (Nat.le_trans hB hA.size) (x2).u.length (by omega) (by simp only [List.length_append]; omega)) ?_;rintro r w h;((conv=>whnf);repeat(first|(refine mvT ?_;conv=>whnf)|(refine mvF ?_;conv=>whnf)|(refine cT (by rfl) ?_;conv=>whnf)|(refine cF (by rfl) ?_;conv=>whnf)))
          have hul2 := uvar10 (n := (x2).u.length) (by omega)
          replace hA := hA.tr h
          clear h
          refine Does.mono (AppendEach_does (ld ((hce1_2.ext hA.ext (hFx _ hb1_2 hF1_2)).cell (j := 6) rfl) (by simp <;> omega)) (hm2_.ext hA.ext hFx) hok2_.2 hA.ob (Nat.le_trans hB hA.size) (hA.ne (hFR _ hF1_2).2 (hFR _ hF1_2).1) (fun j _ hf => hA.ne (hFR j hf).2 (hFR j hf).1) (by simp only [List.length_append]; omega)) ?_;rintro r w h;((conv=>whnf);repeat(first|(refine mvT ?_;conv=>whnf)|(refine mvF ?_;conv=>whnf)|(refine cT (by rfl) ?_;conv=>whnf)|(refine cF (by rfl) ?_;conv=>whnf)))
          replace hA := hA.tr h
          clear h
          refine ⟨_, ⟨rfl, rfl, rfl, rfl, rfl, rfl, rfl, rfl, rfl, rfl, rfl, rfl, rfl, rfl, trivial⟩, ?_⟩
          rw [tgsB, if_pos hc, ← List.append_assoc]
          exact hA
        · ((conv=>whnf);repeat(first|(refine mvT ?_;conv=>whnf)|(refine mvF ?_;conv=>whnf)|(refine cT (by rfl) ?_;conv=>whnf)|(refine cF (by rfl) ?_;conv=>whnf)))
          refine ⟨_, ⟨rfl, rfl, rfl, rfl, rfl, rfl, rfl, rfl, rfl, rfl, rfl, rfl, rfl, rfl, trivial⟩, ?_⟩
          rw [tgsB, if_neg (by rw [hc]; decide), List.append_nil]
          exact hA
      clear hA
      rintro r w hA
      ((conv=>whnf);repeat(first|(refine mvT ?_;conv=>whnf)|(refine mvF ?_;conv=>whnf)|(refine cT (by rfl) ?_;conv=>whnf)|(refine cF (by rfl) ?_;conv=>whnf)))
      generalize hm15 : m14 ++ (tgsB fx (x2).u) = m15 at hA
      have hl15 : m15.length = m14.length + (tgsB fx (x2).u).length := by rw [← hm15, List.length_append]
      have hfin : m8 ++ (bAlterPartitionRequestTopicPartition v fx) x2 = m15 := by unfold bAlterPartitionRequestTopicPartition; simp only [← hm15, ← hm14, ← hm13, ← hm12, ← hm11, ← hm10, ← hm9, List.append_assoc, List.nil_append, List.append_nil]
      refine ⟨(i2 + 1, r), ⟨rfl, rfl, rfl, rfl, rfl, rfl, rfl, rfl, rfl, rfl, rfl, rfl, inc_eq (by rw [maxLen_eq] at hkm1_2; omega), trivial⟩, ⟨by simp only; omega, ?_⟩, by simp only; omega⟩
      rw [hft, ← List.append_assoc, hm8, hfin]
      exact hA
    have hil : i2 = l1_2.length := by have := of_decide_eq_false h9; simp only at this; omega
    ((conv=>whnf);repeat(first|(refine mvT ?_;conv=>whnf)|(refine mvF ?_;conv=>whnf)|(refine cT (by rfl) ?_;conv=>whnf)|(refine cF (by rfl) ?_;conv=>whnf)))
    rw [hil, hll1_2, List.take_length] at hA
    generalize hm8 : m7 ++ ((lsT (atT x1 2)).flatMap (bAlterPartitionRequestTopicPartition v fx)) = m8 at hA
    have hl8 : m8.length = m7.length + ((lsT (atT x1 2)).flatMap (bAlterPartitionRequestTopicPartition v fx)).length := by rw [← hm8, List.length_append]
    (refine mvB ?_;((conv=>whnf);repeat(first|(refine mvT ?_;conv=>whnf)|(refine mvF ?_;conv=>whnf)|(refine cT (by rfl) ?_;conv=>whnf)|(refine cF (by rfl) ?_;conv=>whnf))))
    refine VC.cutB (fun r => [(1, r), (0, .pointer (some ⟨p, 0, none⟩)), (5, .int .i16 v), (6, .bool fx), (9, .slice (some ⟨b2, o2, none⟩) l2.length k2), (64, .slice (some ⟨b2, o2, none⟩) l2.length k2), (65, .int .i64 l2.length), (66, .int .i64 i1), (11, .pointer (some ⟨b2, o2 + i1 * 19, none⟩))]) (fun r w' => Apd w0 B x l (m8 ++ (tgsB fx (x1).u)) r w') ?_ ?_
    · refine cI (by rfl) (fun hc=>?_) (fun hc=>?_)
      · ((conv=>whnf);repeat(first|(refine mvT ?_;conv=>whnf)|(refine mvF ?_;conv=>whnf)|(refine cT (by rfl) ?_;conv=>whnf)|(refine cF (by rfl) ?_;conv=>whnf)))
        have hul := hok1_.2.len
        refine Does.mono (Tags_Len_does (ld ((hce2.ext hA.ext (hFx _ hb2 hF2)).cell (j := 18) rfl) (by simp <;> omega)) (hm1_.ext hA.ext hFx)) ?_;rintro r w ⟨rfl, rfl⟩;((conv=>whnf);repeat(first|(refine mvT ?_;conv=>whnf)|(refine mvF ?_;conv=>whnf)|(refine cT (by rfl) ?_;conv=>whnf)|(refine cF (by rfl) ?_;conv=>whnf)))
        rw [u32_add0 (by omega)]
        refine Does.mono (AppendUvarint_does hA.ob (Nat.le_trans hB hA.size) (x1).u.length (by omega) (by simp only [List.length_append]; omega)) ?_;rintro r w h;((conv=>whnf);repeat(first|(refine mvT ?_;conv=>whnf)|(refine mvF ?_;conv=>whnf)|(refine cT (by rfl) ?_;conv=>whnf)|(refine cF (by rfl) ?_;conv=>whnf)))
        have hul2 := uvar10 (n := (x1).u.length) (by omega)
        replace hA := hA.tr h
        clear h
        refine Does.mono (AppendEach_does (ld ((hce2.ext hA.ext (hFx _ hb2 hF2)).cell (j := 18) rfl) (by simp <;> omega)) (hm1_.ext hA.ext hFx) hok1_.2 hA.ob (Nat.le_trans hB hA.size) (hA.ne (hFR _ hF2).2 (hFR _ hF2).1) (fun j _ hf => hA.ne (hFR j hf).2 (hFR j hf).1) (by simp only [List.length_append]; omega)) ?_;rintro r w h;((conv=>whnf);repeat(first|(refine mvT ?_;conv=>whnf)|(refine mvF ?_;conv=>whnf)|(refine cT (by rfl) ?_;conv=>whnf)|(refine cF (by rfl) ?_;conv=>whnf)))
        replace hA := hA.tr h
        clear h
        refine ⟨_, ⟨rfl, rfl, rfl, rfl, rfl, rfl, rfl, rfl, rfl, trivial⟩, ?_⟩
        rw [tgsB, if_pos hc, ← List.append_assoc]
        exact hA
      · ((conv=>whnf);repeat(first|(refine mvT ?_;conv=>whnf)|(refine mvF ?_;conv=>whnf)|(refine cT (by rfl) ?_;conv=>whnf)|(refine cF (by rfl) ?_;conv=>whnf)))
        refine ⟨_, ⟨rfl, rfl, rfl, rfl, rfl, rfl, rfl, rfl, rfl, trivial⟩, ?_⟩
        rw [tgsB, if_neg (by rw [hc]; decide), List.append_nil]
        exact hA
    clear hA
    rintro r w hA
    ((conv=>whnf);repeat(first|(refine mvT ?_;conv=>whnf)|(refine mvF ?_;conv=>whnf)|(refine cT (by rfl) ?_;conv=>whnf)|(refine cF (by rfl) ?_;conv=>whnf)))
    generalize hm9 : m8 ++ (tgsB fx (x1).u) = m9 at hA
    have hl9 : m9.length = m8.length + (tgsB fx (x1).u).length := by rw [← hm9, List.length_append]
    have hfin : m4 ++ (bAlterPartitionRequestTopic v fx) x1 = m9 := by unfold bAlterPartitionRequestTopic; simp only [← hm9, ← hm8, ← hm7, ← hm6, ← hm5, List.append_assoc, List.nil_append, List.append_nil]
    refine ⟨(i1 + 1, r), ⟨rfl, rfl, rfl, rfl, rfl, rfl, rfl, inc_eq (by rw [maxLen_eq] at hkm2; omega), trivial⟩, ⟨by simp only; omega, ?_⟩, by simp only; omega⟩
    rw [hft, ← List.append_assoc, hm4, hfin]
    exact hA
  have hil : i1 = l2.length := by have := of_decide_eq_false h9; simp only at this; omega
  ((conv=>whnf);repeat(first|(refine mvT ?_;conv=>whnf)|(refine mvF ?_;conv=>whnf)|(refine cT (by rfl) ?_;conv=>whnf)|(refine cF (by rfl) ?_;conv=>whnf)))
  rw [hil, hll2, List.take_length] at hA
  generalize hm4 : m3 ++ ((lsT (atT t 2)).flatMap (bAlterPartitionRequestTopic v fx)) = m4 at hA
  have hl4 : m4.length = m3.length + ((lsT (atT t 2)).flatMap (bAlterPartitionRequestTopic v fx)).length := by rw [← hm4, List.length_append]
  (refine mvB ?_;((conv=>whnf);repeat(first|(refine mvT ?_;conv=>whnf)|(refine mvF ?_;conv=>whnf)|(refine cT (by rfl) ?_;conv=>whnf)|(refine cF (by rfl) ?_;conv=>whnf))))
  refine VC.cutE (fun r => [(1, r), (0, .pointer (some ⟨p, 0, none⟩)), (5, .int .i16 v), (6, .bool fx)]) (fun r w' => Apd w0 B x l (m4 ++ (tgsB fx (t).u)) r w') ?_ ?_
  · refine cI (by rfl) (fun hc=>?_) (fun hc=>?_)
    · ((conv=>whnf);repeat(first|(refine mvT ?_;conv=>whnf)|(refine mvF ?_;conv=>whnf)|(refine cT (by rfl) ?_;conv=>whnf)|(refine cF (by rfl) ?_;conv=>whnf)))
      have hul := hok.2.len
      refine Does.mono (Tags_Len_does ((hp.ext hA.ext hxp).cell rfl) (hm.ext hA.ext hFx)) ?_;rintro r w ⟨rfl, rfl⟩;((conv=>whnf);repeat(first|(refine mvT ?_;conv=>whnf)|(refine mvF ?_;conv=>whnf)|(refine cT (by rfl) ?_;conv=>whnf)|(refine cF (by rfl) ?_;conv=>whnf)))
      rw [u32_add0 (by omega)]
      refine Does.mono (AppendUvarint_does hA.ob (Nat.le_trans hB hA.size) (t).u.length (by omega) (by simp only [List.length_append]; omega)) ?_;rintro r w h;((conv=>whnf);repeat(first|(refine mvT ?_;conv=>whnf)|(refine mvF ?_;conv=>whnf)|(refine cT (by rfl) ?_;conv=>whnf)|(refine cF (by rfl) ?_;conv=>whnf)))
      have hul2 := uvar10 (n := (t).u.length) (by omega)
      replace hA := hA.tr h
      clear h
      refine Does.mono (AppendEach_does ((hp.ext hA.ext hxp).cell rfl) (hm.ext hA.ext hFx) hok.2 hA.ob (Nat.le_trans hB hA.size) (hA.ne hxp hpl) (fun j _ hf => hA.ne (hFR j hf).2 (hFR j hf).1) (by simp only [List.length_append]; omega)) ?_;rintro r w h;((conv=>whnf);repeat(first|(refine mvT ?_;conv=>whnf)|(refine mvF ?_;conv=>whnf)|(refine cT (by rfl) ?_;conv=>whnf)|(refine cF (by rfl) ?_;conv=>whnf)))
      replace hA := hA.tr h
      clear h
      refine ⟨_, ⟨rfl, rfl, rfl, rfl, trivial⟩, ?_⟩
      rw [tgsB, if_pos hc, ← List.append_assoc]
      exact hA
    · ((conv=>whnf);repeat(first|(refine mvT ?_;conv=>whnf)|(refine mvF ?_;conv=>whnf)|(refine cT (by rfl) ?_;conv=>whnf)|(refine cF (by rfl) ?_;conv=>whnf)))
      refine ⟨_, ⟨rfl, rfl, rfl, rfl, trivial⟩, ?_⟩
      rw [tgsB, if_neg (by rw [hc]; decide), List.append_nil]
      exact hA
  clear hA
  rintro r w hA
  ((conv=>whnf);repeat(first|(refine mvT ?_;conv=>whnf)|(refine mvF ?_;conv=>whnf)|(refine cT (by rfl) ?_;conv=>whnf)|(refine cF (by rfl) ?_;conv=>whnf)))
  generalize hm5 : m4 ++ (tgsB fx (t).u) = m5 at hA
  have hl5 : m5.length = m4.length + (tgsB fx (t).u).length := by rw [← hm5, List.length_append]
  show Apd w0 B x l _ r w
  rw [show bAlterPartitionRequest v fx t = m5 by unfold bAlterPartitionRequest; simp only [← hm5, ← hm4, ← hm3, ← hm2, ← hm1, hm0, List.append_assoc, List.nil_append, List.append_nil]]
  exact hA
theorem qAlterPartitionRequestTopicPartitionNewEpochISR {w : World} {F : Nat → Prop} {cs : List Value} {t : T} (h : QPart true 6 dAlterPartitionRequestTopicPartitionNewEpochISR ⟨w, F⟩ cs t) : rAlterPartitionRequestTopicPartitionNewEpochISR w F cs t := by
  obtain ⟨_, _, u_, m, rfl, rfl, hA0, hm⟩ := iP h
  clear h
  obtain ⟨_, _, x0, _, rfl, rfl, h0, hA1⟩ := iA hA0
  obtain ⟨n0, rfl, rfl⟩ := iF3 h0
  obtain ⟨_, _, x1, _, rfl, rfl, h1, hA2⟩ := iA hA1
  obtain ⟨n1, rfl, rfl⟩ := iF4 h1
  obtain ⟨rfl, rfl⟩ := hA2
  exact ⟨m, rfl, hm⟩
theorem qAlterPartitionRequestTopicPartition {w : World} {F : Nat → Prop} {cs : List Value} {t : T} (h : QPart true 7 dAlterPartitionRequestTopicPartition ⟨w, F⟩ cs t) : rAlterPartitionRequestTopicPartition w F cs t := by
  obtain ⟨_, _, u_, m, rfl, rfl, hA0, hm⟩ := iP h
  clear h
  obtain ⟨_, _, x0, _, rfl, rfl, h0, hA1⟩ := iA hA0
  obtain ⟨n0, rfl, rfl⟩ := iF3 h0
  obtain ⟨_, _, x1, _, rfl, rfl, h1, hA2⟩ := iA hA1
  obtain ⟨n1, rfl, rfl⟩ := iF3 h1
  obtain ⟨_, _, x2, _, rfl, rfl, h2, hA3⟩ := iA hA2
  obtain ⟨c2, rfl, hh2⟩ := iF11 (tg := true) (d := 6) (wf := ⟨w, F⟩) (of := 3) (sub := []) (sz := 1) (R := (fun c x => c = [.int .i32 (IntKind.i32.wrap x.n)])) rfl iE3 h2
  obtain ⟨_, _, x3, _, rfl, rfl, h3, hA4⟩ := iA hA3
  obtain ⟨c3, rfl, hh3⟩ := iF11 (tg := true) (d := 6) (wf := ⟨w, F⟩) (of := 10) (sub := dAlterPartitionRequestTopicPartitionNewEpochISR) (sz := 3) (R := (rAlterPartitionRequestTopicPartitionNewEpochISR w F)) rfl (fun c y hc => qAlterPartitionRequestTopicPartitionNewEpochISR hc) h3
  obtain ⟨_, _, x4, _, rfl, rfl, h4, hA5⟩ := iA hA4
  obtain ⟨n4, rfl, rfl⟩ := iF1 h4
  obtain ⟨_, _, x5, _, rfl, rfl, h5, hA6⟩ := iA hA5
  obtain ⟨n5, rfl, rfl⟩ := iF3 h5
  obtain ⟨rfl, rfl⟩ := hA6
  exact ⟨c2, c3, m, rfl, hh2, hh3, hm⟩
theorem qAlterPartitionRequestTopic {w : World} {F : Nat → Prop} {cs : List Value} {t : T} (h : QPart true 8 dAlterPartitionRequestTopic ⟨w, F⟩ cs t) : rAlterPartitionRequestTopic w F cs t := by
  obtain ⟨_, _, u_, m, rfl, rfl, hA0, hm⟩ := iP h
  clear h
  obtain ⟨_, _, x0, _, rfl, rfl, h0, hA1⟩ := iA hA0
  obtain ⟨n0, rfl, rfl⟩ := iF8 (by decide) h0
  obtain ⟨_, _, x1, _, rfl, rfl, h1, hA2⟩ := iA hA1
  obtain ⟨u1_0, u1_1, u1_2, u1_3, u1_4, u1_5, u1_6, u1_7, u1_8, u1_9, u1_10, u1_11, u1_12, u1_13, u1_14, u1_15, rfl, rfl⟩ := iF7 h1
  obtain ⟨_, _, x2, _, rfl, rfl, h2, hA3⟩ := iA hA2
  obtain ⟨c2, rfl, hh2⟩ := iF11 (tg := true) (d := 7) (wf := ⟨w, F⟩) (of := 10) (sub := dAlterPartitionRequestTopicPartition) (sz := 7) (R := (rAlterPartitionRequestTopicPartition w F)) rfl (fun c y hc => qAlterPartitionRequestTopicPartition hc) h2
  obtain ⟨rfl, rfl⟩ := hA3
  exact ⟨u1_0, u1_1, u1_2, u1_3, u1_4, u1_5, u1_6, u1_7, u1_8, u1_9, u1_10, u1_11, u1_12, u1_13, u1_14, u1_15, c2, m, rfl, rfl, hh2, hm⟩
theorem qAlterPartitionRequest {w : World} {F : Nat → Prop} {cs : List Value} {t : T} (h : QPart true 9 dAlterPartitionRequest ⟨w, F⟩ cs t) : ∃ c2 m, cs = [.int .i32 (IntKind.i32.wrap (atT t 0).n), .int .i64 (atT t 1).n, c2, m] ∧ ListR true 19 (rAlterPartitionRequestTopic w F) w F c2 (atT t 2) ∧ TagsR w F m t.u := by
  obtain ⟨_, _, u_, m, rfl, rfl, hA0, hm⟩ := iP h
  clear h
  obtain ⟨_, _, x0, _, rfl, rfl, h0, hA1⟩ := iA hA0
  obtain ⟨n0, rfl, rfl⟩ := iF3 h0
  obtain ⟨_, _, x1, _, rfl, rfl, h1, hA2⟩ := iA hA1
  obtain ⟨n1, rfl, rfl⟩ := iF4 h1
  obtain ⟨_, _, x2, _, rfl, rfl, h2, hA3⟩ := iA hA2
  obtain ⟨c2, rfl, hh2⟩ := iF11 (tg := true) (d := 8) (wf := ⟨w, F⟩) (of := 10) (sub := dAlterPartitionRequestTopic) (sz := 19) (R := (rAlterPartitionRequestTopic w F)) rfl (fun c y hc => qAlterPartitionRequestTopic hc) h2
  obtain ⟨rfl, rfl⟩ := hA3
  exact ⟨c2, m, rfl, hh2, hm⟩
theorem newAlterPartitionRequest (w : World) : Does X.P 69 #[] w fun r w' => ∃ p, r = .pointer (some ⟨p, 0, none⟩) ∧ w.heap.size ≤ p ∧ Own w' p 152 [.int .i16 0, .int .i32 0, .int .i64 (-1), .slice none 0 0, .map none] ∧ Ext nob w w' := by
  refine Does.go (X := X) (l := []) Tryz.func69 rfl (by kernel_rfl) (by kernel_rfl) _ rfl ?_
  ((conv=>whnf);repeat(first|(refine mvT ?_;conv=>whnf)|(refine mvF ?_;conv=>whnf)|(refine cT (by rfl) ?_;conv=>whnf)|(refine cF (by rfl) ?_;conv=>whnf)))
  intro p w1 hp ho hx
  ((conv=>whnf);repeat(first|(refine mvT ?_;conv=>whnf)|(refine mvF ?_;conv=>whnf)|(refine cT (by rfl) ?_;conv=>whnf)|(refine cF (by rfl) ?_;conv=>whnf)))
  refine Does.mono (dfAlterPartitionRequest (pre := []) (cur := [.int .i16 0, .int .i32 0, .int .i64 0, .slice none 0 0, .map none]) (post := []) (by simpa using ho) rfl rfl) ?_;rintro r2 w2 ⟨hd, hx2⟩;((conv=>whnf);repeat(first|(refine mvT ?_;conv=>whnf)|(refine mvF ?_;conv=>whnf)|(refine cT (by rfl) ?_;conv=>whnf)|(refine cF (by rfl) ?_;conv=>whnf)))
  exact ⟨p, rfl, hp, by simpa using hd, hx.st hx2 hp⟩
theorem maxAlterPartitionRequest (w : World) : Does X.P 29 #[] w fun r w' => r = .int .i64 3 ∧ Ext nob w w' := by
  have hmax : ∀ (p : Nat) (w : World), Does X.P 70 #[.pointer (some ⟨p, 0, none⟩)] w fun r w' => r = .int .i16 3 ∧ w' = w := by
    intro p w
    refine Does.go (X := X) (l := [_]) Tryz.func70 rfl (by kernel_rfl) (by kernel_rfl) _ rfl ?_
    ((conv=>whnf);repeat(first|(refine mvT ?_;conv=>whnf)|(refine mvF ?_;conv=>whnf)|(refine cT (by rfl) ?_;conv=>whnf)|(refine cF (by rfl) ?_;conv=>whnf)))
    exact ⟨rfl, rfl⟩
  refine Does.go (X := X) (l := []) Tryz.func29 rfl (by kernel_rfl) (by kernel_rfl) _ rfl ?_
  ((conv=>whnf);repeat(first|(refine mvT ?_;conv=>whnf)|(refine mvF ?_;conv=>whnf)|(refine cT (by rfl) ?_;conv=>whnf)|(refine cF (by rfl) ?_;conv=>whnf)))
  refine Does.mono (newAlterPartitionRequest w) ?_;rintro r1 w1 ⟨p, rfl, _, _, hx⟩;((conv=>whnf);repeat(first|(refine mvT ?_;conv=>whnf)|(refine mvF ?_;conv=>whnf)|(refine cT (by rfl) ?_;conv=>whnf)|(refine cF (by rfl) ?_;conv=>whnf)))
  refine Does.mono (hmax p w1) ?_;rintro r2 w2 ⟨rfl, rfl⟩;((conv=>whnf);repeat(first|(refine mvT ?_;conv=>whnf)|(refine mvF ?_;conv=>whnf)|(refine cT (by rfl) ?_;conv=>whnf)|(refine cF (by rfl) ?_;conv=>whnf)))
  exact ⟨rfl, hx⟩
theorem backAlterPartitionRequest {G F : Nat → Prop} {w : World} {v : Int} {y x ev : Value} {l s : List UInt8} {t : T} (hL : Laid w ev) (hy : Bytes w F y l) (hx : Bytes w G x s) (hv : 0 ≤ v) (hv2 : v < 32768)
    (hrd : rdPart 9 v (decide (v ≥ 0)) dAlterPartitionRequest (s, false) = (t, ([], false))) (hok : partOK 9 v dAlterPartitionRequest t) (hs : s.length ≤ 70000000000000) (hl : l.length + (bAlterPartitionRequest v (decide (v ≥ 0)) t).length ≤ 70000000000000) :
    Does X.P 31 #[.int .i64 v, y, x] w fun r w' => ∃ o, r = .tuple #[o, .bool true] ∧ OB w' w.heap.size o (l ++ bAlterPartitionRequest v (decide (v ≥ 0)) t) ∧ Ext nob w w' := by
  have hv16 : IntKind.i16.wrap v = v := by
    simp only [IntKind.wrap, IntKind.bits, IntKind.signed]
    simp
    omega
  obtain ⟨ay, cy, rfl, _⟩ := hy.view
  obtain ⟨ax, cx, rfl, _⟩ := hx.view
  have hy : Bytes w (fun k => F k ∧ k < w.heap.size) (.slice ay l.length cy) l := Sl.mono hy fun k h1 h2 => ⟨h2, h1⟩
  have hL1 := hL.lt
  refine Does.go (X := X) (l := [_, _, _]) Tryz.func31 rfl (by kernel_rfl) (by kernel_rfl) _ rfl ?_
  ((conv=>whnf);repeat(first|(refine mvT ?_;conv=>whnf)|(refine mvF ?_;conv=>whnf)|(refine cT (by rfl) ?_;conv=>whnf)|(refine cF (by rfl) ?_;conv=>whnf)))
  refine Does.mono (newAlterPartitionRequest w) ?_;rintro r1 w1 ⟨p, rfl, hwp, hop, hx1⟩;((conv=>whnf);repeat(first|(refine mvT ?_;conv=>whnf)|(refine mvF ?_;conv=>whnf)|(refine cT (by rfl) ?_;conv=>whnf)|(refine cF (by rfl) ?_;conv=>whnf)))
  have hset : Does X.P 72 #[.pointer (some ⟨p, 0, none⟩), .int .i16 (IntKind.i16.wrap v)] w1 fun r w' => Own w' p 152 [.int .i16 v, .int .i32 0, .int .i64 (-1), .slice none 0 0, .map none] ∧ Ext (fun k => k = p) w1 w' := by
    rw [hv16]
    refine Does.go (X := X) (l := [_, _]) Tryz.func72 rfl (by kernel_rfl) (by kernel_rfl) _ rfl ?_
    ((conv=>whnf);repeat(first|(refine mvT ?_;conv=>whnf)|(refine mvF ?_;conv=>whnf)|(refine cT (by rfl) ?_;conv=>whnf)|(refine cF (by rfl) ?_;conv=>whnf)))
    refine ⟨_, _, hop, rfl, rfl, rfl, ?_⟩
    intro w3 ho3 hx3
    ((conv=>whnf);repeat(first|(refine mvT ?_;conv=>whnf)|(refine mvF ?_;conv=>whnf)|(refine cT (by rfl) ?_;conv=>whnf)|(refine cF (by rfl) ?_;conv=>whnf)))
    exact ⟨ho3, hx3⟩
  refine Does.mono (hset) ?_;rintro r2 w2 ⟨hop2, hx2⟩;((conv=>whnf);repeat(first|(refine mvT ?_;conv=>whnf)|(refine mvF ?_;conv=>whnf)|(refine cT (by rfl) ?_;conv=>whnf)|(refine cF (by rfl) ?_;conv=>whnf)))
  have hx02 := hx1.st hx2 hwp
  refine app_bytes rfl rfl (OB.nil w2 w2.heap.size) (hx.e0 hx02).src rfl (by simp only [List.length_nil]; omega) (Nat.le_refl _) ?_
  intro x3 w3 h3 hx3 _ _
  ((conv=>whnf);repeat(first|(refine mvT ?_;conv=>whnf)|(refine mvF ?_;conv=>whnf)|(refine cT (by rfl) ?_;conv=>whnf)|(refine cF (by rfl) ?_;conv=>whnf)))
  rw [List.nil_append] at h3
  have hx3 : Ext nob w2 w3 := hx3.mono fun k _ h => by simp [Value.ownBlock] at h
  have hx03 := hx02.e0 hx3
  have hpl := hop2.lt
  have hread : Does X.P 73 #[.pointer (some ⟨p, 0, none⟩), x3] w3 fun r w' => RdPost w3 p 152 v (decide (v ≥ 0)) true dAlterPartitionRequest ev s r w' := by
    obtain ⟨a3, c3, rfl, _⟩ := h3.shape
    refine Does.go (X := X) (l := [_, _]) Tryz.func73 rfl (by kernel_rfl) (by kernel_rfl) _ rfl ?_
    ((conv=>whnf);repeat(first|(refine mvT ?_;conv=>whnf)|(refine mvF ?_;conv=>whnf)|(refine cT (by rfl) ?_;conv=>whnf)|(refine cF (by rfl) ?_;conv=>whnf)))
    refine Does.mono (readAlterPartitionRequest (hL.ext hx03 fun f => f) (hop2.e0 hx3) (h3.bytes (F := fun k => k ≠ p) fun k hk => by omega) (fun k h => h) hv (by omega)) ?_;rintro r w' h;((conv=>whnf);repeat(first|(refine mvT ?_;conv=>whnf)|(refine mvF ?_;conv=>whnf)|(refine cT (by rfl) ?_;conv=>whnf)|(refine cF (by rfl) ?_;conv=>whnf)))
    exact h
  refine Does.mono hread ?_
  rintro r4 w4 ⟨hr4, hx4, hpost⟩
  rw [hrd] at hr4 hpost
  obtain rfl : r4 = .nilIface := hr4.trans (if_neg Bool.false_ne_true)
  obtain ⟨cs, hop4, hq⟩ := hpost rfl
  obtain ⟨c2, m, rfl, hc2, hm⟩ := qAlterPartitionRequest hq
  ((conv=>whnf);repeat(first|(refine mvT ?_;conv=>whnf)|(refine mvF ?_;conv=>whnf)|(refine cT (by rfl) ?_;conv=>whnf)|(refine cF (by rfl) ?_;conv=>whnf)))
  have hx04 := hx03.st hx4 hwp
  refine app_bytes rfl rfl (OB.nil w4 w4.heap.size) (hy.e0 hx04).src rfl (by simp only [List.length_nil]; omega) (Nat.le_refl _) ?_
  intro y5 w5 h5 hx5 _ _
  ((conv=>whnf);repeat(first|(refine mvT ?_;conv=>whnf)|(refine mvF ?_;conv=>whnf)|(refine cT (by rfl) ?_;conv=>whnf)|(refine cF (by rfl) ?_;conv=>whnf)))
  rw [List.nil_append] at h5
  have hx5 : Ext nob w4 w5 := hx5.mono fun k _ h => by simp [Value.ownBlock] at h
  obtain ⟨F4, hF4⟩ : ∃ F4 : Nat → Prop, F4 = fun k => k ≠ p ∧ k < w4.heap.size := ⟨_, rfl⟩
  have hpl4 := hop4.lt
  refine Does.mono (appAlterPartitionRequest (F := fun k => k ≠ p ∧ k < w4.heap.size) (hop4.e0 hx5) (by have := (hc2.mono (F' := F4) (fun k h1 h2 => by rw [hF4]; exact ⟨h2, h1⟩) (fun _ _ h => rAlterPartitionRequestTopic_mono (F' := F4) h fun k h1 h2 => by rw [hF4]; exact ⟨h2, h1⟩)).ext hx5 (fun _ _ _ f => f) (fun _ _ h => rAlterPartitionRequestTopic_ext h hx5 fun _ _ _ f => f); rw [hF4] at this; exact this) (by have := (hm.mono (F' := F4) fun k h1 h2 => by rw [hF4]; exact ⟨h2, h1⟩).ext hx5 fun _ _ _ f => f; rw [hF4] at this; exact this) hok (fun j _ hj e => by have := h5.blk j e; have := hj.2; omega) (fun e => by have := h5.blk p e; omega) h5 hx5.size hv hl) ?_
  rintro r6 w6 h6
  ((conv=>whnf);repeat(first|(refine mvT ?_;conv=>whnf)|(refine mvF ?_;conv=>whnf)|(refine cT (by rfl) ?_;conv=>whnf)|(refine cF (by rfl) ?_;conv=>whnf)))
  exact ⟨r6, rfl, h6.ob.mono hx04.size, (hx04.e0 hx5).own h6.ext (B := w4.heap.size) h5.blk hx04.size⟩
theorem walkAlterPartitionRequest {w : World} {n : Nat} (hn : n < 256) {y x ev : Value} {l : List UInt8} {t : T} (hL : Laid w ev) (hy : Bytes w anyB y l) (ht : Tr w anyB x t) (hsz : wtT t ≤ 1048576) : Does X.P 8 #[.int .u8 n, y, x] w fun r w' => r = .bool true ∧ Ext nob w w' := by
  have hkeys := ht.keys
  obtain ⟨ay, cy, rfl, _⟩ := hy.view
  obtain ⟨sv, lv, uv, ls, rfl, _⟩ := ht.open
  refine Does.go (X := X) (l := [_, _, _]) Tryz.func8 rfl (by kernel_rfl) (by kernel_rfl) _ rfl ?_
  ((conv=>whnf);repeat(first|(refine mvT ?_;conv=>whnf)|(refine mvF ?_;conv=>whnf)|(refine cT (by rfl) ?_;conv=>whnf)|(refine cF (by rfl) ?_;conv=>whnf)))
  intro b w1 hb ho hx
  ((conv=>whnf);repeat(first|(refine mvT ?_;conv=>whnf)|(refine mvF ?_;conv=>whnf)|(refine cT (by rfl) ?_;conv=>whnf)|(refine cF (by rfl) ?_;conv=>whnf)))
  intro cq hcq
  cases cq with
  | true =>
    ((conv=>whnf);repeat(first|(refine mvT ?_;conv=>whnf)|(refine mvF ?_;conv=>whnf)|(refine cT (by rfl) ?_;conv=>whnf)|(refine cF (by rfl) ?_;conv=>whnf)))
    exact ⟨rfl, hx⟩
  | false =>
  ((conv=>whnf);repeat(first|(refine mvT ?_;conv=>whnf)|(refine mvF ?_;conv=>whnf)|(refine cT (by rfl) ?_;conv=>whnf)|(refine cF (by rfl) ?_;conv=>whnf)))
  ((conv=>whnf);repeat(first|(refine mvT ?_;conv=>whnf)|(refine mvF ?_;conv=>whnf)|(refine cT (by rfl) ?_;conv=>whnf)|(refine cF (by rfl) ?_;conv=>whnf)))
  refine ⟨_, rfl, ho.cells, ?_⟩
  ((conv=>whnf);repeat(first|(refine mvT ?_;conv=>whnf)|(refine mvF ?_;conv=>whnf)|(refine cT (by rfl) ?_;conv=>whnf)|(refine cF (by rfl) ?_;conv=>whnf)))
  refine Does.mono (zzFits1_does (ht.e0 hx)) ?_;rintro r2 w2 ⟨⟨b2, rfl⟩, hx2⟩;((conv=>whnf);repeat(first|(refine mvT ?_;conv=>whnf)|(refine mvF ?_;conv=>whnf)|(refine cT (by rfl) ?_;conv=>whnf)|(refine cF (by rfl) ?_;conv=>whnf)))
  have hx02 := hx.e0 hx2
  refine cI (by rfl) (fun h1=>?_) (fun h1=>?_)
  · ((conv=>whnf);repeat(first|(refine mvT ?_;conv=>whnf)|(refine mvF ?_;conv=>whnf)|(refine cT (by rfl) ?_;conv=>whnf)|(refine cF (by rfl) ?_;conv=>whnf)))
    exact ⟨rfl, hx02⟩
  · ((conv=>whnf);repeat(first|(refine mvT ?_;conv=>whnf)|(refine mvF ?_;conv=>whnf)|(refine cT (by rfl) ?_;conv=>whnf)|(refine cF (by rfl) ?_;conv=>whnf)))
    refine Does.mono (maxAlterPartitionRequest w2) ?_;rintro r3 w3 ⟨rfl, hx3⟩;((conv=>whnf);repeat(first|(refine mvT ?_;conv=>whnf)|(refine mvF ?_;conv=>whnf)|(refine cT (by rfl) ?_;conv=>whnf)|(refine cF (by rfl) ?_;conv=>whnf)))
    refine Does.mono (sAlterPartitionRequest w3) ?_;rintro r4 w4 ⟨⟨fv, rfl, hfd⟩, hx4⟩;((conv=>whnf);repeat(first|(refine mvT ?_;conv=>whnf)|(refine mvF ?_;conv=>whnf)|(refine cT (by rfl) ?_;conv=>whnf)|(refine cF (by rfl) ?_;conv=>whnf)))
    have hone := hfd
    obtain ⟨ls3, hsl3, _⟩ := hone
    obtain ⟨a3, c3, rfl, _⟩ := hsl3.view
    refine Does.mono (version_does n 3 hn (by omega) w4) ?_;rintro r5 w5 ⟨rfl, rfl⟩;((conv=>whnf);repeat(first|(refine mvT ?_;conv=>whnf)|(refine mvF ?_;conv=>whnf)|(refine cT (by rfl) ?_;conv=>whnf)|(refine cF (by rfl) ?_;conv=>whnf)))
    intro b6 w6 hb6 ho6 hx6
    ((conv=>whnf);repeat(first|(refine mvT ?_;conv=>whnf)|(refine mvF ?_;conv=>whnf)|(refine cT (by rfl) ?_;conv=>whnf)|(refine cF (by rfl) ?_;conv=>whnf)))
    refine ⟨_, _, ho6, rfl, rfl, rfl, ?_⟩
    intro w7 ho7 hx7
    have hx57 : Ext nob w5 w7 := hx6.st hx7 hb6
    ((conv=>whnf);repeat(first|(refine mvT ?_;conv=>whnf)|(refine mvF ?_;conv=>whnf)|(refine cT (by rfl) ?_;conv=>whnf)|(refine cF (by rfl) ?_;conv=>whnf)))
    have hx07 : Ext nob w w7 := ((hx02.e0 hx3).e0 hx4).e0 hx57
    have ho1 := (((ho.e0 hx2).e0 hx3).e0 hx4).e0 hx57
    generalize hvv : ((n % (3 + 1) : Nat) : Int) = v
    have hv0 : 0 ≤ v := by omega
    have hv1 : v < 32768 := by omega
    have hok : ∀ f, f ∈ dAlterPartitionRequest → okF 9 f = true := List.all_eq_true.1 (show (dAlterPartitionRequest).all (okF 9) = true by decide)
    have hnt : ∀ f, f ∈ dAlterPartitionRequest → ntF 9 f = true := List.all_eq_true.1 (show (dAlterPartitionRequest).all (ntF 9) = true by decide)
    have hrr : ∀ f, f ∈ dAlterPartitionRequest → okR 0 9 f = true := List.all_eq_true.1 (show (dAlterPartitionRequest).all (okR 0 9) = true by decide)
    have hww : ∀ f, f ∈ dAlterPartitionRequest → okW 9 f = true := List.all_eq_true.1 (show (dAlterPartitionRequest).all (okW 9) = true by decide)
    refine cI (by rfl) (fun hd=>?_) (fun hd=>?_)
    · ((conv=>whnf);repeat(first|(refine mvT ?_;conv=>whnf)|(refine mvF ?_;conv=>whnf)|(refine cT (by rfl) ?_;conv=>whnf)|(refine cF (by rfl) ?_;conv=>whnf)))
      exact ⟨rfl, hx07⟩
    · have hl1 : l.length ≤ 1000 := by have := of_decide_eq_false hd; omega
      ((conv=>whnf);repeat(first|(refine mvT ?_;conv=>whnf)|(refine mvF ?_;conv=>whnf)|(refine cT (by rfl) ?_;conv=>whnf)|(refine cF (by rfl) ?_;conv=>whnf)))
      refine ⟨_, rfl, ho7.cells, ?_⟩
      ((conv=>whnf);repeat(first|(refine mvT ?_;conv=>whnf)|(refine mvF ?_;conv=>whnf)|(refine cT (by rfl) ?_;conv=>whnf)|(refine cF (by rfl) ?_;conv=>whnf)))
      refine ⟨_, rfl, ho1.cells, ?_⟩
      ((conv=>whnf);repeat(first|(refine mvT ?_;conv=>whnf)|(refine mvF ?_;conv=>whnf)|(refine cT (by rfl) ?_;conv=>whnf)|(refine cF (by rfl) ?_;conv=>whnf)))
      have hfx : decide (v ≥ 0) = flexB 0 v := by simp [flexB]
      have hlen : (partB 9 v (flexB 0 v) dAlterPartitionRequest t).length ≤ 60000000000000 := Nat.le_trans (partB_wt 9 v _ dAlterPartitionRequest t hnt hkeys) (Nat.le_trans (Nat.mul_le_mul_left _ hsz) (Nat.le_of_ble_eq_true rfl))
      refine Does.mono (write_does 9 (v := v) ⟨_, rfl, hfd.e0 hx57⟩ (ht.e0 hx07) hok (by decide) (Nat.le_trans hlen (by decide))) ?_
      rintro r8 w8 ⟨hr8, hx8⟩
      obtain ⟨a8, c8, rfl, _⟩ := hr8.shape
      ((conv=>whnf);repeat(first|(refine mvT ?_;conv=>whnf)|(refine mvF ?_;conv=>whnf)|(refine cT (by rfl) ?_;conv=>whnf)|(refine cF (by rfl) ?_;conv=>whnf)))
      have hx08 := hx07.e0 hx8
      have hrd : rdPart 9 v (decide (v ≥ 0)) dAlterPartitionRequest (partB 9 v (flexB 0 v) dAlterPartitionRequest t, false) = (toPart 9 v (decide (v ≥ 0)) dAlterPartitionRequest t, ([], false)) := by
        have := part_read 9 0 v dAlterPartitionRequest t hnt hrr hkeys hv0 []
        rw [List.append_nil] at this
        rw [hfx]
        exact this
      have hokT := part_okT 9 v (decide (v ≥ 0)) dAlterPartitionRequest t hnt hww hkeys hv0
      have hlaw : bAlterPartitionRequest v (decide (v ≥ 0)) (toPart 9 v (decide (v ≥ 0)) dAlterPartitionRequest t) = partB 9 v (flexB 0 v) dAlterPartitionRequest t := by
        rw [← bAlterPartitionRequest_eq hv0 hokT, hfx]
        exact partT_law 9 v _ dAlterPartitionRequest t hnt hww
      refine Does.mono (backAlterPartitionRequest (v := v) (hL.ext hx08 fun f => f) (hy.e0 hx08) hr8.bytesAny hv0 hv1 hrd hokT (by omega) (by rw [hlaw]; omega)) ?_
      rintro r9 w9 ⟨o9, rfl, ho9, hx9⟩
      rw [hlaw] at ho9
      obtain ⟨a9, c9, rfl, _⟩ := ho9.shape
      ((conv=>whnf);repeat(first|(refine mvT ?_;conv=>whnf)|(refine mvF ?_;conv=>whnf)|(refine cT (by rfl) ?_;conv=>whnf)|(refine cF (by rfl) ?_;conv=>whnf)))
      have hx09 := hx08.e0 hx9
      intro b10 w10 hb10 ho10 hx10
      ((conv=>whnf);repeat(first|(refine mvT ?_;conv=>whnf)|(refine mvF ?_;conv=>whnf)|(refine cT (by rfl) ?_;conv=>whnf)|(refine cF (by rfl) ?_;conv=>whnf)))
      have hob : OB w10 w9.heap.size (.slice (some ⟨b10, 0, none⟩) 0 0) [] := ⟨OwnSl.of_own (sz := 1) (n := 0) (cap := 0) ho10 (Nat.le_refl _) (by rw [maxLen_eq]; omega) rfl, fun k hk => by simp only [Value.ownBlock, Option.some.injEq] at hk; omega⟩
      refine app_bytes rfl rfl hob (hy.e0 (hx09.e0 hx10)).src rfl (by simp only [List.length_nil]; omega) hx10.size ?_
      intro v11 w11 h11 hx11 _ _
      have hx911 : Ext nob w9 w11 := hx10.trans hx11 fun k hk e => by simp only [Value.ownBlock, Option.some.injEq] at e; omega
      obtain ⟨a11, c11, rfl, _⟩ := h11.shape
      ((conv=>whnf);repeat(first|(refine mvT ?_;conv=>whnf)|(refine mvF ?_;conv=>whnf)|(refine cT (by rfl) ?_;conv=>whnf)|(refine cF (by rfl) ?_;conv=>whnf)))
      rw [List.nil_append] at h11
      refine app_bytes rfl rfl h11 ((hr8.e0 hx9).e0 hx911).bytesAny.src rfl (by omega) hx911.size ?_
      intro v12 w12 h12 hx12 _ _
      have hx912 : Ext nob w9 w12 := hx911.own hx12 (B := w9.heap.size) h11.blk (Nat.le_refl _)
      obtain ⟨a12, c12, rfl, _⟩ := h12.shape
      ((conv=>whnf);repeat(first|(refine mvT ?_;conv=>whnf)|(refine mvF ?_;conv=>whnf)|(refine cT (by rfl) ?_;conv=>whnf)|(refine cF (by rfl) ?_;conv=>whnf)))
      refine Does.mono (Same_does (ho9.e0 hx912).bytesAny h12.bytesAny) ?_
      rintro r13 w13 ⟨rfl, hx13⟩
      ((conv=>whnf);repeat(first|(refine mvT ?_;conv=>whnf)|(refine mvF ?_;conv=>whnf)|(refine cT (by rfl) ?_;conv=>whnf)|(refine cF (by rfl) ?_;conv=>whnf)))
      exact ⟨by simp [oneOr], (hx09.e0 hx912).e0 hx13⟩
end Go.Proofs.YtanohglljnajiaaGreatDoor.K
