/- FetchRequest is read and written as a whole request. -/
import Derived.Test.YtgfkjnbhcekfkaaGreatDoorH1
import Derived.Test.YtgfkjnbhcekfkaaGreatDoorZ1
import Derived.Test.YtgfkjnbhcekfkaaGreatDoorQ4
import Derived.Test.YtgfkjnbhcekfkaaGreatDoorV26
import Derived.Test.YtgfkjnbhcekfkaaGreatDoorGversion
set_option linter.unusedVariables false
set_option linter.unusedSimpArgs false
namespace Go.Proofs.YtgfkjnbhcekfkaaGreatDoor.K
open Go
set_option maxHeartbeats 1600000
set_option maxRecDepth 100000

def rFetchRequestReplicaState (w : World) (F : Nat → Prop) (cs : List Value) (t : T) : Prop := ∃ m, cs = [.int .i32 (IntKind.i32.wrap (atT t 0).n), .int .i64 (IntKind.i64.wrap (atT t 1).n), m] ∧ TagsR w F m t.u
theorem rFetchRequestReplicaState_ext {M F : Nat → Prop} {w w' : World} {cs : List Value} {t : T} (h : rFetchRequestReplicaState w F cs t) (x : Ext M w w') (hF : ∀ k, k < w.heap.size → F k → ¬ M k) : rFetchRequestReplicaState w' F cs t := by
  obtain ⟨m, rfl, hm⟩ := h
  exact ⟨m, rfl, hm.ext x hF⟩
theorem rFetchRequestReplicaState_mono {F F' : Nat → Prop} {w : World} {cs : List Value} {t : T} (h : rFetchRequestReplicaState w F cs t) (hF : ∀ k, k < w.heap.size → F k → F' k) : rFetchRequestReplicaState w F' cs t := by
  obtain ⟨m, rfl, hm⟩ := h
  exact ⟨m, rfl, hm.mono hF⟩
theorem rFetchRequestReplicaState_len {F : Nat → Prop} {w : World} {cs : List Value} {t : T} (h : rFetchRequestReplicaState w F cs t) : cs.length = 3 := by
  obtain ⟨m, rfl, hm⟩ := h
  rfl
def rFetchRequestTopicPartition (w : World) (F : Nat → Prop) (cs : List Value) (t : T) : Prop := ∃ u6_0 u6_1 u6_2 u6_3 u6_4 u6_5 u6_6 u6_7 u6_8 u6_9 u6_10 u6_11 u6_12 u6_13 u6_14 u6_15 m, cs = [.int .i32 (IntKind.i32.wrap (atT t 0).n), .int .i32 (IntKind.i32.wrap (atT t 1).n), .int .i64 (atT t 2).n, .int .i32 (IntKind.i32.wrap (atT t 3).n), .int .i64 (atT t 4).n, .int .i32 (IntKind.i32.wrap (atT t 5).n), bcell u6_0, bcell u6_1, bcell u6_2, bcell u6_3, bcell u6_4, bcell u6_5, bcell u6_6, bcell u6_7, bcell u6_8, bcell u6_9, bcell u6_10, bcell u6_11, bcell u6_12, bcell u6_13, bcell u6_14, bcell u6_15, .int .i64 (IntKind.i64.wrap (atT t 7).n), m] ∧ uuidB (atT t 6).s = [u6_0, u6_1, u6_2, u6_3, u6_4, u6_5, u6_6, u6_7, u6_8, u6_9, u6_10, u6_11, u6_12, u6_13, u6_14, u6_15] ∧ TagsR w F m t.u
theorem rFetchRequestTopicPartition_ext {M F : Nat → Prop} {w w' : World} {cs : List Value} {t : T} (h : rFetchRequestTopicPartition w F cs t) (x : Ext M w w') (hF : ∀ k, k < w.heap.size → F k → ¬ M k) : rFetchRequestTopicPartition w' F cs t := by
  obtain ⟨u6_0, u6_1, u6_2, u6_3, u6_4, u6_5, u6_6, u6_7, u6_8, u6_9, u6_10, u6_11, u6_12, u6_13, u6_14, u6_15, m, rfl, h6, hm⟩ := h
  exact ⟨u6_0, u6_1, u6_2, u6_3, u6_4, u6_5, u6_6, u6_7, u6_8, u6_9, u6_10, u6_11, u6_12, u6_13, u6_14, u6_15, m, rfl, h6, hm.ext x hF⟩
theorem rFetchRequestTopicPartition_mono {F F' : Nat → Prop} {w : World} {cs : List Value} {t : T} (h : rFetchRequestTopicPartition w F cs t) (hF : ∀ k, k < w.heap.size → F k → F' k) : rFetchRequestTopicPartition w F' cs t := by
  obtain ⟨u6_0, u6_1, u6_2, u6_3, u6_4, u6_5, u6_6, u6_7, u6_8, u6_9, u6_10, u6_11, u6_12, u6_13, u6_14, u6_15, m, rfl, h6, hm⟩ := h
  exact ⟨u6_0, u6_1, u6_2, u6_3, u6_4, u6_5, u6_6, u6_7, u6_8, u6_9, u6_10, u6_11, u6_12, u6_13, u6_14, u6_15, m, rfl, h6, hm.mono hF⟩
theorem rFetchRequestTopicPartition_len {F : Nat → Prop} {w : World} {cs : List Value} {t : T} (h : rFetchRequestTopicPartition w F cs t) : cs.length = 24 := by
  obtain ⟨u6_0, u6_1, u6_2, u6_3, u6_4, u6_5, u6_6, u6_7, u6_8, u6_9, u6_10, u6_11, u6_12, u6_13, u6_14, u6_15, m, rfl, h6, hm⟩ := h
  rfl
def rFetchRequestTopic (w : World) (F : Nat → Prop) (cs : List Value) (t : T) : Prop := ∃ u1_0 u1_1 u1_2 u1_3 u1_4 u1_5 u1_6 u1_7 u1_8 u1_9 u1_10 u1_11 u1_12 u1_13 u1_14 u1_15 c2 m, cs = [str (atT t 0).s, bcell u1_0, bcell u1_1, bcell u1_2, bcell u1_3, bcell u1_4, bcell u1_5, bcell u1_6, bcell u1_7, bcell u1_8, bcell u1_9, bcell u1_10, bcell u1_11, bcell u1_12, bcell u1_13, bcell u1_14, bcell u1_15, c2, m] ∧ uuidB (atT t 1).s = [u1_0, u1_1, u1_2, u1_3, u1_4, u1_5, u1_6, u1_7, u1_8, u1_9, u1_10, u1_11, u1_12, u1_13, u1_14, u1_15] ∧ ListR true 24 (rFetchRequestTopicPartition w F) w F c2 (atT t 2) ∧ TagsR w F m t.u
theorem rFetchRequestTopic_ext {M F : Nat → Prop} {w w' : World} {cs : List Value} {t : T} (h : rFetchRequestTopic w F cs t) (x : Ext M w w') (hF : ∀ k, k < w.heap.size → F k → ¬ M k) : rFetchRequestTopic w' F cs t := by
  obtain ⟨u1_0, u1_1, u1_2, u1_3, u1_4, u1_5, u1_6, u1_7, u1_8, u1_9, u1_10, u1_11, u1_12, u1_13, u1_14, u1_15, c2, m, rfl, h1, h2, hm⟩ := h
  exact ⟨u1_0, u1_1, u1_2, u1_3, u1_4, u1_5, u1_6, u1_7, u1_8, u1_9, u1_10, u1_11, u1_12, u1_13, u1_14, u1_15, c2, m, rfl, h1, h2.ext x hF (fun _ _ h => rFetchRequestTopicPartition_ext h x hF), hm.ext x hF⟩
theorem rFetchRequestTopic_mono {F F' : Nat → Prop} {w : World} {cs : List Value} {t : T} (h : rFetchRequestTopic w F cs t) (hF : ∀ k, k < w.heap.size → F k → F' k) : rFetchRequestTopic w F' cs t := by
  obtain ⟨u1_0, u1_1, u1_2, u1_3, u1_4, u1_5, u1_6, u1_7, u1_8, u1_9, u1_10, u1_11, u1_12, u1_13, u1_14, u1_15, c2, m, rfl, h1, h2, hm⟩ := h
  exact ⟨u1_0, u1_1, u1_2, u1_3, u1_4, u1_5, u1_6, u1_7, u1_8, u1_9, u1_10, u1_11, u1_12, u1_13, u1_14, u1_15, c2, m, rfl, h1, h2.mono hF (fun _ _ h => rFetchRequestTopicPartition_mono h hF), hm.mono hF⟩
theorem rFetchRequestTopic_len {F : Nat → Prop} {w : World} {cs : List Value} {t : T} (h : rFetchRequestTopic w F cs t) : cs.length = 19 := by
  obtain ⟨u1_0, u1_1, u1_2, u1_3, u1_4, u1_5, u1_6, u1_7, u1_8, u1_9, u1_10, u1_11, u1_12, u1_13, u1_14, u1_15, c2, m, rfl, h1, h2, hm⟩ := h
  rfl
def rFetchRequestForgottenTopic (w : World) (F : Nat → Prop) (cs : List Value) (t : T) : Prop := ∃ u1_0 u1_1 u1_2 u1_3 u1_4 u1_5 u1_6 u1_7 u1_8 u1_9 u1_10 u1_11 u1_12 u1_13 u1_14 u1_15 c2 m, cs = [str (atT t 0).s, bcell u1_0, bcell u1_1, bcell u1_2, bcell u1_3, bcell u1_4, bcell u1_5, bcell u1_6, bcell u1_7, bcell u1_8, bcell u1_9, bcell u1_10, bcell u1_11, bcell u1_12, bcell u1_13, bcell u1_14, bcell u1_15, c2, m] ∧ uuidB (atT t 1).s = [u1_0, u1_1, u1_2, u1_3, u1_4, u1_5, u1_6, u1_7, u1_8, u1_9, u1_10, u1_11, u1_12, u1_13, u1_14, u1_15] ∧ ListR true 1 (fun c x => c = [.int .i32 (IntKind.i32.wrap x.n)]) w F c2 (atT t 2) ∧ TagsR w F m t.u
theorem rFetchRequestForgottenTopic_ext {M F : Nat → Prop} {w w' : World} {cs : List Value} {t : T} (h : rFetchRequestForgottenTopic w F cs t) (x : Ext M w w') (hF : ∀ k, k < w.heap.size → F k → ¬ M k) : rFetchRequestForgottenTopic w' F cs t := by
  obtain ⟨u1_0, u1_1, u1_2, u1_3, u1_4, u1_5, u1_6, u1_7, u1_8, u1_9, u1_10, u1_11, u1_12, u1_13, u1_14, u1_15, c2, m, rfl, h1, h2, hm⟩ := h
  exact ⟨u1_0, u1_1, u1_2, u1_3, u1_4, u1_5, u1_6, u1_7, u1_8, u1_9, u1_10, u1_11, u1_12, u1_13, u1_14, u1_15, c2, m, rfl, h1, h2.ext x hF (fun _ _ h => h), hm.ext x hF⟩
theorem rFetchRequestForgottenTopic_mono {F F' : Nat → Prop} {w : World} {cs : List Value} {t : T} (h : rFetchRequestForgottenTopic w F cs t) (hF : ∀ k, k < w.heap.size → F k → F' k) : rFetchRequestForgottenTopic w F' cs t := by
  obtain ⟨u1_0, u1_1, u1_2, u1_3, u1_4, u1_5, u1_6, u1_7, u1_8, u1_9, u1_10, u1_11, u1_12, u1_13, u1_14, u1_15, c2, m, rfl, h1, h2, hm⟩ := h
  exact ⟨u1_0, u1_1, u1_2, u1_3, u1_4, u1_5, u1_6, u1_7, u1_8, u1_9, u1_10, u1_11, u1_12, u1_13, u1_14, u1_15, c2, m, rfl, h1, h2.mono hF (fun _ _ h => h), hm.mono hF⟩
theorem rFetchRequestForgottenTopic_len {F : Nat → Prop} {w : World} {cs : List Value} {t : T} (h : rFetchRequestForgottenTopic w F cs t) : cs.length = 19 := by
  obtain ⟨u1_0, u1_1, u1_2, u1_3, u1_4, u1_5, u1_6, u1_7, u1_8, u1_9, u1_10, u1_11, u1_12, u1_13, u1_14, u1_15, c2, m, rfl, h1, h2, hm⟩ := h
  rfl
def bFetchRequestReplicaState (v : Int) (fx : Bool) (t : T) : List UInt8 := ((fixed (atT t 0).n 4) ++ ((fixed (atT t 1).n 8) ++ ([]))) ++ tgsB fx t.u
theorem bFetchRequestReplicaState_eq {v : Int} {fx : Bool} {t : T} (hv : 0 ≤ v) (hok : partOK 8 v dFetchRequestReplicaState t) : partA 8 v fx dFetchRequestReplicaState t = bFetchRequestReplicaState v fx t := by
  unfold partA partAW bFetchRequestReplicaState
  rw [tgA_nt (by decide)]
  have hf := hok.1 0 _ rfl
  rw [plainW_all hv]
  have hf := hok.1 1 _ rfl
  rw [plainW_all hv]
  rfl
def gFetchRequestTopicPartition (v : Int) (fx : Bool) (t : T) : List Tg := (if ncB (.mk 7 0 (-1) (-1) 0 0 0 []) (atT t 6) = false then [(0, uuidB (atT t 6).s)] else []) ++ ((if ncB (.mk 4 0 (-1) (-1) 1 9223372036854775807 0 []) (atT t 7) = false then [(1, fixed (atT t 7).n 8)] else []) ++ ([]))
def bFetchRequestTopicPartition (v : Int) (fx : Bool) (t : T) : List UInt8 := ((fixed (atT t 0).n 4) ++ (((if (decide (9 ≤ v) && (decide ((-1 : Int) < 0) || decide (v ≤ (-1)))) = true then fixed (atT t 1).n 4 else [])) ++ ((fixed (atT t 2).n 8) ++ (((if (decide (12 ≤ v) && (decide ((-1 : Int) < 0) || decide (v ≤ (-1)))) = true then fixed (atT t 3).n 4 else [])) ++ (((if (decide (5 ≤ v) && (decide ((-1 : Int) < 0) || decide (v ≤ (-1)))) = true then fixed (atT t 4).n 8 else [])) ++ ((fixed (atT t 5).n 4) ++ ([]))))))) ++ (if fx = true then uvar ((gFetchRequestTopicPartition v fx t).length + (t).u.length) ++ ((gFetchRequestTopicPartition v fx t).flatMap tagB ++ (t).u.flatMap tagB) else [])
theorem bFetchRequestTopicPartition_eq {v : Int} {fx : Bool} {t : T} (hv : 0 ≤ v) (hok : partOK 7 v dFetchRequestTopicPartition t) : partA 7 v fx dFetchRequestTopicPartition t = bFetchRequestTopicPartition v fx t := by
  unfold partA partAW bFetchRequestTopicPartition
  have hg : tagL (fieldA 7 v fx) ncB t 0 dFetchRequestTopicPartition = gFetchRequestTopicPartition v fx t := by
    unfold gFetchRequestTopicPartition
    rw [tagL_skip (by decide)]
    rw [tagL_skip (by decide)]
    rw [tagL_skip (by decide)]
    rw [tagL_skip (by decide)]
    rw [tagL_skip (by decide)]
    rw [tagL_skip (by decide)]
    have hf := hok.1 6 _ rfl
    rw [tagL_one (k := 0) (pc := uuidB (atT t 6).s) (by decide) fun hu => ?_]
    rotate_left
    · rfl
    have hf := hok.1 7 _ rfl
    rw [tagL_one (k := 1) (pc := fixed (atT t 7).n 8) (by decide) fun hu => ?_]
    rotate_left
    · rfl
    rfl
  unfold tgA
  rw [if_neg (by decide), hg]
  have hf := hok.1 0 _ rfl
  rw [plainW_all hv]
  have hf := hok.1 1 _ rfl
  rw [plainW_ver]
  have hf := hok.1 2 _ rfl
  rw [plainW_all hv]
  have hf := hok.1 3 _ rfl
  rw [plainW_ver]
  have hf := hok.1 4 _ rfl
  rw [plainW_ver]
  have hf := hok.1 5 _ rfl
  rw [plainW_all hv]
  rw [plainW_tag (by decide)]
  rw [plainW_tag (by decide)]
  rfl
def bFetchRequestTopic (v : Int) (fx : Bool) (t : T) : List UInt8 := (((if (decide (0 ≤ v) && (decide ((12 : Int) < 0) || decide (v ≤ 12))) = true then txA fx (atT t 0).s else [])) ++ (((if (decide (13 ≤ v) && (decide ((-1 : Int) < 0) || decide (v ≤ (-1)))) = true then uuidB (atT t 1).s else [])) ++ ((arA fx (lsT (atT t 2)).length ++ (lsT (atT t 2)).flatMap (bFetchRequestTopicPartition v fx)) ++ ([])))) ++ tgsB fx t.u
theorem bFetchRequestTopic_eq {v : Int} {fx : Bool} {t : T} (hv : 0 ≤ v) (hok : partOK 8 v dFetchRequestTopic t) : partA 8 v fx dFetchRequestTopic t = bFetchRequestTopic v fx t := by
  unfold partA partAW bFetchRequestTopic
  rw [tgA_nt (by decide)]
  have hf := hok.1 0 _ rfl
  rw [plainW_ver]
  rw [tx_eq hf]
  have hf := hok.1 1 _ rfl
  rw [plainW_ver]
  have hf := hok.1 2 _ rfl
  rw [plainW_all hv]
  rw [ar_eq (g := (bFetchRequestTopicPartition v fx)) hf fun y hy => bFetchRequestTopicPartition_eq hv ((lsT_ok hf y hy).2.2 rfl)]
  rfl
def bFetchRequestForgottenTopic (v : Int) (fx : Bool) (t : T) : List UInt8 := (((if (decide (7 ≤ v) && (decide ((12 : Int) < 0) || decide (v ≤ 12))) = true then txA fx (atT t 0).s else [])) ++ (((if (decide (13 ≤ v) && (decide ((-1 : Int) < 0) || decide (v ≤ (-1)))) = true then uuidB (atT t 1).s else [])) ++ ((arA fx (lsT (atT t 2)).length ++ (lsT (atT t 2)).flatMap (fun x => fixed x.n 4)) ++ ([])))) ++ tgsB fx t.u
theorem bFetchRequestForgottenTopic_eq {v : Int} {fx : Bool} {t : T} (hv : 0 ≤ v) (hok : partOK 8 v dFetchRequestForgottenTopic t) : partA 8 v fx dFetchRequestForgottenTopic t = bFetchRequestForgottenTopic v fx t := by
  unfold partA partAW bFetchRequestForgottenTopic
  rw [tgA_nt (by decide)]
  have hf := hok.1 0 _ rfl
  rw [plainW_ver]
  rw [tx_eq hf]
  have hf := hok.1 1 _ rfl
  rw [plainW_ver]
  have hf := hok.1 2 _ rfl
  rw [plainW_all hv]
  rw [ar_eq (g := (fun x => fixed x.n 4)) hf fun y hy => rfl]
  rfl
def gFetchRequest (v : Int) (fx : Bool) (t : T) : List Tg := (if ncB (.mk 8 0 (-1) 0 0 0 0 []) (atT t 0) = false then [(0, ntA fx (atT t 0).nl (atT t 0).s)] else []) ++ ((if ncB (.mk 10 0 (-1) (-1) 1 0 0 dFetchRequestReplicaState) (atT t 2) = false then [(1, bFetchRequestReplicaState v fx (atT t 2))] else []) ++ ([]))
def bFetchRequest (v : Int) (fx : Bool) (t : T) : List UInt8 := (((if (decide (0 ≤ v) && (decide ((14 : Int) < 0) || decide (v ≤ 14))) = true then fixed (atT t 1).n 4 else [])) ++ ((fixed (atT t 3).n 4) ++ ((fixed (atT t 4).n 4) ++ (((if (decide (3 ≤ v) && (decide ((-1 : Int) < 0) || decide (v ≤ (-1)))) = true then fixed (atT t 5).n 4 else [])) ++ (((if (decide (4 ≤ v) && (decide ((-1 : Int) < 0) || decide (v ≤ (-1)))) = true then fixed (atT t 6).n 1 else [])) ++ (((if (decide (7 ≤ v) && (decide ((-1 : Int) < 0) || decide (v ≤ (-1)))) = true then fixed (atT t 7).n 4 else [])) ++ (((if (decide (7 ≤ v) && (decide ((-1 : Int) < 0) || decide (v ≤ (-1)))) = true then fixed (atT t 8).n 4 else [])) ++ ((arA fx (lsT (atT t 9)).length ++ (lsT (atT t 9)).flatMap (bFetchRequestTopic v fx)) ++ (((if (decide (7 ≤ v) && (decide ((-1 : Int) < 0) || decide (v ≤ (-1)))) = true then arA fx (lsT (atT t 10)).length ++ (lsT (atT t 10)).flatMap (bFetchRequestForgottenTopic v fx) else [])) ++ (((if (decide (11 ≤ v) && (decide ((-1 : Int) < 0) || decide (v ≤ (-1)))) = true then txA fx (atT t 11).s else [])) ++ ([]))))))))))) ++ (if fx = true then uvar ((gFetchRequest v fx t).length + (t).u.length) ++ ((gFetchRequest v fx t).flatMap tagB ++ (t).u.flatMap tagB) else [])
theorem bFetchRequest_eq {v : Int} {fx : Bool} {t : T} (hv : 0 ≤ v) (hok : partOK 9 v dFetchRequest t) : partA 9 v fx dFetchRequest t = bFetchRequest v fx t := by
  unfold partA partAW bFetchRequest
  have hg : tagL (fieldA 9 v fx) ncB t 0 dFetchRequest = gFetchRequest v fx t := by
    unfold gFetchRequest
    have hf := hok.1 0 _ rfl
    rw [tagL_one (k := 0) (pc := ntA fx (atT t 0).nl (atT t 0).s) (by decide) fun hu => ?_]
    rotate_left
    · exact nt_eq hf (by decide) (.inr hv)
    rw [tagL_skip (by decide)]
    have hf := hok.1 2 _ rfl
    rw [tagL_one (k := 1) (pc := bFetchRequestReplicaState v fx (atT t 2)) (by decide) fun hu => ?_]
    rotate_left
    · exact (show fieldA 9 v fx (.mk 10 0 (-1) (-1) 1 0 0 dFetchRequestReplicaState) (atT t 2) = partA 8 v fx dFetchRequestReplicaState (atT t 2) from rfl).trans (bFetchRequestReplicaState_eq hv (fieldOK_part hf))
    rw [tagL_skip (by decide)]
    rw [tagL_skip (by decide)]
    rw [tagL_skip (by decide)]
    rw [tagL_skip (by decide)]
    rw [tagL_skip (by decide)]
    rw [tagL_skip (by decide)]
    rw [tagL_skip (by decide)]
    rw [tagL_skip (by decide)]
    rw [tagL_skip (by decide)]
    rfl
  unfold tgA
  rw [if_neg (by decide), hg]
  rw [plainW_tag (by decide)]
  have hf := hok.1 1 _ rfl
  rw [plainW_ver]
  rw [plainW_tag (by decide)]
  have hf := hok.1 3 _ rfl
  rw [plainW_all hv]
  have hf := hok.1 4 _ rfl
  rw [plainW_all hv]
  have hf := hok.1 5 _ rfl
  rw [plainW_ver]
  have hf := hok.1 6 _ rfl
  rw [plainW_ver]
  have hf := hok.1 7 _ rfl
  rw [plainW_ver]
  have hf := hok.1 8 _ rfl
  rw [plainW_ver]
  have hf := hok.1 9 _ rfl
  rw [plainW_all hv]
  rw [ar_eq (g := (bFetchRequestTopic v fx)) hf fun y hy => bFetchRequestTopic_eq hv ((lsT_ok hf y hy).2.2 rfl)]
  have hf := hok.1 10 _ rfl
  rw [plainW_ver]
  rw [ar_eq (g := (bFetchRequestForgottenTopic v fx)) hf fun y hy => bFetchRequestForgottenTopic_eq hv ((lsT_ok hf y hy).2.2 rfl)]
  have hf := hok.1 11 _ rfl
  rw [plainW_ver]
  rw [tx_eq hf]
  rfl
theorem dfltFetchRequestReplicaState {w : World} : Does X.P 113 #[] w fun r w' => r = .agg #[.int .i32 (-1), .int .i64 (-1), .map none] ∧ Ext nob w w' := by
  refine Does.go (X := X) (l := []) Tryz.func113 rfl (by kernel_rfl) (by kernel_rfl) _ rfl ?_
  ((conv=>whnf);repeat((first|refine mvT ?_|refine mvF ?_|refine yT ?_|refine yF ?_);conv=>whnf))
  intro b0 w1 hb0 ho0 hx1
  ((conv=>whnf);repeat((first|refine mvT ?_|refine mvF ?_|refine yT ?_|refine yF ?_);conv=>whnf))
  intro b1 w2 hb1 ho1 hx2
  ((conv=>whnf);repeat((first|refine mvT ?_|refine mvF ?_|refine yT ?_|refine yF ?_);conv=>whnf))
  have h01 : b0 ≠ b1 := by have := ho0.lt; omega
  refine Does.mono (dfFetchRequestReplicaState (pre := []) (cur := [.int .i32 0, .int .i64 0, .map none]) (post := []) (by simpa using ho1) rfl rfl) ?_
  rintro r w3 ⟨ho3, hx3⟩
  ((conv=>whnf);repeat((first|refine mvT ?_|refine mvF ?_|refine yT ?_|refine yF ?_);conv=>whnf))
  have ho3 : Own w3 b1 68 [.int .i32 (-1), .int .i64 (-1), .map none] := by simpa using ho3
  refine ⟨_, rfl, ho3.cells, ?_⟩
  ((conv=>whnf);repeat((first|refine mvT ?_|refine mvF ?_|refine yT ?_|refine yF ?_);conv=>whnf))
  have ho03 := (ho0.e0 hx2).ext hx3 h01
  refine st_all [.int .i32 (-1), .int .i64 (-1), .map none] ho03 rfl rfl rfl ?_
  intro w4 ho4 hx4
  ((conv=>whnf);repeat((first|refine mvT ?_|refine mvF ?_|refine yT ?_|refine yF ?_);conv=>whnf))
  refine ⟨_, rfl, ho4.cells, ?_⟩
  exact ⟨rfl, ((hx1.e0 hx2).trans hx3 fun k hk e => by have := hx1.size; omega).trans hx4 fun k hk e => by have := hx1.size; omega⟩
theorem sameFetchRequestReplicaState {w : World} {F : Nat → Prop} {m : Value} {t : T} (hm : TagsR w F m t.u) : Does X.P 112 #[.agg #[.int .i32 (IntKind.i32.wrap (atT t 0).n), .int .i64 (IntKind.i64.wrap (atT t 1).n), m], .agg #[.int .i32 (-1), .int .i64 (-1), .map none]] w fun r w' => r = .bool (ncB (.mk 10 0 (-1) (-1) 1 0 0 dFetchRequestReplicaState) t) ∧ Ext nob w w' := by
  refine Does.go (X := X) (l := [_, _]) Tryz.func112 rfl (by kernel_rfl) (by kernel_rfl) _ rfl ?_
  ((conv=>whnf);repeat((first|refine mvT ?_|refine mvF ?_|refine yT ?_|refine yF ?_);conv=>whnf))
  intro b1 w1 hb1 ho1 hx1
  ((conv=>whnf);repeat((first|refine mvT ?_|refine mvF ?_|refine yT ?_|refine yF ?_);conv=>whnf))
  intro b2 w2 hb2 ho2 hx2
  ((conv=>whnf);repeat((first|refine mvT ?_|refine mvF ?_|refine yT ?_|refine yF ?_);conv=>whnf))
  have ho12 := ho1.e0 hx2
  have hx02 := hx1.e0 hx2
  refine ldS (ho12.cell rfl) ?_;((conv=>whnf);repeat((first|refine mvT ?_|refine mvF ?_|refine yT ?_|refine yF ?_);conv=>whnf))
  refine ldS (ho2.cell rfl) ?_;((conv=>whnf);repeat((first|refine mvT ?_|refine mvF ?_|refine yT ?_|refine yF ?_);conv=>whnf))
  intro cq0 hcq0
  have e0 : decide (numK 3 (atT t 0).n = (-1)) = cq0 := hcq0
  cases cq0 with
  | false =>
    ((conv=>whnf);repeat((first|refine mvT ?_|refine mvF ?_|refine yT ?_|refine yF ?_);conv=>whnf))
    exact ⟨by show Value.bool false = .bool ((decide (numK 3 (atT t 0).n = (-1)) && (decide (numK 4 (atT t 1).n = (-1)) && (true))) && t.u.isEmpty); rw [e0]; simp, hx02⟩
  | true =>
    ((conv=>whnf);repeat((first|refine mvT ?_|refine mvF ?_|refine yT ?_|refine yF ?_);conv=>whnf))
    refine ldS (ho12.cell rfl) ?_;((conv=>whnf);repeat((first|refine mvT ?_|refine mvF ?_|refine yT ?_|refine yF ?_);conv=>whnf))
    refine ldS (ho2.cell rfl) ?_;((conv=>whnf);repeat((first|refine mvT ?_|refine mvF ?_|refine yT ?_|refine yF ?_);conv=>whnf))
    intro cq1 hcq1
    have e1 : decide (numK 4 (atT t 1).n = (-1)) = cq1 := hcq1
    cases cq1 with
    | false =>
      ((conv=>whnf);repeat((first|refine mvT ?_|refine mvF ?_|refine yT ?_|refine yF ?_);conv=>whnf))
      exact ⟨by show Value.bool false = .bool ((decide (numK 3 (atT t 0).n = (-1)) && (decide (numK 4 (atT t 1).n = (-1)) && (true))) && t.u.isEmpty); rw [e0, e1]; simp, hx02⟩
    | true =>
      ((conv=>whnf);repeat((first|refine mvT ?_|refine mvF ?_|refine yT ?_|refine yF ?_);conv=>whnf))
      refine ⟨[m], rfl, Cells.sub ho12.cells 2 1 rfl, ?_⟩
      ((conv=>whnf);repeat((first|refine mvT ?_|refine mvF ?_|refine yT ?_|refine yF ?_);conv=>whnf))
      refine ⟨[.map none], rfl, Cells.sub ho2.cells 2 1 rfl, ?_⟩
      ((conv=>whnf);repeat((first|refine mvT ?_|refine mvF ?_|refine yT ?_|refine yF ?_);conv=>whnf))
      refine Does.mono (Tags_same_does (hm.ext hx02 fun _ _ _ f => f)) ?_;rintro rs ws ⟨rfl, hxs⟩;((conv=>whnf);repeat((first|refine mvT ?_|refine mvF ?_|refine yT ?_|refine yF ?_);conv=>whnf))
      exact ⟨by show Value.bool _ = .bool ((decide (numK 3 (atT t 0).n = (-1)) && (decide (numK 4 (atT t 1).n = (-1)) && (true))) && t.u.isEmpty); rw [e0, e1]; simp, hx02.e0 hxs⟩
theorem appFetchRequest {F : Nat → Prop} {w0 : World} {p B : Nat} {ty : TypeId} {v : Int} {x c0 c2_0 c2_1 c2_2 c9 c10 m : Value} {l : List UInt8} {t : T} (hp : Own w0 p ty [.int .i16 v, c0, .int .i32 (IntKind.i32.wrap (atT t 1).n), c2_0, c2_1, c2_2, .int .i32 (IntKind.i32.wrap (atT t 3).n), .int .i32 (IntKind.i32.wrap (atT t 4).n), .int .i32 (IntKind.i32.wrap (atT t 5).n), .int .i8 (IntKind.i8.wrap (atT t 6).n), .int .i32 (IntKind.i32.wrap (atT t 7).n), .int .i32 (IntKind.i32.wrap (atT t 8).n), c9, c10, str (atT t 11).s, m]) (hc0 : NTextR w0 F c0 (atT t 0)) (hc2 : rFetchRequestReplicaState w0 F [c2_0, c2_1, c2_2] (atT t 2)) (hc9 : ListR true 19 (rFetchRequestTopic w0 F) w0 F c9 (atT t 9)) (hc10 : ListR true 19 (rFetchRequestForgottenTopic w0 F) w0 F c10 (atT t 10)) (hm : TagsR w0 F m t.u) (hok : partOK 9 v dFetchRequest t)
    (hF : ∀ j, j < w0.heap.size → F j → x.ownBlock ≠ some j) (hxp : x.ownBlock ≠ some p) (hx : OB w0 B x l) (hB : B ≤ w0.heap.size) (hv : 0 ≤ v) (hl : l.length + (bFetchRequest v (decide (v ≥ 12)) t).length ≤ 100000000000000) (hs32 : (bFetchRequest v (decide (v ≥ 12)) t).length < 4294967296) :
    Does X.P 99 #[.pointer (some ⟨p, 0, none⟩), x] w0 fun r w' => Apd w0 B x l (bFetchRequest v (decide (v ≥ 12)) t) r w' := by
  have hpl := hp.lt
  obtain ⟨fx, hfx⟩ : ∃ fx, fx = decide (v ≥ 12) := ⟨_, rfl⟩
  rw [← hfx] at hl hs32 ⊢
  unfold bFetchRequest at hl hs32
  simp only [List.length_append, List.length_nil] at hl hs32
  obtain ⟨F0, hFR, hFx, hcs⟩ : ∃ F0 : Nat → Prop, (∀ j, F0 j → j < w0.heap.size ∧ x.ownBlock ≠ some j) ∧ (∀ j, j < w0.heap.size → F0 j → ¬ x.ownBlock = some j) ∧ (NTextR w0 F0 c0 (atT t 0) ∧ rFetchRequestReplicaState w0 F0 [c2_0, c2_1, c2_2] (atT t 2) ∧ ListR true 19 (rFetchRequestTopic w0 F0) w0 F0 c9 (atT t 9) ∧ ListR true 19 (rFetchRequestForgottenTopic w0 F0) w0 F0 c10 (atT t 10) ∧ TagsR w0 F0 m t.u) :=
    ⟨fun j => F j ∧ j < w0.heap.size, fun j h => ⟨h.2, hF j h.2 h.1⟩, fun j _ h => hF j h.2 h.1, hc0.mono (fun k h1 h2 => ⟨h2, h1⟩), rFetchRequestReplicaState_mono hc2 (fun k h1 h2 => ⟨h2, h1⟩), hc9.mono (fun k h1 h2 => ⟨h2, h1⟩) (fun _ _ h => rFetchRequestTopic_mono h fun k h1 h2 => ⟨h2, h1⟩), hc10.mono (fun k h1 h2 => ⟨h2, h1⟩) (fun _ _ h => rFetchRequestForgottenTopic_mono h fun k h1 h2 => ⟨h2, h1⟩), hm.mono fun k h1 h2 => ⟨h2, h1⟩⟩
  clear hm hc0 hc2 hc9 hc10 hF
  obtain ⟨hc0, hc2, hc9, hc10, hm⟩ := hcs
  obtain ⟨a9, k9, l9, rfl, hkm9, hll9, hnn9, hcl9, hrl9⟩ := hc9.view
  obtain ⟨a10, k10, l10, rfl, hkm10, hll10, hnn10, hcl10, hrl10⟩ := hc10.view
  have hA := Apd.start hx
  obtain ⟨m0, hm0⟩ : ∃ m0 : List UInt8, m0 = [] := ⟨_, rfl⟩
  rw [← hm0] at hA
  have hl0 : m0.length = 0 := by rw [hm0]; rfl
  refine Does.go (X := X) (l := [_, _]) Tryz.func99 rfl (by kernel_rfl) (by kernel_rfl) _ rfl ?_
  ((conv=>whnf);repeat((first|refine mvT ?_|refine mvF ?_|refine yT ?_|refine yF ?_);conv=>whnf))
  refine ldS (hp.cell rfl) ?_;((conv=>whnf);repeat((first|refine mvT ?_|refine mvF ?_|refine yT ?_|refine yF ?_);conv=>whnf))
  rw [← hfx]
  (refine mvB ?_;((conv=>whnf);repeat((first|refine mvT ?_|refine mvF ?_|refine yT ?_|refine yF ?_);conv=>whnf)))
  intro cq hcq
  obtain rfl : cq = true := by rw [← hcq]; exact decide_eq_true hv
  ((conv=>whnf);repeat((first|refine mvT ?_|refine mvF ?_|refine yT ?_|refine yF ?_);conv=>whnf))
  refine VC.cutE (fun r => [(1, r), (0, .pointer (some ⟨p, 0, none⟩)), (5, .int .i16 v), (6, .bool fx)]) (fun r w' => Apd w0 B x l (m0 ++ ((if (decide (0 ≤ v) && (decide ((14 : Int) < 0) || decide (v ≤ 14))) = true then fixed (atT t 1).n 4 else []))) r w') ?_ ?_
  · refine cI (by rfl) (fun hcv=>?_) (fun hcv=>?_)
    · ((conv=>whnf);repeat((first|refine mvT ?_|refine mvF ?_|refine yT ?_|refine yF ?_);conv=>whnf))
      refine ldS ((hp.ext hA.ext hxp).cell rfl) ?_;((conv=>whnf);repeat((first|refine mvT ?_|refine mvF ?_|refine yT ?_|refine yF ?_);conv=>whnf))
      refine Does.mono (AppendInt32_does hA.ob (Nat.le_trans hB hA.size) (by simp only [List.length_append]; omega) _) ?_;rintro r w h;((conv=>whnf);repeat((first|refine mvT ?_|refine mvF ?_|refine yT ?_|refine yF ?_);conv=>whnf))
      rw [fixed4_mod (wrap_i32m _)] at h
      replace hA := hA.tr h
      clear h
      generalize hm1 : m0 ++ (fixed (atT t 1).n 4) = m1 at hA
      have hl1 : m1.length = m0.length + (fixed (atT t 1).n 4).length := by rw [← hm1, List.length_append]
      refine ⟨_, ⟨rfl, rfl, rfl, rfl, trivial⟩, ?_⟩
      rw [if_pos (by simp only [ge_iff_le, decide_eq_true_eq] at hcv; simp; omega)]
      rw [hm1]
      exact hA
    · ((conv=>whnf);repeat((first|refine mvT ?_|refine mvF ?_|refine yT ?_|refine yF ?_);conv=>whnf))
      refine ⟨_, ⟨rfl, rfl, rfl, rfl, trivial⟩, ?_⟩
      rw [if_neg (by simp only [ge_iff_le, decide_eq_false_iff_not] at hcv; simp; omega), List.append_nil]
      exact hA
  clear hA
  rintro r w hA
  ((conv=>whnf);repeat((first|refine mvT ?_|refine mvF ?_|refine yT ?_|refine yF ?_);conv=>whnf))
  generalize hm1 : m0 ++ ((if (decide (0 ≤ v) && (decide ((14 : Int) < 0) || decide (v ≤ 14))) = true then fixed (atT t 1).n 4 else [])) = m1 at hA
  have hl1 : m1.length = m0.length + ((if (decide (0 ≤ v) && (decide ((14 : Int) < 0) || decide (v ≤ 14))) = true then fixed (atT t 1).n 4 else [])).length := by rw [← hm1, List.length_append]
  refine ldS ((hp.ext hA.ext hxp).cell rfl) ?_;((conv=>whnf);repeat((first|refine mvT ?_|refine mvF ?_|refine yT ?_|refine yF ?_);conv=>whnf))
  refine Does.mono (AppendInt32_does hA.ob (Nat.le_trans hB hA.size) (by simp only [List.length_append]; omega) _) ?_;rintro r w h;((conv=>whnf);repeat((first|refine mvT ?_|refine mvF ?_|refine yT ?_|refine yF ?_);conv=>whnf))
  rw [fixed4_mod (wrap_i32m _)] at h
  replace hA := hA.tr h
  clear h
  generalize hm2 : m1 ++ (fixed (atT t 3).n 4) = m2 at hA
  have hl2 : m2.length = m1.length + (fixed (atT t 3).n 4).length := by rw [← hm2, List.length_append]
  refine ldS ((hp.ext hA.ext hxp).cell rfl) ?_;((conv=>whnf);repeat((first|refine mvT ?_|refine mvF ?_|refine yT ?_|refine yF ?_);conv=>whnf))
  refine Does.mono (AppendInt32_does hA.ob (Nat.le_trans hB hA.size) (by simp only [List.length_append]; omega) _) ?_;rintro r w h;((conv=>whnf);repeat((first|refine mvT ?_|refine mvF ?_|refine yT ?_|refine yF ?_);conv=>whnf))
  rw [fixed4_mod (wrap_i32m _)] at h
  replace hA := hA.tr h
  clear h
  generalize hm3 : m2 ++ (fixed (atT t 4).n 4) = m3 at hA
  have hl3 : m3.length = m2.length + (fixed (atT t 4).n 4).length := by rw [← hm3, List.length_append]
  refine VC.cutE (fun r => [(1, r), (0, .pointer (some ⟨p, 0, none⟩)), (5, .int .i16 v), (6, .bool fx)]) (fun r w' => Apd w0 B x l (m3 ++ ((if (decide (3 ≤ v) && (decide ((-1 : Int) < 0) || decide (v ≤ (-1)))) = true then fixed (atT t 5).n 4 else []))) r w') ?_ ?_
  · refine cI (by rfl) (fun hcv=>?_) (fun hcv=>?_)
    · ((conv=>whnf);repeat((first|refine mvT ?_|refine mvF ?_|refine yT ?_|refine yF ?_);conv=>whnf))
      refine ldS ((hp.ext hA.ext hxp).cell rfl) ?_;((conv=>whnf);repeat((first|refine mvT ?_|refine mvF ?_|refine yT ?_|refine yF ?_);conv=>whnf))
      refine Does.mono (AppendInt32_does hA.ob (Nat.le_trans hB hA.size) (by simp only [List.length_append]; omega) _) ?_;rintro r w h;((conv=>whnf);repeat((first|refine mvT ?_|refine mvF ?_|refine yT ?_|refine yF ?_);conv=>whnf))
      rw [fixed4_mod (wrap_i32m _)] at h
      replace hA := hA.tr h
      clear h
      generalize hm4 : m3 ++ (fixed (atT t 5).n 4) = m4 at hA
      have hl4 : m4.length = m3.length + (fixed (atT t 5).n 4).length := by rw [← hm4, List.length_append]
      refine ⟨_, ⟨rfl, rfl, rfl, rfl, trivial⟩, ?_⟩
      rw [if_pos (by simp only [ge_iff_le, decide_eq_true_eq] at hcv; simp; omega)]
      rw [hm4]
      exact hA
    · ((conv=>whnf);repeat((first|refine mvT ?_|refine mvF ?_|refine yT ?_|refine yF ?_);conv=>whnf))
      refine ⟨_, ⟨rfl, rfl, rfl, rfl, trivial⟩, ?_⟩
      rw [if_neg (by simp only [ge_iff_le, decide_eq_false_iff_not] at hcv; simp; omega), List.append_nil]
      exact hA
  clear hA
  rintro r w hA
  ((conv=>whnf);repeat((first|refine mvT ?_|refine mvF ?_|refine yT ?_|refine yF ?_);conv=>whnf))
  generalize hm4 : m3 ++ ((if (decide (3 ≤ v) && (decide ((-1 : Int) < 0) || decide (v ≤ (-1)))) = true then fixed (atT t 5).n 4 else [])) = m4 at hA
  have hl4 : m4.length = m3.length + ((if (decide (3 ≤ v) && (decide ((-1 : Int) < 0) || decide (v ≤ (-1)))) = true then fixed (atT t 5).n 4 else [])).length := by rw [← hm4, List.length_append]
  refine VC.cutE (fun r => [(1, r), (0, .pointer (some ⟨p, 0, none⟩)), (5, .int .i16 v), (6, .bool fx)]) (fun r w' => Apd w0 B x l (m4 ++ ((if (decide (4 ≤ v) && (decide ((-1 : Int) < 0) || decide (v ≤ (-1)))) = true then fixed (atT t 6).n 1 else []))) r w') ?_ ?_
  · refine cI (by rfl) (fun hcv=>?_) (fun hcv=>?_)
    · ((conv=>whnf);repeat((first|refine mvT ?_|refine mvF ?_|refine yT ?_|refine yF ?_);conv=>whnf))
      refine ldS ((hp.ext hA.ext hxp).cell rfl) ?_;((conv=>whnf);repeat((first|refine mvT ?_|refine mvF ?_|refine yT ?_|refine yF ?_);conv=>whnf))
      refine Does.mono (AppendInt8_does hA.ob (Nat.le_trans hB hA.size) (by simp only [List.length_append]; omega) _) ?_;rintro r w h;((conv=>whnf);repeat((first|refine mvT ?_|refine mvF ?_|refine yT ?_|refine yF ?_);conv=>whnf))
      rw [fixed1_mod (wrap_i8m _)] at h
      replace hA := hA.tr h
      clear h
      generalize hm5 : m4 ++ (fixed (atT t 6).n 1) = m5 at hA
      have hl5 : m5.length = m4.length + (fixed (atT t 6).n 1).length := by rw [← hm5, List.length_append]
      refine ⟨_, ⟨rfl, rfl, rfl, rfl, trivial⟩, ?_⟩
      rw [if_pos (by simp only [ge_iff_le, decide_eq_true_eq] at hcv; simp; omega)]
      rw [hm5]
      exact hA
    · ((conv=>whnf);repeat((first|refine mvT ?_|refine mvF ?_|refine yT ?_|refine yF ?_);conv=>whnf))
      refine ⟨_, ⟨rfl, rfl, rfl, rfl, trivial⟩, ?_⟩
      rw [if_neg (by simp only [ge_iff_le, decide_eq_false_iff_not] at hcv; simp; omega), List.append_nil]
      exact hA
  clear hA
  rintro r w hA
  ((conv=>whnf);repeat((first|refine mvT ?_|refine mvF ?_|refine yT ?_|refine yF ?_);conv=>whnf))
  generalize hm5 : m4 ++ ((if (decide (4 ≤ v) && (decide ((-1 : Int) < 0) || decide (v ≤ (-1)))) = true then fixed (atT t 6).n 1 else [])) = m5 at hA
  have hl5 : m5.length = m4.length + ((if (decide (4 ≤ v) && (decide ((-1 : Int) < 0) || decide (v ≤ (-1)))) = true then fixed (atT t 6).n 1 else [])).length := by rw [← hm5, List.length_append]
  refine VC.cutE (fun r => [(1, r), (0, .pointer (some ⟨p, 0, none⟩)), (5, .int .i16 v), (6, .bool fx)]) (fun r w' => Apd w0 B x l (m5 ++ ((if (decide (7 ≤ v) && (decide ((-1 : Int) < 0) || decide (v ≤ (-1)))) = true then fixed (atT t 7).n 4 else []))) r w') ?_ ?_
  · refine cI (by rfl) (fun hcv=>?_) (fun hcv=>?_)
    · ((conv=>whnf);repeat((first|refine mvT ?_|refine mvF ?_|refine yT ?_|refine yF ?_);conv=>whnf))
      refine ldS ((hp.ext hA.ext hxp).cell rfl) ?_;((conv=>whnf);repeat((first|refine mvT ?_|refine mvF ?_|refine yT ?_|refine yF ?_);conv=>whnf))
      refine Does.mono (AppendInt32_does hA.ob (Nat.le_trans hB hA.size) (by simp only [List.length_append]; omega) _) ?_;rintro r w h;((conv=>whnf);repeat((first|refine mvT ?_|refine mvF ?_|refine yT ?_|refine yF ?_);conv=>whnf))
      rw [fixed4_mod (wrap_i32m _)] at h
      replace hA := hA.tr h
      clear h
      generalize hm6 : m5 ++ (fixed (atT t 7).n 4) = m6 at hA
      have hl6 : m6.length = m5.length + (fixed (atT t 7).n 4).length := by rw [← hm6, List.length_append]
      refine ⟨_, ⟨rfl, rfl, rfl, rfl, trivial⟩, ?_⟩
      rw [if_pos (by simp only [ge_iff_le, decide_eq_true_eq] at hcv; simp; omega)]
      rw [hm6]
      exact hA
    · ((conv=>whnf);repeat((first|refine mvT ?_|refine mvF ?_|refine yT ?_|refine yF ?_);conv=>whnf))
      refine ⟨_, ⟨rfl, rfl, rfl, rfl, trivial⟩, ?_⟩
      rw [if_neg (by simp only [ge_iff_le, decide_eq_false_iff_not] at hcv; simp; omega), List.append_nil]
      exact hA
  clear hA
  rintro r w hA
  ((conv=>whnf);repeat((first|refine mvT ?_|refine mvF ?_|refine yT ?_|refine yF ?_);conv=>whnf))
  generalize hm6 : m5 ++ ((if (decide (7 ≤ v) && (decide ((-1 : Int) < 0) || decide (v ≤ (-1)))) = true then fixed (atT t 7).n 4 else [])) = m6 at hA
  have hl6 : m6.length = m5.length + ((if (decide (7 ≤ v) && (decide ((-1 : Int) < 0) || decide (v ≤ (-1)))) = true then fixed (atT t 7).n 4 else [])).length := by rw [← hm6, List.length_append]
  refine VC.cutE (fun r => [(1, r), (0, .pointer (some ⟨p, 0, none⟩)), (5, .int .i16 v), (6, .bool fx)]) (fun r w' => Apd w0 B x l (m6 ++ ((if (decide (7 ≤ v) && (decide ((-1 : Int) < 0) || decide (v ≤ (-1)))) = true then fixed (atT t 8).n 4 else []))) r w') ?_ ?_
  · refine cI (by rfl) (fun hcv=>?_) (fun hcv=>?_)
    · ((conv=>whnf);repeat((first|refine mvT ?_|refine mvF ?_|refine yT ?_|refine yF ?_);conv=>whnf))
      refine ldS ((hp.ext hA.ext hxp).cell rfl) ?_;((conv=>whnf);repeat((first|refine mvT ?_|refine mvF ?_|refine yT ?_|refine yF ?_);conv=>whnf))
      refine Does.mono (AppendInt32_does hA.ob (Nat.le_trans hB hA.size) (by simp only [List.length_append]; omega) _) ?_;rintro r w h;((conv=>whnf);repeat((first|refine mvT ?_|refine mvF ?_|refine yT ?_|refine yF ?_);conv=>whnf))
      rw [fixed4_mod (wrap_i32m _)] at h
      replace hA := hA.tr h
      clear h
      generalize hm7 : m6 ++ (fixed (atT t 8).n 4) = m7 at hA
      have hl7 : m7.length = m6.length + (fixed (atT t 8).n 4).length := by rw [← hm7, List.length_append]
      refine ⟨_, ⟨rfl, rfl, rfl, rfl, trivial⟩, ?_⟩
      rw [if_pos (by simp only [ge_iff_le, decide_eq_true_eq] at hcv; simp; omega)]
      rw [hm7]
      exact hA
    · ((conv=>whnf);repeat((first|refine mvT ?_|refine mvF ?_|refine yT ?_|refine yF ?_);conv=>whnf))
      refine ⟨_, ⟨rfl, rfl, rfl, rfl, trivial⟩, ?_⟩
      rw [if_neg (by simp only [ge_iff_le, decide_eq_false_iff_not] at hcv; simp; omega), List.append_nil]
      exact hA
  clear hA
  rintro r w hA
  ((conv=>whnf);repeat((first|refine mvT ?_|refine mvF ?_|refine yT ?_|refine yF ?_);conv=>whnf))
  generalize hm7 : m6 ++ ((if (decide (7 ≤ v) && (decide ((-1 : Int) < 0) || decide (v ≤ (-1)))) = true then fixed (atT t 8).n 4 else [])) = m7 at hA
  have hl7 : m7.length = m6.length + ((if (decide (7 ≤ v) && (decide ((-1 : Int) < 0) || decide (v ≤ (-1)))) = true then fixed (atT t 8).n 4 else [])).length := by rw [← hm7, List.length_append]
  refine ldS ((hp.ext hA.ext hxp).cell rfl) ?_;((conv=>whnf);repeat((first|refine mvT ?_|refine mvF ?_|refine yT ?_|refine yF ?_);conv=>whnf))
  have hml9 := lsT_len (hok.1 9 _ rfl)
  (refine mvB ?_;((conv=>whnf);repeat((first|refine mvT ?_|refine mvF ?_|refine yT ?_|refine yF ?_);conv=>whnf)))
  refine VC.cutE (fun r => [(1, r), (0, .pointer (some ⟨p, 0, none⟩)), (5, .int .i16 v), (6, .bool fx), (14, .slice a9 l9.length k9)]) (fun r w' => Apd w0 B x l (m7 ++ (arA fx (lsT (atT t 9)).length)) r w') ?_ ?_
  · refine cI (by rfl) (fun hc=>?_) (fun hc=>?_)
    · ((conv=>whnf);repeat((first|refine mvT ?_|refine mvF ?_|refine yT ?_|refine yF ?_);conv=>whnf))
      refine Does.mono (AppendCompactArrayLen_does hA.ob (Nat.le_trans hB hA.size) (by simp only [List.length_append]; omega) l9.length (by omega)) ?_;rintro r w h;((conv=>whnf);repeat((first|refine mvT ?_|refine mvF ?_|refine yT ?_|refine yF ?_);conv=>whnf))
      rw [hll9] at h
      replace hA := hA.tr h
      clear h
      refine ⟨_, ⟨rfl, rfl, rfl, rfl, rfl, trivial⟩, ?_⟩
      rw [hc]
      exact hA
    · ((conv=>whnf);repeat((first|refine mvT ?_|refine mvF ?_|refine yT ?_|refine yF ?_);conv=>whnf))
      refine Does.mono (AppendArrayLen_does hA.ob (Nat.le_trans hB hA.size) (by simp only [List.length_append]; omega) l9.length) ?_;rintro r w h;((conv=>whnf);repeat((first|refine mvT ?_|refine mvF ?_|refine yT ?_|refine yF ?_);conv=>whnf))
      rw [hll9] at h
      replace hA := hA.tr h
      clear h
      refine ⟨_, ⟨rfl, rfl, rfl, rfl, rfl, trivial⟩, ?_⟩
      rw [hc]
      exact hA
  clear hA
  rintro r w hA
  ((conv=>whnf);repeat((first|refine mvT ?_|refine mvF ?_|refine yT ?_|refine yF ?_);conv=>whnf))
  generalize hm8 : m7 ++ (arA fx (lsT (atT t 9)).length) = m8 at hA
  have hl8 : m8.length = m7.length + (arA fx (lsT (atT t 9)).length).length := by rw [← hm8, List.length_append]
  refine VL.loop (fun s : Nat × Value => [(1, s.2), (0, .pointer (some ⟨p, 0, none⟩)), (5, .int .i16 v), (6, .bool fx), (14, .slice a9 l9.length k9), (137, .slice a9 l9.length k9), (138, .int .i64 l9.length), (139, .int .i64 s.1)])
    (fun s w' => s.1 ≤ l9.length ∧ Apd w0 B x l (m8 ++ ((lsT (atT t 9)).take s.1).flatMap (bFetchRequestTopic v fx)) s.2 w') (fun s => l9.length - s.1) (0, r) ⟨rfl, rfl, rfl, rfl, rfl, rfl, rfl, rfl, trivial⟩ ⟨Nat.zero_le _, by rw [List.take_zero, List.flatMap_nil, List.append_nil]; exact hA⟩ ?_
  clear hA
  rintro ⟨i1, r⟩ w ⟨hi1, hA⟩
  dsimp only at hi1 hA
  ((conv=>whnf);repeat((first|refine mvT ?_|refine mvF ?_|refine yT ?_|refine yF ?_);conv=>whnf))
  refine cI (by rfl) (fun h9=>?_) (fun h9=>?_)
  · have hil : i1 < l9.length := by have := of_decide_eq_true h9; simp only at this; omega
    have hiL1 : i1 < (lsT (atT t 9)).length := by omega
    obtain ⟨hft, hfl⟩ := flat_take (bFetchRequestTopic v fx) (lsT (atT t 9)) i1 hiL1
    obtain ⟨b9, o9, rfl, hF9, hb9, hce9⟩ := hcl9 i1 l9[i1] (by simp [hil])
    have hre9 := hrl9 i1 l9[i1] ((lsT (atT t 9))[i1]) (by simp [hil]) (by simp [hiL1])
    have hlo9 := lsT_ok (hok.1 9 _ rfl) ((lsT (atT t 9))[i1]) (List.getElem_mem hiL1)
    generalize hm9 : m8 ++ ((lsT (atT t 9)).take i1).flatMap (bFetchRequestTopic v fx) = m9 at hA
    have hl9 : m9.length = m8.length + (((lsT (atT t 9)).take i1).flatMap (bFetchRequestTopic v fx)).length := by rw [← hm9, List.length_append]
    obtain ⟨x1, hx1⟩ : ∃ y, y = (lsT (atT t 9))[i1] := ⟨_, rfl⟩
    rw [← hx1] at hft hfl hre9 hlo9
    obtain ⟨u1_1_0, u1_1_1, u1_1_2, u1_1_3, u1_1_4, u1_1_5, u1_1_6, u1_1_7, u1_1_8, u1_1_9, u1_1_10, u1_1_11, u1_1_12, u1_1_13, u1_1_14, u1_1_15, c1_2, m1_, hcells, hc1_1, hc1_2, hm1_⟩ := hre9
    rw [hcells] at hce9
    have hok1_ := hlo9.2.2 rfl
    obtain ⟨a1_2, k1_2, l1_2, rfl, hkm1_2, hll1_2, hnn1_2, hcl1_2, hrl1_2⟩ := hc1_2.view
    have hgl : (bFetchRequestTopic v fx x1).length = (bFetchRequestTopic v fx x1).length := rfl
    conv at hgl => rhs; unfold bFetchRequestTopic
    simp only [List.length_append, List.length_nil] at hgl
    ((conv=>whnf);repeat((first|refine mvT ?_|refine mvF ?_|refine yT ?_|refine yF ?_);conv=>whnf))
    refine ⟨b9, o9, rfl, ⟨by omega, by omega⟩, ?_⟩
    ((conv=>whnf);repeat((first|refine mvT ?_|refine mvF ?_|refine yT ?_|refine yF ?_);conv=>whnf))
    intro cq hcq
    obtain rfl : cq = true := by rw [← hcq]; exact decide_eq_true hv
    ((conv=>whnf);repeat((first|refine mvT ?_|refine mvF ?_|refine yT ?_|refine yF ?_);conv=>whnf))
    refine VC.cutE (fun r => [(1, r), (0, .pointer (some ⟨p, 0, none⟩)), (5, .int .i16 v), (6, .bool fx), (14, .slice (some ⟨b9, o9, none⟩) l9.length k9), (137, .slice (some ⟨b9, o9, none⟩) l9.length k9), (138, .int .i64 l9.length), (139, .int .i64 i1), (16, .pointer (some ⟨b9, o9 + i1 * 19, none⟩))]) (fun r w' => Apd w0 B x l (m9 ++ ((if (decide (0 ≤ v) && (decide ((12 : Int) < 0) || decide (v ≤ 12))) = true then txA fx (atT x1 0).s else []))) r w') ?_ ?_
    · refine cI (by rfl) (fun hcv=>?_) (fun hcv=>?_)
      · ((conv=>whnf);repeat((first|refine mvT ?_|refine mvF ?_|refine yT ?_|refine yF ?_);conv=>whnf))
        refine ⟨_, ld ((hce9.ext hA.ext (hFx _ hb9 hF9)).cell (j := 0) rfl) (by simp <;> omega), ?_⟩; ((conv=>whnf);repeat((first|refine mvT ?_|refine mvF ?_|refine yT ?_|refine yF ?_);conv=>whnf))
        have hsl := fieldOK_text (hok1_.1 0 _ rfl)
        (refine mvB ?_;((conv=>whnf);repeat((first|refine mvT ?_|refine mvF ?_|refine yT ?_|refine yF ?_);conv=>whnf)))
        refine cI (by rfl) (fun hc=>?_) (fun hc=>?_)
        · ((conv=>whnf);repeat((first|refine mvT ?_|refine mvF ?_|refine yT ?_|refine yF ?_);conv=>whnf))
          refine Does.mono (AppendCompactString_does hA.ob (Nat.le_trans hB hA.size) _ (by omega) (by simp only [List.length_append]; omega)) ?_;rintro r w h;((conv=>whnf);repeat((first|refine mvT ?_|refine mvF ?_|refine yT ?_|refine yF ?_);conv=>whnf))
          replace hA := hA.tr h
          clear h
          refine ⟨_, ⟨rfl, rfl, rfl, rfl, rfl, rfl, rfl, rfl, rfl, trivial⟩, ?_⟩
          rw [if_pos (by simp only [ge_iff_le, decide_eq_true_eq] at hcv; simp; omega), hc]
          exact hA
        · ((conv=>whnf);repeat((first|refine mvT ?_|refine mvF ?_|refine yT ?_|refine yF ?_);conv=>whnf))
          refine Does.mono (AppendString_does hA.ob (Nat.le_trans hB hA.size) _ (by simp only [List.length_append]; omega)) ?_;rintro r w h;((conv=>whnf);repeat((first|refine mvT ?_|refine mvF ?_|refine yT ?_|refine yF ?_);conv=>whnf))
          replace hA := hA.tr h
          clear h
          refine ⟨_, ⟨rfl, rfl, rfl, rfl, rfl, rfl, rfl, rfl, rfl, trivial⟩, ?_⟩
          rw [if_pos (by simp only [ge_iff_le, decide_eq_true_eq] at hcv; simp; omega), hc]
          exact hA
      · ((conv=>whnf);repeat((first|refine mvT ?_|refine mvF ?_|refine yT ?_|refine yF ?_);conv=>whnf))
        refine ⟨_, ⟨rfl, rfl, rfl, rfl, rfl, rfl, rfl, rfl, rfl, trivial⟩, ?_⟩
        rw [if_neg (by simp only [ge_iff_le, decide_eq_false_iff_not] at hcv; simp; omega), List.append_nil]
        exact hA
    clear hA
    rintro r w hA
    ((conv=>whnf);repeat((first|refine mvT ?_|refine mvF ?_|refine yT ?_|refine yF ?_);conv=>whnf))
    generalize hm10 : m9 ++ ((if (decide (0 ≤ v) && (decide ((12 : Int) < 0) || decide (v ≤ 12))) = true then txA fx (atT x1 0).s else [])) = m10 at hA
    have hl10 : m10.length = m9.length + ((if (decide (0 ≤ v) && (decide ((12 : Int) < 0) || decide (v ≤ 12))) = true then txA fx (atT x1 0).s else [])).length := by rw [← hm10, List.length_append]
    refine VC.cutE (fun r => [(1, r), (0, .pointer (some ⟨p, 0, none⟩)), (5, .int .i16 v), (6, .bool fx), (14, .slice (some ⟨b9, o9, none⟩) l9.length k9), (137, .slice (some ⟨b9, o9, none⟩) l9.length k9), (138, .int .i64 l9.length), (139, .int .i64 i1), (16, .pointer (some ⟨b9, o9 + i1 * 19, none⟩))]) (fun r w' => Apd w0 B x l (m10 ++ ((if (decide (13 ≤ v) && (decide ((-1 : Int) < 0) || decide (v ≤ (-1)))) = true then uuidB (atT x1 1).s else []))) r w') ?_ ?_
    · refine cI (by rfl) (fun hcv=>?_) (fun hcv=>?_)
      · ((conv=>whnf);repeat((first|refine mvT ?_|refine mvF ?_|refine yT ?_|refine yF ?_);conv=>whnf))
        refine ⟨_, rfl, Cells.sub2 (hce9.ext hA.ext (hFx _ hb9 hF9)) 1 16 rfl (by simp <;> omega), ?_⟩; ((conv=>whnf);repeat((first|refine mvT ?_|refine mvF ?_|refine yT ?_|refine yF ?_);conv=>whnf))
        intro bu wu hbu hou hxu
        ((conv=>whnf);repeat((first|refine mvT ?_|refine mvF ?_|refine yT ?_|refine yF ?_);conv=>whnf))
        refine st_all [bcell u1_1_0, bcell u1_1_1, bcell u1_1_2, bcell u1_1_3, bcell u1_1_4, bcell u1_1_5, bcell u1_1_6, bcell u1_1_7, bcell u1_1_8, bcell u1_1_9, bcell u1_1_10, bcell u1_1_11, bcell u1_1_12, bcell u1_1_13, bcell u1_1_14, bcell u1_1_15] hou rfl rfl rfl ?_
        intro wv hov hxv
        ((conv=>whnf);repeat((first|refine mvT ?_|refine mvF ?_|refine yT ?_|refine yF ?_);conv=>whnf))
        replace hA := hA.e0 ((Ext.refl nob _).trans (hxu.trans hxv (M' := fun k => k = bu) fun k hk e => by omega) fun _ _ h => h)
        refine ⟨_, rfl, hov.cells, ?_⟩
        ((conv=>whnf);repeat((first|refine mvT ?_|refine mvF ?_|refine yT ?_|refine yF ?_);conv=>whnf))
        refine Does.mono (AppendUuid_does (s := [u1_1_0, u1_1_1, u1_1_2, u1_1_3, u1_1_4, u1_1_5, u1_1_6, u1_1_7, u1_1_8, u1_1_9, u1_1_10, u1_1_11, u1_1_12, u1_1_13, u1_1_14, u1_1_15]) hA.ob (Nat.le_trans hB hA.size) (by simp only [List.length_append, List.length_cons, List.length_nil]; omega)) ?_;rintro r w h;((conv=>whnf);repeat((first|refine mvT ?_|refine mvF ?_|refine yT ?_|refine yF ?_);conv=>whnf))
        replace hA := hA.tr h
        clear h
        rw [← hc1_1] at hA
        generalize hm11 : m10 ++ (uuidB (atT x1 1).s) = m11 at hA
        have hl11 : m11.length = m10.length + (uuidB (atT x1 1).s).length := by rw [← hm11, List.length_append]
        refine ⟨_, ⟨rfl, rfl, rfl, rfl, rfl, rfl, rfl, rfl, rfl, trivial⟩, ?_⟩
        rw [if_pos (by simp only [ge_iff_le, decide_eq_true_eq] at hcv; simp; omega)]
        rw [hm11]
        exact hA
      · ((conv=>whnf);repeat((first|refine mvT ?_|refine mvF ?_|refine yT ?_|refine yF ?_);conv=>whnf))
        refine ⟨_, ⟨rfl, rfl, rfl, rfl, rfl, rfl, rfl, rfl, rfl, trivial⟩, ?_⟩
        rw [if_neg (by simp only [ge_iff_le, decide_eq_false_iff_not] at hcv; simp; omega), List.append_nil]
        exact hA
    clear hA
    rintro r w hA
    ((conv=>whnf);repeat((first|refine mvT ?_|refine mvF ?_|refine yT ?_|refine yF ?_);conv=>whnf))
    generalize hm11 : m10 ++ ((if (decide (13 ≤ v) && (decide ((-1 : Int) < 0) || decide (v ≤ (-1)))) = true then uuidB (atT x1 1).s else [])) = m11 at hA
    have hl11 : m11.length = m10.length + ((if (decide (13 ≤ v) && (decide ((-1 : Int) < 0) || decide (v ≤ (-1)))) = true then uuidB (atT x1 1).s else [])).length := by rw [← hm11, List.length_append]
    refine ⟨_, ld ((hce9.ext hA.ext (hFx _ hb9 hF9)).cell (j := 17) rfl) (by simp <;> omega), ?_⟩; ((conv=>whnf);repeat((first|refine mvT ?_|refine mvF ?_|refine yT ?_|refine yF ?_);conv=>whnf))
    have hml1_2 := lsT_len (hok1_.1 2 _ rfl)
    (refine mvB ?_;((conv=>whnf);repeat((first|refine mvT ?_|refine mvF ?_|refine yT ?_|refine yF ?_);conv=>whnf)))
    refine VC.cutE (fun r => [(1, r), (0, .pointer (some ⟨p, 0, none⟩)), (5, .int .i16 v), (6, .bool fx), (14, .slice (some ⟨b9, o9, none⟩) l9.length k9), (137, .slice (some ⟨b9, o9, none⟩) l9.length k9), (138, .int .i64 l9.length), (139, .int .i64 i1), (16, .pointer (some ⟨b9, o9 + i1 * 19, none⟩)), (19, .slice a1_2 l1_2.length k1_2)]) (fun r w' => Apd w0 B x l (m11 ++ (arA fx (lsT (atT x1 2)).length)) r w') ?_ ?_
    · refine cI (by rfl) (fun hc=>?_) (fun hc=>?_)
      · ((conv=>whnf);repeat((first|refine mvT ?_|refine mvF ?_|refine yT ?_|refine yF ?_);conv=>whnf))
        refine Does.mono (AppendCompactArrayLen_does hA.ob (Nat.le_trans hB hA.size) (by simp only [List.length_append]; omega) l1_2.length (by omega)) ?_;rintro r w h;((conv=>whnf);repeat((first|refine mvT ?_|refine mvF ?_|refine yT ?_|refine yF ?_);conv=>whnf))
        rw [hll1_2] at h
        replace hA := hA.tr h
        clear h
        refine ⟨_, ⟨rfl, rfl, rfl, rfl, rfl, rfl, rfl, rfl, rfl, rfl, trivial⟩, ?_⟩
        rw [hc]
        exact hA
      · ((conv=>whnf);repeat((first|refine mvT ?_|refine mvF ?_|refine yT ?_|refine yF ?_);conv=>whnf))
        refine Does.mono (AppendArrayLen_does hA.ob (Nat.le_trans hB hA.size) (by simp only [List.length_append]; omega) l1_2.length) ?_;rintro r w h;((conv=>whnf);repeat((first|refine mvT ?_|refine mvF ?_|refine yT ?_|refine yF ?_);conv=>whnf))
        rw [hll1_2] at h
        replace hA := hA.tr h
        clear h
        refine ⟨_, ⟨rfl, rfl, rfl, rfl, rfl, rfl, rfl, rfl, rfl, rfl, trivial⟩, ?_⟩
        rw [hc]
        exact hA
    clear hA
    rintro r w hA
    ((conv=>whnf);repeat((first|refine mvT ?_|refine mvF ?_|refine yT ?_|refine yF ?_);conv=>whnf))
    generalize hm12 : m11 ++ (arA fx (lsT (atT x1 2)).length) = m12 at hA
    have hl12 : m12.length = m11.length + (arA fx (lsT (atT x1 2)).length).length := by rw [← hm12, List.length_append]
    refine VL.loop (fun s : Nat × Value => [(1, s.2), (0, .pointer (some ⟨p, 0, none⟩)), (5, .int .i16 v), (6, .bool fx), (14, .slice (some ⟨b9, o9, none⟩) l9.length k9), (137, .slice (some ⟨b9, o9, none⟩) l9.length k9), (138, .int .i64 l9.length), (139, .int .i64 i1), (16, .pointer (some ⟨b9, o9 + i1 * 19, none⟩)), (19, .slice a1_2 l1_2.length k1_2), (184, .slice a1_2 l1_2.length k1_2), (185, .int .i64 l1_2.length), (186, .int .i64 s.1)])
      (fun s w' => s.1 ≤ l1_2.length ∧ Apd w0 B x l (m12 ++ ((lsT (atT x1 2)).take s.1).flatMap (bFetchRequestTopicPartition v fx)) s.2 w') (fun s => l1_2.length - s.1) (0, r) ⟨rfl, rfl, rfl, rfl, rfl, rfl, rfl, rfl, rfl, rfl, rfl, rfl, rfl, trivial⟩ ⟨Nat.zero_le _, by rw [List.take_zero, List.flatMap_nil, List.append_nil]; exact hA⟩ ?_
    clear hA
    rintro ⟨i2, r⟩ w ⟨hi2, hA⟩
    dsimp only at hi2 hA
    ((conv=>whnf);repeat((first|refine mvT ?_|refine mvF ?_|refine yT ?_|refine yF ?_);conv=>whnf))
    refine cI (by rfl) (fun h9=>?_) (fun h9=>?_)
    · have hil : i2 < l1_2.length := by have := of_decide_eq_true h9; simp only at this; omega
      have hiL2 : i2 < (lsT (atT x1 2)).length := by omega
      obtain ⟨hft, hfl⟩ := flat_take (bFetchRequestTopicPartition v fx) (lsT (atT x1 2)) i2 hiL2
      obtain ⟨b1_2, o1_2, rfl, hF1_2, hb1_2, hce1_2⟩ := hcl1_2 i2 l1_2[i2] (by simp [hil])
      have hre1_2 := hrl1_2 i2 l1_2[i2] ((lsT (atT x1 2))[i2]) (by simp [hil]) (by simp [hiL2])
      have hlo1_2 := lsT_ok (hok1_.1 2 _ rfl) ((lsT (atT x1 2))[i2]) (List.getElem_mem hiL2)
      generalize hm13 : m12 ++ ((lsT (atT x1 2)).take i2).flatMap (bFetchRequestTopicPartition v fx) = m13 at hA
      have hl13 : m13.length = m12.length + (((lsT (atT x1 2)).take i2).flatMap (bFetchRequestTopicPartition v fx)).length := by rw [← hm13, List.length_append]
      obtain ⟨x2, hx2⟩ : ∃ y, y = (lsT (atT x1 2))[i2] := ⟨_, rfl⟩
      rw [← hx2] at hft hfl hre1_2 hlo1_2
      obtain ⟨u2_6_0, u2_6_1, u2_6_2, u2_6_3, u2_6_4, u2_6_5, u2_6_6, u2_6_7, u2_6_8, u2_6_9, u2_6_10, u2_6_11, u2_6_12, u2_6_13, u2_6_14, u2_6_15, m2_, hcells, hc2_6, hm2_⟩ := hre1_2
      rw [hcells] at hce1_2
      have hok2_ := hlo1_2.2.2 rfl
      have hgl : (bFetchRequestTopicPartition v fx x2).length = (bFetchRequestTopicPartition v fx x2).length := rfl
      conv at hgl => rhs; unfold bFetchRequestTopicPartition
      simp only [List.length_append, List.length_nil] at hgl
      ((conv=>whnf);repeat((first|refine mvT ?_|refine mvF ?_|refine yT ?_|refine yF ?_);conv=>whnf))
      refine ⟨b1_2, o1_2, rfl, ⟨by omega, by omega⟩, ?_⟩
      ((conv=>whnf);repeat((first|refine mvT ?_|refine mvF ?_|refine yT ?_|refine yF ?_);conv=>whnf))
      refine ⟨_, ld ((hce1_2.ext hA.ext (hFx _ hb1_2 hF1_2)).cell (j := 0) rfl) (by simp <;> omega), ?_⟩; ((conv=>whnf);repeat((first|refine mvT ?_|refine mvF ?_|refine yT ?_|refine yF ?_);conv=>whnf))
      refine Does.mono (AppendInt32_does hA.ob (Nat.le_trans hB hA.size) (by simp only [List.length_append]; omega) _) ?_;rintro r w h;((conv=>whnf);repeat((first|refine mvT ?_|refine mvF ?_|refine yT ?_|refine yF ?_);conv=>whnf))
      rw [fixed4_mod (wrap_i32m _)] at h
      replace hA := hA.tr h
      clear h
      generalize hm14 : m13 ++ (fixed (atT x2 0).n 4) = m14 at hA
      have hl14 : m14.length = m13.length + (fixed (atT x2 0).n 4).length := by rw [← hm14, List.length_append]
      refine VC.cutE (fun r => [(1, r), (0, .pointer (some ⟨p, 0, none⟩)), (5, .int .i16 v), (6, .bool fx), (14, .slice (some ⟨b9, o9, none⟩) l9.length k9), (137, .slice (some ⟨b9, o9, none⟩) l9.length k9), (138, .int .i64 l9.length), (139, .int .i64 i1), (16, .pointer (some ⟨b9, o9 + i1 * 19, none⟩)), (19, .slice (some ⟨b1_2, o1_2, none⟩) l1_2.length k1_2), (184, .slice (some ⟨b1_2, o1_2, none⟩) l1_2.length k1_2), (185, .int .i64 l1_2.length), (186, .int .i64 i2), (21, .pointer (some ⟨b1_2, o1_2 + i2 * 24, none⟩))]) (fun r w' => Apd w0 B x l (m14 ++ ((if (decide (9 ≤ v) && (decide ((-1 : Int) < 0) || decide (v ≤ (-1)))) = true then fixed (atT x2 1).n 4 else []))) r w') ?_ ?_
      · refine cI (by rfl) (fun hcv=>?_) (fun hcv=>?_)
        · ((conv=>whnf);repeat((first|refine mvT ?_|refine mvF ?_|refine yT ?_|refine yF ?_);conv=>whnf))
          refine ⟨_, ld ((hce1_2.ext hA.ext (hFx _ hb1_2 hF1_2)).cell (j := 1) rfl) (by simp <;> omega), ?_⟩; ((conv=>whnf);repeat((first|refine mvT ?_|refine mvF ?_|refine yT ?_|refine yF ?_);conv=>whnf))
          refine Does.mono (AppendInt32_does hA.ob (Nat.le_trans hB hA.size) (by simp only [List.length_append]; omega) _) ?_;rintro r w h;((conv=>whnf);repeat((first|refine mvT ?_|refine mvF ?_|refine yT ?_|refine yF ?_);conv=>whnf))
          rw [fixed4_mod (wrap_i32m _)] at h
          replace hA := hA.tr h
          clear h
          generalize hm15 : m14 ++ (fixed (atT x2 1).n 4) = m15 at hA
          have hl15 : m15.length = m14.length + (fixed (atT x2 1).n 4).length := by rw [← hm15, List.length_append]
          refine ⟨_, ⟨rfl, rfl, rfl, rfl, rfl, rfl, rfl, rfl, rfl, rfl, rfl, rfl, rfl, rfl, trivial⟩, ?_⟩
          rw [if_pos (by simp only [ge_iff_le, decide_eq_true_eq] at hcv; simp; omega)]
          rw [hm15]
          exact hA
        · ((conv=>whnf);repeat((first|refine mvT ?_|refine mvF ?_|refine yT ?_|refine yF ?_);conv=>whnf))
          refine ⟨_, ⟨rfl, rfl, rfl, rfl, rfl, rfl, rfl, rfl, rfl, rfl, rfl, rfl, rfl, rfl, trivial⟩, ?_⟩
          rw [if_neg (by simp only [ge_iff_le, decide_eq_false_iff_not] at hcv; simp; omega), List.append_nil]
          exact hA
      clear hA
      rintro r w hA
      ((conv=>whnf);repeat((first|refine mvT ?_|refine mvF ?_|refine yT ?_|refine yF ?_);conv=>whnf))
      generalize hm15 : m14 ++ ((if (decide (9 ≤ v) && (decide ((-1 : Int) < 0) || decide (v ≤ (-1)))) = true then fixed (atT x2 1).n 4 else [])) = m15 at hA
      have hl15 : m15.length = m14.length + ((if (decide (9 ≤ v) && (decide ((-1 : Int) < 0) || decide (v ≤ (-1)))) = true then fixed (atT x2 1).n 4 else [])).length := by rw [← hm15, List.length_append]
      refine ⟨_, ld ((hce1_2.ext hA.ext (hFx _ hb1_2 hF1_2)).cell (j := 2) rfl) (by simp <;> omega), ?_⟩; ((conv=>whnf);repeat((first|refine mvT ?_|refine mvF ?_|refine yT ?_|refine yF ?_);conv=>whnf))
      refine Does.mono (AppendInt64_does hA.ob (Nat.le_trans hB hA.size) (by simp only [List.length_append]; omega) _) ?_;rintro r w h;((conv=>whnf);repeat((first|refine mvT ?_|refine mvF ?_|refine yT ?_|refine yF ?_);conv=>whnf))
      replace hA := hA.tr h
      clear h
      generalize hm16 : m15 ++ (fixed (atT x2 2).n 8) = m16 at hA
      have hl16 : m16.length = m15.length + (fixed (atT x2 2).n 8).length := by rw [← hm16, List.length_append]
      refine VC.cutE (fun r => [(1, r), (0, .pointer (some ⟨p, 0, none⟩)), (5, .int .i16 v), (6, .bool fx), (14, .slice (some ⟨b9, o9, none⟩) l9.length k9), (137, .slice (some ⟨b9, o9, none⟩) l9.length k9), (138, .int .i64 l9.length), (139, .int .i64 i1), (16, .pointer (some ⟨b9, o9 + i1 * 19, none⟩)), (19, .slice (some ⟨b1_2, o1_2, none⟩) l1_2.length k1_2), (184, .slice (some ⟨b1_2, o1_2, none⟩) l1_2.length k1_2), (185, .int .i64 l1_2.length), (186, .int .i64 i2), (21, .pointer (some ⟨b1_2, o1_2 + i2 * 24, none⟩))]) (fun r w' => Apd w0 B x l (m16 ++ ((if (decide (12 ≤ v) && (decide ((-1 : Int) < 0) || decide (v ≤ (-1)))) = true then fixed (atT x2 3).n 4 else []))) r w') ?_ ?_
      · refine cI (by rfl) (fun hcv=>?_) (fun hcv=>?_)
        · ((conv=>whnf);repeat((first|refine mvT ?_|refine mvF ?_|refine yT ?_|refine yF ?_);conv=>whnf))
          refine ⟨_, ld ((hce1_2.ext hA.ext (hFx _ hb1_2 hF1_2)).cell (j := 3) rfl) (by simp <;> omega), ?_⟩; ((conv=>whnf);repeat((first|refine mvT ?_|refine mvF ?_|refine yT ?_|refine yF ?_);conv=>whnf))
          refine Does.mono (AppendInt32_does hA.ob (Nat.le_trans hB hA.size) (by simp only [List.length_append]; omega) _) ?_;rintro r w h;((conv=>whnf);repeat((first|refine mvT ?_|refine mvF ?_|refine yT ?_|refine yF ?_);conv=>whnf))
          rw [fixed4_mod (wrap_i32m _)] at h
          replace hA := hA.tr h
          clear h
          generalize hm17 : m16 ++ (fixed (atT x2 3).n 4) = m17 at hA
          have hl17 : m17.length = m16.length + (fixed (atT x2 3).n 4).length := by rw [← hm17, List.length_append]
          refine ⟨_, ⟨rfl, rfl, rfl, rfl, rfl, rfl, rfl, rfl, rfl, rfl, rfl, rfl, rfl, rfl, trivial⟩, ?_⟩
          rw [if_pos (by simp only [ge_iff_le, decide_eq_true_eq] at hcv; simp; omega)]
          rw [hm17]
          exact hA
        · ((conv=>whnf);repeat((first|refine mvT ?_|refine mvF ?_|refine yT ?_|refine yF ?_);conv=>whnf))
          refine ⟨_, ⟨rfl, rfl, rfl, rfl, rfl, rfl, rfl, rfl, rfl, rfl, rfl, rfl, rfl, rfl, trivial⟩, ?_⟩
          rw [if_neg (by simp only [ge_iff_le, decide_eq_false_iff_not] at hcv; simp; omega), List.append_nil]
          exact hA
      clear hA
      rintro r w hA
      ((conv=>whnf);repeat((first|refine mvT ?_|refine mvF ?_|refine yT ?_|refine yF ?_);conv=>whnf))
      generalize hm17 : m16 ++ ((if (decide (12 ≤ v) && (decide ((-1 : Int) < 0) || decide (v ≤ (-1)))) = true then fixed (atT x2 3).n 4 else [])) = m17 at hA
      have hl17 : m17.length = m16.length + ((if (decide (12 ≤ v) && (decide ((-1 : Int) < 0) || decide (v ≤ (-1)))) = true then fixed (atT x2 3).n 4 else [])).length := by rw [← hm17, List.length_append]
      refine VC.cutE (fun r => [(1, r), (0, .pointer (some ⟨p, 0, none⟩)), (5, .int .i16 v), (6, .bool fx), (14, .slice (some ⟨b9, o9, none⟩) l9.length k9), (137, .slice (some ⟨b9, o9, none⟩) l9.length k9), (138, .int .i64 l9.length), (139, .int .i64 i1), (16, .pointer (some ⟨b9, o9 + i1 * 19, none⟩)), (19, .slice (some ⟨b1_2, o1_2, none⟩) l1_2.length k1_2), (184, .slice (some ⟨b1_2, o1_2, none⟩) l1_2.length k1_2), (185, .int .i64 l1_2.length), (186, .int .i64 i2), (21, .pointer (some ⟨b1_2, o1_2 + i2 * 24, none⟩))]) (fun r w' => Apd w0 B x l (m17 ++ ((if (decide (5 ≤ v) && (decide ((-1 : Int) < 0) || decide (v ≤ (-1)))) = true then fixed (atT x2 4).n 8 else []))) r w') ?_ ?_
      · refine cI (by rfl) (fun hcv=>?_) (fun hcv=>?_)
        · ((conv=>whnf);repeat((first|refine mvT ?_|refine mvF ?_|refine yT ?_|refine yF ?_);conv=>whnf))
          refine ⟨_, ld ((hce1_2.ext hA.ext (hFx _ hb1_2 hF1_2)).cell (j := 4) rfl) (by simp <;> omega), ?_⟩; ((conv=>whnf);repeat((first|refine mvT ?_|refine mvF ?_|refine yT ?_|refine yF ?_);conv=>whnf))
          refine Does.mono (AppendInt64_does hA.ob (Nat.le_trans hB hA.size) (by simp only [List.length_append]; omega) _) ?_;rintro r w h;((conv=>whnf);repeat((first|refine mvT ?_|refine mvF ?_|refine yT ?_|refine yF ?_);conv=>whnf))
          replace hA := hA.tr h
          clear h
          generalize hm18 : m17 ++ (fixed (atT x2 4).n 8) = m18 at hA
          have hl18 : m18.length = m17.length + (fixed (atT x2 4).n 8).length := by rw [← hm18, List.length_append]
          refine ⟨_, ⟨rfl, rfl, rfl, rfl, rfl, rfl, rfl, rfl, rfl, rfl, rfl, rfl, rfl, rfl, trivial⟩, ?_⟩
          rw [if_pos (by simp only [ge_iff_le, decide_eq_true_eq] at hcv; simp; omega)]
          rw [hm18]
          exact hA
        · ((conv=>whnf);repeat((first|refine mvT ?_|refine mvF ?_|refine yT ?_|refine yF ?_);conv=>whnf))
          refine ⟨_, ⟨rfl, rfl, rfl, rfl, rfl, rfl, rfl, rfl, rfl, rfl, rfl, rfl, rfl, rfl, trivial⟩, ?_⟩
          rw [if_neg (by simp only [ge_iff_le, decide_eq_false_iff_not] at hcv; simp; omega), List.append_nil]
          exact hA
      clear hA
      rintro r w hA
      ((conv=>whnf);repeat((first|refine mvT ?_|refine mvF ?_|refine yT ?_|refine yF ?_);conv=>whnf))
      generalize hm18 : m17 ++ ((if (decide (5 ≤ v) && (decide ((-1 : Int) < 0) || decide (v ≤ (-1)))) = true then fixed (atT x2 4).n 8 else [])) = m18 at hA
      have hl18 : m18.length = m17.length + ((if (decide (5 ≤ v) && (decide ((-1 : Int) < 0) || decide (v ≤ (-1)))) = true then fixed (atT x2 4).n 8 else [])).length := by rw [← hm18, List.length_append]
      refine ⟨_, ld ((hce1_2.ext hA.ext (hFx _ hb1_2 hF1_2)).cell (j := 5) rfl) (by simp <;> omega), ?_⟩; ((conv=>whnf);repeat((first|refine mvT ?_|refine mvF ?_|refine yT ?_|refine yF ?_);conv=>whnf))
      refine Does.mono (AppendInt32_does hA.ob (Nat.le_trans hB hA.size) (by simp only [List.length_append]; omega) _) ?_;rintro r w h;((conv=>whnf);repeat((first|refine mvT ?_|refine mvF ?_|refine yT ?_|refine yF ?_);conv=>whnf))
      rw [fixed4_mod (wrap_i32m _)] at h
      replace hA := hA.tr h
      clear h
      generalize hm19 : m18 ++ (fixed (atT x2 5).n 4) = m19 at hA
      have hl19 : m19.length = m18.length + (fixed (atT x2 5).n 4).length := by rw [← hm19, List.length_append]
      (refine mvB ?_;((conv=>whnf);repeat((first|refine mvT ?_|refine mvF ?_|refine yT ?_|refine yF ?_);conv=>whnf)))
      refine VC.cutB (fun r => [(1, r), (0, .pointer (some ⟨p, 0, none⟩)), (5, .int .i16 v), (6, .bool fx), (14, .slice (some ⟨b9, o9, none⟩) l9.length k9), (137, .slice (some ⟨b9, o9, none⟩) l9.length k9), (138, .int .i64 l9.length), (139, .int .i64 i1), (16, .pointer (some ⟨b9, o9 + i1 * 19, none⟩)), (19, .slice (some ⟨b1_2, o1_2, none⟩) l1_2.length k1_2), (184, .slice (some ⟨b1_2, o1_2, none⟩) l1_2.length k1_2), (185, .int .i64 l1_2.length), (186, .int .i64 i2), (21, .pointer (some ⟨b1_2, o1_2 + i2 * 24, none⟩))]) (fun r w' => Apd w0 B x l (m19 ++ ((if fx = true then uvar ((gFetchRequestTopicPartition v fx x2).length + (x2).u.length) ++ ((gFetchRequestTopicPartition v fx x2).flatMap tagB ++ (x2).u.flatMap tagB) else []))) r w') ?_ ?_
      · refine cI (by rfl) (fun hc=>?_) (fun hc=>?_)
        · ((conv=>whnf);repeat((first|refine mvT ?_|refine mvF ?_|refine yT ?_|refine yF ?_);conv=>whnf))
          rw [if_pos hc] at hgl
          simp only [List.length_append] at hgl
          obtain ⟨wT, rfl⟩ : ∃ y, y = w := ⟨w, rfl⟩
          have hos := OSl.nil wT wT.heap.size 59 1
          have hex := Ext.refl nob wT
          obtain ⟨ev, hev⟩ : ∃ y : Value, y = .slice none 0 0 := ⟨_, rfl⟩
          obtain ⟨ks, hks⟩ : ∃ y : List Nat, y = [] := ⟨_, rfl⟩
          refine ⟨_, rfl, Cells.sub2 (hce1_2.ext (hA.e0 hex).ext (hFx _ hb1_2 hF1_2)) 6 16 rfl (by simp <;> omega), ?_⟩; ((conv=>whnf);repeat((first|refine mvT ?_|refine mvF ?_|refine yT ?_|refine yF ?_);conv=>whnf))
          refine VC.cutE (fun q : Value × List Nat => [(1, r), (28, q.1), (0, .pointer (some ⟨p, 0, none⟩)), (5, .int .i16 v), (6, .bool fx), (14, .slice (some ⟨b9, o9, none⟩) l9.length k9), (137, .slice (some ⟨b9, o9, none⟩) l9.length k9), (138, .int .i64 l9.length), (139, .int .i64 i1), (16, .pointer (some ⟨b9, o9 + i1 * 19, none⟩)), (19, .slice (some ⟨b1_2, o1_2, none⟩) l1_2.length k1_2), (184, .slice (some ⟨b1_2, o1_2, none⟩) l1_2.length k1_2), (185, .int .i64 l1_2.length), (186, .int .i64 i2), (21, .pointer (some ⟨b1_2, o1_2 + i2 * 24, none⟩))]) (fun q w' => OSl w' wT.heap.size 59 1 q.1 (q.2.map fun (k : Nat) => [.int .u32 (k : Int)]) ∧ Ext nob wT w' ∧ q.2 = ([]) ++ (if ncB (.mk 7 0 (-1) (-1) 0 0 0 []) (atT x2 6) = false then [0] else [])) ?_ ?_
          · refine cI (by rfl) (fun hcd=>?_) (fun hcd=>?_)
            · ((conv=>whnf);repeat((first|refine mvT ?_|refine mvF ?_|refine yT ?_|refine yF ?_);conv=>whnf))
              have hos : OSl _ wT.heap.size 59 1 (.slice none 0 0) ((([] : List Nat)).map fun (k : Nat) => [.int .u32 (k : Int)]) := hos
              have hnc : ncB (.mk 7 0 (-1) (-1) 0 0 0 []) (atT x2 6) = false := by
                show decide (uuidB (atT x2 6).s = List.replicate 16 0) = false
                rw [hc2_6]
                have h : (!(([u2_6_0, u2_6_1, u2_6_2, u2_6_3, u2_6_4, u2_6_5, u2_6_6, u2_6_7, u2_6_8, u2_6_9, u2_6_10, u2_6_11, u2_6_12, u2_6_13, u2_6_14, u2_6_15] : List UInt8).map (fun x => (x.toNat : Int)) == List.replicate 16 0)) = true := hcd
                rw [u16_eq] at h
                exact (Bool.not_eq_true' _).mp h
              intro be we hbe hoe hxe
              ((conv=>whnf);repeat((first|refine mvT ?_|refine mvF ?_|refine yT ?_|refine yF ?_);conv=>whnf))
              have hsx := hxe.size
              have hsT := hex.size
              refine app_struct (ms := [[.int .u32 (0 : Int)]]) rfl (hos.e0 hxe) (src_one hoe rfl rfl) (by simp) rfl rfl (by have hkl : ([] : List Nat).length ≤ 0 := (Nat.le_refl 0); constructor <;> (simp only [List.length_map, List.length_singleton]; omega)) (by omega) ?_
              intro v5 w5 hos5 hx5 hb5 hnn5
              ((conv=>whnf);repeat((first|refine mvT ?_|refine mvF ?_|refine yT ?_|refine yF ?_);conv=>whnf))
              exact ⟨(v5, [] ++ [0]), ⟨rfl, rfl, rfl, rfl, rfl, rfl, rfl, rfl, rfl, rfl, rfl, rfl, rfl, rfl, rfl, trivial⟩, by simpa using hos5, (hex.e0 hxe).trans hx5 fun k hk e => by have := hos.blk k e; omega, by rw [if_pos hnc]⟩
            · ((conv=>whnf);repeat((first|refine mvT ?_|refine mvF ?_|refine yT ?_|refine yF ?_);conv=>whnf))
              have hos : OSl _ wT.heap.size 59 1 (.slice none 0 0) ((([] : List Nat)).map fun (k : Nat) => [.int .u32 (k : Int)]) := hos
              have hnc : ¬ (ncB (.mk 7 0 (-1) (-1) 0 0 0 []) (atT x2 6) = false) := by
                show ¬ decide (uuidB (atT x2 6).s = List.replicate 16 0) = false
                rw [hc2_6]
                have h : (!(([u2_6_0, u2_6_1, u2_6_2, u2_6_3, u2_6_4, u2_6_5, u2_6_6, u2_6_7, u2_6_8, u2_6_9, u2_6_10, u2_6_11, u2_6_12, u2_6_13, u2_6_14, u2_6_15] : List UInt8).map (fun x => (x.toNat : Int)) == List.replicate 16 0)) = false := hcd
                rw [u16_eq] at h
                exact fun e => by rw [e] at h; cases h
              exact ⟨((.slice none 0 0), []), ⟨rfl, rfl, rfl, rfl, rfl, rfl, rfl, rfl, rfl, rfl, rfl, rfl, rfl, rfl, rfl, trivial⟩, hos, hex, by rw [if_neg hnc]; rfl⟩
          clear hos hex hks
          rintro ⟨ev, ks⟩ w ⟨hos, hex, hks⟩
          dsimp only at hos hex hks
          ((conv=>whnf);repeat((first|refine mvT ?_|refine mvF ?_|refine yT ?_|refine yF ?_);conv=>whnf))
          have hkl : ks.length ≤ 1 := by rw [hks]; (repeat' split) <;> simp
          refine ⟨_, ld ((hce1_2.ext (hA.e0 hex).ext (hFx _ hb1_2 hF1_2)).cell (j := 22) rfl) (by simp <;> omega), ?_⟩; ((conv=>whnf);repeat((first|refine mvT ?_|refine mvF ?_|refine yT ?_|refine yF ?_);conv=>whnf))
          refine VC.cutE (fun q : Value × List Nat => [(1, r), (28, q.1), (0, .pointer (some ⟨p, 0, none⟩)), (5, .int .i16 v), (6, .bool fx), (14, .slice (some ⟨b9, o9, none⟩) l9.length k9), (137, .slice (some ⟨b9, o9, none⟩) l9.length k9), (138, .int .i64 l9.length), (139, .int .i64 i1), (16, .pointer (some ⟨b9, o9 + i1 * 19, none⟩)), (19, .slice (some ⟨b1_2, o1_2, none⟩) l1_2.length k1_2), (184, .slice (some ⟨b1_2, o1_2, none⟩) l1_2.length k1_2), (185, .int .i64 l1_2.length), (186, .int .i64 i2), (21, .pointer (some ⟨b1_2, o1_2 + i2 * 24, none⟩))]) (fun q w' => OSl w' wT.heap.size 59 1 q.1 (q.2.map fun (k : Nat) => [.int .u32 (k : Int)]) ∧ Ext nob wT w' ∧ q.2 = (([]) ++ (if ncB (.mk 7 0 (-1) (-1) 0 0 0 []) (atT x2 6) = false then [0] else [])) ++ (if ncB (.mk 4 0 (-1) (-1) 1 9223372036854775807 0 []) (atT x2 7) = false then [1] else [])) ?_ ?_
          · refine cI (by rfl) (fun hcd=>?_) (fun hcd=>?_)
            · ((conv=>whnf);repeat((first|refine mvT ?_|refine mvF ?_|refine yT ?_|refine yF ?_);conv=>whnf))
              have hnc : ncB (.mk 4 0 (-1) (-1) 1 9223372036854775807 0 []) (atT x2 7) = false := by
                show decide (IntKind.i64.wrap (atT x2 7).n = 9223372036854775807) = false
                simpa using hcd
              intro be we hbe hoe hxe
              ((conv=>whnf);repeat((first|refine mvT ?_|refine mvF ?_|refine yT ?_|refine yF ?_);conv=>whnf))
              have hsx := hxe.size
              have hsT := hex.size
              refine app_struct (ms := [[.int .u32 (1 : Int)]]) rfl (hos.e0 hxe) (src_one hoe rfl rfl) (by simp) rfl rfl (by have hkl : (ks : List Nat).length ≤ 1 := hkl; constructor <;> (simp only [List.length_map, List.length_singleton]; omega)) (by omega) ?_
              intro v5 w5 hos5 hx5 hb5 hnn5
              ((conv=>whnf);repeat((first|refine mvT ?_|refine mvF ?_|refine yT ?_|refine yF ?_);conv=>whnf))
              exact ⟨(v5, ks ++ [1]), ⟨rfl, rfl, rfl, rfl, rfl, rfl, rfl, rfl, rfl, rfl, rfl, rfl, rfl, rfl, rfl, trivial⟩, by simpa using hos5, (hex.e0 hxe).trans hx5 fun k hk e => by have := hos.blk k e; omega, by rw [if_pos hnc]; dsimp only; rw [hks]⟩
            · ((conv=>whnf);repeat((first|refine mvT ?_|refine mvF ?_|refine yT ?_|refine yF ?_);conv=>whnf))
              have hnc : ¬ (ncB (.mk 4 0 (-1) (-1) 1 9223372036854775807 0 []) (atT x2 7) = false) := by
                show ¬ decide (IntKind.i64.wrap (atT x2 7).n = 9223372036854775807) = false
                simpa using hcd
              exact ⟨(ev, ks), ⟨rfl, rfl, rfl, rfl, rfl, rfl, rfl, rfl, rfl, rfl, rfl, rfl, rfl, rfl, rfl, trivial⟩, hos, hex, by rw [if_neg hnc, List.append_nil]; exact hks⟩
          clear hos hex hks
          rintro ⟨ev, ks⟩ w ⟨hos, hex, hks⟩
          dsimp only at hos hex hks
          ((conv=>whnf);repeat((first|refine mvT ?_|refine mvF ?_|refine yT ?_|refine yF ?_);conv=>whnf))
          have hkl : ks.length ≤ 2 := by rw [hks]; (repeat' split) <;> simp
          have hrT : ∀ k, r.ownBlock = some k → k < wT.heap.size := hA.ob.lt
          have hA := hA.e0 hex
          obtain ⟨ae, ke, hev, _, hke⟩ := hos.shape
          rw [List.length_map] at hev
          subst hev
          have hkm : ∀ k ∈ ks, k = 0 ∨ k = 1 := by rw [hks]; intro k hk; (repeat' split at hk) <;> simp at hk <;> omega
          obtain ⟨tb, htb⟩ : ∃ y : Nat → List UInt8, y = fun k => tagB (k, if k = 0 then uuidB (atT x2 6).s else (if k = 1 then fixed (atT x2 7).n 8 else ([]))) := ⟨_, rfl⟩
          have hgq : (gFetchRequestTopicPartition v fx x2).length = ks.length := by
            rw [hks]
            unfold gFetchRequestTopicPartition
            (repeat' split) <;> simp
          have hgf : (gFetchRequestTopicPartition v fx x2).flatMap tagB = ks.flatMap tb := by
            rw [hks, htb]
            unfold gFetchRequestTopicPartition
            (repeat' split) <;> simp
          rw [hgq, hgf] at hgl
          have hul := hok2_.2.len
          have hul2 := uvar10 (n := ks.length + (x2).u.length) (by omega)
          refine Does.mono (Tags_Len_does (ld ((hce1_2.ext hA.ext (hFx _ hb1_2 hF1_2)).cell (j := 23) rfl) (by simp <;> omega)) (hm2_.ext hA.ext hFx)) ?_;rintro r2 w2 ⟨rfl, rfl⟩;((conv=>whnf);repeat((first|refine mvT ?_|refine mvF ?_|refine yT ?_|refine yF ?_);conv=>whnf))
          rw [u32_sum (by omega)]
          refine Does.mono (AppendUvarint_does hA.ob (Nat.le_trans hB hA.size) (ks.length + (x2).u.length) (by omega) (by simp only [List.length_append]; omega)) ?_;rintro r w h;((conv=>whnf);repeat((first|refine mvT ?_|refine mvF ?_|refine yT ?_|refine yF ?_);conv=>whnf))
          have hsep : ∀ k, (Value.slice ae ks.length ke).ownBlock = some k → r.ownBlock ≠ some k := fun k hk => h.ne (fun e => by have := hrT k e; have := hos.blk k hk; omega) (hos.own.lt k hk)
          have hos := hos.ext h.ext fun k hk e => by have := hrT k e; have := hos.blk k hk; omega
          replace hA := hA.tr h
          clear h
          generalize hm20 : m19 ++ (uvar (ks.length + (x2).u.length)) = m20 at hA
          have hl20 : m20.length = m19.length + (uvar (ks.length + (x2).u.length)).length := by rw [← hm20, List.length_append]
          refine VL.loop (fun s : Nat × Value => [(1, s.2), (0, .pointer (some ⟨p, 0, none⟩)), (5, .int .i16 v), (6, .bool fx), (14, .slice (some ⟨b9, o9, none⟩) l9.length k9), (137, .slice (some ⟨b9, o9, none⟩) l9.length k9), (138, .int .i64 l9.length), (139, .int .i64 i1), (16, .pointer (some ⟨b9, o9 + i1 * 19, none⟩)), (19, .slice (some ⟨b1_2, o1_2, none⟩) l1_2.length k1_2), (184, .slice (some ⟨b1_2, o1_2, none⟩) l1_2.length k1_2), (185, .int .i64 l1_2.length), (186, .int .i64 i2), (21, .pointer (some ⟨b1_2, o1_2 + i2 * 24, none⟩)), (268, (.slice ae ks.length ke)), (269, .int .i64 ks.length), (270, .int .i64 s.1)])
            (fun s w' => s.1 ≤ ks.length ∧ Apd w0 B x l (m20 ++ (ks.take s.1).flatMap tb) s.2 w' ∧ OSl w' wT.heap.size 59 1 (.slice ae ks.length ke) (ks.map fun (k : Nat) => [.int .u32 (k : Int)]) ∧ ∀ k, (Value.slice ae ks.length ke).ownBlock = some k → s.2.ownBlock ≠ some k) (fun s => ks.length - s.1) (0, r) ⟨rfl, rfl, rfl, rfl, rfl, rfl, rfl, rfl, rfl, rfl, rfl, rfl, rfl, rfl, rfl, rfl, rfl, trivial⟩ ⟨Nat.zero_le _, by rw [List.take_zero, List.flatMap_nil, List.append_nil]; exact hA, hos, hsep⟩ ?_
          clear hA hos hsep
          rintro ⟨ii, r⟩ w ⟨hii, hA, hos, hsep⟩
          dsimp only at hii hA hos hsep
          ((conv=>whnf);repeat((first|refine mvT ?_|refine mvF ?_|refine yT ?_|refine yF ?_);conv=>whnf))
          refine cI (by rfl) (fun h9=>?_) (fun h9=>?_)
          · have hil : ii < ks.length := by have := of_decide_eq_true h9; simp only at this; omega
            obtain ⟨hft, hfl⟩ := flat_take tb ks ii hil
            obtain ⟨ge, rfl⟩ := hos.some (i := ii) (by simpa using hil)
            have hce := hos.elem (i := ii) (c := [.int .u32 ((ks[ii] : Nat) : Int)]) (by simp [hil])
            ((conv=>whnf);repeat((first|refine mvT ?_|refine mvF ?_|refine yT ?_|refine yF ?_);conv=>whnf))
            refine ⟨ge, 0, rfl, ⟨by omega, by omega⟩, ?_⟩
            ((conv=>whnf);repeat((first|refine mvT ?_|refine mvF ?_|refine yT ?_|refine yF ?_);conv=>whnf))
            refine ⟨_, ld (hce.cell (j := 0) rfl) (by simp), ?_⟩
            ((conv=>whnf);repeat((first|refine mvT ?_|refine mvF ?_|refine yT ?_|refine yF ?_);conv=>whnf))
            have hkx := hkm _ (List.getElem_mem hil)
            obtain ⟨kx, hkxe⟩ : ∃ y, y = ks[ii] := ⟨_, rfl⟩
            rw [← hkxe] at hkx hft hfl ⊢
            have hA0 := hA
            replace hce1_2 := hce1_2.ext hA.ext (hFx _ hb1_2 hF1_2)
            have hb1_2 := Nat.lt_of_lt_of_le hb1_2 hA.size
            have hFxO := hFx
            have hFx : ∀ j, j < w.heap.size → F0 j → ¬ r.ownBlock = some j := fun j _ hf => hA.ne (hFR j hf).2 (hFR j hf).1
            have hFR : ∀ j, F0 j → j < w.heap.size ∧ r.ownBlock ≠ some j := fun j hf => ⟨Nat.lt_of_lt_of_le (hFR j hf).1 hA.size, hA.ne (hFR j hf).2 (hFR j hf).1⟩
            have hB := Nat.le_trans hB hA.size
            have hob := hA.ob
            clear hA
            obtain ⟨lI, hlI⟩ : ∃ y : List UInt8, y = l ++ (m20 ++ (ks.take ii).flatMap tb) := ⟨_, rfl⟩
            rw [← hlI] at hob
            have hlIl := congrArg List.length hlI
            simp only [List.length_append] at hlIl
            obtain ⟨w0, hwI⟩ : ∃ y : World, y = w := ⟨_, rfl⟩
            subst hwI
            obtain ⟨x, hrI⟩ : ∃ y : Value, y = r := ⟨_, rfl⟩
            subst hrI
            obtain ⟨l, hlJ⟩ : ∃ y : List UInt8, y = lI := ⟨_, rfl⟩
            subst hlJ
            have hA := Apd.start hob
            obtain ⟨m21, hm21⟩ : ∃ m : List UInt8, m = [] := ⟨_, rfl⟩
            rw [← hm21] at hA
            have hl21 : m21.length = 0 := by rw [hm21]; rfl
            refine cI (by rfl) (fun hk0=>?_) (fun hk0=>?_)
            · have hkk : kx = 0 := by have := of_decide_eq_true hk0; omega
              obtain ⟨np, hnp⟩ : ∃ y, y = (uuidB (atT x2 6).s).length := ⟨_, rfl⟩
              have htb0 : tb kx = uvar 0 ++ (uvar np ++ (uuidB (atT x2 6).s)) := by
                rw [hnp, hkk, htb]
                show tagB (0, if 0 = 0 then uuidB (atT x2 6).s else (if 0 = 1 then fixed (atT x2 7).n 8 else ([]))) = _
                rw [if_pos rfl]
                unfold tagB
                rw [List.append_assoc]
              rw [htb0] at hft hfl
              have hnp0 := hnp
              simp only [List.length_append] at hfl hnp
              ((conv=>whnf);repeat((first|refine mvT ?_|refine mvF ?_|refine yT ?_|refine yF ?_);conv=>whnf))
              refine ⟨_, rfl, Cells.sub2 (hce1_2.ext hA.ext (hFx _ hb1_2 hF1_2)) 6 16 rfl (by simp <;> omega), ?_⟩; ((conv=>whnf);repeat((first|refine mvT ?_|refine mvF ?_|refine yT ?_|refine yF ?_);conv=>whnf))
              intro bu wu hbu hou hxu
              ((conv=>whnf);repeat((first|refine mvT ?_|refine mvF ?_|refine yT ?_|refine yF ?_);conv=>whnf))
              refine st_all [bcell u2_6_0, bcell u2_6_1, bcell u2_6_2, bcell u2_6_3, bcell u2_6_4, bcell u2_6_5, bcell u2_6_6, bcell u2_6_7, bcell u2_6_8, bcell u2_6_9, bcell u2_6_10, bcell u2_6_11, bcell u2_6_12, bcell u2_6_13, bcell u2_6_14, bcell u2_6_15] hou rfl rfl rfl ?_
              intro w hov hxv
              ((conv=>whnf);repeat((first|refine mvT ?_|refine mvF ?_|refine yT ?_|refine yF ?_);conv=>whnf))
              have he1 : Ext nob w0 w := hxu.trans hxv fun k hk e => by omega
              have hbo : x.ownBlock ≠ some bu := fun e => by have := hob.lt bu e; omega
              replace hA0 := hA0.e0 he1
              replace hos := hos.e0 he1
              replace hob := hob.e0 he1
              replace hB := Nat.le_trans hB he1.size
              have hFx : ∀ j, j < w.heap.size → F0 j → ¬ x.ownBlock = some j := fun j _ hf => (hFR j hf).2
              have hFR : ∀ j, F0 j → j < w.heap.size ∧ x.ownBlock ≠ some j := fun j hf => ⟨Nat.lt_of_lt_of_le (hFR j hf).1 he1.size, (hFR j hf).2⟩
              have hp := hov
              have hpl := hp.lt
              have hxp := hbo
              obtain ⟨w0, hwJ⟩ : ∃ y : World, y = w := ⟨_, rfl⟩
              subst hwJ
              have hA := Apd.start hob
              rw [← hm21] at hA
              have hnp1 : np = 16 := by rw [hnp0]; rw [hc2_6]; rfl
              refine Does.mono (AppendUvarint_does hA.ob (Nat.le_trans hB hA.size) 0 (by omega) (by simp only [List.length_append]; omega)) ?_;rintro r w h;((conv=>whnf);repeat((first|refine mvT ?_|refine mvF ?_|refine yT ?_|refine yF ?_);conv=>whnf))
              replace hA := hA.tr h
              clear h
              generalize hm22 : m21 ++ (uvar 0) = m22 at hA
              have hl22 : m22.length = m21.length + (uvar 0).length := by rw [← hm22, List.length_append]
              refine Does.mono (AppendUvarint_does hA.ob (Nat.le_trans hB hA.size) 16 (by omega) (by simp only [List.length_append]; omega)) ?_;rintro r w h;((conv=>whnf);repeat((first|refine mvT ?_|refine mvF ?_|refine yT ?_|refine yF ?_);conv=>whnf))
              replace hA := hA.tr h
              clear h
              rw [← hnp1] at hA
              generalize hm23 : m22 ++ (uvar np) = m23 at hA
              have hl23 : m23.length = m22.length + (uvar np).length := by rw [← hm23, List.length_append]
              refine ⟨_, rfl, (hp.ext hA.ext hxp).cells, ?_⟩
              ((conv=>whnf);repeat((first|refine mvT ?_|refine mvF ?_|refine yT ?_|refine yF ?_);conv=>whnf))
              refine Does.mono (AppendUuid_does (s := [u2_6_0, u2_6_1, u2_6_2, u2_6_3, u2_6_4, u2_6_5, u2_6_6, u2_6_7, u2_6_8, u2_6_9, u2_6_10, u2_6_11, u2_6_12, u2_6_13, u2_6_14, u2_6_15]) hA.ob (Nat.le_trans hB hA.size) (by simp only [List.length_append, List.length_cons, List.length_nil]; omega)) ?_;rintro r w h;((conv=>whnf);repeat((first|refine mvT ?_|refine mvF ?_|refine yT ?_|refine yF ?_);conv=>whnf))
              replace hA := hA.tr h
              clear h
              rw [← hc2_6] at hA
              generalize hm24 : m23 ++ (uuidB (atT x2 6).s) = m24 at hA
              have hl24 : m24.length = m23.length + (uuidB (atT x2 6).s).length := by rw [← hm24, List.length_append]
              have hfin : m24 = uvar 0 ++ (uvar np ++ (uuidB (atT x2 6).s)) := by simp only [← hm24, ← hm23, ← hm22, hm21, List.append_assoc, List.nil_append, List.append_nil]
              refine ⟨(ii + 1, r), ⟨rfl, rfl, rfl, rfl, rfl, rfl, rfl, rfl, rfl, rfl, rfl, rfl, rfl, rfl, rfl, rfl, inc_eq (by omega), trivial⟩, ⟨by simp only; omega, ?_, ?_, ?_⟩, by simp only; omega⟩
              · have hA1 := hA
                rw [hfin, hlI] at hA1
                have h := hA0.tr hA1
                rw [hft, ← List.append_assoc]
                exact h
              · exact hos.ext hA.ext fun k hk e => hsep k hk e
              · exact fun k hk => hA.ne (hsep k hk) (hos.own.lt k hk)
            · ((conv=>whnf);repeat((first|refine mvT ?_|refine mvF ?_|refine yT ?_|refine yF ?_);conv=>whnf))
              have hkk0 : kx ≠ 0 := by have := of_decide_eq_false hk0; omega
              refine cI (by rfl) (fun hk1=>?_) (fun hk1=>?_)
              · have hkk : kx = 1 := by have := of_decide_eq_true hk1; omega
                obtain ⟨np, hnp⟩ : ∃ y, y = (fixed (atT x2 7).n 8).length := ⟨_, rfl⟩
                have htb1 : tb kx = uvar 1 ++ (uvar np ++ (fixed (atT x2 7).n 8)) := by
                  rw [hnp, hkk, htb]
                  show tagB (1, if 1 = 0 then uuidB (atT x2 6).s else (if 1 = 1 then fixed (atT x2 7).n 8 else ([]))) = _
                  rw [if_neg (by decide), if_pos rfl]
                  unfold tagB
                  rw [List.append_assoc]
                rw [htb1] at hft hfl
                have hnp0 := hnp
                simp only [List.length_append] at hfl hnp
                ((conv=>whnf);repeat((first|refine mvT ?_|refine mvF ?_|refine yT ?_|refine yF ?_);conv=>whnf))
                refine ⟨_, ld ((hce1_2.ext hA.ext (hFx _ hb1_2 hF1_2)).cell (j := 22) rfl) (by simp <;> omega), ?_⟩; ((conv=>whnf);repeat((first|refine mvT ?_|refine mvF ?_|refine yT ?_|refine yF ?_);conv=>whnf))
                have hnp1 : np = 8 := by rw [hnp0]; exact fixed_length _ _
                refine Does.mono (AppendUvarint_does hA.ob (Nat.le_trans hB hA.size) 1 (by omega) (by simp only [List.length_append]; omega)) ?_;rintro r w h;((conv=>whnf);repeat((first|refine mvT ?_|refine mvF ?_|refine yT ?_|refine yF ?_);conv=>whnf))
                replace hA := hA.tr h
                clear h
                generalize hm22 : m21 ++ (uvar 1) = m22 at hA
                have hl22 : m22.length = m21.length + (uvar 1).length := by rw [← hm22, List.length_append]
                refine Does.mono (AppendUvarint_does hA.ob (Nat.le_trans hB hA.size) 8 (by omega) (by simp only [List.length_append]; omega)) ?_;rintro r w h;((conv=>whnf);repeat((first|refine mvT ?_|refine mvF ?_|refine yT ?_|refine yF ?_);conv=>whnf))
                replace hA := hA.tr h
                clear h
                rw [← hnp1] at hA
                generalize hm23 : m22 ++ (uvar np) = m23 at hA
                have hl23 : m23.length = m22.length + (uvar np).length := by rw [← hm23, List.length_append]
                refine Does.mono (AppendInt64_does hA.ob (Nat.le_trans hB hA.size) (by simp only [List.length_append]; omega) _) ?_;rintro r w h;((conv=>whnf);repeat((first|refine mvT ?_|refine mvF ?_|refine yT ?_|refine yF ?_);conv=>whnf))
                rw [fixed8_mod (m := (atT x2 7).n) (by rw [IntKind.wrap_i64]; omega)] at h
                replace hA := hA.tr h
                clear h
                generalize hm24 : m23 ++ (fixed (atT x2 7).n 8) = m24 at hA
                have hl24 : m24.length = m23.length + (fixed (atT x2 7).n 8).length := by rw [← hm24, List.length_append]
                have hfin : m24 = uvar 1 ++ (uvar np ++ (fixed (atT x2 7).n 8)) := by simp only [← hm24, ← hm23, ← hm22, hm21, List.append_assoc, List.nil_append, List.append_nil]
                refine ⟨(ii + 1, r), ⟨rfl, rfl, rfl, rfl, rfl, rfl, rfl, rfl, rfl, rfl, rfl, rfl, rfl, rfl, rfl, rfl, inc_eq (by omega), trivial⟩, ⟨by simp only; omega, ?_, ?_, ?_⟩, by simp only; omega⟩
                · have hA1 := hA
                  rw [hfin, hlI] at hA1
                  have h := hA0.tr hA1
                  rw [hft, ← List.append_assoc]
                  exact h
                · exact hos.ext hA.ext fun k hk e => hsep k hk e
                · exact fun k hk => hA.ne (hsep k hk) (hos.own.lt k hk)
              · have := of_decide_eq_false hk1
                omega
          have hil : ii = ks.length := by have := of_decide_eq_false h9; simp only at this; omega
          ((conv=>whnf);repeat((first|refine mvT ?_|refine mvF ?_|refine yT ?_|refine yF ?_);conv=>whnf))
          rw [hil, List.take_length] at hA
          generalize hm21 : m20 ++ (ks.flatMap tb) = m21 at hA
          have hl21 : m21.length = m20.length + (ks.flatMap tb).length := by rw [← hm21, List.length_append]
          refine Does.mono (AppendEach_does (ld ((hce1_2.ext hA.ext (hFx _ hb1_2 hF1_2)).cell (j := 23) rfl) (by simp <;> omega)) (hm2_.ext hA.ext hFx) hok2_.2 hA.ob (Nat.le_trans hB hA.size) (hA.ne (hFR _ hF1_2).2 (hFR _ hF1_2).1) (fun j _ hf => hA.ne (hFR j hf).2 (hFR j hf).1) (by simp only [List.length_append]; omega)) ?_;rintro r w h;((conv=>whnf);repeat((first|refine mvT ?_|refine mvF ?_|refine yT ?_|refine yF ?_);conv=>whnf))
          replace hA := hA.tr h
          clear h
          generalize hm22 : m21 ++ ((x2).u.flatMap tagB) = m22 at hA
          have hl22 : m22.length = m21.length + ((x2).u.flatMap tagB).length := by rw [← hm22, List.length_append]
          refine ⟨_, ⟨rfl, rfl, rfl, rfl, rfl, rfl, rfl, rfl, rfl, rfl, rfl, rfl, rfl, rfl, trivial⟩, ?_⟩
          rw [if_pos hc, hgq, hgf, show m19 ++ (uvar (ks.length + (x2).u.length) ++ (ks.flatMap tb ++ (x2).u.flatMap tagB)) = m22 by simp only [← hm22, ← hm21, ← hm20, List.append_assoc]]
          exact hA
        · ((conv=>whnf);repeat((first|refine mvT ?_|refine mvF ?_|refine yT ?_|refine yF ?_);conv=>whnf))
          refine ⟨_, ⟨rfl, rfl, rfl, rfl, rfl, rfl, rfl, rfl, rfl, rfl, rfl, rfl, rfl, rfl, trivial⟩, ?_⟩
          rw [if_neg (by rw [hc]; decide), List.append_nil]
          exact hA
      clear hA
      rintro r w hA
      ((conv=>whnf);repeat((first|refine mvT ?_|refine mvF ?_|refine yT ?_|refine yF ?_);conv=>whnf))
      generalize hm20 : m19 ++ ((if fx = true then uvar ((gFetchRequestTopicPartition v fx x2).length + (x2).u.length) ++ ((gFetchRequestTopicPartition v fx x2).flatMap tagB ++ (x2).u.flatMap tagB) else [])) = m20 at hA
      have hl20 : m20.length = m19.length + ((if fx = true then uvar ((gFetchRequestTopicPartition v fx x2).length + (x2).u.length) ++ ((gFetchRequestTopicPartition v fx x2).flatMap tagB ++ (x2).u.flatMap tagB) else [])).length := by rw [← hm20, List.length_append]
      have hfin : m13 ++ (bFetchRequestTopicPartition v fx) x2 = m20 := by unfold bFetchRequestTopicPartition; simp only [← hm20, ← hm19, ← hm18, ← hm17, ← hm16, ← hm15, ← hm14, List.append_assoc, List.nil_append, List.append_nil]
      refine ⟨(i2 + 1, r), ⟨rfl, rfl, rfl, rfl, rfl, rfl, rfl, rfl, rfl, rfl, rfl, rfl, inc_eq (by rw [maxLen_eq] at hkm1_2; omega), trivial⟩, ⟨by simp only; omega, ?_⟩, by simp only; omega⟩
      rw [hft, ← List.append_assoc, hm13, hfin]
      exact hA
    have hil : i2 = l1_2.length := by have := of_decide_eq_false h9; simp only at this; omega
    ((conv=>whnf);repeat((first|refine mvT ?_|refine mvF ?_|refine yT ?_|refine yF ?_);conv=>whnf))
    rw [hil, hll1_2, List.take_length] at hA
    generalize hm13 : m12 ++ ((lsT (atT x1 2)).flatMap (bFetchRequestTopicPartition v fx)) = m13 at hA
    have hl13 : m13.length = m12.length + ((lsT (atT x1 2)).flatMap (bFetchRequestTopicPartition v fx)).length := by rw [← hm13, List.length_append]
    (refine mvB ?_;((conv=>whnf);repeat((first|refine mvT ?_|refine mvF ?_|refine yT ?_|refine yF ?_);conv=>whnf)))
    refine VC.cutB (fun r => [(1, r), (0, .pointer (some ⟨p, 0, none⟩)), (5, .int .i16 v), (6, .bool fx), (14, .slice (some ⟨b9, o9, none⟩) l9.length k9), (137, .slice (some ⟨b9, o9, none⟩) l9.length k9), (138, .int .i64 l9.length), (139, .int .i64 i1), (16, .pointer (some ⟨b9, o9 + i1 * 19, none⟩))]) (fun r w' => Apd w0 B x l (m13 ++ (tgsB fx (x1).u)) r w') ?_ ?_
    · refine cI (by rfl) (fun hc=>?_) (fun hc=>?_)
      · ((conv=>whnf);repeat((first|refine mvT ?_|refine mvF ?_|refine yT ?_|refine yF ?_);conv=>whnf))
        have hul := hok1_.2.len
        refine Does.mono (Tags_Len_does (ld ((hce9.ext hA.ext (hFx _ hb9 hF9)).cell (j := 18) rfl) (by simp <;> omega)) (hm1_.ext hA.ext hFx)) ?_;rintro r w ⟨rfl, rfl⟩;((conv=>whnf);repeat((first|refine mvT ?_|refine mvF ?_|refine yT ?_|refine yF ?_);conv=>whnf))
        rw [u32_add0 (by omega)]
        refine Does.mono (AppendUvarint_does hA.ob (Nat.le_trans hB hA.size) (x1).u.length (by omega) (by simp only [List.length_append]; omega)) ?_;rintro r w h;((conv=>whnf);repeat((first|refine mvT ?_|refine mvF ?_|refine yT ?_|refine yF ?_);conv=>whnf))
        have hul2 := uvar10 (n := (x1).u.length) (by omega)
        replace hA := hA.tr h
        clear h
        refine Does.mono (AppendEach_does (ld ((hce9.ext hA.ext (hFx _ hb9 hF9)).cell (j := 18) rfl) (by simp <;> omega)) (hm1_.ext hA.ext hFx) hok1_.2 hA.ob (Nat.le_trans hB hA.size) (hA.ne (hFR _ hF9).2 (hFR _ hF9).1) (fun j _ hf => hA.ne (hFR j hf).2 (hFR j hf).1) (by simp only [List.length_append]; omega)) ?_;rintro r w h;((conv=>whnf);repeat((first|refine mvT ?_|refine mvF ?_|refine yT ?_|refine yF ?_);conv=>whnf))
        replace hA := hA.tr h
        clear h
        refine ⟨_, ⟨rfl, rfl, rfl, rfl, rfl, rfl, rfl, rfl, rfl, trivial⟩, ?_⟩
        rw [tgsB, if_pos hc, ← List.append_assoc]
        exact hA
      · ((conv=>whnf);repeat((first|refine mvT ?_|refine mvF ?_|refine yT ?_|refine yF ?_);conv=>whnf))
        refine ⟨_, ⟨rfl, rfl, rfl, rfl, rfl, rfl, rfl, rfl, rfl, trivial⟩, ?_⟩
        rw [tgsB, if_neg (by rw [hc]; decide), List.append_nil]
        exact hA
    clear hA
    rintro r w hA
    ((conv=>whnf);repeat((first|refine mvT ?_|refine mvF ?_|refine yT ?_|refine yF ?_);conv=>whnf))
    generalize hm14 : m13 ++ (tgsB fx (x1).u) = m14 at hA
    have hl14 : m14.length = m13.length + (tgsB fx (x1).u).length := by rw [← hm14, List.length_append]
    have hfin : m9 ++ (bFetchRequestTopic v fx) x1 = m14 := by unfold bFetchRequestTopic; simp only [← hm14, ← hm13, ← hm12, ← hm11, ← hm10, List.append_assoc, List.nil_append, List.append_nil]
    refine ⟨(i1 + 1, r), ⟨rfl, rfl, rfl, rfl, rfl, rfl, rfl, inc_eq (by rw [maxLen_eq] at hkm9; omega), trivial⟩, ⟨by simp only; omega, ?_⟩, by simp only; omega⟩
    rw [hft, ← List.append_assoc, hm9, hfin]
    exact hA
  have hil : i1 = l9.length := by have := of_decide_eq_false h9; simp only at this; omega
  ((conv=>whnf);repeat((first|refine mvT ?_|refine mvF ?_|refine yT ?_|refine yF ?_);conv=>whnf))
  rw [hil, hll9, List.take_length] at hA
  generalize hm9 : m8 ++ ((lsT (atT t 9)).flatMap (bFetchRequestTopic v fx)) = m9 at hA
  have hl9 : m9.length = m8.length + ((lsT (atT t 9)).flatMap (bFetchRequestTopic v fx)).length := by rw [← hm9, List.length_append]
  refine VC.cutE (fun r => [(1, r), (0, .pointer (some ⟨p, 0, none⟩)), (5, .int .i16 v), (6, .bool fx)]) (fun r w' => Apd w0 B x l (m9 ++ ((if (decide (7 ≤ v) && (decide ((-1 : Int) < 0) || decide (v ≤ (-1)))) = true then arA fx (lsT (atT t 10)).length ++ (lsT (atT t 10)).flatMap (bFetchRequestForgottenTopic v fx) else []))) r w') ?_ ?_
  · refine cI (by rfl) (fun hcv=>?_) (fun hcv=>?_)
    · ((conv=>whnf);repeat((first|refine mvT ?_|refine mvF ?_|refine yT ?_|refine yF ?_);conv=>whnf))
      refine ldS ((hp.ext hA.ext hxp).cell rfl) ?_;((conv=>whnf);repeat((first|refine mvT ?_|refine mvF ?_|refine yT ?_|refine yF ?_);conv=>whnf))
      have hvl9 : ((if (decide (7 ≤ v) && (decide ((-1 : Int) < 0) || decide (v ≤ (-1)))) = true then arA fx (lsT (atT t 10)).length ++ (lsT (atT t 10)).flatMap (bFetchRequestForgottenTopic v fx) else [])).length = (arA fx (lsT (atT t 10)).length ++ (lsT (atT t 10)).flatMap (bFetchRequestForgottenTopic v fx)).length := by rw [if_pos (by simp only [ge_iff_le, decide_eq_true_eq] at hcv; simp; omega)]
      simp only [List.length_append] at hvl9
      have hml10 := lsT_len (hok.1 10 _ rfl)
      (refine mvB ?_;((conv=>whnf);repeat((first|refine mvT ?_|refine mvF ?_|refine yT ?_|refine yF ?_);conv=>whnf)))
      refine VC.cutE (fun r => [(1, r), (0, .pointer (some ⟨p, 0, none⟩)), (5, .int .i16 v), (6, .bool fx), (33, .slice a10 l10.length k10)]) (fun r w' => Apd w0 B x l (m9 ++ (arA fx (lsT (atT t 10)).length)) r w') ?_ ?_
      · refine cI (by rfl) (fun hc=>?_) (fun hc=>?_)
        · ((conv=>whnf);repeat((first|refine mvT ?_|refine mvF ?_|refine yT ?_|refine yF ?_);conv=>whnf))
          refine Does.mono (AppendCompactArrayLen_does hA.ob (Nat.le_trans hB hA.size) (by simp only [List.length_append]; omega) l10.length (by omega)) ?_;rintro r w h;((conv=>whnf);repeat((first|refine mvT ?_|refine mvF ?_|refine yT ?_|refine yF ?_);conv=>whnf))
          rw [hll10] at h
          replace hA := hA.tr h
          clear h
          refine ⟨_, ⟨rfl, rfl, rfl, rfl, rfl, trivial⟩, ?_⟩
          rw [hc]
          exact hA
        · ((conv=>whnf);repeat((first|refine mvT ?_|refine mvF ?_|refine yT ?_|refine yF ?_);conv=>whnf))
          refine Does.mono (AppendArrayLen_does hA.ob (Nat.le_trans hB hA.size) (by simp only [List.length_append]; omega) l10.length) ?_;rintro r w h;((conv=>whnf);repeat((first|refine mvT ?_|refine mvF ?_|refine yT ?_|refine yF ?_);conv=>whnf))
          rw [hll10] at h
          replace hA := hA.tr h
          clear h
          refine ⟨_, ⟨rfl, rfl, rfl, rfl, rfl, trivial⟩, ?_⟩
          rw [hc]
          exact hA
      clear hA
      rintro r w hA
      ((conv=>whnf);repeat((first|refine mvT ?_|refine mvF ?_|refine yT ?_|refine yF ?_);conv=>whnf))
      generalize hm10 : m9 ++ (arA fx (lsT (atT t 10)).length) = m10 at hA
      have hl10 : m10.length = m9.length + (arA fx (lsT (atT t 10)).length).length := by rw [← hm10, List.length_append]
      refine VL.loop (fun s : Nat × Value => [(1, s.2), (0, .pointer (some ⟨p, 0, none⟩)), (5, .int .i16 v), (6, .bool fx), (33, .slice a10 l10.length k10), (338, .slice a10 l10.length k10), (339, .int .i64 l10.length), (340, .int .i64 s.1)])
        (fun s w' => s.1 ≤ l10.length ∧ Apd w0 B x l (m10 ++ ((lsT (atT t 10)).take s.1).flatMap (bFetchRequestForgottenTopic v fx)) s.2 w') (fun s => l10.length - s.1) (0, r) ⟨rfl, rfl, rfl, rfl, rfl, rfl, rfl, rfl, trivial⟩ ⟨Nat.zero_le _, by rw [List.take_zero, List.flatMap_nil, List.append_nil]; exact hA⟩ ?_
      clear hA
      rintro ⟨i2, r⟩ w ⟨hi2, hA⟩
      dsimp only at hi2 hA
      ((conv=>whnf);repeat((first|refine mvT ?_|refine mvF ?_|refine yT ?_|refine yF ?_);conv=>whnf))
      refine cI (by rfl) (fun h9=>?_) (fun h9=>?_)
      · have hil : i2 < l10.length := by have := of_decide_eq_true h9; simp only at this; omega
        have hiL2 : i2 < (lsT (atT t 10)).length := by omega
        obtain ⟨hft, hfl⟩ := flat_take (bFetchRequestForgottenTopic v fx) (lsT (atT t 10)) i2 hiL2
        obtain ⟨b10, o10, rfl, hF10, hb10, hce10⟩ := hcl10 i2 l10[i2] (by simp [hil])
        have hre10 := hrl10 i2 l10[i2] ((lsT (atT t 10))[i2]) (by simp [hil]) (by simp [hiL2])
        have hlo10 := lsT_ok (hok.1 10 _ rfl) ((lsT (atT t 10))[i2]) (List.getElem_mem hiL2)
        generalize hm11 : m10 ++ ((lsT (atT t 10)).take i2).flatMap (bFetchRequestForgottenTopic v fx) = m11 at hA
        have hl11 : m11.length = m10.length + (((lsT (atT t 10)).take i2).flatMap (bFetchRequestForgottenTopic v fx)).length := by rw [← hm11, List.length_append]
        obtain ⟨x2, hx2⟩ : ∃ y, y = (lsT (atT t 10))[i2] := ⟨_, rfl⟩
        rw [← hx2] at hft hfl hre10 hlo10
        obtain ⟨u2_1_0, u2_1_1, u2_1_2, u2_1_3, u2_1_4, u2_1_5, u2_1_6, u2_1_7, u2_1_8, u2_1_9, u2_1_10, u2_1_11, u2_1_12, u2_1_13, u2_1_14, u2_1_15, c2_2, m2_, hcells, hc2_1, hc2_2, hm2_⟩ := hre10
        rw [hcells] at hce10
        have hok2_ := hlo10.2.2 rfl
        obtain ⟨a2_2, k2_2, l2_2, rfl, hkm2_2, hll2_2, hnn2_2, hcl2_2, hrl2_2⟩ := hc2_2.view
        have hgl : (bFetchRequestForgottenTopic v fx x2).length = (bFetchRequestForgottenTopic v fx x2).length := rfl
        conv at hgl => rhs; unfold bFetchRequestForgottenTopic
        simp only [List.length_append, List.length_nil] at hgl
        ((conv=>whnf);repeat((first|refine mvT ?_|refine mvF ?_|refine yT ?_|refine yF ?_);conv=>whnf))
        refine ⟨b10, o10, rfl, ⟨by omega, by omega⟩, ?_⟩
        ((conv=>whnf);repeat((first|refine mvT ?_|refine mvF ?_|refine yT ?_|refine yF ?_);conv=>whnf))
        apply mvG
        rotate_left
        · intro rest cq hcq
          cases cq
          · conv => whnf
            refine VC.cutE (fun r => [(1, r), (0, .pointer (some ⟨p, 0, none⟩)), (5, .int .i16 v), (6, .bool fx), (33, .slice (some ⟨b10, o10, none⟩) l10.length k10), (338, .slice (some ⟨b10, o10, none⟩) l10.length k10), (339, .int .i64 l10.length), (340, .int .i64 i2), (35, .pointer (some ⟨b10, o10 + i2 * 19, none⟩))]) (fun r w' => Apd w0 B x l (m11 ++ ((if (decide (7 ≤ v) && (decide ((12 : Int) < 0) || decide (v ≤ 12))) = true then txA fx (atT x2 0).s else []))) r w') ?_ rest
            have hcv := hcq
            ((conv=>whnf);repeat((first|refine mvT ?_|refine mvF ?_|refine yT ?_|refine yF ?_);conv=>whnf))
            refine ⟨_, ⟨rfl, rfl, rfl, rfl, rfl, rfl, rfl, rfl, rfl, trivial⟩, ?_⟩
            rw [if_neg (by simp only [ge_iff_le, decide_eq_false_iff_not] at hcv; simp; omega), List.append_nil]
            exact hA
          · conv => whnf
            refine VC.cutE (fun r => [(1, r), (0, .pointer (some ⟨p, 0, none⟩)), (5, .int .i16 v), (6, .bool fx), (33, .slice (some ⟨b10, o10, none⟩) l10.length k10), (338, .slice (some ⟨b10, o10, none⟩) l10.length k10), (339, .int .i64 l10.length), (340, .int .i64 i2), (35, .pointer (some ⟨b10, o10 + i2 * 19, none⟩))]) (fun r w' => Apd w0 B x l (m11 ++ ((if (decide (7 ≤ v) && (decide ((12 : Int) < 0) || decide (v ≤ 12))) = true then txA fx (atT x2 0).s else []))) r w') ?_ rest
            refine cI (by rfl) (fun hcv=>?_) (fun hcv=>?_)
            · ((conv=>whnf);repeat((first|refine mvT ?_|refine mvF ?_|refine yT ?_|refine yF ?_);conv=>whnf))
              refine ⟨_, ld ((hce10.ext hA.ext (hFx _ hb10 hF10)).cell (j := 0) rfl) (by simp <;> omega), ?_⟩; ((conv=>whnf);repeat((first|refine mvT ?_|refine mvF ?_|refine yT ?_|refine yF ?_);conv=>whnf))
              have hsl := fieldOK_text (hok2_.1 0 _ rfl)
              (refine mvB ?_;((conv=>whnf);repeat((first|refine mvT ?_|refine mvF ?_|refine yT ?_|refine yF ?_);conv=>whnf)))
              refine cI (by rfl) (fun hc=>?_) (fun hc=>?_)
              · ((conv=>whnf);repeat((first|refine mvT ?_|refine mvF ?_|refine yT ?_|refine yF ?_);conv=>whnf))
                refine Does.mono (AppendCompactString_does hA.ob (Nat.le_trans hB hA.size) _ (by omega) (by simp only [List.length_append]; omega)) ?_;rintro r w h;((conv=>whnf);repeat((first|refine mvT ?_|refine mvF ?_|refine yT ?_|refine yF ?_);conv=>whnf))
                replace hA := hA.tr h
                clear h
                refine ⟨_, ⟨rfl, rfl, rfl, rfl, rfl, rfl, rfl, rfl, rfl, trivial⟩, ?_⟩
                rw [if_pos (by simp only [ge_iff_le, decide_eq_true_eq] at hcv hcq; simp; omega), hc]
                exact hA
              · ((conv=>whnf);repeat((first|refine mvT ?_|refine mvF ?_|refine yT ?_|refine yF ?_);conv=>whnf))
                refine Does.mono (AppendString_does hA.ob (Nat.le_trans hB hA.size) _ (by simp only [List.length_append]; omega)) ?_;rintro r w h;((conv=>whnf);repeat((first|refine mvT ?_|refine mvF ?_|refine yT ?_|refine yF ?_);conv=>whnf))
                replace hA := hA.tr h
                clear h
                refine ⟨_, ⟨rfl, rfl, rfl, rfl, rfl, rfl, rfl, rfl, rfl, trivial⟩, ?_⟩
                rw [if_pos (by simp only [ge_iff_le, decide_eq_true_eq] at hcv hcq; simp; omega), hc]
                exact hA
            · ((conv=>whnf);repeat((first|refine mvT ?_|refine mvF ?_|refine yT ?_|refine yF ?_);conv=>whnf))
              refine ⟨_, ⟨rfl, rfl, rfl, rfl, rfl, rfl, rfl, rfl, rfl, trivial⟩, ?_⟩
              rw [if_neg (by simp only [ge_iff_le, decide_eq_false_iff_not] at hcv; simp; omega), List.append_nil]
              exact hA
        clear hA
        rintro r w hA
        ((conv=>whnf);repeat((first|refine mvT ?_|refine mvF ?_|refine yT ?_|refine yF ?_);conv=>whnf))
        generalize hm12 : m11 ++ ((if (decide (7 ≤ v) && (decide ((12 : Int) < 0) || decide (v ≤ 12))) = true then txA fx (atT x2 0).s else [])) = m12 at hA
        have hl12 : m12.length = m11.length + ((if (decide (7 ≤ v) && (decide ((12 : Int) < 0) || decide (v ≤ 12))) = true then txA fx (atT x2 0).s else [])).length := by rw [← hm12, List.length_append]
        refine VC.cutE (fun r => [(1, r), (0, .pointer (some ⟨p, 0, none⟩)), (5, .int .i16 v), (6, .bool fx), (33, .slice (some ⟨b10, o10, none⟩) l10.length k10), (338, .slice (some ⟨b10, o10, none⟩) l10.length k10), (339, .int .i64 l10.length), (340, .int .i64 i2), (35, .pointer (some ⟨b10, o10 + i2 * 19, none⟩))]) (fun r w' => Apd w0 B x l (m12 ++ ((if (decide (13 ≤ v) && (decide ((-1 : Int) < 0) || decide (v ≤ (-1)))) = true then uuidB (atT x2 1).s else []))) r w') ?_ ?_
        · refine cI (by rfl) (fun hcv=>?_) (fun hcv=>?_)
          · ((conv=>whnf);repeat((first|refine mvT ?_|refine mvF ?_|refine yT ?_|refine yF ?_);conv=>whnf))
            refine ⟨_, rfl, Cells.sub2 (hce10.ext hA.ext (hFx _ hb10 hF10)) 1 16 rfl (by simp <;> omega), ?_⟩; ((conv=>whnf);repeat((first|refine mvT ?_|refine mvF ?_|refine yT ?_|refine yF ?_);conv=>whnf))
            intro bu wu hbu hou hxu
            ((conv=>whnf);repeat((first|refine mvT ?_|refine mvF ?_|refine yT ?_|refine yF ?_);conv=>whnf))
            refine st_all [bcell u2_1_0, bcell u2_1_1, bcell u2_1_2, bcell u2_1_3, bcell u2_1_4, bcell u2_1_5, bcell u2_1_6, bcell u2_1_7, bcell u2_1_8, bcell u2_1_9, bcell u2_1_10, bcell u2_1_11, bcell u2_1_12, bcell u2_1_13, bcell u2_1_14, bcell u2_1_15] hou rfl rfl rfl ?_
            intro wv hov hxv
            ((conv=>whnf);repeat((first|refine mvT ?_|refine mvF ?_|refine yT ?_|refine yF ?_);conv=>whnf))
            replace hA := hA.e0 ((Ext.refl nob _).trans (hxu.trans hxv (M' := fun k => k = bu) fun k hk e => by omega) fun _ _ h => h)
            refine ⟨_, rfl, hov.cells, ?_⟩
            ((conv=>whnf);repeat((first|refine mvT ?_|refine mvF ?_|refine yT ?_|refine yF ?_);conv=>whnf))
            refine Does.mono (AppendUuid_does (s := [u2_1_0, u2_1_1, u2_1_2, u2_1_3, u2_1_4, u2_1_5, u2_1_6, u2_1_7, u2_1_8, u2_1_9, u2_1_10, u2_1_11, u2_1_12, u2_1_13, u2_1_14, u2_1_15]) hA.ob (Nat.le_trans hB hA.size) (by simp only [List.length_append, List.length_cons, List.length_nil]; omega)) ?_;rintro r w h;((conv=>whnf);repeat((first|refine mvT ?_|refine mvF ?_|refine yT ?_|refine yF ?_);conv=>whnf))
            replace hA := hA.tr h
            clear h
            rw [← hc2_1] at hA
            generalize hm13 : m12 ++ (uuidB (atT x2 1).s) = m13 at hA
            have hl13 : m13.length = m12.length + (uuidB (atT x2 1).s).length := by rw [← hm13, List.length_append]
            refine ⟨_, ⟨rfl, rfl, rfl, rfl, rfl, rfl, rfl, rfl, rfl, trivial⟩, ?_⟩
            rw [if_pos (by simp only [ge_iff_le, decide_eq_true_eq] at hcv; simp; omega)]
            rw [hm13]
            exact hA
          · ((conv=>whnf);repeat((first|refine mvT ?_|refine mvF ?_|refine yT ?_|refine yF ?_);conv=>whnf))
            refine ⟨_, ⟨rfl, rfl, rfl, rfl, rfl, rfl, rfl, rfl, rfl, trivial⟩, ?_⟩
            rw [if_neg (by simp only [ge_iff_le, decide_eq_false_iff_not] at hcv; simp; omega), List.append_nil]
            exact hA
        clear hA
        rintro r w hA
        ((conv=>whnf);repeat((first|refine mvT ?_|refine mvF ?_|refine yT ?_|refine yF ?_);conv=>whnf))
        generalize hm13 : m12 ++ ((if (decide (13 ≤ v) && (decide ((-1 : Int) < 0) || decide (v ≤ (-1)))) = true then uuidB (atT x2 1).s else [])) = m13 at hA
        have hl13 : m13.length = m12.length + ((if (decide (13 ≤ v) && (decide ((-1 : Int) < 0) || decide (v ≤ (-1)))) = true then uuidB (atT x2 1).s else [])).length := by rw [← hm13, List.length_append]
        refine ⟨_, ld ((hce10.ext hA.ext (hFx _ hb10 hF10)).cell (j := 17) rfl) (by simp <;> omega), ?_⟩; ((conv=>whnf);repeat((first|refine mvT ?_|refine mvF ?_|refine yT ?_|refine yF ?_);conv=>whnf))
        have hml2_2 := lsT_len (hok2_.1 2 _ rfl)
        (refine mvB ?_;((conv=>whnf);repeat((first|refine mvT ?_|refine mvF ?_|refine yT ?_|refine yF ?_);conv=>whnf)))
        refine VC.cutE (fun r => [(1, r), (0, .pointer (some ⟨p, 0, none⟩)), (5, .int .i16 v), (6, .bool fx), (33, .slice (some ⟨b10, o10, none⟩) l10.length k10), (338, .slice (some ⟨b10, o10, none⟩) l10.length k10), (339, .int .i64 l10.length), (340, .int .i64 i2), (35, .pointer (some ⟨b10, o10 + i2 * 19, none⟩)), (38, .slice a2_2 l2_2.length k2_2)]) (fun r w' => Apd w0 B x l (m13 ++ (arA fx (lsT (atT x2 2)).length)) r w') ?_ ?_
        · refine cI (by rfl) (fun hc=>?_) (fun hc=>?_)
          · ((conv=>whnf);repeat((first|refine mvT ?_|refine mvF ?_|refine yT ?_|refine yF ?_);conv=>whnf))
            refine Does.mono (AppendCompactArrayLen_does hA.ob (Nat.le_trans hB hA.size) (by simp only [List.length_append]; omega) l2_2.length (by omega)) ?_;rintro r w h;((conv=>whnf);repeat((first|refine mvT ?_|refine mvF ?_|refine yT ?_|refine yF ?_);conv=>whnf))
            rw [hll2_2] at h
            replace hA := hA.tr h
            clear h
            refine ⟨_, ⟨rfl, rfl, rfl, rfl, rfl, rfl, rfl, rfl, rfl, rfl, trivial⟩, ?_⟩
            rw [hc]
            exact hA
          · ((conv=>whnf);repeat((first|refine mvT ?_|refine mvF ?_|refine yT ?_|refine yF ?_);conv=>whnf))
            refine Does.mono (AppendArrayLen_does hA.ob (Nat.le_trans hB hA.size) (by simp only [List.length_append]; omega) l2_2.length) ?_;rintro r w h;((conv=>whnf);repeat((first|refine mvT ?_|refine mvF ?_|refine yT ?_|refine yF ?_);conv=>whnf))
            rw [hll2_2] at h
            replace hA := hA.tr h
            clear h
            refine ⟨_, ⟨rfl, rfl, rfl, rfl, rfl, rfl, rfl, rfl, rfl, rfl, trivial⟩, ?_⟩
            rw [hc]
            exact hA
        clear hA
        rintro r w hA
        ((conv=>whnf);repeat((first|refine mvT ?_|refine mvF ?_|refine yT ?_|refine yF ?_);conv=>whnf))
        generalize hm14 : m13 ++ (arA fx (lsT (atT x2 2)).length) = m14 at hA
        have hl14 : m14.length = m13.length + (arA fx (lsT (atT x2 2)).length).length := by rw [← hm14, List.length_append]
        refine VL.loop (fun s : Nat × Value => [(1, s.2), (0, .pointer (some ⟨p, 0, none⟩)), (5, .int .i16 v), (6, .bool fx), (33, .slice (some ⟨b10, o10, none⟩) l10.length k10), (338, .slice (some ⟨b10, o10, none⟩) l10.length k10), (339, .int .i64 l10.length), (340, .int .i64 i2), (35, .pointer (some ⟨b10, o10 + i2 * 19, none⟩)), (38, .slice a2_2 l2_2.length k2_2), (385, .slice a2_2 l2_2.length k2_2), (386, .int .i64 l2_2.length), (387, .int .i64 s.1)])
          (fun s w' => s.1 ≤ l2_2.length ∧ Apd w0 B x l (m14 ++ ((lsT (atT x2 2)).take s.1).flatMap (fun x => fixed x.n 4)) s.2 w') (fun s => l2_2.length - s.1) (0, r) ⟨rfl, rfl, rfl, rfl, rfl, rfl, rfl, rfl, rfl, rfl, rfl, rfl, rfl, trivial⟩ ⟨Nat.zero_le _, by rw [List.take_zero, List.flatMap_nil, List.append_nil]; exact hA⟩ ?_
        clear hA
        rintro ⟨i3, r⟩ w ⟨hi3, hA⟩
        dsimp only at hi3 hA
        ((conv=>whnf);repeat((first|refine mvT ?_|refine mvF ?_|refine yT ?_|refine yF ?_);conv=>whnf))
        refine cI (by rfl) (fun h9=>?_) (fun h9=>?_)
        · have hil : i3 < l2_2.length := by have := of_decide_eq_true h9; simp only at this; omega
          have hiL3 : i3 < (lsT (atT x2 2)).length := by omega
          obtain ⟨hft, hfl⟩ := flat_take (fun x => fixed x.n 4) (lsT (atT x2 2)) i3 hiL3
          obtain ⟨b2_2, o2_2, rfl, hF2_2, hb2_2, hce2_2⟩ := hcl2_2 i3 l2_2[i3] (by simp [hil])
          have hre2_2 := hrl2_2 i3 l2_2[i3] ((lsT (atT x2 2))[i3]) (by simp [hil]) (by simp [hiL3])
          have hlo2_2 := lsT_ok (hok2_.1 2 _ rfl) ((lsT (atT x2 2))[i3]) (List.getElem_mem hiL3)
          generalize hm15 : m14 ++ ((lsT (atT x2 2)).take i3).flatMap (fun x => fixed x.n 4) = m15 at hA
          have hl15 : m15.length = m14.length + (((lsT (atT x2 2)).take i3).flatMap (fun x => fixed x.n 4)).length := by rw [← hm15, List.length_append]
          obtain ⟨x3, hx3⟩ : ∃ y, y = (lsT (atT x2 2))[i3] := ⟨_, rfl⟩
          rw [← hx3] at hft hfl hre2_2 hlo2_2
          rw [hre2_2] at hce2_2
          ((conv=>whnf);repeat((first|refine mvT ?_|refine mvF ?_|refine yT ?_|refine yF ?_);conv=>whnf))
          refine ⟨b2_2, o2_2, rfl, ⟨by omega, by omega⟩, ?_⟩
          ((conv=>whnf);repeat((first|refine mvT ?_|refine mvF ?_|refine yT ?_|refine yF ?_);conv=>whnf))
          refine ⟨_, ld ((hce2_2.ext hA.ext (hFx _ hb2_2 hF2_2)).cell (j := 0) rfl) (by simp), ?_⟩
          ((conv=>whnf);repeat((first|refine mvT ?_|refine mvF ?_|refine yT ?_|refine yF ?_);conv=>whnf))
          refine Does.mono (AppendInt32_does hA.ob (Nat.le_trans hB hA.size) (by simp only [List.length_append]; omega) _) ?_;rintro r w h;((conv=>whnf);repeat((first|refine mvT ?_|refine mvF ?_|refine yT ?_|refine yF ?_);conv=>whnf))
          rw [fixed4_mod (wrap_i32m _)] at h
          replace hA := hA.tr h
          clear h
          generalize hm16 : m15 ++ (fixed (x3).n 4) = m16 at hA
          have hl16 : m16.length = m15.length + (fixed (x3).n 4).length := by rw [← hm16, List.length_append]
          have hfin : m15 ++ (fun x => fixed x.n 4) x3 = m16 := by simp only [← hm16, List.append_assoc, List.nil_append, List.append_nil]
          refine ⟨(i3 + 1, r), ⟨rfl, rfl, rfl, rfl, rfl, rfl, rfl, rfl, rfl, rfl, rfl, rfl, inc_eq (by rw [maxLen_eq] at hkm2_2; omega), trivial⟩, ⟨by simp only; omega, ?_⟩, by simp only; omega⟩
          rw [hft, ← List.append_assoc, hm15, hfin]
          exact hA
        have hil : i3 = l2_2.length := by have := of_decide_eq_false h9; simp only at this; omega
        ((conv=>whnf);repeat((first|refine mvT ?_|refine mvF ?_|refine yT ?_|refine yF ?_);conv=>whnf))
        rw [hil, hll2_2, List.take_length] at hA
        generalize hm15 : m14 ++ ((lsT (atT x2 2)).flatMap (fun x => fixed x.n 4)) = m15 at hA
        have hl15 : m15.length = m14.length + ((lsT (atT x2 2)).flatMap (fun x => fixed x.n 4)).length := by rw [← hm15, List.length_append]
        (refine mvB ?_;((conv=>whnf);repeat((first|refine mvT ?_|refine mvF ?_|refine yT ?_|refine yF ?_);conv=>whnf)))
        refine VC.cutB (fun r => [(1, r), (0, .pointer (some ⟨p, 0, none⟩)), (5, .int .i16 v), (6, .bool fx), (33, .slice (some ⟨b10, o10, none⟩) l10.length k10), (338, .slice (some ⟨b10, o10, none⟩) l10.length k10), (339, .int .i64 l10.length), (340, .int .i64 i2), (35, .pointer (some ⟨b10, o10 + i2 * 19, none⟩))]) (fun r w' => Apd w0 B x l (m15 ++ (tgsB fx (x2).u)) r w') ?_ ?_
        · refine cI (by rfl) (fun hc=>?_) (fun hc=>?_)
          · ((conv=>whnf);repeat((first|refine mvT ?_|refine mvF ?_|refine yT ?_|refine yF ?_);conv=>whnf))
            have hul := hok2_.2.len
            refine Does.mono (Tags_Len_does (ld ((hce10.ext hA.ext (hFx _ hb10 hF10)).cell (j := 18) rfl) (by simp <;> omega)) (hm2_.ext hA.ext hFx)) ?_;rintro r w ⟨rfl, rfl⟩;((conv=>whnf);repeat((first|refine mvT ?_|refine mvF ?_|refine yT ?_|refine yF ?_);conv=>whnf))
            rw [u32_add0 (by omega)]
            refine Does.mono (AppendUvarint_does hA.ob (Nat.le_trans hB hA.size) (x2).u.length (by omega) (by simp only [List.length_append]; omega)) ?_;rintro r w h;((conv=>whnf);repeat((first|refine mvT ?_|refine mvF ?_|refine yT ?_|refine yF ?_);conv=>whnf))
            have hul2 := uvar10 (n := (x2).u.length) (by omega)
            replace hA := hA.tr h
            clear h
            refine Does.mono (AppendEach_does (ld ((hce10.ext hA.ext (hFx _ hb10 hF10)).cell (j := 18) rfl) (by simp <;> omega)) (hm2_.ext hA.ext hFx) hok2_.2 hA.ob (Nat.le_trans hB hA.size) (hA.ne (hFR _ hF10).2 (hFR _ hF10).1) (fun j _ hf => hA.ne (hFR j hf).2 (hFR j hf).1) (by simp only [List.length_append]; omega)) ?_;rintro r w h;((conv=>whnf);repeat((first|refine mvT ?_|refine mvF ?_|refine yT ?_|refine yF ?_);conv=>whnf))
            replace hA := hA.tr h
            clear h
            refine ⟨_, ⟨rfl, rfl, rfl, rfl, rfl, rfl, rfl, rfl, rfl, trivial⟩, ?_⟩
            rw [tgsB, if_pos hc, ← List.append_assoc]
            exact hA
          · ((conv=>whnf);repeat((first|refine mvT ?_|refine mvF ?_|refine yT ?_|refine yF ?_);conv=>whnf))
            refine ⟨_, ⟨rfl, rfl, rfl, rfl, rfl, rfl, rfl, rfl, rfl, trivial⟩, ?_⟩
            rw [tgsB, if_neg (by rw [hc]; decide), List.append_nil]
            exact hA
        clear hA
        rintro r w hA
        ((conv=>whnf);repeat((first|refine mvT ?_|refine mvF ?_|refine yT ?_|refine yF ?_);conv=>whnf))
        generalize hm16 : m15 ++ (tgsB fx (x2).u) = m16 at hA
        have hl16 : m16.length = m15.length + (tgsB fx (x2).u).length := by rw [← hm16, List.length_append]
        have hfin : m11 ++ (bFetchRequestForgottenTopic v fx) x2 = m16 := by unfold bFetchRequestForgottenTopic; simp only [← hm16, ← hm15, ← hm14, ← hm13, ← hm12, List.append_assoc, List.nil_append, List.append_nil]
        refine ⟨(i2 + 1, r), ⟨rfl, rfl, rfl, rfl, rfl, rfl, rfl, inc_eq (by rw [maxLen_eq] at hkm10; omega), trivial⟩, ⟨by simp only; omega, ?_⟩, by simp only; omega⟩
        rw [hft, ← List.append_assoc, hm11, hfin]
        exact hA
      have hil : i2 = l10.length := by have := of_decide_eq_false h9; simp only at this; omega
      ((conv=>whnf);repeat((first|refine mvT ?_|refine mvF ?_|refine yT ?_|refine yF ?_);conv=>whnf))
      rw [hil, hll10, List.take_length] at hA
      generalize hm11 : m10 ++ ((lsT (atT t 10)).flatMap (bFetchRequestForgottenTopic v fx)) = m11 at hA
      have hl11 : m11.length = m10.length + ((lsT (atT t 10)).flatMap (bFetchRequestForgottenTopic v fx)).length := by rw [← hm11, List.length_append]
      refine ⟨_, ⟨rfl, rfl, rfl, rfl, trivial⟩, ?_⟩
      rw [if_pos (by simp only [ge_iff_le, decide_eq_true_eq] at hcv; simp; omega)]
      rw [show m9 ++ (arA fx (lsT (atT t 10)).length ++ (lsT (atT t 10)).flatMap (bFetchRequestForgottenTopic v fx)) = m11 by simp only [← hm11, ← hm10, List.append_assoc]]
      exact hA
    · ((conv=>whnf);repeat((first|refine mvT ?_|refine mvF ?_|refine yT ?_|refine yF ?_);conv=>whnf))
      refine ⟨_, ⟨rfl, rfl, rfl, rfl, trivial⟩, ?_⟩
      rw [if_neg (by simp only [ge_iff_le, decide_eq_false_iff_not] at hcv; simp; omega), List.append_nil]
      exact hA
  clear hA
  rintro r w hA
  ((conv=>whnf);repeat((first|refine mvT ?_|refine mvF ?_|refine yT ?_|refine yF ?_);conv=>whnf))
  generalize hm10 : m9 ++ ((if (decide (7 ≤ v) && (decide ((-1 : Int) < 0) || decide (v ≤ (-1)))) = true then arA fx (lsT (atT t 10)).length ++ (lsT (atT t 10)).flatMap (bFetchRequestForgottenTopic v fx) else [])) = m10 at hA
  have hl10 : m10.length = m9.length + ((if (decide (7 ≤ v) && (decide ((-1 : Int) < 0) || decide (v ≤ (-1)))) = true then arA fx (lsT (atT t 10)).length ++ (lsT (atT t 10)).flatMap (bFetchRequestForgottenTopic v fx) else [])).length := by rw [← hm10, List.length_append]
  refine VC.cutE (fun r => [(1, r), (0, .pointer (some ⟨p, 0, none⟩)), (5, .int .i16 v), (6, .bool fx)]) (fun r w' => Apd w0 B x l (m10 ++ ((if (decide (11 ≤ v) && (decide ((-1 : Int) < 0) || decide (v ≤ (-1)))) = true then txA fx (atT t 11).s else []))) r w') ?_ ?_
  · refine cI (by rfl) (fun hcv=>?_) (fun hcv=>?_)
    · ((conv=>whnf);repeat((first|refine mvT ?_|refine mvF ?_|refine yT ?_|refine yF ?_);conv=>whnf))
      refine ldS ((hp.ext hA.ext hxp).cell rfl) ?_;((conv=>whnf);repeat((first|refine mvT ?_|refine mvF ?_|refine yT ?_|refine yF ?_);conv=>whnf))
      have hsl := fieldOK_text (hok.1 11 _ rfl)
      (refine mvB ?_;((conv=>whnf);repeat((first|refine mvT ?_|refine mvF ?_|refine yT ?_|refine yF ?_);conv=>whnf)))
      refine cI (by rfl) (fun hc=>?_) (fun hc=>?_)
      · ((conv=>whnf);repeat((first|refine mvT ?_|refine mvF ?_|refine yT ?_|refine yF ?_);conv=>whnf))
        refine Does.mono (AppendCompactString_does hA.ob (Nat.le_trans hB hA.size) _ (by omega) (by simp only [List.length_append]; omega)) ?_;rintro r w h;((conv=>whnf);repeat((first|refine mvT ?_|refine mvF ?_|refine yT ?_|refine yF ?_);conv=>whnf))
        replace hA := hA.tr h
        clear h
        refine ⟨_, ⟨rfl, rfl, rfl, rfl, trivial⟩, ?_⟩
        rw [if_pos (by simp only [ge_iff_le, decide_eq_true_eq] at hcv; simp; omega), hc]
        exact hA
      · ((conv=>whnf);repeat((first|refine mvT ?_|refine mvF ?_|refine yT ?_|refine yF ?_);conv=>whnf))
        refine Does.mono (AppendString_does hA.ob (Nat.le_trans hB hA.size) _ (by simp only [List.length_append]; omega)) ?_;rintro r w h;((conv=>whnf);repeat((first|refine mvT ?_|refine mvF ?_|refine yT ?_|refine yF ?_);conv=>whnf))
        replace hA := hA.tr h
        clear h
        refine ⟨_, ⟨rfl, rfl, rfl, rfl, trivial⟩, ?_⟩
        rw [if_pos (by simp only [ge_iff_le, decide_eq_true_eq] at hcv; simp; omega), hc]
        exact hA
    · ((conv=>whnf);repeat((first|refine mvT ?_|refine mvF ?_|refine yT ?_|refine yF ?_);conv=>whnf))
      refine ⟨_, ⟨rfl, rfl, rfl, rfl, trivial⟩, ?_⟩
      rw [if_neg (by simp only [ge_iff_le, decide_eq_false_iff_not] at hcv; simp; omega), List.append_nil]
      exact hA
  clear hA
  rintro r w hA
  ((conv=>whnf);repeat((first|refine mvT ?_|refine mvF ?_|refine yT ?_|refine yF ?_);conv=>whnf))
  generalize hm11 : m10 ++ ((if (decide (11 ≤ v) && (decide ((-1 : Int) < 0) || decide (v ≤ (-1)))) = true then txA fx (atT t 11).s else [])) = m11 at hA
  have hl11 : m11.length = m10.length + ((if (decide (11 ≤ v) && (decide ((-1 : Int) < 0) || decide (v ≤ (-1)))) = true then txA fx (atT t 11).s else [])).length := by rw [← hm11, List.length_append]
  (refine mvB ?_;((conv=>whnf);repeat((first|refine mvT ?_|refine mvF ?_|refine yT ?_|refine yF ?_);conv=>whnf)))
  refine VC.cutE (fun r => [(1, r), (0, .pointer (some ⟨p, 0, none⟩)), (5, .int .i16 v), (6, .bool fx)]) (fun r w' => Apd w0 B x l (m11 ++ ((if fx = true then uvar ((gFetchRequest v fx t).length + (t).u.length) ++ ((gFetchRequest v fx t).flatMap tagB ++ (t).u.flatMap tagB) else []))) r w') ?_ ?_
  · refine cI (by rfl) (fun hc=>?_) (fun hc=>?_)
    · ((conv=>whnf);repeat((first|refine mvT ?_|refine mvF ?_|refine yT ?_|refine yF ?_);conv=>whnf))
      rw [if_pos hc] at hl hs32
      simp only [List.length_append] at hl hs32
      obtain ⟨wT, rfl⟩ : ∃ y, y = w := ⟨w, rfl⟩
      have hos := OSl.nil wT wT.heap.size 59 1
      have hex := Ext.refl nob wT
      obtain ⟨ev, hev⟩ : ∃ y : Value, y = .slice none 0 0 := ⟨_, rfl⟩
      obtain ⟨ks, hks⟩ : ∃ y : List Nat, y = [] := ⟨_, rfl⟩
      obtain ⟨q0, rfl, hq0⟩ := hc0.ptr
      refine ldS ((hp.ext (hA.e0 hex).ext hxp).cell rfl) ?_;((conv=>whnf);repeat((first|refine mvT ?_|refine mvF ?_|refine yT ?_|refine yF ?_);conv=>whnf))
      refine VC.cutE (fun q : Value × List Nat => [(1, r), (42, q.1), (0, .pointer (some ⟨p, 0, none⟩)), (5, .int .i16 v), (6, .bool fx)]) (fun q w' => OSl w' wT.heap.size 59 1 q.1 (q.2.map fun (k : Nat) => [.int .u32 (k : Int)]) ∧ Ext nob wT w' ∧ q.2 = ([]) ++ (if ncB (.mk 8 0 (-1) 0 0 0 0 []) (atT t 0) = false then [0] else [])) ?_ ?_
      · refine cI (by rfl) (fun hcd=>?_) (fun hcd=>?_)
        · ((conv=>whnf);repeat((first|refine mvT ?_|refine mvF ?_|refine yT ?_|refine yF ?_);conv=>whnf))
          have hos : OSl _ wT.heap.size 59 1 (.slice none 0 0) ((([] : List Nat)).map fun (k : Nat) => [.int .u32 (k : Int)]) := hos
          have hnc : ncB (.mk 8 0 (-1) 0 0 0 0 []) (atT t 0) = false := by
            show (atT t 0).nl = false
            rw [← hq0]
            simpa using hcd
          intro be we hbe hoe hxe
          ((conv=>whnf);repeat((first|refine mvT ?_|refine mvF ?_|refine yT ?_|refine yF ?_);conv=>whnf))
          have hsx := hxe.size
          have hsT := hex.size
          refine app_struct (ms := [[.int .u32 (0 : Int)]]) rfl (hos.e0 hxe) (src_one hoe rfl rfl) (by simp) rfl rfl (by have hkl : ([] : List Nat).length ≤ 0 := (Nat.le_refl 0); constructor <;> (simp only [List.length_map, List.length_singleton]; omega)) (by omega) ?_
          intro v5 w5 hos5 hx5 hb5 hnn5
          ((conv=>whnf);repeat((first|refine mvT ?_|refine mvF ?_|refine yT ?_|refine yF ?_);conv=>whnf))
          exact ⟨(v5, [] ++ [0]), ⟨rfl, rfl, rfl, rfl, rfl, trivial⟩, by simpa using hos5, (hex.e0 hxe).trans hx5 fun k hk e => by have := hos.blk k e; omega, by rw [if_pos hnc]⟩
        · ((conv=>whnf);repeat((first|refine mvT ?_|refine mvF ?_|refine yT ?_|refine yF ?_);conv=>whnf))
          have hos : OSl _ wT.heap.size 59 1 (.slice none 0 0) ((([] : List Nat)).map fun (k : Nat) => [.int .u32 (k : Int)]) := hos
          have hnc : ¬ (ncB (.mk 8 0 (-1) 0 0 0 0 []) (atT t 0) = false) := by
            show ¬ (atT t 0).nl = false
            rw [← hq0]
            simpa using hcd
          exact ⟨((.slice none 0 0), []), ⟨rfl, rfl, rfl, rfl, rfl, trivial⟩, hos, hex, by rw [if_neg hnc]; rfl⟩
      clear hos hex hks
      rintro ⟨ev, ks⟩ w ⟨hos, hex, hks⟩
      dsimp only at hos hex hks
      ((conv=>whnf);repeat((first|refine mvT ?_|refine mvF ?_|refine yT ?_|refine yF ?_);conv=>whnf))
      have hkl : ks.length ≤ 1 := by rw [hks]; (repeat' split) <;> simp
      obtain ⟨m2_, hcells, hm2_⟩ := hc2
      simp only [List.cons.injEq, and_true] at hcells
      obtain ⟨rfl, rfl, rfl⟩ := hcells
      refine VD.draw mixed (.q 0 (.q 1 (.q 2 (.q 3 (.eff 4 [3] (.eff 5 [] (.q 6 (.done)))))))) (by kernel_rfl) ?_;((conv=>whnf);repeat((first|refine mvT ?_|refine mvF ?_|refine yT ?_|refine yF ?_);conv=>whnf))
      replace hos := hos.e0 (ext_drew _)
      replace hex := hex.e0 (ext_drew _)
      refine ⟨_, rfl, Cells.sub (hp.ext (hA.e0 hex).ext hxp).cells 3 3 rfl, ?_⟩; ((conv=>whnf);repeat((first|refine mvT ?_|refine mvF ?_|refine yT ?_|refine yF ?_);conv=>whnf))
      refine Does.mono (dfltFetchRequestReplicaState) ?_;rintro rd wd ⟨rfl, hxd⟩;((conv=>whnf);repeat((first|refine mvT ?_|refine mvF ?_|refine yT ?_|refine yF ?_);conv=>whnf))
      replace hos := hos.e0 hxd
      replace hex := hex.e0 hxd
      refine ⟨⟨⟨_, rfl, Cells.sub (hp.ext (hA.e0 hex).ext hxp).cells 3 3 rfl, rfl, rfl⟩, trivial⟩, ?_⟩
      ((conv=>whnf);repeat((first|refine mvT ?_|refine mvF ?_|refine yT ?_|refine yF ?_);conv=>whnf))
      refine Does.mono (sameFetchRequestReplicaState (hm2_.ext (hA.e0 hex).ext hFx)) ?_;rintro rs ws ⟨rfl, hxs⟩;((conv=>whnf);repeat((first|refine mvT ?_|refine mvF ?_|refine yT ?_|refine yF ?_);conv=>whnf))
      replace hos := hos.e0 hxs
      replace hex := hex.e0 hxs
      refine VC.cutE (fun q : Value × List Nat => [(1, r), (42, q.1), (0, .pointer (some ⟨p, 0, none⟩)), (5, .int .i16 v), (6, .bool fx)]) (fun q w' => OSl w' wT.heap.size 59 1 q.1 (q.2.map fun (k : Nat) => [.int .u32 (k : Int)]) ∧ Ext nob wT w' ∧ q.2 = (([]) ++ (if ncB (.mk 8 0 (-1) 0 0 0 0 []) (atT t 0) = false then [0] else [])) ++ (if ncB (.mk 10 0 (-1) (-1) 1 0 0 dFetchRequestReplicaState) (atT t 2) = false then [1] else [])) ?_ ?_
      · refine cI (by rfl) (fun hcd=>?_) (fun hcd=>?_)
        · ((conv=>whnf);repeat((first|refine mvT ?_|refine mvF ?_|refine yT ?_|refine yF ?_);conv=>whnf))
          have hnc : ncB (.mk 10 0 (-1) (-1) 1 0 0 dFetchRequestReplicaState) (atT t 2) = false := by
            simpa using hcd
          intro be we hbe hoe hxe
          ((conv=>whnf);repeat((first|refine mvT ?_|refine mvF ?_|refine yT ?_|refine yF ?_);conv=>whnf))
          have hsx := hxe.size
          have hsT := hex.size
          refine app_struct (ms := [[.int .u32 (1 : Int)]]) rfl (hos.e0 hxe) (src_one hoe rfl rfl) (by simp) rfl rfl (by have hkl : (ks : List Nat).length ≤ 1 := hkl; constructor <;> (simp only [List.length_map, List.length_singleton]; omega)) (by omega) ?_
          intro v5 w5 hos5 hx5 hb5 hnn5
          ((conv=>whnf);repeat((first|refine mvT ?_|refine mvF ?_|refine yT ?_|refine yF ?_);conv=>whnf))
          exact ⟨(v5, ks ++ [1]), ⟨rfl, rfl, rfl, rfl, rfl, trivial⟩, by simpa using hos5, (hex.e0 hxe).trans hx5 fun k hk e => by have := hos.blk k e; omega, by rw [if_pos hnc]; dsimp only; rw [hks]⟩
        · ((conv=>whnf);repeat((first|refine mvT ?_|refine mvF ?_|refine yT ?_|refine yF ?_);conv=>whnf))
          have hnc : ¬ (ncB (.mk 10 0 (-1) (-1) 1 0 0 dFetchRequestReplicaState) (atT t 2) = false) := by
            simpa using hcd
          exact ⟨(ev, ks), ⟨rfl, rfl, rfl, rfl, rfl, trivial⟩, hos, hex, by rw [if_neg hnc, List.append_nil]; exact hks⟩
      clear hos hex hks
      rintro ⟨ev, ks⟩ w ⟨hos, hex, hks⟩
      dsimp only at hos hex hks
      ((conv=>whnf);repeat((first|refine mvT ?_|refine mvF ?_|refine yT ?_|refine yF ?_);conv=>whnf))
      have hkl : ks.length ≤ 2 := by rw [hks]; (repeat' split) <;> simp
      have hrT : ∀ k, r.ownBlock = some k → k < wT.heap.size := hA.ob.lt
      have hA := hA.e0 hex
      obtain ⟨ae, ke, hev, _, hke⟩ := hos.shape
      rw [List.length_map] at hev
      subst hev
      have hkm : ∀ k ∈ ks, k = 0 ∨ k = 1 := by rw [hks]; intro k hk; (repeat' split at hk) <;> simp at hk <;> omega
      obtain ⟨tb, htb⟩ : ∃ y : Nat → List UInt8, y = fun k => tagB (k, if k = 0 then ntA fx (atT t 0).nl (atT t 0).s else (if k = 1 then bFetchRequestReplicaState v fx (atT t 2) else ([]))) := ⟨_, rfl⟩
      have hgq : (gFetchRequest v fx t).length = ks.length := by
        rw [hks]
        unfold gFetchRequest
        (repeat' split) <;> simp
      have hgf : (gFetchRequest v fx t).flatMap tagB = ks.flatMap tb := by
        rw [hks, htb]
        unfold gFetchRequest
        (repeat' split) <;> simp
      rw [hgq, hgf] at hl hs32
      have hul := hok.2.len
      have hul2 := uvar10 (n := ks.length + (t).u.length) (by omega)
      refine Does.mono (Tags_Len_does ((hp.ext hA.ext hxp).cell rfl) (hm.ext hA.ext hFx)) ?_;rintro r2 w2 ⟨rfl, rfl⟩;((conv=>whnf);repeat((first|refine mvT ?_|refine mvF ?_|refine yT ?_|refine yF ?_);conv=>whnf))
      rw [u32_sum (by omega)]
      refine Does.mono (AppendUvarint_does hA.ob (Nat.le_trans hB hA.size) (ks.length + (t).u.length) (by omega) (by simp only [List.length_append]; omega)) ?_;rintro r w h;((conv=>whnf);repeat((first|refine mvT ?_|refine mvF ?_|refine yT ?_|refine yF ?_);conv=>whnf))
      have hsep : ∀ k, (Value.slice ae ks.length ke).ownBlock = some k → r.ownBlock ≠ some k := fun k hk => h.ne (fun e => by have := hrT k e; have := hos.blk k hk; omega) (hos.own.lt k hk)
      have hos := hos.ext h.ext fun k hk e => by have := hrT k e; have := hos.blk k hk; omega
      replace hA := hA.tr h
      clear h
      generalize hm12 : m11 ++ (uvar (ks.length + (t).u.length)) = m12 at hA
      have hl12 : m12.length = m11.length + (uvar (ks.length + (t).u.length)).length := by rw [← hm12, List.length_append]
      refine VL.loop (fun s : Nat × Value => [(1, s.2), (0, .pointer (some ⟨p, 0, none⟩)), (5, .int .i16 v), (6, .bool fx), (455, (.slice ae ks.length ke)), (456, .int .i64 ks.length), (457, .int .i64 s.1)])
        (fun s w' => s.1 ≤ ks.length ∧ Apd w0 B x l (m12 ++ (ks.take s.1).flatMap tb) s.2 w' ∧ OSl w' wT.heap.size 59 1 (.slice ae ks.length ke) (ks.map fun (k : Nat) => [.int .u32 (k : Int)]) ∧ ∀ k, (Value.slice ae ks.length ke).ownBlock = some k → s.2.ownBlock ≠ some k) (fun s => ks.length - s.1) (0, r) ⟨rfl, rfl, rfl, rfl, rfl, rfl, rfl, trivial⟩ ⟨Nat.zero_le _, by rw [List.take_zero, List.flatMap_nil, List.append_nil]; exact hA, hos, hsep⟩ ?_
      clear hA hos hsep
      rintro ⟨ii, r⟩ w ⟨hii, hA, hos, hsep⟩
      dsimp only at hii hA hos hsep
      ((conv=>whnf);repeat((first|refine mvT ?_|refine mvF ?_|refine yT ?_|refine yF ?_);conv=>whnf))
      refine cI (by rfl) (fun h9=>?_) (fun h9=>?_)
      · have hil : ii < ks.length := by have := of_decide_eq_true h9; simp only at this; omega
        obtain ⟨hft, hfl⟩ := flat_take tb ks ii hil
        obtain ⟨ge, rfl⟩ := hos.some (i := ii) (by simpa using hil)
        have hce := hos.elem (i := ii) (c := [.int .u32 ((ks[ii] : Nat) : Int)]) (by simp [hil])
        ((conv=>whnf);repeat((first|refine mvT ?_|refine mvF ?_|refine yT ?_|refine yF ?_);conv=>whnf))
        refine ⟨ge, 0, rfl, ⟨by omega, by omega⟩, ?_⟩
        ((conv=>whnf);repeat((first|refine mvT ?_|refine mvF ?_|refine yT ?_|refine yF ?_);conv=>whnf))
        refine ⟨_, ld (hce.cell (j := 0) rfl) (by simp), ?_⟩
        ((conv=>whnf);repeat((first|refine mvT ?_|refine mvF ?_|refine yT ?_|refine yF ?_);conv=>whnf))
        have hkx := hkm _ (List.getElem_mem hil)
        obtain ⟨kx, hkxe⟩ : ∃ y, y = ks[ii] := ⟨_, rfl⟩
        rw [← hkxe] at hkx hft hfl ⊢
        have hA0 := hA
        have hplO := hpl
        replace hp := hp.ext hA.ext hxp
        have hpl := Nat.lt_of_lt_of_le hpl hA.size
        have hxp := hA.ne hxp hplO
        replace hc0 := hc0.ext hA.ext hFx
        replace hm2_ := hm2_.ext hA.ext hFx
        have hFxO := hFx
        have hFx : ∀ j, j < w.heap.size → F0 j → ¬ r.ownBlock = some j := fun j _ hf => hA.ne (hFR j hf).2 (hFR j hf).1
        have hFR : ∀ j, F0 j → j < w.heap.size ∧ r.ownBlock ≠ some j := fun j hf => ⟨Nat.lt_of_lt_of_le (hFR j hf).1 hA.size, hA.ne (hFR j hf).2 (hFR j hf).1⟩
        have hB := Nat.le_trans hB hA.size
        have hob := hA.ob
        clear hA
        obtain ⟨lI, hlI⟩ : ∃ y : List UInt8, y = l ++ (m12 ++ (ks.take ii).flatMap tb) := ⟨_, rfl⟩
        rw [← hlI] at hob
        have hlIl := congrArg List.length hlI
        simp only [List.length_append] at hlIl
        obtain ⟨w0, hwI⟩ : ∃ y : World, y = w := ⟨_, rfl⟩
        subst hwI
        obtain ⟨x, hrI⟩ : ∃ y : Value, y = r := ⟨_, rfl⟩
        subst hrI
        obtain ⟨l, hlJ⟩ : ∃ y : List UInt8, y = lI := ⟨_, rfl⟩
        subst hlJ
        have hA := Apd.start hob
        obtain ⟨m13, hm13⟩ : ∃ m : List UInt8, m = [] := ⟨_, rfl⟩
        rw [← hm13] at hA
        have hl13 : m13.length = 0 := by rw [hm13]; rfl
        refine cI (by rfl) (fun hk0=>?_) (fun hk0=>?_)
        · have hkk : kx = 0 := by have := of_decide_eq_true hk0; omega
          obtain ⟨np, hnp⟩ : ∃ y, y = (ntA fx (atT t 0).nl (atT t 0).s).length := ⟨_, rfl⟩
          have htb0 : tb kx = uvar 0 ++ (uvar np ++ (ntA fx (atT t 0).nl (atT t 0).s)) := by
            rw [hnp, hkk, htb]
            show tagB (0, if 0 = 0 then ntA fx (atT t 0).nl (atT t 0).s else (if 0 = 1 then bFetchRequestReplicaState v fx (atT t 2) else ([]))) = _
            rw [if_pos rfl]
            unfold tagB
            rw [List.append_assoc]
          rw [htb0] at hft hfl
          have hnp0 := hnp
          simp only [List.length_append] at hfl hnp
          obtain ⟨m14, hm14⟩ : ∃ y, m13 ++ (uvar 0) = y := ⟨_, rfl⟩
          have hl14 : m14.length = m13.length + (uvar 0).length := by rw [← hm14, List.length_append]
          ((conv=>whnf);repeat((first|refine mvT ?_|refine mvF ?_|refine yT ?_|refine yF ?_);conv=>whnf))
          refine VO.scope (l := 0) (fun q : Value => [(1, q), (0, .pointer (some ⟨p, 0, none⟩)), (5, .int .i16 v), (6, .bool fx), (455, (.slice (some ⟨ge, 0, none⟩) ks.length ke)), (456, .int .i64 ks.length), (457, .int .i64 ii), (45, .pointer q0), (46, .bool true), (47, .int .i64 ((l ++ m14).length : Nat))]) (fun q w' => Apd w0 B x l (m14 ++ uvar np) q w') rfl ?_ ?_
          · ((conv=>whnf);repeat((first|refine mvT ?_|refine mvF ?_|refine yT ?_|refine yF ?_);conv=>whnf))
            refine ldS ((hp.ext hA.ext hxp).cell rfl) ?_;((conv=>whnf);repeat((first|refine mvT ?_|refine mvF ?_|refine yT ?_|refine yF ?_);conv=>whnf))
            refine Does.mono (AppendUvarint_does hA.ob (Nat.le_trans hB hA.size) 0 (by omega) (by simp only [List.length_append]; omega)) ?_;rintro r w h;((conv=>whnf);repeat((first|refine mvT ?_|refine mvF ?_|refine yT ?_|refine yF ?_);conv=>whnf))
            replace hA := hA.tr h
            clear h
            rw [hm14] at hA
            obtain ⟨ar, cr, rfl, _, _⟩ := hA.ob.shape
            ((conv=>whnf);repeat((first|refine mvT ?_|refine mvF ?_|refine yT ?_|refine yF ?_);conv=>whnf))
            refine VO.label ?_
            ((conv=>whnf);repeat((first|refine mvT ?_|refine mvF ?_|refine yT ?_|refine yF ?_);conv=>whnf))
            have hsl := fieldOK_text (hok.1 0 _ rfl)
            (refine mvB ?_;((conv=>whnf);repeat((first|refine mvT ?_|refine mvF ?_|refine yT ?_|refine yF ?_);conv=>whnf)))
            refine VC.cutE (fun r => [(1, r), (0, .pointer (some ⟨p, 0, none⟩)), (5, .int .i16 v), (6, .bool fx), (455, (.slice (some ⟨ge, 0, none⟩) ks.length ke)), (456, .int .i64 ks.length), (457, .int .i64 ii), (45, .pointer q0), (46, .bool false), (47, .int .i64 ((l ++ m14).length : Nat))]) (fun r w' => Apd w0 B x l (m14 ++ (ntA fx (atT t 0).nl (atT t 0).s)) r w') ?_ ?_
            · refine cI (by rfl) (fun hc=>?_) (fun hc=>?_)
              · ((conv=>whnf);repeat((first|refine mvT ?_|refine mvF ?_|refine yT ?_|refine yF ?_);conv=>whnf))
                refine Does.mono (AppendCompactNullableString_R hA.ob (Nat.le_trans hB hA.size) (hc0.ext hA.ext hFx) hsl (by simp only [List.length_append]; omega)) ?_;rintro r w h;((conv=>whnf);repeat((first|refine mvT ?_|refine mvF ?_|refine yT ?_|refine yF ?_);conv=>whnf))
                replace hA := hA.tr h
                clear h
                refine ⟨_, ⟨rfl, rfl, rfl, rfl, rfl, rfl, rfl, rfl, rfl, rfl, trivial⟩, ?_⟩
                rw [hc]
                exact hA
              · ((conv=>whnf);repeat((first|refine mvT ?_|refine mvF ?_|refine yT ?_|refine yF ?_);conv=>whnf))
                refine Does.mono (AppendNullableString_R hA.ob (Nat.le_trans hB hA.size) (hc0.ext hA.ext hFx) (by simp only [List.length_append]; omega)) ?_;rintro r w h;((conv=>whnf);repeat((first|refine mvT ?_|refine mvF ?_|refine yT ?_|refine yF ?_);conv=>whnf))
                replace hA := hA.tr h
                clear h
                refine ⟨_, ⟨rfl, rfl, rfl, rfl, rfl, rfl, rfl, rfl, rfl, rfl, trivial⟩, ?_⟩
                rw [hc]
                exact hA
            clear hA
            rintro r w hA
            ((conv=>whnf);repeat((first|refine mvT ?_|refine mvF ?_|refine yT ?_|refine yF ?_);conv=>whnf))
            generalize hm15 : m14 ++ (ntA fx (atT t 0).nl (atT t 0).s) = m15 at hA
            have hl15 : m15.length = m14.length + (ntA fx (atT t 0).nl (atT t 0).s).length := by rw [← hm15, List.length_append]
            rw [show m15 = m14 ++ (ntA fx (atT t 0).nl (atT t 0).s) by simp only [← hm15, List.append_assoc, List.nil_append, List.append_nil]] at hA
            obtain ⟨ar, cr, rfl, _, _⟩ := hA.ob.shape
            refine VD.draw mixed (.q 0 (.q 1 (.q 2 (.q 3 (.q 4 (.q 5 (.q 6 (.q 7 (.eff 8 [] (.eff 9 [] (.done))))))))))) (by kernel_rfl) ?_;((conv=>whnf);repeat((first|refine mvT ?_|refine mvF ?_|refine yT ?_|refine yF ?_);conv=>whnf))
            replace hA := hA.e0 (ext_drew _)
            refine cut_back hA rfl ?_
            refine cut_rest hA rfl ?_
            intro ax kx
            ((conv=>whnf);repeat((first|refine mvT ?_|refine mvF ?_|refine yT ?_|refine yF ?_);conv=>whnf))
            rw [u32_nat (by rw [← hnp0]; omega)]
            refine Does.mono (AppendUvarint_does hA.cut.ob (Nat.le_trans hB hA.size) (ntA fx (atT t 0).nl (atT t 0).s).length (by omega) (by simp only [List.length_append]; omega)) ?_;rintro r w h;((conv=>whnf);repeat((first|refine mvT ?_|refine mvF ?_|refine yT ?_|refine yF ?_);conv=>whnf))
            replace hA := hA.cut.tr h
            clear h
            ((conv=>whnf);repeat((first|refine mvT ?_|refine mvF ?_|refine yT ?_|refine yF ?_);conv=>whnf))
            refine VO.goto ?_
            refine ⟨r, ⟨rfl, rfl, rfl, rfl, rfl, rfl, rfl, rfl, rfl, rfl, trivial⟩, ?_⟩
            rw [hnp0]
            exact hA
          · clear hA
            rintro r w hA
            ((conv=>whnf);repeat((first|refine mvT ?_|refine mvF ?_|refine yT ?_|refine yF ?_);conv=>whnf))
            generalize hm15 : m14 ++ (uvar np) = m15 at hA
            have hl15 : m15.length = m14.length + (uvar np).length := by rw [← hm15, List.length_append]
            have hsl := fieldOK_text (hok.1 0 _ rfl)
            (refine mvB ?_;((conv=>whnf);repeat((first|refine mvT ?_|refine mvF ?_|refine yT ?_|refine yF ?_);conv=>whnf)))
            refine VC.cutE (fun r => [(1, r), (0, .pointer (some ⟨p, 0, none⟩)), (5, .int .i16 v), (6, .bool fx), (455, (.slice (some ⟨ge, 0, none⟩) ks.length ke)), (456, .int .i64 ks.length), (457, .int .i64 ii), (45, .pointer q0), (46, .bool true), (47, .int .i64 ((l ++ m14).length : Nat))]) (fun r w' => Apd w0 B x l (m15 ++ (ntA fx (atT t 0).nl (atT t 0).s)) r w') ?_ ?_
            · refine cI (by rfl) (fun hc=>?_) (fun hc=>?_)
              · ((conv=>whnf);repeat((first|refine mvT ?_|refine mvF ?_|refine yT ?_|refine yF ?_);conv=>whnf))
                refine Does.mono (AppendCompactNullableString_R hA.ob (Nat.le_trans hB hA.size) (hc0.ext hA.ext hFx) hsl (by simp only [List.length_append]; omega)) ?_;rintro r w h;((conv=>whnf);repeat((first|refine mvT ?_|refine mvF ?_|refine yT ?_|refine yF ?_);conv=>whnf))
                replace hA := hA.tr h
                clear h
                refine ⟨_, ⟨rfl, rfl, rfl, rfl, rfl, rfl, rfl, rfl, rfl, rfl, trivial⟩, ?_⟩
                rw [hc]
                exact hA
              · ((conv=>whnf);repeat((first|refine mvT ?_|refine mvF ?_|refine yT ?_|refine yF ?_);conv=>whnf))
                refine Does.mono (AppendNullableString_R hA.ob (Nat.le_trans hB hA.size) (hc0.ext hA.ext hFx) (by simp only [List.length_append]; omega)) ?_;rintro r w h;((conv=>whnf);repeat((first|refine mvT ?_|refine mvF ?_|refine yT ?_|refine yF ?_);conv=>whnf))
                replace hA := hA.tr h
                clear h
                refine ⟨_, ⟨rfl, rfl, rfl, rfl, rfl, rfl, rfl, rfl, rfl, rfl, trivial⟩, ?_⟩
                rw [hc]
                exact hA
            clear hA
            rintro r w hA
            ((conv=>whnf);repeat((first|refine mvT ?_|refine mvF ?_|refine yT ?_|refine yF ?_);conv=>whnf))
            generalize hm16 : m15 ++ (ntA fx (atT t 0).nl (atT t 0).s) = m16 at hA
            have hl16 : m16.length = m15.length + (ntA fx (atT t 0).nl (atT t 0).s).length := by rw [← hm16, List.length_append]
            have hfin : m16 = uvar 0 ++ (uvar np ++ (ntA fx (atT t 0).nl (atT t 0).s)) := by simp only [← hm16, ← hm15, ← hm14, hm13, List.append_assoc, List.nil_append, List.append_nil]
            refine ⟨(ii + 1, r), ⟨rfl, rfl, rfl, rfl, rfl, rfl, inc_eq (by omega), trivial⟩, ⟨by simp only; omega, ?_, ?_, ?_⟩, by simp only; omega⟩
            · have hA1 := hA
              rw [hfin, hlI] at hA1
              have h := hA0.tr hA1
              rw [hft, ← List.append_assoc]
              exact h
            · exact hos.ext hA.ext fun k hk e => hsep k hk e
            · exact fun k hk => hA.ne (hsep k hk) (hos.own.lt k hk)
        · ((conv=>whnf);repeat((first|refine mvT ?_|refine mvF ?_|refine yT ?_|refine yF ?_);conv=>whnf))
          have hkk0 : kx ≠ 0 := by have := of_decide_eq_false hk0; omega
          refine cI (by rfl) (fun hk1=>?_) (fun hk1=>?_)
          · have hkk : kx = 1 := by have := of_decide_eq_true hk1; omega
            obtain ⟨np, hnp⟩ : ∃ y, y = (bFetchRequestReplicaState v fx (atT t 2)).length := ⟨_, rfl⟩
            have htb1 : tb kx = uvar 1 ++ (uvar np ++ (bFetchRequestReplicaState v fx (atT t 2))) := by
              rw [hnp, hkk, htb]
              show tagB (1, if 1 = 0 then ntA fx (atT t 0).nl (atT t 0).s else (if 1 = 1 then bFetchRequestReplicaState v fx (atT t 2) else ([]))) = _
              rw [if_neg (by decide), if_pos rfl]
              unfold tagB
              rw [List.append_assoc]
            rw [htb1] at hft hfl
            have hnp0 := hnp
            simp only [List.length_append] at hfl hnp
            obtain ⟨m14, hm14⟩ : ∃ y, m13 ++ (uvar 1) = y := ⟨_, rfl⟩
            have hl14 : m14.length = m13.length + (uvar 1).length := by rw [← hm14, List.length_append]
            have hok2_ := fieldOK_part (hok.1 2 _ rfl)
            have hgl2_ : (bFetchRequestReplicaState v fx (atT t 2)).length = (bFetchRequestReplicaState v fx (atT t 2)).length := rfl
            conv at hgl2_ => rhs; unfold bFetchRequestReplicaState
            simp only [List.length_append, List.length_nil] at hgl2_
            ((conv=>whnf);repeat((first|refine mvT ?_|refine mvF ?_|refine yT ?_|refine yF ?_);conv=>whnf))
            refine VO.scope (l := 1) (fun q : Value × Nat => [(1, q.1), (0, .pointer (some ⟨p, 0, none⟩)), (5, .int .i16 v), (6, .bool fx), (455, (.slice (some ⟨ge, 0, none⟩) ks.length ke)), (456, .int .i64 ks.length), (457, .int .i64 ii), (48, .pointer (some ⟨q.2, 0, none⟩)), (49, .bool true), (50, .int .i64 ((l ++ m14).length : Nat))]) (fun q w' => ∃ wJ, Ext nob w0 wJ ∧ w0.heap.size ≤ q.2 ∧ Own wJ q.2 68 [.int .i32 (IntKind.i32.wrap (atT (atT t 2) 0).n), .int .i64 (IntKind.i64.wrap (atT (atT t 2) 1).n), c2_2] ∧ Apd wJ B x l (m14 ++ uvar np) q.1 w') rfl ?_ ?_
            · ((conv=>whnf);repeat((first|refine mvT ?_|refine mvF ?_|refine yT ?_|refine yF ?_);conv=>whnf))
              refine ⟨_, rfl, Cells.sub (hp.ext hA.ext hxp).cells 3 3 rfl, ?_⟩; ((conv=>whnf);repeat((first|refine mvT ?_|refine mvF ?_|refine yT ?_|refine yF ?_);conv=>whnf))
              intro bu wu hbu hou hxu
              ((conv=>whnf);repeat((first|refine mvT ?_|refine mvF ?_|refine yT ?_|refine yF ?_);conv=>whnf))
              refine st_all [.int .i32 (IntKind.i32.wrap (atT (atT t 2) 0).n), .int .i64 (IntKind.i64.wrap (atT (atT t 2) 1).n), c2_2] hou rfl rfl (by have h1 := hm2_.one; simp only [okCells, List.all_cons, List.all_nil, h1]; rfl) ?_
              intro w hov hxv
              ((conv=>whnf);repeat((first|refine mvT ?_|refine mvF ?_|refine yT ?_|refine yF ?_);conv=>whnf))
              have he1 : Ext nob w0 w := hxu.trans hxv fun k hk e => by omega
              have hbo : x.ownBlock ≠ some bu := fun e => by have := hob.lt bu e; omega
              replace hA0 := hA0.e0 he1
              replace hos := hos.e0 he1
              replace hob := hob.e0 he1
              replace hB := Nat.le_trans hB he1.size
              replace hm2_ := hm2_.ext he1 (fun _ _ _ f => f)
              have hFx : ∀ j, j < w.heap.size → F0 j → ¬ x.ownBlock = some j := fun j _ hf => (hFR j hf).2
              have hFR : ∀ j, F0 j → j < w.heap.size ∧ x.ownBlock ≠ some j := fun j hf => ⟨Nat.lt_of_lt_of_le (hFR j hf).1 he1.size, (hFR j hf).2⟩
              have hp := hov
              have hpl := hp.lt
              have hxp := hbo
              obtain ⟨w0, hwJ⟩ : ∃ y : World, y = w := ⟨_, rfl⟩
              subst hwJ
              have hA := Apd.start hob
              rw [← hm13] at hA
              refine Does.mono (AppendUvarint_does hA.ob (Nat.le_trans hB hA.size) 1 (by omega) (by simp only [List.length_append]; omega)) ?_;rintro r w h;((conv=>whnf);repeat((first|refine mvT ?_|refine mvF ?_|refine yT ?_|refine yF ?_);conv=>whnf))
              replace hA := hA.tr h
              clear h
              rw [hm14] at hA
              obtain ⟨ar, cr, rfl, _, _⟩ := hA.ob.shape
              ((conv=>whnf);repeat((first|refine mvT ?_|refine mvF ?_|refine yT ?_|refine yF ?_);conv=>whnf))
              refine VO.label ?_
              ((conv=>whnf);repeat((first|refine mvT ?_|refine mvF ?_|refine yT ?_|refine yF ?_);conv=>whnf))
              refine ldS ((hp.ext hA.ext hxp).cell rfl) ?_;((conv=>whnf);repeat((first|refine mvT ?_|refine mvF ?_|refine yT ?_|refine yF ?_);conv=>whnf))
              refine Does.mono (AppendInt32_does hA.ob (Nat.le_trans hB hA.size) (by simp only [List.length_append]; omega) _) ?_;rintro r w h;((conv=>whnf);repeat((first|refine mvT ?_|refine mvF ?_|refine yT ?_|refine yF ?_);conv=>whnf))
              rw [fixed4_mod (wrap_i32m _)] at h
              replace hA := hA.tr h
              clear h
              generalize hm15 : m14 ++ (fixed (atT (atT t 2) 0).n 4) = m15 at hA
              have hl15 : m15.length = m14.length + (fixed (atT (atT t 2) 0).n 4).length := by rw [← hm15, List.length_append]
              refine ldS ((hp.ext hA.ext hxp).cell rfl) ?_;((conv=>whnf);repeat((first|refine mvT ?_|refine mvF ?_|refine yT ?_|refine yF ?_);conv=>whnf))
              refine Does.mono (AppendInt64_does hA.ob (Nat.le_trans hB hA.size) (by simp only [List.length_append]; omega) _) ?_;rintro r w h;((conv=>whnf);repeat((first|refine mvT ?_|refine mvF ?_|refine yT ?_|refine yF ?_);conv=>whnf))
              rw [fixed8_mod (m := (atT (atT t 2) 1).n) (by rw [IntKind.wrap_i64]; omega)] at h
              replace hA := hA.tr h
              clear h
              generalize hm16 : m15 ++ (fixed (atT (atT t 2) 1).n 8) = m16 at hA
              have hl16 : m16.length = m15.length + (fixed (atT (atT t 2) 1).n 8).length := by rw [← hm16, List.length_append]
              (refine mvB ?_;((conv=>whnf);repeat((first|refine mvT ?_|refine mvF ?_|refine yT ?_|refine yF ?_);conv=>whnf)))
              refine VC.cutE (fun r => [(1, r), (0, .pointer (some ⟨p, 0, none⟩)), (5, .int .i16 v), (6, .bool fx), (455, (.slice (some ⟨ge, 0, none⟩) ks.length ke)), (456, .int .i64 ks.length), (457, .int .i64 ii), (48, .pointer (some ⟨bu, 0, none⟩)), (49, .bool false), (50, .int .i64 ((l ++ m14).length : Nat))]) (fun r w' => Apd w0 B x l (m16 ++ (tgsB fx (atT t 2).u)) r w') ?_ ?_
              · refine cI (by rfl) (fun hc=>?_) (fun hc=>?_)
                · ((conv=>whnf);repeat((first|refine mvT ?_|refine mvF ?_|refine yT ?_|refine yF ?_);conv=>whnf))
                  have hul := hok2_.2.len
                  refine Does.mono (Tags_Len_does ((hp.ext hA.ext hxp).cell rfl) (hm2_.ext hA.ext hFx)) ?_;rintro r w ⟨rfl, rfl⟩;((conv=>whnf);repeat((first|refine mvT ?_|refine mvF ?_|refine yT ?_|refine yF ?_);conv=>whnf))
                  rw [u32_add0 (by omega)]
                  refine Does.mono (AppendUvarint_does hA.ob (Nat.le_trans hB hA.size) (atT t 2).u.length (by omega) (by simp only [List.length_append]; omega)) ?_;rintro r w h;((conv=>whnf);repeat((first|refine mvT ?_|refine mvF ?_|refine yT ?_|refine yF ?_);conv=>whnf))
                  have hul2 := uvar10 (n := (atT t 2).u.length) (by omega)
                  replace hA := hA.tr h
                  clear h
                  refine Does.mono (AppendEach_does ((hp.ext hA.ext hxp).cell rfl) (hm2_.ext hA.ext hFx) hok2_.2 hA.ob (Nat.le_trans hB hA.size) (hA.ne hxp hpl) (fun j _ hf => hA.ne (hFR j hf).2 (hFR j hf).1) (by simp only [List.length_append]; omega)) ?_;rintro r w h;((conv=>whnf);repeat((first|refine mvT ?_|refine mvF ?_|refine yT ?_|refine yF ?_);conv=>whnf))
                  replace hA := hA.tr h
                  clear h
                  refine ⟨_, ⟨rfl, rfl, rfl, rfl, rfl, rfl, rfl, rfl, rfl, rfl, trivial⟩, ?_⟩
                  rw [tgsB, if_pos hc, ← List.append_assoc]
                  exact hA
                · ((conv=>whnf);repeat((first|refine mvT ?_|refine mvF ?_|refine yT ?_|refine yF ?_);conv=>whnf))
                  refine ⟨_, ⟨rfl, rfl, rfl, rfl, rfl, rfl, rfl, rfl, rfl, rfl, trivial⟩, ?_⟩
                  rw [tgsB, if_neg (by rw [hc]; decide), List.append_nil]
                  exact hA
              clear hA
              rintro r w hA
              ((conv=>whnf);repeat((first|refine mvT ?_|refine mvF ?_|refine yT ?_|refine yF ?_);conv=>whnf))
              generalize hm17 : m16 ++ (tgsB fx (atT t 2).u) = m17 at hA
              have hl17 : m17.length = m16.length + (tgsB fx (atT t 2).u).length := by rw [← hm17, List.length_append]
              rw [show m17 = m14 ++ (bFetchRequestReplicaState v fx (atT t 2)) by unfold bFetchRequestReplicaState; simp only [← hm17, ← hm16, ← hm15, List.append_assoc, List.nil_append, List.append_nil]] at hA
              obtain ⟨ar, cr, rfl, _, _⟩ := hA.ob.shape
              refine VD.draw mixed (.q 0 (.q 1 (.q 2 (.q 3 (.q 4 (.q 5 (.q 6 (.q 7 (.eff 8 [] (.eff 9 [] (.done))))))))))) (by kernel_rfl) ?_;((conv=>whnf);repeat((first|refine mvT ?_|refine mvF ?_|refine yT ?_|refine yF ?_);conv=>whnf))
              replace hA := hA.e0 (ext_drew _)
              refine cut_back hA rfl ?_
              refine cut_rest hA rfl ?_
              intro ax kx
              ((conv=>whnf);repeat((first|refine mvT ?_|refine mvF ?_|refine yT ?_|refine yF ?_);conv=>whnf))
              rw [u32_nat (by rw [← hnp0]; omega)]
              refine Does.mono (AppendUvarint_does hA.cut.ob (Nat.le_trans hB hA.size) (bFetchRequestReplicaState v fx (atT t 2)).length (by omega) (by simp only [List.length_append]; omega)) ?_;rintro r w h;((conv=>whnf);repeat((first|refine mvT ?_|refine mvF ?_|refine yT ?_|refine yF ?_);conv=>whnf))
              replace hA := hA.cut.tr h
              clear h
              ((conv=>whnf);repeat((first|refine mvT ?_|refine mvF ?_|refine yT ?_|refine yF ?_);conv=>whnf))
              refine VO.goto ?_
              refine ⟨(r, bu), ⟨rfl, rfl, rfl, rfl, rfl, rfl, rfl, rfl, rfl, rfl, trivial⟩, ?_⟩
              rw [hnp0]
              exact ⟨_, he1, hbu, hov, hA⟩
            · clear hA
              rintro ⟨r, bu⟩ w ⟨wJ, he1, hbu, hov, hA⟩
              dsimp only at hbu hov hA
              ((conv=>whnf);repeat((first|refine mvT ?_|refine mvF ?_|refine yT ?_|refine yF ?_);conv=>whnf))
              have hbo : x.ownBlock ≠ some bu := fun e => by have := hob.lt bu e; omega
              replace hA0 := hA0.e0 he1
              replace hos := hos.e0 he1
              replace hob := hob.e0 he1
              replace hB := Nat.le_trans hB he1.size
              replace hm2_ := hm2_.ext he1 (fun _ _ _ f => f)
              have hFx : ∀ j, j < wJ.heap.size → F0 j → ¬ x.ownBlock = some j := fun j _ hf => (hFR j hf).2
              have hFR : ∀ j, F0 j → j < wJ.heap.size ∧ x.ownBlock ≠ some j := fun j hf => ⟨Nat.lt_of_lt_of_le (hFR j hf).1 he1.size, (hFR j hf).2⟩
              have hp := hov
              have hpl := hp.lt
              have hxp := hbo
              obtain ⟨w0, hwJ⟩ : ∃ y : World, y = wJ := ⟨_, rfl⟩
              subst hwJ
              generalize hm15 : m14 ++ (uvar np) = m15 at hA
              have hl15 : m15.length = m14.length + (uvar np).length := by rw [← hm15, List.length_append]
              refine ldS ((hp.ext hA.ext hxp).cell rfl) ?_;((conv=>whnf);repeat((first|refine mvT ?_|refine mvF ?_|refine yT ?_|refine yF ?_);conv=>whnf))
              refine Does.mono (AppendInt32_does hA.ob (Nat.le_trans hB hA.size) (by simp only [List.length_append]; omega) _) ?_;rintro r w h;((conv=>whnf);repeat((first|refine mvT ?_|refine mvF ?_|refine yT ?_|refine yF ?_);conv=>whnf))
              rw [fixed4_mod (wrap_i32m _)] at h
              replace hA := hA.tr h
              clear h
              generalize hm16 : m15 ++ (fixed (atT (atT t 2) 0).n 4) = m16 at hA
              have hl16 : m16.length = m15.length + (fixed (atT (atT t 2) 0).n 4).length := by rw [← hm16, List.length_append]
              refine ldS ((hp.ext hA.ext hxp).cell rfl) ?_;((conv=>whnf);repeat((first|refine mvT ?_|refine mvF ?_|refine yT ?_|refine yF ?_);conv=>whnf))
              refine Does.mono (AppendInt64_does hA.ob (Nat.le_trans hB hA.size) (by simp only [List.length_append]; omega) _) ?_;rintro r w h;((conv=>whnf);repeat((first|refine mvT ?_|refine mvF ?_|refine yT ?_|refine yF ?_);conv=>whnf))
              rw [fixed8_mod (m := (atT (atT t 2) 1).n) (by rw [IntKind.wrap_i64]; omega)] at h
              replace hA := hA.tr h
              clear h
              generalize hm17 : m16 ++ (fixed (atT (atT t 2) 1).n 8) = m17 at hA
              have hl17 : m17.length = m16.length + (fixed (atT (atT t 2) 1).n 8).length := by rw [← hm17, List.length_append]
              (refine mvB ?_;((conv=>whnf);repeat((first|refine mvT ?_|refine mvF ?_|refine yT ?_|refine yF ?_);conv=>whnf)))
              refine VC.cutE (fun r => [(1, r), (0, .pointer (some ⟨p, 0, none⟩)), (5, .int .i16 v), (6, .bool fx), (455, (.slice (some ⟨ge, 0, none⟩) ks.length ke)), (456, .int .i64 ks.length), (457, .int .i64 ii), (48, .pointer (some ⟨bu, 0, none⟩)), (49, .bool true), (50, .int .i64 ((l ++ m14).length : Nat))]) (fun r w' => Apd w0 B x l (m17 ++ (tgsB fx (atT t 2).u)) r w') ?_ ?_
              · refine cI (by rfl) (fun hc=>?_) (fun hc=>?_)
                · ((conv=>whnf);repeat((first|refine mvT ?_|refine mvF ?_|refine yT ?_|refine yF ?_);conv=>whnf))
                  have hul := hok2_.2.len
                  refine Does.mono (Tags_Len_does ((hp.ext hA.ext hxp).cell rfl) (hm2_.ext hA.ext hFx)) ?_;rintro r w ⟨rfl, rfl⟩;((conv=>whnf);repeat((first|refine mvT ?_|refine mvF ?_|refine yT ?_|refine yF ?_);conv=>whnf))
                  rw [u32_add0 (by omega)]
                  refine Does.mono (AppendUvarint_does hA.ob (Nat.le_trans hB hA.size) (atT t 2).u.length (by omega) (by simp only [List.length_append]; omega)) ?_;rintro r w h;((conv=>whnf);repeat((first|refine mvT ?_|refine mvF ?_|refine yT ?_|refine yF ?_);conv=>whnf))
                  have hul2 := uvar10 (n := (atT t 2).u.length) (by omega)
                  replace hA := hA.tr h
                  clear h
                  refine Does.mono (AppendEach_does ((hp.ext hA.ext hxp).cell rfl) (hm2_.ext hA.ext hFx) hok2_.2 hA.ob (Nat.le_trans hB hA.size) (hA.ne hxp hpl) (fun j _ hf => hA.ne (hFR j hf).2 (hFR j hf).1) (by simp only [List.length_append]; omega)) ?_;rintro r w h;((conv=>whnf);repeat((first|refine mvT ?_|refine mvF ?_|refine yT ?_|refine yF ?_);conv=>whnf))
                  replace hA := hA.tr h
                  clear h
                  refine ⟨_, ⟨rfl, rfl, rfl, rfl, rfl, rfl, rfl, rfl, rfl, rfl, trivial⟩, ?_⟩
                  rw [tgsB, if_pos hc, ← List.append_assoc]
                  exact hA
                · ((conv=>whnf);repeat((first|refine mvT ?_|refine mvF ?_|refine yT ?_|refine yF ?_);conv=>whnf))
                  refine ⟨_, ⟨rfl, rfl, rfl, rfl, rfl, rfl, rfl, rfl, rfl, rfl, trivial⟩, ?_⟩
                  rw [tgsB, if_neg (by rw [hc]; decide), List.append_nil]
                  exact hA
              clear hA
              rintro r w hA
              ((conv=>whnf);repeat((first|refine mvT ?_|refine mvF ?_|refine yT ?_|refine yF ?_);conv=>whnf))
              generalize hm18 : m17 ++ (tgsB fx (atT t 2).u) = m18 at hA
              have hl18 : m18.length = m17.length + (tgsB fx (atT t 2).u).length := by rw [← hm18, List.length_append]
              have hfin : m18 = uvar 1 ++ (uvar np ++ (bFetchRequestReplicaState v fx (atT t 2))) := by unfold bFetchRequestReplicaState; simp only [← hm18, ← hm17, ← hm16, ← hm15, ← hm14, hm13, List.append_assoc, List.nil_append, List.append_nil]
              refine ⟨(ii + 1, r), ⟨rfl, rfl, rfl, rfl, rfl, rfl, inc_eq (by omega), trivial⟩, ⟨by simp only; omega, ?_, ?_, ?_⟩, by simp only; omega⟩
              · have hA1 := hA
                rw [hfin, hlI] at hA1
                have h := hA0.tr hA1
                rw [hft, ← List.append_assoc]
                exact h
              · exact hos.ext hA.ext fun k hk e => hsep k hk e
              · exact fun k hk => hA.ne (hsep k hk) (hos.own.lt k hk)
          · have := of_decide_eq_false hk1
            omega
      have hil : ii = ks.length := by have := of_decide_eq_false h9; simp only at this; omega
      ((conv=>whnf);repeat((first|refine mvT ?_|refine mvF ?_|refine yT ?_|refine yF ?_);conv=>whnf))
      rw [hil, List.take_length] at hA
      generalize hm13 : m12 ++ (ks.flatMap tb) = m13 at hA
      have hl13 : m13.length = m12.length + (ks.flatMap tb).length := by rw [← hm13, List.length_append]
      refine Does.mono (AppendEach_does ((hp.ext hA.ext hxp).cell rfl) (hm.ext hA.ext hFx) hok.2 hA.ob (Nat.le_trans hB hA.size) (hA.ne hxp hpl) (fun j _ hf => hA.ne (hFR j hf).2 (hFR j hf).1) (by simp only [List.length_append]; omega)) ?_;rintro r w h;((conv=>whnf);repeat((first|refine mvT ?_|refine mvF ?_|refine yT ?_|refine yF ?_);conv=>whnf))
      replace hA := hA.tr h
      clear h
      generalize hm14 : m13 ++ ((t).u.flatMap tagB) = m14 at hA
      have hl14 : m14.length = m13.length + ((t).u.flatMap tagB).length := by rw [← hm14, List.length_append]
      refine ⟨_, ⟨rfl, rfl, rfl, rfl, trivial⟩, ?_⟩
      rw [if_pos hc, hgq, hgf, show m11 ++ (uvar (ks.length + (t).u.length) ++ (ks.flatMap tb ++ (t).u.flatMap tagB)) = m14 by simp only [← hm14, ← hm13, ← hm12, List.append_assoc]]
      exact hA
    · ((conv=>whnf);repeat((first|refine mvT ?_|refine mvF ?_|refine yT ?_|refine yF ?_);conv=>whnf))
      refine ⟨_, ⟨rfl, rfl, rfl, rfl, trivial⟩, ?_⟩
      rw [if_neg (by rw [hc]; decide), List.append_nil]
      exact hA
  clear hA
  rintro r w hA
  ((conv=>whnf);repeat((first|refine mvT ?_|refine mvF ?_|refine yT ?_|refine yF ?_);conv=>whnf))
  generalize hm12 : m11 ++ ((if fx = true then uvar ((gFetchRequest v fx t).length + (t).u.length) ++ ((gFetchRequest v fx t).flatMap tagB ++ (t).u.flatMap tagB) else [])) = m12 at hA
  have hl12 : m12.length = m11.length + ((if fx = true then uvar ((gFetchRequest v fx t).length + (t).u.length) ++ ((gFetchRequest v fx t).flatMap tagB ++ (t).u.flatMap tagB) else [])).length := by rw [← hm12, List.length_append]
  show Apd w0 B x l _ r w
  rw [show bFetchRequest v fx t = m12 by unfold bFetchRequest; simp only [← hm12, ← hm11, ← hm10, ← hm9, ← hm8, ← hm7, ← hm6, ← hm5, ← hm4, ← hm3, ← hm2, ← hm1, hm0, List.append_assoc, List.nil_append, List.append_nil]]
  exact hA
theorem qFetchRequestReplicaState {w : World} {F : Nat → Prop} {cs : List Value} {t : T} (h : QPart true 8 dFetchRequestReplicaState ⟨w, F⟩ cs t) : rFetchRequestReplicaState w F cs t := by
  obtain ⟨_, _, u_, m, rfl, rfl, hA0, hm⟩ := iP h
  clear h
  obtain ⟨cc0, _, x0, _, rfl, rfl, h0, hA1⟩ := iA hA0
  obtain ⟨n0, rfl, rfl⟩ := iF3 h0
  obtain ⟨cc1, _, x1, _, rfl, rfl, h1, hA2⟩ := iA hA1
  obtain ⟨n1, rfl, rfl⟩ := iF4w h1
  obtain ⟨rfl, rfl⟩ := hA2
  exact ⟨m, rfl, hm⟩
theorem qFetchRequestTopicPartition {w : World} {F : Nat → Prop} {cs : List Value} {t : T} (h : QPart true 7 dFetchRequestTopicPartition ⟨w, F⟩ cs t) : rFetchRequestTopicPartition w F cs t := by
  obtain ⟨_, _, u_, m, rfl, rfl, hA0, hm⟩ := iP h
  clear h
  obtain ⟨cc0, _, x0, _, rfl, rfl, h0, hA1⟩ := iA hA0
  obtain ⟨n0, rfl, rfl⟩ := iF3 h0
  obtain ⟨cc1, _, x1, _, rfl, rfl, h1, hA2⟩ := iA hA1
  obtain ⟨n1, rfl, rfl⟩ := iF3 h1
  obtain ⟨cc2, _, x2, _, rfl, rfl, h2, hA3⟩ := iA hA2
  obtain ⟨n2, rfl, rfl⟩ := iF4 h2
  obtain ⟨cc3, _, x3, _, rfl, rfl, h3, hA4⟩ := iA hA3
  obtain ⟨n3, rfl, rfl⟩ := iF3 h3
  obtain ⟨cc4, _, x4, _, rfl, rfl, h4, hA5⟩ := iA hA4
  obtain ⟨n4, rfl, rfl⟩ := iF4 h4
  obtain ⟨cc5, _, x5, _, rfl, rfl, h5, hA6⟩ := iA hA5
  obtain ⟨n5, rfl, rfl⟩ := iF3 h5
  obtain ⟨cc6, _, x6, _, rfl, rfl, h6, hA7⟩ := iA hA6
  obtain ⟨u6_0, u6_1, u6_2, u6_3, u6_4, u6_5, u6_6, u6_7, u6_8, u6_9, u6_10, u6_11, u6_12, u6_13, u6_14, u6_15, rfl, rfl⟩ := iF7 h6
  obtain ⟨cc7, _, x7, _, rfl, rfl, h7, hA8⟩ := iA hA7
  obtain ⟨n7, rfl, rfl⟩ := iF4w h7
  obtain ⟨rfl, rfl⟩ := hA8
  exact ⟨u6_0, u6_1, u6_2, u6_3, u6_4, u6_5, u6_6, u6_7, u6_8, u6_9, u6_10, u6_11, u6_12, u6_13, u6_14, u6_15, m, rfl, rfl, hm⟩
theorem qFetchRequestTopic {w : World} {F : Nat → Prop} {cs : List Value} {t : T} (h : QPart true 8 dFetchRequestTopic ⟨w, F⟩ cs t) : rFetchRequestTopic w F cs t := by
  obtain ⟨_, _, u_, m, rfl, rfl, hA0, hm⟩ := iP h
  clear h
  obtain ⟨cc0, _, x0, _, rfl, rfl, h0, hA1⟩ := iA hA0
  obtain ⟨n0, rfl, rfl⟩ := iF8 (by decide) h0
  obtain ⟨cc1, _, x1, _, rfl, rfl, h1, hA2⟩ := iA hA1
  obtain ⟨u1_0, u1_1, u1_2, u1_3, u1_4, u1_5, u1_6, u1_7, u1_8, u1_9, u1_10, u1_11, u1_12, u1_13, u1_14, u1_15, rfl, rfl⟩ := iF7 h1
  obtain ⟨cc2, _, x2, _, rfl, rfl, h2, hA3⟩ := iA hA2
  obtain ⟨c2, rfl, hh2⟩ := iF11 (tg := true) (d := 7) (wf := ⟨w, F⟩) (of := 10) (sub := dFetchRequestTopicPartition) (sz := 24) (R := (rFetchRequestTopicPartition w F)) rfl (fun c y hc => qFetchRequestTopicPartition hc) h2
  obtain ⟨rfl, rfl⟩ := hA3
  exact ⟨u1_0, u1_1, u1_2, u1_3, u1_4, u1_5, u1_6, u1_7, u1_8, u1_9, u1_10, u1_11, u1_12, u1_13, u1_14, u1_15, c2, m, rfl, rfl, hh2, hm⟩
theorem qFetchRequestForgottenTopic {w : World} {F : Nat → Prop} {cs : List Value} {t : T} (h : QPart true 8 dFetchRequestForgottenTopic ⟨w, F⟩ cs t) : rFetchRequestForgottenTopic w F cs t := by
  obtain ⟨_, _, u_, m, rfl, rfl, hA0, hm⟩ := iP h
  clear h
  obtain ⟨cc0, _, x0, _, rfl, rfl, h0, hA1⟩ := iA hA0
  obtain ⟨n0, rfl, rfl⟩ := iF8 (by decide) h0
  obtain ⟨cc1, _, x1, _, rfl, rfl, h1, hA2⟩ := iA hA1
  obtain ⟨u1_0, u1_1, u1_2, u1_3, u1_4, u1_5, u1_6, u1_7, u1_8, u1_9, u1_10, u1_11, u1_12, u1_13, u1_14, u1_15, rfl, rfl⟩ := iF7 h1
  obtain ⟨cc2, _, x2, _, rfl, rfl, h2, hA3⟩ := iA hA2
  obtain ⟨c2, rfl, hh2⟩ := iF11 (tg := true) (d := 7) (wf := ⟨w, F⟩) (of := 3) (sub := []) (sz := 1) (R := (fun c x => c = [.int .i32 (IntKind.i32.wrap x.n)])) rfl iE3 h2
  obtain ⟨rfl, rfl⟩ := hA3
  exact ⟨u1_0, u1_1, u1_2, u1_3, u1_4, u1_5, u1_6, u1_7, u1_8, u1_9, u1_10, u1_11, u1_12, u1_13, u1_14, u1_15, c2, m, rfl, rfl, hh2, hm⟩
theorem qFetchRequest {w : World} {F : Nat → Prop} {cs : List Value} {t : T} (h : QPart true 9 dFetchRequest ⟨w, F⟩ cs t) : ∃ c0 c2_0 c2_1 c2_2 c9 c10 m, cs = [c0, .int .i32 (IntKind.i32.wrap (atT t 1).n), c2_0, c2_1, c2_2, .int .i32 (IntKind.i32.wrap (atT t 3).n), .int .i32 (IntKind.i32.wrap (atT t 4).n), .int .i32 (IntKind.i32.wrap (atT t 5).n), .int .i8 (IntKind.i8.wrap (atT t 6).n), .int .i32 (IntKind.i32.wrap (atT t 7).n), .int .i32 (IntKind.i32.wrap (atT t 8).n), c9, c10, str (atT t 11).s, m] ∧ NTextR w F c0 (atT t 0) ∧ rFetchRequestReplicaState w F [c2_0, c2_1, c2_2] (atT t 2) ∧ ListR true 19 (rFetchRequestTopic w F) w F c9 (atT t 9) ∧ ListR true 19 (rFetchRequestForgottenTopic w F) w F c10 (atT t 10) ∧ TagsR w F m t.u := by
  obtain ⟨_, _, u_, m, rfl, rfl, hA0, hm⟩ := iP h
  clear h
  obtain ⟨cc0, _, x0, _, rfl, rfl, h0, hA1⟩ := iA hA0
  obtain ⟨c0, rfl, hh0⟩ := iF8n (by decide) h0
  obtain ⟨cc1, _, x1, _, rfl, rfl, h1, hA2⟩ := iA hA1
  obtain ⟨n1, rfl, rfl⟩ := iF3 h1
  obtain ⟨cc2, _, x2, _, rfl, rfl, h2, hA3⟩ := iA hA2
  have hh2 := qFetchRequestReplicaState (show QPart true 8 dFetchRequestReplicaState ⟨w, F⟩ cc2 x2 from h2)
  obtain ⟨c2_0, c2_1, c2_2, rfl⟩ : ∃ c2_0 c2_1 c2_2, cc2 = [c2_0, c2_1, c2_2] := by
    match cc2, rFetchRequestReplicaState_len hh2 with
    | [c2_0, c2_1, c2_2], _ => exact ⟨c2_0, c2_1, c2_2, rfl⟩
  obtain ⟨cc3, _, x3, _, rfl, rfl, h3, hA4⟩ := iA hA3
  obtain ⟨n3, rfl, rfl⟩ := iF3 h3
  obtain ⟨cc4, _, x4, _, rfl, rfl, h4, hA5⟩ := iA hA4
  obtain ⟨n4, rfl, rfl⟩ := iF3 h4
  obtain ⟨cc5, _, x5, _, rfl, rfl, h5, hA6⟩ := iA hA5
  obtain ⟨n5, rfl, rfl⟩ := iF3 h5
  obtain ⟨cc6, _, x6, _, rfl, rfl, h6, hA7⟩ := iA hA6
  obtain ⟨n6, rfl, rfl⟩ := iF1 h6
  obtain ⟨cc7, _, x7, _, rfl, rfl, h7, hA8⟩ := iA hA7
  obtain ⟨n7, rfl, rfl⟩ := iF3 h7
  obtain ⟨cc8, _, x8, _, rfl, rfl, h8, hA9⟩ := iA hA8
  obtain ⟨n8, rfl, rfl⟩ := iF3 h8
  obtain ⟨cc9, _, x9, _, rfl, rfl, h9, hA10⟩ := iA hA9
  obtain ⟨c9, rfl, hh9⟩ := iF11 (tg := true) (d := 8) (wf := ⟨w, F⟩) (of := 10) (sub := dFetchRequestTopic) (sz := 19) (R := (rFetchRequestTopic w F)) rfl (fun c y hc => qFetchRequestTopic hc) h9
  obtain ⟨cc10, _, x10, _, rfl, rfl, h10, hA11⟩ := iA hA10
  obtain ⟨c10, rfl, hh10⟩ := iF11 (tg := true) (d := 8) (wf := ⟨w, F⟩) (of := 10) (sub := dFetchRequestForgottenTopic) (sz := 19) (R := (rFetchRequestForgottenTopic w F)) rfl (fun c y hc => qFetchRequestForgottenTopic hc) h10
  obtain ⟨cc11, _, x11, _, rfl, rfl, h11, hA12⟩ := iA hA11
  obtain ⟨n11, rfl, rfl⟩ := iF8 (by decide) h11
  obtain ⟨rfl, rfl⟩ := hA12
  exact ⟨c0, c2_0, c2_1, c2_2, c9, c10, m, rfl, hh0, hh2, hh9, hh10, hm⟩
theorem newFetchRequest (w : World) : Does X.P 15 #[] w fun r w' => ∃ p, r = .pointer (some ⟨p, 0, none⟩) ∧ w.heap.size ≤ p ∧ Own w' p 73 [.int .i16 0, .pointer none, .int .i32 (-1), .int .i32 (-1), .int .i64 (-1), .map none, .int .i32 0, .int .i32 0, .int .i32 2147483647, .int .i8 0, .int .i32 0, .int .i32 (-1), .slice none 0 0, .slice none 0 0, str [], .map none] ∧ Ext nob w w' := by
  refine Does.go (X := X) (l := []) Tryz.func15 rfl (by kernel_rfl) (by kernel_rfl) _ rfl ?_
  ((conv=>whnf);repeat((first|refine mvT ?_|refine mvF ?_|refine yT ?_|refine yF ?_);conv=>whnf))
  intro p w1 hp ho hx
  ((conv=>whnf);repeat((first|refine mvT ?_|refine mvF ?_|refine yT ?_|refine yF ?_);conv=>whnf))
  refine Does.mono (dfFetchRequest (pre := []) (cur := [.int .i16 0, .pointer none, .int .i32 0, .int .i32 0, .int .i64 0, .map none, .int .i32 0, .int .i32 0, .int .i32 0, .int .i8 0, .int .i32 0, .int .i32 0, .slice none 0 0, .slice none 0 0, str [], .map none]) (post := []) (by simpa using ho) rfl rfl) ?_;rintro r2 w2 ⟨hd, hx2⟩;((conv=>whnf);repeat((first|refine mvT ?_|refine mvF ?_|refine yT ?_|refine yF ?_);conv=>whnf))
  exact ⟨p, rfl, hp, by simpa using hd, hx.st hx2 hp⟩
theorem maxFetchRequest (w : World) : Does X.P 6 #[] w fun r w' => r = .int .i64 18 ∧ Ext nob w w' := by
  have hmax : ∀ (p : Nat) (w : World), Does X.P 16 #[.pointer (some ⟨p, 0, none⟩)] w fun r w' => r = .int .i16 18 ∧ w' = w := by
    intro p w
    refine Does.go (X := X) (l := [_]) Tryz.func16 rfl (by kernel_rfl) (by kernel_rfl) _ rfl ?_
    ((conv=>whnf);repeat((first|refine mvT ?_|refine mvF ?_|refine yT ?_|refine yF ?_);conv=>whnf))
    exact ⟨rfl, rfl⟩
  refine Does.go (X := X) (l := []) Tryz.func6 rfl (by kernel_rfl) (by kernel_rfl) _ rfl ?_
  ((conv=>whnf);repeat((first|refine mvT ?_|refine mvF ?_|refine yT ?_|refine yF ?_);conv=>whnf))
  refine Does.mono (newFetchRequest w) ?_;rintro r1 w1 ⟨p, rfl, _, _, hx⟩;((conv=>whnf);repeat((first|refine mvT ?_|refine mvF ?_|refine yT ?_|refine yF ?_);conv=>whnf))
  refine Does.mono (hmax p w1) ?_;rintro r2 w2 ⟨rfl, rfl⟩;((conv=>whnf);repeat((first|refine mvT ?_|refine mvF ?_|refine yT ?_|refine yF ?_);conv=>whnf))
  exact ⟨rfl, hx⟩
theorem frameFetchRequest {G : Nat → Prop} {w : World} {v num : Int} {has : Bool} {x ev : Value} {s id : List UInt8} {t : T} (hL : Laid w ev) (hx : Bytes w G x s) (hv : 0 ≤ v) (hv2 : v < 32768) (hid : id.length ≤ 32767)
    (hrd : rdPart 9 v (decide (v ≥ 12)) dFetchRequest (s, false) = (t, ([], false))) (hok : partOK 9 v dFetchRequest t) (hs : s.length ≤ 100000000000000) (hl : (bFetchRequest v (decide (v ≥ 12)) t).length ≤ 90000000000000) (hs32 : (bFetchRequest v (decide (v ≥ 12)) t).length < 4294967296) :
    Does X.P 10 #[.agg #[.bool has, str id], .int .i32 num, .int .i64 v, x] w fun r w' => ∃ o, r = .tuple #[o, .bool true] ∧ OB w' w.heap.size o (fixed (headB 1 v num (decide (v ≥ 12)) (.mk 0 id (!has) [] []) ++ bFetchRequest v (decide (v ≥ 12)) t).length 4 ++ (headB 1 v num (decide (v ≥ 12)) (.mk 0 id (!has) [] []) ++ bFetchRequest v (decide (v ≥ 12)) t)) ∧ Ext nob w w' := by
  have hv16 : IntKind.i16.wrap v = v := by
    simp only [IntKind.wrap, IntKind.bits, IntKind.signed]
    simp
    omega
  obtain ⟨ax, cx, rfl, _⟩ := hx.view
  have hL1 := hL.lt
  refine Does.go (X := X) (l := [_, _, _, _]) Tryz.func10 rfl (by kernel_rfl) (by kernel_rfl) _ rfl ?_
  ((conv=>whnf);repeat((first|refine mvT ?_|refine mvF ?_|refine yT ?_|refine yF ?_);conv=>whnf))
  intro b w0 hb ho hx0
  have ho : Own w0 b 23 [.bool has, str id] := ho
  ((conv=>whnf);repeat((first|refine mvT ?_|refine mvF ?_|refine yT ?_|refine yF ?_);conv=>whnf))
  refine Does.mono (newFetchRequest w0) ?_;rintro r1 w1 ⟨p, rfl, hwp, hop, hx1⟩;((conv=>whnf);repeat((first|refine mvT ?_|refine mvF ?_|refine yT ?_|refine yF ?_);conv=>whnf))
  have hwp : w.heap.size ≤ p := Nat.le_trans hx0.size hwp
  have hpb : p ≠ b := by have := ho.lt; omega
  have hx01 := hx0.e0 hx1
  have hset : Does X.P 21 #[.pointer (some ⟨p, 0, none⟩), .int .i16 (IntKind.i16.wrap v)] w1 fun r w' => Own w' p 73 [.int .i16 v, .pointer none, .int .i32 (-1), .int .i32 (-1), .int .i64 (-1), .map none, .int .i32 0, .int .i32 0, .int .i32 2147483647, .int .i8 0, .int .i32 0, .int .i32 (-1), .slice none 0 0, .slice none 0 0, str [], .map none] ∧ Ext (fun k => k = p) w1 w' := by
    rw [hv16]
    refine Does.go (X := X) (l := [_, _]) Tryz.func21 rfl (by kernel_rfl) (by kernel_rfl) _ rfl ?_
    ((conv=>whnf);repeat((first|refine mvT ?_|refine mvF ?_|refine yT ?_|refine yF ?_);conv=>whnf))
    refine ⟨_, _, hop, rfl, rfl, rfl, ?_⟩
    intro w3 ho3 hx3
    ((conv=>whnf);repeat((first|refine mvT ?_|refine mvF ?_|refine yT ?_|refine yF ?_);conv=>whnf))
    exact ⟨ho3, hx3⟩
  refine Does.mono (hset) ?_;rintro r2 w2 ⟨hop2, hx2⟩;((conv=>whnf);repeat((first|refine mvT ?_|refine mvF ?_|refine yT ?_|refine yF ?_);conv=>whnf))
  have hx02 := hx01.st hx2 hwp
  have ho2 := (ho.e0 hx1).ext hx2 (fun e => hpb e.symm)
  refine app_bytes rfl rfl (OB.nil w2 w2.heap.size) (hx.e0 hx02).src rfl (by simp only [List.length_nil]; omega) (Nat.le_refl _) ?_
  intro x3 w3 h3 hx3 _ _
  ((conv=>whnf);repeat((first|refine mvT ?_|refine mvF ?_|refine yT ?_|refine yF ?_);conv=>whnf))
  rw [List.nil_append] at h3
  have hx3 : Ext nob w2 w3 := hx3.mono fun k _ h => by simp [Value.ownBlock] at h
  have hx03 := hx02.e0 hx3
  have hpl := hop2.lt
  have hread : Does X.P 22 #[.pointer (some ⟨p, 0, none⟩), x3] w3 fun r w' => RdPost w3 p 73 v (decide (v ≥ 12)) true dFetchRequest ev s r w' := by
    obtain ⟨a3, c3, rfl, _⟩ := h3.shape
    refine Does.go (X := X) (l := [_, _]) Tryz.func22 rfl (by kernel_rfl) (by kernel_rfl) _ rfl ?_
    ((conv=>whnf);repeat((first|refine mvT ?_|refine mvF ?_|refine yT ?_|refine yF ?_);conv=>whnf))
    refine Does.mono (readFetchRequest (hL.ext hx03 fun f => f) (hop2.e0 hx3) (h3.bytes (F := fun k => k ≠ p) fun k hk => by omega) (fun k h => h) hv (by omega)) ?_;rintro r w' h;((conv=>whnf);repeat((first|refine mvT ?_|refine mvF ?_|refine yT ?_|refine yF ?_);conv=>whnf))
    exact h
  refine Does.mono hread ?_
  rintro r4 w4 ⟨hr4, hx4, hpost⟩
  rw [hrd] at hr4 hpost
  obtain rfl : r4 = .nilIface := hr4.trans (if_neg Bool.false_ne_true)
  obtain ⟨cs, hop4, hq⟩ := hpost rfl
  obtain ⟨c0, c2_0, c2_1, c2_2, c9, c10, m, rfl, hc0, hc2, hc9, hc10, hm⟩ := qFetchRequest hq
  ((conv=>whnf);repeat((first|refine mvT ?_|refine mvF ?_|refine yT ?_|refine yF ?_);conv=>whnf))
  have hx04 := hx03.st hx4 hwp
  have ho4 := (ho2.e0 hx3).ext hx4 (fun e => hpb e.symm)
  refine ⟨_, rfl, ho4.cells, ?_⟩
  ((conv=>whnf);repeat((first|refine mvT ?_|refine mvF ?_|refine yT ?_|refine yF ?_);conv=>whnf))
  have hpl4 := hop4.lt
  have hM : ReqM w4 46 p 1 v (decide (v ≥ 12)) (bFetchRequest v (decide (v ≥ 12)) t) 102 100 101 99 := by
    refine ⟨fun _ => by kernel_rfl, fun _ => by kernel_rfl, fun _ => by kernel_rfl, fun _ => by kernel_rfl, fun w => ?_, fun w5 hx5 => ?_, fun w5 hx5 => ?_, fun w5 y l hx5 hoy hly => ?_⟩
    · refine Does.go (X := X) (l := [_]) Tryz.func102 rfl (by kernel_rfl) (by kernel_rfl) _ rfl ?_
      ((conv=>whnf);repeat((first|refine mvT ?_|refine mvF ?_|refine yT ?_|refine yF ?_);conv=>whnf))
      exact ⟨rfl, rfl⟩
    · refine Does.go (X := X) (l := [_]) Tryz.func100 rfl (by kernel_rfl) (by kernel_rfl) _ rfl ?_
      ((conv=>whnf);repeat((first|refine mvT ?_|refine mvF ?_|refine yT ?_|refine yF ?_);conv=>whnf))
      refine ldS ((hop4.e0 hx5).cell rfl) ?_;((conv=>whnf);repeat((first|refine mvT ?_|refine mvF ?_|refine yT ?_|refine yF ?_);conv=>whnf))
      exact ⟨rfl, rfl⟩
    · refine Does.go (X := X) (l := [_]) Tryz.func101 rfl (by kernel_rfl) (by kernel_rfl) _ rfl ?_
      ((conv=>whnf);repeat((first|refine mvT ?_|refine mvF ?_|refine yT ?_|refine yF ?_);conv=>whnf))
      refine ldS ((hop4.e0 hx5).cell rfl) ?_;((conv=>whnf);repeat((first|refine mvT ?_|refine mvF ?_|refine yT ?_|refine yF ?_);conv=>whnf))
      exact ⟨rfl, rfl⟩
    · obtain ⟨F4, hF4⟩ : ∃ F4 : Nat → Prop, F4 = fun k => k ≠ p ∧ k < w4.heap.size := ⟨_, rfl⟩
      exact appFetchRequest (F := fun k => k ≠ p ∧ k < w4.heap.size) (hop4.e0 hx5) (by have := (hc0.mono (F' := F4) fun k h1 h2 => by rw [hF4]; exact ⟨h2, h1⟩).ext hx5 fun _ _ _ f => f; rw [hF4] at this; exact this) (by have := rFetchRequestReplicaState_ext (rFetchRequestReplicaState_mono hc2 (F' := F4) fun k h1 h2 => by rw [hF4]; exact ⟨h2, h1⟩) hx5 fun _ _ _ f => f; rw [hF4] at this; exact this) (by have := (hc9.mono (F' := F4) (fun k h1 h2 => by rw [hF4]; exact ⟨h2, h1⟩) (fun _ _ h => rFetchRequestTopic_mono (F' := F4) h fun k h1 h2 => by rw [hF4]; exact ⟨h2, h1⟩)).ext hx5 (fun _ _ _ f => f) (fun _ _ h => rFetchRequestTopic_ext h hx5 fun _ _ _ f => f); rw [hF4] at this; exact this) (by have := (hc10.mono (F' := F4) (fun k h1 h2 => by rw [hF4]; exact ⟨h2, h1⟩) (fun _ _ h => rFetchRequestForgottenTopic_mono (F' := F4) h fun k h1 h2 => by rw [hF4]; exact ⟨h2, h1⟩)).ext hx5 (fun _ _ _ f => f) (fun _ _ h => rFetchRequestForgottenTopic_ext h hx5 fun _ _ _ f => f); rw [hF4] at this; exact this) (by have := (hm.mono (F' := F4) fun k h1 h2 => by rw [hF4]; exact ⟨h2, h1⟩).ext hx5 fun _ _ _ f => f; rw [hF4] at this; exact this) hok (fun j _ hj e => by have := hoy.blk j e; have := hj.2; omega) (fun e => by have := hoy.blk p e; omega) hoy hx5.size hv (by omega) hs32
  refine Does.mono (framed_does (w := w4) (num := num) hM (by decide) hid (by omega)) ?_
  rintro r6 w6 ⟨h6, hx6⟩
  ((conv=>whnf);repeat((first|refine mvT ?_|refine mvF ?_|refine yT ?_|refine yF ?_);conv=>whnf))
  exact ⟨r6, rfl, h6.mono hx04.size, hx04.e0 hx6⟩
theorem walkFetchRequest {w : World} {n : Nat} (hn : n < 256) {has : Bool} {id : List UInt8} {num : Int} {x ev : Value} {t : T} (hL : Laid w ev) (ht : Tr w anyB x t) (hsz : wtT t ≤ 1048576) : Does X.P 3 #[.int .u8 n, .agg #[.bool has, str id], .int .i32 num, x] w fun r w' => r = .bool true ∧ Ext nob w w' := by
  have hkeys := ht.keys
  obtain ⟨sv, lv, uv, ls, rfl, _⟩ := ht.open
  refine Does.go (X := X) (l := [_, _, _, _]) Tryz.func3 rfl (by kernel_rfl) (by kernel_rfl) _ rfl ?_
  ((conv=>whnf);repeat((first|refine mvT ?_|refine mvF ?_|refine yT ?_|refine yF ?_);conv=>whnf))
  intro bi wi hbi hoi hxi
  have hoi : Own wi bi 23 [.bool has, str id] := hoi
  ((conv=>whnf);repeat((first|refine mvT ?_|refine mvF ?_|refine yT ?_|refine yF ?_);conv=>whnf))
  intro b w1 hb ho hx1
  have hx := hxi.e0 hx1
  have hoi := hoi.e0 hx1
  ((conv=>whnf);repeat((first|refine mvT ?_|refine mvF ?_|refine yT ?_|refine yF ?_);conv=>whnf))
  refine ⟨_, rfl, hoi.cells, ?_⟩
  ((conv=>whnf);repeat((first|refine mvT ?_|refine mvF ?_|refine yT ?_|refine yF ?_);conv=>whnf))
  refine Does.mono (zzFits4_does (w := w1)) ?_;rintro ra wa ⟨⟨ba, rfl⟩, hxa⟩;((conv=>whnf);repeat((first|refine mvT ?_|refine mvF ?_|refine yT ?_|refine yF ?_);conv=>whnf))
  have hx := hx.e0 hxa
  have hoi := hoi.e0 hxa
  have ho := ho.e0 hxa
  cases ba with
  | false =>
    ((conv=>whnf);repeat((first|refine mvT ?_|refine mvF ?_|refine yT ?_|refine yF ?_);conv=>whnf))
    exact ⟨rfl, hx⟩
  | true =>
  ((conv=>whnf);repeat((first|refine mvT ?_|refine mvF ?_|refine yT ?_|refine yF ?_);conv=>whnf))
  refine ⟨_, rfl, ho.cells, ?_⟩
  ((conv=>whnf);repeat((first|refine mvT ?_|refine mvF ?_|refine yT ?_|refine yF ?_);conv=>whnf))
  refine Does.mono (zzFits1_does (ht.e0 hx)) ?_;rintro r2 w2 ⟨⟨b2, rfl⟩, hx2⟩;((conv=>whnf);repeat((first|refine mvT ?_|refine mvF ?_|refine yT ?_|refine yF ?_);conv=>whnf))
  have hx02 := hx.e0 hx2
  refine cI (by rfl) (fun h1=>?_) (fun h1=>?_)
  · ((conv=>whnf);repeat((first|refine mvT ?_|refine mvF ?_|refine yT ?_|refine yF ?_);conv=>whnf))
    exact ⟨rfl, hx02⟩
  · ((conv=>whnf);repeat((first|refine mvT ?_|refine mvF ?_|refine yT ?_|refine yF ?_);conv=>whnf))
    refine Does.mono (maxFetchRequest w2) ?_;rintro r3 w3 ⟨rfl, hx3⟩;((conv=>whnf);repeat((first|refine mvT ?_|refine mvF ?_|refine yT ?_|refine yF ?_);conv=>whnf))
    refine Does.mono (sFetchRequest w3) ?_;rintro r4 w4 ⟨⟨fv, rfl, hfd⟩, hx4⟩;((conv=>whnf);repeat((first|refine mvT ?_|refine mvF ?_|refine yT ?_|refine yF ?_);conv=>whnf))
    have hone := hfd
    obtain ⟨ls3, hsl3, _⟩ := hone
    obtain ⟨a3, c3, rfl, _⟩ := hsl3.view
    refine Does.mono (version_does n 18 hn (by omega) w4) ?_;rintro r5 w5 ⟨rfl, rfl⟩;((conv=>whnf);repeat((first|refine mvT ?_|refine mvF ?_|refine yT ?_|refine yF ?_);conv=>whnf))
    intro b6 w6 hb6 ho6 hx6
    ((conv=>whnf);repeat((first|refine mvT ?_|refine mvF ?_|refine yT ?_|refine yF ?_);conv=>whnf))
    refine ⟨_, _, ho6, rfl, rfl, rfl, ?_⟩
    intro w7 ho7 hx7
    have hx57 : Ext nob w5 w7 := hx6.st hx7 hb6
    ((conv=>whnf);repeat((first|refine mvT ?_|refine mvF ?_|refine yT ?_|refine yF ?_);conv=>whnf))
    have hx27 : Ext nob w2 w7 := (hx3.e0 hx4).e0 hx57
    have hx07 : Ext nob w w7 := hx02.e0 hx27
    have ho1 := (ho.e0 hx2).e0 hx27
    have hoi1 := (hoi.e0 hx2).e0 hx27
    generalize hvv : ((n % (18 + 1) : Nat) : Int) = v
    have hv0 : 0 ≤ v := by omega
    have hv1 : v < 32768 := by omega
    have hok : ∀ f, f ∈ dFetchRequest → okF 9 f = true := List.all_eq_true.1 (show (dFetchRequest).all (okF 9) = true by decide)
    have hnt : ∀ f, f ∈ dFetchRequest → tgF 12 9 f = true := List.all_eq_true.1 (show (dFetchRequest).all (tgF 12 9) = true by decide)
    have hrise : riseF 0 dFetchRequest = true := by decide
    have hsmw : ∀ f, f ∈ dFetchRequest → smW 9 f = true := List.all_eq_true.1 (show (dFetchRequest).all (smW 9) = true by decide +kernel)
    have hsz32 : (partB 9 v (flexB 12 v) dFetchRequest t).length < 4294967296 := Nat.lt_of_le_of_lt (partB_wtT 12 9 v _ dFetchRequest t hrise (by decide) hnt hsmw hsz hkeys) (Nat.lt_of_le_of_lt (Nat.mul_le_mul_left _ hsz) (by decide +kernel))
    have hrr : ∀ f, f ∈ dFetchRequest → okR 12 9 f = true := List.all_eq_true.1 (show (dFetchRequest).all (okR 12 9) = true by decide)
    have hww : ∀ f, f ∈ dFetchRequest → okW 9 f = true := List.all_eq_true.1 (show (dFetchRequest).all (okW 9) = true by decide)
    refine ldS (hoi1.cell rfl) ?_;((conv=>whnf);repeat((first|refine mvT ?_|refine mvF ?_|refine yT ?_|refine yF ?_);conv=>whnf))
    refine cI (by rfl) (fun hd=>?_) (fun hd=>?_)
    · ((conv=>whnf);repeat((first|refine mvT ?_|refine mvF ?_|refine yT ?_|refine yF ?_);conv=>whnf))
      exact ⟨rfl, hx07⟩
    · have hl1 : id.length ≤ 32767 := by have := of_decide_eq_false hd; simp only [ByteArray.size, List.size_toArray] at this; omega
      ((conv=>whnf);repeat((first|refine mvT ?_|refine mvF ?_|refine yT ?_|refine yF ?_);conv=>whnf))
      refine ⟨_, rfl, ho7.cells, ?_⟩
      ((conv=>whnf);repeat((first|refine mvT ?_|refine mvF ?_|refine yT ?_|refine yF ?_);conv=>whnf))
      refine ⟨_, rfl, ho1.cells, ?_⟩
      ((conv=>whnf);repeat((first|refine mvT ?_|refine mvF ?_|refine yT ?_|refine yF ?_);conv=>whnf))
      have hfx : decide (v ≥ 12) = flexB 12 v := by simp [flexB]
      have hlen : (partB 9 v (flexB 12 v) dFetchRequest t).length ≤ 90000000000000 := Nat.le_trans (partB_wtT 12 9 v _ dFetchRequest t hrise (by decide) hnt hsmw hsz hkeys) (Nat.le_trans (Nat.mul_le_mul_left _ hsz) (Nat.le_of_ble_eq_true rfl))
      refine Does.mono (write_does 9 (v := v) ⟨_, rfl, hfd.e0 hx57⟩ (ht.e0 hx07) hok (by decide) (Nat.le_trans hlen (by decide))) ?_
      rintro r8 w8 ⟨hr8, hx8⟩
      obtain ⟨a8, c8, rfl, _⟩ := hr8.shape
      ((conv=>whnf);repeat((first|refine mvT ?_|refine mvF ?_|refine yT ?_|refine yF ?_);conv=>whnf))
      have hx08 := hx07.e0 hx8
      have hoi8 := hoi1.e0 hx8
      have ho78 := ho7.e0 hx8
      have hrd : rdPart 9 v (decide (v ≥ 12)) dFetchRequest (partB 9 v (flexB 12 v) dFetchRequest t, false) = (toPartT 9 v (decide (v ≥ 12)) dFetchRequest t, ([], false)) := by
        have := part_readT 9 12 v dFetchRequest t hrise (by decide) hnt hrr hkeys hv0 hsz32 []
        rw [List.append_nil] at this
        rw [hfx]
        exact this
      have hokT := part_okTT 12 9 v (decide (v ≥ 12)) dFetchRequest t hfx hnt hww hkeys hv0
      have hlaw : bFetchRequest v (decide (v ≥ 12)) (toPartT 9 v (decide (v ≥ 12)) dFetchRequest t) = partB 9 v (flexB 12 v) dFetchRequest t := by
        rw [← bFetchRequest_eq hv0 hokT, hfx]
        exact partT_lawT 12 9 v _ dFetchRequest t hrise hnt hww hv0
      refine ⟨_, rfl, hoi8.cells, ?_⟩
      ((conv=>whnf);repeat((first|refine mvT ?_|refine mvF ?_|refine yT ?_|refine yF ?_);conv=>whnf))
      refine Does.mono (frameFetchRequest (v := v) (num := num) (hL.ext hx08 fun f => f) hr8.bytesAny hv0 hv1 hl1 hrd hokT (by omega) (by rw [hlaw]; omega) (by rw [hlaw]; exact hsz32)) ?_
      rintro r9 w9 ⟨o9, rfl, ho9, hx9⟩
      rw [hlaw] at ho9
      obtain ⟨a9, c9, rfl, _⟩ := ho9.shape
      ((conv=>whnf);repeat((first|refine mvT ?_|refine mvF ?_|refine yT ?_|refine yF ?_);conv=>whnf))
      have hx09 := hx08.e0 hx9
      have hoi9 := hoi8.e0 hx9
      have ho79 := ho78.e0 hx9
      have hr89 := hr8.e0 hx9
      refine VD.draw mixed (.q 0 (.q 1 (.q 2 (.q 3 (.q 4 (.q 5 (.q 6 (.q 7 (.q 8 (.q 10 (.q 11 (.q 13 (.alt (.eff 9 [6, 10] (.eff 12 [6, 8] (.eff 14 [] (.eff 15 [] (.q 16 (.eff 17 [] (.done))))))) (.eff 12 [6, 8] (.eff 9 [6, 10] (.eff 14 [] (.eff 15 [] (.q 16 (.eff 17 [] (.done)))))))))))))))))))) (by kernel_rfl) ?_;((conv=>whnf);repeat((first|refine mvT ?_|refine mvF ?_|refine yT ?_|refine yF ?_);conv=>whnf))
      have hxd : Ext nob w9 w9.drew := ext_drew _
      have hoid := hoi9.e0 hxd
      have ho7d := ho79.e0 hxd
      refine ldS (hoid.cell rfl) ?_;((conv=>whnf);repeat((first|refine mvT ?_|refine mvF ?_|refine yT ?_|refine yF ?_);conv=>whnf))
      refine ldS (hoid.cell rfl) ?_;((conv=>whnf);repeat((first|refine mvT ?_|refine mvF ?_|refine yT ?_|refine yF ?_);conv=>whnf))
      refine ⟨_, rfl, ho7d.cells, ?_⟩
      ((conv=>whnf);repeat((first|refine mvT ?_|refine mvF ?_|refine yT ?_|refine yF ?_);conv=>whnf))
      have ag6 : ∀ {w' : World}, Ext nob w9 w' → w'.cell? ⟨bi, 0 + 0, none⟩ = some (.bool has) := fun h => (hoi9.e0 h).cell rfl
      have ag8 : ∀ {w' : World}, Ext nob w9 w' → w'.cell? ⟨bi, 0 + 1, none⟩ = some (str id) := fun h => (hoi9.e0 h).cell rfl
      have hB : ∀ {w' : World} {b c : Nat}, Cells w' b 0 (id.map bcell) → b < w'.heap.size → id.length ≤ c ∧ c ≤ maxLen → Bytes w' anyB (.slice (some ⟨b, 0, none⟩) id.length c) id := fun h1 h2 h3 => ⟨_, _, rfl, h3, by simp, .inr ⟨_, _, rfl, trivial, h2, h1⟩⟩
      constructor
      · conv => whnf
        refine ⟨by rw [maxLen_eq]; simp only [ByteArray.size, List.size_toArray]; omega, ?_⟩
        intro b10 c10 w10 hb10 hbl10 hC10 hc10 hx10
        simp only [ByteArray.size, List.size_toArray] at hC10 hc10
        have hx9 : Ext nob w9 w10 := hxd.e0 hx10
        refine ⟨by (conv => whnf); exact ⟨⟨_, ag6 hx9, rfl, rfl⟩, ⟨_, rfl, (ho79.e0 hx9).cells, rfl, rfl⟩, trivial⟩, ?_⟩
        conv => whnf
        refine Does.mono (Flexible_does (w := w10)) ?_
        rintro r12 w12 ⟨rfl, hx12⟩
        have hx9 := hx9.e0 hx12
        refine ⟨by (conv => whnf); exact ⟨⟨_, ag6 hx9, rfl, rfl⟩, ⟨_, ag8 hx9, rfl, rfl⟩, trivial⟩, ?_⟩
        conv => whnf
        refine Does.mono (Frame_does (has := has) (num := num) ((hB hC10 hbl10 hc10).e0 hx12) (hr89.e0 hx9).bytesAny hl1 (by omega)) ?_
        rintro r14 w14 ⟨h14, hx14⟩
        obtain ⟨a14, c14, rfl, _⟩ := h14.shape
        have hx9 := hx9.e0 hx14
        ((conv=>whnf);repeat((first|refine mvT ?_|refine mvF ?_|refine yT ?_|refine yF ?_);conv=>whnf))
        refine Does.mono (Same_does (ho9.e0 hx9).bytesAny h14.bytesAny) ?_
        rintro r15 w15 ⟨rfl, hx15⟩
        ((conv=>whnf);repeat((first|refine mvT ?_|refine mvF ?_|refine yT ?_|refine yF ?_);conv=>whnf))
        exact ⟨by simp [oneOr, hfx], (hx09.e0 hx9).e0 hx15⟩
      · conv => whnf
        refine Does.mono (Flexible_does (w := w9.drew)) ?_
        rintro r12 w12 ⟨rfl, hx12⟩
        have hx9 := hxd.e0 hx12
        refine ⟨by (conv => whnf); exact ⟨⟨_, ag6 hx9, rfl, rfl⟩, ⟨_, ag8 hx9, rfl, rfl⟩, trivial⟩, ?_⟩
        conv => whnf
        refine ⟨by rw [maxLen_eq]; simp only [ByteArray.size, List.size_toArray]; omega, ?_⟩
        intro b10 c10 w10 hb10 hbl10 hC10 hc10 hx10
        simp only [ByteArray.size, List.size_toArray] at hC10 hc10
        have hx9 := hx9.e0 hx10
        refine ⟨by (conv => whnf); exact ⟨⟨_, ag6 hx9, rfl, rfl⟩, ⟨_, rfl, (ho79.e0 hx9).cells, rfl, rfl⟩, trivial⟩, ?_⟩
        conv => whnf
        refine Does.mono (Frame_does (has := has) (num := num) (hB hC10 hbl10 hc10) (hr89.e0 hx9).bytesAny hl1 (by omega)) ?_
        rintro r14 w14 ⟨h14, hx14⟩
        obtain ⟨a14, c14, rfl, _⟩ := h14.shape
        have hx9 := hx9.e0 hx14
        ((conv=>whnf);repeat((first|refine mvT ?_|refine mvF ?_|refine yT ?_|refine yF ?_);conv=>whnf))
        refine Does.mono (Same_does (ho9.e0 hx9).bytesAny h14.bytesAny) ?_
        rintro r15 w15 ⟨rfl, hx15⟩
        ((conv=>whnf);repeat((first|refine mvT ?_|refine mvF ?_|refine yT ?_|refine yF ?_);conv=>whnf))
        exact ⟨by simp [oneOr, hfx], (hx09.e0 hx9).e0 hx15⟩
end Go.Proofs.YtgfkjnbhcekfkaaGreatDoor.K
