/- FetchSnapshotResponse is read and written behind octets. -/
import Derived.Test.YtabhhkdgfdjicaaGreatDoorF1
import Derived.Test.YtabhhkdgfdjicaaGreatDoorZ1
import Derived.Test.YtabhhkdgfdjicaaGreatDoorQ4
import Derived.Test.YtabhhkdgfdjicaaGreatDoorV57
import Derived.Test.YtabhhkdgfdjicaaGreatDoorGversion
set_option linter.unusedVariables false
set_option linter.unusedSimpArgs false
namespace Go.Proofs.YtabhhkdgfdjicaaGreatDoor.K
open Go
set_option maxHeartbeats 1600000
set_option maxRecDepth 100000

def rFetchSnapshotResponseTopicPartitionSnapshotID (w : World) (F : Nat → Prop) (cs : List Value) (t : T) : Prop := ∃ m, cs = [.int .i64 (atT t 0).n, .int .i32 (IntKind.i32.wrap (atT t 1).n), m] ∧ TagsR w F m t.u
theorem rFetchSnapshotResponseTopicPartitionSnapshotID_ext {M F : Nat → Prop} {w w' : World} {cs : List Value} {t : T} (h : rFetchSnapshotResponseTopicPartitionSnapshotID w F cs t) (x : Ext M w w') (hF : ∀ k, k < w.heap.size → F k → ¬ M k) : rFetchSnapshotResponseTopicPartitionSnapshotID w' F cs t := by
  obtain ⟨m, rfl, hm⟩ := h
  exact ⟨m, rfl, hm.ext x hF⟩
theorem rFetchSnapshotResponseTopicPartitionSnapshotID_mono {F F' : Nat → Prop} {w : World} {cs : List Value} {t : T} (h : rFetchSnapshotResponseTopicPartitionSnapshotID w F cs t) (hF : ∀ k, k < w.heap.size → F k → F' k) : rFetchSnapshotResponseTopicPartitionSnapshotID w F' cs t := by
  obtain ⟨m, rfl, hm⟩ := h
  exact ⟨m, rfl, hm.mono hF⟩
theorem rFetchSnapshotResponseTopicPartitionSnapshotID_len {F : Nat → Prop} {w : World} {cs : List Value} {t : T} (h : rFetchSnapshotResponseTopicPartitionSnapshotID w F cs t) : cs.length = 3 := by
  obtain ⟨m, rfl, hm⟩ := h
  rfl
def rFetchSnapshotResponseTopicPartitionCurrentLeader (w : World) (F : Nat → Prop) (cs : List Value) (t : T) : Prop := ∃ m, cs = [.int .i32 (IntKind.i32.wrap (atT t 0).n), .int .i32 (IntKind.i32.wrap (atT t 1).n), m] ∧ TagsR w F m t.u
theorem rFetchSnapshotResponseTopicPartitionCurrentLeader_ext {M F : Nat → Prop} {w w' : World} {cs : List Value} {t : T} (h : rFetchSnapshotResponseTopicPartitionCurrentLeader w F cs t) (x : Ext M w w') (hF : ∀ k, k < w.heap.size → F k → ¬ M k) : rFetchSnapshotResponseTopicPartitionCurrentLeader w' F cs t := by
  obtain ⟨m, rfl, hm⟩ := h
  exact ⟨m, rfl, hm.ext x hF⟩
theorem rFetchSnapshotResponseTopicPartitionCurrentLeader_mono {F F' : Nat → Prop} {w : World} {cs : List Value} {t : T} (h : rFetchSnapshotResponseTopicPartitionCurrentLeader w F cs t) (hF : ∀ k, k < w.heap.size → F k → F' k) : rFetchSnapshotResponseTopicPartitionCurrentLeader w F' cs t := by
  obtain ⟨m, rfl, hm⟩ := h
  exact ⟨m, rfl, hm.mono hF⟩
theorem rFetchSnapshotResponseTopicPartitionCurrentLeader_len {F : Nat → Prop} {w : World} {cs : List Value} {t : T} (h : rFetchSnapshotResponseTopicPartitionCurrentLeader w F cs t) : cs.length = 3 := by
  obtain ⟨m, rfl, hm⟩ := h
  rfl
def rFetchSnapshotResponseTopicPartition (w : World) (F : Nat → Prop) (cs : List Value) (t : T) : Prop := ∃ c2_0 c2_1 c2_2 c3_0 c3_1 c3_2 c6 m, cs = [.int .i32 (IntKind.i32.wrap (atT t 0).n), .int .i16 (IntKind.i16.wrap (atT t 1).n), c2_0, c2_1, c2_2, c3_0, c3_1, c3_2, .int .i64 (atT t 4).n, .int .i64 (atT t 5).n, c6, m] ∧ rFetchSnapshotResponseTopicPartitionSnapshotID w F [c2_0, c2_1, c2_2] (atT t 2) ∧ rFetchSnapshotResponseTopicPartitionCurrentLeader w F [c3_0, c3_1, c3_2] (atT t 3) ∧ OctR true w F c6 (atT t 6) ∧ TagsR w F m t.u
theorem rFetchSnapshotResponseTopicPartition_ext {M F : Nat → Prop} {w w' : World} {cs : List Value} {t : T} (h : rFetchSnapshotResponseTopicPartition w F cs t) (x : Ext M w w') (hF : ∀ k, k < w.heap.size → F k → ¬ M k) : rFetchSnapshotResponseTopicPartition w' F cs t := by
  obtain ⟨c2_0, c2_1, c2_2, c3_0, c3_1, c3_2, c6, m, rfl, h2, h3, h6, hm⟩ := h
  exact ⟨c2_0, c2_1, c2_2, c3_0, c3_1, c3_2, c6, m, rfl, rFetchSnapshotResponseTopicPartitionSnapshotID_ext h2 x hF, rFetchSnapshotResponseTopicPartitionCurrentLeader_ext h3 x hF, h6.ext x hF, hm.ext x hF⟩
theorem rFetchSnapshotResponseTopicPartition_mono {F F' : Nat → Prop} {w : World} {cs : List Value} {t : T} (h : rFetchSnapshotResponseTopicPartition w F cs t) (hF : ∀ k, k < w.heap.size → F k → F' k) : rFetchSnapshotResponseTopicPartition w F' cs t := by
  obtain ⟨c2_0, c2_1, c2_2, c3_0, c3_1, c3_2, c6, m, rfl, h2, h3, h6, hm⟩ := h
  exact ⟨c2_0, c2_1, c2_2, c3_0, c3_1, c3_2, c6, m, rfl, rFetchSnapshotResponseTopicPartitionSnapshotID_mono h2 hF, rFetchSnapshotResponseTopicPartitionCurrentLeader_mono h3 hF, h6.mono hF, hm.mono hF⟩
theorem rFetchSnapshotResponseTopicPartition_len {F : Nat → Prop} {w : World} {cs : List Value} {t : T} (h : rFetchSnapshotResponseTopicPartition w F cs t) : cs.length = 12 := by
  obtain ⟨c2_0, c2_1, c2_2, c3_0, c3_1, c3_2, c6, m, rfl, h2, h3, h6, hm⟩ := h
  rfl
def rFetchSnapshotResponseTopic (w : World) (F : Nat → Prop) (cs : List Value) (t : T) : Prop := ∃ c1 m, cs = [str (atT t 0).s, c1, m] ∧ ListR true 12 (rFetchSnapshotResponseTopicPartition w F) w F c1 (atT t 1) ∧ TagsR w F m t.u
theorem rFetchSnapshotResponseTopic_ext {M F : Nat → Prop} {w w' : World} {cs : List Value} {t : T} (h : rFetchSnapshotResponseTopic w F cs t) (x : Ext M w w') (hF : ∀ k, k < w.heap.size → F k → ¬ M k) : rFetchSnapshotResponseTopic w' F cs t := by
  obtain ⟨c1, m, rfl, h1, hm⟩ := h
  exact ⟨c1, m, rfl, h1.ext x hF (fun _ _ h => rFetchSnapshotResponseTopicPartition_ext h x hF), hm.ext x hF⟩
theorem rFetchSnapshotResponseTopic_mono {F F' : Nat → Prop} {w : World} {cs : List Value} {t : T} (h : rFetchSnapshotResponseTopic w F cs t) (hF : ∀ k, k < w.heap.size → F k → F' k) : rFetchSnapshotResponseTopic w F' cs t := by
  obtain ⟨c1, m, rfl, h1, hm⟩ := h
  exact ⟨c1, m, rfl, h1.mono hF (fun _ _ h => rFetchSnapshotResponseTopicPartition_mono h hF), hm.mono hF⟩
theorem rFetchSnapshotResponseTopic_len {F : Nat → Prop} {w : World} {cs : List Value} {t : T} (h : rFetchSnapshotResponseTopic w F cs t) : cs.length = 3 := by
  obtain ⟨c1, m, rfl, h1, hm⟩ := h
  rfl
def rFetchSnapshotResponseNodeEndpoint (w : World) (F : Nat → Prop) (cs : List Value) (t : T) : Prop := ∃ m, cs = [.int .i32 (IntKind.i32.wrap (atT t 0).n), str (atT t 1).s, .int .u16 (IntKind.u16.wrap (atT t 2).n), m] ∧ TagsR w F m t.u
theorem rFetchSnapshotResponseNodeEndpoint_ext {M F : Nat → Prop} {w w' : World} {cs : List Value} {t : T} (h : rFetchSnapshotResponseNodeEndpoint w F cs t) (x : Ext M w w') (hF : ∀ k, k < w.heap.size → F k → ¬ M k) : rFetchSnapshotResponseNodeEndpoint w' F cs t := by
  obtain ⟨m, rfl, hm⟩ := h
  exact ⟨m, rfl, hm.ext x hF⟩
theorem rFetchSnapshotResponseNodeEndpoint_mono {F F' : Nat → Prop} {w : World} {cs : List Value} {t : T} (h : rFetchSnapshotResponseNodeEndpoint w F cs t) (hF : ∀ k, k < w.heap.size → F k → F' k) : rFetchSnapshotResponseNodeEndpoint w F' cs t := by
  obtain ⟨m, rfl, hm⟩ := h
  exact ⟨m, rfl, hm.mono hF⟩
theorem rFetchSnapshotResponseNodeEndpoint_len {F : Nat → Prop} {w : World} {cs : List Value} {t : T} (h : rFetchSnapshotResponseNodeEndpoint w F cs t) : cs.length = 4 := by
  obtain ⟨m, rfl, hm⟩ := h
  rfl
def bFetchSnapshotResponseTopicPartitionSnapshotID (v : Int) (fx : Bool) (t : T) : List UInt8 := ((fixed (atT t 0).n 8) ++ ((fixed (atT t 1).n 4) ++ ([]))) ++ tgsB fx t.u
theorem bFetchSnapshotResponseTopicPartitionSnapshotID_eq {v : Int} {fx : Bool} {t : T} (hv : 0 ≤ v) (hok : partOK 6 v dFetchSnapshotResponseTopicPartitionSnapshotID t) : partA 6 v fx dFetchSnapshotResponseTopicPartitionSnapshotID t = bFetchSnapshotResponseTopicPartitionSnapshotID v fx t := by
  unfold partA partAW bFetchSnapshotResponseTopicPartitionSnapshotID
  rw [tgA_nt (by decide)]
  have hf := hok.1 0 _ rfl
  rw [plainW_all hv]
  have hf := hok.1 1 _ rfl
  rw [plainW_all hv]
  rfl
def bFetchSnapshotResponseTopicPartitionCurrentLeader (v : Int) (fx : Bool) (t : T) : List UInt8 := ((fixed (atT t 0).n 4) ++ ((fixed (atT t 1).n 4) ++ ([]))) ++ tgsB fx t.u
theorem bFetchSnapshotResponseTopicPartitionCurrentLeader_eq {v : Int} {fx : Bool} {t : T} (hv : 0 ≤ v) (hok : partOK 6 v dFetchSnapshotResponseTopicPartitionCurrentLeader t) : partA 6 v fx dFetchSnapshotResponseTopicPartitionCurrentLeader t = bFetchSnapshotResponseTopicPartitionCurrentLeader v fx t := by
  unfold partA partAW bFetchSnapshotResponseTopicPartitionCurrentLeader
  rw [tgA_nt (by decide)]
  have hf := hok.1 0 _ rfl
  rw [plainW_all hv]
  have hf := hok.1 1 _ rfl
  rw [plainW_all hv]
  rfl
def gFetchSnapshotResponseTopicPartition (v : Int) (fx : Bool) (t : T) : List Tg := (if ncB (.mk 10 0 (-1) (-1) 0 0 0 dFetchSnapshotResponseTopicPartitionCurrentLeader) (atT t 3) = false then [(0, bFetchSnapshotResponseTopicPartitionCurrentLeader v fx (atT t 3))] else []) ++ ([])
def bFetchSnapshotResponseTopicPartition (v : Int) (fx : Bool) (t : T) : List UInt8 := ((fixed (atT t 0).n 4) ++ ((fixed (atT t 1).n 2) ++ ((bFetchSnapshotResponseTopicPartitionSnapshotID v fx (atT t 2)) ++ ((fixed (atT t 4).n 8) ++ ((fixed (atT t 5).n 8) ++ ((ocA fx (atT t 6).s) ++ ([]))))))) ++ (if fx = true then uvar ((gFetchSnapshotResponseTopicPartition v fx t).length + (t).u.length) ++ ((gFetchSnapshotResponseTopicPartition v fx t).flatMap tagB ++ (t).u.flatMap tagB) else [])
theorem bFetchSnapshotResponseTopicPartition_eq {v : Int} {fx : Bool} {t : T} (hv : 0 ≤ v) (hok : partOK 7 v dFetchSnapshotResponseTopicPartition t) : partA 7 v fx dFetchSnapshotResponseTopicPartition t = bFetchSnapshotResponseTopicPartition v fx t := by
  unfold partA partAW bFetchSnapshotResponseTopicPartition
  have hg : tagL (fieldA 7 v fx) ncB t 0 dFetchSnapshotResponseTopicPartition = gFetchSnapshotResponseTopicPartition v fx t := by
    unfold gFetchSnapshotResponseTopicPartition
    rw [tagL_skip (by decide)]
    rw [tagL_skip (by decide)]
    rw [tagL_skip (by decide)]
    have hf := hok.1 3 _ rfl
    rw [tagL_one (k := 0) (pc := bFetchSnapshotResponseTopicPartitionCurrentLeader v fx (atT t 3)) (by decide) fun hu => ?_]
    rotate_left
    · exact (show fieldA 7 v fx (.mk 10 0 (-1) (-1) 0 0 0 dFetchSnapshotResponseTopicPartitionCurrentLeader) (atT t 3) = partA 6 v fx dFetchSnapshotResponseTopicPartitionCurrentLeader (atT t 3) from rfl).trans (bFetchSnapshotResponseTopicPartitionCurrentLeader_eq hv (fieldOK_part hf))
    rw [tagL_skip (by decide)]
    rw [tagL_skip (by decide)]
    rw [tagL_skip (by decide)]
    rfl
  unfold tgA
  rw [if_neg (by decide), hg]
  have hf := hok.1 0 _ rfl
  rw [plainW_all hv]
  have hf := hok.1 1 _ rfl
  rw [plainW_all hv]
  have hf := hok.1 2 _ rfl
  rw [plainW_all hv]
  rw [show fieldA 7 v fx (.mk 10 0 (-1) (-1) (-1) 0 0 dFetchSnapshotResponseTopicPartitionSnapshotID) (atT t 2) = partA 6 v fx dFetchSnapshotResponseTopicPartitionSnapshotID (atT t 2) from rfl, bFetchSnapshotResponseTopicPartitionSnapshotID_eq hv (fieldOK_part hf)]
  rw [plainW_tag (by decide)]
  have hf := hok.1 4 _ rfl
  rw [plainW_all hv]
  have hf := hok.1 5 _ rfl
  rw [plainW_all hv]
  have hf := hok.1 6 _ rfl
  rw [plainW_all hv]
  rw [oc_eq hf]
  rfl
def bFetchSnapshotResponseTopic (v : Int) (fx : Bool) (t : T) : List UInt8 := ((txA fx (atT t 0).s) ++ ((arA fx (lsT (atT t 1)).length ++ (lsT (atT t 1)).flatMap (bFetchSnapshotResponseTopicPartition v fx)) ++ ([]))) ++ tgsB fx t.u
theorem bFetchSnapshotResponseTopic_eq {v : Int} {fx : Bool} {t : T} (hv : 0 ≤ v) (hok : partOK 8 v dFetchSnapshotResponseTopic t) : partA 8 v fx dFetchSnapshotResponseTopic t = bFetchSnapshotResponseTopic v fx t := by
  unfold partA partAW bFetchSnapshotResponseTopic
  rw [tgA_nt (by decide)]
  have hf := hok.1 0 _ rfl
  rw [plainW_all hv]
  rw [tx_eq hf]
  have hf := hok.1 1 _ rfl
  rw [plainW_all hv]
  rw [ar_eq (g := (bFetchSnapshotResponseTopicPartition v fx)) hf fun y hy => bFetchSnapshotResponseTopicPartition_eq hv ((lsT_ok hf y hy).2.2 rfl)]
  rfl
def bFetchSnapshotResponseNodeEndpoint (v : Int) (fx : Bool) (t : T) : List UInt8 := (((if (decide (1 ≤ v) && (decide ((-1 : Int) < 0) || decide (v ≤ (-1)))) = true then fixed (atT t 0).n 4 else [])) ++ (((if (decide (1 ≤ v) && (decide ((-1 : Int) < 0) || decide (v ≤ (-1)))) = true then txA fx (atT t 1).s else [])) ++ (((if (decide (1 ≤ v) && (decide ((-1 : Int) < 0) || decide (v ≤ (-1)))) = true then fixed (atT t 2).n 2 else [])) ++ ([])))) ++ tgsB fx t.u
theorem bFetchSnapshotResponseNodeEndpoint_eq {v : Int} {fx : Bool} {t : T} (hv : 0 ≤ v) (hok : partOK 8 v dFetchSnapshotResponseNodeEndpoint t) : partA 8 v fx dFetchSnapshotResponseNodeEndpoint t = bFetchSnapshotResponseNodeEndpoint v fx t := by
  unfold partA partAW bFetchSnapshotResponseNodeEndpoint
  rw [tgA_nt (by decide)]
  have hf := hok.1 0 _ rfl
  rw [plainW_ver]
  have hf := hok.1 1 _ rfl
  rw [plainW_ver]
  rw [tx_eq hf]
  have hf := hok.1 2 _ rfl
  rw [plainW_ver]
  rfl
def gFetchSnapshotResponse (v : Int) (fx : Bool) (t : T) : List Tg := (if ncB (.mk 11 0 (-1) (-1) 0 0 10 dFetchSnapshotResponseNodeEndpoint) (atT t 3) = false then [(0, arA fx (lsT (atT t 3)).length ++ (lsT (atT t 3)).flatMap (bFetchSnapshotResponseNodeEndpoint v fx))] else []) ++ ([])
def bFetchSnapshotResponse (v : Int) (fx : Bool) (t : T) : List UInt8 := ((fixed (atT t 0).n 4) ++ ((fixed (atT t 1).n 2) ++ ((arA fx (lsT (atT t 2)).length ++ (lsT (atT t 2)).flatMap (bFetchSnapshotResponseTopic v fx)) ++ ([])))) ++ (if fx = true then uvar ((gFetchSnapshotResponse v fx t).length + (t).u.length) ++ ((gFetchSnapshotResponse v fx t).flatMap tagB ++ (t).u.flatMap tagB) else [])
theorem bFetchSnapshotResponse_eq {v : Int} {fx : Bool} {t : T} (hv : 0 ≤ v) (hok : partOK 9 v dFetchSnapshotResponse t) : partA 9 v fx dFetchSnapshotResponse t = bFetchSnapshotResponse v fx t := by
  unfold partA partAW bFetchSnapshotResponse
  have hg : tagL (fieldA 9 v fx) ncB t 0 dFetchSnapshotResponse = gFetchSnapshotResponse v fx t := by
    unfold gFetchSnapshotResponse
    rw [tagL_skip (by decide)]
    rw [tagL_skip (by decide)]
    rw [tagL_skip (by decide)]
    have hf := hok.1 3 _ rfl
    rw [tagL_one (k := 0) (pc := arA fx (lsT (atT t 3)).length ++ (lsT (atT t 3)).flatMap (bFetchSnapshotResponseNodeEndpoint v fx)) (by decide) fun hu => ?_]
    rotate_left
    · exact ar_eq (g := (bFetchSnapshotResponseNodeEndpoint v fx)) hf fun y hy => bFetchSnapshotResponseNodeEndpoint_eq hv ((lsT_ok hf y hy).2.2 rfl)
    rfl
  unfold tgA
  rw [if_neg (by decide), hg]
  have hf := hok.1 0 _ rfl
  rw [plainW_all hv]
  have hf := hok.1 1 _ rfl
  rw [plainW_all hv]
  have hf := hok.1 2 _ rfl
  rw [plainW_all hv]
  rw [ar_eq (g := (bFetchSnapshotResponseTopic v fx)) hf fun y hy => bFetchSnapshotResponseTopic_eq hv ((lsT_ok hf y hy).2.2 rfl)]
  rw [plainW_tag (by decide)]
  rfl
theorem dfltFetchSnapshotResponseTopicPartitionCurrentLeader {w : World} : Does X.P 58 #[] w fun r w' => r = .agg #[.int .i32 0, .int .i32 0, .map none] ∧ Ext nob w w' := by
  refine Does.go (X := X) (l := []) Tryz.func58 rfl (by kernel_rfl) (by kernel_rfl) _ rfl ?_
  ((conv=>whnf);repeat(first|(refine mvT ?_;conv=>whnf)|(refine mvF ?_;conv=>whnf)|(refine cT (by rfl) ?_;conv=>whnf)|(refine cF (by rfl) ?_;conv=>whnf)))
  intro b0 w1 hb0 ho0 hx1
  ((conv=>whnf);repeat(first|(refine mvT ?_;conv=>whnf)|(refine mvF ?_;conv=>whnf)|(refine cT (by rfl) ?_;conv=>whnf)|(refine cF (by rfl) ?_;conv=>whnf)))
  intro b1 w2 hb1 ho1 hx2
  ((conv=>whnf);repeat(first|(refine mvT ?_;conv=>whnf)|(refine mvF ?_;conv=>whnf)|(refine cT (by rfl) ?_;conv=>whnf)|(refine cF (by rfl) ?_;conv=>whnf)))
  have h01 : b0 ≠ b1 := by have := ho0.lt; omega
  refine Does.mono (dfFetchSnapshotResponseTopicPartitionCurrentLeader (pre := []) (cur := [.int .i32 0, .int .i32 0, .map none]) (post := []) (by simpa using ho1) rfl rfl) ?_
  rintro r w3 ⟨ho3, hx3⟩
  ((conv=>whnf);repeat(first|(refine mvT ?_;conv=>whnf)|(refine mvF ?_;conv=>whnf)|(refine cT (by rfl) ?_;conv=>whnf)|(refine cF (by rfl) ?_;conv=>whnf)))
  have ho3 : Own w3 b1 95 [.int .i32 0, .int .i32 0, .map none] := by simpa using ho3
  refine ⟨_, rfl, ho3.cells, ?_⟩
  ((conv=>whnf);repeat(first|(refine mvT ?_;conv=>whnf)|(refine mvF ?_;conv=>whnf)|(refine cT (by rfl) ?_;conv=>whnf)|(refine cF (by rfl) ?_;conv=>whnf)))
  have ho03 := (ho0.e0 hx2).ext hx3 h01
  refine st_all [.int .i32 0, .int .i32 0, .map none] ho03 rfl rfl rfl ?_
  intro w4 ho4 hx4
  ((conv=>whnf);repeat(first|(refine mvT ?_;conv=>whnf)|(refine mvF ?_;conv=>whnf)|(refine cT (by rfl) ?_;conv=>whnf)|(refine cF (by rfl) ?_;conv=>whnf)))
  refine ⟨_, rfl, ho4.cells, ?_⟩
  exact ⟨rfl, ((hx1.e0 hx2).trans hx3 fun k hk e => by have := hx1.size; omega).trans hx4 fun k hk e => by have := hx1.size; omega⟩
theorem sameFetchSnapshotResponseTopicPartitionCurrentLeader {w : World} {F : Nat → Prop} {m : Value} {t : T} (hm : TagsR w F m t.u) : Does X.P 57 #[.agg #[.int .i32 (IntKind.i32.wrap (atT t 0).n), .int .i32 (IntKind.i32.wrap (atT t 1).n), m], .agg #[.int .i32 0, .int .i32 0, .map none]] w fun r w' => r = .bool (ncB (.mk 10 0 (-1) (-1) 0 0 0 dFetchSnapshotResponseTopicPartitionCurrentLeader) t) ∧ Ext nob w w' := by
  refine Does.go (X := X) (l := [_, _]) Tryz.func57 rfl (by kernel_rfl) (by kernel_rfl) _ rfl ?_
  ((conv=>whnf);repeat(first|(refine mvT ?_;conv=>whnf)|(refine mvF ?_;conv=>whnf)|(refine cT (by rfl) ?_;conv=>whnf)|(refine cF (by rfl) ?_;conv=>whnf)))
  intro b1 w1 hb1 ho1 hx1
  ((conv=>whnf);repeat(first|(refine mvT ?_;conv=>whnf)|(refine mvF ?_;conv=>whnf)|(refine cT (by rfl) ?_;conv=>whnf)|(refine cF (by rfl) ?_;conv=>whnf)))
  intro b2 w2 hb2 ho2 hx2
  ((conv=>whnf);repeat(first|(refine mvT ?_;conv=>whnf)|(refine mvF ?_;conv=>whnf)|(refine cT (by rfl) ?_;conv=>whnf)|(refine cF (by rfl) ?_;conv=>whnf)))
  have ho12 := ho1.e0 hx2
  have hx02 := hx1.e0 hx2
  refine ldS (ho12.cell rfl) ?_;((conv=>whnf);repeat(first|(refine mvT ?_;conv=>whnf)|(refine mvF ?_;conv=>whnf)|(refine cT (by rfl) ?_;conv=>whnf)|(refine cF (by rfl) ?_;conv=>whnf)))
  refine ldS (ho2.cell rfl) ?_;((conv=>whnf);repeat(first|(refine mvT ?_;conv=>whnf)|(refine mvF ?_;conv=>whnf)|(refine cT (by rfl) ?_;conv=>whnf)|(refine cF (by rfl) ?_;conv=>whnf)))
  intro cq0 hcq0
  have e0 : decide (numK 3 (atT t 0).n = 0) = cq0 := hcq0
  cases cq0 with
  | false =>
    ((conv=>whnf);repeat(first|(refine mvT ?_;conv=>whnf)|(refine mvF ?_;conv=>whnf)|(refine cT (by rfl) ?_;conv=>whnf)|(refine cF (by rfl) ?_;conv=>whnf)))
    exact ⟨by show Value.bool false = .bool ((decide (numK 3 (atT t 0).n = 0) && (decide (numK 3 (atT t 1).n = 0) && (true))) && t.u.isEmpty); rw [e0]; simp, hx02⟩
  | true =>
    ((conv=>whnf);repeat(first|(refine mvT ?_;conv=>whnf)|(refine mvF ?_;conv=>whnf)|(refine cT (by rfl) ?_;conv=>whnf)|(refine cF (by rfl) ?_;conv=>whnf)))
    refine ldS (ho12.cell rfl) ?_;((conv=>whnf);repeat(first|(refine mvT ?_;conv=>whnf)|(refine mvF ?_;conv=>whnf)|(refine cT (by rfl) ?_;conv=>whnf)|(refine cF (by rfl) ?_;conv=>whnf)))
    refine ldS (ho2.cell rfl) ?_;((conv=>whnf);repeat(first|(refine mvT ?_;conv=>whnf)|(refine mvF ?_;conv=>whnf)|(refine cT (by rfl) ?_;conv=>whnf)|(refine cF (by rfl) ?_;conv=>whnf)))
    intro cq1 hcq1
    have e1 : decide (numK 3 (atT t 1).n = 0) = cq1 := hcq1
    cases cq1 with
    | false =>
      ((conv=>whnf);repeat(first|(refine mvT ?_;conv=>whnf)|(refine mvF ?_;conv=>whnf)|(refine cT (by rfl) ?_;conv=>whnf)|(refine cF (by rfl) ?_;conv=>whnf)))
      exact ⟨by show Value.bool false = .bool ((decide (numK 3 (atT t 0).n = 0) && (decide (numK 3 (atT t 1).n = 0) && (true))) && t.u.isEmpty); rw [e0, e1]; simp, hx02⟩
    | true =>
      ((conv=>whnf);repeat(first|(refine mvT ?_;conv=>whnf)|(refine mvF ?_;conv=>whnf)|(refine cT (by rfl) ?_;conv=>whnf)|(refine cF (by rfl) ?_;conv=>whnf)))
      refine ⟨[m], rfl, Cells.sub ho12.cells 2 1 rfl, ?_⟩
      ((conv=>whnf);repeat(first|(refine mvT ?_;conv=>whnf)|(refine mvF ?_;conv=>whnf)|(refine cT (by rfl) ?_;conv=>whnf)|(refine cF (by rfl) ?_;conv=>whnf)))
      refine ⟨[.map none], rfl, Cells.sub ho2.cells 2 1 rfl, ?_⟩
      ((conv=>whnf);repeat(first|(refine mvT ?_;conv=>whnf)|(refine mvF ?_;conv=>whnf)|(refine cT (by rfl) ?_;conv=>whnf)|(refine cF (by rfl) ?_;conv=>whnf)))
      refine Does.mono (Tags_same_does (hm.ext hx02 fun _ _ _ f => f)) ?_;rintro rs ws ⟨rfl, hxs⟩;((conv=>whnf);repeat(first|(refine mvT ?_;conv=>whnf)|(refine mvF ?_;conv=>whnf)|(refine cT (by rfl) ?_;conv=>whnf)|(refine cF (by rfl) ?_;conv=>whnf)))
      exact ⟨by show Value.bool _ = .bool ((decide (numK 3 (atT t 0).n = 0) && (decide (numK 3 (atT t 1).n = 0) && (true))) && t.u.isEmpty); rw [e0, e1]; simp, hx02.e0 hxs⟩
theorem appFetchSnapshotResponse {F : Nat → Prop} {w0 : World} {p B : Nat} {ty : TypeId} {v : Int} {x c2 c3 m : Value} {l : List UInt8} {t : T} (hp : Own w0 p ty [.int .i16 v, .int .i32 (IntKind.i32.wrap (atT t 0).n), .int .i16 (IntKind.i16.wrap (atT t 1).n), c2, c3, m]) (hc2 : ListR true 3 (rFetchSnapshotResponseTopic w0 F) w0 F c2 (atT t 2)) (hc3 : ListR true 4 (rFetchSnapshotResponseNodeEndpoint w0 F) w0 F c3 (atT t 3)) (hm : TagsR w0 F m t.u) (hok : partOK 9 v dFetchSnapshotResponse t)
    (hF : ∀ j, j < w0.heap.size → F j → x.ownBlock ≠ some j) (hxp : x.ownBlock ≠ some p) (hx : OB w0 B x l) (hB : B ≤ w0.heap.size) (hv : 0 ≤ v) (hl : l.length + (bFetchSnapshotResponse v (decide (v ≥ 0)) t).length ≤ 100000000000000) (hs32 : (bFetchSnapshotResponse v (decide (v ≥ 0)) t).length < 4294967296) :
    Does X.P 26 #[.pointer (some ⟨p, 0, none⟩), x] w0 fun r w' => Apd w0 B x l (bFetchSnapshotResponse v (decide (v ≥ 0)) t) r w' := by
  have hpl := hp.lt
  obtain ⟨fx, hfx⟩ : ∃ fx, fx = decide (v ≥ 0) := ⟨_, rfl⟩
  rw [← hfx] at hl hs32 ⊢
  unfold bFetchSnapshotResponse at hl hs32
  simp only [List.length_append, List.length_nil] at hl hs32
  obtain ⟨F0, hFR, hFx, hcs⟩ : ∃ F0 : Nat → Prop, (∀ j, F0 j → j < w0.heap.size ∧ x.ownBlock ≠ some j) ∧ (∀ j, j < w0.heap.size → F0 j → ¬ x.ownBlock = some j) ∧ (ListR true 3 (rFetchSnapshotResponseTopic w0 F0) w0 F0 c2 (atT t 2) ∧ ListR true 4 (rFetchSnapshotResponseNodeEndpoint w0 F0) w0 F0 c3 (atT t 3) ∧ TagsR w0 F0 m t.u) :=
    ⟨fun j => F j ∧ j < w0.heap.size, fun j h => ⟨h.2, hF j h.2 h.1⟩, fun j _ h => hF j h.2 h.1, hc2.mono (fun k h1 h2 => ⟨h2, h1⟩) (fun _ _ h => rFetchSnapshotResponseTopic_mono h fun k h1 h2 => ⟨h2, h1⟩), hc3.mono (fun k h1 h2 => ⟨h2, h1⟩) (fun _ _ h => rFetchSnapshotResponseNodeEndpoint_mono h fun k h1 h2 => ⟨h2, h1⟩), hm.mono fun k h1 h2 => ⟨h2, h1⟩⟩
  clear hm hc2 hc3 hF
  obtain ⟨hc2, hc3, hm⟩ := hcs
  obtain ⟨a2, k2, l2, rfl, hkm2, hll2, hnn2, hcl2, hrl2⟩ := hc2.view
  have hA := Apd.start hx
  obtain ⟨m0, hm0⟩ : ∃ m0 : List UInt8, m0 = [] := ⟨_, rfl⟩
  rw [← hm0] at hA
  have hl0 : m0.length = 0 := by rw [hm0]; rfl
  refine Does.go (X := X) (l := [_, _]) Tryz.func26 rfl (by kernel_rfl) (by kernel_rfl) _ rfl ?_
  ((conv=>whnf);repeat(first|(refine mvT ?_;conv=>whnf)|(refine mvF ?_;conv=>whnf)|(refine cT (by rfl) ?_;conv=>whnf)|(refine cF (by rfl) ?_;conv=>whnf)))
  refine ldS (hp.cell rfl) ?_;((conv=>whnf);repeat(first|(refine mvT ?_;conv=>whnf)|(refine mvF ?_;conv=>whnf)|(refine cT (by rfl) ?_;conv=>whnf)|(refine cF (by rfl) ?_;conv=>whnf)))
  rw [← hfx]
  (refine mvB ?_;((conv=>whnf);repeat(first|(refine mvT ?_;conv=>whnf)|(refine mvF ?_;conv=>whnf)|(refine cT (by rfl) ?_;conv=>whnf)|(refine cF (by rfl) ?_;conv=>whnf))))
  refine ldS ((hp.ext hA.ext hxp).cell rfl) ?_;((conv=>whnf);repeat(first|(refine mvT ?_;conv=>whnf)|(refine mvF ?_;conv=>whnf)|(refine cT (by rfl) ?_;conv=>whnf)|(refine cF (by rfl) ?_;conv=>whnf)))
  refine Does.mono (AppendInt32_does hA.ob (Nat.le_trans hB hA.size) (by simp only [List.length_append]; omega) _) ?_;rintro r w h;((conv=>whnf);repeat(first|(refine mvT ?_;conv=>whnf)|(refine mvF ?_;conv=>whnf)|(refine cT (by rfl) ?_;conv=>whnf)|(refine cF (by rfl) ?_;conv=>whnf)))
  rw [fixed4_mod (wrap_i32m _)] at h
  replace hA := hA.tr h
  clear h
  generalize hm1 : m0 ++ (fixed (atT t 0).n 4) = m1 at hA
  have hl1 : m1.length = m0.length + (fixed (atT t 0).n 4).length := by rw [← hm1, List.length_append]
  refine ldS ((hp.ext hA.ext hxp).cell rfl) ?_;((conv=>whnf);repeat(first|(refine mvT ?_;conv=>whnf)|(refine mvF ?_;conv=>whnf)|(refine cT (by rfl) ?_;conv=>whnf)|(refine cF (by rfl) ?_;conv=>whnf)))
  refine Does.mono (AppendInt16_does hA.ob (Nat.le_trans hB hA.size) (by simp only [List.length_append]; omega) _) ?_;rintro r w h;((conv=>whnf);repeat(first|(refine mvT ?_;conv=>whnf)|(refine mvF ?_;conv=>whnf)|(refine cT (by rfl) ?_;conv=>whnf)|(refine cF (by rfl) ?_;conv=>whnf)))
  rw [fixed2_mod (wrap_i16m _)] at h
  replace hA := hA.tr h
  clear h
  generalize hm2 : m1 ++ (fixed (atT t 1).n 2) = m2 at hA
  have hl2 : m2.length = m1.length + (fixed (atT t 1).n 2).length := by rw [← hm2, List.length_append]
  refine ldS ((hp.ext hA.ext hxp).cell rfl) ?_;((conv=>whnf);repeat(first|(refine mvT ?_;conv=>whnf)|(refine mvF ?_;conv=>whnf)|(refine cT (by rfl) ?_;conv=>whnf)|(refine cF (by rfl) ?_;conv=>whnf)))
  have hml2 := lsT_len (hok.1 2 _ rfl)
  (refine mvB ?_;((conv=>whnf);repeat(first|(refine mvT ?_;conv=>whnf)|(refine mvF ?_;conv=>whnf)|(refine cT (by rfl) ?_;conv=>whnf)|(refine cF (by rfl) ?_;conv=>whnf))))
  refine VC.cutE (fun r => [(1, r), (0, .pointer (some ⟨p, 0, none⟩)), (5, .int .i16 v), (6, .bool fx), (9, .slice a2 l2.length k2)]) (fun r w' => Apd w0 B x l (m2 ++ (arA fx (lsT (atT t 2)).length)) r w') ?_ ?_
  · refine cI (by rfl) (fun hc=>?_) (fun hc=>?_)
    · ((conv=>whnf);repeat(first|(refine mvT ?_;conv=>whnf)|(refine mvF ?_;conv=>whnf)|(refine cT (by rfl) ?_;conv=>whnf)|(refine cF (by rfl) ?_;conv=>whnf)))
      refine Does.mono (AppendCompactArrayLen_does hA.ob (Nat.le_trans hB hA.size) (by simp only [List.length_append]; omega) l2.length (by omega)) ?_;rintro r w h;((conv=>whnf);repeat(first|(refine mvT ?_;conv=>whnf)|(refine mvF ?_;conv=>whnf)|(refine cT (by rfl) ?_;conv=>whnf)|(refine cF (by rfl) ?_;conv=>whnf)))
      rw [hll2] at h
      replace hA := hA.tr h
      clear h
      refine ⟨_, ⟨rfl, rfl, rfl, rfl, rfl, trivial⟩, ?_⟩
      rw [hc]
      exact hA
    · ((conv=>whnf);repeat(first|(refine mvT ?_;conv=>whnf)|(refine mvF ?_;conv=>whnf)|(refine cT (by rfl) ?_;conv=>whnf)|(refine cF (by rfl) ?_;conv=>whnf)))
      refine Does.mono (AppendArrayLen_does hA.ob (Nat.le_trans hB hA.size) (by simp only [List.length_append]; omega) l2.length) ?_;rintro r w h;((conv=>whnf);repeat(first|(refine mvT ?_;conv=>whnf)|(refine mvF ?_;conv=>whnf)|(refine cT (by rfl) ?_;conv=>whnf)|(refine cF (by rfl) ?_;conv=>whnf)))
      rw [hll2] at h
      replace hA := hA.tr h
      clear h
      refine ⟨_, ⟨rfl, rfl, rfl, rfl, rfl, trivial⟩, ?_⟩
      rw [hc]
      exact hA
  clear hA
  rintro r w hA
  ((conv=>whnf);repeat(first|(refine mvT ?_;conv=>whnf)|(refine mvF ?_;conv=>whnf)|(refine cT (by rfl) ?_;conv=>whnf)|(refine cF (by rfl) ?_;conv=>whnf)))
  generalize hm3 : m2 ++ (arA fx (lsT (atT t 2)).length) = m3 at hA
  have hl3 : m3.length = m2.length + (arA fx (lsT (atT t 2)).length).length := by rw [← hm3, List.length_append]
  refine VL.loop (fun s : Nat × Value => [(1, s.2), (0, .pointer (some ⟨p, 0, none⟩)), (5, .int .i16 v), (6, .bool fx), (9, .slice a2 l2.length k2), (78, .slice a2 l2.length k2), (79, .int .i64 l2.length), (80, .int .i64 s.1)])
    (fun s w' => s.1 ≤ l2.length ∧ Apd w0 B x l (m3 ++ ((lsT (atT t 2)).take s.1).flatMap (bFetchSnapshotResponseTopic v fx)) s.2 w') (fun s => l2.length - s.1) (0, r) ⟨rfl, rfl, rfl, rfl, rfl, rfl, rfl, rfl, trivial⟩ ⟨Nat.zero_le _, by rw [List.take_zero, List.flatMap_nil, List.append_nil]; exact hA⟩ ?_
  clear hA
  rintro ⟨i1, r⟩ w ⟨hi1, hA⟩
  dsimp only at hi1 hA
  ((conv=>whnf);repeat(first|(refine mvT ?_;conv=>whnf)|(refine mvF ?_;conv=>whnf)|(refine cT (by rfl) ?_;conv=>whnf)|(refine cF (by rfl) ?_;conv=>whnf)))
  refine cI (by rfl) (fun h9=>?_) (fun h9=>?_)
  · have hil : i1 < l2.length := by have := of_decide_eq_true h9; simp only at this; omega
    have hiL1 : i1 < (lsT (atT t 2)).length := by omega
    obtain ⟨hft, hfl⟩ := flat_take (bFetchSnapshotResponseTopic v fx) (lsT (atT t 2)) i1 hiL1
    obtain ⟨b2, o2, rfl, hF2, hb2, hce2⟩ := hcl2 i1 l2[i1] (by simp [hil])
    have hre2 := hrl2 i1 l2[i1] ((lsT (atT t 2))[i1]) (by simp [hil]) (by simp [hiL1])
    have hlo2 := lsT_ok (hok.1 2 _ rfl) ((lsT (atT t 2))[i1]) (List.getElem_mem hiL1)
    generalize hm4 : m3 ++ ((lsT (atT t 2)).take i1).flatMap (bFetchSnapshotResponseTopic v fx) = m4 at hA
    have hl4 : m4.length = m3.length + (((lsT (atT t 2)).take i1).flatMap (bFetchSnapshotResponseTopic v fx)).length := by rw [← hm4, List.length_append]
    obtain ⟨x1, hx1⟩ : ∃ y, y = (lsT (atT t 2))[i1] := ⟨_, rfl⟩
    rw [← hx1] at hft hfl hre2 hlo2
    obtain ⟨c1_1, m1_, hcells, hc1_1, hm1_⟩ := hre2
    rw [hcells] at hce2
    have hok1_ := hlo2.2.2 rfl
    obtain ⟨a1_1, k1_1, l1_1, rfl, hkm1_1, hll1_1, hnn1_1, hcl1_1, hrl1_1⟩ := hc1_1.view
    have hgl : (bFetchSnapshotResponseTopic v fx x1).length = (bFetchSnapshotResponseTopic v fx x1).length := rfl
    conv at hgl => rhs; unfold bFetchSnapshotResponseTopic
    simp only [List.length_append, List.length_nil] at hgl
    ((conv=>whnf);repeat(first|(refine mvT ?_;conv=>whnf)|(refine mvF ?_;conv=>whnf)|(refine cT (by rfl) ?_;conv=>whnf)|(refine cF (by rfl) ?_;conv=>whnf)))
    refine ⟨b2, o2, rfl, ⟨by omega, by omega⟩, ?_⟩
    ((conv=>whnf);repeat(first|(refine mvT ?_;conv=>whnf)|(refine mvF ?_;conv=>whnf)|(refine cT (by rfl) ?_;conv=>whnf)|(refine cF (by rfl) ?_;conv=>whnf)))
    refine ⟨_, ld ((hce2.ext hA.ext (hFx _ hb2 hF2)).cell (j := 0) rfl) (by simp <;> omega), ?_⟩; ((conv=>whnf);repeat(first|(refine mvT ?_;conv=>whnf)|(refine mvF ?_;conv=>whnf)|(refine cT (by rfl) ?_;conv=>whnf)|(refine cF (by rfl) ?_;conv=>whnf)))
    have hsl := fieldOK_text (hok1_.1 0 _ rfl)
    (refine mvB ?_;((conv=>whnf);repeat(first|(refine mvT ?_;conv=>whnf)|(refine mvF ?_;conv=>whnf)|(refine cT (by rfl) ?_;conv=>whnf)|(refine cF (by rfl) ?_;conv=>whnf))))
    refine VC.cutE (fun r => [(1, r), (0, .pointer (some ⟨p, 0, none⟩)), (5, .int .i16 v), (6, .bool fx), (9, .slice (some ⟨b2, o2, none⟩) l2.length k2), (78, .slice (some ⟨b2, o2, none⟩) l2.length k2), (79, .int .i64 l2.length), (80, .int .i64 i1), (11, .pointer (some ⟨b2, o2 + i1 * 3, none⟩))]) (fun r w' => Apd w0 B x l (m4 ++ (txA fx (atT x1 0).s)) r w') ?_ ?_
    · refine cI (by rfl) (fun hc=>?_) (fun hc=>?_)
      · ((conv=>whnf);repeat(first|(refine mvT ?_;conv=>whnf)|(refine mvF ?_;conv=>whnf)|(refine cT (by rfl) ?_;conv=>whnf)|(refine cF (by rfl) ?_;conv=>whnf)))
        refine Does.mono (AppendCompactString_does hA.ob (Nat.le_trans hB hA.size) _ (by omega) (by simp only [List.length_append]; omega)) ?_;rintro r w h;((conv=>whnf);repeat(first|(refine mvT ?_;conv=>whnf)|(refine mvF ?_;conv=>whnf)|(refine cT (by rfl) ?_;conv=>whnf)|(refine cF (by rfl) ?_;conv=>whnf)))
        replace hA := hA.tr h
        clear h
        refine ⟨_, ⟨rfl, rfl, rfl, rfl, rfl, rfl, rfl, rfl, rfl, trivial⟩, ?_⟩
        rw [hc]
        exact hA
      · ((conv=>whnf);repeat(first|(refine mvT ?_;conv=>whnf)|(refine mvF ?_;conv=>whnf)|(refine cT (by rfl) ?_;conv=>whnf)|(refine cF (by rfl) ?_;conv=>whnf)))
        refine Does.mono (AppendString_does hA.ob (Nat.le_trans hB hA.size) _ (by simp only [List.length_append]; omega)) ?_;rintro r w h;((conv=>whnf);repeat(first|(refine mvT ?_;conv=>whnf)|(refine mvF ?_;conv=>whnf)|(refine cT (by rfl) ?_;conv=>whnf)|(refine cF (by rfl) ?_;conv=>whnf)))
        replace hA := hA.tr h
        clear h
        refine ⟨_, ⟨rfl, rfl, rfl, rfl, rfl, rfl, rfl, rfl, rfl, trivial⟩, ?_⟩
        rw [hc]
        exact hA
    clear hA
    rintro r w hA
    ((conv=>whnf);repeat(first|(refine mvT ?_;conv=>whnf)|(refine mvF ?_;conv=>whnf)|(refine cT (by rfl) ?_;conv=>whnf)|(refine cF (by rfl) ?_;conv=>whnf)))
    generalize hm5 : m4 ++ (txA fx (atT x1 0).s) = m5 at hA
    have hl5 : m5.length = m4.length + (txA fx (atT x1 0).s).length := by rw [← hm5, List.length_append]
    refine ⟨_, ld ((hce2.ext hA.ext (hFx _ hb2 hF2)).cell (j := 1) rfl) (by simp <;> omega), ?_⟩; ((conv=>whnf);repeat(first|(refine mvT ?_;conv=>whnf)|(refine mvF ?_;conv=>whnf)|(refine cT (by rfl) ?_;conv=>whnf)|(refine cF (by rfl) ?_;conv=>whnf)))
    have hml1_1 := lsT_len (hok1_.1 1 _ rfl)
    (refine mvB ?_;((conv=>whnf);repeat(first|(refine mvT ?_;conv=>whnf)|(refine mvF ?_;conv=>whnf)|(refine cT (by rfl) ?_;conv=>whnf)|(refine cF (by rfl) ?_;conv=>whnf))))
    refine VC.cutE (fun r => [(1, r), (0, .pointer (some ⟨p, 0, none⟩)), (5, .int .i16 v), (6, .bool fx), (9, .slice (some ⟨b2, o2, none⟩) l2.length k2), (78, .slice (some ⟨b2, o2, none⟩) l2.length k2), (79, .int .i64 l2.length), (80, .int .i64 i1), (11, .pointer (some ⟨b2, o2 + i1 * 3, none⟩)), (13, .slice a1_1 l1_1.length k1_1)]) (fun r w' => Apd w0 B x l (m5 ++ (arA fx (lsT (atT x1 1)).length)) r w') ?_ ?_
    · refine cI (by rfl) (fun hc=>?_) (fun hc=>?_)
      · ((conv=>whnf);repeat(first|(refine mvT ?_;conv=>whnf)|(refine mvF ?_;conv=>whnf)|(refine cT (by rfl) ?_;conv=>whnf)|(refine cF (by rfl) ?_;conv=>whnf)))
        refine Does.mono (AppendCompactArrayLen_does hA.ob (Nat.le_trans hB hA.size) (by simp only [List.length_append]; omega) l1_1.length (by omega)) ?_;rintro r w h;((conv=>whnf);repeat(first|(refine mvT ?_;conv=>whnf)|(refine mvF ?_;conv=>whnf)|(refine cT (by rfl) ?_;conv=>whnf)|(refine cF (by rfl) ?_;conv=>whnf)))
        rw [hll1_1] at h
        replace hA := hA.tr h
        clear h
        refine ⟨_, ⟨rfl, rfl, rfl, rfl, rfl, rfl, rfl, rfl, rfl, rfl, trivial⟩, ?_⟩
        rw [hc]
        exact hA
      · ((conv=>whnf);repeat(first|(refine mvT ?_;conv=>whnf)|(refine mvF ?_;conv=>whnf)|(refine cT (by rfl) ?_;conv=>whnf)|(refine cF (by rfl) ?_;conv=>whnf)))
        refine Does.mono (AppendArrayLen_does hA.ob (Nat.le_trans hB hA.size) (by simp only [List.length_append]; omega) l1_1.length) ?_;rintro r w h;((conv=>whnf);repeat(first|(refine mvT ?_;conv=>whnf)|(refine mvF ?_;conv=>whnf)|(refine cT (by rfl) ?_;conv=>whnf)|(refine cF (by rfl) ?_;conv=>whnf)))
        rw [hll1_1] at h
        replace hA := hA.tr h
        clear h
        refine ⟨_, ⟨rfl, rfl, rfl, rfl, rfl, rfl, rfl, rfl, rfl, rfl, trivial⟩, ?_⟩
        rw [hc]
        exact hA
    clear hA
    rintro r w hA
    ((conv=>whnf);repeat(first|(refine mvT ?_;conv=>whnf)|(refine mvF ?_;conv=>whnf)|(refine cT (by rfl) ?_;conv=>whnf)|(refine cF (by rfl) ?_;conv=>whnf)))
    generalize hm6 : m5 ++ (arA fx (lsT (atT x1 1)).length) = m6 at hA
    have hl6 : m6.length = m5.length + (arA fx (lsT (atT x1 1)).length).length := by rw [← hm6, List.length_append]
    refine VL.loop (fun s : Nat × Value => [(1, s.2), (0, .pointer (some ⟨p, 0, none⟩)), (5, .int .i16 v), (6, .bool fx), (9, .slice (some ⟨b2, o2, none⟩) l2.length k2), (78, .slice (some ⟨b2, o2, none⟩) l2.length k2), (79, .int .i64 l2.length), (80, .int .i64 i1), (11, .pointer (some ⟨b2, o2 + i1 * 3, none⟩)), (13, .slice a1_1 l1_1.length k1_1), (110, .slice a1_1 l1_1.length k1_1), (111, .int .i64 l1_1.length), (112, .int .i64 s.1)])
      (fun s w' => s.1 ≤ l1_1.length ∧ Apd w0 B x l (m6 ++ ((lsT (atT x1 1)).take s.1).flatMap (bFetchSnapshotResponseTopicPartition v fx)) s.2 w') (fun s => l1_1.length - s.1) (0, r) ⟨rfl, rfl, rfl, rfl, rfl, rfl, rfl, rfl, rfl, rfl, rfl, rfl, rfl, trivial⟩ ⟨Nat.zero_le _, by rw [List.take_zero, List.flatMap_nil, List.append_nil]; exact hA⟩ ?_
    clear hA
    rintro ⟨i2, r⟩ w ⟨hi2, hA⟩
    dsimp only at hi2 hA
    ((conv=>whnf);repeat(first|(refine mvT ?_;conv=>whnf)|(refine mvF ?_;conv=>whnf)|(refine cT (by rfl) ?_;conv=>whnf)|(refine cF (by rfl) ?_;conv=>whnf)))
    refine cI (by rfl) (fun h9=>?_) (fun h9=>?_)
    · have hil : i2 < l1_1.length := by have := of_decide_eq_true h9; simp only at this; omega
      have hiL2 : i2 < (lsT (atT x1 1)).length := by omega
      obtain ⟨hft, hfl⟩ := flat_take (bFetchSnapshotResponseTopicPartition v fx) (lsT (atT x1 1)) i2 hiL2
      obtain ⟨b1_1, o1_1, rfl, hF1_1, hb1_1, hce1_1⟩ := hcl1_1 i2 l1_1[i2] (by simp [hil])
      have hre1_1 := hrl1_1 i2 l1_1[i2] ((lsT (atT x1 1))[i2]) (by simp [hil]) (by simp [hiL2])
      have hlo1_1 := lsT_ok (hok1_.1 1 _ rfl) ((lsT (atT x1 1))[i2]) (List.getElem_mem hiL2)
      generalize hm7 : m6 ++ ((lsT (atT x1 1)).take i2).flatMap (bFetchSnapshotResponseTopicPartition v fx) = m7 at hA
      have hl7 : m7.length = m6.length + (((lsT (atT x1 1)).take i2).flatMap (bFetchSnapshotResponseTopicPartition v fx)).length := by rw [← hm7, List.length_append]
      obtain ⟨x2, hx2⟩ : ∃ y, y = (lsT (atT x1 1))[i2] := ⟨_, rfl⟩
      rw [← hx2] at hft hfl hre1_1 hlo1_1
      obtain ⟨c2_2_0, c2_2_1, c2_2_2, c2_3_0, c2_3_1, c2_3_2, c2_6, m2_, hcells, hc2_2, hc2_3, hc2_6, hm2_⟩ := hre1_1
      rw [hcells] at hce1_1
      have hok2_ := hlo1_1.2.2 rfl
      have hgl : (bFetchSnapshotResponseTopicPartition v fx x2).length = (bFetchSnapshotResponseTopicPartition v fx x2).length := rfl
      conv at hgl => rhs; unfold bFetchSnapshotResponseTopicPartition
      simp only [List.length_append, List.length_nil] at hgl
      ((conv=>whnf);repeat(first|(refine mvT ?_;conv=>whnf)|(refine mvF ?_;conv=>whnf)|(refine cT (by rfl) ?_;conv=>whnf)|(refine cF (by rfl) ?_;conv=>whnf)))
      refine ⟨b1_1, o1_1, rfl, ⟨by omega, by omega⟩, ?_⟩
      ((conv=>whnf);repeat(first|(refine mvT ?_;conv=>whnf)|(refine mvF ?_;conv=>whnf)|(refine cT (by rfl) ?_;conv=>whnf)|(refine cF (by rfl) ?_;conv=>whnf)))
      refine ⟨_, ld ((hce1_1.ext hA.ext (hFx _ hb1_1 hF1_1)).cell (j := 0) rfl) (by simp <;> omega), ?_⟩; ((conv=>whnf);repeat(first|(refine mvT ?_;conv=>whnf)|(refine mvF ?_;conv=>whnf)|(refine cT (by rfl) ?_;conv=>whnf)|(refine cF (by rfl) ?_;conv=>whnf)))
      refine Does.mono (AppendInt32_does hA.ob (Nat.le_trans hB hA.size) (by simp only [List.length_append]; omega) _) ?_;rintro r w h;((conv=>whnf);repeat(first|(refine mvT ?_;conv=>whnf)|(refine mvF ?_;conv=>whnf)|(refine cT (by rfl) ?_;conv=>whnf)|(refine cF (by rfl) ?_;conv=>whnf)))
      rw [fixed4_mod (wrap_i32m _)] at h
      replace hA := hA.tr h
      clear h
      generalize hm8 : m7 ++ (fixed (atT x2 0).n 4) = m8 at hA
      have hl8 : m8.length = m7.length + (fixed (atT x2 0).n 4).length := by rw [← hm8, List.length_append]
      refine ⟨_, ld ((hce1_1.ext hA.ext (hFx _ hb1_1 hF1_1)).cell (j := 1) rfl) (by simp <;> omega), ?_⟩; ((conv=>whnf);repeat(first|(refine mvT ?_;conv=>whnf)|(refine mvF ?_;conv=>whnf)|(refine cT (by rfl) ?_;conv=>whnf)|(refine cF (by rfl) ?_;conv=>whnf)))
      refine Does.mono (AppendInt16_does hA.ob (Nat.le_trans hB hA.size) (by simp only [List.length_append]; omega) _) ?_;rintro r w h;((conv=>whnf);repeat(first|(refine mvT ?_;conv=>whnf)|(refine mvF ?_;conv=>whnf)|(refine cT (by rfl) ?_;conv=>whnf)|(refine cF (by rfl) ?_;conv=>whnf)))
      rw [fixed2_mod (wrap_i16m _)] at h
      replace hA := hA.tr h
      clear h
      generalize hm9 : m8 ++ (fixed (atT x2 1).n 2) = m9 at hA
      have hl9 : m9.length = m8.length + (fixed (atT x2 1).n 2).length := by rw [← hm9, List.length_append]
      obtain ⟨m2_2_, hcells, hm2_2_⟩ := hc2_2
      simp only [List.cons.injEq, and_true] at hcells
      obtain ⟨rfl, rfl, rfl⟩ := hcells
      have hok2_2_ := fieldOK_part (hok2_.1 2 _ rfl)
      have hgl2_2_ : (bFetchSnapshotResponseTopicPartitionSnapshotID v fx (atT x2 2)).length = (bFetchSnapshotResponseTopicPartitionSnapshotID v fx (atT x2 2)).length := rfl
      conv at hgl2_2_ => rhs; unfold bFetchSnapshotResponseTopicPartitionSnapshotID
      simp only [List.length_append, List.length_nil] at hgl2_2_
      refine ⟨_, ld ((hce1_1.ext hA.ext (hFx _ hb1_1 hF1_1)).cell (j := 2) rfl) (by simp <;> omega), ?_⟩; ((conv=>whnf);repeat(first|(refine mvT ?_;conv=>whnf)|(refine mvF ?_;conv=>whnf)|(refine cT (by rfl) ?_;conv=>whnf)|(refine cF (by rfl) ?_;conv=>whnf)))
      refine Does.mono (AppendInt64_does hA.ob (Nat.le_trans hB hA.size) (by simp only [List.length_append]; omega) _) ?_;rintro r w h;((conv=>whnf);repeat(first|(refine mvT ?_;conv=>whnf)|(refine mvF ?_;conv=>whnf)|(refine cT (by rfl) ?_;conv=>whnf)|(refine cF (by rfl) ?_;conv=>whnf)))
      replace hA := hA.tr h
      clear h
      generalize hm10 : m9 ++ (fixed (atT (atT x2 2) 0).n 8) = m10 at hA
      have hl10 : m10.length = m9.length + (fixed (atT (atT x2 2) 0).n 8).length := by rw [← hm10, List.length_append]
      refine ⟨_, ld ((hce1_1.ext hA.ext (hFx _ hb1_1 hF1_1)).cell (j := 3) rfl) (by simp <;> omega), ?_⟩; ((conv=>whnf);repeat(first|(refine mvT ?_;conv=>whnf)|(refine mvF ?_;conv=>whnf)|(refine cT (by rfl) ?_;conv=>whnf)|(refine cF (by rfl) ?_;conv=>whnf)))
      refine Does.mono (AppendInt32_does hA.ob (Nat.le_trans hB hA.size) (by simp only [List.length_append]; omega) _) ?_;rintro r w h;((conv=>whnf);repeat(first|(refine mvT ?_;conv=>whnf)|(refine mvF ?_;conv=>whnf)|(refine cT (by rfl) ?_;conv=>whnf)|(refine cF (by rfl) ?_;conv=>whnf)))
      rw [fixed4_mod (wrap_i32m _)] at h
      replace hA := hA.tr h
      clear h
      generalize hm11 : m10 ++ (fixed (atT (atT x2 2) 1).n 4) = m11 at hA
      have hl11 : m11.length = m10.length + (fixed (atT (atT x2 2) 1).n 4).length := by rw [← hm11, List.length_append]
      (refine mvB ?_;((conv=>whnf);repeat(first|(refine mvT ?_;conv=>whnf)|(refine mvF ?_;conv=>whnf)|(refine cT (by rfl) ?_;conv=>whnf)|(refine cF (by rfl) ?_;conv=>whnf))))
      refine VC.cutE (fun r => [(1, r), (0, .pointer (some ⟨p, 0, none⟩)), (5, .int .i16 v), (6, .bool fx), (9, .slice (some ⟨b2, o2, none⟩) l2.length k2), (78, .slice (some ⟨b2, o2, none⟩) l2.length k2), (79, .int .i64 l2.length), (80, .int .i64 i1), (11, .pointer (some ⟨b2, o2 + i1 * 3, none⟩)), (13, .slice (some ⟨b1_1, o1_1, none⟩) l1_1.length k1_1), (110, .slice (some ⟨b1_1, o1_1, none⟩) l1_1.length k1_1), (111, .int .i64 l1_1.length), (112, .int .i64 i2), (15, .pointer (some ⟨b1_1, o1_1 + i2 * 12, none⟩)), (18, .pointer (some ⟨b1_1, o1_1 + i2 * 12 + 2, none⟩))]) (fun r w' => Apd w0 B x l (m11 ++ (tgsB fx (atT x2 2).u)) r w') ?_ ?_
      · refine cI (by rfl) (fun hc=>?_) (fun hc=>?_)
        · ((conv=>whnf);repeat(first|(refine mvT ?_;conv=>whnf)|(refine mvF ?_;conv=>whnf)|(refine cT (by rfl) ?_;conv=>whnf)|(refine cF (by rfl) ?_;conv=>whnf)))
          have hul := hok2_2_.2.len
          refine Does.mono (Tags_Len_does (ld ((hce1_1.ext hA.ext (hFx _ hb1_1 hF1_1)).cell (j := 4) rfl) (by simp <;> omega)) (hm2_2_.ext hA.ext hFx)) ?_;rintro r w ⟨rfl, rfl⟩;((conv=>whnf);repeat(first|(refine mvT ?_;conv=>whnf)|(refine mvF ?_;conv=>whnf)|(refine cT (by rfl) ?_;conv=>whnf)|(refine cF (by rfl) ?_;conv=>whnf)))
          rw [u32_add0 (by omega)]
          refine Does.mono (AppendUvarint_does hA.ob (Nat.le_trans hB hA.size) (atT x2 2).u.length (by omega) (by simp only [List.length_append]; omega)) ?_;rintro r w h;((conv=>whnf);repeat(first|(refine mvT ?_;conv=>whnf)|(refine mvF ?_;conv=>whnf)|(refine cT (by rfl) ?_;conv=>whnf)|(refine cF (by rfl) ?_;conv=>whnf)))
          have hul2 := uvar10 (n := (atT x2 2).u.length) (by omega)
          replace hA := hA.tr h
          clear h
          refine Does.mono (AppendEach_does (ld ((hce1_1.ext hA.ext (hFx _ hb1_1 hF1_1)).cell (j := 4) rfl) (by simp <;> omega)) (hm2_2_.ext hA.ext hFx) hok2_2_.2 hA.ob (Nat.le_trans hB hA.size) (hA.ne (hFR _ hF1_1).2 (hFR _ hF1_1).1) (fun j _ hf => hA.ne (hFR j hf).2 (hFR j hf).1) (by simp only [List.length_append]; omega)) ?_;rintro r w h;((conv=>whnf);repeat(first|(refine mvT ?_;conv=>whnf)|(refine mvF ?_;conv=>whnf)|(refine cT (by rfl) ?_;conv=>whnf)|(refine cF (by rfl) ?_;conv=>whnf)))
          replace hA := hA.tr h
          clear h
          refine ⟨_, ⟨rfl, rfl, rfl, rfl, rfl, rfl, rfl, rfl, rfl, rfl, rfl, rfl, rfl, rfl, rfl, trivial⟩, ?_⟩
          rw [tgsB, if_pos hc, ← List.append_assoc]
          exact hA
        · ((conv=>whnf);repeat(first|(refine mvT ?_;conv=>whnf)|(refine mvF ?_;conv=>whnf)|(refine cT (by rfl) ?_;conv=>whnf)|(refine cF (by rfl) ?_;conv=>whnf)))
          refine ⟨_, ⟨rfl, rfl, rfl, rfl, rfl, rfl, rfl, rfl, rfl, rfl, rfl, rfl, rfl, rfl, rfl, trivial⟩, ?_⟩
          rw [tgsB, if_neg (by rw [hc]; decide), List.append_nil]
          exact hA
      clear hA
      rintro r w hA
      ((conv=>whnf);repeat(first|(refine mvT ?_;conv=>whnf)|(refine mvF ?_;conv=>whnf)|(refine cT (by rfl) ?_;conv=>whnf)|(refine cF (by rfl) ?_;conv=>whnf)))
      generalize hm12 : m11 ++ (tgsB fx (atT x2 2).u) = m12 at hA
      have hl12 : m12.length = m11.length + (tgsB fx (atT x2 2).u).length := by rw [← hm12, List.length_append]
      rw [show m12 = m9 ++ (bFetchSnapshotResponseTopicPartitionSnapshotID v fx (atT x2 2)) by unfold bFetchSnapshotResponseTopicPartitionSnapshotID; simp only [← hm12, ← hm11, ← hm10, List.append_assoc, List.nil_append, List.append_nil]] at hA
      generalize hm13 : m9 ++ (bFetchSnapshotResponseTopicPartitionSnapshotID v fx (atT x2 2)) = m13 at hA
      have hl13 : m13.length = m9.length + (bFetchSnapshotResponseTopicPartitionSnapshotID v fx (atT x2 2)).length := by rw [← hm13, List.length_append]
      refine ⟨_, ld ((hce1_1.ext hA.ext (hFx _ hb1_1 hF1_1)).cell (j := 8) rfl) (by simp <;> omega), ?_⟩; ((conv=>whnf);repeat(first|(refine mvT ?_;conv=>whnf)|(refine mvF ?_;conv=>whnf)|(refine cT (by rfl) ?_;conv=>whnf)|(refine cF (by rfl) ?_;conv=>whnf)))
      refine Does.mono (AppendInt64_does hA.ob (Nat.le_trans hB hA.size) (by simp only [List.length_append]; omega) _) ?_;rintro r w h;((conv=>whnf);repeat(first|(refine mvT ?_;conv=>whnf)|(refine mvF ?_;conv=>whnf)|(refine cT (by rfl) ?_;conv=>whnf)|(refine cF (by rfl) ?_;conv=>whnf)))
      replace hA := hA.tr h
      clear h
      generalize hm14 : m13 ++ (fixed (atT x2 4).n 8) = m14 at hA
      have hl14 : m14.length = m13.length + (fixed (atT x2 4).n 8).length := by rw [← hm14, List.length_append]
      refine ⟨_, ld ((hce1_1.ext hA.ext (hFx _ hb1_1 hF1_1)).cell (j := 9) rfl) (by simp <;> omega), ?_⟩; ((conv=>whnf);repeat(first|(refine mvT ?_;conv=>whnf)|(refine mvF ?_;conv=>whnf)|(refine cT (by rfl) ?_;conv=>whnf)|(refine cF (by rfl) ?_;conv=>whnf)))
      refine Does.mono (AppendInt64_does hA.ob (Nat.le_trans hB hA.size) (by simp only [List.length_append]; omega) _) ?_;rintro r w h;((conv=>whnf);repeat(first|(refine mvT ?_;conv=>whnf)|(refine mvF ?_;conv=>whnf)|(refine cT (by rfl) ?_;conv=>whnf)|(refine cF (by rfl) ?_;conv=>whnf)))
      replace hA := hA.tr h
      clear h
      generalize hm15 : m14 ++ (fixed (atT x2 5).n 8) = m15 at hA
      have hl15 : m15.length = m14.length + (fixed (atT x2 5).n 8).length := by rw [← hm15, List.length_append]
      refine ⟨_, ld ((hce1_1.ext hA.ext (hFx _ hb1_1 hF1_1)).cell (j := 10) rfl) (by simp <;> omega), ?_⟩; ((conv=>whnf);repeat(first|(refine mvT ?_;conv=>whnf)|(refine mvF ?_;conv=>whnf)|(refine cT (by rfl) ?_;conv=>whnf)|(refine cF (by rfl) ?_;conv=>whnf)))
      have hsl := fieldOK_bytes (hok2_.1 6 _ rfl)
      (refine mvB ?_;((conv=>whnf);repeat(first|(refine mvT ?_;conv=>whnf)|(refine mvF ?_;conv=>whnf)|(refine cT (by rfl) ?_;conv=>whnf)|(refine cF (by rfl) ?_;conv=>whnf))))
      refine VC.cutE (fun r => [(1, r), (0, .pointer (some ⟨p, 0, none⟩)), (5, .int .i16 v), (6, .bool fx), (9, .slice (some ⟨b2, o2, none⟩) l2.length k2), (78, .slice (some ⟨b2, o2, none⟩) l2.length k2), (79, .int .i64 l2.length), (80, .int .i64 i1), (11, .pointer (some ⟨b2, o2 + i1 * 3, none⟩)), (13, .slice (some ⟨b1_1, o1_1, none⟩) l1_1.length k1_1), (110, .slice (some ⟨b1_1, o1_1, none⟩) l1_1.length k1_1), (111, .int .i64 l1_1.length), (112, .int .i64 i2), (15, .pointer (some ⟨b1_1, o1_1 + i2 * 12, none⟩))]) (fun r w' => Apd w0 B x l (m15 ++ (ocA fx (atT x2 6).s)) r w') ?_ ?_
      · refine cI (by rfl) (fun hc=>?_) (fun hc=>?_)
        · ((conv=>whnf);repeat(first|(refine mvT ?_;conv=>whnf)|(refine mvF ?_;conv=>whnf)|(refine cT (by rfl) ?_;conv=>whnf)|(refine cF (by rfl) ?_;conv=>whnf)))
          refine Does.mono (AppendCompactBytes_R hA.ob (Nat.le_trans hB hA.size) (hc2_6.ext hA.ext hFx) (fun e => (fieldOK_empty (hok2_.1 6 _ rfl) e).1) (fun j _ hf => hA.ne (hFR j hf).2 (hFR j hf).1) hsl (by simp only [List.length_append]; omega)) ?_;rintro r w h;((conv=>whnf);repeat(first|(refine mvT ?_;conv=>whnf)|(refine mvF ?_;conv=>whnf)|(refine cT (by rfl) ?_;conv=>whnf)|(refine cF (by rfl) ?_;conv=>whnf)))
          replace hA := hA.tr h
          clear h
          refine ⟨_, ⟨rfl, rfl, rfl, rfl, rfl, rfl, rfl, rfl, rfl, rfl, rfl, rfl, rfl, rfl, trivial⟩, ?_⟩
          rw [hc]
          exact hA
        · ((conv=>whnf);repeat(first|(refine mvT ?_;conv=>whnf)|(refine mvF ?_;conv=>whnf)|(refine cT (by rfl) ?_;conv=>whnf)|(refine cF (by rfl) ?_;conv=>whnf)))
          refine Does.mono (AppendBytes_R hA.ob (Nat.le_trans hB hA.size) (hc2_6.ext hA.ext hFx) (fun e => (fieldOK_empty (hok2_.1 6 _ rfl) e).1) (fun j _ hf => hA.ne (hFR j hf).2 (hFR j hf).1) (by simp only [List.length_append]; omega)) ?_;rintro r w h;((conv=>whnf);repeat(first|(refine mvT ?_;conv=>whnf)|(refine mvF ?_;conv=>whnf)|(refine cT (by rfl) ?_;conv=>whnf)|(refine cF (by rfl) ?_;conv=>whnf)))
          replace hA := hA.tr h
          clear h
          refine ⟨_, ⟨rfl, rfl, rfl, rfl, rfl, rfl, rfl, rfl, rfl, rfl, rfl, rfl, rfl, rfl, trivial⟩, ?_⟩
          rw [hc]
          exact hA
      clear hA
      rintro r w hA
      ((conv=>whnf);repeat(first|(refine mvT ?_;conv=>whnf)|(refine mvF ?_;conv=>whnf)|(refine cT (by rfl) ?_;conv=>whnf)|(refine cF (by rfl) ?_;conv=>whnf)))
      generalize hm16 : m15 ++ (ocA fx (atT x2 6).s) = m16 at hA
      have hl16 : m16.length = m15.length + (ocA fx (atT x2 6).s).length := by rw [← hm16, List.length_append]
      (refine mvB ?_;((conv=>whnf);repeat(first|(refine mvT ?_;conv=>whnf)|(refine mvF ?_;conv=>whnf)|(refine cT (by rfl) ?_;conv=>whnf)|(refine cF (by rfl) ?_;conv=>whnf))))
      refine VC.cutB (fun r => [(1, r), (0, .pointer (some ⟨p, 0, none⟩)), (5, .int .i16 v), (6, .bool fx), (9, .slice (some ⟨b2, o2, none⟩) l2.length k2), (78, .slice (some ⟨b2, o2, none⟩) l2.length k2), (79, .int .i64 l2.length), (80, .int .i64 i1), (11, .pointer (some ⟨b2, o2 + i1 * 3, none⟩)), (13, .slice (some ⟨b1_1, o1_1, none⟩) l1_1.length k1_1), (110, .slice (some ⟨b1_1, o1_1, none⟩) l1_1.length k1_1), (111, .int .i64 l1_1.length), (112, .int .i64 i2), (15, .pointer (some ⟨b1_1, o1_1 + i2 * 12, none⟩))]) (fun r w' => Apd w0 B x l (m16 ++ ((if fx = true then uvar ((gFetchSnapshotResponseTopicPartition v fx x2).length + (x2).u.length) ++ ((gFetchSnapshotResponseTopicPartition v fx x2).flatMap tagB ++ (x2).u.flatMap tagB) else []))) r w') ?_ ?_
      · refine cI (by rfl) (fun hc=>?_) (fun hc=>?_)
        · ((conv=>whnf);repeat(first|(refine mvT ?_;conv=>whnf)|(refine mvF ?_;conv=>whnf)|(refine cT (by rfl) ?_;conv=>whnf)|(refine cF (by rfl) ?_;conv=>whnf)))
          rw [if_pos hc] at hgl
          simp only [List.length_append] at hgl
          obtain ⟨wT, rfl⟩ : ∃ y, y = w := ⟨w, rfl⟩
          have hos := OSl.nil wT wT.heap.size 64 1
          have hex := Ext.refl nob wT
          obtain ⟨ev, hev⟩ : ∃ y : Value, y = .slice none 0 0 := ⟨_, rfl⟩
          obtain ⟨ks, hks⟩ : ∃ y : List Nat, y = [] := ⟨_, rfl⟩
          obtain ⟨m2_3_, hcells, hm2_3_⟩ := hc2_3
          simp only [List.cons.injEq, and_true] at hcells
          obtain ⟨rfl, rfl, rfl⟩ := hcells
          refine VD.draw mixed (.q 0 (.q 1 (.q 2 (.q 3 (.eff 4 [3] (.eff 5 [] (.q 6 (.done)))))))) (by kernel_rfl) ?_;((conv=>whnf);repeat(first|(refine mvT ?_;conv=>whnf)|(refine mvF ?_;conv=>whnf)|(refine cT (by rfl) ?_;conv=>whnf)|(refine cF (by rfl) ?_;conv=>whnf)))
          replace hos := hos.e0 (ext_drew _)
          replace hex := hex.e0 (ext_drew _)
          refine ⟨_, rfl, Cells.sub2 (hce1_1.ext (hA.e0 hex).ext (hFx _ hb1_1 hF1_1)) 5 3 rfl (by simp <;> omega), ?_⟩; ((conv=>whnf);repeat(first|(refine mvT ?_;conv=>whnf)|(refine mvF ?_;conv=>whnf)|(refine cT (by rfl) ?_;conv=>whnf)|(refine cF (by rfl) ?_;conv=>whnf)))
          refine Does.mono (dfltFetchSnapshotResponseTopicPartitionCurrentLeader) ?_;rintro rd wd ⟨rfl, hxd⟩;((conv=>whnf);repeat(first|(refine mvT ?_;conv=>whnf)|(refine mvF ?_;conv=>whnf)|(refine cT (by rfl) ?_;conv=>whnf)|(refine cF (by rfl) ?_;conv=>whnf)))
          replace hos := hos.e0 hxd
          replace hex := hex.e0 hxd
          refine ⟨⟨⟨_, rfl, Cells.sub2 (hce1_1.ext (hA.e0 hex).ext (hFx _ hb1_1 hF1_1)) 5 3 rfl (by simp <;> omega), rfl, rfl⟩, trivial⟩, ?_⟩
          ((conv=>whnf);repeat(first|(refine mvT ?_;conv=>whnf)|(refine mvF ?_;conv=>whnf)|(refine cT (by rfl) ?_;conv=>whnf)|(refine cF (by rfl) ?_;conv=>whnf)))
          refine Does.mono (sameFetchSnapshotResponseTopicPartitionCurrentLeader (hm2_3_.ext (hA.e0 hex).ext hFx)) ?_;rintro rs ws ⟨rfl, hxs⟩;((conv=>whnf);repeat(first|(refine mvT ?_;conv=>whnf)|(refine mvF ?_;conv=>whnf)|(refine cT (by rfl) ?_;conv=>whnf)|(refine cF (by rfl) ?_;conv=>whnf)))
          replace hos := hos.e0 hxs
          replace hex := hex.e0 hxs
          refine VC.cutE (fun q : Value × List Nat => [(1, r), (24, q.1), (0, .pointer (some ⟨p, 0, none⟩)), (5, .int .i16 v), (6, .bool fx), (9, .slice (some ⟨b2, o2, none⟩) l2.length k2), (78, .slice (some ⟨b2, o2, none⟩) l2.length k2), (79, .int .i64 l2.length), (80, .int .i64 i1), (11, .pointer (some ⟨b2, o2 + i1 * 3, none⟩)), (13, .slice (some ⟨b1_1, o1_1, none⟩) l1_1.length k1_1), (110, .slice (some ⟨b1_1, o1_1, none⟩) l1_1.length k1_1), (111, .int .i64 l1_1.length), (112, .int .i64 i2), (15, .pointer (some ⟨b1_1, o1_1 + i2 * 12, none⟩))]) (fun q w' => OSl w' wT.heap.size 64 1 q.1 (q.2.map fun (k : Nat) => [.int .u32 (k : Int)]) ∧ Ext nob wT w' ∧ q.2 = ([]) ++ (if ncB (.mk 10 0 (-1) (-1) 0 0 0 dFetchSnapshotResponseTopicPartitionCurrentLeader) (atT x2 3) = false then [0] else [])) ?_ ?_
          · refine cI (by rfl) (fun hcd=>?_) (fun hcd=>?_)
            · ((conv=>whnf);repeat(first|(refine mvT ?_;conv=>whnf)|(refine mvF ?_;conv=>whnf)|(refine cT (by rfl) ?_;conv=>whnf)|(refine cF (by rfl) ?_;conv=>whnf)))
              have hos : OSl _ wT.heap.size 64 1 (.slice none 0 0) ((([] : List Nat)).map fun (k : Nat) => [.int .u32 (k : Int)]) := hos
              have hnc : ncB (.mk 10 0 (-1) (-1) 0 0 0 dFetchSnapshotResponseTopicPartitionCurrentLeader) (atT x2 3) = false := by
                simpa using hcd
              intro be we hbe hoe hxe
              ((conv=>whnf);repeat(first|(refine mvT ?_;conv=>whnf)|(refine mvF ?_;conv=>whnf)|(refine cT (by rfl) ?_;conv=>whnf)|(refine cF (by rfl) ?_;conv=>whnf)))
              have hsx := hxe.size
              have hsT := hex.size
              refine app_struct (ms := [[.int .u32 (0 : Int)]]) rfl (hos.e0 hxe) (src_one hoe rfl rfl) (by simp) rfl rfl (by have hkl : ([] : List Nat).length ≤ 0 := (Nat.le_refl 0); constructor <;> (simp only [List.length_map, List.length_singleton]; omega)) (by omega) ?_
              intro v5 w5 hos5 hx5 hb5 hnn5
              ((conv=>whnf);repeat(first|(refine mvT ?_;conv=>whnf)|(refine mvF ?_;conv=>whnf)|(refine cT (by rfl) ?_;conv=>whnf)|(refine cF (by rfl) ?_;conv=>whnf)))
              exact ⟨(v5, [] ++ [0]), ⟨rfl, rfl, rfl, rfl, rfl, rfl, rfl, rfl, rfl, rfl, rfl, rfl, rfl, rfl, rfl, trivial⟩, by simpa using hos5, (hex.e0 hxe).trans hx5 fun k hk e => by have := hos.blk k e; omega, by rw [if_pos hnc]⟩
            · ((conv=>whnf);repeat(first|(refine mvT ?_;conv=>whnf)|(refine mvF ?_;conv=>whnf)|(refine cT (by rfl) ?_;conv=>whnf)|(refine cF (by rfl) ?_;conv=>whnf)))
              have hos : OSl _ wT.heap.size 64 1 (.slice none 0 0) ((([] : List Nat)).map fun (k : Nat) => [.int .u32 (k : Int)]) := hos
              have hnc : ¬ (ncB (.mk 10 0 (-1) (-1) 0 0 0 dFetchSnapshotResponseTopicPartitionCurrentLeader) (atT x2 3) = false) := by
                simpa using hcd
              exact ⟨((.slice none 0 0), []), ⟨rfl, rfl, rfl, rfl, rfl, rfl, rfl, rfl, rfl, rfl, rfl, rfl, rfl, rfl, rfl, trivial⟩, hos, hex, by rw [if_neg hnc]; rfl⟩
          clear hos hex hks
          rintro ⟨ev, ks⟩ w ⟨hos, hex, hks⟩
          dsimp only at hos hex hks
          ((conv=>whnf);repeat(first|(refine mvT ?_;conv=>whnf)|(refine mvF ?_;conv=>whnf)|(refine cT (by rfl) ?_;conv=>whnf)|(refine cF (by rfl) ?_;conv=>whnf)))
          have hkl : ks.length ≤ 1 := by rw [hks]; (repeat' split) <;> simp
          have hrT : ∀ k, r.ownBlock = some k → k < wT.heap.size := hA.ob.lt
          have hA := hA.e0 hex
          obtain ⟨ae, ke, hev, _, hke⟩ := hos.shape
          rw [List.length_map] at hev
          subst hev
          have hkm : ∀ k ∈ ks, k = 0 := by rw [hks]; intro k hk; (repeat' split at hk) <;> simp at hk <;> omega
          obtain ⟨tb, htb⟩ : ∃ y : Nat → List UInt8, y = fun k => tagB (k, if k = 0 then bFetchSnapshotResponseTopicPartitionCurrentLeader v fx (atT x2 3) else ([])) := ⟨_, rfl⟩
          have hgq : (gFetchSnapshotResponseTopicPartition v fx x2).length = ks.length := by
            rw [hks]
            unfold gFetchSnapshotResponseTopicPartition
            (repeat' split) <;> simp
          have hgf : (gFetchSnapshotResponseTopicPartition v fx x2).flatMap tagB = ks.flatMap tb := by
            rw [hks, htb]
            unfold gFetchSnapshotResponseTopicPartition
            (repeat' split) <;> simp
          rw [hgq, hgf] at hgl
          have hul := hok2_.2.len
          have hul2 := uvar10 (n := ks.length + (x2).u.length) (by omega)
          refine Does.mono (Tags_Len_does (ld ((hce1_1.ext hA.ext (hFx _ hb1_1 hF1_1)).cell (j := 11) rfl) (by simp <;> omega)) (hm2_.ext hA.ext hFx)) ?_;rintro r2 w2 ⟨rfl, rfl⟩;((conv=>whnf);repeat(first|(refine mvT ?_;conv=>whnf)|(refine mvF ?_;conv=>whnf)|(refine cT (by rfl) ?_;conv=>whnf)|(refine cF (by rfl) ?_;conv=>whnf)))
          rw [u32_sum (by omega)]
          refine Does.mono (AppendUvarint_does hA.ob (Nat.le_trans hB hA.size) (ks.length + (x2).u.length) (by omega) (by simp only [List.length_append]; omega)) ?_;rintro r w h;((conv=>whnf);repeat(first|(refine mvT ?_;conv=>whnf)|(refine mvF ?_;conv=>whnf)|(refine cT (by rfl) ?_;conv=>whnf)|(refine cF (by rfl) ?_;conv=>whnf)))
          have hsep : ∀ k, (Value.slice ae ks.length ke).ownBlock = some k → r.ownBlock ≠ some k := fun k hk => h.ne (fun e => by have := hrT k e; have := hos.blk k hk; omega) (hos.own.lt k hk)
          have hos := hos.ext h.ext fun k hk e => by have := hrT k e; have := hos.blk k hk; omega
          replace hA := hA.tr h
          clear h
          generalize hm17 : m16 ++ (uvar (ks.length + (x2).u.length)) = m17 at hA
          have hl17 : m17.length = m16.length + (uvar (ks.length + (x2).u.length)).length := by rw [← hm17, List.length_append]
          refine VL.loop (fun s : Nat × Value => [(1, s.2), (0, .pointer (some ⟨p, 0, none⟩)), (5, .int .i16 v), (6, .bool fx), (9, .slice (some ⟨b2, o2, none⟩) l2.length k2), (78, .slice (some ⟨b2, o2, none⟩) l2.length k2), (79, .int .i64 l2.length), (80, .int .i64 i1), (11, .pointer (some ⟨b2, o2 + i1 * 3, none⟩)), (13, .slice (some ⟨b1_1, o1_1, none⟩) l1_1.length k1_1), (110, .slice (some ⟨b1_1, o1_1, none⟩) l1_1.length k1_1), (111, .int .i64 l1_1.length), (112, .int .i64 i2), (15, .pointer (some ⟨b1_1, o1_1 + i2 * 12, none⟩)), (209, (.slice ae ks.length ke)), (210, .int .i64 ks.length), (211, .int .i64 s.1)])
            (fun s w' => s.1 ≤ ks.length ∧ Apd w0 B x l (m17 ++ (ks.take s.1).flatMap tb) s.2 w' ∧ OSl w' wT.heap.size 64 1 (.slice ae ks.length ke) (ks.map fun (k : Nat) => [.int .u32 (k : Int)]) ∧ ∀ k, (Value.slice ae ks.length ke).ownBlock = some k → s.2.ownBlock ≠ some k) (fun s => ks.length - s.1) (0, r) ⟨rfl, rfl, rfl, rfl, rfl, rfl, rfl, rfl, rfl, rfl, rfl, rfl, rfl, rfl, rfl, rfl, rfl, trivial⟩ ⟨Nat.zero_le _, by rw [List.take_zero, List.flatMap_nil, List.append_nil]; exact hA, hos, hsep⟩ ?_
          clear hA hos hsep
          rintro ⟨ii, r⟩ w ⟨hii, hA, hos, hsep⟩
          dsimp only at hii hA hos hsep
          ((conv=>whnf);repeat(first|(refine mvT ?_;conv=>whnf)|(refine mvF ?_;conv=>whnf)|(refine cT (by rfl) ?_;conv=>whnf)|(refine cF (by rfl) ?_;conv=>whnf)))
          refine cI (by rfl) (fun h9=>?_) (fun h9=>?_)
          · have hil : ii < ks.length := by have := of_decide_eq_true h9; simp only at this; omega
            obtain ⟨hft, hfl⟩ := flat_take tb ks ii hil
            obtain ⟨ge, rfl⟩ := hos.some (i := ii) (by simpa using hil)
            have hce := hos.elem (i := ii) (c := [.int .u32 ((ks[ii] : Nat) : Int)]) (by simp [hil])
            ((conv=>whnf);repeat(first|(refine mvT ?_;conv=>whnf)|(refine mvF ?_;conv=>whnf)|(refine cT (by rfl) ?_;conv=>whnf)|(refine cF (by rfl) ?_;conv=>whnf)))
            refine ⟨ge, 0, rfl, ⟨by omega, by omega⟩, ?_⟩
            ((conv=>whnf);repeat(first|(refine mvT ?_;conv=>whnf)|(refine mvF ?_;conv=>whnf)|(refine cT (by rfl) ?_;conv=>whnf)|(refine cF (by rfl) ?_;conv=>whnf)))
            refine ⟨_, ld (hce.cell (j := 0) rfl) (by simp), ?_⟩
            ((conv=>whnf);repeat(first|(refine mvT ?_;conv=>whnf)|(refine mvF ?_;conv=>whnf)|(refine cT (by rfl) ?_;conv=>whnf)|(refine cF (by rfl) ?_;conv=>whnf)))
            have hkx := hkm _ (List.getElem_mem hil)
            obtain ⟨kx, hkxe⟩ : ∃ y, y = ks[ii] := ⟨_, rfl⟩
            rw [← hkxe] at hkx hft hfl ⊢
            have hA0 := hA
            replace hce1_1 := hce1_1.ext hA.ext (hFx _ hb1_1 hF1_1)
            have hb1_1 := Nat.lt_of_lt_of_le hb1_1 hA.size
            replace hm2_3_ := hm2_3_.ext hA.ext hFx
            have hFxO := hFx
            have hFx : ∀ j, j < w.heap.size → F0 j → ¬ r.ownBlock = some j := fun j _ hf => hA.ne (hFR j hf).2 (hFR j hf).1
            have hFR : ∀ j, F0 j → j < w.heap.size ∧ r.ownBlock ≠ some j := fun j hf => ⟨Nat.lt_of_lt_of_le (hFR j hf).1 hA.size, hA.ne (hFR j hf).2 (hFR j hf).1⟩
            have hB := Nat.le_trans hB hA.size
            have hob := hA.ob
            clear hA
            obtain ⟨lI, hlI⟩ : ∃ y : List UInt8, y = l ++ (m17 ++ (ks.take ii).flatMap tb) := ⟨_, rfl⟩
            rw [← hlI] at hob
            have hlIl := congrArg List.length hlI
            simp only [List.length_append] at hlIl
            obtain ⟨w0, hwI⟩ : ∃ y : World, y = w := ⟨_, rfl⟩
            subst hwI
            obtain ⟨x, hrI⟩ : ∃ y : Value, y = r := ⟨_, rfl⟩
            subst hrI
            obtain ⟨l, hlJ⟩ : ∃ y : List UInt8, y = lI := ⟨_, rfl⟩
            subst hlJ
            have hA := Apd.start hob
            obtain ⟨m18, hm18⟩ : ∃ m : List UInt8, m = [] := ⟨_, rfl⟩
            rw [← hm18] at hA
            have hl18 : m18.length = 0 := by rw [hm18]; rfl
            refine cI (by rfl) (fun hk0=>?_) (fun hk0=>?_)
            · have hkk : kx = 0 := by have := of_decide_eq_true hk0; omega
              obtain ⟨np, hnp⟩ : ∃ y, y = (bFetchSnapshotResponseTopicPartitionCurrentLeader v fx (atT x2 3)).length := ⟨_, rfl⟩
              have htb0 : tb kx = uvar 0 ++ (uvar np ++ (bFetchSnapshotResponseTopicPartitionCurrentLeader v fx (atT x2 3))) := by
                rw [hnp, hkk, htb]
                show tagB (0, if 0 = 0 then bFetchSnapshotResponseTopicPartitionCurrentLeader v fx (atT x2 3) else ([])) = _
                rw [if_pos rfl]
                unfold tagB
                rw [List.append_assoc]
              rw [htb0] at hft hfl
              have hnp0 := hnp
              simp only [List.length_append] at hfl hnp
              obtain ⟨m19, hm19⟩ : ∃ y, m18 ++ (uvar 0) = y := ⟨_, rfl⟩
              have hl19 : m19.length = m18.length + (uvar 0).length := by rw [← hm19, List.length_append]
              have hok2_3_ := fieldOK_part (hok2_.1 3 _ rfl)
              have hgl2_3_ : (bFetchSnapshotResponseTopicPartitionCurrentLeader v fx (atT x2 3)).length = (bFetchSnapshotResponseTopicPartitionCurrentLeader v fx (atT x2 3)).length := rfl
              conv at hgl2_3_ => rhs; unfold bFetchSnapshotResponseTopicPartitionCurrentLeader
              simp only [List.length_append, List.length_nil] at hgl2_3_
              ((conv=>whnf);repeat(first|(refine mvT ?_;conv=>whnf)|(refine mvF ?_;conv=>whnf)|(refine cT (by rfl) ?_;conv=>whnf)|(refine cF (by rfl) ?_;conv=>whnf)))
              refine VO.scope (l := 0) (fun q : Value × Nat => [(1, q.1), (0, .pointer (some ⟨p, 0, none⟩)), (5, .int .i16 v), (6, .bool fx), (9, .slice (some ⟨b2, o2, none⟩) l2.length k2), (78, .slice (some ⟨b2, o2, none⟩) l2.length k2), (79, .int .i64 l2.length), (80, .int .i64 i1), (11, .pointer (some ⟨b2, o2 + i1 * 3, none⟩)), (13, .slice (some ⟨b1_1, o1_1, none⟩) l1_1.length k1_1), (110, .slice (some ⟨b1_1, o1_1, none⟩) l1_1.length k1_1), (111, .int .i64 l1_1.length), (112, .int .i64 i2), (15, .pointer (some ⟨b1_1, o1_1 + i2 * 12, none⟩)), (209, (.slice (some ⟨ge, 0, none⟩) ks.length ke)), (210, .int .i64 ks.length), (211, .int .i64 ii), (27, .pointer (some ⟨q.2, 0, none⟩)), (28, .bool true), (29, .int .i64 ((l ++ m19).length : Nat))]) (fun q w' => ∃ wJ, Ext nob w0 wJ ∧ w0.heap.size ≤ q.2 ∧ Own wJ q.2 95 [.int .i32 (IntKind.i32.wrap (atT (atT x2 3) 0).n), .int .i32 (IntKind.i32.wrap (atT (atT x2 3) 1).n), c2_3_2] ∧ Apd wJ B x l (m19 ++ uvar np) q.1 w') rfl ?_ ?_
              · ((conv=>whnf);repeat(first|(refine mvT ?_;conv=>whnf)|(refine mvF ?_;conv=>whnf)|(refine cT (by rfl) ?_;conv=>whnf)|(refine cF (by rfl) ?_;conv=>whnf)))
                refine ⟨_, rfl, Cells.sub2 (hce1_1.ext hA.ext (hFx _ hb1_1 hF1_1)) 5 3 rfl (by simp <;> omega), ?_⟩; ((conv=>whnf);repeat(first|(refine mvT ?_;conv=>whnf)|(refine mvF ?_;conv=>whnf)|(refine cT (by rfl) ?_;conv=>whnf)|(refine cF (by rfl) ?_;conv=>whnf)))
                intro bu wu hbu hou hxu
                ((conv=>whnf);repeat(first|(refine mvT ?_;conv=>whnf)|(refine mvF ?_;conv=>whnf)|(refine cT (by rfl) ?_;conv=>whnf)|(refine cF (by rfl) ?_;conv=>whnf)))
                refine st_all [.int .i32 (IntKind.i32.wrap (atT (atT x2 3) 0).n), .int .i32 (IntKind.i32.wrap (atT (atT x2 3) 1).n), c2_3_2] hou rfl rfl (by have h1 := hm2_3_.one; simp only [okCells, List.all_cons, List.all_nil, h1]; rfl) ?_
                intro w hov hxv
                ((conv=>whnf);repeat(first|(refine mvT ?_;conv=>whnf)|(refine mvF ?_;conv=>whnf)|(refine cT (by rfl) ?_;conv=>whnf)|(refine cF (by rfl) ?_;conv=>whnf)))
                have he1 : Ext nob w0 w := hxu.trans hxv fun k hk e => by omega
                have hbo : x.ownBlock ≠ some bu := fun e => by have := hob.lt bu e; omega
                replace hA0 := hA0.e0 he1
                replace hos := hos.e0 he1
                replace hob := hob.e0 he1
                replace hB := Nat.le_trans hB he1.size
                replace hm2_3_ := hm2_3_.ext he1 (fun _ _ _ f => f)
                have hFx : ∀ j, j < w.heap.size → F0 j → ¬ x.ownBlock = some j := fun j _ hf => (hFR j hf).2
                have hFR : ∀ j, F0 j → j < w.heap.size ∧ x.ownBlock ≠ some j := fun j hf => ⟨Nat.lt_of_lt_of_le (hFR j hf).1 he1.size, (hFR j hf).2⟩
                have hp := hov
                have hpl := hp.lt
                have hxp := hbo
                obtain ⟨w0, hwJ⟩ : ∃ y : World, y = w := ⟨_, rfl⟩
                subst hwJ
                have hA := Apd.start hob
                rw [← hm18] at hA
                refine Does.mono (AppendUvarint_does hA.ob (Nat.le_trans hB hA.size) 0 (by omega) (by simp only [List.length_append]; omega)) ?_;rintro r w h;((conv=>whnf);repeat(first|(refine mvT ?_;conv=>whnf)|(refine mvF ?_;conv=>whnf)|(refine cT (by rfl) ?_;conv=>whnf)|(refine cF (by rfl) ?_;conv=>whnf)))
                replace hA := hA.tr h
                clear h
                rw [hm19] at hA
                obtain ⟨ar, cr, rfl, _, _⟩ := hA.ob.shape
                ((conv=>whnf);repeat(first|(refine mvT ?_;conv=>whnf)|(refine mvF ?_;conv=>whnf)|(refine cT (by rfl) ?_;conv=>whnf)|(refine cF (by rfl) ?_;conv=>whnf)))
                refine VO.label ?_
                ((conv=>whnf);repeat(first|(refine mvT ?_;conv=>whnf)|(refine mvF ?_;conv=>whnf)|(refine cT (by rfl) ?_;conv=>whnf)|(refine cF (by rfl) ?_;conv=>whnf)))
                refine ldS ((hp.ext hA.ext hxp).cell rfl) ?_;((conv=>whnf);repeat(first|(refine mvT ?_;conv=>whnf)|(refine mvF ?_;conv=>whnf)|(refine cT (by rfl) ?_;conv=>whnf)|(refine cF (by rfl) ?_;conv=>whnf)))
                refine Does.mono (AppendInt32_does hA.ob (Nat.le_trans hB hA.size) (by simp only [List.length_append]; omega) _) ?_;rintro r w h;((conv=>whnf);repeat(first|(refine mvT ?_;conv=>whnf)|(refine mvF ?_;conv=>whnf)|(refine cT (by rfl) ?_;conv=>whnf)|(refine cF (by rfl) ?_;conv=>whnf)))
                rw [fixed4_mod (wrap_i32m _)] at h
                replace hA := hA.tr h
                clear h
                generalize hm20 : m19 ++ (fixed (atT (atT x2 3) 0).n 4) = m20 at hA
                have hl20 : m20.length = m19.length + (fixed (atT (atT x2 3) 0).n 4).length := by rw [← hm20, List.length_append]
                refine ldS ((hp.ext hA.ext hxp).cell rfl) ?_;((conv=>whnf);repeat(first|(refine mvT ?_;conv=>whnf)|(refine mvF ?_;conv=>whnf)|(refine cT (by rfl) ?_;conv=>whnf)|(refine cF (by rfl) ?_;conv=>whnf)))
                refine Does.mono (AppendInt32_does hA.ob (Nat.le_trans hB hA.size) (by simp only [List.length_append]; omega) _) ?_;rintro r w h;((conv=>whnf);repeat(first|(refine mvT ?_;conv=>whnf)|(refine mvF ?_;conv=>whnf)|(refine cT (by rfl) ?_;conv=>whnf)|(refine cF (by rfl) ?_;conv=>whnf)))
                rw [fixed4_mod (wrap_i32m _)] at h
                replace hA := hA.tr h
                clear h
                generalize hm21 : m20 ++ (fixed (atT (atT x2 3) 1).n 4) = m21 at hA
                have hl21 : m21.length = m20.length + (fixed (atT (atT x2 3) 1).n 4).length := by rw [← hm21, List.length_append]
                (refine mvB ?_;((conv=>whnf);repeat(first|(refine mvT ?_;conv=>whnf)|(refine mvF ?_;conv=>whnf)|(refine cT (by rfl) ?_;conv=>whnf)|(refine cF (by rfl) ?_;conv=>whnf))))
                refine VC.cutE (fun r => [(1, r), (0, .pointer (some ⟨p, 0, none⟩)), (5, .int .i16 v), (6, .bool fx), (9, .slice (some ⟨b2, o2, none⟩) l2.length k2), (78, .slice (some ⟨b2, o2, none⟩) l2.length k2), (79, .int .i64 l2.length), (80, .int .i64 i1), (11, .pointer (some ⟨b2, o2 + i1 * 3, none⟩)), (13, .slice (some ⟨b1_1, o1_1, none⟩) l1_1.length k1_1), (110, .slice (some ⟨b1_1, o1_1, none⟩) l1_1.length k1_1), (111, .int .i64 l1_1.length), (112, .int .i64 i2), (15, .pointer (some ⟨b1_1, o1_1 + i2 * 12, none⟩)), (209, (.slice (some ⟨ge, 0, none⟩) ks.length ke)), (210, .int .i64 ks.length), (211, .int .i64 ii), (27, .pointer (some ⟨bu, 0, none⟩)), (28, .bool false), (29, .int .i64 ((l ++ m19).length : Nat))]) (fun r w' => Apd w0 B x l (m21 ++ (tgsB fx (atT x2 3).u)) r w') ?_ ?_
                · refine cI (by rfl) (fun hc=>?_) (fun hc=>?_)
                  · ((conv=>whnf);repeat(first|(refine mvT ?_;conv=>whnf)|(refine mvF ?_;conv=>whnf)|(refine cT (by rfl) ?_;conv=>whnf)|(refine cF (by rfl) ?_;conv=>whnf)))
                    have hul := hok2_3_.2.len
                    refine Does.mono (Tags_Len_does ((hp.ext hA.ext hxp).cell rfl) (hm2_3_.ext hA.ext hFx)) ?_;rintro r w ⟨rfl, rfl⟩;((conv=>whnf);repeat(first|(refine mvT ?_;conv=>whnf)|(refine mvF ?_;conv=>whnf)|(refine cT (by rfl) ?_;conv=>whnf)|(refine cF (by rfl) ?_;conv=>whnf)))
                    rw [u32_add0 (by omega)]
                    refine Does.mono (AppendUvarint_does hA.ob (Nat.le_trans hB hA.size) (atT x2 3).u.length (by omega) (by simp only [List.length_append]; omega)) ?_;rintro r w h;((conv=>whnf);repeat(first|(refine mvT ?_;conv=>whnf)|(refine mvF ?_;conv=>whnf)|(refine cT (by rfl) ?_;conv=>whnf)|(refine cF (by rfl) ?_;conv=>whnf)))
                    have hul2 := uvar10 (n := (atT x2 3).u.length) (by omega)
                    replace hA := hA.tr h
                    clear h
                    refine Does.mono (AppendEach_does ((hp.ext hA.ext hxp).cell rfl) (hm2_3_.ext hA.ext hFx) hok2_3_.2 hA.ob (Nat.le_trans hB hA.size) (hA.ne hxp hpl) (fun j _ hf => hA.ne (hFR j hf).2 (hFR j hf).1) (by simp only [List.length_append]; omega)) ?_;rintro r w h;((conv=>whnf);repeat(first|(refine mvT ?_;conv=>whnf)|(refine mvF ?_;conv=>whnf)|(refine cT (by rfl) ?_;conv=>whnf)|(refine cF (by rfl) ?_;conv=>whnf)))
                    replace hA := hA.tr h
                    clear h
                    refine ⟨_, ⟨rfl, rfl, rfl, rfl, rfl, rfl, rfl, rfl, rfl, rfl, rfl, rfl, rfl, rfl, rfl, rfl, rfl, rfl, rfl, rfl, trivial⟩, ?_⟩
                    rw [tgsB, if_pos hc, ← List.append_assoc]
                    exact hA
                  · ((conv=>whnf);repeat(first|(refine mvT ?_;conv=>whnf)|(refine mvF ?_;conv=>whnf)|(refine cT (by rfl) ?_;conv=>whnf)|(refine cF (by rfl) ?_;conv=>whnf)))
                    refine ⟨_, ⟨rfl, rfl, rfl, rfl, rfl, rfl, rfl, rfl, rfl, rfl, rfl, rfl, rfl, rfl, rfl, rfl, rfl, rfl, rfl, rfl, trivial⟩, ?_⟩
                    rw [tgsB, if_neg (by rw [hc]; decide), List.append_nil]
                    exact hA
                clear hA
                rintro r w hA
                ((conv=>whnf);repeat(first|(refine mvT ?_;conv=>whnf)|(refine mvF ?_;conv=>whnf)|(refine cT (by rfl) ?_;conv=>whnf)|(refine cF (by rfl) ?_;conv=>whnf)))
                generalize hm22 : m21 ++ (tgsB fx (atT x2 3).u) = m22 at hA
                have hl22 : m22.length = m21.length + (tgsB fx (atT x2 3).u).length := by rw [← hm22, List.length_append]
                rw [show m22 = m19 ++ (bFetchSnapshotResponseTopicPartitionCurrentLeader v fx (atT x2 3)) by unfold bFetchSnapshotResponseTopicPartitionCurrentLeader; simp only [← hm22, ← hm21, ← hm20, List.append_assoc, List.nil_append, List.append_nil]] at hA
                obtain ⟨ar, cr, rfl, _, _⟩ := hA.ob.shape
                refine VD.draw mixed (.q 0 (.q 1 (.q 2 (.q 3 (.q 4 (.q 5 (.q 6 (.q 7 (.eff 8 [] (.eff 9 [] (.done))))))))))) (by kernel_rfl) ?_;((conv=>whnf);repeat(first|(refine mvT ?_;conv=>whnf)|(refine mvF ?_;conv=>whnf)|(refine cT (by rfl) ?_;conv=>whnf)|(refine cF (by rfl) ?_;conv=>whnf)))
                replace hA := hA.e0 (ext_drew _)
                refine cut_back hA rfl ?_
                refine cut_rest hA rfl ?_
                intro ax kx
                ((conv=>whnf);repeat(first|(refine mvT ?_;conv=>whnf)|(refine mvF ?_;conv=>whnf)|(refine cT (by rfl) ?_;conv=>whnf)|(refine cF (by rfl) ?_;conv=>whnf)))
                rw [u32_nat (by rw [← hnp0]; omega)]
                refine Does.mono (AppendUvarint_does hA.cut.ob (Nat.le_trans hB hA.size) (bFetchSnapshotResponseTopicPartitionCurrentLeader v fx (atT x2 3)).length (by omega) (by simp only [List.length_append]; omega)) ?_;rintro r w h;((conv=>whnf);repeat(first|(refine mvT ?_;conv=>whnf)|(refine mvF ?_;conv=>whnf)|(refine cT (by rfl) ?_;conv=>whnf)|(refine cF (by rfl) ?_;conv=>whnf)))
                replace hA := hA.cut.tr h
                clear h
                ((conv=>whnf);repeat(first|(refine mvT ?_;conv=>whnf)|(refine mvF ?_;conv=>whnf)|(refine cT (by rfl) ?_;conv=>whnf)|(refine cF (by rfl) ?_;conv=>whnf)))
                refine VO.goto ?_
                refine ⟨(r, bu), ⟨rfl, rfl, rfl, rfl, rfl, rfl, rfl, rfl, rfl, rfl, rfl, rfl, rfl, rfl, rfl, rfl, rfl, rfl, rfl, rfl, trivial⟩, ?_⟩
                rw [hnp0]
                exact ⟨_, he1, hbu, hov, hA⟩
              · clear hA
                rintro ⟨r, bu⟩ w ⟨wJ, he1, hbu, hov, hA⟩
                dsimp only at hbu hov hA
                ((conv=>whnf);repeat(first|(refine mvT ?_;conv=>whnf)|(refine mvF ?_;conv=>whnf)|(refine cT (by rfl) ?_;conv=>whnf)|(refine cF (by rfl) ?_;conv=>whnf)))
                have hbo : x.ownBlock ≠ some bu := fun e => by have := hob.lt bu e; omega
                replace hA0 := hA0.e0 he1
                replace hos := hos.e0 he1
                replace hob := hob.e0 he1
                replace hB := Nat.le_trans hB he1.size
                replace hm2_3_ := hm2_3_.ext he1 (fun _ _ _ f => f)
                have hFx : ∀ j, j < wJ.heap.size → F0 j → ¬ x.ownBlock = some j := fun j _ hf => (hFR j hf).2
                have hFR : ∀ j, F0 j → j < wJ.heap.size ∧ x.ownBlock ≠ some j := fun j hf => ⟨Nat.lt_of_lt_of_le (hFR j hf).1 he1.size, (hFR j hf).2⟩
                have hp := hov
                have hpl := hp.lt
                have hxp := hbo
                obtain ⟨w0, hwJ⟩ : ∃ y : World, y = wJ := ⟨_, rfl⟩
                subst hwJ
                generalize hm20 : m19 ++ (uvar np) = m20 at hA
                have hl20 : m20.length = m19.length + (uvar np).length := by rw [← hm20, List.length_append]
                refine ldS ((hp.ext hA.ext hxp).cell rfl) ?_;((conv=>whnf);repeat(first|(refine mvT ?_;conv=>whnf)|(refine mvF ?_;conv=>whnf)|(refine cT (by rfl) ?_;conv=>whnf)|(refine cF (by rfl) ?_;conv=>whnf)))
                refine Does.mono (AppendInt32_does hA.ob (Nat.le_trans hB hA.size) (by simp only [List.length_append]; omega) _) ?_;rintro r w h;((conv=>whnf);repeat(first|(refine mvT ?_;conv=>whnf)|(refine mvF ?_;conv=>whnf)|(refine cT (by rfl) ?_;conv=>whnf)|(refine cF (by rfl) ?_;conv=>whnf)))
                rw [fixed4_mod (wrap_i32m _)] at h
                replace hA := hA.tr h
                clear h
                generalize hm21 : m20 ++ (fixed (atT (atT x2 3) 0).n 4) = m21 at hA
                have hl21 : m21.length = m20.length + (fixed (atT (atT x2 3) 0).n 4).length := by rw [← hm21, List.length_append]
                refine ldS ((hp.ext hA.ext hxp).cell rfl) ?_;((conv=>whnf);repeat(first|(refine mvT ?_;conv=>whnf)|(refine mvF ?_;conv=>whnf)|(refine cT (by rfl) ?_;conv=>whnf)|(refine cF (by rfl) ?_;conv=>whnf)))
                refine Does.mono (AppendInt32_does hA.ob (Nat.le_trans hB hA.size) (by simp only [List.length_append]; omega) _) ?_;rintro r w h;((conv=>whnf);repeat(first|(refine mvT ?_;conv=>whnf)|(refine mvF ?_;conv=>whnf)|(refine cT (by rfl) ?_;conv=>whnf)|(refine cF (by rfl) ?_;conv=>whnf)))
                rw [fixed4_mod (wrap_i32m _)] at h
                replace hA := hA.tr h
                clear h
                generalize hm22 : m21 ++ (fixed (atT (atT x2 3) 1).n 4) = m22 at hA
                have hl22 : m22.length = m21.length + (fixed (atT (atT x2 3) 1).n 4).length := by rw [← hm22, List.length_append]
                (refine mvB ?_;((conv=>whnf);repeat(first|(refine mvT ?_;conv=>whnf)|(refine mvF ?_;conv=>whnf)|(refine cT (by rfl) ?_;conv=>whnf)|(refine cF (by rfl) ?_;conv=>whnf))))
                refine VC.cutE (fun r => [(1, r), (0, .pointer (some ⟨p, 0, none⟩)), (5, .int .i16 v), (6, .bool fx), (9, .slice (some ⟨b2, o2, none⟩) l2.length k2), (78, .slice (some ⟨b2, o2, none⟩) l2.length k2), (79, .int .i64 l2.length), (80, .int .i64 i1), (11, .pointer (some ⟨b2, o2 + i1 * 3, none⟩)), (13, .slice (some ⟨b1_1, o1_1, none⟩) l1_1.length k1_1), (110, .slice (some ⟨b1_1, o1_1, none⟩) l1_1.length k1_1), (111, .int .i64 l1_1.length), (112, .int .i64 i2), (15, .pointer (some ⟨b1_1, o1_1 + i2 * 12, none⟩)), (209, (.slice (some ⟨ge, 0, none⟩) ks.length ke)), (210, .int .i64 ks.length), (211, .int .i64 ii), (27, .pointer (some ⟨bu, 0, none⟩)), (28, .bool true), (29, .int .i64 ((l ++ m19).length : Nat))]) (fun r w' => Apd w0 B x l (m22 ++ (tgsB fx (atT x2 3).u)) r w') ?_ ?_
                · refine cI (by rfl) (fun hc=>?_) (fun hc=>?_)
                  · ((conv=>whnf);repeat(first|(refine mvT ?_;conv=>whnf)|(refine mvF ?_;conv=>whnf)|(refine cT (by rfl) ?_;conv=>whnf)|(refine cF (by rfl) ?_;conv=>whnf)))
                    have hul := hok2_3_.2.len
                    refine Does.mono (Tags_Len_does ((hp.ext hA.ext hxp).cell rfl) (hm2_3_.ext hA.ext hFx)) ?_;rintro r w ⟨rfl, rfl⟩;((conv=>whnf);repeat(first|(refine mvT ?_;conv=>whnf)|(refine mvF ?_;conv=>whnf)|(refine cT (by rfl) ?_;conv=>whnf)|(refine cF (by rfl) ?_;conv=>whnf)))
                    rw [u32_add0 (by omega)]
                    refine Does.mono (AppendUvarint_does hA.ob (Nat.le_trans hB hA.size) (atT x2 3).u.length (by omega) (by simp only [List.length_append]; omega)) ?_;rintro r w h;((conv=>whnf);repeat(first|(refine mvT ?_;conv=>whnf)|(refine mvF ?_;conv=>whnf)|(refine cT (by rfl) ?_;conv=>whnf)|(refine cF (by rfl) ?_;conv=>whnf)))
                    have hul2 := uvar10 (n := (atT x2 3).u.length) (by omega)
                    replace hA := hA.tr h
                    clear h
                    refine Does.mono (AppendEach_does ((hp.ext hA.ext hxp).cell rfl) (hm2_3_.ext hA.ext hFx) hok2_3_.2 hA.ob (Nat.le_trans hB hA.size) (hA.ne hxp hpl) (fun j _ hf => hA.ne (hFR j hf).2 (hFR j hf).1) (by simp only [List.length_append]; omega)) ?_;rintro r w h;((conv=>whnf);repeat(first|(refine mvT ?_;conv=>whnf)|(refine mvF ?_;conv=>whnf)|(refine cT (by rfl) ?_;conv=>whnf)|(refine cF (by rfl) ?_;conv=>whnf)))
                    replace hA := hA.tr h
                    clear h
                    refine ⟨_, ⟨rfl, rfl, rfl, rfl, rfl, rfl, rfl, rfl, rfl, rfl, rfl, rfl, rfl, rfl, rfl, rfl, rfl, rfl, rfl, rfl, trivial⟩, ?_⟩
                    rw [tgsB, if_pos hc, ← List.append_assoc]
                    exact hA
                  · ((conv=>whnf);repeat(first|(refine mvT ?_;conv=>whnf)|(refine mvF ?_;conv=>whnf)|(refine cT (by rfl) ?_;conv=>whnf)|(refine cF (by rfl) ?_;conv=>whnf)))
                    refine ⟨_, ⟨rfl, rfl, rfl, rfl, rfl, rfl, rfl, rfl, rfl, rfl, rfl, rfl, rfl, rfl, rfl, rfl, rfl, rfl, rfl, rfl, trivial⟩, ?_⟩
                    rw [tgsB, if_neg (by rw [hc]; decide), List.append_nil]
                    exact hA
                clear hA
                rintro r w hA
                ((conv=>whnf);repeat(first|(refine mvT ?_;conv=>whnf)|(refine mvF ?_;conv=>whnf)|(refine cT (by rfl) ?_;conv=>whnf)|(refine cF (by rfl) ?_;conv=>whnf)))
                generalize hm23 : m22 ++ (tgsB fx (atT x2 3).u) = m23 at hA
                have hl23 : m23.length = m22.length + (tgsB fx (atT x2 3).u).length := by rw [← hm23, List.length_append]
                have hfin : m23 = uvar 0 ++ (uvar np ++ (bFetchSnapshotResponseTopicPartitionCurrentLeader v fx (atT x2 3))) := by unfold bFetchSnapshotResponseTopicPartitionCurrentLeader; simp only [← hm23, ← hm22, ← hm21, ← hm20, ← hm19, hm18, List.append_assoc, List.nil_append, List.append_nil]
                refine ⟨(ii + 1, r), ⟨rfl, rfl, rfl, rfl, rfl, rfl, rfl, rfl, rfl, rfl, rfl, rfl, rfl, rfl, rfl, rfl, inc_eq (by omega), trivial⟩, ⟨by simp only; omega, ?_, ?_, ?_⟩, by simp only; omega⟩
                · have hA1 := hA
                  rw [hfin, hlI] at hA1
                  have h := hA0.tr hA1
                  rw [hft, ← List.append_assoc]
                  exact h
                · exact hos.ext hA.ext fun k hk e => hsep k hk e
                · exact fun k hk => hA.ne (hsep k hk) (hos.own.lt k hk)
            · have := of_decide_eq_false hk0
              omega
          have hil : ii = ks.length := by have := of_decide_eq_false h9; simp only at this; omega
          ((conv=>whnf);repeat(first|(refine mvT ?_;conv=>whnf)|(refine mvF ?_;conv=>whnf)|(refine cT (by rfl) ?_;conv=>whnf)|(refine cF (by rfl) ?_;conv=>whnf)))
          rw [hil, List.take_length] at hA
          generalize hm18 : m17 ++ (ks.flatMap tb) = m18 at hA
          have hl18 : m18.length = m17.length + (ks.flatMap tb).length := by rw [← hm18, List.length_append]
          refine Does.mono (AppendEach_does (ld ((hce1_1.ext hA.ext (hFx _ hb1_1 hF1_1)).cell (j := 11) rfl) (by simp <;> omega)) (hm2_.ext hA.ext hFx) hok2_.2 hA.ob (Nat.le_trans hB hA.size) (hA.ne (hFR _ hF1_1).2 (hFR _ hF1_1).1) (fun j _ hf => hA.ne (hFR j hf).2 (hFR j hf).1) (by simp only [List.length_append]; omega)) ?_;rintro r w h;((conv=>whnf);repeat(first|(refine mvT ?_;conv=>whnf)|(refine mvF ?_;conv=>whnf)|(refine cT (by rfl) ?_;conv=>whnf)|(refine cF (by rfl) ?_;conv=>whnf)))
          replace hA := hA.tr h
          clear h
          generalize hm19 : m18 ++ ((x2).u.flatMap tagB) = m19 at hA
          have hl19 : m19.length = m18.length + ((x2).u.flatMap tagB).length := by rw [← hm19, List.length_append]
          refine ⟨_, ⟨rfl, rfl, rfl, rfl, rfl, rfl, rfl, rfl, rfl, rfl, rfl, rfl, rfl, rfl, trivial⟩, ?_⟩
          rw [if_pos hc, hgq, hgf, show m16 ++ (uvar (ks.length + (x2).u.length) ++ (ks.flatMap tb ++ (x2).u.flatMap tagB)) = m19 by simp only [← hm19, ← hm18, ← hm17, List.append_assoc]]
          exact hA
        · ((conv=>whnf);repeat(first|(refine mvT ?_;conv=>whnf)|(refine mvF ?_;conv=>whnf)|(refine cT (by rfl) ?_;conv=>whnf)|(refine cF (by rfl) ?_;conv=>whnf)))
          refine ⟨_, ⟨rfl, rfl, rfl, rfl, rfl, rfl, rfl, rfl, rfl, rfl, rfl, rfl, rfl, rfl, trivial⟩, ?_⟩
          rw [if_neg (by rw [hc]; decide), List.append_nil]
          exact hA
      clear hA
      rintro r w hA
      ((conv=>whnf);repeat(first|(refine mvT ?_;conv=>whnf)|(refine mvF ?_;conv=>whnf)|(refine cT (by rfl) ?_;conv=>whnf)|(refine cF (by rfl) ?_;conv=>whnf)))
      generalize hm17 : m16 ++ ((if fx = true then uvar ((gFetchSnapshotResponseTopicPartition v fx x2).length + (x2).u.length) ++ ((gFetchSnapshotResponseTopicPartition v fx x2).flatMap tagB ++ (x2).u.flatMap tagB) else [])) = m17 at hA
      have hl17 : m17.length = m16.length + ((if fx = true then uvar ((gFetchSnapshotResponseTopicPartition v fx x2).length + (x2).u.length) ++ ((gFetchSnapshotResponseTopicPartition v fx x2).flatMap tagB ++ (x2).u.flatMap tagB) else [])).length := by rw [← hm17, List.length_append]
      have hfin : m7 ++ (bFetchSnapshotResponseTopicPartition v fx) x2 = m17 := by unfold bFetchSnapshotResponseTopicPartition; simp only [← hm17, ← hm16, ← hm15, ← hm14, ← hm13, ← hm9, ← hm8, List.append_assoc, List.nil_append, List.append_nil]
      refine ⟨(i2 + 1, r), ⟨rfl, rfl, rfl, rfl, rfl, rfl, rfl, rfl, rfl, rfl, rfl, rfl, inc_eq (by rw [maxLen_eq] at hkm1_1; omega), trivial⟩, ⟨by simp only; omega, ?_⟩, by simp only; omega⟩
      rw [hft, ← List.append_assoc, hm7, hfin]
      exact hA
    have hil : i2 = l1_1.length := by have := of_decide_eq_false h9; simp only at this; omega
    ((conv=>whnf);repeat(first|(refine mvT ?_;conv=>whnf)|(refine mvF ?_;conv=>whnf)|(refine cT (by rfl) ?_;conv=>whnf)|(refine cF (by rfl) ?_;conv=>whnf)))
    rw [hil, hll1_1, List.take_length] at hA
    generalize hm7 : m6 ++ ((lsT (atT x1 1)).flatMap (bFetchSnapshotResponseTopicPartition v fx)) = m7 at hA
    have hl7 : m7.length = m6.length + ((lsT (atT x1 1)).flatMap (bFetchSnapshotResponseTopicPartition v fx)).length := by rw [← hm7, List.length_append]
    (refine mvB ?_;((conv=>whnf);repeat(first|(refine mvT ?_;conv=>whnf)|(refine mvF ?_;conv=>whnf)|(refine cT (by rfl) ?_;conv=>whnf)|(refine cF (by rfl) ?_;conv=>whnf))))
    refine VC.cutB (fun r => [(1, r), (0, .pointer (some ⟨p, 0, none⟩)), (5, .int .i16 v), (6, .bool fx), (9, .slice (some ⟨b2, o2, none⟩) l2.length k2), (78, .slice (some ⟨b2, o2, none⟩) l2.length k2), (79, .int .i64 l2.length), (80, .int .i64 i1), (11, .pointer (some ⟨b2, o2 + i1 * 3, none⟩))]) (fun r w' => Apd w0 B x l (m7 ++ (tgsB fx (x1).u)) r w') ?_ ?_
    · refine cI (by rfl) (fun hc=>?_) (fun hc=>?_)
      · ((conv=>whnf);repeat(first|(refine mvT ?_;conv=>whnf)|(refine mvF ?_;conv=>whnf)|(refine cT (by rfl) ?_;conv=>whnf)|(refine cF (by rfl) ?_;conv=>whnf)))
        have hul := hok1_.2.len
        refine Does.mono (Tags_Len_does (ld ((hce2.ext hA.ext (hFx _ hb2 hF2)).cell (j := 2) rfl) (by simp <;> omega)) (hm1_.ext hA.ext hFx)) ?_;rintro r w ⟨rfl, rfl⟩;((conv=>whnf);repeat(first|(refine mvT ?_;conv=>whnf)|(refine mvF ?_;conv=>whnf)|(refine cT (by rfl) ?_;conv=>whnf)|(refine cF (by rfl) ?_;conv=>whnf)))
        rw [u32_add0 (by omega)]
        refine Does.mono (AppendUvarint_does hA.ob (Nat.le_trans hB hA.size) (x1).u.length (by omega) (by simp only [List.length_append]; omega)) ?_;rintro r w h;((conv=>whnf);repeat(first|(refine mvT ?_;conv=>whnf)|(refine mvF ?_;conv=>whnf)|(refine cT (by rfl) ?_;conv=>whnf)|(refine cF (by rfl) ?_;conv=>whnf)))
        have hul2 := uvar10 (n := (x1).u.length) (by omega)
        replace hA := hA.tr h
        clear h
        refine Does.mono (AppendEach_does (ld ((hce2.ext hA.ext (hFx _ hb2 hF2)).cell (j := 2) rfl) (by simp <;> omega)) (hm1_.ext hA.ext hFx) hok1_.2 hA.ob (Nat.le_trans hB hA.size) (hA.ne (hFR _ hF2).2 (hFR _ hF2).1) (fun j _ hf => hA.ne (hFR j hf).2 (hFR j hf).1) (by simp only [List.length_append]; omega)) ?_;rintro r w h;((conv=>whnf);repeat(first|(refine mvT ?_;conv=>whnf)|(refine mvF ?_;conv=>whnf)|(refine cT (by rfl) ?_;conv=>whnf)|(refine cF (by rfl) ?_;conv=>whnf)))
        replace hA := hA.tr h
        clear h
        refine ⟨_, ⟨rfl, rfl, rfl, rfl, rfl, rfl, rfl, rfl, rfl, trivial⟩, ?_⟩
        rw [tgsB, if_pos hc, ← List.append_assoc]
        exact hA
      · ((conv=>whnf);repeat(first|(refine mvT ?_;conv=>whnf)|(refine mvF ?_;conv=>whnf)|(refine cT (by rfl) ?_;conv=>whnf)|(refine cF (by rfl) ?_;conv=>whnf)))
        refine ⟨_, ⟨rfl, rfl, rfl, rfl, rfl, rfl, rfl, rfl, rfl, trivial⟩, ?_⟩
        rw [tgsB, if_neg (by rw [hc]; decide), List.append_nil]
        exact hA
    clear hA
    rintro r w hA
    ((conv=>whnf);repeat(first|(refine mvT ?_;conv=>whnf)|(refine mvF ?_;conv=>whnf)|(refine cT (by rfl) ?_;conv=>whnf)|(refine cF (by rfl) ?_;conv=>whnf)))
    generalize hm8 : m7 ++ (tgsB fx (x1).u) = m8 at hA
    have hl8 : m8.length = m7.length + (tgsB fx (x1).u).length := by rw [← hm8, List.length_append]
    have hfin : m4 ++ (bFetchSnapshotResponseTopic v fx) x1 = m8 := by unfold bFetchSnapshotResponseTopic; simp only [← hm8, ← hm7, ← hm6, ← hm5, List.append_assoc, List.nil_append, List.append_nil]
    refine ⟨(i1 + 1, r), ⟨rfl, rfl, rfl, rfl, rfl, rfl, rfl, inc_eq (by rw [maxLen_eq] at hkm2; omega), trivial⟩, ⟨by simp only; omega, ?_⟩, by simp only; omega⟩
    rw [hft, ← List.append_assoc, hm4, hfin]
    exact hA
  have hil : i1 = l2.length := by have := of_decide_eq_false h9; simp only at this; omega
  ((conv=>whnf);repeat(first|(refine mvT ?_;conv=>whnf)|(refine mvF ?_;conv=>whnf)|(refine cT (by rfl) ?_;conv=>whnf)|(refine cF (by rfl) ?_;conv=>whnf)))
  rw [hil, hll2, List.take_length] at hA
  generalize hm4 : m3 ++ ((lsT (atT t 2)).flatMap (bFetchSnapshotResponseTopic v fx)) = m4 at hA
  have hl4 : m4.length = m3.length + ((lsT (atT t 2)).flatMap (bFetchSnapshotResponseTopic v fx)).length := by rw [← hm4, List.length_append]
  (refine mvB ?_;((conv=>whnf);repeat(first|(refine mvT ?_;conv=>whnf)|(refine mvF ?_;conv=>whnf)|(refine cT (by rfl) ?_;conv=>whnf)|(refine cF (by rfl) ?_;conv=>whnf))))
  refine VC.cutE (fun r => [(1, r), (0, .pointer (some ⟨p, 0, none⟩)), (5, .int .i16 v), (6, .bool fx)]) (fun r w' => Apd w0 B x l (m4 ++ ((if fx = true then uvar ((gFetchSnapshotResponse v fx t).length + (t).u.length) ++ ((gFetchSnapshotResponse v fx t).flatMap tagB ++ (t).u.flatMap tagB) else []))) r w') ?_ ?_
  · refine cI (by rfl) (fun hc=>?_) (fun hc=>?_)
    · ((conv=>whnf);repeat(first|(refine mvT ?_;conv=>whnf)|(refine mvF ?_;conv=>whnf)|(refine cT (by rfl) ?_;conv=>whnf)|(refine cF (by rfl) ?_;conv=>whnf)))
      rw [if_pos hc] at hl hs32
      simp only [List.length_append] at hl hs32
      obtain ⟨wT, rfl⟩ : ∃ y, y = w := ⟨w, rfl⟩
      have hos := OSl.nil wT wT.heap.size 64 1
      have hex := Ext.refl nob wT
      obtain ⟨ev, hev⟩ : ∃ y : Value, y = .slice none 0 0 := ⟨_, rfl⟩
      obtain ⟨ks, hks⟩ : ∃ y : List Nat, y = [] := ⟨_, rfl⟩
      obtain ⟨ay3, ky3, ly3, rfl, hkmy3, hlly3, hnny3, _, _⟩ := hc3.view
      refine ldS ((hp.ext (hA.e0 hex).ext hxp).cell rfl) ?_;((conv=>whnf);repeat(first|(refine mvT ?_;conv=>whnf)|(refine mvF ?_;conv=>whnf)|(refine cT (by rfl) ?_;conv=>whnf)|(refine cF (by rfl) ?_;conv=>whnf)))
      refine VC.cutE (fun q : Value × List Nat => [(1, r), (32, q.1), (0, .pointer (some ⟨p, 0, none⟩)), (5, .int .i16 v), (6, .bool fx)]) (fun q w' => OSl w' wT.heap.size 64 1 q.1 (q.2.map fun (k : Nat) => [.int .u32 (k : Int)]) ∧ Ext nob wT w' ∧ q.2 = ([]) ++ (if ncB (.mk 11 0 (-1) (-1) 0 0 10 dFetchSnapshotResponseNodeEndpoint) (atT t 3) = false then [0] else [])) ?_ ?_
      · refine cI (by rfl) (fun hcd=>?_) (fun hcd=>?_)
        · ((conv=>whnf);repeat(first|(refine mvT ?_;conv=>whnf)|(refine mvF ?_;conv=>whnf)|(refine cT (by rfl) ?_;conv=>whnf)|(refine cF (by rfl) ?_;conv=>whnf)))
          have hos : OSl _ wT.heap.size 64 1 (.slice none 0 0) ((([] : List Nat)).map fun (k : Nat) => [.int .u32 (k : Int)]) := hos
          have hnc : ncB (.mk 11 0 (-1) (-1) 0 0 10 dFetchSnapshotResponseNodeEndpoint) (atT t 3) = false := by
            have hcd := of_decide_eq_true hcd
            show (atT t 3).l.isEmpty = false
            have he := lsT_eq (hok.1 3 _ rfl)
            rw [← he]
            cases hz : lsT (atT t 3) with
            | nil => rw [hz] at hlly3; simp only [List.length_nil] at hlly3; omega
            | cons y z => rfl
          intro be we hbe hoe hxe
          ((conv=>whnf);repeat(first|(refine mvT ?_;conv=>whnf)|(refine mvF ?_;conv=>whnf)|(refine cT (by rfl) ?_;conv=>whnf)|(refine cF (by rfl) ?_;conv=>whnf)))
          have hsx := hxe.size
          have hsT := hex.size
          refine app_struct (ms := [[.int .u32 (0 : Int)]]) rfl (hos.e0 hxe) (src_one hoe rfl rfl) (by simp) rfl rfl (by have hkl : ([] : List Nat).length ≤ 0 := (Nat.le_refl 0); constructor <;> (simp only [List.length_map, List.length_singleton]; omega)) (by omega) ?_
          intro v5 w5 hos5 hx5 hb5 hnn5
          ((conv=>whnf);repeat(first|(refine mvT ?_;conv=>whnf)|(refine mvF ?_;conv=>whnf)|(refine cT (by rfl) ?_;conv=>whnf)|(refine cF (by rfl) ?_;conv=>whnf)))
          exact ⟨(v5, [] ++ [0]), ⟨rfl, rfl, rfl, rfl, rfl, trivial⟩, by simpa using hos5, (hex.e0 hxe).trans hx5 fun k hk e => by have := hos.blk k e; omega, by rw [if_pos hnc]⟩
        · ((conv=>whnf);repeat(first|(refine mvT ?_;conv=>whnf)|(refine mvF ?_;conv=>whnf)|(refine cT (by rfl) ?_;conv=>whnf)|(refine cF (by rfl) ?_;conv=>whnf)))
          have hos : OSl _ wT.heap.size 64 1 (.slice none 0 0) ((([] : List Nat)).map fun (k : Nat) => [.int .u32 (k : Int)]) := hos
          have hnc : ¬ (ncB (.mk 11 0 (-1) (-1) 0 0 10 dFetchSnapshotResponseNodeEndpoint) (atT t 3) = false) := by
            have hcd := of_decide_eq_false hcd
            show ¬ (atT t 3).l.isEmpty = false
            have he := lsT_eq (hok.1 3 _ rfl)
            rw [← he]
            cases hz : lsT (atT t 3) with
            | nil => simp
            | cons y z => rw [hz] at hlly3; simp only [List.length_cons] at hlly3; omega
          exact ⟨((.slice none 0 0), []), ⟨rfl, rfl, rfl, rfl, rfl, trivial⟩, hos, hex, by rw [if_neg hnc]; rfl⟩
      clear hos hex hks
      rintro ⟨ev, ks⟩ w ⟨hos, hex, hks⟩
      dsimp only at hos hex hks
      ((conv=>whnf);repeat(first|(refine mvT ?_;conv=>whnf)|(refine mvF ?_;conv=>whnf)|(refine cT (by rfl) ?_;conv=>whnf)|(refine cF (by rfl) ?_;conv=>whnf)))
      have hkl : ks.length ≤ 1 := by rw [hks]; (repeat' split) <;> simp
      have hrT : ∀ k, r.ownBlock = some k → k < wT.heap.size := hA.ob.lt
      have hA := hA.e0 hex
      obtain ⟨ae, ke, hev, _, hke⟩ := hos.shape
      rw [List.length_map] at hev
      subst hev
      have hkm : ∀ k ∈ ks, k = 0 := by rw [hks]; intro k hk; (repeat' split at hk) <;> simp at hk <;> omega
      obtain ⟨tb, htb⟩ : ∃ y : Nat → List UInt8, y = fun k => tagB (k, if k = 0 then arA fx (lsT (atT t 3)).length ++ (lsT (atT t 3)).flatMap (bFetchSnapshotResponseNodeEndpoint v fx) else ([])) := ⟨_, rfl⟩
      have hgq : (gFetchSnapshotResponse v fx t).length = ks.length := by
        rw [hks]
        unfold gFetchSnapshotResponse
        (repeat' split) <;> simp
      have hgf : (gFetchSnapshotResponse v fx t).flatMap tagB = ks.flatMap tb := by
        rw [hks, htb]
        unfold gFetchSnapshotResponse
        (repeat' split) <;> simp
      rw [hgq, hgf] at hl hs32
      have hul := hok.2.len
      have hul2 := uvar10 (n := ks.length + (t).u.length) (by omega)
      refine Does.mono (Tags_Len_does ((hp.ext hA.ext hxp).cell rfl) (hm.ext hA.ext hFx)) ?_;rintro r2 w2 ⟨rfl, rfl⟩;((conv=>whnf);repeat(first|(refine mvT ?_;conv=>whnf)|(refine mvF ?_;conv=>whnf)|(refine cT (by rfl) ?_;conv=>whnf)|(refine cF (by rfl) ?_;conv=>whnf)))
      rw [u32_sum (by omega)]
      refine Does.mono (AppendUvarint_does hA.ob (Nat.le_trans hB hA.size) (ks.length + (t).u.length) (by omega) (by simp only [List.length_append]; omega)) ?_;rintro r w h;((conv=>whnf);repeat(first|(refine mvT ?_;conv=>whnf)|(refine mvF ?_;conv=>whnf)|(refine cT (by rfl) ?_;conv=>whnf)|(refine cF (by rfl) ?_;conv=>whnf)))
      have hsep : ∀ k, (Value.slice ae ks.length ke).ownBlock = some k → r.ownBlock ≠ some k := fun k hk => h.ne (fun e => by have := hrT k e; have := hos.blk k hk; omega) (hos.own.lt k hk)
      have hos := hos.ext h.ext fun k hk e => by have := hrT k e; have := hos.blk k hk; omega
      replace hA := hA.tr h
      clear h
      generalize hm5 : m4 ++ (uvar (ks.length + (t).u.length)) = m5 at hA
      have hl5 : m5.length = m4.length + (uvar (ks.length + (t).u.length)).length := by rw [← hm5, List.length_append]
      refine VL.loop (fun s : Nat × Value => [(1, s.2), (0, .pointer (some ⟨p, 0, none⟩)), (5, .int .i16 v), (6, .bool fx), (299, (.slice ae ks.length ke)), (300, .int .i64 ks.length), (301, .int .i64 s.1)])
        (fun s w' => s.1 ≤ ks.length ∧ Apd w0 B x l (m5 ++ (ks.take s.1).flatMap tb) s.2 w' ∧ OSl w' wT.heap.size 64 1 (.slice ae ks.length ke) (ks.map fun (k : Nat) => [.int .u32 (k : Int)]) ∧ ∀ k, (Value.slice ae ks.length ke).ownBlock = some k → s.2.ownBlock ≠ some k) (fun s => ks.length - s.1) (0, r) ⟨rfl, rfl, rfl, rfl, rfl, rfl, rfl, trivial⟩ ⟨Nat.zero_le _, by rw [List.take_zero, List.flatMap_nil, List.append_nil]; exact hA, hos, hsep⟩ ?_
      clear hA hos hsep
      rintro ⟨ii, r⟩ w ⟨hii, hA, hos, hsep⟩
      dsimp only at hii hA hos hsep
      ((conv=>whnf);repeat(first|(refine mvT ?_;conv=>whnf)|(refine mvF ?_;conv=>whnf)|(refine cT (by rfl) ?_;conv=>whnf)|(refine cF (by rfl) ?_;conv=>whnf)))
      refine cI (by rfl) (fun h9=>?_) (fun h9=>?_)
      · have hil : ii < ks.length := by have := of_decide_eq_true h9; simp only at this; omega
        obtain ⟨hft, hfl⟩ := flat_take tb ks ii hil
        obtain ⟨ge, rfl⟩ := hos.some (i := ii) (by simpa using hil)
        have hce := hos.elem (i := ii) (c := [.int .u32 ((ks[ii] : Nat) : Int)]) (by simp [hil])
        ((conv=>whnf);repeat(first|(refine mvT ?_;conv=>whnf)|(refine mvF ?_;conv=>whnf)|(refine cT (by rfl) ?_;conv=>whnf)|(refine cF (by rfl) ?_;conv=>whnf)))
        refine ⟨ge, 0, rfl, ⟨by omega, by omega⟩, ?_⟩
        ((conv=>whnf);repeat(first|(refine mvT ?_;conv=>whnf)|(refine mvF ?_;conv=>whnf)|(refine cT (by rfl) ?_;conv=>whnf)|(refine cF (by rfl) ?_;conv=>whnf)))
        refine ⟨_, ld (hce.cell (j := 0) rfl) (by simp), ?_⟩
        ((conv=>whnf);repeat(first|(refine mvT ?_;conv=>whnf)|(refine mvF ?_;conv=>whnf)|(refine cT (by rfl) ?_;conv=>whnf)|(refine cF (by rfl) ?_;conv=>whnf)))
        have hkx := hkm _ (List.getElem_mem hil)
        obtain ⟨kx, hkxe⟩ : ∃ y, y = ks[ii] := ⟨_, rfl⟩
        rw [← hkxe] at hkx hft hfl ⊢
        have hA0 := hA
        have hplO := hpl
        replace hp := hp.ext hA.ext hxp
        have hpl := Nat.lt_of_lt_of_le hpl hA.size
        have hxp := hA.ne hxp hplO
        replace hc3 := hc3.ext hA.ext hFx (fun _ _ h => rFetchSnapshotResponseNodeEndpoint_ext h hA.ext hFx)
        have hFxO := hFx
        have hFx : ∀ j, j < w.heap.size → F0 j → ¬ r.ownBlock = some j := fun j _ hf => hA.ne (hFR j hf).2 (hFR j hf).1
        have hFR : ∀ j, F0 j → j < w.heap.size ∧ r.ownBlock ≠ some j := fun j hf => ⟨Nat.lt_of_lt_of_le (hFR j hf).1 hA.size, hA.ne (hFR j hf).2 (hFR j hf).1⟩
        have hB := Nat.le_trans hB hA.size
        have hob := hA.ob
        clear hA
        obtain ⟨lI, hlI⟩ : ∃ y : List UInt8, y = l ++ (m5 ++ (ks.take ii).flatMap tb) := ⟨_, rfl⟩
        rw [← hlI] at hob
        have hlIl := congrArg List.length hlI
        simp only [List.length_append] at hlIl
        obtain ⟨w0, hwI⟩ : ∃ y : World, y = w := ⟨_, rfl⟩
        subst hwI
        obtain ⟨x, hrI⟩ : ∃ y : Value, y = r := ⟨_, rfl⟩
        subst hrI
        obtain ⟨l, hlJ⟩ : ∃ y : List UInt8, y = lI := ⟨_, rfl⟩
        subst hlJ
        have hA := Apd.start hob
        obtain ⟨m6, hm6⟩ : ∃ m : List UInt8, m = [] := ⟨_, rfl⟩
        rw [← hm6] at hA
        have hl6 : m6.length = 0 := by rw [hm6]; rfl
        refine cI (by rfl) (fun hk0=>?_) (fun hk0=>?_)
        · have hkk : kx = 0 := by have := of_decide_eq_true hk0; omega
          obtain ⟨np, hnp⟩ : ∃ y, y = (arA fx (lsT (atT t 3)).length ++ (lsT (atT t 3)).flatMap (bFetchSnapshotResponseNodeEndpoint v fx)).length := ⟨_, rfl⟩
          have htb0 : tb kx = uvar 0 ++ (uvar np ++ (arA fx (lsT (atT t 3)).length ++ (lsT (atT t 3)).flatMap (bFetchSnapshotResponseNodeEndpoint v fx))) := by
            rw [hnp, hkk, htb]
            show tagB (0, if 0 = 0 then arA fx (lsT (atT t 3)).length ++ (lsT (atT t 3)).flatMap (bFetchSnapshotResponseNodeEndpoint v fx) else ([])) = _
            rw [if_pos rfl]
            unfold tagB
            rw [List.append_assoc]
          rw [htb0] at hft hfl
          have hnp0 := hnp
          simp only [List.length_append] at hfl hnp
          obtain ⟨m7, hm7⟩ : ∃ y, m6 ++ (uvar 0) = y := ⟨_, rfl⟩
          have hl7 : m7.length = m6.length + (uvar 0).length := by rw [← hm7, List.length_append]
          obtain ⟨a3, k3, l3, hcx3, hkm3, hll3, hnn3, hcl3, hrl3⟩ := hc3.view
          rw [hcx3] at hp
          ((conv=>whnf);repeat(first|(refine mvT ?_;conv=>whnf)|(refine mvF ?_;conv=>whnf)|(refine cT (by rfl) ?_;conv=>whnf)|(refine cF (by rfl) ?_;conv=>whnf)))
          refine VO.scope (l := 1) (fun q : Value => [(1, q), (0, .pointer (some ⟨p, 0, none⟩)), (5, .int .i16 v), (6, .bool fx), (299, (.slice (some ⟨ge, 0, none⟩) ks.length ke)), (300, .int .i64 ks.length), (301, .int .i64 ii), (35, .slice a3 l3.length k3), (36, .bool true), (37, .int .i64 ((l ++ m7).length : Nat))]) (fun q w' => Apd w0 B x l (m7 ++ uvar np) q w') rfl ?_ ?_
          · ((conv=>whnf);repeat(first|(refine mvT ?_;conv=>whnf)|(refine mvF ?_;conv=>whnf)|(refine cT (by rfl) ?_;conv=>whnf)|(refine cF (by rfl) ?_;conv=>whnf)))
            refine ldS ((hp.ext hA.ext hxp).cell rfl) ?_;((conv=>whnf);repeat(first|(refine mvT ?_;conv=>whnf)|(refine mvF ?_;conv=>whnf)|(refine cT (by rfl) ?_;conv=>whnf)|(refine cF (by rfl) ?_;conv=>whnf)))
            refine Does.mono (AppendUvarint_does hA.ob (Nat.le_trans hB hA.size) 0 (by omega) (by simp only [List.length_append]; omega)) ?_;rintro r w h;((conv=>whnf);repeat(first|(refine mvT ?_;conv=>whnf)|(refine mvF ?_;conv=>whnf)|(refine cT (by rfl) ?_;conv=>whnf)|(refine cF (by rfl) ?_;conv=>whnf)))
            replace hA := hA.tr h
            clear h
            rw [hm7] at hA
            obtain ⟨ar, cr, rfl, _, _⟩ := hA.ob.shape
            ((conv=>whnf);repeat(first|(refine mvT ?_;conv=>whnf)|(refine mvF ?_;conv=>whnf)|(refine cT (by rfl) ?_;conv=>whnf)|(refine cF (by rfl) ?_;conv=>whnf)))
            refine VO.label ?_
            ((conv=>whnf);repeat(first|(refine mvT ?_;conv=>whnf)|(refine mvF ?_;conv=>whnf)|(refine cT (by rfl) ?_;conv=>whnf)|(refine cF (by rfl) ?_;conv=>whnf)))
            have hml3 := lsT_len (hok.1 3 _ rfl)
            (refine mvB ?_;((conv=>whnf);repeat(first|(refine mvT ?_;conv=>whnf)|(refine mvF ?_;conv=>whnf)|(refine cT (by rfl) ?_;conv=>whnf)|(refine cF (by rfl) ?_;conv=>whnf))))
            refine VC.cutE (fun r => [(1, r), (0, .pointer (some ⟨p, 0, none⟩)), (5, .int .i16 v), (6, .bool fx), (299, (.slice (some ⟨ge, 0, none⟩) ks.length ke)), (300, .int .i64 ks.length), (301, .int .i64 ii), (36, .bool false), (37, .int .i64 ((l ++ m7).length : Nat)), (35, .slice a3 l3.length k3)]) (fun r w' => Apd w0 B x l (m7 ++ (arA fx (lsT (atT t 3)).length)) r w') ?_ ?_
            · refine cI (by rfl) (fun hc=>?_) (fun hc=>?_)
              · ((conv=>whnf);repeat(first|(refine mvT ?_;conv=>whnf)|(refine mvF ?_;conv=>whnf)|(refine cT (by rfl) ?_;conv=>whnf)|(refine cF (by rfl) ?_;conv=>whnf)))
                refine Does.mono (AppendCompactArrayLen_does hA.ob (Nat.le_trans hB hA.size) (by simp only [List.length_append]; omega) l3.length (by omega)) ?_;rintro r w h;((conv=>whnf);repeat(first|(refine mvT ?_;conv=>whnf)|(refine mvF ?_;conv=>whnf)|(refine cT (by rfl) ?_;conv=>whnf)|(refine cF (by rfl) ?_;conv=>whnf)))
                rw [hll3] at h
                replace hA := hA.tr h
                clear h
                refine ⟨_, ⟨rfl, rfl, rfl, rfl, rfl, rfl, rfl, rfl, rfl, rfl, trivial⟩, ?_⟩
                rw [hc]
                exact hA
              · ((conv=>whnf);repeat(first|(refine mvT ?_;conv=>whnf)|(refine mvF ?_;conv=>whnf)|(refine cT (by rfl) ?_;conv=>whnf)|(refine cF (by rfl) ?_;conv=>whnf)))
                refine Does.mono (AppendArrayLen_does hA.ob (Nat.le_trans hB hA.size) (by simp only [List.length_append]; omega) l3.length) ?_;rintro r w h;((conv=>whnf);repeat(first|(refine mvT ?_;conv=>whnf)|(refine mvF ?_;conv=>whnf)|(refine cT (by rfl) ?_;conv=>whnf)|(refine cF (by rfl) ?_;conv=>whnf)))
                rw [hll3] at h
                replace hA := hA.tr h
                clear h
                refine ⟨_, ⟨rfl, rfl, rfl, rfl, rfl, rfl, rfl, rfl, rfl, rfl, trivial⟩, ?_⟩
                rw [hc]
                exact hA
            clear hA
            rintro r w hA
            ((conv=>whnf);repeat(first|(refine mvT ?_;conv=>whnf)|(refine mvF ?_;conv=>whnf)|(refine cT (by rfl) ?_;conv=>whnf)|(refine cF (by rfl) ?_;conv=>whnf)))
            generalize hm8 : m7 ++ (arA fx (lsT (atT t 3)).length) = m8 at hA
            have hl8 : m8.length = m7.length + (arA fx (lsT (atT t 3)).length).length := by rw [← hm8, List.length_append]
            refine VL.loop (fun s : Nat × Value => [(1, s.2), (0, .pointer (some ⟨p, 0, none⟩)), (5, .int .i16 v), (6, .bool fx), (299, (.slice (some ⟨ge, 0, none⟩) ks.length ke)), (300, .int .i64 ks.length), (301, .int .i64 ii), (36, .bool false), (37, .int .i64 ((l ++ m7).length : Nat)), (35, .slice a3 l3.length k3), (325, .slice a3 l3.length k3), (326, .int .i64 l3.length), (327, .int .i64 s.1)])
              (fun s w' => s.1 ≤ l3.length ∧ Apd w0 B x l (m8 ++ ((lsT (atT t 3)).take s.1).flatMap (bFetchSnapshotResponseNodeEndpoint v fx)) s.2 w') (fun s => l3.length - s.1) (0, r) ⟨rfl, rfl, rfl, rfl, rfl, rfl, rfl, rfl, rfl, rfl, rfl, rfl, rfl, trivial⟩ ⟨Nat.zero_le _, by rw [List.take_zero, List.flatMap_nil, List.append_nil]; exact hA⟩ ?_
            clear hA
            rintro ⟨i2, r⟩ w ⟨hi2, hA⟩
            dsimp only at hi2 hA
            ((conv=>whnf);repeat(first|(refine mvT ?_;conv=>whnf)|(refine mvF ?_;conv=>whnf)|(refine cT (by rfl) ?_;conv=>whnf)|(refine cF (by rfl) ?_;conv=>whnf)))
            refine cI (by rfl) (fun h9=>?_) (fun h9=>?_)
            · have hil : i2 < l3.length := by have := of_decide_eq_true h9; simp only at this; omega
              have hiL2 : i2 < (lsT (atT t 3)).length := by omega
              obtain ⟨hft, hfl⟩ := flat_take (bFetchSnapshotResponseNodeEndpoint v fx) (lsT (atT t 3)) i2 hiL2
              obtain ⟨b3, o3, rfl, hF3, hb3, hce3⟩ := hcl3 i2 l3[i2] (by simp [hil])
              have hre3 := hrl3 i2 l3[i2] ((lsT (atT t 3))[i2]) (by simp [hil]) (by simp [hiL2])
              have hlo3 := lsT_ok (hok.1 3 _ rfl) ((lsT (atT t 3))[i2]) (List.getElem_mem hiL2)
              generalize hm9 : m8 ++ ((lsT (atT t 3)).take i2).flatMap (bFetchSnapshotResponseNodeEndpoint v fx) = m9 at hA
              have hl9 : m9.length = m8.length + (((lsT (atT t 3)).take i2).flatMap (bFetchSnapshotResponseNodeEndpoint v fx)).length := by rw [← hm9, List.length_append]
              obtain ⟨x2, hx2⟩ : ∃ y, y = (lsT (atT t 3))[i2] := ⟨_, rfl⟩
              rw [← hx2] at hft hfl hre3 hlo3
              obtain ⟨m2_, hcells, hm2_⟩ := hre3
              rw [hcells] at hce3
              have hok2_ := hlo3.2.2 rfl
              have hgl : (bFetchSnapshotResponseNodeEndpoint v fx x2).length = (bFetchSnapshotResponseNodeEndpoint v fx x2).length := rfl
              conv at hgl => rhs; unfold bFetchSnapshotResponseNodeEndpoint
              simp only [List.length_append, List.length_nil] at hgl
              ((conv=>whnf);repeat(first|(refine mvT ?_;conv=>whnf)|(refine mvF ?_;conv=>whnf)|(refine cT (by rfl) ?_;conv=>whnf)|(refine cF (by rfl) ?_;conv=>whnf)))
              refine ⟨b3, o3, rfl, ⟨by omega, by omega⟩, ?_⟩
              ((conv=>whnf);repeat(first|(refine mvT ?_;conv=>whnf)|(refine mvF ?_;conv=>whnf)|(refine cT (by rfl) ?_;conv=>whnf)|(refine cF (by rfl) ?_;conv=>whnf)))
              refine VC.cutE (fun r => [(1, r), (0, .pointer (some ⟨p, 0, none⟩)), (5, .int .i16 v), (6, .bool fx), (299, (.slice (some ⟨ge, 0, none⟩) ks.length ke)), (300, .int .i64 ks.length), (301, .int .i64 ii), (36, .bool false), (37, .int .i64 ((l ++ m7).length : Nat)), (35, .slice (some ⟨b3, o3, none⟩) l3.length k3), (325, .slice (some ⟨b3, o3, none⟩) l3.length k3), (326, .int .i64 l3.length), (327, .int .i64 i2), (39, .pointer (some ⟨b3, o3 + i2 * 4, none⟩))]) (fun r w' => Apd w0 B x l (m9 ++ ((if (decide (1 ≤ v) && (decide ((-1 : Int) < 0) || decide (v ≤ (-1)))) = true then fixed (atT x2 0).n 4 else []))) r w') ?_ ?_
              · refine cI (by rfl) (fun hcv=>?_) (fun hcv=>?_)
                · ((conv=>whnf);repeat(first|(refine mvT ?_;conv=>whnf)|(refine mvF ?_;conv=>whnf)|(refine cT (by rfl) ?_;conv=>whnf)|(refine cF (by rfl) ?_;conv=>whnf)))
                  refine ⟨_, ld ((hce3.ext hA.ext (hFx _ hb3 hF3)).cell (j := 0) rfl) (by simp <;> omega), ?_⟩; ((conv=>whnf);repeat(first|(refine mvT ?_;conv=>whnf)|(refine mvF ?_;conv=>whnf)|(refine cT (by rfl) ?_;conv=>whnf)|(refine cF (by rfl) ?_;conv=>whnf)))
                  refine Does.mono (AppendInt32_does hA.ob (Nat.le_trans hB hA.size) (by simp only [List.length_append]; omega) _) ?_;rintro r w h;((conv=>whnf);repeat(first|(refine mvT ?_;conv=>whnf)|(refine mvF ?_;conv=>whnf)|(refine cT (by rfl) ?_;conv=>whnf)|(refine cF (by rfl) ?_;conv=>whnf)))
                  rw [fixed4_mod (wrap_i32m _)] at h
                  replace hA := hA.tr h
                  clear h
                  generalize hm10 : m9 ++ (fixed (atT x2 0).n 4) = m10 at hA
                  have hl10 : m10.length = m9.length + (fixed (atT x2 0).n 4).length := by rw [← hm10, List.length_append]
                  refine ⟨_, ⟨rfl, rfl, rfl, rfl, rfl, rfl, rfl, rfl, rfl, rfl, rfl, rfl, rfl, rfl, trivial⟩, ?_⟩
                  rw [if_pos (by simp only [ge_iff_le, decide_eq_true_eq] at hcv; simp; omega)]
                  rw [hm10]
                  exact hA
                · ((conv=>whnf);repeat(first|(refine mvT ?_;conv=>whnf)|(refine mvF ?_;conv=>whnf)|(refine cT (by rfl) ?_;conv=>whnf)|(refine cF (by rfl) ?_;conv=>whnf)))
                  refine ⟨_, ⟨rfl, rfl, rfl, rfl, rfl, rfl, rfl, rfl, rfl, rfl, rfl, rfl, rfl, rfl, trivial⟩, ?_⟩
                  rw [if_neg (by simp only [ge_iff_le, decide_eq_false_iff_not] at hcv; simp; omega), List.append_nil]
                  exact hA
              clear hA
              rintro r w hA
              ((conv=>whnf);repeat(first|(refine mvT ?_;conv=>whnf)|(refine mvF ?_;conv=>whnf)|(refine cT (by rfl) ?_;conv=>whnf)|(refine cF (by rfl) ?_;conv=>whnf)))
              generalize hm10 : m9 ++ ((if (decide (1 ≤ v) && (decide ((-1 : Int) < 0) || decide (v ≤ (-1)))) = true then fixed (atT x2 0).n 4 else [])) = m10 at hA
              have hl10 : m10.length = m9.length + ((if (decide (1 ≤ v) && (decide ((-1 : Int) < 0) || decide (v ≤ (-1)))) = true then fixed (atT x2 0).n 4 else [])).length := by rw [← hm10, List.length_append]
              refine VC.cutE (fun r => [(1, r), (0, .pointer (some ⟨p, 0, none⟩)), (5, .int .i16 v), (6, .bool fx), (299, (.slice (some ⟨ge, 0, none⟩) ks.length ke)), (300, .int .i64 ks.length), (301, .int .i64 ii), (36, .bool false), (37, .int .i64 ((l ++ m7).length : Nat)), (35, .slice (some ⟨b3, o3, none⟩) l3.length k3), (325, .slice (some ⟨b3, o3, none⟩) l3.length k3), (326, .int .i64 l3.length), (327, .int .i64 i2), (39, .pointer (some ⟨b3, o3 + i2 * 4, none⟩))]) (fun r w' => Apd w0 B x l (m10 ++ ((if (decide (1 ≤ v) && (decide ((-1 : Int) < 0) || decide (v ≤ (-1)))) = true then txA fx (atT x2 1).s else []))) r w') ?_ ?_
              · refine cI (by rfl) (fun hcv=>?_) (fun hcv=>?_)
                · ((conv=>whnf);repeat(first|(refine mvT ?_;conv=>whnf)|(refine mvF ?_;conv=>whnf)|(refine cT (by rfl) ?_;conv=>whnf)|(refine cF (by rfl) ?_;conv=>whnf)))
                  refine ⟨_, ld ((hce3.ext hA.ext (hFx _ hb3 hF3)).cell (j := 1) rfl) (by simp <;> omega), ?_⟩; ((conv=>whnf);repeat(first|(refine mvT ?_;conv=>whnf)|(refine mvF ?_;conv=>whnf)|(refine cT (by rfl) ?_;conv=>whnf)|(refine cF (by rfl) ?_;conv=>whnf)))
                  have hsl := fieldOK_text (hok2_.1 1 _ rfl)
                  (refine mvB ?_;((conv=>whnf);repeat(first|(refine mvT ?_;conv=>whnf)|(refine mvF ?_;conv=>whnf)|(refine cT (by rfl) ?_;conv=>whnf)|(refine cF (by rfl) ?_;conv=>whnf))))
                  refine cI (by rfl) (fun hc=>?_) (fun hc=>?_)
                  · ((conv=>whnf);repeat(first|(refine mvT ?_;conv=>whnf)|(refine mvF ?_;conv=>whnf)|(refine cT (by rfl) ?_;conv=>whnf)|(refine cF (by rfl) ?_;conv=>whnf)))
                    refine Does.mono (AppendCompactString_does hA.ob (Nat.le_trans hB hA.size) _ (by omega) (by simp only [List.length_append]; omega)) ?_;rintro r w h;((conv=>whnf);repeat(first|(refine mvT ?_;conv=>whnf)|(refine mvF ?_;conv=>whnf)|(refine cT (by rfl) ?_;conv=>whnf)|(refine cF (by rfl) ?_;conv=>whnf)))
                    replace hA := hA.tr h
                    clear h
                    refine ⟨_, ⟨rfl, rfl, rfl, rfl, rfl, rfl, rfl, rfl, rfl, rfl, rfl, rfl, rfl, rfl, trivial⟩, ?_⟩
                    rw [if_pos (by simp only [ge_iff_le, decide_eq_true_eq] at hcv; simp; omega), hc]
                    exact hA
                  · ((conv=>whnf);repeat(first|(refine mvT ?_;conv=>whnf)|(refine mvF ?_;conv=>whnf)|(refine cT (by rfl) ?_;conv=>whnf)|(refine cF (by rfl) ?_;conv=>whnf)))
                    refine Does.mono (AppendString_does hA.ob (Nat.le_trans hB hA.size) _ (by simp only [List.length_append]; omega)) ?_;rintro r w h;((conv=>whnf);repeat(first|(refine mvT ?_;conv=>whnf)|(refine mvF ?_;conv=>whnf)|(refine cT (by rfl) ?_;conv=>whnf)|(refine cF (by rfl) ?_;conv=>whnf)))
                    replace hA := hA.tr h
                    clear h
                    refine ⟨_, ⟨rfl, rfl, rfl, rfl, rfl, rfl, rfl, rfl, rfl, rfl, rfl, rfl, rfl, rfl, trivial⟩, ?_⟩
                    rw [if_pos (by simp only [ge_iff_le, decide_eq_true_eq] at hcv; simp; omega), hc]
                    exact hA
                · ((conv=>whnf);repeat(first|(refine mvT ?_;conv=>whnf)|(refine mvF ?_;conv=>whnf)|(refine cT (by rfl) ?_;conv=>whnf)|(refine cF (by rfl) ?_;conv=>whnf)))
                  refine ⟨_, ⟨rfl, rfl, rfl, rfl, rfl, rfl, rfl, rfl, rfl, rfl, rfl, rfl, rfl, rfl, trivial⟩, ?_⟩
                  rw [if_neg (by simp only [ge_iff_le, decide_eq_false_iff_not] at hcv; simp; omega), List.append_nil]
                  exact hA
              clear hA
              rintro r w hA
              ((conv=>whnf);repeat(first|(refine mvT ?_;conv=>whnf)|(refine mvF ?_;conv=>whnf)|(refine cT (by rfl) ?_;conv=>whnf)|(refine cF (by rfl) ?_;conv=>whnf)))
              generalize hm11 : m10 ++ ((if (decide (1 ≤ v) && (decide ((-1 : Int) < 0) || decide (v ≤ (-1)))) = true then txA fx (atT x2 1).s else [])) = m11 at hA
              have hl11 : m11.length = m10.length + ((if (decide (1 ≤ v) && (decide ((-1 : Int) < 0) || decide (v ≤ (-1)))) = true then txA fx (atT x2 1).s else [])).length := by rw [← hm11, List.length_append]
              refine VC.cutE (fun r => [(1, r), (0, .pointer (some ⟨p, 0, none⟩)), (5, .int .i16 v), (6, .bool fx), (299, (.slice (some ⟨ge, 0, none⟩) ks.length ke)), (300, .int .i64 ks.length), (301, .int .i64 ii), (36, .bool false), (37, .int .i64 ((l ++ m7).length : Nat)), (35, .slice (some ⟨b3, o3, none⟩) l3.length k3), (325, .slice (some ⟨b3, o3, none⟩) l3.length k3), (326, .int .i64 l3.length), (327, .int .i64 i2), (39, .pointer (some ⟨b3, o3 + i2 * 4, none⟩))]) (fun r w' => Apd w0 B x l (m11 ++ ((if (decide (1 ≤ v) && (decide ((-1 : Int) < 0) || decide (v ≤ (-1)))) = true then fixed (atT x2 2).n 2 else []))) r w') ?_ ?_
              · refine cI (by rfl) (fun hcv=>?_) (fun hcv=>?_)
                · ((conv=>whnf);repeat(first|(refine mvT ?_;conv=>whnf)|(refine mvF ?_;conv=>whnf)|(refine cT (by rfl) ?_;conv=>whnf)|(refine cF (by rfl) ?_;conv=>whnf)))
                  refine ⟨_, ld ((hce3.ext hA.ext (hFx _ hb3 hF3)).cell (j := 2) rfl) (by simp <;> omega), ?_⟩; ((conv=>whnf);repeat(first|(refine mvT ?_;conv=>whnf)|(refine mvF ?_;conv=>whnf)|(refine cT (by rfl) ?_;conv=>whnf)|(refine cF (by rfl) ?_;conv=>whnf)))
                  refine Does.mono (AppendUint16_does hA.ob (Nat.le_trans hB hA.size) (by simp only [List.length_append]; omega) _) ?_;rintro r w h;((conv=>whnf);repeat(first|(refine mvT ?_;conv=>whnf)|(refine mvF ?_;conv=>whnf)|(refine cT (by rfl) ?_;conv=>whnf)|(refine cF (by rfl) ?_;conv=>whnf)))
                  rw [fixed2_mod (m := (atT x2 2).n) (by rw [wrap_u16]; omega)] at h
                  replace hA := hA.tr h
                  clear h
                  generalize hm12 : m11 ++ (fixed (atT x2 2).n 2) = m12 at hA
                  have hl12 : m12.length = m11.length + (fixed (atT x2 2).n 2).length := by rw [← hm12, List.length_append]
                  refine ⟨_, ⟨rfl, rfl, rfl, rfl, rfl, rfl, rfl, rfl, rfl, rfl, rfl, rfl, rfl, rfl, trivial⟩, ?_⟩
                  rw [if_pos (by simp only [ge_iff_le, decide_eq_true_eq] at hcv; simp; omega)]
                  rw [hm12]
                  exact hA
                · ((conv=>whnf);repeat(first|(refine mvT ?_;conv=>whnf)|(refine mvF ?_;conv=>whnf)|(refine cT (by rfl) ?_;conv=>whnf)|(refine cF (by rfl) ?_;conv=>whnf)))
                  refine ⟨_, ⟨rfl, rfl, rfl, rfl, rfl, rfl, rfl, rfl, rfl, rfl, rfl, rfl, rfl, rfl, trivial⟩, ?_⟩
                  rw [if_neg (by simp only [ge_iff_le, decide_eq_false_iff_not] at hcv; simp; omega), List.append_nil]
                  exact hA
              clear hA
              rintro r w hA
              ((conv=>whnf);repeat(first|(refine mvT ?_;conv=>whnf)|(refine mvF ?_;conv=>whnf)|(refine cT (by rfl) ?_;conv=>whnf)|(refine cF (by rfl) ?_;conv=>whnf)))
              generalize hm12 : m11 ++ ((if (decide (1 ≤ v) && (decide ((-1 : Int) < 0) || decide (v ≤ (-1)))) = true then fixed (atT x2 2).n 2 else [])) = m12 at hA
              have hl12 : m12.length = m11.length + ((if (decide (1 ≤ v) && (decide ((-1 : Int) < 0) || decide (v ≤ (-1)))) = true then fixed (atT x2 2).n 2 else [])).length := by rw [← hm12, List.length_append]
              (refine mvB ?_;((conv=>whnf);repeat(first|(refine mvT ?_;conv=>whnf)|(refine mvF ?_;conv=>whnf)|(refine cT (by rfl) ?_;conv=>whnf)|(refine cF (by rfl) ?_;conv=>whnf))))
              refine VC.cutB (fun r => [(1, r), (0, .pointer (some ⟨p, 0, none⟩)), (5, .int .i16 v), (6, .bool fx), (299, (.slice (some ⟨ge, 0, none⟩) ks.length ke)), (300, .int .i64 ks.length), (301, .int .i64 ii), (36, .bool false), (37, .int .i64 ((l ++ m7).length : Nat)), (35, .slice (some ⟨b3, o3, none⟩) l3.length k3), (325, .slice (some ⟨b3, o3, none⟩) l3.length k3), (326, .int .i64 l3.length), (327, .int .i64 i2), (39, .pointer (some ⟨b3, o3 + i2 * 4, none⟩))]) (fun r w' => Apd w0 B x l (m12 ++ (tgsB fx (x2).u)) r w') ?_ ?_
              · refine cI (by rfl) (fun hc=>?_) (fun hc=>?_)
                · ((conv=>whnf);repeat(first|(refine mvT ?_;conv=>whnf)|(refine mvF ?_;conv=>whnf)|(refine cT (by rfl) ?_;conv=>whnf)|(refine cF (by rfl) ?_;conv=>whnf)))
                  have hul := hok2_.2.len
                  refine Does.mono (Tags_Len_does (ld ((hce3.ext hA.ext (hFx _ hb3 hF3)).cell (j := 3) rfl) (by simp <;> omega)) (hm2_.ext hA.ext hFx)) ?_;rintro r w ⟨rfl, rfl⟩;((conv=>whnf);repeat(first|(refine mvT ?_;conv=>whnf)|(refine mvF ?_;conv=>whnf)|(refine cT (by rfl) ?_;conv=>whnf)|(refine cF (by rfl) ?_;conv=>whnf)))
                  rw [u32_add0 (by omega)]
                  refine Does.mono (AppendUvarint_does hA.ob (Nat.le_trans hB hA.size) (x2).u.length (by omega) (by simp only [List.length_append]; omega)) ?_;rintro r w h;((conv=>whnf);repeat(first|(refine mvT ?_;conv=>whnf)|(refine mvF ?_;conv=>whnf)|(refine cT (by rfl) ?_;conv=>whnf)|(refine cF (by rfl) ?_;conv=>whnf)))
                  have hul2 := uvar10 (n := (x2).u.length) (by omega)
                  replace hA := hA.tr h
                  clear h
                  refine Does.mono (AppendEach_does (ld ((hce3.ext hA.ext (hFx _ hb3 hF3)).cell (j := 3) rfl) (by simp <;> omega)) (hm2_.ext hA.ext hFx) hok2_.2 hA.ob (Nat.le_trans hB hA.size) (hA.ne (hFR _ hF3).2 (hFR _ hF3).1) (fun j _ hf => hA.ne (hFR j hf).2 (hFR j hf).1) (by simp only [List.length_append]; omega)) ?_;rintro r w h;((conv=>whnf);repeat(first|(refine mvT ?_;conv=>whnf)|(refine mvF ?_;conv=>whnf)|(refine cT (by rfl) ?_;conv=>whnf)|(refine cF (by rfl) ?_;conv=>whnf)))
                  replace hA := hA.tr h
                  clear h
                  refine ⟨_, ⟨rfl, rfl, rfl, rfl, rfl, rfl, rfl, rfl, rfl, rfl, rfl, rfl, rfl, rfl, trivial⟩, ?_⟩
                  rw [tgsB, if_pos hc, ← List.append_assoc]
                  exact hA
                · ((conv=>whnf);repeat(first|(refine mvT ?_;conv=>whnf)|(refine mvF ?_;conv=>whnf)|(refine cT (by rfl) ?_;conv=>whnf)|(refine cF (by rfl) ?_;conv=>whnf)))
                  refine ⟨_, ⟨rfl, rfl, rfl, rfl, rfl, rfl, rfl, rfl, rfl, rfl, rfl, rfl, rfl, rfl, trivial⟩, ?_⟩
                  rw [tgsB, if_neg (by rw [hc]; decide), List.append_nil]
                  exact hA
              clear hA
              rintro r w hA
              ((conv=>whnf);repeat(first|(refine mvT ?_;conv=>whnf)|(refine mvF ?_;conv=>whnf)|(refine cT (by rfl) ?_;conv=>whnf)|(refine cF (by rfl) ?_;conv=>whnf)))
              generalize hm13 : m12 ++ (tgsB fx (x2).u) = m13 at hA
              have hl13 : m13.length = m12.length + (tgsB fx (x2).u).length := by rw [← hm13, List.length_append]
              have hfin : m9 ++ (bFetchSnapshotResponseNodeEndpoint v fx) x2 = m13 := by unfold bFetchSnapshotResponseNodeEndpoint; simp only [← hm13, ← hm12, ← hm11, ← hm10, List.append_assoc, List.nil_append, List.append_nil]
              refine ⟨(i2 + 1, r), ⟨rfl, rfl, rfl, rfl, rfl, rfl, rfl, rfl, rfl, rfl, rfl, rfl, inc_eq (by rw [maxLen_eq] at hkm3; omega), trivial⟩, ⟨by simp only; omega, ?_⟩, by simp only; omega⟩
              rw [hft, ← List.append_assoc, hm9, hfin]
              exact hA
            have hil : i2 = l3.length := by have := of_decide_eq_false h9; simp only at this; omega
            ((conv=>whnf);repeat(first|(refine mvT ?_;conv=>whnf)|(refine mvF ?_;conv=>whnf)|(refine cT (by rfl) ?_;conv=>whnf)|(refine cF (by rfl) ?_;conv=>whnf)))
            rw [hil, hll3, List.take_length] at hA
            generalize hm9 : m8 ++ ((lsT (atT t 3)).flatMap (bFetchSnapshotResponseNodeEndpoint v fx)) = m9 at hA
            have hl9 : m9.length = m8.length + ((lsT (atT t 3)).flatMap (bFetchSnapshotResponseNodeEndpoint v fx)).length := by rw [← hm9, List.length_append]
            rw [show m9 = m7 ++ (arA fx (lsT (atT t 3)).length ++ (lsT (atT t 3)).flatMap (bFetchSnapshotResponseNodeEndpoint v fx)) by simp only [← hm9, ← hm8, List.append_assoc, List.nil_append, List.append_nil]] at hA
            obtain ⟨ar, cr, rfl, _, _⟩ := hA.ob.shape
            refine VD.draw mixed (.q 0 (.q 1 (.q 2 (.q 3 (.q 4 (.q 5 (.q 6 (.q 7 (.eff 8 [] (.eff 9 [] (.done))))))))))) (by kernel_rfl) ?_;((conv=>whnf);repeat(first|(refine mvT ?_;conv=>whnf)|(refine mvF ?_;conv=>whnf)|(refine cT (by rfl) ?_;conv=>whnf)|(refine cF (by rfl) ?_;conv=>whnf)))
            replace hA := hA.e0 (ext_drew _)
            refine cut_back hA rfl ?_
            refine cut_rest hA rfl ?_
            intro ax kx
            ((conv=>whnf);repeat(first|(refine mvT ?_;conv=>whnf)|(refine mvF ?_;conv=>whnf)|(refine cT (by rfl) ?_;conv=>whnf)|(refine cF (by rfl) ?_;conv=>whnf)))
            rw [u32_nat (by rw [← hnp0]; omega)]
            refine Does.mono (AppendUvarint_does hA.cut.ob (Nat.le_trans hB hA.size) (arA fx (lsT (atT t 3)).length ++ (lsT (atT t 3)).flatMap (bFetchSnapshotResponseNodeEndpoint v fx)).length (by omega) (by simp only [List.length_append]; omega)) ?_;rintro r w h;((conv=>whnf);repeat(first|(refine mvT ?_;conv=>whnf)|(refine mvF ?_;conv=>whnf)|(refine cT (by rfl) ?_;conv=>whnf)|(refine cF (by rfl) ?_;conv=>whnf)))
            replace hA := hA.cut.tr h
            clear h
            ((conv=>whnf);repeat(first|(refine mvT ?_;conv=>whnf)|(refine mvF ?_;conv=>whnf)|(refine cT (by rfl) ?_;conv=>whnf)|(refine cF (by rfl) ?_;conv=>whnf)))
            refine VO.goto ?_
            refine ⟨r, ⟨rfl, rfl, rfl, rfl, rfl, rfl, rfl, rfl, rfl, rfl, trivial⟩, ?_⟩
            rw [hnp0]
            exact hA
          · clear hA
            rintro r w hA
            ((conv=>whnf);repeat(first|(refine mvT ?_;conv=>whnf)|(refine mvF ?_;conv=>whnf)|(refine cT (by rfl) ?_;conv=>whnf)|(refine cF (by rfl) ?_;conv=>whnf)))
            generalize hm8 : m7 ++ (uvar np) = m8 at hA
            have hl8 : m8.length = m7.length + (uvar np).length := by rw [← hm8, List.length_append]
            have hml3 := lsT_len (hok.1 3 _ rfl)
            (refine mvB ?_;((conv=>whnf);repeat(first|(refine mvT ?_;conv=>whnf)|(refine mvF ?_;conv=>whnf)|(refine cT (by rfl) ?_;conv=>whnf)|(refine cF (by rfl) ?_;conv=>whnf))))
            refine VC.cutE (fun r => [(1, r), (0, .pointer (some ⟨p, 0, none⟩)), (5, .int .i16 v), (6, .bool fx), (299, (.slice (some ⟨ge, 0, none⟩) ks.length ke)), (300, .int .i64 ks.length), (301, .int .i64 ii), (36, .bool true), (37, .int .i64 ((l ++ m7).length : Nat)), (35, .slice a3 l3.length k3)]) (fun r w' => Apd w0 B x l (m8 ++ (arA fx (lsT (atT t 3)).length)) r w') ?_ ?_
            · refine cI (by rfl) (fun hc=>?_) (fun hc=>?_)
              · ((conv=>whnf);repeat(first|(refine mvT ?_;conv=>whnf)|(refine mvF ?_;conv=>whnf)|(refine cT (by rfl) ?_;conv=>whnf)|(refine cF (by rfl) ?_;conv=>whnf)))
                refine Does.mono (AppendCompactArrayLen_does hA.ob (Nat.le_trans hB hA.size) (by simp only [List.length_append]; omega) l3.length (by omega)) ?_;rintro r w h;((conv=>whnf);repeat(first|(refine mvT ?_;conv=>whnf)|(refine mvF ?_;conv=>whnf)|(refine cT (by rfl) ?_;conv=>whnf)|(refine cF (by rfl) ?_;conv=>whnf)))
                rw [hll3] at h
                replace hA := hA.tr h
                clear h
                refine ⟨_, ⟨rfl, rfl, rfl, rfl, rfl, rfl, rfl, rfl, rfl, rfl, trivial⟩, ?_⟩
                rw [hc]
                exact hA
              · ((conv=>whnf);repeat(first|(refine mvT ?_;conv=>whnf)|(refine mvF ?_;conv=>whnf)|(refine cT (by rfl) ?_;conv=>whnf)|(refine cF (by rfl) ?_;conv=>whnf)))
                refine Does.mono (AppendArrayLen_does hA.ob (Nat.le_trans hB hA.size) (by simp only [List.length_append]; omega) l3.length) ?_;rintro r w h;((conv=>whnf);repeat(first|(refine mvT ?_;conv=>whnf)|(refine mvF ?_;conv=>whnf)|(refine cT (by rfl) ?_;conv=>whnf)|(refine cF (by rfl) ?_;conv=>whnf)))
                rw [hll3] at h
                replace hA := hA.tr h
                clear h
                refine ⟨_, ⟨rfl, rfl, rfl, rfl, rfl, rfl, rfl, rfl, rfl, rfl, trivial⟩, ?_⟩
                rw [hc]
                exact hA
            clear hA
            rintro r w hA
            ((conv=>whnf);repeat(first|(refine mvT ?_;conv=>whnf)|(refine mvF ?_;conv=>whnf)|(refine cT (by rfl) ?_;conv=>whnf)|(refine cF (by rfl) ?_;conv=>whnf)))
            generalize hm9 : m8 ++ (arA fx (lsT (atT t 3)).length) = m9 at hA
            have hl9 : m9.length = m8.length + (arA fx (lsT (atT t 3)).length).length := by rw [← hm9, List.length_append]
            refine VL.loop (fun s : Nat × Value => [(1, s.2), (0, .pointer (some ⟨p, 0, none⟩)), (5, .int .i16 v), (6, .bool fx), (299, (.slice (some ⟨ge, 0, none⟩) ks.length ke)), (300, .int .i64 ks.length), (301, .int .i64 ii), (36, .bool true), (37, .int .i64 ((l ++ m7).length : Nat)), (35, .slice a3 l3.length k3), (325, .slice a3 l3.length k3), (326, .int .i64 l3.length), (327, .int .i64 s.1)])
              (fun s w' => s.1 ≤ l3.length ∧ Apd w0 B x l (m9 ++ ((lsT (atT t 3)).take s.1).flatMap (bFetchSnapshotResponseNodeEndpoint v fx)) s.2 w') (fun s => l3.length - s.1) (0, r) ⟨rfl, rfl, rfl, rfl, rfl, rfl, rfl, rfl, rfl, rfl, rfl, rfl, rfl, trivial⟩ ⟨Nat.zero_le _, by rw [List.take_zero, List.flatMap_nil, List.append_nil]; exact hA⟩ ?_
            clear hA
            rintro ⟨i2, r⟩ w ⟨hi2, hA⟩
            dsimp only at hi2 hA
            ((conv=>whnf);repeat(first|(refine mvT ?_;conv=>whnf)|(refine mvF ?_;conv=>whnf)|(refine cT (by rfl) ?_;conv=>whnf)|(refine cF (by rfl) ?_;conv=>whnf)))
            refine cI (by rfl) (fun h9=>?_) (fun h9=>?_)
            · have hil : i2 < l3.length := by have := of_decide_eq_true h9; simp only at this; omega
              have hiL2 : i2 < (lsT (atT t 3)).length := by omega
              obtain ⟨hft, hfl⟩ := flat_take (bFetchSnapshotResponseNodeEndpoint v fx) (lsT (atT t 3)) i2 hiL2
              obtain ⟨b3, o3, rfl, hF3, hb3, hce3⟩ := hcl3 i2 l3[i2] (by simp [hil])
              have hre3 := hrl3 i2 l3[i2] ((lsT (atT t 3))[i2]) (by simp [hil]) (by simp [hiL2])
              have hlo3 := lsT_ok (hok.1 3 _ rfl) ((lsT (atT t 3))[i2]) (List.getElem_mem hiL2)
              generalize hm10 : m9 ++ ((lsT (atT t 3)).take i2).flatMap (bFetchSnapshotResponseNodeEndpoint v fx) = m10 at hA
              have hl10 : m10.length = m9.length + (((lsT (atT t 3)).take i2).flatMap (bFetchSnapshotResponseNodeEndpoint v fx)).length := by rw [← hm10, List.length_append]
              obtain ⟨x2, hx2⟩ : ∃ y, y = (lsT (atT t 3))[i2] := ⟨_, rfl⟩
              rw [← hx2] at hft hfl hre3 hlo3
              obtain ⟨m2_, hcells, hm2_⟩ := hre3
              rw [hcells] at hce3
              have hok2_ := hlo3.2.2 rfl
              have hgl : (bFetchSnapshotResponseNodeEndpoint v fx x2).length = (bFetchSnapshotResponseNodeEndpoint v fx x2).length := rfl
              conv at hgl => rhs; unfold bFetchSnapshotResponseNodeEndpoint
              simp only [List.length_append, List.length_nil] at hgl
              ((conv=>whnf);repeat(first|(refine mvT ?_;conv=>whnf)|(refine mvF ?_;conv=>whnf)|(refine cT (by rfl) ?_;conv=>whnf)|(refine cF (by rfl) ?_;conv=>whnf)))
              refine ⟨b3, o3, rfl, ⟨by omega, by omega⟩, ?_⟩
              ((conv=>whnf);repeat(first|(refine mvT ?_;conv=>whnf)|(refine mvF ?_;conv=>whnf)|(refine cT (by rfl) ?_;conv=>whnf)|(refine cF (by rfl) ?_;conv=>whnf)))
              refine VC.cutE (fun r => [(1, r), (0, .pointer (some ⟨p, 0, none⟩)), (5, .int .i16 v), (6, .bool fx), (299, (.slice (some ⟨ge, 0, none⟩) ks.length ke)), (300, .int .i64 ks.length), (301, .int .i64 ii), (36, .bool true), (37, .int .i64 ((l ++ m7).length : Nat)), (35, .slice (some ⟨b3, o3, none⟩) l3.length k3), (325, .slice (some ⟨b3, o3, none⟩) l3.length k3), (326, .int .i64 l3.length), (327, .int .i64 i2), (39, .pointer (some ⟨b3, o3 + i2 * 4, none⟩))]) (fun r w' => Apd w0 B x l (m10 ++ ((if (decide (1 ≤ v) && (decide ((-1 : Int) < 0) || decide (v ≤ (-1)))) = true then fixed (atT x2 0).n 4 else []))) r w') ?_ ?_
              · refine cI (by rfl) (fun hcv=>?_) (fun hcv=>?_)
                · ((conv=>whnf);repeat(first|(refine mvT ?_;conv=>whnf)|(refine mvF ?_;conv=>whnf)|(refine cT (by rfl) ?_;conv=>whnf)|(refine cF (by rfl) ?_;conv=>whnf)))
                  refine ⟨_, ld ((hce3.ext hA.ext (hFx _ hb3 hF3)).cell (j := 0) rfl) (by simp <;> omega), ?_⟩; ((conv=>whnf);repeat(first|(refine mvT ?_;conv=>whnf)|(refine mvF ?_;conv=>whnf)|(refine cT (by rfl) ?_;conv=>whnf)|(refine cF (by rfl) ?_;conv=>whnf)))
                  refine Does.mono (AppendInt32_does hA.ob (Nat.le_trans hB hA.size) (by simp only [List.length_append]; omega) _) ?_;rintro r w h;((conv=>whnf);repeat(first|(refine mvT ?_;conv=>whnf)|(refine mvF ?_;conv=>whnf)|(refine cT (by rfl) ?_;conv=>whnf)|(refine cF (by rfl) ?_;conv=>whnf)))
                  rw [fixed4_mod (wrap_i32m _)] at h
                  replace hA := hA.tr h
                  clear h
                  generalize hm11 : m10 ++ (fixed (atT x2 0).n 4) = m11 at hA
                  have hl11 : m11.length = m10.length + (fixed (atT x2 0).n 4).length := by rw [← hm11, List.length_append]
                  refine ⟨_, ⟨rfl, rfl, rfl, rfl, rfl, rfl, rfl, rfl, rfl, rfl, rfl, rfl, rfl, rfl, trivial⟩, ?_⟩
                  rw [if_pos (by simp only [ge_iff_le, decide_eq_true_eq] at hcv; simp; omega)]
                  rw [hm11]
                  exact hA
                · ((conv=>whnf);repeat(first|(refine mvT ?_;conv=>whnf)|(refine mvF ?_;conv=>whnf)|(refine cT (by rfl) ?_;conv=>whnf)|(refine cF (by rfl) ?_;conv=>whnf)))
                  refine ⟨_, ⟨rfl, rfl, rfl, rfl, rfl, rfl, rfl, rfl, rfl, rfl, rfl, rfl, rfl, rfl, trivial⟩, ?_⟩
                  rw [if_neg (by simp only [ge_iff_le, decide_eq_false_iff_not] at hcv; simp; omega), List.append_nil]
                  exact hA
              clear hA
              rintro r w hA
              ((conv=>whnf);repeat(first|(refine mvT ?_;conv=>whnf)|(refine mvF ?_;conv=>whnf)|(refine cT (by rfl) ?_;conv=>whnf)|(refine cF (by rfl) ?_;conv=>whnf)))
              generalize hm11 : m10 ++ ((if (decide (1 ≤ v) && (decide ((-1 : Int) < 0) || decide (v ≤ (-1)))) = true then fixed (atT x2 0).n 4 else [])) = m11 at hA
              have hl11 : m11.length = m10.length + ((if (decide (1 ≤ v) && (decide ((-1 : Int) < 0) || decide (v ≤ (-1)))) = true then fixed (atT x2 0).n 4 else [])).length := by rw [← hm11, List.length_append]
              refine VC.cutE (fun r => [(1, r), (0, .pointer (some ⟨p, 0, none⟩)), (5, .int .i16 v), (6, .bool fx), (299, (.slice (some ⟨ge, 0, none⟩) ks.length ke)), (300, .int .i64 ks.length), (301, .int .i64 ii), (36, .bool true), (37, .int .i64 ((l ++ m7).length : Nat)), (35, .slice (some ⟨b3, o3, none⟩) l3.length k3), (325, .slice (some ⟨b3, o3, none⟩) l3.length k3), (326, .int .i64 l3.length), (327, .int .i64 i2), (39, .pointer (some ⟨b3, o3 + i2 * 4, none⟩))]) (fun r w' => Apd w0 B x l (m11 ++ ((if (decide (1 ≤ v) && (decide ((-1 : Int) < 0) || decide (v ≤ (-1)))) = true then txA fx (atT x2 1).s else []))) r w') ?_ ?_
              · refine cI (by rfl) (fun hcv=>?_) (fun hcv=>?_)
                · ((conv=>whnf);repeat(first|(refine mvT ?_;conv=>whnf)|(refine mvF ?_;conv=>whnf)|(refine cT (by rfl) ?_;conv=>whnf)|(refine cF (by rfl) ?_;conv=>whnf)))
                  refine ⟨_, ld ((hce3.ext hA.ext (hFx _ hb3 hF3)).cell (j := 1) rfl) (by simp <;> omega), ?_⟩; ((conv=>whnf);repeat(first|(refine mvT ?_;conv=>whnf)|(refine mvF ?_;conv=>whnf)|(refine cT (by rfl) ?_;conv=>whnf)|(refine cF (by rfl) ?_;conv=>whnf)))
                  have hsl := fieldOK_text (hok2_.1 1 _ rfl)
                  (refine mvB ?_;((conv=>whnf);repeat(first|(refine mvT ?_;conv=>whnf)|(refine mvF ?_;conv=>whnf)|(refine cT (by rfl) ?_;conv=>whnf)|(refine cF (by rfl) ?_;conv=>whnf))))
                  refine cI (by rfl) (fun hc=>?_) (fun hc=>?_)
                  · ((conv=>whnf);repeat(first|(refine mvT ?_;conv=>whnf)|(refine mvF ?_;conv=>whnf)|(refine cT (by rfl) ?_;conv=>whnf)|(refine cF (by rfl) ?_;conv=>whnf)))
                    refine Does.mono (AppendCompactString_does hA.ob (Nat.le_trans hB hA.size) _ (by omega) (by simp only [List.length_append]; omega)) ?_;rintro r w h;((conv=>whnf);repeat(first|(refine mvT ?_;conv=>whnf)|(refine mvF ?_;conv=>whnf)|(refine cT (by rfl) ?_;conv=>whnf)|(refine cF (by rfl) ?_;conv=>whnf)))
                    replace hA := hA.tr h
                    clear h
                    refine ⟨_, ⟨rfl, rfl, rfl, rfl, rfl, rfl, rfl, rfl, rfl, rfl, rfl, rfl, rfl, rfl, trivial⟩, ?_⟩
                    rw [if_pos (by simp only [ge_iff_le, decide_eq_true_eq] at hcv; simp; omega), hc]
                    exact hA
                  · ((conv=>whnf);repeat(first|(refine mvT ?_;conv=>whnf)|(refine mvF ?_;conv=>whnf)|(refine cT (by rfl) ?_;conv=>whnf)|(refine cF (by rfl) ?_;conv=>whnf)))
                    refine Does.mono (AppendString_does hA.ob (Nat.le_trans hB hA.size) _ (by simp only [List.length_append]; omega)) ?_;rintro r w h;((conv=>whnf);repeat(first|(refine mvT ?_;conv=>whnf)|(refine mvF ?_;conv=>whnf)|(refine cT (by rfl) ?_;conv=>whnf)|(refine cF (by rfl) ?_;conv=>whnf)))
                    replace hA := hA.tr h
                    clear h
                    refine ⟨_, ⟨rfl, rfl, rfl, rfl, rfl, rfl, rfl, rfl, rfl, rfl, rfl, rfl, rfl, rfl, trivial⟩, ?_⟩
                    rw [if_pos (by simp only [ge_iff_le, decide_eq_true_eq] at hcv; simp; omega), hc]
                    exact hA
                · ((conv=>whnf);repeat(first|(refine mvT ?_;conv=>whnf)|(refine mvF ?_;conv=>whnf)|(refine cT (by rfl) ?_;conv=>whnf)|(refine cF (by rfl) ?_;conv=>whnf)))
                  refine ⟨_, ⟨rfl, rfl, rfl, rfl, rfl, rfl, rfl, rfl, rfl, rfl, rfl, rfl, rfl, rfl, trivial⟩, ?_⟩
                  rw [if_neg (by simp only [ge_iff_le, decide_eq_false_iff_not] at hcv; simp; omega), List.append_nil]
                  exact hA
              clear hA
              rintro r w hA
              ((conv=>whnf);repeat(first|(refine mvT ?_;conv=>whnf)|(refine mvF ?_;conv=>whnf)|(refine cT (by rfl) ?_;conv=>whnf)|(refine cF (by rfl) ?_;conv=>whnf)))
              generalize hm12 : m11 ++ ((if (decide (1 ≤ v) && (decide ((-1 : Int) < 0) || decide (v ≤ (-1)))) = true then txA fx (atT x2 1).s else [])) = m12 at hA
              have hl12 : m12.length = m11.length + ((if (decide (1 ≤ v) && (decide ((-1 : Int) < 0) || decide (v ≤ (-1)))) = true then txA fx (atT x2 1).s else [])).length := by rw [← hm12, List.length_append]
              refine VC.cutE (fun r => [(1, r), (0, .pointer (some ⟨p, 0, none⟩)), (5, .int .i16 v), (6, .bool fx), (299, (.slice (some ⟨ge, 0, none⟩) ks.length ke)), (300, .int .i64 ks.length), (301, .int .i64 ii), (36, .bool true), (37, .int .i64 ((l ++ m7).length : Nat)), (35, .slice (some ⟨b3, o3, none⟩) l3.length k3), (325, .slice (some ⟨b3, o3, none⟩) l3.length k3), (326, .int .i64 l3.length), (327, .int .i64 i2), (39, .pointer (some ⟨b3, o3 + i2 * 4, none⟩))]) (fun r w' => Apd w0 B x l (m12 ++ ((if (decide (1 ≤ v) && (decide ((-1 : Int) < 0) || decide (v ≤ (-1)))) = true then fixed (atT x2 2).n 2 else []))) r w') ?_ ?_
              · refine cI (by rfl) (fun hcv=>?_) (fun hcv=>?_)
                · ((conv=>whnf);repeat(first|(refine mvT ?_;conv=>whnf)|(refine mvF ?_;conv=>whnf)|(refine cT (by rfl) ?_;conv=>whnf)|(refine cF (by rfl) ?_;conv=>whnf)))
                  refine ⟨_, ld ((hce3.ext hA.ext (hFx _ hb3 hF3)).cell (j := 2) rfl) (by simp <;> omega), ?_⟩; ((conv=>whnf);repeat(first|(refine mvT ?_;conv=>whnf)|(refine mvF ?_;conv=>whnf)|(refine cT (by rfl) ?_;conv=>whnf)|(refine cF (by rfl) ?_;conv=>whnf)))
                  refine Does.mono (AppendUint16_does hA.ob (Nat.le_trans hB hA.size) (by simp only [List.length_append]; omega) _) ?_;rintro r w h;((conv=>whnf);repeat(first|(refine mvT ?_;conv=>whnf)|(refine mvF ?_;conv=>whnf)|(refine cT (by rfl) ?_;conv=>whnf)|(refine cF (by rfl) ?_;conv=>whnf)))
                  rw [fixed2_mod (m := (atT x2 2).n) (by rw [wrap_u16]; omega)] at h
                  replace hA := hA.tr h
                  clear h
                  generalize hm13 : m12 ++ (fixed (atT x2 2).n 2) = m13 at hA
                  have hl13 : m13.length = m12.length + (fixed (atT x2 2).n 2).length := by rw [← hm13, List.length_append]
                  refine ⟨_, ⟨rfl, rfl, rfl, rfl, rfl, rfl, rfl, rfl, rfl, rfl, rfl, rfl, rfl, rfl, trivial⟩, ?_⟩
                  rw [if_pos (by simp only [ge_iff_le, decide_eq_true_eq] at hcv; simp; omega)]
                  rw [hm13]
                  exact hA
                · ((conv=>whnf);repeat(first|(refine mvT ?_;conv=>whnf)|(refine mvF ?_;conv=>whnf)|(refine cT (by rfl) ?_;conv=>whnf)|(refine cF (by rfl) ?_;conv=>whnf)))
                  refine ⟨_, ⟨rfl, rfl, rfl, rfl, rfl, rfl, rfl, rfl, rfl, rfl, rfl, rfl, rfl, rfl, trivial⟩, ?_⟩
                  rw [if_neg (by simp only [ge_iff_le, decide_eq_false_iff_not] at hcv; simp; omega), List.append_nil]
                  exact hA
              clear hA
              rintro r w hA
              ((conv=>whnf);repeat(first|(refine mvT ?_;conv=>whnf)|(refine mvF ?_;conv=>whnf)|(refine cT (by rfl) ?_;conv=>whnf)|(refine cF (by rfl) ?_;conv=>whnf)))
              generalize hm13 : m12 ++ ((if (decide (1 ≤ v) && (decide ((-1 : Int) < 0) || decide (v ≤ (-1)))) = true then fixed (atT x2 2).n 2 else [])) = m13 at hA
              have hl13 : m13.length = m12.length + ((if (decide (1 ≤ v) && (decide ((-1 : Int) < 0) || decide (v ≤ (-1)))) = true then fixed (atT x2 2).n 2 else [])).length := by rw [← hm13, List.length_append]
              (refine mvB ?_;((conv=>whnf);repeat(first|(refine mvT ?_;conv=>whnf)|(refine mvF ?_;conv=>whnf)|(refine cT (by rfl) ?_;conv=>whnf)|(refine cF (by rfl) ?_;conv=>whnf))))
              refine VC.cutB (fun r => [(1, r), (0, .pointer (some ⟨p, 0, none⟩)), (5, .int .i16 v), (6, .bool fx), (299, (.slice (some ⟨ge, 0, none⟩) ks.length ke)), (300, .int .i64 ks.length), (301, .int .i64 ii), (36, .bool true), (37, .int .i64 ((l ++ m7).length : Nat)), (35, .slice (some ⟨b3, o3, none⟩) l3.length k3), (325, .slice (some ⟨b3, o3, none⟩) l3.length k3), (326, .int .i64 l3.length), (327, .int .i64 i2), (39, .pointer (some ⟨b3, o3 + i2 * 4, none⟩))]) (fun r w' => Apd w0 B x l (m13 ++ (tgsB fx (x2).u)) r w') ?_ ?_
              · refine cI (by rfl) (fun hc=>?_) (fun hc=>?_)
                · ((conv=>whnf);repeat(first|(refine mvT ?_;conv=>whnf)|(refine mvF ?_;conv=>whnf)|(refine cT (by rfl) ?_;conv=>whnf)|(refine cF (by rfl) ?_;conv=>whnf)))
                  have hul := hok2_.2.len
                  refine Does.mono (Tags_Len_does (ld ((hce3.ext hA.ext (hFx _ hb3 hF3)).cell (j := 3) rfl) (by simp <;> omega)) (hm2_.ext hA.ext hFx)) ?_;rintro r w ⟨rfl, rfl⟩;((conv=>whnf);repeat(first|(refine mvT ?_;conv=>whnf)|(refine mvF ?_;conv=>whnf)|(refine cT (by rfl) ?_;conv=>whnf)|(refine cF (by rfl) ?_;conv=>whnf)))
                  rw [u32_add0 (by omega)]
                  refine Does.mono (AppendUvarint_does hA.ob (Nat.le_trans hB hA.size) (x2).u.length (by omega) (by simp only [List.length_append]; omega)) ?_;rintro r w h;((conv=>whnf);repeat(first|(refine mvT ?_;conv=>whnf)|(refine mvF ?_;conv=>whnf)|(refine cT (by rfl) ?_;conv=>whnf)|(refine cF (by rfl) ?_;conv=>whnf)))
                  have hul2 := uvar10 (n := (x2).u.length) (by omega)
                  replace hA := hA.tr h
                  clear h
                  refine Does.mono (AppendEach_does (ld ((hce3.ext hA.ext (hFx _ hb3 hF3)).cell (j := 3) rfl) (by simp <;> omega)) (hm2_.ext hA.ext hFx) hok2_.2 hA.ob (Nat.le_trans hB hA.size) (hA.ne (hFR _ hF3).2 (hFR _ hF3).1) (fun j _ hf => hA.ne (hFR j hf).2 (hFR j hf).1) (by simp only [List.length_append]; omega)) ?_;rintro r w h;((conv=>whnf);repeat(first|(refine mvT ?_;conv=>whnf)|(refine mvF ?_;conv=>whnf)|(refine cT (by rfl) ?_;conv=>whnf)|(refine cF (by rfl) ?_;conv=>whnf)))
                  replace hA := hA.tr h
                  clear h
                  refine ⟨_, ⟨rfl, rfl, rfl, rfl, rfl, rfl, rfl, rfl, rfl, rfl, rfl, rfl, rfl, rfl, trivial⟩, ?_⟩
                  rw [tgsB, if_pos hc, ← List.append_assoc]
                  exact hA
                · ((conv=>whnf);repeat(first|(refine mvT ?_;conv=>whnf)|(refine mvF ?_;conv=>whnf)|(refine cT (by rfl) ?_;conv=>whnf)|(refine cF (by rfl) ?_;conv=>whnf)))
                  refine ⟨_, ⟨rfl, rfl, rfl, rfl, rfl, rfl, rfl, rfl, rfl, rfl, rfl, rfl, rfl, rfl, trivial⟩, ?_⟩
                  rw [tgsB, if_neg (by rw [hc]; decide), List.append_nil]
                  exact hA
              clear hA
              rintro r w hA
              ((conv=>whnf);repeat(first|(refine mvT ?_;conv=>whnf)|(refine mvF ?_;conv=>whnf)|(refine cT (by rfl) ?_;conv=>whnf)|(refine cF (by rfl) ?_;conv=>whnf)))
              generalize hm14 : m13 ++ (tgsB fx (x2).u) = m14 at hA
              have hl14 : m14.length = m13.length + (tgsB fx (x2).u).length := by rw [← hm14, List.length_append]
              have hfin : m10 ++ (bFetchSnapshotResponseNodeEndpoint v fx) x2 = m14 := by unfold bFetchSnapshotResponseNodeEndpoint; simp only [← hm14, ← hm13, ← hm12, ← hm11, List.append_assoc, List.nil_append, List.append_nil]
              refine ⟨(i2 + 1, r), ⟨rfl, rfl, rfl, rfl, rfl, rfl, rfl, rfl, rfl, rfl, rfl, rfl, inc_eq (by rw [maxLen_eq] at hkm3; omega), trivial⟩, ⟨by simp only; omega, ?_⟩, by simp only; omega⟩
              rw [hft, ← List.append_assoc, hm10, hfin]
              exact hA
            have hil : i2 = l3.length := by have := of_decide_eq_false h9; simp only at this; omega
            ((conv=>whnf);repeat(first|(refine mvT ?_;conv=>whnf)|(refine mvF ?_;conv=>whnf)|(refine cT (by rfl) ?_;conv=>whnf)|(refine cF (by rfl) ?_;conv=>whnf)))
            rw [hil, hll3, List.take_length] at hA
            generalize hm10 : m9 ++ ((lsT (atT t 3)).flatMap (bFetchSnapshotResponseNodeEndpoint v fx)) = m10 at hA
            have hl10 : m10.length = m9.length + ((lsT (atT t 3)).flatMap (bFetchSnapshotResponseNodeEndpoint v fx)).length := by rw [← hm10, List.length_append]
            have hfin : m10 = uvar 0 ++ (uvar np ++ (arA fx (lsT (atT t 3)).length ++ (lsT (atT t 3)).flatMap (bFetchSnapshotResponseNodeEndpoint v fx))) := by simp only [← hm10, ← hm9, ← hm8, ← hm7, hm6, List.append_assoc, List.nil_append, List.append_nil]
            refine ⟨(ii + 1, r), ⟨rfl, rfl, rfl, rfl, rfl, rfl, inc_eq (by omega), trivial⟩, ⟨by simp only; omega, ?_, ?_, ?_⟩, by simp only; omega⟩
            · have hA1 := hA
              rw [hfin, hlI] at hA1
              have h := hA0.tr hA1
              rw [hft, ← List.append_assoc]
              exact h
            · exact hos.ext hA.ext fun k hk e => hsep k hk e
            · exact fun k hk => hA.ne (hsep k hk) (hos.own.lt k hk)
        · have := of_decide_eq_false hk0
          omega
      have hil : ii = ks.length := by have := of_decide_eq_false h9; simp only at this; omega
      ((conv=>whnf);repeat(first|(refine mvT ?_;conv=>whnf)|(refine mvF ?_;conv=>whnf)|(refine cT (by rfl) ?_;conv=>whnf)|(refine cF (by rfl) ?_;conv=>whnf)))
      rw [hil, List.take_length] at hA
      generalize hm6 : m5 ++ (ks.flatMap tb) = m6 at hA
      have hl6 : m6.length = m5.length + (ks.flatMap tb).length := by rw [← hm6, List.length_append]
      refine Does.mono (AppendEach_does ((hp.ext hA.ext hxp).cell rfl) (hm.ext hA.ext hFx) hok.2 hA.ob (Nat.le_trans hB hA.size) (hA.ne hxp hpl) (fun j _ hf => hA.ne (hFR j hf).2 (hFR j hf).1) (by simp only [List.length_append]; omega)) ?_;rintro r w h;((conv=>whnf);repeat(first|(refine mvT ?_;conv=>whnf)|(refine mvF ?_;conv=>whnf)|(refine cT (by rfl) ?_;conv=>whnf)|(refine cF (by rfl) ?_;conv=>whnf)))
      replace hA := hA.tr h
      clear h
      generalize hm7 : m6 ++ ((t).u.flatMap tagB) = m7 at hA
      have hl7 : m7.length = m6.length + ((t).u.flatMap tagB).length := by rw [← hm7, List.length_append]
      refine ⟨_, ⟨rfl, rfl, rfl, rfl, trivial⟩, ?_⟩
      rw [if_pos hc, hgq, hgf, show m4 ++ (uvar (ks.length + (t).u.length) ++ (ks.flatMap tb ++ (t).u.flatMap tagB)) = m7 by simp only [← hm7, ← hm6, ← hm5, List.append_assoc]]
      exact hA
    · ((conv=>whnf);repeat(first|(refine mvT ?_;conv=>whnf)|(refine mvF ?_;conv=>whnf)|(refine cT (by rfl) ?_;conv=>whnf)|(refine cF (by rfl) ?_;conv=>whnf)))
      refine ⟨_, ⟨rfl, rfl, rfl, rfl, trivial⟩, ?_⟩
      rw [if_neg (by rw [hc]; decide), List.append_nil]
      exact hA
  clear hA
  rintro r w hA
  ((conv=>whnf);repeat(first|(refine mvT ?_;conv=>whnf)|(refine mvF ?_;conv=>whnf)|(refine cT (by rfl) ?_;conv=>whnf)|(refine cF (by rfl) ?_;conv=>whnf)))
  generalize hm5 : m4 ++ ((if fx = true then uvar ((gFetchSnapshotResponse v fx t).length + (t).u.length) ++ ((gFetchSnapshotResponse v fx t).flatMap tagB ++ (t).u.flatMap tagB) else [])) = m5 at hA
  have hl5 : m5.length = m4.length + ((if fx = true then uvar ((gFetchSnapshotResponse v fx t).length + (t).u.length) ++ ((gFetchSnapshotResponse v fx t).flatMap tagB ++ (t).u.flatMap tagB) else [])).length := by rw [← hm5, List.length_append]
  show Apd w0 B x l _ r w
  rw [show bFetchSnapshotResponse v fx t = m5 by unfold bFetchSnapshotResponse; simp only [← hm5, ← hm4, ← hm3, ← hm2, ← hm1, hm0, List.append_assoc, List.nil_append, List.append_nil]]
  exact hA
theorem qFetchSnapshotResponseTopicPartitionSnapshotID {w : World} {F : Nat → Prop} {cs : List Value} {t : T} (h : QPart true 6 dFetchSnapshotResponseTopicPartitionSnapshotID ⟨w, F⟩ cs t) : rFetchSnapshotResponseTopicPartitionSnapshotID w F cs t := by
  obtain ⟨_, _, u_, m, rfl, rfl, hA0, hm⟩ := iP h
  clear h
  obtain ⟨cc0, _, x0, _, rfl, rfl, h0, hA1⟩ := iA hA0
  obtain ⟨n0, rfl, rfl⟩ := iF4 h0
  obtain ⟨cc1, _, x1, _, rfl, rfl, h1, hA2⟩ := iA hA1
  obtain ⟨n1, rfl, rfl⟩ := iF3 h1
  obtain ⟨rfl, rfl⟩ := hA2
  exact ⟨m, rfl, hm⟩
theorem qFetchSnapshotResponseTopicPartitionCurrentLeader {w : World} {F : Nat → Prop} {cs : List Value} {t : T} (h : QPart true 6 dFetchSnapshotResponseTopicPartitionCurrentLeader ⟨w, F⟩ cs t) : rFetchSnapshotResponseTopicPartitionCurrentLeader w F cs t := by
  obtain ⟨_, _, u_, m, rfl, rfl, hA0, hm⟩ := iP h
  clear h
  obtain ⟨cc0, _, x0, _, rfl, rfl, h0, hA1⟩ := iA hA0
  obtain ⟨n0, rfl, rfl⟩ := iF3 h0
  obtain ⟨cc1, _, x1, _, rfl, rfl, h1, hA2⟩ := iA hA1
  obtain ⟨n1, rfl, rfl⟩ := iF3 h1
  obtain ⟨rfl, rfl⟩ := hA2
  exact ⟨m, rfl, hm⟩
theorem qFetchSnapshotResponseTopicPartition {w : World} {F : Nat → Prop} {cs : List Value} {t : T} (h : QPart true 7 dFetchSnapshotResponseTopicPartition ⟨w, F⟩ cs t) : rFetchSnapshotResponseTopicPartition w F cs t := by
  obtain ⟨_, _, u_, m, rfl, rfl, hA0, hm⟩ := iP h
  clear h
  obtain ⟨cc0, _, x0, _, rfl, rfl, h0, hA1⟩ := iA hA0
  obtain ⟨n0, rfl, rfl⟩ := iF3 h0
  obtain ⟨cc1, _, x1, _, rfl, rfl, h1, hA2⟩ := iA hA1
  obtain ⟨n1, rfl, rfl⟩ := iF2 h1
  obtain ⟨cc2, _, x2, _, rfl, rfl, h2, hA3⟩ := iA hA2
  have hh2 := qFetchSnapshotResponseTopicPartitionSnapshotID (show QPart true 6 dFetchSnapshotResponseTopicPartitionSnapshotID ⟨w, F⟩ cc2 x2 from h2)
  obtain ⟨c2_0, c2_1, c2_2, rfl⟩ : ∃ c2_0 c2_1 c2_2, cc2 = [c2_0, c2_1, c2_2] := by
    match cc2, rFetchSnapshotResponseTopicPartitionSnapshotID_len hh2 with
    | [c2_0, c2_1, c2_2], _ => exact ⟨c2_0, c2_1, c2_2, rfl⟩
  obtain ⟨cc3, _, x3, _, rfl, rfl, h3, hA4⟩ := iA hA3
  have hh3 := qFetchSnapshotResponseTopicPartitionCurrentLeader (show QPart true 6 dFetchSnapshotResponseTopicPartitionCurrentLeader ⟨w, F⟩ cc3 x3 from h3)
  obtain ⟨c3_0, c3_1, c3_2, rfl⟩ : ∃ c3_0 c3_1 c3_2, cc3 = [c3_0, c3_1, c3_2] := by
    match cc3, rFetchSnapshotResponseTopicPartitionCurrentLeader_len hh3 with
    | [c3_0, c3_1, c3_2], _ => exact ⟨c3_0, c3_1, c3_2, rfl⟩
  obtain ⟨cc4, _, x4, _, rfl, rfl, h4, hA5⟩ := iA hA4
  obtain ⟨n4, rfl, rfl⟩ := iF4 h4
  obtain ⟨cc5, _, x5, _, rfl, rfl, h5, hA6⟩ := iA hA5
  obtain ⟨n5, rfl, rfl⟩ := iF4 h5
  obtain ⟨cc6, _, x6, _, rfl, rfl, h6, hA7⟩ := iA hA6
  obtain ⟨c6, rfl, hh6⟩ := iF9 h6
  obtain ⟨rfl, rfl⟩ := hA7
  exact ⟨c2_0, c2_1, c2_2, c3_0, c3_1, c3_2, c6, m, rfl, hh2, hh3, hh6, hm⟩
theorem qFetchSnapshotResponseTopic {w : World} {F : Nat → Prop} {cs : List Value} {t : T} (h : QPart true 8 dFetchSnapshotResponseTopic ⟨w, F⟩ cs t) : rFetchSnapshotResponseTopic w F cs t := by
  obtain ⟨_, _, u_, m, rfl, rfl, hA0, hm⟩ := iP h
  clear h
  obtain ⟨cc0, _, x0, _, rfl, rfl, h0, hA1⟩ := iA hA0
  obtain ⟨n0, rfl, rfl⟩ := iF8 (by decide) h0
  obtain ⟨cc1, _, x1, _, rfl, rfl, h1, hA2⟩ := iA hA1
  obtain ⟨c1, rfl, hh1⟩ := iF11 (tg := true) (d := 7) (wf := ⟨w, F⟩) (of := 10) (sub := dFetchSnapshotResponseTopicPartition) (sz := 12) (R := (rFetchSnapshotResponseTopicPartition w F)) rfl (fun c y hc => qFetchSnapshotResponseTopicPartition hc) h1
  obtain ⟨rfl, rfl⟩ := hA2
  exact ⟨c1, m, rfl, hh1, hm⟩
theorem qFetchSnapshotResponseNodeEndpoint {w : World} {F : Nat → Prop} {cs : List Value} {t : T} (h : QPart true 8 dFetchSnapshotResponseNodeEndpoint ⟨w, F⟩ cs t) : rFetchSnapshotResponseNodeEndpoint w F cs t := by
  obtain ⟨_, _, u_, m, rfl, rfl, hA0, hm⟩ := iP h
  clear h
  obtain ⟨cc0, _, x0, _, rfl, rfl, h0, hA1⟩ := iA hA0
  obtain ⟨n0, rfl, rfl⟩ := iF3 h0
  obtain ⟨cc1, _, x1, _, rfl, rfl, h1, hA2⟩ := iA hA1
  obtain ⟨n1, rfl, rfl⟩ := iF8 (by decide) h1
  obtain ⟨cc2, _, x2, _, rfl, rfl, h2, hA3⟩ := iA hA2
  obtain ⟨n2, rfl, rfl⟩ := iF5 h2
  obtain ⟨rfl, rfl⟩ := hA3
  exact ⟨m, rfl, hm⟩
theorem qFetchSnapshotResponse {w : World} {F : Nat → Prop} {cs : List Value} {t : T} (h : QPart true 9 dFetchSnapshotResponse ⟨w, F⟩ cs t) : ∃ c2 c3 m, cs = [.int .i32 (IntKind.i32.wrap (atT t 0).n), .int .i16 (IntKind.i16.wrap (atT t 1).n), c2, c3, m] ∧ ListR true 3 (rFetchSnapshotResponseTopic w F) w F c2 (atT t 2) ∧ ListR true 4 (rFetchSnapshotResponseNodeEndpoint w F) w F c3 (atT t 3) ∧ TagsR w F m t.u := by
  obtain ⟨_, _, u_, m, rfl, rfl, hA0, hm⟩ := iP h
  clear h
  obtain ⟨cc0, _, x0, _, rfl, rfl, h0, hA1⟩ := iA hA0
  obtain ⟨n0, rfl, rfl⟩ := iF3 h0
  obtain ⟨cc1, _, x1, _, rfl, rfl, h1, hA2⟩ := iA hA1
  obtain ⟨n1, rfl, rfl⟩ := iF2 h1
  obtain ⟨cc2, _, x2, _, rfl, rfl, h2, hA3⟩ := iA hA2
  obtain ⟨c2, rfl, hh2⟩ := iF11 (tg := true) (d := 8) (wf := ⟨w, F⟩) (of := 10) (sub := dFetchSnapshotResponseTopic) (sz := 3) (R := (rFetchSnapshotResponseTopic w F)) rfl (fun c y hc => qFetchSnapshotResponseTopic hc) h2
  obtain ⟨cc3, _, x3, _, rfl, rfl, h3, hA4⟩ := iA hA3
  obtain ⟨c3, rfl, hh3⟩ := iF11 (tg := true) (d := 8) (wf := ⟨w, F⟩) (of := 10) (sub := dFetchSnapshotResponseNodeEndpoint) (sz := 4) (R := (rFetchSnapshotResponseNodeEndpoint w F)) rfl (fun c y hc => qFetchSnapshotResponseNodeEndpoint hc) h3
  obtain ⟨rfl, rfl⟩ := hA4
  exact ⟨c2, c3, m, rfl, hh2, hh3, hm⟩
theorem newFetchSnapshotResponse (w : World) : Does X.P 19 #[] w fun r w' => ∃ p, r = .pointer (some ⟨p, 0, none⟩) ∧ w.heap.size ≤ p ∧ Own w' p 74 [.int .i16 0, .int .i32 0, .int .i16 0, .slice none 0 0, .slice none 0 0, .map none] ∧ Ext nob w w' := by
  refine Does.go (X := X) (l := []) Tryz.func19 rfl (by kernel_rfl) (by kernel_rfl) _ rfl ?_
  ((conv=>whnf);repeat(first|(refine mvT ?_;conv=>whnf)|(refine mvF ?_;conv=>whnf)|(refine cT (by rfl) ?_;conv=>whnf)|(refine cF (by rfl) ?_;conv=>whnf)))
  intro p w1 hp ho hx
  ((conv=>whnf);repeat(first|(refine mvT ?_;conv=>whnf)|(refine mvF ?_;conv=>whnf)|(refine cT (by rfl) ?_;conv=>whnf)|(refine cF (by rfl) ?_;conv=>whnf)))
  refine Does.mono (dfFetchSnapshotResponse (pre := []) (cur := [.int .i16 0, .int .i32 0, .int .i16 0, .slice none 0 0, .slice none 0 0, .map none]) (post := []) (by simpa using ho) rfl rfl) ?_;rintro r2 w2 ⟨hd, hx2⟩;((conv=>whnf);repeat(first|(refine mvT ?_;conv=>whnf)|(refine mvF ?_;conv=>whnf)|(refine cT (by rfl) ?_;conv=>whnf)|(refine cF (by rfl) ?_;conv=>whnf)))
  exact ⟨p, rfl, hp, by simpa using hd, hx.st hx2 hp⟩
theorem maxFetchSnapshotResponse (w : World) : Does X.P 6 #[] w fun r w' => r = .int .i64 1 ∧ Ext nob w w' := by
  have hmax : ∀ (p : Nat) (w : World), Does X.P 20 #[.pointer (some ⟨p, 0, none⟩)] w fun r w' => r = .int .i16 1 ∧ w' = w := by
    intro p w
    refine Does.go (X := X) (l := [_]) Tryz.func20 rfl (by kernel_rfl) (by kernel_rfl) _ rfl ?_
    ((conv=>whnf);repeat(first|(refine mvT ?_;conv=>whnf)|(refine mvF ?_;conv=>whnf)|(refine cT (by rfl) ?_;conv=>whnf)|(refine cF (by rfl) ?_;conv=>whnf)))
    exact ⟨rfl, rfl⟩
  refine Does.go (X := X) (l := []) Tryz.func6 rfl (by kernel_rfl) (by kernel_rfl) _ rfl ?_
  ((conv=>whnf);repeat(first|(refine mvT ?_;conv=>whnf)|(refine mvF ?_;conv=>whnf)|(refine cT (by rfl) ?_;conv=>whnf)|(refine cF (by rfl) ?_;conv=>whnf)))
  refine Does.mono (newFetchSnapshotResponse w) ?_;rintro r1 w1 ⟨p, rfl, _, _, hx⟩;((conv=>whnf);repeat(first|(refine mvT ?_;conv=>whnf)|(refine mvF ?_;conv=>whnf)|(refine cT (by rfl) ?_;conv=>whnf)|(refine cF (by rfl) ?_;conv=>whnf)))
  refine Does.mono (hmax p w1) ?_;rintro r2 w2 ⟨rfl, rfl⟩;((conv=>whnf);repeat(first|(refine mvT ?_;conv=>whnf)|(refine mvF ?_;conv=>whnf)|(refine cT (by rfl) ?_;conv=>whnf)|(refine cF (by rfl) ?_;conv=>whnf)))
  exact ⟨rfl, hx⟩
theorem backFetchSnapshotResponse {G F : Nat → Prop} {w : World} {v : Int} {y x ev : Value} {l s : List UInt8} {t : T} (hL : Laid w ev) (hy : Bytes w F y l) (hx : Bytes w G x s) (hv : 0 ≤ v) (hv2 : v < 32768)
    (hrd : rdPart 9 v (decide (v ≥ 0)) dFetchSnapshotResponse (s, false) = (t, ([], false))) (hok : partOK 9 v dFetchSnapshotResponse t) (hs : s.length ≤ 100000000000000) (hl : l.length + (bFetchSnapshotResponse v (decide (v ≥ 0)) t).length ≤ 100000000000000) (hs32 : (bFetchSnapshotResponse v (decide (v ≥ 0)) t).length < 4294967296) :
    Does X.P 10 #[.int .i64 v, y, x] w fun r w' => ∃ o, r = .tuple #[o, .bool true] ∧ OB w' w.heap.size o (l ++ bFetchSnapshotResponse v (decide (v ≥ 0)) t) ∧ Ext nob w w' := by
  have hv16 : IntKind.i16.wrap v = v := by
    simp only [IntKind.wrap, IntKind.bits, IntKind.signed]
    simp
    omega
  obtain ⟨ay, cy, rfl, _⟩ := hy.view
  obtain ⟨ax, cx, rfl, _⟩ := hx.view
  have hy : Bytes w (fun k => F k ∧ k < w.heap.size) (.slice ay l.length cy) l := Sl.mono hy fun k h1 h2 => ⟨h2, h1⟩
  have hL1 := hL.lt
  refine Does.go (X := X) (l := [_, _, _]) Tryz.func10 rfl (by kernel_rfl) (by kernel_rfl) _ rfl ?_
  ((conv=>whnf);repeat(first|(refine mvT ?_;conv=>whnf)|(refine mvF ?_;conv=>whnf)|(refine cT (by rfl) ?_;conv=>whnf)|(refine cF (by rfl) ?_;conv=>whnf)))
  refine Does.mono (newFetchSnapshotResponse w) ?_;rintro r1 w1 ⟨p, rfl, hwp, hop, hx1⟩;((conv=>whnf);repeat(first|(refine mvT ?_;conv=>whnf)|(refine mvF ?_;conv=>whnf)|(refine cT (by rfl) ?_;conv=>whnf)|(refine cF (by rfl) ?_;conv=>whnf)))
  have hset : Does X.P 24 #[.pointer (some ⟨p, 0, none⟩), .int .i16 (IntKind.i16.wrap v)] w1 fun r w' => Own w' p 74 [.int .i16 v, .int .i32 0, .int .i16 0, .slice none 0 0, .slice none 0 0, .map none] ∧ Ext (fun k => k = p) w1 w' := by
    rw [hv16]
    refine Does.go (X := X) (l := [_, _]) Tryz.func24 rfl (by kernel_rfl) (by kernel_rfl) _ rfl ?_
    ((conv=>whnf);repeat(first|(refine mvT ?_;conv=>whnf)|(refine mvF ?_;conv=>whnf)|(refine cT (by rfl) ?_;conv=>whnf)|(refine cF (by rfl) ?_;conv=>whnf)))
    refine ⟨_, _, hop, rfl, rfl, rfl, ?_⟩
    intro w3 ho3 hx3
    ((conv=>whnf);repeat(first|(refine mvT ?_;conv=>whnf)|(refine mvF ?_;conv=>whnf)|(refine cT (by rfl) ?_;conv=>whnf)|(refine cF (by rfl) ?_;conv=>whnf)))
    exact ⟨ho3, hx3⟩
  refine Does.mono (hset) ?_;rintro r2 w2 ⟨hop2, hx2⟩;((conv=>whnf);repeat(first|(refine mvT ?_;conv=>whnf)|(refine mvF ?_;conv=>whnf)|(refine cT (by rfl) ?_;conv=>whnf)|(refine cF (by rfl) ?_;conv=>whnf)))
  have hx02 := hx1.st hx2 hwp
  refine app_bytes rfl rfl (OB.nil w2 w2.heap.size) (hx.e0 hx02).src rfl (by simp only [List.length_nil]; omega) (Nat.le_refl _) ?_
  intro x3 w3 h3 hx3 _ _
  ((conv=>whnf);repeat(first|(refine mvT ?_;conv=>whnf)|(refine mvF ?_;conv=>whnf)|(refine cT (by rfl) ?_;conv=>whnf)|(refine cF (by rfl) ?_;conv=>whnf)))
  rw [List.nil_append] at h3
  have hx3 : Ext nob w2 w3 := hx3.mono fun k _ h => by simp [Value.ownBlock] at h
  have hx03 := hx02.e0 hx3
  have hpl := hop2.lt
  have hread : Does X.P 25 #[.pointer (some ⟨p, 0, none⟩), x3] w3 fun r w' => RdPost w3 p 74 v (decide (v ≥ 0)) true dFetchSnapshotResponse ev s r w' := by
    obtain ⟨a3, c3, rfl, _⟩ := h3.shape
    refine Does.go (X := X) (l := [_, _]) Tryz.func25 rfl (by kernel_rfl) (by kernel_rfl) _ rfl ?_
    ((conv=>whnf);repeat(first|(refine mvT ?_;conv=>whnf)|(refine mvF ?_;conv=>whnf)|(refine cT (by rfl) ?_;conv=>whnf)|(refine cF (by rfl) ?_;conv=>whnf)))
    refine Does.mono (readFetchSnapshotResponse (hL.ext hx03 fun f => f) (hop2.e0 hx3) (h3.bytes (F := fun k => k ≠ p) fun k hk => by omega) (fun k h => h) hv (by omega)) ?_;rintro r w' h;((conv=>whnf);repeat(first|(refine mvT ?_;conv=>whnf)|(refine mvF ?_;conv=>whnf)|(refine cT (by rfl) ?_;conv=>whnf)|(refine cF (by rfl) ?_;conv=>whnf)))
    exact h
  refine Does.mono hread ?_
  rintro r4 w4 ⟨hr4, hx4, hpost⟩
  rw [hrd] at hr4 hpost
  obtain rfl : r4 = .nilIface := hr4.trans (if_neg Bool.false_ne_true)
  obtain ⟨cs, hop4, hq⟩ := hpost rfl
  obtain ⟨c2, c3, m, rfl, hc2, hc3, hm⟩ := qFetchSnapshotResponse hq
  ((conv=>whnf);repeat(first|(refine mvT ?_;conv=>whnf)|(refine mvF ?_;conv=>whnf)|(refine cT (by rfl) ?_;conv=>whnf)|(refine cF (by rfl) ?_;conv=>whnf)))
  have hx04 := hx03.st hx4 hwp
  refine app_bytes rfl rfl (OB.nil w4 w4.heap.size) (hy.e0 hx04).src rfl (by simp only [List.length_nil]; omega) (Nat.le_refl _) ?_
  intro y5 w5 h5 hx5 _ _
  ((conv=>whnf);repeat(first|(refine mvT ?_;conv=>whnf)|(refine mvF ?_;conv=>whnf)|(refine cT (by rfl) ?_;conv=>whnf)|(refine cF (by rfl) ?_;conv=>whnf)))
  rw [List.nil_append] at h5
  have hx5 : Ext nob w4 w5 := hx5.mono fun k _ h => by simp [Value.ownBlock] at h
  obtain ⟨F4, hF4⟩ : ∃ F4 : Nat → Prop, F4 = fun k => k ≠ p ∧ k < w4.heap.size := ⟨_, rfl⟩
  have hpl4 := hop4.lt
  refine Does.mono (appFetchSnapshotResponse (F := fun k => k ≠ p ∧ k < w4.heap.size) (hop4.e0 hx5) (by have := (hc2.mono (F' := F4) (fun k h1 h2 => by rw [hF4]; exact ⟨h2, h1⟩) (fun _ _ h => rFetchSnapshotResponseTopic_mono (F' := F4) h fun k h1 h2 => by rw [hF4]; exact ⟨h2, h1⟩)).ext hx5 (fun _ _ _ f => f) (fun _ _ h => rFetchSnapshotResponseTopic_ext h hx5 fun _ _ _ f => f); rw [hF4] at this; exact this) (by have := (hc3.mono (F' := F4) (fun k h1 h2 => by rw [hF4]; exact ⟨h2, h1⟩) (fun _ _ h => rFetchSnapshotResponseNodeEndpoint_mono (F' := F4) h fun k h1 h2 => by rw [hF4]; exact ⟨h2, h1⟩)).ext hx5 (fun _ _ _ f => f) (fun _ _ h => rFetchSnapshotResponseNodeEndpoint_ext h hx5 fun _ _ _ f => f); rw [hF4] at this; exact this) (by have := (hm.mono (F' := F4) fun k h1 h2 => by rw [hF4]; exact ⟨h2, h1⟩).ext hx5 fun _ _ _ f => f; rw [hF4] at this; exact this) hok (fun j _ hj e => by have := h5.blk j e; have := hj.2; omega) (fun e => by have := h5.blk p e; omega) h5 hx5.size hv hl hs32) ?_
  rintro r6 w6 h6
  ((conv=>whnf);repeat(first|(refine mvT ?_;conv=>whnf)|(refine mvF ?_;conv=>whnf)|(refine cT (by rfl) ?_;conv=>whnf)|(refine cF (by rfl) ?_;conv=>whnf)))
  exact ⟨r6, rfl, h6.ob.mono hx04.size, (hx04.e0 hx5).own h6.ext (B := w4.heap.size) h5.blk hx04.size⟩
theorem walkFetchSnapshotResponse {w : World} {n : Nat} (hn : n < 256) {y x ev : Value} {l : List UInt8} {t : T} (hL : Laid w ev) (hy : Bytes w anyB y l) (ht : Tr w anyB x t) (hsz : wtT t ≤ 1048576) : Does X.P 3 #[.int .u8 n, y, x] w fun r w' => r = .bool true ∧ Ext nob w w' := by
  have hkeys := ht.keys
  obtain ⟨ay, cy, rfl, _⟩ := hy.view
  obtain ⟨sv, lv, uv, ls, rfl, _⟩ := ht.open
  refine Does.go (X := X) (l := [_, _, _]) Tryz.func3 rfl (by kernel_rfl) (by kernel_rfl) _ rfl ?_
  ((conv=>whnf);repeat(first|(refine mvT ?_;conv=>whnf)|(refine mvF ?_;conv=>whnf)|(refine cT (by rfl) ?_;conv=>whnf)|(refine cF (by rfl) ?_;conv=>whnf)))
  intro b w1 hb ho hx
  ((conv=>whnf);repeat(first|(refine mvT ?_;conv=>whnf)|(refine mvF ?_;conv=>whnf)|(refine cT (by rfl) ?_;conv=>whnf)|(refine cF (by rfl) ?_;conv=>whnf)))
  intro cq hcq
  cases cq with
  | true =>
    ((conv=>whnf);repeat(first|(refine mvT ?_;conv=>whnf)|(refine mvF ?_;conv=>whnf)|(refine cT (by rfl) ?_;conv=>whnf)|(refine cF (by rfl) ?_;conv=>whnf)))
    exact ⟨rfl, hx⟩
  | false =>
  ((conv=>whnf);repeat(first|(refine mvT ?_;conv=>whnf)|(refine mvF ?_;conv=>whnf)|(refine cT (by rfl) ?_;conv=>whnf)|(refine cF (by rfl) ?_;conv=>whnf)))
  ((conv=>whnf);repeat(first|(refine mvT ?_;conv=>whnf)|(refine mvF ?_;conv=>whnf)|(refine cT (by rfl) ?_;conv=>whnf)|(refine cF (by rfl) ?_;conv=>whnf)))
  refine ⟨_, rfl, ho.cells, ?_⟩
  ((conv=>whnf);repeat(first|(refine mvT ?_;conv=>whnf)|(refine mvF ?_;conv=>whnf)|(refine cT (by rfl) ?_;conv=>whnf)|(refine cF (by rfl) ?_;conv=>whnf)))
  refine Does.mono (zzFits1_does (ht.e0 hx)) ?_;rintro r2 w2 ⟨⟨b2, rfl⟩, hx2⟩;((conv=>whnf);repeat(first|(refine mvT ?_;conv=>whnf)|(refine mvF ?_;conv=>whnf)|(refine cT (by rfl) ?_;conv=>whnf)|(refine cF (by rfl) ?_;conv=>whnf)))
  have hx02 := hx.e0 hx2
  refine cI (by rfl) (fun h1=>?_) (fun h1=>?_)
  · ((conv=>whnf);repeat(first|(refine mvT ?_;conv=>whnf)|(refine mvF ?_;conv=>whnf)|(refine cT (by rfl) ?_;conv=>whnf)|(refine cF (by rfl) ?_;conv=>whnf)))
    exact ⟨rfl, hx02⟩
  · ((conv=>whnf);repeat(first|(refine mvT ?_;conv=>whnf)|(refine mvF ?_;conv=>whnf)|(refine cT (by rfl) ?_;conv=>whnf)|(refine cF (by rfl) ?_;conv=>whnf)))
    refine Does.mono (maxFetchSnapshotResponse w2) ?_;rintro r3 w3 ⟨rfl, hx3⟩;((conv=>whnf);repeat(first|(refine mvT ?_;conv=>whnf)|(refine mvF ?_;conv=>whnf)|(refine cT (by rfl) ?_;conv=>whnf)|(refine cF (by rfl) ?_;conv=>whnf)))
    refine Does.mono (sFetchSnapshotResponse w3) ?_;rintro r4 w4 ⟨⟨fv, rfl, hfd⟩, hx4⟩;((conv=>whnf);repeat(first|(refine mvT ?_;conv=>whnf)|(refine mvF ?_;conv=>whnf)|(refine cT (by rfl) ?_;conv=>whnf)|(refine cF (by rfl) ?_;conv=>whnf)))
    have hone := hfd
    obtain ⟨ls3, hsl3, _⟩ := hone
    obtain ⟨a3, c3, rfl, _⟩ := hsl3.view
    refine Does.mono (version_does n 1 hn (by omega) w4) ?_;rintro r5 w5 ⟨rfl, rfl⟩;((conv=>whnf);repeat(first|(refine mvT ?_;conv=>whnf)|(refine mvF ?_;conv=>whnf)|(refine cT (by rfl) ?_;conv=>whnf)|(refine cF (by rfl) ?_;conv=>whnf)))
    intro b6 w6 hb6 ho6 hx6
    ((conv=>whnf);repeat(first|(refine mvT ?_;conv=>whnf)|(refine mvF ?_;conv=>whnf)|(refine cT (by rfl) ?_;conv=>whnf)|(refine cF (by rfl) ?_;conv=>whnf)))
    refine ⟨_, _, ho6, rfl, rfl, rfl, ?_⟩
    intro w7 ho7 hx7
    have hx57 : Ext nob w5 w7 := hx6.st hx7 hb6
    ((conv=>whnf);repeat(first|(refine mvT ?_;conv=>whnf)|(refine mvF ?_;conv=>whnf)|(refine cT (by rfl) ?_;conv=>whnf)|(refine cF (by rfl) ?_;conv=>whnf)))
    have hx07 : Ext nob w w7 := ((hx02.e0 hx3).e0 hx4).e0 hx57
    have ho1 := (((ho.e0 hx2).e0 hx3).e0 hx4).e0 hx57
    generalize hvv : ((n % (1 + 1) : Nat) : Int) = v
    have hv0 : 0 ≤ v := by omega
    have hv1 : v < 32768 := by omega
    have hok : ∀ f, f ∈ dFetchSnapshotResponse → okF 9 f = true := List.all_eq_true.1 (show (dFetchSnapshotResponse).all (okF 9) = true by decide)
    have hnt : ∀ f, f ∈ dFetchSnapshotResponse → tgF 0 9 f = true := List.all_eq_true.1 (show (dFetchSnapshotResponse).all (tgF 0 9) = true by decide)
    have hrise : riseF 0 dFetchSnapshotResponse = true := by decide
    have hsmw : ∀ f, f ∈ dFetchSnapshotResponse → smW 9 f = true := List.all_eq_true.1 (show (dFetchSnapshotResponse).all (smW 9) = true by decide +kernel)
    have hsz32 : (partB 9 v (flexB 0 v) dFetchSnapshotResponse t).length < 4294967296 := Nat.lt_of_le_of_lt (partB_wtT 0 9 v _ dFetchSnapshotResponse t hrise (by decide) hnt hsmw hsz hkeys) (Nat.lt_of_le_of_lt (Nat.mul_le_mul_left _ hsz) (by decide +kernel))
    have hrr : ∀ f, f ∈ dFetchSnapshotResponse → okR 0 9 f = true := List.all_eq_true.1 (show (dFetchSnapshotResponse).all (okR 0 9) = true by decide)
    have hww : ∀ f, f ∈ dFetchSnapshotResponse → okW 9 f = true := List.all_eq_true.1 (show (dFetchSnapshotResponse).all (okW 9) = true by decide)
    refine cI (by rfl) (fun hd=>?_) (fun hd=>?_)
    · ((conv=>whnf);repeat(first|(refine mvT ?_;conv=>whnf)|(refine mvF ?_;conv=>whnf)|(refine cT (by rfl) ?_;conv=>whnf)|(refine cF (by rfl) ?_;conv=>whnf)))
      exact ⟨rfl, hx07⟩
    · have hl1 : l.length ≤ 1000 := by have := of_decide_eq_false hd; omega
      ((conv=>whnf);repeat(first|(refine mvT ?_;conv=>whnf)|(refine mvF ?_;conv=>whnf)|(refine cT (by rfl) ?_;conv=>whnf)|(refine cF (by rfl) ?_;conv=>whnf)))
      refine ⟨_, rfl, ho7.cells, ?_⟩
      ((conv=>whnf);repeat(first|(refine mvT ?_;conv=>whnf)|(refine mvF ?_;conv=>whnf)|(refine cT (by rfl) ?_;conv=>whnf)|(refine cF (by rfl) ?_;conv=>whnf)))
      refine ⟨_, rfl, ho1.cells, ?_⟩
      ((conv=>whnf);repeat(first|(refine mvT ?_;conv=>whnf)|(refine mvF ?_;conv=>whnf)|(refine cT (by rfl) ?_;conv=>whnf)|(refine cF (by rfl) ?_;conv=>whnf)))
      have hfx : decide (v ≥ 0) = flexB 0 v := by simp [flexB]
      have hlen : (partB 9 v (flexB 0 v) dFetchSnapshotResponse t).length ≤ 90000000000000 := Nat.le_trans (partB_wtT 0 9 v _ dFetchSnapshotResponse t hrise (by decide) hnt hsmw hsz hkeys) (Nat.le_trans (Nat.mul_le_mul_left _ hsz) (Nat.le_of_ble_eq_true rfl))
      refine Does.mono (write_does 9 (v := v) ⟨_, rfl, hfd.e0 hx57⟩ (ht.e0 hx07) hok (by decide) (Nat.le_trans hlen (by decide))) ?_
      rintro r8 w8 ⟨hr8, hx8⟩
      obtain ⟨a8, c8, rfl, _⟩ := hr8.shape
      ((conv=>whnf);repeat(first|(refine mvT ?_;conv=>whnf)|(refine mvF ?_;conv=>whnf)|(refine cT (by rfl) ?_;conv=>whnf)|(refine cF (by rfl) ?_;conv=>whnf)))
      have hx08 := hx07.e0 hx8
      have hrd : rdPart 9 v (decide (v ≥ 0)) dFetchSnapshotResponse (partB 9 v (flexB 0 v) dFetchSnapshotResponse t, false) = (toPartT 9 v (decide (v ≥ 0)) dFetchSnapshotResponse t, ([], false)) := by
        have := part_readT 9 0 v dFetchSnapshotResponse t hrise (by decide) hnt hrr hkeys hv0 hsz32 []
        rw [List.append_nil] at this
        rw [hfx]
        exact this
      have hokT := part_okTT 0 9 v (decide (v ≥ 0)) dFetchSnapshotResponse t hfx hnt hww hkeys hv0
      have hlaw : bFetchSnapshotResponse v (decide (v ≥ 0)) (toPartT 9 v (decide (v ≥ 0)) dFetchSnapshotResponse t) = partB 9 v (flexB 0 v) dFetchSnapshotResponse t := by
        rw [← bFetchSnapshotResponse_eq hv0 hokT, hfx]
        exact partT_lawT 0 9 v _ dFetchSnapshotResponse t hrise hnt hww hv0
      refine Does.mono (backFetchSnapshotResponse (v := v) (hL.ext hx08 fun f => f) (hy.e0 hx08) hr8.bytesAny hv0 hv1 hrd hokT (by omega) (by rw [hlaw]; omega) (by rw [hlaw]; exact hsz32)) ?_
      rintro r9 w9 ⟨o9, rfl, ho9, hx9⟩
      rw [hlaw] at ho9
      obtain ⟨a9, c9, rfl, _⟩ := ho9.shape
      ((conv=>whnf);repeat(first|(refine mvT ?_;conv=>whnf)|(refine mvF ?_;conv=>whnf)|(refine cT (by rfl) ?_;conv=>whnf)|(refine cF (by rfl) ?_;conv=>whnf)))
      have hx09 := hx08.e0 hx9
      intro b10 w10 hb10 ho10 hx10
      ((conv=>whnf);repeat(first|(refine mvT ?_;conv=>whnf)|(refine mvF ?_;conv=>whnf)|(refine cT (by rfl) ?_;conv=>whnf)|(refine cF (by rfl) ?_;conv=>whnf)))
      have hob : OB w10 w9.heap.size (.slice (some ⟨b10, 0, none⟩) 0 0) [] := ⟨OwnSl.of_own (sz := 1) (n := 0) (cap := 0) ho10 (Nat.le_refl _) (by rw [maxLen_eq]; omega) rfl, fun k hk => by simp only [Value.ownBlock, Option.some.injEq] at hk; omega⟩
      refine app_bytes rfl rfl hob (hy.e0 (hx09.e0 hx10)).src rfl (by simp only [List.length_nil]; omega) hx10.size ?_
      intro v11 w11 h11 hx11 _ _
      have hx911 : Ext nob w9 w11 := hx10.trans hx11 fun k hk e => by simp only [Value.ownBlock, Option.some.injEq] at e; omega
      obtain ⟨a11, c11, rfl, _⟩ := h11.shape
      ((conv=>whnf);repeat(first|(refine mvT ?_;conv=>whnf)|(refine mvF ?_;conv=>whnf)|(refine cT (by rfl) ?_;conv=>whnf)|(refine cF (by rfl) ?_;conv=>whnf)))
      rw [List.nil_append] at h11
      refine app_bytes rfl rfl h11 ((hr8.e0 hx9).e0 hx911).bytesAny.src rfl (by omega) hx911.size ?_
      intro v12 w12 h12 hx12 _ _
      have hx912 : Ext nob w9 w12 := hx911.own hx12 (B := w9.heap.size) h11.blk (Nat.le_refl _)
      obtain ⟨a12, c12, rfl, _⟩ := h12.shape
      ((conv=>whnf);repeat(first|(refine mvT ?_;conv=>whnf)|(refine mvF ?_;conv=>whnf)|(refine cT (by rfl) ?_;conv=>whnf)|(refine cF (by rfl) ?_;conv=>whnf)))
      refine Does.mono (Same_does (ho9.e0 hx912).bytesAny h12.bytesAny) ?_
      rintro r13 w13 ⟨rfl, hx13⟩
      ((conv=>whnf);repeat(first|(refine mvT ?_;conv=>whnf)|(refine mvF ?_;conv=>whnf)|(refine cT (by rfl) ?_;conv=>whnf)|(refine cF (by rfl) ?_;conv=>whnf)))
      exact ⟨by simp [oneOr], (hx09.e0 hx912).e0 hx13⟩
end Go.Proofs.YtabhhkdgfdjicaaGreatDoor.K
