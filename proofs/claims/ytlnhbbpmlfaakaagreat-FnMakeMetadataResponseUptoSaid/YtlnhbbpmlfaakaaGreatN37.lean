/- MetadataResponse. -/
import Derived.Test.YtlnhbbpmlfaakaaGreatC3
import Derived.Test.YtlnhbbpmlfaakaaGreatP1
import Derived.Test.YtlnhbbpmlfaakaaGreatGversion
set_option linter.unusedVariables false
set_option linter.unusedSimpArgs false
namespace Go.Proofs.YtlnhbbpmlfaakaaGreat.K
open Go
set_option maxHeartbeats 1600000
set_option maxRecDepth 100000

theorem mvG {K : Bool → Prop} {e : Bool} {Rest : Prop} (hr : Rest) (h : Rest → ∀ c, e = c → K c) : ∀ c, e = c → K c := h hr
abbrev dMetadataResponseBroker : List Fd := [.mk 3 0 (-1) (-1) (-1) 0 0 [], .mk 8 0 (-1) (-1) (-1) 0 0 [], .mk 3 0 (-1) (-1) (-1) 0 0 [], .mk 8 1 (-1) 1 (-1) 0 0 []]
abbrev dMetadataResponseTopicPartition : List Fd := [.mk 2 0 (-1) (-1) (-1) 0 0 [], .mk 3 0 (-1) (-1) (-1) 0 0 [], .mk 3 0 (-1) (-1) (-1) 0 0 [], .mk 3 7 (-1) (-1) (-1) (-1) 0 [], .mk 11 0 (-1) (-1) (-1) 0 3 [], .mk 11 0 (-1) (-1) (-1) 0 3 [], .mk 11 5 (-1) (-1) (-1) 0 3 []]
abbrev dMetadataResponseTopic : List Fd := [.mk 2 0 (-1) (-1) (-1) 0 0 [], .mk 8 0 (-1) 12 (-1) 0 0 [], .mk 7 10 (-1) (-1) (-1) 0 0 [], .mk 0 1 (-1) (-1) (-1) 0 0 [], .mk 11 0 (-1) (-1) (-1) 0 10 dMetadataResponseTopicPartition, .mk 3 8 (-1) (-1) (-1) (-2147483648) 0 []]
abbrev dMetadataResponse : List Fd := [.mk 3 3 (-1) (-1) (-1) 0 0 [], .mk 11 0 (-1) (-1) (-1) 0 10 dMetadataResponseBroker, .mk 8 2 (-1) 2 (-1) 0 0 [], .mk 3 1 (-1) (-1) (-1) (-1) 0 [], .mk 11 0 (-1) (-1) (-1) 0 10 dMetadataResponseTopic, .mk 3 8 10 (-1) (-1) (-2147483648) 0 [], .mk 2 13 (-1) (-1) (-1) 0 0 []]
theorem sMetadataResponseBroker (w : World) : Does X.P 16 #[] w fun r w' => FdsR w' (fun k => w.heap.size ≤ k) r dMetadataResponseBroker ∧ Ext nob w w' := by
  have hx0 : Ext nob w w := Ext.refl _ _
  refine Does.go (X := X) (l := []) Tryz.func16 rfl (by kernel_rfl) (by kernel_rfl) _ rfl ?_
  ((conv=>whnf);repeat(first|(refine mvT ?_;conv=>whnf)|(refine mvF ?_;conv=>whnf)|(refine cT (by rfl) ?_;conv=>whnf)|(refine cF (by rfl) ?_;conv=>whnf)))
  have hxs := hx0
  intro b wb hb ho hx
  have hx0 := hx0.e0 hx
  ((conv=>whnf);repeat(first|(refine mvT ?_;conv=>whnf)|(refine mvF ?_;conv=>whnf)|(refine cT (by rfl) ?_;conv=>whnf)|(refine cF (by rfl) ?_;conv=>whnf)))
  refine ⟨?_, hx0⟩
  exact FdL.fds (cs := [[.int .i64 3, .int .i64 0, .int .i64 (-1), .int .i64 (-1), .int .i64 (-1), .int .i64 0, .int .i64 0, .slice none 0 0], [.int .i64 8, .int .i64 0, .int .i64 (-1), .int .i64 (-1), .int .i64 (-1), .int .i64 0, .int .i64 0, .slice none 0 0], [.int .i64 3, .int .i64 0, .int .i64 (-1), .int .i64 (-1), .int .i64 (-1), .int .i64 0, .int .i64 0, .slice none 0 0], [.int .i64 8, .int .i64 1, .int .i64 (-1), .int .i64 1, .int .i64 (-1), .int .i64 0, .int .i64 0, .slice none 0 0]])
    ⟨fdLeaf _ _ _ _ _ _ _ _ _, fdLeaf _ _ _ _ _ _ _ _ _, fdLeaf _ _ _ _ _ _ _ _ _, fdLeaf _ _ _ _ _ _ _ _ _, trivial⟩ ho rfl (by decide) (by have := hxs.size; omega)
theorem sMetadataResponseTopicPartition (w : World) : Does X.P 28 #[] w fun r w' => FdsR w' (fun k => w.heap.size ≤ k) r dMetadataResponseTopicPartition ∧ Ext nob w w' := by
  have hx0 : Ext nob w w := Ext.refl _ _
  refine Does.go (X := X) (l := []) Tryz.func28 rfl (by kernel_rfl) (by kernel_rfl) _ rfl ?_
  ((conv=>whnf);repeat(first|(refine mvT ?_;conv=>whnf)|(refine mvF ?_;conv=>whnf)|(refine cT (by rfl) ?_;conv=>whnf)|(refine cF (by rfl) ?_;conv=>whnf)))
  have hxs := hx0
  intro b wb hb ho hx
  have hx0 := hx0.e0 hx
  ((conv=>whnf);repeat(first|(refine mvT ?_;conv=>whnf)|(refine mvF ?_;conv=>whnf)|(refine cT (by rfl) ?_;conv=>whnf)|(refine cF (by rfl) ?_;conv=>whnf)))
  refine ⟨?_, hx0⟩
  exact FdL.fds (cs := [[.int .i64 2, .int .i64 0, .int .i64 (-1), .int .i64 (-1), .int .i64 (-1), .int .i64 0, .int .i64 0, .slice none 0 0], [.int .i64 3, .int .i64 0, .int .i64 (-1), .int .i64 (-1), .int .i64 (-1), .int .i64 0, .int .i64 0, .slice none 0 0], [.int .i64 3, .int .i64 0, .int .i64 (-1), .int .i64 (-1), .int .i64 (-1), .int .i64 0, .int .i64 0, .slice none 0 0], [.int .i64 3, .int .i64 7, .int .i64 (-1), .int .i64 (-1), .int .i64 (-1), .int .i64 (-1), .int .i64 0, .slice none 0 0], [.int .i64 11, .int .i64 0, .int .i64 (-1), .int .i64 (-1), .int .i64 (-1), .int .i64 0, .int .i64 3, .slice none 0 0], [.int .i64 11, .int .i64 0, .int .i64 (-1), .int .i64 (-1), .int .i64 (-1), .int .i64 0, .int .i64 3, .slice none 0 0], [.int .i64 11, .int .i64 5, .int .i64 (-1), .int .i64 (-1), .int .i64 (-1), .int .i64 0, .int .i64 3, .slice none 0 0]])
    ⟨fdLeaf _ _ _ _ _ _ _ _ _, fdLeaf _ _ _ _ _ _ _ _ _, fdLeaf _ _ _ _ _ _ _ _ _, fdLeaf _ _ _ _ _ _ _ _ _, fdLeaf _ _ _ _ _ _ _ _ _, fdLeaf _ _ _ _ _ _ _ _ _, fdLeaf _ _ _ _ _ _ _ _ _, trivial⟩ ho rfl (by decide) (by have := hxs.size; omega)
theorem sMetadataResponseTopic (w : World) : Does X.P 17 #[] w fun r w' => FdsR w' (fun k => w.heap.size ≤ k) r dMetadataResponseTopic ∧ Ext nob w w' := by
  have hx0 : Ext nob w w := Ext.refl _ _
  refine Does.go (X := X) (l := []) Tryz.func17 rfl (by kernel_rfl) (by kernel_rfl) _ rfl ?_
  ((conv=>whnf);repeat(first|(refine mvT ?_;conv=>whnf)|(refine mvF ?_;conv=>whnf)|(refine cT (by rfl) ?_;conv=>whnf)|(refine cF (by rfl) ?_;conv=>whnf)))
  refine Does.mono (sMetadataResponseTopicPartition w) ?_
  rintro v4 wv4 ⟨hv4, hc⟩
  have hv4 := hv4.mono (F' := fun k => w.heap.size ≤ k) fun k _ h => Nat.le_trans hx0.size h
  obtain ⟨lv4, gv4, _⟩ := id hv4
  obtain ⟨av4, kv4, rfl, _⟩ := gv4.view
  ((conv=>whnf);repeat(first|(refine mvT ?_;conv=>whnf)|(refine mvF ?_;conv=>whnf)|(refine cT (by rfl) ?_;conv=>whnf)|(refine cF (by rfl) ?_;conv=>whnf)))
  have hx0 := hx0.e0 hc
  have hxs := hx0
  intro b wb hb ho hx
  have hx0 := hx0.e0 hx
  ((conv=>whnf);repeat(first|(refine mvT ?_;conv=>whnf)|(refine mvF ?_;conv=>whnf)|(refine cT (by rfl) ?_;conv=>whnf)|(refine cF (by rfl) ?_;conv=>whnf)))
  refine ⟨?_, hx0⟩
  exact FdL.fds (cs := [[.int .i64 2, .int .i64 0, .int .i64 (-1), .int .i64 (-1), .int .i64 (-1), .int .i64 0, .int .i64 0, .slice none 0 0], [.int .i64 8, .int .i64 0, .int .i64 (-1), .int .i64 12, .int .i64 (-1), .int .i64 0, .int .i64 0, .slice none 0 0], [.int .i64 7, .int .i64 10, .int .i64 (-1), .int .i64 (-1), .int .i64 (-1), .int .i64 0, .int .i64 0, .slice none 0 0], [.int .i64 0, .int .i64 1, .int .i64 (-1), .int .i64 (-1), .int .i64 (-1), .int .i64 0, .int .i64 0, .slice none 0 0], [.int .i64 11, .int .i64 0, .int .i64 (-1), .int .i64 (-1), .int .i64 (-1), .int .i64 0, .int .i64 10, .slice av4 lv4.length kv4], [.int .i64 3, .int .i64 8, .int .i64 (-1), .int .i64 (-1), .int .i64 (-1), .int .i64 (-2147483648), .int .i64 0, .slice none 0 0]])
    ⟨fdLeaf _ _ _ _ _ _ _ _ _, fdLeaf _ _ _ _ _ _ _ _ _, fdLeaf _ _ _ _ _ _ _ _ _, fdLeaf _ _ _ _ _ _ _ _ _, FdC.of (hv4.e0 hx) _ _ _ _ _ _ _, fdLeaf _ _ _ _ _ _ _ _ _, trivial⟩ ho rfl (by decide) (by have := hxs.size; omega)
theorem sMetadataResponse (w : World) : Does X.P 6 #[] w fun r w' => Msg w' (fun k => w.heap.size ≤ k) r dMetadataResponse 9 ∧ Ext nob w w' := by
  have hx0 : Ext nob w w := Ext.refl _ _
  refine Does.go (X := X) (l := []) Tryz.func6 rfl (by kernel_rfl) (by kernel_rfl) _ rfl ?_
  ((conv=>whnf);repeat(first|(refine mvT ?_;conv=>whnf)|(refine mvF ?_;conv=>whnf)|(refine cT (by rfl) ?_;conv=>whnf)|(refine cF (by rfl) ?_;conv=>whnf)))
  intro b w1 hb ho hx
  have hx0 := hx0.e0 hx
  have ho := ho
  ((conv=>whnf);repeat(first|(refine mvT ?_;conv=>whnf)|(refine mvF ?_;conv=>whnf)|(refine cT (by rfl) ?_;conv=>whnf)|(refine cF (by rfl) ?_;conv=>whnf)))
  refine Does.mono (sMetadataResponseBroker w1) ?_
  rintro v1 wv1 ⟨hv1, hc⟩
  have hv1 := hv1.mono (F' := fun k => w.heap.size ≤ k ∧ b < k) fun k _ h => ⟨Nat.le_trans hx0.size h, Nat.lt_of_lt_of_le ho.lt h⟩
  obtain ⟨lv1, gv1, _⟩ := id hv1
  obtain ⟨av1, kv1, rfl, _⟩ := gv1.view
  ((conv=>whnf);repeat(first|(refine mvT ?_;conv=>whnf)|(refine mvF ?_;conv=>whnf)|(refine cT (by rfl) ?_;conv=>whnf)|(refine cF (by rfl) ?_;conv=>whnf)))
  have hx0 := hx0.e0 hc
  have ho := ho.e0 hc
  refine Does.mono (sMetadataResponseTopic wv1) ?_
  rintro v4 wv4 ⟨hv4, hc⟩
  have hv4 := hv4.mono (F' := fun k => w.heap.size ≤ k ∧ b < k) fun k _ h => ⟨Nat.le_trans hx0.size h, Nat.lt_of_lt_of_le ho.lt h⟩
  obtain ⟨lv4, gv4, _⟩ := id hv4
  obtain ⟨av4, kv4, rfl, _⟩ := gv4.view
  ((conv=>whnf);repeat(first|(refine mvT ?_;conv=>whnf)|(refine mvF ?_;conv=>whnf)|(refine cT (by rfl) ?_;conv=>whnf)|(refine cF (by rfl) ?_;conv=>whnf)))
  have hv1 := hv1.e0 hc
  have hx0 := hx0.e0 hc
  have ho := ho.e0 hc
  have hxs := hx0
  intro b2 w2 hb2 ho2 hx2
  ((conv=>whnf);repeat(first|(refine mvT ?_;conv=>whnf)|(refine mvF ?_;conv=>whnf)|(refine cT (by rfl) ?_;conv=>whnf)|(refine cF (by rfl) ?_;conv=>whnf)))
  have hx0 := hx0.e0 hx2
  refine ⟨_, _, ho.e0 hx2, rfl, rfl, rfl, ?_⟩
  intro w3 ho3 hx3
  have hx03 := hx0.st hx3 hb
  ((conv=>whnf);repeat(first|(refine mvT ?_;conv=>whnf)|(refine mvF ?_;conv=>whnf)|(refine cT (by rfl) ?_;conv=>whnf)|(refine cF (by rfl) ?_;conv=>whnf)))
  refine ⟨_, rfl, ho3.cells, ?_⟩
  refine ⟨⟨_, rfl, ?_⟩, hx03⟩
  have ho2 := ho2.ext hx3 (by have := ho.lt; omega)
  have hs := hx0.size
  have hs2 : w.heap.size ≤ b2 := Nat.le_trans hxs.size hb2
  exact FdL.fds (cs := [[.int .i64 3, .int .i64 3, .int .i64 (-1), .int .i64 (-1), .int .i64 (-1), .int .i64 0, .int .i64 0, .slice none 0 0], [.int .i64 11, .int .i64 0, .int .i64 (-1), .int .i64 (-1), .int .i64 (-1), .int .i64 0, .int .i64 10, .slice av1 lv1.length kv1], [.int .i64 8, .int .i64 2, .int .i64 (-1), .int .i64 2, .int .i64 (-1), .int .i64 0, .int .i64 0, .slice none 0 0], [.int .i64 3, .int .i64 1, .int .i64 (-1), .int .i64 (-1), .int .i64 (-1), .int .i64 (-1), .int .i64 0, .slice none 0 0], [.int .i64 11, .int .i64 0, .int .i64 (-1), .int .i64 (-1), .int .i64 (-1), .int .i64 0, .int .i64 10, .slice av4 lv4.length kv4], [.int .i64 3, .int .i64 8, .int .i64 10, .int .i64 (-1), .int .i64 (-1), .int .i64 (-2147483648), .int .i64 0, .slice none 0 0], [.int .i64 2, .int .i64 13, .int .i64 (-1), .int .i64 (-1), .int .i64 (-1), .int .i64 0, .int .i64 0, .slice none 0 0]])
    ⟨fdLeaf _ _ _ _ _ _ _ _ _, FdC.of (FdsR.mono (FdsR.ext (FdsR.e0 hv1 hx2) hx3 fun k _ h1 h2 => by omega) fun k _ h => h.1) _ _ _ _ _ _ _, fdLeaf _ _ _ _ _ _ _ _ _, fdLeaf _ _ _ _ _ _ _ _ _, FdC.of (FdsR.mono (FdsR.ext (FdsR.e0 hv4 hx2) hx3 fun k _ h1 h2 => by omega) fun k _ h => h.1) _ _ _ _ _ _ _, fdLeaf _ _ _ _ _ _ _ _ _, fdLeaf _ _ _ _ _ _ _ _ _, trivial⟩ ho2 rfl (by decide) (by omega)
def rMetadataResponseBroker (w : World) (F : Nat → Prop) (cs : List Value) (t : T) : Prop := ∃ c3 m, cs = [.int .i32 (IntKind.i32.wrap (atT t 0).n), str (atT t 1).s, .int .i32 (IntKind.i32.wrap (atT t 2).n), c3, m] ∧ NTextR w F c3 (atT t 3) ∧ TagsR w F m t.u
theorem rMetadataResponseBroker_ext {M F : Nat → Prop} {w w' : World} {cs : List Value} {t : T} (h : rMetadataResponseBroker w F cs t) (x : Ext M w w') (hF : ∀ k, k < w.heap.size → F k → ¬ M k) : rMetadataResponseBroker w' F cs t := by
  obtain ⟨c3, m, rfl, h3, hm⟩ := h
  exact ⟨c3, m, rfl, h3.ext x hF, hm.ext x hF⟩
theorem rMetadataResponseBroker_mono {F F' : Nat → Prop} {w : World} {cs : List Value} {t : T} (h : rMetadataResponseBroker w F cs t) (hF : ∀ k, k < w.heap.size → F k → F' k) : rMetadataResponseBroker w F' cs t := by
  obtain ⟨c3, m, rfl, h3, hm⟩ := h
  exact ⟨c3, m, rfl, h3.mono hF, hm.mono hF⟩
theorem rMetadataResponseBroker_len {F : Nat → Prop} {w : World} {cs : List Value} {t : T} (h : rMetadataResponseBroker w F cs t) : cs.length = 5 := by
  obtain ⟨c3, m, rfl, h3, hm⟩ := h
  rfl
def rMetadataResponseTopicPartition (w : World) (F : Nat → Prop) (cs : List Value) (t : T) : Prop := ∃ c4 c5 c6 m, cs = [.int .i16 (IntKind.i16.wrap (atT t 0).n), .int .i32 (IntKind.i32.wrap (atT t 1).n), .int .i32 (IntKind.i32.wrap (atT t 2).n), .int .i32 (IntKind.i32.wrap (atT t 3).n), c4, c5, c6, m] ∧ ListR true 1 (fun c x => c = [.int .i32 (IntKind.i32.wrap x.n)]) w F c4 (atT t 4) ∧ ListR true 1 (fun c x => c = [.int .i32 (IntKind.i32.wrap x.n)]) w F c5 (atT t 5) ∧ ListR true 1 (fun c x => c = [.int .i32 (IntKind.i32.wrap x.n)]) w F c6 (atT t 6) ∧ TagsR w F m t.u
theorem rMetadataResponseTopicPartition_ext {M F : Nat → Prop} {w w' : World} {cs : List Value} {t : T} (h : rMetadataResponseTopicPartition w F cs t) (x : Ext M w w') (hF : ∀ k, k < w.heap.size → F k → ¬ M k) : rMetadataResponseTopicPartition w' F cs t := by
  obtain ⟨c4, c5, c6, m, rfl, h4, h5, h6, hm⟩ := h
  exact ⟨c4, c5, c6, m, rfl, h4.ext x hF (fun _ _ h => h), h5.ext x hF (fun _ _ h => h), h6.ext x hF (fun _ _ h => h), hm.ext x hF⟩
theorem rMetadataResponseTopicPartition_mono {F F' : Nat → Prop} {w : World} {cs : List Value} {t : T} (h : rMetadataResponseTopicPartition w F cs t) (hF : ∀ k, k < w.heap.size → F k → F' k) : rMetadataResponseTopicPartition w F' cs t := by
  obtain ⟨c4, c5, c6, m, rfl, h4, h5, h6, hm⟩ := h
  exact ⟨c4, c5, c6, m, rfl, h4.mono hF (fun _ _ h => h), h5.mono hF (fun _ _ h => h), h6.mono hF (fun _ _ h => h), hm.mono hF⟩
theorem rMetadataResponseTopicPartition_len {F : Nat → Prop} {w : World} {cs : List Value} {t : T} (h : rMetadataResponseTopicPartition w F cs t) : cs.length = 8 := by
  obtain ⟨c4, c5, c6, m, rfl, h4, h5, h6, hm⟩ := h
  rfl
def rMetadataResponseTopic (w : World) (F : Nat → Prop) (cs : List Value) (t : T) : Prop := ∃ c1 u2_0 u2_1 u2_2 u2_3 u2_4 u2_5 u2_6 u2_7 u2_8 u2_9 u2_10 u2_11 u2_12 u2_13 u2_14 u2_15 c4 m, cs = [.int .i16 (IntKind.i16.wrap (atT t 0).n), c1, bcell u2_0, bcell u2_1, bcell u2_2, bcell u2_3, bcell u2_4, bcell u2_5, bcell u2_6, bcell u2_7, bcell u2_8, bcell u2_9, bcell u2_10, bcell u2_11, bcell u2_12, bcell u2_13, bcell u2_14, bcell u2_15, .bool (decide ((atT t 3).n % 2 = 1)), c4, .int .i32 (IntKind.i32.wrap (atT t 5).n), m] ∧ NTextR w F c1 (atT t 1) ∧ uuidB (atT t 2).s = [u2_0, u2_1, u2_2, u2_3, u2_4, u2_5, u2_6, u2_7, u2_8, u2_9, u2_10, u2_11, u2_12, u2_13, u2_14, u2_15] ∧ ListR true 8 (rMetadataResponseTopicPartition w F) w F c4 (atT t 4) ∧ TagsR w F m t.u
theorem rMetadataResponseTopic_ext {M F : Nat → Prop} {w w' : World} {cs : List Value} {t : T} (h : rMetadataResponseTopic w F cs t) (x : Ext M w w') (hF : ∀ k, k < w.heap.size → F k → ¬ M k) : rMetadataResponseTopic w' F cs t := by
  obtain ⟨c1, u2_0, u2_1, u2_2, u2_3, u2_4, u2_5, u2_6, u2_7, u2_8, u2_9, u2_10, u2_11, u2_12, u2_13, u2_14, u2_15, c4, m, rfl, h1, h2, h4, hm⟩ := h
  exact ⟨c1, u2_0, u2_1, u2_2, u2_3, u2_4, u2_5, u2_6, u2_7, u2_8, u2_9, u2_10, u2_11, u2_12, u2_13, u2_14, u2_15, c4, m, rfl, h1.ext x hF, h2, h4.ext x hF (fun _ _ h => rMetadataResponseTopicPartition_ext h x hF), hm.ext x hF⟩
theorem rMetadataResponseTopic_mono {F F' : Nat → Prop} {w : World} {cs : List Value} {t : T} (h : rMetadataResponseTopic w F cs t) (hF : ∀ k, k < w.heap.size → F k → F' k) : rMetadataResponseTopic w F' cs t := by
  obtain ⟨c1, u2_0, u2_1, u2_2, u2_3, u2_4, u2_5, u2_6, u2_7, u2_8, u2_9, u2_10, u2_11, u2_12, u2_13, u2_14, u2_15, c4, m, rfl, h1, h2, h4, hm⟩ := h
  exact ⟨c1, u2_0, u2_1, u2_2, u2_3, u2_4, u2_5, u2_6, u2_7, u2_8, u2_9, u2_10, u2_11, u2_12, u2_13, u2_14, u2_15, c4, m, rfl, h1.mono hF, h2, h4.mono hF (fun _ _ h => rMetadataResponseTopicPartition_mono h hF), hm.mono hF⟩
theorem rMetadataResponseTopic_len {F : Nat → Prop} {w : World} {cs : List Value} {t : T} (h : rMetadataResponseTopic w F cs t) : cs.length = 22 := by
  obtain ⟨c1, u2_0, u2_1, u2_2, u2_3, u2_4, u2_5, u2_6, u2_7, u2_8, u2_9, u2_10, u2_11, u2_12, u2_13, u2_14, u2_15, c4, m, rfl, h1, h2, h4, hm⟩ := h
  rfl
theorem makeMetadataResponseBroker {F : Nat → Prop} {w0 : World} {u : Int} {x : Value} {t : T} (ht : Tr w0 F x t) (hok : partOK 8 u dMetadataResponseBroker t) :
    Does X.P 30 #[x] w0 fun r w' => ∃ cs : List Value, r = .agg cs.toArray ∧ okCells cs = true ∧ rMetadataResponseBroker w' (fun k => F k ∨ w0.heap.size ≤ k) cs t ∧ Ext nob w0 w' := by
  obtain ⟨R0, hR0, hRF, ht0⟩ : ∃ R0 : Nat → Prop, (∀ k, R0 k → k < w0.heap.size) ∧ (∀ k, R0 k → F k) ∧ Tr w0 R0 x t := ⟨fun k => k < w0.heap.size ∧ F k, fun k h => h.1, fun k h => h.2, ht.mono fun k h1 h2 => ⟨h1, h2⟩⟩
  clear ht
  obtain ⟨sv, lv, uv, ls, rfl, hn, hs, hl, hels, htg⟩ := ht0.open
  obtain ⟨us, hus, husl, huc⟩ := id htg
  obtain ⟨au, cu, rfl, husc, husm, husF, _, husC⟩ := hus.view
  refine Does.go (X := X) (l := [_]) Tryz.func30 rfl (by kernel_rfl) (by kernel_rfl) _ rfl ?_
  ((conv=>whnf);repeat(first|(refine mvT ?_;conv=>whnf)|(refine mvF ?_;conv=>whnf)|(refine cT (by rfl) ?_;conv=>whnf)|(refine cF (by rfl) ?_;conv=>whnf)))
  intro b wb hb ho hx
  ((conv=>whnf);repeat(first|(refine mvT ?_;conv=>whnf)|(refine mvF ?_;conv=>whnf)|(refine cT (by rfl) ?_;conv=>whnf)|(refine cF (by rfl) ?_;conv=>whnf)))
  intro q wq hqb hoq hxq
  ((conv=>whnf);repeat(first|(refine mvT ?_;conv=>whnf)|(refine mvF ?_;conv=>whnf)|(refine cT (by rfl) ?_;conv=>whnf)|(refine cF (by rfl) ?_;conv=>whnf)))
  intro p wc hpB hp hxp
  have hbl := ho.lt
  have hql := hoq.lt
  have hs1 := hx.size
  have hs2 := hxq.size
  have hpb : p ≠ b := by omega
  have hpq : p ≠ q := by omega
  have hwp : w0.heap.size ≤ p := by omega
  have hR0 : ∀ k, R0 k → k < w0.heap.size ∧ k ≠ p := fun k h => ⟨hR0 k h, by have := hR0 k h; omega⟩
  obtain ⟨ty, hp⟩ : ∃ T, Own wc p T [.int .i32 0, str [], .int .i32 0, .pointer none, .map none] := ⟨_, hp⟩
  have ho : Own wc b ImplTreeT [.int .i64 t.n, sv, .bool t.nl, lv, .slice au us.length cu] := (ho.e0 hxq).e0 hxp
  have hoq := hoq.e0 hxp
  obtain ⟨qT, qL, hqlen, hoq⟩ : ∃ T L, L.length = 5 ∧ Own wc q T L := ⟨_, _, rfl, hoq⟩
  have hx0 : Ext (fun k => k = p) w0 wc := ((hx.e0 hxq).e0 hxp).mono fun _ _ f => f.elim
  ((conv=>whnf);repeat(first|(refine mvT ?_;conv=>whnf)|(refine mvF ?_;conv=>whnf)|(refine cT (by rfl) ?_;conv=>whnf)|(refine cF (by rfl) ?_;conv=>whnf)))
  refine ⟨_, rfl, ho.cells, ?_⟩
  ((conv=>whnf);repeat(first|(refine mvT ?_;conv=>whnf)|(refine mvF ?_;conv=>whnf)|(refine cT (by rfl) ?_;conv=>whnf)|(refine cF (by rfl) ?_;conv=>whnf)))
  refine Does.mono (iat_does (ht0.ext hx0 fun k _ h => (hR0 k h).2) 0) ?_
  rintro ra wa ⟨hra, hxa⟩
  obtain ⟨sva, lva, uva, lsa, rfl, hna, hsa, hla, helsa, hua⟩ := hra.open
  ((conv=>whnf);repeat(first|(refine mvT ?_;conv=>whnf)|(refine mvF ?_;conv=>whnf)|(refine cT (by rfl) ?_;conv=>whnf)|(refine cF (by rfl) ?_;conv=>whnf)))
  refine st_cell (o := 0) (v := .int .i32 (IntKind.i32.wrap (atT t 0).n)) (hp.e0 hxa) (rfl) (by omega) rfl (by simp) (rfl) ?_
  intro wc hoc hxc
  have hp : Own wc p ty [.int .i32 (IntKind.i32.wrap (atT t 0).n), str [], .int .i32 0, .pointer none, .map none] := hoc
  have ho := (ho.e0 hxa).ext hxc (Ne.symm hpb)
  have hx0 := (hx0.tr0 hxa).trans hxc fun _ _ h => h
  have hoq := (hoq.e0 hxa).ext hxc (Ne.symm hpq)
  ((conv=>whnf);repeat(first|(refine mvT ?_;conv=>whnf)|(refine mvF ?_;conv=>whnf)|(refine cT (by rfl) ?_;conv=>whnf)|(refine cF (by rfl) ?_;conv=>whnf)))
  refine ⟨_, rfl, ho.cells, ?_⟩
  ((conv=>whnf);repeat(first|(refine mvT ?_;conv=>whnf)|(refine mvF ?_;conv=>whnf)|(refine cT (by rfl) ?_;conv=>whnf)|(refine cF (by rfl) ?_;conv=>whnf)))
  refine Does.mono (iat_does (ht0.ext hx0 fun k _ h => (hR0 k h).2) 1) ?_
  rintro ra wa ⟨hra, hxa⟩
  obtain ⟨sva, lva, uva, lsa, rfl, hna, hsa, hla, helsa, hua⟩ := hra.open
  ((conv=>whnf);repeat(first|(refine mvT ?_;conv=>whnf)|(refine mvF ?_;conv=>whnf)|(refine cT (by rfl) ?_;conv=>whnf)|(refine cF (by rfl) ?_;conv=>whnf)))
  refine ⟨_, _, hsa, ?_⟩
  ((conv=>whnf);repeat(first|(refine mvT ?_;conv=>whnf)|(refine mvF ?_;conv=>whnf)|(refine cT (by rfl) ?_;conv=>whnf)|(refine cF (by rfl) ?_;conv=>whnf)))
  refine st_cell (o := 1) (v := str (atT t 1).s) (hp.e0 hxa) (rfl) (by omega) rfl (by simp) (rfl) ?_
  intro wc hoc hxc
  have hp : Own wc p ty [.int .i32 (IntKind.i32.wrap (atT t 0).n), str (atT t 1).s, .int .i32 0, .pointer none, .map none] := hoc
  have ho := (ho.e0 hxa).ext hxc (Ne.symm hpb)
  have hx0 := (hx0.tr0 hxa).trans hxc fun _ _ h => h
  have hoq := (hoq.e0 hxa).ext hxc (Ne.symm hpq)
  ((conv=>whnf);repeat(first|(refine mvT ?_;conv=>whnf)|(refine mvF ?_;conv=>whnf)|(refine cT (by rfl) ?_;conv=>whnf)|(refine cF (by rfl) ?_;conv=>whnf)))
  refine ⟨_, rfl, ho.cells, ?_⟩
  ((conv=>whnf);repeat(first|(refine mvT ?_;conv=>whnf)|(refine mvF ?_;conv=>whnf)|(refine cT (by rfl) ?_;conv=>whnf)|(refine cF (by rfl) ?_;conv=>whnf)))
  refine Does.mono (iat_does (ht0.ext hx0 fun k _ h => (hR0 k h).2) 2) ?_
  rintro ra wa ⟨hra, hxa⟩
  obtain ⟨sva, lva, uva, lsa, rfl, hna, hsa, hla, helsa, hua⟩ := hra.open
  ((conv=>whnf);repeat(first|(refine mvT ?_;conv=>whnf)|(refine mvF ?_;conv=>whnf)|(refine cT (by rfl) ?_;conv=>whnf)|(refine cF (by rfl) ?_;conv=>whnf)))
  refine st_cell (o := 2) (v := .int .i32 (IntKind.i32.wrap (atT t 2).n)) (hp.e0 hxa) (rfl) (by omega) rfl (by simp) (rfl) ?_
  intro wc hoc hxc
  have hp : Own wc p ty [.int .i32 (IntKind.i32.wrap (atT t 0).n), str (atT t 1).s, .int .i32 (IntKind.i32.wrap (atT t 2).n), .pointer none, .map none] := hoc
  have ho := (ho.e0 hxa).ext hxc (Ne.symm hpb)
  have hx0 := (hx0.tr0 hxa).trans hxc fun _ _ h => h
  have hoq := (hoq.e0 hxa).ext hxc (Ne.symm hpq)
  ((conv=>whnf);repeat(first|(refine mvT ?_;conv=>whnf)|(refine mvF ?_;conv=>whnf)|(refine cT (by rfl) ?_;conv=>whnf)|(refine cF (by rfl) ?_;conv=>whnf)))
  refine ⟨_, rfl, ho.cells, ?_⟩
  ((conv=>whnf);repeat(first|(refine mvT ?_;conv=>whnf)|(refine mvF ?_;conv=>whnf)|(refine cT (by rfl) ?_;conv=>whnf)|(refine cF (by rfl) ?_;conv=>whnf)))
  refine Does.mono (iat_does (ht0.ext hx0 fun k _ h => (hR0 k h).2) 3) ?_
  rintro ra wa ⟨hra, hxa⟩
  ((conv=>whnf);repeat(first|(refine mvT ?_;conv=>whnf)|(refine mvF ?_;conv=>whnf)|(refine cT (by rfl) ?_;conv=>whnf)|(refine cF (by rfl) ?_;conv=>whnf)))
  have hq := (hp.e0 hxa).lt
  have hq2 := (hx0.tr0 hxa).size
  refine Does.mono (textOf_does hra) ?_
  rintro c3 wb ⟨hc3, h1, hxb⟩
  have hc3 := hc3.mono (F' := (fun k => k ≠ p ∧ k ≠ q ∧ (R0 k ∨ w0.heap.size ≤ k))) fun k _ h => ⟨by omega, by omega, .inr (by omega)⟩
  have hxa := hxa.e0 hxb
  ((conv=>whnf);repeat(first|(refine mvT ?_;conv=>whnf)|(refine mvF ?_;conv=>whnf)|(refine cT (by rfl) ?_;conv=>whnf)|(refine cF (by rfl) ?_;conv=>whnf)))
  refine st_cell (o := 3) (v := c3) (hp.e0 hxa) (cells_one h1) (by omega) rfl (by simp) (h1) ?_
  intro wc hoc hxc
  have hp : Own wc p ty [.int .i32 (IntKind.i32.wrap (atT t 0).n), str (atT t 1).s, .int .i32 (IntKind.i32.wrap (atT t 2).n), c3, .map none] := hoc
  have ho := (ho.e0 hxa).ext hxc (Ne.symm hpb)
  have hx0 := (hx0.tr0 hxa).trans hxc fun _ _ h => h
  have hoq := (hoq.e0 hxa).ext hxc (Ne.symm hpq)
  have hc3 := hc3.ext hxc fun k _ h => h.1
  ((conv=>whnf);repeat(first|(refine mvT ?_;conv=>whnf)|(refine mvF ?_;conv=>whnf)|(refine cT (by rfl) ?_;conv=>whnf)|(refine cF (by rfl) ?_;conv=>whnf)))
  refine ldS (ho.cell rfl) ?_;((conv=>whnf);repeat(first|(refine mvT ?_;conv=>whnf)|(refine mvF ?_;conv=>whnf)|(refine cT (by rfl) ?_;conv=>whnf)|(refine cF (by rfl) ?_;conv=>whnf)))
  have hpN := hp.lt
  have h0N := hx0.size
  refine VL.loop (fun s : Nat × Value => [(1, .pointer (some ⟨b, 0, none⟩)), (2, .pointer (some ⟨q, 0, none⟩)), (3, .pointer (some ⟨p, 0, none⟩)), (26, .slice au us.length cu), (27, .int .i64 us.length), (28, .int .i64 s.1)])
    (fun s w' => (Ext (fun k => k = p) w0 w' ∧ Ext (fun k => k = p ∨ wc.heap.size ≤ k) wc w' ∧ s.1 ≤ us.length) ∧ Own w' p ty [.int .i32 (IntKind.i32.wrap (atT t 0).n), str (atT t 1).s, .int .i32 (IntKind.i32.wrap (atT t 2).n), c3, s.2] ∧ TagsO w' wc.heap.size R0 s.2 (t.u.take s.1)) (fun s => us.length - s.1) (0, .map none)
    ⟨rfl, rfl, rfl, rfl, rfl, rfl, trivial⟩ ⟨⟨hx0, Ext.refl _ _, Nat.zero_le _⟩, hp, TagsO.nil _ _ _⟩ ?_
  rintro ⟨i, m⟩ w9 ⟨⟨hx09, hxc9, hi⟩, hp9, hm9⟩
  dsimp only at hi hp9 hm9
  ((conv=>whnf);repeat(first|(refine mvT ?_;conv=>whnf)|(refine mvF ?_;conv=>whnf)|(refine cT (by rfl) ?_;conv=>whnf)|(refine cF (by rfl) ?_;conv=>whnf)))
  refine cI (by rfl) (fun h9=>?_) (fun h9=>?_)
  · have hil : i < us.length := by have := of_decide_eq_true h9; simp only at this; omega
    have hilu : i < t.u.length := by omega
    obtain ⟨hkey, bv, hci, hbv⟩ := huc i us[i] t.u[i] (by simp [hil]) (by simp [hilu])
    obtain ⟨b10, o10, rfl, hc10⟩ := husC i us[i] (by simp [hil])
    have hb10 := husF b10 o10 rfl (by omega)
    rw [hci] at hc10
    obtain ⟨av, cv, rfl, _⟩ := hbv.view
    have hc10 := hc10.ext hx09 (hR0 _ hb10.1).2
    have hbv9 := hbv.ext hx09 fun k _ h => (hR0 k h).2
    ((conv=>whnf);repeat(first|(refine mvT ?_;conv=>whnf)|(refine mvF ?_;conv=>whnf)|(refine cT (by rfl) ?_;conv=>whnf)|(refine cF (by rfl) ?_;conv=>whnf)))
    refine ⟨b10, o10, rfl, ⟨by omega, by omega⟩, ?_⟩
    ((conv=>whnf);repeat(first|(refine mvT ?_;conv=>whnf)|(refine mvF ?_;conv=>whnf)|(refine cT (by rfl) ?_;conv=>whnf)|(refine cF (by rfl) ?_;conv=>whnf)))
    refine ⟨_, rfl, by rw [Int.toNat_natCast]; exact hc10, ?_⟩
    ((conv=>whnf);repeat(first|(refine mvT ?_;conv=>whnf)|(refine mvF ?_;conv=>whnf)|(refine cT (by rfl) ?_;conv=>whnf)|(refine cF (by rfl) ?_;conv=>whnf)))
    intro b11 w11 hb11 ho11 hx11
    ((conv=>whnf);repeat(first|(refine mvT ?_;conv=>whnf)|(refine mvF ?_;conv=>whnf)|(refine cT (by rfl) ?_;conv=>whnf)|(refine cF (by rfl) ?_;conv=>whnf)))
    refine st_all [.int .u32 (t.u[i].1 : Int), .slice av (t.u[i]).2.length cv] ho11 rfl rfl rfl ?_
    intro w12 ho12 hx12
    have hx912 : Ext nob w9 w12 := (hx11.st hx12 hb11)
    ((conv=>whnf);repeat(first|(refine mvT ?_;conv=>whnf)|(refine mvF ?_;conv=>whnf)|(refine cT (by rfl) ?_;conv=>whnf)|(refine cF (by rfl) ?_;conv=>whnf)))
    refine ldS (ho12.cell rfl) ?_;((conv=>whnf);repeat(first|(refine mvT ?_;conv=>whnf)|(refine mvF ?_;conv=>whnf)|(refine cT (by rfl) ?_;conv=>whnf)|(refine cF (by rfl) ?_;conv=>whnf)))
    refine ldS (ho12.cell rfl) ?_;((conv=>whnf);repeat(first|(refine mvT ?_;conv=>whnf)|(refine mvF ?_;conv=>whnf)|(refine cT (by rfl) ?_;conv=>whnf)|(refine cF (by rfl) ?_;conv=>whnf)))
    have hnew : ∀ x, x ∈ t.u.take i → x.1 ≠ (t.u[i]).1 := by
      intro x hx
      obtain ⟨j, hj, rfl⟩ := List.mem_take_iff_getElem.1 hx
      have := List.pairwise_iff_getElem.1 hok.2.rise j i (by omega) hilu (by omega)
      omega
    refine Does.mono (Tags_Set_does (o := 4) (N := wc.heap.size) (hp9.e0 hx912) rfl (hm9.e0 hx912) (Nat.le_trans hxc9.size hx912.size) hpN (fun k h => ⟨by have := (hR0 k h).1; omega, (hR0 k h).2⟩) (hbv9.e0 hx912) hnew) ?_
    rintro r13 w13 ⟨m13, hone, hp13, hm13, hx13⟩
    ((conv=>whnf);repeat(first|(refine mvT ?_;conv=>whnf)|(refine mvF ?_;conv=>whnf)|(refine cT (by rfl) ?_;conv=>whnf)|(refine cF (by rfl) ?_;conv=>whnf)))
    have hx913 : Ext (fun k => k = p ∨ wc.heap.size ≤ k) w9 w13 := (hx912.mono fun _ _ f => f.elim).trans hx13 fun _ _ h => h
    refine ⟨(i + 1, m13), ⟨rfl, rfl, rfl, rfl, rfl, inc_eq (by rw [maxLen_eq] at husm; omega), trivial⟩, ⟨⟨hx09.trans hx913 fun k hk h => by omega, hxc9.trans hx913 fun _ _ h => h, by simp only; omega⟩, hp13, ?_⟩, by simp only; omega⟩
    rw [List.take_succ_eq_append_getElem hilu]
    exact hm13
  have hil : i = us.length := by have := of_decide_eq_false h9; simp only at this; omega
  ((conv=>whnf);repeat(first|(refine mvT ?_;conv=>whnf)|(refine mvF ?_;conv=>whnf)|(refine cT (by rfl) ?_;conv=>whnf)|(refine cF (by rfl) ?_;conv=>whnf)))
  rw [hil, husl, List.take_length] at hm9
  refine ⟨_, rfl, hp9.cells, ?_⟩
  ((conv=>whnf);repeat(first|(refine mvT ?_;conv=>whnf)|(refine mvF ?_;conv=>whnf)|(refine cT (by rfl) ?_;conv=>whnf)|(refine cF (by rfl) ?_;conv=>whnf)))
  have hoq9 := hoq.ext hxc9 (by have := hoq.lt; omega)
  have hc3 := hc3.ext hxc9 (fun k _ h => by have := h.1; omega)
  have hokc : okCells [.int .i32 (IntKind.i32.wrap (atT t 0).n), str (atT t 1).s, .int .i32 (IntKind.i32.wrap (atT t 2).n), c3, m] = true := ok_cons rfl (ok_cons rfl (ok_cons rfl (ok_cons hc3.one (ok_cons hm9.tags.one (ok_nil)))))
  refine st_all [.int .i32 (IntKind.i32.wrap (atT t 0).n), str (atT t 1).s, .int .i32 (IntKind.i32.wrap (atT t 2).n), c3, m] hoq9 rfl hqlen hokc ?_
  intro we hoe hxe
  ((conv=>whnf);repeat(first|(refine mvT ?_;conv=>whnf)|(refine mvF ?_;conv=>whnf)|(refine cT (by rfl) ?_;conv=>whnf)|(refine cF (by rfl) ?_;conv=>whnf)))
  refine ⟨_, rfl, hoe.cells, ?_⟩
  have hxn : Ext nob w0 w9 := (Ext.refl nob w0).trans hx09 fun k hk e => by omega
  exact ⟨_, rfl, hokc, ⟨c3, m, rfl, (hc3.ext hxe (fun k _ h => h.2.1)).mono (fun k _ h => h.2.2.imp (hRF k) id), (hm9.tags.ext hxe (fun k _ h e => by rcases h with h | h; (have := (hR0 k h).1; omega); omega)).mono fun k _ h => h.imp (hRF k) (fun h => by omega)⟩, hxn.trans hxe fun k hk e => by omega⟩
theorem makeMetadataResponseTopicPartition {F : Nat → Prop} {w0 : World} {u : Int} {x : Value} {t : T} (ht : Tr w0 F x t) (hok : partOK 7 u dMetadataResponseTopicPartition t) :
    Does X.P 55 #[x] w0 fun r w' => ∃ cs : List Value, r = .agg cs.toArray ∧ okCells cs = true ∧ rMetadataResponseTopicPartition w' (fun k => F k ∨ w0.heap.size ≤ k) cs t ∧ Ext nob w0 w' := by
  obtain ⟨R0, hR0, hRF, ht0⟩ : ∃ R0 : Nat → Prop, (∀ k, R0 k → k < w0.heap.size) ∧ (∀ k, R0 k → F k) ∧ Tr w0 R0 x t := ⟨fun k => k < w0.heap.size ∧ F k, fun k h => h.1, fun k h => h.2, ht.mono fun k h1 h2 => ⟨h1, h2⟩⟩
  clear ht
  obtain ⟨sv, lv, uv, ls, rfl, hn, hs, hl, hels, htg⟩ := ht0.open
  obtain ⟨us, hus, husl, huc⟩ := id htg
  obtain ⟨au, cu, rfl, husc, husm, husF, _, husC⟩ := hus.view
  refine Does.go (X := X) (l := [_]) Tryz.func55 rfl (by kernel_rfl) (by kernel_rfl) _ rfl ?_
  ((conv=>whnf);repeat(first|(refine mvT ?_;conv=>whnf)|(refine mvF ?_;conv=>whnf)|(refine cT (by rfl) ?_;conv=>whnf)|(refine cF (by rfl) ?_;conv=>whnf)))
  intro b wb hb ho hx
  ((conv=>whnf);repeat(first|(refine mvT ?_;conv=>whnf)|(refine mvF ?_;conv=>whnf)|(refine cT (by rfl) ?_;conv=>whnf)|(refine cF (by rfl) ?_;conv=>whnf)))
  intro q wq hqb hoq hxq
  ((conv=>whnf);repeat(first|(refine mvT ?_;conv=>whnf)|(refine mvF ?_;conv=>whnf)|(refine cT (by rfl) ?_;conv=>whnf)|(refine cF (by rfl) ?_;conv=>whnf)))
  intro p wc hpB hp hxp
  have hbl := ho.lt
  have hql := hoq.lt
  have hs1 := hx.size
  have hs2 := hxq.size
  have hpb : p ≠ b := by omega
  have hpq : p ≠ q := by omega
  have hwp : w0.heap.size ≤ p := by omega
  have hR0 : ∀ k, R0 k → k < w0.heap.size ∧ k ≠ p := fun k h => ⟨hR0 k h, by have := hR0 k h; omega⟩
  obtain ⟨ty, hp⟩ : ∃ T, Own wc p T [.int .i16 0, .int .i32 0, .int .i32 0, .int .i32 0, .slice none 0 0, .slice none 0 0, .slice none 0 0, .map none] := ⟨_, hp⟩
  have ho : Own wc b ImplTreeT [.int .i64 t.n, sv, .bool t.nl, lv, .slice au us.length cu] := (ho.e0 hxq).e0 hxp
  have hoq := hoq.e0 hxp
  obtain ⟨qT, qL, hqlen, hoq⟩ : ∃ T L, L.length = 8 ∧ Own wc q T L := ⟨_, _, rfl, hoq⟩
  have hx0 : Ext (fun k => k = p) w0 wc := ((hx.e0 hxq).e0 hxp).mono fun _ _ f => f.elim
  ((conv=>whnf);repeat(first|(refine mvT ?_;conv=>whnf)|(refine mvF ?_;conv=>whnf)|(refine cT (by rfl) ?_;conv=>whnf)|(refine cF (by rfl) ?_;conv=>whnf)))
  refine ⟨_, rfl, ho.cells, ?_⟩
  ((conv=>whnf);repeat(first|(refine mvT ?_;conv=>whnf)|(refine mvF ?_;conv=>whnf)|(refine cT (by rfl) ?_;conv=>whnf)|(refine cF (by rfl) ?_;conv=>whnf)))
  refine Does.mono (iat_does (ht0.ext hx0 fun k _ h => (hR0 k h).2) 0) ?_
  rintro ra wa ⟨hra, hxa⟩
  obtain ⟨sva, lva, uva, lsa, rfl, hna, hsa, hla, helsa, hua⟩ := hra.open
  ((conv=>whnf);repeat(first|(refine mvT ?_;conv=>whnf)|(refine mvF ?_;conv=>whnf)|(refine cT (by rfl) ?_;conv=>whnf)|(refine cF (by rfl) ?_;conv=>whnf)))
  refine st_cell (o := 0) (v := .int .i16 (IntKind.i16.wrap (atT t 0).n)) (hp.e0 hxa) (rfl) (by omega) rfl (by simp) (rfl) ?_
  intro wc hoc hxc
  have hp : Own wc p ty [.int .i16 (IntKind.i16.wrap (atT t 0).n), .int .i32 0, .int .i32 0, .int .i32 0, .slice none 0 0, .slice none 0 0, .slice none 0 0, .map none] := hoc
  have ho := (ho.e0 hxa).ext hxc (Ne.symm hpb)
  have hx0 := (hx0.tr0 hxa).trans hxc fun _ _ h => h
  have hoq := (hoq.e0 hxa).ext hxc (Ne.symm hpq)
  ((conv=>whnf);repeat(first|(refine mvT ?_;conv=>whnf)|(refine mvF ?_;conv=>whnf)|(refine cT (by rfl) ?_;conv=>whnf)|(refine cF (by rfl) ?_;conv=>whnf)))
  refine ⟨_, rfl, ho.cells, ?_⟩
  ((conv=>whnf);repeat(first|(refine mvT ?_;conv=>whnf)|(refine mvF ?_;conv=>whnf)|(refine cT (by rfl) ?_;conv=>whnf)|(refine cF (by rfl) ?_;conv=>whnf)))
  refine Does.mono (iat_does (ht0.ext hx0 fun k _ h => (hR0 k h).2) 1) ?_
  rintro ra wa ⟨hra, hxa⟩
  obtain ⟨sva, lva, uva, lsa, rfl, hna, hsa, hla, helsa, hua⟩ := hra.open
  ((conv=>whnf);repeat(first|(refine mvT ?_;conv=>whnf)|(refine mvF ?_;conv=>whnf)|(refine cT (by rfl) ?_;conv=>whnf)|(refine cF (by rfl) ?_;conv=>whnf)))
  refine st_cell (o := 1) (v := .int .i32 (IntKind.i32.wrap (atT t 1).n)) (hp.e0 hxa) (rfl) (by omega) rfl (by simp) (rfl) ?_
  intro wc hoc hxc
  have hp : Own wc p ty [.int .i16 (IntKind.i16.wrap (atT t 0).n), .int .i32 (IntKind.i32.wrap (atT t 1).n), .int .i32 0, .int .i32 0, .slice none 0 0, .slice none 0 0, .slice none 0 0, .map none] := hoc
  have ho := (ho.e0 hxa).ext hxc (Ne.symm hpb)
  have hx0 := (hx0.tr0 hxa).trans hxc fun _ _ h => h
  have hoq := (hoq.e0 hxa).ext hxc (Ne.symm hpq)
  ((conv=>whnf);repeat(first|(refine mvT ?_;conv=>whnf)|(refine mvF ?_;conv=>whnf)|(refine cT (by rfl) ?_;conv=>whnf)|(refine cF (by rfl) ?_;conv=>whnf)))
  refine ⟨_, rfl, ho.cells, ?_⟩
  ((conv=>whnf);repeat(first|(refine mvT ?_;conv=>whnf)|(refine mvF ?_;conv=>whnf)|(refine cT (by rfl) ?_;conv=>whnf)|(refine cF (by rfl) ?_;conv=>whnf)))
  refine Does.mono (iat_does (ht0.ext hx0 fun k _ h => (hR0 k h).2) 2) ?_
  rintro ra wa ⟨hra, hxa⟩
  obtain ⟨sva, lva, uva, lsa, rfl, hna, hsa, hla, helsa, hua⟩ := hra.open
  ((conv=>whnf);repeat(first|(refine mvT ?_;conv=>whnf)|(refine mvF ?_;conv=>whnf)|(refine cT (by rfl) ?_;conv=>whnf)|(refine cF (by rfl) ?_;conv=>whnf)))
  refine st_cell (o := 2) (v := .int .i32 (IntKind.i32.wrap (atT t 2).n)) (hp.e0 hxa) (rfl) (by omega) rfl (by simp) (rfl) ?_
  intro wc hoc hxc
  have hp : Own wc p ty [.int .i16 (IntKind.i16.wrap (atT t 0).n), .int .i32 (IntKind.i32.wrap (atT t 1).n), .int .i32 (IntKind.i32.wrap (atT t 2).n), .int .i32 0, .slice none 0 0, .slice none 0 0, .slice none 0 0, .map none] := hoc
  have ho := (ho.e0 hxa).ext hxc (Ne.symm hpb)
  have hx0 := (hx0.tr0 hxa).trans hxc fun _ _ h => h
  have hoq := (hoq.e0 hxa).ext hxc (Ne.symm hpq)
  ((conv=>whnf);repeat(first|(refine mvT ?_;conv=>whnf)|(refine mvF ?_;conv=>whnf)|(refine cT (by rfl) ?_;conv=>whnf)|(refine cF (by rfl) ?_;conv=>whnf)))
  refine ⟨_, rfl, ho.cells, ?_⟩
  ((conv=>whnf);repeat(first|(refine mvT ?_;conv=>whnf)|(refine mvF ?_;conv=>whnf)|(refine cT (by rfl) ?_;conv=>whnf)|(refine cF (by rfl) ?_;conv=>whnf)))
  refine Does.mono (iat_does (ht0.ext hx0 fun k _ h => (hR0 k h).2) 3) ?_
  rintro ra wa ⟨hra, hxa⟩
  obtain ⟨sva, lva, uva, lsa, rfl, hna, hsa, hla, helsa, hua⟩ := hra.open
  ((conv=>whnf);repeat(first|(refine mvT ?_;conv=>whnf)|(refine mvF ?_;conv=>whnf)|(refine cT (by rfl) ?_;conv=>whnf)|(refine cF (by rfl) ?_;conv=>whnf)))
  refine st_cell (o := 3) (v := .int .i32 (IntKind.i32.wrap (atT t 3).n)) (hp.e0 hxa) (rfl) (by omega) rfl (by simp) (rfl) ?_
  intro wc hoc hxc
  have hp : Own wc p ty [.int .i16 (IntKind.i16.wrap (atT t 0).n), .int .i32 (IntKind.i32.wrap (atT t 1).n), .int .i32 (IntKind.i32.wrap (atT t 2).n), .int .i32 (IntKind.i32.wrap (atT t 3).n), .slice none 0 0, .slice none 0 0, .slice none 0 0, .map none] := hoc
  have ho := (ho.e0 hxa).ext hxc (Ne.symm hpb)
  have hx0 := (hx0.tr0 hxa).trans hxc fun _ _ h => h
  have hoq := (hoq.e0 hxa).ext hxc (Ne.symm hpq)
  ((conv=>whnf);repeat(first|(refine mvT ?_;conv=>whnf)|(refine mvF ?_;conv=>whnf)|(refine cT (by rfl) ?_;conv=>whnf)|(refine cF (by rfl) ?_;conv=>whnf)))
  have hfl := fieldOK_list (hok.1 4 _ rfl)
  refine ⟨_, rfl, ho.cells, ?_⟩
  ((conv=>whnf);repeat(first|(refine mvT ?_;conv=>whnf)|(refine mvF ?_;conv=>whnf)|(refine cT (by rfl) ?_;conv=>whnf)|(refine cF (by rfl) ?_;conv=>whnf)))
  refine Does.mono (iat_does (ht0.ext hx0 fun k _ h => (hR0 k h).2) 4) ?_
  rintro ra wa ⟨hra, hxa⟩
  obtain ⟨sva, lva, uva, lsa, rfl, hna, hsa, hla, helsa, hua⟩ := hra.open
  ((conv=>whnf);repeat(first|(refine mvT ?_;conv=>whnf)|(refine mvF ?_;conv=>whnf)|(refine cT (by rfl) ?_;conv=>whnf)|(refine cF (by rfl) ?_;conv=>whnf)))
  refine VC.cutE (fun c : Value => [(1, .pointer (some ⟨b, 0, none⟩)), (2, .pointer (some ⟨q, 0, none⟩)), (3, .pointer (some ⟨p, 0, none⟩))]) (fun c w' => Ext (fun k => k = p) w0 w' ∧ Own w' p ty [.int .i16 (IntKind.i16.wrap (atT t 0).n), .int .i32 (IntKind.i32.wrap (atT t 1).n), .int .i32 (IntKind.i32.wrap (atT t 2).n), .int .i32 (IntKind.i32.wrap (atT t 3).n), c, .slice none 0 0, .slice none 0 0, .map none] ∧ Own w' b ImplTreeT [.int .i64 t.n, sv, .bool t.nl, lv, .slice au us.length cu] ∧ Own w' q qT qL ∧ ListR true 1 (fun c x => c = [.int .i32 (IntKind.i32.wrap x.n)]) w' (fun k => k ≠ p ∧ k ≠ q ∧ (R0 k ∨ w0.heap.size ≤ k)) c (atT t 4)) ?_ ?_
  · refine cI (by rfl) (fun hnl=>?_) (fun hnl=>?_)
    · have hnl : (atT t 4).nl = false := by simpa using hnl
      ((conv=>whnf);repeat(first|(refine mvT ?_;conv=>whnf)|(refine mvF ?_;conv=>whnf)|(refine cT (by rfl) ?_;conv=>whnf)|(refine cF (by rfl) ?_;conv=>whnf)))
      have hx1 := hx0.tr0 hxa
      refine ⟨_, rfl, (ho.e0 hxa).cells, ?_⟩
      ((conv=>whnf);repeat(first|(refine mvT ?_;conv=>whnf)|(refine mvF ?_;conv=>whnf)|(refine cT (by rfl) ?_;conv=>whnf)|(refine cF (by rfl) ?_;conv=>whnf)))
      refine Does.mono (iat_does (ht0.ext hx1 fun k _ h => (hR0 k h).2) 4) ?_
      rintro r5 w5 ⟨hr5, hx5⟩
      obtain ⟨sv5, lv5, uv5, ls5, rfl, hn5, hs5, hl5, hels5, hu5⟩ := hr5.open
      obtain ⟨a5, kc5, rfl, _⟩ := hl5.view
      have hlen5 := hels5.len
      ((conv=>whnf);repeat(first|(refine mvT ?_;conv=>whnf)|(refine mvF ?_;conv=>whnf)|(refine cT (by rfl) ?_;conv=>whnf)|(refine cF (by rfl) ?_;conv=>whnf)))
      refine ⟨⟨by omega, by omega, by omega, by simp only [Int.toNat_natCast]; omega⟩, ⟨by decide, rfl⟩, ?_⟩
      intro b6 w6 hb6 ho6 hx6
      ((conv=>whnf);repeat(first|(refine mvT ?_;conv=>whnf)|(refine mvF ?_;conv=>whnf)|(refine cT (by rfl) ?_;conv=>whnf)|(refine cF (by rfl) ?_;conv=>whnf)))
      have hx56 := (hxa.e0 hx5).e0 hx6
      have hsz5 := (hxa.e0 hx5).size
      have hszc := hx0.size
      have hb6l := ho6.lt
      have hplc := hp.lt
      have hblc := ho.lt
      refine st_cell (o := 4) (v := .slice (some ⟨b6, 0, none⟩) 0 ls5.length) (hp.e0 hx56) rfl (by omega) rfl (by simp) rfl ?_
      intro w7 ho7 hx7
      ((conv=>whnf);repeat(first|(refine mvT ?_;conv=>whnf)|(refine mvF ?_;conv=>whnf)|(refine cT (by rfl) ?_;conv=>whnf)|(refine cF (by rfl) ?_;conv=>whnf)))
      have hx7c : Ext (fun k => k = p) wc w7 := (hx56.mono fun _ _ f => f.elim).trans hx7 fun _ _ h => h
      have hx07 := hx0.trans hx7c fun _ _ h => h
      refine ⟨_, rfl, (ho.ext hx7c (Ne.symm hpb)).cells, ?_⟩
      ((conv=>whnf);repeat(first|(refine mvT ?_;conv=>whnf)|(refine mvF ?_;conv=>whnf)|(refine cT (by rfl) ?_;conv=>whnf)|(refine cF (by rfl) ?_;conv=>whnf)))
      refine Does.mono (iat_does (ht0.ext hx07 fun k _ h => (hR0 k h).2) 4) ?_
      rintro r8 w8 ⟨hr8, hx8⟩
      obtain ⟨sv8, lv8, uv8, ls8, rfl, hn8, hs8, hl8, hels8, hu8⟩ := hr8.open
      obtain ⟨a8, kc8, rfl, hkc8, hm8, hF8, _, hC8⟩ := hl8.view
      have hlen8 := hels8.len
      ((conv=>whnf);repeat(first|(refine mvT ?_;conv=>whnf)|(refine mvF ?_;conv=>whnf)|(refine cT (by rfl) ?_;conv=>whnf)|(refine cF (by rfl) ?_;conv=>whnf)))
      have hx8c : Ext (fun k => k = p ∨ wc.heap.size ≤ k) wc w8 := (hx7c.tr0 hx8).mono fun _ _ h => .inl h
      have hx08 := hx07.tr0 hx8
      have hos8 := (OSl.mk0 (sz := 1) (n := ls5.length) (ho6.ext hx7 (by omega)) (by simp) (by rw [maxLen_eq]; omega) (B := wc.heap.size) (by omega)).e0 hx8
      refine VL.loop (fun s : Nat × Value => [(1, .pointer (some ⟨b, 0, none⟩)), (2, .pointer (some ⟨q, 0, none⟩)), (3, .pointer (some ⟨p, 0, none⟩)), (44, .slice a8 ls8.length kc8), (45, .int .i64 ls8.length), (46, .int .i64 s.1)])
        (fun s w' => (Ext (fun k => k = p) w0 w' ∧ Ext (fun k => k = p ∨ wc.heap.size ≤ k) wc w' ∧ Ext (fun k => k = p ∨ w0.heap.size ≤ k) w8 w' ∧ s.1 ≤ ls8.length ∧ s.2 ≠ .slice none 0 0) ∧ Own w' p ty [.int .i16 (IntKind.i16.wrap (atT t 0).n), .int .i32 (IntKind.i32.wrap (atT t 1).n), .int .i32 (IntKind.i32.wrap (atT t 2).n), .int .i32 (IntKind.i32.wrap (atT t 3).n), s.2, .slice none 0 0, .slice none 0 0, .map none] ∧ ∃ es : List (List Value), OSl w' wc.heap.size 21 1 s.2 es ∧ es.length = s.1 ∧ ∀ (j : Nat) (c : List Value) (x : T), es[j]? = some c → (atT t 4).l[j]? = some x → c = [.int .i32 (IntKind.i32.wrap (x).n)]) (fun s => ls8.length - s.1) (0, .slice (some ⟨b6, 0, none⟩) 0 ls5.length)
        ⟨rfl, rfl, rfl, rfl, rfl, rfl, trivial⟩ ⟨⟨hx08, hx8c, Ext.refl _ _, Nat.zero_le _, by simp⟩, ho7.e0 hx8, [], hos8, rfl, by simp⟩ ?_
      rintro ⟨i, sl⟩ w9 ⟨⟨hx09, hxc9, hx89, hi, hnn⟩, hp9, es, hos9, hesl, hesr⟩
      dsimp only at hi hp9 hos9 hesl hesr hnn
      ((conv=>whnf);repeat(first|(refine mvT ?_;conv=>whnf)|(refine mvF ?_;conv=>whnf)|(refine cT (by rfl) ?_;conv=>whnf)|(refine cF (by rfl) ?_;conv=>whnf)))
      refine cI (by rfl) (fun h9=>?_) (fun h9=>?_)
      · have hil : i < ls8.length := by have := of_decide_eq_true h9; simp only at this; omega
        have hill : i < (atT t 4).l.length := by omega
        have htr := hels8.at' i ls8[i] (atT t 4).l[i] (by simp [hil]) (by simp [hill])
        obtain ⟨b10, o10, rfl, hc10⟩ := hC8 i ls8[i] (by simp [hil])
        have hb10 := hF8 b10 o10 rfl (by omega)
        have hc10 := hc10.ext hx89 (by have := hR0 _ hb10.1; omega)
        have htr9 := htr.ext hx89 fun k _ h => by have := hR0 _ h; omega
        ((conv=>whnf);repeat(first|(refine mvT ?_;conv=>whnf)|(refine mvF ?_;conv=>whnf)|(refine cT (by rfl) ?_;conv=>whnf)|(refine cF (by rfl) ?_;conv=>whnf)))
        refine ⟨b10, o10, rfl, ⟨by omega, by omega⟩, ?_⟩
        ((conv=>whnf);repeat(first|(refine mvT ?_;conv=>whnf)|(refine mvF ?_;conv=>whnf)|(refine cT (by rfl) ?_;conv=>whnf)|(refine cF (by rfl) ?_;conv=>whnf)))
        refine ⟨ls8[i], htr.len, by rw [Int.toNat_natCast]; exact hc10, ?_⟩
        ((conv=>whnf);repeat(first|(refine mvT ?_;conv=>whnf)|(refine mvF ?_;conv=>whnf)|(refine cT (by rfl) ?_;conv=>whnf)|(refine cF (by rfl) ?_;conv=>whnf)))
        intro b11 w11 hb11 ho11 hx11
        ((conv=>whnf);repeat(first|(refine mvT ?_;conv=>whnf)|(refine mvF ?_;conv=>whnf)|(refine cT (by rfl) ?_;conv=>whnf)|(refine cF (by rfl) ?_;conv=>whnf)))
        refine st_all ls8[i] ho11 htr.len rfl htr.ok ?_
        intro w12 ho12 hx12
        have hx912 : Ext nob w9 w12 := (hx11.st hx12 hb11)
        have htr12 := htr9.e0 hx912
        obtain ⟨sv6, lv6, uv6, ls6, hy, hn6, hsy, _⟩ := Tr.open ⟨ls8[i], rfl, htr12⟩
        have hci : ls8[i] = [.int .i64 ((atT t 4).l[i]).n, sv6, .bool ((atT t 4).l[i]).nl, lv6, uv6] := by
          have := congrArg Value.cells hy
          exact congrArg Array.toList this
        rw [hci] at ho12 htr12
        have hs912 := hx912.size
        have hs9c := hxc9.size
        ((conv=>whnf);repeat(first|(refine mvT ?_;conv=>whnf)|(refine mvF ?_;conv=>whnf)|(refine cT (by rfl) ?_;conv=>whnf)|(refine cF (by rfl) ?_;conv=>whnf)))
        refine ldS ((hp9.e0 hx912).cell rfl) ?_;((conv=>whnf);repeat(first|(refine mvT ?_;conv=>whnf)|(refine mvF ?_;conv=>whnf)|(refine cT (by rfl) ?_;conv=>whnf)|(refine cF (by rfl) ?_;conv=>whnf)))
        refine ldS (ho12.cell rfl) ?_;((conv=>whnf);repeat(first|(refine mvT ?_;conv=>whnf)|(refine mvF ?_;conv=>whnf)|(refine cT (by rfl) ?_;conv=>whnf)|(refine cF (by rfl) ?_;conv=>whnf)))
        intro b13 w14 hb13 ho13 hx13
        have hx913 := hx912.e0 hx13
        have hs913 := hx913.size
        ((conv=>whnf);repeat(first|(refine mvT ?_;conv=>whnf)|(refine mvF ?_;conv=>whnf)|(refine cT (by rfl) ?_;conv=>whnf)|(refine cF (by rfl) ?_;conv=>whnf)))
        refine app_struct (ms := [[.int .i32 (IntKind.i32.wrap ((atT t 4).l[i]).n)]]) rfl (hos9.e0 hx913) (src_one ho13 rfl rfl) (by simp) (rfl) rfl ⟨by simp only [List.length_singleton, hesl]; omega, by simp only [List.length_singleton, hesl]; omega⟩ (by omega) ?_
        intro v15 w15 hos15 hx15 hb15 hnn15
        obtain ⟨a15, n15, c15, rfl⟩ : ∃ a n c, v15 = .slice a n c := by
          obtain ⟨a, c, h, _⟩ := hos15.shape
          exact ⟨a, _, c, h⟩
        have hpsl : ¬ sl.ownBlock = some p := fun h => by have := hos9.blk p h; omega
        have ho15 := (hp9.e0 hx913).ext hx15 hpsl
        ((conv=>whnf);repeat(first|(refine mvT ?_;conv=>whnf)|(refine mvF ?_;conv=>whnf)|(refine cT (by rfl) ?_;conv=>whnf)|(refine cF (by rfl) ?_;conv=>whnf)))
        refine st_cell (o := 4) (v := .slice a15 n15 c15) ho15 rfl (by omega) rfl (by simp) rfl ?_
        intro w16 ho16 hx16
        ((conv=>whnf);repeat(first|(refine mvT ?_;conv=>whnf)|(refine mvF ?_;conv=>whnf)|(refine cT (by rfl) ?_;conv=>whnf)|(refine cF (by rfl) ?_;conv=>whnf)))
        have hx916 : Ext (fun k => k = p ∨ wc.heap.size ≤ k) w9 w16 := ((hx913.mono fun _ _ f => f.elim).trans hx15 fun k _ h => .inr (hos9.blk k h)).trans hx16 fun _ _ h => .inl h
        have hos16 := hos15.ext hx16 fun k hk h => by have := hos15.blk k hk; omega
        refine ⟨(i + 1, _), ⟨rfl, rfl, rfl, rfl, rfl, inc_eq (by rw [maxLen_eq] at hm8; omega), trivial⟩, ⟨⟨hx09.trans hx916 fun k hk h => by omega, hxc9.trans hx916 fun _ _ h => h, hx89.trans hx916 fun k hk h => by omega, by simp only; omega, hnn15 hnn⟩, ho16, es ++ [[.int .i32 (IntKind.i32.wrap ((atT t 4).l[i]).n)]], hos16, by simp [hesl], ?_⟩, by simp only; omega⟩
        intro j c x hj hx
        rcases Nat.lt_or_ge j es.length with hjl | hjl
        · rw [List.getElem?_append_left hjl] at hj
          exact hesr j c x hj hx
        · have hj0 : j = es.length := by have := (List.getElem?_eq_some_iff.1 hj).1; simp at this; omega
          subst hj0
          rw [List.getElem?_append_right (Nat.le_refl _), Nat.sub_self, List.getElem?_cons_zero, Option.some.injEq] at hj
          subst hj
          rw [hesl, List.getElem?_eq_getElem hill, Option.some.injEq] at hx
          subst hx
          rfl
      have hil : i = ls8.length := by have := of_decide_eq_false h9; simp only at this; omega
      ((conv=>whnf);repeat(first|(refine mvT ?_;conv=>whnf)|(refine mvF ?_;conv=>whnf)|(refine cT (by rfl) ?_;conv=>whnf)|(refine cF (by rfl) ?_;conv=>whnf)))
      have hli : ListR true 1 (fun c x => c = [.int .i32 (IntKind.i32.wrap x.n)]) w9 (fun k => k ≠ p ∧ k ≠ q ∧ (R0 k ∨ w0.heap.size ≤ k)) sl (atT t 4) := by
        refine .inr ⟨hnl, fun _ => ?_, es, hos9.sl fun k hk => ⟨by omega, by omega, .inr (by omega)⟩, by omega, fun j c x hj hx => hesr j c x hj hx⟩
        rcases hos9.own.2 with ⟨e, _⟩ | ⟨g, cap, cur, e, _⟩
        · exact absurd e hnn
        · exact ⟨_, _, _, e⟩
      exact ⟨sl, ⟨rfl, rfl, rfl, trivial⟩, hx09, hp9, ho.ext hxc9 (by omega), hoq.ext hxc9 (by have := hoq.lt; omega), hli⟩
    · have hnl : (atT t 4).nl = true := by simpa using hnl
      ((conv=>whnf);repeat(first|(refine mvT ?_;conv=>whnf)|(refine mvF ?_;conv=>whnf)|(refine cT (by rfl) ?_;conv=>whnf)|(refine cF (by rfl) ?_;conv=>whnf)))
      exact ⟨_, ⟨rfl, rfl, rfl, trivial⟩, hx0.tr0 hxa, hp.e0 hxa, ho.e0 hxa, hoq.e0 hxa, .inl ⟨hnl, rfl⟩⟩
  clear hfl
  rintro c4 wc ⟨hx0, hp, ho, hoq, hc4⟩
  ((conv=>whnf);repeat(first|(refine mvT ?_;conv=>whnf)|(refine mvF ?_;conv=>whnf)|(refine cT (by rfl) ?_;conv=>whnf)|(refine cF (by rfl) ?_;conv=>whnf)))
  have hfl := fieldOK_list (hok.1 5 _ rfl)
  refine ⟨_, rfl, ho.cells, ?_⟩
  ((conv=>whnf);repeat(first|(refine mvT ?_;conv=>whnf)|(refine mvF ?_;conv=>whnf)|(refine cT (by rfl) ?_;conv=>whnf)|(refine cF (by rfl) ?_;conv=>whnf)))
  refine Does.mono (iat_does (ht0.ext hx0 fun k _ h => (hR0 k h).2) 5) ?_
  rintro ra wa ⟨hra, hxa⟩
  obtain ⟨sva, lva, uva, lsa, rfl, hna, hsa, hla, helsa, hua⟩ := hra.open
  ((conv=>whnf);repeat(first|(refine mvT ?_;conv=>whnf)|(refine mvF ?_;conv=>whnf)|(refine cT (by rfl) ?_;conv=>whnf)|(refine cF (by rfl) ?_;conv=>whnf)))
  refine VC.cutE (fun c : Value => [(1, .pointer (some ⟨b, 0, none⟩)), (2, .pointer (some ⟨q, 0, none⟩)), (3, .pointer (some ⟨p, 0, none⟩))]) (fun c w' => Ext (fun k => k = p) w0 w' ∧ Own w' p ty [.int .i16 (IntKind.i16.wrap (atT t 0).n), .int .i32 (IntKind.i32.wrap (atT t 1).n), .int .i32 (IntKind.i32.wrap (atT t 2).n), .int .i32 (IntKind.i32.wrap (atT t 3).n), c4, c, .slice none 0 0, .map none] ∧ Own w' b ImplTreeT [.int .i64 t.n, sv, .bool t.nl, lv, .slice au us.length cu] ∧ Own w' q qT qL ∧ ListR true 1 (fun c x => c = [.int .i32 (IntKind.i32.wrap x.n)]) w' (fun k => k ≠ p ∧ k ≠ q ∧ (R0 k ∨ w0.heap.size ≤ k)) c4 (atT t 4) ∧ ListR true 1 (fun c x => c = [.int .i32 (IntKind.i32.wrap x.n)]) w' (fun k => k ≠ p ∧ k ≠ q ∧ (R0 k ∨ w0.heap.size ≤ k)) c (atT t 5)) ?_ ?_
  · refine cI (by rfl) (fun hnl=>?_) (fun hnl=>?_)
    · have hnl : (atT t 5).nl = false := by simpa using hnl
      ((conv=>whnf);repeat(first|(refine mvT ?_;conv=>whnf)|(refine mvF ?_;conv=>whnf)|(refine cT (by rfl) ?_;conv=>whnf)|(refine cF (by rfl) ?_;conv=>whnf)))
      have hx1 := hx0.tr0 hxa
      refine ⟨_, rfl, (ho.e0 hxa).cells, ?_⟩
      ((conv=>whnf);repeat(first|(refine mvT ?_;conv=>whnf)|(refine mvF ?_;conv=>whnf)|(refine cT (by rfl) ?_;conv=>whnf)|(refine cF (by rfl) ?_;conv=>whnf)))
      refine Does.mono (iat_does (ht0.ext hx1 fun k _ h => (hR0 k h).2) 5) ?_
      rintro r5 w5 ⟨hr5, hx5⟩
      obtain ⟨sv5, lv5, uv5, ls5, rfl, hn5, hs5, hl5, hels5, hu5⟩ := hr5.open
      obtain ⟨a5, kc5, rfl, _⟩ := hl5.view
      have hlen5 := hels5.len
      ((conv=>whnf);repeat(first|(refine mvT ?_;conv=>whnf)|(refine mvF ?_;conv=>whnf)|(refine cT (by rfl) ?_;conv=>whnf)|(refine cF (by rfl) ?_;conv=>whnf)))
      refine ⟨⟨by omega, by omega, by omega, by simp only [Int.toNat_natCast]; omega⟩, ⟨by decide, rfl⟩, ?_⟩
      intro b6 w6 hb6 ho6 hx6
      ((conv=>whnf);repeat(first|(refine mvT ?_;conv=>whnf)|(refine mvF ?_;conv=>whnf)|(refine cT (by rfl) ?_;conv=>whnf)|(refine cF (by rfl) ?_;conv=>whnf)))
      have hx56 := (hxa.e0 hx5).e0 hx6
      have hsz5 := (hxa.e0 hx5).size
      have hszc := hx0.size
      have hb6l := ho6.lt
      have hplc := hp.lt
      have hblc := ho.lt
      refine st_cell (o := 5) (v := .slice (some ⟨b6, 0, none⟩) 0 ls5.length) (hp.e0 hx56) rfl (by omega) rfl (by simp) rfl ?_
      intro w7 ho7 hx7
      ((conv=>whnf);repeat(first|(refine mvT ?_;conv=>whnf)|(refine mvF ?_;conv=>whnf)|(refine cT (by rfl) ?_;conv=>whnf)|(refine cF (by rfl) ?_;conv=>whnf)))
      have hx7c : Ext (fun k => k = p) wc w7 := (hx56.mono fun _ _ f => f.elim).trans hx7 fun _ _ h => h
      have hx07 := hx0.trans hx7c fun _ _ h => h
      refine ⟨_, rfl, (ho.ext hx7c (Ne.symm hpb)).cells, ?_⟩
      ((conv=>whnf);repeat(first|(refine mvT ?_;conv=>whnf)|(refine mvF ?_;conv=>whnf)|(refine cT (by rfl) ?_;conv=>whnf)|(refine cF (by rfl) ?_;conv=>whnf)))
      refine Does.mono (iat_does (ht0.ext hx07 fun k _ h => (hR0 k h).2) 5) ?_
      rintro r8 w8 ⟨hr8, hx8⟩
      obtain ⟨sv8, lv8, uv8, ls8, rfl, hn8, hs8, hl8, hels8, hu8⟩ := hr8.open
      obtain ⟨a8, kc8, rfl, hkc8, hm8, hF8, _, hC8⟩ := hl8.view
      have hlen8 := hels8.len
      ((conv=>whnf);repeat(first|(refine mvT ?_;conv=>whnf)|(refine mvF ?_;conv=>whnf)|(refine cT (by rfl) ?_;conv=>whnf)|(refine cF (by rfl) ?_;conv=>whnf)))
      have hx8c : Ext (fun k => k = p ∨ wc.heap.size ≤ k) wc w8 := (hx7c.tr0 hx8).mono fun _ _ h => .inl h
      have hx08 := hx07.tr0 hx8
      have hos8 := (OSl.mk0 (sz := 1) (n := ls5.length) (ho6.ext hx7 (by omega)) (by simp) (by rw [maxLen_eq]; omega) (B := wc.heap.size) (by omega)).e0 hx8
      refine VL.loop (fun s : Nat × Value => [(1, .pointer (some ⟨b, 0, none⟩)), (2, .pointer (some ⟨q, 0, none⟩)), (3, .pointer (some ⟨p, 0, none⟩)), (71, .slice a8 ls8.length kc8), (72, .int .i64 ls8.length), (73, .int .i64 s.1)])
        (fun s w' => (Ext (fun k => k = p) w0 w' ∧ Ext (fun k => k = p ∨ wc.heap.size ≤ k) wc w' ∧ Ext (fun k => k = p ∨ w0.heap.size ≤ k) w8 w' ∧ s.1 ≤ ls8.length ∧ s.2 ≠ .slice none 0 0) ∧ Own w' p ty [.int .i16 (IntKind.i16.wrap (atT t 0).n), .int .i32 (IntKind.i32.wrap (atT t 1).n), .int .i32 (IntKind.i32.wrap (atT t 2).n), .int .i32 (IntKind.i32.wrap (atT t 3).n), c4, s.2, .slice none 0 0, .map none] ∧ ∃ es : List (List Value), OSl w' wc.heap.size 21 1 s.2 es ∧ es.length = s.1 ∧ ∀ (j : Nat) (c : List Value) (x : T), es[j]? = some c → (atT t 5).l[j]? = some x → c = [.int .i32 (IntKind.i32.wrap (x).n)]) (fun s => ls8.length - s.1) (0, .slice (some ⟨b6, 0, none⟩) 0 ls5.length)
        ⟨rfl, rfl, rfl, rfl, rfl, rfl, trivial⟩ ⟨⟨hx08, hx8c, Ext.refl _ _, Nat.zero_le _, by simp⟩, ho7.e0 hx8, [], hos8, rfl, by simp⟩ ?_
      rintro ⟨i, sl⟩ w9 ⟨⟨hx09, hxc9, hx89, hi, hnn⟩, hp9, es, hos9, hesl, hesr⟩
      dsimp only at hi hp9 hos9 hesl hesr hnn
      ((conv=>whnf);repeat(first|(refine mvT ?_;conv=>whnf)|(refine mvF ?_;conv=>whnf)|(refine cT (by rfl) ?_;conv=>whnf)|(refine cF (by rfl) ?_;conv=>whnf)))
      refine cI (by rfl) (fun h9=>?_) (fun h9=>?_)
      · have hil : i < ls8.length := by have := of_decide_eq_true h9; simp only at this; omega
        have hill : i < (atT t 5).l.length := by omega
        have htr := hels8.at' i ls8[i] (atT t 5).l[i] (by simp [hil]) (by simp [hill])
        obtain ⟨b10, o10, rfl, hc10⟩ := hC8 i ls8[i] (by simp [hil])
        have hb10 := hF8 b10 o10 rfl (by omega)
        have hc10 := hc10.ext hx89 (by have := hR0 _ hb10.1; omega)
        have htr9 := htr.ext hx89 fun k _ h => by have := hR0 _ h; omega
        ((conv=>whnf);repeat(first|(refine mvT ?_;conv=>whnf)|(refine mvF ?_;conv=>whnf)|(refine cT (by rfl) ?_;conv=>whnf)|(refine cF (by rfl) ?_;conv=>whnf)))
        refine ⟨b10, o10, rfl, ⟨by omega, by omega⟩, ?_⟩
        ((conv=>whnf);repeat(first|(refine mvT ?_;conv=>whnf)|(refine mvF ?_;conv=>whnf)|(refine cT (by rfl) ?_;conv=>whnf)|(refine cF (by rfl) ?_;conv=>whnf)))
        refine ⟨ls8[i], htr.len, by rw [Int.toNat_natCast]; exact hc10, ?_⟩
        ((conv=>whnf);repeat(first|(refine mvT ?_;conv=>whnf)|(refine mvF ?_;conv=>whnf)|(refine cT (by rfl) ?_;conv=>whnf)|(refine cF (by rfl) ?_;conv=>whnf)))
        intro b11 w11 hb11 ho11 hx11
        ((conv=>whnf);repeat(first|(refine mvT ?_;conv=>whnf)|(refine mvF ?_;conv=>whnf)|(refine cT (by rfl) ?_;conv=>whnf)|(refine cF (by rfl) ?_;conv=>whnf)))
        refine st_all ls8[i] ho11 htr.len rfl htr.ok ?_
        intro w12 ho12 hx12
        have hx912 : Ext nob w9 w12 := (hx11.st hx12 hb11)
        have htr12 := htr9.e0 hx912
        obtain ⟨sv6, lv6, uv6, ls6, hy, hn6, hsy, _⟩ := Tr.open ⟨ls8[i], rfl, htr12⟩
        have hci : ls8[i] = [.int .i64 ((atT t 5).l[i]).n, sv6, .bool ((atT t 5).l[i]).nl, lv6, uv6] := by
          have := congrArg Value.cells hy
          exact congrArg Array.toList this
        rw [hci] at ho12 htr12
        have hs912 := hx912.size
        have hs9c := hxc9.size
        ((conv=>whnf);repeat(first|(refine mvT ?_;conv=>whnf)|(refine mvF ?_;conv=>whnf)|(refine cT (by rfl) ?_;conv=>whnf)|(refine cF (by rfl) ?_;conv=>whnf)))
        refine ldS ((hp9.e0 hx912).cell rfl) ?_;((conv=>whnf);repeat(first|(refine mvT ?_;conv=>whnf)|(refine mvF ?_;conv=>whnf)|(refine cT (by rfl) ?_;conv=>whnf)|(refine cF (by rfl) ?_;conv=>whnf)))
        refine ldS (ho12.cell rfl) ?_;((conv=>whnf);repeat(first|(refine mvT ?_;conv=>whnf)|(refine mvF ?_;conv=>whnf)|(refine cT (by rfl) ?_;conv=>whnf)|(refine cF (by rfl) ?_;conv=>whnf)))
        intro b13 w14 hb13 ho13 hx13
        have hx913 := hx912.e0 hx13
        have hs913 := hx913.size
        ((conv=>whnf);repeat(first|(refine mvT ?_;conv=>whnf)|(refine mvF ?_;conv=>whnf)|(refine cT (by rfl) ?_;conv=>whnf)|(refine cF (by rfl) ?_;conv=>whnf)))
        refine app_struct (ms := [[.int .i32 (IntKind.i32.wrap ((atT t 5).l[i]).n)]]) rfl (hos9.e0 hx913) (src_one ho13 rfl rfl) (by simp) (rfl) rfl ⟨by simp only [List.length_singleton, hesl]; omega, by simp only [List.length_singleton, hesl]; omega⟩ (by omega) ?_
        intro v15 w15 hos15 hx15 hb15 hnn15
        obtain ⟨a15, n15, c15, rfl⟩ : ∃ a n c, v15 = .slice a n c := by
          obtain ⟨a, c, h, _⟩ := hos15.shape
          exact ⟨a, _, c, h⟩
        have hpsl : ¬ sl.ownBlock = some p := fun h => by have := hos9.blk p h; omega
        have ho15 := (hp9.e0 hx913).ext hx15 hpsl
        ((conv=>whnf);repeat(first|(refine mvT ?_;conv=>whnf)|(refine mvF ?_;conv=>whnf)|(refine cT (by rfl) ?_;conv=>whnf)|(refine cF (by rfl) ?_;conv=>whnf)))
        refine st_cell (o := 5) (v := .slice a15 n15 c15) ho15 rfl (by omega) rfl (by simp) rfl ?_
        intro w16 ho16 hx16
        ((conv=>whnf);repeat(first|(refine mvT ?_;conv=>whnf)|(refine mvF ?_;conv=>whnf)|(refine cT (by rfl) ?_;conv=>whnf)|(refine cF (by rfl) ?_;conv=>whnf)))
        have hx916 : Ext (fun k => k = p ∨ wc.heap.size ≤ k) w9 w16 := ((hx913.mono fun _ _ f => f.elim).trans hx15 fun k _ h => .inr (hos9.blk k h)).trans hx16 fun _ _ h => .inl h
        have hos16 := hos15.ext hx16 fun k hk h => by have := hos15.blk k hk; omega
        refine ⟨(i + 1, _), ⟨rfl, rfl, rfl, rfl, rfl, inc_eq (by rw [maxLen_eq] at hm8; omega), trivial⟩, ⟨⟨hx09.trans hx916 fun k hk h => by omega, hxc9.trans hx916 fun _ _ h => h, hx89.trans hx916 fun k hk h => by omega, by simp only; omega, hnn15 hnn⟩, ho16, es ++ [[.int .i32 (IntKind.i32.wrap ((atT t 5).l[i]).n)]], hos16, by simp [hesl], ?_⟩, by simp only; omega⟩
        intro j c x hj hx
        rcases Nat.lt_or_ge j es.length with hjl | hjl
        · rw [List.getElem?_append_left hjl] at hj
          exact hesr j c x hj hx
        · have hj0 : j = es.length := by have := (List.getElem?_eq_some_iff.1 hj).1; simp at this; omega
          subst hj0
          rw [List.getElem?_append_right (Nat.le_refl _), Nat.sub_self, List.getElem?_cons_zero, Option.some.injEq] at hj
          subst hj
          rw [hesl, List.getElem?_eq_getElem hill, Option.some.injEq] at hx
          subst hx
          rfl
      have hil : i = ls8.length := by have := of_decide_eq_false h9; simp only at this; omega
      ((conv=>whnf);repeat(first|(refine mvT ?_;conv=>whnf)|(refine mvF ?_;conv=>whnf)|(refine cT (by rfl) ?_;conv=>whnf)|(refine cF (by rfl) ?_;conv=>whnf)))
      have hli : ListR true 1 (fun c x => c = [.int .i32 (IntKind.i32.wrap x.n)]) w9 (fun k => k ≠ p ∧ k ≠ q ∧ (R0 k ∨ w0.heap.size ≤ k)) sl (atT t 5) := by
        refine .inr ⟨hnl, fun _ => ?_, es, hos9.sl fun k hk => ⟨by omega, by omega, .inr (by omega)⟩, by omega, fun j c x hj hx => hesr j c x hj hx⟩
        rcases hos9.own.2 with ⟨e, _⟩ | ⟨g, cap, cur, e, _⟩
        · exact absurd e hnn
        · exact ⟨_, _, _, e⟩
      exact ⟨sl, ⟨rfl, rfl, rfl, trivial⟩, hx09, hp9, ho.ext hxc9 (by omega), hoq.ext hxc9 (by have := hoq.lt; omega), hc4.ext hxc9 (fun k _ h => by have := h.1; omega) (fun _ _ h => h), hli⟩
    · have hnl : (atT t 5).nl = true := by simpa using hnl
      ((conv=>whnf);repeat(first|(refine mvT ?_;conv=>whnf)|(refine mvF ?_;conv=>whnf)|(refine cT (by rfl) ?_;conv=>whnf)|(refine cF (by rfl) ?_;conv=>whnf)))
      exact ⟨_, ⟨rfl, rfl, rfl, trivial⟩, hx0.tr0 hxa, hp.e0 hxa, ho.e0 hxa, hoq.e0 hxa, hc4.ext hxa (fun _ _ _ f => f) (fun _ _ h => h), .inl ⟨hnl, rfl⟩⟩
  clear hfl
  rintro c5 wc ⟨hx0, hp, ho, hoq, hc4, hc5⟩
  ((conv=>whnf);repeat(first|(refine mvT ?_;conv=>whnf)|(refine mvF ?_;conv=>whnf)|(refine cT (by rfl) ?_;conv=>whnf)|(refine cF (by rfl) ?_;conv=>whnf)))
  have hfl := fieldOK_list (hok.1 6 _ rfl)
  refine ⟨_, rfl, ho.cells, ?_⟩
  ((conv=>whnf);repeat(first|(refine mvT ?_;conv=>whnf)|(refine mvF ?_;conv=>whnf)|(refine cT (by rfl) ?_;conv=>whnf)|(refine cF (by rfl) ?_;conv=>whnf)))
  refine Does.mono (iat_does (ht0.ext hx0 fun k _ h => (hR0 k h).2) 6) ?_
  rintro ra wa ⟨hra, hxa⟩
  obtain ⟨sva, lva, uva, lsa, rfl, hna, hsa, hla, helsa, hua⟩ := hra.open
  ((conv=>whnf);repeat(first|(refine mvT ?_;conv=>whnf)|(refine mvF ?_;conv=>whnf)|(refine cT (by rfl) ?_;conv=>whnf)|(refine cF (by rfl) ?_;conv=>whnf)))
  refine VC.cutE (fun c : Value => [(1, .pointer (some ⟨b, 0, none⟩)), (2, .pointer (some ⟨q, 0, none⟩)), (3, .pointer (some ⟨p, 0, none⟩))]) (fun c w' => Ext (fun k => k = p) w0 w' ∧ Own w' p ty [.int .i16 (IntKind.i16.wrap (atT t 0).n), .int .i32 (IntKind.i32.wrap (atT t 1).n), .int .i32 (IntKind.i32.wrap (atT t 2).n), .int .i32 (IntKind.i32.wrap (atT t 3).n), c4, c5, c, .map none] ∧ Own w' b ImplTreeT [.int .i64 t.n, sv, .bool t.nl, lv, .slice au us.length cu] ∧ Own w' q qT qL ∧ ListR true 1 (fun c x => c = [.int .i32 (IntKind.i32.wrap x.n)]) w' (fun k => k ≠ p ∧ k ≠ q ∧ (R0 k ∨ w0.heap.size ≤ k)) c4 (atT t 4) ∧ ListR true 1 (fun c x => c = [.int .i32 (IntKind.i32.wrap x.n)]) w' (fun k => k ≠ p ∧ k ≠ q ∧ (R0 k ∨ w0.heap.size ≤ k)) c5 (atT t 5) ∧ ListR true 1 (fun c x => c = [.int .i32 (IntKind.i32.wrap x.n)]) w' (fun k => k ≠ p ∧ k ≠ q ∧ (R0 k ∨ w0.heap.size ≤ k)) c (atT t 6)) ?_ ?_
  · refine cI (by rfl) (fun hnl=>?_) (fun hnl=>?_)
    · have hnl : (atT t 6).nl = false := by simpa using hnl
      ((conv=>whnf);repeat(first|(refine mvT ?_;conv=>whnf)|(refine mvF ?_;conv=>whnf)|(refine cT (by rfl) ?_;conv=>whnf)|(refine cF (by rfl) ?_;conv=>whnf)))
      have hx1 := hx0.tr0 hxa
      refine ⟨_, rfl, (ho.e0 hxa).cells, ?_⟩
      ((conv=>whnf);repeat(first|(refine mvT ?_;conv=>whnf)|(refine mvF ?_;conv=>whnf)|(refine cT (by rfl) ?_;conv=>whnf)|(refine cF (by rfl) ?_;conv=>whnf)))
      refine Does.mono (iat_does (ht0.ext hx1 fun k _ h => (hR0 k h).2) 6) ?_
      rintro r5 w5 ⟨hr5, hx5⟩
      obtain ⟨sv5, lv5, uv5, ls5, rfl, hn5, hs5, hl5, hels5, hu5⟩ := hr5.open
      obtain ⟨a5, kc5, rfl, _⟩ := hl5.view
      have hlen5 := hels5.len
      ((conv=>whnf);repeat(first|(refine mvT ?_;conv=>whnf)|(refine mvF ?_;conv=>whnf)|(refine cT (by rfl) ?_;conv=>whnf)|(refine cF (by rfl) ?_;conv=>whnf)))
      refine ⟨⟨by omega, by omega, by omega, by simp only [Int.toNat_natCast]; omega⟩, ⟨by decide, rfl⟩, ?_⟩
      intro b6 w6 hb6 ho6 hx6
      ((conv=>whnf);repeat(first|(refine mvT ?_;conv=>whnf)|(refine mvF ?_;conv=>whnf)|(refine cT (by rfl) ?_;conv=>whnf)|(refine cF (by rfl) ?_;conv=>whnf)))
      have hx56 := (hxa.e0 hx5).e0 hx6
      have hsz5 := (hxa.e0 hx5).size
      have hszc := hx0.size
      have hb6l := ho6.lt
      have hplc := hp.lt
      have hblc := ho.lt
      refine st_cell (o := 6) (v := .slice (some ⟨b6, 0, none⟩) 0 ls5.length) (hp.e0 hx56) rfl (by omega) rfl (by simp) rfl ?_
      intro w7 ho7 hx7
      ((conv=>whnf);repeat(first|(refine mvT ?_;conv=>whnf)|(refine mvF ?_;conv=>whnf)|(refine cT (by rfl) ?_;conv=>whnf)|(refine cF (by rfl) ?_;conv=>whnf)))
      have hx7c : Ext (fun k => k = p) wc w7 := (hx56.mono fun _ _ f => f.elim).trans hx7 fun _ _ h => h
      have hx07 := hx0.trans hx7c fun _ _ h => h
      refine ⟨_, rfl, (ho.ext hx7c (Ne.symm hpb)).cells, ?_⟩
      ((conv=>whnf);repeat(first|(refine mvT ?_;conv=>whnf)|(refine mvF ?_;conv=>whnf)|(refine cT (by rfl) ?_;conv=>whnf)|(refine cF (by rfl) ?_;conv=>whnf)))
      refine Does.mono (iat_does (ht0.ext hx07 fun k _ h => (hR0 k h).2) 6) ?_
      rintro r8 w8 ⟨hr8, hx8⟩
      obtain ⟨sv8, lv8, uv8, ls8, rfl, hn8, hs8, hl8, hels8, hu8⟩ := hr8.open
      obtain ⟨a8, kc8, rfl, hkc8, hm8, hF8, _, hC8⟩ := hl8.view
      have hlen8 := hels8.len
      ((conv=>whnf);repeat(first|(refine mvT ?_;conv=>whnf)|(refine mvF ?_;conv=>whnf)|(refine cT (by rfl) ?_;conv=>whnf)|(refine cF (by rfl) ?_;conv=>whnf)))
      have hx8c : Ext (fun k => k = p ∨ wc.heap.size ≤ k) wc w8 := (hx7c.tr0 hx8).mono fun _ _ h => .inl h
      have hx08 := hx07.tr0 hx8
      have hos8 := (OSl.mk0 (sz := 1) (n := ls5.length) (ho6.ext hx7 (by omega)) (by simp) (by rw [maxLen_eq]; omega) (B := wc.heap.size) (by omega)).e0 hx8
      refine VL.loop (fun s : Nat × Value => [(1, .pointer (some ⟨b, 0, none⟩)), (2, .pointer (some ⟨q, 0, none⟩)), (3, .pointer (some ⟨p, 0, none⟩)), (98, .slice a8 ls8.length kc8), (99, .int .i64 ls8.length), (100, .int .i64 s.1)])
        (fun s w' => (Ext (fun k => k = p) w0 w' ∧ Ext (fun k => k = p ∨ wc.heap.size ≤ k) wc w' ∧ Ext (fun k => k = p ∨ w0.heap.size ≤ k) w8 w' ∧ s.1 ≤ ls8.length ∧ s.2 ≠ .slice none 0 0) ∧ Own w' p ty [.int .i16 (IntKind.i16.wrap (atT t 0).n), .int .i32 (IntKind.i32.wrap (atT t 1).n), .int .i32 (IntKind.i32.wrap (atT t 2).n), .int .i32 (IntKind.i32.wrap (atT t 3).n), c4, c5, s.2, .map none] ∧ ∃ es : List (List Value), OSl w' wc.heap.size 21 1 s.2 es ∧ es.length = s.1 ∧ ∀ (j : Nat) (c : List Value) (x : T), es[j]? = some c → (atT t 6).l[j]? = some x → c = [.int .i32 (IntKind.i32.wrap (x).n)]) (fun s => ls8.length - s.1) (0, .slice (some ⟨b6, 0, none⟩) 0 ls5.length)
        ⟨rfl, rfl, rfl, rfl, rfl, rfl, trivial⟩ ⟨⟨hx08, hx8c, Ext.refl _ _, Nat.zero_le _, by simp⟩, ho7.e0 hx8, [], hos8, rfl, by simp⟩ ?_
      rintro ⟨i, sl⟩ w9 ⟨⟨hx09, hxc9, hx89, hi, hnn⟩, hp9, es, hos9, hesl, hesr⟩
      dsimp only at hi hp9 hos9 hesl hesr hnn
      ((conv=>whnf);repeat(first|(refine mvT ?_;conv=>whnf)|(refine mvF ?_;conv=>whnf)|(refine cT (by rfl) ?_;conv=>whnf)|(refine cF (by rfl) ?_;conv=>whnf)))
      refine cI (by rfl) (fun h9=>?_) (fun h9=>?_)
      · have hil : i < ls8.length := by have := of_decide_eq_true h9; simp only at this; omega
        have hill : i < (atT t 6).l.length := by omega
        have htr := hels8.at' i ls8[i] (atT t 6).l[i] (by simp [hil]) (by simp [hill])
        obtain ⟨b10, o10, rfl, hc10⟩ := hC8 i ls8[i] (by simp [hil])
        have hb10 := hF8 b10 o10 rfl (by omega)
        have hc10 := hc10.ext hx89 (by have := hR0 _ hb10.1; omega)
        have htr9 := htr.ext hx89 fun k _ h => by have := hR0 _ h; omega
        ((conv=>whnf);repeat(first|(refine mvT ?_;conv=>whnf)|(refine mvF ?_;conv=>whnf)|(refine cT (by rfl) ?_;conv=>whnf)|(refine cF (by rfl) ?_;conv=>whnf)))
        refine ⟨b10, o10, rfl, ⟨by omega, by omega⟩, ?_⟩
        ((conv=>whnf);repeat(first|(refine mvT ?_;conv=>whnf)|(refine mvF ?_;conv=>whnf)|(refine cT (by rfl) ?_;conv=>whnf)|(refine cF (by rfl) ?_;conv=>whnf)))
        refine ⟨ls8[i], htr.len, by rw [Int.toNat_natCast]; exact hc10, ?_⟩
        ((conv=>whnf);repeat(first|(refine mvT ?_;conv=>whnf)|(refine mvF ?_;conv=>whnf)|(refine cT (by rfl) ?_;conv=>whnf)|(refine cF (by rfl) ?_;conv=>whnf)))
        intro b11 w11 hb11 ho11 hx11
        ((conv=>whnf);repeat(first|(refine mvT ?_;conv=>whnf)|(refine mvF ?_;conv=>whnf)|(refine cT (by rfl) ?_;conv=>whnf)|(refine cF (by rfl) ?_;conv=>whnf)))
        refine st_all ls8[i] ho11 htr.len rfl htr.ok ?_
        intro w12 ho12 hx12
        have hx912 : Ext nob w9 w12 := (hx11.st hx12 hb11)
        have htr12 := htr9.e0 hx912
        obtain ⟨sv6, lv6, uv6, ls6, hy, hn6, hsy, _⟩ := Tr.open ⟨ls8[i], rfl, htr12⟩
        have hci : ls8[i] = [.int .i64 ((atT t 6).l[i]).n, sv6, .bool ((atT t 6).l[i]).nl, lv6, uv6] := by
          have := congrArg Value.cells hy
          exact congrArg Array.toList this
        rw [hci] at ho12 htr12
        have hs912 := hx912.size
        have hs9c := hxc9.size
        ((conv=>whnf);repeat(first|(refine mvT ?_;conv=>whnf)|(refine mvF ?_;conv=>whnf)|(refine cT (by rfl) ?_;conv=>whnf)|(refine cF (by rfl) ?_;conv=>whnf)))
        refine ldS ((hp9.e0 hx912).cell rfl) ?_;((conv=>whnf);repeat(first|(refine mvT ?_;conv=>whnf)|(refine mvF ?_;conv=>whnf)|(refine cT (by rfl) ?_;conv=>whnf)|(refine cF (by rfl) ?_;conv=>whnf)))
        refine ldS (ho12.cell rfl) ?_;((conv=>whnf);repeat(first|(refine mvT ?_;conv=>whnf)|(refine mvF ?_;conv=>whnf)|(refine cT (by rfl) ?_;conv=>whnf)|(refine cF (by rfl) ?_;conv=>whnf)))
        intro b13 w14 hb13 ho13 hx13
        have hx913 := hx912.e0 hx13
        have hs913 := hx913.size
        ((conv=>whnf);repeat(first|(refine mvT ?_;conv=>whnf)|(refine mvF ?_;conv=>whnf)|(refine cT (by rfl) ?_;conv=>whnf)|(refine cF (by rfl) ?_;conv=>whnf)))
        refine app_struct (ms := [[.int .i32 (IntKind.i32.wrap ((atT t 6).l[i]).n)]]) rfl (hos9.e0 hx913) (src_one ho13 rfl rfl) (by simp) (rfl) rfl ⟨by simp only [List.length_singleton, hesl]; omega, by simp only [List.length_singleton, hesl]; omega⟩ (by omega) ?_
        intro v15 w15 hos15 hx15 hb15 hnn15
        obtain ⟨a15, n15, c15, rfl⟩ : ∃ a n c, v15 = .slice a n c := by
          obtain ⟨a, c, h, _⟩ := hos15.shape
          exact ⟨a, _, c, h⟩
        have hpsl : ¬ sl.ownBlock = some p := fun h => by have := hos9.blk p h; omega
        have ho15 := (hp9.e0 hx913).ext hx15 hpsl
        ((conv=>whnf);repeat(first|(refine mvT ?_;conv=>whnf)|(refine mvF ?_;conv=>whnf)|(refine cT (by rfl) ?_;conv=>whnf)|(refine cF (by rfl) ?_;conv=>whnf)))
        refine st_cell (o := 6) (v := .slice a15 n15 c15) ho15 rfl (by omega) rfl (by simp) rfl ?_
        intro w16 ho16 hx16
        ((conv=>whnf);repeat(first|(refine mvT ?_;conv=>whnf)|(refine mvF ?_;conv=>whnf)|(refine cT (by rfl) ?_;conv=>whnf)|(refine cF (by rfl) ?_;conv=>whnf)))
        have hx916 : Ext (fun k => k = p ∨ wc.heap.size ≤ k) w9 w16 := ((hx913.mono fun _ _ f => f.elim).trans hx15 fun k _ h => .inr (hos9.blk k h)).trans hx16 fun _ _ h => .inl h
        have hos16 := hos15.ext hx16 fun k hk h => by have := hos15.blk k hk; omega
        refine ⟨(i + 1, _), ⟨rfl, rfl, rfl, rfl, rfl, inc_eq (by rw [maxLen_eq] at hm8; omega), trivial⟩, ⟨⟨hx09.trans hx916 fun k hk h => by omega, hxc9.trans hx916 fun _ _ h => h, hx89.trans hx916 fun k hk h => by omega, by simp only; omega, hnn15 hnn⟩, ho16, es ++ [[.int .i32 (IntKind.i32.wrap ((atT t 6).l[i]).n)]], hos16, by simp [hesl], ?_⟩, by simp only; omega⟩
        intro j c x hj hx
        rcases Nat.lt_or_ge j es.length with hjl | hjl
        · rw [List.getElem?_append_left hjl] at hj
          exact hesr j c x hj hx
        · have hj0 : j = es.length := by have := (List.getElem?_eq_some_iff.1 hj).1; simp at this; omega
          subst hj0
          rw [List.getElem?_append_right (Nat.le_refl _), Nat.sub_self, List.getElem?_cons_zero, Option.some.injEq] at hj
          subst hj
          rw [hesl, List.getElem?_eq_getElem hill, Option.some.injEq] at hx
          subst hx
          rfl
      have hil : i = ls8.length := by have := of_decide_eq_false h9; simp only at this; omega
      ((conv=>whnf);repeat(first|(refine mvT ?_;conv=>whnf)|(refine mvF ?_;conv=>whnf)|(refine cT (by rfl) ?_;conv=>whnf)|(refine cF (by rfl) ?_;conv=>whnf)))
      have hli : ListR true 1 (fun c x => c = [.int .i32 (IntKind.i32.wrap x.n)]) w9 (fun k => k ≠ p ∧ k ≠ q ∧ (R0 k ∨ w0.heap.size ≤ k)) sl (atT t 6) := by
        refine .inr ⟨hnl, fun _ => ?_, es, hos9.sl fun k hk => ⟨by omega, by omega, .inr (by omega)⟩, by omega, fun j c x hj hx => hesr j c x hj hx⟩
        rcases hos9.own.2 with ⟨e, _⟩ | ⟨g, cap, cur, e, _⟩
        · exact absurd e hnn
        · exact ⟨_, _, _, e⟩
      exact ⟨sl, ⟨rfl, rfl, rfl, trivial⟩, hx09, hp9, ho.ext hxc9 (by omega), hoq.ext hxc9 (by have := hoq.lt; omega), hc4.ext hxc9 (fun k _ h => by have := h.1; omega) (fun _ _ h => h), hc5.ext hxc9 (fun k _ h => by have := h.1; omega) (fun _ _ h => h), hli⟩
    · have hnl : (atT t 6).nl = true := by simpa using hnl
      ((conv=>whnf);repeat(first|(refine mvT ?_;conv=>whnf)|(refine mvF ?_;conv=>whnf)|(refine cT (by rfl) ?_;conv=>whnf)|(refine cF (by rfl) ?_;conv=>whnf)))
      exact ⟨_, ⟨rfl, rfl, rfl, trivial⟩, hx0.tr0 hxa, hp.e0 hxa, ho.e0 hxa, hoq.e0 hxa, hc4.ext hxa (fun _ _ _ f => f) (fun _ _ h => h), hc5.ext hxa (fun _ _ _ f => f) (fun _ _ h => h), .inl ⟨hnl, rfl⟩⟩
  clear hfl
  rintro c6 wc ⟨hx0, hp, ho, hoq, hc4, hc5, hc6⟩
  ((conv=>whnf);repeat(first|(refine mvT ?_;conv=>whnf)|(refine mvF ?_;conv=>whnf)|(refine cT (by rfl) ?_;conv=>whnf)|(refine cF (by rfl) ?_;conv=>whnf)))
  refine ldS (ho.cell rfl) ?_;((conv=>whnf);repeat(first|(refine mvT ?_;conv=>whnf)|(refine mvF ?_;conv=>whnf)|(refine cT (by rfl) ?_;conv=>whnf)|(refine cF (by rfl) ?_;conv=>whnf)))
  have hpN := hp.lt
  have h0N := hx0.size
  refine VL.loop (fun s : Nat × Value => [(1, .pointer (some ⟨b, 0, none⟩)), (2, .pointer (some ⟨q, 0, none⟩)), (3, .pointer (some ⟨p, 0, none⟩)), (114, .slice au us.length cu), (115, .int .i64 us.length), (116, .int .i64 s.1)])
    (fun s w' => (Ext (fun k => k = p) w0 w' ∧ Ext (fun k => k = p ∨ wc.heap.size ≤ k) wc w' ∧ s.1 ≤ us.length) ∧ Own w' p ty [.int .i16 (IntKind.i16.wrap (atT t 0).n), .int .i32 (IntKind.i32.wrap (atT t 1).n), .int .i32 (IntKind.i32.wrap (atT t 2).n), .int .i32 (IntKind.i32.wrap (atT t 3).n), c4, c5, c6, s.2] ∧ TagsO w' wc.heap.size R0 s.2 (t.u.take s.1)) (fun s => us.length - s.1) (0, .map none)
    ⟨rfl, rfl, rfl, rfl, rfl, rfl, trivial⟩ ⟨⟨hx0, Ext.refl _ _, Nat.zero_le _⟩, hp, TagsO.nil _ _ _⟩ ?_
  rintro ⟨i, m⟩ w9 ⟨⟨hx09, hxc9, hi⟩, hp9, hm9⟩
  dsimp only at hi hp9 hm9
  ((conv=>whnf);repeat(first|(refine mvT ?_;conv=>whnf)|(refine mvF ?_;conv=>whnf)|(refine cT (by rfl) ?_;conv=>whnf)|(refine cF (by rfl) ?_;conv=>whnf)))
  refine cI (by rfl) (fun h9=>?_) (fun h9=>?_)
  · have hil : i < us.length := by have := of_decide_eq_true h9; simp only at this; omega
    have hilu : i < t.u.length := by omega
    obtain ⟨hkey, bv, hci, hbv⟩ := huc i us[i] t.u[i] (by simp [hil]) (by simp [hilu])
    obtain ⟨b10, o10, rfl, hc10⟩ := husC i us[i] (by simp [hil])
    have hb10 := husF b10 o10 rfl (by omega)
    rw [hci] at hc10
    obtain ⟨av, cv, rfl, _⟩ := hbv.view
    have hc10 := hc10.ext hx09 (hR0 _ hb10.1).2
    have hbv9 := hbv.ext hx09 fun k _ h => (hR0 k h).2
    ((conv=>whnf);repeat(first|(refine mvT ?_;conv=>whnf)|(refine mvF ?_;conv=>whnf)|(refine cT (by rfl) ?_;conv=>whnf)|(refine cF (by rfl) ?_;conv=>whnf)))
    refine ⟨b10, o10, rfl, ⟨by omega, by omega⟩, ?_⟩
    ((conv=>whnf);repeat(first|(refine mvT ?_;conv=>whnf)|(refine mvF ?_;conv=>whnf)|(refine cT (by rfl) ?_;conv=>whnf)|(refine cF (by rfl) ?_;conv=>whnf)))
    refine ⟨_, rfl, by rw [Int.toNat_natCast]; exact hc10, ?_⟩
    ((conv=>whnf);repeat(first|(refine mvT ?_;conv=>whnf)|(refine mvF ?_;conv=>whnf)|(refine cT (by rfl) ?_;conv=>whnf)|(refine cF (by rfl) ?_;conv=>whnf)))
    intro b11 w11 hb11 ho11 hx11
    ((conv=>whnf);repeat(first|(refine mvT ?_;conv=>whnf)|(refine mvF ?_;conv=>whnf)|(refine cT (by rfl) ?_;conv=>whnf)|(refine cF (by rfl) ?_;conv=>whnf)))
    refine st_all [.int .u32 (t.u[i].1 : Int), .slice av (t.u[i]).2.length cv] ho11 rfl rfl rfl ?_
    intro w12 ho12 hx12
    have hx912 : Ext nob w9 w12 := (hx11.st hx12 hb11)
    ((conv=>whnf);repeat(first|(refine mvT ?_;conv=>whnf)|(refine mvF ?_;conv=>whnf)|(refine cT (by rfl) ?_;conv=>whnf)|(refine cF (by rfl) ?_;conv=>whnf)))
    refine ldS (ho12.cell rfl) ?_;((conv=>whnf);repeat(first|(refine mvT ?_;conv=>whnf)|(refine mvF ?_;conv=>whnf)|(refine cT (by rfl) ?_;conv=>whnf)|(refine cF (by rfl) ?_;conv=>whnf)))
    refine ldS (ho12.cell rfl) ?_;((conv=>whnf);repeat(first|(refine mvT ?_;conv=>whnf)|(refine mvF ?_;conv=>whnf)|(refine cT (by rfl) ?_;conv=>whnf)|(refine cF (by rfl) ?_;conv=>whnf)))
    have hnew : ∀ x, x ∈ t.u.take i → x.1 ≠ (t.u[i]).1 := by
      intro x hx
      obtain ⟨j, hj, rfl⟩ := List.mem_take_iff_getElem.1 hx
      have := List.pairwise_iff_getElem.1 hok.2.rise j i (by omega) hilu (by omega)
      omega
    refine Does.mono (Tags_Set_does (o := 7) (N := wc.heap.size) (hp9.e0 hx912) rfl (hm9.e0 hx912) (Nat.le_trans hxc9.size hx912.size) hpN (fun k h => ⟨by have := (hR0 k h).1; omega, (hR0 k h).2⟩) (hbv9.e0 hx912) hnew) ?_
    rintro r13 w13 ⟨m13, hone, hp13, hm13, hx13⟩
    ((conv=>whnf);repeat(first|(refine mvT ?_;conv=>whnf)|(refine mvF ?_;conv=>whnf)|(refine cT (by rfl) ?_;conv=>whnf)|(refine cF (by rfl) ?_;conv=>whnf)))
    have hx913 : Ext (fun k => k = p ∨ wc.heap.size ≤ k) w9 w13 := (hx912.mono fun _ _ f => f.elim).trans hx13 fun _ _ h => h
    refine ⟨(i + 1, m13), ⟨rfl, rfl, rfl, rfl, rfl, inc_eq (by rw [maxLen_eq] at husm; omega), trivial⟩, ⟨⟨hx09.trans hx913 fun k hk h => by omega, hxc9.trans hx913 fun _ _ h => h, by simp only; omega⟩, hp13, ?_⟩, by simp only; omega⟩
    rw [List.take_succ_eq_append_getElem hilu]
    exact hm13
  have hil : i = us.length := by have := of_decide_eq_false h9; simp only at this; omega
  ((conv=>whnf);repeat(first|(refine mvT ?_;conv=>whnf)|(refine mvF ?_;conv=>whnf)|(refine cT (by rfl) ?_;conv=>whnf)|(refine cF (by rfl) ?_;conv=>whnf)))
  rw [hil, husl, List.take_length] at hm9
  refine ⟨_, rfl, hp9.cells, ?_⟩
  ((conv=>whnf);repeat(first|(refine mvT ?_;conv=>whnf)|(refine mvF ?_;conv=>whnf)|(refine cT (by rfl) ?_;conv=>whnf)|(refine cF (by rfl) ?_;conv=>whnf)))
  have hoq9 := hoq.ext hxc9 (by have := hoq.lt; omega)
  have hc4 := hc4.ext hxc9 (fun k _ h => by have := h.1; omega) (fun _ _ h => h)
  have hc5 := hc5.ext hxc9 (fun k _ h => by have := h.1; omega) (fun _ _ h => h)
  have hc6 := hc6.ext hxc9 (fun k _ h => by have := h.1; omega) (fun _ _ h => h)
  have hokc : okCells [.int .i16 (IntKind.i16.wrap (atT t 0).n), .int .i32 (IntKind.i32.wrap (atT t 1).n), .int .i32 (IntKind.i32.wrap (atT t 2).n), .int .i32 (IntKind.i32.wrap (atT t 3).n), c4, c5, c6, m] = true := ok_cons rfl (ok_cons rfl (ok_cons rfl (ok_cons rfl (ok_cons hc4.one (ok_cons hc5.one (ok_cons hc6.one (ok_cons hm9.tags.one (ok_nil))))))))
  refine st_all [.int .i16 (IntKind.i16.wrap (atT t 0).n), .int .i32 (IntKind.i32.wrap (atT t 1).n), .int .i32 (IntKind.i32.wrap (atT t 2).n), .int .i32 (IntKind.i32.wrap (atT t 3).n), c4, c5, c6, m] hoq9 rfl hqlen hokc ?_
  intro we hoe hxe
  ((conv=>whnf);repeat(first|(refine mvT ?_;conv=>whnf)|(refine mvF ?_;conv=>whnf)|(refine cT (by rfl) ?_;conv=>whnf)|(refine cF (by rfl) ?_;conv=>whnf)))
  refine ⟨_, rfl, hoe.cells, ?_⟩
  have hxn : Ext nob w0 w9 := (Ext.refl nob w0).trans hx09 fun k hk e => by omega
  exact ⟨_, rfl, hokc, ⟨c4, c5, c6, m, rfl, (hc4.ext hxe (fun k _ h => h.2.1) (fun _ _ h => h)).mono (fun k _ h => h.2.2.imp (hRF k) id) (fun _ _ h => h), (hc5.ext hxe (fun k _ h => h.2.1) (fun _ _ h => h)).mono (fun k _ h => h.2.2.imp (hRF k) id) (fun _ _ h => h), (hc6.ext hxe (fun k _ h => h.2.1) (fun _ _ h => h)).mono (fun k _ h => h.2.2.imp (hRF k) id) (fun _ _ h => h), (hm9.tags.ext hxe (fun k _ h e => by rcases h with h | h; (have := (hR0 k h).1; omega); omega)).mono fun k _ h => h.imp (hRF k) (fun h => by omega)⟩, hxn.trans hxe fun k hk e => by omega⟩
theorem makeMetadataResponseTopic {F : Nat → Prop} {w0 : World} {u : Int} {x : Value} {t : T} (ht : Tr w0 F x t) (hok : partOK 8 u dMetadataResponseTopic t) :
    Does X.P 32 #[x] w0 fun r w' => ∃ cs : List Value, r = .agg cs.toArray ∧ okCells cs = true ∧ rMetadataResponseTopic w' (fun k => F k ∨ w0.heap.size ≤ k) cs t ∧ Ext nob w0 w' := by
  obtain ⟨R0, hR0, hRF, ht0⟩ : ∃ R0 : Nat → Prop, (∀ k, R0 k → k < w0.heap.size) ∧ (∀ k, R0 k → F k) ∧ Tr w0 R0 x t := ⟨fun k => k < w0.heap.size ∧ F k, fun k h => h.1, fun k h => h.2, ht.mono fun k h1 h2 => ⟨h1, h2⟩⟩
  clear ht
  obtain ⟨sv, lv, uv, ls, rfl, hn, hs, hl, hels, htg⟩ := ht0.open
  obtain ⟨us, hus, husl, huc⟩ := id htg
  obtain ⟨au, cu, rfl, husc, husm, husF, _, husC⟩ := hus.view
  refine Does.go (X := X) (l := [_]) Tryz.func32 rfl (by kernel_rfl) (by kernel_rfl) _ rfl ?_
  ((conv=>whnf);repeat(first|(refine mvT ?_;conv=>whnf)|(refine mvF ?_;conv=>whnf)|(refine cT (by rfl) ?_;conv=>whnf)|(refine cF (by rfl) ?_;conv=>whnf)))
  intro b wb hb ho hx
  ((conv=>whnf);repeat(first|(refine mvT ?_;conv=>whnf)|(refine mvF ?_;conv=>whnf)|(refine cT (by rfl) ?_;conv=>whnf)|(refine cF (by rfl) ?_;conv=>whnf)))
  intro q wq hqb hoq hxq
  ((conv=>whnf);repeat(first|(refine mvT ?_;conv=>whnf)|(refine mvF ?_;conv=>whnf)|(refine cT (by rfl) ?_;conv=>whnf)|(refine cF (by rfl) ?_;conv=>whnf)))
  intro p wc hpB hp hxp
  have hbl := ho.lt
  have hql := hoq.lt
  have hs1 := hx.size
  have hs2 := hxq.size
  have hpb : p ≠ b := by omega
  have hpq : p ≠ q := by omega
  have hwp : w0.heap.size ≤ p := by omega
  have hR0 : ∀ k, R0 k → k < w0.heap.size ∧ k ≠ p := fun k h => ⟨hR0 k h, by have := hR0 k h; omega⟩
  obtain ⟨ty, hp⟩ : ∃ T, Own wc p T [.int .i16 0, .pointer none, .int .u8 0, .int .u8 0, .int .u8 0, .int .u8 0, .int .u8 0, .int .u8 0, .int .u8 0, .int .u8 0, .int .u8 0, .int .u8 0, .int .u8 0, .int .u8 0, .int .u8 0, .int .u8 0, .int .u8 0, .int .u8 0, .bool false, .slice none 0 0, .int .i32 0, .map none] := ⟨_, hp⟩
  have ho : Own wc b ImplTreeT [.int .i64 t.n, sv, .bool t.nl, lv, .slice au us.length cu] := (ho.e0 hxq).e0 hxp
  have hoq := hoq.e0 hxp
  obtain ⟨qT, qL, hqlen, hoq⟩ : ∃ T L, L.length = 22 ∧ Own wc q T L := ⟨_, _, rfl, hoq⟩
  have hx0 : Ext (fun k => k = p) w0 wc := ((hx.e0 hxq).e0 hxp).mono fun _ _ f => f.elim
  ((conv=>whnf);repeat(first|(refine mvT ?_;conv=>whnf)|(refine mvF ?_;conv=>whnf)|(refine cT (by rfl) ?_;conv=>whnf)|(refine cF (by rfl) ?_;conv=>whnf)))
  refine ⟨_, rfl, ho.cells, ?_⟩
  ((conv=>whnf);repeat(first|(refine mvT ?_;conv=>whnf)|(refine mvF ?_;conv=>whnf)|(refine cT (by rfl) ?_;conv=>whnf)|(refine cF (by rfl) ?_;conv=>whnf)))
  refine Does.mono (iat_does (ht0.ext hx0 fun k _ h => (hR0 k h).2) 0) ?_
  rintro ra wa ⟨hra, hxa⟩
  obtain ⟨sva, lva, uva, lsa, rfl, hna, hsa, hla, helsa, hua⟩ := hra.open
  ((conv=>whnf);repeat(first|(refine mvT ?_;conv=>whnf)|(refine mvF ?_;conv=>whnf)|(refine cT (by rfl) ?_;conv=>whnf)|(refine cF (by rfl) ?_;conv=>whnf)))
  refine st_cell (o := 0) (v := .int .i16 (IntKind.i16.wrap (atT t 0).n)) (hp.e0 hxa) (rfl) (by omega) rfl (by simp) (rfl) ?_
  intro wc hoc hxc
  have hp : Own wc p ty [.int .i16 (IntKind.i16.wrap (atT t 0).n), .pointer none, .int .u8 0, .int .u8 0, .int .u8 0, .int .u8 0, .int .u8 0, .int .u8 0, .int .u8 0, .int .u8 0, .int .u8 0, .int .u8 0, .int .u8 0, .int .u8 0, .int .u8 0, .int .u8 0, .int .u8 0, .int .u8 0, .bool false, .slice none 0 0, .int .i32 0, .map none] := hoc
  have ho := (ho.e0 hxa).ext hxc (Ne.symm hpb)
  have hx0 := (hx0.tr0 hxa).trans hxc fun _ _ h => h
  have hoq := (hoq.e0 hxa).ext hxc (Ne.symm hpq)
  ((conv=>whnf);repeat(first|(refine mvT ?_;conv=>whnf)|(refine mvF ?_;conv=>whnf)|(refine cT (by rfl) ?_;conv=>whnf)|(refine cF (by rfl) ?_;conv=>whnf)))
  refine ⟨_, rfl, ho.cells, ?_⟩
  ((conv=>whnf);repeat(first|(refine mvT ?_;conv=>whnf)|(refine mvF ?_;conv=>whnf)|(refine cT (by rfl) ?_;conv=>whnf)|(refine cF (by rfl) ?_;conv=>whnf)))
  refine Does.mono (iat_does (ht0.ext hx0 fun k _ h => (hR0 k h).2) 1) ?_
  rintro ra wa ⟨hra, hxa⟩
  ((conv=>whnf);repeat(first|(refine mvT ?_;conv=>whnf)|(refine mvF ?_;conv=>whnf)|(refine cT (by rfl) ?_;conv=>whnf)|(refine cF (by rfl) ?_;conv=>whnf)))
  have hq := (hp.e0 hxa).lt
  have hq2 := (hx0.tr0 hxa).size
  refine Does.mono (textOf_does hra) ?_
  rintro c1 wb ⟨hc1, h1, hxb⟩
  have hc1 := hc1.mono (F' := (fun k => k ≠ p ∧ k ≠ q ∧ (R0 k ∨ w0.heap.size ≤ k))) fun k _ h => ⟨by omega, by omega, .inr (by omega)⟩
  have hxa := hxa.e0 hxb
  ((conv=>whnf);repeat(first|(refine mvT ?_;conv=>whnf)|(refine mvF ?_;conv=>whnf)|(refine cT (by rfl) ?_;conv=>whnf)|(refine cF (by rfl) ?_;conv=>whnf)))
  refine st_cell (o := 1) (v := c1) (hp.e0 hxa) (cells_one h1) (by omega) rfl (by simp) (h1) ?_
  intro wc hoc hxc
  have hp : Own wc p ty [.int .i16 (IntKind.i16.wrap (atT t 0).n), c1, .int .u8 0, .int .u8 0, .int .u8 0, .int .u8 0, .int .u8 0, .int .u8 0, .int .u8 0, .int .u8 0, .int .u8 0, .int .u8 0, .int .u8 0, .int .u8 0, .int .u8 0, .int .u8 0, .int .u8 0, .int .u8 0, .bool false, .slice none 0 0, .int .i32 0, .map none] := hoc
  have ho := (ho.e0 hxa).ext hxc (Ne.symm hpb)
  have hx0 := (hx0.tr0 hxa).trans hxc fun _ _ h => h
  have hoq := (hoq.e0 hxa).ext hxc (Ne.symm hpq)
  have hc1 := hc1.ext hxc fun k _ h => h.1
  ((conv=>whnf);repeat(first|(refine mvT ?_;conv=>whnf)|(refine mvF ?_;conv=>whnf)|(refine cT (by rfl) ?_;conv=>whnf)|(refine cF (by rfl) ?_;conv=>whnf)))
  refine ⟨_, rfl, ho.cells, ?_⟩
  ((conv=>whnf);repeat(first|(refine mvT ?_;conv=>whnf)|(refine mvF ?_;conv=>whnf)|(refine cT (by rfl) ?_;conv=>whnf)|(refine cF (by rfl) ?_;conv=>whnf)))
  refine Does.mono (iat_does (ht0.ext hx0 fun k _ h => (hR0 k h).2) 2) ?_
  rintro ra wa ⟨hra, hxa⟩
  obtain ⟨sva, lva, uva, lsa, rfl, hna, hsa, hla, helsa, hua⟩ := hra.open
  ((conv=>whnf);repeat(first|(refine mvT ?_;conv=>whnf)|(refine mvF ?_;conv=>whnf)|(refine cT (by rfl) ?_;conv=>whnf)|(refine cF (by rfl) ?_;conv=>whnf)))
  refine Does.mono (sixteen_does hsa) ?_
  rintro rb wb ⟨hrb, hxb⟩
  obtain ⟨u2_0, u2_1, u2_2, u2_3, u2_4, u2_5, u2_6, u2_7, u2_8, u2_9, u2_10, u2_11, u2_12, u2_13, u2_14, u2_15, hc2⟩ := uuid_lit (atT t 2).s
  rw [hc2] at hrb
  subst hrb
  have hxa := hxa.e0 hxb
  ((conv=>whnf);repeat(first|(refine mvT ?_;conv=>whnf)|(refine mvF ?_;conv=>whnf)|(refine cT (by rfl) ?_;conv=>whnf)|(refine cF (by rfl) ?_;conv=>whnf)))
  refine ⟨_, _, hp.e0 hxa, rfl, rfl, rfl, ?_⟩
  intro wc hoc hxc
  have hp : Own wc p ty [.int .i16 (IntKind.i16.wrap (atT t 0).n), c1, bcell u2_0, bcell u2_1, bcell u2_2, bcell u2_3, bcell u2_4, bcell u2_5, bcell u2_6, bcell u2_7, bcell u2_8, bcell u2_9, bcell u2_10, bcell u2_11, bcell u2_12, bcell u2_13, bcell u2_14, bcell u2_15, .bool false, .slice none 0 0, .int .i32 0, .map none] := hoc
  have ho := (ho.e0 hxa).ext hxc (Ne.symm hpb)
  have hx0 := (hx0.tr0 hxa).trans hxc fun _ _ h => h
  have hc1 := (hc1.ext hxa fun _ _ _ f => f).ext hxc fun k _ h => h.1
  have hoq := (hoq.e0 hxa).ext hxc (Ne.symm hpq)
  ((conv=>whnf);repeat(first|(refine mvT ?_;conv=>whnf)|(refine mvF ?_;conv=>whnf)|(refine cT (by rfl) ?_;conv=>whnf)|(refine cF (by rfl) ?_;conv=>whnf)))
  refine ⟨_, rfl, ho.cells, ?_⟩
  ((conv=>whnf);repeat(first|(refine mvT ?_;conv=>whnf)|(refine mvF ?_;conv=>whnf)|(refine cT (by rfl) ?_;conv=>whnf)|(refine cF (by rfl) ?_;conv=>whnf)))
  refine Does.mono (iat_does (ht0.ext hx0 fun k _ h => (hR0 k h).2) 3) ?_
  rintro ra wa ⟨hra, hxa⟩
  obtain ⟨sva, lva, uva, lsa, rfl, hna, hsa, hla, helsa, hua⟩ := hra.open
  ((conv=>whnf);repeat(first|(refine mvT ?_;conv=>whnf)|(refine mvF ?_;conv=>whnf)|(refine cT (by rfl) ?_;conv=>whnf)|(refine cF (by rfl) ?_;conv=>whnf)))
  refine st_cell (o := 18) (v := .bool (decide ((atT t 3).n % 2 = 1))) (hp.e0 hxa) (by rw [and1_bool]; rfl) (by omega) rfl (by simp) (rfl) ?_
  intro wc hoc hxc
  have hp : Own wc p ty [.int .i16 (IntKind.i16.wrap (atT t 0).n), c1, bcell u2_0, bcell u2_1, bcell u2_2, bcell u2_3, bcell u2_4, bcell u2_5, bcell u2_6, bcell u2_7, bcell u2_8, bcell u2_9, bcell u2_10, bcell u2_11, bcell u2_12, bcell u2_13, bcell u2_14, bcell u2_15, .bool (decide ((atT t 3).n % 2 = 1)), .slice none 0 0, .int .i32 0, .map none] := hoc
  have ho := (ho.e0 hxa).ext hxc (Ne.symm hpb)
  have hx0 := (hx0.tr0 hxa).trans hxc fun _ _ h => h
  have hc1 := (hc1.ext hxa fun _ _ _ f => f).ext hxc fun k _ h => h.1
  have hoq := (hoq.e0 hxa).ext hxc (Ne.symm hpq)
  ((conv=>whnf);repeat(first|(refine mvT ?_;conv=>whnf)|(refine mvF ?_;conv=>whnf)|(refine cT (by rfl) ?_;conv=>whnf)|(refine cF (by rfl) ?_;conv=>whnf)))
  have hfl := fieldOK_list (hok.1 4 _ rfl)
  refine ⟨_, rfl, ho.cells, ?_⟩
  ((conv=>whnf);repeat(first|(refine mvT ?_;conv=>whnf)|(refine mvF ?_;conv=>whnf)|(refine cT (by rfl) ?_;conv=>whnf)|(refine cF (by rfl) ?_;conv=>whnf)))
  refine Does.mono (iat_does (ht0.ext hx0 fun k _ h => (hR0 k h).2) 4) ?_
  rintro ra wa ⟨hra, hxa⟩
  obtain ⟨sva, lva, uva, lsa, rfl, hna, hsa, hla, helsa, hua⟩ := hra.open
  ((conv=>whnf);repeat(first|(refine mvT ?_;conv=>whnf)|(refine mvF ?_;conv=>whnf)|(refine cT (by rfl) ?_;conv=>whnf)|(refine cF (by rfl) ?_;conv=>whnf)))
  refine VC.cutE (fun c : Value => [(1, .pointer (some ⟨b, 0, none⟩)), (2, .pointer (some ⟨q, 0, none⟩)), (3, .pointer (some ⟨p, 0, none⟩))]) (fun c w' => Ext (fun k => k = p) w0 w' ∧ Own w' p ty [.int .i16 (IntKind.i16.wrap (atT t 0).n), c1, bcell u2_0, bcell u2_1, bcell u2_2, bcell u2_3, bcell u2_4, bcell u2_5, bcell u2_6, bcell u2_7, bcell u2_8, bcell u2_9, bcell u2_10, bcell u2_11, bcell u2_12, bcell u2_13, bcell u2_14, bcell u2_15, .bool (decide ((atT t 3).n % 2 = 1)), c, .int .i32 0, .map none] ∧ Own w' b ImplTreeT [.int .i64 t.n, sv, .bool t.nl, lv, .slice au us.length cu] ∧ Own w' q qT qL ∧ NTextR w' (fun k => k ≠ p ∧ k ≠ q ∧ (R0 k ∨ w0.heap.size ≤ k)) c1 (atT t 1) ∧ uuidB (atT t 2).s = [u2_0, u2_1, u2_2, u2_3, u2_4, u2_5, u2_6, u2_7, u2_8, u2_9, u2_10, u2_11, u2_12, u2_13, u2_14, u2_15] ∧ ListR true 8 (rMetadataResponseTopicPartition w' (fun k => k ≠ p ∧ k ≠ q ∧ (R0 k ∨ w0.heap.size ≤ k))) w' (fun k => k ≠ p ∧ k ≠ q ∧ (R0 k ∨ w0.heap.size ≤ k)) c (atT t 4)) ?_ ?_
  · refine cI (by rfl) (fun hnl=>?_) (fun hnl=>?_)
    · have hnl : (atT t 4).nl = false := by simpa using hnl
      ((conv=>whnf);repeat(first|(refine mvT ?_;conv=>whnf)|(refine mvF ?_;conv=>whnf)|(refine cT (by rfl) ?_;conv=>whnf)|(refine cF (by rfl) ?_;conv=>whnf)))
      have hx1 := hx0.tr0 hxa
      refine ⟨_, rfl, (ho.e0 hxa).cells, ?_⟩
      ((conv=>whnf);repeat(first|(refine mvT ?_;conv=>whnf)|(refine mvF ?_;conv=>whnf)|(refine cT (by rfl) ?_;conv=>whnf)|(refine cF (by rfl) ?_;conv=>whnf)))
      refine Does.mono (iat_does (ht0.ext hx1 fun k _ h => (hR0 k h).2) 4) ?_
      rintro r5 w5 ⟨hr5, hx5⟩
      obtain ⟨sv5, lv5, uv5, ls5, rfl, hn5, hs5, hl5, hels5, hu5⟩ := hr5.open
      obtain ⟨a5, kc5, rfl, _⟩ := hl5.view
      have hlen5 := hels5.len
      ((conv=>whnf);repeat(first|(refine mvT ?_;conv=>whnf)|(refine mvF ?_;conv=>whnf)|(refine cT (by rfl) ?_;conv=>whnf)|(refine cF (by rfl) ?_;conv=>whnf)))
      refine ⟨⟨by omega, by omega, by omega, by simp only [Int.toNat_natCast]; omega⟩, ⟨by decide, rfl⟩, ?_⟩
      intro b6 w6 hb6 ho6 hx6
      ((conv=>whnf);repeat(first|(refine mvT ?_;conv=>whnf)|(refine mvF ?_;conv=>whnf)|(refine cT (by rfl) ?_;conv=>whnf)|(refine cF (by rfl) ?_;conv=>whnf)))
      have hx56 := (hxa.e0 hx5).e0 hx6
      have hsz5 := (hxa.e0 hx5).size
      have hszc := hx0.size
      have hb6l := ho6.lt
      have hplc := hp.lt
      have hblc := ho.lt
      refine st_cell (o := 19) (v := .slice (some ⟨b6, 0, none⟩) 0 ls5.length) (hp.e0 hx56) rfl (by omega) rfl (by simp) rfl ?_
      intro w7 ho7 hx7
      ((conv=>whnf);repeat(first|(refine mvT ?_;conv=>whnf)|(refine mvF ?_;conv=>whnf)|(refine cT (by rfl) ?_;conv=>whnf)|(refine cF (by rfl) ?_;conv=>whnf)))
      have hx7c : Ext (fun k => k = p) wc w7 := (hx56.mono fun _ _ f => f.elim).trans hx7 fun _ _ h => h
      have hx07 := hx0.trans hx7c fun _ _ h => h
      refine ⟨_, rfl, (ho.ext hx7c (Ne.symm hpb)).cells, ?_⟩
      ((conv=>whnf);repeat(first|(refine mvT ?_;conv=>whnf)|(refine mvF ?_;conv=>whnf)|(refine cT (by rfl) ?_;conv=>whnf)|(refine cF (by rfl) ?_;conv=>whnf)))
      refine Does.mono (iat_does (ht0.ext hx07 fun k _ h => (hR0 k h).2) 4) ?_
      rintro r8 w8 ⟨hr8, hx8⟩
      obtain ⟨sv8, lv8, uv8, ls8, rfl, hn8, hs8, hl8, hels8, hu8⟩ := hr8.open
      obtain ⟨a8, kc8, rfl, hkc8, hm8, hF8, _, hC8⟩ := hl8.view
      have hlen8 := hels8.len
      ((conv=>whnf);repeat(first|(refine mvT ?_;conv=>whnf)|(refine mvF ?_;conv=>whnf)|(refine cT (by rfl) ?_;conv=>whnf)|(refine cF (by rfl) ?_;conv=>whnf)))
      have hx8c : Ext (fun k => k = p ∨ wc.heap.size ≤ k) wc w8 := (hx7c.tr0 hx8).mono fun _ _ h => .inl h
      have hx08 := hx07.tr0 hx8
      have hos8 := (OSl.mk0 (sz := 8) (n := ls5.length) (ho6.ext hx7 (by omega)) (by simp) (by rw [maxLen_eq]; omega) (B := wc.heap.size) (by omega)).e0 hx8
      refine VL.loop (fun s : Nat × Value => [(1, .pointer (some ⟨b, 0, none⟩)), (2, .pointer (some ⟨q, 0, none⟩)), (3, .pointer (some ⟨p, 0, none⟩)), (40, .slice a8 ls8.length kc8), (41, .int .i64 ls8.length), (42, .int .i64 s.1)])
        (fun s w' => (Ext (fun k => k = p) w0 w' ∧ Ext (fun k => k = p ∨ wc.heap.size ≤ k) wc w' ∧ Ext (fun k => k = p ∨ w0.heap.size ≤ k) w8 w' ∧ s.1 ≤ ls8.length ∧ s.2 ≠ .slice none 0 0) ∧ Own w' p ty [.int .i16 (IntKind.i16.wrap (atT t 0).n), c1, bcell u2_0, bcell u2_1, bcell u2_2, bcell u2_3, bcell u2_4, bcell u2_5, bcell u2_6, bcell u2_7, bcell u2_8, bcell u2_9, bcell u2_10, bcell u2_11, bcell u2_12, bcell u2_13, bcell u2_14, bcell u2_15, .bool (decide ((atT t 3).n % 2 = 1)), s.2, .int .i32 0, .map none] ∧ ∃ es : List (List Value), OSl w' wc.heap.size 96 8 s.2 es ∧ es.length = s.1 ∧ ∀ (j : Nat) (c : List Value) (x : T), es[j]? = some c → (atT t 4).l[j]? = some x → rMetadataResponseTopicPartition w' (fun k => k ≠ p ∧ k ≠ q ∧ (R0 k ∨ w0.heap.size ≤ k) ∧ s.2.ownBlock ≠ some k) c x) (fun s => ls8.length - s.1) (0, .slice (some ⟨b6, 0, none⟩) 0 ls5.length)
        ⟨rfl, rfl, rfl, rfl, rfl, rfl, trivial⟩ ⟨⟨hx08, hx8c, Ext.refl _ _, Nat.zero_le _, by simp⟩, ho7.e0 hx8, [], hos8, rfl, by simp⟩ ?_
      rintro ⟨i, sl⟩ w9 ⟨⟨hx09, hxc9, hx89, hi, hnn⟩, hp9, es, hos9, hesl, hesr⟩
      dsimp only at hi hp9 hos9 hesl hesr hnn
      ((conv=>whnf);repeat(first|(refine mvT ?_;conv=>whnf)|(refine mvF ?_;conv=>whnf)|(refine cT (by rfl) ?_;conv=>whnf)|(refine cF (by rfl) ?_;conv=>whnf)))
      refine cI (by rfl) (fun h9=>?_) (fun h9=>?_)
      · have hil : i < ls8.length := by have := of_decide_eq_true h9; simp only at this; omega
        have hill : i < (atT t 4).l.length := by omega
        have htr := hels8.at' i ls8[i] (atT t 4).l[i] (by simp [hil]) (by simp [hill])
        obtain ⟨b10, o10, rfl, hc10⟩ := hC8 i ls8[i] (by simp [hil])
        have hb10 := hF8 b10 o10 rfl (by omega)
        have hc10 := hc10.ext hx89 (by have := hR0 _ hb10.1; omega)
        have htr9 := htr.ext hx89 fun k _ h => by have := hR0 _ h; omega
        ((conv=>whnf);repeat(first|(refine mvT ?_;conv=>whnf)|(refine mvF ?_;conv=>whnf)|(refine cT (by rfl) ?_;conv=>whnf)|(refine cF (by rfl) ?_;conv=>whnf)))
        refine ⟨b10, o10, rfl, ⟨by omega, by omega⟩, ?_⟩
        ((conv=>whnf);repeat(first|(refine mvT ?_;conv=>whnf)|(refine mvF ?_;conv=>whnf)|(refine cT (by rfl) ?_;conv=>whnf)|(refine cF (by rfl) ?_;conv=>whnf)))
        refine ⟨ls8[i], htr.len, by rw [Int.toNat_natCast]; exact hc10, ?_⟩
        ((conv=>whnf);repeat(first|(refine mvT ?_;conv=>whnf)|(refine mvF ?_;conv=>whnf)|(refine cT (by rfl) ?_;conv=>whnf)|(refine cF (by rfl) ?_;conv=>whnf)))
        intro b11 w11 hb11 ho11 hx11
        ((conv=>whnf);repeat(first|(refine mvT ?_;conv=>whnf)|(refine mvF ?_;conv=>whnf)|(refine cT (by rfl) ?_;conv=>whnf)|(refine cF (by rfl) ?_;conv=>whnf)))
        refine st_all ls8[i] ho11 htr.len rfl htr.ok ?_
        intro w12 ho12 hx12
        have hx912 : Ext nob w9 w12.drew := (hx11.st hx12 hb11).e0 (ext_drew _)
        have ho12 := ho12.e0 (ext_drew _)
        have htr12 := htr9.e0 hx912
        obtain ⟨sv6, lv6, uv6, ls6, hy, hn6, hsy, _⟩ := Tr.open ⟨ls8[i], rfl, htr12⟩
        have hci : ls8[i] = [.int .i64 ((atT t 4).l[i]).n, sv6, .bool ((atT t 4).l[i]).nl, lv6, uv6] := by
          have := congrArg Value.cells hy
          exact congrArg Array.toList this
        rw [hci] at ho12 htr12
        have hs912 := hx912.size
        have hs9c := hxc9.size
        ((conv=>whnf);repeat(first|(refine mvT ?_;conv=>whnf)|(refine mvF ?_;conv=>whnf)|(refine cT (by rfl) ?_;conv=>whnf)|(refine cF (by rfl) ?_;conv=>whnf)))
        refine VD.draw mixed (.q 0 (.q 1 (.q 2 (.eff 3 [1] (.eff 4 [1] (.eff 5 [] (.q 6 (.eff 7 [] (.done))))))))) (by kernel_rfl) ?_;((conv=>whnf);repeat(first|(refine mvT ?_;conv=>whnf)|(refine mvF ?_;conv=>whnf)|(refine cT (by rfl) ?_;conv=>whnf)|(refine cF (by rfl) ?_;conv=>whnf)))
        refine ldS ((hp9.e0 hx912).cell rfl) ?_;((conv=>whnf);repeat(first|(refine mvT ?_;conv=>whnf)|(refine mvF ?_;conv=>whnf)|(refine cT (by rfl) ?_;conv=>whnf)|(refine cF (by rfl) ?_;conv=>whnf)))
        refine ⟨_, rfl, ho12.cells, ?_⟩
        ((conv=>whnf);repeat(first|(refine mvT ?_;conv=>whnf)|(refine mvF ?_;conv=>whnf)|(refine cT (by rfl) ?_;conv=>whnf)|(refine cF (by rfl) ?_;conv=>whnf)))
        refine Does.mono (makeMetadataResponseTopicPartition (u := u) ⟨_, rfl, htr12⟩ ((hfl.2 _ (List.getElem_mem hill)).2.2 rfl)) ?_
        rintro r13 w13 ⟨es13, rfl, hok13, hr13, hxm13⟩
        obtain ⟨zc4, zc5, zc6, zm, rfl, _⟩ := id hr13
        have hx913 := hx912.e0 hxm13
        refine ⟨by (conv => whnf); exact ⟨⟨_, (hp9.e0 hx913).cell rfl, rfl, rfl⟩, trivial⟩, ?_⟩
        ((conv=>whnf);repeat(first|(refine mvT ?_;conv=>whnf)|(refine mvF ?_;conv=>whnf)|(refine cT (by rfl) ?_;conv=>whnf)|(refine cF (by rfl) ?_;conv=>whnf)))
        intro b13 w14 hb13 ho13 hx13
        have ho13 : Own w14 b13 96 [.int .i16 (IntKind.i16.wrap (atT (atT t 4).l[i] 0).n), .int .i32 (IntKind.i32.wrap (atT (atT t 4).l[i] 1).n), .int .i32 (IntKind.i32.wrap (atT (atT t 4).l[i] 2).n), .int .i32 (IntKind.i32.wrap (atT (atT t 4).l[i] 3).n), zc4, zc5, zc6, zm] := ho13
        have hr13 := rMetadataResponseTopicPartition_ext hr13 hx13 fun _ _ _ f => f
        have hx913 := hx913.e0 hx13
        refine ⟨by (conv => whnf); exact ⟨⟨_, (hp9.e0 hx913).cell rfl, rfl, rfl⟩, trivial⟩, ?_⟩
        have hs913 := hx913.size
        ((conv=>whnf);repeat(first|(refine mvT ?_;conv=>whnf)|(refine mvF ?_;conv=>whnf)|(refine cT (by rfl) ?_;conv=>whnf)|(refine cF (by rfl) ?_;conv=>whnf)))
        refine app_struct (ms := [[.int .i16 (IntKind.i16.wrap (atT (atT t 4).l[i] 0).n), .int .i32 (IntKind.i32.wrap (atT (atT t 4).l[i] 1).n), .int .i32 (IntKind.i32.wrap (atT (atT t 4).l[i] 2).n), .int .i32 (IntKind.i32.wrap (atT (atT t 4).l[i] 3).n), zc4, zc5, zc6, zm]]) rfl (hos9.e0 hx913) (src_one ho13 (rMetadataResponseTopicPartition_len hr13) rfl) (by simp) (by simpa only [List.flatten_cons, List.flatten_nil, List.append_nil] using hok13) rfl ⟨by simp only [List.length_singleton, hesl]; omega, by simp only [List.length_singleton, hesl]; omega⟩ (by omega) ?_
        intro v15 w15 hos15 hx15 hb15 hnn15
        obtain ⟨a15, n15, c15, rfl⟩ : ∃ a n c, v15 = .slice a n c := by
          obtain ⟨a, c, h, _⟩ := hos15.shape
          exact ⟨a, _, c, h⟩
        have hpsl : ¬ sl.ownBlock = some p := fun h => by have := hos9.blk p h; omega
        have ho15 := (hp9.e0 hx913).ext hx15 hpsl
        ((conv=>whnf);repeat(first|(refine mvT ?_;conv=>whnf)|(refine mvF ?_;conv=>whnf)|(refine cT (by rfl) ?_;conv=>whnf)|(refine cF (by rfl) ?_;conv=>whnf)))
        refine st_cell (o := 19) (v := .slice a15 n15 c15) ho15 rfl (by omega) rfl (by simp) rfl ?_
        intro w16 ho16 hx16
        ((conv=>whnf);repeat(first|(refine mvT ?_;conv=>whnf)|(refine mvF ?_;conv=>whnf)|(refine cT (by rfl) ?_;conv=>whnf)|(refine cF (by rfl) ?_;conv=>whnf)))
        have hx916 : Ext (fun k => k = p ∨ wc.heap.size ≤ k) w9 w16 := ((hx913.mono fun _ _ f => f.elim).trans hx15 fun k _ h => .inr (hos9.blk k h)).trans hx16 fun _ _ h => .inl h
        have hos16 := hos15.ext hx16 fun k hk h => by have := hos15.blk k hk; omega
        refine ⟨(i + 1, _), ⟨rfl, rfl, rfl, rfl, rfl, inc_eq (by rw [maxLen_eq] at hm8; omega), trivial⟩, ⟨⟨hx09.trans hx916 fun k hk h => by omega, hxc9.trans hx916 fun _ _ h => h, hx89.trans hx916 fun k hk h => by omega, by simp only; omega, hnn15 hnn⟩, ho16, es ++ [[.int .i16 (IntKind.i16.wrap (atT (atT t 4).l[i] 0).n), .int .i32 (IntKind.i32.wrap (atT (atT t 4).l[i] 1).n), .int .i32 (IntKind.i32.wrap (atT (atT t 4).l[i] 2).n), .int .i32 (IntKind.i32.wrap (atT (atT t 4).l[i] 3).n), zc4, zc5, zc6, zm]], hos16, by simp [hesl], ?_⟩, by simp only; omega⟩
        intro j c x hj hx
        have key : rMetadataResponseTopicPartition w14 (fun k => k ≠ p ∧ k ≠ q ∧ (R0 k ∨ w0.heap.size ≤ k) ∧ sl.ownBlock ≠ some k) c x := by
          rcases Nat.lt_or_ge j es.length with hjl | hjl
          · rw [List.getElem?_append_left hjl] at hj
            exact rMetadataResponseTopicPartition_ext (hesr j c x hj hx) hx913 fun _ _ _ f => f
          · have hj0 : j = es.length := by have := (List.getElem?_eq_some_iff.1 hj).1; simp at this; omega
            subst hj0
            rw [List.getElem?_append_right (Nat.le_refl _), Nat.sub_self, List.getElem?_cons_zero, Option.some.injEq] at hj
            subst hj
            rw [hesl, List.getElem?_eq_getElem hill, Option.some.injEq] at hx
            subst hx
            exact rMetadataResponseTopicPartition_mono hr13 fun k hk h => by
              have hkp : k ≠ p := by rcases h with h | h; exact (hR0 k h).2; omega
              have hkq : k ≠ q := by rcases h with h | h; (have := (hR0 k h).1; omega); omega
              exact ⟨hkp, hkq, h.imp id (fun h => by omega), fun e => by have := hos9.own.lt k e; rcases h with h | h; (have := (hR0 k h).1; have := hos9.blk k e; omega); omega⟩
        have key2 := rMetadataResponseTopicPartition_ext (rMetadataResponseTopicPartition_ext (rMetadataResponseTopicPartition_mono key (F' := fun k => (fun k => k ≠ p ∧ k ≠ q ∧ (R0 k ∨ w0.heap.size ≤ k) ∧ sl.ownBlock ≠ some k) k ∧ k < w14.heap.size) fun k hk h => ⟨h, hk⟩) hx15 fun k _ h => h.1.2.2.2) hx16 fun k _ h => h.1.1
        exact rMetadataResponseTopicPartition_mono key2 fun k _ h => ⟨h.1.1, h.1.2.1, h.1.2.2.1, fun e => by
          rcases hb15 with e2 | ⟨g, hg, hle⟩
          · exact h.1.2.2.2 (e2 ▸ e)
          · have e : (Value.slice a15 n15 c15).ownBlock = some k := e
            rw [hg, Option.some.injEq] at e
            have := h.2
            omega⟩
      have hil : i = ls8.length := by have := of_decide_eq_false h9; simp only at this; omega
      ((conv=>whnf);repeat(first|(refine mvT ?_;conv=>whnf)|(refine mvF ?_;conv=>whnf)|(refine cT (by rfl) ?_;conv=>whnf)|(refine cF (by rfl) ?_;conv=>whnf)))
      have hli : ListR true 8 (rMetadataResponseTopicPartition w9 (fun k => k ≠ p ∧ k ≠ q ∧ (R0 k ∨ w0.heap.size ≤ k))) w9 (fun k => k ≠ p ∧ k ≠ q ∧ (R0 k ∨ w0.heap.size ≤ k)) sl (atT t 4) := by
        refine .inr ⟨hnl, fun _ => ?_, es, hos9.sl fun k hk => ⟨by omega, by omega, .inr (by omega)⟩, by omega, fun j c x hj hx => rMetadataResponseTopicPartition_mono (hesr j c x hj hx) fun k _ h => ⟨h.1, h.2.1, h.2.2.1⟩⟩
        rcases hos9.own.2 with ⟨e, _⟩ | ⟨g, cap, cur, e, _⟩
        · exact absurd e hnn
        · exact ⟨_, _, _, e⟩
      exact ⟨sl, ⟨rfl, rfl, rfl, trivial⟩, hx09, hp9, ho.ext hxc9 (by omega), hoq.ext hxc9 (by have := hoq.lt; omega), hc1.ext hxc9 (fun k _ h => by have := h.1; omega), hc2, hli⟩
    · have hnl : (atT t 4).nl = true := by simpa using hnl
      ((conv=>whnf);repeat(first|(refine mvT ?_;conv=>whnf)|(refine mvF ?_;conv=>whnf)|(refine cT (by rfl) ?_;conv=>whnf)|(refine cF (by rfl) ?_;conv=>whnf)))
      exact ⟨_, ⟨rfl, rfl, rfl, trivial⟩, hx0.tr0 hxa, hp.e0 hxa, ho.e0 hxa, hoq.e0 hxa, hc1.ext hxa (fun _ _ _ f => f), hc2, .inl ⟨hnl, rfl⟩⟩
  clear hfl
  rintro c4 wc ⟨hx0, hp, ho, hoq, hc1, hc2, hc4⟩
  ((conv=>whnf);repeat(first|(refine mvT ?_;conv=>whnf)|(refine mvF ?_;conv=>whnf)|(refine cT (by rfl) ?_;conv=>whnf)|(refine cF (by rfl) ?_;conv=>whnf)))
  refine ⟨_, rfl, ho.cells, ?_⟩
  ((conv=>whnf);repeat(first|(refine mvT ?_;conv=>whnf)|(refine mvF ?_;conv=>whnf)|(refine cT (by rfl) ?_;conv=>whnf)|(refine cF (by rfl) ?_;conv=>whnf)))
  refine Does.mono (iat_does (ht0.ext hx0 fun k _ h => (hR0 k h).2) 5) ?_
  rintro ra wa ⟨hra, hxa⟩
  obtain ⟨sva, lva, uva, lsa, rfl, hna, hsa, hla, helsa, hua⟩ := hra.open
  ((conv=>whnf);repeat(first|(refine mvT ?_;conv=>whnf)|(refine mvF ?_;conv=>whnf)|(refine cT (by rfl) ?_;conv=>whnf)|(refine cF (by rfl) ?_;conv=>whnf)))
  refine st_cell (o := 20) (v := .int .i32 (IntKind.i32.wrap (atT t 5).n)) (hp.e0 hxa) (rfl) (by omega) rfl (by simp) (rfl) ?_
  intro wc hoc hxc
  have hp : Own wc p ty [.int .i16 (IntKind.i16.wrap (atT t 0).n), c1, bcell u2_0, bcell u2_1, bcell u2_2, bcell u2_3, bcell u2_4, bcell u2_5, bcell u2_6, bcell u2_7, bcell u2_8, bcell u2_9, bcell u2_10, bcell u2_11, bcell u2_12, bcell u2_13, bcell u2_14, bcell u2_15, .bool (decide ((atT t 3).n % 2 = 1)), c4, .int .i32 (IntKind.i32.wrap (atT t 5).n), .map none] := hoc
  have ho := (ho.e0 hxa).ext hxc (Ne.symm hpb)
  have hx0 := (hx0.tr0 hxa).trans hxc fun _ _ h => h
  have hc1 := (hc1.ext hxa fun _ _ _ f => f).ext hxc fun k _ h => h.1
  have hc4 := (hc4.ext hxa (fun _ _ _ f => f) (fun _ _ h => rMetadataResponseTopicPartition_ext h hxa (fun _ _ _ f => f))).ext hxc (fun k _ h => h.1) (fun _ _ h => rMetadataResponseTopicPartition_ext h hxc (fun k _ h => h.1))
  have hoq := (hoq.e0 hxa).ext hxc (Ne.symm hpq)
  ((conv=>whnf);repeat(first|(refine mvT ?_;conv=>whnf)|(refine mvF ?_;conv=>whnf)|(refine cT (by rfl) ?_;conv=>whnf)|(refine cF (by rfl) ?_;conv=>whnf)))
  refine ldS (ho.cell rfl) ?_;((conv=>whnf);repeat(first|(refine mvT ?_;conv=>whnf)|(refine mvF ?_;conv=>whnf)|(refine cT (by rfl) ?_;conv=>whnf)|(refine cF (by rfl) ?_;conv=>whnf)))
  have hpN := hp.lt
  have h0N := hx0.size
  refine VL.loop (fun s : Nat × Value => [(1, .pointer (some ⟨b, 0, none⟩)), (2, .pointer (some ⟨q, 0, none⟩)), (3, .pointer (some ⟨p, 0, none⟩)), (60, .slice au us.length cu), (61, .int .i64 us.length), (62, .int .i64 s.1)])
    (fun s w' => (Ext (fun k => k = p) w0 w' ∧ Ext (fun k => k = p ∨ wc.heap.size ≤ k) wc w' ∧ s.1 ≤ us.length) ∧ Own w' p ty [.int .i16 (IntKind.i16.wrap (atT t 0).n), c1, bcell u2_0, bcell u2_1, bcell u2_2, bcell u2_3, bcell u2_4, bcell u2_5, bcell u2_6, bcell u2_7, bcell u2_8, bcell u2_9, bcell u2_10, bcell u2_11, bcell u2_12, bcell u2_13, bcell u2_14, bcell u2_15, .bool (decide ((atT t 3).n % 2 = 1)), c4, .int .i32 (IntKind.i32.wrap (atT t 5).n), s.2] ∧ TagsO w' wc.heap.size R0 s.2 (t.u.take s.1)) (fun s => us.length - s.1) (0, .map none)
    ⟨rfl, rfl, rfl, rfl, rfl, rfl, trivial⟩ ⟨⟨hx0, Ext.refl _ _, Nat.zero_le _⟩, hp, TagsO.nil _ _ _⟩ ?_
  rintro ⟨i, m⟩ w9 ⟨⟨hx09, hxc9, hi⟩, hp9, hm9⟩
  dsimp only at hi hp9 hm9
  ((conv=>whnf);repeat(first|(refine mvT ?_;conv=>whnf)|(refine mvF ?_;conv=>whnf)|(refine cT (by rfl) ?_;conv=>whnf)|(refine cF (by rfl) ?_;conv=>whnf)))
  refine cI (by rfl) (fun h9=>?_) (fun h9=>?_)
  · have hil : i < us.length := by have := of_decide_eq_true h9; simp only at this; omega
    have hilu : i < t.u.length := by omega
    obtain ⟨hkey, bv, hci, hbv⟩ := huc i us[i] t.u[i] (by simp [hil]) (by simp [hilu])
    obtain ⟨b10, o10, rfl, hc10⟩ := husC i us[i] (by simp [hil])
    have hb10 := husF b10 o10 rfl (by omega)
    rw [hci] at hc10
    obtain ⟨av, cv, rfl, _⟩ := hbv.view
    have hc10 := hc10.ext hx09 (hR0 _ hb10.1).2
    have hbv9 := hbv.ext hx09 fun k _ h => (hR0 k h).2
    ((conv=>whnf);repeat(first|(refine mvT ?_;conv=>whnf)|(refine mvF ?_;conv=>whnf)|(refine cT (by rfl) ?_;conv=>whnf)|(refine cF (by rfl) ?_;conv=>whnf)))
    refine ⟨b10, o10, rfl, ⟨by omega, by omega⟩, ?_⟩
    ((conv=>whnf);repeat(first|(refine mvT ?_;conv=>whnf)|(refine mvF ?_;conv=>whnf)|(refine cT (by rfl) ?_;conv=>whnf)|(refine cF (by rfl) ?_;conv=>whnf)))
    refine ⟨_, rfl, by rw [Int.toNat_natCast]; exact hc10, ?_⟩
    ((conv=>whnf);repeat(first|(refine mvT ?_;conv=>whnf)|(refine mvF ?_;conv=>whnf)|(refine cT (by rfl) ?_;conv=>whnf)|(refine cF (by rfl) ?_;conv=>whnf)))
    intro b11 w11 hb11 ho11 hx11
    ((conv=>whnf);repeat(first|(refine mvT ?_;conv=>whnf)|(refine mvF ?_;conv=>whnf)|(refine cT (by rfl) ?_;conv=>whnf)|(refine cF (by rfl) ?_;conv=>whnf)))
    refine st_all [.int .u32 (t.u[i].1 : Int), .slice av (t.u[i]).2.length cv] ho11 rfl rfl rfl ?_
    intro w12 ho12 hx12
    have hx912 : Ext nob w9 w12 := (hx11.st hx12 hb11)
    ((conv=>whnf);repeat(first|(refine mvT ?_;conv=>whnf)|(refine mvF ?_;conv=>whnf)|(refine cT (by rfl) ?_;conv=>whnf)|(refine cF (by rfl) ?_;conv=>whnf)))
    refine ldS (ho12.cell rfl) ?_;((conv=>whnf);repeat(first|(refine mvT ?_;conv=>whnf)|(refine mvF ?_;conv=>whnf)|(refine cT (by rfl) ?_;conv=>whnf)|(refine cF (by rfl) ?_;conv=>whnf)))
    refine ldS (ho12.cell rfl) ?_;((conv=>whnf);repeat(first|(refine mvT ?_;conv=>whnf)|(refine mvF ?_;conv=>whnf)|(refine cT (by rfl) ?_;conv=>whnf)|(refine cF (by rfl) ?_;conv=>whnf)))
    have hnew : ∀ x, x ∈ t.u.take i → x.1 ≠ (t.u[i]).1 := by
      intro x hx
      obtain ⟨j, hj, rfl⟩ := List.mem_take_iff_getElem.1 hx
      have := List.pairwise_iff_getElem.1 hok.2.rise j i (by omega) hilu (by omega)
      omega
    refine Does.mono (Tags_Set_does (o := 21) (N := wc.heap.size) (hp9.e0 hx912) rfl (hm9.e0 hx912) (Nat.le_trans hxc9.size hx912.size) hpN (fun k h => ⟨by have := (hR0 k h).1; omega, (hR0 k h).2⟩) (hbv9.e0 hx912) hnew) ?_
    rintro r13 w13 ⟨m13, hone, hp13, hm13, hx13⟩
    ((conv=>whnf);repeat(first|(refine mvT ?_;conv=>whnf)|(refine mvF ?_;conv=>whnf)|(refine cT (by rfl) ?_;conv=>whnf)|(refine cF (by rfl) ?_;conv=>whnf)))
    have hx913 : Ext (fun k => k = p ∨ wc.heap.size ≤ k) w9 w13 := (hx912.mono fun _ _ f => f.elim).trans hx13 fun _ _ h => h
    refine ⟨(i + 1, m13), ⟨rfl, rfl, rfl, rfl, rfl, inc_eq (by rw [maxLen_eq] at husm; omega), trivial⟩, ⟨⟨hx09.trans hx913 fun k hk h => by omega, hxc9.trans hx913 fun _ _ h => h, by simp only; omega⟩, hp13, ?_⟩, by simp only; omega⟩
    rw [List.take_succ_eq_append_getElem hilu]
    exact hm13
  have hil : i = us.length := by have := of_decide_eq_false h9; simp only at this; omega
  ((conv=>whnf);repeat(first|(refine mvT ?_;conv=>whnf)|(refine mvF ?_;conv=>whnf)|(refine cT (by rfl) ?_;conv=>whnf)|(refine cF (by rfl) ?_;conv=>whnf)))
  rw [hil, husl, List.take_length] at hm9
  refine ⟨_, rfl, hp9.cells, ?_⟩
  ((conv=>whnf);repeat(first|(refine mvT ?_;conv=>whnf)|(refine mvF ?_;conv=>whnf)|(refine cT (by rfl) ?_;conv=>whnf)|(refine cF (by rfl) ?_;conv=>whnf)))
  have hoq9 := hoq.ext hxc9 (by have := hoq.lt; omega)
  have hc1 := hc1.ext hxc9 (fun k _ h => by have := h.1; omega)
  have hc4 := hc4.ext hxc9 (fun k _ h => by have := h.1; omega) (fun _ _ h => rMetadataResponseTopicPartition_ext h hxc9 (fun k _ h => by have := h.1; omega))
  have hokc : okCells [.int .i16 (IntKind.i16.wrap (atT t 0).n), c1, bcell u2_0, bcell u2_1, bcell u2_2, bcell u2_3, bcell u2_4, bcell u2_5, bcell u2_6, bcell u2_7, bcell u2_8, bcell u2_9, bcell u2_10, bcell u2_11, bcell u2_12, bcell u2_13, bcell u2_14, bcell u2_15, .bool (decide ((atT t 3).n % 2 = 1)), c4, .int .i32 (IntKind.i32.wrap (atT t 5).n), m] = true := ok_cons rfl (ok_cons hc1.one (ok_cons rfl (ok_cons rfl (ok_cons rfl (ok_cons rfl (ok_cons rfl (ok_cons rfl (ok_cons rfl (ok_cons rfl (ok_cons rfl (ok_cons rfl (ok_cons rfl (ok_cons rfl (ok_cons rfl (ok_cons rfl (ok_cons rfl (ok_cons rfl (ok_cons rfl (ok_cons hc4.one (ok_cons rfl (ok_cons hm9.tags.one (ok_nil))))))))))))))))))))))
  refine st_all [.int .i16 (IntKind.i16.wrap (atT t 0).n), c1, bcell u2_0, bcell u2_1, bcell u2_2, bcell u2_3, bcell u2_4, bcell u2_5, bcell u2_6, bcell u2_7, bcell u2_8, bcell u2_9, bcell u2_10, bcell u2_11, bcell u2_12, bcell u2_13, bcell u2_14, bcell u2_15, .bool (decide ((atT t 3).n % 2 = 1)), c4, .int .i32 (IntKind.i32.wrap (atT t 5).n), m] hoq9 rfl hqlen hokc ?_
  intro we hoe hxe
  ((conv=>whnf);repeat(first|(refine mvT ?_;conv=>whnf)|(refine mvF ?_;conv=>whnf)|(refine cT (by rfl) ?_;conv=>whnf)|(refine cF (by rfl) ?_;conv=>whnf)))
  refine ⟨_, rfl, hoe.cells, ?_⟩
  have hxn : Ext nob w0 w9 := (Ext.refl nob w0).trans hx09 fun k hk e => by omega
  exact ⟨_, rfl, hokc, ⟨c1, u2_0, u2_1, u2_2, u2_3, u2_4, u2_5, u2_6, u2_7, u2_8, u2_9, u2_10, u2_11, u2_12, u2_13, u2_14, u2_15, c4, m, rfl, (hc1.ext hxe (fun k _ h => h.2.1)).mono (fun k _ h => h.2.2.imp (hRF k) id), hc2, (hc4.ext hxe (fun k _ h => h.2.1) (fun _ _ h => rMetadataResponseTopicPartition_ext h hxe (fun k _ h => h.2.1))).mono (fun k _ h => h.2.2.imp (hRF k) id) (fun _ _ h => rMetadataResponseTopicPartition_mono h fun k _ h => h.2.2.imp (hRF k) id), (hm9.tags.ext hxe (fun k _ h e => by rcases h with h | h; (have := (hR0 k h).1; omega); omega)).mono fun k _ h => h.imp (hRF k) (fun h => by omega)⟩, hxn.trans hxe fun k hk e => by omega⟩
theorem fillMetadataResponse {F : Nat → Prop} {w0 : World} {p : Nat} {ty : TypeId} {v u : Int} {x : Value} {t : T} (hp : Own w0 p ty [.int .i16 v, .int .i32 0, .slice none 0 0, .pointer none, .int .i32 0, .slice none 0 0, .int .i32 0, .int .i16 0, .map none]) (ht : Tr w0 F x t) (hF : ∀ k, F k → k ≠ p) (hok : partOK 9 u dMetadataResponse t) :
    Does X.P 19 #[.pointer (some ⟨p, 0, none⟩), x] w0 fun r w' => Ext (fun k => k = p) w0 w' ∧ ∃ c1 c2 c4 m, Own w' p ty [.int .i16 v, .int .i32 (IntKind.i32.wrap (atT t 0).n), c1, c2, .int .i32 (IntKind.i32.wrap (atT t 3).n), c4, .int .i32 (IntKind.i32.wrap (atT t 5).n), .int .i16 (IntKind.i16.wrap (atT t 6).n), m] ∧ ListR true 5 (rMetadataResponseBroker w' (fun k => k ≠ p)) w' (fun k => k ≠ p) c1 (atT t 1) ∧ NTextR w' (fun k => k ≠ p) c2 (atT t 2) ∧ ListR true 22 (rMetadataResponseTopic w' (fun k => k ≠ p)) w' (fun k => k ≠ p) c4 (atT t 4) ∧ TagsR w' (fun k => k ≠ p) m t.u := by
  have hpl := hp.lt
  obtain ⟨R0, hR0, ht0⟩ : ∃ R0 : Nat → Prop, (∀ k, R0 k → k < w0.heap.size ∧ k ≠ p) ∧ Tr w0 R0 x t := ⟨fun k => k < w0.heap.size ∧ k ≠ p, fun k h => h, ht.mono fun k h1 h2 => ⟨h1, hF k h2⟩⟩
  clear ht hF
  obtain ⟨sv, lv, uv, ls, rfl, hn, hs, hl, hels, htg⟩ := ht0.open
  obtain ⟨us, hus, husl, huc⟩ := id htg
  obtain ⟨au, cu, rfl, husc, husm, husF, _, husC⟩ := hus.view
  refine Does.go (X := X) (l := [_, _]) Tryz.func19 rfl (by kernel_rfl) (by kernel_rfl) _ rfl ?_
  ((conv=>whnf);repeat(first|(refine mvT ?_;conv=>whnf)|(refine mvF ?_;conv=>whnf)|(refine cT (by rfl) ?_;conv=>whnf)|(refine cF (by rfl) ?_;conv=>whnf)))
  intro b wc hb ho hx
  have hpb : p ≠ b := by omega
  have ho : Own wc b ImplTreeT [.int .i64 t.n, sv, .bool t.nl, lv, .slice au us.length cu] := ho
  have hx0 : Ext (fun k => k = p) w0 wc := hx.mono fun _ _ f => f.elim
  have hp := hp.e0 hx
  ((conv=>whnf);repeat(first|(refine mvT ?_;conv=>whnf)|(refine mvF ?_;conv=>whnf)|(refine cT (by rfl) ?_;conv=>whnf)|(refine cF (by rfl) ?_;conv=>whnf)))
  refine ⟨_, rfl, ho.cells, ?_⟩
  ((conv=>whnf);repeat(first|(refine mvT ?_;conv=>whnf)|(refine mvF ?_;conv=>whnf)|(refine cT (by rfl) ?_;conv=>whnf)|(refine cF (by rfl) ?_;conv=>whnf)))
  refine Does.mono (iat_does (ht0.ext hx0 fun k _ h => (hR0 k h).2) 0) ?_
  rintro ra wa ⟨hra, hxa⟩
  obtain ⟨sva, lva, uva, lsa, rfl, hna, hsa, hla, helsa, hua⟩ := hra.open
  ((conv=>whnf);repeat(first|(refine mvT ?_;conv=>whnf)|(refine mvF ?_;conv=>whnf)|(refine cT (by rfl) ?_;conv=>whnf)|(refine cF (by rfl) ?_;conv=>whnf)))
  refine st_cell (o := 1) (v := .int .i32 (IntKind.i32.wrap (atT t 0).n)) (hp.e0 hxa) (rfl) (by omega) rfl (by simp) (rfl) ?_
  intro wc hoc hxc
  have hp : Own wc p ty [.int .i16 v, .int .i32 (IntKind.i32.wrap (atT t 0).n), .slice none 0 0, .pointer none, .int .i32 0, .slice none 0 0, .int .i32 0, .int .i16 0, .map none] := hoc
  have ho := (ho.e0 hxa).ext hxc (Ne.symm hpb)
  have hx0 := (hx0.tr0 hxa).trans hxc fun _ _ h => h
  ((conv=>whnf);repeat(first|(refine mvT ?_;conv=>whnf)|(refine mvF ?_;conv=>whnf)|(refine cT (by rfl) ?_;conv=>whnf)|(refine cF (by rfl) ?_;conv=>whnf)))
  have hfl := fieldOK_list (hok.1 1 _ rfl)
  refine ⟨_, rfl, ho.cells, ?_⟩
  ((conv=>whnf);repeat(first|(refine mvT ?_;conv=>whnf)|(refine mvF ?_;conv=>whnf)|(refine cT (by rfl) ?_;conv=>whnf)|(refine cF (by rfl) ?_;conv=>whnf)))
  refine Does.mono (iat_does (ht0.ext hx0 fun k _ h => (hR0 k h).2) 1) ?_
  rintro ra wa ⟨hra, hxa⟩
  obtain ⟨sva, lva, uva, lsa, rfl, hna, hsa, hla, helsa, hua⟩ := hra.open
  ((conv=>whnf);repeat(first|(refine mvT ?_;conv=>whnf)|(refine mvF ?_;conv=>whnf)|(refine cT (by rfl) ?_;conv=>whnf)|(refine cF (by rfl) ?_;conv=>whnf)))
  refine VC.cutE (fun c : Value => [(0, .pointer (some ⟨p, 0, none⟩)), (3, .pointer (some ⟨b, 0, none⟩))]) (fun c w' => Ext (fun k => k = p) w0 w' ∧ Own w' p ty [.int .i16 v, .int .i32 (IntKind.i32.wrap (atT t 0).n), c, .pointer none, .int .i32 0, .slice none 0 0, .int .i32 0, .int .i16 0, .map none] ∧ Own w' b ImplTreeT [.int .i64 t.n, sv, .bool t.nl, lv, .slice au us.length cu] ∧ ListR true 5 (rMetadataResponseBroker w' (fun k => k ≠ p ∧ (R0 k ∨ w0.heap.size ≤ k))) w' (fun k => k ≠ p ∧ (R0 k ∨ w0.heap.size ≤ k)) c (atT t 1)) ?_ ?_
  · refine cI (by rfl) (fun hnl=>?_) (fun hnl=>?_)
    · have hnl : (atT t 1).nl = false := by simpa using hnl
      ((conv=>whnf);repeat(first|(refine mvT ?_;conv=>whnf)|(refine mvF ?_;conv=>whnf)|(refine cT (by rfl) ?_;conv=>whnf)|(refine cF (by rfl) ?_;conv=>whnf)))
      have hx1 := hx0.tr0 hxa
      refine ⟨_, rfl, (ho.e0 hxa).cells, ?_⟩
      ((conv=>whnf);repeat(first|(refine mvT ?_;conv=>whnf)|(refine mvF ?_;conv=>whnf)|(refine cT (by rfl) ?_;conv=>whnf)|(refine cF (by rfl) ?_;conv=>whnf)))
      refine Does.mono (iat_does (ht0.ext hx1 fun k _ h => (hR0 k h).2) 1) ?_
      rintro r5 w5 ⟨hr5, hx5⟩
      obtain ⟨sv5, lv5, uv5, ls5, rfl, hn5, hs5, hl5, hels5, hu5⟩ := hr5.open
      obtain ⟨a5, kc5, rfl, _⟩ := hl5.view
      have hlen5 := hels5.len
      ((conv=>whnf);repeat(first|(refine mvT ?_;conv=>whnf)|(refine mvF ?_;conv=>whnf)|(refine cT (by rfl) ?_;conv=>whnf)|(refine cF (by rfl) ?_;conv=>whnf)))
      refine ⟨⟨by omega, by omega, by omega, by simp only [Int.toNat_natCast]; omega⟩, ⟨by decide, rfl⟩, ?_⟩
      intro b6 w6 hb6 ho6 hx6
      ((conv=>whnf);repeat(first|(refine mvT ?_;conv=>whnf)|(refine mvF ?_;conv=>whnf)|(refine cT (by rfl) ?_;conv=>whnf)|(refine cF (by rfl) ?_;conv=>whnf)))
      have hx56 := (hxa.e0 hx5).e0 hx6
      have hsz5 := (hxa.e0 hx5).size
      have hszc := hx0.size
      have hb6l := ho6.lt
      have hplc := hp.lt
      have hblc := ho.lt
      refine st_cell (o := 2) (v := .slice (some ⟨b6, 0, none⟩) 0 ls5.length) (hp.e0 hx56) rfl (by omega) rfl (by simp) rfl ?_
      intro w7 ho7 hx7
      ((conv=>whnf);repeat(first|(refine mvT ?_;conv=>whnf)|(refine mvF ?_;conv=>whnf)|(refine cT (by rfl) ?_;conv=>whnf)|(refine cF (by rfl) ?_;conv=>whnf)))
      have hx7c : Ext (fun k => k = p) wc w7 := (hx56.mono fun _ _ f => f.elim).trans hx7 fun _ _ h => h
      have hx07 := hx0.trans hx7c fun _ _ h => h
      refine ⟨_, rfl, (ho.ext hx7c (Ne.symm hpb)).cells, ?_⟩
      ((conv=>whnf);repeat(first|(refine mvT ?_;conv=>whnf)|(refine mvF ?_;conv=>whnf)|(refine cT (by rfl) ?_;conv=>whnf)|(refine cF (by rfl) ?_;conv=>whnf)))
      refine Does.mono (iat_does (ht0.ext hx07 fun k _ h => (hR0 k h).2) 1) ?_
      rintro r8 w8 ⟨hr8, hx8⟩
      obtain ⟨sv8, lv8, uv8, ls8, rfl, hn8, hs8, hl8, hels8, hu8⟩ := hr8.open
      obtain ⟨a8, kc8, rfl, hkc8, hm8, hF8, _, hC8⟩ := hl8.view
      have hlen8 := hels8.len
      ((conv=>whnf);repeat(first|(refine mvT ?_;conv=>whnf)|(refine mvF ?_;conv=>whnf)|(refine cT (by rfl) ?_;conv=>whnf)|(refine cF (by rfl) ?_;conv=>whnf)))
      have hx8c : Ext (fun k => k = p ∨ wc.heap.size ≤ k) wc w8 := (hx7c.tr0 hx8).mono fun _ _ h => .inl h
      have hx08 := hx07.tr0 hx8
      have hos8 := (OSl.mk0 (sz := 5) (n := ls5.length) (ho6.ext hx7 (by omega)) (by simp) (by rw [maxLen_eq]; omega) (B := wc.heap.size) (by omega)).e0 hx8
      refine VL.loop (fun s : Nat × Value => [(0, .pointer (some ⟨p, 0, none⟩)), (3, .pointer (some ⟨b, 0, none⟩)), (31, .slice a8 ls8.length kc8), (32, .int .i64 ls8.length), (33, .int .i64 s.1)])
        (fun s w' => (Ext (fun k => k = p) w0 w' ∧ Ext (fun k => k = p ∨ wc.heap.size ≤ k) wc w' ∧ Ext (fun k => k = p ∨ w0.heap.size ≤ k) w8 w' ∧ s.1 ≤ ls8.length ∧ s.2 ≠ .slice none 0 0) ∧ Own w' p ty [.int .i16 v, .int .i32 (IntKind.i32.wrap (atT t 0).n), s.2, .pointer none, .int .i32 0, .slice none 0 0, .int .i32 0, .int .i16 0, .map none] ∧ ∃ es : List (List Value), OSl w' wc.heap.size 74 5 s.2 es ∧ es.length = s.1 ∧ ∀ (j : Nat) (c : List Value) (x : T), es[j]? = some c → (atT t 1).l[j]? = some x → rMetadataResponseBroker w' (fun k => k ≠ p ∧ (R0 k ∨ w0.heap.size ≤ k) ∧ s.2.ownBlock ≠ some k) c x) (fun s => ls8.length - s.1) (0, .slice (some ⟨b6, 0, none⟩) 0 ls5.length)
        ⟨rfl, rfl, rfl, rfl, rfl, trivial⟩ ⟨⟨hx08, hx8c, Ext.refl _ _, Nat.zero_le _, by simp⟩, ho7.e0 hx8, [], hos8, rfl, by simp⟩ ?_
      rintro ⟨i, sl⟩ w9 ⟨⟨hx09, hxc9, hx89, hi, hnn⟩, hp9, es, hos9, hesl, hesr⟩
      dsimp only at hi hp9 hos9 hesl hesr hnn
      ((conv=>whnf);repeat(first|(refine mvT ?_;conv=>whnf)|(refine mvF ?_;conv=>whnf)|(refine cT (by rfl) ?_;conv=>whnf)|(refine cF (by rfl) ?_;conv=>whnf)))
      refine cI (by rfl) (fun h9=>?_) (fun h9=>?_)
      · have hil : i < ls8.length := by have := of_decide_eq_true h9; simp only at this; omega
        have hill : i < (atT t 1).l.length := by omega
        have htr := hels8.at' i ls8[i] (atT t 1).l[i] (by simp [hil]) (by simp [hill])
        obtain ⟨b10, o10, rfl, hc10⟩ := hC8 i ls8[i] (by simp [hil])
        have hb10 := hF8 b10 o10 rfl (by omega)
        have hc10 := hc10.ext hx89 (by have := hR0 _ hb10.1; omega)
        have htr9 := htr.ext hx89 fun k _ h => by have := hR0 _ h; omega
        ((conv=>whnf);repeat(first|(refine mvT ?_;conv=>whnf)|(refine mvF ?_;conv=>whnf)|(refine cT (by rfl) ?_;conv=>whnf)|(refine cF (by rfl) ?_;conv=>whnf)))
        refine ⟨b10, o10, rfl, ⟨by omega, by omega⟩, ?_⟩
        ((conv=>whnf);repeat(first|(refine mvT ?_;conv=>whnf)|(refine mvF ?_;conv=>whnf)|(refine cT (by rfl) ?_;conv=>whnf)|(refine cF (by rfl) ?_;conv=>whnf)))
        refine ⟨ls8[i], htr.len, by rw [Int.toNat_natCast]; exact hc10, ?_⟩
        ((conv=>whnf);repeat(first|(refine mvT ?_;conv=>whnf)|(refine mvF ?_;conv=>whnf)|(refine cT (by rfl) ?_;conv=>whnf)|(refine cF (by rfl) ?_;conv=>whnf)))
        intro b11 w11 hb11 ho11 hx11
        ((conv=>whnf);repeat(first|(refine mvT ?_;conv=>whnf)|(refine mvF ?_;conv=>whnf)|(refine cT (by rfl) ?_;conv=>whnf)|(refine cF (by rfl) ?_;conv=>whnf)))
        refine st_all ls8[i] ho11 htr.len rfl htr.ok ?_
        intro w12 ho12 hx12
        have hx912 : Ext nob w9 w12.drew := (hx11.st hx12 hb11).e0 (ext_drew _)
        have ho12 := ho12.e0 (ext_drew _)
        have htr12 := htr9.e0 hx912
        obtain ⟨sv6, lv6, uv6, ls6, hy, hn6, hsy, _⟩ := Tr.open ⟨ls8[i], rfl, htr12⟩
        have hci : ls8[i] = [.int .i64 ((atT t 1).l[i]).n, sv6, .bool ((atT t 1).l[i]).nl, lv6, uv6] := by
          have := congrArg Value.cells hy
          exact congrArg Array.toList this
        rw [hci] at ho12 htr12
        have hs912 := hx912.size
        have hs9c := hxc9.size
        ((conv=>whnf);repeat(first|(refine mvT ?_;conv=>whnf)|(refine mvF ?_;conv=>whnf)|(refine cT (by rfl) ?_;conv=>whnf)|(refine cF (by rfl) ?_;conv=>whnf)))
        refine VD.draw mixed (.q 0 (.q 1 (.q 2 (.q 3 (.q 4 (.q 5 (.eff 6 [4] (.eff 7 [4] (.eff 8 [] (.q 9 (.q 10 (.eff 11 [] (.done))))))))))))) (by kernel_rfl) ?_;((conv=>whnf);repeat(first|(refine mvT ?_;conv=>whnf)|(refine mvF ?_;conv=>whnf)|(refine cT (by rfl) ?_;conv=>whnf)|(refine cF (by rfl) ?_;conv=>whnf)))
        refine ldS ((hp9.e0 hx912).cell rfl) ?_;((conv=>whnf);repeat(first|(refine mvT ?_;conv=>whnf)|(refine mvF ?_;conv=>whnf)|(refine cT (by rfl) ?_;conv=>whnf)|(refine cF (by rfl) ?_;conv=>whnf)))
        refine ⟨_, rfl, ho12.cells, ?_⟩
        ((conv=>whnf);repeat(first|(refine mvT ?_;conv=>whnf)|(refine mvF ?_;conv=>whnf)|(refine cT (by rfl) ?_;conv=>whnf)|(refine cF (by rfl) ?_;conv=>whnf)))
        refine Does.mono (makeMetadataResponseBroker (u := u) ⟨_, rfl, htr12⟩ ((hfl.2 _ (List.getElem_mem hill)).2.2 rfl)) ?_
        rintro r13 w13 ⟨es13, rfl, hok13, hr13, hxm13⟩
        obtain ⟨zc3, zm, rfl, _⟩ := id hr13
        have hx913 := hx912.e0 hxm13
        refine ⟨by (conv => whnf); exact ⟨⟨_, (hp9.e0 hx913).cell rfl, rfl, rfl⟩, trivial⟩, ?_⟩
        ((conv=>whnf);repeat(first|(refine mvT ?_;conv=>whnf)|(refine mvF ?_;conv=>whnf)|(refine cT (by rfl) ?_;conv=>whnf)|(refine cF (by rfl) ?_;conv=>whnf)))
        intro b13 w14 hb13 ho13 hx13
        have ho13 : Own w14 b13 74 [.int .i32 (IntKind.i32.wrap (atT (atT t 1).l[i] 0).n), str (atT (atT t 1).l[i] 1).s, .int .i32 (IntKind.i32.wrap (atT (atT t 1).l[i] 2).n), zc3, zm] := ho13
        have hr13 := rMetadataResponseBroker_ext hr13 hx13 fun _ _ _ f => f
        have hx913 := hx913.e0 hx13
        refine ⟨by (conv => whnf); exact ⟨⟨_, (hp9.e0 hx913).cell rfl, rfl, rfl⟩, trivial⟩, ?_⟩
        have hs913 := hx913.size
        ((conv=>whnf);repeat(first|(refine mvT ?_;conv=>whnf)|(refine mvF ?_;conv=>whnf)|(refine cT (by rfl) ?_;conv=>whnf)|(refine cF (by rfl) ?_;conv=>whnf)))
        refine app_struct (ms := [[.int .i32 (IntKind.i32.wrap (atT (atT t 1).l[i] 0).n), str (atT (atT t 1).l[i] 1).s, .int .i32 (IntKind.i32.wrap (atT (atT t 1).l[i] 2).n), zc3, zm]]) rfl (hos9.e0 hx913) (src_one ho13 (rMetadataResponseBroker_len hr13) rfl) (by simp) (by simpa only [List.flatten_cons, List.flatten_nil, List.append_nil] using hok13) rfl ⟨by simp only [List.length_singleton, hesl]; omega, by simp only [List.length_singleton, hesl]; omega⟩ (by omega) ?_
        intro v15 w15 hos15 hx15 hb15 hnn15
        obtain ⟨a15, n15, c15, rfl⟩ : ∃ a n c, v15 = .slice a n c := by
          obtain ⟨a, c, h, _⟩ := hos15.shape
          exact ⟨a, _, c, h⟩
        have hpsl : ¬ sl.ownBlock = some p := fun h => by have := hos9.blk p h; omega
        have ho15 := (hp9.e0 hx913).ext hx15 hpsl
        ((conv=>whnf);repeat(first|(refine mvT ?_;conv=>whnf)|(refine mvF ?_;conv=>whnf)|(refine cT (by rfl) ?_;conv=>whnf)|(refine cF (by rfl) ?_;conv=>whnf)))
        refine st_cell (o := 2) (v := .slice a15 n15 c15) ho15 rfl (by omega) rfl (by simp) rfl ?_
        intro w16 ho16 hx16
        ((conv=>whnf);repeat(first|(refine mvT ?_;conv=>whnf)|(refine mvF ?_;conv=>whnf)|(refine cT (by rfl) ?_;conv=>whnf)|(refine cF (by rfl) ?_;conv=>whnf)))
        have hx916 : Ext (fun k => k = p ∨ wc.heap.size ≤ k) w9 w16 := ((hx913.mono fun _ _ f => f.elim).trans hx15 fun k _ h => .inr (hos9.blk k h)).trans hx16 fun _ _ h => .inl h
        have hos16 := hos15.ext hx16 fun k hk h => by have := hos15.blk k hk; omega
        refine ⟨(i + 1, _), ⟨rfl, rfl, rfl, rfl, inc_eq (by rw [maxLen_eq] at hm8; omega), trivial⟩, ⟨⟨hx09.trans hx916 fun k hk h => by omega, hxc9.trans hx916 fun _ _ h => h, hx89.trans hx916 fun k hk h => by omega, by simp only; omega, hnn15 hnn⟩, ho16, es ++ [[.int .i32 (IntKind.i32.wrap (atT (atT t 1).l[i] 0).n), str (atT (atT t 1).l[i] 1).s, .int .i32 (IntKind.i32.wrap (atT (atT t 1).l[i] 2).n), zc3, zm]], hos16, by simp [hesl], ?_⟩, by simp only; omega⟩
        intro j c x hj hx
        have key : rMetadataResponseBroker w14 (fun k => k ≠ p ∧ (R0 k ∨ w0.heap.size ≤ k) ∧ sl.ownBlock ≠ some k) c x := by
          rcases Nat.lt_or_ge j es.length with hjl | hjl
          · rw [List.getElem?_append_left hjl] at hj
            exact rMetadataResponseBroker_ext (hesr j c x hj hx) hx913 fun _ _ _ f => f
          · have hj0 : j = es.length := by have := (List.getElem?_eq_some_iff.1 hj).1; simp at this; omega
            subst hj0
            rw [List.getElem?_append_right (Nat.le_refl _), Nat.sub_self, List.getElem?_cons_zero, Option.some.injEq] at hj
            subst hj
            rw [hesl, List.getElem?_eq_getElem hill, Option.some.injEq] at hx
            subst hx
            exact rMetadataResponseBroker_mono hr13 fun k hk h => by
              have hkp : k ≠ p := by rcases h with h | h; exact (hR0 k h).2; omega
              exact ⟨hkp, h.imp id (fun h => by omega), fun e => by have := hos9.own.lt k e; rcases h with h | h; (have := (hR0 k h).1; have := hos9.blk k e; omega); omega⟩
        have key2 := rMetadataResponseBroker_ext (rMetadataResponseBroker_ext (rMetadataResponseBroker_mono key (F' := fun k => (fun k => k ≠ p ∧ (R0 k ∨ w0.heap.size ≤ k) ∧ sl.ownBlock ≠ some k) k ∧ k < w14.heap.size) fun k hk h => ⟨h, hk⟩) hx15 fun k _ h => h.1.2.2) hx16 fun k _ h => h.1.1
        exact rMetadataResponseBroker_mono key2 fun k _ h => ⟨h.1.1, h.1.2.1, fun e => by
          rcases hb15 with e2 | ⟨g, hg, hle⟩
          · exact h.1.2.2 (e2 ▸ e)
          · have e : (Value.slice a15 n15 c15).ownBlock = some k := e
            rw [hg, Option.some.injEq] at e
            have := h.2
            omega⟩
      have hil : i = ls8.length := by have := of_decide_eq_false h9; simp only at this; omega
      ((conv=>whnf);repeat(first|(refine mvT ?_;conv=>whnf)|(refine mvF ?_;conv=>whnf)|(refine cT (by rfl) ?_;conv=>whnf)|(refine cF (by rfl) ?_;conv=>whnf)))
      have hli : ListR true 5 (rMetadataResponseBroker w9 (fun k => k ≠ p ∧ (R0 k ∨ w0.heap.size ≤ k))) w9 (fun k => k ≠ p ∧ (R0 k ∨ w0.heap.size ≤ k)) sl (atT t 1) := by
        refine .inr ⟨hnl, fun _ => ?_, es, hos9.sl fun k hk => ⟨by omega, .inr (by omega)⟩, by omega, fun j c x hj hx => rMetadataResponseBroker_mono (hesr j c x hj hx) fun k _ h => ⟨h.1, h.2.1⟩⟩
        rcases hos9.own.2 with ⟨e, _⟩ | ⟨g, cap, cur, e, _⟩
        · exact absurd e hnn
        · exact ⟨_, _, _, e⟩
      exact ⟨sl, ⟨rfl, rfl, trivial⟩, hx09, hp9, ho.ext hxc9 (by omega), hli⟩
    · have hnl : (atT t 1).nl = true := by simpa using hnl
      ((conv=>whnf);repeat(first|(refine mvT ?_;conv=>whnf)|(refine mvF ?_;conv=>whnf)|(refine cT (by rfl) ?_;conv=>whnf)|(refine cF (by rfl) ?_;conv=>whnf)))
      exact ⟨_, ⟨rfl, rfl, trivial⟩, hx0.tr0 hxa, hp.e0 hxa, ho.e0 hxa, .inl ⟨hnl, rfl⟩⟩
  clear hfl
  rintro c1 wc ⟨hx0, hp, ho, hc1⟩
  ((conv=>whnf);repeat(first|(refine mvT ?_;conv=>whnf)|(refine mvF ?_;conv=>whnf)|(refine cT (by rfl) ?_;conv=>whnf)|(refine cF (by rfl) ?_;conv=>whnf)))
  refine ⟨_, rfl, ho.cells, ?_⟩
  ((conv=>whnf);repeat(first|(refine mvT ?_;conv=>whnf)|(refine mvF ?_;conv=>whnf)|(refine cT (by rfl) ?_;conv=>whnf)|(refine cF (by rfl) ?_;conv=>whnf)))
  refine Does.mono (iat_does (ht0.ext hx0 fun k _ h => (hR0 k h).2) 2) ?_
  rintro ra wa ⟨hra, hxa⟩
  ((conv=>whnf);repeat(first|(refine mvT ?_;conv=>whnf)|(refine mvF ?_;conv=>whnf)|(refine cT (by rfl) ?_;conv=>whnf)|(refine cF (by rfl) ?_;conv=>whnf)))
  have hq := (hp.e0 hxa).lt
  have hq2 := (hx0.tr0 hxa).size
  refine Does.mono (textOf_does hra) ?_
  rintro c2 wb ⟨hc2, h1, hxb⟩
  have hc2 := hc2.mono (F' := (fun k => k ≠ p ∧ (R0 k ∨ w0.heap.size ≤ k))) fun k _ h => ⟨by omega, .inr (by omega)⟩
  have hxa := hxa.e0 hxb
  ((conv=>whnf);repeat(first|(refine mvT ?_;conv=>whnf)|(refine mvF ?_;conv=>whnf)|(refine cT (by rfl) ?_;conv=>whnf)|(refine cF (by rfl) ?_;conv=>whnf)))
  refine st_cell (o := 3) (v := c2) (hp.e0 hxa) (cells_one h1) (by omega) rfl (by simp) (h1) ?_
  intro wc hoc hxc
  have hp : Own wc p ty [.int .i16 v, .int .i32 (IntKind.i32.wrap (atT t 0).n), c1, c2, .int .i32 0, .slice none 0 0, .int .i32 0, .int .i16 0, .map none] := hoc
  have ho := (ho.e0 hxa).ext hxc (Ne.symm hpb)
  have hx0 := (hx0.tr0 hxa).trans hxc fun _ _ h => h
  have hc1 := (hc1.ext hxa (fun _ _ _ f => f) (fun _ _ h => rMetadataResponseBroker_ext h hxa (fun _ _ _ f => f))).ext hxc (fun k _ h => h.1) (fun _ _ h => rMetadataResponseBroker_ext h hxc (fun k _ h => h.1))
  have hc2 := hc2.ext hxc fun k _ h => h.1
  ((conv=>whnf);repeat(first|(refine mvT ?_;conv=>whnf)|(refine mvF ?_;conv=>whnf)|(refine cT (by rfl) ?_;conv=>whnf)|(refine cF (by rfl) ?_;conv=>whnf)))
  refine ⟨_, rfl, ho.cells, ?_⟩
  ((conv=>whnf);repeat(first|(refine mvT ?_;conv=>whnf)|(refine mvF ?_;conv=>whnf)|(refine cT (by rfl) ?_;conv=>whnf)|(refine cF (by rfl) ?_;conv=>whnf)))
  refine Does.mono (iat_does (ht0.ext hx0 fun k _ h => (hR0 k h).2) 3) ?_
  rintro ra wa ⟨hra, hxa⟩
  obtain ⟨sva, lva, uva, lsa, rfl, hna, hsa, hla, helsa, hua⟩ := hra.open
  ((conv=>whnf);repeat(first|(refine mvT ?_;conv=>whnf)|(refine mvF ?_;conv=>whnf)|(refine cT (by rfl) ?_;conv=>whnf)|(refine cF (by rfl) ?_;conv=>whnf)))
  refine st_cell (o := 4) (v := .int .i32 (IntKind.i32.wrap (atT t 3).n)) (hp.e0 hxa) (rfl) (by omega) rfl (by simp) (rfl) ?_
  intro wc hoc hxc
  have hp : Own wc p ty [.int .i16 v, .int .i32 (IntKind.i32.wrap (atT t 0).n), c1, c2, .int .i32 (IntKind.i32.wrap (atT t 3).n), .slice none 0 0, .int .i32 0, .int .i16 0, .map none] := hoc
  have ho := (ho.e0 hxa).ext hxc (Ne.symm hpb)
  have hx0 := (hx0.tr0 hxa).trans hxc fun _ _ h => h
  have hc1 := (hc1.ext hxa (fun _ _ _ f => f) (fun _ _ h => rMetadataResponseBroker_ext h hxa (fun _ _ _ f => f))).ext hxc (fun k _ h => h.1) (fun _ _ h => rMetadataResponseBroker_ext h hxc (fun k _ h => h.1))
  have hc2 := (hc2.ext hxa fun _ _ _ f => f).ext hxc fun k _ h => h.1
  ((conv=>whnf);repeat(first|(refine mvT ?_;conv=>whnf)|(refine mvF ?_;conv=>whnf)|(refine cT (by rfl) ?_;conv=>whnf)|(refine cF (by rfl) ?_;conv=>whnf)))
  have hfl := fieldOK_list (hok.1 4 _ rfl)
  refine ⟨_, rfl, ho.cells, ?_⟩
  ((conv=>whnf);repeat(first|(refine mvT ?_;conv=>whnf)|(refine mvF ?_;conv=>whnf)|(refine cT (by rfl) ?_;conv=>whnf)|(refine cF (by rfl) ?_;conv=>whnf)))
  refine Does.mono (iat_does (ht0.ext hx0 fun k _ h => (hR0 k h).2) 4) ?_
  rintro ra wa ⟨hra, hxa⟩
  obtain ⟨sva, lva, uva, lsa, rfl, hna, hsa, hla, helsa, hua⟩ := hra.open
  ((conv=>whnf);repeat(first|(refine mvT ?_;conv=>whnf)|(refine mvF ?_;conv=>whnf)|(refine cT (by rfl) ?_;conv=>whnf)|(refine cF (by rfl) ?_;conv=>whnf)))
  refine VC.cutE (fun c : Value => [(0, .pointer (some ⟨p, 0, none⟩)), (3, .pointer (some ⟨b, 0, none⟩))]) (fun c w' => Ext (fun k => k = p) w0 w' ∧ Own w' p ty [.int .i16 v, .int .i32 (IntKind.i32.wrap (atT t 0).n), c1, c2, .int .i32 (IntKind.i32.wrap (atT t 3).n), c, .int .i32 0, .int .i16 0, .map none] ∧ Own w' b ImplTreeT [.int .i64 t.n, sv, .bool t.nl, lv, .slice au us.length cu] ∧ ListR true 5 (rMetadataResponseBroker w' (fun k => k ≠ p ∧ (R0 k ∨ w0.heap.size ≤ k))) w' (fun k => k ≠ p ∧ (R0 k ∨ w0.heap.size ≤ k)) c1 (atT t 1) ∧ NTextR w' (fun k => k ≠ p ∧ (R0 k ∨ w0.heap.size ≤ k)) c2 (atT t 2) ∧ ListR true 22 (rMetadataResponseTopic w' (fun k => k ≠ p ∧ (R0 k ∨ w0.heap.size ≤ k))) w' (fun k => k ≠ p ∧ (R0 k ∨ w0.heap.size ≤ k)) c (atT t 4)) ?_ ?_
  · refine cI (by rfl) (fun hnl=>?_) (fun hnl=>?_)
    · have hnl : (atT t 4).nl = false := by simpa using hnl
      ((conv=>whnf);repeat(first|(refine mvT ?_;conv=>whnf)|(refine mvF ?_;conv=>whnf)|(refine cT (by rfl) ?_;conv=>whnf)|(refine cF (by rfl) ?_;conv=>whnf)))
      have hx1 := hx0.tr0 hxa
      refine ⟨_, rfl, (ho.e0 hxa).cells, ?_⟩
      ((conv=>whnf);repeat(first|(refine mvT ?_;conv=>whnf)|(refine mvF ?_;conv=>whnf)|(refine cT (by rfl) ?_;conv=>whnf)|(refine cF (by rfl) ?_;conv=>whnf)))
      refine Does.mono (iat_does (ht0.ext hx1 fun k _ h => (hR0 k h).2) 4) ?_
      rintro r5 w5 ⟨hr5, hx5⟩
      obtain ⟨sv5, lv5, uv5, ls5, rfl, hn5, hs5, hl5, hels5, hu5⟩ := hr5.open
      obtain ⟨a5, kc5, rfl, _⟩ := hl5.view
      have hlen5 := hels5.len
      ((conv=>whnf);repeat(first|(refine mvT ?_;conv=>whnf)|(refine mvF ?_;conv=>whnf)|(refine cT (by rfl) ?_;conv=>whnf)|(refine cF (by rfl) ?_;conv=>whnf)))
      refine ⟨⟨by omega, by omega, by omega, by simp only [Int.toNat_natCast]; omega⟩, ⟨by decide, rfl⟩, ?_⟩
      intro b6 w6 hb6 ho6 hx6
      ((conv=>whnf);repeat(first|(refine mvT ?_;conv=>whnf)|(refine mvF ?_;conv=>whnf)|(refine cT (by rfl) ?_;conv=>whnf)|(refine cF (by rfl) ?_;conv=>whnf)))
      have hx56 := (hxa.e0 hx5).e0 hx6
      have hsz5 := (hxa.e0 hx5).size
      have hszc := hx0.size
      have hb6l := ho6.lt
      have hplc := hp.lt
      have hblc := ho.lt
      refine st_cell (o := 5) (v := .slice (some ⟨b6, 0, none⟩) 0 ls5.length) (hp.e0 hx56) rfl (by omega) rfl (by simp) rfl ?_
      intro w7 ho7 hx7
      ((conv=>whnf);repeat(first|(refine mvT ?_;conv=>whnf)|(refine mvF ?_;conv=>whnf)|(refine cT (by rfl) ?_;conv=>whnf)|(refine cF (by rfl) ?_;conv=>whnf)))
      have hx7c : Ext (fun k => k = p) wc w7 := (hx56.mono fun _ _ f => f.elim).trans hx7 fun _ _ h => h
      have hx07 := hx0.trans hx7c fun _ _ h => h
      refine ⟨_, rfl, (ho.ext hx7c (Ne.symm hpb)).cells, ?_⟩
      ((conv=>whnf);repeat(first|(refine mvT ?_;conv=>whnf)|(refine mvF ?_;conv=>whnf)|(refine cT (by rfl) ?_;conv=>whnf)|(refine cF (by rfl) ?_;conv=>whnf)))
      refine Does.mono (iat_does (ht0.ext hx07 fun k _ h => (hR0 k h).2) 4) ?_
      rintro r8 w8 ⟨hr8, hx8⟩
      obtain ⟨sv8, lv8, uv8, ls8, rfl, hn8, hs8, hl8, hels8, hu8⟩ := hr8.open
      obtain ⟨a8, kc8, rfl, hkc8, hm8, hF8, _, hC8⟩ := hl8.view
      have hlen8 := hels8.len
      ((conv=>whnf);repeat(first|(refine mvT ?_;conv=>whnf)|(refine mvF ?_;conv=>whnf)|(refine cT (by rfl) ?_;conv=>whnf)|(refine cF (by rfl) ?_;conv=>whnf)))
      have hx8c : Ext (fun k => k = p ∨ wc.heap.size ≤ k) wc w8 := (hx7c.tr0 hx8).mono fun _ _ h => .inl h
      have hx08 := hx07.tr0 hx8
      have hos8 := (OSl.mk0 (sz := 22) (n := ls5.length) (ho6.ext hx7 (by omega)) (by simp) (by rw [maxLen_eq]; omega) (B := wc.heap.size) (by omega)).e0 hx8
      refine VL.loop (fun s : Nat × Value => [(0, .pointer (some ⟨p, 0, none⟩)), (3, .pointer (some ⟨b, 0, none⟩)), (76, .slice a8 ls8.length kc8), (77, .int .i64 ls8.length), (78, .int .i64 s.1)])
        (fun s w' => (Ext (fun k => k = p) w0 w' ∧ Ext (fun k => k = p ∨ wc.heap.size ≤ k) wc w' ∧ Ext (fun k => k = p ∨ w0.heap.size ≤ k) w8 w' ∧ s.1 ≤ ls8.length ∧ s.2 ≠ .slice none 0 0) ∧ Own w' p ty [.int .i16 v, .int .i32 (IntKind.i32.wrap (atT t 0).n), c1, c2, .int .i32 (IntKind.i32.wrap (atT t 3).n), s.2, .int .i32 0, .int .i16 0, .map none] ∧ ∃ es : List (List Value), OSl w' wc.heap.size 80 22 s.2 es ∧ es.length = s.1 ∧ ∀ (j : Nat) (c : List Value) (x : T), es[j]? = some c → (atT t 4).l[j]? = some x → rMetadataResponseTopic w' (fun k => k ≠ p ∧ (R0 k ∨ w0.heap.size ≤ k) ∧ s.2.ownBlock ≠ some k) c x) (fun s => ls8.length - s.1) (0, .slice (some ⟨b6, 0, none⟩) 0 ls5.length)
        ⟨rfl, rfl, rfl, rfl, rfl, trivial⟩ ⟨⟨hx08, hx8c, Ext.refl _ _, Nat.zero_le _, by simp⟩, ho7.e0 hx8, [], hos8, rfl, by simp⟩ ?_
      rintro ⟨i, sl⟩ w9 ⟨⟨hx09, hxc9, hx89, hi, hnn⟩, hp9, es, hos9, hesl, hesr⟩
      dsimp only at hi hp9 hos9 hesl hesr hnn
      ((conv=>whnf);repeat(first|(refine mvT ?_;conv=>whnf)|(refine mvF ?_;conv=>whnf)|(refine cT (by rfl) ?_;conv=>whnf)|(refine cF (by rfl) ?_;conv=>whnf)))
      refine cI (by rfl) (fun h9=>?_) (fun h9=>?_)
      · have hil : i < ls8.length := by have := of_decide_eq_true h9; simp only at this; omega
        have hill : i < (atT t 4).l.length := by omega
        have htr := hels8.at' i ls8[i] (atT t 4).l[i] (by simp [hil]) (by simp [hill])
        obtain ⟨b10, o10, rfl, hc10⟩ := hC8 i ls8[i] (by simp [hil])
        have hb10 := hF8 b10 o10 rfl (by omega)
        have hc10 := hc10.ext hx89 (by have := hR0 _ hb10.1; omega)
        have htr9 := htr.ext hx89 fun k _ h => by have := hR0 _ h; omega
        ((conv=>whnf);repeat(first|(refine mvT ?_;conv=>whnf)|(refine mvF ?_;conv=>whnf)|(refine cT (by rfl) ?_;conv=>whnf)|(refine cF (by rfl) ?_;conv=>whnf)))
        refine ⟨b10, o10, rfl, ⟨by omega, by omega⟩, ?_⟩
        ((conv=>whnf);repeat(first|(refine mvT ?_;conv=>whnf)|(refine mvF ?_;conv=>whnf)|(refine cT (by rfl) ?_;conv=>whnf)|(refine cF (by rfl) ?_;conv=>whnf)))
        refine ⟨ls8[i], htr.len, by rw [Int.toNat_natCast]; exact hc10, ?_⟩
        ((conv=>whnf);repeat(first|(refine mvT ?_;conv=>whnf)|(refine mvF ?_;conv=>whnf)|(refine cT (by rfl) ?_;conv=>whnf)|(refine cF (by rfl) ?_;conv=>whnf)))
        intro b11 w11 hb11 ho11 hx11
        ((conv=>whnf);repeat(first|(refine mvT ?_;conv=>whnf)|(refine mvF ?_;conv=>whnf)|(refine cT (by rfl) ?_;conv=>whnf)|(refine cF (by rfl) ?_;conv=>whnf)))
        refine st_all ls8[i] ho11 htr.len rfl htr.ok ?_
        intro w12 ho12 hx12
        have hx912 : Ext nob w9 w12.drew := (hx11.st hx12 hb11).e0 (ext_drew _)
        have ho12 := ho12.e0 (ext_drew _)
        have htr12 := htr9.e0 hx912
        obtain ⟨sv6, lv6, uv6, ls6, hy, hn6, hsy, _⟩ := Tr.open ⟨ls8[i], rfl, htr12⟩
        have hci : ls8[i] = [.int .i64 ((atT t 4).l[i]).n, sv6, .bool ((atT t 4).l[i]).nl, lv6, uv6] := by
          have := congrArg Value.cells hy
          exact congrArg Array.toList this
        rw [hci] at ho12 htr12
        have hs912 := hx912.size
        have hs9c := hxc9.size
        ((conv=>whnf);repeat(first|(refine mvT ?_;conv=>whnf)|(refine mvF ?_;conv=>whnf)|(refine cT (by rfl) ?_;conv=>whnf)|(refine cF (by rfl) ?_;conv=>whnf)))
        refine VD.draw mixed (.q 0 (.q 1 (.q 2 (.q 3 (.q 4 (.q 5 (.eff 6 [4] (.eff 7 [4] (.eff 8 [] (.q 9 (.q 10 (.eff 11 [] (.done))))))))))))) (by kernel_rfl) ?_;((conv=>whnf);repeat(first|(refine mvT ?_;conv=>whnf)|(refine mvF ?_;conv=>whnf)|(refine cT (by rfl) ?_;conv=>whnf)|(refine cF (by rfl) ?_;conv=>whnf)))
        refine ldS ((hp9.e0 hx912).cell rfl) ?_;((conv=>whnf);repeat(first|(refine mvT ?_;conv=>whnf)|(refine mvF ?_;conv=>whnf)|(refine cT (by rfl) ?_;conv=>whnf)|(refine cF (by rfl) ?_;conv=>whnf)))
        refine ⟨_, rfl, ho12.cells, ?_⟩
        ((conv=>whnf);repeat(first|(refine mvT ?_;conv=>whnf)|(refine mvF ?_;conv=>whnf)|(refine cT (by rfl) ?_;conv=>whnf)|(refine cF (by rfl) ?_;conv=>whnf)))
        refine Does.mono (makeMetadataResponseTopic (u := u) ⟨_, rfl, htr12⟩ ((hfl.2 _ (List.getElem_mem hill)).2.2 rfl)) ?_
        rintro r13 w13 ⟨es13, rfl, hok13, hr13, hxm13⟩
        obtain ⟨zc1, zu2_0, zu2_1, zu2_2, zu2_3, zu2_4, zu2_5, zu2_6, zu2_7, zu2_8, zu2_9, zu2_10, zu2_11, zu2_12, zu2_13, zu2_14, zu2_15, zc4, zm, rfl, _⟩ := id hr13
        have hx913 := hx912.e0 hxm13
        refine ⟨by (conv => whnf); exact ⟨⟨_, (hp9.e0 hx913).cell rfl, rfl, rfl⟩, trivial⟩, ?_⟩
        ((conv=>whnf);repeat(first|(refine mvT ?_;conv=>whnf)|(refine mvF ?_;conv=>whnf)|(refine cT (by rfl) ?_;conv=>whnf)|(refine cF (by rfl) ?_;conv=>whnf)))
        intro b13 w14 hb13 ho13 hx13
        have ho13 : Own w14 b13 80 [.int .i16 (IntKind.i16.wrap (atT (atT t 4).l[i] 0).n), zc1, bcell zu2_0, bcell zu2_1, bcell zu2_2, bcell zu2_3, bcell zu2_4, bcell zu2_5, bcell zu2_6, bcell zu2_7, bcell zu2_8, bcell zu2_9, bcell zu2_10, bcell zu2_11, bcell zu2_12, bcell zu2_13, bcell zu2_14, bcell zu2_15, .bool (decide ((atT (atT t 4).l[i] 3).n % 2 = 1)), zc4, .int .i32 (IntKind.i32.wrap (atT (atT t 4).l[i] 5).n), zm] := ho13
        have hr13 := rMetadataResponseTopic_ext hr13 hx13 fun _ _ _ f => f
        have hx913 := hx913.e0 hx13
        refine ⟨by (conv => whnf); exact ⟨⟨_, (hp9.e0 hx913).cell rfl, rfl, rfl⟩, trivial⟩, ?_⟩
        have hs913 := hx913.size
        ((conv=>whnf);repeat(first|(refine mvT ?_;conv=>whnf)|(refine mvF ?_;conv=>whnf)|(refine cT (by rfl) ?_;conv=>whnf)|(refine cF (by rfl) ?_;conv=>whnf)))
        refine app_struct (ms := [[.int .i16 (IntKind.i16.wrap (atT (atT t 4).l[i] 0).n), zc1, bcell zu2_0, bcell zu2_1, bcell zu2_2, bcell zu2_3, bcell zu2_4, bcell zu2_5, bcell zu2_6, bcell zu2_7, bcell zu2_8, bcell zu2_9, bcell zu2_10, bcell zu2_11, bcell zu2_12, bcell zu2_13, bcell zu2_14, bcell zu2_15, .bool (decide ((atT (atT t 4).l[i] 3).n % 2 = 1)), zc4, .int .i32 (IntKind.i32.wrap (atT (atT t 4).l[i] 5).n), zm]]) rfl (hos9.e0 hx913) (src_one ho13 (rMetadataResponseTopic_len hr13) rfl) (by simp) (by simpa only [List.flatten_cons, List.flatten_nil, List.append_nil] using hok13) rfl ⟨by simp only [List.length_singleton, hesl]; omega, by simp only [List.length_singleton, hesl]; omega⟩ (by omega) ?_
        intro v15 w15 hos15 hx15 hb15 hnn15
        obtain ⟨a15, n15, c15, rfl⟩ : ∃ a n c, v15 = .slice a n c := by
          obtain ⟨a, c, h, _⟩ := hos15.shape
          exact ⟨a, _, c, h⟩
        have hpsl : ¬ sl.ownBlock = some p := fun h => by have := hos9.blk p h; omega
        have ho15 := (hp9.e0 hx913).ext hx15 hpsl
        ((conv=>whnf);repeat(first|(refine mvT ?_;conv=>whnf)|(refine mvF ?_;conv=>whnf)|(refine cT (by rfl) ?_;conv=>whnf)|(refine cF (by rfl) ?_;conv=>whnf)))
        refine st_cell (o := 5) (v := .slice a15 n15 c15) ho15 rfl (by omega) rfl (by simp) rfl ?_
        intro w16 ho16 hx16
        ((conv=>whnf);repeat(first|(refine mvT ?_;conv=>whnf)|(refine mvF ?_;conv=>whnf)|(refine cT (by rfl) ?_;conv=>whnf)|(refine cF (by rfl) ?_;conv=>whnf)))
        have hx916 : Ext (fun k => k = p ∨ wc.heap.size ≤ k) w9 w16 := ((hx913.mono fun _ _ f => f.elim).trans hx15 fun k _ h => .inr (hos9.blk k h)).trans hx16 fun _ _ h => .inl h
        have hos16 := hos15.ext hx16 fun k hk h => by have := hos15.blk k hk; omega
        refine ⟨(i + 1, _), ⟨rfl, rfl, rfl, rfl, inc_eq (by rw [maxLen_eq] at hm8; omega), trivial⟩, ⟨⟨hx09.trans hx916 fun k hk h => by omega, hxc9.trans hx916 fun _ _ h => h, hx89.trans hx916 fun k hk h => by omega, by simp only; omega, hnn15 hnn⟩, ho16, es ++ [[.int .i16 (IntKind.i16.wrap (atT (atT t 4).l[i] 0).n), zc1, bcell zu2_0, bcell zu2_1, bcell zu2_2, bcell zu2_3, bcell zu2_4, bcell zu2_5, bcell zu2_6, bcell zu2_7, bcell zu2_8, bcell zu2_9, bcell zu2_10, bcell zu2_11, bcell zu2_12, bcell zu2_13, bcell zu2_14, bcell zu2_15, .bool (decide ((atT (atT t 4).l[i] 3).n % 2 = 1)), zc4, .int .i32 (IntKind.i32.wrap (atT (atT t 4).l[i] 5).n), zm]], hos16, by simp [hesl], ?_⟩, by simp only; omega⟩
        intro j c x hj hx
        have key : rMetadataResponseTopic w14 (fun k => k ≠ p ∧ (R0 k ∨ w0.heap.size ≤ k) ∧ sl.ownBlock ≠ some k) c x := by
          rcases Nat.lt_or_ge j es.length with hjl | hjl
          · rw [List.getElem?_append_left hjl] at hj
            exact rMetadataResponseTopic_ext (hesr j c x hj hx) hx913 fun _ _ _ f => f
          · have hj0 : j = es.length := by have := (List.getElem?_eq_some_iff.1 hj).1; simp at this; omega
            subst hj0
            rw [List.getElem?_append_right (Nat.le_refl _), Nat.sub_self, List.getElem?_cons_zero, Option.some.injEq] at hj
            subst hj
            rw [hesl, List.getElem?_eq_getElem hill, Option.some.injEq] at hx
            subst hx
            exact rMetadataResponseTopic_mono hr13 fun k hk h => by
              have hkp : k ≠ p := by rcases h with h | h; exact (hR0 k h).2; omega
              exact ⟨hkp, h.imp id (fun h => by omega), fun e => by have := hos9.own.lt k e; rcases h with h | h; (have := (hR0 k h).1; have := hos9.blk k e; omega); omega⟩
        have key2 := rMetadataResponseTopic_ext (rMetadataResponseTopic_ext (rMetadataResponseTopic_mono key (F' := fun k => (fun k => k ≠ p ∧ (R0 k ∨ w0.heap.size ≤ k) ∧ sl.ownBlock ≠ some k) k ∧ k < w14.heap.size) fun k hk h => ⟨h, hk⟩) hx15 fun k _ h => h.1.2.2) hx16 fun k _ h => h.1.1
        exact rMetadataResponseTopic_mono key2 fun k _ h => ⟨h.1.1, h.1.2.1, fun e => by
          rcases hb15 with e2 | ⟨g, hg, hle⟩
          · exact h.1.2.2 (e2 ▸ e)
          · have e : (Value.slice a15 n15 c15).ownBlock = some k := e
            rw [hg, Option.some.injEq] at e
            have := h.2
            omega⟩
      have hil : i = ls8.length := by have := of_decide_eq_false h9; simp only at this; omega
      ((conv=>whnf);repeat(first|(refine mvT ?_;conv=>whnf)|(refine mvF ?_;conv=>whnf)|(refine cT (by rfl) ?_;conv=>whnf)|(refine cF (by rfl) ?_;conv=>whnf)))
      have hli : ListR true 22 (rMetadataResponseTopic w9 (fun k => k ≠ p ∧ (R0 k ∨ w0.heap.size ≤ k))) w9 (fun k => k ≠ p ∧ (R0 k ∨ w0.heap.size ≤ k)) sl (atT t 4) := by
        refine .inr ⟨hnl, fun _ => ?_, es, hos9.sl fun k hk => ⟨by omega, .inr (by omega)⟩, by omega, fun j c x hj hx => rMetadataResponseTopic_mono (hesr j c x hj hx) fun k _ h => ⟨h.1, h.2.1⟩⟩
        rcases hos9.own.2 with ⟨e, _⟩ | ⟨g, cap, cur, e, _⟩
        · exact absurd e hnn
        · exact ⟨_, _, _, e⟩
      exact ⟨sl, ⟨rfl, rfl, trivial⟩, hx09, hp9, ho.ext hxc9 (by omega), hc1.ext hxc9 (fun k _ h => by have := h.1; omega) (fun _ _ h => rMetadataResponseBroker_ext h hxc9 (fun k _ h => by have := h.1; omega)), hc2.ext hxc9 (fun k _ h => by have := h.1; omega), hli⟩
    · have hnl : (atT t 4).nl = true := by simpa using hnl
      ((conv=>whnf);repeat(first|(refine mvT ?_;conv=>whnf)|(refine mvF ?_;conv=>whnf)|(refine cT (by rfl) ?_;conv=>whnf)|(refine cF (by rfl) ?_;conv=>whnf)))
      exact ⟨_, ⟨rfl, rfl, trivial⟩, hx0.tr0 hxa, hp.e0 hxa, ho.e0 hxa, hc1.ext hxa (fun _ _ _ f => f) (fun _ _ h => rMetadataResponseBroker_ext h hxa (fun _ _ _ f => f)), hc2.ext hxa (fun _ _ _ f => f), .inl ⟨hnl, rfl⟩⟩
  clear hfl
  rintro c4 wc ⟨hx0, hp, ho, hc1, hc2, hc4⟩
  ((conv=>whnf);repeat(first|(refine mvT ?_;conv=>whnf)|(refine mvF ?_;conv=>whnf)|(refine cT (by rfl) ?_;conv=>whnf)|(refine cF (by rfl) ?_;conv=>whnf)))
  refine ⟨_, rfl, ho.cells, ?_⟩
  ((conv=>whnf);repeat(first|(refine mvT ?_;conv=>whnf)|(refine mvF ?_;conv=>whnf)|(refine cT (by rfl) ?_;conv=>whnf)|(refine cF (by rfl) ?_;conv=>whnf)))
  refine Does.mono (iat_does (ht0.ext hx0 fun k _ h => (hR0 k h).2) 5) ?_
  rintro ra wa ⟨hra, hxa⟩
  obtain ⟨sva, lva, uva, lsa, rfl, hna, hsa, hla, helsa, hua⟩ := hra.open
  ((conv=>whnf);repeat(first|(refine mvT ?_;conv=>whnf)|(refine mvF ?_;conv=>whnf)|(refine cT (by rfl) ?_;conv=>whnf)|(refine cF (by rfl) ?_;conv=>whnf)))
  refine st_cell (o := 6) (v := .int .i32 (IntKind.i32.wrap (atT t 5).n)) (hp.e0 hxa) (rfl) (by omega) rfl (by simp) (rfl) ?_
  intro wc hoc hxc
  have hp : Own wc p ty [.int .i16 v, .int .i32 (IntKind.i32.wrap (atT t 0).n), c1, c2, .int .i32 (IntKind.i32.wrap (atT t 3).n), c4, .int .i32 (IntKind.i32.wrap (atT t 5).n), .int .i16 0, .map none] := hoc
  have ho := (ho.e0 hxa).ext hxc (Ne.symm hpb)
  have hx0 := (hx0.tr0 hxa).trans hxc fun _ _ h => h
  have hc1 := (hc1.ext hxa (fun _ _ _ f => f) (fun _ _ h => rMetadataResponseBroker_ext h hxa (fun _ _ _ f => f))).ext hxc (fun k _ h => h.1) (fun _ _ h => rMetadataResponseBroker_ext h hxc (fun k _ h => h.1))
  have hc2 := (hc2.ext hxa fun _ _ _ f => f).ext hxc fun k _ h => h.1
  have hc4 := (hc4.ext hxa (fun _ _ _ f => f) (fun _ _ h => rMetadataResponseTopic_ext h hxa (fun _ _ _ f => f))).ext hxc (fun k _ h => h.1) (fun _ _ h => rMetadataResponseTopic_ext h hxc (fun k _ h => h.1))
  ((conv=>whnf);repeat(first|(refine mvT ?_;conv=>whnf)|(refine mvF ?_;conv=>whnf)|(refine cT (by rfl) ?_;conv=>whnf)|(refine cF (by rfl) ?_;conv=>whnf)))
  refine ⟨_, rfl, ho.cells, ?_⟩
  ((conv=>whnf);repeat(first|(refine mvT ?_;conv=>whnf)|(refine mvF ?_;conv=>whnf)|(refine cT (by rfl) ?_;conv=>whnf)|(refine cF (by rfl) ?_;conv=>whnf)))
  refine Does.mono (iat_does (ht0.ext hx0 fun k _ h => (hR0 k h).2) 6) ?_
  rintro ra wa ⟨hra, hxa⟩
  obtain ⟨sva, lva, uva, lsa, rfl, hna, hsa, hla, helsa, hua⟩ := hra.open
  ((conv=>whnf);repeat(first|(refine mvT ?_;conv=>whnf)|(refine mvF ?_;conv=>whnf)|(refine cT (by rfl) ?_;conv=>whnf)|(refine cF (by rfl) ?_;conv=>whnf)))
  refine st_cell (o := 7) (v := .int .i16 (IntKind.i16.wrap (atT t 6).n)) (hp.e0 hxa) (rfl) (by omega) rfl (by simp) (rfl) ?_
  intro wc hoc hxc
  have hp : Own wc p ty [.int .i16 v, .int .i32 (IntKind.i32.wrap (atT t 0).n), c1, c2, .int .i32 (IntKind.i32.wrap (atT t 3).n), c4, .int .i32 (IntKind.i32.wrap (atT t 5).n), .int .i16 (IntKind.i16.wrap (atT t 6).n), .map none] := hoc
  have ho := (ho.e0 hxa).ext hxc (Ne.symm hpb)
  have hx0 := (hx0.tr0 hxa).trans hxc fun _ _ h => h
  have hc1 := (hc1.ext hxa (fun _ _ _ f => f) (fun _ _ h => rMetadataResponseBroker_ext h hxa (fun _ _ _ f => f))).ext hxc (fun k _ h => h.1) (fun _ _ h => rMetadataResponseBroker_ext h hxc (fun k _ h => h.1))
  have hc2 := (hc2.ext hxa fun _ _ _ f => f).ext hxc fun k _ h => h.1
  have hc4 := (hc4.ext hxa (fun _ _ _ f => f) (fun _ _ h => rMetadataResponseTopic_ext h hxa (fun _ _ _ f => f))).ext hxc (fun k _ h => h.1) (fun _ _ h => rMetadataResponseTopic_ext h hxc (fun k _ h => h.1))
  ((conv=>whnf);repeat(first|(refine mvT ?_;conv=>whnf)|(refine mvF ?_;conv=>whnf)|(refine cT (by rfl) ?_;conv=>whnf)|(refine cF (by rfl) ?_;conv=>whnf)))
  refine ldS (ho.cell rfl) ?_;((conv=>whnf);repeat(first|(refine mvT ?_;conv=>whnf)|(refine mvF ?_;conv=>whnf)|(refine cT (by rfl) ?_;conv=>whnf)|(refine cF (by rfl) ?_;conv=>whnf)))
  have hpN := hp.lt
  have h0N := hx0.size
  refine VL.loop (fun s : Nat × Value => [(0, .pointer (some ⟨p, 0, none⟩)), (3, .pointer (some ⟨b, 0, none⟩)), (109, .slice au us.length cu), (110, .int .i64 us.length), (111, .int .i64 s.1)])
    (fun s w' => (Ext (fun k => k = p) w0 w' ∧ Ext (fun k => k = p ∨ wc.heap.size ≤ k) wc w' ∧ s.1 ≤ us.length) ∧ Own w' p ty [.int .i16 v, .int .i32 (IntKind.i32.wrap (atT t 0).n), c1, c2, .int .i32 (IntKind.i32.wrap (atT t 3).n), c4, .int .i32 (IntKind.i32.wrap (atT t 5).n), .int .i16 (IntKind.i16.wrap (atT t 6).n), s.2] ∧ TagsO w' wc.heap.size R0 s.2 (t.u.take s.1)) (fun s => us.length - s.1) (0, .map none)
    ⟨rfl, rfl, rfl, rfl, rfl, trivial⟩ ⟨⟨hx0, Ext.refl _ _, Nat.zero_le _⟩, hp, TagsO.nil _ _ _⟩ ?_
  rintro ⟨i, m⟩ w9 ⟨⟨hx09, hxc9, hi⟩, hp9, hm9⟩
  dsimp only at hi hp9 hm9
  ((conv=>whnf);repeat(first|(refine mvT ?_;conv=>whnf)|(refine mvF ?_;conv=>whnf)|(refine cT (by rfl) ?_;conv=>whnf)|(refine cF (by rfl) ?_;conv=>whnf)))
  refine cI (by rfl) (fun h9=>?_) (fun h9=>?_)
  · have hil : i < us.length := by have := of_decide_eq_true h9; simp only at this; omega
    have hilu : i < t.u.length := by omega
    obtain ⟨hkey, bv, hci, hbv⟩ := huc i us[i] t.u[i] (by simp [hil]) (by simp [hilu])
    obtain ⟨b10, o10, rfl, hc10⟩ := husC i us[i] (by simp [hil])
    have hb10 := husF b10 o10 rfl (by omega)
    rw [hci] at hc10
    obtain ⟨av, cv, rfl, _⟩ := hbv.view
    have hc10 := hc10.ext hx09 (hR0 _ hb10.1).2
    have hbv9 := hbv.ext hx09 fun k _ h => (hR0 k h).2
    ((conv=>whnf);repeat(first|(refine mvT ?_;conv=>whnf)|(refine mvF ?_;conv=>whnf)|(refine cT (by rfl) ?_;conv=>whnf)|(refine cF (by rfl) ?_;conv=>whnf)))
    refine ⟨b10, o10, rfl, ⟨by omega, by omega⟩, ?_⟩
    ((conv=>whnf);repeat(first|(refine mvT ?_;conv=>whnf)|(refine mvF ?_;conv=>whnf)|(refine cT (by rfl) ?_;conv=>whnf)|(refine cF (by rfl) ?_;conv=>whnf)))
    refine ⟨_, rfl, by rw [Int.toNat_natCast]; exact hc10, ?_⟩
    ((conv=>whnf);repeat(first|(refine mvT ?_;conv=>whnf)|(refine mvF ?_;conv=>whnf)|(refine cT (by rfl) ?_;conv=>whnf)|(refine cF (by rfl) ?_;conv=>whnf)))
    intro b11 w11 hb11 ho11 hx11
    ((conv=>whnf);repeat(first|(refine mvT ?_;conv=>whnf)|(refine mvF ?_;conv=>whnf)|(refine cT (by rfl) ?_;conv=>whnf)|(refine cF (by rfl) ?_;conv=>whnf)))
    refine st_all [.int .u32 (t.u[i].1 : Int), .slice av (t.u[i]).2.length cv] ho11 rfl rfl rfl ?_
    intro w12 ho12 hx12
    have hx912 : Ext nob w9 w12.drew := (hx11.st hx12 hb11).e0 (ext_drew _)
    have ho12 := ho12.e0 (ext_drew _)
    ((conv=>whnf);repeat(first|(refine mvT ?_;conv=>whnf)|(refine mvF ?_;conv=>whnf)|(refine cT (by rfl) ?_;conv=>whnf)|(refine cF (by rfl) ?_;conv=>whnf)))
    refine VD.draw mixed (.q 0 (.q 1 (.q 2 (.q 3 (.q 4 (.q 5 (.q 6 (.eff 7 [] (.done))))))))) (by kernel_rfl) ?_;((conv=>whnf);repeat(first|(refine mvT ?_;conv=>whnf)|(refine mvF ?_;conv=>whnf)|(refine cT (by rfl) ?_;conv=>whnf)|(refine cF (by rfl) ?_;conv=>whnf)))
    refine ldS (ho12.cell rfl) ?_;((conv=>whnf);repeat(first|(refine mvT ?_;conv=>whnf)|(refine mvF ?_;conv=>whnf)|(refine cT (by rfl) ?_;conv=>whnf)|(refine cF (by rfl) ?_;conv=>whnf)))
    refine ldS (ho12.cell rfl) ?_;((conv=>whnf);repeat(first|(refine mvT ?_;conv=>whnf)|(refine mvF ?_;conv=>whnf)|(refine cT (by rfl) ?_;conv=>whnf)|(refine cF (by rfl) ?_;conv=>whnf)))
    have hnew : ∀ x, x ∈ t.u.take i → x.1 ≠ (t.u[i]).1 := by
      intro x hx
      obtain ⟨j, hj, rfl⟩ := List.mem_take_iff_getElem.1 hx
      have := List.pairwise_iff_getElem.1 hok.2.rise j i (by omega) hilu (by omega)
      omega
    refine Does.mono (Tags_Set_does (o := 8) (N := wc.heap.size) (hp9.e0 hx912) rfl (hm9.e0 hx912) (Nat.le_trans hxc9.size hx912.size) hpN (fun k h => ⟨by have := (hR0 k h).1; omega, (hR0 k h).2⟩) (hbv9.e0 hx912) hnew) ?_
    rintro r13 w13 ⟨m13, hone, hp13, hm13, hx13⟩
    ((conv=>whnf);repeat(first|(refine mvT ?_;conv=>whnf)|(refine mvF ?_;conv=>whnf)|(refine cT (by rfl) ?_;conv=>whnf)|(refine cF (by rfl) ?_;conv=>whnf)))
    have hx913 : Ext (fun k => k = p ∨ wc.heap.size ≤ k) w9 w13 := (hx912.mono fun _ _ f => f.elim).trans hx13 fun _ _ h => h
    refine ⟨(i + 1, m13), ⟨rfl, rfl, rfl, rfl, inc_eq (by rw [maxLen_eq] at husm; omega), trivial⟩, ⟨⟨hx09.trans hx913 fun k hk h => by omega, hxc9.trans hx913 fun _ _ h => h, by simp only; omega⟩, hp13, ?_⟩, by simp only; omega⟩
    rw [List.take_succ_eq_append_getElem hilu]
    exact hm13
  have hil : i = us.length := by have := of_decide_eq_false h9; simp only at this; omega
  ((conv=>whnf);repeat(first|(refine mvT ?_;conv=>whnf)|(refine mvF ?_;conv=>whnf)|(refine cT (by rfl) ?_;conv=>whnf)|(refine cF (by rfl) ?_;conv=>whnf)))
  rw [hil, husl, List.take_length] at hm9
  exact ⟨hx09, c1, c2, c4, m, hp9, (hc1.ext hxc9 (fun k _ h => by have := h.1; omega) (fun _ _ h => rMetadataResponseBroker_ext h hxc9 (fun k _ h => by have := h.1; omega))).mono (fun k _ h => h.1) (fun _ _ h => rMetadataResponseBroker_mono h fun k _ h => h.1), (hc2.ext hxc9 (fun k _ h => by have := h.1; omega)).mono (fun k _ h => h.1), (hc4.ext hxc9 (fun k _ h => by have := h.1; omega) (fun _ _ h => rMetadataResponseTopic_ext h hxc9 (fun k _ h => by have := h.1; omega))).mono (fun k _ h => h.1) (fun _ _ h => rMetadataResponseTopic_mono h fun k _ h => h.1), hm9.tags.mono fun k hk h => by rcases h with h | h; exact (hR0 k h).2; omega⟩
def bMetadataResponseBroker (v : Int) (fx : Bool) (t : T) : List UInt8 := ((fixed (atT t 0).n 4) ++ ((txA fx (atT t 1).s) ++ ((fixed (atT t 2).n 4) ++ (((if (decide (1 ≤ v) && (decide ((-1 : Int) < 0) || decide (v ≤ (-1)))) = true then ntA fx (atT t 3).nl (atT t 3).s else [])) ++ ([]))))) ++ tgsB fx t.u
theorem bMetadataResponseBroker_eq {v : Int} {fx : Bool} {t : T} (hv : 0 ≤ v) (hok : partOK 8 v dMetadataResponseBroker t) : partA 8 v fx dMetadataResponseBroker t = bMetadataResponseBroker v fx t := by
  unfold partA partAW bMetadataResponseBroker
  have hf := hok.1 0 _ rfl
  rw [plainW_all hv]
  have hf := hok.1 1 _ rfl
  rw [plainW_all hv]
  rw [tx_eq hf]
  have hf := hok.1 2 _ rfl
  rw [plainW_all hv]
  have hf := hok.1 3 _ rfl
  rw [plainW_ver]
  rw [ifT (c := (decide (1 ≤ v) && (decide ((-1 : Int) < 0) || decide (v ≤ (-1))))) fun hh => nt_eq hf (by decide) (.inl hh)]
  rfl
def bMetadataResponseTopicPartition (v : Int) (fx : Bool) (t : T) : List UInt8 := ((fixed (atT t 0).n 2) ++ ((fixed (atT t 1).n 4) ++ ((fixed (atT t 2).n 4) ++ (((if (decide (7 ≤ v) && (decide ((-1 : Int) < 0) || decide (v ≤ (-1)))) = true then fixed (atT t 3).n 4 else [])) ++ ((arA fx (lsT (atT t 4)).length ++ (lsT (atT t 4)).flatMap (fun x => fixed x.n 4)) ++ ((arA fx (lsT (atT t 5)).length ++ (lsT (atT t 5)).flatMap (fun x => fixed x.n 4)) ++ (((if (decide (5 ≤ v) && (decide ((-1 : Int) < 0) || decide (v ≤ (-1)))) = true then arA fx (lsT (atT t 6)).length ++ (lsT (atT t 6)).flatMap (fun x => fixed x.n 4) else [])) ++ ([])))))))) ++ tgsB fx t.u
theorem bMetadataResponseTopicPartition_eq {v : Int} {fx : Bool} {t : T} (hv : 0 ≤ v) (hok : partOK 7 v dMetadataResponseTopicPartition t) : partA 7 v fx dMetadataResponseTopicPartition t = bMetadataResponseTopicPartition v fx t := by
  unfold partA partAW bMetadataResponseTopicPartition
  have hf := hok.1 0 _ rfl
  rw [plainW_all hv]
  have hf := hok.1 1 _ rfl
  rw [plainW_all hv]
  have hf := hok.1 2 _ rfl
  rw [plainW_all hv]
  have hf := hok.1 3 _ rfl
  rw [plainW_ver]
  have hf := hok.1 4 _ rfl
  rw [plainW_all hv]
  rw [ar_eq (g := (fun x => fixed x.n 4)) hf fun y hy => rfl]
  have hf := hok.1 5 _ rfl
  rw [plainW_all hv]
  rw [ar_eq (g := (fun x => fixed x.n 4)) hf fun y hy => rfl]
  have hf := hok.1 6 _ rfl
  rw [plainW_ver]
  rw [ar_eq (g := (fun x => fixed x.n 4)) hf fun y hy => rfl]
  rfl
def bMetadataResponseTopic (v : Int) (fx : Bool) (t : T) : List UInt8 := ((fixed (atT t 0).n 2) ++ ((ntA fx (atT t 1).nl (atT t 1).s) ++ (((if (decide (10 ≤ v) && (decide ((-1 : Int) < 0) || decide (v ≤ (-1)))) = true then uuidB (atT t 2).s else [])) ++ (((if (decide (1 ≤ v) && (decide ((-1 : Int) < 0) || decide (v ≤ (-1)))) = true then boA (atT t 3).n else [])) ++ ((arA fx (lsT (atT t 4)).length ++ (lsT (atT t 4)).flatMap (bMetadataResponseTopicPartition v fx)) ++ (((if (decide (8 ≤ v) && (decide ((-1 : Int) < 0) || decide (v ≤ (-1)))) = true then fixed (atT t 5).n 4 else [])) ++ ([]))))))) ++ tgsB fx t.u
theorem bMetadataResponseTopic_eq {v : Int} {fx : Bool} {t : T} (hv : 0 ≤ v) (hok : partOK 8 v dMetadataResponseTopic t) : partA 8 v fx dMetadataResponseTopic t = bMetadataResponseTopic v fx t := by
  unfold partA partAW bMetadataResponseTopic
  have hf := hok.1 0 _ rfl
  rw [plainW_all hv]
  have hf := hok.1 1 _ rfl
  rw [plainW_all hv]
  rw [nt_eq hf (by decide) (.inl (has_alw hv))]
  have hf := hok.1 2 _ rfl
  rw [plainW_ver]
  have hf := hok.1 3 _ rfl
  rw [plainW_ver]
  have hf := hok.1 4 _ rfl
  rw [plainW_all hv]
  rw [ar_eq (g := (bMetadataResponseTopicPartition v fx)) hf fun y hy => bMetadataResponseTopicPartition_eq hv ((lsT_ok hf y hy).2.2 rfl)]
  have hf := hok.1 5 _ rfl
  rw [plainW_ver]
  rfl
def bMetadataResponse (v : Int) (fx : Bool) (t : T) : List UInt8 := (((if (decide (3 ≤ v) && (decide ((-1 : Int) < 0) || decide (v ≤ (-1)))) = true then fixed (atT t 0).n 4 else [])) ++ ((arA fx (lsT (atT t 1)).length ++ (lsT (atT t 1)).flatMap (bMetadataResponseBroker v fx)) ++ (((if (decide (2 ≤ v) && (decide ((-1 : Int) < 0) || decide (v ≤ (-1)))) = true then ntA fx (atT t 2).nl (atT t 2).s else [])) ++ (((if (decide (1 ≤ v) && (decide ((-1 : Int) < 0) || decide (v ≤ (-1)))) = true then fixed (atT t 3).n 4 else [])) ++ ((arA fx (lsT (atT t 4)).length ++ (lsT (atT t 4)).flatMap (bMetadataResponseTopic v fx)) ++ (((if (decide (8 ≤ v) && (decide ((10 : Int) < 0) || decide (v ≤ 10))) = true then fixed (atT t 5).n 4 else [])) ++ (((if (decide (13 ≤ v) && (decide ((-1 : Int) < 0) || decide (v ≤ (-1)))) = true then fixed (atT t 6).n 2 else [])) ++ ([])))))))) ++ tgsB fx t.u
theorem bMetadataResponse_eq {v : Int} {fx : Bool} {t : T} (hv : 0 ≤ v) (hok : partOK 9 v dMetadataResponse t) : partA 9 v fx dMetadataResponse t = bMetadataResponse v fx t := by
  unfold partA partAW bMetadataResponse
  have hf := hok.1 0 _ rfl
  rw [plainW_ver]
  have hf := hok.1 1 _ rfl
  rw [plainW_all hv]
  rw [ar_eq (g := (bMetadataResponseBroker v fx)) hf fun y hy => bMetadataResponseBroker_eq hv ((lsT_ok hf y hy).2.2 rfl)]
  have hf := hok.1 2 _ rfl
  rw [plainW_ver]
  rw [ifT (c := (decide (2 ≤ v) && (decide ((-1 : Int) < 0) || decide (v ≤ (-1))))) fun hh => nt_eq hf (by decide) (.inl hh)]
  have hf := hok.1 3 _ rfl
  rw [plainW_ver]
  have hf := hok.1 4 _ rfl
  rw [plainW_all hv]
  rw [ar_eq (g := (bMetadataResponseTopic v fx)) hf fun y hy => bMetadataResponseTopic_eq hv ((lsT_ok hf y hy).2.2 rfl)]
  have hf := hok.1 5 _ rfl
  rw [plainW_ver]
  have hf := hok.1 6 _ rfl
  rw [plainW_ver]
  rfl
theorem appMetadataResponse {F : Nat → Prop} {w0 : World} {p B : Nat} {ty : TypeId} {v : Int} {x c1 c2 c4 m : Value} {l : List UInt8} {t : T} (hp : Own w0 p ty [.int .i16 v, .int .i32 (IntKind.i32.wrap (atT t 0).n), c1, c2, .int .i32 (IntKind.i32.wrap (atT t 3).n), c4, .int .i32 (IntKind.i32.wrap (atT t 5).n), .int .i16 (IntKind.i16.wrap (atT t 6).n), m]) (hc1 : ListR true 5 (rMetadataResponseBroker w0 F) w0 F c1 (atT t 1)) (hc2 : NTextR w0 F c2 (atT t 2)) (hc4 : ListR true 22 (rMetadataResponseTopic w0 F) w0 F c4 (atT t 4)) (hm : TagsR w0 F m t.u) (hok : partOK 9 v dMetadataResponse t)
    (hF : ∀ j, j < w0.heap.size → F j → x.ownBlock ≠ some j) (hxp : x.ownBlock ≠ some p) (hx : OB w0 B x l) (hB : B ≤ w0.heap.size) (hv : 0 ≤ v) (hl : l.length + (bMetadataResponse v (decide (v ≥ 9)) t).length ≤ 100000000000000) :
    Does X.P 20 #[.pointer (some ⟨p, 0, none⟩), x] w0 fun r w' => Apd w0 B x l (bMetadataResponse v (decide (v ≥ 9)) t) r w' := by
  have hpl := hp.lt
  obtain ⟨fx, hfx⟩ : ∃ fx, fx = decide (v ≥ 9) := ⟨_, rfl⟩
  rw [← hfx] at hl ⊢
  unfold bMetadataResponse at hl
  simp only [List.length_append, List.length_nil] at hl
  obtain ⟨F0, hFR, hFx, hcs⟩ : ∃ F0 : Nat → Prop, (∀ j, F0 j → j < w0.heap.size ∧ x.ownBlock ≠ some j) ∧ (∀ j, j < w0.heap.size → F0 j → ¬ x.ownBlock = some j) ∧ (ListR true 5 (rMetadataResponseBroker w0 F0) w0 F0 c1 (atT t 1) ∧ NTextR w0 F0 c2 (atT t 2) ∧ ListR true 22 (rMetadataResponseTopic w0 F0) w0 F0 c4 (atT t 4) ∧ TagsR w0 F0 m t.u) :=
    ⟨fun j => F j ∧ j < w0.heap.size, fun j h => ⟨h.2, hF j h.2 h.1⟩, fun j _ h => hF j h.2 h.1, hc1.mono (fun k h1 h2 => ⟨h2, h1⟩) (fun _ _ h => rMetadataResponseBroker_mono h fun k h1 h2 => ⟨h2, h1⟩), hc2.mono (fun k h1 h2 => ⟨h2, h1⟩), hc4.mono (fun k h1 h2 => ⟨h2, h1⟩) (fun _ _ h => rMetadataResponseTopic_mono h fun k h1 h2 => ⟨h2, h1⟩), hm.mono fun k h1 h2 => ⟨h2, h1⟩⟩
  clear hm hc1 hc2 hc4 hF
  obtain ⟨hc1, hc2, hc4, hm⟩ := hcs
  obtain ⟨a1, k1, l1, rfl, hkm1, hll1, hnn1, hcl1, hrl1⟩ := hc1.view
  obtain ⟨a4, k4, l4, rfl, hkm4, hll4, hnn4, hcl4, hrl4⟩ := hc4.view
  have hA := Apd.start hx
  obtain ⟨m0, hm0⟩ : ∃ m0 : List UInt8, m0 = [] := ⟨_, rfl⟩
  rw [← hm0] at hA
  have hl0 : m0.length = 0 := by rw [hm0]; rfl
  refine Does.go (X := X) (l := [_, _]) Tryz.func20 rfl (by kernel_rfl) (by kernel_rfl) _ rfl ?_
  ((conv=>whnf);repeat(first|(refine mvT ?_;conv=>whnf)|(refine mvF ?_;conv=>whnf)|(refine cT (by rfl) ?_;conv=>whnf)|(refine cF (by rfl) ?_;conv=>whnf)))
  refine ldS (hp.cell rfl) ?_;((conv=>whnf);repeat(first|(refine mvT ?_;conv=>whnf)|(refine mvF ?_;conv=>whnf)|(refine cT (by rfl) ?_;conv=>whnf)|(refine cF (by rfl) ?_;conv=>whnf)))
  rw [← hfx]
  (refine mvB ?_;((conv=>whnf);repeat(first|(refine mvT ?_;conv=>whnf)|(refine mvF ?_;conv=>whnf)|(refine cT (by rfl) ?_;conv=>whnf)|(refine cF (by rfl) ?_;conv=>whnf))))
  refine VC.cutE (fun r => [(1, r), (0, .pointer (some ⟨p, 0, none⟩)), (5, .int .i16 v), (6, .bool fx)]) (fun r w' => Apd w0 B x l (m0 ++ ((if (decide (3 ≤ v) && (decide ((-1 : Int) < 0) || decide (v ≤ (-1)))) = true then fixed (atT t 0).n 4 else []))) r w') ?_ ?_
  · refine cI (by rfl) (fun hcv=>?_) (fun hcv=>?_)
    · ((conv=>whnf);repeat(first|(refine mvT ?_;conv=>whnf)|(refine mvF ?_;conv=>whnf)|(refine cT (by rfl) ?_;conv=>whnf)|(refine cF (by rfl) ?_;conv=>whnf)))
      refine ldS ((hp.ext hA.ext hxp).cell rfl) ?_;((conv=>whnf);repeat(first|(refine mvT ?_;conv=>whnf)|(refine mvF ?_;conv=>whnf)|(refine cT (by rfl) ?_;conv=>whnf)|(refine cF (by rfl) ?_;conv=>whnf)))
      refine Does.mono (AppendInt32_does hA.ob (Nat.le_trans hB hA.size) (by simp only [List.length_append]; omega) _) ?_;rintro r w h;((conv=>whnf);repeat(first|(refine mvT ?_;conv=>whnf)|(refine mvF ?_;conv=>whnf)|(refine cT (by rfl) ?_;conv=>whnf)|(refine cF (by rfl) ?_;conv=>whnf)))
      rw [fixed4_mod (wrap_i32m _)] at h
      replace hA := hA.tr h
      clear h
      generalize hm1 : m0 ++ (fixed (atT t 0).n 4) = m1 at hA
      have hl1 : m1.length = m0.length + (fixed (atT t 0).n 4).length := by rw [← hm1, List.length_append]
      refine ⟨_, ⟨rfl, rfl, rfl, rfl, trivial⟩, ?_⟩
      rw [if_pos (by simp only [ge_iff_le, decide_eq_true_eq] at hcv; simp; omega)]
      rw [hm1]
      exact hA
    · ((conv=>whnf);repeat(first|(refine mvT ?_;conv=>whnf)|(refine mvF ?_;conv=>whnf)|(refine cT (by rfl) ?_;conv=>whnf)|(refine cF (by rfl) ?_;conv=>whnf)))
      refine ⟨_, ⟨rfl, rfl, rfl, rfl, trivial⟩, ?_⟩
      rw [if_neg (by simp only [ge_iff_le, decide_eq_false_iff_not] at hcv; simp; omega), List.append_nil]
      exact hA
  clear hA
  rintro r w hA
  ((conv=>whnf);repeat(first|(refine mvT ?_;conv=>whnf)|(refine mvF ?_;conv=>whnf)|(refine cT (by rfl) ?_;conv=>whnf)|(refine cF (by rfl) ?_;conv=>whnf)))
  generalize hm1 : m0 ++ ((if (decide (3 ≤ v) && (decide ((-1 : Int) < 0) || decide (v ≤ (-1)))) = true then fixed (atT t 0).n 4 else [])) = m1 at hA
  have hl1 : m1.length = m0.length + ((if (decide (3 ≤ v) && (decide ((-1 : Int) < 0) || decide (v ≤ (-1)))) = true then fixed (atT t 0).n 4 else [])).length := by rw [← hm1, List.length_append]
  refine ldS ((hp.ext hA.ext hxp).cell rfl) ?_;((conv=>whnf);repeat(first|(refine mvT ?_;conv=>whnf)|(refine mvF ?_;conv=>whnf)|(refine cT (by rfl) ?_;conv=>whnf)|(refine cF (by rfl) ?_;conv=>whnf)))
  have hml1 := lsT_len (hok.1 1 _ rfl)
  (refine mvB ?_;((conv=>whnf);repeat(first|(refine mvT ?_;conv=>whnf)|(refine mvF ?_;conv=>whnf)|(refine cT (by rfl) ?_;conv=>whnf)|(refine cF (by rfl) ?_;conv=>whnf))))
  refine VC.cutE (fun r => [(1, r), (0, .pointer (some ⟨p, 0, none⟩)), (5, .int .i16 v), (6, .bool fx), (8, .slice a1 l1.length k1)]) (fun r w' => Apd w0 B x l (m1 ++ (arA fx (lsT (atT t 1)).length)) r w') ?_ ?_
  · refine cI (by rfl) (fun hc=>?_) (fun hc=>?_)
    · ((conv=>whnf);repeat(first|(refine mvT ?_;conv=>whnf)|(refine mvF ?_;conv=>whnf)|(refine cT (by rfl) ?_;conv=>whnf)|(refine cF (by rfl) ?_;conv=>whnf)))
      refine Does.mono (AppendCompactArrayLen_does hA.ob (Nat.le_trans hB hA.size) (by simp only [List.length_append]; omega) l1.length (by omega)) ?_;rintro r w h;((conv=>whnf);repeat(first|(refine mvT ?_;conv=>whnf)|(refine mvF ?_;conv=>whnf)|(refine cT (by rfl) ?_;conv=>whnf)|(refine cF (by rfl) ?_;conv=>whnf)))
      rw [hll1] at h
      replace hA := hA.tr h
      clear h
      refine ⟨_, ⟨rfl, rfl, rfl, rfl, rfl, trivial⟩, ?_⟩
      rw [hc]
      exact hA
    · ((conv=>whnf);repeat(first|(refine mvT ?_;conv=>whnf)|(refine mvF ?_;conv=>whnf)|(refine cT (by rfl) ?_;conv=>whnf)|(refine cF (by rfl) ?_;conv=>whnf)))
      refine Does.mono (AppendArrayLen_does hA.ob (Nat.le_trans hB hA.size) (by simp only [List.length_append]; omega) l1.length) ?_;rintro r w h;((conv=>whnf);repeat(first|(refine mvT ?_;conv=>whnf)|(refine mvF ?_;conv=>whnf)|(refine cT (by rfl) ?_;conv=>whnf)|(refine cF (by rfl) ?_;conv=>whnf)))
      rw [hll1] at h
      replace hA := hA.tr h
      clear h
      refine ⟨_, ⟨rfl, rfl, rfl, rfl, rfl, trivial⟩, ?_⟩
      rw [hc]
      exact hA
  clear hA
  rintro r w hA
  ((conv=>whnf);repeat(first|(refine mvT ?_;conv=>whnf)|(refine mvF ?_;conv=>whnf)|(refine cT (by rfl) ?_;conv=>whnf)|(refine cF (by rfl) ?_;conv=>whnf)))
  generalize hm2 : m1 ++ (arA fx (lsT (atT t 1)).length) = m2 at hA
  have hl2 : m2.length = m1.length + (arA fx (lsT (atT t 1)).length).length := by rw [← hm2, List.length_append]
  refine VL.loop (fun s : Nat × Value => [(1, s.2), (0, .pointer (some ⟨p, 0, none⟩)), (5, .int .i16 v), (6, .bool fx), (8, .slice a1 l1.length k1), (75, .slice a1 l1.length k1), (76, .int .i64 l1.length), (77, .int .i64 s.1)])
    (fun s w' => s.1 ≤ l1.length ∧ Apd w0 B x l (m2 ++ ((lsT (atT t 1)).take s.1).flatMap (bMetadataResponseBroker v fx)) s.2 w') (fun s => l1.length - s.1) (0, r) ⟨rfl, rfl, rfl, rfl, rfl, rfl, rfl, rfl, trivial⟩ ⟨Nat.zero_le _, by rw [List.take_zero, List.flatMap_nil, List.append_nil]; exact hA⟩ ?_
  clear hA
  rintro ⟨i1, r⟩ w ⟨hi1, hA⟩
  dsimp only at hi1 hA
  ((conv=>whnf);repeat(first|(refine mvT ?_;conv=>whnf)|(refine mvF ?_;conv=>whnf)|(refine cT (by rfl) ?_;conv=>whnf)|(refine cF (by rfl) ?_;conv=>whnf)))
  refine cI (by rfl) (fun h9=>?_) (fun h9=>?_)
  · have hil : i1 < l1.length := by have := of_decide_eq_true h9; simp only at this; omega
    have hiL1 : i1 < (lsT (atT t 1)).length := by omega
    obtain ⟨hft, hfl⟩ := flat_take (bMetadataResponseBroker v fx) (lsT (atT t 1)) i1 hiL1
    obtain ⟨b1, o1, rfl, hF1, hb1, hce1⟩ := hcl1 i1 l1[i1] (by simp [hil])
    have hre1 := hrl1 i1 l1[i1] ((lsT (atT t 1))[i1]) (by simp [hil]) (by simp [hiL1])
    have hlo1 := lsT_ok (hok.1 1 _ rfl) ((lsT (atT t 1))[i1]) (List.getElem_mem hiL1)
    generalize hm3 : m2 ++ ((lsT (atT t 1)).take i1).flatMap (bMetadataResponseBroker v fx) = m3 at hA
    have hl3 : m3.length = m2.length + (((lsT (atT t 1)).take i1).flatMap (bMetadataResponseBroker v fx)).length := by rw [← hm3, List.length_append]
    obtain ⟨x1, hx1⟩ : ∃ y, y = (lsT (atT t 1))[i1] := ⟨_, rfl⟩
    rw [← hx1] at hft hfl hre1 hlo1
    obtain ⟨c1_3, m1_, hcells, hc1_3, hm1_⟩ := hre1
    rw [hcells] at hce1
    have hok1_ := hlo1.2.2 rfl
    have hgl : (bMetadataResponseBroker v fx x1).length = (bMetadataResponseBroker v fx x1).length := rfl
    conv at hgl => rhs; unfold bMetadataResponseBroker
    simp only [List.length_append, List.length_nil] at hgl
    ((conv=>whnf);repeat(first|(refine mvT ?_;conv=>whnf)|(refine mvF ?_;conv=>whnf)|(refine cT (by rfl) ?_;conv=>whnf)|(refine cF (by rfl) ?_;conv=>whnf)))
    refine ⟨b1, o1, rfl, ⟨by omega, by omega⟩, ?_⟩
    ((conv=>whnf);repeat(first|(refine mvT ?_;conv=>whnf)|(refine mvF ?_;conv=>whnf)|(refine cT (by rfl) ?_;conv=>whnf)|(refine cF (by rfl) ?_;conv=>whnf)))
    refine ⟨_, ld ((hce1.ext hA.ext (hFx _ hb1 hF1)).cell (j := 0) rfl) (by simp <;> omega), ?_⟩; ((conv=>whnf);repeat(first|(refine mvT ?_;conv=>whnf)|(refine mvF ?_;conv=>whnf)|(refine cT (by rfl) ?_;conv=>whnf)|(refine cF (by rfl) ?_;conv=>whnf)))
    refine Does.mono (AppendInt32_does hA.ob (Nat.le_trans hB hA.size) (by simp only [List.length_append]; omega) _) ?_;rintro r w h;((conv=>whnf);repeat(first|(refine mvT ?_;conv=>whnf)|(refine mvF ?_;conv=>whnf)|(refine cT (by rfl) ?_;conv=>whnf)|(refine cF (by rfl) ?_;conv=>whnf)))
    rw [fixed4_mod (wrap_i32m _)] at h
    replace hA := hA.tr h
    clear h
    generalize hm4 : m3 ++ (fixed (atT x1 0).n 4) = m4 at hA
    have hl4 : m4.length = m3.length + (fixed (atT x1 0).n 4).length := by rw [← hm4, List.length_append]
    refine ⟨_, ld ((hce1.ext hA.ext (hFx _ hb1 hF1)).cell (j := 1) rfl) (by simp <;> omega), ?_⟩; ((conv=>whnf);repeat(first|(refine mvT ?_;conv=>whnf)|(refine mvF ?_;conv=>whnf)|(refine cT (by rfl) ?_;conv=>whnf)|(refine cF (by rfl) ?_;conv=>whnf)))
    have hsl := fieldOK_text (hok1_.1 1 _ rfl)
    (refine mvB ?_;((conv=>whnf);repeat(first|(refine mvT ?_;conv=>whnf)|(refine mvF ?_;conv=>whnf)|(refine cT (by rfl) ?_;conv=>whnf)|(refine cF (by rfl) ?_;conv=>whnf))))
    refine VC.cutE (fun r => [(1, r), (0, .pointer (some ⟨p, 0, none⟩)), (5, .int .i16 v), (6, .bool fx), (8, .slice (some ⟨b1, o1, none⟩) l1.length k1), (75, .slice (some ⟨b1, o1, none⟩) l1.length k1), (76, .int .i64 l1.length), (77, .int .i64 i1), (10, .pointer (some ⟨b1, o1 + i1 * 5, none⟩))]) (fun r w' => Apd w0 B x l (m4 ++ (txA fx (atT x1 1).s)) r w') ?_ ?_
    · refine cI (by rfl) (fun hc=>?_) (fun hc=>?_)
      · ((conv=>whnf);repeat(first|(refine mvT ?_;conv=>whnf)|(refine mvF ?_;conv=>whnf)|(refine cT (by rfl) ?_;conv=>whnf)|(refine cF (by rfl) ?_;conv=>whnf)))
        refine Does.mono (AppendCompactString_does hA.ob (Nat.le_trans hB hA.size) _ (by omega) (by simp only [List.length_append]; omega)) ?_;rintro r w h;((conv=>whnf);repeat(first|(refine mvT ?_;conv=>whnf)|(refine mvF ?_;conv=>whnf)|(refine cT (by rfl) ?_;conv=>whnf)|(refine cF (by rfl) ?_;conv=>whnf)))
        replace hA := hA.tr h
        clear h
        refine ⟨_, ⟨rfl, rfl, rfl, rfl, rfl, rfl, rfl, rfl, rfl, trivial⟩, ?_⟩
        rw [hc]
        exact hA
      · ((conv=>whnf);repeat(first|(refine mvT ?_;conv=>whnf)|(refine mvF ?_;conv=>whnf)|(refine cT (by rfl) ?_;conv=>whnf)|(refine cF (by rfl) ?_;conv=>whnf)))
        refine Does.mono (AppendString_does hA.ob (Nat.le_trans hB hA.size) _ (by simp only [List.length_append]; omega)) ?_;rintro r w h;((conv=>whnf);repeat(first|(refine mvT ?_;conv=>whnf)|(refine mvF ?_;conv=>whnf)|(refine cT (by rfl) ?_;conv=>whnf)|(refine cF (by rfl) ?_;conv=>whnf)))
        replace hA := hA.tr h
        clear h
        refine ⟨_, ⟨rfl, rfl, rfl, rfl, rfl, rfl, rfl, rfl, rfl, trivial⟩, ?_⟩
        rw [hc]
        exact hA
    clear hA
    rintro r w hA
    ((conv=>whnf);repeat(first|(refine mvT ?_;conv=>whnf)|(refine mvF ?_;conv=>whnf)|(refine cT (by rfl) ?_;conv=>whnf)|(refine cF (by rfl) ?_;conv=>whnf)))
    generalize hm5 : m4 ++ (txA fx (atT x1 1).s) = m5 at hA
    have hl5 : m5.length = m4.length + (txA fx (atT x1 1).s).length := by rw [← hm5, List.length_append]
    refine ⟨_, ld ((hce1.ext hA.ext (hFx _ hb1 hF1)).cell (j := 2) rfl) (by simp <;> omega), ?_⟩; ((conv=>whnf);repeat(first|(refine mvT ?_;conv=>whnf)|(refine mvF ?_;conv=>whnf)|(refine cT (by rfl) ?_;conv=>whnf)|(refine cF (by rfl) ?_;conv=>whnf)))
    refine Does.mono (AppendInt32_does hA.ob (Nat.le_trans hB hA.size) (by simp only [List.length_append]; omega) _) ?_;rintro r w h;((conv=>whnf);repeat(first|(refine mvT ?_;conv=>whnf)|(refine mvF ?_;conv=>whnf)|(refine cT (by rfl) ?_;conv=>whnf)|(refine cF (by rfl) ?_;conv=>whnf)))
    rw [fixed4_mod (wrap_i32m _)] at h
    replace hA := hA.tr h
    clear h
    generalize hm6 : m5 ++ (fixed (atT x1 2).n 4) = m6 at hA
    have hl6 : m6.length = m5.length + (fixed (atT x1 2).n 4).length := by rw [← hm6, List.length_append]
    refine VC.cutE (fun r => [(1, r), (0, .pointer (some ⟨p, 0, none⟩)), (5, .int .i16 v), (6, .bool fx), (8, .slice (some ⟨b1, o1, none⟩) l1.length k1), (75, .slice (some ⟨b1, o1, none⟩) l1.length k1), (76, .int .i64 l1.length), (77, .int .i64 i1), (10, .pointer (some ⟨b1, o1 + i1 * 5, none⟩))]) (fun r w' => Apd w0 B x l (m6 ++ ((if (decide (1 ≤ v) && (decide ((-1 : Int) < 0) || decide (v ≤ (-1)))) = true then ntA fx (atT x1 3).nl (atT x1 3).s else []))) r w') ?_ ?_
    · refine cI (by rfl) (fun hcv=>?_) (fun hcv=>?_)
      · ((conv=>whnf);repeat(first|(refine mvT ?_;conv=>whnf)|(refine mvF ?_;conv=>whnf)|(refine cT (by rfl) ?_;conv=>whnf)|(refine cF (by rfl) ?_;conv=>whnf)))
        refine ⟨_, ld ((hce1.ext hA.ext (hFx _ hb1 hF1)).cell (j := 3) rfl) (by simp <;> omega), ?_⟩; ((conv=>whnf);repeat(first|(refine mvT ?_;conv=>whnf)|(refine mvF ?_;conv=>whnf)|(refine cT (by rfl) ?_;conv=>whnf)|(refine cF (by rfl) ?_;conv=>whnf)))
        have hsl := fieldOK_text (hok1_.1 3 _ rfl)
        (refine mvB ?_;((conv=>whnf);repeat(first|(refine mvT ?_;conv=>whnf)|(refine mvF ?_;conv=>whnf)|(refine cT (by rfl) ?_;conv=>whnf)|(refine cF (by rfl) ?_;conv=>whnf))))
        refine cI (by rfl) (fun hc=>?_) (fun hc=>?_)
        · ((conv=>whnf);repeat(first|(refine mvT ?_;conv=>whnf)|(refine mvF ?_;conv=>whnf)|(refine cT (by rfl) ?_;conv=>whnf)|(refine cF (by rfl) ?_;conv=>whnf)))
          refine Does.mono (AppendCompactNullableString_R hA.ob (Nat.le_trans hB hA.size) (hc1_3.ext hA.ext hFx) hsl (by simp only [List.length_append]; omega)) ?_;rintro r w h;((conv=>whnf);repeat(first|(refine mvT ?_;conv=>whnf)|(refine mvF ?_;conv=>whnf)|(refine cT (by rfl) ?_;conv=>whnf)|(refine cF (by rfl) ?_;conv=>whnf)))
          replace hA := hA.tr h
          clear h
          refine ⟨_, ⟨rfl, rfl, rfl, rfl, rfl, rfl, rfl, rfl, rfl, trivial⟩, ?_⟩
          rw [if_pos (by simp only [ge_iff_le, decide_eq_true_eq] at hcv; simp; omega), hc]
          exact hA
        · ((conv=>whnf);repeat(first|(refine mvT ?_;conv=>whnf)|(refine mvF ?_;conv=>whnf)|(refine cT (by rfl) ?_;conv=>whnf)|(refine cF (by rfl) ?_;conv=>whnf)))
          refine Does.mono (AppendNullableString_R hA.ob (Nat.le_trans hB hA.size) (hc1_3.ext hA.ext hFx) (by simp only [List.length_append]; omega)) ?_;rintro r w h;((conv=>whnf);repeat(first|(refine mvT ?_;conv=>whnf)|(refine mvF ?_;conv=>whnf)|(refine cT (by rfl) ?_;conv=>whnf)|(refine cF (by rfl) ?_;conv=>whnf)))
          replace hA := hA.tr h
          clear h
          refine ⟨_, ⟨rfl, rfl, rfl, rfl, rfl, rfl, rfl, rfl, rfl, trivial⟩, ?_⟩
          rw [if_pos (by simp only [ge_iff_le, decide_eq_true_eq] at hcv; simp; omega), hc]
          exact hA
      · ((conv=>whnf);repeat(first|(refine mvT ?_;conv=>whnf)|(refine mvF ?_;conv=>whnf)|(refine cT (by rfl) ?_;conv=>whnf)|(refine cF (by rfl) ?_;conv=>whnf)))
        refine ⟨_, ⟨rfl, rfl, rfl, rfl, rfl, rfl, rfl, rfl, rfl, trivial⟩, ?_⟩
        rw [if_neg (by simp only [ge_iff_le, decide_eq_false_iff_not] at hcv; simp; omega), List.append_nil]
        exact hA
    clear hA
    rintro r w hA
    ((conv=>whnf);repeat(first|(refine mvT ?_;conv=>whnf)|(refine mvF ?_;conv=>whnf)|(refine cT (by rfl) ?_;conv=>whnf)|(refine cF (by rfl) ?_;conv=>whnf)))
    generalize hm7 : m6 ++ ((if (decide (1 ≤ v) && (decide ((-1 : Int) < 0) || decide (v ≤ (-1)))) = true then ntA fx (atT x1 3).nl (atT x1 3).s else [])) = m7 at hA
    have hl7 : m7.length = m6.length + ((if (decide (1 ≤ v) && (decide ((-1 : Int) < 0) || decide (v ≤ (-1)))) = true then ntA fx (atT x1 3).nl (atT x1 3).s else [])).length := by rw [← hm7, List.length_append]
    (refine mvB ?_;((conv=>whnf);repeat(first|(refine mvT ?_;conv=>whnf)|(refine mvF ?_;conv=>whnf)|(refine cT (by rfl) ?_;conv=>whnf)|(refine cF (by rfl) ?_;conv=>whnf))))
    refine VC.cutB (fun r => [(1, r), (0, .pointer (some ⟨p, 0, none⟩)), (5, .int .i16 v), (6, .bool fx), (8, .slice (some ⟨b1, o1, none⟩) l1.length k1), (75, .slice (some ⟨b1, o1, none⟩) l1.length k1), (76, .int .i64 l1.length), (77, .int .i64 i1), (10, .pointer (some ⟨b1, o1 + i1 * 5, none⟩))]) (fun r w' => Apd w0 B x l (m7 ++ (tgsB fx (x1).u)) r w') ?_ ?_
    · refine cI (by rfl) (fun hc=>?_) (fun hc=>?_)
      · ((conv=>whnf);repeat(first|(refine mvT ?_;conv=>whnf)|(refine mvF ?_;conv=>whnf)|(refine cT (by rfl) ?_;conv=>whnf)|(refine cF (by rfl) ?_;conv=>whnf)))
        have hul := hok1_.2.len
        refine Does.mono (Tags_Len_does (ld ((hce1.ext hA.ext (hFx _ hb1 hF1)).cell (j := 4) rfl) (by simp <;> omega)) (hm1_.ext hA.ext hFx)) ?_;rintro r w ⟨rfl, rfl⟩;((conv=>whnf);repeat(first|(refine mvT ?_;conv=>whnf)|(refine mvF ?_;conv=>whnf)|(refine cT (by rfl) ?_;conv=>whnf)|(refine cF (by rfl) ?_;conv=>whnf)))
        rw [u32_add0 (by omega)]
        refine Does.mono (AppendUvarint_does hA.ob (Nat.le_trans hB hA.size) (x1).u.length (by omega) (by simp only [List.length_append]; omega)) ?_;rintro r w h;((conv=>whnf);repeat(first|(refine mvT ?_;conv=>whnf)|(refine mvF ?_;conv=>whnf)|(refine cT (by rfl) ?_;conv=>whnf)|(refine cF (by rfl) ?_;conv=>whnf)))
        have hul2 := uvar10 (n := (x1).u.length) (by omega)
        replace hA := hA.tr h
        clear h
        refine Does.mono (AppendEach_does (ld ((hce1.ext hA.ext (hFx _ hb1 hF1)).cell (j := 4) rfl) (by simp <;> omega)) (hm1_.ext hA.ext hFx) hok1_.2 hA.ob (Nat.le_trans hB hA.size) (hA.ne (hFR _ hF1).2 (hFR _ hF1).1) (fun j _ hf => hA.ne (hFR j hf).2 (hFR j hf).1) (by simp only [List.length_append]; omega)) ?_;rintro r w h;((conv=>whnf);repeat(first|(refine mvT ?_;conv=>whnf)|(refine mvF ?_;conv=>whnf)|(refine cT (by rfl) ?_;conv=>whnf)|(refine cF (by rfl) ?_;conv=>whnf)))
        replace hA := hA.tr h
        clear h
        refine ⟨_, ⟨rfl, rfl, rfl, rfl, rfl, rfl, rfl, rfl, rfl, trivial⟩, ?_⟩
        rw [tgsB, if_pos hc, ← List.append_assoc]
        exact hA
      · ((conv=>whnf);repeat(first|(refine mvT ?_;conv=>whnf)|(refine mvF ?_;conv=>whnf)|(refine cT (by rfl) ?_;conv=>whnf)|(refine cF (by rfl) ?_;conv=>whnf)))
        refine ⟨_, ⟨rfl, rfl, rfl, rfl, rfl, rfl, rfl, rfl, rfl, trivial⟩, ?_⟩
        rw [tgsB, if_neg (by rw [hc]; decide), List.append_nil]
        exact hA
    clear hA
    rintro r w hA
    ((conv=>whnf);repeat(first|(refine mvT ?_;conv=>whnf)|(refine mvF ?_;conv=>whnf)|(refine cT (by rfl) ?_;conv=>whnf)|(refine cF (by rfl) ?_;conv=>whnf)))
    generalize hm8 : m7 ++ (tgsB fx (x1).u) = m8 at hA
    have hl8 : m8.length = m7.length + (tgsB fx (x1).u).length := by rw [← hm8, List.length_append]
    have hfin : m3 ++ (bMetadataResponseBroker v fx) x1 = m8 := by unfold bMetadataResponseBroker; simp only [← hm8, ← hm7, ← hm6, ← hm5, ← hm4, List.append_assoc, List.nil_append, List.append_nil]
    refine ⟨(i1 + 1, r), ⟨rfl, rfl, rfl, rfl, rfl, rfl, rfl, inc_eq (by rw [maxLen_eq] at hkm1; omega), trivial⟩, ⟨by simp only; omega, ?_⟩, by simp only; omega⟩
    rw [hft, ← List.append_assoc, hm3, hfin]
    exact hA
  have hil : i1 = l1.length := by have := of_decide_eq_false h9; simp only at this; omega
  ((conv=>whnf);repeat(first|(refine mvT ?_;conv=>whnf)|(refine mvF ?_;conv=>whnf)|(refine cT (by rfl) ?_;conv=>whnf)|(refine cF (by rfl) ?_;conv=>whnf)))
  rw [hil, hll1, List.take_length] at hA
  generalize hm3 : m2 ++ ((lsT (atT t 1)).flatMap (bMetadataResponseBroker v fx)) = m3 at hA
  have hl3 : m3.length = m2.length + ((lsT (atT t 1)).flatMap (bMetadataResponseBroker v fx)).length := by rw [← hm3, List.length_append]
  refine VC.cutE (fun r => [(1, r), (0, .pointer (some ⟨p, 0, none⟩)), (5, .int .i16 v), (6, .bool fx)]) (fun r w' => Apd w0 B x l (m3 ++ ((if (decide (2 ≤ v) && (decide ((-1 : Int) < 0) || decide (v ≤ (-1)))) = true then ntA fx (atT t 2).nl (atT t 2).s else []))) r w') ?_ ?_
  · refine cI (by rfl) (fun hcv=>?_) (fun hcv=>?_)
    · ((conv=>whnf);repeat(first|(refine mvT ?_;conv=>whnf)|(refine mvF ?_;conv=>whnf)|(refine cT (by rfl) ?_;conv=>whnf)|(refine cF (by rfl) ?_;conv=>whnf)))
      refine ldS ((hp.ext hA.ext hxp).cell rfl) ?_;((conv=>whnf);repeat(first|(refine mvT ?_;conv=>whnf)|(refine mvF ?_;conv=>whnf)|(refine cT (by rfl) ?_;conv=>whnf)|(refine cF (by rfl) ?_;conv=>whnf)))
      have hsl := fieldOK_text (hok.1 2 _ rfl)
      (refine mvB ?_;((conv=>whnf);repeat(first|(refine mvT ?_;conv=>whnf)|(refine mvF ?_;conv=>whnf)|(refine cT (by rfl) ?_;conv=>whnf)|(refine cF (by rfl) ?_;conv=>whnf))))
      refine cI (by rfl) (fun hc=>?_) (fun hc=>?_)
      · ((conv=>whnf);repeat(first|(refine mvT ?_;conv=>whnf)|(refine mvF ?_;conv=>whnf)|(refine cT (by rfl) ?_;conv=>whnf)|(refine cF (by rfl) ?_;conv=>whnf)))
        refine Does.mono (AppendCompactNullableString_R hA.ob (Nat.le_trans hB hA.size) (hc2.ext hA.ext hFx) hsl (by simp only [List.length_append]; omega)) ?_;rintro r w h;((conv=>whnf);repeat(first|(refine mvT ?_;conv=>whnf)|(refine mvF ?_;conv=>whnf)|(refine cT (by rfl) ?_;conv=>whnf)|(refine cF (by rfl) ?_;conv=>whnf)))
        replace hA := hA.tr h
        clear h
        refine ⟨_, ⟨rfl, rfl, rfl, rfl, trivial⟩, ?_⟩
        rw [if_pos (by simp only [ge_iff_le, decide_eq_true_eq] at hcv; simp; omega), hc]
        exact hA
      · ((conv=>whnf);repeat(first|(refine mvT ?_;conv=>whnf)|(refine mvF ?_;conv=>whnf)|(refine cT (by rfl) ?_;conv=>whnf)|(refine cF (by rfl) ?_;conv=>whnf)))
        refine Does.mono (AppendNullableString_R hA.ob (Nat.le_trans hB hA.size) (hc2.ext hA.ext hFx) (by simp only [List.length_append]; omega)) ?_;rintro r w h;((conv=>whnf);repeat(first|(refine mvT ?_;conv=>whnf)|(refine mvF ?_;conv=>whnf)|(refine cT (by rfl) ?_;conv=>whnf)|(refine cF (by rfl) ?_;conv=>whnf)))
        replace hA := hA.tr h
        clear h
        refine ⟨_, ⟨rfl, rfl, rfl, rfl, trivial⟩, ?_⟩
        rw [if_pos (by simp only [ge_iff_le, decide_eq_true_eq] at hcv; simp; omega), hc]
        exact hA
    · ((conv=>whnf);repeat(first|(refine mvT ?_;conv=>whnf)|(refine mvF ?_;conv=>whnf)|(refine cT (by rfl) ?_;conv=>whnf)|(refine cF (by rfl) ?_;conv=>whnf)))
      refine ⟨_, ⟨rfl, rfl, rfl, rfl, trivial⟩, ?_⟩
      rw [if_neg (by simp only [ge_iff_le, decide_eq_false_iff_not] at hcv; simp; omega), List.append_nil]
      exact hA
  clear hA
  rintro r w hA
  ((conv=>whnf);repeat(first|(refine mvT ?_;conv=>whnf)|(refine mvF ?_;conv=>whnf)|(refine cT (by rfl) ?_;conv=>whnf)|(refine cF (by rfl) ?_;conv=>whnf)))
  generalize hm4 : m3 ++ ((if (decide (2 ≤ v) && (decide ((-1 : Int) < 0) || decide (v ≤ (-1)))) = true then ntA fx (atT t 2).nl (atT t 2).s else [])) = m4 at hA
  have hl4 : m4.length = m3.length + ((if (decide (2 ≤ v) && (decide ((-1 : Int) < 0) || decide (v ≤ (-1)))) = true then ntA fx (atT t 2).nl (atT t 2).s else [])).length := by rw [← hm4, List.length_append]
  refine VC.cutE (fun r => [(1, r), (0, .pointer (some ⟨p, 0, none⟩)), (5, .int .i16 v), (6, .bool fx)]) (fun r w' => Apd w0 B x l (m4 ++ ((if (decide (1 ≤ v) && (decide ((-1 : Int) < 0) || decide (v ≤ (-1)))) = true then fixed (atT t 3).n 4 else []))) r w') ?_ ?_
  · refine cI (by rfl) (fun hcv=>?_) (fun hcv=>?_)
    · ((conv=>whnf);repeat(first|(refine mvT ?_;conv=>whnf)|(refine mvF ?_;conv=>whnf)|(refine cT (by rfl) ?_;conv=>whnf)|(refine cF (by rfl) ?_;conv=>whnf)))
      refine ldS ((hp.ext hA.ext hxp).cell rfl) ?_;((conv=>whnf);repeat(first|(refine mvT ?_;conv=>whnf)|(refine mvF ?_;conv=>whnf)|(refine cT (by rfl) ?_;conv=>whnf)|(refine cF (by rfl) ?_;conv=>whnf)))
      refine Does.mono (AppendInt32_does hA.ob (Nat.le_trans hB hA.size) (by simp only [List.length_append]; omega) _) ?_;rintro r w h;((conv=>whnf);repeat(first|(refine mvT ?_;conv=>whnf)|(refine mvF ?_;conv=>whnf)|(refine cT (by rfl) ?_;conv=>whnf)|(refine cF (by rfl) ?_;conv=>whnf)))
      rw [fixed4_mod (wrap_i32m _)] at h
      replace hA := hA.tr h
      clear h
      generalize hm5 : m4 ++ (fixed (atT t 3).n 4) = m5 at hA
      have hl5 : m5.length = m4.length + (fixed (atT t 3).n 4).length := by rw [← hm5, List.length_append]
      refine ⟨_, ⟨rfl, rfl, rfl, rfl, trivial⟩, ?_⟩
      rw [if_pos (by simp only [ge_iff_le, decide_eq_true_eq] at hcv; simp; omega)]
      rw [hm5]
      exact hA
    · ((conv=>whnf);repeat(first|(refine mvT ?_;conv=>whnf)|(refine mvF ?_;conv=>whnf)|(refine cT (by rfl) ?_;conv=>whnf)|(refine cF (by rfl) ?_;conv=>whnf)))
      refine ⟨_, ⟨rfl, rfl, rfl, rfl, trivial⟩, ?_⟩
      rw [if_neg (by simp only [ge_iff_le, decide_eq_false_iff_not] at hcv; simp; omega), List.append_nil]
      exact hA
  clear hA
  rintro r w hA
  ((conv=>whnf);repeat(first|(refine mvT ?_;conv=>whnf)|(refine mvF ?_;conv=>whnf)|(refine cT (by rfl) ?_;conv=>whnf)|(refine cF (by rfl) ?_;conv=>whnf)))
  generalize hm5 : m4 ++ ((if (decide (1 ≤ v) && (decide ((-1 : Int) < 0) || decide (v ≤ (-1)))) = true then fixed (atT t 3).n 4 else [])) = m5 at hA
  have hl5 : m5.length = m4.length + ((if (decide (1 ≤ v) && (decide ((-1 : Int) < 0) || decide (v ≤ (-1)))) = true then fixed (atT t 3).n 4 else [])).length := by rw [← hm5, List.length_append]
  refine ldS ((hp.ext hA.ext hxp).cell rfl) ?_;((conv=>whnf);repeat(first|(refine mvT ?_;conv=>whnf)|(refine mvF ?_;conv=>whnf)|(refine cT (by rfl) ?_;conv=>whnf)|(refine cF (by rfl) ?_;conv=>whnf)))
  have hml4 := lsT_len (hok.1 4 _ rfl)
  (refine mvB ?_;((conv=>whnf);repeat(first|(refine mvT ?_;conv=>whnf)|(refine mvF ?_;conv=>whnf)|(refine cT (by rfl) ?_;conv=>whnf)|(refine cF (by rfl) ?_;conv=>whnf))))
  refine VC.cutE (fun r => [(1, r), (0, .pointer (some ⟨p, 0, none⟩)), (5, .int .i16 v), (6, .bool fx), (17, .slice a4 l4.length k4)]) (fun r w' => Apd w0 B x l (m5 ++ (arA fx (lsT (atT t 4)).length)) r w') ?_ ?_
  · refine cI (by rfl) (fun hc=>?_) (fun hc=>?_)
    · ((conv=>whnf);repeat(first|(refine mvT ?_;conv=>whnf)|(refine mvF ?_;conv=>whnf)|(refine cT (by rfl) ?_;conv=>whnf)|(refine cF (by rfl) ?_;conv=>whnf)))
      refine Does.mono (AppendCompactArrayLen_does hA.ob (Nat.le_trans hB hA.size) (by simp only [List.length_append]; omega) l4.length (by omega)) ?_;rintro r w h;((conv=>whnf);repeat(first|(refine mvT ?_;conv=>whnf)|(refine mvF ?_;conv=>whnf)|(refine cT (by rfl) ?_;conv=>whnf)|(refine cF (by rfl) ?_;conv=>whnf)))
      rw [hll4] at h
      replace hA := hA.tr h
      clear h
      refine ⟨_, ⟨rfl, rfl, rfl, rfl, rfl, trivial⟩, ?_⟩
      rw [hc]
      exact hA
    · ((conv=>whnf);repeat(first|(refine mvT ?_;conv=>whnf)|(refine mvF ?_;conv=>whnf)|(refine cT (by rfl) ?_;conv=>whnf)|(refine cF (by rfl) ?_;conv=>whnf)))
      refine Does.mono (AppendArrayLen_does hA.ob (Nat.le_trans hB hA.size) (by simp only [List.length_append]; omega) l4.length) ?_;rintro r w h;((conv=>whnf);repeat(first|(refine mvT ?_;conv=>whnf)|(refine mvF ?_;conv=>whnf)|(refine cT (by rfl) ?_;conv=>whnf)|(refine cF (by rfl) ?_;conv=>whnf)))
      rw [hll4] at h
      replace hA := hA.tr h
      clear h
      refine ⟨_, ⟨rfl, rfl, rfl, rfl, rfl, trivial⟩, ?_⟩
      rw [hc]
      exact hA
  clear hA
  rintro r w hA
  ((conv=>whnf);repeat(first|(refine mvT ?_;conv=>whnf)|(refine mvF ?_;conv=>whnf)|(refine cT (by rfl) ?_;conv=>whnf)|(refine cF (by rfl) ?_;conv=>whnf)))
  generalize hm6 : m5 ++ (arA fx (lsT (atT t 4)).length) = m6 at hA
  have hl6 : m6.length = m5.length + (arA fx (lsT (atT t 4)).length).length := by rw [← hm6, List.length_append]
  refine VL.loop (fun s : Nat × Value => [(1, s.2), (0, .pointer (some ⟨p, 0, none⟩)), (5, .int .i16 v), (6, .bool fx), (17, .slice a4 l4.length k4), (171, .slice a4 l4.length k4), (172, .int .i64 l4.length), (173, .int .i64 s.1)])
    (fun s w' => s.1 ≤ l4.length ∧ Apd w0 B x l (m6 ++ ((lsT (atT t 4)).take s.1).flatMap (bMetadataResponseTopic v fx)) s.2 w') (fun s => l4.length - s.1) (0, r) ⟨rfl, rfl, rfl, rfl, rfl, rfl, rfl, rfl, trivial⟩ ⟨Nat.zero_le _, by rw [List.take_zero, List.flatMap_nil, List.append_nil]; exact hA⟩ ?_
  clear hA
  rintro ⟨i2, r⟩ w ⟨hi2, hA⟩
  dsimp only at hi2 hA
  ((conv=>whnf);repeat(first|(refine mvT ?_;conv=>whnf)|(refine mvF ?_;conv=>whnf)|(refine cT (by rfl) ?_;conv=>whnf)|(refine cF (by rfl) ?_;conv=>whnf)))
  refine cI (by rfl) (fun h9=>?_) (fun h9=>?_)
  · have hil : i2 < l4.length := by have := of_decide_eq_true h9; simp only at this; omega
    have hiL2 : i2 < (lsT (atT t 4)).length := by omega
    obtain ⟨hft, hfl⟩ := flat_take (bMetadataResponseTopic v fx) (lsT (atT t 4)) i2 hiL2
    obtain ⟨b4, o4, rfl, hF4, hb4, hce4⟩ := hcl4 i2 l4[i2] (by simp [hil])
    have hre4 := hrl4 i2 l4[i2] ((lsT (atT t 4))[i2]) (by simp [hil]) (by simp [hiL2])
    have hlo4 := lsT_ok (hok.1 4 _ rfl) ((lsT (atT t 4))[i2]) (List.getElem_mem hiL2)
    generalize hm7 : m6 ++ ((lsT (atT t 4)).take i2).flatMap (bMetadataResponseTopic v fx) = m7 at hA
    have hl7 : m7.length = m6.length + (((lsT (atT t 4)).take i2).flatMap (bMetadataResponseTopic v fx)).length := by rw [← hm7, List.length_append]
    obtain ⟨x2, hx2⟩ : ∃ y, y = (lsT (atT t 4))[i2] := ⟨_, rfl⟩
    rw [← hx2] at hft hfl hre4 hlo4
    obtain ⟨c2_1, u2_2_0, u2_2_1, u2_2_2, u2_2_3, u2_2_4, u2_2_5, u2_2_6, u2_2_7, u2_2_8, u2_2_9, u2_2_10, u2_2_11, u2_2_12, u2_2_13, u2_2_14, u2_2_15, c2_4, m2_, hcells, hc2_1, hc2_2, hc2_4, hm2_⟩ := hre4
    rw [hcells] at hce4
    have hok2_ := hlo4.2.2 rfl
    obtain ⟨a2_4, k2_4, l2_4, rfl, hkm2_4, hll2_4, hnn2_4, hcl2_4, hrl2_4⟩ := hc2_4.view
    have hgl : (bMetadataResponseTopic v fx x2).length = (bMetadataResponseTopic v fx x2).length := rfl
    conv at hgl => rhs; unfold bMetadataResponseTopic
    simp only [List.length_append, List.length_nil] at hgl
    ((conv=>whnf);repeat(first|(refine mvT ?_;conv=>whnf)|(refine mvF ?_;conv=>whnf)|(refine cT (by rfl) ?_;conv=>whnf)|(refine cF (by rfl) ?_;conv=>whnf)))
    refine ⟨b4, o4, rfl, ⟨by omega, by omega⟩, ?_⟩
    ((conv=>whnf);repeat(first|(refine mvT ?_;conv=>whnf)|(refine mvF ?_;conv=>whnf)|(refine cT (by rfl) ?_;conv=>whnf)|(refine cF (by rfl) ?_;conv=>whnf)))
    refine ⟨_, ld ((hce4.ext hA.ext (hFx _ hb4 hF4)).cell (j := 0) rfl) (by simp <;> omega), ?_⟩; ((conv=>whnf);repeat(first|(refine mvT ?_;conv=>whnf)|(refine mvF ?_;conv=>whnf)|(refine cT (by rfl) ?_;conv=>whnf)|(refine cF (by rfl) ?_;conv=>whnf)))
    refine Does.mono (AppendInt16_does hA.ob (Nat.le_trans hB hA.size) (by simp only [List.length_append]; omega) _) ?_;rintro r w h;((conv=>whnf);repeat(first|(refine mvT ?_;conv=>whnf)|(refine mvF ?_;conv=>whnf)|(refine cT (by rfl) ?_;conv=>whnf)|(refine cF (by rfl) ?_;conv=>whnf)))
    rw [fixed2_mod (wrap_i16m _)] at h
    replace hA := hA.tr h
    clear h
    generalize hm8 : m7 ++ (fixed (atT x2 0).n 2) = m8 at hA
    have hl8 : m8.length = m7.length + (fixed (atT x2 0).n 2).length := by rw [← hm8, List.length_append]
    refine ⟨_, ld ((hce4.ext hA.ext (hFx _ hb4 hF4)).cell (j := 1) rfl) (by simp <;> omega), ?_⟩; ((conv=>whnf);repeat(first|(refine mvT ?_;conv=>whnf)|(refine mvF ?_;conv=>whnf)|(refine cT (by rfl) ?_;conv=>whnf)|(refine cF (by rfl) ?_;conv=>whnf)))
    have hsl := fieldOK_text (hok2_.1 1 _ rfl)
    refine VC.cutE (fun r => [(1, r), (0, .pointer (some ⟨p, 0, none⟩)), (5, .int .i16 v), (6, .bool fx), (17, .slice (some ⟨b4, o4, none⟩) l4.length k4), (171, .slice (some ⟨b4, o4, none⟩) l4.length k4), (172, .int .i64 l4.length), (173, .int .i64 i2), (19, .pointer (some ⟨b4, o4 + i2 * 22, none⟩))]) (fun r w' => Apd w0 B x l (m8 ++ (ntA fx (atT x2 1).nl (atT x2 1).s)) r w') ?_ ?_
    · refine cI (by rfl) (fun hn2=>?_) (fun hn2=>?_)
      · have hnl : (atT x2 1).nl = false := by
          have h := fieldOK_null (hok2_.1 1 _ rfl) (by decide) (.inl (show (decide (0 ≤ v) && (decide ((-1 : Int) < 0) || decide (v ≤ (-1)))) = true by simp; omega))
          rw [← h]
          have := of_decide_eq_true hn2
          simp [nullF, Fd.nul]
          first | exact fun _ => decide_eq_false (by omega) | omega | (intros; omega)
        rcases hc2_1 with ⟨e, _⟩ | ⟨_, bs, os, rfl, hFs, hbs, hcs⟩
        · rw [hnl] at e
          cases e
        ((conv=>whnf);repeat(first|(refine mvT ?_;conv=>whnf)|(refine mvF ?_;conv=>whnf)|(refine cT (by rfl) ?_;conv=>whnf)|(refine cF (by rfl) ?_;conv=>whnf)))
        refine ⟨_, hA.ext.cell hcs (hFx _ hbs hFs), ?_⟩
        ((conv=>whnf);repeat(first|(refine mvT ?_;conv=>whnf)|(refine mvF ?_;conv=>whnf)|(refine cT (by rfl) ?_;conv=>whnf)|(refine cF (by rfl) ?_;conv=>whnf)))
        (refine mvB ?_;((conv=>whnf);repeat(first|(refine mvT ?_;conv=>whnf)|(refine mvF ?_;conv=>whnf)|(refine cT (by rfl) ?_;conv=>whnf)|(refine cF (by rfl) ?_;conv=>whnf))))
        refine cI (by rfl) (fun hc=>?_) (fun hc=>?_)
        · ((conv=>whnf);repeat(first|(refine mvT ?_;conv=>whnf)|(refine mvF ?_;conv=>whnf)|(refine cT (by rfl) ?_;conv=>whnf)|(refine cF (by rfl) ?_;conv=>whnf)))
          refine Does.mono (AppendCompactString_does hA.ob (Nat.le_trans hB hA.size) _ (by omega) (by simp only [List.length_append]; omega)) ?_;rintro r w h;((conv=>whnf);repeat(first|(refine mvT ?_;conv=>whnf)|(refine mvF ?_;conv=>whnf)|(refine cT (by rfl) ?_;conv=>whnf)|(refine cF (by rfl) ?_;conv=>whnf)))
          replace hA := hA.tr h
          clear h
          refine ⟨_, ⟨rfl, rfl, rfl, rfl, rfl, rfl, rfl, rfl, rfl, trivial⟩, ?_⟩
          rw [hnl, show ntA fx false (atT x2 1).s = txA fx (atT x2 1).s by first | rfl | (unfold ntA; cases fx <;> rfl), hc]
          exact hA
        · ((conv=>whnf);repeat(first|(refine mvT ?_;conv=>whnf)|(refine mvF ?_;conv=>whnf)|(refine cT (by rfl) ?_;conv=>whnf)|(refine cF (by rfl) ?_;conv=>whnf)))
          refine Does.mono (AppendString_does hA.ob (Nat.le_trans hB hA.size) _ (by simp only [List.length_append]; omega)) ?_;rintro r w h;((conv=>whnf);repeat(first|(refine mvT ?_;conv=>whnf)|(refine mvF ?_;conv=>whnf)|(refine cT (by rfl) ?_;conv=>whnf)|(refine cF (by rfl) ?_;conv=>whnf)))
          replace hA := hA.tr h
          clear h
          refine ⟨_, ⟨rfl, rfl, rfl, rfl, rfl, rfl, rfl, rfl, rfl, trivial⟩, ?_⟩
          rw [hnl, show ntA fx false (atT x2 1).s = txA fx (atT x2 1).s by first | rfl | (unfold ntA; cases fx <;> rfl), hc]
          exact hA
      · ((conv=>whnf);repeat(first|(refine mvT ?_;conv=>whnf)|(refine mvF ?_;conv=>whnf)|(refine cT (by rfl) ?_;conv=>whnf)|(refine cF (by rfl) ?_;conv=>whnf)))
        (refine mvB ?_;((conv=>whnf);repeat(first|(refine mvT ?_;conv=>whnf)|(refine mvF ?_;conv=>whnf)|(refine cT (by rfl) ?_;conv=>whnf)|(refine cF (by rfl) ?_;conv=>whnf))))
        refine cI (by rfl) (fun hc=>?_) (fun hc=>?_)
        · ((conv=>whnf);repeat(first|(refine mvT ?_;conv=>whnf)|(refine mvF ?_;conv=>whnf)|(refine cT (by rfl) ?_;conv=>whnf)|(refine cF (by rfl) ?_;conv=>whnf)))
          refine Does.mono (AppendCompactNullableString_R hA.ob (Nat.le_trans hB hA.size) (hc2_1.ext hA.ext hFx) hsl (by simp only [List.length_append]; omega)) ?_;rintro r w h;((conv=>whnf);repeat(first|(refine mvT ?_;conv=>whnf)|(refine mvF ?_;conv=>whnf)|(refine cT (by rfl) ?_;conv=>whnf)|(refine cF (by rfl) ?_;conv=>whnf)))
          replace hA := hA.tr h
          clear h
          refine ⟨_, ⟨rfl, rfl, rfl, rfl, rfl, rfl, rfl, rfl, rfl, trivial⟩, ?_⟩
          rw [hc]
          exact hA
        · ((conv=>whnf);repeat(first|(refine mvT ?_;conv=>whnf)|(refine mvF ?_;conv=>whnf)|(refine cT (by rfl) ?_;conv=>whnf)|(refine cF (by rfl) ?_;conv=>whnf)))
          refine Does.mono (AppendNullableString_R hA.ob (Nat.le_trans hB hA.size) (hc2_1.ext hA.ext hFx) (by simp only [List.length_append]; omega)) ?_;rintro r w h;((conv=>whnf);repeat(first|(refine mvT ?_;conv=>whnf)|(refine mvF ?_;conv=>whnf)|(refine cT (by rfl) ?_;conv=>whnf)|(refine cF (by rfl) ?_;conv=>whnf)))
          replace hA := hA.tr h
          clear h
          refine ⟨_, ⟨rfl, rfl, rfl, rfl, rfl, rfl, rfl, rfl, rfl, trivial⟩, ?_⟩
          rw [hc]
          exact hA
    clear hA
    rintro r w hA
    ((conv=>whnf);repeat(first|(refine mvT ?_;conv=>whnf)|(refine mvF ?_;conv=>whnf)|(refine cT (by rfl) ?_;conv=>whnf)|(refine cF (by rfl) ?_;conv=>whnf)))
    generalize hm9 : m8 ++ (ntA fx (atT x2 1).nl (atT x2 1).s) = m9 at hA
    have hl9 : m9.length = m8.length + (ntA fx (atT x2 1).nl (atT x2 1).s).length := by rw [← hm9, List.length_append]
    refine VC.cutE (fun r => [(1, r), (0, .pointer (some ⟨p, 0, none⟩)), (5, .int .i16 v), (6, .bool fx), (17, .slice (some ⟨b4, o4, none⟩) l4.length k4), (171, .slice (some ⟨b4, o4, none⟩) l4.length k4), (172, .int .i64 l4.length), (173, .int .i64 i2), (19, .pointer (some ⟨b4, o4 + i2 * 22, none⟩))]) (fun r w' => Apd w0 B x l (m9 ++ ((if (decide (10 ≤ v) && (decide ((-1 : Int) < 0) || decide (v ≤ (-1)))) = true then uuidB (atT x2 2).s else []))) r w') ?_ ?_
    · refine cI (by rfl) (fun hcv=>?_) (fun hcv=>?_)
      · ((conv=>whnf);repeat(first|(refine mvT ?_;conv=>whnf)|(refine mvF ?_;conv=>whnf)|(refine cT (by rfl) ?_;conv=>whnf)|(refine cF (by rfl) ?_;conv=>whnf)))
        refine ⟨_, rfl, Cells.sub2 (hce4.ext hA.ext (hFx _ hb4 hF4)) 2 16 rfl (by simp <;> omega), ?_⟩; ((conv=>whnf);repeat(first|(refine mvT ?_;conv=>whnf)|(refine mvF ?_;conv=>whnf)|(refine cT (by rfl) ?_;conv=>whnf)|(refine cF (by rfl) ?_;conv=>whnf)))
        intro bu wu hbu hou hxu
        ((conv=>whnf);repeat(first|(refine mvT ?_;conv=>whnf)|(refine mvF ?_;conv=>whnf)|(refine cT (by rfl) ?_;conv=>whnf)|(refine cF (by rfl) ?_;conv=>whnf)))
        refine st_all [bcell u2_2_0, bcell u2_2_1, bcell u2_2_2, bcell u2_2_3, bcell u2_2_4, bcell u2_2_5, bcell u2_2_6, bcell u2_2_7, bcell u2_2_8, bcell u2_2_9, bcell u2_2_10, bcell u2_2_11, bcell u2_2_12, bcell u2_2_13, bcell u2_2_14, bcell u2_2_15] hou rfl rfl rfl ?_
        intro wv hov hxv
        ((conv=>whnf);repeat(first|(refine mvT ?_;conv=>whnf)|(refine mvF ?_;conv=>whnf)|(refine cT (by rfl) ?_;conv=>whnf)|(refine cF (by rfl) ?_;conv=>whnf)))
        replace hA := hA.e0 ((Ext.refl nob _).trans (hxu.trans hxv (M' := fun k => k = bu) fun k hk e => by omega) fun _ _ h => h)
        refine ⟨_, rfl, hov.cells, ?_⟩
        ((conv=>whnf);repeat(first|(refine mvT ?_;conv=>whnf)|(refine mvF ?_;conv=>whnf)|(refine cT (by rfl) ?_;conv=>whnf)|(refine cF (by rfl) ?_;conv=>whnf)))
        refine Does.mono (AppendUuid_does (s := [u2_2_0, u2_2_1, u2_2_2, u2_2_3, u2_2_4, u2_2_5, u2_2_6, u2_2_7, u2_2_8, u2_2_9, u2_2_10, u2_2_11, u2_2_12, u2_2_13, u2_2_14, u2_2_15]) hA.ob (Nat.le_trans hB hA.size) (by simp only [List.length_append, List.length_cons, List.length_nil]; omega)) ?_;rintro r w h;((conv=>whnf);repeat(first|(refine mvT ?_;conv=>whnf)|(refine mvF ?_;conv=>whnf)|(refine cT (by rfl) ?_;conv=>whnf)|(refine cF (by rfl) ?_;conv=>whnf)))
        replace hA := hA.tr h
        clear h
        rw [← hc2_2] at hA
        generalize hm10 : m9 ++ (uuidB (atT x2 2).s) = m10 at hA
        have hl10 : m10.length = m9.length + (uuidB (atT x2 2).s).length := by rw [← hm10, List.length_append]
        refine ⟨_, ⟨rfl, rfl, rfl, rfl, rfl, rfl, rfl, rfl, rfl, trivial⟩, ?_⟩
        rw [if_pos (by simp only [ge_iff_le, decide_eq_true_eq] at hcv; simp; omega)]
        rw [hm10]
        exact hA
      · ((conv=>whnf);repeat(first|(refine mvT ?_;conv=>whnf)|(refine mvF ?_;conv=>whnf)|(refine cT (by rfl) ?_;conv=>whnf)|(refine cF (by rfl) ?_;conv=>whnf)))
        refine ⟨_, ⟨rfl, rfl, rfl, rfl, rfl, rfl, rfl, rfl, rfl, trivial⟩, ?_⟩
        rw [if_neg (by simp only [ge_iff_le, decide_eq_false_iff_not] at hcv; simp; omega), List.append_nil]
        exact hA
    clear hA
    rintro r w hA
    ((conv=>whnf);repeat(first|(refine mvT ?_;conv=>whnf)|(refine mvF ?_;conv=>whnf)|(refine cT (by rfl) ?_;conv=>whnf)|(refine cF (by rfl) ?_;conv=>whnf)))
    generalize hm10 : m9 ++ ((if (decide (10 ≤ v) && (decide ((-1 : Int) < 0) || decide (v ≤ (-1)))) = true then uuidB (atT x2 2).s else [])) = m10 at hA
    have hl10 : m10.length = m9.length + ((if (decide (10 ≤ v) && (decide ((-1 : Int) < 0) || decide (v ≤ (-1)))) = true then uuidB (atT x2 2).s else [])).length := by rw [← hm10, List.length_append]
    refine VC.cutE (fun r => [(1, r), (0, .pointer (some ⟨p, 0, none⟩)), (5, .int .i16 v), (6, .bool fx), (17, .slice (some ⟨b4, o4, none⟩) l4.length k4), (171, .slice (some ⟨b4, o4, none⟩) l4.length k4), (172, .int .i64 l4.length), (173, .int .i64 i2), (19, .pointer (some ⟨b4, o4 + i2 * 22, none⟩))]) (fun r w' => Apd w0 B x l (m10 ++ ((if (decide (1 ≤ v) && (decide ((-1 : Int) < 0) || decide (v ≤ (-1)))) = true then boA (atT x2 3).n else []))) r w') ?_ ?_
    · refine cI (by rfl) (fun hcv=>?_) (fun hcv=>?_)
      · ((conv=>whnf);repeat(first|(refine mvT ?_;conv=>whnf)|(refine mvF ?_;conv=>whnf)|(refine cT (by rfl) ?_;conv=>whnf)|(refine cF (by rfl) ?_;conv=>whnf)))
        refine ⟨_, ld ((hce4.ext hA.ext (hFx _ hb4 hF4)).cell (j := 18) rfl) (by simp <;> omega), ?_⟩; ((conv=>whnf);repeat(first|(refine mvT ?_;conv=>whnf)|(refine mvF ?_;conv=>whnf)|(refine cT (by rfl) ?_;conv=>whnf)|(refine cF (by rfl) ?_;conv=>whnf)))
        (refine mvB ?_;((conv=>whnf);repeat(first|(refine mvT ?_;conv=>whnf)|(refine mvF ?_;conv=>whnf)|(refine cT (by rfl) ?_;conv=>whnf)|(refine cF (by rfl) ?_;conv=>whnf))))
        refine Does.mono (AppendBool_does hA.ob (Nat.le_trans hB hA.size) (by simp only [List.length_append]; omega) _) ?_;rintro r w h;((conv=>whnf);repeat(first|(refine mvT ?_;conv=>whnf)|(refine mvF ?_;conv=>whnf)|(refine cT (by rfl) ?_;conv=>whnf)|(refine cF (by rfl) ?_;conv=>whnf)))
        replace hA := hA.tr h
        clear h
        rw [bo_eq] at hA
        generalize hm11 : m10 ++ (boA (atT x2 3).n) = m11 at hA
        have hl11 : m11.length = m10.length + (boA (atT x2 3).n).length := by rw [← hm11, List.length_append]
        refine ⟨_, ⟨rfl, rfl, rfl, rfl, rfl, rfl, rfl, rfl, rfl, trivial⟩, ?_⟩
        rw [if_pos (by simp only [ge_iff_le, decide_eq_true_eq] at hcv; simp; omega)]
        rw [hm11]
        exact hA
      · ((conv=>whnf);repeat(first|(refine mvT ?_;conv=>whnf)|(refine mvF ?_;conv=>whnf)|(refine cT (by rfl) ?_;conv=>whnf)|(refine cF (by rfl) ?_;conv=>whnf)))
        refine ⟨_, ⟨rfl, rfl, rfl, rfl, rfl, rfl, rfl, rfl, rfl, trivial⟩, ?_⟩
        rw [if_neg (by simp only [ge_iff_le, decide_eq_false_iff_not] at hcv; simp; omega), List.append_nil]
        exact hA
    clear hA
    rintro r w hA
    ((conv=>whnf);repeat(first|(refine mvT ?_;conv=>whnf)|(refine mvF ?_;conv=>whnf)|(refine cT (by rfl) ?_;conv=>whnf)|(refine cF (by rfl) ?_;conv=>whnf)))
    generalize hm11 : m10 ++ ((if (decide (1 ≤ v) && (decide ((-1 : Int) < 0) || decide (v ≤ (-1)))) = true then boA (atT x2 3).n else [])) = m11 at hA
    have hl11 : m11.length = m10.length + ((if (decide (1 ≤ v) && (decide ((-1 : Int) < 0) || decide (v ≤ (-1)))) = true then boA (atT x2 3).n else [])).length := by rw [← hm11, List.length_append]
    refine ⟨_, ld ((hce4.ext hA.ext (hFx _ hb4 hF4)).cell (j := 19) rfl) (by simp <;> omega), ?_⟩; ((conv=>whnf);repeat(first|(refine mvT ?_;conv=>whnf)|(refine mvF ?_;conv=>whnf)|(refine cT (by rfl) ?_;conv=>whnf)|(refine cF (by rfl) ?_;conv=>whnf)))
    have hml2_4 := lsT_len (hok2_.1 4 _ rfl)
    (refine mvB ?_;((conv=>whnf);repeat(first|(refine mvT ?_;conv=>whnf)|(refine mvF ?_;conv=>whnf)|(refine cT (by rfl) ?_;conv=>whnf)|(refine cF (by rfl) ?_;conv=>whnf))))
    refine VC.cutE (fun r => [(1, r), (0, .pointer (some ⟨p, 0, none⟩)), (5, .int .i16 v), (6, .bool fx), (17, .slice (some ⟨b4, o4, none⟩) l4.length k4), (171, .slice (some ⟨b4, o4, none⟩) l4.length k4), (172, .int .i64 l4.length), (173, .int .i64 i2), (19, .pointer (some ⟨b4, o4 + i2 * 22, none⟩)), (26, .slice a2_4 l2_4.length k2_4)]) (fun r w' => Apd w0 B x l (m11 ++ (arA fx (lsT (atT x2 4)).length)) r w') ?_ ?_
    · refine cI (by rfl) (fun hc=>?_) (fun hc=>?_)
      · ((conv=>whnf);repeat(first|(refine mvT ?_;conv=>whnf)|(refine mvF ?_;conv=>whnf)|(refine cT (by rfl) ?_;conv=>whnf)|(refine cF (by rfl) ?_;conv=>whnf)))
        refine Does.mono (AppendCompactArrayLen_does hA.ob (Nat.le_trans hB hA.size) (by simp only [List.length_append]; omega) l2_4.length (by omega)) ?_;rintro r w h;((conv=>whnf);repeat(first|(refine mvT ?_;conv=>whnf)|(refine mvF ?_;conv=>whnf)|(refine cT (by rfl) ?_;conv=>whnf)|(refine cF (by rfl) ?_;conv=>whnf)))
        rw [hll2_4] at h
        replace hA := hA.tr h
        clear h
        refine ⟨_, ⟨rfl, rfl, rfl, rfl, rfl, rfl, rfl, rfl, rfl, rfl, trivial⟩, ?_⟩
        rw [hc]
        exact hA
      · ((conv=>whnf);repeat(first|(refine mvT ?_;conv=>whnf)|(refine mvF ?_;conv=>whnf)|(refine cT (by rfl) ?_;conv=>whnf)|(refine cF (by rfl) ?_;conv=>whnf)))
        refine Does.mono (AppendArrayLen_does hA.ob (Nat.le_trans hB hA.size) (by simp only [List.length_append]; omega) l2_4.length) ?_;rintro r w h;((conv=>whnf);repeat(first|(refine mvT ?_;conv=>whnf)|(refine mvF ?_;conv=>whnf)|(refine cT (by rfl) ?_;conv=>whnf)|(refine cF (by rfl) ?_;conv=>whnf)))
        rw [hll2_4] at h
        replace hA := hA.tr h
        clear h
        refine ⟨_, ⟨rfl, rfl, rfl, rfl, rfl, rfl, rfl, rfl, rfl, rfl, trivial⟩, ?_⟩
        rw [hc]
        exact hA
    clear hA
    rintro r w hA
    ((conv=>whnf);repeat(first|(refine mvT ?_;conv=>whnf)|(refine mvF ?_;conv=>whnf)|(refine cT (by rfl) ?_;conv=>whnf)|(refine cF (by rfl) ?_;conv=>whnf)))
    generalize hm12 : m11 ++ (arA fx (lsT (atT x2 4)).length) = m12 at hA
    have hl12 : m12.length = m11.length + (arA fx (lsT (atT x2 4)).length).length := by rw [← hm12, List.length_append]
    refine VL.loop (fun s : Nat × Value => [(1, s.2), (0, .pointer (some ⟨p, 0, none⟩)), (5, .int .i16 v), (6, .bool fx), (17, .slice (some ⟨b4, o4, none⟩) l4.length k4), (171, .slice (some ⟨b4, o4, none⟩) l4.length k4), (172, .int .i64 l4.length), (173, .int .i64 i2), (19, .pointer (some ⟨b4, o4 + i2 * 22, none⟩)), (26, .slice a2_4 l2_4.length k2_4), (243, .slice a2_4 l2_4.length k2_4), (244, .int .i64 l2_4.length), (245, .int .i64 s.1)])
      (fun s w' => s.1 ≤ l2_4.length ∧ Apd w0 B x l (m12 ++ ((lsT (atT x2 4)).take s.1).flatMap (bMetadataResponseTopicPartition v fx)) s.2 w') (fun s => l2_4.length - s.1) (0, r) ⟨rfl, rfl, rfl, rfl, rfl, rfl, rfl, rfl, rfl, rfl, rfl, rfl, rfl, trivial⟩ ⟨Nat.zero_le _, by rw [List.take_zero, List.flatMap_nil, List.append_nil]; exact hA⟩ ?_
    clear hA
    rintro ⟨i3, r⟩ w ⟨hi3, hA⟩
    dsimp only at hi3 hA
    ((conv=>whnf);repeat(first|(refine mvT ?_;conv=>whnf)|(refine mvF ?_;conv=>whnf)|(refine cT (by rfl) ?_;conv=>whnf)|(refine cF (by rfl) ?_;conv=>whnf)))
    refine cI (by rfl) (fun h9=>?_) (fun h9=>?_)
    · have hil : i3 < l2_4.length := by have := of_decide_eq_true h9; simp only at this; omega
      have hiL3 : i3 < (lsT (atT x2 4)).length := by omega
      obtain ⟨hft, hfl⟩ := flat_take (bMetadataResponseTopicPartition v fx) (lsT (atT x2 4)) i3 hiL3
      obtain ⟨b2_4, o2_4, rfl, hF2_4, hb2_4, hce2_4⟩ := hcl2_4 i3 l2_4[i3] (by simp [hil])
      have hre2_4 := hrl2_4 i3 l2_4[i3] ((lsT (atT x2 4))[i3]) (by simp [hil]) (by simp [hiL3])
      have hlo2_4 := lsT_ok (hok2_.1 4 _ rfl) ((lsT (atT x2 4))[i3]) (List.getElem_mem hiL3)
      generalize hm13 : m12 ++ ((lsT (atT x2 4)).take i3).flatMap (bMetadataResponseTopicPartition v fx) = m13 at hA
      have hl13 : m13.length = m12.length + (((lsT (atT x2 4)).take i3).flatMap (bMetadataResponseTopicPartition v fx)).length := by rw [← hm13, List.length_append]
      obtain ⟨x3, hx3⟩ : ∃ y, y = (lsT (atT x2 4))[i3] := ⟨_, rfl⟩
      rw [← hx3] at hft hfl hre2_4 hlo2_4
      obtain ⟨c3_4, c3_5, c3_6, m3_, hcells, hc3_4, hc3_5, hc3_6, hm3_⟩ := hre2_4
      rw [hcells] at hce2_4
      have hok3_ := hlo2_4.2.2 rfl
      obtain ⟨a3_4, k3_4, l3_4, rfl, hkm3_4, hll3_4, hnn3_4, hcl3_4, hrl3_4⟩ := hc3_4.view
      obtain ⟨a3_5, k3_5, l3_5, rfl, hkm3_5, hll3_5, hnn3_5, hcl3_5, hrl3_5⟩ := hc3_5.view
      obtain ⟨a3_6, k3_6, l3_6, rfl, hkm3_6, hll3_6, hnn3_6, hcl3_6, hrl3_6⟩ := hc3_6.view
      have hgl : (bMetadataResponseTopicPartition v fx x3).length = (bMetadataResponseTopicPartition v fx x3).length := rfl
      conv at hgl => rhs; unfold bMetadataResponseTopicPartition
      simp only [List.length_append, List.length_nil] at hgl
      ((conv=>whnf);repeat(first|(refine mvT ?_;conv=>whnf)|(refine mvF ?_;conv=>whnf)|(refine cT (by rfl) ?_;conv=>whnf)|(refine cF (by rfl) ?_;conv=>whnf)))
      refine ⟨b2_4, o2_4, rfl, ⟨by omega, by omega⟩, ?_⟩
      ((conv=>whnf);repeat(first|(refine mvT ?_;conv=>whnf)|(refine mvF ?_;conv=>whnf)|(refine cT (by rfl) ?_;conv=>whnf)|(refine cF (by rfl) ?_;conv=>whnf)))
      refine ⟨_, ld ((hce2_4.ext hA.ext (hFx _ hb2_4 hF2_4)).cell (j := 0) rfl) (by simp <;> omega), ?_⟩; ((conv=>whnf);repeat(first|(refine mvT ?_;conv=>whnf)|(refine mvF ?_;conv=>whnf)|(refine cT (by rfl) ?_;conv=>whnf)|(refine cF (by rfl) ?_;conv=>whnf)))
      refine Does.mono (AppendInt16_does hA.ob (Nat.le_trans hB hA.size) (by simp only [List.length_append]; omega) _) ?_;rintro r w h;((conv=>whnf);repeat(first|(refine mvT ?_;conv=>whnf)|(refine mvF ?_;conv=>whnf)|(refine cT (by rfl) ?_;conv=>whnf)|(refine cF (by rfl) ?_;conv=>whnf)))
      rw [fixed2_mod (wrap_i16m _)] at h
      replace hA := hA.tr h
      clear h
      generalize hm14 : m13 ++ (fixed (atT x3 0).n 2) = m14 at hA
      have hl14 : m14.length = m13.length + (fixed (atT x3 0).n 2).length := by rw [← hm14, List.length_append]
      refine ⟨_, ld ((hce2_4.ext hA.ext (hFx _ hb2_4 hF2_4)).cell (j := 1) rfl) (by simp <;> omega), ?_⟩; ((conv=>whnf);repeat(first|(refine mvT ?_;conv=>whnf)|(refine mvF ?_;conv=>whnf)|(refine cT (by rfl) ?_;conv=>whnf)|(refine cF (by rfl) ?_;conv=>whnf)))
      refine Does.mono (AppendInt32_does hA.ob (Nat.le_trans hB hA.size) (by simp only [List.length_append]; omega) _) ?_;rintro r w h;((conv=>whnf);repeat(first|(refine mvT ?_;conv=>whnf)|(refine mvF ?_;conv=>whnf)|(refine cT (by rfl) ?_;conv=>whnf)|(refine cF (by rfl) ?_;conv=>whnf)))
      rw [fixed4_mod (wrap_i32m _)] at h
      replace hA := hA.tr h
      clear h
      generalize hm15 : m14 ++ (fixed (atT x3 1).n 4) = m15 at hA
      have hl15 : m15.length = m14.length + (fixed (atT x3 1).n 4).length := by rw [← hm15, List.length_append]
      refine ⟨_, ld ((hce2_4.ext hA.ext (hFx _ hb2_4 hF2_4)).cell (j := 2) rfl) (by simp <;> omega), ?_⟩; ((conv=>whnf);repeat(first|(refine mvT ?_;conv=>whnf)|(refine mvF ?_;conv=>whnf)|(refine cT (by rfl) ?_;conv=>whnf)|(refine cF (by rfl) ?_;conv=>whnf)))
      refine Does.mono (AppendInt32_does hA.ob (Nat.le_trans hB hA.size) (by simp only [List.length_append]; omega) _) ?_;rintro r w h;((conv=>whnf);repeat(first|(refine mvT ?_;conv=>whnf)|(refine mvF ?_;conv=>whnf)|(refine cT (by rfl) ?_;conv=>whnf)|(refine cF (by rfl) ?_;conv=>whnf)))
      rw [fixed4_mod (wrap_i32m _)] at h
      replace hA := hA.tr h
      clear h
      generalize hm16 : m15 ++ (fixed (atT x3 2).n 4) = m16 at hA
      have hl16 : m16.length = m15.length + (fixed (atT x3 2).n 4).length := by rw [← hm16, List.length_append]
      refine VC.cutE (fun r => [(1, r), (0, .pointer (some ⟨p, 0, none⟩)), (5, .int .i16 v), (6, .bool fx), (17, .slice (some ⟨b4, o4, none⟩) l4.length k4), (171, .slice (some ⟨b4, o4, none⟩) l4.length k4), (172, .int .i64 l4.length), (173, .int .i64 i2), (19, .pointer (some ⟨b4, o4 + i2 * 22, none⟩)), (26, .slice (some ⟨b2_4, o2_4, none⟩) l2_4.length k2_4), (243, .slice (some ⟨b2_4, o2_4, none⟩) l2_4.length k2_4), (244, .int .i64 l2_4.length), (245, .int .i64 i3), (28, .pointer (some ⟨b2_4, o2_4 + i3 * 8, none⟩))]) (fun r w' => Apd w0 B x l (m16 ++ ((if (decide (7 ≤ v) && (decide ((-1 : Int) < 0) || decide (v ≤ (-1)))) = true then fixed (atT x3 3).n 4 else []))) r w') ?_ ?_
      · refine cI (by rfl) (fun hcv=>?_) (fun hcv=>?_)
        · ((conv=>whnf);repeat(first|(refine mvT ?_;conv=>whnf)|(refine mvF ?_;conv=>whnf)|(refine cT (by rfl) ?_;conv=>whnf)|(refine cF (by rfl) ?_;conv=>whnf)))
          refine ⟨_, ld ((hce2_4.ext hA.ext (hFx _ hb2_4 hF2_4)).cell (j := 3) rfl) (by simp <;> omega), ?_⟩; ((conv=>whnf);repeat(first|(refine mvT ?_;conv=>whnf)|(refine mvF ?_;conv=>whnf)|(refine cT (by rfl) ?_;conv=>whnf)|(refine cF (by rfl) ?_;conv=>whnf)))
          refine Does.mono (AppendInt32_does hA.ob (Nat.le_trans hB hA.size) (by simp only [List.length_append]; omega) _) ?_;rintro r w h;((conv=>whnf);repeat(first|(refine mvT ?_;conv=>whnf)|(refine mvF ?_;conv=>whnf)|(refine cT (by rfl) ?_;conv=>whnf)|(refine cF (by rfl) ?_;conv=>whnf)))
          rw [fixed4_mod (wrap_i32m _)] at h
          replace hA := hA.tr h
          clear h
          generalize hm17 : m16 ++ (fixed (atT x3 3).n 4) = m17 at hA
          have hl17 : m17.length = m16.length + (fixed (atT x3 3).n 4).length := by rw [← hm17, List.length_append]
          refine ⟨_, ⟨rfl, rfl, rfl, rfl, rfl, rfl, rfl, rfl, rfl, rfl, rfl, rfl, rfl, rfl, trivial⟩, ?_⟩
          rw [if_pos (by simp only [ge_iff_le, decide_eq_true_eq] at hcv; simp; omega)]
          rw [hm17]
          exact hA
        · ((conv=>whnf);repeat(first|(refine mvT ?_;conv=>whnf)|(refine mvF ?_;conv=>whnf)|(refine cT (by rfl) ?_;conv=>whnf)|(refine cF (by rfl) ?_;conv=>whnf)))
          refine ⟨_, ⟨rfl, rfl, rfl, rfl, rfl, rfl, rfl, rfl, rfl, rfl, rfl, rfl, rfl, rfl, trivial⟩, ?_⟩
          rw [if_neg (by simp only [ge_iff_le, decide_eq_false_iff_not] at hcv; simp; omega), List.append_nil]
          exact hA
      clear hA
      rintro r w hA
      ((conv=>whnf);repeat(first|(refine mvT ?_;conv=>whnf)|(refine mvF ?_;conv=>whnf)|(refine cT (by rfl) ?_;conv=>whnf)|(refine cF (by rfl) ?_;conv=>whnf)))
      generalize hm17 : m16 ++ ((if (decide (7 ≤ v) && (decide ((-1 : Int) < 0) || decide (v ≤ (-1)))) = true then fixed (atT x3 3).n 4 else [])) = m17 at hA
      have hl17 : m17.length = m16.length + ((if (decide (7 ≤ v) && (decide ((-1 : Int) < 0) || decide (v ≤ (-1)))) = true then fixed (atT x3 3).n 4 else [])).length := by rw [← hm17, List.length_append]
      refine ⟨_, ld ((hce2_4.ext hA.ext (hFx _ hb2_4 hF2_4)).cell (j := 4) rfl) (by simp <;> omega), ?_⟩; ((conv=>whnf);repeat(first|(refine mvT ?_;conv=>whnf)|(refine mvF ?_;conv=>whnf)|(refine cT (by rfl) ?_;conv=>whnf)|(refine cF (by rfl) ?_;conv=>whnf)))
      have hml3_4 := lsT_len (hok3_.1 4 _ rfl)
      (refine mvB ?_;((conv=>whnf);repeat(first|(refine mvT ?_;conv=>whnf)|(refine mvF ?_;conv=>whnf)|(refine cT (by rfl) ?_;conv=>whnf)|(refine cF (by rfl) ?_;conv=>whnf))))
      refine VC.cutE (fun r => [(1, r), (0, .pointer (some ⟨p, 0, none⟩)), (5, .int .i16 v), (6, .bool fx), (17, .slice (some ⟨b4, o4, none⟩) l4.length k4), (171, .slice (some ⟨b4, o4, none⟩) l4.length k4), (172, .int .i64 l4.length), (173, .int .i64 i2), (19, .pointer (some ⟨b4, o4 + i2 * 22, none⟩)), (26, .slice (some ⟨b2_4, o2_4, none⟩) l2_4.length k2_4), (243, .slice (some ⟨b2_4, o2_4, none⟩) l2_4.length k2_4), (244, .int .i64 l2_4.length), (245, .int .i64 i3), (28, .pointer (some ⟨b2_4, o2_4 + i3 * 8, none⟩)), (33, .slice a3_4 l3_4.length k3_4)]) (fun r w' => Apd w0 B x l (m17 ++ (arA fx (lsT (atT x3 4)).length)) r w') ?_ ?_
      · refine cI (by rfl) (fun hc=>?_) (fun hc=>?_)
        · ((conv=>whnf);repeat(first|(refine mvT ?_;conv=>whnf)|(refine mvF ?_;conv=>whnf)|(refine cT (by rfl) ?_;conv=>whnf)|(refine cF (by rfl) ?_;conv=>whnf)))
          refine Does.mono (AppendCompactArrayLen_does hA.ob (Nat.le_trans hB hA.size) (by simp only [List.length_append]; omega) l3_4.length (by omega)) ?_;rintro r w h;((conv=>whnf);repeat(first|(refine mvT ?_;conv=>whnf)|(refine mvF ?_;conv=>whnf)|(refine cT (by rfl) ?_;conv=>whnf)|(refine cF (by rfl) ?_;conv=>whnf)))
          rw [hll3_4] at h
          replace hA := hA.tr h
          clear h
          refine ⟨_, ⟨rfl, rfl, rfl, rfl, rfl, rfl, rfl, rfl, rfl, rfl, rfl, rfl, rfl, rfl, rfl, trivial⟩, ?_⟩
          rw [hc]
          exact hA
        · ((conv=>whnf);repeat(first|(refine mvT ?_;conv=>whnf)|(refine mvF ?_;conv=>whnf)|(refine cT (by rfl) ?_;conv=>whnf)|(refine cF (by rfl) ?_;conv=>whnf)))
          refine Does.mono (AppendArrayLen_does hA.ob (Nat.le_trans hB hA.size) (by simp only [List.length_append]; omega) l3_4.length) ?_;rintro r w h;((conv=>whnf);repeat(first|(refine mvT ?_;conv=>whnf)|(refine mvF ?_;conv=>whnf)|(refine cT (by rfl) ?_;conv=>whnf)|(refine cF (by rfl) ?_;conv=>whnf)))
          rw [hll3_4] at h
          replace hA := hA.tr h
          clear h
          refine ⟨_, ⟨rfl, rfl, rfl, rfl, rfl, rfl, rfl, rfl, rfl, rfl, rfl, rfl, rfl, rfl, rfl, trivial⟩, ?_⟩
          rw [hc]
          exact hA
      clear hA
      rintro r w hA
      ((conv=>whnf);repeat(first|(refine mvT ?_;conv=>whnf)|(refine mvF ?_;conv=>whnf)|(refine cT (by rfl) ?_;conv=>whnf)|(refine cF (by rfl) ?_;conv=>whnf)))
      generalize hm18 : m17 ++ (arA fx (lsT (atT x3 4)).length) = m18 at hA
      have hl18 : m18.length = m17.length + (arA fx (lsT (atT x3 4)).length).length := by rw [← hm18, List.length_append]
      refine VL.loop (fun s : Nat × Value => [(1, s.2), (0, .pointer (some ⟨p, 0, none⟩)), (5, .int .i16 v), (6, .bool fx), (17, .slice (some ⟨b4, o4, none⟩) l4.length k4), (171, .slice (some ⟨b4, o4, none⟩) l4.length k4), (172, .int .i64 l4.length), (173, .int .i64 i2), (19, .pointer (some ⟨b4, o4 + i2 * 22, none⟩)), (26, .slice (some ⟨b2_4, o2_4, none⟩) l2_4.length k2_4), (243, .slice (some ⟨b2_4, o2_4, none⟩) l2_4.length k2_4), (244, .int .i64 l2_4.length), (245, .int .i64 i3), (28, .pointer (some ⟨b2_4, o2_4 + i3 * 8, none⟩)), (33, .slice a3_4 l3_4.length k3_4), (294, .slice a3_4 l3_4.length k3_4), (295, .int .i64 l3_4.length), (296, .int .i64 s.1)])
        (fun s w' => s.1 ≤ l3_4.length ∧ Apd w0 B x l (m18 ++ ((lsT (atT x3 4)).take s.1).flatMap (fun x => fixed x.n 4)) s.2 w') (fun s => l3_4.length - s.1) (0, r) ⟨rfl, rfl, rfl, rfl, rfl, rfl, rfl, rfl, rfl, rfl, rfl, rfl, rfl, rfl, rfl, rfl, rfl, rfl, trivial⟩ ⟨Nat.zero_le _, by rw [List.take_zero, List.flatMap_nil, List.append_nil]; exact hA⟩ ?_
      clear hA
      rintro ⟨i4, r⟩ w ⟨hi4, hA⟩
      dsimp only at hi4 hA
      ((conv=>whnf);repeat(first|(refine mvT ?_;conv=>whnf)|(refine mvF ?_;conv=>whnf)|(refine cT (by rfl) ?_;conv=>whnf)|(refine cF (by rfl) ?_;conv=>whnf)))
      refine cI (by rfl) (fun h9=>?_) (fun h9=>?_)
      · have hil : i4 < l3_4.length := by have := of_decide_eq_true h9; simp only at this; omega
        have hiL4 : i4 < (lsT (atT x3 4)).length := by omega
        obtain ⟨hft, hfl⟩ := flat_take (fun x => fixed x.n 4) (lsT (atT x3 4)) i4 hiL4
        obtain ⟨b3_4, o3_4, rfl, hF3_4, hb3_4, hce3_4⟩ := hcl3_4 i4 l3_4[i4] (by simp [hil])
        have hre3_4 := hrl3_4 i4 l3_4[i4] ((lsT (atT x3 4))[i4]) (by simp [hil]) (by simp [hiL4])
        have hlo3_4 := lsT_ok (hok3_.1 4 _ rfl) ((lsT (atT x3 4))[i4]) (List.getElem_mem hiL4)
        generalize hm19 : m18 ++ ((lsT (atT x3 4)).take i4).flatMap (fun x => fixed x.n 4) = m19 at hA
        have hl19 : m19.length = m18.length + (((lsT (atT x3 4)).take i4).flatMap (fun x => fixed x.n 4)).length := by rw [← hm19, List.length_append]
        obtain ⟨x4, hx4⟩ : ∃ y, y = (lsT (atT x3 4))[i4] := ⟨_, rfl⟩
        rw [← hx4] at hft hfl hre3_4 hlo3_4
        rw [hre3_4] at hce3_4
        ((conv=>whnf);repeat(first|(refine mvT ?_;conv=>whnf)|(refine mvF ?_;conv=>whnf)|(refine cT (by rfl) ?_;conv=>whnf)|(refine cF (by rfl) ?_;conv=>whnf)))
        refine ⟨b3_4, o3_4, rfl, ⟨by omega, by omega⟩, ?_⟩
        ((conv=>whnf);repeat(first|(refine mvT ?_;conv=>whnf)|(refine mvF ?_;conv=>whnf)|(refine cT (by rfl) ?_;conv=>whnf)|(refine cF (by rfl) ?_;conv=>whnf)))
        refine ⟨_, ld ((hce3_4.ext hA.ext (hFx _ hb3_4 hF3_4)).cell (j := 0) rfl) (by simp), ?_⟩
        ((conv=>whnf);repeat(first|(refine mvT ?_;conv=>whnf)|(refine mvF ?_;conv=>whnf)|(refine cT (by rfl) ?_;conv=>whnf)|(refine cF (by rfl) ?_;conv=>whnf)))
        refine Does.mono (AppendInt32_does hA.ob (Nat.le_trans hB hA.size) (by simp only [List.length_append]; omega) _) ?_;rintro r w h;((conv=>whnf);repeat(first|(refine mvT ?_;conv=>whnf)|(refine mvF ?_;conv=>whnf)|(refine cT (by rfl) ?_;conv=>whnf)|(refine cF (by rfl) ?_;conv=>whnf)))
        rw [fixed4_mod (wrap_i32m _)] at h
        replace hA := hA.tr h
        clear h
        generalize hm20 : m19 ++ (fixed (x4).n 4) = m20 at hA
        have hl20 : m20.length = m19.length + (fixed (x4).n 4).length := by rw [← hm20, List.length_append]
        have hfin : m19 ++ (fun x => fixed x.n 4) x4 = m20 := by simp only [← hm20, List.append_assoc, List.nil_append, List.append_nil]
        refine ⟨(i4 + 1, r), ⟨rfl, rfl, rfl, rfl, rfl, rfl, rfl, rfl, rfl, rfl, rfl, rfl, rfl, rfl, rfl, rfl, rfl, inc_eq (by rw [maxLen_eq] at hkm3_4; omega), trivial⟩, ⟨by simp only; omega, ?_⟩, by simp only; omega⟩
        rw [hft, ← List.append_assoc, hm19, hfin]
        exact hA
      have hil : i4 = l3_4.length := by have := of_decide_eq_false h9; simp only at this; omega
      ((conv=>whnf);repeat(first|(refine mvT ?_;conv=>whnf)|(refine mvF ?_;conv=>whnf)|(refine cT (by rfl) ?_;conv=>whnf)|(refine cF (by rfl) ?_;conv=>whnf)))
      rw [hil, hll3_4, List.take_length] at hA
      generalize hm19 : m18 ++ ((lsT (atT x3 4)).flatMap (fun x => fixed x.n 4)) = m19 at hA
      have hl19 : m19.length = m18.length + ((lsT (atT x3 4)).flatMap (fun x => fixed x.n 4)).length := by rw [← hm19, List.length_append]
      refine ⟨_, ld ((hce2_4.ext hA.ext (hFx _ hb2_4 hF2_4)).cell (j := 5) rfl) (by simp <;> omega), ?_⟩; ((conv=>whnf);repeat(first|(refine mvT ?_;conv=>whnf)|(refine mvF ?_;conv=>whnf)|(refine cT (by rfl) ?_;conv=>whnf)|(refine cF (by rfl) ?_;conv=>whnf)))
      have hml3_5 := lsT_len (hok3_.1 5 _ rfl)
      (refine mvB ?_;((conv=>whnf);repeat(first|(refine mvT ?_;conv=>whnf)|(refine mvF ?_;conv=>whnf)|(refine cT (by rfl) ?_;conv=>whnf)|(refine cF (by rfl) ?_;conv=>whnf))))
      refine VC.cutE (fun r => [(1, r), (0, .pointer (some ⟨p, 0, none⟩)), (5, .int .i16 v), (6, .bool fx), (17, .slice (some ⟨b4, o4, none⟩) l4.length k4), (171, .slice (some ⟨b4, o4, none⟩) l4.length k4), (172, .int .i64 l4.length), (173, .int .i64 i2), (19, .pointer (some ⟨b4, o4 + i2 * 22, none⟩)), (26, .slice (some ⟨b2_4, o2_4, none⟩) l2_4.length k2_4), (243, .slice (some ⟨b2_4, o2_4, none⟩) l2_4.length k2_4), (244, .int .i64 l2_4.length), (245, .int .i64 i3), (28, .pointer (some ⟨b2_4, o2_4 + i3 * 8, none⟩)), (36, .slice a3_5 l3_5.length k3_5)]) (fun r w' => Apd w0 B x l (m19 ++ (arA fx (lsT (atT x3 5)).length)) r w') ?_ ?_
      · refine cI (by rfl) (fun hc=>?_) (fun hc=>?_)
        · ((conv=>whnf);repeat(first|(refine mvT ?_;conv=>whnf)|(refine mvF ?_;conv=>whnf)|(refine cT (by rfl) ?_;conv=>whnf)|(refine cF (by rfl) ?_;conv=>whnf)))
          refine Does.mono (AppendCompactArrayLen_does hA.ob (Nat.le_trans hB hA.size) (by simp only [List.length_append]; omega) l3_5.length (by omega)) ?_;rintro r w h;((conv=>whnf);repeat(first|(refine mvT ?_;conv=>whnf)|(refine mvF ?_;conv=>whnf)|(refine cT (by rfl) ?_;conv=>whnf)|(refine cF (by rfl) ?_;conv=>whnf)))
          rw [hll3_5] at h
          replace hA := hA.tr h
          clear h
          refine ⟨_, ⟨rfl, rfl, rfl, rfl, rfl, rfl, rfl, rfl, rfl, rfl, rfl, rfl, rfl, rfl, rfl, trivial⟩, ?_⟩
          rw [hc]
          exact hA
        · ((conv=>whnf);repeat(first|(refine mvT ?_;conv=>whnf)|(refine mvF ?_;conv=>whnf)|(refine cT (by rfl) ?_;conv=>whnf)|(refine cF (by rfl) ?_;conv=>whnf)))
          refine Does.mono (AppendArrayLen_does hA.ob (Nat.le_trans hB hA.size) (by simp only [List.length_append]; omega) l3_5.length) ?_;rintro r w h;((conv=>whnf);repeat(first|(refine mvT ?_;conv=>whnf)|(refine mvF ?_;conv=>whnf)|(refine cT (by rfl) ?_;conv=>whnf)|(refine cF (by rfl) ?_;conv=>whnf)))
          rw [hll3_5] at h
          replace hA := hA.tr h
          clear h
          refine ⟨_, ⟨rfl, rfl, rfl, rfl, rfl, rfl, rfl, rfl, rfl, rfl, rfl, rfl, rfl, rfl, rfl, trivial⟩, ?_⟩
          rw [hc]
          exact hA
      clear hA
      rintro r w hA
      ((conv=>whnf);repeat(first|(refine mvT ?_;conv=>whnf)|(refine mvF ?_;conv=>whnf)|(refine cT (by rfl) ?_;conv=>whnf)|(refine cF (by rfl) ?_;conv=>whnf)))
      generalize hm20 : m19 ++ (arA fx (lsT (atT x3 5)).length) = m20 at hA
      have hl20 : m20.length = m19.length + (arA fx (lsT (atT x3 5)).length).length := by rw [← hm20, List.length_append]
      refine VL.loop (fun s : Nat × Value => [(1, s.2), (0, .pointer (some ⟨p, 0, none⟩)), (5, .int .i16 v), (6, .bool fx), (17, .slice (some ⟨b4, o4, none⟩) l4.length k4), (171, .slice (some ⟨b4, o4, none⟩) l4.length k4), (172, .int .i64 l4.length), (173, .int .i64 i2), (19, .pointer (some ⟨b4, o4 + i2 * 22, none⟩)), (26, .slice (some ⟨b2_4, o2_4, none⟩) l2_4.length k2_4), (243, .slice (some ⟨b2_4, o2_4, none⟩) l2_4.length k2_4), (244, .int .i64 l2_4.length), (245, .int .i64 i3), (28, .pointer (some ⟨b2_4, o2_4 + i3 * 8, none⟩)), (36, .slice a3_5 l3_5.length k3_5), (320, .slice a3_5 l3_5.length k3_5), (321, .int .i64 l3_5.length), (322, .int .i64 s.1)])
        (fun s w' => s.1 ≤ l3_5.length ∧ Apd w0 B x l (m20 ++ ((lsT (atT x3 5)).take s.1).flatMap (fun x => fixed x.n 4)) s.2 w') (fun s => l3_5.length - s.1) (0, r) ⟨rfl, rfl, rfl, rfl, rfl, rfl, rfl, rfl, rfl, rfl, rfl, rfl, rfl, rfl, rfl, rfl, rfl, rfl, trivial⟩ ⟨Nat.zero_le _, by rw [List.take_zero, List.flatMap_nil, List.append_nil]; exact hA⟩ ?_
      clear hA
      rintro ⟨i5, r⟩ w ⟨hi5, hA⟩
      dsimp only at hi5 hA
      ((conv=>whnf);repeat(first|(refine mvT ?_;conv=>whnf)|(refine mvF ?_;conv=>whnf)|(refine cT (by rfl) ?_;conv=>whnf)|(refine cF (by rfl) ?_;conv=>whnf)))
      refine cI (by rfl) (fun h9=>?_) (fun h9=>?_)
      · have hil : i5 < l3_5.length := by have := of_decide_eq_true h9; simp only at this; omega
        have hiL5 : i5 < (lsT (atT x3 5)).length := by omega
        obtain ⟨hft, hfl⟩ := flat_take (fun x => fixed x.n 4) (lsT (atT x3 5)) i5 hiL5
        obtain ⟨b3_5, o3_5, rfl, hF3_5, hb3_5, hce3_5⟩ := hcl3_5 i5 l3_5[i5] (by simp [hil])
        have hre3_5 := hrl3_5 i5 l3_5[i5] ((lsT (atT x3 5))[i5]) (by simp [hil]) (by simp [hiL5])
        have hlo3_5 := lsT_ok (hok3_.1 5 _ rfl) ((lsT (atT x3 5))[i5]) (List.getElem_mem hiL5)
        generalize hm21 : m20 ++ ((lsT (atT x3 5)).take i5).flatMap (fun x => fixed x.n 4) = m21 at hA
        have hl21 : m21.length = m20.length + (((lsT (atT x3 5)).take i5).flatMap (fun x => fixed x.n 4)).length := by rw [← hm21, List.length_append]
        obtain ⟨x5, hx5⟩ : ∃ y, y = (lsT (atT x3 5))[i5] := ⟨_, rfl⟩
        rw [← hx5] at hft hfl hre3_5 hlo3_5
        rw [hre3_5] at hce3_5
        ((conv=>whnf);repeat(first|(refine mvT ?_;conv=>whnf)|(refine mvF ?_;conv=>whnf)|(refine cT (by rfl) ?_;conv=>whnf)|(refine cF (by rfl) ?_;conv=>whnf)))
        refine ⟨b3_5, o3_5, rfl, ⟨by omega, by omega⟩, ?_⟩
        ((conv=>whnf);repeat(first|(refine mvT ?_;conv=>whnf)|(refine mvF ?_;conv=>whnf)|(refine cT (by rfl) ?_;conv=>whnf)|(refine cF (by rfl) ?_;conv=>whnf)))
        refine ⟨_, ld ((hce3_5.ext hA.ext (hFx _ hb3_5 hF3_5)).cell (j := 0) rfl) (by simp), ?_⟩
        ((conv=>whnf);repeat(first|(refine mvT ?_;conv=>whnf)|(refine mvF ?_;conv=>whnf)|(refine cT (by rfl) ?_;conv=>whnf)|(refine cF (by rfl) ?_;conv=>whnf)))
        refine Does.mono (AppendInt32_does hA.ob (Nat.le_trans hB hA.size) (by simp only [List.length_append]; omega) _) ?_;rintro r w h;((conv=>whnf);repeat(first|(refine mvT ?_;conv=>whnf)|(refine mvF ?_;conv=>whnf)|(refine cT (by rfl) ?_;conv=>whnf)|(refine cF (by rfl) ?_;conv=>whnf)))
        rw [fixed4_mod (wrap_i32m _)] at h
        replace hA := hA.tr h
        clear h
        generalize hm22 : m21 ++ (fixed (x5).n 4) = m22 at hA
        have hl22 : m22.length = m21.length + (fixed (x5).n 4).length := by rw [← hm22, List.length_append]
        have hfin : m21 ++ (fun x => fixed x.n 4) x5 = m22 := by simp only [← hm22, List.append_assoc, List.nil_append, List.append_nil]
        refine ⟨(i5 + 1, r), ⟨rfl, rfl, rfl, rfl, rfl, rfl, rfl, rfl, rfl, rfl, rfl, rfl, rfl, rfl, rfl, rfl, rfl, inc_eq (by rw [maxLen_eq] at hkm3_5; omega), trivial⟩, ⟨by simp only; omega, ?_⟩, by simp only; omega⟩
        rw [hft, ← List.append_assoc, hm21, hfin]
        exact hA
      have hil : i5 = l3_5.length := by have := of_decide_eq_false h9; simp only at this; omega
      ((conv=>whnf);repeat(first|(refine mvT ?_;conv=>whnf)|(refine mvF ?_;conv=>whnf)|(refine cT (by rfl) ?_;conv=>whnf)|(refine cF (by rfl) ?_;conv=>whnf)))
      rw [hil, hll3_5, List.take_length] at hA
      generalize hm21 : m20 ++ ((lsT (atT x3 5)).flatMap (fun x => fixed x.n 4)) = m21 at hA
      have hl21 : m21.length = m20.length + ((lsT (atT x3 5)).flatMap (fun x => fixed x.n 4)).length := by rw [← hm21, List.length_append]
      refine VC.cutE (fun r => [(1, r), (0, .pointer (some ⟨p, 0, none⟩)), (5, .int .i16 v), (6, .bool fx), (17, .slice (some ⟨b4, o4, none⟩) l4.length k4), (171, .slice (some ⟨b4, o4, none⟩) l4.length k4), (172, .int .i64 l4.length), (173, .int .i64 i2), (19, .pointer (some ⟨b4, o4 + i2 * 22, none⟩)), (26, .slice (some ⟨b2_4, o2_4, none⟩) l2_4.length k2_4), (243, .slice (some ⟨b2_4, o2_4, none⟩) l2_4.length k2_4), (244, .int .i64 l2_4.length), (245, .int .i64 i3), (28, .pointer (some ⟨b2_4, o2_4 + i3 * 8, none⟩))]) (fun r w' => Apd w0 B x l (m21 ++ ((if (decide (5 ≤ v) && (decide ((-1 : Int) < 0) || decide (v ≤ (-1)))) = true then arA fx (lsT (atT x3 6)).length ++ (lsT (atT x3 6)).flatMap (fun x => fixed x.n 4) else []))) r w') ?_ ?_
      · refine cI (by rfl) (fun hcv=>?_) (fun hcv=>?_)
        · ((conv=>whnf);repeat(first|(refine mvT ?_;conv=>whnf)|(refine mvF ?_;conv=>whnf)|(refine cT (by rfl) ?_;conv=>whnf)|(refine cF (by rfl) ?_;conv=>whnf)))
          refine ⟨_, ld ((hce2_4.ext hA.ext (hFx _ hb2_4 hF2_4)).cell (j := 6) rfl) (by simp <;> omega), ?_⟩; ((conv=>whnf);repeat(first|(refine mvT ?_;conv=>whnf)|(refine mvF ?_;conv=>whnf)|(refine cT (by rfl) ?_;conv=>whnf)|(refine cF (by rfl) ?_;conv=>whnf)))
          have hvl21 : ((if (decide (5 ≤ v) && (decide ((-1 : Int) < 0) || decide (v ≤ (-1)))) = true then arA fx (lsT (atT x3 6)).length ++ (lsT (atT x3 6)).flatMap (fun x => fixed x.n 4) else [])).length = (arA fx (lsT (atT x3 6)).length ++ (lsT (atT x3 6)).flatMap (fun x => fixed x.n 4)).length := by rw [if_pos (by simp only [ge_iff_le, decide_eq_true_eq] at hcv; simp; omega)]
          simp only [List.length_append] at hvl21
          have hml3_6 := lsT_len (hok3_.1 6 _ rfl)
          (refine mvB ?_;((conv=>whnf);repeat(first|(refine mvT ?_;conv=>whnf)|(refine mvF ?_;conv=>whnf)|(refine cT (by rfl) ?_;conv=>whnf)|(refine cF (by rfl) ?_;conv=>whnf))))
          refine VC.cutE (fun r => [(1, r), (0, .pointer (some ⟨p, 0, none⟩)), (5, .int .i16 v), (6, .bool fx), (17, .slice (some ⟨b4, o4, none⟩) l4.length k4), (171, .slice (some ⟨b4, o4, none⟩) l4.length k4), (172, .int .i64 l4.length), (173, .int .i64 i2), (19, .pointer (some ⟨b4, o4 + i2 * 22, none⟩)), (26, .slice (some ⟨b2_4, o2_4, none⟩) l2_4.length k2_4), (243, .slice (some ⟨b2_4, o2_4, none⟩) l2_4.length k2_4), (244, .int .i64 l2_4.length), (245, .int .i64 i3), (28, .pointer (some ⟨b2_4, o2_4 + i3 * 8, none⟩)), (39, .slice a3_6 l3_6.length k3_6)]) (fun r w' => Apd w0 B x l (m21 ++ (arA fx (lsT (atT x3 6)).length)) r w') ?_ ?_
          · refine cI (by rfl) (fun hc=>?_) (fun hc=>?_)
            · ((conv=>whnf);repeat(first|(refine mvT ?_;conv=>whnf)|(refine mvF ?_;conv=>whnf)|(refine cT (by rfl) ?_;conv=>whnf)|(refine cF (by rfl) ?_;conv=>whnf)))
              refine Does.mono (AppendCompactArrayLen_does hA.ob (Nat.le_trans hB hA.size) (by simp only [List.length_append]; omega) l3_6.length (by omega)) ?_;rintro r w h;((conv=>whnf);repeat(first|(refine mvT ?_;conv=>whnf)|(refine mvF ?_;conv=>whnf)|(refine cT (by rfl) ?_;conv=>whnf)|(refine cF (by rfl) ?_;conv=>whnf)))
              rw [hll3_6] at h
              replace hA := hA.tr h
              clear h
              refine ⟨_, ⟨rfl, rfl, rfl, rfl, rfl, rfl, rfl, rfl, rfl, rfl, rfl, rfl, rfl, rfl, rfl, trivial⟩, ?_⟩
              rw [hc]
              exact hA
            · ((conv=>whnf);repeat(first|(refine mvT ?_;conv=>whnf)|(refine mvF ?_;conv=>whnf)|(refine cT (by rfl) ?_;conv=>whnf)|(refine cF (by rfl) ?_;conv=>whnf)))
              refine Does.mono (AppendArrayLen_does hA.ob (Nat.le_trans hB hA.size) (by simp only [List.length_append]; omega) l3_6.length) ?_;rintro r w h;((conv=>whnf);repeat(first|(refine mvT ?_;conv=>whnf)|(refine mvF ?_;conv=>whnf)|(refine cT (by rfl) ?_;conv=>whnf)|(refine cF (by rfl) ?_;conv=>whnf)))
              rw [hll3_6] at h
              replace hA := hA.tr h
              clear h
              refine ⟨_, ⟨rfl, rfl, rfl, rfl, rfl, rfl, rfl, rfl, rfl, rfl, rfl, rfl, rfl, rfl, rfl, trivial⟩, ?_⟩
              rw [hc]
              exact hA
          clear hA
          rintro r w hA
          ((conv=>whnf);repeat(first|(refine mvT ?_;conv=>whnf)|(refine mvF ?_;conv=>whnf)|(refine cT (by rfl) ?_;conv=>whnf)|(refine cF (by rfl) ?_;conv=>whnf)))
          generalize hm22 : m21 ++ (arA fx (lsT (atT x3 6)).length) = m22 at hA
          have hl22 : m22.length = m21.length + (arA fx (lsT (atT x3 6)).length).length := by rw [← hm22, List.length_append]
          refine VL.loop (fun s : Nat × Value => [(1, s.2), (0, .pointer (some ⟨p, 0, none⟩)), (5, .int .i16 v), (6, .bool fx), (17, .slice (some ⟨b4, o4, none⟩) l4.length k4), (171, .slice (some ⟨b4, o4, none⟩) l4.length k4), (172, .int .i64 l4.length), (173, .int .i64 i2), (19, .pointer (some ⟨b4, o4 + i2 * 22, none⟩)), (26, .slice (some ⟨b2_4, o2_4, none⟩) l2_4.length k2_4), (243, .slice (some ⟨b2_4, o2_4, none⟩) l2_4.length k2_4), (244, .int .i64 l2_4.length), (245, .int .i64 i3), (28, .pointer (some ⟨b2_4, o2_4 + i3 * 8, none⟩)), (39, .slice a3_6 l3_6.length k3_6), (348, .slice a3_6 l3_6.length k3_6), (349, .int .i64 l3_6.length), (350, .int .i64 s.1)])
            (fun s w' => s.1 ≤ l3_6.length ∧ Apd w0 B x l (m22 ++ ((lsT (atT x3 6)).take s.1).flatMap (fun x => fixed x.n 4)) s.2 w') (fun s => l3_6.length - s.1) (0, r) ⟨rfl, rfl, rfl, rfl, rfl, rfl, rfl, rfl, rfl, rfl, rfl, rfl, rfl, rfl, rfl, rfl, rfl, rfl, trivial⟩ ⟨Nat.zero_le _, by rw [List.take_zero, List.flatMap_nil, List.append_nil]; exact hA⟩ ?_
          clear hA
          rintro ⟨i6, r⟩ w ⟨hi6, hA⟩
          dsimp only at hi6 hA
          ((conv=>whnf);repeat(first|(refine mvT ?_;conv=>whnf)|(refine mvF ?_;conv=>whnf)|(refine cT (by rfl) ?_;conv=>whnf)|(refine cF (by rfl) ?_;conv=>whnf)))
          refine cI (by rfl) (fun h9=>?_) (fun h9=>?_)
          · have hil : i6 < l3_6.length := by have := of_decide_eq_true h9; simp only at this; omega
            have hiL6 : i6 < (lsT (atT x3 6)).length := by omega
            obtain ⟨hft, hfl⟩ := flat_take (fun x => fixed x.n 4) (lsT (atT x3 6)) i6 hiL6
            obtain ⟨b3_6, o3_6, rfl, hF3_6, hb3_6, hce3_6⟩ := hcl3_6 i6 l3_6[i6] (by simp [hil])
            have hre3_6 := hrl3_6 i6 l3_6[i6] ((lsT (atT x3 6))[i6]) (by simp [hil]) (by simp [hiL6])
            have hlo3_6 := lsT_ok (hok3_.1 6 _ rfl) ((lsT (atT x3 6))[i6]) (List.getElem_mem hiL6)
            generalize hm23 : m22 ++ ((lsT (atT x3 6)).take i6).flatMap (fun x => fixed x.n 4) = m23 at hA
            have hl23 : m23.length = m22.length + (((lsT (atT x3 6)).take i6).flatMap (fun x => fixed x.n 4)).length := by rw [← hm23, List.length_append]
            obtain ⟨x6, hx6⟩ : ∃ y, y = (lsT (atT x3 6))[i6] := ⟨_, rfl⟩
            rw [← hx6] at hft hfl hre3_6 hlo3_6
            rw [hre3_6] at hce3_6
            ((conv=>whnf);repeat(first|(refine mvT ?_;conv=>whnf)|(refine mvF ?_;conv=>whnf)|(refine cT (by rfl) ?_;conv=>whnf)|(refine cF (by rfl) ?_;conv=>whnf)))
            refine ⟨b3_6, o3_6, rfl, ⟨by omega, by omega⟩, ?_⟩
            ((conv=>whnf);repeat(first|(refine mvT ?_;conv=>whnf)|(refine mvF ?_;conv=>whnf)|(refine cT (by rfl) ?_;conv=>whnf)|(refine cF (by rfl) ?_;conv=>whnf)))
            refine ⟨_, ld ((hce3_6.ext hA.ext (hFx _ hb3_6 hF3_6)).cell (j := 0) rfl) (by simp), ?_⟩
            ((conv=>whnf);repeat(first|(refine mvT ?_;conv=>whnf)|(refine mvF ?_;conv=>whnf)|(refine cT (by rfl) ?_;conv=>whnf)|(refine cF (by rfl) ?_;conv=>whnf)))
            refine Does.mono (AppendInt32_does hA.ob (Nat.le_trans hB hA.size) (by simp only [List.length_append]; omega) _) ?_;rintro r w h;((conv=>whnf);repeat(first|(refine mvT ?_;conv=>whnf)|(refine mvF ?_;conv=>whnf)|(refine cT (by rfl) ?_;conv=>whnf)|(refine cF (by rfl) ?_;conv=>whnf)))
            rw [fixed4_mod (wrap_i32m _)] at h
            replace hA := hA.tr h
            clear h
            generalize hm24 : m23 ++ (fixed (x6).n 4) = m24 at hA
            have hl24 : m24.length = m23.length + (fixed (x6).n 4).length := by rw [← hm24, List.length_append]
            have hfin : m23 ++ (fun x => fixed x.n 4) x6 = m24 := by simp only [← hm24, List.append_assoc, List.nil_append, List.append_nil]
            refine ⟨(i6 + 1, r), ⟨rfl, rfl, rfl, rfl, rfl, rfl, rfl, rfl, rfl, rfl, rfl, rfl, rfl, rfl, rfl, rfl, rfl, inc_eq (by rw [maxLen_eq] at hkm3_6; omega), trivial⟩, ⟨by simp only; omega, ?_⟩, by simp only; omega⟩
            rw [hft, ← List.append_assoc, hm23, hfin]
            exact hA
          have hil : i6 = l3_6.length := by have := of_decide_eq_false h9; simp only at this; omega
          ((conv=>whnf);repeat(first|(refine mvT ?_;conv=>whnf)|(refine mvF ?_;conv=>whnf)|(refine cT (by rfl) ?_;conv=>whnf)|(refine cF (by rfl) ?_;conv=>whnf)))
          rw [hil, hll3_6, List.take_length] at hA
          generalize hm23 : m22 ++ ((lsT (atT x3 6)).flatMap (fun x => fixed x.n 4)) = m23 at hA
          have hl23 : m23.length = m22.length + ((lsT (atT x3 6)).flatMap (fun x => fixed x.n 4)).length := by rw [← hm23, List.length_append]
          refine ⟨_, ⟨rfl, rfl, rfl, rfl, rfl, rfl, rfl, rfl, rfl, rfl, rfl, rfl, rfl, rfl, trivial⟩, ?_⟩
          rw [if_pos (by simp only [ge_iff_le, decide_eq_true_eq] at hcv; simp; omega)]
          rw [show m21 ++ (arA fx (lsT (atT x3 6)).length ++ (lsT (atT x3 6)).flatMap (fun x => fixed x.n 4)) = m23 by simp only [← hm23, ← hm22, List.append_assoc]]
          exact hA
        · ((conv=>whnf);repeat(first|(refine mvT ?_;conv=>whnf)|(refine mvF ?_;conv=>whnf)|(refine cT (by rfl) ?_;conv=>whnf)|(refine cF (by rfl) ?_;conv=>whnf)))
          refine ⟨_, ⟨rfl, rfl, rfl, rfl, rfl, rfl, rfl, rfl, rfl, rfl, rfl, rfl, rfl, rfl, trivial⟩, ?_⟩
          rw [if_neg (by simp only [ge_iff_le, decide_eq_false_iff_not] at hcv; simp; omega), List.append_nil]
          exact hA
      clear hA
      rintro r w hA
      ((conv=>whnf);repeat(first|(refine mvT ?_;conv=>whnf)|(refine mvF ?_;conv=>whnf)|(refine cT (by rfl) ?_;conv=>whnf)|(refine cF (by rfl) ?_;conv=>whnf)))
      generalize hm22 : m21 ++ ((if (decide (5 ≤ v) && (decide ((-1 : Int) < 0) || decide (v ≤ (-1)))) = true then arA fx (lsT (atT x3 6)).length ++ (lsT (atT x3 6)).flatMap (fun x => fixed x.n 4) else [])) = m22 at hA
      have hl22 : m22.length = m21.length + ((if (decide (5 ≤ v) && (decide ((-1 : Int) < 0) || decide (v ≤ (-1)))) = true then arA fx (lsT (atT x3 6)).length ++ (lsT (atT x3 6)).flatMap (fun x => fixed x.n 4) else [])).length := by rw [← hm22, List.length_append]
      (refine mvB ?_;((conv=>whnf);repeat(first|(refine mvT ?_;conv=>whnf)|(refine mvF ?_;conv=>whnf)|(refine cT (by rfl) ?_;conv=>whnf)|(refine cF (by rfl) ?_;conv=>whnf))))
      refine VC.cutB (fun r => [(1, r), (0, .pointer (some ⟨p, 0, none⟩)), (5, .int .i16 v), (6, .bool fx), (17, .slice (some ⟨b4, o4, none⟩) l4.length k4), (171, .slice (some ⟨b4, o4, none⟩) l4.length k4), (172, .int .i64 l4.length), (173, .int .i64 i2), (19, .pointer (some ⟨b4, o4 + i2 * 22, none⟩)), (26, .slice (some ⟨b2_4, o2_4, none⟩) l2_4.length k2_4), (243, .slice (some ⟨b2_4, o2_4, none⟩) l2_4.length k2_4), (244, .int .i64 l2_4.length), (245, .int .i64 i3), (28, .pointer (some ⟨b2_4, o2_4 + i3 * 8, none⟩))]) (fun r w' => Apd w0 B x l (m22 ++ (tgsB fx (x3).u)) r w') ?_ ?_
      · refine cI (by rfl) (fun hc=>?_) (fun hc=>?_)
        · ((conv=>whnf);repeat(first|(refine mvT ?_;conv=>whnf)|(refine mvF ?_;conv=>whnf)|(refine cT (by rfl) ?_;conv=>whnf)|(refine cF (by rfl) ?_;conv=>whnf)))
          have hul := hok3_.2.len
          refine Does.mono (Tags_Len_does (ld ((hce2_4.ext hA.ext (hFx _ hb2_4 hF2_4)).cell (j := 7) rfl) (by simp <;> omega)) (hm3_.ext hA.ext hFx)) ?_;rintro r w ⟨rfl, rfl⟩;((conv=>whnf);repeat(first|(refine mvT ?_;conv=>whnf)|(refine mvF ?_;conv=>whnf)|(refine cT (by rfl) ?_;conv=>whnf)|(refine cF (by rfl) ?_;conv=>whnf)))
          rw [u32_add0 (by omega)]
          refine Does.mono (AppendUvarint_does hA.ob (Nat.le_trans hB hA.size) (x3).u.length (by omega) (by simp only [List.length_append]; omega)) ?_;rintro r w h;((conv=>whnf);repeat(first|(refine mvT ?_;conv=>whnf)|(refine mvF ?_;conv=>whnf)|(refine cT (by rfl) ?_;conv=>whnf)|(refine cF (by rfl) ?_;conv=>whnf)))
          have hul2 := uvar10 (n := (x3).u.length) (by omega)
          replace hA := hA.tr h
          clear h
          refine Does.mono (AppendEach_does (ld ((hce2_4.ext hA.ext (hFx _ hb2_4 hF2_4)).cell (j := 7) rfl) (by simp <;> omega)) (hm3_.ext hA.ext hFx) hok3_.2 hA.ob (Nat.le_trans hB hA.size) (hA.ne (hFR _ hF2_4).2 (hFR _ hF2_4).1) (fun j _ hf => hA.ne (hFR j hf).2 (hFR j hf).1) (by simp only [List.length_append]; omega)) ?_;rintro r w h;((conv=>whnf);repeat(first|(refine mvT ?_;conv=>whnf)|(refine mvF ?_;conv=>whnf)|(refine cT (by rfl) ?_;conv=>whnf)|(refine cF (by rfl) ?_;conv=>whnf)))
          replace hA := hA.tr h
          clear h
          refine ⟨_, ⟨rfl, rfl, rfl, rfl, rfl, rfl, rfl, rfl, rfl, rfl, rfl, rfl, rfl, rfl, trivial⟩, ?_⟩
          rw [tgsB, if_pos hc, ← List.append_assoc]
          exact hA
        · ((conv=>whnf);repeat(first|(refine mvT ?_;conv=>whnf)|(refine mvF ?_;conv=>whnf)|(refine cT (by rfl) ?_;conv=>whnf)|(refine cF (by rfl) ?_;conv=>whnf)))
          refine ⟨_, ⟨rfl, rfl, rfl, rfl, rfl, rfl, rfl, rfl, rfl, rfl, rfl, rfl, rfl, rfl, trivial⟩, ?_⟩
          rw [tgsB, if_neg (by rw [hc]; decide), List.append_nil]
          exact hA
      clear hA
      rintro r w hA
      ((conv=>whnf);repeat(first|(refine mvT ?_;conv=>whnf)|(refine mvF ?_;conv=>whnf)|(refine cT (by rfl) ?_;conv=>whnf)|(refine cF (by rfl) ?_;conv=>whnf)))
      generalize hm23 : m22 ++ (tgsB fx (x3).u) = m23 at hA
      have hl23 : m23.length = m22.length + (tgsB fx (x3).u).length := by rw [← hm23, List.length_append]
      have hfin : m13 ++ (bMetadataResponseTopicPartition v fx) x3 = m23 := by unfold bMetadataResponseTopicPartition; simp only [← hm23, ← hm22, ← hm21, ← hm20, ← hm19, ← hm18, ← hm17, ← hm16, ← hm15, ← hm14, List.append_assoc, List.nil_append, List.append_nil]
      refine ⟨(i3 + 1, r), ⟨rfl, rfl, rfl, rfl, rfl, rfl, rfl, rfl, rfl, rfl, rfl, rfl, inc_eq (by rw [maxLen_eq] at hkm2_4; omega), trivial⟩, ⟨by simp only; omega, ?_⟩, by simp only; omega⟩
      rw [hft, ← List.append_assoc, hm13, hfin]
      exact hA
    have hil : i3 = l2_4.length := by have := of_decide_eq_false h9; simp only at this; omega
    ((conv=>whnf);repeat(first|(refine mvT ?_;conv=>whnf)|(refine mvF ?_;conv=>whnf)|(refine cT (by rfl) ?_;conv=>whnf)|(refine cF (by rfl) ?_;conv=>whnf)))
    rw [hil, hll2_4, List.take_length] at hA
    generalize hm13 : m12 ++ ((lsT (atT x2 4)).flatMap (bMetadataResponseTopicPartition v fx)) = m13 at hA
    have hl13 : m13.length = m12.length + ((lsT (atT x2 4)).flatMap (bMetadataResponseTopicPartition v fx)).length := by rw [← hm13, List.length_append]
    refine VC.cutE (fun r => [(1, r), (0, .pointer (some ⟨p, 0, none⟩)), (5, .int .i16 v), (6, .bool fx), (17, .slice (some ⟨b4, o4, none⟩) l4.length k4), (171, .slice (some ⟨b4, o4, none⟩) l4.length k4), (172, .int .i64 l4.length), (173, .int .i64 i2), (19, .pointer (some ⟨b4, o4 + i2 * 22, none⟩))]) (fun r w' => Apd w0 B x l (m13 ++ ((if (decide (8 ≤ v) && (decide ((-1 : Int) < 0) || decide (v ≤ (-1)))) = true then fixed (atT x2 5).n 4 else []))) r w') ?_ ?_
    · refine cI (by rfl) (fun hcv=>?_) (fun hcv=>?_)
      · ((conv=>whnf);repeat(first|(refine mvT ?_;conv=>whnf)|(refine mvF ?_;conv=>whnf)|(refine cT (by rfl) ?_;conv=>whnf)|(refine cF (by rfl) ?_;conv=>whnf)))
        refine ⟨_, ld ((hce4.ext hA.ext (hFx _ hb4 hF4)).cell (j := 20) rfl) (by simp <;> omega), ?_⟩; ((conv=>whnf);repeat(first|(refine mvT ?_;conv=>whnf)|(refine mvF ?_;conv=>whnf)|(refine cT (by rfl) ?_;conv=>whnf)|(refine cF (by rfl) ?_;conv=>whnf)))
        refine Does.mono (AppendInt32_does hA.ob (Nat.le_trans hB hA.size) (by simp only [List.length_append]; omega) _) ?_;rintro r w h;((conv=>whnf);repeat(first|(refine mvT ?_;conv=>whnf)|(refine mvF ?_;conv=>whnf)|(refine cT (by rfl) ?_;conv=>whnf)|(refine cF (by rfl) ?_;conv=>whnf)))
        rw [fixed4_mod (wrap_i32m _)] at h
        replace hA := hA.tr h
        clear h
        generalize hm14 : m13 ++ (fixed (atT x2 5).n 4) = m14 at hA
        have hl14 : m14.length = m13.length + (fixed (atT x2 5).n 4).length := by rw [← hm14, List.length_append]
        refine ⟨_, ⟨rfl, rfl, rfl, rfl, rfl, rfl, rfl, rfl, rfl, trivial⟩, ?_⟩
        rw [if_pos (by simp only [ge_iff_le, decide_eq_true_eq] at hcv; simp; omega)]
        rw [hm14]
        exact hA
      · ((conv=>whnf);repeat(first|(refine mvT ?_;conv=>whnf)|(refine mvF ?_;conv=>whnf)|(refine cT (by rfl) ?_;conv=>whnf)|(refine cF (by rfl) ?_;conv=>whnf)))
        refine ⟨_, ⟨rfl, rfl, rfl, rfl, rfl, rfl, rfl, rfl, rfl, trivial⟩, ?_⟩
        rw [if_neg (by simp only [ge_iff_le, decide_eq_false_iff_not] at hcv; simp; omega), List.append_nil]
        exact hA
    clear hA
    rintro r w hA
    ((conv=>whnf);repeat(first|(refine mvT ?_;conv=>whnf)|(refine mvF ?_;conv=>whnf)|(refine cT (by rfl) ?_;conv=>whnf)|(refine cF (by rfl) ?_;conv=>whnf)))
    generalize hm14 : m13 ++ ((if (decide (8 ≤ v) && (decide ((-1 : Int) < 0) || decide (v ≤ (-1)))) = true then fixed (atT x2 5).n 4 else [])) = m14 at hA
    have hl14 : m14.length = m13.length + ((if (decide (8 ≤ v) && (decide ((-1 : Int) < 0) || decide (v ≤ (-1)))) = true then fixed (atT x2 5).n 4 else [])).length := by rw [← hm14, List.length_append]
    (refine mvB ?_;((conv=>whnf);repeat(first|(refine mvT ?_;conv=>whnf)|(refine mvF ?_;conv=>whnf)|(refine cT (by rfl) ?_;conv=>whnf)|(refine cF (by rfl) ?_;conv=>whnf))))
    refine VC.cutB (fun r => [(1, r), (0, .pointer (some ⟨p, 0, none⟩)), (5, .int .i16 v), (6, .bool fx), (17, .slice (some ⟨b4, o4, none⟩) l4.length k4), (171, .slice (some ⟨b4, o4, none⟩) l4.length k4), (172, .int .i64 l4.length), (173, .int .i64 i2), (19, .pointer (some ⟨b4, o4 + i2 * 22, none⟩))]) (fun r w' => Apd w0 B x l (m14 ++ (tgsB fx (x2).u)) r w') ?_ ?_
    · refine cI (by rfl) (fun hc=>?_) (fun hc=>?_)
      · ((conv=>whnf);repeat(first|(refine mvT ?_;conv=>whnf)|(refine mvF ?_;conv=>whnf)|(refine cT (by rfl) ?_;conv=>whnf)|(refine cF (by rfl) ?_;conv=>whnf)))
        have hul := hok2_.2.len
        refine Does.mono (Tags_Len_does (ld ((hce4.ext hA.ext (hFx _ hb4 hF4)).cell (j := 21) rfl) (by simp <;> omega)) (hm2_.ext hA.ext hFx)) ?_;rintro r w ⟨rfl, rfl⟩;((conv=>whnf);repeat(first|(refine mvT ?_;conv=>whnf)|(refine mvF ?_;conv=>whnf)|(refine cT (by rfl) ?_;conv=>whnf)|(refine cF (by rfl) ?_;conv=>whnf)))
        rw [u32_add0 (by omega)]
        refine Does.mono (AppendUvarint_does hA.ob (Nat.le_trans hB hA.size) (x2).u.length (by omega) (by simp only [List.length_append]; omega)) ?_;rintro r w h;((conv=>whnf);repeat(first|(refine mvT ?_;conv=>whnf)|(refine mvF ?_;conv=>whnf)|(refine cT (by rfl) ?_;conv=>whnf)|(refine cF (by rfl) ?_;conv=>whnf)))
        have hul2 := uvar10 (n := (x2).u.length) (by omega)
        replace hA := hA.tr h
        clear h
        refine Does.mono (AppendEach_does (ld ((hce4.ext hA.ext (hFx _ hb4 hF4)).cell (j := 21) rfl) (by simp <;> omega)) (hm2_.ext hA.ext hFx) hok2_.2 hA.ob (Nat.le_trans hB hA.size) (hA.ne (hFR _ hF4).2 (hFR _ hF4).1) (fun j _ hf => hA.ne (hFR j hf).2 (hFR j hf).1) (by simp only [List.length_append]; omega)) ?_;rintro r w h;((conv=>whnf);repeat(first|(refine mvT ?_;conv=>whnf)|(refine mvF ?_;conv=>whnf)|(refine cT (by rfl) ?_;conv=>whnf)|(refine cF (by rfl) ?_;conv=>whnf)))
        replace hA := hA.tr h
        clear h
        refine ⟨_, ⟨rfl, rfl, rfl, rfl, rfl, rfl, rfl, rfl, rfl, trivial⟩, ?_⟩
        rw [tgsB, if_pos hc, ← List.append_assoc]
        exact hA
      · ((conv=>whnf);repeat(first|(refine mvT ?_;conv=>whnf)|(refine mvF ?_;conv=>whnf)|(refine cT (by rfl) ?_;conv=>whnf)|(refine cF (by rfl) ?_;conv=>whnf)))
        refine ⟨_, ⟨rfl, rfl, rfl, rfl, rfl, rfl, rfl, rfl, rfl, trivial⟩, ?_⟩
        rw [tgsB, if_neg (by rw [hc]; decide), List.append_nil]
        exact hA
    clear hA
    rintro r w hA
    ((conv=>whnf);repeat(first|(refine mvT ?_;conv=>whnf)|(refine mvF ?_;conv=>whnf)|(refine cT (by rfl) ?_;conv=>whnf)|(refine cF (by rfl) ?_;conv=>whnf)))
    generalize hm15 : m14 ++ (tgsB fx (x2).u) = m15 at hA
    have hl15 : m15.length = m14.length + (tgsB fx (x2).u).length := by rw [← hm15, List.length_append]
    have hfin : m7 ++ (bMetadataResponseTopic v fx) x2 = m15 := by unfold bMetadataResponseTopic; simp only [← hm15, ← hm14, ← hm13, ← hm12, ← hm11, ← hm10, ← hm9, ← hm8, List.append_assoc, List.nil_append, List.append_nil]
    refine ⟨(i2 + 1, r), ⟨rfl, rfl, rfl, rfl, rfl, rfl, rfl, inc_eq (by rw [maxLen_eq] at hkm4; omega), trivial⟩, ⟨by simp only; omega, ?_⟩, by simp only; omega⟩
    rw [hft, ← List.append_assoc, hm7, hfin]
    exact hA
  have hil : i2 = l4.length := by have := of_decide_eq_false h9; simp only at this; omega
  ((conv=>whnf);repeat(first|(refine mvT ?_;conv=>whnf)|(refine mvF ?_;conv=>whnf)|(refine cT (by rfl) ?_;conv=>whnf)|(refine cF (by rfl) ?_;conv=>whnf)))
  rw [hil, hll4, List.take_length] at hA
  generalize hm7 : m6 ++ ((lsT (atT t 4)).flatMap (bMetadataResponseTopic v fx)) = m7 at hA
  have hl7 : m7.length = m6.length + ((lsT (atT t 4)).flatMap (bMetadataResponseTopic v fx)).length := by rw [← hm7, List.length_append]
  apply mvG
  rotate_left
  · intro rest cq hcq
    cases cq
    · conv => whnf
      refine VC.cutE (fun r => [(1, r), (0, .pointer (some ⟨p, 0, none⟩)), (5, .int .i16 v), (6, .bool fx)]) (fun r w' => Apd w0 B x l (m7 ++ ((if (decide (8 ≤ v) && (decide ((10 : Int) < 0) || decide (v ≤ 10))) = true then fixed (atT t 5).n 4 else []))) r w') ?_ rest
      have hcv := hcq
      ((conv=>whnf);repeat(first|(refine mvT ?_;conv=>whnf)|(refine mvF ?_;conv=>whnf)|(refine cT (by rfl) ?_;conv=>whnf)|(refine cF (by rfl) ?_;conv=>whnf)))
      refine ⟨_, ⟨rfl, rfl, rfl, rfl, trivial⟩, ?_⟩
      rw [if_neg (by simp only [ge_iff_le, decide_eq_false_iff_not] at hcv; simp; omega), List.append_nil]
      exact hA
    · conv => whnf
      refine VC.cutE (fun r => [(1, r), (0, .pointer (some ⟨p, 0, none⟩)), (5, .int .i16 v), (6, .bool fx)]) (fun r w' => Apd w0 B x l (m7 ++ ((if (decide (8 ≤ v) && (decide ((10 : Int) < 0) || decide (v ≤ 10))) = true then fixed (atT t 5).n 4 else []))) r w') ?_ rest
      refine cI (by rfl) (fun hcv=>?_) (fun hcv=>?_)
      · ((conv=>whnf);repeat(first|(refine mvT ?_;conv=>whnf)|(refine mvF ?_;conv=>whnf)|(refine cT (by rfl) ?_;conv=>whnf)|(refine cF (by rfl) ?_;conv=>whnf)))
        refine ldS ((hp.ext hA.ext hxp).cell rfl) ?_;((conv=>whnf);repeat(first|(refine mvT ?_;conv=>whnf)|(refine mvF ?_;conv=>whnf)|(refine cT (by rfl) ?_;conv=>whnf)|(refine cF (by rfl) ?_;conv=>whnf)))
        refine Does.mono (AppendInt32_does hA.ob (Nat.le_trans hB hA.size) (by simp only [List.length_append]; omega) _) ?_;rintro r w h;((conv=>whnf);repeat(first|(refine mvT ?_;conv=>whnf)|(refine mvF ?_;conv=>whnf)|(refine cT (by rfl) ?_;conv=>whnf)|(refine cF (by rfl) ?_;conv=>whnf)))
        rw [fixed4_mod (wrap_i32m _)] at h
        replace hA := hA.tr h
        clear h
        generalize hm8 : m7 ++ (fixed (atT t 5).n 4) = m8 at hA
        have hl8 : m8.length = m7.length + (fixed (atT t 5).n 4).length := by rw [← hm8, List.length_append]
        refine ⟨_, ⟨rfl, rfl, rfl, rfl, trivial⟩, ?_⟩
        rw [if_pos (by simp only [ge_iff_le, decide_eq_true_eq] at hcv hcq; simp; omega)]
        rw [hm8]
        exact hA
      · ((conv=>whnf);repeat(first|(refine mvT ?_;conv=>whnf)|(refine mvF ?_;conv=>whnf)|(refine cT (by rfl) ?_;conv=>whnf)|(refine cF (by rfl) ?_;conv=>whnf)))
        refine ⟨_, ⟨rfl, rfl, rfl, rfl, trivial⟩, ?_⟩
        rw [if_neg (by simp only [ge_iff_le, decide_eq_false_iff_not] at hcv; simp; omega), List.append_nil]
        exact hA
  clear hA
  rintro r w hA
  ((conv=>whnf);repeat(first|(refine mvT ?_;conv=>whnf)|(refine mvF ?_;conv=>whnf)|(refine cT (by rfl) ?_;conv=>whnf)|(refine cF (by rfl) ?_;conv=>whnf)))
  generalize hm8 : m7 ++ ((if (decide (8 ≤ v) && (decide ((10 : Int) < 0) || decide (v ≤ 10))) = true then fixed (atT t 5).n 4 else [])) = m8 at hA
  have hl8 : m8.length = m7.length + ((if (decide (8 ≤ v) && (decide ((10 : Int) < 0) || decide (v ≤ 10))) = true then fixed (atT t 5).n 4 else [])).length := by rw [← hm8, List.length_append]
  refine VC.cutE (fun r => [(1, r), (0, .pointer (some ⟨p, 0, none⟩)), (5, .int .i16 v), (6, .bool fx)]) (fun r w' => Apd w0 B x l (m8 ++ ((if (decide (13 ≤ v) && (decide ((-1 : Int) < 0) || decide (v ≤ (-1)))) = true then fixed (atT t 6).n 2 else []))) r w') ?_ ?_
  · refine cI (by rfl) (fun hcv=>?_) (fun hcv=>?_)
    · ((conv=>whnf);repeat(first|(refine mvT ?_;conv=>whnf)|(refine mvF ?_;conv=>whnf)|(refine cT (by rfl) ?_;conv=>whnf)|(refine cF (by rfl) ?_;conv=>whnf)))
      refine ldS ((hp.ext hA.ext hxp).cell rfl) ?_;((conv=>whnf);repeat(first|(refine mvT ?_;conv=>whnf)|(refine mvF ?_;conv=>whnf)|(refine cT (by rfl) ?_;conv=>whnf)|(refine cF (by rfl) ?_;conv=>whnf)))
      refine Does.mono (AppendInt16_does hA.ob (Nat.le_trans hB hA.size) (by simp only [List.length_append]; omega) _) ?_;rintro r w h;((conv=>whnf);repeat(first|(refine mvT ?_;conv=>whnf)|(refine mvF ?_;conv=>whnf)|(refine cT (by rfl) ?_;conv=>whnf)|(refine cF (by rfl) ?_;conv=>whnf)))
      rw [fixed2_mod (wrap_i16m _)] at h
      replace hA := hA.tr h
      clear h
      generalize hm9 : m8 ++ (fixed (atT t 6).n 2) = m9 at hA
      have hl9 : m9.length = m8.length + (fixed (atT t 6).n 2).length := by rw [← hm9, List.length_append]
      refine ⟨_, ⟨rfl, rfl, rfl, rfl, trivial⟩, ?_⟩
      rw [if_pos (by simp only [ge_iff_le, decide_eq_true_eq] at hcv; simp; omega)]
      rw [hm9]
      exact hA
    · ((conv=>whnf);repeat(first|(refine mvT ?_;conv=>whnf)|(refine mvF ?_;conv=>whnf)|(refine cT (by rfl) ?_;conv=>whnf)|(refine cF (by rfl) ?_;conv=>whnf)))
      refine ⟨_, ⟨rfl, rfl, rfl, rfl, trivial⟩, ?_⟩
      rw [if_neg (by simp only [ge_iff_le, decide_eq_false_iff_not] at hcv; simp; omega), List.append_nil]
      exact hA
  clear hA
  rintro r w hA
  ((conv=>whnf);repeat(first|(refine mvT ?_;conv=>whnf)|(refine mvF ?_;conv=>whnf)|(refine cT (by rfl) ?_;conv=>whnf)|(refine cF (by rfl) ?_;conv=>whnf)))
  generalize hm9 : m8 ++ ((if (decide (13 ≤ v) && (decide ((-1 : Int) < 0) || decide (v ≤ (-1)))) = true then fixed (atT t 6).n 2 else [])) = m9 at hA
  have hl9 : m9.length = m8.length + ((if (decide (13 ≤ v) && (decide ((-1 : Int) < 0) || decide (v ≤ (-1)))) = true then fixed (atT t 6).n 2 else [])).length := by rw [← hm9, List.length_append]
  (refine mvB ?_;((conv=>whnf);repeat(first|(refine mvT ?_;conv=>whnf)|(refine mvF ?_;conv=>whnf)|(refine cT (by rfl) ?_;conv=>whnf)|(refine cF (by rfl) ?_;conv=>whnf))))
  refine VC.cutE (fun r => [(1, r), (0, .pointer (some ⟨p, 0, none⟩)), (5, .int .i16 v), (6, .bool fx)]) (fun r w' => Apd w0 B x l (m9 ++ (tgsB fx (t).u)) r w') ?_ ?_
  · refine cI (by rfl) (fun hc=>?_) (fun hc=>?_)
    · ((conv=>whnf);repeat(first|(refine mvT ?_;conv=>whnf)|(refine mvF ?_;conv=>whnf)|(refine cT (by rfl) ?_;conv=>whnf)|(refine cF (by rfl) ?_;conv=>whnf)))
      have hul := hok.2.len
      refine Does.mono (Tags_Len_does ((hp.ext hA.ext hxp).cell rfl) (hm.ext hA.ext hFx)) ?_;rintro r w ⟨rfl, rfl⟩;((conv=>whnf);repeat(first|(refine mvT ?_;conv=>whnf)|(refine mvF ?_;conv=>whnf)|(refine cT (by rfl) ?_;conv=>whnf)|(refine cF (by rfl) ?_;conv=>whnf)))
      rw [u32_add0 (by omega)]
      refine Does.mono (AppendUvarint_does hA.ob (Nat.le_trans hB hA.size) (t).u.length (by omega) (by simp only [List.length_append]; omega)) ?_;rintro r w h;((conv=>whnf);repeat(first|(refine mvT ?_;conv=>whnf)|(refine mvF ?_;conv=>whnf)|(refine cT (by rfl) ?_;conv=>whnf)|(refine cF (by rfl) ?_;conv=>whnf)))
      have hul2 := uvar10 (n := (t).u.length) (by omega)
      replace hA := hA.tr h
      clear h
      refine Does.mono (AppendEach_does ((hp.ext hA.ext hxp).cell rfl) (hm.ext hA.ext hFx) hok.2 hA.ob (Nat.le_trans hB hA.size) (hA.ne hxp hpl) (fun j _ hf => hA.ne (hFR j hf).2 (hFR j hf).1) (by simp only [List.length_append]; omega)) ?_;rintro r w h;((conv=>whnf);repeat(first|(refine mvT ?_;conv=>whnf)|(refine mvF ?_;conv=>whnf)|(refine cT (by rfl) ?_;conv=>whnf)|(refine cF (by rfl) ?_;conv=>whnf)))
      replace hA := hA.tr h
      clear h
      refine ⟨_, ⟨rfl, rfl, rfl, rfl, trivial⟩, ?_⟩
      rw [tgsB, if_pos hc, ← List.append_assoc]
      exact hA
    · ((conv=>whnf);repeat(first|(refine mvT ?_;conv=>whnf)|(refine mvF ?_;conv=>whnf)|(refine cT (by rfl) ?_;conv=>whnf)|(refine cF (by rfl) ?_;conv=>whnf)))
      refine ⟨_, ⟨rfl, rfl, rfl, rfl, trivial⟩, ?_⟩
      rw [tgsB, if_neg (by rw [hc]; decide), List.append_nil]
      exact hA
  clear hA
  rintro r w hA
  ((conv=>whnf);repeat(first|(refine mvT ?_;conv=>whnf)|(refine mvF ?_;conv=>whnf)|(refine cT (by rfl) ?_;conv=>whnf)|(refine cF (by rfl) ?_;conv=>whnf)))
  generalize hm10 : m9 ++ (tgsB fx (t).u) = m10 at hA
  have hl10 : m10.length = m9.length + (tgsB fx (t).u).length := by rw [← hm10, List.length_append]
  show Apd w0 B x l _ r w
  rw [show bMetadataResponse v fx t = m10 by unfold bMetadataResponse; simp only [← hm10, ← hm9, ← hm8, ← hm7, ← hm6, ← hm5, ← hm4, ← hm3, ← hm2, ← hm1, hm0, List.append_assoc, List.nil_append, List.append_nil]]
  exact hA
theorem makeMetadataResponse {F : Nat → Prop} {w : World} {v : Int} {x : Value} {t : T} (ht : Tr w F x t) (hok : partOK 9 v dMetadataResponse t) (hv : 0 ≤ v) (hv2 : v < 32768) (hl : (bMetadataResponse v (decide (v ≥ 9)) t).length ≤ 100000000000000) :
    Does X.P 9 #[.int .i64 v, x] w fun r w' => OB w' w.heap.size r (bMetadataResponse v (decide (v ≥ 9)) t) ∧ Ext nob w w' := by
  have htm := ht.mono (F' := fun k => k < w.heap.size) fun k h1 h2 => h1
  clear ht
  obtain ⟨sv, lv, uv, ls, rfl, _⟩ := htm.open
  have hv16 : IntKind.i16.wrap v = v := by
    simp only [IntKind.wrap, IntKind.bits, IntKind.signed]
    simp
    omega
  refine Does.go (X := X) (l := [_, _]) Tryz.func9 rfl (by kernel_rfl) (by kernel_rfl) _ rfl ?_
  ((conv=>whnf);repeat(first|(refine mvT ?_;conv=>whnf)|(refine mvF ?_;conv=>whnf)|(refine cT (by rfl) ?_;conv=>whnf)|(refine cF (by rfl) ?_;conv=>whnf)))
  intro b w1 hb ho hx
  ((conv=>whnf);repeat(first|(refine mvT ?_;conv=>whnf)|(refine mvF ?_;conv=>whnf)|(refine cT (by rfl) ?_;conv=>whnf)|(refine cF (by rfl) ?_;conv=>whnf)))
  intro p w2 hp hop hx2
  have hx02 := hx.e0 hx2
  have hwp : w.heap.size ≤ p := by have := hx.size; omega
  ((conv=>whnf);repeat(first|(refine mvT ?_;conv=>whnf)|(refine mvF ?_;conv=>whnf)|(refine cT (by rfl) ?_;conv=>whnf)|(refine cF (by rfl) ?_;conv=>whnf)))
  have hset : Does X.P 18 #[.pointer (some ⟨p, 0, none⟩), .int .i16 (IntKind.i16.wrap v)] w2 fun r w' => Own w' p 59 [.int .i16 v, .int .i32 0, .slice none 0 0, .pointer none, .int .i32 0, .slice none 0 0, .int .i32 0, .int .i16 0, .map none] ∧ Ext (fun k => k = p) w2 w' := by
    rw [hv16]
    refine Does.go (X := X) (l := [_, _]) Tryz.func18 rfl (by kernel_rfl) (by kernel_rfl) _ rfl ?_
    ((conv=>whnf);repeat(first|(refine mvT ?_;conv=>whnf)|(refine mvF ?_;conv=>whnf)|(refine cT (by rfl) ?_;conv=>whnf)|(refine cF (by rfl) ?_;conv=>whnf)))
    refine ⟨_, _, hop, rfl, rfl, rfl, ?_⟩
    intro w3 ho3 hx3
    ((conv=>whnf);repeat(first|(refine mvT ?_;conv=>whnf)|(refine mvF ?_;conv=>whnf)|(refine cT (by rfl) ?_;conv=>whnf)|(refine cF (by rfl) ?_;conv=>whnf)))
    exact ⟨ho3, hx3⟩
  refine Does.mono (hset) ?_;rintro r3 w3 ⟨hop3, hx3⟩;((conv=>whnf);repeat(first|(refine mvT ?_;conv=>whnf)|(refine mvF ?_;conv=>whnf)|(refine cT (by rfl) ?_;conv=>whnf)|(refine cF (by rfl) ?_;conv=>whnf)))
  have hx03 := hx02.st hx3 hwp
  have hpb : p ≠ b := by have := ho.lt; omega
  refine ⟨_, rfl, ((ho.e0 hx2).ext hx3 fun h => hpb h.symm).cells, ?_⟩
  ((conv=>whnf);repeat(first|(refine mvT ?_;conv=>whnf)|(refine mvF ?_;conv=>whnf)|(refine cT (by rfl) ?_;conv=>whnf)|(refine cF (by rfl) ?_;conv=>whnf)))
  refine Does.mono (fillMetadataResponse hop3 (htm.e0 hx03) (fun k h1 h2 => by omega) hok) ?_;rintro r4 w4 ⟨hx4, c1, c2, c4, m, hop4, hc1, hc2, hc4, hm4⟩;((conv=>whnf);repeat(first|(refine mvT ?_;conv=>whnf)|(refine mvF ?_;conv=>whnf)|(refine cT (by rfl) ?_;conv=>whnf)|(refine cF (by rfl) ?_;conv=>whnf)))
  have hx04 := hx03.st hx4 hwp
  refine Does.mono (appMetadataResponse (F := anyB) hop4 (hc1.mono (fun _ _ _ => trivial) (fun _ _ h => rMetadataResponseBroker_mono h fun _ _ _ => trivial)) (hc2.mono (fun _ _ _ => trivial)) (hc4.mono (fun _ _ _ => trivial) (fun _ _ h => rMetadataResponseTopic_mono h fun _ _ _ => trivial)) (hm4.mono fun _ _ _ => trivial) hok (fun _ _ _ => by simp [Value.ownBlock]) (by simp [Value.ownBlock]) (OB.nil _ _) (Nat.le_refl _) hv (by rw [List.length_nil, Nat.zero_add]; exact hl)) ?_;rintro r5 w5 h5;((conv=>whnf);repeat(first|(refine mvT ?_;conv=>whnf)|(refine mvF ?_;conv=>whnf)|(refine cT (by rfl) ?_;conv=>whnf)|(refine cF (by rfl) ?_;conv=>whnf)))
  refine ⟨?_, hx04.own h5.ext (B := w.heap.size) (by simp [Value.ownBlock]) (Nat.le_refl _)⟩
  have := h5.ob
  rw [List.nil_append] at this
  exact this.mono hx04.size
theorem defaultMetadataResponse (p : Nat) (w : World) (T : TypeId) (l : List Value) (h : Own w p T l) (hl : l.length = 9) : Does X.P 27 #[.pointer (some ⟨p, 0, none⟩)] w fun r w' => Ext (fun k => k = p) w w' := by
  have hx0 : Ext (fun k => k = p) w w := Ext.refl _ _
  refine Does.go (X := X) (l := [_]) Tryz.func27 rfl (by kernel_rfl) (by kernel_rfl) _ rfl ?_
  ((conv=>whnf);repeat(first|(refine mvT ?_;conv=>whnf)|(refine mvF ?_;conv=>whnf)|(refine cT (by rfl) ?_;conv=>whnf)|(refine cF (by rfl) ?_;conv=>whnf)))
  refine st_cell (o := 4) (v := .int .i32 (-1)) h rfl (by omega) rfl (by rw [hl]; decide) rfl ?_
  intro wd h0 hxd
  have hx0 := hx0.trans hxd fun _ _ h => h
  ((conv=>whnf);repeat(first|(refine mvT ?_;conv=>whnf)|(refine mvF ?_;conv=>whnf)|(refine cT (by rfl) ?_;conv=>whnf)|(refine cF (by rfl) ?_;conv=>whnf)))
  refine st_cell (o := 6) (v := .int .i32 (-2147483648)) h0 rfl (by omega) rfl (by simp only [List.length_set]; rw [hl]; decide) rfl ?_
  intro wd h4 hxd
  have hx0 := hx0.trans hxd fun _ _ h => h
  ((conv=>whnf);repeat(first|(refine mvT ?_;conv=>whnf)|(refine mvF ?_;conv=>whnf)|(refine cT (by rfl) ?_;conv=>whnf)|(refine cF (by rfl) ?_;conv=>whnf)))
  exact hx0
theorem maxMetadataResponse (w : World) : Does X.P 5 #[] w fun r w' => r = .int .i64 13 ∧ Ext nob w w' := by
  have hmax : ∀ (p : Nat) (w : World), Does X.P 15 #[.pointer (some ⟨p, 0, none⟩)] w fun r w' => r = .int .i16 13 ∧ w' = w := by
    intro p w
    refine Does.go (X := X) (l := [_]) Tryz.func15 rfl (by kernel_rfl) (by kernel_rfl) _ rfl ?_
    ((conv=>whnf);repeat(first|(refine mvT ?_;conv=>whnf)|(refine mvF ?_;conv=>whnf)|(refine cT (by rfl) ?_;conv=>whnf)|(refine cF (by rfl) ?_;conv=>whnf)))
    exact ⟨rfl, rfl⟩
  have hnew : Does X.P 14 #[] w fun r w' => (∃ p, r = .pointer (some ⟨p, 0, none⟩)) ∧ Ext nob w w' := by
    refine Does.go (X := X) (l := []) Tryz.func14 rfl (by kernel_rfl) (by kernel_rfl) _ rfl ?_
    ((conv=>whnf);repeat(first|(refine mvT ?_;conv=>whnf)|(refine mvF ?_;conv=>whnf)|(refine cT (by rfl) ?_;conv=>whnf)|(refine cF (by rfl) ?_;conv=>whnf)))
    intro p w1 hp ho hx
    ((conv=>whnf);repeat(first|(refine mvT ?_;conv=>whnf)|(refine mvF ?_;conv=>whnf)|(refine cT (by rfl) ?_;conv=>whnf)|(refine cF (by rfl) ?_;conv=>whnf)))
    refine Does.mono (defaultMetadataResponse p w1 _ _ ho rfl) ?_;rintro r2 w2 hx2;((conv=>whnf);repeat(first|(refine mvT ?_;conv=>whnf)|(refine mvF ?_;conv=>whnf)|(refine cT (by rfl) ?_;conv=>whnf)|(refine cF (by rfl) ?_;conv=>whnf)))
    exact ⟨⟨p, rfl⟩, hx.st hx2 hp⟩
  refine Does.go (X := X) (l := []) Tryz.func5 rfl (by kernel_rfl) (by kernel_rfl) _ rfl ?_
  ((conv=>whnf);repeat(first|(refine mvT ?_;conv=>whnf)|(refine mvF ?_;conv=>whnf)|(refine cT (by rfl) ?_;conv=>whnf)|(refine cF (by rfl) ?_;conv=>whnf)))
  refine Does.mono (hnew) ?_;rintro r1 w1 ⟨⟨p, rfl⟩, hx⟩;((conv=>whnf);repeat(first|(refine mvT ?_;conv=>whnf)|(refine mvF ?_;conv=>whnf)|(refine cT (by rfl) ?_;conv=>whnf)|(refine cF (by rfl) ?_;conv=>whnf)))
  refine Does.mono (hmax p w1) ?_;rintro r2 w2 ⟨rfl, rfl⟩;((conv=>whnf);repeat(first|(refine mvT ?_;conv=>whnf)|(refine mvF ?_;conv=>whnf)|(refine cT (by rfl) ?_;conv=>whnf)|(refine cF (by rfl) ?_;conv=>whnf)))
  exact ⟨rfl, hx⟩
theorem walkMetadataResponse {w : World} {n : Nat} (hn : n < 256) {x : Value} {t : T} (ht : Tr w anyB x t) (hsz : wtT t ≤ 1048576) : Does X.P 3 #[.int .u8 n, x] w fun r w' => r = .bool true ∧ Ext nob w w' := by
  have hkeys := ht.keys
  obtain ⟨sv, lv, uv, ls, rfl, _⟩ := ht.open
  refine Does.go (X := X) (l := [_, _]) Tryz.func3 rfl (by kernel_rfl) (by kernel_rfl) _ rfl ?_
  ((conv=>whnf);repeat(first|(refine mvT ?_;conv=>whnf)|(refine mvF ?_;conv=>whnf)|(refine cT (by rfl) ?_;conv=>whnf)|(refine cF (by rfl) ?_;conv=>whnf)))
  intro b w1 hb ho hx
  ((conv=>whnf);repeat(first|(refine mvT ?_;conv=>whnf)|(refine mvF ?_;conv=>whnf)|(refine cT (by rfl) ?_;conv=>whnf)|(refine cF (by rfl) ?_;conv=>whnf)))
  refine ⟨_, rfl, ho.cells, ?_⟩
  ((conv=>whnf);repeat(first|(refine mvT ?_;conv=>whnf)|(refine mvF ?_;conv=>whnf)|(refine cT (by rfl) ?_;conv=>whnf)|(refine cF (by rfl) ?_;conv=>whnf)))
  refine Does.mono (zzFits1_does (ht.e0 hx)) ?_;rintro r2 w2 ⟨⟨b2, rfl⟩, hx2⟩;((conv=>whnf);repeat(first|(refine mvT ?_;conv=>whnf)|(refine mvF ?_;conv=>whnf)|(refine cT (by rfl) ?_;conv=>whnf)|(refine cF (by rfl) ?_;conv=>whnf)))
  have hx02 := hx.e0 hx2
  refine cI (by rfl) (fun h1=>?_) (fun h1=>?_)
  · ((conv=>whnf);repeat(first|(refine mvT ?_;conv=>whnf)|(refine mvF ?_;conv=>whnf)|(refine cT (by rfl) ?_;conv=>whnf)|(refine cF (by rfl) ?_;conv=>whnf)))
    exact ⟨rfl, hx02⟩
  · ((conv=>whnf);repeat(first|(refine mvT ?_;conv=>whnf)|(refine mvF ?_;conv=>whnf)|(refine cT (by rfl) ?_;conv=>whnf)|(refine cF (by rfl) ?_;conv=>whnf)))
    refine Does.mono (maxMetadataResponse w2) ?_;rintro r3 w3 ⟨rfl, hx3⟩;((conv=>whnf);repeat(first|(refine mvT ?_;conv=>whnf)|(refine mvF ?_;conv=>whnf)|(refine cT (by rfl) ?_;conv=>whnf)|(refine cF (by rfl) ?_;conv=>whnf)))
    refine Does.mono (sMetadataResponse w3) ?_;rintro r4 w4 ⟨⟨fv, rfl, hfd⟩, hx4⟩;((conv=>whnf);repeat(first|(refine mvT ?_;conv=>whnf)|(refine mvF ?_;conv=>whnf)|(refine cT (by rfl) ?_;conv=>whnf)|(refine cF (by rfl) ?_;conv=>whnf)))
    have hone := hfd
    obtain ⟨ls3, hsl3, _⟩ := hone
    obtain ⟨a3, c3, rfl, _⟩ := hsl3.view
    refine Does.mono (version_does n 13 hn (by omega) w4) ?_;rintro r5 w5 ⟨rfl, rfl⟩;((conv=>whnf);repeat(first|(refine mvT ?_;conv=>whnf)|(refine mvF ?_;conv=>whnf)|(refine cT (by rfl) ?_;conv=>whnf)|(refine cF (by rfl) ?_;conv=>whnf)))
    intro b6 w6 hb6 ho6 hx6
    ((conv=>whnf);repeat(first|(refine mvT ?_;conv=>whnf)|(refine mvF ?_;conv=>whnf)|(refine cT (by rfl) ?_;conv=>whnf)|(refine cF (by rfl) ?_;conv=>whnf)))
    refine ⟨_, _, ho6, rfl, rfl, rfl, ?_⟩
    intro w7 ho7 hx7
    have hx57 : Ext nob w5 w7 := hx6.st hx7 hb6
    ((conv=>whnf);repeat(first|(refine mvT ?_;conv=>whnf)|(refine mvF ?_;conv=>whnf)|(refine cT (by rfl) ?_;conv=>whnf)|(refine cF (by rfl) ?_;conv=>whnf)))
    have hx07 : Ext nob w w7 := ((hx02.e0 hx3).e0 hx4).e0 hx57
    have hxd := hx07.e0 (ext_drew _)
    have hod := ((((ho.e0 hx2).e0 hx3).e0 hx4).e0 hx57).e0 (ext_drew _)
    have ho7d := ho7.e0 (ext_drew _)
    have hfdd := (hfd.e0 hx57).e0 (ext_drew _)
    generalize hvv : ((n % (13 + 1) : Nat) : Int) = v
    have hv0 : 0 ≤ v := by omega
    have hv1 : v < 32768 := by omega
    have hok : ∀ f, f ∈ dMetadataResponse → okF 9 f = true := List.all_eq_true.1 (show (dMetadataResponse).all (okF 9) = true by decide)
    have hnt : ∀ f, f ∈ dMetadataResponse → ntF 9 f = true := List.all_eq_true.1 (show (dMetadataResponse).all (ntF 9) = true by decide)
    refine VD.draw mixed (.q 0 (.q 1 (.q 2 (.q 3 (.q 4 (.q 8 (.q 9 (.q 10 (.eff 5 [8, 10] (.eff 6 [8, 10] (.eff 7 [8, 10] (.eff 11 [] (.eff 12 [] (.eff 13 [] (.done))))))))))))))) (by kernel_rfl) ?_;((conv=>whnf);repeat(first|(refine mvT ?_;conv=>whnf)|(refine mvF ?_;conv=>whnf)|(refine cT (by rfl) ?_;conv=>whnf)|(refine cF (by rfl) ?_;conv=>whnf)))
    refine ldS (ho7d.cell rfl) ?_;((conv=>whnf);repeat(first|(refine mvT ?_;conv=>whnf)|(refine mvF ?_;conv=>whnf)|(refine cT (by rfl) ?_;conv=>whnf)|(refine cF (by rfl) ?_;conv=>whnf)))
    refine ⟨_, rfl, hod.cells, ?_⟩
    ((conv=>whnf);repeat(first|(refine mvT ?_;conv=>whnf)|(refine mvF ?_;conv=>whnf)|(refine cT (by rfl) ?_;conv=>whnf)|(refine cF (by rfl) ?_;conv=>whnf)))
    refine ⟨_, rfl, ho7d.cells, ?_⟩
    ((conv=>whnf);repeat(first|(refine mvT ?_;conv=>whnf)|(refine mvF ?_;conv=>whnf)|(refine cT (by rfl) ?_;conv=>whnf)|(refine cF (by rfl) ?_;conv=>whnf)))
    refine ⟨_, rfl, hod.cells, ?_⟩
    ((conv=>whnf);repeat(first|(refine mvT ?_;conv=>whnf)|(refine mvF ?_;conv=>whnf)|(refine cT (by rfl) ?_;conv=>whnf)|(refine cF (by rfl) ?_;conv=>whnf)))
    refine Does.mono (fit_does (fits_do 9) (v := v) hfdd (ht.e0 hxd) hok (by decide)) ?_
    rintro r8 w8 ⟨hr8, hx8⟩
    refine ⟨by (conv => whnf); exact ⟨⟨_, rfl, (ho7d.e0 hx8).cells, rfl, rfl⟩, ⟨_, rfl, (hod.e0 hx8).cells, rfl, rfl⟩, trivial⟩, ?_⟩
    ((conv=>whnf);repeat(first|(refine mvT ?_;conv=>whnf)|(refine mvF ?_;conv=>whnf)|(refine cT (by rfl) ?_;conv=>whnf)|(refine cF (by rfl) ?_;conv=>whnf)))
    have hsmall := fit_small 9 _ (by decide) v hok t
    refine Does.mono (given_does hr8 hsmall) ?_
    rintro r9 w9 ⟨hr9, hx9⟩
    have hx89 := hx8.e0 hx9
    refine ⟨by (conv => whnf); exact ⟨⟨_, rfl, (ho7d.e0 hx89).cells, rfl, rfl⟩, ⟨_, rfl, (hod.e0 hx89).cells, rfl, rfl⟩, trivial⟩, ?_⟩
    ((conv=>whnf);repeat(first|(refine mvT ?_;conv=>whnf)|(refine mvF ?_;conv=>whnf)|(refine cT (by rfl) ?_;conv=>whnf)|(refine cF (by rfl) ?_;conv=>whnf)))
    have hfx : decide (v ≥ 9) = flexB 9 v := by simp [flexB]
    have hfit := part_ok 9 v dMetadataResponse t hnt hkeys
    have hlaw : bMetadataResponse v (decide (v ≥ 9)) (fitB 9 v dMetadataResponse t) = partB 9 v (flexB 9 v) dMetadataResponse t := by
      rw [← bMetadataResponse_eq hv0 hfit, hfx]
      exact part_law 9 v _ dMetadataResponse t hnt
    have hlen : (partB 9 v (flexB 9 v) dMetadataResponse t).length ≤ 100000000000000 := Nat.le_trans (partB_wt 9 v _ dMetadataResponse t hnt hkeys) (Nat.le_trans (Nat.mul_le_mul_left _ hsz) (Nat.le_of_ble_eq_true rfl))
    refine Does.mono (makeMetadataResponse (v := v) hr9 hfit hv0 hv1 (by rw [hlaw]; exact hlen)) ?_
    rintro r10 w10 ⟨hr10, hx10⟩
    have hx810 := hx89.e0 hx10
    refine ⟨by (conv => whnf); exact ⟨⟨_, rfl, (ho7d.e0 hx810).cells, rfl, rfl⟩, ⟨_, rfl, (hod.e0 hx810).cells, rfl, rfl⟩, trivial⟩, ?_⟩
    ((conv=>whnf);repeat(first|(refine mvT ?_;conv=>whnf)|(refine mvF ?_;conv=>whnf)|(refine cT (by rfl) ?_;conv=>whnf)|(refine cF (by rfl) ?_;conv=>whnf)))
    rw [hlaw] at hr10
    refine Does.mono (write_does 9 (v := v) ⟨_, rfl, hfdd.e0 hx810⟩ (ht.e0 (hxd.e0 hx810)) hok (by decide) (Nat.le_trans hlen (by decide))) ?_
    rintro r11 w11 ⟨hr11, hx11⟩
    ((conv=>whnf);repeat(first|(refine mvT ?_;conv=>whnf)|(refine mvF ?_;conv=>whnf)|(refine cT (by rfl) ?_;conv=>whnf)|(refine cF (by rfl) ?_;conv=>whnf)))
    refine Does.mono (Same_does (hr10.e0 hx11).bytesAny hr11.bytesAny) ?_
    rintro r12 w12 ⟨rfl, hx12⟩
    ((conv=>whnf);repeat(first|(refine mvT ?_;conv=>whnf)|(refine mvF ?_;conv=>whnf)|(refine cT (by rfl) ?_;conv=>whnf)|(refine cF (by rfl) ?_;conv=>whnf)))
    exact ⟨by simp [oneOr], ((hxd.e0 hx810).e0 hx11).e0 hx12⟩
end Go.Proofs.YtlnhbbpmlfaakaaGreat.K
