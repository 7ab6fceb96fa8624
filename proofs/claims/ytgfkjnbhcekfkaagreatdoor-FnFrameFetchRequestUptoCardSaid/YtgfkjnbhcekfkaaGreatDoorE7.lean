/- Reading of tagged fields: what each of them has come to, while others and unknown tags are read; lists that come again. -/
import Derived.Test.YtgfkjnbhcekfkaaGreatDoorE5
set_option linter.unusedVariables false
set_option linter.unusedSimpArgs false
namespace Go.Proofs.YtgfkjnbhcekfkaaGreatDoor.K
open Go
set_option maxHeartbeats 800000

theorem rdAll_tag {rf : Fd → Rd → T × Rd} {df : Fd → T} {v : Int} {f : Fd} {r : List Fd} {s : Rd} (ht : 0 ≤ f.tag) : rdAll rf df v (f :: r) s = (df f :: (rdAll rf df v r s).1, (rdAll rf df v r s).2) := by
  rw [rdAll]
  have : ¬ (f.tag < 0 ∧ hasF f v = true) := fun h => by omega
  simp only [if_neg this]
theorem tail_tag {d : Nat} {v : Int} {fx : Bool} {f : Fd} {f0 r : List Fd} {s : Rd} (ht : 0 ≤ f.tag) : tailBad d v fx f0 (f :: r) s = tailBad d v fx f0 r s := by
  unfold tailBad
  rw [rdAll_tag ht]
/-- The tags, while they are read: n are left. -/
theorem tail_run {d : Nat} {v : Int} {fx : Bool} {f0 : List Fd} {s st : Rd} {n : Nat} {l : List T} {l0 : List T} {u : List Tg} (hn : noTags f0 = false) (hfx : fx = true) (h : rdTgX (rdField d v fx) f0 n l u st = rdTgX (rdField d v fx) f0 (rdUv s).1 l0 [] (rdUv s).2) : tailBad d v fx f0 [] s = (rdTgX (rdField d v fx) f0 n l u st).2.2 := by
  show (rdTail (rdField d v fx) f0 fx [] s).2.2 = _
  rw [h, rdTail, if_neg (by rw [hn]; decide), if_pos hfx]
  exact congrArg Prod.snd (rdTgX_any _ _ _ _ _ _ _ _)
theorem tail_end {rf : Fd → Rd → T × Rd} {fx : Bool} {f0 : List Fd} {s s' : Rd} {l0 l : List T} {u : List Tg} (hn : noTags f0 = false) (hfx : fx = true) (h : ((l, u), s') = rdTgX rf f0 (rdUv s).1 l0 [] (rdUv s).2) : rdTail rf f0 fx l0 s = ((l, u), s') := by
  rw [h, rdTail, if_neg (by rw [hn]; decide), if_pos hfx]
theorem tail_none {rf : Fd → Rd → T × Rd} {fx : Bool} {f0 : List Fd} {s : Rd} {l0 : List T} (hn : noTags f0 = false) (hfx : fx = false) : rdTail rf f0 fx l0 s = ((l0, []), s) := by
  rw [rdTail, if_neg (by rw [hn]; decide), if_neg (by rw [hfx]; decide)]
theorem tagIx_no {k : Nat} : ∀ {fs : List Fd} {i : Nat}, (∀ f, f ∈ fs → f.tag ≠ (k : Int)) → tagIx fs i k = none
  | [], _, _ => rfl
  | f :: r, i, h => by
    rw [tagIx, if_neg (h f (by simp))]
    exact tagIx_no fun g hg => h g (by simp [hg])
theorem rdTgX_none {rf : Fd → Rd → T × Rd} {fs : List Fd} {n : Nat} {l : List T} {u : List Tg} {s s1 s2 s3 : Rd} {k z : Nat} {b : List UInt8} (h1 : rdUv s = (k, s1)) (h2 : rdUv s1 = (z, s2)) (h3 : rdSpan (z : Int) s2 = (b, s3)) (ht : tagIx fs 0 k = none) : rdTgX rf fs (n + 1) l u s = rdTgX rf fs n l (setT u (k, b)) s3 := by
  have e1 : (rdUv s).1 = k := by rw [h1]
  have e2 : (rdUv s).2 = s1 := by rw [h1]
  have e3 : (rdUv s1).1 = z := by rw [h2]
  have e4 : (rdUv s1).2 = s2 := by rw [h2]
  rw [rdTgX]
  simp only [e1, e2, e3, e4, h3, ht]
theorem rdTgX_some {rf : Fd → Rd → T × Rd} {fs : List Fd} {n : Nat} {l : List T} {u : List Tg} {s s1 s2 s3 si : Rd} {k z : Nat} {b : List UInt8} {i : Nat} {f : Fd} {x : T} (h1 : rdUv s = (k, s1)) (h2 : rdUv s1 = (z, s2)) (h3 : rdSpan (z : Int) s2 = (b, s3)) (ht : tagIx fs 0 k = some (i, f)) (hx : rf f (b, false) = (x, si)) :
    rdTgX rf fs (n + 1) l u s = if si.2 = true then ((l, u), ([], true)) else rdTgX rf fs n (l.set i (tgX f ((l[i]?).getD T.zero) x)) u s3 := by
  have e1 : (rdUv s).1 = k := by rw [h1]
  have e2 : (rdUv s).2 = s1 := by rw [h1]
  have e3 : (rdUv s1).1 = z := by rw [h2]
  have e4 : (rdUv s1).2 = s2 := by rw [h2]
  rw [rdTgX]
  simp only [e1, e2, e3, e4, h3, ht, hx]
theorem rdTgX_fell {rf : Fd → Rd → T × Rd} {fs : List Fd} {n : Nat} {l : List T} {u : List Tg} {s s1 s2 s3 : Rd} {k z : Nat} {b : List UInt8} {i : Nat} {f : Fd} (h1 : rdUv s = (k, s1)) (h2 : rdUv s1 = (z, s2)) (h3 : rdSpan (z : Int) s2 = (b, s3)) (ht : tagIx fs 0 k = some (i, f)) (hx : (rf f (b, false)).2.2 = true) : (rdTgX rf fs (n + 1) l u s).2.2 = true := by
  rw [rdTgX_some h1 h2 h3 ht rfl, if_pos hx]
theorem field_len {d : Nat} {v : Int} {fx : Bool} {fr to nul tag df of : Int} {sub : List Fd} {s s1 : Rd} {n : Int} (hl : rdLn fx s = (n, s1)) (hb : s1.2 = true) : (rdField (d + 1) v fx (.mk 11 fr to nul tag df of sub) s).2.2 = true := by
  rw [rdField_list]
  unfold rdLs
  rw [hl]
  exact rdN_bad (elR_bad d v fx of sub) _ _ hb
/-- Does the slice, or the map, lie in the block? -/
def OwnB (c : Value) (k : Nat) : Prop := c.ownBlock = some k ∨ c = .map (some k)
/-- Where a tagged field may lie: in the octets or anew, but not where the others do. -/
def Dof (wA : World) (G : Nat → Prop) (others : List Value) : Nat → Prop := fun k => FG wA G k ∧ ∀ c, c ∈ others → ¬ OwnB c k
/-- What the reading of tags writes. -/
def Mof (pb : Nat) (L : List Ob) (others : List Value) : Nat → Prop := fun k => (k = pb ∨ inL L k) ∨ ∃ c, c ∈ others ∧ OwnB c k
/-- A list of our own: none yet, or a slice of a block of its own. -/
def OwnL (w wA : World) (e : TypeId) (sz : Nat) (a : Value) (nl : Bool) : Prop :=
  (a = .slice none 0 0 ∧ nl = true) ∨ (nl = false ∧ ∃ g n cap cs, a = .slice (some ⟨g, 0, none⟩) n cap ∧ (n ≤ cap ∧ cap ≤ maxLen ∧ cs.length = cap * sz) ∧ wA.heap.size ≤ g ∧ Own w g e cs)
theorem OwnL.nil (w wA : World) (e : TypeId) (sz : Nat) : OwnL w wA e sz (.slice none 0 0) true := .inl ⟨rfl, rfl⟩
theorem OwnL.lt {w wA : World} {e : TypeId} {sz : Nat} {a : Value} {nl : Bool} (h : OwnL w wA e sz a nl) : ∀ k, OwnB a k → wA.heap.size ≤ k ∧ k < w.heap.size := by
  rintro k hk
  rcases h with ⟨rfl, _⟩ | ⟨_, g, n, cap, cs, rfl, _, hg, ho⟩
  · rcases hk with hk | hk <;> simp [Value.ownBlock] at hk
  · rcases hk with hk | hk
    · simp only [Value.ownBlock, Option.some.injEq] at hk
      subst hk
      exact ⟨hg, ho.lt⟩
    · cases hk
theorem OwnL.ext {M : Nat → Prop} {w w' wA : World} {e : TypeId} {sz : Nat} {a : Value} {nl : Bool} (h : OwnL w wA e sz a nl) (x : Ext M w w') (hM : ∀ k, OwnB a k → ¬ M k) : OwnL w' wA e sz a nl := by
  rcases h with h | ⟨h0, g, n, cap, cs, rfl, h1, hg, ho⟩
  · exact .inl h
  · exact .inr ⟨h0, g, n, cap, cs, rfl, h1, hg, ho.ext x (hM g (.inl rfl))⟩
theorem OwnL.slice {w wA : World} {e : TypeId} {sz : Nat} {a : Value} {nl : Bool} (h : OwnL w wA e sz a nl) : ∃ q n c, a = .slice q n c ∧ (∀ x, q = some x → x.spot = none ∧ x.off = 0) ∧ n ≤ c := by
  rcases h with ⟨rfl, _⟩ | ⟨_, g, n, cap, cs, rfl, h1, _⟩
  · exact ⟨none, 0, 0, rfl, fun x h => (by cases h), Nat.le_refl _⟩
  · refine ⟨some ⟨g, 0, none⟩, n, cap, rfl, fun x h => ?_, h1.1⟩
    cases h
    exact ⟨rfl, rfl⟩
/-- What a tagged field has come to. -/
structure Slot (w wA : World) (G : Nat → Prop) (d : Nat) (f : Fd) (e : TypeId) (sz : Nat) (others : List Value) (cs : List Value) (x : T) : Prop where
  q : QField true d f ⟨w, Dof wA G others⟩ cs x
  own : f.kind = 11 → ∃ a, cs = [a] ∧ OwnL w wA e sz a x.nl ∧ ∀ c, c ∈ others → ∀ k, OwnB a k → ¬ OwnB c k
section
variable {w w' w1 wA : World} {G : Nat → Prop} {d : Nat} {f : Fd} {e : TypeId} {sz : Nat} {others others' : List Value} {cs : List Value} {x : T} {pb : Nat} {L : List Ob}
theorem Slot.keep (h : Slot w wA G d f e sz others cs x) (hx : Ext (Mof pb L others) w w') (hpl : ∀ k, (k = pb ∨ inL L k) → k < wA.heap.size ∧ ¬ G k) (ho : ∀ c, c ∈ others' → ∀ k, OwnB c k → (∃ c', c' ∈ others ∧ OwnB c' k) ∨ w.heap.size ≤ k) : Slot w' wA G d f e sz others' cs x := by
  refine ⟨QField_later true d f cs x w w' _ _ _ h.q hx fun k hk hD => ⟨?_, hD.1, fun c hc e => ?_⟩, fun h11 => ?_⟩
  · rintro (e | ⟨c, hc, e⟩)
    · have := hpl k e
      rcases hD.1 with g | g
      · exact this.2 g
      · omega
    · exact hD.2 c hc e
  · rcases ho c hc k e with ⟨c', h1, h2⟩ | h1
    · exact hD.2 c' h1 h2
    · omega
  · obtain ⟨a, rfl, ha, hs⟩ := h.own h11
    refine ⟨a, rfl, ha.ext hx ?_, fun c hc k hk e => ?_⟩
    · rintro k hk (e | ⟨c, hc, e⟩)
      · have := hpl k e
        have := (ha.lt k hk).1
        omega
      · exact hs c hc k hk e
    · rcases ho c hc k e with ⟨c', h1, h2⟩ | h1
      · exact hs c' h1 k hk h2
      · have := (ha.lt k hk).2
        omega
theorem Slot.new {a0 : Value} (hq : QField true d f ⟨w', fun k => FG w1 G k ∨ OwnB a0 k⟩ cs x) (hown : f.kind = 11 → ∃ a, cs = [a] ∧ OwnL w' wA e sz a x.nl ∧ ∀ k, OwnB a k → OwnB a0 k ∨ w1.heap.size ≤ k) (hsep : ∀ c, c ∈ others → ∀ k, OwnB a0 k → ¬ OwnB c k)
    (ho : ∀ c, c ∈ others → ∀ k, OwnB c k → wA.heap.size ≤ k ∧ k < w1.heap.size) (hG : ∀ k, G k → k < wA.heap.size) (h1 : wA.heap.size ≤ w1.heap.size) (ha0 : ∀ k, OwnB a0 k → wA.heap.size ≤ k) : Slot w' wA G d f e sz others cs x := by
  refine ⟨QField_later true d f cs x w' w' _ _ nob hq (Ext.refl _ _) fun k hk hD => ⟨fun f => f, ?_, fun c hc e => ?_⟩, fun h11 => ?_⟩
  · rcases hD with (g | g) | g
    · exact .inl g
    · exact .inr (by omega)
    · exact .inr (ha0 k g)
  · have h2 := ho c hc k e
    rcases hD with (g | g) | g
    · have := hG k g; omega
    · omega
    · exact hsep c hc k g e
  · obtain ⟨a, rfl, ha, hs⟩ := hown h11
    refine ⟨a, rfl, ha, fun c hc k hk e => ?_⟩
    have h2 := ho c hc k e
    rcases hs k hk with g | g
    · exact hsep c hc k g e
    · omega
end
/-- The front of no length of a list of ours. -/
def cut0 : Value → Value
  | .slice a n c => .slice a 0 c
  | v => v
theorem cut0_slice {a : Option Addr} {n c sz : Nat} {K : Value → Prop} (hn : n ≤ c) (ha : ∀ q, a = some q → q.spot = none ∧ q.off = 0) (k : K (.slice a 0 c)) :
    ((((none : Option Int).getD ((c : Nat) : Int)).toNat = ((none : Option Int).getD 0).toNat ∨ ∀ q, a = some q → q.spot = none)) ∧ ((none : Option Int).isSome → (some (0 : Int)).isSome) ∧ (0 ≤ (none : Option Int).getD 0 ∧ (none : Option Int).getD 0 ≤ (some (0 : Int)).getD ((n : Nat) : Int) ∧ (some (0 : Int)).getD ((n : Nat) : Int) ≤ (none : Option Int).getD ((c : Nat) : Int) ∧ (none : Option Int).getD ((c : Nat) : Int) ≤ ((c : Nat) : Int)) ∧
      ∀ r : Value, Value.slice (cutAddr a sz ((none : Option Int).getD 0).toNat ((none : Option Int).getD ((c : Nat) : Int)).toNat) (((some (0 : Int)).getD ((n : Nat) : Int)).toNat - ((none : Option Int).getD 0).toNat) (((none : Option Int).getD ((c : Nat) : Int)).toNat - ((none : Option Int).getD 0).toNat) = r → K r := by
  refine ⟨.inr fun q h => (ha q h).1, fun h => (by cases h), ⟨by simp, by simp, by simp, by simp⟩, ?_⟩
  rintro r rfl
  have : cutAddr a sz ((none : Option Int).getD 0).toNat ((none : Option Int).getD ((c : Nat) : Int)).toNat = a := by
    unfold cutAddr
    split
    · rfl
    · cases a with
      | none => rfl
      | some q =>
        obtain ⟨h1, h2⟩ := ha q rfl
        obtain ⟨b, o, s⟩ := q
        simp only at h1 h2
        subst h1
        subst h2
        simp
  rw [this]
  simpa using k
/-- A list with a tag, at the head of a round: n things are to be read into what a0 has room for, or anew; i have been. -/
def TagI (w1 : World) (G : Nat → Prop) (pb pb2 : Nat) (e : TypeId) (z : List Value) (rd : Rd → T × Rd) (R : WR → List Value → T → Prop) (s0 : Rd) (n : Int) (nv : Bool) (a0 a : Value) (i : Nat) (w : World) : Prop :=
  ((n ≤ 0 ∧ i = 0) ∧ ((nv = true ∧ a = cut0 a0 ∧ St w1 G pb pb2 s0 [] (fun w' => Ext nob w1 w') w) ∨ (nv = false ∧ ∃ b, a = .slice (some ⟨b, 0, none⟩) 0 0 ∧ w1.heap.size ≤ b ∧ St w1 G pb pb2 s0 [(b, e, [])] (fun w' => Ext nob w1 w') w))) ∨
  ((0 < n ∧ i ≤ n.toNat ∧ nv = false) ∧ ∃ p' g cap post, a = .slice (some ⟨g, 0, none⟩) n.toNat cap ∧ (n.toNat ≤ cap ∧ cap ≤ maxLen ∧ n.toNat * z.length + post.length = cap * z.length) ∧ ((p' = pb ∨ OwnB a0 p') ∧ (w1.heap.size ≤ g ∨ OwnB a0 g)) ∧ LoopI w1 G p' pb2 g e z post rd R s0 n.toNat [] (fun w' => Ext (OwnB a0) w1 w') i w)
section
variable {w1 w wA : World} {G : Nat → Prop} {pb pb2 : Nat} {e : TypeId} {z : List Value} {rd : Rd → T × Rd} {R : WR → List Value → T → Prop} {s s0 : Rd} {n : Int} {nv : Bool} {a0 a : Value} {i : Nat}
theorem TagI.go (h : TagI w1 G pb pb2 e z rd R s0 n nv a0 a i w) (hi : (i : Int) < n) : ∃ p' g cap post, a = .slice (.some ⟨g, 0, .none⟩) n.toNat cap ∧ ((n.toNat ≤ cap ∧ cap ≤ maxLen ∧ n.toNat * z.length + post.length = cap * z.length) ∧ ((p' = pb ∨ OwnB a0 p') ∧ (w1.heap.size ≤ g ∨ OwnB a0 g)) ∧ 0 < n ∧ nv = false ∧ i < n.toNat) ∧ LoopI w1 G p' pb2 g e z post rd R s0 n.toNat [] (fun w' => Ext (OwnB a0) w1 w') i w := by
  rcases h with ⟨⟨h1, h2⟩, _⟩ | ⟨⟨h1, h2, h3⟩, p', g, cap, post, h4, h5, h6, h7⟩
  · omega
  · exact ⟨p', g, cap, post, h4, ⟨h5, h6, h1, h3, by omega⟩, h7⟩
theorem TagI.back {p' g cap : Nat} {post : List Value} (h : (n.toNat ≤ cap ∧ cap ≤ maxLen ∧ n.toNat * z.length + post.length = cap * z.length) ∧ ((p' = pb ∨ OwnB a0 p') ∧ (w1.heap.size ≤ g ∨ OwnB a0 g)) ∧ 0 < n ∧ nv = false ∧ i < n.toNat) (H : LoopI w1 G p' pb2 g e z post rd R s0 n.toNat [] (fun w' => Ext (OwnB a0) w1 w') (i + 1) w) : TagI w1 G pb pb2 e z rd R s0 n nv a0 (.slice (.some ⟨g, 0, .none⟩) n.toNat cap) (i + 1) w :=
  .inr ⟨⟨h.2.2.1, h.2.2.2.2, h.2.2.2.1⟩, p', g, cap, post, rfl, h.1, h.2.1, H⟩
theorem TagI.none (hn : n ≤ 0) (hv : nv = true) (H : St w1 G pb pb2 s0 [] (fun w' => Ext nob w1 w') w) : TagI w1 G pb pb2 e z rd R s0 n nv a0 (cut0 a0) 0 w := .inl ⟨⟨hn, rfl⟩, .inl ⟨hv, rfl, H⟩⟩
theorem TagI.empty {b : Nat} (hn : n ≤ 0) (hv : nv = false) (hb : w1.heap.size ≤ b) (H : St w1 G pb pb2 s0 [(b, e, [])] (fun w' => Ext nob w1 w') w) : TagI w1 G pb pb2 e z rd R s0 n nv a0 (.slice (some ⟨b, 0, .none⟩) 0 0) 0 w := .inl ⟨⟨hn, rfl⟩, .inr ⟨hv, b, rfl, hb, H⟩⟩
/-- The reading of a tag's octets begins. -/
theorem St.tag {T' : TypeId} {l : List UInt8} {x : Value} (hb : Own w pb2 T' [x, .bool false]) (hx : Bytes w G x l) (hG : ∀ k, G k → k < w1.heap.size ∧ k ≠ pb) (he : Ext nob w1 w) (hold : pb < w1.heap.size) (hnew : w1.heap.size ≤ pb2) : St w1 G pb pb2 (l, false) [] (fun w' => Ext nob w1 w') w :=
  ⟨he.mono fun _ _ f => f.elim, ⟨T', x, hb, hx, fun h => (by cases h)⟩, hG, hnew, hold, trivial, trivial, fun w' x => he.trans x fun k hk h => by
    rcases h with h | h
    · omega
    · obtain ⟨y, hy, _⟩ := h; simp at hy⟩
/-- Room for so many things is made, where there was some or anew. -/
theorem TagI.grow (H : St w1 G pb pb2 s0 [] (fun w' => Ext nob w1 w') w) {sz by0 : Nat} {nl0 : Bool} {K : Value → World → Prop} (ha : OwnL w1 wA e sz a0 nl0) (hAG : ∀ k, G k → k < wA.heap.size) (hm : 0 < n) (hm2 : n ≤ 2147483647) (hs : 0 < sz) (hz : z.length = sz) (hok : okCells z = true) (hb : by0 ≤ 65536)
    (k : ∀ a w', TagI w1 G pb pb2 e z rd R s0 n false a0 a 0 w' → K a w') :
    ∃ m xs, 0 ≤ n ∧ OwnSl w e sz (cut0 a0) m xs ∧ (0 < sz ∧ z.length = sz ∧ okCells z = true) ∧ (m + n.toNat ≤ maxLen ∧ (m + n.toNat) * by0 ≤ 140737488355328) ∧
      ∀ v' w', OwnSl w' e sz v' (m + n.toNat) (xs ++ (List.replicate n.toNat z).flatten) → Appended w w' (cut0 a0) v' → K v' w' := by
  have hbig : (0 + n.toNat) * by0 ≤ 140737488355328 := by
    have h1 : (0 + n.toNat) ≤ 2147483647 := by omega
    have := Nat.mul_le_mul h1 hb
    omega
  have hown : ∀ j, OwnB a0 j → wA.heap.size ≤ j ∧ j < w1.heap.size := ha.lt
  have hcb : ∀ j, (cut0 a0).ownBlock = some j → OwnB a0 j := by
    intro j hj
    rcases ha with ⟨rfl, _⟩ | ⟨_, g0, n0, c0, cs0, rfl, _⟩
    · simp [cut0, Value.ownBlock] at hj
    · exact .inl hj
  obtain ⟨p', hp', hpo⟩ : ∃ p', (p' = pb ∨ OwnB a0 p') ∧ ∀ j, OwnB a0 j → j = p' := by
    rcases ha with ⟨rfl, _⟩ | ⟨_, g0, n0, c0, cs0, rfl, _⟩
    · exact ⟨pb, .inl rfl, fun j hj => by rcases hj with hj | hj <;> simp [Value.ownBlock] at hj⟩
    · refine ⟨g0, .inr (.inl rfl), fun j hj => ?_⟩
      rcases hj with hj | hj
      · simp only [Value.ownBlock, Option.some.injEq] at hj
        exact hj.symm
      · cases hj
  have hold : p' < w1.heap.size := by
    rcases hp' with h | h
    · rw [h]; exact H.old
    · exact (hown _ h).2
  have hreg : ∀ j, G j → j < w1.heap.size ∧ j ≠ p' := fun j hj => ⟨(H.reg j hj).1, fun e => by
    rcases hp' with h | h
    · exact (H.reg j hj).2 (e.trans h)
    · have := (hown _ h).1
      have := hAG j hj
      omega⟩
  have hx0 := H.now
  have hsz := hx0.size
  have hpb2 := H.rd.lt
  have hnw := H.new
  have hfin : ∀ v' w', OwnSl w' e sz v' (0 + n.toNat) ([] ++ (List.replicate n.toNat z).flatten) → Appended w w' (cut0 a0) v' → K v' w' := by
    intro v' w' ho hap
    rw [Nat.zero_add, List.nil_append] at ho
    rcases ho.2 with ⟨_, h0⟩ | ⟨g, cap, cur, rfl, _, hg, hnc, hcm, hcs, htake⟩
    · omega
    have hpl : (List.replicate n.toNat z).flatten.length = n.toNat * sz := ho.1
    have hcut : (List.replicate n.toNat z).flatten ++ cur.toList.drop (n.toNat * sz) = cur.toList := by rw [← htake]; exact List.take_append_drop _ _
    have hgo : Own w' g e ([] ++ [] ++ ((List.replicate n.toNat z).flatten ++ cur.toList.drop (n.toNat * sz))) := by
      rw [List.nil_append, List.nil_append, hcut]
      unfold Own
      simpa using hg
    have hlen : n.toNat * z.length + (cur.toList.drop (n.toNat * sz)).length = cap * z.length := by
      have := congrArg List.length hcut
      rw [List.length_append, hpl] at this
      have h2 : cur.toList.length = cap * sz := by simpa using hcs
      rw [hz]
      omega
    have hxe : Ext (OwnB a0) w w' := hap.ext.mono fun j _ hj => hcb j hj
    have hgw : w1.heap.size ≤ g ∨ OwnB a0 g := by
      rcases hap.blk with h | ⟨q, h, hle⟩
      · exact .inr (hcb g (h.symm.trans rfl))
      · simp only [Value.ownBlock, Option.some.injEq] at h
        exact .inl (by omega)
    have hx1 : Ext (OwnB a0) w1 w' := (hx0.mono (M' := OwnB a0) fun _ _ f => f.elim).trans hxe fun _ _ h => h
    refine k _ w' (.inr ⟨⟨hm, Nat.zero_le _, rfl⟩, p', g, cap, _, rfl, ⟨hnc, hcm, hlen⟩, ⟨hp', hgw⟩, LoopI.start (L := []) ⟨hx1.mono fun j _ h => hpo j h, H.rd.ext hxe (fun h => by have := hown _ h; omega) (fun j _ hj h => by have := hAG j hj; have := hown j h; omega), hreg, H.new, hold, ⟨hgo, trivial⟩, ⟨?_, ?_, fun h => by obtain ⟨y, hy, _⟩ := h; simp at hy, trivial⟩, fun w2 x2 => hx1.trans x2 fun j hj h => ?_⟩⟩)
    · rcases hgw with h | h
      · exact .inr h
      · exact .inl (hpo g h)
    · intro h
      have h : g = pb2 := h
      rcases hap.blk with h2 | ⟨q, h2, hle⟩
      · have := hown g (hcb g (h2.symm.trans rfl)); omega
      · simp only [Value.ownBlock, Option.some.injEq] at h2
        omega
    · rcases h with h | h
      · omega
      · obtain ⟨y, hy, he⟩ := h
        rw [List.mem_singleton] at hy
        subst hy
        have he : g = j := he
        rcases hgw with h | h
        · omega
        · rw [← he]; exact h
  rcases ha with ⟨rfl, _⟩ | ⟨_, g0, n0, c0, cs0, rfl, ⟨h1, h2, h3⟩, h4, h5⟩
  · exact ⟨0, [], by omega, OwnSl.nil w e sz, ⟨hs, hz, hok⟩, ⟨by rw [maxLen_eq]; omega, hbig⟩, hfin⟩
  · refine ⟨0, [], by omega, ?_, ⟨hs, hz, hok⟩, ⟨by rw [maxLen_eq]; omega, hbig⟩, hfin⟩
    have := OwnSl.of_own (h5.e0 hx0) sz 0 c0 (Nat.zero_le _) h2 h3
    rw [Nat.zero_mul, List.take_zero] at this
    exact this
/-- A nullable list ahead of its things: of none the slice is a new one. -/
def TagE (w1 : World) (G : Nat → Prop) (pb pb2 : Nat) (e : TypeId) (s0 : Rd) (n : Int) (a0 a : Value) (w : World) : Prop :=
  (n ≠ 0 ∧ a = a0 ∧ St w1 G pb pb2 s0 [] (fun w' => Ext nob w1 w') w) ∨ (n = 0 ∧ ∃ b, a = .slice (some ⟨b, 0, .none⟩) 0 0 ∧ w1.heap.size ≤ b ∧ St w1 G pb pb2 s0 [(b, e, [])] (fun w' => Ext nob w1 w') w)
theorem TagE.st (h : TagE w1 G pb pb2 e s0 n a0 a w) : ∃ L, St w1 G pb pb2 s0 L (fun w' => Ext nob w1 w') w := by
  rcases h with ⟨_, _, H⟩ | ⟨_, b, _, _, H⟩
  · exact ⟨_, H⟩
  · exact ⟨_, H⟩
theorem TagE.new (hn : n = 0) {b : Nat} {w' : World} (H : St w1 G pb pb2 s0 [] (fun w' => Ext nob w1 w') w) (x : Ext nob w w') (ho : Own w' b e []) (hb : w.heap.size ≤ b) : TagE w1 G pb pb2 e s0 n a0 (.slice (some ⟨b, 0, .none⟩) 0 0) w' :=
  .inr ⟨hn, b, rfl, by have := H.now.size; omega, H.push x ho hb⟩
theorem TagE.ok (h : TagE w1 G pb pb2 e s0 n a0 a w) : Does X.P 49 #[.pointer (some ⟨pb2, 0, .none⟩)] w fun r w' => r = .bool (!s0.2) ∧ TagE w1 G pb pb2 e s0 n a0 a w' := by
  obtain ⟨L, H⟩ := h.st
  refine Does.mono (rdOk_does H.rd) ?_
  rintro r w1 ⟨rfl, rfl⟩
  exact ⟨rfl, h⟩
theorem TagE.slice {sz : Nat} {nl0 : Bool} (h : TagE w1 G pb pb2 e s0 n a0 a w) (ha : OwnL w1 wA e sz a0 nl0) : ∃ q m c, a = .slice q m c ∧ (∀ x, q = some x → x.spot = .none ∧ x.off = 0) ∧ m ≤ c := by
  rcases h with ⟨_, rfl, _⟩ | ⟨_, b, rfl, _, _⟩
  · exact ha.slice
  · refine ⟨some ⟨b, 0, .none⟩, 0, 0, rfl, fun x h => ?_, Nat.le_refl _⟩
    cases h
    exact ⟨rfl, rfl⟩
theorem TagE.pos (h : TagE w1 G pb pb2 e s0 n a0 a w) (hn : 0 < n) : a = a0 ∧ St w1 G pb pb2 s0 [] (fun w' => Ext nob w1 w') w := by
  rcases h with ⟨_, e, H⟩ | ⟨e, _⟩
  · exact ⟨e, H⟩
  · omega
theorem TagE.npos (h : TagE w1 G pb pb2 e s0 n a0 a w) (hn : n ≤ 0) (h1 : n = 0 → nv = false) (h2 : n ≠ 0 → nv = true) : TagI w1 G pb pb2 e z rd R s0 n nv a0 (cut0 a) 0 w := by
  rcases h with ⟨e, rfl, H⟩ | ⟨e, b, rfl, hb, H⟩
  · exact TagI.none hn (h2 e) H
  · exact TagI.empty hn (h1 e) hb H
/-- All have been read. -/
theorem TagI.done {fx : Bool} {nl : Int → Bool} {sz : Nat} {nl0 : Bool} (h : TagI w1 G pb pb2 e z rd R s0 n nv a0 a i w) (hi : ¬ (i : Int) < n) (hln : rdLn fx s = (n, s0)) (hnl : nl n = nv) (hz : z.length = sz) (hR : ∀ c y, Later fun wf => R wf c y) (ha : OwnL w1 wA e sz a0 nl0) (h1 : wA.heap.size ≤ w1.heap.size) : ∃ (ts : List T) (s' : Rd), a.oneCell' = true ∧ ((nv && nl0) = true → ts = []) ∧ rdLs nl rd fx s = (.mk 0 [] nv ts [], s') ∧ RdW w G pb2 s' ∧ Ext (OwnB a0) w1 w ∧ OwnL w wA e sz a (nv && nl0) ∧ (∀ k, OwnB a k → OwnB a0 k ∨ w1.heap.size ≤ k) ∧
      ListR true sz (R ⟨w, fun k => FG w1 G k ∨ OwnB a0 k⟩) w (fun k => FG w1 G k ∨ OwnB a0 k) a (.mk 0 [] (nv && nl0) ts []) := by
  subst hz
  unfold rdLs
  rw [hln]
  simp only [hnl]
  rcases h with ⟨⟨h2, h3⟩, h | h⟩ | ⟨⟨h2, h3, h4⟩, p', g, cap, post, rfl, h5, h6, h7⟩
  · obtain ⟨hv, rfl, H⟩ := h
    have h0 : n.toNat = 0 := by omega
    rw [h0, hv, Bool.true_and]
    have hx := H.now
    rcases ha with ⟨rfl, rfl⟩ | ⟨rfl, g0, n0, c0, cs0, rfl, ⟨g1, g2, g3⟩, g4, g5⟩
    · exact ⟨[], s0, rfl, fun _ => rfl, rfl, H.rd, hx.mono fun _ _ f => f.elim, OwnL.nil _ _ _ _, fun k hk => .inl hk, .inl ⟨rfl, rfl⟩⟩
    · have ho := g5.e0 hx
      refine ⟨[], s0, rfl, fun h => (by cases h), rfl, H.rd, hx.mono fun _ _ f => f.elim, .inr ⟨rfl, g0, 0, c0, cs0, rfl, ⟨Nat.zero_le _, g2, g3⟩, g4, ho⟩, fun k hk => .inl ?_, .inr ⟨rfl, fun _ => ⟨_, _, _, rfl⟩, [], ⟨⟨_, c0, rfl, ⟨Nat.zero_le _, g2⟩, by simp, .inr ⟨g0, 0, rfl, .inr (.inl rfl), ho.lt, Cells.nil _ _ _⟩⟩, by simp⟩, rfl, by simp⟩⟩
      rcases hk with hk | hk
      · exact .inl hk
      · cases hk
  · obtain ⟨hv, b, rfl, hb, H⟩ := h
    have h0 : n.toNat = 0 := by omega
    rw [h0, hv, Bool.false_and]
    have ho := H.head
    refine ⟨[], s0, rfl, fun h => (by cases h), rfl, H.rd, H.now.mono fun _ _ f => f.elim, .inr ⟨rfl, b, 0, 0, [], rfl, ⟨Nat.le_refl _, Nat.zero_le _, by simp⟩, by omega, ho⟩, fun k hk => .inr ?_, .inr ⟨rfl, fun _ => ⟨_, _, _, rfl⟩, [], ⟨⟨_, 0, rfl, ⟨Nat.le_refl _, Nat.zero_le _⟩, by simp, .inr ⟨b, 0, rfl, .inl (.inr hb), ho.lt, Cells.nil _ _ _⟩⟩, by simp⟩, rfl, by simp⟩⟩
    rcases hk with hk | hk
    · simp only [Value.ownBlock, Option.some.injEq] at hk
      omega
    · cases hk
  · have hin : i = n.toNat := by omega
    subst hin
    obtain ⟨es, ts, si, g3, g4, g5, g6, H⟩ := h7
    rw [h4, Bool.false_and]
    have ho := H.head
    have hnow := H.now
    have hcells : es.flatten ++ [] ++ ((List.replicate (n.toNat - n.toNat) z).flatten ++ post) = es.flatten ++ post := by simp
    rw [hcells] at ho
    have hfl := flat_len g4
    rw [g3] at hfl
    have hgF : FG w1 G g ∨ OwnB a0 g := by
      rcases h6.2 with h | h
      · exact .inl (.inr h)
      · exact .inr h
    have hsl : SlE w (fun k => FG w1 G k ∨ OwnB a0 k) z.length (.slice (.some ⟨g, 0, .none⟩) es.length cap) es := by
      refine ⟨⟨_, cap, rfl, ⟨by omega, h5.2.1⟩, flat_len g4, .inr ⟨g, 0, rfl, hgF, ho.lt, fun j u hj => ?_⟩⟩, g4⟩
      refine ho.cell ?_
      have hjl := (List.getElem?_eq_some_iff.1 hj).1
      rw [Nat.zero_add, List.getElem?_append_left hjl]
      exact hj
    rw [g3] at hsl
    refine ⟨ts, si, rfl, fun h => (by cases h), by rw [g5], H.rd, hnow.2, .inr ⟨rfl, g, n.toNat, cap, es.flatten ++ post, rfl, ⟨h5.1, h5.2.1, by rw [List.length_append, hfl]; exact h5.2.2⟩, ?_, ho⟩, fun k hk => ?_, .inr ⟨rfl, fun _ => ⟨_, _, _, rfl⟩, es, hsl, by simp only [T.l]; omega, fun j c y hc hy => hR c y w w _ _ nob (hnow.1 j c y hc hy) (Ext.refl _ _) fun k _ hk => ⟨fun f => f, .inl hk⟩⟩⟩
    · rcases h6.2 with h | h
      · omega
      · exact (ha.lt g h).1
    · rcases hk with hk | hk
      · simp only [Value.ownBlock, Option.some.injEq] at hk
        subst hk
        exact h6.2.symm
      · cases hk
end
/-! ## The tags of a struct -/
theorem TagsO.ext' {M F : Nat → Prop} {w w' : World} {N : Nat} {c : Value} {u : List Tg} (h : TagsO w N F c u) (x : Ext M w w') (hF : ∀ k, k < w.heap.size → F k → ¬ M k) (hc : ∀ k, OwnB c k → ¬ M k) : TagsO w' N F c u := by
  obtain ⟨kvs, h1, h2, h3⟩ := h
  refine ⟨kvs, ?_, h2, fun i y z hy hz => ⟨(h3 i y z hy hz).1, (h3 i y z hy hz).2.ext x hF⟩⟩
  cases h1 with
  | none => exact .none
  | some b kvs hb hf hne => exact .some b kvs (hb.ext x (hc b (.inr rfl))) hf hne
/-- Tags are read. wA: where that began; st: what is left; cells: the struct at hand; m: its unknown tags, u; S: what its tagged fields have come to. -/
structure TgS (wA : World) (G : Nat → Prop) (pb q : Nat) (T : TypeId) (pre cells post : List Value) (Lr : List Ob) (st : Rd) (m : Value) (u : List Tg) (S : Value → World → Prop) (w : World) : Prop where
  ext : Ext (fun k => k = pb ∨ inL ((q, T, []) :: Lr) k) wA w
  rd : RdS w G pb st
  own : Owns w ((q, T, pre ++ cells ++ post) :: Lr)
  tag : TagsO w wA.heap.size G m u
  tagb : ∀ k, OwnB m k → wA.heap.size ≤ k ∧ k < w.heap.size
  one : m.oneCell' = true
  slots : S m w
  clo : ∀ w w' m m', S m w → Ext (Mof pb ((q, T, []) :: Lr) [m]) w w' → (∀ k, OwnB m' k → OwnB m k ∨ w.heap.size ≤ k) → S m' w'
/-- What is known of the blocks ahead of the tags. -/
structure TgA (wA : World) (G : Nat → Prop) (pb q : Nat) (T : TypeId) (Lr : List Ob) : Prop where
  lt : ∀ k, (k = pb ∨ inL ((q, T, []) :: Lr) k) → k < wA.heap.size ∧ ¬ G k
  old : ∀ k, G k → k < wA.heap.size
  ne : ∀ k, inL ((q, T, []) :: Lr) k → k ≠ pb
  nin : ¬ inL Lr q
theorem inL_any {q : Nat} {T T' : TypeId} {c c' : List Value} {L : List Ob} {k : Nat} (h : inL ((q, T, c) :: L) k) : inL ((q, T', c') :: L) k := by
  rcases h.cases with h | h
  · exact ⟨(q, T', c'), by simp, h.symm⟩
  · exact h.tail
section
variable {w0 wA w w' : World} {G : Nat → Prop} {p pb q : Nat} {T : TypeId} {pre cells cellsA post : List Value} {Lr : List Ob} {s st : Rd} {m : Value} {u : List Tg} {S S' : Value → World → Prop} {P : World → Prop}
theorem St.tgA (H : St w0 G p pb s ((q, T, cellsA) :: Lr) P wA) : TgA wA G pb q T Lr where
  lt := fun k hk => by
    rcases hk with rfl | hk
    · exact ⟨H.rd.lt, fun g => H.Gpb _ g rfl⟩
    · have hk := inL_any (T' := T) (c' := cellsA) hk
      refine ⟨H.own.lt k hk, fun g => ?_⟩
      have := H.reg k g
      rcases H.dis.old k hk with h | h <;> omega
  old := fun k g => by have := (H.reg k g).1; have := H.ext.size; omega
  ne := fun k hk e => H.dis.pb (L := (q, T, cellsA) :: Lr) (e ▸ inL_any hk)
  nin := H.dis.2.2.1
theorem TgS.e0 (H : TgS wA G pb q T pre cells post Lr st m u S w) (x : Ext nob w w') : TgS wA G pb q T pre cells post Lr st m u S w' :=
  ⟨H.ext.tr0 x, H.rd.ext x (fun f => f) fun _ _ _ f => f, H.own.ext x fun _ _ f => f, H.tag.e0 x, fun k hk => by have := H.tagb k hk; have := x.size; omega, H.one, H.clo _ _ _ _ H.slots (x.mono fun _ _ f => f.elim) fun k h => .inl h, H.clo⟩
theorem TgS.step {st' : Rd} (hA : TgA wA G pb q T Lr) (H : TgS wA G pb q T pre cells post Lr st m u S w) (h : RdD w G pb st' w') : TgS wA G pb q T pre cells post Lr st' m u S w' := by
  have x := h.2
  have hsA := H.ext.size
  refine ⟨H.ext.trans x fun k _ e => .inl e, h.1, H.own.ext x fun k hk e => ?_, H.tag.ext' x (fun k _ g e => ?_) (fun k hk e => ?_), fun k hk => by have := H.tagb k hk; have := x.size; omega, H.one, H.clo _ _ _ _ H.slots (x.mono fun k _ e => .inl (.inl e)) fun k h => .inl h, H.clo⟩
  · exact hA.ne k (inL_any hk) e
  · exact (hA.lt k (.inl e)).2 g
  · have := H.tagb k hk
    have := (hA.lt k (.inl e)).1
    omega
theorem TgS.uv (hA : TgA wA G pb q T Lr) (H : TgS wA G pb q T pre cells post Lr st m u S w) : Does X.P 59 #[.pointer (some ⟨pb, 0, none⟩)] w fun r w' => ∃ (k : Nat) (st' : Rd), r = .int .u32 (k : Int) ∧ k < 4294967296 ∧ rdUv st = (k, st') ∧ TgS wA G pb q T pre cells post Lr st' m u S w' := by
  refine Does.mono (rdUvarint_does H.rd.w fun k g e => (hA.lt k (.inl e)).2 g) ?_
  rintro r w1 ⟨rfl, h⟩
  exact ⟨_, _, rfl, rdUv_lt st, rfl, H.step hA h⟩
theorem TgS.span (hA : TgA wA G pb q T Lr) (H : TgS wA G pb q T pre cells post Lr st m u S w) (n : Int) : Does X.P 61 #[.pointer (some ⟨pb, 0, none⟩), .int .i64 n] w fun r w' => ∃ (b : List UInt8) (st' : Rd), rdSpan n st = (b, st') ∧ Bytes w' G r b ∧ TgS wA G pb q T pre cells post Lr st' m u S w' := by
  refine Does.mono (Span_does H.rd.w n (.inl H.rd) fun k g e => (hA.lt k (.inl e)).2 g) ?_
  rintro r w1 ⟨⟨hb, _, _⟩, h⟩
  exact ⟨_, _, rfl, hb, H.step hA h⟩
/-- An unknown tag is set. -/
theorem TgS.set (hA : TgA wA G pb q T Lr) (H : TgS wA G pb q T pre cells post Lr st m u S w) {o om : Nat} {key : Nat} {a : Option Addr} {n cap : Nat} {b : List UInt8} (hm : cells[om]? = some m) (hp : o = pre.length + om) (hb : Bytes w G (.slice a n cap) b) :
    Does X.P 60 #[.pointer (some ⟨q, o, none⟩), .int .u32 (key : Int), .slice a n cap] w fun r w' => ∃ m', TgS wA G pb q T pre (cells.set om m') post Lr st m' (setT u (key, b)) S w' := by
  have hol := (List.getElem?_eq_some_iff.1 hm).1
  have hcell : (pre ++ cells ++ post)[o]? = some m := by
    rw [hp, List.append_assoc, List.getElem?_append_right (by omega), Nat.add_sub_cancel_left, List.getElem?_append_left hol]
    exact hm
  have hset : ∀ m', (pre ++ cells ++ post).set o m' = pre ++ cells.set om m' ++ post := by
    intro m'
    rw [hp, List.append_assoc, List.set_append_right _ _ (by omega), Nat.add_sub_cancel_left, List.set_append_left _ _ hol, List.append_assoc]
  have hsA := H.ext.size
  have hqA := hA.lt q (.inr (inL.head _ _))
  refine Does.mono (Tags_Put_does (N := wA.heap.size) (key := key) H.own.1 hcell H.tag hsA (fun b' e h => by have := (H.tagb b' (.inr e)).1; omega) (fun k g => ⟨hA.old k g, fun e => hqA.2 (e ▸ g)⟩) hb) ?_
  rintro r w' ⟨m', hone, ho, ht, hx, hm'⟩
  rw [hset] at ho
  have hxq : ∀ k, k = q → ¬ OwnB m k := fun k e h => by have := (H.tagb k h).1; omega
  have hsz := hx.size
  refine ⟨m', H.ext.trans hx fun k hk e => ?_, H.rd.ext hx ?_ ?_, ⟨ho, H.own.2.ext hx ?_⟩, ht, ?_, hone, ?_, H.clo⟩
  · rcases e with e | e
    · exact .inr (e ▸ inL.head _ _)
    · have := (H.tagb k (.inr e)).1; omega
  · rintro (e | e)
    · exact hA.ne q (inL.head _ _) e.symm
    · have := (H.tagb pb (.inr e)).1
      have := (hA.lt pb (.inl rfl)).1
      omega
  · rintro k _ g (e | e)
    · exact hqA.2 (e ▸ g)
    · have := (H.tagb k (.inr e)).1
      have := hA.old k g
      omega
  · rintro k hk (e | e)
    · exact hA.nin (e ▸ hk)
    · have := (H.tagb k (.inr e)).1
      have := (hA.lt k (.inr hk.tail)).1
      omega
  · intro k hk
    rcases hm' with rfl | ⟨b2, rfl, hle⟩
    · have := H.tagb k hk; omega
    · rcases hk with hk | hk
      · simp [Value.ownBlock] at hk
      · simp only [Value.map.injEq, Option.some.injEq] at hk
        subst hk
        obtain ⟨kvs, hmm, _⟩ := ht
        cases hmm with
        | some _ _ hb2 _ _ => exact ⟨by omega, hb2.lt⟩
  · refine H.clo _ _ _ _ H.slots (hx.mono fun k _ e => ?_) fun k hk => ?_
    · rcases e with e | e
      · exact .inl (.inr (e ▸ inL.head _ _))
      · exact .inr ⟨m, by simp, .inr e⟩
    · rcases hm' with rfl | ⟨b2, rfl, hle⟩
      · exact .inl hk
      · rcases hk with hk | hk
        · simp [Value.ownBlock] at hk
        · simp only [Value.map.injEq, Option.some.injEq] at hk
          exact .inr (by omega)
/-- A tagged field has been read: what its old list had may be written, and the struct at hand. -/
theorem TgS.put {w1 : World} {a0 : Value} {cells' : List Value} (hA : TgA wA G pb q T Lr) (H : TgS wA G pb q T pre cells post Lr st m u S w1) (x : Ext (fun k => OwnB a0 k ∨ k = q) w1 w) (ho : Own w q T (pre ++ cells' ++ post)) (ha : ∀ k, OwnB a0 k → wA.heap.size ≤ k ∧ ¬ OwnB m k) (hs : S' m w)
    (hclo : ∀ w w' m m', S' m w → Ext (Mof pb ((q, T, []) :: Lr) [m]) w w' → (∀ k, OwnB m' k → OwnB m k ∨ w.heap.size ≤ k) → S' m' w') : TgS wA G pb q T pre cells' post Lr st m u S' w := by
  have hqA := hA.lt q (.inr (inL.head _ _))
  have hsA := H.ext.size
  have hsz := x.size
  refine ⟨H.ext.trans x fun k hk e => ?_, H.rd.ext x ?_ ?_, ⟨ho, H.own.2.ext x ?_⟩, H.tag.ext' x ?_ ?_, fun k hk => by have := H.tagb k hk; omega, H.one, hs, hclo⟩
  · rcases e with e | e
    · have := (ha k e).1; omega
    · exact .inr (e ▸ inL.head _ _)
  · rintro (e | e)
    · have := (ha pb e).1
      have := (hA.lt pb (.inl rfl)).1
      omega
    · exact hA.ne q (inL.head _ _) e.symm
  · rintro k _ g (e | e)
    · have := (ha k e).1
      have := hA.old k g
      omega
    · exact hqA.2 (e ▸ g)
  · rintro k hk (e | e)
    · have := (ha k e).1
      have := (hA.lt k (.inr hk.tail)).1
      omega
    · exact hA.nin (e ▸ hk)
  · rintro k _ g (e | e)
    · have := (ha k e).1
      have := hA.old k g
      omega
    · exact hqA.2 (e ▸ g)
  · rintro k hk (e | e)
    · exact (ha k e).2 hk
    · have := (H.tagb k hk).1
      omega
theorem TgS.start (HA : St w0 G p pb s ((q, T, pre ++ cells ++ post) :: Lr) P wA) (hr : RdD wA G pb st w) (hs : S (.map none) w)
    (hclo : ∀ w w' m m', S m w → Ext (Mof pb ((q, T, []) :: Lr) [m]) w w' → (∀ k, OwnB m' k → OwnB m k ∨ w.heap.size ≤ k) → S m' w') : TgS wA G pb q T pre cells post Lr st (.map none) [] S w :=
  ⟨hr.2.mono fun k _ e => .inl e, hr.1, HA.own.ext hr.2 fun k hk e => HA.dis.pb (e ▸ hk), TagsO.nil _ _ _, fun k hk => by rcases hk with hk | hk <;> simp [Value.ownBlock] at hk, rfl, hs, hclo⟩
/-- All tags have been read. -/
theorem TgS.out (HA : St w0 G p pb s ((q, T, pre ++ cellsA ++ post) :: Lr) P wA) (H : TgS wA G pb q T pre cells post Lr st m u S w) : St w0 G p pb st ((q, T, pre ++ cells ++ post) :: Lr) (fun w => TGf w0 G m u w ∧ P w) w := by
  have hd := HA.dis
  have H1 : St w0 G p pb st ((q, T, pre ++ cells ++ post) :: Lr) P w := HA.step (H.ext.mono fun k _ h => h.imp id inL_any) H.rd.w H.own ⟨hd.1, hd.2.1, hd.2.2.1, hd.2.2.2⟩ fun k h => .inl (inL_any h)
  have hA := HA.tgA
  refine H1.keep (tagsL m u) H.tag.tags fun k hk hf => ?_
  have hsA := HA.ext.size
  rcases hf with g | g
  · exact ⟨fun e => (hA.lt k (.inl e)).2 g, fun e => (hA.lt k (.inr (inL_any e))).2 g, .inl g⟩
  · exact ⟨fun e => by have := (hA.lt k (.inl e)).1; omega, fun e => by have := (hA.lt k (.inr (inL_any e))).1; omega, .inr (by omega)⟩
theorem Slot.out {d : Nat} {f : Fd} {e : TypeId} {sz : Nat} {others cs : List Value} {x : K.T} {P' : World → Prop} {cellsB : List Value} (HA : St w0 G p pb s ((q, T, cellsA) :: Lr) P wA) (h : Slot w wA G d f e sz others cs x) (H : St w0 G p pb st ((q, T, cellsB) :: Lr) P' w) : St w0 G p pb st ((q, T, cellsB) :: Lr) (fun w => QField true d f ⟨w, FG w0 G⟩ cs x ∧ P' w) w := by
  have hA := HA.tgA
  refine H.keep (QField_later true d f cs x) h.q fun k hk hf => ?_
  have hsA := HA.ext.size
  rcases hf.1 with g | g
  · exact ⟨fun e => (hA.lt k (.inl e)).2 g, fun e => (hA.lt k (.inr (inL_any e))).2 g, .inl g⟩
  · exact ⟨fun e => by have := (hA.lt k (.inl e)).1; omega, fun e => by have := (hA.lt k (.inr (inL_any e))).1; omega, .inr (by omega)⟩
/-- A tagged field is read into the struct at hand, by a reader of its own. -/
theorem TgS.tagq {w1 : World} {pb2 : Nat} {T' : TypeId} {l : List UInt8} {x : Value} (hA : TgA wA G pb q T Lr) (H : TgS wA G pb q T pre cells post Lr st m u S w1) (hb : Own w pb2 T' [x, .bool false]) (hx : Bytes w G x l) (he : Ext nob w1 w) (hnew : w1.heap.size ≤ pb2) : St w1 G q pb2 (l, false) [(q, T, pre ++ cells ++ post)] (fun w' => Ext (fun k => k = q) w1 w') w := by
  have hq := hA.lt q (.inr (inL.head _ _))
  have hs := H.ext.size
  refine ⟨he.mono fun _ _ f => f.elim, ⟨T', x, hb, hx, fun h => (by cases h)⟩, fun k g => ⟨by have := hA.old k g; omega, fun e => hq.2 (e ▸ g)⟩, hnew, by omega, ⟨H.own.1.e0 he, trivial⟩, ⟨.inl rfl, by omega, fun h => by obtain ⟨y, hy, _⟩ := h; simp at hy, trivial⟩, fun w' x => ?_⟩
  refine (he.mono fun _ _ f => f.elim).trans x fun k hk h => ?_
  rcases h with h | h
  · omega
  · rcases h.cases with h | h
    · exact h
    · obtain ⟨y, hy, _⟩ := h; simp at hy
theorem Slot.readq {f : Fd} {d : Nat} {e : TypeId} {sz : Nat} {os cs : List Value} {x : K.T} {w1 : World} (hA : TgA wA G pb q T Lr) (H : TgS wA G pb q T pre cells post Lr st m u S w1) (hq : QField true d f ⟨w, FG w1 G⟩ cs x) (h11 : f.kind ≠ 11) (ho : ∀ c, c ∈ os → ∀ k, OwnB c k → wA.heap.size ≤ k ∧ k < w1.heap.size) : Slot w wA G d f e sz (m :: os) cs x :=
  Slot.new (a0 := .slice .none 0 0) (w1 := w1) (QField_later true d f cs x w w _ _ nob hq (Ext.refl _ _) fun k _ h => ⟨fun f => f, .inl h⟩) (fun h => absurd h h11) (fun c _ k h => by rcases h with h | h <;> simp [Value.ownBlock] at h) (fun c hc k hk => by
    rcases List.mem_cons.1 hc with rfl | hc
    · exact H.tagb k hk
    · exact ho c hc k hk) hA.old H.ext.size (fun k h => by rcases h with h | h <;> simp [Value.ownBlock] at h)
theorem TgS.ext0 (HA : St w0 G p pb s ((q, T, cellsA) :: Lr) P wA) (H : TgS wA G pb q T pre cells post Lr st m u S w) : Ext (fun k => k = p) w0 w :=
  HA.ext.trans H.ext fun k hk e => by
    rcases e with e | e
    · have := HA.new; omega
    · rcases HA.dis.old k (inL_any e) with h | h
      · exact h
      · omega
theorem TgS.laid {ev : Value} (HA : St w0 G p pb s ((q, T, cellsA) :: Lr) P wA) (hL : Laid w0 ev) (hp1 : p ≠ errG) (H : TgS wA G pb q T pre cells post Lr st m u S w) : Laid w ev := hL.ext (H.ext0 HA) (Ne.symm hp1)
theorem TgS.rd2 {w1 w5 : World} {pb2 : Nat} {s' : Rd} (hA : TgA wA G pb q T Lr) (H : TgS wA G pb q T pre cells post Lr st m u S w1) (hpb : w1.heap.size ≤ pb2) (hr : RdW w5 G pb2 s') (hx : Ext (fun k => k = q) w5 w) : RdW w G pb2 s' := by
  have hq := hA.lt q (.inr (inL.head _ _))
  have := H.ext.size
  exact hr.ext hx (fun e => by omega) fun k _ g e => hq.2 (e ▸ g)
theorem RdPost.fell {w0 w : World} {p : Nat} {ty : TypeId} {v : Int} {fx tg : Bool} {ds : List Fd} {ev : Value} {l : List UInt8} (hb : (rdPart 9 v fx ds (l, false)).2.2 = true) (x : Ext (fun k => k = p) w0 w) : RdPost w0 p ty v fx tg ds ev l ev w := by
  refine ⟨by rw [if_pos hb], x, fun h => ?_⟩
  rw [hb] at h
  cases h
theorem own_cell {w : World} {q : Nat} {T : TypeId} {pre cur post : List Value} (h : Own w q T (pre ++ cur ++ post)) {o : Nat} (ho : pre.length = o) {k : Nat} {v : Value} (hk : cur[k]? = some v) : w.cell? ⟨q, o + k, none⟩ = some v := by
  subst ho
  refine h.cell ?_
  have hkl := (List.getElem?_eq_some_iff.1 hk).1
  rw [List.append_assoc, List.getElem?_append_right (by omega), Nat.add_sub_cancel_left, List.getElem?_append_left hkl]
  exact hk
theorem TgS.src (hA : TgA wA G pb q T Lr) (H : TgS wA G pb q T pre cells post Lr st m u S w) : (∀ k, G k → k < w.heap.size ∧ k ≠ pb) ∧ pb < w.heap.size := by
  have := H.ext.size
  have h1 := hA.lt pb (.inl rfl)
  exact ⟨fun k g => ⟨by have := hA.old k g; omega, fun e => h1.2 (e ▸ g)⟩, by omega⟩
theorem TgS.ownq {w1 : World} {a0 : Value} (hA : TgA wA G pb q T Lr) (H : TgS wA G pb q T pre cells post Lr st m u S w1) (x : Ext (OwnB a0) w1 w) (ha : ∀ k, OwnB a0 k → wA.heap.size ≤ k) : Own w q T (pre ++ cells ++ post) :=
  H.own.1.ext x fun h => by have := ha q h; have := (hA.lt q (.inr (inL.head _ _))).1; omega
end
section
variable {w w' w1 wA : World} {G : Nat → Prop} {d : Nat} {f : Fd} {e : TypeId} {sz : Nat} {os os' : List Value} {cs : List Value} {x : T} {pb q : Nat} {Lr : List Ob} {m m' : Value}
theorem Slot.ownL {others : List Value} {a : Value} (h : Slot w wA G d f e sz others [a] x) (h11 : f.kind = 11) : OwnL w wA e sz a x.nl ∧ ∀ c, c ∈ others → ∀ k, OwnB a k → ¬ OwnB c k := by
  obtain ⟨b, hb, h1, h2⟩ := h.own h11
  simp only [List.cons.injEq, and_true] at hb
  subst hb
  exact ⟨h1, h2⟩
theorem Slot.clo {Tq : TypeId} (hA : TgA wA G pb q Tq Lr) (h : Slot w wA G d f e sz (m :: os) cs x) (hx : Ext (Mof pb ((q, Tq, []) :: Lr) [m]) w w') (hm : ∀ k, OwnB m' k → OwnB m k ∨ w.heap.size ≤ k) : Slot w' wA G d f e sz (m' :: os) cs x := by
  refine h.keep (pb := pb) (L := (q, Tq, []) :: Lr) (hx.mono fun k _ hk => ?_) hA.lt fun c hc k hk => ?_
  · rcases hk with hk | ⟨c, hc, hk⟩
    · exact .inl hk
    · rw [List.mem_singleton] at hc
      exact .inr ⟨m, by simp, hc ▸ hk⟩
  · rcases List.mem_cons.1 hc with rfl | hc
    · exact (hm k hk).imp (fun h => ⟨m, by simp, h⟩) id
    · exact .inl ⟨c, by simp [hc], hk⟩
/-- Another tagged field has been read. -/
theorem Slot.other {Tq : TypeId} {a0 : Value} (hA : TgA wA G pb q Tq Lr) (h : Slot w1 wA G d f e sz (m :: os) cs x) (hx : Ext (fun k => OwnB a0 k ∨ k = q) w1 w) (ha : ∀ k, OwnB a0 k → a0 ∈ os) (ho : ∀ c, c ∈ os' → ∀ k, OwnB c k → (∃ c', c' ∈ m :: os ∧ OwnB c' k) ∨ w1.heap.size ≤ k) : Slot w wA G d f e sz (m :: os') cs x := by
  refine h.keep (pb := pb) (L := (q, Tq, []) :: Lr) (hx.mono fun k _ hk => ?_) hA.lt fun c hc k hk => ?_
  · rcases hk with hk | hk
    · exact .inr ⟨a0, by simp [ha k hk], hk⟩
    · exact .inl (.inr (hk ▸ inL.head _ _))
  · rcases List.mem_cons.1 hc with rfl | hc
    · exact .inl ⟨_, by simp, hk⟩
    · exact ho c hc k hk
/-- The tagged field that has been read, behind the store. -/
theorem Slot.read {Tq : TypeId} {a0 : Value} {w5 : World} (hA : TgA wA G pb q Tq Lr) (hq : QField true d f ⟨w5, fun k => FG w1 G k ∨ OwnB a0 k⟩ cs x) (hown : f.kind = 11 → ∃ a, cs = [a] ∧ OwnL w5 wA e sz a x.nl ∧ ∀ k, OwnB a k → OwnB a0 k ∨ w1.heap.size ≤ k) (hsep : ∀ c, c ∈ m :: os → ∀ k, OwnB a0 k → ¬ OwnB c k)
    (ho : ∀ c, c ∈ m :: os → ∀ k, OwnB c k → wA.heap.size ≤ k ∧ k < w1.heap.size) (h1 : wA.heap.size ≤ w1.heap.size) (ha0 : ∀ k, OwnB a0 k → wA.heap.size ≤ k) (hx : Ext (fun k => k = q) w5 w) : Slot w wA G d f e sz (m :: os) cs x :=
  (Slot.new hq hown hsep ho hA.old h1 ha0).keep (pb := pb) (L := (q, Tq, []) :: Lr) (hx.mono fun k _ hk => .inl (.inr (hk ▸ inL.head _ _))) hA.lt fun c hc k hk => .inl ⟨c, hc, hk⟩
theorem Slot.none (hq : ∀ F, QField true d f ⟨w, F⟩ cs x) (h : f.kind = 11 → cs = [.slice .none 0 0] ∧ x.nl = true) : Slot w wA G d f e sz os cs x :=
  ⟨hq _, fun h11 => ⟨_, (h h11).1, by rw [(h h11).2]; exact OwnL.nil _ _ _ _, fun c _ k hk => by rcases hk with hk | hk <;> simp [Value.ownBlock] at hk⟩⟩
end
theorem no_own (k : Nat) : ¬ OwnB (.slice none 0 0) k := fun h => by rcases h with h | h <;> simp [Value.ownBlock] at h
theorem tgX_list {fr to nul tag df of : Int} {sub : List Fd} {old : T} {nv : Bool} {l : List T} : tgX (.mk 11 fr to nul tag df of sub) old (.mk 0 [] nv l []) = .mk 0 [] (nv && old.nl) l [] := by
  unfold tgX
  cases h : old.nl with
  | false => rw [if_pos ⟨rfl, rfl⟩, Bool.and_false]; rfl
  | true => rw [if_neg (fun h => by cases h.2), Bool.and_true]
theorem tgX_ne {f : Fd} {old x : T} (h : f.kind ≠ 11) : tgX f old x = x := by
  unfold tgX
  rw [if_neg fun e => h e.1]
theorem rdTgX_next {rf : Fd → Rd → T × Rd} {fs : List Fd} {n : Nat} {l l' : List T} {u : List Tg} {s s1 s2 s3 si : Rd} {k z : Nat} {b : List UInt8} {i : Nat} {f : Fd} {x : T} {R : (List T × List Tg) × Rd} (hrun : rdTgX rf fs (n + 1) l u s = R) (h1 : rdUv s = (k, s1)) (h2 : rdUv s1 = (z, s2)) (h3 : rdSpan (z : Int) s2 = (b, s3)) (ht : tagIx fs 0 k = some (i, f)) (hx : rf f (b, false) = (x, si)) (hb : si.2 = false)
    (hl : l.set i (tgX f ((l[i]?).getD T.zero) x) = l') : rdTgX rf fs n l' u s3 = R := by
  rw [← hrun, rdTgX_some h1 h2 h3 ht hx, if_neg (by rw [hb]; decide), hl]
theorem elQ_later (d : Nat) (of : Int) (sub : List Fd) (c : List Value) (y : T) : Later fun wf => elQ true d of sub wf c y := QV_later (fun sub cs x => QPartW_later (QField_later true d) true sub cs x) of sub false c y
end Go.Proofs.YtgfkjnbhcekfkaaGreatDoor.K
