
/- Telling a message: what is new and ours, what is known from now on; slices that grow. What was told is handed back. Telling a message: single things; unknown tags; slices that grow. -/
import Derived.Test.YtepamajphjgigaaGreatDoorE5
import Derived.Test.YtepamajphjgigaaGreatDoorF1
/-! Telling a message: what is new and ours, what is known from now on; slices that grow. -/
set_option linter.unusedVariables false
set_option linter.unusedSimpArgs false
namespace Go.Proofs.YtepamajphjgigaaGreatDoor.K
open Go
set_option maxHeartbeats 800000

/-- Blocks from N on, none twice. -/
def New (N : Nat) : List Ob → Prop
  | [] => True
  | x :: r => N ≤ x.1 ∧ ¬ inL r x.1 ∧ New N r
theorem New.ge {N : Nat} : ∀ {L : List Ob}, New N L → ∀ k, inL L k → N ≤ k
  | [], _, k, h => by obtain ⟨y, h1, _⟩ := h; simp at h1
  | x :: r, h, k, hk => by
    rcases hk.cases with rfl | hk
    · exact h.1
    · exact New.ge h.2.2 k hk
structure Sg (w0 : World) (L : List Ob) (P : World → Prop) (w : World) : Prop where
  ext : Ext nob w0 w
  own : Owns w L
  dis : New w0.heap.size L
  fut : ∀ w', Ext (fun k => inL L k) w w' → P w'
theorem inL_app {A B : List Ob} {k : Nat} : inL (A ++ B) k ↔ inL A k ∨ inL B k := by
  constructor
  · rintro ⟨x, h1, h2⟩
    rcases List.mem_append.1 h1 with h | h
    · exact .inl ⟨x, h, h2⟩
    · exact .inr ⟨x, h, h2⟩
  · rintro (⟨x, h1, h2⟩ | ⟨x, h1, h2⟩)
    · exact ⟨x, List.mem_append_left _ h1, h2⟩
    · exact ⟨x, List.mem_append_right _ h1, h2⟩
theorem inL_cons {x : Ob} {B : List Ob} {k : Nat} : inL (x :: B) k ↔ k = x.1 ∨ inL B k := ⟨fun h => h.cases, fun h => h.elim (fun e => ⟨x, by simp, e.symm⟩) fun h => h.tail⟩
theorem inL_nil {k : Nat} : ¬ inL [] k := fun ⟨x, h, _⟩ => by simp at h
theorem Owns.mid {w : World} {x : Ob} {B : List Ob} : ∀ {A : List Ob}, Owns w (A ++ x :: B) → Own w x.1 x.2.1 x.2.2
  | [], h => h.1
  | y :: A, h => Owns.mid (A := A) h.2
theorem New.mid {N : Nat} {x : Ob} {B : List Ob} : ∀ {A : List Ob}, New N (A ++ x :: B) → N ≤ x.1 ∧ ¬ inL A x.1 ∧ ¬ inL B x.1
  | [], h => ⟨h.1, inL_nil, h.2.1⟩
  | y :: A, h => by
    obtain ⟨h1, h2, h3⟩ := New.mid (A := A) h.2.2
    refine ⟨h1, fun e => ?_, h3⟩
    rcases e.cases with e | e
    · exact h.2.1 (by rw [← e]; exact inL_app.2 (.inr (inL_cons.2 (.inl rfl))))
    · exact h2 e
theorem New.swap {N q : Nat} {T T' : TypeId} {l l' : List Value} {B : List Ob} : ∀ {A : List Ob}, New N (A ++ (q, T, l) :: B) → New N (A ++ (q, T', l') :: B)
  | [], h => ⟨h.1, h.2.1, h.2.2⟩
  | y :: A, h => ⟨h.1, fun e => h.2.1 (by
      rcases inL_app.1 e with e | e
      · exact inL_app.2 (.inl e)
      · refine inL_app.2 (.inr ?_)
        rcases e.cases with e | e
        · exact ⟨(q, T, l), by simp, e.symm⟩
        · exact e.tail), New.swap (A := A) h.2.2⟩
theorem Owns.swap {w w' : World} {q : Nat} {T T' : TypeId} {l l' : List Value} {B : List Ob} (ho : Own w' q T' l') (x : Ext (fun k => k = q) w w') : ∀ {A : List Ob}, Owns w (A ++ (q, T, l) :: B) → ¬ inL A q → ¬ inL B q → Owns w' (A ++ (q, T', l') :: B)
  | [], h, _, hB => ⟨ho, h.2.ext x fun k hk e => hB (e ▸ hk)⟩
  | y :: A, h, hA, hB => ⟨h.1.ext x fun e => hA (inL_cons.2 (.inl e.symm)), Owns.swap ho x (A := A) h.2 (fun e => hA e.tail) hB⟩
section
variable {w0 w w' : World} {L L' : List Ob} {P : World → Prop}
theorem Sg.start (w0 : World) : Sg w0 [] (fun _ => True) w0 := ⟨Ext.refl _ _, trivial, trivial, fun _ _ => trivial⟩
theorem Sg.now (H : Sg w0 L P w) : P w := H.fut w (Ext.refl _ _)
theorem Sg.step (H : Sg w0 L P w) (x : Ext (fun k => inL L k) w w') (hown : Owns w' L') (hdis : New w0.heap.size L') (hL : ∀ k, inL L' k → inL L k ∨ w.heap.size ≤ k) : Sg w0 L' P w' where
  ext := H.ext.trans x fun k hk h => by have := H.dis.ge k h; omega
  own := hown
  dis := hdis
  fut := fun w2 x2 => H.fut w2 (x.trans x2 fun k hk h => by
    rcases hL k h with h | h
    · exact h
    · omega)
theorem Sg.e0 (H : Sg w0 L P w) (x : Ext nob w w') : Sg w0 L P w' := H.step (x.mono fun _ _ f => f.elim) (H.own.ext x fun _ _ f => f) H.dis fun k h => .inl h
theorem Sg.push {q : Nat} {T : TypeId} {l : List Value} (H : Sg w0 L P w) (x : Ext nob w w') (ho : Own w' q T l) (hq : w.heap.size ≤ q) : Sg w0 ((q, T, l) :: L) P w' := by
  have hs := H.ext.size
  refine H.step (x.mono fun _ _ f => f.elim) ⟨ho, H.own.ext x fun _ _ f => f⟩ ⟨by simp only; omega, fun h => by have := H.own.lt _ h; simp only at this; omega, H.dis⟩ fun k h => ?_
  rcases h.cases with rfl | h
  · exact .inr hq
  · exact .inl h
/-- A block among ours is written. -/
theorem Sg.up {q : Nat} {T : TypeId} {l l' : List Value} {A B : List Ob} (H : Sg w0 (A ++ (q, T, l) :: B) P w) (ho : Own w' q T l') (x : Ext (fun k => k = q) w w') : Sg w0 (A ++ (q, T, l') :: B) P w' := by
  obtain ⟨h1, h2, h3⟩ := H.dis.mid
  refine H.step (x.mono fun k _ e => by subst e; exact inL_app.2 (.inr (inL_cons.2 (.inl rfl)))) (Owns.swap ho x H.own h2 h3) H.dis.swap fun k h => .inl ?_
  rcases inL_app.1 h with h | h
  · exact inL_app.2 (.inl h)
  · refine inL_app.2 (.inr ?_)
    rcases h.cases with e | e
    · exact ⟨(q, T, l), by simp, e.symm⟩
    · exact e.tail
theorem Sg.at {q : Nat} {T : TypeId} {l : List Value} {A B : List Ob} (H : Sg w0 (A ++ (q, T, l) :: B) P w) : Own w q T l := H.own.mid
theorem Sg.add (H : Sg w0 L P w) {Q : World → Prop} (hQ : ∀ w', Ext (fun k => inL L k) w w' → Q w') : Sg w0 L (fun w => Q w ∧ P w) w := ⟨H.ext, H.own, H.dis, fun w2 x2 => ⟨hQ w2 x2, H.fut w2 x2⟩⟩
theorem Sg.weak (H : Sg w0 L P w) {Q : World → Prop} (hQ : ∀ w', P w' → Q w') : Sg w0 L Q w := ⟨H.ext, H.own, H.dis, fun w2 x2 => hQ w2 (H.fut w2 x2)⟩
/-- What has been made since w, in blocks that are none of ours. -/
theorem Sg.keepN (H : Sg w0 L P w) {P' : World → Prop} (H' : Sg w0 L P' w') {Q : WR → Prop} (hQ : Later Q) {F : Nat → Prop} (h : Q ⟨w', F⟩) (hF : ∀ k, F k → w.heap.size ≤ k) : Sg w0 L (fun w => Q ⟨w, fun k => w0.heap.size ≤ k⟩ ∧ P' w) w' :=
  H'.add fun w2 x => hQ w' w2 F _ _ h x fun k hk hf => ⟨fun e => by have := H.own.lt k e; have := hF k hf; omega, by have := hF k hf; have := H.ext.size; omega⟩
theorem trL (c : List Value) (t : T) : Later fun wf => TrC wf.w wf.F c t := fun w w' F F' M h hx hF =>
  ((h.mono (F' := fun k => F k ∧ F' k) fun k hk hf => ⟨hf, (hF k hk hf).2⟩).ext hx fun k hk hf => (hF k hk hf.1).1).mono fun k _ hf => hf.2
end
/-- A slice of our own that grows: its things es; the block that holds them, if there is one. -/
def Grw (e : TypeId) (sz : Nat) (sl : Value) (es : List (List Value)) (Lx : List Ob) : Prop :=
  (∀ c, c ∈ es → c.length = sz) ∧ ((sl = .slice none 0 0 ∧ es = [] ∧ Lx = []) ∨ (∃ g cap post, sl = .slice (some ⟨g, 0, none⟩) es.length cap ∧ es.length ≤ cap ∧ cap ≤ maxLen ∧ (es.flatten ++ post).length = cap * sz ∧ 0 < es.length ∧ Lx = [(g, e, es.flatten ++ post)]))
theorem Grw.nil (e : TypeId) (sz : Nat) : Grw e sz (.slice none 0 0) [] [] := ⟨by simp, .inl ⟨rfl, rfl, rfl⟩⟩
theorem Grw.view {e : TypeId} {sz : Nat} {sl : Value} {es : List (List Value)} {Lx : List Ob} (h : Grw e sz sl es Lx) : ∃ a c, sl = .slice a es.length c := by
  rcases h.2 with ⟨rfl, rfl, _⟩ | ⟨g, cap, post, rfl, _⟩
  · exact ⟨_, _, rfl⟩
  · exact ⟨_, _, rfl⟩
theorem Grw.one {e : TypeId} {sz : Nat} {sl : Value} {es : List (List Value)} {Lx : List Ob} (h : Grw e sz sl es Lx) : sl.oneCell' = true := by
  obtain ⟨a, c, rfl⟩ := h.view
  rfl
theorem flat_len' {z : Nat} : ∀ {es : List (List Value)}, (∀ c, c ∈ es → c.length = z) → es.flatten.length = es.length * z
  | [], _ => by simp
  | c :: r, h => by
    rw [List.flatten_cons, List.length_append, h c (by simp), flat_len' fun d hd => h d (by simp [hd]), List.length_cons, Nat.add_mul]
    omega
theorem OwnSl.open' {w : World} {e : TypeId} {sz n : Nat} {v : Value} {xs : List Value} (h : OwnSl w e sz v n xs) (hn : 0 < n) : ∃ g cap post, v = .slice (some ⟨g, 0, none⟩) n cap ∧ n ≤ cap ∧ cap ≤ maxLen ∧ (xs ++ post).length = cap * sz ∧ Own w g e (xs ++ post) := by
  rcases h.2 with ⟨_, h0⟩ | ⟨g, cap, cur, rfl, _, hg, hnc, hcm, hcs, htake⟩
  · omega
  · have : xs ++ cur.toList.drop (n * sz) = cur.toList := by rw [← htake]; exact List.take_append_drop _ _
    refine ⟨g, cap, cur.toList.drop (n * sz), rfl, hnc, hcm, by rw [this]; simpa using hcs, ?_⟩
    rw [this]
    unfold Own
    simpa using hg
section
variable {w0 w w' : World} {L : List Ob} {P : World → Prop} {e : TypeId} {sz : Nat} {sl : Value} {es : List (List Value)} {Lx : List Ob}
theorem Grw.own (h : Grw e sz sl es Lx) (H : Sg w0 (Lx ++ L) P w) : OwnSl w e sz sl es.length es.flatten := by
  rcases h.2 with ⟨rfl, rfl, rfl⟩ | ⟨g, cap, post, rfl, h1, h2, h3, h4, rfl⟩
  · exact OwnSl.nil w e sz
  · have ho : Own w g e (es.flatten ++ post) := H.own.1
    refine ⟨flat_len' h.1, .inr ⟨g, cap, (es.flatten ++ post).toArray, rfl, Nat.zero_le _, ho, h1, h2, by simpa using h3, ?_⟩⟩
    rw [← flat_len' h.1]
    simp
theorem Grw.ge (h : Grw e sz sl es Lx) (H : Sg w0 (Lx ++ L) P w) : ∀ k, sl.ownBlock = some k → inL Lx k := by
  intro k hk
  rcases h.2 with ⟨rfl, rfl, rfl⟩ | ⟨g, cap, post, rfl, h1, h2, h3, h4, rfl⟩
  · simp [Value.ownBlock] at hk
  · simp only [Value.ownBlock, Option.some.injEq] at hk
    exact inL_cons.2 (.inl hk.symm)
/-- One thing more. -/
theorem Grw.app (h : Grw e sz sl es Lx) (H : Sg w0 (Lx ++ L) P w) {b n0 c0 sz' by0 : Nat} {Ty : TypeId} {m : List Value} {z : List Value} {K : Value → World → Prop} (hsz : sz' = sz) (hb : Own w b Ty m) (hm : m.length = sz) (hn0 : n0 = 1) (hok : okCells m = true) (hz : z.length = sz) (hl : es.length + 1 ≤ 1000000000000) (hby : by0 ≤ 100)
    (kk : ∀ sl' Lx' w', Grw e sz sl' (es ++ [m]) Lx' → Sg w0 (Lx' ++ L) P w' → Ext (fun k => inL Lx k) w w' → (∀ k, inL Lx' k → inL Lx k ∨ w.heap.size ≤ k) → K sl' w') :
    ∃ n xs m' news, OwnSl w e sz' sl n xs ∧ Src w sz' (.slice (some ⟨b, 0, none⟩) n0 c0) m' news ∧ (z.length = sz' ∧ okCells news = true) ∧ (n + m' ≤ maxLen ∧ (n + m') * by0 ≤ 140737488355328) ∧
      ∀ v' w', OwnSl w' e sz' v' (n + m') (xs ++ news) → Appended w w' sl v' → K v' w' := by
  subst hsz
  have hown := h.own H
  have hge := h.ge H
  have hsrc := src_one (c := c0) hb hm hn0
  rw [show [m].flatten = m by simp, show [m].length = 1 from rfl] at hsrc
  refine ⟨es.length, es.flatten, 1, m, hown, hsrc, ⟨hz, hok⟩, ⟨by rw [maxLen_eq]; omega, ?_⟩, fun v' w' ho ha => ?_⟩
  · have := Nat.mul_le_mul hl hby
    omega
  · obtain ⟨g, cap, post, rfl, h1, h2, h3, h4⟩ := ho.open' (by omega)
    have hx : Ext (fun k => inL Lx k) w w' := ha.ext.mono fun k _ hk => hge k hk
    have hfl : (es ++ [m]).flatten = es.flatten ++ m := by simp
    have hnew : ∀ k, inL [(g, e, es.flatten ++ m ++ post)] k → inL Lx k ∨ w.heap.size ≤ k := by
      intro k hk
      have e1 : k = g := by
        rcases hk.cases with h | h
        · exact h
        · exact absurd h inL_nil
      rcases ha.blk with hb | ⟨q, hq, hle⟩
      · left
        refine hge k ?_
        rw [← hb, e1]
        rfl
      · right
        simp only [Value.ownBlock, Option.some.injEq] at hq
        omega
    refine kk (.slice (some ⟨g, 0, none⟩) (es.length + 1) cap) [(g, e, es.flatten ++ m ++ post)] w' ⟨fun c hc => ?_, .inr ⟨g, cap, post, by simp, by simpa using h1, h2, by rw [hfl]; exact h3, by simp, by rw [hfl]⟩⟩ ?_ hx hnew
    · rcases List.mem_append.1 hc with hc | hc
      · exact h.1 c hc
      · rw [List.mem_singleton.1 hc]
        exact hm
    · have hdisL : ∀ k, inL L k → ¬ inL Lx k := by
        intro k hk hkx
        rcases h.2 with ⟨_, _, rfl⟩ | ⟨g2, cap2, post2, _, _, _, _, _, rfl⟩
        · exact inL_nil hkx
        · have e1 : k = g2 := by
            rcases hkx.cases with h | h
            · exact h
            · exact absurd h inL_nil
          subst e1
          exact H.dis.2.1 hk
      have hownL : Owns w L ∧ New w0.heap.size L := by
        rcases h.2 with ⟨_, _, rfl⟩ | ⟨g2, cap2, post2, _, _, _, _, _, rfl⟩
        · exact ⟨H.own, H.dis⟩
        · exact ⟨H.own.2, H.dis.2.2⟩
      have hgL : ¬ inL L g := by
        intro hk
        rcases hnew g (inL_cons.2 (.inl rfl)) with h | h
        · exact hdisL g hk h
        · have := hownL.1.lt g hk
          omega
      have hgN : w0.heap.size ≤ g := by
        rcases hnew g (inL_cons.2 (.inl rfl)) with h | h
        · exact H.dis.ge g (inL_app.2 (.inl h))
        · have := H.ext.size
          omega
      refine H.step (hx.mono fun k _ hk => inL_app.2 (.inl hk)) ⟨h4, hownL.1.ext hx hdisL⟩ ⟨hgN, hgL, hownL.2⟩ fun k hk => ?_
      rcases inL_cons.1 hk with hk | hk
      · rcases hnew k (inL_cons.2 (.inl hk)) with h | h
        · exact .inl (inL_app.2 (.inl h))
        · exact .inr h
      · exact .inl (inL_app.2 (.inr hk))
/-- The last thing is written anew. -/
theorem Grw.last {x m : List Value} {g cap : Nat} (h : Grw e sz (.slice (some ⟨g, 0, none⟩) (es.length + 1) cap) (es ++ [x]) Lx) (H : Sg w0 (Lx ++ L) P w) {T : TypeId} {o' sz' : Nat} {m' : List Value} {K : World → Prop} (hm' : m' = m) (hm : m.length = sz) (hok : okCells m = true) (ho' : o' = es.length * sz) (hsz : sz' = sz)
    (k : ∀ Lx' w', Grw e sz (.slice (some ⟨g, 0, none⟩) (es.length + 1) cap) (es ++ [m]) Lx' → Sg w0 (Lx' ++ L) P w' → K w') :
    ∃ T l1, Own w g T l1 ∧ m'.length.beq sz' = true ∧ okCells m' = true ∧ (o' + sz').ble l1.length = true ∧ ∀ w', Own w' g T (splice l1 o' m') → Ext (fun k => k = g) w w' → K w' := by
  subst hm'
  subst hsz
  subst ho'
  rcases h.2 with ⟨h0, _⟩ | ⟨g2, cap2, post, h0, h1, h2, h3, h4, rfl⟩
  · cases h0
  · injection h0 with e1 e2 e3
    simp only [Option.some.injEq, Addr.mk.injEq, and_true] at e1
    subst e1
    subst e3
    have hxl : x.length = sz' := h.1 x (by simp)
    have hes : ∀ c, c ∈ es → c.length = sz' := fun c hc => h.1 c (by simp [hc])
    have hfl := flat_len' hes
    have e4 : (es ++ [x]).flatten = es.flatten ++ x := by simp
    have e5 : (es ++ [m']).flatten = es.flatten ++ m' := by simp
    have ho : Own w g e ((es ++ [x]).flatten ++ post) := H.own.1
    rw [e4] at ho h3
    refine ⟨e, _, ho, by rw [hm]; exact Nat.beq_refl _, hok, ?_, fun w' ho2 hx2 => k [(g, e, (es ++ [m']).flatten ++ post)] w' ⟨fun c hc => ?_, .inr ⟨g, cap, post, by simp, by simpa using h1, h2, ?_, by simp, rfl⟩⟩ ?_⟩
    · rw [Nat.ble_eq]
      simp only [List.length_append, hfl]
      omega
    · rcases List.mem_append.1 hc with hc | hc
      · exact hes c hc
      · rw [List.mem_singleton.1 hc]
        exact hm
    · rw [e5]
      simp only [List.length_append] at h3 ⊢
      omega
    · have e6 : splice (es.flatten ++ x ++ post) (es.length * sz') m' = es.flatten ++ m' ++ post := by
        unfold splice
        rw [← hfl, show es.flatten ++ x ++ post = es.flatten ++ (x ++ post) from List.append_assoc _ _ _, List.take_left, List.drop_append, List.drop_eq_nil_of_le (by omega), List.nil_append, show es.flatten.length + m'.length - es.flatten.length = x.length by omega, List.drop_left, List.append_assoc]
      rw [e6] at ho2
      rw [e5]
      exact Sg.up (A := []) (B := L) H ho2 hx2
end
end Go.Proofs.YtepamajphjgigaaGreatDoor.K
/-! What was told is handed back. -/
set_option linter.unusedVariables false
set_option linter.unusedSimpArgs false
namespace Go.Proofs.YtepamajphjgigaaGreatDoor.K
open Go
set_option maxHeartbeats 1600000

abbrev GotTreeT : TypeId := 26
theorem got_aux (m : Nat) : ∀ {G : Nat → Prop} {w : World} {x : Value} {t : T}, SizeOf.sizeOf t ≤ m → Tr w G x t → Small t →
    Does X.P 11 #[x] w fun r w' => Tr w' (plus G w) r t ∧ Ext nob w w' := by
  induction m with
  | zero =>
    intro G w x t hm ht hsm
    cases t
    simp at hm
  | succ m ih =>
  intro G w x t hm ht hsm
  have hts := ht.mono (F' := fun k => G k ∧ k < w.heap.size) fun k h1 h2 => ⟨h2, h1⟩
  clear ht
  obtain ⟨n, s, nl, l, u⟩ := t
  obtain ⟨hsl, hsu, hsx⟩ : l.length ≤ 1000000 ∧ u.length ≤ 1000000 ∧ ∀ x, x ∈ l → Small x := by
    cases hsm with
    | mk _ _ _ _ _ h1 h2 h3 => exact ⟨h1, h2, h3⟩
  obtain ⟨ct, rfl, ht⟩ := id hts
  have ht0 := ht
  cases ht
  rename_i sv lv uv ls hl hn hs hlen hr hu
  obtain ⟨a, c, rfl, hc, hm2, hF, hS, hC⟩ := id hl.view
  have hu0 := hu
  obtain ⟨lu, hlu, hulen, hur⟩ := id hu0
  obtain ⟨au, cu, rfl, hcu, hmu, hFu, hSu, hCu⟩ := hlu.view
  obtain ⟨a0, cs0, rfl, _⟩ := hs.view
  refine Does.go (X := X) (l := [_]) Tryz.func11 rfl (by kernel_rfl) (by kernel_rfl) _ rfl ?_
  ((conv=>whnf);repeat((first|refine mvT ?_|refine mvF ?_|refine yT ?_|refine yF ?_);conv=>whnf))
  intro b w1 hb ho hx
  ((conv=>whnf);repeat((first|refine mvT ?_|refine mvF ?_|refine yT ?_|refine yF ?_);conv=>whnf))
  intro b6 w6 hb6 ho6 hx6
  ((conv=>whnf);repeat((first|refine mvT ?_|refine mvF ?_|refine yT ?_|refine yF ?_);conv=>whnf))
  have hbb6 : b < b6 := by have := ho.lt; omega
  have ho := ho.e0 hx6
  refine ldS (ho.cell rfl) ?_;((conv=>whnf);repeat((first|refine mvT ?_|refine mvF ?_|refine yT ?_|refine yF ?_);conv=>whnf))
  refine ldS (ho.cell rfl) ?_;((conv=>whnf);repeat((first|refine mvT ?_|refine mvF ?_|refine yT ?_|refine yF ?_);conv=>whnf))
  refine ldS (ho.cell rfl) ?_;((conv=>whnf);repeat((first|refine mvT ?_|refine mvF ?_|refine yT ?_|refine yF ?_);conv=>whnf))
  intro b7 w7 hb7 ho7 hx7
  ((conv=>whnf);repeat((first|refine mvT ?_|refine mvF ?_|refine yT ?_|refine yF ?_);conv=>whnf))
  refine st_all [.int .i64 n, .slice a0 s.length cs0, .bool nl, .slice none 0 0, .slice none 0 0] ho7 rfl rfl rfl ?_
  intro w8 ho8 hx8
  have hs1 := hx.size
  have hs6 := hx6.size
  have hs7 := hx7.size
  have hwb6 : w.heap.size ≤ b6 := by omega
  have hb67 : b6 < b7 := by have := ho6.lt; omega
  have hx68 : Ext nob w6 w8 := hx7.st hx8 hb7
  have hxw : Ext nob w w8 := (hx.e0 hx6).e0 hx68
  have ho := ho.e0 hx68
  have ho6 := ho6.e0 hx68
  have hb7w : b7 < w8.heap.size := ho8.lt
  have hwb7 : w.heap.size ≤ b7 := by omega
  ((conv=>whnf);repeat((first|refine mvT ?_|refine mvF ?_|refine yT ?_|refine yF ?_);conv=>whnf))
  refine ldS (ho.cell rfl) ?_;((conv=>whnf);repeat((first|refine mvT ?_|refine mvF ?_|refine yT ?_|refine yF ?_);conv=>whnf))
  refine VL.cutB (fun vl : Value => [(1, .pointer (some ⟨b, 0, none⟩)), (2, .pointer (some ⟨b6, 0, none⟩)), (3, .pointer (some ⟨b7, 0, none⟩))])
    (fun vl w' => Ext (fun k => k = b7) w8 w' ∧ Own w' b7 GotTreeT [.int .i64 n, .slice a0 s.length cs0, .bool nl, vl, .slice none 0 0] ∧ ∃ cs, OSl w' w8.heap.size GotTreeT 5 vl cs ∧ Els w' (fun k => (plus G w k ∧ k ≠ b6 ∧ k ≠ b7) ∧ vl.ownBlock ≠ some k) cs l) ?_ ?_
  · refine VL.loop (fun i : Nat × Value => [(1, .pointer (some ⟨b, 0, none⟩)), (2, .pointer (some ⟨b6, 0, none⟩)), (3, .pointer (some ⟨b7, 0, none⟩)), (16, .slice a ls.length c), (17, .int .i64 ls.length), (18, .int .i64 i.1)])
      (fun i w' => (Ext (fun k => k = b7) w8 w' ∧ i.1 ≤ ls.length) ∧ Own w' b7 GotTreeT [.int .i64 n, .slice a0 s.length cs0, .bool nl, i.2, .slice none 0 0] ∧ ∃ cs, OSl w' w8.heap.size GotTreeT 5 i.2 cs ∧ Els w' (fun k => (plus G w k ∧ k ≠ b6 ∧ k ≠ b7) ∧ i.2.ownBlock ≠ some k) cs (l.take i.1)) (fun i => ls.length - i.1) (0, .slice none 0 0)
      ⟨rfl, rfl, rfl, rfl, rfl, rfl, trivial⟩ ⟨⟨Ext.refl _ _, Nat.zero_le _⟩, ho8, [], OSl.nil _ _ _ _, Els.nil _ _⟩ ?_
    rintro ⟨i, vl⟩ w17 ⟨⟨hx17, hi⟩, ho17, cs, hos, hels⟩
    dsimp only at hi ho17 hos hels
    ((conv=>whnf);repeat((first|refine mvT ?_|refine mvF ?_|refine yT ?_|refine yF ?_);conv=>whnf))
    refine cI (by rfl) (fun h7=>?_) (fun h7=>?_)
    · have hil : i < ls.length := by have := of_decide_eq_true h7; simp only at this; omega
      have hill : i < l.length := by omega
      have htr := hr i ls[i] l[i] (by simp [hil]) (by simp [hill])
      obtain ⟨b18, o18, rfl, hc18⟩ := hC i ls[i] (by simp [hil])
      have hxw17 : Ext nob w w17 := hxw.st hx17 hwb7
      have hb9s := fun h => (hos.blk b7 h)
      ((conv=>whnf);repeat((first|refine mvT ?_|refine mvF ?_|refine yT ?_|refine yF ?_);conv=>whnf))
      refine ⟨b18, o18, rfl, ⟨by omega, by omega⟩, ?_⟩
      ((conv=>whnf);repeat((first|refine mvT ?_|refine mvF ?_|refine yT ?_|refine yF ?_);conv=>whnf))
      refine ⟨ls[i], htr.len, by rw [Int.toNat_natCast]; exact hc18.e0 hxw17, ?_⟩
      ((conv=>whnf);repeat((first|refine mvT ?_|refine mvF ?_|refine yT ?_|refine yF ?_);conv=>whnf))
      intro b19 w19 hb19 ho19 hx19
      ((conv=>whnf);repeat((first|refine mvT ?_|refine mvF ?_|refine yT ?_|refine yF ?_);conv=>whnf))
      refine st_all ls[i] ho19 htr.len rfl htr.ok ?_
      intro w20 ho20 hx20
      have hx1720 : Ext nob w17 w20.drew := (hx19.st hx20 hb19).e0 (ext_drew _)
      have ho20 := ho20.e0 (ext_drew _)
      have hxw20 := hxw17.e0 hx1720
      ((conv=>whnf);repeat((first|refine mvT ?_|refine mvF ?_|refine yT ?_|refine yF ?_);conv=>whnf))
      refine VD.draw mixed (.q 0 (.q 1 (.q 2 (.eff 3 [1] (.eff 4 [1] (.eff 5 [] (.q 6 (.eff 7 [] (.done))))))))) (by kernel_rfl) ?_;((conv=>whnf);repeat((first|refine mvT ?_|refine mvF ?_|refine yT ?_|refine yF ?_);conv=>whnf))
      refine ldS ((ho17.e0 hx1720).cell rfl) ?_;((conv=>whnf);repeat((first|refine mvT ?_|refine mvF ?_|refine yT ?_|refine yF ?_);conv=>whnf))
      refine ⟨ls[i], htr.len, ho20.cells, ?_⟩
      ((conv=>whnf);repeat((first|refine mvT ?_|refine mvF ?_|refine yT ?_|refine yF ?_);conv=>whnf))
      have hsz : SizeOf.sizeOf l[i] ≤ m := by
        have h1 := List.sizeOf_lt_of_mem (List.getElem_mem hill)
        simp only [T.mk.sizeOf_spec] at hm
        omega
      refine Does.mono (ih (G := fun k => G k ∧ k < w.heap.size) hsz ⟨_, rfl, htr.e0 hxw20⟩ (hsx _ (List.getElem_mem hill))) ?_
      rintro r21 w21 ⟨⟨c21, rfl, hr21⟩, hx21⟩
      refine ⟨by (conv => whnf); exact ⟨⟨_, (ho17.e0 (hx1720.e0 hx21)).cell rfl, rfl, rfl⟩, trivial⟩, ?_⟩
      have hnx : l.take (i + 1) = l.take i ++ [l[i]] := List.take_succ_eq_append_getElem hill
      generalize hft : l[i] = ft at hr21 hnx
      have hrm := hr21.mono (F' := fun k => (plus G w k ∧ k ≠ b6 ∧ k ≠ b7) ∧ vl.ownBlock ≠ some k) fun k h1 h2 => by
        have hvl := hos.own.lt
        have hsz := hx1720.size
        have hs17 := hx17.size
        rcases h2 with h | h
        · have hk := h.2
          refine ⟨⟨.inl h.1, by omega, by omega⟩, fun hv => ?_⟩
          have := hos.blk k hv
          omega
        · refine ⟨⟨.inr (by have := hxw20.size; omega), by omega, by omega⟩, fun hv => ?_⟩
          have := hvl k hv
          omega
      clear hr21
      cases hrm
      rename_i n4 s4 nl4 l4 u4 sv4 lv4 uv4 ls4 hn4 hs4 hl4 hlen4 hr4 hu4
      have hc21 : TrC w21 (fun k => (plus G w k ∧ k ≠ b6 ∧ k ≠ b7) ∧ vl.ownBlock ≠ some k) [.int .i64 n4, sv4, .bool nl4, lv4, uv4] (.mk n4 s4 nl4 l4 u4) := .mk n4 s4 nl4 l4 u4 sv4 lv4 uv4 ls4 hn4 hs4 hl4 hlen4 hr4 hu4
      have hok21 := hc21.ok
      have hone1 := Sl.one hs4
      have hone2 := hl4.1.one
      have hone3 := hu4.one
      have hcs : cs.length = i := by rw [hels.len, List.length_take]; omega
      ((conv=>whnf);repeat((first|refine mvT ?_|refine mvF ?_|refine yT ?_|refine yF ?_);conv=>whnf))
      intro b22 w22 hb22 ho22 hx22
      have hx1722 : Ext nob w17 w22 := (hx1720.e0 hx21).e0 hx22
      refine ⟨by (conv => whnf); exact ⟨⟨_, (ho17.e0 hx1722).cell rfl, rfl, rfl⟩, trivial⟩, ?_⟩
      ((conv=>whnf);repeat((first|refine mvT ?_|refine mvF ?_|refine yT ?_|refine yF ?_);conv=>whnf))
      refine app_struct (ms := [[.int .i64 n4, sv4, .bool nl4, lv4, uv4]]) rfl (hos.e0 hx1722) (src_tree ho22 rfl rfl) (by simp) (by rw [List.flatten_cons, List.flatten_nil, List.append_nil]; exact hok21) rfl ⟨by simp only [List.length_singleton]; omega, by simp only [List.length_singleton]; omega⟩ (by have := hx17.size; have := hx1722.size; omega) ?_
      intro v23 w23 hos23 hx23 hb23 _
      obtain ⟨a23, c23, rfl, hc23, hm23⟩ := hos23.shape
      have ho17' := (ho17.e0 hx1722).ext hx23 fun h => by have := hb9s h; omega
      ((conv=>whnf);repeat((first|refine mvT ?_|refine mvF ?_|refine yT ?_|refine yF ?_);conv=>whnf))
      refine ⟨_, _, ho17', rfl, rfl, rfl, ?_⟩
      intro w24 ho24 hx24
      ((conv=>whnf);repeat((first|refine mvT ?_|refine mvF ?_|refine yT ?_|refine yF ?_);conv=>whnf))
      have hels22 : Els w22 (fun k => ((plus G w k ∧ k ≠ b6 ∧ k ≠ b7) ∧ vl.ownBlock ≠ some k) ∧ k < w22.heap.size) _ _ := (((hels.e0 (hx1720.e0 hx21)).snoc hc21).e0 hx22).mono fun k h1 h2 => ⟨h2, h1⟩
      have hels23 := (hels22.ext hx23 fun k _ h1 h2 => h1.1.2 h2).mono (F' := fun k => (plus G w k ∧ k ≠ b6 ∧ k ≠ b7) ∧ (Value.slice a23 (cs ++ [[.int .i64 n4, sv4, .bool nl4, lv4, uv4]]).length c23).ownBlock ≠ some k) fun k h1 h2 => by
        refine ⟨h2.1.1, fun hv => ?_⟩
        rcases hb23 with h | ⟨q, hq, hle⟩
        · rw [h] at hv
          exact h2.1.2 hv
        · rw [hq, Option.some.injEq] at hv
          have := h2.2
          omega
      have hels24 := hels23.ext hx24 fun k _ h1 h2 => h1.1.2.2 h2
      have hx1624 : Ext (fun k => k = b7) w8 w24 := ((hx17.tr0 hx1722).trans hx23 fun k hk h => by have := hos.blk k h; omega).trans hx24 fun _ _ h => h
      exact ⟨(i + 1, _), ⟨rfl, rfl, rfl, rfl, rfl, inc_eq (by rw [maxLen_eq] at hm2; omega), trivial⟩, ⟨⟨hx1624, by simp only; omega⟩, ho24, _, hos23.ext hx24 fun k hk h => by have := hos23.blk k hk; omega, by simp only; rw [hnx]; exact hels24⟩, by simp only; omega⟩
    · have hil : i = l.length := by have := of_decide_eq_false h7; simp only at this; omega
      rw [hil, List.take_length] at hels
      ((conv=>whnf);repeat((first|refine mvT ?_|refine mvF ?_|refine yT ?_|refine yF ?_);conv=>whnf))
      exact ⟨vl, ⟨rfl, rfl, rfl, trivial⟩, hx17, ho17, cs, hos, hels⟩
  · rintro vl w5 ⟨hx5, ho3, cs, hos, hels⟩
    have hxw5 : Ext nob w w5 := hxw.st hx5 hwb7
    have ho := ho.ext hx5 fun h => by omega
    have ho6 := ho6.ext hx5 fun h => by omega
    have hs5 := hx5.size
    have hu5 := hlu.e0 hxw5
    have hosF : SlE w5 (fun k => (plus G w k ∧ k ≠ b6 ∧ k ≠ b7) ∧ k < w5.heap.size) 5 vl cs := (hos.sl (F := fun k => w8.heap.size ≤ k) fun _ h => h).mono fun k h1 h2 => ⟨⟨.inr (by have := hxw.size; omega), by have := ho6.lt; omega, by omega⟩, h1⟩
    have helF : Els w5 (fun k => (plus G w k ∧ k ≠ b6 ∧ k ≠ b7) ∧ k < w5.heap.size) cs l := hels.mono fun k h1 h2 => ⟨h2.1, h1⟩
    obtain ⟨avl, cvl, rfl, _, _⟩ := hos.shape
    ((conv=>whnf);repeat((first|refine mvT ?_|refine mvF ?_|refine yT ?_|refine yF ?_);conv=>whnf))
    refine ldS (ho.cell rfl) ?_;((conv=>whnf);repeat((first|refine mvT ?_|refine mvF ?_|refine yT ?_|refine yF ?_);conv=>whnf))
    refine VL.loop (fun i : Nat × Value => [(2, .pointer (some ⟨b6, 0, none⟩)), (3, .pointer (some ⟨b7, 0, none⟩)), (31, .slice au lu.length cu), (32, .int .i64 lu.length), (33, .int .i64 i.1)])
      (fun i w' => (Ext (fun k => k = b7) w5 w' ∧ i.1 ≤ lu.length) ∧ Own w' b7 GotTreeT [.int .i64 n, .slice a0 s.length cs0, .bool nl, .slice avl cs.length cvl, i.2] ∧ OTg 63 w' w5.heap.size (fun k => (plus G w k ∧ k ≠ b6 ∧ k ≠ b7) ∧ k < w5.heap.size) i.2 (u.take i.1)) (fun i => lu.length - i.1) (0, .slice none 0 0)
      ⟨rfl, rfl, rfl, rfl, rfl, trivial⟩ ⟨⟨Ext.refl _ _, Nat.zero_le _⟩, ho3, OTg.nil _ _ _ _⟩ ?_
    rintro ⟨j, vu⟩ w6' ⟨⟨hx6', hj⟩, ho6', hvu⟩
    dsimp only at hj ho6' hvu
    ((conv=>whnf);repeat((first|refine mvT ?_|refine mvF ?_|refine yT ?_|refine yF ?_);conv=>whnf))
    refine cI (by rfl) (fun h1=>?_) (fun h1=>?_)
    · have hjl : j < lu.length := by have := of_decide_eq_true h1; simp only at this; omega
      have hjU : j < u.length := by omega
      have htg : TgC w (fun k => G k ∧ k < w.heap.size) lu[j] u[j] := hur j lu[j] u[j] (by simp [hjl]) (by simp [hjU])
      obtain ⟨b9, o9, rfl, hc9⟩ := hCu j lu[j] (by simp [hjl])
      have hb9 := (hFu b9 o9 rfl (by omega)).1
      have hc9 := (hc9.e0 hxw5).ext hx6' (by have := hb9.2; omega)
      have htg := (htg.ext hxw5 fun _ _ _ f => f).ext hx6' (fun k _ h1 h2 => by have := h1.2; omega)
      obtain ⟨hkey, tv, hcell, htb⟩ := htg
      rw [hcell] at hc9
      have hone := Sl.one htb
      obtain ⟨lsu, hosu, hlu', hru⟩ := hvu
      obtain ⟨a10, c10, rfl, _⟩ := id htb.view
      ((conv=>whnf);repeat((first|refine mvT ?_|refine mvF ?_|refine yT ?_|refine yF ?_);conv=>whnf))
      refine ⟨b9, o9, rfl, ⟨by omega, by omega⟩, ?_⟩
      ((conv=>whnf);repeat((first|refine mvT ?_|refine mvF ?_|refine yT ?_|refine yF ?_);conv=>whnf))
      refine ⟨_, rfl, by rw [Int.toNat_natCast]; exact hc9, ?_⟩
      ((conv=>whnf);repeat((first|refine mvT ?_|refine mvF ?_|refine yT ?_|refine yF ?_);conv=>whnf))
      intro b19 w19 hb19 ho19 hx19
      ((conv=>whnf);repeat((first|refine mvT ?_|refine mvF ?_|refine yT ?_|refine yF ?_);conv=>whnf))
      refine st_all [.int .u32 (u[j].1 : Int), .slice a10 u[j].2.length c10] ho19 rfl rfl rfl ?_
      intro w20 ho20 hx20
      have hx620 : Ext nob w6' w20 := hx19.st hx20 hb19
      ((conv=>whnf);repeat((first|refine mvT ?_|refine mvF ?_|refine yT ?_|refine yF ?_);conv=>whnf))
      refine ldS ((ho6'.e0 hx620).cell rfl) ?_;((conv=>whnf);repeat((first|refine mvT ?_|refine mvF ?_|refine yT ?_|refine yF ?_);conv=>whnf))
      refine ldS (ho20.cell rfl) ?_;((conv=>whnf);repeat((first|refine mvT ?_|refine mvF ?_|refine yT ?_|refine yF ?_);conv=>whnf))
      refine ldS (ho20.cell rfl) ?_;((conv=>whnf);repeat((first|refine mvT ?_|refine mvF ?_|refine yT ?_|refine yF ?_);conv=>whnf))
      intro b22 w22 hb22 ho22 hx22
      have hx622 : Ext nob w6' w22 := hx620.e0 hx22
      have hlsu : lsu.length = j := by rw [hlu', List.length_take]; omega
      have hb7s := fun h => (hosu.blk b7 h)
      ((conv=>whnf);repeat((first|refine mvT ?_|refine mvF ?_|refine yT ?_|refine yF ?_);conv=>whnf))
      refine app_struct (ms := [[.int .u32 (u[j].1 : Int), .slice a10 u[j].2.length c10]]) rfl (hosu.e0 hx622) (src_one ho22 rfl rfl) (by simp) rfl rfl ⟨by simp only [List.length_singleton]; omega, by simp only [List.length_singleton]; omega⟩ (by have := hx6'.size; have := hx622.size; omega) ?_
      intro v23 w23 hos23 hx23 hb23 _
      obtain ⟨a23, c23, rfl, hc23, hm23⟩ := hos23.shape
      have ho23 := (ho6'.e0 hx622).ext hx23 fun h => by have := hb7s h; omega
      ((conv=>whnf);repeat((first|refine mvT ?_|refine mvF ?_|refine yT ?_|refine yF ?_);conv=>whnf))
      refine ⟨_, _, ho23, rfl, rfl, rfl, ?_⟩
      intro w24 ho24 hx24
      ((conv=>whnf);repeat((first|refine mvT ?_|refine mvF ?_|refine yT ?_|refine yF ?_);conv=>whnf))
      have hx524 : Ext (fun k => k = b7) w5 w24 := ((hx6'.tr0 hx622).trans hx23 fun k hk h => by have := hosu.blk k h; omega).trans hx24 fun _ _ h => h
      have hx624 : Ext (fun k => k = b7 ∨ vu.ownBlock = some k) w6' w24 := ((hx622.mono fun _ _ f => f.elim).trans hx23 fun _ _ h => .inr h).trans hx24 fun _ _ h => .inl h
      have hMM : ∀ k, k < w6'.heap.size → ((plus G w k ∧ k ≠ b6 ∧ k ≠ b7) ∧ k < w5.heap.size) → ¬ (k = b7 ∨ vu.ownBlock = some k) := by
        rintro k _ h1 (h2 | h2)
        · exact h1.1.2.2 h2
        · have := hosu.blk k h2
          omega
      refine ⟨(j + 1, _), ⟨rfl, rfl, rfl, rfl, inc_eq (by omega), trivial⟩, ⟨⟨hx524, by simp only; omega⟩, ho24, _, hos23.ext hx24 fun k hk h => by have := hos23.blk k hk; omega, ?_, ?_⟩, by simp only; omega⟩
      · simp only [List.length_append, List.length_take, hlsu, List.length_singleton]
        omega
      · simp only
        rw [List.take_succ_eq_append_getElem hjU]
        intro q cq xq hcq hxq
        rcases Nat.lt_or_ge q lsu.length with hq | hq
        · rw [List.getElem?_append_left hq] at hcq
          rw [List.getElem?_append_left (by rw [← hlu']; exact hq)] at hxq
          exact (hru q cq xq hcq hxq).ext hx624 hMM
        · rw [List.getElem?_append_right hq] at hcq
          rw [List.getElem?_append_right (by rw [← hlu']; exact hq), ← hlu'] at hxq
          obtain ⟨e, he⟩ : ∃ e, q - lsu.length = e := ⟨_, rfl⟩
          rw [he] at hcq hxq
          cases e with
          | zero =>
            simp only [List.getElem?_cons_zero, Option.some.injEq] at hcq hxq
            rw [← hcq, ← hxq]
            refine ⟨hkey, _, rfl, ?_⟩
            refine Sl.ext (Sl.mono htb fun k _ h => ⟨⟨.inl h.1, by have := h.2; omega, by have := h.2; omega⟩, by have := hxw5.size; have := h.2; omega⟩) hx624 ?_
            rintro k _ h1 (h2 | h2)
            · exact h1.1.2.2 h2
            · have := hosu.blk k h2
              have := h1.2
              omega
          | succ e => simp at hcq
    · have hjl : j = u.length := by have := of_decide_eq_false h1; simp only at this; omega
      obtain ⟨lsu, hosu, hlu', hru⟩ := hvu
      obtain ⟨au', cu', rfl, _, _⟩ := hosu.shape
      ((conv=>whnf);repeat((first|refine mvT ?_|refine mvF ?_|refine yT ?_|refine yF ?_);conv=>whnf))
      refine ⟨_, rfl, ho6'.cells, ?_⟩
      ((conv=>whnf);repeat((first|refine mvT ?_|refine mvF ?_|refine yT ?_|refine yF ?_);conv=>whnf))
      refine st_all [.int .i64 n, .slice a0 s.length cs0, .bool nl, .slice avl cs.length cvl, .slice au' lsu.length cu'] (ho6.ext hx6' fun h => by omega) rfl rfl rfl ?_
      intro w18 ho18 hx18
      have hxw18 := (hxw5.st hx6' hwb7).st hx18 hwb6
      ((conv=>whnf);repeat((first|refine mvT ?_|refine mvF ?_|refine yT ?_|refine yF ?_);conv=>whnf))
      refine ⟨_, rfl, ho18.cells, ?_⟩
      have hx518 : Ext (fun k => k = b7 ∨ k = b6) w5 w18 := (hx6'.mono fun _ _ h => .inl h).trans hx18 fun _ _ h => .inr h
      have hM : ∀ k, k < w5.heap.size → ((plus G w k ∧ k ≠ b6 ∧ k ≠ b7) ∧ k < w5.heap.size) → ¬ (k = b7 ∨ k = b6) := by
        rintro k _ h1 (h2 | h2)
        · exact h1.1.2.2 h2
        · exact h1.1.2.1 h2
      have hF18 : ∀ k, k < w18.heap.size → ((plus G w k ∧ k ≠ b6 ∧ k ≠ b7) ∧ k < w5.heap.size) → plus G w k := fun k _ h => h.1.1
      have hel18 := (helF.ext hx518 hM).mono hF18
      refine ⟨⟨_, rfl, .mk n s nl _ _ _ _ _ cs hn (Sl.mono (hs.e0 hxw18) fun k _ h => .inl h.1) ((hosF.ext hx518 hM).mono hF18) hel18.len hel18.at' ?_⟩, hxw18⟩
      rw [hjl, List.take_length] at hlu' hru
      refine ⟨lsu, ((hosu.sl (F := fun k => w5.heap.size ≤ k) fun _ h => h).ext hx18 fun k _ h1 h2 => by have := ho6.lt; omega).mono fun k _ h => .inr (by have := hxw5.size; omega), hlu', fun q cq xq hcq hxq => ?_⟩
      obtain ⟨g1, bv, g2, g3⟩ := hru q cq xq hcq hxq
      exact ⟨g1, bv, g2, Sl.mono (Sl.ext g3 hx18 fun k _ h1 h2 => h1.1.2.1 h2) hF18⟩
theorem got_does {G : Nat → Prop} {w : World} {x : Value} {t : T} (ht : Tr w G x t) (hs : Small t) : Does X.P 11 #[x] w fun r w' => Tr w' (plus G w) r t ∧ Ext nob w w' := got_aux _ (Nat.le_refl _) ht hs
end Go.Proofs.YtepamajphjgigaaGreatDoor.K
/-! Telling a message: single things; unknown tags; slices that grow. -/
set_option linter.unusedVariables false
set_option linter.unusedSimpArgs false
namespace Go.Proofs.YtepamajphjgigaaGreatDoor.K
open Go
set_option maxHeartbeats 1600000
set_option maxRecDepth 100000

abbrev TT : TypeId := 37
abbrev TGT : TypeId := 62
theorem TrC.leaf {w : World} {F : Nat → Prop} {n : Int} {s : List UInt8} {nl : Bool} {sv : Value} (hn : IntKind.i64.wrap n = n) (hs : Bytes w F sv s) : TrC w F [.int .i64 n, sv, .bool nl, .slice none 0 0, .slice none 0 0] (.mk n s nl [] []) :=
  .mk n s nl [] [] sv _ _ [] hn hs (SlE.nil w F 5) rfl (by simp) (TgsR.nil w F)
theorem conv_bytes {w : World} {b c : Nat} {s : List UInt8} {F : Nat → Prop} (hF : F b) (hb : b < w.heap.size) (h : Cells w b 0 (s.map bcell)) (hc : s.length ≤ c ∧ c ≤ maxLen) : Bytes w F (.slice (some ⟨b, 0, none⟩) s.length c) s :=
  ⟨_, _, rfl, hc, by simp, .inr ⟨_, _, rfl, hF, hb, h⟩⟩
theorem textTree_does {w : World} {F : Nat → Prop} {c : Value} {nl : Bool} {u : List UInt8} (h : NTextR w F c (.mk 0 u nl [] [])) (hu : nl = true → u = []) (hl : u.length ≤ maxLen) : Does X.P 30 #[c] w fun r w' => Tr w' (fun k => w.heap.size ≤ k) r (.mk 0 u nl [] []) ∧ Ext nob w w' := by
  rcases h with ⟨hn, rfl⟩ | ⟨hn, b, o, rfl, _, hbl, hc⟩
  · have hn : nl = true := hn
    subst hn
    rw [hu rfl]
    refine Does.go (X := X) (l := [_]) Tryz.func30 rfl (by kernel_rfl) (by kernel_rfl) _ rfl ?_
    ((conv=>whnf);repeat((first|refine mvT ?_|refine mvF ?_|refine yT ?_|refine yF ?_);conv=>whnf))
    intro b2 w1 hb2 ho hx
    ((conv=>whnf);repeat((first|refine mvT ?_|refine mvF ?_|refine yT ?_|refine yF ?_);conv=>whnf))
    refine st_all [.int .i64 0, .slice none 0 0, .bool true, .slice none 0 0, .slice none 0 0] ho rfl rfl rfl ?_
    intro w2 ho2 hx2
    ((conv=>whnf);repeat((first|refine mvT ?_|refine mvF ?_|refine yT ?_|refine yF ?_);conv=>whnf))
    refine ⟨_, rfl, ho2.cells, ?_⟩
    exact ⟨⟨_, rfl, TrC.leaf rfl (Bytes.nil _ _)⟩, hx.st hx2 hb2⟩
  · have hn : nl = false := hn
    subst hn
    refine Does.go (X := X) (l := [_]) Tryz.func30 rfl (by kernel_rfl) (by kernel_rfl) _ rfl ?_
    ((conv=>whnf);repeat((first|refine mvT ?_|refine mvF ?_|refine yT ?_|refine yF ?_);conv=>whnf))
    intro b2 w1 hb2 ho hx
    ((conv=>whnf);repeat((first|refine mvT ?_|refine mvF ?_|refine yT ?_|refine yF ?_);conv=>whnf))
    refine ⟨_, ld (hx.cell hc fun f => f) (by omega), ?_⟩
    ((conv=>whnf);repeat((first|refine mvT ?_|refine mvF ?_|refine yT ?_|refine yF ?_);conv=>whnf))
    refine ⟨by show u.length ≤ maxLen; exact hl, ?_⟩
    intro b3 c3 w2 hb3 hbl3 hC3 hc3 hx3
    have hC3 : Cells w2 b3 0 (u.map bcell) := hC3
    have hc3 : u.length ≤ c3 ∧ c3 ≤ maxLen := hc3
    ((conv=>whnf);repeat((first|refine mvT ?_|refine mvF ?_|refine yT ?_|refine yF ?_);conv=>whnf))
    refine st_all [.int .i64 0, .slice (some ⟨b3, 0, none⟩) u.length c3, .bool false, .slice none 0 0, .slice none 0 0] (ho.e0 hx3) rfl rfl rfl ?_
    intro w3 ho3 hx4
    have hsz := hx.size
    have hbl := ho.lt
    ((conv=>whnf);repeat((first|refine mvT ?_|refine mvF ?_|refine yT ?_|refine yF ?_);conv=>whnf))
    refine ⟨_, rfl, ho3.cells, ?_⟩
    exact ⟨⟨_, rfl, TrC.leaf rfl ((conv_bytes (F := fun k => w.heap.size ≤ k ∧ k ≠ b2) ⟨by omega, by omega⟩ hbl3 hC3 hc3).ext hx4 (fun k _ h => h.2) |> fun h => Sl.mono h fun k _ h => h.1)⟩, (hx.e0 hx3).st hx4 hb2⟩
theorem boolTree_does {w : World} (b : Bool) : Does X.P 33 #[.bool b] w fun r w' => Tr w' (fun k => w.heap.size ≤ k) r (numT (if b = true then 1 else 0)) ∧ Ext nob w w' := by
  cases b
  · refine Does.go (X := X) (l := [_]) Tryz.func33 rfl (by kernel_rfl) (by kernel_rfl) _ rfl ?_
    ((conv=>whnf);repeat((first|refine mvT ?_|refine mvF ?_|refine yT ?_|refine yF ?_);conv=>whnf))
    intro b2 w1 hb2 ho hx
    ((conv=>whnf);repeat((first|refine mvT ?_|refine mvF ?_|refine yT ?_|refine yF ?_);conv=>whnf))
    refine st_all [.int .i64 0, .slice none 0 0, .bool false, .slice none 0 0, .slice none 0 0] ho rfl rfl rfl ?_
    intro w2 ho2 hx2
    ((conv=>whnf);repeat((first|refine mvT ?_|refine mvF ?_|refine yT ?_|refine yF ?_);conv=>whnf))
    refine ⟨_, rfl, ho2.cells, ?_⟩
    exact ⟨⟨_, rfl, TrC.leaf rfl (Bytes.nil _ _)⟩, hx.st hx2 hb2⟩
  · refine Does.go (X := X) (l := [_]) Tryz.func33 rfl (by kernel_rfl) (by kernel_rfl) _ rfl ?_
    ((conv=>whnf);repeat((first|refine mvT ?_|refine mvF ?_|refine yT ?_|refine yF ?_);conv=>whnf))
    intro b2 w1 hb2 ho hx
    ((conv=>whnf);repeat((first|refine mvT ?_|refine mvF ?_|refine yT ?_|refine yF ?_);conv=>whnf))
    refine st_all [.int .i64 1, .slice none 0 0, .bool false, .slice none 0 0, .slice none 0 0] ho rfl rfl rfl ?_
    intro w2 ho2 hx2
    ((conv=>whnf);repeat((first|refine mvT ?_|refine mvF ?_|refine yT ?_|refine yF ?_);conv=>whnf))
    refine ⟨_, rfl, ho2.cells, ?_⟩
    exact ⟨⟨_, rfl, TrC.leaf rfl (Bytes.nil _ _)⟩, hx.st hx2 hb2⟩
/-- Tags that have been told: a slice of our own, their octets in new blocks. -/
def OTn (w : World) (B : Nat) (v : Value) (u : List Tg) : Prop :=
  ∃ ls, OSl w B TGT 2 v ls ∧ ls.length = u.length ∧ ∀ (i : Nat) (c : List Value) (x : Tg), ls[i]? = some c → u[i]? = some x → TgC w (fun k => B ≤ k ∧ v.ownBlock ≠ some k) c x
theorem OTn.nil (w : World) (B : Nat) : OTn w B (.slice none 0 0) [] := ⟨[], OSl.nil w B TGT 2, rfl, by simp⟩
theorem OTn.one {w : World} {B : Nat} {v : Value} {u : List Tg} (h : OTn w B v u) : ∃ a n c, v = .slice a n c := by
  obtain ⟨ls, h1, _⟩ := h
  obtain ⟨a, c, rfl, _⟩ := h1.shape
  exact ⟨_, _, _, rfl⟩
theorem OTn.ext {M : Nat → Prop} {w w' : World} {B : Nat} {v : Value} {u : List Tg} (h : OTn w B v u) (x : Ext M w w') (hM : ∀ k, k < w.heap.size → B ≤ k → ¬ M k) : OTn w' B v u := by
  obtain ⟨ls, h1, h2, h3⟩ := h
  refine ⟨ls, h1.ext x fun k hk => hM k (h1.own.lt k hk) (h1.blk k hk), h2, fun i c y hc hy => (h3 i c y hc hy).ext x fun k hk hf => hM k hk hf.1⟩
theorem OTn.tgs {w : World} {B : Nat} {G : Nat → Prop} {v : Value} {u : List Tg} (h : OTn w B v u) (hB : ∀ k, B ≤ k → G k) : TgsR w G v u := by
  obtain ⟨ls, h1, h2, h3⟩ := h
  refine ⟨ls, h1.sl hB, h2, fun i c x hc hx => ?_⟩
  obtain ⟨g1, bv, g2, g3⟩ := h3 i c x hc hx
  exact ⟨g1, bv, g2, Sl.mono g3 fun k _ hk => hB k hk.1⟩
/-- One tag more. -/
theorem OTn.app {w : World} {B : Nat} {v : Value} {u : List Tg} (h : OTn w B v u) {b n0 c0 sz' by0 : Nat} {Ty : TypeId} {bv : Value} {x : Tg} {z : List Value} {K : Value → World → Prop} (hsz : sz' = 2) (hb : Own w b Ty [.int .u32 (x.1 : Int), bv]) (hn0 : n0 = 1) (hone : bv.oneCell' = true) (hz : z.length = 2) (hl : u.length ≤ 1000000) (hby : by0 ≤ 100) (hB : B ≤ w.heap.size)
    (hk : x.1 < 4294967296) (hx : Bytes w (fun k => B ≤ k ∧ v.ownBlock ≠ some k) bv x.2)
    (kk : ∀ v' w', OTn w' B v' (u ++ [x]) → Ext (fun k => v.ownBlock = some k) w w' → K v' w') :
    ∃ n xs m' news, OwnSl w TGT sz' v n xs ∧ Src w sz' (.slice (some ⟨b, 0, none⟩) n0 c0) m' news ∧ (z.length = sz' ∧ okCells news = true) ∧ (n + m' ≤ maxLen ∧ (n + m') * by0 ≤ 140737488355328) ∧
      ∀ v' w', OwnSl w' TGT sz' v' (n + m') (xs ++ news) → Appended w w' v v' → K v' w' := by
  obtain ⟨ls, h1, h2, h3⟩ := h
  have hm : (ls.length + 1) * by0 ≤ 1000001 * 100 := Nat.mul_le_mul (by omega) hby
  refine app_struct (ms := [[.int .u32 (x.1 : Int), bv]]) hsz h1 (src_one hb rfl hn0) (by simp) (show okCells [.int .u32 (x.1 : Int), bv] = true from ok_cons rfl (ok_cons hone ok_nil)) hz ⟨by simp only [List.length_singleton]; omega, by simp only [List.length_singleton]; omega⟩ hB ?_
  intro v' w' ho hxx hblk _
  refine kk v' w' ⟨_, ho, by simp [h2], fun i c y hc hy => ?_⟩ hxx
  have hne : ∀ k, k < w.heap.size → v.ownBlock ≠ some k → v'.ownBlock ≠ some k := by
    intro k hk hv e
    rcases hblk with e2 | ⟨q, e2, hle⟩
    · exact hv (e2 ▸ e)
    · rw [e, Option.some.injEq] at e2
      omega
  rcases Nat.lt_or_ge i ls.length with hi | hi
  · rw [List.getElem?_append_left hi] at hc
    rw [List.getElem?_append_left (by omega)] at hy
    obtain ⟨g1, g2, g3, g4⟩ := h3 i c y hc hy
    exact ⟨g1, g2, g3, Sl.mono (Sl.ext (Sl.mono g4 (F' := fun k => (B ≤ k ∧ v.ownBlock ≠ some k) ∧ k < w.heap.size) fun k hk h => ⟨h, hk⟩) hxx fun k _ h => h.1.2) fun k _ h => ⟨h.1.1, hne k h.2 h.1.2⟩⟩
  · rw [List.getElem?_append_right hi] at hc
    rw [List.getElem?_append_right (by omega), ← h2] at hy
    obtain ⟨e, he⟩ : ∃ e, i - ls.length = e := ⟨_, rfl⟩
    rw [he] at hc hy
    cases e with
    | zero =>
      simp only [List.getElem?_cons_zero, Option.some.injEq] at hc hy
      subst hc
      subst hy
      exact ⟨hk, bv, rfl, Sl.mono (Sl.ext (Sl.mono hx (F' := fun k => (B ≤ k ∧ v.ownBlock ≠ some k) ∧ k < w.heap.size) fun k hk h => ⟨h, hk⟩) hxx fun k _ h => h.1.2) fun k _ h => ⟨h.1.1, hne k h.2 h.1.2⟩⟩
    | succ e => simp at hc
theorem OTn.low {w : World} {B B' : Nat} {v : Value} {u : List Tg} (h : OTn w B v u) (hB : B' ≤ B) : OTn w B' v u := by
  obtain ⟨ls, h1, h2, h3⟩ := h
  refine ⟨ls, h1.mono hB, h2, fun i c x hc hx => ?_⟩
  obtain ⟨g1, bv, g2, g3⟩ := h3 i c x hc hx
  exact ⟨g1, bv, g2, Sl.mono g3 fun k _ hk => ⟨Nat.le_trans hB hk.1, hk.2⟩⟩
/-- The tree at work while its tags are told. -/
def InvT (bt : Nat) (T : TypeId) (lv : Value) (N : Nat) (u : List Tg) (w : World) : Prop := ∃ uv, Own w bt T [.int .i64 0, .slice none 0 0, .bool false, lv, uv] ∧ OTn w N uv u
/-- What a function that tells one tag does. -/
def TellsT (g : FuncId) : Prop := ∀ {w : World} {N bt : Nat} {T : TypeId} {lv bv : Value} {F : Nat → Prop} {u : List Tg} {x : Tg}, InvT bt T lv N u w → N ≤ w.heap.size → bt < N → u.length ≤ 1000000 → x.1 < 4294967296 → Bytes w F bv x.2 → x.2.length ≤ 70368744177664 →
  Does X.P g #[.int .u32 (x.1 : Int), bv, .pointer (some ⟨bt, 0, none⟩)] w fun _ w' => InvT bt T lv N (u ++ [x]) w' ∧ Ext (fun j => j = bt ∨ N ≤ j) w w'
def tagOf (u : List Tg) (y : Nat × Value) : Tg := (u.find? fun z => z.1 == y.1).getD (y.1, [])
theorem find_key : ∀ {u : List Tg} {i : Nat} {x : Tg}, (u.map Prod.fst).Nodup → u[i]? = some x → u.find? (fun z => z.1 == x.1) = some x
  | [], i, x, _, h => by simp at h
  | y :: r, 0, x, _, h => by
    simp only [List.getElem?_cons_zero, Option.some.injEq] at h
    subst h
    simp
  | y :: r, i + 1, x, hd, h => by
    simp only [List.getElem?_cons_succ] at h
    rw [List.map_cons, List.nodup_cons] at hd
    have hne : (y.1 == x.1) = false := by
      rw [Bool.eq_false_iff]
      intro e
      have e : y.1 = x.1 := by simpa using e
      exact hd.1 (by rw [e]; exact List.mem_map.2 ⟨x, List.mem_of_getElem? h, rfl⟩)
    rw [List.find?_cons, hne]
    exact find_key hd.2 h
/-- All tags are told, in rising order. -/
theorem EachT {w : World} {F : Nat → Prop} {p o bt : Nat} {T : TypeId} {m lv : Value} {u : List Tg} {g : FuncId} (hcl : TellsT g) (hp : w.cell? ⟨p, o, none⟩ = some m) (hu : TagsR w F m u) (hd : (u.map Prod.fst).Nodup) (hul : u.length ≤ 1000000) (hk : ∀ x, x ∈ u → x.1 < 4294967296 ∧ x.2.length ≤ 2147483647)
    (ho : Own w bt T [.int .i64 0, .slice none 0 0, .bool false, lv, .slice none 0 0]) (hpb : p ≠ bt) (hF : ∀ k, k < w.heap.size → F k → k ≠ bt) :
    Does X.P 35 #[.pointer (some ⟨p, o, none⟩), .func (.func g) #[] #[.pointer (some ⟨bt, 0, none⟩)]] w fun r w' => ∃ u' uv, u'.Perm u ∧ u'.Pairwise (fun a b => a.1 < b.1) ∧ Own w' bt T [.int .i64 0, .slice none 0 0, .bool false, lv, uv] ∧ OTn w' w.heap.size uv u' ∧ Ext (fun k => k = bt) w w' := by
  obtain ⟨kvs, hm, hlen, hkv⟩ := hu
  have hbl := ho.lt
  cases hm with
  | none =>
    have hu0 : u = [] := List.eq_nil_of_length_eq_zero (by simpa using hlen.symm)
    subst hu0
    refine Does.mono (Each_none hp) ?_
    rintro r w2 rfl
    exact ⟨[], _, List.Perm.refl _, List.Pairwise.nil, ho, OTn.nil _ _, Ext.refl _ _⟩
  | some b kvs hb hf hne0 =>
    have hmap : kvs.map (tagOf u) = u := by
      apply List.ext_getElem
      · simpa using hlen
      · intro i h1 h2
        simp only [List.length_map] at h1
        obtain ⟨e, _⟩ := hkv i kvs[i] u[i] (by simp [h1]) (by simp [h2])
        rw [List.getElem_map, tagOf, e, find_key hd (by simp [h2] : u[i]? = some u[i])]
        rfl
    have hkey : ∀ y, y ∈ kvs → (tagOf u y).1 = y.1 ∧ ∃ x, x ∈ u ∧ tagOf u y = x ∧ Bytes w F y.2 x.2 := by
      intro y hy
      obtain ⟨i, hi⟩ := List.mem_iff_getElem?.1 hy
      have hil := (List.getElem?_eq_some_iff.1 hi).1
      have hiu : u[i]? = some u[i] := by simp [← hlen, hil]
      obtain ⟨e, hbb⟩ := hkv i y u[i] hi hiu
      have : tagOf u y = u[i] := by rw [tagOf, e, find_key hd hiu]; rfl
      exact ⟨by rw [this, e], u[i], List.mem_of_getElem? hiu, this, hbb⟩
    have hnd : (kvs.map Prod.fst).Nodup := by
      have : kvs.map Prod.fst = u.map Prod.fst := by
        rw [← hmap, List.map_map]
        exact List.map_congr_left fun y hy => (hkey y hy).1.symm ▸ by simp [hmap, (hkey y hy).1]
      rw [this]
      exact hd
    refine Does.mono (Each_some (M := fun j => j = bt) (fun N done w' => InvT bt T lv N (done.map (tagOf u)) w') hp hb (fun y hy => ?_) hnd (by omega) ⟨hpb, fun e => hF b hb.lt hf e, fun j e => by subst e; exact hbl⟩ ?_ ?_) ?_
    · obtain ⟨e, x, hx, hex, _⟩ := hkey y hy
      rw [← e, hex]
      exact (hk x hx).1
    · intro w' hx
      exact ⟨_, ho.e0 hx, OTn.nil _ _⟩
    · intro N done y rest w' hperm hpw hI hN1 hN2 hx
      have hy : y ∈ kvs := hperm.mem_iff.1 (by simp)
      obtain ⟨e, x, hxu, hex, hbb⟩ := hkey y hy
      have hdl : done.length ≤ 1000000 := by
        have := hperm.length_eq
        simp only [List.length_append, List.length_cons] at this
        omega
      have hbb' : Bytes w' (fun k => F k ∧ k < w.heap.size) y.2 x.2 := Sl.ext (Sl.mono hbb fun k hk h => ⟨h, hk⟩) hx fun k hk h h2 => by
        rcases h2 with h2 | h2
        · exact hF k h.2 h.1 h2
        · have := h.2; omega
      have hrun := hcl (x := x) (bv := y.2) hI hN2 (by omega) (by simpa using hdl) (hk x hxu).1 hbb' (by have := (hk x hxu).2; omega)
      have ek : x.1 = y.1 := by rw [← hex]; exact e
      rw [ek] at hrun
      refine Does.mono hrun ?_
      rintro r w2 ⟨h1, h2⟩
      refine ⟨?_, h2⟩
      rw [List.map_append, List.map_cons, List.map_nil, hex]
      exact h1
    · rintro r w' ⟨N, ds, hperm, hpw, ⟨uv, ho2, hT⟩, hx, hN⟩
      have hp2 := hperm.map (tagOf u)
      rw [hmap] at hp2
      refine ⟨_, uv, hp2, ?_, ho2, hT.low hN, hx.mono fun k hk h => by rcases h with h | h; exact h; omega⟩
      refine List.pairwise_map.2 (hpw.imp_of_mem fun {a b} ha hb h => ?_)
      rw [(hkey a (hperm.mem_iff.1 ha)).1, (hkey b (hperm.mem_iff.1 hb)).1]
      exact h
/-- Rising tags stay as they are. -/
theorem sorted_does {w : World} {F : Nat → Prop} {v : Value} {u : List Tg} (hu : TgsR w F v u) (hs : u.Pairwise fun a b => a.1 < b.1) (hl : u.length ≤ 1000000) : Does X.P 37 #[v] w fun r w' => Ext nob w w' := by
  obtain ⟨ls, hls, hlen, hr⟩ := hu
  obtain ⟨a, c, rfl, hc, hm, hF, _, hC⟩ := hls.view
  refine Does.go (X := X) (l := [_]) Tryz.func37 rfl (by kernel_rfl) (by kernel_rfl) _ rfl ?_
  ((conv=>whnf);repeat((first|refine mvT ?_|refine mvF ?_|refine yT ?_|refine yF ?_);conv=>whnf))
  refine VL.loop (fun i : Nat => [(0, .slice a ls.length c), (4, .slice a ls.length c), (5, .int .i64 ls.length), (6, .int .i64 i)]) (fun i w' => Ext nob w w' ∧ i ≤ ls.length) (fun i => ls.length - i) 0 ⟨rfl, rfl, rfl, rfl, trivial⟩ ⟨Ext.refl _ _, Nat.zero_le _⟩ ?_
  rintro i w1 ⟨hx, hi⟩
  ((conv=>whnf);repeat((first|refine mvT ?_|refine mvF ?_|refine yT ?_|refine yF ?_);conv=>whnf))
  refine cI (by rfl) (fun h1=>?_) (fun h1=>?_)
  · have hil : i < ls.length := by have := of_decide_eq_true h1; omega
    ((conv=>whnf);repeat((first|refine mvT ?_|refine mvF ?_|refine yT ?_|refine yF ?_);conv=>whnf))
    refine VL.loop (fun _ : Unit => [(3, .int .i64 i), (0, .slice a ls.length c), (4, .slice a ls.length c), (5, .int .i64 ls.length), (6, .int .i64 i)]) (fun _ w' => Ext nob w w') (fun _ => 0) () ⟨rfl, rfl, rfl, rfl, rfl, trivial⟩ hx ?_
    rintro ⟨⟩ w2 hx2
    ((conv=>whnf);repeat((first|refine mvT ?_|refine mvF ?_|refine yT ?_|refine yF ?_);conv=>whnf))
    refine VD.draw mixed (.q 0 (.q 1 (.q 2 (.q 3 (.q 4 (.q 5 (.q 6 (.q 7 (.q 8 (.q 9 (.q 10 (.q 11 (.q 12 (.q 13 (.q 14 (.q 15 (.done))))))))))))))))) (by kernel_rfl) ?_;((conv=>whnf);repeat((first|refine mvT ?_|refine mvF ?_|refine yT ?_|refine yF ?_);conv=>whnf))
    intro cq hcq
    have hxw := hx2.e0 (ext_drew _)
    cases cq with
    | false =>
      ((conv=>whnf);repeat((first|refine mvT ?_|refine mvF ?_|refine yT ?_|refine yF ?_);conv=>whnf))
      refine ⟨i + 1, ⟨rfl, rfl, rfl, inc_eq (by omega), trivial⟩, ⟨hxw, by omega⟩, by omega⟩
    | true =>
      have hi0 : 0 < i := by have := of_decide_eq_true hcq; omega
      have hiu : i < u.length := by omega
      obtain ⟨b1, o1, rfl, hc1⟩ := hC i ls[i] (by simp [hil])
      obtain ⟨b2, o2, e2, hc2⟩ := hC (i - 1) ls[i - 1] (by simp)
      simp only [Option.some.injEq, Addr.mk.injEq, and_true] at e2
      obtain ⟨rfl, rfl⟩ := e2
      obtain ⟨_, bv1, g1, _⟩ := hr i ls[i] u[i] (by simp [hil]) (by simp [hiu])
      obtain ⟨_, bv2, g2, _⟩ := hr (i - 1) ls[i - 1] u[i - 1] (by simp) (by simp)
      rw [g1] at hc1
      rw [g2] at hc2
      ((conv=>whnf);repeat((first|refine mvT ?_|refine mvF ?_|refine yT ?_|refine yF ?_);conv=>whnf))
      refine ⟨b1, o1, rfl, ⟨by omega, by omega⟩, ?_⟩
      ((conv=>whnf);repeat((first|refine mvT ?_|refine mvF ?_|refine yT ?_|refine yF ?_);conv=>whnf))
      refine ⟨_, ld ((hc1.e0 hxw).cell (j := 0) rfl) (by simp), ?_⟩
      ((conv=>whnf);repeat((first|refine mvT ?_|refine mvF ?_|refine yT ?_|refine yF ?_);conv=>whnf))
      have hw : IntKind.i64.wrap ((i : Int) - 1) = ((i - 1 : Nat) : Int) := by rw [IntKind.wrap_i64]; omega
      rw [hw]
      refine ⟨b1, o1, rfl, ⟨by omega, by omega⟩, ?_⟩
      ((conv=>whnf);repeat((first|refine mvT ?_|refine mvF ?_|refine yT ?_|refine yF ?_);conv=>whnf))
      refine ⟨_, ld ((hc2.e0 hxw).cell (j := 0) rfl) (by simp), ?_⟩
      ((conv=>whnf);repeat((first|refine mvT ?_|refine mvF ?_|refine yT ?_|refine yF ?_);conv=>whnf))
      have hlt : u[i - 1].1 < u[i].1 := List.pairwise_iff_getElem.1 hs (i - 1) i (by omega) hiu (by omega)
      refine cI (by rfl) (fun h9=>?_) (fun h9=>?_)
      · have := of_decide_eq_true h9
        omega
      · ((conv=>whnf);repeat((first|refine mvT ?_|refine mvF ?_|refine yT ?_|refine yF ?_);conv=>whnf))
        exact ⟨i + 1, ⟨rfl, rfl, rfl, inc_eq (by omega), trivial⟩, ⟨hxw, by omega⟩, by omega⟩
  · ((conv=>whnf);repeat((first|refine mvT ?_|refine mvF ?_|refine yT ?_|refine yF ?_);conv=>whnf))
    exact hx
theorem rows_sl {w : World} {bl : Nat} {T : TypeId} {rows : List (List Value)} {n B : Nat} (h : Own w bl T rows.flatten) (hl : ∀ c, c ∈ rows → c.length = 5) (hn : n = rows.length) (hm : n ≤ maxLen) (hB : B ≤ bl) : SlE w (fun k => B ≤ k) 5 (.slice (some ⟨bl, 0, none⟩) n n) rows := by
  subst hn
  exact ⟨⟨_, _, rfl, ⟨Nat.le_refl _, hm⟩, flat_len' hl, .inr ⟨_, _, rfl, hB, h.lt, h.cells⟩⟩, hl⟩
theorem inL3 {x y z : Ob} {k : Nat} (h : inL [x, y, z] k) : k = x.1 ∨ k = y.1 ∨ k = z.1 := by
  rcases h.cases with h | h
  · exact .inl h
  rcases h.cases with h | h
  · exact .inr (.inl h)
  rcases h.cases with h | h
  · exact .inr (.inr h)
  · exact absurd h inL_nil
/-- The same, with the tags in rising order, at every level. -/
inductive Nrm : T → T → Prop
  | mk (n : Int) (s : List UInt8) (nl : Bool) (l l' : List T) (u u' : List Tg) (hl : l'.length = l.length) (hls : ∀ (i : Nat) (x y : T), l[i]? = some x → l'[i]? = some y → Nrm x y) (hp : u'.Perm u) (hs : u'.Pairwise fun a b => a.1 < b.1) : Nrm (.mk n s nl l u) (.mk n s nl l' u')
/-- What can be told: no thing is too great. -/
inductive LimT : T → Prop
  | mk (n : Int) (s : List UInt8) (nl : Bool) (l : List T) (u : List Tg) (hn : IntKind.i64.wrap n = n) (hs : s.length ≤ 2147483647) (hl : l.length ≤ 1000000) (hu : u.length ≤ 1000000) (hk : ∀ x, x ∈ u → x.1 < 4294967296 ∧ x.2.length ≤ 2147483647) (hd : (u.map Prod.fst).Nodup) (hls : ∀ x, x ∈ l → LimT x) : LimT (.mk n s nl l u)
theorem Nrm.leaf (n : Int) (s : List UInt8) (nl : Bool) : Nrm (.mk n s nl [] []) (.mk n s nl [] []) := .mk n s nl [] [] [] [] rfl (by simp) (List.Perm.refl _) List.Pairwise.nil
theorem Sg.st {w0 w : World} {P : World → Prop} {q : Nat} {T : TypeId} {l m : List Value} {A B : List Ob} {o' sz : Nat} {K : World → Prop} (H : Sg w0 (A ++ (q, T, l) :: B) P w) (hs : sz = m.length) (hk : o' + m.length ≤ l.length) (hok : okCells m = true) (kk : ∀ w', Sg w0 (A ++ (q, T, splice l o' m) :: B) P w' → K w') :
    ∃ T l1, Own w q T l1 ∧ m.length.beq sz = true ∧ okCells m = true ∧ (o' + sz).ble l1.length = true ∧ ∀ w', Own w' q T (splice l1 o' m) → Ext (fun k => k = q) w w' → K w' := by
  subst hs
  exact ⟨T, l, H.at, Nat.beq_refl _, hok, by rw [Nat.ble_eq]; exact hk, fun w' h x => kk w' (H.up h x)⟩
/-- Trees that have been told: a slice of our own, what they say in new blocks. -/
def OLn (w : World) (B : Nat) (v : Value) (ts : List T) : Prop :=
  ∃ es, OSl w B TT 5 v es ∧ es.length = ts.length ∧ ∀ (i : Nat) (c : List Value) (x : T), es[i]? = some c → ts[i]? = some x → TrC w (fun k => B ≤ k ∧ v.ownBlock ≠ some k) c x
theorem OLn.nil (w : World) (B : Nat) : OLn w B (.slice none 0 0) [] := ⟨[], OSl.nil w B TT 5, rfl, by simp⟩
theorem OLn.one {w : World} {B : Nat} {v : Value} {ts : List T} (h : OLn w B v ts) : ∃ a c, v = .slice a ts.length c := by
  obtain ⟨es, h1, h2, _⟩ := h
  obtain ⟨a, c, rfl, _⟩ := h1.shape
  exact ⟨_, _, by rw [h2]⟩
theorem OLn.own {w : World} {B : Nat} {v : Value} {ts : List T} (h : OLn w B v ts) : ∀ k, v.ownBlock = some k → B ≤ k ∧ k < w.heap.size := by
  obtain ⟨es, h1, _⟩ := h
  exact fun k hk => ⟨h1.blk k hk, h1.own.lt k hk⟩
theorem OLn.ext {M : Nat → Prop} {w w' : World} {B : Nat} {v : Value} {ts : List T} (h : OLn w B v ts) (x : Ext M w w') (hM : ∀ k, k < w.heap.size → B ≤ k → ¬ M k) : OLn w' B v ts := by
  obtain ⟨ls, h1, h2, h3⟩ := h
  refine ⟨ls, h1.ext x fun k hk => hM k (h1.own.lt k hk) (h1.blk k hk), h2, fun i c y hc hy => (h3 i c y hc hy).ext x fun k hk hf => hM k hk hf.1⟩
theorem OLn.low {w : World} {B B' : Nat} {v : Value} {ts : List T} (h : OLn w B v ts) (hB : B' ≤ B) : OLn w B' v ts := by
  obtain ⟨ls, h1, h2, h3⟩ := h
  exact ⟨ls, h1.mono hB, h2, fun i c x hc hx => (h3 i c x hc hx).mono fun k _ hk => ⟨Nat.le_trans hB hk.1, hk.2⟩⟩
theorem OLn.app {w : World} {B : Nat} {v : Value} {ts : List T} (h : OLn w B v ts) {b n0 c0 sz' by0 : Nat} {Ty : TypeId} {m : List Value} {x : T} {z : List Value} {K : Value → World → Prop} (hsz : sz' = 5) (hb : Own w b Ty m) (hn0 : n0 = 1) (hz : z.length = 5) (hl : ts.length ≤ 1000000) (hby : by0 ≤ 100) (hB : B ≤ w.heap.size)
    (hx : TrC w (fun k => B ≤ k ∧ v.ownBlock ≠ some k) m x)
    (kk : ∀ v' w', OLn w' B v' (ts ++ [x]) → Ext (fun k => v.ownBlock = some k) w w' → (v'.ownBlock = v.ownBlock ∨ ∃ k, v'.ownBlock = some k ∧ w.heap.size ≤ k) → K v' w') :
    ∃ n xs m' news, OwnSl w TT sz' v n xs ∧ Src w sz' (.slice (some ⟨b, 0, none⟩) n0 c0) m' news ∧ (z.length = sz' ∧ okCells news = true) ∧ (n + m' ≤ maxLen ∧ (n + m') * by0 ≤ 140737488355328) ∧
      ∀ v' w', OwnSl w' TT sz' v' (n + m') (xs ++ news) → Appended w w' v v' → K v' w' := by
  obtain ⟨ls, h1, h2, h3⟩ := h
  have hm : (ls.length + 1) * by0 ≤ 1000001 * 100 := Nat.mul_le_mul (by omega) hby
  refine app_struct (ms := [m]) hsz h1 (src_one hb hx.len hn0) (by simp [hx.len]) (by simpa using hx.ok) hz ⟨by simp only [List.length_singleton]; omega, by simp only [List.length_singleton]; omega⟩ hB ?_
  intro v' w' ho hxx hblk _
  refine kk v' w' ⟨_, ho, by simp [h2], fun i c y hc hy => ?_⟩ hxx hblk
  have hne : ∀ k, k < w.heap.size → v.ownBlock ≠ some k → v'.ownBlock ≠ some k := by
    intro k hk hv e
    rcases hblk with e2 | ⟨q, e2, hle⟩
    · exact hv (e2 ▸ e)
    · rw [e, Option.some.injEq] at e2
      omega
  have key : ∀ {c : List Value} {y : T}, TrC w (fun k => B ≤ k ∧ v.ownBlock ≠ some k) c y → TrC w' (fun k => B ≤ k ∧ v'.ownBlock ≠ some k) c y := fun h =>
    ((h.mono (F' := fun k => (B ≤ k ∧ v.ownBlock ≠ some k) ∧ k < w.heap.size) fun k hk h => ⟨h, hk⟩).ext hxx fun k _ h => h.1.2).mono fun k _ h => ⟨h.1.1, hne k h.2 h.1.2⟩
  rcases Nat.lt_or_ge i ls.length with hi | hi
  · rw [List.getElem?_append_left hi] at hc
    rw [List.getElem?_append_left (by omega)] at hy
    exact key (h3 i c y hc hy)
  · rw [List.getElem?_append_right hi] at hc
    rw [List.getElem?_append_right (by omega), ← h2] at hy
    obtain ⟨e, he⟩ : ∃ e, i - ls.length = e := ⟨_, rfl⟩
    rw [he] at hc hy
    cases e with
    | zero =>
      simp only [List.getElem?_cons_zero, Option.some.injEq] at hc hy
      subst hc
      subst hy
      exact key hx
    | succ e => simp at hc
/-- The last of them is written anew. -/
theorem OLn.last {w : World} {B : Nat} {v : Value} {ts : List T} {y : T} (h : OLn w B v (ts ++ [y])) : ∃ g cap, v = .slice (some ⟨g, 0, none⟩) (ts.length + 1) cap ∧ ∀ (m : List Value) (x : T) (sz' p : Nat) (K : World → Prop), sz' = 5 → p = ts.length * 5 → TrC w (fun k => B ≤ k ∧ v.ownBlock ≠ some k) m x →
    (∀ w', OLn w' B v (ts ++ [x]) → Ext (fun k => k = g) w w' → K w') →
    ∃ T l, Own w g T l ∧ m.length.beq sz' = true ∧ okCells m = true ∧ (p + sz').ble l.length = true ∧ ∀ w', Own w' g T (splice l p m) → Ext (fun k => k = g) w w' → K w' := by
  obtain ⟨ls, h1, h2, h3⟩ := h
  have hll : ls.length = ts.length + 1 := by rw [h2]; simp
  obtain ⟨g, cap, hv, hg1, hg2, hput⟩ := h1.put (i := ts.length) (by omega)
  refine ⟨g, cap, by rw [hv, hll], fun m x sz' p K hs hp hx kk => hput m sz' p K hx.len hs hp hx.ok fun w' ho hxx => kk w' ⟨_, ho, by simp [hll], fun i c z hc hz => ?_⟩ hxx⟩
  have hgv : ∀ k, v.ownBlock ≠ some k → ¬ k = g := fun k hk e => hk (by rw [hv, e]; rfl)
  have key : ∀ {c : List Value} {z : T}, TrC w (fun k => B ≤ k ∧ v.ownBlock ≠ some k) c z → TrC w' (fun k => B ≤ k ∧ v.ownBlock ≠ some k) c z := fun h => h.ext hxx fun k _ h => hgv k h.2
  rcases Nat.lt_or_ge i ts.length with hi | hi
  · rw [List.getElem?_set_ne (by omega)] at hc
    rw [List.getElem?_append_left hi] at hz
    exact key (h3 i c z hc (by rw [List.getElem?_append_left hi]; exact hz))
  · rw [List.getElem?_append_right hi] at hz
    obtain ⟨e, he⟩ : ∃ e, i - ts.length = e := ⟨_, rfl⟩
    rw [he] at hz
    cases e with
    | zero =>
      have : i = ts.length := by omega
      subst this
      rw [List.getElem?_set_self (by omega)] at hc
      simp only [List.getElem?_cons_zero, Option.some.injEq] at hc hz
      subst hc
      subst hz
      exact key hx
    | succ e => simp at hz
theorem OLn.row {w : World} {B : Nat} {G : Nat → Prop} {v : Value} {ts : List T} {nl : Bool} (h : OLn w B v ts) (hB : ∀ k, B ≤ k → G k) : TrC w G [.int .i64 0, .slice none 0 0, .bool nl, v, .slice none 0 0] (.mk 0 [] nl ts []) := by
  obtain ⟨ls, h1, h2, h3⟩ := h
  exact .mk 0 [] nl ts [] _ _ _ ls rfl (Bytes.nil _ _) (h1.sl hB) h2 (fun i c x hc hx => (h3 i c x hc hx).mono fun k _ hk => hB k hk.1) (TgsR.nil _ _)
end Go.Proofs.YtepamajphjgigaaGreatDoor.K
