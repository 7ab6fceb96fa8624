
/- Reading a message: what is owned, what is known from now on. How what was read lies in memory: a tree's fields in their cells. Reading, step by step: each kind of a field. Reading lists; fields by their kinds. Reading lists, whole; what each kind of a field comes to. Reading a message: how it begins, stores, how it ends. -/
import Derived.Test.YtepamajphjgigaaGreatDoorD6
/-! Reading a message: what is owned, what is known from now on. -/
set_option linter.unusedVariables false
set_option linter.unusedSimpArgs false
namespace Go.Proofs.YtepamajphjgigaaGreatDoor.K
open Go
set_option maxHeartbeats 800000

abbrev Ob := Nat × TypeId × List Value
def Owns (w : World) : List Ob → Prop
  | [] => True
  | x :: r => Own w x.1 x.2.1 x.2.2 ∧ Owns w r
def inL (L : List Ob) (k : Nat) : Prop := ∃ x, x ∈ L ∧ x.1 = k
/-- Blocks of our own: p, or new ones; none of them is the reader, none stands twice. -/
def Fresh (N p pb : Nat) : List Ob → Prop
  | [] => True
  | x :: r => (x.1 = p ∨ N ≤ x.1) ∧ x.1 ≠ pb ∧ ¬ inL r x.1 ∧ Fresh N p pb r
theorem inL.head (x : Ob) (r : List Ob) : inL (x :: r) x.1 := ⟨x, by simp, rfl⟩
theorem inL.tail {x : Ob} {r : List Ob} {k : Nat} (h : inL r k) : inL (x :: r) k := by
  obtain ⟨y, h1, h2⟩ := h
  exact ⟨y, by simp [h1], h2⟩
theorem inL.cases {x : Ob} {r : List Ob} {k : Nat} (h : inL (x :: r) k) : k = x.1 ∨ inL r k := by
  obtain ⟨y, h1, h2⟩ := h
  rcases List.mem_cons.1 h1 with rfl | h1
  · exact .inl h2.symm
  · exact .inr ⟨y, h1, h2⟩
theorem Fresh.old {N p pb : Nat} : ∀ {L : List Ob}, Fresh N p pb L → ∀ k, inL L k → k = p ∨ N ≤ k
  | [], _, k, h => by obtain ⟨y, h1, _⟩ := h; simp at h1
  | x :: r, h, k, hk => by
    rcases hk.cases with rfl | hk
    · exact h.1
    · exact Fresh.old h.2.2.2 k hk
theorem Fresh.pb {N p pb : Nat} : ∀ {L : List Ob}, Fresh N p pb L → ¬ inL L pb
  | [], _, h => by obtain ⟨y, h1, _⟩ := h; simp at h1
  | x :: r, h, hk => by
    rcases hk.cases with hk | hk
    · exact h.2.1 hk.symm
    · exact Fresh.pb h.2.2.2 hk
theorem Owns.lt {w : World} : ∀ {L : List Ob}, Owns w L → ∀ k, inL L k → k < w.heap.size
  | [], _, k, h => by obtain ⟨y, h1, _⟩ := h; simp at h1
  | x :: r, h, k, hk => by
    rcases hk.cases with rfl | hk
    · exact h.1.lt
    · exact Owns.lt h.2 k hk
theorem Owns.ext {M : Nat → Prop} {w w' : World} : ∀ {L : List Ob}, Owns w L → Ext M w w' → (∀ k, inL L k → ¬ M k) → Owns w' L
  | [], _, _, _ => trivial
  | x :: r, h, hx, hM => ⟨h.1.ext hx (hM _ (inL.head x r)), Owns.ext h.2 hx fun k hk => hM k hk.tail⟩
/-- The state of a reading: w0: where it began; p: the message; pb: the reader; s: what is left; L: what we write; P: what is known, now and as long as nothing but L is written. -/
structure St (w0 : World) (G : Nat → Prop) (p pb : Nat) (s : Rd) (L : List Ob) (P : World → Prop) (w : World) : Prop where
  ext : Ext (fun k => k = p) w0 w
  rd : RdW w G pb s
  reg : ∀ k, G k → k < w0.heap.size ∧ k ≠ p
  new : w0.heap.size ≤ pb
  old : p < w0.heap.size
  own : Owns w L
  dis : Fresh w0.heap.size p pb L
  fut : ∀ w', Ext (fun k => k = pb ∨ inL L k) w w' → P w'
section
variable {w0 w w' : World} {G : Nat → Prop} {p pb : Nat} {s s' : Rd} {L L' : List Ob} {P Q : World → Prop}
theorem St.Gpb (H : St w0 G p pb s L P w) : ∀ k, G k → k ≠ pb := fun k h => by have := (H.reg k h).1; have := H.new; omega
theorem St.now (H : St w0 G p pb s L P w) : P w := H.fut w (Ext.refl _ _)
theorem St.step (H : St w0 G p pb s L P w) (x : Ext (fun k => k = pb ∨ inL L k) w w') (hrd : RdW w' G pb s') (hown : Owns w' L') (hdis : Fresh w0.heap.size p pb L') (hL : ∀ k, inL L' k → inL L k ∨ w.heap.size ≤ k) : St w0 G p pb s' L' P w' where
  ext := H.ext.trans x fun k hk h => by
    rcases h with h | h
    · have := H.new; omega
    · rcases H.dis.old k h with h | h
      · exact h
      · omega
  rd := hrd
  reg := H.reg
  new := H.new
  old := H.old
  own := hown
  dis := hdis
  fut := fun w2 x2 => H.fut w2 (x.trans x2 fun k hk h => by
    rcases h with h | h
    · exact .inl h
    · rcases hL k h with h | h
      · exact .inr h
      · omega)
theorem St.read (H : St w0 G p pb s L P w) (h : RdD w G pb s' w') : St w0 G p pb s' L P w' :=
  H.step (h.2.mono fun k _ e => .inl e) h.1.w (H.own.ext h.2 fun k hk e => H.dis.pb (e ▸ hk)) H.dis fun k h => .inl h
theorem St.rdExt (H : St w0 G p pb s L P w) (x : Ext (fun k => inL L k) w w') : RdW w' G pb s :=
  H.rd.ext x (fun h => H.dis.pb h) fun k _ hg hl => by
    have := H.reg k hg
    rcases H.dis.old k hl with h | h <;> omega
theorem St.e0 (H : St w0 G p pb s L P w) (x : Ext nob w w') : St w0 G p pb s L P w' :=
  H.step (x.mono fun _ _ f => f.elim) (H.rd.e0 x) (H.own.ext x fun _ _ f => f) H.dis fun k h => .inl h
/-- The first block is written. -/
theorem St.put {q : Nat} {T : TypeId} {l l' : List Value} (H : St w0 G p pb s ((q, T, l) :: L) P w) (ho : Own w' q T l') (x : Ext (fun k => k = q) w w') : St w0 G p pb s ((q, T, l') :: L) P w' := by
  have hd := H.dis
  have x' : Ext (fun k => inL ((q, T, l) :: L) k) w w' := x.mono fun k _ e => by subst e; exact inL.head _ _
  refine H.step (x'.mono fun k _ h => .inr h) (H.rdExt x') ⟨ho, H.own.2.ext x fun k hk e => hd.2.2.1 (e ▸ hk)⟩ ⟨hd.1, hd.2.1, hd.2.2.1, hd.2.2.2⟩ fun k h => .inl ?_
  rcases h.cases with h | h
  · exact ⟨(q, T, l), by simp, h.symm⟩
  · exact h.tail
theorem St.push {q : Nat} {T : TypeId} {l : List Value} (H : St w0 G p pb s L P w) (x : Ext nob w w') (ho : Own w' q T l) (hq : w.heap.size ≤ q) : St w0 G p pb s ((q, T, l) :: L) P w' := by
  have hs := H.ext.size
  have hpb := H.rd.lt
  refine H.step (x.mono fun _ _ f => f.elim) (H.rd.e0 x) ⟨ho, H.own.ext x fun _ _ f => f⟩ ⟨.inr (by simp only; omega), by simp only; omega, fun h => by have := H.own.lt _ h; simp only at this; omega, H.dis⟩ fun k h => ?_
  rcases h.cases with rfl | h
  · exact .inr hq
  · exact .inl h
/-- The first block is written no more. -/
theorem St.pop {q : Nat} {T : TypeId} {l : List Value} (H : St w0 G p pb s ((q, T, l) :: L) P w) (hQ : ∀ w', Ext (fun k => k = pb ∨ inL L k) w w' → Own w' q T l → P w' → Q w') : St w0 G p pb s L Q w where
  ext := H.ext
  rd := H.rd
  reg := H.reg
  new := H.new
  old := H.old
  own := H.own.2
  dis := H.dis.2.2.2
  fut := fun w2 x2 => hQ w2 x2 (H.own.1.ext x2 fun h => by rcases h with h | h; exact H.dis.2.1 h; exact H.dis.2.2.1 h) (H.fut w2 (x2.mono fun k _ h => h.imp id inL.tail))
theorem St.add (H : St w0 G p pb s L P w) (hQ : ∀ w', Ext (fun k => k = pb ∨ inL L k) w w' → Q w') : St w0 G p pb s L (fun w => Q w ∧ P w) w where
  ext := H.ext
  rd := H.rd
  reg := H.reg
  new := H.new
  old := H.old
  own := H.own
  dis := H.dis
  fut := fun w2 x2 => ⟨hQ w2 x2, H.fut w2 x2⟩
theorem St.weak (H : St w0 G p pb s L P w) (hQ : ∀ w', P w' → Q w') : St w0 G p pb s L Q w :=
  ⟨H.ext, H.rd, H.reg, H.new, H.old, H.own, H.dis, fun w2 x2 => hQ w2 (H.fut w2 x2)⟩
/-- Where what was read lies: in the octets, or anew. -/
abbrev FG (w0 : World) (G : Nat → Prop) : Nat → Prop := fun k => G k ∨ w0.heap.size ≤ k
/-- What lies in none of our blocks. -/
def Else (L : List Ob) (pb : Nat) (k : Nat) : Prop := k ≠ pb ∧ ¬ inL L k
theorem Else.not {k : Nat} (h : Else L pb k) : ¬ (k = pb ∨ inL L k) := fun e => e.elim h.1 h.2
theorem St.head {q : Nat} {T : TypeId} {l : List Value} (H : St w0 G p pb s ((q, T, l) :: L) P w) : Own w q T l := H.own.1
theorem St.cell {q : Nat} {T : TypeId} {pre cur post : List Value} (H : St w0 G p pb s ((q, T, pre ++ cur ++ post) :: L) P w) {o : Nat} (ho : pre.length = o) {k : Nat} {v : Value} (hk : cur[k]? = some v) : w.cell? ⟨q, o + k, none⟩ = some v := by
  subst ho
  refine H.own.1.cell ?_
  have hkl := (List.getElem?_eq_some_iff.1 hk).1
  rw [List.append_assoc, List.getElem?_append_right (by omega), Nat.add_sub_cancel_left, List.getElem?_append_left hkl]
  exact hk
theorem splice_mid {pre cur post m : List Value} {k : Nat} (hk : k + m.length ≤ cur.length) : splice (pre ++ cur ++ post) (pre.length + k) m = pre ++ splice cur k m ++ post := by
  unfold splice
  have e1 : (pre ++ cur ++ post).take (pre.length + k) = pre ++ cur.take k := by
    rw [List.append_assoc, List.take_append, List.take_of_length_le (by omega), Nat.add_sub_cancel_left, List.take_append_of_le_length (by omega)]
  have e2 : (pre ++ cur ++ post).drop (pre.length + k + m.length) = cur.drop (k + m.length) ++ post := by
    rw [List.append_assoc, List.drop_append, List.drop_eq_nil_of_le (by omega), List.nil_append, show pre.length + k + m.length - pre.length = k + m.length by omega, List.drop_append_of_le_length (by omega)]
  rw [e1, e2]
  simp only [List.append_assoc]
/-- The obligation of a store into the struct at hand. -/
theorem St.st {q : Nat} {T : TypeId} {pre cur post : List Value} (H : St w0 G p pb s ((q, T, pre ++ cur ++ post) :: L) P w) {m : List Value} {o k o' sz : Nat} {K : World → Prop} (hp : pre.length = o) (ho : o' = o + k) (hs : sz = m.length) (hk : k + m.length ≤ cur.length) (hok : okCells m = true)
    (kk : ∀ w', St w0 G p pb s ((q, T, pre ++ splice cur k m ++ post) :: L) P w' → K w') :
    ∃ T l1, Own w q T l1 ∧ m.length.beq sz = true ∧ okCells m = true ∧ (o' + sz).ble l1.length = true ∧ ∀ w', Own w' q T (splice l1 o' m) → Ext (fun k => k = q) w w' → K w' := by
  subst hp
  subst ho
  subst hs
  refine ⟨T, _, H.own.1, Nat.beq_refl _, hok, ?_, fun w' h x => kk w' (H.put ?_ x)⟩
  · rw [Nat.ble_eq]
    simp only [List.length_append]
    omega
  · rw [splice_mid hk] at h
    exact h
end
end Go.Proofs.YtepamajphjgigaaGreatDoor.K
/-! How what was read lies in memory: a tree's fields in their cells. -/
set_option linter.unusedVariables false
set_option linter.unusedSimpArgs false
namespace Go.Proofs.YtepamajphjgigaaGreatDoor.K
open Go
set_option maxHeartbeats 800000

/-- A world and a region. -/
structure WR where
  w : World
  F : Nat → Prop
/-- A number in memory. -/
def numV (kind n : Int) : Value := if kind = 6 then .float .f64 (fb n) else .int (kindI kind) n
/-- A value that is no list, of a kind, in these cells. -/
def QV (QP : List Fd → WR → List Value → T → Prop) (kind : Int) (sub : List Fd) (nb : Bool) (wf : WR) (cs : List Value) (x : T) : Prop :=
  if kind = 0 then ∃ b, cs = [.bool b] ∧ x = numT (if b = true then 1 else 0)
  else if kind = 7 then ∃ u, u.length = 16 ∧ cs = u.map bcell ∧ x = .mk 0 u false [] []
  else if kind = 8 then (if nb = true then ∃ c nl u, cs = [c] ∧ (nl = true → u = []) ∧ x = .mk 0 u nl [] [] ∧ NTextR wf.w wf.F c x else ∃ u, cs = [str u] ∧ x = .mk 0 u false [] [])
  else if kind = 9 then ∃ c nl u, cs = [c] ∧ (nl = true → u = []) ∧ x = .mk 0 u nl [] [] ∧ OctR true wf.w wf.F c x
  else if kind = 10 then QP sub wf cs x
  else ∃ n, (kindI kind).wrap n = n ∧ cs = [numV kind n] ∧ x = numT n
/-- How many cells a field has; tg: a part has a cell for its unknown tags. -/
def szV (sp : List Fd → Nat) (kind : Int) (sub : List Fd) : Nat := if kind = 7 then 16 else if kind = 10 then sp sub else 1
def QFW (QP : List Fd → WR → List Value → T → Prop) (sp : List Fd → Nat) (f : Fd) (wf : WR) (cs : List Value) (x : T) : Prop :=
  if f.kind = 11 then ∃ c nl l, cs = [c] ∧ (nl = true → l = []) ∧ x = .mk 0 [] nl l [] ∧ ListR true (szV sp f.of f.sub) (fun c y => QV QP f.of f.sub false wf c y) wf.w wf.F c x
  else QV QP f.kind f.sub (decide (0 ≤ f.nul)) wf cs x
def QAll (QF : Fd → WR → List Value → T → Prop) (wf : WR) : List Fd → List Value → List T → Prop
  | [], cs, l => cs = [] ∧ l = []
  | f :: r, cs, l => ∃ c1 c2 x l2, cs = c1 ++ c2 ∧ l = x :: l2 ∧ QF f wf c1 x ∧ QAll QF wf r c2 l2
def QPartW (QF : Fd → WR → List Value → T → Prop) (tg : Bool) (fs : List Fd) (wf : WR) (cs : List Value) (t : T) : Prop :=
  ∃ c1 l u c2, cs = c1 ++ c2 ∧ t = .mk 0 [] false l u ∧ QAll QF wf fs c1 l ∧ (if tg = true then ∃ m, c2 = [m] ∧ TagsR wf.w wf.F m u else c2 = [] ∧ u = [])
def szF (tg : Bool) : Nat → Fd → Nat
  | 0, _ => 0
  | d + 1, f => if f.kind = 11 then 1 else szV (fun sub => (sub.map (szF tg d)).sum + (if tg = true then 1 else 0)) f.kind f.sub
def szP (tg : Bool) (d : Nat) (fs : List Fd) : Nat := (fs.map (szF tg d)).sum + (if tg = true then 1 else 0)
/-- A field as it was read. -/
def QField (tg : Bool) : Nat → Fd → WR → List Value → T → Prop
  | 0, _, _, _, _ => False
  | d + 1, f, wf, cs, x => QFW (fun sub wf cs x => QPartW (QField tg d) tg sub wf cs x) (fun sub => szP tg d sub) f wf cs x
def QPart (tg : Bool) (d : Nat) (fs : List Fd) (wf : WR) (cs : List Value) (t : T) : Prop := QPartW (QField tg d) tg fs wf cs t
section
/-- What holds when nothing of the region is written. -/
def Later (Q : WR → Prop) : Prop := ∀ (w w' : World) (F F' M : Nat → Prop), Q ⟨w, F⟩ → Ext M w w' → (∀ k, k < w.heap.size → F k → ¬ M k ∧ F' k) → Q ⟨w', F'⟩
theorem QV_later {QP : List Fd → WR → List Value → T → Prop} (hP : ∀ sub cs x, Later fun wf => QP sub wf cs x) (kind : Int) (sub : List Fd) (nb : Bool) (cs : List Value) (x : T) : Later fun wf => QV QP kind sub nb wf cs x := by
  intro w w' F F' M h hx hF
  have hF1 : ∀ k, k < w.heap.size → F k → ¬ M k := fun k h1 h2 => (hF k h1 h2).1
  have hF2 : ∀ k, k < w.heap.size → F k → F' k := fun k h1 h2 => (hF k h1 h2).2
  try dsimp only at h ⊢
  unfold QV at h ⊢
  by_cases h0 : kind = 0
  · simp only [h0, if_true] at h ⊢; exact h
  by_cases h7 : kind = 7
  · subst h7; exact h
  by_cases h8 : kind = 8
  · subst h8
    simp only [show ¬ ((8 : Int) = 0) by decide, show ¬ ((8 : Int) = 7) by decide, if_false, if_true] at h ⊢
    cases nb with
    | true =>
      obtain ⟨c, nl, u, h1, h2, h3, h4⟩ := h
      exact ⟨c, nl, u, h1, h2, h3, (h4.mono (F' := fun k => F k ∧ F' k) fun k hk hf => ⟨hf, hF2 k hk hf⟩).ext hx (fun k hk hf => hF1 k hk hf.1) |>.mono fun k _ hf => hf.2⟩
    | false => exact h
  by_cases h9 : kind = 9
  · subst h9
    simp only [show ¬ ((9 : Int) = 0) by decide, show ¬ ((9 : Int) = 7) by decide, show ¬ ((9 : Int) = 8) by decide, if_false, if_true] at h ⊢
    obtain ⟨c, nl, u, h1, h2, h3, h4⟩ := h
    exact ⟨c, nl, u, h1, h2, h3, (h4.mono (F' := fun k => F k ∧ F' k) fun k hk hf => ⟨hf, hF2 k hk hf⟩).ext hx (fun k hk hf => hF1 k hk hf.1) |>.mono fun k _ hf => hf.2⟩
  by_cases h10 : kind = 10
  · simp only [h0, h7, h8, h9, h10, if_false, if_true] at h ⊢
    simp only [show ¬ ((10 : Int) = 0) by decide, show ¬ ((10 : Int) = 7) by decide, show ¬ ((10 : Int) = 8) by decide, show ¬ ((10 : Int) = 9) by decide, if_false] at h ⊢
    exact hP sub cs x w w' F F' M h hx hF
  · simp only [h0, h7, h8, h9, h10, if_false] at h ⊢
    exact h
theorem ListR_later {nb : Bool} {sz : Nat} {R : WR → List Value → T → Prop} (hR : ∀ c y, Later fun wf => R wf c y) (c : Value) (x : T) : Later fun wf => ListR nb sz (R wf) wf.w wf.F c x := by
  intro w w' F F' M h hx hF
  have hF1 : ∀ k, k < w.heap.size → F k → ¬ M k := fun k h1 h2 => (hF k h1 h2).1
  have hF2 : ∀ k, k < w.heap.size → F k → F' k := fun k h1 h2 => (hF k h1 h2).2
  try dsimp only at h ⊢
  have h1 : ListR nb sz (R ⟨w, F⟩) w (fun k => F k ∧ F' k) c x := h.mono (fun k hk hf => ⟨hf, hF2 k hk hf⟩) fun _ _ h => h
  have h2 := h1.ext (R' := R ⟨w', F'⟩) hx (fun k hk hf => hF1 k hk hf.1) fun c y hc => hR c y w w' F F' M hc hx hF
  exact h2.mono (fun k _ hf => hf.2) fun _ _ h => h
theorem QFW_later {QP : List Fd → WR → List Value → T → Prop} {sp : List Fd → Nat} (hP : ∀ sub cs x, Later fun wf => QP sub wf cs x) (f : Fd) (cs : List Value) (x : T) : Later fun wf => QFW QP sp f wf cs x := by
  intro w w' F F' M h hx hF
  try dsimp only at h ⊢
  unfold QFW at h ⊢
  by_cases h11 : f.kind = 11
  · simp only [h11, if_true] at h ⊢
    obtain ⟨c, nl, l, h1, h2, h3, h4⟩ := h
    exact ⟨c, nl, l, h1, h2, h3, ListR_later (fun c y => QV_later hP f.of f.sub false c y) c x w w' F F' M h4 hx hF⟩
  · simp only [h11, if_false] at h ⊢
    exact QV_later hP f.kind f.sub _ cs x w w' F F' M h hx hF
theorem QAll_later {QF : Fd → WR → List Value → T → Prop} (hQ : ∀ f cs x, Later fun wf => QF f wf cs x) : ∀ (fs : List Fd) (cs : List Value) (l : List T), Later fun wf => QAll QF wf fs cs l
  | [], cs, l, w, w', F, F', M, h, hx, hF => h
  | f :: r, cs, l, w, w', F, F', M, h, hx, hF => by
    obtain ⟨c1, c2, x, l2, h1, h2, h3, h4⟩ := h
    exact ⟨c1, c2, x, l2, h1, h2, hQ f c1 x w w' F F' M h3 hx hF, QAll_later hQ r c2 l2 w w' F F' M h4 hx hF⟩
theorem QPartW_later {QF : Fd → WR → List Value → T → Prop} (hQ : ∀ f cs x, Later fun wf => QF f wf cs x) (tg : Bool) (fs : List Fd) (cs : List Value) (t : T) : Later fun wf => QPartW QF tg fs wf cs t := by
  intro w w' F F' M h hx hF
  obtain ⟨c1, l, u, c2, h1, h2, h3, h4⟩ := h
  refine ⟨c1, l, u, c2, h1, h2, QAll_later hQ fs c1 l w w' F F' M h3 hx hF, ?_⟩
  cases tg with
  | true =>
    obtain ⟨m, h5, h6⟩ := h4
    exact ⟨m, h5, ((h6.mono (F' := fun k => F k ∧ F' k) fun k hk hf => ⟨hf, (hF k hk hf).2⟩).ext hx fun k hk hf => (hF k hk hf.1).1).mono fun k _ hf => hf.2⟩
  | false => exact h4
theorem QField_later (tg : Bool) : ∀ (d : Nat) (f : Fd) (cs : List Value) (x : T), Later fun wf => QField tg d f wf cs x
  | 0, _, _, _, _, _, _, _, _, h, _, _ => h
  | d + 1, f, cs, x, w, w', F, F', M, h, hx, hF => QFW_later (fun sub cs x => QPartW_later (QField_later tg d) tg sub cs x) f cs x w w' F F' M h hx hF
theorem QPart_later (tg : Bool) (d : Nat) (fs : List Fd) (cs : List Value) (t : T) : Later fun wf => QPart tg d fs wf cs t := QPartW_later (QField_later tg d) tg fs cs t
end
end Go.Proofs.YtepamajphjgigaaGreatDoor.K
/-! Reading, step by step: each kind of a field. -/
set_option linter.unusedVariables false
set_option linter.unusedSimpArgs false
namespace Go.Proofs.YtepamajphjgigaaGreatDoor.K
open Go
set_option maxHeartbeats 800000

section
variable {w0 w w' : World} {G : Nat → Prop} {p pb : Nat} {s s' : Rd} {L L' : List Ob} {P : World → Prop}
/-- What is known now of what lies elsewhere is known from now on. -/
theorem St.keep (H : St w0 G p pb s L P w) {Q : WR → Prop} (hQ : Later Q) {F : Nat → Prop} (h : Q ⟨w, F⟩) (hF : ∀ k, k < w.heap.size → F k → k ≠ pb ∧ ¬ inL L k ∧ FG w0 G k) : St w0 G p pb s L (fun w => Q ⟨w, FG w0 G⟩ ∧ P w) w :=
  H.add fun w' x => hQ w w' F _ _ h x fun k hk hf => ⟨fun e => by
    obtain ⟨h1, h2, _⟩ := hF k hk hf
    rcases e with e | e
    · exact h1 e
    · exact h2 e, (hF k hk hf).2.2⟩
theorem St.keepN (H : St w0 G p pb s L P w) {P' : World → Prop} (H' : St w0 G p pb s' L P' w') {Q : WR → Prop} (hQ : Later Q) {F : Nat → Prop} (h : Q ⟨w', F⟩) (hF : ∀ k, F k → G k ∨ w.heap.size ≤ k) : St w0 G p pb s' L (fun w => Q ⟨w, FG w0 G⟩ ∧ P' w) w' := by
  refine H'.keep hQ h fun k hk hf => ?_
  have hs := H.ext.size
  have hpb := H.rd.lt
  have hp := H.old
  rcases hF k hf with hg | hn
  · have hg' := H.reg k hg
    refine ⟨H.Gpb k hg, fun hl => ?_, .inl hg⟩
    rcases H.dis.old k hl with h | h <;> omega
  · refine ⟨by omega, fun hl => ?_, .inr (by omega)⟩
    have := H.own.lt k hl
    omega
theorem ntextL (c : Value) (x : T) : Later fun wf => NTextR wf.w wf.F c x := fun w w' F F' M h hx hF =>
  ((h.mono (F' := fun k => F k ∧ F' k) fun k hk hf => ⟨hf, (hF k hk hf).2⟩).ext hx fun k hk hf => (hF k hk hf.1).1).mono fun k _ hf => hf.2
theorem tagsL (c : Value) (u : List Tg) : Later fun wf => TagsR wf.w wf.F c u := fun w w' F F' M h hx hF =>
  ((h.mono (F' := fun k => F k ∧ F' k) fun k hk hf => ⟨hf, (hF k hk hf).2⟩).ext hx fun k hk hf => (hF k hk hf.1).1).mono fun k _ hf => hf.2
abbrev NTf (w0 : World) (G : Nat → Prop) (c : Value) (x : T) (w : World) : Prop := NTextR w (FG w0 G) c x
abbrev OCf (w0 : World) (G : Nat → Prop) (c : Value) (x : T) (w : World) : Prop := OctR true w (FG w0 G) c x
abbrev TGf (w0 : World) (G : Nat → Prop) (c : Value) (u : List Tg) (w : World) : Prop := TagsR w (FG w0 G) c u
theorem wrap_idem_i8 (n : Int) : IntKind.i8.wrap (IntKind.i8.wrap n) = IntKind.i8.wrap n := by
  simp only [IntKind.wrap, IntKind.bits, IntKind.signed]
  simp
  split <;> split <;> omega
theorem wrap_idem_i16 (n : Int) : IntKind.i16.wrap (IntKind.i16.wrap n) = IntKind.i16.wrap n := by
  simp only [IntKind.wrap, IntKind.bits, IntKind.signed]
  simp
  split <;> split <;> omega
theorem wrap_idem_i32 (n : Int) : IntKind.i32.wrap (IntKind.i32.wrap n) = IntKind.i32.wrap n := by rw [IntKind.wrap_i32, IntKind.wrap_i32]; omega
theorem wrap_idem_i64 (n : Int) : IntKind.i64.wrap (IntKind.i64.wrap n) = IntKind.i64.wrap n := by rw [IntKind.wrap_i64, IntKind.wrap_i64]; omega
theorem rdLn_in (fx : Bool) (s : Rd) : -2147483648 ≤ (rdLn fx s).1 ∧ (rdLn fx s).1 ≤ 2147483647 := by
  have h : -2147483648 ≤ (rdLz fx s).1 ∧ (rdLz fx s).1 ≤ 2147483647 := by
    unfold rdLz
    split
    · simp only [IntKind.wrap_i32]
      omega
    · simp only [IntKind.wrap_i32]
      omega
  unfold rdLn
  split
  · exact ⟨by decide, by decide⟩
  · exact h
theorem beN_lt : ∀ (l : List UInt8) (a : Nat), l.foldl (fun a b => a * 256 + b.toNat) a < (a + 1) * 256 ^ l.length
  | [], a => by simp
  | b :: r, a => by
    have hb := b.toNat_lt
    have := beN_lt r (a * 256 + b.toNat)
    rw [List.foldl_cons, List.length_cons, Nat.pow_succ]
    refine Nat.lt_of_lt_of_le this ?_
    have h2 : (a * 256 + b.toNat + 1) * 256 ^ r.length ≤ ((a + 1) * 256) * 256 ^ r.length := Nat.mul_le_mul_right _ (by omega)
    rw [Nat.mul_comm (256 ^ r.length) 256, ← Nat.mul_assoc]
    exact h2
theorem rdK2_lt (s : Rd) : (rdK 2 s).1 < 65536 := by
  unfold rdK
  split
  · simp
  · rename_i h
    have := beN_lt (s.1.take 2) 0
    have hl : (s.1.take 2).length = 2 := by rw [List.length_take]; omega
    rw [hl] at this
    simpa [beN] using this
theorem St.int8 (H : St w0 G p pb s L P w) : Does X.P 61 #[.pointer (some ⟨pb, 0, none⟩)] w fun r w' => ∃ n s', r = .int .i8 n ∧ IntKind.i8.wrap n = n ∧ rdNum 1 .i8 s = (numT n, s') ∧ St w0 G p pb s' L P w' := by
  refine Does.mono (Int8_does H.rd H.Gpb) ?_
  rintro r w1 ⟨rfl, h1⟩
  exact ⟨_, _, rfl, wrap_idem_i8 _, rfl, H.read h1⟩
theorem St.int16 (H : St w0 G p pb s L P w) : Does X.P 46 #[.pointer (some ⟨pb, 0, none⟩)] w fun r w' => ∃ n s', r = .int .i16 n ∧ IntKind.i16.wrap n = n ∧ rdNum 2 .i16 s = (numT n, s') ∧ St w0 G p pb s' L P w' := by
  refine Does.mono (Int16_does H.rd H.Gpb) ?_
  rintro r w1 ⟨rfl, h1⟩
  exact ⟨_, _, rfl, wrap_idem_i16 _, rfl, H.read h1⟩
theorem St.uint16 (H : St w0 G p pb s L P w) : Does X.P 67 #[.pointer (some ⟨pb, 0, none⟩)] w fun r w' => ∃ n s', r = .int .u16 n ∧ IntKind.u16.wrap n = n ∧ rdNum 2 .u16 s = (numT n, s') ∧ St w0 G p pb s' L P w' := by
  refine Does.mono (Uint16_does H.rd H.Gpb) ?_
  rintro r w1 ⟨rfl, h1⟩
  have hlt := rdK2_lt s
  have e : IntKind.u16.wrap ((rdK 2 s).1 : Int) = ((rdK 2 s).1 : Int) := by rw [wrap_u16]; omega
  exact ⟨_, _, rfl, e, by unfold rdNum; rw [e], H.read h1⟩
theorem St.int32 (H : St w0 G p pb s L P w) : Does X.P 45 #[.pointer (some ⟨pb, 0, none⟩)] w fun r w' => ∃ n s', r = .int .i32 n ∧ IntKind.i32.wrap n = n ∧ rdNum 4 .i32 s = (numT n, s') ∧ St w0 G p pb s' L P w' := by
  refine Does.mono (Int32_does H.rd H.Gpb) ?_
  rintro r w1 ⟨rfl, h1⟩
  exact ⟨_, _, rfl, wrap_idem_i32 _, rfl, H.read h1⟩
theorem St.int64 (H : St w0 G p pb s L P w) : Does X.P 55 #[.pointer (some ⟨pb, 0, none⟩)] w fun r w' => ∃ n s', r = .int .i64 n ∧ IntKind.i64.wrap n = n ∧ rdNum 8 .i64 s = (numT n, s') ∧ St w0 G p pb s' L P w' := by
  refine Does.mono (Int64_does H.rd H.Gpb) ?_
  rintro r w1 ⟨rfl, h1⟩
  exact ⟨_, _, rfl, wrap_idem_i64 _, rfl, H.read h1⟩
theorem St.bool (H : St w0 G p pb s L P w) : Does X.P 64 #[.pointer (some ⟨pb, 0, none⟩)] w fun r w' => ∃ b s', r = .bool b ∧ rdBo s = (numT (if b = true then 1 else 0), s') ∧ St w0 G p pb s' L P w' := by
  refine Does.mono (Bool_does H.rd H.Gpb) ?_
  rintro r w1 ⟨rfl, h1⟩
  refine ⟨_, _, rfl, ?_, H.read h1⟩
  unfold rdBo
  by_cases h : (rdK 1 s).1 = 0
  · simp [h]
  · simp [h]
theorem St.txc (H : St w0 G p pb s L P w) : Does X.P 53 #[.pointer (some ⟨pb, 0, none⟩)] w fun r w' => ∃ u s', r = str u ∧ rdTx true s = (u, s') ∧ St w0 G p pb s' L P w' := by
  refine Does.mono (CompactString_does H.rd H.Gpb) ?_
  rintro r w1 ⟨rfl, h1⟩
  exact ⟨_, _, rfl, rfl, H.read h1⟩
theorem St.ntc (H : St w0 G p pb s L P w) : Does X.P 48 #[.pointer (some ⟨pb, 0, none⟩)] w fun r w' => ∃ c nl u s', r = c ∧ c.oneCell' = true ∧ (nl = true → u = []) ∧ rdNt true s = (.mk 0 u nl [] [], s') ∧ St w0 G p pb s' L (fun w => NTf w0 G c (.mk 0 u nl [] []) w ∧ P w) w' := by
  refine Does.mono (CompactNullableString_does H.rd H.Gpb) ?_
  rintro r w1 ⟨hn, hone, h1⟩
  have H1 := H.read h1
  have H2 := H.keepN H1 (ntextL r (rdNt true s).1) hn fun k h => .inr h
  obtain ⟨nl, u, e, hu⟩ := rdNt_form true s
  rw [e] at H2
  exact ⟨r, nl, u, _, rfl, hone, hu, Prod.ext e rfl, H2⟩
theorem St.txp (H : St w0 G p pb s L P w) : Does X.P 54 #[.pointer (some ⟨pb, 0, none⟩)] w fun r w' => ∃ u s', r = str u ∧ rdTx false s = (u, s') ∧ St w0 G p pb s' L P w' := by
  refine Does.mono (String_does H.rd H.Gpb) ?_
  rintro r w1 ⟨rfl, h1⟩
  exact ⟨_, _, rfl, rfl, H.read h1⟩
theorem St.ntp (H : St w0 G p pb s L P w) : Does X.P 50 #[.pointer (some ⟨pb, 0, none⟩)] w fun r w' => ∃ c nl u s', r = c ∧ c.oneCell' = true ∧ (nl = true → u = []) ∧ rdNt false s = (.mk 0 u nl [] [], s') ∧ St w0 G p pb s' L (fun w => NTf w0 G c (.mk 0 u nl [] []) w ∧ P w) w' := by
  refine Does.mono (NullableString_does H.rd H.Gpb) ?_
  rintro r w1 ⟨hn, hone, h1⟩
  have H1 := H.read h1
  have H2 := H.keepN H1 (ntextL r (rdNt false s).1) hn fun k h => .inr h
  obtain ⟨nl, u, e, hu⟩ := rdNt_form false s
  rw [e] at H2
  exact ⟨r, nl, u, _, rfl, hone, hu, Prod.ext e rfl, H2⟩
theorem St.lnc (H : St w0 G p pb s L P w) : Does X.P 56 #[.pointer (some ⟨pb, 0, none⟩)] w fun r w' => ∃ n s', r = .int .i32 n ∧ (-2147483648 ≤ n ∧ n ≤ 2147483647) ∧ rdLn true s = (n, s') ∧ St w0 G p pb s' L P w' := by
  refine Does.mono (CompactArrayLen_does H.rd H.Gpb) ?_
  rintro r w1 ⟨rfl, h1⟩
  exact ⟨_, _, rfl, rdLn_in _ _, rfl, H.read h1⟩
theorem St.lnp (H : St w0 G p pb s L P w) : Does X.P 57 #[.pointer (some ⟨pb, 0, none⟩)] w fun r w' => ∃ n s', r = .int .i32 n ∧ (-2147483648 ≤ n ∧ n ≤ 2147483647) ∧ rdLn false s = (n, s') ∧ St w0 G p pb s' L P w' := by
  refine Does.mono (ArrayLen_does H.rd H.Gpb) ?_
  rintro r w1 ⟨rfl, h1⟩
  exact ⟨_, _, rfl, rdLn_in _ _, rfl, H.read h1⟩
theorem St.tags (H : St w0 G p pb s L P w) : Does X.P 62 #[.pointer (some ⟨pb, 0, none⟩)] w fun r w' => ∃ m u s', r = .agg #[m] ∧ m.oneCell' = true ∧ rdTags s = (u, s') ∧ St w0 G p pb s' L (fun w => TGf w0 G m u w ∧ P w) w' := by
  refine Does.mono (internalReadTags_does H.rd H.Gpb) ?_
  rintro r w1 ⟨⟨m, rfl, hone, hm⟩, h1⟩
  exact ⟨m, _, _, rfl, hone, rfl, H.keepN (H.read h1) (tagsL m (rdTags s).1) hm fun k h => h⟩
theorem St.ok (H : St w0 G p pb s L P w) : Does X.P 58 #[.pointer (some ⟨pb, 0, none⟩)] w fun r w' => r = .bool (!s.2) ∧ St w0 G p pb s L P w' := by
  refine Does.mono (rdOk_does H.rd) ?_
  rintro r w1 ⟨rfl, rfl⟩
  exact ⟨rfl, H⟩
theorem St.done {ev : Value} (hL : Laid w0 ev) (hp1 : p ≠ errG) (H : St w0 G p pb s L P w) : Does X.P 59 #[.pointer (some ⟨pb, 0, none⟩)] w fun r w' => r = (if s.2 = true then ev else .nilIface) ∧ St w0 G p pb s L P w' := by
  refine Does.mono (Complete_does (hL.ext H.ext (Ne.symm hp1)) H.rd) ?_
  rintro r w1 ⟨rfl, rfl⟩
  exact ⟨rfl, H⟩
end
end Go.Proofs.YtepamajphjgigaaGreatDoor.K
/-! Reading lists; fields by their kinds. -/
set_option linter.unusedVariables false
set_option linter.unusedSimpArgs false
namespace Go.Proofs.YtepamajphjgigaaGreatDoor.K
open Go
set_option maxHeartbeats 800000

/-- The front of no length of a slice of none. -/
theorem cut_zero {a : Option Addr} {sz : Nat} {K : Value → Prop} (k : K (.slice a 0 0)) :
    ((((none : Option Int).getD ((0 : Nat) : Int)).toNat = ((none : Option Int).getD 0).toNat ∨ ∀ q, a = some q → q.spot = none)) ∧ ((none : Option Int).isSome → (some (0 : Int)).isSome) ∧ (0 ≤ (none : Option Int).getD 0 ∧ (none : Option Int).getD 0 ≤ (some (0 : Int)).getD ((0 : Nat) : Int) ∧ (some (0 : Int)).getD ((0 : Nat) : Int) ≤ (none : Option Int).getD ((0 : Nat) : Int) ∧ (none : Option Int).getD ((0 : Nat) : Int) ≤ ((0 : Nat) : Int)) ∧
      ∀ r : Value, Value.slice (cutAddr a sz ((none : Option Int).getD 0).toNat ((none : Option Int).getD ((0 : Nat) : Int)).toNat) (((some (0 : Int)).getD ((0 : Nat) : Int)).toNat - ((none : Option Int).getD 0).toNat) (((none : Option Int).getD ((0 : Nat) : Int)).toNat - ((none : Option Int).getD 0).toNat) = r → K r := by
  refine ⟨.inl rfl, fun h => (by cases h), ⟨by simp, by simp, by simp, by simp⟩, ?_⟩
  rintro r rfl
  have : cutAddr a sz ((none : Option Int).getD 0).toNat ((none : Option Int).getD ((0 : Nat) : Int)).toNat = a := by
    unfold cutAddr
    rw [if_pos (by simp)]
  rw [this]
  exact k
theorem OwnSl.open {w : World} {e : TypeId} {sz n : Nat} {v : Value} {xs : List Value} (h : OwnSl w e sz v n xs) (hn : 0 < n) : ∃ g cap post, v = .slice (some ⟨g, 0, none⟩) n cap ∧ n ≤ cap ∧ cap ≤ maxLen ∧ Own w g e (xs ++ post) := by
  rcases h.2 with ⟨_, h0⟩ | ⟨g, cap, cur, rfl, _, hg, hnc, hcm, hcs, htake⟩
  · omega
  · refine ⟨g, cap, cur.toList.drop (n * sz), rfl, hnc, hcm, ?_⟩
    have : xs ++ cur.toList.drop (n * sz) = cur.toList := by rw [← htake]; exact List.take_append_drop _ _
    rw [this]
    unfold Own
    simpa using hg
section
variable {w0 w w' : World} {G : Nat → Prop} {p pb : Nat} {s s' : Rd} {L L' : List Ob} {P : World → Prop}
/-- Room for so many things is made. -/
theorem St.grow (H : St w0 G p pb s L P w) {e : TypeId} {m : Int} {sz by0 : Nat} {z : List Value} {K : Value → World → Prop} (hm : 0 < m) (hm2 : m ≤ 2147483647) (hs : 0 < sz) (hz : z.length = sz) (hok : okCells z = true) (hb : by0 ≤ 65536)
    (k : ∀ g cap post w', m.toNat ≤ cap → cap ≤ maxLen → St w0 G p pb s ((g, e, [] ++ [] ++ ((List.replicate m.toNat z).flatten ++ post)) :: L) P w' → K (.slice (some ⟨g, 0, none⟩) m.toNat cap) w') :
    ∃ n xs, 0 ≤ m ∧ OwnSl w e sz (.slice none 0 0) n xs ∧ (0 < sz ∧ z.length = sz ∧ okCells z = true) ∧ (n + m.toNat ≤ maxLen ∧ (n + m.toNat) * by0 ≤ 140737488355328) ∧
      ∀ v' w', OwnSl w' e sz v' (n + m.toNat) (xs ++ (List.replicate m.toNat z).flatten) → Appended w w' (.slice none 0 0) v' → K v' w' := by
  refine ⟨0, [], by omega, OwnSl.nil w e sz, ⟨hs, hz, hok⟩, ⟨by rw [maxLen_eq]; omega, ?_⟩, ?_⟩
  · have h1 : (0 + m.toNat) ≤ 2147483647 := by omega
    have := Nat.mul_le_mul h1 hb
    omega
  · intro v' w' ho ha
    rw [Nat.zero_add, List.nil_append] at ho
    obtain ⟨g, cap, post, rfl, h1, h2, h3⟩ := ho.open (by omega)
    refine k g cap post w' h1 h2 ?_
    rw [List.nil_append, List.nil_append]
    refine H.push (ha.ext.mono fun k _ h => by simp [Value.ownBlock] at h) h3 ?_
    rcases ha.blk with h | ⟨q, h, hle⟩
    · simp [Value.ownBlock] at h
    · simp only [Value.ownBlock, Option.some.injEq] at h
      omega
/-- The same, behind a list of none. -/
theorem St.growE {b : Nat} {e : TypeId} (H : St w0 G p pb s ((b, e, []) :: L) P w) {m : Int} {sz by0 : Nat} {z : List Value} {K : Value → World → Prop} (hm : 0 < m) (hm2 : m ≤ 2147483647) (hs : 0 < sz) (hz : z.length = sz) (hok : okCells z = true) (hb : by0 ≤ 65536)
    (k : ∀ g cap post w', m.toNat ≤ cap → cap ≤ maxLen → St w0 G p pb s ((g, e, [] ++ [] ++ ((List.replicate m.toNat z).flatten ++ post)) :: L) P w' → K (.slice (some ⟨g, 0, none⟩) m.toNat cap) w') :
    ∃ n xs, 0 ≤ m ∧ OwnSl w e sz (.slice (some ⟨b, 0, none⟩) 0 0) n xs ∧ (0 < sz ∧ z.length = sz ∧ okCells z = true) ∧ (n + m.toNat ≤ maxLen ∧ (n + m.toNat) * by0 ≤ 140737488355328) ∧
      ∀ v' w', OwnSl w' e sz v' (n + m.toNat) (xs ++ (List.replicate m.toNat z).flatten) → Appended w w' (.slice (some ⟨b, 0, none⟩) 0 0) v' → K v' w' := by
  have hh := H.head
  refine ⟨0, [], by omega, OwnSl.of_own (sz := sz) (n := 0) (cap := 0) hh (Nat.le_refl _) (by rw [maxLen_eq]; omega) (by simp) |> (by simpa using ·), ⟨hs, hz, hok⟩, ⟨by rw [maxLen_eq]; omega, ?_⟩, ?_⟩
  · have h1 : (0 + m.toNat) ≤ 2147483647 := by omega
    have := Nat.mul_le_mul h1 hb
    omega
  · intro v' w' ho ha
    rw [Nat.zero_add, List.nil_append] at ho
    obtain ⟨g, cap, post, rfl, h1, h2, h3⟩ := ho.open (by omega)
    refine k g cap post w' h1 h2 ?_
    rw [List.nil_append, List.nil_append]
    have hx : Ext (fun k => k = b) w w' := ha.ext.mono fun k _ h => by simp only [Value.ownBlock, Option.some.injEq] at h; exact h.symm
    rcases ha.blk with h | ⟨q, h, hle⟩
    · simp only [Value.ownBlock, Option.some.injEq] at h
      subst h
      exact H.put h3 hx
    · simp only [Value.ownBlock, Option.some.injEq] at h
      subst h
      have hd := H.dis
      have hbl := hh.lt
      have x' : Ext (fun k => inL ((b, e, []) :: L) k) w w' := hx.mono fun k _ h => ⟨(b, e, []), by simp, h.symm⟩
      refine H.step (x'.mono fun k _ h => .inr h) (H.rdExt x') ⟨h3, H.own.2.ext hx fun k hk e => hd.2.2.1 (e ▸ hk)⟩ ⟨.inr (by have := H.ext.size; simp only; omega), by have := H.rd.lt; simp only; omega, fun h => by have := H.own.2.lt _ h; simp only at this; omega, hd.2.2.2⟩ fun k h => ?_
      rcases h.cases with h | h
      · exact .inr (by simp only at h; omega)
      · exact .inl h.tail
end
/-! ## The loop over a list's things -/
/-- Of n things i have been read: es, told as ts. -/
def LoopI (w0 : World) (G : Nat → Prop) (p pb g : Nat) (e : TypeId) (z post : List Value) (rd : Rd → T × Rd) (R : WR → List Value → T → Prop) (s0 : Rd) (n : Nat) (L : List Ob) (P : World → Prop) (i : Nat) (w : World) : Prop :=
  ∃ (es : List (List Value)) (ts : List T) (si : Rd), es.length = i ∧ (∀ c, c ∈ es → c.length = z.length) ∧ rdN rd i s0 = (ts, si) ∧ ts.length = i ∧
    St w0 G p pb si ((g, e, es.flatten ++ [] ++ ((List.replicate (n - i) z).flatten ++ post)) :: L) (fun w => (∀ (j : Nat) (c : List Value) (y : T), es[j]? = some c → ts[j]? = some y → R ⟨w, FG w0 G⟩ c y) ∧ P w) w
theorem flat_len {z : Nat} : ∀ {es : List (List Value)}, (∀ c, c ∈ es → c.length = z) → es.flatten.length = es.length * z
  | [], _ => by simp
  | c :: r, h => by
    rw [List.flatten_cons, List.length_append, h c (by simp), flat_len fun d hd => h d (by simp [hd]), List.length_cons, Nat.add_mul]
    omega
section
variable {w0 w : World} {G : Nat → Prop} {p pb g : Nat} {e : TypeId} {z post : List Value} {rd : Rd → T × Rd} {R : WR → List Value → T → Prop} {s0 : Rd} {n : Nat} {L : List Ob} {P : World → Prop} {i : Nat}
theorem LoopI.start (H : St w0 G p pb s0 ((g, e, [] ++ [] ++ ((List.replicate n z).flatten ++ post)) :: L) P w) : LoopI w0 G p pb g e z post rd R s0 n L P 0 w :=
  ⟨[], [], s0, rfl, by simp, rfl, rfl, H.weak fun w' h => ⟨by simp, h⟩⟩
/-- The next thing, as it stands: nought. -/
theorem LoopI.open (h : LoopI w0 G p pb g e z post rd R s0 n L P i w) (hi : i < n) : ∃ (es : List (List Value)) (ts : List T) (si : Rd), es.length = i ∧ (∀ c, c ∈ es → c.length = z.length) ∧ rdN rd i s0 = (ts, si) ∧ ts.length = i ∧ es.flatten.length = i * z.length ∧
    St w0 G p pb si ((g, e, es.flatten ++ z ++ ((List.replicate (n - (i + 1)) z).flatten ++ post)) :: L) (fun w => (∀ (j : Nat) (c : List Value) (y : T), es[j]? = some c → ts[j]? = some y → R ⟨w, FG w0 G⟩ c y) ∧ P w) w := by
  obtain ⟨es, ts, si, h1, h2, h3, h4, H⟩ := h
  refine ⟨es, ts, si, h1, h2, h3, h4, by rw [flat_len h2, h1], ?_⟩
  have e1 : n - i = (n - (i + 1)) + 1 := by omega
  rw [e1, List.replicate_succ, List.flatten_cons] at H
  simpa only [List.append_assoc, List.nil_append] using H
theorem LoopI.next {es : List (List Value)} {ts : List T} {si s' : Rd} {x : T} {cur : List Value} {P' : World → Prop} (h1 : es.length = i) (h2 : ∀ c, c ∈ es → c.length = z.length) (h3 : rdN rd i s0 = (ts, si)) (h4 : ts.length = i) (hx : rd si = (x, s')) (hcl : cur.length = z.length)
    (H : St w0 G p pb s' ((g, e, es.flatten ++ cur ++ ((List.replicate (n - (i + 1)) z).flatten ++ post)) :: L) P' w)
    (hP : ∀ w, P' w → R ⟨w, FG w0 G⟩ cur x ∧ (∀ (j : Nat) (c : List Value) (y : T), es[j]? = some c → ts[j]? = some y → R ⟨w, FG w0 G⟩ c y) ∧ P w) : LoopI w0 G p pb g e z post rd R s0 n L P (i + 1) w := by
  refine ⟨es ++ [cur], ts ++ [x], s', by simp [h1], fun c hc => ?_, ?_, by simp [h4], ?_⟩
  · rcases List.mem_append.1 hc with hc | hc
    · exact h2 c hc
    · rw [List.mem_singleton.1 hc]
      exact hcl
  · rw [rdN, h3]
    simp only [hx]
  · have e2 : (es ++ [cur]).flatten = es.flatten ++ cur := by simp
    rw [e2, List.append_nil]
    refine H.weak fun w' hw => ?_
    obtain ⟨g1, g2, g3⟩ := hP w' hw
    refine ⟨fun j c y hc hy => ?_, g3⟩
    rcases Nat.lt_trichotomy j i with hj | hj | hj
    · rw [List.getElem?_append_left (by omega)] at hc hy
      exact g2 j c y hc hy
    · subst hj
      rw [List.getElem?_append_right (by omega), h1, Nat.sub_self] at hc
      rw [List.getElem?_append_right (by omega), h4, Nat.sub_self] at hy
      simp only [List.getElem?_cons_zero, Option.some.injEq] at hc hy
      subst hc
      subst hy
      exact g1
    · have := (List.getElem?_eq_some_iff.1 hc).1
      simp [h1] at this
      omega
/-- All have been read. -/
theorem LoopI.done {cap : Nat} (h : LoopI w0 G p pb g e z post rd R s0 n L P n w) (hpL : inL L p) (hn : 0 < n) (h1 : n ≤ cap) (h2 : cap ≤ maxLen) : ∃ ts s', rdN rd n s0 = (ts, s') ∧
    St w0 G p pb s' L (fun w => ListR true z.length (R ⟨w, FG w0 G⟩) w (FG w0 G) (.slice (some ⟨g, 0, none⟩) n cap) (.mk 0 [] false ts []) ∧ P w) w := by
  obtain ⟨es, ts, si, h3, h4, h5, h6, H⟩ := h
  have hgp : g ≠ p := fun e => H.dis.2.2.1 (by rw [e]; exact hpL)
  have hgN : FG w0 G g := .inr (H.dis.1.resolve_left hgp)
  subst h3
  refine ⟨ts, si, h5, H.pop fun w' x ho hP => ⟨.inr ⟨rfl, fun _ => ⟨_, _, _, rfl⟩, es, ⟨⟨_, cap, rfl, ⟨by omega, h2⟩, ?_, ?_⟩, h4⟩, by simp only [T.l]; omega, fun j c y hc hy => hP.1 j c y hc hy⟩, hP.2⟩⟩
  · rw [flat_len h4]
  · refine .inr ⟨g, 0, rfl, hgN, ho.lt, fun j u hj => ?_⟩
    refine ho.cell ?_
    have hjl := (List.getElem?_eq_some_iff.1 hj).1
    rw [Nat.zero_add, List.append_nil, List.getElem?_append_left hjl]
    exact hj
end
end Go.Proofs.YtepamajphjgigaaGreatDoor.K
/-! Reading lists, whole; what each kind of a field comes to. -/
set_option linter.unusedVariables false
set_option linter.unusedSimpArgs false
namespace Go.Proofs.YtepamajphjgigaaGreatDoor.K
open Go
set_option maxHeartbeats 800000

/-- A list's slice a at the head of a round: n things are to be read, i have been. nv: is the slice of none nil? -/
def ListI (w0 : World) (G : Nat → Prop) (p pb : Nat) (e : TypeId) (z : List Value) (rd : Rd → T × Rd) (R : WR → List Value → T → Prop) (s0 : Rd) (n : Int) (nv : Bool) (L : List Ob) (P : World → Prop) (a : Value) (i : Nat) (w : World) : Prop :=
  ((n ≤ 0 ∧ i = 0) ∧ ((nv = true ∧ a = .slice none 0 0 ∧ St w0 G p pb s0 L P w) ∨ (nv = false ∧ ∃ b, a = .slice (some ⟨b, 0, none⟩) 0 0 ∧ St w0 G p pb s0 ((b, e, []) :: L) P w))) ∨
  ((0 < n ∧ i ≤ n.toNat ∧ nv = false) ∧ ∃ g cap post, a = .slice (some ⟨g, 0, none⟩) n.toNat cap ∧ n.toNat ≤ cap ∧ cap ≤ maxLen ∧ LoopI w0 G p pb g e z post rd R s0 n.toNat L P i w)
section
variable {w0 w : World} {G : Nat → Prop} {p pb : Nat} {e : TypeId} {z : List Value} {rd : Rd → T × Rd} {R : WR → List Value → T → Prop} {s s0 : Rd} {n : Int} {nv : Bool} {L : List Ob} {P : World → Prop} {a : Value} {i : Nat}
theorem ListI.none (hn : n ≤ 0) (hv : nv = true) (H : St w0 G p pb s0 L P w) : ListI w0 G p pb e z rd R s0 n nv L P (.slice .none 0 0) 0 w := .inl ⟨⟨hn, rfl⟩, .inl ⟨hv, rfl, H⟩⟩
theorem ListI.empty {b : Nat} (hn : n ≤ 0) (hv : nv = false) (H : St w0 G p pb s0 ((b, e, []) :: L) P w) : ListI w0 G p pb e z rd R s0 n nv L P (.slice (some ⟨b, 0, .none⟩) 0 0) 0 w := .inl ⟨⟨hn, rfl⟩, .inr ⟨hv, b, rfl, H⟩⟩
theorem ListI.some {g cap : Nat} {post : List Value} (hn : 0 < n) (hv : nv = false) (h1 : n.toNat ≤ cap) (h2 : cap ≤ maxLen) (H : St w0 G p pb s0 ((g, e, [] ++ [] ++ ((List.replicate n.toNat z).flatten ++ post)) :: L) P w) :
    ListI w0 G p pb e z rd R s0 n nv L P (.slice (some ⟨g, 0, .none⟩) n.toNat cap) 0 w := .inr ⟨⟨hn, Nat.zero_le _, hv⟩, g, cap, post, rfl, h1, h2, LoopI.start H⟩
theorem ListI.go (h : ListI w0 G p pb e z rd R s0 n nv L P a i w) (hi : (i : Int) < n) : ∃ g cap post, a = .slice (.some ⟨g, 0, .none⟩) n.toNat cap ∧ (n.toNat ≤ cap ∧ cap ≤ maxLen ∧ 0 < n ∧ nv = false ∧ i < n.toNat) ∧ LoopI w0 G p pb g e z post rd R s0 n.toNat L P i w := by
  rcases h with ⟨⟨h1, h2⟩, _⟩ | ⟨⟨h1, h2, h3⟩, g, cap, post, h4, h5, h6, h7⟩
  · omega
  · exact ⟨g, cap, post, h4, ⟨h5, h6, h1, h3, by omega⟩, h7⟩
theorem ListI.back {g cap : Nat} {post : List Value} (h : n.toNat ≤ cap ∧ cap ≤ maxLen ∧ 0 < n ∧ nv = false ∧ i < n.toNat) (H : LoopI w0 G p pb g e z post rd R s0 n.toNat L P (i + 1) w) : ListI w0 G p pb e z rd R s0 n nv L P (.slice (.some ⟨g, 0, .none⟩) n.toNat cap) (i + 1) w :=
  .inr ⟨⟨h.2.2.1, h.2.2.2.2, h.2.2.2.1⟩, g, cap, post, rfl, h.1, h.2.1, H⟩
theorem ListI.done {fx : Bool} {nl : Int → Bool} {sz : Nat} (h : ListI w0 G p pb e z rd R s0 n nv L P a i w) (hi : ¬ (i : Int) < n) (hln : rdLn fx s = (n, s0)) (hnl : nl n = nv) (hpL : inL L p) (hz : z.length = sz) : ∃ (ts : List T) (s' : Rd), a.oneCell' = true ∧ (nv = true → ts = []) ∧ rdLs nl rd fx s = (.mk 0 [] nv ts [], s') ∧
    St w0 G p pb s' L (fun w => ListR true sz (R ⟨w, FG w0 G⟩) w (FG w0 G) a (.mk 0 [] nv ts []) ∧ P w) w := by
  subst hz
  unfold rdLs
  rw [hln]
  simp only [hnl]
  rcases h with ⟨⟨h1, h2⟩, h | h⟩ | ⟨⟨h1, h2, h3⟩, g, cap, post, rfl, h5, h6, h7⟩
  · obtain ⟨hv, rfl, H⟩ := h
    have h0 : n.toNat = 0 := by omega
    rw [h0, hv]
    exact ⟨[], s0, rfl, fun _ => rfl, rfl, H.add fun w' _ => .inl ⟨rfl, rfl⟩⟩
  · obtain ⟨hv, b, rfl, H⟩ := h
    have h0 : n.toNat = 0 := by omega
    rw [h0, hv]
    have hbp : FG w0 G b := .inr (H.dis.1.resolve_left fun e => H.dis.2.2.1 (by rw [e]; exact hpL))
    refine ⟨[], s0, rfl, fun _ => rfl, rfl, H.pop fun w' x ho hP => ⟨.inr ⟨rfl, fun _ => ⟨_, _, _, rfl⟩, [], ⟨⟨_, 0, rfl, ⟨Nat.le_refl _, Nat.zero_le _⟩, by simp, .inr ⟨b, 0, rfl, hbp, ho.lt, Cells.nil _ _ _⟩⟩, by simp⟩, rfl, by simp⟩, hP⟩⟩
  · have hin : i = n.toNat := by omega
    subst hin
    obtain ⟨ts, s', h8, H⟩ := h7.done hpL (by omega) h5 h6
    rw [h3]
    exact ⟨ts, s', rfl, fun h => (by cases h), by rw [h8], H⟩
end
/-- A list that may be null, before its things: nil, or empty. -/
def StE (w0 : World) (G : Nat → Prop) (p pb : Nat) (s : Rd) (e : TypeId) (L : List Ob) (P : World → Prop) (c : Prop) (a : Option Addr) (w : World) : Prop :=
  (¬ c ∧ a = none ∧ St w0 G p pb s L P w) ∨ (c ∧ ∃ b, a = some ⟨b, 0, none⟩ ∧ St w0 G p pb s ((b, e, []) :: L) P w)
section
variable {w0 w : World} {G : Nat → Prop} {p pb : Nat} {s s0 : Rd} {e : TypeId} {L : List Ob} {P : World → Prop} {c : Prop} {a : Option Addr}
theorem StE.ok (H : StE w0 G p pb s e L P c a w) : Does X.P 58 #[.pointer (some ⟨pb, 0, none⟩)] w fun r w' => r = .bool (!s.2) ∧ StE w0 G p pb s e L P c a w' := by
  rcases H with ⟨h1, h2, H⟩ | ⟨h1, b, h2, H⟩
  · exact H.ok.mono fun r w' h => ⟨h.1, .inl ⟨h1, h2, h.2⟩⟩
  · exact H.ok.mono fun r w' h => ⟨h.1, .inr ⟨h1, b, h2, h.2⟩⟩
theorem StE.done {ev : Value} (hL : Laid w0 ev) (hp1 : p ≠ errG) (H : StE w0 G p pb s e L P c a w) : Does X.P 59 #[.pointer (some ⟨pb, 0, none⟩)] w fun r w' => r = (if s.2 = true then ev else .nilIface) ∧ ∃ L', St w0 G p pb s L' P w' := by
  rcases H with ⟨_, _, H⟩ | ⟨_, b, _, H⟩
  · exact (H.done hL hp1).mono fun r w' h => ⟨h.1, _, h.2⟩
  · exact (H.done hL hp1).mono fun r w' h => ⟨h.1, _, h.2⟩
theorem StE.grow (H : StE w0 G p pb s e L P c a w) {m : Int} {sz by0 : Nat} {z : List Value} {K : Value → World → Prop} (hm : 0 < m) (hm2 : m ≤ 2147483647) (hs : 0 < sz) (hz : z.length = sz) (hok : okCells z = true) (hb : by0 ≤ 65536)
    (k : ∀ g cap post w', m.toNat ≤ cap → cap ≤ maxLen → St w0 G p pb s ((g, e, [] ++ [] ++ ((List.replicate m.toNat z).flatten ++ post)) :: L) P w' → K (.slice (some ⟨g, 0, none⟩) m.toNat cap) w') :
    ∃ n xs, 0 ≤ m ∧ OwnSl w e sz (.slice a 0 0) n xs ∧ (0 < sz ∧ z.length = sz ∧ okCells z = true) ∧ (n + m.toNat ≤ maxLen ∧ (n + m.toNat) * by0 ≤ 140737488355328) ∧
      ∀ v' w', OwnSl w' e sz v' (n + m.toNat) (xs ++ (List.replicate m.toNat z).flatten) → Appended w w' (.slice a 0 0) v' → K v' w' := by
  rcases H with ⟨_, rfl, H⟩ | ⟨_, b, rfl, H⟩
  · exact H.grow hm hm2 hs hz hok hb k
  · exact H.growE hm hm2 hs hz hok hb k
theorem StE.none {z : List Value} {rd : Rd → T × Rd} {R : WR → List Value → T → Prop} {n : Int} {nv : Bool} (H : StE w0 G p pb s0 e L P c a w) (hn : n ≤ 0) (h1 : c → nv = false) (h2 : ¬ c → nv = true) : ListI w0 G p pb e z rd R s0 n nv L P (.slice a 0 0) 0 w := by
  rcases H with ⟨hc, rfl, H⟩ | ⟨hc, b, rfl, H⟩
  · exact ListI.none hn (h2 hc) H
  · exact ListI.empty hn (h1 hc) H
end
/-! ## The parts of a reading -/
section
variable {rf : Fd → Rd → T × Rd} {df : Fd → T} {v : Int} {f : Fd} {r : List Fd} {s s' : Rd} {x : T}
theorem rdAll_yes (h : rf f s = (x, s')) (hc : f.tag < 0 ∧ hasF f v = true) : rdAll rf df v (f :: r) s = (x :: (rdAll rf df v r s').1, (rdAll rf df v r s').2) := by
  rw [rdAll]
  simp only [if_pos hc, h]
theorem rdAll_ver (h : (if hasF f v = true then rf f s else (df f, s)) = (x, s')) (ht : f.tag < 0) : rdAll rf df v (f :: r) s = (x :: (rdAll rf df v r s').1, (rdAll rf df v r s').2) := by
  rw [rdAll]
  have : (if f.tag < 0 ∧ hasF f v = true then rf f s else (df f, s)) = (x, s') := by
    rw [← h]
    by_cases hh : hasF f v = true
    · rw [if_pos hh, if_pos ⟨ht, hh⟩]
    · rw [if_neg hh, if_neg fun e => hh e.2]
  simp only [this]
end
theorem tail_yes {d : Nat} {v : Int} {fx : Bool} {f : Fd} {f0 r : List Fd} {s s' : Rd} {x : T} (h : rdField d v fx f s = (x, s')) (hc : f.tag < 0 ∧ hasF f v = true) : tailBad d v fx f0 (f :: r) s = tailBad d v fx f0 r s' := by
  unfold tailBad
  rw [rdAll_yes h hc]
theorem tail_ver {d : Nat} {v : Int} {fx : Bool} {f : Fd} {f0 r : List Fd} {s s' : Rd} {x : T} (h : (if hasF f v = true then rdField d v fx f s else (dfT d f, s)) = (x, s')) (ht : f.tag < 0) : tailBad d v fx f0 (f :: r) s = tailBad d v fx f0 r s' := by
  unfold tailBad
  rw [rdAll_ver h ht]
abbrev elR (d : Nat) (v : Int) (fx : Bool) (of : Int) (sub : List Fd) : Rd → T × Rd := rdV (fun sub s => rdPartW (rdField d v fx) (dfT d) sub v fx s) of sub false fx
theorem elR_bad (d : Nat) (v : Int) (fx : Bool) (of : Int) (sub : List Fd) : Bd (elR d v fx of sub) := rdV_bad (rdPartW_bad (fun g => rdField_bad d v fx g) sub v fx) of false fx
theorem rdField_list (d : Nat) (v : Int) (fx : Bool) (fr to nul tag df of : Int) (sub : List Fd) (s : Rd) : rdField (d + 1) v fx (.mk 11 fr to nul tag df of sub) s = rdLs (nlF (.mk 11 fr to nul tag df of sub) v) (elR d v fx of sub) fx s := by
  show rdFW _ _ v fx s = _
  unfold rdFW
  rw [if_pos (show (Fd.mk 11 fr to nul tag df of sub).kind = 11 from rfl)]
  rfl
theorem tail_len {d : Nat} {v : Int} {fx : Bool} {fr to nul tag df of : Int} {sub f0 r : List Fd} {s s1 : Rd} {n : Int} (hc : (Fd.mk 11 fr to nul tag df of sub).tag < 0 ∧ hasF (.mk 11 fr to nul tag df of sub) v = true) (hl : rdLn fx s = (n, s1)) (hb : s1.2 = true) : tailBad (d + 1) v fx f0 (.mk 11 fr to nul tag df of sub :: r) s = true := by
  rw [tail_yes (x := (rdField (d + 1) v fx (.mk 11 fr to nul tag df of sub) s).1) (s' := (rdField (d + 1) v fx (.mk 11 fr to nul tag df of sub) s).2) rfl hc]
  refine tailBad_bad _ _ _ _ _ _ ?_
  rw [rdField_list]
  unfold rdLs
  rw [hl]
  exact rdN_bad (elR_bad d v fx of sub) _ _ hb
theorem tail_el {d : Nat} {v : Int} {fx : Bool} {fr to nul tag df of : Int} {sub f0 r : List Fd} {s s1 : Rd} {n : Int} {i : Nat} {ts : List T} {si : Rd} (hc : (Fd.mk 11 fr to nul tag df of sub).tag < 0 ∧ hasF (.mk 11 fr to nul tag df of sub) v = true) (hl : rdLn fx s = (n, s1)) (hi : i < n.toNat) (hn : rdN (elR d v fx of sub) i s1 = (ts, si)) (hb : (elR d v fx of sub si).2.2 = true) : tailBad (d + 1) v fx f0 (.mk 11 fr to nul tag df of sub :: r) s = true := by
  rw [tail_yes (x := (rdField (d + 1) v fx (.mk 11 fr to nul tag df of sub) s).1) (s' := (rdField (d + 1) v fx (.mk 11 fr to nul tag df of sub) s).2) rfl hc]
  refine tailBad_bad _ _ _ _ _ _ ?_
  rw [rdField_list]
  unfold rdLs
  rw [hl]
  refine rdN_bad_le (elR_bad d v fx of sub) (i := i + 1) (by omega) ?_
  rw [rdN, hn]
  exact hb
section
variable {d : Nat} {v : Int} {fx : Bool} {fr to nul tag df of : Int} {sub : List Fd} {s : Rd}
theorem rdField_kind {k : Int} (hk : k ≠ 11) : rdField (d + 1) v fx (.mk k fr to nul tag df of sub) s = rdV (fun sub s => rdPartW (rdField d v fx) (dfT d) sub v fx s) k sub (decide (0 ≤ nul)) fx s := by
  show rdFW _ _ v fx s = _
  unfold rdFW
  rw [if_neg (show ¬ (Fd.mk k fr to nul tag df of sub).kind = 11 from hk)]
  rfl
theorem rdField0 : rdField (d + 1) v fx (.mk 0 fr to nul tag df of sub) s = rdBo s := by rw [rdField_kind (by decide)]; rfl
theorem rdField1 : rdField (d + 1) v fx (.mk 1 fr to nul tag df of sub) s = rdNum 1 .i8 s := by rw [rdField_kind (by decide)]; rfl
theorem rdField2 : rdField (d + 1) v fx (.mk 2 fr to nul tag df of sub) s = rdNum 2 .i16 s := by rw [rdField_kind (by decide)]; rfl
theorem rdField3 : rdField (d + 1) v fx (.mk 3 fr to nul tag df of sub) s = rdNum 4 .i32 s := by rw [rdField_kind (by decide)]; rfl
theorem rdField4 : rdField (d + 1) v fx (.mk 4 fr to nul tag df of sub) s = rdNum 8 .i64 s := by rw [rdField_kind (by decide)]; rfl
theorem rdField5 : rdField (d + 1) v fx (.mk 5 fr to nul tag df of sub) s = rdNum 2 .u16 s := by rw [rdField_kind (by decide)]; rfl
theorem rdField8n (h : 0 ≤ nul) : rdField (d + 1) v fx (.mk 8 fr to nul tag df of sub) s = rdNt fx s := by
  rw [rdField_kind (by decide), decide_eq_true h]; rfl
theorem rdField8 (h : nul < 0) {u : List UInt8} {s' : Rd} (hr : rdTx fx s = (u, s')) : rdField (d + 1) v fx (.mk 8 fr to nul tag df of sub) s = (.mk 0 u false [] [], s') := by
  rw [rdField_kind (by decide), decide_eq_false (by omega)]
  show ((.mk 0 (rdTx fx s).1 false [] [], (rdTx fx s).2) : T × Rd) = _
  rw [hr]
theorem rdField10 : rdField (d + 1) v fx (.mk 10 fr to nul tag df of sub) s = rdPart d v fx sub s := by rw [rdField_kind (by decide)]; rfl
variable {tg : Bool} {wf : WR}
theorem QF0 (b : Bool) : QField tg (d + 1) (.mk 0 fr to nul tag df of sub) wf [.bool b] (numT (if b = true then 1 else 0)) := ⟨b, rfl, rfl⟩
theorem QF1 {n : Int} (h : IntKind.i8.wrap n = n) : QField tg (d + 1) (.mk 1 fr to nul tag df of sub) wf [.int .i8 n] (numT n) := ⟨n, h, rfl, rfl⟩
theorem QF2 {n : Int} (h : IntKind.i16.wrap n = n) : QField tg (d + 1) (.mk 2 fr to nul tag df of sub) wf [.int .i16 n] (numT n) := ⟨n, h, rfl, rfl⟩
theorem QF3 {n : Int} (h : IntKind.i32.wrap n = n) : QField tg (d + 1) (.mk 3 fr to nul tag df of sub) wf [.int .i32 n] (numT n) := ⟨n, h, rfl, rfl⟩
theorem QF4 {n : Int} (h : IntKind.i64.wrap n = n) : QField tg (d + 1) (.mk 4 fr to nul tag df of sub) wf [.int .i64 n] (numT n) := ⟨n, h, rfl, rfl⟩
theorem QF5 {n : Int} (h : IntKind.u16.wrap n = n) : QField tg (d + 1) (.mk 5 fr to nul tag df of sub) wf [.int .u16 n] (numT n) := ⟨n, h, rfl, rfl⟩
theorem QF8 (hn : nul < 0) (u : List UInt8) : QField tg (d + 1) (.mk 8 fr to nul tag df of sub) wf [str u] (.mk 0 u false [] []) := by
  show QV (fun sub wf cs x => QPartW (QField tg d) tg sub wf cs x) 8 sub (decide (0 ≤ nul)) wf _ _
  rw [decide_eq_false (by omega)]
  exact ⟨u, rfl, rfl⟩
theorem QF8n (hn : 0 ≤ nul) {c : Value} {nl : Bool} {u : List UInt8} (hu : nl = true → u = []) (h : NTextR wf.w wf.F c (.mk 0 u nl [] [])) : QField tg (d + 1) (.mk 8 fr to nul tag df of sub) wf [c] (.mk 0 u nl [] []) := by
  show QV (fun sub wf cs x => QPartW (QField tg d) tg sub wf cs x) 8 sub (decide (0 ≤ nul)) wf _ _
  rw [decide_eq_true hn]
  exact ⟨c, nl, u, rfl, hu, rfl, h⟩
theorem QF10 {cs : List Value} {x : T} (h : QPart tg d sub wf cs x) : QField tg (d + 1) (.mk 10 fr to nul tag df of sub) wf cs x := h
/-- The things of a list, in their cells. -/
abbrev elQ (tg : Bool) (d : Nat) (of : Int) (sub : List Fd) (wf : WR) (c : List Value) (y : T) : Prop := QV (fun sub wf cs x => QPartW (QField tg d) tg sub wf cs x) of sub false wf c y
abbrev elZ (tg : Bool) (d : Nat) (of : Int) (sub : List Fd) : Nat := szV (fun sub => szP tg d sub) of sub
theorem QF11 {c : Value} {nl : Bool} {l : List T} (hl : nl = true → l = []) (h : ListR true (elZ tg d of sub) (elQ tg d of sub wf) wf.w wf.F c (.mk 0 [] nl l [])) : QField tg (d + 1) (.mk 11 fr to nul tag df of sub) wf [c] (.mk 0 [] nl l []) := ⟨c, nl, l, rfl, hl, rfl, h⟩
theorem QA0 {QF : Fd → WR → List Value → T → Prop} : QAll QF wf [] [] [] := ⟨rfl, rfl⟩
theorem QA1 {QF : Fd → WR → List Value → T → Prop} {f : Fd} {r : List Fd} {c1 c2 : List Value} {x : T} {l : List T} (h : QF f wf c1 x) (h2 : QAll QF wf r c2 l) : QAll QF wf (f :: r) (c1 ++ c2) (x :: l) := ⟨c1, c2, x, l, rfl, rfl, h, h2⟩
theorem QPt {fs : List Fd} {c1 : List Value} {l : List T} {m : Value} {u : List Tg} (h : QAll (QField true d) wf fs c1 l) (hm : TagsR wf.w wf.F m u) : QPart true d fs wf (c1 ++ [m]) (.mk 0 [] false l u) := ⟨c1, l, u, [m], rfl, rfl, h, m, rfl, hm⟩
end
end Go.Proofs.YtepamajphjgigaaGreatDoor.K
/-! Reading a message: how it begins, stores, how it ends. -/
set_option linter.unusedVariables false
set_option linter.unusedSimpArgs false
namespace Go.Proofs.YtepamajphjgigaaGreatDoor.K
open Go
set_option maxHeartbeats 800000

/-- One cell of a struct in a row is written. -/
theorem stm {w : World} {q : Nat} {T : TypeId} {pre cur post : List Value} (H : Own w q T (pre ++ cur ++ post)) {v : Value} {m : List Value} {o o' sz : Nat} {K : World → Prop} (k : Nat) (hm : m = [v]) (hv : v.oneCell' = true) (hp : pre.length = o) (ho : o' = o + k) (hs : sz = 1) (hk : k < cur.length)
    (kk : ∀ w', Own w' q T (pre ++ cur.set k v ++ post) → Ext (fun j => j = q) w w' → K w') :
    ∃ T l1, Own w q T l1 ∧ m.length.beq sz = true ∧ okCells m = true ∧ (o' + sz).ble l1.length = true ∧ ∀ w', Own w' q T (splice l1 o' m) → Ext (fun k => k = q) w w' → K w' := by
  subst hm
  subst hp
  subst ho
  subst hs
  refine ⟨T, _, H, rfl, by simp only [okCells, List.all_cons, List.all_nil, hv]; rfl, ?_, fun w' h x => kk w' ?_ x⟩
  · rw [Nat.ble_eq]
    simp only [List.length_append]
    omega
  · rw [splice_mid (by simp only [List.length_singleton]; omega), splice_one v hk] at h
    exact h
section
variable {w0 w : World} {G : Nat → Prop} {p pb : Nat} {s : Rd} {L : List Ob} {P : World → Prop}
theorem St.st1 {q : Nat} {T : TypeId} {pre cur post : List Value} (H : St w0 G p pb s ((q, T, pre ++ cur ++ post) :: L) P w) {v : Value} {m : List Value} {o o' sz : Nat} {K : World → Prop} (k : Nat) (hm : m = [v]) (hv : v.oneCell' = true) (hp : pre.length = o) (ho : o' = o + k) (hs : sz = 1) (hk : k < cur.length)
    (kk : ∀ w', St w0 G p pb s ((q, T, pre ++ cur.set k v ++ post) :: L) P w' → K w') :
    ∃ T l1, Own w q T l1 ∧ m.length.beq sz = true ∧ okCells m = true ∧ (o' + sz).ble l1.length = true ∧ ∀ w', Own w' q T (splice l1 o' m) → Ext (fun k => k = q) w w' → K w' :=
  stm H.head k hm hv hp ho hs hk fun w' h x => kk w' (H.put h x)
/-- The reading begins. -/
theorem St.init {w1 : World} {T T' : TypeId} {l : List UInt8} {cells : List Value} {x : Value} (hp : Own w1 p T cells) (hb : Own w1 pb T' [x, .bool false]) (hx : Bytes w1 G x l) (hG : ∀ k, G k → k < w0.heap.size ∧ k ≠ p) (he : Ext (fun k => k = p) w0 w1) (hold : p < w0.heap.size) (hnew : w0.heap.size ≤ pb) :
    St w0 G p pb (l, false) [(p, T, [] ++ cells ++ [])] (fun _ => True) w1 :=
  ⟨he, ⟨T', x, hb, hx, fun h => (by cases h)⟩, hG, hnew, hold, ⟨by simpa using hp, trivial⟩, ⟨.inl rfl, by simp only; omega, fun h => by obtain ⟨y, h, _⟩ := h; simp at h, trivial⟩, fun _ _ => trivial⟩
end
theorem hasF_iff {k fr to nul tag df of v : Int} {sub : List Fd} : hasF (.mk k fr to nul tag df of sub) v = true ↔ fr ≤ v ∧ (to < 0 ∨ v ≤ to) := by
  show (decide (fr ≤ v) && (decide (to < 0) || decide (v ≤ to))) = true ↔ _
  simp
theorem has_all {k nul tag df of v : Int} {sub : List Fd} (hv : 0 ≤ v) : hasF (.mk k 0 (-1) nul tag df of sub) v = true := by simp [hasF, Fd.fr, Fd.to, hv]
/-- What a reading has come to: the error, or the message in its cells. -/
def RdPost (w0 : World) (p : Nat) (ty : TypeId) (v : Int) (fx tg : Bool) (ds : List Fd) (ev : Value) (l : List UInt8) (r : Value) (w' : World) : Prop :=
  r = (if (rdPart 9 v fx ds (l, false)).2.2 = true then ev else .nilIface) ∧ Ext (fun k => k = p) w0 w' ∧
    ((rdPart 9 v fx ds (l, false)).2.2 = false → ∃ cs, Own w' p ty (.int .i16 v :: cs) ∧ QPart tg 9 ds ⟨w', fun k => k ≠ p⟩ cs (rdPart 9 v fx ds (l, false)).1)
theorem RdPost.early {w0 w : World} {p : Nat} {ty : TypeId} {v : Int} {fx tg : Bool} {ds : List Fd} {ev : Value} {l : List UInt8} {G : Nat → Prop} {pb : Nat} {s : Rd} {L : List Ob} {P : World → Prop} (hs : s.2 = true) (hb : (rdPart 9 v fx ds (l, false)).2.2 = true) (H : St w0 G p pb s L P w) :
    RdPost w0 p ty v fx tg ds ev l (if s.2 = true then ev else .nilIface) w := by
  refine ⟨by rw [if_pos hs, if_pos hb], H.ext, fun h => ?_⟩
  rw [hb] at h
  cases h
theorem RdPost.end {w0 w : World} {p : Nat} {ty : TypeId} {v : Int} {fx tg : Bool} {ds : List Fd} {ev : Value} {l : List UInt8} {G : Nat → Prop} {pb : Nat} {s : Rd} {P : World → Prop} {cs : List Value} {t : T} (hp : rdPart 9 v fx ds (l, false) = (t, s)) (H : St w0 G p pb s [(p, ty, [] ++ (.int .i16 v :: cs) ++ [])] P w) (hQ : P w → QPart tg 9 ds ⟨w, FG w0 G⟩ cs t) :
    RdPost w0 p ty v fx tg ds ev l (if s.2 = true then ev else .nilIface) w := by
  refine ⟨by rw [hp], H.ext, fun _ => ⟨cs, by simpa using H.head, ?_⟩⟩
  rw [hp]
  refine QPart_later tg 9 ds cs t w w _ _ nob (hQ H.now) (Ext.refl _ _) fun k _ hk => ⟨fun f => f, ?_⟩
  rcases hk with hk | hk
  · exact (H.reg k hk).2
  · have := H.old; omega
/-- The same of a reading that begins behind a version of its own: vc. -/
def RdPostS (w0 : World) (p : Nat) (ty : TypeId) (vc v : Int) (fx tg : Bool) (ds : List Fd) (ev : Value) (s0 : Rd) (r : Value) (w' : World) : Prop :=
  r = (if (rdPart 9 v fx ds s0).2.2 = true then ev else .nilIface) ∧ Ext (fun k => k = p) w0 w' ∧
    ((rdPart 9 v fx ds s0).2.2 = false → ∃ cs, Own w' p ty (.int .i16 vc :: cs) ∧ QPart tg 9 ds ⟨w', fun k => k ≠ p⟩ cs (rdPart 9 v fx ds s0).1)
theorem RdPostS.early {w0 w : World} {p : Nat} {ty : TypeId} {vc v : Int} {fx tg : Bool} {ds : List Fd} {ev : Value} {s0 : Rd} {G : Nat → Prop} {pb : Nat} {s : Rd} {L : List Ob} {P : World → Prop} (hs : s.2 = true) (hb : (rdPart 9 v fx ds s0).2.2 = true) (H : St w0 G p pb s L P w) :
    RdPostS w0 p ty vc v fx tg ds ev s0 (if s.2 = true then ev else .nilIface) w := by
  refine ⟨by rw [if_pos hs, if_pos hb], H.ext, fun h => ?_⟩
  rw [hb] at h
  cases h
theorem RdPostS.end {w0 w : World} {p : Nat} {ty : TypeId} {vc v : Int} {fx tg : Bool} {ds : List Fd} {ev : Value} {s0 : Rd} {G : Nat → Prop} {pb : Nat} {s : Rd} {P : World → Prop} {cs : List Value} {t : T} (hp : rdPart 9 v fx ds s0 = (t, s)) (H : St w0 G p pb s [(p, ty, [] ++ (.int .i16 vc :: cs) ++ [])] P w) (hQ : P w → QPart tg 9 ds ⟨w, FG w0 G⟩ cs t) :
    RdPostS w0 p ty vc v fx tg ds ev s0 (if s.2 = true then ev else .nilIface) w := by
  refine ⟨by rw [hp], H.ext, fun _ => ⟨cs, by simpa using H.head, ?_⟩⟩
  rw [hp]
  refine QPart_later tg 9 ds cs t w w _ _ nob (hQ H.now) (Ext.refl _ _) fun k _ hk => ⟨fun f => f, ?_⟩
  rcases hk with hk | hk
  · exact (H.reg k hk).2
  · have := H.old; omega
end Go.Proofs.YtepamajphjgigaaGreatDoor.K
