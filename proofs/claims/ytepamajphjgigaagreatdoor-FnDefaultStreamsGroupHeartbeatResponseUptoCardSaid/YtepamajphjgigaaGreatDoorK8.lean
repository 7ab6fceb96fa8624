
/- A calculus of verification conditions over translated code: environments, relations of worlds, type rows. The conditions of single operations and of regions, and that they suffice. The conditions of single operations: that they suffice. Append, copy, make: what their runs come to. The conditions of operations that read or change memory, and of calls. The judgement over code, its rules, and regions in the order of the text. Regions that draw their order: one plan serves for every order. Regions that draw their order: the simulation. Regions that draw their order: the plan's condition suffices. -/
import Derived.Below
import Derived.Tactics
import Derived.Laws.AppendOwn
import Derived.Laws.StructEq
import Derived.Laws.Rows
import Derived.Laws.Tables
import Derived.ArgAppend
import Derived.KernelRfl
import Derived.IntWalk
import Derived.Laws.IdiomStrings
import Derived.Laws.BytesArg
import Derived.Lib.ConvBytes
import Derived.Deep.LoopGhost
/-! A calculus of verification conditions over translated code: environments, relations of worlds, type rows. -/
set_option linter.unusedVariables false
set_option linter.unusedSimpArgs false
namespace Go.Proofs.YtepamajphjgigaaGreatDoor.K
open Go

/-! ## Environments: what is known of the slots -/
abbrev Env := List (Nat × Value)
def look : Env → Nat → Option Value
  | [], _ => none
  | (k, v) :: r, t => cond (Nat.beq k t) (some v) (look r t)
def ev (e : Env) : Operand → Option Value
  | .tmp t => look e t
  | .const v => some v
  | .global g => some (.pointer (some ⟨g, 0, none⟩))
  | .func f => some (.func (.func f) #[] #[])
def evs (e : Env) : List Operand → Option (List Value)
  | [] => some []
  | x :: r => match ev e x, evs e r with
    | some v, some l => some (v :: l)
    | _, _ => none
/-- All of a list of slots is known. -/
def Has : Env → Env → Prop
  | [], _ => True
  | (t, v) :: r, e => look e t = some v ∧ Has r e
structure Agree (N : Nat) (e : Env) (a : Act) : Prop where
  size : a.tmps.size = N
  get : ∀ t v, look e t = some v → t < N ∧ a.tmps.getD t undef = v
  defers : a.defers = []
theorem Agree.ev {N : Nat} {e : Env} {a : Act} (h : Agree N e a) {x : Operand} {v : Value} (hx : ev e x = some v) : a.eval x = v := by
  cases x with
  | tmp t => exact (h.get t v hx).2
  | const c => simpa [K.ev, Act.eval] using hx
  | global g => simpa [K.ev, Act.eval] using hx
  | func f => simpa [K.ev, Act.eval] using hx
theorem Agree.evs {N : Nat} {e : Env} {a : Act} (h : Agree N e a) : ∀ (xs : List Operand) (l : List Value), evs e xs = some l → xs.map a.eval = l
  | [], l, hl => by simp [K.evs] at hl; simp [hl]
  | x :: r, l, hl => by
    simp only [K.evs] at hl
    split at hl
    · rename_i v l' hv hr
      simp only [Option.some.injEq] at hl
      rw [← hl, List.map_cons, h.ev hv, Agree.evs h r l' hr]
    · simp at hl
theorem Agree.put {N : Nat} {e : Env} {a : Act} (h : Agree N e a) {d : Nat} (hd : d < N) (v : Value) : Agree N ((d, v) :: e) (a.put (some d) v) := by
  refine ⟨by simp [Act.put, h.size], fun t u hu => ?_, h.defers⟩
  simp only [look] at hu
  by_cases ht : d = t
  · subst ht
    simp only [Nat.beq_refl, cond_true, Option.some.injEq] at hu
    refine ⟨hd, ?_⟩
    simp [Act.put, Array.getD, h.size, hd, hu]
  · have hb : Nat.beq d t = false := by
      cases hq : Nat.beq d t with
      | false => rfl
      | true => exact absurd (Nat.eq_of_beq_eq_true hq) ht
    rw [hb, cond_false] at hu
    obtain ⟨h1, h2⟩ := h.get t u hu
    refine ⟨h1, ?_⟩
    rw [← h2]
    simp [Act.put, Array.getD, h.size, h1, ht]
theorem Has.get : ∀ {l e : Env}, Has l e → ∀ t v, look l t = some v → look e t = some v
  | [], _, _, t, v, h => by simp [look] at h
  | (k, u) :: r, e, ⟨h0, hr⟩, t, v, h => by
    simp only [look] at h
    cases hq : Nat.beq k t with
    | true =>
      rw [hq, cond_true] at h
      rw [← Nat.eq_of_beq_eq_true hq, h0, h]
    | false => rw [hq, cond_false] at h; exact Has.get hr t v h
theorem Agree.weaken {N : Nat} {e l : Env} {a : Act} (h : Agree N e a) (hl : Has l e) : Agree N l a :=
  ⟨h.size, fun t v hv => h.get t v (hl.get t v hv), h.defers⟩

/-! ## Worlds: what has changed -/
/-- From w to w' no block that w has was changed, but those of M; the streams are as they were. -/
structure Ext (M : Nat → Prop) (w w' : World) : Prop where
  os : w'.os = w.os
  tape : w'.tape = w.tape
  output : w'.output = w.output
  size : w.heap.size ≤ w'.heap.size
  block : ∀ k, k < w.heap.size → ¬ M k → w'.heap[k]? = w.heap[k]?
abbrev nob : Nat → Prop := fun _ => False
theorem Ext.refl (M : Nat → Prop) (w : World) : Ext M w w := ⟨rfl, rfl, rfl, Nat.le_refl _, fun _ _ _ => rfl⟩
theorem Ext.trans {M M' : Nat → Prop} {w w1 w2 : World} (h : Ext M w w1) (h' : Ext M' w1 w2) (hM : ∀ k, k < w.heap.size → M' k → M k) : Ext M w w2 :=
  ⟨h'.os.trans h.os, h'.tape.trans h.tape, h'.output.trans h.output, Nat.le_trans h.size h'.size,
   fun k hk hn => (h'.block k (Nat.lt_of_lt_of_le hk h.size) (fun hm => hn (hM k hk hm))).trans (h.block k hk hn)⟩
theorem Ext.mono {M M' : Nat → Prop} {w w' : World} (h : Ext M w w') (hM : ∀ k, k < w.heap.size → M k → M' k) : Ext M' w w' :=
  ⟨h.os, h.tape, h.output, h.size, fun k hk hn => h.block k hk (fun hm => hn (hM k hk hm))⟩
/-- One step that changes nothing old. -/
theorem Ext.tr0 {M : Nat → Prop} {w w1 w2 : World} (h : Ext M w w1) (h' : Ext nob w1 w2) : Ext M w w2 := h.trans h' (fun _ _ f => f.elim)
theorem Ext.cell {M : Nat → Prop} {w w' : World} (h : Ext M w w') {b o : Nat} {v : Value} (hc : w.cell? ⟨b, o, none⟩ = some v) (hb : ¬ M b) : w'.cell? ⟨b, o, none⟩ = some v := by
  have hl := World.block_lt_of_cell? w _ hc
  rw [← hc]
  exact World.cell?_of_block (h.block b hl hb)
theorem Ext.obj {M : Nat → Prop} {w w' : World} (h : Ext M w w') {b : Nat} {o : Obj} (hc : w.heap[b]? = some o) (hb : ¬ M b) : w'.heap[b]? = some o := by
  rw [← hc]
  exact h.block b (Array.getElem?_eq_some_iff.1 hc).1 hb
theorem Ext.below {M : Nat → Prop} {w w' : World} (h : Ext M w w') {B : Nat} (hB : B ≤ w.heap.size) (hM : ∀ k, k < B → ¬ M k) : RowKit.Below B w w' :=
  ⟨h.os, h.tape, h.output, h.size, fun k hk => h.block k (Nat.lt_of_lt_of_le hk hB) (hM k hk)⟩
theorem Ext.alloc (w : World) (o : Obj) : Ext nob w (w.alloc o) := ⟨rfl, rfl, rfl, by simp, fun k hk _ => heap_alloc_old w o k hk⟩
theorem Ext.drew (w : World) : Ext nob w w.drew := ⟨rfl, rfl, rfl, Nat.le_refl _, fun _ _ _ => rfl⟩

/-- Block b is a row of just these cells, which may be written. -/
def Own (w : World) (b : Nat) (T : TypeId) (l : List Value) : Prop := w.heap[b]? = some (.cells l.toArray T (0, 0))
theorem Own.lt {w : World} {b : Nat} {T : TypeId} {l : List Value} (h : Own w b T l) : b < w.heap.size := (Array.getElem?_eq_some_iff.1 h).1
theorem Own.ext {M : Nat → Prop} {w w' : World} {b : Nat} {T : TypeId} {l : List Value} (h : Own w b T l) (x : Ext M w w') (hb : ¬ M b) : Own w' b T l := x.obj h hb
abbrev Cell (w : World) (b o : Nat) (v : Value) : Prop := w.cell? ⟨b, o, none⟩ = some v
def Cells (w : World) (b o : Nat) (l : List Value) : Prop := ∀ j u, l[j]? = some u → w.cell? ⟨b, o + j, none⟩ = some u
theorem Own.cell {w : World} {b : Nat} {T : TypeId} {l : List Value} (h : Own w b T l) {o : Nat} {v : Value} (hv : l[o]? = some v) : Cell w b o v := by
  unfold Own at h
  simp only [Cell, World.cell?, h]
  simpa using hv
theorem Own.cells {w : World} {b : Nat} {T : TypeId} {l : List Value} (h : Own w b T l) : Cells w b 0 l :=
  fun j u hj => h.cell (by simpa using hj)
theorem Cells.ext {M : Nat → Prop} {w w' : World} {b o : Nat} {l : List Value} (h : Cells w b o l) (x : Ext M w w') (hb : ¬ M b) : Cells w' b o l :=
  fun j u hj => x.cell (h j u hj) hb
theorem Cells.cell {w : World} {b o : Nat} {l : List Value} (h : Cells w b o l) {j : Nat} {v : Value} (hv : l[j]? = some v) : Cell w b (o + j) v := h j v hv
theorem Cells.nil (w : World) (b o : Nat) : Cells w b o [] := fun j u hj => by simp at hj
/-- What a store of several cells leaves. -/
def splice (l : List Value) (o : Nat) (m : List Value) : List Value := l.take o ++ m ++ l.drop (o + m.length)
theorem splice_length {l : List Value} {o : Nat} {m : List Value} (h : o + m.length ≤ l.length) : (splice l o m).length = l.length := by
  simp [splice]; omega

/-! ## Types: the rows that the conditions need -/
inductive TD where
  | int (k : IntKind) | bool | str | ptr (e : TypeId) | slice (e : TypeId) | strct (fs : List (Nat × TypeId)) | arr (n : Nat) (e : TypeId) | map (k e : TypeId) | iface | func | float (k : FloatKind)
structure TI where
  d : TD
  size : Nat
  bytes : Nat
  zero : List Value
def TD.agg : TD → Bool
  | .strct _ | .arr _ _ => true
  | _ => false
def descOf : TypeDesc → Option TD
  | .int k => some (.int k)
  | .bool => some .bool
  | .string => some .str
  | .pointer e => some (.ptr e)
  | .slice e => some (.slice e)
  | .struct fs => some (.strct (fs.toList.map fun f => (f.offset, f.type)))
  | .array n e => some (.arr n e)
  | .map k e => some (.map k e)
  | .interface _ => some .iface
  | .func _ _ _ => some .func
  | .float k => some (.float k)
  | _ => none
def tiOf (P : Program) (t : TypeId) : Option TI :=
  match (P.underlying t).bind descOf, P.info? t with
  | some d, some i => match i.zero with
    | some z => some ⟨d, i.size, i.bytes, z.cells.toList⟩
    | none => none
  | _, _ => none
abbrev Tab := List (Nat × TI)
def tlook : Tab → Nat → Option TI
  | [], _ => none
  | (k, v) :: r, t => cond (Nat.beq k t) (some v) (tlook r t)
def tabOf (P : Program) (ts : List Nat) : Tab := ts.filterMap fun t => (tiOf P t).map fun i => (t, i)
/-- A program and the rows of its types. -/
structure Pr where
  P : Program
  ts : List Nat
  tab : Tab
  ok : tabOf P ts = tab
theorem tlook_tabOf {P : Program} : ∀ (ts : List Nat) {t : Nat} {i : TI}, tlook (tabOf P ts) t = some i → tiOf P t = some i
  | [], t, i, h => by simp [tabOf, tlook] at h
  | s :: r, t, i, h => by
    unfold tabOf at h
    rw [List.filterMap_cons] at h
    cases hs : tiOf P s with
    | none =>
      simp only [hs, Option.map_none] at h
      exact tlook_tabOf r h
    | some j =>
      simp only [hs, Option.map_some, tlook] at h
      cases hq : Nat.beq s t with
      | true =>
        rw [hq, cond_true] at h
        rw [← Nat.eq_of_beq_eq_true hq, hs, h]
      | false => rw [hq, cond_false] at h; exact tlook_tabOf r h
theorem Pr.tiOf (X : Pr) {t : Nat} {i : TI} (h : tlook X.tab t = some i) : K.tiOf X.P t = some i := by
  have := X.ok
  exact tlook_tabOf X.ts (by rw [this]; exact h)
structure TRow (P : Program) (t : TypeId) (i : TI) (d : TypeDesc) (inf : TypeInfo) (z : Value) : Prop where
  und : P.underlying t = some d
  desc : descOf d = some i.d
  info : P.info? t = some inf
  size : inf.size = i.size
  bytes : inf.bytes = i.bytes
  zero : inf.zero = some z
  cells : z.cells.toList = i.zero
theorem trow_of {P : Program} {t : TypeId} {i : TI} (h : tiOf P t = some i) : ∃ d inf z, TRow P t i d inf z := by
  unfold tiOf at h
  split at h
  · rename_i d0 inf hd hi
    split at h
    · rename_i z hz
      simp only [Option.some.injEq] at h
      subst h
      obtain ⟨d, hu, hd'⟩ := Option.bind_eq_some_iff.1 hd
      exact ⟨d, inf, z, hu, hd', hi, rfl, rfl, hz, rfl⟩
    · simp at h
  · simp at h
theorem Pr.row (X : Pr) {t : Nat} {i : TI} (h : tlook X.tab t = some i) : ∃ d inf z, TRow X.P t i d inf z := trow_of (X.tiOf h)
section
variable {P : Program} {t : TypeId} {i : TI} {d : TypeDesc} {inf : TypeInfo} {z : Value}
theorem TRow.run_size (h : TRow P t i d inf z) (w : World) : (sizeOf t).run P w = .ok i.size w := by simp [sizeOf, typeInfo, h.info, h.size]
theorem TRow.run_und (h : TRow P t i d inf z) (w : World) : (underlying t).run P w = .ok d w := run_underlying h.und w
theorem TRow.run_zero (h : TRow P t i d inf z) (w : World) : (zeroValue t).run P w = .ok z w := by simp [zeroValue, typeInfo, h.info, h.zero]
theorem TRow.run_info (h : TRow P t i d inf z) (w : World) : (typeInfo t).run P w = .ok inf w := by simp [typeInfo, h.info]
theorem TRow.run_agg (h : TRow P t i d inf z) (w : World) : (isAgg t).run P w = .ok i.d.agg w := by
  have hd := h.desc
  unfold isAgg
  simp only [Sem.run_bind, h.run_und, Result.andThen_ok]
  cases d <;> simp [descOf] at hd <;> (rw [← hd]; rfl)
end

/-! ## Calls -/
/-- A call of this function enters its body. -/
def CallOK (P : Program) (f : FuncId) : Prop := ∀ args w, (callFunc f args).run P w = .ok (.enter f args) w
theorem callOK_of {P : Program} {f : FuncId} {fn : Func} (hf : P.funcs[f]? = some fn) (hb : fn.body.isNone = false) (hn : (fn.name == "runtime.NumGoroutine") = false) : CallOK P f := by
  intro args w
  have hb' : fn.body ≠ none := by intro h; simp [h] at hb
  have hn' : fn.name ≠ "runtime.NumGoroutine" := by intro h; simp [h] at hn
  simp [callFunc, hf, hb', hn']
def retR (R : Value → World → Prop) : Ending → World → Prop
  | .returned v, w => R v w
  | _, _ => False
/-- A call of f with these arguments returns, and then R holds of the result and the world. -/
structure Does (P : Program) (f : FuncId) (args : Array Value) (w : World) (R : Value → World → Prop) : Prop where
  run : (CallOK P f ∧ Calls P f args w (retR R)) ∨ ∃ v w', (callFunc f args).run P w = .ok (.value v) w' ∧ R v w'
theorem Does.mono {P : Program} {f : FuncId} {args : Array Value} {w : World} {R R' : Value → World → Prop} (h : Does P f args w R) (hr : ∀ v w', R v w' → R' v w') : Does P f args w R' :=
  ⟨h.run.elim (fun h => .inl ⟨h.1, h.2.mono fun e w' he => by cases e <;> first | exact hr _ _ he | exact he⟩) fun ⟨v, w', h1, h2⟩ => .inr ⟨v, w', h1, hr _ _ h2⟩⟩
end Go.Proofs.YtepamajphjgigaaGreatDoor.K
/-! The conditions of single operations and of regions, and that they suffice. -/
set_option linter.unusedVariables false
set_option linter.unusedSimpArgs false
namespace Go.Proofs.YtepamajphjgigaaGreatDoor.K
open Go

/-! ## Bytes and slices in memory -/
abbrev bcell (b : UInt8) : Value := .int .u8 (b.toNat : Int)
abbrev str (l : List UInt8) : Value := .string ⟨l.toArray⟩
/-- The slice value v has n elements of sz cells each, and its cells are xs. F: in which blocks they lie. -/
def Sl (w : World) (F : Nat → Prop) (sz : Nat) (v : Value) (n : Nat) (xs : List Value) : Prop :=
  ∃ a c, v = .slice a n c ∧ (n ≤ c ∧ c ≤ maxLen) ∧ xs.length = n * sz ∧ ((n = 0 ∧ (a = none ∨ c = 0)) ∨ ∃ b o, a = some ⟨b, o, none⟩ ∧ F b ∧ b < w.heap.size ∧ Cells w b o xs)
def Bytes (w : World) (F : Nat → Prop) (v : Value) (l : List UInt8) : Prop := Sl w F 1 v l.length (l.map bcell)
/-- What may be appended: a slice's cells, or a string's bytes. -/
inductive Src (w : World) (sz : Nat) : Value → Nat → List Value → Prop
  | empty (a : Option Addr) (c : Nat) : Src w sz (.slice a 0 c) 0 []
  | some (b o n c : Nat) (xs : List Value) (hl : xs.length = n * sz) (h : Cells w b o xs) : Src w sz (.slice (some ⟨b, o, none⟩) n c) n xs
  | string (s : ByteArray) (hs : sz = 1) : Src w sz (.string s) s.size (s.data.toList.map bcell)
theorem Sl.src {w : World} {F : Nat → Prop} {sz : Nat} {v : Value} {n : Nat} {xs : List Value} (h : Sl w F sz v n xs) : Src w sz v n xs := by
  obtain ⟨a, c, rfl, hc, hl, ha | ⟨b, o, rfl, _, _, hx⟩⟩ := h
  · obtain ⟨rfl, _⟩ := ha
    have : xs = [] := List.eq_nil_of_length_eq_zero (by simpa using hl)
    subst this
    exact Src.empty a c
  · exact Src.some b o n c xs hl hx
theorem Sl.ext {M F : Nat → Prop} {w w' : World} {sz : Nat} {v : Value} {n : Nat} {xs : List Value} (h : Sl w F sz v n xs) (x : Ext M w w') (hF : ∀ k, k < w.heap.size → F k → ¬ M k) : Sl w' F sz v n xs := by
  obtain ⟨a, c, rfl, hc, hl, ha | ⟨b, o, rfl, hb, hlt, hx⟩⟩ := h
  · exact ⟨a, c, rfl, hc, hl, .inl ha⟩
  · exact ⟨_, c, rfl, hc, hl, .inr ⟨b, o, rfl, hb, Nat.lt_of_lt_of_le hlt x.size, hx.ext x (hF b hlt hb)⟩⟩
theorem Sl.mono {F F' : Nat → Prop} {w : World} {sz : Nat} {v : Value} {n : Nat} {xs : List Value} (h : Sl w F sz v n xs) (hF : ∀ k, k < w.heap.size → F k → F' k) : Sl w F' sz v n xs := by
  obtain ⟨a, c, rfl, hc, hl, ha | ⟨b, o, rfl, hb, hlt, hx⟩⟩ := h
  · exact ⟨a, c, rfl, hc, hl, .inl ha⟩
  · exact ⟨_, c, rfl, hc, hl, .inr ⟨b, o, rfl, hF b hlt hb, hlt, hx⟩⟩
theorem Bytes.ext {M F : Nat → Prop} {w w' : World} {v : Value} {l : List UInt8} (h : Bytes w F v l) (x : Ext M w w') (hF : ∀ k, k < w.heap.size → F k → ¬ M k) : Bytes w' F v l := Sl.ext h x hF
/-- The slice value v, which may be appended to: its cells are xs. -/
abbrev OwnSl (w : World) (e : TypeId) (sz : Nat) (v : Value) (n : Nat) (xs : List Value) : Prop := w.ownsRow 0 e sz v n xs
theorem OwnSl.nil (w : World) (e : TypeId) (sz : Nat) : OwnSl w e sz (.slice none 0 0) 0 [] := World.ownsRow_nil w 0 e sz
theorem OwnSl.of_own {w : World} {b : Nat} {T : TypeId} {l : List Value} (h : Own w b T l) (sz n cap : Nat) (hn : n ≤ cap) (hc : cap ≤ maxLen) (hl : l.length = cap * sz) :
    OwnSl w T sz (.slice (some ⟨b, 0, none⟩) n cap) n (l.take (n * sz)) :=
  ⟨by rw [List.length_take, hl, Nat.min_eq_left (Nat.mul_le_mul_right _ hn)], .inr ⟨b, cap, l.toArray, rfl, Nat.zero_le _, h, hn, hc, by simpa using hl, by simp⟩⟩
theorem OwnSl.ext {M : Nat → Prop} {w w' : World} {e : TypeId} {sz : Nat} {v : Value} {n : Nat} {xs : List Value} (h : OwnSl w e sz v n xs) (x : Ext M w w') (hb : ∀ k, v.ownBlock = some k → ¬ M k) : OwnSl w' e sz v n xs := by
  refine ⟨h.1, ?_⟩
  rcases h.2 with hn | ⟨g, cap, cur, rfl, hb', hg, rest⟩
  · exact .inl hn
  · exact .inr ⟨g, cap, cur, rfl, hb', x.obj hg (hb g rfl), rest⟩
theorem OwnSl.lt {w : World} {e : TypeId} {sz : Nat} {v : Value} {n : Nat} {xs : List Value} (h : OwnSl w e sz v n xs) : ∀ k, v.ownBlock = some k → k < w.heap.size := fun k hk => (World.ownsRow.lt h k hk).2
theorem OwnSl.sl {w : World} {e : TypeId} {sz : Nat} {v : Value} {n : Nat} {xs : List Value} (h : OwnSl w e sz v n xs) {F : Nat → Prop} (hF : ∀ k, v.ownBlock = some k → F k) : Sl w F sz v n xs := by
  have hcell := fun g hg => World.ownsRow.cells h (g := g) hg
  have hlt := h.lt
  rcases h.2 with ⟨rfl, rfl⟩ | ⟨g, cap, cur, rfl, _, _, hn, hm, _⟩
  · exact ⟨none, 0, rfl, ⟨Nat.le_refl _, Nat.zero_le _⟩, h.1, .inl ⟨rfl, .inl rfl⟩⟩
  · refine ⟨_, cap, rfl, ⟨hn, hm⟩, h.1, .inr ⟨g, 0, rfl, hF g rfl, hlt g rfl, fun j u hj => ?_⟩⟩
    have := hcell g rfl j u hj
    have hadd : (⟨g, 0, none⟩ : Addr).add j = ⟨g, 0 + j, none⟩ := by unfold Addr.add; split <;> simp_all
    rwa [hadd] at this

/-! ## Operations that only compute -/
def fieldOf (tab : Tab) (s : TypeId) (f : Nat) : Option (Nat × TI) :=
  match tlook tab s with
  | some ⟨.strct fs, _, _, _⟩ => match fs[f]? with
    | some (off, t) => match tlook tab t with
      | some i => cond (Nat.beq i.size 0) none (some (off, i))
      | none => none
    | none => none
  | _ => none
def intBin (op : BinOp) (k : IntKind) (a : Int) (k' : IntKind) (b : Int) : Option Value :=
  match decide (k = k') with
  | false => none
  | true => match op with
    | .add => some (.int k (k.wrap (a + b)))
    | .sub => some (.int k (k.wrap (a - b)))
    | .mul => some (.int k (k.wrap (a * b)))
    | .and => some (.int k (k.wrap (BitVec.ofInt k.bits a &&& BitVec.ofInt k.bits b).toNat))
    | .or => some (.int k (k.wrap (BitVec.ofInt k.bits a ||| BitVec.ofInt k.bits b).toNat))
    | .xor => some (.int k (k.wrap (BitVec.ofInt k.bits a ^^^ BitVec.ofInt k.bits b).toNat))
    | .eql => some (.bool (a == b))
    | .neq => some (.bool (a != b))
    | .lss => some (.bool (decide (a < b)))
    | .leq => some (.bool (decide (a ≤ b)))
    | .gtr => some (.bool (decide (a > b)))
    | .geq => some (.bool (decide (a ≥ b)))
    | _ => none
def isNil : Value → Option Bool
  | .slice a _ _ => some a.isNone
  | .pointer a => some a.isNone
  | .map a => some a.isNone
  | .nilIface => some true
  | .iface _ _ => some false
  | _ => none
/-- The constant nil of a type. -/
def nilOf : TD → Value → Bool
  | .slice _, .slice none _ _ => true
  | .ptr _, .pointer none => true
  | .map _ _, .map none => true
  | .iface, .nilIface => true
  | _, _ => false
def kindFits : TD → Value → Bool
  | .slice _, .slice _ _ _ => true
  | .ptr _, .pointer _ => true
  | .map _ _, .map _ => true
  | .iface, .nilIface => true
  | .iface, .iface _ _ => true
  | _, _ => false
def u8Cells : List Value → Option (List Int)
  | [] => some []
  | .int .u8 n :: r => (u8Cells r).map (n :: ·)
  | _ => none
def cell8 (n : Int) : Value := .int .u8 n
def binV (tab : Tab) (op : BinOp) (t : TypeId) (y : Operand) (u v : Value) : Option Value :=
  match u, v with
  | .int k a, .int k' b => intBin op k a k' b
  | .bool a, .bool b => match tlook tab t, op with
    | some ⟨.bool, _, _, _⟩, .eql => some (.bool (a == b))
    | some ⟨.bool, _, _, _⟩, .neq => some (.bool (!(a == b)))
    | _, _ => none
  | .agg a, .agg b => match tlook tab t, op with
    | some ⟨.arr n el, _, _, _⟩, .neq => match tlook tab el, u8Cells a.toList, u8Cells b.toList with
      | some ⟨.int .u8, 1, _, _⟩, some xs, some ys => cond (Nat.beq xs.length n && Nat.beq ys.length n) (some (.bool (!(xs == ys)))) none
      | _, _, _ => none
    | _, _ => none
  | u, v => match y, tlook tab t, op with
    | .const _, some i, .eql => cond (nilOf i.d v && kindFits i.d u) ((isNil u).map .bool) none
    | .const _, some i, .neq => cond (nilOf i.d v && kindFits i.d u) ((isNil u).map fun b => .bool (!b)) none
    | _, _, _ => none
def partV (i : TI) (off : Nat) (cs : List Value) : Option Value :=
  cond i.d.agg (some (.agg ((cs.drop off).take i.size).toArray)) cs[off]?
def foldSet (cs : List Value) (off : Nat) : List Value → List Value
  | [] => cs
  | v :: r => foldSet (cs.set off v) (off + 1) r
/-- The cells of a struct literal: those given, the rest zero. -/
def buildV (tab : Tab) (e : Env) (s : TypeId) (cs : List Value) : List (Nat × Operand) → Option (List Value)
  | [] => some cs
  | (f, x) :: r => match fieldOf tab s f, ev e x with
    | some (off, i), some v => cond (Nat.beq v.cells.toList.length i.size && Nat.ble (off + i.size) cs.length) (buildV tab e s (foldSet cs off v.cells.toList) r) none
    | _, _ => none
def allKnown (tab : Tab) : List (Nat × TypeId) → Bool
  | [] => true
  | (_, t) :: r => (tlook tab t).isSome && allKnown tab r
def lenV (i : TI) : Value → Option Value
  | .slice _ n _ => match i.d with | .slice _ => some (.int .i64 n) | _ => none
  | .string s => match i.d with | .str => some (.int .i64 s.size) | _ => none
  | _ => none
def pureOp (tab : Tab) (op : Op) (e : Env) : Option Value :=
  match op with
  | .move x => ev e x
  | .assign x => ev e x
  | .nilCheck x => match ev e x with
    | some (.pointer (some a)) => some (.pointer (some a))
    | _ => none
  | .fieldAddr s x f => match ev e x, fieldOf tab s f with
    | some (.pointer (some ⟨b, o, none⟩)), some (off, _) => some (.pointer (some ⟨b, o + off, none⟩))
    | _, _ => none
  | .field s x f => match ev e x, fieldOf tab s f with
    | some (.agg cs), some (off, i) => partV i off cs.toList
    | _, _ => none
  | .binOp op t x y _ => match ev e x, ev e y with
    | some u, some v => binV tab op t y u v
    | _, _ => none
  | .unOp .not _ x => match ev e x with
    | some (.bool b) => some (.bool (!b))
    | _ => none
  | .convert s d x => match tlook tab s, tlook tab d, ev e x with
    | some _, some ⟨.int k, _, _, _⟩, some (.int _ n) => some (.int k (k.wrap n))
    | _, _, _ => none
  | .build s parts => match tlook tab s with
    | some ⟨.strct fs, _, _, z⟩ => cond (allKnown tab fs) ((buildV tab e s z parts.toList).map fun l => .agg l.toArray) none
    | some ⟨.arr _ el, _, _, z⟩ => cond (parts.isEmpty && (tlook tab el).isSome) (some (.agg z.toArray)) none
    | _ => none
  | .call ⟨.builtin .len, args, tys⟩ => match args.toList, tys.toList with
    | [x], [t] => match tlook tab t, ev e x with
      | some i, some v => lenV i v
      | _, _ => none
    | _, _ => none
  | .call ⟨.builtin .min, args, _⟩ => match evs e args.toList with
    | some [.int k a, .int _ b] => some (.int k (if b < a then b else a))
    | _ => none
  | .call ⟨.builtin .max, args, _⟩ => match evs e args.toList with
    | some [.int k a, .int _ b] => some (.int k (if b > a then b else a))
    | _ => none
  | .pick c a b => match ev e c with
    | some (.bool true) => ev e a
    | some (.bool false) => ev e b
    | _ => none
  | .extract x i => match ev e x with
    | some (.tuple vs) => vs.toList[i]?
    | _ => none
  | .makeFunc fn first cap => match evs e first.toList, evs e cap.toList with
    | some f, some c => some (.func fn f.toArray c.toArray)
    | _, _ => none
  | .makeInterface t x => match tlook tab t, ev e x with
    | some ⟨.iface, _, _, _⟩, _ => none
    | some _, some v => some (.iface t v)
    | _, _ => none
  | _ => none
theorem nth_nat {α : Type} (a : Array α) (i : Nat) : a[i]? = a.toList[i]? := by simp
section
variable {X : Pr} {N : Nat} {e : Env} {a : Act} {w : World}
theorem run_field {s : TypeId} {f : Nat} {off : Nat} {i : TI} (h : fieldOf X.tab s f = some (off, i)) :
    ∃ fs fd t, X.P.underlying s = some (.struct fs) ∧ fs[f]? = some fd ∧ fd.offset = off ∧ fd.type = t ∧ tlook X.tab t = some i ∧ i.size ≠ 0 := by
  unfold fieldOf at h
  split at h
  · rename_i fs sz by0 z hs
    split at h
    · rename_i off' t hf
      split at h
      · rename_i j hj
        cases hz : Nat.beq j.size 0 with
        | true => rw [hz] at h; simp at h
        | false =>
          rw [hz] at h
          simp only [cond_false, Option.some.injEq, Prod.mk.injEq] at h
          obtain ⟨rfl, rfl⟩ := h
          obtain ⟨d, inf, z', hr⟩ := X.row hs
          have hd := hr.desc
          have hu := hr.und
          cases d <;> simp [descOf] at hd
          rename_i fds
          subst hd
          simp only [List.getElem?_map] at hf
          cases hq : fds.toList[f]? with
          | none => simp [hq] at hf
          | some fd =>
            simp only [hq, Option.map_some, Option.some.injEq, Prod.mk.injEq] at hf
            refine ⟨fds, fd, t, hu, by rw [nth_nat, hq], hf.1, hf.2, hj, fun h0 => ?_⟩
            rw [h0] at hz
            simp at hz
      · simp at h
    · simp at h
  · simp at h
theorem run_part {t : TypeId} {i : TI} (hi : tlook X.tab t = some i) {off : Nat} {cs : Array Value} {v : Value} (h : partV i off cs.toList = some v) :
    (part t cs off).run X.P w = .ok v w := by
  obtain ⟨d, inf, z, hr⟩ := X.row hi
  unfold partV at h
  unfold part
  cases hq : i.d.agg with
  | true =>
    rw [hq] at h
    simp only [cond_true, Option.some.injEq] at h
    simp only [Sem.run_bind, hr.run_agg, Result.andThen_ok, hq, if_true, hr.run_size, Sem.run_pure, ← h]
    congr 2
    apply Array.ext'
    simp
  | false =>
    rw [hq] at h
    simp only [cond_false] at h
    simp only [Sem.run_bind, hr.run_agg, Result.andThen_ok, hq, Bool.false_eq_true, if_false, nth_nat, h, Sem.run_pure]
end
end Go.Proofs.YtepamajphjgigaaGreatDoor.K
/-! The conditions of single operations: that they suffice. -/
set_option linter.unusedVariables false
set_option linter.unusedSimpArgs false
namespace Go.Proofs.YtepamajphjgigaaGreatDoor.K
open Go
theorem foldSet_spec (off : Nat) : ∀ (vs : List Value) (k : Nat) (cs : Array Value),
    ((vs.zipIdx k).foldl (fun (cs : Array Value) (x : Value × Nat) => cs.setIfInBounds (off + x.2) x.1) cs).toList = foldSet cs.toList (off + k) vs
  | [], k, cs => by simp [foldSet]
  | v :: r, k, cs => by
    simp only [List.zipIdx_cons, List.foldl_cons, foldSet]
    rw [foldSet_spec off r (k + 1)]
    simp [Nat.add_assoc]
theorem fill_step (place : Nat → Option (Nat × Nat)) (cs : Array Value) (f : Nat) (v : Value) (r : List (Nat × Value)) (off size : Nat)
    (hp : place f = some (off, size)) (h1 : v.cells.toList.length = size) (h2 : off + size ≤ cs.toList.length) :
    Instr.fill place cs ((f, v) :: r) = Instr.fill place (foldSet cs.toList off v.cells.toList).toArray r := by
  have hs : v.cells.size = size := by simpa using h1
  have hb : off + size ≤ cs.size := by simpa using h2
  conv => lhs; unfold Instr.fill
  simp only [hp, hs, ne_eq, not_true_eq_false, decide_false, Bool.false_or, gt_iff_lt, decide_eq_true_eq]
  rw [if_neg (by omega)]
  congr 1
  apply Array.ext'
  rw [← Array.foldl_toList]
  have := foldSet_spec off v.cells.toList 0 cs
  simpa using this
section
variable {X : Pr} {N : Nat} {e : Env} {a : Act} {w : World}
theorem places_of {fds : List Field} (h : allKnown X.tab (fds.map fun f => (f.offset, f.type)) = true) :
    ∃ places : List (Nat × Nat), fds.mapM (fun f => (X.P.info? f.type).map fun i => (f.offset, i.size)) = some places ∧
      ∀ (f : Nat) (fd : Field) (i : TI), fds[f]? = some fd → tlook X.tab fd.type = some i → places[f]? = some (fd.offset, i.size) := by
  induction fds with
  | nil => exact ⟨[], by simp, by simp⟩
  | cons fd r ih =>
    simp only [List.map_cons, allKnown, Bool.and_eq_true] at h
    obtain ⟨places, hp, hq⟩ := ih h.2
    obtain ⟨j, hj⟩ := Option.isSome_iff_exists.1 h.1
    obtain ⟨d, inf, z, hr⟩ := X.row hj
    refine ⟨(fd.offset, inf.size) :: places, by simp [hr.info, hp], fun f fd' i hf hi => ?_⟩
    cases f with
    | zero =>
      simp only [List.getElem?_cons_zero, Option.some.injEq] at hf
      subst hf
      rw [hj, Option.some.injEq] at hi
      subst hi
      simp [hr.size]
    | succ f => simpa using hq f fd' i (by simpa using hf) hi
theorem fieldOf_of {s : TypeId} {f off : Nat} {i : TI} {fds : Array Field} (hu : X.P.underlying s = some (.struct fds)) (h : fieldOf X.tab s f = some (off, i)) :
    ∃ fd, fds.toList[f]? = some fd ∧ fd.offset = off ∧ tlook X.tab fd.type = some i := by
  obtain ⟨fs, fd, t, hu', hf, ho, ht, hl, _⟩ := run_field h
  rw [hu, Option.some.injEq, TypeDesc.struct.injEq] at hu'
  subst hu'
  subst ht
  exact ⟨fd, by rw [← nth_nat]; exact hf, ho, hl⟩
theorem buildV_fill (ha : Agree N e a) {s : TypeId} {fds : Array Field} (hu : X.P.underlying s = some (.struct fds)) (places : List (Nat × Nat))
    (hpl : ∀ (f : Nat) (fd : Field) (i : TI), fds.toList[f]? = some fd → tlook X.tab fd.type = some i → places[f]? = some (fd.offset, i.size)) :
    ∀ (parts : List (Nat × Operand)) (cs : List Value) (l : List Value), buildV X.tab e s cs parts = some l →
      Instr.fill (places.toArray[·]?) cs.toArray (parts.map fun (i, x) => (i, a.eval x)) = some l.toArray
  | [], cs, l, h => by simp only [buildV, Option.some.injEq] at h; simp [Instr.fill, h]
  | (f, x) :: r, cs, l, h => by
    simp only [buildV] at h
    split at h
    · rename_i off i v hf hx
      cases hc : (Nat.beq v.cells.toList.length i.size && Nat.ble (off + i.size) cs.length) with
      | false => rw [hc] at h; simp at h
      | true =>
        rw [hc, cond_true] at h
        rw [Bool.and_eq_true] at hc
        obtain ⟨h1, h2⟩ := hc
        have h1 := Nat.eq_of_beq_eq_true h1
        have h2 := Nat.le_of_ble_eq_true h2
        obtain ⟨fd, hfd, ho, hl⟩ := fieldOf_of hu hf
        have hp := hpl f fd i hfd hl
        rw [List.map_cons]
        show Instr.fill _ _ ((f, a.eval x) :: _) = _
        rw [ha.ev hx]
        rw [fill_step _ _ f v _ off i.size (by rw [← ho]; simpa using hp) h1 (by simpa using h2)]
        exact buildV_fill ha hu places hpl r _ l h
    · simp at h
theorem nil_cases {d : TD} {u v : Value} {b : Bool} (h1 : nilOf d v = true) (h2 : kindFits d u = true) (hb : isNil u = some b) :
    (∃ e a n c n' c', d = .slice e ∧ u = .slice a n c ∧ v = .slice none n' c' ∧ b = a.isNone) ∨ (∃ e a, d = .ptr e ∧ u = .pointer a ∧ v = .pointer none ∧ b = a.isNone) ∨
    (∃ k e a, d = .map k e ∧ u = .map a ∧ v = .map none ∧ b = a.isNone) ∨ (d = .iface ∧ v = .nilIface ∧ u = .nilIface ∧ b = true) ∨ (∃ t x, d = .iface ∧ v = .nilIface ∧ u = .iface t x ∧ b = false) := by
  unfold nilOf at h1
  split at h1
  · rename_i e n' c'
    cases u <;> simp [kindFits] at h2
    rename_i a n c
    exact .inl ⟨e, a, n, c, n', c', rfl, rfl, rfl, by simpa [isNil] using hb.symm⟩
  · rename_i e
    cases u <;> simp [kindFits] at h2
    rename_i a
    exact .inr (.inl ⟨e, a, rfl, rfl, rfl, by simpa [isNil] using hb.symm⟩)
  · rename_i k e
    cases u <;> simp [kindFits] at h2
    rename_i a
    exact .inr (.inr (.inl ⟨k, e, a, rfl, rfl, rfl, by simpa [isNil] using hb.symm⟩))
  · cases u <;> simp [kindFits] at h2
    · rename_i t x
      exact .inr (.inr (.inr (.inr ⟨t, x, rfl, rfl, rfl, by simpa [isNil] using hb.symm⟩)))
    · exact .inr (.inr (.inr (.inl ⟨rfl, rfl, rfl, by simpa [isNil] using hb.symm⟩)))
  · simp at h1
theorem run_equalIn_nil (n : Nat) {t : TypeId} {i : TI} (hi : tlook X.tab t = some i) {u v : Value} {b : Bool} (h1 : nilOf i.d v = true) (h2 : kindFits i.d u = true) (hb : isNil u = some b) :
    (Op.equalIn (n + 1) t u v).run X.P w = .ok b w := by
  obtain ⟨d, inf, z, hr⟩ := X.row hi
  have hd := hr.desc
  unfold Op.equalIn
  simp only [Sem.run_bind, hr.run_und, Result.andThen_ok]
  rcases nil_cases h1 h2 hb with ⟨e, a, n, c, n', c', hq, rfl, rfl, rfl⟩ | ⟨e, a, hq, rfl, rfl, rfl⟩ | ⟨k, e, a, hq, rfl, rfl, rfl⟩ | ⟨hq, rfl, rfl, rfl⟩ | ⟨t, x, hq, rfl, rfl, rfl⟩ <;> rw [hq] at hd <;>
    (cases d <;> simp [descOf] at hd) <;> (try cases a) <;> rfl
theorem run_equal_nil {t : TypeId} {i : TI} (hi : tlook X.tab t = some i) {u v : Value} {b : Bool} (h1 : nilOf i.d v = true) (h2 : kindFits i.d u = true) (hb : isNil u = some b) :
    (Op.equal t u v).run X.P w = .ok b w := run_equalIn_nil 9999 hi h1 h2 hb
theorem run_guard_nil {op : BinOp} {t : TypeId} {x : Operand} {c : Value} {i : TI} {u v : Value} {b : Bool} (h1 : nilOf i.d v = true) (h2 : kindFits i.d u = true) (hb : isNil u = some b) :
    (eqGuard op t x (.const c) u v).run X.P w = .ok () w := by
  unfold eqGuard
  rcases nil_cases h1 h2 hb with ⟨e, a, n, c, n', c', hq, rfl, rfl, rfl⟩ | ⟨e, a, hq, rfl, rfl, rfl⟩ | ⟨k, e, a, hq, rfl, rfl, rfl⟩ | ⟨hq, rfl, rfl, rfl⟩ | ⟨t, x, hq, rfl, rfl, rfl⟩ <;> cases op <;> simp
theorem run_binOp_nil {t : TypeId} {i : TI} {u v : Value} {b : Bool} (h1 : nilOf i.d v = true) (h2 : kindFits i.d u = true) (hb : isNil u = some b) :
    binOp .eql t u v = (do pure (.bool (← Op.equal t u v))) ∧ binOp .neq t u v = (do pure (.bool (!(← Op.equal t u v)))) := by
  rcases nil_cases h1 h2 hb with ⟨e, a, n, c, n', c', hq, rfl, rfl, rfl⟩ | ⟨e, a, hq, rfl, rfl, rfl⟩ | ⟨k, e, a, hq, rfl, rfl, rfl⟩ | ⟨hq, rfl, rfl, rfl⟩ | ⟨t, x, hq, rfl, rfl, rfl⟩ <;> exact ⟨rfl, rfl⟩
theorem run_equal_bool {t : TypeId} {i : TI} (hi : tlook X.tab t = some i) (h1 : i.d = .bool) (a b : Bool) : (Op.equal t (.bool a) (.bool b)).run X.P w = .ok (a == b) w := by
  obtain ⟨d, inf, z, hr⟩ := X.row hi
  have hd := hr.desc
  rw [h1] at hd
  unfold Op.equal Op.maxDepth Op.equalIn
  simp only [Sem.run_bind, hr.run_und, Result.andThen_ok]
  cases d <;> simp [descOf] at hd
  rfl
theorem u8Cells_eq : ∀ {l : List Value} {xs : List Int}, u8Cells l = some xs → l = xs.map cell8
  | [], xs, h => by
    simp only [u8Cells, Option.some.injEq] at h
    subst h
    rfl
  | v :: r, xs, h => by
    unfold u8Cells at h
    split at h
    · rename_i h0; cases h0
    · rename_i n r' h0
      obtain ⟨ys, h1, rfl⟩ := Option.map_eq_some_iff.1 h
      injection h0 with e1 e2
      subst e1
      subst e2
      rw [u8Cells_eq h1]
      rfl
    · cases h
theorem range_all_eq : ∀ (xs ys : List Int), xs.length = ys.length → ((List.range' 0 xs.length 1).all fun i => xs.getD i 0 == ys.getD i 0) = (xs == ys)
  | [], [], _ => rfl
  | x :: xs, y :: ys, h => by
    have ih := range_all_eq xs ys (by simpa using h)
    rw [List.length_cons, List.range'_succ, List.all_cons, show List.range' (0 + 1) xs.length 1 = (List.range' 0 xs.length 1).map (1 + ·) by rw [List.map_add_range'], List.all_map]
    simp only [List.getD_cons_zero, Function.comp_def, Nat.add_comm 1, List.getD_cons_succ, ih]
    simp [List.cons_beq_cons]
  | [], _ :: _, h => by simp at h
  | _ :: _, [], h => by simp at h
theorem run_equal_u8 (d : Nat) {t e n s1 b1 b2 : Nat} {z1 z2 : List Value} (hi : tlook X.tab t = some ⟨.arr n e, s1, b1, z1⟩) (he : tlook X.tab e = some ⟨.int .u8, 1, b2, z2⟩) {xs ys : List Int} (hx : xs.length = n) (hy : ys.length = n) :
    (Op.equalIn (d + 2) t (.agg (xs.map cell8).toArray) (.agg (ys.map cell8).toArray)).run X.P w = .ok (xs == ys) w := by
  obtain ⟨dt, i1, v1, hr⟩ := X.row hi
  obtain ⟨de, i2, v2, hr2⟩ := X.row he
  have hd := hr.desc
  have hd2 := hr2.desc
  have hu : X.P.underlying e = some (.int .u8) := by
    have := hr2.und
    cases de <;> simp [descOf] at hd2
    rw [hd2] at this
    exact this
  have ht : X.P.underlying t = some (.array n e) := by
    have := hr.und
    cases dt <;> simp [descOf] at hd
    rw [hd.1, hd.2] at this
    exact this
  have hsz : (sizeOf e).run X.P w = .ok 1 w := hr2.run_size w
  rw [← range_all_eq xs ys (hx.trans hy.symm), hx, Op.equalIn]
  simp only [Sem.run_bind, run_underlying ht, Result.andThen_ok, hsz, Std.Legacy.Range.forIn_eq_forIn_range', Std.Legacy.Range.size, Nat.sub_zero, Nat.add_sub_cancel, Nat.div_one]
  have hl : ∀ i ∈ List.range' 0 n 1, i < n := fun i hi => by simpa using (List.mem_range'_1.1 hi).2
  generalize List.range' 0 n 1 = l at hl ⊢
  induction l with
  | nil => simp
  | cons i l ih =>
    have hin : i < n := hl i (by simp)
    have p : ∀ zs : List Int, zs.length = n → (part e (zs.map cell8).toArray (i * 1)).run X.P w = .ok (cell8 (zs.getD i 0)) w := fun zs hz => by
      simp [part, isAgg, run_underlying hu, List.getD, List.getElem?_eq_getElem (show i < zs.length by omega)]
    have pe : (Op.equalIn (d + 1) e (cell8 (xs.getD i 0)) (cell8 (ys.getD i 0))).run X.P w = .ok (xs.getD i 0 == ys.getD i 0) w := run_equalIn_int w d e .u8 .u8 _ _ hu
    simp only [List.forIn_cons, Sem.run_bind, p xs hx, p ys hy, pe, Result.andThen_ok, List.all_cons]
    cases hb : (xs.getD i 0 == ys.getD i 0) with
    | false => simp
    | true =>
      simp only [Bool.not_true, Bool.false_eq_true, if_false, Sem.run_pure, Result.andThen_ok, Bool.true_and]
      exact ih fun j hj => hl j (by simp [hj])
theorem guard_u8 {t e n s1 b1 b2 : Nat} {z1 z2 : List Value} (hi : tlook X.tab t = some ⟨.arr n e, s1, b1, z1⟩) (he : tlook X.tab e = some ⟨.int .u8, 1, b2, z2⟩) : X.P.eqGuardType X.P.depth t = false := by
  obtain ⟨dt, i1, v1, hr⟩ := X.row hi
  obtain ⟨de, i2, v2, hr2⟩ := X.row he
  have hd := hr.desc
  have hd2 := hr2.desc
  have hu : X.P.underlying e = some (.int .u8) := by
    have := hr2.und
    cases de <;> simp [descOf] at hd2
    rw [hd2] at this
    exact this
  have ht : X.P.underlying t = some (.array n e) := by
    have := hr.und
    cases dt <;> simp [descOf] at hd
    rw [hd.1, hd.2] at this
    exact this
  show Program.eqGuardType _ (2 * (X.P.types.size + Made.depth) + 1 + 1) t = false
  rw [Program.eqGuardType, ht]
  show Program.eqGuardType _ (2 * (X.P.types.size + Made.depth) + 1) e = false
  rw [Program.eqGuardType, hu]
theorem run_binV {op : BinOp} {t : TypeId} {x y : Operand} {u v r : Value} (h : binV X.tab op t y u v = some r) :
    (do eqGuard op t x y u v; binOp op t u v : Sem Value).run X.P w = .ok r w := by
  unfold binV at h
  split at h
  · rename_i k i k' b
    have hg : (eqGuard op t x y (.int k i) (.int k' b)).run X.P w = .ok () w := by unfold eqGuard; split <;> rfl
    simp only [Sem.run_bind, hg, Result.andThen_ok]
    unfold intBin at h
    by_cases hk : k = k'
    · subst hk
      simp only [decide_true] at h
      cases op <;> simp only [Option.some.injEq, reduceCtorEq] at h <;> subst h <;>
        simp [binOp, Op.intArith, Op.intBits, Op.intCmp]
    · simp [hk] at h
  · rename_i a b
    have hg : ∀ op, (eqGuard op t x y (.bool a) (.bool b)).run X.P w = .ok () w := fun op => by unfold eqGuard; split <;> rfl
    simp only [Sem.run_bind, hg, Result.andThen_ok]
    split at h
    · rename_i hi
      simp only [Option.some.injEq] at h
      have e : binOp .eql t (.bool a) (.bool b) = (do pure (.bool (← Op.equal t (.bool a) (.bool b)))) := rfl
      rw [e, Sem.run_bind, run_equal_bool hi rfl, Result.andThen_ok, Sem.run_pure, h]
    · rename_i hi
      simp only [Option.some.injEq] at h
      have e : binOp .neq t (.bool a) (.bool b) = (do pure (.bool (!(← Op.equal t (.bool a) (.bool b))))) := rfl
      rw [e, Sem.run_bind, run_equal_bool hi rfl, Result.andThen_ok, Sem.run_pure, h]
    · simp at h
  · rename_i a b
    split at h
    · rename_i n el s1 b1 z1 hi
      split at h
      · rename_i b2 z2 xs ys he h1 h2
        cases hc : (Nat.beq xs.length n && Nat.beq ys.length n) with
        | false => rw [hc] at h; simp at h
        | true =>
          rw [hc, cond_true] at h
          rw [Bool.and_eq_true] at hc
          simp only [Option.some.injEq] at h
          obtain ⟨a⟩ := a
          obtain ⟨b⟩ := b
          have e1 : a = xs.map cell8 := u8Cells_eq h1
          have e2 : b = ys.map cell8 := u8Cells_eq h2
          subst e1
          subst e2
          simp only [Sem.run_bind, run_eqGuard_agg _ _ _ _ _ _ _ (guard_u8 hi he), Result.andThen_ok]
          have e : binOp .neq t (.agg (xs.map cell8).toArray) (.agg (ys.map cell8).toArray) = (do pure (.bool (!(← Op.equal t (.agg (xs.map cell8).toArray) (.agg (ys.map cell8).toArray))))) := rfl
          rw [e, Sem.run_bind, show Op.equal t (.agg (xs.map cell8).toArray) (.agg (ys.map cell8).toArray) = Op.equalIn (9998 + 2) t (.agg (xs.map cell8).toArray) (.agg (ys.map cell8).toArray) from rfl, run_equal_u8 9998 hi he (Nat.eq_of_beq_eq_true hc.1) (Nat.eq_of_beq_eq_true hc.2), Result.andThen_ok, Sem.run_pure, h]
      · simp at h
    · simp at h
  · rename_i hni
    split at h
    · rename_i c i hi
      cases hc : (nilOf i.d v && kindFits i.d u) with
      | false => rw [hc] at h; simp at h
      | true =>
        rw [hc, cond_true] at h
        rw [Bool.and_eq_true] at hc
        cases hb : isNil u with
        | none => rw [hb] at h; simp at h
        | some b =>
          rw [hb] at h
          simp only [Option.map_some, Option.some.injEq] at h
          simp only [Sem.run_bind, run_guard_nil (X := X) (w := w) hc.1 hc.2 hb, Result.andThen_ok, (run_binOp_nil hc.1 hc.2 hb).1, run_equal_nil (w := w) hi hc.1 hc.2 hb, Sem.run_pure, h]
    · rename_i c i hi
      cases hc : (nilOf i.d v && kindFits i.d u) with
      | false => rw [hc] at h; simp at h
      | true =>
        rw [hc, cond_true] at h
        rw [Bool.and_eq_true] at hc
        cases hb : isNil u with
        | none => rw [hb] at h; simp at h
        | some b =>
          rw [hb] at h
          simp only [Option.map_some, Option.some.injEq] at h
          simp only [Sem.run_bind, run_guard_nil (X := X) (w := w) hc.1 hc.2 hb, Result.andThen_ok, (run_binOp_nil hc.1 hc.2 hb).2, run_equal_nil (w := w) hi hc.1 hc.2 hb, Sem.run_pure, h]
    · simp at h
theorem list2 {α : Type} {xs : Array α} {x : α} (h : xs.toList = [x]) : xs = #[x] := Array.ext' (by simpa using h)
theorem run_lenV {t : TypeId} {i : TI} (hi : tlook X.tab t = some i) {u v : Value} (h : lenV i u = some v) (ty : TypeId) : (Builtin.len_ #[t] ty #[u]).run X.P w = .ok v w := by
  obtain ⟨d, inf, z, hr⟩ := X.row hi
  have hd := hr.desc
  unfold lenV at h
  split at h
  · rename_i a n c
    split at h
    · rename_i e he
      rw [he] at hd
      cases d <;> simp [descOf] at hd
      simp only [Option.some.injEq] at h
      simp [Builtin.len_, hr.run_und, goInt, h]
    · simp at h
  · rename_i s
    split at h
    · rename_i he
      rw [he] at hd
      cases d <;> simp [descOf] at hd
      simp only [Option.some.injEq] at h
      simp [Builtin.len_, hr.run_und, goInt, h]
    · simp at h
  · simp at h
/-- What only computes does what is said. -/
theorem pureOp_sound {o : Oper} {v : Value} (ha : Agree N e a) (h : pureOp X.tab o.op e = some v) : (execOp a.eval o).run X.P w = .ok (.value v) w := by
  unfold execOp
  cases ho : o.op <;> rw [ho] at h <;> (try (simp only [pureOp, reduceCtorEq] at h; done)) <;> dsimp only
  case move x => simp only [pureOp] at h; simp [ha.ev h]
  case assign x => simp only [pureOp] at h; simp [ha.ev h]
  case nilCheck x =>
    simp only [pureOp] at h
    split at h
    · rename_i hx
      simp only [Option.some.injEq] at h
      subst h
      rw [ha.ev hx]
      rfl
    · simp at h
  case fieldAddr s x f =>
    simp only [pureOp] at h
    split at h
    · rename_i hx hf
      simp only [Option.some.injEq] at h
      obtain ⟨fs, fd, t, hu, hfd, ho', ht, hl, hz⟩ := run_field hf
      obtain ⟨d, inf, z, hr⟩ := X.row hl
      subst ht
      have hadd : ∀ b o n : Nat, (⟨b, o, none⟩ : Addr).add n = ⟨b, o + n, none⟩ := by intro b o n; unfold Addr.add; split <;> simp_all
      simp [ha.ev hx, Instr.fieldAt, run_underlying hu, hfd, Instr.sureAddr, fieldPlace, hr.run_size, hz, hadd, ho', h]
    · simp at h
  case field s x f =>
    simp only [pureOp] at h
    split at h
    · rename_i hx hf
      obtain ⟨fs, fd, t, hu, hfd, ho', ht, hl, hz⟩ := run_field hf
      subst ht
      subst ho'
      simp [ha.ev hx, Instr.field, run_underlying hu, hfd, asAgg, run_part hl h]
    · simp at h
  case binOp op t x y yt =>
    simp only [pureOp] at h
    split at h
    · rename_i u u' hx hy
      have hb := run_binV (x := x) (X := X) (w := w) h
      rw [ha.ev hx, ha.ev hy]
      rw [Sem.run_bind] at hb ⊢
      rw [Sem.run_bind, hb]
      rfl
    · simp at h
  case unOp op t x =>
    cases op <;> simp only [pureOp, reduceCtorEq] at h
    split at h
    · rename_i hx
      simp only [Option.some.injEq] at h
      simp [ha.ev hx, Op.unary, h]
    · simp at h
  case convert s d x =>
    simp only [pureOp] at h
    split at h
    · rename_i hs hd hx
      simp only [Option.some.injEq] at h
      obtain ⟨_, _, _, hrs⟩ := X.row hs
      obtain ⟨dd, _, _, hrd⟩ := X.row hd
      have hdd := hrd.desc
      cases dd <;> simp [descOf] at hdd
      subst hdd
      simp [ha.ev hx, convert, hrs.run_und, hrd.run_und, Conv.intToInt, h]
    · simp at h
  case build s parts =>
    simp only [pureOp] at h
    split at h
    · rename_i fs sz by0 z hs
      cases hk : allKnown X.tab fs with
      | false => rw [hk] at h; simp at h
      | true =>
        rw [hk, cond_true, Option.map_eq_some_iff] at h
        obtain ⟨l, hl, rfl⟩ := h
        obtain ⟨d, inf, zv, hr⟩ := X.row hs
        have hd := hr.desc
        cases d <;> simp [descOf] at hd
        rename_i fds
        subst hd
        obtain ⟨places, hp, hq⟩ := places_of (X := X) (fds := fds.toList) hk
        have hz := hr.cells
        simp only at hz
        have hb := buildV_fill ha hr.und places hq parts.toList _ l hl
        rw [← hz] at hb
        have : X.P.built s (parts.map fun (i, x) => (i, a.eval x)).toList = some l.toArray := by
          unfold Program.built
          simp only [hr.info, hr.und, hr.zero, hp]
          simpa using hb
        simp [run_build w s _ _ this]
    · rename_i n el sz by0 z hs
      cases hk : (parts.isEmpty && (tlook X.tab el).isSome) with
      | false => rw [hk] at h; simp at h
      | true =>
        rw [hk, cond_true, Option.some.injEq] at h
        rw [Bool.and_eq_true] at hk
        obtain ⟨hp, hel⟩ := hk
        obtain ⟨ie, hie⟩ := Option.isSome_iff_exists.1 hel
        obtain ⟨d, inf, zv, hr⟩ := X.row hs
        obtain ⟨d2, inf2, zv2, hr2⟩ := X.row hie
        have hd := hr.desc
        cases d <;> simp [descOf] at hd
        rename_i n2 el2
        obtain ⟨rfl, rfl⟩ := hd
        have hpe : parts = #[] := Array.isEmpty_iff.1 hp
        subst hpe
        have : X.P.built s (#[] : Array (Nat × Value)).toList = some zv.cells := by
          unfold Program.built
          simp only [hr.info, hr.und, hr.zero, hr2.info]
          rfl
        have hz : zv.cells = z.toArray := by
          have h1 : zv.cells.toList = z := hr.cells
          rw [← h1]
        rw [← h, ← hz]
        simp [run_build w s _ _ this]
    · simp at h
  case call c =>
    obtain ⟨callee, args, tys⟩ := c
    cases callee <;> try (simp only [pureOp, reduceCtorEq] at h; done)
    rename_i b
    cases b <;> try (simp only [pureOp, reduceCtorEq] at h; done)
    · simp only [pureOp] at h
      split at h
      · rename_i x t hxs hts
        split at h
        · rename_i i u hi hx
          have hax := list2 hxs
          have htx := list2 hts
          subst hax
          subst htx
          simp [resolve, invoke, builtin, ha.ev hx, run_lenV (w := w) hi h]
        · simp at h
      · simp at h
    · simp only [pureOp] at h
      split at h
      · rename_i k i j b hxs
        simp only [Option.some.injEq] at h
        have := ha.evs _ _ hxs
        simp [resolve, invoke, builtin, Builtin.max_, this, Builtin.max2, h]
      · simp at h
    · simp only [pureOp] at h
      split at h
      · rename_i k i j b hxs
        simp only [Option.some.injEq] at h
        have := ha.evs _ _ hxs
        simp [resolve, invoke, builtin, Builtin.min_, this, Builtin.min2, h]
      · simp at h
  case pick c x y =>
    simp only [pureOp] at h
    split at h
    · rename_i hc
      simp [ha.ev hc, asBool, ha.ev h]
    · rename_i hc
      simp [ha.ev hc, asBool, ha.ev h]
    · simp at h
  case extract x i =>
    simp only [pureOp] at h
    split at h
    · rename_i vs hx
      simp [ha.ev hx, Instr.extract, nth_nat, h]
    · simp at h
  case makeFunc fn first cap =>
    simp only [pureOp] at h
    split at h
    · rename_i f c hf hc
      simp only [Option.some.injEq] at h
      have h1 := ha.evs _ _ hf
      have h2 := ha.evs _ _ hc
      have e1 : first.map a.eval = f.toArray := Array.ext' (by simpa using h1)
      have e2 : cap.map a.eval = c.toArray := Array.ext' (by simpa using h2)
      simp [Instr.makeFunc, e1, e2, h]
    · simp at h
  case makeInterface t x =>
    simp only [pureOp] at h
    split at h
    · simp at h
    · rename_i i u hni hi hx
      simp only [Option.some.injEq] at h
      obtain ⟨d, inf, z, hr⟩ := X.row hi
      have hd := hr.desc
      cases d <;> simp [descOf] at hd <;> (try (simp [Instr.makeInterface, hr.run_und, ha.ev hx, h]; done))
      obtain ⟨di, s1, b1, z1⟩ := i
      simp only at hd
      subst hd
      exact (hni s1 b1 z1 rfl).elim
    · simp at h
end
end Go.Proofs.YtepamajphjgigaaGreatDoor.K
/-! Append, copy, make: what their runs come to. -/
set_option linter.unusedVariables false
set_option linter.unusedSimpArgs false
namespace Go.Proofs.YtepamajphjgigaaGreatDoor.K
open Go
theorem add_lit (b o n : Nat) : (⟨b, o, none⟩ : Addr).add n = ⟨b, o + n, none⟩ := by unfold Addr.add; split <;> simp_all
theorem run_firstCells_src {P : Program} {w : World} {sz n : Nat} {v : Value} {xs : List Value} (h : Src w sz v n xs) {m : Nat} (hm : m ≤ n) :
    (Builtin.firstCells sz m v).run P w = .ok (xs.take (m * sz)).toArray w := by
  cases h with
  | empty a c =>
    have : m = 0 := by omega
    subst this
    cases a <;> simp [Builtin.firstCells, loadCells, loadCellsFrom]
  | some b o _ c _ hl hx =>
    have hlen : (xs.take (m * sz)).length = m * sz := by rw [List.length_take, hl]; exact Nat.min_eq_left (Nat.mul_le_mul_right _ hm)
    refine run_firstCells_some (P := P) w sz m ⟨b, o, .none⟩ n c (xs.take (m * sz)) hlen (fun j u hj => ?_)
    rw [add_lit]
    refine hx j u ?_
    rw [List.getElem?_take] at hj
    split at hj
    · exact hj
    · cases hj
  | string s hs =>
    subst hs
    simp only [Builtin.firstCells, Sem.run_pure, Nat.mul_one]
    congr 1
    apply Array.ext'
    simp only [Array.toList_map]
    have : (s.extract 0 m).data.toList = s.data.toList.take m := by
      simp [ByteArray.data_extract]
    rw [this, List.map_take]
theorem Src.lenOf {P : Program} {w : World} {sz n : Nat} {v : Value} {xs : List Value} (h : Src w sz v n xs) : (Builtin.lenOf v).run P w = .ok n w := by
  cases h <;> simp [Builtin.lenOf]
theorem Src.length {w : World} {sz n : Nat} {v : Value} {xs : List Value} (h : Src w sz v n xs) : xs.length = n * sz := by
  cases h with
  | empty a c => simp
  | some b o _ c _ hl hx => exact hl
  | string s hs => subst hs; simp
theorem Src.same {w w' : World} {sz n : Nat} {v : Value} {xs : List Value} (h : Src w sz v n xs) (hh : w'.heap = w.heap) : Src w' sz v n xs := by
  cases h with
  | empty a c => exact .empty a c
  | some b o _ c _ hl hx => exact .some b o n c xs hl (fun j u hj => by have := hx j u hj; simpa [World.cell?, hh] using this)
  | string s hs => exact .string s hs
theorem Src.ext {M : Nat → Prop} {w w' : World} {sz n : Nat} {v : Value} {xs : List Value} (h : Src w sz v n xs) (x : Ext M w w') (hb : ∀ k, v.ownBlock = Option.some k → ¬ M k) : Src w' sz v n xs := by
  cases h with
  | empty a c => exact .empty a c
  | some b o _ c _ hl hx => exact .some b o n c xs hl (hx.ext x (hb b rfl))
  | string s hs => exact .string s hs
/-- What an append leaves of the world. -/
structure Appended (w w' : World) (v v' : Value) : Prop where
  ext : Ext (fun k => v.ownBlock = some k) w w'
  blk : v'.ownBlock = v.ownBlock ∨ ∃ k, v'.ownBlock = some k ∧ w.heap.size ≤ k
  nil : v ≠ .slice none 0 0 → v' ≠ .slice none 0 0
  inp : ∀ g n c, v = .slice (some ⟨g, 0, none⟩) n c → ∀ a' k c', v' = .slice a' k c' → k ≤ c → a' = some ⟨g, 0, none⟩ ∧ c' = c ∧
    ∀ T l, Own w g T l → ∃ p m, Own w' g T (l.take p ++ m ++ l.drop (p + m.length)) ∧ p + m.length ≤ l.length ∧ ∀ sz, l.length = c * sz → 0 < c → p = n * sz ∧ p + m.length = k * sz
def okCells (l : List Value) : Bool := l.all fun u => u.oneCell'
/-- The types of append's operands fit: the second is no number. -/
def appTypes (X : Pr) (tys : List TypeId) (e : TypeId) (i : TI) : Prop :=
  ∃ t u j j', tys = [t, u] ∧ tlook X.tab t = some j ∧ j.d = .slice e ∧ tlook X.tab u = some j' ∧ (∀ k, j'.d ≠ .int k) ∧ tlook X.tab e = some i
section
variable {X : Pr} {w : World}
theorem grow_own {e : TypeId} {i : TI} {inf : TypeInfo} {z : Value} {d : TypeDesc} (hr : TRow X.P e i d inf z) (hz : i.zero.length = i.size) (n m old : Nat) (xs news : List Value)
    (hx : xs.length = n * i.size) (hl : news.length = m * i.size) (h63 : n + m ≤ maxLen) :
    OwnSl (w.drew.alloc (.cells (xs.toArray ++ (news.toArray ++ Builtin.zeroCells z.cells (grownCap w (n + m) old e - (n + m)))) e)) e i.size
      (.slice (some ⟨w.heap.size, 0, none⟩) (n + m) (grownCap w (n + m) old e)) (n + m) (xs ++ news) := by
  have hge := grownCap_ge w (n + m) old e
  have hcm : grownCap w (n + m) old e ≤ maxLen := grownCap_le_maxLen w (n + m) old e h63
  have hlen : (xs ++ news).length = (n + m) * i.size := by rw [List.length_append, hx, hl, Nat.add_mul]
  have hzs : z.cells.size = i.size := by rw [← hz, ← hr.cells]; simp
  refine ⟨hlen, .inr ⟨w.heap.size, _, _, rfl, Nat.zero_le _, heap_alloc_new w.drew _, hge, hcm, ?_, ?_⟩⟩
  · simp only [Array.size_append, List.size_toArray, size_zeroCells, hzs, hx, hl, ← Nat.add_mul]
    congr 1
    omega
  · simp only [Array.toList_append]
    rw [← List.append_assoc, ← hlen]
    exact List.take_left
theorem inp_row {w : World} {g n m cap z : Nat} {e : TypeId} {cur : Array Value} {news : List Value} {v : Value} (hv : v = .slice (some ⟨g, 0, none⟩) n cap) (hg : w.heap[g]? = some (.cells cur e (0, 0))) (hcs : cur.size = cap * z) (hl : news.length = m * z) (hroom : n + m ≤ cap) :
    ∀ g' n' c', v = .slice (some ⟨g', 0, none⟩) n' c' → ∀ a' k c'', Value.slice (some ⟨g, 0, none⟩) (n + m) cap = .slice a' k c'' → k ≤ c' → a' = some ⟨g', 0, none⟩ ∧ c'' = c' ∧
      ∀ T l, Own w g' T l → ∃ p m', Own (w.setRow g (cur.toList.take (n * z) ++ news ++ cur.toList.drop (n * z + news.length)).toArray) g' T (l.take p ++ m' ++ l.drop (p + m'.length)) ∧ p + m'.length ≤ l.length ∧ ∀ sz, l.length = c' * sz → 0 < c' → p = n' * sz ∧ p + m'.length = k * sz := by
  intro g' n' c' h a' k c'' h' hk
  rw [hv] at h
  injection h with h1 h2 h3
  injection h' with h4 h5 h6
  simp only [Option.some.injEq, Addr.mk.injEq, and_true] at h1
  subst h1 h2 h3 h4 h5 h6
  refine ⟨rfl, rfl, fun T l ho => ?_⟩
  unfold Own at ho
  rw [hg] at ho
  simp only [Option.some.injEq, Obj.cells.injEq, and_true] at ho
  obtain ⟨rfl, rfl⟩ := ho
  have hlz : l.length = cap * z := by simpa using hcs
  have hle : n * z + news.length ≤ l.length := by rw [hlz, hl, ← Nat.add_mul]; exact Nat.mul_le_mul_right _ hroom
  refine ⟨n * z, news, ?_, hle, fun sz h0 hc => ?_⟩
  · have := setRow_heap w g l.toArray (l.take (n * z) ++ news ++ l.drop (n * z + news.length)).toArray e (0, 0) hg
    exact this
  · have : sz = z := Nat.eq_of_mul_eq_mul_left hc (by rw [← h0, hlz])
    subst this
    exact ⟨rfl, by rw [hl, ← Nat.add_mul]⟩
theorem run_append_src {tys : List TypeId} {e : TypeId} {i : TI} (ht : appTypes X tys e i) (hz : i.zero.length = i.size) (ty : TypeId) {v x : Value} {n m : Nat} {xs news : List Value}
    (hown : OwnSl w e i.size v n xs) (hsrc : Src w i.size x m news) (h1 : okCells news = true) (h63 : n + m ≤ maxLen) (hby : (n + m) * i.bytes ≤ 140737488355328) :
    ∃ v' w', (Builtin.append_ tys.toArray ty #[v, x]).run X.P w = .ok v' w' ∧ OwnSl w' e i.size v' (n + m) (xs ++ news) ∧ Appended w w' v v' := by
  obtain ⟨t, u, j, j', rfl, hj, hje, hj', hni, hi⟩ := ht
  obtain ⟨d, inf, z, hr⟩ := X.row hi
  obtain ⟨dt, inft, zt, hrt⟩ := X.row hj
  obtain ⟨du, infu, zu, hru⟩ := X.row hj'
  have hdt := hrt.desc
  rw [hje] at hdt
  cases dt <;> simp [descOf] at hdt
  have hdt' := hdt.symm
  subst hdt'
  have hdu : ∀ k, du ≠ .int k := by
    rintro k rfl
    have := hru.desc
    simp [descOf] at this
    exact hni k this.symm
  have hl := hsrc.length
  have hsmall : n + m ≤ 9223372036854775807 := by simp only [maxLen] at h63; omega
  have hf : ∀ w' : World, w'.heap = w.heap → (Builtin.firstCells i.size m x).run X.P w' = .ok news.toArray w' := by
    intro w' hw
    have := run_firstCells_src (P := X.P) (hsrc.same hw) (Nat.le_refl m)
    rwa [← hl, List.take_length] at this
  have hlen := hsrc.lenOf (P := X.P)
  have hby' : ∀ old, old < n + m → ¬ (281474976710656 < Builtin.nextslicecap (n + m) old * inf.bytes) := by
    intro old ho
    have := growslice_fits (need := n + m) (old := old) (by omega) hby
    rw [hr.bytes]
    omega
  have grown : ∀ old, old < n + m → ∀ M, (Builtin.firstCells i.size n v).run X.P w.drew = .ok xs.toArray w.drew → v = .slice M n old →
      (Builtin.append_ #[t, u] ty #[v, x]).run X.P w = .ok (.slice (some ⟨w.heap.size, 0, none⟩) (n + m) (grownCap w (n + m) old e))
        (w.drew.alloc (.cells (xs.toArray ++ (news.toArray ++ Builtin.zeroCells z.cells (grownCap w (n + m) old e - (n + m)))) e)) := by
    intro old ho M hfo hv
    have h63' : ¬ (9223372036854775807 < ((n : Int) + (m : Int))) := by omega
    have hn : ¬ (n + m ≤ old) := by omega
    have hfn := hf w.drew rfl
    rw [hv] at hfo ⊢
    (simp [Builtin.append_, hrt.run_und, hru.run_und, hr.run_size, hlen, hn, h63', hr.info, hr.zero, hby' old ho, Question.forced, hfo, hfn, newRow, grownCap, typeInfo, zeroValue])
  have hG : ∀ old, OwnSl (w.drew.alloc (.cells (xs.toArray ++ (news.toArray ++ Builtin.zeroCells z.cells (grownCap w (n + m) old e - (n + m)))) e)) e i.size
      (.slice (some ⟨w.heap.size, 0, none⟩) (n + m) (grownCap w (n + m) old e)) (n + m) (xs ++ news) := fun old => grow_own hr hz n m old xs news hown.1 hl h63
  have hE : ∀ (o : Obj) (M : Nat → Prop), Ext M w (w.drew.alloc o) := fun o M => ⟨rfl, rfl, rfl, by simp, fun k hk _ => heap_alloc_old w.drew o k hk⟩
  rcases hown.2 with ⟨hv, hn0⟩ | ⟨g, cap, cur, hv, _, hg, hnc, hcm, hcs, htake⟩
  · have hx0 : xs = [] := List.eq_nil_of_length_eq_zero (by simpa [hn0] using hown.1)
    by_cases hm : m = 0
    · have hn0' : news = [] := List.eq_nil_of_length_eq_zero (by simpa [hm] using hl)
      refine ⟨v, w, ?_, ?_, ⟨Ext.refl _ _, .inl rfl, fun h => h, fun g n' c h => by rw [hv] at h; cases h⟩⟩
      · have hfw := hf w rfl
        rw [hn0', hm] at hfw
        rw [hm] at hlen
        rw [hv]
        (simp [Builtin.append_, hrt.run_und, hru.run_und, hr.run_size, hlen, hfw])
      · rw [hn0', hm, List.append_nil, Nat.add_zero]
        exact hown
    · refine ⟨_, _, grown 0 (by omega) none ?_ (by rw [hv, hn0]), hG 0, ⟨hE _ _, .inr ⟨w.heap.size, rfl, Nat.le_refl _⟩, fun _ h => by simp at h, fun g n' c h => by rw [hv] at h; cases h⟩⟩
      rw [hv, hx0]
      simp [Builtin.firstCells]
  · by_cases hroom : n + m ≤ cap
    · have hfit : n * i.size + news.length ≤ cur.size := by rw [hl, hcs, ← Nat.add_mul]; exact Nat.mul_le_mul_right _ hroom
      have hst := run_storeCells_at X.P g (n * i.size) e news 0 cur w hg (by simpa using hfit) (fun u hu => by have := List.all_eq_true.1 h1 u hu; exact this)
      simp only [Nat.add_zero] at hst
      have hfw := hf w rfl
      have hlenx : (xs ++ news).length = (n + m) * i.size := by rw [List.length_append, hown.1, hl, Nat.add_mul]
      refine ⟨.slice (some ⟨g, 0, none⟩) (n + m) cap, w.setRow g (cur.toList.take (n * i.size) ++ news ++ cur.toList.drop (n * i.size + news.length)).toArray, ?_, ⟨hlenx, .inr ⟨g, cap, _, rfl, Nat.zero_le _, setRow_heap w g cur _ e _ hg, hroom, hcm, ?_, ?_⟩⟩, ⟨⟨rfl, rfl, rfl, by simp, fun k _ hk => setRow_other w g k _ (fun e => hk (by simp [hv, Value.ownBlock, e]))⟩, .inl (by simp [hv, Value.ownBlock]), fun _ h => by simp at h, inp_row hv hg hcs hl hroom⟩⟩
      · rw [hv]
        (simp [Builtin.append_, hrt.run_und, hru.run_und, hr.run_size, hlen, hroom, hfw, Addr.add_lit, hst])
      · simp only [List.size_toArray, List.length_append, List.length_take, List.length_drop, Array.length_toList]
        omega
      · rw [htake, ← hlenx]
        exact List.take_left
    · have hfo : (Builtin.firstCells i.size n v).run X.P w.drew = .ok xs.toArray w.drew := by
        have hs := hown.sl (F := fun _ => True) (fun _ _ => trivial)
        have := run_firstCells_src (P := X.P) (hs.src.same (w' := w.drew) rfl) (Nat.le_refl n)
        rwa [← hown.1, List.take_length] at this
      exact ⟨_, _, grown cap (by omega) _ hfo hv, hG cap, ⟨hE _ _, .inr ⟨w.heap.size, rfl, Nat.le_refl _⟩, fun _ h => by simp at h, fun g' n' c' h a' k' c'' h' hk => by rw [hv] at h; injection h with _ _ h3; injection h' with _ h5 _; omega⟩⟩
theorem toList_zeroCells (z : List Value) (n : Nat) (hz : 0 < z.length) : (Builtin.zeroCells z.toArray n).toList = (List.replicate n z).flatten := by
  apply List.ext_getElem?
  intro k
  have hlen : ((List.replicate n z).flatten).length = n * z.length := by simp
  by_cases hk : k < n * z.length
  · have hm : k % z.length < z.length := Nat.mod_lt _ hz
    have hd : k / z.length < n := by
      rw [Nat.div_lt_iff_lt_mul hz]
      exact hk
    have h2 : ((List.replicate n z).flatten)[k]? = z[k % z.length]? := by
      clear hlen
      induction n generalizing k with
      | zero => simp at hk
      | succ n ih =>
        rw [List.replicate_succ, List.flatten_cons]
        by_cases hlt : k < z.length
        · rw [List.getElem?_append_left hlt, Nat.mod_eq_of_lt hlt]
        · have hge : z.length ≤ k := Nat.le_of_not_lt hlt
          rw [List.getElem?_append_right hge]
          have hsub : k - z.length < n * z.length := by
            rw [Nat.succ_mul] at hk
            omega
          rw [ih (k - z.length) hsub (Nat.mod_lt _ hz) (by rw [Nat.div_lt_iff_lt_mul hz]; exact hsub)]
          congr 1
          conv => rhs; rw [← Nat.sub_add_cancel hge]
          simp
    rw [h2]
    simp only [Builtin.zeroCells, List.size_toArray, Array.toList_map, List.getElem?_map]
    rw [← nth_nat]
    have : (Array.range (n * z.length))[k]? = some k := by simp [hk]
    rw [this]
    simp [List.getElem?_eq_getElem hm]
  · have h1 : (Builtin.zeroCells z.toArray n).toList.length = n * z.length := by
      have := size_zeroCells z.toArray n
      simpa using this
    rw [List.getElem?_eq_none (by omega), List.getElem?_eq_none (by omega)]
theorem okCells_zeros {z : List Value} (h : okCells z = true) (n : Nat) : okCells (List.replicate n z).flatten = true := by
  simp only [okCells, List.all_eq_true, List.mem_flatten, List.mem_replicate] at h ⊢
  rintro x ⟨l, ⟨_, rfl⟩, hx⟩
  exact h x hx
/-- append(v, make([]T, m)...): the second operand's type is a number's. -/
theorem run_append_zeros {t u : TypeId} {j j' : TI} {k : IntKind} {e : TypeId} {i : TI} (hj : tlook X.tab t = some j) (hje : j.d = .slice e) (hj' : tlook X.tab u = some j') (hk : j'.d = .int k) (hi : tlook X.tab e = some i)
    (hz : i.zero.length = i.size) (hs : 0 < i.size) (ty : TypeId) {v : Value} {n m : Nat} {k' : IntKind} {xs : List Value}
    (hown : OwnSl w e i.size v n xs) (h1 : okCells i.zero = true) (h63 : n + m ≤ maxLen) (hby : (n + m) * i.bytes ≤ 140737488355328) :
    ∃ v' w', (Builtin.append_ #[t, u] ty #[v, .int k' (m : Int)]).run X.P w = .ok v' w' ∧ OwnSl w' e i.size v' (n + m) (xs ++ (List.replicate m i.zero).flatten) ∧ Appended w w' v v' := by
  obtain ⟨d, inf, z, hr⟩ := X.row hi
  obtain ⟨dt, inft, zt, hrt⟩ := X.row hj
  obtain ⟨du, infu, zu, hru⟩ := X.row hj'
  have hdt := hrt.desc
  rw [hje] at hdt
  cases dt <;> simp [descOf] at hdt
  have hdt' := hdt.symm
  subst hdt'
  have hdu := hru.desc
  rw [hk] at hdu
  cases du <;> simp [descOf] at hdu
  have hsmall : n + m ≤ 9223372036854775807 := by simp only [maxLen] at h63; omega
  have hz0 : 0 < i.zero.length := by omega
  have hzc : z.cells = i.zero.toArray := Array.ext' (by simpa using hr.cells)
  have hzt := fun q => toList_zeroCells i.zero q hz0
  have hzta : ∀ q, Builtin.zeroCells z.cells q = ((List.replicate q i.zero).flatten).toArray := fun q => by rw [hzc]; exact Array.ext' (by simpa using hzt q)
  have hl : ((List.replicate m i.zero).flatten).length = m * i.size := by simp [hz]
  have hmb : (m : Int) * (inf.bytes : Int) ≤ 140737488355328 := by
    rw [hr.bytes]
    have : m * i.bytes ≤ (n + m) * i.bytes := Nat.mul_le_mul_right _ (Nat.le_add_left _ _)
    have h2 : m * i.bytes ≤ 140737488355328 := Nat.le_trans this hby
    omega
  have hwrap : IntKind.i64.wrap (m : Int) = m := IntWalk.i64_in _ (by omega)
  have hw0 : IntKind.i64.wrap 0 = 0 := rfl
  have hneg : ¬ ((m : Int) < 0) := by omega
  have hbig : ¬ ((281474976710656 : Int) < (m : Int) * (inf.bytes : Int)) := by omega
  have hby' : ∀ old, old < n + m → ¬ (281474976710656 < Builtin.nextslicecap (n + m) old * inf.bytes) := by
    intro old ho
    have := growslice_fits (need := n + m) (old := old) (by omega) hby
    rw [hr.bytes]
    omega
  have hms : ∀ q, q * i.size = 0 → q = 0 := fun q hq => by
    rcases Nat.mul_eq_zero.1 hq with h | h
    · exact h
    · omega
  have h63' : ¬ (9223372036854775807 < ((n : Int) + (m : Int))) := by omega
  have grown : ∀ old, old < n + m → ∀ M, (Builtin.firstCells i.size n v).run X.P w.drew = .ok xs.toArray w.drew → v = .slice M n old →
      (Builtin.append_ #[t, u] ty #[v, .int k' (m : Int)]).run X.P w = .ok (.slice (some ⟨w.heap.size, 0, none⟩) (n + m) (grownCap w (n + m) old e))
        (w.drew.alloc (.cells (xs.toArray ++ (((List.replicate m i.zero).flatten).toArray ++ Builtin.zeroCells z.cells (grownCap w (n + m) old e - (n + m)))) e)) := by
    intro old ho M hfo hv
    have hn : ¬ (n + m ≤ old) := by omega
    rw [hv] at hfo ⊢
    by_cases h0 : m = 0
    · subst h0
      simp only [Nat.add_zero] at hn ho hby' ⊢
      have h63'' : ¬ (9223372036854775807 < (n : Int)) := by omega
      simp [Builtin.append_, hw0, hrt.run_und, hru.run_und, hr.run_size, asInt, asIntOf, hr.info, hn, h63'', hr.zero, hby' old ho, Question.forced, hfo, newRow, grownCap, typeInfo, zeroValue]
    · have h00 : ¬ (m * i.size = 0) := fun h => h0 (hms m h)
      simp [Builtin.append_, hrt.run_und, hru.run_und, hr.run_size, asInt, asIntOf, hwrap, hneg, hbig, hr.info, hn, h63', hr.zero, hby' old ho, Question.forced, hfo, newRow, grownCap, typeInfo, zeroValue, hzta]
      exact fun h => (h00 h).elim
  have hG : ∀ old, OwnSl (w.drew.alloc (.cells (xs.toArray ++ (((List.replicate m i.zero).flatten).toArray ++ Builtin.zeroCells z.cells (grownCap w (n + m) old e - (n + m)))) e)) e i.size
      (.slice (some ⟨w.heap.size, 0, none⟩) (n + m) (grownCap w (n + m) old e)) (n + m) (xs ++ (List.replicate m i.zero).flatten) := fun old => grow_own hr hz n m old xs _ hown.1 hl h63
  have hE : ∀ (o : Obj) (M : Nat → Prop), Ext M w (w.drew.alloc o) := fun o M => ⟨rfl, rfl, rfl, by simp, fun k hk _ => heap_alloc_old w.drew o k hk⟩
  rcases hown.2 with ⟨hv, hn0⟩ | ⟨g, cap, cur, hv, _, hg, hnc, hcm, hcs, htake⟩
  · have hx0 : xs = [] := List.eq_nil_of_length_eq_zero (by simpa [hn0] using hown.1)
    by_cases hm : m = 0
    · refine ⟨v, w, ?_, ?_, ⟨Ext.refl _ _, .inl rfl, fun h => h, fun g n' c h => by rw [hv] at h; cases h⟩⟩
      · rw [hv, hm]
        simp [Builtin.append_, hw0, hrt.run_und, hru.run_und, hr.run_size, asInt, asIntOf, hr.info, typeInfo]
      · rw [hm, List.replicate_zero, List.flatten_nil, List.append_nil, Nat.add_zero]
        exact hown
    · refine ⟨_, _, grown 0 (by omega) none ?_ (by rw [hv, hn0]), hG 0, ⟨hE _ _, .inr ⟨w.heap.size, rfl, Nat.le_refl _⟩, fun _ h => by simp at h, fun g n' c h => by rw [hv] at h; cases h⟩⟩
      rw [hv, hx0]
      simp [Builtin.firstCells]
  · by_cases hroom : n + m ≤ cap
    · have hfit : n * i.size + ((List.replicate m i.zero).flatten).length ≤ cur.size := by rw [hl, hcs, ← Nat.add_mul]; exact Nat.mul_le_mul_right _ hroom
      have hst := run_storeCells_at X.P g (n * i.size) e (List.replicate m i.zero).flatten 0 cur w hg (by simpa using hfit) (fun u hu => List.all_eq_true.1 (okCells_zeros h1 m) u hu)
      simp only [Nat.add_zero] at hst
      have hlenx : (xs ++ (List.replicate m i.zero).flatten).length = (n + m) * i.size := by rw [List.length_append, hown.1, hl, Nat.add_mul]
      refine ⟨.slice (some ⟨g, 0, none⟩) (n + m) cap, w.setRow g (cur.toList.take (n * i.size) ++ (List.replicate m i.zero).flatten ++ cur.toList.drop (n * i.size + ((List.replicate m i.zero).flatten).length)).toArray, ?_, ⟨hlenx, .inr ⟨g, cap, _, rfl, Nat.zero_le _, setRow_heap w g cur _ e _ hg, hroom, hcm, ?_, ?_⟩⟩, ⟨⟨rfl, rfl, rfl, by simp, fun k _ hk => setRow_other w g k _ (fun e => hk (by simp [hv, Value.ownBlock, e]))⟩, .inl (by simp [hv, Value.ownBlock]), fun _ h => by simp at h, inp_row hv hg hcs hl hroom⟩⟩
      · rw [hv]
        by_cases h0 : m = 0
        · subst h0
          simp only [Nat.add_zero] at hroom
          simp only [List.replicate_zero, List.flatten_nil] at hst ⊢
          simp [Builtin.append_, hw0, hrt.run_und, hru.run_und, hr.run_size, asInt, asIntOf, hr.info, typeInfo, hroom, Addr.add_lit, hst]
        · have h00 : ¬ (m * i.size = 0) := fun h => h0 (hms m h)
          simp [Builtin.append_, hrt.run_und, hru.run_und, hr.run_size, asInt, asIntOf, hwrap, hneg, hbig, hr.info, typeInfo, hroom, Addr.add_lit, hr.run_zero, hzta, hst, h00]
      · simp only [List.size_toArray, List.length_append, List.length_take, List.length_drop, Array.length_toList]
        omega
      · rw [htake, ← hlenx]
        exact List.take_left
    · have hfo : (Builtin.firstCells i.size n v).run X.P w.drew = .ok xs.toArray w.drew := by
        have hs := hown.sl (F := fun _ => True) (fun _ _ => trivial)
        have := run_firstCells_src (P := X.P) (hs.src.same (w' := w.drew) rfl) (Nat.le_refl n)
        rwa [← hown.1, List.take_length] at this
      exact ⟨_, _, grown cap (by omega) _ hfo hv, hG cap, ⟨hE _ _, .inr ⟨w.heap.size, rfl, Nat.le_refl _⟩, fun _ h => by simp at h, fun g' n' c' h a' k' c'' h' hk => by rw [hv] at h; injection h with _ _ h3; injection h' with _ h5 _; omega⟩⟩
end
end Go.Proofs.YtepamajphjgigaaGreatDoor.K
/-! The conditions of operations that read or change memory, and of calls. -/
set_option linter.unusedVariables false
set_option linter.unusedSimpArgs false
namespace Go.Proofs.YtepamajphjgigaaGreatDoor.K
open Go

def loadVC (X : Pr) (t : TypeId) (w : World) (b o : Nat) (K : Value → Prop) : Prop :=
  match tlook X.tab t with
  | some i => cond i.d.agg (∃ l : List Value, l.length = i.size ∧ Cells w b o l ∧ K (.agg l.toArray)) (∃ v, w.cell? ⟨b, o, none⟩ = some v ∧ K v)
  | none => False
def storeVC (X : Pr) (t : TypeId) (w : World) (b o : Nat) (v : Value) (K : World → Prop) : Prop :=
  match tlook X.tab t with
  | some i => ∃ T l, Own w b T l ∧ Nat.beq v.cells.toList.length i.size = true ∧ okCells v.cells.toList = true ∧ Nat.ble (o + i.size) l.length = true ∧
      ∀ w', Own w' b T (splice l o v.cells.toList) → Ext (fun k => k = b) w w' → K w'
  | none => False
/-- A new row of cells. -/
def newVC (w : World) (t : TypeId) (l : List Value) (K : Nat → World → Prop) : Prop := ∀ b w', w.heap.size ≤ b → Own w' b t l → Ext nob w w' → K b w'
/-- The cells of a slice literal whose elements are all given, in order. -/
def partsV (e : Env) (sz : Nat) : Nat → List (Nat × Operand) → Option (List Value)
  | _, [] => some []
  | k, (i, x) :: r => match ev e x, partsV e sz (k + 1) r with
    | some v, some l => cond (Nat.beq i k && Nat.beq v.cells.toList.length sz) (some (v.cells.toList ++ l)) none
    | _, _ => none
def sliceElem (tab : Tab) (t : TypeId) : Option (TypeId × TI) :=
  match tlook tab t with
  | some ⟨.slice e, _, _, _⟩ => match tlook tab e with
    | some i => some (e, i)
    | none => none
  | _ => none
def isInt : TD → Bool
  | .int _ => true
  | _ => false
def isU8 : TD → Bool
  | .int .u8 => true
  | _ => false
def appendVC (X : Pr) (tys : List TypeId) (w : World) (v x : Value) (K : Value → World → Prop) : Prop :=
  match tys with
  | [t, u] => match sliceElem X.tab t, tlook X.tab u with
    | some (e, i), some j => cond (isInt j.d)
        (match x with
          | .int _ m => ∃ n xs, 0 ≤ m ∧ OwnSl w e i.size v n xs ∧ (0 < i.size ∧ i.zero.length = i.size ∧ okCells i.zero = true) ∧ (n + m.toNat ≤ maxLen ∧ (n + m.toNat) * i.bytes ≤ 140737488355328) ∧
              ∀ v' w', OwnSl w' e i.size v' (n + m.toNat) (xs ++ (List.replicate m.toNat i.zero).flatten) → Appended w w' v v' → K v' w'
          | _ => False)
        (∃ n xs m news, OwnSl w e i.size v n xs ∧ Src w i.size x m news ∧ (i.zero.length = i.size ∧ okCells news = true) ∧ (n + m ≤ maxLen ∧ (n + m) * i.bytes ≤ 140737488355328) ∧
              ∀ v' w', OwnSl w' e i.size v' (n + m) (xs ++ news) → Appended w w' v v' → K v' w')
    | _, _ => False
  | _ => False
def optInt : Option Value → Option (Option Int)
  | none => some none
  | some (.int _ n) => some (some n)
  | _ => none
def evOpt (e : Env) : Option Operand → Option (Option Value)
  | none => some none
  | some x => match ev e x with
    | some v => some (some v)
    | none => none
/-- x[lo:hi:max] of a slice: where it begins. -/
def cutAddr (a : Option Addr) (sz l m : Nat) : Option Addr := if m = l then a else a.map fun p => ⟨p.block, p.off + l * sz, none⟩
def bytesVC (w : World) (v : Value) (K : List UInt8 → Prop) : Prop := ∃ F l, Bytes w F v l ∧ K l
/-- How many entries a map has. -/
def mapLen (w : World) : Option Nat → Option Nat
  | none => some 0
  | some b => match w.heap[b]? with
    | some (.map es _) => some es.size
    | _ => none
def effVC (X : Pr) (o : Oper) (e : Env) (w : World) (K : Value → World → Prop) : Prop :=
  match o.op with
  | .load t x => match ev e x with
    | some (.pointer (some ⟨b, o, none⟩)) => loadVC X t w b o (fun v => K v w)
    | _ => False
  | .store t x y => match ev e x, ev e y with
    | some (.pointer (some ⟨b, o, none⟩)), some v => storeVC X t w b o v (fun w' => K undef w')
    | _, _ => False
  | .alloc t => match tlook X.tab t with
    | some i => newVC w t i.zero (fun b w' => K (.pointer (some ⟨b, 0, none⟩)) w')
    | none => False
  | .box t x => match ev e x with
    | some v => newVC w t v.cells.toList (fun b w' => K (.pointer (some ⟨b, 0, none⟩)) w')
    | none => False
  | .buildSlice t n parts => match sliceElem X.tab t with
    | some (el, i) => match partsV e i.size 0 parts.toList with
      | some l => cond (Nat.beq parts.toList.length n && Nat.ble (n * i.size) 16777216 && Nat.beq i.zero.length i.size && Nat.ble 1 i.size) (newVC w el l (fun b w' => K (.slice (some ⟨b, 0, none⟩) n n) w')) False
      | none => False
    | none => False
  | .makeSlice t l c => match sliceElem X.tab t, ev e l, ev e c with
    | some (el, i), some (.int _ n), some (.int _ m) => (0 ≤ n ∧ n ≤ m ∧ m ≤ 9223372036854775807 ∧ m.toNat * i.bytes ≤ 140737488355328) ∧ (0 < i.size ∧ i.zero.length = i.size) ∧
        newVC w el (List.replicate m.toNat i.zero).flatten (fun b w' => K (.slice (some ⟨b, 0, none⟩) n.toNat m.toNat) w')
    | _, _, _ => False
  | .indexAddr t x y => match ev e x, ev e y with
    | some (.slice a n _), some (.int _ j) => match sliceElem X.tab t with
      | some (_, i) => ∃ b p, a = some ⟨b, p, none⟩ ∧ (0 ≤ j ∧ j < (n : Int)) ∧ K (.pointer (some ⟨b, p + j.toNat * i.size, none⟩)) w
      | none => False
    | _, _ => False
  | .slice t x lo hi mx => match tlook X.tab t, ev e x, evOpt e lo, evOpt e hi, evOpt e mx with
    | some ⟨.slice el, _, _, _⟩, some (.slice a n c), some lv, some hv, some mv => match tlook X.tab el, optInt lv, optInt hv, optInt mv with
      | some i, some l, some h, some m => ((m.getD c).toNat = (l.getD 0).toNat ∨ ∀ q, a = some q → q.spot = none) ∧ (m.isSome → h.isSome) ∧ (0 ≤ l.getD 0 ∧ l.getD 0 ≤ h.getD n ∧ h.getD n ≤ m.getD c ∧ m.getD c ≤ c) ∧
          ∀ r, .slice (cutAddr a i.size (l.getD 0).toNat (m.getD c).toNat) ((h.getD n).toNat - (l.getD 0).toNat) ((m.getD c).toNat - (l.getD 0).toNat) = r → K r w
      | _, _, _, _ => False
    | some ⟨.arr n el, _, _, _⟩, some (.pointer (some ⟨b, p, none⟩)), some none, some none, some none => match tlook X.tab el with
      | some _ => K (.slice (some ⟨b, p, none⟩) n n) w
      | none => False
    | _, _, _, _, _ => False
  | .convert s d x => match tlook X.tab s, tlook X.tab d, ev e x with
    | some ⟨.slice el, _, _, _⟩, some ⟨.str, _, _, _⟩, some v => match tlook X.tab el with
      | some j => cond (isU8 j.d) (bytesVC w v (fun l => K (str l) w)) False
      | none => False
    | some ⟨.str, _, _, _⟩, some ⟨.slice el, _, _, _⟩, some (.string s) => match tlook X.tab el with
      | some j => cond (isU8 j.d) (s.size ≤ maxLen ∧ ∀ b c w', w.heap.size ≤ b → b < w'.heap.size → Cells w' b 0 (s.data.toList.map bcell) → (s.size ≤ c ∧ c ≤ maxLen) → Ext nob w w' → K (.slice (some ⟨b, 0, none⟩) s.size c) w') False
      | none => False
    | some _, some ⟨.str, _, _, _⟩, some (.string s) => K (.string s) w
    | _, _, _ => False
  | .binOp .shl _ x y _ => match ev e x, ev e y with
    | some (.int k a), some (.int _ n) => 0 ≤ n ∧ K (.int k (k.wrap (a * 2 ^ (min n.toNat k.bits)))) w
    | _, _ => False
  | .binOp .shr _ x y _ => match ev e x, ev e y with
    | some (.int k a), some (.int _ n) => 0 ≤ n ∧ K (.int k (a.fdiv (2 ^ (min n.toNat k.bits)))) w
    | _, _ => False
  | .binOp .rem _ x y _ => match ev e x, ev e y with
    | some (.int k a), some (.int k' n) => k = k' ∧ n ≠ 0 ∧ K (.int k (a.tmod n)) w
    | _, _ => False
  | .call ⟨.builtin .append, args, tys⟩ => match evs e args.toList with
    | some [v, x] => appendVC X tys.toList w v x K
    | _ => False
  | .call ⟨.builtin .len, args, tys⟩ => match evs e args.toList, tys.toList with
    | some [.map m], [t] => match tlook X.tab t with
      | some ⟨.map _ _, _, _, _⟩ => ∃ n : Nat, mapLen w m = some n ∧ K (.int .i64 n) w
      | _ => False
    | _, _ => False
  | .call ⟨.builtin .copy, args, tys⟩ => match evs e args.toList, tys.toList with
    | some [.slice (some ⟨b, p, none⟩) n _, x], t :: _ => match sliceElem X.tab t with
      | some (_, i) => ∃ T l m xs, Own w b T l ∧ Src w i.size x m xs ∧ okCells xs = true ∧ p + n * i.size ≤ l.length ∧
          ∀ w', Own w' b T (splice l p (xs.take (Nat.min m n * i.size))) → Ext (fun k => k = b) w w' → K (.int .i64 (Nat.min m n : Nat)) w'
      | none => False
    | _, _ => False
  | .call ⟨.value f, args, _⟩ => match ev e f, evs e args.toList with
    | some (.func (.func g) first cap), some l => Does X.P g (first.toList ++ l ++ cap.toList).toArray w K
    | _, _ => False
  | _ => False
/-- Operations of which the semantics itself is asked. -/
def semOp : Op → Bool
  | .index .. | .makeMap .. | .mapUpdate .. | .insert .. | .lookup .. | .range .. | .next .. | .entry .. | .mapEntry .. | .entryStore .. | .typeAssert .. => true
  | .call ⟨.invoke .., _, _⟩ => true
  | _ => false
def semVC (X : Pr) (o : Oper) (e : Env) (w : World) (K : Value → World → Prop) : Prop :=
  (∃ v w', (∀ ρ : Operand → Value, (∀ x v, ev e x = some v → ρ x = v) → (execOp ρ o).run X.P w = .ok (.value v) w' ∨ ((execOp ρ o).run X.P w = .ok .skip w' ∧ v = undef)) ∧ K v w') ∨
    ∃ g args, (∀ ρ : Operand → Value, (∀ x v, ev e x = some v → ρ x = v) → (execOp ρ o).run X.P w = .ok (.enter g args) w) ∧ Calls X.P g args w (retR K)
section
variable {X : Pr} {N : Nat} {e : Env} {a : Act} {w : World} {o : Oper} {Q : Exit → Act → World → Prop} {next : Act → World → Prop}
theorem wp_value {v : Value} {w' : World} (h : (execOp a.eval o).run X.P w = .ok (.value v) w') (k : next (a.put o.dst v) w') : o.wp X.P a w next Q := by
  unfold Oper.wp
  rw [h]
  exact k
theorem wp_skip' {w' : World} (h : (execOp a.eval o).run X.P w = .ok .skip w') (k : next (a.put o.dst undef) w') : o.wp X.P a w next Q := by
  unfold Oper.wp
  rw [h]
  exact k
theorem semVC_sound {K : Value → World → Prop} (ha : Agree N e a) (h : semVC X o e w K) (hk : ∀ v w', K v w' → next (a.put o.dst v) w') : o.wp X.P a w next Q := by
  rcases h with ⟨v, w', hr, hkv⟩ | ⟨g, args, hr, hc⟩
  · rcases hr a.eval (fun x v hx => ha.ev hx) with hr | ⟨hr, hv⟩
    · exact wp_value hr (hk _ _ hkv)
    · rw [hv] at hkv
      exact wp_skip' hr (hk _ _ hkv)
  · unfold Oper.wp
    rw [hr a.eval (fun x v hx => ha.ev hx)]
    exact hc.mono fun e' w' he => by
      cases e' with
      | returned v => exact hk v w' he
      | panicked c => exact he.elim
      | outgrown => exact he.elim
theorem run_loadVC {t : TypeId} {b p : Nat} {K : Value → Prop} (h : loadVC X t w b p K) : ∃ v, (loadVar t ⟨b, p, none⟩).run X.P w = .ok v w ∧ K v := by
  unfold loadVC at h
  split at h
  · rename_i i hi
    obtain ⟨d, inf, z, hr⟩ := X.row hi
    cases hq : i.d.agg with
    | true =>
      rw [hq, cond_true] at h
      obtain ⟨l, hl, hc, hk⟩ := h
      refine ⟨_, ?_, hk⟩
      have := run_loadCells_list (P := X.P) w ⟨b, p, none⟩ l (fun j v hv => by rw [add_lit]; exact hc j v hv)
      rw [hl] at this
      simp [loadVar, hr.run_agg, hq, hr.run_size, this]
    | false =>
      rw [hq, cond_false] at h
      obtain ⟨v, hc, hk⟩ := h
      exact ⟨v, by simp [loadVar, hr.run_agg, hq, hc], hk⟩
  · exact h.elim
theorem ext_setRow (w : World) (b : Nat) (cs : Array Value) : Ext (fun k => k = b) w (w.setRow b cs) := ⟨rfl, rfl, rfl, by simp, fun k _ hk => setRow_other w b k cs hk⟩
theorem own_setRow {b : Nat} {T : TypeId} {l m : List Value} (h : Own w b T l) : Own (w.setRow b m.toArray) b T m := setRow_heap w b l.toArray m.toArray T (0, 0) h
theorem run_storeCells_own {b p : Nat} {T : TypeId} {l m : List Value} (h : Own w b T l) (hp : p + m.length ≤ l.length) (h1 : okCells m = true) :
    (storeCells ⟨b, p, none⟩ m).run X.P w = .ok () (w.setRow b (splice l p m).toArray) := by
  have := run_storeCells_at X.P b p T m 0 l.toArray w h (by simpa using hp) (fun v hv => List.all_eq_true.1 h1 v hv)
  simpa [splice] using this
theorem run_storeVC {t : TypeId} {b p : Nat} {v : Value} {K : World → Prop} (h : storeVC X t w b p v K) : ∃ w', (storeVar t ⟨b, p, none⟩ v).run X.P w = .ok () w' ∧ K w' := by
  unfold storeVC at h
  split at h
  · rename_i i hi
    obtain ⟨T, l, ho, h1, h2, h3, hk⟩ := h
    obtain ⟨d, inf, z, hr⟩ := X.row hi
    have h1 := Nat.eq_of_beq_eq_true h1
    have h3 := Nat.le_of_ble_eq_true h3
    have hs : v.cells.size = i.size := by simpa using h1
    refine ⟨_, ?_, hk _ (own_setRow ho) (ext_setRow w b _)⟩
    have := run_storeCells_own (X := X) ho (p := p) (m := v.cells.toList) (by rw [h1]; exact h3) h2
    simp [storeVar, hr.run_size, hs, this]
  · exact h.elim
theorem newVC_run {t : TypeId} {l : List Value} {K : Nat → World → Prop} (h : newVC w t l K) (cells : Array Value) (hc : cells.toList = l) : ∃ w', (newRow t cells).run X.P w = .ok ⟨w.heap.size, 0, none⟩ w' ∧ K w.heap.size w' := by
  refine ⟨w.alloc (.cells cells t), by simp [newRow], h _ _ (Nat.le_refl _) ?_ (Ext.alloc w _)⟩
  have : cells = l.toArray := Array.ext' (by simpa using hc)
  subst this
  exact heap_alloc_new w _
theorem sliceElem_of {t el : TypeId} {i : TI} (h : sliceElem X.tab t = some (el, i)) : ∃ j inft zt d inf z, tlook X.tab t = some j ∧ j.d = .slice el ∧ TRow X.P t j (.slice el) inft zt ∧ tlook X.tab el = some i ∧ TRow X.P el i d inf z := by
  unfold sliceElem at h
  split at h
  · rename_i e' sz by0 z0 ht
    split at h
    · rename_i j hj
      simp only [Option.some.injEq, Prod.mk.injEq] at h
      obtain ⟨rfl, rfl⟩ := h
      obtain ⟨dt, inft, zt, hrt⟩ := X.row ht
      obtain ⟨d, inf, z, hr⟩ := X.row hj
      have hd := hrt.desc
      cases dt <;> simp [descOf] at hd
      subst hd
      exact ⟨_, inft, zt, d, inf, z, ht, rfl, hrt, hj, hr⟩
    · simp at h
  · simp at h
theorem partsV_fill (ha : Agree N e a) {sz : Nat} (pre : List Value) : ∀ (parts : List (Nat × Operand)) (k : Nat) (l : List Value) (rest : List Value), partsV e sz k parts = some l → rest.length = parts.length * sz → pre.length = k * sz →
    Instr.fill (fun i => some (i * sz, sz)) (pre ++ rest).toArray (parts.map fun (i, x) => (i, a.eval x)) = some (pre ++ l).toArray
  | [], k, l, rest, h, hr, hp => by
    simp only [partsV, Option.some.injEq] at h
    have : rest = [] := List.eq_nil_of_length_eq_zero (by simpa using hr)
    simp [Instr.fill, this, ← h]
  | (i, x) :: r, k, l, rest, h, hr, hp => by
    simp only [partsV] at h
    split at h
    · rename_i v l' hv hl'
      cases hc : (Nat.beq i k && Nat.beq v.cells.toList.length sz) with
      | false => rw [hc] at h; simp at h
      | true =>
        rw [hc, cond_true, Option.some.injEq] at h
        rw [Bool.and_eq_true] at hc
        have h1 := Nat.eq_of_beq_eq_true hc.1
        have h2 := Nat.eq_of_beq_eq_true hc.2
        subst h1
        subst h
        have hlen : rest.length = sz + r.length * sz := by rw [hr, List.length_cons, Nat.add_mul, Nat.one_mul, Nat.add_comm]
        rw [List.map_cons]
        show Instr.fill _ _ ((i, a.eval x) :: _) = _
        rw [ha.ev hv, fill_step _ _ i v _ (i * sz) sz rfl h2 (by simp [hp]; omega)]
        have hfs : ∀ (vs : List Value) (pre rest : List Value) (q : Nat), pre.length = q → vs.length ≤ rest.length → foldSet (pre ++ rest) q vs = pre ++ vs ++ rest.drop vs.length := by
          intro vs
          induction vs with
          | nil => intro pre rest q hq hle; simp [foldSet]
          | cons u vs ih =>
            intro pre rest q hq hle
            cases rest with
            | nil => simp at hle
            | cons r0 rest =>
              simp only [foldSet]
              have : (pre ++ r0 :: rest).set q u = (pre ++ [u]) ++ rest := by
                rw [← hq]
                simp
              rw [this, ih (pre ++ [u]) rest (q + 1) (by simp [hq]) (by simpa using hle)]
              simp
        have := hfs v.cells.toList pre rest (i * sz) hp (by omega)
        simp only at this ⊢
        rw [this]
        have hrec := partsV_fill ha (pre ++ v.cells.toList) r (i + 1) l' (rest.drop v.cells.toList.length) hl' (by rw [List.length_drop]; omega) (by rw [List.length_append, hp, h2, Nat.add_mul, Nat.one_mul])
        rw [List.append_assoc] at hrec ⊢
        simpa using hrec
    · simp at h
theorem run_evOpt (ha : Agree N e a) {x : Option Operand} {v : Option Value} (h : evOpt e x = some v) : x.map a.eval = v := by
  cases x with
  | none => simpa [evOpt] using h
  | some x =>
    simp only [evOpt] at h
    split at h
    · rename_i u hu
      simp only [Option.some.injEq] at h
      simp [ha.ev hu, h]
    · simp at h
theorem optInt_of {v : Option Value} {r : Option Int} (h : optInt v = some r) : (v = none ∧ r = none) ∨ ∃ k n, v = some (.int k n) ∧ r = some n := by
  unfold optInt at h
  split at h
  · exact .inl ⟨rfl, by simpa using h.symm⟩
  · rename_i k n
    exact .inr ⟨k, n, rfl, by simpa using h.symm⟩
  · simp at h
theorem run_sliceBound {k : IntKind} {n : Int} {y : Nat} (h0 : 0 ≤ n) (h1 : n ≤ y) (code : BoundsCode) : (Instr.sliceBound (.int k n) y code).run X.P w = .ok n.toNat w := by
  simp [Instr.sliceBound, asIntOf, h0, h1]
theorem run_sliceBounds {lo hi mx : Option Value} {l h m : Option Int} {n c : Nat} (hl : optInt lo = some l) (hh : optInt hi = some h) (hm : optInt mx = some m) (hmh : m.isSome → h.isSome)
    (hb : 0 ≤ l.getD 0 ∧ l.getD 0 ≤ h.getD n ∧ h.getD n ≤ m.getD c ∧ m.getD c ≤ c) :
    (Instr.sliceBounds true n c lo hi mx).run X.P w = .ok ((l.getD 0).toNat, (h.getD n).toNat, (m.getD c).toNat) w := by
  obtain ⟨b0, b1, b2, b3⟩ := hb
  have q1 : ∀ (k : IntKind) (n : Int) (y : Nat) (code : BoundsCode), 0 ≤ n → n ≤ (y : Int) → (Instr.sliceBound (.int k n) y code).run X.P w = .ok n.toNat w := fun k n y code h0 h1 => run_sliceBound h0 h1 code
  rcases optInt_of hl with ⟨rfl, rfl⟩ | ⟨k1, l, rfl, rfl⟩ <;> rcases optInt_of hh with ⟨rfl, rfl⟩ | ⟨k2, h, rfl, rfl⟩ <;> rcases optInt_of hm with ⟨rfl, rfl⟩ | ⟨k3, m, rfl, rfl⟩ <;>
    simp only [Option.getD_some, Option.getD_none, Option.isSome_some, Option.isSome_none, Bool.false_eq_true, imp_false, not_true_eq_false, Int.toNat_natCast] at b0 b1 b2 b3 hmh ⊢ <;>
    simp only [Instr.sliceBounds, Sem.run_bind, Sem.run_pure, Result.andThen_ok, if_true]
  · rfl
  · rw [q1 k2 h c _ (by omega) (by omega)]; rfl
  · rw [q1 k3 m c _ (by omega) (by omega)]
    simp only [Result.andThen_ok]
    rw [q1 k2 h _ _ (by omega) (by omega)]; rfl
  · rw [q1 k1 l n _ (by omega) (by omega)]; rfl
  · rw [q1 k2 h c _ (by omega) (by omega)]
    simp only [Result.andThen_ok]
    rw [q1 k1 l _ _ (by omega) (by omega)]; rfl
  · rw [q1 k3 m c _ (by omega) (by omega)]
    simp only [Result.andThen_ok]
    rw [q1 k2 h _ _ (by omega) (by omega)]
    simp only [Result.andThen_ok]
    rw [q1 k1 l _ _ (by omega) (by omega)]; rfl
theorem isU8_of {d : TD} (h : isU8 d = true) : d = .int .u8 := by
  unfold isU8 at h
  split at h
  · rfl
  · simp at h
theorem isInt_of {d : TD} (h : isInt d = true) : ∃ k, d = .int k := by
  unfold isInt at h
  split at h
  · exact ⟨_, rfl⟩
  · simp at h
theorem effVC_sound {K : Value → World → Prop} (ha : Agree N e a) (h : effVC X o e w K) (hk : ∀ v w', K v w' → next (a.put o.dst v) w') : o.wp X.P a w next Q := by
  have hpi : ∀ (d : TypeDesc) (i : TI), descOf d = some i.d → ∀ k, i.d = .int k → d = .int k := by
    intro d i hd k hi
    rw [hi] at hd
    cases d <;> simp [descOf] at hd
    rw [hd]
  unfold effVC at h
  cases ho : o.op <;> rw [ho] at h <;> (try (simp only at h; done)) <;> (try dsimp only at h)
  case load t x =>
    split at h
    · rename_i b p hx
      obtain ⟨v, hr, hkv⟩ := run_loadVC h
      refine wp_value (v := v) (w' := w) ?_ (hk _ _ hkv)
      simp [execOp, ho, ha.ev hx, Instr.loadAt, Instr.sureAddr, hr]
    · exact h.elim
  case store t x y =>
    split at h
    · rename_i b p v hx hy
      obtain ⟨w', hr, hkv⟩ := run_storeVC h
      refine wp_skip' (w' := w') ?_ (hk _ _ hkv)
      simp [execOp, ho, ha.ev hx, ha.ev hy, Instr.storeAt, Instr.sureAddr, hr]
    · exact h.elim
  case alloc t =>
    split at h
    · rename_i i hi
      obtain ⟨d, inf, z, hr⟩ := X.row hi
      obtain ⟨w', hrun, hkv⟩ := newVC_run (X := X) h z.cells hr.cells
      refine wp_value (w' := w') ?_ (hk _ _ hkv)
      simp [execOp, ho, Instr.alloc, hr.run_zero, newVar, hrun]
    · exact h.elim
  case box t x =>
    split at h
    · rename_i v hx
      obtain ⟨w', hrun, hkv⟩ := newVC_run (X := X) h v.cells rfl
      refine wp_value (w' := w') ?_ (hk _ _ hkv)
      simp [execOp, ho, ha.ev hx, Instr.box, newVar, hrun]
    · exact h.elim
  case buildSlice t n parts =>
    split at h
    · rename_i el i hs
      split at h
      · rename_i l hl
        cases hc : (Nat.beq parts.toList.length n && Nat.ble (n * i.size) 16777216 && Nat.beq i.zero.length i.size && Nat.ble 1 i.size) with
        | false => rw [hc] at h; exact h.elim
        | true =>
          rw [hc, cond_true] at h
          simp only [Bool.and_eq_true] at hc
          have c1 := Nat.eq_of_beq_eq_true hc.1.1.1
          have c2 := Nat.le_of_ble_eq_true hc.1.1.2
          have c3 := Nat.eq_of_beq_eq_true hc.1.2
          have c4 := Nat.le_of_ble_eq_true hc.2
          obtain ⟨j, inft, zt, d, inf, z, hj, hje, hrt, hi, hr⟩ := sliceElem_of hs
          have hzs : z.cells.size = i.size := by rw [← c3, ← hr.cells]; simp
          obtain ⟨w', hrun, hkv⟩ := newVC_run (X := X) h l.toArray (by simp)
          have hfill := partsV_fill (sz := i.size) ha [] parts.toList 0 l
          refine wp_value (w' := w') ?_ (hk _ _ hkv)
          have hbig : ¬ (16777216 < n * i.size) := by omega
          by_cases hn : n = 0
          · subst hn
            have hp0 : parts.toList = [] := List.eq_nil_of_length_eq_zero c1
            have hl0 : l = [] := by rw [hp0] at hl; simpa [partsV] using hl.symm
            have hpa : parts = #[] := Array.ext' (by simpa using hp0)
            subst hl0
            subst hpa
            simp [execOp, ho, Instr.buildSlice, hrt.run_und, hr.run_size, Instr.fill]
            rw [show Array.map (fun _ : Nat => (default : Value)) (Array.range 0) = #[] from by simp, hrun]
            rfl
          · have hns : ¬ (n * i.size = 0) := by
              intro h0
              rcases Nat.mul_eq_zero.1 h0 with h | h <;> omega
            have hns' : ¬ (n = 0 ∨ i.size = 0) := by omega
            have hf := hfill ((Array.range (n * i.size)).map (z.cells[· % z.cells.size]!)).toList hl (by simp [c1]) (by simp)
            simp only [List.nil_append, Array.toArray_toList] at hf
            simp only [execOp, ho, Instr.buildSlice, Sem.run_bind, hrt.run_und, Result.andThen_ok, hr.run_size, Nat.reducePow, gt_iff_lt, if_neg hbig, if_neg hns, hr.run_zero, Sem.run_pure, Array.toList_map, hf, hrun]
      · exact h.elim
    · exact h.elim
  case makeSlice t l c =>
    split at h
    · rename_i el i k n k' m hs hl hc
      obtain ⟨⟨h0, h1, h2, h3⟩, ⟨h4, h5⟩, h⟩ := h
      obtain ⟨j, inft, zt, d, inf, z, hj, hje, hrt, hi, hr⟩ := sliceElem_of hs
      have hzs : z.cells.size = i.size := by rw [← h5, ← hr.cells]; simp
      have hz0 : 0 < i.zero.length := by omega
      have hzc : z.cells = i.zero.toArray := Array.ext' (by simpa using hr.cells)
      have hzl : (Builtin.zeroCells z.cells m.toNat).toList = (List.replicate m.toNat i.zero).flatten := by rw [hzc]; exact toList_zeroCells i.zero m.toNat hz0
      obtain ⟨w', hrun, hkv⟩ := newVC_run (X := X) h (Builtin.zeroCells z.cells m.toNat) hzl
      refine wp_value (w' := w') ?_ (hk _ _ hkv)
      have hw1 : IntKind.i64.wrap n = n := IntWalk.i64_in _ (by omega)
      have hw2 : IntKind.i64.wrap m = m := IntWalk.i64_in _ (by omega)
      have hmb : (inf.bytes : Int) * m ≤ 140737488355328 := by
        rw [hr.bytes]
        obtain ⟨q, hq⟩ := Int.eq_ofNat_of_zero_le (show 0 ≤ m by omega)
        rw [hq, Int.toNat_natCast] at h3
        rw [hq, Int.mul_comm]
        omega
      have q1 : ¬ (m < 0) := by omega
      have q2 : ¬ (281474976710656 < (inf.bytes : Int) * m) := by omega
      have q3 : ¬ (n < 0) := by omega
      have q4 : ¬ (m < n) := by omega
      by_cases hm : m.toNat = 0
      · have hm0 : m = 0 := by omega
        have hn0 : n = 0 := by omega
        subst hm0
        subst hn0
        have he : Builtin.zeroCells z.cells (0 : Int).toNat = #[] := by simp [Builtin.zeroCells]
        rw [he] at hrun
        simp [execOp, ho, ha.ev hl, ha.ev hc, Instr.makeSlice, hrt.run_und, asInt, asIntOf, hr.run_info, hr.run_size, hw1]
        rw [show Array.map (fun _ : Nat => (default : Value)) (Array.range 0) = #[] from by simp, hrun]
        rfl
      · have hne : ¬ (m.toNat * i.size = 0) := by
          intro h0
          rcases Nat.mul_eq_zero.1 h0 with h | h <;> omega
        have hne' : ¬ (m.toNat = 0 ∨ i.size = 0) := by omega
        have hzz : (Array.range (m.toNat * i.size)).map (fun x => z.cells[x % z.cells.size]!) = Builtin.zeroCells z.cells m.toNat := by simp [Builtin.zeroCells, hzs]
        simp [execOp, ho, ha.ev hl, ha.ev hc, Instr.makeSlice, hrt.run_und, asInt, asIntOf, hr.run_info, hr.run_size, hr.run_zero, hw1, hw2, q1, q2, q3, q4, hne, hzz, hrun]
    · exact h.elim
  case indexAddr t x y =>
    split at h
    · rename_i ad n c k j hx hy
      split at h
      · rename_i el i hs
        obtain ⟨b, p, rfl, ⟨h0, h1⟩, hkv⟩ := h
        obtain ⟨j', inft, zt, d, inf, z, hj, hje, hrt, hi, hr⟩ := sliceElem_of hs
        refine wp_value (w' := w) ?_ (hk _ _ hkv)
        simp [execOp, ho, ha.ev hx, ha.ev hy, Instr.indexAt, asIntOf, hrt.run_und, h0, h1, hr.run_size, add_lit]
      · exact h.elim
    · exact h.elim
  case slice t x lo hi mx =>
    split at h
    · rename_i el sz by0 z0 ad n c lv hv mv ht hx hlo hhi hmx
      split at h
      · rename_i i l hh m hel hl hh' hm
        obtain ⟨hsp, hmh, hb, hkv⟩ := h
        obtain ⟨dt, inft, zt, hrt⟩ := X.row ht
        obtain ⟨d, inf, z, hr⟩ := X.row hel
        have hd := hrt.desc
        cases dt <;> simp [descOf] at hd
        subst hd
        refine wp_value (w' := w) ?_ (hk _ _ (hkv _ rfl))
        have hbs := run_sliceBounds (X := X) (w := w) hl hh' hm hmh hb
        have hcut : (if (m.getD c).toNat = (l.getD 0).toNat then ad else ad.map (·.add ((l.getD 0).toNat * i.size))) = cutAddr ad i.size (l.getD 0).toNat (m.getD c).toNat := by
          unfold cutAddr
          rcases hsp with hsp | hsp
          · rw [if_pos hsp, if_pos hsp]
          cases ad with
          | none => simp
          | some q =>
            have := hsp q rfl
            obtain ⟨qb, qo, qs⟩ := q
            simp only at this
            subst this
            simp [add_lit]
        simp [execOp, ho, ha.ev hx, run_evOpt ha hlo, run_evOpt ha hhi, run_evOpt ha hmx, Instr.sliceAt, hrt.run_und, Instr.slice, hbs, hr.run_size, hcut]
      · exact h.elim
    · rename_i n el sz by0 z0 b p ht hx hlo hhi hmx
      split at h
      · rename_i i hel
        obtain ⟨dt, inft, zt, hrt⟩ := X.row ht
        obtain ⟨d, inf, z, hr⟩ := X.row hel
        have hd := hrt.desc
        cases dt <;> simp [descOf] at hd
        obtain ⟨rfl, rfl⟩ := hd
        refine wp_value (w' := w) ?_ (hk _ _ h)
        have e1 := run_evOpt ha hlo
        have e2 := run_evOpt ha hhi
        have e3 := run_evOpt ha hmx
        simp [execOp, ho, ha.ev hx, e1, e2, e3, Instr.sliceAt, hrt.run_und, Instr.sureAddr, Instr.sliceBounds, hr.run_size, add_lit]
      · exact h.elim
    · exact h.elim
  case convert s d x =>
    split at h
    · rename_i el sz by0 z0 sz' by0' z0' v hs hd hx
      split at h
      · rename_i j hel
        cases hc : isU8 j.d with
        | false => rw [hc] at h; exact h.elim
        | true =>
          rw [hc, cond_true] at h
          obtain ⟨F, l, hb, hkv⟩ := h
          have hu := isU8_of hc
          obtain ⟨ds, infs, zs, hrs⟩ := X.row hs
          obtain ⟨dd, infd, zd, hrd⟩ := X.row hd
          obtain ⟨de, infe, ze, hre⟩ := X.row hel
          have e1 := hrs.desc
          have e2 := hrd.desc
          have e3 := hpi _ _ hre.desc _ hu
          cases ds <;> simp [descOf] at e1
          cases dd <;> simp [descOf] at e2
          subst e1
          subst e3
          refine wp_value (w' := w) ?_ (hk _ _ hkv)
          have : (convert s d v).run X.P w = .ok (str l) w := by
            obtain ⟨ad, c, rfl, _, hl, ⟨h0, _⟩ | ⟨b, p, rfl, _, _, hxx⟩⟩ := hb
            · have : l = [] := List.eq_nil_of_length_eq_zero h0
              subst this
              cases ad with
              | none =>
                rw [List.length_nil, run_convert_bytes_string w s d _ none 0 c hrs.und hre.und hrd.und]
                rfl
              | some q => exact run_convert_bytes_back w s d _ q c [] hrs.und hre.und hrd.und (fun q hq => by simp at hq)
            · refine run_convert_bytes_back w s d _ ⟨b, p, none⟩ c l hrs.und hre.und hrd.und (fun q hq => ?_)
              rw [add_lit]
              exact hxx q _ (by simp [hq])
          simp [execOp, ho, ha.ev hx, this]
      · exact h.elim
    · rename_i sz by0 z0 el sz' by0' z0' s' hs hd hx
      split at h
      · rename_i j hel
        cases hc : isU8 j.d with
        | false => rw [hc] at h; exact h.elim
        | true =>
          rw [hc, cond_true] at h
          have hu := isU8_of hc
          obtain ⟨ds, infs, zs, hrs⟩ := X.row hs
          obtain ⟨dd, infd, zd, hrd⟩ := X.row hd
          obtain ⟨de, infe, ze, hre⟩ := X.row hel
          have e1 := hrs.desc
          have e2 := hrd.desc
          have e3 := hpi _ _ hre.desc _ hu
          cases ds <;> simp [descOf] at e1
          cases dd <;> simp [descOf] at e2
          subst e2
          subst e3
          rename_i el'
          have hrun := Lib.run_convert_string_bytes w s d el' s' hrs.und hrd.und hre.und
          refine wp_value (w' := Lib.bytesWorld w el' s') ?_ (hk _ _ (h.2 _ (grownCap w s'.size 0 el') _ (Nat.le_refl _) (by rw [Lib.bytesWorld_size]; omega) ?_ ⟨grownCap_ge w _ _ _, grownCap_le_maxLen w _ _ _ h.1⟩ ⟨?_, ?_, ?_, ?_, ?_⟩))
          · simp [execOp, ho, ha.ev hx, hrun]
          · intro q u hq
            have hq' : q < s'.size := by
              have := (List.getElem?_eq_some_iff.1 hq).1
              simpa using this
            rw [Nat.zero_add, Lib.bytesWorld_cell w el' s' q hq', ← hq]
            have hq2 : q < s'.data.toList.length := by simpa using hq'
            simp [List.getD, List.getElem?_eq_getElem hq2]
          · simp [Lib.bytesWorld, World.freeze] <;> rfl
          · simp [Lib.bytesWorld, World.freeze] <;> rfl
          · simp [Lib.bytesWorld, World.freeze] <;> rfl
          · rw [Lib.bytesWorld_size]; omega
          · exact fun k hk _ => Lib.bytesWorld_at_old w el' s' k hk
      · exact h.elim
    · rename_i i sz by0 z0 s' _ hs hd hx
      obtain ⟨ds, infs, zs, hrs⟩ := X.row hs
      obtain ⟨dd, infd, zd, hrd⟩ := X.row hd
      have e2 := hrd.desc
      cases dd <;> simp [descOf] at e2
      refine wp_value (w' := w) ?_ (hk _ _ h)
      simp [execOp, ho, ha.ev hx, convert, hrs.run_und, hrd.run_und]
    · exact h.elim
  case binOp op t x y yt =>
    cases op <;> (try (simp only at h; done)) <;> (try dsimp only at h)
    case shl =>
      split at h
      · rename_i k i k' n hx hy
        refine wp_value (w' := w) ?_ (hk _ _ h.2)
        have : ¬ (n < 0) := by omega
        simp [execOp, ho, ha.ev hx, ha.ev hy, eqGuard, binOp, Op.shift, this]
      · exact h.elim
    case shr =>
      split at h
      · rename_i k i k' n hx hy
        refine wp_value (w' := w) ?_ (hk _ _ h.2)
        have : ¬ (n < 0) := by omega
        simp [execOp, ho, ha.ev hx, ha.ev hy, eqGuard, binOp, Op.shift, this]
      · exact h.elim
    case rem =>
      split at h
      · rename_i k i k' n hx hy
        obtain ⟨rfl, hn, h⟩ := h
        refine wp_value (w' := w) ?_ (hk _ _ h)
        simp [execOp, ho, ha.ev hx, ha.ev hy, eqGuard, binOp, Op.intDiv, hn]
      · exact h.elim
  case call c =>
    obtain ⟨callee, args, tys⟩ := c
    cases callee <;> (try (simp only at h; done)) <;> (try dsimp only at h)
    case value f =>
      split at h
      · rename_i g first cap l hf hl
        have hl' := ha.evs _ _ hl
        have e1 : args.map a.eval = l.toArray := Array.ext' (by simpa using hl')
        have e2 : first ++ l.toArray ++ cap = (first.toList ++ l ++ cap.toList).toArray := Array.ext' (by simp)
        rcases h.run with ⟨hok, hcalls⟩ | ⟨v, w', hrv, hkv⟩
        · unfold Oper.wp
          have hrun : (execOp a.eval o).run X.P w = .ok (.enter g (first.toList ++ l ++ cap.toList).toArray) w := by
            rw [← e2]
            simp [execOp, ho, resolve, ha.ev hf, e1, Deferred.ofValue, invoke, hok _ _]
          rw [hrun]
          exact hcalls.mono fun e' w' he => by
            cases e' with
            | returned v => exact hk v w' he
            | panicked c => exact he.elim
            | outgrown => exact he.elim
        · refine wp_value (v := v) (w' := w') ?_ (hk _ _ hkv)
          rw [← e2, Array.append_assoc] at hrv
          simp [execOp, ho, resolve, ha.ev hf, e1, Deferred.ofValue, invoke, hrv]
      · exact h.elim
    case builtin b =>
      cases b <;> (try (simp only at h; done)) <;> (try dsimp only at h)
      case append =>
        split at h
        · rename_i v x hl
          have hl' := ha.evs _ _ hl
          have e1 : args.map a.eval = #[v, x] := Array.ext' (by simpa using hl')
          have hfin : ∀ v' w', (Builtin.append_ tys o.type #[v, x]).run X.P w = .ok v' w' → K v' w' → o.wp X.P a w next Q := by
            intro v' w' hr hkv
            refine wp_value (w' := w') ?_ (hk _ _ hkv)
            simp [execOp, ho, resolve, e1, invoke, builtin, hr]
          have ht : tys = tys.toList.toArray := by simp
          unfold appendVC at h
          split at h
          · rename_i t u htu
            split at h
            · rename_i el i j hs hj
              obtain ⟨jt, inft, zt, d, inf, z, hjt, hje, hrt, hi, hr⟩ := sliceElem_of hs
              cases hc : isInt j.d with
              | true =>
                rw [hc, cond_true] at h
                obtain ⟨k, hk'⟩ := isInt_of hc
                split at h
                · rename_i k' m
                  obtain ⟨n, xs, h0, hown, ⟨h1, h2, h3⟩, ⟨h4, h5⟩, hkv⟩ := h
                  obtain ⟨v', w', hrun, ho', hap⟩ := run_append_zeros (X := X) (w := w) (k' := k') hjt hje hj hk' hi h2 h1 o.type hown h3 h4 h5
                  rw [Int.toNat_of_nonneg h0] at hrun
                  refine hfin v' w' ?_ (hkv v' w' ho' hap)
                  rw [ht, htu]
                  exact hrun
                · exact h.elim
              | false =>
                rw [hc, cond_false] at h
                obtain ⟨n, xs, m, news, hown, hsrc, ⟨h1, h2⟩, ⟨h4, h5⟩, hkv⟩ := h
                have hap : appTypes X tys.toList el i := ⟨t, u, jt, j, htu, hjt, hje, hj, fun k hk' => by rw [hk'] at hc; simp [isInt] at hc, hi⟩
                obtain ⟨v', w', hrun, ho', hap'⟩ := run_append_src (X := X) (w := w) hap h1 o.type hown hsrc h2 h4 h5
                refine hfin v' w' ?_ (hkv v' w' ho' hap')
                rw [ht]
                exact hrun
            · exact h.elim
          · exact h.elim
        · exact h.elim
      case len =>
        split at h
        · rename_i m t hl htys
          split at h
          · rename_i k el sz by0 z0 ht
            obtain ⟨n, hn, hkv⟩ := h
            obtain ⟨d, inf, z, hr⟩ := X.row ht
            have hd := hr.desc
            cases d <;> simp [descOf] at hd
            have hl' := ha.evs _ _ hl
            have e1 : args.map a.eval = #[.map m] := Array.ext' (by simpa using hl')
            have ht0 : tys[0]? = some t := by rw [nth_nat, htys]; rfl
            refine wp_value (w' := w) ?_ (hk _ _ hkv)
            cases m with
            | none =>
              simp only [mapLen, Option.some.injEq] at hn
              subst hn
              simp [execOp, ho, resolve, e1, invoke, builtin, Builtin.len_, ht0, hr.run_und, goInt]
            | some b =>
              simp only [mapLen] at hn
              split at hn
              · rename_i es clock hb
                simp only [Option.some.injEq] at hn
                subst hn
                simp [execOp, ho, resolve, e1, invoke, builtin, Builtin.len_, ht0, hr.run_und, goInt, getObj, Sem.run, hb, Result.andThen]
              · simp at hn
          · exact h.elim
        · exact h.elim
      case copy =>
        split at h
        · rename_i b p n c x t r hl htys
          split at h
          · rename_i el i hs
            obtain ⟨T, l, m, xs, hown, hsrc, hok, hp, hkv⟩ := h
            obtain ⟨jt, inft, zt, d, inf, z, hjt, hje, hrt, hi, hr⟩ := sliceElem_of hs
            have hl' := ha.evs _ _ hl
            have e1 : args.map a.eval = #[.slice (some ⟨b, p, none⟩) n c, x] := Array.ext' (by simpa using hl')
            have hxl := hsrc.length
            have hfc := run_firstCells_src (P := X.P) hsrc (m := Nat.min m n) (Nat.min_le_left m n)
            have hlen : (xs.take (Nat.min m n * i.size)).length = Nat.min m n * i.size := by rw [List.length_take, hxl]; exact Nat.min_eq_left (Nat.mul_le_mul_right _ (Nat.min_le_left m n))
            have hst := run_storeCells_own (X := X) hown (p := p) (m := xs.take (Nat.min m n * i.size)) (by
              rw [hlen]
              have : Nat.min m n * i.size ≤ n * i.size := Nat.mul_le_mul_right _ (Nat.min_le_right m n)
              omega) (by
              simp only [okCells, List.all_eq_true] at hok ⊢
              exact fun u hu => hok u (List.mem_of_mem_take hu))
            refine wp_value (w' := w.setRow b (splice l p (xs.take (Nat.min m n * i.size))).toArray) ?_ (hk _ _ (hkv _ (own_setRow hown) (ext_setRow w b _)))
            have ht0 : tys[0]? = some t := by rw [nth_nat, htys]; rfl
            simp [execOp, ho, resolve, e1, invoke, builtin, Builtin.copy_, ht0, hrt.run_und, hsrc.lenOf, hr.run_size, hfc, hst, goInt]
          · exact h.elim
        · exact h.elim
end
end Go.Proofs.YtepamajphjgigaaGreatDoor.K
/-! The judgement over code, its rules, and regions in the order of the text. -/
set_option linter.unusedVariables false
set_option linter.unusedSimpArgs false
namespace Go.Proofs.YtepamajphjgigaaGreatDoor.K
open Go

/-- One operation. A bool that is moved is named by a new variable (tests and guards part on it). -/
def vcOp (X : Pr) (o : Oper) (e : Env) (w : World) (K : Value → World → Prop) : Prop :=
  match o.op, tlook X.tab o.type with
  | .move x, some ⟨.bool, _, _, _⟩ => match ev e x with
    | some (.bool b) => ∀ c, b = c → K (.bool c) w
    | _ => False
  | _, _ => match pureOp X.tab o.op e with
    | some v => K v w
    | none => cond (semOp o.op) (semVC X o e w K) (effVC X o e w K)
/-- What a guard's operation has yielded: a bool, or nothing. -/
def gval (ops : List Oper) (e : Env) (j : Nat) : Option (Option Bool) :=
  match ops[j]? with
  | some o => match o.dst with
    | some d => match look e d with
      | some (.bool b) => some (some b)
      | some (.tuple _) => some none
      | _ => none
    | none => none
  | none => none
def vcG (X : Pr) (ops : List Oper) (o : Oper) (e : Env) (w : World) (K : Value → World → Prop) : Prop :=
  match o.guard with
  | none => vcOp X o e w K
  | some (j, want) => match gval ops e j with
    | some (some true) => cond want (vcOp X o e w K) (K undef w)
    | some (some false) => cond want (K undef w) (vcOp X o e w K)
    | some none => K undef w
    | none => False
def putVC (N : Nat) (dst : Option Tmp) (v : Value) (e : Env) (k : Env → Prop) : Prop :=
  match dst with
  | none => k e
  | some d => cond (Nat.blt d N) (k ((d, v) :: e)) False
def vcOps (X : Pr) (N : Nat) (ops : List Oper) : List Oper → (Env → World → Prop) → Env → World → Prop
  | [], K, e, w => K e w
  | o :: r, K, e, w => vcG X ops o e w fun v w' => putVC N o.dst v e fun e' => vcOps X N ops r K e' w'
section
variable {X : Pr} {N : Nat} {e : Env} {a : Act} {w : World} {o : Oper} {Q : Exit → Act → World → Prop} {next : Act → World → Prop}
theorem vcOp_sound {K : Value → World → Prop} (ha : Agree N e a) (h : vcOp X o e w K) (hk : ∀ v w', K v w' → next (a.put o.dst v) w') : o.wp X.P a w next Q := by
  unfold vcOp at h
  split at h
  · rename_i x _ _ _ ho ht
    split at h
    · rename_i b hx
      refine wp_value (v := .bool b) (w' := w) ?_ (hk _ _ (h b rfl))
      simp [execOp, ho, ha.ev hx]
    · exact h.elim
  · split at h
    · rename_i v hv
      exact wp_value (pureOp_sound ha hv) (hk _ _ h)
    · cases hs : semOp o.op with
      | true => rw [hs, cond_true] at h; exact semVC_sound ha h hk
      | false => rw [hs, cond_false] at h; exact effVC_sound ha h hk
theorem gval_yielded {ops : List Oper} (ha : Agree N e a) {j : Nat} {r : Option Bool} (h : gval ops e j = some r) : yielded ops.toArray a.tmps j = r := by
  unfold gval at h
  split at h
  · rename_i oj hj
    split at h
    · rename_i d hd
      have key : ∀ v, look e d = some v → ((ops.toArray[j]?).bind (·.dst)).bind (a.tmps[·]?) = some v := by
        intro v hv
        obtain ⟨h1, h2⟩ := ha.get d v hv
        have hlt : d < a.tmps.size := by rw [ha.size]; exact h1
        have hg : a.tmps[d]? = some v := by
          rw [← h2]
          simp [Array.getD, hlt]
        simp [hj, hd, hg]
      split at h
      · rename_i b hb
        unfold yielded
        rw [key _ hb]
        simpa using h
      · rename_i vs hb
        unfold yielded
        rw [key _ hb]
        simpa using h
      · simp at h
    · simp at h
  · simp at h
/-- One operation with its guard. -/
theorem vcG_sound {ops : List Oper} {K : Value → World → Prop} (ha : Agree N e a) (h : vcG X ops o e w K) (hk : ∀ v w', K v w' → next (a.put o.dst v) w') :
    if Region.wanted o (yielded ops.toArray a.tmps) then o.wp X.P a w next Q ∨ (o.asks X.P a w ∧ LetsOut Q) else next (a.put o.dst undef) w := by
  have run : ∀ hw : Region.wanted o (yielded ops.toArray a.tmps) = true, vcOp X o e w K → if Region.wanted o (yielded ops.toArray a.tmps) then o.wp X.P a w next Q ∨ (o.asks X.P a w ∧ LetsOut Q) else next (a.put o.dst undef) w := by
    intro hw h
    rw [hw]
    exact .inl (vcOp_sound ha h hk)
  have pass : ∀ hw : Region.wanted o (yielded ops.toArray a.tmps) = false, K undef w → if Region.wanted o (yielded ops.toArray a.tmps) then o.wp X.P a w next Q ∨ (o.asks X.P a w ∧ LetsOut Q) else next (a.put o.dst undef) w := by
    intro hw h
    rw [hw]
    exact hk _ _ h
  have wanted : ∀ j want r, o.guard = some (j, want) → gval ops e j = some r → Region.wanted o (yielded ops.toArray a.tmps) = (r == some want) := by
    intro j want r hg hv
    unfold Region.wanted
    rw [hg]
    dsimp only
    rw [gval_yielded ha hv]
  unfold vcG at h
  split at h
  · rename_i hg
    exact run (by unfold Region.wanted; rw [hg]) h
  · rename_i j want hg
    split at h
    · rename_i hv
      have hw := wanted j want _ hg hv
      cases want with
      | true => exact run hw h
      | false => exact pass hw h
    · rename_i hv
      have hw := wanted j want _ hg hv
      cases want with
      | true => exact pass hw h
      | false => exact run hw h
    · rename_i hv
      exact pass (wanted j want _ hg hv) h
    · exact h.elim
theorem putVC_sound {dst : Option Tmp} {v : Value} {k : Env → Prop} (ha : Agree N e a) (h : putVC N dst v e k) : ∃ e', Agree N e' (a.put dst v) ∧ k e' := by
  unfold putVC at h
  split at h
  · exact ⟨e, ha, h⟩
  · rename_i d
    cases hc : Nat.blt d N with
    | true => rw [hc] at h; exact ⟨_, ha.put (by simpa [Nat.blt_eq] using hc) v, h⟩
    | false => rw [hc] at h; exact h.elim
end
/-- From environment e and world w the code comes to an exit, and there Q holds. -/
structure V (P : Program) (N : Nat) (c : Code) (Q : Exit → Env → World → Prop) (e : Env) (w : World) : Prop where
  run : ∀ a, Agree N e a → c.wp P (fun x a' w' => ∃ e', Agree N e' a' ∧ Q x e' w') a w
def thenE (K : Env → World → Prop) (Q : Exit → Env → World → Prop) : Exit → Env → World → Prop
  | .normal, e, w => K e w
  | x, e, w => Q x e w
def blockE (id : Nat) (Q : Exit → Env → World → Prop) : Exit → Env → World → Prop
  | .exit i, e, w => cond (Nat.beq i id) (Q .normal e w) (Q (.exit i) e w)
  | x, e, w => Q x e w
section
variable {P : Program} {X : Pr} {N : Nat} {e : Env} {w : World} {Q : Exit → Env → World → Prop} {x y : Code}
theorem V.weaken {l : Env} (h : V P N x Q l w) (hl : Has l e) : V P N x Q e w := ⟨fun a ha => h.run a (ha.weaken hl)⟩
theorem V.mono {Q' : Exit → Env → World → Prop} (h : V P N x Q e w) (hq : ∀ ex e' w', Q ex e' w' → Q' ex e' w') : V P N x Q' e w :=
  ⟨fun a ha => wp_mono (h.run a ha) fun ex a' w' ⟨e', h1, h2⟩ => ⟨e', h1, hq ex e' w' h2⟩⟩
theorem V.seq (h : V P N x (thenE (fun e' w' => V P N y Q e' w') Q) e w) : V P N (.seq x y) Q e w := by
  refine ⟨fun a ha => wp_seq (wp_mono (h.run a ha) fun ex a' w' ⟨e', h1, h2⟩ => ?_)⟩
  cases ex <;> first | exact h2.run a' h1 | exact ⟨e', h1, h2⟩
theorem V.skip (h : Q .normal e w) : V P N .skip Q e w := ⟨fun a ha => wp_skip ⟨e, ha, h⟩⟩
theorem V.ret (h : Q .ret e w) : V P N .ret Q e w := ⟨fun a ha => wp_ret ⟨e, ha, h⟩⟩
theorem V.exit {id : Nat} (h : Q (.exit id) e w) : V P N (.exit id) Q e w := ⟨fun a ha => wp_exit ⟨e, ha, h⟩⟩
theorem V.cond {c : Operand} {b : Bool} (hc : ev e c = some (.bool b)) (ht : b = true → V P N x Q e w) (hf : b = false → V P N y Q e w) : V P N (.cond c x y) Q e w :=
  ⟨fun a ha => wp_cond_split (ha.ev hc) (fun h => (ht h).run a ha) (fun h => (hf h).run a ha)⟩
theorem V.block {id : Nat} (h : V P N x (blockE id Q) e w) : V P N (.block id x) Q e w := by
  refine ⟨fun a ha => wp_block (wp_mono (h.run a ha) fun ex a' w' ⟨e', h1, h2⟩ => ?_)⟩
  cases ex with
  | exit i =>
    simp only [blockE] at h2
    simp only [Exit.inBlock]
    split
    · rename_i hi
      rw [hi, Nat.beq_refl, cond_true] at h2
      exact ⟨e', h1, h2⟩
    · rename_i hi
      have : Nat.beq i id = false := by
        cases hq : Nat.beq i id with
        | false => rfl
        | true => exact absurd (Nat.eq_of_beq_eq_true hq) hi
      rw [this, cond_false] at h2
      exact ⟨e', h1, h2⟩
  | normal => exact ⟨e', h1, h2⟩
  | goto l => exact ⟨e', h1, h2⟩
  | ret => exact ⟨e', h1, h2⟩
  | panic c => exact ⟨e', h1, h2⟩
  | outgrown => exact ⟨e', h1, h2⟩
/-- A loop: at each round's head the slots E i are known and R i holds; each round lowers the measure. -/
theorem V.loop {ι : Type} (E : ι → Env) (R : ι → World → Prop) (μ : ι → Nat) (i0 : ι) (h0 : Has (E i0) e) (hR : R i0 w)
    (round : ∀ i w, R i w → V P N x (thenE (fun e' w' => ∃ i', Has (E i') e' ∧ R i' w' ∧ μ i' < μ i) Q) (E i) w) : V P N (.loop x) Q e w := by
  refine ⟨fun a ha => ?_⟩
  refine wp_loop_ghost (fun n a' w' => ∃ i, μ i = n ∧ Agree N (E i) a' ∧ R i w') (μ i0) ⟨i0, rfl, ha.weaken h0, hR⟩ ?_
  rintro n a' w' ⟨i, hi, hag, hr⟩
  refine wp_mono ((round i w' hr).run a' hag) fun ex a'' w'' ⟨e'', h1, h2⟩ => ?_
  cases ex with
  | normal =>
    obtain ⟨i', hi1, hi2, hi3⟩ := h2
    exact ⟨μ i', by omega, i', rfl, h1.weaken hi1, hi2⟩
  | exit id => exact ⟨e'', h1, h2⟩
  | goto l => exact ⟨e'', h1, h2⟩
  | ret => exact ⟨e'', h1, h2⟩
  | panic c => exact ⟨e'', h1, h2⟩
  | outgrown => exact ⟨e'', h1, h2⟩
theorem vcOps_sound {ops : List Oper} (l : List Oper) : ∀ {K : Env → World → Prop} {e : Env} {a : Act} {w : World}, Agree N e a → vcOps X N ops l K e w →
    wpList X.P ops.toArray (fun ex a' w' => ∃ e', Agree N e' a' ∧ thenE K Q ex e' w') l a w := by
  induction l with
  | nil => intro K e a w ha h; exact wpList_nil ⟨e, ha, h⟩
  | cons o r ih =>
    intro K e a w ha h
    unfold wpList
    refine vcG_sound (ops := ops) ha h fun v w' hk => ?_
    obtain ⟨e', h1, h2⟩ := putVC_sound ha hk
    exact ih h1 h2
/-- A region, and what stands behind it. -/
theorem V.reg {id : Nat} {l : List Oper} (h : vcOps X N l l (fun e' w' => V X.P N y Q e' w') e w) : V X.P N (.seq (.region id l.toArray false) y) Q e w := by
  exact V.seq ⟨fun a ha => wp_region_lit (vcOps_sound l ha h)⟩
/-- A region at the end of code. -/
theorem V.regEnd {id : Nat} {l : List Oper} (h : vcOps X N l l (fun e' w' => Q .normal e' w') e w) : V X.P N (.region id l.toArray false) Q e w := by
  refine ⟨fun a ha => ?_⟩
  refine wp_mono (wp_region_lit (vcOps_sound (Q := Q) l ha h)) fun ex a' w' ⟨e', h1, h2⟩ => ⟨e', h1, ?_⟩
  cases ex <;> exact h2
/-- The same, where what follows stands in the exit's condition. -/
theorem V.cutE {ι : Type} {Q' : Exit → Env → World → Prop} (E : ι → Env) (R : ι → World → Prop) (h1 : V P N x (thenE (fun e' w' => ∃ i, Has (E i) e' ∧ R i w') Q) e w) (h2 : ∀ i w', R i w' → V P N y Q' (E i) w') : V P N x (thenE (fun e' w' => V P N y Q' e' w') Q) e w :=
  h1.mono fun ex e' w' h => by
    cases ex <;> first | exact h | (obtain ⟨i, hi1, hi2⟩ := h; exact (h2 i w' hi2).weaken hi1)
/-- The same behind a block. -/
theorem V.cutB {ι : Type} {id : Nat} {Q' : Exit → Env → World → Prop} (E : ι → Env) (R : ι → World → Prop) (h1 : V P N x (blockE id (thenE (fun e' w' => ∃ i, Has (E i) e' ∧ R i w') Q)) e w) (h2 : ∀ i w', R i w' → V P N y Q' (E i) w') :
    V P N x (blockE id (thenE (fun e' w' => V P N y Q' e' w') Q)) e w :=
  h1.mono fun ex e' w' h => by
    cases ex with
    | exit j =>
      simp only [blockE] at h ⊢
      cases hb : Nat.beq j id with
      | true =>
        rw [hb, cond_true] at h; rw [cond_true]
        obtain ⟨i, hi1, hi2⟩ := h
        exact (h2 i w' hi2).weaken hi1
      | false =>
        rw [hb, cond_false] at h; rw [cond_false]
        exact h
    | normal =>
      obtain ⟨i, hi1, hi2⟩ := h
      exact (h2 i w' hi2).weaken hi1
    | goto l => exact h
    | ret => exact h
    | panic c => exact h
    | outgrown => exact h
end
theorem V.condT {P : Program} {N : Nat} {e : Env} {w : World} {Q : Exit → Env → World → Prop} {c : Operand} {x y : Code} (hc : ev e c = some (.bool true)) (h : V P N x Q e w) : V P N (.cond c x y) Q e w := V.cond hc (fun _ => h) (fun h => Bool.noConfusion h)
theorem V.condF {P : Program} {N : Nat} {e : Env} {w : World} {Q : Exit → Env → World → Prop} {c : Operand} {x y : Code} (hc : ev e c = some (.bool false)) (h : V P N y Q e w) : V P N (.cond c x y) Q e w := V.cond hc (fun h => Bool.noConfusion h) (fun _ => h)
theorem mvT {K : Bool → Prop} (h : K true) : ∀ c, true = c → K c := fun _ e => e ▸ h
theorem mvF {K : Bool → Prop} (h : K false) : ∀ c, false = c → K c := fun _ e => e ▸ h
theorem mvB {K : Bool → Prop} {b : Bool} (h : K b) : ∀ c, b = c → K c := fun _ e => e ▸ h
/-! ## Whole functions -/
def resVC (X : Pr) : List ResultVar → Env → World → (List Value → Prop) → Prop
  | [], _, _, K => K []
  | .tmp t :: r, e, w, K => match look e t with
    | some v => resVC X r e w fun vs => K (v :: vs)
    | none => False
  | .cell t ty :: r, e, w, K => match look e t with
    | some (.pointer (some ⟨b, o, none⟩)) => loadVC X ty w b o fun v => resVC X r e w fun vs => K (v :: vs)
    | _ => False
def oneOr : List Value → Value
  | [v] => v
  | vs => .tuple vs.toArray
def retPost (X : Pr) (rs : List ResultVar) (R : Value → World → Prop) : Exit → Env → World → Prop
  | .normal, e, w => resVC X rs e w fun vs => R (oneOr vs) w
  | .ret, e, w => resVC X rs e w fun vs => R (oneOr vs) w
  | _, _, _ => False
def argsEnv : Nat → List Value → Env
  | _, [] => []
  | k, v :: r => (k, v) :: argsEnv (k + 1) r
section
variable {X : Pr} {N : Nat}
theorem run_resVC {e : Env} {a : Act} {w : World} (ha : Agree N e a) (g : ResultVar → Sem Value) (hg1 : ∀ t, g (.tmp t) = pure (a.tmps.getD t undef))
    (hg2 : ∀ p t, g (.cell p t) = asAddr (a.tmps.getD p undef) >>= fun q => loadVar t q) : ∀ {rs : List ResultVar} {K : List Value → Prop}, resVC X rs e w K →
    ∃ vs : List Value, (rs.mapM g).run X.P w = .ok vs w ∧ K vs
  | [], K, h => ⟨[], by simp, h⟩
  | .tmp t :: r, K, h => by
    simp only [resVC] at h
    split at h
    · rename_i v hv
      obtain ⟨vs, h1, h2⟩ := run_resVC ha g hg1 hg2 h
      exact ⟨v :: vs, by rw [List.mapM_cons, hg1]; simp only [Sem.run_bind, Sem.run_pure, Result.andThen_ok, (ha.get t v hv).2, h1], h2⟩
    · exact h.elim
  | .cell p t :: r, K, h => by
    simp only [resVC] at h
    split at h
    · rename_i b o hv
      obtain ⟨v, hr, hk⟩ := run_loadVC h
      obtain ⟨vs, h1, h2⟩ := run_resVC ha g hg1 hg2 hk
      exact ⟨v :: vs, by rw [List.mapM_cons, hg2, (ha.get p _ hv).2]; simp only [Sem.run_bind, Sem.run_pure, Result.andThen_ok, asAddr, hr, h1], h2⟩
    · exact h.elim
theorem look_argsEnv : ∀ (l : List Value) (k t : Nat) (v : Value), look (argsEnv k l) t = some v → k ≤ t ∧ l[t - k]? = some v
  | [], k, t, v, h => by simp [argsEnv, look] at h
  | u :: r, k, t, v, h => by
    simp only [argsEnv, look] at h
    cases hq : Nat.beq k t with
    | true =>
      rw [hq, cond_true] at h
      have := Nat.eq_of_beq_eq_true hq
      subst this
      simpa using h
    | false =>
      rw [hq, cond_false] at h
      obtain ⟨h1, h2⟩ := look_argsEnv r (k + 1) t v h
      refine ⟨by omega, ?_⟩
      rw [show t - k = (t - (k + 1)) + 1 by omega, List.getElem?_cons_succ]
      exact h2
/-- A function by its body. -/
theorem Does.of {f : FuncId} {fn : Func} {c : Code} {l : List Value} {w : World} {R : Value → World → Prop} (hf : X.P.funcs[f]? = some fn) (hb : fn.body = some c)
    (hn : (fn.name == "runtime.NumGoroutine") = false) (hl : Nat.ble l.length fn.ntmps = true) (rs : List ResultVar) (hrs : fn.results.toList = rs)
    (h : V X.P fn.ntmps c (retPost X rs R) (argsEnv 0 l) w) : Does X.P f l.toArray w R := by
  refine ⟨.inl ⟨callOK_of hf (by simp [hb]) hn, calls_of_wp hf hb ?_⟩⟩
  have hl := Nat.le_of_ble_eq_true hl
  have ha : Agree fn.ntmps (argsEnv 0 l) { tmps := l.toArray ++ Array.replicate (fn.ntmps - l.toArray.size) undef, defers := [] } := by
    refine ⟨by simp; omega, fun t v hv => ?_, rfl⟩
    obtain ⟨_, h2⟩ := look_argsEnv l 0 t v hv
    rw [Nat.sub_zero] at h2
    have hlt := (List.getElem?_eq_some_iff.1 h2).1
    refine ⟨by omega, ?_⟩
    have hlt' : t < (l.toArray ++ Array.replicate (fn.ntmps - l.toArray.size) undef).size := by simp; omega
    simp only [Array.getD, hlt', dite_true]
    show (l.toArray ++ Array.replicate (fn.ntmps - l.toArray.size) undef)[t] = v
    rw [Array.getElem_append_left (by simpa using hlt)]
    simpa using (List.getElem?_eq_some_iff.1 h2).2
  have hfin : ∀ (a' : Act) (e' : Env) (w' : World), Agree fn.ntmps e' a' → (resVC X rs e' w' fun vs => R (oneOr vs) w') → a'.defers = [] ∧ ∃ v, (results fn a'.tmps).run X.P w' = .ok v w' ∧ retR R (.returned v) w' := by
    intro a' e' w' h1 h2
    obtain ⟨g, hg, hg1, hg2⟩ : ∃ g : ResultVar → Sem Value, results fn a'.tmps = (do let vs ← fn.results.mapM g; pure (if h : vs.size = 1 then vs[0] else .tuple vs)) ∧ (∀ t, g (.tmp t) = pure (a'.tmps.getD t undef)) ∧
        (∀ p t, g (.cell p t) = asAddr (a'.tmps.getD p undef) >>= fun q => loadVar t q) := ⟨_, rfl, fun _ => rfl, fun _ _ => rfl⟩
    obtain ⟨vs, hr, hk⟩ := run_resVC h1 g hg1 hg2 h2
    refine ⟨h1.defers, oneOr vs, ?_, hk⟩
    rw [hg, Sem.run_bind, Array.mapM_eq_mapM_toList, hrs, Sem.run_map, hr]
    simp only [Result.andThen_ok, Sem.run_pure]
    congr 1
    cases vs with
    | nil => simp [oneOr]
    | cons v r => cases r <;> simp [oneOr]
  refine wp_mono (h.run _ ha) fun ex a' w' ⟨e', h1, h2⟩ => ?_
  cases ex with
  | normal => exact hfin a' e' w' h1 h2
  | ret => exact hfin a' e' w' h1 h2
  | exit id => exact h2.elim
  | goto l => exact h2.elim
  | panic c => exact h2.elim
  | outgrown => exact h2.elim
end
end Go.Proofs.YtepamajphjgigaaGreatDoor.K
/-! Regions that draw their order: one plan serves for every order. -/
set_option linter.unusedVariables false
set_option linter.unusedSimpArgs false
namespace Go.Proofs.YtepamajphjgigaaGreatDoor.K
open Go

def predsOf (o : Oper) : List Nat := (o.after.toList.filter fun e => Region.binds .any e).map (·.on)
/-- A list of places is an order that the edges allow, behind those that are done. -/
inductive Lin (ops : List Oper) : List Nat → List Nat → Prop
  | nil (dn : List Nat) (h : ∀ i, i < ops.length → i ∈ dn) : Lin ops dn []
  | cons (dn : List Nat) (i : Nat) (l : List Nat) (o : Oper) (ho : ops[i]? = some o) (hi : i ∉ dn) (hp : ∀ p, p ∈ predsOf o → p ∈ dn) (h : Lin ops (i :: dn) l) : Lin ops dn (i :: l)
/-- Every edge leads back. -/
def backB : Nat → List Oper → Bool
  | _, [] => true
  | k, o :: r => (predsOf o).all (fun p => Nat.blt p k) && backB (k + 1) r
theorem backB_of : ∀ (ops : List Oper) (k i : Nat) (o : Oper), backB k ops = true → ops[i]? = some o → ∀ p, p ∈ predsOf o → p < k + i
  | [], k, i, o, h, ho, p, hp => by simp at ho
  | o' :: r, k, 0, o, h, ho, p, hp => by
    simp only [List.getElem?_cons_zero, Option.some.injEq] at ho
    subst ho
    simp only [backB, Bool.and_eq_true, List.all_eq_true] at h
    have := h.1 p hp
    rw [Nat.blt_eq] at this
    omega
  | o' :: r, k, i + 1, o, h, ho, p, hp => by
    simp only [backB, Bool.and_eq_true] at h
    have := backB_of r (k + 1) i o h.2 (by simpa using ho) p hp
    omega
theorem lin_go {ops : List Oper} (hb : backB 0 ops = true) : ∀ (fuel t : Nat) (listed : Array Bool) (acc dn : List Nat), listed.size = ops.length → (∀ i, i < ops.length → (listed.getD i true = true ↔ i ∈ dn)) →
    ((List.range ops.length).filter (fun i => decide (i ∉ dn))).length ≤ fuel → ∃ l, Region.linearise.go .any ops.toArray fuel t listed acc = acc.reverse ++ l ∧ Lin ops dn l
  | 0, t, listed, acc, dn, hsz, hl, hf => by
    refine ⟨[], by simp [Region.linearise.go], Lin.nil dn fun i hi => ?_⟩
    have h0 : ((List.range ops.length).filter (fun i => decide (i ∉ dn))) = [] := List.eq_nil_of_length_eq_zero (by omega)
    rw [List.filter_eq_nil_iff] at h0
    have := h0 i (by simpa using hi)
    simpa using this
  | fuel + 1, t, listed, acc, dn, hsz, hl, hf => by
    unfold Region.linearise.go
    have hrs : ∀ i, i ∈ ((List.range ops.toArray.size).filter fun i => !listed.getD i true && ((ops.toArray[i]?).map (·.after.all fun e => !Region.binds .any e || listed.getD e.on false)).getD false) →
        ∃ o, ops[i]? = some o ∧ i ∉ dn ∧ ∀ p, p ∈ predsOf o → p ∈ dn := by
      intro i hi
      simp only [List.mem_filter, List.mem_range, Bool.and_eq_true, Bool.not_eq_true'] at hi
      obtain ⟨h1, h2, h3⟩ := hi
      have h1' : i < ops.length := by simpa using h1
      refine ⟨ops[i], by simp [h1'], fun hd => ?_, fun p hp => ?_⟩
      · rw [(hl i h1').2 hd] at h2
        cases h2
      · have hg : ops.toArray[i]? = some ops[i] := by simp [h1']
        rw [hg] at h3
        simp only [Option.map_some, Option.getD_some] at h3
        rw [← Array.all_toList, List.all_eq_true] at h3
        simp only [predsOf, List.mem_map, List.mem_filter] at hp
        obtain ⟨ed, ⟨he1, he2⟩, rfl⟩ := hp
        have := h3 ed he1
        rw [he2] at this
        simp only [Bool.not_true, Bool.false_or] at this
        have hlt' : ed.on < ops.length := by
          rcases Nat.lt_or_ge ed.on ops.length with h | h
          · exact h
          · rw [Array.getD] at this
            simp [hsz, Nat.not_lt.2 h] at this
        refine (hl ed.on hlt').1 ?_
        have hlt2 : ed.on < listed.size := by omega
        simp only [Array.getD, hlt2, dite_true] at this ⊢
        exact this
    dsimp only
    generalize hR : ((List.range ops.toArray.size).filter fun i => !listed.getD i true && ((ops.toArray[i]?).map (·.after.all fun e => !Region.binds .any e || listed.getD e.on false)).getD false) = rs at hrs
    split
    · rename_i i hi
      have him : i ∈ rs := List.mem_of_getElem? hi
      obtain ⟨o, ho, hnd', hp⟩ := hrs i him
      have hilt : i < ops.length := (List.getElem?_eq_some_iff.1 ho).1
      obtain ⟨l, h1, h2⟩ := lin_go hb fuel (t / rs.length) (listed.setIfInBounds i true) (i :: acc) (i :: dn) (by simp [hsz]) (fun k hk => by
          by_cases hki : k = i
          · subst hki
            simp [Array.getD, hsz, hk]
          · have := hl k hk
            simp only [List.mem_cons, hki, false_or]
            rw [← this]
            have hsame : (listed.setIfInBounds i true).getD k true = listed.getD k true := by
              rw [Array.getD_eq_getD_getElem?, Array.getD_eq_getD_getElem?, Array.getElem?_setIfInBounds_ne (Ne.symm hki)]
            rw [hsame]) (by
          have hsub : ((List.range ops.length).filter (fun k => decide (k ∉ i :: dn))) = ((List.range ops.length).filter (fun k => decide (k ∉ dn))).filter (fun k => decide (k ∉ i :: dn)) := by
            rw [List.filter_filter]
            congr 1
            funext k
            by_cases h1 : k = i <;> by_cases h2 : k ∈ dn <;> simp [h1, h2]
          rw [hsub]
          have hlt : (((List.range ops.length).filter (fun k => decide (k ∉ dn))).filter (fun k => decide (k ∉ i :: dn))).length < ((List.range ops.length).filter (fun k => decide (k ∉ dn))).length := by
            rw [List.length_filter_lt_length_iff_exists]
            exact ⟨i, by simp [hilt, hnd'], by simp⟩
          omega)
      exact ⟨i :: l, by rw [h1]; simp, Lin.cons dn i l o ho hnd' hp h2⟩
    · rename_i hnone
      refine ⟨[], by simp, Lin.nil dn fun i hi => ?_⟩
      -- nothing is ready: then nothing is left (the least one left would be ready)
      classical
      by_cases hm : i ∈ dn
      · exact hm
      · exfalso
        obtain ⟨k, ⟨hk1, hk2⟩, hk3⟩ := exists_least (p := fun k => k < ops.length ∧ k ∉ dn) ⟨i, hi, hm⟩
        have hkm : k ∈ rs := by
          rw [← hR]
          simp only [List.mem_filter, List.mem_range, Bool.and_eq_true, Bool.not_eq_true']
          refine ⟨by simpa using hk1, ?_, ?_⟩
          · cases hq : listed.getD k true with
            | false => rfl
            | true => exact absurd ((hl k hk1).1 hq) hk2
          · have hg : ops.toArray[k]? = some ops[k] := by simp [hk1]
            rw [hg]
            simp only [Option.map_some, Option.getD_some]
            rw [← Array.all_toList, List.all_eq_true]
            intro ed he
            cases hbd : Region.binds .any ed with
            | false => simp
            | true =>
              simp only [Bool.not_true, Bool.false_or]
              have hmem : ed.on ∈ predsOf ops[k] := by
                simp only [predsOf, List.mem_map, List.mem_filter]
                exact ⟨ed, ⟨he, hbd⟩, rfl⟩
              have hlt' := backB_of ops 0 k ops[k] hb (by simp [hk1]) ed.on hmem
              have hin : ed.on ∈ dn := by
                rcases Classical.em (ed.on ∈ dn) with h | h
                · exact h
                · have := hk3 ed.on ⟨by omega, h⟩
                  omega
              have h2 := (hl ed.on (by omega)).2 hin
              have hlt2 : ed.on < listed.size := by omega
              simp only [Array.getD, hlt2, dite_true] at h2 ⊢
              exact h2
        have hpos : 0 < rs.length := List.length_pos_of_mem hkm
        have hmod : t % rs.length < rs.length := Nat.mod_lt _ hpos
        rw [List.getElem?_eq_none_iff] at hnone
        omega
theorem lin_of {ops : List Oper} (hb : backB 0 ops = true) (t : Nat) : Lin ops [] (Region.linearise .any ops.toArray t) := by
  unfold Region.linearise
  obtain ⟨l, h1, h2⟩ := lin_go hb ops.toArray.size t (Array.replicate ops.toArray.size false) [] [] (by simp) (fun i hi => by simp [Array.getD, hi]) (by have := List.length_filter_le (fun i => decide (i ∉ ([] : List Nat))) (List.range ops.length); simpa using this)
  rw [h1]
  simpa using h2
end Go.Proofs.YtepamajphjgigaaGreatDoor.K
/-! Regions that draw their order: the simulation. -/
set_option linter.unusedVariables false
set_option linter.unusedSimpArgs false
namespace Go.Proofs.YtepamajphjgigaaGreatDoor.K
open Go

def isIn (l : List Nat) (i : Nat) : Bool := l.any (Nat.beq i)
theorem isIn_iff {l : List Nat} {i : Nat} : isIn l i = true ↔ i ∈ l := by
  simp only [isIn, List.any_eq_true]
  constructor
  · rintro ⟨x, hx, h⟩
    rw [Nat.eq_of_beq_eq_true h]
    exact hx
  · intro h
    exact ⟨i, h, Nat.beq_refl i⟩
/-- The slots that an operation looks at. -/
def slotsOf (ops : List Oper) (o : Oper) : List Nat :=
  (o.op.operands.toList.filterMap fun | .tmp t => some t | _ => none) ++
  (match o.guard with
    | none => []
    | some (j, _) => match ops[j]? with
      | some oj => oj.dst.toList
      | none => [])
def resE (e : Env) : List Nat → Env
  | [] => []
  | t :: r => match look e t with
    | some v => (t, v) :: resE e r
    | none => resE e r
theorem look_resE {e : Env} : ∀ (S : List Nat) {t : Nat} {v : Value}, look (resE e S) t = some v → t ∈ S ∧ look e t = some v
  | [], t, v, h => by simp [resE, look] at h
  | s :: r, t, v, h => by
    simp only [resE] at h
    split at h
    · rename_i u hu
      simp only [look] at h
      cases hq : Nat.beq s t with
      | true =>
        rw [hq, cond_true] at h
        have := Nat.eq_of_beq_eq_true hq
        subst this
        exact ⟨by simp, by rw [hu, h]⟩
      | false =>
        rw [hq, cond_false] at h
        obtain ⟨h1, h2⟩ := look_resE r h
        exact ⟨by simp [h1], h2⟩
    · obtain ⟨h1, h2⟩ := look_resE r h
      exact ⟨by simp [h1], h2⟩
theorem resE_congr {e e' : Env} : ∀ (S : List Nat), (∀ t, t ∈ S → look e' t = look e t) → resE e' S = resE e S
  | [], _ => rfl
  | t :: r, h => by
    simp only [resE]
    rw [h t (by simp), resE_congr r fun u hu => h u (by simp [hu])]
def quietOp (tab : Tab) (o : Oper) : Bool :=
  match o.op with
  | .move _ | .nilCheck _ | .fieldAddr .. | .field .. | .binOp .. | .unOp .. | .build .. | .pick .. | .extract .. | .makeFunc .. | .makeInterface .. | .load .. | .indexAddr .. | .slice .. => true
  | .convert _ d _ => match tlook tab d with
    | some ⟨.slice _, _, _, _⟩ => false
    | some _ => true
    | none => false
  | .call ⟨.builtin .len, _, _⟩ => true
  | .call ⟨.builtin .min, _, _⟩ => true
  | _ => false
def memOp (tab : Tab) (o : Oper) : Bool :=
  match o.op with
  | .load .. => true
  | .convert _ d _ => match tlook tab d with
    | some ⟨.int _, _, _, _⟩ => false
    | _ => true
  | .call ⟨.builtin .len, _, tys⟩ => match tys.toList with
    | [t] => match tlook tab t with
      | some ⟨.map _ _, _, _, _⟩ => true
      | _ => false
    | _ => false
  | _ => false
abbrev QE (X : Pr) (ops : List Oper) (o : Oper) (e : Env) (w : World) (v : Value) : Prop := vcG X ops o e w fun v' w' => v' = v ∧ w' = w
section
variable {X : Pr} {N : Nat} {e : Env} {w : World} {o : Oper} {ops : List Oper} {K : Value → World → Prop}
theorem loadVC_quiet {t : TypeId} {b p : Nat} {K : Value → Prop} (h : loadVC X t w b p K) : ∃ v, loadVC X t w b p (fun v' => v' = v) ∧ K v := by
  unfold loadVC at h ⊢
  split at h
  · rename_i i hi
    cases hq : i.d.agg with
    | true =>
      rw [hq, cond_true] at h
      obtain ⟨l, h1, h2, h3⟩ := h
      exact ⟨_, by rw [cond_true]; exact ⟨l, h1, h2, rfl⟩, h3⟩
    | false =>
      rw [hq, cond_false] at h
      obtain ⟨v, h1, h2⟩ := h
      exact ⟨v, by rw [cond_false]; exact ⟨v, h1, rfl⟩, h2⟩
  · exact h.elim
theorem eff_quiet (hq : quietOp X.tab o = true) (h : effVC X o e w K) : ∃ v, effVC X o e w (fun v' w' => v' = v ∧ w' = w) ∧ K v w := by
  unfold effVC at h ⊢
  unfold quietOp at hq
  cases ho : o.op <;> rw [ho] at h hq <;> (try (simp only at h; done)) <;> (try (simp at hq; done)) <;> (try dsimp only at h hq ⊢)
  case load t x =>
    split at h
    · obtain ⟨v, h1, h2⟩ := loadVC_quiet h
      refine ⟨v, ?_, h2⟩
      simpa using h1
    · exact h.elim
  case indexAddr t x y =>
    split at h
    · split at h
      · obtain ⟨b, p, h1, h2, h3⟩ := h
        exact ⟨_, ⟨b, p, h1, h2, rfl, rfl⟩, h3⟩
      · exact h.elim
    · exact h.elim
  case slice t x lo hi mx =>
    split at h
    · split at h
      · obtain ⟨h1, h2, h3, h4⟩ := h
        exact ⟨_, ⟨h1, h2, h3, fun v' hv => ⟨hv.symm, rfl⟩⟩, h4 _ rfl⟩
      · exact h.elim
    · split at h
      · exact ⟨_, ⟨rfl, rfl⟩, h⟩
      · exact h.elim
    · exact h.elim
  case convert s d x =>
    split at h
    · split at h
      · rename_i j hj
        cases hc : isU8 j.d with
        | false => rw [hc] at h; exact h.elim
        | true =>
          rw [hc, cond_true] at h
          obtain ⟨F, l, h1, h2⟩ := h
          exact ⟨_, by rw [cond_true]; exact ⟨F, l, h1, rfl, rfl⟩, h2⟩
      · exact h.elim
    · rename_i hs hd hx
      rw [hd] at hq
      simp at hq
    · exact ⟨_, ⟨rfl, rfl⟩, h⟩
    · exact h.elim
  case binOp op t x y yt =>
    cases op <;> (try (simp only at h; done)) <;> (try dsimp only at h ⊢)
    · split at h
      · obtain ⟨h1, h2, h3⟩ := h
        exact ⟨_, ⟨h1, h2, rfl, rfl⟩, h3⟩
      · exact h.elim
    · split at h
      · exact ⟨_, ⟨h.1, rfl, rfl⟩, h.2⟩
      · exact h.elim
    · split at h
      · exact ⟨_, ⟨h.1, rfl, rfl⟩, h.2⟩
      · exact h.elim
  case call c =>
    obtain ⟨callee, args, tys⟩ := c
    cases callee <;> (try (simp only at h; done)) <;> (try (simp at hq; done))
    rename_i b
    cases b <;> (try (simp only at h; done)) <;> (try (simp at hq; done))
    dsimp only at h ⊢
    split at h
    · split at h
      · obtain ⟨n, hn, hk⟩ := h
        exact ⟨_, ⟨n, hn, rfl, rfl⟩, hk⟩
      · exact h.elim
    · exact h.elim
theorem quiet_sem {tab : Tab} (hq : quietOp tab o = true) : semOp o.op = false := by
  unfold quietOp at hq
  cases ho : o.op <;> rw [ho] at hq <;> (try (simp at hq; done)) <;> (try rfl)
  rename_i c
  obtain ⟨callee, args, tys⟩ := c
  cases callee <;> first | rfl | (simp at hq; done)
theorem vcOp_quiet (hq : quietOp X.tab o = true) (h : vcOp X o e w K) : ∃ v, vcOp X o e w (fun v' w' => v' = v ∧ w' = w) ∧ K v w := by
  unfold vcOp at h ⊢
  split at h
  · split at h
    · rename_i b _
      exact ⟨.bool b, fun c hc => ⟨by rw [hc], rfl⟩, h b rfl⟩
    · exact h.elim
  · split at h
    · exact ⟨_, ⟨rfl, rfl⟩, h⟩
    · rw [quiet_sem hq, cond_false] at h
      simp only [quiet_sem hq, cond_false]
      exact eff_quiet hq h
theorem vcG_quiet (hq : quietOp X.tab o = true) (h : vcG X ops o e w K) : ∃ v, QE X ops o e w v ∧ K v w := by
  unfold QE vcG at *
  split at h
  · exact vcOp_quiet hq h
  · rename_i j want _
    split at h
    · cases want with
      | true => exact vcOp_quiet hq h
      | false => exact ⟨undef, ⟨rfl, rfl⟩, h⟩
    · cases want with
      | true => exact ⟨undef, ⟨rfl, rfl⟩, h⟩
      | false => exact vcOp_quiet hq h
    · exact ⟨undef, ⟨rfl, rfl⟩, h⟩
    · exact h.elim
theorem eff_pure {v : Value} {w2 : World} (hq : quietOp X.tab o = true) (hm : memOp X.tab o = false) (h : effVC X o e w (fun v' w' => v' = v ∧ w' = w)) : effVC X o e w2 (fun v' w' => v' = v ∧ w' = w2) := by
  unfold effVC at h ⊢
  unfold quietOp at hq
  unfold memOp at hm
  cases ho : o.op <;> rw [ho] at h hq hm <;> (try (simp only at h; done)) <;> (try (simp at hq; done)) <;> (try (simp at hm; done)) <;> (try dsimp only at h hq hm ⊢)
  case indexAddr t x y =>
    split at h
    · split at h
      · obtain ⟨b, p, h1, h2, h3, _⟩ := h
        exact ⟨b, p, h1, h2, h3, rfl⟩
      · exact h.elim
    · exact h.elim
  case slice t x lo hi mx =>
    split at h
    · split at h
      · obtain ⟨h1, h2, h3, h4⟩ := h
        exact ⟨h1, h2, h3, fun v' hv => ⟨(h4 v' hv).1, rfl⟩⟩
      · exact h.elim
    · split at h
      · exact ⟨h.1, rfl⟩
      · exact h.elim
    · exact h.elim
  case convert s d x =>
    split at h
    · rename_i hs hd hx
      rw [hd] at hm
      simp at hm
    · rename_i hs hd hx
      rw [hd] at hm
      simp at hm
    · exact ⟨h.1, rfl⟩
    · exact h.elim
  case binOp op t x y yt =>
    cases op <;> (try (simp only at h; done)) <;> (try dsimp only at h ⊢)
    · split at h
      · obtain ⟨h1, h2, h3, _⟩ := h
        exact ⟨h1, h2, h3, rfl⟩
      · exact h.elim
    · split at h
      · exact ⟨h.1, h.2.1, rfl⟩
      · exact h.elim
    · split at h
      · exact ⟨h.1, h.2.1, rfl⟩
      · exact h.elim
  case call c =>
    obtain ⟨callee, args, tys⟩ := c
    cases callee <;> (try (simp only at h; done)) <;> (try (simp at hq; done))
    rename_i b
    cases b <;> (try (simp only at h; done)) <;> (try (simp at hq; done))
    dsimp only at h ⊢
    split at h
    · rename_i m t hl htys
      split at h
      · rename_i k el sz by0 z0 ht
        dsimp only at hm
        rw [htys] at hm
        simp only [ht] at hm
        exact Bool.noConfusion hm
      · exact h.elim
    · exact h.elim
theorem vcOp_pure {v : Value} {w2 : World} (hq : quietOp X.tab o = true) (hm : memOp X.tab o = false) (h : vcOp X o e w (fun v' w' => v' = v ∧ w' = w)) : vcOp X o e w2 (fun v' w' => v' = v ∧ w' = w2) := by
  unfold vcOp at h ⊢
  split at h
  · split at h
    · exact fun c hc => ⟨(h c hc).1, rfl⟩
    · exact h.elim
  · split at h
    · exact ⟨h.1, rfl⟩
    · rw [quiet_sem hq, cond_false] at h ⊢
      exact eff_pure hq hm h
theorem vcG_pure {v : Value} {w2 : World} (hq : quietOp X.tab o = true) (hm : memOp X.tab o = false) (h : QE X ops o e w v) : QE X ops o e w2 v := by
  unfold QE vcG at *
  split at h
  · exact vcOp_pure hq hm h
  · rename_i j want _
    split at h
    · cases want with
      | true => exact vcOp_pure hq hm h
      | false => exact ⟨h.1, rfl⟩
    · cases want with
      | true => exact ⟨h.1, rfl⟩
      | false => exact vcOp_pure hq hm h
    · exact ⟨h.1, rfl⟩
    · exact h.elim
end
/-- In which order the conditions are stated: quiet operations as early as they can be; at 'eff' an operation that acts, and the reads that are to be looked at again behind it; at 'alt' either may come first. -/
inductive Plan where
  | done
  | q (i : Nat) (k : Plan)
  | eff (i : Nat) (risk : List Nat) (k : Plan)
  | alt (a b : Plan)
def Plan.heads : Plan → List Nat
  | .eff i _ _ => [i]
  | .alt a b => a.heads ++ b.heads
  | _ => []
def stepP (X : Pr) (N : Nat) (ops : List Oper) (i : Nat) (e : Env) (w : World) (k : Env → World → Prop) : Prop :=
  match ops[i]? with
  | some o => vcG X ops o (resE e (slotsOf ops o)) w fun v w' => putVC N o.dst v e fun e' => k e' w'
  | none => False
/-- What was read is read again, and is the same. -/
def again (X : Pr) (ops : List Oper) (e : Env) (w : World) : List Nat → Prop
  | [] => True
  | q :: r => (match ops[q]? with
    | some o => vcG X ops o (resE e (slotsOf ops o)) w fun v w' => w' = w ∧ (match o.dst with | some d => look e d = some v | none => True)
    | none => True) ∧ again X ops e w r
def vcP (X : Pr) (N : Nat) (ops : List Oper) (K : Env → World → Prop) : Plan → Env → World → Prop
  | .done, e, w => K e w
  | .q i k, e, w => stepP X N ops i e w fun e' w' => vcP X N ops K k e' w'
  | .eff i [] k, e, w => stepP X N ops i e w fun e' w' => vcP X N ops K k e' w'
  | .eff i risk k, e, w => stepP X N ops i e w fun e' w' => again X ops e' w' risk ∧ vcP X N ops K k e' w'
  | .alt a b, e, w => vcP X N ops K a e w ∧ vcP X N ops K b e w
def readyB (dn : List Nat) (o : Oper) : Bool := (predsOf o).all (isIn dn)
def stuckB (tab : Tab) (ops : List Oper) (dn hs : List Nat) : Bool :=
  (List.range ops.length).all fun i => isIn dn i || (match ops[i]? with
    | some o => !readyB dn o || (!quietOp tab o && isIn hs i)
    | none => true)
def ancB (ops : List Oper) : Nat → List Nat → Nat → Bool
  | 0, ps, q => isIn ps q
  | n + 1, ps, q => isIn ps q || ps.any fun p => match ops[p]? with
    | some o => ancB ops n (predsOf o) q
    | none => false
def riskB (tab : Tab) (ops : List Oper) (dn : List Nat) (o : Oper) (risk : List Nat) : Bool :=
  dn.all fun q => isIn risk q || (match ops[q]? with
    | some oq => !(quietOp tab oq && memOp tab oq)
    | none => true) || ancB ops 8 (predsOf o) q
def okP (tab : Tab) (ops : List Oper) : Plan → Bool → List Nat → Bool
  | .done, inAlt, dn => !inAlt && (List.range ops.length).all (isIn dn)
  | .q i k, inAlt, dn => !inAlt && (match ops[i]? with
    | some o => quietOp tab o && !isIn dn i && readyB dn o
    | none => false) && okP tab ops k false (i :: dn)
  | .eff i risk k, inAlt, dn => (inAlt || stuckB tab ops dn [i]) && (match ops[i]? with
    | some o => !quietOp tab o && !isIn dn i && readyB dn o && riskB tab ops dn o risk
    | none => false) && okP tab ops k false (i :: dn)
  | .alt a b, inAlt, dn => (inAlt || stuckB tab ops dn (Plan.alt a b).heads) && okP tab ops a true dn && okP tab ops b true dn
def pairB (tab : Tab) (ops : List Oper) (i j : Nat) (oi oj : Oper) : Bool :=
  !quietOp tab oi || (
    -- who looks at what i yields waits for i
    (match oi.dst with
      | some d => !isIn (slotsOf ops oj) d || isIn (predsOf oj) i
      | none => true) &&
    -- who turns what i looks at comes ahead of i, or waits for it
    (match oj.dst with
      | some s => !isIn (slotsOf ops oi) s || isIn (predsOf oi) j || (isIn (predsOf oj) i && !quietOp tab oj)
      | none => true) &&
    (Nat.beq i j || (match oi.dst, oj.dst with
      | some d, some d' => !Nat.beq d d'
      | _, _ => true)))
def okD (tab : Tab) (ops : List Oper) : Bool :=
  (List.range ops.length).all fun i => (List.range ops.length).all fun j => match ops[i]?, ops[j]? with
    | some oi, some oj => pairB tab ops i j oi oj
    | _, _ => true
def okAll (tab : Tab) (ops : List Oper) (p : Plan) : Bool := backB 0 ops && okD tab ops && okP tab ops p false []
end Go.Proofs.YtepamajphjgigaaGreatDoor.K
/-! Regions that draw their order: the plan's condition suffices. -/
set_option linter.unusedVariables false
set_option linter.unusedSimpArgs false
namespace Go.Proofs.YtepamajphjgigaaGreatDoor.K
open Go

section
variable {X : Pr} {N : Nat} {ops : List Oper} {K : Env → World → Prop}
structure Fits (X : Pr) (ops : List Oper) : Prop where
  d1 : ∀ (i j : Nat) (oi oj : Oper) (d : Nat), ops[i]? = some oi → ops[j]? = some oj → quietOp X.tab oi = true → oi.dst = some d → d ∈ slotsOf ops oj → i ∈ predsOf oj
  d2 : ∀ (i j : Nat) (oi oj : Oper) (s : Nat), ops[i]? = some oi → ops[j]? = some oj → quietOp X.tab oi = true → oj.dst = some s → s ∈ slotsOf ops oi → j ∈ predsOf oi ∨ (i ∈ predsOf oj ∧ quietOp X.tab oj = false)
  d3 : ∀ (i j : Nat) (oi oj : Oper) (d : Nat), ops[i]? = some oi → ops[j]? = some oj → quietOp X.tab oi = true → i ≠ j → oi.dst = some d → oj.dst ≠ some d
theorem fits_of (h : okD X.tab ops = true) : Fits X ops := by
  have key : ∀ (i j : Nat) (oi oj : Oper), ops[i]? = some oi → ops[j]? = some oj → pairB X.tab ops i j oi oj = true := by
    intro i j oi oj hi hj
    have hil := (List.getElem?_eq_some_iff.1 hi).1
    have hjl := (List.getElem?_eq_some_iff.1 hj).1
    have := List.all_eq_true.1 (List.all_eq_true.1 h i (by simpa using hil)) j (by simpa using hjl)
    rw [hi, hj] at this
    exact this
  refine ⟨fun i j oi oj d hi hj hq hd hs => ?_, fun i j oi oj s hi hj hq hd hs => ?_, fun i j oi oj d hi hj hq hne hd hd' => ?_⟩
  · have := key i j oi oj hi hj
    simp only [pairB, hq, hd, Bool.not_true, Bool.false_or, Bool.and_eq_true, isIn_iff.2 hs] at this
    exact isIn_iff.1 this.1.1
  · have := key i j oi oj hi hj
    simp only [pairB, hq, hd, Bool.not_true, Bool.false_or, Bool.and_eq_true, isIn_iff.2 hs, Bool.or_eq_true, isIn_iff, Bool.not_eq_true'] at this
    exact this.1.2
  · have := key i j oi oj hi hj
    have hb : Nat.beq i j = false := by
      cases hq : Nat.beq i j with
      | false => rfl
      | true => exact absurd (Nat.eq_of_beq_eq_true hq) hne
    simp only [pairB, hq, hd, hd', hb, Bool.not_true, Bool.false_or, Bool.and_eq_true, Nat.beq_refl] at this
    exact absurd this.2 (by simp)
/-- How the run stands to the plan: D has been run, dn is behind us in the plan; between them quiet operations alone. -/
structure Sim (X : Pr) (N : Nat) (ops : List Oper) (K : Env → World → Prop) (p : Plan) (dn D : List Nat) (e : Env) (a : Act) (w : World) : Prop where
  sub : ∀ i, i ∈ D → i ∈ dn
  quiet : ∀ (i : Nat) (o : Oper), i ∈ dn → i ∉ D → ops[i]? = some o → quietOp X.tab o = true
  lt : ∀ i, i ∈ dn → i < ops.length
  closed : ∀ (i : Nat) (o : Oper), i ∈ D → ops[i]? = some o → ∀ q, q ∈ predsOf o → q ∈ D
  closedC : ∀ (i : Nat) (o : Oper), i ∈ dn → ops[i]? = some o → ∀ q, q ∈ predsOf o → q ∈ dn
  size : a.tmps.size = N
  defers : a.defers = []
  agree : ∀ t v, look e t = some v → (∀ (i : Nat) (o : Oper), i ∈ dn → i ∉ D → ops[i]? = some o → o.dst ≠ some t) → t < N ∧ a.tmps.getD t undef = v
  pend : ∀ (i : Nat) (o : Oper), i ∈ dn → i ∉ D → ops[i]? = some o → ∃ v, QE X ops o (resE e (slotsOf ops o)) w v ∧ ∀ d, o.dst = some d → look e d = some v ∧ d < N
  ok : okP X.tab ops p false dn = true
  vc : vcP X N ops K p e w
theorem look_cons_ne {e : Env} {d t : Nat} {v : Value} (h : d ≠ t) : look ((d, v) :: e) t = look e t := by
  simp only [look]
  have : Nat.beq d t = false := by
    cases hq : Nat.beq d t with
    | false => rfl
    | true => exact absurd (Nat.eq_of_beq_eq_true hq) h
  rw [this, cond_false]
theorem look_cons_eq {e : Env} {d : Nat} {v : Value} : look ((d, v) :: e) d = some v := by simp [look, Nat.beq_refl]
theorem putVC_cases {dst : Option Tmp} {v : Value} {e : Env} {k : Env → Prop} (h : putVC N dst v e k) : (dst = none ∧ k e) ∨ ∃ d, dst = some d ∧ d < N ∧ k ((d, v) :: e) := by
  unfold putVC at h
  split at h
  · exact .inl ⟨rfl, h⟩
  · rename_i d
    cases hc : Nat.blt d N with
    | true => rw [hc] at h; exact .inr ⟨d, rfl, by simpa [Nat.blt_eq] using hc, h⟩
    | false => rw [hc] at h; exact h.elim
/-- The plan goes on by one quiet operation; the run stands. -/
theorem Sim.quietStep (F : Fits X ops) {i : Nat} {k : Plan} {dn D : List Nat} {e : Env} {a : Act} {w : World} (s : Sim X N ops K (.q i k) dn D e a w) : ∃ e', Sim X N ops K k (i :: dn) D e' a w := by
  have hok := s.ok
  simp only [okP, Bool.and_eq_true, Bool.not_false, true_and] at hok
  obtain ⟨hok1, hok2⟩ := hok
  have hvc := s.vc
  simp only [vcP, stepP] at hvc
  split at hvc
  · rename_i o ho
    rw [ho] at hok1
    simp only [Bool.and_eq_true, Bool.not_eq_true'] at hok1
    obtain ⟨⟨hq, hni⟩, hr⟩ := hok1
    have hni' : i ∉ dn := fun h => by rw [isIn_iff.2 h] at hni; cases hni
    have hpr : ∀ q, q ∈ predsOf o → q ∈ dn := fun q hq => isIn_iff.1 (List.all_eq_true.1 hr q hq)
    obtain ⟨v, hqe, hput⟩ := vcG_quiet hq hvc
    have hil := (List.getElem?_eq_some_iff.1 ho).1
    have hnD : i ∉ D := fun h => hni' (s.sub i h)
    rcases putVC_cases hput with ⟨hd, hk⟩ | ⟨d, hd, hlt, hk⟩
    · refine ⟨e, ⟨fun j hj => List.mem_cons_of_mem _ (s.sub j hj), fun j oj hj hjD hoj => ?_, fun j hj => ?_, s.closed, fun j oj hj hoj q hq' => ?_, s.size, s.defers, fun t u hu hx => ?_, fun j oj hj hjD hoj => ?_, hok2, hk⟩⟩
      · rcases List.mem_cons.1 hj with rfl | hj
        · rw [ho, Option.some.injEq] at hoj; rw [← hoj]; exact hq
        · exact s.quiet j oj hj hjD hoj
      · rcases List.mem_cons.1 hj with rfl | hj
        · exact hil
        · exact s.lt j hj
      · rcases List.mem_cons.1 hj with rfl | hj
        · rw [ho, Option.some.injEq] at hoj; rw [← hoj] at hq'; exact List.mem_cons_of_mem _ (hpr q hq')
        · exact List.mem_cons_of_mem _ (s.closedC j oj hj hoj q hq')
      · exact s.agree t u hu fun j oj hj hjD hoj => hx j oj (List.mem_cons_of_mem _ hj) hjD hoj
      · rcases List.mem_cons.1 hj with rfl | hj
        · rw [ho, Option.some.injEq] at hoj
          subst hoj
          exact ⟨v, hqe, fun d hd' => by rw [hd] at hd'; cases hd'⟩
        · exact s.pend j oj hj hjD hoj
    · have hres : ∀ (j : Nat) (oj : Oper), (j ∈ dn ∨ j = i) → ops[j]? = some oj → quietOp X.tab oj = true → resE ((d, v) :: e) (slotsOf ops oj) = resE e (slotsOf ops oj) := by
        intro j oj hj hoj hqj
        refine resE_congr _ fun t ht => look_cons_ne fun hdt => ?_
        subst hdt
        rcases F.d2 j i oj o d hoj ho hqj hd ht with h | ⟨_, h⟩
        · rcases hj with hj | rfl
          · exact hni' (s.closedC j oj hj hoj i h)
          · rw [ho, Option.some.injEq] at hoj
            subst hoj
            exact hni' (hpr _ h)
        · rw [hq] at h; cases h
      refine ⟨(d, v) :: e, ⟨fun j hj => List.mem_cons_of_mem _ (s.sub j hj), fun j oj hj hjD hoj => ?_, fun j hj => ?_, s.closed, fun j oj hj hoj q hq' => ?_, s.size, s.defers, fun t u hu hx => ?_, fun j oj hj hjD hoj => ?_, hok2, hk⟩⟩
      · rcases List.mem_cons.1 hj with rfl | hj
        · rw [ho, Option.some.injEq] at hoj; rw [← hoj]; exact hq
        · exact s.quiet j oj hj hjD hoj
      · rcases List.mem_cons.1 hj with rfl | hj
        · exact hil
        · exact s.lt j hj
      · rcases List.mem_cons.1 hj with rfl | hj
        · rw [ho, Option.some.injEq] at hoj; rw [← hoj] at hq'; exact List.mem_cons_of_mem _ (hpr q hq')
        · exact List.mem_cons_of_mem _ (s.closedC j oj hj hoj q hq')
      · have hne : d ≠ t := fun h => hx i o (by simp) hnD ho (by rw [hd, h])
        rw [look_cons_ne hne] at hu
        exact s.agree t u hu fun j oj hj hjD hoj => hx j oj (List.mem_cons_of_mem _ hj) hjD hoj
      · rcases List.mem_cons.1 hj with rfl | hj
        · rw [ho, Option.some.injEq] at hoj
          subst hoj
          refine ⟨v, ?_, fun d' hd' => ?_⟩
          · rw [hres j o (.inr rfl) ho hq]; exact hqe
          · rw [hd, Option.some.injEq] at hd'
            subst hd'
            exact ⟨look_cons_eq, hlt⟩
        · have hqj := s.quiet j oj hj hjD hoj
          obtain ⟨v', h1, h2⟩ := s.pend j oj hj hjD hoj
          refine ⟨v', ?_, fun d' hd' => ?_⟩
          · rw [hres j oj (.inl hj) hoj hqj]; exact h1
          · have hne : d ≠ d' := fun h => by
              subst h
              exact F.d3 j i oj o d hoj ho hqj (fun h => hni' (h ▸ hj)) hd' hd
            rw [look_cons_ne hne]
            exact h2 d' hd'
  · exact hvc.elim
theorem stuck_of {dn hs : List Nat} (h : stuckB X.tab ops dn hs = true) {i : Nat} {o : Oper} (ho : ops[i]? = some o) (hi : i ∉ dn) (hp : ∀ q, q ∈ predsOf o → q ∈ dn) : quietOp X.tab o = false ∧ i ∈ hs := by
  have hil := (List.getElem?_eq_some_iff.1 ho).1
  have := List.all_eq_true.1 h i (by simpa using hil)
  rw [ho] at this
  have hb : isIn dn i = false := by
    cases hq : isIn dn i with
    | false => rfl
    | true => exact absurd (isIn_iff.1 hq) hi
  have hr : readyB dn o = true := List.all_eq_true.2 fun q hq => isIn_iff.2 (hp q hq)
  simp only [hb, hr, Bool.not_true, Bool.false_or, Bool.and_eq_true, Bool.not_eq_true'] at this
  exact ⟨this.1, isIn_iff.1 this.2⟩
theorem done_of {dn : List Nat} (h : okP X.tab ops .done false dn = true) {i : Nat} (hi : i < ops.length) : i ∈ dn := by
  simp only [okP, Bool.not_false, Bool.true_and] at h
  exact isIn_iff.1 (List.all_eq_true.1 h i (by simpa using hi))
/-- The plan goes on until it has passed the quiet operation i. -/
theorem Sim.toQuiet (F : Fits X ops) : ∀ (p : Plan) {dn D : List Nat} {e : Env} {a : Act} {w : World} {i : Nat} {o : Oper}, Sim X N ops K p dn D e a w → ops[i]? = some o → quietOp X.tab o = true → (∀ q, q ∈ predsOf o → q ∈ D) →
    ∃ p' dn' e', Sim X N ops K p' dn' D e' a w ∧ i ∈ dn'
  | p, dn, D, e, a, w, i, o, s, ho, hq, hp => by
    by_cases hi : i ∈ dn
    · exact ⟨p, dn, e, s, hi⟩
    · cases p with
      | done => exact absurd (done_of s.ok (List.getElem?_eq_some_iff.1 ho).1) hi
      | q j k =>
        obtain ⟨e', s'⟩ := s.quietStep F
        exact Sim.toQuiet F k s' ho hq hp
      | eff j risk k =>
        have hok := s.ok
        simp only [okP, Bool.and_eq_true, Bool.false_or] at hok
        have := stuck_of hok.1.1 ho hi fun q hq => s.sub q (hp q hq)
        rw [hq] at this
        cases this.1
      | alt b c =>
        have hok := s.ok
        simp only [okP, Bool.and_eq_true, Bool.false_or] at hok
        have := stuck_of hok.1.1 ho hi fun q hq => s.sub q (hp q hq)
        rw [hq] at this
        cases this.1
theorem pick_of : ∀ (p : Plan) {dn : List Nat} {e : Env} {w : World} {i : Nat}, okP X.tab ops p true dn = true → vcP X N ops K p e w → i ∈ p.heads →
    ∃ risk k, okP X.tab ops (.eff i risk k) true dn = true ∧ vcP X N ops K (.eff i risk k) e w
  | .done, dn, e, w, i, h, _, hi => by simp [Plan.heads] at hi
  | .q j k, dn, e, w, i, h, _, hi => by simp [Plan.heads] at hi
  | .eff j risk k, dn, e, w, i, h, hv, hi => by
    simp only [Plan.heads, List.mem_singleton] at hi
    subst hi
    exact ⟨risk, k, h, hv⟩
  | .alt b c, dn, e, w, i, h, hv, hi => by
    simp only [okP, Bool.and_eq_true] at h
    simp only [Plan.heads, List.mem_append] at hi
    rcases hi with hi | hi
    · exact pick_of b h.1.2 hv.1 hi
    · exact pick_of c h.2 hv.2 hi
/-- The plan goes on to the operation i, which acts. -/
theorem Sim.toEff (F : Fits X ops) : ∀ (p : Plan) {dn D : List Nat} {e : Env} {a : Act} {w : World} {i : Nat} {o : Oper}, Sim X N ops K p dn D e a w → ops[i]? = some o → quietOp X.tab o = false → i ∉ D → (∀ q, q ∈ predsOf o → q ∈ D) →
    ∃ p' dn' e' risk k, Sim X N ops K p' dn' D e' a w ∧ i ∉ dn' ∧ okP X.tab ops (.eff i risk k) true dn' = true ∧ vcP X N ops K (.eff i risk k) e' w
  | p, dn, D, e, a, w, i, o, s, ho, hq, hiD, hp => by
    have hi : i ∉ dn := fun h => by
      have := s.quiet i o h hiD ho
      rw [hq] at this
      cases this
    cases p with
    | done => exact absurd (done_of s.ok (List.getElem?_eq_some_iff.1 ho).1) hi
    | q j k =>
      obtain ⟨e', s'⟩ := s.quietStep F
      exact Sim.toEff F k s' ho hq hiD hp
    | eff j risk k =>
      have hok := s.ok
      have hst := hok
      simp only [okP, Bool.and_eq_true, Bool.false_or] at hst
      have := stuck_of hst.1.1 ho hi fun q hq => s.sub q (hp q hq)
      simp only [List.mem_singleton] at this
      obtain ⟨_, rfl⟩ := this
      refine ⟨_, dn, e, risk, k, s, hi, ?_, s.vc⟩
      simp only [okP, Bool.true_or, Bool.true_and, Bool.and_eq_true]
      exact ⟨hst.1.2, hst.2⟩
    | alt b c =>
      have hok := s.ok
      have hst := hok
      simp only [okP, Bool.and_eq_true, Bool.false_or] at hst
      have := stuck_of hst.1.1 ho hi fun q hq => s.sub q (hp q hq)
      obtain ⟨risk, k, h1, h2⟩ := pick_of (.alt b c) (dn := dn) (by simp only [okP, Bool.true_or, Bool.true_and, Bool.and_eq_true]; exact ⟨hst.1.2, hst.2⟩) s.vc this.2
      exact ⟨_, dn, e, risk, k, s, hi, h1, h2⟩
theorem anc_of {D : List Nat} (hD : ∀ (i : Nat) (o : Oper), i ∈ D → ops[i]? = some o → ∀ q, q ∈ predsOf o → q ∈ D) : ∀ (n : Nat) (ps : List Nat) (q : Nat), (∀ p, p ∈ ps → p ∈ D) → ancB ops n ps q = true → q ∈ D
  | 0, ps, q, hps, h => hps q (isIn_iff.1 h)
  | n + 1, ps, q, hps, h => by
    simp only [ancB, Bool.or_eq_true, List.any_eq_true] at h
    rcases h with h | ⟨p, hp, h⟩
    · exact hps q (isIn_iff.1 h)
    · split at h
      · rename_i o ho
        exact anc_of hD n _ q (hD p o (hps p hp) ho) h
      · cases h
theorem again_of {e : Env} {w : World} : ∀ {risk : List Nat} {q : Nat} {o : Oper}, again X ops e w risk → q ∈ risk → ops[q]? = some o →
    vcG X ops o (resE e (slotsOf ops o)) w fun v w' => w' = w ∧ (match o.dst with | some d => look e d = some v | none => True)
  | [], q, o, h, hq, ho => by simp at hq
  | r :: rs, q, o, h, hq, ho => by
    rcases List.mem_cons.1 hq with rfl | hq
    · have := h.1
      rw [ho] at this
      exact this
    · exact again_of h.2 hq ho
theorem eff_parts {i : Nat} {risk : List Nat} {k : Plan} {e : Env} {w : World} (h : vcP X N ops K (.eff i risk k) e w) : stepP X N ops i e w fun e' w' => again X ops e' w' risk ∧ vcP X N ops K k e' w' := by
  cases risk with
  | nil =>
    simp only [vcP] at h
    have : (fun e' w' => again X ops e' w' [] ∧ vcP X N ops K k e' w') = fun e' w' => vcP X N ops K k e' w' := by
      funext e' w'
      simp [again]
    rw [this]
    exact h
  | cons r rs => exact h
theorem agree_res (F : Fits X ops) {p : Plan} {dn D : List Nat} {e : Env} {a : Act} {w : World} {o : Oper} (s : Sim X N ops K p dn D e a w) {i : Nat} (ho : ops[i]? = some o) (hp : ∀ q, q ∈ predsOf o → q ∈ D) : Agree N (resE e (slotsOf ops o)) a := by
  refine ⟨s.size, fun t v hv => ?_, s.defers⟩
  obtain ⟨h1, h2⟩ := look_resE _ hv
  refine s.agree t v h2 fun j oj hj hjD hoj hd => hjD (hp j ?_)
  exact F.d1 j i oj o t hoj ho (s.quiet j oj hj hjD hoj) hd h1
/-- In whatever order the edges allow. -/
theorem sim_sound (F : Fits X ops) {Q : Exit → Act → World → Prop} (hK : ∀ e a w, Agree N e a → K e w → Q .normal a w) : ∀ (l D : List Nat), Lin ops D l → ∀ (p : Plan) (dn : List Nat) (e : Env) (a : Act) (w : World), Sim X N ops K p dn D e a w →
    wpOps X.P ops.toArray Q l a w := by
  intro l D hl
  induction hl with
  | nil D hD =>
    intro p dn e a w s
    have hall : ∀ i, i < ops.length → i ∈ dn := fun i hi => s.sub i (hD i hi)
    have hin : ∀ (i : Nat) (o : Oper), ops[i]? = some o → isIn dn i = true := fun i o ho => isIn_iff.2 (hall i (List.getElem?_eq_some_iff.1 ho).1)
    have hpd : vcP X N ops K .done e w := by
      cases p with
      | done => exact s.vc
      | q j k =>
        have hok := s.ok
        simp only [okP, Bool.and_eq_true] at hok
        exfalso
        have h := hok.1.2
        split at h
        · rename_i o ho
          simp [hin j o ho] at h
        · cases h
      | eff j risk k =>
        have hok := s.ok
        simp only [okP, Bool.and_eq_true] at hok
        exfalso
        have h := hok.1.2
        split at h
        · rename_i o ho
          simp [hin j o ho] at h
        · cases h
      | alt b c =>
        exfalso
        have hok := s.ok
        simp only [okP, Bool.and_eq_true] at hok
        have hhead : ∀ (p : Plan), okP X.tab ops p true dn = true → False := by
          intro p
          induction p with
          | done => intro h; simp [okP] at h
          | q i k _ => intro h; simp [okP] at h
          | eff i r k _ =>
            intro h
            simp only [okP, Bool.and_eq_true] at h
            have h := h.1.2
            split at h
            · rename_i o ho
              simp [hin i o ho] at h
            · cases h
          | alt b c ihb ihc =>
            intro h
            simp only [okP, Bool.and_eq_true] at h
            exact ihb h.1.2
        exact hhead b hok.1.2
    have hag : Agree N e a := by
      refine ⟨s.size, fun t v hv => s.agree t v hv fun i o hi hiD ho => ?_, s.defers⟩
      exact absurd (hD i (s.lt i hi)) hiD
    exact hK e a w hag hpd
  | cons D i l o ho hiD hp hl ih =>
    intro p dn e a w s
    have hoA : ops.toArray[i]? = some o := by simpa using ho
    show match ops.toArray[i]? with
      | none => wpOps X.P ops.toArray Q l a w
      | some o => if Region.wanted o (yielded ops.toArray a.tmps) then o.wp X.P a w (wpOps X.P ops.toArray Q l) Q ∨ (o.asks X.P a w ∧ LetsOut Q) else wpOps X.P ops.toArray Q l (a.put o.dst undef) w
    rw [hoA]
    cases hq : quietOp X.tab o with
    | true =>
      obtain ⟨p, dn, e, s, hin⟩ := s.toQuiet F p ho hq hp
      obtain ⟨v, hqe, hv⟩ := s.pend i o hin hiD ho
      refine vcG_sound (Q := Q) (agree_res F s ho hp) hqe fun v' w' hvw => ?_
      obtain ⟨rfl, rfl⟩ := hvw
      refine ih p dn e _ w' ⟨fun j hj => ?_, fun j oj hj hjD hoj => s.quiet j oj hj (fun h => hjD (List.mem_cons_of_mem _ h)) hoj, s.lt, fun j oj hj hoj q hq' => ?_, s.closedC, ?_, ?_, fun t u hu hx => ?_, fun j oj hj hjD hoj => s.pend j oj hj (fun h => hjD (List.mem_cons_of_mem _ h)) hoj, s.ok, s.vc⟩
      · rcases List.mem_cons.1 hj with rfl | hj
        · exact hin
        · exact s.sub j hj
      · rcases List.mem_cons.1 hj with rfl | hj
        · rw [ho, Option.some.injEq] at hoj; rw [← hoj] at hq'; exact List.mem_cons_of_mem _ (hp q hq')
        · exact List.mem_cons_of_mem _ (s.closed j oj hj hoj q hq')
      · cases hd : o.dst with
        | none => simpa [Act.put] using s.size
        | some d => simpa [Act.put] using s.size
      · cases hd : o.dst with
        | none => simpa [Act.put] using s.defers
        | some d => simpa [Act.put] using s.defers
      · cases hd : o.dst with
        | none =>
          simp only [Act.put]
          refine s.agree t u hu fun j oj hj hjD hoj => ?_
          by_cases hji : j = i
          · subst hji
            rw [ho, Option.some.injEq] at hoj
            rw [← hoj, hd]
            simp
          · exact hx j oj hj (fun h => by rcases List.mem_cons.1 h with h | h; exact hji h; exact hjD h) hoj
        | some d =>
          obtain ⟨hld, hdN⟩ := hv d hd
          by_cases hdt : d = t
          · subst hdt
            rw [hld, Option.some.injEq] at hu
            refine ⟨hdN, ?_⟩
            rw [← hu]
            simp [Act.put, Array.getD, s.size, hdN]
          · have := s.agree t u hu fun j oj hj hjD hoj => by
              by_cases hji : j = i
              · subst hji
                rw [ho, Option.some.injEq] at hoj
                rw [← hoj, hd]
                simpa using hdt
              · exact hx j oj hj (fun h => by rcases List.mem_cons.1 h with h | h; exact hji h; exact hjD h) hoj
            refine ⟨this.1, ?_⟩
            rw [← this.2]
            simp [Act.put, Array.getD, s.size, this.1, hdt]
    | false =>
      obtain ⟨p, dn, e, risk, k, s, hin, hok, hvc⟩ := s.toEff F p ho hq hiD hp
      have hvc := eff_parts hvc
      unfold stepP at hvc
      rw [ho] at hvc
      simp only [okP, Bool.true_or, Bool.true_and, Bool.and_eq_true] at hok
      obtain ⟨hok1, hok2⟩ := hok
      rw [ho] at hok1
      simp only [Bool.and_eq_true] at hok1
      have hrisk := hok1.2
      refine vcG_sound (Q := Q) (agree_res F s ho hp) hvc fun v w' hput => ?_
      have hpl : ∀ j, j ∈ i :: dn → j ∉ i :: D → j ∈ dn ∧ j ∉ D ∧ j ≠ i := by
        intro j hj hjD
        rcases List.mem_cons.1 hj with rfl | hj
        · exact absurd (by simp) hjD
        · exact ⟨hj, fun h => hjD (List.mem_cons_of_mem _ h), fun h => hjD (by simp [h])⟩
      have common : ∀ (e' : Env), (∀ d, o.dst = some d → e' = (d, v) :: e) → (o.dst = none → e' = e) → again X ops e' w' risk → ∀ (j : Nat) (oj : Oper), j ∈ i :: dn → j ∉ i :: D → ops[j]? = some oj →
          ∃ u, QE X ops oj (resE e' (slotsOf ops oj)) w' u ∧ ∀ d, oj.dst = some d → look e' d = some u ∧ d < N := by
        intro e' he1 he2 hag j oj hj hjD hoj
        obtain ⟨hjd, hjD', hji⟩ := hpl j hj hjD
        have hqj := s.quiet j oj hjd hjD' hoj
        obtain ⟨u, h1, h2⟩ := s.pend j oj hjd hjD' hoj
        have hlk : ∀ t, (t ∈ slotsOf ops oj ∨ oj.dst = some t) → look e' t = look e t := by
          intro t ht
          cases hd : o.dst with
          | none => rw [he2 hd]
          | some d =>
            rw [he1 d hd]
            refine look_cons_ne fun hdt => ?_
            subst hdt
            rcases ht with ht | ht
            · rcases F.d2 j i oj o d hoj ho hqj hd ht with h | ⟨h, _⟩
              · exact hin (s.closedC j oj hjd hoj i h)
              · exact hjD' (hp j h)
            · exact F.d3 j i oj o d hoj ho hqj hji ht hd
        have hres : resE e' (slotsOf ops oj) = resE e (slotsOf ops oj) := resE_congr _ fun t ht => hlk t (.inl ht)
        have hdd : ∀ d, oj.dst = some d → look e' d = some u ∧ d < N := fun d hd => by
          rw [hlk d (.inr hd)]
          exact h2 d hd
        cases hm : memOp X.tab oj with
        | false => exact ⟨u, by rw [hres]; exact vcG_pure hqj hm h1, hdd⟩
        | true =>
          have hr := List.all_eq_true.1 hrisk j hjd
          rw [hoj] at hr
          simp only [hqj, hm, Bool.and_self, Bool.not_true, Bool.or_false, Bool.or_eq_true] at hr
          rcases hr with hr | hr
          · have hag' := again_of hag (isIn_iff.1 hr) hoj
            obtain ⟨u', g1, g2⟩ := vcG_quiet hqj hag'
            refine ⟨u', g1, fun d hd => ?_⟩
            have g3 := g2.2
            rw [hd] at g3
            exact ⟨g3, (hdd d hd).2⟩
          · exact absurd (anc_of s.closed 8 _ j hp hr) hjD'
      have hsub : ∀ j, j ∈ i :: D → j ∈ i :: dn := fun j hj => by
        rcases List.mem_cons.1 hj with rfl | hj
        · simp
        · exact List.mem_cons_of_mem _ (s.sub j hj)
      have hquiet : ∀ (j : Nat) (oj : Oper), j ∈ i :: dn → j ∉ i :: D → ops[j]? = some oj → quietOp X.tab oj = true := fun j oj hj hjD hoj => by
        obtain ⟨h1, h2, _⟩ := hpl j hj hjD
        exact s.quiet j oj h1 h2 hoj
      have hlt : ∀ j, j ∈ i :: dn → j < ops.length := fun j hj => by
        rcases List.mem_cons.1 hj with rfl | hj
        · exact (List.getElem?_eq_some_iff.1 ho).1
        · exact s.lt j hj
      have hcl : ∀ (j : Nat) (oj : Oper), j ∈ i :: D → ops[j]? = some oj → ∀ q, q ∈ predsOf oj → q ∈ i :: D := fun j oj hj hoj q hq' => by
        rcases List.mem_cons.1 hj with rfl | hj
        · rw [ho, Option.some.injEq] at hoj; rw [← hoj] at hq'; exact List.mem_cons_of_mem _ (hp q hq')
        · exact List.mem_cons_of_mem _ (s.closed j oj hj hoj q hq')
      have hclC : ∀ (j : Nat) (oj : Oper), j ∈ i :: dn → ops[j]? = some oj → ∀ q, q ∈ predsOf oj → q ∈ i :: dn := fun j oj hj hoj q hq' => by
        rcases List.mem_cons.1 hj with rfl | hj
        · rw [ho, Option.some.injEq] at hoj; rw [← hoj] at hq'; exact List.mem_cons_of_mem _ (s.sub q (hp q hq'))
        · exact List.mem_cons_of_mem _ (s.closedC j oj hj hoj q hq')
      rcases putVC_cases hput with ⟨hd, hag, hk⟩ | ⟨d, hd, hdN, hag, hk⟩
      · refine ih k (i :: dn) e _ w' ⟨hsub, hquiet, hlt, hcl, hclC, by simpa [hd, Act.put] using s.size, by simpa [hd, Act.put] using s.defers, fun t u hu hx => ?_, common e (fun d' hd' => by rw [hd] at hd'; cases hd') (fun _ => rfl) hag, hok2, hk⟩
        simp only [hd, Act.put]
        exact s.agree t u hu fun j oj hj hjD hoj => by
          by_cases hji : j = i
          · subst hji
            exact absurd hj hin
          · exact hx j oj (List.mem_cons_of_mem _ hj) (fun h => by rcases List.mem_cons.1 h with h | h; exact hji h; exact hjD h) hoj
      · refine ih k (i :: dn) ((d, v) :: e) _ w' ⟨hsub, hquiet, hlt, hcl, hclC, by simpa [hd, Act.put] using s.size, by simpa [hd, Act.put] using s.defers, fun t u hu hx => ?_, common _ (fun d' hd' => by rw [hd, Option.some.injEq] at hd'; rw [hd']) (fun h => by rw [hd] at h; cases h) hag, hok2, hk⟩
        by_cases hdt : d = t
        · subst hdt
          rw [look_cons_eq, Option.some.injEq] at hu
          subst hu
          refine ⟨hdN, ?_⟩
          simp [hd, Act.put, Array.getD, s.size, hdN]
        · rw [look_cons_ne hdt] at hu
          have := s.agree t u hu fun j oj hj hjD hoj => by
            by_cases hji : j = i
            · subst hji
              exact absurd hj hin
            · exact hx j oj (List.mem_cons_of_mem _ hj) (fun h => by rcases List.mem_cons.1 h with h | h; exact hji h; exact hjD h) hoj
          refine ⟨this.1, ?_⟩
          rw [← this.2]
          simp [hd, Act.put, Array.getD, s.size, this.1, hdt]
end
section
variable {X : Pr} {N : Nat} {e : Env} {w : World} {Q : Exit → Env → World → Prop} {y : Code}
theorem draw_wp {id : Nat} {l : List Oper} {K : Env → World → Prop} (hm : X.P.follows .mixedOrders = true) (p : Plan) (hok : okAll X.tab l p = true) (h : vcP X N l K p e w.drew) {a : Act} (ha : Agree N e a) {Q : Exit → Act → World → Prop}
    (hK : ∀ e a w, Agree N e a → K e w → Q .normal a w) : (Code.region id l.toArray true).wp X.P Q a w := by
  simp only [okAll, Bool.and_eq_true] at hok
  refine wp_region_draw fun t => ?_
  have hs : Region.schedule (X.P.follows .mixedOrders) l.toArray t = Region.linearise .any l.toArray t := by
    unfold Region.schedule
    rw [hm]
    simp
  rw [hs]
  refine sim_sound (fits_of hok.1.2) hK _ [] (lin_of hok.1.1 t) p [] e a _ ⟨by simp, by simp, by simp, by simp, by simp, ha.size, ha.defers, fun t v hv _ => ha.get t v hv, by simp, hok.2, h⟩
/-- A region that draws its order, and what stands behind it. -/
theorem V.draw {id : Nat} {l : List Oper} (hm : X.P.follows .mixedOrders = true) (p : Plan) (hok : okAll X.tab l p = true) (h : vcP X N l (fun e' w' => V X.P N y Q e' w') p e w.drew) : V X.P N (.seq (.region id l.toArray true) y) Q e w :=
  V.seq ⟨fun a ha => draw_wp hm p hok h ha fun e' a' w' h1 h2 => ⟨e', h1, h2⟩⟩
theorem V.drawEnd {id : Nat} {l : List Oper} (hm : X.P.follows .mixedOrders = true) (p : Plan) (hok : okAll X.tab l p = true) (h : vcP X N l (fun e' w' => Q .normal e' w') p e w.drew) : V X.P N (.region id l.toArray true) Q e w :=
  ⟨fun a ha => draw_wp hm p hok h ha fun e' a' w' h1 h2 => ⟨e', h1, h2⟩⟩
end
end Go.Proofs.YtepamajphjgigaaGreatDoor.K
