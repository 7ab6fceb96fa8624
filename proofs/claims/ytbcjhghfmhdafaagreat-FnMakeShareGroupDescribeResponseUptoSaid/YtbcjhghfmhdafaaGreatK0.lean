/- A calculus of verification conditions over translated code: environments, relations of worlds, type rows. -/
import Derived.Below
import Derived.Tactics
import Derived.Laws.AppendOwn
import Derived.Laws.Rows
import Derived.Laws.Tables
import Derived.ArgAppend
import Derived.KernelRfl
set_option linter.unusedVariables false
set_option linter.unusedSimpArgs false
namespace Go.Proofs.YtbcjhghfmhdafaaGreat.K
open Go

/-! ## Environments: what is known of the slots -/
abbrev Env := List (Nat × Value)
def look : Env → Nat → Option Value
  | [], _ => none
  | (k, v) :: r, t => cond (Nat.beq k t) (some v) (look r t)
def ev (e : Env) : Operand → Option Value
  | .tmp t => look e t
  | .const v => some v
  | .global g => some (.pointer (some ⟨g, 0, none⟩))
  | .func f => some (.func (.func f) #[] #[])
def evs (e : Env) : List Operand → Option (List Value)
  | [] => some []
  | x :: r => match ev e x, evs e r with
    | some v, some l => some (v :: l)
    | _, _ => none
/-- All of a list of slots is known. -/
def Has : Env → Env → Prop
  | [], _ => True
  | (t, v) :: r, e => look e t = some v ∧ Has r e
structure Agree (N : Nat) (e : Env) (a : Act) : Prop where
  size : a.tmps.size = N
  get : ∀ t v, look e t = some v → t < N ∧ a.tmps.getD t undef = v
  defers : a.defers = []
theorem Agree.ev {N : Nat} {e : Env} {a : Act} (h : Agree N e a) {x : Operand} {v : Value} (hx : ev e x = some v) : a.eval x = v := by
  cases x with
  | tmp t => exact (h.get t v hx).2
  | const c => simpa [K.ev, Act.eval] using hx
  | global g => simpa [K.ev, Act.eval] using hx
  | func f => simpa [K.ev, Act.eval] using hx
theorem Agree.evs {N : Nat} {e : Env} {a : Act} (h : Agree N e a) : ∀ (xs : List Operand) (l : List Value), evs e xs = some l → xs.map a.eval = l
  | [], l, hl => by simp [K.evs] at hl; simp [hl]
  | x :: r, l, hl => by
    simp only [K.evs] at hl
    split at hl
    · rename_i v l' hv hr
      simp only [Option.some.injEq] at hl
      rw [← hl, List.map_cons, h.ev hv, Agree.evs h r l' hr]
    · simp at hl
theorem Agree.put {N : Nat} {e : Env} {a : Act} (h : Agree N e a) {d : Nat} (hd : d < N) (v : Value) : Agree N ((d, v) :: e) (a.put (some d) v) := by
  refine ⟨by simp [Act.put, h.size], fun t u hu => ?_, h.defers⟩
  simp only [look] at hu
  by_cases ht : d = t
  · subst ht
    simp only [Nat.beq_refl, cond_true, Option.some.injEq] at hu
    refine ⟨hd, ?_⟩
    simp [Act.put, Array.getD, h.size, hd, hu]
  · have hb : Nat.beq d t = false := by
      cases hq : Nat.beq d t with
      | false => rfl
      | true => exact absurd (Nat.eq_of_beq_eq_true hq) ht
    rw [hb, cond_false] at hu
    obtain ⟨h1, h2⟩ := h.get t u hu
    refine ⟨h1, ?_⟩
    rw [← h2]
    simp [Act.put, Array.getD, h.size, h1, ht]
theorem Has.get : ∀ {l e : Env}, Has l e → ∀ t v, look l t = some v → look e t = some v
  | [], _, _, t, v, h => by simp [look] at h
  | (k, u) :: r, e, ⟨h0, hr⟩, t, v, h => by
    simp only [look] at h
    cases hq : Nat.beq k t with
    | true =>
      rw [hq, cond_true] at h
      rw [← Nat.eq_of_beq_eq_true hq, h0, h]
    | false => rw [hq, cond_false] at h; exact Has.get hr t v h
theorem Agree.weaken {N : Nat} {e l : Env} {a : Act} (h : Agree N e a) (hl : Has l e) : Agree N l a :=
  ⟨h.size, fun t v hv => h.get t v (hl.get t v hv), h.defers⟩

/-! ## Worlds: what has changed -/
/-- From w to w' no block that w has was changed, but those of M; the streams are as they were. -/
structure Ext (M : Nat → Prop) (w w' : World) : Prop where
  os : w'.os = w.os
  tape : w'.tape = w.tape
  output : w'.output = w.output
  size : w.heap.size ≤ w'.heap.size
  block : ∀ k, k < w.heap.size → ¬ M k → w'.heap[k]? = w.heap[k]?
abbrev nob : Nat → Prop := fun _ => False
theorem Ext.refl (M : Nat → Prop) (w : World) : Ext M w w := ⟨rfl, rfl, rfl, Nat.le_refl _, fun _ _ _ => rfl⟩
theorem Ext.trans {M M' : Nat → Prop} {w w1 w2 : World} (h : Ext M w w1) (h' : Ext M' w1 w2) (hM : ∀ k, k < w.heap.size → M' k → M k) : Ext M w w2 :=
  ⟨h'.os.trans h.os, h'.tape.trans h.tape, h'.output.trans h.output, Nat.le_trans h.size h'.size,
   fun k hk hn => (h'.block k (Nat.lt_of_lt_of_le hk h.size) (fun hm => hn (hM k hk hm))).trans (h.block k hk hn)⟩
theorem Ext.mono {M M' : Nat → Prop} {w w' : World} (h : Ext M w w') (hM : ∀ k, k < w.heap.size → M k → M' k) : Ext M' w w' :=
  ⟨h.os, h.tape, h.output, h.size, fun k hk hn => h.block k hk (fun hm => hn (hM k hk hm))⟩
/-- One step that changes nothing old. -/
theorem Ext.tr0 {M : Nat → Prop} {w w1 w2 : World} (h : Ext M w w1) (h' : Ext nob w1 w2) : Ext M w w2 := h.trans h' (fun _ _ f => f.elim)
theorem Ext.cell {M : Nat → Prop} {w w' : World} (h : Ext M w w') {b o : Nat} {v : Value} (hc : w.cell? ⟨b, o, none⟩ = some v) (hb : ¬ M b) : w'.cell? ⟨b, o, none⟩ = some v := by
  have hl := World.block_lt_of_cell? w _ hc
  rw [← hc]
  exact World.cell?_of_block (h.block b hl hb)
theorem Ext.obj {M : Nat → Prop} {w w' : World} (h : Ext M w w') {b : Nat} {o : Obj} (hc : w.heap[b]? = some o) (hb : ¬ M b) : w'.heap[b]? = some o := by
  rw [← hc]
  exact h.block b (Array.getElem?_eq_some_iff.1 hc).1 hb
theorem Ext.below {M : Nat → Prop} {w w' : World} (h : Ext M w w') {B : Nat} (hB : B ≤ w.heap.size) (hM : ∀ k, k < B → ¬ M k) : RowKit.Below B w w' :=
  ⟨h.os, h.tape, h.output, h.size, fun k hk => h.block k (Nat.lt_of_lt_of_le hk hB) (hM k hk)⟩
theorem Ext.alloc (w : World) (o : Obj) : Ext nob w (w.alloc o) := ⟨rfl, rfl, rfl, by simp, fun k hk _ => heap_alloc_old w o k hk⟩
theorem Ext.drew (w : World) : Ext nob w w.drew := ⟨rfl, rfl, rfl, Nat.le_refl _, fun _ _ _ => rfl⟩

/-- Block b is a row of just these cells, which may be written. -/
def Own (w : World) (b : Nat) (T : TypeId) (l : List Value) : Prop := w.heap[b]? = some (.cells l.toArray T (0, 0))
theorem Own.lt {w : World} {b : Nat} {T : TypeId} {l : List Value} (h : Own w b T l) : b < w.heap.size := (Array.getElem?_eq_some_iff.1 h).1
theorem Own.ext {M : Nat → Prop} {w w' : World} {b : Nat} {T : TypeId} {l : List Value} (h : Own w b T l) (x : Ext M w w') (hb : ¬ M b) : Own w' b T l := x.obj h hb
abbrev Cell (w : World) (b o : Nat) (v : Value) : Prop := w.cell? ⟨b, o, none⟩ = some v
def Cells (w : World) (b o : Nat) (l : List Value) : Prop := ∀ j u, l[j]? = some u → w.cell? ⟨b, o + j, none⟩ = some u
theorem Own.cell {w : World} {b : Nat} {T : TypeId} {l : List Value} (h : Own w b T l) {o : Nat} {v : Value} (hv : l[o]? = some v) : Cell w b o v := by
  unfold Own at h
  simp only [Cell, World.cell?, h]
  simpa using hv
theorem Own.cells {w : World} {b : Nat} {T : TypeId} {l : List Value} (h : Own w b T l) : Cells w b 0 l :=
  fun j u hj => h.cell (by simpa using hj)
theorem Own.cellsAt {w : World} {b : Nat} {T : TypeId} {l : List Value} (h : Own w b T l) {o : Nat} {m : List Value} (hm : ∀ j u, m[j]? = some u → l[o + j]? = some u) : Cells w b o m :=
  fun j u hj => h.cell (hm j u hj)
theorem Cells.ext {M : Nat → Prop} {w w' : World} {b o : Nat} {l : List Value} (h : Cells w b o l) (x : Ext M w w') (hb : ¬ M b) : Cells w' b o l :=
  fun j u hj => x.cell (h j u hj) hb
theorem Cells.cell {w : World} {b o : Nat} {l : List Value} (h : Cells w b o l) {j : Nat} {v : Value} (hv : l[j]? = some v) : Cell w b (o + j) v := h j v hv
theorem Cells.nil (w : World) (b o : Nat) : Cells w b o [] := fun j u hj => by simp at hj
/-- What a store of several cells leaves. -/
def splice (l : List Value) (o : Nat) (m : List Value) : List Value := l.take o ++ m ++ l.drop (o + m.length)
theorem splice_length {l : List Value} {o : Nat} {m : List Value} (h : o + m.length ≤ l.length) : (splice l o m).length = l.length := by
  simp [splice]; omega

/-! ## Types: the rows that the conditions need -/
inductive TD where
  | int (k : IntKind) | bool | str | ptr (e : TypeId) | slice (e : TypeId) | strct (fs : List (Nat × TypeId)) | arr (n : Nat) (e : TypeId) | map (k e : TypeId) | iface | func | float (k : FloatKind)
structure TI where
  d : TD
  size : Nat
  bytes : Nat
  zero : List Value
def TD.agg : TD → Bool
  | .strct _ | .arr _ _ => true
  | _ => false
def descOf : TypeDesc → Option TD
  | .int k => some (.int k)
  | .bool => some .bool
  | .string => some .str
  | .pointer e => some (.ptr e)
  | .slice e => some (.slice e)
  | .struct fs => some (.strct (fs.toList.map fun f => (f.offset, f.type)))
  | .array n e => some (.arr n e)
  | .map k e => some (.map k e)
  | .interface _ => some .iface
  | .func _ _ _ => some .func
  | .float k => some (.float k)
  | _ => none
def tiOf (P : Program) (t : TypeId) : Option TI :=
  match (P.underlying t).bind descOf, P.info? t with
  | some d, some i => match i.zero with
    | some z => some ⟨d, i.size, i.bytes, z.cells.toList⟩
    | none => none
  | _, _ => none
abbrev Tab := List (Nat × TI)
def tlook : Tab → Nat → Option TI
  | [], _ => none
  | (k, v) :: r, t => cond (Nat.beq k t) (some v) (tlook r t)
def tabOf (P : Program) (ts : List Nat) : Tab := ts.filterMap fun t => (tiOf P t).map fun i => (t, i)
/-- A program and the rows of its types. -/
structure Pr where
  P : Program
  ts : List Nat
  tab : Tab
  ok : tabOf P ts = tab
theorem tlook_tabOf {P : Program} : ∀ (ts : List Nat) {t : Nat} {i : TI}, tlook (tabOf P ts) t = some i → tiOf P t = some i
  | [], t, i, h => by simp [tabOf, tlook] at h
  | s :: r, t, i, h => by
    unfold tabOf at h
    rw [List.filterMap_cons] at h
    cases hs : tiOf P s with
    | none =>
      simp only [hs, Option.map_none] at h
      exact tlook_tabOf r h
    | some j =>
      simp only [hs, Option.map_some, tlook] at h
      cases hq : Nat.beq s t with
      | true =>
        rw [hq, cond_true] at h
        rw [← Nat.eq_of_beq_eq_true hq, hs, h]
      | false => rw [hq, cond_false] at h; exact tlook_tabOf r h
theorem Pr.tiOf (X : Pr) {t : Nat} {i : TI} (h : tlook X.tab t = some i) : K.tiOf X.P t = some i := by
  have := X.ok
  exact tlook_tabOf X.ts (by rw [this]; exact h)
structure TRow (P : Program) (t : TypeId) (i : TI) (d : TypeDesc) (inf : TypeInfo) (z : Value) : Prop where
  und : P.underlying t = some d
  desc : descOf d = some i.d
  info : P.info? t = some inf
  size : inf.size = i.size
  bytes : inf.bytes = i.bytes
  zero : inf.zero = some z
  cells : z.cells.toList = i.zero
theorem trow_of {P : Program} {t : TypeId} {i : TI} (h : tiOf P t = some i) : ∃ d inf z, TRow P t i d inf z := by
  unfold tiOf at h
  split at h
  · rename_i d0 inf hd hi
    split at h
    · rename_i z hz
      simp only [Option.some.injEq] at h
      subst h
      obtain ⟨d, hu, hd'⟩ := Option.bind_eq_some_iff.1 hd
      exact ⟨d, inf, z, hu, hd', hi, rfl, rfl, hz, rfl⟩
    · simp at h
  · simp at h
theorem Pr.row (X : Pr) {t : Nat} {i : TI} (h : tlook X.tab t = some i) : ∃ d inf z, TRow X.P t i d inf z := trow_of (X.tiOf h)
section
variable {P : Program} {t : TypeId} {i : TI} {d : TypeDesc} {inf : TypeInfo} {z : Value}
theorem TRow.run_size (h : TRow P t i d inf z) (w : World) : (sizeOf t).run P w = .ok i.size w := by simp [sizeOf, typeInfo, h.info, h.size]
theorem TRow.run_und (h : TRow P t i d inf z) (w : World) : (underlying t).run P w = .ok d w := run_underlying h.und w
theorem TRow.run_zero (h : TRow P t i d inf z) (w : World) : (zeroValue t).run P w = .ok z w := by simp [zeroValue, typeInfo, h.info, h.zero]
theorem TRow.run_info (h : TRow P t i d inf z) (w : World) : (typeInfo t).run P w = .ok inf w := by simp [typeInfo, h.info]
theorem TRow.run_agg (h : TRow P t i d inf z) (w : World) : (isAgg t).run P w = .ok i.d.agg w := by
  have hd := h.desc
  unfold isAgg
  simp only [Sem.run_bind, h.run_und, Result.andThen_ok]
  cases d <;> simp [descOf] at hd <;> (rw [← hd]; rfl)
end

/-! ## Calls -/
/-- A call of this function enters its body. -/
def CallOK (P : Program) (f : FuncId) : Prop := ∀ args w, (callFunc f args).run P w = .ok (.enter f args) w
theorem callOK_of {P : Program} {f : FuncId} {fn : Func} (hf : P.funcs[f]? = some fn) (hb : fn.body.isNone = false) (hn : (fn.name == "runtime.NumGoroutine") = false) : CallOK P f := by
  intro args w
  have hb' : fn.body ≠ none := by intro h; simp [h] at hb
  have hn' : fn.name ≠ "runtime.NumGoroutine" := by intro h; simp [h] at hn
  simp [callFunc, hf, hb', hn']
def retR (R : Value → World → Prop) : Ending → World → Prop
  | .returned v, w => R v w
  | _, _ => False
/-- A call of f with these arguments returns, and then R holds of the result and the world. -/
structure Does (P : Program) (f : FuncId) (args : Array Value) (w : World) (R : Value → World → Prop) : Prop where
  run : (CallOK P f ∧ Calls P f args w (retR R)) ∨ ∃ v w', (callFunc f args).run P w = .ok (.value v) w' ∧ R v w'
theorem Does.mono {P : Program} {f : FuncId} {args : Array Value} {w : World} {R R' : Value → World → Prop} (h : Does P f args w R) (hr : ∀ v w', R v w' → R' v w') : Does P f args w R' :=
  ⟨h.run.elim (fun h => .inl ⟨h.1, h.2.mono fun e w' he => by cases e <;> first | exact hr _ _ he | exact he⟩) fun ⟨v, w', h1, h2⟩ => .inr ⟨v, w', h1, hr _ _ h2⟩⟩
end Go.Proofs.YtbcjhghfmhdafaaGreat.K
