/- The conditions of operations that read or change memory, and of calls. -/
import Derived.Test.YtbcjhghfmhdafaaGreatK3
import Derived.Laws.IdiomStrings
import Derived.Laws.BytesArg
import Derived.Lib.ConvBytes
set_option linter.unusedVariables false
set_option linter.unusedSimpArgs false
namespace Go.Proofs.YtbcjhghfmhdafaaGreat.K
open Go

def loadVC (X : Pr) (t : TypeId) (w : World) (b o : Nat) (K : Value → Prop) : Prop :=
  match tlook X.tab t with
  | some i => cond i.d.agg (∃ l : List Value, l.length = i.size ∧ Cells w b o l ∧ K (.agg l.toArray)) (∃ v, w.cell? ⟨b, o, none⟩ = some v ∧ K v)
  | none => False
def storeVC (X : Pr) (t : TypeId) (w : World) (b o : Nat) (v : Value) (K : World → Prop) : Prop :=
  match tlook X.tab t with
  | some i => ∃ T l, Own w b T l ∧ Nat.beq v.cells.toList.length i.size = true ∧ okCells v.cells.toList = true ∧ Nat.ble (o + i.size) l.length = true ∧
      ∀ w', Own w' b T (splice l o v.cells.toList) → Ext (fun k => k = b) w w' → K w'
  | none => False
/-- A new row of cells. -/
def newVC (w : World) (t : TypeId) (l : List Value) (K : Nat → World → Prop) : Prop := ∀ b w', w.heap.size ≤ b → Own w' b t l → Ext nob w w' → K b w'
/-- The cells of a slice literal whose elements are all given, in order. -/
def partsV (e : Env) (sz : Nat) : Nat → List (Nat × Operand) → Option (List Value)
  | _, [] => some []
  | k, (i, x) :: r => match ev e x, partsV e sz (k + 1) r with
    | some v, some l => cond (Nat.beq i k && Nat.beq v.cells.toList.length sz) (some (v.cells.toList ++ l)) none
    | _, _ => none
def sliceElem (tab : Tab) (t : TypeId) : Option (TypeId × TI) :=
  match tlook tab t with
  | some ⟨.slice e, _, _, _⟩ => match tlook tab e with
    | some i => some (e, i)
    | none => none
  | _ => none
def isInt : TD → Bool
  | .int _ => true
  | _ => false
def isU8 : TD → Bool
  | .int .u8 => true
  | _ => false
def appendVC (X : Pr) (tys : List TypeId) (w : World) (v x : Value) (K : Value → World → Prop) : Prop :=
  match tys with
  | [t, u] => match sliceElem X.tab t, tlook X.tab u with
    | some (e, i), some j => cond (isInt j.d)
        (match x with
          | .int _ m => ∃ n xs, 0 ≤ m ∧ OwnSl w e i.size v n xs ∧ (0 < i.size ∧ i.zero.length = i.size ∧ okCells i.zero = true) ∧ (n + m.toNat ≤ maxLen ∧ (n + m.toNat) * i.bytes ≤ 140737488355328) ∧
              ∀ v' w', OwnSl w' e i.size v' (n + m.toNat) (xs ++ (List.replicate m.toNat i.zero).flatten) → Appended w w' v v' → K v' w'
          | _ => False)
        (∃ n xs m news, OwnSl w e i.size v n xs ∧ Src w i.size x m news ∧ (i.zero.length = i.size ∧ okCells news = true) ∧ (n + m ≤ maxLen ∧ (n + m) * i.bytes ≤ 140737488355328) ∧
              ∀ v' w', OwnSl w' e i.size v' (n + m) (xs ++ news) → Appended w w' v v' → K v' w')
    | _, _ => False
  | _ => False
def optInt : Option Value → Option (Option Int)
  | none => some none
  | some (.int _ n) => some (some n)
  | _ => none
def evOpt (e : Env) : Option Operand → Option (Option Value)
  | none => some none
  | some x => match ev e x with
    | some v => some (some v)
    | none => none
/-- x[lo:hi:max] of a slice: where it begins. -/
def cutAddr (a : Option Addr) (sz l m : Nat) : Option Addr := if m = l then a else a.map fun p => ⟨p.block, p.off + l * sz, none⟩
def bytesVC (w : World) (v : Value) (K : List UInt8 → Prop) : Prop := ∃ F l, Bytes w F v l ∧ K l
/-- How many entries a map has. -/
def mapLen (w : World) : Option Nat → Option Nat
  | none => some 0
  | some b => match w.heap[b]? with
    | some (.map es _) => some es.size
    | _ => none
def effVC (X : Pr) (o : Oper) (e : Env) (w : World) (K : Value → World → Prop) : Prop :=
  match o.op with
  | .load t x => match ev e x with
    | some (.pointer (some ⟨b, o, none⟩)) => loadVC X t w b o (fun v => K v w)
    | _ => False
  | .store t x y => match ev e x, ev e y with
    | some (.pointer (some ⟨b, o, none⟩)), some v => storeVC X t w b o v (fun w' => K undef w')
    | _, _ => False
  | .alloc t => match tlook X.tab t with
    | some i => newVC w t i.zero (fun b w' => K (.pointer (some ⟨b, 0, none⟩)) w')
    | none => False
  | .box t x => match ev e x with
    | some v => newVC w t v.cells.toList (fun b w' => K (.pointer (some ⟨b, 0, none⟩)) w')
    | none => False
  | .buildSlice t n parts => match sliceElem X.tab t with
    | some (el, i) => match partsV e i.size 0 parts.toList with
      | some l => cond (Nat.beq parts.toList.length n && Nat.ble (n * i.size) 16777216 && Nat.beq i.zero.length i.size && Nat.ble 1 i.size) (newVC w el l (fun b w' => K (.slice (some ⟨b, 0, none⟩) n n) w')) False
      | none => False
    | none => False
  | .makeSlice t l c => match sliceElem X.tab t, ev e l, ev e c with
    | some (el, i), some (.int _ n), some (.int _ m) => (0 ≤ n ∧ n ≤ m ∧ m ≤ 9223372036854775807 ∧ m.toNat * i.bytes ≤ 140737488355328) ∧ (0 < i.size ∧ i.zero.length = i.size) ∧
        newVC w el (List.replicate m.toNat i.zero).flatten (fun b w' => K (.slice (some ⟨b, 0, none⟩) n.toNat m.toNat) w')
    | _, _, _ => False
  | .indexAddr t x y => match ev e x, ev e y with
    | some (.slice a n _), some (.int _ j) => match sliceElem X.tab t with
      | some (_, i) => ∃ b p, a = some ⟨b, p, none⟩ ∧ (0 ≤ j ∧ j < (n : Int)) ∧ K (.pointer (some ⟨b, p + j.toNat * i.size, none⟩)) w
      | none => False
    | _, _ => False
  | .slice t x lo hi mx => match tlook X.tab t, ev e x, evOpt e lo, evOpt e hi, evOpt e mx with
    | some ⟨.slice el, _, _, _⟩, some (.slice a n c), some lv, some hv, some mv => match tlook X.tab el, optInt lv, optInt hv, optInt mv with
      | some i, some l, some h, some m => ((m.getD c).toNat = (l.getD 0).toNat ∨ ∀ q, a = some q → q.spot = none) ∧ (m.isSome → h.isSome) ∧ (0 ≤ l.getD 0 ∧ l.getD 0 ≤ h.getD n ∧ h.getD n ≤ m.getD c ∧ m.getD c ≤ c) ∧
          ∀ r, .slice (cutAddr a i.size (l.getD 0).toNat (m.getD c).toNat) ((h.getD n).toNat - (l.getD 0).toNat) ((m.getD c).toNat - (l.getD 0).toNat) = r → K r w
      | _, _, _, _ => False
    | some ⟨.arr n el, _, _, _⟩, some (.pointer (some ⟨b, p, none⟩)), some none, some none, some none => match tlook X.tab el with
      | some _ => K (.slice (some ⟨b, p, none⟩) n n) w
      | none => False
    | _, _, _, _, _ => False
  | .convert s d x => match tlook X.tab s, tlook X.tab d, ev e x with
    | some ⟨.slice el, _, _, _⟩, some ⟨.str, _, _, _⟩, some v => match tlook X.tab el with
      | some j => cond (isU8 j.d) (bytesVC w v (fun l => K (str l) w)) False
      | none => False
    | some ⟨.str, _, _, _⟩, some ⟨.slice el, _, _, _⟩, some (.string s) => match tlook X.tab el with
      | some j => cond (isU8 j.d) (s.size ≤ maxLen ∧ ∀ b c w', w.heap.size ≤ b → b < w'.heap.size → Cells w' b 0 (s.data.toList.map bcell) → (s.size ≤ c ∧ c ≤ maxLen) → Ext nob w w' → K (.slice (some ⟨b, 0, none⟩) s.size c) w') False
      | none => False
    | some _, some ⟨.str, _, _, _⟩, some (.string s) => K (.string s) w
    | _, _, _ => False
  | .binOp .shl _ x y _ => match ev e x, ev e y with
    | some (.int k a), some (.int _ n) => 0 ≤ n ∧ K (.int k (k.wrap (a * 2 ^ (min n.toNat k.bits)))) w
    | _, _ => False
  | .binOp .shr _ x y _ => match ev e x, ev e y with
    | some (.int k a), some (.int _ n) => 0 ≤ n ∧ K (.int k (a.fdiv (2 ^ (min n.toNat k.bits)))) w
    | _, _ => False
  | .binOp .rem _ x y _ => match ev e x, ev e y with
    | some (.int k a), some (.int k' n) => k = k' ∧ n ≠ 0 ∧ K (.int k (a.tmod n)) w
    | _, _ => False
  | .call ⟨.builtin .append, args, tys⟩ => match evs e args.toList with
    | some [v, x] => appendVC X tys.toList w v x K
    | _ => False
  | .call ⟨.builtin .len, args, tys⟩ => match evs e args.toList, tys.toList with
    | some [.map m], [t] => match tlook X.tab t with
      | some ⟨.map _ _, _, _, _⟩ => ∃ n : Nat, mapLen w m = some n ∧ K (.int .i64 n) w
      | _ => False
    | _, _ => False
  | .call ⟨.builtin .copy, args, tys⟩ => match evs e args.toList, tys.toList with
    | some [.slice (some ⟨b, p, none⟩) n _, x], t :: _ => match sliceElem X.tab t with
      | some (_, i) => ∃ T l m xs, Own w b T l ∧ Src w i.size x m xs ∧ okCells xs = true ∧ p + n * i.size ≤ l.length ∧
          ∀ w', Own w' b T (splice l p (xs.take (Nat.min m n * i.size))) → Ext (fun k => k = b) w w' → K (.int .i64 (Nat.min m n : Nat)) w'
      | none => False
    | _, _ => False
  | .call ⟨.value f, args, _⟩ => match ev e f, evs e args.toList with
    | some (.func (.func g) first cap), some l => Does X.P g (first.toList ++ l ++ cap.toList).toArray w K
    | _, _ => False
  | _ => False
/-- Operations of which the semantics itself is asked. -/
def semOp : Op → Bool
  | .index .. | .makeMap .. | .mapUpdate .. | .insert .. | .lookup .. | .range .. | .next .. | .entry .. | .mapEntry .. | .entryStore .. | .typeAssert .. => true
  | .call ⟨.invoke .., _, _⟩ => true
  | _ => false
def semVC (X : Pr) (o : Oper) (e : Env) (w : World) (K : Value → World → Prop) : Prop :=
  (∃ v w', (∀ ρ : Operand → Value, (∀ x v, ev e x = some v → ρ x = v) → (execOp ρ o).run X.P w = .ok (.value v) w' ∨ ((execOp ρ o).run X.P w = .ok .skip w' ∧ v = undef)) ∧ K v w') ∨
    ∃ g args, (∀ ρ : Operand → Value, (∀ x v, ev e x = some v → ρ x = v) → (execOp ρ o).run X.P w = .ok (.enter g args) w) ∧ Calls X.P g args w (retR K)
section
variable {X : Pr} {N : Nat} {e : Env} {a : Act} {w : World} {o : Oper} {Q : Exit → Act → World → Prop} {next : Act → World → Prop}
theorem wp_value {v : Value} {w' : World} (h : (execOp a.eval o).run X.P w = .ok (.value v) w') (k : next (a.put o.dst v) w') : o.wp X.P a w next Q := by
  unfold Oper.wp
  rw [h]
  exact k
theorem wp_skip' {w' : World} (h : (execOp a.eval o).run X.P w = .ok .skip w') (k : next (a.put o.dst undef) w') : o.wp X.P a w next Q := by
  unfold Oper.wp
  rw [h]
  exact k
theorem semVC_sound {K : Value → World → Prop} (ha : Agree N e a) (h : semVC X o e w K) (hk : ∀ v w', K v w' → next (a.put o.dst v) w') : o.wp X.P a w next Q := by
  rcases h with ⟨v, w', hr, hkv⟩ | ⟨g, args, hr, hc⟩
  · rcases hr a.eval (fun x v hx => ha.ev hx) with hr | ⟨hr, hv⟩
    · exact wp_value hr (hk _ _ hkv)
    · rw [hv] at hkv
      exact wp_skip' hr (hk _ _ hkv)
  · unfold Oper.wp
    rw [hr a.eval (fun x v hx => ha.ev hx)]
    exact hc.mono fun e' w' he => by
      cases e' with
      | returned v => exact hk v w' he
      | panicked c => exact he.elim
      | outgrown => exact he.elim
theorem run_loadVC {t : TypeId} {b p : Nat} {K : Value → Prop} (h : loadVC X t w b p K) : ∃ v, (loadVar t ⟨b, p, none⟩).run X.P w = .ok v w ∧ K v := by
  unfold loadVC at h
  split at h
  · rename_i i hi
    obtain ⟨d, inf, z, hr⟩ := X.row hi
    cases hq : i.d.agg with
    | true =>
      rw [hq, cond_true] at h
      obtain ⟨l, hl, hc, hk⟩ := h
      refine ⟨_, ?_, hk⟩
      have := run_loadCells_list (P := X.P) w ⟨b, p, none⟩ l (fun j v hv => by rw [add_lit]; exact hc j v hv)
      rw [hl] at this
      simp [loadVar, hr.run_agg, hq, hr.run_size, this]
    | false =>
      rw [hq, cond_false] at h
      obtain ⟨v, hc, hk⟩ := h
      exact ⟨v, by simp [loadVar, hr.run_agg, hq, hc], hk⟩
  · exact h.elim
theorem ext_setRow (w : World) (b : Nat) (cs : Array Value) : Ext (fun k => k = b) w (w.setRow b cs) := ⟨rfl, rfl, rfl, by simp, fun k _ hk => setRow_other w b k cs hk⟩
theorem own_setRow {b : Nat} {T : TypeId} {l m : List Value} (h : Own w b T l) : Own (w.setRow b m.toArray) b T m := setRow_heap w b l.toArray m.toArray T (0, 0) h
theorem run_storeCells_own {b p : Nat} {T : TypeId} {l m : List Value} (h : Own w b T l) (hp : p + m.length ≤ l.length) (h1 : okCells m = true) :
    (storeCells ⟨b, p, none⟩ m).run X.P w = .ok () (w.setRow b (splice l p m).toArray) := by
  have := run_storeCells_at X.P b p T m 0 l.toArray w h (by simpa using hp) (fun v hv => List.all_eq_true.1 h1 v hv)
  simpa [splice] using this
theorem run_storeVC {t : TypeId} {b p : Nat} {v : Value} {K : World → Prop} (h : storeVC X t w b p v K) : ∃ w', (storeVar t ⟨b, p, none⟩ v).run X.P w = .ok () w' ∧ K w' := by
  unfold storeVC at h
  split at h
  · rename_i i hi
    obtain ⟨T, l, ho, h1, h2, h3, hk⟩ := h
    obtain ⟨d, inf, z, hr⟩ := X.row hi
    have h1 := Nat.eq_of_beq_eq_true h1
    have h3 := Nat.le_of_ble_eq_true h3
    have hs : v.cells.size = i.size := by simpa using h1
    refine ⟨_, ?_, hk _ (own_setRow ho) (ext_setRow w b _)⟩
    have := run_storeCells_own (X := X) ho (p := p) (m := v.cells.toList) (by rw [h1]; exact h3) h2
    simp [storeVar, hr.run_size, hs, this]
  · exact h.elim
theorem newVC_run {t : TypeId} {l : List Value} {K : Nat → World → Prop} (h : newVC w t l K) (cells : Array Value) (hc : cells.toList = l) : ∃ w', (newRow t cells).run X.P w = .ok ⟨w.heap.size, 0, none⟩ w' ∧ K w.heap.size w' := by
  refine ⟨w.alloc (.cells cells t), by simp [newRow], h _ _ (Nat.le_refl _) ?_ (Ext.alloc w _)⟩
  have : cells = l.toArray := Array.ext' (by simpa using hc)
  subst this
  exact heap_alloc_new w _
theorem sliceElem_of {t el : TypeId} {i : TI} (h : sliceElem X.tab t = some (el, i)) : ∃ j inft zt d inf z, tlook X.tab t = some j ∧ j.d = .slice el ∧ TRow X.P t j (.slice el) inft zt ∧ tlook X.tab el = some i ∧ TRow X.P el i d inf z := by
  unfold sliceElem at h
  split at h
  · rename_i e' sz by0 z0 ht
    split at h
    · rename_i j hj
      simp only [Option.some.injEq, Prod.mk.injEq] at h
      obtain ⟨rfl, rfl⟩ := h
      obtain ⟨dt, inft, zt, hrt⟩ := X.row ht
      obtain ⟨d, inf, z, hr⟩ := X.row hj
      have hd := hrt.desc
      cases dt <;> simp [descOf] at hd
      subst hd
      exact ⟨_, inft, zt, d, inf, z, ht, rfl, hrt, hj, hr⟩
    · simp at h
  · simp at h
theorem partsV_fill (ha : Agree N e a) {sz : Nat} (pre : List Value) : ∀ (parts : List (Nat × Operand)) (k : Nat) (l : List Value) (rest : List Value), partsV e sz k parts = some l → rest.length = parts.length * sz → pre.length = k * sz →
    Instr.fill (fun i => some (i * sz, sz)) (pre ++ rest).toArray (parts.map fun (i, x) => (i, a.eval x)) = some (pre ++ l).toArray
  | [], k, l, rest, h, hr, hp => by
    simp only [partsV, Option.some.injEq] at h
    have : rest = [] := List.eq_nil_of_length_eq_zero (by simpa using hr)
    simp [Instr.fill, this, ← h]
  | (i, x) :: r, k, l, rest, h, hr, hp => by
    simp only [partsV] at h
    split at h
    · rename_i v l' hv hl'
      cases hc : (Nat.beq i k && Nat.beq v.cells.toList.length sz) with
      | false => rw [hc] at h; simp at h
      | true =>
        rw [hc, cond_true, Option.some.injEq] at h
        rw [Bool.and_eq_true] at hc
        have h1 := Nat.eq_of_beq_eq_true hc.1
        have h2 := Nat.eq_of_beq_eq_true hc.2
        subst h1
        subst h
        have hlen : rest.length = sz + r.length * sz := by rw [hr, List.length_cons, Nat.add_mul, Nat.one_mul, Nat.add_comm]
        rw [List.map_cons]
        show Instr.fill _ _ ((i, a.eval x) :: _) = _
        rw [ha.ev hv, fill_step _ _ i v _ (i * sz) sz rfl h2 (by simp [hp]; omega)]
        have hfs : ∀ (vs : List Value) (pre rest : List Value) (q : Nat), pre.length = q → vs.length ≤ rest.length → foldSet (pre ++ rest) q vs = pre ++ vs ++ rest.drop vs.length := by
          intro vs
          induction vs with
          | nil => intro pre rest q hq hle; simp [foldSet]
          | cons u vs ih =>
            intro pre rest q hq hle
            cases rest with
            | nil => simp at hle
            | cons r0 rest =>
              simp only [foldSet]
              have : (pre ++ r0 :: rest).set q u = (pre ++ [u]) ++ rest := by
                rw [← hq]
                simp
              rw [this, ih (pre ++ [u]) rest (q + 1) (by simp [hq]) (by simpa using hle)]
              simp
        have := hfs v.cells.toList pre rest (i * sz) hp (by omega)
        simp only at this ⊢
        rw [this]
        have hrec := partsV_fill ha (pre ++ v.cells.toList) r (i + 1) l' (rest.drop v.cells.toList.length) hl' (by rw [List.length_drop]; omega) (by rw [List.length_append, hp, h2, Nat.add_mul, Nat.one_mul])
        rw [List.append_assoc] at hrec ⊢
        simpa using hrec
    · simp at h
theorem run_evOpt (ha : Agree N e a) {x : Option Operand} {v : Option Value} (h : evOpt e x = some v) : x.map a.eval = v := by
  cases x with
  | none => simpa [evOpt] using h
  | some x =>
    simp only [evOpt] at h
    split at h
    · rename_i u hu
      simp only [Option.some.injEq] at h
      simp [ha.ev hu, h]
    · simp at h
theorem optInt_of {v : Option Value} {r : Option Int} (h : optInt v = some r) : (v = none ∧ r = none) ∨ ∃ k n, v = some (.int k n) ∧ r = some n := by
  unfold optInt at h
  split at h
  · exact .inl ⟨rfl, by simpa using h.symm⟩
  · rename_i k n
    exact .inr ⟨k, n, rfl, by simpa using h.symm⟩
  · simp at h
theorem run_sliceBound {k : IntKind} {n : Int} {y : Nat} (h0 : 0 ≤ n) (h1 : n ≤ y) (code : BoundsCode) : (Instr.sliceBound (.int k n) y code).run X.P w = .ok n.toNat w := by
  simp [Instr.sliceBound, asIntOf, h0, h1]
theorem run_sliceBounds {lo hi mx : Option Value} {l h m : Option Int} {n c : Nat} (hl : optInt lo = some l) (hh : optInt hi = some h) (hm : optInt mx = some m) (hmh : m.isSome → h.isSome)
    (hb : 0 ≤ l.getD 0 ∧ l.getD 0 ≤ h.getD n ∧ h.getD n ≤ m.getD c ∧ m.getD c ≤ c) :
    (Instr.sliceBounds true n c lo hi mx).run X.P w = .ok ((l.getD 0).toNat, (h.getD n).toNat, (m.getD c).toNat) w := by
  obtain ⟨b0, b1, b2, b3⟩ := hb
  have q1 : ∀ (k : IntKind) (n : Int) (y : Nat) (code : BoundsCode), 0 ≤ n → n ≤ (y : Int) → (Instr.sliceBound (.int k n) y code).run X.P w = .ok n.toNat w := fun k n y code h0 h1 => run_sliceBound h0 h1 code
  rcases optInt_of hl with ⟨rfl, rfl⟩ | ⟨k1, l, rfl, rfl⟩ <;> rcases optInt_of hh with ⟨rfl, rfl⟩ | ⟨k2, h, rfl, rfl⟩ <;> rcases optInt_of hm with ⟨rfl, rfl⟩ | ⟨k3, m, rfl, rfl⟩ <;>
    simp only [Option.getD_some, Option.getD_none, Option.isSome_some, Option.isSome_none, Bool.false_eq_true, imp_false, not_true_eq_false, Int.toNat_natCast] at b0 b1 b2 b3 hmh ⊢ <;>
    simp only [Instr.sliceBounds, Sem.run_bind, Sem.run_pure, Result.andThen_ok, if_true]
  · rfl
  · rw [q1 k2 h c _ (by omega) (by omega)]; rfl
  · rw [q1 k3 m c _ (by omega) (by omega)]
    simp only [Result.andThen_ok]
    rw [q1 k2 h _ _ (by omega) (by omega)]; rfl
  · rw [q1 k1 l n _ (by omega) (by omega)]; rfl
  · rw [q1 k2 h c _ (by omega) (by omega)]
    simp only [Result.andThen_ok]
    rw [q1 k1 l _ _ (by omega) (by omega)]; rfl
  · rw [q1 k3 m c _ (by omega) (by omega)]
    simp only [Result.andThen_ok]
    rw [q1 k2 h _ _ (by omega) (by omega)]
    simp only [Result.andThen_ok]
    rw [q1 k1 l _ _ (by omega) (by omega)]; rfl
theorem isU8_of {d : TD} (h : isU8 d = true) : d = .int .u8 := by
  unfold isU8 at h
  split at h
  · rfl
  · simp at h
theorem isInt_of {d : TD} (h : isInt d = true) : ∃ k, d = .int k := by
  unfold isInt at h
  split at h
  · exact ⟨_, rfl⟩
  · simp at h
theorem effVC_sound {K : Value → World → Prop} (ha : Agree N e a) (h : effVC X o e w K) (hk : ∀ v w', K v w' → next (a.put o.dst v) w') : o.wp X.P a w next Q := by
  have hpi : ∀ (d : TypeDesc) (i : TI), descOf d = some i.d → ∀ k, i.d = .int k → d = .int k := by
    intro d i hd k hi
    rw [hi] at hd
    cases d <;> simp [descOf] at hd
    rw [hd]
  unfold effVC at h
  cases ho : o.op <;> rw [ho] at h <;> (try (simp only at h; done)) <;> (try dsimp only at h)
  case load t x =>
    split at h
    · rename_i b p hx
      obtain ⟨v, hr, hkv⟩ := run_loadVC h
      refine wp_value (v := v) (w' := w) ?_ (hk _ _ hkv)
      simp [execOp, ho, ha.ev hx, Instr.loadAt, Instr.sureAddr, hr]
    · exact h.elim
  case store t x y =>
    split at h
    · rename_i b p v hx hy
      obtain ⟨w', hr, hkv⟩ := run_storeVC h
      refine wp_skip' (w' := w') ?_ (hk _ _ hkv)
      simp [execOp, ho, ha.ev hx, ha.ev hy, Instr.storeAt, Instr.sureAddr, hr]
    · exact h.elim
  case alloc t =>
    split at h
    · rename_i i hi
      obtain ⟨d, inf, z, hr⟩ := X.row hi
      obtain ⟨w', hrun, hkv⟩ := newVC_run (X := X) h z.cells hr.cells
      refine wp_value (w' := w') ?_ (hk _ _ hkv)
      simp [execOp, ho, Instr.alloc, hr.run_zero, newVar, hrun]
    · exact h.elim
  case box t x =>
    split at h
    · rename_i v hx
      obtain ⟨w', hrun, hkv⟩ := newVC_run (X := X) h v.cells rfl
      refine wp_value (w' := w') ?_ (hk _ _ hkv)
      simp [execOp, ho, ha.ev hx, Instr.box, newVar, hrun]
    · exact h.elim
  case buildSlice t n parts =>
    split at h
    · rename_i el i hs
      split at h
      · rename_i l hl
        cases hc : (Nat.beq parts.toList.length n && Nat.ble (n * i.size) 16777216 && Nat.beq i.zero.length i.size && Nat.ble 1 i.size) with
        | false => rw [hc] at h; exact h.elim
        | true =>
          rw [hc, cond_true] at h
          simp only [Bool.and_eq_true] at hc
          have c1 := Nat.eq_of_beq_eq_true hc.1.1.1
          have c2 := Nat.le_of_ble_eq_true hc.1.1.2
          have c3 := Nat.eq_of_beq_eq_true hc.1.2
          have c4 := Nat.le_of_ble_eq_true hc.2
          obtain ⟨j, inft, zt, d, inf, z, hj, hje, hrt, hi, hr⟩ := sliceElem_of hs
          have hzs : z.cells.size = i.size := by rw [← c3, ← hr.cells]; simp
          obtain ⟨w', hrun, hkv⟩ := newVC_run (X := X) h l.toArray (by simp)
          have hfill := partsV_fill (sz := i.size) ha [] parts.toList 0 l
          refine wp_value (w' := w') ?_ (hk _ _ hkv)
          have hbig : ¬ (16777216 < n * i.size) := by omega
          by_cases hn : n = 0
          · subst hn
            have hp0 : parts.toList = [] := List.eq_nil_of_length_eq_zero c1
            have hl0 : l = [] := by rw [hp0] at hl; simpa [partsV] using hl.symm
            have hpa : parts = #[] := Array.ext' (by simpa using hp0)
            subst hl0
            subst hpa
            simp [execOp, ho, Instr.buildSlice, hrt.run_und, hr.run_size, Instr.fill]
            rw [show Array.map (fun _ : Nat => (default : Value)) (Array.range 0) = #[] from by simp, hrun]
            rfl
          · have hns : ¬ (n * i.size = 0) := by
              intro h0
              rcases Nat.mul_eq_zero.1 h0 with h | h <;> omega
            have hns' : ¬ (n = 0 ∨ i.size = 0) := by omega
            have hf := hfill ((Array.range (n * i.size)).map (z.cells[· % z.cells.size]!)).toList hl (by simp [c1]) (by simp)
            simp only [List.nil_append, Array.toArray_toList] at hf
            simp only [execOp, ho, Instr.buildSlice, Sem.run_bind, hrt.run_und, Result.andThen_ok, hr.run_size, Nat.reducePow, gt_iff_lt, if_neg hbig, if_neg hns, hr.run_zero, Sem.run_pure, Array.toList_map, hf, hrun]
      · exact h.elim
    · exact h.elim
  case makeSlice t l c =>
    split at h
    · rename_i el i k n k' m hs hl hc
      obtain ⟨⟨h0, h1, h2, h3⟩, ⟨h4, h5⟩, h⟩ := h
      obtain ⟨j, inft, zt, d, inf, z, hj, hje, hrt, hi, hr⟩ := sliceElem_of hs
      have hzs : z.cells.size = i.size := by rw [← h5, ← hr.cells]; simp
      have hz0 : 0 < i.zero.length := by omega
      have hzc : z.cells = i.zero.toArray := Array.ext' (by simpa using hr.cells)
      have hzl : (Builtin.zeroCells z.cells m.toNat).toList = (List.replicate m.toNat i.zero).flatten := by rw [hzc]; exact toList_zeroCells i.zero m.toNat hz0
      obtain ⟨w', hrun, hkv⟩ := newVC_run (X := X) h (Builtin.zeroCells z.cells m.toNat) hzl
      refine wp_value (w' := w') ?_ (hk _ _ hkv)
      have hw1 : IntKind.i64.wrap n = n := IntWalk.i64_in _ (by omega)
      have hw2 : IntKind.i64.wrap m = m := IntWalk.i64_in _ (by omega)
      have hmb : (inf.bytes : Int) * m ≤ 140737488355328 := by
        rw [hr.bytes]
        obtain ⟨q, hq⟩ := Int.eq_ofNat_of_zero_le (show 0 ≤ m by omega)
        rw [hq, Int.toNat_natCast] at h3
        rw [hq, Int.mul_comm]
        omega
      have q1 : ¬ (m < 0) := by omega
      have q2 : ¬ (281474976710656 < (inf.bytes : Int) * m) := by omega
      have q3 : ¬ (n < 0) := by omega
      have q4 : ¬ (m < n) := by omega
      by_cases hm : m.toNat = 0
      · have hm0 : m = 0 := by omega
        have hn0 : n = 0 := by omega
        subst hm0
        subst hn0
        have he : Builtin.zeroCells z.cells (0 : Int).toNat = #[] := by simp [Builtin.zeroCells]
        rw [he] at hrun
        simp [execOp, ho, ha.ev hl, ha.ev hc, Instr.makeSlice, hrt.run_und, asInt, asIntOf, hr.run_info, hr.run_size, hw1]
        rw [show Array.map (fun _ : Nat => (default : Value)) (Array.range 0) = #[] from by simp, hrun]
        rfl
      · have hne : ¬ (m.toNat * i.size = 0) := by
          intro h0
          rcases Nat.mul_eq_zero.1 h0 with h | h <;> omega
        have hne' : ¬ (m.toNat = 0 ∨ i.size = 0) := by omega
        have hzz : (Array.range (m.toNat * i.size)).map (fun x => z.cells[x % z.cells.size]!) = Builtin.zeroCells z.cells m.toNat := by simp [Builtin.zeroCells, hzs]
        simp [execOp, ho, ha.ev hl, ha.ev hc, Instr.makeSlice, hrt.run_und, asInt, asIntOf, hr.run_info, hr.run_size, hr.run_zero, hw1, hw2, q1, q2, q3, q4, hne, hzz, hrun]
    · exact h.elim
  case indexAddr t x y =>
    split at h
    · rename_i ad n c k j hx hy
      split at h
      · rename_i el i hs
        obtain ⟨b, p, rfl, ⟨h0, h1⟩, hkv⟩ := h
        obtain ⟨j', inft, zt, d, inf, z, hj, hje, hrt, hi, hr⟩ := sliceElem_of hs
        refine wp_value (w' := w) ?_ (hk _ _ hkv)
        simp [execOp, ho, ha.ev hx, ha.ev hy, Instr.indexAt, asIntOf, hrt.run_und, h0, h1, hr.run_size, add_lit]
      · exact h.elim
    · exact h.elim
  case slice t x lo hi mx =>
    split at h
    · rename_i el sz by0 z0 ad n c lv hv mv ht hx hlo hhi hmx
      split at h
      · rename_i i l hh m hel hl hh' hm
        obtain ⟨hsp, hmh, hb, hkv⟩ := h
        obtain ⟨dt, inft, zt, hrt⟩ := X.row ht
        obtain ⟨d, inf, z, hr⟩ := X.row hel
        have hd := hrt.desc
        cases dt <;> simp [descOf] at hd
        subst hd
        refine wp_value (w' := w) ?_ (hk _ _ (hkv _ rfl))
        have hbs := run_sliceBounds (X := X) (w := w) hl hh' hm hmh hb
        have hcut : (if (m.getD c).toNat = (l.getD 0).toNat then ad else ad.map (·.add ((l.getD 0).toNat * i.size))) = cutAddr ad i.size (l.getD 0).toNat (m.getD c).toNat := by
          unfold cutAddr
          rcases hsp with hsp | hsp
          · rw [if_pos hsp, if_pos hsp]
          cases ad with
          | none => simp
          | some q =>
            have := hsp q rfl
            obtain ⟨qb, qo, qs⟩ := q
            simp only at this
            subst this
            simp [add_lit]
        simp [execOp, ho, ha.ev hx, run_evOpt ha hlo, run_evOpt ha hhi, run_evOpt ha hmx, Instr.sliceAt, hrt.run_und, Instr.slice, hbs, hr.run_size, hcut]
      · exact h.elim
    · rename_i n el sz by0 z0 b p ht hx hlo hhi hmx
      split at h
      · rename_i i hel
        obtain ⟨dt, inft, zt, hrt⟩ := X.row ht
        obtain ⟨d, inf, z, hr⟩ := X.row hel
        have hd := hrt.desc
        cases dt <;> simp [descOf] at hd
        obtain ⟨rfl, rfl⟩ := hd
        refine wp_value (w' := w) ?_ (hk _ _ h)
        have e1 := run_evOpt ha hlo
        have e2 := run_evOpt ha hhi
        have e3 := run_evOpt ha hmx
        simp [execOp, ho, ha.ev hx, e1, e2, e3, Instr.sliceAt, hrt.run_und, Instr.sureAddr, Instr.sliceBounds, hr.run_size, add_lit]
      · exact h.elim
    · exact h.elim
  case convert s d x =>
    split at h
    · rename_i el sz by0 z0 sz' by0' z0' v hs hd hx
      split at h
      · rename_i j hel
        cases hc : isU8 j.d with
        | false => rw [hc] at h; exact h.elim
        | true =>
          rw [hc, cond_true] at h
          obtain ⟨F, l, hb, hkv⟩ := h
          have hu := isU8_of hc
          obtain ⟨ds, infs, zs, hrs⟩ := X.row hs
          obtain ⟨dd, infd, zd, hrd⟩ := X.row hd
          obtain ⟨de, infe, ze, hre⟩ := X.row hel
          have e1 := hrs.desc
          have e2 := hrd.desc
          have e3 := hpi _ _ hre.desc _ hu
          cases ds <;> simp [descOf] at e1
          cases dd <;> simp [descOf] at e2
          subst e1
          subst e3
          refine wp_value (w' := w) ?_ (hk _ _ hkv)
          have : (convert s d v).run X.P w = .ok (str l) w := by
            obtain ⟨ad, c, rfl, _, hl, ⟨h0, _⟩ | ⟨b, p, rfl, _, _, hxx⟩⟩ := hb
            · have : l = [] := List.eq_nil_of_length_eq_zero h0
              subst this
              cases ad with
              | none =>
                rw [List.length_nil, run_convert_bytes_string w s d _ none 0 c hrs.und hre.und hrd.und]
                rfl
              | some q => exact run_convert_bytes_back w s d _ q c [] hrs.und hre.und hrd.und (fun q hq => by simp at hq)
            · refine run_convert_bytes_back w s d _ ⟨b, p, none⟩ c l hrs.und hre.und hrd.und (fun q hq => ?_)
              rw [add_lit]
              exact hxx q _ (by simp [hq])
          simp [execOp, ho, ha.ev hx, this]
      · exact h.elim
    · rename_i sz by0 z0 el sz' by0' z0' s' hs hd hx
      split at h
      · rename_i j hel
        cases hc : isU8 j.d with
        | false => rw [hc] at h; exact h.elim
        | true =>
          rw [hc, cond_true] at h
          have hu := isU8_of hc
          obtain ⟨ds, infs, zs, hrs⟩ := X.row hs
          obtain ⟨dd, infd, zd, hrd⟩ := X.row hd
          obtain ⟨de, infe, ze, hre⟩ := X.row hel
          have e1 := hrs.desc
          have e2 := hrd.desc
          have e3 := hpi _ _ hre.desc _ hu
          cases ds <;> simp [descOf] at e1
          cases dd <;> simp [descOf] at e2
          subst e2
          subst e3
          rename_i el'
          have hrun := Lib.run_convert_string_bytes w s d el' s' hrs.und hrd.und hre.und
          refine wp_value (w' := Lib.bytesWorld w el' s') ?_ (hk _ _ (h.2 _ (grownCap w s'.size 0 el') _ (Nat.le_refl _) (by rw [Lib.bytesWorld_size]; omega) ?_ ⟨grownCap_ge w _ _ _, grownCap_le_maxLen w _ _ _ h.1⟩ ⟨?_, ?_, ?_, ?_, ?_⟩))
          · simp [execOp, ho, ha.ev hx, hrun]
          · intro q u hq
            have hq' : q < s'.size := by
              have := (List.getElem?_eq_some_iff.1 hq).1
              simpa using this
            rw [Nat.zero_add, Lib.bytesWorld_cell w el' s' q hq', ← hq]
            have hq2 : q < s'.data.toList.length := by simpa using hq'
            simp [List.getD, List.getElem?_eq_getElem hq2]
          · simp [Lib.bytesWorld, World.freeze] <;> rfl
          · simp [Lib.bytesWorld, World.freeze] <;> rfl
          · simp [Lib.bytesWorld, World.freeze] <;> rfl
          · rw [Lib.bytesWorld_size]; omega
          · exact fun k hk _ => Lib.bytesWorld_at_old w el' s' k hk
      · exact h.elim
    · rename_i i sz by0 z0 s' _ hs hd hx
      obtain ⟨ds, infs, zs, hrs⟩ := X.row hs
      obtain ⟨dd, infd, zd, hrd⟩ := X.row hd
      have e2 := hrd.desc
      cases dd <;> simp [descOf] at e2
      refine wp_value (w' := w) ?_ (hk _ _ h)
      simp [execOp, ho, ha.ev hx, convert, hrs.run_und, hrd.run_und]
    · exact h.elim
  case binOp op t x y yt =>
    cases op <;> (try (simp only at h; done)) <;> (try dsimp only at h)
    case shl =>
      split at h
      · rename_i k i k' n hx hy
        refine wp_value (w' := w) ?_ (hk _ _ h.2)
        have : ¬ (n < 0) := by omega
        simp [execOp, ho, ha.ev hx, ha.ev hy, eqGuard, binOp, Op.shift, this]
      · exact h.elim
    case shr =>
      split at h
      · rename_i k i k' n hx hy
        refine wp_value (w' := w) ?_ (hk _ _ h.2)
        have : ¬ (n < 0) := by omega
        simp [execOp, ho, ha.ev hx, ha.ev hy, eqGuard, binOp, Op.shift, this]
      · exact h.elim
    case rem =>
      split at h
      · rename_i k i k' n hx hy
        obtain ⟨rfl, hn, h⟩ := h
        refine wp_value (w' := w) ?_ (hk _ _ h)
        simp [execOp, ho, ha.ev hx, ha.ev hy, eqGuard, binOp, Op.intDiv, hn]
      · exact h.elim
  case call c =>
    obtain ⟨callee, args, tys⟩ := c
    cases callee <;> (try (simp only at h; done)) <;> (try dsimp only at h)
    case value f =>
      split at h
      · rename_i g first cap l hf hl
        have hl' := ha.evs _ _ hl
        have e1 : args.map a.eval = l.toArray := Array.ext' (by simpa using hl')
        have e2 : first ++ l.toArray ++ cap = (first.toList ++ l ++ cap.toList).toArray := Array.ext' (by simp)
        rcases h.run with ⟨hok, hcalls⟩ | ⟨v, w', hrv, hkv⟩
        · unfold Oper.wp
          have hrun : (execOp a.eval o).run X.P w = .ok (.enter g (first.toList ++ l ++ cap.toList).toArray) w := by
            rw [← e2]
            simp [execOp, ho, resolve, ha.ev hf, e1, Deferred.ofValue, invoke, hok _ _]
          rw [hrun]
          exact hcalls.mono fun e' w' he => by
            cases e' with
            | returned v => exact hk v w' he
            | panicked c => exact he.elim
            | outgrown => exact he.elim
        · refine wp_value (v := v) (w' := w') ?_ (hk _ _ hkv)
          rw [← e2, Array.append_assoc] at hrv
          simp [execOp, ho, resolve, ha.ev hf, e1, Deferred.ofValue, invoke, hrv]
      · exact h.elim
    case builtin b =>
      cases b <;> (try (simp only at h; done)) <;> (try dsimp only at h)
      case append =>
        split at h
        · rename_i v x hl
          have hl' := ha.evs _ _ hl
          have e1 : args.map a.eval = #[v, x] := Array.ext' (by simpa using hl')
          have hfin : ∀ v' w', (Builtin.append_ tys o.type #[v, x]).run X.P w = .ok v' w' → K v' w' → o.wp X.P a w next Q := by
            intro v' w' hr hkv
            refine wp_value (w' := w') ?_ (hk _ _ hkv)
            simp [execOp, ho, resolve, e1, invoke, builtin, hr]
          have ht : tys = tys.toList.toArray := by simp
          unfold appendVC at h
          split at h
          · rename_i t u htu
            split at h
            · rename_i el i j hs hj
              obtain ⟨jt, inft, zt, d, inf, z, hjt, hje, hrt, hi, hr⟩ := sliceElem_of hs
              cases hc : isInt j.d with
              | true =>
                rw [hc, cond_true] at h
                obtain ⟨k, hk'⟩ := isInt_of hc
                split at h
                · rename_i k' m
                  obtain ⟨n, xs, h0, hown, ⟨h1, h2, h3⟩, ⟨h4, h5⟩, hkv⟩ := h
                  obtain ⟨v', w', hrun, ho', hap⟩ := run_append_zeros (X := X) (w := w) (k' := k') hjt hje hj hk' hi h2 h1 o.type hown h3 h4 h5
                  rw [Int.toNat_of_nonneg h0] at hrun
                  refine hfin v' w' ?_ (hkv v' w' ho' hap)
                  rw [ht, htu]
                  exact hrun
                · exact h.elim
              | false =>
                rw [hc, cond_false] at h
                obtain ⟨n, xs, m, news, hown, hsrc, ⟨h1, h2⟩, ⟨h4, h5⟩, hkv⟩ := h
                have hap : appTypes X tys.toList el i := ⟨t, u, jt, j, htu, hjt, hje, hj, fun k hk' => by rw [hk'] at hc; simp [isInt] at hc, hi⟩
                obtain ⟨v', w', hrun, ho', hap'⟩ := run_append_src (X := X) (w := w) hap h1 o.type hown hsrc h2 h4 h5
                refine hfin v' w' ?_ (hkv v' w' ho' hap')
                rw [ht]
                exact hrun
            · exact h.elim
          · exact h.elim
        · exact h.elim
      case len =>
        split at h
        · rename_i m t hl htys
          split at h
          · rename_i k el sz by0 z0 ht
            obtain ⟨n, hn, hkv⟩ := h
            obtain ⟨d, inf, z, hr⟩ := X.row ht
            have hd := hr.desc
            cases d <;> simp [descOf] at hd
            have hl' := ha.evs _ _ hl
            have e1 : args.map a.eval = #[.map m] := Array.ext' (by simpa using hl')
            have ht0 : tys[0]? = some t := by rw [nth_nat, htys]; rfl
            refine wp_value (w' := w) ?_ (hk _ _ hkv)
            cases m with
            | none =>
              simp only [mapLen, Option.some.injEq] at hn
              subst hn
              simp [execOp, ho, resolve, e1, invoke, builtin, Builtin.len_, ht0, hr.run_und, goInt]
            | some b =>
              simp only [mapLen] at hn
              split at hn
              · rename_i es clock hb
                simp only [Option.some.injEq] at hn
                subst hn
                simp [execOp, ho, resolve, e1, invoke, builtin, Builtin.len_, ht0, hr.run_und, goInt, getObj, Sem.run, hb, Result.andThen]
              · simp at hn
          · exact h.elim
        · exact h.elim
      case copy =>
        split at h
        · rename_i b p n c x t r hl htys
          split at h
          · rename_i el i hs
            obtain ⟨T, l, m, xs, hown, hsrc, hok, hp, hkv⟩ := h
            obtain ⟨jt, inft, zt, d, inf, z, hjt, hje, hrt, hi, hr⟩ := sliceElem_of hs
            have hl' := ha.evs _ _ hl
            have e1 : args.map a.eval = #[.slice (some ⟨b, p, none⟩) n c, x] := Array.ext' (by simpa using hl')
            have hxl := hsrc.length
            have hfc := run_firstCells_src (P := X.P) hsrc (m := Nat.min m n) (Nat.min_le_left m n)
            have hlen : (xs.take (Nat.min m n * i.size)).length = Nat.min m n * i.size := by rw [List.length_take, hxl]; exact Nat.min_eq_left (Nat.mul_le_mul_right _ (Nat.min_le_left m n))
            have hst := run_storeCells_own (X := X) hown (p := p) (m := xs.take (Nat.min m n * i.size)) (by
              rw [hlen]
              have : Nat.min m n * i.size ≤ n * i.size := Nat.mul_le_mul_right _ (Nat.min_le_right m n)
              omega) (by
              simp only [okCells, List.all_eq_true] at hok ⊢
              exact fun u hu => hok u (List.mem_of_mem_take hu))
            refine wp_value (w' := w.setRow b (splice l p (xs.take (Nat.min m n * i.size))).toArray) ?_ (hk _ _ (hkv _ (own_setRow hown) (ext_setRow w b _)))
            have ht0 : tys[0]? = some t := by rw [nth_nat, htys]; rfl
            simp [execOp, ho, resolve, e1, invoke, builtin, Builtin.copy_, ht0, hrt.run_und, hsrc.lenOf, hr.run_size, hfc, hst, goInt]
          · exact h.elim
        · exact h.elim
end
end Go.Proofs.YtbcjhghfmhdafaaGreat.K
