/- The conditions of single operations and of regions, and that they suffice. -/
import Derived.Test.YtbcjhghfmhdafaaGreatK0
set_option linter.unusedVariables false
set_option linter.unusedSimpArgs false
namespace Go.Proofs.YtbcjhghfmhdafaaGreat.K
open Go

/-! ## Bytes and slices in memory -/
abbrev bcell (b : UInt8) : Value := .int .u8 (b.toNat : Int)
abbrev str (l : List UInt8) : Value := .string ⟨l.toArray⟩
/-- The slice value v has n elements of sz cells each, and its cells are xs. F: in which blocks they lie. -/
def Sl (w : World) (F : Nat → Prop) (sz : Nat) (v : Value) (n : Nat) (xs : List Value) : Prop :=
  ∃ a c, v = .slice a n c ∧ (n ≤ c ∧ c ≤ maxLen) ∧ xs.length = n * sz ∧ ((n = 0 ∧ (a = none ∨ c = 0)) ∨ ∃ b o, a = some ⟨b, o, none⟩ ∧ F b ∧ b < w.heap.size ∧ Cells w b o xs)
def Bytes (w : World) (F : Nat → Prop) (v : Value) (l : List UInt8) : Prop := Sl w F 1 v l.length (l.map bcell)
/-- What may be appended: a slice's cells, or a string's bytes. -/
inductive Src (w : World) (sz : Nat) : Value → Nat → List Value → Prop
  | empty (a : Option Addr) (c : Nat) : Src w sz (.slice a 0 c) 0 []
  | some (b o n c : Nat) (xs : List Value) (hl : xs.length = n * sz) (h : Cells w b o xs) : Src w sz (.slice (some ⟨b, o, none⟩) n c) n xs
  | string (s : ByteArray) (hs : sz = 1) : Src w sz (.string s) s.size (s.data.toList.map bcell)
theorem Sl.src {w : World} {F : Nat → Prop} {sz : Nat} {v : Value} {n : Nat} {xs : List Value} (h : Sl w F sz v n xs) : Src w sz v n xs := by
  obtain ⟨a, c, rfl, hc, hl, ha | ⟨b, o, rfl, _, _, hx⟩⟩ := h
  · obtain ⟨rfl, _⟩ := ha
    have : xs = [] := List.eq_nil_of_length_eq_zero (by simpa using hl)
    subst this
    exact Src.empty a c
  · exact Src.some b o n c xs hl hx
theorem Sl.ext {M F : Nat → Prop} {w w' : World} {sz : Nat} {v : Value} {n : Nat} {xs : List Value} (h : Sl w F sz v n xs) (x : Ext M w w') (hF : ∀ k, k < w.heap.size → F k → ¬ M k) : Sl w' F sz v n xs := by
  obtain ⟨a, c, rfl, hc, hl, ha | ⟨b, o, rfl, hb, hlt, hx⟩⟩ := h
  · exact ⟨a, c, rfl, hc, hl, .inl ha⟩
  · exact ⟨_, c, rfl, hc, hl, .inr ⟨b, o, rfl, hb, Nat.lt_of_lt_of_le hlt x.size, hx.ext x (hF b hlt hb)⟩⟩
theorem Sl.mono {F F' : Nat → Prop} {w : World} {sz : Nat} {v : Value} {n : Nat} {xs : List Value} (h : Sl w F sz v n xs) (hF : ∀ k, k < w.heap.size → F k → F' k) : Sl w F' sz v n xs := by
  obtain ⟨a, c, rfl, hc, hl, ha | ⟨b, o, rfl, hb, hlt, hx⟩⟩ := h
  · exact ⟨a, c, rfl, hc, hl, .inl ha⟩
  · exact ⟨_, c, rfl, hc, hl, .inr ⟨b, o, rfl, hF b hlt hb, hlt, hx⟩⟩
theorem Bytes.ext {M F : Nat → Prop} {w w' : World} {v : Value} {l : List UInt8} (h : Bytes w F v l) (x : Ext M w w') (hF : ∀ k, k < w.heap.size → F k → ¬ M k) : Bytes w' F v l := Sl.ext h x hF
/-- The slice value v, which may be appended to: its cells are xs. -/
abbrev OwnSl (w : World) (e : TypeId) (sz : Nat) (v : Value) (n : Nat) (xs : List Value) : Prop := w.ownsRow 0 e sz v n xs
theorem OwnSl.nil (w : World) (e : TypeId) (sz : Nat) : OwnSl w e sz (.slice none 0 0) 0 [] := World.ownsRow_nil w 0 e sz
theorem OwnSl.of_own {w : World} {b : Nat} {T : TypeId} {l : List Value} (h : Own w b T l) (sz n cap : Nat) (hn : n ≤ cap) (hc : cap ≤ maxLen) (hl : l.length = cap * sz) :
    OwnSl w T sz (.slice (some ⟨b, 0, none⟩) n cap) n (l.take (n * sz)) :=
  ⟨by rw [List.length_take, hl, Nat.min_eq_left (Nat.mul_le_mul_right _ hn)], .inr ⟨b, cap, l.toArray, rfl, Nat.zero_le _, h, hn, hc, by simpa using hl, by simp⟩⟩
theorem OwnSl.ext {M : Nat → Prop} {w w' : World} {e : TypeId} {sz : Nat} {v : Value} {n : Nat} {xs : List Value} (h : OwnSl w e sz v n xs) (x : Ext M w w') (hb : ∀ k, v.ownBlock = some k → ¬ M k) : OwnSl w' e sz v n xs := by
  refine ⟨h.1, ?_⟩
  rcases h.2 with hn | ⟨g, cap, cur, rfl, hb', hg, rest⟩
  · exact .inl hn
  · exact .inr ⟨g, cap, cur, rfl, hb', x.obj hg (hb g rfl), rest⟩
theorem OwnSl.lt {w : World} {e : TypeId} {sz : Nat} {v : Value} {n : Nat} {xs : List Value} (h : OwnSl w e sz v n xs) : ∀ k, v.ownBlock = some k → k < w.heap.size := fun k hk => (World.ownsRow.lt h k hk).2
theorem OwnSl.sl {w : World} {e : TypeId} {sz : Nat} {v : Value} {n : Nat} {xs : List Value} (h : OwnSl w e sz v n xs) {F : Nat → Prop} (hF : ∀ k, v.ownBlock = some k → F k) : Sl w F sz v n xs := by
  have hcell := fun g hg => World.ownsRow.cells h (g := g) hg
  have hlt := h.lt
  rcases h.2 with ⟨rfl, rfl⟩ | ⟨g, cap, cur, rfl, _, _, hn, hm, _⟩
  · exact ⟨none, 0, rfl, ⟨Nat.le_refl _, Nat.zero_le _⟩, h.1, .inl ⟨rfl, .inl rfl⟩⟩
  · refine ⟨_, cap, rfl, ⟨hn, hm⟩, h.1, .inr ⟨g, 0, rfl, hF g rfl, hlt g rfl, fun j u hj => ?_⟩⟩
    have := hcell g rfl j u hj
    have hadd : (⟨g, 0, none⟩ : Addr).add j = ⟨g, 0 + j, none⟩ := by unfold Addr.add; split <;> simp_all
    rwa [hadd] at this

/-! ## Operations that only compute -/
def fieldOf (tab : Tab) (s : TypeId) (f : Nat) : Option (Nat × TI) :=
  match tlook tab s with
  | some ⟨.strct fs, _, _, _⟩ => match fs[f]? with
    | some (off, t) => match tlook tab t with
      | some i => cond (Nat.beq i.size 0) none (some (off, i))
      | none => none
    | none => none
  | _ => none
def intBin (op : BinOp) (k : IntKind) (a : Int) (k' : IntKind) (b : Int) : Option Value :=
  match decide (k = k') with
  | false => none
  | true => match op with
    | .add => some (.int k (k.wrap (a + b)))
    | .sub => some (.int k (k.wrap (a - b)))
    | .mul => some (.int k (k.wrap (a * b)))
    | .and => some (.int k (k.wrap (BitVec.ofInt k.bits a &&& BitVec.ofInt k.bits b).toNat))
    | .or => some (.int k (k.wrap (BitVec.ofInt k.bits a ||| BitVec.ofInt k.bits b).toNat))
    | .xor => some (.int k (k.wrap (BitVec.ofInt k.bits a ^^^ BitVec.ofInt k.bits b).toNat))
    | .eql => some (.bool (a == b))
    | .neq => some (.bool (a != b))
    | .lss => some (.bool (decide (a < b)))
    | .leq => some (.bool (decide (a ≤ b)))
    | .gtr => some (.bool (decide (a > b)))
    | .geq => some (.bool (decide (a ≥ b)))
    | _ => none
def isNil : Value → Option Bool
  | .slice a _ _ => some a.isNone
  | .pointer a => some a.isNone
  | .map a => some a.isNone
  | .nilIface => some true
  | .iface _ _ => some false
  | _ => none
/-- The constant nil of a type. -/
def nilOf : TD → Value → Bool
  | .slice _, .slice none _ _ => true
  | .ptr _, .pointer none => true
  | .map _ _, .map none => true
  | .iface, .nilIface => true
  | _, _ => false
def kindFits : TD → Value → Bool
  | .slice _, .slice _ _ _ => true
  | .ptr _, .pointer _ => true
  | .map _ _, .map _ => true
  | .iface, .nilIface => true
  | .iface, .iface _ _ => true
  | _, _ => false
def binV (tab : Tab) (op : BinOp) (t : TypeId) (y : Operand) (u v : Value) : Option Value :=
  match u, v with
  | .int k a, .int k' b => intBin op k a k' b
  | u, v => match y, tlook tab t, op with
    | .const _, some i, .eql => cond (nilOf i.d v && kindFits i.d u) ((isNil u).map .bool) none
    | .const _, some i, .neq => cond (nilOf i.d v && kindFits i.d u) ((isNil u).map fun b => .bool (!b)) none
    | _, _, _ => none
def partV (i : TI) (off : Nat) (cs : List Value) : Option Value :=
  cond i.d.agg (some (.agg ((cs.drop off).take i.size).toArray)) cs[off]?
def foldSet (cs : List Value) (off : Nat) : List Value → List Value
  | [] => cs
  | v :: r => foldSet (cs.set off v) (off + 1) r
/-- The cells of a struct literal: those given, the rest zero. -/
def buildV (tab : Tab) (e : Env) (s : TypeId) (cs : List Value) : List (Nat × Operand) → Option (List Value)
  | [] => some cs
  | (f, x) :: r => match fieldOf tab s f, ev e x with
    | some (off, i), some v => cond (Nat.beq v.cells.toList.length i.size && Nat.ble (off + i.size) cs.length) (buildV tab e s (foldSet cs off v.cells.toList) r) none
    | _, _ => none
def allKnown (tab : Tab) : List (Nat × TypeId) → Bool
  | [] => true
  | (_, t) :: r => (tlook tab t).isSome && allKnown tab r
def lenV (i : TI) : Value → Option Value
  | .slice _ n _ => match i.d with | .slice _ => some (.int .i64 n) | _ => none
  | .string s => match i.d with | .str => some (.int .i64 s.size) | _ => none
  | _ => none
def pureOp (tab : Tab) (op : Op) (e : Env) : Option Value :=
  match op with
  | .move x => ev e x
  | .assign x => ev e x
  | .nilCheck x => match ev e x with
    | some (.pointer (some a)) => some (.pointer (some a))
    | _ => none
  | .fieldAddr s x f => match ev e x, fieldOf tab s f with
    | some (.pointer (some ⟨b, o, none⟩)), some (off, _) => some (.pointer (some ⟨b, o + off, none⟩))
    | _, _ => none
  | .field s x f => match ev e x, fieldOf tab s f with
    | some (.agg cs), some (off, i) => partV i off cs.toList
    | _, _ => none
  | .binOp op t x y _ => match ev e x, ev e y with
    | some u, some v => binV tab op t y u v
    | _, _ => none
  | .unOp .not _ x => match ev e x with
    | some (.bool b) => some (.bool (!b))
    | _ => none
  | .convert s d x => match tlook tab s, tlook tab d, ev e x with
    | some _, some ⟨.int k, _, _, _⟩, some (.int _ n) => some (.int k (k.wrap n))
    | _, _, _ => none
  | .build s parts => match tlook tab s with
    | some ⟨.strct fs, _, _, z⟩ => cond (allKnown tab fs) ((buildV tab e s z parts.toList).map fun l => .agg l.toArray) none
    | _ => none
  | .call ⟨.builtin .len, args, tys⟩ => match args.toList, tys.toList with
    | [x], [t] => match tlook tab t, ev e x with
      | some i, some v => lenV i v
      | _, _ => none
    | _, _ => none
  | .call ⟨.builtin .min, args, _⟩ => match evs e args.toList with
    | some [.int k a, .int _ b] => some (.int k (if b < a then b else a))
    | _ => none
  | .call ⟨.builtin .max, args, _⟩ => match evs e args.toList with
    | some [.int k a, .int _ b] => some (.int k (if b > a then b else a))
    | _ => none
  | .pick c a b => match ev e c with
    | some (.bool true) => ev e a
    | some (.bool false) => ev e b
    | _ => none
  | .extract x i => match ev e x with
    | some (.tuple vs) => vs.toList[i]?
    | _ => none
  | .makeFunc fn first cap => match evs e first.toList, evs e cap.toList with
    | some f, some c => some (.func fn f.toArray c.toArray)
    | _, _ => none
  | .makeInterface t x => match tlook tab t, ev e x with
    | some ⟨.iface, _, _, _⟩, _ => none
    | some _, some v => some (.iface t v)
    | _, _ => none
  | _ => none
theorem nth_nat {α : Type} (a : Array α) (i : Nat) : a[i]? = a.toList[i]? := by simp
section
variable {X : Pr} {N : Nat} {e : Env} {a : Act} {w : World}
theorem run_field {s : TypeId} {f : Nat} {off : Nat} {i : TI} (h : fieldOf X.tab s f = some (off, i)) :
    ∃ fs fd t, X.P.underlying s = some (.struct fs) ∧ fs[f]? = some fd ∧ fd.offset = off ∧ fd.type = t ∧ tlook X.tab t = some i ∧ i.size ≠ 0 := by
  unfold fieldOf at h
  split at h
  · rename_i fs sz by0 z hs
    split at h
    · rename_i off' t hf
      split at h
      · rename_i j hj
        cases hz : Nat.beq j.size 0 with
        | true => rw [hz] at h; simp at h
        | false =>
          rw [hz] at h
          simp only [cond_false, Option.some.injEq, Prod.mk.injEq] at h
          obtain ⟨rfl, rfl⟩ := h
          obtain ⟨d, inf, z', hr⟩ := X.row hs
          have hd := hr.desc
          have hu := hr.und
          cases d <;> simp [descOf] at hd
          rename_i fds
          subst hd
          simp only [List.getElem?_map] at hf
          cases hq : fds.toList[f]? with
          | none => simp [hq] at hf
          | some fd =>
            simp only [hq, Option.map_some, Option.some.injEq, Prod.mk.injEq] at hf
            refine ⟨fds, fd, t, hu, by rw [nth_nat, hq], hf.1, hf.2, hj, fun h0 => ?_⟩
            rw [h0] at hz
            simp at hz
      · simp at h
    · simp at h
  · simp at h
theorem run_part {t : TypeId} {i : TI} (hi : tlook X.tab t = some i) {off : Nat} {cs : Array Value} {v : Value} (h : partV i off cs.toList = some v) :
    (part t cs off).run X.P w = .ok v w := by
  obtain ⟨d, inf, z, hr⟩ := X.row hi
  unfold partV at h
  unfold part
  cases hq : i.d.agg with
  | true =>
    rw [hq] at h
    simp only [cond_true, Option.some.injEq] at h
    simp only [Sem.run_bind, hr.run_agg, Result.andThen_ok, hq, if_true, hr.run_size, Sem.run_pure, ← h]
    congr 2
    apply Array.ext'
    simp
  | false =>
    rw [hq] at h
    simp only [cond_false] at h
    simp only [Sem.run_bind, hr.run_agg, Result.andThen_ok, hq, Bool.false_eq_true, if_false, nth_nat, h, Sem.run_pure]
end
end Go.Proofs.YtbcjhghfmhdafaaGreat.K
