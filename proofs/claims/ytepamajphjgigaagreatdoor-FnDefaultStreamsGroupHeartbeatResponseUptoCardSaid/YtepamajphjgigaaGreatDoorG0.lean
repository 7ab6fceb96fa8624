/- The data that the functions speak of (trees, fields), and how they lie in memory. -/
import Derived.Test.YtepamajphjgigaaGreatDoorK9
set_option linter.unusedVariables false
set_option linter.unusedSimpArgs false
namespace Go.Proofs.YtepamajphjgigaaGreatDoor.K
open Go

abbrev Tg := Nat × List UInt8
/-- What a field says: a number, octets, null, the things within, unknown tags. -/
inductive T where
  | mk (n : Int) (s : List UInt8) (nl : Bool) (l : List T) (u : List Tg)
namespace T
def n : T → Int | .mk n _ _ _ _ => n
def s : T → List UInt8 | .mk _ s _ _ _ => s
def nl : T → Bool | .mk _ _ b _ _ => b
def l : T → List T | .mk _ _ _ l _ => l
def u : T → List Tg | .mk _ _ _ _ u => u
def zero : T := .mk 0 [] false [] []
end T
/-- A field's description. -/
inductive Fd where
  | mk (kind fr to nul tag df of : Int) (sub : List Fd)
namespace Fd
def kind : Fd → Int | .mk a _ _ _ _ _ _ _ => a
def fr : Fd → Int | .mk _ a _ _ _ _ _ _ => a
def to : Fd → Int | .mk _ _ a _ _ _ _ _ => a
def nul : Fd → Int | .mk _ _ _ a _ _ _ _ => a
def tag : Fd → Int | .mk _ _ _ _ a _ _ _ => a
def df : Fd → Int | .mk _ _ _ _ _ a _ _ => a
def of : Fd → Int | .mk _ _ _ _ _ _ a _ => a
def sub : Fd → List Fd | .mk _ _ _ _ _ _ _ a => a
end Fd

/-- A slice of structs: each element's cells. -/
def SlE (w : World) (F : Nat → Prop) (sz : Nat) (v : Value) (ls : List (List Value)) : Prop := Sl w F sz v ls.length ls.flatten ∧ ∀ c, c ∈ ls → c.length = sz
theorem getElem?_flatten_uniform {α : Type} (sz : Nat) : ∀ (ls : List (List α)) (i : Nat) (c : List α) (j : Nat) (u : α), (∀ c, c ∈ ls → c.length = sz) → ls[i]? = some c → c[j]? = some u → ls.flatten[i * sz + j]? = some u
  | [], i, c, j, u, _, h, _ => by simp at h
  | d :: r, 0, c, j, u, hl, h, hj => by
    simp only [List.getElem?_cons_zero, Option.some.injEq] at h
    subst h
    have := (List.getElem?_eq_some_iff.1 hj).1
    rw [Nat.zero_mul, Nat.zero_add, List.flatten_cons, List.getElem?_append_left this]
    exact hj
  | d :: r, i + 1, c, j, u, hl, h, hj => by
    have hd := hl d (by simp)
    rw [List.flatten_cons, List.getElem?_append_right (by rw [hd, Nat.add_mul]; omega)]
    have := getElem?_flatten_uniform sz r i c j u (fun c hc => hl c (by simp [hc])) (by simpa using h) hj
    rw [← this]
    congr 1
    rw [hd, Nat.add_mul]
    omega
theorem SlE.view {w : World} {F : Nat → Prop} {sz : Nat} {v : Value} {ls : List (List Value)} (h : SlE w F sz v ls) : ∃ a c, v = .slice a ls.length c ∧ ls.length ≤ c ∧ c ≤ maxLen ∧ (∀ b o, a = some ⟨b, o, none⟩ → 0 < ls.length → F b ∧ b < w.heap.size) ∧ True ∧
    ∀ i c', ls[i]? = some c' → ∃ b o, a = some ⟨b, o, none⟩ ∧ Cells w b (o + i * sz) c' := by
  obtain ⟨⟨a, c, rfl, ⟨hc, hm⟩, hl, ha⟩, hu⟩ := h
  refine ⟨a, c, rfl, hc, hm, ?_, trivial, fun i c' hi => ?_⟩
  · rcases ha with ⟨h0, _⟩ | ⟨b, o, rfl, hF, hlt, _⟩
    · intro b o _ h
      omega
    · intro b' o' h _
      simp only [Option.some.injEq, Addr.mk.injEq] at h
      rw [← h.1]
      exact ⟨hF, hlt⟩
  · rcases ha with ⟨h0, _⟩ | ⟨b, o, rfl, hF, hlt, hx⟩
    · have := (List.getElem?_eq_some_iff.1 hi).1
      omega
    · refine ⟨b, o, rfl, fun j u hj => ?_⟩
      rw [Nat.add_assoc]
      exact hx _ u (getElem?_flatten_uniform sz ls i c' j u hu hi hj)
theorem SlE.ext {M F : Nat → Prop} {w w' : World} {sz : Nat} {v : Value} {ls : List (List Value)} (h : SlE w F sz v ls) (x : Ext M w w') (hF : ∀ k, k < w.heap.size → F k → ¬ M k) : SlE w' F sz v ls := ⟨h.1.ext x hF, h.2⟩
theorem SlE.mono {F F' : Nat → Prop} {w : World} {sz : Nat} {v : Value} {ls : List (List Value)} (h : SlE w F sz v ls) (hF : ∀ k, k < w.heap.size → F k → F' k) : SlE w F' sz v ls := ⟨h.1.mono hF, h.2⟩
theorem Bytes.view {w : World} {F : Nat → Prop} {v : Value} {l : List UInt8} (h : Bytes w F v l) : ∃ a c, v = .slice a l.length c ∧ l.length ≤ c ∧ c ≤ maxLen ∧ (∀ b o, a = some ⟨b, o, none⟩ → 0 < l.length → F b ∧ b < w.heap.size) ∧ True ∧
    (a = none → l = []) ∧ ∀ i u, l[i]? = some u → ∃ b o, a = some ⟨b, o, none⟩ ∧ w.cell? ⟨b, o + i, none⟩ = some (bcell u) := by
  obtain ⟨a, c, rfl, ⟨hc, hm⟩, hl, ha⟩ := h
  refine ⟨a, c, rfl, hc, hm, ?_, trivial, ?_, fun i u hi => ?_⟩
  · rcases ha with ⟨h0, _⟩ | ⟨b, o, rfl, hF, hlt, _⟩
    · intro b o _ h
      omega
    · intro b' o' h _
      simp only [Option.some.injEq, Addr.mk.injEq] at h
      rw [← h.1]
      exact ⟨hF, hlt⟩
  · rcases ha with ⟨h0, _⟩ | ⟨b, o, rfl, hF, hlt, _⟩
    · exact fun _ => List.eq_nil_of_length_eq_zero h0
    · simp
  · rcases ha with ⟨h0, _⟩ | ⟨b, o, rfl, hF, hlt, hx⟩
    · have := (List.getElem?_eq_some_iff.1 hi).1
      omega
    · exact ⟨b, o, rfl, hx i _ (by simp [hi])⟩
/-- Unknown tags: number and octets. -/
def TgsR (w : World) (F : Nat → Prop) (v : Value) (u : List Tg) : Prop :=
  ∃ ls, SlE w F 2 v ls ∧ ls.length = u.length ∧ ∀ (i : Nat) (c : List Value) (x : Tg), ls[i]? = some c → u[i]? = some x → x.1 < 4294967296 ∧ ∃ bv, c = [.int .u32 (x.1 : Int), bv] ∧ Bytes w F bv x.2
/-- A tree: its five cells. -/
inductive TrC (w : World) (F : Nat → Prop) : List Value → T → Prop
  | mk (n : Int) (s : List UInt8) (nl : Bool) (l : List T) (u : List Tg) (sv lv uv : Value) (ls : List (List Value)) (hn : (.i64 : IntKind).wrap n = n) (hs : Bytes w F sv s) (hl : SlE w F 5 lv ls) (hlen : ls.length = l.length)
      (hr : ∀ (i : Nat) (c : List Value) (t : T), ls[i]? = some c → l[i]? = some t → TrC w F c t) (hu : TgsR w F uv u) : TrC w F [.int .i64 n, sv, .bool nl, lv, uv] (.mk n s nl l u)
abbrev Tr (w : World) (F : Nat → Prop) (v : Value) (t : T) : Prop := ∃ c : List Value, v = .agg c.toArray ∧ TrC w F c t
theorem TgsR.ext {M F : Nat → Prop} {w w' : World} {v : Value} {u : List Tg} (h : TgsR w F v u) (x : Ext M w w') (hF : ∀ k, k < w.heap.size → F k → ¬ M k) : TgsR w' F v u := by
  obtain ⟨ls, h1, h2, h3⟩ := h
  refine ⟨ls, h1.ext x hF, h2, fun i c y hc hy => ?_⟩
  obtain ⟨g1, bv, g2, g3⟩ := h3 i c y hc hy
  exact ⟨g1, bv, g2, g3.ext x hF⟩
theorem TgsR.mono {F F' : Nat → Prop} {w : World} {v : Value} {u : List Tg} (h : TgsR w F v u) (hF : ∀ k, k < w.heap.size → F k → F' k) : TgsR w F' v u := by
  obtain ⟨ls, h1, h2, h3⟩ := h
  refine ⟨ls, h1.mono hF, h2, fun i c y hc hy => ?_⟩
  obtain ⟨g1, bv, g2, g3⟩ := h3 i c y hc hy
  exact ⟨g1, bv, g2, Sl.mono g3 hF⟩
theorem TrC.ext {M F : Nat → Prop} {w w' : World} {c : List Value} {t : T} (h : TrC w F c t) (x : Ext M w w') (hF : ∀ k, k < w.heap.size → F k → ¬ M k) : TrC w' F c t := by
  induction h with
  | mk n s nl l u sv lv uv ls hn hs hl hlen hr hu ih => exact .mk n s nl l u sv lv uv ls hn (hs.ext x hF) (hl.ext x hF) hlen ih (hu.ext x hF)
theorem TrC.mono {F F' : Nat → Prop} {w : World} {c : List Value} {t : T} (h : TrC w F c t) (hF : ∀ k, k < w.heap.size → F k → F' k) : TrC w F' c t := by
  induction h with
  | mk n s nl l u sv lv uv ls hn hs hl hlen hr hu ih => exact .mk n s nl l u sv lv uv ls hn (Sl.mono hs hF) (hl.mono hF) hlen ih (hu.mono hF)
theorem TrC.len {w : World} {F : Nat → Prop} {c : List Value} {t : T} (h : TrC w F c t) : c.length = 5 := by cases h; rfl
theorem Tr.ext {M F : Nat → Prop} {w w' : World} {v : Value} {t : T} (h : Tr w F v t) (x : Ext M w w') (hF : ∀ k, k < w.heap.size → F k → ¬ M k) : Tr w' F v t := by
  obtain ⟨c, h1, h2⟩ := h
  exact ⟨c, h1, h2.ext x hF⟩
theorem Tr.mono {F F' : Nat → Prop} {w : World} {v : Value} {t : T} (h : Tr w F v t) (hF : ∀ k, k < w.heap.size → F k → F' k) : Tr w F' v t := by
  obtain ⟨c, h1, h2⟩ := h
  exact ⟨c, h1, h2.mono hF⟩
/-- A field's eight cells. -/
inductive FdC (w : World) (F : Nat → Prop) : List Value → Fd → Prop
  | mk (kind fr to nul tag df of : Int) (sub : List Fd) (sv : Value) (ls : List (List Value)) (hl : SlE w F 8 sv ls) (hlen : ls.length = sub.length) (hr : ∀ (i : Nat) (c : List Value) (f : Fd), ls[i]? = some c → sub[i]? = some f → FdC w F c f) :
      FdC w F [.int .i64 kind, .int .i64 fr, .int .i64 to, .int .i64 nul, .int .i64 tag, .int .i64 df, .int .i64 of, sv] (.mk kind fr to nul tag df of sub)
def FdsR (w : World) (F : Nat → Prop) (v : Value) (fs : List Fd) : Prop := ∃ ls, SlE w F 8 v ls ∧ ls.length = fs.length ∧ ∀ (i : Nat) (c : List Value) (f : Fd), ls[i]? = some c → fs[i]? = some f → FdC w F c f
theorem FdC.ext {M F : Nat → Prop} {w w' : World} {c : List Value} {f : Fd} (h : FdC w F c f) (x : Ext M w w') (hF : ∀ k, k < w.heap.size → F k → ¬ M k) : FdC w' F c f := by
  induction h with
  | mk kind fr to nul tag df of sub sv ls hl hlen hr ih => exact .mk kind fr to nul tag df of sub sv ls (hl.ext x hF) hlen ih
theorem FdC.mono {F F' : Nat → Prop} {w : World} {c : List Value} {f : Fd} (h : FdC w F c f) (hF : ∀ k, k < w.heap.size → F k → F' k) : FdC w F' c f := by
  induction h with
  | mk kind fr to nul tag df of sub sv ls hl hlen hr ih => exact .mk kind fr to nul tag df of sub sv ls (hl.mono hF) hlen ih
theorem FdsR.ext {M F : Nat → Prop} {w w' : World} {v : Value} {fs : List Fd} (h : FdsR w F v fs) (x : Ext M w w') (hF : ∀ k, k < w.heap.size → F k → ¬ M k) : FdsR w' F v fs := by
  obtain ⟨ls, h1, h2, h3⟩ := h
  exact ⟨ls, h1.ext x hF, h2, fun i c f hc hf => (h3 i c f hc hf).ext x hF⟩
theorem FdsR.mono {F F' : Nat → Prop} {w : World} {v : Value} {fs : List Fd} (h : FdsR w F v fs) (hF : ∀ k, k < w.heap.size → F k → F' k) : FdsR w F' v fs := by
  obtain ⟨ls, h1, h2, h3⟩ := h
  exact ⟨ls, h1.mono hF, h2, fun i c f hc hf => (h3 i c f hc hf).mono hF⟩
theorem Bytes.nil (w : World) (F : Nat → Prop) : Bytes w F (.slice none 0 0) [] := ⟨none, 0, rfl, ⟨Nat.le_refl _, Nat.zero_le _⟩, rfl, .inl ⟨rfl, .inl rfl⟩⟩
theorem SlE.nil (w : World) (F : Nat → Prop) (sz : Nat) : SlE w F sz (.slice none 0 0) [] := ⟨⟨none, 0, rfl, ⟨Nat.le_refl _, Nat.zero_le _⟩, by simp, .inl ⟨rfl, .inl rfl⟩⟩, by simp⟩
theorem TgsR.nil (w : World) (F : Nat → Prop) : TgsR w F (.slice none 0 0) [] := ⟨[], SlE.nil w F 2, rfl, by simp⟩
theorem TrC.zero (w : World) (F : Nat → Prop) : TrC w F [.int .i64 0, .slice none 0 0, .bool false, .slice none 0 0, .slice none 0 0] T.zero :=
  .mk 0 [] false [] [] _ _ _ [] rfl (Bytes.nil w F) (SlE.nil w F 5) rfl (by simp) (TgsR.nil w F)
/-- Reads: nothing old has changed. -/
abbrev anyB : Nat → Prop := fun _ => True
theorem Bytes.any {w : World} {F : Nat → Prop} {v : Value} {l : List UInt8} (h : Bytes w F v l) : Bytes w anyB v l := Sl.mono h fun _ _ _ => trivial
/-- From an extension that changes nothing old. -/
theorem Bytes.e0 {F : Nat → Prop} {w w' : World} {v : Value} {l : List UInt8} (h : Bytes w F v l) (x : Ext nob w w') : Bytes w' F v l := h.ext x fun _ _ _ h => h
theorem SlE.e0 {F : Nat → Prop} {w w' : World} {sz : Nat} {v : Value} {ls : List (List Value)} (h : SlE w F sz v ls) (x : Ext nob w w') : SlE w' F sz v ls := h.ext x fun _ _ _ h => h
theorem TgsR.e0 {F : Nat → Prop} {w w' : World} {v : Value} {u : List Tg} (h : TgsR w F v u) (x : Ext nob w w') : TgsR w' F v u := h.ext x fun _ _ _ h => h
theorem TrC.e0 {F : Nat → Prop} {w w' : World} {c : List Value} {t : T} (h : TrC w F c t) (x : Ext nob w w') : TrC w' F c t := h.ext x fun _ _ _ h => h
theorem Tr.e0 {F : Nat → Prop} {w w' : World} {v : Value} {t : T} (h : Tr w F v t) (x : Ext nob w w') : Tr w' F v t := Tr.ext h x fun _ _ _ h => h
theorem FdC.e0 {F : Nat → Prop} {w w' : World} {c : List Value} {f : Fd} (h : FdC w F c f) (x : Ext nob w w') : FdC w' F c f := h.ext x fun _ _ _ h => h
theorem FdsR.e0 {F : Nat → Prop} {w w' : World} {v : Value} {fs : List Fd} (h : FdsR w F v fs) (x : Ext nob w w') : FdsR w' F v fs := h.ext x fun _ _ _ h => h
theorem Own.e0 {w w' : World} {b : Nat} {Ty : TypeId} {l : List Value} (h : Own w b Ty l) (x : Ext nob w w') : Own w' b Ty l := h.ext x id
theorem Cells.e0 {w w' : World} {b o : Nat} {l : List Value} (h : Cells w b o l) (x : Ext nob w w') : Cells w' b o l := h.ext x id
theorem Ext.e0 {w w1 w2 : World} (h : Ext nob w w1) (h' : Ext nob w1 w2) : Ext nob w w2 := h.tr0 h'
theorem ext_drew (w : World) : Ext nob w w.drew := Ext.drew w
theorem i64_of {n : Int} (h1 : -9223372036854775808 ≤ n) (h2 : n ≤ 9223372036854775807) : IntKind.i64.wrap n = n := by rw [IntKind.wrap_i64]; omega
theorem ldS {w : World} {b o : Nat} {v : Value} {K : Value → Prop} (h : w.cell? ⟨b, o, none⟩ = some v) (k : K v) : ∃ v, w.cell? ⟨b, o, none⟩ = some v ∧ K v := ⟨v, h, k⟩
theorem ld {w : World} {b o o' : Nat} {v : Value} (h : w.cell? ⟨b, o, none⟩ = some v) (ho : o' = o) : w.cell? ⟨b, o', none⟩ = some v := by rw [ho]; exact h
theorem inc_eq {i : Nat} (h : i < 9223372036854775807) : some (Value.int .i64 (IntKind.i64.wrap ((i : Int) + 1))) = some (.int .i64 ((i + 1 : Nat) : Int)) := by
  rw [i64_of (by omega) (by omega)]
  rfl
theorem maxLen_eq : maxLen = 9223372036854775807 := rfl
end Go.Proofs.YtepamajphjgigaaGreatDoor.K
