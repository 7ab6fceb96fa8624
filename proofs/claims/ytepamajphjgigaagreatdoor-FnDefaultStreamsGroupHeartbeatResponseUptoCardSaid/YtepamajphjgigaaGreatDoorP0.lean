
/- The plain law: of a value that fits, what is appended field by field is what the protocol writes (descriptions without tagged fields). -/
import Derived.Test.YtepamajphjgigaaGreatDoorG2
import Derived.Test.YtepamajphjgigaaGreatDoorG15
set_option linter.unusedVariables false
set_option linter.unusedSimpArgs false
namespace Go.Proofs.YtepamajphjgigaaGreatDoor.K
open Go

def valueA (pw : List Fd → T → List UInt8) (kind : Int) (sub : List Fd) (null flex : Bool) (t : T) : List UInt8 :=
  if kind = 0 then [b8 (t.n % 2)]
  else if kind = 7 then uuidB t.s
  else if kind = 8 then countedB flex null (if null = true then [] else t.s).length 2 ++ (if null = true then [] else t.s)
  else if kind = 9 then countedB flex null (if null = true then [] else t.s).length 4 ++ (if null = true then [] else t.s)
  else if kind = 10 then pw sub t
  else fixed t.n (widthK kind)
def fieldAW (pw : List Fd → T → List UInt8) (f : Fd) (v : Int) (flex : Bool) (t : T) : List UInt8 :=
  if f.kind = 11 then countedB flex (nullF f v t) (if nullF f v t = true then [] else t.l).length 4 ++ (if nullF f v t = true then [] else t.l).flatMap (valueA pw f.of f.sub false flex)
  else if f.kind = 10 ∧ 0 ≤ f.nul then (if nullF f v t = true then fixed (-1) 1 else fixed 1 1 ++ pw f.sub t)
  else valueA pw f.kind f.sub (nullF f v t) flex t
def tgsB (flex : Bool) (u : List Tg) : List UInt8 := if flex = true then uvar u.length ++ u.flatMap tagB else []
def kindI (kind : Int) : IntKind := if kind = 1 then .i8 else if kind = 2 then .i16 else if kind = 3 then .i32 else if kind = 5 then .u16 else .i64
/-- A number as a field of a kind has it. -/
def numK (kind n : Int) : Int := if kind = 0 then n % 2 else (kindI kind).wrap n
def noTags (fs : List Fd) : Bool := fs.all fun f => decide (f.tag < 0)
theorem noTags_of {fs : List Fd} (h : ∀ g, g ∈ fs → g.tag = -1) : noTags fs = true := List.all_eq_true.2 fun g hg => decide_eq_true (by rw [h g hg]; decide)
/-- The tagged fields that are not as by default. -/
def tagL (fw : Fd → T → List UInt8) (us : Fd → T → Bool) (t : T) : Nat → List Fd → List Tg
  | _, [] => []
  | i, f :: r => (if 0 ≤ f.tag ∧ us f (atT t i) = false then [(f.tag.toNat, fw f (atT t i))] else []) ++ tagL fw us t (i + 1) r
def ncAll (t : T) : Nat → List Fd → Bool
  | _, [] => true
  | i, g :: r => decide (numK g.kind (atT t i).n = g.df) && ncAll t (i + 1) r
/-- Is a tagged field left out when it is appended? -/
def ncB (f : Fd) (x : T) : Bool :=
  if f.kind = 7 then decide (uuidB x.s = List.replicate 16 0)
  else if f.kind = 8 then x.nl
  else if f.kind = 11 then (if f.nul = -2 then x.nl else x.l.isEmpty)
  else if f.kind = 10 then ncAll x 0 f.sub && x.u.isEmpty
  else decide (numK f.kind x.n = f.df)
/-- What is appended of a part's tags. -/
def tgA (fw : Fd → T → List UInt8) (fs : List Fd) (flex : Bool) (t : T) : List UInt8 :=
  if noTags fs = true then tgsB flex t.u else if flex = true then uvar ((tagL fw ncB t 0 fs).length + t.u.length) ++ ((tagL fw ncB t 0 fs).flatMap tagB ++ t.u.flatMap tagB) else []
def partAW (fw : Fd → T → List UInt8) (fs : List Fd) (v : Int) (flex : Bool) (t : T) : List UInt8 := plainW fw v t 0 fs ++ tgA fw fs flex t
/-- What is appended of a field that fits; d: how deep parts lie within parts. -/
def fieldA : Nat → Int → Bool → Fd → T → List UInt8
  | 0, _, _, _, _ => []
  | d + 1, v, flex, f, t => fieldAW (fun sub t => partAW (fieldA d v flex) sub v flex t) f v flex t
def partA (d : Nat) (v : Int) (flex : Bool) (fs : List Fd) (t : T) : List UInt8 := partAW (fieldA d v flex) fs v flex t
/-- No tagged fields. -/
def ntF : Nat → Fd → Bool
  | 0, _ => false
  | d + 1, f => decide (f.tag = -1) && f.sub.all (ntF d)
theorem knownN_none : ∀ (fs : List Fd) (n : Nat), (∀ f, f ∈ fs → f.tag = -1) → knownN fs n = n
  | [], n, _ => rfl
  | f :: r, n, h => by
    rw [knownN, if_neg (by rw [h f (by simp)]; omega)]
    exact knownN_none r n fun g hg => h g (by simp [hg])
theorem partW_nt {fw : Fd → T → List UInt8} {us : Fd → T → Bool} {fs : List Fd} {v : Int} {flex : Bool} {t : T} (h : ∀ f, f ∈ fs → f.tag = -1) : partW fw us fs v flex t = plainW fw v t 0 fs ++ tgsB flex ((unknownT fs t.u).map cutT) := by
  unfold partW allTags tgsB
  rw [knownN_none fs 0 h]
  rfl
/-! ## Unknown tags -/
theorem insT_mem {x t : Tg} : ∀ {o : List Tg}, x ∈ insT o t → x ∈ o ∨ x = t
  | [], h => by simp [insT] at h; exact .inr h
  | y :: r, h => by
    unfold insT at h
    split at h
    · rcases List.mem_cons.1 h with h | h
      · exact .inl (by simp [h])
      · rcases insT_mem h with h | h
        · exact .inl (by simp [h])
        · exact .inr h
    · split at h
      · exact .inl h
      · rcases List.mem_cons.1 h with h | h
        · exact .inr h
        · exact .inl h
theorem insT_rising {t : Tg} : ∀ {o : List Tg}, o.Pairwise (fun a b => a.1 < b.1) → (insT o t).Pairwise (fun a b => a.1 < b.1)
  | [], h => by simp [insT]
  | y :: r, h => by
    have h1 := List.pairwise_cons.1 h
    unfold insT
    split
    · rename_i hlt
      refine List.pairwise_cons.2 ⟨fun z hz => ?_, insT_rising h1.2⟩
      rcases insT_mem hz with hz | rfl
      · exact h1.1 z hz
      · exact hlt
    · split
      · exact h
      · rename_i hlt hne
        refine List.pairwise_cons.2 ⟨fun z hz => ?_, h⟩
        rcases List.mem_cons.1 hz with rfl | hz
        · omega
        · have := h1.1 z hz
          omega
theorem unkT_mem {least : Nat} {x : Tg} : ∀ {u o : List Tg}, x ∈ unkT least o u → x ∈ o ∨ x ∈ u
  | [], o, h => .inl h
  | t :: r, o, h => by
    unfold unkT at h
    rcases unkT_mem h with h | h
    · split at h
      · exact .inl h
      · rcases insT_mem h with h | h
        · exact .inl h
        · exact .inr (by simp [h])
    · exact .inr (by simp [h])
theorem unkT_rising {least : Nat} : ∀ {u o : List Tg}, o.Pairwise (fun a b => a.1 < b.1) → (unkT least o u).Pairwise (fun a b => a.1 < b.1)
  | [], o, h => h
  | t :: r, o, h => by
    unfold unkT
    apply unkT_rising
    split
    · exact h
    · exact insT_rising h
/-- Tags that can be set and written: rising, no more and no longer than they may. -/
structure TagOK (u : List Tg) : Prop where
  rise : u.Pairwise fun a b => a.1 < b.1
  len : u.length ≤ 32767
  key : ∀ x, x ∈ u → x.1 < 4294967296
  val : ∀ x, x ∈ u → x.2.length ≤ 32767
theorem tag_ok (fs : List Fd) (u : List Tg) (hk : ∀ x, x ∈ u → x.1 < 4294967296) : TagOK ((unknownT fs u).map cutT) := by
  refine ⟨?_, ?_, ?_, ?_⟩
  · refine List.pairwise_map.2 ?_
    exact (unkT_rising List.Pairwise.nil : (unknownT fs u).Pairwise _)
  · rw [List.length_map]
    have h := unkT_length (knownN fs 0) (u.take most) []
    have h2 : (u.take most).length ≤ 32767 := by rw [List.length_take]; exact Nat.min_le_left _ _
    unfold unknownT
    simp only [List.length_nil] at h
    omega
  · intro x hx
    obtain ⟨y, hy, rfl⟩ := List.mem_map.1 hx
    rcases unkT_mem hy with h | h
    · simp at h
    · exact hk y (List.mem_of_mem_take h)
  · intro x hx
    obtain ⟨y, hy, rfl⟩ := List.mem_map.1 hx
    show (y.2.take most).length ≤ _
    rw [List.length_take]
    exact Nat.min_le_left _ _
/-- The tags' numbers in a tree can be written. -/
inductive KeyT : T → Prop
  | mk (n : Int) (s : List UInt8) (nl : Bool) (l : List T) (u : List Tg) (hu : ∀ x, x ∈ u → x.1 < 4294967296) (hl : ∀ x, x ∈ l → KeyT x) : KeyT (.mk n s nl l u)
theorem TrC.keys {w : World} {F : Nat → Prop} {c : List Value} {t : T} (h : TrC w F c t) : KeyT t := by
  induction h with
  | mk n s nl l u sv lv uv ls hn hs hl hlen hr hu ih =>
    refine .mk _ _ _ _ _ (fun x hx => ?_) (fun x hx => ?_)
    · obtain ⟨us, h1, h2, h3⟩ := hu
      obtain ⟨i, hi⟩ := List.mem_iff_getElem?.1 hx
      have hil := (List.getElem?_eq_some_iff.1 hi).1
      exact (h3 i us[i] x (by simp [h2, hil]) hi).1
    · obtain ⟨i, hi⟩ := List.mem_iff_getElem?.1 hx
      have hil := (List.getElem?_eq_some_iff.1 hi).1
      exact ih i ls[i] x (by simp [hlen, hil]) hi
theorem Tr.keys {w : World} {F : Nat → Prop} {x : Value} {t : T} (h : Tr w F x t) : KeyT t := by
  obtain ⟨c, _, h⟩ := h
  exact h.keys
theorem KeyT.u {t : T} (h : KeyT t) : ∀ x, x ∈ t.u → x.1 < 4294967296 := by cases h; assumption
theorem KeyT.l {t : T} (h : KeyT t) : ∀ x, x ∈ t.l → KeyT x := by cases h; assumption
theorem KeyT.zero : KeyT T.zero := .mk _ _ _ _ _ (by simp) (by simp)
theorem KeyT.at {t : T} (h : KeyT t) (i : Nat) : KeyT (atT t i) := by
  unfold atT
  cases hi : t.l[i]? with
  | none => exact .zero
  | some x => exact h.l x (List.mem_of_getElem? hi)
/-! ## Sizes -/
def maxV (mp : List Fd → Nat) (kind : Int) (sub : List Fd) : Nat := if kind = 8 ∨ kind = 9 then 32777 else if kind = 7 then 16 else if kind = 10 then mp sub else 8
def maxFW (mp : List Fd → Nat) (f : Fd) : Nat := if f.kind = 11 then 10 + 32767 * maxV mp f.of f.sub else if f.kind = 10 ∧ 0 ≤ f.nul then 1 + mp f.sub else maxV mp f.kind f.sub
def maxAll (mf : Fd → Nat) : List Fd → Nat
  | [] => 0
  | f :: r => mf f + maxAll mf r
def tagsMost : Nat := 10 + 32767 * 32787
def maxF : Nat → Fd → Nat
  | 0, _ => 0
  | d + 1, f => maxFW (fun sub => maxAll (maxF d) sub + tagsMost) f
def maxP (d : Nat) (fs : List Fd) : Nat := maxAll (maxF d) fs + tagsMost
theorem uvar10 {n : Nat} (h : n < 2 ^ 64) : (uvar n).length ≤ 10 := by rcases uvar_length n with h | h <;> omega
theorem counted_len {flex nb : Bool} {n size : Nat} (hn : n ≤ 32767) (hs : size ≤ 10) : (countedB flex nb n size).length ≤ 10 := by
  unfold countedB
  cases flex <;> cases nb <;> simp only [if_true, if_false, Bool.false_eq_true]
  · rw [fixed_length]; omega
  · rw [fixed_length]; omega
  · exact uvar10 (by omega)
  · simp
theorem take_len {α : Type} (nb : Bool) (l : List α) : (if nb = true then [] else l.take most).length ≤ 32767 := by
  cases nb
  · simp only [Bool.false_eq_true, if_false, List.length_take]; exact Nat.min_le_left _ _
  · simp
/-! ## What fits -/
def okV (po : List Fd → T → Prop) (kind : Int) (sub : List Fd) (x : T) : Prop := ((kind = 8 ∨ kind = 9) → x.s.length ≤ 32767) ∧ (kind = 10 → po sub x)
def partOKW (fo : Fd → T → Prop) (fs : List Fd) (t : T) : Prop := (∀ (i : Nat) (f : Fd), fs[i]? = some f → fo f (atT t i)) ∧ TagOK t.u
def fieldOKW (po : List Fd → T → Prop) (f : Fd) (v : Int) (x : T) : Prop :=
  (x.nl = true → (0 ≤ f.nul ∧ (hasF f v = true → f.nul ≤ v)) ∨ (f.nul < 0 ∧ (f.kind = 9 ∨ f.kind = 11) ∧ x.s = [] ∧ x.l = [] ∧ (f.nul = -2 → f.tag < 0 → ¬ hasF f v = true))) ∧ (if f.kind = 11 then x.l.length ≤ 32767 ∧ ∀ y, y ∈ x.l → y.nl = false ∧ okV po f.of f.sub y else okV po f.kind f.sub x)
/-- A value fits its field. -/
def fieldOK : Nat → Int → Fd → T → Prop
  | 0, _, _, _ => False
  | d + 1, v, f, x => fieldOKW (fun sub t => partOKW (fieldOK d v) sub t) f v x
def partOK (d : Nat) (v : Int) (fs : List Fd) (t : T) : Prop := partOKW (fieldOK d v) fs t
end Go.Proofs.YtepamajphjgigaaGreatDoor.K
