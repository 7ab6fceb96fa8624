/- The plain law: of a value that fits, what is appended field by field is what the protocol writes (descriptions without tagged fields). -/
import Derived.Test.YtjepglidlblmlaaDoorG2
import Derived.Test.YtjepglidlblmlaaDoorG15
set_option linter.unusedVariables false
set_option linter.unusedSimpArgs false
namespace Go.Proofs.YtjepglidlblmlaaDoor.K
open Go

def valueA (pw : List Fd → T → List UInt8) (kind : Int) (sub : List Fd) (null flex : Bool) (t : T) : List UInt8 :=
  if kind = 0 then [b8 (t.n % 2)]
  else if kind = 7 then uuidB t.s
  else if kind = 8 then countedB flex null (if null = true then [] else t.s).length 2 ++ (if null = true then [] else t.s)
  else if kind = 9 then countedB flex null (if null = true then [] else t.s).length 4 ++ (if null = true then [] else t.s)
  else if kind = 10 then pw sub t
  else fixed t.n (widthK kind)
def fieldAW (pw : List Fd → T → List UInt8) (f : Fd) (v : Int) (flex : Bool) (t : T) : List UInt8 :=
  if f.kind = 11 then countedB flex (nullF f v t) (if nullF f v t = true then [] else t.l).length 4 ++ (if nullF f v t = true then [] else t.l).flatMap (valueA pw f.of f.sub false flex)
  else if f.kind = 10 ∧ 0 ≤ f.nul then (if nullF f v t = true then fixed (-1) 1 else fixed 1 1 ++ pw f.sub t)
  else valueA pw f.kind f.sub (nullF f v t) flex t
def tgsB (flex : Bool) (u : List Tg) : List UInt8 := if flex = true then uvar u.length ++ u.flatMap tagB else []
def kindI (kind : Int) : IntKind := if kind = 1 then .i8 else if kind = 2 then .i16 else if kind = 3 then .i32 else if kind = 5 then .u16 else .i64
/-- A number as a field of a kind has it. -/
def numK (kind n : Int) : Int := if kind = 0 then n % 2 else (kindI kind).wrap n
def noTags (fs : List Fd) : Bool := fs.all fun f => decide (f.tag < 0)
theorem noTags_of {fs : List Fd} (h : ∀ g, g ∈ fs → g.tag = -1) : noTags fs = true := List.all_eq_true.2 fun g hg => decide_eq_true (by rw [h g hg]; decide)
/-- The tagged fields that are not as by default. -/
def tagL (fw : Fd → T → List UInt8) (us : Fd → T → Bool) (t : T) : Nat → List Fd → List Tg
  | _, [] => []
  | i, f :: r => (if 0 ≤ f.tag ∧ us f (atT t i) = false then [(f.tag.toNat, fw f (atT t i))] else []) ++ tagL fw us t (i + 1) r
def ncAll (t : T) : Nat → List Fd → Bool
  | _, [] => true
  | i, g :: r => decide (numK g.kind (atT t i).n = g.df) && ncAll t (i + 1) r
/-- Is a tagged field left out when it is appended? -/
def ncB (f : Fd) (x : T) : Bool :=
  if f.kind = 7 then decide (uuidB x.s = List.replicate 16 0)
  else if f.kind = 8 then x.nl
  else if f.kind = 11 then (if f.nul = -2 then x.nl else x.l.isEmpty)
  else if f.kind = 10 then ncAll x 0 f.sub && x.u.isEmpty
  else decide (numK f.kind x.n = f.df)
/-- What is appended of a part's tags. -/
def tgA (fw : Fd → T → List UInt8) (fs : List Fd) (flex : Bool) (t : T) : List UInt8 :=
  if noTags fs = true then tgsB flex t.u else if flex = true then uvar ((tagL fw ncB t 0 fs).length + t.u.length) ++ ((tagL fw ncB t 0 fs).flatMap tagB ++ t.u.flatMap tagB) else []
theorem tgA_nt {fw : Fd → T → List UInt8} {fs : List Fd} {flex : Bool} {t : T} (h : noTags fs = true) : tgA fw fs flex t = tgsB flex t.u := if_pos h
def partAW (fw : Fd → T → List UInt8) (fs : List Fd) (v : Int) (flex : Bool) (t : T) : List UInt8 := plainW fw v t 0 fs ++ tgA fw fs flex t
/-- What is appended of a field that fits; d: how deep parts lie within parts. -/
def fieldA : Nat → Int → Bool → Fd → T → List UInt8
  | 0, _, _, _, _ => []
  | d + 1, v, flex, f, t => fieldAW (fun sub t => partAW (fieldA d v flex) sub v flex t) f v flex t
def partA (d : Nat) (v : Int) (flex : Bool) (fs : List Fd) (t : T) : List UInt8 := partAW (fieldA d v flex) fs v flex t
/-- No tagged fields. -/
def ntF : Nat → Fd → Bool
  | 0, _ => false
  | d + 1, f => decide (f.tag = -1) && f.sub.all (ntF d)
theorem atT_congr {t t' : T} (h : t.l = t'.l) (i : Nat) : atT t i = atT t' i := by unfold atT; rw [h]
theorem plainW_congr {fw fw' : Fd → T → List UInt8} {v : Int} {t t' : T} : ∀ (fs : List Fd) (i : Nat), (∀ (j : Nat) f, fs[j]? = some f → fw f (atT t (i + j)) = fw' f (atT t' (i + j))) → plainW fw v t i fs = plainW fw' v t' i fs
  | [], i, h => rfl
  | f :: r, i, h => by
    have h0 := h 0 f rfl
    rw [Nat.add_zero] at h0
    have hr := plainW_congr (fw := fw) (fw' := fw') (v := v) (t := t) (t' := t') r (i + 1) fun j g hj => by
      have := h (j + 1) g (by simpa using hj)
      rw [show i + 1 + j = i + (j + 1) by omega]
      exact this
    simp only [plainW, h0, hr]
theorem tagL_same {fw : Fd → T → List UInt8} {us : Fd → T → Bool} {t t' : T} (h : t.l = t'.l) : ∀ {fs : List Fd} {i : Nat}, tagL fw us t i fs = tagL fw us t' i fs
  | [], _ => rfl
  | f :: r, i => by
    rw [tagL, tagL, atT_congr h, tagL_same h]
theorem partA_congr {d : Nat} {v : Int} {flex : Bool} {fs : List Fd} {t t' : T} (hl : t.l = t'.l) (hu : t.u = t'.u) : partA d v flex fs t = partA d v flex fs t' := by
  unfold partA partAW tgA
  rw [hu, tagL_same hl, plainW_congr (fw := fieldA d v flex) (fw' := fieldA d v flex) (v := v) (t := t) (t' := t') fs 0 fun j f hf => by rw [atT_congr hl]]
theorem fitAll_get (fi : Fd → T → T) (t : T) : ∀ (fs : List Fd) (i j : Nat) (f : Fd), fs[j]? = some f → (fitAll fi t i fs)[j]? = some (fi f (atT t (i + j)))
  | [], i, j, f, h => by simp at h
  | g :: r, i, 0, f, h => by
    simp only [List.getElem?_cons_zero, Option.some.injEq] at h
    rw [fitAll, List.getElem?_cons_zero, Nat.add_zero, h]
  | g :: r, i, j + 1, f, h => by
    rw [fitAll, List.getElem?_cons_succ, fitAll_get fi t r (i + 1) j f (by simpa using h), show i + 1 + j = i + (j + 1) by omega]
theorem atT_fit (fi : Fd → T → T) (fs : List Fd) (t : T) (j : Nat) (f : Fd) (h : fs[j]? = some f) : atT (fitW fi fs t) j = fi f (atT t j) := by
  have : (fitW fi fs t).l = fitAll fi t 0 fs := rfl
  unfold atT at *
  rw [this, fitAll_get fi t fs 0 j f h, Nat.zero_add]
  rfl
theorem knownN_none : ∀ (fs : List Fd) (n : Nat), (∀ f, f ∈ fs → f.tag = -1) → knownN fs n = n
  | [], n, _ => rfl
  | f :: r, n, h => by
    rw [knownN, if_neg (by rw [h f (by simp)]; omega)]
    exact knownN_none r n fun g hg => h g (by simp [hg])
theorem partW_nt {fw : Fd → T → List UInt8} {us : Fd → T → Bool} {fs : List Fd} {v : Int} {flex : Bool} {t : T} (h : ∀ f, f ∈ fs → f.tag = -1) : partW fw us fs v flex t = plainW fw v t 0 fs ++ tgsB flex ((unknownT fs t.u).map cutT) := by
  unfold partW allTags tgsB
  rw [knownN_none fs 0 h]
  rfl
theorem valueA_fit {pf : List Fd → T → T} {pA pB : List Fd → T → List UInt8} {sub : List Fd} {flex : Bool} (hp : ∀ x, pA sub (pf sub x) = pB sub x) (hc : ∀ x y : T, x.l = y.l → x.u = y.u → pA sub x = pA sub y) (k : Int) (nb : Bool) (x : T) :
    valueA pA k sub nb flex (fit1 pf k sub nb x) = valueW pB k sub nb flex x := by
  by_cases h8 : k = 8
  · subst h8; rfl
  by_cases h9 : k = 9
  · subst h9; rfl
  by_cases h10 : k = 10
  · subst h10
    have e : fit1 pf 10 sub nb x = .mk (pf sub x).n (pf sub x).s nb (pf sub x).l (pf sub x).u := rfl
    rw [e]
    show pA sub _ = pB sub x
    rw [← hp]
    exact hc _ _ rfl rfl
  · have e : fit1 pf k sub nb x = .mk x.n x.s false [] [] := by unfold fit1; rw [if_neg (by simp [h8, h9]), if_neg h10]
    rw [e]
    unfold valueA valueW
    simp only [h8, h9, h10, if_false]
    rfl
theorem fit1_nl {pf : List Fd → T → T} {k : Int} {sub : List Fd} {nb : Bool} {x : T} (h : k = 8 ∨ k = 9 ∨ k = 10) : (fit1 pf k sub nb x).nl = nb := by
  unfold fit1
  by_cases h1 : k = 8 ∨ k = 9
  · rw [if_pos h1]; rfl
  · rw [if_neg h1, if_pos (by omega)]; rfl
theorem valueA_null {pA : List Fd → T → List UInt8} {k : Int} {sub : List Fd} {nb nb' flex : Bool} {x : T} (h : ¬ (k = 8 ∨ k = 9)) : valueA pA k sub nb flex x = valueA pA k sub nb' flex x := by
  unfold valueA
  simp only [show k ≠ 8 from fun e => h (.inl e), show k ≠ 9 from fun e => h (.inr e), if_false]
theorem field_law : ∀ (d : Nat) (v : Int) (flex : Bool) (f : Fd) (t : T), ntF d f = true → fieldA d v flex f (fittedB d v f t) = fieldB d v flex f t
  | 0, _, _, _, _, h => by simp [ntF] at h
  | d + 1, v, flex, f, t, h => by
    have hh : f.tag = -1 ∧ ∀ g, g ∈ f.sub → ntF d g = true := by simpa [ntF] using h
    obtain ⟨ht, hs⟩ := hh
    have hst : ∀ g, g ∈ f.sub → g.tag = -1 := by
      intro g hg
      have := hs g hg
      match d, this with
      | 0, h => simp [ntF] at h
      | d + 1, h => have h : g.tag = -1 ∧ ∀ x, x ∈ g.sub → ntF d x = true := by simpa [ntF] using h
                    exact h.1
    have hp : ∀ x, partAW (fieldA d v flex) f.sub v flex (fitW (fittedB d v) f.sub x) = partW (fieldB d v flex) (usualB d) f.sub v flex x := by
      intro x
      rw [partW_nt hst]
      unfold partAW
      rw [tgA_nt (noTags_of hst)]
      have e : (fitW (fittedB d v) f.sub x).u = (unknownT f.sub x.u).map cutT := rfl
      rw [e, plainW_congr (fw := fieldA d v flex) (fw' := fieldB d v flex) (v := v) (t := fitW (fittedB d v) f.sub x) (t' := x) f.sub 0 fun j g hg => by
        rw [Nat.zero_add, atT_fit _ _ _ j g hg]
        exact field_law d v flex g _ (hs g (List.mem_of_getElem? hg))]
    have hc : ∀ x y : T, x.l = y.l → x.u = y.u → partAW (fieldA d v flex) f.sub v flex x = partAW (fieldA d v flex) f.sub v flex y := fun x y h1 h2 => partA_congr h1 h2
    have hnull : ∀ x : T, x.nl = nullF f v t → nullF f v x = nullF f v t := by
      intro x hx
      unfold nullF at hx ⊢
      rw [hx]
      cases t.nl <;> simp
    show fieldAW (fun sub t => partAW (fieldA d v flex) sub v flex t) f v flex (fitF (fun sub t => fitW (fittedB d v) sub t) f v t) = fieldW (fun sub t => partW (fieldB d v flex) (usualB d) sub v flex t) f v flex t
    unfold fieldAW fieldW fitF
    by_cases h11 : f.kind = 11
    · simp only [h11, if_true]
      have e : (nullF f v t || (decide (0 ≤ f.tag) && t.l.isEmpty)) = nullF f v t := by
        rw [ht]
        simp
      rw [e, hnull _ rfl]
      show countedB flex (nullF f v t) (if nullF f v t = true then [] else ((t.l.take most).map _)).length 4 ++ (if nullF f v t = true then [] else ((t.l.take most).map _)).flatMap _ = _
      cases hn : nullF f v t with
      | true => rfl
      | false =>
        simp only [Bool.false_eq_true, if_false, List.length_map, List.flatMap_map]
        congr 2
        funext y
        exact valueA_fit (pA := fun sub t => partAW (fieldA d v flex) sub v flex t) (pB := fun sub t => partW (fieldB d v flex) (usualB d) sub v flex t) (pf := fun sub t => fitW (fittedB d v) sub t) hp hc f.of false y
    · simp only [h11, if_false]
      have key := valueA_fit (pA := fun sub t => partAW (fieldA d v flex) sub v flex t) (pB := fun sub t => partW (fieldB d v flex) (usualB d) sub v flex t) (pf := fun sub t => fitW (fittedB d v) sub t) (flex := flex) hp hc f.kind (nullF f v t) t
      by_cases h10 : f.kind = 10 ∧ 0 ≤ f.nul
      · rw [if_pos h10, if_pos h10, hnull _ (fit1_nl (by omega))]
        rw [h10.1] at key
        cases hn : nullF f v t with
        | true => rfl
        | false =>
          rw [hn] at key
          rw [h10.1]
          simp only [Bool.false_eq_true, if_false]
          congr 1
      · rw [if_neg h10, if_neg h10]
        by_cases h89 : f.kind = 8 ∨ f.kind = 9
        · rw [hnull _ (fit1_nl (by omega))]
          exact key
        · rw [valueA_null (nb' := nullF f v t) h89]
          exact key
theorem part_law (d : Nat) (v : Int) (flex : Bool) (fs : List Fd) (t : T) (h : ∀ f, f ∈ fs → ntF d f = true) : partA d v flex fs (fitB d v fs t) = partB d v flex fs t := by
  have hst : ∀ g, g ∈ fs → g.tag = -1 := by
    intro g hg
    have := h g hg
    match d, this with
    | 0, h => simp [ntF] at h
    | d + 1, h => have h : g.tag = -1 ∧ ∀ x, x ∈ g.sub → ntF d x = true := by simpa [ntF] using h
                  exact h.1
  unfold partB
  rw [partW_nt hst]
  unfold partA partAW fitB
  rw [tgA_nt (noTags_of hst)]
  have e : (fitW (fittedB d v) fs t).u = (unknownT fs t.u).map cutT := rfl
  rw [e, plainW_congr (fw := fieldA d v flex) (fw' := fieldB d v flex) (v := v) (t := fitW (fittedB d v) fs t) (t' := t) fs 0 fun j g hg => by
    rw [Nat.zero_add, atT_fit _ _ _ j g hg]
    exact field_law d v flex g _ (h g (List.mem_of_getElem? hg))]
/-! ## Unknown tags -/
theorem insT_mem {x t : Tg} : ∀ {o : List Tg}, x ∈ insT o t → x ∈ o ∨ x = t
  | [], h => by simp [insT] at h; exact .inr h
  | y :: r, h => by
    unfold insT at h
    split at h
    · rcases List.mem_cons.1 h with h | h
      · exact .inl (by simp [h])
      · rcases insT_mem h with h | h
        · exact .inl (by simp [h])
        · exact .inr h
    · split at h
      · exact .inl h
      · rcases List.mem_cons.1 h with h | h
        · exact .inr h
        · exact .inl h
theorem insT_rising {t : Tg} : ∀ {o : List Tg}, o.Pairwise (fun a b => a.1 < b.1) → (insT o t).Pairwise (fun a b => a.1 < b.1)
  | [], h => by simp [insT]
  | y :: r, h => by
    have h1 := List.pairwise_cons.1 h
    unfold insT
    split
    · rename_i hlt
      refine List.pairwise_cons.2 ⟨fun z hz => ?_, insT_rising h1.2⟩
      rcases insT_mem hz with hz | rfl
      · exact h1.1 z hz
      · exact hlt
    · split
      · exact h
      · rename_i hlt hne
        refine List.pairwise_cons.2 ⟨fun z hz => ?_, h⟩
        rcases List.mem_cons.1 hz with rfl | hz
        · omega
        · have := h1.1 z hz
          omega
theorem unkT_mem {least : Nat} {x : Tg} : ∀ {u o : List Tg}, x ∈ unkT least o u → x ∈ o ∨ x ∈ u
  | [], o, h => .inl h
  | t :: r, o, h => by
    unfold unkT at h
    rcases unkT_mem h with h | h
    · split at h
      · exact .inl h
      · rcases insT_mem h with h | h
        · exact .inl h
        · exact .inr (by simp [h])
    · exact .inr (by simp [h])
theorem unkT_rising {least : Nat} : ∀ {u o : List Tg}, o.Pairwise (fun a b => a.1 < b.1) → (unkT least o u).Pairwise (fun a b => a.1 < b.1)
  | [], o, h => h
  | t :: r, o, h => by
    unfold unkT
    apply unkT_rising
    split
    · exact h
    · exact insT_rising h
/-- Tags that can be set and written: rising, no more and no longer than they may. -/
structure TagOK (u : List Tg) : Prop where
  rise : u.Pairwise fun a b => a.1 < b.1
  len : u.length ≤ 32767
  key : ∀ x, x ∈ u → x.1 < 4294967296
  val : ∀ x, x ∈ u → x.2.length ≤ 32767
theorem tag_ok (fs : List Fd) (u : List Tg) (hk : ∀ x, x ∈ u → x.1 < 4294967296) : TagOK ((unknownT fs u).map cutT) := by
  refine ⟨?_, ?_, ?_, ?_⟩
  · refine List.pairwise_map.2 ?_
    exact (unkT_rising List.Pairwise.nil : (unknownT fs u).Pairwise _)
  · rw [List.length_map]
    have h := unkT_length (knownN fs 0) (u.take most) []
    have h2 : (u.take most).length ≤ 32767 := by rw [List.length_take]; exact Nat.min_le_left _ _
    unfold unknownT
    simp only [List.length_nil] at h
    omega
  · intro x hx
    obtain ⟨y, hy, rfl⟩ := List.mem_map.1 hx
    rcases unkT_mem hy with h | h
    · simp at h
    · exact hk y (List.mem_of_mem_take h)
  · intro x hx
    obtain ⟨y, hy, rfl⟩ := List.mem_map.1 hx
    show (y.2.take most).length ≤ _
    rw [List.length_take]
    exact Nat.min_le_left _ _
/-- The tags' numbers in a tree can be written. -/
inductive KeyT : T → Prop
  | mk (n : Int) (s : List UInt8) (nl : Bool) (l : List T) (u : List Tg) (hu : ∀ x, x ∈ u → x.1 < 4294967296) (hl : ∀ x, x ∈ l → KeyT x) : KeyT (.mk n s nl l u)
theorem TrC.keys {w : World} {F : Nat → Prop} {c : List Value} {t : T} (h : TrC w F c t) : KeyT t := by
  induction h with
  | mk n s nl l u sv lv uv ls hn hs hl hlen hr hu ih =>
    refine .mk _ _ _ _ _ (fun x hx => ?_) (fun x hx => ?_)
    · obtain ⟨us, h1, h2, h3⟩ := hu
      obtain ⟨i, hi⟩ := List.mem_iff_getElem?.1 hx
      have hil := (List.getElem?_eq_some_iff.1 hi).1
      exact (h3 i us[i] x (by simp [h2, hil]) hi).1
    · obtain ⟨i, hi⟩ := List.mem_iff_getElem?.1 hx
      have hil := (List.getElem?_eq_some_iff.1 hi).1
      exact ih i ls[i] x (by simp [hlen, hil]) hi
theorem Tr.keys {w : World} {F : Nat → Prop} {x : Value} {t : T} (h : Tr w F x t) : KeyT t := by
  obtain ⟨c, _, h⟩ := h
  exact h.keys
theorem KeyT.u {t : T} (h : KeyT t) : ∀ x, x ∈ t.u → x.1 < 4294967296 := by cases h; assumption
theorem KeyT.l {t : T} (h : KeyT t) : ∀ x, x ∈ t.l → KeyT x := by cases h; assumption
theorem KeyT.zero : KeyT T.zero := .mk _ _ _ _ _ (by simp) (by simp)
theorem KeyT.at {t : T} (h : KeyT t) (i : Nat) : KeyT (atT t i) := by
  unfold atT
  cases hi : t.l[i]? with
  | none => exact .zero
  | some x => exact h.l x (List.mem_of_getElem? hi)
/-! ## Sizes -/
def maxV (mp : List Fd → Nat) (kind : Int) (sub : List Fd) : Nat := if kind = 8 ∨ kind = 9 then 32777 else if kind = 7 then 16 else if kind = 10 then mp sub else 8
def maxFW (mp : List Fd → Nat) (f : Fd) : Nat := if f.kind = 11 then 10 + 32767 * maxV mp f.of f.sub else if f.kind = 10 ∧ 0 ≤ f.nul then 1 + mp f.sub else maxV mp f.kind f.sub
def maxAll (mf : Fd → Nat) : List Fd → Nat
  | [] => 0
  | f :: r => mf f + maxAll mf r
def tagsMost : Nat := 10 + 32767 * 32787
def maxF : Nat → Fd → Nat
  | 0, _ => 0
  | d + 1, f => maxFW (fun sub => maxAll (maxF d) sub + tagsMost) f
def maxP (d : Nat) (fs : List Fd) : Nat := maxAll (maxF d) fs + tagsMost
theorem uvar10 {n : Nat} (h : n < 2 ^ 64) : (uvar n).length ≤ 10 := by rcases uvar_length n with h | h <;> omega
theorem flatMap_bound {α : Type} (f : α → List UInt8) (m : Nat) : ∀ (l : List α), (∀ x, x ∈ l → (f x).length ≤ m) → (l.flatMap f).length ≤ l.length * m
  | [], _ => by simp
  | x :: r, h => by
    have h1 := h x (by simp)
    have h2 := flatMap_bound f m r fun y hy => h y (by simp [hy])
    rw [List.flatMap_cons, List.length_append, List.length_cons, Nat.add_mul]
    omega
theorem counted_len {flex nb : Bool} {n size : Nat} (hn : n ≤ 32767) (hs : size ≤ 10) : (countedB flex nb n size).length ≤ 10 := by
  unfold countedB
  cases flex <;> cases nb <;> simp only [if_true, if_false, Bool.false_eq_true]
  · rw [fixed_length]; omega
  · rw [fixed_length]; omega
  · exact uvar10 (by omega)
  · simp
theorem tags_len {flex : Bool} {u : List Tg} (h : TagOK u) : (tgsB flex u).length ≤ tagsMost := by
  unfold tgsB
  cases flex
  · simp
  · simp only [if_true, List.length_append]
    have h1 := uvar10 (n := u.length) (by have := h.len; omega)
    have h2 := flatMap_bound tagB 32787 u fun x hx => by
      have hk := h.key x hx
      have hv := h.val x hx
      have h1 := uvar10 (n := x.1) (by omega)
      have h2 := uvar10 (n := x.2.length) (by omega)
      unfold tagB
      simp only [List.length_append]
      omega
    have h3 : u.length * 32787 ≤ 32767 * 32787 := Nat.mul_le_mul_right _ h.len
    unfold tagsMost
    omega
theorem take_len {α : Type} (nb : Bool) (l : List α) : (if nb = true then [] else l.take most).length ≤ 32767 := by
  cases nb
  · simp only [Bool.false_eq_true, if_false, List.length_take]; exact Nat.min_le_left _ _
  · simp
theorem valueW_len {pw : List Fd → T → List UInt8} {mp : List Fd → Nat} {sub : List Fd} {t : T} (hp : (pw sub t).length ≤ mp sub) (kind : Int) (null flex : Bool) : (valueW pw kind sub null flex t).length ≤ maxV mp kind sub := by
  have h2 := widthK_le kind
  unfold valueW maxV
  by_cases h0 : kind = 0
  · subst h0; simp
  by_cases h7 : kind = 7
  · subst h7; simp [uuidB]
  by_cases h8 : kind = 8
  · subst h8
    simp only [show ¬ ((8 : Int) = 0) by decide, show ¬ ((8 : Int) = 7) by decide, if_false, if_true, true_or, List.length_append]
    have := take_len null t.s
    have := counted_len (flex := flex) (nb := null) (size := 2) this (by omega)
    omega
  by_cases h9 : kind = 9
  · subst h9
    simp only [show ¬ ((9 : Int) = 0) by decide, show ¬ ((9 : Int) = 7) by decide, show ¬ ((9 : Int) = 8) by decide, if_false, if_true, or_true, List.length_append]
    have := take_len null t.s
    have := counted_len (flex := flex) (nb := null) (size := 4) this (by omega)
    omega
  by_cases h10 : kind = 10
  · subst h10; exact hp
  · simp only [h0, h7, h8, h9, h10, if_false, or_self, fixed_length]
    exact h2
theorem plainW_len {fw : Fd → T → List UInt8} {mf : Fd → Nat} {v : Int} {t : T} : ∀ (fs : List Fd) (i : Nat), (∀ (j : Nat) f, f ∈ fs → (fw f (atT t j)).length ≤ mf f) → (plainW fw v t i fs).length ≤ maxAll mf fs
  | [], i, h => by simp [plainW]
  | f :: r, i, h => by
    have h1 := h i f (by simp)
    have h2 := plainW_len (v := v) r (i + 1) fun j g hg => h j g (by simp [hg])
    unfold plainW maxAll
    rw [List.length_append]
    split
    · omega
    · simp only [List.length_nil]; omega
theorem fieldB_len : ∀ (d : Nat) (v : Int) (flex : Bool) (f : Fd) (t : T), ntF d f = true → KeyT t → (fieldB d v flex f t).length ≤ maxF d f
  | 0, _, _, _, _, h, _ => by simp [ntF] at h
  | d + 1, v, flex, f, t, h, hk => by
    have hh : f.tag = -1 ∧ ∀ g, g ∈ f.sub → ntF d g = true := by simpa [ntF] using h
    obtain ⟨ht, hs⟩ := hh
    have hst : ∀ g, g ∈ f.sub → g.tag = -1 := by
      intro g hg
      have := hs g hg
      match d, this with
      | 0, h => simp [ntF] at h
      | d + 1, h => have h : g.tag = -1 ∧ ∀ x, x ∈ g.sub → ntF d x = true := by simpa [ntF] using h
                    exact h.1
    have hp : ∀ x, KeyT x → (partW (fieldB d v flex) (usualB d) f.sub v flex x).length ≤ maxAll (maxF d) f.sub + tagsMost := by
      intro x hx
      rw [partW_nt hst, List.length_append]
      have h1 := plainW_len (fw := fieldB d v flex) (mf := maxF d) (v := v) (t := x) f.sub 0 fun j g hg => fieldB_len d v flex g _ (hs g hg) (hx.at j)
      have h2 := tags_len (flex := flex) (tag_ok f.sub x.u hx.u)
      omega
    show (fieldW (fun sub t => partW (fieldB d v flex) (usualB d) sub v flex t) f v flex t).length ≤ maxFW (fun sub => maxAll (maxF d) sub + tagsMost) f
    unfold fieldW maxFW
    by_cases h11 : f.kind = 11
    · simp only [h11, if_true, List.length_append]
      have h1 := take_len (nullF f v t) t.l
      have h2 := counted_len (flex := flex) (nb := nullF f v t) (size := 4) h1 (by omega)
      have h3 := flatMap_bound (valueW (fun sub t => partW (fieldB d v flex) (usualB d) sub v flex t) f.of f.sub false flex) (maxV (fun sub => maxAll (maxF d) sub + tagsMost) f.of f.sub) (if nullF f v t = true then [] else t.l.take most) fun x hx => by
        have hx' : x ∈ t.l := by
          split at hx
          · simp at hx
          · exact List.mem_of_mem_take hx
        exact valueW_len (mp := fun sub => maxAll (maxF d) sub + tagsMost) (hp x (hk.l x hx')) f.of false flex
      have h4 := Nat.mul_le_mul_right (maxV (fun sub => maxAll (maxF d) sub + tagsMost) f.of f.sub) h1
      omega
    · simp only [h11, if_false]
      by_cases h10 : f.kind = 10 ∧ 0 ≤ f.nul
      · rw [if_pos h10, if_pos h10]
        split
        · rw [fixed_length]; omega
        · have := hp t hk
          rw [List.length_append, fixed_length]
          omega
      · rw [if_neg h10, if_neg h10]
        exact valueW_len (mp := fun sub => maxAll (maxF d) sub + tagsMost) (hp t hk) f.kind _ flex
theorem partB_len (d : Nat) (v : Int) (flex : Bool) (fs : List Fd) (t : T) (h : ∀ f, f ∈ fs → ntF d f = true) (hk : KeyT t) : (partB d v flex fs t).length ≤ maxP d fs := by
  have hst : ∀ g, g ∈ fs → g.tag = -1 := by
    intro g hg
    have := h g hg
    match d, this with
    | 0, h => simp [ntF] at h
    | d + 1, h => have h : g.tag = -1 ∧ ∀ x, x ∈ g.sub → ntF d x = true := by simpa [ntF] using h
                  exact h.1
  unfold partB
  rw [partW_nt hst, List.length_append]
  have h1 := plainW_len (fw := fieldB d v flex) (mf := maxF d) (v := v) (t := t) fs 0 fun j g hg => fieldB_len d v flex g _ (h g hg) (hk.at j)
  have h2 := tags_len (flex := flex) (tag_ok fs t.u hk.u)
  unfold maxP
  omega
/-! ## What fits -/
def okV (po : List Fd → T → Prop) (kind : Int) (sub : List Fd) (x : T) : Prop := ((kind = 8 ∨ kind = 9) → x.s.length ≤ 32767) ∧ (kind = 10 → po sub x)
def partOKW (fo : Fd → T → Prop) (fs : List Fd) (t : T) : Prop := (∀ (i : Nat) (f : Fd), fs[i]? = some f → fo f (atT t i)) ∧ TagOK t.u
def fieldOKW (po : List Fd → T → Prop) (f : Fd) (v : Int) (x : T) : Prop :=
  (x.nl = true → (0 ≤ f.nul ∧ (hasF f v = true → f.nul ≤ v)) ∨ (f.nul < 0 ∧ (f.kind = 9 ∨ f.kind = 11) ∧ x.s = [] ∧ x.l = [] ∧ (f.nul = -2 → f.tag < 0 → ¬ hasF f v = true))) ∧ (if f.kind = 11 then x.l.length ≤ 32767 ∧ ∀ y, y ∈ x.l → y.nl = false ∧ okV po f.of f.sub y else okV po f.kind f.sub x)
/-- A value fits its field. -/
def fieldOK : Nat → Int → Fd → T → Prop
  | 0, _, _, _ => False
  | d + 1, v, f, x => fieldOKW (fun sub t => partOKW (fieldOK d v) sub t) f v x
def partOK (d : Nat) (v : Int) (fs : List Fd) (t : T) : Prop := partOKW (fieldOK d v) fs t
theorem partOK_congr {fo : Fd → T → Prop} {fs : List Fd} {t t' : T} (hl : t.l = t'.l) (hu : t.u = t'.u) (h : partOKW fo fs t) : partOKW fo fs t' := by
  obtain ⟨h1, h2⟩ := h
  refine ⟨fun i f hf => ?_, by rw [← hu]; exact h2⟩
  rw [← atT_congr hl]
  exact h1 i f hf
theorem fit1_ok {pf : List Fd → T → T} {po : List Fd → T → Prop} {sub : List Fd} {x : T} (hp : po sub (pf sub x)) (hc : ∀ x y : T, x.l = y.l → x.u = y.u → po sub x → po sub y) (k : Int) (nb : Bool) : okV po k sub (fit1 pf k sub nb x) := by
  unfold okV fit1
  by_cases h1 : k = 8 ∨ k = 9
  · rw [if_pos h1]
    refine ⟨fun _ => ?_, fun h => by omega⟩
    show (x.s.take most).length ≤ _
    rw [List.length_take]
    exact Nat.min_le_left _ _
  · rw [if_neg h1]
    refine ⟨fun h => absurd h h1, fun h => ?_⟩
    rw [if_pos h]
    exact hc (pf sub x) _ rfl rfl hp
theorem fit1_nlF {pf : List Fd → T → T} {k : Int} {sub : List Fd} {nb : Bool} {x : T} (h : (fit1 pf k sub nb x).nl = true) : nb = true := by
  by_cases h1 : k = 8 ∨ k = 9 ∨ k = 10
  · rw [fit1_nl h1] at h; exact h
  · unfold fit1 at h
    rw [if_neg (by omega), if_neg (by omega)] at h
    exact Bool.noConfusion h
theorem field_ok : ∀ (d : Nat) (v : Int) (f : Fd) (t : T), ntF d f = true → KeyT t → fieldOK d v f (fittedB d v f t)
  | 0, _, _, _, h, _ => by simp [ntF] at h
  | d + 1, v, f, t, h, hk => by
    have hh : f.tag = -1 ∧ ∀ g, g ∈ f.sub → ntF d g = true := by simpa [ntF] using h
    obtain ⟨ht, hs⟩ := hh
    have hp : ∀ x, KeyT x → partOKW (fieldOK d v) f.sub (fitW (fittedB d v) f.sub x) := by
      intro x hx
      refine ⟨fun i g hg => ?_, tag_ok f.sub x.u hx.u⟩
      rw [atT_fit _ _ _ i g hg]
      exact field_ok d v g _ (hs g (List.mem_of_getElem? hg)) (hx.at i)
    have hc : ∀ x y : T, x.l = y.l → x.u = y.u → partOKW (fieldOK d v) f.sub x → partOKW (fieldOK d v) f.sub y := fun x y h1 h2 => partOK_congr h1 h2
    have hn0 : nullF f v t = true → 0 ≤ f.nul ∧ (hasF f v = true → f.nul ≤ v) := by
      intro h
      unfold nullF at h
      simp only [Bool.and_eq_true, decide_eq_true_eq] at h
      exact ⟨h.2.1, fun _ => h.2.2⟩
    show fieldOKW (fun sub t => partOKW (fieldOK d v) sub t) f v (fitF (fun sub t => fitW (fittedB d v) sub t) f v t)
    unfold fieldOKW fitF
    by_cases h11 : f.kind = 11
    · simp only [h11, if_true]
      refine ⟨fun h => .inl (hn0 ?_), ?_, fun y hy => ?_⟩
      · have h : (nullF f v t || (decide (0 ≤ f.tag) && t.l.isEmpty)) = true := h
        rw [ht] at h
        simpa using h
      · show (List.map _ (t.l.take most)).length ≤ _
        rw [List.length_map, List.length_take]
        exact Nat.min_le_left _ _
      · have hy : y ∈ List.map (fit1 (fun sub t => fitW (fittedB d v) sub t) f.of f.sub false) (t.l.take most) := hy
        obtain ⟨z, hz, rfl⟩ := List.mem_map.1 hy
        refine ⟨?_, fit1_ok (hp z (hk.l z (List.mem_of_mem_take hz))) hc _ _⟩
        cases hq : (fit1 (fun sub t => fitW (fittedB d v) sub t) f.of f.sub false z).nl with
        | false => rfl
        | true => exact absurd (fit1_nlF hq) (by decide)
    · simp only [h11, if_false]
      exact ⟨fun h => .inl (hn0 (fit1_nlF h)), fit1_ok (hp t hk) hc _ _⟩
theorem part_ok (d : Nat) (v : Int) (fs : List Fd) (t : T) (h : ∀ f, f ∈ fs → ntF d f = true) (hk : KeyT t) : partOK d v fs (fitB d v fs t) := by
  refine ⟨fun i g hg => ?_, tag_ok fs t.u hk.u⟩
  unfold fitB
  rw [atT_fit _ _ _ i g hg]
  exact field_ok d v g _ (h g (List.mem_of_getElem? hg)) (hk.at i)
end Go.Proofs.YtjepglidlblmlaaDoor.K
