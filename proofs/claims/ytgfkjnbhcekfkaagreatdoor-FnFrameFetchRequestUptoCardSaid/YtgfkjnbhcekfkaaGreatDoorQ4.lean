/- Parts with tagged fields, in plain Lean: what is written of them, in order; how long it is; that it is read as told; that what is appended of a told tree is what was written. -/
import Derived.Test.YtgfkjnbhcekfkaaGreatDoorP1
import Derived.Test.YtgfkjnbhcekfkaaGreatDoorQ2
import Derived.Test.YtgfkjnbhcekfkaaGreatDoorC3
set_option linter.unusedVariables false
set_option linter.unusedSimpArgs false
namespace Go.Proofs.YtgfkjnbhcekfkaaGreatDoor.K
open Go
set_option maxHeartbeats 800000

/-! ## The tags in order -/
/-- Tags that rise, in the order of the fields. -/
def riseF : Int → List Fd → Bool
  | _, [] => true
  | k, f :: r => if f.tag < 0 then riseF k r else decide (k ≤ f.tag) && riseF (f.tag + 1) r
def tagsI (fw : Fd → T → List UInt8) (us : Fd → T → Bool) (fs : List Fd) (t : T) (i : Nat) : Nat → Nat → List Tg
  | _, 0 => []
  | k, n + 1 => taggedW fw us k t i fs ++ tagsI fw us fs t i (k + 1) n
section
variable {fw : Fd → T → List UInt8} {us : Fd → T → Bool} {t : T}
theorem tagsI_zero (fs : List Fd) : ∀ (n k : Nat), tagsW fw us fs t k n = tagsI fw us fs t 0 k n
  | 0, _ => rfl
  | n + 1, k => by rw [tagsW, tagsI, tagsI_zero fs n (k + 1)]
theorem rise_ge : ∀ {fs : List Fd} {k : Int}, riseF k fs = true → ∀ f, f ∈ fs → f.tag < 0 ∨ k ≤ f.tag
  | [], _, _, f, hf => by simp at hf
  | g :: r, k, h, f, hf => by
    rw [riseF] at h
    split at h
    · rename_i hg
      rcases List.mem_cons.1 hf with rfl | hf
      · exact .inl hg
      · exact rise_ge h f hf
    · rw [Bool.and_eq_true, decide_eq_true_eq] at h
      rcases List.mem_cons.1 hf with rfl | hf
      · exact .inr h.1
      · rcases rise_ge h.2 f hf with h1 | h1
        · exact .inl h1
        · exact .inr (by omega)
theorem tagged_none {j : Nat} : ∀ (fs : List Fd) (i : Nat), (∀ f, f ∈ fs → f.tag ≠ (j : Int)) → taggedW fw us j t i fs = []
  | [], _, _ => rfl
  | f :: r, i, h => by
    rw [taggedW, if_neg fun e => h f (by simp) e.1, tagged_none r (i + 1) fun g hg => h g (by simp [hg])]
    rfl
theorem tagsI_none {fs : List Fd} {i : Nat} : ∀ (n k : Nat), (∀ f, f ∈ fs → f.tag < (k : Int) ∨ (k + n : Int) ≤ f.tag) → tagsI fw us fs t i k n = []
  | 0, _, _ => rfl
  | n + 1, k, h => by
    rw [tagsI, tagged_none fs i fun f hf => by have := h f hf; omega, tagsI_none n (k + 1) fun f hf => by have := h f hf; omega]
    rfl
theorem tagsI_add {fs : List Fd} {i : Nat} : ∀ (a b k : Nat), tagsI fw us fs t i k (a + b) = tagsI fw us fs t i k a ++ tagsI fw us fs t i (k + a) b
  | 0, b, k => by simp [tagsI]
  | a + 1, b, k => by
    rw [show a + 1 + b = (a + b) + 1 by omega, tagsI, tagsI, tagsI_add a b (k + 1), List.append_assoc, show k + 1 + a = k + (a + 1) by omega]
theorem tagsI_skip {f : Fd} {r : List Fd} {i : Nat} : ∀ (n k : Nat), (f.tag < (k : Int)) → tagsI fw us (f :: r) t i k n = tagsI fw us r t (i + 1) k n
  | 0, _, _ => rfl
  | n + 1, k, h => by
    rw [tagsI, tagsI, tagsI_skip n (k + 1) (by omega), taggedW, if_neg fun e => by omega]
    rfl
theorem tagsI_rise : ∀ (fs : List Fd) (i k n : Nat), riseF k fs = true → (∀ f, f ∈ fs → f.tag < (k + n : Int)) → tagsI fw us fs t i k n = tagL fw us t i fs
  | [], i, k, n, _, _ => by rw [tagL, tagsI_none n k (by simp)]
  | f :: r, i, k, n, h, hn => by
    have hb := hn f (by simp)
    rw [riseF] at h
    split at h
    · rename_i hf
      rw [tagsI_skip n k (by omega), tagL, if_neg (by omega), List.nil_append]
      exact tagsI_rise r (i + 1) k n h fun g hg => hn g (by simp [hg])
    · rename_i hf
      rw [Bool.and_eq_true, decide_eq_true_eq] at h
      obtain ⟨h1, h2⟩ := h
      obtain ⟨a, ha⟩ : ∃ a : Nat, f.tag = ((k + a : Nat) : Int) := ⟨(f.tag - k).toNat, by omega⟩
      obtain ⟨b, rfl⟩ : ∃ b, n = a + (b + 1) := ⟨n - a - 1, by omega⟩
      have hr := rise_ge h2
      rw [tagsI_add, tagsI_none a k (fun g hg => by
        rcases List.mem_cons.1 hg with rfl | hg
        · omega
        · have := hr g hg; omega), List.nil_append, tagsI, tagsI_skip b (k + a + 1) (by omega), taggedW, tagged_none r (i + 1) (fun g hg => by have := hr g hg; omega), List.append_nil, tagL]
      have e : f.tag = ((k + a : Nat) : Int) ∧ us f (atT t i) = false ↔ 0 ≤ f.tag ∧ us f (atT t i) = false := ⟨fun h => ⟨by omega, h.2⟩, fun h => ⟨ha, h.2⟩⟩
      have e2 : f.tag.toNat = k + a := by omega
      simp only [e, e2]
      congr 1
      refine tagsI_rise r (i + 1) (k + a + 1) b ?_ fun g hg => ?_
      · have : ((k + a + 1 : Nat) : Int) = f.tag + 1 := by omega
        rw [this]
        exact h2
      · have := hn g (by simp [hg])
        omega
theorem known_ge : ∀ (fs : List Fd) (n : Nat), n ≤ knownN fs n ∧ ∀ f, f ∈ fs → f.tag < (knownN fs n : Int)
  | [], n => ⟨Nat.le_refl _, by simp⟩
  | f :: r, n => by
    rw [knownN]
    by_cases h0 : 0 ≤ f.tag
    · obtain ⟨h1, h2⟩ := known_ge r (max n (f.tag.toNat + 1))
      rw [if_pos h0]
      refine ⟨by omega, fun g hg => ?_⟩
      rcases List.mem_cons.1 hg with rfl | hg
      · omega
      · exact h2 g hg
    · obtain ⟨h1, h2⟩ := known_ge r n
      rw [if_neg h0]
      refine ⟨by omega, fun g hg => ?_⟩
      rcases List.mem_cons.1 hg with rfl | hg
      · omega
      · exact h2 g hg
/-- The tags of a part: its tagged fields in order, then the unknown ones. -/
theorem allTags_eq {fs : List Fd} (h : riseF 0 fs = true) : allTags fw us fs t = tagL fw us t 0 fs ++ (unknownT fs t.u).map cutT := by
  unfold allTags
  rw [tagsI_zero, tagsI_rise fs 0 0 (knownN fs 0) h fun f hf => by have := (known_ge fs 0).2 f hf; omega]
theorem unkT_least {least : Nat} : ∀ (u o : List Tg), (∀ x, x ∈ o → least ≤ x.1) → ∀ x, x ∈ unkT least o u → least ≤ x.1
  | [], o, h, x, hx => h x hx
  | a :: r, o, h, x, hx => by
    refine unkT_least r _ (fun y hy => ?_) x hx
    split at hy
    · exact h y hy
    · rcases insT_mem hy with hy | rfl
      · exact h y hy
      · omega
theorem unknown_no {fs : List Fd} {u : List Tg} : ∀ x, x ∈ (unknownT fs u).map cutT → ∀ f, f ∈ fs → f.tag ≠ (x.1 : Int) := by
  intro x hx f hf e
  obtain ⟨y, hy, rfl⟩ := List.mem_map.1 hx
  have h1 := unkT_least (u.take most) [] (by simp) y hy
  have h2 := (known_ge fs 0).2 f hf
  have e : f.tag = (y.1 : Int) := e
  omega
end
/-! ## Reading -/
/-- What is told of a part's fields, those with tags too. -/
def toAllT (tf : Fd → T → T) (us : Fd → T → Bool) (df : Fd → T) (v : Int) (fx : Bool) (t : T) : Nat → List Fd → List T
  | _, [] => []
  | i, f :: r => (if (f.tag < 0 ∧ hasF f v = true) ∨ (0 ≤ f.tag ∧ fx = true ∧ us f (atT t i) = false) then tf f (atT t i) else df f) :: toAllT tf us df v fx t (i + 1) r
def toPartTW (tf : Fd → T → T) (us : Fd → T → Bool) (df : Fd → T) (fs : List Fd) (v : Int) (fx : Bool) (t : T) : T := .mk 0 [] false (toAllT tf us df v fx t 0 fs) (if fx = true then (unknownT fs t.u).map cutT else [])
def toFieldT : Nat → Int → Bool → Fd → T → T
  | 0, _, _, _, _ => T.zero
  | d + 1, v, fx, f, t => toFW (fun sub t => toPartTW (toFieldT d v fx) (usualB d) (dfT d) sub v fx t) f v t
def toPartT (d : Nat) (v : Int) (fx : Bool) (fs : List Fd) (t : T) : T := toPartTW (toFieldT d v fx) (usualB d) (dfT d) fs v fx t
theorem tagIx_at {k : Nat} : ∀ (fs : List Fd) (n i : Nat) (f : Fd), fs[i]? = some f → f.tag = (k : Int) → (∀ (j : Nat) g, j < i → fs[j]? = some g → g.tag ≠ (k : Int)) → tagIx fs n k = some (n + i, f)
  | [], n, i, f, h, _, _ => by simp at h
  | g :: r, n, 0, f, h, hk, _ => by
    simp only [List.getElem?_cons_zero, Option.some.injEq] at h
    subst h
    rw [tagIx, if_pos hk]
    rfl
  | g :: r, n, i + 1, f, h, hk, hno => by
    rw [tagIx, if_neg (hno 0 g (by omega) rfl), tagIx_at r (n + 1) i f (by simpa using h) hk fun j x hj hx => hno (j + 1) x (by omega) (by simpa using hx)]
    congr 2
    omega
section
variable {rf : Fd → Rd → T × Rd} {fw : Fd → T → List UInt8} {us : Fd → T → Bool} {tf : Fd → T → T} {df : Fd → T} {v : Int} {fs0 : List Fd} {t : T}
theorem toAllT_no {fx : Bool} (hfx : fx = false) : ∀ (fs : List Fd) (i : Nat), toAllT tf us df v fx t i fs = toAll tf df v t i fs
  | [], _ => rfl
  | f :: r, i => by
    rw [toAllT, toAll, toAllT_no hfx r (i + 1)]
    have e : ((f.tag < 0 ∧ hasF f v = true) ∨ (0 ≤ f.tag ∧ fx = true ∧ us f (atT t i) = false)) ↔ (f.tag < 0 ∧ hasF f v = true) := ⟨fun h => h.elim id fun h => by rw [hfx] at h; exact absurd h.2.1 (by decide), .inl⟩
    simp only [e]
theorem toAllT_nt {fx : Bool} : ∀ (fs : List Fd) (i : Nat), (∀ f, f ∈ fs → f.tag < 0) → toAllT tf us df v fx t i fs = toAll tf df v t i fs
  | [], _, _ => rfl
  | f :: r, i, h => by
    rw [toAllT, toAll, toAllT_nt r (i + 1) fun g hg => h g (by simp [hg])]
    have h0 := h f (by simp)
    have e : ((f.tag < 0 ∧ hasF f v = true) ∨ (0 ≤ f.tag ∧ fx = true ∧ us f (atT t i) = false)) ↔ (f.tag < 0 ∧ hasF f v = true) := ⟨fun h => h.elim id fun h => by omega, .inl⟩
    simp only [e]
theorem rdTgX_known : ∀ (fs : List Fd) (p0 : List Fd) (k : Int) (pre : List T) (m : Nat) (u : List Tg) (r : List UInt8), fs0 = p0 ++ fs → pre.length = p0.length → riseF k fs = true → (∀ f, f ∈ p0 → f.tag < k ∨ f.tag < 0) →
    (∀ (j : Nat) g, fs0[j]? = some g → 0 ≤ g.tag → us g (atT t j) = false → rf g (fw g (atT t j), false) = (tf g (atT t j), ([], false)) ∧ (fw g (atT t j)).length < 4294967296 ∧ g.tag < 4294967296) → (∀ g, g ∈ fs0 → g.kind = 11 → (df g).nl = true) →
    rdTgX rf fs0 ((tagL fw us t p0.length fs).length + m) (pre ++ toAll tf df v t p0.length fs) u ((tagL fw us t p0.length fs).flatMap tagB ++ r, false) = rdTgX rf fs0 m (pre ++ toAllT tf us df v true t p0.length fs) u (r, false)
  | [], p0, k, pre, m, u, r, _, _, _, _, _, _ => by simp [tagL, toAll, toAllT]
  | f :: fs, p0, k, pre, m, u, r, he, hl, hrise, hp, hf, hd => by
    have hat : fs0[p0.length]? = some f := by rw [he]; simp
    have hl1 : (p0 ++ [f]).length = p0.length + 1 := by simp
    have he1 : fs0 = (p0 ++ [f]) ++ fs := by rw [he]; simp
    have hr0 := rise_ge hrise f (by simp)
    have hnext : ∃ k', riseF k' fs = true ∧ ∀ g, g ∈ p0 ++ [f] → g.tag < k' ∨ g.tag < 0 := by
      rw [riseF] at hrise
      split at hrise
      · rename_i h0
        refine ⟨k, hrise, fun g hg => ?_⟩
        rcases List.mem_append.1 hg with hg | hg
        · exact hp g hg
        · rw [List.mem_singleton] at hg
          exact .inr (hg ▸ h0)
      · rw [Bool.and_eq_true, decide_eq_true_eq] at hrise
        refine ⟨f.tag + 1, hrise.2, fun g hg => ?_⟩
        rcases List.mem_append.1 hg with hg | hg
        · rcases hp g hg with h | h
          · exact .inl (by omega)
          · exact .inr h
        · rw [List.mem_singleton] at hg
          rw [hg]
          exact .inl (by omega)
    obtain ⟨k', hk1, hk2⟩ := hnext
    have ih := fun (x : T) => rdTgX_known fs (p0 ++ [f]) k' (pre ++ [x]) m u r he1 (by simp [hl]) hk1 hk2 hf hd
    rw [hl1] at ih
    rw [tagL, toAll, toAllT]
    by_cases hc : 0 ≤ f.tag ∧ us f (atT t p0.length) = false
    · rw [if_pos hc, if_neg (fun h => by omega), if_pos (.inr ⟨hc.1, rfl, hc.2⟩)]
      obtain ⟨h1, h2, h3⟩ := hf _ f hat hc.1 hc.2
      have htn : ((f.tag.toNat : Nat) : Int) = f.tag := by omega
      have htag : tagIx fs0 0 f.tag.toNat = some (p0.length, f) := by
        have := tagIx_at (k := f.tag.toNat) fs0 0 p0.length f hat htn.symm fun j g hj hg e => by
          rw [he, List.getElem?_append_left hj] at hg
          have := hp g (List.mem_of_getElem? hg)
          omega
        rw [Nat.zero_add] at this
        exact this
      rw [List.cons_append, List.nil_append, List.length_cons, show (tagL fw us t (p0.length + 1) fs).length + 1 + m = ((tagL fw us t (p0.length + 1) fs).length + m) + 1 by omega, List.flatMap_cons, tagB, List.append_assoc, List.append_assoc, List.append_assoc]
      rw [rdTgX]
      have e1 := rdUv_uvar f.tag.toNat (by omega) (uvar (fw f (atT t p0.length)).length ++ (fw f (atT t p0.length) ++ ((tagL fw us t (p0.length + 1) fs).flatMap tagB ++ r))) false
      have e2 := rdUv_uvar (fw f (atT t p0.length)).length (by omega) (fw f (atT t p0.length) ++ ((tagL fw us t (p0.length + 1) fs).flatMap tagB ++ r)) false
      have e3 := rdSpan_append (fw f (atT t p0.length)) ((tagL fw us t (p0.length + 1) fs).flatMap tagB ++ r) false
      simp only [e1, htag, e2, e3, h1, Bool.false_eq_true, if_false]
      have e4 : (pre ++ df f :: toAll tf df v t (p0.length + 1) fs)[p0.length]? = some (df f) := by rw [← hl]; simp
      have e5 : tgX f (df f) (tf f (atT t p0.length)) = tf f (atT t p0.length) := by
        unfold tgX
        rw [if_neg fun h => by rw [hd f (by rw [he]; simp) h.1] at h; exact absurd h.2 (by decide)]
      have e6 : (pre ++ df f :: toAll tf df v t (p0.length + 1) fs).set p0.length (tf f (atT t p0.length)) = (pre ++ [tf f (atT t p0.length)]) ++ toAll tf df v t (p0.length + 1) fs := by
        rw [← hl, List.set_append_right _ _ (Nat.le_refl _), Nat.sub_self, List.set_cons_zero]
        simp
      rw [e4, Option.getD_some, e5, e6, ih]
      simp
    · rw [if_neg hc, List.nil_append]
      by_cases hpl : f.tag < 0 ∧ hasF f v = true
      · rw [if_pos hpl, if_pos (.inl hpl)]
        have := ih (tf f (atT t p0.length))
        simpa using this
      · rw [if_neg hpl, if_neg fun h => h.elim hpl fun h => hc ⟨h.1, h.2.2⟩]
        have := ih (df f)
        simpa using this
theorem rdTgX_unk : ∀ (l u : List Tg) (ts : List T) (r : List UInt8), (u ++ l).Pairwise (fun a b => a.1 < b.1) → (∀ x, x ∈ l → x.1 < 4294967296 ∧ x.2.length ≤ 32767 ∧ ∀ f, f ∈ fs0 → f.tag ≠ (x.1 : Int)) → rdTgX rf fs0 l.length ts u (l.flatMap tagB ++ r, false) = ((ts, u ++ l), (r, false))
  | [], u, ts, r, hp, hk => by simp [rdTgX]
  | x :: l, u, ts, r, hp, hk => by
    obtain ⟨h1, h2, h3⟩ := hk x (by simp)
    have htag : tagIx fs0 0 x.1 = none := by
      have : ∀ (fs : List Fd) (i : Nat), (∀ f, f ∈ fs → f.tag ≠ (x.1 : Int)) → tagIx fs i x.1 = none := by
        intro fs
        induction fs with
        | nil => intro i _; rfl
        | cons f r ih => intro i h; rw [tagIx, if_neg (h f (by simp))]; exact ih _ fun g hg => h g (by simp [hg])
      exact this fs0 0 h3
    have e1 := rdUv_uvar x.1 (by omega) (uvar x.2.length ++ (x.2 ++ (l.flatMap tagB ++ r))) false
    have e2 := rdUv_uvar x.2.length (by omega) (x.2 ++ (l.flatMap tagB ++ r)) false
    have e3 := rdSpan_append x.2 (l.flatMap tagB ++ r) false
    rw [List.length_cons, rdTgX, List.flatMap_cons, tagB, List.append_assoc, List.append_assoc, List.append_assoc]
    simp only [e1, htag, e2, e3]
    rw [setT_new, rdTgX_unk l (u ++ [(x.1, x.2)]) ts r (by simpa using hp) fun z hz => hk z (by simp [hz])]
    · simp
    · intro y hy e
      have := (List.pairwise_append.1 hp).2.2 y hy x (by simp)
      have e : y.1 = x.1 := e
      omega
theorem tagL_len (t : T) : ∀ (fs : List Fd) (i : Nat), (tagL fw us t i fs).length ≤ fs.length
  | [], _ => Nat.le_refl _
  | f :: r, i => by
    have := tagL_len t r (i + 1)
    rw [tagL, List.length_append, List.length_cons]
    split
    · simp only [List.length_singleton]; omega
    · simp only [List.length_nil]; omega
theorem tagL_none (t : T) : ∀ (fs : List Fd) (i : Nat), (∀ f, f ∈ fs → f.tag < 0) → tagL fw us t i fs = []
  | [], _, _ => rfl
  | f :: r, i, h => by
    rw [tagL, tagL_none t r (i + 1) fun g hg => h g (by simp [hg]), if_neg fun e => by have := h f (by simp); omega]
    rfl
theorem rdAll_plainT : ∀ (fs : List Fd) (i : Nat) (r : List UInt8),
    (∀ (j : Nat) f, fs[j]? = some f → f.tag < 0 → hasF f v = true → ∀ r, rf f (fw f (atT t (i + j)) ++ r, false) = (tf f (atT t (i + j)), (r, false))) → rdAll rf df v fs (plainW fw v t i fs ++ r, false) = (toAll tf df v t i fs, (r, false))
  | [], i, r, h => rfl
  | f :: fs, i, r, h => by
    have ih := rdAll_plainT fs (i + 1) r fun j g hg hn hh => by
      rw [show i + 1 + j = i + (j + 1) by omega]
      exact h (j + 1) g (by simpa using hg) hn hh
    unfold plainW rdAll toAll
    by_cases hc : f.tag < 0 ∧ hasF f v = true
    · simp only [if_pos hc]
      have h0 := h 0 f rfl hc.1 hc.2 (plainW fw v t (i + 1) fs ++ r)
      rw [Nat.add_zero] at h0
      rw [List.append_assoc, h0]
      simp only [ih]
    · simp only [if_neg hc, List.nil_append, ih]
/-- A part that was written is read as told. -/
theorem partW_read {fs : List Fd} {fx : Bool} (hrise : riseF 0 fs = true) (hn : fs.length ≤ 1000) (hu : ∀ x, x ∈ t.u → x.1 < 4294967296)
    (hpl : ∀ (j : Nat) g, fs[j]? = some g → g.tag < 0 → hasF g v = true → ∀ r, rf g (fw g (atT t j) ++ r, false) = (tf g (atT t j), (r, false)))
    (htg : ∀ (j : Nat) g, fs[j]? = some g → 0 ≤ g.tag → fx = true → us g (atT t j) = false → rf g (fw g (atT t j), false) = (tf g (atT t j), ([], false)) ∧ (fw g (atT t j)).length < 4294967296 ∧ g.tag < 4294967296) (hd : ∀ g, g ∈ fs → g.kind = 11 → (df g).nl = true) (r : List UInt8) :
    rdPartW rf df fs v fx (partW fw us fs v fx t ++ r, false) = (toPartTW tf us df fs v fx t, (r, false)) := by
  have hok := tag_ok fs t.u hu
  unfold rdPartW toPartTW partW
  rw [List.append_assoc, rdAll_plainT (tf := tf) (t := t) fs 0 _ fun j g hg hn hh r => by rw [Nat.zero_add]; exact hpl j g hg hn hh r]
  simp only
  cases fx with
  | false =>
    have e : rdTail rf fs false (toAll tf df v t 0 fs) ((if false = true then uvar (allTags fw us fs t).length ++ (allTags fw us fs t).flatMap tagB else []) ++ r, false) = ((toAll tf df v t 0 fs, []), (r, false)) := by
      unfold rdTail rdTagsF
      split <;> rfl
    rw [e, toAllT_no rfl]
    rfl
  | true =>
    rw [if_pos rfl, allTags_eq hrise]
    by_cases hno : noTags fs = true
    · have hneg : ∀ f, f ∈ fs → f.tag < 0 := fun f hf => of_decide_eq_true (List.all_eq_true.1 hno f hf)
      rw [rdTail_plain hno, tagL_none t fs 0 hneg, toAllT_nt fs 0 hneg, List.nil_append]
      unfold rdTagsF
      rw [if_pos rfl, rdTags_flat hok]
      rfl
    · have e : rdTail rf fs true (toAll tf df v t 0 fs) (uvar (tagL fw us t 0 fs ++ (unknownT fs t.u).map cutT).length ++ (tagL fw us t 0 fs ++ (unknownT fs t.u).map cutT).flatMap tagB ++ r, false) = ((toAllT tf us df v true t 0 fs, (unknownT fs t.u).map cutT), (r, false)) := by
        have hl := tagL_len (fw := fw) (us := us) t fs 0
        have hl2 := hok.len
        unfold rdTail
        rw [if_neg hno, if_pos rfl, List.append_assoc, rdUv_uvar _ (by rw [List.length_append]; omega)]
        simp only
        rw [List.length_append, List.flatMap_append, List.append_assoc]
        have h1 := rdTgX_known (rf := rf) (fw := fw) (us := us) (tf := tf) (df := df) (v := v) (t := t) (fs0 := fs) fs [] 0 [] ((unknownT fs t.u).map cutT).length [] (((unknownT fs t.u).map cutT).flatMap tagB ++ r) rfl rfl hrise (by simp) (fun j g hg h0 hus => htg j g hg h0 rfl hus) hd
        simp only [List.length_nil, List.nil_append] at h1
        rw [h1]
        have h2 := rdTgX_unk (rf := rf) (fs0 := fs) ((unknownT fs t.u).map cutT) [] (toAllT tf us df v true t 0 fs) r hok.rise fun x hx => ⟨hok.key x hx, hok.val x hx, unknown_no x hx⟩
        rw [List.nil_append] at h2
        exact h2
      rw [e]
      rfl
end
/-- A tagged field whose default can be told: a number in its range; a part of numbers. -/
def numG (g : Fd) : Bool := decide (1 ≤ g.kind) && decide (g.kind ≤ 5) && decide (g.tag = -1) && decide (g.fr ≤ 0) && decide (g.to < 0) && decide (numK g.kind g.df = g.df)
def tagGood (f : Fd) : Bool := if f.kind = 7 ∨ f.kind = 8 ∨ f.kind = 11 then true else if f.kind = 10 then f.sub.all numG else decide (numK f.kind f.df = f.df)
/-- Descriptions with tagged fields: their tags rise; a tagged field is no octets; a tagged list, or part, is never null. -/
def tgF (fl : Int) : Nat → Fd → Bool
  | 0, _ => false
  | d + 1, f => (decide (f.tag = -1) || (decide (0 ≤ f.tag) && decide (f.tag ≤ 1000000) && decide (f.kind ≠ 9) && decide (f.kind ≠ 8 ∨ f.nul = 0) && decide (f.kind ≠ 11 ∨ f.nul < 0) && decide (f.kind ≠ 10 ∨ f.nul < 0) && decide (f.fr ≤ fl) && decide (f.to < 0) && tagGood f && decide (f.kind ≠ 10 ∨ f.sub ≠ []))) && riseF 0 f.sub && decide (f.sub.length ≤ 1000) && f.sub.all (tgF fl d)
structure TgK (fl : Int) (f : Fd) : Prop where
  lo : 0 ≤ f.tag
  hi : f.tag ≤ 1000000
  k9 : f.kind ≠ 9
  k8 : f.kind ≠ 8 ∨ f.nul = 0
  k11 : f.kind ≠ 11 ∨ f.nul < 0
  k10 : f.kind ≠ 10 ∨ f.nul < 0
  fr : f.fr ≤ fl
  to : f.to < 0
  good : tagGood f = true
  ne : f.kind ≠ 10 ∨ f.sub ≠ []
theorem tgF_parts {fl : Int} {d : Nat} {f : Fd} (h : tgF fl (d + 1) f = true) : (f.tag = -1 ∨ TgK fl f) ∧ riseF 0 f.sub = true ∧ f.sub.length ≤ 1000 ∧ ∀ g, g ∈ f.sub → tgF fl d g = true := by
  simp only [tgF, Bool.and_eq_true, Bool.or_eq_true, decide_eq_true_eq, List.all_eq_true] at h
  obtain ⟨⟨⟨h1, h2⟩, h3⟩, h4⟩ := h
  refine ⟨h1.imp id fun h => ⟨h.1.1.1.1.1.1.1.1.1, h.1.1.1.1.1.1.1.1.2, h.1.1.1.1.1.1.1.2, h.1.1.1.1.1.1.2, h.1.1.1.1.1.2, h.1.1.1.1.2, h.1.1.1.2, h.1.1.2, h.1.2, h.2⟩, h2, h3, h4⟩
theorem tgF_tag {fl : Int} {d : Nat} {f : Fd} (h : tgF fl d f = true) : f.tag = -1 ∨ TgK fl f := by
  cases d with
  | zero => simp [tgF] at h
  | succ d => exact (tgF_parts h).1
theorem tg_has {fl v : Int} {f : Fd} (h : TgK fl f) (hfx : flexB fl v = true) : hasF f v = true := by
  have h1 := h.fr
  have h2 := h.to
  simp only [flexB, Bool.and_eq_true, decide_eq_true_eq] at hfx
  simp only [hasF, Bool.and_eq_true, Bool.or_eq_true, decide_eq_true_eq]
  omega
theorem plain_le {fw : Fd → T → List UInt8} {v : Int} {t : T} : ∀ (fs : List Fd) (i j : Nat) (g : Fd), fs[j]? = some g → g.tag < 0 → hasF g v = true → (fw g (atT t (i + j))).length ≤ (plainW fw v t i fs).length
  | [], i, j, g, h, _, _ => by simp at h
  | f :: r, i, 0, g, h, h1, h2 => by
    simp only [List.getElem?_cons_zero, Option.some.injEq] at h
    subst h
    rw [plainW, if_pos ⟨h1, h2⟩, List.length_append, Nat.add_zero]
    omega
  | f :: r, i, j + 1, g, h, h1, h2 => by
    have := plain_le (fw := fw) (t := t) r (i + 1) j g (by simpa using h) h1 h2
    rw [plainW, List.length_append, show i + (j + 1) = i + 1 + j by omega]
    omega
theorem tag_le {fw : Fd → T → List UInt8} {us : Fd → T → Bool} {t : T} : ∀ (fs : List Fd) (i j : Nat) (g : Fd), fs[j]? = some g → 0 ≤ g.tag → us g (atT t (i + j)) = false → (fw g (atT t (i + j))).length ≤ ((tagL fw us t i fs).flatMap tagB).length
  | [], i, j, g, h, _, _ => by simp at h
  | f :: r, i, 0, g, h, h1, h2 => by
    simp only [List.getElem?_cons_zero, Option.some.injEq] at h
    subst h
    rw [Nat.add_zero] at h2 ⊢
    rw [tagL, if_pos ⟨h1, h2⟩, List.cons_append, List.flatMap_cons, List.length_append, tagB]
    simp only [List.length_append]
    omega
  | f :: r, i, j + 1, g, h, h1, h2 => by
    rw [show i + (j + 1) = i + 1 + j by omega] at h2 ⊢
    have := tag_le (fw := fw) (us := us) (t := t) r (i + 1) j g (by simpa using h) h1 h2
    rw [tagL, List.flatMap_append, List.length_append]
    omega
theorem flat_le {f : T → List UInt8} {x : T} : ∀ {l : List T}, x ∈ l → (f x).length ≤ (l.flatMap f).length
  | [], h => by simp at h
  | y :: r, h => by
    rw [List.flatMap_cons, List.length_append]
    rcases List.mem_cons.1 h with rfl | h
    · omega
    · have := flat_le (f := f) h
      omega
/-- A part that was written is read as told, if its fields are. -/
theorem partW_readT {d : Nat} {fl v : Int} {fs : List Fd} {t : T} (hrise : riseF 0 fs = true) (hn : fs.length ≤ 1000) (htg : ∀ f, f ∈ fs → tgF fl d f = true) (hkey : KeyT t) (hsz : (partW (fieldB d v (flexB fl v)) (usualB d) fs v (flexB fl v) t).length < 4294967296)
    (hf : ∀ (j : Nat) g, fs[j]? = some g → hasF g v = true → (fieldB d v (flexB fl v) g (atT t j)).length < 4294967296 → ∀ r, rdField d v (flexB fl v) g (fieldB d v (flexB fl v) g (atT t j) ++ r, false) = (toFieldT d v (flexB fl v) g (atT t j), (r, false))) (r : List UInt8) :
    rdPartW (rdField d v (flexB fl v)) (dfT d) fs v (flexB fl v) (partW (fieldB d v (flexB fl v)) (usualB d) fs v (flexB fl v) t ++ r, false) = (toPartTW (toFieldT d v (flexB fl v)) (usualB d) (dfT d) fs v (flexB fl v) t, (r, false)) := by
  unfold partW at hsz
  rw [List.length_append] at hsz
  refine partW_read hrise hn hkey.u (fun j g hg hn hh r => hf j g hg hh ?_ r) (fun j g hg h0 hfx hus => ?_) (fun g hg h11 => ?_) r
  · have := plain_le (fw := fieldB d v (flexB fl v)) (t := t) fs 0 j g hg hn hh
    rw [Nat.zero_add] at this
    omega
  · have hK := (tgF_tag (htg g (List.mem_of_getElem? hg))).resolve_left (by omega)
    have hlen : (fieldB d v (flexB fl v) g (atT t j)).length < 4294967296 := by
      have := tag_le (fw := fieldB d v (flexB fl v)) (us := usualB d) (t := t) fs 0 j g hg h0 (by rw [Nat.zero_add]; exact hus)
      rw [Nat.zero_add] at this
      rw [if_pos hfx, allTags_eq hrise, List.flatMap_append] at hsz
      simp only [List.length_append] at hsz
      omega
    have := hf j g hg (tg_has hK hfx) hlen []
    rw [List.append_nil] at this
    have h1 := hK.hi
    exact ⟨this, hlen, by omega⟩
  · have := htg g hg
    cases d with
    | zero => simp [tgF] at this
    | succ d =>
      unfold dfT
      rw [h11]
      rfl
theorem field_readT : ∀ (d : Nat) (fl v : Int) (f : Fd) (t : T), tgF fl d f = true → okR fl d f = true → KeyT t → 0 ≤ v → hasF f v = true → (fieldB d v (flexB fl v) f t).length < 4294967296 → ∀ r, rdField d v (flexB fl v) f (fieldB d v (flexB fl v) f t ++ r, false) = (toFieldT d v (flexB fl v) f t, (r, false))
  | 0, _, _, _, _, h, _, _, _, _, _ => by simp [tgF] at h
  | d + 1, fl, v, f, t, h, hr, hkey, hv, hhas, hsz => by
    intro r
    obtain ⟨_, hrise, hn1000, hs⟩ := tgF_parts h
    simp only [okR, Bool.and_eq_true, Bool.or_eq_true, decide_eq_true_eq, List.all_eq_true] at hr
    obtain ⟨⟨⟨⟨⟨hr9, hr10⟩, hrk⟩, hro⟩, hrl⟩, hrs⟩ := hr
    have hp : ∀ x, KeyT x → (partW (fieldB d v (flexB fl v)) (usualB d) f.sub v (flexB fl v) x).length < 4294967296 → ∀ r, rdPartW (rdField d v (flexB fl v)) (dfT d) f.sub v (flexB fl v) (partW (fieldB d v (flexB fl v)) (usualB d) f.sub v (flexB fl v) x ++ r, false) = (toPartTW (toFieldT d v (flexB fl v)) (usualB d) (dfT d) f.sub v (flexB fl v) x, (r, false)) :=
      fun x hx hlen r => partW_readT hrise hn1000 hs hx hlen (fun j g hg hhg hl r => field_readT d fl v g _ (hs g (List.mem_of_getElem? hg)) (hrs g (List.mem_of_getElem? hg)) (hx.at j) hv hhg hl r) r
    have hsz : (fieldW (fun sub t => partW (fieldB d v (flexB fl v)) (usualB d) sub v (flexB fl v) t) f v (flexB fl v) t).length < 4294967296 := hsz
    show rdFW (fun sub s => rdPartW (rdField d v (flexB fl v)) (dfT d) sub v (flexB fl v) s) f v (flexB fl v) (fieldW (fun sub t => partW (fieldB d v (flexB fl v)) (usualB d) sub v (flexB fl v) t) f v (flexB fl v) t ++ r, false) = (toFW (fun sub t => toPartTW (toFieldT d v (flexB fl v)) (usualB d) (dfT d) sub v (flexB fl v) t) f v t, (r, false))
    unfold fieldW at hsz
    unfold rdFW fieldW toFW
    by_cases h11 : f.kind = 11
    · simp only [h11, if_true] at hsz ⊢
      have hne : ∀ y : T, 0 < (valueW (fun sub t => partW (fieldB d v (flexB fl v)) (usualB d) sub v (flexB fl v) t) f.of f.sub false (flexB fl v) y).length := by
        intro y
        refine valueW_ne fun e10 => ?_
        unfold partW
        rw [List.length_append]
        rcases hrl with hrl | hrl
        · have hfx : flexB fl v = true := by
            have h1 : 0 ≤ fl ∧ fl ≤ f.fr := by rcases hrl with h | h | h; exact absurd h11 h; exact absurd e10 h; exact h
            have h2 : f.fr ≤ v := by simp only [hasF, Bool.and_eq_true, decide_eq_true_eq] at hhas; exact hhas.1
            simp only [flexB, Bool.and_eq_true, decide_eq_true_eq]
            omega
          rw [hfx, if_pos rfl, List.length_append]
          have := uvar_ne (allTags (fieldB d v true) (usualB d) f.sub y).length
          omega
        · obtain ⟨g0, hg0, _⟩ := List.any_eq_true.1 hrl
          have hd : d ≠ 0 := by
            rintro rfl
            have := hs g0 hg0
            simp [tgF] at this
          obtain ⟨e, rfl⟩ : ∃ e, d = e + 1 := ⟨d - 1, by omega⟩
          have := plainW_ne (fw := fieldB (e + 1) v (flexB fl v)) (v := v) hv (t := y) (fun g z hg => by
            have hg10 : g.kind ≠ 10 := by simp only [solid, Bool.and_eq_true, decide_eq_true_eq] at hg; exact hg.2
            exact fieldW_ne hg10) f.sub 0 hrl
          omega
      generalize hN : (if nullF f v t = true then [] else t.l.take most) = L
      have hLl : L.length ≤ 32767 := by
        rw [← hN]
        split
        · simp
        · rw [List.length_take]; exact Nat.min_le_left _ _
      have hLm : ∀ y, y ∈ L → y ∈ t.l := by
        intro y hy
        rw [← hN] at hy
        split at hy
        · simp at hy
        · exact List.mem_of_mem_take hy
      have hflat : ∀ (l : List T), l.length ≤ (l.flatMap (valueW (fun sub t => partW (fieldB d v (flexB fl v)) (usualB d) sub v (flexB fl v) t) f.of f.sub false (flexB fl v))).length := by
        intro l
        induction l with
        | nil => simp
        | cons y q ih =>
          rw [List.flatMap_cons, List.length_append, List.length_cons]
          have := hne y
          omega
      have hlen := rdLn_counted (flexB fl v) (nullF f v t) L.length (L.flatMap (valueW (fun sub t => partW (fieldB d v (flexB fl v)) (usualB d) sub v (flexB fl v) t) f.of f.sub false (flexB fl v)) ++ r) hLl (by rw [List.length_append]; have := hflat L; omega)
        (by intro e; rw [← hN, if_pos e]; rfl)
      rw [List.append_assoc]
      unfold rdLs
      rw [hlen]
      simp only
      have hNat : (if nullF f v t = true then (-1 : Int) else (L.length : Int)).toNat = L.length := by
        cases hq : nullF f v t with
        | true => rw [← hN, hq]; rfl
        | false => simp
      rw [hNat, rdN_flat (k := toV (fun sub t => toPartTW (toFieldT d v (flexB fl v)) (usualB d) (dfT d) sub v (flexB fl v) t) f.of f.sub false) L r fun y hy r => rdV_written (tp := fun sub t => toPartTW (toFieldT d v (flexB fl v)) (usualB d) (dfT d) sub v (flexB fl v) t) r (by omega) (by simp) (by simp) fun e10 r => hp y (hkey.l y (hLm y hy)) (by have := flat_le (f := valueW (fun sub t => partW (fieldB d v (flexB fl v)) (usualB d) sub v (flexB fl v) t) f.of f.sub false (flexB fl v)) hy; rw [List.length_append] at hsz; rw [e10] at this hsz; simp only [hN] at hsz; have h2 : (valueW (fun sub t => partW (fieldB d v (flexB fl v)) (usualB d) sub v (flexB fl v) t) 10 f.sub false (flexB fl v) y) = partW (fieldB d v (flexB fl v)) (usualB d) f.sub v (flexB fl v) y := rfl; rw [h2] at this; omega) r]
      cases hq : nullF f v t with
      | true =>
        have h0 : 0 ≤ f.nul ∧ f.nul ≤ v := by
          simp only [nullF, Bool.and_eq_true, decide_eq_true_eq] at hq
          exact hq.2
        rw [← hN, hq]
        simp [nlF, h0.1, h0.2]
      | false =>
        rw [← hN, hq]
        simp only [Bool.false_eq_true, if_false]
        have : nlF f v ((t.l.take most).length : Int) = (if 0 ≤ f.nul ∨ f.nul = -2 then false else t.l.isEmpty) := by
          have h0 : decide (((t.l.take most).length : Int) < 0) = false := by simp
          unfold nlF
          by_cases hp : 0 ≤ f.nul
          · rw [if_pos hp, if_pos (.inl hp), h0]
            rfl
          · by_cases h2 : f.nul = -2
            · rw [if_neg hp, if_pos h2, if_pos (.inr h2), h0]
            · rw [if_neg hp, if_neg h2, if_neg (by rintro (h | h); exact hp h; exact h2 h)]
              cases t.l with
              | nil => rfl
              | cons a b => simp [most]
        rw [this]
    · simp only [h11, if_false] at hsz ⊢
      have h10n : ¬ (f.kind = 10 ∧ 0 ≤ f.nul) := by rintro ⟨h1, h2⟩; rcases hr10 with h | h; exact h h1; omega
      rw [if_neg h10n] at hsz ⊢
      refine rdV_written (tp := fun sub t => toPartTW (toFieldT d v (flexB fl v)) (usualB d) (dfT d) sub v (flexB fl v) t) r (by omega) ?_ ?_ fun e10 r => hp t hkey (by rw [e10] at hsz; exact hsz) r
      · intro e
        simp only [nullF, Bool.and_eq_true, decide_eq_true_eq] at e
        exact decide_eq_true e.2.1
      · intro e
        have : f.nul < 0 := by rcases hr9 with h | h; exact absurd e h; exact h
        have h0 : decide (0 ≤ f.nul) = false := decide_eq_false (by omega)
        simp [nullF, h0]
theorem part_readT (d : Nat) (fl v : Int) (fs : List Fd) (t : T) (hrise : riseF 0 fs = true) (hn : fs.length ≤ 1000) (htg : ∀ f, f ∈ fs → tgF fl d f = true) (hok : ∀ f, f ∈ fs → okR fl d f = true) (hkey : KeyT t) (hv : 0 ≤ v) (hsz : (partB d v (flexB fl v) fs t).length < 4294967296) (r : List UInt8) :
    rdPart d v (flexB fl v) fs (partB d v (flexB fl v) fs t ++ r, false) = (toPartT d v (flexB fl v) fs t, (r, false)) :=
  partW_readT hrise hn htg hkey hsz (fun j g hg hhg hl r => field_readT d fl v g _ (htg g (List.mem_of_getElem? hg)) (hok g (List.mem_of_getElem? hg)) (hkey.at j) hv hhg hl r) r
/-! ## Sizes -/
def maxFT : Nat → Fd → Nat
  | 0, _ => 0
  | d + 1, f => maxFW (fun sub => maxAll (fun g => maxFT d g + 20) sub + tagsMost) f
def maxPT (d : Nat) (fs : List Fd) : Nat := maxAll (fun g => maxFT d g + 20) fs + tagsMost
def smF : Nat → Fd → Bool
  | 0, _ => false
  | d + 1, f => decide (maxFT (d + 1) f < 18446744073709551616) && f.sub.all (smF d)
theorem tag_size {k : Nat} {b : List UInt8} (hk : k < 18446744073709551616) (hb : b.length < 18446744073709551616) : (tagB (k, b)).length ≤ b.length + 20 := by
  have h1 := uvar10 (n := k) (by omega)
  have h2 := uvar10 (n := b.length) (by omega)
  unfold tagB
  simp only [List.length_append]
  omega
theorem both_len {fw : Fd → T → List UInt8} {us : Fd → T → Bool} {mf : Fd → Nat} {v : Int} {t : T} : ∀ (fs : List Fd) (i : Nat), (∀ (j : Nat) f, f ∈ fs → (fw f (atT t j)).length ≤ mf f ∧ (fw f (atT t j)).length < 18446744073709551616 ∧ f.tag ≤ 1000000) →
    (plainW fw v t i fs).length + ((tagL fw us t i fs).flatMap tagB).length ≤ maxAll (fun g => mf g + 20) fs
  | [], i, h => by simp [plainW, tagL]
  | f :: r, i, h => by
    obtain ⟨h1, h2, h3⟩ := h i f (by simp)
    have ih := both_len (us := us) (v := v) r (i + 1) fun j g hg => h j g (by simp [hg])
    unfold plainW tagL maxAll
    rw [List.flatMap_append, List.length_append, List.length_append]
    by_cases hc : f.tag < 0 ∧ hasF f v = true
    · rw [if_pos hc, if_neg (fun e => by omega)]
      simp only [List.flatMap_nil, List.length_nil]
      omega
    · rw [if_neg hc]
      split
      · have := tag_size (k := f.tag.toNat) (b := fw f (atT t i)) (by omega) h2
        simp only [List.flatMap_cons, List.flatMap_nil, List.append_nil, List.length_nil]
        omega
      · simp only [List.flatMap_nil, List.length_nil]
        omega
theorem partW_lenT {fw : Fd → T → List UInt8} {us : Fd → T → Bool} {mf : Fd → Nat} {fs : List Fd} {v : Int} {flex : Bool} {t : T} (hrise : riseF 0 fs = true) (hn : fs.length ≤ 1000) (hk : KeyT t) (h : ∀ (j : Nat) f, f ∈ fs → (fw f (atT t j)).length ≤ mf f ∧ (fw f (atT t j)).length < 18446744073709551616 ∧ f.tag ≤ 1000000) :
    (partW fw us fs v flex t).length ≤ maxAll (fun g => mf g + 20) fs + tagsMost := by
  have hok := tag_ok fs t.u hk.u
  have h1 := both_len (us := us) (v := v) fs 0 h
  have h2 := flatMap_bound tagB 32787 ((unknownT fs t.u).map cutT) fun x hx => by
    have hk := hok.key x hx
    have hv := hok.val x hx
    have := tag_size (k := x.1) (b := x.2) (by omega) (by omega)
    have e : (x.1, x.2) = x := rfl
    rw [e] at this
    omega
  have h3 : ((unknownT fs t.u).map cutT).length * 32787 ≤ 32767 * 32787 := Nat.mul_le_mul_right _ hok.len
  have h4 := tagL_len (fw := fw) (us := us) t fs 0
  unfold partW tagsMost
  rw [List.length_append]
  cases flex
  · simp only [Bool.false_eq_true, if_false, List.length_nil]
    omega
  · rw [if_pos rfl, allTags_eq hrise, List.flatMap_append]
    have h5 := uvar10 (n := (tagL fw us t 0 fs ++ (unknownT fs t.u).map cutT).length) (by rw [List.length_append]; have := hok.len; omega)
    simp only [List.length_append] at h5 ⊢
    omega
theorem tgF_hi {fl : Int} {d : Nat} {f : Fd} (h : tgF fl d f = true) : f.tag ≤ 1000000 := by
  rcases tgF_tag h with h | h
  · omega
  · exact h.hi
theorem fieldB_lenT (fl : Int) : ∀ (d : Nat) (v : Int) (flex : Bool) (f : Fd) (t : T), tgF fl d f = true → smF d f = true → KeyT t → (fieldB d v flex f t).length ≤ maxFT d f
  | 0, _, _, _, _, h, _, _ => by simp [tgF] at h
  | d + 1, v, flex, f, t, h, hsm, hk => by
    obtain ⟨_, hrise, hn1000, hs⟩ := tgF_parts h
    simp only [smF, Bool.and_eq_true, decide_eq_true_eq, List.all_eq_true] at hsm
    have hp : ∀ x, KeyT x → (partW (fieldB d v flex) (usualB d) f.sub v flex x).length ≤ maxAll (fun g => maxFT d g + 20) f.sub + tagsMost := fun x hx => partW_lenT hrise hn1000 hx fun j g hg => by
      have h1 := fieldB_lenT fl d v flex g _ (hs g hg) (hsm.2 g hg) (hx.at j)
      refine ⟨h1, Nat.lt_of_le_of_lt h1 ?_, tgF_hi (hs g hg)⟩
      have := hsm.2 g hg
      cases d with
      | zero => simp [smF] at this
      | succ d => simp only [smF, Bool.and_eq_true, decide_eq_true_eq] at this; exact this.1
    show (fieldW (fun sub t => partW (fieldB d v flex) (usualB d) sub v flex t) f v flex t).length ≤ maxFW (fun sub => maxAll (fun g => maxFT d g + 20) sub + tagsMost) f
    unfold fieldW maxFW
    by_cases h11 : f.kind = 11
    · simp only [h11, if_true, List.length_append]
      have h1 := take_len (nullF f v t) t.l
      have h2 := counted_len (flex := flex) (nb := nullF f v t) (size := 4) h1 (by omega)
      have h3 := flatMap_bound (valueW (fun sub t => partW (fieldB d v flex) (usualB d) sub v flex t) f.of f.sub false flex) (maxV (fun sub => maxAll (fun g => maxFT d g + 20) sub + tagsMost) f.of f.sub) (if nullF f v t = true then [] else t.l.take most) fun x hx => by
        have hx' : x ∈ t.l := by
          split at hx
          · simp at hx
          · exact List.mem_of_mem_take hx
        exact valueW_len (mp := fun sub => maxAll (fun g => maxFT d g + 20) sub + tagsMost) (hp x (hk.l x hx')) f.of false flex
      have h4 := Nat.mul_le_mul_right (maxV (fun sub => maxAll (fun g => maxFT d g + 20) sub + tagsMost) f.of f.sub) h1
      omega
    · simp only [h11, if_false]
      by_cases h10 : f.kind = 10 ∧ 0 ≤ f.nul
      · rw [if_pos h10, if_pos h10]
        split
        · rw [fixed_length]; omega
        · have := hp t hk
          rw [List.length_append, fixed_length]
          omega
      · rw [if_neg h10, if_neg h10]
        exact valueW_len (mp := fun sub => maxAll (fun g => maxFT d g + 20) sub + tagsMost) (hp t hk) f.kind _ flex
theorem partB_lenT (fl : Int) (d : Nat) (v : Int) (flex : Bool) (fs : List Fd) (t : T) (hrise : riseF 0 fs = true) (hn : fs.length ≤ 1000) (h : ∀ f, f ∈ fs → tgF fl d f = true) (hsm : ∀ f, f ∈ fs → smF d f = true) (hk : KeyT t) : (partB d v flex fs t).length ≤ maxPT d fs :=
  partW_lenT hrise hn hk fun j g hg => by
    have h1 := fieldB_lenT fl d v flex g _ (h g hg) (hsm g hg) (hk.at j)
    refine ⟨h1, Nat.lt_of_le_of_lt h1 ?_, tgF_hi (h g hg)⟩
    have := hsm g hg
    cases d with
    | zero => simp [smF] at this
    | succ d => simp only [smF, Bool.and_eq_true, decide_eq_true_eq] at this; exact this.1
/-! ## Sizes by weight -/
def cFdT : Nat → Fd → Nat
  | 0, _ => 0
  | d + 1, f => cFW (fun sub => maxAll (fun g => cFdT d g + 20) sub + 30) f
def cPT (d : Nat) (fs : List Fd) : Nat := maxAll (fun g => cFdT d g + 20) fs + 30
def smW : Nat → Fd → Bool
  | 0, _ => false
  | d + 1, f => decide (cFdT (d + 1) f * 1048576 < 18446744073709551616) && f.sub.all (smW d)
theorem maxAll_mul (mf : Fd → Nat) (w : Nat) (hw : 1 ≤ w) : ∀ fs : List Fd, maxAll (fun g => mf g * w + 20) fs ≤ maxAll (fun g => mf g + 20) fs * w
  | [] => by simp [maxAll]
  | f :: r => by
    have := maxAll_mul mf w hw r
    simp only [maxAll, Nat.add_mul]
    omega
theorem partW_wtT {fw : Fd → T → List UInt8} {us : Fd → T → Bool} {cf : Fd → Nat} {fs : List Fd} {v : Int} {flex : Bool} {t : T} (hrise : riseF 0 fs = true) (hn : fs.length ≤ 1000) (hk : KeyT t) (h : ∀ (j : Nat) f, f ∈ fs → (fw f (atT t j)).length ≤ cf f * wtT t ∧ (fw f (atT t j)).length < 18446744073709551616 ∧ f.tag ≤ 1000000) :
    (partW fw us fs v flex t).length ≤ (maxAll (fun g => cf g + 20) fs + 30) * wtT t := by
  have hok := tag_ok fs t.u hk.u
  have hw := wtT_eq t
  have h1 := both_len (us := us) (v := v) (mf := fun g => cf g * wtT t) fs 0 h
  have h1' := maxAll_mul cf (wtT t) (by omega) fs
  have h2 := tags_wt (flex := true) (fs := fs) hk.u
  unfold tgsB at h2
  rw [if_pos rfl, List.length_append] at h2
  have h4 := tagL_len (fw := fw) (us := us) t fs 0
  unfold partW
  rw [List.length_append, Nat.add_mul]
  cases flex
  · simp only [Bool.false_eq_true, if_false, List.length_nil]
    omega
  · rw [if_pos rfl, allTags_eq hrise, List.flatMap_append]
    have h5 := uvar10 (n := (tagL fw us t 0 fs ++ (unknownT fs t.u).map cutT).length) (by rw [List.length_append]; have := hok.len; omega)
    simp only [List.length_append] at h5 ⊢
    omega
theorem fieldB_wtT (fl : Int) : ∀ (d : Nat) (v : Int) (flex : Bool) (f : Fd) (t : T), tgF fl d f = true → smW d f = true → wtT t ≤ 1048576 → KeyT t → (fieldB d v flex f t).length ≤ cFdT d f * wtT t
  | 0, _, _, _, _, h, _, _, _ => by simp [tgF] at h
  | d + 1, v, flex, f, t, h, hsm, hwt, hk => by
    obtain ⟨_, hrise, hn1000, hs⟩ := tgF_parts h
    simp only [smW, Bool.and_eq_true, decide_eq_true_eq, List.all_eq_true] at hsm
    have hp : ∀ x, wtT x ≤ 1048576 → KeyT x → (partW (fieldB d v flex) (usualB d) f.sub v flex x).length ≤ (maxAll (fun g => cFdT d g + 20) f.sub + 30) * wtT x := fun x hxw hx => partW_wtT hrise hn1000 hx fun j g hg => by
      have h1 := fieldB_wtT fl d v flex g _ (hs g hg) (hsm.2 g hg) (Nat.le_trans (wt_at x j) hxw) (hx.at j)
      refine ⟨Nat.le_trans h1 (Nat.mul_le_mul_left _ (wt_at x j)), Nat.lt_of_le_of_lt h1 ?_, tgF_hi (hs g hg)⟩
      have := hsm.2 g hg
      cases d with
      | zero => simp [smW] at this
      | succ d =>
        simp only [smW, Bool.and_eq_true, decide_eq_true_eq] at this
        exact Nat.lt_of_le_of_lt (Nat.mul_le_mul_left _ (Nat.le_trans (wt_at x j) hxw)) this.1
    have hw := wtT_eq t
    show (fieldW (fun sub t => partW (fieldB d v flex) (usualB d) sub v flex t) f v flex t).length ≤ cFW (fun sub => maxAll (fun g => cFdT d g + 20) sub + 30) f * wtT t
    unfold fieldW cFW
    rw [Nat.add_mul]
    by_cases h11 : f.kind = 11
    · simp only [h11, if_true, List.length_append]
      have h1 := take_len (nullF f v t) t.l
      have h2 := counted_len (flex := flex) (nb := nullF f v t) (size := 4) h1 (by omega)
      have h3 := flatMap_wt (valueW (fun sub t => partW (fieldB d v flex) (usualB d) sub v flex t) f.of f.sub false flex) (cV (fun sub => maxAll (fun g => cFdT d g + 20) sub + 30) f.of f.sub) (if nullF f v t = true then [] else t.l.take most) fun x hx => by
        have hx' : x ∈ t.l := by
          split at hx
          · simp at hx
          · exact List.mem_of_mem_take hx
        exact valueW_wt (cp := fun sub => maxAll (fun g => cFdT d g + 20) sub + 30) (hp x (by have := wtL_mem hx'; omega) (hk.l x hx')) f.of false flex
      have h4 : wtL (if nullF f v t = true then [] else t.l.take most) ≤ wtT t := by
        split
        · simp [wtL]
        · have := wtL_take t.l most
          omega
      have h5 := Nat.mul_le_mul_left (cV (fun sub => maxAll (fun g => cFdT d g + 20) sub + 30) f.of f.sub) h4
      omega
    · simp only [h11, if_false]
      by_cases h10 : f.kind = 10 ∧ 0 ≤ f.nul
      · rw [if_pos h10]
        have hv : cV (fun sub => maxAll (fun g => cFdT d g + 20) sub + 30) f.kind f.sub = maxAll (fun g => cFdT d g + 20) f.sub + 30 := by unfold cV; rw [if_pos h10.1]
        rw [hv]
        split
        · rw [fixed_length]; omega
        · have := hp t hwt hk
          rw [List.length_append, fixed_length]
          omega
      · rw [if_neg h10]
        have := valueW_wt (pw := fun sub t => partW (fieldB d v flex) (usualB d) sub v flex t) (cp := fun sub => maxAll (fun g => cFdT d g + 20) sub + 30) (hp t hwt hk) f.kind (nullF f v t) flex
        omega
theorem partB_wtT (fl : Int) (d : Nat) (v : Int) (flex : Bool) (fs : List Fd) (t : T) (hrise : riseF 0 fs = true) (hn : fs.length ≤ 1000) (h : ∀ f, f ∈ fs → tgF fl d f = true) (hsm : ∀ f, f ∈ fs → smW d f = true) (hwt : wtT t ≤ 1048576) (hk : KeyT t) : (partB d v flex fs t).length ≤ cPT d fs * wtT t :=
  partW_wtT hrise hn hk fun j g hg => by
    have h1 := fieldB_wtT fl d v flex g _ (h g hg) (hsm g hg) (Nat.le_trans (wt_at t j) hwt) (hk.at j)
    refine ⟨Nat.le_trans h1 (Nat.mul_le_mul_left _ (wt_at t j)), Nat.lt_of_le_of_lt h1 ?_, tgF_hi (h g hg)⟩
    have := hsm g hg
    cases d with
    | zero => simp [smW] at this
    | succ d =>
      simp only [smW, Bool.and_eq_true, decide_eq_true_eq] at this
      exact Nat.lt_of_le_of_lt (Nat.mul_le_mul_left _ (Nat.le_trans (wt_at t j) hwt)) this.1
/-! ## What is appended of a told tree -/
theorem fixed_num {k a b : Int} (hk : k ≠ 0) : fixed a (widthK k) = fixed b (widthK k) ↔ numK k a = numK k b := by
  constructor
  · intro h
    rw [numK_kind hk, numK_kind hk]
    by_cases h1 : k = 1
    · subst h1
      have := congrArg (fun l => IntKind.i8.wrap (beN l : Int)) (show fixed a 1 = fixed b 1 from h)
      simp only [wr1] at this
      exact this
    by_cases h2 : k = 2
    · subst h2
      have := congrArg (fun l => IntKind.i16.wrap (beN l : Int)) (show fixed a 2 = fixed b 2 from h)
      simp only [wr2] at this
      exact this
    by_cases h3 : k = 3
    · subst h3
      have := congrArg (fun l => IntKind.i32.wrap (beN l : Int)) (show fixed a 4 = fixed b 4 from h)
      simp only [wr4] at this
      exact this
    by_cases h5 : k = 5
    · subst h5
      have := congrArg (fun l => IntKind.u16.wrap (beN l : Int)) (show fixed a 2 = fixed b 2 from h)
      simp only [wr2u] at this
      exact this
    · have hw : widthK k = 8 := by unfold widthK; rw [if_neg h1, if_neg (by omega), if_neg h3]
      have hi : kindI k = .i64 := by unfold kindI; rw [if_neg h1, if_neg h2, if_neg h3, if_neg h5]
      rw [hw] at h
      rw [hi]
      have := congrArg (fun l => IntKind.i64.wrap (beN l : Int)) h
      simp only [wr8] at this
      exact this
  · intro h
    rw [← numK_fixed k a hk, ← numK_fixed k b hk, h]
theorem numK_idem (k n : Int) : numK k (numK k n) = numK k n := by
  by_cases h0 : k = 0
  · subst h0
    show (n % 2) % 2 = n % 2
    omega
  · exact (fixed_num h0).1 (numK_fixed k n h0)
theorem usual_num {d : Nat} {f : Fd} {t : T} (h : f.kind ≠ 0) (h7 : f.kind ≠ 7) (h8 : f.kind ≠ 8) (h9 : f.kind ≠ 9) (h10 : f.kind ≠ 10) (h11 : f.kind ≠ 11) (hg : numK f.kind f.df = f.df) : usualB (d + 1) f t = decide (numK f.kind t.n = f.df) := by
  unfold usualB
  rw [if_neg h, if_neg h7, if_neg (by omega), if_neg h11, if_neg h10]
  by_cases e : fixed t.n (widthK f.kind) = fixed f.df (widthK f.kind)
  · rw [decide_eq_true e, decide_eq_true ((fixed_num h).1 e |>.trans hg)]
  · rw [decide_eq_false e, decide_eq_false fun e2 => e ((fixed_num h).2 (e2.trans hg.symm))]
theorem numG_parts {g : Fd} (h : numG g = true) : (1 ≤ g.kind ∧ g.kind ≤ 5) ∧ g.tag = -1 ∧ (g.fr ≤ 0 ∧ g.to < 0) ∧ numK g.kind g.df = g.df := by
  simp only [numG, Bool.and_eq_true, decide_eq_true_eq] at h
  exact ⟨⟨h.1.1.1.1.1, h.1.1.1.1.2⟩, h.1.1.1.2, ⟨h.1.1.2, h.1.2⟩, h.2⟩
theorem dfT_num {d : Nat} {g : Fd} (h : 1 ≤ g.kind ∧ g.kind ≤ 5) : dfT (d + 1) g = numT (numK g.kind g.df) := by
  unfold dfT
  rw [if_neg (by omega), if_neg (by omega), if_neg (by omega), if_neg (by omega)]
theorem toFieldT_num {d : Nat} {v : Int} {fx : Bool} {g : Fd} {t : T} (h : 1 ≤ g.kind ∧ g.kind ≤ 5) : toFieldT (d + 1) v fx g t = numT (numK g.kind t.n) := by
  show toFW _ g v t = _
  unfold toFW toV
  rw [if_neg (by omega), if_neg (by omega), if_neg (by omega), if_neg (by omega)]
theorem ncAll_eq {t t' : T} : ∀ (fs : List Fd) (i : Nat), (∀ (j : Nat) g, fs[j]? = some g → numK g.kind (atT t (i + j)).n = numK g.kind (atT t' (i + j)).n) → ncAll t i fs = ncAll t' i fs
  | [], _, _ => rfl
  | g :: r, i, h => by
    have h0 := h 0 g rfl
    rw [Nat.add_zero] at h0
    rw [ncAll, ncAll, h0, ncAll_eq (t := t) (t' := t') r (i + 1) fun j x hx => by rw [show i + 1 + j = i + (j + 1) by omega]; exact h (j + 1) x (by simpa using hx)]
theorem usualAll_nc {d : Nat} {t : T} : ∀ (fs : List Fd) (i : Nat), (∀ g, g ∈ fs → numG g = true) → usualAll (usualB (d + 1)) t i fs = ncAll t i fs
  | [], _, _ => rfl
  | g :: r, i, h => by
    obtain ⟨h1, _, _, h4⟩ := numG_parts (h g (by simp))
    rw [usualAll, ncAll, usual_num (by omega) (by omega) (by omega) (by omega) (by omega) (by omega) h4, usualAll_nc r (i + 1) fun x hx => h x (by simp [hx])]
theorem toAllT_get (tf : Fd → T → T) (us : Fd → T → Bool) (df : Fd → T) (v : Int) (fx : Bool) (t : T) : ∀ (fs : List Fd) (i j : Nat) (f : Fd), fs[j]? = some f → (toAllT tf us df v fx t i fs)[j]? = some (if (f.tag < 0 ∧ hasF f v = true) ∨ (0 ≤ f.tag ∧ fx = true ∧ us f (atT t (i + j)) = false) then tf f (atT t (i + j)) else df f)
  | [], i, j, f, h => by simp at h
  | g :: r, i, 0, f, h => by
    simp only [List.getElem?_cons_zero, Option.some.injEq] at h
    rw [toAllT, List.getElem?_cons_zero, Nat.add_zero, h]
  | g :: r, i, j + 1, f, h => by
    rw [toAllT, List.getElem?_cons_succ, toAllT_get tf us df v fx t r (i + 1) j f (by simpa using h), show i + 1 + j = i + (j + 1) by omega]
theorem atT_toT (tf : Fd → T → T) (us : Fd → T → Bool) (df : Fd → T) (fs : List Fd) (v : Int) (fx : Bool) (t : T) (j : Nat) (f : Fd) (h : fs[j]? = some f) : atT (toPartTW tf us df fs v fx t) j = if (f.tag < 0 ∧ hasF f v = true) ∨ (0 ≤ f.tag ∧ fx = true ∧ us f (atT t j) = false) then tf f (atT t j) else df f := by
  have : (toPartTW tf us df fs v fx t).l = toAllT tf us df v fx t 0 fs := rfl
  unfold atT at *
  rw [this, toAllT_get tf us df v fx t fs 0 j f h, Nat.zero_add]
  rfl
theorem atT_map {d : Nat} {fs : List Fd} {j : Nat} {g : Fd} (h : fs[j]? = some g) : atT (.mk 0 [] false (fs.map (dfT d)) []) j = dfT d g := by
  unfold atT
  show ((fs.map (dfT d))[j]?).getD T.zero = _
  rw [List.getElem?_map, h]
  rfl
theorem uuid_zero {s : List UInt8} : uuidB s = List.replicate 16 0 ↔ (s.take 16).all (· == 0) = true := by
  unfold uuidB
  constructor
  · intro h
    rw [List.all_eq_true]
    intro x hx
    have h1 : x ∈ (s ++ List.replicate 16 0).take 16 := by
      rw [List.take_append]
      exact List.mem_append_left _ hx
    rw [h] at h1
    simp [List.eq_of_mem_replicate h1]
  · intro h
    rw [List.all_eq_true] at h
    apply List.eq_replicate_iff.2
    refine ⟨by simp, fun x hx => ?_⟩
    rw [List.take_append] at hx
    rcases List.mem_append.1 hx with hx | hx
    · simpa using h x hx
    · exact List.eq_of_mem_replicate (List.mem_of_mem_take hx)
/-- A tagged field that is as by default is left out. -/
theorem nc_default {fl : Int} {d : Nat} {f : Fd} (hK : TgK fl f) (hd : f.kind = 10 → 0 < d) : ncB f (dfT (d + 1) f) = true := by
  have hg := hK.good
  have h9 := hK.k9
  have h8 := hK.k8
  have h10 := hK.k10
  unfold tagGood at hg
  unfold ncB dfT
  by_cases e7 : f.kind = 7
  · simp only [e7, if_true]
    decide
  by_cases e8 : f.kind = 8
  · simp only [e8, show ¬ ((8 : Int) = 7) by decide, if_false, if_true]
    exact decide_eq_true (by omega)
  by_cases e11 : f.kind = 11
  · simp only [e11, show ¬ ((11 : Int) = 7) by decide, show ¬ ((11 : Int) = 8) by decide, if_false, if_true, or_true]
    split <;> rfl
  by_cases e10 : f.kind = 10
  · obtain ⟨d, rfl⟩ : ∃ e, d = e + 1 := ⟨d - 1, by have := hd e10; omega⟩
    rw [if_neg (by omega), if_pos e10] at hg
    rw [if_neg e7, if_neg e8, if_neg e11, if_pos e10, if_neg e7, if_neg e8, if_neg (by omega), if_pos e10, if_neg (by omega)]
    show (ncAll (.mk 0 [] false (f.sub.map (dfT (d + 1))) []) 0 f.sub && true) = true
    rw [Bool.and_true]
    have key : ∀ (fs : List Fd) (i : Nat), (∀ (j : Nat) g, fs[j]? = some g → f.sub[i + j]? = some g) → ncAll (.mk 0 [] false (f.sub.map (dfT (d + 1))) []) i fs = true := by
      intro fs
      induction fs with
      | nil => intro i _; rfl
      | cons g r ih =>
        intro i hi
        have hgi := hi 0 g rfl
        rw [Nat.add_zero] at hgi
        obtain ⟨h1, _, _, h4⟩ := numG_parts (List.all_eq_true.1 hg g (List.mem_of_getElem? hgi))
        rw [ncAll, ih (i + 1) fun j x hx => by rw [show i + 1 + j = i + (j + 1) by omega]; exact hi (j + 1) x (by simpa using hx), atT_map hgi, dfT_num h1, Bool.and_true]
        exact decide_eq_true (by show numK g.kind (numK g.kind g.df) = g.df; rw [numK_idem]; exact h4)
    exact key f.sub 0 fun j g h => by rw [Nat.zero_add]; exact h
  · rw [if_neg (by omega), if_neg e10] at hg
    rw [if_neg e7, if_neg e8, if_neg e11, if_neg e10, if_neg e7, if_neg e8, if_neg (by omega), if_neg e10]
    exact decide_eq_true (by show numK f.kind (numK f.kind f.df) = f.df; rw [numK_idem]; exact of_decide_eq_true hg)
/-- A tagged field that was written is appended again. -/
theorem nc_told {fl v : Int} {d : Nat} {f : Fd} {t : T} (hK : TgK fl f) (hd : f.kind = 10 → 0 < d) (hv : 0 ≤ v) (hus : usualB (d + 1) f t = false) : ncB f (toFieldT (d + 1) v true f t) = false := by
  have hg := hK.good
  have h9 := hK.k9
  have h8 := hK.k8
  have h11 := hK.k11
  have h10 := hK.k10
  unfold tagGood at hg
  show ncB f (toFW _ f v t) = false
  by_cases e7 : f.kind = 7
  · unfold usualB at hus
    rw [if_neg (by omega), if_pos e7] at hus
    unfold ncB toFW toV
    rw [if_pos e7, if_neg (by omega), if_pos e7]
    refine decide_eq_false fun h => ?_
    have h : uuidB (uuidB t.s) = List.replicate 16 0 := h
    rw [uuid_idem] at h
    rw [uuid_zero.1 h] at hus
    cases hus
  by_cases e8 : f.kind = 8
  · unfold usualB at hus
    rw [if_neg (by omega), if_neg e7, if_pos (.inl e8), if_pos (by omega)] at hus
    unfold ncB toFW toV nullF
    rw [if_neg e7, if_pos e8, if_neg (by omega), if_neg e7, if_pos (.inl e8), hus, Bool.false_and]
    rfl
  by_cases e11 : f.kind = 11
  · unfold usualB at hus
    rw [if_neg (by omega), if_neg e7, if_neg (by omega), if_pos e11] at hus
    have hn : nullF f v t = false := by
      unfold nullF
      rw [decide_eq_false (show ¬ 0 ≤ f.nul by omega), Bool.false_and, Bool.and_false]
    unfold ncB toFW
    rw [if_neg e7, if_neg e8, if_pos e11, if_pos e11, hn, if_neg Bool.false_ne_true]
    by_cases h2 : f.nul = -2
    · rw [if_pos h2]
      exact if_pos (.inr h2)
    · rw [if_neg h2]
      show ((t.l.take most).map _).isEmpty = false
      cases hl : t.l with
      | nil => rw [hl] at hus; cases hus
      | cons a b => simp [most]
  by_cases e10 : f.kind = 10
  · obtain ⟨d, rfl⟩ : ∃ e, d = e + 1 := ⟨d - 1, by have := hd e10; omega⟩
    rw [if_neg (by omega), if_pos e10] at hg
    have hgs : ∀ g, g ∈ f.sub → numG g = true := fun g hgm => List.all_eq_true.1 hg g hgm
    unfold usualB at hus
    rw [if_neg (by omega), if_neg e7, if_neg (by omega), if_neg e11, if_pos e10, usualAll_nc f.sub 0 hgs] at hus
    unfold ncB toFW toV
    rw [if_neg e7, if_neg e8, if_neg e11, if_pos e10, if_neg e11, if_neg e7, if_neg (by omega), if_pos e10]
    have h1 : ncAll (toPartTW (toFieldT (d + 1) v true) (usualB (d + 1)) (dfT (d + 1)) f.sub v true t) 0 f.sub = ncAll t 0 f.sub := ncAll_eq f.sub 0 fun j g hj => by
      obtain ⟨g1, g2, g3, g4⟩ := numG_parts (hgs g (List.mem_of_getElem? hj))
      rw [Nat.zero_add, atT_toT _ _ _ _ _ _ _ j g hj, if_pos (.inl ⟨by omega, by simp only [hasF, Bool.and_eq_true, Bool.or_eq_true, decide_eq_true_eq]; omega⟩), toFieldT_num g1]
      exact numK_idem _ _
    have h2 : (toPartTW (toFieldT (d + 1) v true) (usualB (d + 1)) (dfT (d + 1)) f.sub v true t).u.isEmpty = (unknownT f.sub t.u).isEmpty := by
      show ((unknownT f.sub t.u).map cutT).isEmpty = _
      cases unknownT f.sub t.u <;> rfl
    show (ncAll (toPartTW (toFieldT (d + 1) v true) (usualB (d + 1)) (dfT (d + 1)) f.sub v true t) 0 f.sub && (toPartTW (toFieldT (d + 1) v true) (usualB (d + 1)) (dfT (d + 1)) f.sub v true t).u.isEmpty) = false
    rw [h1, h2]
    exact hus
  · rw [if_neg (by omega), if_neg e10] at hg
    have hdf := of_decide_eq_true hg
    have hus2 : decide (numK f.kind t.n = f.df) = false := by
      by_cases e0 : f.kind = 0
      · unfold usualB at hus
        rw [if_pos e0] at hus
        have : numK f.kind t.n = t.n % 2 := by unfold numK; rw [if_pos e0]
        rw [this]
        exact hus
      · rw [usual_num e0 e7 e8 h9 e10 e11 hdf] at hus
        exact hus
    unfold ncB toFW toV
    rw [if_neg e7, if_neg e8, if_neg e11, if_neg e10, if_neg e11, if_neg e7, if_neg (by omega), if_neg e10]
    refine decide_eq_false fun h => ?_
    have h : numK f.kind (numK f.kind t.n) = f.df := h
    rw [numK_idem] at h
    exact of_decide_eq_false hus2 h
theorem tgK_depth {fl : Int} {d : Nat} {f : Fd} (hK : TgK fl f) (h : tgF fl (d + 1) f = true) : f.kind = 10 → 0 < d := by
  intro e
  have hs := (tgF_parts h).2.2.2
  cases hl : f.sub with
  | nil => exact absurd hl (hK.ne.resolve_left fun h => h e)
  | cons g r =>
    have := hs g (by rw [hl]; simp)
    cases d with
    | zero => simp [tgF] at this
    | succ d => omega
theorem tagL_congr {fw fw' : Fd → T → List UInt8} {us us' : Fd → T → Bool} {t t' : T} : ∀ (fs : List Fd) (i : Nat), (∀ (j : Nat) g, fs[j]? = some g → 0 ≤ g.tag → us g (atT t (i + j)) = us' g (atT t' (i + j)) ∧ (us' g (atT t' (i + j)) = false → fw g (atT t (i + j)) = fw' g (atT t' (i + j)))) → tagL fw us t i fs = tagL fw' us' t' i fs
  | [], _, _ => rfl
  | g :: r, i, h => by
    rw [tagL, tagL, tagL_congr (fw := fw) (fw' := fw') (us := us) (us' := us') (t := t) (t' := t') r (i + 1) fun j x hx => by rw [show i + 1 + j = i + (j + 1) by omega]; exact h (j + 1) x (by simpa using hx)]
    congr 1
    by_cases hg : 0 ≤ g.tag
    · obtain ⟨h1, h2⟩ := h 0 g rfl hg
      rw [Nat.add_zero] at h1 h2
      rw [h1]
      by_cases hu : us' g (atT t' i) = false
      · rw [if_pos ⟨hg, hu⟩, if_pos ⟨hg, hu⟩, h2 hu]
      · rw [if_neg fun e => hu e.2, if_neg fun e => hu e.2]
    · rw [if_neg fun e => hg e.1, if_neg fun e => hg e.1]
/-- What is appended of a told part's tags is what was written of them. -/
theorem tgA_law {fwA fwB : Fd → T → List UInt8} {us : Fd → T → Bool} {fs : List Fd} {fx : Bool} {x t : T} (hrise : riseF 0 fs = true) (hu : x.u = if fx = true then (unknownT fs t.u).map cutT else [])
    (h : fx = true → ∀ (j : Nat) g, fs[j]? = some g → 0 ≤ g.tag → ncB g (atT x j) = us g (atT t j) ∧ (us g (atT t j) = false → fwA g (atT x j) = fwB g (atT t j))) :
    tgA fwA fs fx x = if fx = true then uvar (allTags fwB us fs t).length ++ (allTags fwB us fs t).flatMap tagB else [] := by
  unfold tgA
  cases fx with
  | false =>
    rw [hu]
    split
    · rfl
    · rfl
  | true =>
    rw [if_pos rfl, if_pos rfl, allTags_eq hrise, hu, if_pos rfl]
    split
    · rename_i hno
      rw [tagL_none t fs 0 fun f hf => of_decide_eq_true (List.all_eq_true.1 hno f hf), List.nil_append]
      rfl
    · rw [tagL_congr (fw := fwA) (fw' := fwB) (us := ncB) (us' := us) (t := x) (t' := t) fs 0 fun j g hg h0 => by rw [Nat.zero_add]; exact h rfl j g hg h0, List.length_append, List.flatMap_append]
theorem fieldT_lawT (fl : Int) : ∀ (d : Nat) (v : Int) (fx : Bool) (f : Fd) (t : T), tgF fl d f = true → okW d f = true → 0 ≤ v → fieldA d v fx f (toFieldT d v fx f t) = fieldB d v fx f t
  | 0, _, _, _, _, h, _, _ => by simp [tgF] at h
  | d + 1, v, fx, f, t, h, hw, hv => by
    obtain ⟨_, hrise, hn1000, hs⟩ := tgF_parts h
    have hww : (f.kind ≠ 10 ∨ (f.nul < 0 ∧ f.fr ≤ 0 ∧ f.to < 0)) ∧ ∀ g, g ∈ f.sub → okW d g = true := by simpa [okW] using hw
    have hp : ∀ x, partAW (fieldA d v fx) f.sub v fx (toPartTW (toFieldT d v fx) (usualB d) (dfT d) f.sub v fx x) = partW (fieldB d v fx) (usualB d) f.sub v fx x := by
      intro x
      unfold partAW partW
      rw [plainW_congrH (fw := fieldA d v fx) (fw' := fieldB d v fx) (v := v) (t := toPartTW (toFieldT d v fx) (usualB d) (dfT d) f.sub v fx x) (t' := x) f.sub 0 fun j g hg hh => by
        rw [Nat.zero_add, atT_toT _ _ _ _ _ _ _ j g hg, if_pos (.inl hh)]
        exact fieldT_lawT fl d v fx g _ (hs g (List.mem_of_getElem? hg)) (hww.2 g (List.mem_of_getElem? hg)) hv]
      rw [tgA_law (fwB := fieldB d v fx) (us := usualB d) (t := x) hrise rfl fun hfx j g hg h0 => ?_]
      have hgt := hs g (List.mem_of_getElem? hg)
      obtain ⟨e, rfl⟩ : ∃ e, d = e + 1 := by
        cases d with
        | zero => simp [tgF] at hgt
        | succ d => exact ⟨d, rfl⟩
      have hK := (tgF_tag hgt).resolve_left (by omega)
      have hde := tgK_depth hK hgt
      rw [atT_toT _ _ _ _ _ _ _ j g hg]
      by_cases hus : usualB (e + 1) g (atT x j) = false
      · rw [if_pos (.inr ⟨h0, hfx, hus⟩)]
        refine ⟨?_, fun _ => fieldT_lawT fl (e + 1) v fx g _ hgt (hww.2 g (List.mem_of_getElem? hg)) hv⟩
        rw [hus, hfx]
        exact nc_told hK hde hv hus
      · rw [if_neg (by rintro (h | h); exact absurd h.1 (by omega); exact hus h.2.2)]
        refine ⟨?_, fun h => absurd h hus⟩
        have hus : usualB (e + 1) g (atT x j) = true := by simpa using hus
        rw [hus]
        exact nc_default hK hde
    show fieldAW (fun sub t => partAW (fieldA d v fx) sub v fx t) f v fx (toFW (fun sub t => toPartTW (toFieldT d v fx) (usualB d) (dfT d) sub v fx t) f v t) = fieldW (fun sub t => partW (fieldB d v fx) (usualB d) sub v fx t) f v fx t
    unfold fieldAW fieldW toFW
    by_cases h11 : f.kind = 11
    · simp only [h11, if_true]
      cases hn : nullF f v t with
      | true =>
        simp only [if_true]
        have : nullF f v (.mk 0 [] true [] []) = true := by rw [← hn]; exact nullF_nl (by rw [hn]; rfl)
        rw [this]
        rfl
      | false =>
        simp only [Bool.false_eq_true, if_false]
        have : nullF f v (.mk 0 [] (if 0 ≤ f.nul ∨ f.nul = -2 then false else t.l.isEmpty) ((t.l.take most).map (toV (fun sub t => toPartTW (toFieldT d v fx) (usualB d) (dfT d) sub v fx t) f.of f.sub false)) []) = false := by
          unfold nullF
          by_cases h0 : 0 ≤ f.nul
          · simp only [if_pos (show 0 ≤ f.nul ∨ f.nul = -2 from .inl h0), T.nl, Bool.false_and]
          · simp [h0]
        rw [this]
        simp only [Bool.false_eq_true, if_false]
        show countedB fx false ((t.l.take most).map _).length 4 ++ ((t.l.take most).map _).flatMap _ = _
        simp only [List.length_map, List.flatMap_map]
        congr 2
        funext y
        exact valueA_to (tp := fun sub t => toPartTW (toFieldT d v fx) (usualB d) (dfT d) sub v fx t) (pA := fun sub t => partAW (fieldA d v fx) sub v fx t) (pB := fun sub t => partW (fieldB d v fx) (usualB d) sub v fx t) f.of false fun _ => hp y
    · simp only [h11, if_false]
      have h10n : ¬ (f.kind = 10 ∧ 0 ≤ f.nul) := by rintro ⟨h1, h2⟩; rcases hww.1 with h | h; exact h h1; omega
      rw [if_neg h10n, if_neg h10n]
      have key := valueA_to (tp := fun sub t => toPartTW (toFieldT d v fx) (usualB d) (dfT d) sub v fx t) (pA := fun sub t => partAW (fieldA d v fx) sub v fx t) (pB := fun sub t => partW (fieldB d v fx) (usualB d) sub v fx t) (fx := fx) (x := t) f.kind (nullF f v t) fun _ => hp t
      by_cases h89 : f.kind = 8 ∨ f.kind = 9
      · have hnl : (toV (fun sub t => toPartTW (toFieldT d v fx) (usualB d) (dfT d) sub v fx t) f.kind f.sub (nullF f v t) t).nl = nullF f v t := by
          unfold toV
          rw [if_neg (by omega), if_pos h89]
          cases nullF f v t <;> rfl
        rw [nullF_nl hnl]
        exact key
      · rw [valueA_null (nb' := nullF f v t) h89]
        exact key
theorem partT_lawT (fl : Int) (d : Nat) (v : Int) (fx : Bool) (fs : List Fd) (t : T) (hrise : riseF 0 fs = true) (hs : ∀ f, f ∈ fs → tgF fl d f = true) (hw : ∀ f, f ∈ fs → okW d f = true) (hv : 0 ≤ v) : partA d v fx fs (toPartT d v fx fs t) = partB d v fx fs t := by
  have hww : True ∧ ∀ f, f ∈ fs → okW d f = true := ⟨trivial, hw⟩
  have hp : ∀ x, partAW (fieldA d v fx) fs v fx (toPartTW (toFieldT d v fx) (usualB d) (dfT d) fs v fx x) = partW (fieldB d v fx) (usualB d) fs v fx x := by
    intro x
    unfold partAW partW
    rw [plainW_congrH (fw := fieldA d v fx) (fw' := fieldB d v fx) (v := v) (t := toPartTW (toFieldT d v fx) (usualB d) (dfT d) fs v fx x) (t' := x) fs 0 fun j g hg hh => by
      rw [Nat.zero_add, atT_toT _ _ _ _ _ _ _ j g hg, if_pos (.inl hh)]
      exact fieldT_lawT fl d v fx g _ (hs g (List.mem_of_getElem? hg)) (hww.2 g (List.mem_of_getElem? hg)) hv]
    rw [tgA_law (fwB := fieldB d v fx) (us := usualB d) (t := x) hrise rfl fun hfx j g hg h0 => ?_]
    have hgt := hs g (List.mem_of_getElem? hg)
    obtain ⟨e, rfl⟩ : ∃ e, d = e + 1 := by
      cases d with
      | zero => simp [tgF] at hgt
      | succ d => exact ⟨d, rfl⟩
    have hK := (tgF_tag hgt).resolve_left (by omega)
    have hde := tgK_depth hK hgt
    rw [atT_toT _ _ _ _ _ _ _ j g hg]
    by_cases hus : usualB (e + 1) g (atT x j) = false
    · rw [if_pos (.inr ⟨h0, hfx, hus⟩)]
      refine ⟨?_, fun _ => fieldT_lawT fl (e + 1) v fx g _ hgt (hww.2 g (List.mem_of_getElem? hg)) hv⟩
      rw [hus, hfx]
      exact nc_told hK hde hv hus
    · rw [if_neg (by rintro (h | h); exact absurd h.1 (by omega); exact hus h.2.2)]
      refine ⟨?_, fun h => absurd h hus⟩
      have hus : usualB (e + 1) g (atT x j) = true := by simpa using hus
      rw [hus]
      exact nc_default hK hde
  exact hp t
/-! ## What is told fits -/
theorem df_okTT (fl : Int) : ∀ (d : Nat) (v : Int) (f : Fd), tgF fl d f = true → okW d f = true → 0 ≤ v → ¬ hasF f v = true → fieldOK d v f (dfT d f)
  | 0, _, _, h, _, _, _ => by simp [tgF] at h
  | d + 1, v, f, h, hw, hv, hno => by
    have hww : (f.kind ≠ 10 ∨ (f.nul < 0 ∧ f.fr ≤ 0 ∧ f.to < 0)) ∧ ∀ g, g ∈ f.sub → okW d g = true := by simpa [okW] using hw
    have h10 : f.kind ≠ 10 := by
      intro e
      refine hno ?_
      simp only [hasF, Bool.and_eq_true, Bool.or_eq_true, decide_eq_true_eq]
      rcases hww.1 with h | h
      · exact absurd e h
      · omega
    show fieldOKW (fun sub t => partOKW (fieldOK d v) sub t) f v _
    unfold fieldOKW dfT
    by_cases h7 : f.kind = 7
    · simp only [h7, if_true, show ¬ ((7 : Int) = 11) by decide, if_false]
      exact ⟨fun h => Bool.noConfusion h, by unfold okV; exact ⟨fun h => by omega, fun h => by omega⟩⟩
    by_cases h8 : f.kind = 8
    · simp only [h8, show ¬ ((8 : Int) = 7) by decide, show ¬ ((8 : Int) = 11) by decide, if_true, if_false]
      refine ⟨fun h => .inl ⟨of_decide_eq_true h, fun e => absurd e hno⟩, ?_⟩
      unfold okV
      exact ⟨fun _ => by simp [T.s], fun h => by omega⟩
    by_cases h9 : f.kind = 9
    · simp only [h9, show ¬ ((9 : Int) = 7) by decide, show ¬ ((9 : Int) = 8) by decide, show ¬ ((9 : Int) = 11) by decide, true_or, if_true, if_false]
      refine ⟨fun _ => ?_, by unfold okV; exact ⟨fun _ => by simp [T.s], fun h => by omega⟩⟩
      by_cases h0 : 0 ≤ f.nul
      · exact .inl ⟨h0, fun e => absurd e hno⟩
      · exact .inr ⟨by omega, by simp, rfl, rfl, fun _ _ => hno⟩
    by_cases h11 : f.kind = 11
    · simp only [h11, show ¬ ((11 : Int) = 7) by decide, show ¬ ((11 : Int) = 8) by decide, or_true, if_true, if_false]
      refine ⟨fun _ => ?_, by simp [T.l], by simp [T.l]⟩
      by_cases h0 : 0 ≤ f.nul
      · exact .inl ⟨h0, fun e => absurd e hno⟩
      · exact .inr ⟨by omega, by simp, rfl, rfl, fun _ _ => hno⟩
    · simp only [h7, h8, h9, h10, h11, or_self, if_false]
      exact ⟨fun h => Bool.noConfusion h, by unfold okV; exact ⟨fun h => by omega, fun h => absurd h h10⟩⟩
/-- A tagged field as it is by default fits. -/
theorem tag_okTT {fl v : Int} {d : Nat} {f : Fd} (hK : TgK fl f) (h : tgF fl (d + 1) f = true) (hv : 0 ≤ v) : fieldOK (d + 1) v f (dfT (d + 1) f) := by
  have hg := hK.good
  have h9 := hK.k9
  have h8 := hK.k8
  have h10 := hK.k10
  have h11 := hK.k11
  have hlo := hK.lo
  have hd := tgK_depth hK h
  unfold tagGood at hg
  show fieldOKW (fun sub t => partOKW (fieldOK d v) sub t) f v _
  unfold fieldOKW dfT
  by_cases e7 : f.kind = 7
  · simp only [e7, if_true, show ¬ ((7 : Int) = 11) by decide, if_false]
    exact ⟨fun h => Bool.noConfusion h, by unfold okV; exact ⟨fun h => by omega, fun h => by omega⟩⟩
  by_cases e8 : f.kind = 8
  · simp only [e8, show ¬ ((8 : Int) = 7) by decide, show ¬ ((8 : Int) = 11) by decide, if_true, if_false]
    refine ⟨fun h => .inl ⟨of_decide_eq_true h, fun _ => by omega⟩, ?_⟩
    unfold okV
    exact ⟨fun _ => by simp [T.s], fun h => by omega⟩
  by_cases e11 : f.kind = 11
  · simp only [e11, show ¬ ((11 : Int) = 7) by decide, show ¬ ((11 : Int) = 8) by decide, or_true, if_true, if_false]
    exact ⟨fun _ => .inr ⟨by omega, by simp, rfl, rfl, fun _ h => by omega⟩, by simp [T.l], by simp [T.l]⟩
  by_cases e10 : f.kind = 10
  · obtain ⟨e, rfl⟩ : ∃ e, d = e + 1 := ⟨d - 1, by have := hd e10; omega⟩
    rw [if_neg (by omega), if_pos e10] at hg
    rw [if_neg e7, if_neg e8, if_neg (by omega), if_pos e10, if_neg (by omega), if_neg e11]
    refine ⟨fun h => Bool.noConfusion h, ⟨fun h => by omega, fun _ => ⟨fun j g hj => ?_, TagOK.nil⟩⟩⟩
    obtain ⟨h1, _, _, h4⟩ := numG_parts (List.all_eq_true.1 hg g (List.mem_of_getElem? hj))
    rw [atT_map hj, dfT_num h1]
    show fieldOKW _ g v _
    unfold fieldOKW
    rw [if_neg (by omega)]
    exact ⟨fun h => Bool.noConfusion h, ⟨fun h => by omega, fun h => by omega⟩⟩
  · rw [if_neg e7, if_neg e8, if_neg (by omega), if_neg e10, if_neg e11]
    exact ⟨fun h => Bool.noConfusion h, ⟨fun h => by omega, fun h => absurd h e10⟩⟩
theorem field_okTT (fl : Int) : ∀ (d : Nat) (v : Int) (fx : Bool) (f : Fd) (t : T), fx = flexB fl v → tgF fl d f = true → okW d f = true → KeyT t → 0 ≤ v → hasF f v = true → fieldOK d v f (toFieldT d v fx f t)
  | 0, _, _, _, _, _, h, _, _, _, _ => by simp [tgF] at h
  | d + 1, v, fx, f, t, hfe, h, hw, hk, hv, hhas => by
    obtain ⟨_, hrise, hn1000, hs⟩ := tgF_parts h
    have hww : (f.kind ≠ 10 ∨ (f.nul < 0 ∧ f.fr ≤ 0 ∧ f.to < 0)) ∧ ∀ g, g ∈ f.sub → okW d g = true := by simpa [okW] using hw
    have hp : ∀ x, KeyT x → partOKW (fieldOK d v) f.sub (toPartTW (toFieldT d v fx) (usualB d) (dfT d) f.sub v fx x) := by
      intro x hx
      refine ⟨fun i g hg => ?_, tagOK_to (tag_ok f.sub x.u hx.u)⟩
      rw [atT_toT _ _ _ _ _ _ _ i g hg]
      have hgm := List.mem_of_getElem? hg
      have hgt := hs g hgm
      rcases tgF_tag hgt with htn | hK
      · by_cases hc : hasF g v = true
        · rw [if_pos (.inl ⟨by omega, hc⟩)]
          exact field_okTT fl d v fx g _ hfe hgt (hww.2 g hgm) (hx.at i) hv hc
        · rw [if_neg (by rintro (h | h); exact hc h.2; omega)]
          exact df_okTT fl d v g hgt (hww.2 g hgm) hv hc
      · have hlo := hK.lo
        obtain ⟨e, rfl⟩ : ∃ e, d = e + 1 := by
          cases d with
          | zero => simp [tgF] at hgt
          | succ d => exact ⟨d, rfl⟩
        by_cases hc : (g.tag < 0 ∧ hasF g v = true) ∨ (0 ≤ g.tag ∧ fx = true ∧ usualB (e + 1) g (atT x i) = false)
        · rw [if_pos hc]
          have hfx : fx = true := by rcases hc with h | h; (omega); exact h.2.1
          exact field_okTT fl (e + 1) v fx g _ hfe hgt (hww.2 g hgm) (hx.at i) hv (tg_has hK (by rw [← hfe]; exact hfx))
        · rw [if_neg hc]
          exact tag_okTT hK hgt hv
    show fieldOKW (fun sub t => partOKW (fieldOK d v) sub t) f v (toFW (fun sub t => toPartTW (toFieldT d v fx) (usualB d) (dfT d) sub v fx t) f v t)
    have hn0 : nullF f v t = true → 0 ≤ f.nul ∧ (hasF f v = true → f.nul ≤ v) := by
      intro e
      unfold nullF at e
      simp only [Bool.and_eq_true, decide_eq_true_eq] at e
      exact ⟨e.2.1, fun _ => e.2.2⟩
    unfold fieldOKW toFW
    by_cases h11 : f.kind = 11
    · simp only [h11, if_true]
      cases hn : nullF f v t with
      | true =>
        simp only [if_true]
        exact ⟨fun _ => .inl (hn0 hn), by simp [T.l], by simp [T.l]⟩
      | false =>
        simp only [Bool.false_eq_true, if_false]
        refine ⟨fun hnl => .inr ?_, ?_, fun y hy => ?_⟩
        · have hnl : (if 0 ≤ f.nul ∨ f.nul = -2 then false else t.l.isEmpty) = true := hnl
          by_cases h0 : 0 ≤ f.nul ∨ f.nul = -2
          · rw [if_pos h0] at hnl
            cases hnl
          · rw [if_neg h0] at hnl
            have e : t.l = [] := by simpa using hnl
            exact ⟨by omega, by simp, rfl, by show (t.l.take most).map _ = []; rw [e]; rfl, fun e2 _ => absurd (.inr e2) h0⟩
        · show ((t.l.take most).map _).length ≤ _
          rw [List.length_map, List.length_take]
          exact Nat.min_le_left _ _
        · have hy : y ∈ (t.l.take most).map (toV (fun sub t => toPartTW (toFieldT d v fx) (usualB d) (dfT d) sub v fx t) f.of f.sub false) := hy
          obtain ⟨z, hz, rfl⟩ := List.mem_map.1 hy
          exact ⟨toV_nl rfl, okV_to fun _ => hp z (hk.l z (List.mem_of_mem_take hz))⟩
    · simp only [h11, if_false]
      refine ⟨fun hnl => .inl ?_, okV_to fun _ => hp t hk⟩
      unfold toV at hnl
      split at hnl
      · cases hnl
      split at hnl
      · split at hnl
        · rename_i hq
          exact hn0 hq
        · cases hnl
      split at hnl
      · cases hnl
      · cases hnl
theorem part_okTT (fl : Int) (d : Nat) (v : Int) (fx : Bool) (fs : List Fd) (t : T) (hfe : fx = flexB fl v) (hs : ∀ f, f ∈ fs → tgF fl d f = true) (hw : ∀ f, f ∈ fs → okW d f = true) (hk : KeyT t) (hv : 0 ≤ v) : partOK d v fs (toPartT d v fx fs t) := by
  have hww : True ∧ ∀ f, f ∈ fs → okW d f = true := ⟨trivial, hw⟩
  have hp : ∀ x, KeyT x → partOKW (fieldOK d v) fs (toPartTW (toFieldT d v fx) (usualB d) (dfT d) fs v fx x) := by
    intro x hx
    refine ⟨fun i g hg => ?_, tagOK_to (tag_ok fs x.u hx.u)⟩
    rw [atT_toT _ _ _ _ _ _ _ i g hg]
    have hgm := List.mem_of_getElem? hg
    have hgt := hs g hgm
    rcases tgF_tag hgt with htn | hK
    · by_cases hc : hasF g v = true
      · rw [if_pos (.inl ⟨by omega, hc⟩)]
        exact field_okTT fl d v fx g _ hfe hgt (hww.2 g hgm) (hx.at i) hv hc
      · rw [if_neg (by rintro (h | h); exact hc h.2; omega)]
        exact df_okTT fl d v g hgt (hww.2 g hgm) hv hc
    · have hlo := hK.lo
      obtain ⟨e, rfl⟩ : ∃ e, d = e + 1 := by
        cases d with
        | zero => simp [tgF] at hgt
        | succ d => exact ⟨d, rfl⟩
      by_cases hc : (g.tag < 0 ∧ hasF g v = true) ∨ (0 ≤ g.tag ∧ fx = true ∧ usualB (e + 1) g (atT x i) = false)
      · rw [if_pos hc]
        have hfx : fx = true := by rcases hc with h | h; (omega); exact h.2.1
        exact field_okTT fl (e + 1) v fx g _ hfe hgt (hww.2 g hgm) (hx.at i) hv (tg_has hK (by rw [← hfe]; exact hfx))
      · rw [if_neg hc]
        exact tag_okTT hK hgt hv
  exact hp t hk
end Go.Proofs.YtgfkjnbhcekfkaaGreatDoor.K
