
/- The size of what is written, by the size of the tree (descriptions without tagged fields). -/
import Derived.Test.YtepamajphjgigaaGreatDoorP0
set_option linter.unusedVariables false
set_option linter.unusedSimpArgs false
namespace Go.Proofs.YtepamajphjgigaaGreatDoor.K
open Go

def wtU : List Tg → Nat
  | [] => 0
  | x :: r => 1 + x.2.length + wtU r
mutual
def wtT : T → Nat
  | .mk _ s _ l u => 1 + s.length + wtL l + wtU u
def wtL : List T → Nat
  | [] => 0
  | x :: r => wtT x + wtL r
end
theorem wtT_eq (t : T) : wtT t = 1 + t.s.length + wtL t.l + wtU t.u := by cases t; rfl
theorem wtL_mem {x : T} : ∀ {l : List T}, x ∈ l → wtT x ≤ wtL l
  | y :: r, h => by
    rcases List.mem_cons.1 h with rfl | h
    · simp only [wtL]; omega
    · have := wtL_mem h
      simp only [wtL]; omega
theorem wt_at (t : T) (i : Nat) : wtT (atT t i) ≤ wtT t := by
  have h := wtT_eq t
  unfold atT
  cases hi : t.l[i]? with
  | none =>
    simp only [Option.getD_none]
    have : wtT T.zero = 1 := rfl
    omega
  | some x =>
    have := wtL_mem (List.mem_of_getElem? hi)
    simp only [Option.getD_some]
    omega
theorem wtU_append (a b : List Tg) : wtU (a ++ b) = wtU a + wtU b := by
  induction a with
  | nil => simp [wtU]
  | cons x r ih => simp only [List.cons_append, wtU, ih]; omega
theorem insT_wt (t : Tg) : ∀ (o : List Tg), wtU (insT o t) ≤ wtU o + (1 + t.2.length)
  | [] => by simp [insT, wtU]
  | x :: r => by
    have := insT_wt t r
    unfold insT
    split
    · simp only [wtU]; omega
    · split
      · simp only [wtU]; omega
      · simp only [wtU]; omega
theorem unkT_wt (least : Nat) : ∀ (u o : List Tg), wtU (unkT least o u) ≤ wtU o + wtU u
  | [], o => by simp [unkT, wtU]
  | t :: r, o => by
    unfold unkT
    have h1 := unkT_wt least r (if t.1 < least then o else insT o t)
    have h2 : wtU (if t.1 < least then o else insT o t) ≤ wtU o + (1 + t.2.length) := by
      split
      · omega
      · exact insT_wt t o
    simp only [wtU]
    omega
theorem wtU_take (u : List Tg) (n : Nat) : wtU (u.take n) ≤ wtU u := by
  have := wtU_append (u.take n) (u.drop n)
  rw [List.take_append_drop] at this
  omega
theorem wtU_cut (u : List Tg) : wtU (u.map cutT) ≤ wtU u := by
  induction u with
  | nil => simp
  | cons x r ih =>
    simp only [List.map_cons, wtU, cutT, List.length_take]
    omega
theorem tags_wt {flex : Bool} {fs : List Fd} {u : List Tg} (hk : ∀ x, x ∈ u → x.1 < 4294967296) : (tgsB flex ((unknownT fs u).map cutT)).length ≤ 10 + 20 * wtU u := by
  have hok := tag_ok fs u hk
  have h1 : wtU ((unknownT fs u).map cutT) ≤ wtU u := by
    have a := wtU_cut (unknownT fs u)
    have b := unkT_wt (knownN fs 0) (u.take most) []
    have c := wtU_take u most
    unfold unknownT at a ⊢
    simp only [wtU] at b
    omega
  generalize (unknownT fs u).map cutT = z at h1 hok
  unfold tgsB
  cases flex
  · simp
  · simp only [if_true, List.length_append]
    have hz := uvar10 (n := z.length) (by have := hok.len; omega)
    have key : ∀ (l : List Tg), (∀ x, x ∈ l → x.1 < 4294967296 ∧ x.2.length ≤ 32767) → (l.flatMap tagB).length ≤ 20 * wtU l := by
      intro l
      induction l with
      | nil => simp
      | cons x r ih =>
        intro h
        have hx := h x (by simp)
        have h2 := ih fun y hy => h y (by simp [hy])
        have h3 := uvar10 (n := x.1) (by omega)
        have h4 := uvar10 (n := x.2.length) (by omega)
        have h5 : (tagB x).length ≤ 20 + x.2.length := by
          unfold tagB
          simp only [List.length_append]
          omega
        rw [List.flatMap_cons, List.length_append]
        simp only [wtU]
        omega
    have := key z fun x hx => ⟨hok.key x hx, hok.val x hx⟩
    omega
/-- How many octets a field writes to each unit of its tree. -/
def cV (cp : List Fd → Nat) (kind : Int) (sub : List Fd) : Nat := if kind = 10 then cp sub else 16
def cFW (cp : List Fd → Nat) (f : Fd) : Nat := 10 + cV cp (if f.kind = 11 then f.of else f.kind) f.sub
def cFd : Nat → Fd → Nat
  | 0, _ => 0
  | d + 1, f => cFW (fun sub => maxAll (cFd d) sub + 30) f
def cP (d : Nat) (fs : List Fd) : Nat := maxAll (cFd d) fs + 30
theorem valueW_wt {pw : List Fd → T → List UInt8} {cp : List Fd → Nat} {sub : List Fd} {t : T} (hp : (pw sub t).length ≤ cp sub * wtT t) (kind : Int) (null flex : Bool) : (valueW pw kind sub null flex t).length ≤ cV cp kind sub * wtT t := by
  have h2 := widthK_le kind
  have hw := wtT_eq t
  have hs : (if null = true then [] else t.s.take most).length ≤ t.s.length := by
    split
    · simp
    · rw [List.length_take]; exact Nat.min_le_right _ _
  have ht := take_len null t.s
  unfold valueW cV
  by_cases h10 : kind = 10
  · subst h10; exact hp
  · simp only [h10, if_false]
    have h16 : 16 ≤ 16 * wtT t := by omega
    by_cases h0 : kind = 0
    · subst h0; simp; omega
    by_cases h7 : kind = 7
    · subst h7; simp [uuidB]; omega
    by_cases h8 : kind = 8
    · subst h8
      simp only [show ¬ ((8 : Int) = 0) by decide, show ¬ ((8 : Int) = 7) by decide, if_false, if_true, List.length_append]
      have := counted_len (flex := flex) (nb := null) (size := 2) ht (by omega)
      omega
    by_cases h9 : kind = 9
    · subst h9
      simp only [show ¬ ((9 : Int) = 0) by decide, show ¬ ((9 : Int) = 7) by decide, show ¬ ((9 : Int) = 8) by decide, if_false, if_true, List.length_append]
      have := counted_len (flex := flex) (nb := null) (size := 4) ht (by omega)
      omega
    · simp only [h0, h7, h8, h9, if_false, fixed_length]
      omega
theorem plainW_wt {fw : Fd → T → List UInt8} {cf : Fd → Nat} {v : Int} {t : T} : ∀ (fs : List Fd) (i : Nat), (∀ (j : Nat) f, f ∈ fs → (fw f (atT t j)).length ≤ cf f * wtT t) → (plainW fw v t i fs).length ≤ maxAll cf fs * wtT t
  | [], i, h => by simp [plainW]
  | f :: r, i, h => by
    have h1 := h i f (by simp)
    have h2 := plainW_wt (v := v) r (i + 1) fun j g hg => h j g (by simp [hg])
    unfold plainW maxAll
    rw [List.length_append, Nat.add_mul]
    split
    · omega
    · simp only [List.length_nil]; omega
theorem flatMap_wt (f : T → List UInt8) (c : Nat) : ∀ (l : List T), (∀ x, x ∈ l → (f x).length ≤ c * wtT x) → (l.flatMap f).length ≤ c * wtL l
  | [], _ => by simp
  | x :: r, h => by
    have h1 := h x (by simp)
    have h2 := flatMap_wt f c r fun y hy => h y (by simp [hy])
    rw [List.flatMap_cons, List.length_append]
    simp only [wtL, Nat.mul_add]
    omega
theorem wtL_append (a b : List T) : wtL (a ++ b) = wtL a + wtL b := by
  induction a with
  | nil => simp [wtL]
  | cons x r ih => simp only [List.cons_append, wtL, ih]; omega
theorem wtL_take (l : List T) (n : Nat) : wtL (l.take n) ≤ wtL l := by
  have := wtL_append (l.take n) (l.drop n)
  rw [List.take_append_drop] at this
  omega
theorem fieldB_wt : ∀ (d : Nat) (v : Int) (flex : Bool) (f : Fd) (t : T), ntF d f = true → KeyT t → (fieldB d v flex f t).length ≤ cFd d f * wtT t
  | 0, _, _, _, _, h, _ => by simp [ntF] at h
  | d + 1, v, flex, f, t, h, hk => by
    have hh : f.tag = -1 ∧ ∀ g, g ∈ f.sub → ntF d g = true := by simpa [ntF] using h
    obtain ⟨ht, hs⟩ := hh
    have hst : ∀ g, g ∈ f.sub → g.tag = -1 := by
      intro g hg
      have := hs g hg
      match d, this with
      | 0, h => simp [ntF] at h
      | d + 1, h => have h : g.tag = -1 ∧ ∀ x, x ∈ g.sub → ntF d x = true := by simpa [ntF] using h
                    exact h.1
    have hp : ∀ x, KeyT x → (partW (fieldB d v flex) (usualB d) f.sub v flex x).length ≤ (maxAll (cFd d) f.sub + 30) * wtT x := by
      intro x hx
      rw [partW_nt hst, List.length_append, Nat.add_mul]
      have h1 := plainW_wt (fw := fieldB d v flex) (cf := cFd d) (v := v) (t := x) f.sub 0 fun j g hg => Nat.le_trans (fieldB_wt d v flex g _ (hs g hg) (hx.at j)) (Nat.mul_le_mul_left _ (wt_at x j))
      have h2 := tags_wt (flex := flex) (fs := f.sub) hx.u
      have h3 := wtT_eq x
      omega
    have hw := wtT_eq t
    show (fieldW (fun sub t => partW (fieldB d v flex) (usualB d) sub v flex t) f v flex t).length ≤ cFW (fun sub => maxAll (cFd d) sub + 30) f * wtT t
    unfold fieldW cFW
    rw [Nat.add_mul]
    by_cases h11 : f.kind = 11
    · simp only [h11, if_true, List.length_append]
      have h1 := take_len (nullF f v t) t.l
      have h2 := counted_len (flex := flex) (nb := nullF f v t) (size := 4) h1 (by omega)
      have h3 := flatMap_wt (valueW (fun sub t => partW (fieldB d v flex) (usualB d) sub v flex t) f.of f.sub false flex) (cV (fun sub => maxAll (cFd d) sub + 30) f.of f.sub) (if nullF f v t = true then [] else t.l.take most) fun x hx => by
        have hx' : x ∈ t.l := by
          split at hx
          · simp at hx
          · exact List.mem_of_mem_take hx
        exact valueW_wt (cp := fun sub => maxAll (cFd d) sub + 30) (hp x (hk.l x hx')) f.of false flex
      have h4 : wtL (if nullF f v t = true then [] else t.l.take most) ≤ wtT t := by
        split
        · simp [wtL]
        · have := wtL_take t.l most
          omega
      have h5 := Nat.mul_le_mul_left (cV (fun sub => maxAll (cFd d) sub + 30) f.of f.sub) h4
      omega
    · simp only [h11, if_false]
      by_cases h10 : f.kind = 10 ∧ 0 ≤ f.nul
      · rw [if_pos h10]
        have hv : cV (fun sub => maxAll (cFd d) sub + 30) f.kind f.sub = maxAll (cFd d) f.sub + 30 := by unfold cV; rw [if_pos h10.1]
        rw [hv]
        split
        · rw [fixed_length]; omega
        · have := hp t hk
          rw [List.length_append, fixed_length]
          omega
      · rw [if_neg h10]
        have := valueW_wt (pw := fun sub t => partW (fieldB d v flex) (usualB d) sub v flex t) (cp := fun sub => maxAll (cFd d) sub + 30) (hp t hk) f.kind (nullF f v t) flex
        omega
theorem partB_wt (d : Nat) (v : Int) (flex : Bool) (fs : List Fd) (t : T) (h : ∀ f, f ∈ fs → ntF d f = true) (hk : KeyT t) : (partB d v flex fs t).length ≤ cP d fs * wtT t := by
  have hst : ∀ g, g ∈ fs → g.tag = -1 := by
    intro g hg
    have := h g hg
    match d, this with
    | 0, h => simp [ntF] at h
    | d + 1, h => have h : g.tag = -1 ∧ ∀ x, x ∈ g.sub → ntF d x = true := by simpa [ntF] using h
                  exact h.1
  unfold partB cP
  rw [partW_nt hst, List.length_append, Nat.add_mul]
  have h1 := plainW_wt (fw := fieldB d v flex) (cf := cFd d) (v := v) (t := t) fs 0 fun j g hg => Nat.le_trans (fieldB_wt d v flex g _ (h g hg) (hk.at j)) (Nat.mul_le_mul_left _ (wt_at t j))
  have h2 := tags_wt (flex := flex) (fs := fs) hk.u
  have h3 := wtT_eq t
  omega
end Go.Proofs.YtepamajphjgigaaGreatDoor.K
