/- Trees are small; trees are handed to the program. -/
import Derived.Test.YtlnhbbpmlfaakaaGreatDoorRG12
set_option linter.unusedVariables false
set_option linter.unusedSimpArgs false
namespace Go.Proofs.YtlnhbbpmlfaakaaGreatDoorR.K
open Go
set_option maxHeartbeats 1600000

/-- Lists and tags of a tree are short. -/
inductive Small : T → Prop
  | mk (n : Int) (s : List UInt8) (nl : Bool) (l : List T) (u : List Tg) (hl : l.length ≤ 1000000) (hu : u.length ≤ 1000000) (h : ∀ x, x ∈ l → Small x) : Small (.mk n s nl l u)
theorem Small.zero : Small T.zero := .mk 0 [] false [] [] (by simp) (by simp) (by simp)
theorem fit1_small (pf : List Fd → T → T) (hp : ∀ sub t, sub.length ≤ 1000 → Small (pf sub t)) (kind : Int) (sub : List Fd) (hs : sub.length ≤ 1000) (nb : Bool) (t : T) : kind = 8 ∨ kind = 9 ∨ kind = 10 ∨ Small (.mk t.n t.s false [] []) → Small (fit1 pf kind sub nb t) := by
  intro _
  unfold fit1
  split
  · exact .mk _ _ _ _ _ (by simp) (by simp) (by simp)
  · split
    · have h := hp sub t hs
      generalize pf sub t = o at h
      cases h with
      | mk n s nl l u hl hu h => exact .mk _ _ _ _ _ hl hu h
    · exact .mk _ _ _ _ _ (by simp) (by simp) (by simp)
theorem fitAll_mem (fi : Fd → T → T) (t : T) : ∀ (fs : List Fd) (i : Nat) (x : T), x ∈ fitAll fi t i fs → ∃ f y, f ∈ fs ∧ x = fi f y
  | [], i, x, h => by simp [fitAll] at h
  | f :: r, i, x, h => by
    simp only [fitAll, List.mem_cons] at h
    rcases h with h | h
    · exact ⟨f, _, by simp, h⟩
    · obtain ⟨g, y, h1, h2⟩ := fitAll_mem fi t r (i + 1) x h
      exact ⟨g, y, by simp [h1], h2⟩
theorem fitAll_length (fi : Fd → T → T) (t : T) : ∀ (fs : List Fd) (i : Nat), (fitAll fi t i fs).length = fs.length
  | [], i => rfl
  | f :: r, i => by simp [fitAll, fitAll_length fi t r]
theorem unknownT_length (fs : List Fd) (u : List Tg) : (unknownT fs u).length ≤ 32767 := by
  have h1 := unkT_length (knownN fs 0) (u.take most) []
  have h2 := take_most_length u
  simp only [List.length_nil] at h1
  have : unknownT fs u = unkT (knownN fs 0) [] (u.take most) := rfl
  rw [this]
  omega
theorem small_leaf (n : Int) (s : List UInt8) (b : Bool) : Small (.mk n s b [] []) := .mk _ _ _ _ _ (by simp) (by simp) (by simp)
theorem fitW_small (fi : Fd → T → T) (fs : List Fd) (hfs : fs.length ≤ 1000) (h : ∀ f t, f ∈ fs → Small (fi f t)) (t : T) : Small (fitW fi fs t) := by
  have hu := unknownT_length fs t.u
  refine .mk _ _ _ _ _ (by rw [fitAll_length]; omega) (by rw [List.length_map]; omega) fun x hx => ?_
  obtain ⟨f, y, hf, rfl⟩ := fitAll_mem fi t fs 0 x hx
  exact h f y hf
theorem fit1_small' (pf : List Fd → T → T) (kind : Int) (sub : List Fd) (hp : ∀ t, Small (pf sub t)) (nb : Bool) (t : T) : Small (fit1 pf kind sub nb t) := by
  unfold fit1
  split
  · exact small_leaf _ _ _
  · split
    · have h := hp t
      generalize pf sub t = o at h
      cases h with
      | mk n s nl l u hl hu h => exact .mk _ _ _ _ _ hl hu h
    · exact small_leaf _ _ _
theorem fitted_small : ∀ (d : Nat) (f : Fd) (v : Int) (t : T), okF d f = true → Small (fittedB d v f t)
  | 0, f, v, t, h => by simp [okF] at h
  | d + 1, .mk kind fr to nul tag df of sub, v, t, h => by
    obtain ⟨ht1, hk, ho1, hsl, hsub⟩ := okF_parts h
    have hp : ∀ t, Small (fitW (fittedB d v) sub t) := fun t => fitW_small _ _ hsl (fun f t hf => fitted_small d f v t (hsub f hf)) t
    unfold fittedB fitF
    split
    · have := take_most_length t.l
      refine .mk _ _ _ _ _ (by rw [List.length_map]; omega) (by simp) fun x hx => ?_
      obtain ⟨y, _, rfl⟩ := List.mem_map.1 hx
      exact fit1_small' _ _ _ hp _ _
    · exact fit1_small' _ _ _ hp _ _
theorem fit_small (d : Nat) (fs : List Fd) (hfs : fs.length ≤ 1000) (v : Int) (hok : ∀ f, f ∈ fs → okF d f = true) (t : T) : Small (fitB d v fs t) :=
  fitW_small _ _ hfs (fun f t hf => fitted_small d f v t (hok f hf)) t
end Go.Proofs.YtlnhbbpmlfaakaaGreatDoorR.K
