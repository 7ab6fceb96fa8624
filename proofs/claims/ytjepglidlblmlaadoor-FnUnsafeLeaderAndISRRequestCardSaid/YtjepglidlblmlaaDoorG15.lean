
/- What fits of a field that is no list. What fits of a list. What fits of a part. Trees are small; trees are handed to the program. Trees are handed on. Messages written; sizes; versions; what a number's field says. -/
import Derived.Test.YtjepglidlblmlaaDoorG9
/-! What fits of a field that is no list. -/
set_option linter.unusedVariables false
set_option linter.unusedSimpArgs false
namespace Go.Proofs.YtjepglidlblmlaaDoor.K
open Go
set_option maxHeartbeats 800000

/-- Where what is made of data in G lies: in G, or in new blocks. -/
abbrev plus (G : Nat → Prop) (w : World) : Nat → Prop := fun k => G k ∨ w.heap.size ≤ k
end Go.Proofs.YtjepglidlblmlaaDoor.K
/-! What fits of a list. -/
set_option linter.unusedVariables false
set_option linter.unusedSimpArgs false
namespace Go.Proofs.YtjepglidlblmlaaDoor.K
open Go
set_option maxHeartbeats 800000

abbrev TreeT : TypeId := 35
/-- Trees in cells. -/
structure Els (w : World) (F : Nat → Prop) (cs : List (List Value)) (ts : List T) : Prop where
  len : cs.length = ts.length
  at' : ∀ (i : Nat) (c : List Value) (t : T), cs[i]? = some c → ts[i]? = some t → TrC w F c t
theorem Els.nil (w : World) (F : Nat → Prop) : Els w F [] [] := ⟨rfl, by simp⟩
theorem Els.ext {M F : Nat → Prop} {w w' : World} {cs : List (List Value)} {ts : List T} (h : Els w F cs ts) (x : Ext M w w') (hF : ∀ k, k < w.heap.size → F k → ¬ M k) : Els w' F cs ts := ⟨h.len, fun i c t h1 h2 => (h.at' i c t h1 h2).ext x hF⟩
theorem Els.e0 {F : Nat → Prop} {w w' : World} {cs : List (List Value)} {ts : List T} (h : Els w F cs ts) (x : Ext nob w w') : Els w' F cs ts := h.ext x fun _ _ _ f => f
theorem Els.mono {F F' : Nat → Prop} {w : World} {cs : List (List Value)} {ts : List T} (h : Els w F cs ts) (hF : ∀ k, k < w.heap.size → F k → F' k) : Els w F' cs ts := ⟨h.len, fun i c t h1 h2 => (h.at' i c t h1 h2).mono hF⟩
theorem Els.snoc {F : Nat → Prop} {w : World} {cs : List (List Value)} {ts : List T} {c : List Value} {t : T} (h : Els w F cs ts) (hc : TrC w F c t) : Els w F (cs ++ [c]) (ts ++ [t]) := by
  refine ⟨by simp [h.len], fun i c' t' h1 h2 => ?_⟩
  rcases Nat.lt_or_ge i cs.length with hi | hi
  · rw [List.getElem?_append_left hi] at h1
    rw [List.getElem?_append_left (by rw [← h.len]; exact hi)] at h2
    exact h.at' i c' t' h1 h2
  · rw [List.getElem?_append_right hi] at h1
    rw [List.getElem?_append_right (by rw [← h.len]; exact hi), ← h.len] at h2
    obtain ⟨j, hj⟩ : ∃ j, i - cs.length = j := ⟨_, rfl⟩
    rw [hj] at h1 h2
    cases j with
    | zero =>
      simp only [List.getElem?_cons_zero, Option.some.injEq] at h1 h2
      rw [← h1, ← h2]
      exact hc
    | succ j => simp at h1
theorem OSl.one {w : World} {B : Nat} {e : TypeId} {sz : Nat} {v : Value} {ls : List (List Value)} (h : OSl w B e sz v ls) : v.oneCell' = true := (h.sl (F := anyB) fun _ _ => trivial).1.one
theorem OSl.shape {w : World} {B : Nat} {e : TypeId} {sz : Nat} {v : Value} {ls : List (List Value)} (h : OSl w B e sz v ls) : ∃ a c, v = .slice a ls.length c ∧ ls.length ≤ c ∧ c ≤ maxLen := by
  obtain ⟨a, c, h1, h2, h3, _⟩ := (h.sl (F := anyB) fun _ _ => trivial).view
  exact ⟨a, c, h1, h2, h3⟩
theorem nullF_neg (kind fr to tag df of : Int) (sub : List Fd) (v : Int) (t : T) : nullF (.mk kind fr to (-1) tag df of sub) v t = false := by
  cases h : t.nl <;> simp [nullF, Fd.nul]
theorem src_tree {w : World} {b : Nat} {Ty : TypeId} {m : List Value} {n c : Nat} (h : Own w b Ty m) (hm : m.length = 5) (hn : n = 1) : Src w 5 (.slice (some ⟨b, 0, none⟩) n c) [m].length [m].flatten := src_one h hm hn
end Go.Proofs.YtjepglidlblmlaaDoor.K
/-! What fits of a part. -/
set_option linter.unusedVariables false
set_option linter.unusedSimpArgs false
namespace Go.Proofs.YtjepglidlblmlaaDoor.K
open Go
set_option maxHeartbeats 1600000

end Go.Proofs.YtjepglidlblmlaaDoor.K
/-! Trees are small; trees are handed to the program. -/
set_option linter.unusedVariables false
set_option linter.unusedSimpArgs false
namespace Go.Proofs.YtjepglidlblmlaaDoor.K
open Go
set_option maxHeartbeats 1600000

/-- Lists and tags of a tree are short. -/
inductive Small : T → Prop
  | mk (n : Int) (s : List UInt8) (nl : Bool) (l : List T) (u : List Tg) (hl : l.length ≤ 1000000) (hu : u.length ≤ 1000000) (h : ∀ x, x ∈ l → Small x) : Small (.mk n s nl l u)
theorem Small.zero : Small T.zero := .mk 0 [] false [] [] (by simp) (by simp) (by simp)
theorem fit1_small (pf : List Fd → T → T) (hp : ∀ sub t, sub.length ≤ 1000 → Small (pf sub t)) (kind : Int) (sub : List Fd) (hs : sub.length ≤ 1000) (nb : Bool) (t : T) : kind = 8 ∨ kind = 9 ∨ kind = 10 ∨ Small (.mk t.n t.s false [] []) → Small (fit1 pf kind sub nb t) := by
  intro _
  unfold fit1
  split
  · exact .mk _ _ _ _ _ (by simp) (by simp) (by simp)
  · split
    · have h := hp sub t hs
      generalize pf sub t = o at h
      cases h with
      | mk n s nl l u hl hu h => exact .mk _ _ _ _ _ hl hu h
    · exact .mk _ _ _ _ _ (by simp) (by simp) (by simp)
theorem fitAll_mem (fi : Fd → T → T) (t : T) : ∀ (fs : List Fd) (i : Nat) (x : T), x ∈ fitAll fi t i fs → ∃ f y, f ∈ fs ∧ x = fi f y
  | [], i, x, h => by simp [fitAll] at h
  | f :: r, i, x, h => by
    simp only [fitAll, List.mem_cons] at h
    rcases h with h | h
    · exact ⟨f, _, by simp, h⟩
    · obtain ⟨g, y, h1, h2⟩ := fitAll_mem fi t r (i + 1) x h
      exact ⟨g, y, by simp [h1], h2⟩
theorem fitAll_length (fi : Fd → T → T) (t : T) : ∀ (fs : List Fd) (i : Nat), (fitAll fi t i fs).length = fs.length
  | [], i => rfl
  | f :: r, i => by simp [fitAll, fitAll_length fi t r]
theorem unknownT_length (fs : List Fd) (u : List Tg) : (unknownT fs u).length ≤ 32767 := by
  have h1 := unkT_length (knownN fs 0) (u.take most) []
  have h2 := take_most_length u
  simp only [List.length_nil] at h1
  have : unknownT fs u = unkT (knownN fs 0) [] (u.take most) := rfl
  rw [this]
  omega
theorem small_leaf (n : Int) (s : List UInt8) (b : Bool) : Small (.mk n s b [] []) := .mk _ _ _ _ _ (by simp) (by simp) (by simp)
theorem fitW_small (fi : Fd → T → T) (fs : List Fd) (hfs : fs.length ≤ 1000) (h : ∀ f t, f ∈ fs → Small (fi f t)) (t : T) : Small (fitW fi fs t) := by
  have hu := unknownT_length fs t.u
  refine .mk _ _ _ _ _ (by rw [fitAll_length]; omega) (by rw [List.length_map]; omega) fun x hx => ?_
  obtain ⟨f, y, hf, rfl⟩ := fitAll_mem fi t fs 0 x hx
  exact h f y hf
theorem fit1_small' (pf : List Fd → T → T) (kind : Int) (sub : List Fd) (hp : ∀ t, Small (pf sub t)) (nb : Bool) (t : T) : Small (fit1 pf kind sub nb t) := by
  unfold fit1
  split
  · exact small_leaf _ _ _
  · split
    · have h := hp t
      generalize pf sub t = o at h
      cases h with
      | mk n s nl l u hl hu h => exact .mk _ _ _ _ _ hl hu h
    · exact small_leaf _ _ _
theorem fitted_small : ∀ (d : Nat) (f : Fd) (v : Int) (t : T), okF d f = true → Small (fittedB d v f t)
  | 0, f, v, t, h => by simp [okF] at h
  | d + 1, .mk kind fr to nul tag df of sub, v, t, h => by
    obtain ⟨ht1, hk, ho1, hsl, hsub⟩ := okF_parts h
    have hp : ∀ t, Small (fitW (fittedB d v) sub t) := fun t => fitW_small _ _ hsl (fun f t hf => fitted_small d f v t (hsub f hf)) t
    unfold fittedB fitF
    split
    · have := take_most_length t.l
      refine .mk _ _ _ _ _ (by rw [List.length_map]; omega) (by simp) fun x hx => ?_
      obtain ⟨y, _, rfl⟩ := List.mem_map.1 hx
      exact fit1_small' _ _ _ hp _ _
    · exact fit1_small' _ _ _ hp _ _
theorem fit_small (d : Nat) (fs : List Fd) (hfs : fs.length ≤ 1000) (v : Int) (hok : ∀ f, f ∈ fs → okF d f = true) (t : T) : Small (fitB d v fs t) :=
  fitW_small _ _ hfs (fun f t hf => fitted_small d f v t (hok f hf)) t
end Go.Proofs.YtjepglidlblmlaaDoor.K
/-! Trees are handed on. -/
set_option linter.unusedVariables false
set_option linter.unusedSimpArgs false
namespace Go.Proofs.YtjepglidlblmlaaDoor.K
open Go
set_option maxHeartbeats 1600000

abbrev ImplTreeT : TypeId := 27
end Go.Proofs.YtjepglidlblmlaaDoor.K
/-! Messages written; sizes; versions; what a number's field says. -/
set_option linter.unusedVariables false
set_option linter.unusedSimpArgs false
namespace Go.Proofs.YtjepglidlblmlaaDoor.K
open Go
set_option maxHeartbeats 1600000

def flexB (fl v : Int) : Bool := decide (0 ≤ fl) && decide (fl ≤ v)
/-- A message's two cells. -/
def Msg (w : World) (F : Nat → Prop) (x : Value) (fs : List Fd) (fl : Int) : Prop := ∃ fv, x = .agg #[fv, .int .i64 fl] ∧ FdsR w F fv fs
theorem Msg.e0 {F : Nat → Prop} {w w' : World} {x : Value} {fs : List Fd} {fl : Int} (h : Msg w F x fs fl) (hx : Ext nob w w') : Msg w' F x fs fl := by
  obtain ⟨fv, h1, h2⟩ := h
  exact ⟨fv, h1, h2.e0 hx⟩
end Go.Proofs.YtjepglidlblmlaaDoor.K
