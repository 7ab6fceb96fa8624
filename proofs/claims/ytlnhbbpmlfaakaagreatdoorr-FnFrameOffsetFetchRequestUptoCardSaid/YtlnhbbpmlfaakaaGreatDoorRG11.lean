/- What fits of a list. -/
import Derived.Test.YtlnhbbpmlfaakaaGreatDoorRG10
set_option linter.unusedVariables false
set_option linter.unusedSimpArgs false
namespace Go.Proofs.YtlnhbbpmlfaakaaGreatDoorR.K
open Go
set_option maxHeartbeats 800000

abbrev TreeT : TypeId := 28
/-- Trees in cells. -/
structure Els (w : World) (F : Nat → Prop) (cs : List (List Value)) (ts : List T) : Prop where
  len : cs.length = ts.length
  at' : ∀ (i : Nat) (c : List Value) (t : T), cs[i]? = some c → ts[i]? = some t → TrC w F c t
theorem Els.nil (w : World) (F : Nat → Prop) : Els w F [] [] := ⟨rfl, by simp⟩
theorem Els.ext {M F : Nat → Prop} {w w' : World} {cs : List (List Value)} {ts : List T} (h : Els w F cs ts) (x : Ext M w w') (hF : ∀ k, k < w.heap.size → F k → ¬ M k) : Els w' F cs ts := ⟨h.len, fun i c t h1 h2 => (h.at' i c t h1 h2).ext x hF⟩
theorem Els.e0 {F : Nat → Prop} {w w' : World} {cs : List (List Value)} {ts : List T} (h : Els w F cs ts) (x : Ext nob w w') : Els w' F cs ts := h.ext x fun _ _ _ f => f
theorem Els.mono {F F' : Nat → Prop} {w : World} {cs : List (List Value)} {ts : List T} (h : Els w F cs ts) (hF : ∀ k, k < w.heap.size → F k → F' k) : Els w F' cs ts := ⟨h.len, fun i c t h1 h2 => (h.at' i c t h1 h2).mono hF⟩
theorem Els.snoc {F : Nat → Prop} {w : World} {cs : List (List Value)} {ts : List T} {c : List Value} {t : T} (h : Els w F cs ts) (hc : TrC w F c t) : Els w F (cs ++ [c]) (ts ++ [t]) := by
  refine ⟨by simp [h.len], fun i c' t' h1 h2 => ?_⟩
  rcases Nat.lt_or_ge i cs.length with hi | hi
  · rw [List.getElem?_append_left hi] at h1
    rw [List.getElem?_append_left (by rw [← h.len]; exact hi)] at h2
    exact h.at' i c' t' h1 h2
  · rw [List.getElem?_append_right hi] at h1
    rw [List.getElem?_append_right (by rw [← h.len]; exact hi), ← h.len] at h2
    obtain ⟨j, hj⟩ : ∃ j, i - cs.length = j := ⟨_, rfl⟩
    rw [hj] at h1 h2
    cases j with
    | zero =>
      simp only [List.getElem?_cons_zero, Option.some.injEq] at h1 h2
      rw [← h1, ← h2]
      exact hc
    | succ j => simp at h1
theorem OSl.one {w : World} {B : Nat} {e : TypeId} {sz : Nat} {v : Value} {ls : List (List Value)} (h : OSl w B e sz v ls) : v.oneCell' = true := (h.sl (F := anyB) fun _ _ => trivial).1.one
theorem OSl.shape {w : World} {B : Nat} {e : TypeId} {sz : Nat} {v : Value} {ls : List (List Value)} (h : OSl w B e sz v ls) : ∃ a c, v = .slice a ls.length c ∧ ls.length ≤ c ∧ c ≤ maxLen := by
  obtain ⟨a, c, h1, h2, h3, _⟩ := (h.sl (F := anyB) fun _ _ => trivial).view
  exact ⟨a, c, h1, h2, h3⟩
theorem nullF_neg (kind fr to tag df of : Int) (sub : List Fd) (v : Int) (t : T) : nullF (.mk kind fr to (-1) tag df of sub) v t = false := by
  cases h : t.nl <;> simp [nullF, Fd.nul]
theorem src_tree {w : World} {b : Nat} {Ty : TypeId} {m : List Value} {n c : Nat} (h : Own w b Ty m) (hm : m.length = 5) (hn : n = 1) : Src w 5 (.slice (some ⟨b, 0, none⟩) n c) [m].length [m].flatten := src_one h hm hn
end Go.Proofs.YtlnhbbpmlfaakaaGreatDoorR.K
