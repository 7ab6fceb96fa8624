
/- Parts. -/
import Derived.Test.YtjepglidlblmlaaDoorG8
set_option linter.unusedVariables false
set_option linter.unusedSimpArgs false
namespace Go.Proofs.YtjepglidlblmlaaDoor.K
open Go
set_option maxHeartbeats 1600000

theorem OB.shape {w : World} {B : Nat} {v : Value} {l : List UInt8} (h : OB w B v l) : ∃ a c, v = .slice a l.length c ∧ l.length ≤ c ∧ c ≤ maxLen := by
  obtain ⟨a, c, h1, h2, h3, _⟩ := h.bytesAny.view
  exact ⟨a, c, h1, h2, h3⟩
theorem flatMap_len : ∀ (l : List Tg), l.length ≤ (l.flatMap tagB).length
  | [] => by simp
  | x :: r => by
    have := flatMap_len r
    have h1 : 1 ≤ (tagB x).length := by
      unfold tagB uvar
      split <;> simp <;> omega
    simp only [List.flatMap_cons, List.length_cons, List.length_append]
    omega
end Go.Proofs.YtjepglidlblmlaaDoor.K
