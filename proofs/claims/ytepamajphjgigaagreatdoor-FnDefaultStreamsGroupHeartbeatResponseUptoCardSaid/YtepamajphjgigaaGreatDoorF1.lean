
/- What was read, field by field, as the appenders take it. What the texts of reading and writing behind octets import. -/
import Derived.Test.YtepamajphjgigaaGreatDoorE5
import Derived.Test.YtepamajphjgigaaGreatDoorC3
import Derived.Test.YtepamajphjgigaaGreatDoorQ2
import Derived.Test.YtepamajphjgigaaGreatDoorP1
/-! What was read, field by field, as the appenders take it. -/
set_option linter.unusedVariables false
set_option linter.unusedSimpArgs false
namespace Go.Proofs.YtepamajphjgigaaGreatDoor.K
open Go
set_option maxHeartbeats 800000

section
variable {tg : Bool} {d : Nat} {wf : WR} {fr to nul tag df of : Int} {sub : List Fd} {cs : List Value} {x : T}
theorem iP {fs : List Fd} {t : T} (h : QPart true d fs wf cs t) : ∃ c1 l u m, cs = c1 ++ [m] ∧ t = .mk 0 [] false l u ∧ QAll (QField true d) wf fs c1 l ∧ TagsR wf.w wf.F m u := by
  obtain ⟨c1, l, u, c2, rfl, rfl, h1, m, rfl, h2⟩ := h
  exact ⟨c1, l, u, m, rfl, rfl, h1, h2⟩
theorem iA {QF : Fd → WR → List Value → T → Prop} {f : Fd} {r : List Fd} {l : List T} (h : QAll QF wf (f :: r) cs l) : ∃ c1 c2 x l2, cs = c1 ++ c2 ∧ l = x :: l2 ∧ QF f wf c1 x ∧ QAll QF wf r c2 l2 := h
theorem iF8 (hn : nul < 0) (h : QField tg (d + 1) (.mk 8 fr to nul tag df of sub) wf cs x) : ∃ u, cs = [str u] ∧ x = .mk 0 u false [] [] := by
  replace h : QV (fun sub wf cs x => QPartW (QField tg d) tg sub wf cs x) 8 sub (decide (0 ≤ nul)) wf cs x := h
  rw [decide_eq_false (by omega)] at h
  exact h
end
end Go.Proofs.YtepamajphjgigaaGreatDoor.K
/-! What the texts of reading and writing behind octets import. -/
set_option linter.unusedVariables false
namespace Go.Proofs.YtepamajphjgigaaGreatDoor.K
open Go
end Go.Proofs.YtepamajphjgigaaGreatDoor.K
