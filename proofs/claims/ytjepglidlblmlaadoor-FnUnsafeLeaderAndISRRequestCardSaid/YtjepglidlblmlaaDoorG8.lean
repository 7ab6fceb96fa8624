
/- Fields. -/
import Derived.Test.YtjepglidlblmlaaDoorG7
set_option linter.unusedVariables false
set_option linter.unusedSimpArgs false
namespace Go.Proofs.YtjepglidlblmlaaDoor.K
open Go
set_option maxHeartbeats 800000

theorem fieldB_struct (d : Nat) (v : Int) (flex : Bool) (f : Fd) (t : T) (h1 : ¬ f.kind = 11) (h2 : f.kind = 10 ∧ 0 ≤ f.nul) : fieldB (d + 1) v flex f t = if nullF f v t = true then fixed (-1) 1 else fixed 1 1 ++ partB d v flex f.sub t := by
  rw [fieldB, fieldW, if_neg h1, if_pos h2]
  rfl
theorem fieldB_value (d : Nat) (v : Int) (flex : Bool) (f : Fd) (t : T) (h1 : ¬ f.kind = 11) (h2 : ¬ (f.kind = 10 ∧ 0 ≤ f.nul)) : fieldB (d + 1) v flex f t = valueW (fun sub t => partB d v flex sub t) f.kind f.sub (nullF f v t) flex t := by
  rw [fieldB, fieldW, if_neg h1, if_neg h2]
  rfl
end Go.Proofs.YtjepglidlblmlaaDoor.K
