
/- Messages written; sizes; versions; what a number's field says. -/
import Derived.Test.YtabhhkdgfdjicaaDoorG14
set_option linter.unusedVariables false
set_option linter.unusedSimpArgs false
namespace Go.Proofs.YtabhhkdgfdjicaaDoor.K
open Go
set_option maxHeartbeats 1600000

def flexB (fl v : Int) : Bool := decide (0 ≤ fl) && decide (fl ≤ v)
/-- A message's two cells. -/
def Msg (w : World) (F : Nat → Prop) (x : Value) (fs : List Fd) (fl : Int) : Prop := ∃ fv, x = .agg #[fv, .int .i64 fl] ∧ FdsR w F fv fs
theorem Msg.e0 {F : Nat → Prop} {w w' : World} {x : Value} {fs : List Fd} {fl : Int} (h : Msg w F x fs fl) (hx : Ext nob w w') : Msg w' F x fs fl := by
  obtain ⟨fv, h1, h2⟩ := h
  exact ⟨fv, h1, h2.e0 hx⟩
end Go.Proofs.YtabhhkdgfdjicaaDoor.K
