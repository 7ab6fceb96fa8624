/- What fits of a field that is no list. -/
import Derived.Test.YtlnhbbpmlfaakaaGreatDoorRG9
set_option linter.unusedVariables false
set_option linter.unusedSimpArgs false
namespace Go.Proofs.YtlnhbbpmlfaakaaGreatDoorR.K
open Go
set_option maxHeartbeats 800000

/-- Where what is made of data in G lies: in G, or in new blocks. -/
abbrev plus (G : Nat → Prop) (w : World) : Nat → Prop := fun k => G k ∨ w.heap.size ≤ k
end Go.Proofs.YtlnhbbpmlfaakaaGreatDoorR.K
