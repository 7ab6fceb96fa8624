/-
  DERIVED. GIVEN WITH THE SEED: THE CARDS: each row of YtefgfdbckbkfiaaDoorRows.lean that lists a variable, with what it lists TIED to the program's text (the seventh form; the later family's looks); each row that meets fmt, with fmt's text TOLD by the authors' own Lean function (tested against real Go, not proved from fmt's source: count such statements apart). THE CARD IS WHAT COUNTS. Prove the row's statement (the work); the ties are given (YtefgfdbckbkfiaaDoorTie.lean); close each card by the builder's one call (the guide's Derived/Test/ToyasCard.lean, 'card_holds'). Laid BY PROGRAM, IN A SANDBOX (cutbox-door.mjs). By AI agents, Wed Nov 11 2026. No macro, syntax, notation, axiom, sorry.
-/
import Derived.Test.YtefgfdbckbkfiaaDoorRows
import GoSem.ClaimSeven
namespace Go.Proofs.YtefgfdbckbkfiaaDoor
namespace Rows

/-- THE TIED CARD OF 'laws.FnUnsafeConsumerMemberAssignment'. -/
def fnUnsafeConsumerMemberAssignmentCard : Claim7 := { stood := { row := fnUnsafeConsumerMemberAssignmentRow, standIns := [], harness := (true, "85eb4be8d2d7b73062a37448171e265874e500232f46013510167d4832c28fc4"), looks := false }, kinds := [], alts := [], laidByText := true, laidKinds := [.sentinel], laidTests := true, laidLooks := .later }
def FnUnsafeConsumerMemberAssignmentCardSaid : Prop := Claim7.holds Tryd.pinned (.plain (OpenSpec.ofChange fnUnsafeConsumerMemberAssignmentSpec)) fnUnsafeConsumerMemberAssignmentCard

/-- THE SECOND FORM's CARD OF 'laws.FnUnsafeConsumerMemberAssignment'. -/
def fnUnsafeConsumerMemberAssignmentUptoCard : Claim7 := { stood := { row := fnUnsafeConsumerMemberAssignmentUptoRow, standIns := [], harness := (true, "85eb4be8d2d7b73062a37448171e265874e500232f46013510167d4832c28fc4"), looks := false }, kinds := [], alts := [], laidByText := true, laidKinds := [.sentinel], laidTests := true, laidLooks := .later }
def FnUnsafeConsumerMemberAssignmentUptoCardSaid : Prop := Claim7.holds Tryd.pinned (.plain (OpenSpec.upto fnUnsafeConsumerMemberAssignmentSpec)) fnUnsafeConsumerMemberAssignmentUptoCard
end Rows
end Go.Proofs.YtefgfdbckbkfiaaDoor
