/-
  DERIVED. GIVEN WITH THE SEED: THE CARDS: each row of YtjepglidlblmlaaDoorRows.lean that lists a variable, with what it lists TIED to the program's text (the seventh form; the later family's looks); each row that meets fmt, with fmt's text TOLD by the authors' own Lean function (tested against real Go, not proved from fmt's source: count such statements apart). THE CARD IS WHAT COUNTS. Prove the row's statement (the work); the ties are given (YtjepglidlblmlaaDoorTie.lean); close each card by the builder's one call (the guide's Derived/Test/ToyasCard.lean, 'card_holds'). Laid BY PROGRAM, IN A SANDBOX (cutbox-door.mjs). By AI agents, Wed Nov 11 2026. No macro, syntax, notation, axiom, sorry.
-/
import Derived.Test.YtjepglidlblmlaaDoorRows
import GoSem.ClaimSeven
namespace Go.Proofs.YtjepglidlblmlaaDoor
namespace Rows

/-- THE TIED CARD OF 'laws.FnUnsafeLeaderAndISRRequest'. -/
def fnUnsafeLeaderAndISRRequestCard : Claim7 := { stood := { row := fnUnsafeLeaderAndISRRequestRow, standIns := [], harness := (true, "9e363ca09d3f6e26b414160c61aad4547a78bb52ca920e84c4bc61158bce76dc"), looks := false }, kinds := [], alts := [], laidByText := true, laidKinds := [.sentinel], laidTests := true, laidLooks := .later }
def FnUnsafeLeaderAndISRRequestCardSaid : Prop := Claim7.holds Tryd.pinned (.plain (OpenSpec.ofChange fnUnsafeLeaderAndISRRequestSpec)) fnUnsafeLeaderAndISRRequestCard

/-- THE SECOND FORM's CARD OF 'laws.FnUnsafeLeaderAndISRRequest'. -/
def fnUnsafeLeaderAndISRRequestUptoCard : Claim7 := { stood := { row := fnUnsafeLeaderAndISRRequestUptoRow, standIns := [], harness := (true, "9e363ca09d3f6e26b414160c61aad4547a78bb52ca920e84c4bc61158bce76dc"), looks := false }, kinds := [], alts := [], laidByText := true, laidKinds := [.sentinel], laidTests := true, laidLooks := .later }
def FnUnsafeLeaderAndISRRequestUptoCardSaid : Prop := Claim7.holds Tryd.pinned (.plain (OpenSpec.upto fnUnsafeLeaderAndISRRequestSpec)) fnUnsafeLeaderAndISRRequestUptoCard
end Rows
end Go.Proofs.YtjepglidlblmlaaDoor
