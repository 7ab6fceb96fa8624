/-
  DERIVED. GIVEN WITH THE SEED: THE CARDS: each row of YtegijdjnjeneaaaDoorRows.lean that lists a variable, with what it lists TIED to the program's text (the seventh form; the later family's looks); each row that meets fmt, with fmt's text TOLD by the authors' own Lean function (tested against real Go, not proved from fmt's source: count such statements apart). THE CARD IS WHAT COUNTS. Prove the row's statement (the work); the ties are given (YtegijdjnjeneaaaDoorTie.lean); close each card by the builder's one call (the guide's Derived/Test/ToyasCard.lean, 'card_holds'). Laid BY PROGRAM, IN A SANDBOX (cutbox-door.mjs). By AI agents, Wed Nov 11 2026. No macro, syntax, notation, axiom, sorry.
-/
import Derived.Test.YtegijdjnjeneaaaDoorRows
import GoSem.ClaimSeven
namespace Go.Proofs.YtegijdjnjeneaaaDoor
namespace Rows

/-- THE TIED CARD OF 'laws.FnBehindPushTelemetryRequest'. -/
def fnBehindPushTelemetryRequestCard : Claim7 := { stood := { row := fnBehindPushTelemetryRequestRow, standIns := [], harness := (true, "e5dc40e5b2f9157e86fd9484864daf826b7af5a7ea9c595c68dc6090e72cd1f7"), looks := false }, kinds := [], alts := [], laidByText := true, laidKinds := [.sentinel], laidTests := true, laidLooks := .later }
def FnBehindPushTelemetryRequestCardSaid : Prop := Claim7.holds Tryd.pinned (.plain (OpenSpec.ofChange fnBehindPushTelemetryRequestSpec)) fnBehindPushTelemetryRequestCard

/-- THE SECOND FORM's CARD OF 'laws.FnBehindPushTelemetryRequest'. -/
def fnBehindPushTelemetryRequestUptoCard : Claim7 := { stood := { row := fnBehindPushTelemetryRequestUptoRow, standIns := [], harness := (true, "e5dc40e5b2f9157e86fd9484864daf826b7af5a7ea9c595c68dc6090e72cd1f7"), looks := false }, kinds := [], alts := [], laidByText := true, laidKinds := [.sentinel], laidTests := true, laidLooks := .later }
def FnBehindPushTelemetryRequestUptoCardSaid : Prop := Claim7.holds Tryd.pinned (.plain (OpenSpec.upto fnBehindPushTelemetryRequestSpec)) fnBehindPushTelemetryRequestUptoCard
end Rows
end Go.Proofs.YtegijdjnjeneaaaDoor
