/-
  DERIVED. GIVEN WITH THE SEED: THE CARDS: each row of YtnoknmaoophaoaaGreatDoorRows.lean that lists a variable, with what it lists TIED to the program's text (the seventh form; the later family's looks); each row that meets fmt, with fmt's text TOLD by the authors' own Lean function (tested against real Go, not proved from fmt's source: count such statements apart). THE CARD IS WHAT COUNTS. Prove the row's statement (the work); the ties are given (YtnoknmaoophaoaaGreatDoorTie.lean); close each card by the builder's one call (the guide's Derived/Test/ToyasCard.lean, 'card_holds'). Laid BY PROGRAM, IN A SANDBOX (cutbox-door.mjs). By AI agents, Wed Nov 11 2026. No macro, syntax, notation, axiom, sorry.
-/
import Derived.Test.YtnoknmaoophaoaaGreatDoorRows
import GoSem.ClaimSeven
namespace Go.Proofs.YtnoknmaoophaoaaGreatDoor
namespace Rows

/-- THE TIED CARD OF 'laws.FnFrameGetTelemetrySubscriptionsRequest'. -/
def fnFrameGetTelemetrySubscriptionsRequestCard : Claim7 := { stood := { row := fnFrameGetTelemetrySubscriptionsRequestRow, standIns := [], harness := (true, "5bde620ebfecea94ba4f08fb635324cf05c43a0665d9c94ed0c0ec41ecb754a7"), looks := false }, kinds := [], alts := [], laidByText := true, laidKinds := [.sentinel], laidTests := true, laidLooks := .later }
def FnFrameGetTelemetrySubscriptionsRequestCardSaid : Prop := Claim7.holds Tryz.pinned (.plain (OpenSpec.ofChange fnFrameGetTelemetrySubscriptionsRequestSpec)) fnFrameGetTelemetrySubscriptionsRequestCard

/-- THE SECOND FORM's CARD OF 'laws.FnFrameGetTelemetrySubscriptionsRequest'. -/
def fnFrameGetTelemetrySubscriptionsRequestUptoCard : Claim7 := { stood := { row := fnFrameGetTelemetrySubscriptionsRequestUptoRow, standIns := [], harness := (true, "5bde620ebfecea94ba4f08fb635324cf05c43a0665d9c94ed0c0ec41ecb754a7"), looks := false }, kinds := [], alts := [], laidByText := true, laidKinds := [.sentinel], laidTests := true, laidLooks := .later }
def FnFrameGetTelemetrySubscriptionsRequestUptoCardSaid : Prop := Claim7.holds Tryz.pinned (.plain (OpenSpec.upto fnFrameGetTelemetrySubscriptionsRequestSpec)) fnFrameGetTelemetrySubscriptionsRequestUptoCard
end Rows
end Go.Proofs.YtnoknmaoophaoaaGreatDoor
