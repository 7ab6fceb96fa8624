/-
  DERIVED. GIVEN WITH THE SEED: THE CARDS: each row of YtibbkhcdplijdaaGreatDoorRows.lean that lists a variable, with what it lists TIED to the program's text (the seventh form; the later family's looks); each row that meets fmt, with fmt's text TOLD by the authors' own Lean function (tested against real Go, not proved from fmt's source: count such statements apart). THE CARD IS WHAT COUNTS. Prove the row's statement (the work); the ties are given (YtibbkhcdplijdaaGreatDoorTie.lean); close each card by the builder's one call (the guide's Derived/Test/ToyasCard.lean, 'card_holds'). Laid BY PROGRAM, IN A SANDBOX (cutbox-door.mjs). By AI agents, Wed Nov 11 2026. No macro, syntax, notation, axiom, sorry.
-/
import Derived.Test.YtibbkhcdplijdaaGreatDoorRows
import GoSem.ClaimSeven
namespace Go.Proofs.YtibbkhcdplijdaaGreatDoor
namespace Rows

/-- THE TIED CARD OF 'laws.FnFrameAlterClientQuotasRequest'. -/
def fnFrameAlterClientQuotasRequestCard : Claim7 := { stood := { row := fnFrameAlterClientQuotasRequestRow, standIns := [], harness := (true, "d85178163340d463016426c91057aa39f13b1820383f2c845d96dfe8d2f998d8"), looks := false }, kinds := [], alts := [], laidByText := true, laidKinds := [.sentinel], laidTests := true, laidLooks := .later }
def FnFrameAlterClientQuotasRequestCardSaid : Prop := Claim7.holds Tryz.pinned (.plain (OpenSpec.ofChange fnFrameAlterClientQuotasRequestSpec)) fnFrameAlterClientQuotasRequestCard

/-- THE SECOND FORM's CARD OF 'laws.FnFrameAlterClientQuotasRequest'. -/
def fnFrameAlterClientQuotasRequestUptoCard : Claim7 := { stood := { row := fnFrameAlterClientQuotasRequestUptoRow, standIns := [], harness := (true, "d85178163340d463016426c91057aa39f13b1820383f2c845d96dfe8d2f998d8"), looks := false }, kinds := [], alts := [], laidByText := true, laidKinds := [.sentinel], laidTests := true, laidLooks := .later }
def FnFrameAlterClientQuotasRequestUptoCardSaid : Prop := Claim7.holds Tryz.pinned (.plain (OpenSpec.upto fnFrameAlterClientQuotasRequestSpec)) fnFrameAlterClientQuotasRequestUptoCard
end Rows
end Go.Proofs.YtibbkhcdplijdaaGreatDoor
