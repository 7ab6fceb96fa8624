/-
  DERIVED. GIVEN WITH THE SEED: THE CARDS: each row of YtepamajphjgigaaGreatDoorRows.lean that lists a variable, with what it lists TIED to the program's text (the seventh form; the later family's looks); each row that meets fmt, with fmt's text TOLD by the authors' own Lean function (tested against real Go, not proved from fmt's source: count such statements apart). THE CARD IS WHAT COUNTS. Prove the row's statement (the work); the ties are given (YtepamajphjgigaaGreatDoorTie.lean); close each card by the builder's one call (the guide's Derived/Test/ToyasCard.lean, 'card_holds'). Laid BY PROGRAM, IN A SANDBOX (cutbox-door.mjs). By AI agents, Wed Nov 11 2026. No macro, syntax, notation, axiom, sorry.
-/
import Derived.Test.YtepamajphjgigaaGreatDoorRows
import GoSem.ClaimSeven
namespace Go.Proofs.YtepamajphjgigaaGreatDoor
namespace Rows

/-- THE TIED CARD OF 'laws.FnDefaultStreamsGroupHeartbeatResponse'. -/
def fnDefaultStreamsGroupHeartbeatResponseCard : Claim7 := { stood := { row := fnDefaultStreamsGroupHeartbeatResponseRow, standIns := [], harness := (true, "25e3880eaeeafd82537543f0f018e4a06047d25b9e3105fd5779ae730db6d523"), looks := false }, kinds := [], alts := [], laidByText := true, laidKinds := [.sentinel], laidTests := true, laidLooks := .later }
def FnDefaultStreamsGroupHeartbeatResponseCardSaid : Prop := Claim7.holds Tryz.pinned (.plain (OpenSpec.ofChange fnDefaultStreamsGroupHeartbeatResponseSpec)) fnDefaultStreamsGroupHeartbeatResponseCard

/-- THE SECOND FORM's CARD OF 'laws.FnDefaultStreamsGroupHeartbeatResponse'. -/
def fnDefaultStreamsGroupHeartbeatResponseUptoCard : Claim7 := { stood := { row := fnDefaultStreamsGroupHeartbeatResponseUptoRow, standIns := [], harness := (true, "25e3880eaeeafd82537543f0f018e4a06047d25b9e3105fd5779ae730db6d523"), looks := false }, kinds := [], alts := [], laidByText := true, laidKinds := [.sentinel], laidTests := true, laidLooks := .later }
def FnDefaultStreamsGroupHeartbeatResponseUptoCardSaid : Prop := Claim7.holds Tryz.pinned (.plain (OpenSpec.upto fnDefaultStreamsGroupHeartbeatResponseSpec)) fnDefaultStreamsGroupHeartbeatResponseUptoCard
end Rows
end Go.Proofs.YtepamajphjgigaaGreatDoor
