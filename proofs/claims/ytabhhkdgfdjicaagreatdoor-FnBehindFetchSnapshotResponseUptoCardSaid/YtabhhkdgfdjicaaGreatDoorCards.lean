/-
  DERIVED. GIVEN WITH THE SEED: THE CARDS: each row of YtabhhkdgfdjicaaGreatDoorRows.lean that lists a variable, with what it lists TIED to the program's text (the seventh form; the later family's looks); each row that meets fmt, with fmt's text TOLD by the authors' own Lean function (tested against real Go, not proved from fmt's source: count such statements apart). THE CARD IS WHAT COUNTS. Prove the row's statement (the work); the ties are given (YtabhhkdgfdjicaaGreatDoorTie.lean); close each card by the builder's one call (the guide's Derived/Test/ToyasCard.lean, 'card_holds'). Laid BY PROGRAM, IN A SANDBOX (cutbox-door.mjs). By AI agents, Wed Nov 11 2026. No macro, syntax, notation, axiom, sorry.
-/
import Derived.Test.YtabhhkdgfdjicaaGreatDoorRows
import GoSem.ClaimSeven
namespace Go.Proofs.YtabhhkdgfdjicaaGreatDoor
namespace Rows

/-- THE TIED CARD OF 'laws.FnBehindFetchSnapshotResponse'. -/
def fnBehindFetchSnapshotResponseCard : Claim7 := { stood := { row := fnBehindFetchSnapshotResponseRow, standIns := [], harness := (true, "fd60a0655a68d4bea5436f22a2949b4e7dba77c27ce53a92a802501d7f7d9054"), looks := false }, kinds := [], alts := [], laidByText := true, laidKinds := [.sentinel], laidTests := true, laidLooks := .later }
def FnBehindFetchSnapshotResponseCardSaid : Prop := Claim7.holds Tryz.pinned (.plain (OpenSpec.ofChange fnBehindFetchSnapshotResponseSpec)) fnBehindFetchSnapshotResponseCard

/-- THE TIED CARD OF 'laws.FnFrameBrokerHeartbeatRequest'. -/
def fnFrameBrokerHeartbeatRequestCard : Claim7 := { stood := { row := fnFrameBrokerHeartbeatRequestRow, standIns := [], harness := (true, "fd60a0655a68d4bea5436f22a2949b4e7dba77c27ce53a92a802501d7f7d9054"), looks := false }, kinds := [], alts := [], laidByText := true, laidKinds := [.sentinel], laidTests := true, laidLooks := .later }
def FnFrameBrokerHeartbeatRequestCardSaid : Prop := Claim7.holds Tryz.pinned (.plain (OpenSpec.ofChange fnFrameBrokerHeartbeatRequestSpec)) fnFrameBrokerHeartbeatRequestCard

/-- THE SECOND FORM's CARD OF 'laws.FnBehindFetchSnapshotResponse'. -/
def fnBehindFetchSnapshotResponseUptoCard : Claim7 := { stood := { row := fnBehindFetchSnapshotResponseUptoRow, standIns := [], harness := (true, "fd60a0655a68d4bea5436f22a2949b4e7dba77c27ce53a92a802501d7f7d9054"), looks := false }, kinds := [], alts := [], laidByText := true, laidKinds := [.sentinel], laidTests := true, laidLooks := .later }
def FnBehindFetchSnapshotResponseUptoCardSaid : Prop := Claim7.holds Tryz.pinned (.plain (OpenSpec.upto fnBehindFetchSnapshotResponseSpec)) fnBehindFetchSnapshotResponseUptoCard

/-- THE SECOND FORM's CARD OF 'laws.FnFrameBrokerHeartbeatRequest'. -/
def fnFrameBrokerHeartbeatRequestUptoCard : Claim7 := { stood := { row := fnFrameBrokerHeartbeatRequestUptoRow, standIns := [], harness := (true, "fd60a0655a68d4bea5436f22a2949b4e7dba77c27ce53a92a802501d7f7d9054"), looks := false }, kinds := [], alts := [], laidByText := true, laidKinds := [.sentinel], laidTests := true, laidLooks := .later }
def FnFrameBrokerHeartbeatRequestUptoCardSaid : Prop := Claim7.holds Tryz.pinned (.plain (OpenSpec.upto fnFrameBrokerHeartbeatRequestSpec)) fnFrameBrokerHeartbeatRequestUptoCard
end Rows
end Go.Proofs.YtabhhkdgfdjicaaGreatDoor
