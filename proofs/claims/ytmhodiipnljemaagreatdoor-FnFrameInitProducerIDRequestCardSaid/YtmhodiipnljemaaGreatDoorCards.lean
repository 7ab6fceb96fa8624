/-
  DERIVED. GIVEN WITH THE SEED: THE CARDS: each row of YtmhodiipnljemaaGreatDoorRows.lean that lists a variable, with what it lists TIED to the program's text (the seventh form; the later family's looks); each row that meets fmt, with fmt's text TOLD by the authors' own Lean function (tested against real Go, not proved from fmt's source: count such statements apart). THE CARD IS WHAT COUNTS. Prove the row's statement (the work); the ties are given (YtmhodiipnljemaaGreatDoorTie.lean); close each card by the builder's one call (the guide's Derived/Test/ToyasCard.lean, 'card_holds'). Laid BY PROGRAM, IN A SANDBOX (cutbox-door.mjs). By AI agents, Wed Nov 11 2026. No macro, syntax, notation, axiom, sorry.
-/
import Derived.Test.YtmhodiipnljemaaGreatDoorRows
import GoSem.ClaimSeven
namespace Go.Proofs.YtmhodiipnljemaaGreatDoor
namespace Rows

/-- THE TIED CARD OF 'laws.FnFrameUnregisterControllerRequest'. -/
def fnFrameUnregisterControllerRequestCard : Claim7 := { stood := { row := fnFrameUnregisterControllerRequestRow, standIns := [], harness := (true, "f86b4373ab6bfe2d52c840caaa7b767398483cb59e4f7960035fb4dbc0e931c8"), looks := false }, kinds := [], alts := [], laidByText := true, laidKinds := [.sentinel], laidTests := true, laidLooks := .later }
def FnFrameUnregisterControllerRequestCardSaid : Prop := Claim7.holds Tryz.pinned (.plain (OpenSpec.ofChange fnFrameUnregisterControllerRequestSpec)) fnFrameUnregisterControllerRequestCard

/-- THE TIED CARD OF 'laws.FnFrameRemoveRaftVoterRequest'. -/
def fnFrameRemoveRaftVoterRequestCard : Claim7 := { stood := { row := fnFrameRemoveRaftVoterRequestRow, standIns := [], harness := (true, "f86b4373ab6bfe2d52c840caaa7b767398483cb59e4f7960035fb4dbc0e931c8"), looks := false }, kinds := [], alts := [], laidByText := true, laidKinds := [.sentinel], laidTests := true, laidLooks := .later }
def FnFrameRemoveRaftVoterRequestCardSaid : Prop := Claim7.holds Tryz.pinned (.plain (OpenSpec.ofChange fnFrameRemoveRaftVoterRequestSpec)) fnFrameRemoveRaftVoterRequestCard

/-- THE TIED CARD OF 'laws.FnFrameInitProducerIDRequest'. -/
def fnFrameInitProducerIDRequestCard : Claim7 := { stood := { row := fnFrameInitProducerIDRequestRow, standIns := [], harness := (true, "f86b4373ab6bfe2d52c840caaa7b767398483cb59e4f7960035fb4dbc0e931c8"), looks := false }, kinds := [], alts := [], laidByText := true, laidKinds := [.sentinel], laidTests := true, laidLooks := .later }
def FnFrameInitProducerIDRequestCardSaid : Prop := Claim7.holds Tryz.pinned (.plain (OpenSpec.ofChange fnFrameInitProducerIDRequestSpec)) fnFrameInitProducerIDRequestCard

/-- THE TIED CARD OF 'laws.FnFrameDescribeLogDirsRequest'. -/
def fnFrameDescribeLogDirsRequestCard : Claim7 := { stood := { row := fnFrameDescribeLogDirsRequestRow, standIns := [], harness := (true, "f86b4373ab6bfe2d52c840caaa7b767398483cb59e4f7960035fb4dbc0e931c8"), looks := false }, kinds := [], alts := [], laidByText := true, laidKinds := [.sentinel], laidTests := true, laidLooks := .later }
def FnFrameDescribeLogDirsRequestCardSaid : Prop := Claim7.holds Tryz.pinned (.plain (OpenSpec.ofChange fnFrameDescribeLogDirsRequestSpec)) fnFrameDescribeLogDirsRequestCard

/-- THE TIED CARD OF 'laws.FnFrameBrokerHeartbeatRequest'. -/
def fnFrameBrokerHeartbeatRequestCard : Claim7 := { stood := { row := fnFrameBrokerHeartbeatRequestRow, standIns := [], harness := (true, "f86b4373ab6bfe2d52c840caaa7b767398483cb59e4f7960035fb4dbc0e931c8"), looks := false }, kinds := [], alts := [], laidByText := true, laidKinds := [.sentinel], laidTests := true, laidLooks := .later }
def FnFrameBrokerHeartbeatRequestCardSaid : Prop := Claim7.holds Tryz.pinned (.plain (OpenSpec.ofChange fnFrameBrokerHeartbeatRequestSpec)) fnFrameBrokerHeartbeatRequestCard

/-- THE TIED CARD OF 'laws.FnFrameDescribeACLsRequest'. -/
def fnFrameDescribeACLsRequestCard : Claim7 := { stood := { row := fnFrameDescribeACLsRequestRow, standIns := [], harness := (true, "f86b4373ab6bfe2d52c840caaa7b767398483cb59e4f7960035fb4dbc0e931c8"), looks := false }, kinds := [], alts := [], laidByText := true, laidKinds := [.sentinel], laidTests := true, laidLooks := .later }
def FnFrameDescribeACLsRequestCardSaid : Prop := Claim7.holds Tryz.pinned (.plain (OpenSpec.ofChange fnFrameDescribeACLsRequestSpec)) fnFrameDescribeACLsRequestCard

/-- THE TIED CARD OF 'laws.FnFrameSyncGroupRequest'. -/
def fnFrameSyncGroupRequestCard : Claim7 := { stood := { row := fnFrameSyncGroupRequestRow, standIns := [], harness := (true, "f86b4373ab6bfe2d52c840caaa7b767398483cb59e4f7960035fb4dbc0e931c8"), looks := false }, kinds := [], alts := [], laidByText := true, laidKinds := [.sentinel], laidTests := true, laidLooks := .later }
def FnFrameSyncGroupRequestCardSaid : Prop := Claim7.holds Tryz.pinned (.plain (OpenSpec.ofChange fnFrameSyncGroupRequestSpec)) fnFrameSyncGroupRequestCard

/-- THE SECOND FORM's CARD OF 'laws.FnFrameUnregisterControllerRequest'. -/
def fnFrameUnregisterControllerRequestUptoCard : Claim7 := { stood := { row := fnFrameUnregisterControllerRequestUptoRow, standIns := [], harness := (true, "f86b4373ab6bfe2d52c840caaa7b767398483cb59e4f7960035fb4dbc0e931c8"), looks := false }, kinds := [], alts := [], laidByText := true, laidKinds := [.sentinel], laidTests := true, laidLooks := .later }
def FnFrameUnregisterControllerRequestUptoCardSaid : Prop := Claim7.holds Tryz.pinned (.plain (OpenSpec.upto fnFrameUnregisterControllerRequestSpec)) fnFrameUnregisterControllerRequestUptoCard

/-- THE SECOND FORM's CARD OF 'laws.FnFrameRemoveRaftVoterRequest'. -/
def fnFrameRemoveRaftVoterRequestUptoCard : Claim7 := { stood := { row := fnFrameRemoveRaftVoterRequestUptoRow, standIns := [], harness := (true, "f86b4373ab6bfe2d52c840caaa7b767398483cb59e4f7960035fb4dbc0e931c8"), looks := false }, kinds := [], alts := [], laidByText := true, laidKinds := [.sentinel], laidTests := true, laidLooks := .later }
def FnFrameRemoveRaftVoterRequestUptoCardSaid : Prop := Claim7.holds Tryz.pinned (.plain (OpenSpec.upto fnFrameRemoveRaftVoterRequestSpec)) fnFrameRemoveRaftVoterRequestUptoCard

/-- THE SECOND FORM's CARD OF 'laws.FnFrameInitProducerIDRequest'. -/
def fnFrameInitProducerIDRequestUptoCard : Claim7 := { stood := { row := fnFrameInitProducerIDRequestUptoRow, standIns := [], harness := (true, "f86b4373ab6bfe2d52c840caaa7b767398483cb59e4f7960035fb4dbc0e931c8"), looks := false }, kinds := [], alts := [], laidByText := true, laidKinds := [.sentinel], laidTests := true, laidLooks := .later }
def FnFrameInitProducerIDRequestUptoCardSaid : Prop := Claim7.holds Tryz.pinned (.plain (OpenSpec.upto fnFrameInitProducerIDRequestSpec)) fnFrameInitProducerIDRequestUptoCard

/-- THE SECOND FORM's CARD OF 'laws.FnFrameDescribeLogDirsRequest'. -/
def fnFrameDescribeLogDirsRequestUptoCard : Claim7 := { stood := { row := fnFrameDescribeLogDirsRequestUptoRow, standIns := [], harness := (true, "f86b4373ab6bfe2d52c840caaa7b767398483cb59e4f7960035fb4dbc0e931c8"), looks := false }, kinds := [], alts := [], laidByText := true, laidKinds := [.sentinel], laidTests := true, laidLooks := .later }
def FnFrameDescribeLogDirsRequestUptoCardSaid : Prop := Claim7.holds Tryz.pinned (.plain (OpenSpec.upto fnFrameDescribeLogDirsRequestSpec)) fnFrameDescribeLogDirsRequestUptoCard

/-- THE SECOND FORM's CARD OF 'laws.FnFrameBrokerHeartbeatRequest'. -/
def fnFrameBrokerHeartbeatRequestUptoCard : Claim7 := { stood := { row := fnFrameBrokerHeartbeatRequestUptoRow, standIns := [], harness := (true, "f86b4373ab6bfe2d52c840caaa7b767398483cb59e4f7960035fb4dbc0e931c8"), looks := false }, kinds := [], alts := [], laidByText := true, laidKinds := [.sentinel], laidTests := true, laidLooks := .later }
def FnFrameBrokerHeartbeatRequestUptoCardSaid : Prop := Claim7.holds Tryz.pinned (.plain (OpenSpec.upto fnFrameBrokerHeartbeatRequestSpec)) fnFrameBrokerHeartbeatRequestUptoCard

/-- THE SECOND FORM's CARD OF 'laws.FnFrameDescribeACLsRequest'. -/
def fnFrameDescribeACLsRequestUptoCard : Claim7 := { stood := { row := fnFrameDescribeACLsRequestUptoRow, standIns := [], harness := (true, "f86b4373ab6bfe2d52c840caaa7b767398483cb59e4f7960035fb4dbc0e931c8"), looks := false }, kinds := [], alts := [], laidByText := true, laidKinds := [.sentinel], laidTests := true, laidLooks := .later }
def FnFrameDescribeACLsRequestUptoCardSaid : Prop := Claim7.holds Tryz.pinned (.plain (OpenSpec.upto fnFrameDescribeACLsRequestSpec)) fnFrameDescribeACLsRequestUptoCard

/-- THE SECOND FORM's CARD OF 'laws.FnFrameSyncGroupRequest'. -/
def fnFrameSyncGroupRequestUptoCard : Claim7 := { stood := { row := fnFrameSyncGroupRequestUptoRow, standIns := [], harness := (true, "f86b4373ab6bfe2d52c840caaa7b767398483cb59e4f7960035fb4dbc0e931c8"), looks := false }, kinds := [], alts := [], laidByText := true, laidKinds := [.sentinel], laidTests := true, laidLooks := .later }
def FnFrameSyncGroupRequestUptoCardSaid : Prop := Claim7.holds Tryz.pinned (.plain (OpenSpec.upto fnFrameSyncGroupRequestSpec)) fnFrameSyncGroupRequestUptoCard
end Rows
end Go.Proofs.YtmhodiipnljemaaGreatDoor
