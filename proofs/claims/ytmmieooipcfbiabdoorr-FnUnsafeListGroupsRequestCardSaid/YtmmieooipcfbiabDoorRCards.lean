/-
  DERIVED. GIVEN WITH THE SEED: THE CARDS: each row of YtmmieooipcfbiabDoorRRows.lean that lists a variable, with what it lists TIED to the program's text (the seventh form; the later family's looks); each row that meets fmt, with fmt's text TOLD by the authors' own Lean function (tested against real Go, not proved from fmt's source: count such statements apart). THE CARD IS WHAT COUNTS. Prove the row's statement (the work); the ties are given (YtmmieooipcfbiabDoorRTie.lean); close each card by the builder's one call (the guide's Derived/Test/ToyasCard.lean, 'card_holds'). Laid BY PROGRAM, IN A SANDBOX (cutbox-door.mjs). By AI agents, Wed Nov 11 2026. No macro, syntax, notation, axiom, sorry.
-/
import Derived.Test.YtmmieooipcfbiabDoorRRows
import GoSem.ClaimSeven
namespace Go.Proofs.YtmmieooipcfbiabDoorR
namespace Rows

/-- THE TIED CARD OF 'laws.FnUnsafeBrokerRegistrationResponse'. -/
def fnUnsafeBrokerRegistrationResponseCard : Claim7 := { stood := { row := fnUnsafeBrokerRegistrationResponseRow, standIns := [], harness := (true, "2acebcddc97238f9ad26bcaf05e187a470eea38fc480145c9f10cc694657a47d"), looks := false }, kinds := [], alts := [], laidByText := true, laidKinds := [.sentinel], laidTests := true, laidLooks := .later }
def FnUnsafeBrokerRegistrationResponseCardSaid : Prop := Claim7.holds Tryd.pinned (.plain (OpenSpec.ofChange fnUnsafeBrokerRegistrationResponseSpec)) fnUnsafeBrokerRegistrationResponseCard

/-- THE TIED CARD OF 'laws.FnUnsafeListGroupsRequest'. -/
def fnUnsafeListGroupsRequestCard : Claim7 := { stood := { row := fnUnsafeListGroupsRequestRow, standIns := [], harness := (true, "2acebcddc97238f9ad26bcaf05e187a470eea38fc480145c9f10cc694657a47d"), looks := false }, kinds := [], alts := [], laidByText := true, laidKinds := [.sentinel], laidTests := true, laidLooks := .later }
def FnUnsafeListGroupsRequestCardSaid : Prop := Claim7.holds Tryd.pinned (.plain (OpenSpec.ofChange fnUnsafeListGroupsRequestSpec)) fnUnsafeListGroupsRequestCard

/-- THE TIED CARD OF 'laws.FnUnsafeAlterReplicaLogDirsResponse'. -/
def fnUnsafeAlterReplicaLogDirsResponseCard : Claim7 := { stood := { row := fnUnsafeAlterReplicaLogDirsResponseRow, standIns := [], harness := (true, "2acebcddc97238f9ad26bcaf05e187a470eea38fc480145c9f10cc694657a47d"), looks := false }, kinds := [], alts := [], laidByText := true, laidKinds := [.sentinel], laidTests := true, laidLooks := .later }
def FnUnsafeAlterReplicaLogDirsResponseCardSaid : Prop := Claim7.holds Tryd.pinned (.plain (OpenSpec.ofChange fnUnsafeAlterReplicaLogDirsResponseSpec)) fnUnsafeAlterReplicaLogDirsResponseCard

/-- THE TIED CARD OF 'laws.FnUnsafeConsumerGroupHeartbeatRequest'. -/
def fnUnsafeConsumerGroupHeartbeatRequestCard : Claim7 := { stood := { row := fnUnsafeConsumerGroupHeartbeatRequestRow, standIns := [], harness := (true, "2acebcddc97238f9ad26bcaf05e187a470eea38fc480145c9f10cc694657a47d"), looks := false }, kinds := [], alts := [], laidByText := true, laidKinds := [.sentinel], laidTests := true, laidLooks := .later }
def FnUnsafeConsumerGroupHeartbeatRequestCardSaid : Prop := Claim7.holds Tryd.pinned (.plain (OpenSpec.ofChange fnUnsafeConsumerGroupHeartbeatRequestSpec)) fnUnsafeConsumerGroupHeartbeatRequestCard

/-- THE SECOND FORM's CARD OF 'laws.FnUnsafeBrokerRegistrationResponse'. -/
def fnUnsafeBrokerRegistrationResponseUptoCard : Claim7 := { stood := { row := fnUnsafeBrokerRegistrationResponseUptoRow, standIns := [], harness := (true, "2acebcddc97238f9ad26bcaf05e187a470eea38fc480145c9f10cc694657a47d"), looks := false }, kinds := [], alts := [], laidByText := true, laidKinds := [.sentinel], laidTests := true, laidLooks := .later }
def FnUnsafeBrokerRegistrationResponseUptoCardSaid : Prop := Claim7.holds Tryd.pinned (.plain (OpenSpec.upto fnUnsafeBrokerRegistrationResponseSpec)) fnUnsafeBrokerRegistrationResponseUptoCard

/-- THE SECOND FORM's CARD OF 'laws.FnUnsafeListGroupsRequest'. -/
def fnUnsafeListGroupsRequestUptoCard : Claim7 := { stood := { row := fnUnsafeListGroupsRequestUptoRow, standIns := [], harness := (true, "2acebcddc97238f9ad26bcaf05e187a470eea38fc480145c9f10cc694657a47d"), looks := false }, kinds := [], alts := [], laidByText := true, laidKinds := [.sentinel], laidTests := true, laidLooks := .later }
def FnUnsafeListGroupsRequestUptoCardSaid : Prop := Claim7.holds Tryd.pinned (.plain (OpenSpec.upto fnUnsafeListGroupsRequestSpec)) fnUnsafeListGroupsRequestUptoCard

/-- THE SECOND FORM's CARD OF 'laws.FnUnsafeAlterReplicaLogDirsResponse'. -/
def fnUnsafeAlterReplicaLogDirsResponseUptoCard : Claim7 := { stood := { row := fnUnsafeAlterReplicaLogDirsResponseUptoRow, standIns := [], harness := (true, "2acebcddc97238f9ad26bcaf05e187a470eea38fc480145c9f10cc694657a47d"), looks := false }, kinds := [], alts := [], laidByText := true, laidKinds := [.sentinel], laidTests := true, laidLooks := .later }
def FnUnsafeAlterReplicaLogDirsResponseUptoCardSaid : Prop := Claim7.holds Tryd.pinned (.plain (OpenSpec.upto fnUnsafeAlterReplicaLogDirsResponseSpec)) fnUnsafeAlterReplicaLogDirsResponseUptoCard

/-- THE SECOND FORM's CARD OF 'laws.FnUnsafeConsumerGroupHeartbeatRequest'. -/
def fnUnsafeConsumerGroupHeartbeatRequestUptoCard : Claim7 := { stood := { row := fnUnsafeConsumerGroupHeartbeatRequestUptoRow, standIns := [], harness := (true, "2acebcddc97238f9ad26bcaf05e187a470eea38fc480145c9f10cc694657a47d"), looks := false }, kinds := [], alts := [], laidByText := true, laidKinds := [.sentinel], laidTests := true, laidLooks := .later }
def FnUnsafeConsumerGroupHeartbeatRequestUptoCardSaid : Prop := Claim7.holds Tryd.pinned (.plain (OpenSpec.upto fnUnsafeConsumerGroupHeartbeatRequestSpec)) fnUnsafeConsumerGroupHeartbeatRequestUptoCard
end Rows
end Go.Proofs.YtmmieooipcfbiabDoorR
