/-
  DERIVED. GIVEN WITH THE SEED: THE CARDS: each row of YtkhccpbmhcfkcaaGreatDoorRows.lean that lists a variable, with what it lists TIED to the program's text (the seventh form; the later family's looks); each row that meets fmt, with fmt's text TOLD by the authors' own Lean function (tested against real Go, not proved from fmt's source: count such statements apart). THE CARD IS WHAT COUNTS. Prove the row's statement (the work); the ties are given (YtkhccpbmhcfkcaaGreatDoorTie.lean); close each card by the builder's one call (the guide's Derived/Test/ToyasCard.lean, 'card_holds'). Laid BY PROGRAM, IN A SANDBOX (cutbox-door.mjs). By AI agents, Wed Nov 11 2026. No macro, syntax, notation, axiom, sorry.
-/
import Derived.Test.YtkhccpbmhcfkcaaGreatDoorRows
import GoSem.ClaimSeven
namespace Go.Proofs.YtkhccpbmhcfkcaaGreatDoor
namespace Rows

/-- THE TIED CARD OF 'laws.FnBehindUpdateFeaturesResponse'. -/
def fnBehindUpdateFeaturesResponseCard : Claim7 := { stood := { row := fnBehindUpdateFeaturesResponseRow, standIns := [], harness := (true, "6b65efdfca0af31fdf388c336472a585b86ee5b598d5cafb796eaa33d5fc8f10"), looks := false }, kinds := [], alts := [], laidByText := true, laidKinds := [.sentinel], laidTests := true, laidLooks := .later }
def FnBehindUpdateFeaturesResponseCardSaid : Prop := Claim7.holds Tryz.pinned (.plain (OpenSpec.ofChange fnBehindUpdateFeaturesResponseSpec)) fnBehindUpdateFeaturesResponseCard

/-- THE TIED CARD OF 'laws.FnBehindDescribeConfigsRequest'. -/
def fnBehindDescribeConfigsRequestCard : Claim7 := { stood := { row := fnBehindDescribeConfigsRequestRow, standIns := [], harness := (true, "6b65efdfca0af31fdf388c336472a585b86ee5b598d5cafb796eaa33d5fc8f10"), looks := false }, kinds := [], alts := [], laidByText := true, laidKinds := [.sentinel], laidTests := true, laidLooks := .later }
def FnBehindDescribeConfigsRequestCardSaid : Prop := Claim7.holds Tryz.pinned (.plain (OpenSpec.ofChange fnBehindDescribeConfigsRequestSpec)) fnBehindDescribeConfigsRequestCard

/-- THE TIED CARD OF 'laws.FnBehindAlterUserSCRAMCredentialsRequest'. -/
def fnBehindAlterUserSCRAMCredentialsRequestCard : Claim7 := { stood := { row := fnBehindAlterUserSCRAMCredentialsRequestRow, standIns := [], harness := (true, "6b65efdfca0af31fdf388c336472a585b86ee5b598d5cafb796eaa33d5fc8f10"), looks := false }, kinds := [], alts := [], laidByText := true, laidKinds := [.sentinel], laidTests := true, laidLooks := .later }
def FnBehindAlterUserSCRAMCredentialsRequestCardSaid : Prop := Claim7.holds Tryz.pinned (.plain (OpenSpec.ofChange fnBehindAlterUserSCRAMCredentialsRequestSpec)) fnBehindAlterUserSCRAMCredentialsRequestCard

/-- THE TIED CARD OF 'laws.FnFrameDescribeLogDirsRequest'. -/
def fnFrameDescribeLogDirsRequestCard : Claim7 := { stood := { row := fnFrameDescribeLogDirsRequestRow, standIns := [], harness := (true, "6b65efdfca0af31fdf388c336472a585b86ee5b598d5cafb796eaa33d5fc8f10"), looks := false }, kinds := [], alts := [], laidByText := true, laidKinds := [.sentinel], laidTests := true, laidLooks := .later }
def FnFrameDescribeLogDirsRequestCardSaid : Prop := Claim7.holds Tryz.pinned (.plain (OpenSpec.ofChange fnFrameDescribeLogDirsRequestSpec)) fnFrameDescribeLogDirsRequestCard

/-- THE TIED CARD OF 'laws.FnFrameDescribeACLsRequest'. -/
def fnFrameDescribeACLsRequestCard : Claim7 := { stood := { row := fnFrameDescribeACLsRequestRow, standIns := [], harness := (true, "6b65efdfca0af31fdf388c336472a585b86ee5b598d5cafb796eaa33d5fc8f10"), looks := false }, kinds := [], alts := [], laidByText := true, laidKinds := [.sentinel], laidTests := true, laidLooks := .later }
def FnFrameDescribeACLsRequestCardSaid : Prop := Claim7.holds Tryz.pinned (.plain (OpenSpec.ofChange fnFrameDescribeACLsRequestSpec)) fnFrameDescribeACLsRequestCard

/-- THE TIED CARD OF 'laws.FnFrameSyncGroupRequest'. -/
def fnFrameSyncGroupRequestCard : Claim7 := { stood := { row := fnFrameSyncGroupRequestRow, standIns := [], harness := (true, "6b65efdfca0af31fdf388c336472a585b86ee5b598d5cafb796eaa33d5fc8f10"), looks := false }, kinds := [], alts := [], laidByText := true, laidKinds := [.sentinel], laidTests := true, laidLooks := .later }
def FnFrameSyncGroupRequestCardSaid : Prop := Claim7.holds Tryz.pinned (.plain (OpenSpec.ofChange fnFrameSyncGroupRequestSpec)) fnFrameSyncGroupRequestCard

/-- THE SECOND FORM's CARD OF 'laws.FnBehindUpdateFeaturesResponse'. -/
def fnBehindUpdateFeaturesResponseUptoCard : Claim7 := { stood := { row := fnBehindUpdateFeaturesResponseUptoRow, standIns := [], harness := (true, "6b65efdfca0af31fdf388c336472a585b86ee5b598d5cafb796eaa33d5fc8f10"), looks := false }, kinds := [], alts := [], laidByText := true, laidKinds := [.sentinel], laidTests := true, laidLooks := .later }
def FnBehindUpdateFeaturesResponseUptoCardSaid : Prop := Claim7.holds Tryz.pinned (.plain (OpenSpec.upto fnBehindUpdateFeaturesResponseSpec)) fnBehindUpdateFeaturesResponseUptoCard

/-- THE SECOND FORM's CARD OF 'laws.FnBehindDescribeConfigsRequest'. -/
def fnBehindDescribeConfigsRequestUptoCard : Claim7 := { stood := { row := fnBehindDescribeConfigsRequestUptoRow, standIns := [], harness := (true, "6b65efdfca0af31fdf388c336472a585b86ee5b598d5cafb796eaa33d5fc8f10"), looks := false }, kinds := [], alts := [], laidByText := true, laidKinds := [.sentinel], laidTests := true, laidLooks := .later }
def FnBehindDescribeConfigsRequestUptoCardSaid : Prop := Claim7.holds Tryz.pinned (.plain (OpenSpec.upto fnBehindDescribeConfigsRequestSpec)) fnBehindDescribeConfigsRequestUptoCard

/-- THE SECOND FORM's CARD OF 'laws.FnBehindAlterUserSCRAMCredentialsRequest'. -/
def fnBehindAlterUserSCRAMCredentialsRequestUptoCard : Claim7 := { stood := { row := fnBehindAlterUserSCRAMCredentialsRequestUptoRow, standIns := [], harness := (true, "6b65efdfca0af31fdf388c336472a585b86ee5b598d5cafb796eaa33d5fc8f10"), looks := false }, kinds := [], alts := [], laidByText := true, laidKinds := [.sentinel], laidTests := true, laidLooks := .later }
def FnBehindAlterUserSCRAMCredentialsRequestUptoCardSaid : Prop := Claim7.holds Tryz.pinned (.plain (OpenSpec.upto fnBehindAlterUserSCRAMCredentialsRequestSpec)) fnBehindAlterUserSCRAMCredentialsRequestUptoCard

/-- THE SECOND FORM's CARD OF 'laws.FnFrameDescribeLogDirsRequest'. -/
def fnFrameDescribeLogDirsRequestUptoCard : Claim7 := { stood := { row := fnFrameDescribeLogDirsRequestUptoRow, standIns := [], harness := (true, "6b65efdfca0af31fdf388c336472a585b86ee5b598d5cafb796eaa33d5fc8f10"), looks := false }, kinds := [], alts := [], laidByText := true, laidKinds := [.sentinel], laidTests := true, laidLooks := .later }
def FnFrameDescribeLogDirsRequestUptoCardSaid : Prop := Claim7.holds Tryz.pinned (.plain (OpenSpec.upto fnFrameDescribeLogDirsRequestSpec)) fnFrameDescribeLogDirsRequestUptoCard

/-- THE SECOND FORM's CARD OF 'laws.FnFrameDescribeACLsRequest'. -/
def fnFrameDescribeACLsRequestUptoCard : Claim7 := { stood := { row := fnFrameDescribeACLsRequestUptoRow, standIns := [], harness := (true, "6b65efdfca0af31fdf388c336472a585b86ee5b598d5cafb796eaa33d5fc8f10"), looks := false }, kinds := [], alts := [], laidByText := true, laidKinds := [.sentinel], laidTests := true, laidLooks := .later }
def FnFrameDescribeACLsRequestUptoCardSaid : Prop := Claim7.holds Tryz.pinned (.plain (OpenSpec.upto fnFrameDescribeACLsRequestSpec)) fnFrameDescribeACLsRequestUptoCard

/-- THE SECOND FORM's CARD OF 'laws.FnFrameSyncGroupRequest'. -/
def fnFrameSyncGroupRequestUptoCard : Claim7 := { stood := { row := fnFrameSyncGroupRequestUptoRow, standIns := [], harness := (true, "6b65efdfca0af31fdf388c336472a585b86ee5b598d5cafb796eaa33d5fc8f10"), looks := false }, kinds := [], alts := [], laidByText := true, laidKinds := [.sentinel], laidTests := true, laidLooks := .later }
def FnFrameSyncGroupRequestUptoCardSaid : Prop := Claim7.holds Tryz.pinned (.plain (OpenSpec.upto fnFrameSyncGroupRequestSpec)) fnFrameSyncGroupRequestUptoCard
end Rows
end Go.Proofs.YtkhccpbmhcfkcaaGreatDoor
