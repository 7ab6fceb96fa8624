/-
  DERIVED. GIVEN WITH THE SEED: THE CARDS: each row of YteofeendidabgaaGreatDoorRows.lean that lists a variable, with what it lists TIED to the program's text (the seventh form; the later family's looks); each row that meets fmt, with fmt's text TOLD by the authors' own Lean function (tested against real Go, not proved from fmt's source: count such statements apart). THE CARD IS WHAT COUNTS. Prove the row's statement (the work); the ties are given (YteofeendidabgaaGreatDoorTie.lean); close each card by the builder's one call (the guide's Derived/Test/ToyasCard.lean, 'card_holds'). Laid BY PROGRAM, IN A SANDBOX (cutbox-door.mjs). By AI agents, Wed Nov 11 2026. No macro, syntax, notation, axiom, sorry.
-/
import Derived.Test.YteofeendidabgaaGreatDoorRows
import GoSem.ClaimSeven
namespace Go.Proofs.YteofeendidabgaaGreatDoor
namespace Rows

/-- THE TIED CARD OF 'laws.FnTellLeaveGroupResponse'. -/
def fnTellLeaveGroupResponseCard : Claim7 := { stood := { row := fnTellLeaveGroupResponseRow, standIns := [], harness := (true, "7a8b13359daf0a5bd1f4260f46a5361c695da2891c4c0dfc46d60aa7ce843bcb"), looks := false }, kinds := [], alts := [], laidByText := true, laidKinds := [.sentinel], laidTests := true, laidLooks := .later }
def FnTellLeaveGroupResponseCardSaid : Prop := Claim7.holds Tryz.pinned (.plain (OpenSpec.ofChange fnTellLeaveGroupResponseSpec)) fnTellLeaveGroupResponseCard

/-- THE TIED CARD OF 'laws.FnTellDeleteRecordsRequest'. -/
def fnTellDeleteRecordsRequestCard : Claim7 := { stood := { row := fnTellDeleteRecordsRequestRow, standIns := [], harness := (true, "7a8b13359daf0a5bd1f4260f46a5361c695da2891c4c0dfc46d60aa7ce843bcb"), looks := false }, kinds := [], alts := [], laidByText := true, laidKinds := [.sentinel], laidTests := true, laidLooks := .later }
def FnTellDeleteRecordsRequestCardSaid : Prop := Claim7.holds Tryz.pinned (.plain (OpenSpec.ofChange fnTellDeleteRecordsRequestSpec)) fnTellDeleteRecordsRequestCard

/-- THE TIED CARD OF 'laws.FnTellCreateDelegationTokenResponse'. -/
def fnTellCreateDelegationTokenResponseCard : Claim7 := { stood := { row := fnTellCreateDelegationTokenResponseRow, standIns := [], harness := (true, "7a8b13359daf0a5bd1f4260f46a5361c695da2891c4c0dfc46d60aa7ce843bcb"), looks := false }, kinds := [], alts := [], laidByText := true, laidKinds := [.sentinel], laidTests := true, laidLooks := .later }
def FnTellCreateDelegationTokenResponseCardSaid : Prop := Claim7.holds Tryz.pinned (.plain (OpenSpec.ofChange fnTellCreateDelegationTokenResponseSpec)) fnTellCreateDelegationTokenResponseCard

/-- THE TIED CARD OF 'laws.FnTellCreateACLsRequest'. -/
def fnTellCreateACLsRequestCard : Claim7 := { stood := { row := fnTellCreateACLsRequestRow, standIns := [], harness := (true, "7a8b13359daf0a5bd1f4260f46a5361c695da2891c4c0dfc46d60aa7ce843bcb"), looks := false }, kinds := [], alts := [], laidByText := true, laidKinds := [.sentinel], laidTests := true, laidLooks := .later }
def FnTellCreateACLsRequestCardSaid : Prop := Claim7.holds Tryz.pinned (.plain (OpenSpec.ofChange fnTellCreateACLsRequestSpec)) fnTellCreateACLsRequestCard

/-- THE TIED CARD OF 'laws.FnTellDeleteTopicsRequest'. -/
def fnTellDeleteTopicsRequestCard : Claim7 := { stood := { row := fnTellDeleteTopicsRequestRow, standIns := [], harness := (true, "7a8b13359daf0a5bd1f4260f46a5361c695da2891c4c0dfc46d60aa7ce843bcb"), looks := false }, kinds := [], alts := [], laidByText := true, laidKinds := [.sentinel], laidTests := true, laidLooks := .later }
def FnTellDeleteTopicsRequestCardSaid : Prop := Claim7.holds Tryz.pinned (.plain (OpenSpec.ofChange fnTellDeleteTopicsRequestSpec)) fnTellDeleteTopicsRequestCard

/-- THE TIED CARD OF 'laws.FnTellListOffsetsResponse'. -/
def fnTellListOffsetsResponseCard : Claim7 := { stood := { row := fnTellListOffsetsResponseRow, standIns := [], harness := (true, "7a8b13359daf0a5bd1f4260f46a5361c695da2891c4c0dfc46d60aa7ce843bcb"), looks := false }, kinds := [], alts := [], laidByText := true, laidKinds := [.sentinel], laidTests := true, laidLooks := .later }
def FnTellListOffsetsResponseCardSaid : Prop := Claim7.holds Tryz.pinned (.plain (OpenSpec.ofChange fnTellListOffsetsResponseSpec)) fnTellListOffsetsResponseCard

/-- THE SECOND FORM's CARD OF 'laws.FnTellLeaveGroupResponse'. -/
def fnTellLeaveGroupResponseUptoCard : Claim7 := { stood := { row := fnTellLeaveGroupResponseUptoRow, standIns := [], harness := (true, "7a8b13359daf0a5bd1f4260f46a5361c695da2891c4c0dfc46d60aa7ce843bcb"), looks := false }, kinds := [], alts := [], laidByText := true, laidKinds := [.sentinel], laidTests := true, laidLooks := .later }
def FnTellLeaveGroupResponseUptoCardSaid : Prop := Claim7.holds Tryz.pinned (.plain (OpenSpec.upto fnTellLeaveGroupResponseSpec)) fnTellLeaveGroupResponseUptoCard

/-- THE SECOND FORM's CARD OF 'laws.FnTellDeleteRecordsRequest'. -/
def fnTellDeleteRecordsRequestUptoCard : Claim7 := { stood := { row := fnTellDeleteRecordsRequestUptoRow, standIns := [], harness := (true, "7a8b13359daf0a5bd1f4260f46a5361c695da2891c4c0dfc46d60aa7ce843bcb"), looks := false }, kinds := [], alts := [], laidByText := true, laidKinds := [.sentinel], laidTests := true, laidLooks := .later }
def FnTellDeleteRecordsRequestUptoCardSaid : Prop := Claim7.holds Tryz.pinned (.plain (OpenSpec.upto fnTellDeleteRecordsRequestSpec)) fnTellDeleteRecordsRequestUptoCard

/-- THE SECOND FORM's CARD OF 'laws.FnTellCreateDelegationTokenResponse'. -/
def fnTellCreateDelegationTokenResponseUptoCard : Claim7 := { stood := { row := fnTellCreateDelegationTokenResponseUptoRow, standIns := [], harness := (true, "7a8b13359daf0a5bd1f4260f46a5361c695da2891c4c0dfc46d60aa7ce843bcb"), looks := false }, kinds := [], alts := [], laidByText := true, laidKinds := [.sentinel], laidTests := true, laidLooks := .later }
def FnTellCreateDelegationTokenResponseUptoCardSaid : Prop := Claim7.holds Tryz.pinned (.plain (OpenSpec.upto fnTellCreateDelegationTokenResponseSpec)) fnTellCreateDelegationTokenResponseUptoCard

/-- THE SECOND FORM's CARD OF 'laws.FnTellCreateACLsRequest'. -/
def fnTellCreateACLsRequestUptoCard : Claim7 := { stood := { row := fnTellCreateACLsRequestUptoRow, standIns := [], harness := (true, "7a8b13359daf0a5bd1f4260f46a5361c695da2891c4c0dfc46d60aa7ce843bcb"), looks := false }, kinds := [], alts := [], laidByText := true, laidKinds := [.sentinel], laidTests := true, laidLooks := .later }
def FnTellCreateACLsRequestUptoCardSaid : Prop := Claim7.holds Tryz.pinned (.plain (OpenSpec.upto fnTellCreateACLsRequestSpec)) fnTellCreateACLsRequestUptoCard

/-- THE SECOND FORM's CARD OF 'laws.FnTellDeleteTopicsRequest'. -/
def fnTellDeleteTopicsRequestUptoCard : Claim7 := { stood := { row := fnTellDeleteTopicsRequestUptoRow, standIns := [], harness := (true, "7a8b13359daf0a5bd1f4260f46a5361c695da2891c4c0dfc46d60aa7ce843bcb"), looks := false }, kinds := [], alts := [], laidByText := true, laidKinds := [.sentinel], laidTests := true, laidLooks := .later }
def FnTellDeleteTopicsRequestUptoCardSaid : Prop := Claim7.holds Tryz.pinned (.plain (OpenSpec.upto fnTellDeleteTopicsRequestSpec)) fnTellDeleteTopicsRequestUptoCard

/-- THE SECOND FORM's CARD OF 'laws.FnTellListOffsetsResponse'. -/
def fnTellListOffsetsResponseUptoCard : Claim7 := { stood := { row := fnTellListOffsetsResponseUptoRow, standIns := [], harness := (true, "7a8b13359daf0a5bd1f4260f46a5361c695da2891c4c0dfc46d60aa7ce843bcb"), looks := false }, kinds := [], alts := [], laidByText := true, laidKinds := [.sentinel], laidTests := true, laidLooks := .later }
def FnTellListOffsetsResponseUptoCardSaid : Prop := Claim7.holds Tryz.pinned (.plain (OpenSpec.upto fnTellListOffsetsResponseSpec)) fnTellListOffsetsResponseUptoCard
end Rows
end Go.Proofs.YteofeendidabgaaGreatDoor
