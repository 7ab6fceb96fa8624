/-
  DERIVED. GIVEN WITH THE SEED: THE CARDS: each row of YtanohglljnajiaaGreatDoorRows.lean that lists a variable, with what it lists TIED to the program's text (the seventh form; the later family's looks); each row that meets fmt, with fmt's text TOLD by the authors' own Lean function (tested against real Go, not proved from fmt's source: count such statements apart). THE CARD IS WHAT COUNTS. Prove the row's statement (the work); the ties are given (YtanohglljnajiaaGreatDoorTie.lean); close each card by the builder's one call (the guide's Derived/Test/ToyasCard.lean, 'card_holds'). Laid BY PROGRAM, IN A SANDBOX (cutbox-door.mjs). By AI agents, Wed Nov 11 2026. No macro, syntax, notation, axiom, sorry.
-/
import Derived.Test.YtanohglljnajiaaGreatDoorRows
import GoSem.ClaimSeven
namespace Go.Proofs.YtanohglljnajiaaGreatDoor
namespace Rows

/-- THE TIED CARD OF 'laws.FnBehindDescribeConfigsRequest'. -/
def fnBehindDescribeConfigsRequestCard : Claim7 := { stood := { row := fnBehindDescribeConfigsRequestRow, standIns := [], harness := (true, "029814b2afe38229bbda7604b228469f3448db5a08589f4675414e47123c5bbe"), looks := false }, kinds := [], alts := [], laidByText := true, laidKinds := [.sentinel], laidTests := true, laidLooks := .later }
def FnBehindDescribeConfigsRequestCardSaid : Prop := Claim7.holds Tryz.pinned (.plain (OpenSpec.ofChange fnBehindDescribeConfigsRequestSpec)) fnBehindDescribeConfigsRequestCard

/-- THE TIED CARD OF 'laws.FnBehindAlterUserSCRAMCredentialsRequest'. -/
def fnBehindAlterUserSCRAMCredentialsRequestCard : Claim7 := { stood := { row := fnBehindAlterUserSCRAMCredentialsRequestRow, standIns := [], harness := (true, "029814b2afe38229bbda7604b228469f3448db5a08589f4675414e47123c5bbe"), looks := false }, kinds := [], alts := [], laidByText := true, laidKinds := [.sentinel], laidTests := true, laidLooks := .later }
def FnBehindAlterUserSCRAMCredentialsRequestCardSaid : Prop := Claim7.holds Tryz.pinned (.plain (OpenSpec.ofChange fnBehindAlterUserSCRAMCredentialsRequestSpec)) fnBehindAlterUserSCRAMCredentialsRequestCard

/-- THE TIED CARD OF 'laws.FnBehindWriteTxnMarkersRequest'. -/
def fnBehindWriteTxnMarkersRequestCard : Claim7 := { stood := { row := fnBehindWriteTxnMarkersRequestRow, standIns := [], harness := (true, "029814b2afe38229bbda7604b228469f3448db5a08589f4675414e47123c5bbe"), looks := false }, kinds := [], alts := [], laidByText := true, laidKinds := [.sentinel], laidTests := true, laidLooks := .later }
def FnBehindWriteTxnMarkersRequestCardSaid : Prop := Claim7.holds Tryz.pinned (.plain (OpenSpec.ofChange fnBehindWriteTxnMarkersRequestSpec)) fnBehindWriteTxnMarkersRequestCard

/-- THE TIED CARD OF 'laws.FnBehindUpdateRaftVoterRequest'. -/
def fnBehindUpdateRaftVoterRequestCard : Claim7 := { stood := { row := fnBehindUpdateRaftVoterRequestRow, standIns := [], harness := (true, "029814b2afe38229bbda7604b228469f3448db5a08589f4675414e47123c5bbe"), looks := false }, kinds := [], alts := [], laidByText := true, laidKinds := [.sentinel], laidTests := true, laidLooks := .later }
def FnBehindUpdateRaftVoterRequestCardSaid : Prop := Claim7.holds Tryz.pinned (.plain (OpenSpec.ofChange fnBehindUpdateRaftVoterRequestSpec)) fnBehindUpdateRaftVoterRequestCard

/-- THE TIED CARD OF 'laws.FnBehindReadShareGroupStateResponse'. -/
def fnBehindReadShareGroupStateResponseCard : Claim7 := { stood := { row := fnBehindReadShareGroupStateResponseRow, standIns := [], harness := (true, "029814b2afe38229bbda7604b228469f3448db5a08589f4675414e47123c5bbe"), looks := false }, kinds := [], alts := [], laidByText := true, laidKinds := [.sentinel], laidTests := true, laidLooks := .later }
def FnBehindReadShareGroupStateResponseCardSaid : Prop := Claim7.holds Tryz.pinned (.plain (OpenSpec.ofChange fnBehindReadShareGroupStateResponseSpec)) fnBehindReadShareGroupStateResponseCard

/-- THE TIED CARD OF 'laws.FnBehindAlterPartitionRequest'. -/
def fnBehindAlterPartitionRequestCard : Claim7 := { stood := { row := fnBehindAlterPartitionRequestRow, standIns := [], harness := (true, "029814b2afe38229bbda7604b228469f3448db5a08589f4675414e47123c5bbe"), looks := false }, kinds := [], alts := [], laidByText := true, laidKinds := [.sentinel], laidTests := true, laidLooks := .later }
def FnBehindAlterPartitionRequestCardSaid : Prop := Claim7.holds Tryz.pinned (.plain (OpenSpec.ofChange fnBehindAlterPartitionRequestSpec)) fnBehindAlterPartitionRequestCard

/-- THE TIED CARD OF 'laws.FnBehindDescribeDelegationTokenResponse'. -/
def fnBehindDescribeDelegationTokenResponseCard : Claim7 := { stood := { row := fnBehindDescribeDelegationTokenResponseRow, standIns := [], harness := (true, "029814b2afe38229bbda7604b228469f3448db5a08589f4675414e47123c5bbe"), looks := false }, kinds := [], alts := [], laidByText := true, laidKinds := [.sentinel], laidTests := true, laidLooks := .later }
def FnBehindDescribeDelegationTokenResponseCardSaid : Prop := Claim7.holds Tryz.pinned (.plain (OpenSpec.ofChange fnBehindDescribeDelegationTokenResponseSpec)) fnBehindDescribeDelegationTokenResponseCard

/-- THE SECOND FORM's CARD OF 'laws.FnBehindDescribeConfigsRequest'. -/
def fnBehindDescribeConfigsRequestUptoCard : Claim7 := { stood := { row := fnBehindDescribeConfigsRequestUptoRow, standIns := [], harness := (true, "029814b2afe38229bbda7604b228469f3448db5a08589f4675414e47123c5bbe"), looks := false }, kinds := [], alts := [], laidByText := true, laidKinds := [.sentinel], laidTests := true, laidLooks := .later }
def FnBehindDescribeConfigsRequestUptoCardSaid : Prop := Claim7.holds Tryz.pinned (.plain (OpenSpec.upto fnBehindDescribeConfigsRequestSpec)) fnBehindDescribeConfigsRequestUptoCard

/-- THE SECOND FORM's CARD OF 'laws.FnBehindAlterUserSCRAMCredentialsRequest'. -/
def fnBehindAlterUserSCRAMCredentialsRequestUptoCard : Claim7 := { stood := { row := fnBehindAlterUserSCRAMCredentialsRequestUptoRow, standIns := [], harness := (true, "029814b2afe38229bbda7604b228469f3448db5a08589f4675414e47123c5bbe"), looks := false }, kinds := [], alts := [], laidByText := true, laidKinds := [.sentinel], laidTests := true, laidLooks := .later }
def FnBehindAlterUserSCRAMCredentialsRequestUptoCardSaid : Prop := Claim7.holds Tryz.pinned (.plain (OpenSpec.upto fnBehindAlterUserSCRAMCredentialsRequestSpec)) fnBehindAlterUserSCRAMCredentialsRequestUptoCard

/-- THE SECOND FORM's CARD OF 'laws.FnBehindWriteTxnMarkersRequest'. -/
def fnBehindWriteTxnMarkersRequestUptoCard : Claim7 := { stood := { row := fnBehindWriteTxnMarkersRequestUptoRow, standIns := [], harness := (true, "029814b2afe38229bbda7604b228469f3448db5a08589f4675414e47123c5bbe"), looks := false }, kinds := [], alts := [], laidByText := true, laidKinds := [.sentinel], laidTests := true, laidLooks := .later }
def FnBehindWriteTxnMarkersRequestUptoCardSaid : Prop := Claim7.holds Tryz.pinned (.plain (OpenSpec.upto fnBehindWriteTxnMarkersRequestSpec)) fnBehindWriteTxnMarkersRequestUptoCard

/-- THE SECOND FORM's CARD OF 'laws.FnBehindUpdateRaftVoterRequest'. -/
def fnBehindUpdateRaftVoterRequestUptoCard : Claim7 := { stood := { row := fnBehindUpdateRaftVoterRequestUptoRow, standIns := [], harness := (true, "029814b2afe38229bbda7604b228469f3448db5a08589f4675414e47123c5bbe"), looks := false }, kinds := [], alts := [], laidByText := true, laidKinds := [.sentinel], laidTests := true, laidLooks := .later }
def FnBehindUpdateRaftVoterRequestUptoCardSaid : Prop := Claim7.holds Tryz.pinned (.plain (OpenSpec.upto fnBehindUpdateRaftVoterRequestSpec)) fnBehindUpdateRaftVoterRequestUptoCard

/-- THE SECOND FORM's CARD OF 'laws.FnBehindReadShareGroupStateResponse'. -/
def fnBehindReadShareGroupStateResponseUptoCard : Claim7 := { stood := { row := fnBehindReadShareGroupStateResponseUptoRow, standIns := [], harness := (true, "029814b2afe38229bbda7604b228469f3448db5a08589f4675414e47123c5bbe"), looks := false }, kinds := [], alts := [], laidByText := true, laidKinds := [.sentinel], laidTests := true, laidLooks := .later }
def FnBehindReadShareGroupStateResponseUptoCardSaid : Prop := Claim7.holds Tryz.pinned (.plain (OpenSpec.upto fnBehindReadShareGroupStateResponseSpec)) fnBehindReadShareGroupStateResponseUptoCard

/-- THE SECOND FORM's CARD OF 'laws.FnBehindAlterPartitionRequest'. -/
def fnBehindAlterPartitionRequestUptoCard : Claim7 := { stood := { row := fnBehindAlterPartitionRequestUptoRow, standIns := [], harness := (true, "029814b2afe38229bbda7604b228469f3448db5a08589f4675414e47123c5bbe"), looks := false }, kinds := [], alts := [], laidByText := true, laidKinds := [.sentinel], laidTests := true, laidLooks := .later }
def FnBehindAlterPartitionRequestUptoCardSaid : Prop := Claim7.holds Tryz.pinned (.plain (OpenSpec.upto fnBehindAlterPartitionRequestSpec)) fnBehindAlterPartitionRequestUptoCard

/-- THE SECOND FORM's CARD OF 'laws.FnBehindDescribeDelegationTokenResponse'. -/
def fnBehindDescribeDelegationTokenResponseUptoCard : Claim7 := { stood := { row := fnBehindDescribeDelegationTokenResponseUptoRow, standIns := [], harness := (true, "029814b2afe38229bbda7604b228469f3448db5a08589f4675414e47123c5bbe"), looks := false }, kinds := [], alts := [], laidByText := true, laidKinds := [.sentinel], laidTests := true, laidLooks := .later }
def FnBehindDescribeDelegationTokenResponseUptoCardSaid : Prop := Claim7.holds Tryz.pinned (.plain (OpenSpec.upto fnBehindDescribeDelegationTokenResponseSpec)) fnBehindDescribeDelegationTokenResponseUptoCard
end Rows
end Go.Proofs.YtanohglljnajiaaGreatDoor
