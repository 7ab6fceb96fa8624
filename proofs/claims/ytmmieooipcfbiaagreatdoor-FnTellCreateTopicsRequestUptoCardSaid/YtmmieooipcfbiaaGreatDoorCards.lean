/-
  DERIVED. GIVEN WITH THE SEED: THE CARDS: each row of YtmmieooipcfbiaaGreatDoorRows.lean that lists a variable, with what it lists TIED to the program's text (the seventh form; the later family's looks); each row that meets fmt, with fmt's text TOLD by the authors' own Lean function (tested against real Go, not proved from fmt's source: count such statements apart). THE CARD IS WHAT COUNTS. Prove the row's statement (the work); the ties are given (YtmmieooipcfbiaaGreatDoorTie.lean); close each card by the builder's one call (the guide's Derived/Test/ToyasCard.lean, 'card_holds'). Laid BY PROGRAM, IN A SANDBOX (cutbox-door.mjs). By AI agents, Wed Nov 11 2026. No macro, syntax, notation, axiom, sorry.
-/
import Derived.Test.YtmmieooipcfbiaaGreatDoorRows
import GoSem.ClaimSeven
namespace Go.Proofs.YtmmieooipcfbiaaGreatDoor
namespace Rows

/-- THE TIED CARD OF 'laws.FnTellListTransactionsRequest'. -/
def fnTellListTransactionsRequestCard : Claim7 := { stood := { row := fnTellListTransactionsRequestRow, standIns := [], harness := (true, "b9bea4cd84a96c500e00fe00f87f87170cdc3bbab083611a2d9657ddddee8332"), looks := false }, kinds := [], alts := [], laidByText := true, laidKinds := [.sentinel], laidTests := true, laidLooks := .later }
def FnTellListTransactionsRequestCardSaid : Prop := Claim7.holds Tryz.pinned (.plain (OpenSpec.ofChange fnTellListTransactionsRequestSpec)) fnTellListTransactionsRequestCard

/-- THE TIED CARD OF 'laws.FnTellStopReplicaRequest'. -/
def fnTellStopReplicaRequestCard : Claim7 := { stood := { row := fnTellStopReplicaRequestRow, standIns := [], harness := (true, "b9bea4cd84a96c500e00fe00f87f87170cdc3bbab083611a2d9657ddddee8332"), looks := false }, kinds := [], alts := [], laidByText := true, laidKinds := [.sentinel], laidTests := true, laidLooks := .later }
def FnTellStopReplicaRequestCardSaid : Prop := Claim7.holds Tryz.pinned (.plain (OpenSpec.ofChange fnTellStopReplicaRequestSpec)) fnTellStopReplicaRequestCard

/-- THE TIED CARD OF 'laws.FnTellBeginQuorumEpochRequest'. -/
def fnTellBeginQuorumEpochRequestCard : Claim7 := { stood := { row := fnTellBeginQuorumEpochRequestRow, standIns := [], harness := (true, "b9bea4cd84a96c500e00fe00f87f87170cdc3bbab083611a2d9657ddddee8332"), looks := false }, kinds := [], alts := [], laidByText := true, laidKinds := [.sentinel], laidTests := true, laidLooks := .later }
def FnTellBeginQuorumEpochRequestCardSaid : Prop := Claim7.holds Tryz.pinned (.plain (OpenSpec.ofChange fnTellBeginQuorumEpochRequestSpec)) fnTellBeginQuorumEpochRequestCard

/-- THE TIED CARD OF 'laws.FnTellCreateTopicsRequest'. -/
def fnTellCreateTopicsRequestCard : Claim7 := { stood := { row := fnTellCreateTopicsRequestRow, standIns := [], harness := (true, "b9bea4cd84a96c500e00fe00f87f87170cdc3bbab083611a2d9657ddddee8332"), looks := false }, kinds := [], alts := [], laidByText := true, laidKinds := [.sentinel], laidTests := true, laidLooks := .later }
def FnTellCreateTopicsRequestCardSaid : Prop := Claim7.holds Tryz.pinned (.plain (OpenSpec.ofChange fnTellCreateTopicsRequestSpec)) fnTellCreateTopicsRequestCard

/-- THE TIED CARD OF 'laws.FnTellShareFetchRequest'. -/
def fnTellShareFetchRequestCard : Claim7 := { stood := { row := fnTellShareFetchRequestRow, standIns := [], harness := (true, "b9bea4cd84a96c500e00fe00f87f87170cdc3bbab083611a2d9657ddddee8332"), looks := false }, kinds := [], alts := [], laidByText := true, laidKinds := [.sentinel], laidTests := true, laidLooks := .later }
def FnTellShareFetchRequestCardSaid : Prop := Claim7.holds Tryz.pinned (.plain (OpenSpec.ofChange fnTellShareFetchRequestSpec)) fnTellShareFetchRequestCard

/-- THE SECOND FORM's CARD OF 'laws.FnTellListTransactionsRequest'. -/
def fnTellListTransactionsRequestUptoCard : Claim7 := { stood := { row := fnTellListTransactionsRequestUptoRow, standIns := [], harness := (true, "b9bea4cd84a96c500e00fe00f87f87170cdc3bbab083611a2d9657ddddee8332"), looks := false }, kinds := [], alts := [], laidByText := true, laidKinds := [.sentinel], laidTests := true, laidLooks := .later }
def FnTellListTransactionsRequestUptoCardSaid : Prop := Claim7.holds Tryz.pinned (.plain (OpenSpec.upto fnTellListTransactionsRequestSpec)) fnTellListTransactionsRequestUptoCard

/-- THE SECOND FORM's CARD OF 'laws.FnTellStopReplicaRequest'. -/
def fnTellStopReplicaRequestUptoCard : Claim7 := { stood := { row := fnTellStopReplicaRequestUptoRow, standIns := [], harness := (true, "b9bea4cd84a96c500e00fe00f87f87170cdc3bbab083611a2d9657ddddee8332"), looks := false }, kinds := [], alts := [], laidByText := true, laidKinds := [.sentinel], laidTests := true, laidLooks := .later }
def FnTellStopReplicaRequestUptoCardSaid : Prop := Claim7.holds Tryz.pinned (.plain (OpenSpec.upto fnTellStopReplicaRequestSpec)) fnTellStopReplicaRequestUptoCard

/-- THE SECOND FORM's CARD OF 'laws.FnTellBeginQuorumEpochRequest'. -/
def fnTellBeginQuorumEpochRequestUptoCard : Claim7 := { stood := { row := fnTellBeginQuorumEpochRequestUptoRow, standIns := [], harness := (true, "b9bea4cd84a96c500e00fe00f87f87170cdc3bbab083611a2d9657ddddee8332"), looks := false }, kinds := [], alts := [], laidByText := true, laidKinds := [.sentinel], laidTests := true, laidLooks := .later }
def FnTellBeginQuorumEpochRequestUptoCardSaid : Prop := Claim7.holds Tryz.pinned (.plain (OpenSpec.upto fnTellBeginQuorumEpochRequestSpec)) fnTellBeginQuorumEpochRequestUptoCard

/-- THE SECOND FORM's CARD OF 'laws.FnTellCreateTopicsRequest'. -/
def fnTellCreateTopicsRequestUptoCard : Claim7 := { stood := { row := fnTellCreateTopicsRequestUptoRow, standIns := [], harness := (true, "b9bea4cd84a96c500e00fe00f87f87170cdc3bbab083611a2d9657ddddee8332"), looks := false }, kinds := [], alts := [], laidByText := true, laidKinds := [.sentinel], laidTests := true, laidLooks := .later }
def FnTellCreateTopicsRequestUptoCardSaid : Prop := Claim7.holds Tryz.pinned (.plain (OpenSpec.upto fnTellCreateTopicsRequestSpec)) fnTellCreateTopicsRequestUptoCard

/-- THE SECOND FORM's CARD OF 'laws.FnTellShareFetchRequest'. -/
def fnTellShareFetchRequestUptoCard : Claim7 := { stood := { row := fnTellShareFetchRequestUptoRow, standIns := [], harness := (true, "b9bea4cd84a96c500e00fe00f87f87170cdc3bbab083611a2d9657ddddee8332"), looks := false }, kinds := [], alts := [], laidByText := true, laidKinds := [.sentinel], laidTests := true, laidLooks := .later }
def FnTellShareFetchRequestUptoCardSaid : Prop := Claim7.holds Tryz.pinned (.plain (OpenSpec.upto fnTellShareFetchRequestSpec)) fnTellShareFetchRequestUptoCard
end Rows
end Go.Proofs.YtmmieooipcfbiaaGreatDoor
