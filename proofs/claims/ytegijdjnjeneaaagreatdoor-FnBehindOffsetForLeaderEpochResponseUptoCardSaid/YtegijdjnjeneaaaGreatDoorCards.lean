/-
  DERIVED. GIVEN WITH THE SEED: THE CARDS: each row of YtegijdjnjeneaaaGreatDoorRows.lean that lists a variable, with what it lists TIED to the program's text (the seventh form; the later family's looks); each row that meets fmt, with fmt's text TOLD by the authors' own Lean function (tested against real Go, not proved from fmt's source: count such statements apart). THE CARD IS WHAT COUNTS. Prove the row's statement (the work); the ties are given (YtegijdjnjeneaaaGreatDoorTie.lean); close each card by the builder's one call (the guide's Derived/Test/ToyasCard.lean, 'card_holds'). Laid BY PROGRAM, IN A SANDBOX (cutbox-door.mjs). By AI agents, Wed Nov 11 2026. No macro, syntax, notation, axiom, sorry.
-/
import Derived.Test.YtegijdjnjeneaaaGreatDoorRows
import GoSem.ClaimSeven
namespace Go.Proofs.YtegijdjnjeneaaaGreatDoor
namespace Rows

/-- THE TIED CARD OF 'laws.FnBehindOffsetCommitResponse'. -/
def fnBehindOffsetCommitResponseCard : Claim7 := { stood := { row := fnBehindOffsetCommitResponseRow, standIns := [], harness := (true, "412fa504dfdca205c76b2e615e025e3e7fcc4104b70cb1743db48767e77b6c2c"), looks := false }, kinds := [], alts := [], laidByText := true, laidKinds := [.sentinel], laidTests := true, laidLooks := .later }
def FnBehindOffsetCommitResponseCardSaid : Prop := Claim7.holds Tryz.pinned (.plain (OpenSpec.ofChange fnBehindOffsetCommitResponseSpec)) fnBehindOffsetCommitResponseCard

/-- THE TIED CARD OF 'laws.FnBehindTxnOffsetCommitResponse'. -/
def fnBehindTxnOffsetCommitResponseCard : Claim7 := { stood := { row := fnBehindTxnOffsetCommitResponseRow, standIns := [], harness := (true, "412fa504dfdca205c76b2e615e025e3e7fcc4104b70cb1743db48767e77b6c2c"), looks := false }, kinds := [], alts := [], laidByText := true, laidKinds := [.sentinel], laidTests := true, laidLooks := .later }
def FnBehindTxnOffsetCommitResponseCardSaid : Prop := Claim7.holds Tryz.pinned (.plain (OpenSpec.ofChange fnBehindTxnOffsetCommitResponseSpec)) fnBehindTxnOffsetCommitResponseCard

/-- THE TIED CARD OF 'laws.FnBehindInitializeShareGroupStateResponse'. -/
def fnBehindInitializeShareGroupStateResponseCard : Claim7 := { stood := { row := fnBehindInitializeShareGroupStateResponseRow, standIns := [], harness := (true, "412fa504dfdca205c76b2e615e025e3e7fcc4104b70cb1743db48767e77b6c2c"), looks := false }, kinds := [], alts := [], laidByText := true, laidKinds := [.sentinel], laidTests := true, laidLooks := .later }
def FnBehindInitializeShareGroupStateResponseCardSaid : Prop := Claim7.holds Tryz.pinned (.plain (OpenSpec.ofChange fnBehindInitializeShareGroupStateResponseSpec)) fnBehindInitializeShareGroupStateResponseCard

/-- THE TIED CARD OF 'laws.FnBehindOffsetForLeaderEpochResponse'. -/
def fnBehindOffsetForLeaderEpochResponseCard : Claim7 := { stood := { row := fnBehindOffsetForLeaderEpochResponseRow, standIns := [], harness := (true, "412fa504dfdca205c76b2e615e025e3e7fcc4104b70cb1743db48767e77b6c2c"), looks := false }, kinds := [], alts := [], laidByText := true, laidKinds := [.sentinel], laidTests := true, laidLooks := .later }
def FnBehindOffsetForLeaderEpochResponseCardSaid : Prop := Claim7.holds Tryz.pinned (.plain (OpenSpec.ofChange fnBehindOffsetForLeaderEpochResponseSpec)) fnBehindOffsetForLeaderEpochResponseCard

/-- THE TIED CARD OF 'laws.FnBehindUpdateFeaturesResponse'. -/
def fnBehindUpdateFeaturesResponseCard : Claim7 := { stood := { row := fnBehindUpdateFeaturesResponseRow, standIns := [], harness := (true, "412fa504dfdca205c76b2e615e025e3e7fcc4104b70cb1743db48767e77b6c2c"), looks := false }, kinds := [], alts := [], laidByText := true, laidKinds := [.sentinel], laidTests := true, laidLooks := .later }
def FnBehindUpdateFeaturesResponseCardSaid : Prop := Claim7.holds Tryz.pinned (.plain (OpenSpec.ofChange fnBehindUpdateFeaturesResponseSpec)) fnBehindUpdateFeaturesResponseCard

/-- THE SECOND FORM's CARD OF 'laws.FnBehindOffsetCommitResponse'. -/
def fnBehindOffsetCommitResponseUptoCard : Claim7 := { stood := { row := fnBehindOffsetCommitResponseUptoRow, standIns := [], harness := (true, "412fa504dfdca205c76b2e615e025e3e7fcc4104b70cb1743db48767e77b6c2c"), looks := false }, kinds := [], alts := [], laidByText := true, laidKinds := [.sentinel], laidTests := true, laidLooks := .later }
def FnBehindOffsetCommitResponseUptoCardSaid : Prop := Claim7.holds Tryz.pinned (.plain (OpenSpec.upto fnBehindOffsetCommitResponseSpec)) fnBehindOffsetCommitResponseUptoCard

/-- THE SECOND FORM's CARD OF 'laws.FnBehindTxnOffsetCommitResponse'. -/
def fnBehindTxnOffsetCommitResponseUptoCard : Claim7 := { stood := { row := fnBehindTxnOffsetCommitResponseUptoRow, standIns := [], harness := (true, "412fa504dfdca205c76b2e615e025e3e7fcc4104b70cb1743db48767e77b6c2c"), looks := false }, kinds := [], alts := [], laidByText := true, laidKinds := [.sentinel], laidTests := true, laidLooks := .later }
def FnBehindTxnOffsetCommitResponseUptoCardSaid : Prop := Claim7.holds Tryz.pinned (.plain (OpenSpec.upto fnBehindTxnOffsetCommitResponseSpec)) fnBehindTxnOffsetCommitResponseUptoCard

/-- THE SECOND FORM's CARD OF 'laws.FnBehindInitializeShareGroupStateResponse'. -/
def fnBehindInitializeShareGroupStateResponseUptoCard : Claim7 := { stood := { row := fnBehindInitializeShareGroupStateResponseUptoRow, standIns := [], harness := (true, "412fa504dfdca205c76b2e615e025e3e7fcc4104b70cb1743db48767e77b6c2c"), looks := false }, kinds := [], alts := [], laidByText := true, laidKinds := [.sentinel], laidTests := true, laidLooks := .later }
def FnBehindInitializeShareGroupStateResponseUptoCardSaid : Prop := Claim7.holds Tryz.pinned (.plain (OpenSpec.upto fnBehindInitializeShareGroupStateResponseSpec)) fnBehindInitializeShareGroupStateResponseUptoCard

/-- THE SECOND FORM's CARD OF 'laws.FnBehindOffsetForLeaderEpochResponse'. -/
def fnBehindOffsetForLeaderEpochResponseUptoCard : Claim7 := { stood := { row := fnBehindOffsetForLeaderEpochResponseUptoRow, standIns := [], harness := (true, "412fa504dfdca205c76b2e615e025e3e7fcc4104b70cb1743db48767e77b6c2c"), looks := false }, kinds := [], alts := [], laidByText := true, laidKinds := [.sentinel], laidTests := true, laidLooks := .later }
def FnBehindOffsetForLeaderEpochResponseUptoCardSaid : Prop := Claim7.holds Tryz.pinned (.plain (OpenSpec.upto fnBehindOffsetForLeaderEpochResponseSpec)) fnBehindOffsetForLeaderEpochResponseUptoCard

/-- THE SECOND FORM's CARD OF 'laws.FnBehindUpdateFeaturesResponse'. -/
def fnBehindUpdateFeaturesResponseUptoCard : Claim7 := { stood := { row := fnBehindUpdateFeaturesResponseUptoRow, standIns := [], harness := (true, "412fa504dfdca205c76b2e615e025e3e7fcc4104b70cb1743db48767e77b6c2c"), looks := false }, kinds := [], alts := [], laidByText := true, laidKinds := [.sentinel], laidTests := true, laidLooks := .later }
def FnBehindUpdateFeaturesResponseUptoCardSaid : Prop := Claim7.holds Tryz.pinned (.plain (OpenSpec.upto fnBehindUpdateFeaturesResponseSpec)) fnBehindUpdateFeaturesResponseUptoCard
end Rows
end Go.Proofs.YtegijdjnjeneaaaGreatDoor
