/-
  DERIVED. GIVEN WITH THE SEED: THE CARDS: each row of YtlnhbbpmlfaakaaGreatDoorRRows.lean that lists a variable, with what it lists TIED to the program's text (the seventh form; the later family's looks); each row that meets fmt, with fmt's text TOLD by the authors' own Lean function (tested against real Go, not proved from fmt's source: count such statements apart). THE CARD IS WHAT COUNTS. Prove the row's statement (the work); the ties are given (YtlnhbbpmlfaakaaGreatDoorRTie.lean); close each card by the builder's one call (the guide's Derived/Test/ToyasCard.lean, 'card_holds'). Laid BY PROGRAM, IN A SANDBOX (cutbox-door.mjs). By AI agents, Wed Nov 11 2026. No macro, syntax, notation, axiom, sorry.
-/
import Derived.Test.YtlnhbbpmlfaakaaGreatDoorRRows
import GoSem.ClaimSeven
namespace Go.Proofs.YtlnhbbpmlfaakaaGreatDoorR
namespace Rows

/-- THE TIED CARD OF 'laws.FnFrameOffsetFetchRequest'. -/
def fnFrameOffsetFetchRequestCard : Claim7 := { stood := { row := fnFrameOffsetFetchRequestRow, standIns := [], harness := (true, "4231864b5419aa83d10c34e9ca109a58fbae50475f085b61afbe26b0cfef6980"), looks := false }, kinds := [], alts := [], laidByText := true, laidKinds := [.sentinel], laidTests := true, laidLooks := .later }
def FnFrameOffsetFetchRequestCardSaid : Prop := Claim7.holds Tryz.pinned (.plain (OpenSpec.ofChange fnFrameOffsetFetchRequestSpec)) fnFrameOffsetFetchRequestCard

/-- THE SECOND FORM's CARD OF 'laws.FnFrameOffsetFetchRequest'. -/
def fnFrameOffsetFetchRequestUptoCard : Claim7 := { stood := { row := fnFrameOffsetFetchRequestUptoRow, standIns := [], harness := (true, "4231864b5419aa83d10c34e9ca109a58fbae50475f085b61afbe26b0cfef6980"), looks := false }, kinds := [], alts := [], laidByText := true, laidKinds := [.sentinel], laidTests := true, laidLooks := .later }
def FnFrameOffsetFetchRequestUptoCardSaid : Prop := Claim7.holds Tryz.pinned (.plain (OpenSpec.upto fnFrameOffsetFetchRequestSpec)) fnFrameOffsetFetchRequestUptoCard
end Rows
end Go.Proofs.YtlnhbbpmlfaakaaGreatDoorR
