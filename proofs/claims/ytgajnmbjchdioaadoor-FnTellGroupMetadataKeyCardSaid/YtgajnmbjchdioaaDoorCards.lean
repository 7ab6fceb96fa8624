/-
  DERIVED. GIVEN WITH THE SEED: THE CARDS: each row of YtgajnmbjchdioaaDoorRows.lean that lists a variable, with what it lists TIED to the program's text (the seventh form; the later family's looks); each row that meets fmt, with fmt's text TOLD by the authors' own Lean function (tested against real Go, not proved from fmt's source: count such statements apart). THE CARD IS WHAT COUNTS. Prove the row's statement (the work); the ties are given (YtgajnmbjchdioaaDoorTie.lean); close each card by the builder's one call (the guide's Derived/Test/ToyasCard.lean, 'card_holds'). Laid BY PROGRAM, IN A SANDBOX (cutbox-door.mjs). By AI agents, Wed Nov 11 2026. No macro, syntax, notation, axiom, sorry.
-/
import Derived.Test.YtgajnmbjchdioaaDoorRows
import GoSem.ClaimSeven
namespace Go.Proofs.YtgajnmbjchdioaaDoor
namespace Rows

/-- THE TIED CARD OF 'laws.FnTellGroupMetadataKey'. -/
def fnTellGroupMetadataKeyCard : Claim7 := { stood := { row := fnTellGroupMetadataKeyRow, standIns := [], harness := (true, "c1dc9b1f70ac6b7f46448937a02d2dc40e6b04cc0acdaa4e1eaab7f40aaceaee"), looks := false }, kinds := [], alts := [], laidByText := true, laidKinds := [.sentinel], laidTests := true, laidLooks := .later }
def FnTellGroupMetadataKeyCardSaid : Prop := Claim7.holds Tryd.pinned (.plain (OpenSpec.ofChange fnTellGroupMetadataKeySpec)) fnTellGroupMetadataKeyCard

/-- THE SECOND FORM's CARD OF 'laws.FnTellGroupMetadataKey'. -/
def fnTellGroupMetadataKeyUptoCard : Claim7 := { stood := { row := fnTellGroupMetadataKeyUptoRow, standIns := [], harness := (true, "c1dc9b1f70ac6b7f46448937a02d2dc40e6b04cc0acdaa4e1eaab7f40aaceaee"), looks := false }, kinds := [], alts := [], laidByText := true, laidKinds := [.sentinel], laidTests := true, laidLooks := .later }
def FnTellGroupMetadataKeyUptoCardSaid : Prop := Claim7.holds Tryd.pinned (.plain (OpenSpec.upto fnTellGroupMetadataKeySpec)) fnTellGroupMetadataKeyUptoCard
end Rows
end Go.Proofs.YtgajnmbjchdioaaDoor
