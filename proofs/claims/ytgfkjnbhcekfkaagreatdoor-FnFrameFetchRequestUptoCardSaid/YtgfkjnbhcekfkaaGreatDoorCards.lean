/-
  DERIVED. GIVEN WITH THE SEED: THE CARDS: each row of YtgfkjnbhcekfkaaGreatDoorRows.lean that lists a variable, with what it lists TIED to the program's text (the seventh form; the later family's looks); each row that meets fmt, with fmt's text TOLD by the authors' own Lean function (tested against real Go, not proved from fmt's source: count such statements apart). THE CARD IS WHAT COUNTS. Prove the row's statement (the work); the ties are given (YtgfkjnbhcekfkaaGreatDoorTie.lean); close each card by the builder's one call (the guide's Derived/Test/ToyasCard.lean, 'card_holds'). Laid BY PROGRAM, IN A SANDBOX (cutbox-door.mjs). By AI agents, Wed Nov 11 2026. No macro, syntax, notation, axiom, sorry.
-/
import Derived.Test.YtgfkjnbhcekfkaaGreatDoorRows
import GoSem.ClaimSeven
namespace Go.Proofs.YtgfkjnbhcekfkaaGreatDoor
namespace Rows

/-- THE TIED CARD OF 'laws.FnFrameFetchRequest'. -/
def fnFrameFetchRequestCard : Claim7 := { stood := { row := fnFrameFetchRequestRow, standIns := [], harness := (true, "462f2d4135698052db598cfcbb150c09b1bd2c6af5fa7e5d0337c7db73852ec6"), looks := false }, kinds := [], alts := [], laidByText := true, laidKinds := [.sentinel], laidTests := true, laidLooks := .later }
def FnFrameFetchRequestCardSaid : Prop := Claim7.holds Tryz.pinned (.plain (OpenSpec.ofChange fnFrameFetchRequestSpec)) fnFrameFetchRequestCard

/-- THE SECOND FORM's CARD OF 'laws.FnFrameFetchRequest'. -/
def fnFrameFetchRequestUptoCard : Claim7 := { stood := { row := fnFrameFetchRequestUptoRow, standIns := [], harness := (true, "462f2d4135698052db598cfcbb150c09b1bd2c6af5fa7e5d0337c7db73852ec6"), looks := false }, kinds := [], alts := [], laidByText := true, laidKinds := [.sentinel], laidTests := true, laidLooks := .later }
def FnFrameFetchRequestUptoCardSaid : Prop := Claim7.holds Tryz.pinned (.plain (OpenSpec.upto fnFrameFetchRequestSpec)) fnFrameFetchRequestUptoCard
end Rows
end Go.Proofs.YtgfkjnbhcekfkaaGreatDoor
