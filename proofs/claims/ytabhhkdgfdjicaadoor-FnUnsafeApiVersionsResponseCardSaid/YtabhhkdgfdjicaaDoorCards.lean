/-
  DERIVED. GIVEN WITH THE SEED: THE CARDS: each row of YtabhhkdgfdjicaaDoorRows.lean that lists a variable, with what it lists TIED to the program's text (the seventh form; the later family's looks); each row that meets fmt, with fmt's text TOLD by the authors' own Lean function (tested against real Go, not proved from fmt's source: count such statements apart). THE CARD IS WHAT COUNTS. Prove the row's statement (the work); the ties are given (YtabhhkdgfdjicaaDoorTie.lean); close each card by the builder's one call (the guide's Derived/Test/ToyasCard.lean, 'card_holds'). Laid BY PROGRAM, IN A SANDBOX (cutbox-door.mjs). By AI agents, Wed Nov 11 2026. No macro, syntax, notation, axiom, sorry.
-/
import Derived.Test.YtabhhkdgfdjicaaDoorRows
import GoSem.ClaimSeven
namespace Go.Proofs.YtabhhkdgfdjicaaDoor
namespace Rows

/-- THE TIED CARD OF 'laws.FnUnsafeApiVersionsResponse'. -/
def fnUnsafeApiVersionsResponseCard : Claim7 := { stood := { row := fnUnsafeApiVersionsResponseRow, standIns := [], harness := (true, "083f4f059d8de36d18b2e200b1ed8cd3d6d4f68575581bb00fe4af3cc5288ed2"), looks := false }, kinds := [], alts := [], laidByText := true, laidKinds := [.sentinel], laidTests := true, laidLooks := .later }
def FnUnsafeApiVersionsResponseCardSaid : Prop := Claim7.holds Tryd.pinned (.plain (OpenSpec.ofChange fnUnsafeApiVersionsResponseSpec)) fnUnsafeApiVersionsResponseCard

/-- THE SECOND FORM's CARD OF 'laws.FnUnsafeApiVersionsResponse'. -/
def fnUnsafeApiVersionsResponseUptoCard : Claim7 := { stood := { row := fnUnsafeApiVersionsResponseUptoRow, standIns := [], harness := (true, "083f4f059d8de36d18b2e200b1ed8cd3d6d4f68575581bb00fe4af3cc5288ed2"), looks := false }, kinds := [], alts := [], laidByText := true, laidKinds := [.sentinel], laidTests := true, laidLooks := .later }
def FnUnsafeApiVersionsResponseUptoCardSaid : Prop := Claim7.holds Tryd.pinned (.plain (OpenSpec.upto fnUnsafeApiVersionsResponseSpec)) fnUnsafeApiVersionsResponseUptoCard
end Rows
end Go.Proofs.YtabhhkdgfdjicaaDoor
