/-
  DERIVED. GIVEN WITH THE SEED: THE CARDS: each row of YbulkswmDoorRows.lean that lists a variable, with what it lists TIED to the program's text (the seventh form; the later family's looks); each row that meets fmt, with fmt's text TOLD by the authors' own Lean function (tested against real Go, not proved from fmt's source: count such statements apart). THE CARD IS WHAT COUNTS. Prove the row's statement (the work); the ties are given (YbulkswmDoorTie.lean); close each card by the builder's one call (the guide's Derived/Test/ToyasCard.lean, 'card_holds'). Laid BY PROGRAM, IN A SANDBOX (cutbox-door.mjs). By AI agents, Wed Nov 11 2026. No macro, syntax, notation, axiom, sorry.
-/
import Derived.Test.YbulkswmDoorRows
import GoSem.ClaimSeven
namespace Go.Proofs.YbulkswmDoor
namespace Rows

/-- THE TIED CARD OF 'chronoglyph.LawS0961BExact'. -/
def lawS0961BExactCard : Claim7 := { stood := { row := lawS0961BExactRow, standIns := [], harness := (true, "66424da4ef48e46a46214090e988095f2c6ed08251a13f319f0f8f0407163782"), looks := false }, kinds := [], alts := [], laidByText := true, laidKinds := [.widerDeep], laidTests := true, laidLooks := .later }
def LawS0961BExactCardSaid : Prop := Claim7.holds Ybad.pinned (.plain (OpenSpec.ofChange lawS0961BExactSpec)) lawS0961BExactCard

/-- THE TIED CARD OF 'chronoglyph.LawS0961BEachLetter'. -/
def lawS0961BEachLetterCard : Claim7 := { stood := { row := lawS0961BEachLetterRow, standIns := [], harness := (true, "66424da4ef48e46a46214090e988095f2c6ed08251a13f319f0f8f0407163782"), looks := false }, kinds := [], alts := [], laidByText := true, laidKinds := [.widerDeep], laidTests := true, laidLooks := .later }
def LawS0961BEachLetterCardSaid : Prop := Claim7.holds Ybad.pinned (.plain (OpenSpec.ofChange lawS0961BEachLetterSpec)) lawS0961BEachLetterCard
end Rows
end Go.Proofs.YbulkswmDoor
