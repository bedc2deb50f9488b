/-
  DERIVED. GIVEN WITH THE SEED: THE CARDS: each row of YbulktagFmtRows.lean that lists a variable, with what it lists TIED to the program's text (the seventh form; the later family's looks); each row that meets fmt, with fmt's text TOLD by the authors' own Lean function (tested against real Go, not proved from fmt's source: count such statements apart). THE CARD IS WHAT COUNTS. Prove the row's statement (the work); the ties are given (YbulktagFmtTie.lean); close each card by the builder's one call (the guide's Derived/Test/ToyasCard.lean, 'card_holds'). Laid BY PROGRAM, IN A SANDBOX (cutbox-door.mjs). By AI agents, Wed Nov 11 2026. No macro, syntax, notation, axiom, sorry.
-/
import Derived.Test.YbulktagFmtRows
import GoSem.ClaimSeven
namespace Go.Proofs.YbulktagFmt
namespace Rows

/-- THE TOLD AND TIED CARD OF 'ticket.LawS0968AMatchesRule'. -/
def lawS0968AMatchesRuleCard : Claim7 := { stood := { row := lawS0968AMatchesRuleRow, standIns := [], harness := (true, "3704f92b1d4f914a7d5e5038a6acae032d8c589af2329b3fd03e4d814306b2ef"), looks := false }, told := true, laidByText := true, laidKinds := [.data, .pinned], laidTests := true, laidLooks := .later, goes := false }
def LawS0968AMatchesRuleToldSaid : Prop := Claim7.holds Ybaf.pinned (.plain (OpenSpec.ofChange lawS0968AMatchesRuleSpec)) lawS0968AMatchesRuleCard
/-- ITS FALSE NEIGHBOUR. Refute it at one input. -/
def LawS0968AMatchesRuleToldWrongFalsely : Prop := Claim7.holds Ybaf.pinned (.plain (OpenSpec.ofChange lawS0968AMatchesRuleWrong)) lawS0968AMatchesRuleCard

/-- THE TOLD AND TIED CARD OF 'ticket.LawS0968ABuiltNames'. -/
def lawS0968ABuiltNamesCard : Claim7 := { stood := { row := lawS0968ABuiltNamesRow, standIns := [], harness := (true, "3704f92b1d4f914a7d5e5038a6acae032d8c589af2329b3fd03e4d814306b2ef"), looks := false }, told := true, laidByText := true, laidKinds := [.data, .pinned], laidTests := true, laidLooks := .later, goes := false }
def LawS0968ABuiltNamesToldSaid : Prop := Claim7.holds Ybaf.pinned (.plain (OpenSpec.ofChange lawS0968ABuiltNamesSpec)) lawS0968ABuiltNamesCard
/-- ITS FALSE NEIGHBOUR. Refute it at one input. -/
def LawS0968ABuiltNamesToldWrongFalsely : Prop := Claim7.holds Ybaf.pinned (.plain (OpenSpec.ofChange lawS0968ABuiltNamesWrong)) lawS0968ABuiltNamesCard

/-- THE TOLD CARD OF 'clip.LawS0968CAccepts'. -/
def lawS0968CAcceptsCard : Claim7 := { stood := { row := lawS0968CAcceptsRow, standIns := [], harness := (true, "3704f92b1d4f914a7d5e5038a6acae032d8c589af2329b3fd03e4d814306b2ef"), looks := false }, told := true, goes := false }
def LawS0968CAcceptsToldSaid : Prop := Claim7.holds Ybaf.pinned (.plain (OpenSpec.ofChange lawS0968CAcceptsSpec)) lawS0968CAcceptsCard
/-- ITS FALSE NEIGHBOUR. Refute it at one input. -/
def LawS0968CAcceptsToldWrongFalsely : Prop := Claim7.holds Ybaf.pinned (.plain (OpenSpec.ofChange lawS0968CAcceptsWrong)) lawS0968CAcceptsCard

/-- THE TOLD CARD OF 'clip.LawS0968CBoundary'. -/
def lawS0968CBoundaryCard : Claim7 := { stood := { row := lawS0968CBoundaryRow, standIns := [], harness := (true, "3704f92b1d4f914a7d5e5038a6acae032d8c589af2329b3fd03e4d814306b2ef"), looks := false }, told := true, goes := false }
def LawS0968CBoundaryToldSaid : Prop := Claim7.holds Ybaf.pinned (.plain (OpenSpec.ofChange lawS0968CBoundarySpec)) lawS0968CBoundaryCard
/-- ITS FALSE NEIGHBOUR. Refute it at one input. -/
def LawS0968CBoundaryToldWrongFalsely : Prop := Claim7.holds Ybaf.pinned (.plain (OpenSpec.ofChange lawS0968CBoundaryWrong)) lawS0968CBoundaryCard
end Rows
end Go.Proofs.YbulktagFmt
