/-
  NARROWER THAN 'FOR EVERY INPUT', by the rows' own cells (each row's printed sentence says how): LawS0968AMatchesRule: laid · LawS0968ABuiltNames: laid.
  DERIVED. THE GIVEN ROWS OF THIS SEAT. 4 by the template 'for every input the law returns true; each argument reads behind the call as it read before'; 0 by the template 'total and deterministic' (their statements: YbulktagFmtTotals.lean).
  GIVEN WITH THE SEED: the statements are not yours to turn. If you find one false, say at which input.
  Laid BY PROGRAM, IN A SANDBOX (cutbox-rows.mjs): the forced cells as the released guide's own fill.sh prints them over the translation 7d70fa529d72fd3c… (all of the seat's roots in one cut). By AI agents, Wed Nov 11 2026. No macro, syntax, notation, axiom, sorry.
-/
import Derived.Test.YbulktagFmtChecked
import GoSem.PinnedTables
import GoSem.Claim
import GoSem.ClaimJoined
import GoSem.ClaimMapViews
import Derived.JoinedTies
import Derived.KernelRfl
namespace Go.Proofs.YbulktagFmt
/- THE CELL 'sum', in the pinned program and in every row, IS THE sha256 OF THE DUMP (.gsa) THAT YbulktagFmtProg.lean LOADS. Nothing in Lean hashes anything: it is a label: what it is worth is what the hold of that sum in a sandbox is worth. -/
noncomputable def Ybaf.pinned : Pinned := { name := "ybulktagfmt", sum := "7d70fa529d72fd3cec758828c56e312135059e62e1b5d821e78f5980c92b26f3", checked := Ybaf.checked }
namespace Rows
def none {H : Type} : Left H := { results := [], args := [] }

/- WHAT THE LISTED PACKAGE-LEVEL VARIABLES READ AS WHEN THE CALL BEGINS. Each datum BY PROGRAM (the guide's laid-datum.mjs) off the statement by which the dump's own 'gosem.cut.vars' lays the variable. In a bare row this is a premise. The card (YbulktagFmtCards.lean) ties it to the program's text. -/
def laid_unicode_utf8_acceptRanges {H : Type} : DataW H := .agg [.agg [.lit (.int .u8 128), .lit (.int .u8 191)], .agg [.lit (.int .u8 160), .lit (.int .u8 191)], .agg [.lit (.int .u8 128), .lit (.int .u8 159)], .agg [.lit (.int .u8 144), .lit (.int .u8 191)], .agg [.lit (.int .u8 128), .lit (.int .u8 143)], .agg [.lit (.int .u8 0), .lit (.int .u8 0)], .agg [.lit (.int .u8 0), .lit (.int .u8 0)], .agg [.lit (.int .u8 0), .lit (.int .u8 0)], .agg [.lit (.int .u8 0), .lit (.int .u8 0)], .agg [.lit (.int .u8 0), .lit (.int .u8 0)], .agg [.lit (.int .u8 0), .lit (.int .u8 0)], .agg [.lit (.int .u8 0), .lit (.int .u8 0)], .agg [.lit (.int .u8 0), .lit (.int .u8 0)], .agg [.lit (.int .u8 0), .lit (.int .u8 0)], .agg [.lit (.int .u8 0), .lit (.int .u8 0)], .agg [.lit (.int .u8 0), .lit (.int .u8 0)]]
/-- One of Go's own tables, pinned by name: the form's constant. -/
def laid_unicode_utf8_first : DataW Unit := Go.Pinned.utf8First

/-- 'ticket.LawS0968AMatchesRule': WHATEVER THE INPUT: true; the input reads as it did. -/
def lawS0968AMatchesRuleSpec : ChangeSpec := { name := "lawS0968AMatchesRule", fn := fun _ => fun
  | [d] => { results := [.lit (.bool true)], args := [d] }
  | _ => none }
def lawS0968AMatchesRuleRow : OpenClaim := { program := "ybulktagfmt", sum := "7d70fa529d72fd3cec758828c56e312135059e62e1b5d821e78f5980c92b26f3", func := "example.com/telltoll/telltoll/ticket.LawS0968AMatchesRule", spec := "lawS0968AMatchesRule", stops := ["fmt.errorf"], inPlace := ["internal/bytealg.IndexByteString", "internal/bytealg.IndexString", "fmt.errorf"], named := ["unicode/utf8.first", "unicode/utf8.acceptRanges", "internal/bytealg.MaxLen"], apart := false, laid := [("unicode/utf8.acceptRanges", laid_unicode_utf8_acceptRanges), ("unicode/utf8.first", laid_unicode_utf8_first)] }
/-- NO THEOREM (fmt's text is open here; it may be false): for the released tool's asking of the row's closed facts alone. THE STATEMENT IS 'LawS0968AMatchesRuleToldSaid' (YbulktagFmtCards.lean). -/
def LawS0968AMatchesRuleFormAsk : Prop := lawS0968AMatchesRuleRow.holds Ybaf.pinned (OpenSpec.ofChange lawS0968AMatchesRuleSpec)

/-- ITS FALSE NEIGHBOUR: 'it returns false'. Refute it at one input. -/
def lawS0968AMatchesRuleWrong : ChangeSpec := { name := "lawS0968AMatchesRule", fn := fun _ => fun
  | [d] => { results := [.lit (.bool false)], args := [d] }
  | _ => none }
def LawS0968AMatchesRuleWrongFormAsk : Prop := lawS0968AMatchesRuleRow.holds Ybaf.pinned (OpenSpec.ofChange lawS0968AMatchesRuleWrong)

/-- 'ticket.LawS0968ABuiltNames': WHATEVER THE INPUT: true; the input reads as it did. -/
def lawS0968ABuiltNamesSpec : ChangeSpec := { name := "lawS0968ABuiltNames", fn := fun _ => fun
  | [d1, d2, d3] => { results := [.lit (.bool true)], args := [d1, d2, d3] }
  | _ => none }
def lawS0968ABuiltNamesRow : OpenClaim := { program := "ybulktagfmt", sum := "7d70fa529d72fd3cec758828c56e312135059e62e1b5d821e78f5980c92b26f3", func := "example.com/telltoll/telltoll/ticket.LawS0968ABuiltNames", spec := "lawS0968ABuiltNames", stops := ["fmt.errorf"], inPlace := ["internal/bytealg.IndexByteString", "internal/bytealg.IndexString", "fmt.errorf"], named := ["unicode/utf8.first", "unicode/utf8.acceptRanges", "internal/bytealg.MaxLen"], apart := false, laid := [("unicode/utf8.acceptRanges", laid_unicode_utf8_acceptRanges), ("unicode/utf8.first", laid_unicode_utf8_first)] }
/-- NO THEOREM (fmt's text is open here; it may be false): for the released tool's asking of the row's closed facts alone. THE STATEMENT IS 'LawS0968ABuiltNamesToldSaid' (YbulktagFmtCards.lean). -/
def LawS0968ABuiltNamesFormAsk : Prop := lawS0968ABuiltNamesRow.holds Ybaf.pinned (OpenSpec.ofChange lawS0968ABuiltNamesSpec)

/-- ITS FALSE NEIGHBOUR: 'it returns false'. Refute it at one input. -/
def lawS0968ABuiltNamesWrong : ChangeSpec := { name := "lawS0968ABuiltNames", fn := fun _ => fun
  | [d1, d2, d3] => { results := [.lit (.bool false)], args := [d1, d2, d3] }
  | _ => none }
def LawS0968ABuiltNamesWrongFormAsk : Prop := lawS0968ABuiltNamesRow.holds Ybaf.pinned (OpenSpec.ofChange lawS0968ABuiltNamesWrong)

/-- 'clip.LawS0968CAccepts': WHATEVER THE INPUT: true; the input reads as it did. -/
def lawS0968CAcceptsSpec : ChangeSpec := { name := "lawS0968CAccepts", fn := fun _ => fun
  | [d1, d2] => { results := [.lit (.bool true)], args := [d1, d2] }
  | _ => none }
def lawS0968CAcceptsRow : OpenClaim := { program := "ybulktagfmt", sum := "7d70fa529d72fd3cec758828c56e312135059e62e1b5d821e78f5980c92b26f3", func := "example.com/telltoll/telltoll/clip.LawS0968CAccepts", spec := "lawS0968CAccepts", stops := ["fmt.errorf"], inPlace := ["fmt.errorf"], unfollowed := true, recurses := true, apart := false }
/-- NO THEOREM (fmt's text is open here; it may be false): for the released tool's asking of the row's closed facts alone. THE STATEMENT IS 'LawS0968CAcceptsToldSaid' (YbulktagFmtCards.lean). -/
def LawS0968CAcceptsFormAsk : Prop := lawS0968CAcceptsRow.holds Ybaf.pinned (OpenSpec.ofChange lawS0968CAcceptsSpec)

/-- ITS FALSE NEIGHBOUR: 'it returns false'. Refute it at one input. -/
def lawS0968CAcceptsWrong : ChangeSpec := { name := "lawS0968CAccepts", fn := fun _ => fun
  | [d1, d2] => { results := [.lit (.bool false)], args := [d1, d2] }
  | _ => none }
def LawS0968CAcceptsWrongFormAsk : Prop := lawS0968CAcceptsRow.holds Ybaf.pinned (OpenSpec.ofChange lawS0968CAcceptsWrong)

/-- 'clip.LawS0968CBoundary': WHATEVER THE INPUT: true; the input reads as it did. -/
def lawS0968CBoundarySpec : ChangeSpec := { name := "lawS0968CBoundary", fn := fun _ => fun
  | [d1, d2] => { results := [.lit (.bool true)], args := [d1, d2] }
  | _ => none }
def lawS0968CBoundaryRow : OpenClaim := { program := "ybulktagfmt", sum := "7d70fa529d72fd3cec758828c56e312135059e62e1b5d821e78f5980c92b26f3", func := "example.com/telltoll/telltoll/clip.LawS0968CBoundary", spec := "lawS0968CBoundary", stops := ["fmt.errorf"], inPlace := ["fmt.errorf"], unfollowed := true, recurses := true, apart := false }
/-- NO THEOREM (fmt's text is open here; it may be false): for the released tool's asking of the row's closed facts alone. THE STATEMENT IS 'LawS0968CBoundaryToldSaid' (YbulktagFmtCards.lean). -/
def LawS0968CBoundaryFormAsk : Prop := lawS0968CBoundaryRow.holds Ybaf.pinned (OpenSpec.ofChange lawS0968CBoundarySpec)

/-- ITS FALSE NEIGHBOUR: 'it returns false'. Refute it at one input. -/
def lawS0968CBoundaryWrong : ChangeSpec := { name := "lawS0968CBoundary", fn := fun _ => fun
  | [d1, d2] => { results := [.lit (.bool false)], args := [d1, d2] }
  | _ => none }
def LawS0968CBoundaryWrongFormAsk : Prop := lawS0968CBoundaryRow.holds Ybaf.pinned (OpenSpec.ofChange lawS0968CBoundaryWrong)

end Rows
end Go.Proofs.YbulktagFmt
