/-
  NARROWER THAN 'FOR EVERY INPUT', by the rows' own cells (each row's printed sentence says how): LawS0961BExact: laid · LawS0961BEachLetter: laid.
  DERIVED. THE GIVEN ROWS OF THIS SEAT. 2 by the template 'for every input the law returns true; each argument reads behind the call as it read before'; 0 by the template 'total and deterministic' (their statements: YbulkswmDoorTotals.lean).
  GIVEN WITH THE SEED: the statements are not yours to turn. If you find one false, say at which input.
  Laid BY PROGRAM, IN A SANDBOX (cutbox-rows.mjs): the forced cells as the released guide's own fill.sh prints them over the translation 5cd630602ca64b92… (all of the seat's roots in one cut). By AI agents, Wed Nov 11 2026. No macro, syntax, notation, axiom, sorry.
-/
import Derived.Test.YbulkswmDoorChecked
import GoSem.Claim
import GoSem.ClaimJoined
import GoSem.ClaimMapViews
import Derived.JoinedTies
import Derived.KernelRfl
namespace Go.Proofs.YbulkswmDoor
/- THE CELL 'sum', in the pinned program and in every row, IS THE sha256 OF THE DUMP (.gsa) THAT YbulkswmDoorProg.lean LOADS. Nothing in Lean hashes anything: it is a label: what it is worth is what the hold of that sum in a sandbox is worth. -/
noncomputable def Ybad.pinned : Pinned := { name := "ybulkswmdoor", sum := "5cd630602ca64b92d66f7cff6dfb347b04df2d27e857a6f0c05b563698ccc5ca", checked := Ybad.checked }
namespace Rows
def none {H : Type} : Left H := { results := [], args := [] }

/- WHAT THE LISTED PACKAGE-LEVEL VARIABLES READ AS WHEN THE CALL BEGINS. Each datum BY PROGRAM (the guide's laid-datum.mjs) off the statement by which the dump's own 'gosem.cut.vars' lays the variable. In a bare row this is a premise. The card (YbulkswmDoorCards.lean) ties it to the program's text. -/
def laid_example_com_chronoglyph_chronoglyph_symbols {H : Type} : DataW H := .agg [.agg [.lit (.int .u8 121), .lit (.int .u8 3), .lit (.int .i64 0), .lit (.int .u8 7), .lit (.string [121, 101, 97, 114]), .lit (.int .i64 (-9999)), .lit (.int .i64 9999)], .agg [.lit (.int .u8 77), .lit (.int .u8 2), .lit (.int .i64 1), .lit (.int .u8 7), .lit (.string [109, 111, 110, 116, 104]), .lit (.int .i64 1), .lit (.int .i64 12)], .agg [.lit (.int .u8 100), .lit (.int .u8 2), .lit (.int .i64 2), .lit (.int .u8 7), .lit (.string [100, 97, 121]), .lit (.int .i64 1), .lit (.int .i64 31)], .agg [.lit (.int .u8 68), .lit (.int .u8 2), .lit (.int .i64 6), .lit (.int .u8 7), .lit (.string [100, 97, 121, 32, 111, 102, 32, 116, 104, 101, 32, 121, 101, 97, 114]), .lit (.int .i64 1), .lit (.int .i64 366)], .agg [.lit (.int .u8 71), .lit (.int .u8 5), .lit (.int .i64 (-1)), .lit (.int .u8 7), .lit (.string []), .lit (.int .i64 0), .lit (.int .i64 0)], .agg [.lit (.int .u8 69), .lit (.int .u8 9), .lit (.int .i64 11), .lit (.int .u8 7), .lit (.string []), .lit (.int .i64 0), .lit (.int .i64 0)], .agg [.lit (.int .u8 101), .lit (.int .u8 2), .lit (.int .i64 11), .lit (.int .u8 7), .lit (.string [100, 97, 121, 32, 111, 102, 32, 116, 104, 101, 32, 119, 101, 101, 107]), .lit (.int .i64 1), .lit (.int .i64 7)], .agg [.lit (.int .u8 70), .lit (.int .u8 2), .lit (.int .i64 10), .lit (.int .u8 7), .lit (.string [100, 97, 121, 32, 111, 102, 32, 116, 104, 101, 32, 119, 101, 101, 107, 32, 105, 110, 32, 116, 104, 101, 32, 109, 111, 110, 116, 104]), .lit (.int .i64 1), .lit (.int .i64 5)], .agg [.lit (.int .u8 87), .lit (.int .u8 2), .lit (.int .i64 9), .lit (.int .u8 7), .lit (.string [119, 101, 101, 107, 32, 111, 102, 32, 116, 104, 101, 32, 109, 111, 110, 116, 104]), .lit (.int .i64 1), .lit (.int .i64 6)], .agg [.lit (.int .u8 119), .lit (.int .u8 2), .lit (.int .i64 8), .lit (.int .u8 7), .lit (.string [119, 101, 101, 107, 32, 111, 102, 32, 116, 104, 101, 32, 121, 101, 97, 114]), .lit (.int .i64 1), .lit (.int .i64 53)], .agg [.lit (.int .u8 89), .lit (.int .u8 3), .lit (.int .i64 7), .lit (.int .u8 7), .lit (.string [119, 101, 101, 107, 45, 98, 97, 115, 101, 100, 32, 121, 101, 97, 114]), .lit (.int .i64 (-9999)), .lit (.int .i64 9999)], .agg [.lit (.int .u8 97), .lit (.int .u8 10), .lit (.int .i64 3), .lit (.int .u8 8), .lit (.string []), .lit (.int .i64 0), .lit (.int .i64 0)], .agg [.lit (.int .u8 72), .lit (.int .u8 6), .lit (.int .i64 3), .lit (.int .u8 8), .lit (.string [104, 111, 117, 114]), .lit (.int .i64 0), .lit (.int .i64 23)], .agg [.lit (.int .u8 107), .lit (.int .u8 6), .lit (.int .i64 3), .lit (.int .u8 8), .lit (.string [104, 111, 117, 114]), .lit (.int .i64 1), .lit (.int .i64 24)], .agg [.lit (.int .u8 104), .lit (.int .u8 6), .lit (.int .i64 3), .lit (.int .u8 8), .lit (.string [104, 111, 117, 114]), .lit (.int .i64 1), .lit (.int .i64 12)], .agg [.lit (.int .u8 75), .lit (.int .u8 6), .lit (.int .i64 3), .lit (.int .u8 8), .lit (.string [104, 111, 117, 114]), .lit (.int .i64 0), .lit (.int .i64 11)], .agg [.lit (.int .u8 109), .lit (.int .u8 2), .lit (.int .i64 4), .lit (.int .u8 8), .lit (.string [109, 105, 110, 117, 116, 101]), .lit (.int .i64 0), .lit (.int .i64 59)], .agg [.lit (.int .u8 115), .lit (.int .u8 2), .lit (.int .i64 5), .lit (.int .u8 8), .lit (.string [115, 101, 99, 111, 110, 100]), .lit (.int .i64 0), .lit (.int .i64 59)], .agg [.lit (.int .u8 83), .lit (.int .u8 7), .lit (.int .i64 (-1)), .lit (.int .u8 8), .lit (.string [102, 114, 97, 99, 116, 105, 111, 110, 32, 111, 102, 32, 97, 32, 115, 101, 99, 111, 110, 100]), .lit (.int .i64 0), .lit (.int .i64 0)], .agg [.lit (.int .u8 90), .lit (.int .u8 11), .lit (.int .i64 (-1)), .lit (.int .u8 16), .lit (.string []), .lit (.int .i64 0), .lit (.int .i64 0)], .agg [.lit (.int .u8 122), .lit (.int .u8 14), .lit (.int .i64 (-1)), .lit (.int .u8 16), .lit (.string []), .lit (.int .i64 0), .lit (.int .i64 0)], .agg [.lit (.int .u8 73), .lit (.int .u8 12), .lit (.int .i64 (-1)), .lit (.int .u8 15), .lit (.string []), .lit (.int .i64 0), .lit (.int .i64 0)], .agg [.lit (.int .u8 84), .lit (.int .u8 13), .lit (.int .i64 (-1)), .lit (.int .u8 8), .lit (.string []), .lit (.int .i64 0), .lit (.int .i64 0)]]

/-- 'chronoglyph.LawS0961BExact': WHATEVER THE INPUT: true; the input reads as it did. -/
def lawS0961BExactSpec : ChangeSpec := { name := "lawS0961BExact", vars := ["example.com/chronoglyph/chronoglyph.symbols"], fn := fun _ => fun
  | [d, g1] => { results := [.lit (.bool true)], args := [d], vars := [g1] }
  | _ => none }
def lawS0961BExactRow : OpenClaim := { program := "ybulkswmdoor", sum := "5cd630602ca64b92d66f7cff6dfb347b04df2d27e857a6f0c05b563698ccc5ca", func := "example.com/chronoglyph/chronoglyph.LawS0961BExact", spec := "lawS0961BExact", named := ["example.com/chronoglyph/chronoglyph.symbols"], apart := false, laid := [("example.com/chronoglyph/chronoglyph.symbols", laid_example_com_chronoglyph_chronoglyph_symbols)] }
def LawS0961BExactSaid : Prop := lawS0961BExactRow.holds Ybad.pinned (OpenSpec.ofChange lawS0961BExactSpec)

/-- ITS FALSE NEIGHBOUR: 'it returns false'. Refute it at one input. -/
def lawS0961BExactWrong : ChangeSpec := { name := "lawS0961BExact", vars := ["example.com/chronoglyph/chronoglyph.symbols"], fn := fun _ => fun
  | [d, g1] => { results := [.lit (.bool false)], args := [d], vars := [g1] }
  | _ => none }
def LawS0961BExactWrongFalsely : Prop := lawS0961BExactRow.holds Ybad.pinned (OpenSpec.ofChange lawS0961BExactWrong)

/-- 'chronoglyph.LawS0961BEachLetter': WHATEVER THE INPUT: true; the input reads as it did. -/
def lawS0961BEachLetterSpec : ChangeSpec := { name := "lawS0961BEachLetter", vars := ["example.com/chronoglyph/chronoglyph.symbols"], fn := fun _ => fun
  | [d, g1] => { results := [.lit (.bool true)], args := [d], vars := [g1] }
  | _ => none }
def lawS0961BEachLetterRow : OpenClaim := { program := "ybulkswmdoor", sum := "5cd630602ca64b92d66f7cff6dfb347b04df2d27e857a6f0c05b563698ccc5ca", func := "example.com/chronoglyph/chronoglyph.LawS0961BEachLetter", spec := "lawS0961BEachLetter", named := ["example.com/chronoglyph/chronoglyph.symbols"], apart := false, laid := [("example.com/chronoglyph/chronoglyph.symbols", laid_example_com_chronoglyph_chronoglyph_symbols)] }
def LawS0961BEachLetterSaid : Prop := lawS0961BEachLetterRow.holds Ybad.pinned (OpenSpec.ofChange lawS0961BEachLetterSpec)

/-- ITS FALSE NEIGHBOUR: 'it returns false'. Refute it at one input. -/
def lawS0961BEachLetterWrong : ChangeSpec := { name := "lawS0961BEachLetter", vars := ["example.com/chronoglyph/chronoglyph.symbols"], fn := fun _ => fun
  | [d, g1] => { results := [.lit (.bool false)], args := [d], vars := [g1] }
  | _ => none }
def LawS0961BEachLetterWrongFalsely : Prop := lawS0961BEachLetterRow.holds Ybad.pinned (OpenSpec.ofChange lawS0961BEachLetterWrong)

end Rows
end Go.Proofs.YbulkswmDoor
