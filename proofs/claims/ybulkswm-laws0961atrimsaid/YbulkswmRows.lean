/-
  No cell of these rows narrows 'for every input' (looked for: loops, veiled, ifaces, maps, wideKeys, modest, calm, conditions, laid).
  DERIVED. THE GIVEN ROWS OF THIS SEAT. 1 by the template 'for every input the law returns true; each argument reads behind the call as it read before'; 0 by the template 'total and deterministic' (their statements: YbulkswmTotals.lean).
  GIVEN WITH THE SEED: the statements are not yours to turn. If you find one false, say at which input.
  Laid BY PROGRAM, IN A SANDBOX (cutbox-rows.mjs): the forced cells as the released guide's own fill.sh prints them over the translation c0343f862cfb9c40… (all of the seat's roots in one cut). By AI agents, Wed Nov 11 2026. No macro, syntax, notation, axiom, sorry.
-/
import Derived.Test.YbulkswmChecked
import GoSem.Claim
import GoSem.ClaimJoined
import GoSem.ClaimMapViews
import Derived.JoinedTies
import Derived.KernelRfl
namespace Go.Proofs.Ybulkswm
/- THE CELL 'sum', in the pinned program and in every row, IS THE sha256 OF THE DUMP (.gsa) THAT YbulkswmProg.lean LOADS. Nothing in Lean hashes anything: it is a label: what it is worth is what the hold of that sum in a sandbox is worth. -/
noncomputable def Yba.pinned : Pinned := { name := "ybulkswm", sum := "c0343f862cfb9c406ba8004609e5be41cc6d8313c45b054a1eed6366a5ad383a", checked := Yba.checked }
namespace Rows
def none {H : Type} : Left H := { results := [], args := [] }

/-- 'decimal.LawS0961ATrim': WHATEVER THE INPUT: true; the input reads as it did. -/
def lawS0961ATrimSpec : ChangeSpec := { name := "lawS0961ATrim", fn := fun _ => fun
  | [d1, d2] => { results := [.lit (.bool true)], args := [d1, d2] }
  | _ => none }
def lawS0961ATrimRow : OpenClaim := { program := "ybulkswm", sum := "c0343f862cfb9c406ba8004609e5be41cc6d8313c45b054a1eed6366a5ad383a", func := "example.com/chronoglyph/chronoglyph/internal/decimal.LawS0961ATrim", spec := "lawS0961ATrim", apart := false }
def LawS0961ATrimSaid : Prop := lawS0961ATrimRow.holds Yba.pinned (OpenSpec.ofChange lawS0961ATrimSpec)

/-- ITS FALSE NEIGHBOUR: 'it returns false'. Refute it at one input. -/
def lawS0961ATrimWrong : ChangeSpec := { name := "lawS0961ATrim", fn := fun _ => fun
  | [d1, d2] => { results := [.lit (.bool false)], args := [d1, d2] }
  | _ => none }
def LawS0961ATrimWrongFalsely : Prop := lawS0961ATrimRow.holds Yba.pinned (OpenSpec.ofChange lawS0961ATrimWrong)

end Rows
end Go.Proofs.Ybulkswm
