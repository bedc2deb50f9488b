/-
  No cell of these rows narrows 'for every input' (looked for: loops, veiled, ifaces, maps, wideKeys, modest, calm, conditions, laid).
  DERIVED. THE GIVEN ROWS OF THIS SEAT. 1 by the template 'for every input the law returns true; each argument reads behind the call as it read before'; 0 by the template 'total and deterministic' (their statements: YbulkthuTotals.lean).
  GIVEN WITH THE SEED: the statements are not yours to turn. If you find one false, say at which input.
  Laid BY PROGRAM, IN A SANDBOX (cutbox-rows.mjs): the forced cells as the released guide's own fill.sh prints them over the translation ffa2384dcdb7d5c3… (all of the seat's roots in one cut). By AI agents, Wed Nov 11 2026. No macro, syntax, notation, axiom, sorry.
-/
import Derived.Test.YbulkthuChecked
import GoSem.Claim
import GoSem.ClaimJoined
import GoSem.ClaimMapViews
import Derived.JoinedTies
import Derived.KernelRfl
namespace Go.Proofs.Ybulkthu
/- THE CELL 'sum', in the pinned program and in every row, IS THE sha256 OF THE DUMP (.gsa) THAT YbulkthuProg.lean LOADS. Nothing in Lean hashes anything: it is a label: what it is worth is what the hold of that sum in a sandbox is worth. -/
noncomputable def Yba.pinned : Pinned := { name := "ybulkthu", sum := "ffa2384dcdb7d5c3922c9f208ca1353fd196cb1a07512f6154f3c01759843adc", checked := Yba.checked }
namespace Rows
def none {H : Type} : Left H := { results := [], args := [] }

/-- 'serigraph.LawS0982CLists': WHATEVER THE INPUT: true; the input reads as it did. -/
def lawS0982CListsSpec : ChangeSpec := { name := "lawS0982CLists", fn := fun _ => fun
  | [d1, d2, d3] => { results := [.lit (.bool true)], args := [d1, d2, d3] }
  | _ => none }
def lawS0982CListsRow : OpenClaim := { program := "ybulkthu", sum := "ffa2384dcdb7d5c3922c9f208ca1353fd196cb1a07512f6154f3c01759843adc", func := "example.com/serigraph/serigraph.LawS0982CLists", spec := "lawS0982CLists", unfollowed := true, recurses := true, apart := false }
def LawS0982CListsSaid : Prop := lawS0982CListsRow.holds Yba.pinned (OpenSpec.ofChange lawS0982CListsSpec)

/-- ITS FALSE NEIGHBOUR: 'it returns false'. Refute it at one input. -/
def lawS0982CListsWrong : ChangeSpec := { name := "lawS0982CLists", fn := fun _ => fun
  | [d1, d2, d3] => { results := [.lit (.bool false)], args := [d1, d2, d3] }
  | _ => none }
def LawS0982CListsWrongFalsely : Prop := lawS0982CListsRow.holds Yba.pinned (OpenSpec.ofChange lawS0982CListsWrong)

end Rows
end Go.Proofs.Ybulkthu
