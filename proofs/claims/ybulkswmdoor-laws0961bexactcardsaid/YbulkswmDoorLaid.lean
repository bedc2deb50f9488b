import Derived.Test.YbulkswmDoorTie
import Derived.Test.YbulkswmDoorWalk1
import Derived.ProofKit
import Derived.LaidMore
import Derived.OpenShut
import Derived.OpenVars
import Derived.Stop.Joined
namespace Go.Proofs.YbulkswmDoor
open Go.ChangeShapes Go.WideShapes Go.ChangeAt Go.RowKit

theorem own : ownKnob Ybad.prog.godebug = none := by kernel_rfl
theorem laidOut : laidOutB Ybad.prog = true := by kernel_rfl
theorem gSym : Ybad.prog.globalNamed (Rows.lawS0961BExactSpec.vars.headD "") = some 0 := by kernel_rfl
theorem tSym : (Ybad.prog.globals[0]?).map (·.type) = some 31 := by kernel_rfl
theorem cells30 : Ybad.prog.cellsOf 30 = 7 := by kernel_rfl
theorem cells31 : Ybad.prog.cellsOf 31 = 161 := by kernel_rfl
theorem cells5 : Ybad.prog.cellsOf 5 = 1 := by kernel_rfl

abbrev laidList : List (String × DataW Unit) := Rows.lawS0961BExactRow.laid

/-- The door's own heap meets the condition: three closed facts. -/
theorem door_met (os : Os) (args : Array Value) : laidMetH Ybad.prog laidList ((World.doorLaid Ybad.prog 37 os).forCall (fun _ _ => 0) ⟨#[], args, []⟩).memory :=
  laidMetH_of_parts3 (fuel := 8) (laidMet_of_run' 8 (by kernel_rfl) (by kernel_rfl)) (by kernel_rfl) (by kernel_rfl)

/-- The first part of a datum, where it is a byte. -/
def firstOf : DataW Unit → Int
  | .agg (.lit (.int .u8 n) :: _) => n
  | _ => -1
def partsOf : DataW Unit → List (DataW Unit)
  | .agg l => l
  | _ => []
theorem firsts : (partsOf Rows.laid_example_com_chronoglyph_chronoglyph_symbols).map firstOf = (List.range 23).map letterAt := by kernel_rfl

theorem of_laid {W : World} (h : laidMetH Ybad.prog laidList W) : ∀ k, k < 23 → W.cell? ⟨0, k * 7, none⟩ = some (.int .u8 (letterAt k)) := by
  intro k hk
  rw [MakeChecks.laidMetH_plain _ _ _ (by kernel_rfl)] at h
  obtain ⟨ps, ⟨g0, t0, cs0, f0, p0, q0, hg0, ht0, hv0, hd0, _⟩, _, _⟩ := h
  obtain rfl := Option.some.inj (gSym.symm.trans hg0)
  obtain rfl := Option.some.inj (tSym.symm.trans ht0)
  obtain ⟨xs, m, rfl, hx, hlen, hn, hel⟩ := DataW.trod_array Ybad.underlying31 hd0
  have hk' : k < xs.length := by omega
  have he := hel k hk
  rw [cells30, List.getElem?_eq_getElem hk'] at he
  obtain ⟨ys, m', rfl, hy, hl7, hn7, hf⟩ := DataW.trod_struct Ybad.underlying30 he
  have hf0 := hf 0 _ rfl
  have hy0 : 0 < ys.length := by rw [hn7]; decide
  rw [List.getElem?_eq_getElem hy0] at hf0
  obtain ⟨n, e1, e2, _⟩ := DataW.trod_int Ybad.underlying5 hf0
  have hD : Rows.laid_example_com_chronoglyph_chronoglyph_symbols = .agg (xs.map (·.1)) := (Prod.mk.inj hx).1
  have hF := firsts
  rw [hD] at hF
  have hFk : firstOf (xs[k]).1 = letterAt k := by
    have := congrArg (fun l : List Int => l[k]?) hF
    simpa [partsOf, hk, hk'] using this
  have hn' : n = letterAt k := by
    rw [← hFk, hy]
    match ys, hy0, e2 with
    | y0 :: ys', _, e2 =>
      have e2' : y0 = (DataW.lit (Lit.int IntKind.u8 n), []) := e2
      rw [e2']
      rfl
  subst hn'
  have hc : W.cell? ⟨0, k * 7, none⟩ = cs0[k * 7]? := World.var?_cell hg0 hv0 (k * 7)
  rw [hc, ← Array.getElem?_toList]
  have := congrArg (fun l : List Value => l[0]?) e1
  simpa [cells5] using this

end Go.Proofs.YbulkswmDoor
