/-
  What the two told laws share: the program's closed facts, and how a slice of bytes that came in is opened.
-/
import Derived.Test.YbulktagFmtWalk2
import Derived.ProofKit
import Derived.OpenShut
import Derived.ChangeOld
import Derived.Stop.JoinedAt
import Derived.Stop.Texts
import Derived.Stop.JoinedTold
import Derived.SizedLaws
namespace Go.Proofs.YbulktagFmt
open Go.ChangeShapes Go.WideShapes Go.ChangeAt Go.RowKit Go.Kit
open Go.Extern.Stop Go.Stop Go.Extern

theorem own : ownKnob Ybaf.prog.godebug = none := by kernel_rfl
theorem laidOut : laidOutB Ybaf.pinned.checked.prog = true := by kernel_rfl
theorem stops : Ybaf.pinned.checked.prog.stops = ["fmt.errorf"] := by kernel_rfl
theorem stopKnobs : Ybaf.pinned.checked.prog.stopKnobs = [] := by kernel_rfl
theorem quiet (os : Os) : Stop.quiet Ybaf.pinned.checked.prog os := by
  intro k hk
  rw [stopKnobs] at hk
  cases hk

/-- A slice of bytes that came in: what the walks ask of it. -/
theorem opened {H : Type} {enc : TypeId × Value → H} {W : World} {a : Option Addr} {len cap : Nat} {d : DataW H} {p : List MemPlace} (h : DataW.Trod enc Ybaf.prog W 0 (fun _ => true) true 26 (.slice a len cap) d p) :
    len ≤ maxLen ∧ Reads W a len cap ∧ ∃ z, Bytes W a len z := by
  obtain ⟨fuel, hf⟩ := h
  rcases open_ints Ybaf.underlying26 Ybaf.underlying5 (by kernel_rfl) hf with ⟨hcs, _⟩ | ⟨x, l, c, zs, hcs, _, hl, hm, hz, _, hcell, hwz⟩
  · simp [Value.cells] at hcs
    obtain ⟨rfl, rfl, rfl⟩ := hcs
    exact ⟨Nat.zero_le _, fun w' _ => ⟨_, opNil_113 _ w'⟩, [], fun i hi => by omega⟩
  · simp [Value.cells] at hcs
    obtain ⟨rfl, rfl, rfl⟩ := hcs
    simp only [if_true] at hz
    refine ⟨by omega, fun w' hb => ?_, zs, fun i hi => ?_⟩
    · have hlen : (zs.take len).length = len := by rw [List.length_take]; omega
      have ho := opBytes_113 "fmt.errorf" x cap (zs.take len) w' (fun j v hj => by
        rw [List.getElem?_map] at hj
        obtain ⟨y, hy, rfl⟩ := Option.map_eq_some_iff.1 hj
        have hjl : j < len := by
          have := (List.getElem?_eq_some_iff.1 hy).1
          omega
        have hc := hcell j (by omega)
        rw [hb.cell (block_lt_of_cell hc), hc]
        rw [List.getElem?_take_of_lt hjl] at hy
        simp [List.getD, hy])
      rw [hlen] at ho
      exact ⟨_, ho⟩
    · obtain ⟨b, off, spot⟩ := x
      have hc0 := hcell 0 (by omega)
      have hspot : spot = none := by simpa [Addr.add] using World.cell?_spot hc0
      subst hspot
      have hlt : b < W.heap.size := by
        have := block_lt_of_cell hc0
        simpa [Addr.add] using this
      have e := hcell i (by omega)
      rw [WideShapes.add_plain] at e
      have hiz : i < zs.length := by omega
      have hw : (Lit.int .u8 (zs.getD i 0)).wf = true := hwz _ (by simp [List.getD, hiz])
      have bd := bounds_u8 hw
      exact ⟨b, off, rfl, hlt, e, bd.1, bd.2⟩
end Go.Proofs.YbulktagFmt
