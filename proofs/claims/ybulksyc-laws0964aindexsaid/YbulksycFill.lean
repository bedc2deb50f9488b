/-
  THE FUNCTION THAT statesByName HANDS TO Do: it makes the map and lays each state's name in it, the last place winning.
-/
import Derived.Test.YbulksycState
import Derived.RegionTactic
import Derived.StringKeys
namespace Go.Proofs.Ybulksyc
open Go Go.RowKit Go.Maps Go.WideMaps

theorem law : Keyed Yba.prog 9 := string_keyed Yba.underlying9
theorem zero3 (w : World) : (zeroValue 3).run Yba.prog w = .ok (.int .i64 0) w := by kernel_rfl

/-- A row's value: nil or at the head of a block. -/
theorem row_form {B : Nat} {w : World} {v : Value} {n : Nat} {xs : List Value} (h : w.ownsRow B 9 1 v n xs) : ∃ ao cap, v = .slice ao n cap ∧ n ≤ cap ∧ cap ≤ maxLen ∧ (0 < n → ∃ g, ao = some ⟨g, 0, none⟩) := by
  obtain ⟨_, h2⟩ := h
  rcases h2 with ⟨rfl, rfl⟩ | ⟨g, cap, cur, rfl, _, _, h3, h4, _⟩
  · exact ⟨none, 0, rfl, Nat.le_refl _, by unfold maxLen; omega, fun h => by omega⟩
  · exact ⟨_, cap, rfl, h3, h4, fun _ => ⟨g, rfl⟩⟩

/-- 'make(map[string]int, n)'. -/
theorem run_makeMap_n (n : Int) (w : World) : (Instr.makeMap 30 (some (.int .i64 n))).run Yba.prog w = .ok (.map (some w.heap.size)) (w.alloc (.map #[] 0)) := by
  simp [Instr.makeMap, run_underlying Yba.underlying30, asInt, asIntOf, Result.andThen]

set_option maxHeartbeats 800000 in
theorem fill_any {B : Nat} {w : World} {mb : Nat} {S X M : Value} {L K : List ByteArray} {d mu : Int} (pb : Nat) (h : St B w mb S L X K M d mu)
    (hp : w.heap[pb]? = some (.cells #[.pointer (some ⟨mb, 0, none⟩)] 24 (0, 0))) (hL : ∀ s ∈ L, s.size ≤ maxLen) (hlen : L.length ≤ 100000) :
    Calls Yba.prog 11 #[.pointer (some ⟨pb, 0, none⟩)] w fun e w' => e = .returned (.tuple #[]) ∧ ∃ bm, w.heap.size ≤ bm ∧ St B w' mb S L X K (.map (some bm)) d mu ∧
      w'.ownsMap Yba.prog 9 (plainElem Yba.prog 3) bm L.length (ix L) ∧ Below B w w' ∧ w'.heap[pb]? = some (.cells #[.pointer (some ⟨mb, 0, none⟩)] 24 (0, 0)) := by
  obtain ⟨ao, cap, rfl, hn, hcap, hao⟩ := row_form h.row
  unfold maxLen at hcap
  have q0 := cell_of_one hp
  have c0 := h.c0
  have c8 := h.c8
  have f8 := h.free 8
  have hmm := run_makeMap_n
  have hmlt := h.lt
  have hplt := lt_of_block hp
  go_enter Yba.func11, Yba.ntmps11
  go_wp2
  go_region
  have e0 : (w.setCell ⟨mb, 8, none⟩ (.map (some w.heap.size))).heap.size = w.heap.size := by simp [World.setCell]
  have hpm : pb ≠ mb := fun e => by
    have := h.blk
    rw [← e, hp] at this
    simp at this
  have h1 : St B ((w.setCell ⟨mb, 8, none⟩ (.map (some w.heap.size))).alloc (Obj.map #[] 0)).drew mb (.slice ao L.length cap) L X K (.map (some w.heap.size)) d mu := ((h.setM _).alloc _).drew
  have m1 : (((w.setCell ⟨mb, 8, none⟩ (.map (some w.heap.size))).alloc (Obj.map #[] 0)).drew).ownsMap Yba.prog 9 (plainElem Yba.prog 3) w.heap.size 0 (ixTo L 0) := by
    have := World.ownsMap_made (H := Unit) (w.setCell ⟨mb, 8, none⟩ (.map (some w.heap.size))) Yba.prog 9 (plainElem Yba.prog 3)
    rw [e0] at this
    exact this.drew
  have p1 : (((w.setCell ⟨mb, 8, none⟩ (.map (some w.heap.size))).alloc (Obj.map #[] 0)).drew).heap[pb]? = some (.cells #[.pointer (some ⟨mb, 0, none⟩)] 24 (0, 0)) := by
    show ((w.setCell ⟨mb, 8, none⟩ (.map (some w.heap.size))).alloc (Obj.map #[] 0)).heap[pb]? = _
    rw [Below.heap_alloc _ _ _ (by rw [e0]; exact hplt), Below.heap_setCell _ _ _ _ hpm]
    exact hp
  have b1 : Below B w ((w.setCell ⟨mb, 8, none⟩ (.map (some w.heap.size))).alloc (Obj.map #[] 0)).drew := (((Below.refl _ _).setCell h.base _).alloc (by rw [e0]; exact h.le) _).drew
  have HB : Hid (B ≤ w.heap.size) := h.le
  generalize ((w.setCell ⟨mb, 8, none⟩ (.map (some w.heap.size))).alloc (Obj.map #[] 0)).drew = W1 at *
  generalize hbm : w.heap.size = bm at *
  have Hbm : Hid (w.heap.size = bm) := hbm
  clear hbm
  have q1 := cell_of_one p1
  have d0 := h1.c0
  clear q0 c0 c8 f8 hmm hmlt hplt e0 hpm h hp
  go_wp2
  clear d0 q1
  go_loopw [17] (fun i wr => ∃ k : Nat, k ≤ L.length ∧ i = .int .i64 k ∧ St B wr mb (.slice ao L.length cap) L X K (.map (some bm)) d mu ∧ wr.ownsMap Yba.prog 9 (plainElem Yba.prog 3) bm k (ixTo L k) ∧
      wr.heap[pb]? = some (.cells #[.pointer (some ⟨mb, 0, none⟩)] 24 (0, 0)) ∧ Below B w wr) (fun i _ => L.length - (intOf i).toNat)
  case atStart => exact ⟨0, Nat.zero_le _, rfl, h1, m1, p1, b1⟩
  case round =>
    obtain ⟨k, hk, rfl, hst, hown, hpp, hbel⟩ := hrel
    clear h1 m1 p1 b1
    by_cases hlt : k < L.length
    · obtain ⟨g, rfl⟩ := hao (by omega)
      obtain ⟨s, hs⟩ : ∃ s, s = L.getD k ByteArray.empty := ⟨_, rfl⟩
      have hgk : wr.cell? ⟨g, k, none⟩ = some (.string s) := by
        have := hst.row.cellAt k (by omega)
        rw [this, hs]
        simp [List.getD, hlt]
      have hss : s.size ≤ maxLen := hL s (by rw [hs]; simp [List.getD, hlt])
      have hkey : keyOf Yba.prog 9 (.string s) = some (kl s) := keyOf_string_mk Yba.underlying9 hss
      have Hst : Hid (St B wr mb (.slice (some ⟨g, 0, none⟩) L.length cap) L X K (.map (some bm)) d mu) := hst
      have Hb : Hid (Below B w wr) := hbel
      have HS : Hid (s = L.getD k ByteArray.empty) := hs
      have q1 := cell_of_one hpp
      have d8 := hst.c8
      have Hpp : Hid (wr.heap[pb]? = some (.cells #[.pointer (some ⟨mb, 0, none⟩)] 24 (0, 0))) := hpp
      clear hs hst hbel hpp hss
      go_wp2_with (first | (at_mapUpdate; refine wpList_mapUpdate_own _ rfl _ _ _ 30 rfl 9 3 law Yba.underlying30 _ bm k _ rfl hown (by unfold maxLen; omega) _ _ _ rfl rfl hkey _ [] (plainElem_int Yba.underlying3 (WalkArith.wf_i64 (by omega))) ?_; intro w1 hown1 hgrow1) | go_in)
      have hin : w1.heap[pb]? = some (.cells #[.pointer (some ⟨mb, 0, none⟩)] 24 (0, 0)) := by
        refine (hgrow1.block pb (lt_of_block Hpp.out) (fun e => ?_)).trans Hpp.out
        obtain ⟨es, clock, hb, _⟩ := hown
        have := Hpp.out
        rw [Option.some.inj e, hb] at this
        cases this
      have hnew : w1.ownsMap Yba.prog 9 (plainElem Yba.prog 3) bm (k + 1) (ixTo L (k + 1)) := by
        rw [ixTo, ← HS.out]
        exact hown1
      go_roundw
      case rel => exact ⟨k + 1, by omega, by go_num, Hst.out.mapped hown hgrow1, hnew, hin, Hb.out.grown hgrow1 Hst.out.le (fun j hj => by cases hj; exact HB.out)⟩
      case measure => simp [intOf]; omega
    · obtain rfl : k = L.length := by omega
      go_wp2
      go_end0
      exact ⟨rfl, bm, by rw [Hbm.out]; exact Nat.le_refl _, hst, hown, hbel, hpp⟩
end Go.Proofs.Ybulksyc
