/-
  THE EDGES, CALLED OUT: newAdjacency's own closure (whatever function takes the edges), and the two that adjacencyOf hands it.
-/
import Derived.Test.YbulkthuMaker
import Derived.Deep.RegionWith
namespace Go.Proofs.Ybulkthu
open Go Go.RowKit

set_option maxHeartbeats 1600000 in
/-- newAdjacency's closure: it calls edge(from[k], to[k]) for each k in turn. -/
theorem edges_any {g fb tb FB TB m : Nat} {c1 c2 : Value} {F T : Nat → Int} (R : Nat → World → Prop)
    (hstep : ∀ k w, k < m → R k w → Calls Yba.prog g #[.int .i32 (F k), .int .i32 (T k), c1, c2] w fun e w' => e = .returned (.tuple #[]) ∧ R (k + 1) w')
    (hdrew : ∀ k w, R k w → R k w.drew)
    (hvars : ∀ k w, R k w → w.cell? ⟨fb, 0, none⟩ = some (.slice (some ⟨FB, 0, none⟩) m m) ∧ w.cell? ⟨tb, 0, none⟩ = some (.slice (some ⟨TB, 0, none⟩) m m) ∧ Blk w FB m F ∧ Blk w TB m T)
    (hg : ∀ args w, (callFunc g args).run Yba.prog w = .ok (.enter g args) w) (w : World) (h0 : R 0 w) (hm : m ≤ 100000) :
    Calls Yba.prog 7 #[.func (.func g) #[] #[c1, c2], .pointer (some ⟨fb, 0, none⟩), .pointer (some ⟨tb, 0, none⟩)] w fun e w' => e = .returned (.tuple #[]) ∧ R m w' := by
  have HS : Hid (∀ k w, k < m → R k w → Calls Yba.prog g #[.int .i32 (F k), .int .i32 (T k), c1, c2] w fun e w' => e = .returned (.tuple #[]) ∧ R (k + 1) w') := hstep
  have HD : Hid (∀ k w, R k w → R k w.drew) := hdrew
  have HV : Hid (∀ k w, R k w → w.cell? ⟨fb, 0, none⟩ = some (.slice (some ⟨FB, 0, none⟩) m m) ∧ w.cell? ⟨tb, 0, none⟩ = some (.slice (some ⟨TB, 0, none⟩) m m) ∧ Blk w FB m F ∧ Blk w TB m T) := hvars
  obtain ⟨v0, v1, _, _⟩ := hvars 0 w h0
  clear hstep hdrew hvars
  go_enter Yba.func7, Yba.ntmps7
  go_wp2
  clear v0 v1
  go_loopw [7] (fun i wr => ∃ k : Nat, k ≤ m ∧ i = .int .i64 k ∧ R k wr) (fun i _ => m - (intOf i).toNat)
  case atStart => exact ⟨0, Nat.zero_le _, rfl, h0⟩
  case round =>
    obtain ⟨k, hk, rfl, hR⟩ := hrel
    clear h0
    by_cases hlt : k < m
    · obtain ⟨v0, v1, bF, bT⟩ := HV.out k wr hR
      have cF := bF.cell hlt
      have cT := bT.cell hlt
      have hki : (k : Int) < (m : Int) := by omega
      have HR : Hid (R k wr) := hR
      clear bF bT hR
      have HC : Hid (Calls Yba.prog g #[.int .i32 (F k), .int .i32 (T k), c1, c2] wr.drew fun e w' => e = .returned (.tuple #[]) ∧ R (k + 1) w') := HS.out k _ hlt (HD.out k _ HR.out)
      generalize F k = x at *
      generalize T k = y at *
      go_wp2
      go_region_with (refine HC.out.mono ?_; rintro e w' ⟨rfl, hR'⟩)
      all_goals
        go_wp2
        go_roundw
        case rel => exact ⟨k + 1, by omega, by go_num, hR'⟩
        case measure => simp [intOf]; omega
    · obtain rfl : k = m := by omega
      go_wp2
      go_end0
      exact ⟨rfl, hR⟩

theorem enters9 (args : Array Value) (w : World) : (callFunc 9 args).run Yba.prog w = .ok (.enter 9 args) w := by
  kernel_rfl
theorem enters12 (args : Array Value) (w : World) : (callFunc 12 args).run Yba.prog w = .ok (.enter 12 args) w := by
  kernel_rfl

variable {w : World} {L1 L2 sb1 sb2 N : Nat} {s1 s2 : Nat → Int} {A1 A2 : Value}

set_option maxHeartbeats 400000 in
/-- adjacencyOf's first closure: both makers count the edge. -/
theorem edge_count (u t : Nat) (hL1 : Lm w L1 (.slice (some ⟨sb1, 0, none⟩) N N) A1) (hL2 : Lm w L2 (.slice (some ⟨sb2, 0, none⟩) N N) A2) (hB1 : Blk w sb1 N s1) (hB2 : Blk w sb2 N s2) (hne : sb1 ≠ sb2)
    (hu : u + 2 < N) (ht : t + 2 < N) (hN : N ≤ 100000) (h1 : 0 ≤ s1 (u + 2) ∧ s1 (u + 2) ≤ 100000) (h2 : 0 ≤ s2 (t + 2) ∧ s2 (t + 2) ≤ 100000) :
    Calls Yba.prog 9 #[.int .i32 u, .int .i32 t, .pointer (some ⟨L1, 0, none⟩), .pointer (some ⟨L2, 0, none⟩)] w fun e w' => e = .returned (.tuple #[]) ∧
      w' = (w.setCell ⟨sb1, u + 2, none⟩ (.int .i32 (s1 (u + 2) + 1))).setCell ⟨sb2, t + 2, none⟩ (.int .i32 (s2 (t + 2) + 1)) := by
  have C1 := count_any u hL1 hB1 hu hN h1.1 h1.2
  have C2 := count_any t (hL2.other (a := ⟨sb1, u + 2, none⟩) (.int .i32 (s1 (u + 2) + 1)) (hL2.ne hB1)) (hB2.other (a := ⟨sb1, u + 2, none⟩) (.int .i32 (s1 (u + 2) + 1)) (Ne.symm hne)) ht hN h2.1 h2.2
  clear hL1 hL2 hB1 hB2
  go_enter Yba.func9, Yba.ntmps9
  go_wp2_with fail
  refine C1.mono ?_
  rintro e w1 ⟨rfl, rfl⟩
  go_wp2_with fail
  refine C2.mono ?_
  rintro e w1 ⟨rfl, rfl⟩
  go_wp2
  go_end0
  exact ⟨rfl, rfl⟩

/-- place, in the words of blocks. -/
theorem place_blk {w : World} {L sb ab N m : Nat} {s a : Nat → Int} (i : Nat) (v : Int) (p : Nat) (hL : Lm w L (.slice (some ⟨sb, 0, none⟩) N N) (.slice (some ⟨ab, 0, none⟩) m m)) (hB : Blk w sb N s) (hA : Blk w ab m a)
    (hi : i + 1 < N) (hN : N ≤ 100000) (hm : m ≤ 100000) (hp : s (i + 1) = (p : Int)) (hpm : p < m) (hne : sb ≠ ab) :
    Calls Yba.prog 13 #[.pointer (some ⟨L, 0, none⟩), .int .i32 i, .int .i32 v] w fun e w' => e = .returned (.tuple #[]) ∧ Blk w' sb N (upd s (i + 1) (s (i + 1) + 1)) ∧ Blk w' ab m (upd a p v) ∧ Fr w w' [sb, ab] := by
  refine (place_any i v p hL hB hA hi hN hm hp hpm hne).mono ?_
  rintro e w' ⟨rfl, rfl⟩
  refine ⟨rfl, ?_, ?_, ?_⟩
  · exact ((hB.other _ hne).set (i + 1) _).drew
  · exact ((hA.set p v).other _ (Ne.symm hne)).drew
  · exact (((Fr.refl w [sb, ab]).setCell _ (fun _ => by simp)).setCell _ (fun _ => by simp)).drew

set_option maxHeartbeats 400000 in
/-- adjacencyOf's second closure: both makers place the edge. -/
theorem edge_place {ab1 ab2 m : Nat} {a1 a2 : Nat → Int} (u t p1 p2 : Nat) (hL1 : Lm w L1 (.slice (some ⟨sb1, 0, none⟩) N N) (.slice (some ⟨ab1, 0, none⟩) m m)) (hL2 : Lm w L2 (.slice (some ⟨sb2, 0, none⟩) N N) (.slice (some ⟨ab2, 0, none⟩) m m))
    (hB1 : Blk w sb1 N s1) (hB2 : Blk w sb2 N s2) (hA1 : Blk w ab1 m a1) (hA2 : Blk w ab2 m a2) (hd : sb1 ≠ ab1 ∧ sb2 ≠ ab2 ∧ sb2 ≠ sb1 ∧ sb2 ≠ ab1 ∧ ab2 ≠ sb1 ∧ ab2 ≠ ab1)
    (hu : u + 1 < N) (ht : t + 1 < N) (hN : N ≤ 100000) (hm : m ≤ 100000) (h1 : s1 (u + 1) = (p1 : Int)) (h2 : s2 (t + 1) = (p2 : Int)) (hp1 : p1 < m) (hp2 : p2 < m) :
    Calls Yba.prog 12 #[.int .i32 u, .int .i32 t, .pointer (some ⟨L1, 0, none⟩), .pointer (some ⟨L2, 0, none⟩)] w fun e w' => e = .returned (.tuple #[]) ∧
      Blk w' sb1 N (upd s1 (u + 1) (s1 (u + 1) + 1)) ∧ Blk w' ab1 m (upd a1 p1 t) ∧ Blk w' sb2 N (upd s2 (t + 1) (s2 (t + 1) + 1)) ∧ Blk w' ab2 m (upd a2 p2 u) ∧ Fr w w' [sb1, ab1, sb2, ab2] := by
  have C1 := place_blk u (t : Int) p1 hL1 hB1 hA1 hu hN hm h1 hp1 hd.1
  have n1 : L2 ∉ [sb1, ab1] := by
    have := hL2.ne hB1
    have := hL2.ne hA1
    simp; omega
  have C2 : ∀ w1, Fr w w1 [sb1, ab1] → Calls Yba.prog 13 #[.pointer (some ⟨L2, 0, none⟩), .int .i32 t, .int .i32 u] w1 fun e w' => e = .returned (.tuple #[]) ∧ Blk w' sb2 N (upd s2 (t + 1) (s2 (t + 1) + 1)) ∧ Blk w' ab2 m (upd a2 p2 u) ∧ Fr w1 w' [sb2, ab2] := fun w1 f1 =>
    place_blk t (u : Int) p2 (hL2.kept f1 n1) (hB2.kept f1 (by simp; omega)) (hA2.kept f1 (by simp; omega)) ht hN hm h2 hp2 hd.2.1
  have HC2 : Hid _ := C2
  clear hL1 hL2 hB1 hB2 hA1 hA2 C2
  go_enter Yba.func12, Yba.ntmps12
  go_wp2_with fail
  refine C1.mono ?_
  rintro e w1 ⟨rfl, q1, q2, f1⟩
  go_wp2_with fail
  refine (HC2.out w1 f1).mono ?_
  rintro e w2 ⟨rfl, q3, q4, f2⟩
  go_wp2
  go_end0
  exact ⟨rfl, q1.kept f2 (by simp; omega), q2.kept f2 (by simp; omega), q3, q4, f1.trans f2 (fun x hx _ => by simp at hx ⊢; omega) (fun x hx _ => by simp at hx ⊢; omega)⟩
end Go.Proofs.Ybulkthu
