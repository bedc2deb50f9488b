/-
  THE LIST MAKER's METHODS: newListMaker, count, allot, place, lists.
-/
import Derived.Test.YbulkthuMem
namespace Go.Proofs.Ybulkthu
open Go Go.RowKit

theorem lm_new {w w1 : World} {V A : Value} (g : (w.alloc (.cells #[V, A] 37)).grownBy w1 none) : Lm w1 w.heap.size V A :=
  (g.block w.heap.size (by simp) (by simp)).trans (MapKept.heap_alloc w _).1

set_option maxHeartbeats 400000 in
/-- newListMaker. -/
theorem new_any (n : Nat) (w : World) (hn : n ≤ 100000) :
    Calls Yba.prog 8 #[.int .i64 n] w fun e w' => ∃ sb, e = .returned (.agg #[.slice (some ⟨sb, 0, none⟩) (n + 2) (n + 2), .slice none 0 0]) ∧ w.heap.size ≤ sb ∧ Blk w' sb (n + 2) (fun _ => 0) ∧ Fr w w' [] := by
  obtain ⟨i0, hi, hz0, hz1, hz2⟩ := info_parts info21
  go_enter Yba.func8, Yba.ntmps8
  go_wp2_with (at_make; refine wpList_make_full _ rfl _ _ 23 rfl w.heap.size 21 i0 (.int .i32 0) 1 Yba.underlying23 hi hz0 hz1 .i64 .i64 _ _ (n + 2) rfl rfl (by omega) (by omega) (by rw [hz2]; omega) (by unfold maxLen; omega) (by simp) ?_; intro w1 r1 g1; have hm := lm_new g1; have k0 := hm.c0; have k1 := hm.c1; have f0 := hm.free 0; have f1 := hm.free 1)
  have hB : Blk w1 (w.heap.size + 1) (n + 2) (fun _ => 0) := by
    have e : (w.alloc (Obj.cells #[Value.slice none 0 0, Value.slice none 0 0] 37)).heap.size = w.heap.size + 1 := by simp
    rw [e] at r1
    exact blk_made r1 rfl
  have hF : Fr w w1 [] := ((Fr.refl w []).alloc _).trans (Fr.of_grown (S := []) g1) (fun x h => by simp at h) (fun x h => by simp at h)
  refine bodyPost_ret (v := .agg #[.slice (some ⟨w.heap.size + 1, 0, none⟩) (n + 2) (n + 2), .slice none 0 0]) (by simp [results, Yba.results8, go_sem, k0, k1]) rfl ⟨w.heap.size + 1, rfl, by omega, ?_, ?_⟩
  · exact (hB.other _ (by show w.heap.size + 1 ≠ w.heap.size; omega)).other _ (by show w.heap.size + 1 ≠ w.heap.size; omega)
  · exact (hF.setCell _ (fun h => absurd h (Nat.lt_irrefl _))).setCell _ (fun h => absurd h (Nat.lt_irrefl _))

set_option maxHeartbeats 400000 in
/-- count. -/
theorem count_any {w : World} {L sb N : Nat} {s : Nat → Int} {A : Value} (i : Nat) (hL : Lm w L (.slice (some ⟨sb, 0, none⟩) N N) A) (hB : Blk w sb N s) (hi : i + 2 < N) (hN : N ≤ 100000) (h0 : 0 ≤ s (i + 2)) (h1 : s (i + 2) ≤ 100000) :
    Calls Yba.prog 10 #[.pointer (some ⟨L, 0, none⟩), .int .i32 i] w fun e w' => e = .returned (.tuple #[]) ∧ w' = w.setCell ⟨sb, i + 2, none⟩ (.int .i32 (s (i + 2) + 1)) := by
  have c0 := hL.c0
  have cs := hB.cell hi
  have fs := hB.free (i + 2)
  generalize s (i + 2) = v at *
  go_enter Yba.func10, Yba.ntmps10
  go_wp2
  go_end0
  exact ⟨rfl, rfl⟩

set_option maxHeartbeats 800000 in
/-- place. -/
theorem place_any {w : World} {L sb ab N m : Nat} {s a : Nat → Int} (i : Nat) (v : Int) (p : Nat) (hL : Lm w L (.slice (some ⟨sb, 0, none⟩) N N) (.slice (some ⟨ab, 0, none⟩) m m)) (hB : Blk w sb N s) (hA : Blk w ab m a)
    (hi : i + 1 < N) (hN : N ≤ 100000) (hm : m ≤ 100000) (hp : s (i + 1) = (p : Int)) (hpm : p < m) (hne : sb ≠ ab) :
    Calls Yba.prog 13 #[.pointer (some ⟨L, 0, none⟩), .int .i32 i, .int .i32 v] w fun e w' => e = .returned (.tuple #[]) ∧ w' = ((w.setCell ⟨ab, p, none⟩ (.int .i32 v)).setCell ⟨sb, i + 1, none⟩ (.int .i32 (s (i + 1) + 1))).drew := by
  have c0 := hL.c0
  have c1 := hL.c1
  have cs := hB.cell hi
  have fs := hB.free (i + 1)
  have ca := hA.cell hpm
  have fa := hA.free p
  have cs2 : (w.setCell ⟨ab, p, none⟩ (.int .i32 v)).cell? ⟨sb, i + 1, none⟩ = some (.int .i32 (p : Int)) := by
    have := (hB.other (a := ⟨ab, p, none⟩) (.int .i32 v) hne).cell hi
    rw [hp] at this
    exact this
  rw [hp] at cs ⊢
  generalize a p = x at *
  clear hp hA hB hL
  go_enter Yba.func13, Yba.ntmps13
  go_wp2
  go_region
  go_wp2
  go_end0
  exact ⟨rfl, rfl⟩

set_option maxHeartbeats 1600000 in
/-- allot. -/
theorem allot_any {w : World} {L sb n m : Nat} {f : Nat → Nat} {A : Value} (hL : Lm w L (.slice (some ⟨sb, 0, none⟩) (n + 2) (n + 2)) A) (hB : Blk w sb (n + 2) (cntS f m)) (hn : n ≤ 100000) (hm : m ≤ 100000) (hf : ∀ i, i < m → f i < n) :
    Calls Yba.prog 11 #[.pointer (some ⟨L, 0, none⟩)] w fun e w' => e = .returned (.tuple #[]) ∧ ∃ ab, w.heap.size ≤ ab ∧ Lm w' L (.slice (some ⟨sb, 0, none⟩) (n + 2) (n + 2)) (.slice (some ⟨ab, 0, none⟩) m m) ∧
      Blk w' sb (n + 2) (plS f m 0) ∧ Blk w' ab m (fun _ => 0) ∧ Fr w w' [L, sb] := by
  obtain ⟨i0, hi, hz0, hz1, hz2⟩ := info_parts info21
  have hne := hL.ne hB
  have c0 := hL.c0
  go_enter Yba.func11, Yba.ntmps11
  go_wp2
  go_loopw [3] (fun i wr => ∃ k : Nat, 2 ≤ k ∧ k ≤ n + 2 ∧ i = .int .i64 k ∧ Lm wr L (.slice (some ⟨sb, 0, none⟩) (n + 2) (n + 2)) A ∧ Blk wr sb (n + 2) (sumS f m k) ∧ Fr w wr [sb]) (fun i _ => n + 2 - (intOf i).toNat)
  case atStart => exact ⟨2, Nat.le_refl _, by omega, rfl, hL, hB.congr (fun j _ => (sumS_start f m j).symm), Fr.refl _ _⟩
  case round =>
    obtain ⟨k, hk2, hk, rfl, hLr, hBr, hFr⟩ := hrel
    clear hL hB c0
    by_cases hlt : k < n + 2
    · obtain ⟨q, rfl⟩ : ∃ q, k = q + 1 := ⟨k - 1, by omega⟩
      have ck := hBr.cell hlt
      have cq := hBr.cell (j := q) (by omega)
      have fk := hBr.free (q + 1)
      have bk := sumS_bd f m (q + 1) (q + 1)
      have bq := sumS_bd f m (q + 1) q
      have HN : Hid (Blk (wr.setCell ⟨sb, q + 1, none⟩ (.int .i32 (sumS f m (q + 1) (q + 1) + sumS f m (q + 1) q))) sb (n + 2) (sumS f m (q + 1 + 1))) :=
        (hBr.set (q + 1) (sumS f m (q + 1) (q + 1) + sumS f m (q + 1) q)).congr (fun j _ => sumS_step f m (q + 1) hk2 j)
      have HL : Hid (Lm wr L (.slice (some ⟨sb, 0, none⟩) (n + 2) (n + 2)) A) := hLr
      have HF : Hid (Fr w wr [sb]) := hFr
      generalize sumS f m (q + 1) (q + 1) = x at *
      generalize sumS f m (q + 1) q = y at *
      clear hLr hBr hFr
      go_wp2
      go_region
      go_wp2
      go_roundw
      case rel => exact ⟨q + 1 + 1, by omega, by omega, by go_num, (HL.out.other _ hne).drew, HN.out, (HF.out.setCell _ (fun _ => by simp)).drew⟩
      case measure => simp [intOf]; omega
    · obtain rfl : k = n + 2 := by omega
      have cl := hBr.cell (j := n + 1) (by omega)
      have hval : sumS f m (n + 2) (n + 1) = (m : Int) := by
        unfold sumS
        rw [if_pos (by omega), show n + 1 - 1 = n by omega, ltc_all f n m hf]
      rw [hval] at cl
      have HB : Hid (Blk wr sb (n + 2) (plS f m 0)) := hBr.congr (fun j hj => plS_start f m (n + 2) j hj)
      have HF : Hid (Fr w wr [sb]) := hFr
      have HL : Hid (Lm wr L (.slice (some ⟨sb, 0, none⟩) (n + 2) (n + 2)) A) := hLr
      clear hBr hFr hLr hval
      go_wp2_with (at_make; refine wpList_make_full _ rfl _ _ 23 rfl wr.heap.size 21 i0 (.int .i32 0) 1 Yba.underlying23 hi hz0 hz1 .i32 .i32 _ _ m rfl rfl rfl rfl (by rw [hz2]; omega) (by unfold maxLen; omega) (Nat.le_refl _) ?_; intro w1 r1 g1; have hm1 := HL.out.kept (Fr.of_grown (S := []) g1) (by simp); have k1 := hm1.c1; have f1 := hm1.free 1)
      have hA : Blk w1 wr.heap.size m (fun _ => 0) := blk_made r1 rfl
      have hB1 := HB.out.kept (Fr.of_grown (S := []) g1) (by simp)
      have hlL := HL.out.lt
      go_end0
      refine ⟨rfl, wr.heap.size, HF.out.size, hm1.set1 _, hB1.other _ (Ne.symm hne), hA.other _ (by show wr.heap.size ≠ L; omega), ?_⟩
      exact ((HF.out.trans (Fr.of_grown (S := []) g1) (S := [L, sb]) (fun x hx _ => by simp at hx ⊢; exact Or.inr hx) (fun x hx => by simp at hx))).setCell _ (fun _ => by simp)

set_option maxHeartbeats 800000 in
/-- lists. -/
theorem lists_any {w : World} {L sb n : Nat} {A : Value} (ab m : Nat) (hA : A = .slice (some ⟨ab, 0, none⟩) m m) (hL : Lm w L (.slice (some ⟨sb, 0, none⟩) (n + 2) (n + 2)) A) (hn : n ≤ 100000) :
    Calls Yba.prog 14 #[.pointer (some ⟨L, 0, none⟩)] w fun e w' => e = .returned (.agg #[.slice (some ⟨sb, 0, none⟩) (n + 1) (n + 2), .slice (some ⟨ab, 0, none⟩) m m]) ∧ Fr w w' [] := by
  subst hA
  have c0 := hL.c0
  have c1 := hL.c1
  have hlt := hL.lt
  clear hL
  go_enter Yba.func14, Yba.ntmps14
  go_wp2
  go_region
  go_wp2
  exact bodyPost_ret (v := .agg #[.slice (some ⟨sb, 0, none⟩) (n + 1) (n + 2), .slice (some ⟨ab, 0, none⟩) m m]) (by simp [results, Yba.results14, go_sem]) rfl ⟨rfl, ((Fr.refl _ _).alloc _).drew⟩
end Go.Proofs.Ybulkthu
