/-
  adjacencyOf and newAdjacency: the two makers' lists are the counting sort's.
-/
import Derived.Test.YbulkthuEdges
namespace Go.Proofs.Ybulkthu
open Go Go.RowKit

/-- The variables that the edges' closure captured, and their rows: f, t the edges' ends. -/
structure Ed (w : World) (fb tb FB TB m : Nat) (f t : Nat → Nat) : Prop where
  vf : w.heap[fb]? = some (.cells #[.slice (some ⟨FB, 0, none⟩) m m] 23 (0, 0))
  vt : w.heap[tb]? = some (.cells #[.slice (some ⟨TB, 0, none⟩) m m] 23 (0, 0))
  rf : Blk w FB m (fun k => (f k : Int))
  rt : Blk w TB m (fun k => (t k : Int))
theorem Ed.kept {w w' : World} {fb tb FB TB m : Nat} {f t : Nat → Nat} {S : List Nat} (h : Ed w fb tb FB TB m f t) (hf : Fr w w' S) (hS : ∀ x, x ∈ S → w.heap.size ≤ x) : Ed w' fb tb FB TB m f t :=
  have no : ∀ b, b < w.heap.size → b ∉ S := fun b hb e => by have := hS b e; omega
  ⟨(hf.block fb (lt_of_block h.vf) (no _ (lt_of_block h.vf))).trans h.vf, (hf.block tb (lt_of_block h.vt) (no _ (lt_of_block h.vt))).trans h.vt, h.rf.kept hf (no _ h.rf.lt), h.rt.kept hf (no _ h.rt.lt)⟩

/-- While the edges are counted. -/
structure RC (w0 : World) (L1 L2 sb1 sb2 fb tb FB TB n m : Nat) (f t : Nat → Nat) (k : Nat) (w : World) : Prop where
  l1 : Lm w L1 (.slice (some ⟨sb1, 0, none⟩) (n + 2) (n + 2)) (.slice none 0 0)
  l2 : Lm w L2 (.slice (some ⟨sb2, 0, none⟩) (n + 2) (n + 2)) (.slice none 0 0)
  b1 : Blk w sb1 (n + 2) (cntS f k)
  b2 : Blk w sb2 (n + 2) (cntS t k)
  ed : Ed w fb tb FB TB m f t
  fr : Fr w0 w [sb1, sb2]

/-- While the edges are placed. -/
structure RP (w0 : World) (L1 L2 sb1 sb2 ab1 ab2 fb tb FB TB n m : Nat) (f t : Nat → Nat) (k : Nat) (w : World) : Prop where
  l1 : Lm w L1 (.slice (some ⟨sb1, 0, none⟩) (n + 2) (n + 2)) (.slice (some ⟨ab1, 0, none⟩) m m)
  l2 : Lm w L2 (.slice (some ⟨sb2, 0, none⟩) (n + 2) (n + 2)) (.slice (some ⟨ab2, 0, none⟩) m m)
  b1 : Blk w sb1 (n + 2) (plS f m k)
  b2 : Blk w sb2 (n + 2) (plS t m k)
  a1 : Blk w ab1 m (atS f (fun i => (t i : Int)) m k)
  a2 : Blk w ab2 m (atS t (fun i => (f i : Int)) m k)
  ed : Ed w fb tb FB TB m f t
  fr : Fr w0 w [sb1, ab1, sb2, ab2]

/-- The call of the edges that counts. -/
theorem count_all {w : World} {L1 L2 sb1 sb2 fb tb FB TB n m : Nat} {f t : Nat → Nat} (h : RC w L1 L2 sb1 sb2 fb tb FB TB n m f t 0 w) (hn : n ≤ 1000) (hm : m ≤ 2000) (hf : ∀ i, i < m → f i < n) (ht : ∀ i, i < m → t i < n)
    (hne : sb1 ≠ sb2) (hS : fb ∉ [sb1, sb2] ∧ tb ∉ [sb1, sb2] ∧ FB ∉ [sb1, sb2] ∧ TB ∉ [sb1, sb2]) :
    Calls Yba.prog 7 #[.func (.func 9) #[] #[.pointer (some ⟨L1, 0, none⟩), .pointer (some ⟨L2, 0, none⟩)], .pointer (some ⟨fb, 0, none⟩), .pointer (some ⟨tb, 0, none⟩)] w fun e w' => e = .returned (.tuple #[]) ∧ RC w L1 L2 sb1 sb2 fb tb FB TB n m f t m w' := by
  refine edges_any (F := fun k => (f k : Int)) (T := fun k => (t k : Int)) (RC w L1 L2 sb1 sb2 fb tb FB TB n m f t) (fun k w1 hk r => ?_) (fun k w1 r => ⟨r.l1, r.l2, r.b1, r.b2, ⟨r.ed.vf, r.ed.vt, r.ed.rf, r.ed.rt⟩, r.fr.drew⟩) (fun k w1 r => ⟨cell_of_one r.ed.vf, cell_of_one r.ed.vt, r.ed.rf, r.ed.rt⟩) enters9 w h (by omega)
  have e1 := hf k hk
  have e2 := ht k hk
  have bd1 := cntS_bd f k (f k + 2)
  have bd2 := cntS_bd t k (t k + 2)
  refine (edge_count (f k) (t k) r.l1 r.l2 r.b1 r.b2 hne (by omega) (by omega) (by omega) (by omega) (by omega)).mono ?_
  rintro e w2 ⟨rfl, rfl⟩
  have ff : Fr w1 ((w1.setCell ⟨sb1, f k + 2, none⟩ (.int .i32 (cntS f k (f k + 2) + 1))).setCell ⟨sb2, t k + 2, none⟩ (.int .i32 (cntS t k (t k + 2) + 1))) [sb1, sb2] :=
    ((Fr.refl w1 [sb1, sb2]).setCell _ (fun _ => by simp)).setCell _ (fun _ => by simp)
  have n1 : L1 ∉ [sb1, sb2] := by
    have := r.l1.ne r.b1
    have := r.l1.ne r.b2
    simp; omega
  have n2 : L2 ∉ [sb1, sb2] := by
    have := r.l2.ne r.b1
    have := r.l2.ne r.b2
    simp; omega
  refine ⟨rfl, r.l1.kept ff n1, r.l2.kept ff n2, ?_, ?_, ?_, r.fr.trans ff (fun x hx _ => hx) (fun x hx _ => hx)⟩
  · exact ((r.b1.set (f k + 2) _).other _ hne).congr (fun j _ => cntS_step f k j)
  · exact ((r.b2.other _ (Ne.symm hne)).set (t k + 2) _).congr (fun j _ => cntS_step t k j)
  · exact ⟨(ff.block fb (lt_of_block r.ed.vf) hS.1).trans r.ed.vf, (ff.block tb (lt_of_block r.ed.vt) hS.2.1).trans r.ed.vt, r.ed.rf.kept ff hS.2.2.1, r.ed.rt.kept ff hS.2.2.2⟩

/-- The call of the edges that places. -/
theorem place_all {w : World} {L1 L2 sb1 sb2 ab1 ab2 fb tb FB TB n m : Nat} {f t : Nat → Nat} (h : RP w L1 L2 sb1 sb2 ab1 ab2 fb tb FB TB n m f t 0 w) (hn : n ≤ 1000) (hm : m ≤ 2000) (hf : ∀ i, i < m → f i < n) (ht : ∀ i, i < m → t i < n)
    (hd : sb1 ≠ ab1 ∧ sb2 ≠ ab2 ∧ sb2 ≠ sb1 ∧ sb2 ≠ ab1 ∧ ab2 ≠ sb1 ∧ ab2 ≠ ab1) (hS : fb ∉ [sb1, ab1, sb2, ab2] ∧ tb ∉ [sb1, ab1, sb2, ab2] ∧ FB ∉ [sb1, ab1, sb2, ab2] ∧ TB ∉ [sb1, ab1, sb2, ab2]) :
    Calls Yba.prog 7 #[.func (.func 12) #[] #[.pointer (some ⟨L1, 0, none⟩), .pointer (some ⟨L2, 0, none⟩)], .pointer (some ⟨fb, 0, none⟩), .pointer (some ⟨tb, 0, none⟩)] w fun e w' => e = .returned (.tuple #[]) ∧ RP w L1 L2 sb1 sb2 ab1 ab2 fb tb FB TB n m f t m w' := by
  refine edges_any (F := fun k => (f k : Int)) (T := fun k => (t k : Int)) (RP w L1 L2 sb1 sb2 ab1 ab2 fb tb FB TB n m f t) (fun k w1 hk r => ?_) (fun k w1 r => ⟨r.l1, r.l2, r.b1, r.b2, r.a1, r.a2, ⟨r.ed.vf, r.ed.vt, r.ed.rf, r.ed.rt⟩, r.fr.drew⟩) (fun k w1 r => ⟨cell_of_one r.ed.vf, cell_of_one r.ed.vt, r.ed.rf, r.ed.rt⟩) enters12 w h (by omega)
  have e1 := hf k hk
  have e2 := ht k hk
  refine (edge_place (f k) (t k) (pos f m k) (pos t m k) r.l1 r.l2 r.b1 r.b2 r.a1 r.a2 hd (by omega) (by omega) (by omega) (by omega) (plS_at f m k) (plS_at t m k) (pos_lt f m k hk) (pos_lt t m k hk)).mono ?_
  rintro e w2 ⟨rfl, q1, q2, q3, q4, ff⟩
  have n1 : L1 ∉ [sb1, ab1, sb2, ab2] := by
    have := r.l1.ne r.b1
    have := r.l1.ne r.b2
    have := r.l1.ne r.a1
    have := r.l1.ne r.a2
    simp; omega
  have n2 : L2 ∉ [sb1, ab1, sb2, ab2] := by
    have := r.l2.ne r.b1
    have := r.l2.ne r.b2
    have := r.l2.ne r.a1
    have := r.l2.ne r.a2
    simp; omega
  refine ⟨rfl, r.l1.kept ff n1, r.l2.kept ff n2, q1.congr (fun j _ => plS_step f m k j), q3.congr (fun j _ => plS_step t m k j), q2, q4, ?_, r.fr.trans ff (fun x hx _ => hx) (fun x hx _ => hx)⟩
  exact ⟨(ff.block fb (lt_of_block r.ed.vf) hS.1).trans r.ed.vf, (ff.block tb (lt_of_block r.ed.vt) hS.2.1).trans r.ed.vt, r.ed.rf.kept ff hS.2.2.1, r.ed.rt.kept ff hS.2.2.2⟩

theorem ne28 {w : World} {b n r : Nat} {s : Nat → Int} {c : Array Value} (h : Blk w b n s) (hr : w.heap[r]? = some (.cells c 28 (0, 0))) : b ≠ r := fun e => by
  have h' : w.heap[b]? = some (.cells (row n s) 21 (0, 0)) := h
  rw [e, hr] at h'
  simp at h'

/-- A row beside a block whose four cells are written. -/
theorem four {w : World} {b n r : Nat} {s : Nat → Int} {v0 v1 v2 v3 : Value} (h : Blk w b n s) (hne : b ≠ r) : Blk ((((w.setCell ⟨r, 0, none⟩ v0).setCell ⟨r, 1, none⟩ v1).setCell ⟨r, 2, none⟩ v2).setCell ⟨r, 3, none⟩ v3) b n s :=
  (((h.other _ hne).other _ hne).other _ hne).other _ hne
theorem fourF {w w1 : World} {r : Nat} {v0 v1 v2 v3 : Value} (h : Fr w w1 []) (hr : w.heap.size ≤ r := by omega) : Fr w ((((w1.setCell ⟨r, 0, none⟩ v0).setCell ⟨r, 1, none⟩ v1).setCell ⟨r, 2, none⟩ v2).setCell ⟨r, 3, none⟩ v3) [] :=
  (((h.setCell _ (fun e => absurd e (Nat.not_lt.2 hr))).setCell _ (fun e => absurd e (Nat.not_lt.2 hr))).setCell _ (fun e => absurd e (Nat.not_lt.2 hr))).setCell _ (fun e => absurd e (Nat.not_lt.2 hr))

set_option maxHeartbeats 1600000 in
/-- adjacencyOf. -/
theorem adjOf_any {w : World} {fb tb FB TB n m : Nat} {f t : Nat → Nat} (h : Ed w fb tb FB TB m f t) (hn : n ≤ 1000) (hm : m ≤ 2000) (hf : ∀ i, i < m → f i < n) (ht : ∀ i, i < m → t i < n) :
    Calls Yba.prog 6 #[.int .i64 n, .func (.func 7) #[] #[.pointer (some ⟨fb, 0, none⟩), .pointer (some ⟨tb, 0, none⟩)]] w fun e w' => ∃ sb1 ab1 sb2 ab2,
      e = .returned (.agg #[.slice (some ⟨sb1, 0, none⟩) (n + 1) (n + 2), .slice (some ⟨ab1, 0, none⟩) m m, .slice (some ⟨sb2, 0, none⟩) (n + 1) (n + 2), .slice (some ⟨ab2, 0, none⟩) m m]) ∧
      Blk w' sb1 (n + 2) (fun j => (ltc f j m : Int)) ∧ Blk w' ab1 m (atS f (fun i => (t i : Int)) m m) ∧ Blk w' sb2 (n + 2) (fun j => (ltc t j m : Int)) ∧ Blk w' ab2 m (atS t (fun i => (f i : Int)) m m) ∧ Fr w w' [] := by
  have hmf : ∀ (fn : Fn) (first cap : Array Value) (w : World), (Instr.makeFunc fn first cap).run Yba.prog w = .ok (.func fn first cap) w := fun _ _ _ _ => rfl
  have HE : Hid (Ed w fb tb FB TB m f t) := h
  clear h
  go_enter Yba.func6, Yba.ntmps6
  go_wp2_with fail
  refine (new_any n _ (by omega)).mono ?_
  rintro e w2 ⟨sb1, rfl, hs1, B1, F1⟩
  go_wp2_with fail
  refine (new_any n _ (by omega)).mono ?_
  rintro e w3 ⟨sb2, rfl, hs2, B2, F2⟩
  go_wp2_with fail
  have z1 : (w.alloc (Obj.cells #[Value.slice none 0 0, Value.slice none 0 0, Value.slice none 0 0, Value.slice none 0 0] 28)).heap.size = w.heap.size + 1 := by simp
  rw [z1] at hs1
  have k1 := F1.size
  rw [z1] at k1
  have lt1 := B1.lt
  have k2 := F2.size
  have lt2 := B2.lt
  have FA : Fr w w3 [] := (((Fr.refl w []).alloc _).trans F1 (S := []) (fun x h => by simp at h) (fun x h => by simp at h)).trans F2 (fun x h => by simp at h) (fun x h => by simp at h)
  have R3 : w3.heap[w.heap.size]? = some (.cells #[.slice none 0 0, .slice none 0 0, .slice none 0 0, .slice none 0 0] 28 (0, 0)) :=
    (F2.block _ (by omega) (by simp)).trans ((F1.block _ (by rw [z1]; omega) (by simp)).trans (MapKept.heap_alloc w _).1)
  have hRC : RC ((w3.alloc (.cells #[.slice (some ⟨sb1, 0, none⟩) (n + 2) (n + 2), .slice none 0 0] 37)).alloc (.cells #[.slice (some ⟨sb2, 0, none⟩) (n + 2) (n + 2), .slice none 0 0] 37)) w3.heap.size (w3.heap.size + 1) sb1 sb2 fb tb FB TB n m f t 0
      ((w3.alloc (.cells #[.slice (some ⟨sb1, 0, none⟩) (n + 2) (n + 2), .slice none 0 0] 37)).alloc (.cells #[.slice (some ⟨sb2, 0, none⟩) (n + 2) (n + 2), .slice none 0 0] 37)) := by
    have zz : (w3.alloc (.cells #[.slice (some ⟨sb1, 0, none⟩) (n + 2) (n + 2), .slice none 0 0] 37)).heap.size = w3.heap.size + 1 := by simp
    refine ⟨?_, ?_, ?_, ?_, ?_, Fr.refl _ _⟩
    · exact (Below.heap_alloc _ _ _ (by rw [zz]; omega)).trans (MapKept.heap_alloc w3 _).1
    · have := (MapKept.heap_alloc (w3.alloc (.cells #[.slice (some ⟨sb1, 0, none⟩) (n + 2) (n + 2), .slice none 0 0] 37)) (.cells #[.slice (some ⟨sb2, 0, none⟩) (n + 2) (n + 2), .slice none 0 0] 37)).1
      rw [zz] at this
      exact this
    · exact (((B1.kept F2 (by simp)).alloc _).alloc _).congr (fun j _ => (cntS_zero f j).symm)
    · exact ((B2.alloc _).alloc _).congr (fun j _ => (cntS_zero t j).symm)
    · exact HE.out.kept ((FA.alloc _).alloc _) (fun x h => by simp at h)
  have R5 : ((w3.alloc (.cells #[.slice (some ⟨sb1, 0, none⟩) (n + 2) (n + 2), .slice none 0 0] 37)).alloc (.cells #[.slice (some ⟨sb2, 0, none⟩) (n + 2) (n + 2), .slice none 0 0] 37)).heap[w.heap.size]? = some (.cells #[.slice none 0 0, .slice none 0 0, .slice none 0 0, .slice none 0 0] 28 (0, 0)) :=
    (Below.heap_alloc _ _ _ (by simp; omega)).trans ((Below.heap_alloc _ _ _ (by omega)).trans R3)
  have F5 : Fr w ((w3.alloc (.cells #[.slice (some ⟨sb1, 0, none⟩) (n + 2) (n + 2), .slice none 0 0] 37)).alloc (.cells #[.slice (some ⟨sb2, 0, none⟩) (n + 2) (n + 2), .slice none 0 0] 37)) [] := (FA.alloc _).alloc _
  have z5 : ((w3.alloc (.cells #[.slice (some ⟨sb1, 0, none⟩) (n + 2) (n + 2), .slice none 0 0] 37)).alloc (.cells #[.slice (some ⟨sb2, 0, none⟩) (n + 2) (n + 2), .slice none 0 0] 37)).heap.size = w3.heap.size + 2 := by simp
  generalize (w3.alloc (.cells #[.slice (some ⟨sb1, 0, none⟩) (n + 2) (n + 2), .slice none 0 0] 37)).alloc (.cells #[.slice (some ⟨sb2, 0, none⟩) (n + 2) (n + 2), .slice none 0 0] 37) = W5 at *
  have ltfb := lt_of_block HE.out.vf
  have lttb := lt_of_block HE.out.vt
  have ltFB := HE.out.rf.lt
  have ltTB := HE.out.rt.lt
  clear B1 B2 F1 F2 FA R3 z1
  generalize w3.heap.size = L1 at *
  refine (count_all hRC hn hm hf ht (by omega) (by simp; omega)).mono ?_
  rintro e w6 ⟨rfl, r6⟩
  have s6 := r6.fr.size
  go_wp2_with fail
  refine (allot_any r6.l1 r6.b1 (by omega) (by omega) hf).mono ?_
  rintro e w7 ⟨rfl, ab1, hab1, l1, p1, a1, f7⟩
  have s7 := f7.size
  have la1 := a1.lt
  go_wp2_with fail
  refine (allot_any (r6.l2.kept f7 (by simp; omega)) (r6.b2.kept f7 (by simp; omega)) (by omega) (by omega) ht).mono ?_
  rintro e w8 ⟨rfl, ab2, hab2, l2, p2, a2, f8⟩
  have s8 := f8.size
  have la2 := a2.lt
  have ed8 : Ed w8 fb tb FB TB m f t :=
    ⟨(f8.block fb (by omega) (by simp; omega)).trans ((f7.block fb (by omega) (by simp; omega)).trans r6.ed.vf), (f8.block tb (by omega) (by simp; omega)).trans ((f7.block tb (by omega) (by simp; omega)).trans r6.ed.vt),
      (r6.ed.rf.kept f7 (by simp; omega)).kept f8 (by simp; omega), (r6.ed.rt.kept f7 (by simp; omega)).kept f8 (by simp; omega)⟩
  have hRP : RP w8 L1 (L1 + 1) sb1 sb2 ab1 ab2 fb tb FB TB n m f t 0 w8 :=
    ⟨l1.kept f8 (by simp; omega), l2, p1.kept f8 (by simp; omega), p2, a1.kept f8 (by simp; omega), a2, ed8, Fr.refl _ _⟩
  have R8 : w8.heap[w.heap.size]? = some (.cells #[.slice none 0 0, .slice none 0 0, .slice none 0 0, .slice none 0 0] 28 (0, 0)) :=
    (f8.block _ (by omega) (by simp; omega)).trans ((f7.block _ (by omega) (by simp; omega)).trans ((r6.fr.block _ (by omega) (by simp; omega)).trans R5))
  have F8 : Fr w w8 [] := ((F5.trans r6.fr (S := []) (fun x h => by simp at h) (fun x h hx => by simp at h; omega)).trans f7 (S := []) (fun x h => by simp at h) (fun x h hx => by simp at h; omega)).trans f8 (fun x h => by simp at h) (fun x h hx => by simp at h; omega)
  go_wp2_with fail
  refine (place_all hRP hn hm hf ht (by omega) (by simp; omega)).mono ?_
  rintro e w9 ⟨rfl, r9⟩
  have R9 := (r9.fr.block _ (by omega) (by simp; omega)).trans R8
  have F9 : Fr w w9 [] := F8.trans r9.fr (fun x h => by simp at h) (fun x h hx => by simp at h; omega)
  have s9 := r9.fr.size
  go_wp2_with fail
  refine (lists_any ab1 m rfl r9.l1 (by omega)).mono ?_
  rintro e w10 ⟨rfl, f10⟩
  have s10 := f10.size
  go_wp2_with fail
  refine (lists_any ab2 m rfl (r9.l2.kept f10 (by simp)) (by omega)).mono ?_
  rintro e w11 ⟨rfl, f11⟩
  have s11 := f11.size
  have R11 : w11.heap[w.heap.size]? = some (.cells #[.slice none 0 0, .slice none 0 0, .slice none 0 0, .slice none 0 0] 28 (0, 0)) := (f11.block _ (by omega) (by simp)).trans ((f10.block _ (by omega) (by simp)).trans R9)
  have F11 : Fr w w11 [] := (F9.trans f10 (S := []) (fun x h => by simp at h) (fun x h => by simp at h)).trans f11 (fun x h => by simp at h) (fun x h => by simp at h)
  have q1 := ((r9.b1.congr (fun j _ => plS_end f m j)).kept f10 (by simp)).kept f11 (by simp)
  have q2 := ((r9.b2.congr (fun j _ => plS_end t m j)).kept f10 (by simp)).kept f11 (by simp)
  have q3 := (r9.a1.kept f10 (by simp)).kept f11 (by simp)
  have q4 := (r9.a2.kept f10 (by simp)).kept f11 (by simp)
  have c0 : w11.cell? ⟨w.heap.size, 0, none⟩ = some (.slice none 0 0) := by simp [World.cell?, R11]
  have c1 : w11.cell? ⟨w.heap.size, 1, none⟩ = some (.slice none 0 0) := by simp [World.cell?, R11]
  have c2 : w11.cell? ⟨w.heap.size, 2, none⟩ = some (.slice none 0 0) := by simp [World.cell?, R11]
  have c3 : w11.cell? ⟨w.heap.size, 3, none⟩ = some (.slice none 0 0) := by simp [World.cell?, R11]
  have fz : ∀ j, w11.frozen? ⟨w.heap.size, j, none⟩ = false := fun j => by simp [World.frozen?, R11]
  clear hRC hRP r6 r9 R5 R8 R9 R11 F5 F8 F9 f7 f8 f10 f11 l1 l2 p1 p2 a1 a2 ed8
  go_wp2
  refine bodyPost_ret (v := .agg #[.slice (some ⟨sb1, 0, none⟩) (n + 1) (n + 2), .slice (some ⟨ab1, 0, none⟩) m m, .slice (some ⟨sb2, 0, none⟩) (n + 1) (n + 2), .slice (some ⟨ab2, 0, none⟩) m m]) (by simp [results, Yba.results6, go_sem, c0, c1, c2, c3]) rfl ⟨sb1, ab1, sb2, ab2, rfl, ?_, ?_, ?_, ?_, ?_⟩
  · exact four q1 (by omega)
  · exact four q3 (by omega)
  · exact four q2 (by omega)
  · exact four q4 (by omega)
  · exact fourF F11

set_option maxHeartbeats 1600000 in
/-- newAdjacency. -/
theorem newAdj_any {w : World} {FB TB n m : Nat} {f t : Nat → Nat} (hF : Blk w FB m (fun k => (f k : Int))) (hT : Blk w TB m (fun k => (t k : Int))) (hn : n ≤ 1000) (hm : m ≤ 2000) (hf : ∀ i, i < m → f i < n) (ht : ∀ i, i < m → t i < n) :
    Calls Yba.prog 4 #[.int .i64 n, .slice (some ⟨FB, 0, none⟩) m m, .slice (some ⟨TB, 0, none⟩) m m] w fun e w' => ∃ sb1 ab1 sb2 ab2,
      e = .returned (.agg #[.slice (some ⟨sb1, 0, none⟩) (n + 1) (n + 2), .slice (some ⟨ab1, 0, none⟩) m m, .slice (some ⟨sb2, 0, none⟩) (n + 1) (n + 2), .slice (some ⟨ab2, 0, none⟩) m m]) ∧
      Blk w' sb1 (n + 2) (fun j => (ltc f j m : Int)) ∧ Blk w' ab1 m (atS f (fun i => (t i : Int)) m m) ∧ Blk w' sb2 (n + 2) (fun j => (ltc t j m : Int)) ∧ Blk w' ab2 m (atS t (fun i => (f i : Int)) m m) ∧ Fr w w' [] := by
  have hmf : ∀ (fn : Fn) (first cap : Array Value) (w : World), (Instr.makeFunc fn first cap).run Yba.prog w = .ok (.func fn first cap) w := fun _ _ _ _ => rfl
  have z1 : (w.alloc (.cells #[.slice (some ⟨FB, 0, none⟩) m m] 23)).heap.size = w.heap.size + 1 := by simp
  have z2 : ((w.alloc (.cells #[.slice (some ⟨FB, 0, none⟩) m m] 23)).alloc (.cells #[.slice (some ⟨TB, 0, none⟩) m m] 23)).heap.size = w.heap.size + 2 := by simp
  have hE : Ed (((w.alloc (.cells #[.slice (some ⟨FB, 0, none⟩) m m] 23)).alloc (.cells #[.slice (some ⟨TB, 0, none⟩) m m] 23)).alloc (.cells #[.slice none 0 0, .slice none 0 0, .slice none 0 0, .slice none 0 0] 28)) w.heap.size (w.heap.size + 1) FB TB m f t := by
    refine ⟨?_, ?_, ((hF.alloc _).alloc _).alloc _, ((hT.alloc _).alloc _).alloc _⟩
    · exact (Below.heap_alloc _ _ _ (by rw [z2]; omega)).trans ((Below.heap_alloc _ _ _ (by rw [z1]; omega)).trans (MapKept.heap_alloc w _).1)
    · refine (Below.heap_alloc _ _ _ (by rw [z2]; omega)).trans ?_
      have := (MapKept.heap_alloc (w.alloc (.cells #[.slice (some ⟨FB, 0, none⟩) m m] 23)) (.cells #[.slice (some ⟨TB, 0, none⟩) m m] 23)).1
      rw [z1] at this
      exact this
  have R1 : (((w.alloc (.cells #[.slice (some ⟨FB, 0, none⟩) m m] 23)).alloc (.cells #[.slice (some ⟨TB, 0, none⟩) m m] 23)).alloc (.cells #[.slice none 0 0, .slice none 0 0, .slice none 0 0, .slice none 0 0] 28)).heap[w.heap.size + 2]? = some (.cells #[.slice none 0 0, .slice none 0 0, .slice none 0 0, .slice none 0 0] 28 (0, 0)) := by
    have := (MapKept.heap_alloc ((w.alloc (.cells #[.slice (some ⟨FB, 0, none⟩) m m] 23)).alloc (.cells #[.slice (some ⟨TB, 0, none⟩) m m] 23)) (.cells #[.slice none 0 0, .slice none 0 0, .slice none 0 0, .slice none 0 0] 28)).1
    rw [z2] at this
    exact this
  have F1 : Fr w (((w.alloc (.cells #[.slice (some ⟨FB, 0, none⟩) m m] 23)).alloc (.cells #[.slice (some ⟨TB, 0, none⟩) m m] 23)).alloc (.cells #[.slice none 0 0, .slice none 0 0, .slice none 0 0, .slice none 0 0] 28)) [] := (((Fr.refl w []).alloc _).alloc _).alloc _
  have C := adjOf_any hE hn hm hf ht
  clear hE hF hT
  go_enter Yba.func4, Yba.ntmps4
  go_wp2_with fail
  refine C.mono ?_
  rintro e w2 ⟨sb1, ab1, sb2, ab2, rfl, q1, q3, q2, q4, F2⟩
  have l1 := lt_of_block R1
  have R2 := (F2.block _ l1 (by simp)).trans R1
  have F3 : Fr w w2 [] := F1.trans F2 (fun x h => by simp at h) (fun x h => by simp at h)
  have c0 : w2.cell? ⟨w.heap.size + 2, 0, none⟩ = some (.slice none 0 0) := by simp [World.cell?, R2]
  have c1 : w2.cell? ⟨w.heap.size + 2, 1, none⟩ = some (.slice none 0 0) := by simp [World.cell?, R2]
  have c2 : w2.cell? ⟨w.heap.size + 2, 2, none⟩ = some (.slice none 0 0) := by simp [World.cell?, R2]
  have c3 : w2.cell? ⟨w.heap.size + 2, 3, none⟩ = some (.slice none 0 0) := by simp [World.cell?, R2]
  have fz : ∀ j, w2.frozen? ⟨w.heap.size + 2, j, none⟩ = false := fun j => by simp [World.frozen?, R2]
  have n1 := ne28 q1 R2
  have n2 := ne28 q2 R2
  have n3 := ne28 q3 R2
  have n4 := ne28 q4 R2
  clear C R1 R2 F1 F2 l1
  go_wp2
  exact bodyPost_ret (v := .agg #[.slice (some ⟨sb1, 0, none⟩) (n + 1) (n + 2), .slice (some ⟨ab1, 0, none⟩) m m, .slice (some ⟨sb2, 0, none⟩) (n + 1) (n + 2), .slice (some ⟨ab2, 0, none⟩) m m]) (by simp [results, Yba.results4, go_sem, c0, c1, c2, c3]) rfl ⟨sb1, ab1, sb2, ab2, rfl, four q1 n1, four q3 n3, four q2 n2, four q4 n4, fourF F3⟩
end Go.Proofs.Ybulkthu
