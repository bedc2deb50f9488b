/-
  MEMORY: a block that is a row of int32; which old blocks a step may have turned.
-/
import Derived.Test.YbulkthuPlain
import Derived.Test.YbulkthuRows
import Derived.WalkKit
import Derived.WalkSpells
import Derived.WalkSmall
import Derived.OneCell
import Derived.Deep.QuietTactic
import Derived.BigQuiet
import Derived.RegionTactic
import Derived.OpenShut
namespace Go.Proofs.Ybulkthu
open Go Go.RowKit

/-- w' is w with new blocks, and with writes to the blocks of S alone. -/
structure Fr (w w' : World) (S : List Nat) : Prop where
  os : w'.os = w.os
  tape : w'.tape = w.tape
  output : w'.output = w.output
  size : w.heap.size ≤ w'.heap.size
  block : ∀ k, k < w.heap.size → k ∉ S → w'.heap[k]? = w.heap[k]?

variable {w w' w'' : World} {S S' S'' : List Nat}
theorem Fr.refl (w : World) (S : List Nat) : Fr w w S := ⟨rfl, rfl, rfl, Nat.le_refl _, fun _ _ _ => rfl⟩
theorem Fr.trans (h : Fr w w' S') (k : Fr w' w'' S'') (h1 : ∀ x, x ∈ S' → x < w.heap.size → x ∈ S) (h2 : ∀ x, x ∈ S'' → x < w.heap.size → x ∈ S) : Fr w w'' S :=
  ⟨k.os.trans h.os, k.tape.trans h.tape, k.output.trans h.output, Nat.le_trans h.size k.size,
    fun i hi hn => (k.block i (Nat.lt_of_lt_of_le hi h.size) (fun e => hn (h2 i e hi))).trans (h.block i hi (fun e => hn (h1 i e hi)))⟩
theorem Fr.mono (h : Fr w w' S') (h1 : ∀ x, x ∈ S' → x < w.heap.size → x ∈ S) : Fr w w' S := ⟨h.os, h.tape, h.output, h.size, fun i hi hn => h.block i hi (fun e => hn (h1 i e hi))⟩
theorem Fr.drew (h : Fr w w' S) : Fr w w'.drew S := ⟨h.os, h.tape, h.output, h.size, h.block⟩
theorem Fr.drewN (h : Fr w w' S) (n : Nat) : Fr w (w'.drewN n) S := ⟨h.os, h.tape, h.output, h.size, h.block⟩
theorem Fr.alloc (h : Fr w w' S) (o : Obj) : Fr w (w'.alloc o) S :=
  ⟨h.os, h.tape, h.output, Nat.le_trans h.size (by simp), fun i hi hn => (Below.heap_alloc _ _ _ (Nat.lt_of_lt_of_le hi h.size)).trans (h.block i hi hn)⟩
theorem Fr.setCell (h : Fr w w' S) {a : Addr} (u : Value) (ha : a.block < w.heap.size → a.block ∈ S) : Fr w (w'.setCell a u) S :=
  ⟨h.os, h.tape, h.output, Nat.le_trans h.size (by simp [World.setCell]), fun i hi hn => (Below.heap_setCell w' a u i (fun e => hn (by rw [e] at hi ⊢; exact ha hi))).trans (h.block i hi hn)⟩
theorem Fr.below (h : Fr w w' S) {B : Nat} (hB : B ≤ w.heap.size) (hS : ∀ x, x ∈ S → B ≤ x) : Below B w w' :=
  ⟨h.os, h.tape, h.output, h.size, fun i hi => h.block i (by omega) (fun e => by have := hS i e; omega)⟩
theorem Fr.of_below (h : Below w.heap.size w w') : Fr w w' S := ⟨h.os, h.tape, h.output, h.size, fun i hi _ => h.block i hi⟩
theorem Fr.of_grown (h : w.grownBy w' none) : Fr w w' S := ⟨h.os, h.tape, h.output, h.size, fun i hi _ => h.block i hi (by simp)⟩

/-- The cells of a row of int32. -/
def row (n : Nat) (s : Nat → Int) : Array Value := ((List.range n).map fun j => Value.int .i32 (s j)).toArray
/-- Block b is a row of n int32, s. -/
def Blk (w : World) (b n : Nat) (s : Nat → Int) : Prop := w.heap[b]? = some (.cells (row n s) 21 (0, 0))

theorem row_congr {n : Nat} {s t : Nat → Int} (h : ∀ j, j < n → s j = t j) : row n s = row n t := by
  unfold row
  congr 1
  apply List.map_congr_left
  intro j hj
  rw [h j (List.mem_range.1 hj)]
theorem row_set (n : Nat) (s : Nat → Int) (j : Nat) (v : Int) : (row n s).setIfInBounds j (.int .i32 v) = row n (upd s j v) := by
  apply Array.ext_getElem?
  intro i
  unfold row upd
  rw [Array.getElem?_setIfInBounds]
  simp only [List.size_toArray, List.length_map, List.length_range, List.getElem?_toArray, List.getElem?_map]
  by_cases hij : j = i
  · subst hij
    by_cases hj : j < n
    · simp [hj]
    · simp [hj]
  · rw [if_neg hij]
    by_cases hi : i < n
    · simp [hi, Ne.symm hij]
    · simp [hi]

variable {b n : Nat} {s t : Nat → Int}
theorem Blk.lt (h : Blk w b n s) : b < w.heap.size := lt_of_block h
theorem Blk.cell (h : Blk w b n s) {j : Nat} (hj : j < n) : w.cell? ⟨b, j, none⟩ = some (.int .i32 (s j)) := by
  have h' : w.heap[b]? = some (.cells (row n s) 21 (0, 0)) := h
  simp [World.cell?, h', row, hj]
theorem Blk.free (h : Blk w b n s) (j : Nat) : w.frozen? ⟨b, j, none⟩ = false := by
  have h' : w.heap[b]? = some (.cells (row n s) 21 (0, 0)) := h
  simp [World.frozen?, h']
theorem Blk.congr (h : Blk w b n s) (e : ∀ j, j < n → s j = t j) : Blk w b n t := by
  unfold Blk
  rw [← row_congr e]
  exact h
theorem block_setCell {b j : Nat} {c : Array Value} {t : TypeId} (h : w.heap[b]? = some (.cells c t (0, 0))) (u : Value) : (w.setCell ⟨b, j, none⟩ u).heap[b]? = some (.cells (c.setIfInBounds j u) t (0, 0)) := by
  have hlt := lt_of_block h
  have h' : w.heap[b] = .cells c t (0, 0) := by simpa [Array.getElem?_eq_getElem hlt] using h
  show (w.heap.modify b _)[b]? = _
  rw [Array.getElem?_eq_getElem (by simpa using hlt), Array.getElem_modify_self, h']
  rfl
theorem Blk.set (h : Blk w b n s) (j : Nat) (v : Int) : Blk (w.setCell ⟨b, j, none⟩ (.int .i32 v)) b n (upd s j v) := by
  unfold Blk
  rw [block_setCell h, row_set]
theorem Blk.other (h : Blk w b n s) {a : Addr} (u : Value) (ha : b ≠ a.block) : Blk (w.setCell a u) b n s := by
  unfold Blk
  rw [Below.heap_setCell _ _ _ _ ha]
  exact h
theorem Blk.kept (h : Blk w b n s) (hf : Fr w w' S) (hb : b ∉ S) : Blk w' b n s := (hf.block b h.lt hb).trans h
theorem Blk.drew (h : Blk w b n s) : Blk w.drew b n s := h
theorem Blk.drewN (h : Blk w b n s) (k : Nat) : Blk (w.drewN k) b n s := h
theorem Blk.alloc (h : Blk w b n s) (o : Obj) : Blk (w.alloc o) b n s := (Below.heap_alloc _ _ _ h.lt).trans h

/-- What 'make([]int32, n)' leaves. -/
theorem blk_made {base : Nat} {xs : List Value} (h : w.ownsRow base 21 1 (.slice (some ⟨b, 0, none⟩) n n) n xs) (hx : xs = (madeCells (Value.int .i32 0).cells (n * 1)).toList) : Blk w b n (fun _ => 0) := by
  obtain ⟨h1, h2⟩ := h
  rcases h2 with ⟨e, _⟩ | ⟨g, cap, cur, e, _, hh, _, _, hs, ht⟩
  · simp at e
  · simp at e
    obtain ⟨rfl, rfl⟩ := e
    unfold Blk
    rw [hh]
    congr 2
    apply Array.ext'
    have hc : cur.toList.take (n * 1) = cur.toList := List.take_of_length_le (by simp [hs])
    rw [hc] at ht
    rw [ht, hx, Nat.mul_one]
    have := toList_madeCells_one (Value.int .i32 0) n
    show (madeCells #[Value.int .i32 0] n).toList = _
    rw [this]
    unfold row
    apply List.ext_getElem?
    intro i
    by_cases hi : i < n
    · simp [hi]
    · simp [hi]

/-- Block L is a list maker. -/
def Lm (w : World) (L : Nat) (S A : Value) : Prop := w.heap[L]? = some (.cells #[S, A] 37 (0, 0))
variable {L : Nat} {V A : Value}
theorem Lm.lt (h : Lm w L V A) : L < w.heap.size := lt_of_block h
theorem Lm.c0 (h : Lm w L V A) : w.cell? ⟨L, 0, none⟩ = some V := by
  have h' : w.heap[L]? = some (.cells #[V, A] 37 (0, 0)) := h
  simp [World.cell?, h']
theorem Lm.c1 (h : Lm w L V A) : w.cell? ⟨L, 1, none⟩ = some A := by
  have h' : w.heap[L]? = some (.cells #[V, A] 37 (0, 0)) := h
  simp [World.cell?, h']
theorem Lm.free (h : Lm w L V A) (j : Nat) : w.frozen? ⟨L, j, none⟩ = false := by
  have h' : w.heap[L]? = some (.cells #[V, A] 37 (0, 0)) := h
  simp [World.frozen?, h']
theorem Lm.kept (h : Lm w L V A) (hf : Fr w w' S) (hb : L ∉ S) : Lm w' L V A := (hf.block L h.lt hb).trans h
theorem Lm.drew (h : Lm w L V A) : Lm w.drew L V A := h
theorem Lm.set1 (h : Lm w L V A) (A' : Value) : Lm (w.setCell ⟨L, 1, none⟩ A') L V A' := by
  unfold Lm
  rw [block_setCell h]
  rfl
theorem Lm.other (h : Lm w L V A) {a : Addr} (u : Value) (ha : L ≠ a.block) : Lm (w.setCell a u) L V A := by
  unfold Lm
  rw [Below.heap_setCell _ _ _ _ ha]
  exact h
theorem Lm.ne (h : Lm w L V A) (hb : Blk w b n s) : L ≠ b := fun e => by
  have h' : w.heap[L]? = some (.cells #[V, A] 37 (0, 0)) := h
  have hb' : w.heap[b]? = some (.cells (row n s) 21 (0, 0)) := hb
  rw [e, hb'] at h'
  simp at h'

theorem info21 : (Yba.prog.info? 21).map (fun i => (i.zero, i.size, i.bytes)) = some (some (.int .i32 0), 1, 4) := by kernel_rfl
end Go.Proofs.Ybulkthu
