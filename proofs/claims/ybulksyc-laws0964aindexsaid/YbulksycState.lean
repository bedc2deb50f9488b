/-
  THE STATE THAT THE LAWS CARRY: the model's block, the row of its States, one row beside it, and what a step does to them.
-/
import Derived.Test.YbulksycPlain
import Derived.Test.YbulksycRows
import Derived.WalkKit
import Derived.Maps.OwnSet
import Derived.Maps.AppendAt
import Derived.OneCell
import Derived.Deep.QuietTactic
import Derived.BigQuiet
import Derived.WalkSpells
import Derived.WalkSmall
namespace Go.Proofs.Ybulksyc
open Go Go.RowKit Go.Maps

/-- The model's thirteen cells. -/
def mdl (S M : Value) (d mu : Int) : Array Value := #[S, .int .i64 0, .map none, .slice none 0 0, .slice none 0 0, .map none, .slice none 0 0, .slice none 0 0, M, .int .u32 d, .int .i32 mu, .int .u32 0, .map none]

/-- Block mb is a model with States S, which own the names L; stateIndex M; the Once's two words d, mu; beside it the row X owns the names K, in another block. -/
structure St (B : Nat) (w : World) (mb : Nat) (S : Value) (L : List ByteArray) (X : Value) (K : List ByteArray) (M : Value) (d mu : Int) : Prop where
  base : B ≤ mb
  blk : w.heap[mb]? = some (.cells (mdl S M d mu) 44 (0, 0))
  row : w.ownsRow B 9 1 S L.length (L.map Value.string)
  oth : w.ownsRow B 9 1 X K.length (K.map Value.string)
  sep : X.ownBlock = none ∨ X.ownBlock ≠ S.ownBlock

variable {B : Nat} {w w' : World} {mb : Nat} {S X M : Value} {L K : List ByteArray} {d mu : Int}

theorem St.lt (h : St B w mb S L X K M d mu) : mb < w.heap.size := lt_of_block h.blk
theorem St.le (h : St B w mb S L X K M d mu) : B ≤ w.heap.size := Nat.le_of_lt (Nat.lt_of_le_of_lt h.base h.lt)
theorem St.cell (h : St B w mb S L X K M d mu) (j : Nat) : w.cell? ⟨mb, j, none⟩ = (mdl S M d mu)[j]? := by simp [World.cell?, h.blk]
theorem St.free (h : St B w mb S L X K M d mu) (j : Nat) : w.frozen? ⟨mb, j, none⟩ = false := by simp [World.frozen?, h.blk]
theorem St.c0 (h : St B w mb S L X K M d mu) : w.cell? ⟨mb, 0, none⟩ = some S := h.cell 0
theorem St.c8 (h : St B w mb S L X K M d mu) : w.cell? ⟨mb, 8, none⟩ = some M := h.cell 8
theorem St.c9 (h : St B w mb S L X K M d mu) : w.cell? ⟨mb, 9, none⟩ = some (.int .u32 d) := h.cell 9
theorem St.c10 (h : St B w mb S L X K M d mu) : w.cell? ⟨mb, 10, none⟩ = some (.int .i32 mu) := h.cell 10

theorem row_block {e n : Nat} {v : Value} {xs : List Value} (h : w.ownsRow B e 1 v n xs) {g : Nat} (hg : v.ownBlock = some g) : ∃ cur, w.heap[g]? = some (.cells cur e (0, 0)) := by
  obtain ⟨_, h2⟩ := h
  rcases h2 with ⟨rfl, _⟩ | ⟨g', cap, cur, rfl, _, hh, _⟩
  · simp [Value.ownBlock] at hg
  · simp [Value.ownBlock] at hg
    subst hg
    exact ⟨cur, hh⟩
theorem row_ne_of {n : Nat} {v : Value} {xs : List Value} (h : w.ownsRow B 9 1 v n xs) {g : Nat} {o : Obj} (ho : w.heap[g]? = some o) (hn : ∀ cur, o ≠ .cells cur 9 (0, 0)) : v.ownBlock ≠ some g := by
  intro e
  obtain ⟨cur, hc⟩ := row_block h e
  rw [hc] at ho
  exact hn cur (Option.some.inj ho).symm
theorem St.s_ne (h : St B w mb S L X K M d mu) : S.ownBlock ≠ some mb := row_ne_of h.row h.blk (fun _ e => by injection e with _ e2; exact absurd e2 (by decide))
theorem St.x_ne (h : St B w mb S L X K M d mu) : X.ownBlock ≠ some mb := row_ne_of h.oth h.blk (fun _ e => by injection e with _ e2; exact absurd e2 (by decide))

theorem St.kept {r : Option Nat} (h : St B w mb S L X K M d mu) (hg : w.grownBy w' r) (h1 : some mb ≠ r) (h2 : S.ownBlock = none ∨ S.ownBlock ≠ r) (h3 : X.ownBlock = none ∨ X.ownBlock ≠ r) : St B w' mb S L X K M d mu :=
  ⟨h.base, (hg.block mb h.lt h1).trans h.blk, h.row.kept hg h2, h.oth.kept hg h3, h.sep⟩
theorem ne_none_or {a : Option Nat} : a = none ∨ a ≠ none := by cases a <;> simp
theorem St.more (h : St B w mb S L X K M d mu) (hg : w.grownBy w' none) : St B w' mb S L X K M d mu := h.kept hg (by simp) ne_none_or ne_none_or
theorem St.alloc (h : St B w mb S L X K M d mu) (o : Obj) : St B (w.alloc o) mb S L X K M d mu := h.more (World.grownBy_alloc w o none)
theorem St.drew (h : St B w mb S L X K M d mu) : St B w.drew mb S L X K M d mu := ⟨h.base, h.blk, h.row, h.oth, h.sep⟩
theorem St.drewN (h : St B w mb S L X K M d mu) (n : Nat) : St B (w.drewN n) mb S L X K M d mu := ⟨h.base, h.blk, h.row, h.oth, h.sep⟩
/-- While a map is written. -/
theorem St.mapped {b n : Nat} {D : DataW Unit} (h : St B w mb S L X K M d mu) (hm : w.ownsMap Yba.prog 9 (plainElem Yba.prog 3) b n D) (hg : w.grownBy w' (some b)) : St B w' mb S L X K M d mu := by
  obtain ⟨es, clock, hb, _⟩ := hm
  refine h.kept hg (fun e => ?_) (Or.inr (row_ne_of h.row hb (fun _ e => by cases e))) (Or.inr (row_ne_of h.oth hb (fun _ e => by cases e)))
  have := h.blk
  rw [Option.some.inj e, hb] at this
  cases this

theorem block_setCell {b j : Nat} {c : Array Value} {t : TypeId} (h : w.heap[b]? = some (.cells c t (0, 0))) (u : Value) : (w.setCell ⟨b, j, none⟩ u).heap[b]? = some (.cells (c.setIfInBounds j u) t (0, 0)) := by
  have hlt := lt_of_block h
  have h' : w.heap[b] = .cells c t (0, 0) := by simpa [Array.getElem?_eq_getElem hlt] using h
  show (w.heap.modify b _)[b]? = _
  rw [Array.getElem?_eq_getElem (by simpa using hlt), Array.getElem_modify_self, h']
  rfl

theorem St.set (h : St B w mb S L X K M d mu) (j : Nat) (u : Value) {S' M' : Value} {d' mu' : Int} (hs : S'.ownBlock = S.ownBlock) (hr : w.ownsRow B 9 1 S' L.length (L.map Value.string)) (e : (mdl S M d mu).setIfInBounds j u = mdl S' M' d' mu') : St B (w.setCell ⟨mb, j, none⟩ u) mb S' L X K M' d' mu' :=
  ⟨h.base, by rw [block_setCell h.blk, e], ownsRow_setCell_other hr (by rw [hs]; exact h.s_ne) u, ownsRow_setCell_other h.oth h.x_ne u, by rw [hs]; exact h.sep⟩
theorem St.setM (h : St B w mb S L X K M d mu) (M' : Value) : St B (w.setCell ⟨mb, 8, none⟩ M') mb S L X K M' d mu := h.set 8 M' rfl h.row rfl
theorem St.setD (h : St B w mb S L X K M d mu) (d' : Int) : St B (w.setCell ⟨mb, 9, none⟩ (.int .u32 d')) mb S L X K M d' mu := h.set 9 _ rfl h.row rfl
theorem St.setU (h : St B w mb S L X K M d mu) (mu' : Int) : St B (w.setCell ⟨mb, 10, none⟩ (.int .i32 mu')) mb S L X K M d mu' := h.set 10 _ rfl h.row rfl

/-- 'm.States = append(m.States, s)': behind the append, then behind the store. -/
theorem St.pushed {S' : Value} {s : ByteArray} (h : St B w mb S L X K M d mu) (hg : w.grownBy w' S.ownBlock) (hr : w'.ownsRow B 9 1 S' (L.length + 1) (L.map Value.string ++ [.string s])) (hat : S'.ownBlock = S.ownBlock ∨ S'.ownBlock = some w.heap.size) :
    St B (w'.setCell ⟨mb, 0, none⟩ S') mb S' (L ++ [s]) X K M d mu := by
  have hb : w'.heap[mb]? = some (.cells (mdl S M d mu) 44 (0, 0)) := (hg.block mb h.lt (fun e => h.s_ne e.symm)).trans h.blk
  have hX : w'.ownsRow B 9 1 X K.length (K.map Value.string) := h.oth.kept hg h.sep
  have hs' : S'.ownBlock ≠ some mb := row_ne_of hr hb (fun _ e => by injection e with _ e2; exact absurd e2 (by decide))
  refine ⟨h.base, by rw [block_setCell hb]; rfl, ?_, ownsRow_setCell_other hX h.x_ne _, ?_⟩
  · have := ownsRow_setCell_other hr (a := ⟨mb, 0, none⟩) hs' S'
    simpa using this
  · rcases hat with e | e
    · rw [e]; exact h.sep
    · rw [e]
      rcases hx : X.ownBlock with _ | g
      · exact Or.inl rfl
      · refine Or.inr fun e2 => ?_
        have := (h.oth.lt g hx).2
        rw [Option.some.inj e2] at this
        omega

/-- 'want = append(want, s)'. -/
theorem St.pushedX {X' : Value} {s : ByteArray} (h : St B w mb S L X K M d mu) (hg : w.grownBy w' X.ownBlock) (hr : w'.ownsRow B 9 1 X' (K.length + 1) (K.map Value.string ++ [.string s])) (hat : X'.ownBlock = X.ownBlock ∨ X'.ownBlock = some w.heap.size) :
    St B w' mb S L X' (K ++ [s]) M d mu := by
  have hS : S.ownBlock = none ∨ S.ownBlock ≠ X.ownBlock := by
    rcases h.sep with e | e
    · rw [e]; exact ne_none_or
    · exact Or.inr fun e2 => e e2.symm
  refine ⟨h.base, (hg.block mb h.lt (fun e => h.x_ne e.symm)).trans h.blk, h.row.kept hg hS, by simpa using hr, ?_⟩
  rcases hat with e | e
  · rw [e]; exact h.sep
  · rw [e]
    refine Or.inr fun e2 => ?_
    have := (h.row.lt _ e2.symm).2
    omega

/-- The index's block, if there is one, while a row or the model is written. -/
theorem map_kept {b n : Nat} {D : DataW Unit} {r : Option Nat} (hm : w.ownsMap Yba.prog 9 (plainElem Yba.prog 3) b n D) (hg : w.grownBy w' r) (hr : ∀ g, r = some g → ∃ c t f, w.heap[g]? = some (.cells c t f)) : w'.ownsMap Yba.prog 9 (plainElem Yba.prog 3) b n D := by
  refine hm.kept hg fun e => ?_
  obtain ⟨c, t, f, hc⟩ := hr b e.symm
  obtain ⟨es, clock, hb, _⟩ := hm
  rw [hc] at hb
  cases hb

end Go.Proofs.Ybulksyc
