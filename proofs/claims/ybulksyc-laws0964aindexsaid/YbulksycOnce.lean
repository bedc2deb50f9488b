/-
  (*sync.Once).doSlow, (*sync.Once).Do and statesByName, in one goroutine: the first time (the index is made) and every later time.
-/
import Derived.Test.YbulksycFill
import Derived.Test.YbulksycParts
namespace Go.Proofs.Ybulksyc
open Go Go.RowKit Go.Maps

set_option maxRecDepth 100000 in
set_option maxHeartbeats 1600000 in
theorem slow_any {B : Nat} {w : World} {mb : Nat} {S X M : Value} {L K : List ByteArray} (pb : Nat) (h : St B w mb S L X K M 0 0)
    (hp : w.heap[pb]? = some (.cells #[.pointer (some ⟨mb, 0, none⟩)] 24 (0, 0))) (hL : ∀ s ∈ L, s.size ≤ maxLen) (hlen : L.length ≤ 100000) :
    Calls Yba.prog 13 #[.pointer (some ⟨mb, 9, none⟩), .func (.func 11) #[] #[.pointer (some ⟨pb, 0, none⟩)]] w fun e w' => e = .returned (.tuple #[]) ∧ ∃ bm, w.heap.size ≤ bm ∧ St B w' mb S L X K (.map (some bm)) 1 0 ∧
      w'.ownsMap Yba.prog 9 (plainElem Yba.prog 3) bm L.length (ix L) ∧ Below B w w' ∧ w'.heap[pb]? = some (.cells #[.pointer (some ⟨mb, 0, none⟩)] 24 (0, 0)) := by
  have hpm : pb ≠ mb := fun e => by
    have := h.blk
    rw [← e, hp] at this
    simp at this
  have h1 := h.setU 1
  have p1 : (w.setCell ⟨mb, 10, none⟩ (.int .i32 1)).heap[pb]? = some (.cells #[.pointer (some ⟨mb, 0, none⟩)] 24 (0, 0)) := by rw [Below.heap_setCell _ _ _ _ hpm]; exact hp
  have hl := run_call_load (P := Yba.prog) Yba.func14 (by kernel_rfl) (by kernel_rfl) (by kernel_rfl) .u32 (by kernel_rfl) h1.c9
  have hnot : ∀ (x : Bool) (w : World), (Op.unary .not (.bool x)).run Yba.prog w = .ok (.bool (!x)) w := fun _ _ => rfl
  have c10 := h.c10
  have f10 := h.free 10
  have HF := fill_any pb h1 p1 hL hlen
  have b1 : Below B w (w.setCell ⟨mb, 10, none⟩ (.int .i32 1)) := (Below.refl _ _).setCell h.base _
  have hsz : (w.setCell ⟨mb, 10, none⟩ (.int .i32 1)).heap.size = w.heap.size := by simp [World.setCell]
  go_enter_defers Yba.func13, Yba.ntmps13
  go_wp2_with (go_at_call 15; refine (lock_free ⟨mb, 10, none⟩ _ c10 f10).mono ?_; rintro e w' ⟨rfl, rfl⟩)
  generalize w.setCell ⟨mb, 10, none⟩ (.int .i32 1) = W1 at *
  go_wp2_with (first | (go_at_call 11; refine HF.mono ?_; rintro e w2 ⟨rfl, bm, hbm, h2, m2, b2, p2⟩) | go_in)
  refine leaves_cons (f := 17) (args := #[.pointer (some ⟨mb, 9, none⟩), .bool true]) (by simp) (by simp [go_sem]) ?_
  refine (store_deferred ⟨mb, 9, none⟩ (.int .u32 0) .returning _ h2.c9 (h2.free 9)).mono ?_
  rintro e u' w3 ⟨rfl, rfl, rfl⟩
  have h3 := h2.drew.setD 1
  refine leaves_cons (f := 16) (args := #[.pointer (some ⟨mb, 10, none⟩)]) (by simp [settle]) (by simp [go_sem]) ?_
  refine (unlock_deferred ⟨mb, 10, none⟩ _ _ h3.c10 (h3.free 10)).mono ?_
  rintro e u' w4 ⟨rfl, rfl, rfl⟩
  have h4 := h3.setU 0
  have hbb : bm ≠ mb := fun e => by
    obtain ⟨es, clock, hb, _⟩ := m2
    have := h2.blk
    rw [← e, hb] at this
    cases this
  have m4 := ((m2.drew).setCell (a := ⟨mb, 9, none⟩) hbb (.int .u32 1)).setCell (a := ⟨mb, 10, none⟩) hbb (.int .i32 0)
  have b4 : Below B w ((w2.drew.setCell ⟨mb, 9, none⟩ (.int .u32 1)).setCell ⟨mb, 10, none⟩ (.int .i32 0)) := (((b1.trans b2).drew).setCell h.base _).setCell h.base _
  have p4 : ((w2.drew.setCell ⟨mb, 9, none⟩ (.int .u32 1)).setCell ⟨mb, 10, none⟩ (.int .i32 0)).heap[pb]? = some (.cells #[.pointer (some ⟨mb, 0, none⟩)] 24 (0, 0)) := by
    rw [Below.heap_setCell _ _ _ _ hpm, Below.heap_setCell _ _ _ _ hpm]
    exact p2
  have hbm' : w.heap.size ≤ bm := by rw [← hsz]; exact hbm
  exact ⟨.tuple #[], by simp [results, Yba.results13], rfl, bm, hbm', h4, m4, b4, p4⟩

set_option maxRecDepth 100000 in
set_option maxHeartbeats 1600000 in
/-- Do, the first time. -/
theorem do_first {B : Nat} {w : World} {mb : Nat} {S X M : Value} {L K : List ByteArray} (pb : Nat) (h : St B w mb S L X K M 0 0)
    (hp : w.heap[pb]? = some (.cells #[.pointer (some ⟨mb, 0, none⟩)] 24 (0, 0))) (hL : ∀ s ∈ L, s.size ≤ maxLen) (hlen : L.length ≤ 100000) :
    Calls Yba.prog 10 #[.pointer (some ⟨mb, 9, none⟩), .func (.func 11) #[] #[.pointer (some ⟨pb, 0, none⟩)]] w fun e w' => e = .returned (.tuple #[]) ∧ ∃ bm, w.heap.size ≤ bm ∧ St B w' mb S L X K (.map (some bm)) 1 0 ∧
      w'.ownsMap Yba.prog 9 (plainElem Yba.prog 3) bm L.length (ix L) ∧ Below B w w' ∧ w'.heap[pb]? = some (.cells #[.pointer (some ⟨mb, 0, none⟩)] 24 (0, 0)) := by
  have hl := run_call_load (P := Yba.prog) Yba.func14 (by kernel_rfl) (by kernel_rfl) (by kernel_rfl) .u32 (by kernel_rfl) h.c9
  have hnot : ∀ (x : Bool) (w : World), (Op.unary .not (.bool x)).run Yba.prog w = .ok (.bool (!x)) w := fun _ _ => rfl
  have HS := slow_any pb h hp hL hlen
  go_enter Yba.func10, Yba.ntmps10
  go_wp2_with (first | (go_at_call 13; refine HS.mono ?_; rintro e w2 ⟨rfl, hR⟩) | (go_at_call 12; go_in))
  go_end0
  exact ⟨rfl, hR⟩

/-- Do, done already: the function is not called. -/
theorem do_done (a : Addr) (fv : Value) (w : World) (h0 : w.cell? a = some (.int .u32 1)) :
    Calls Yba.prog 10 #[.pointer (some a), fv] w fun e w' => e = .returned (.tuple #[]) ∧ w' = w := by
  have hl := run_call_load (P := Yba.prog) Yba.func14 (by kernel_rfl) (by kernel_rfl) (by kernel_rfl) .u32 (by kernel_rfl) h0
  have hnot : ∀ (x : Bool) (w : World), (Op.unary .not (.bool x)).run Yba.prog w = .ok (.bool (!x)) w := fun _ _ => rfl
  go_enter Yba.func10, Yba.ntmps10
  go_wp2
  go_end0
  exact ⟨rfl, rfl⟩

/-- WHAT IS KNOWN OF THE INDEX: not made yet; or made, and it is the index over L. -/
def Ix (B : Nat) (w : World) (mb : Nat) (S : Value) (L : List ByteArray) (X : Value) (K : List ByteArray) : Prop :=
  (∃ M, St B w mb S L X K M 0 0) ∨ ∃ bm, B ≤ bm ∧ St B w mb S L X K (.map (some bm)) 1 0 ∧ w.ownsMap Yba.prog 9 (plainElem Yba.prog 3) bm L.length (ix L)

set_option maxRecDepth 100000 in
set_option maxHeartbeats 1600000 in
/-- statesByName: the index over L is there, and is handed back. -/
theorem byName_any {B : Nat} {w : World} {mb : Nat} {S X : Value} {L K : List ByteArray} (h : Ix B w mb S L X K) (hL : ∀ s ∈ L, s.size ≤ maxLen) (hlen : L.length ≤ 100000) :
    Calls Yba.prog 9 #[.pointer (some ⟨mb, 0, none⟩)] w fun e w' => ∃ bm, e = .returned (.map (some bm)) ∧ B ≤ bm ∧ St B w' mb S L X K (.map (some bm)) 1 0 ∧
      w'.ownsMap Yba.prog 9 (plainElem Yba.prog 3) bm L.length (ix L) ∧ Below B w w' := by
  have hmf : ∀ (fn : Fn) (first cap : Array Value) (w : World), (Instr.makeFunc fn first cap).run Yba.prog w = .ok (.func fn first cap) w := fun _ _ _ _ => rfl
  rcases h with ⟨M, h⟩ | ⟨bm, hbm, h, hm⟩
  · have h1 := h.alloc (.cells #[.pointer (some ⟨mb, 0, none⟩)] 24)
    have p1 : (w.alloc (.cells #[.pointer (some ⟨mb, 0, none⟩)] 24)).heap[w.heap.size]? = some (.cells #[.pointer (some ⟨mb, 0, none⟩)] 24 (0, 0)) := (MapKept.heap_alloc w _).1
    have hle := h.le
    have b1 : Below B w (w.alloc (.cells #[.pointer (some ⟨mb, 0, none⟩)] 24)) := (Below.refl _ _).alloc h.le _
    have HS := do_first w.heap.size h1 p1 hL hlen
    have hs1 : (w.alloc (.cells #[.pointer (some ⟨mb, 0, none⟩)] 24)).heap.size = w.heap.size + 1 := by simp
    have q1 := cell_of_one p1
    go_enter Yba.func9, Yba.ntmps9
    go_wp2_with (go_at_call 10; refine HS.mono ?_; rintro e w2 ⟨rfl, bm, hbm, h2, m2, b2, p2⟩; have q2 := cell_of_one p2; have c8 := h2.c8)
    go_ret
    exact ⟨bm, rfl, by omega, h2, m2, b1.trans b2⟩
  · have h1 := h.alloc (.cells #[.pointer (some ⟨mb, 0, none⟩)] 24)
    have hle := h.le
    have b1 : Below B w (w.alloc (.cells #[.pointer (some ⟨mb, 0, none⟩)] 24)) := (Below.refl _ _).alloc h.le _
    have hm1 := hm.alloc (.cells #[.pointer (some ⟨mb, 0, none⟩)] 24)
    have HS := do_done ⟨mb, 9, none⟩ (.func (.func 11) #[] #[.pointer (some ⟨w.heap.size, 0, none⟩)]) _ h1.c9
    have c8 := h1.c8
    have p1 : (w.alloc (.cells #[.pointer (some ⟨mb, 0, none⟩)] 24)).heap[w.heap.size]? = some (.cells #[.pointer (some ⟨mb, 0, none⟩)] 24 (0, 0)) := (MapKept.heap_alloc w _).1
    have q1 := cell_of_one p1
    go_enter Yba.func9, Yba.ntmps9
    go_wp2_with (go_at_call 10; refine HS.mono ?_; rintro e w2 ⟨rfl, rfl⟩)
    go_ret
    exact ⟨bm, rfl, hbm, h1, hm1, b1⟩
end Go.Proofs.Ybulksyc
