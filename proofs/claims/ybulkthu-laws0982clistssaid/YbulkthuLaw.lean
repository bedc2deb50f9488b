/-
  zzs0982clist and THE WALK OF LawS0982CLists.
-/
import Derived.Test.YbulkthuAdj
namespace Go.Proofs.Ybulkthu
open Go Go.RowKit

set_option maxHeartbeats 800000 in
/-- zzs0982clist: the list of node i. -/
theorem list_any {w : World} {sb ab n m : Nat} {s : Nat → Int} (i a b : Nat) (hB : Blk w sb (n + 2) s) (hi : i < n) (hn : n ≤ 1000) (hm : m ≤ 2000) (ha : s i = (a : Int)) (hb : s (i + 1) = (b : Int)) (hab : a ≤ b) (hbm : b ≤ m) (c : Nat) (hc : b - a = c) :
    Calls Yba.prog 5 #[.agg #[.slice (some ⟨sb, 0, none⟩) (n + 1) (n + 2), .slice (some ⟨ab, 0, none⟩) m m], .int .i64 i] w fun e w' => ∃ ao cap, e = .returned (.tuple #[.slice ao c cap, .bool true]) ∧ (0 < c → ao = some ⟨ab, a, none⟩) ∧ Fr w w' [] := by
  subst hc
  have ca := hB.cell (j := i) (by omega)
  have cb := hB.cell (j := i + 1) (by omega)
  rw [ha] at ca
  rw [hb] at cb
  have hlt := hB.lt
  have d1 : decide ((i : Int) < 0) = false := by simp
  have d2 : ((n : Int) + 1 ≤ (i : Int) + 1) = False := by simp; omega
  have d3 : decide ((a : Int) < 0) = false := by simp
  have d4 : decide ((b : Int) < (a : Int)) = false := by simp; omega
  have d5 : decide ((m : Int) < (b : Int)) = false := by simp; omega
  have i1 : (i : Int) < (n : Int) + 1 := by omega
  have i2 : (i : Int) + 1 < (n : Int) + 1 := by omega
  clear hB ha hb
  go_enter Yba.func5, Yba.ntmps5
  go_wp2
  go_quiet (fail)
  go_wp2
  · go_ret2
    exact ⟨_, ⟨_, rfl⟩, fun h => absurd h (by omega), ((Fr.refl _ _).alloc _).drewN _⟩
  · go_ret2
    exact ⟨_, ⟨_, rfl⟩, fun _ => rfl, ((Fr.refl _ _).alloc _).drewN _⟩

/-- A slice of integers that came in: nil, or a row. -/
def IsRow (k : IntKind) (w : World) (a : Option Addr) (len cap : Nat) (zs : List Int) : Prop :=
  (a = none ∧ len = 0 ∧ cap = 0 ∧ zs = []) ∨
  ∃ x, a = some x ∧ len ≤ cap ∧ cap ≤ maxLen ∧ zs.length = cap ∧ (∀ i, i < zs.length → w.cell? (x.add i) = some (.int k (zs.getD i 0))) ∧ ∀ n ∈ zs, (Lit.int k n).wf = true
theorem row_at {w : World} {a : Option Addr} {len cap : Nat} {z : List Int} (h : IsRow .u16 w a len cap z) (i : Nat) (hi : i < len) : ∃ b off, a = some ⟨b, off, none⟩ ∧ b < w.heap.size ∧ w.cell? ⟨b, off + i, none⟩ = some (.int .u16 (z.getD i 0)) ∧ 0 ≤ z.getD i 0 ∧ z.getD i 0 ≤ 65535 := by
  rcases h with ⟨rfl, rfl, rfl, rfl⟩ | ⟨x, rfl, hlc, hm, hz, hc, hw⟩
  · omega
  · obtain ⟨b, off, spot⟩ := x
    have hc0 := hc 0 (by omega)
    have hspot : spot = none := by simpa [Addr.add] using World.cell?_spot hc0
    subst hspot
    have hlt : b < w.heap.size := by
      have := block_lt_of_cell hc0
      simpa [Addr.add] using this
    have e := hc i (by omega)
    rw [WideShapes.add_plain] at e
    have hb : (Lit.int .u16 (z.getD i 0)).wf = true := by
      have hiz : i < z.length := by omega
      refine hw _ ?_
      simp [List.getD, hiz]
    have bd : 0 ≤ z.getD i 0 ∧ z.getD i 0 ≤ 65535 := by
      generalize z.getD i 0 = v at hb
      simp [Lit.wf, IntKind.min, IntKind.max, IntKind.signed, IntKind.bits] at hb
      omega
    exact ⟨b, off, rfl, hlt, e, bd.1, bd.2⟩

/-- The ends of the edges, as the law reckons them. -/
def endOf (z : List Int) (n : Nat) (k : Nat) : Nat := (z.getD k 0).toNat % n
theorem endOf_lt (z : List Int) (n k : Nat) (h : 0 < n) : endOf z n k < n := Nat.mod_lt _ h
theorem endOf_is (z : List Int) (n k : Nat) (h0 : 0 ≤ z.getD k 0) : z.getD k 0 % (n : Int) = (endOf z n k : Int) := by
  unfold endOf
  obtain ⟨v, hv⟩ := Int.eq_ofNat_of_zero_le h0
  rw [hv]
  simp

/-- What the law's loops read. -/
structure Wd (w wr : World) (AB FB TB sb1 ab1 sb2 ab2 n m : Nat) (f t : Nat → Nat) : Prop where
  adj : wr.heap[AB]? = some (.cells #[.slice (some ⟨sb1, 0, none⟩) (n + 1) (n + 2), .slice (some ⟨ab1, 0, none⟩) m m, .slice (some ⟨sb2, 0, none⟩) (n + 1) (n + 2), .slice (some ⟨ab2, 0, none⟩) m m] 28 (0, 0))
  rf : Blk wr FB m (fun k => (f k : Int))
  rt : Blk wr TB m (fun k => (t k : Int))
  s1 : Blk wr sb1 (n + 2) (fun j => (ltc f j m : Int))
  a1 : Blk wr ab1 m (atS f (fun i => (t i : Int)) m m)
  s2 : Blk wr sb2 (n + 2) (fun j => (ltc t j m : Int))
  a2 : Blk wr ab2 m (atS t (fun i => (f i : Int)) m m)
  fr : Fr w wr []
theorem Wd.later {w wr w' : World} {AB FB TB sb1 ab1 sb2 ab2 n m : Nat} {f t : Nat → Nat} (h : Wd w wr AB FB TB sb1 ab1 sb2 ab2 n m f t) (hf : Fr wr w' []) : Wd w w' AB FB TB sb1 ab1 sb2 ab2 n m f t :=
  ⟨(hf.block AB (lt_of_block h.adj) (by simp)).trans h.adj, h.rf.kept hf (by simp), h.rt.kept hf (by simp), h.s1.kept hf (by simp), h.a1.kept hf (by simp), h.s2.kept hf (by simp), h.a2.kept hf (by simp), h.fr.trans hf (fun x e => by simp at e) (fun x e => by simp at e)⟩
theorem Wd.drewN {w wr : World} {AB FB TB sb1 ab1 sb2 ab2 n m : Nat} {f t : Nat → Nat} (h : Wd w wr AB FB TB sb1 ab1 sb2 ab2 n m f t) (k : Nat) : Wd w (wr.drewN k) AB FB TB sb1 ab1 sb2 ab2 n m f t := h.later ((Fr.refl _ _).drewN k)

set_option maxRecDepth 100000 in
theorem law_long (a0 : Int) (a1 : Option Addr) (len1 cap1 : Nat) (a2 : Option Addr) (len2 cap2 : Nat) (w : World) (h : 1024 < len1 ∨ 1024 < len2) :
    Calls Yba.prog 3 #[.int .u8 a0, .slice a1 len1 cap1, .slice a2 len2 cap2] w fun e w' => e = .returned (.bool true) ∧ Below w.heap.size w w' := by
  by_cases h1 : 1024 < len1
  · have d1 : decide ((1024 : Int) < (len1 : Int)) = true := by simp; omega
    go_enter Yba.func3, Yba.ntmps3
    go_wp2
    go_ret
    exact ⟨rfl, Below.refl _ _⟩
  · have d1 : decide ((1024 : Int) < (len1 : Int)) = false := by simp; omega
    have d2 : decide ((1024 : Int) < (len2 : Int)) = true := by simp; omega
    go_enter Yba.func3, Yba.ntmps3
    go_wp2
    go_ret
    exact ⟨rfl, Below.refl _ _⟩

set_option maxRecDepth 100000 in
set_option maxHeartbeats 1600000 in
/-- A graph without nodes. -/
theorem law_none (a0 : Int) (a1 : Option Addr) (len1 cap1 : Nat) (a2 : Option Addr) (len2 cap2 : Nat) (w : World) (h0 : 0 ≤ a0) (h255 : a0 ≤ 255) (hn : a0 % 48 = 0) (hl1 : len1 ≤ 1024) (hl2 : len2 ≤ 1024) :
    Calls Yba.prog 3 #[.int .u8 a0, .slice a1 len1 cap1, .slice a2 len2 cap2] w fun e w' => e = .returned (.bool true) ∧ Below w.heap.size w w' := by
  obtain ⟨i0, hi, hz0, hz1, hz2⟩ := info_parts info21
  have d1 : decide ((1024 : Int) < (len1 : Int)) = false := by simp; omega
  have d2 : decide ((1024 : Int) < (len2 : Int)) = false := by simp; omega
  by_cases hc : len2 < len1
  all_goals
    go_enter Yba.func3, Yba.ntmps3
    go_wp2_with (first | (at_make; refine wpList_make_full _ rfl (.tmp 42) (.tmp 42) 23 rfl w.heap.size 21 i0 (.int .i32 0) 1 Yba.underlying23 hi hz0 hz1 .i64 .i64 _ _ 0 rfl rfl rfl rfl (by omega) (by unfold maxLen; omega) (Nat.le_refl _) ?_; intro w1 r1 g1) | (at_make; refine wpList_make_full _ rfl (.tmp 44) (.tmp 44) 23 rfl w1.heap.size 21 i0 (.int .i32 0) 1 Yba.underlying23 hi hz0 hz1 .i64 .i64 _ _ 0 rfl rfl rfl rfl (by omega) (by unfold maxLen; omega) (Nat.le_refl _) ?_; intro w2 r2 g2))
    have BF := (blk_made r1 rfl).kept (Fr.of_grown (S := []) g2) (by simp)
    have BT := blk_made r2 rfl
    have F2 : Fr w w2 [] := (Fr.of_grown (S := []) g1).trans (Fr.of_grown (S := []) g2) (fun x h => by simp at h) (fun x h => by simp at h)
    have CA := newAdj_any (n := 0) (f := fun _ => 0) (t := fun _ => 0) BF BT (by omega) (by omega) (fun i hi => by omega) (fun i hi => by omega)
    clear r1 r2 g1 g2 BF BT
    refine wp_loop_rounds 1 ?_; rw [rounds_succ]
    go_wp2_with fail
    refine CA.mono ?_
    rintro e w4 ⟨sb1, ab1, sb2, ab2, rfl, q1, q3, q2, q4, f4⟩
    have F4 : Fr w w4 [] := F2.trans f4 (fun x h => by simp at h) (fun x h => by simp at h)
    clear CA q1 q2 q3 q4 f4 F2
    go_wp2_with fail
    refine wp_loop_rounds 1 ?_; rw [rounds_succ]
    go_wp2
    go_ret
    exact ⟨rfl, (F4.alloc _).below (Nat.le_refl _) (fun x h => by simp at h)⟩
end Go.Proofs.Ybulkthu
