import Derived.Test.YbulkswmRows
import Derived.WalkKit
import Derived.Below
import Derived.WalkSpells
import Derived.Deep.QuietTactic
import Derived.BigQuiet
import Derived.WalkSmall
namespace Go.Proofs.Ybulkswm
open Go.RowKit

/-- How many of the first n numbers are left when the zeros at their end are struck. -/
def tl (z : List Int) : Nat → Nat
  | 0 => 0
  | n + 1 => if z.getD n 0 = 0 then tl z n else n + 1
theorem tl_le (z : List Int) : ∀ n, tl z n ≤ n
  | 0 => Nat.le_refl _
  | n + 1 => by have := tl_le z n; unfold tl; split <;> omega
theorem tl_last (z : List Int) : ∀ n, 0 < tl z n → z.getD (tl z n - 1) 0 ≠ 0
  | 0, h => by simp [tl] at h
  | n + 1, h => by
    have ih := tl_last z n
    unfold tl at h ⊢
    split
    · rename_i hz; rw [if_pos hz] at h; exact ih h
    · rename_i hz; simpa using hz
theorem tl_zero (z : List Int) (n : Nat) (h : z.getD n 0 = 0) : tl z (n + 1) = tl z n := by rw [tl, if_pos h]
theorem tl_more (z : List Int) (n : Nat) (h : z.getD n 0 ≠ 0) : tl z (n + 1) = n + 1 := by rw [tl, if_neg h]
def lenOf : Value → Nat | .slice _ n _ => n | _ => 0

set_option maxHeartbeats 400000 in
theorem signed_zero (a0 : Bool) (a : Option Addr) (cap : Nat) (w : World) :
    Calls Yba.prog 4 #[.bool a0, .slice a 0 cap] w fun e w' => e = .returned (.agg #[.bool false, .slice a 0 cap]) ∧ Below w.heap.size w w' := by
  cases a0
  all_goals
    go_enter Yba.func4, Yba.ntmps4
    go_wp2
    refine wp_loop_rounds 1 ?_; rw [rounds_succ]
    go_wp2
    exact bodyPost_ret (v := .agg #[.bool false, .slice a 0 cap]) (by simp [results, Yba.results4, go_sem]) rfl ⟨rfl, (Below.refl _ _).alloc (Nat.le_refl _) _⟩

set_option maxHeartbeats 400000 in
theorem signed_any (a0 : Bool) (b off len cap : Nat) (z : List Int) (w : World) (hl : len ≤ cap) (hm : cap ≤ maxLen) (hz : z.length = cap)
    (hb : b < w.heap.size) (hc : ∀ i, i < z.length → w.cell? ⟨b, off + i, none⟩ = some (.int .u32 (z.getD i 0))) :
    Calls Yba.prog 4 #[.bool a0, .slice (some ⟨b, off, none⟩) len cap] w fun e w' => e = .returned (.agg #[.bool (a0 && decide (0 < tl z len)), .slice (some ⟨b, off, none⟩) (tl z len) cap]) ∧ Below w.heap.size w w' := by
  unfold maxLen at hm
  go_enter Yba.func4, Yba.ntmps4
  go_wp2
  go_loop [1] (fun s => ∃ k : Nat, k ≤ len ∧ tl z k = tl z len ∧ s = .slice (some ⟨b, off, none⟩) k cap) (fun s => lenOf s)
  case atStart => exact ⟨len, Nat.le_refl _, rfl, rfl⟩
  case round =>
    obtain ⟨k, hk, hT, rfl⟩ := hrel
    have HT : Hid (tl z k = tl z len) := hT
    clear hT
    have hcell : 0 < k → w.cell? ⟨b, off + (k - 1), none⟩ = some (.int .u32 (z.getD (k - 1) 0)) := fun _ => hc _ (by omega)
    clear hc
    cases k with
    | zero =>
      have e : Hid (tl z len = 0) := by rw [← HT.out]; rfl
      clear hcell HT
      cases a0
      all_goals
        go_wp2
        exact bodyPost_ret (v := .agg #[.bool false, .slice (some ⟨b, off, none⟩) 0 cap]) (by simp [results, Yba.results4, go_sem]) rfl ⟨by simp [e.out], (Below.refl _ _).alloc (Nat.le_refl _) _⟩
    | succ k =>
      have g := hcell (by omega)
      clear hcell
      simp only [Nat.add_sub_cancel] at g
      by_cases h0 : z.getD k 0 = 0
      · have e : Hid (tl z k = tl z len) := by rw [← tl_zero z k h0]; exact HT.out
        have h0' : (z[k]?.getD 0 == 0) = true := by simpa [List.getD] using h0
        clear HT h0
        go_wp2
        go_round
        case rel => exact ⟨k, by omega, e.out, rfl⟩
        case measure => simp [lenOf]
      · have e : Hid (tl z len = k + 1) := by rw [← HT.out]; exact tl_more z k h0
        have h0' : (z[k]?.getD 0 == 0) = false := by simpa [List.getD] using h0
        clear HT h0
        cases a0
        · go_wp2
          exact bodyPost_ret (v := .agg #[.bool false, .slice (some ⟨b, off, none⟩) (k + 1) cap]) (by simp [results, Yba.results4, go_sem]) rfl ⟨by simp [e.out], (Below.refl _ _).alloc (Nat.le_refl _) _⟩
        · go_wp2
          exact bodyPost_ret (v := .agg #[.bool true, .slice (some ⟨b, off, none⟩) (k + 1) cap]) (by simp [results, Yba.results4, go_sem]) rfl ⟨by simp [e.out], (Below.refl _ _).alloc (Nat.le_refl _) _⟩

set_option maxHeartbeats 800000 in
theorem law_some (a0 : Bool) (b off len cap : Nat) (z : List Int) (w : World) (hl : len ≤ cap) (hm : cap ≤ maxLen) (hz : z.length = cap) (h1 : len ≤ 1024)
    (hb : b < w.heap.size) (hc : ∀ i, i < z.length → w.cell? ⟨b, off + i, none⟩ = some (.int .u32 (z.getD i 0))) :
    Calls Yba.prog 3 #[.bool a0, .slice (some ⟨b, off, none⟩) len cap] w fun e w' => e = .returned (.bool true) ∧ Below w.heap.size w w' := by
  have HS := signed_any a0 b off len cap z w hl hm hz hb hc
  unfold maxLen at hm
  go_enter Yba.func3, Yba.ntmps3
  go_wp2
  go_loop [5, 6] (fun n i => ∃ k : Nat, k ≤ len ∧ i = .int .i64 k ∧ n = .int .i64 (tl z k)) (fun _ i => len - (intOf i).toNat)
  case atStart => exact ⟨0, Nat.zero_le _, rfl, rfl⟩
  case round =>
    obtain ⟨k, hk, rfl, rfl⟩ := hrel
    by_cases hlt : k < len
    · have g := hc k (by omega)
      clear hc HS
      by_cases h0 : z.getD k 0 = 0
      · have e : Hid (tl z (k + 1) = tl z k) := tl_zero z k h0
        have h0' : (z[k]?.getD 0 != 0) = false := by simpa [List.getD] using h0
        clear h0
        go_wp2
        go_round
        case rel => exact ⟨k + 1, by omega, by go_num, by rw [e.out]⟩
        case measure => simp [intOf]; omega
      · have e : Hid (tl z (k + 1) = k + 1) := tl_more z k h0
        have h0' : (z[k]?.getD 0 != 0) = true := by simpa [List.getD] using h0
        clear h0
        go_wp2
        go_round
        case rel => exact ⟨k + 1, by omega, by go_num, by rw [e.out]; go_num⟩
        case measure => simp [intOf]; omega
    · obtain rfl : k = len := by omega
      have tle := tl_le z k
      have tla := tl_last z k
      generalize hT : tl z k = T at *
      have HT : Hid (tl z k = T) := hT
      clear hT
      go_wp2_with fail
      refine HS.mono ?_
      rintro e w1 ⟨rfl, hbel⟩
      have hcell : ∀ i, i < z.length → w1.cell? ⟨b, off + i, none⟩ = some (.int .u32 (z.getD i 0)) := fun i hi => by rw [hbel.cell (p := ⟨b, off + i, none⟩) hb]; exact hc i hi
      have hsz := hbel.size
      clear hc
      go_wp2_with fail
      have hN : Hid ((a0 && decide (0 < T)) = (a0 && decide ((0 : Int) < T))) := by
        show _ = _
        congr 1
        simp
      generalize (a0 && decide (0 < T)) = N at hN ⊢
      go_loopw [8] (fun i wr => ∃ j : Nat, j ≤ T ∧ i = .int .i64 j ∧ Below w.heap.size w wr ∧ wr.cell? ⟨w1.heap.size, 0, none⟩ = some (.bool N) ∧ wr.cell? ⟨w1.heap.size, 1, none⟩ = some (.slice (some ⟨b, off, none⟩) T cap) ∧ ∀ i, i < z.length → wr.cell? ⟨b, off + i, none⟩ = some (.int .u32 (z.getD i 0))) (fun i _ => T - (intOf i).toNat)
      case atStart =>
        refine ⟨0, Nat.zero_le _, rfl, hbel.alloc hsz _, by simp, by simp, fun i hi => ?_⟩
        have hb1 : b < w1.heap.size := by omega
        exact (World.cell?_alloc_past _ _ _ hb1).trans (hcell i hi)
      case round =>
        obtain ⟨j, hj, rfl, hB, c0, c1, ca⟩ := hrel
        clear hcell
        by_cases hlt : j < T
        · have g := ca j (by omega)
          have hlk : (j : Int) < (k : Int) := by omega
          have HB : Hid (Below w.heap.size w wr) := hB
          clear hB
          go_wp2
          go_quiet (fail)
          go_wp2
          go_roundw
          case rel => exact ⟨j + 1, by omega, by go_num, below_drewN HB.out _, by simpa using c0, by simpa using c1, fun i hi => by simpa using ca i hi⟩
          case measure => simp [intOf]; omega
        · obtain rfl : j = T := by omega
          have HB : Hid (Below w.heap.size w wr) := hB
          clear hB
          cases j with
          | zero =>
            obtain rfl : N = false := by rw [hN.out]; simp
            clear hN ca tla HS
            cases a0
            all_goals
              go_wp2
              go_ret
              exact ⟨rfl, HB.out⟩
          | succ j =>
            have g := ca j (by omega)
            have gz : (z[j]?.getD 0 == 0) = false := by have := tla (by omega); simpa [List.getD] using this
            obtain rfl : N = a0 := by rw [hN.out]; simp
            clear hN ca tla HS
            cases N
            all_goals
              go_wp2
              go_ret
              exact ⟨rfl, HB.out⟩

set_option maxHeartbeats 400000 in
theorem law_long (a0 : Bool) (a : Option Addr) (len cap : Nat) (w : World) (hm : len ≤ maxLen) (h1 : 1024 < len) :
    Calls Yba.prog 3 #[.bool a0, .slice a len cap] w fun e w' => e = .returned (.bool true) ∧ Below w.heap.size w w' := by
  unfold maxLen at hm
  go_enter Yba.func3, Yba.ntmps3
  go_wp2
  go_ret
  exact ⟨rfl, Below.refl _ _⟩

set_option maxHeartbeats 400000 in
theorem law_zero (a0 : Bool) (a : Option Addr) (cap : Nat) (w : World) :
    Calls Yba.prog 3 #[.bool a0, .slice a 0 cap] w fun e w' => e = .returned (.bool true) ∧ Below w.heap.size w w' := by
  have HS := signed_zero a0 a cap w
  cases a0
  all_goals
    go_enter Yba.func3, Yba.ntmps3
    go_wp2
    refine wp_loop_rounds 1 ?_; rw [rounds_succ]
    go_wp2_with fail
    refine HS.mono ?_
    rintro e w1 ⟨rfl, hbel⟩
    have HB : Hid (Below w.heap.size w w1) := hbel
    have hsz := hbel.size
    clear hbel HS
    go_wp2_with fail
    refine wp_loop_rounds 1 ?_; rw [rounds_succ]
    go_wp2
    go_ret
    exact ⟨rfl, HB.out.alloc hsz _⟩
end Go.Proofs.Ybulkswm
