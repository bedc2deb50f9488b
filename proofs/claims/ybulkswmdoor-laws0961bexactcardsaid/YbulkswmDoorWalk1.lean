import Derived.Test.YbulkswmDoorRows
import Derived.WalkKit
import Derived.Below
import Derived.WalkSpells
import Derived.WalkLawsBesides
import Derived.LaidEqlPtr
namespace Go.Proofs.YbulkswmDoor
open Go.RowKit

/-- The pattern letters, in their order. -/
def letters : ByteArray := ⟨#[121, 77, 100, 68, 71, 69, 101, 70, 87, 119, 89, 97, 72, 107, 104, 75, 109, 115, 83, 90, 122, 73, 84]⟩
theorem letters_size : letters.size = 23 := rfl
/-- The letter at place k, as an integer. -/
def letterAt (k : Nat) : Int := ((letters.data.getD k 0).toNat : Int)
theorem letterAt_is (k : Nat) (h : k < letters.size) : ((letters[k]).toNat : Int) = letterAt k := by
  unfold letterAt
  have h' : k < letters.data.size := h
  rw [Array.getD_eq_getD_getElem?, Array.getElem?_eq_getElem h']
  rfl
/-- The first place from n on, out of the next f, at which c stands. -/
def ixFrom (c : Int) : Nat → Nat → Nat
  | 0, n => n
  | f + 1, n => if letterAt n = c then n else ixFrom c f (n + 1)
def ix (c : Int) : Nat := ixFrom c 23 0
theorem ixFrom_le (c : Int) : ∀ f n, n ≤ ixFrom c f n ∧ ixFrom c f n ≤ n + f
  | 0, n => by simp [ixFrom]
  | f + 1, n => by
    have := ixFrom_le c f (n + 1)
    unfold ixFrom
    split <;> omega
theorem ixFrom_hit (c : Int) : ∀ f n, ixFrom c f n < n + f → letterAt (ixFrom c f n) = c
  | 0, n, h => by simp [ixFrom] at h
  | f + 1, n, h => by
    have ih := ixFrom_hit c f (n + 1)
    unfold ixFrom at h ⊢
    split
    · assumption
    · rename_i hn; rw [if_neg hn] at h; exact ih (by omega)
theorem ixFrom_miss (c : Int) : ∀ f n k, n ≤ k → k < ixFrom c f n → letterAt k ≠ c
  | 0, n, k, h1, h2 => by simp [ixFrom] at h2; omega
  | f + 1, n, k, h1, h2 => by
    unfold ixFrom at h2
    split at h2
    · omega
    · rename_i hn
      by_cases e : k = n
      · subst e; exact hn
      · exact ixFrom_miss c f (n + 1) k (by omega) h2
theorem ix_le (c : Int) : ix c ≤ 23 := by have := ixFrom_le c 23 0; unfold ix; omega
theorem ix_hit (c : Int) (h : ix c < 23) : letterAt (ix c) = c := ixFrom_hit c 23 0 (by unfold ix at h; omega)
theorem ix_miss (c : Int) (k : Nat) (h : k < ix c) : letterAt k ≠ c := ixFrom_miss c 23 0 k (by omega) h
/-- At a place up to the first hit: hit means 'this is the first'. -/
theorem ix_here (c : Int) (k : Nat) (hk : k ≤ ix c) (h : letterAt k = c) : k = ix c := by
  rcases Nat.lt_or_ge k (ix c) with h1 | h1
  · exact absurd h (ix_miss c k h1)
  · omega
theorem ix_next (c : Int) (k : Nat) (hk : k ≤ ix c) (hk2 : k < 23) (h : letterAt k ≠ c) : k + 1 ≤ ix c := by
  rcases Nat.lt_or_ge k (ix c) with h1 | h1
  · omega
  · obtain rfl : k = ix c := by omega
    exact absurd (ix_hit c hk2) h

/-- What zzs0961bindex answers. -/
def ixOut (c : Int) : Int := if ix c < 23 then (ix c : Int) else -1
/-- What symbolOf answers. -/
def ptrOut (c : Int) : Option Addr := if ix c < 23 then some ⟨0, ix c * 7, none⟩ else none

theorem letters_any (w : World) : Calls Ybad.prog 6 #[] w fun e w' => e = .returned (.string letters) ∧ w' = w := by
  go_enter Ybad.func6, Ybad.ntmps6
  go_wp2
  go_ret
  exact ⟨rfl, rfl⟩

theorem ret_int {k : IntKind} {a b : Int} (h : a = b) : Ending.returned (.int k a) = .returned (.int k b) := by rw [h]
theorem ret_ptr {a b : Option Addr} (h : a = b) : Ending.returned (.pointer a) = .returned (.pointer b) := by rw [h]

set_option maxHeartbeats 400000 in
theorem index_any (c : Int) (w : World) :
    Calls Ybad.prog 7 #[.int .u8 c] w fun e w' => e = .returned (.int .i64 (ixOut c)) ∧ w' = w := by
  have hsz := letters_size
  go_enter Ybad.func7, Ybad.ntmps7
  go_wp2_with (go_at_call 6; refine (letters_any _).mono ?_; rintro e w' ⟨rfl, rfl⟩)
  go_loop [4] (fun i => ∃ k : Nat, k ≤ ix c ∧ i = .int .i64 k) (fun i => 23 - (intOf i).toNat)
  case atStart => exact ⟨0, Nat.zero_le _, rfl⟩
  case round =>
    obtain ⟨k, hk, rfl⟩ := hrel
    have h23 := ix_le c
    by_cases hlt : k < 23
    · have hlt' : k < letters.size := by omega
      have hat := letterAt_is k hlt'
      by_cases he : letterAt k = c
      · have e := ix_here c k hk he
        have he' : (((letters[k]).toNat : Int) == c) = true := by rw [hat]; simpa using he
        have hfin : Hid (k = ix c) := e
        clear he hat e
        go_wp2
        go_ret
        exact ⟨ret_int (by unfold ixOut; rw [← hfin.out, if_pos hlt]), rfl⟩
      · have hn := ix_next c k hk hlt he
        have he' : (((letters[k]).toNat : Int) == c) = false := by rw [hat]; simpa using he
        clear he hat
        go_wp2
        go_round
        case rel => exact ⟨k + 1, by omega, by go_num⟩
        case measure => simp [intOf]; omega
    · go_wp2
      go_ret
      exact ⟨ret_int (by unfold ixOut; rw [if_neg (by omega)]), rfl⟩

set_option maxHeartbeats 400000 in
theorem symbolOf_any (c : Int) (w : World) (hc : ∀ k, k < 23 → w.cell? ⟨0, k * 7, none⟩ = some (.int .u8 (letterAt k))) :
    Calls Ybad.prog 8 #[.int .u8 c] w fun e w' => e = .returned (.pointer (ptrOut c)) ∧ w' = w := by
  go_enter Ybad.func8, Ybad.ntmps8
  go_wp2
  go_loop [3, 4] (fun _ i => ∃ k : Nat, k ≤ ix c ∧ i = .int .i64 k) (fun _ i => 23 - (intOf i).toNat)
  case atStart => exact ⟨0, Nat.zero_le _, rfl⟩
  case round =>
    obtain ⟨k, hk, rfl⟩ := hrel
    have h23 := ix_le c
    by_cases hlt : k < 23
    · have hat := hc k hlt
      by_cases he : letterAt k = c
      · have e : Hid (k = ix c) := ix_here c k hk he
        have he' : (letterAt k == c) = true := by simpa using he
        clear he hc
        go_wp2
        go_ret
        exact ⟨ret_ptr (by unfold ptrOut; rw [← e.out, if_pos hlt]), rfl⟩
      · have hn := ix_next c k hk hlt he
        have he' : (letterAt k == c) = false := by simpa using he
        clear he hc
        go_wp2
        go_round
        case rel => exact ⟨k + 1, by omega, by go_num⟩
        case measure => simp [intOf]; omega
    · go_wp2
      go_ret
      exact ⟨ret_ptr (by unfold ptrOut; rw [if_neg (by omega)]), rfl⟩

theorem info30 : ∃ j, Ybad.prog.info? 30 = some j := Option.isSome_iff_exists.1 (by kernel_rfl)

set_option maxHeartbeats 400000 in
theorem check_any (c : Int) (w : World) (hc : ∀ k, k < 23 → w.cell? ⟨0, k * 7, none⟩ = some (.int .u8 (letterAt k))) :
    Calls Ybad.prog 5 #[.int .u8 c] w fun e w' => e = .returned (.bool true) ∧ w' = w := by
  have h1 := index_any c w
  have h2 := symbolOf_any c w hc
  by_cases h : ix c < 23
  · have e1 : ixOut c = (ix c : Int) := by unfold ixOut; rw [if_pos h]
    have e2 : ptrOut c = some ⟨0, ix c * 7, none⟩ := by unfold ptrOut; rw [if_pos h]
    have hk := hc _ h
    rw [ix_hit c h] at hk
    rw [e1] at h1
    rw [e2] at h2
    have hp : ∀ w, (binOp .eql 25 (.pointer (some ⟨0, ix c * 7, none⟩)) (.pointer (some ⟨0, ix c * 7, none⟩))).run Ybad.prog w = .ok (.bool true) w := fun w => by
      obtain ⟨j, hj⟩ := info30
      exact run_eql_ptr_same w _ Ybad.underlying25 hj
    clear e1 e2 hc
    go_enter Ybad.func5, Ybad.ntmps5
    go_wp2_with (first | (go_at_call 7; refine h1.mono ?_; rintro e w' ⟨rfl, rfl⟩) | (go_at_call 8; refine h2.mono ?_; rintro e w' ⟨rfl, rfl⟩))
    go_ret
    exact ⟨rfl, rfl⟩


  · have e1 : ixOut c = -1 := by unfold ixOut; rw [if_neg h]
    have e2 : ptrOut c = none := by unfold ptrOut; rw [if_neg h]
    rw [e1] at h1
    rw [e2] at h2
    clear e1 e2 hc
    go_enter Ybad.func5, Ybad.ntmps5
    go_wp2_with (first | (go_at_call 7; refine h1.mono ?_; rintro e w' ⟨rfl, rfl⟩) | (go_at_call 8; refine h2.mono ?_; rintro e w' ⟨rfl, rfl⟩))
    go_ret
    exact ⟨rfl, rfl⟩

theorem exact_any (c : Int) (w : World) (hc : ∀ k, k < 23 → w.cell? ⟨0, k * 7, none⟩ = some (.int .u8 (letterAt k))) :
    Calls Ybad.prog 3 #[.int .u8 c] w fun e w' => e = .returned (.bool true) ∧ w' = w := by
  go_enter Ybad.func3, Ybad.ntmps3
  go_wp2_with (go_at_call 5; refine (check_any _ _ hc).mono ?_; rintro e w' ⟨rfl, rfl⟩)
  go_ret
  exact ⟨rfl, rfl⟩

theorem each_any (c : Int) (w : World) (h0 : 0 ≤ c) (h255 : c ≤ 255) (hc : ∀ k, k < 23 → w.cell? ⟨0, k * 7, none⟩ = some (.int .u8 (letterAt k))) :
    Calls Ybad.prog 4 #[.int .u8 c] w fun e w' => e = .returned (.bool true) ∧ w' = w := by
  have hsz := letters_size
  go_enter Ybad.func4, Ybad.ntmps4
  go_wp2_with (first | (go_at_call 6; refine (letters_any _).mono ?_; rintro e w' ⟨rfl, rfl⟩) | (go_at_call 5; refine (check_any _ _ hc).mono ?_; rintro e w' ⟨rfl, rfl⟩))
  go_ret
  exact ⟨rfl, rfl⟩
end Go.Proofs.YbulkswmDoor
