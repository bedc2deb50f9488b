/-
  THE WALKS over clip.ascii's check: the bytes' own part (slices.IndexFunc, slices.ContainsFunc, zzs0968cwant).
-/
import Derived.Test.YbulktagFmtFacts
import Derived.WalkKit
import Derived.WalkSpells
import Derived.WalkSmall
import Derived.Deep.QuietTactic
import Derived.BigQuiet
namespace Go.Proofs.YbulktagFmt
open Go.RowKit Go.Extern.Stop Go.Stop Go.Extern

/-- The bytes of a slice that came in, where it has some. -/
def Bytes (w : World) (a : Option Addr) (len : Nat) (z : List Int) : Prop :=
  ∀ i, i < len → ∃ b off, a = some ⟨b, off, none⟩ ∧ b < w.heap.size ∧ w.cell? ⟨b, off + i, none⟩ = some (.int .u8 (z.getD i 0)) ∧ 0 ≤ z.getD i 0 ∧ z.getD i 0 ≤ 255
/-- All are ASCII. -/
def Fine (len : Nat) (z : List Int) : Prop := ∀ i, i < len → z.getD i 0 ≤ 127

theorem Bytes.later {w w' : World} {a : Option Addr} {len : Nat} {z : List Int} (h : Bytes w a len z) (hb : Below w.heap.size w w') : Bytes w' a len z := by
  intro i hi
  obtain ⟨b, off, e, hlt, hc, h0, h1⟩ := h i hi
  exact ⟨b, off, e, Nat.lt_of_lt_of_le hlt hb.size, (hb.cell (p := ⟨b, off + i, none⟩) hlt).trans hc, h0, h1⟩

set_option maxHeartbeats 400000 in
/-- slices.IndexFunc: no byte beyond 127. -/
theorem index_fine {w : World} {a : Option Addr} {len : Nat} {z : List Int} (cap : Nat) (hl : len ≤ 1024) (hz : Bytes w a len z) (hf : Fine len z) :
    Calls Ybaf.prog 20 #[.slice a len cap, .func (.func 16) #[] #[]] w fun e w' => e = .returned (.int .i64 (-1)) ∧ w' = w := by
  go_enter Ybaf.func20, Ybaf.ntmps20
  go_wp2
  go_loop [8] (fun i => ∃ k : Nat, k ≤ len ∧ i = .int .i64 k) (fun i => len - (intOf i).toNat)
  case atStart => exact ⟨0, Nat.zero_le _, rfl⟩
  case round =>
    obtain ⟨k, hk, rfl⟩ := hrel
    by_cases hlt : k < len
    · obtain ⟨b, off, rfl, hb, hc, h0, h1⟩ := hz k hlt
      have h2 := hf k hlt
      generalize z.getD k 0 = v at *
      go_wp2
      go_round
      case rel => exact ⟨k + 1, by omega, by go_num⟩
      case measure => simp [intOf]; omega
    · go_wp2
      go_ret
      exact ⟨rfl, rfl⟩

set_option maxHeartbeats 400000 in
/-- slices.IndexFunc: some byte beyond 127. -/
theorem index_bad {w : World} {a : Option Addr} {len : Nat} {z : List Int} (cap : Nat) (hl : len ≤ 1024) (hz : Bytes w a len z) (hf : ¬ Fine len z) :
    Calls Ybaf.prog 20 #[.slice a len cap, .func (.func 16) #[] #[]] w fun e w' => ∃ n : Nat, e = .returned (.int .i64 n) ∧ w' = w := by
  go_enter Ybaf.func20, Ybaf.ntmps20
  go_wp2
  go_loop [8] (fun i => ∃ k : Nat, k ≤ len ∧ i = .int .i64 k ∧ Fine k z) (fun i => len - (intOf i).toNat)
  case atStart => exact ⟨0, Nat.zero_le _, rfl, fun i hi => by omega⟩
  case round =>
    obtain ⟨k, hk, rfl, hfk⟩ := hrel
    by_cases hlt : k < len
    · obtain ⟨b, off, rfl, hb, hc, h0, h1⟩ := hz k hlt
      by_cases h2 : z.getD k 0 ≤ 127
      · have HF : Hid (Fine (k + 1) z) := fun i hi => by
          rcases Nat.lt_or_ge i k with h | h
          · exact hfk i h
          · rw [show i = k by omega]; exact h2
        generalize z.getD k 0 = v at *
        go_wp2
        go_round
        case rel => exact ⟨k + 1, by omega, by go_num, HF.out⟩
        case measure => simp [intOf]; omega
      · generalize z.getD k 0 = v at *
        have h3 : 127 < v := by omega
        clear h2
        go_wp2
        go_ret
        exact ⟨⟨k, rfl⟩, rfl⟩
    · obtain rfl : k = len := by omega
      exact absurd hfk hf

theorem contains_fine {w : World} {a : Option Addr} {len : Nat} {z : List Int} (cap : Nat) (hl : len ≤ 1024) (hz : Bytes w a len z) (hf : Fine len z) :
    Calls Ybaf.prog 15 #[.slice a len cap, .func (.func 16) #[] #[]] w fun e w' => e = .returned (.bool false) ∧ w' = w := by
  have H := index_fine cap hl hz hf
  go_enter Ybaf.func15, Ybaf.ntmps15
  go_wp2_with (go_at_call 20; refine H.mono ?_; rintro e w' ⟨rfl, rfl⟩)
  go_ret
  exact ⟨rfl, rfl⟩

theorem contains_bad {w : World} {a : Option Addr} {len : Nat} {z : List Int} (cap : Nat) (hl : len ≤ 1024) (hz : Bytes w a len z) (hf : ¬ Fine len z) :
    Calls Ybaf.prog 15 #[.slice a len cap, .func (.func 16) #[] #[]] w fun e w' => e = .returned (.bool true) ∧ w' = w := by
  have H := index_bad cap hl hz hf
  go_enter Ybaf.func15, Ybaf.ntmps15
  go_wp2_with (go_at_call 20; refine H.mono ?_; rintro e w' ⟨n, rfl, rfl⟩)
  go_ret
  exact ⟨rfl, rfl⟩

theorem want_long {w : World} {a : Option Addr} {len cap : Nat} {max : Int} (hl : len ≤ 1024) (h : (len : Int) < 1 ∨ max < (len : Int)) :
    Calls Ybaf.prog 10 #[.int .i64 max, .slice a len cap] w fun e w' => e = .returned (.bool false) ∧ w' = w := by
  by_cases h1 : (len : Int) < 1
  · have d1 : decide ((len : Int) < 1) = true := by simpa using h1
    go_enter Ybaf.func10, Ybaf.ntmps10
    go_wp2
    go_ret
    exact ⟨rfl, rfl⟩
  · have d1 : decide ((len : Int) < 1) = false := by simpa using h1
    have d2 : decide (max < (len : Int)) = true := by simp; omega
    go_enter Ybaf.func10, Ybaf.ntmps10
    go_wp2
    go_ret
    exact ⟨rfl, rfl⟩

set_option maxHeartbeats 400000 in
theorem want_fine {w : World} {a : Option Addr} {len cap : Nat} {z : List Int} {max : Int} (hl : len ≤ 1024) (h1 : 1 ≤ (len : Int)) (h2 : (len : Int) ≤ max) (hz : Bytes w a len z) (hf : Fine len z) :
    Calls Ybaf.prog 10 #[.int .i64 max, .slice a len cap] w fun e w' => e = .returned (.bool true) ∧ w' = w := by
  have d1 : decide ((len : Int) < 1) = false := by simp; omega
  have d2 : decide (max < (len : Int)) = false := by simp; omega
  go_enter Ybaf.func10, Ybaf.ntmps10
  go_wp2
  go_loop [5] (fun i => ∃ k : Nat, k ≤ len ∧ i = .int .i64 k) (fun i => len - (intOf i).toNat)
  case atStart => exact ⟨0, Nat.zero_le _, rfl⟩
  case round =>
    obtain ⟨k, hk, rfl⟩ := hrel
    by_cases hlt : k < len
    · obtain ⟨b, off, rfl, hb, hc, h0, h1⟩ := hz k hlt
      have h3 := hf k hlt
      generalize z.getD k 0 = v at *
      have h4 : ¬ 128 ≤ v := by omega
      go_wp2
      go_round
      case rel => exact ⟨k + 1, by omega, by go_num⟩
      case measure => simp [intOf]; omega
    · go_wp2
      go_ret
      exact ⟨rfl, rfl⟩

set_option maxHeartbeats 400000 in
theorem want_bad {w : World} {a : Option Addr} {len cap : Nat} {z : List Int} {max : Int} (hl : len ≤ 1024) (h1 : 1 ≤ (len : Int)) (h2 : (len : Int) ≤ max) (hz : Bytes w a len z) (hf : ¬ Fine len z) :
    Calls Ybaf.prog 10 #[.int .i64 max, .slice a len cap] w fun e w' => e = .returned (.bool false) ∧ w' = w := by
  have d1 : decide ((len : Int) < 1) = false := by simp; omega
  have d2 : decide (max < (len : Int)) = false := by simp; omega
  go_enter Ybaf.func10, Ybaf.ntmps10
  go_wp2
  go_loop [5] (fun i => ∃ k : Nat, k ≤ len ∧ i = .int .i64 k ∧ Fine k z) (fun i => len - (intOf i).toNat)
  case atStart => exact ⟨0, Nat.zero_le _, rfl, fun i hi => by omega⟩
  case round =>
    obtain ⟨k, hk, rfl, hfk⟩ := hrel
    by_cases hlt : k < len
    · obtain ⟨b, off, rfl, hb, hc, h0, h1⟩ := hz k hlt
      by_cases h3 : z.getD k 0 ≤ 127
      · have HF : Hid (Fine (k + 1) z) := fun i hi => by
          rcases Nat.lt_or_ge i k with h | h
          · exact hfk i h
          · rw [show i = k by omega]; exact h3
        generalize z.getD k 0 = v at *
        have h4 : ¬ 128 ≤ v := by omega
        go_wp2
        go_round
        case rel => exact ⟨k + 1, by omega, by go_num, HF.out⟩
        case measure => simp [intOf]; omega
      · generalize z.getD k 0 = v at *
        have h4 : 128 ≤ v := by omega
        clear h3
        go_wp2
        go_ret
        exact ⟨rfl, rfl⟩
    · obtain rfl : k = len := by omega
      exact absurd hfk hf
end Go.Proofs.YbulktagFmt
