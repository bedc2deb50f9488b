/-
  THE WALKS over clip.ascii's check and the two laws: FOR EVERY F (whatever text fmt gives).
-/
import Derived.Test.YbulktagFmtWalk1
namespace Go.Proofs.YbulktagFmt
open Go.RowKit Go.Extern.Stop Go.Stop Go.Extern
attribute [local go_sem] call18 stopGuard fmt0 fmt0r fmt1 fmt1r op3_100 ptr48 elem48 isError48

theorem below2 (w : World) (o1 o2 : Obj) : Below w.heap.size w ((w.alloc o1).alloc o2).drew := (((Below.refl _ _).alloc (Nat.le_refl _) _).alloc (by simp) _).drew

/-- The slice as an operand of fmt's: nil, or a row of bytes. -/
def Reads (w : World) (a : Option Addr) (len cap : Nat) : Prop :=
  ∀ w', Below w.heap.size w w' → ∃ vl : List UInt8, (FmtStop.operand "fmt.errorf" true 113 false (.iface 26 (.slice a len cap))).run Ybaf.prog w' = .ok (shape26, vl) w'

set_option maxHeartbeats 800000 in
/-- The check, of a slice too short or too long: an error. -/
theorem check_long {w : World} {a : Option Addr} {len cap : Nat} {max : Int} (pb : Nat) (hl : len ≤ 1024) (h : (len : Int) < 1 ∨ max < (len : Int)) (hr : Reads w a len cap)
    (hp : w.cell? ⟨pb, 0, none⟩ = some (.int .i64 max)) :
    Calls Ybaf.prog 14 #[.slice a len cap, .pointer (some ⟨pb, 0, none⟩)] w fun e w' => ∃ x, e = .returned (.iface 48 x) ∧ Below w.heap.size w w' := by
  obtain ⟨vl, hop⟩ := hr (w.alloc (.cells #[.iface 26 (.slice a len cap), .iface 3 (.int .i64 len), .iface 3 (.int .i64 max)] 20)) ((Below.refl _ _).alloc (Nat.le_refl _) _)
  by_cases h1 : (len : Int) < 1
  · have d1 : decide ((len : Int) < 1) = true := by simpa using h1
    clear h hr
    go_enter Ybaf.func14, Ybaf.ntmps14
    go_wp2
    go_ret
    first | exact ⟨_, rfl, below2 _ _ _⟩ | exact ⟨⟨_, rfl⟩, below2 _ _ _⟩
  · have d1 : decide ((len : Int) < 1) = false := by simpa using h1
    have d2 : decide (max < (len : Int)) = true := by simp; omega
    clear h hr
    go_enter Ybaf.func14, Ybaf.ntmps14
    go_wp2
    go_ret
    first | exact ⟨_, rfl, below2 _ _ _⟩ | exact ⟨⟨_, rfl⟩, below2 _ _ _⟩

set_option maxHeartbeats 800000 in
/-- The check, of a slice of a length that serves, with a byte beyond 127: an error. -/
theorem check_bad {w : World} {a : Option Addr} {len cap : Nat} {z : List Int} {max : Int} (pb : Nat) (hl : len ≤ 1024) (h1 : 1 ≤ (len : Int)) (h2 : (len : Int) ≤ max) (hr : Reads w a len cap) (hz : Bytes w a len z) (hf : ¬ Fine len z)
    (hp : w.cell? ⟨pb, 0, none⟩ = some (.int .i64 max)) :
    Calls Ybaf.prog 14 #[.slice a len cap, .pointer (some ⟨pb, 0, none⟩)] w fun e w' => ∃ x, e = .returned (.iface 48 x) ∧ Below w.heap.size w w' := by
  obtain ⟨vl, hop⟩ := hr (w.alloc (.cells #[.iface 26 (.slice a len cap)] 20)) ((Below.refl _ _).alloc (Nat.le_refl _) _)
  have d1 : decide ((len : Int) < 1) = false := by simp; omega
  have d2 : decide (max < (len : Int)) = false := by simp; omega
  have H := contains_bad cap hl hz hf
  clear hr hz hf
  go_enter Ybaf.func14, Ybaf.ntmps14
  go_wp2_with (first | (go_at_call 15; refine H.mono ?_; rintro e w' ⟨rfl, rfl⟩) | go_in)
  go_ret
  first | exact ⟨_, rfl, below2 _ _ _⟩ | exact ⟨⟨_, rfl⟩, below2 _ _ _⟩

set_option maxHeartbeats 800000 in
/-- The check, of a slice that serves: nil. -/
theorem check_fine {w : World} {a : Option Addr} {len cap : Nat} {z : List Int} {max : Int} (pb : Nat) (hl : len ≤ 1024) (h1 : 1 ≤ (len : Int)) (h2 : (len : Int) ≤ max) (hz : Bytes w a len z) (hf : Fine len z)
    (hp : w.cell? ⟨pb, 0, none⟩ = some (.int .i64 max)) :
    Calls Ybaf.prog 14 #[.slice a len cap, .pointer (some ⟨pb, 0, none⟩)] w fun e w' => e = .returned .nilIface ∧ w' = w := by
  have d1 : decide ((len : Int) < 1) = false := by simp; omega
  have d2 : decide (max < (len : Int)) = false := by simp; omega
  have H := contains_fine cap hl hz hf
  clear hz hf
  go_enter Ybaf.func14, Ybaf.ntmps14
  go_wp2_with (first | (go_at_call 15; refine H.mono ?_; rintro e w' ⟨rfl, rfl⟩) | go_in)
  go_ret
  exact ⟨rfl, rfl⟩

/-- What the law needs of the check's answer and of the wanted one: the same Bool. -/
theorem both {w : World} {a : Option Addr} {len cap : Nat} {z : List Int} {max : Int} (hl : len ≤ 1024) (hr : Reads w a len cap) (hz : Bytes w a len z) :
    ∃ ok : Bool, (∀ w' pb, Below w.heap.size w w' → w'.cell? ⟨pb, 0, none⟩ = some (.int .i64 max) → Calls Ybaf.prog 14 #[.slice a len cap, .pointer (some ⟨pb, 0, none⟩)] w' fun e w2 => (∃ v, e = .returned v ∧ ((v = .nilIface ∧ ok = true) ∨ (∃ x, v = .iface 48 x) ∧ ok = false)) ∧ Below w'.heap.size w' w2) ∧
      ∀ w', Below w.heap.size w w' → Calls Ybaf.prog 10 #[.int .i64 max, .slice a len cap] w' fun e w2 => e = .returned (.bool ok) ∧ w2 = w' := by
  have hr' : ∀ w', Below w.heap.size w w' → Reads w' a len cap := fun w' hb w2 hb2 => hr w2 (hb.trans (hb2.mono hb.size))
  by_cases h : (len : Int) < 1 ∨ max < (len : Int)
  · refine ⟨false, fun w' pb hb hp => ?_, fun w' hb => want_long hl h⟩
    refine (check_long pb hl h (hr' w' hb) hp).mono ?_
    rintro e w2 ⟨x, rfl, b2⟩
    exact ⟨⟨_, rfl, Or.inr ⟨⟨x, rfl⟩, rfl⟩⟩, b2⟩
  · by_cases hf : Fine len z
    · refine ⟨true, fun w' pb hb hp => ?_, fun w' hb => want_fine hl (by omega) (by omega) (hz.later hb) hf⟩
      refine (check_fine pb hl (by omega) (by omega) (hz.later hb) hf hp).mono ?_
      rintro e w2 ⟨rfl, rfl⟩
      exact ⟨⟨_, rfl, Or.inl ⟨rfl, rfl⟩⟩, Below.refl _ _⟩
    · refine ⟨false, fun w' pb hb hp => ?_, fun w' hb => want_bad hl (by omega) (by omega) (hz.later hb) hf⟩
      refine (check_bad pb hl (by omega) (by omega) (hr' w' hb) (hz.later hb) hf hp).mono ?_
      rintro e w2 ⟨x, rfl, b2⟩
      exact ⟨⟨_, rfl, Or.inr ⟨⟨x, rfl⟩, rfl⟩⟩, b2⟩

set_option maxHeartbeats 800000 in
theorem accepts_long (max : Int) (a : Option Addr) (len cap : Nat) (w : World) (hm : len ≤ maxLen) (h : 1024 < len) :
    Calls Ybaf.prog 5 #[.int .i64 max, .slice a len cap] w fun e w' => e = .returned (.bool true) ∧ Below w.heap.size w w' := by
  unfold maxLen at hm
  go_enter Ybaf.func5, Ybaf.ntmps5
  go_wp2
  go_ret
  exact ⟨rfl, Below.refl _ _⟩

set_option maxHeartbeats 800000 in
theorem accepts_walk (max : Int) (a : Option Addr) (len cap : Nat) (z : List Int) (w : World) (hl : len ≤ 1024) (hr : Reads w a len cap) (hz : Bytes w a len z) :
    Calls Ybaf.prog 5 #[.int .i64 max, .slice a len cap] w fun e w' => e = .returned (.bool true) ∧ Below w.heap.size w w' := by
  have hmf : ∀ (fn : Fn) (first cap : Array Value) (w : World), (Instr.makeFunc fn first cap).run Ybaf.prog w = .ok (.func fn first cap) w := fun _ _ _ _ => rfl
  obtain ⟨ok, hC, hW⟩ := both (max := max) hl hr hz
  have b1 : Below w.heap.size w (w.alloc (.cells #[.int .i64 max] 3)) := (Below.refl _ _).alloc (Nat.le_refl _) _
  have H1 := hC (w.alloc (.cells #[.int .i64 max] 3)) w.heap.size b1 (by simp)
  have HW : Hid (∀ w', Below w.heap.size w w' → Calls Ybaf.prog 10 #[.int .i64 max, .slice a len cap] w' fun e w2 => e = .returned (.bool ok) ∧ w2 = w') := hW
  clear hC hW hr hz
  go_enter Ybaf.func5, Ybaf.ntmps5
  go_wp2_with (first | (go_at_call 14; refine H1.mono ?_; rintro e w2 ⟨⟨v, rfl, hv⟩, b2⟩) | go_in)
  have b3 : Below w.heap.size w w2 := b1.trans (b2.mono b1.size)
  have hW2 : ∀ n, Calls Ybaf.prog 10 #[.int .i64 max, .slice a len cap] (w2.drewN n) fun e w3 => e = .returned (.bool ok) ∧ w3 = w2.drewN n := fun n => HW.out _ (below_drewN b3 n)
  clear HW H1 b1 b2
  rcases hv with ⟨rfl, rfl⟩ | ⟨⟨x, rfl⟩, rfl⟩
  all_goals
    go_quiet ((go_at_call 10; exact Calls.quiet_of_same (hW2 _)))
    go_wp2
    go_ret
    exact ⟨rfl, below_drewN b3 _⟩

set_option maxHeartbeats 800000 in
theorem boundary_long (d : Int) (a : Option Addr) (len cap : Nat) (w : World) (hm : len ≤ maxLen) (h : 1024 < len) :
    Calls Ybaf.prog 6 #[.int .u8 d, .slice a len cap] w fun e w' => e = .returned (.bool true) ∧ Below w.heap.size w w' := by
  unfold maxLen at hm
  go_enter Ybaf.func6, Ybaf.ntmps6
  go_wp2
  go_ret
  exact ⟨rfl, Below.refl _ _⟩

set_option maxHeartbeats 800000 in
theorem boundary_walk (d : Int) (a : Option Addr) (len cap : Nat) (z : List Int) (w : World) (hd0 : 0 ≤ d) (hd1 : d ≤ 255) (hl : len ≤ 1024) (hr : Reads w a len cap) (hz : Bytes w a len z) :
    Calls Ybaf.prog 6 #[.int .u8 d, .slice a len cap] w fun e w' => e = .returned (.bool true) ∧ Below w.heap.size w w' := by
  have hmf : ∀ (fn : Fn) (first cap : Array Value) (w : World), (Instr.makeFunc fn first cap).run Ybaf.prog w = .ok (.func fn first cap) w := fun _ _ _ _ => rfl
  obtain ⟨max, hmax⟩ : ∃ m : Int, (len : Int) + d % 3 - 1 = m := ⟨_, rfl⟩
  obtain ⟨ok, hC, hW⟩ := both (max := max) hl hr hz
  have b1 : Below w.heap.size w (w.alloc (.cells #[.int .i64 max] 3)) := (Below.refl _ _).alloc (Nat.le_refl _) _
  have H1 := hC (w.alloc (.cells #[.int .i64 max] 3)) w.heap.size b1 (by simp)
  have HW : Hid (∀ w', Below w.heap.size w w' → Calls Ybaf.prog 10 #[.int .i64 max, .slice a len cap] w' fun e w2 => e = .returned (.bool ok) ∧ w2 = w') := hW
  clear hC hW hr hz
  go_enter Ybaf.func6, Ybaf.ntmps6
  go_wp2_with (first | (go_at_call 14; refine H1.mono ?_; rintro e w2 ⟨⟨v, rfl, hv⟩, b2⟩) | go_in)
  have b3 : Below w.heap.size w w2 := b1.trans (b2.mono b1.size)
  have hW2 : ∀ n, Calls Ybaf.prog 10 #[.int .i64 max, .slice a len cap] (w2.drewN n) fun e w3 => e = .returned (.bool ok) ∧ w3 = w2.drewN n := fun n => HW.out _ (below_drewN b3 n)
  clear HW H1 b1 b2
  rcases hv with ⟨rfl, rfl⟩ | ⟨⟨x, rfl⟩, rfl⟩
  all_goals
    go_quiet ((go_at_call 10; exact Calls.quiet_of_same (hW2 _)))
    go_wp2
    go_ret
    exact ⟨rfl, below_drewN b3 _⟩
end Go.Proofs.YbulktagFmt
