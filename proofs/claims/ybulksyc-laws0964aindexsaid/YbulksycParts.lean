/-
  sync.Once's parts: the numbers under which this program holds sync.Mutex's text (the library's contracts of the lock then serve: Derived/Conc/MuLone.lean), and the store that 'doSlow' defers (after the guide's text on Lazy, turned to this program).
-/
import Derived.Test.YbulksycRows
import Derived.Tactics
import Derived.Tactics2
import Derived.Defers
import Derived.Laws.Pointers
import Derived.Laws.LoneSync
import Derived.RegionTactic
import Derived.RegionCalls
import Derived.ChangeAlike
import Derived.Conc.MuLone
namespace Go.Proofs.Ybulksyc

/-- sync.Mutex in this program. -/
abbrev muLink : Go.Conc.Locks.MuLink := { lock := 15, unlock := 16, ilock := 18, iunlock := 19, lockSlow := 26, unlockSlow := 29, disable := 22, enable := 24, acquire := 25, relMerge := 27, cas32 := 23, add32 := 28, tMutex := 40, tIMutex := 38, tPMutex := 59, tPIMutex := 62, tPI32 := 64, tUP := 66, tNoCopy := 32, tU32 := 34 }
theorem muLib : Go.Conc.Locks.MuLib Yba.prog muLink :=
  ⟨Yba.func15, Yba.func16, Yba.func18, Yba.func19, Yba.func22, Yba.func24, Yba.func25, Yba.func27, Yba.func23, Yba.func28, Yba.underlying38, Yba.runUnderlying38, Yba.sizeOf38, Yba.isAgg38, Yba.zeroValue38, Yba.underlying40, Yba.runUnderlying40, Yba.sizeOf40, Yba.isAgg40, Yba.zeroValue40, Yba.underlying59, Yba.runUnderlying59, Yba.sizeOf59, Yba.isAgg59, Yba.zeroValue59, Yba.underlying62, Yba.runUnderlying62, Yba.sizeOf62, Yba.isAgg62, Yba.zeroValue62, Yba.underlying64, Yba.runUnderlying64, Yba.sizeOf64, Yba.isAgg64, Yba.zeroValue64, Yba.underlying66, Yba.runUnderlying66, Yba.sizeOf66, Yba.isAgg66, Yba.zeroValue66, Yba.underlying32, Yba.runUnderlying32, Yba.sizeOf32, Yba.isAgg32, Yba.zeroValue32, Yba.underlying21, Yba.runUnderlying21, Yba.sizeOf21, Yba.isAgg21, Yba.zeroValue21, (by kernel_rfl)⟩

/-- '(*sync/atomic.Bool).Store(true)', ENTERED AS A DEFERRED CALL: the cell holds 1. -/
theorem store_deferred (a : Addr) (x : Value) (u : FrameMode) (w : World) (hc : w.cell? a = some x) (hz : w.frozen? a = false) :
    CallsD Yba.prog 17 #[.pointer (some a), .bool true] u w fun e u' w' => u' = u ∧ (e = .returned (.tuple #[]) ∧ w' = w.drew.setCell a (.int .u32 1)) := by
  have hc' : w.drew.cell? a = some x := by go_simp
  have hz' : w.drew.frozen? a = false := by go_simp
  have hst := run_call_store (P := Yba.prog) Yba.func20 (by kernel_rfl) (by kernel_rfl) (by kernel_rfl) (by kernel_rfl) (k := .u32) (y := 1) hc' hz'
  go_enter_d Yba.func17, Yba.ntmps17
  go_wp2
  go_region_calls
  all_goals (go_end0; exact ⟨rfl, rfl⟩)

/-- '(*sync.Mutex).Unlock', ENTERED AS A DEFERRED CALL, the lock held and nobody waiting (state 1): state 0. -/
theorem unlock_deferred (a : Addr) (u : FrameMode) (w : World) (hc : w.cell? a = some (.int .i32 1)) (hz : w.frozen? a = false) :
    CallsD Yba.prog 16 #[.pointer (some a)] u w fun e u' w' => u' = u ∧ (e = .returned (.tuple #[]) ∧ w' = w.setCell a (.int .i32 0)) :=
  Go.MuLone.unlock_deferred muLib a u w hc hz

/-- '(*sync.Mutex).Lock', the lock free (state 0): state 1. -/
theorem lock_free (a : Addr) (w : World) (hc : w.cell? a = some (.int .i32 0)) (hz : w.frozen? a = false) :
    Calls Yba.prog 15 #[.pointer (some a)] w fun e w' => e = .returned (.tuple #[]) ∧ w' = w.setCell a (.int .i32 1) :=
  Go.MuLone.lock_free muLib a w hc hz
end Go.Proofs.Ybulksyc
