/-
  No cell of these rows narrows 'for every input' (looked for: loops, veiled, ifaces, maps, wideKeys, modest, calm, conditions, laid).
  DERIVED. THE GIVEN ROWS OF THIS SEAT. 2 by the template 'for every input the law returns true; each argument reads behind the call as it read before'; 0 by the template 'total and deterministic' (their statements: YbulksycTotals.lean).
  GIVEN WITH THE SEED: the statements are not yours to turn. If you find one false, say at which input.
  Laid BY PROGRAM, IN A SANDBOX (cutbox-rows.mjs): the forced cells as the released guide's own fill.sh prints them over the translation 584f4c7e2697d64f… (all of the seat's roots in one cut). By AI agents, Wed Nov 11 2026. No macro, syntax, notation, axiom, sorry.
-/
import Derived.Test.YbulksycChecked
import GoSem.Claim
import GoSem.ClaimJoined
import GoSem.ClaimMapViews
import Derived.JoinedTies
import Derived.KernelRfl
namespace Go.Proofs.Ybulksyc
/- THE CELL 'sum', in the pinned program and in every row, IS THE sha256 OF THE DUMP (.gsa) THAT YbulksycProg.lean LOADS. Nothing in Lean hashes anything: it is a label: what it is worth is what the hold of that sum in a sandbox is worth. -/
noncomputable def Yba.pinned : Pinned := { name := "ybulksyc", sum := "584f4c7e2697d64f8fddca9ff814ac7c6ca55ef43470f5daee394316d1031a1e", checked := Yba.checked }
namespace Rows
def none {H : Type} : Left H := { results := [], args := [] }

/-- 'model.LawS0964AScript': WHATEVER THE INPUT: true; the input reads as it did. -/
def lawS0964AScriptSpec : ChangeSpec := { name := "lawS0964AScript", fn := fun _ => fun
  | [d1, d2] => { results := [.lit (.bool true)], args := [d1, d2] }
  | _ => none }
def lawS0964AScriptRow : OpenClaim := { program := "ybulksyc", sum := "584f4c7e2697d64f8fddca9ff814ac7c6ca55ef43470f5daee394316d1031a1e", func := "example.com/urukagina/urukagina/pkg/model.LawS0964AScript", spec := "lawS0964AScript", inPlace := ["sync/atomic.LoadUint32", "(*internal/sync.Mutex).Lock", "internal/race.Disable", "sync/atomic.CompareAndSwapInt32", "internal/race.Enable", "internal/race.Acquire", "(*internal/sync.Mutex).lockSlow", "internal/sync.runtime_canSpin", "internal/sync.runtime_doSpin", "internal/sync.throw", "internal/sync.runtime_nanotime", "internal/sync.runtime_SemacquireMutex", "sync/atomic.AddInt32", "(*internal/sync.Mutex).Unlock", "internal/race.ReleaseMerge", "(*internal/sync.Mutex).unlockSlow", "internal/sync.fatal", "internal/sync.runtime_Semrelease", "sync/atomic.StoreUint32"], unfollowed := true, recurses := true, apart := false }
def LawS0964AScriptSaid : Prop := lawS0964AScriptRow.holds Yba.pinned (OpenSpec.ofChange lawS0964AScriptSpec)

/-- ITS FALSE NEIGHBOUR: 'it returns false'. Refute it at one input. -/
def lawS0964AScriptWrong : ChangeSpec := { name := "lawS0964AScript", fn := fun _ => fun
  | [d1, d2] => { results := [.lit (.bool false)], args := [d1, d2] }
  | _ => none }
def LawS0964AScriptWrongFalsely : Prop := lawS0964AScriptRow.holds Yba.pinned (OpenSpec.ofChange lawS0964AScriptWrong)

/-- 'model.LawS0964AIndex': WHATEVER THE INPUT: true; the input reads as it did. -/
def lawS0964AIndexSpec : ChangeSpec := { name := "lawS0964AIndex", fn := fun _ => fun
  | [d1, d2] => { results := [.lit (.bool true)], args := [d1, d2] }
  | _ => none }
def lawS0964AIndexRow : OpenClaim := { program := "ybulksyc", sum := "584f4c7e2697d64f8fddca9ff814ac7c6ca55ef43470f5daee394316d1031a1e", func := "example.com/urukagina/urukagina/pkg/model.LawS0964AIndex", spec := "lawS0964AIndex", inPlace := ["sync/atomic.LoadUint32", "(*internal/sync.Mutex).Lock", "internal/race.Disable", "sync/atomic.CompareAndSwapInt32", "internal/race.Enable", "internal/race.Acquire", "(*internal/sync.Mutex).lockSlow", "internal/sync.runtime_canSpin", "internal/sync.runtime_doSpin", "internal/sync.throw", "internal/sync.runtime_nanotime", "internal/sync.runtime_SemacquireMutex", "sync/atomic.AddInt32", "(*internal/sync.Mutex).Unlock", "internal/race.ReleaseMerge", "(*internal/sync.Mutex).unlockSlow", "internal/sync.fatal", "internal/sync.runtime_Semrelease", "sync/atomic.StoreUint32"], unfollowed := true, recurses := true, apart := false }
def LawS0964AIndexSaid : Prop := lawS0964AIndexRow.holds Yba.pinned (OpenSpec.ofChange lawS0964AIndexSpec)

/-- ITS FALSE NEIGHBOUR: 'it returns false'. Refute it at one input. -/
def lawS0964AIndexWrong : ChangeSpec := { name := "lawS0964AIndex", fn := fun _ => fun
  | [d1, d2] => { results := [.lit (.bool false)], args := [d1, d2] }
  | _ => none }
def LawS0964AIndexWrongFalsely : Prop := lawS0964AIndexRow.holds Yba.pinned (OpenSpec.ofChange lawS0964AIndexWrong)

end Rows
end Go.Proofs.Ybulksyc
