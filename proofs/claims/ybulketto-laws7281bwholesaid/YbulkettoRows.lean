/-
  No cell of these rows narrows 'for every input' (looked for: loops, veiled, ifaces, maps, wideKeys, modest, calm, conditions, laid).
  DERIVED. THE GIVEN ROWS OF THIS SEAT. 3 by the template 'for every input the law returns true; each argument reads behind the call as it read before'; 0 by the template 'total and deterministic' (their statements: YbulkettoTotals.lean).
  GIVEN WITH THE SEED: the statements are not yours to turn. If you find one false, say at which input.
  Laid BY PROGRAM, IN A SANDBOX (cutbox-rows.mjs): the forced cells as the released guide's own fill.sh prints them over the translation 5291183f20595e08… (all of the seat's roots in one cut). By AI agents, Wed Nov 11 2026. No macro, syntax, notation, axiom, sorry.
-/
import Derived.Test.YbulkettoChecked
import GoSem.Claim
import GoSem.ClaimJoined
import GoSem.ClaimMapViews
import Derived.JoinedTies
import Derived.KernelRfl
namespace Go.Proofs.Ybulketto
/- THE CELL 'sum', in the pinned program and in every row, IS THE sha256 OF THE DUMP (.gsa) THAT YbulkettoProg.lean LOADS. Nothing in Lean hashes anything: it is a label: what it is worth is what the hold of that sum in a sandbox is worth. -/
noncomputable def Yba.pinned : Pinned := { name := "ybulketto", sum := "5291183f20595e086b1127cc31d1658ee7ff2508cc48f5a6f5ec6f3d7491645b", checked := Yba.checked }
namespace Rows
def none {H : Type} : Left H := { results := [], args := [] }

/-- 'sim.LawS7281AWhole': WHATEVER THE INPUT: true; the input reads as it did. -/
def lawS7281AWholeSpec : ChangeSpec := { name := "lawS7281AWhole", fn := fun _ => fun
  | [d1, d2, d3, d4, d5, d6, d7, d8] => { results := [.lit (.bool true)], args := [d1, d2, d3, d4, d5, d6, d7, d8] }
  | _ => none }
def lawS7281AWholeRow : OpenClaim := { program := "ybulketto", sum := "5291183f20595e086b1127cc31d1658ee7ff2508cc48f5a6f5ec6f3d7491645b", func := "example.com/swarmreel/swarmreel/internal/sim.LawS7281AWhole", spec := "lawS7281AWhole", inPlace := ["math.Float64frombits", "math.Float64bits"], apart := false }
def LawS7281AWholeSaid : Prop := lawS7281AWholeRow.holds Yba.pinned (OpenSpec.ofChange lawS7281AWholeSpec)

/-- ITS FALSE NEIGHBOUR: 'it returns false'. Refute it at one input. -/
def lawS7281AWholeWrong : ChangeSpec := { name := "lawS7281AWhole", fn := fun _ => fun
  | [d1, d2, d3, d4, d5, d6, d7, d8] => { results := [.lit (.bool false)], args := [d1, d2, d3, d4, d5, d6, d7, d8] }
  | _ => none }
def LawS7281AWholeWrongFalsely : Prop := lawS7281AWholeRow.holds Yba.pinned (OpenSpec.ofChange lawS7281AWholeWrong)

/-- 'origin.LawS7281BWhole': WHATEVER THE INPUT: true; the input reads as it did. -/
def lawS7281BWholeSpec : ChangeSpec := { name := "lawS7281BWhole", fn := fun _ => fun
  | [d1, d2, d3, d4, d5, d6] => { results := [.lit (.bool true)], args := [d1, d2, d3, d4, d5, d6] }
  | _ => none }
def lawS7281BWholeRow : OpenClaim := { program := "ybulketto", sum := "5291183f20595e086b1127cc31d1658ee7ff2508cc48f5a6f5ec6f3d7491645b", func := "example.com/swarmreel/swarmreel/internal/origin.LawS7281BWhole", spec := "lawS7281BWhole", inPlace := ["(*internal/sync.Mutex).Lock", "internal/race.Disable", "sync/atomic.CompareAndSwapInt32", "internal/race.Enable", "internal/race.Acquire", "(*internal/sync.Mutex).lockSlow", "internal/sync.runtime_canSpin", "internal/sync.runtime_doSpin", "internal/sync.throw", "internal/sync.runtime_nanotime", "internal/sync.runtime_SemacquireMutex", "sync/atomic.AddInt32", "(*internal/sync.Mutex).Unlock", "internal/race.ReleaseMerge", "(*internal/sync.Mutex).unlockSlow", "internal/sync.fatal", "internal/sync.runtime_Semrelease"], unfollowed := true, recurses := true, apart := false }
def LawS7281BWholeSaid : Prop := lawS7281BWholeRow.holds Yba.pinned (OpenSpec.ofChange lawS7281BWholeSpec)

/-- ITS FALSE NEIGHBOUR: 'it returns false'. Refute it at one input. -/
def lawS7281BWholeWrong : ChangeSpec := { name := "lawS7281BWhole", fn := fun _ => fun
  | [d1, d2, d3, d4, d5, d6] => { results := [.lit (.bool false)], args := [d1, d2, d3, d4, d5, d6] }
  | _ => none }
def LawS7281BWholeWrongFalsely : Prop := lawS7281BWholeRow.holds Yba.pinned (OpenSpec.ofChange lawS7281BWholeWrong)

/-- 'agent.LawS7281CWhole': WHATEVER THE INPUT: true; the input reads as it did. -/
def lawS7281CWholeSpec : ChangeSpec := { name := "lawS7281CWhole", fn := fun _ => fun
  | [d1, d2, d3, d4, d5, d6, d7, d8, d9] => { results := [.lit (.bool true)], args := [d1, d2, d3, d4, d5, d6, d7, d8, d9] }
  | _ => none }
def lawS7281CWholeRow : OpenClaim := { program := "ybulketto", sum := "5291183f20595e086b1127cc31d1658ee7ff2508cc48f5a6f5ec6f3d7491645b", func := "example.com/swarmreel/swarmreel/internal/agent.LawS7281CWhole", spec := "lawS7281CWhole", inPlace := ["(*internal/sync.Mutex).Lock", "internal/race.Disable", "sync/atomic.CompareAndSwapInt32", "internal/race.Enable", "internal/race.Acquire", "(*internal/sync.Mutex).lockSlow", "internal/sync.runtime_canSpin", "internal/sync.runtime_doSpin", "internal/sync.throw", "internal/sync.runtime_nanotime", "internal/sync.runtime_SemacquireMutex", "sync/atomic.AddInt32", "(*internal/sync.Mutex).Unlock", "internal/race.ReleaseMerge", "(*internal/sync.Mutex).unlockSlow", "internal/sync.fatal", "internal/sync.runtime_Semrelease", "(*internal/sync.Mutex).TryLock"], unfollowed := true, recurses := true, apart := false }
def LawS7281CWholeSaid : Prop := lawS7281CWholeRow.holds Yba.pinned (OpenSpec.ofChange lawS7281CWholeSpec)

/-- ITS FALSE NEIGHBOUR: 'it returns false'. Refute it at one input. -/
def lawS7281CWholeWrong : ChangeSpec := { name := "lawS7281CWhole", fn := fun _ => fun
  | [d1, d2, d3, d4, d5, d6, d7, d8, d9] => { results := [.lit (.bool false)], args := [d1, d2, d3, d4, d5, d6, d7, d8, d9] }
  | _ => none }
def LawS7281CWholeWrongFalsely : Prop := lawS7281CWholeRow.holds Yba.pinned (OpenSpec.ofChange lawS7281CWholeWrong)

end Rows
end Go.Proofs.Ybulketto
