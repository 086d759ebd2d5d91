/-
  No cell of these rows narrows 'for every input' (looked for: loops, veiled, ifaces, maps, wideKeys, modest, calm, conditions, laid).
  DERIVED. THE GIVEN ROWS OF THIS SEAT. 2 by the template 'for every input the law returns true; each argument reads behind the call as it read before'; 0 by the template 'total and deterministic' (their statements: YbulkdwhmTotals.lean).
  GIVEN WITH THE SEED: the statements are not yours to turn. If you find one false, say at which input.
  Laid BY PROGRAM, IN A SANDBOX (cutbox-rows.mjs): the forced cells as the released guide's own fill.sh prints them over the translation a1ce19bcc146e83c… (all of the seat's roots in one cut). By AI agents, Wed Nov 11 2026. No macro, syntax, notation, axiom, sorry.
-/
import Derived.Test.YbulkdwhmChecked
import GoSem.Claim
import GoSem.ClaimJoined
import GoSem.ClaimMapViews
import Derived.JoinedTies
import Derived.KernelRfl
namespace Go.Proofs.Ybulkdwhm
/- THE CELL 'sum', in the pinned program and in every row, IS THE sha256 OF THE DUMP (.gsa) THAT YbulkdwhmProg.lean LOADS. Nothing in Lean hashes anything: it is a label: what it is worth is what the hold of that sum in a sandbox is worth. -/
noncomputable def Yba.pinned : Pinned := { name := "ybulkdwhm", sum := "a1ce19bcc146e83cd95bf7a6a6cb8e26bdd38b551aceefa6c546aec3d988ada4", checked := Yba.checked }
namespace Rows
def none {H : Type} : Left H := { results := [], args := [] }

/-- 'sealwright.LawS6148AWhole': WHATEVER THE INPUT: true; the input reads as it did. -/
def lawS6148AWholeSpec : ChangeSpec := { name := "lawS6148AWhole", fn := fun _ => fun
  | [d1, d2, d3, d4, d5, d6, d7, d8] => { results := [.lit (.bool true)], args := [d1, d2, d3, d4, d5, d6, d7, d8] }
  | _ => none }
def lawS6148AWholeRow : OpenClaim := { program := "ybulkdwhm", sum := "a1ce19bcc146e83cd95bf7a6a6cb8e26bdd38b551aceefa6c546aec3d988ada4", func := "example.com/sealwright/sealwright.LawS6148AWhole", spec := "lawS6148AWhole", inPlace := ["(*internal/sync.Mutex).Lock", "internal/race.Disable", "sync/atomic.CompareAndSwapInt32", "internal/race.Enable", "internal/race.Acquire", "(*internal/sync.Mutex).lockSlow", "internal/sync.runtime_canSpin", "internal/sync.runtime_doSpin", "internal/sync.throw", "internal/sync.runtime_nanotime", "internal/sync.runtime_SemacquireMutex", "sync/atomic.AddInt32", "(*internal/sync.Mutex).Unlock", "internal/race.ReleaseMerge", "(*internal/sync.Mutex).unlockSlow", "internal/sync.fatal", "internal/sync.runtime_Semrelease", "(*internal/sync.Mutex).TryLock"], plainKeys := false, apart := false }
def LawS6148AWholeSaid : Prop := lawS6148AWholeRow.holds Yba.pinned (OpenSpec.ofChange lawS6148AWholeSpec)

/-- ITS FALSE NEIGHBOUR: 'it returns false'. Refute it at one input. -/
def lawS6148AWholeWrong : ChangeSpec := { name := "lawS6148AWhole", fn := fun _ => fun
  | [d1, d2, d3, d4, d5, d6, d7, d8] => { results := [.lit (.bool false)], args := [d1, d2, d3, d4, d5, d6, d7, d8] }
  | _ => none }
def LawS6148AWholeWrongFalsely : Prop := lawS6148AWholeRow.holds Yba.pinned (OpenSpec.ofChange lawS6148AWholeWrong)

/-- 'sealwright.LawS6148CWhole': WHATEVER THE INPUT: true; the input reads as it did. -/
def lawS6148CWholeSpec : ChangeSpec := { name := "lawS6148CWhole", fn := fun _ => fun
  | [d1, d2, d3, d4, d5, d6, d7, d8, d9] => { results := [.lit (.bool true)], args := [d1, d2, d3, d4, d5, d6, d7, d8, d9] }
  | _ => none }
def lawS6148CWholeRow : OpenClaim := { program := "ybulkdwhm", sum := "a1ce19bcc146e83cd95bf7a6a6cb8e26bdd38b551aceefa6c546aec3d988ada4", func := "example.com/sealwright/sealwright.LawS6148CWhole", spec := "lawS6148CWhole", inPlace := ["(*internal/sync.Mutex).Lock", "internal/race.Disable", "sync/atomic.CompareAndSwapInt32", "internal/race.Enable", "internal/race.Acquire", "(*internal/sync.Mutex).lockSlow", "internal/sync.runtime_canSpin", "internal/sync.runtime_doSpin", "internal/sync.throw", "internal/sync.runtime_nanotime", "internal/sync.runtime_SemacquireMutex", "sync/atomic.AddInt32", "(*internal/sync.Mutex).Unlock", "internal/race.ReleaseMerge", "(*internal/sync.Mutex).unlockSlow", "internal/sync.fatal", "internal/sync.runtime_Semrelease", "(*internal/sync.Mutex).TryLock"], plainKeys := false, apart := false }
def LawS6148CWholeSaid : Prop := lawS6148CWholeRow.holds Yba.pinned (OpenSpec.ofChange lawS6148CWholeSpec)

/-- ITS FALSE NEIGHBOUR: 'it returns false'. Refute it at one input. -/
def lawS6148CWholeWrong : ChangeSpec := { name := "lawS6148CWhole", fn := fun _ => fun
  | [d1, d2, d3, d4, d5, d6, d7, d8, d9] => { results := [.lit (.bool false)], args := [d1, d2, d3, d4, d5, d6, d7, d8, d9] }
  | _ => none }
def LawS6148CWholeWrongFalsely : Prop := lawS6148CWholeRow.holds Yba.pinned (OpenSpec.ofChange lawS6148CWholeWrong)

end Rows
end Go.Proofs.Ybulkdwhm
