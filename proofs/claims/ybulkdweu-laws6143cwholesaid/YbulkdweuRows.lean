/-
  No cell of these rows narrows 'for every input' (looked for: loops, veiled, ifaces, maps, wideKeys, modest, calm, conditions, laid).
  DERIVED. THE GIVEN ROWS OF THIS SEAT. 2 by the template 'for every input the law returns true; each argument reads behind the call as it read before'; 0 by the template 'total and deterministic' (their statements: YbulkdweuTotals.lean).
  GIVEN WITH THE SEED: the statements are not yours to turn. If you find one false, say at which input.
  Laid BY PROGRAM, IN A SANDBOX (cutbox-rows.mjs): the forced cells as the released guide's own fill.sh prints them over the translation f1b6fca7f207b9df… (all of the seat's roots in one cut). By AI agents, Wed Nov 11 2026. No macro, syntax, notation, axiom, sorry.
-/
import Derived.Test.YbulkdweuChecked
import GoSem.Claim
import GoSem.ClaimJoined
import GoSem.ClaimMapViews
import Derived.JoinedTies
import Derived.KernelRfl
namespace Go.Proofs.Ybulkdweu
/- THE CELL 'sum', in the pinned program and in every row, IS THE sha256 OF THE DUMP (.gsa) THAT YbulkdweuProg.lean LOADS. Nothing in Lean hashes anything: it is a label: what it is worth is what the hold of that sum in a sandbox is worth. -/
noncomputable def Yba.pinned : Pinned := { name := "ybulkdweu", sum := "f1b6fca7f207b9df930029886f5a0048e73495ea375dadbaefea968b5cb132e3", checked := Yba.checked }
namespace Rows
def none {H : Type} : Left H := { results := [], args := [] }

/-- 'diameter.LawS6143BWhole': WHATEVER THE INPUT: true; the input reads as it did. -/
def lawS6143BWholeSpec : ChangeSpec := { name := "lawS6143BWhole", fn := fun _ => fun
  | [d1, d2, d3, d4, d5, d6, d7, d8, d9] => { results := [.lit (.bool true)], args := [d1, d2, d3, d4, d5, d6, d7, d8, d9] }
  | _ => none }
def lawS6143BWholeRow : OpenClaim := { program := "ybulkdweu", sum := "f1b6fca7f207b9df930029886f5a0048e73495ea375dadbaefea968b5cb132e3", func := "example.com/realmway/realmway/diameter.LawS6143BWhole", spec := "lawS6143BWhole", unfollowed := true, recurses := true, plainKeys := false, apart := false }
def LawS6143BWholeSaid : Prop := lawS6143BWholeRow.holds Yba.pinned (OpenSpec.ofChange lawS6143BWholeSpec)

/-- ITS FALSE NEIGHBOUR: 'it returns false'. Refute it at one input. -/
def lawS6143BWholeWrong : ChangeSpec := { name := "lawS6143BWhole", fn := fun _ => fun
  | [d1, d2, d3, d4, d5, d6, d7, d8, d9] => { results := [.lit (.bool false)], args := [d1, d2, d3, d4, d5, d6, d7, d8, d9] }
  | _ => none }
def LawS6143BWholeWrongFalsely : Prop := lawS6143BWholeRow.holds Yba.pinned (OpenSpec.ofChange lawS6143BWholeWrong)

/-- 'node.LawS6143CWhole': WHATEVER THE INPUT: true; the input reads as it did. -/
def lawS6143CWholeSpec : ChangeSpec := { name := "lawS6143CWhole", fn := fun _ => fun
  | [d1, d2, d3, d4] => { results := [.lit (.bool true)], args := [d1, d2, d3, d4] }
  | _ => none }
def lawS6143CWholeRow : OpenClaim := { program := "ybulkdweu", sum := "f1b6fca7f207b9df930029886f5a0048e73495ea375dadbaefea968b5cb132e3", func := "example.com/realmway/realmway/node.LawS6143CWhole", spec := "lawS6143CWhole", inPlace := ["(*internal/sync.Mutex).Lock", "internal/race.Disable", "sync/atomic.CompareAndSwapInt32", "internal/race.Enable", "internal/race.Acquire", "(*internal/sync.Mutex).lockSlow", "internal/sync.runtime_canSpin", "internal/sync.runtime_doSpin", "internal/sync.throw", "internal/sync.runtime_nanotime", "internal/sync.runtime_SemacquireMutex", "sync/atomic.AddInt32", "(*internal/sync.Mutex).Unlock", "internal/race.ReleaseMerge", "(*internal/sync.Mutex).unlockSlow", "internal/sync.fatal", "internal/sync.runtime_Semrelease", "(*internal/sync.Mutex).TryLock"], plainKeys := false, apart := false }
def LawS6143CWholeSaid : Prop := lawS6143CWholeRow.holds Yba.pinned (OpenSpec.ofChange lawS6143CWholeSpec)

/-- ITS FALSE NEIGHBOUR: 'it returns false'. Refute it at one input. -/
def lawS6143CWholeWrong : ChangeSpec := { name := "lawS6143CWhole", fn := fun _ => fun
  | [d1, d2, d3, d4] => { results := [.lit (.bool false)], args := [d1, d2, d3, d4] }
  | _ => none }
def LawS6143CWholeWrongFalsely : Prop := lawS6143CWholeRow.holds Yba.pinned (OpenSpec.ofChange lawS6143CWholeWrong)

end Rows
end Go.Proofs.Ybulkdweu
