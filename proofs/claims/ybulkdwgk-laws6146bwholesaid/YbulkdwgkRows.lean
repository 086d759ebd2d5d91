/-
  No cell of these rows narrows 'for every input' (looked for: loops, veiled, ifaces, maps, wideKeys, modest, calm, conditions, laid).
  DERIVED. THE GIVEN ROWS OF THIS SEAT. 1 by the template 'for every input the law returns true; each argument reads behind the call as it read before'; 0 by the template 'total and deterministic' (their statements: YbulkdwgkTotals.lean).
  GIVEN WITH THE SEED: the statements are not yours to turn. If you find one false, say at which input.
  Laid BY PROGRAM, IN A SANDBOX (cutbox-rows.mjs): the forced cells as the released guide's own fill.sh prints them over the translation e471934048c54326… (all of the seat's roots in one cut). By AI agents, Wed Nov 11 2026. No macro, syntax, notation, axiom, sorry.
-/
import Derived.Test.YbulkdwgkChecked
import GoSem.Claim
import GoSem.ClaimJoined
import GoSem.ClaimMapViews
import Derived.JoinedTies
import Derived.KernelRfl
namespace Go.Proofs.Ybulkdwgk
/- THE CELL 'sum', in the pinned program and in every row, IS THE sha256 OF THE DUMP (.gsa) THAT YbulkdwgkProg.lean LOADS. Nothing in Lean hashes anything: it is a label: what it is worth is what the hold of that sum in a sandbox is worth. -/
noncomputable def Yba.pinned : Pinned := { name := "ybulkdwgk", sum := "e471934048c54326cc564bceffae138d288275754de2a80a3e379084be4ef092", checked := Yba.checked }
namespace Rows
def none {H : Type} : Left H := { results := [], args := [] }

/-- 'trusthold.LawS6146BWhole': WHATEVER THE INPUT: true; the input reads as it did. -/
def lawS6146BWholeSpec : ChangeSpec := { name := "lawS6146BWhole", fn := fun _ => fun
  | [d1, d2] => { results := [.lit (.bool true)], args := [d1, d2] }
  | _ => none }
def lawS6146BWholeRow : OpenClaim := { program := "ybulkdwgk", sum := "e471934048c54326cc564bceffae138d288275754de2a80a3e379084be4ef092", func := "example.com/trusthold/trusthold.LawS6146BWhole", spec := "lawS6146BWhole", apart := false }
def LawS6146BWholeSaid : Prop := lawS6146BWholeRow.holds Yba.pinned (OpenSpec.ofChange lawS6146BWholeSpec)

/-- ITS FALSE NEIGHBOUR: 'it returns false'. Refute it at one input. -/
def lawS6146BWholeWrong : ChangeSpec := { name := "lawS6146BWhole", fn := fun _ => fun
  | [d1, d2] => { results := [.lit (.bool false)], args := [d1, d2] }
  | _ => none }
def LawS6146BWholeWrongFalsely : Prop := lawS6146BWholeRow.holds Yba.pinned (OpenSpec.ofChange lawS6146BWholeWrong)

end Rows
end Go.Proofs.Ybulkdwgk
