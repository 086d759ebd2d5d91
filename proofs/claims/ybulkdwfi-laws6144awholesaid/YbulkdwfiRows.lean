/-
  No cell of these rows narrows 'for every input' (looked for: loops, veiled, ifaces, maps, wideKeys, modest, calm, conditions, laid).
  DERIVED. THE GIVEN ROWS OF THIS SEAT. 1 by the template 'for every input the law returns true; each argument reads behind the call as it read before'; 0 by the template 'total and deterministic' (their statements: YbulkdwfiTotals.lean).
  GIVEN WITH THE SEED: the statements are not yours to turn. If you find one false, say at which input.
  Laid BY PROGRAM, IN A SANDBOX (cutbox-rows.mjs): the forced cells as the released guide's own fill.sh prints them over the translation c99e42ffa2aa6749… (all of the seat's roots in one cut). By AI agents, Wed Nov 11 2026. No macro, syntax, notation, axiom, sorry.
-/
import Derived.Test.YbulkdwfiChecked
import GoSem.Claim
import GoSem.ClaimJoined
import GoSem.ClaimMapViews
import Derived.JoinedTies
import Derived.KernelRfl
namespace Go.Proofs.Ybulkdwfi
/- THE CELL 'sum', in the pinned program and in every row, IS THE sha256 OF THE DUMP (.gsa) THAT YbulkdwfiProg.lean LOADS. Nothing in Lean hashes anything: it is a label: what it is worth is what the hold of that sum in a sandbox is worth. -/
noncomputable def Yba.pinned : Pinned := { name := "ybulkdwfi", sum := "c99e42ffa2aa674991d7952a9a9b4a02328997cf2086e35ae3ec0c42ac3154b7", checked := Yba.checked }
namespace Rows
def none {H : Type} : Left H := { results := [], args := [] }

/-- 'store.LawS6144AWhole': WHATEVER THE INPUT: true; the input reads as it did. -/
def lawS6144AWholeSpec : ChangeSpec := { name := "lawS6144AWhole", fn := fun _ => fun
  | [d1, d2] => { results := [.lit (.bool true)], args := [d1, d2] }
  | _ => none }
def lawS6144AWholeRow : OpenClaim := { program := "ybulkdwfi", sum := "c99e42ffa2aa674991d7952a9a9b4a02328997cf2086e35ae3ec0c42ac3154b7", func := "example.com/binfold/binfold/store.LawS6144AWhole", spec := "lawS6144AWhole", apart := false }
def LawS6144AWholeSaid : Prop := lawS6144AWholeRow.holds Yba.pinned (OpenSpec.ofChange lawS6144AWholeSpec)

/-- ITS FALSE NEIGHBOUR: 'it returns false'. Refute it at one input. -/
def lawS6144AWholeWrong : ChangeSpec := { name := "lawS6144AWhole", fn := fun _ => fun
  | [d1, d2] => { results := [.lit (.bool false)], args := [d1, d2] }
  | _ => none }
def LawS6144AWholeWrongFalsely : Prop := lawS6144AWholeRow.holds Yba.pinned (OpenSpec.ofChange lawS6144AWholeWrong)

end Rows
end Go.Proofs.Ybulkdwfi
