/-
  No cell of these rows narrows 'for every input' (looked for: loops, veiled, ifaces, maps, wideKeys, modest, calm, conditions, laid).
  DERIVED. THE GIVEN ROWS OF THIS SEAT. 1 by the template 'for every input the law returns true; each argument reads behind the call as it read before'; 0 by the template 'total and deterministic' (their statements: YbulkdjowTotals.lean).
  GIVEN WITH THE SEED: the statements are not yours to turn. If you find one false, say at which input.
  Laid BY PROGRAM, IN A SANDBOX (cutbox-rows.mjs): the forced cells as the released guide's own fill.sh prints them over the translation 2c8aff505db91e86… (all of the seat's roots in one cut). By AI agents, Wed Nov 11 2026. No macro, syntax, notation, axiom, sorry.
-/
import Derived.Test.YbulkdjowChecked
import GoSem.Claim
import GoSem.ClaimJoined
import GoSem.ClaimMapViews
import Derived.JoinedTies
import Derived.KernelRfl
namespace Go.Proofs.Ybulkdjow
/- THE CELL 'sum', in the pinned program and in every row, IS THE sha256 OF THE DUMP (.gsa) THAT YbulkdjowProg.lean LOADS. Nothing in Lean hashes anything: it is a label: what it is worth is what the hold of that sum in a sandbox is worth. -/
noncomputable def Yba.pinned : Pinned := { name := "ybulkdjow", sum := "2c8aff505db91e86ca5112ee5e0cdbabc969d1b027cf3a51dba48fea4a8b98d2", checked := Yba.checked }
namespace Rows
def none {H : Type} : Left H := { results := [], args := [] }

/-- 'nestbyte.LawS5534CWhole': WHATEVER THE INPUT: true; the input reads as it did. -/
def lawS5534CWholeSpec : ChangeSpec := { name := "lawS5534CWhole", fn := fun _ => fun
  | [d] => { results := [.lit (.bool true)], args := [d] }
  | _ => none }
def lawS5534CWholeRow : OpenClaim := { program := "ybulkdjow", sum := "2c8aff505db91e86ca5112ee5e0cdbabc969d1b027cf3a51dba48fea4a8b98d2", func := "example.com/nestbyte/nestbyte.LawS5534CWhole", spec := "lawS5534CWhole", apart := false }
def LawS5534CWholeSaid : Prop := lawS5534CWholeRow.holds Yba.pinned (OpenSpec.ofChange lawS5534CWholeSpec)

/-- ITS FALSE NEIGHBOUR: 'it returns false'. Refute it at one input. -/
def lawS5534CWholeWrong : ChangeSpec := { name := "lawS5534CWhole", fn := fun _ => fun
  | [d] => { results := [.lit (.bool false)], args := [d] }
  | _ => none }
def LawS5534CWholeWrongFalsely : Prop := lawS5534CWholeRow.holds Yba.pinned (OpenSpec.ofChange lawS5534CWholeWrong)

end Rows
end Go.Proofs.Ybulkdjow
