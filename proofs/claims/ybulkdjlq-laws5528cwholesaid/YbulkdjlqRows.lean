/-
  No cell of these rows narrows 'for every input' (looked for: loops, veiled, ifaces, maps, wideKeys, modest, calm, conditions, laid).
  DERIVED. THE GIVEN ROWS OF THIS SEAT. 1 by the template 'for every input the law returns true; each argument reads behind the call as it read before'; 0 by the template 'total and deterministic' (their statements: YbulkdjlqTotals.lean).
  GIVEN WITH THE SEED: the statements are not yours to turn. If you find one false, say at which input.
  Laid BY PROGRAM, IN A SANDBOX (cutbox-rows.mjs): the forced cells as the released guide's own fill.sh prints them over the translation f296ff22bc2335be… (all of the seat's roots in one cut). By AI agents, Wed Nov 11 2026. No macro, syntax, notation, axiom, sorry.
-/
import Derived.Test.YbulkdjlqChecked
import GoSem.Claim
import GoSem.ClaimJoined
import GoSem.ClaimMapViews
import Derived.JoinedTies
import Derived.KernelRfl
namespace Go.Proofs.Ybulkdjlq
/- THE CELL 'sum', in the pinned program and in every row, IS THE sha256 OF THE DUMP (.gsa) THAT YbulkdjlqProg.lean LOADS. Nothing in Lean hashes anything: it is a label: what it is worth is what the hold of that sum in a sandbox is worth. -/
noncomputable def Yba.pinned : Pinned := { name := "ybulkdjlq", sum := "f296ff22bc2335be441b150efc59b1c68fa736ab154d01a32a581b3a7698ee68", checked := Yba.checked }
namespace Rows
def none {H : Type} : Left H := { results := [], args := [] }

/-- 'guard.LawS5528CWhole': WHATEVER THE INPUT: true; the input reads as it did. -/
def lawS5528CWholeSpec : ChangeSpec := { name := "lawS5528CWhole", fn := fun _ => fun
  | [] => { results := [.lit (.bool true)], args := [] }
  | _ => none }
def lawS5528CWholeRow : OpenClaim := { program := "ybulkdjlq", sum := "f296ff22bc2335be441b150efc59b1c68fa736ab154d01a32a581b3a7698ee68", func := "example.com/postern/postern/internal/guard.LawS5528CWhole", spec := "lawS5528CWhole", apart := false }
def LawS5528CWholeSaid : Prop := lawS5528CWholeRow.holds Yba.pinned (OpenSpec.ofChange lawS5528CWholeSpec)

/-- ITS FALSE NEIGHBOUR: 'it returns false'. Refute it at one input. -/
def lawS5528CWholeWrong : ChangeSpec := { name := "lawS5528CWhole", fn := fun _ => fun
  | [] => { results := [.lit (.bool false)], args := [] }
  | _ => none }
def LawS5528CWholeWrongFalsely : Prop := lawS5528CWholeRow.holds Yba.pinned (OpenSpec.ofChange lawS5528CWholeWrong)

end Rows
end Go.Proofs.Ybulkdjlq
