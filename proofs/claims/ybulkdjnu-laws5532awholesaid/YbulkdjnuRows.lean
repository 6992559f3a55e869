/-
  No cell of these rows narrows 'for every input' (looked for: loops, veiled, ifaces, maps, wideKeys, modest, calm, conditions, laid).
  DERIVED. THE GIVEN ROWS OF THIS SEAT. 3 by the template 'for every input the law returns true; each argument reads behind the call as it read before'; 0 by the template 'total and deterministic' (their statements: YbulkdjnuTotals.lean).
  GIVEN WITH THE SEED: the statements are not yours to turn. If you find one false, say at which input.
  Laid BY PROGRAM, IN A SANDBOX (cutbox-rows.mjs): the forced cells as the released guide's own fill.sh prints them over the translation 805266fe3ff91a5e… (all of the seat's roots in one cut). By AI agents, Wed Nov 11 2026. No macro, syntax, notation, axiom, sorry.
-/
import Derived.Test.YbulkdjnuChecked
import GoSem.Claim
import GoSem.ClaimJoined
import GoSem.ClaimMapViews
import Derived.JoinedTies
import Derived.KernelRfl
namespace Go.Proofs.Ybulkdjnu
/- THE CELL 'sum', in the pinned program and in every row, IS THE sha256 OF THE DUMP (.gsa) THAT YbulkdjnuProg.lean LOADS. Nothing in Lean hashes anything: it is a label: what it is worth is what the hold of that sum in a sandbox is worth. -/
noncomputable def Yba.pinned : Pinned := { name := "ybulkdjnu", sum := "805266fe3ff91a5ec0e90a92be90a3de23408fa8b6e289e0565ecade41fe3ac3", checked := Yba.checked }
namespace Rows
def none {H : Type} : Left H := { results := [], args := [] }

/-- 'fairlatch.LawS5532AWhole': WHATEVER THE INPUT: true; the input reads as it did. -/
def lawS5532AWholeSpec : ChangeSpec := { name := "lawS5532AWhole", fn := fun _ => fun
  | [d1, d2] => { results := [.lit (.bool true)], args := [d1, d2] }
  | _ => none }
def lawS5532AWholeRow : OpenClaim := { program := "ybulkdjnu", sum := "805266fe3ff91a5ec0e90a92be90a3de23408fa8b6e289e0565ecade41fe3ac3", func := "example.com/fairlatch/fairlatch.LawS5532AWhole", spec := "lawS5532AWhole", inPlace := ["sync/atomic.StoreInt32", "sync/atomic.StoreInt64", "sync/atomic.StoreUint32", "sync/atomic.LoadInt64", "sync/atomic.LoadInt32", "sync/atomic.LoadUint32"], apart := false }
def LawS5532AWholeSaid : Prop := lawS5532AWholeRow.holds Yba.pinned (OpenSpec.ofChange lawS5532AWholeSpec)

/-- ITS FALSE NEIGHBOUR: 'it returns false'. Refute it at one input. -/
def lawS5532AWholeWrong : ChangeSpec := { name := "lawS5532AWhole", fn := fun _ => fun
  | [d1, d2] => { results := [.lit (.bool false)], args := [d1, d2] }
  | _ => none }
def LawS5532AWholeWrongFalsely : Prop := lawS5532AWholeRow.holds Yba.pinned (OpenSpec.ofChange lawS5532AWholeWrong)

/-- 'fairlatch.LawS5532ARoundTrip': WHATEVER THE INPUT: true; the input reads as it did. -/
def lawS5532ARoundTripSpec : ChangeSpec := { name := "lawS5532ARoundTrip", fn := fun _ => fun
  | [d1, d2] => { results := [.lit (.bool true)], args := [d1, d2] }
  | _ => none }
def lawS5532ARoundTripRow : OpenClaim := { program := "ybulkdjnu", sum := "805266fe3ff91a5ec0e90a92be90a3de23408fa8b6e289e0565ecade41fe3ac3", func := "example.com/fairlatch/fairlatch.LawS5532ARoundTrip", spec := "lawS5532ARoundTrip", inPlace := ["sync/atomic.StoreInt64", "sync/atomic.LoadInt64"], apart := false }
def LawS5532ARoundTripSaid : Prop := lawS5532ARoundTripRow.holds Yba.pinned (OpenSpec.ofChange lawS5532ARoundTripSpec)

/-- ITS FALSE NEIGHBOUR: 'it returns false'. Refute it at one input. -/
def lawS5532ARoundTripWrong : ChangeSpec := { name := "lawS5532ARoundTrip", fn := fun _ => fun
  | [d1, d2] => { results := [.lit (.bool false)], args := [d1, d2] }
  | _ => none }
def LawS5532ARoundTripWrongFalsely : Prop := lawS5532ARoundTripRow.holds Yba.pinned (OpenSpec.ofChange lawS5532ARoundTripWrong)

/-- 'fairlatch.LawS5532CWhole': WHATEVER THE INPUT: true; the input reads as it did. -/
def lawS5532CWholeSpec : ChangeSpec := { name := "lawS5532CWhole", fn := fun _ => fun
  | [d1, d2] => { results := [.lit (.bool true)], args := [d1, d2] }
  | _ => none }
def lawS5532CWholeRow : OpenClaim := { program := "ybulkdjnu", sum := "805266fe3ff91a5ec0e90a92be90a3de23408fa8b6e289e0565ecade41fe3ac3", func := "example.com/fairlatch/fairlatch.LawS5532CWhole", spec := "lawS5532CWhole", apart := false }
def LawS5532CWholeSaid : Prop := lawS5532CWholeRow.holds Yba.pinned (OpenSpec.ofChange lawS5532CWholeSpec)

/-- ITS FALSE NEIGHBOUR: 'it returns false'. Refute it at one input. -/
def lawS5532CWholeWrong : ChangeSpec := { name := "lawS5532CWhole", fn := fun _ => fun
  | [d1, d2] => { results := [.lit (.bool false)], args := [d1, d2] }
  | _ => none }
def LawS5532CWholeWrongFalsely : Prop := lawS5532CWholeRow.holds Yba.pinned (OpenSpec.ofChange lawS5532CWholeWrong)

end Rows
end Go.Proofs.Ybulkdjnu
