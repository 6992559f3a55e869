/-
  NARROWER THAN 'FOR EVERY INPUT', by the rows' own cells (each row's printed sentence says how): LawS5530AWhole: maps, laid.
  DERIVED. THE GIVEN ROWS OF THIS SEAT. 1 by the template 'for every input the law returns true; each argument reads behind the call as it read before'; 0 by the template 'total and deterministic' (their statements: YbulkdjmsFmtTotals.lean).
  GIVEN WITH THE SEED: the statements are not yours to turn. If you find one false, say at which input.
  Laid BY PROGRAM, IN A SANDBOX (cutbox-rows.mjs): the forced cells as the released guide's own fill.sh prints them over the translation c86f5968b6b505b3… (all of the seat's roots in one cut). By AI agents, Wed Nov 11 2026. No macro, syntax, notation, axiom, sorry.
-/
import Derived.Test.YbulkdjmsFmtChecked
import GoSem.Claim
import GoSem.ClaimJoined
import GoSem.ClaimMapViews
import Derived.JoinedTies
import Derived.KernelRfl
namespace Go.Proofs.YbulkdjmsFmt
/- THE CELL 'sum', in the pinned program and in every row, IS THE sha256 OF THE DUMP (.gsa) THAT YbulkdjmsFmtProg.lean LOADS. Nothing in Lean hashes anything: it is a label: what it is worth is what the hold of that sum in a sandbox is worth. -/
noncomputable def Ybaf.pinned : Pinned := { name := "ybulkdjmsfmt", sum := "c86f5968b6b505b35514fa216ee92fa33ac9bcf87d2749ce74f30bd8a0650570", checked := Ybaf.checked }
namespace Rows
def none {H : Type} : Left H := { results := [], args := [] }

/- WHAT THE LISTED PACKAGE-LEVEL VARIABLES READ AS WHEN THE CALL BEGINS. Each datum BY PROGRAM (the guide's laid-datum.mjs) off the statement by which the dump's own 'gosem.cut.vars' lays the variable. In a bare row this is a premise. The card (YbulkdjmsFmtCards.lean) ties it to the program's text. -/
def laid_example_com_lockstep_lockstep_syntax_anchors {H : Type} : DataW H := .map [(.int .u8 4, .lit (.int .u8 1)), (.int .u8 5, .lit (.int .u8 2)), (.int .u8 6, .lit (.int .u8 3)), (.int .u8 7, .lit (.int .u8 4)), (.int .u8 14, .lit (.int .u8 7)), (.int .u8 15, .lit (.int .u8 8))]

/-- 'syntax.LawS5530AWhole': WHATEVER THE INPUT: true; the input reads as it did. -/
def lawS5530AWholeSpec : ChangeSpec := { name := "lawS5530AWhole", vars := ["example.com/lockstep/lockstep/syntax.anchors"], fn := fun _ => fun
  | [d1, d2, d3, d4, g1] => { results := [.lit (.bool true)], args := [d1, d2, d3, d4], vars := [g1] }
  | _ => none }
def lawS5530AWholeRow : OpenClaim := { program := "ybulkdjmsfmt", sum := "c86f5968b6b505b35514fa216ee92fa33ac9bcf87d2749ce74f30bd8a0650570", func := "example.com/lockstep/lockstep/syntax.LawS5530AWhole", spec := "lawS5530AWhole", stops := ["fmt.Sprintf"], inPlace := ["fmt.Sprintf"], recurses := true, named := ["example.com/lockstep/lockstep/syntax.anchors"], maps := true, apart := false, laid := [("example.com/lockstep/lockstep/syntax.anchors", laid_example_com_lockstep_lockstep_syntax_anchors)] }
/-- NO THEOREM (fmt's text is open here; it may be false): for the released tool's asking of the row's closed facts alone. THE STATEMENT IS 'LawS5530AWholeToldSaid' (YbulkdjmsFmtCards.lean). -/
def LawS5530AWholeFormAsk : Prop := lawS5530AWholeRow.holds Ybaf.pinned (OpenSpec.ofChange lawS5530AWholeSpec)

/-- ITS FALSE NEIGHBOUR: 'it returns false'. Refute it at one input. -/
def lawS5530AWholeWrong : ChangeSpec := { name := "lawS5530AWhole", vars := ["example.com/lockstep/lockstep/syntax.anchors"], fn := fun _ => fun
  | [d1, d2, d3, d4, g1] => { results := [.lit (.bool false)], args := [d1, d2, d3, d4], vars := [g1] }
  | _ => none }
def LawS5530AWholeWrongFormAsk : Prop := lawS5530AWholeRow.holds Ybaf.pinned (OpenSpec.ofChange lawS5530AWholeWrong)

end Rows
end Go.Proofs.YbulkdjmsFmt
