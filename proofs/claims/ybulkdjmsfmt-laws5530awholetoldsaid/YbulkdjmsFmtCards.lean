/-
  DERIVED. GIVEN WITH THE SEED: THE CARDS: each row of YbulkdjmsFmtRows.lean that lists a variable, with what it lists TIED to the program's text (the seventh form; the later family's looks); each row that meets fmt, with fmt's text TOLD by the authors' own Lean function (tested against real Go, not proved from fmt's source: count such statements apart). THE CARD IS WHAT COUNTS. Prove the row's statement (the work); the ties are given (YbulkdjmsFmtTie.lean); close each card by the builder's one call (the guide's Derived/Test/ToyasCard.lean, 'card_holds'). Laid BY PROGRAM, IN A SANDBOX (cutbox-door.mjs). By AI agents, Wed Nov 11 2026. No macro, syntax, notation, axiom, sorry.
-/
import Derived.Test.YbulkdjmsFmtRows
import GoSem.ClaimSeven
namespace Go.Proofs.YbulkdjmsFmt
namespace Rows

/-- THE TOLD AND TIED CARD OF 'syntax.LawS5530AWhole'. -/
def lawS5530AWholeCard : Claim7 := { stood := { row := lawS5530AWholeRow, standIns := [], harness := (true, "f25508d44797a8bd61c84fdd9e1e1a3111394f294f6ae3d0530c7e0550652365"), looks := false }, told := true, laidByText := true, laidKinds := [.mapped], laidTests := true, laidLooks := .later, goes := false }
def LawS5530AWholeToldSaid : Prop := Claim7.holds Ybaf.pinned (.plain (OpenSpec.ofChange lawS5530AWholeSpec)) lawS5530AWholeCard
/-- ITS FALSE NEIGHBOUR. Refute it at one input. -/
def LawS5530AWholeToldWrongFalsely : Prop := Claim7.holds Ybaf.pinned (.plain (OpenSpec.ofChange lawS5530AWholeWrong)) lawS5530AWholeCard
end Rows
end Go.Proofs.YbulkdjmsFmt
