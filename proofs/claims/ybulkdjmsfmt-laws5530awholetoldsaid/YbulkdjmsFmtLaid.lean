import Derived.Test.YbulkdjmsFmtAnchor
import Derived.Test.YbulkdjmsFmtBuildA
import Derived.Test.YbulkdjmsFmtTie
import Derived.ProofKit
import Derived.LaidMore
import Derived.OpenShut
import Derived.OpenVars
import Derived.Maps.Keyed
import Derived.Stop.JoinedTold
import Derived.SevenTiedAt
/-! What the listed variable gives. -/
namespace Go.Proofs.YbulkdjmsFmt
open Go.ChangeShapes Go.WideShapes Go.ChangeAt Go.WideMaps Go.WideElems Go.RowKit
theorem gAnchors : Ybaf.prog.globalNamed (Rows.lawS5530AWholeSpec.vars.headD "") = some 0 := by kernel_rfl
theorem tAnchors : (Ybaf.prog.globals[0]?).map (·.type) = some 59 := by kernel_rfl
theorem anch_of_laid {W : World} (h : laidMetH Ybaf.prog Rows.lawS5530AWholeRow.laid W) : Anch W := by
  rw [MakeChecks.laidMetH_plain _ _ _ (by kernel_rfl)] at h
  obtain ⟨ps, ⟨g0, t0, cs0, f0, p0, q0, hg0, ht0, hv0, hd0, _, _⟩, _, _⟩ := h
  obtain rfl := Option.some.inj (gAnchors.symm.trans hg0)
  obtain rfl := Option.some.inj (tAnchors.symm.trans ht0)
  rcases open_map Ybaf.underlying59 hd0 with ⟨_, hx⟩ | ⟨bm, es, clock, m, rfl, hcs, hb, _, F, hx⟩
  · exact absurd (congrArg Prod.fst hx) (by intro e; cases e)
  simp only [Prod.mk.injEq] at hx
  have hcell : W.cell? ⟨0, 0, none⟩ = some (.map (some bm)) := by
    have := World.var?_cell hg0 hv0 0
    rw [Array.eq_one_of_toList hcs] at this
    simpa using this
  refine ⟨bm, hcell, lt_of_heap hb, fun W' hW' op hop => ?_⟩
  have zero : (zeroValue 38).run Ybaf.prog W' = .ok (.int .u8 0) W' := by kernel_rfl
  have hop' : (Lit.int .u8 op).wf = true := by rcases hop with rfl | rfl | rfl | rfl | rfl | rfl <;> decide
  rcases Maps.fit_look (w := W') true (Maps.int_keyed Ybaf.underlying49) Ybaf.underlying59 zero (hW'.trans hb) F (Maps.keyOf_int_mk Ybaf.underlying49 hop') with ⟨_, _, hat⟩ | ⟨e0, y, _, _, hrun, hRv, hat, _⟩
  · have := hat .nil
    rw [← hx.1] at this
    rcases hop with rfl | rfl | rfl | rfl | rfl | rfl <;> exact absurd this (by intro e; cases e)
  · obtain ⟨r, e1, rfl, _⟩ := elemAt_int Ybaf.underlying38 hRv
    have := hat .nil
    rw [← hx.1] at this
    rw [hrun, e1]
    rcases hop with rfl | rfl | rfl | rfl | rfl | rfl <;> (cases this; rfl)
end Go.Proofs.YbulkdjmsFmt
