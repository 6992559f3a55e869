import Derived.Test.YbulkdjmsFmtSteps
import Derived.Test.YbulkdjmsFmtLaw
import Derived.Test.YbulkdjmsFmtCards
import Derived.Deep.DeepWitnessRef
/-! The row, and the card. -/
namespace Go.Proofs.YbulkdjmsFmt
open Go.ChangeShapes Go.WideShapes Go.ChangeAt Go.WideMaps Go.WideElems Go.RowKit Plain
open Go.Extern.Stop Go.Stop Go.Extern
set_option maxRecDepth 100000
theorem own : ownKnob Ybaf.prog.godebug = none := by kernel_rfl
theorem laidOut : laidOutB Ybaf.prog = true := by kernel_rfl
theorem law_any (w : World) (sa : Option Addr) (n cap : Nat) (pre plb nx : Int) (hp : 0 ≤ pre ∧ pre ≤ 255) (hq : 0 ≤ plb ∧ plb ≤ 255) (hA : Anch w) (hS : n ≤ 1024 → ∃ st : List Stp, st.length = n ∧ StepsAt w sa st w.heap.size) :
    Calls Ybaf.prog 3 #[.slice sa n cap, .int .u8 pre, .int .u8 plb, .int .i64 nx] w fun e w' => e = .returned (.bool true) ∧ Below w.heap.size w w' := by
  by_cases hlen : n ≤ 1024
  · obtain ⟨st, rfl, hst⟩ := hS hlen
    refine law_short w sa st.length cap pre plb nx hlen hp hq (tuck ?_)
    have hb := build_any (sa := sa) (st := st) (cap := cap) (pb := w.heap.size) 5 (Nat.le_refl _) (w.alloc (.cells #[.int .i64 0] 3)) 0 (hst.keep ((Chg.refl _ _).alloc _)) ⟨heap_new _ _, Nat.zero_le _⟩
    have e0 : (6 : Int) - ((5 + 1 : Nat) : Int) = 0 := by decide
    rw [e0] at hb
    refine hb.mono ?_
    rintro e w' ⟨c, rfl, hT, _, hC⟩
    obtain ⟨T, hT'⟩ := tree_of_in w'
    have hbel : Below w.heap.size w w' := (((Chg.refl [] w).alloc _).trans hC (fun k hk => .inr (by simp at hk; omega))).below (Nat.le_refl _) (fun k hk => by cases hk)
    exact ⟨c, T, rfl, hT' _ _ _ _ hT, hA.keep hbel, hbel⟩
  · exact law_long w sa n cap pre plb nx hlen
theorem door_met (os : Os) (args : Array Value) : laidMetH Ybaf.prog Rows.lawS5530AWholeRow.laid ((World.doorLaid Ybaf.prog 400 os).forCall (fun _ _ => 0) ⟨#[], args, []⟩).memory :=
  laidMetH_of_parts3 (fuel := 8) (laidMet_of_run' 8 (by kernel_rfl) (by kernel_rfl)) (by kernel_rfl) (by kernel_rfl)
theorem stops : Ybaf.pinned.checked.prog.stops = ["fmt.Sprintf"] := by kernel_rfl
theorem stopKnobs : Ybaf.pinned.checked.prog.stopKnobs = [] := by kernel_rfl
theorem quiet (os : Os) : Stop.quiet Ybaf.pinned.checked.prog os := by
  intro k hk
  rw [stopKnobs] at hk
  cases hk
theorem lifted (os : Os) (started : os.Started) (H : Type) (enc : TypeId × Value → H) :
    ReturnsInTold none {} Ybaf.checked os 3 .any Input.okWide ((OpenSpec.ofChange Rows.lawS5530AWholeSpec).preRow enc Ybaf.prog Ybaf.f3 Rows.lawS5530AWholeRow.domain false Rows.lawS5530AWholeRow.laid) (fun F => ((OpenSpec.ofChange Rows.lawS5530AWholeSpec).at F).post enc Ybaf.prog Ybaf.f3 false true false false) (aloneAtReturn Ybaf.prog) nothingAlways := by
  refine returnsInTold_of_row (C := Ybaf.checked) (s := OpenSpec.ofChange Rows.lawS5530AWholeSpec) (by kernel_rfl) own started (by kernel_rfl) Ybaf.func3
    (OpenSpec.witness_stopped_atRef (enc := enc) (C := Ybaf.checked) false (World.doorLaid Ybaf.prog 400 os) #[.slice none 0 0, .int .u8 0, .int .u8 0, .int .i64 0] rfl (by kernel_rfl) (by kernel_rfl) (by kernel_rfl)
      (OpenSpec.preRow_of_B rfl 8 (by kernel_rfl) (by kernel_rfl) (door_met os _))) ?_
  intro F W base args ds gs before _ hF hval0 hW _ _ _ hL _
  have hval : ∀ (j : Nat) t v, Ybaf.f3.params[j]? = some t → args[j]? = some v → Value.okWide Ybaf.prog W .any base t v := hval0
  have hW' := hW
  obtain ⟨p, q, hA0, hV, rfl, hfz, hnd⟩ := hW
  have hA : DataW.TrodAll enc Ybaf.prog W 0 (fun _ => true) true Ybaf.f3.params.toList args.toList ds p := hA0
  rw [Ybaf.params3] at hA hval
  obtain ⟨v0, vs0, d0, ds0, p0, q0, hargs, rfl, rfl, h0, r0⟩ := trodAll_cons hA
  obtain ⟨v1, vs1, d1, ds1, p1, q1, rfl, rfl, rfl, h1, r1⟩ := trodAll_cons r0
  obtain ⟨v2, vs2, d2, ds2, p2, q2, rfl, rfl, rfl, h2, r2⟩ := trodAll_cons r1
  obtain ⟨v3, vs3, d3, ds3, p3, q3, rfl, rfl, rfl, h3, r3⟩ := trodAll_cons r2
  obtain ⟨rfl, rfl, rfl⟩ := trodAll_nil r3
  obtain rfl : args = #[v0, v1, v2, v3] := by cases args; simp_all
  obtain ⟨g1, rfl⟩ : ∃ g1, gs = [g1] := by
    match gs, hV with
    | [], h => exact h.elim
    | [g], _ => exact ⟨g, rfl⟩
    | _ :: _ :: _, h =>
      obtain ⟨_, _, _, _, _, _, _, _, _, _, hs, _⟩ := h
      exact hs.elim
  obtain ⟨a0, len0, cap0, rfl⟩ := okWide_slice Ybaf.underlying22 (hval 0 22 v0 rfl rfl)
  obtain ⟨pre, rfl, rfl, rfl, w1⟩ := open_int Ybaf.underlying5 (hval 1 5 v1 rfl rfl) h1
  obtain ⟨plb, rfl, rfl, rfl, w2⟩ := open_int Ybaf.underlying5 (hval 2 5 v2 rfl rfl) h2
  obtain ⟨nx, rfl, rfl, rfl, w3⟩ := open_int Ybaf.underlying3 (hval 3 3 v3 rfl rfl) h3
  have k0 := h0
  have lt0 : ∀ x ∈ p0, x.block < W.heap.size := by obtain ⟨m, hm⟩ := k0; exact DataW.trod_lt m _ _ _ hm
  have hS : len0 ≤ 1024 → ∃ st : List Stp, st.length = len0 ∧ StepsAt W a0 st W.heap.size := fun hl => by
    obtain ⟨m, hm⟩ := k0
    exact steps_of_trod hm hl (Nat.le_refl _)
  have hAn : Anch W := anch_of_laid hL
  clear hA0 hval0
  refine (law_any W a0 len0 cap0 pre plb nx (wf_u8 w1) (wf_u8 w2) hAn hS).mono fun e W' ⟨he, bel⟩ => ?_
  subst he
  exact ⟨_, rfl, _, _, _, [], _, _, hW', trodAll_mk1 (shut_bool Ybaf.underlying4 _), trodAll_cons_mk (Below.trod laidOut (by kernel_rfl) (of_decide_eq_true (by kernel_rfl)) k0 bel lt0) (trodAll_cons_mk (shut_int Ybaf.underlying5 w1) (trodAll_cons_mk (shut_int Ybaf.underlying5 w2) (trodAll_cons_mk (shut_int Ybaf.underlying3 w3) trodAll_mk0))), Below.trodVars laidOut bel (by kernel_rfl) hV, bel.frame _, fun h => by cases h⟩
theorem proved : Rows.LawS5530AWholeToldSaid :=
  Claim7.holds_of_told_tied_any_at .later 3 Ybaf.f3 "fmt.Sprintf" [] [] _ _ _ _ _ (by kernel_rfl) rfl rfl rfl laidOut (by kernel_rfl) rfl ⟨rfl, rfl, rfl, rfl, rfl, rfl, rfl⟩ rfl rfl (by kernel_rfl) (by kernel_rfl) Ybaf.func3 (by kernel_rfl)
    (of_decide_eq_true (by kernel_rfl)) (of_decide_eq_true (by kernel_rfl)) stops.symm rfl stopKnobs.symm (by kernel_rfl)
    (by kernel_rfl) (by kernel_rfl) (by kernel_rfl) (by kernel_rfl) (by kernel_rfl) (by kernel_rfl) (by kernel_rfl) (by kernel_rfl) (by kernel_rfl) rfl (by kernel_rfl) rfl rfl
    rfl rfl
    rfl (by kernel_rfl) (by kernel_rfl) (by kernel_rfl) (by decide) (by kernel_rfl) lawS5530AWhole_row_tie
    (OpenClaim.moreEntering_of (by kernel_rfl) (by kernel_rfl) (by kernel_rfl) (by kernel_rfl) (by kernel_rfl) (by kernel_rfl) (by kernel_rfl) (by kernel_rfl) (by kernel_rfl) (by kernel_rfl))
    ⟨_, WideRow.started_initial, quiet _⟩
    (fun os started _ H enc _ => lifted os started H enc)
end Go.Proofs.YbulkdjmsFmt
