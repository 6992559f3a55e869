/-
  PROOF OF 'Rows.LawS5532ARoundTripSaid': the tool's shell (proof-skeleton.mjs) with the walk filled in.
-/
import Derived.Test.YbulkdjnuRows
import Derived.WalkKit
import Derived.ProofKit
import Derived.OpenShut
import Derived.ShutString
import Derived.Below
import Derived.WalkSpells
import Derived.Laws.LoneSync
import Derived.Laws.NewBlocks
namespace Go.Proofs.Ybulkdjnu.lawS5532ARoundTrip
open Go.ChangeShapes Go.WideShapes Go.ChangeAt Go.RowKit
open Go.ChangeMaps (open_string shut_string)
set_option linter.unusedVariables false      -- a walk need not use every 'w<i>' (that an integer argument fits its kind)

theorem own : ownKnob Yba.prog.godebug = none := by kernel_rfl

theorem not64 (a : Int) (h1 : -9223372036854775808 ≤ a) (h2 : a ≤ 9223372036854775807) : bits .xor .i64 (-1) a = -1 - a := by
  show IntKind.i64.wrap ((BitVec.ofInt 64 (-1) ^^^ BitVec.ofInt 64 a).toNat : Int) = _
  have e1 : BitVec.ofInt 64 (-1) = BitVec.allOnes 64 := by decide
  rw [e1, BitVec.allOnes_xor, BitVec.toNat_not, BitVec.toNat_ofInt]
  simp [IntKind.wrap, IntKind.bits, IntKind.signed]
  omega
theorem st64 (b off : Nat) (y : Int) (u : Value) (w : World) (hc : w.cell? ⟨b, off, none⟩ = some u) (hz : w.frozen? ⟨b, off, none⟩ = false) :
    Calls Yba.prog 11 #[.pointer (some ⟨b, off, none⟩), .int .i64 y] w fun e w' => e = .returned (.tuple #[]) ∧ w' = w.setCell ⟨b, off, none⟩ (.int .i64 y) := by
  have hs := run_call_store (P := Yba.prog) Yba.func21 (by kernel_rfl) (by kernel_rfl) (by kernel_rfl) (by kernel_rfl) (k := .i64) (y := y) hc hz
  go_enter Yba.func11, Yba.ntmps11
  go_wp2
  go_end0
  exact ⟨rfl, rfl⟩
theorem ld64 (b off : Nat) (y : Int) (w : World) (hc : w.cell? ⟨b, off, none⟩ = some (.int .i64 y)) :
    Calls Yba.prog 8 #[.pointer (some ⟨b, off, none⟩)] w fun e w' => e = .returned (.int .i64 y) ∧ w' = w := by
  have hs := run_call_load (P := Yba.prog) Yba.func18 (by kernel_rfl) (by kernel_rfl) (by kernel_rfl) .i64 (by kernel_rfl) hc
  go_enter Yba.func8, Yba.ntmps8
  go_wp2
  go_ret
  exact ⟨rfl, rfl⟩
/-- What SetStarvationThreshold stores for d ≥ 0. -/
def stored (d : Int) : Int := if d = 0 then -1 else d
theorem set_any (b : Nat) (d : Int) (u : Value) (w : World) (h0 : 0 ≤ d) (hc : w.cell? ⟨b, 7, none⟩ = some u) (hz : w.frozen? ⟨b, 7, none⟩ = false) :
    Calls Yba.prog 7 #[.pointer (some ⟨b, 0, none⟩), .int .i64 d] w fun e w' => e = .returned (.tuple #[]) ∧ w' = w.setCell ⟨b, 7, none⟩ (.int .i64 (stored d)) := by
  have hs := fun (y : Int) => st64 b 7 y u w hc hz
  have hneg : ¬ d < 0 := by omega
  by_cases hd : d = 0
  · subst hd
    go_enter Yba.func7, Yba.ntmps7
    go_wp2_with (go_at_call 11; refine (hs _).mono ?_; rintro e w' ⟨rfl, rfl⟩)
    go_end0
    exact ⟨rfl, rfl⟩
  · have hd' : (d == 0) = false := by simpa using hd
    have e : stored d = d := by unfold stored; rw [if_neg hd]
    rw [e]
    clear e hd
    go_enter Yba.func7, Yba.ntmps7
    go_wp2_with (go_at_call 11; refine (hs _).mono ?_; rintro e w' ⟨rfl, rfl⟩)
    go_end0
    exact ⟨rfl, rfl⟩
theorem thr_any (b : Nat) (d : Int) (w : World) (h0 : 0 ≤ d) (hc : w.cell? ⟨b, 7, none⟩ = some (.int .i64 (stored d))) :
    Calls Yba.prog 12 #[.pointer (some ⟨b, 0, none⟩)] w fun e w' => e = .returned (.int .i64 d) ∧ w' = w := by
  by_cases hd : d = 0
  · subst hd
    have hl := ld64 b 7 (-1) w hc
    clear hc
    go_enter Yba.func12, Yba.ntmps12
    go_wp2_with (go_at_call 8; refine hl.mono ?_; rintro e w' ⟨rfl, rfl⟩)
    go_ret
    exact ⟨rfl, rfl⟩
  · have e : stored d = d := by unfold stored; rw [if_neg hd]
    rw [e] at hc
    have hl := ld64 b 7 d w hc
    have h1 : (d == 0) = false := by simpa using hd
    have h2 : (d == -1) = false := by simp; omega
    clear hc e hd
    go_enter Yba.func12, Yba.ntmps12
    go_wp2_with (go_at_call 8; refine hl.mono ?_; rintro e w' ⟨rfl, rfl⟩)
    go_ret
    exact ⟨rfl, rfl⟩
theorem walk (a0 : Int) (a1 : Int) (w0 : (Lit.int .i64 a0).wf = true) (w1 : (Lit.int .i64 a1).wf = true) (w : World) :
    Calls Yba.prog 4 #[.int .i64 a0, .int .i64 a1] w fun e w' => e = .returned (.bool true) ∧ Grown w w' := by
  by_cases h0 : 0 ≤ a0
  · clear w0 w1
    go_enter Yba.func4, Yba.ntmps4
    go_wp2_with (first | (go_at_call 11; refine (st64 _ _ _ (.int .i64 0) _ (by simp) (by simp)).mono ?_; rintro e w' ⟨rfl, rfl⟩) | (go_at_call 7; refine (set_any _ _ (.int .i64 a1) _ h0 (by simp) (by simp)).mono ?_; rintro e w' ⟨rfl, rfl⟩) | (go_at_call 12; refine (thr_any _ a0 _ h0 (by simp)).mono ?_; rintro e w' ⟨rfl, rfl⟩))
    go_ret
    exact ⟨rfl, (Grown.refl _).alloc _ _⟩
  · obtain ⟨d, hb, h1⟩ : ∃ d, bits .xor .i64 (-1) a0 = d ∧ 0 ≤ d := by
      simp only [Lit.wf, IntKind.min, IntKind.max, IntKind.signed, IntKind.bits, Bool.and_eq_true, decide_eq_true_eq, if_true] at w0
      exact ⟨-1 - a0, not64 a0 (by omega) (by omega), by omega⟩
    have hsg : IntKind.i64.signed = true := rfl
    clear w0 w1
    go_enter Yba.func4, Yba.ntmps4
    go_wp2_with (first | (go_at_call 11; refine (st64 _ _ _ (.int .i64 0) _ (by simp) (by simp)).mono ?_; rintro e w' ⟨rfl, rfl⟩) | (go_at_call 7; refine (set_any _ _ (.int .i64 a1) _ h1 (by simp) (by simp)).mono ?_; rintro e w' ⟨rfl, rfl⟩) | (go_at_call 12; refine (thr_any _ d _ h1 (by simp)).mono ?_; rintro e w' ⟨rfl, rfl⟩))
    go_ret
    exact ⟨rfl, (Grown.refl _).alloc _ _⟩

/-! ### THE ROW's STEP: WRITTEN OUT: LEAVE IT -/
set_option maxRecDepth 100000 in
theorem lifted (os : Os) (started : os.Started) (H : Type) (enc : TypeId × Value → H) :
    ReturnsInHanded {} Yba.checked os 4 .any (Rows.lawS5532ARoundTripSpec.pre6 enc Yba.prog Yba.f4 Rows.lawS5532ARoundTripRow.domain false) (Rows.lawS5532ARoundTripSpec.post enc Yba.prog Yba.f4 false true false false) := by
  refine returnsInHanded_of_change (C := Yba.checked) own started (by kernel_rfl) Yba.func4
    (ChangeSpec.witness6 (enc := enc) (C := Yba.checked) false ⟨#[], #[.int .i64 0, .int .i64 0], []⟩ 8 (by kernel_rfl) (by kernel_rfl) (by kernel_rfl) (by kernel_rfl)) ?_
  intro W base args ds gs before hval0 hW hcnd _
  have hval : ∀ (j : Nat) t v, Yba.f4.params[j]? = some t → args[j]? = some v → Value.okWide Yba.prog W .any base t v := hval0
  have hW' := hW
  obtain ⟨p, q, hA0, hV, rfl, hfz, hnd⟩ := hW
  have hA : DataW.TrodAll enc Yba.prog W 0 (fun _ => true) true Yba.f4.params.toList args.toList ds p := hA0
  rw [Yba.params4] at hA hval
  obtain ⟨v0, vs0, d0, ds0, p0, q0, hargs, rfl, rfl, h0, r0⟩ := trodAll_cons hA
  obtain ⟨v1, vs1, d1, ds1, p1, q1, rfl, rfl, rfl, h1, r1⟩ := trodAll_cons r0
  obtain ⟨rfl, rfl, rfl⟩ := trodAll_nil r1
  obtain rfl : args = #[v0, v1] := by cases args; simp_all
  obtain ⟨rfl, rfl⟩ := trodVars_none hV
  obtain ⟨a0, rfl, rfl, rfl, w0⟩ := open_int Yba.underlying2 (hval 0 2 v0 rfl rfl) h0
  obtain ⟨a1, rfl, rfl, rfl, w1⟩ := open_int Yba.underlying2 (hval 1 2 v1 rfl rfl) h1
  clear hA0 hval0
  simp only [List.append_nil] at hW'
  refine (walk a0 a1 w0 w1 W).mono fun e W' ⟨he, hg⟩ => ?_
  subst he
  exact ⟨_, rfl, post_of_same (pa := []) (pv := []) hW' (fun _ _ _ => (trodAll_cons_mk (shut_bool Yba.underlying4 _) trodAll_mk0)) (fun sp _ => (trodAll_cons_mk (shut_int Yba.underlying2 w0) (trodAll_cons_mk (shut_int Yba.underlying2 w1) trodAll_mk0))) (fun _ _ => rfl) rfl
    (hg.frame _) hg.2.1 (ok_one (by kernel_rfl) rfl (okWide_bool_mk Yba.underlying4 _))⟩

theorem over : Rows.lawS5532ARoundTripRow.holds Yba.pinned (OpenSpec.ofChange Rows.lawS5532ARoundTripSpec) :=
  OpenClaim.holds_of_wide 4 Yba.f4 rfl rfl rfl rfl rfl rfl rfl ⟨rfl, rfl, rfl, rfl, rfl⟩ rfl rfl rfl rfl rfl (by kernel_rfl) Yba.func4 (by kernel_rfl)
    (of_decide_eq_true (by kernel_rfl)) (by unfold Func.isWrapper; first | (rw [if_pos (by decide +kernel)]; kernel_rfl) | (rw [if_neg (by decide +kernel)]; exact ⟨rfl, rfl⟩))
    (fun os started H enc _ => lifted os started H enc)

/-- ████ THE STATEMENT ████ -/
theorem proved : Rows.LawS5532ARoundTripSaid :=
  over
end Go.Proofs.Ybulkdjnu.lawS5532ARoundTrip
