/-
  PROOF OF 'Rows.LawS5532CWholeSaid': the tool's shell (proof-skeleton.mjs) with the walk filled in.
-/
import Derived.Test.YbulkdjnuRows
import Derived.WalkKit
import Derived.ProofKit
import Derived.OpenShut
import Derived.ShutString
import Derived.Below
import Derived.WalkSpells
import Derived.Laws.BitsAllLaws
namespace Go.Proofs.Ybulkdjnu.lawS5532CWhole
open Go.ChangeShapes Go.WideShapes Go.ChangeAt Go.RowKit
open Go.ChangeMaps (open_string shut_string)
set_option linter.unusedVariables false      -- a walk need not use every 'w<i>' (that an integer argument fits its kind)

theorem own : ownKnob Yba.prog.godebug = none := by kernel_rfl

theorem not64 (a : Int) (h1 : -9223372036854775808 ≤ a) (h2 : a ≤ 9223372036854775807) : bits .xor .i64 (-1) a = -1 - a := by
  show IntKind.i64.wrap ((BitVec.ofInt 64 (-1) ^^^ BitVec.ofInt 64 a).toNat : Int) = _
  have e1 : BitVec.ofInt 64 (-1) = BitVec.allOnes 64 := by decide
  rw [e1, BitVec.allOnes_xor, BitVec.toNat_not, BitVec.toNat_ofInt]
  simp [IntKind.wrap, IntKind.bits, IntKind.signed]
  omega

/-- The bound that the code compares d with. -/
def limV (a0 : Int) : Int := wrap64 (9223372036854775807 - a0)
theorem limV_not (a0 : Int) (h1 : -9223372036854775808 ≤ a0) (h2 : a0 ≤ 9223372036854775807) :
    wrap64 (-9223372036854775808 + bits .xor .i64 (-1) a0) = limV a0 := by
  rw [not64 a0 h1 h2]; unfold limV wrap64; omega
theorem ret_int {k : IntKind} {a b : Int} (h : a = b) : Ending.returned (.int k a) = .returned (.int k b) := by rw [h]

theorem due_hi (a0 a1 : Int) (w : World) (h : limV a0 < a1) :
    Calls Yba.prog 13 #[.int .i64 a0, .int .i64 a1] w fun e w' => e = .returned (.int .i64 9223372036854775807) ∧ w' = w := by
  unfold limV at h
  go_enter Yba.func13, Yba.ntmps13
  go_wp2
  go_ret
  exact ⟨rfl, rfl⟩
theorem due_lo (a0 a1 : Int) (w : World) (h : ¬ limV a0 < a1) :
    Calls Yba.prog 13 #[.int .i64 a0, .int .i64 a1] w fun e w' => e = .returned (.int .i64 (wrap64 (a0 + a1))) ∧ w' = w := by
  unfold limV at h
  go_enter Yba.func13, Yba.ntmps13
  go_wp2
  go_ret
  exact ⟨rfl, rfl⟩
theorem lim_any (a0 : Int) (w : World) (h1 : -9223372036854775808 ≤ a0) (h2 : a0 ≤ 9223372036854775807) :
    Calls Yba.prog 14 #[.int .i64 a0] w fun e w' => e = .returned (.int .i64 (limV a0)) ∧ w' = w := by
  have H : Hid (wrap64 (-9223372036854775808 + bits .xor .i64 (-1) a0) = limV a0) := limV_not a0 h1 h2
  clear h1 h2
  by_cases h0 : 0 ≤ a0
  · go_enter Yba.func14, Yba.ntmps14
    go_wp2
    go_ret
    exact ⟨rfl, rfl⟩
  · go_enter Yba.func14, Yba.ntmps14
    go_wp2
    all_goals go_ret
    all_goals first | exact ⟨ret_int H.out, rfl⟩ | (rename_i hh; exact absurd hh (by decide))

theorem walk (a0 : Int) (a1 : Int) (w0 : (Lit.int .i64 a0).wf = true) (w1 : (Lit.int .i64 a1).wf = true) (w : World) :
    Calls Yba.prog 5 #[.int .i64 a0, .int .i64 a1] w fun e w' => e = .returned (.bool true) ∧ Grown w w' := by
  have b0 : -9223372036854775808 ≤ a0 ∧ a0 ≤ 9223372036854775807 := by
    simp only [Lit.wf, IntKind.min, IntKind.max, IntKind.signed, IntKind.bits, Bool.and_eq_true, decide_eq_true_eq, if_true] at w0; omega
  clear w0 w1
  have HL := fun w => lim_any a0 w b0.1 b0.2
  by_cases h : limV a0 < a1
  · by_cases h0 : 0 ≤ a0
    · by_cases h1 : 0 ≤ a1
      · have k : 9223372036854775807 - a0 < a1 := by unfold limV wrap64 at h; omega
        go_enter Yba.func5, Yba.ntmps5
        go_wp2_with (first | (go_at_call 13; refine (due_hi _ _ _ h).mono ?_; rintro e w' ⟨rfl, rfl⟩) | (go_at_call 14; refine (HL _).mono ?_; rintro e w' ⟨rfl, rfl⟩))
        go_ret
        exact ⟨rfl, Grown.refl _⟩
      · go_enter Yba.func5, Yba.ntmps5
        go_wp2_with (first | (go_at_call 13; refine (due_hi _ _ _ h).mono ?_; rintro e w' ⟨rfl, rfl⟩) | (go_at_call 14; refine (HL _).mono ?_; rintro e w' ⟨rfl, rfl⟩))
        go_ret
        exact ⟨rfl, Grown.refl _⟩
    · go_enter Yba.func5, Yba.ntmps5
      go_wp2_with (first | (go_at_call 13; refine (due_hi _ _ _ h).mono ?_; rintro e w' ⟨rfl, rfl⟩) | (go_at_call 14; refine (HL _).mono ?_; rintro e w' ⟨rfl, rfl⟩))
      go_ret
      exact ⟨rfl, Grown.refl _⟩
  · have hn : (wrap64 (a0 + a1) != wrap64 (IntKind.u64.wrap (IntKind.u64.wrap a0 + IntKind.u64.wrap a1))) = false := by
      rw [bne_eq_false_iff_eq, IntKind.wrap_u64, IntKind.wrap_u64, IntKind.wrap_u64]; unfold wrap64; omega
    by_cases h0 : 0 ≤ a0
    · by_cases h1 : 0 ≤ a1
      · have k : a1 ≤ 9223372036854775807 - a0 := by unfold limV wrap64 at h; omega
        have he : (wrap64 (a0 + a1) == a0 + a1) = true := by rw [beq_iff_eq]; unfold wrap64; omega
        go_enter Yba.func5, Yba.ntmps5
        go_wp2_with (first | (go_at_call 13; refine (due_lo _ _ _ h).mono ?_; rintro e w' ⟨rfl, rfl⟩) | (go_at_call 14; refine (HL _).mono ?_; rintro e w' ⟨rfl, rfl⟩))
        go_ret
        exact ⟨rfl, Grown.refl _⟩
      · have hn2 : (wrap64 (a0 + a1) != wrap64 (IntKind.u64.wrap (a0 + IntKind.u64.wrap a1))) = false := by
          rw [bne_eq_false_iff_eq, IntKind.wrap_u64, IntKind.wrap_u64]; unfold wrap64; omega
        clear hn
        go_enter Yba.func5, Yba.ntmps5
        go_wp2_with (first | (go_at_call 13; refine (due_lo _ _ _ h).mono ?_; rintro e w' ⟨rfl, rfl⟩) | (go_at_call 14; refine (HL _).mono ?_; rintro e w' ⟨rfl, rfl⟩))
        go_ret
        exact ⟨rfl, Grown.refl _⟩
    · go_enter Yba.func5, Yba.ntmps5
      go_wp2_with (first | (go_at_call 13; refine (due_lo _ _ _ h).mono ?_; rintro e w' ⟨rfl, rfl⟩) | (go_at_call 14; refine (HL _).mono ?_; rintro e w' ⟨rfl, rfl⟩))
      go_ret
      exact ⟨rfl, Grown.refl _⟩

/-! ### THE ROW's STEP: WRITTEN OUT: LEAVE IT -/
set_option maxRecDepth 100000 in
theorem lifted (os : Os) (started : os.Started) (H : Type) (enc : TypeId × Value → H) :
    ReturnsInHanded {} Yba.checked os 5 .any (Rows.lawS5532CWholeSpec.pre6 enc Yba.prog Yba.f5 Rows.lawS5532CWholeRow.domain false) (Rows.lawS5532CWholeSpec.post enc Yba.prog Yba.f5 false true false false) := by
  refine returnsInHanded_of_change (C := Yba.checked) own started (by kernel_rfl) Yba.func5
    (ChangeSpec.witness6 (enc := enc) (C := Yba.checked) false ⟨#[], #[.int .i64 0, .int .i64 0], []⟩ 8 (by kernel_rfl) (by kernel_rfl) (by kernel_rfl) (by kernel_rfl)) ?_
  intro W base args ds gs before hval0 hW hcnd _
  have hval : ∀ (j : Nat) t v, Yba.f5.params[j]? = some t → args[j]? = some v → Value.okWide Yba.prog W .any base t v := hval0
  have hW' := hW
  obtain ⟨p, q, hA0, hV, rfl, hfz, hnd⟩ := hW
  have hA : DataW.TrodAll enc Yba.prog W 0 (fun _ => true) true Yba.f5.params.toList args.toList ds p := hA0
  rw [Yba.params5] at hA hval
  obtain ⟨v0, vs0, d0, ds0, p0, q0, hargs, rfl, rfl, h0, r0⟩ := trodAll_cons hA
  obtain ⟨v1, vs1, d1, ds1, p1, q1, rfl, rfl, rfl, h1, r1⟩ := trodAll_cons r0
  obtain ⟨rfl, rfl, rfl⟩ := trodAll_nil r1
  obtain rfl : args = #[v0, v1] := by cases args; simp_all
  obtain ⟨rfl, rfl⟩ := trodVars_none hV
  obtain ⟨a0, rfl, rfl, rfl, w0⟩ := open_int Yba.underlying2 (hval 0 2 v0 rfl rfl) h0
  obtain ⟨a1, rfl, rfl, rfl, w1⟩ := open_int Yba.underlying2 (hval 1 2 v1 rfl rfl) h1
  clear hA0 hval0
  simp only [List.append_nil] at hW'
  refine (walk a0 a1 w0 w1 W).mono fun e W' ⟨he, hg⟩ => ?_
  subst he
  exact ⟨_, rfl, post_of_same (pa := []) (pv := []) hW' (fun _ _ _ => (trodAll_cons_mk (shut_bool Yba.underlying4 _) trodAll_mk0)) (fun sp _ => (trodAll_cons_mk (shut_int Yba.underlying2 w0) (trodAll_cons_mk (shut_int Yba.underlying2 w1) trodAll_mk0))) (fun _ _ => rfl) rfl
    (hg.frame _) hg.2.1 (ok_one (by kernel_rfl) rfl (okWide_bool_mk Yba.underlying4 _))⟩

theorem over : Rows.lawS5532CWholeRow.holds Yba.pinned (OpenSpec.ofChange Rows.lawS5532CWholeSpec) :=
  OpenClaim.holds_of_wide 5 Yba.f5 rfl rfl rfl rfl rfl rfl rfl ⟨rfl, rfl, rfl, rfl, rfl⟩ rfl rfl rfl rfl rfl (by kernel_rfl) Yba.func5 (by kernel_rfl)
    (of_decide_eq_true (by kernel_rfl)) (by unfold Func.isWrapper; first | (rw [if_pos (by decide +kernel)]; kernel_rfl) | (rw [if_neg (by decide +kernel)]; exact ⟨rfl, rfl⟩))
    (fun os started H enc _ => lifted os started H enc)

/-- ████ THE STATEMENT ████ -/
theorem proved : Rows.LawS5532CWholeSaid :=
  over
end Go.Proofs.Ybulkdjnu.lawS5532CWhole
