/-
  PROOF OF 'Rows.LawS5528CWholeSaid': the tool's shell (proof-skeleton.mjs) with the walk filled in.
-/
import Derived.Test.YbulkdjlqRows
import Derived.WalkKit
import Derived.ProofKit
import Derived.OpenShut
import Derived.ShutString
namespace Go.Proofs.Ybulkdjlq.lawS5528CWhole
open Go.ChangeShapes Go.WideShapes Go.ChangeAt Go.RowKit
open Go.ChangeMaps (open_string shut_string)
set_option linter.unusedVariables false      -- a walk need not use every 'w<i>' (that an integer argument fits its kind)

theorem own : ownKnob Yba.prog.godebug = none := by kernel_rfl

/-- The ten cells of the Config that DefaultConfig returns. -/
def cfg : Array Value := #[.int .i64 100, .int .i64 300000000000, .int .i64 600000000000, .int .i64 10, .int .i64 300000000000, .int .i64 3600000000000, .int .i64 64, .int .u64 0, .int .u64 0, .pointer none]

/-- DefaultConfig's contract. -/
theorem dflt (w : World) :
    Calls Yba.prog 4 #[] w fun e w' => e = .returned (.agg cfg) ∧ w' = w.alloc (.cells cfg 34) := by
  go_enter Yba.func4, Yba.ntmps4
  go_wp2
  exact bodyPost_ret (v := .agg cfg) (by simp [results, Yba.results4, go_sem, cfg]) rfl ⟨rfl, rfl⟩

/-! ### STEP 1: THE WALK: the Go text returns true. -/
theorem walk  (w : World) :
    Calls Yba.prog 3 #[] w fun e w' => e = .returned (.bool true) ∧ Grown w w' := by
  have hnil : ∀ w, (Op.equalIn 9997 28 (Value.pointer none) (Value.pointer none)).run Yba.prog w = .ok true w := fun _ => by kernel_rfl
  go_enter Yba.func3, Yba.ntmps3
  go_wp2_with (go_at_call 4; refine (dflt _).mono ?_; rintro e w' ⟨rfl, rfl⟩; unfold cfg)
  go_ret
  exact ⟨rfl, by repeat (first | exact Grown.refl _ | apply Grown.drew | apply Grown.alloc)⟩

/-! ### THE ROW's STEP: WRITTEN OUT: LEAVE IT -/
set_option maxRecDepth 100000 in
theorem lifted (os : Os) (started : os.Started) (H : Type) (enc : TypeId × Value → H) :
    ReturnsInHanded {} Yba.checked os 3 .any (Rows.lawS5528CWholeSpec.pre6 enc Yba.prog Yba.f3 Rows.lawS5528CWholeRow.domain false) (Rows.lawS5528CWholeSpec.post enc Yba.prog Yba.f3 false true false false) := by
  refine returnsInHanded_of_change (C := Yba.checked) own started (by kernel_rfl) Yba.func3
    (ChangeSpec.witness6 (enc := enc) (C := Yba.checked) false ⟨#[], #[], []⟩ 8 (by kernel_rfl) (by kernel_rfl) (by kernel_rfl) (by kernel_rfl)) ?_
  intro W base args ds gs before hval0 hW hcnd _
  have hval : ∀ (j : Nat) t v, Yba.f3.params[j]? = some t → args[j]? = some v → Value.okWide Yba.prog W .any base t v := hval0
  have hW' := hW
  obtain ⟨p, q, hA0, hV, rfl, hfz, hnd⟩ := hW
  have hA : DataW.TrodAll enc Yba.prog W 0 (fun _ => true) true Yba.f3.params.toList args.toList ds p := hA0
  rw [Yba.params3] at hA hval
  obtain ⟨rfl, rfl, rfl⟩ := trodAll_none hA
  obtain ⟨rfl, rfl⟩ := trodVars_none hV
  clear hA0 hval0
  simp only [List.append_nil] at hW'
  refine (walk  W).mono fun e W' ⟨he, hg⟩ => ?_
  subst he
  exact ⟨_, rfl, post_of_same (pa := []) (pv := []) hW' (fun _ _ _ => (trodAll_cons_mk (shut_bool Yba.underlying4 _) trodAll_mk0)) (fun sp _ => rfl) (fun _ _ => rfl) rfl
    (hg.frame _) hg.2.1 (ok_one (by kernel_rfl) rfl (okWide_bool_mk Yba.underlying4 _))⟩

theorem over : Rows.lawS5528CWholeRow.holds Yba.pinned (OpenSpec.ofChange Rows.lawS5528CWholeSpec) :=
  OpenClaim.holds_of_wide 3 Yba.f3 rfl rfl rfl rfl rfl rfl rfl ⟨rfl, rfl, rfl, rfl, rfl⟩ rfl rfl rfl rfl rfl (by kernel_rfl) Yba.func3 (by kernel_rfl)
    (of_decide_eq_true (by kernel_rfl)) (by unfold Func.isWrapper; first | (rw [if_pos (by decide +kernel)]; kernel_rfl) | (rw [if_neg (by decide +kernel)]; exact ⟨rfl, rfl⟩))
    (fun os started H enc _ => lifted os started H enc)

/-- ████ THE STATEMENT ████ -/
theorem proved : Rows.LawS5528CWholeSaid :=
  over
end Go.Proofs.Ybulkdjlq.lawS5528CWhole
