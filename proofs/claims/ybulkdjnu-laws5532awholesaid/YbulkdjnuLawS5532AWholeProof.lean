import Derived.Test.YbulkdjnuWhole1
import Derived.Test.YbulkdjnuWhole2
import Derived.Test.YbulkdjnuWhole3
import Derived.Test.YbulkdjnuWhole4
import Derived.WalkKit
import Derived.ProofKit
import Derived.OpenShut
import Derived.ShutString
import Derived.ChangeOld
import Derived.Below
namespace Go.Proofs.Ybulkdjnu.lawS5532AWhole
open Go.ChangeShapes Go.WideShapes Go.ChangeAt Go.RowKit
theorem array7 {α : Type} {cs : Array α} (h : cs.size = 7) : ∃ c0 c1 c2 c3 c4 c5 c6, cs = #[c0, c1, c2, c3, c4, c5, c6] := by
  obtain ⟨l⟩ := cs
  match l, h with
  | [c0, c1, c2, c3, c4, c5, c6], _ => exact ⟨c0, c1, c2, c3, c4, c5, c6, rfl⟩
theorem cells24 : Yba.prog.cellsOf 24 = 7 := by kernel_rfl
theorem field_int {H : Type} {enc : TypeId × Value → H} {P : Program} {w : World} {base : Nat} {spare : Nat → Bool} {held : Bool} {n : Nat} {t : TypeId} {k : IntKind} {c : Value} {y : Option (DataW H × List MemPlace)}
    (ht : P.underlying t = some (.int k)) (h : DataW.trod enc P w base spare held n t [c] = y) (hy : y.isSome = true) : ∃ a, c = .int k a := by
  obtain ⟨x, rfl⟩ := Option.isSome_iff_exists.1 hy
  obtain ⟨a, e, _, _⟩ := DataW.trod_int ht h
  exact ⟨a, by simpa using e⟩
theorem open_state {H : Type} {enc : TypeId × Value → H} {W : World} {r : Reach} {b0 base : Nat} {spare : Nat → Bool} {held : Bool} {v : Value} {d : DataW H} {p : List MemPlace}
    (hv : Value.okWide Yba.prog W r b0 24 v) (h : DataW.Trod enc Yba.prog W base spare held 24 v d p) :
    ∃ s0 s1 s2 s3 s4 s5 s6 : Int, v = .agg #[.int .i32 s0, .int .i32 s1, .int .i64 s2, .int .i64 s3, .int .u32 s4, .int .u32 s5, .int .u32 s6] := by
  obtain ⟨cs, rfl, hsz⟩ := okWide_struct Yba.underlying24 hv
  obtain ⟨c0, c1, c2, c3, c4, c5, c6, rfl⟩ := array7 (hsz.trans cells24)
  obtain ⟨fuel, hf⟩ := h
  obtain ⟨xs, n, _, _, _, hlen, hfld⟩ := DataW.trod_struct Yba.underlying24 hf
  have hl : xs.length = 7 := hlen
  have g0 := hfld 0 _ rfl
  have g1 := hfld 1 _ rfl
  have g2 := hfld 2 _ rfl
  have g3 := hfld 3 _ rfl
  have g4 := hfld 4 _ rfl
  have g5 := hfld 5 _ rfl
  have g6 := hfld 6 _ rfl
  obtain ⟨s0, rfl⟩ := field_int Yba.underlying21 g0 (by simp [hl])
  obtain ⟨s1, rfl⟩ := field_int Yba.underlying21 g1 (by simp [hl])
  obtain ⟨s2, rfl⟩ := field_int Yba.underlying2 g2 (by simp [hl])
  obtain ⟨s3, rfl⟩ := field_int Yba.underlying2 g3 (by simp [hl])
  obtain ⟨s4, rfl⟩ := field_int Yba.underlying22 g4 (by simp [hl])
  obtain ⟨s5, rfl⟩ := field_int Yba.underlying22 g5 (by simp [hl])
  obtain ⟨s6, rfl⟩ := field_int Yba.underlying22 g6 (by simp [hl])
  exact ⟨s0, s1, s2, s3, s4, s5, s6, rfl⟩

theorem own : ownKnob Yba.prog.godebug = none := by kernel_rfl
theorem laidOut : laidOutB Yba.prog = true := by kernel_rfl

/-- THE WALK, whatever d. -/
theorem walk (a0 s0 s1 s2 s3 s4 s5 s6 : Int) (w0 : (Lit.int .i64 a0).wf = true) (w : World) :
    Calls Yba.prog 3 #[.int .i64 a0, .agg #[.int .i32 s0, .int .i32 s1, .int .i64 s2, .int .i64 s3, .int .u32 s4, .int .u32 s5, .int .u32 s6]] w fun e w' => e = .returned (.bool true) ∧ Below w.heap.size w w' := by
  simp only [Lit.wf, IntKind.min, IntKind.max, IntKind.signed, IntKind.bits, Bool.and_eq_true, decide_eq_true_eq, if_true] at w0
  by_cases h0 : 0 < a0
  · exact walk_pos a0 s0 s1 s2 s3 s4 s5 s6 w h0
  · by_cases hz : a0 = 0
    · rw [hz]; exact walk_zero s0 s1 s2 s3 s4 s5 s6 w
    · by_cases h1 : a0 = -1
      · rw [h1]; exact walk_one s0 s1 s2 s3 s4 s5 s6 w
      · exact walk_neg a0 (-1 - a0) s0 s1 s2 s3 s4 s5 s6 w (by omega) (Atomics.not64 a0 (by omega) (by omega)) (by omega)

set_option maxRecDepth 100000 in
theorem lifted (os : Os) (started : os.Started) (H : Type) (enc : TypeId × Value → H) :
    ReturnsInHanded {} Yba.checked os 3 .any (Rows.lawS5532AWholeSpec.pre6 enc Yba.prog Yba.f3 Rows.lawS5532AWholeRow.domain false) (Rows.lawS5532AWholeSpec.post enc Yba.prog Yba.f3 false true false false) := by
  refine returnsInHanded_of_change (C := Yba.checked) own started (by kernel_rfl) Yba.func3
    (ChangeSpec.witness6 (enc := enc) (C := Yba.checked) false ⟨#[], #[.int .i64 0, .agg #[.int .i32 0, .int .i32 0, .int .i64 0, .int .i64 0, .int .u32 0, .int .u32 0, .int .u32 0]], []⟩ 8 (by kernel_rfl) (by kernel_rfl) (by kernel_rfl) (by kernel_rfl)) ?_
  intro W base args ds gs before hval0 hW hcnd _
  have hval : ∀ (j : Nat) t v, Yba.f3.params[j]? = some t → args[j]? = some v → Value.okWide Yba.prog W .any base t v := hval0
  have hW' := hW
  obtain ⟨p, q, hA0, hV, rfl, hfz, hnd⟩ := hW
  have hA : DataW.TrodAll enc Yba.prog W 0 (fun _ => true) true Yba.f3.params.toList args.toList ds p := hA0
  rw [Yba.params3] at hA hval
  obtain ⟨v0, vs0, d0, ds0, p0, q0, hargs, rfl, rfl, h0, r0⟩ := trodAll_cons hA
  obtain ⟨v1, vs1, d1, ds1, p1, q1, rfl, rfl, rfl, h1, r1⟩ := trodAll_cons r0
  obtain ⟨rfl, rfl, rfl⟩ := trodAll_nil r1
  obtain rfl : args = #[v0, v1] := by cases args; simp_all
  obtain ⟨rfl, rfl⟩ := trodVars_none hV
  have k1 := h1
  have lt1 : ∀ x ∈ p1, x.block < W.heap.size := by obtain ⟨m, hm⟩ := k1; exact DataW.trod_lt m _ _ _ hm
  obtain ⟨a0, rfl, rfl, rfl, w0⟩ := open_int Yba.underlying2 (hval 0 2 v0 rfl rfl) h0
  obtain ⟨s0, s1, s2, s3, s4, s5, s6, rfl⟩ := open_state (hval 1 24 v1 rfl rfl) h1
  clear hA0 hval0
  refine (walk a0 s0 s1 s2 s3 s4 s5 s6 w0 W).mono fun e W' ⟨he, bel⟩ => ?_
  subst he
  exact ⟨_, rfl, _, _, _, [], _, [], hW', trodAll_mk1 (shut_bool Yba.underlying4 _), (trodAll_cons_mk (shut_int Yba.underlying2 w0) (trodAll_cons_mk (Below.trod laidOut (by kernel_rfl) (of_decide_eq_true (by kernel_rfl)) k1 bel lt1) trodAll_mk0)), rfl, bel.frame _, fun h => by cases h⟩

theorem over : Rows.lawS5532AWholeRow.holds Yba.pinned (OpenSpec.ofChange Rows.lawS5532AWholeSpec) :=
  OpenClaim.holds_of_wide 3 Yba.f3 rfl rfl rfl rfl rfl rfl rfl ⟨rfl, rfl, rfl, rfl, rfl⟩ rfl rfl rfl rfl rfl (by kernel_rfl) Yba.func3 (by kernel_rfl)
    (of_decide_eq_true (by kernel_rfl)) (by unfold Func.isWrapper; first | (rw [if_pos (by decide +kernel)]; kernel_rfl) | (rw [if_neg (by decide +kernel)]; exact ⟨rfl, rfl⟩))
    (fun os started H enc _ => lifted os started H enc)

/-- THE STATEMENT -/
theorem proved : Rows.LawS5532AWholeSaid := over
end Go.Proofs.Ybulkdjnu.lawS5532AWhole
