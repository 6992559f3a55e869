import Derived.Test.YbulkdjnuAtomics
import Derived.Deep.RegionWith
import Derived.BigRegion
import Derived.WalkSmall
import Derived.Deep.Draws
import Derived.Deep.QuietTactic
import Derived.BigQuiet
namespace Go.Proofs.Ybulkdjnu.lawS5532AWhole
open Go.RowKit Atomics
theorem build_any (s0 s1 s2 s3 s4 s5 s6 : Int) (w : World) :
    Calls Yba.prog 6 #[.agg #[.int .i32 s0, .int .i32 s1, .int .i64 s2, .int .i64 s3, .int .u32 s4, .int .u32 s5, .int .u32 s6]] w fun e w' => e = .returned (.pointer (some ⟨w.heap.size + 1, 0, none⟩)) ∧ 
      w' = ((w.alloc (.cells #[.int .i32 s0, .int .i32 s1, .int .i64 s2, .int .i64 s3, .int .u32 s4, .int .u32 s5, .int .u32 s6] 24)).alloc (.cells #[.int .i32 s0, .int .i32 s1, .int .u32 s6, .int .u32 s4, .int .u32 s5, .pointer none, .pointer none, .int .i64 s2, .int .i64 s3] 44)).drewN 5 := by
  go_enter Yba.func6, Yba.ntmps6
  go_wp2
  go_region_with (go_at_call 15; refine (st32 _ _ _ (.int .i32 0) _ (by simp) (by simp)).mono ?_; rintro e w' ⟨rfl, rfl⟩)
  go_wp2_with fail
  go_region_with (go_at_call 15; refine (st32 _ _ _ (.int .i32 0) _ (by simp) (by simp)).mono ?_; rintro e w' ⟨rfl, rfl⟩)
  go_wp2_with fail
  go_region_with (go_at_call 11; refine (st64 _ _ _ (.int .i64 0) _ (by simp) (by simp)).mono ?_; rintro e w' ⟨rfl, rfl⟩)
  go_wp2_with fail
  go_region_with (go_at_call 16; refine (stu32 _ _ _ (.int .u32 0) _ (by simp) (by simp)).mono ?_; rintro e w' ⟨rfl, rfl⟩)
  go_wp2_with fail
  go_region_with (go_at_call 16; refine (stu32 _ _ _ (.int .u32 0) _ (by simp) (by simp)).mono ?_; rintro e w' ⟨rfl, rfl⟩)
  go_wp2_with fail
  go_ret
  exact ⟨rfl, rfl⟩
/-- The Mutex's nine cells at block b. -/
structure Cells (w : World) (b : Nat) (s0 s1 s2 s3 s4 s5 s6 : Int) : Prop where
  c0 : w.cell? ⟨b, 0, none⟩ = some (.int .i32 s0)
  c1 : w.cell? ⟨b, 1, none⟩ = some (.int .i32 s1)
  c2 : w.cell? ⟨b, 2, none⟩ = some (.int .u32 s6)
  c3 : w.cell? ⟨b, 3, none⟩ = some (.int .u32 s4)
  c4 : w.cell? ⟨b, 4, none⟩ = some (.int .u32 s5)
  c5 : w.cell? ⟨b, 5, none⟩ = some (.pointer none)
  c6 : w.cell? ⟨b, 6, none⟩ = some (.pointer none)
  c7 : w.cell? ⟨b, 7, none⟩ = some (.int .i64 s2)
  c8 : w.cell? ⟨b, 8, none⟩ = some (.int .i64 s3)
  fz : ∀ j, w.frozen? ⟨b, j, none⟩ = false

theorem build_cells (s0 s1 s2 s3 s4 s5 s6 : Int) (w : World) :
    Calls Yba.prog 6 #[.agg #[.int .i32 s0, .int .i32 s1, .int .i64 s2, .int .i64 s3, .int .u32 s4, .int .u32 s5, .int .u32 s6]] w fun e w' => e = .returned (.pointer (some ⟨w.heap.size + 1, 0, none⟩)) ∧
      Cells w' (w.heap.size + 1) s0 s1 s2 s3 s4 s5 s6 ∧ Below w.heap.size w w' := by
  refine (build_any s0 s1 s2 s3 s4 s5 s6 w).mono ?_
  rintro e w' ⟨rfl, rfl⟩
  refine ⟨rfl, ⟨?_, ?_, ?_, ?_, ?_, ?_, ?_, ?_, ?_, fun j => ?_⟩, ?_⟩
  · simp
  · simp
  · simp
  · simp
  · simp
  · simp
  · simp
  · simp
  · simp
  · rw [World.frozen?_drewN]; exact World.frozen?_alloc_at _ _ _ _ (by simp)
  · exact below_drewN (((Below.refl _ _).alloc (Nat.le_refl _) _).alloc (by simp) _) 5
/-- Behind SetStarvationThreshold. -/
theorem Cells.set {w : World} {b : Nat} {s0 s1 s2 s3 s4 s5 s6 : Int} (h : Cells w b s0 s1 s2 s3 s4 s5 s6) (x : Int) : Cells (w.setCell ⟨b, 7, none⟩ (.int .i64 x)) b s0 s1 x s3 s4 s5 s6 := by
  refine ⟨?_, ?_, ?_, ?_, ?_, ?_, ?_, ?_, ?_, fun j => ?_⟩
  · rw [World.cell?_setCell_other _ _ _ _ (by simp)]; exact h.c0
  · rw [World.cell?_setCell_other _ _ _ _ (by simp)]; exact h.c1
  · rw [World.cell?_setCell_other _ _ _ _ (by simp)]; exact h.c2
  · rw [World.cell?_setCell_other _ _ _ _ (by simp)]; exact h.c3
  · rw [World.cell?_setCell_other _ _ _ _ (by simp)]; exact h.c4
  · rw [World.cell?_setCell_other _ _ _ _ (by simp)]; exact h.c5
  · rw [World.cell?_setCell_other _ _ _ _ (by simp)]; exact h.c6
  · exact World.cell?_setCell_same _ _ _ h.c7
  · rw [World.cell?_setCell_other _ _ _ _ (by simp)]; exact h.c8
  · rw [World.frozen?_setCell]; exact h.fz j
end Go.Proofs.Ybulkdjnu.lawS5532AWhole
