import Derived.Test.YbulkdjnuBuild
namespace Go.Proofs.Ybulkdjnu.lawS5532AWhole
open Go.RowKit Atomics
set_option maxHeartbeats 1000000 in
theorem walk_one (s0 s1 s2 s3 s4 s5 s6 : Int) (w : World) :
    Calls Yba.prog 3 #[.int .i64 (-1), .agg #[.int .i32 s0, .int .i32 s1, .int .i64 s2, .int .i64 s3, .int .u32 s4, .int .u32 s5, .int .u32 s6]] w fun e w' => e = .returned (.bool true) ∧ Below w.heap.size w w' := by
  have hs : Atomics.stored 0 = -1 := rfl
  have hb : bits .xor .i64 (-1) (-1) = 0 := not64 (-1) (by omega) (by omega)
  have hsg : IntKind.i64.signed = true := rfl
  go_enter Yba.func3, Yba.ntmps3
  go_wp2_with fail
  refine (build_cells s0 s1 s2 s3 s4 s5 s6 _).mono ?_
  rintro e w1 ⟨rfl, k1, b1⟩
  have HK : Hid (Cells w1 (w.heap.size + 1 + 1) s0 s1 s2 s3 s4 s5 s6) := show Cells w1 (w.heap.size + 1 + 1) s0 s1 s2 s3 s4 s5 s6 from by simpa using k1
  rw [World.size_alloc] at b1
  have HB : Hid (Below (w.heap.size + 1) _ w1) := b1
  clear k1 b1
  go_wp2_with fail
  refine (set_any (w.heap.size + 1 + 1) 0 (.int .i64 s2) w1 (by omega) HK.out.c7 (HK.out.fz 7)).mono ?_
  rintro e wx ⟨rfl, hw⟩
  have HX : Hid (Cells wx (w.heap.size + 1 + 1) s0 s1 (-1) s3 s4 s5 s6) := by rw [hw, hs]; exact HK.out.set (-1)
  have hb := HB.out.setCell (p := ⟨w.heap.size + 1 + 1, 7, none⟩) (by simp) (.int .i64 (Atomics.stored 0))
  rw [← hw] at hb
  clear HK HB hw hs
  have d0 : wx.cell? ⟨w.heap.size, 0, none⟩ = some (.int .i32 s0) := by rw [hb.cell (by simp)]; simp
  have d1 : wx.cell? ⟨w.heap.size, 1, none⟩ = some (.int .i32 s1) := by rw [hb.cell (by simp)]; simp
  have d3 : wx.cell? ⟨w.heap.size, 3, none⟩ = some (.int .i64 s3) := by rw [hb.cell (by simp)]; simp
  have d4 : wx.cell? ⟨w.heap.size, 4, none⟩ = some (.int .u32 s4) := by rw [hb.cell (by simp)]; simp
  have d5 : wx.cell? ⟨w.heap.size, 5, none⟩ = some (.int .u32 s5) := by rw [hb.cell (by simp)]; simp
  have d6 : wx.cell? ⟨w.heap.size, 6, none⟩ = some (.int .u32 s6) := by rw [hb.cell (by simp)]; simp
  have hE : Hid (Below w.heap.size w wx) := ((Below.refl _ _).alloc (Nat.le_refl _) _).trans (hb.mono (by simp))
  clear hb
  obtain ⟨c0, c1, c2, c3, c4, c5, c6, c7, c8, _⟩ := HX.out
  clear HX
  go_wp2_with fail
  go_quiet (first | (go_at_call 8; exact Calls.quiet_of_same (ld64 _ _ _ _ c7)) | (go_at_call 9; exact Calls.quiet_of_same (ld32 _ _ _ _ (by first | exact c0 | exact c1))) | (go_at_call 10; exact Calls.quiet_of_same (ldu32 _ _ _ _ (by first | exact c2 | exact c4))))
  go_wp2
  go_ret
  exact ⟨rfl, below_drewN hE.out _⟩
end Go.Proofs.Ybulkdjnu.lawS5532AWhole
