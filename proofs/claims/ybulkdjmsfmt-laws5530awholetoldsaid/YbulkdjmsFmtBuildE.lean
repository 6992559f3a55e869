import Derived.Test.YbulkdjmsFmtBuildD
import Derived.Deep.RegionLaw
/-! zzs5530abuild: repetitions. -/
namespace Go.Proofs.YbulkdjmsFmt
open Go.RowKit Plain
set_option maxRecDepth 100000
set_option linter.unusedVariables false
theorem PosAt.drew {w : World} {pb p len : Nat} (h : PosAt w pb p len) : PosAt w.drew pb p len := ⟨h.obj, h.le⟩
theorem build_rep3 (w : World) (sb so len cap pb p f : Nat) (dep : Int) (s : Stp) (hs : StpOk s) (hp : p < len) (hlen : len ≤ 1024) (hP : PosAt w pb p len) (hd0 : 0 ≤ dep)
   (s0 : w.cell? ⟨sb, so + p * 5, none⟩ = some (.int .u8 s.op)) (s1 : w.cell? ⟨sb, so + p * 5 + 1, none⟩ = some (.int .i32 s.r)) (s2 : w.cell? ⟨sb, so + p * 5 + 2, none⟩ = some (.int .u8 s.a)) (s3 : w.cell? ⟨sb, so + p * 5 + 3, none⟩ = some (.int .u8 s.b)) (s4 : w.cell? ⟨sb, so + p * 5 + 4, none⟩ = some (.bool s.lz)) (hd : dep < 5) (H : Hid (∀ (W : World) (q : Nat), PosAt W pb q len → Chg [pb] w W → Calls Ybaf.prog 4 #[.slice (some ⟨sb, so, none⟩) len cap, .pointer (some ⟨pb, 0, none⟩), .int .i64 (dep + 1)] W fun e w' => BPost pb len f W e w')) (hb3 : s.b % 4 = 3) (hop : s.op % 15 + 1 = 9) :
    Calls Ybaf.prog 4 #[.slice (some ⟨sb, so, none⟩) len cap, .pointer (some ⟨pb, 0, none⟩), .int .i64 dep] w fun e w' => BPost pb len (f + 1) w e w' := by
  have hpos : w.cell? ⟨pb, 0, none⟩ = some (.int .i64 (p : Int)) := by rw [cell_of_heap hP.obj]; rfl
  have hpf : w.frozen? ⟨pb, 0, none⟩ = false := frozen_of_heap hP.obj
  have hpb : pb < w.heap.size := lt_of_heap hP.obj
  obtain ⟨hu, hr, ha, hb⟩ := hs
  obtain ⟨u, r, a, b, lz⟩ := s
  simp only at hu hr ha hb s0 s1 s2 s3 s4 hop hb3
  obtain ⟨hu1, hu2⟩ := hu
  obtain ⟨hr1, hr2⟩ := hr
  obtain ⟨ha1, ha2⟩ := ha
  obtain ⟨hb1, hb2⟩ := hb
  have HM := tuck (made hP hp #[.int .u8 u, .int .i32 r, .int .u8 a, .int .u8 b, .bool lz] #[.int .u8 9, .slice none 0 0, .int .i32 0, .slice none 0 0, .int .i64 (a % 3), .int .i64 (-1), .bool lz, .int .i64 0, .string { data := #[] }])
  go_enter Ybaf.func4, Ybaf.ntmps4
  go_wp2_with fail
  refine (H.out _ _ HM.out.2.1 HM.out.2.2.1).mono ?_
  rintro e w1 ⟨c, rfl, hp⟩
  obtain ⟨k1, k2⟩ := one_post (f := f) HM.out.1 HM.out.2.2.1 HM.out.2.2.2 hpb hp.1 hp.2.1 hp.2.2 ⟨by simp, by simp, ⟨Int.emod_nonneg _ (by decide), by show a % 3 ≤ 2; omega⟩, .inl rfl, by simp, by simp, by simp, by simp⟩
  have q1 : w1.cell? ⟨w.heap.size + 1, 1, none⟩ = some (.slice none 0 0) := by rw [cell_of_heap k1]; rfl
  have q2 : w1.frozen? ⟨w.heap.size + 1, 1, none⟩ = false := frozen_of_heap k1
  have q3 : w.heap.size + 1 < w1.heap.size := lt_of_heap k1
  have HE := tuck k2
  clear k1 k2 hp
  go_wp2
  go_ret
  exact HE.out
theorem build_rep (w : World) (sb so len cap pb p f : Nat) (dep : Int) (s : Stp) (hs : StpOk s) (hp : p < len) (hlen : len ≤ 1024) (hP : PosAt w pb p len) (hd0 : 0 ≤ dep)
   (s0 : w.cell? ⟨sb, so + p * 5, none⟩ = some (.int .u8 s.op)) (s1 : w.cell? ⟨sb, so + p * 5 + 1, none⟩ = some (.int .i32 s.r)) (s2 : w.cell? ⟨sb, so + p * 5 + 2, none⟩ = some (.int .u8 s.a)) (s3 : w.cell? ⟨sb, so + p * 5 + 3, none⟩ = some (.int .u8 s.b)) (s4 : w.cell? ⟨sb, so + p * 5 + 4, none⟩ = some (.bool s.lz)) (hd : dep < 5) (H : Hid (∀ (W : World) (q : Nat), PosAt W pb q len → Chg [pb] w W → Calls Ybaf.prog 4 #[.slice (some ⟨sb, so, none⟩) len cap, .pointer (some ⟨pb, 0, none⟩), .int .i64 (dep + 1)] W fun e w' => BPost pb len f W e w')) (hb3 : ¬ s.b % 4 = 3) (hop : s.op % 15 + 1 = 9) :
    Calls Ybaf.prog 4 #[.slice (some ⟨sb, so, none⟩) len cap, .pointer (some ⟨pb, 0, none⟩), .int .i64 dep] w fun e w' => BPost pb len (f + 1) w e w' := by
  have hpos : w.cell? ⟨pb, 0, none⟩ = some (.int .i64 (p : Int)) := by rw [cell_of_heap hP.obj]; rfl
  have hpf : w.frozen? ⟨pb, 0, none⟩ = false := frozen_of_heap hP.obj
  have hpb : pb < w.heap.size := lt_of_heap hP.obj
  obtain ⟨hu, hr, ha, hb⟩ := hs
  obtain ⟨u, r, a, b, lz⟩ := s
  simp only at hu hr ha hb s0 s1 s2 s3 s4 hop hb3
  obtain ⟨hu1, hu2⟩ := hu
  obtain ⟨hr1, hr2⟩ := hr
  obtain ⟨ha1, ha2⟩ := ha
  obtain ⟨hb1, hb2⟩ := hb
  have HM := tuck (made hP hp #[.int .u8 u, .int .i32 r, .int .u8 a, .int .u8 b, .bool lz] #[.int .u8 9, .slice none 0 0, .int .i32 0, .slice none 0 0, .int .i64 (a % 3), .int .i64 (a % 3 + b % 4), .bool lz, .int .i64 0, .string { data := #[] }])
  go_enter Ybaf.func4, Ybaf.ntmps4
  go_wp2_with fail
  go_region
  go_wp2_with fail
  refine (H.out (World.drew _) (p + 1) HM.out.2.1.drew HM.out.2.2.1.drew).mono ?_
  rintro e w1 ⟨c, rfl, hp⟩
  obtain ⟨k1, k2⟩ := one_post (f := f) (W := World.drew _) HM.out.1 HM.out.2.2.1.drew HM.out.2.2.2 hpb hp.1 hp.2.1 hp.2.2 ⟨by simp, by simp, ⟨Int.emod_nonneg _ (by decide), by show a % 3 ≤ 2; omega⟩, .inr ⟨by show a % 3 ≤ a % 3 + b % 4; omega, by show a % 3 + b % 4 ≤ a % 3 + 2; omega⟩, by simp, by simp, by simp, by simp⟩
  have q1 : w1.cell? ⟨w.heap.size + 1, 1, none⟩ = some (.slice none 0 0) := by rw [cell_of_heap k1]; rfl
  have q2 : w1.frozen? ⟨w.heap.size + 1, 1, none⟩ = false := frozen_of_heap k1
  have q3 : w.heap.size + 1 < w1.heap.size := lt_of_heap k1
  have HE := tuck k2
  clear k1 k2 hp
  go_wp2
  go_ret
  exact HE.out
end Go.Proofs.YbulkdjmsFmt
