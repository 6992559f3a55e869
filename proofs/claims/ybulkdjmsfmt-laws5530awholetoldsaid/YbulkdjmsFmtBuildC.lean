import Derived.Test.YbulkdjmsFmtBuildB
import Derived.LoopTactic
import Derived.Outline
/-! zzs5530abuild: classes. -/
namespace Go.Proofs.YbulkdjmsFmt
open Go.RowKit Plain
set_option maxRecDepth 100000
set_option linter.unusedVariables false
set_option maxHeartbeats 1000000 in
theorem build_class (w : World) (sb so len cap pb p f : Nat) (dep : Int) (s : Stp) (hs : StpOk s) (hp : p < len) (hlen : len ≤ 1024) (hP : PosAt w pb p len) (hd0 : 0 ≤ dep)
   (s0 : w.cell? ⟨sb, so + p * 5, none⟩ = some (.int .u8 s.op)) (s1 : w.cell? ⟨sb, so + p * 5 + 1, none⟩ = some (.int .i32 s.r)) (s2 : w.cell? ⟨sb, so + p * 5 + 2, none⟩ = some (.int .u8 s.a)) (s3 : w.cell? ⟨sb, so + p * 5 + 3, none⟩ = some (.int .u8 s.b)) (s4 : w.cell? ⟨sb, so + p * 5 + 4, none⟩ = some (.bool s.lz)) (hop : s.op % 15 + 1 = 3) :
    Calls Ybaf.prog 4 #[.slice (some ⟨sb, so, none⟩) len cap, .pointer (some ⟨pb, 0, none⟩), .int .i64 dep] w fun e w' => BPost pb len (f + 1) w e w' := by
  obtain ⟨i0, hi, hz0, hz1, hz2⟩ := info_parts info55
  have hpos : w.cell? ⟨pb, 0, none⟩ = some (.int .i64 (p : Int)) := by rw [cell_of_heap hP.obj]; rfl
  have hpf : w.frozen? ⟨pb, 0, none⟩ = false := frozen_of_heap hP.obj
  have hpb : pb < w.heap.size := lt_of_heap hP.obj
  obtain ⟨hu, hr, ha, hb⟩ := hs
  obtain ⟨u, r, a, b, lz⟩ := s
  simp only at hu hr ha hb s0 s1 s2 s3 s4 hop
  obtain ⟨hu1, hu2⟩ := hu
  obtain ⟨hr1, hr2⟩ := hr
  obtain ⟨ha1, ha2⟩ := ha
  obtain ⟨hb1, hb2⟩ := hb
  obtain ⟨h1, h2, h3, h4⟩ := made hP hp #[.int .u8 u, .int .i32 r, .int .u8 a, .int .u8 b, .bool lz] #[.int .u8 3, .slice none 0 0, .int .i32 0, .slice none 0 0, .int .i64 0, .int .i64 0, .bool false, .int .i64 0, .string { data := #[] }]
  have HC : Hid (ClMid w pb (p + 1) len #[.int .u8 u, .int .i32 r, .int .u8 a, .int .u8 b, .bool lz] (.slice none 0 0) [] _) := ClMid.mk h1 (by rw [Below.heap_alloc _ _ _ (by simp)]; have := heap_new (w.setCell ⟨pb, 0, none⟩ (.int .i64 ((p : Int) + 1))) (.cells #[.int .u8 u, .int .i32 r, .int .u8 a, .int .u8 b, .bool lz] 53); rw [World.size_setCell] at this; exact this) ⟨rfl, .inl ⟨rfl, rfl⟩⟩ h2 h3 (by rw [h4]; exact Nat.le_refl _)
  obtain ⟨K, hK⟩ : ∃ K : Nat, a % 3 = (K : Int) := ⟨(a % 3).toNat, by omega⟩
  have HK := tuck hK
  have hK3 : K ≤ 2 := by omega
  clear h1 h2 h3 h4
  by_cases hd : dep < 5
  all_goals
    go_enter Ybaf.func4, Ybaf.ntmps4
    go_wp2
    try simp only [hK, decide_eq_false (Nat.not_le.2 hp)]
    go_loopw [11, 12] (fun lo i wr => ∃ (j : Nat) (l : Int) (rv : Value) (rs : List (Int × Int)), j ≤ K ∧ rs.length = j ∧ i = .int .i64 j ∧ lo = .int .i32 l ∧ ClMid w pb (p + 1) len #[.int .u8 u, .int .i32 r, .int .u8 a, .int .u8 b, .bool lz] rv rs wr) (fun _ i _ => K - (intOf i).toNat)
    case atStart => exact ⟨0, _, _, [], Nat.zero_le _, rfl, rfl, rfl, HC.out⟩
    case round =>
      obtain ⟨j, l, rv, rs, hj, hrs, rfl, rfl, hM⟩ := hrel
      by_cases hjK : j < K
      · have hjI : (j : Int) < (K : Int) := by omega
        have q3 : wr.cell? ⟨w.heap.size, 3, none⟩ = some (.int .u8 b) := by rw [cell_of_heap hM.step]; rfl
        obtain ⟨ra, rc, rfl⟩ := ownsRow_form hM.row
        have m3 : wr.cell? ⟨w.heap.size + 1, 3, none⟩ = some (.slice ra rs.length rc) := by rw [cell_of_heap hM.node]; rfl
        have mf : wr.frozen? ⟨w.heap.size + 1, 3, none⟩ = false := frozen_of_heap hM.node
        have hwz := hM.size
        have hsz1 : w.heap.size + 1 < wr.heap.size := by omega
        have hsz2 : w.heap.size + 1 < wr.heap.size + 1 := by omega
        have HM := tuck hM
        rw [hrs] at m3
        have HRo : Hid (∀ o : Obj, (wr.alloc o).ownsRow (w.heap.size + 2) 55 2 (.slice ra j rc) j (flat2 rs)) := fun o => by
          have := hM.row
          rw [hrs] at this
          exact this.alloc o
        clear hM
        have HL := tuck hwz
        go_wp2_with (at_builtin; refine wpList_append_some _ rfl (.tmp 86) (.tmp 90) 39 rfl (w.heap.size + 2) 55 i0 _ 2 8 Ybaf.underlying39 hi hz0 hz1 hz2 rfl (by decide) (.slice ra j rc) j _ rfl (HRo.out _) ⟨wr.heap.size, 0, none⟩ 1 1 [.int .i32 l, .int .i32 (wrap32 (l + b % 5))] rfl rfl (fun j u h => cells_of_new (X := #[.int .i32 l, .int .i32 (wrap32 (l + b % 5))]) (e := 55) h) (by simp [Value.oneCell']) (by unfold maxLen; omega) (by omega) (by have := HL.out; simp; omega) (by decide) ?_)
        intro g cap2 w2 ho hg hloc
        have hzz : wr.heap.size < (wr.alloc (.cells #[.int .i32 l, .int .i32 (wrap32 (l + b % 5))] 55)).heap.size := by simp
        obtain ⟨k1, k2⟩ := HM.out.grow l (wrap32 (l + b % 5)) hpb ((Chg.refl _ _).alloc _) (g := g) (cap := cap2) (by rw [hrs]; exact hg) (by rw [hrs]; exact ho) (by rw [hrs]; simpa using hloc)
        have q4 : w2.cell? ⟨w.heap.size + 1, 3, none⟩ = some (.slice ra j rc) := by rw [cell_of_heap k1, hrs]; rfl
        have q5 : w2.frozen? ⟨w.heap.size + 1, 3, none⟩ = false := frozen_of_heap k1
        rw [hrs] at k2
        have HE := tuck k2
        clear k1 k2 ho hg hloc hzz
        go_wp2
        go_roundw
        case rel => exact ⟨j + 1, _, _, rs ++ [(l, wrap32 (l + b % 5))], hjK, by simp [hrs], by go_num, rfl, HE.out⟩
        case measure => simp [intOf]; omega
      · have hjI : ¬ (j : Int) < (K : Int) := by omega
        have HM := tuck hM
        clear hM
        go_wp2
        go_ret
        exact HM.out.post
end Go.Proofs.YbulkdjmsFmt
