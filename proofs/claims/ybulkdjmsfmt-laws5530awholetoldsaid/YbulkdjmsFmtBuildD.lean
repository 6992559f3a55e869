import Derived.Test.YbulkdjmsFmtBuildC
/-! zzs5530abuild: nodes with one child. -/
namespace Go.Proofs.YbulkdjmsFmt
open Go.RowKit Plain
set_option maxRecDepth 100000
set_option linter.unusedVariables false
theorem one_post {w W w1 : World} {pb len f c : Nat} {op mn mx cp : Int} {lz : Bool} (hN : W.heap[w.heap.size + 1]? = some (.cells #[.int .u8 op, .slice none 0 0, .int .i32 0, .slice none 0 0, .int .i64 mn, .int .i64 mx, .bool lz, .int .i64 cp, .string { data := #[] }] 51 (0, 0)))
    (hc : Chg [pb] w W) (hz : W.heap.size = w.heap.size + 2) (hpb : pb < w.heap.size) (hT : TrIn w1 W.heap.size w1.heap.size f c) (hp : ∃ p', PosAt w1 pb p' len) (hc1 : Chg [pb] W w1) (hok : NdOk ⟨op, [c], 0, [], mn, mx, lz, cp⟩) :
    w1.heap[w.heap.size + 1]? = some (.cells #[.int .u8 op, .slice none 0 0, .int .i32 0, .slice none 0 0, .int .i64 mn, .int .i64 mx, .bool lz, .int .i64 cp, .string { data := #[] }] 51 (0, 0)) ∧
    BPost pb len (f + 1) w (.returned (.pointer (some ⟨w.heap.size + 1, 0, none⟩))) ((w1.setCell ⟨w.heap.size + 1, 1, none⟩ (.slice (some ⟨w1.heap.size, 0, none⟩) 1 1)).alloc (.cells #[.pointer (some ⟨c, 0, none⟩)] 23)) := by
  have hn1 := (hc1.block (w.heap.size + 1) (by omega) (by simp; omega)).trans hN
  have hs1 := hc1.size
  have hold : ∀ k, k < w1.heap.size → ((w1.setCell ⟨w.heap.size + 1, 1, none⟩ (.slice (some ⟨w1.heap.size, 0, none⟩) 1 1)).alloc (.cells #[.pointer (some ⟨c, 0, none⟩)] 23)).heap[k]? = (w1.setCell ⟨w.heap.size + 1, 1, none⟩ (.slice (some ⟨w1.heap.size, 0, none⟩) 1 1)).heap[k]? := fun k hk => Below.heap_alloc _ _ _ (by simpa using hk)
  have hne : ∀ k, k < w1.heap.size → k ≠ w.heap.size + 1 → ((w1.setCell ⟨w.heap.size + 1, 1, none⟩ (.slice (some ⟨w1.heap.size, 0, none⟩) 1 1)).alloc (.cells #[.pointer (some ⟨c, 0, none⟩)] 23)).heap[k]? = w1.heap[k]? := fun k hk hk2 => (hold k hk).trans (Below.heap_setCell _ ⟨w.heap.size + 1, 1, none⟩ _ k hk2)
  have hnew : ((w1.setCell ⟨w.heap.size + 1, 1, none⟩ (.slice (some ⟨w1.heap.size, 0, none⟩) 1 1)).alloc (.cells #[.pointer (some ⟨c, 0, none⟩)] 23)).heap[w1.heap.size]? = some (.cells #[.pointer (some ⟨c, 0, none⟩)] 23 (0, 0)) := by
    have := heap_new (w1.setCell ⟨w.heap.size + 1, 1, none⟩ (.slice (some ⟨w1.heap.size, 0, none⟩) 1 1)) (.cells #[.pointer (some ⟨c, 0, none⟩)] 23)
    rw [World.size_setCell] at this
    exact this
  have hsz : ((w1.setCell ⟨w.heap.size + 1, 1, none⟩ (.slice (some ⟨w1.heap.size, 0, none⟩) 1 1)).alloc (.cells #[.pointer (some ⟨c, 0, none⟩)] 23)).heap.size = w1.heap.size + 1 := by simp
  have hcl : W.heap.size ≤ c := by
    cases f with
    | zero => exact hT.elim
    | succ f => exact hT.1
  have hNd : NodeAt ((w1.setCell ⟨w.heap.size + 1, 1, none⟩ (.slice (some ⟨w1.heap.size, 0, none⟩) 1 1)).alloc (.cells #[.pointer (some ⟨c, 0, none⟩)] 23)) (w.heap.size + 1) ⟨op, [c], 0, [], mn, mx, lz, cp⟩ (.slice (some ⟨w1.heap.size, 0, none⟩) 1 1) (.slice none 0 0) (.string { data := #[] }) := by
    refine ⟨by rw [hold _ (by omega), heap_setCell_same hn1]; rfl, .inr ⟨w1.heap.size, 1, #[.pointer (some ⟨c, 0, none⟩)], rfl, Nat.le_refl _, by decide, hnew, fun j d hj => ?_⟩, .inl ⟨rfl, rfl⟩, hok⟩
    cases j with
    | zero => simp at hj; subst hj; rfl
    | succ j => simp at hj
  refine ⟨hn1, _, rfl, TrIn.mk (by omega) (by rw [hsz]; omega) hNd (fun k hk => ?_) (inR_nil _ _) (fun d hd => ?_), ?_, ?_⟩
  · simp [Value.ownBlock] at hk
    rw [hsz]; omega
  · simp at hd
    subst hd
    exact ⟨by omega, hT.keep (by omega) (by rw [hsz]; omega) (fun k h1 h2 => hne k h2 (by omega))⟩
  · obtain ⟨p', h1, h2⟩ := hp
    exact ⟨p', by rw [hne _ (by omega) (by omega)]; exact h1, h2⟩
  · exact ((hc.trans hc1 (fun k hk => .inl hk)).setCell (.inr (by show w.heap.size ≤ w.heap.size + 1; omega)) _).alloc _
theorem build_cap (w : World) (sb so len cap pb p f : Nat) (dep : Int) (s : Stp) (hs : StpOk s) (hp : p < len) (hlen : len ≤ 1024) (hP : PosAt w pb p len) (hd0 : 0 ≤ dep)
   (s0 : w.cell? ⟨sb, so + p * 5, none⟩ = some (.int .u8 s.op)) (s1 : w.cell? ⟨sb, so + p * 5 + 1, none⟩ = some (.int .i32 s.r)) (s2 : w.cell? ⟨sb, so + p * 5 + 2, none⟩ = some (.int .u8 s.a)) (s3 : w.cell? ⟨sb, so + p * 5 + 3, none⟩ = some (.int .u8 s.b)) (s4 : w.cell? ⟨sb, so + p * 5 + 4, none⟩ = some (.bool s.lz)) (hd : dep < 5) (H : Hid (∀ (W : World) (q : Nat), PosAt W pb q len → Chg [pb] w W → Calls Ybaf.prog 4 #[.slice (some ⟨sb, so, none⟩) len cap, .pointer (some ⟨pb, 0, none⟩), .int .i64 (dep + 1)] W fun e w' => BPost pb len f W e w')) (hop : s.op % 15 + 1 = 8) :
    Calls Ybaf.prog 4 #[.slice (some ⟨sb, so, none⟩) len cap, .pointer (some ⟨pb, 0, none⟩), .int .i64 dep] w fun e w' => BPost pb len (f + 1) w e w' := by
  have hpos : w.cell? ⟨pb, 0, none⟩ = some (.int .i64 (p : Int)) := by rw [cell_of_heap hP.obj]; rfl
  have hpf : w.frozen? ⟨pb, 0, none⟩ = false := frozen_of_heap hP.obj
  have hpb : pb < w.heap.size := lt_of_heap hP.obj
  obtain ⟨hu, hr, ha, hb⟩ := hs
  obtain ⟨u, r, a, b, lz⟩ := s
  simp only at hu hr ha hb s0 s1 s2 s3 s4 hop
  obtain ⟨hu1, hu2⟩ := hu
  obtain ⟨hr1, hr2⟩ := hr
  obtain ⟨ha1, ha2⟩ := ha
  obtain ⟨hb1, hb2⟩ := hb
  have HM := tuck (made hP hp #[.int .u8 u, .int .i32 r, .int .u8 a, .int .u8 b, .bool lz] #[.int .u8 8, .slice none 0 0, .int .i32 0, .slice none 0 0, .int .i64 (0), .int .i64 (0), .bool false, .int .i64 a, .string { data := #[] }])
  go_enter Ybaf.func4, Ybaf.ntmps4
  go_wp2_with fail
  refine (H.out _ _ HM.out.2.1 HM.out.2.2.1).mono ?_
  rintro e w1 ⟨c, rfl, hp⟩
  obtain ⟨k1, k2⟩ := one_post (f := f) HM.out.1 HM.out.2.2.1 HM.out.2.2.2 hpb hp.1 hp.2.1 hp.2.2 (by refine ⟨by simp, by simp, by simp, .inr (by simp), ?_, ?_, ?_, ?_⟩ <;> simp <;> omega)
  have q1 : w1.cell? ⟨w.heap.size + 1, 1, none⟩ = some (.slice none 0 0) := by rw [cell_of_heap k1]; rfl
  have q2 : w1.frozen? ⟨w.heap.size + 1, 1, none⟩ = false := frozen_of_heap k1
  have q3 : w.heap.size + 1 < w1.heap.size := lt_of_heap k1
  have HE := tuck k2
  clear k1 k2 hp
  go_wp2
  go_ret
  exact HE.out
theorem build_lb (w : World) (sb so len cap pb p f : Nat) (dep : Int) (s : Stp) (hs : StpOk s) (hp : p < len) (hlen : len ≤ 1024) (hP : PosAt w pb p len) (hd0 : 0 ≤ dep)
   (s0 : w.cell? ⟨sb, so + p * 5, none⟩ = some (.int .u8 s.op)) (s1 : w.cell? ⟨sb, so + p * 5 + 1, none⟩ = some (.int .i32 s.r)) (s2 : w.cell? ⟨sb, so + p * 5 + 2, none⟩ = some (.int .u8 s.a)) (s3 : w.cell? ⟨sb, so + p * 5 + 3, none⟩ = some (.int .u8 s.b)) (s4 : w.cell? ⟨sb, so + p * 5 + 4, none⟩ = some (.bool s.lz)) (hd : dep < 5) (H : Hid (∀ (W : World) (q : Nat), PosAt W pb q len → Chg [pb] w W → Calls Ybaf.prog 4 #[.slice (some ⟨sb, so, none⟩) len cap, .pointer (some ⟨pb, 0, none⟩), .int .i64 (dep + 1)] W fun e w' => BPost pb len f W e w')) (hop : s.op % 15 + 1 = 12) :
    Calls Ybaf.prog 4 #[.slice (some ⟨sb, so, none⟩) len cap, .pointer (some ⟨pb, 0, none⟩), .int .i64 dep] w fun e w' => BPost pb len (f + 1) w e w' := by
  have hpos : w.cell? ⟨pb, 0, none⟩ = some (.int .i64 (p : Int)) := by rw [cell_of_heap hP.obj]; rfl
  have hpf : w.frozen? ⟨pb, 0, none⟩ = false := frozen_of_heap hP.obj
  have hpb : pb < w.heap.size := lt_of_heap hP.obj
  obtain ⟨hu, hr, ha, hb⟩ := hs
  obtain ⟨u, r, a, b, lz⟩ := s
  simp only at hu hr ha hb s0 s1 s2 s3 s4 hop
  obtain ⟨hu1, hu2⟩ := hu
  obtain ⟨hr1, hr2⟩ := hr
  obtain ⟨ha1, ha2⟩ := ha
  obtain ⟨hb1, hb2⟩ := hb
  have HM := tuck (made hP hp #[.int .u8 u, .int .i32 r, .int .u8 a, .int .u8 b, .bool lz] #[.int .u8 12, .slice none 0 0, .int .i32 0, .slice none 0 0, .int .i64 (0), .int .i64 (0), .bool false, .int .i64 0, .string { data := #[] }])
  go_enter Ybaf.func4, Ybaf.ntmps4
  go_wp2_with fail
  refine (H.out _ _ HM.out.2.1 HM.out.2.2.1).mono ?_
  rintro e w1 ⟨c, rfl, hp⟩
  obtain ⟨k1, k2⟩ := one_post (f := f) HM.out.1 HM.out.2.2.1 HM.out.2.2.2 hpb hp.1 hp.2.1 hp.2.2 (by refine ⟨by simp, by simp, by simp, .inr (by simp), ?_, ?_, ?_, ?_⟩ <;> simp <;> omega)
  have q1 : w1.cell? ⟨w.heap.size + 1, 1, none⟩ = some (.slice none 0 0) := by rw [cell_of_heap k1]; rfl
  have q2 : w1.frozen? ⟨w.heap.size + 1, 1, none⟩ = false := frozen_of_heap k1
  have q3 : w.heap.size + 1 < w1.heap.size := lt_of_heap k1
  have HE := tuck k2
  clear k1 k2 hp
  go_wp2
  go_ret
  exact HE.out
theorem build_nlb (w : World) (sb so len cap pb p f : Nat) (dep : Int) (s : Stp) (hs : StpOk s) (hp : p < len) (hlen : len ≤ 1024) (hP : PosAt w pb p len) (hd0 : 0 ≤ dep)
   (s0 : w.cell? ⟨sb, so + p * 5, none⟩ = some (.int .u8 s.op)) (s1 : w.cell? ⟨sb, so + p * 5 + 1, none⟩ = some (.int .i32 s.r)) (s2 : w.cell? ⟨sb, so + p * 5 + 2, none⟩ = some (.int .u8 s.a)) (s3 : w.cell? ⟨sb, so + p * 5 + 3, none⟩ = some (.int .u8 s.b)) (s4 : w.cell? ⟨sb, so + p * 5 + 4, none⟩ = some (.bool s.lz)) (hd : dep < 5) (H : Hid (∀ (W : World) (q : Nat), PosAt W pb q len → Chg [pb] w W → Calls Ybaf.prog 4 #[.slice (some ⟨sb, so, none⟩) len cap, .pointer (some ⟨pb, 0, none⟩), .int .i64 (dep + 1)] W fun e w' => BPost pb len f W e w')) (hop : s.op % 15 + 1 = 13) :
    Calls Ybaf.prog 4 #[.slice (some ⟨sb, so, none⟩) len cap, .pointer (some ⟨pb, 0, none⟩), .int .i64 dep] w fun e w' => BPost pb len (f + 1) w e w' := by
  have hpos : w.cell? ⟨pb, 0, none⟩ = some (.int .i64 (p : Int)) := by rw [cell_of_heap hP.obj]; rfl
  have hpf : w.frozen? ⟨pb, 0, none⟩ = false := frozen_of_heap hP.obj
  have hpb : pb < w.heap.size := lt_of_heap hP.obj
  obtain ⟨hu, hr, ha, hb⟩ := hs
  obtain ⟨u, r, a, b, lz⟩ := s
  simp only at hu hr ha hb s0 s1 s2 s3 s4 hop
  obtain ⟨hu1, hu2⟩ := hu
  obtain ⟨hr1, hr2⟩ := hr
  obtain ⟨ha1, ha2⟩ := ha
  obtain ⟨hb1, hb2⟩ := hb
  have HM := tuck (made hP hp #[.int .u8 u, .int .i32 r, .int .u8 a, .int .u8 b, .bool lz] #[.int .u8 13, .slice none 0 0, .int .i32 0, .slice none 0 0, .int .i64 (0), .int .i64 (0), .bool false, .int .i64 0, .string { data := #[] }])
  go_enter Ybaf.func4, Ybaf.ntmps4
  go_wp2_with fail
  refine (H.out _ _ HM.out.2.1 HM.out.2.2.1).mono ?_
  rintro e w1 ⟨c, rfl, hp⟩
  obtain ⟨k1, k2⟩ := one_post (f := f) HM.out.1 HM.out.2.2.1 HM.out.2.2.2 hpb hp.1 hp.2.1 hp.2.2 (by refine ⟨by simp, by simp, by simp, .inr (by simp), ?_, ?_, ?_, ?_⟩ <;> simp <;> omega)
  have q1 : w1.cell? ⟨w.heap.size + 1, 1, none⟩ = some (.slice none 0 0) := by rw [cell_of_heap k1]; rfl
  have q2 : w1.frozen? ⟨w.heap.size + 1, 1, none⟩ = false := frozen_of_heap k1
  have q3 : w.heap.size + 1 < w1.heap.size := lt_of_heap k1
  have HE := tuck k2
  clear k1 k2 hp
  go_wp2
  go_ret
  exact HE.out
end Go.Proofs.YbulkdjmsFmt
