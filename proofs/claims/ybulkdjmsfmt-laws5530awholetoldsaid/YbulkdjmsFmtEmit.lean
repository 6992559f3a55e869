import Derived.Test.YbulkdjmsFmtRows
import Derived.Test.YbulkdjmsFmtStep
import Derived.Test.YbulkdjmsFmtHeap
import Derived.WalkKit
import Derived.ProofKit
import Derived.WalkSpells
/-! (*compiler).emit -/
namespace Go.Proofs.YbulkdjmsFmt
open Go.RowKit Plain
theorem info41 : (Ybaf.prog.info? 41).map (fun i => (i.zero, i.size, i.bytes)) = some (some (.agg #[.int .u8 0, .int .u8 0, .int .i64 0, .int .i64 0, .slice none 0 0, .int .i64 0, .int .i64 0]), 7, 64) := by kernel_rfl
/-- The seven cells, as an array. -/
theorem one_seven (a0 a1 a2 a3 a5 a6 : Int) (ra : Option Addr) (rl rc : Nat) : ∀ u ∈ ([.int .u8 a0, .int .u8 a1, .int .i64 a2, .int .i64 a3, .slice ra rl rc, .int .i64 a5, .int .i64 a6] : List Value), u.oneCell' = true := by simp [Value.oneCell']
theorem cells_of_new {W : World} {X : Array Value} {e : TypeId} {j : Nat} {u : Value} (h : X.toList[j]? = some u) : (W.alloc (.cells X e)).cell? (Addr.add ⟨W.heap.size, 0, none⟩ j) = some u := by
  have : (W.alloc (.cells X e)).heap[W.heap.size]? = some (.cells X e) := by show (W.heap.push _)[W.heap.size]? = _; simp
  have e : (Addr.add ⟨W.heap.size, 0, none⟩ j) = ⟨W.heap.size, j, none⟩ := by
    by_cases hj : j = 0
    · subst hj; rfl
    · simp [Addr.add, hj]
  rw [e, cell_of_heap this]
  simpa using h
set_option maxHeartbeats 1000000 in
theorem emit_any (w : World) (B bc : Nat) (s : St) (iv lv : Value) (bm : Nat) (i : Ins) (rv : Value) (hC : CompAt w B bc s iv lv bm) (hrg : RgAt w rv i.rg) (hsz : s.ins.length < 1099511627776) :
    Calls Ybaf.prog 9 #[.pointer (some ⟨bc, 0, none⟩), .agg #[.int .u8 i.op, .int .u8 i.asr, .int .i64 i.nx, .int .i64 i.al, rv, .int .i64 i.sl, .int .i64 i.lb]] w
      fun e w' => e = .returned (.int .i64 (s.put i).1) ∧ CPost B bc (s.put i).2 (ownC bc bm iv lv) w w' := by
  obtain ⟨i0, hi, hz0, hz1, hz2⟩ := info_parts info41
  obtain ⟨rvs, hl, hown, hr⟩ := hC.ins
  have HEnd : Hid (∀ (w1 w2 : World) (g cap : Nat), Chg [] w w1 → w1.grownBy w2 iv.ownBlock → w2.ownsRow B 41 7 (.slice (some ⟨g, 0, none⟩) (s.ins.length + 1) cap) (s.ins.length + 1) (flat s.ins rvs ++ cellsOf i rv) →
      (iv.ownBlock = some g ∨ g = w1.heap.size) → CPost B bc (s.put i).2 (ownC bc bm iv lv) w (w2.setCell ⟨bc, 0, none⟩ (.slice (some ⟨g, 0, none⟩) (s.ins.length + 1) cap))) :=
    fun w1 w2 g cap h1 h2 h3 h4 => hC.emitted hl hr hrg h1 h2 h3 h4
  obtain ⟨ra, rl, rc, rfl⟩ := hrg.form
  obtain ⟨ia, ic, rfl⟩ := ownsRow_form hown
  have hc0 : w.cell? ⟨bc, 0, none⟩ = some (.slice ia s.ins.length ic) := by rw [cell_of_heap hC.obj]; rfl
  have hf0 : w.frozen? ⟨bc, 0, none⟩ = false := frozen_of_heap hC.obj
  have hsz0 : bc < w.heap.size := lt_of_heap hC.obj
  have HB : Hid (B ≤ w.heap.size) := hC.hB
  have HA : Hid (∀ k, (Value.slice ia s.ins.length ic).ownBlock = some k → k ≠ bc) := fun k hk => (hC.apart.2.1 k hk).1
  have HOB : Hid (∀ W : World, Chg [] w W → W.ownsRow B 41 7 (.slice ia s.ins.length ic) s.ins.length (flat s.ins rvs)) := fun W hW =>
    ownsRow_of_block hown (fun k hk => hW.block k (lt_of_heap (ownsRow_block hown hk).2.choose_spec) (by simp))
  clear hC hrg hown hr hl
  generalize hXs : flat s.ins rvs = xs at *
  obtain ⟨n, hn⟩ : ∃ n, s.ins.length = n := ⟨_, rfl⟩
  have e1 : (s.put i).1 = (n : Int) := by simp [St.put, hn]
  rw [e1]
  rw [hn] at hsz hc0 HA HOB HEnd
  rw [hn]
  unfold cellsOf at HEnd
  generalize (s.put i).2 = s' at *
  obtain ⟨a0, a1, a2, a3, rg, a5, a6⟩ := i
  clear hXs hn e1
  simp only at HEnd ⊢
  have hsz1 : bc < w.heap.size + 1 := by omega
  have hsz2 : bc < w.heap.size + 1 + 1 := by omega
  go_enter Ybaf.func9, Ybaf.ntmps9
  go_wp2
  have h1c := one_seven a0 a1 a2 a3 a5 a6 ra rl rc
  have HW : Hid (Chg [] w (((w.alloc (.cells #[.int .u8 a0, .int .u8 a1, .int .i64 a2, .int .i64 a3, .slice ra rl rc, .int .i64 a5, .int .i64 a6] 41)).alloc (.cells #[.int .u8 a0, .int .u8 a1, .int .i64 a2, .int .i64 a3, .slice ra rl rc, .int .i64 a5, .int .i64 a6] 41)).drew)) := (((Chg.refl _ _).alloc _).alloc _).drew
  have HC : Hid (∀ j u, ([.int .u8 a0, .int .u8 a1, .int .i64 a2, .int .i64 a3, .slice ra rl rc, .int .i64 a5, .int .i64 a6] : List Value)[j]? = some u → (((w.alloc (.cells #[.int .u8 a0, .int .u8 a1, .int .i64 a2, .int .i64 a3, .slice ra rl rc, .int .i64 a5, .int .i64 a6] 41)).alloc (.cells #[.int .u8 a0, .int .u8 a1, .int .i64 a2, .int .i64 a3, .slice ra rl rc, .int .i64 a5, .int .i64 a6] 41)).drew).cell? (Addr.add ⟨w.heap.size + 1, 0, none⟩ j) = some u) := fun j u h => by
    have := cells_of_new (W := w.alloc (.cells #[.int .u8 a0, .int .u8 a1, .int .i64 a2, .int .i64 a3, .slice ra rl rc, .int .i64 a5, .int .i64 a6] 41)) (X := #[.int .u8 a0, .int .u8 a1, .int .i64 a2, .int .i64 a3, .slice ra rl rc, .int .i64 a5, .int .i64 a6]) (e := 41) h
    rw [World.size_alloc] at this
    exact this
  go_region_law (refine step_append_own rfl (.tmp 9) (.tmp 11) 28 rfl B 41 i0 _ 7 64 Ybaf.underlying28 hi hz0 hz1 hz2 rfl (by decide) (.slice ia n ic) n xs (by simp [Act.eval]) (HOB.out _ HW.out) ⟨w.heap.size + 1, 0, none⟩ 1 1 _ (by simp [Act.eval]) rfl HC.out h1c (by unfold maxLen; omega) (by omega) (by have := HB.out; simp; omega) (by decide) ?_; intro g cap w2 ho hg hloc; have q0 : w2.cell? ⟨bc, 0, none⟩ = some (.slice ia n ic) := ((World.cell?_of_block (w := w) ((hg.block bc (Nat.lt_of_lt_of_le hsz0 HW.out.size) (fun e => HA.out bc e.symm rfl)).trans (HW.out.block bc hsz0 (by simp)))).trans hc0); have q1 : w2.frozen? ⟨bc, 0, none⟩ = false := ((World.frozen?_of_block (w := w) ((hg.block bc (Nat.lt_of_lt_of_le hsz0 HW.out.size) (fun e => HA.out bc e.symm rfl)).trans (HW.out.block bc hsz0 (by simp)))).trans hf0); have HE : Hid (_) := HEnd.out _ _ _ _ HW.out hg ho hloc; have q2 := World.cell?_setCell_same w2 ⟨bc, 0, none⟩ (.slice (some ⟨g, 0, none⟩) (n + 1) cap) q0; clear ho hg hloc)
  all_goals
    go_wp2
    go_ret
    exact ⟨by simp, HE.out⟩
end Go.Proofs.YbulkdjmsFmt
