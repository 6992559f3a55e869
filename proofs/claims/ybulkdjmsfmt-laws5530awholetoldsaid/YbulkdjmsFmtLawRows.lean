import Derived.Test.YbulkdjmsFmtBoth
/-! The rows that the law itself fills. -/
namespace Go.Proofs.YbulkdjmsFmt
open Go.RowKit Plain
section
variable {w w1 w2 : World} {B bc bo bm : Nat} {s s2 : St} {iv lv iv2 lv2 kv vv : Value}
theorem apart_bo (h3 : Apart bc bm bo iv lv iv2 lv2 kv vv) : bo ≠ bc ∧ iv.ownBlock ≠ some bo ∧ lv.ownBlock ≠ some bo := by
  have hbo : bo ∈ ownG bo iv2 lv2 kv vv := mem_ownG.2 (.inl rfl)
  exact ⟨fun e => h3 bo (mem_ownC.2 (.inl e)) hbo, fun e => h3 bo (mem_ownC.2 (.inr (.inr (.inl e)))) hbo, fun e => h3 bo (mem_ownC.2 (.inr (.inr (.inr e)))) hbo⟩
theorem old_block {v : Value} (hc : Chg [] w w1) (hg : w1.grownBy w2 v.ownBlock) {k : Nat} (hk : k < w.heap.size) (hn : v.ownBlock ≠ some k) : w2.heap[k]? = w.heap[k]? :=
  (hg.block k (Nat.lt_of_lt_of_le hk hc.size) (fun e => hn e.symm)).trans (hc.block k hk (by simp))
theorem emit_both (h1 : CompAt w B bc s iv lv bm) (h2 : GenAt w B bo s2 iv2 lv2 kv vv) (h3 : Apart bc bm bo iv lv iv2 lv2 kv vv) {rvs : List Value} (hl : rvs.length = s.ins.length)
    (hr : ∀ (j : Nat) (rv : Value) (i : Ins), rvs[j]? = some rv → s.ins[j]? = some i → RgAt w rv i.rg) (j : Int)
    (hc : Chg [] w w1) (hg : w1.grownBy w2 iv.ownBlock) {g cap : Nat} (ho : w2.ownsRow B 41 7 (.slice (some ⟨g, 0, none⟩) (s.ins.length + 1) cap) (s.ins.length + 1) (flat s.ins rvs ++ [.int .u8 1, .int .u8 0, .int .i64 j, .int .i64 0, .slice none 0 0, .int .i64 0, .int .i64 0]))
    (hloc : iv.ownBlock = some g ∨ g = w1.heap.size) :
    w2.heap[bc]? = some (.cells #[iv, lv, .map (some bm)] 31 (0, 0)) ∧ w2.heap[bo]? = some (.cells #[iv2, lv2, kv, vv] 36 (0, 0)) ∧ Below B w (w2.setCell ⟨bc, 0, none⟩ (.slice (some ⟨g, 0, none⟩) (s.ins.length + 1) cap)) ∧
    ∃ iv' lv' bm', CompAt (w2.setCell ⟨bc, 0, none⟩ (.slice (some ⟨g, 0, none⟩) (s.ins.length + 1) cap)) B bc (s.put ⟨1, 0, j, 0, [], 0, 0⟩).2 iv' lv' bm' ∧ GenAt (w2.setCell ⟨bc, 0, none⟩ (.slice (some ⟨g, 0, none⟩) (s.ins.length + 1) cap)) B bo s2 iv2 lv2 kv vv ∧ Apart bc bm' bo iv' lv' iv2 lv2 kv vv := by
  have hp := h1.emitted hl hr (i := ⟨1, 0, j, 0, [], 0, 0⟩) (rv := .slice none 0 0) (.inl ⟨rfl, rfl⟩) hc hg ho hloc
  obtain ⟨b1, b2, b3⟩ := apart_bo h3
  refine ⟨(old_block hc hg (lt_of_heap h1.obj) (fun e => (h1.apart.2.1 bc e).1 rfl)).trans h1.obj, (old_block hc hg (lt_of_heap h2.obj) b2).trans h2.obj, (Both.byComp h1 h2 h3 hp).2, ?_⟩
  obtain ⟨iv', lv', bm', k1, k2, k3⟩ := hp
  refine ⟨iv', lv', bm', k1, h2.keep k2 h1.no55 (fun k hk hk2 => h3 k hk2 hk), fun k hk hk2 => ?_⟩
  rcases k3 k hk with h4 | h4
  · exact h3 k h4 hk2
  · have := (h2.own_le k hk2).2; omega
theorem put_both (h1 : CompAt w B bc s2 iv lv bm) (h2 : GenAt w B bo s iv2 lv2 kv vv) (h3 : Apart bc bm bo iv lv iv2 lv2 kv vv) {rvs : List Value} (hl : rvs.length = s.ins.length) (hi : w.ownsRow B 41 7 iv2 s.ins.length (flat s.ins rvs))
    (hr : ∀ (j : Nat) (rv : Value) (i : Ins), rvs[j]? = some rv → s.ins[j]? = some i → RgAt w rv i.rg) (j : Int)
    (hc : Chg [] w w1) (hg : w1.grownBy w2 iv2.ownBlock) {g cap : Nat} (ho : w2.ownsRow B 41 7 (.slice (some ⟨g, 0, none⟩) (s.ins.length + 1) cap) (s.ins.length + 1) (flat s.ins rvs ++ [.int .u8 1, .int .u8 0, .int .i64 j, .int .i64 0, .slice none 0 0, .int .i64 0, .int .i64 0]))
    (hloc : iv2.ownBlock = some g ∨ g = w1.heap.size) :
    w2.heap[bo]? = some (.cells #[iv2, lv2, kv, vv] 36 (0, 0)) ∧ Both B bc bo s2 (s.put ⟨1, 0, j, 0, [], 0, 0⟩).2 (w2.setCell ⟨bo, 0, none⟩ (.slice (some ⟨g, 0, none⟩) (s.ins.length + 1) cap)) ∧ Below B w (w2.setCell ⟨bo, 0, none⟩ (.slice (some ⟨g, 0, none⟩) (s.ins.length + 1) cap)) := by
  have hp := h2.putted hl hi hr (i := ⟨1, 0, j, 0, [], 0, 0⟩) (rv := .slice none 0 0) (.inl ⟨rfl, rfl⟩) hc hg ho hloc
  exact ⟨(old_block hc hg (lt_of_heap h2.obj) (fun e => row_obj hi h2.obj (by decide) e rfl)).trans h2.obj, Both.byGen h1 h2 h3 hp⟩
theorem lb_both (h1 : CompAt w B bc s iv lv bm) (h2 : GenAt w B bo s2 iv2 lv2 kv vv) (h3 : Apart bc bm bo iv lv iv2 lv2 kv vv) (j : Int)
    (hc : Chg [] w w1) (hg : w1.grownBy w2 lv.ownBlock) {g cap : Nat} (ho : w2.ownsRow B 43 1 (.slice (some ⟨g, 0, none⟩) (s.lbs.length + 1) cap) (s.lbs.length + 1) (s.lbs.map (Value.int .i64) ++ [.int .i64 j]))
    (hloc : lv.ownBlock = some g ∨ g = w1.heap.size) :
    w2.heap[bc]? = some (.cells #[iv, lv, .map (some bm)] 31 (0, 0)) ∧ w2.heap[bo]? = some (.cells #[iv2, lv2, kv, vv] 36 (0, 0)) ∧ Below B w (w2.setCell ⟨bc, 1, none⟩ (.slice (some ⟨g, 0, none⟩) (s.lbs.length + 1) cap)) ∧
    ∃ iv' lv' bm', CompAt (w2.setCell ⟨bc, 1, none⟩ (.slice (some ⟨g, 0, none⟩) (s.lbs.length + 1) cap)) B bc { s with lbs := s.lbs ++ [j] } iv' lv' bm' ∧ GenAt (w2.setCell ⟨bc, 1, none⟩ (.slice (some ⟨g, 0, none⟩) (s.lbs.length + 1) cap)) B bo s2 iv2 lv2 kv vv ∧ Apart bc bm' bo iv' lv' iv2 lv2 kv vv := by
  obtain ⟨ho1, hp⟩ := h1.addLb j hc hg ho hloc
  obtain ⟨b1, b2, b3⟩ := apart_bo h3
  refine ⟨ho1, (old_block hc hg (lt_of_heap h2.obj) b3).trans h2.obj, (Both.byComp h1 h2 h3 hp).2, ?_⟩
  obtain ⟨iv', lv', bm', k1, k2, k3⟩ := hp
  refine ⟨iv', lv', bm', k1, h2.keep k2 h1.no55 (fun k hk hk2 => h3 k hk2 hk), fun k hk hk2 => ?_⟩
  rcases k3 k hk with h4 | h4
  · exact h3 k h4 hk2
  · have := (h2.own_le k hk2).2; omega
theorem lbg_both (h1 : CompAt w B bc s2 iv lv bm) (h2 : GenAt w B bo s iv2 lv2 kv vv) (h3 : Apart bc bm bo iv lv iv2 lv2 kv vv) (j : Int)
    (hc : Chg [] w w1) (hg : w1.grownBy w2 lv2.ownBlock) {g cap : Nat} (ho : w2.ownsRow B 43 1 (.slice (some ⟨g, 0, none⟩) (s.lbs.length + 1) cap) (s.lbs.length + 1) (s.lbs.map (Value.int .i64) ++ [.int .i64 j]))
    (hloc : lv2.ownBlock = some g ∨ g = w1.heap.size) :
    w2.heap[bo]? = some (.cells #[iv2, lv2, kv, vv] 36 (0, 0)) ∧ Both B bc bo s2 { s with lbs := s.lbs ++ [j] } (w2.setCell ⟨bo, 1, none⟩ (.slice (some ⟨g, 0, none⟩) (s.lbs.length + 1) cap)) ∧ Below B w (w2.setCell ⟨bo, 1, none⟩ (.slice (some ⟨g, 0, none⟩) (s.lbs.length + 1) cap)) := by
  obtain ⟨ho1, hp⟩ := h2.addLb j hc hg ho hloc
  exact ⟨ho1, Both.byGen h1 h2 h3 hp⟩
end
end Go.Proofs.YbulkdjmsFmt
