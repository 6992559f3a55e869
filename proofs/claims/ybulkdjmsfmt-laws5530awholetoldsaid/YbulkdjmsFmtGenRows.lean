import Derived.Test.YbulkdjmsFmtGenHeap
/-! The model's other rows grow. -/
namespace Go.Proofs.YbulkdjmsFmt
open Plain Go.RowKit
theorem GenAt.addLb {w w1 w2 : World} {B bo : Nat} {s : St} {iv lv kv vv : Value} (h : GenAt w B bo s iv lv kv vv) (x : Int)
    (h1 : Chg [] w w1) (hg : w1.grownBy w2 lv.ownBlock) {g cap : Nat} (ho : w2.ownsRow B 43 1 (.slice (some ⟨g, 0, none⟩) (s.lbs.length + 1) cap) (s.lbs.length + 1) (s.lbs.map (Value.int .i64) ++ [.int .i64 x]))
    (hloc : lv.ownBlock = some g ∨ g = w1.heap.size) :
    w2.heap[bo]? = some (.cells #[iv, lv, kv, vv] 36 (0, 0)) ∧ GPost B bo { s with lbs := s.lbs ++ [x] } (ownG bo iv lv kv vv) w (w2.setCell ⟨bo, 1, none⟩ (.slice (some ⟨g, 0, none⟩) (s.lbs.length + 1) cap)) := by
  have hvo : ∀ k, lv.ownBlock = some k → k ≠ bo := fun k hk => row_obj h.lbs h.obj (by decide) hk
  obtain ⟨hc3, hobj, hold, hne⟩ := h.grow lv (.inr (.inl rfl)) h1 hg (.slice (some ⟨g, 0, none⟩) (s.lbs.length + 1) cap) 1 hvo
  have hgbo : g ≠ bo := by
    rcases hloc with hloc | hloc
    · exact hvo g hloc
    · have := lt_of_heap h.obj; have := h1.size; omega
  have row : ∀ {e : TypeId} {size : Nat} {v : Value} {n : Nat} {xs : List Value}, w.ownsRow B e size v n xs → e ≠ 36 → e ≠ 43 → (w2.setCell ⟨bo, 1, none⟩ (.slice (some ⟨g, 0, none⟩) (s.lbs.length + 1) cap)).ownsRow B e size v n xs := fun hr h36 hty =>
    ownsRow_of_block hr (fun k hk => by
      obtain ⟨_, cur, hb⟩ := ownsRow_block hr hk
      exact hold k (lt_of_heap hb) (row_obj hr h.obj h36 hk) (rows_apart hr h.lbs hty hk))
  obtain ⟨rvs, hl, hi, hr⟩ := h.ins
  refine ⟨hobj, iv, .slice (some ⟨g, 0, none⟩) (s.lbs.length + 1) cap, kv, vv, ⟨?_, h.hBo, Nat.le_trans h.hB hc3.size, ⟨rvs, hl, row hi (by decide) (by decide), fun j rv i hj hi => (hr j rv i hj hi).keep hc3 h.no55⟩, (by simp only [List.length_append, List.length_cons, List.length_nil, List.map_append, List.map_cons, List.map_nil]; exact ownsRow_of_block ho (fun k hk => by cases hk; exact hne g hgbo)), row h.keys (by decide) (by decide), row h.vals (by decide) (by decide)⟩, hc3, ?_⟩
  · rw [heap_setCell_same hobj]; rfl
  · intro k hk
    rcases mem_ownG.1 hk with hk | hk | hk | hk | hk
    · exact .inl (mem_ownG.2 (.inl hk))
    · exact .inl (mem_ownG.2 (.inr (.inl hk)))
    · cases hk
      rcases hloc with hk | hk
      · exact .inl (mem_ownG.2 (.inr (.inr (.inl hk))))
      · right; rw [hk]; exact h1.size
    · exact .inl (mem_ownG.2 (.inr (.inr (.inr (.inl hk)))))
    · exact .inl (mem_ownG.2 (.inr (.inr (.inr (.inr hk)))))
theorem GenAt.addKey {w w1 w2 : World} {B bo : Nat} {s : St} {iv lv kv vv : Value} (h : GenAt w B bo s iv lv kv vv) (x : Nat)
    (h1 : Chg [] w w1) (hg : w1.grownBy w2 kv.ownBlock) {g cap : Nat} (ho : w2.ownsRow B 23 1 (.slice (some ⟨g, 0, none⟩) (s.keys.length + 1) cap) (s.keys.length + 1) (s.keys.map ptr ++ [.pointer (some ⟨x, 0, none⟩)]))
    (hloc : kv.ownBlock = some g ∨ g = w1.heap.size) :
    w2.heap[bo]? = some (.cells #[iv, lv, kv, vv] 36 (0, 0)) ∧ GPost B bo { s with keys := s.keys ++ [x] } (ownG bo iv lv kv vv) w (w2.setCell ⟨bo, 2, none⟩ (.slice (some ⟨g, 0, none⟩) (s.keys.length + 1) cap)) := by
  have hvo : ∀ k, kv.ownBlock = some k → k ≠ bo := fun k hk => row_obj h.keys h.obj (by decide) hk
  obtain ⟨hc3, hobj, hold, hne⟩ := h.grow kv (.inr (.inr (.inl rfl))) h1 hg (.slice (some ⟨g, 0, none⟩) (s.keys.length + 1) cap) 2 hvo
  have hgbo : g ≠ bo := by
    rcases hloc with hloc | hloc
    · exact hvo g hloc
    · have := lt_of_heap h.obj; have := h1.size; omega
  have row : ∀ {e : TypeId} {size : Nat} {v : Value} {n : Nat} {xs : List Value}, w.ownsRow B e size v n xs → e ≠ 36 → e ≠ 23 → (w2.setCell ⟨bo, 2, none⟩ (.slice (some ⟨g, 0, none⟩) (s.keys.length + 1) cap)).ownsRow B e size v n xs := fun hr h36 hty =>
    ownsRow_of_block hr (fun k hk => by
      obtain ⟨_, cur, hb⟩ := ownsRow_block hr hk
      exact hold k (lt_of_heap hb) (row_obj hr h.obj h36 hk) (rows_apart hr h.keys hty hk))
  obtain ⟨rvs, hl, hi, hr⟩ := h.ins
  refine ⟨hobj, iv, lv, .slice (some ⟨g, 0, none⟩) (s.keys.length + 1) cap, vv, ⟨?_, h.hBo, Nat.le_trans h.hB hc3.size, ⟨rvs, hl, row hi (by decide) (by decide), fun j rv i hj hi => (hr j rv i hj hi).keep hc3 h.no55⟩, row h.lbs (by decide) (by decide), (by simp only [List.length_append, List.length_cons, List.length_nil, List.map_append, List.map_cons, List.map_nil]; exact ownsRow_of_block ho (fun k hk => by cases hk; exact hne g hgbo)), row h.vals (by decide) (by decide)⟩, hc3, ?_⟩
  · rw [heap_setCell_same hobj]; rfl
  · intro k hk
    rcases mem_ownG.1 hk with hk | hk | hk | hk | hk
    · exact .inl (mem_ownG.2 (.inl hk))
    · exact .inl (mem_ownG.2 (.inr (.inl hk)))
    · exact .inl (mem_ownG.2 (.inr (.inr (.inl hk))))
    · cases hk
      rcases hloc with hk | hk
      · exact .inl (mem_ownG.2 (.inr (.inr (.inr (.inl hk)))))
      · right; rw [hk]; exact h1.size
    · exact .inl (mem_ownG.2 (.inr (.inr (.inr (.inr hk)))))
theorem GenAt.addVal {w w1 w2 : World} {B bo : Nat} {s : St} {iv lv kv vv : Value} (h : GenAt w B bo s iv lv kv vv) (x : Int)
    (h1 : Chg [] w w1) (hg : w1.grownBy w2 vv.ownBlock) {g cap : Nat} (ho : w2.ownsRow B 3 1 (.slice (some ⟨g, 0, none⟩) (s.vals.length + 1) cap) (s.vals.length + 1) (s.vals.map (Value.int .i64) ++ [.int .i64 x]))
    (hloc : vv.ownBlock = some g ∨ g = w1.heap.size) :
    w2.heap[bo]? = some (.cells #[iv, lv, kv, vv] 36 (0, 0)) ∧ GPost B bo { s with vals := s.vals ++ [x] } (ownG bo iv lv kv vv) w (w2.setCell ⟨bo, 3, none⟩ (.slice (some ⟨g, 0, none⟩) (s.vals.length + 1) cap)) := by
  have hvo : ∀ k, vv.ownBlock = some k → k ≠ bo := fun k hk => row_obj h.vals h.obj (by decide) hk
  obtain ⟨hc3, hobj, hold, hne⟩ := h.grow vv (.inr (.inr (.inr rfl))) h1 hg (.slice (some ⟨g, 0, none⟩) (s.vals.length + 1) cap) 3 hvo
  have hgbo : g ≠ bo := by
    rcases hloc with hloc | hloc
    · exact hvo g hloc
    · have := lt_of_heap h.obj; have := h1.size; omega
  have row : ∀ {e : TypeId} {size : Nat} {v : Value} {n : Nat} {xs : List Value}, w.ownsRow B e size v n xs → e ≠ 36 → e ≠ 3 → (w2.setCell ⟨bo, 3, none⟩ (.slice (some ⟨g, 0, none⟩) (s.vals.length + 1) cap)).ownsRow B e size v n xs := fun hr h36 hty =>
    ownsRow_of_block hr (fun k hk => by
      obtain ⟨_, cur, hb⟩ := ownsRow_block hr hk
      exact hold k (lt_of_heap hb) (row_obj hr h.obj h36 hk) (rows_apart hr h.vals hty hk))
  obtain ⟨rvs, hl, hi, hr⟩ := h.ins
  refine ⟨hobj, iv, lv, kv, .slice (some ⟨g, 0, none⟩) (s.vals.length + 1) cap, ⟨?_, h.hBo, Nat.le_trans h.hB hc3.size, ⟨rvs, hl, row hi (by decide) (by decide), fun j rv i hj hi => (hr j rv i hj hi).keep hc3 h.no55⟩, row h.lbs (by decide) (by decide), row h.keys (by decide) (by decide), (by simp only [List.length_append, List.length_cons, List.length_nil, List.map_append, List.map_cons, List.map_nil]; exact ownsRow_of_block ho (fun k hk => by cases hk; exact hne g hgbo))⟩, hc3, ?_⟩
  · rw [heap_setCell_same hobj]; rfl
  · intro k hk
    rcases mem_ownG.1 hk with hk | hk | hk | hk | hk
    · exact .inl (mem_ownG.2 (.inl hk))
    · exact .inl (mem_ownG.2 (.inr (.inl hk)))
    · exact .inl (mem_ownG.2 (.inr (.inr (.inl hk))))
    · exact .inl (mem_ownG.2 (.inr (.inr (.inr (.inl hk)))))
    · cases hk
      rcases hloc with hk | hk
      · exact .inl (mem_ownG.2 (.inr (.inr (.inr (.inr hk)))))
      · right; rw [hk]; exact h1.size
end Go.Proofs.YbulkdjmsFmt
