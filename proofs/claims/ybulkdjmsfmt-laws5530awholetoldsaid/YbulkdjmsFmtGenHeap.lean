import Derived.Test.YbulkdjmsFmtHeap
/-! THE MODEL's OBJECT IN MEMORY. -/
namespace Go.Proofs.YbulkdjmsFmt
open Plain Go.RowKit
def ownG (bo : Nat) (iv lv kv vv : Value) : List Nat := bo :: (iv.ownBlock.toList ++ (lv.ownBlock.toList ++ (kv.ownBlock.toList ++ vv.ownBlock.toList)))
structure GenAt (w : World) (B bo : Nat) (s : St) (iv lv kv vv : Value) : Prop where
  obj : w.heap[bo]? = some (.cells #[iv, lv, kv, vv] 36 (0, 0))
  hBo : B ≤ bo
  hB : B ≤ w.heap.size
  ins : InsAt w B iv s.ins
  lbs : w.ownsRow B 43 1 lv s.lbs.length (s.lbs.map (Value.int .i64))
  keys : w.ownsRow B 23 1 kv s.keys.length (s.keys.map ptr)
  vals : w.ownsRow B 3 1 vv s.vals.length (s.vals.map (Value.int .i64))
theorem mem_ownG {bo k : Nat} {iv lv kv vv : Value} : k ∈ ownG bo iv lv kv vv ↔ k = bo ∨ iv.ownBlock = some k ∨ lv.ownBlock = some k ∨ kv.ownBlock = some k ∨ vv.ownBlock = some k := by
  simp [ownG, Option.mem_toList]
section
variable {w : World} {B bo : Nat} {s : St} {iv lv kv vv : Value}
theorem GenAt.own_le (h : GenAt w B bo s iv lv kv vv) : ∀ k ∈ ownG bo iv lv kv vv, B ≤ k ∧ k < w.heap.size := by
  intro k hk
  obtain ⟨rvs, _, hi, _⟩ := h.ins
  rcases mem_ownG.1 hk with rfl | hk | hk | hk | hk
  · exact ⟨h.hBo, lt_of_heap h.obj⟩
  · obtain ⟨h1, cur, h2⟩ := ownsRow_block hi hk; exact ⟨h1, lt_of_heap h2⟩
  · obtain ⟨h1, cur, h2⟩ := ownsRow_block h.lbs hk; exact ⟨h1, lt_of_heap h2⟩
  · obtain ⟨h1, cur, h2⟩ := ownsRow_block h.keys hk; exact ⟨h1, lt_of_heap h2⟩
  · obtain ⟨h1, cur, h2⟩ := ownsRow_block h.vals hk; exact ⟨h1, lt_of_heap h2⟩
theorem GenAt.no55 (h : GenAt w B bo s iv lv kv vv) : No55 w (ownG bo iv lv kv vv) := by
  intro k hk cur fz hq
  obtain ⟨rvs, _, hi, _⟩ := h.ins
  rcases mem_ownG.1 hk with rfl | hk | hk | hk | hk
  · rw [h.obj] at hq; simp at hq
  · obtain ⟨h1, cur, h2⟩ := ownsRow_block hi hk; rw [h2] at hq; simp at hq
  · obtain ⟨h1, cur, h2⟩ := ownsRow_block h.lbs hk; rw [h2] at hq; simp at hq
  · obtain ⟨h1, cur, h2⟩ := ownsRow_block h.keys hk; rw [h2] at hq; simp at hq
  · obtain ⟨h1, cur, h2⟩ := ownsRow_block h.vals hk; rw [h2] at hq; simp at hq
/-- Two rows of different types lie apart. -/
theorem rows_apart {base base' : Nat} {e e' : TypeId} {size size' : Nat} {v v' : Value} {n n' : Nat} {xs xs' : List Value} (h : w.ownsRow base e size v n xs) (h' : w.ownsRow base' e' size' v' n' xs') (hne : e ≠ e') {k : Nat} (hk : v.ownBlock = some k) : v'.ownBlock ≠ some k := by
  intro hk'
  obtain ⟨_, cur, h2⟩ := ownsRow_block h hk
  obtain ⟨_, cur', h3⟩ := ownsRow_block h' hk'
  rw [h2] at h3
  simp at h3
  exact hne h3.2
theorem row_obj {base bo : Nat} {e e' : TypeId} {size : Nat} {v : Value} {n : Nat} {xs : List Value} {cur : Array Value} {fz : Nat × Nat} (h : w.ownsRow base e size v n xs) (h' : w.heap[bo]? = some (.cells cur e' fz)) (hne : e ≠ e') {k : Nat} (hk : v.ownBlock = some k) : k ≠ bo := by
  intro hk'
  obtain ⟨_, cur, h2⟩ := ownsRow_block h hk
  rw [hk', h'] at h2
  simp at h2
  exact hne h2.2.1.symm
theorem GenAt.keep {w' : World} (h : GenAt w B bo s iv lv kv vv) {own : List Nat} (hc : Chg own w w') (hn : No55 w own) (hd : ∀ k ∈ ownG bo iv lv kv vv, k ∉ own) : GenAt w' B bo s iv lv kv vv := by
  have row : ∀ {e : TypeId} {size : Nat} {v : Value} {n : Nat} {xs : List Value}, w.ownsRow B e size v n xs → (∀ k, v.ownBlock = some k → k ∈ ownG bo iv lv kv vv) → w'.ownsRow B e size v n xs := fun hr hm =>
    ownsRow_of_block hr (fun k hk => by
      obtain ⟨_, cur, hg⟩ := ownsRow_block hr hk
      exact hc.block k (lt_of_heap hg) (hd k (hm k hk)))
  refine ⟨?_, h.hBo, Nat.le_trans h.hB hc.size, h.ins.keep hc hn (fun k hk => hd k (mem_ownG.2 (.inr (.inl hk)))), row h.lbs (fun k hk => mem_ownG.2 (.inr (.inr (.inl hk)))), row h.keys (fun k hk => mem_ownG.2 (.inr (.inr (.inr (.inl hk))))), row h.vals (fun k hk => mem_ownG.2 (.inr (.inr (.inr (.inr hk)))))⟩
  rw [hc.block bo (lt_of_heap h.obj) (hd bo (mem_ownG.2 (.inl rfl)))]; exact h.obj
end
/-- What is known behind a call that worked on the model. -/
def GPost (B bo : Nat) (s' : St) (own : List Nat) (w w' : World) : Prop :=
  ∃ iv lv kv vv, GenAt w' B bo s' iv lv kv vv ∧ Chg own w w' ∧ ∀ k ∈ ownG bo iv lv kv vv, k ∈ own ∨ w.heap.size ≤ k
theorem GPost.after {B bo : Nat} {s2 : St} {own o1 : List Nat} {w w1 w2 : World} (hc : Chg own w w1) (hi : ∀ k ∈ o1, k ∈ own ∨ w.heap.size ≤ k) (h : GPost B bo s2 o1 w1 w2) : GPost B bo s2 own w w2 := by
  obtain ⟨iv, lv, kv, vv, h1, h2, h3⟩ := h
  refine ⟨iv, lv, kv, vv, h1, hc.trans h2 hi, fun k hk => ?_⟩
  rcases h3 k hk with h | h
  · exact hi k h
  · exact .inr (Nat.le_trans hc.size h)
/-- An instruction appended to a list, in any later world. -/
theorem InsAt.snoc {w w' : World} {B : Nat} {l : List Ins} {rvs : List Value} (hl : rvs.length = l.length) (hr : ∀ (j : Nat) (rv : Value) (i : Ins), rvs[j]? = some rv → l[j]? = some i → RgAt w rv i.rg) {i : Ins} {rv : Value} (hrg : RgAt w rv i.rg)
    {v : Value} (ho : w'.ownsRow B 41 7 v (l.length + 1) (flat l rvs ++ cellsOf i rv)) {own : List Nat} (hc : Chg own w w') (hn : No55 w own) : InsAt w' B v (l ++ [i]) := by
  refine ⟨rvs ++ [rv], by simp [hl], ?_, ?_⟩
  · simp only [List.length_append, List.length_cons, List.length_nil]
    rw [flat_snoc hl]
    exact ho
  · intro j rv' i' hj hi
    have hk : RgAt w rv' i'.rg := by
      by_cases hj' : j < l.length
      · rw [List.getElem?_append_left (by omega)] at hj
        rw [List.getElem?_append_left hj'] at hi
        exact hr j rv' i' hj hi
      · rw [List.getElem?_append_right (by omega)] at hj
        rw [List.getElem?_append_right (by omega)] at hi
        have e1 : j - rvs.length = 0 := by
          by_cases hz : j - rvs.length = 0
          · exact hz
          · rw [List.getElem?_eq_none (by simp; omega)] at hj; cases hj
        have e2 : j - l.length = 0 := by omega
        rw [e1] at hj
        rw [e2] at hi
        simp at hj hi
        subst hj hi
        exact hrg
    exact hk.keep hc hn
/-- One of the object's rows has grown in w2 and its new value v' is stored into the object's cell j: the object, the other rows, the frame. -/
theorem GenAt.grow {w w1 w2 : World} {B bo : Nat} {s : St} {iv lv kv vv : Value} (h : GenAt w B bo s iv lv kv vv) (v : Value) (hv : v = iv ∨ v = lv ∨ v = kv ∨ v = vv) (h1 : Chg [] w w1) (hg : w1.grownBy w2 v.ownBlock)
    (v' : Value) (j : Nat) (hvo : ∀ k, v.ownBlock = some k → k ≠ bo) :
    Chg (ownG bo iv lv kv vv) w (w2.setCell ⟨bo, j, none⟩ v') ∧ w2.heap[bo]? = some (.cells #[iv, lv, kv, vv] 36 (0, 0)) ∧
    (∀ k, k < w.heap.size → k ≠ bo → v.ownBlock ≠ some k → (w2.setCell ⟨bo, j, none⟩ v').heap[k]? = w.heap[k]?) ∧ (∀ k, k ≠ bo → (w2.setCell ⟨bo, j, none⟩ v').heap[k]? = w2.heap[k]?) := by
  have hmem : ∀ k, v.ownBlock = some k → k ∈ ownG bo iv lv kv vv := by
    intro k hk
    rcases hv with rfl | rfl | rfl | rfl
    · exact mem_ownG.2 (.inr (.inl hk))
    · exact mem_ownG.2 (.inr (.inr (.inl hk)))
    · exact mem_ownG.2 (.inr (.inr (.inr (.inl hk))))
    · exact mem_ownG.2 (.inr (.inr (.inr (.inr hk))))
  have hc2 : Chg (ownG bo iv lv kv vv) w w2 := (h1.wide (by simp)).grown hg (fun k hk => .inl (hmem k hk))
  have hbc : ∀ k, k < w.heap.size → v.ownBlock ≠ some k → w2.heap[k]? = w.heap[k]? := fun k hk hne => (hg.block k (Nat.lt_of_lt_of_le hk h1.size) (fun e => hne e.symm)).trans (h1.block k hk (by simp))
  have hne : ∀ k, k ≠ bo → (w2.setCell ⟨bo, j, none⟩ v').heap[k]? = w2.heap[k]? := fun k hk => Below.heap_setCell w2 ⟨bo, j, none⟩ _ k hk
  refine ⟨hc2.setCell (.inl (mem_ownG.2 (.inl rfl))) _, ?_, fun k hk hkb hkv => (hne k hkb).trans (hbc k hk hkv), hne⟩
  rw [hbc bo (lt_of_heap h.obj) (fun e => hvo bo e rfl)]; exact h.obj
/-- An instruction put. -/
theorem GenAt.putted {w w1 w2 : World} {B bo : Nat} {s : St} {iv lv kv vv : Value} (h : GenAt w B bo s iv lv kv vv) {rvs : List Value} (hl : rvs.length = s.ins.length) (hi : w.ownsRow B 41 7 iv s.ins.length (flat s.ins rvs))
    (hr : ∀ (j : Nat) (rv : Value) (i : Ins), rvs[j]? = some rv → s.ins[j]? = some i → RgAt w rv i.rg) {i : Ins} {rv : Value} (hrg : RgAt w rv i.rg)
    (h1 : Chg [] w w1) (hg : w1.grownBy w2 iv.ownBlock) {g cap : Nat} (ho : w2.ownsRow B 41 7 (.slice (some ⟨g, 0, none⟩) (s.ins.length + 1) cap) (s.ins.length + 1) (flat s.ins rvs ++ cellsOf i rv))
    (hloc : iv.ownBlock = some g ∨ g = w1.heap.size) : GPost B bo (s.put i).2 (ownG bo iv lv kv vv) w (w2.setCell ⟨bo, 0, none⟩ (.slice (some ⟨g, 0, none⟩) (s.ins.length + 1) cap)) := by
  have hvo : ∀ k, iv.ownBlock = some k → k ≠ bo := fun k hk => row_obj hi h.obj (by decide) hk
  obtain ⟨hc3, hobj, hold, hne⟩ := h.grow iv (.inl rfl) h1 hg (.slice (some ⟨g, 0, none⟩) (s.ins.length + 1) cap) 0 hvo
  have hgbo : g ≠ bo := by
    rcases hloc with hloc | hloc
    · exact hvo g hloc
    · have := lt_of_heap h.obj; have := h1.size; omega
  have row : ∀ {e : TypeId} {size : Nat} {v : Value} {n : Nat} {xs : List Value}, w.ownsRow B e size v n xs → e ≠ 36 → e ≠ 41 → (w2.setCell ⟨bo, 0, none⟩ (.slice (some ⟨g, 0, none⟩) (s.ins.length + 1) cap)).ownsRow B e size v n xs := fun hr h36 h41 =>
    ownsRow_of_block hr (fun k hk => by
      obtain ⟨_, cur, hb⟩ := ownsRow_block hr hk
      exact hold k (lt_of_heap hb) (row_obj hr h.obj h36 hk) (rows_apart hr hi h41 hk))
  refine ⟨.slice (some ⟨g, 0, none⟩) (s.ins.length + 1) cap, lv, kv, vv, ⟨?_, h.hBo, Nat.le_trans h.hB hc3.size, InsAt.snoc hl hr hrg (ownsRow_of_block ho (fun k hk => by cases hk; exact hne g hgbo)) hc3 h.no55, row h.lbs (by decide) (by decide), row h.keys (by decide) (by decide), row h.vals (by decide) (by decide)⟩, hc3, ?_⟩
  · rw [heap_setCell_same hobj]; rfl
  · intro k hk
    rcases mem_ownG.1 hk with hk | hk | hk | hk | hk
    · exact .inl (mem_ownG.2 (.inl hk))
    · cases hk
      rcases hloc with hloc | hloc
      · exact .inl (mem_ownG.2 (.inr (.inl hloc)))
      · right; rw [hloc]; exact h1.size
    · exact .inl (mem_ownG.2 (.inr (.inr (.inl hk))))
    · exact .inl (mem_ownG.2 (.inr (.inr (.inr (.inl hk)))))
    · exact .inl (mem_ownG.2 (.inr (.inr (.inr (.inr hk)))))
end Go.Proofs.YbulkdjmsFmt
