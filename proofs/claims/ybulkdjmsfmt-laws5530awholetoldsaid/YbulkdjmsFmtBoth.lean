import Derived.Test.YbulkdjmsFmtEqual
import Derived.Test.YbulkdjmsFmtCompile
import Derived.Test.YbulkdjmsFmtGen
/-! The compiler and the model side by side. -/
namespace Go.Proofs.YbulkdjmsFmt
open Go.RowKit Plain
def Apart (bc bm bo : Nat) (iv lv iv2 lv2 kv vv : Value) : Prop := ∀ k ∈ ownC bc bm iv lv, k ∉ ownG bo iv2 lv2 kv vv
def Both (B bc bo : Nat) (s1 s2 : St) (w : World) : Prop :=
  ∃ iv lv bm iv2 lv2 kv vv, CompAt w B bc s1 iv lv bm ∧ GenAt w B bo s2 iv2 lv2 kv vv ∧ Apart bc bm bo iv lv iv2 lv2 kv vv
theorem Both.byComp {B bc bo bm : Nat} {s s2 s' : St} {w w' : World} {iv lv iv2 lv2 kv vv : Value} (h : CompAt w B bc s iv lv bm) (g : GenAt w B bo s2 iv2 lv2 kv vv) (hd : Apart bc bm bo iv lv iv2 lv2 kv vv) (hp : CPost B bc s' (ownC bc bm iv lv) w w') :
    Both B bc bo s' s2 w' ∧ Below B w w' := by
  obtain ⟨iv', lv', bm', h1, h2, h3⟩ := hp
  refine ⟨⟨iv', lv', bm', iv2, lv2, kv, vv, h1, g.keep h2 h.no55 (fun k hk hk2 => hd k hk2 hk), fun k hk hk2 => ?_⟩, h2.below h.hB (fun k hk => (h.own_le k hk).1)⟩
  rcases h3 k hk with h4 | h4
  · exact hd k h4 hk2
  · have := (g.own_le k hk2).2; omega
theorem Both.byGen {B bc bo bm : Nat} {s s2 s' : St} {w w' : World} {iv lv iv2 lv2 kv vv : Value} (h : CompAt w B bc s iv lv bm) (g : GenAt w B bo s2 iv2 lv2 kv vv) (hd : Apart bc bm bo iv lv iv2 lv2 kv vv) (hp : GPost B bo s' (ownG bo iv2 lv2 kv vv) w w') :
    Both B bc bo s s' w' ∧ Below B w w' := by
  obtain ⟨iv', lv', kv', vv', h1, h2, h3⟩ := hp
  refine ⟨⟨iv, lv, bm, iv', lv', kv', vv', h.keep h2 g.no55 hd, h1, fun k hk hk2 => ?_⟩, h2.below g.hB (fun k hk => (g.own_le k hk).1)⟩
  rcases h3 k hk2 with h4 | h4
  · exact hd k hk h4
  · have := (h.own_le k hk).2; omega
theorem no55_nil (w : World) : No55 w [] := fun k hk => by cases hk
theorem Both.chg {B bc bo : Nat} {s s2 : St} {w w' : World} (h : Both B bc bo s s2 w) (hc : Chg [] w w') : Both B bc bo s s2 w' := by
  obtain ⟨iv, lv, bm, iv2, lv2, kv, vv, h1, h2, h3⟩ := h
  exact ⟨iv, lv, bm, iv2, lv2, kv, vv, h1.keep hc (no55_nil _) (fun k _ hk => by cases hk), h2.keep hc (no55_nil _) (fun k _ hk => by cases hk), h3⟩
/-- A lookbehind appended. -/
theorem CompAt.addLb {w w1 w2 : World} {B bc : Nat} {s : St} {iv lv : Value} {bm : Nat} (h : CompAt w B bc s iv lv bm) (x : Int)
    (h1 : Chg [] w w1) (hg : w1.grownBy w2 lv.ownBlock) {g cap : Nat} (ho : w2.ownsRow B 43 1 (.slice (some ⟨g, 0, none⟩) (s.lbs.length + 1) cap) (s.lbs.length + 1) (s.lbs.map (Value.int .i64) ++ [.int .i64 x]))
    (hloc : lv.ownBlock = some g ∨ g = w1.heap.size) :
    w2.heap[bc]? = some (.cells #[iv, lv, .map (some bm)] 31 (0, 0)) ∧ CPost B bc { s with lbs := s.lbs ++ [x] } (ownC bc bm iv lv) w (w2.setCell ⟨bc, 1, none⟩ (.slice (some ⟨g, 0, none⟩) (s.lbs.length + 1) cap)) := by
  obtain ⟨a1, a2, a3⟩ := h.apart
  obtain ⟨es, cl, hm, hk, hv⟩ := h.map
  have hc2 : Chg (ownC bc bm iv lv) w w2 := (h1.wide (by simp)).grown hg (fun k hk => .inl (mem_ownC.2 (.inr (.inr (.inr hk)))))
  have hc3 : Chg (ownC bc bm iv lv) w (w2.setCell ⟨bc, 1, none⟩ (.slice (some ⟨g, 0, none⟩) (s.lbs.length + 1) cap)) := hc2.setCell (.inl (mem_ownC.2 (.inl rfl))) _
  have hbc : ∀ k, k < w.heap.size → lv.ownBlock ≠ some k → w2.heap[k]? = w.heap[k]? := fun k hk hne => (hg.block k (Nat.lt_of_lt_of_le hk h1.size) (fun e => hne e.symm)).trans (h1.block k hk (by simp))
  have hobj : w2.heap[bc]? = some (.cells #[iv, lv, .map (some bm)] 31 (0, 0)) := by
    rw [hbc bc (lt_of_heap h.obj) (fun e => (a3 bc e).1 rfl)]; exact h.obj
  have hgbc : g ≠ bc := by
    rcases hloc with hloc | hloc
    · exact (a3 g hloc).1
    · have := lt_of_heap h.obj; have := h1.size; omega
  have hne : ∀ k, k ≠ bc → (w2.setCell ⟨bc, 1, none⟩ (.slice (some ⟨g, 0, none⟩) (s.lbs.length + 1) cap)).heap[k]? = w2.heap[k]? := fun k hk => Below.heap_setCell w2 ⟨bc, 1, none⟩ _ k hk
  obtain ⟨rvs, hl, hi, hr⟩ := h.ins
  refine ⟨hobj, iv, .slice (some ⟨g, 0, none⟩) (s.lbs.length + 1) cap, bm, ⟨?_, h.hBc, h.hBm, Nat.le_trans h.hB hc3.size, ⟨rvs, hl, ownsRow_of_block hi (fun k hk => ?_), fun j rv i hj hi => (hr j rv i hj hi).keep hc3 h.no55⟩, ?_, es, cl, ?_, hk, hv⟩, hc3, ?_⟩
  · rw [heap_setCell_same hobj]; rfl
  · obtain ⟨_, cur, hb⟩ := ownsRow_block hi hk
    rw [hne k (a2 k hk).1]
    exact hbc k (lt_of_heap hb) (a2 k hk).2.2
  · simp only [List.length_append, List.length_cons, List.length_nil, List.map_append, List.map_cons, List.map_nil]
    exact ownsRow_of_block ho (fun k hk => by cases hk; rw [hne g hgbc])
  · rw [hne bm (fun e => a1 e.symm), hbc bm (lt_of_heap hm) (fun e => (a3 bm e).2.1 rfl)]; exact hm
  · intro k hk
    rcases mem_ownC.1 hk with hk | hk | hk | hk
    · exact .inl (mem_ownC.2 (.inl hk))
    · exact .inl (mem_ownC.2 (.inr (.inl hk)))
    · exact .inl (mem_ownC.2 (.inr (.inr (.inl hk))))
    · cases hk
      rcases hloc with hloc | hloc
      · exact .inl (mem_ownC.2 (.inr (.inr (.inr hloc))))
      · right; rw [hloc]; exact h1.size
/-- The two objects as they are made. -/
theorem both_new (wt : World) : Both wt.heap.size (wt.heap.size + 1) (wt.heap.size + 1 + 1) ⟨[], [], [], []⟩ ⟨[], [], [], []⟩ (((wt.alloc (.map #[] 0)).alloc (.cells #[.slice none 0 0, .slice none 0 0, .map (some wt.heap.size)] 31)).alloc (.cells #[.slice none 0 0, .slice none 0 0, .slice none 0 0, .slice none 0 0] 36)) ∧
    Below wt.heap.size wt (((wt.alloc (.map #[] 0)).alloc (.cells #[.slice none 0 0, .slice none 0 0, .map (some wt.heap.size)] 31)).alloc (.cells #[.slice none 0 0, .slice none 0 0, .slice none 0 0, .slice none 0 0] 36)) := by
  have e1 : (wt.alloc (.map #[] 0)).heap.size = wt.heap.size + 1 := by simp
  have e2 : ((wt.alloc (.map #[] 0)).alloc (.cells #[.slice none 0 0, .slice none 0 0, .map (some wt.heap.size)] 31)).heap.size = wt.heap.size + 1 + 1 := by simp
  have p1 := heap_new wt (.map #[] 0)
  have p2 := heap_new (wt.alloc (.map #[] 0)) (.cells #[.slice none 0 0, .slice none 0 0, .map (some wt.heap.size)] 31)
  have p3 := heap_new ((wt.alloc (.map #[] 0)).alloc (.cells #[.slice none 0 0, .slice none 0 0, .map (some wt.heap.size)] 31)) (.cells #[.slice none 0 0, .slice none 0 0, .slice none 0 0, .slice none 0 0] 36)
  rw [e1] at p2
  rw [e2] at p3
  have hc : Chg [] wt (((wt.alloc (.map #[] 0)).alloc (.cells #[.slice none 0 0, .slice none 0 0, .map (some wt.heap.size)] 31)).alloc (.cells #[.slice none 0 0, .slice none 0 0, .slice none 0 0, .slice none 0 0] 36)) := (((Chg.refl _ _).alloc _).alloc _).alloc _
  refine ⟨⟨.slice none 0 0, .slice none 0 0, wt.heap.size, .slice none 0 0, .slice none 0 0, .slice none 0 0, .slice none 0 0, ⟨?_, by omega, by omega, hc.size, ⟨[], rfl, ⟨rfl, .inl ⟨rfl, rfl⟩⟩, fun j rv i hj => by simp at hj⟩, ⟨rfl, .inl ⟨rfl, rfl⟩⟩, #[], 0, ?_, rfl, rfl⟩, ⟨p3, by omega, hc.size, ⟨[], rfl, ⟨rfl, .inl ⟨rfl, rfl⟩⟩, fun j rv i hj => by simp at hj⟩, ⟨rfl, .inl ⟨rfl, rfl⟩⟩, ⟨rfl, .inl ⟨rfl, rfl⟩⟩, ⟨rfl, .inl ⟨rfl, rfl⟩⟩⟩, ?_⟩, hc.below (Nat.le_refl _) (fun k hk => by cases hk)⟩
  · rw [Below.heap_alloc _ _ _ (by rw [e2]; omega)]; exact p2
  · rw [Below.heap_alloc _ _ _ (by rw [e2]; omega), Below.heap_alloc _ _ _ (by rw [e1]; omega)]; exact p1
  · intro k hk
    simp [ownC, ownG, Value.ownBlock] at hk ⊢
    omega
/-- Both calls. -/
theorem Both.call5 {wt : World} {T : Nat → Nd} {bc bo n f : Nat} {s : St} {wr : World} (nx : Int) (h : Both wt.heap.size bc bo s s wr) (hb : Below wt.heap.size wt wr) (hA : Anch wt) (hT : TreeAt wt T f n) (hg : Plain.Good (IsNode wt) s) (hz : sz s + bnd f < 1099511627776) :
    Calls Ybaf.prog 5 #[.pointer (some ⟨bc, 0, none⟩), .pointer (some ⟨n, 0, none⟩), .int .i64 nx] wr fun e w' => e = .returned (.int .i64 (comp T f n nx s).1) ∧ Both wt.heap.size bc bo (comp T f n nx s).2 s w' ∧ Below wt.heap.size wt w' := by
  obtain ⟨iv, lv, bm, iv2, lv2, kv, vv, h1, h2, h3⟩ := h
  refine (compile_any wt T hA f wr n bc nx s iv lv bm hb hT h1 hg hz).mono ?_
  rintro e w' ⟨rfl, hp⟩
  have := Both.byComp h1 h2 h3 hp
  exact ⟨rfl, this.1, hb.trans this.2⟩
theorem Both.call6 {wt : World} {T : Nat → Nd} {bc bo n f : Nat} {s s1 : St} {wr : World} (nx : Int) (h : Both wt.heap.size bc bo s1 s wr) (hb : Below wt.heap.size wt wr) (hT : TreeAt wt T f n) (hg : Plain.Good (IsNode wt) s) (hz : sz s + bnd f < 1099511627776) :
    Calls Ybaf.prog 6 #[.pointer (some ⟨bo, 0, none⟩), .pointer (some ⟨n, 0, none⟩), .int .i64 nx] wr fun e w' => e = .returned (.int .i64 (comp T f n nx s).1) ∧ Both wt.heap.size bc bo s1 (comp T f n nx s).2 w' ∧ Below wt.heap.size wt w' := by
  obtain ⟨iv, lv, bm, iv2, lv2, kv, vv, h1, h2, h3⟩ := h
  refine (gen_any wt T f wr n bo nx s iv2 lv2 kv vv hb hT h2 hg hz).mono ?_
  rintro e w' ⟨rfl, hp⟩
  have := Both.byGen h1 h2 h3 hp
  exact ⟨rfl, this.1, hb.trans this.2⟩
theorem Anch.keep {w w' : World} (h : Anch w) (hb : Below w.heap.size w w') : Anch w' := by
  obtain ⟨r, h1, h2, h3⟩ := h
  have h0 := World.block_lt_of_cell? _ _ h1
  have hs : w.heap.size ≤ w'.heap.size := hb.size
  refine ⟨r, (World.cell?_of_block (w := w) (hb.block 0 h0)).trans h1, Nat.lt_of_lt_of_le h2 hs, fun W hW => h3 W (hW.trans (hb.block r h2))⟩
theorem findK_at : ∀ {ks : List Nat} {vs : List Int} {j k : Nat} {v : Int}, ks.Nodup → ks[j]? = some k → vs[j]? = some v → findK k ks vs = some v
  | _ :: _, _ :: _, 0, k, v, _, hk, hv => by
    simp at hk hv
    subst hk hv
    simp [findK]
  | a :: ks, b :: vs, j + 1, k, v, hn, hk, hv => by
    simp at hk hv
    simp only [List.nodup_cons] at hn
    have hm : k ∈ ks := List.mem_of_getElem? hk
    simp only [findK]
    rw [if_neg (fun (e : a = k) => hn.1 (by rw [e]; exact hm))]
    exact findK_at hn.2 hk hv
  | [], _, _, _, _, _, h, _ => by simp at h
  | _ :: _, [], _, _, _, _, _, h => by simp at h
end Go.Proofs.YbulkdjmsFmt
