import Derived.Test.YbulkdjmsFmtRows
import Derived.Test.YbulkdjmsFmtTree
import Derived.LaidEql
import Derived.MapKept
/-! A MAP KEYED BY POINTERS: look-up and store. -/
namespace Go.Proofs.YbulkdjmsFmt
open Plain Go.RowKit
def Cells (w : World) (k : Nat) : Prop := ∃ cur e, w.heap[k]? = some (.cells cur e (0, 0))
theorem IsNode.cells {w : World} {k : Nat} (h : IsNode w k) : Cells w k := ⟨_, _, h.choose_spec⟩
theorem size51 : (Ybaf.prog.info? 51).map (fun i => i.size) = some 9 := by kernel_rfl
theorem run_equalIn_ptr (w : World) (d a b : Nat) (ha : Cells w a) (hb : Cells w b) :
    (Op.equalIn (d + 1) 23 (.pointer (some ⟨a, 0, none⟩)) (.pointer (some ⟨b, 0, none⟩))).run Ybaf.prog w = .ok (decide (a = b)) w := by
  obtain ⟨j, hj, hsz⟩ := Option.map_eq_some_iff.1 size51
  by_cases h : a = b
  · subst h
    simp [Op.equalIn, run_underlying Ybaf.underlying23, sizeOf, typeInfo, hj, run_sameAddr_same]
  · obtain ⟨ca, ea, ha⟩ := ha
    obtain ⟨cb, eb, hb⟩ := hb
    have hne : (⟨a, 0, none⟩ : Addr) ≠ ⟨b, 0, none⟩ := fun q => h (by injection q)
    simp [Op.equalIn, run_underlying Ybaf.underlying23, sizeOf, typeInfo, hj, hsz, run_sameAddr_other w hne ha hb, h]
theorem run_equal_ptr (w : World) (a b : Nat) (ha : Cells w a) (hb : Cells w b) :
    (Op.equal 23 (.pointer (some ⟨a, 0, none⟩)) (.pointer (some ⟨b, 0, none⟩))).run Ybaf.prog w = .ok (decide (a = b)) w := run_equalIn_ptr w 9999 a b ha hb
theorem run_findAsking (w : World) (n : Nat) (hn : Cells w n) : ∀ (es : List MapEntry) (ks : List Nat) (vs : List Int) (i : Nat), es.map (·.key) = ks.map ptr → es.map (·.val) = vs.map (Value.int .i64) → (∀ k ∈ ks, Cells w k) →
    ∃ r, (Instr.findAsking 23 (.pointer (some ⟨n, 0, none⟩)) es i).run Ybaf.prog w = .ok r w ∧ (r.map (·.2)) = (findK n ks vs).map (Value.int .i64)
  | [], [], [], i, _, _, _ => ⟨none, by simp [Instr.findAsking], rfl⟩
  | [], k :: ks, _, _, h, _, _ => by simp at h
  | [], _, v :: vs, _, _, h, _ => by simp at h
  | e :: es, [], _, _, h, _, _ => by simp at h
  | e :: es, k :: ks, [], _, _, h, _ => by simp at h
  | e :: es, k :: ks, v :: vs, i, hk, hv, hc => by
    simp only [List.map_cons, List.cons.injEq] at hk hv
    have hek : e.key = .pointer (some ⟨k, 0, none⟩) := hk.1
    have he := run_equal_ptr w n k hn (hc k (List.mem_cons_self ..))
    by_cases h : n = k
    · subst h
      refine ⟨some (i, e.val), ?_, ?_⟩
      · simp [Instr.findAsking, hek, he, Result.andThen]
      · simp [findK, hv.1]
    · obtain ⟨r, h1, h2⟩ := run_findAsking w n hn es ks vs (i + 1) hk.2 hv.2 (fun x hx => hc x (List.mem_cons_of_mem _ hx))
      refine ⟨r, ?_, ?_⟩
      · simp [Instr.findAsking, hek, he, h, Result.andThen, h1]
      · rw [h2]; simp [findK, Ne.symm h]
theorem run_findKey_ptr (w : World) (n : Nat) (hn : Cells w n) (es : List MapEntry) (ks : List Nat) (vs : List Int) (hk : es.map (·.key) = ks.map ptr) (hv : es.map (·.val) = vs.map (Value.int .i64)) (hc : ∀ k ∈ ks, Cells w k) :
    ∃ r, (Instr.findKey 23 (.pointer (some ⟨n, 0, none⟩)) es).run Ybaf.prog w = .ok r w ∧ (r.map (·.2)) = (findK n ks vs).map (Value.int .i64) := by
  obtain ⟨r, h1, h2⟩ := run_findAsking w n hn es ks vs 0 hk hv hc
  refine ⟨r, ?_, h2⟩
  cases es with
  | nil =>
    simp [Instr.findAsking] at h1
    simp [Instr.findKey, run_underlying Ybaf.underlying23, Instr.findNow, Result.andThen, h1]
  | cons e es =>
    have : Instr.findNow (.pointer 51) (.pointer (some ⟨n, 0, none⟩)) (e :: es) 0 = none := by
      simp [Instr.findNow, Instr.sameNow]
    simp [Instr.findKey, run_underlying Ybaf.underlying23, this, Result.andThen, h1]
theorem run_checkKey_ptr (w : World) (e : Bool) (d n : Nat) : (Instr.checkKey e (d + 1) 23 (.pointer (some ⟨n, 0, none⟩))).run Ybaf.prog w = .ok () w := by
  simp [Instr.checkKey, run_underlying Ybaf.underlying23]
/-- 'v, ok := m[n]'. -/
theorem run_lookup_ptr (w : World) (bm n : Nat) (s : St) (hm : MapAt w bm s) (hn : Cells w n) (hc : ∀ k ∈ s.keys, Cells w k) :
    (Instr.lookup 27 (.map (some bm)) (.pointer (some ⟨n, 0, none⟩)) true).run Ybaf.prog w = .ok (.tuple #[.int .i64 ((findK n s.keys s.vals).getD 0), .bool (findK n s.keys s.vals).isSome]) w := by
  obtain ⟨es, cl, hb, hk, hv⟩ := hm
  obtain ⟨r, h1, h2⟩ := run_findKey_ptr w n hn es.toList s.keys s.vals hk hv hc
  have hck := run_checkKey_ptr w es.isEmpty 9999 n
  cases r with
  | none =>
    have : findK n s.keys s.vals = none := by simpa using h2.symm
    simp [Instr.lookup, run_underlying Ybaf.underlying27, MapKept.run_getObj_map hb, hck, h1, Result.andThen, this]
  | some p =>
    obtain ⟨v, hv, hp⟩ : ∃ v, findK n s.keys s.vals = some v ∧ p.2 = .int .i64 v := by
      cases hf : findK n s.keys s.vals with
      | none => rw [hf] at h2; simp at h2
      | some v => rw [hf] at h2; exact ⟨v, rfl, by simpa using h2⟩
    simp [Instr.lookup, run_underlying Ybaf.underlying27, MapKept.run_getObj_map hb, hck, h1, Result.andThen, hv, hp]
/-- The world behind 'm[n] = v', n a new key. -/
def withMap (w : World) (bm : Nat) (es : Array MapEntry) (cl : Nat) : World := { w with heap := w.heap.setIfInBounds bm (.map es cl) }
theorem run_update_ptr (w : World) (bm n : Nat) (s : St) (hm : MapAt w bm s) (hn : Cells w n) (hc : ∀ k ∈ s.keys, Cells w k) (hf : findK n s.keys s.vals = none) :
    ∃ (es : Array MapEntry) (cl : Nat), (∀ v : Int, (Instr.mapUpdate 27 (.map (some bm)) (.pointer (some ⟨n, 0, none⟩)) (.int .i64 v)).run Ybaf.prog w = .ok () (withMap w bm (es.push { key := .pointer (some ⟨n, 0, none⟩), val := .int .i64 v, born := cl }) (cl + 1))) ∧
      es.toList.map (·.key) = s.keys.map ptr ∧ es.toList.map (·.val) = s.vals.map (Value.int .i64) := by
  obtain ⟨es, cl, hb, hk, hv⟩ := hm
  obtain ⟨r, h1, h2⟩ := run_findKey_ptr w n hn es.toList s.keys s.vals hk hv hc
  have hck := run_checkKey_ptr w false 9999 n
  rw [hf] at h2
  have hr : r = none := by simpa using h2
  subst hr
  refine ⟨es, cl, fun v => ?_, hk, hv⟩
  simp [Instr.mapUpdate, run_underlying Ybaf.underlying27, MapKept.run_getObj_map hb, hck, h1, Result.andThen, MapKept.run_setObj_map _ hb, withMap]
theorem findK_not_mem {n : Nat} : ∀ {ks : List Nat} (vs : List Int), n ∉ ks → findK n ks vs = none
  | [], _, _ => by simp [findK]
  | k :: ks, [], _ => by simp [findK]
  | k :: ks, v :: vs, h => by
    simp only [List.mem_cons, not_or] at h
    simp only [findK]
    rw [if_neg (fun q => h.1 q.symm)]
    exact findK_not_mem vs h.2
/-- A lookbehind's start appended, its body's key stored. -/
theorem CompAt.looked {w w1 w2 : World} {B bc : Nat} {s : St} {iv lv : Value} {bm : Nat} (h : CompAt w B bc s iv lv bm) (st : Int)
    (h1 : Chg [] w w1) (hg : w1.grownBy w2 lv.ownBlock) {g cap : Nat} (ho : w2.ownsRow B 43 1 (.slice (some ⟨g, 0, none⟩) (s.lbs.length + 1) cap) (s.lbs.length + 1) (s.lbs.map (Value.int .i64) ++ [.int .i64 st]))
    (hloc : lv.ownBlock = some g ∨ g = w1.heap.size) :
    MapAt (w2.setCell ⟨bc, 1, none⟩ (.slice (some ⟨g, 0, none⟩) (s.lbs.length + 1) cap)) bm s ∧ w2.heap[bc]? = some (.cells #[iv, lv, .map (some bm)] 31 (0, 0)) ∧
    Chg (ownC bc bm iv lv) w (w2.setCell ⟨bc, 1, none⟩ (.slice (some ⟨g, 0, none⟩) (s.lbs.length + 1) cap)) ∧
    ∀ (n : Nat) (es : Array MapEntry) (cl : Nat), es.toList.map (·.key) = s.keys.map ptr → es.toList.map (·.val) = s.vals.map (Value.int .i64) →
      CPost B bc (addLook n (st, s)) (ownC bc bm iv lv) w (withMap (w2.setCell ⟨bc, 1, none⟩ (.slice (some ⟨g, 0, none⟩) (s.lbs.length + 1) cap)) bm (es.push { key := .pointer (some ⟨n, 0, none⟩), val := .int .i64 (s.lbs.length : Int), born := cl }) (cl + 1)) := by
  obtain ⟨a1, a2, a3⟩ := h.apart
  obtain ⟨es0, cl0, hm, hk0, hv0⟩ := h.map
  have hc2 : Chg (ownC bc bm iv lv) w w2 := (h1.wide (by simp)).grown hg (fun k hk => .inl (mem_ownC.2 (.inr (.inr (.inr hk)))))
  have hc3 : Chg (ownC bc bm iv lv) w (w2.setCell ⟨bc, 1, none⟩ (.slice (some ⟨g, 0, none⟩) (s.lbs.length + 1) cap)) := hc2.setCell (.inl (mem_ownC.2 (.inl rfl))) _
  have hbc : ∀ k, k < w.heap.size → lv.ownBlock ≠ some k → w2.heap[k]? = w.heap[k]? := fun k hk hne => (hg.block k (Nat.lt_of_lt_of_le hk h1.size) (fun e => hne e.symm)).trans (h1.block k hk (by simp))
  have hobj : w2.heap[bc]? = some (.cells #[iv, lv, .map (some bm)] 31 (0, 0)) := by
    rw [hbc bc (lt_of_heap h.obj) (fun e => (a3 bc e).1 rfl)]; exact h.obj
  have hgbc : g ≠ bc ∧ g ≠ bm := by
    rcases hloc with hloc | hloc
    · exact ⟨(a3 g hloc).1, (a3 g hloc).2.1⟩
    · have := lt_of_heap h.obj; have := lt_of_heap hm; have := h1.size; omega
  have hne : ∀ k, k ≠ bc → (w2.setCell ⟨bc, 1, none⟩ (.slice (some ⟨g, 0, none⟩) (s.lbs.length + 1) cap)).heap[k]? = w2.heap[k]? := fun k hk => Below.heap_setCell w2 ⟨bc, 1, none⟩ _ k hk
  have hm3 : (w2.setCell ⟨bc, 1, none⟩ (.slice (some ⟨g, 0, none⟩) (s.lbs.length + 1) cap)).heap[bm]? = some (.map es0 cl0) := by
    rw [hne bm (fun e => a1 e.symm), hbc bm (lt_of_heap hm) (fun e => (a3 bm e).2.1 rfl)]; exact hm
  refine ⟨⟨es0, cl0, hm3, hk0, hv0⟩, hobj, hc3, fun n es cl hk hv => ?_⟩
  generalize hW : w2.setCell ⟨bc, 1, none⟩ (.slice (some ⟨g, 0, none⟩) (s.lbs.length + 1) cap) = W at *
  have hbmW : bm < W.heap.size := lt_of_heap hm3
  have hobjW : W.heap[bc]? = some (.cells #[iv, .slice (some ⟨g, 0, none⟩) (s.lbs.length + 1) cap, .map (some bm)] 31 (0, 0)) := by
    rw [← hW, heap_setCell_same hobj]; rfl
  have hms : ∀ (o : Obj) (k : Nat), k ≠ bm → ({ W with heap := W.heap.setIfInBounds bm o } : World).heap[k]? = W.heap[k]? := fun o k hk => by
    show (W.heap.setIfInBounds bm o)[k]? = _
    simp [Ne.symm hk]
  have hmm : ∀ (o : Obj), ({ W with heap := W.heap.setIfInBounds bm o } : World).heap[bm]? = some o := fun o => by
    show (W.heap.setIfInBounds bm o)[bm]? = _
    simp [hbmW]
  have hc4 : ∀ o : Obj, Chg (ownC bc bm iv lv) w ({ W with heap := W.heap.setIfInBounds bm o } : World) := fun o =>
    ⟨hc3.os, hc3.tape, hc3.output, by show _ ≤ (W.heap.setIfInBounds bm o).size; simpa using hc3.size, fun k hk hn => (hms o k (fun e => hn (mem_ownC.2 (.inr (.inl e))))).trans (hc3.block k hk hn)⟩
  unfold withMap
  refine ⟨iv, .slice (some ⟨g, 0, none⟩) (s.lbs.length + 1) cap, bm, ⟨?_, h.hBc, h.hBm, Nat.le_trans h.hB (hc4 _).size, ?_, ?_, _, _, hmm _, by simp [addLook, hk, ptr], by simp [addLook, hv]⟩, hc4 _, ?_⟩
  · rw [hms _ bc a1]; exact hobjW
  · obtain ⟨rvs, hl, hi, hr⟩ := h.ins
    refine ⟨rvs, hl, ownsRow_of_block hi (fun k hk => ?_), fun j rv i hj hi => (hr j rv i hj hi).keep (hc4 _) h.no55⟩
    obtain ⟨_, cur, hb⟩ := ownsRow_block hi hk
    rw [hms _ k (a2 k hk).2.1, hne k (a2 k hk).1]
    exact hbc k (lt_of_heap hb) (a2 k hk).2.2
  · simp only [addLook, List.length_append, List.length_cons, List.length_nil, List.map_append, List.map_cons, List.map_nil]
    exact ownsRow_of_block ho (fun k hk => by cases hk; rw [hms _ g hgbc.2, hne g hgbc.1])
  · intro k hk
    rcases mem_ownC.1 hk with hk | hk | hk | hk
    · exact .inl (mem_ownC.2 (.inl hk))
    · exact .inl (mem_ownC.2 (.inr (.inl hk)))
    · exact .inl (mem_ownC.2 (.inr (.inr (.inl hk))))
    · cases hk
      rcases hloc with hloc | hloc
      · exact .inl (mem_ownC.2 (.inr (.inr (.inr hloc))))
      · right; rw [hloc]; exact h1.size
end Go.Proofs.YbulkdjmsFmt
