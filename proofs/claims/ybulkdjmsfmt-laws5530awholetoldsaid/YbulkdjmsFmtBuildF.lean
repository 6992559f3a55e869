import Derived.Test.YbulkdjmsFmtBuildE
import Derived.LoopTactic
import Derived.Outline
/-! zzs5530abuild: sequences and choices. -/
namespace Go.Proofs.YbulkdjmsFmt
open Go.RowKit Plain
set_option maxRecDepth 100000
set_option linter.unusedVariables false

theorem info23b : (Ybaf.prog.info? 23).map (fun i => (i.zero, i.size, i.bytes)) = some (some (.pointer none), 1, 8) := by kernel_rfl
/-- A child whose blocks are not the row's. -/
def Kid (w wr : World) (sv : Value) (f c : Nat) : Prop := ∃ lo hi, w.heap.size + 2 ≤ lo ∧ hi ≤ wr.heap.size ∧ TrIn wr lo hi f c ∧ ∀ k, sv.ownBlock = some k → k < lo ∨ hi ≤ k
theorem ptr_of_row {w : World} {B : Nat} {sv : Value} {cs : List Nat} (h : w.ownsRow B 23 1 sv cs.length (cs.map ptr)) : PtrAt w sv cs := by
  rcases h.2 with ⟨h0, h1⟩ | ⟨g, cap, cur, hv, _, hg, h1, h2, h3, h4⟩
  · exact .inl ⟨h0, List.eq_nil_of_length_eq_zero h1⟩
  · refine .inr ⟨g, cap, cur, hv, h1, h2, hg, fun j c hj => ?_⟩
    have hlt : j < cs.length := (List.getElem?_eq_some_iff.1 hj).1
    have : (cs.map ptr)[j]? = some (ptr c) := by simp [hj]
    rw [← h4, List.getElem?_take, if_pos (by omega)] at this
    simpa using this
/-- In the middle of a node with children. -/
structure SubMid (w : World) (pb len f : Nat) (op : Int) (sv : Value) (cs : List Nat) (wr : World) : Prop where
  node : wr.heap[w.heap.size + 1]? = some (.cells #[.int .u8 op, sv, .int .i32 0, .slice none 0 0, .int .i64 0, .int .i64 0, .bool false, .int .i64 0, .string { data := #[] }] 51 (0, 0))
  row : wr.ownsRow (w.heap.size + 2) 23 1 sv cs.length (cs.map ptr)
  kids : ∀ c ∈ cs, Kid w wr sv f c
  pos : ∃ p', PosAt wr pb p' len
  chg : Chg [pb] w wr
  size : w.heap.size + 2 ≤ wr.heap.size
theorem TrIn.lo {w : World} {lo hi f n : Nat} (h : TrIn w lo hi f n) : lo ≤ n := by
  cases f with
  | zero => exact h.elim
  | succ f => exact h.1
theorem SubMid.post {w : World} {pb len f : Nat} {op : Int} {sv : Value} {cs : List Nat} {wr : World} (h : SubMid w pb len f op sv cs wr) (hok : NdOk ⟨op, cs, 0, [], 0, 0, false, 0⟩) : BPost pb len (f + 1) w (.returned (.pointer (some ⟨w.heap.size + 1, 0, none⟩))) wr := by
  have hN : NodeAt wr (w.heap.size + 1) ⟨op, cs, 0, [], 0, 0, false, 0⟩ _ _ _ := ⟨h.node, ptr_of_row h.row, .inl ⟨rfl, rfl⟩, hok⟩
  refine ⟨_, rfl, TrIn.mk (by omega) (by have := h.size; omega) hN (fun k hk => ?_) (inR_nil _ _) (fun c hc => ?_), h.pos, h.chg⟩
  · obtain ⟨h1, cur, h2⟩ := ownsRow_block h.row hk
    exact ⟨by omega, lt_of_heap h2⟩
  · obtain ⟨lo, hi, h1, h2, h3, _⟩ := h.kids c hc
    have := h3.lo
    exact ⟨by show w.heap.size + 1 < c; omega, h3.keep (by omega) h2 (fun _ _ _ => rfl)⟩
theorem SubMid.call {w : World} {pb len f : Nat} {op : Int} {sv : Value} {cs : List Nat} {wr w1 : World} {c : Nat} (hpb : pb < w.heap.size) (h : SubMid w pb len f op sv cs wr) (hT : TrIn w1 wr.heap.size w1.heap.size f c) (hp : ∃ p', PosAt w1 pb p' len) (hc : Chg [pb] wr w1) :
    SubMid w pb len f op sv cs w1 ∧ Kid w w1 sv f c := by
  have hk : ∀ k, k < wr.heap.size → pb < k → w1.heap[k]? = wr.heap[k]? := fun k h1 h2 => hc.block k h1 (by simp; omega)
  have hz := h.size
  have hz1 := hc.size
  refine ⟨⟨?_, ?_, fun d hd => ?_, hp, h.chg.trans hc (fun k hk => .inl hk), by omega⟩, wr.heap.size, w1.heap.size, h.size, Nat.le_refl _, hT, fun k hk => ?_⟩
  · rw [hk _ (by omega) (by omega)]; exact h.node
  · refine ownsRow_of_block h.row fun k hk1 => ?_
    obtain ⟨h1, cur, h2⟩ := ownsRow_block h.row hk1
    exact hk k (lt_of_heap h2) (by omega)
  · obtain ⟨lo, hi, h1, h2, h3, h4⟩ := h.kids d hd
    exact ⟨lo, hi, h1, by omega, h3.keep (Nat.le_refl _) (Nat.le_refl _) (fun k a b => hk k (by omega) (by omega)), h4⟩
  · obtain ⟨h1, cur, h2⟩ := ownsRow_block h.row hk
    exact .inl (lt_of_heap h2)
theorem SubMid.grow {w : World} {pb len f : Nat} {op : Int} {sv : Value} {cs : List Nat} {wr w1 w2 : World} {c : Nat} (hpb : pb < w.heap.size) (h : SubMid w pb len f op sv cs wr) (hkid : Kid w wr sv f c) (h1 : Chg [] wr w1) (hg : w1.grownBy w2 sv.ownBlock) {g cap : Nat}
    (ho : w2.ownsRow (w.heap.size + 2) 23 1 (.slice (some ⟨g, 0, none⟩) (cs.length + 1) cap) (cs.length + 1) (cs.map ptr ++ [.pointer (some ⟨c, 0, none⟩)])) (hloc : sv.ownBlock = some g ∨ g = w1.heap.size) :
    w2.heap[w.heap.size + 1]? = some (.cells #[.int .u8 op, sv, .int .i32 0, .slice none 0 0, .int .i64 0, .int .i64 0, .bool false, .int .i64 0, .string { data := #[] }] 51 (0, 0)) ∧
    SubMid w pb len f op (.slice (some ⟨g, 0, none⟩) (cs.length + 1) cap) (cs ++ [c]) (w2.setCell ⟨w.heap.size + 1, 1, none⟩ (.slice (some ⟨g, 0, none⟩) (cs.length + 1) cap)) := by
  have hsz := h.size
  have hs1 := h1.size
  have hs2 := hg.size
  have hold : ∀ k, k < wr.heap.size → sv.ownBlock ≠ some k → w2.heap[k]? = wr.heap[k]? := fun k hk hk2 =>
    (hg.block k (by omega) (fun e => hk2 e.symm)).trans (h1.block k (by omega) (by simp))
  have hown : ∀ k, sv.ownBlock = some k → w.heap.size + 2 ≤ k ∧ k < wr.heap.size := fun k hk => by
    obtain ⟨h2, cur, h3⟩ := ownsRow_block h.row hk
    exact ⟨h2, lt_of_heap h3⟩
  have hn : w2.heap[w.heap.size + 1]? = _ := (hold _ (by omega) (fun e => by have := hown _ e; omega)).trans h.node
  have hgn : g ≠ w.heap.size + 1 := by
    rcases hloc with e | e
    · have := hown _ e; omega
    · omega
  have hne : ∀ k, k ≠ w.heap.size + 1 → (w2.setCell ⟨w.heap.size + 1, 1, none⟩ (.slice (some ⟨g, 0, none⟩) (cs.length + 1) cap)).heap[k]? = w2.heap[k]? := fun k hk => Below.heap_setCell w2 ⟨w.heap.size + 1, 1, none⟩ _ k hk
  have hkd : ∀ d, Kid w wr sv f d → Kid w (w2.setCell ⟨w.heap.size + 1, 1, none⟩ (.slice (some ⟨g, 0, none⟩) (cs.length + 1) cap)) (.slice (some ⟨g, 0, none⟩) (cs.length + 1) cap) f d := by
    rintro d ⟨lo, hi, a1, a2, a3, a4⟩
    refine ⟨lo, hi, a1, by simp; omega, a3.keep (Nat.le_refl _) (Nat.le_refl _) (fun k b1 b2 => ?_), fun k hk => ?_⟩
    · rw [hne _ (by omega), hold _ (by omega) (fun e => by have := a4 _ e; omega)]
    · cases hk
      rcases hloc with e | e
      · exact a4 _ e
      · right; show hi ≤ g; omega
  refine ⟨hn, ⟨?_, ?_, fun d hd => ?_, ?_, ?_, ?_⟩⟩
  · rw [heap_setCell_same hn]; rfl
  · have e : (cs ++ [c]).map ptr = cs.map ptr ++ [.pointer (some ⟨c, 0, none⟩)] := by simp [ptr]
    rw [e]
    simp only [List.length_append, List.length_cons, List.length_nil]
    exact ownsRow_of_block ho (fun k hk => by cases hk; exact hne g hgn)
  · rcases List.mem_append.1 hd with hd | hd
    · exact hkd d (h.kids d hd)
    · simp at hd; subst hd; exact hkd d hkid
  · obtain ⟨p', b1, b2⟩ := h.pos
    exact ⟨p', by rw [hne _ (by omega), hold _ (by omega) (fun e => by have := hown _ e; omega)]; exact b1, b2⟩
  · have hs1 : Chg [pb] w w1 := h.chg.trans h1 (by simp)
    have hs2 : Chg [pb] w w2 := hs1.grown hg (fun k hk => by have := hown _ hk; right; omega)
    exact hs2.setCell (.inr (by show w.heap.size ≤ w.heap.size + 1; omega)) _
  · simp; omega
theorem SubMid.drew {w : World} {pb len f : Nat} {op : Int} {sv : Value} {cs : List Nat} {wr : World} (h : SubMid w pb len f op sv cs wr) : SubMid w pb len f op sv cs wr.drew :=
  ⟨h.node, h.row, fun c hc => by obtain ⟨lo, hi, a, b, d, e⟩ := h.kids c hc; exact ⟨lo, hi, a, b, TrIn.keep (w := wr) (w' := wr.drew) (Nat.le_refl _) (Nat.le_refl _) (fun _ _ _ => rfl) d, e⟩, by obtain ⟨p', h1⟩ := h.pos; exact ⟨p', h1.drew⟩, h.chg.drew, h.size⟩
set_option maxHeartbeats 1000000 in
theorem build_cat (w : World) (sb so len cap pb p f : Nat) (dep : Int) (s : Stp) (hs : StpOk s) (hp : p < len) (hlen : len ≤ 1024) (hP : PosAt w pb p len) (hd0 : 0 ≤ dep)
   (s0 : w.cell? ⟨sb, so + p * 5, none⟩ = some (.int .u8 s.op)) (s1 : w.cell? ⟨sb, so + p * 5 + 1, none⟩ = some (.int .i32 s.r)) (s2 : w.cell? ⟨sb, so + p * 5 + 2, none⟩ = some (.int .u8 s.a)) (s3 : w.cell? ⟨sb, so + p * 5 + 3, none⟩ = some (.int .u8 s.b)) (s4 : w.cell? ⟨sb, so + p * 5 + 4, none⟩ = some (.bool s.lz)) (hd : dep < 5) (H : Hid (∀ (W : World) (q : Nat), PosAt W pb q len → Chg [pb] w W → Calls Ybaf.prog 4 #[.slice (some ⟨sb, so, none⟩) len cap, .pointer (some ⟨pb, 0, none⟩), .int .i64 (dep + 1)] W fun e w' => BPost pb len f W e w')) (hop : s.op % 15 + 1 = 10) :
    Calls Ybaf.prog 4 #[.slice (some ⟨sb, so, none⟩) len cap, .pointer (some ⟨pb, 0, none⟩), .int .i64 dep] w fun e w' => BPost pb len (f + 1) w e w' := by
  have hpos : w.cell? ⟨pb, 0, none⟩ = some (.int .i64 (p : Int)) := by rw [cell_of_heap hP.obj]; rfl
  have hpf : w.frozen? ⟨pb, 0, none⟩ = false := frozen_of_heap hP.obj
  have hpb : pb < w.heap.size := lt_of_heap hP.obj
  obtain ⟨hu, hr, ha, hb⟩ := hs
  obtain ⟨u, r, a, b, lz⟩ := s
  simp only at hu hr ha hb s0 s1 s2 s3 s4 hop
  obtain ⟨hu1, hu2⟩ := hu
  obtain ⟨hr1, hr2⟩ := hr
  obtain ⟨ha1, ha2⟩ := ha
  obtain ⟨hb1, hb2⟩ := hb
  obtain ⟨i0, hi, hz0, hz1, hz2⟩ := info_parts info23b
  obtain ⟨h1, h2, h3, h4⟩ := made hP hp #[.int .u8 u, .int .i32 r, .int .u8 a, .int .u8 b, .bool lz] #[.int .u8 10, .slice none 0 0, .int .i32 0, .slice none 0 0, .int .i64 0, .int .i64 0, .bool false, .int .i64 0, .string { data := #[] }]
  have HC : Hid (SubMid w pb len f 10 (.slice none 0 0) [] _) := SubMid.mk h1 ⟨rfl, .inl ⟨rfl, rfl⟩⟩ (fun c hc => by simp at hc) ⟨_, h2⟩ h3 (by rw [h4]; exact Nat.le_refl _)
  obtain ⟨K, hK⟩ : ∃ K : Nat, a % 4 = (K : Int) := ⟨(a % 4).toNat, by omega⟩
  have HK : Hid (0 ≤ K ∧ K ≤ 3) := show 0 ≤ K ∧ K ≤ 3 from by omega
  have hK3 : K ≤ 3 := by omega
  clear h1 h2 h3 h4
  go_enter Ybaf.func4, Ybaf.ntmps4
  go_wp2
  try simp only [hK, decide_eq_false (Nat.not_le.2 hp)]
  go_loopw [15] (fun i wr => ∃ (j : Nat) (sv : Value) (cs : List Nat), j ≤ K ∧ cs.length = j ∧ i = .int .i64 j ∧ SubMid w pb len f 10 sv cs wr) (fun i _ => K - (intOf i).toNat)
  case atStart => exact ⟨0, _, [], Nat.zero_le _, rfl, rfl, HC.out⟩
  case round =>
    obtain ⟨j, sv, cs, hj, hcs, rfl, hM⟩ := hrel
    by_cases hjK : j < K
    · have hjI : (j : Int) < (K : Int) := by omega
      obtain ⟨ra, rc, rfl⟩ := ownsRow_form hM.row
      have m3 : wr.cell? ⟨w.heap.size + 1, 1, none⟩ = some (.slice ra j rc) := by rw [cell_of_heap hM.node, hcs]; rfl
      have hsz1 : w.heap.size + 1 < wr.heap.size := lt_of_heap hM.node
      obtain ⟨q, hq⟩ := hM.pos
      have HM := tuck hM.drew
      have HQ := tuck hq.drew
      clear hM hq
      have hwr : IntKind.i64.wrap (dep + 1) = dep + 1 := by rw [IntKind.wrap_i64]; omega
      go_wp2_with fail
      go_region_law (first | (refine step_append_own rfl (.tmp 170) (.tmp 176) 33 rfl (w.heap.size + 2) 23 i0 _ 1 8 Ybaf.underlying33 hi hz0 hz1 hz2 rfl (by decide) (.slice ra j rc) j _ (by simp [Act.eval]) (HRo.out _) ⟨w1.heap.size, 0, none⟩ 1 1 [.pointer (some ⟨c, 0, none⟩)] (by simp [Act.eval]) rfl HCn.out (by simp [Value.oneCell']) (by unfold maxLen; omega) (by omega) (by have := HL.out; simp; omega) (by decide) ?_; intro g cap2 w2 ho hg hloc; obtain ⟨k1, k2⟩ := HM1.out.grow (g := g) (cap := cap2) hpb HKd.out ((Chg.refl _ _).alloc _) (by rw [hcs]; exact hg) (by rw [hcs]; exact ho) (by rw [hcs]; simpa using hloc); have q4 : w2.cell? ⟨w.heap.size + 1, 1, none⟩ = some (.slice ra j rc) := by { rw [cell_of_heap k1, hcs]; rfl }; have q5 : w2.frozen? ⟨w.heap.size + 1, 1, none⟩ = false := frozen_of_heap k1; rw [hcs] at k2; have HE := tuck k2; clear k1 k2 ho hg hloc) | (go_simp; go_at_call 4; refine (H.out _ q HQ.out HM.out.chg).mono ?_; rintro e w1 ⟨c, rfl, hp⟩; obtain ⟨k1, k2⟩ := HM.out.call hpb hp.1 hp.2.1 hp.2.2; have q1 : w1.cell? ⟨w.heap.size + 1, 1, none⟩ = some (.slice ra j rc) := by { rw [cell_of_heap k1.node, hcs]; rfl }; have q2 : w1.frozen? ⟨w.heap.size + 1, 1, none⟩ = false := frozen_of_heap k1.node; have q3 : w.heap.size + 1 < w1.heap.size := lt_of_heap k1.node; have HL := tuck k1.size; have HRo : Hid (∀ o : Obj, (w1.alloc o).ownsRow (w.heap.size + 2) 23 1 (.slice ra j rc) j (cs.map ptr)) := (fun o => by { have := k1.row; rw [hcs] at this; exact this.alloc o }); have HCn : Hid (∀ j u, ([.pointer (some ⟨c, 0, none⟩)] : List Value)[j]? = some u → (w1.alloc (.cells #[.pointer (some ⟨c, 0, none⟩)] 23)).cell? (Addr.add ⟨w1.heap.size, 0, none⟩ j) = some u) := (fun j u h => cells_of_new (X := #[.pointer (some ⟨c, 0, none⟩)]) (e := 23) h); have HM1 := tuck k1; have HKd := tuck k2; clear hp k1 k2))
      all_goals
        go_wp2
        exact ⟨⟨j + 1, _, cs ++ [c], hjK, by simp [hcs], by go_num, HE.out⟩, by simp [intOf]; omega⟩
    · have hjI : ¬ (j : Int) < (K : Int) := by omega
      have HM := tuck (hM.post (by have := HK.out; refine ⟨by simp, by simp, by simp, .inr (by simp), by simp, ?_, by simp, ?_⟩ <;> simp <;> omega))
      clear hM
      go_wp2
      go_ret
      exact HM.out
set_option maxHeartbeats 1000000 in
theorem build_alt (w : World) (sb so len cap pb p f : Nat) (dep : Int) (s : Stp) (hs : StpOk s) (hp : p < len) (hlen : len ≤ 1024) (hP : PosAt w pb p len) (hd0 : 0 ≤ dep)
   (s0 : w.cell? ⟨sb, so + p * 5, none⟩ = some (.int .u8 s.op)) (s1 : w.cell? ⟨sb, so + p * 5 + 1, none⟩ = some (.int .i32 s.r)) (s2 : w.cell? ⟨sb, so + p * 5 + 2, none⟩ = some (.int .u8 s.a)) (s3 : w.cell? ⟨sb, so + p * 5 + 3, none⟩ = some (.int .u8 s.b)) (s4 : w.cell? ⟨sb, so + p * 5 + 4, none⟩ = some (.bool s.lz)) (hd : dep < 5) (H : Hid (∀ (W : World) (q : Nat), PosAt W pb q len → Chg [pb] w W → Calls Ybaf.prog 4 #[.slice (some ⟨sb, so, none⟩) len cap, .pointer (some ⟨pb, 0, none⟩), .int .i64 (dep + 1)] W fun e w' => BPost pb len f W e w')) (hop : s.op % 15 + 1 = 11) :
    Calls Ybaf.prog 4 #[.slice (some ⟨sb, so, none⟩) len cap, .pointer (some ⟨pb, 0, none⟩), .int .i64 dep] w fun e w' => BPost pb len (f + 1) w e w' := by
  have hpos : w.cell? ⟨pb, 0, none⟩ = some (.int .i64 (p : Int)) := by rw [cell_of_heap hP.obj]; rfl
  have hpf : w.frozen? ⟨pb, 0, none⟩ = false := frozen_of_heap hP.obj
  have hpb : pb < w.heap.size := lt_of_heap hP.obj
  obtain ⟨hu, hr, ha, hb⟩ := hs
  obtain ⟨u, r, a, b, lz⟩ := s
  simp only at hu hr ha hb s0 s1 s2 s3 s4 hop
  obtain ⟨hu1, hu2⟩ := hu
  obtain ⟨hr1, hr2⟩ := hr
  obtain ⟨ha1, ha2⟩ := ha
  obtain ⟨hb1, hb2⟩ := hb
  obtain ⟨i0, hi, hz0, hz1, hz2⟩ := info_parts info23b
  obtain ⟨h1, h2, h3, h4⟩ := made hP hp #[.int .u8 u, .int .i32 r, .int .u8 a, .int .u8 b, .bool lz] #[.int .u8 11, .slice none 0 0, .int .i32 0, .slice none 0 0, .int .i64 0, .int .i64 0, .bool false, .int .i64 0, .string { data := #[] }]
  have HC : Hid (SubMid w pb len f 11 (.slice none 0 0) [] _) := SubMid.mk h1 ⟨rfl, .inl ⟨rfl, rfl⟩⟩ (fun c hc => by simp at hc) ⟨_, h2⟩ h3 (by rw [h4]; exact Nat.le_refl _)
  obtain ⟨K, hK⟩ : ∃ K : Nat, a % 3 + 1 = (K : Int) := ⟨(a % 3 + 1).toNat, by omega⟩
  have HK : Hid (1 ≤ K ∧ K ≤ 3) := show 1 ≤ K ∧ K ≤ 3 from by omega
  have hK3 : K ≤ 3 := by omega
  clear h1 h2 h3 h4
  go_enter Ybaf.func4, Ybaf.ntmps4
  go_wp2
  try simp only [decide_eq_false (Nat.not_le.2 hp)]
  go_loopw [17] (fun i wr => ∃ (j : Nat) (sv : Value) (cs : List Nat), j ≤ K ∧ cs.length = j ∧ i = .int .i64 j ∧ SubMid w pb len f 11 sv cs wr) (fun i _ => K - (intOf i).toNat)
  case atStart => exact ⟨0, _, [], Nat.zero_le _, rfl, rfl, HC.out⟩
  case round =>
    obtain ⟨j, sv, cs, hj, hcs, rfl, hM⟩ := hrel
    by_cases hjK : j < K
    · have hjI : (j : Int) < (K : Int) := by omega
      obtain ⟨ra, rc, rfl⟩ := ownsRow_form hM.row
      have m3 : wr.cell? ⟨w.heap.size + 1, 1, none⟩ = some (.slice ra j rc) := by rw [cell_of_heap hM.node, hcs]; rfl
      have hsz1 : w.heap.size + 1 < wr.heap.size := lt_of_heap hM.node
      obtain ⟨q, hq⟩ := hM.pos
      have HM := tuck hM.drew
      have HQ := tuck hq.drew
      clear hM hq
      have hwr : IntKind.i64.wrap (dep + 1) = dep + 1 := by rw [IntKind.wrap_i64]; omega
      go_wp2_with fail
      go_region_law (first | (refine step_append_own rfl (.tmp 196) (.tmp 202) 33 rfl (w.heap.size + 2) 23 i0 _ 1 8 Ybaf.underlying33 hi hz0 hz1 hz2 rfl (by decide) (.slice ra j rc) j _ (by simp [Act.eval]) (HRo.out _) ⟨w1.heap.size, 0, none⟩ 1 1 [.pointer (some ⟨c, 0, none⟩)] (by simp [Act.eval]) rfl HCn.out (by simp [Value.oneCell']) (by unfold maxLen; omega) (by omega) (by have := HL.out; simp; omega) (by decide) ?_; intro g cap2 w2 ho hg hloc; obtain ⟨k1, k2⟩ := HM1.out.grow (g := g) (cap := cap2) hpb HKd.out ((Chg.refl _ _).alloc _) (by rw [hcs]; exact hg) (by rw [hcs]; exact ho) (by rw [hcs]; simpa using hloc); have q4 : w2.cell? ⟨w.heap.size + 1, 1, none⟩ = some (.slice ra j rc) := by { rw [cell_of_heap k1, hcs]; rfl }; have q5 : w2.frozen? ⟨w.heap.size + 1, 1, none⟩ = false := frozen_of_heap k1; rw [hcs] at k2; have HE := tuck k2; clear k1 k2 ho hg hloc) | (go_simp; go_at_call 4; refine (H.out _ q HQ.out HM.out.chg).mono ?_; rintro e w1 ⟨c, rfl, hp⟩; obtain ⟨k1, k2⟩ := HM.out.call hpb hp.1 hp.2.1 hp.2.2; have q1 : w1.cell? ⟨w.heap.size + 1, 1, none⟩ = some (.slice ra j rc) := by { rw [cell_of_heap k1.node, hcs]; rfl }; have q2 : w1.frozen? ⟨w.heap.size + 1, 1, none⟩ = false := frozen_of_heap k1.node; have q3 : w.heap.size + 1 < w1.heap.size := lt_of_heap k1.node; have HL := tuck k1.size; have HRo : Hid (∀ o : Obj, (w1.alloc o).ownsRow (w.heap.size + 2) 23 1 (.slice ra j rc) j (cs.map ptr)) := (fun o => by { have := k1.row; rw [hcs] at this; exact this.alloc o }); have HCn : Hid (∀ j u, ([.pointer (some ⟨c, 0, none⟩)] : List Value)[j]? = some u → (w1.alloc (.cells #[.pointer (some ⟨c, 0, none⟩)] 23)).cell? (Addr.add ⟨w1.heap.size, 0, none⟩ j) = some u) := (fun j u h => cells_of_new (X := #[.pointer (some ⟨c, 0, none⟩)]) (e := 23) h); have HM1 := tuck k1; have HKd := tuck k2; clear hp k1 k2))
      all_goals
        go_wp2
        exact ⟨⟨j + 1, _, cs ++ [c], hjK, by simp [hcs], by go_num, HE.out⟩, by simp [intOf]; omega⟩
    · have hjI : ¬ (j : Int) < (K : Int) := by omega
      have HM := tuck (hM.post (by have := HK.out; refine ⟨by simp, by simp, by simp, .inr (by simp), by simp, ?_, by simp, ?_⟩ <;> simp <;> omega))
      clear hM
      go_wp2
      go_ret
      exact HM.out
end Go.Proofs.YbulkdjmsFmt
