import Derived.Test.YbulkdjmsFmtLawRows
import Derived.LoopTactic
import Derived.Outline
import Derived.Deep.QuietTactic
import Derived.BigQuiet
import Derived.Deep.RegionWith
/-! The law's own walk. -/
namespace Go.Proofs.YbulkdjmsFmt
open Go.RowKit Plain
set_option maxRecDepth 100000
theorem law_long (w : World) (sa : Option Addr) (n cap : Nat) (pre plb nx : Int) (hlen : ¬ n ≤ 1024) :
    Calls Ybaf.prog 3 #[.slice sa n cap, .int .u8 pre, .int .u8 plb, .int .i64 nx] w fun e w' => e = .returned (.bool true) ∧ Below w.heap.size w w' := by
  have hnI : (1024 : Int) < (n : Int) := by omega
  go_enter Ybaf.func3, Ybaf.ntmps3
  go_wp2
  go_ret
  exact ⟨rfl, Below.refl _ _⟩
theorem run_len_ptrmap (w : World) (bm : Nat) (es : Array MapEntry) (cl n : Nat) (hb : w.heap[bm]? = some (.map es cl)) (hn : es.size = n) : (Builtin.len_ #[27] 3 #[.map (some bm)]).run Ybaf.prog w = .ok (.int .i64 (n : Int)) w := by
  simp [Builtin.len_, run_underlying Ybaf.underlying27, MapKept.run_getObj_map hb, goInt, hn]
theorem both_next {w w' wt : World} {B bc bo bm : Nat} {s s2 : St} {iv lv iv2 lv2 kv vv : Value} (h : CompAt w B bc s iv lv bm ∧ GenAt w B bo s2 iv2 lv2 kv vv ∧ Below B wt w) (hc : Chg [] w w') :
    (CompAt w' B bc s iv lv bm ∧ GenAt w' B bo s2 iv2 lv2 kv vv ∧ Below B wt w') ∧ w'.cell? ⟨bc, 1, none⟩ = some lv ∧ w'.cell? ⟨bc, 2, none⟩ = some (.map (some bm)) ∧ w'.cell? ⟨bo, 1, none⟩ = some lv2 ∧ w'.cell? ⟨bo, 2, none⟩ = some kv ∧ w'.cell? ⟨bo, 3, none⟩ = some vv := by
  have k1 := h.1.keep hc (no55_nil _) (fun k _ hk => by cases hk)
  have k2 := h.2.1.keep hc (no55_nil _) (fun k _ hk => by cases hk)
  refine ⟨⟨k1, k2, h.2.2.trans (hc.below h.1.hB (fun k hk => by cases hk))⟩, ?_, ?_, ?_, ?_, ?_⟩
  · rw [cell_of_heap k1.obj]; rfl
  · rw [cell_of_heap k1.obj]; rfl
  · rw [cell_of_heap k2.obj]; rfl
  · rw [cell_of_heap k2.obj]; rfl
  · rw [cell_of_heap k2.obj]; rfl
theorem look3 {w wt W : World} {bc bo bm kn vn : Nat} {r : St} {iv lv iv2 lv2 : Value} {ka va : Option Addr} {kc vc : Nat} (h : CompAt w wt.heap.size bc r iv lv bm ∧ GenAt w wt.heap.size bo r iv2 lv2 (.slice ka kn kc) (.slice va vn vc) ∧ Below wt.heap.size wt w) (hg : Plain.Good (IsNode wt) r) (hc : Chg [] w W) {j : Nat} (hj : j < r.keys.length) :
    ∃ g1 g2 k v, ka = some ⟨g1, 0, none⟩ ∧ va = some ⟨g2, 0, none⟩ ∧ W.cell? ⟨g1, j, none⟩ = some (.pointer (some ⟨k, 0, none⟩)) ∧ W.cell? ⟨g2, j, none⟩ = some (.int .i64 v) ∧ ∀ q, (Instr.lookup 27 (.map (some bm)) (.pointer (some ⟨k, 0, none⟩)) true).run Ybaf.prog (W.drewN q) = .ok (.tuple #[.int .i64 v, .bool true]) (W.drewN q) := by
  have hk := List.getElem?_eq_getElem hj
  have hv := List.getElem?_eq_getElem (show j < r.vals.length by have := hg.1; omega)
  obtain ⟨a1, c1, e1, _, x1⟩ := row_cells h.2.1.keys
  obtain ⟨a2, c2, e2, _, x2⟩ := row_cells h.2.1.vals
  cases e1
  cases e2
  obtain ⟨g1, rfl, y1⟩ := x1 W hc j (ptr r.keys[j]) (by simp [hj])
  obtain ⟨g2, rfl, y2⟩ := x2 W hc j (.int .i64 (r.vals[j]'(by have := hg.1; omega))) (by simp [hv])
  refine ⟨g1, g2, r.keys[j], r.vals[j]'(by have := hg.1; omega), rfl, rfl, y1, y2, fun q => ?_⟩
  have hW := (both_next h (hc.drewN q)).1
  have hcell : ∀ k ∈ r.keys, Cells (W.drewN q) k := fun k hm => (hg.2.2 k hm).cells.below hW.2.2
  have := run_lookup_ptr (W.drewN q) bm r.keys[j] r hW.1.map (hcell _ (List.getElem_mem hj)) hcell
  rw [findK_at hg.2.1 hk hv] at this
  exact this
set_option maxHeartbeats 4000000 in
theorem law_short (w : World) (sa : Option Addr) (n cap : Nat) (pre plb nx : Int) (hlen : n ≤ 1024) (hp : 0 ≤ pre ∧ pre ≤ 255) (hq : 0 ≤ plb ∧ plb ≤ 255)
    (HB : Hid (Calls Ybaf.prog 4 #[.slice sa n cap, .pointer (some ⟨w.heap.size, 0, none⟩), .int .i64 0] (w.alloc (.cells #[.int .i64 0] 3)) fun e w' => ∃ (c : Nat) (T : Nat → Nd), e = .returned (.pointer (some ⟨c, 0, none⟩)) ∧ TreeAt w' T 6 c ∧ Anch w' ∧ Below w.heap.size w w')) :
    Calls Ybaf.prog 3 #[.slice sa n cap, .int .u8 pre, .int .u8 plb, .int .i64 nx] w fun e w' => e = .returned (.bool true) ∧ Below w.heap.size w w' := by
  have hnI : ¬ (1024 : Int) < (n : Int) := by omega
  obtain ⟨i0, hi, hz0, hz1, hz2⟩ := info_parts info41
  obtain ⟨l0, li, lz0, lz1, lz2⟩ := info_parts info43
  obtain ⟨NP, hNP⟩ : ∃ K : Nat, pre % 4 = (K : Int) := ⟨(pre % 4).toNat, by omega⟩
  obtain ⟨NL, hNL⟩ : ∃ K : Nat, plb % 3 = (K : Int) := ⟨(plb % 3).toNat, by omega⟩
  have hNP3 : NP ≤ 3 := by omega
  have hNL3 : NL ≤ 2 := by omega
  go_enter Ybaf.func3, Ybaf.ntmps3
  go_wp2_with fail
  refine HB.out.mono ?_
  rintro e wt ⟨c, T, rfl, hT, hA, hbel0⟩
  have hmm := @run_makeMap Ybaf.prog
  have HT := tuck hT
  have HAn := tuck hA
  have HBel := tuck hbel0
  have HN := tuck (both_new wt)
  clear hT hA hbel0
  go_wp2_with fail
  simp only [hNP, hNL]
  go_loopw [15] (fun i wr => ∃ (j : Nat) (s : St), j ≤ NP ∧ s.ins.length = j ∧ s.lbs = [] ∧ s.keys = [] ∧ s.vals = [] ∧ i = .int .i64 j ∧ Both wt.heap.size (wt.heap.size + 1) (wt.heap.size + 1 + 1) s s wr ∧ Below wt.heap.size wt wr) (fun i _ => NP - (intOf i).toNat)
  case atStart => exact ⟨0, ⟨[], [], [], []⟩, Nat.zero_le _, rfl, rfl, rfl, rfl, rfl, HN.out.1, HN.out.2⟩
  case round =>
    clear hmm HB HN
    obtain ⟨j, s, hj, hsl, hlb, hks, hvs, rfl, hB, hbel⟩ := hrel
    by_cases hjn : j < NP
    · have hjI : (j : Int) < (NP : Int) := by omega
      obtain ⟨iv, lv, bm, iv2, lv2, kv, vv, h1, h2, h3⟩ := hB
      obtain ⟨rvs, hl, hown, hr⟩ := h1.ins
      obtain ⟨ia, ic, rfl⟩ := ownsRow_form hown
      have c0 : wr.cell? ⟨wt.heap.size + 1, 0, none⟩ = some (.slice ia j ic) := by rw [cell_of_heap h1.obj, hsl]; rfl
      have z0 : wt.heap.size + 1 < wr.heap.size := lt_of_heap h1.obj
      have z1 : wt.heap.size + 1 + 1 < wr.heap.size := lt_of_heap h2.obj
      have HRo : Hid (∀ o : Obj, (wr.alloc o).ownsRow wt.heap.size 41 7 (.slice ia j ic) j (flat s.ins rvs)) := tuck fun o => by rw [hsl] at hown; exact hown.alloc o
      have HL : Hid (wt.heap.size ≤ wr.heap.size) := tuck h1.hB
      have HE : Hid (∀ (w2 : World) (g cap : Nat), (wr.alloc (.cells #[.int .u8 1, .int .u8 0, .int .i64 (j : Int), .int .i64 0, .slice none 0 0, .int .i64 0, .int .i64 0] 41)).grownBy w2 (Value.slice ia j ic).ownBlock → w2.ownsRow wt.heap.size 41 7 (.slice (some ⟨g, 0, none⟩) (j + 1) cap) (j + 1) (flat s.ins rvs ++ [.int .u8 1, .int .u8 0, .int .i64 (j : Int), .int .i64 0, .slice none 0 0, .int .i64 0, .int .i64 0]) →
          ((Value.slice ia j ic).ownBlock = some g ∨ g = (wr.alloc (.cells #[.int .u8 1, .int .u8 0, .int .i64 (j : Int), .int .i64 0, .slice none 0 0, .int .i64 0, .int .i64 0] 41)).heap.size) → _) := tuck fun w2 g cap hg ho hloc => emit_both (j := (j : Int)) (g := g) (cap := cap) h1 h2 h3 hl hr ((Chg.refl _ _).alloc _) (by rw [hsl]; exact hg) (by rw [hsl]; exact ho) (by rw [hsl]; exact hloc)
      have Hbel := tuck hbel
      clear h1 h2 h3 hown hr hl hbel
      go_wp2_with (at_builtin; refine wpList_append_some _ rfl (.tmp 47) (.tmp 50) 28 rfl wt.heap.size 41 i0 _ 7 64 Ybaf.underlying28 hi hz0 hz1 hz2 rfl (by decide) (.slice ia j ic) j _ rfl (HRo.out _) ⟨wr.heap.size, 0, none⟩ 1 1 [.int .u8 1, .int .u8 0, .int .i64 (j : Int), .int .i64 0, .slice none 0 0, .int .i64 0, .int .i64 0] rfl rfl (fun k u h => cells_of_new (X := #[.int .u8 1, .int .u8 0, .int .i64 (j : Int), .int .i64 0, .slice none 0 0, .int .i64 0, .int .i64 0]) (e := 41) h) (by simp [Value.oneCell']) (by unfold maxLen; omega) (by omega) (by have := HL.out; simp; omega) (by decide) ?_)
      intro g cap2 w2 ho hg hloc
      obtain ⟨k1, k2, k3, iv', lv', bm', p1, p2, p3⟩ := HE.out w2 g cap2 hg ho (by simpa using hloc)
      rw [hsl] at k1 k3 p1 p2
      clear HRo HE ho hg hloc
      obtain ⟨rvs2, hl2, hown2, hr2⟩ := p2.ins
      obtain ⟨ia2, ic2, rfl⟩ := ownsRow_form hown2
      have q1 : w2.cell? ⟨wt.heap.size + 1, 0, none⟩ = some (.slice ia j ic) := by rw [cell_of_heap k1]; rfl
      have q2 : w2.frozen? ⟨wt.heap.size + 1, 0, none⟩ = false := frozen_of_heap k1
      have q3 : w2.cell? ⟨wt.heap.size + 1 + 1, 0, none⟩ = some (.slice ia2 j ic2) := by rw [cell_of_heap k2, hsl]; rfl
      have z2 : wt.heap.size + 1 < w2.heap.size := lt_of_heap k1
      have z3 : wt.heap.size + 1 + 1 < w2.heap.size := lt_of_heap k2
      have HRo : Hid (∀ o : Obj, ((w2.setCell ⟨wt.heap.size + 1, 0, none⟩ (.slice (some ⟨g, 0, none⟩) (j + 1) cap2)).alloc o).ownsRow wt.heap.size 41 7 (.slice ia2 j ic2) j (flat s.ins rvs2)) := tuck fun o => by rw [hsl] at hown2; exact hown2.alloc o
      have HL2 : Hid (wt.heap.size ≤ w2.heap.size) := tuck (by have := p2.hB; simpa using this)
      have HE : Hid (∀ (w3 : World) (g' cap : Nat), ((w2.setCell ⟨wt.heap.size + 1, 0, none⟩ (.slice (some ⟨g, 0, none⟩) (j + 1) cap2)).alloc (.cells #[.int .u8 1, .int .u8 0, .int .i64 (j : Int), .int .i64 0, .slice none 0 0, .int .i64 0, .int .i64 0] 41)).grownBy w3 (Value.slice ia2 j ic2).ownBlock → w3.ownsRow wt.heap.size 41 7 (.slice (some ⟨g', 0, none⟩) (j + 1) cap) (j + 1) (flat s.ins rvs2 ++ [.int .u8 1, .int .u8 0, .int .i64 (j : Int), .int .i64 0, .slice none 0 0, .int .i64 0, .int .i64 0]) →
          ((Value.slice ia2 j ic2).ownBlock = some g' ∨ g' = ((w2.setCell ⟨wt.heap.size + 1, 0, none⟩ (.slice (some ⟨g, 0, none⟩) (j + 1) cap2)).alloc (.cells #[.int .u8 1, .int .u8 0, .int .i64 (j : Int), .int .i64 0, .slice none 0 0, .int .i64 0, .int .i64 0] 41)).heap.size) → _) := tuck fun w3 g' cap hg ho hloc => put_both (j := (j : Int)) (g := g') (cap := cap) p1 p2 p3 hl2 hown2 hr2 ((Chg.refl _ _).alloc _) (by rw [hsl]; exact hg) (by rw [hsl]; exact ho) (by rw [hsl]; exact hloc)
      have HCn : Hid (∀ k u, ([.int .u8 1, .int .u8 0, .int .i64 (j : Int), .int .i64 0, .slice none 0 0, .int .i64 0, .int .i64 0] : List Value)[k]? = some u → ((w2.setCell ⟨wt.heap.size + 1, 0, none⟩ (.slice (some ⟨g, 0, none⟩) (j + 1) cap2)).alloc (.cells #[.int .u8 1, .int .u8 0, .int .i64 (j : Int), .int .i64 0, .slice none 0 0, .int .i64 0, .int .i64 0] 41)).cell? (Addr.add ⟨w2.heap.size, 0, none⟩ k) = some u) := tuck fun k u h => by
        have := cells_of_new (W := (w2.setCell ⟨wt.heap.size + 1, 0, none⟩ (.slice (some ⟨g, 0, none⟩) (j + 1) cap2))) (X := #[.int .u8 1, .int .u8 0, .int .i64 (j : Int), .int .i64 0, .slice none 0 0, .int .i64 0, .int .i64 0]) (e := 41) h
        rw [World.size_setCell] at this
        exact this
      have Hbel2 := tuck (Hbel.out.trans k3)
      clear p1 p2 p3 hown2 hr2 hl2 k1 k2 k3
      go_wp2_with (at_builtin; refine wpList_append_some _ rfl (.tmp 58) (.tmp 61) 28 rfl wt.heap.size 41 i0 _ 7 64 Ybaf.underlying28 hi hz0 hz1 hz2 rfl (by decide) (.slice ia2 j ic2) j _ rfl (HRo.out _) ⟨w2.heap.size, 0, none⟩ 1 1 [.int .u8 1, .int .u8 0, .int .i64 (j : Int), .int .i64 0, .slice none 0 0, .int .i64 0, .int .i64 0] rfl rfl HCn.out (by simp [Value.oneCell']) (by unfold maxLen; omega) (by omega) (by have := HL2.out; simp; omega) (by decide) ?_)
      intro g3 cap3 w3 ho hg hloc
      obtain ⟨k1, k2, k3⟩ := HE.out w3 g3 cap3 hg ho (by simpa using hloc)
      rw [hsl] at k2 k3
      have q4 : w3.cell? ⟨wt.heap.size + 1 + 1, 0, none⟩ = some (.slice ia2 j ic2) := by rw [cell_of_heap k1, hsl]; rfl
      have q5 : w3.frozen? ⟨wt.heap.size + 1 + 1, 0, none⟩ = false := frozen_of_heap k1
      have HEnd := tuck (And.intro k2 (Hbel2.out.trans k3))
      clear HRo HE HCn ho hg hloc k1 k2 k3
      go_wp2
      exact ⟨⟨j + 1, (s.put ⟨1, 0, (j : Int), 0, [], 0, 0⟩).2, hjn, by simp [St.put, hsl], hlb, hks, hvs, by go_num, HEnd.out.1, HEnd.out.2⟩, by simp [intOf]; omega⟩
    · have hjI : ¬ (j : Int) < (NP : Int) := by omega
      have HBo := tuck hB
      have Hbel := tuck hbel
      clear hB hbel
      have hins : s.ins.length ≤ 3 := by omega
      go_wp2_with fail
      go_loopw [16] (fun i wr => ∃ (j : Nat) (s : St), j ≤ NL ∧ s.ins.length ≤ 3 ∧ s.lbs.length = j ∧ s.keys = [] ∧ s.vals = [] ∧ i = .int .i64 j ∧ Both wt.heap.size (wt.heap.size + 1) (wt.heap.size + 1 + 1) s s wr ∧ Below wt.heap.size wt wr) (fun i _ => NL - (intOf i).toNat)
      case atStart => exact ⟨0, s, Nat.zero_le _, hins, by rw [hlb]; rfl, hks, hvs, rfl, HBo.out, Hbel.out⟩
      case round =>
        clear HBo Hbel hins hlb hsl hks hvs
        clear s
        obtain ⟨j2, s, hj2, hins, hsl, hks, hvs, rfl, hB, hbel⟩ := hrel
        by_cases hjn2 : j2 < NL
        · have hjI2 : (j2 : Int) < (NL : Int) := by omega
          obtain ⟨iv, lv, bm, iv2, lv2, kv, vv, h1, h2, h3⟩ := hB
          have hown := h1.lbs
          obtain ⟨ia, ic, rfl⟩ := ownsRow_form hown
          have c0 : wr.cell? ⟨wt.heap.size + 1, 1, none⟩ = some (.slice ia j2 ic) := by rw [cell_of_heap h1.obj, hsl]; rfl
          have z0 : wt.heap.size + 1 < wr.heap.size := lt_of_heap h1.obj
          have z1 : wt.heap.size + 1 + 1 < wr.heap.size := lt_of_heap h2.obj
          have HRo : Hid (∀ o : Obj, (wr.alloc o).ownsRow wt.heap.size 43 1 (.slice ia j2 ic) j2 (s.lbs.map (Value.int .i64))) := tuck fun o => by rw [hsl] at hown; exact hown.alloc o
          have HL : Hid (wt.heap.size ≤ wr.heap.size) := tuck h1.hB
          have HE : Hid (∀ (w2 : World) (g cap : Nat), (wr.alloc (.cells #[.int .i64 (j2 : Int)] 43)).grownBy w2 (Value.slice ia j2 ic).ownBlock → w2.ownsRow wt.heap.size 43 1 (.slice (some ⟨g, 0, none⟩) (j2 + 1) cap) (j2 + 1) (s.lbs.map (Value.int .i64) ++ [.int .i64 (j2 : Int)]) →
              ((Value.slice ia j2 ic).ownBlock = some g ∨ g = (wr.alloc (.cells #[.int .i64 (j2 : Int)] 43)).heap.size) → _) := tuck fun w2 g cap hg ho hloc => lb_both (j := (j2 : Int)) (g := g) (cap := cap) h1 h2 h3 ((Chg.refl _ _).alloc _) (by rw [hsl]; exact hg) (by rw [hsl]; exact ho) (by rw [hsl]; exact hloc)
          have Hbel := tuck hbel
          clear h1 h2 h3 hown hbel
          go_wp2_with (at_builtin; refine wpList_append_some _ rfl (.tmp 74) (.tmp 77) 29 rfl wt.heap.size 43 l0 _ 1 8 Ybaf.underlying29 li lz0 lz1 lz2 rfl (by decide) (.slice ia j2 ic) j2 _ rfl (HRo.out _) ⟨wr.heap.size, 0, none⟩ 1 1 [.int .i64 (j2 : Int)] rfl rfl (fun k u h => cells_of_new (X := #[.int .i64 (j2 : Int)]) (e := 43) h) (by simp [Value.oneCell']) (by unfold maxLen; omega) (by omega) (by have := HL.out; simp; omega) (by decide) ?_)
          intro g cap2 w2 ho hg hloc
          obtain ⟨k1, k2, k3, iv', lv', bm', p1, p2, p3⟩ := HE.out w2 g cap2 hg ho (by simpa using hloc)
          rw [hsl] at k1 k3 p1 p2
          clear HRo HE ho hg hloc
          have hown2 := p2.lbs
          obtain ⟨ia2, ic2, rfl⟩ := ownsRow_form hown2
          have q1 : w2.cell? ⟨wt.heap.size + 1, 1, none⟩ = some (.slice ia j2 ic) := by rw [cell_of_heap k1]; rfl
          have q2 : w2.frozen? ⟨wt.heap.size + 1, 1, none⟩ = false := frozen_of_heap k1
          have q3 : w2.cell? ⟨wt.heap.size + 1 + 1, 1, none⟩ = some (.slice ia2 j2 ic2) := by rw [cell_of_heap k2, hsl]; rfl
          have z2 : wt.heap.size + 1 < w2.heap.size := lt_of_heap k1
          have z3 : wt.heap.size + 1 + 1 < w2.heap.size := lt_of_heap k2
          have HRo : Hid (∀ o : Obj, ((w2.setCell ⟨wt.heap.size + 1, 1, none⟩ (.slice (some ⟨g, 0, none⟩) (j2 + 1) cap2)).alloc o).ownsRow wt.heap.size 43 1 (.slice ia2 j2 ic2) j2 (s.lbs.map (Value.int .i64))) := tuck fun o => by rw [hsl] at hown2; exact hown2.alloc o
          have HL2 : Hid (wt.heap.size ≤ w2.heap.size) := tuck (by have := p2.hB; simpa using this)
          have HE : Hid (∀ (w3 : World) (g' cap : Nat), ((w2.setCell ⟨wt.heap.size + 1, 1, none⟩ (.slice (some ⟨g, 0, none⟩) (j2 + 1) cap2)).alloc (.cells #[.int .i64 (j2 : Int)] 43)).grownBy w3 (Value.slice ia2 j2 ic2).ownBlock → w3.ownsRow wt.heap.size 43 1 (.slice (some ⟨g', 0, none⟩) (j2 + 1) cap) (j2 + 1) (s.lbs.map (Value.int .i64) ++ [.int .i64 (j2 : Int)]) →
              ((Value.slice ia2 j2 ic2).ownBlock = some g' ∨ g' = ((w2.setCell ⟨wt.heap.size + 1, 1, none⟩ (.slice (some ⟨g, 0, none⟩) (j2 + 1) cap2)).alloc (.cells #[.int .i64 (j2 : Int)] 43)).heap.size) → _) := tuck fun w3 g' cap hg ho hloc => lbg_both (j := (j2 : Int)) (g := g') (cap := cap) p1 p2 p3 ((Chg.refl _ _).alloc _) (by rw [hsl]; exact hg) (by rw [hsl]; exact ho) (by rw [hsl]; exact hloc)
          have HCn : Hid (∀ k u, ([.int .i64 (j2 : Int)] : List Value)[k]? = some u → ((w2.setCell ⟨wt.heap.size + 1, 1, none⟩ (.slice (some ⟨g, 0, none⟩) (j2 + 1) cap2)).alloc (.cells #[.int .i64 (j2 : Int)] 43)).cell? (Addr.add ⟨w2.heap.size, 0, none⟩ k) = some u) := tuck fun k u h => by
            have := cells_of_new (W := (w2.setCell ⟨wt.heap.size + 1, 1, none⟩ (.slice (some ⟨g, 0, none⟩) (j2 + 1) cap2))) (X := #[.int .i64 (j2 : Int)]) (e := 43) h
            rw [World.size_setCell] at this
            exact this
          have Hbel2 := tuck (Hbel.out.trans k3)
          clear p1 p2 p3 hown2 k1 k2 k3
          go_wp2_with (at_builtin; refine wpList_append_some _ rfl (.tmp 85) (.tmp 88) 29 rfl wt.heap.size 43 l0 _ 1 8 Ybaf.underlying29 li lz0 lz1 lz2 rfl (by decide) (.slice ia2 j2 ic2) j2 _ rfl (HRo.out _) ⟨w2.heap.size, 0, none⟩ 1 1 [.int .i64 (j2 : Int)] rfl rfl HCn.out (by simp [Value.oneCell']) (by unfold maxLen; omega) (by omega) (by have := HL2.out; simp; omega) (by decide) ?_)
          intro g3 cap3 w3 ho hg hloc
          obtain ⟨k1, k2, k3⟩ := HE.out w3 g3 cap3 hg ho (by simpa using hloc)
          rw [hsl] at k2 k3
          have q4 : w3.cell? ⟨wt.heap.size + 1 + 1, 1, none⟩ = some (.slice ia2 j2 ic2) := by rw [cell_of_heap k1, hsl]; rfl
          have q5 : w3.frozen? ⟨wt.heap.size + 1 + 1, 1, none⟩ = false := frozen_of_heap k1
          have HEnd := tuck (And.intro k2 (Hbel2.out.trans k3))
          clear HRo HE HCn ho hg hloc k1 k2 k3
          go_wp2
          exact ⟨⟨j2 + 1, { s with lbs := s.lbs ++ [(j2 : Int)] }, hjn2, hins, by simp [hsl], hks, hvs, by go_num, HEnd.out.1, HEnd.out.2⟩, by simp [intOf]; omega⟩
        · have hjI2 : ¬ (j2 : Int) < (NL : Int) := by omega
          have hlb : s.lbs.length ≤ 2 := by omega
          have hgood : Plain.Good (IsNode wt) s := ⟨by rw [hks, hvs]; rfl, by rw [hks]; simp, by rw [hks]; simp⟩
          have hsz : sz s + bnd 6 < 1099511627776 := by
            have e : sz s = s.ins.length + s.lbs.length + s.keys.length + s.vals.length := rfl
            rw [hks, hvs] at e
            have e2 : bnd 6 = 10920 := rfl
            simp at e
            omega
          have H5 := tuck (hB.call5 nx hbel HAn.out HT.out hgood hsz)
          have H6 := tuck (fun (s1 : St) (w1 : World) (h : Both wt.heap.size (wt.heap.size + 1) (wt.heap.size + 1 + 1) s1 s w1) (hb : Below wt.heap.size wt w1) => h.call6 nx hb HT.out hgood hsz)
          have HG := tuck ((comp_ext HT.out nx s).good hgood)
          have HK40 : Hid ((comp T 6 c nx s).2.keys.length < 1099511627776) := tuck (by have e := (comp_ext HT.out nx s).size; have e2 : (comp T 6 c nx s).2.keys.length ≤ sz (comp T 6 c nx s).2 := by { unfold sz; omega }; omega)
          generalize comp T 6 c nx s = r at H5 H6 HG HK40
          clear hB hbel hgood hsz HT HAn
          go_wp2_with fail
          refine H5.out.mono ?_
          rintro e w1 ⟨rfl, hp1⟩
          have HP1 := tuck hp1
          clear hp1 H5
          go_wp2_with fail
          refine (H6.out _ _ HP1.out.1 HP1.out.2).mono ?_
          rintro e w2 ⟨rfl, hp1⟩
          clear HP1 H6
          obtain ⟨⟨iv, lv, bm, iv2, lv2, kv, vv, h1, h2, h3⟩, hb2⟩ := hp1
          obtain ⟨ka, kc, rfl⟩ := ownsRow_form h2.keys
          obtain ⟨va, vc, rfl⟩ := ownsRow_form h2.vals
          have c0 : w2.cell? ⟨wt.heap.size + 1, 0, none⟩ = some iv := by rw [cell_of_heap h1.obj]; rfl
          have c1 : w2.cell? ⟨wt.heap.size + 1 + 1, 0, none⟩ = some iv2 := by rw [cell_of_heap h2.obj]; rfl
          have HI := tuck (eqins_of (h1.ins.keep ((Chg.refl [] w2).drew) (no55_nil _) (fun k _ hk => by cases hk)) (h2.ins.keep ((Chg.refl [] w2).drew) (no55_nil _) (fun k _ hk => by cases hk)))
          have HD := tuck (And.intro h1 (And.intro h2 hb2))
          clear h1 h2 h3 hb2
          go_wp2_with fail
          go_region_with (go_at_call 7; refine HI.out.mono ?_; rintro e w3 ⟨rfl, hp3⟩; obtain ⟨hd, c2, c3, c4, c5, c6⟩ := both_next HD.out ((Chg.refl [] w2).drew.trans hp3 (by simp)); have HI2 := tuck (eqlb_of (both_next hd (Chg.refl [] w3).drew).1.1.lbs (both_next hd (Chg.refl [] w3).drew).1.2.1.lbs); have HD3 := tuck hd; clear hp3 hd HD HI)
          all_goals
            go_wp2_with fail
            go_region_with (go_at_call 8; refine HI2.out.mono ?_; rintro e w4 ⟨rfl, hp4⟩; obtain ⟨hd, d2, d3, d4, d5, d6⟩ := both_next HD3.out ((Chg.refl [] w3).drew.trans hp4 (by simp)); obtain ⟨es, cl, hmp, hek, hev⟩ := hd.1.map; have hlen27 := (fun q : Nat => run_len_ptrmap (w4.drewN q) bm es cl r.2.keys.length hmp (by have := congrArg List.length hek; simpa using this)); have HD4 := tuck hd; have HMk := tuck (And.intro hek hev); clear hp4 hd HD3 HI2 hek hev)
            all_goals
              go_wp2_with fail
              go_quiet (fail)
              go_wp2_with fail
              go_loopw [19] (fun i wr => ∃ j3 : Nat, j3 ≤ r.2.keys.length ∧ i = .int .i64 j3 ∧ Chg [] w4 wr) (fun i _ => r.2.keys.length - (intOf i).toNat)
              case atStart => exact ⟨0, Nat.zero_le _, rfl, (Chg.refl [] w4).drewN _⟩
              case round =>
                obtain ⟨j3, hj3, rfl, hC⟩ := hrel
                obtain ⟨hd, f2, f3, f4, f5, f6⟩ := both_next HD4.out hC
                have HC := tuck hC
                have HF := tuck hd.2.2
                clear hd d2 d3 d4 d5 d6 c0 c1 c2 c3 c4 c5 c6 hlen27 hmp
                by_cases hjn3 : j3 < r.2.keys.length
                · have hjI3 : (j3 : Int) < (r.2.keys.length : Int) := by omega
                  have hjV3 : (j3 : Int) < (r.2.vals.length : Int) := by have := HG.out.1; omega
                  have hk40 : r.2.keys.length < 1099511627776 := HK40.out
                  obtain ⟨g1, g2, k, v, rfl, rfl, y1, y2, y3⟩ := look3 HD4.out HG.out hC hjn3
                  clear hC
                  go_wp2_with fail
                  go_quiet (fail)
                  go_wp2
                  exact ⟨⟨j3 + 1, hjn3, by go_num, HC.out.drewN _⟩, by simp [intOf]; omega⟩
                · have hjI3 : ¬ (j3 : Int) < (r.2.keys.length : Int) := by omega
                  clear hC
                  go_wp2
                  go_ret
                  exact ⟨rfl, HBel.out.trans (HF.out.mono HBel.out.size)⟩
end Go.Proofs.YbulkdjmsFmt
