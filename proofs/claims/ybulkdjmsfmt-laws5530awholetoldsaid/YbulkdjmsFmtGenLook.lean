import Derived.Test.YbulkdjmsFmtGenC
import Derived.Test.YbulkdjmsFmtGenRows
import Derived.Test.YbulkdjmsFmtLook
import Derived.LoopTactic
import Derived.Deep.DeepCutAuto
/-! (*zzs5530am).look -/
namespace Go.Proofs.YbulkdjmsFmt
open Go.RowKit Plain
set_option maxRecDepth 100000
theorem run_eql_ptr (w : World) (a b : Nat) (ha : Cells w a) (hb : Cells w b) :
    (binOp .eql 23 (.pointer (some ⟨a, 0, none⟩)) (.pointer (some ⟨b, 0, none⟩))).run Ybaf.prog w = .ok (.bool (decide (a = b))) w := by
  simp only [binOp]
  simp [run_equal_ptr w a b ha hb]
/-- A row's element, one cell each. -/
theorem row_cell {w : World} {B : Nat} {e : TypeId} {v : Value} {n : Nat} {xs : List Value} (h : w.ownsRow B e 1 v n xs) : (v = .slice none 0 0 ∧ n = 0) ∨ ∃ g cap, v = .slice (some ⟨g, 0, none⟩) n cap ∧ ∀ j u, xs[j]? = some u → w.cell? ⟨g, j, none⟩ = some u := by
  rcases h.2 with h0 | ⟨g, cap, cur, hv, _, hg, _, _, _, h4⟩
  · exact .inl h0
  · refine .inr ⟨g, cap, hv, fun j u hj => ?_⟩
    rw [cell_of_heap hg, ← Array.getElem?_toList]
    rw [← h4, List.getElem?_take] at hj
    by_cases hlt : j < n * 1
    · rwa [if_pos hlt] at hj
    · rw [if_neg hlt] at hj; cases hj
theorem findK_drop {n : Nat} : ∀ {ks : List Nat} {vs : List Int} {k a : Nat} {v : Int}, ks[k]? = some a → vs[k]? = some v → findK n (ks.drop k) (vs.drop k) = if a = n then some v else findK n (ks.drop (k + 1)) (vs.drop (k + 1)) := by
  intro ks vs k a v hk hv
  obtain ⟨h1, e1⟩ := List.getElem?_eq_some_iff.1 hk
  obtain ⟨h2, e2⟩ := List.getElem?_eq_some_iff.1 hv
  rw [List.drop_eq_getElem_cons h1, List.drop_eq_getElem_cons h2, e1, e2]
  rfl
theorem findK_nil_left {n : Nat} (vs : List Int) : findK n [] vs = none := rfl
set_option maxHeartbeats 1000000 in
theorem glook_found (wt w : World) (c bc : Nat) (s : St) (iv lv kv vv : Value) (hb : Below wt.heap.size wt w) (hn : IsNode wt c) (hC : GenAt w wt.heap.size bc s iv lv kv vv)
    (hG : Plain.Good (IsNode wt) s) (hsz : sz s < 1099511627776) (v : Int) (hf : findK c s.keys s.vals = some v) :
    Calls Ybaf.prog 17 #[.pointer (some ⟨bc, 0, none⟩), .pointer (some ⟨c, 0, none⟩)] w fun e w' => e = .returned (.int .i64 v) ∧ w' = w := by
  have c2 : w.cell? ⟨bc, 2, none⟩ = some kv := by rw [cell_of_heap hC.obj]; rfl
  have c3 : w.cell? ⟨bc, 3, none⟩ = some vv := by rw [cell_of_heap hC.obj]; rfl
  have HE := tuck (fun (a : Nat) (ha : a ∈ s.keys) => run_eql_ptr w a c ((hG.2.2 a ha).cells.below hb) (hn.cells.below hb))
  have hkl := hG.1
  rcases row_cell hC.keys with ⟨rfl, h0⟩ | ⟨g, cap, rfl, hkc⟩
  · have : s.keys = [] := List.eq_nil_of_length_eq_zero h0
    rw [this] at hf; cases hf
  rcases row_cell hC.vals with ⟨rfl, h0⟩ | ⟨g2, cap2, rfl, hvc⟩
  · have : s.vals = [] := List.eq_nil_of_length_eq_zero h0
    rw [this] at hf
    cases hk : s.keys with
    | nil => rw [hk] at hf; cases hf
    | cons a l => rw [hk] at hf; cases hf
  have HKc : Hid (∀ j a, s.keys[j]? = some a → w.cell? ⟨g, j, none⟩ = some (.pointer (some ⟨a, 0, none⟩))) := fun j a hj => hkc j (ptr a) (by rw [List.getElem?_map, hj]; rfl)
  have HVc : Hid (∀ j a, s.vals[j]? = some a → w.cell? ⟨g2, j, none⟩ = some (.int .i64 a)) := fun j a hj => hvc j _ (by rw [List.getElem?_map, hj]; rfl)
  obtain ⟨m, hm⟩ : ∃ m, s.keys.length = m := ⟨_, rfl⟩
  have hm2 : s.vals.length = m := by omega
  have hmz : (m : Int) < 1099511627776 := by unfold sz at hsz; omega
  have HF := tuck hf
  have HM := tuck (And.intro hm hm2)
  rw [hm] at c2
  rw [hm2] at c3
  clear hC hG hf hn hb hkl hsz hkc hvc hm hm2
  go_enter Ybaf.func17, Ybaf.ntmps17
  go_wp2
  go_loop [5] (fun i => ∃ k : Nat, k ≤ m ∧ i = .int .i64 k ∧ findK c (s.keys.drop k) (s.vals.drop k) = some v) (fun i => m - (intOf i).toNat)
  case atStart => exact ⟨0, Nat.zero_le _, rfl, by simpa using HF.out⟩
  case round =>
    obtain ⟨k, hk, rfl, hfk⟩ := hrel
    by_cases hlt : k < m
    · obtain ⟨a, ha⟩ : ∃ a, s.keys[k]? = some a := ⟨_, List.getElem?_eq_getElem (by rw [HM.out.1]; exact hlt)⟩
      obtain ⟨u, hu⟩ : ∃ a, s.vals[k]? = some a := ⟨_, List.getElem?_eq_getElem (by rw [HM.out.2]; exact hlt)⟩
      have dk := HKc.out k a ha
      have du := HVc.out k u hu
      have he := HE.out a (List.mem_of_getElem? ha)
      rw [findK_drop ha hu] at hfk
      have hltI : (k : Int) < (m : Int) := by omega
      by_cases hac : a = c
      · rw [if_pos hac] at hfk
        have huv : u = v := by injection hfk
        have hd : decide (a = c) = true := by simpa using hac
        rw [hd] at he
        subst huv
        clear ha hu hfk hac hd HF
        go_wp2
        go_ret
        exact ⟨rfl, rfl⟩
      · rw [if_neg hac] at hfk
        have hd : decide (a = c) = false := by simpa using hac
        rw [hd] at he
        have HFk := tuck hfk
        clear ha hu hfk hac hd HF
        go_wp2
        go_round
        case rel => exact ⟨k + 1, by omega, by go_num, HFk.out⟩
        case measure => simp [intOf]; omega
    · have : k = m := by omega
      rw [List.drop_eq_nil_of_le (by rw [HM.out.1]; omega)] at hfk
      cases hfk
theorem info23 : (Ybaf.prog.info? 23).map (fun i => (i.zero, i.size, i.bytes)) = some (some (.pointer none), 1, 8) := by kernel_rfl
theorem info3 : (Ybaf.prog.info? 3).map (fun i => (i.zero, i.size, i.bytes)) = some (some (.int .i64 0), 1, 8) := by kernel_rfl
set_option maxHeartbeats 2000000 in
theorem glook_new (wt : World) (T : Nat → Nd) (f : Nat) (IH : GenOk wt T f) (w : World) (c bc : Nat) (s : St) (iv lv kv vv : Value) (hb : Below wt.heap.size wt w) (hT : TreeAt wt T f c) (hC : GenAt w wt.heap.size bc s iv lv kv vv)
    (hG : Plain.Good (IsNode wt) s) (hs : sz s + bnd f + 8 < 1099511627776) (hf : findK c s.keys s.vals = none) :
    Calls Ybaf.prog 17 #[.pointer (some ⟨bc, 0, none⟩), .pointer (some ⟨c, 0, none⟩)] w fun e w' => e = .returned (.int .i64 ((comp T f c (s.put iMatch).1 (s.put iMatch).2).2.lbs.length : Int)) ∧
      GPost wt.heap.size bc (addLook c (comp T f c (s.put iMatch).1 (s.put iMatch).2)) (ownG bc iv lv kv vv) w w' := by
  obtain ⟨i0, hi, hz0, hz1, hz2⟩ := info_parts info43
  obtain ⟨j0, ji, jz0, jz1, jz2⟩ := info_parts info23
  obtain ⟨l0, lli, lz0, lz1, lz2⟩ := info_parts info3
  have hn := hT.node
  have c2 : w.cell? ⟨bc, 2, none⟩ = some kv := by rw [cell_of_heap hC.obj]; rfl
  have HE := tuck (fun (a : Nat) (ha : a ∈ s.keys) => run_eql_ptr w a c ((hG.2.2 a ha).cells.below hb) (hn.cells.below hb))
  have HNo : Hid (∀ a ∈ s.keys, decide (a = c) = false) := fun a ha => by
    have := findK_none hG.1 hf
    simp only [decide_eq_false_iff_not]
    intro e
    exact this (e ▸ ha)
  have hsz : s.ins.length < 1099511627776 := by unfold sz at hs; omega
  have HM0 := tuck (GMid.start hC hb)
  have HPut := tuck (fun (w1 : World) (hM : GMid wt bc (ownG bc iv lv kv vv) w s w1) => hM.call (fun iv1 lv1 kv1 vv1 _ hC1 => put_any w1 wt.heap.size bc s iv1 lv1 kv1 vv1 iMatch (.slice none 0 0) hC1 (rgNil _) hsz))
  have hX1 := Ext.put (IsNode wt) c s iMatch
  generalize s.put iMatch = p1 at *
  have hX2 := comp_ext hT p1.1 p1.2
  have hX := hX1.trans hX2
  have hG1 := hX1.good hG
  have hz1' := hX1.size
  have hz2' := hX2.size
  have HGen := tuck (fun (w1 : World) (hM : GMid wt bc (ownG bc iv lv kv vv) w p1.2 w1) => hM.call (fun iv1 lv1 kv1 vv1 hb1 hC1 => IH w1 c bc p1.1 p1.2 iv1 lv1 kv1 vv1 hb1 hT hC1 hG1 (by omega)))
  generalize comp T f c p1.1 p1.2 = p2 at *
  have hs3 : p2.2.lbs.length < 1099511627776 ∧ p2.2.keys.length < 1099511627776 ∧ p2.2.vals.length < 1099511627776 := by unfold sz at hz2' hz1' hs; omega
  obtain ⟨hs3a, hs3b, hs3c⟩ := hs3
  obtain ⟨m, hm⟩ : ∃ m, s.keys.length = m := ⟨_, rfl⟩
  have hmz : (m : Int) < 1099511627776 := by unfold sz at hs; omega
  have HM := tuck hm
  generalize ownG bc iv lv kv vv = own at *
  rcases row_cell hC.keys with ⟨rfl, h0⟩ | ⟨g, cap, rfl, hkc⟩
  · clear hX1 hG1 hz1' hX2 hz2' hs hsz hC hb hG IH hf hn hX hT HE HNo hm h0
    go_enter Ybaf.func17, Ybaf.ntmps17
    go_wp2
    go_loop [5] (fun i => i = .int .i64 0) (fun _ => 0)
    case atStart => rfl
    case round =>
      obtain rfl := hrel
      go_wp2_with fail
      refine (HPut.out w HM0.out).mono ?_
      rintro e w1 ⟨rfl, hp⟩
      have HM1 := tuck hp
      clear hp HPut HM0
      go_wp2_with fail
      refine (HGen.out w1 HM1.out).mono ?_
      rintro e w2 ⟨rfl, hp⟩
      obtain ⟨iv2, lv2, kv2, vv2, hC2, hb2, back2⟩ := hp
      clear HGen HM1
      obtain ⟨la, lc, rfl⟩ := ownsRow_form hC2.lbs
      have d1 : w2.cell? ⟨bc, 1, none⟩ = some (.slice la p2.2.lbs.length lc) := by rw [cell_of_heap hC2.obj]; rfl
      have f1 : w2.frozen? ⟨bc, 1, none⟩ = false := frozen_of_heap hC2.obj
      have hbc : bc < w2.heap.size := lt_of_heap hC2.obj
      have hbc1 : bc < w2.heap.size + 1 := by omega
      have HC2 := tuck hC2
      have HB2 := tuck hb2
      have BK2 := tuck back2
      clear hC2 hb2 back2
      generalize hnl : p2.2.lbs.length = nl at *
      have HNl := tuck hnl
      clear hnl
      have HW : Hid (Chg [] w2 (w2.alloc (.cells #[.int .i64 p2.1] 43))) := (Chg.refl _ _).alloc _
      have HOB : Hid ((w2.alloc (.cells #[.int .i64 p2.1] 43)).ownsRow wt.heap.size 43 1 (.slice la nl lc) nl (p2.2.lbs.map (Value.int .i64))) := by
        have := HC2.out.lbs
        rw [HNl.out] at this
        exact this.alloc _
      have HCn : Hid (∀ j u, ([.int .i64 p2.1] : List Value)[j]? = some u → (w2.alloc (.cells #[.int .i64 p2.1] 43)).cell? (Addr.add ⟨w2.heap.size, 0, none⟩ j) = some u) := fun j u h => cells_of_new (X := #[.int .i64 p2.1]) (e := 43) h
      have HLe : Hid (wt.heap.size ≤ w2.heap.size) := HC2.out.hB
      go_wp2_with (at_builtin; refine wpList_append_some _ rfl (.tmp 44) (.tmp 47) 29 rfl wt.heap.size 43 i0 _ 1 8 Ybaf.underlying29 hi hz0 hz1 hz2 rfl (by decide) (.slice la nl lc) nl _ rfl HOB.out ⟨w2.heap.size, 0, none⟩ 1 1 _ rfl rfl HCn.out (by simp [Value.oneCell']) (by unfold maxLen; omega) (by omega) (by have := HLe.out; simp; omega) (by decide) ?_)
      intro g3 cap3 w3 ho hg hloc
      have hK := HC2.out.addLb p2.1 HW.out hg (g := g3) (cap := cap3) (by rw [HNl.out]; exact ho) (by simpa using hloc)
      rw [HNl.out] at hK
      obtain ⟨k1, k2⟩ := hK
      have q1 : w3.cell? ⟨bc, 1, none⟩ = some (.slice la nl lc) := by rw [cell_of_heap k1]; rfl
      have q3 : w3.frozen? ⟨bc, 1, none⟩ = false := frozen_of_heap k1
      have HM3 : Hid (GMid wt bc own w { p2.2 with lbs := p2.2.lbs ++ [p2.1] } (w3.setCell ⟨bc, 1, none⟩ (.slice (some ⟨g3, 0, none⟩) (nl + 1) cap3))) := GMid.next HC2.out HB2.out BK2.out k2
      clear k1 k2 ho hg hloc HOB HCn HW HC2 HB2 BK2 d1 f1 HLe
      go_upto_region 9 with fail
      clear q1 q3 hbc hbc1
      generalize w3.setCell ⟨bc, 1, none⟩ (.slice (some ⟨g3, 0, none⟩) (nl + 1) cap3) = w4 at *
      obtain ⟨iv4, lv4, kv4, vv4, hC4, hb4, back4⟩ := HM3.out
      clear HM3
      obtain ⟨ka, kc, rfl⟩ := ownsRow_form hC4.keys
      have d2 : w4.cell? ⟨bc, 2, none⟩ = some (.slice ka p2.2.keys.length kc) := by rw [cell_of_heap hC4.obj]; rfl
      have f2 : w4.frozen? ⟨bc, 2, none⟩ = false := frozen_of_heap hC4.obj
      have hbc : bc < w4.heap.size := lt_of_heap hC4.obj
      have hbc1 : bc < w4.heap.size + 1 := by omega
      have HC4 := tuck hC4
      have HB4 := tuck hb4
      have BK4 := tuck back4
      clear hC4 hb4 back4
      generalize hnk : p2.2.keys.length = nk at *
      have HNk := tuck hnk
      clear hnk
      have HW : Hid (Chg [] w4 (w4.alloc (.cells #[.pointer (some ⟨c, 0, none⟩)] 23))) := (Chg.refl _ _).alloc _
      have HOB : Hid ((w4.alloc (.cells #[.pointer (some ⟨c, 0, none⟩)] 23)).ownsRow wt.heap.size 23 1 (.slice ka nk kc) nk (p2.2.keys.map ptr)) := by
        have h : w4.ownsRow wt.heap.size 23 1 (.slice ka nk kc) p2.2.keys.length (p2.2.keys.map ptr) := HC4.out.keys
        rw [HNk.out] at h
        exact h.alloc _
      have HCn : Hid (∀ j u, ([.pointer (some ⟨c, 0, none⟩)] : List Value)[j]? = some u → (w4.alloc (.cells #[.pointer (some ⟨c, 0, none⟩)] 23)).cell? (Addr.add ⟨w4.heap.size, 0, none⟩ j) = some u) := fun j u h => cells_of_new (X := #[.pointer (some ⟨c, 0, none⟩)]) (e := 23) h
      have HLe : Hid (wt.heap.size ≤ w4.heap.size) := HC4.out.hB
      go_wp2_with (at_builtin; refine wpList_append_some _ rfl (.tmp 55) (.tmp 57) 33 rfl wt.heap.size 23 j0 _ 1 8 Ybaf.underlying33 ji jz0 jz1 jz2 rfl (by decide) (.slice ka nk kc) nk _ rfl HOB.out ⟨w4.heap.size, 0, none⟩ 1 1 _ rfl rfl HCn.out (by simp [Value.oneCell']) (by unfold maxLen; omega) (by omega) (by have := HLe.out; simp; omega) (by decide) ?_)
      intro g5 cap5 w5 ho hg hloc
      have hK := HC4.out.addKey c HW.out hg (g := g5) (cap := cap5) (by show w5.ownsRow _ _ _ (.slice _ (p2.2.keys.length + 1) _) (p2.2.keys.length + 1) _; rw [HNk.out]; exact ho) (by simpa using hloc)
      simp only [HNk.out] at hK
      obtain ⟨k1, k2⟩ := hK
      have q1 : w5.cell? ⟨bc, 2, none⟩ = some (.slice ka nk kc) := by rw [cell_of_heap k1]; rfl
      have q3 : w5.frozen? ⟨bc, 2, none⟩ = false := frozen_of_heap k1
      have HM5 : Hid (GMid wt bc own w { p2.2 with lbs := p2.2.lbs ++ [p2.1], keys := p2.2.keys ++ [c] } (w5.setCell ⟨bc, 2, none⟩ (.slice (some ⟨g5, 0, none⟩) (nk + 1) cap5))) := GMid.next HC4.out HB4.out BK4.out k2
      clear k1 k2 ho hg hloc HOB HCn HW HC4 HB4 BK4 d2 f2 HLe
      go_upto_region 10 with fail
      clear q1 q3 hbc hbc1
      generalize w5.setCell ⟨bc, 2, none⟩ (.slice (some ⟨g5, 0, none⟩) (nk + 1) cap5) = w6 at *
      obtain ⟨iv6, lv6, kv6, vv6, hC6, hb6, back6⟩ := HM5.out
      clear HM5
      obtain ⟨va, vc, rfl⟩ := ownsRow_form hC6.vals
      obtain ⟨la6, lc6, hl6⟩ := ownsRow_form hC6.lbs
      have d3 : w6.cell? ⟨bc, 3, none⟩ = some (.slice va p2.2.vals.length vc) := by rw [cell_of_heap hC6.obj]; rfl
      have f3 : w6.frozen? ⟨bc, 3, none⟩ = false := frozen_of_heap hC6.obj
      have d1 : w6.cell? ⟨bc, 1, none⟩ = some (.slice la6 (nl + 1) lc6) := by
        rw [cell_of_heap hC6.obj, ← HNl.out]
        simp [hl6]
      subst hl6
      have hbc : bc < w6.heap.size := lt_of_heap hC6.obj
      have hbc1 : bc < w6.heap.size + 1 := by omega
      have HC6 := tuck hC6
      have HB6 := tuck hb6
      have BK6 := tuck back6
      clear hC6 hb6 back6
      generalize hnv : p2.2.vals.length = nv at *
      have HNv := tuck hnv
      clear hnv
      have HW : Hid (Chg [] w6 (w6.alloc (.cells #[.int .i64 (nl : Int)] 3)).drew) := ((Chg.refl _ _).alloc _).drew
      have HOB : Hid ((w6.alloc (.cells #[.int .i64 (nl : Int)] 3)).drew.ownsRow wt.heap.size 3 1 (.slice va nv vc) nv (p2.2.vals.map (Value.int .i64))) := by
        have h : w6.ownsRow wt.heap.size 3 1 (.slice va nv vc) p2.2.vals.length (p2.2.vals.map (Value.int .i64)) := HC6.out.vals
        rw [HNv.out] at h
        exact (h.alloc _).drew
      have HCn : Hid (∀ j u, ([.int .i64 (nl : Int)] : List Value)[j]? = some u → (w6.alloc (.cells #[.int .i64 (nl : Int)] 3)).drew.cell? (Addr.add ⟨w6.heap.size, 0, none⟩ j) = some u) := fun j u h => cells_of_new (W := w6) (X := #[.int .i64 (nl : Int)]) (e := 3) h
      have HLe : Hid (wt.heap.size ≤ w6.heap.size) := HC6.out.hB
      have HEnd : Hid (∀ (w7 : World) (g7 cap7 : Nat), (w6.alloc (.cells #[.int .i64 (nl : Int)] 3)).drew.grownBy w7 (Value.slice va nv vc).ownBlock → w7.ownsRow wt.heap.size 3 1 (.slice (some ⟨g7, 0, none⟩) (nv + 1) cap7) (nv + 1) (p2.2.vals.map (Value.int .i64) ++ [.int .i64 (nl : Int)]) → ((Value.slice va nv vc).ownBlock = some g7 ∨ g7 = w6.heap.size + 1) →
          w7.heap[bc]? = some (.cells #[iv6, .slice la6 (nl + 1) lc6, kv6, .slice va nv vc] 36 (0, 0)) ∧ GPost wt.heap.size bc (addLook c p2) own w (w7.setCell ⟨bc, 3, none⟩ (.slice (some ⟨g7, 0, none⟩) (nv + 1) cap7))) := by
        intro w7 g7 cap7 hg ho hloc
        have hK := HC6.out.addVal (nl : Int) HW.out hg (g := g7) (cap := cap7) (by show w7.ownsRow _ _ _ (.slice _ (p2.2.vals.length + 1) _) (p2.2.vals.length + 1) _; rw [HNv.out]; exact ho) (by simpa using hloc)
        simp only [HNv.out] at hK
        obtain ⟨k1, k2⟩ := hK
        have e : (p2.2.lbs ++ [p2.1]).length = nl + 1 := by simp [HNl.out]
        refine ⟨by simpa [e] using k1, ?_⟩
        have := (GMid.next HC6.out HB6.out BK6.out k2).post
        unfold addLook
        rw [HNl.out]
        exact this
      clear HC6 HB6 BK6
      have hwrn : IntKind.i64.wrap (nl : Int) = (nl : Int) := by rw [IntKind.wrap_i64]; omega
      go_wp2_with fail
      go_region_law (refine step_append_own rfl (.tmp 65) (.tmp 72) 34 rfl wt.heap.size 3 l0 _ 1 8 Ybaf.underlying34 lli lz0 lz1 lz2 rfl (by decide) (.slice va nv vc) nv _ (by simp [Act.eval]) HOB.out ⟨w6.heap.size, 0, none⟩ 1 1 _ (by simp [Act.eval]) rfl HCn.out (by simp [Value.oneCell']) (by unfold maxLen; omega) (by omega) (by have := HLe.out; simp; omega) (by decide) ?_; intro g7 cap7 w7 ho hg hloc; obtain ⟨k1, k2⟩ := HEnd.out w7 g7 cap7 hg ho (by simpa using hloc); have q1 : w7.cell? ⟨bc, 3, none⟩ = some (.slice va nv vc) := (cell_of_heap k1).trans rfl; have q2 : w7.cell? ⟨bc, 1, none⟩ = some (.slice la6 (nl + 1) lc6) := (cell_of_heap k1).trans rfl; have q3 : w7.frozen? ⟨bc, 3, none⟩ = false := frozen_of_heap k1; have q4 : (w7.setCell ⟨bc, 3, none⟩ (.slice (some ⟨g7, 0, none⟩) (nv + 1) cap7)).cell? ⟨bc, 1, none⟩ = some (.slice la6 (nl + 1) lc6) := (World.cell?_setCell_other _ _ _ _ (by simp)).trans q2; have HP := tuck k2; clear k1 k2 ho hg hloc)
      all_goals
        go_wp2
        go_ret
        exact ⟨by simp [HNl.out], HP.out⟩
  · have HKc : Hid (∀ j a, s.keys[j]? = some a → w.cell? ⟨g, j, none⟩ = some (.pointer (some ⟨a, 0, none⟩))) := fun j a hj => hkc j (ptr a) (by rw [List.getElem?_map, hj]; rfl)
    rw [hm] at c2
    clear hX1 hG1 hz1' hX2 hz2' hs hsz hC hb hG IH hf hn hX hT hm hkc
    go_enter Ybaf.func17, Ybaf.ntmps17
    go_wp2
    go_loop [5] (fun i => ∃ k : Nat, k ≤ m ∧ i = .int .i64 k) (fun i => m - (intOf i).toNat)
    case atStart => exact ⟨0, Nat.zero_le _, rfl⟩
    case round =>
      obtain ⟨k, hk, rfl⟩ := hrel
      by_cases hlt : k < m
      · obtain ⟨a, ha⟩ : ∃ a, s.keys[k]? = some a := ⟨_, List.getElem?_eq_getElem (by rw [HM.out]; exact hlt)⟩
        have dk := HKc.out k a ha
        have he := HE.out a (List.mem_of_getElem? ha)
        rw [HNo.out a (List.mem_of_getElem? ha)] at he
        have hltI : (k : Int) < (m : Int) := by omega
        clear ha HKc HE HNo
        go_wp2
        go_round
        case rel => exact ⟨k + 1, by omega, by go_num⟩
        case measure => simp [intOf]; omega
      · have hltI : ¬ (k : Int) < (m : Int) := by omega
        clear HKc HE HNo
        go_wp2_with fail
        refine (HPut.out w HM0.out).mono ?_
        rintro e w1 ⟨rfl, hp⟩
        have HM1 := tuck hp
        clear hp HPut HM0
        go_wp2_with fail
        refine (HGen.out w1 HM1.out).mono ?_
        rintro e w2 ⟨rfl, hp⟩
        obtain ⟨iv2, lv2, kv2, vv2, hC2, hb2, back2⟩ := hp
        clear HGen HM1
        obtain ⟨la, lc, rfl⟩ := ownsRow_form hC2.lbs
        have d1 : w2.cell? ⟨bc, 1, none⟩ = some (.slice la p2.2.lbs.length lc) := by rw [cell_of_heap hC2.obj]; rfl
        have f1 : w2.frozen? ⟨bc, 1, none⟩ = false := frozen_of_heap hC2.obj
        have hbc : bc < w2.heap.size := lt_of_heap hC2.obj
        have hbc1 : bc < w2.heap.size + 1 := by omega
        have HC2 := tuck hC2
        have HB2 := tuck hb2
        have BK2 := tuck back2
        clear hC2 hb2 back2
        generalize hnl : p2.2.lbs.length = nl at *
        have HNl := tuck hnl
        clear hnl
        have HW : Hid (Chg [] w2 (w2.alloc (.cells #[.int .i64 p2.1] 43))) := (Chg.refl _ _).alloc _
        have HOB : Hid ((w2.alloc (.cells #[.int .i64 p2.1] 43)).ownsRow wt.heap.size 43 1 (.slice la nl lc) nl (p2.2.lbs.map (Value.int .i64))) := by
          have := HC2.out.lbs
          rw [HNl.out] at this
          exact this.alloc _
        have HCn : Hid (∀ j u, ([.int .i64 p2.1] : List Value)[j]? = some u → (w2.alloc (.cells #[.int .i64 p2.1] 43)).cell? (Addr.add ⟨w2.heap.size, 0, none⟩ j) = some u) := fun j u h => cells_of_new (X := #[.int .i64 p2.1]) (e := 43) h
        have HLe : Hid (wt.heap.size ≤ w2.heap.size) := HC2.out.hB
        go_wp2_with (at_builtin; refine wpList_append_some _ rfl (.tmp 44) (.tmp 47) 29 rfl wt.heap.size 43 i0 _ 1 8 Ybaf.underlying29 hi hz0 hz1 hz2 rfl (by decide) (.slice la nl lc) nl _ rfl HOB.out ⟨w2.heap.size, 0, none⟩ 1 1 _ rfl rfl HCn.out (by simp [Value.oneCell']) (by unfold maxLen; omega) (by omega) (by have := HLe.out; simp; omega) (by decide) ?_)
        intro g3 cap3 w3 ho hg hloc
        have hK := HC2.out.addLb p2.1 HW.out hg (g := g3) (cap := cap3) (by rw [HNl.out]; exact ho) (by simpa using hloc)
        rw [HNl.out] at hK
        obtain ⟨k1, k2⟩ := hK
        have q1 : w3.cell? ⟨bc, 1, none⟩ = some (.slice la nl lc) := by rw [cell_of_heap k1]; rfl
        have q3 : w3.frozen? ⟨bc, 1, none⟩ = false := frozen_of_heap k1
        have HM3 : Hid (GMid wt bc own w { p2.2 with lbs := p2.2.lbs ++ [p2.1] } (w3.setCell ⟨bc, 1, none⟩ (.slice (some ⟨g3, 0, none⟩) (nl + 1) cap3))) := GMid.next HC2.out HB2.out BK2.out k2
        clear k1 k2 ho hg hloc HOB HCn HW HC2 HB2 BK2 d1 f1 HLe
        go_upto_region 9 with fail
        clear q1 q3 hbc hbc1
        generalize w3.setCell ⟨bc, 1, none⟩ (.slice (some ⟨g3, 0, none⟩) (nl + 1) cap3) = w4 at *
        obtain ⟨iv4, lv4, kv4, vv4, hC4, hb4, back4⟩ := HM3.out
        clear HM3
        obtain ⟨ka, kc, rfl⟩ := ownsRow_form hC4.keys
        have d2 : w4.cell? ⟨bc, 2, none⟩ = some (.slice ka p2.2.keys.length kc) := by rw [cell_of_heap hC4.obj]; rfl
        have f2 : w4.frozen? ⟨bc, 2, none⟩ = false := frozen_of_heap hC4.obj
        have hbc : bc < w4.heap.size := lt_of_heap hC4.obj
        have hbc1 : bc < w4.heap.size + 1 := by omega
        have HC4 := tuck hC4
        have HB4 := tuck hb4
        have BK4 := tuck back4
        clear hC4 hb4 back4
        generalize hnk : p2.2.keys.length = nk at *
        have HNk := tuck hnk
        clear hnk
        have HW : Hid (Chg [] w4 (w4.alloc (.cells #[.pointer (some ⟨c, 0, none⟩)] 23))) := (Chg.refl _ _).alloc _
        have HOB : Hid ((w4.alloc (.cells #[.pointer (some ⟨c, 0, none⟩)] 23)).ownsRow wt.heap.size 23 1 (.slice ka nk kc) nk (p2.2.keys.map ptr)) := by
          have h : w4.ownsRow wt.heap.size 23 1 (.slice ka nk kc) p2.2.keys.length (p2.2.keys.map ptr) := HC4.out.keys
          rw [HNk.out] at h
          exact h.alloc _
        have HCn : Hid (∀ j u, ([.pointer (some ⟨c, 0, none⟩)] : List Value)[j]? = some u → (w4.alloc (.cells #[.pointer (some ⟨c, 0, none⟩)] 23)).cell? (Addr.add ⟨w4.heap.size, 0, none⟩ j) = some u) := fun j u h => cells_of_new (X := #[.pointer (some ⟨c, 0, none⟩)]) (e := 23) h
        have HLe : Hid (wt.heap.size ≤ w4.heap.size) := HC4.out.hB
        go_wp2_with (at_builtin; refine wpList_append_some _ rfl (.tmp 55) (.tmp 57) 33 rfl wt.heap.size 23 j0 _ 1 8 Ybaf.underlying33 ji jz0 jz1 jz2 rfl (by decide) (.slice ka nk kc) nk _ rfl HOB.out ⟨w4.heap.size, 0, none⟩ 1 1 _ rfl rfl HCn.out (by simp [Value.oneCell']) (by unfold maxLen; omega) (by omega) (by have := HLe.out; simp; omega) (by decide) ?_)
        intro g5 cap5 w5 ho hg hloc
        have hK := HC4.out.addKey c HW.out hg (g := g5) (cap := cap5) (by show w5.ownsRow _ _ _ (.slice _ (p2.2.keys.length + 1) _) (p2.2.keys.length + 1) _; rw [HNk.out]; exact ho) (by simpa using hloc)
        simp only [HNk.out] at hK
        obtain ⟨k1, k2⟩ := hK
        have q1 : w5.cell? ⟨bc, 2, none⟩ = some (.slice ka nk kc) := by rw [cell_of_heap k1]; rfl
        have q3 : w5.frozen? ⟨bc, 2, none⟩ = false := frozen_of_heap k1
        have HM5 : Hid (GMid wt bc own w { p2.2 with lbs := p2.2.lbs ++ [p2.1], keys := p2.2.keys ++ [c] } (w5.setCell ⟨bc, 2, none⟩ (.slice (some ⟨g5, 0, none⟩) (nk + 1) cap5))) := GMid.next HC4.out HB4.out BK4.out k2
        clear k1 k2 ho hg hloc HOB HCn HW HC4 HB4 BK4 d2 f2 HLe
        go_upto_region 10 with fail
        clear q1 q3 hbc hbc1
        generalize w5.setCell ⟨bc, 2, none⟩ (.slice (some ⟨g5, 0, none⟩) (nk + 1) cap5) = w6 at *
        obtain ⟨iv6, lv6, kv6, vv6, hC6, hb6, back6⟩ := HM5.out
        clear HM5
        obtain ⟨va, vc, rfl⟩ := ownsRow_form hC6.vals
        obtain ⟨la6, lc6, hl6⟩ := ownsRow_form hC6.lbs
        have d3 : w6.cell? ⟨bc, 3, none⟩ = some (.slice va p2.2.vals.length vc) := by rw [cell_of_heap hC6.obj]; rfl
        have f3 : w6.frozen? ⟨bc, 3, none⟩ = false := frozen_of_heap hC6.obj
        have d1 : w6.cell? ⟨bc, 1, none⟩ = some (.slice la6 (nl + 1) lc6) := by
          rw [cell_of_heap hC6.obj, ← HNl.out]
          simp [hl6]
        subst hl6
        have hbc : bc < w6.heap.size := lt_of_heap hC6.obj
        have hbc1 : bc < w6.heap.size + 1 := by omega
        have HC6 := tuck hC6
        have HB6 := tuck hb6
        have BK6 := tuck back6
        clear hC6 hb6 back6
        generalize hnv : p2.2.vals.length = nv at *
        have HNv := tuck hnv
        clear hnv
        have HW : Hid (Chg [] w6 (w6.alloc (.cells #[.int .i64 (nl : Int)] 3)).drew) := ((Chg.refl _ _).alloc _).drew
        have HOB : Hid ((w6.alloc (.cells #[.int .i64 (nl : Int)] 3)).drew.ownsRow wt.heap.size 3 1 (.slice va nv vc) nv (p2.2.vals.map (Value.int .i64))) := by
          have h : w6.ownsRow wt.heap.size 3 1 (.slice va nv vc) p2.2.vals.length (p2.2.vals.map (Value.int .i64)) := HC6.out.vals
          rw [HNv.out] at h
          exact (h.alloc _).drew
        have HCn : Hid (∀ j u, ([.int .i64 (nl : Int)] : List Value)[j]? = some u → (w6.alloc (.cells #[.int .i64 (nl : Int)] 3)).drew.cell? (Addr.add ⟨w6.heap.size, 0, none⟩ j) = some u) := fun j u h => cells_of_new (W := w6) (X := #[.int .i64 (nl : Int)]) (e := 3) h
        have HLe : Hid (wt.heap.size ≤ w6.heap.size) := HC6.out.hB
        have HEnd : Hid (∀ (w7 : World) (g7 cap7 : Nat), (w6.alloc (.cells #[.int .i64 (nl : Int)] 3)).drew.grownBy w7 (Value.slice va nv vc).ownBlock → w7.ownsRow wt.heap.size 3 1 (.slice (some ⟨g7, 0, none⟩) (nv + 1) cap7) (nv + 1) (p2.2.vals.map (Value.int .i64) ++ [.int .i64 (nl : Int)]) → ((Value.slice va nv vc).ownBlock = some g7 ∨ g7 = w6.heap.size + 1) →
            w7.heap[bc]? = some (.cells #[iv6, .slice la6 (nl + 1) lc6, kv6, .slice va nv vc] 36 (0, 0)) ∧ GPost wt.heap.size bc (addLook c p2) own w (w7.setCell ⟨bc, 3, none⟩ (.slice (some ⟨g7, 0, none⟩) (nv + 1) cap7))) := by
          intro w7 g7 cap7 hg ho hloc
          have hK := HC6.out.addVal (nl : Int) HW.out hg (g := g7) (cap := cap7) (by show w7.ownsRow _ _ _ (.slice _ (p2.2.vals.length + 1) _) (p2.2.vals.length + 1) _; rw [HNv.out]; exact ho) (by simpa using hloc)
          simp only [HNv.out] at hK
          obtain ⟨k1, k2⟩ := hK
          have e : (p2.2.lbs ++ [p2.1]).length = nl + 1 := by simp [HNl.out]
          refine ⟨by simpa [e] using k1, ?_⟩
          have := (GMid.next HC6.out HB6.out BK6.out k2).post
          unfold addLook
          rw [HNl.out]
          exact this
        clear HC6 HB6 BK6
        have hwrn : IntKind.i64.wrap (nl : Int) = (nl : Int) := by rw [IntKind.wrap_i64]; omega
        go_wp2_with fail
        go_region_law (refine step_append_own rfl (.tmp 65) (.tmp 72) 34 rfl wt.heap.size 3 l0 _ 1 8 Ybaf.underlying34 lli lz0 lz1 lz2 rfl (by decide) (.slice va nv vc) nv _ (by simp [Act.eval]) HOB.out ⟨w6.heap.size, 0, none⟩ 1 1 _ (by simp [Act.eval]) rfl HCn.out (by simp [Value.oneCell']) (by unfold maxLen; omega) (by omega) (by have := HLe.out; simp; omega) (by decide) ?_; intro g7 cap7 w7 ho hg hloc; obtain ⟨k1, k2⟩ := HEnd.out w7 g7 cap7 hg ho (by simpa using hloc); have q1 : w7.cell? ⟨bc, 3, none⟩ = some (.slice va nv vc) := (cell_of_heap k1).trans rfl; have q2 : w7.cell? ⟨bc, 1, none⟩ = some (.slice la6 (nl + 1) lc6) := (cell_of_heap k1).trans rfl; have q3 : w7.frozen? ⟨bc, 3, none⟩ = false := frozen_of_heap k1; have q4 : (w7.setCell ⟨bc, 3, none⟩ (.slice (some ⟨g7, 0, none⟩) (nv + 1) cap7)).cell? ⟨bc, 1, none⟩ = some (.slice la6 (nl + 1) lc6) := (World.cell?_setCell_other _ _ _ _ (by simp)).trans q2; have HP := tuck k2; clear k1 k2 ho hg hloc)
        all_goals
          go_wp2
          go_ret
          exact ⟨by simp [HNl.out], HP.out⟩
theorem glook_any (wt : World) (T : Nat → Nd) (f : Nat) (IH : GenOk wt T f) (w : World) (c bc : Nat) (s : St) (iv lv kv vv : Value) (hb : Below wt.heap.size wt w) (hT : TreeAt wt T f c) (hC : GenAt w wt.heap.size bc s iv lv kv vv)
    (hG : Plain.Good (IsNode wt) s) (hs : sz s + bnd f + 8 < 1099511627776) :
    Calls Ybaf.prog 17 #[.pointer (some ⟨bc, 0, none⟩), .pointer (some ⟨c, 0, none⟩)] w fun e w' => e = .returned (.int .i64 (lookF (comp T f) c s).1) ∧ GPost wt.heap.size bc (lookF (comp T f) c s).2 (ownG bc iv lv kv vv) w w' := by
  unfold lookF
  cases hf : findK c s.keys s.vals with
  | some v =>
    refine (glook_found wt w c bc s iv lv kv vv hb hT.node hC hG (by omega) v hf).mono ?_
    rintro e w' ⟨rfl, rfl⟩
    exact ⟨rfl, hC.same⟩
  | none => exact glook_new wt T f IH w c bc s iv lv kv vv hb hT hC hG hs hf
end Go.Proofs.YbulkdjmsFmt
