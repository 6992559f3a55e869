import Derived.Test.YbulkdjmsFmtCompileD
import Derived.Deep.RegionWith
import Derived.BigRegion

import Derived.Deep.DeepCutAuto
/-! (*compiler).repeat -/
namespace Go.Proofs.YbulkdjmsFmt
open Go.RowKit Plain
set_option maxRecDepth 100000
theorem pref_any (w : World) (a b : Int) (lz : Bool) : Calls Ybaf.prog 19 #[.int .i64 a, .int .i64 b, .bool lz] w fun e w' => e = .returned (.tuple #[.int .i64 (if lz then b else a), .int .i64 (if lz then a else b)]) ∧ w = w' := by
  cases lz with
  | true =>
    go_enter Ybaf.func19, Ybaf.ntmps19
    go_wp2
    go_ret2
    exact ⟨rfl, rfl⟩
  | false =>
    go_enter Ybaf.func19, Ybaf.ntmps19
    go_wp2
    go_ret2
    exact ⟨rfl, rfl⟩
/-- Where instruction i's two ways lie. -/
theorem CompAt.ways_at {w : World} {B bc : Nat} {s : St} {iv lv : Value} {bm : Nat} (h : CompAt w B bc s iv lv bm) {i : Nat} (hi : i < s.ins.length) :
    ∃ g cap x y, iv = .slice (some ⟨g, 0, none⟩) s.ins.length cap ∧ w.cell? ⟨g, i * 7 + 2, none⟩ = some (.int .i64 x) ∧ w.cell? ⟨g, i * 7 + 3, none⟩ = some (.int .i64 y) ∧ (∀ j, w.frozen? ⟨g, j, none⟩ = false) := by
  obtain ⟨rvs, hl, hown, _⟩ := h.ins
  obtain ⟨x, hx⟩ : ∃ x, s.ins[i]? = some x := ⟨_, List.getElem?_eq_getElem hi⟩
  obtain ⟨r, hr⟩ : ∃ r, rvs[i]? = some r := ⟨_, List.getElem?_eq_getElem (by omega)⟩
  rcases hown.2 with ⟨_, h0⟩ | ⟨g, cap, cur, hv, hB, hg, h1, h2, h3, h4⟩
  · omega
  · have hc : ∀ j, j < 7 → w.cell? ⟨g, i * 7 + j, none⟩ = (cellsOf x r)[j]? := fun j hj => by
      have hlt : i * 7 + j < s.ins.length * 7 := by omega
      rw [cell_of_heap hg, ← flat_get hx hr hj, ← h4, List.getElem?_take, if_pos hlt, Array.getElem?_toList]
    exact ⟨g, cap, x.nx, x.al, hv, hc 2 (by omega), hc 3 (by omega), fun j => frozen_of_heap hg⟩
set_option maxHeartbeats 2000000 in
theorem repeat_loop (wt : World) (T : Nat → Nd) (f : Nat) (IH : CompileOk wt T f) (w : World) (n bc : Nat) (nx : Int) (s : St) (iv lv : Value) (bm : Nat) (hb : Below wt.heap.size wt w) (hT : TreeAt wt T (f + 1) n) (hC : CompAt w wt.heap.size bc s iv lv bm)
    (hG : Plain.Good (IsNode wt) s) (hs : sz s + bnd (f + 1) < 1099511627776) (hop : (T n).op = 9) (hmx : (T n).mx < 0) :
    Calls Ybaf.prog 10 #[.pointer (some ⟨bc, 0, none⟩), .pointer (some ⟨n, 0, none⟩), .int .i64 nx] w fun e w' => e = .returned (.int .i64 (repeatF (comp T f) (T n) (sub0 (T n)) nx s).1) ∧ CPost wt.heap.size bc (repeatF (comp T f) (T n) (sub0 (T n)) nx s).2 (ownC bc bm iv lv) w w' := by
  have hge := gext hT
  obtain ⟨⟨sv, rv, nm, hN⟩, hch⟩ := hT
  have h1 := hN.ok.one (.inr (.inl hop))
  have hgx := hge _ (sub0_mem h1)
  obtain ⟨hm, hTc⟩ := hch _ (sub0_mem h1)
  have hmn := hN.ok.mn
  obtain ⟨cg, ccap, rfl, hg, hgc⟩ := one_child hN h1
  have HN := tuck (fun (W : World) (h : Below wt.heap.size wt W) => hN.below h)
  have c1 : w.cell? ⟨n, 1, none⟩ = some (.slice (some ⟨cg, 0, none⟩) 1 ccap) := by rw [cell_of_heap (HN.out w hb).obj]; rfl
  have cg0 : w.cell? ⟨cg, 0, none⟩ = some (.pointer (some ⟨sub0 (T n), 0, none⟩)) := (hb.cell (p := ⟨cg, 0, none⟩) hg).trans hgc
  have c4 : w.cell? ⟨n, 4, none⟩ = some (.int .i64 (T n).mn) := by rw [cell_of_heap (HN.out w hb).obj]; rfl
  have c5 : w.cell? ⟨n, 5, none⟩ = some (.int .i64 (T n).mx) := by rw [cell_of_heap (HN.out w hb).obj]; rfl
  have e5 : bnd (f + 1) = 4 * bnd f + 8 := rfl
  rw [e5] at hs
  have hsz : s.ins.length < 1099511627776 := by unfold sz at hs; omega
  have HB := tuck hb
  have HC := tuck hC
  have HE := tuck (emit_any w wt.heap.size bc s iv lv bm (iSplit 0 0) (.slice none 0 0) hC (rgNil _) hsz)
  -- what is known of the state behind the loop
  have HX := tuck (fun (k : Nat) (hk : k ≤ 2) => (loopF_ext (T n).lz hgx nx s).trans (repF_ext hgx k (loopF (comp T f) (sub0 (T n)) (T n).lz nx s).1 (loopF (comp T f) (sub0 (T n)) (T n).lz nx s).2))
  have hR : repeatF (comp T f) (T n) (sub0 (T n)) nx s = repF (comp T f) (sub0 (T n)) (if 0 < (T n).mn then ((T n).mn - 1).toNat else (T n).mn.toNat) (if 0 < (T n).mn then (loopF (comp T f) (sub0 (T n)) (T n).lz nx s).1 else s.ins.length) (loopF (comp T f) (sub0 (T n)) (T n).lz nx s).2 := by
    unfold repeatF
    rw [if_pos hmx]
    by_cases h : 0 < (T n).mn
    · rw [if_pos h, if_pos h, if_pos h]
    · rw [if_neg h, if_neg h, if_neg h]
  rw [hR]
  have HIr : Hid (∀ (k : Nat) (x : Int), k ≤ 2 → ∀ (W : World) (iv1 lv1 : Value) (bm1 : Nat), Below wt.heap.size wt W → CompAt W wt.heap.size bc (repF (comp T f) (sub0 (T n)) k x (loopF (comp T f) (sub0 (T n)) (T n).lz nx s).2).2 iv1 lv1 bm1 →
      Calls Ybaf.prog 5 #[.pointer (some ⟨bc, 0, none⟩), .pointer (some ⟨sub0 (T n), 0, none⟩), .int .i64 (repF (comp T f) (sub0 (T n)) k x (loopF (comp T f) (sub0 (T n)) (T n).lz nx s).2).1] W fun e w' => e = .returned (.int .i64 (repF (comp T f) (sub0 (T n)) (k + 1) x (loopF (comp T f) (sub0 (T n)) (T n).lz nx s).2).1) ∧
        CPost wt.heap.size bc (repF (comp T f) (sub0 (T n)) (k + 1) x (loopF (comp T f) (sub0 (T n)) (T n).lz nx s).2).2 (ownC bc bm1 iv1 lv1) W w') := by
    intro k x hk W iv1 lv1 bm1 hbw hC1
    have hX := (loopF_ext (T n).lz hgx nx s).trans (repF_ext hgx k x (loopF (comp T f) (sub0 (T n)) (T n).lz nx s).2)
    have hz := hX.size
    have h2 : k * bnd f ≤ 2 * bnd f := Nat.mul_le_mul_right _ hk
    exact IH W (sub0 (T n)) bc _ _ iv1 lv1 bm1 hbw hTc hC1 (hX.good hG) (by omega)
  obtain ⟨L, hL⟩ : ∃ L, s.ins.length = L := ⟨_, rfl⟩
  have hX1 := Ext.put (IsNode wt) n s (iSplit 0 0)
  have hlen1 : (s.put (iSplit 0 0)).2.ins.length = L + 1 := by simp [St.put, hL]
  have he1 : (s.put (iSplit 0 0)).1 = (L : Int) := by simp [St.put, hL]
  have hLF : loopF (comp T f) (sub0 (T n)) (T n).lz nx s = ((comp T f (sub0 (T n)) L (s.put (iSplit 0 0)).2).1, setWays (comp T f (sub0 (T n)) L (s.put (iSplit 0 0)).2).2 L (if (T n).lz then nx else (comp T f (sub0 (T n)) L (s.put (iSplit 0 0)).2).1) (if (T n).lz then (comp T f (sub0 (T n)) L (s.put (iSplit 0 0)).2).1 else nx)) := by
    unfold loopF; rw [he1, hL]
  have HLF := tuck hLF
  rw [hL]
  rw [he1] at HE
  have hG1 := hX1.good hG
  have hz1 := hX1.size
  generalize (s.put (iSplit 0 0)).2 = s1 at *
  have hX2 := comp_ext hTc L s1
  have hz2 := hX2.size
  have hmono := hX2.mono
  have HE2 := tuck (fun (W : World) (iv1 lv1 : Value) (bm1 : Nat) (hbw : Below wt.heap.size wt W) (hC1 : CompAt W wt.heap.size bc s1 iv1 lv1 bm1) => IH W (sub0 (T n)) bc L s1 iv1 lv1 bm1 hbw hTc hC1 hG1 (by omega))
  generalize comp T f (sub0 (T n)) L s1 = p2 at *
  obtain ⟨x1, y1, hx1, hy1, HPr⟩ : ∃ x1 y1 : Int, Hid (x1 = if (T n).lz then nx else p2.1) ∧ Hid (y1 = if (T n).lz then p2.1 else nx) ∧ Hid (∀ W : World, Calls Ybaf.prog 19 #[.int .i64 p2.1, .int .i64 nx, .bool (T n).lz] W fun e w' => e = .returned (.tuple #[.int .i64 x1, .int .i64 y1]) ∧ W = w') := ⟨_, _, tuck rfl, tuck rfl, tuck (fun W => pref_any W p2.1 nx (T n).lz)⟩
  have HLF2 : Hid (loopF (comp T f) (sub0 (T n)) (T n).lz nx s = (p2.1, setWays p2.2 L x1 y1)) := by
    show _ = _
    rw [hx1.out, hy1.out]; exact hLF
  have hLlen : L < p2.2.ins.length := by omega
  have hlen2 : p2.2.ins.length < 1099511627776 := by unfold sz at hz2 hz1 hs; omega
  generalize loopF (comp T f) (sub0 (T n)) (T n).lz nx s = pl at *
  obtain ⟨M, hM⟩ : ∃ M : Nat, (if 0 < (T n).mn then ((T n).mn - 1).toNat else (T n).mn.toNat) = M := ⟨_, rfl⟩
  obtain ⟨x0, hx0⟩ : ∃ x0 : Int, (if 0 < (T n).mn then pl.1 else (L : Int)) = x0 := ⟨_, rfl⟩
  rw [hM, hx0]
  have HMx := tuck hM
  have HX0 := tuck hx0
  clear hM hx0
  clear HX hX1 hG1 hz1 hX2 hz2 e5 hs hsz hC hTc hch hb hG IH hm hN hgc h1 hop hge hgx hR hLF HLF hL hlen1 he1 hmono hx1 hy1
  go_enter Ybaf.func10, Ybaf.ntmps10
  go_wp2_with fail
  refine HE.out.mono ?_
  rintro e w1 ⟨rfl, hp⟩
  obtain ⟨iv1, lv1, bm1, hC1, hb1, back⟩ := hp.opened HC.out
  have HC1 := tuck hC1
  have HB1 := tuck (HB.out.trans hb1)
  have BK1 := tuck back
  clear hp hC1 hb1 back HE c1 cg0 c4 c5
  go_wp2_with fail
  refine (HE2.out w1 iv1 lv1 bm1 HB1.out HC1.out).mono ?_
  rintro e w2 ⟨rfl, hp⟩
  obtain ⟨iv2, lv2, bm2, hC2, hb2, back⟩ := hp.opened HC1.out
  have hb2' := HB1.out.trans hb2
  obtain ⟨g, cap, x, y, rfl, q2, q3, qf⟩ := hC2.ways_at hLlen
  have q0 : w2.cell? ⟨bc, 0, none⟩ = some (.slice (some ⟨g, 0, none⟩) p2.2.ins.length cap) := by rw [cell_of_heap hC2.obj]; rfl
  have q6 : w2.cell? ⟨n, 6, none⟩ = some (.bool (T n).lz) := by rw [cell_of_heap (HN.out w2 hb2').obj]; rfl
  have f2 := qf (L * 7 + 2)
  have f3 := qf (L * 7 + 3)
  have hW := hC2.ways (w1 := w2.drew) ((Chg.refl _ _).drew) rfl hLlen x1 y1
  have HM : Hid (Mid wt bc (ownC bc bm iv lv) w (setWays p2.2 L x1 y1) ((w2.drew.setCell ⟨g, L * 7 + 2, none⟩ (.int .i64 x1)).setCell ⟨g, L * 7 + 3, none⟩ (.int .i64 y1))) :=
    Mid.next hC2 hb2' (fun s2 w3 h => BK1.out _ _ (back _ _ h)) hW
  generalize hlen : p2.2.ins.length = len at *
  have hLI : (L : Int) < (len : Int) := by omega
  clear hp hC2 hb2 back HE2 hb2' qf hW hlen
  go_wp2_with fail
  go_cut [] (fun wx => Mid wt bc (ownC bc bm iv lv) w (setWays p2.2 L x1 y1) wx)
  case first =>
    go_region_with (go_at_call 19; refine (HPr.out _).mono ?_; rintro e w' ⟨rfl, rfl⟩)
    all_goals (go_wp2_with fail; go_meet; exact HM.out)
  case rest =>
  have HMc : Hid (Mid wt bc (ownC bc bm iv lv) w pl.2 wc) := by rw [HLF2.out]; exact hcut
  have e1 : pl.1 = p2.1 := by rw [HLF2.out]
  clear hcut HM q0 q2 q3 f2 f3 q6
  by_cases hp0 : 0 < (T n).mn
  · have hMe : (M : Int) = (T n).mn - 1 := by rw [← HMx.out, if_pos hp0]; omega
    have hxe : x0 = p2.1 := by rw [← HX0.out, if_pos hp0]; exact e1
    subst hxe
    clear e1
    have HMe := tuck hMe
    clear hMe
    go_wp2
    go_loopw [2, 100] (fun nxv i wr => ∃ k : Nat, k ≤ M ∧ i = .int .i64 k ∧ nxv = .int .i64 (repF (comp T f) (sub0 (T n)) k p2.1 pl.2).1 ∧ Mid wt bc (ownC bc bm iv lv) w (repF (comp T f) (sub0 (T n)) k p2.1 pl.2).2 wr) (fun _ i _ => M - (intOf i).toNat)
    case atStart => exact ⟨0, Nat.zero_le _, rfl, rfl, HMc.out⟩
    case round =>
      obtain ⟨k, hk, rfl, rfl, iv3, lv3, bm3, hC3, hb3, hback⟩ := hrel
      by_cases hkM : k < M
      · have HCa := tuck (HIr.out k p2.1 (by have := HMe.out; omega) wr iv3 lv3 bm3 hb3 hC3)
        have HNx := tuck (fun (s' : St) (w' : World) (hp : CPost wt.heap.size bc s' (ownC bc bm3 iv3 lv3) wr w') => Mid.next hC3 hb3 hback hp)
        have hkI : (k : Int) < (T n).mn - 1 := by have := HMe.out; omega
        clear hC3 hb3 hback
        go_wp2_with fail
        refine HCa.out.mono ?_
        rintro e w' ⟨rfl, hp⟩
        have HM2 := tuck (HNx.out _ _ hp)
        clear hp HCa HNx
        go_wp2
        go_roundw
        case rel => exact ⟨k + 1, by omega, by go_num, rfl, HM2.out⟩
        case measure => simp [intOf]; omega
      · have hkI : ¬ (k : Int) < (T n).mn - 1 := by have := HMe.out; omega
        have HM2 := tuck (Mid.post ⟨iv3, lv3, bm3, hC3, hb3, hback⟩)
        have hkE : Hid (k = M) := show k = M from by omega
        clear hC3 hb3 hback
        go_wp2
        go_ret
        exact ⟨by rw [hkE.out]; rfl, by rw [hkE.out] at HM2; exact HM2.out⟩
  · have hMe : (M : Int) = (T n).mn := by rw [← HMx.out, if_neg hp0]; omega
    have hxe : x0 = (L : Int) := by rw [← HX0.out, if_neg hp0]
    subst hxe
    clear e1
    have HMe := tuck hMe
    clear hMe
    go_wp2
    go_loopw [2, 100] (fun nxv i wr => ∃ k : Nat, k ≤ M ∧ i = .int .i64 k ∧ nxv = .int .i64 (repF (comp T f) (sub0 (T n)) k (L : Int) pl.2).1 ∧ Mid wt bc (ownC bc bm iv lv) w (repF (comp T f) (sub0 (T n)) k (L : Int) pl.2).2 wr) (fun _ i _ => M - (intOf i).toNat)
    case atStart => exact ⟨0, Nat.zero_le _, rfl, rfl, HMc.out⟩
    case round =>
      obtain ⟨k, hk, rfl, rfl, iv3, lv3, bm3, hC3, hb3, hback⟩ := hrel
      by_cases hkM : k < M
      · have HCa := tuck (HIr.out k (L : Int) (by have := HMe.out; omega) wr iv3 lv3 bm3 hb3 hC3)
        have HNx := tuck (fun (s' : St) (w' : World) (hp : CPost wt.heap.size bc s' (ownC bc bm3 iv3 lv3) wr w') => Mid.next hC3 hb3 hback hp)
        have hkI : (k : Int) < (T n).mn := by have := HMe.out; omega
        clear hC3 hb3 hback
        go_wp2_with fail
        refine HCa.out.mono ?_
        rintro e w' ⟨rfl, hp⟩
        have HM2 := tuck (HNx.out _ _ hp)
        clear hp HCa HNx
        go_wp2
        go_roundw
        case rel => exact ⟨k + 1, by omega, by go_num, rfl, HM2.out⟩
        case measure => simp [intOf]; omega
      · have hkI : ¬ (k : Int) < (T n).mn := by have := HMe.out; omega
        have HM2 := tuck (Mid.post ⟨iv3, lv3, bm3, hC3, hb3, hback⟩)
        have hkE : Hid (k = M) := show k = M from by omega
        clear hC3 hb3 hback
        go_wp2
        go_ret
        exact ⟨by rw [hkE.out]; rfl, by rw [hkE.out] at HM2; exact HM2.out⟩
end Go.Proofs.YbulkdjmsFmt
