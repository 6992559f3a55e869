import Derived.Test.YbulkdjmsFmtGenD
import Derived.Test.YbulkdjmsFmtRepeatB
import Derived.Deep.DeepCutAuto

/-! (*zzs5530am).gen: repetitions -/
namespace Go.Proofs.YbulkdjmsFmt
open Go.RowKit Plain
set_option maxRecDepth 100000
theorem GenAt.ways {w : World} {B bo : Nat} {s : St} {iv lv kv vv : Value} (h : GenAt w B bo s iv lv kv vv) {g cap : Nat} (hv : iv = .slice (some ⟨g, 0, none⟩) s.ins.length cap) {i : Nat} (hi : i < s.ins.length) (a b : Int) :
    GPost B bo (setWays s i a b) (ownG bo iv lv kv vv) w ((w.setCell ⟨g, i * 7 + 2, none⟩ (.int .i64 a)).setCell ⟨g, i * 7 + 3, none⟩ (.int .i64 b)) := by
  obtain ⟨rvs, hl, hown, hr⟩ := h.ins
  subst hv
  have hgo : (Value.slice (some ⟨g, 0, none⟩) s.ins.length cap).ownBlock = some g := rfl
  have hmem : g ∈ ownG bo (.slice (some ⟨g, 0, none⟩) s.ins.length cap) lv kv vv := mem_ownG.2 (.inr (.inl rfl))
  have hc : Chg (ownG bo (.slice (some ⟨g, 0, none⟩) s.ins.length cap) lv kv vv) w ((w.setCell ⟨g, i * 7 + 2, none⟩ (.int .i64 a)).setCell ⟨g, i * 7 + 3, none⟩ (.int .i64 b)) :=
    ((Chg.refl _ _).setCell (.inl hmem) _).setCell (.inl hmem) _
  have hne : ∀ k, k ≠ g → ((w.setCell ⟨g, i * 7 + 2, none⟩ (.int .i64 a)).setCell ⟨g, i * 7 + 3, none⟩ (.int .i64 b)).heap[k]? = w.heap[k]? := fun k hk =>
    (Below.heap_setCell _ ⟨g, i * 7 + 3, none⟩ _ k hk).trans (Below.heap_setCell _ ⟨g, i * 7 + 2, none⟩ _ k hk)
  have row : ∀ {e : TypeId} {size : Nat} {v : Value} {n : Nat} {xs : List Value}, w.ownsRow B e size v n xs → e ≠ 41 → ((w.setCell ⟨g, i * 7 + 2, none⟩ (.int .i64 a)).setCell ⟨g, i * 7 + 3, none⟩ (.int .i64 b)).ownsRow B e size v n xs := fun hr h41 =>
    ownsRow_of_block hr (fun k hk => hne k (fun e => rows_apart hr hown h41 hk (by rw [e]; rfl)))
  refine ⟨_, lv, kv, vv, ⟨?_, h.hBo, Nat.le_trans h.hB hc.size, ⟨rvs, by simp [setWays, hl], ?_, ?_⟩, row h.lbs (by decide), row h.keys (by decide), row h.vals (by decide)⟩, hc, fun k hk => .inl hk⟩
  · rw [hne bo (fun e => row_obj hown h.obj (by decide) hgo e.symm)]; exact h.obj
  · have := ownsRow_ways hown hl rfl hi a b
    simpa [setWays] using this
  · intro j rv x hj hx
    simp only [setWays] at hx
    rw [List.getElem?_modify] at hx
    obtain ⟨y, hy, hyx⟩ := Option.map_eq_some_iff.1 hx
    have : x.rg = y.rg := by
      by_cases hij : i = j
      · rw [if_pos hij] at hyx; rw [← hyx]
      · rw [if_neg hij] at hyx; exact congrArg Ins.rg hyx.symm
    rw [this]
    exact (hr j rv y hj hy).keep hc h.no55
theorem GenAt.ways_at {w : World} {B bo : Nat} {s : St} {iv lv kv vv : Value} (h : GenAt w B bo s iv lv kv vv) {i : Nat} (hi : i < s.ins.length) :
    ∃ g cap x y, iv = .slice (some ⟨g, 0, none⟩) s.ins.length cap ∧ g ≠ bo ∧ w.cell? ⟨g, i * 7 + 2, none⟩ = some (.int .i64 x) ∧ w.cell? ⟨g, i * 7 + 3, none⟩ = some (.int .i64 y) ∧ (∀ j, w.frozen? ⟨g, j, none⟩ = false) := by
  obtain ⟨rvs, hl, hown, _⟩ := h.ins
  obtain ⟨x, hx⟩ : ∃ x, s.ins[i]? = some x := ⟨_, List.getElem?_eq_getElem hi⟩
  obtain ⟨r, hr⟩ : ∃ r, rvs[i]? = some r := ⟨_, List.getElem?_eq_getElem (by omega)⟩
  have hown' := hown
  rcases hown.2 with ⟨_, h0⟩ | ⟨g, cap, cur, hv, hB, hg, h1, h2, h3, h4⟩
  · omega
  · have hc : ∀ j, j < 7 → w.cell? ⟨g, i * 7 + j, none⟩ = (cellsOf x r)[j]? := fun j hj => by
      have hlt : i * 7 + j < s.ins.length * 7 := by omega
      rw [cell_of_heap hg, ← flat_get hx hr hj, ← h4, List.getElem?_take, if_pos hlt, Array.getElem?_toList]
    exact ⟨g, cap, x.nx, x.al, hv, row_obj hown' h.obj (by decide) (by rw [hv]; rfl), hc 2 (by omega), hc 3 (by omega), fun j => frozen_of_heap hg⟩
set_option maxHeartbeats 2000000 in
theorem gen_rep_loop (wt : World) (T : Nat → Nd) (f : Nat) (IH : GenOk wt T f) (w : World) (n bc : Nat) (nx : Int) (s : St) (iv lv kv vv : Value) (hb : Below wt.heap.size wt w) (hT : TreeAt wt T (f + 1) n) (hC : GenAt w wt.heap.size bc s iv lv kv vv)
    (hG : Plain.Good (IsNode wt) s) (hs : sz s + bnd (f + 1) < 1099511627776) (hop : (T n).op = 9) (hmx : (T n).mx < 0) :
    Calls Ybaf.prog 6 #[.pointer (some ⟨bc, 0, none⟩), .pointer (some ⟨n, 0, none⟩), .int .i64 nx] w fun e w' => e = .returned (.int .i64 (repeatF (comp T f) (T n) (sub0 (T n)) nx s).1) ∧ GPost wt.heap.size bc (repeatF (comp T f) (T n) (sub0 (T n)) nx s).2 (ownG bc iv lv kv vv) w w' := by
  have hge := gext hT
  obtain ⟨⟨sv, rv, nm, hN⟩, hch⟩ := hT
  have h1 := hN.ok.one (.inr (.inl hop))
  have hgx := hge _ (sub0_mem h1)
  obtain ⟨hm, hTc⟩ := hch _ (sub0_mem h1)
  have hmn := hN.ok.mn
  obtain ⟨cg, ccap, rfl, hg, hgc⟩ := one_child hN h1
  have HN := tuck (fun (W : World) (h : Below wt.heap.size wt W) => hN.below h)
  have c0 : w.cell? ⟨n, 0, none⟩ = some (.int .u8 9) := by rw [cell_of_heap (HN.out w hb).obj, ← hop]; rfl
  have c1 : w.cell? ⟨n, 1, none⟩ = some (.slice (some ⟨cg, 0, none⟩) 1 ccap) := by rw [cell_of_heap (HN.out w hb).obj]; rfl
  have cg0 : w.cell? ⟨cg, 0, none⟩ = some (.pointer (some ⟨sub0 (T n), 0, none⟩)) := (hb.cell (p := ⟨cg, 0, none⟩) hg).trans hgc
  have c4 : w.cell? ⟨n, 4, none⟩ = some (.int .i64 (T n).mn) := by rw [cell_of_heap (HN.out w hb).obj]; rfl
  have c5 : w.cell? ⟨n, 5, none⟩ = some (.int .i64 (T n).mx) := by rw [cell_of_heap (HN.out w hb).obj]; rfl
  have e5 : bnd (f + 1) = 4 * bnd f + 8 := rfl
  rw [e5] at hs
  have hsz : s.ins.length < 1099511627776 := by unfold sz at hs; omega
  have HM0 := tuck (GMid.start hC hb)
  generalize hown : ownG bc iv lv kv vv = own at *
  clear hown
  have hR : repeatF (comp T f) (T n) (sub0 (T n)) nx s = repF (comp T f) (sub0 (T n)) (if 0 < (T n).mn then ((T n).mn - 1).toNat else (T n).mn.toNat) (if 0 < (T n).mn then (loopF (comp T f) (sub0 (T n)) (T n).lz nx s).1 else s.ins.length) (loopF (comp T f) (sub0 (T n)) (T n).lz nx s).2 := by
    unfold repeatF
    rw [if_pos hmx]
    by_cases h : 0 < (T n).mn
    · rw [if_pos h, if_pos h, if_pos h]
    · rw [if_neg h, if_neg h, if_neg h]
  rw [hR]
  have HIr : Hid (∀ (k : Nat) (x : Int), k ≤ 2 → ∀ (W : World), GMid wt bc own w (repF (comp T f) (sub0 (T n)) k x (loopF (comp T f) (sub0 (T n)) (T n).lz nx s).2).2 W →
      Calls Ybaf.prog 6 #[.pointer (some ⟨bc, 0, none⟩), .pointer (some ⟨sub0 (T n), 0, none⟩), .int .i64 (repF (comp T f) (sub0 (T n)) k x (loopF (comp T f) (sub0 (T n)) (T n).lz nx s).2).1] W fun e w' => e = .returned (.int .i64 (repF (comp T f) (sub0 (T n)) (k + 1) x (loopF (comp T f) (sub0 (T n)) (T n).lz nx s).2).1) ∧
        GMid wt bc own w (repF (comp T f) (sub0 (T n)) (k + 1) x (loopF (comp T f) (sub0 (T n)) (T n).lz nx s).2).2 w') := by
    intro k x hk W hM
    have hX := (loopF_ext (T n).lz hgx nx s).trans (repF_ext hgx k x (loopF (comp T f) (sub0 (T n)) (T n).lz nx s).2)
    have hz := hX.size
    have h2 : k * bnd f ≤ 2 * bnd f := Nat.mul_le_mul_right _ hk
    exact hM.call (fun iv1 lv1 kv1 vv1 hb1 hC1 => IH W (sub0 (T n)) bc _ _ iv1 lv1 kv1 vv1 hb1 hTc hC1 (hX.good hG) (by omega))
  have HPut := tuck (HM0.out.call (fun iv1 lv1 kv1 vv1 _ hC1 => put_any w wt.heap.size bc s iv1 lv1 kv1 vv1 (iSplit 0 0) (.slice none 0 0) hC1 (rgNil _) hsz))
  obtain ⟨L, hL⟩ : ∃ L, s.ins.length = L := ⟨_, rfl⟩
  have hX1 := Ext.put (IsNode wt) n s (iSplit 0 0)
  have hlen1 : (s.put (iSplit 0 0)).2.ins.length = L + 1 := by simp [St.put, hL]
  have he1 : (s.put (iSplit 0 0)).1 = (L : Int) := by simp [St.put, hL]
  have hLF : loopF (comp T f) (sub0 (T n)) (T n).lz nx s = ((comp T f (sub0 (T n)) L (s.put (iSplit 0 0)).2).1, setWays (comp T f (sub0 (T n)) L (s.put (iSplit 0 0)).2).2 L (if (T n).lz then nx else (comp T f (sub0 (T n)) L (s.put (iSplit 0 0)).2).1) (if (T n).lz then (comp T f (sub0 (T n)) L (s.put (iSplit 0 0)).2).1 else nx)) := by
    unfold loopF; rw [he1, hL]
  rw [hL]
  rw [he1] at HPut
  have hG1 := hX1.good hG
  have hz1 := hX1.size
  generalize (s.put (iSplit 0 0)).2 = s1 at *
  have hX2 := comp_ext hTc L s1
  have hz2 := hX2.size
  have hmono := hX2.mono
  have HGen := tuck (fun (w1 : World) (hM : GMid wt bc own w s1 w1) => hM.call (fun iv1 lv1 kv1 vv1 hb1 hC1 => IH w1 (sub0 (T n)) bc L s1 iv1 lv1 kv1 vv1 hb1 hTc hC1 hG1 (by omega)))
  generalize comp T f (sub0 (T n)) L s1 = p2 at *
  have hLlen : L < p2.2.ins.length := by omega
  have hlen2 : p2.2.ins.length < 1099511627776 := by unfold sz at hz2 hz1 hs; omega
  generalize loopF (comp T f) (sub0 (T n)) (T n).lz nx s = pl at *
  obtain ⟨M, hM⟩ : ∃ M : Nat, (if 0 < (T n).mn then ((T n).mn - 1).toNat else (T n).mn.toNat) = M := ⟨_, rfl⟩
  obtain ⟨x0, hx0⟩ : ∃ x0 : Int, (if 0 < (T n).mn then pl.1 else (L : Int)) = x0 := ⟨_, rfl⟩
  rw [hM, hx0]
  have HMx := tuck hM
  have HX0 := tuck hx0
  have HLF := tuck hLF
  clear hX1 hG1 hz1 hX2 hz2 e5 hs hsz hC hTc hch hb hG IH hm hN hgc h1 hop hge hgx hR hLF hL hlen1 he1 hmono hM hx0 HM0
  go_enter Ybaf.func6, Ybaf.ntmps6
  go_wp2_with fail
  refine HPut.out.mono ?_
  rintro e w1 ⟨rfl, hp⟩
  have HM1 := tuck hp
  clear hp HPut c0 c1 cg0 c4 c5
  go_wp2_with fail
  refine (HGen.out w1 HM1.out).mono ?_
  rintro e w2 ⟨rfl, hp⟩
  obtain ⟨iv2, lv2, kv2, vv2, hC2, hb2, back⟩ := hp
  clear HGen HM1
  obtain ⟨g, cap, x, y, rfl, hgb, q2, q3, qf⟩ := hC2.ways_at hLlen
  have q0 : w2.cell? ⟨bc, 0, none⟩ = some (.slice (some ⟨g, 0, none⟩) p2.2.ins.length cap) := by rw [cell_of_heap hC2.obj]; rfl
  have q6 : w2.cell? ⟨n, 6, none⟩ = some (.bool (T n).lz) := by rw [cell_of_heap (HN.out w2 hb2).obj]; rfl
  have f2 := qf (L * 7 + 2)
  have f3 := qf (L * 7 + 3)
  have HWy := tuck (fun (a b : Int) => GMid.next hC2 hb2 back (hC2.ways rfl hLlen a b))
  generalize hlen : p2.2.ins.length = len at *
  have hLI : (L : Int) < (len : Int) := by omega
  clear hC2 hb2 back qf hlen
  cases hlz : (T n).lz with
  | true =>
    rw [hlz] at q6 HLF
    have q0b : (w2.setCell ⟨g, L * 7 + 2, none⟩ (.int .i64 nx)).cell? ⟨bc, 0, none⟩ = some (.slice (some ⟨g, 0, none⟩) len cap) := by rw [World.cell?_setCell_other _ _ _ _ (by intro e; injection e with e1; exact hgb e1)]; exact q0
    have q3b : (w2.setCell ⟨g, L * 7 + 2, none⟩ (.int .i64 nx)).cell? ⟨g, L * 7 + 3, none⟩ = some (.int .i64 y) := by rw [World.cell?_setCell_other _ _ _ _ (by simp)]; exact q3
    have HM := tuck (HWy.out nx p2.1)
    have e1 : pl.1 = p2.1 := by rw [HLF.out]
    have e2 : pl.2 = setWays p2.2 L nx p2.1 := by rw [HLF.out]; rfl
    have HMc : Hid (GMid wt bc own w pl.2 ((w2.setCell ⟨g, L * 7 + 2, none⟩ (.int .i64 nx)).setCell ⟨g, L * 7 + 3, none⟩ (.int .i64 p2.1))) := by rw [e2]; exact HM.out
    clear HM e2 hlz HWy HLF
    by_cases hp0 : 0 < (T n).mn
    · have hMe : (M : Int) = (T n).mn - 1 := by rw [← HMx.out, if_pos hp0]; omega
      have hxe : x0 = p2.1 := by rw [← HX0.out, if_pos hp0]; exact e1
      subst hxe
      clear e1
      have HMe := tuck hMe
      clear hMe
      go_wp2
      go_loopw [11, 16] (fun nxv i wr => ∃ k : Nat, k ≤ M ∧ i = .int .i64 k ∧ nxv = .int .i64 (repF (comp T f) (sub0 (T n)) k p2.1 pl.2).1 ∧ GMid wt bc own w (repF (comp T f) (sub0 (T n)) k p2.1 pl.2).2 wr) (fun _ i _ => M - (intOf i).toNat)
      case atStart => exact ⟨0, Nat.zero_le _, rfl, rfl, HMc.out⟩
      case round =>
        obtain ⟨k, hk, rfl, rfl, hM3⟩ := hrel
        have HM3 := tuck hM3
        clear hM3
        by_cases hkM : k < M
        · have HCa := tuck (HIr.out k p2.1 (by have := HMe.out; omega) wr HM3.out)
          have hkI : (k : Int) < (T n).mn - 1 := by have := HMe.out; omega
          go_wp2_with fail
          refine HCa.out.mono ?_
          rintro e w' ⟨rfl, hp⟩
          have HM2 := tuck hp
          clear hp HCa
          go_wp2
          go_roundw
          case rel => exact ⟨k + 1, by omega, by go_num, rfl, HM2.out⟩
          case measure => simp [intOf]; omega
        · have hkI : ¬ (k : Int) < (T n).mn - 1 := by have := HMe.out; omega
          have hkE : Hid (k = M) := show k = M from by omega
          go_wp2
          go_ret
          exact ⟨by rw [hkE.out]; rfl, by rw [hkE.out] at HM3; exact HM3.out.post⟩
    · have hMe : (M : Int) = (T n).mn := by rw [← HMx.out, if_neg hp0]; omega
      have hxe : x0 = (L : Int) := by rw [← HX0.out, if_neg hp0]
      subst hxe
      clear e1
      have HMe := tuck hMe
      clear hMe
      go_wp2
      go_loopw [11, 16] (fun nxv i wr => ∃ k : Nat, k ≤ M ∧ i = .int .i64 k ∧ nxv = .int .i64 (repF (comp T f) (sub0 (T n)) k (L : Int) pl.2).1 ∧ GMid wt bc own w (repF (comp T f) (sub0 (T n)) k (L : Int) pl.2).2 wr) (fun _ i _ => M - (intOf i).toNat)
      case atStart => exact ⟨0, Nat.zero_le _, rfl, rfl, HMc.out⟩
      case round =>
        obtain ⟨k, hk, rfl, rfl, hM3⟩ := hrel
        have HM3 := tuck hM3
        clear hM3
        by_cases hkM : k < M
        · have HCa := tuck (HIr.out k (L : Int) (by have := HMe.out; omega) wr HM3.out)
          have hkI : (k : Int) < (T n).mn := by have := HMe.out; omega
          go_wp2_with fail
          refine HCa.out.mono ?_
          rintro e w' ⟨rfl, hp⟩
          have HM2 := tuck hp
          clear hp HCa
          go_wp2
          go_roundw
          case rel => exact ⟨k + 1, by omega, by go_num, rfl, HM2.out⟩
          case measure => simp [intOf]; omega
        · have hkI : ¬ (k : Int) < (T n).mn := by have := HMe.out; omega
          have hkE : Hid (k = M) := show k = M from by omega
          go_wp2
          go_ret
          exact ⟨by rw [hkE.out]; rfl, by rw [hkE.out] at HM3; exact HM3.out.post⟩
  | false =>
    rw [hlz] at q6 HLF
    have q0b : (w2.setCell ⟨g, L * 7 + 2, none⟩ (.int .i64 p2.1)).cell? ⟨bc, 0, none⟩ = some (.slice (some ⟨g, 0, none⟩) len cap) := by rw [World.cell?_setCell_other _ _ _ _ (by intro e; injection e with e1; exact hgb e1)]; exact q0
    have q3b : (w2.setCell ⟨g, L * 7 + 2, none⟩ (.int .i64 p2.1)).cell? ⟨g, L * 7 + 3, none⟩ = some (.int .i64 y) := by rw [World.cell?_setCell_other _ _ _ _ (by simp)]; exact q3
    have HM := tuck (HWy.out p2.1 nx)
    have e1 : pl.1 = p2.1 := by rw [HLF.out]
    have e2 : pl.2 = setWays p2.2 L p2.1 nx := by rw [HLF.out]; rfl
    have HMc : Hid (GMid wt bc own w pl.2 ((w2.setCell ⟨g, L * 7 + 2, none⟩ (.int .i64 p2.1)).setCell ⟨g, L * 7 + 3, none⟩ (.int .i64 nx))) := by rw [e2]; exact HM.out
    clear HM e2 hlz HWy HLF
    by_cases hp0 : 0 < (T n).mn
    · have hMe : (M : Int) = (T n).mn - 1 := by rw [← HMx.out, if_pos hp0]; omega
      have hxe : x0 = p2.1 := by rw [← HX0.out, if_pos hp0]; exact e1
      subst hxe
      clear e1
      have HMe := tuck hMe
      clear hMe
      go_wp2
      go_loopw [11, 16] (fun nxv i wr => ∃ k : Nat, k ≤ M ∧ i = .int .i64 k ∧ nxv = .int .i64 (repF (comp T f) (sub0 (T n)) k p2.1 pl.2).1 ∧ GMid wt bc own w (repF (comp T f) (sub0 (T n)) k p2.1 pl.2).2 wr) (fun _ i _ => M - (intOf i).toNat)
      case atStart => exact ⟨0, Nat.zero_le _, rfl, rfl, HMc.out⟩
      case round =>
        obtain ⟨k, hk, rfl, rfl, hM3⟩ := hrel
        have HM3 := tuck hM3
        clear hM3
        by_cases hkM : k < M
        · have HCa := tuck (HIr.out k p2.1 (by have := HMe.out; omega) wr HM3.out)
          have hkI : (k : Int) < (T n).mn - 1 := by have := HMe.out; omega
          go_wp2_with fail
          refine HCa.out.mono ?_
          rintro e w' ⟨rfl, hp⟩
          have HM2 := tuck hp
          clear hp HCa
          go_wp2
          go_roundw
          case rel => exact ⟨k + 1, by omega, by go_num, rfl, HM2.out⟩
          case measure => simp [intOf]; omega
        · have hkI : ¬ (k : Int) < (T n).mn - 1 := by have := HMe.out; omega
          have hkE : Hid (k = M) := show k = M from by omega
          go_wp2
          go_ret
          exact ⟨by rw [hkE.out]; rfl, by rw [hkE.out] at HM3; exact HM3.out.post⟩
    · have hMe : (M : Int) = (T n).mn := by rw [← HMx.out, if_neg hp0]; omega
      have hxe : x0 = (L : Int) := by rw [← HX0.out, if_neg hp0]
      subst hxe
      clear e1
      have HMe := tuck hMe
      clear hMe
      go_wp2
      go_loopw [11, 16] (fun nxv i wr => ∃ k : Nat, k ≤ M ∧ i = .int .i64 k ∧ nxv = .int .i64 (repF (comp T f) (sub0 (T n)) k (L : Int) pl.2).1 ∧ GMid wt bc own w (repF (comp T f) (sub0 (T n)) k (L : Int) pl.2).2 wr) (fun _ i _ => M - (intOf i).toNat)
      case atStart => exact ⟨0, Nat.zero_le _, rfl, rfl, HMc.out⟩
      case round =>
        obtain ⟨k, hk, rfl, rfl, hM3⟩ := hrel
        have HM3 := tuck hM3
        clear hM3
        by_cases hkM : k < M
        · have HCa := tuck (HIr.out k (L : Int) (by have := HMe.out; omega) wr HM3.out)
          have hkI : (k : Int) < (T n).mn := by have := HMe.out; omega
          go_wp2_with fail
          refine HCa.out.mono ?_
          rintro e w' ⟨rfl, hp⟩
          have HM2 := tuck hp
          clear hp HCa
          go_wp2
          go_roundw
          case rel => exact ⟨k + 1, by omega, by go_num, rfl, HM2.out⟩
          case measure => simp [intOf]; omega
        · have hkI : ¬ (k : Int) < (T n).mn := by have := HMe.out; omega
          have hkE : Hid (k = M) := show k = M from by omega
          go_wp2
          go_ret
          exact ⟨by rw [hkE.out]; rfl, by rw [hkE.out] at HM3; exact HM3.out.post⟩
end Go.Proofs.YbulkdjmsFmt
