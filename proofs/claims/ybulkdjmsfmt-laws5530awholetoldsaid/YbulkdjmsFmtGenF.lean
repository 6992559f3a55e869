import Derived.Test.YbulkdjmsFmtGenE

/-! (*zzs5530am).gen: optional repetitions -/
namespace Go.Proofs.YbulkdjmsFmt
open Go.RowKit Plain
set_option maxRecDepth 100000
theorem GMid.drewN {wt w wr : World} {bc : Nat} {own : List Nat} {s : St} (h : GMid wt bc own w s wr) (q : Nat) : GMid wt bc own w s (wr.drewN q) := by
  obtain ⟨iv, lv, kv, vv, hC, hb, hk⟩ := h
  have hc : Chg [] wr (wr.drewN q) := (Chg.refl _ _).drewN q
  have hC' := hC.keep hc (by intro k hk; cases hk) (by simp)
  exact GMid.next hC hb hk (GPost.after (hc.wide (by simp)) (fun k hk => .inl hk) hC'.same)
set_option maxHeartbeats 2000000 in
theorem gen_rep_opt (wt : World) (T : Nat → Nd) (f : Nat) (IH : GenOk wt T f) (w : World) (n bc : Nat) (nx : Int) (s : St) (iv lv kv vv : Value) (hb : Below wt.heap.size wt w) (hT : TreeAt wt T (f + 1) n) (hC : GenAt w wt.heap.size bc s iv lv kv vv)
    (hG : Plain.Good (IsNode wt) s) (hs : sz s + bnd (f + 1) < 1099511627776) (hop : (T n).op = 9) (hmx : ¬ (T n).mx < 0) :
    Calls Ybaf.prog 6 #[.pointer (some ⟨bc, 0, none⟩), .pointer (some ⟨n, 0, none⟩), .int .i64 nx] w fun e w' => e = .returned (.int .i64 (repeatF (comp T f) (T n) (sub0 (T n)) nx s).1) ∧ GPost wt.heap.size bc (repeatF (comp T f) (T n) (sub0 (T n)) nx s).2 (ownG bc iv lv kv vv) w w' := by
  have hge := gext hT
  obtain ⟨⟨sv, rv, nm, hN⟩, hch⟩ := hT
  have h1 := hN.ok.one (.inr (.inl hop))
  have hgx := hge _ (sub0_mem h1)
  obtain ⟨hm, hTc⟩ := hch _ (sub0_mem h1)
  have hmn := hN.ok.mn
  obtain ⟨cg, ccap, rfl, hg, hgc⟩ := one_child hN h1
  have HN := tuck (fun (W : World) (h : Below wt.heap.size wt W) => hN.below h)
  have c0 : w.cell? ⟨n, 0, none⟩ = some (.int .u8 9) := by rw [cell_of_heap (HN.out w hb).obj, ← hop]; rfl
  have c1 : w.cell? ⟨n, 1, none⟩ = some (.slice (some ⟨cg, 0, none⟩) 1 ccap) := by rw [cell_of_heap (HN.out w hb).obj]; rfl
  have cg0 : w.cell? ⟨cg, 0, none⟩ = some (.pointer (some ⟨sub0 (T n), 0, none⟩)) := (hb.cell (p := ⟨cg, 0, none⟩) hg).trans hgc
  have c4 : w.cell? ⟨n, 4, none⟩ = some (.int .i64 (T n).mn) := by rw [cell_of_heap (HN.out w hb).obj]; rfl
  have c5 : w.cell? ⟨n, 5, none⟩ = some (.int .i64 (T n).mx) := by rw [cell_of_heap (HN.out w hb).obj]; rfl
  have e5 : bnd (f + 1) = 4 * bnd f + 8 := rfl
  rw [e5] at hs
  have hmxx : (T n).mn ≤ (T n).mx ∧ (T n).mx ≤ (T n).mn + 2 := by
    rcases hN.ok.mx with h | h
    · omega
    · exact h
  have HM0 := tuck (GMid.start hC hb)
  generalize hown : ownG bc iv lv kv vv = own at *
  clear hown
  have hR : repeatF (comp T f) (T n) (sub0 (T n)) nx s = repF (comp T f) (sub0 (T n)) (T n).mn.toNat (optF (comp T f) (sub0 (T n)) nx (T n).lz ((T n).mx - (T n).mn).toNat nx s).1 (optF (comp T f) (sub0 (T n)) nx (T n).lz ((T n).mx - (T n).mn).toNat nx s).2 := by
    unfold repeatF
    rw [if_neg hmx]
  rw [hR]
  obtain ⟨K, hK⟩ : ∃ K : Nat, ((T n).mx - (T n).mn).toNat = K := ⟨_, rfl⟩
  obtain ⟨M, hM⟩ : ∃ M : Nat, (T n).mn.toNat = M := ⟨_, rfl⟩
  rw [hK, hM]
  have HKe : Hid ((K : Int) = (T n).mx - (T n).mn) := show (K : Int) = _ from by omega
  have HMe : Hid ((M : Int) = (T n).mn) := show (M : Int) = _ from by omega
  have hK2 : K ≤ 2 := by omega
  have hM2 : M ≤ 2 := by omega
  have hXo : ∀ k, k ≤ 2 → Ext (IsNode wt) n (2 * (bnd f + 1)) s (optF (comp T f) (sub0 (T n)) nx (T n).lz k nx s).2 := fun k hk => (optF_ext nx (T n).lz hgx k nx s).wide (Nat.mul_le_mul_right _ hk)
  have HIo : Hid (∀ (k : Nat), k < 2 → ∀ (W : World), GMid wt bc own w (optF (comp T f) (sub0 (T n)) nx (T n).lz k nx s).2 W →
      Calls Ybaf.prog 6 #[.pointer (some ⟨bc, 0, none⟩), .pointer (some ⟨sub0 (T n), 0, none⟩), .int .i64 (optF (comp T f) (sub0 (T n)) nx (T n).lz k nx s).1] W fun e w' => e = .returned (.int .i64 (comp T f (sub0 (T n)) (optF (comp T f) (sub0 (T n)) nx (T n).lz k nx s).1 (optF (comp T f) (sub0 (T n)) nx (T n).lz k nx s).2).1) ∧ GMid wt bc own w (comp T f (sub0 (T n)) (optF (comp T f) (sub0 (T n)) nx (T n).lz k nx s).1 (optF (comp T f) (sub0 (T n)) nx (T n).lz k nx s).2).2 w') := by
    intro k hk W hM
    have hz := (hXo k (by omega)).size
    exact hM.call (fun iv1 lv1 kv1 vv1 hb1 hC1 => IH W (sub0 (T n)) bc _ _ iv1 lv1 kv1 vv1 hb1 hTc hC1 ((hXo k (by omega)).good hG) (by omega))
  have HSo : Hid (∀ (k : Nat), k < 2 → (comp T f (sub0 (T n)) (optF (comp T f) (sub0 (T n)) nx (T n).lz k nx s).1 (optF (comp T f) (sub0 (T n)) nx (T n).lz k nx s).2).2.ins.length < 1099511627776) := by
    intro k hk
    have h1 := (hXo k (by omega)).size
    have h2 := (comp_ext hTc (optF (comp T f) (sub0 (T n)) nx (T n).lz k nx s).1 (optF (comp T f) (sub0 (T n)) nx (T n).lz k nx s).2).size
    unfold sz at h1 h2 hs
    omega
  have HIr : Hid (∀ (k : Nat), k < 2 → ∀ (W : World), GMid wt bc own w (repF (comp T f) (sub0 (T n)) k (optF (comp T f) (sub0 (T n)) nx (T n).lz K nx s).1 (optF (comp T f) (sub0 (T n)) nx (T n).lz K nx s).2).2 W →
      Calls Ybaf.prog 6 #[.pointer (some ⟨bc, 0, none⟩), .pointer (some ⟨sub0 (T n), 0, none⟩), .int .i64 (repF (comp T f) (sub0 (T n)) k (optF (comp T f) (sub0 (T n)) nx (T n).lz K nx s).1 (optF (comp T f) (sub0 (T n)) nx (T n).lz K nx s).2).1] W fun e w' => e = .returned (.int .i64 (repF (comp T f) (sub0 (T n)) (k + 1) (optF (comp T f) (sub0 (T n)) nx (T n).lz K nx s).1 (optF (comp T f) (sub0 (T n)) nx (T n).lz K nx s).2).1) ∧ GMid wt bc own w (repF (comp T f) (sub0 (T n)) (k + 1) (optF (comp T f) (sub0 (T n)) nx (T n).lz K nx s).1 (optF (comp T f) (sub0 (T n)) nx (T n).lz K nx s).2).2 w') := by
    intro k hk W hM
    have hX := (hXo K hK2).trans (repF_ext hgx k (optF (comp T f) (sub0 (T n)) nx (T n).lz K nx s).1 (optF (comp T f) (sub0 (T n)) nx (T n).lz K nx s).2)
    have hz := hX.size
    have h2 : k * bnd f ≤ 1 * bnd f := Nat.mul_le_mul_right _ (by omega)
    exact hM.call (fun iv1 lv1 kv1 vv1 hb1 hC1 => IH W (sub0 (T n)) bc _ _ iv1 lv1 kv1 vv1 hb1 hTc hC1 (hX.good hG) (by omega))
  clear hXo e5 hs hC hTc hch hb hG IH hm hN hgc h1 hop hge hgx hR hK hM
  have hwr : IntKind.i64.wrap ((T n).mx - (T n).mn) = (T n).mx - (T n).mn := by rw [IntKind.wrap_i64]; omega
  go_enter Ybaf.func6, Ybaf.ntmps6
  go_wp2_with fail
  go_loopw [11, 14] (fun nxv i wr => ∃ k : Nat, k ≤ K ∧ i = .int .i64 k ∧ nxv = .int .i64 (optF (comp T f) (sub0 (T n)) nx (T n).lz k nx s).1 ∧ GMid wt bc own w (optF (comp T f) (sub0 (T n)) nx (T n).lz k nx s).2 wr) (fun _ i _ => K - (intOf i).toNat)
  case atStart => exact ⟨0, Nat.zero_le _, rfl, rfl, HM0.out⟩
  case round =>
    obtain ⟨k, hk, rfl, rfl, hM3⟩ := hrel
    have hB3 := hM3.choose_spec.choose_spec.choose_spec.choose_spec.2.1
    have b4 : wr.cell? ⟨n, 4, none⟩ = some (.int .i64 (T n).mn) := by rw [cell_of_heap (HN.out wr hB3).obj]; rfl
    have b5 : wr.cell? ⟨n, 5, none⟩ = some (.int .i64 (T n).mx) := by rw [cell_of_heap (HN.out wr hB3).obj]; rfl
    have HM3 := tuck hM3
    clear hM3 hB3
    by_cases hkK : k < K
    · have HCa := tuck (fun (q : Nat) => HIo.out k (by omega) (wr.drewN q) (HM3.out.drewN q))
      have hsz := HSo.out k (by omega)
      have hkI : (k : Int) < (T n).mx - (T n).mn := by have := HKe.out; omega
      have HD : Hid ((optF (comp T f) (sub0 (T n)) nx (T n).lz (k + 1) nx s) = (comp T f (sub0 (T n)) (optF (comp T f) (sub0 (T n)) nx (T n).lz k nx s).1 (optF (comp T f) (sub0 (T n)) nx (T n).lz k nx s).2).2.put (split (T n).lz (comp T f (sub0 (T n)) (optF (comp T f) (sub0 (T n)) nx (T n).lz k nx s).1 (optF (comp T f) (sub0 (T n)) nx (T n).lz k nx s).2).1 nx)) := rfl
      generalize comp T f (sub0 (T n)) (optF (comp T f) (sub0 (T n)) nx (T n).lz k nx s).1 (optF (comp T f) (sub0 (T n)) nx (T n).lz k nx s).2 = p2 at *
      have HSp := tuck (split_eq (T n).lz p2.1 nx)
      have HPut := tuck (fun (x1 y1 : Int) (w1 : World) (hM : GMid wt bc own w p2.2 w1) => hM.call (fun iv1 lv1 kv1 vv1 _ hC1 => put_any w1 wt.heap.size bc p2.2 iv1 lv1 kv1 vv1 (iSplit x1 y1) (.slice none 0 0) hC1 (rgNil _) hsz))
      clear hsz
      go_wp2_with fail
      go_quiet (fail)
      go_wp2_with fail
      refine (HCa.out _).mono ?_
      rintro e w2 ⟨rfl, hp⟩
      have q6 : w2.cell? ⟨n, 6, none⟩ = some (.bool (T n).lz) := by rw [cell_of_heap (HN.out w2 hp.choose_spec.choose_spec.choose_spec.choose_spec.2.1).obj]; rfl
      have HM4 := tuck hp
      clear hp HCa b4 b5
      cases hlz : (T n).lz with
      | true =>
        rw [hlz] at q6
        have HSp2 : Hid (split (T n).lz p2.1 nx = iSplit nx p2.1) := by show _ = _; rw [hlz]; rfl
        clear HSp hlz
        go_wp2_with fail
        refine (HPut.out nx p2.1 w2 HM4.out).mono ?_
        rintro e w3 ⟨rfl, hp⟩
        have HM5 := tuck hp
        clear hp HPut q6
        go_wp2
        go_roundw
        case rel => exact ⟨k + 1, by omega, by go_num, by rw [HD.out, HSp2.out], by rw [HD.out, HSp2.out]; exact HM5.out⟩
        case measure => simp [intOf]; omega
      | false =>
        rw [hlz] at q6
        have HSp2 : Hid (split (T n).lz p2.1 nx = iSplit p2.1 nx) := by show _ = _; rw [hlz]; rfl
        clear HSp hlz
        go_wp2_with fail
        refine (HPut.out p2.1 nx w2 HM4.out).mono ?_
        rintro e w3 ⟨rfl, hp⟩
        have HM5 := tuck hp
        clear hp HPut q6
        go_wp2
        go_roundw
        case rel => exact ⟨k + 1, by omega, by go_num, by rw [HD.out, HSp2.out], by rw [HD.out, HSp2.out]; exact HM5.out⟩
        case measure => simp [intOf]; omega
    · have hkI : ¬ (k : Int) < (T n).mx - (T n).mn := by have := HKe.out; omega
      have hkE : k = K := by omega
      subst hkE
      go_wp2_with fail
      go_quiet (fail)
      go_wp2_with fail
      have HMc := tuck (HM3.out.drewN nq)
      clear HM3 b4 b5
      go_loopw [11, 16] (fun nxv i wr => ∃ j : Nat, j ≤ M ∧ i = .int .i64 j ∧ nxv = .int .i64 (repF (comp T f) (sub0 (T n)) j (optF (comp T f) (sub0 (T n)) nx (T n).lz k nx s).1 (optF (comp T f) (sub0 (T n)) nx (T n).lz k nx s).2).1 ∧ GMid wt bc own w (repF (comp T f) (sub0 (T n)) j (optF (comp T f) (sub0 (T n)) nx (T n).lz k nx s).1 (optF (comp T f) (sub0 (T n)) nx (T n).lz k nx s).2).2 wr) (fun _ i _ => M - (intOf i).toNat)
      case atStart => exact ⟨0, Nat.zero_le _, rfl, rfl, HMc.out⟩
      case round =>
        obtain ⟨j, hj, rfl, rfl, hM3⟩ := hrel
        have HM3 := tuck hM3
        clear hM3
        by_cases hkM : j < M
        · have HCa := tuck (HIr.out j (by omega) wr HM3.out)
          have hjI : (j : Int) < (T n).mn := by have := HMe.out; omega
          go_wp2_with fail
          refine HCa.out.mono ?_
          rintro e w' ⟨rfl, hp⟩
          have HM2 := tuck hp
          clear hp HCa
          go_wp2
          go_roundw
          case rel => exact ⟨j + 1, by omega, by go_num, rfl, HM2.out⟩
          case measure => simp [intOf]; omega
        · have hjI : ¬ (j : Int) < (T n).mn := by have := HMe.out; omega
          have hkE : Hid (j = M) := show j = M from by omega
          go_wp2
          go_ret
          exact ⟨by rw [hkE.out]; rfl, by rw [hkE.out] at HM3; exact HM3.out.post⟩
end Go.Proofs.YbulkdjmsFmt
