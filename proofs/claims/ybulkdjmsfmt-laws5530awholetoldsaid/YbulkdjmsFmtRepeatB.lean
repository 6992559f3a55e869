import Derived.Test.YbulkdjmsFmtRepeatA
import Derived.Deep.QuietTactic
import Derived.BigQuiet

/-! (*compiler).repeat: optional repetitions -/
namespace Go.Proofs.YbulkdjmsFmt
open Go.RowKit Plain
set_option maxRecDepth 100000
theorem split_eq (lz : Bool) (b o : Int) : split lz b o = iSplit (if lz then o else b) (if lz then b else o) := by cases lz <;> rfl
set_option maxHeartbeats 2000000 in
theorem repeat_opt (wt : World) (T : Nat → Nd) (f : Nat) (IH : CompileOk wt T f) (w : World) (n bc : Nat) (nx : Int) (s : St) (iv lv : Value) (bm : Nat) (hb : Below wt.heap.size wt w) (hT : TreeAt wt T (f + 1) n) (hC : CompAt w wt.heap.size bc s iv lv bm)
    (hG : Plain.Good (IsNode wt) s) (hs : sz s + bnd (f + 1) < 1099511627776) (hop : (T n).op = 9) (hmx : ¬ (T n).mx < 0) :
    Calls Ybaf.prog 10 #[.pointer (some ⟨bc, 0, none⟩), .pointer (some ⟨n, 0, none⟩), .int .i64 nx] w fun e w' => e = .returned (.int .i64 (repeatF (comp T f) (T n) (sub0 (T n)) nx s).1) ∧ CPost wt.heap.size bc (repeatF (comp T f) (T n) (sub0 (T n)) nx s).2 (ownC bc bm iv lv) w w' := by
  have hge := gext hT
  obtain ⟨⟨sv, rv, nm, hN⟩, hch⟩ := hT
  have h1 := hN.ok.one (.inr (.inl hop))
  have hgx := hge _ (sub0_mem h1)
  obtain ⟨hm, hTc⟩ := hch _ (sub0_mem h1)
  have hmn := hN.ok.mn
  have hmxx : (T n).mn ≤ (T n).mx ∧ (T n).mx ≤ (T n).mn + 2 := by
    rcases hN.ok.mx with h | h
    · omega
    · exact h
  obtain ⟨cg, ccap, rfl, hg, hgc⟩ := one_child hN h1
  have HN := tuck (fun (W : World) (h : Below wt.heap.size wt W) => hN.below h)
  have c1 : w.cell? ⟨n, 1, none⟩ = some (.slice (some ⟨cg, 0, none⟩) 1 ccap) := by rw [cell_of_heap (HN.out w hb).obj]; rfl
  have cg0 : w.cell? ⟨cg, 0, none⟩ = some (.pointer (some ⟨sub0 (T n), 0, none⟩)) := (hb.cell (p := ⟨cg, 0, none⟩) hg).trans hgc
  have c4 : w.cell? ⟨n, 4, none⟩ = some (.int .i64 (T n).mn) := by rw [cell_of_heap (HN.out w hb).obj]; rfl
  have c5 : w.cell? ⟨n, 5, none⟩ = some (.int .i64 (T n).mx) := by rw [cell_of_heap (HN.out w hb).obj]; rfl
  have e5 : bnd (f + 1) = 4 * bnd f + 8 := rfl
  rw [e5] at hs
  have HB := tuck hb
  have HC := tuck hC
  have hR : repeatF (comp T f) (T n) (sub0 (T n)) nx s = repF (comp T f) (sub0 (T n)) (T n).mn.toNat (optF (comp T f) (sub0 (T n)) nx (T n).lz ((T n).mx - (T n).mn).toNat nx s).1 (optF (comp T f) (sub0 (T n)) nx (T n).lz ((T n).mx - (T n).mn).toNat nx s).2 := by
    unfold repeatF
    rw [if_neg hmx]
  rw [hR]
  obtain ⟨K, hK⟩ : ∃ K : Nat, ((T n).mx - (T n).mn).toNat = K := ⟨_, rfl⟩
  obtain ⟨M, hM⟩ : ∃ M : Nat, (T n).mn.toNat = M := ⟨_, rfl⟩
  rw [hK, hM]
  have HKe : Hid ((K : Int) = (T n).mx - (T n).mn) := show (K : Int) = _ from by omega
  have HMe : Hid ((M : Int) = (T n).mn) := show (M : Int) = _ from by omega
  have hK2 : K ≤ 2 := by omega
  have hM2 : M ≤ 2 := by omega
  have hXo : ∀ k, k ≤ 2 → Ext (IsNode wt) n (2 * (bnd f + 1)) s (optF (comp T f) (sub0 (T n)) nx (T n).lz k nx s).2 := fun k hk => (optF_ext nx (T n).lz hgx k nx s).wide (Nat.mul_le_mul_right _ hk)
  have HIo : Hid (∀ (k : Nat), k < 2 → ∀ (W : World) (iv1 lv1 : Value) (bm1 : Nat), Below wt.heap.size wt W → CompAt W wt.heap.size bc (optF (comp T f) (sub0 (T n)) nx (T n).lz k nx s).2 iv1 lv1 bm1 →
      Calls Ybaf.prog 5 #[.pointer (some ⟨bc, 0, none⟩), .pointer (some ⟨sub0 (T n), 0, none⟩), .int .i64 (optF (comp T f) (sub0 (T n)) nx (T n).lz k nx s).1] W fun e w' => e = .returned (.int .i64 (comp T f (sub0 (T n)) (optF (comp T f) (sub0 (T n)) nx (T n).lz k nx s).1 (optF (comp T f) (sub0 (T n)) nx (T n).lz k nx s).2).1) ∧
        CPost wt.heap.size bc (comp T f (sub0 (T n)) (optF (comp T f) (sub0 (T n)) nx (T n).lz k nx s).1 (optF (comp T f) (sub0 (T n)) nx (T n).lz k nx s).2).2 (ownC bc bm1 iv1 lv1) W w') := by
    intro k hk W iv1 lv1 bm1 hbw hC1
    have hz := (hXo k (by omega)).size
    exact IH W (sub0 (T n)) bc _ _ iv1 lv1 bm1 hbw hTc hC1 ((hXo k (by omega)).good hG) (by omega)
  have HSo : Hid (∀ (k : Nat), k < 2 → (comp T f (sub0 (T n)) (optF (comp T f) (sub0 (T n)) nx (T n).lz k nx s).1 (optF (comp T f) (sub0 (T n)) nx (T n).lz k nx s).2).2.ins.length < 1099511627776) := by
    intro k hk
    have h1 := (hXo k (by omega)).size
    have h2 := (comp_ext hTc (optF (comp T f) (sub0 (T n)) nx (T n).lz k nx s).1 (optF (comp T f) (sub0 (T n)) nx (T n).lz k nx s).2).size
    unfold sz at h1 h2 hs
    omega
  have HIr : Hid (∀ (k : Nat), k < 2 → ∀ (W : World) (iv1 lv1 : Value) (bm1 : Nat), Below wt.heap.size wt W → CompAt W wt.heap.size bc (repF (comp T f) (sub0 (T n)) k (optF (comp T f) (sub0 (T n)) nx (T n).lz K nx s).1 (optF (comp T f) (sub0 (T n)) nx (T n).lz K nx s).2).2 iv1 lv1 bm1 →
      Calls Ybaf.prog 5 #[.pointer (some ⟨bc, 0, none⟩), .pointer (some ⟨sub0 (T n), 0, none⟩), .int .i64 (repF (comp T f) (sub0 (T n)) k (optF (comp T f) (sub0 (T n)) nx (T n).lz K nx s).1 (optF (comp T f) (sub0 (T n)) nx (T n).lz K nx s).2).1] W fun e w' => e = .returned (.int .i64 (repF (comp T f) (sub0 (T n)) (k + 1) (optF (comp T f) (sub0 (T n)) nx (T n).lz K nx s).1 (optF (comp T f) (sub0 (T n)) nx (T n).lz K nx s).2).1) ∧
        CPost wt.heap.size bc (repF (comp T f) (sub0 (T n)) (k + 1) (optF (comp T f) (sub0 (T n)) nx (T n).lz K nx s).1 (optF (comp T f) (sub0 (T n)) nx (T n).lz K nx s).2).2 (ownC bc bm1 iv1 lv1) W w') := by
    intro k hk W iv1 lv1 bm1 hbw hC1
    have hX := (hXo K hK2).trans (repF_ext hgx k (optF (comp T f) (sub0 (T n)) nx (T n).lz K nx s).1 (optF (comp T f) (sub0 (T n)) nx (T n).lz K nx s).2)
    have hz := hX.size
    have h2 : k * bnd f ≤ 1 * bnd f := Nat.mul_le_mul_right _ (by omega)
    exact IH W (sub0 (T n)) bc _ _ iv1 lv1 bm1 hbw hTc hC1 (hX.good hG) (by omega)
  have HM0 := tuck (fun (q : Nat) => Mid.next (own := ownC bc bm iv lv) (w := w) (wr := w.drewN q) (hC.keep ((Chg.refl [] w).drewN q) (by intro k hk; cases hk) (by simp)) (below_drewN hb q) (fun s2 w2 h => CPost.after (((Chg.refl [] w).drewN q).wide (by simp)) (fun k hk => .inl hk) h) ((hC.keep ((Chg.refl [] w).drewN q) (by intro k hk; cases hk) (by simp)).same))
  clear hXo e5 hs hC hTc hch hb hG IH hm hN hgc h1 hop hge hgx hR hK hM
  go_enter Ybaf.func10, Ybaf.ntmps10
  go_wp2_with fail
  go_quiet (fail)
  have hwr : IntKind.i64.wrap ((T n).mx - (T n).mn) = (T n).mx - (T n).mn := by rw [IntKind.wrap_i64]; omega
  go_wp2_with fail
  go_loopw [2, 77] (fun nxv i wr => ∃ k : Nat, k ≤ K ∧ i = .int .i64 k ∧ nxv = .int .i64 (optF (comp T f) (sub0 (T n)) nx (T n).lz k nx s).1 ∧ Mid wt bc (ownC bc bm iv lv) w (optF (comp T f) (sub0 (T n)) nx (T n).lz k nx s).2 wr) (fun _ i _ => K - (intOf i).toNat)
  case atStart => exact ⟨0, Nat.zero_le _, rfl, rfl, HM0.out _⟩
  case round =>
    obtain ⟨k, hk, rfl, rfl, iv3, lv3, bm3, hC3, hb3, hback⟩ := hrel
    by_cases hkK : k < K
    · have HCa := tuck (HIo.out k (by omega) wr iv3 lv3 bm3 hb3 hC3)
      have HNx := tuck (fun (s' : St) (w' : World) (hp : CPost wt.heap.size bc s' (ownC bc bm3 iv3 lv3) wr w') => Mid.next hC3 hb3 hback hp)
      have hsz := HSo.out k (by omega)
      have hkI : (k : Int) < (T n).mx - (T n).mn := by have := HKe.out; omega
      have HD : Hid ((optF (comp T f) (sub0 (T n)) nx (T n).lz (k + 1) nx s) = (comp T f (sub0 (T n)) (optF (comp T f) (sub0 (T n)) nx (T n).lz k nx s).1 (optF (comp T f) (sub0 (T n)) nx (T n).lz k nx s).2).2.put (split (T n).lz (comp T f (sub0 (T n)) (optF (comp T f) (sub0 (T n)) nx (T n).lz k nx s).1 (optF (comp T f) (sub0 (T n)) nx (T n).lz k nx s).2).1 nx)) := rfl
      generalize comp T f (sub0 (T n)) (optF (comp T f) (sub0 (T n)) nx (T n).lz k nx s).1 (optF (comp T f) (sub0 (T n)) nx (T n).lz k nx s).2 = p2 at *
      obtain ⟨x1, y1, HSp, HPr⟩ : ∃ x1 y1 : Int, Hid (split (T n).lz p2.1 nx = iSplit x1 y1) ∧ Hid (∀ W : World, Calls Ybaf.prog 19 #[.int .i64 p2.1, .int .i64 nx, .bool (T n).lz] W fun e w' => e = .returned (.tuple #[.int .i64 x1, .int .i64 y1]) ∧ W = w') := ⟨_, _, tuck (split_eq _ _ _), tuck (fun W => pref_any W p2.1 nx (T n).lz)⟩
      have HE3 := tuck (fun (W : World) (iv1 lv1 : Value) (bm1 : Nat) (hC1 : CompAt W wt.heap.size bc p2.2 iv1 lv1 bm1) => emit_any W wt.heap.size bc p2.2 iv1 lv1 bm1 (iSplit x1 y1) (.slice none 0 0) hC1 (rgNil _) hsz)
      clear hC3 hb3 hback hsz
      go_wp2_with fail
      refine HCa.out.mono ?_
      rintro e w2 ⟨rfl, hp⟩
      obtain ⟨iv4, lv4, bm4, hC4, hb4, hback⟩ := HNx.out _ _ hp
      have HC4 := tuck hC4
      have HN2 := tuck (fun (s' : St) (w' : World) (hp : CPost wt.heap.size bc s' (ownC bc bm4 iv4 lv4) w2 w') => Mid.next hC4 hb4 hback hp)
      have q6 : w2.cell? ⟨n, 6, none⟩ = some (.bool (T n).lz) := by rw [cell_of_heap (HN.out w2 hb4).obj]; rfl
      clear hp HCa HNx hC4 hb4 hback
      go_wp2_with (go_at_call 19; refine (HPr.out _).mono ?_; rintro e w' ⟨rfl, rfl⟩)
      refine (HE3.out w2 iv4 lv4 bm4 HC4.out).mono ?_
      rintro e w3 ⟨rfl, hp⟩
      have HM3 := tuck (HN2.out _ _ hp)
      clear hp HE3 HN2 q6
      go_wp2
      go_roundw
      case rel => exact ⟨k + 1, by omega, by go_num, by rw [HD.out, HSp.out], by rw [HD.out, HSp.out]; exact HM3.out⟩
      case measure => simp [intOf]; omega
    · have hkI : ¬ (k : Int) < (T n).mx - (T n).mn := by have := HKe.out; omega
      have hkE : k = K := by omega
      subst hkE
      have HMc := tuck (show Mid wt bc (ownC bc bm iv lv) w (optF (comp T f) (sub0 (T n)) nx (T n).lz k nx s).2 wr from ⟨iv3, lv3, bm3, hC3, hb3, hback⟩)
      clear hC3 hb3 hback
      go_wp2_with fail
      go_loopw [2, 100] (fun nxv i wr => ∃ j : Nat, j ≤ M ∧ i = .int .i64 j ∧ nxv = .int .i64 (repF (comp T f) (sub0 (T n)) j (optF (comp T f) (sub0 (T n)) nx (T n).lz k nx s).1 (optF (comp T f) (sub0 (T n)) nx (T n).lz k nx s).2).1 ∧ Mid wt bc (ownC bc bm iv lv) w (repF (comp T f) (sub0 (T n)) j (optF (comp T f) (sub0 (T n)) nx (T n).lz k nx s).1 (optF (comp T f) (sub0 (T n)) nx (T n).lz k nx s).2).2 wr) (fun _ i _ => M - (intOf i).toNat)
      case atStart => exact ⟨0, Nat.zero_le _, rfl, rfl, HMc.out⟩
      case round =>
        obtain ⟨j, hj, rfl, rfl, iv3, lv3, bm3, hC3, hb3, hback⟩ := hrel
        by_cases hkM : j < M
        · have HCa := tuck (HIr.out j (by omega) wr iv3 lv3 bm3 hb3 hC3)
          have HNx := tuck (fun (s' : St) (w' : World) (hp : CPost wt.heap.size bc s' (ownC bc bm3 iv3 lv3) wr w') => Mid.next hC3 hb3 hback hp)
          have hjI : (j : Int) < (T n).mn := by have := HMe.out; omega
          clear hC3 hb3 hback
          go_wp2_with fail
          refine HCa.out.mono ?_
          rintro e w' ⟨rfl, hp⟩
          have HM2 := tuck (HNx.out _ _ hp)
          clear hp HCa HNx
          go_wp2
          go_roundw
          case rel => exact ⟨j + 1, by omega, by go_num, rfl, HM2.out⟩
          case measure => simp [intOf]; omega
        · have hjI : ¬ (j : Int) < (T n).mn := by have := HMe.out; omega
          have HM2 := tuck (Mid.post ⟨iv3, lv3, bm3, hC3, hb3, hback⟩)
          have hkE : Hid (j = M) := show j = M from by omega
          clear hC3 hb3 hback
          go_wp2
          go_ret
          exact ⟨by rw [hkE.out]; rfl, by rw [hkE.out] at HM2; exact HM2.out⟩
end Go.Proofs.YbulkdjmsFmt
