import Derived.Test.YbulkdjmsFmtCompileD
import Derived.Deep.RegionWith
import Derived.BigRegion
/-! (*compiler).compile: alternations. -/
namespace Go.Proofs.YbulkdjmsFmt
open Go.RowKit Plain
set_option maxRecDepth 100000
set_option maxHeartbeats 1000000 in
theorem compile_alt (wt : World) (T : Nat → Nd) (f : Nat) (IH : CompileOk wt T f) (w : World) (n bc : Nat) (nx : Int) (s : St) (iv lv : Value) (bm : Nat) (hb : Below wt.heap.size wt w) (hT : TreeAt wt T (f + 1) n) (hC : CompAt w wt.heap.size bc s iv lv bm)
    (hG : Plain.Good (IsNode wt) s) (hs : sz s + bnd (f + 1) < 1099511627776) (hop : (T n).op = 11) :
    Calls Ybaf.prog 5 #[.pointer (some ⟨bc, 0, none⟩), .pointer (some ⟨n, 0, none⟩), .int .i64 nx] w fun e w' => e = .returned (.int .i64 (altF (comp T f) (T n).subs nx s).1) ∧ CPost wt.heap.size bc (altF (comp T f) (T n).subs nx s).2 (ownC bc bm iv lv) w w' := by
  have hge := gext hT
  obtain ⟨⟨sv, rv, nm, hN⟩, hch⟩ := hT
  have hfew := hN.ok.few
  have hsome := hN.ok.some hop
  have e5 : bnd (f + 1) = 4 * bnd f + 8 := rfl
  rw [e5] at hs
  have HN := tuck (fun (W : World) (h : Below wt.heap.size wt W) => hN.below h)
  have c0 : w.cell? ⟨n, 0, none⟩ = some (.int .u8 11) := by rw [cell_of_heap (HN.out w hb).obj, ← hop]; rfl
  have c1 : w.cell? ⟨n, 1, none⟩ = some sv := by rw [cell_of_heap (HN.out w hb).obj]; rfl
  have hd : Chg [] w w.drew := (Chg.refl _ _).drew
  have hCd : CompAt w.drew wt.heap.size bc s iv lv bm := hC.keep hd (by intro k hk; cases hk) (by simp)
  have hbd : Below wt.heap.size wt w.drew := hb.drew
  have HM0 := tuck (fun (s' : St) (w' : World) (hp : CPost wt.heap.size bc s' (ownC bc bm iv lv) w.drew w') => Mid.next (own := ownC bc bm iv lv) (w := w) hCd hbd (fun s2 w2 h => CPost.after (hd.wide (by simp)) (fun k hk => .inl hk) h) hp)
  -- the last child
  have HLast : Hid (∀ c, (T n).subs[(T n).subs.length - 1]? = some c → Calls Ybaf.prog 5 #[.pointer (some ⟨bc, 0, none⟩), .pointer (some ⟨c, 0, none⟩), .int .i64 nx] w.drew fun e w' =>
      e = .returned (.int .i64 (altF (comp T f) ((T n).subs.drop ((T n).subs.length - 1)) nx s).1) ∧ CPost wt.heap.size bc (altF (comp T f) ((T n).subs.drop ((T n).subs.length - 1)) nx s).2 (ownC bc bm iv lv) w.drew w') := by
    intro c hc
    rw [drop_pred (by omega) hc, List.drop_length]
    simp only [altF, if_true]
    exact IH _ c bc nx s iv lv bm hbd (hch _ (List.mem_of_getElem? hc)).2 hCd hG (by omega)
  have hX : ∀ k, Ext (IsNode wt) n (3 * (bnd f + 1)) s (altF (comp T f) ((T n).subs.drop k) nx s).2 := fun k =>
    (altF_ext (cs := (T n).subs.drop k) (fun c hc => hge c (List.mem_of_mem_drop hc)) nx s).wide (Nat.mul_le_mul_right _ (by simp; omega))
  have HI : Hid (∀ (k c : Nat), (T n).subs[k - 1]? = some c → ∀ (W : World) (iv1 lv1 : Value) (bm1 : Nat), Below wt.heap.size wt W → CompAt W wt.heap.size bc (altF (comp T f) ((T n).subs.drop k) nx s).2 iv1 lv1 bm1 →
      Calls Ybaf.prog 5 #[.pointer (some ⟨bc, 0, none⟩), .pointer (some ⟨c, 0, none⟩), .int .i64 nx] W fun e w' => e = .returned (.int .i64 (comp T f c nx (altF (comp T f) ((T n).subs.drop k) nx s).2).1) ∧
        CPost wt.heap.size bc (comp T f c nx (altF (comp T f) ((T n).subs.drop k) nx s).2).2 (ownC bc bm1 iv1 lv1) W w') := by
    intro k c hc W iv1 lv1 bm1 hbw hC1
    have h1 := (hX k).size
    exact IH W c bc _ _ iv1 lv1 bm1 hbw (hch _ (List.mem_of_getElem? hc)).2 hC1 ((hX k).good hG) (by omega)
  have HS : Hid (∀ (k c : Nat), (T n).subs[k - 1]? = some c → (comp T f c nx (altF (comp T f) ((T n).subs.drop k) nx s).2).2.ins.length < 1099511627776) := by
    intro k c hc
    have h1 := (hX k).size
    have h2 := (comp_ext (hch _ (List.mem_of_getElem? hc)).2 nx (altF (comp T f) ((T n).subs.drop k) nx s).2).size
    unfold sz at h1 h2 hs
    omega
  rcases hN.subs with ⟨rfl, hnil⟩ | ⟨g, cap, cur, hsv, hle, hcap, hgb, hgc⟩
  · rw [hnil] at hsome; simp at hsome
  · subst hsv
    have HGc := tuck (fun (W : World) (h : Below wt.heap.size wt W) (j c : Nat) (hj : (T n).subs[j]? = some c) => (cell_of_heap (j := j) (by rw [h.block g (lt_of_heap hgb)]; exact hgb)).trans (hgc j c hj))
    obtain ⟨cl, hcl⟩ : ∃ c, (T n).subs[(T n).subs.length - 1]? = some c := ⟨_, List.getElem?_eq_getElem (by omega)⟩
    have cgl := HGc.out w hb _ _ hcl
    have HCl := tuck (HLast.out cl hcl)
    generalize hsub : (T n).subs = subs at *
    obtain ⟨m, hm⟩ : ∃ m, subs.length = m := ⟨_, rfl⟩
    have HL := tuck hm
    rw [hm] at c1 hfew hsome cgl HCl
    have hm1 : (0 : Int) ≤ (m : Int) - 1 := by omega
    have hm2 : (m : Int) - 1 < (m : Int) := by omega
    have hto : ((m : Int) - 1).toNat = m - 1 := by omega
    clear hch hN hs hG hC hb hge IH hop e5 hsub hgb hgc hle hcap hm hcl HLast hX hd hCd hbd
    have cgl' : w.cell? ⟨g, m - 1, none⟩ = some (.pointer (some ⟨cl, 0, none⟩)) := cgl
    clear cgl
    have hwr : IntKind.i64.wrap ((m : Int) - 1) = (m : Int) - 1 := by rw [IntKind.wrap_i64]; omega
    go_enter Ybaf.func5, Ybaf.ntmps5
    go_wp2
    go_region_with (go_at_call 5; refine HCl.out.mono ?_; rintro e w1 ⟨rfl, hp⟩; have HM := tuck (HM0.out _ _ hp); clear hp)
    all_goals
      have HB1 := tuck HM.out.choose_spec.choose_spec.choose_spec.2.1
      have d1 : w1.cell? ⟨n, 1, none⟩ = some (.slice (some ⟨g, 0, none⟩) m cap) := by rw [cell_of_heap (HN.out w1 HB1.out).obj, ← HL.out]; rfl
      clear HCl HM0 cgl' hto
      go_wp2
      go_loopw [10, 11] (fun pc i wr => ∃ k : Nat, k < m ∧ i = .int .i64 ((k : Int) - 1) ∧ pc = .int .i64 (altF (comp T f) (subs.drop k) nx s).1 ∧ Mid wt bc (ownC bc bm iv lv) w (altF (comp T f) (subs.drop k) nx s).2 wr) (fun _ i _ => (intOf i + 1).toNat)
      case atStart => exact ⟨m - 1, by omega, by rw [show ((m : Int) - 2) = ((m - 1 : Nat) : Int) - 1 from by omega], rfl, HM.out⟩
      case round =>
        obtain ⟨k, hk, rfl, rfl, iv1, lv1, bm1, hC1, hb1, hback⟩ := hrel
        by_cases hk0 : 0 < k
        · obtain ⟨c, hc⟩ : ∃ c, subs[k - 1]? = some c := ⟨_, List.getElem?_eq_getElem (by rw [HL.out]; omega)⟩
          have HCa := tuck (HI.out k c hc wr iv1 lv1 bm1 hb1 hC1)
          have HNx := tuck (fun (s' : St) (w' : World) (hp : CPost wt.heap.size bc s' (ownC bc bm1 iv1 lv1) wr w') => Mid.next hC1 hb1 hback hp)
          have hne : subs.drop k ≠ [] := by
            intro e
            have := congrArg List.length e
            simp [HL.out] at this
            omega
          have HD : Hid (altF (comp T f) (subs.drop (k - 1)) nx s = (comp T f c nx (altF (comp T f) (subs.drop k) nx s).2).2.put (iSplit (comp T f c nx (altF (comp T f) (subs.drop k) nx s).2).1 (altF (comp T f) (subs.drop k) nx s).1)) := by
            show _ = _
            rw [drop_pred hk0 hc]
            simp only [altF]
            rw [if_neg hne]
          have hsz := HS.out k c hc
          generalize comp T f c nx (altF (comp T f) (subs.drop k) nx s).2 = p2 at *
          have HE3 := tuck (fun (W : World) (iv1 lv1 : Value) (bm1 : Nat) (hC1 : CompAt W wt.heap.size bc p2.2 iv1 lv1 bm1) => emit_any W wt.heap.size bc p2.2 iv1 lv1 bm1 (iSplit p2.1 (altF (comp T f) (subs.drop k) nx s).1) (.slice none 0 0) hC1 (rgNil _) hsz)
          have d2 : wr.cell? ⟨n, 1, none⟩ = some (.slice (some ⟨g, 0, none⟩) m cap) := by rw [cell_of_heap (HN.out wr hb1).obj, ← HL.out]; rfl
          have dg : wr.cell? ⟨g, k - 1, none⟩ = some (.pointer (some ⟨c, 0, none⟩)) := HGc.out wr hb1 (k - 1) c hc
          have hkI : (0 : Int) ≤ (k : Int) - 1 := by omega
          have hkm : (k : Int) - 1 < (m : Int) := by omega
          have hto : ((k : Int) - 1).toNat = k - 1 := by omega
          clear hC1 hb1 hback hc hne hsz
          go_wp2_with fail
          refine HCa.out.mono ?_
          rintro e w2 ⟨rfl, hp⟩
          obtain ⟨iv2, lv2, bm2, hC2, hb2, hback⟩ := HNx.out _ _ hp
          have HC2 := tuck hC2
          have HN2 := tuck (fun (s' : St) (w' : World) (hp : CPost wt.heap.size bc s' (ownC bc bm2 iv2 lv2) w2 w') => Mid.next hC2 hb2 hback hp)
          clear hp HCa HNx hC2 hb2 hback dg d2
          go_wp2_with fail
          refine (HE3.out w2 iv2 lv2 bm2 HC2.out).mono ?_
          rintro e w3 ⟨rfl, hp⟩
          have HM3 := tuck (HN2.out _ _ hp)
          clear hp HE3 HN2
          go_wp2
          go_roundw
          case rel => exact ⟨k - 1, by omega, by rw [show ((k : Int) - 1 - 1) = ((k - 1 : Nat) : Int) - 1 from by omega], by rw [HD.out], by rw [HD.out]; exact HM3.out⟩
          case measure => simp [intOf]; omega
        · have hk1 : ¬ (0 : Int) ≤ (k : Int) - 1 := by omega
          have hk2 : k = 0 := by omega
          have HM2 := tuck (Mid.post ⟨iv1, lv1, bm1, hC1, hb1, hback⟩)
          subst hk2
          clear hC1 hb1 hback
          go_wp2
          go_ret
          exact ⟨by simp, by simpa using HM2.out⟩
end Go.Proofs.YbulkdjmsFmt
