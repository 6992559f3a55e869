import Derived.Test.YbulkdjmsFmtCompileA

namespace Go.Proofs.YbulkdjmsFmt
open Go.RowKit Plain
set_option maxRecDepth 100000
theorem rgNil (w : World) : RgAt w (.slice none 0 0) [] := .inl ⟨rfl, rfl⟩
/-- A node of one child: where the child's address lies. -/
theorem one_child {w : World} {n : Nat} {d : Nd} {sv rv nm : Value} (hN : NodeAt w n d sv rv nm) (h1 : d.subs.length = 1) : ∃ g cap, sv = .slice (some ⟨g, 0, none⟩) 1 cap ∧ g < w.heap.size ∧ w.cell? ⟨g, 0, none⟩ = some (.pointer (some ⟨sub0 d, 0, none⟩)) := by
  rcases hN.subs with ⟨_, h⟩ | ⟨g, cap, cur, h2, _, _, h4, h5⟩
  · rw [h] at h1; simp at h1
  · rw [h1] at h2
    refine ⟨g, cap, h2, lt_of_heap h4, ?_⟩
    rw [cell_of_heap h4]
    match hs : d.subs, h1 with
    | [c], _ => exact (h5 0 c (by simp [hs])).trans (by simp [sub0, hs, ptr])
set_option maxHeartbeats 400000 in
theorem compile_cap (wt : World) (T : Nat → Nd) (f : Nat) (IH : CompileOk wt T f) (w : World) (n bc : Nat) (nx : Int) (s : St) (iv lv : Value) (bm : Nat) (hb : Below wt.heap.size wt w) (hT : TreeAt wt T (f + 1) n) (hC : CompAt w wt.heap.size bc s iv lv bm)
    (hG : Plain.Good (IsNode wt) s) (hs : sz s + bnd (f + 1) < 1099511627776) (hop : (T n).op = 8) :
    Calls Ybaf.prog 5 #[.pointer (some ⟨bc, 0, none⟩), .pointer (some ⟨n, 0, none⟩), .int .i64 nx] w fun e w' => e = .returned (.int .i64 (capF (comp T f) (T n) (sub0 (T n)) nx s).1) ∧ CPost wt.heap.size bc (capF (comp T f) (T n) (sub0 (T n)) nx s).2 (ownC bc bm iv lv) w w' := by
  obtain ⟨⟨sv, rv, nm, hN⟩, hch⟩ := hT
  have h1 := hN.ok.one (.inl hop)
  obtain ⟨hm, hTc⟩ := hch _ (sub0_mem h1)
  have hcap := hN.ok.cap
  obtain ⟨cg, ccap, rfl, hg, hgc⟩ := one_child hN h1
  have HN := tuck (fun (W : World) (h : Below wt.heap.size wt W) => hN.below h)
  have HGc := tuck (fun (W : World) (h : Below wt.heap.size wt W) => (h.cell (p := ⟨cg, 0, none⟩) hg).trans hgc)
  have c0 : w.cell? ⟨n, 0, none⟩ = some (.int .u8 8) := by rw [cell_of_heap (HN.out w hb).obj, ← hop]; rfl
  have c7 : w.cell? ⟨n, 7, none⟩ = some (.int .i64 (T n).cap) := by rw [cell_of_heap (HN.out w hb).obj]; rfl
  have hsz : s.ins.length < 1099511627776 := by unfold sz at hs; omega
  have HB := tuck hb
  have HC := tuck hC
  have HIH := tuck IH
  have HTc := tuck hTc
  have HE := tuck (emit_any w wt.heap.size bc s iv lv bm (iSave (2 * (T n).cap + 1) nx) (.slice none 0 0) hC (rgNil _) hsz)
  have hX1 := Ext.put (IsNode wt) n s (iSave (2 * (T n).cap + 1) nx)
  have hG1 := hX1.good hG
  have hz1 := hX1.size
  unfold capF
  generalize s.put (iSave (2 * (T n).cap + 1) nx) = p1 at *
  have hX2 := comp_ext hTc p1.1 p1.2
  have hz2 := hX2.size
  have e5 : bnd (f + 1) = 4 * bnd f + 8 := rfl
  rw [e5] at hs
  have HE2 := tuck (fun (W : World) (iv1 lv1 : Value) (bm1 : Nat) (hbw : Below wt.heap.size wt W) (hC1 : CompAt W wt.heap.size bc p1.2 iv1 lv1 bm1) => IH W (sub0 (T n)) bc p1.1 p1.2 iv1 lv1 bm1 hbw hTc hC1 hG1 (by omega))
  generalize comp T f (sub0 (T n)) p1.1 p1.2 = p2 at *
  have hs3 : p2.2.ins.length < 1099511627776 := by unfold sz at hz2 hz1 hs; omega
  have HE3 := tuck (fun (W : World) (iv1 lv1 : Value) (bm1 : Nat) (hC1 : CompAt W wt.heap.size bc p2.2 iv1 lv1 bm1) => emit_any W wt.heap.size bc p2.2 iv1 lv1 bm1 (iSave (2 * (T n).cap) p2.1) (.slice none 0 0) hC1 (rgNil _) hs3)
  clear hX1 hG1 hz1 hX2 hz2 e5 hs hs3 hsz hC hTc hch hb hG IH hm hN hgc h1 hop
  go_enter Ybaf.func5, Ybaf.ntmps5
  go_wp2_with fail
  refine HE.out.mono ?_
  rintro e w1 ⟨rfl, hp⟩
  obtain ⟨iv1, lv1, bm1, hC1, hb1, back⟩ := hp.opened HC.out
  have HC1 := tuck hC1
  have HB1 := tuck (HB.out.trans hb1)
  have BK1 := tuck back
  have d1 : w1.cell? ⟨n, 1, none⟩ = some (.slice (some ⟨cg, 0, none⟩) 1 ccap) := by rw [cell_of_heap (HN.out w1 HB1.out).obj]; rfl
  have d7 : w1.cell? ⟨cg, 0, none⟩ = some (.pointer (some ⟨sub0 (T n), 0, none⟩)) := HGc.out w1 HB1.out
  clear hp hC1 hb1 back HE c0 c7
  go_wp2_with fail
  refine (HE2.out w1 iv1 lv1 bm1 HB1.out HC1.out).mono ?_
  rintro e w2 ⟨rfl, hp⟩
  obtain ⟨iv2, lv2, bm2, hC2, hb2, back⟩ := hp.opened HC1.out
  have HC2 := tuck hC2
  have BK2 := tuck back
  have d7 : w2.cell? ⟨n, 7, none⟩ = some (.int .i64 (T n).cap) := by rw [cell_of_heap (HN.out w2 (HB1.out.trans hb2)).obj]; rfl
  clear hp hC2 hb2 back HE2 d1
  go_wp2_with fail
  refine (HE3.out w2 iv2 lv2 bm2 HC2.out).mono ?_
  rintro e w3 ⟨rfl, hp⟩
  have HP := tuck (BK1.out _ _ (BK2.out _ _ hp))
  clear hp
  go_wp2
  go_ret
  exact ⟨rfl, HP.out⟩
end Go.Proofs.YbulkdjmsFmt
