import Derived.Test.YbulkdjmsFmtLook
namespace Go.Proofs.YbulkdjmsFmt
open Go.RowKit Plain
set_option maxRecDepth 100000
set_option maxHeartbeats 400000 in
theorem compile_look12 (wt : World) (T : Nat → Nd) (f : Nat) (IH : CompileOk wt T f) (w : World) (n bc : Nat) (nx : Int) (s : St) (iv lv : Value) (bm : Nat) (hb : Below wt.heap.size wt w) (hT : TreeAt wt T (f + 1) n) (hC : CompAt w wt.heap.size bc s iv lv bm)
    (hG : Plain.Good (IsNode wt) s) (hs : sz s + bnd (f + 1) < 1099511627776) (hop : (T n).op = 12) :
    Calls Ybaf.prog 5 #[.pointer (some ⟨bc, 0, none⟩), .pointer (some ⟨n, 0, none⟩), .int .i64 nx] w fun e w' => e = .returned (.int .i64 ((lookF (comp T f) (sub0 (T n)) s).2.put (iLook 5 (lookF (comp T f) (sub0 (T n)) s).1 nx)).1) ∧
      CPost wt.heap.size bc ((lookF (comp T f) (sub0 (T n)) s).2.put (iLook 5 (lookF (comp T f) (sub0 (T n)) s).1 nx)).2 (ownC bc bm iv lv) w w' := by
  have hge := gext hT
  obtain ⟨⟨sv, rv, nm, hN⟩, hch⟩ := hT
  have h1 := hN.ok.one (by omega)
  have hX := lookF_ext (hge _ (sub0_mem h1)) s
  obtain ⟨hm, hTc⟩ := hch _ (sub0_mem h1)
  obtain ⟨cg, ccap, rfl, hg, hgc⟩ := one_child hN h1
  have c0 : w.cell? ⟨n, 0, none⟩ = some (.int .u8 12) := by rw [cell_of_heap (hN.below hb).obj, ← hop]; rfl
  have c1 : w.cell? ⟨n, 1, none⟩ = some (.slice (some ⟨cg, 0, none⟩) 1 ccap) := by rw [cell_of_heap (hN.below hb).obj]; rfl
  have cg0 : w.cell? ⟨cg, 0, none⟩ = some (.pointer (some ⟨sub0 (T n), 0, none⟩)) := (hb.cell (p := ⟨cg, 0, none⟩) hg).trans hgc
  have e5 : bnd (f + 1) = 4 * bnd f + 8 := rfl
  rw [e5] at hs
  have HC := tuck hC
  have HL := tuck (look_any wt T f IH w (sub0 (T n)) bc s iv lv bm hb hTc hC hG (by omega))
  have hz := hX.size
  generalize lookF (comp T f) (sub0 (T n)) s = p1 at *
  have hs3 : p1.2.ins.length < 1099511627776 := by unfold sz at hz hs; omega
  have HE3 := tuck (fun (W : World) (iv1 lv1 : Value) (bm1 : Nat) (hC1 : CompAt W wt.heap.size bc p1.2 iv1 lv1 bm1) => emit_any W wt.heap.size bc p1.2 iv1 lv1 bm1 (iLook 5 p1.1 nx) (.slice none 0 0) hC1 (rgNil _) hs3)
  clear hX hz e5 hs hs3 hC hTc hch hb hG IH hm hN hgc h1 hop hge
  go_enter Ybaf.func5, Ybaf.ntmps5
  go_wp2_with fail
  refine HL.out.mono ?_
  rintro e w1 ⟨rfl, hp⟩
  obtain ⟨iv1, lv1, bm1, hC1, hb1, back⟩ := hp.opened HC.out
  have HC1 := tuck hC1
  have BK1 := tuck back
  clear hp hC1 hb1 back HL c0 c1 cg0
  go_wp2_with fail
  refine (HE3.out w1 iv1 lv1 bm1 HC1.out).mono ?_
  rintro e w3 ⟨rfl, hp⟩
  have HP := tuck (BK1.out _ _ hp)
  clear hp
  go_wp2
  go_ret
  exact ⟨rfl, HP.out⟩
set_option maxHeartbeats 400000 in
theorem compile_look13 (wt : World) (T : Nat → Nd) (f : Nat) (IH : CompileOk wt T f) (w : World) (n bc : Nat) (nx : Int) (s : St) (iv lv : Value) (bm : Nat) (hb : Below wt.heap.size wt w) (hT : TreeAt wt T (f + 1) n) (hC : CompAt w wt.heap.size bc s iv lv bm)
    (hG : Plain.Good (IsNode wt) s) (hs : sz s + bnd (f + 1) < 1099511627776) (hop : (T n).op = 13) :
    Calls Ybaf.prog 5 #[.pointer (some ⟨bc, 0, none⟩), .pointer (some ⟨n, 0, none⟩), .int .i64 nx] w fun e w' => e = .returned (.int .i64 ((lookF (comp T f) (sub0 (T n)) s).2.put (iLook 6 (lookF (comp T f) (sub0 (T n)) s).1 nx)).1) ∧
      CPost wt.heap.size bc ((lookF (comp T f) (sub0 (T n)) s).2.put (iLook 6 (lookF (comp T f) (sub0 (T n)) s).1 nx)).2 (ownC bc bm iv lv) w w' := by
  have hge := gext hT
  obtain ⟨⟨sv, rv, nm, hN⟩, hch⟩ := hT
  have h1 := hN.ok.one (by omega)
  have hX := lookF_ext (hge _ (sub0_mem h1)) s
  obtain ⟨hm, hTc⟩ := hch _ (sub0_mem h1)
  obtain ⟨cg, ccap, rfl, hg, hgc⟩ := one_child hN h1
  have c0 : w.cell? ⟨n, 0, none⟩ = some (.int .u8 13) := by rw [cell_of_heap (hN.below hb).obj, ← hop]; rfl
  have c1 : w.cell? ⟨n, 1, none⟩ = some (.slice (some ⟨cg, 0, none⟩) 1 ccap) := by rw [cell_of_heap (hN.below hb).obj]; rfl
  have cg0 : w.cell? ⟨cg, 0, none⟩ = some (.pointer (some ⟨sub0 (T n), 0, none⟩)) := (hb.cell (p := ⟨cg, 0, none⟩) hg).trans hgc
  have e5 : bnd (f + 1) = 4 * bnd f + 8 := rfl
  rw [e5] at hs
  have HC := tuck hC
  have HL := tuck (look_any wt T f IH w (sub0 (T n)) bc s iv lv bm hb hTc hC hG (by omega))
  have hz := hX.size
  generalize lookF (comp T f) (sub0 (T n)) s = p1 at *
  have hs3 : p1.2.ins.length < 1099511627776 := by unfold sz at hz hs; omega
  have HE3 := tuck (fun (W : World) (iv1 lv1 : Value) (bm1 : Nat) (hC1 : CompAt W wt.heap.size bc p1.2 iv1 lv1 bm1) => emit_any W wt.heap.size bc p1.2 iv1 lv1 bm1 (iLook 6 p1.1 nx) (.slice none 0 0) hC1 (rgNil _) hs3)
  clear hX hz e5 hs hs3 hC hTc hch hb hG IH hm hN hgc h1 hop hge
  go_enter Ybaf.func5, Ybaf.ntmps5
  go_wp2_with fail
  refine HL.out.mono ?_
  rintro e w1 ⟨rfl, hp⟩
  obtain ⟨iv1, lv1, bm1, hC1, hb1, back⟩ := hp.opened HC.out
  have HC1 := tuck hC1
  have BK1 := tuck back
  clear hp hC1 hb1 back HL c0 c1 cg0
  go_wp2_with fail
  refine (HE3.out w1 iv1 lv1 bm1 HC1.out).mono ?_
  rintro e w3 ⟨rfl, hp⟩
  have HP := tuck (BK1.out _ _ hp)
  clear hp
  go_wp2
  go_ret
  exact ⟨rfl, HP.out⟩
end Go.Proofs.YbulkdjmsFmt
