import Derived.Test.YbulkdjmsFmtCompileB
import Derived.Test.YbulkdjmsFmtPtrMap
/-! (*compiler).lookBehind -/
namespace Go.Proofs.YbulkdjmsFmt
open Go.RowKit Plain
set_option maxRecDepth 100000
theorem info43 : (Ybaf.prog.info? 43).map (fun i => (i.zero, i.size, i.bytes)) = some (some (.agg #[.int .i64 0]), 1, 8) := by kernel_rfl
theorem Cells.below {w w' : World} {k : Nat} (h : Cells w k) (hb : Below w.heap.size w w') : Cells w' k := by
  obtain ⟨cur, e, h⟩ := h
  exact ⟨cur, e, by rw [hb.block k (lt_of_heap h)]; exact h⟩
set_option maxHeartbeats 400000 in
theorem look_found (wt w : World) (c bc : Nat) (s : St) (iv lv : Value) (bm : Nat) (hb : Below wt.heap.size wt w) (hn : IsNode wt c) (hC : CompAt w wt.heap.size bc s iv lv bm)
    (hG : Plain.Good (IsNode wt) s) (v : Int) (hf : findK c s.keys s.vals = some v) :
    Calls Ybaf.prog 11 #[.pointer (some ⟨bc, 0, none⟩), .pointer (some ⟨c, 0, none⟩)] w fun e w' => e = .returned (.int .i64 v) ∧ w' = w := by
  have hl := run_lookup_ptr w bm c s hC.map (hn.cells.below hb) (fun k hk => (hG.2.2 k hk).cells.below hb)
  rw [hf] at hl
  have c2 : w.cell? ⟨bc, 2, none⟩ = some (.map (some bm)) := by rw [cell_of_heap hC.obj]; rfl
  clear hC hG hf hn hb
  simp only [Option.getD_some, Option.isSome_some] at hl
  go_enter Ybaf.func11, Ybaf.ntmps11
  go_wp2
  go_ret
  exact ⟨rfl, rfl⟩
theorem mem_tail {c : Nat} {ks js : List Nat} (h1 : c ∉ ks) (h2 : ∀ k ∈ js, c < k) : c ∉ ks ++ js := fun h => by
  rcases List.mem_append.1 h with h | h
  · exact h1 h
  · exact Nat.lt_irrefl _ (h2 c h)
set_option maxHeartbeats 1000000 in
theorem look_new (wt : World) (T : Nat → Nd) (f : Nat) (IH : CompileOk wt T f) (w : World) (c bc : Nat) (s : St) (iv lv : Value) (bm : Nat) (hb : Below wt.heap.size wt w) (hT : TreeAt wt T f c) (hC : CompAt w wt.heap.size bc s iv lv bm)
    (hG : Plain.Good (IsNode wt) s) (hs : sz s + bnd f + 8 < 1099511627776) (hf : findK c s.keys s.vals = none) :
    Calls Ybaf.prog 11 #[.pointer (some ⟨bc, 0, none⟩), .pointer (some ⟨c, 0, none⟩)] w fun e w' => e = .returned (.int .i64 ((comp T f c (s.put iMatch).1 (s.put iMatch).2).2.lbs.length : Int)) ∧
      CPost wt.heap.size bc (addLook c (comp T f c (s.put iMatch).1 (s.put iMatch).2)) (ownC bc bm iv lv) w w' := by
  obtain ⟨i0, hi, hz0, hz1, hz2⟩ := info_parts info43
  have hn := hT.node
  have hl := run_lookup_ptr w bm c s hC.map (hn.cells.below hb) (fun k hk => (hG.2.2 k hk).cells.below hb)
  rw [hf] at hl
  have c2 : w.cell? ⟨bc, 2, none⟩ = some (.map (some bm)) := by rw [cell_of_heap hC.obj]; rfl
  have hsz : s.ins.length < 1099511627776 := by unfold sz at hs; omega
  have HB := tuck hb
  have HC := tuck hC
  have HE := tuck (emit_any w wt.heap.size bc s iv lv bm iMatch (.slice none 0 0) hC (rgNil _) hsz)
  have hX1 := Ext.put (IsNode wt) c s iMatch
  generalize s.put iMatch = p1 at *
  have hX2 := comp_ext hT p1.1 p1.2
  have hX := hX1.trans hX2
  have hG1 := hX1.good hG
  have hG2 := hX.good hG
  have hz1' := hX1.size
  have hz2' := hX2.size
  have HE2 := tuck (fun (W : World) (iv1 lv1 : Value) (bm1 : Nat) (hbw : Below wt.heap.size wt W) (hC1 : CompAt W wt.heap.size bc p1.2 iv1 lv1 bm1) => IH W c bc p1.1 p1.2 iv1 lv1 bm1 hbw hT hC1 hG1 (by omega))
  generalize comp T f c p1.1 p1.2 = p2 at *
  have hf2 : findK c p2.2.keys p2.2.vals = none := by
    obtain ⟨ks, e, hk⟩ := hX.keys
    rw [e]; exact findK_not_mem _ (mem_tail (findK_none hG.1 hf) hk)
  have HUp := tuck (fun (W : World) (bm2 : Nat) (hbw : Below wt.heap.size wt W) (hm : MapAt W bm2 p2.2) => run_update_ptr W bm2 c p2.2 hm (hn.cells.below hbw) (fun k hk => (hG2.2.2 k hk).cells.below hbw) hf2)
  have hs3 : p2.2.lbs.length < 1099511627776 := by unfold sz at hz2' hz1' hs; omega
  clear hX1 hG1 hz1' hX2 hz2' hs hsz hC hb hG IH hf hn hf2 hG2 hX hT
  simp only [Option.getD_none, Option.isSome_none] at hl
  go_enter Ybaf.func11, Ybaf.ntmps11
  go_wp2_with fail
  refine HE.out.mono ?_
  rintro e w1 ⟨rfl, hp⟩
  obtain ⟨iv1, lv1, bm1, hC1, hb1, back⟩ := hp.opened HC.out
  have HC1 := tuck hC1
  have HB1 := tuck (HB.out.trans hb1)
  have BK1 := tuck back
  clear hp hC1 hb1 back HE hl c2
  go_wp2_with fail
  refine (HE2.out w1 iv1 lv1 bm1 HB1.out HC1.out).mono ?_
  rintro e w2 ⟨rfl, hp⟩
  obtain ⟨iv2, lv2, bm2, hC2, hb2, back⟩ := hp.opened HC1.out
  have HB2 := tuck (HB1.out.trans hb2)
  have BK2 := tuck back
  obtain ⟨la, lc, rfl⟩ := ownsRow_form hC2.lbs
  have d1 : w2.cell? ⟨bc, 1, none⟩ = some (.slice la p2.2.lbs.length lc) := by rw [cell_of_heap hC2.obj]; rfl
  have f1 : w2.frozen? ⟨bc, 1, none⟩ = false := frozen_of_heap hC2.obj
  have hbc : bc < w2.heap.size := lt_of_heap hC2.obj
  have hbc1 : bc < w2.heap.size + 1 := by omega
  have HC2 := tuck hC2
  clear hp hC2 hb2 back HE2
  generalize hst : p2.1 = st at *
  generalize hpp : p2.2 = s2 at *
  generalize hnl : s2.lbs.length = nl at *
  have HW : Hid (Chg [] w2 (w2.alloc (.cells #[.int .i64 st] 43))) := (Chg.refl _ _).alloc _
  have HOB : Hid ((w2.alloc (.cells #[.int .i64 st] 43)).ownsRow wt.heap.size 43 1 (.slice la nl lc) nl (s2.lbs.map (Value.int .i64))) := by
    have := HC2.out.lbs
    rw [hnl] at this
    exact this.alloc _
  have HCn : Hid (∀ j u, ([.int .i64 st] : List Value)[j]? = some u → (w2.alloc (.cells #[.int .i64 st] 43)).cell? (Addr.add ⟨w2.heap.size, 0, none⟩ j) = some u) := fun j u h => cells_of_new (X := #[.int .i64 st]) (e := 43) h
  have HLe : Hid (wt.heap.size ≤ w2.heap.size) := HC2.out.hB
  go_wp2_with (at_builtin; refine wpList_append_some _ rfl (.tmp 32) (.tmp 35) 29 rfl wt.heap.size 43 i0 _ 1 8 Ybaf.underlying29 hi hz0 hz1 hz2 rfl (by decide) (.slice la nl lc) nl _ rfl HOB.out ⟨w2.heap.size, 0, none⟩ 1 1 _ rfl rfl HCn.out (by simp [Value.oneCell']) (by unfold maxLen; omega) (by omega) (by have := HLe.out; simp; omega) (by decide) ?_)
  intro g cap w3 ho hg hloc
  have hK := HC2.out.looked st HW.out hg (g := g) (cap := cap) (by rw [hnl]; exact ho) (by simpa using hloc)
  rw [hnl] at hK
  obtain ⟨k1, k2, k3, k4⟩ := hK
  have q1 : w3.cell? ⟨bc, 1, none⟩ = some (.slice la nl lc) := by rw [cell_of_heap k2]; rfl
  have q2 : w3.cell? ⟨bc, 2, none⟩ = some (.map (some bm2)) := by rw [cell_of_heap k2]; rfl
  have q3 : w3.frozen? ⟨bc, 1, none⟩ = false := frozen_of_heap k2
  have q4 := World.cell?_setCell_same w3 ⟨bc, 1, none⟩ (.slice (some ⟨g, 0, none⟩) (nl + 1) cap) q1
  have q5 : (w3.setCell ⟨bc, 1, none⟩ (.slice (some ⟨g, 0, none⟩) (nl + 1) cap)).cell? ⟨bc, 2, none⟩ = some (.map (some bm2)) := by
    rw [World.cell?_setCell_other _ _ _ _ (by simp)]; exact q2
  obtain ⟨es, cl, hup, hek, hev⟩ := HUp.out _ bm2 (HB2.out.trans (k3.below HC2.out.hB (fun k hk => (HC2.out.own_le k hk).1))) k1
  have HEnd := tuck (BK1.out _ _ (BK2.out _ _ (k4 c es cl hek hev)))
  clear k1 k2 k3 k4 hek hev ho hg hloc HUp HOB HCn HW HC2 d1 f1
  go_wp2
  go_ret
  have hp2 : p2 = (st, s2) := by rw [← hst, ← hpp]
  exact ⟨by simp [hpp, hnl], by rw [hp2]; exact HEnd.out⟩
theorem look_any (wt : World) (T : Nat → Nd) (f : Nat) (IH : CompileOk wt T f) (w : World) (c bc : Nat) (s : St) (iv lv : Value) (bm : Nat) (hb : Below wt.heap.size wt w) (hT : TreeAt wt T f c) (hC : CompAt w wt.heap.size bc s iv lv bm)
    (hG : Plain.Good (IsNode wt) s) (hs : sz s + bnd f + 8 < 1099511627776) :
    Calls Ybaf.prog 11 #[.pointer (some ⟨bc, 0, none⟩), .pointer (some ⟨c, 0, none⟩)] w fun e w' => e = .returned (.int .i64 (lookF (comp T f) c s).1) ∧ CPost wt.heap.size bc (lookF (comp T f) c s).2 (ownC bc bm iv lv) w w' := by
  unfold lookF
  cases hf : findK c s.keys s.vals with
  | some v =>
    refine (look_found wt w c bc s iv lv bm hb hT.node hC hG v hf).mono ?_
    rintro e w' ⟨rfl, rfl⟩
    exact ⟨rfl, hC.same⟩
  | none => exact look_new wt T f IH w c bc s iv lv bm hb hT hC hG hs hf
end Go.Proofs.YbulkdjmsFmt
