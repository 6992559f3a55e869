import Derived.Test.YbulkdjmsFmtCompileB
import Derived.LoopTactic

/-! (*compiler).compile: concatenations and alternations. -/
namespace Go.Proofs.YbulkdjmsFmt
open Go.RowKit Plain
set_option maxRecDepth 100000
/-- In the middle of a call that works on the compiler. -/
def Mid (wt : World) (bc : Nat) (own : List Nat) (w : World) (s' : St) (wr : World) : Prop :=
  ∃ iv lv bm, CompAt wr wt.heap.size bc s' iv lv bm ∧ Below wt.heap.size wt wr ∧ ∀ s2 w2, CPost wt.heap.size bc s2 (ownC bc bm iv lv) wr w2 → CPost wt.heap.size bc s2 own w w2
theorem Mid.start {wt w : World} {bc bm : Nat} {s : St} {iv lv : Value} (hC : CompAt w wt.heap.size bc s iv lv bm) (hb : Below wt.heap.size wt w) : Mid wt bc (ownC bc bm iv lv) w s w :=
  ⟨iv, lv, bm, hC, hb, fun _ _ h => h⟩
theorem Mid.post {wt w wr : World} {bc : Nat} {own : List Nat} {s : St} (h : Mid wt bc own w s wr) : CPost wt.heap.size bc s own w wr := by
  obtain ⟨iv, lv, bm, hC, _, hk⟩ := h
  exact hk _ _ hC.same
theorem Mid.next {wt w wr w' : World} {bc bm : Nat} {own : List Nat} {s s' : St} {iv lv : Value} (hC : CompAt wr wt.heap.size bc s iv lv bm) (hb : Below wt.heap.size wt wr) (hk : ∀ s2 w2, CPost wt.heap.size bc s2 (ownC bc bm iv lv) wr w2 → CPost wt.heap.size bc s2 own w w2)
    (hp : CPost wt.heap.size bc s' (ownC bc bm iv lv) wr w') : Mid wt bc own w s' w' := by
  obtain ⟨iv', lv', bm', h1, h2, h3⟩ := hp.opened hC
  exact ⟨iv', lv', bm', h1, hb.trans h2, fun s2 w2 h => hk _ _ (h3 _ _ h)⟩
theorem drop_pred {l : List Nat} {k c : Nat} (h0 : 0 < k) (hc : l[k - 1]? = some c) : l.drop (k - 1) = c :: l.drop k := by
  obtain ⟨h, hc⟩ := List.getElem?_eq_some_iff.1 hc
  rw [List.drop_eq_getElem_cons h, hc, show k - 1 + 1 = k from by omega]
set_option maxHeartbeats 1000000 in
theorem compile_cat (wt : World) (T : Nat → Nd) (f : Nat) (IH : CompileOk wt T f) (w : World) (n bc : Nat) (nx : Int) (s : St) (iv lv : Value) (bm : Nat) (hb : Below wt.heap.size wt w) (hT : TreeAt wt T (f + 1) n) (hC : CompAt w wt.heap.size bc s iv lv bm)
    (hG : Plain.Good (IsNode wt) s) (hs : sz s + bnd (f + 1) < 1099511627776) (hop : (T n).op = 10) :
    Calls Ybaf.prog 5 #[.pointer (some ⟨bc, 0, none⟩), .pointer (some ⟨n, 0, none⟩), .int .i64 nx] w fun e w' => e = .returned (.int .i64 (seqF (comp T f) (T n).subs nx s).1) ∧ CPost wt.heap.size bc (seqF (comp T f) (T n).subs nx s).2 (ownC bc bm iv lv) w w' := by
  have hge := gext hT
  obtain ⟨⟨sv, rv, nm, hN⟩, hch⟩ := hT
  have hfew := hN.ok.few
  have e5 : bnd (f + 1) = 4 * bnd f + 8 := rfl
  rw [e5] at hs
  have HN := tuck (fun (W : World) (h : Below wt.heap.size wt W) => hN.below h)
  have c0 : w.cell? ⟨n, 0, none⟩ = some (.int .u8 10) := by rw [cell_of_heap (HN.out w hb).obj, ← hop]; rfl
  have c1 : w.cell? ⟨n, 1, none⟩ = some sv := by rw [cell_of_heap (HN.out w hb).obj]; rfl
  have HM := tuck (Mid.start hC hb)
  have HI : Hid (∀ (k c : Nat), 0 < k → (T n).subs[k - 1]? = some c → ∀ (W : World) (iv1 lv1 : Value) (bm1 : Nat), Below wt.heap.size wt W → CompAt W wt.heap.size bc (seqF (comp T f) ((T n).subs.drop k) nx s).2 iv1 lv1 bm1 →
      Calls Ybaf.prog 5 #[.pointer (some ⟨bc, 0, none⟩), .pointer (some ⟨c, 0, none⟩), .int .i64 (seqF (comp T f) ((T n).subs.drop k) nx s).1] W fun e w' => e = .returned (.int .i64 (seqF (comp T f) ((T n).subs.drop (k - 1)) nx s).1) ∧
        CPost wt.heap.size bc (seqF (comp T f) ((T n).subs.drop (k - 1)) nx s).2 (ownC bc bm1 iv1 lv1) W w') := by
    intro k c h0 hc W iv1 lv1 bm1 hbw hC1
    have hX := seqF_ext (cs := (T n).subs.drop k) (fun c hc => hge c (List.mem_of_mem_drop hc)) nx s
    have h1 := hX.size
    have h2 : ((T n).subs.drop k).length * bnd f ≤ 3 * bnd f := Nat.mul_le_mul_right _ (by simp; omega)
    rw [drop_pred h0 hc]
    exact IH W c bc _ _ iv1 lv1 bm1 hbw (hch _ (List.mem_of_getElem? hc)).2 hC1 (hX.good hG) (by omega)
  rcases hN.subs with ⟨rfl, hnil⟩ | ⟨g, cap, cur, hsv, hle, hcap, hgb, hgc⟩
  · rw [hnil]
    clear HI hch hN hfew hs hG hC hb hge IH hop e5
    go_enter Ybaf.func5, Ybaf.ntmps5
    go_wp2
    go_loopw [2, 9] (fun nxv i wr => nxv = .int .i64 nx ∧ i = .int .i64 (-1) ∧ Mid wt bc (ownC bc bm iv lv) w s wr) (fun _ _ _ => 0)
    case atStart => exact ⟨rfl, rfl, HM.out⟩
    case round =>
      obtain ⟨rfl, rfl, hM⟩ := hrel
      have HM2 := tuck hM
      clear hM
      go_wp2
      go_ret
      exact ⟨rfl, HM2.out.post⟩
  · subst hsv
    have HGc := tuck (fun (W : World) (h : Below wt.heap.size wt W) (j c : Nat) (hj : (T n).subs[j]? = some c) => (cell_of_heap (j := j) (by rw [h.block g (lt_of_heap hgb)]; exact hgb)).trans (hgc j c hj))
    generalize hsub : (T n).subs = subs at *
    obtain ⟨m, hm⟩ : ∃ m, subs.length = m := ⟨_, rfl⟩
    have HL := tuck hm
    rw [hm] at c1 hfew
    clear hch hN hs hG hC hb hge IH hop e5 hsub hgb hgc hle hcap hm
    go_enter Ybaf.func5, Ybaf.ntmps5
    go_wp2
    go_loopw [2, 9] (fun nxv i wr => ∃ k : Nat, k ≤ m ∧ i = .int .i64 ((k : Int) - 1) ∧ nxv = .int .i64 (seqF (comp T f) (subs.drop k) nx s).1 ∧ Mid wt bc (ownC bc bm iv lv) w (seqF (comp T f) (subs.drop k) nx s).2 wr) (fun _ i _ => (intOf i + 1).toNat)
    case atStart => exact ⟨m, Nat.le_refl _, rfl, by rw [← HL.out]; simp [seqF], by rw [← HL.out]; simpa [seqF] using HM.out⟩
    case round =>
      obtain ⟨k, hk, rfl, rfl, iv1, lv1, bm1, hC1, hb1, hback⟩ := hrel
      by_cases hk0 : 0 < k
      · obtain ⟨c, hc⟩ : ∃ c, subs[k - 1]? = some c := ⟨_, List.getElem?_eq_getElem (by rw [HL.out]; omega)⟩
        have HCa := tuck (HI.out k c hk0 hc wr iv1 lv1 bm1 hb1 hC1)
        have HNx := tuck (fun (s' : St) (w' : World) (hp : CPost wt.heap.size bc s' (ownC bc bm1 iv1 lv1) wr w') => Mid.next hC1 hb1 hback hp)
        have d1 : wr.cell? ⟨n, 1, none⟩ = some (.slice (some ⟨g, 0, none⟩) m cap) := by rw [cell_of_heap (HN.out wr hb1).obj, ← HL.out]; rfl
        have dg : wr.cell? ⟨g, k - 1, none⟩ = some (.pointer (some ⟨c, 0, none⟩)) := HGc.out wr hb1 (k - 1) c hc
        have hkI : (0 : Int) ≤ (k : Int) - 1 := by omega
        have hkm : (k : Int) - 1 < (m : Int) := by omega
        have hto : ((k : Int) - 1).toNat = k - 1 := by omega
        clear hC1 hb1 hback hc
        go_wp2_with fail
        refine HCa.out.mono ?_
        rintro e w' ⟨rfl, hp⟩
        have HM2 := tuck (HNx.out _ _ hp)
        clear hp HCa HNx
        go_wp2
        go_roundw
        case rel => exact ⟨k - 1, by omega, by rw [show ((k : Int) - 1 - 1) = ((k - 1 : Nat) : Int) - 1 from by omega], rfl, HM2.out⟩
        case measure => simp [intOf]; omega
      · have hk1 : ¬ (0 : Int) ≤ (k : Int) - 1 := by omega
        have hk2 : k = 0 := by omega
        have HM2 := tuck (Mid.post ⟨iv1, lv1, bm1, hC1, hb1, hback⟩)
        subst hk2
        clear hC1 hb1 hback
        go_wp2
        go_ret
        exact ⟨by simp, by simpa using HM2.out⟩
end Go.Proofs.YbulkdjmsFmt
