import Derived.Test.YbulkdjmsFmtGenB
/-! (*zzs5530am).alt -/
namespace Go.Proofs.YbulkdjmsFmt
open Go.RowKit Plain
set_option maxRecDepth 100000
theorem drop_at {l : List Nat} {k c : Nat} (hc : l[k]? = some c) : l.drop k = c :: l.drop (k + 1) := by
  obtain ⟨h, hc⟩ := List.getElem?_eq_some_iff.1 hc
  rw [List.drop_eq_getElem_cons h, hc]
set_option maxHeartbeats 1000000 in
theorem alt_any (wt : World) (T : Nat → Nd) (f : Nat) (IH : GenOk wt T f) (subs : List Nat) (g cap bc m : Nat) (hlen : subs.length = m) (hg : ∀ W : World, Below wt.heap.size wt W → ∀ (j c : Nat), subs[j]? = some c → W.cell? ⟨g, j, none⟩ = some (.pointer (some ⟨c, 0, none⟩)))
    (hT : ∀ c ∈ subs, TreeAt wt T f c) (n : Nat) (hn : ∀ c ∈ subs, n < c) (hfew : m ≤ 3) : ∀ (d k : Nat), k + d + 1 = m → ∀ (w : World) (nx : Int) (s : St) (iv lv kv vv : Value), Below wt.heap.size wt w → GenAt w wt.heap.size bc s iv lv kv vv →
      Plain.Good (IsNode wt) s → sz s + (d + 1) * (bnd f + 1) < 1099511627776 →
      Calls Ybaf.prog 16 #[.pointer (some ⟨bc, 0, none⟩), .slice (some ⟨g, 0, none⟩) m cap, .int .i64 k, .int .i64 nx] w fun e w' => e = .returned (.int .i64 (altF (comp T f) (subs.drop k) nx s).1) ∧ GPost wt.heap.size bc (altF (comp T f) (subs.drop k) nx s).2 (ownG bc iv lv kv vv) w w'
  | 0, k, hkd, w, nx, s, iv, lv, kv, vv, hb, hC, hG, hs => by
    obtain ⟨c, hc⟩ : ∃ c, subs[k]? = some c := ⟨_, List.getElem?_eq_getElem (by omega)⟩
    have hm := List.mem_of_getElem? hc
    have dg : w.cell? ⟨g, k, none⟩ = some (.pointer (some ⟨c, 0, none⟩)) := hg w hb k c hc
    have ed : subs.drop k = [c] := by rw [drop_at hc, List.drop_eq_nil_of_le (by omega)]
    rw [ed]
    simp only [altF, if_true]
    have HGen := tuck (IH w c bc nx s iv lv kv vv hb (hT c hm) hC hG (by omega))
    generalize comp T f c nx s = p1 at *
    have hkm : (k : Int) < (m : Int) := by omega
    have hke : ((k : Int) == (m : Int) - 1) = true := by rw [beq_iff_eq]; omega
    have hm3 : (m : Int) ≤ 3 := by omega
    clear hC hb hG hs hc hm ed hT hn hg IH hlen hkd
    go_enter Ybaf.func16, Ybaf.ntmps16
    go_wp2_with fail
    refine HGen.out.mono ?_
    rintro e w1 ⟨rfl, hp⟩
    have HP := tuck hp
    clear hp
    go_wp2
    go_ret
    exact ⟨rfl, HP.out⟩
  | d + 1, k, hkd, w, nx, s, iv, lv, kv, vv, hb, hC, hG, hs => by
    obtain ⟨c, hc⟩ : ∃ c, subs[k]? = some c := ⟨_, List.getElem?_eq_getElem (by omega)⟩
    have hm := List.mem_of_getElem? hc
    have HG0 := tuck (fun (W : World) (h : Below wt.heap.size wt W) => hg W h k c hc)
    have hne : subs.drop (k + 1) ≠ [] := fun e => by
      have := congrArg List.length e
      simp at this
      omega
    have ed : altF (comp T f) (subs.drop k) nx s = (comp T f c nx (altF (comp T f) (subs.drop (k + 1)) nx s).2).2.put (iSplit (comp T f c nx (altF (comp T f) (subs.drop (k + 1)) nx s).2).1 (altF (comp T f) (subs.drop (k + 1)) nx s).1) := by
      rw [drop_at hc]
      simp only [altF]
      rw [if_neg hne]
    rw [ed]
    have hX := altF_ext (P := IsNode wt) (lo := n) (b := bnd f) (g := comp T f) (cs := subs.drop (k + 1)) (fun c hc => ⟨hn c (List.mem_of_mem_drop hc), (hT c (List.mem_of_mem_drop hc)).node, fun nx s => comp_ext (hT c (List.mem_of_mem_drop hc)) nx s⟩) nx s
    have hz := hX.size
    have hl : (subs.drop (k + 1)).length = d + 1 := by simp; omega
    rw [hl] at hz
    have hsk : (d + 1 + 1) * (bnd f + 1) = (d + 1) * (bnd f + 1) + (bnd f + 1) := by rw [Nat.add_mul (d + 1) 1, Nat.one_mul]
    rw [hsk] at hs
    have hz2 := (comp_ext (hT c hm) nx (altF (comp T f) (subs.drop (k + 1)) nx s).2).size
    have HM0 := tuck (GMid.start hC hb)
    have HAlt := tuck (HM0.out.call (fun iv1 lv1 kv1 vv1 hb1 hC1 => alt_any wt T f IH subs g cap bc m hlen hg hT n hn hfew d (k + 1) (by omega) w nx s iv1 lv1 kv1 vv1 hb1 hC1 hG (by omega)))
    have HGen := tuck (fun (w1 : World) (hM : GMid wt bc (ownG bc iv lv kv vv) w (altF (comp T f) (subs.drop (k + 1)) nx s).2 w1) => hM.call (fun iv1 lv1 kv1 vv1 hb1 hC1 => IH w1 c bc nx _ iv1 lv1 kv1 vv1 hb1 (hT c hm) hC1 (hX.good hG) (by omega)))
    generalize altF (comp T f) (subs.drop (k + 1)) nx s = p1 at *
    generalize comp T f c nx p1.2 = p2 at *
    have hsz : p2.2.ins.length < 1099511627776 := by unfold sz at hz hz2 hs; omega
    have HPut := tuck (fun (w1 : World) (hM : GMid wt bc (ownG bc iv lv kv vv) w p2.2 w1) => hM.call (fun iv1 lv1 kv1 vv1 _ hC1 => put_any w1 wt.heap.size bc p2.2 iv1 lv1 kv1 vv1 (iSplit p2.1 p1.1) (.slice none 0 0) hC1 (rgNil _) hsz))
    have hkm : (k : Int) < (m : Int) := by omega
    have hke : ((k : Int) == (m : Int) - 1) = false := by rw [beq_eq_false_iff_ne]; omega
    have hm3 : (m : Int) ≤ 3 := by omega
    have ek : ((k + 1 : Nat) : Int) = (k : Int) + 1 := by omega
    rw [ek] at HAlt
    clear hC hb hG hs hc hm ed hT hn hg IH hlen hkd hz hz2 hX hsk hsz hl hne ek HM0
    go_enter Ybaf.func16, Ybaf.ntmps16
    go_wp2_with fail
    refine HAlt.out.mono ?_
    rintro e w1 ⟨rfl, hp⟩
    have HM1 := tuck hp
    have dg : w1.cell? ⟨g, k, none⟩ = some (.pointer (some ⟨c, 0, none⟩)) := HG0.out w1 hp.choose_spec.choose_spec.choose_spec.choose_spec.2.1
    clear hp HAlt
    go_wp2_with fail
    refine (HGen.out w1 HM1.out).mono ?_
    rintro e w2 ⟨rfl, hp⟩
    have HM2 := tuck hp
    clear hp HGen dg
    go_wp2_with fail
    refine (HPut.out w2 HM2.out).mono ?_
    rintro e w3 ⟨rfl, hp⟩
    have HM3 := tuck hp
    clear hp HPut
    go_wp2
    go_ret
    exact ⟨rfl, HM3.out.post⟩
/-- Where the children's addresses lie. -/
theorem subs_cells {wt : World} {n : Nat} {d : Nd} {sv rv nm : Value} (hN : NodeAt wt n d sv rv nm) : (sv = .slice none 0 0 ∧ d.subs = []) ∨ ∃ g cap, sv = .slice (some ⟨g, 0, none⟩) d.subs.length cap ∧ d.subs.length ≤ cap ∧
    ∀ W : World, Below wt.heap.size wt W → ∀ (j c : Nat), d.subs[j]? = some c → W.cell? ⟨g, j, none⟩ = some (.pointer (some ⟨c, 0, none⟩)) := by
  rcases hN.subs with h | ⟨g, cap, cur, hsv, hle, _, hgb, hgc⟩
  · exact .inl h
  · exact .inr ⟨g, cap, hsv, hle, fun W h j c hj => (cell_of_heap (j := j) (by rw [h.block g (lt_of_heap hgb)]; exact hgb)).trans (hgc j c hj)⟩
theorem gen_cat (wt : World) (T : Nat → Nd) (f : Nat) (IH : GenOk wt T f) (w : World) (n bc : Nat) (nx : Int) (s : St) (iv lv kv vv : Value) (hb : Below wt.heap.size wt w) (hT : TreeAt wt T (f + 1) n) (hC : GenAt w wt.heap.size bc s iv lv kv vv)
    (hG : Plain.Good (IsNode wt) s) (hs : sz s + bnd (f + 1) < 1099511627776) (hop : (T n).op = 10) :
    Calls Ybaf.prog 6 #[.pointer (some ⟨bc, 0, none⟩), .pointer (some ⟨n, 0, none⟩), .int .i64 nx] w fun e w' => e = .returned (.int .i64 (seqF (comp T f) (T n).subs nx s).1) ∧ GPost wt.heap.size bc (seqF (comp T f) (T n).subs nx s).2 (ownG bc iv lv kv vv) w w' := by
  obtain ⟨⟨sv, rv, nm, hN⟩, hch⟩ := hT
  have e5 : bnd (f + 1) = 4 * bnd f + 8 := rfl
  rw [e5] at hs
  have hN' := hN.below hb
  have c0 : w.cell? ⟨n, 0, none⟩ = some (.int .u8 10) := by rw [cell_of_heap hN'.obj, ← hop]; rfl
  have c1 : w.cell? ⟨n, 1, none⟩ = some sv := by rw [cell_of_heap hN'.obj]; rfl
  obtain ⟨a, l, c, hsv, HS⟩ : ∃ a l c, sv = .slice a l c ∧ Hid (Calls Ybaf.prog 15 #[.pointer (some ⟨bc, 0, none⟩), .slice a l c, .int .i64 nx] w fun e w' => e = .returned (.int .i64 (seqF (comp T f) (T n).subs nx s).1) ∧ GPost wt.heap.size bc (seqF (comp T f) (T n).subs nx s).2 (ownG bc iv lv kv vv) w w') := by
    rcases subs_cells hN with ⟨h, hnil⟩ | ⟨g, cap, h, hle, hg⟩
    · refine ⟨_, _, _, h, ?_⟩
      rw [hnil]
      refine (seq_nil w bc nx _ 0).mono ?_
      rintro e w' ⟨rfl, rfl⟩
      exact ⟨rfl, hC.same⟩
    · refine ⟨_, _, _, h, ?_⟩
      have h3 : (T n).subs.length * bnd f ≤ 3 * bnd f := Nat.mul_le_mul_right _ hN.ok.few
      have := seq_any wt T f IH (T n).subs g cap bc hg (fun c hc => (hch c hc).2) n (fun c hc => (hch c hc).1) hle hN.ok.few (T n).subs.length (Nat.le_refl _) w nx s iv lv kv vv hb hC hG (by omega)
      rw [List.take_length] at this
      exact this
  subst hsv
  generalize seqF (comp T f) (T n).subs nx s = p at *
  clear hC hb hG hs hch hN hN' IH e5 hop
  go_enter Ybaf.func6, Ybaf.ntmps6
  go_wp2_with fail
  refine HS.out.mono ?_
  rintro e w' ⟨rfl, hp⟩
  have HP := tuck hp
  clear hp
  go_wp2
  go_ret
  exact ⟨rfl, HP.out⟩
theorem gen_alt (wt : World) (T : Nat → Nd) (f : Nat) (IH : GenOk wt T f) (w : World) (n bc : Nat) (nx : Int) (s : St) (iv lv kv vv : Value) (hb : Below wt.heap.size wt w) (hT : TreeAt wt T (f + 1) n) (hC : GenAt w wt.heap.size bc s iv lv kv vv)
    (hG : Plain.Good (IsNode wt) s) (hs : sz s + bnd (f + 1) < 1099511627776) (hop : (T n).op = 11) :
    Calls Ybaf.prog 6 #[.pointer (some ⟨bc, 0, none⟩), .pointer (some ⟨n, 0, none⟩), .int .i64 nx] w fun e w' => e = .returned (.int .i64 (altF (comp T f) (T n).subs nx s).1) ∧ GPost wt.heap.size bc (altF (comp T f) (T n).subs nx s).2 (ownG bc iv lv kv vv) w w' := by
  obtain ⟨⟨sv, rv, nm, hN⟩, hch⟩ := hT
  have e5 : bnd (f + 1) = 4 * bnd f + 8 := rfl
  rw [e5] at hs
  have hN' := hN.below hb
  have c0 : w.cell? ⟨n, 0, none⟩ = some (.int .u8 11) := by rw [cell_of_heap hN'.obj, ← hop]; rfl
  have c1 : w.cell? ⟨n, 1, none⟩ = some sv := by rw [cell_of_heap hN'.obj]; rfl
  have hsome := hN.ok.some hop
  obtain ⟨a, l, c, hsv, HS⟩ : ∃ a l c, sv = .slice a l c ∧ Hid (Calls Ybaf.prog 16 #[.pointer (some ⟨bc, 0, none⟩), .slice a l c, .int .i64 0, .int .i64 nx] w fun e w' => e = .returned (.int .i64 (altF (comp T f) (T n).subs nx s).1) ∧ GPost wt.heap.size bc (altF (comp T f) (T n).subs nx s).2 (ownG bc iv lv kv vv) w w') := by
    rcases subs_cells hN with ⟨h, hnil⟩ | ⟨g, cap, h, hle, hg⟩
    · rw [hnil] at hsome; simp at hsome
    · refine ⟨_, _, _, h, ?_⟩
      obtain ⟨d, hd⟩ : ∃ d, 0 + d + 1 = (T n).subs.length := ⟨(T n).subs.length - 1, by omega⟩
      have h3 : (d + 1) * (bnd f + 1) ≤ 3 * (bnd f + 1) := Nat.mul_le_mul_right _ (by have := hN.ok.few; omega)
      exact alt_any wt T f IH (T n).subs g cap bc (T n).subs.length rfl hg (fun c hc => (hch c hc).2) n (fun c hc => (hch c hc).1) hN.ok.few d 0 hd w nx s iv lv kv vv hb hC hG (by omega)
  subst hsv
  generalize altF (comp T f) (T n).subs nx s = p at *
  clear hC hb hG hs hch hN hN' IH e5 hop hsome
  go_enter Ybaf.func6, Ybaf.ntmps6
  go_wp2_with fail
  refine HS.out.mono ?_
  rintro e w' ⟨rfl, hp⟩
  have HP := tuck hp
  clear hp
  go_wp2
  go_ret
  exact ⟨rfl, HP.out⟩
end Go.Proofs.YbulkdjmsFmt
