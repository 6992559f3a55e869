import Derived.Test.YbulkdjmsFmtPut
import Derived.Test.YbulkdjmsFmtCompileB
/-! (*zzs5530am).gen: the first cases. -/
namespace Go.Proofs.YbulkdjmsFmt
open Go.RowKit Plain
set_option maxRecDepth 100000
def GenOk (wt : World) (T : Nat → Nd) (f : Nat) : Prop :=
  ∀ (w : World) (n bc : Nat) (nx : Int) (s : St) (iv lv kv vv : Value), Below wt.heap.size wt w → TreeAt wt T f n → GenAt w wt.heap.size bc s iv lv kv vv → Plain.Good (IsNode wt) s → sz s + bnd f < 1099511627776 →
    Calls Ybaf.prog 6 #[.pointer (some ⟨bc, 0, none⟩), .pointer (some ⟨n, 0, none⟩), .int .i64 nx] w fun e w' => e = .returned (.int .i64 (comp T f n nx s).1) ∧ GPost wt.heap.size bc (comp T f n nx s).2 (ownG bc iv lv kv vv) w w'
theorem GenAt.same {w : World} {B bc : Nat} {s : St} {iv lv kv vv : Value} (h : GenAt w B bc s iv lv kv vv) : GPost B bc s (ownG bc iv lv kv vv) w w :=
  ⟨iv, lv, kv, vv, h, Chg.refl _ _, fun _ hk => .inl hk⟩
/-- Behind a call: the object again, the tree as it was, and the way on. -/
theorem GPost.opened {B bc : Nat} {s s' : St} {iv lv kv vv : Value} {w w' : World} (h : GPost B bc s' (ownG bc iv lv kv vv) w w') (hC : GenAt w B bc s iv lv kv vv) :
    ∃ iv' lv' kv' vv', GenAt w' B bc s' iv' lv' kv' vv' ∧ Below B w w' ∧ ∀ s2 w2, GPost B bc s2 (ownG bc iv' lv' kv' vv') w' w2 → GPost B bc s2 (ownG bc iv lv kv vv) w w2 := by
  obtain ⟨iv', lv', kv', vv', h1, h2, h3⟩ := h
  exact ⟨iv', lv', kv', vv', h1, h2.below hC.hB (fun k hk => (hC.own_le k hk).1), fun s2 w2 h => GPost.after h2 h3 h⟩
theorem gen_empty (w : World) (n bc : Nat) (nx : Int) (d : Nd) (sv rv nm : Value) (hN : NodeAt w n d sv rv nm) (hop : d.op = 1) :
    Calls Ybaf.prog 6 #[.pointer (some ⟨bc, 0, none⟩), .pointer (some ⟨n, 0, none⟩), .int .i64 nx] w fun e w' => e = .returned (.int .i64 nx) ∧ w' = w := by
  have c0 : w.cell? ⟨n, 0, none⟩ = some (.int .u8 1) := by rw [cell_of_heap hN.obj, ← hop]; rfl
  clear hN hop
  go_enter Ybaf.func6, Ybaf.ntmps6
  go_wp2
  go_ret
  exact ⟨rfl, rfl⟩
theorem gen_class (w : World) (B n bc : Nat) (nx : Int) (s : St) (iv lv kv vv : Value) (hC : GenAt w B bc s iv lv kv vv) (hs : s.ins.length < 1099511627776) (d : Nd) (sv rv nm : Value) (hN : NodeAt w n d sv rv nm) (hop : d.op = 3) :
    Calls Ybaf.prog 6 #[.pointer (some ⟨bc, 0, none⟩), .pointer (some ⟨n, 0, none⟩), .int .i64 nx] w fun e w' => e = .returned (.int .i64 (s.put (iRune d.rg nx)).1) ∧ GPost B bc (s.put (iRune d.rg nx)).2 (ownG bc iv lv kv vv) w w' := by
  have c0 : w.cell? ⟨n, 0, none⟩ = some (.int .u8 3) := by rw [cell_of_heap hN.obj, ← hop]; rfl
  have c3 : w.cell? ⟨n, 3, none⟩ = some rv := by rw [cell_of_heap hN.obj]; rfl
  have HE := tuck (put_any w B bc s iv lv kv vv (iRune d.rg nx) rv hC hN.rg hs)
  obtain ⟨ra, rl, rc, rfl⟩ := hN.rg.form
  clear hN hop hC
  go_enter Ybaf.func6, Ybaf.ntmps6
  go_wp2_with fail
  refine HE.out.mono ?_
  rintro e w' ⟨rfl, hp⟩
  have HP := tuck (hp)
  clear hp
  go_wp2
  go_ret
  exact ⟨rfl, HP.out⟩
/-- A new block of ranges, and the instruction that reads it. -/
theorem lit_put (w : World) (B bc : Nat) (s : St) (iv lv kv vv : Value) (r nx : Int) (hC : GenAt w B bc s iv lv kv vv) (hs : s.ins.length < 1099511627776) :
    Calls Ybaf.prog 13 #[.pointer (some ⟨bc, 0, none⟩), .agg #[.int .u8 2, .int .u8 0, .int .i64 nx, .int .i64 0, .slice (some ⟨w.heap.size, 0, none⟩) 1 1, .int .i64 0, .int .i64 0]] (w.alloc (.cells #[.int .i32 r, .int .i32 r] 55)).drew
      fun e w' => e = .returned (.int .i64 (s.put (iRune [(r, r)] nx)).1) ∧ GPost B bc (s.put (iRune [(r, r)] nx)).2 (ownG bc iv lv kv vv) w w' := by
  have hc : Chg [] w (w.alloc (.cells #[.int .i32 r, .int .i32 r] 55)).drew := ((Chg.refl _ _).alloc _).drew
  have hC1 := hC.keep hc (by intro k hk; cases hk) (by simp)
  have hrg : RgAt (w.alloc (.cells #[.int .i32 r, .int .i32 r] 55)).drew (.slice (some ⟨w.heap.size, 0, none⟩) 1 1) [(r, r)] := by
    refine .inr ⟨w.heap.size, 1, #[.int .i32 r, .int .i32 r], rfl, by simp, by decide, ?_, ?_⟩
    · show (w.heap.push _)[w.heap.size]? = _; simp
    · intro j p hj
      match j, hj with
      | 0, hj => simp at hj; subst hj; exact ⟨rfl, rfl⟩
  refine (put_any _ B bc s iv lv kv vv (iRune [(r, r)] nx) _ hC1 hrg hs).mono ?_
  rintro e w' ⟨rfl, hp⟩
  exact ⟨rfl, GPost.after (hc.wide (by simp)) (fun k hk => .inl hk) hp⟩
theorem gen_lit (w : World) (B n bc : Nat) (nx : Int) (s : St) (iv lv kv vv : Value) (hC : GenAt w B bc s iv lv kv vv) (hs : s.ins.length < 1099511627776) (d : Nd) (sv rv nm : Value) (hN : NodeAt w n d sv rv nm) (hop : d.op = 2) :
    Calls Ybaf.prog 6 #[.pointer (some ⟨bc, 0, none⟩), .pointer (some ⟨n, 0, none⟩), .int .i64 nx] w fun e w' => e = .returned (.int .i64 (s.put (iRune [(d.rune, d.rune)] nx)).1) ∧ GPost B bc (s.put (iRune [(d.rune, d.rune)] nx)).2 (ownG bc iv lv kv vv) w w' := by
  have c0 : w.cell? ⟨n, 0, none⟩ = some (.int .u8 2) := by rw [cell_of_heap hN.obj, ← hop]; rfl
  have c2 : w.cell? ⟨n, 2, none⟩ = some (.int .i32 d.rune) := by rw [cell_of_heap hN.obj]; rfl
  clear hop
  go_enter Ybaf.func6, Ybaf.ntmps6
  go_wp2_with fail
  have HE := tuck (lit_put w B bc s iv lv kv vv d.rune nx hC hs)
  go_region_with (go_at_call 13; refine HE.out.mono ?_; rintro e w' ⟨rfl, hp⟩; have HP := tuck (hp); clear hp)
  all_goals
    go_wp2
    go_ret
    exact ⟨rfl, HP.out⟩
set_option maxHeartbeats 400000 in
theorem gen_cap (wt : World) (T : Nat → Nd) (f : Nat) (IH : GenOk wt T f) (w : World) (n bc : Nat) (nx : Int) (s : St) (iv lv kv vv : Value) (hb : Below wt.heap.size wt w) (hT : TreeAt wt T (f + 1) n) (hC : GenAt w wt.heap.size bc s iv lv kv vv)
    (hG : Plain.Good (IsNode wt) s) (hs : sz s + bnd (f + 1) < 1099511627776) (hop : (T n).op = 8) :
    Calls Ybaf.prog 6 #[.pointer (some ⟨bc, 0, none⟩), .pointer (some ⟨n, 0, none⟩), .int .i64 nx] w fun e w' => e = .returned (.int .i64 (capF (comp T f) (T n) (sub0 (T n)) nx s).1) ∧ GPost wt.heap.size bc (capF (comp T f) (T n) (sub0 (T n)) nx s).2 (ownG bc iv lv kv vv) w w' := by
  obtain ⟨⟨sv, rv, nm, hN⟩, hch⟩ := hT
  have h1 := hN.ok.one (.inl hop)
  obtain ⟨hm, hTc⟩ := hch _ (sub0_mem h1)
  have hcap := hN.ok.cap
  obtain ⟨cg, ccap, rfl, hg, hgc⟩ := one_child hN h1
  have HN := tuck (fun (W : World) (h : Below wt.heap.size wt W) => hN.below h)
  have HGc := tuck (fun (W : World) (h : Below wt.heap.size wt W) => (h.cell (p := ⟨cg, 0, none⟩) hg).trans hgc)
  have c0 : w.cell? ⟨n, 0, none⟩ = some (.int .u8 8) := by rw [cell_of_heap (HN.out w hb).obj, ← hop]; rfl
  have c7 : w.cell? ⟨n, 7, none⟩ = some (.int .i64 (T n).cap) := by rw [cell_of_heap (HN.out w hb).obj]; rfl
  have hsz : s.ins.length < 1099511627776 := by unfold sz at hs; omega
  have HB := tuck hb
  have HC := tuck hC
  have HIH := tuck IH
  have HTc := tuck hTc
  have HE := tuck (put_any w wt.heap.size bc s iv lv kv vv (iSave (2 * (T n).cap + 1) nx) (.slice none 0 0) hC (rgNil _) hsz)
  have hX1 := Ext.put (IsNode wt) n s (iSave (2 * (T n).cap + 1) nx)
  have hG1 := hX1.good hG
  have hz1 := hX1.size
  unfold capF
  generalize s.put (iSave (2 * (T n).cap + 1) nx) = p1 at *
  have hX2 := comp_ext hTc p1.1 p1.2
  have hz2 := hX2.size
  have e5 : bnd (f + 1) = 4 * bnd f + 8 := rfl
  rw [e5] at hs
  have HE2 := tuck (fun (W : World) (iv1 lv1 kv1 vv1 : Value) (hbw : Below wt.heap.size wt W) (hC1 : GenAt W wt.heap.size bc p1.2 iv1 lv1 kv1 vv1) => IH W (sub0 (T n)) bc p1.1 p1.2 iv1 lv1 kv1 vv1 hbw hTc hC1 hG1 (by omega))
  generalize comp T f (sub0 (T n)) p1.1 p1.2 = p2 at *
  have hs3 : p2.2.ins.length < 1099511627776 := by unfold sz at hz2 hz1 hs; omega
  have HE3 := tuck (fun (W : World) (iv1 lv1 kv1 vv1 : Value) (hC1 : GenAt W wt.heap.size bc p2.2 iv1 lv1 kv1 vv1) => put_any W wt.heap.size bc p2.2 iv1 lv1 kv1 vv1 (iSave (2 * (T n).cap) p2.1) (.slice none 0 0) hC1 (rgNil _) hs3)
  clear hX1 hG1 hz1 hX2 hz2 e5 hs hs3 hsz hC hTc hch hb hG IH hm hN hgc h1 hop
  go_enter Ybaf.func6, Ybaf.ntmps6
  go_wp2_with fail
  refine HE.out.mono ?_
  rintro e w1 ⟨rfl, hp⟩
  obtain ⟨iv1, lv1, kv1, vv1, hC1, hb1, back⟩ := hp.opened HC.out
  have HC1 := tuck hC1
  have HB1 := tuck (HB.out.trans hb1)
  have BK1 := tuck back
  have d1 : w1.cell? ⟨n, 1, none⟩ = some (.slice (some ⟨cg, 0, none⟩) 1 ccap) := by rw [cell_of_heap (HN.out w1 HB1.out).obj]; rfl
  have d7 : w1.cell? ⟨cg, 0, none⟩ = some (.pointer (some ⟨sub0 (T n), 0, none⟩)) := HGc.out w1 HB1.out
  clear hp hC1 hb1 back HE c0 c7
  go_wp2_with fail
  refine (HE2.out w1 iv1 lv1 kv1 vv1 HB1.out HC1.out).mono ?_
  rintro e w2 ⟨rfl, hp⟩
  obtain ⟨iv2, lv2, kv2, vv2, hC2, hb2, back⟩ := hp.opened HC1.out
  have HC2 := tuck hC2
  have BK2 := tuck back
  have d7 : w2.cell? ⟨n, 7, none⟩ = some (.int .i64 (T n).cap) := by rw [cell_of_heap (HN.out w2 (HB1.out.trans hb2)).obj]; rfl
  clear hp hC2 hb2 back HE2 d1
  go_wp2_with fail
  refine (HE3.out w2 iv2 lv2 kv2 vv2 HC2.out).mono ?_
  rintro e w3 ⟨rfl, hp⟩
  have HP := tuck (BK1.out _ _ (BK2.out _ _ hp))
  clear hp
  go_wp2
  go_ret
  exact ⟨rfl, HP.out⟩
/-- In the middle of a call that works on the compiler. -/
def GMid (wt : World) (bc : Nat) (own : List Nat) (w : World) (s' : St) (wr : World) : Prop :=
  ∃ iv lv kv vv, GenAt wr wt.heap.size bc s' iv lv kv vv ∧ Below wt.heap.size wt wr ∧ ∀ s2 w2, GPost wt.heap.size bc s2 (ownG bc iv lv kv vv) wr w2 → GPost wt.heap.size bc s2 own w w2
theorem GMid.start {wt w : World} {bc : Nat} {s : St} {iv lv kv vv : Value} (hC : GenAt w wt.heap.size bc s iv lv kv vv) (hb : Below wt.heap.size wt w) : GMid wt bc (ownG bc iv lv kv vv) w s w :=
  ⟨iv, lv, kv, vv, hC, hb, fun _ _ h => h⟩
theorem GMid.post {wt w wr : World} {bc : Nat} {own : List Nat} {s : St} (h : GMid wt bc own w s wr) : GPost wt.heap.size bc s own w wr := by
  obtain ⟨iv, lv, kv, vv, hC, _, hk⟩ := h
  exact hk _ _ hC.same
theorem GMid.next {wt w wr w' : World} {bc : Nat} {own : List Nat} {s s' : St} {iv lv kv vv : Value} (hC : GenAt wr wt.heap.size bc s iv lv kv vv) (hb : Below wt.heap.size wt wr) (hk : ∀ s2 w2, GPost wt.heap.size bc s2 (ownG bc iv lv kv vv) wr w2 → GPost wt.heap.size bc s2 own w w2)
    (hp : GPost wt.heap.size bc s' (ownG bc iv lv kv vv) wr w') : GMid wt bc own w s' w' := by
  obtain ⟨iv', lv', kv', vv', h1, h2, h3⟩ := hp.opened hC
  exact ⟨iv', lv', kv', vv', h1, hb.trans h2, fun s2 w2 h => hk _ _ (h3 _ _ h)⟩
end Go.Proofs.YbulkdjmsFmt
