import Derived.Test.YbulkdjmsFmtEmit
import Derived.Test.YbulkdjmsFmtTree
import Derived.Deep.RegionWith
import Derived.BigRegion
namespace Go.Proofs.YbulkdjmsFmt
open Go.RowKit Plain
set_option maxRecDepth 100000
def CompileOk (wt : World) (T : Nat → Nd) (f : Nat) : Prop :=
  ∀ (w : World) (n bc : Nat) (nx : Int) (s : St) (iv lv : Value) (bm : Nat), Below wt.heap.size wt w → TreeAt wt T f n → CompAt w wt.heap.size bc s iv lv bm → Plain.Good (IsNode wt) s → sz s + bnd f < 1099511627776 →
    Calls Ybaf.prog 5 #[.pointer (some ⟨bc, 0, none⟩), .pointer (some ⟨n, 0, none⟩), .int .i64 nx] w fun e w' => e = .returned (.int .i64 (comp T f n nx s).1) ∧ CPost wt.heap.size bc (comp T f n nx s).2 (ownC bc bm iv lv) w w'
theorem CompAt.same {w : World} {B bc : Nat} {s : St} {iv lv : Value} {bm : Nat} (h : CompAt w B bc s iv lv bm) : CPost B bc s (ownC bc bm iv lv) w w :=
  ⟨iv, lv, bm, h, Chg.refl _ _, fun _ hk => .inl hk⟩
/-- Behind a call: the object again, the tree as it was, and the way on. -/
theorem CPost.opened {B bc : Nat} {s s' : St} {iv lv : Value} {bm : Nat} {w w' : World} (h : CPost B bc s' (ownC bc bm iv lv) w w') (hC : CompAt w B bc s iv lv bm) :
    ∃ iv' lv' bm', CompAt w' B bc s' iv' lv' bm' ∧ Below B w w' ∧ ∀ s2 w2, CPost B bc s2 (ownC bc bm' iv' lv') w' w2 → CPost B bc s2 (ownC bc bm iv lv) w w2 := by
  obtain ⟨iv', lv', bm', h1, h2, h3⟩ := h
  exact ⟨iv', lv', bm', h1, h2.below hC.hB (fun k hk => (hC.own_le k hk).1), fun s2 w2 h => CPost.after h2 h3 h⟩
theorem compile_empty (w : World) (n bc : Nat) (nx : Int) (d : Nd) (sv rv nm : Value) (hN : NodeAt w n d sv rv nm) (hop : d.op = 1) :
    Calls Ybaf.prog 5 #[.pointer (some ⟨bc, 0, none⟩), .pointer (some ⟨n, 0, none⟩), .int .i64 nx] w fun e w' => e = .returned (.int .i64 nx) ∧ w' = w := by
  have c0 : w.cell? ⟨n, 0, none⟩ = some (.int .u8 1) := by rw [cell_of_heap hN.obj, ← hop]; rfl
  clear hN hop
  go_enter Ybaf.func5, Ybaf.ntmps5
  go_wp2
  go_ret
  exact ⟨rfl, rfl⟩
theorem compile_class (w : World) (B n bc : Nat) (nx : Int) (s : St) (iv lv : Value) (bm : Nat) (hC : CompAt w B bc s iv lv bm) (hs : s.ins.length < 1099511627776) (d : Nd) (sv rv nm : Value) (hN : NodeAt w n d sv rv nm) (hop : d.op = 3) :
    Calls Ybaf.prog 5 #[.pointer (some ⟨bc, 0, none⟩), .pointer (some ⟨n, 0, none⟩), .int .i64 nx] w fun e w' => e = .returned (.int .i64 (s.put (iRune d.rg nx)).1) ∧ CPost B bc (s.put (iRune d.rg nx)).2 (ownC bc bm iv lv) w w' := by
  have c0 : w.cell? ⟨n, 0, none⟩ = some (.int .u8 3) := by rw [cell_of_heap hN.obj, ← hop]; rfl
  have c3 : w.cell? ⟨n, 3, none⟩ = some rv := by rw [cell_of_heap hN.obj]; rfl
  have HE := tuck (emit_any w B bc s iv lv bm (iRune d.rg nx) rv hC hN.rg hs)
  obtain ⟨ra, rl, rc, rfl⟩ := hN.rg.form
  clear hN hop hC
  go_enter Ybaf.func5, Ybaf.ntmps5
  go_wp2_with fail
  refine HE.out.mono ?_
  rintro e w' ⟨rfl, hp⟩
  have HP := tuck (hp)
  clear hp
  go_wp2
  go_ret
  exact ⟨rfl, HP.out⟩
/-- A new block of ranges, and the instruction that reads it. -/
theorem lit_emit (w : World) (B bc : Nat) (s : St) (iv lv : Value) (bm : Nat) (r nx : Int) (hC : CompAt w B bc s iv lv bm) (hs : s.ins.length < 1099511627776) :
    Calls Ybaf.prog 9 #[.pointer (some ⟨bc, 0, none⟩), .agg #[.int .u8 2, .int .u8 0, .int .i64 nx, .int .i64 0, .slice (some ⟨w.heap.size, 0, none⟩) 1 1, .int .i64 0, .int .i64 0]] (w.alloc (.cells #[.int .i32 r, .int .i32 r] 55)).drew
      fun e w' => e = .returned (.int .i64 (s.put (iRune [(r, r)] nx)).1) ∧ CPost B bc (s.put (iRune [(r, r)] nx)).2 (ownC bc bm iv lv) w w' := by
  have hc : Chg [] w (w.alloc (.cells #[.int .i32 r, .int .i32 r] 55)).drew := ((Chg.refl _ _).alloc _).drew
  have hC1 := hC.keep hc (by intro k hk; cases hk) (by simp)
  have hrg : RgAt (w.alloc (.cells #[.int .i32 r, .int .i32 r] 55)).drew (.slice (some ⟨w.heap.size, 0, none⟩) 1 1) [(r, r)] := by
    refine .inr ⟨w.heap.size, 1, #[.int .i32 r, .int .i32 r], rfl, by simp, by decide, ?_, ?_⟩
    · show (w.heap.push _)[w.heap.size]? = _; simp
    · intro j p hj
      match j, hj with
      | 0, hj => simp at hj; subst hj; exact ⟨rfl, rfl⟩
  refine (emit_any _ B bc s iv lv bm (iRune [(r, r)] nx) _ hC1 hrg hs).mono ?_
  rintro e w' ⟨rfl, hp⟩
  exact ⟨rfl, CPost.after (hc.wide (by simp)) (fun k hk => .inl hk) hp⟩
theorem compile_lit (w : World) (B n bc : Nat) (nx : Int) (s : St) (iv lv : Value) (bm : Nat) (hC : CompAt w B bc s iv lv bm) (hs : s.ins.length < 1099511627776) (d : Nd) (sv rv nm : Value) (hN : NodeAt w n d sv rv nm) (hop : d.op = 2) :
    Calls Ybaf.prog 5 #[.pointer (some ⟨bc, 0, none⟩), .pointer (some ⟨n, 0, none⟩), .int .i64 nx] w fun e w' => e = .returned (.int .i64 (s.put (iRune [(d.rune, d.rune)] nx)).1) ∧ CPost B bc (s.put (iRune [(d.rune, d.rune)] nx)).2 (ownC bc bm iv lv) w w' := by
  have c0 : w.cell? ⟨n, 0, none⟩ = some (.int .u8 2) := by rw [cell_of_heap hN.obj, ← hop]; rfl
  have c2 : w.cell? ⟨n, 2, none⟩ = some (.int .i32 d.rune) := by rw [cell_of_heap hN.obj]; rfl
  clear hop
  go_enter Ybaf.func5, Ybaf.ntmps5
  go_wp2_with fail
  have HE := tuck (lit_emit w B bc s iv lv bm d.rune nx hC hs)
  go_region_with (go_at_call 9; refine HE.out.mono ?_; rintro e w' ⟨rfl, hp⟩; have HP := tuck (hp); clear hp)
  all_goals
    go_wp2
    go_ret
    exact ⟨rfl, HP.out⟩
end Go.Proofs.YbulkdjmsFmt
