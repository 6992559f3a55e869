import Derived.Test.YbulkdjmsFmtCompileC
import Derived.Test.YbulkdjmsFmtCompileE
import Derived.Test.YbulkdjmsFmtRepeatB
import Derived.Test.YbulkdjmsFmtAnchor
/-! (*compiler).compile, whole -/
namespace Go.Proofs.YbulkdjmsFmt
open Go.RowKit Plain
set_option maxRecDepth 100000
theorem repeat_any (wt : World) (T : Nat → Nd) (f : Nat) (IH : CompileOk wt T f) (w : World) (n bc : Nat) (nx : Int) (s : St) (iv lv : Value) (bm : Nat) (hb : Below wt.heap.size wt w) (hT : TreeAt wt T (f + 1) n) (hC : CompAt w wt.heap.size bc s iv lv bm)
    (hG : Plain.Good (IsNode wt) s) (hs : sz s + bnd (f + 1) < 1099511627776) (hop : (T n).op = 9) :
    Calls Ybaf.prog 10 #[.pointer (some ⟨bc, 0, none⟩), .pointer (some ⟨n, 0, none⟩), .int .i64 nx] w fun e w' => e = .returned (.int .i64 (repeatF (comp T f) (T n) (sub0 (T n)) nx s).1) ∧ CPost wt.heap.size bc (repeatF (comp T f) (T n) (sub0 (T n)) nx s).2 (ownC bc bm iv lv) w w' := by
  by_cases h : (T n).mx < 0
  · exact repeat_loop wt T f IH w n bc nx s iv lv bm hb hT hC hG hs hop h
  · exact repeat_opt wt T f IH w n bc nx s iv lv bm hb hT hC hG hs hop h
theorem compile_rep (wt : World) (T : Nat → Nd) (f : Nat) (IH : CompileOk wt T f) (w : World) (n bc : Nat) (nx : Int) (s : St) (iv lv : Value) (bm : Nat) (hb : Below wt.heap.size wt w) (hT : TreeAt wt T (f + 1) n) (hC : CompAt w wt.heap.size bc s iv lv bm)
    (hG : Plain.Good (IsNode wt) s) (hs : sz s + bnd (f + 1) < 1099511627776) (hop : (T n).op = 9) :
    Calls Ybaf.prog 5 #[.pointer (some ⟨bc, 0, none⟩), .pointer (some ⟨n, 0, none⟩), .int .i64 nx] w fun e w' => e = .returned (.int .i64 (repeatF (comp T f) (T n) (sub0 (T n)) nx s).1) ∧ CPost wt.heap.size bc (repeatF (comp T f) (T n) (sub0 (T n)) nx s).2 (ownC bc bm iv lv) w w' := by
  have HR := tuck (repeat_any wt T f IH w n bc nx s iv lv bm hb hT hC hG hs hop)
  obtain ⟨⟨sv, rv, nm, hN⟩, _⟩ := hT
  have c0 : w.cell? ⟨n, 0, none⟩ = some (.int .u8 9) := by rw [cell_of_heap (hN.below hb).obj, ← hop]; rfl
  generalize repeatF (comp T f) (T n) (sub0 (T n)) nx s = p at *
  clear hN hb hC hG hs hop IH
  go_enter Ybaf.func5, Ybaf.ntmps5
  go_wp2_with fail
  refine HR.out.mono ?_
  rintro e w' ⟨rfl, hp⟩
  have HP := tuck hp
  clear hp
  go_wp2
  go_ret
  exact ⟨rfl, HP.out⟩
theorem compile_step (wt : World) (T : Nat → Nd) (hA : Anch wt) (f : Nat) (IH : CompileOk wt T f) : CompileOk wt T (f + 1) := by
  intro w n bc nx s iv lv bm hb hT hC hG hs
  have hsz : s.ins.length < 1099511627776 := by unfold sz at hs; omega
  have hT' := hT
  obtain ⟨⟨sv, rv, nm, hN⟩, _⟩ := hT'
  have hN' := hN.below hb
  have hop := hN.ok.op
  have c0 : w.cell? ⟨n, 0, none⟩ = some (.int .u8 (T n).op) := by rw [cell_of_heap hN'.obj]; rfl
  show Calls Ybaf.prog 5 _ w fun e w' => e = .returned (.int .i64 (stepF (comp T f) (T n) nx s).1) ∧ CPost wt.heap.size bc (stepF (comp T f) (T n) nx s).2 (ownC bc bm iv lv) w w'
  unfold stepF
  by_cases h1 : (T n).op = 1
  · rw [if_pos h1]
    refine (compile_empty w n bc nx (T n) sv rv nm hN' h1).mono ?_
    rintro e w' ⟨rfl, rfl⟩
    exact ⟨rfl, hC.same⟩
  rw [if_neg h1]
  by_cases h2 : (T n).op = 2
  · rw [if_pos h2]; exact compile_lit w wt.heap.size n bc nx s iv lv bm hC hsz (T n) sv rv nm hN' h2
  rw [if_neg h2]
  by_cases h3 : (T n).op = 3
  · rw [if_pos h3]; exact compile_class w wt.heap.size n bc nx s iv lv bm hC hsz (T n) sv rv nm hN' h3
  rw [if_neg h3]
  by_cases h8 : (T n).op = 8
  · rw [if_pos h8]; exact compile_cap wt T f IH w n bc nx s iv lv bm hb hT hC hG hs h8
  rw [if_neg h8]
  by_cases h10 : (T n).op = 10
  · rw [if_pos h10]; exact compile_cat wt T f IH w n bc nx s iv lv bm hb hT hC hG hs h10
  rw [if_neg h10]
  by_cases h11 : (T n).op = 11
  · rw [if_pos h11]; exact compile_alt wt T f IH w n bc nx s iv lv bm hb hT hC hG hs h11
  rw [if_neg h11]
  by_cases h9 : (T n).op = 9
  · rw [if_pos h9]; exact compile_rep wt T f IH w n bc nx s iv lv bm hb hT hC hG hs h9
  rw [if_neg h9]
  by_cases h12 : (T n).op = 12
  · rw [if_pos h12]; exact compile_look12 wt T f IH w n bc nx s iv lv bm hb hT hC hG hs h12
  rw [if_neg h12]
  by_cases h13 : (T n).op = 13
  · rw [if_pos h13]; exact compile_look13 wt T f IH w n bc nx s iv lv bm hb hT hC hG hs h13
  rw [if_neg h13]
  have hr : (T n).op = 4 ∨ (T n).op = 5 ∨ (T n).op = 6 ∨ (T n).op = 7 ∨ (T n).op = 14 ∨ (T n).op = 15 := by omega
  rcases hr with h | h | h | h | h | h
  · rw [h] at c0 ⊢; exact compile_anchor4 wt w hA hb n bc nx s iv lv bm hC hsz c0
  · rw [h] at c0 ⊢; exact compile_anchor5 wt w hA hb n bc nx s iv lv bm hC hsz c0
  · rw [h] at c0 ⊢; exact compile_anchor6 wt w hA hb n bc nx s iv lv bm hC hsz c0
  · rw [h] at c0 ⊢; exact compile_anchor7 wt w hA hb n bc nx s iv lv bm hC hsz c0
  · rw [h] at c0 ⊢; exact compile_anchor14 wt w hA hb n bc nx s iv lv bm hC hsz c0
  · rw [h] at c0 ⊢; exact compile_anchor15 wt w hA hb n bc nx s iv lv bm hC hsz c0
theorem compile_any (wt : World) (T : Nat → Nd) (hA : Anch wt) : ∀ f, CompileOk wt T f
  | 0 => fun _ _ _ _ _ _ _ _ _ hT => hT.elim
  | f + 1 => compile_step wt T hA f (compile_any wt T hA f)
end Go.Proofs.YbulkdjmsFmt
