import Derived.Test.YbulkdjmsFmtGenF
/-! (*zzs5530am).gen, whole -/
namespace Go.Proofs.YbulkdjmsFmt
open Go.RowKit Plain
set_option maxRecDepth 100000
theorem gen_anchor5 (w : World) (B n bc : Nat) (nx : Int) (s : St) (iv lv kv vv : Value) (hC : GenAt w B bc s iv lv kv vv) (hsz : s.ins.length < 1099511627776) (c0 : w.cell? ⟨n, 0, none⟩ = some (.int .u8 5)) :
    Calls Ybaf.prog 6 #[.pointer (some ⟨bc, 0, none⟩), .pointer (some ⟨n, 0, none⟩), .int .i64 nx] w fun e w' => e = .returned (.int .i64 (s.put (iAssert 2 nx)).1) ∧ GPost B bc (s.put (iAssert 2 nx)).2 (ownG bc iv lv kv vv) w w' := by
  have HE := tuck (anchor_any w B bc s iv lv kv vv hC hsz 2 nx)
  clear hC hsz
  go_enter Ybaf.func6, Ybaf.ntmps6
  go_wp2_with fail
  refine HE.out.mono ?_
  rintro e w' ⟨rfl, hp⟩
  have HP := tuck hp
  clear hp
  go_wp2
  go_ret
  exact ⟨rfl, HP.out⟩
theorem gen_anchor6 (w : World) (B n bc : Nat) (nx : Int) (s : St) (iv lv kv vv : Value) (hC : GenAt w B bc s iv lv kv vv) (hsz : s.ins.length < 1099511627776) (c0 : w.cell? ⟨n, 0, none⟩ = some (.int .u8 6)) :
    Calls Ybaf.prog 6 #[.pointer (some ⟨bc, 0, none⟩), .pointer (some ⟨n, 0, none⟩), .int .i64 nx] w fun e w' => e = .returned (.int .i64 (s.put (iAssert 3 nx)).1) ∧ GPost B bc (s.put (iAssert 3 nx)).2 (ownG bc iv lv kv vv) w w' := by
  have HE := tuck (anchor_any w B bc s iv lv kv vv hC hsz 3 nx)
  clear hC hsz
  go_enter Ybaf.func6, Ybaf.ntmps6
  go_wp2_with fail
  refine HE.out.mono ?_
  rintro e w' ⟨rfl, hp⟩
  have HP := tuck hp
  clear hp
  go_wp2
  go_ret
  exact ⟨rfl, HP.out⟩
theorem gen_anchor7 (w : World) (B n bc : Nat) (nx : Int) (s : St) (iv lv kv vv : Value) (hC : GenAt w B bc s iv lv kv vv) (hsz : s.ins.length < 1099511627776) (c0 : w.cell? ⟨n, 0, none⟩ = some (.int .u8 7)) :
    Calls Ybaf.prog 6 #[.pointer (some ⟨bc, 0, none⟩), .pointer (some ⟨n, 0, none⟩), .int .i64 nx] w fun e w' => e = .returned (.int .i64 (s.put (iAssert 4 nx)).1) ∧ GPost B bc (s.put (iAssert 4 nx)).2 (ownG bc iv lv kv vv) w w' := by
  have HE := tuck (anchor_any w B bc s iv lv kv vv hC hsz 4 nx)
  clear hC hsz
  go_enter Ybaf.func6, Ybaf.ntmps6
  go_wp2_with fail
  refine HE.out.mono ?_
  rintro e w' ⟨rfl, hp⟩
  have HP := tuck hp
  clear hp
  go_wp2
  go_ret
  exact ⟨rfl, HP.out⟩
theorem gen_anchor14 (w : World) (B n bc : Nat) (nx : Int) (s : St) (iv lv kv vv : Value) (hC : GenAt w B bc s iv lv kv vv) (hsz : s.ins.length < 1099511627776) (c0 : w.cell? ⟨n, 0, none⟩ = some (.int .u8 14)) :
    Calls Ybaf.prog 6 #[.pointer (some ⟨bc, 0, none⟩), .pointer (some ⟨n, 0, none⟩), .int .i64 nx] w fun e w' => e = .returned (.int .i64 (s.put (iAssert 7 nx)).1) ∧ GPost B bc (s.put (iAssert 7 nx)).2 (ownG bc iv lv kv vv) w w' := by
  have HE := tuck (anchor_any w B bc s iv lv kv vv hC hsz 7 nx)
  clear hC hsz
  go_enter Ybaf.func6, Ybaf.ntmps6
  go_wp2_with fail
  refine HE.out.mono ?_
  rintro e w' ⟨rfl, hp⟩
  have HP := tuck hp
  clear hp
  go_wp2
  go_ret
  exact ⟨rfl, HP.out⟩
theorem gen_anchor15 (w : World) (B n bc : Nat) (nx : Int) (s : St) (iv lv kv vv : Value) (hC : GenAt w B bc s iv lv kv vv) (hsz : s.ins.length < 1099511627776) (c0 : w.cell? ⟨n, 0, none⟩ = some (.int .u8 15)) :
    Calls Ybaf.prog 6 #[.pointer (some ⟨bc, 0, none⟩), .pointer (some ⟨n, 0, none⟩), .int .i64 nx] w fun e w' => e = .returned (.int .i64 (s.put (iAssert 8 nx)).1) ∧ GPost B bc (s.put (iAssert 8 nx)).2 (ownG bc iv lv kv vv) w w' := by
  have HE := tuck (anchor_any w B bc s iv lv kv vv hC hsz 8 nx)
  clear hC hsz
  go_enter Ybaf.func6, Ybaf.ntmps6
  go_wp2_with fail
  refine HE.out.mono ?_
  rintro e w' ⟨rfl, hp⟩
  have HP := tuck hp
  clear hp
  go_wp2
  go_ret
  exact ⟨rfl, HP.out⟩
theorem gen_step (wt : World) (T : Nat → Nd) (f : Nat) (IH : GenOk wt T f) : GenOk wt T (f + 1) := by
  intro w n bc nx s iv lv kv vv hb hT hC hG hs
  have hsz : s.ins.length < 1099511627776 := by unfold sz at hs; omega
  have hT' := hT
  obtain ⟨⟨sv, rv, nm, hN⟩, _⟩ := hT'
  have hN' := hN.below hb
  have hop := hN.ok.op
  have c0 : w.cell? ⟨n, 0, none⟩ = some (.int .u8 (T n).op) := by rw [cell_of_heap hN'.obj]; rfl
  show Calls Ybaf.prog 6 _ w fun e w' => e = .returned (.int .i64 (stepF (comp T f) (T n) nx s).1) ∧ GPost wt.heap.size bc (stepF (comp T f) (T n) nx s).2 (ownG bc iv lv kv vv) w w'
  unfold stepF
  by_cases h1 : (T n).op = 1
  · rw [if_pos h1]
    refine (gen_empty w n bc nx (T n) sv rv nm hN' h1).mono ?_
    rintro e w' ⟨rfl, rfl⟩
    exact ⟨rfl, hC.same⟩
  rw [if_neg h1]
  by_cases h2 : (T n).op = 2
  · rw [if_pos h2]; exact gen_lit w wt.heap.size n bc nx s iv lv kv vv hC hsz (T n) sv rv nm hN' h2
  rw [if_neg h2]
  by_cases h3 : (T n).op = 3
  · rw [if_pos h3]; exact gen_class w wt.heap.size n bc nx s iv lv kv vv hC hsz (T n) sv rv nm hN' h3
  rw [if_neg h3]
  by_cases h8 : (T n).op = 8
  · rw [if_pos h8]; exact gen_cap wt T f IH w n bc nx s iv lv kv vv hb hT hC hG hs h8
  rw [if_neg h8]
  by_cases h10 : (T n).op = 10
  · rw [if_pos h10]; exact gen_cat wt T f IH w n bc nx s iv lv kv vv hb hT hC hG hs h10
  rw [if_neg h10]
  by_cases h11 : (T n).op = 11
  · rw [if_pos h11]; exact gen_alt wt T f IH w n bc nx s iv lv kv vv hb hT hC hG hs h11
  rw [if_neg h11]
  by_cases h9 : (T n).op = 9
  · rw [if_pos h9]
    by_cases h : (T n).mx < 0
    · exact gen_rep_loop wt T f IH w n bc nx s iv lv kv vv hb hT hC hG hs h9 h
    · exact gen_rep_opt wt T f IH w n bc nx s iv lv kv vv hb hT hC hG hs h9 h
  rw [if_neg h9]
  by_cases h12 : (T n).op = 12
  · rw [if_pos h12]; exact gen_look12 wt T f IH w n bc nx s iv lv kv vv hb hT hC hG hs h12
  rw [if_neg h12]
  by_cases h13 : (T n).op = 13
  · rw [if_pos h13]; exact gen_look13 wt T f IH w n bc nx s iv lv kv vv hb hT hC hG hs h13
  rw [if_neg h13]
  have hr : (T n).op = 4 ∨ (T n).op = 5 ∨ (T n).op = 6 ∨ (T n).op = 7 ∨ (T n).op = 14 ∨ (T n).op = 15 := by omega
  rcases hr with h | h | h | h | h | h
  · rw [h] at c0 ⊢; exact gen_anchor4 w wt.heap.size n bc nx s iv lv kv vv hC hsz c0
  · rw [h] at c0 ⊢; exact gen_anchor5 w wt.heap.size n bc nx s iv lv kv vv hC hsz c0
  · rw [h] at c0 ⊢; exact gen_anchor6 w wt.heap.size n bc nx s iv lv kv vv hC hsz c0
  · rw [h] at c0 ⊢; exact gen_anchor7 w wt.heap.size n bc nx s iv lv kv vv hC hsz c0
  · rw [h] at c0 ⊢; exact gen_anchor14 w wt.heap.size n bc nx s iv lv kv vv hC hsz c0
  · rw [h] at c0 ⊢; exact gen_anchor15 w wt.heap.size n bc nx s iv lv kv vv hC hsz c0
theorem gen_any (wt : World) (T : Nat → Nd) : ∀ f, GenOk wt T f
  | 0 => fun _ _ _ _ _ _ _ _ _ _ hT => hT.elim
  | f + 1 => gen_step wt T f (gen_any wt T f)
end Go.Proofs.YbulkdjmsFmt
