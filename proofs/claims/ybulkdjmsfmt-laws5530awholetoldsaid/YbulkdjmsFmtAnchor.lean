import Derived.Test.YbulkdjmsFmtCompileB
import Derived.Deep.QuietTactic
import Derived.BigQuiet
/-! (*compiler).compile: anchors -/
namespace Go.Proofs.YbulkdjmsFmt
open Go.RowKit Plain
set_option maxRecDepth 100000
/-- The package-level table of anchors, as the program's text lays it, at block 0. -/
def Anch (wt : World) : Prop :=
  ∃ r, wt.cell? ⟨0, 0, none⟩ = some (.map (some r)) ∧ r < wt.heap.size ∧ ∀ W : World, W.heap[r]? = wt.heap[r]? → ∀ op : Int, (op = 4 ∨ op = 5 ∨ op = 6 ∨ op = 7 ∨ op = 14 ∨ op = 15) →
    (Instr.lookup 59 (.map (some r)) (.int .u8 op) true).run Ybaf.prog W = .ok (.tuple #[.int .u8 (asrt op), .bool true]) W
theorem emit_drew (w : World) (B bc : Nat) (s : St) (iv lv : Value) (bm : Nat) (i : Ins) (hi : i.rg = []) (hC : CompAt w B bc s iv lv bm) (hsz : s.ins.length < 1099511627776) (q : Nat) :
    Calls Ybaf.prog 9 #[.pointer (some ⟨bc, 0, none⟩), .agg #[.int .u8 i.op, .int .u8 i.asr, .int .i64 i.nx, .int .i64 i.al, .slice none 0 0, .int .i64 i.sl, .int .i64 i.lb]] (w.drewN q)
      fun e w' => e = .returned (.int .i64 (s.put i).1) ∧ CPost B bc (s.put i).2 (ownC bc bm iv lv) w w' := by
  have hc : Chg [] w (w.drewN q) := (Chg.refl _ _).drewN q
  refine (emit_any _ B bc s iv lv bm i (.slice none 0 0) (hC.keep hc (by intro k hk; cases hk) (by simp)) (by rw [hi]; exact rgNil _) hsz).mono ?_
  rintro e w' ⟨rfl, hp⟩
  exact ⟨rfl, CPost.after (hc.wide (by simp)) (fun k hk => .inl hk) hp⟩
theorem compile_anchor4 (wt w : World) (hA : Anch wt) (hb : Below wt.heap.size wt w) (n bc : Nat) (nx : Int) (s : St) (iv lv : Value) (bm : Nat) (hC : CompAt w wt.heap.size bc s iv lv bm) (hsz : s.ins.length < 1099511627776) (c0 : w.cell? ⟨n, 0, none⟩ = some (.int .u8 4)) :
    Calls Ybaf.prog 5 #[.pointer (some ⟨bc, 0, none⟩), .pointer (some ⟨n, 0, none⟩), .int .i64 nx] w fun e w' => e = .returned (.int .i64 (s.put (iAssert 1 nx)).1) ∧ CPost wt.heap.size bc (s.put (iAssert 1 nx)).2 (ownC bc bm iv lv) w w' := by
  obtain ⟨r, h0, hr, hlk0⟩ := hA
  have hg : w.cell? ⟨0, 0, none⟩ = some (.map (some r)) := (hb.cell (p := ⟨0, 0, none⟩) (World.block_lt_of_cell? _ _ h0)).trans h0
  have hlk : ∀ q, (Instr.lookup 59 (.map (some r)) (.int .u8 4) true).run Ybaf.prog (w.drewN q) = .ok (.tuple #[.int .u8 1, .bool true]) (w.drewN q) := fun q => hlk0 (w.drewN q) (hb.block r hr) 4 (by omega)
  have HE := tuck (emit_drew w wt.heap.size bc s iv lv bm (iAssert 1 nx) rfl hC hsz)
  clear hlk0 h0 hr hC hb hsz
  go_enter Ybaf.func5, Ybaf.ntmps5
  go_wp2
  go_quiet (fail)
  go_wp2_with fail
  refine (HE.out _).mono ?_
  rintro e w' ⟨rfl, hp⟩
  have HP := tuck hp
  clear hp
  go_wp2
  go_ret
  exact ⟨rfl, HP.out⟩
theorem compile_anchor5 (wt w : World) (hA : Anch wt) (hb : Below wt.heap.size wt w) (n bc : Nat) (nx : Int) (s : St) (iv lv : Value) (bm : Nat) (hC : CompAt w wt.heap.size bc s iv lv bm) (hsz : s.ins.length < 1099511627776) (c0 : w.cell? ⟨n, 0, none⟩ = some (.int .u8 5)) :
    Calls Ybaf.prog 5 #[.pointer (some ⟨bc, 0, none⟩), .pointer (some ⟨n, 0, none⟩), .int .i64 nx] w fun e w' => e = .returned (.int .i64 (s.put (iAssert 2 nx)).1) ∧ CPost wt.heap.size bc (s.put (iAssert 2 nx)).2 (ownC bc bm iv lv) w w' := by
  obtain ⟨r, h0, hr, hlk0⟩ := hA
  have hg : w.cell? ⟨0, 0, none⟩ = some (.map (some r)) := (hb.cell (p := ⟨0, 0, none⟩) (World.block_lt_of_cell? _ _ h0)).trans h0
  have hlk : ∀ q, (Instr.lookup 59 (.map (some r)) (.int .u8 5) true).run Ybaf.prog (w.drewN q) = .ok (.tuple #[.int .u8 2, .bool true]) (w.drewN q) := fun q => hlk0 (w.drewN q) (hb.block r hr) 5 (by omega)
  have HE := tuck (emit_drew w wt.heap.size bc s iv lv bm (iAssert 2 nx) rfl hC hsz)
  clear hlk0 h0 hr hC hb hsz
  go_enter Ybaf.func5, Ybaf.ntmps5
  go_wp2
  go_quiet (fail)
  go_wp2_with fail
  refine (HE.out _).mono ?_
  rintro e w' ⟨rfl, hp⟩
  have HP := tuck hp
  clear hp
  go_wp2
  go_ret
  exact ⟨rfl, HP.out⟩
theorem compile_anchor6 (wt w : World) (hA : Anch wt) (hb : Below wt.heap.size wt w) (n bc : Nat) (nx : Int) (s : St) (iv lv : Value) (bm : Nat) (hC : CompAt w wt.heap.size bc s iv lv bm) (hsz : s.ins.length < 1099511627776) (c0 : w.cell? ⟨n, 0, none⟩ = some (.int .u8 6)) :
    Calls Ybaf.prog 5 #[.pointer (some ⟨bc, 0, none⟩), .pointer (some ⟨n, 0, none⟩), .int .i64 nx] w fun e w' => e = .returned (.int .i64 (s.put (iAssert 3 nx)).1) ∧ CPost wt.heap.size bc (s.put (iAssert 3 nx)).2 (ownC bc bm iv lv) w w' := by
  obtain ⟨r, h0, hr, hlk0⟩ := hA
  have hg : w.cell? ⟨0, 0, none⟩ = some (.map (some r)) := (hb.cell (p := ⟨0, 0, none⟩) (World.block_lt_of_cell? _ _ h0)).trans h0
  have hlk : ∀ q, (Instr.lookup 59 (.map (some r)) (.int .u8 6) true).run Ybaf.prog (w.drewN q) = .ok (.tuple #[.int .u8 3, .bool true]) (w.drewN q) := fun q => hlk0 (w.drewN q) (hb.block r hr) 6 (by omega)
  have HE := tuck (emit_drew w wt.heap.size bc s iv lv bm (iAssert 3 nx) rfl hC hsz)
  clear hlk0 h0 hr hC hb hsz
  go_enter Ybaf.func5, Ybaf.ntmps5
  go_wp2
  go_quiet (fail)
  go_wp2_with fail
  refine (HE.out _).mono ?_
  rintro e w' ⟨rfl, hp⟩
  have HP := tuck hp
  clear hp
  go_wp2
  go_ret
  exact ⟨rfl, HP.out⟩
theorem compile_anchor7 (wt w : World) (hA : Anch wt) (hb : Below wt.heap.size wt w) (n bc : Nat) (nx : Int) (s : St) (iv lv : Value) (bm : Nat) (hC : CompAt w wt.heap.size bc s iv lv bm) (hsz : s.ins.length < 1099511627776) (c0 : w.cell? ⟨n, 0, none⟩ = some (.int .u8 7)) :
    Calls Ybaf.prog 5 #[.pointer (some ⟨bc, 0, none⟩), .pointer (some ⟨n, 0, none⟩), .int .i64 nx] w fun e w' => e = .returned (.int .i64 (s.put (iAssert 4 nx)).1) ∧ CPost wt.heap.size bc (s.put (iAssert 4 nx)).2 (ownC bc bm iv lv) w w' := by
  obtain ⟨r, h0, hr, hlk0⟩ := hA
  have hg : w.cell? ⟨0, 0, none⟩ = some (.map (some r)) := (hb.cell (p := ⟨0, 0, none⟩) (World.block_lt_of_cell? _ _ h0)).trans h0
  have hlk : ∀ q, (Instr.lookup 59 (.map (some r)) (.int .u8 7) true).run Ybaf.prog (w.drewN q) = .ok (.tuple #[.int .u8 4, .bool true]) (w.drewN q) := fun q => hlk0 (w.drewN q) (hb.block r hr) 7 (by omega)
  have HE := tuck (emit_drew w wt.heap.size bc s iv lv bm (iAssert 4 nx) rfl hC hsz)
  clear hlk0 h0 hr hC hb hsz
  go_enter Ybaf.func5, Ybaf.ntmps5
  go_wp2
  go_quiet (fail)
  go_wp2_with fail
  refine (HE.out _).mono ?_
  rintro e w' ⟨rfl, hp⟩
  have HP := tuck hp
  clear hp
  go_wp2
  go_ret
  exact ⟨rfl, HP.out⟩
theorem compile_anchor14 (wt w : World) (hA : Anch wt) (hb : Below wt.heap.size wt w) (n bc : Nat) (nx : Int) (s : St) (iv lv : Value) (bm : Nat) (hC : CompAt w wt.heap.size bc s iv lv bm) (hsz : s.ins.length < 1099511627776) (c0 : w.cell? ⟨n, 0, none⟩ = some (.int .u8 14)) :
    Calls Ybaf.prog 5 #[.pointer (some ⟨bc, 0, none⟩), .pointer (some ⟨n, 0, none⟩), .int .i64 nx] w fun e w' => e = .returned (.int .i64 (s.put (iAssert 7 nx)).1) ∧ CPost wt.heap.size bc (s.put (iAssert 7 nx)).2 (ownC bc bm iv lv) w w' := by
  obtain ⟨r, h0, hr, hlk0⟩ := hA
  have hg : w.cell? ⟨0, 0, none⟩ = some (.map (some r)) := (hb.cell (p := ⟨0, 0, none⟩) (World.block_lt_of_cell? _ _ h0)).trans h0
  have hlk : ∀ q, (Instr.lookup 59 (.map (some r)) (.int .u8 14) true).run Ybaf.prog (w.drewN q) = .ok (.tuple #[.int .u8 7, .bool true]) (w.drewN q) := fun q => hlk0 (w.drewN q) (hb.block r hr) 14 (by omega)
  have HE := tuck (emit_drew w wt.heap.size bc s iv lv bm (iAssert 7 nx) rfl hC hsz)
  clear hlk0 h0 hr hC hb hsz
  go_enter Ybaf.func5, Ybaf.ntmps5
  go_wp2
  go_quiet (fail)
  go_wp2_with fail
  refine (HE.out _).mono ?_
  rintro e w' ⟨rfl, hp⟩
  have HP := tuck hp
  clear hp
  go_wp2
  go_ret
  exact ⟨rfl, HP.out⟩
theorem compile_anchor15 (wt w : World) (hA : Anch wt) (hb : Below wt.heap.size wt w) (n bc : Nat) (nx : Int) (s : St) (iv lv : Value) (bm : Nat) (hC : CompAt w wt.heap.size bc s iv lv bm) (hsz : s.ins.length < 1099511627776) (c0 : w.cell? ⟨n, 0, none⟩ = some (.int .u8 15)) :
    Calls Ybaf.prog 5 #[.pointer (some ⟨bc, 0, none⟩), .pointer (some ⟨n, 0, none⟩), .int .i64 nx] w fun e w' => e = .returned (.int .i64 (s.put (iAssert 8 nx)).1) ∧ CPost wt.heap.size bc (s.put (iAssert 8 nx)).2 (ownC bc bm iv lv) w w' := by
  obtain ⟨r, h0, hr, hlk0⟩ := hA
  have hg : w.cell? ⟨0, 0, none⟩ = some (.map (some r)) := (hb.cell (p := ⟨0, 0, none⟩) (World.block_lt_of_cell? _ _ h0)).trans h0
  have hlk : ∀ q, (Instr.lookup 59 (.map (some r)) (.int .u8 15) true).run Ybaf.prog (w.drewN q) = .ok (.tuple #[.int .u8 8, .bool true]) (w.drewN q) := fun q => hlk0 (w.drewN q) (hb.block r hr) 15 (by omega)
  have HE := tuck (emit_drew w wt.heap.size bc s iv lv bm (iAssert 8 nx) rfl hC hsz)
  clear hlk0 h0 hr hC hb hsz
  go_enter Ybaf.func5, Ybaf.ntmps5
  go_wp2
  go_quiet (fail)
  go_wp2_with fail
  refine (HE.out _).mono ?_
  rintro e w' ⟨rfl, hp⟩
  have HP := tuck hp
  clear hp
  go_wp2
  go_ret
  exact ⟨rfl, HP.out⟩
end Go.Proofs.YbulkdjmsFmt
