import Derived.Test.YbulkdjmsFmtBuild
import Derived.Test.YbulkdjmsFmtGenLook
import Derived.LoopTactic
import Derived.Outline
import Derived.Deep.QuietTactic
import Derived.BigQuiet
/-! slices.Equal, and zzs5530aeq. -/
namespace Go.Proofs.YbulkdjmsFmt
open Go.RowKit Plain
set_option maxRecDepth 100000
set_option maxHeartbeats 400000 in
theorem eqrg (w : World) (a1 a2 : Option Addr) (n c1 c2 : Nat) (hn : n ≤ 9223372036854775807)
    (HX : Hid (∀ W, Chg [] w W → ∀ j, j < n → ∃ g1 g2 x y, a1 = some ⟨g1, 0, none⟩ ∧ a2 = some ⟨g2, 0, none⟩ ∧ W.cell? ⟨g1, j * 2, none⟩ = some (.int .i32 x) ∧ W.cell? ⟨g1, j * 2 + 1, none⟩ = some (.int .i32 y) ∧ W.cell? ⟨g2, j * 2, none⟩ = some (.int .i32 x) ∧ W.cell? ⟨g2, j * 2 + 1, none⟩ = some (.int .i32 y))) :
    Calls Ybaf.prog 18 #[.slice a1 n c1, .slice a2 n c2] w fun e w' => e = .returned (.bool true) ∧ Chg [] w w' := by
  go_enter Ybaf.func18, Ybaf.ntmps18
  go_wp2
  go_loopw [13] (fun i wr => ∃ j : Nat, j ≤ n ∧ i = .int .i64 j ∧ Chg [] w wr) (fun i _ => n - (intOf i).toNat)
  case atStart => exact ⟨0, Nat.zero_le _, rfl, Chg.refl _ _⟩
  case round =>
    obtain ⟨j, hj, rfl, hC⟩ := hrel
    by_cases hjn : j < n
    · have hjI : (j : Int) < (n : Int) := by omega
      obtain ⟨g1, g2, x, y, rfl, rfl, q1, q2, q3, q4⟩ := HX.out wr hC j hjn
      have HC := tuck hC
      clear hC
      go_wp2_with fail
      go_quiet (fail)
      go_wp2
      exact ⟨⟨j + 1, hjn, by go_num, HC.out.drewN _⟩, by simp [intOf]; omega⟩
    · have hjI : ¬ (j : Int) < (n : Int) := by omega
      go_wp2
      go_ret
      exact ⟨rfl, hC⟩
set_option maxHeartbeats 400000 in
theorem eqlb (w : World) (a1 a2 : Option Addr) (n c1 c2 : Nat) (hn : n ≤ 9223372036854775807)
    (HX : Hid (∀ W, Chg [] w W → ∀ j, j < n → ∃ g1 g2 x, a1 = some ⟨g1, 0, none⟩ ∧ a2 = some ⟨g2, 0, none⟩ ∧ W.cell? ⟨g1, j, none⟩ = some (.int .i64 x) ∧ W.cell? ⟨g2, j, none⟩ = some (.int .i64 x))) :
    Calls Ybaf.prog 8 #[.slice a1 n c1, .slice a2 n c2] w fun e w' => e = .returned (.bool true) ∧ Chg [] w w' := by
  go_enter Ybaf.func8, Ybaf.ntmps8
  go_wp2
  go_loopw [13] (fun i wr => ∃ j : Nat, j ≤ n ∧ i = .int .i64 j ∧ Chg [] w wr) (fun i _ => n - (intOf i).toNat)
  case atStart => exact ⟨0, Nat.zero_le _, rfl, Chg.refl _ _⟩
  case round =>
    obtain ⟨j, hj, rfl, hC⟩ := hrel
    by_cases hjn : j < n
    · have hjI : (j : Int) < (n : Int) := by omega
      obtain ⟨g1, g2, x, rfl, rfl, q1, q2⟩ := HX.out wr hC j hjn
      have HC := tuck hC
      clear hC
      go_wp2_with fail
      go_quiet (fail)
      go_wp2
      exact ⟨⟨j + 1, hjn, by go_num, HC.out.drewN _⟩, by simp [intOf]; omega⟩
    · have hjI : ¬ (j : Int) < (n : Int) := by omega
      go_wp2
      go_ret
      exact ⟨rfl, hC⟩
set_option maxHeartbeats 1000000 in
theorem eqins (w : World) (a1 a2 : Option Addr) (n c1 c2 : Nat) (hn : n ≤ 9223372036854775807)
    (HX : Hid (∀ W, Chg [] w W → ∀ j, j < n → ∃ g1 g2 x0 x1 x2 x3 x5 x6 r1 r2 m k1 k2, a1 = some ⟨g1, 0, none⟩ ∧ a2 = some ⟨g2, 0, none⟩ ∧
      (W.cell? ⟨g1, j * 7, none⟩ = some (.int .u8 x0) ∧ W.cell? ⟨g1, j * 7 + 1, none⟩ = some (.int .u8 x1) ∧ W.cell? ⟨g1, j * 7 + 2, none⟩ = some (.int .i64 x2) ∧ W.cell? ⟨g1, j * 7 + 3, none⟩ = some (.int .i64 x3) ∧ W.cell? ⟨g1, j * 7 + 4, none⟩ = some (.slice r1 m k1) ∧ W.cell? ⟨g1, j * 7 + 5, none⟩ = some (.int .i64 x5) ∧ W.cell? ⟨g1, j * 7 + 6, none⟩ = some (.int .i64 x6)) ∧
      (W.cell? ⟨g2, j * 7, none⟩ = some (.int .u8 x0) ∧ W.cell? ⟨g2, j * 7 + 1, none⟩ = some (.int .u8 x1) ∧ W.cell? ⟨g2, j * 7 + 2, none⟩ = some (.int .i64 x2) ∧ W.cell? ⟨g2, j * 7 + 3, none⟩ = some (.int .i64 x3) ∧ W.cell? ⟨g2, j * 7 + 4, none⟩ = some (.slice r2 m k2) ∧ W.cell? ⟨g2, j * 7 + 5, none⟩ = some (.int .i64 x5) ∧ W.cell? ⟨g2, j * 7 + 6, none⟩ = some (.int .i64 x6)) ∧
      Hid (∀ W', Chg [] w W' → Calls Ybaf.prog 18 #[.slice r1 m k1, .slice r2 m k2] W' fun e w' => e = .returned (.bool true) ∧ Chg [] W' w'))) :
    Calls Ybaf.prog 7 #[.slice a1 n c1, .slice a2 n c2] w fun e w' => e = .returned (.bool true) ∧ Chg [] w w' := by
  go_enter Ybaf.func7, Ybaf.ntmps7
  go_wp2
  go_loopw [15] (fun i wr => ∃ j : Nat, j ≤ n ∧ i = .int .i64 j ∧ Chg [] w wr) (fun i _ => n - (intOf i).toNat)
  case atStart => exact ⟨0, Nat.zero_le _, rfl, Chg.refl _ _⟩
  case round =>
    obtain ⟨j, hj, rfl, hC⟩ := hrel
    by_cases hjn : j < n
    · have hjI : (j : Int) < (n : Int) := by omega
      obtain ⟨g1, g2, x0, x1, x2, x3, x5, x6, r1, r2, m, k1, k2, rfl, rfl, ⟨p0, p1, p2, p3, p4, p5, p6⟩, ⟨q0, q1, q2, q3, q4, q5, q6⟩, HK⟩ := HX.out wr hC j hjn
      have lt1 : g1 < wr.heap.size := World.block_lt_of_cell? _ _ p0
      have lt2 : g2 < wr.heap.size := World.block_lt_of_cell? _ _ q0
      have HC := tuck hC
      clear hC
      go_wp2_with fail
      refine (HK.out _ ((HC.out.alloc _).alloc _)).mono ?_
      rintro e w1 ⟨rfl, hp⟩
      have HE := tuck (((HC.out.alloc _).alloc _).trans hp (by simp))
      clear hp
      go_wp2
      exact ⟨⟨j + 1, hjn, by go_num, HE.out⟩, by simp [intOf]; omega⟩
    · have hjI : ¬ (j : Int) < (n : Int) := by omega
      go_wp2
      go_ret
      exact ⟨rfl, hC⟩
theorem RgAt.cells {w : World} {rv : Value} {rs : List (Int × Int)} (h : RgAt w rv rs) : ∃ a c, rv = .slice a rs.length c ∧ rs.length ≤ maxLen ∧ ∀ W, Chg [] w W → ∀ j p, rs[j]? = some p → ∃ g, a = some ⟨g, 0, none⟩ ∧ W.cell? ⟨g, j * 2, none⟩ = some (.int .i32 p.1) ∧ W.cell? ⟨g, j * 2 + 1, none⟩ = some (.int .i32 p.2) := by
  rcases h with ⟨rfl, rfl⟩ | ⟨g, cap, cur, rfl, h1, h2, hg, h3⟩
  · exact ⟨none, 0, rfl, Nat.zero_le _, fun W _ j p hj => by simp at hj⟩
  · refine ⟨_, cap, rfl, by omega, fun W hC j p hj => ?_⟩
    have hg' := (hC.block g (lt_of_heap hg) (by simp)).trans hg
    exact ⟨g, rfl, by rw [cell_of_heap hg']; exact (h3 j p hj).1, by rw [cell_of_heap hg']; exact (h3 j p hj).2⟩
theorem eqrg_of {w : World} {rv1 rv2 : Value} {rs : List (Int × Int)} (h1 : RgAt w rv1 rs) (h2 : RgAt w rv2 rs) :
    ∃ r1 r2 m k1 k2, rv1 = .slice r1 m k1 ∧ rv2 = .slice r2 m k2 ∧ Hid (∀ W', Chg [] w W' → Calls Ybaf.prog 18 #[.slice r1 m k1, .slice r2 m k2] W' fun e w' => e = .returned (.bool true) ∧ Chg [] W' w') := by
  obtain ⟨a1, c1, rfl, hl, x1⟩ := h1.cells
  obtain ⟨a2, c2, rfl, _, x2⟩ := h2.cells
  refine ⟨_, _, _, _, _, rfl, rfl, tuck fun W' hW' => eqrg W' a1 a2 rs.length c1 c2 (by unfold maxLen at hl; omega) (tuck fun W hW j hj => ?_)⟩
  have hC : Chg [] w W := hW'.trans hW (by simp)
  obtain ⟨g1, e1, y1, z1⟩ := x1 W hC j _ (List.getElem?_eq_getElem hj)
  obtain ⟨g2, e2, y2, z2⟩ := x2 W hC j _ (List.getElem?_eq_getElem hj)
  exact ⟨g1, g2, _, _, e1, e2, y1, z1, y2, z2⟩
theorem row_cells {w : World} {B size : Nat} {e : TypeId} {v : Value} {n : Nat} {xs : List Value} (h : w.ownsRow B e size v n xs) : ∃ a c, v = .slice a n c ∧ n ≤ maxLen ∧ ∀ W, Chg [] w W → ∀ j u, xs[j]? = some u → ∃ g, a = some ⟨g, 0, none⟩ ∧ W.cell? ⟨g, j, none⟩ = some u := by
  rcases h with ⟨h0, ⟨rfl, rfl⟩ | ⟨g, cap, cur, rfl, _, hg, h1, h2, h3, h4⟩⟩
  · refine ⟨none, 0, rfl, Nat.zero_le _, fun W _ j p hj => ?_⟩
    have : xs = [] := List.eq_nil_of_length_eq_zero (by omega)
    subst this
    simp at hj
  · refine ⟨_, cap, rfl, by omega, fun W hC j u hj => ⟨g, rfl, ?_⟩⟩
    have hg' := (hC.block g (lt_of_heap hg) (by simp)).trans hg
    have hlt : j < xs.length := (List.getElem?_eq_some_iff.1 hj).1
    rw [cell_of_heap hg', ← Array.getElem?_toList]
    rw [← h4, List.getElem?_take, if_pos (by omega)] at hj
    exact hj
theorem eqlb_of {w : World} {B1 B2 : Nat} {v1 v2 : Value} {l : List Int} (h1 : w.ownsRow B1 43 1 v1 l.length (l.map (Value.int .i64))) (h2 : w.ownsRow B2 43 1 v2 l.length (l.map (Value.int .i64))) :
    Calls Ybaf.prog 8 #[v1, v2] w fun e w' => e = .returned (.bool true) ∧ Chg [] w w' := by
  obtain ⟨a1, c1, rfl, hl, x1⟩ := row_cells h1
  obtain ⟨a2, c2, rfl, _, x2⟩ := row_cells h2
  refine eqlb w a1 a2 l.length c1 c2 (by unfold maxLen at hl; omega) (tuck fun W hW j hj => ?_)
  have hm : (l.map (Value.int .i64))[j]? = some (.int .i64 l[j]) := by simp [hj]
  obtain ⟨g1, e1, y1⟩ := x1 W hW j _ hm
  obtain ⟨g2, e2, y2⟩ := x2 W hW j _ hm
  exact ⟨g1, g2, _, e1, e2, y1, y2⟩
theorem eqins_of {w : World} {B1 B2 : Nat} {v1 v2 : Value} {l : List Ins} (h1 : InsAt w B1 v1 l) (h2 : InsAt w B2 v2 l) :
    Calls Ybaf.prog 7 #[v1, v2] w fun e w' => e = .returned (.bool true) ∧ Chg [] w w' := by
  obtain ⟨rvs1, l1, o1, t1⟩ := h1
  obtain ⟨rvs2, l2, o2, t2⟩ := h2
  obtain ⟨a1, c1, rfl, hl, x1⟩ := row_cells o1
  obtain ⟨a2, c2, rfl, _, x2⟩ := row_cells o2
  refine eqins w a1 a2 l.length c1 c2 (by unfold maxLen at hl; omega) (tuck fun W hW j hj => ?_)
  have hi := List.getElem?_eq_getElem hj
  have hr1 := List.getElem?_eq_getElem (show j < rvs1.length by omega)
  have hr2 := List.getElem?_eq_getElem (show j < rvs2.length by omega)
  obtain ⟨r1, r2, m, k1, k2, e1, e2, hc⟩ := eqrg_of (t1 j _ _ hr1 hi) (t2 j _ _ hr2 hi)
  rw [e1] at hr1
  rw [e2] at hr2
  have f1 : ∀ k u, k < 7 → (cellsOf l[j] (.slice r1 m k1))[k]? = some u → ∃ g, a1 = some ⟨g, 0, none⟩ ∧ W.cell? ⟨g, j * 7 + k, none⟩ = some u := fun k u hk hu => x1 W hW _ _ ((flat_get hi hr1 hk).trans hu)
  have f2 : ∀ k u, k < 7 → (cellsOf l[j] (.slice r2 m k2))[k]? = some u → ∃ g, a2 = some ⟨g, 0, none⟩ ∧ W.cell? ⟨g, j * 7 + k, none⟩ = some u := fun k u hk hu => x2 W hW _ _ ((flat_get hi hr2 hk).trans hu)
  obtain ⟨g1, rfl, p0⟩ := f1 0 _ (by omega) rfl
  obtain ⟨g2, rfl, q0⟩ := f2 0 _ (by omega) rfl
  have f1' : ∀ k u, k < 7 → (cellsOf l[j] (.slice r1 m k1))[k]? = some u → W.cell? ⟨g1, j * 7 + k, none⟩ = some u := fun k u hk hu => by
    obtain ⟨g, hg, h⟩ := f1 k u hk hu; cases hg; exact h
  have f2' : ∀ k u, k < 7 → (cellsOf l[j] (.slice r2 m k2))[k]? = some u → W.cell? ⟨g2, j * 7 + k, none⟩ = some u := fun k u hk hu => by
    obtain ⟨g, hg, h⟩ := f2 k u hk hu; cases hg; exact h
  exact ⟨g1, g2, _, _, _, _, _, _, r1, r2, m, k1, k2, rfl, rfl, ⟨p0, f1' 1 _ (by omega) rfl, f1' 2 _ (by omega) rfl, f1' 3 _ (by omega) rfl, f1' 4 _ (by omega) rfl, f1' 5 _ (by omega) rfl, f1' 6 _ (by omega) rfl⟩,
    ⟨q0, f2' 1 _ (by omega) rfl, f2' 2 _ (by omega) rfl, f2' 3 _ (by omega) rfl, f2' 4 _ (by omega) rfl, f2' 5 _ (by omega) rfl, f2' 6 _ (by omega) rfl⟩, hc⟩
end Go.Proofs.YbulkdjmsFmt
