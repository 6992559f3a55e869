import Derived.Test.YbulkdjowBig
import Derived.WalkSmall
namespace Go.Proofs.Ybulkdjow.lawS5534CWhole
open Go.RowKit Plain
theorem info5 : (Yba.prog.info? 5).map (fun i => (i.zero, i.size, i.bytes)) = some (some (.int .u8 0), 1, 1) := by kernel_rfl
theorem walk_long (x : Addr) (len cap : Nat) (w : World) (h : 1048576 < len) :
    Calls Yba.prog 3 #[.slice (some x) len cap] w fun e w' => e = .returned (.bool true) ∧ Below w.heap.size w w' := by
  go_enter Yba.func3, Yba.ntmps3
  go_wp2
  go_ret
  exact ⟨rfl, Below.refl _ _⟩
theorem walk_nil (w : World) :
    Calls Yba.prog 3 #[.slice none 0 0] w fun e w' => e = .returned (.bool true) ∧ Below w.heap.size w w' := by
  have hq := fun (wx : World) => run_neq_slice_nil_any (P := Yba.prog) wx 22 5 none 0 0 0 0 Yba.underlying22
  have he := fun (wx : World) => Lib.run_eql_slice_nil (P := Yba.prog) wx 22 5 none 0 0 0 0 Yba.underlying22
  go_enter Yba.func3, Yba.ntmps3
  go_wp2_with (go_at_call 4; refine (bigNil _).mono ?_; rintro e w' ⟨rfl, rfl⟩)
  go_loop [8, 9] (fun t i => i = .int .i64 0 ∧ t = .int .u64 0) (fun _ _ => 0)
  case atStart => exact ⟨rfl, rfl⟩
  case round =>
    obtain ⟨rfl, rfl⟩ := hrel
    go_wp2
    go_loop [11] (fun i => i = .int .i64 0) (fun _ => 0)
    case atStart => rfl
    case round =>
      obtain rfl := hrel
      go_wp2
      go_ret
      exact ⟨rfl, Below.refl _ _⟩
/-- The world in the middle of the first loop: the first k bytes lie in the new row. -/
structure Copied (w wr : World) (zs : List Int) (len k : Nat) : Prop where
  bel : Below w.heap.size w wr
  done : ∀ j, j < k → wr.cell? ⟨w.heap.size, j, none⟩ = some (.int .u8 (zs.getD j 0))
  any : ∀ j, j < len → ∃ v, wr.cell? ⟨w.heap.size, j, none⟩ = some v
  fz : ∀ j, wr.frozen? ⟨w.heap.size, j, none⟩ = false
theorem Copied.start (w : World) (zs : List Int) (len : Nat) : Copied w (w.alloc (.cells (madeCells #[.int .u8 0] len) 5)) zs len 0 := by
  refine ⟨(Below.refl _ _).alloc (Nat.le_refl _) _, fun j hj => by omega, fun j hj => ⟨.int .u8 0, ?_⟩, fun j => World.frozen?_alloc_new _ _ _ _⟩
  have h := (World.rowIs_made w (.int .u8 0) len 5)
  exact h.cell hj
theorem Copied.step {w wr : World} {zs : List Int} {len k : Nat} (h : Copied w wr zs len k) (hk : k < len) : Copied w (wr.setCell ⟨w.heap.size, k, none⟩ (.int .u8 (zs.getD k 0))) zs len (k + 1) := by
  refine ⟨h.bel.setCell (Nat.le_refl _) _, fun j hj => ?_, fun j hj => ?_, fun j => by rw [World.frozen?_setCell]; exact h.fz j⟩
  · obtain ⟨v, hv⟩ := h.any k hk
    by_cases e : j = k
    · subst e; exact World.cell?_setCell_same _ _ _ hv
    · rw [World.cell?_setCell_other _ _ _ _ (by simp)]; exact h.done j (by omega)
  · obtain ⟨v, hv⟩ := h.any j hj
    exact cell?_setCell_some hv
theorem part_round' (zs : List Int) (len s k : Nat) (h1 : s ≤ k) (h2 : k < len) (h3 : len ≤ zs.length) (h4 : len ≤ s + 8) (hb : Bytes zs) :
    bits .or .u64 (Plain.part ((zs.take len).drop s) (k - s)) (IntKind.u64.wrap (IntKind.u64.wrap (zs[k]?.getD 0) * 2 ^ (8 * (len - 1 - k)))) = Plain.part ((zs.take len).drop s) (k + 1 - s) := by
  have hl : ((zs.take len).drop s).length = len - s := by simp; omega
  have hg : ((zs.take len).drop s).getD (k - s) 0 = zs[k]?.getD 0 := by
    rw [List.getD_eq_getElem?_getD, List.getElem?_drop, List.getElem?_take]
    rw [show s + (k - s) = k from by omega, if_pos h2]
  have h := part_round ((zs.take len).drop s) (k - s) ((hb.take len).drop s) (by omega) (by omega)
  rw [hg, hl, show len - s - 1 - (k - s) = len - 1 - k from by omega, show k - s + 1 = k + 1 - s from by omega] at h
  have hbk : 0 ≤ zs[k]?.getD 0 ∧ zs[k]?.getD 0 < 256 := by
    have e : zs[k]?.getD 0 = zs[k]'(by omega) := by simp [show k < zs.length by omega]
    rw [e]; exact hb _ (List.getElem_mem _)
  rw [wraps_u64 (zs[k]?.getD 0) hbk.1 (by omega)]
  exact h
theorem be_last' (zs : List Int) (len s : Nat) (h3 : len ≤ zs.length) (hb : Bytes zs) (hs : s = len - 8) : Plain.part ((zs.take len).drop s) (len - s) = be (zs.take len) := by
  have hl : (zs.take len).length = len := by simp; omega
  have h := be_last (zs.take len) s (hb.take len) (by rw [hl]; exact hs)
  rwa [hl] at h
theorem walk_row (x : Addr) (len cap : Nat) (zs : List Int) (w : World) (hl : len ≤ cap) (hm : cap ≤ maxLen) (hz : zs.length = cap)
   (hc : ∀ i, i < zs.length → w.cell? (x.add i) = some (.int .u8 (zs.getD i 0))) (hb : Bytes zs) (h20 : len ≤ 1048576) :
    Calls Yba.prog 3 #[.slice (some x) len cap] w fun e w' => e = .returned (.bool true) ∧ Below w.heap.size w w' := by
  unfold maxLen at hm
  have hq := fun (wx : World) => run_neq_slice_nil_any (P := Yba.prog) wx 22 5 (some x) len cap 0 0 Yba.underlying22
  have he := fun (wx : World) (a : Option Addr) (n c : Nat) => Lib.run_eql_slice_nil (P := Yba.prog) wx 22 5 a n c 0 0 Yba.underlying22
  have hmk := fun (wx : World) => run_make_row' (P := Yba.prog) 22 5 (.int .u8 0) 1 Yba.underlying22 info5 rfl .i64 .i64 len (by omega) (by omega) wx
  have h14 : decide (1048576 < (len : Int)) = false := by simp; omega
  go_enter Yba.func3, Yba.ntmps3
  go_wp2_with fail
  go_loopw [4] (fun i wr => ∃ k : Nat, k ≤ len ∧ i = .int .i64 k ∧ Copied w wr zs len k) (fun i _ => len - (intOf i).toNat)
  case atStart => exact ⟨0, Nat.zero_le _, rfl, Copied.start w zs len⟩
  case round =>
    obtain ⟨k, hk, rfl, hC⟩ := hrel
    by_cases hlt : k < len
    · have hcell := hC.bel.cell (p := x.add k) (World.block_lt_of_cell? _ _ (hc k (by omega)))
      rw [hc k (by omega)] at hcell
      obtain ⟨v, hv⟩ := hC.any k hlt
      have hf := hC.fz k
      have HC : Hid (Copied w wr zs len k) := hC
      clear hC hc
      go_wp2
      go_roundw
      case rel => exact ⟨k + 1, by omega, by go_num, by simpa using HC.out.step hlt⟩
      case measure => simp [intOf]; omega
    · have hk' : k = len := by omega
      have hcw : ∀ i, i < zs.length → wr.cell? (x.add i) = some (.int .u8 (zs.getD i 0)) := fun i hi => by
        rw [hC.bel.cell (p := x.add i) (World.block_lt_of_cell? _ _ (hc i hi))]; exact hc i hi
      have HBig : Hid (Calls Yba.prog 4 #[.slice (some x) len cap] wr fun e w' => e = .returned (.int .u64 (be (zs.take len))) ∧ wr = w') := (big x len cap zs wr hl hm hz hcw hb).mono fun _ _ h => ⟨h.1, h.2.symm⟩
      have HC : Hid (Copied w wr zs len len) := show Copied w wr zs len len from hk' ▸ hC
      have HW : Hid (∀ i, i < zs.length → wr.cell? (x.add i) = some (.int .u8 (zs.getD i 0))) := hcw
      clear hC hc hcw hk'
      obtain ⟨s, hs⟩ : ∃ s, s = len - 8 := ⟨_, rfl⟩
      have HS : Hid (s = len - 8) := hs
      have hs0 : s ≤ len := by omega
      have hs8 : len ≤ s + 8 := by omega
      have HY : Hid (Bytes zs) := hb
      clear hb
      by_cases h8 : 8 < len
      · have h8' : decide (8 < (len : Int)) = true := by simp; omega
        clear hs
        go_wp2_with (go_at_call 4; refine HBig.out.mono ?_; rintro e w' ⟨rfl, rfl⟩)
        go_loop [8, 9] (fun t i => ∃ k : Nat, s ≤ k ∧ k ≤ len ∧ i = .int .i64 k ∧ t = .int .u64 (Plain.part ((zs.take len).drop s) (k - s))) (fun _ i => len - (intOf i).toNat)
        case atStart => exact ⟨s, Nat.le_refl _, by omega, by rw [show ((len : Int) - 8) = (s : Int) from by have := HS.out; omega], by rw [Nat.sub_self, part_zero]⟩
        case round =>
          obtain ⟨k2, hk2, hk2', rfl, rfl⟩ := hrel
          by_cases hlt2 : k2 < len
          · have hcell := HW.out k2 (by omega)
            have HR : Hid (_ = _) := part_round' zs len s k2 hk2 hlt2 (by omega) hs8 HY.out
            go_wp2
            go_round
            case rel => exact ⟨k2 + 1, by omega, by omega, by go_num, by rw [HR.out]⟩
            case measure => simp [intOf]; omega
          · have hk2e : k2 = len := by omega
            have hne : (be (zs.take len) != Plain.part ((zs.take len).drop s) (k2 - s)) = false := by
              rw [bne_eq_false_iff_eq, hk2e, be_last' zs len s (by omega) HY.out HS.out]
            clear hk2e
            go_wp2
            go_loopw [11] (fun i wq => ∃ k n : Nat, k ≤ len ∧ i = .int .i64 k ∧ wq = wr.drewN n) (fun i _ => len - (intOf i).toNat)
            case atStart => exact ⟨0, 0, Nat.zero_le _, rfl, rfl⟩
            case round =>
              obtain ⟨k3, n3, hk3, rfl, rfl⟩ := hrel
              by_cases hlt3 : k3 < len
              · have hcell := HW.out k3 (by omega)
                have hcell2 := HC.out.done k3 hlt3
                have hltI : (k3 : Int) < (len : Int) := by omega
                go_wp2_with fail
                go_quiet (fail)
                go_wp2
                go_roundw
                case rel => exact ⟨k3 + 1, _, by omega, by go_num, rfl⟩
                case measure => simp [intOf]; omega
              · go_wp2
                go_ret
                exact ⟨rfl, below_drewN HC.out.bel _⟩
      · have h8' : decide (8 < (len : Int)) = false := by simp; omega
        clear hs
        go_wp2_with (go_at_call 4; refine HBig.out.mono ?_; rintro e w' ⟨rfl, rfl⟩)
        go_loop [8, 9] (fun t i => ∃ k : Nat, s ≤ k ∧ k ≤ len ∧ i = .int .i64 k ∧ t = .int .u64 (Plain.part ((zs.take len).drop s) (k - s))) (fun _ i => len - (intOf i).toNat)
        case atStart => exact ⟨s, Nat.le_refl _, by omega, by rw [show s = 0 from by have := HS.out; omega]; rfl, by rw [Nat.sub_self, part_zero]⟩
        case round =>
          obtain ⟨k2, hk2, hk2', rfl, rfl⟩ := hrel
          by_cases hlt2 : k2 < len
          · have hcell := HW.out k2 (by omega)
            have HR : Hid (_ = _) := part_round' zs len s k2 hk2 hlt2 (by omega) hs8 HY.out
            go_wp2
            go_round
            case rel => exact ⟨k2 + 1, by omega, by omega, by go_num, by rw [HR.out]⟩
            case measure => simp [intOf]; omega
          · have hk2e : k2 = len := by omega
            have hne : (be (zs.take len) != Plain.part ((zs.take len).drop s) (k2 - s)) = false := by
              rw [bne_eq_false_iff_eq, hk2e, be_last' zs len s (by omega) HY.out HS.out]
            clear hk2e
            go_wp2
            go_loopw [11] (fun i wq => ∃ k n : Nat, k ≤ len ∧ i = .int .i64 k ∧ wq = wr.drewN n) (fun i _ => len - (intOf i).toNat)
            case atStart => exact ⟨0, 0, Nat.zero_le _, rfl, rfl⟩
            case round =>
              obtain ⟨k3, n3, hk3, rfl, rfl⟩ := hrel
              by_cases hlt3 : k3 < len
              · have hcell := HW.out k3 (by omega)
                have hcell2 := HC.out.done k3 hlt3
                have hltI : (k3 : Int) < (len : Int) := by omega
                go_wp2_with fail
                go_quiet (fail)
                go_wp2
                go_roundw
                case rel => exact ⟨k3 + 1, _, by omega, by go_num, rfl⟩
                case measure => simp [intOf]; omega
              · go_wp2
                go_ret
                exact ⟨rfl, below_drewN HC.out.bel _⟩
end Go.Proofs.Ybulkdjow.lawS5534CWhole
