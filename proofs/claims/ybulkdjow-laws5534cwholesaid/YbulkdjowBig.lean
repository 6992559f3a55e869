import Derived.Test.YbulkdjowRows
import Derived.Test.YbulkdjowPlain
import Derived.WalkKit
import Derived.ProofKit
import Derived.Below
import Derived.WalkSpells
import Derived.LoopTactic
import Derived.Deep.OwnRows
import Derived.Lib.SliceRun
import Derived.Deep.QuietTactic
import Derived.BigQuiet
namespace Go.Proofs.Ybulkdjow.lawS5534CWhole
open Go.RowKit Plain
theorem ret_int {k : IntKind} {a b : Int} (h : a = b) : Ending.returned (.int k a) = .returned (.int k b) := by rw [h]
theorem byte_of {zs : List Int} (hw : ∀ n ∈ zs, (Lit.int .u8 n).wf = true) : Bytes zs := fun n hn => by
  have := hw n hn
  simp only [Lit.wf, IntKind.min, IntKind.max, IntKind.signed, IntKind.bits, Bool.and_eq_true] at this
  simp at this
  omega
theorem take_snoc (l : List Int) (k : Nat) (h : k < l.length) : l.take (k + 1) = l.take k ++ [l.getD k 0] := by
  rw [List.take_succ_eq_append_getElem h]; simp [h]
theorem big (x : Addr) (len cap : Nat) (zs : List Int) (w : World) (hl : len ≤ cap) (hm : cap ≤ maxLen) (hz : zs.length = cap)
   (hc : ∀ i, i < zs.length → w.cell? (x.add i) = some (.int .u8 (zs.getD i 0))) (hb : Bytes zs) :
    Calls Yba.prog 4 #[.slice (some x) len cap] w fun e w' => e = .returned (.int .u64 (be (zs.take len))) ∧ w' = w := by
  unfold maxLen at hm
  go_enter Yba.func4, Yba.ntmps4
  go_wp2
  go_loop [3, 8] (fun t i => ∃ k : Nat, k ≤ len ∧ i = .int .i64 k ∧ t = .int .u64 (be (zs.take k))) (fun _ i => len - (intOf i).toNat)
  case atStart => exact ⟨0, Nat.zero_le _, rfl, rfl⟩
  case round =>
    obtain ⟨k, hk, rfl, rfl⟩ := hrel
    by_cases hlt : k < len
    · have hcell := hc k (by omega)
      have hbk : 0 ≤ zs.getD k 0 ∧ zs.getD k 0 < 256 := by
        have e : zs.getD k 0 = zs[k]'(by omega) := by simp [show k < zs.length by omega]
        rw [e]; exact hb _ (List.getElem_mem _)
      have HR : Hid (bits .or .u64 (IntKind.u64.wrap (be (zs.take k) * 256)) (IntKind.u64.wrap (zs.getD k 0)) = be (zs.take (k + 1))) := by
        rw [take_snoc zs k (by omega)]; exact be_round _ _ hbk.1 hbk.2
      clear hc hb hbk
      go_wp2
      go_round
      case rel => exact ⟨k + 1, by omega, by go_num, by rw [← HR.out]; simp⟩
      case measure => simp [intOf]; omega
    · go_wp2
      go_ret
      exact ⟨ret_int (by rw [show k = len by omega]), rfl⟩
theorem bigNil (w : World) :
    Calls Yba.prog 4 #[.slice none 0 0] w fun e w' => e = .returned (.int .u64 0) ∧ w' = w := by
  go_enter Yba.func4, Yba.ntmps4
  go_wp2
  go_loop [3, 8] (fun t i => i = .int .i64 0 ∧ t = .int .u64 0) (fun _ _ => 0)
  case atStart => exact ⟨rfl, rfl⟩
  case round =>
    obtain ⟨rfl, rfl⟩ := hrel
    go_wp2
    go_ret
    exact ⟨rfl, rfl⟩
end Go.Proofs.Ybulkdjow.lawS5534CWhole
