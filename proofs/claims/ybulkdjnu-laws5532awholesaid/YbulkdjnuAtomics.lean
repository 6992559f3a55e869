import Derived.Test.YbulkdjnuRows
import Derived.WalkKit
import Derived.ProofKit
import Derived.Below
import Derived.WalkSpells
import Derived.Laws.LoneSync
import Derived.Laws.NewBlocks
/-! Contracts of sync/atomic's Store and Load methods over this program, and of SetStarvationThreshold. -/
namespace Go.Proofs.Ybulkdjnu.Atomics
open Go.RowKit
theorem not64 (a : Int) (h1 : -9223372036854775808 ≤ a) (h2 : a ≤ 9223372036854775807) : bits .xor .i64 (-1) a = -1 - a := by
  show IntKind.i64.wrap ((BitVec.ofInt 64 (-1) ^^^ BitVec.ofInt 64 a).toNat : Int) = _
  have e1 : BitVec.ofInt 64 (-1) = BitVec.allOnes 64 := by decide
  rw [e1, BitVec.allOnes_xor, BitVec.toNat_not, BitVec.toNat_ofInt]
  simp [IntKind.wrap, IntKind.bits, IntKind.signed]
  omega
theorem st64 (b off : Nat) (y : Int) (u : Value) (w : World) (hc : w.cell? ⟨b, off, none⟩ = some u) (hz : w.frozen? ⟨b, off, none⟩ = false) :
    Calls Yba.prog 11 #[.pointer (some ⟨b, off, none⟩), .int .i64 y] w fun e w' => e = .returned (.tuple #[]) ∧ w' = w.setCell ⟨b, off, none⟩ (.int .i64 y) := by
  have hs := run_call_store (P := Yba.prog) Yba.func21 (by kernel_rfl) (by kernel_rfl) (by kernel_rfl) (by kernel_rfl) (k := .i64) (y := y) hc hz
  go_enter Yba.func11, Yba.ntmps11
  go_wp2
  go_end0
  exact ⟨rfl, rfl⟩
theorem st32 (b off : Nat) (y : Int) (u : Value) (w : World) (hc : w.cell? ⟨b, off, none⟩ = some u) (hz : w.frozen? ⟨b, off, none⟩ = false) :
    Calls Yba.prog 15 #[.pointer (some ⟨b, off, none⟩), .int .i32 y] w fun e w' => e = .returned (.tuple #[]) ∧ w' = w.setCell ⟨b, off, none⟩ (.int .i32 y) := by
  have hs := run_call_store (P := Yba.prog) Yba.func22 (by kernel_rfl) (by kernel_rfl) (by kernel_rfl) (by kernel_rfl) (k := .i32) (y := y) hc hz
  go_enter Yba.func15, Yba.ntmps15
  go_wp2
  go_end0
  exact ⟨rfl, rfl⟩
theorem stu32 (b off : Nat) (y : Int) (u : Value) (w : World) (hc : w.cell? ⟨b, off, none⟩ = some u) (hz : w.frozen? ⟨b, off, none⟩ = false) :
    Calls Yba.prog 16 #[.pointer (some ⟨b, off, none⟩), .int .u32 y] w fun e w' => e = .returned (.tuple #[]) ∧ w' = w.setCell ⟨b, off, none⟩ (.int .u32 y) := by
  have hs := run_call_store (P := Yba.prog) Yba.func23 (by kernel_rfl) (by kernel_rfl) (by kernel_rfl) (by kernel_rfl) (k := .u32) (y := y) hc hz
  go_enter Yba.func16, Yba.ntmps16
  go_wp2
  go_end0
  exact ⟨rfl, rfl⟩
theorem ld64 (b off : Nat) (y : Int) (w : World) (hc : w.cell? ⟨b, off, none⟩ = some (.int .i64 y)) :
    Calls Yba.prog 8 #[.pointer (some ⟨b, off, none⟩)] w fun e w' => e = .returned (.int .i64 y) ∧ w' = w := by
  have hs := run_call_load (P := Yba.prog) Yba.func18 (by kernel_rfl) (by kernel_rfl) (by kernel_rfl) .i64 (by kernel_rfl) hc
  go_enter Yba.func8, Yba.ntmps8
  go_wp2
  go_ret
  exact ⟨rfl, rfl⟩
theorem ld32 (b off : Nat) (y : Int) (w : World) (hc : w.cell? ⟨b, off, none⟩ = some (.int .i32 y)) :
    Calls Yba.prog 9 #[.pointer (some ⟨b, off, none⟩)] w fun e w' => e = .returned (.int .i32 y) ∧ w' = w := by
  have hs := run_call_load (P := Yba.prog) Yba.func19 (by kernel_rfl) (by kernel_rfl) (by kernel_rfl) .i32 (by kernel_rfl) hc
  go_enter Yba.func9, Yba.ntmps9
  go_wp2
  go_ret
  exact ⟨rfl, rfl⟩
theorem ldu32 (b off : Nat) (y : Int) (w : World) (hc : w.cell? ⟨b, off, none⟩ = some (.int .u32 y)) :
    Calls Yba.prog 10 #[.pointer (some ⟨b, off, none⟩)] w fun e w' => e = .returned (.int .u32 y) ∧ w' = w := by
  have hs := run_call_load (P := Yba.prog) Yba.func20 (by kernel_rfl) (by kernel_rfl) (by kernel_rfl) .u32 (by kernel_rfl) hc
  go_enter Yba.func10, Yba.ntmps10
  go_wp2
  go_ret
  exact ⟨rfl, rfl⟩
/-- What SetStarvationThreshold stores for d ≥ 0. -/
def stored (d : Int) : Int := if d = 0 then -1 else d
theorem set_any (b : Nat) (d : Int) (u : Value) (w : World) (h0 : 0 ≤ d) (hc : w.cell? ⟨b, 7, none⟩ = some u) (hz : w.frozen? ⟨b, 7, none⟩ = false) :
    Calls Yba.prog 7 #[.pointer (some ⟨b, 0, none⟩), .int .i64 d] w fun e w' => e = .returned (.tuple #[]) ∧ w' = w.setCell ⟨b, 7, none⟩ (.int .i64 (stored d)) := by
  have hs := fun (y : Int) => st64 b 7 y u w hc hz
  have hneg : ¬ d < 0 := by omega
  by_cases hd : d = 0
  · subst hd
    go_enter Yba.func7, Yba.ntmps7
    go_wp2_with (go_at_call 11; refine (hs _).mono ?_; rintro e w' ⟨rfl, rfl⟩)
    go_end0
    exact ⟨rfl, rfl⟩
  · have hd' : (d == 0) = false := by simpa using hd
    have e : stored d = d := by unfold stored; rw [if_neg hd]
    rw [e]
    clear e hd
    go_enter Yba.func7, Yba.ntmps7
    go_wp2_with (go_at_call 11; refine (hs _).mono ?_; rintro e w' ⟨rfl, rfl⟩)
    go_end0
    exact ⟨rfl, rfl⟩
end Go.Proofs.Ybulkdjnu.Atomics
