import Derived.Laws.BitsAllLaws
import Derived.Lib.EndianBits
import Derived.RowKit
/-! The plain law of LawS5534CWhole: no Go in sight. -/
namespace Go.Proofs.Ybulkdjow.Plain

/-- The value of a list of bytes, big-endian, unbounded. -/
def val (l : List Int) : Int := l.foldl (fun x c => x * 256 + c) 0
/-- What bigEndian computes: the same, modulo 2^64. -/
def be (l : List Int) : Int := l.foldl (fun x c => (x * 256 + c) % 18446744073709551616) 0
def Bytes (l : List Int) : Prop := ∀ n ∈ l, 0 ≤ n ∧ n < 256

theorem be_snoc (l : List Int) (c : Int) : be (l ++ [c]) = (be l * 256 + c) % 18446744073709551616 := by unfold be; rw [List.foldl_append]; rfl
theorem be_foldl (l : List Int) (a : Int) : l.foldl (fun x c => (x * 256 + c) % 18446744073709551616) (a % 18446744073709551616) = (l.foldl (fun x c => x * 256 + c) a) % 18446744073709551616 := by
  induction l generalizing a with
  | nil => rfl
  | cons c l ih =>
    simp only [List.foldl_cons]
    rw [show (a % 18446744073709551616 * 256 + c) % 18446744073709551616 = (a * 256 + c) % 18446744073709551616 from by omega]
    exact ih _
theorem be_val (l : List Int) : be l = val l % 18446744073709551616 := be_foldl l 0
theorem val_foldl (l : List Int) (a : Int) : l.foldl (fun x c => x * 256 + c) a = a * 256 ^ l.length + val l := by
  induction l generalizing a with
  | nil => simp [val]
  | cons c l ih =>
    have h0 : val (c :: l) = (0 * 256 + c) * 256 ^ l.length + val l := ih (0 * 256 + c)
    rw [h0]
    simp only [List.foldl_cons, List.length_cons, ih, Int.pow_succ]
    rw [Int.add_mul, Int.add_mul, Int.mul_assoc, Int.mul_comm (256 ^ l.length) (256 : Int)]
    omega
theorem val_append (l u : List Int) : val (l ++ u) = val l * 256 ^ u.length + val u := by
  rw [val, List.foldl_append, val_foldl]; rfl
theorem val_snoc (l : List Int) (c : Int) : val (l ++ [c]) = val l * 256 + c := by unfold val; rw [List.foldl_append]; rfl
theorem pow_pos (n : Nat) : (0 : Int) < 256 ^ n := Int.pow_pos (by omega)
theorem val_bound (l : List Int) (h : Bytes l) : 0 ≤ val l ∧ val l < 256 ^ l.length := by
  induction l with
  | nil => simp [val]
  | cons c l ih =>
    have hb := ih (fun n hn => h n (by simp [hn]))
    have hc := h c (by simp)
    have e : val (c :: l) = c * 256 ^ l.length + val l := by have := val_foldl l (0 * 256 + c); simpa [val] using this
    have hp := pow_pos l.length
    have h1 : 0 ≤ c * 256 ^ l.length := Int.mul_nonneg hc.1 (by omega)
    have h2 : c * 256 ^ l.length ≤ 255 * 256 ^ l.length := Int.mul_le_mul_of_nonneg_right (by omega) (by omega)
    rw [e]
    simp only [List.length_cons, Int.pow_succ]
    omega

/-- bigEndian's round. -/
theorem be_round (l : List Int) (c : Int) (h0 : 0 ≤ c) (h1 : c < 256) :
    bits .or .u64 (IntKind.u64.wrap (be l * 256)) (IntKind.u64.wrap c) = be (l ++ [c]) := by
  have hb : 0 ≤ be l ∧ be l < 18446744073709551616 := by rw [be_val]; omega
  rw [be_snoc, IntKind.wrap_u64, IntKind.wrap_u64]
  have e : c % 18446744073709551616 = c := by omega
  rw [e]
  have hj := bits_join .u64 64 (by decide) wraps_u64 8 (be l * 256 % 18446744073709551616) c (by omega) (by omega) (by omega) h0 (by omega) (by omega)
  rw [hj]; omega

/-- What 'want' holds after j rounds over the last bytes u. -/
def part (u : List Int) (j : Nat) : Int := val (u.take j) * 256 ^ (u.length - j)
theorem part_zero (u : List Int) : part u 0 = 0 := by simp [part, val]
theorem part_all (u : List Int) : part u u.length = val u := by simp [part]
theorem Bytes.take {l : List Int} (h : Bytes l) (j : Nat) : Bytes (l.take j) := fun n hn => h n (List.mem_of_mem_take hn)
theorem Bytes.drop {l : List Int} (h : Bytes l) (j : Nat) : Bytes (l.drop j) := fun n hn => h n (List.mem_of_mem_drop hn)
theorem pow_two (n : Nat) : (256 : Int) ^ n = 2 ^ (8 * n) := by rw [Int.pow_mul]; rfl
theorem part_succ (u : List Int) (j : Nat) (hj : j < u.length) : part u (j + 1) = part u j + u.getD j 0 * 256 ^ (u.length - 1 - j) := by
  have et : u.take (j + 1) = u.take j ++ [u.getD j 0] := by
    rw [List.take_succ_eq_append_getElem hj]; simp [hj]
  have ep : u.length - j = (u.length - 1 - j) + 1 := by omega
  have e2 : u.length - (j + 1) = u.length - 1 - j := by omega
  unfold part
  rw [et, val_snoc, ep, e2, Int.pow_succ, Int.add_mul, Int.mul_assoc, Int.mul_comm (256 ^ _) (256 : Int)]
theorem part_bound (u : List Int) (j : Nat) (h : Bytes u) (hj : j ≤ u.length) (hu : u.length ≤ 8) : 0 ≤ part u j ∧ part u j < 18446744073709551616 := by
  have hb := val_bound (u.take j) (h.take j)
  have hl : (u.take j).length = j := by simp; omega
  rw [hl] at hb
  have hp := pow_pos (u.length - j)
  have e : (256 : Int) ^ j * 256 ^ (u.length - j) = 256 ^ u.length := by rw [← Int.pow_add]; congr 1; omega
  have h1 : 0 ≤ val (u.take j) * 256 ^ (u.length - j) := Int.mul_nonneg hb.1 (by omega)
  have h2 : val (u.take j) * 256 ^ (u.length - j) < 256 ^ j * 256 ^ (u.length - j) := Int.mul_lt_mul_of_pos_right hb.2 hp
  have h3 : (256 : Int) ^ u.length ≤ 256 ^ 8 := by
    have : (256 : Int) ^ 8 = 256 ^ u.length * 256 ^ (8 - u.length) := by rw [← Int.pow_add]; congr 1; omega
    rw [this]
    have hq := pow_pos (8 - u.length)
    have := Int.mul_le_mul_of_nonneg_left (show (1 : Int) ≤ 256 ^ (8 - u.length) by omega) (show (0 : Int) ≤ 256 ^ u.length by have := pow_pos u.length; omega)
    omega
  have h4 : (256 : Int) ^ 8 = 18446744073709551616 := by decide
  unfold part
  omega
/-- The round of 'want'. -/
theorem part_round (u : List Int) (j : Nat) (h : Bytes u) (hj : j < u.length) (hu : u.length ≤ 8) :
    bits .or .u64 (part u j) (IntKind.u64.wrap (u.getD j 0 * 2 ^ (8 * (u.length - 1 - j)))) = part u (j + 1) := by
  have hs := part_succ u j hj
  have hb := part_bound u j h (by omega) hu
  have hb' := part_bound u (j + 1) h (by omega) hu
  have hc : 0 ≤ u.getD j 0 ∧ u.getD j 0 < 256 := by
    have e : u.getD j 0 = u[j] := by simp [hj]
    rw [e]; exact h _ (List.getElem_mem hj)
  rw [← pow_two]
  have hp := pow_pos (u.length - 1 - j)
  have h1 : 0 ≤ u.getD j 0 * 256 ^ (u.length - 1 - j) := Int.mul_nonneg hc.1 (by omega)
  have h2 : u.getD j 0 * 256 ^ (u.length - 1 - j) < 256 * 256 ^ (u.length - 1 - j) := Int.mul_lt_mul_of_pos_right hc.2 hp
  have e1 : (256 : Int) * 256 ^ (u.length - 1 - j) = 256 ^ (u.length - j) := by
    rw [show u.length - j = (u.length - 1 - j) + 1 from by omega, Int.pow_succ, Int.mul_comm]
  have e2 : (256 : Int) ^ (u.length - j) = 2 ^ (8 * (u.length - j)) := pow_two _
  have hm : part u j % 2 ^ (8 * (u.length - j)) = 0 := by rw [← e2]; unfold part; exact Int.mul_emod_left _ _
  rw [wraps_u64 _ h1 (by omega)]
  rw [bits_join .u64 64 (by decide) wraps_u64 (8 * (u.length - j)) (part u j) _ hb.1 hm (by omega) h1 (by omega) (by omega), hs]
/-- THE LAW: the last min(8, n) bytes' value is bigEndian's. -/
theorem be_last (l : List Int) (s : Nat) (h : Bytes l) (hs : s = l.length - 8) : part (l.drop s) (l.length - s) = be l := by
  have hlen : (l.drop s).length = l.length - s := by simp
  rw [← hlen, part_all, be_val]
  have hb := val_bound (l.drop s) (h.drop s)
  by_cases h8 : 8 ≤ l.length
  · have e : val l = val (l.take s) * 256 ^ (l.drop s).length + val (l.drop s) := by rw [← val_append, List.take_append_drop]
    have e8 : (l.drop s).length = 8 := by rw [hlen]; omega
    rw [e8] at e hb
    have h4 : (256 : Int) ^ 8 = 18446744073709551616 := by decide
    rw [h4] at e hb
    omega
  · have : s = 0 := by omega
    subst this
    rw [List.drop_zero] at hb ⊢
    have hp := part_bound l l.length h (Nat.le_refl _) (by omega)
    rw [part_all] at hp
    omega
end Go.Proofs.Ybulkdjow.Plain
