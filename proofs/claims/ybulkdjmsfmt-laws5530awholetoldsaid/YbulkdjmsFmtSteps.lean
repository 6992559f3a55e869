import Derived.Test.YbulkdjmsFmtLaid
import Derived.Deep.Slices
/-! The steps that came in. -/
namespace Go.Proofs.YbulkdjmsFmt
open Go.ChangeShapes Go.WideShapes Go.ChangeAt Go.WideMaps Go.WideElems Go.RowKit
theorem Ybaf.cells53 : Ybaf.prog.cellsOf 53 = 5 := by kernel_rfl
theorem Ybaf.cells5 : Ybaf.prog.cellsOf 5 = 1 := by kernel_rfl
theorem Ybaf.cells21 : Ybaf.prog.cellsOf 21 = 1 := by kernel_rfl
theorem Ybaf.cells4 : Ybaf.prog.cellsOf 4 = 1 := by kernel_rfl
theorem wf_u8 {n : Int} (h : (Lit.int .u8 n).wf = true) : 0 ≤ n ∧ n ≤ 255 := by
  simp only [Lit.wf, IntKind.min, IntKind.max, IntKind.signed, IntKind.bits, Bool.and_eq_true] at h
  simp at h
  omega
theorem wf_i32 {n : Int} (h : (Lit.int .i32 n).wf = true) : -2147483648 ≤ n ∧ n ≤ 2147483647 := by
  simp only [Lit.wf, IntKind.min, IntKind.max, IntKind.signed, IntKind.bits, Bool.and_eq_true] at h
  simp at h
  omega
section
variable {H : Type} {enc : TypeId × Value → H} {w : World} {base : Nat} {spare : Nat → Bool} {held : Bool}
/-- One step, off its five cells. -/
theorem step_of_trod {fuel : Nat} {cs : List Value} {x : DataW H × List MemPlace} (h : DataW.trod enc Ybaf.prog w base spare held fuel 53 cs = some x) :
    ∃ s : Stp, StpOk s ∧ cs = [.int .u8 s.op, .int .i32 s.r, .int .u8 s.a, .int .u8 s.b, .bool s.lz] := by
  obtain ⟨xs, k, _, _, hl, hxl, hf⟩ := DataW.trod_struct Ybaf.underlying53 h
  rw [Ybaf.cells53] at hl
  match cs, hl with
  | [v0, v1, v2, v3, v4], _ =>
    match xs, hxl with
    | [y0, y1, y2, y3, y4], _ =>
      have g0 := hf 0 _ rfl
      have g1 := hf 1 _ rfl
      have g2 := hf 2 _ rfl
      have g3 := hf 3 _ rfl
      have g4 := hf 4 _ rfl
      simp [Ybaf.cells5, Ybaf.cells21, Ybaf.cells4] at g0 g1 g2 g3 g4
      obtain ⟨n0, e0, _, w0⟩ := DataW.trod_int Ybaf.underlying5 g0
      obtain ⟨n1, e1, _, w1⟩ := DataW.trod_int Ybaf.underlying21 g1
      obtain ⟨n2, e2, _, w2⟩ := DataW.trod_int Ybaf.underlying5 g2
      obtain ⟨n3, e3, _, w3⟩ := DataW.trod_int Ybaf.underlying5 g3
      obtain ⟨b4, e4, _⟩ := DataW.trod_bool Ybaf.underlying4 g4
      cases e0
      cases e1
      cases e2
      cases e3
      cases e4
      exact ⟨⟨n0, n1, n2, n3, b4⟩, ⟨wf_u8 w0, wf_i32 w1, wf_u8 w2, wf_u8 w3⟩, rfl⟩
/-- The steps, off the slice. -/
theorem steps_of_trod {fuel : Nat} {sa : Option Addr} {len cap : Nat} {x : DataW H × List MemPlace} (h : DataW.trod enc Ybaf.prog w base spare held fuel 22 [.slice sa len cap] = some x) (hlen : len ≤ 1024) {pb : Nat} (hpb : w.heap.size ≤ pb) :
    ∃ st : List Stp, st.length = len ∧ StepsAt w sa st pb := by
  rcases Deep.open_slice Ybaf.underlying22 h with ⟨hcs, _⟩ | ⟨a, l, c, m, n, D, Pl, hcs, hb, hl, hm, hmm, _, hx⟩
  · simp at hcs
    obtain ⟨rfl, rfl, rfl⟩ := hcs
    exact ⟨[], rfl, ⟨by simp, fun p s hs => by simp at hs⟩⟩
  · simp at hcs
    obtain ⟨rfl, rfl, rfl⟩ := hcs
    have hlm : len ≤ m := by rw [hmm]; split <;> omega
    rw [Ybaf.cells53] at hx
    have each : ∀ i : Nat, ∃ s : Stp, i < len → StpOk s ∧ ∀ (j : Nat) (v : Value), [Value.int .u8 s.op, .int .i32 s.r, .int .u8 s.a, .int .u8 s.b, .bool s.lz][j]? = some v → w.cell? ((a.add (i * 5)).add j) = some v := fun i => by
      by_cases hi : i < len
      · obtain ⟨cs', h1, h2⟩ := hx i (by omega)
        obtain ⟨_, hlen', hcell⟩ := World.cells?_some h1
        obtain ⟨s, hok, rfl⟩ := step_of_trod h2
        refine ⟨s, fun _ => ⟨hok, fun j v hj => ?_⟩⟩
        have hj5 : j < 5 := by
          have := (List.getElem?_eq_some_iff.1 hj).1
          simpa using this
        rw [hcell j hj5]; exact hj
      · exact ⟨⟨0, 0, 0, 0, false⟩, fun h => absurd h hi⟩
    refine ⟨(List.range len).map fun i => (each i).choose, by simp, ⟨by simpa using hlen, fun p s hs => ?_⟩⟩
    have hp : p < len := by
      have := (List.getElem?_eq_some_iff.1 hs).1
      simpa using this
    have hs' : (each p).choose = s := by
      rw [List.getElem?_map, List.getElem?_range hp] at hs
      simpa using hs
    obtain ⟨hok, hcell⟩ := (each p).choose_spec hp
    rw [hs'] at hok hcell
    have h0 : 0 < len := by omega
    have hz := ((each 0).choose_spec h0).2 0 _ rfl
    obtain ⟨ab, ao, sp⟩ := a
    have hsp : sp = none := by
      cases sp with
      | none => rfl
      | some z =>
        simp [Addr.add, World.cell?] at hz
        split at hz <;> simp at hz
    subst hsp
    have hadd : ∀ j, ((⟨ab, ao, none⟩ : Addr).add (p * 5)).add j = ⟨ab, ao + p * 5 + j, none⟩ := fun j => by
      unfold Addr.add
      split <;> split <;> simp_all
    have hlt : ab < w.heap.size := by
      have := hcell 0 _ rfl
      rw [hadd] at this
      exact World.block_lt_of_cell? _ _ this
    have c0 := hcell 0 _ rfl
    have c1 := hcell 1 _ rfl
    have c2 := hcell 2 _ rfl
    have c3 := hcell 3 _ rfl
    have c4 := hcell 4 _ rfl
    rw [hadd] at c0 c1 c2 c3 c4
    exact ⟨hok, ab, ao, rfl, by omega, c0, c1, c2, c3, c4⟩
end
end Go.Proofs.YbulkdjmsFmt
