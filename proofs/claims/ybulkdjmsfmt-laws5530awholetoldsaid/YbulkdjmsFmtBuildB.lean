import Derived.Test.YbulkdjmsFmtBuildA
import Derived.LoopTactic
/-! zzs5530abuild: literals and classes. -/
namespace Go.Proofs.YbulkdjmsFmt
open Go.RowKit Plain
set_option maxRecDepth 100000
set_option linter.unusedVariables false
theorem build_lit2 (w : World) (sb so len cap pb p f : Nat) (dep : Int) (s : Stp) (hs : StpOk s) (hp : p < len) (hlen : len ≤ 1024) (hP : PosAt w pb p len) (hd0 : 0 ≤ dep)
   (s0 : w.cell? ⟨sb, so + p * 5, none⟩ = some (.int .u8 s.op)) (s1 : w.cell? ⟨sb, so + p * 5 + 1, none⟩ = some (.int .i32 s.r)) (s2 : w.cell? ⟨sb, so + p * 5 + 2, none⟩ = some (.int .u8 s.a)) (s3 : w.cell? ⟨sb, so + p * 5 + 3, none⟩ = some (.int .u8 s.b)) (s4 : w.cell? ⟨sb, so + p * 5 + 4, none⟩ = some (.bool s.lz)) (hd : dep < 5) (hop : s.op % 15 + 1 = 2) :
    Calls Ybaf.prog 4 #[.slice (some ⟨sb, so, none⟩) len cap, .pointer (some ⟨pb, 0, none⟩), .int .i64 dep] w fun e w' => BPost pb len (f + 1) w e w' := by
  have hpos : w.cell? ⟨pb, 0, none⟩ = some (.int .i64 (p : Int)) := by rw [cell_of_heap hP.obj]; rfl
  have hpf : w.frozen? ⟨pb, 0, none⟩ = false := frozen_of_heap hP.obj
  have hpb : pb < w.heap.size := lt_of_heap hP.obj
  obtain ⟨hu, hr, ha, hb⟩ := hs
  obtain ⟨u, r, a, b, lz⟩ := s
  simp only at hu hr ha hb s0 s1 s2 s3 s4 hop
  obtain ⟨hu1, hu2⟩ := hu
  obtain ⟨hr1, hr2⟩ := hr
  obtain ⟨ha1, ha2⟩ := ha
  obtain ⟨hb1, hb2⟩ := hb
  have HE := tuck (leaf_post (f := f) hP hp #[.int .u8 u, .int .i32 r, .int .u8 a, .int .u8 b, .bool lz] (leafNd_ok (op := 2) (r := r) (by omega) (by omega) (by omega) (by omega)))
  clear hP
  go_enter Ybaf.func4, Ybaf.ntmps4
  go_wp2
  go_ret
  exact HE.out
theorem build_lit2d (w : World) (sb so len cap pb p f : Nat) (dep : Int) (s : Stp) (hs : StpOk s) (hp : p < len) (hlen : len ≤ 1024) (hP : PosAt w pb p len) (hd0 : 0 ≤ dep)
   (s0 : w.cell? ⟨sb, so + p * 5, none⟩ = some (.int .u8 s.op)) (s1 : w.cell? ⟨sb, so + p * 5 + 1, none⟩ = some (.int .i32 s.r)) (s2 : w.cell? ⟨sb, so + p * 5 + 2, none⟩ = some (.int .u8 s.a)) (s3 : w.cell? ⟨sb, so + p * 5 + 3, none⟩ = some (.int .u8 s.b)) (s4 : w.cell? ⟨sb, so + p * 5 + 4, none⟩ = some (.bool s.lz)) (hd : 5 ≤ dep) (hop : s.op % 15 + 1 = 2) :
    Calls Ybaf.prog 4 #[.slice (some ⟨sb, so, none⟩) len cap, .pointer (some ⟨pb, 0, none⟩), .int .i64 dep] w fun e w' => BPost pb len (f + 1) w e w' := by
  have hpos : w.cell? ⟨pb, 0, none⟩ = some (.int .i64 (p : Int)) := by rw [cell_of_heap hP.obj]; rfl
  have hpf : w.frozen? ⟨pb, 0, none⟩ = false := frozen_of_heap hP.obj
  have hpb : pb < w.heap.size := lt_of_heap hP.obj
  obtain ⟨hu, hr, ha, hb⟩ := hs
  obtain ⟨u, r, a, b, lz⟩ := s
  simp only at hu hr ha hb s0 s1 s2 s3 s4 hop
  obtain ⟨hu1, hu2⟩ := hu
  obtain ⟨hr1, hr2⟩ := hr
  obtain ⟨ha1, ha2⟩ := ha
  obtain ⟨hb1, hb2⟩ := hb
  have HE := tuck (leaf_post (f := f) hP hp #[.int .u8 u, .int .i32 r, .int .u8 a, .int .u8 b, .bool lz] (leafNd_ok (op := 2) (r := r) (by omega) (by omega) (by omega) (by omega)))
  clear hP
  go_enter Ybaf.func4, Ybaf.ntmps4
  go_wp2
  go_ret
  exact HE.out
theorem build_lit8d (w : World) (sb so len cap pb p f : Nat) (dep : Int) (s : Stp) (hs : StpOk s) (hp : p < len) (hlen : len ≤ 1024) (hP : PosAt w pb p len) (hd0 : 0 ≤ dep)
   (s0 : w.cell? ⟨sb, so + p * 5, none⟩ = some (.int .u8 s.op)) (s1 : w.cell? ⟨sb, so + p * 5 + 1, none⟩ = some (.int .i32 s.r)) (s2 : w.cell? ⟨sb, so + p * 5 + 2, none⟩ = some (.int .u8 s.a)) (s3 : w.cell? ⟨sb, so + p * 5 + 3, none⟩ = some (.int .u8 s.b)) (s4 : w.cell? ⟨sb, so + p * 5 + 4, none⟩ = some (.bool s.lz)) (hd : 5 ≤ dep) (hop : s.op % 15 + 1 = 8) :
    Calls Ybaf.prog 4 #[.slice (some ⟨sb, so, none⟩) len cap, .pointer (some ⟨pb, 0, none⟩), .int .i64 dep] w fun e w' => BPost pb len (f + 1) w e w' := by
  have hpos : w.cell? ⟨pb, 0, none⟩ = some (.int .i64 (p : Int)) := by rw [cell_of_heap hP.obj]; rfl
  have hpf : w.frozen? ⟨pb, 0, none⟩ = false := frozen_of_heap hP.obj
  have hpb : pb < w.heap.size := lt_of_heap hP.obj
  obtain ⟨hu, hr, ha, hb⟩ := hs
  obtain ⟨u, r, a, b, lz⟩ := s
  simp only at hu hr ha hb s0 s1 s2 s3 s4 hop
  obtain ⟨hu1, hu2⟩ := hu
  obtain ⟨hr1, hr2⟩ := hr
  obtain ⟨ha1, ha2⟩ := ha
  obtain ⟨hb1, hb2⟩ := hb
  have HE := tuck (leaf_post (f := f) hP hp #[.int .u8 u, .int .i32 r, .int .u8 a, .int .u8 b, .bool lz] (leafNd_ok (op := 2) (r := r) (by omega) (by omega) (by omega) (by omega)))
  clear hP
  go_enter Ybaf.func4, Ybaf.ntmps4
  go_wp2
  go_ret
  exact HE.out
theorem build_lit9d (w : World) (sb so len cap pb p f : Nat) (dep : Int) (s : Stp) (hs : StpOk s) (hp : p < len) (hlen : len ≤ 1024) (hP : PosAt w pb p len) (hd0 : 0 ≤ dep)
   (s0 : w.cell? ⟨sb, so + p * 5, none⟩ = some (.int .u8 s.op)) (s1 : w.cell? ⟨sb, so + p * 5 + 1, none⟩ = some (.int .i32 s.r)) (s2 : w.cell? ⟨sb, so + p * 5 + 2, none⟩ = some (.int .u8 s.a)) (s3 : w.cell? ⟨sb, so + p * 5 + 3, none⟩ = some (.int .u8 s.b)) (s4 : w.cell? ⟨sb, so + p * 5 + 4, none⟩ = some (.bool s.lz)) (hd : 5 ≤ dep) (hop : s.op % 15 + 1 = 9) :
    Calls Ybaf.prog 4 #[.slice (some ⟨sb, so, none⟩) len cap, .pointer (some ⟨pb, 0, none⟩), .int .i64 dep] w fun e w' => BPost pb len (f + 1) w e w' := by
  have hpos : w.cell? ⟨pb, 0, none⟩ = some (.int .i64 (p : Int)) := by rw [cell_of_heap hP.obj]; rfl
  have hpf : w.frozen? ⟨pb, 0, none⟩ = false := frozen_of_heap hP.obj
  have hpb : pb < w.heap.size := lt_of_heap hP.obj
  obtain ⟨hu, hr, ha, hb⟩ := hs
  obtain ⟨u, r, a, b, lz⟩ := s
  simp only at hu hr ha hb s0 s1 s2 s3 s4 hop
  obtain ⟨hu1, hu2⟩ := hu
  obtain ⟨hr1, hr2⟩ := hr
  obtain ⟨ha1, ha2⟩ := ha
  obtain ⟨hb1, hb2⟩ := hb
  have HE := tuck (leaf_post (f := f) hP hp #[.int .u8 u, .int .i32 r, .int .u8 a, .int .u8 b, .bool lz] (leafNd_ok (op := 2) (r := r) (by omega) (by omega) (by omega) (by omega)))
  clear hP
  go_enter Ybaf.func4, Ybaf.ntmps4
  go_wp2
  go_ret
  exact HE.out
theorem build_lit10d (w : World) (sb so len cap pb p f : Nat) (dep : Int) (s : Stp) (hs : StpOk s) (hp : p < len) (hlen : len ≤ 1024) (hP : PosAt w pb p len) (hd0 : 0 ≤ dep)
   (s0 : w.cell? ⟨sb, so + p * 5, none⟩ = some (.int .u8 s.op)) (s1 : w.cell? ⟨sb, so + p * 5 + 1, none⟩ = some (.int .i32 s.r)) (s2 : w.cell? ⟨sb, so + p * 5 + 2, none⟩ = some (.int .u8 s.a)) (s3 : w.cell? ⟨sb, so + p * 5 + 3, none⟩ = some (.int .u8 s.b)) (s4 : w.cell? ⟨sb, so + p * 5 + 4, none⟩ = some (.bool s.lz)) (hd : 5 ≤ dep) (hop : s.op % 15 + 1 = 10) :
    Calls Ybaf.prog 4 #[.slice (some ⟨sb, so, none⟩) len cap, .pointer (some ⟨pb, 0, none⟩), .int .i64 dep] w fun e w' => BPost pb len (f + 1) w e w' := by
  have hpos : w.cell? ⟨pb, 0, none⟩ = some (.int .i64 (p : Int)) := by rw [cell_of_heap hP.obj]; rfl
  have hpf : w.frozen? ⟨pb, 0, none⟩ = false := frozen_of_heap hP.obj
  have hpb : pb < w.heap.size := lt_of_heap hP.obj
  obtain ⟨hu, hr, ha, hb⟩ := hs
  obtain ⟨u, r, a, b, lz⟩ := s
  simp only at hu hr ha hb s0 s1 s2 s3 s4 hop
  obtain ⟨hu1, hu2⟩ := hu
  obtain ⟨hr1, hr2⟩ := hr
  obtain ⟨ha1, ha2⟩ := ha
  obtain ⟨hb1, hb2⟩ := hb
  have HE := tuck (leaf_post (f := f) hP hp #[.int .u8 u, .int .i32 r, .int .u8 a, .int .u8 b, .bool lz] (leafNd_ok (op := 2) (r := r) (by omega) (by omega) (by omega) (by omega)))
  clear hP
  go_enter Ybaf.func4, Ybaf.ntmps4
  go_wp2
  go_ret
  exact HE.out
theorem build_lit11d (w : World) (sb so len cap pb p f : Nat) (dep : Int) (s : Stp) (hs : StpOk s) (hp : p < len) (hlen : len ≤ 1024) (hP : PosAt w pb p len) (hd0 : 0 ≤ dep)
   (s0 : w.cell? ⟨sb, so + p * 5, none⟩ = some (.int .u8 s.op)) (s1 : w.cell? ⟨sb, so + p * 5 + 1, none⟩ = some (.int .i32 s.r)) (s2 : w.cell? ⟨sb, so + p * 5 + 2, none⟩ = some (.int .u8 s.a)) (s3 : w.cell? ⟨sb, so + p * 5 + 3, none⟩ = some (.int .u8 s.b)) (s4 : w.cell? ⟨sb, so + p * 5 + 4, none⟩ = some (.bool s.lz)) (hd : 5 ≤ dep) (hop : s.op % 15 + 1 = 11) :
    Calls Ybaf.prog 4 #[.slice (some ⟨sb, so, none⟩) len cap, .pointer (some ⟨pb, 0, none⟩), .int .i64 dep] w fun e w' => BPost pb len (f + 1) w e w' := by
  have hpos : w.cell? ⟨pb, 0, none⟩ = some (.int .i64 (p : Int)) := by rw [cell_of_heap hP.obj]; rfl
  have hpf : w.frozen? ⟨pb, 0, none⟩ = false := frozen_of_heap hP.obj
  have hpb : pb < w.heap.size := lt_of_heap hP.obj
  obtain ⟨hu, hr, ha, hb⟩ := hs
  obtain ⟨u, r, a, b, lz⟩ := s
  simp only at hu hr ha hb s0 s1 s2 s3 s4 hop
  obtain ⟨hu1, hu2⟩ := hu
  obtain ⟨hr1, hr2⟩ := hr
  obtain ⟨ha1, ha2⟩ := ha
  obtain ⟨hb1, hb2⟩ := hb
  have HE := tuck (leaf_post (f := f) hP hp #[.int .u8 u, .int .i32 r, .int .u8 a, .int .u8 b, .bool lz] (leafNd_ok (op := 2) (r := r) (by omega) (by omega) (by omega) (by omega)))
  clear hP
  go_enter Ybaf.func4, Ybaf.ntmps4
  go_wp2
  go_ret
  exact HE.out
theorem build_lit12d (w : World) (sb so len cap pb p f : Nat) (dep : Int) (s : Stp) (hs : StpOk s) (hp : p < len) (hlen : len ≤ 1024) (hP : PosAt w pb p len) (hd0 : 0 ≤ dep)
   (s0 : w.cell? ⟨sb, so + p * 5, none⟩ = some (.int .u8 s.op)) (s1 : w.cell? ⟨sb, so + p * 5 + 1, none⟩ = some (.int .i32 s.r)) (s2 : w.cell? ⟨sb, so + p * 5 + 2, none⟩ = some (.int .u8 s.a)) (s3 : w.cell? ⟨sb, so + p * 5 + 3, none⟩ = some (.int .u8 s.b)) (s4 : w.cell? ⟨sb, so + p * 5 + 4, none⟩ = some (.bool s.lz)) (hd : 5 ≤ dep) (hop : s.op % 15 + 1 = 12) :
    Calls Ybaf.prog 4 #[.slice (some ⟨sb, so, none⟩) len cap, .pointer (some ⟨pb, 0, none⟩), .int .i64 dep] w fun e w' => BPost pb len (f + 1) w e w' := by
  have hpos : w.cell? ⟨pb, 0, none⟩ = some (.int .i64 (p : Int)) := by rw [cell_of_heap hP.obj]; rfl
  have hpf : w.frozen? ⟨pb, 0, none⟩ = false := frozen_of_heap hP.obj
  have hpb : pb < w.heap.size := lt_of_heap hP.obj
  obtain ⟨hu, hr, ha, hb⟩ := hs
  obtain ⟨u, r, a, b, lz⟩ := s
  simp only at hu hr ha hb s0 s1 s2 s3 s4 hop
  obtain ⟨hu1, hu2⟩ := hu
  obtain ⟨hr1, hr2⟩ := hr
  obtain ⟨ha1, ha2⟩ := ha
  obtain ⟨hb1, hb2⟩ := hb
  have HE := tuck (leaf_post (f := f) hP hp #[.int .u8 u, .int .i32 r, .int .u8 a, .int .u8 b, .bool lz] (leafNd_ok (op := 2) (r := r) (by omega) (by omega) (by omega) (by omega)))
  clear hP
  go_enter Ybaf.func4, Ybaf.ntmps4
  go_wp2
  go_ret
  exact HE.out
theorem build_lit13d (w : World) (sb so len cap pb p f : Nat) (dep : Int) (s : Stp) (hs : StpOk s) (hp : p < len) (hlen : len ≤ 1024) (hP : PosAt w pb p len) (hd0 : 0 ≤ dep)
   (s0 : w.cell? ⟨sb, so + p * 5, none⟩ = some (.int .u8 s.op)) (s1 : w.cell? ⟨sb, so + p * 5 + 1, none⟩ = some (.int .i32 s.r)) (s2 : w.cell? ⟨sb, so + p * 5 + 2, none⟩ = some (.int .u8 s.a)) (s3 : w.cell? ⟨sb, so + p * 5 + 3, none⟩ = some (.int .u8 s.b)) (s4 : w.cell? ⟨sb, so + p * 5 + 4, none⟩ = some (.bool s.lz)) (hd : 5 ≤ dep) (hop : s.op % 15 + 1 = 13) :
    Calls Ybaf.prog 4 #[.slice (some ⟨sb, so, none⟩) len cap, .pointer (some ⟨pb, 0, none⟩), .int .i64 dep] w fun e w' => BPost pb len (f + 1) w e w' := by
  have hpos : w.cell? ⟨pb, 0, none⟩ = some (.int .i64 (p : Int)) := by rw [cell_of_heap hP.obj]; rfl
  have hpf : w.frozen? ⟨pb, 0, none⟩ = false := frozen_of_heap hP.obj
  have hpb : pb < w.heap.size := lt_of_heap hP.obj
  obtain ⟨hu, hr, ha, hb⟩ := hs
  obtain ⟨u, r, a, b, lz⟩ := s
  simp only at hu hr ha hb s0 s1 s2 s3 s4 hop
  obtain ⟨hu1, hu2⟩ := hu
  obtain ⟨hr1, hr2⟩ := hr
  obtain ⟨ha1, ha2⟩ := ha
  obtain ⟨hb1, hb2⟩ := hb
  have HE := tuck (leaf_post (f := f) hP hp #[.int .u8 u, .int .i32 r, .int .u8 a, .int .u8 b, .bool lz] (leafNd_ok (op := 2) (r := r) (by omega) (by omega) (by omega) (by omega)))
  clear hP
  go_enter Ybaf.func4, Ybaf.ntmps4
  go_wp2
  go_ret
  exact HE.out
theorem info55 : (Ybaf.prog.info? 55).map (fun i => (i.zero, i.size, i.bytes)) = some (some (.agg #[.int .i32 0, .int .i32 0]), 2, 8) := by kernel_rfl
def flat2 (rs : List (Int × Int)) : List Value := rs.flatMap fun p => [.int .i32 p.1, .int .i32 p.2]
theorem flat2_get : ∀ {rs : List (Int × Int)} {j : Nat} {p : Int × Int}, rs[j]? = some p → (flat2 rs)[j * 2]? = some (.int .i32 p.1) ∧ (flat2 rs)[j * 2 + 1]? = some (.int .i32 p.2)
  | q :: rs, 0, p, h => by simp at h; subst h; exact ⟨rfl, rfl⟩
  | q :: rs, j + 1, p, h => by
    have := flat2_get (rs := rs) (j := j) (p := p) (by simpa using h)
    have e1 : (j + 1) * 2 = j * 2 + 2 := by omega
    have e2 : (j + 1) * 2 + 1 = j * 2 + 1 + 2 := by omega
    rw [e1, show j * 2 + 2 + 1 = j * 2 + 1 + 2 from by omega]
    simpa [flat2] using this
  | [], _, _, h => by simp at h
theorem flat2_len (rs : List (Int × Int)) : (flat2 rs).length = rs.length * 2 := by
  induction rs with
  | nil => rfl
  | cons a l ih => simp [flat2] at ih ⊢; omega
theorem rg_of_row {w : World} {B : Nat} {rv : Value} {rs : List (Int × Int)} (h : w.ownsRow B 55 2 rv rs.length (flat2 rs)) : RgAt w rv rs := by
  rcases h.2 with ⟨h0, h1⟩ | ⟨g, cap, cur, hv, _, hg, h1, h2, h3, h4⟩
  · exact .inl ⟨h0, List.eq_nil_of_length_eq_zero h1⟩
  · refine .inr ⟨g, cap, cur, hv, h1, h2, hg, fun j p hj => ?_⟩
    have hlt : j < rs.length := (List.getElem?_eq_some_iff.1 hj).1
    have := flat2_get hj
    rw [← h4, List.getElem?_take, if_pos (by omega), List.getElem?_take, if_pos (by omega)] at this
    simpa using this
/-- In the middle of a node of ranges. -/
structure ClMid (w : World) (pb p len : Nat) (X : Array Value) (rv : Value) (rs : List (Int × Int)) (wr : World) : Prop where
  node : wr.heap[w.heap.size + 1]? = some (.cells #[.int .u8 3, .slice none 0 0, .int .i32 0, rv, .int .i64 0, .int .i64 0, .bool false, .int .i64 0, .string { data := #[] }] 51 (0, 0))
  step : wr.heap[w.heap.size]? = some (.cells X 53 (0, 0))
  row : wr.ownsRow (w.heap.size + 2) 55 2 rv rs.length (flat2 rs)
  pos : PosAt wr pb p len
  chg : Chg [pb] w wr
  size : w.heap.size + 2 ≤ wr.heap.size
theorem ClMid.post {w : World} {pb p len f : Nat} {X : Array Value} {rv : Value} {rs : List (Int × Int)} {wr : World} (h : ClMid w pb p len X rv rs wr) : BPost pb len (f + 1) w (.returned (.pointer (some ⟨w.heap.size + 1, 0, none⟩))) wr := by
  have hN : NodeAt wr (w.heap.size + 1) ⟨3, [], 0, rs, 0, 0, false, 0⟩ _ _ _ := ⟨h.node, .inl ⟨rfl, rfl⟩, rg_of_row h.row, ⟨by simp, by simp, by simp, .inr (by simp), by simp, by simp, by simp, by simp⟩⟩
  refine ⟨_, rfl, TrIn.mk (by omega) (by have := h.size; omega) hN (inR_nil _ _) (fun k hk => ?_) (fun c hc => by simp at hc), ⟨_, h.pos⟩, h.chg⟩
  obtain ⟨h1, cur, h2⟩ := ownsRow_block h.row hk
  exact ⟨by omega, lt_of_heap h2⟩
theorem ClMid.grow {w : World} {pb p len : Nat} {X : Array Value} {rv : Value} {rs : List (Int × Int)} {wr w2 : World} (h : ClMid w pb p len X rv rs wr) (lo hi : Int) (hpb : pb < w.heap.size) {w1 : World} (h1 : Chg [] wr w1) (hg : w1.grownBy w2 rv.ownBlock) {g cap : Nat}
    (ho : w2.ownsRow (w.heap.size + 2) 55 2 (.slice (some ⟨g, 0, none⟩) (rs.length + 1) cap) (rs.length + 1) (flat2 rs ++ [.int .i32 lo, .int .i32 hi])) (hloc : rv.ownBlock = some g ∨ g = w1.heap.size) :
    w2.heap[w.heap.size + 1]? = some (.cells #[.int .u8 3, .slice none 0 0, .int .i32 0, rv, .int .i64 0, .int .i64 0, .bool false, .int .i64 0, .string { data := #[] }] 51 (0, 0)) ∧
    ClMid w pb p len X (.slice (some ⟨g, 0, none⟩) (rs.length + 1) cap) (rs ++ [(lo, hi)]) (w2.setCell ⟨w.heap.size + 1, 3, none⟩ (.slice (some ⟨g, 0, none⟩) (rs.length + 1) cap)) := by
  have hold : ∀ k, k < w.heap.size + 2 → w2.heap[k]? = wr.heap[k]? := fun k hk => by
    have hsz := h.size
    refine (hg.block k (by have := h1.size; omega) (fun e => ?_)).trans (h1.block k (by omega) (by simp))
    obtain ⟨h2, _⟩ := ownsRow_block h.row e.symm
    omega
  have hn : w2.heap[w.heap.size + 1]? = _ := (hold _ (by omega)).trans h.node
  have hgn : g ≠ w.heap.size + 1 := by
    have hsz := h.size
    rcases hloc with e | e
    · obtain ⟨h2, _⟩ := ownsRow_block h.row e; omega
    · have := h1.size; omega
  have hne : ∀ k, k ≠ w.heap.size + 1 → (w2.setCell ⟨w.heap.size + 1, 3, none⟩ (.slice (some ⟨g, 0, none⟩) (rs.length + 1) cap)).heap[k]? = w2.heap[k]? := fun k hk => Below.heap_setCell w2 ⟨w.heap.size + 1, 3, none⟩ _ k hk
  refine ⟨hn, ⟨?_, ?_, ?_, ⟨?_, h.pos.le⟩, ?_, ?_⟩⟩
  · rw [heap_setCell_same hn]; rfl
  · rw [hne _ (by omega), hold _ (by omega)]; exact h.step
  · have e : flat2 (rs ++ [(lo, hi)]) = flat2 rs ++ [.int .i32 lo, .int .i32 hi] := by simp [flat2]
    rw [e]
    simp only [List.length_append, List.length_cons, List.length_nil]
    exact ownsRow_of_block ho (fun k hk => by cases hk; exact hne g hgn)
  · rw [hne _ (by omega), hold _ (by omega)]; exact h.pos.obj
  · have hs1 : Chg [pb] w w1 := h.chg.trans h1 (by simp)
    have hs2 : Chg [pb] w w2 := hs1.grown hg (fun k hk => by obtain ⟨h2, _⟩ := ownsRow_block h.row hk; right; omega)
    exact hs2.setCell (.inr (by show w.heap.size ≤ w.heap.size + 1; omega)) _
  · have := h.size; have := h1.size; have := hg.size; simp; omega
end Go.Proofs.YbulkdjmsFmt
