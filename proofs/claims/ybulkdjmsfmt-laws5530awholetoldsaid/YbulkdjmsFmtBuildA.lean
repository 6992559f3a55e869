import Derived.Test.YbulkdjmsFmtEmit
import Derived.Test.YbulkdjmsFmtTree
/-! zzs5530abuild: what it leaves in memory; the leaves. -/
namespace Go.Proofs.YbulkdjmsFmt
open Go.RowKit Plain
set_option maxRecDepth 100000
set_option linter.unusedVariables false
def InR (lo hi : Nat) (v : Value) : Prop := ∀ k, v.ownBlock = some k → lo ≤ k ∧ k < hi
/-- A tree whose blocks lie from lo to below hi. -/
def TrIn (w : World) (lo hi : Nat) : Nat → Nat → Prop
  | 0, _ => False
  | f + 1, n => lo ≤ n ∧ n < hi ∧ ∃ d sv rv nm, NodeAt w n d sv rv nm ∧ InR lo hi sv ∧ InR lo hi rv ∧ ∀ c ∈ d.subs, n < c ∧ TrIn w lo hi f c
theorem PtrAt.same {w w' : World} {lo hi : Nat} {sv : Value} {subs : List Nat} (h : PtrAt w sv subs) (hr : InR lo hi sv) (hk : ∀ k, lo ≤ k → k < hi → w'.heap[k]? = w.heap[k]?) : PtrAt w' sv subs := by
  rcases h with h | ⟨g, cap, cur, h1, h2, h3, h4, h5⟩
  · exact .inl h
  · have := hr g (by rw [h1]; rfl)
    exact .inr ⟨g, cap, cur, h1, h2, h3, by rw [hk g this.1 this.2]; exact h4, h5⟩
theorem RgAt.same {w w' : World} {lo hi : Nat} {rv : Value} {rs : List (Int × Int)} (h : RgAt w rv rs) (hr : InR lo hi rv) (hk : ∀ k, lo ≤ k → k < hi → w'.heap[k]? = w.heap[k]?) : RgAt w' rv rs := by
  rcases h with h | ⟨g, cap, cur, h1, h2, h3, h4, h5⟩
  · exact .inl h
  · have := hr g (by rw [h1]; rfl)
    exact .inr ⟨g, cap, cur, h1, h2, h3, by rw [hk g this.1 this.2]; exact h4, h5⟩
theorem InR.wide {lo hi lo' hi' : Nat} {v : Value} (h : InR lo hi v) (h1 : lo' ≤ lo) (h2 : hi ≤ hi') : InR lo' hi' v := fun k hk => ⟨Nat.le_trans h1 (h k hk).1, Nat.lt_of_lt_of_le (h k hk).2 h2⟩
theorem TrIn.keep {w w' : World} {lo hi lo' hi' : Nat} (h1 : lo' ≤ lo) (h2 : hi ≤ hi') (hk : ∀ k, lo ≤ k → k < hi → w'.heap[k]? = w.heap[k]?) : ∀ {f n : Nat}, TrIn w lo hi f n → TrIn w' lo' hi' f n
  | 0, _, h => h
  | _ + 1, n, ⟨a, b, d, sv, rv, nm, hN, hs, hr, hc⟩ =>
    ⟨Nat.le_trans h1 a, Nat.lt_of_lt_of_le b h2, d, sv, rv, nm, ⟨by rw [hk n a b]; exact hN.obj, hN.subs.same hs hk, hN.rg.same hr hk, hN.ok⟩, hs.wide h1 h2, hr.wide h1 h2, fun c hm => ⟨(hc c hm).1, TrIn.keep h1 h2 hk (hc c hm).2⟩⟩
theorem TrIn.mk {w : World} {lo hi f n : Nat} {d : Nd} {sv rv nm : Value} (a : lo ≤ n) (b : n < hi) (hN : NodeAt w n d sv rv nm) (hs : InR lo hi sv) (hr : InR lo hi rv) (hc : ∀ c ∈ d.subs, n < c ∧ TrIn w lo hi f c) : TrIn w lo hi (f + 1) n :=
  ⟨a, b, d, sv, rv, nm, hN, hs, hr, hc⟩
theorem inR_nil (lo hi : Nat) : InR lo hi (.slice none 0 0) := fun k hk => by cases hk
/-- A step. -/
structure Stp where
  op : Int
  r : Int
  a : Int
  b : Int
  lz : Bool
structure StpOk (s : Stp) : Prop where
  op : 0 ≤ s.op ∧ s.op ≤ 255
  r : -2147483648 ≤ s.r ∧ s.r ≤ 2147483647
  a : 0 ≤ s.a ∧ s.a ≤ 255
  b : 0 ≤ s.b ∧ s.b ≤ 255
/-- The steps that came in; pb is another block. -/
structure StepsAt (w : World) (sa : Option Addr) (st : List Stp) (pb : Nat) : Prop where
  few : st.length ≤ 1024
  cells : ∀ (p : Nat) (s : Stp), st[p]? = some s → StpOk s ∧ ∃ sb so, sa = some ⟨sb, so, none⟩ ∧ sb ≠ pb ∧ w.cell? ⟨sb, so + p * 5, none⟩ = some (.int .u8 s.op) ∧ w.cell? ⟨sb, so + p * 5 + 1, none⟩ = some (.int .i32 s.r) ∧ w.cell? ⟨sb, so + p * 5 + 2, none⟩ = some (.int .u8 s.a) ∧
    w.cell? ⟨sb, so + p * 5 + 3, none⟩ = some (.int .u8 s.b) ∧ w.cell? ⟨sb, so + p * 5 + 4, none⟩ = some (.bool s.lz)
theorem StepsAt.keep {w w' : World} {sa : Option Addr} {st : List Stp} {pb : Nat} (h : StepsAt w sa st pb) (hc : Chg [pb] w w') : StepsAt w' sa st pb := by
  refine ⟨h.few, fun p s hs => ?_⟩
  obtain ⟨h0, sb, so, h1, h2, h3, h4, h5, h6, h7⟩ := h.cells p s hs
  have hk : ∀ o, w'.cell? ⟨sb, o, none⟩ = w.cell? ⟨sb, o, none⟩ := fun o => World.cell?_of_block (w := w) (hc.block sb (World.block_lt_of_cell? _ _ h3) (by simpa using h2))
  exact ⟨h0, sb, so, h1, h2, by rw [hk]; exact h3, by rw [hk]; exact h4, by rw [hk]; exact h5, by rw [hk]; exact h6, by rw [hk]; exact h7⟩
structure PosAt (w : World) (pb p len : Nat) : Prop where
  obj : w.heap[pb]? = some (.cells #[.int .i64 (p : Int)] 3 (0, 0))
  le : p ≤ len
/-- What the builder leaves. -/
def BPost (pb len f : Nat) (w : World) (e : Ending) (w' : World) : Prop :=
  ∃ n, e = .returned (.pointer (some ⟨n, 0, none⟩)) ∧ TrIn w' w.heap.size w'.heap.size f n ∧ (∃ p', PosAt w' pb p' len) ∧ Chg [pb] w w'
def BuildOk (sa : Option Addr) (st : List Stp) (cap pb f : Nat) : Prop :=
  ∀ (w : World) (p : Nat), StepsAt w sa st pb → PosAt w pb p st.length →
    Calls Ybaf.prog 4 #[.slice sa st.length cap, .pointer (some ⟨pb, 0, none⟩), .int .i64 (6 - (f : Int))] w fun e w' => BPost pb st.length f w e w'
theorem heap_new (w : World) (o : Obj) : (w.alloc o).heap[w.heap.size]? = some o := by show (w.heap.push o)[w.heap.size]? = _; simp
theorem PosAt.keep {w w' : World} {pb p len : Nat} (h : PosAt w pb p len) (hc : Chg [] w w') : PosAt w' pb p len := ⟨by rw [hc.block pb (lt_of_heap h.obj) (by simp)]; exact h.obj, h.le⟩
theorem PosAt.next {w : World} {pb p len : Nat} (h : PosAt w pb p len) (hp : p < len) : PosAt (w.setCell ⟨pb, 0, none⟩ (.int .i64 ((p : Int) + 1))) pb (p + 1) len :=
  ⟨by rw [heap_setCell_same h.obj]; rfl, hp⟩
/-- The world in which the step has been read and the node made. -/
theorem made {w : World} {pb p len : Nat} (hP : PosAt w pb p len) (hp : p < len) (X Y : Array Value) :
    (((w.setCell ⟨pb, 0, none⟩ (.int .i64 ((p : Int) + 1))).alloc (.cells X 53)).alloc (.cells Y 51)).heap[w.heap.size + 1]? = some (.cells Y 51 (0, 0)) ∧
    PosAt (((w.setCell ⟨pb, 0, none⟩ (.int .i64 ((p : Int) + 1))).alloc (.cells X 53)).alloc (.cells Y 51)) pb (p + 1) len ∧
    Chg [pb] w (((w.setCell ⟨pb, 0, none⟩ (.int .i64 ((p : Int) + 1))).alloc (.cells X 53)).alloc (.cells Y 51)) ∧
    (((w.setCell ⟨pb, 0, none⟩ (.int .i64 ((p : Int) + 1))).alloc (.cells X 53)).alloc (.cells Y 51)).heap.size = w.heap.size + 2 := by
  have e : ((w.setCell ⟨pb, 0, none⟩ (.int .i64 ((p : Int) + 1))).alloc (.cells X 53)).heap.size = w.heap.size + 1 := by simp
  refine ⟨?_, (hP.next hp).keep (((Chg.refl _ _).alloc _).alloc _), (((Chg.refl [pb] w).setCell (.inl (by simp)) _).alloc _).alloc _, by simp⟩
  have := heap_new ((w.setCell ⟨pb, 0, none⟩ (.int .i64 ((p : Int) + 1))).alloc (.cells X 53)) (.cells Y 51)
  rw [e] at this
  exact this
/-- A node without children or ranges. -/
def leafNd (op r : Int) : Nd := ⟨op, [], r, [], 0, 0, false, 0⟩
theorem leafNd_ok {op r : Int} (h : 1 ≤ op ∧ op ≤ 15) (h2 : ¬ (op = 8 ∨ op = 9 ∨ op = 12 ∨ op = 13)) (h3 : op ≠ 11) (hr : -2147483648 ≤ r ∧ r ≤ 2147483647) : NdOk (leafNd op r) :=
  ⟨h, hr, by simp [leafNd], .inr (by simp [leafNd]), by simp [leafNd], by simp [leafNd], fun h => absurd h h2, fun h => absurd h h3⟩
theorem leaf_post {w : World} {pb p len f : Nat} (hP : PosAt w pb p len) (hp : p < len) (X : Array Value) {op r : Int} (hok : NdOk (leafNd op r)) :
    BPost pb len (f + 1) w (.returned (.pointer (some ⟨w.heap.size + 1, 0, none⟩))) (((w.setCell ⟨pb, 0, none⟩ (.int .i64 ((p : Int) + 1))).alloc (.cells X 53)).alloc (.cells #[.int .u8 op, .slice none 0 0, .int .i32 r, .slice none 0 0, .int .i64 0, .int .i64 0, .bool false, .int .i64 0, .string { data := #[] }] 51)) := by
  obtain ⟨h1, h2, h3, h4⟩ := made hP hp X #[.int .u8 op, .slice none 0 0, .int .i32 r, .slice none 0 0, .int .i64 0, .int .i64 0, .bool false, .int .i64 0, .string { data := #[] }]
  have hN : NodeAt _ (w.heap.size + 1) (leafNd op r) _ _ _ := ⟨h1, .inl ⟨rfl, rfl⟩, .inl ⟨rfl, rfl⟩, hok⟩
  exact ⟨_, rfl, TrIn.mk (by omega) (by rw [h4]; omega) hN (inR_nil _ _) (inR_nil _ _) (fun c hc => by simp [leafNd] at hc), ⟨_, h2⟩, h3⟩
/-- No step is left: an empty node. -/
theorem build_end (sa : Option Addr) (cap pb f : Nat) (dep : Int) (w : World) (p len : Nat) (hP : PosAt w pb p len) (hlen : len ≤ 1024) (hp : ¬ p < len) :
    Calls Ybaf.prog 4 #[.slice sa len cap, .pointer (some ⟨pb, 0, none⟩), .int .i64 dep] w fun e w' => BPost pb len (f + 1) w e w' := by
  have hpos : w.cell? ⟨pb, 0, none⟩ = some (.int .i64 (p : Int)) := by rw [cell_of_heap hP.obj]; rfl
  have hge : (len : Int) ≤ (p : Int) := by omega
  have HE : Hid (BPost pb len (f + 1) w (.returned (.pointer (some ⟨w.heap.size, 0, none⟩))) (w.alloc (.cells #[.int .u8 1, .slice none 0 0, .int .i32 0, .slice none 0 0, .int .i64 0, .int .i64 0, .bool false, .int .i64 0, .string { data := #[] }] 51))) :=
    have hN : NodeAt (w.alloc (.cells #[.int .u8 1, .slice none 0 0, .int .i32 0, .slice none 0 0, .int .i64 0, .int .i64 0, .bool false, .int .i64 0, .string { data := #[] }] 51)) w.heap.size (leafNd 1 0) _ _ _ := ⟨heap_new _ _, .inl ⟨rfl, rfl⟩, .inl ⟨rfl, rfl⟩, leafNd_ok (by omega) (by omega) (by omega) (by omega)⟩
    ⟨_, rfl, TrIn.mk (Nat.le_refl _) (by simp) hN (inR_nil _ _) (inR_nil _ _) (fun c hc => by simp [leafNd] at hc), ⟨_, hP.keep ((Chg.refl _ _).alloc _)⟩, (Chg.refl _ _).alloc _⟩
  clear hP hp
  go_enter Ybaf.func4, Ybaf.ntmps4
  go_wp2
  go_ret
  exact HE.out
theorem build_leaf1 (w : World) (sb so len cap pb p f : Nat) (dep : Int) (s : Stp) (hs : StpOk s) (hp : p < len) (hlen : len ≤ 1024) (hP : PosAt w pb p len) (hd0 : 0 ≤ dep)
   (s0 : w.cell? ⟨sb, so + p * 5, none⟩ = some (.int .u8 s.op)) (s1 : w.cell? ⟨sb, so + p * 5 + 1, none⟩ = some (.int .i32 s.r)) (s2 : w.cell? ⟨sb, so + p * 5 + 2, none⟩ = some (.int .u8 s.a)) (s3 : w.cell? ⟨sb, so + p * 5 + 3, none⟩ = some (.int .u8 s.b)) (s4 : w.cell? ⟨sb, so + p * 5 + 4, none⟩ = some (.bool s.lz)) (hd : dep < 5) (hop : s.op % 15 + 1 = 1) :
    Calls Ybaf.prog 4 #[.slice (some ⟨sb, so, none⟩) len cap, .pointer (some ⟨pb, 0, none⟩), .int .i64 dep] w fun e w' => BPost pb len (f + 1) w e w' := by
  have hpos : w.cell? ⟨pb, 0, none⟩ = some (.int .i64 (p : Int)) := by rw [cell_of_heap hP.obj]; rfl
  have hpf : w.frozen? ⟨pb, 0, none⟩ = false := frozen_of_heap hP.obj
  have hpb : pb < w.heap.size := lt_of_heap hP.obj
  obtain ⟨hu, hr, ha, hb⟩ := hs
  obtain ⟨u, r, a, b, lz⟩ := s
  simp only at hu hr ha hb s0 s1 s2 s3 s4 hop
  obtain ⟨hu1, hu2⟩ := hu
  obtain ⟨hr1, hr2⟩ := hr
  obtain ⟨ha1, ha2⟩ := ha
  obtain ⟨hb1, hb2⟩ := hb
  have HE := tuck (leaf_post (f := f) hP hp #[.int .u8 u, .int .i32 r, .int .u8 a, .int .u8 b, .bool lz] (leafNd_ok (op := 1) (r := 0) (by omega) (by omega) (by omega) (by omega)))
  clear hP
  go_enter Ybaf.func4, Ybaf.ntmps4
  go_wp2
  go_ret
  exact HE.out
theorem build_leaf1d (w : World) (sb so len cap pb p f : Nat) (dep : Int) (s : Stp) (hs : StpOk s) (hp : p < len) (hlen : len ≤ 1024) (hP : PosAt w pb p len) (hd0 : 0 ≤ dep)
   (s0 : w.cell? ⟨sb, so + p * 5, none⟩ = some (.int .u8 s.op)) (s1 : w.cell? ⟨sb, so + p * 5 + 1, none⟩ = some (.int .i32 s.r)) (s2 : w.cell? ⟨sb, so + p * 5 + 2, none⟩ = some (.int .u8 s.a)) (s3 : w.cell? ⟨sb, so + p * 5 + 3, none⟩ = some (.int .u8 s.b)) (s4 : w.cell? ⟨sb, so + p * 5 + 4, none⟩ = some (.bool s.lz)) (hd : 5 ≤ dep) (hop : s.op % 15 + 1 = 1) :
    Calls Ybaf.prog 4 #[.slice (some ⟨sb, so, none⟩) len cap, .pointer (some ⟨pb, 0, none⟩), .int .i64 dep] w fun e w' => BPost pb len (f + 1) w e w' := by
  have hpos : w.cell? ⟨pb, 0, none⟩ = some (.int .i64 (p : Int)) := by rw [cell_of_heap hP.obj]; rfl
  have hpf : w.frozen? ⟨pb, 0, none⟩ = false := frozen_of_heap hP.obj
  have hpb : pb < w.heap.size := lt_of_heap hP.obj
  obtain ⟨hu, hr, ha, hb⟩ := hs
  obtain ⟨u, r, a, b, lz⟩ := s
  simp only at hu hr ha hb s0 s1 s2 s3 s4 hop
  obtain ⟨hu1, hu2⟩ := hu
  obtain ⟨hr1, hr2⟩ := hr
  obtain ⟨ha1, ha2⟩ := ha
  obtain ⟨hb1, hb2⟩ := hb
  have HE := tuck (leaf_post (f := f) hP hp #[.int .u8 u, .int .i32 r, .int .u8 a, .int .u8 b, .bool lz] (leafNd_ok (op := 1) (r := 0) (by omega) (by omega) (by omega) (by omega)))
  clear hP
  go_enter Ybaf.func4, Ybaf.ntmps4
  go_wp2
  go_ret
  exact HE.out
theorem build_leaf4 (w : World) (sb so len cap pb p f : Nat) (dep : Int) (s : Stp) (hs : StpOk s) (hp : p < len) (hlen : len ≤ 1024) (hP : PosAt w pb p len) (hd0 : 0 ≤ dep)
   (s0 : w.cell? ⟨sb, so + p * 5, none⟩ = some (.int .u8 s.op)) (s1 : w.cell? ⟨sb, so + p * 5 + 1, none⟩ = some (.int .i32 s.r)) (s2 : w.cell? ⟨sb, so + p * 5 + 2, none⟩ = some (.int .u8 s.a)) (s3 : w.cell? ⟨sb, so + p * 5 + 3, none⟩ = some (.int .u8 s.b)) (s4 : w.cell? ⟨sb, so + p * 5 + 4, none⟩ = some (.bool s.lz)) (hd : dep < 5) (hop : s.op % 15 + 1 = 4) :
    Calls Ybaf.prog 4 #[.slice (some ⟨sb, so, none⟩) len cap, .pointer (some ⟨pb, 0, none⟩), .int .i64 dep] w fun e w' => BPost pb len (f + 1) w e w' := by
  have hpos : w.cell? ⟨pb, 0, none⟩ = some (.int .i64 (p : Int)) := by rw [cell_of_heap hP.obj]; rfl
  have hpf : w.frozen? ⟨pb, 0, none⟩ = false := frozen_of_heap hP.obj
  have hpb : pb < w.heap.size := lt_of_heap hP.obj
  obtain ⟨hu, hr, ha, hb⟩ := hs
  obtain ⟨u, r, a, b, lz⟩ := s
  simp only at hu hr ha hb s0 s1 s2 s3 s4 hop
  obtain ⟨hu1, hu2⟩ := hu
  obtain ⟨hr1, hr2⟩ := hr
  obtain ⟨ha1, ha2⟩ := ha
  obtain ⟨hb1, hb2⟩ := hb
  have HE := tuck (leaf_post (f := f) hP hp #[.int .u8 u, .int .i32 r, .int .u8 a, .int .u8 b, .bool lz] (leafNd_ok (op := 4) (r := 0) (by omega) (by omega) (by omega) (by omega)))
  clear hP
  go_enter Ybaf.func4, Ybaf.ntmps4
  go_wp2
  go_ret
  exact HE.out
theorem build_leaf4d (w : World) (sb so len cap pb p f : Nat) (dep : Int) (s : Stp) (hs : StpOk s) (hp : p < len) (hlen : len ≤ 1024) (hP : PosAt w pb p len) (hd0 : 0 ≤ dep)
   (s0 : w.cell? ⟨sb, so + p * 5, none⟩ = some (.int .u8 s.op)) (s1 : w.cell? ⟨sb, so + p * 5 + 1, none⟩ = some (.int .i32 s.r)) (s2 : w.cell? ⟨sb, so + p * 5 + 2, none⟩ = some (.int .u8 s.a)) (s3 : w.cell? ⟨sb, so + p * 5 + 3, none⟩ = some (.int .u8 s.b)) (s4 : w.cell? ⟨sb, so + p * 5 + 4, none⟩ = some (.bool s.lz)) (hd : 5 ≤ dep) (hop : s.op % 15 + 1 = 4) :
    Calls Ybaf.prog 4 #[.slice (some ⟨sb, so, none⟩) len cap, .pointer (some ⟨pb, 0, none⟩), .int .i64 dep] w fun e w' => BPost pb len (f + 1) w e w' := by
  have hpos : w.cell? ⟨pb, 0, none⟩ = some (.int .i64 (p : Int)) := by rw [cell_of_heap hP.obj]; rfl
  have hpf : w.frozen? ⟨pb, 0, none⟩ = false := frozen_of_heap hP.obj
  have hpb : pb < w.heap.size := lt_of_heap hP.obj
  obtain ⟨hu, hr, ha, hb⟩ := hs
  obtain ⟨u, r, a, b, lz⟩ := s
  simp only at hu hr ha hb s0 s1 s2 s3 s4 hop
  obtain ⟨hu1, hu2⟩ := hu
  obtain ⟨hr1, hr2⟩ := hr
  obtain ⟨ha1, ha2⟩ := ha
  obtain ⟨hb1, hb2⟩ := hb
  have HE := tuck (leaf_post (f := f) hP hp #[.int .u8 u, .int .i32 r, .int .u8 a, .int .u8 b, .bool lz] (leafNd_ok (op := 4) (r := 0) (by omega) (by omega) (by omega) (by omega)))
  clear hP
  go_enter Ybaf.func4, Ybaf.ntmps4
  go_wp2
  go_ret
  exact HE.out
theorem build_leaf5 (w : World) (sb so len cap pb p f : Nat) (dep : Int) (s : Stp) (hs : StpOk s) (hp : p < len) (hlen : len ≤ 1024) (hP : PosAt w pb p len) (hd0 : 0 ≤ dep)
   (s0 : w.cell? ⟨sb, so + p * 5, none⟩ = some (.int .u8 s.op)) (s1 : w.cell? ⟨sb, so + p * 5 + 1, none⟩ = some (.int .i32 s.r)) (s2 : w.cell? ⟨sb, so + p * 5 + 2, none⟩ = some (.int .u8 s.a)) (s3 : w.cell? ⟨sb, so + p * 5 + 3, none⟩ = some (.int .u8 s.b)) (s4 : w.cell? ⟨sb, so + p * 5 + 4, none⟩ = some (.bool s.lz)) (hd : dep < 5) (hop : s.op % 15 + 1 = 5) :
    Calls Ybaf.prog 4 #[.slice (some ⟨sb, so, none⟩) len cap, .pointer (some ⟨pb, 0, none⟩), .int .i64 dep] w fun e w' => BPost pb len (f + 1) w e w' := by
  have hpos : w.cell? ⟨pb, 0, none⟩ = some (.int .i64 (p : Int)) := by rw [cell_of_heap hP.obj]; rfl
  have hpf : w.frozen? ⟨pb, 0, none⟩ = false := frozen_of_heap hP.obj
  have hpb : pb < w.heap.size := lt_of_heap hP.obj
  obtain ⟨hu, hr, ha, hb⟩ := hs
  obtain ⟨u, r, a, b, lz⟩ := s
  simp only at hu hr ha hb s0 s1 s2 s3 s4 hop
  obtain ⟨hu1, hu2⟩ := hu
  obtain ⟨hr1, hr2⟩ := hr
  obtain ⟨ha1, ha2⟩ := ha
  obtain ⟨hb1, hb2⟩ := hb
  have HE := tuck (leaf_post (f := f) hP hp #[.int .u8 u, .int .i32 r, .int .u8 a, .int .u8 b, .bool lz] (leafNd_ok (op := 5) (r := 0) (by omega) (by omega) (by omega) (by omega)))
  clear hP
  go_enter Ybaf.func4, Ybaf.ntmps4
  go_wp2
  go_ret
  exact HE.out
theorem build_leaf5d (w : World) (sb so len cap pb p f : Nat) (dep : Int) (s : Stp) (hs : StpOk s) (hp : p < len) (hlen : len ≤ 1024) (hP : PosAt w pb p len) (hd0 : 0 ≤ dep)
   (s0 : w.cell? ⟨sb, so + p * 5, none⟩ = some (.int .u8 s.op)) (s1 : w.cell? ⟨sb, so + p * 5 + 1, none⟩ = some (.int .i32 s.r)) (s2 : w.cell? ⟨sb, so + p * 5 + 2, none⟩ = some (.int .u8 s.a)) (s3 : w.cell? ⟨sb, so + p * 5 + 3, none⟩ = some (.int .u8 s.b)) (s4 : w.cell? ⟨sb, so + p * 5 + 4, none⟩ = some (.bool s.lz)) (hd : 5 ≤ dep) (hop : s.op % 15 + 1 = 5) :
    Calls Ybaf.prog 4 #[.slice (some ⟨sb, so, none⟩) len cap, .pointer (some ⟨pb, 0, none⟩), .int .i64 dep] w fun e w' => BPost pb len (f + 1) w e w' := by
  have hpos : w.cell? ⟨pb, 0, none⟩ = some (.int .i64 (p : Int)) := by rw [cell_of_heap hP.obj]; rfl
  have hpf : w.frozen? ⟨pb, 0, none⟩ = false := frozen_of_heap hP.obj
  have hpb : pb < w.heap.size := lt_of_heap hP.obj
  obtain ⟨hu, hr, ha, hb⟩ := hs
  obtain ⟨u, r, a, b, lz⟩ := s
  simp only at hu hr ha hb s0 s1 s2 s3 s4 hop
  obtain ⟨hu1, hu2⟩ := hu
  obtain ⟨hr1, hr2⟩ := hr
  obtain ⟨ha1, ha2⟩ := ha
  obtain ⟨hb1, hb2⟩ := hb
  have HE := tuck (leaf_post (f := f) hP hp #[.int .u8 u, .int .i32 r, .int .u8 a, .int .u8 b, .bool lz] (leafNd_ok (op := 5) (r := 0) (by omega) (by omega) (by omega) (by omega)))
  clear hP
  go_enter Ybaf.func4, Ybaf.ntmps4
  go_wp2
  go_ret
  exact HE.out
theorem build_leaf6 (w : World) (sb so len cap pb p f : Nat) (dep : Int) (s : Stp) (hs : StpOk s) (hp : p < len) (hlen : len ≤ 1024) (hP : PosAt w pb p len) (hd0 : 0 ≤ dep)
   (s0 : w.cell? ⟨sb, so + p * 5, none⟩ = some (.int .u8 s.op)) (s1 : w.cell? ⟨sb, so + p * 5 + 1, none⟩ = some (.int .i32 s.r)) (s2 : w.cell? ⟨sb, so + p * 5 + 2, none⟩ = some (.int .u8 s.a)) (s3 : w.cell? ⟨sb, so + p * 5 + 3, none⟩ = some (.int .u8 s.b)) (s4 : w.cell? ⟨sb, so + p * 5 + 4, none⟩ = some (.bool s.lz)) (hd : dep < 5) (hop : s.op % 15 + 1 = 6) :
    Calls Ybaf.prog 4 #[.slice (some ⟨sb, so, none⟩) len cap, .pointer (some ⟨pb, 0, none⟩), .int .i64 dep] w fun e w' => BPost pb len (f + 1) w e w' := by
  have hpos : w.cell? ⟨pb, 0, none⟩ = some (.int .i64 (p : Int)) := by rw [cell_of_heap hP.obj]; rfl
  have hpf : w.frozen? ⟨pb, 0, none⟩ = false := frozen_of_heap hP.obj
  have hpb : pb < w.heap.size := lt_of_heap hP.obj
  obtain ⟨hu, hr, ha, hb⟩ := hs
  obtain ⟨u, r, a, b, lz⟩ := s
  simp only at hu hr ha hb s0 s1 s2 s3 s4 hop
  obtain ⟨hu1, hu2⟩ := hu
  obtain ⟨hr1, hr2⟩ := hr
  obtain ⟨ha1, ha2⟩ := ha
  obtain ⟨hb1, hb2⟩ := hb
  have HE := tuck (leaf_post (f := f) hP hp #[.int .u8 u, .int .i32 r, .int .u8 a, .int .u8 b, .bool lz] (leafNd_ok (op := 6) (r := 0) (by omega) (by omega) (by omega) (by omega)))
  clear hP
  go_enter Ybaf.func4, Ybaf.ntmps4
  go_wp2
  go_ret
  exact HE.out
theorem build_leaf6d (w : World) (sb so len cap pb p f : Nat) (dep : Int) (s : Stp) (hs : StpOk s) (hp : p < len) (hlen : len ≤ 1024) (hP : PosAt w pb p len) (hd0 : 0 ≤ dep)
   (s0 : w.cell? ⟨sb, so + p * 5, none⟩ = some (.int .u8 s.op)) (s1 : w.cell? ⟨sb, so + p * 5 + 1, none⟩ = some (.int .i32 s.r)) (s2 : w.cell? ⟨sb, so + p * 5 + 2, none⟩ = some (.int .u8 s.a)) (s3 : w.cell? ⟨sb, so + p * 5 + 3, none⟩ = some (.int .u8 s.b)) (s4 : w.cell? ⟨sb, so + p * 5 + 4, none⟩ = some (.bool s.lz)) (hd : 5 ≤ dep) (hop : s.op % 15 + 1 = 6) :
    Calls Ybaf.prog 4 #[.slice (some ⟨sb, so, none⟩) len cap, .pointer (some ⟨pb, 0, none⟩), .int .i64 dep] w fun e w' => BPost pb len (f + 1) w e w' := by
  have hpos : w.cell? ⟨pb, 0, none⟩ = some (.int .i64 (p : Int)) := by rw [cell_of_heap hP.obj]; rfl
  have hpf : w.frozen? ⟨pb, 0, none⟩ = false := frozen_of_heap hP.obj
  have hpb : pb < w.heap.size := lt_of_heap hP.obj
  obtain ⟨hu, hr, ha, hb⟩ := hs
  obtain ⟨u, r, a, b, lz⟩ := s
  simp only at hu hr ha hb s0 s1 s2 s3 s4 hop
  obtain ⟨hu1, hu2⟩ := hu
  obtain ⟨hr1, hr2⟩ := hr
  obtain ⟨ha1, ha2⟩ := ha
  obtain ⟨hb1, hb2⟩ := hb
  have HE := tuck (leaf_post (f := f) hP hp #[.int .u8 u, .int .i32 r, .int .u8 a, .int .u8 b, .bool lz] (leafNd_ok (op := 6) (r := 0) (by omega) (by omega) (by omega) (by omega)))
  clear hP
  go_enter Ybaf.func4, Ybaf.ntmps4
  go_wp2
  go_ret
  exact HE.out
theorem build_leaf7 (w : World) (sb so len cap pb p f : Nat) (dep : Int) (s : Stp) (hs : StpOk s) (hp : p < len) (hlen : len ≤ 1024) (hP : PosAt w pb p len) (hd0 : 0 ≤ dep)
   (s0 : w.cell? ⟨sb, so + p * 5, none⟩ = some (.int .u8 s.op)) (s1 : w.cell? ⟨sb, so + p * 5 + 1, none⟩ = some (.int .i32 s.r)) (s2 : w.cell? ⟨sb, so + p * 5 + 2, none⟩ = some (.int .u8 s.a)) (s3 : w.cell? ⟨sb, so + p * 5 + 3, none⟩ = some (.int .u8 s.b)) (s4 : w.cell? ⟨sb, so + p * 5 + 4, none⟩ = some (.bool s.lz)) (hd : dep < 5) (hop : s.op % 15 + 1 = 7) :
    Calls Ybaf.prog 4 #[.slice (some ⟨sb, so, none⟩) len cap, .pointer (some ⟨pb, 0, none⟩), .int .i64 dep] w fun e w' => BPost pb len (f + 1) w e w' := by
  have hpos : w.cell? ⟨pb, 0, none⟩ = some (.int .i64 (p : Int)) := by rw [cell_of_heap hP.obj]; rfl
  have hpf : w.frozen? ⟨pb, 0, none⟩ = false := frozen_of_heap hP.obj
  have hpb : pb < w.heap.size := lt_of_heap hP.obj
  obtain ⟨hu, hr, ha, hb⟩ := hs
  obtain ⟨u, r, a, b, lz⟩ := s
  simp only at hu hr ha hb s0 s1 s2 s3 s4 hop
  obtain ⟨hu1, hu2⟩ := hu
  obtain ⟨hr1, hr2⟩ := hr
  obtain ⟨ha1, ha2⟩ := ha
  obtain ⟨hb1, hb2⟩ := hb
  have HE := tuck (leaf_post (f := f) hP hp #[.int .u8 u, .int .i32 r, .int .u8 a, .int .u8 b, .bool lz] (leafNd_ok (op := 7) (r := 0) (by omega) (by omega) (by omega) (by omega)))
  clear hP
  go_enter Ybaf.func4, Ybaf.ntmps4
  go_wp2
  go_ret
  exact HE.out
theorem build_leaf7d (w : World) (sb so len cap pb p f : Nat) (dep : Int) (s : Stp) (hs : StpOk s) (hp : p < len) (hlen : len ≤ 1024) (hP : PosAt w pb p len) (hd0 : 0 ≤ dep)
   (s0 : w.cell? ⟨sb, so + p * 5, none⟩ = some (.int .u8 s.op)) (s1 : w.cell? ⟨sb, so + p * 5 + 1, none⟩ = some (.int .i32 s.r)) (s2 : w.cell? ⟨sb, so + p * 5 + 2, none⟩ = some (.int .u8 s.a)) (s3 : w.cell? ⟨sb, so + p * 5 + 3, none⟩ = some (.int .u8 s.b)) (s4 : w.cell? ⟨sb, so + p * 5 + 4, none⟩ = some (.bool s.lz)) (hd : 5 ≤ dep) (hop : s.op % 15 + 1 = 7) :
    Calls Ybaf.prog 4 #[.slice (some ⟨sb, so, none⟩) len cap, .pointer (some ⟨pb, 0, none⟩), .int .i64 dep] w fun e w' => BPost pb len (f + 1) w e w' := by
  have hpos : w.cell? ⟨pb, 0, none⟩ = some (.int .i64 (p : Int)) := by rw [cell_of_heap hP.obj]; rfl
  have hpf : w.frozen? ⟨pb, 0, none⟩ = false := frozen_of_heap hP.obj
  have hpb : pb < w.heap.size := lt_of_heap hP.obj
  obtain ⟨hu, hr, ha, hb⟩ := hs
  obtain ⟨u, r, a, b, lz⟩ := s
  simp only at hu hr ha hb s0 s1 s2 s3 s4 hop
  obtain ⟨hu1, hu2⟩ := hu
  obtain ⟨hr1, hr2⟩ := hr
  obtain ⟨ha1, ha2⟩ := ha
  obtain ⟨hb1, hb2⟩ := hb
  have HE := tuck (leaf_post (f := f) hP hp #[.int .u8 u, .int .i32 r, .int .u8 a, .int .u8 b, .bool lz] (leafNd_ok (op := 7) (r := 0) (by omega) (by omega) (by omega) (by omega)))
  clear hP
  go_enter Ybaf.func4, Ybaf.ntmps4
  go_wp2
  go_ret
  exact HE.out
theorem build_leaf14 (w : World) (sb so len cap pb p f : Nat) (dep : Int) (s : Stp) (hs : StpOk s) (hp : p < len) (hlen : len ≤ 1024) (hP : PosAt w pb p len) (hd0 : 0 ≤ dep)
   (s0 : w.cell? ⟨sb, so + p * 5, none⟩ = some (.int .u8 s.op)) (s1 : w.cell? ⟨sb, so + p * 5 + 1, none⟩ = some (.int .i32 s.r)) (s2 : w.cell? ⟨sb, so + p * 5 + 2, none⟩ = some (.int .u8 s.a)) (s3 : w.cell? ⟨sb, so + p * 5 + 3, none⟩ = some (.int .u8 s.b)) (s4 : w.cell? ⟨sb, so + p * 5 + 4, none⟩ = some (.bool s.lz)) (hd : dep < 5) (hop : s.op % 15 + 1 = 14) :
    Calls Ybaf.prog 4 #[.slice (some ⟨sb, so, none⟩) len cap, .pointer (some ⟨pb, 0, none⟩), .int .i64 dep] w fun e w' => BPost pb len (f + 1) w e w' := by
  have hpos : w.cell? ⟨pb, 0, none⟩ = some (.int .i64 (p : Int)) := by rw [cell_of_heap hP.obj]; rfl
  have hpf : w.frozen? ⟨pb, 0, none⟩ = false := frozen_of_heap hP.obj
  have hpb : pb < w.heap.size := lt_of_heap hP.obj
  obtain ⟨hu, hr, ha, hb⟩ := hs
  obtain ⟨u, r, a, b, lz⟩ := s
  simp only at hu hr ha hb s0 s1 s2 s3 s4 hop
  obtain ⟨hu1, hu2⟩ := hu
  obtain ⟨hr1, hr2⟩ := hr
  obtain ⟨ha1, ha2⟩ := ha
  obtain ⟨hb1, hb2⟩ := hb
  have HE := tuck (leaf_post (f := f) hP hp #[.int .u8 u, .int .i32 r, .int .u8 a, .int .u8 b, .bool lz] (leafNd_ok (op := 14) (r := 0) (by omega) (by omega) (by omega) (by omega)))
  clear hP
  go_enter Ybaf.func4, Ybaf.ntmps4
  go_wp2
  go_ret
  exact HE.out
theorem build_leaf14d (w : World) (sb so len cap pb p f : Nat) (dep : Int) (s : Stp) (hs : StpOk s) (hp : p < len) (hlen : len ≤ 1024) (hP : PosAt w pb p len) (hd0 : 0 ≤ dep)
   (s0 : w.cell? ⟨sb, so + p * 5, none⟩ = some (.int .u8 s.op)) (s1 : w.cell? ⟨sb, so + p * 5 + 1, none⟩ = some (.int .i32 s.r)) (s2 : w.cell? ⟨sb, so + p * 5 + 2, none⟩ = some (.int .u8 s.a)) (s3 : w.cell? ⟨sb, so + p * 5 + 3, none⟩ = some (.int .u8 s.b)) (s4 : w.cell? ⟨sb, so + p * 5 + 4, none⟩ = some (.bool s.lz)) (hd : 5 ≤ dep) (hop : s.op % 15 + 1 = 14) :
    Calls Ybaf.prog 4 #[.slice (some ⟨sb, so, none⟩) len cap, .pointer (some ⟨pb, 0, none⟩), .int .i64 dep] w fun e w' => BPost pb len (f + 1) w e w' := by
  have hpos : w.cell? ⟨pb, 0, none⟩ = some (.int .i64 (p : Int)) := by rw [cell_of_heap hP.obj]; rfl
  have hpf : w.frozen? ⟨pb, 0, none⟩ = false := frozen_of_heap hP.obj
  have hpb : pb < w.heap.size := lt_of_heap hP.obj
  obtain ⟨hu, hr, ha, hb⟩ := hs
  obtain ⟨u, r, a, b, lz⟩ := s
  simp only at hu hr ha hb s0 s1 s2 s3 s4 hop
  obtain ⟨hu1, hu2⟩ := hu
  obtain ⟨hr1, hr2⟩ := hr
  obtain ⟨ha1, ha2⟩ := ha
  obtain ⟨hb1, hb2⟩ := hb
  have HE := tuck (leaf_post (f := f) hP hp #[.int .u8 u, .int .i32 r, .int .u8 a, .int .u8 b, .bool lz] (leafNd_ok (op := 14) (r := 0) (by omega) (by omega) (by omega) (by omega)))
  clear hP
  go_enter Ybaf.func4, Ybaf.ntmps4
  go_wp2
  go_ret
  exact HE.out
theorem build_leaf15 (w : World) (sb so len cap pb p f : Nat) (dep : Int) (s : Stp) (hs : StpOk s) (hp : p < len) (hlen : len ≤ 1024) (hP : PosAt w pb p len) (hd0 : 0 ≤ dep)
   (s0 : w.cell? ⟨sb, so + p * 5, none⟩ = some (.int .u8 s.op)) (s1 : w.cell? ⟨sb, so + p * 5 + 1, none⟩ = some (.int .i32 s.r)) (s2 : w.cell? ⟨sb, so + p * 5 + 2, none⟩ = some (.int .u8 s.a)) (s3 : w.cell? ⟨sb, so + p * 5 + 3, none⟩ = some (.int .u8 s.b)) (s4 : w.cell? ⟨sb, so + p * 5 + 4, none⟩ = some (.bool s.lz)) (hd : dep < 5) (hop : s.op % 15 + 1 = 15) :
    Calls Ybaf.prog 4 #[.slice (some ⟨sb, so, none⟩) len cap, .pointer (some ⟨pb, 0, none⟩), .int .i64 dep] w fun e w' => BPost pb len (f + 1) w e w' := by
  have hpos : w.cell? ⟨pb, 0, none⟩ = some (.int .i64 (p : Int)) := by rw [cell_of_heap hP.obj]; rfl
  have hpf : w.frozen? ⟨pb, 0, none⟩ = false := frozen_of_heap hP.obj
  have hpb : pb < w.heap.size := lt_of_heap hP.obj
  obtain ⟨hu, hr, ha, hb⟩ := hs
  obtain ⟨u, r, a, b, lz⟩ := s
  simp only at hu hr ha hb s0 s1 s2 s3 s4 hop
  obtain ⟨hu1, hu2⟩ := hu
  obtain ⟨hr1, hr2⟩ := hr
  obtain ⟨ha1, ha2⟩ := ha
  obtain ⟨hb1, hb2⟩ := hb
  have HE := tuck (leaf_post (f := f) hP hp #[.int .u8 u, .int .i32 r, .int .u8 a, .int .u8 b, .bool lz] (leafNd_ok (op := 15) (r := 0) (by omega) (by omega) (by omega) (by omega)))
  clear hP
  go_enter Ybaf.func4, Ybaf.ntmps4
  go_wp2
  go_ret
  exact HE.out
theorem build_leaf15d (w : World) (sb so len cap pb p f : Nat) (dep : Int) (s : Stp) (hs : StpOk s) (hp : p < len) (hlen : len ≤ 1024) (hP : PosAt w pb p len) (hd0 : 0 ≤ dep)
   (s0 : w.cell? ⟨sb, so + p * 5, none⟩ = some (.int .u8 s.op)) (s1 : w.cell? ⟨sb, so + p * 5 + 1, none⟩ = some (.int .i32 s.r)) (s2 : w.cell? ⟨sb, so + p * 5 + 2, none⟩ = some (.int .u8 s.a)) (s3 : w.cell? ⟨sb, so + p * 5 + 3, none⟩ = some (.int .u8 s.b)) (s4 : w.cell? ⟨sb, so + p * 5 + 4, none⟩ = some (.bool s.lz)) (hd : 5 ≤ dep) (hop : s.op % 15 + 1 = 15) :
    Calls Ybaf.prog 4 #[.slice (some ⟨sb, so, none⟩) len cap, .pointer (some ⟨pb, 0, none⟩), .int .i64 dep] w fun e w' => BPost pb len (f + 1) w e w' := by
  have hpos : w.cell? ⟨pb, 0, none⟩ = some (.int .i64 (p : Int)) := by rw [cell_of_heap hP.obj]; rfl
  have hpf : w.frozen? ⟨pb, 0, none⟩ = false := frozen_of_heap hP.obj
  have hpb : pb < w.heap.size := lt_of_heap hP.obj
  obtain ⟨hu, hr, ha, hb⟩ := hs
  obtain ⟨u, r, a, b, lz⟩ := s
  simp only at hu hr ha hb s0 s1 s2 s3 s4 hop
  obtain ⟨hu1, hu2⟩ := hu
  obtain ⟨hr1, hr2⟩ := hr
  obtain ⟨ha1, ha2⟩ := ha
  obtain ⟨hb1, hb2⟩ := hb
  have HE := tuck (leaf_post (f := f) hP hp #[.int .u8 u, .int .i32 r, .int .u8 a, .int .u8 b, .bool lz] (leafNd_ok (op := 15) (r := 0) (by omega) (by omega) (by omega) (by omega)))
  clear hP
  go_enter Ybaf.func4, Ybaf.ntmps4
  go_wp2
  go_ret
  exact HE.out
end Go.Proofs.YbulkdjmsFmt
