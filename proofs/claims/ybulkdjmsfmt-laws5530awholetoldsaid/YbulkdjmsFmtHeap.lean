import Derived.Test.YbulkdjmsFmtPlain
import Derived.Below
import Derived.WalkSmall
import Derived.Deep.Draws
import Derived.Laws.AppendOwn
import Derived.Maps.AppendAt
/-! HOW THE STATES LIE IN MEMORY. -/
namespace Go.Proofs.YbulkdjmsFmt
open Plain Go.RowKit

/-- Of the blocks that were there, only those in 'own' may have turned. -/
structure Chg (own : List Nat) (w w' : World) : Prop where
  os : w'.os = w.os
  tape : w'.tape = w.tape
  output : w'.output = w.output
  size : w.heap.size ≤ w'.heap.size
  block : ∀ k, k < w.heap.size → k ∉ own → w'.heap[k]? = w.heap[k]?
theorem Chg.refl (own : List Nat) (w : World) : Chg own w w := ⟨rfl, rfl, rfl, Nat.le_refl _, fun _ _ _ => rfl⟩
theorem Chg.drew {own : List Nat} {a w : World} (h : Chg own a w) : Chg own a w.drew := ⟨h.os, h.tape, h.output, h.size, h.block⟩
theorem Chg.drewN {own : List Nat} {a w : World} (h : Chg own a w) (n : Nat) : Chg own a (w.drewN n) := ⟨h.os, h.tape, h.output, h.size, h.block⟩
theorem Chg.alloc {own : List Nat} {a w : World} (h : Chg own a w) (o : Obj) : Chg own a (w.alloc o) :=
  ⟨h.os, h.tape, h.output, by have := h.size; simp; omega, fun k hk hn => (Below.heap_alloc w o k (Nat.lt_of_lt_of_le hk h.size)).trans (h.block k hk hn)⟩
theorem Chg.setCell {own : List Nat} {a w : World} (h : Chg own a w) {p : Addr} (hp : p.block ∈ own ∨ a.heap.size ≤ p.block) (v : Value) : Chg own a (w.setCell p v) :=
  ⟨h.os, h.tape, h.output, by simpa using h.size, fun k hk hn => (Below.heap_setCell w p v k (fun e => by
    rcases hp with hp | hp
    · exact hn (e ▸ hp)
    · omega)).trans (h.block k hk hn)⟩
theorem Chg.grown {own : List Nat} {a w w' : World} {row : Option Nat} (h : Chg own a w) (hg : w.grownBy w' row) (hr : ∀ k, row = some k → k ∈ own ∨ a.heap.size ≤ k) : Chg own a w' :=
  ⟨hg.os.trans h.os, hg.tape.trans h.tape, hg.output.trans h.output, Nat.le_trans h.size hg.size, fun k hk hn => (hg.block k (Nat.lt_of_lt_of_le hk h.size) (fun e => by
    rcases hr k e.symm with hp | hp
    · exact hn hp
    · omega)).trans (h.block k hk hn)⟩
theorem Chg.trans {own o2 : List Nat} {a b c : World} (h : Chg own a b) (k : Chg o2 b c) (hs : ∀ x ∈ o2, x ∈ own ∨ a.heap.size ≤ x) : Chg own a c :=
  ⟨k.os.trans h.os, k.tape.trans h.tape, k.output.trans h.output, Nat.le_trans h.size k.size, fun i hi hn => (k.block i (Nat.lt_of_lt_of_le hi h.size) (fun e => by
    rcases hs i e with hp | hp
    · exact hn hp
    · omega)).trans (h.block i hi hn)⟩
theorem Chg.below {own : List Nat} {w w' : World} {B : Nat} (h : Chg own w w') (hB : B ≤ w.heap.size) (ho : ∀ k ∈ own, B ≤ k) : Below B w w' :=
  ⟨h.os, h.tape, h.output, h.size, fun k hk => h.block k (by omega) (fun e => by have := ho k e; omega)⟩
theorem Chg.wide {own o2 : List Nat} {w w' : World} (h : Chg own w w') (hs : ∀ x ∈ own, x ∈ o2) : Chg o2 w w' := ⟨h.os, h.tape, h.output, h.size, fun k hk hn => h.block k hk (fun e => hn (hs k e))⟩

theorem lt_of_heap {w : World} {k : Nat} {o : Obj} (h : w.heap[k]? = some o) : k < w.heap.size := (Array.getElem?_eq_some_iff.1 h).1
theorem heap_setCell_same {w : World} {b j : Nat} {cur : Array Value} {e : TypeId} {fz : Nat × Nat} (h : w.heap[b]? = some (.cells cur e fz)) (v : Value) :
    (w.setCell ⟨b, j, none⟩ v).heap[b]? = some (.cells (cur.setIfInBounds j v) e fz) := by
  simp [World.setCell, Array.getElem?_modify, h]
theorem cell_of_heap {w : World} {b j : Nat} {cur : Array Value} {e : TypeId} {fz : Nat × Nat} (h : w.heap[b]? = some (.cells cur e fz)) : w.cell? ⟨b, j, none⟩ = cur[j]? := by
  simp [World.cell?, h]
theorem frozen_of_heap {w : World} {b j : Nat} {cur : Array Value} {e : TypeId} (h : w.heap[b]? = some (.cells cur e (0, 0))) : w.frozen? ⟨b, j, none⟩ = false := by
  simp [World.frozen?, h]

/-! ### Ranges: a block of type 55 that nobody writes any more -/
def RgAt (w : World) (rv : Value) (rs : List (Int × Int)) : Prop :=
  (rv = .slice none 0 0 ∧ rs = []) ∨ ∃ g cap cur, rv = .slice (some ⟨g, 0, none⟩) rs.length cap ∧ rs.length ≤ cap ∧ cap ≤ maxLen ∧ w.heap[g]? = some (.cells cur 55 (0, 0)) ∧
    ∀ j p, rs[j]? = some p → cur[j * 2]? = some (.int .i32 p.1) ∧ cur[j * 2 + 1]? = some (.int .i32 p.2)
def No55 (w : World) (own : List Nat) : Prop := ∀ k ∈ own, ∀ cur fz, w.heap[k]? ≠ some (.cells cur 55 fz)
theorem RgAt.keep {w w' : World} {rv : Value} {rs : List (Int × Int)} {own : List Nat} (h : RgAt w rv rs) (hc : Chg own w w') (hn : No55 w own) : RgAt w' rv rs := by
  rcases h with h | ⟨g, cap, cur, h1, h2, h3, h4, h5⟩
  · exact .inl h
  · refine .inr ⟨g, cap, cur, h1, h2, h3, ?_, h5⟩
    rw [hc.block g (lt_of_heap h4) (fun e => hn g e cur (0, 0) h4)]; exact h4
theorem RgAt.below {w w' : World} {rv : Value} {rs : List (Int × Int)} (h : RgAt w rv rs) (hc : Below w.heap.size w w') : RgAt w' rv rs := by
  rcases h with h | ⟨g, cap, cur, h1, h2, h3, h4, h5⟩
  · exact .inl h
  · refine .inr ⟨g, cap, cur, h1, h2, h3, ?_, h5⟩
    rw [hc.block g (lt_of_heap h4)]; exact h4
theorem RgAt.form {w : World} {rv : Value} {rs : List (Int × Int)} (h : RgAt w rv rs) : ∃ a l c, rv = .slice a l c := by
  rcases h with ⟨h, _⟩ | ⟨g, cap, cur, h1, _⟩
  · exact ⟨_, _, _, h⟩
  · exact ⟨_, _, _, h1⟩

/-! ### Instructions -/
def cellsOf (i : Ins) (rv : Value) : List Value := [.int .u8 i.op, .int .u8 i.asr, .int .i64 i.nx, .int .i64 i.al, rv, .int .i64 i.sl, .int .i64 i.lb]
def flat (l : List Ins) (rvs : List Value) : List Value := (List.zipWith cellsOf l rvs).flatten
theorem flat_snoc {l : List Ins} {rvs : List Value} (h : rvs.length = l.length) (i : Ins) (rv : Value) : flat (l ++ [i]) (rvs ++ [rv]) = flat l rvs ++ cellsOf i rv := by
  unfold flat
  rw [List.zipWith_append h.symm]; simp
theorem flat_cons (i : Ins) (l : List Ins) (r : Value) (rvs : List Value) : flat (i :: l) (r :: rvs) = cellsOf i r ++ flat l rvs := by simp [flat]
/-- Cell j of instruction i. -/
theorem flat_get : ∀ {l : List Ins} {rvs : List Value} {i j : Nat} {x : Ins} {r : Value}, l[i]? = some x → rvs[i]? = some r → j < 7 → (flat l rvs)[i * 7 + j]? = (cellsOf x r)[j]?
  | x :: l, r :: rvs, 0, j, _, _, hx, hr, hj => by
    simp at hx hr
    subst hx hr
    rw [flat_cons, Nat.zero_mul, Nat.zero_add, List.getElem?_append_left (by simpa [cellsOf] using hj)]
  | y :: l, q :: rvs, i + 1, j, x, r, hx, hr, hj => by
    rw [flat_cons, List.getElem?_append_right (by simp [cellsOf]; omega), show (i + 1) * 7 + j - (cellsOf y q).length = i * 7 + j from by simp [cellsOf]; omega]
    exact flat_get (by simpa using hx) (by simpa using hr) hj
  | [], _, _, _, _, _, hx, _, _ => by simp at hx
  | _ :: _, [], _, _, _, _, _, hr, _ => by simp at hr
/-- The two ways of instruction i set. -/
theorem flat_ways (a b : Int) : ∀ {l : List Ins} {rvs : List Value} {i : Nat}, rvs.length = l.length → i < l.length →
    flat (l.modify i fun x => { x with nx := a, al := b }) rvs = ((flat l rvs).set (i * 7 + 2) (.int .i64 a)).set (i * 7 + 3) (.int .i64 b)
  | x :: l, r :: rvs, 0, _, _ => by
    simp [flat_cons, cellsOf]
  | y :: l, q :: rvs, i + 1, h, hi => by
    have ih := flat_ways a b (l := l) (rvs := rvs) (i := i) (by simpa using h) (by simpa using hi)
    rw [List.modify_succ_cons, flat_cons, ih, flat_cons]
    have e2 : (i + 1) * 7 + 2 = (cellsOf y q).length + (i * 7 + 2) := by simp [cellsOf]; omega
    have e3 : (i + 1) * 7 + 3 = (cellsOf y q).length + (i * 7 + 3) := by simp [cellsOf]; omega
    rw [e2, e3, List.set_append_right _ _ (by omega), List.set_append_right _ _ (by omega)]
    simp
  | [], _, _, _, hi => by simp at hi
  | _ :: _, [], _, h, _ => by simp at h
def InsAt (w : World) (B : Nat) (v : Value) (l : List Ins) : Prop :=
  ∃ rvs : List Value, rvs.length = l.length ∧ w.ownsRow B 41 7 v l.length (flat l rvs) ∧ ∀ (j : Nat) (rv : Value) (i : Ins), rvs[j]? = some rv → l[j]? = some i → RgAt w rv i.rg
theorem ownsRow_of_block {w w' : World} {base : Nat} {e : TypeId} {size : Nat} {v : Value} {n : Nat} {xs : List Value} (h : w.ownsRow base e size v n xs) (hk : ∀ k, v.ownBlock = some k → w'.heap[k]? = w.heap[k]?) : w'.ownsRow base e size v n xs := by
  refine ⟨h.1, ?_⟩
  rcases h.2 with h | ⟨g, cap, cur, rfl, hb, hg, rest⟩
  · exact .inl h
  · exact .inr ⟨g, cap, cur, rfl, hb, by rw [hk g rfl]; exact hg, rest⟩
theorem ownsRow_block {w : World} {base : Nat} {e : TypeId} {size : Nat} {v : Value} {n : Nat} {xs : List Value} (h : w.ownsRow base e size v n xs) {k : Nat} (hk : v.ownBlock = some k) : base ≤ k ∧ ∃ cur, w.heap[k]? = some (.cells cur e (0, 0)) := by
  rcases h.2 with ⟨rfl, _⟩ | ⟨g, cap, cur, rfl, hb, hg, _⟩
  · cases hk
  · cases hk; exact ⟨hb, cur, hg⟩
theorem ownsRow_form {w : World} {base : Nat} {e : TypeId} {size : Nat} {v : Value} {n : Nat} {xs : List Value} (h : w.ownsRow base e size v n xs) : ∃ a c, v = .slice a n c := by
  rcases h.2 with ⟨rfl, rfl⟩ | ⟨g, cap, cur, rfl, _⟩
  · exact ⟨_, _, rfl⟩
  · exact ⟨_, _, rfl⟩
theorem InsAt.keep {w w' : World} {B : Nat} {v : Value} {l : List Ins} (h : InsAt w B v l) {own : List Nat} (hc : Chg own w w') (hn : No55 w own) (hd : ∀ k, v.ownBlock = some k → k ∉ own) : InsAt w' B v l := by
  obtain ⟨rvs, h1, h2, h3⟩ := h
  refine ⟨rvs, h1, ownsRow_of_block h2 (fun k hk => ?_), fun j rv i hj hi => (h3 j rv i hj hi).keep hc hn⟩
  obtain ⟨_, cur, hg⟩ := ownsRow_block h2 hk
  exact hc.block k (lt_of_heap hg) (hd k hk)

/-! ### The compiler's object -/
def ptr (b : Nat) : Value := .pointer (some ⟨b, 0, none⟩)
def MapAt (w : World) (bm : Nat) (s : St) : Prop :=
  ∃ es clock, w.heap[bm]? = some (.map es clock) ∧ es.toList.map (·.key) = s.keys.map ptr ∧ es.toList.map (·.val) = s.vals.map (Value.int .i64)
def ownC (bc bm : Nat) (iv lv : Value) : List Nat := bc :: bm :: (iv.ownBlock.toList ++ lv.ownBlock.toList)
structure CompAt (w : World) (B bc : Nat) (s : St) (iv lv : Value) (bm : Nat) : Prop where
  obj : w.heap[bc]? = some (.cells #[iv, lv, .map (some bm)] 31 (0, 0))
  hBc : B ≤ bc
  hBm : B ≤ bm
  hB : B ≤ w.heap.size
  ins : InsAt w B iv s.ins
  lbs : w.ownsRow B 43 1 lv s.lbs.length (s.lbs.map (Value.int .i64))
  map : MapAt w bm s
theorem mem_ownC {bc bm k : Nat} {iv lv : Value} : k ∈ ownC bc bm iv lv ↔ k = bc ∨ k = bm ∨ iv.ownBlock = some k ∨ lv.ownBlock = some k := by
  simp [ownC, Option.mem_toList]
theorem CompAt.own_le {w : World} {B bc : Nat} {s : St} {iv lv : Value} {bm : Nat} (h : CompAt w B bc s iv lv bm) : ∀ k ∈ ownC bc bm iv lv, B ≤ k ∧ k < w.heap.size := by
  intro k hk
  obtain ⟨es, cl, hm, _⟩ := h.map
  obtain ⟨rvs, _, hi, _⟩ := h.ins
  rcases mem_ownC.1 hk with rfl | rfl | hk | hk
  · exact ⟨h.hBc, lt_of_heap h.obj⟩
  · exact ⟨h.hBm, lt_of_heap hm⟩
  · obtain ⟨h1, cur, h2⟩ := ownsRow_block hi hk; exact ⟨h1, lt_of_heap h2⟩
  · obtain ⟨h1, cur, h2⟩ := ownsRow_block h.lbs hk; exact ⟨h1, lt_of_heap h2⟩
theorem CompAt.no55 {w : World} {B bc : Nat} {s : St} {iv lv : Value} {bm : Nat} (h : CompAt w B bc s iv lv bm) : No55 w (ownC bc bm iv lv) := by
  intro k hk cur fz hq
  obtain ⟨es, cl, hm, _⟩ := h.map
  obtain ⟨rvs, _, hi, _⟩ := h.ins
  rcases mem_ownC.1 hk with rfl | rfl | hk | hk
  · rw [h.obj] at hq; simp at hq
  · rw [hm] at hq; simp at hq
  · obtain ⟨h1, cur, h2⟩ := ownsRow_block hi hk; rw [h2] at hq; simp at hq
  · obtain ⟨h1, cur, h2⟩ := ownsRow_block h.lbs hk; rw [h2] at hq; simp at hq
/-- The blocks of one object are four. -/
theorem CompAt.apart {w : World} {B bc : Nat} {s : St} {iv lv : Value} {bm : Nat} (h : CompAt w B bc s iv lv bm) :
    bc ≠ bm ∧ (∀ k, iv.ownBlock = some k → k ≠ bc ∧ k ≠ bm ∧ lv.ownBlock ≠ some k) ∧ (∀ k, lv.ownBlock = some k → k ≠ bc ∧ k ≠ bm ∧ iv.ownBlock ≠ some k) := by
  obtain ⟨es, cl, hm, _⟩ := h.map
  obtain ⟨rvs, _, hi, _⟩ := h.ins
  have ho := h.obj
  have hl := h.lbs
  refine ⟨fun e => ?_, fun k hk => ⟨fun e => ?_, fun e => ?_, fun e => ?_⟩, fun k hk => ⟨fun e => ?_, fun e => ?_, fun e => ?_⟩⟩
  · rw [e, hm] at ho; simp at ho
  · obtain ⟨_, cur, h2⟩ := ownsRow_block hi hk; rw [e, ho] at h2; simp at h2
  · obtain ⟨_, cur, h2⟩ := ownsRow_block hi hk; rw [e, hm] at h2; simp at h2
  · obtain ⟨_, cur, h2⟩ := ownsRow_block hi hk
    obtain ⟨_, cur', h3⟩ := ownsRow_block hl e
    rw [h2] at h3; simp at h3
  · obtain ⟨_, cur, h2⟩ := ownsRow_block hl hk; rw [e, ho] at h2; simp at h2
  · obtain ⟨_, cur, h2⟩ := ownsRow_block hl hk; rw [e, hm] at h2; simp at h2
  · obtain ⟨_, cur, h2⟩ := ownsRow_block hl hk
    obtain ⟨_, cur', h3⟩ := ownsRow_block hi e
    rw [h2] at h3; simp at h3
/-- What others do leaves the object alone. -/
theorem CompAt.keep {w w' : World} {B bc : Nat} {s : St} {iv lv : Value} {bm : Nat} (h : CompAt w B bc s iv lv bm) {own : List Nat} (hc : Chg own w w') (hn : No55 w own) (hd : ∀ k ∈ ownC bc bm iv lv, k ∉ own) : CompAt w' B bc s iv lv bm := by
  obtain ⟨es, cl, hm, hk, hv⟩ := h.map
  refine ⟨?_, h.hBc, h.hBm, Nat.le_trans h.hB hc.size, h.ins.keep hc hn (fun k hk => hd k (mem_ownC.2 (.inr (.inr (.inl hk))))), ownsRow_of_block h.lbs (fun k hk => ?_), es, cl, ?_, hk, hv⟩
  · rw [hc.block bc (lt_of_heap h.obj) (hd bc (mem_ownC.2 (.inl rfl)))]; exact h.obj
  · obtain ⟨_, cur, hg⟩ := ownsRow_block h.lbs hk
    exact hc.block k (lt_of_heap hg) (hd k (mem_ownC.2 (.inr (.inr (.inr hk)))))
  · rw [hc.block bm (lt_of_heap hm) (hd bm (mem_ownC.2 (.inr (.inl rfl))))]; exact hm
/-- What is known behind a call that worked on the compiler. -/
def CPost (B bc : Nat) (s' : St) (own : List Nat) (w w' : World) : Prop :=
  ∃ iv lv bm, CompAt w' B bc s' iv lv bm ∧ Chg own w w' ∧ ∀ k ∈ ownC bc bm iv lv, k ∈ own ∨ w.heap.size ≤ k
theorem CPost.after {B bc : Nat} {s2 : St} {own o1 : List Nat} {w w1 w2 : World} (hc : Chg own w w1) (hi : ∀ k ∈ o1, k ∈ own ∨ w.heap.size ≤ k) (h : CPost B bc s2 o1 w1 w2) : CPost B bc s2 own w w2 := by
  obtain ⟨iv, lv, bm, h1, h2, h3⟩ := h
  refine ⟨iv, lv, bm, h1, hc.trans h2 hi, fun k hk => ?_⟩
  rcases h3 k hk with h | h
  · exact hi k h
  · exact .inr (Nat.le_trans hc.size h)
/-- An instruction appended. -/
theorem CompAt.emitted {w w1 w2 : World} {B bc : Nat} {s : St} {iv lv : Value} {bm : Nat} (h : CompAt w B bc s iv lv bm) {rvs : List Value} (hl : rvs.length = s.ins.length)
    (hr : ∀ (j : Nat) (rv : Value) (i : Ins), rvs[j]? = some rv → s.ins[j]? = some i → RgAt w rv i.rg) {i : Ins} {rv : Value} (hrg : RgAt w rv i.rg)
    (h1 : Chg [] w w1) (hg : w1.grownBy w2 iv.ownBlock) {g cap : Nat} (ho : w2.ownsRow B 41 7 (.slice (some ⟨g, 0, none⟩) (s.ins.length + 1) cap) (s.ins.length + 1) (flat s.ins rvs ++ cellsOf i rv))
    (hloc : iv.ownBlock = some g ∨ g = w1.heap.size) : CPost B bc (s.put i).2 (ownC bc bm iv lv) w (w2.setCell ⟨bc, 0, none⟩ (.slice (some ⟨g, 0, none⟩) (s.ins.length + 1) cap)) := by
  obtain ⟨a1, a2, a3⟩ := h.apart
  obtain ⟨es, cl, hm, hk, hv⟩ := h.map
  have hc2 : Chg (ownC bc bm iv lv) w w2 := (h1.wide (by simp)).grown hg (fun k hk => .inl (mem_ownC.2 (.inr (.inr (.inl hk)))))
  have hc3 : Chg (ownC bc bm iv lv) w (w2.setCell ⟨bc, 0, none⟩ (.slice (some ⟨g, 0, none⟩) (s.ins.length + 1) cap)) := hc2.setCell (.inl (mem_ownC.2 (.inl rfl))) _
  have hbc : ∀ k, k < w.heap.size → iv.ownBlock ≠ some k → w2.heap[k]? = w.heap[k]? := fun k hk hne => (hg.block k (Nat.lt_of_lt_of_le hk h1.size) (fun e => hne e.symm)).trans (h1.block k hk (by simp))
  have hobj : w2.heap[bc]? = some (.cells #[iv, lv, .map (some bm)] 31 (0, 0)) := by
    rw [hbc bc (lt_of_heap h.obj) (fun e => (a2 bc e).1 rfl)]; exact h.obj
  have hgbc : g ≠ bc := by
    rcases hloc with hloc | hloc
    · exact (a2 g hloc).1
    · have := lt_of_heap h.obj; have := h1.size; omega
  have hne : ∀ k, k ≠ bc → (w2.setCell ⟨bc, 0, none⟩ (.slice (some ⟨g, 0, none⟩) (s.ins.length + 1) cap)).heap[k]? = w2.heap[k]? := fun k hk => Below.heap_setCell w2 ⟨bc, 0, none⟩ _ k hk
  refine ⟨.slice (some ⟨g, 0, none⟩) (s.ins.length + 1) cap, lv, bm, ⟨?_, h.hBc, h.hBm, Nat.le_trans h.hB hc3.size, ⟨rvs ++ [rv], by simp [St.put, hl], ?_, ?_⟩, ?_, es, cl, ?_, hk, hv⟩, hc3, ?_⟩
  · rw [heap_setCell_same hobj]; rfl
  · simp only [St.put, List.length_append, List.length_cons, List.length_nil]
    rw [flat_snoc hl]
    exact ownsRow_of_block ho (fun k hk => by cases hk; exact hne g hgbc)
  · intro j rv' i' hj hi
    simp only [St.put] at hi
    have hk : RgAt w rv' i'.rg := by
      by_cases hj' : j < s.ins.length
      · rw [List.getElem?_append_left (by omega)] at hj
        rw [List.getElem?_append_left hj'] at hi
        exact hr j rv' i' hj hi
      · rw [List.getElem?_append_right (by omega)] at hj
        rw [List.getElem?_append_right (by omega)] at hi
        have e1 : j - rvs.length = 0 := by
          by_cases hz : j - rvs.length = 0
          · exact hz
          · rw [List.getElem?_eq_none (by simp; omega)] at hj; cases hj
        have e2 : j - s.ins.length = 0 := by omega
        rw [e1] at hj
        rw [e2] at hi
        simp at hj hi
        subst hj hi
        exact hrg
    exact hk.keep hc3 h.no55
  · exact ownsRow_of_block h.lbs (fun k hk => by
      obtain ⟨_, cur, hb⟩ := ownsRow_block h.lbs hk
      rw [hne k (a3 k hk).1]; exact hbc k (lt_of_heap hb) (a3 k hk).2.2)
  · rw [hne bm (fun e => a1 e.symm), hbc bm (lt_of_heap hm) (fun e => (a2 bm e).2.1 rfl)]; exact hm
  · intro k hk
    rcases mem_ownC.1 hk with hk | hk | hk | hk
    · exact .inl (mem_ownC.2 (.inl hk))
    · exact .inl (mem_ownC.2 (.inr (.inl hk)))
    · cases hk
      rcases hloc with hloc | hloc
      · exact .inl (mem_ownC.2 (.inr (.inr (.inl hloc))))
      · right; rw [hloc]; exact h1.size
    · exact .inl (mem_ownC.2 (.inr (.inr (.inr hk))))
/-- The two ways of instruction i are set in memory. -/
theorem ownsRow_ways {w : World} {B n cap g : Nat} {l : List Ins} {rvs : List Value} (h : w.ownsRow B 41 7 (.slice (some ⟨g, 0, none⟩) n cap) n (flat l rvs)) (hl : rvs.length = l.length) (hn : l.length = n) {i : Nat} (hi : i < n) (a b : Int) :
    ((w.setCell ⟨g, i * 7 + 2, none⟩ (.int .i64 a)).setCell ⟨g, i * 7 + 3, none⟩ (.int .i64 b)).ownsRow B 41 7 (.slice (some ⟨g, 0, none⟩) n cap) n (flat (l.modify i fun x => { x with nx := a, al := b }) rvs) := by
  rcases h.2 with ⟨h0, _⟩ | ⟨g', cap', cur, hv, hB, hg, h1, h2, h3, h4⟩
  · cases h0
  · cases hv
    refine ⟨?_, .inr ⟨g, cap, (cur.setIfInBounds (i * 7 + 2) (.int .i64 a)).setIfInBounds (i * 7 + 3) (.int .i64 b), rfl, hB, heap_setCell_same (heap_setCell_same hg _) _, h1, h2, by simpa using h3, ?_⟩⟩
    · rw [flat_ways a b hl (by omega)]; simpa using h.1
    · rw [flat_ways a b hl (by omega), ← h4]
      have e : (cur.setIfInBounds (i * 7 + 2) (.int .i64 a)).setIfInBounds (i * 7 + 3) (.int .i64 b) = ⟨(cur.toList.set (i * 7 + 2) (.int .i64 a)).set (i * 7 + 3) (.int .i64 b)⟩ := by
        apply Array.ext'; simp
      rw [e]
      simp only [List.take_set]
theorem CompAt.ways {w w1 : World} {B bc : Nat} {s : St} {iv lv : Value} {bm : Nat} (h : CompAt w B bc s iv lv bm) (h1 : Chg [] w w1) {g cap : Nat} (hv : iv = .slice (some ⟨g, 0, none⟩) s.ins.length cap) {i : Nat} (hi : i < s.ins.length) (a b : Int) :
    CPost B bc (setWays s i a b) (ownC bc bm iv lv) w ((w1.setCell ⟨g, i * 7 + 2, none⟩ (.int .i64 a)).setCell ⟨g, i * 7 + 3, none⟩ (.int .i64 b)) := by
  obtain ⟨a1, a2, a3⟩ := h.apart
  have hn1 : No55 w [] := by intro k hk; cases hk
  have hk1 := h.keep h1 hn1 (by simp)
  obtain ⟨rvs, hl, hown, hr⟩ := hk1.ins
  obtain ⟨es, cl, hm, hk, hv'⟩ := hk1.map
  subst hv
  have hgo : (Value.slice (some ⟨g, 0, none⟩) s.ins.length cap).ownBlock = some g := rfl
  have hmem : g ∈ ownC bc bm (.slice (some ⟨g, 0, none⟩) s.ins.length cap) lv := mem_ownC.2 (.inr (.inr (.inl rfl)))
  have hc : Chg (ownC bc bm (.slice (some ⟨g, 0, none⟩) s.ins.length cap) lv) w1 ((w1.setCell ⟨g, i * 7 + 2, none⟩ (.int .i64 a)).setCell ⟨g, i * 7 + 3, none⟩ (.int .i64 b)) :=
    ((Chg.refl _ _).setCell (.inl hmem) _).setCell (.inl hmem) _
  have hne : ∀ k, k ≠ g → ((w1.setCell ⟨g, i * 7 + 2, none⟩ (.int .i64 a)).setCell ⟨g, i * 7 + 3, none⟩ (.int .i64 b)).heap[k]? = w1.heap[k]? := fun k hk =>
    (Below.heap_setCell _ ⟨g, i * 7 + 3, none⟩ _ k hk).trans (Below.heap_setCell _ ⟨g, i * 7 + 2, none⟩ _ k hk)
  refine ⟨_, lv, bm, ⟨?_, h.hBc, h.hBm, Nat.le_trans hk1.hB hc.size, ⟨rvs, by simp [setWays, hl], ?_, ?_⟩, ?_, es, cl, ?_, hk, hv'⟩, (h1.wide (by simp)).trans hc (fun k hk => .inl hk), fun k hk => .inl hk⟩
  · rw [hne bc (fun e => (a2 g hgo).1 e.symm)]; exact hk1.obj
  · have := ownsRow_ways hown hl rfl hi a b
    simpa [setWays] using this
  · intro j rv x hj hx
    simp only [setWays] at hx
    rw [List.getElem?_modify] at hx
    obtain ⟨y, hy, hyx⟩ := Option.map_eq_some_iff.1 hx
    have : x.rg = y.rg := by
      by_cases hij : i = j
      · rw [if_pos hij] at hyx; rw [← hyx]
      · rw [if_neg hij] at hyx; exact congrArg Ins.rg hyx.symm
    rw [this]
    exact (hr j rv y hj hy).keep hc hk1.no55
  · exact ownsRow_of_block hk1.lbs (fun k hk => hne k (fun e => (a3 k hk).2.2 (by rw [e]; rfl)))
  · rw [hne bm (fun e => (a2 g hgo).2.1 e.symm)]; exact hm
end Go.Proofs.YbulkdjmsFmt
