import Derived.Deep.RegionLaw
import Derived.OwnWalk
import Derived.Maps.AppendAt
namespace Go.Proofs.YbulkdjmsFmt
/-- A row that owns at least one element is a slice over a block. -/
theorem ownsRow_some {w : World} {base : Nat} {e : TypeId} {size : Nat} {v : Value} {n : Nat} {xs : List Value} (h : w.ownsRow base e size v n xs) (hn : 0 < n) :
    ∃ g cap, v = .slice (some ⟨g, 0, none⟩) n cap := by
  rcases h.2 with ⟨_, h0⟩ | ⟨g, cap, cur, hv, _⟩
  · omega
  · exact ⟨g, cap, hv⟩
/-- append onto a row of the call's own, as one step of a region that draws: one way, whether there is room or not. -/
theorem step_append_own {P : Program} {ops : Array Oper} {o : Oper} {a : Act} {w : World} {K : Act → World → Prop} {Q : Exit → Act → World → Prop} {E : Prop}
    (hg : o.guard = none) (s x : Operand) (t : TypeId) (hop : o.op = Op.call { callee := Callee.builtin Builtin.append, args := #[s, x], argTypes := #[t, t] })
    (base : Nat) (e : TypeId) (i : TypeInfo) (z : Value) (size bytes : Nat) (h1 : P.underlying t = some (.slice e)) (h2 : P.info? e = some i) (h3 : i.zero = some z) (h4 : i.size = size) (h5 : i.bytes = bytes) (h6 : z.cells.size = size) (h7 : 0 < size)
    (v : Value) (n : Nat) (xs : List Value) (hs : a.eval s = v) (hown : w.ownsRow base e size v n xs)
    (ad : Addr) (m c : Nat) (news : List Value) (hx : a.eval x = .slice (some ad) m c) (hn : news.length = m * size) (hc : ∀ j u, news[j]? = some u → w.cell? (ad.add j) = some u) (h1c : ∀ u ∈ news, u.oneCell' = true)
    (b1 : n + m ≤ maxLen) (b2 : (n + m) * bytes ≤ 140737488355328) (b3 : base ≤ w.heap.size) (hm : 0 < m)
    (hK : ∀ g cap w', w'.ownsRow base e size (.slice (some ⟨g, 0, none⟩) (n + m) cap) (n + m) (xs ++ news) → w.grownBy w' v.ownBlock → (v.ownBlock = some g ∨ g = w.heap.size) → K (a.put o.dst (.slice (some ⟨g, 0, none⟩) (n + m) cap)) w') :
    if Region.wanted o (yielded ops a.tmps) = true then Oper.wp P o a w K Q else E := by
  have hw : Region.wanted o (yielded ops a.tmps) = true := by simp [Region.wanted, hg]
  rw [if_pos hw]
  obtain ⟨v', w', hrun, r1, r2, _, r3⟩ := run_append_own_at (P := P) w base t o.type e i z size bytes h1 h2 h3 h4 h5 h6 h7 v n xs hown ad m c news hn hc h1c b1 b2 b3
  obtain ⟨g, cap, rfl⟩ := ownsRow_some r1 (by omega)
  have r4 : v.ownBlock = some g ∨ g = w.heap.size := by
    rcases r3 with h | h
    · exact .inl h.symm
    · exact .inr (by simpa [Value.ownBlock] using h)
  unfold Oper.wp
  simp [execOp, hop, resolve, invoke, builtin, hs, hx, hrun, Result.andThen]
  exact hK g cap w' r1 r2 r4
/-- The same at the head of a list of operations that does not draw. -/
theorem wpList_append_some {P : Program} (w : World) {ops : Array Oper} {rest : List Oper} {o : Oper} {a : Act} {Q : Exit → Act → World → Prop}
    (hg : o.guard = none) (s x : Operand) (t : TypeId) (hop : o.op = Op.call { callee := Callee.builtin Builtin.append, args := #[s, x], argTypes := #[t, t] })
    (base : Nat) (e : TypeId) (i : TypeInfo) (z : Value) (size bytes : Nat) (h1 : P.underlying t = some (.slice e)) (h2 : P.info? e = some i) (h3 : i.zero = some z) (h4 : i.size = size) (h5 : i.bytes = bytes) (h6 : z.cells.size = size) (h7 : 0 < size)
    (v : Value) (n : Nat) (xs : List Value) (hs : a.eval s = v) (hown : w.ownsRow base e size v n xs)
    (ad : Addr) (m c : Nat) (news : List Value) (hx : a.eval x = .slice (some ad) m c) (hn : news.length = m * size) (hc : ∀ j u, news[j]? = some u → w.cell? (ad.add j) = some u) (h1c : ∀ u ∈ news, u.oneCell' = true)
    (b1 : n + m ≤ maxLen) (b2 : (n + m) * bytes ≤ 140737488355328) (b3 : base ≤ w.heap.size) (hm : 0 < m)
    (hK : ∀ g cap w', w'.ownsRow base e size (.slice (some ⟨g, 0, none⟩) (n + m) cap) (n + m) (xs ++ news) → w.grownBy w' v.ownBlock → (v.ownBlock = some g ∨ g = w.heap.size) → wpList P ops Q rest (a.put o.dst (.slice (some ⟨g, 0, none⟩) (n + m) cap)) w') :
    wpList P ops Q (o :: rest) a w := by
  refine wpList_plain hg fun K hK' => ?_
  obtain ⟨v', w', hrun, r1, r2, _, r3⟩ := run_append_own_at (P := P) w base t o.type e i z size bytes h1 h2 h3 h4 h5 h6 h7 v n xs hown ad m c news hn hc h1c b1 b2 b3
  obtain ⟨g, cap, rfl⟩ := ownsRow_some r1 (by omega)
  have r4 : v.ownBlock = some g ∨ g = w.heap.size := by
    rcases r3 with h | h
    · exact .inl h.symm
    · exact .inr (by simpa [Value.ownBlock] using h)
  unfold Oper.wp
  simp [execOp, hop, resolve, invoke, builtin, hs, hx, hrun, Result.andThen]
  exact hK' _ _ (hK g cap w' r1 r2 r4)
end Go.Proofs.YbulkdjmsFmt
