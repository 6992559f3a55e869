import Derived.Test.YbulkdjmsFmtGenHeap
/-! THE TREE IN MEMORY. -/
namespace Go.Proofs.YbulkdjmsFmt
open Plain Go.RowKit
theorem tuck {p : Prop} (h : p) : Hid p := h
def PtrAt (w : World) (sv : Value) (subs : List Nat) : Prop :=
  (sv = .slice none 0 0 ∧ subs = []) ∨ ∃ g cap cur, sv = .slice (some ⟨g, 0, none⟩) subs.length cap ∧ subs.length ≤ cap ∧ cap ≤ maxLen ∧ w.heap[g]? = some (.cells cur 23 (0, 0)) ∧ ∀ (j c : Nat), subs[j]? = some c → cur[j]? = some (ptr c)
theorem PtrAt.below {w w' : World} {sv : Value} {subs : List Nat} (h : PtrAt w sv subs) (hb : Below w.heap.size w w') : PtrAt w' sv subs := by
  rcases h with h | ⟨g, cap, cur, h1, h2, h3, h4, h5⟩
  · exact .inl h
  · exact .inr ⟨g, cap, cur, h1, h2, h3, by rw [hb.block g (lt_of_heap h4)]; exact h4, h5⟩
structure NodeAt (w : World) (n : Nat) (d : Nd) (sv rv nm : Value) : Prop where
  obj : w.heap[n]? = some (.cells #[.int .u8 d.op, sv, .int .i32 d.rune, rv, .int .i64 d.mn, .int .i64 d.mx, .bool d.lz, .int .i64 d.cap, nm] 51 (0, 0))
  subs : PtrAt w sv d.subs
  rg : RgAt w rv d.rg
  ok : NdOk d
theorem NodeAt.below {w w' : World} {n : Nat} {d : Nd} {sv rv nm : Value} (h : NodeAt w n d sv rv nm) (hb : Below w.heap.size w w') : NodeAt w' n d sv rv nm :=
  ⟨by rw [hb.block n (lt_of_heap h.obj)]; exact h.obj, h.subs.below hb, h.rg.below hb, h.ok⟩
def TreeAt (w : World) (T : Nat → Nd) : Nat → Nat → Prop
  | 0, _ => False
  | f + 1, n => (∃ sv rv nm, NodeAt w n (T n) sv rv nm) ∧ ∀ c ∈ (T n).subs, n < c ∧ TreeAt w T f c
theorem TreeAt.below {w w' : World} {T : Nat → Nd} (hb : Below w.heap.size w w') : ∀ {f n : Nat}, TreeAt w T f n → TreeAt w' T f n
  | 0, _, h => h
  | _ + 1, _, ⟨⟨sv, rv, nm, h⟩, hc⟩ => ⟨⟨sv, rv, nm, h.below hb⟩, fun c hm => ⟨(hc c hm).1, TreeAt.below hb (hc c hm).2⟩⟩
/-- A block that is a node. -/
def IsNode (w : World) (k : Nat) : Prop := ∃ cur, w.heap[k]? = some (.cells cur 51 (0, 0))
theorem TreeAt.node {w : World} {T : Nat → Nd} : ∀ {f n : Nat}, TreeAt w T f n → IsNode w n
  | 0, _, h => h.elim
  | _ + 1, _, ⟨⟨_, _, _, h⟩, _⟩ => ⟨_, h.obj⟩
theorem comp_ext {w : World} {T : Nat → Nd} : ∀ {f n : Nat}, TreeAt w T f n → ∀ nx s, Ext (IsNode w) n (bnd f) s (comp T f n nx s).2
  | 0, _, h, _, _ => h.elim
  | f + 1, n, ⟨⟨sv, rv, nm, h⟩, hc⟩, nx, s => by
    have hg : ∀ c ∈ (T n).subs, GExt (IsNode w) n (bnd f) (comp T f) c := fun c hm => ⟨(hc c hm).1, (hc c hm).2.node, fun nx s => comp_ext (hc c hm).2 nx s⟩
    exact stepF_ext h.ok hg nx s
theorem gext {w : World} {T : Nat → Nd} {f n : Nat} (h : TreeAt w T (f + 1) n) : ∀ c ∈ (T n).subs, GExt (IsNode w) n (bnd f) (comp T f) c := fun c hm => ⟨(h.2 c hm).1, (h.2 c hm).2.node, fun nx s => comp_ext (h.2 c hm).2 nx s⟩
end Go.Proofs.YbulkdjmsFmt
