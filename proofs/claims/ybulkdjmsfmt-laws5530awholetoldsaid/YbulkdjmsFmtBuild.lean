import Derived.Test.YbulkdjmsFmtBuildF
/-! zzs5530abuild: every step; and the table of the nodes. -/
namespace Go.Proofs.YbulkdjmsFmt
open Go.RowKit Plain
set_option maxRecDepth 100000
theorem build_step {sa : Option Addr} {st : List Stp} {cap pb f : Nat} (w : World) (p : Nat) (dep : Int) (hdep : dep = 6 - ((f + 1 : Nat) : Int)) (hf : f ≤ 5) (hS : StepsAt w sa st pb) (hP : PosAt w pb p st.length) (IH : 0 < f → BuildOk sa st cap pb f) :
    Calls Ybaf.prog 4 #[.slice sa st.length cap, .pointer (some ⟨pb, 0, none⟩), .int .i64 dep] w fun e w' => BPost pb st.length (f + 1) w e w' := by
  have hlen := hS.few
  by_cases hp : p < st.length
  · obtain ⟨s, hs⟩ : ∃ s, st[p]? = some s := ⟨st[p], List.getElem?_eq_getElem hp⟩
    obtain ⟨hok, sb, so, rfl, hne, s0, s1, s2, s3, s4⟩ := hS.cells p s hs
    have hd0 : 0 ≤ dep := by omega
    have hu := hok.op
    have hcase : s.op % 15 + 1 = 1 ∨ s.op % 15 + 1 = 2 ∨ s.op % 15 + 1 = 3 ∨ s.op % 15 + 1 = 4 ∨ s.op % 15 + 1 = 5 ∨ s.op % 15 + 1 = 6 ∨ s.op % 15 + 1 = 7 ∨ s.op % 15 + 1 = 8 ∨ s.op % 15 + 1 = 9 ∨ s.op % 15 + 1 = 10 ∨ s.op % 15 + 1 = 11 ∨ s.op % 15 + 1 = 12 ∨ s.op % 15 + 1 = 13 ∨ s.op % 15 + 1 = 14 ∨ s.op % 15 + 1 = 15 := by omega
    by_cases hd : dep < 5
    · have H : Hid (∀ (W : World) (q : Nat), PosAt W pb q st.length → Chg [pb] w W → Calls Ybaf.prog 4 #[.slice (some ⟨sb, so, none⟩) st.length cap, .pointer (some ⟨pb, 0, none⟩), .int .i64 (dep + 1)] W fun e w' => BPost pb st.length f W e w') := tuck (fun W q hq hc => by
        have := IH (by omega) W q (hS.keep hc) hq
        rw [show (6 : Int) - (f : Int) = dep + 1 from by omega] at this
        exact this)
      rcases hcase with h | h | h | h | h | h | h | h | h | h | h | h | h | h | h
      · exact build_leaf1 w sb so _ cap pb p f dep s hok hp hlen hP hd0 s0 s1 s2 s3 s4 hd h
      · exact build_lit2 w sb so _ cap pb p f dep s hok hp hlen hP hd0 s0 s1 s2 s3 s4 hd h
      · exact build_class w sb so _ cap pb p f dep s hok hp hlen hP hd0 s0 s1 s2 s3 s4 h
      · exact build_leaf4 w sb so _ cap pb p f dep s hok hp hlen hP hd0 s0 s1 s2 s3 s4 hd h
      · exact build_leaf5 w sb so _ cap pb p f dep s hok hp hlen hP hd0 s0 s1 s2 s3 s4 hd h
      · exact build_leaf6 w sb so _ cap pb p f dep s hok hp hlen hP hd0 s0 s1 s2 s3 s4 hd h
      · exact build_leaf7 w sb so _ cap pb p f dep s hok hp hlen hP hd0 s0 s1 s2 s3 s4 hd h
      · exact build_cap w sb so _ cap pb p f dep s hok hp hlen hP hd0 s0 s1 s2 s3 s4 hd H h
      · by_cases hb3 : s.b % 4 = 3
        · exact build_rep3 w sb so _ cap pb p f dep s hok hp hlen hP hd0 s0 s1 s2 s3 s4 hd H hb3 h
        · exact build_rep w sb so _ cap pb p f dep s hok hp hlen hP hd0 s0 s1 s2 s3 s4 hd H hb3 h
      · exact build_cat w sb so _ cap pb p f dep s hok hp hlen hP hd0 s0 s1 s2 s3 s4 hd H h
      · exact build_alt w sb so _ cap pb p f dep s hok hp hlen hP hd0 s0 s1 s2 s3 s4 hd H h
      · exact build_lb w sb so _ cap pb p f dep s hok hp hlen hP hd0 s0 s1 s2 s3 s4 hd H h
      · exact build_nlb w sb so _ cap pb p f dep s hok hp hlen hP hd0 s0 s1 s2 s3 s4 hd H h
      · exact build_leaf14 w sb so _ cap pb p f dep s hok hp hlen hP hd0 s0 s1 s2 s3 s4 hd h
      · exact build_leaf15 w sb so _ cap pb p f dep s hok hp hlen hP hd0 s0 s1 s2 s3 s4 hd h
    · have hd : 5 ≤ dep := by omega
      rcases hcase with h | h | h | h | h | h | h | h | h | h | h | h | h | h | h
      · exact build_leaf1d w sb so _ cap pb p f dep s hok hp hlen hP hd0 s0 s1 s2 s3 s4 hd h
      · exact build_lit2d w sb so _ cap pb p f dep s hok hp hlen hP hd0 s0 s1 s2 s3 s4 hd h
      · exact build_class w sb so _ cap pb p f dep s hok hp hlen hP hd0 s0 s1 s2 s3 s4 h
      · exact build_leaf4d w sb so _ cap pb p f dep s hok hp hlen hP hd0 s0 s1 s2 s3 s4 hd h
      · exact build_leaf5d w sb so _ cap pb p f dep s hok hp hlen hP hd0 s0 s1 s2 s3 s4 hd h
      · exact build_leaf6d w sb so _ cap pb p f dep s hok hp hlen hP hd0 s0 s1 s2 s3 s4 hd h
      · exact build_leaf7d w sb so _ cap pb p f dep s hok hp hlen hP hd0 s0 s1 s2 s3 s4 hd h
      · exact build_lit8d w sb so _ cap pb p f dep s hok hp hlen hP hd0 s0 s1 s2 s3 s4 hd h
      · exact build_lit9d w sb so _ cap pb p f dep s hok hp hlen hP hd0 s0 s1 s2 s3 s4 hd h
      · exact build_lit10d w sb so _ cap pb p f dep s hok hp hlen hP hd0 s0 s1 s2 s3 s4 hd h
      · exact build_lit11d w sb so _ cap pb p f dep s hok hp hlen hP hd0 s0 s1 s2 s3 s4 hd h
      · exact build_lit12d w sb so _ cap pb p f dep s hok hp hlen hP hd0 s0 s1 s2 s3 s4 hd h
      · exact build_lit13d w sb so _ cap pb p f dep s hok hp hlen hP hd0 s0 s1 s2 s3 s4 hd h
      · exact build_leaf14d w sb so _ cap pb p f dep s hok hp hlen hP hd0 s0 s1 s2 s3 s4 hd h
      · exact build_leaf15d w sb so _ cap pb p f dep s hok hp hlen hP hd0 s0 s1 s2 s3 s4 hd h
  · exact build_end sa cap pb f dep w p st.length hP hlen hp
theorem build_any {sa : Option Addr} {st : List Stp} {cap pb : Nat} : ∀ f, f ≤ 5 → BuildOk sa st cap pb (f + 1)
  | 0, hf => fun w p hS hP => build_step w p _ rfl hf hS hP (fun h => absurd h (by omega))
  | f + 1, hf => fun w p hS hP => build_step w p _ rfl hf hS hP (fun _ => build_any f (by omega))
theorem ptrAt_unique {w : World} {sv : Value} {a b : List Nat} (h1 : PtrAt w sv a) (h2 : PtrAt w sv b) : a = b := by
  rcases h1 with ⟨e1, rfl⟩ | ⟨g, cap, cur, e1, _, _, c1, d1⟩ <;> rcases h2 with ⟨e2, rfl⟩ | ⟨g', cap', cur', e2, _, _, c2, d2⟩
  · rfl
  · rw [e1] at e2; simp at e2
  · rw [e1] at e2; simp at e2
  · rw [e1] at e2
    simp at e2
    obtain ⟨rfl, hl, rfl⟩ := e2
    rw [c1] at c2
    simp at c2
    subst c2
    refine List.ext_getElem? fun j => ?_
    by_cases hj : j < a.length
    · have h1 := List.getElem?_eq_getElem hj
      have h2 := List.getElem?_eq_getElem (show j < b.length by omega)
      have := (d1 j _ h1).symm.trans (d2 j _ h2)
      simp [ptr] at this
      rw [h1, h2, this]
    · rw [List.getElem?_eq_none (by omega), List.getElem?_eq_none (by omega)]
/-- The tree with the table of its nodes. -/
theorem tree_of_in (w : World) : ∃ T : Nat → Nd, ∀ lo hi f n, TrIn w lo hi f n → TreeAt w T f n := by
  have hT : ∃ T : Nat → Nd, ∀ n, (∃ d sv rv nm, NodeAt w n d sv rv nm) → ∃ sv rv nm, NodeAt w n (T n) sv rv nm := by
    have : ∀ n, ∃ d : Nd, (∃ d sv rv nm, NodeAt w n d sv rv nm) → ∃ sv rv nm, NodeAt w n d sv rv nm := fun n => by
      by_cases h : ∃ d sv rv nm, NodeAt w n d sv rv nm
      · obtain ⟨d, h⟩ := h; exact ⟨d, fun _ => h⟩
      · exact ⟨leafNd 1 0, fun h' => absurd h' h⟩
    exact ⟨fun n => (this n).choose, fun n => (this n).choose_spec⟩
  obtain ⟨T, hT⟩ := hT
  refine ⟨T, fun lo hi f => ?_⟩
  induction f with
  | zero => intro n h; exact h.elim
  | succ f ih =>
    rintro n ⟨_, _, d, sv, rv, nm, hN, _, _, hc⟩
    obtain ⟨sv', rv', nm', hN'⟩ := hT n ⟨d, sv, rv, nm, hN⟩
    refine ⟨⟨sv', rv', nm', hN'⟩, fun c hm => ?_⟩
    have e := hN.obj.symm.trans hN'.obj
    simp at e
    have hs := hN'.subs
    rw [← e.2.1] at hs
    rw [ptrAt_unique hs hN.subs] at hm
    exact ⟨(hc c hm).1, ih c (hc c hm).2⟩
end Go.Proofs.YbulkdjmsFmt
