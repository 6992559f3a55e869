/-! THE PLAIN LAW OF LawS5530AWhole: what both the compiler and the model compute, with no Go in sight. A tree is a table of nodes by number; every function goes by fuel. -/
namespace Go.Proofs.YbulkdjmsFmt.Plain

/-- A node: the fields of Go's Node that the two read. -/
structure Nd where
  op : Int
  subs : List Nat
  rune : Int
  rg : List (Int × Int)
  mn : Int
  mx : Int
  lz : Bool
  cap : Int

/-- An instruction. -/
structure Ins where
  op : Int
  asr : Int
  nx : Int
  al : Int
  rg : List (Int × Int)
  sl : Int
  lb : Int

/-- The state of the compiler, and of the model. -/
structure St where
  ins : List Ins
  lbs : List Int
  keys : List Nat
  vals : List Int

def St.put (s : St) (i : Ins) : Int × St := (s.ins.length, { s with ins := s.ins ++ [i] })
def iMatch : Ins := ⟨1, 0, 0, 0, [], 0, 0⟩
def iRune (rg : List (Int × Int)) (nx : Int) : Ins := ⟨2, 0, nx, 0, rg, 0, 0⟩
def iSplit (a b : Int) : Ins := ⟨3, 0, a, b, [], 0, 0⟩
def iAssert (a nx : Int) : Ins := ⟨4, a, nx, 0, [], 0, 0⟩
def iLook (a lb nx : Int) : Ins := ⟨4, a, nx, 0, [], 0, lb⟩
def iSave (sl nx : Int) : Ins := ⟨5, 0, nx, 0, [], sl, 0⟩

abbrev G := Nat → Int → St → Int × St

/-- A concatenation, from its end. -/
def seqF (g : G) : List Nat → Int → St → Int × St
  | [], nx, s => (nx, s)
  | c :: cs, nx, s => g c (seqF g cs nx s).1 (seqF g cs nx s).2
/-- An alternation, from its end. -/
def altF (g : G) : List Nat → Int → St → Int × St
  | [], nx, s => (nx, s)
  | c :: cs, nx, s => if cs = [] then g c nx s else
      (g c nx (altF g cs nx s).2).2.put (iSplit (g c nx (altF g cs nx s).2).1 (altF g cs nx s).1)
/-- The value at key n. -/
def findK (n : Nat) : List Nat → List Int → Option Int
  | k :: ks, v :: vs => if k = n then some v else findK n ks vs
  | _, _ => none
/-- The state behind a lookbehind's body has been compiled to start r. -/
def addLook (n : Nat) (r : Int × St) : St := { r.2 with lbs := r.2.lbs ++ [r.1], keys := r.2.keys ++ [n], vals := r.2.vals ++ [(r.2.lbs.length : Int)] }
def lookF (g : G) (n : Nat) (s : St) : Int × St :=
  match findK n s.keys s.vals with
  | some v => (v, s)
  | none => ((g n (s.put iMatch).1 (s.put iMatch).2).2.lbs.length, addLook n (g n (s.put iMatch).1 (s.put iMatch).2))
def split (lz : Bool) (body out : Int) : Ins := if lz then iSplit out body else iSplit body out
/-- k optional repetitions. -/
def optF (g : G) (sub : Nat) (out : Int) (lz : Bool) : Nat → Int → St → Int × St
  | 0, nx, s => (nx, s)
  | k + 1, nx, s => (g sub (optF g sub out lz k nx s).1 (optF g sub out lz k nx s).2).2.put (split lz (g sub (optF g sub out lz k nx s).1 (optF g sub out lz k nx s).2).1 out)
/-- k mandatory repetitions. -/
def repF (g : G) (sub : Nat) : Nat → Int → St → Int × St
  | 0, nx, s => (nx, s)
  | k + 1, nx, s => g sub (repF g sub k nx s).1 (repF g sub k nx s).2
/-- The instruction i's two ways are set. -/
def setWays (s : St) (i : Nat) (a b : Int) : St := { s with ins := s.ins.modify i fun x => { x with nx := a, al := b } }
/-- The loop of an unbounded repetition: its split is put, its body compiled, its ways set. -/
def loopF (g : G) (sub : Nat) (lz : Bool) (nx : Int) (s : St) : Int × St :=
  ((g sub (s.put (iSplit 0 0)).1 (s.put (iSplit 0 0)).2).1,
    setWays (g sub (s.put (iSplit 0 0)).1 (s.put (iSplit 0 0)).2).2 s.ins.length (if lz then nx else (g sub (s.put (iSplit 0 0)).1 (s.put (iSplit 0 0)).2).1) (if lz then (g sub (s.put (iSplit 0 0)).1 (s.put (iSplit 0 0)).2).1 else nx))
def repeatF (g : G) (d : Nd) (sub : Nat) (nx : Int) (s : St) : Int × St :=
  if d.mx < 0 then
    if 0 < d.mn then repF g sub (d.mn - 1).toNat (loopF g sub d.lz nx s).1 (loopF g sub d.lz nx s).2
    else repF g sub d.mn.toNat s.ins.length (loopF g sub d.lz nx s).2
  else repF g sub d.mn.toNat (optF g sub nx d.lz (d.mx - d.mn).toNat nx s).1 (optF g sub nx d.lz (d.mx - d.mn).toNat nx s).2
def sub0 (d : Nd) : Nat := d.subs.headD 0
/-- The condition of an anchor. -/
def asrt (op : Int) : Int := if op = 4 then 1 else if op = 5 then 2 else if op = 6 then 3 else if op = 7 then 4 else if op = 14 then 7 else 8
def capF (g : G) (d : Nd) (sub : Nat) (nx : Int) (s : St) : Int × St :=
  (g sub (s.put (iSave (2 * d.cap + 1) nx)).1 (s.put (iSave (2 * d.cap + 1) nx)).2).2.put (iSave (2 * d.cap) (g sub (s.put (iSave (2 * d.cap + 1) nx)).1 (s.put (iSave (2 * d.cap + 1) nx)).2).1)
/-- One node, its children by g. -/
def stepF (g : G) (d : Nd) (nx : Int) (s : St) : Int × St :=
  if d.op = 1 then (nx, s)
  else if d.op = 2 then s.put (iRune [(d.rune, d.rune)] nx)
  else if d.op = 3 then s.put (iRune d.rg nx)
  else if d.op = 8 then capF g d (sub0 d) nx s
  else if d.op = 10 then seqF g d.subs nx s
  else if d.op = 11 then altF g d.subs nx s
  else if d.op = 9 then repeatF g d (sub0 d) nx s
  else if d.op = 12 then (lookF g (sub0 d) s).2.put (iLook 5 (lookF g (sub0 d) s).1 nx)
  else if d.op = 13 then (lookF g (sub0 d) s).2.put (iLook 6 (lookF g (sub0 d) s).1 nx)
  else s.put (iAssert (asrt d.op) nx)
/-- What the compiler does with node n of the table T. -/
def comp (T : Nat → Nd) : Nat → G
  | 0, _, nx, s => (nx, s)
  | f + 1, n, nx, s => stepF (comp T f) (T n) nx s

/-! ### What a step does to the keys and to the sizes -/
def sz (s : St) : Nat := s.ins.length + s.lbs.length + s.keys.length + s.vals.length
def Good (P : Nat → Prop) (s : St) : Prop := s.keys.length = s.vals.length ∧ s.keys.Nodup ∧ ∀ k ∈ s.keys, P k
structure Ext (P : Nat → Prop) (lo b : Nat) (s s' : St) : Prop where
  keys : ∃ ks, s'.keys = s.keys ++ ks ∧ ∀ k ∈ ks, lo < k
  good : Good P s → Good P s'
  mono : s.ins.length ≤ s'.ins.length
  size : sz s' ≤ sz s + b
theorem Ext.refl (P : Nat → Prop) (lo : Nat) (s : St) : Ext P lo 0 s s := ⟨⟨[], by simp, by simp⟩, id, Nat.le_refl _, Nat.le_refl _⟩
theorem Ext.trans {P : Nat → Prop} {lo b c : Nat} {s t u : St} (h : Ext P lo b s t) (k : Ext P lo c t u) : Ext P lo (b + c) s u := by
  obtain ⟨⟨k1, e1, g1⟩, h2, h3, h4⟩ := h
  obtain ⟨⟨k2, e2, g2⟩, i2, i3, i4⟩ := k
  refine ⟨⟨k1 ++ k2, by rw [e2, e1, List.append_assoc], fun x hx => ?_⟩, fun h => i2 (h2 h), Nat.le_trans h3 i3, by omega⟩
  rcases List.mem_append.1 hx with h | h
  · exact g1 x h
  · exact g2 x h
theorem Ext.wide {P : Nat → Prop} {lo b c : Nat} {s t : St} (h : Ext P lo b s t) (hc : b ≤ c) : Ext P lo c s t := ⟨h.keys, h.good, h.mono, Nat.le_trans h.size (by omega)⟩
theorem Ext.put (P : Nat → Prop) (lo : Nat) (s : St) (i : Ins) : Ext P lo 1 s (s.put i).2 :=
  ⟨⟨[], by simp [St.put], by simp⟩, id, by simp [St.put], by simp [sz, St.put]; omega⟩
theorem Ext.ways (P : Nat → Prop) (lo : Nat) (s : St) (i : Nat) (a b : Int) : Ext P lo 0 s (setWays s i a b) :=
  ⟨⟨[], by simp [setWays], by simp⟩, id, by simp [setWays], by simp [sz, setWays]⟩
theorem findK_none {n : Nat} : ∀ {ks : List Nat} {vs : List Int}, ks.length = vs.length → findK n ks vs = none → n ∉ ks
  | [], _, _, _ => by simp
  | k :: ks, [], h, _ => by simp at h
  | k :: ks, v :: vs, h, e => by
    simp only [findK] at e
    by_cases hk : k = n
    · rw [if_pos hk] at e; cases e
    · rw [if_neg hk] at e
      have := findK_none (by simpa using h) e
      simp only [List.mem_cons, not_or]
      exact ⟨fun q => hk q.symm, this⟩
/-- The children's function, as it must be. -/
def GExt (P : Nat → Prop) (lo b : Nat) (g : G) (c : Nat) : Prop := lo < c ∧ P c ∧ ∀ nx s, Ext P c b s (g c nx s).2
theorem GExt.at {P : Nat → Prop} {lo b : Nat} {g : G} {c : Nat} (h : GExt P lo b g c) (nx : Int) (s : St) : Ext P lo b s (g c nx s).2 := by
  obtain ⟨hl, _, hg⟩ := h
  obtain ⟨⟨ks, e, hk⟩, h2, h3, h4⟩ := hg nx s
  exact ⟨⟨ks, e, fun k hx => Nat.lt_trans hl (hk k hx)⟩, h2, h3, h4⟩
theorem seqF_ext {P : Nat → Prop} {lo b : Nat} {g : G} : ∀ {cs : List Nat}, (∀ c ∈ cs, GExt P lo b g c) → ∀ nx s, Ext P lo (cs.length * b) s (seqF g cs nx s).2
  | [], _, nx, s => by simpa [seqF] using Ext.refl P lo s
  | c :: cs, h, nx, s => by
    have h1 := seqF_ext (fun x hx => h x (List.mem_cons_of_mem _ hx)) nx s
    have h2 := (h c (List.mem_cons_self ..)).at (seqF g cs nx s).1 (seqF g cs nx s).2
    exact (h1.trans h2).wide (by simp [Nat.add_mul])
theorem altF_ext {P : Nat → Prop} {lo b : Nat} {g : G} : ∀ {cs : List Nat}, (∀ c ∈ cs, GExt P lo b g c) → ∀ nx s, Ext P lo (cs.length * (b + 1)) s (altF g cs nx s).2
  | [], _, nx, s => by simpa [altF] using Ext.refl P lo s
  | c :: cs, h, nx, s => by
    simp only [altF]
    by_cases hc : cs = []
    · rw [if_pos hc]
      exact ((h c (List.mem_cons_self ..)).at nx s).wide (by simp [Nat.add_mul]; omega)
    · rw [if_neg hc]
      have h1 := altF_ext (fun x hx => h x (List.mem_cons_of_mem _ hx)) nx s
      have h2 := (h c (List.mem_cons_self ..)).at nx (altF g cs nx s).2
      exact ((h1.trans h2).trans (Ext.put P lo _ _)).wide (by simp [Nat.add_mul]; omega)
theorem repF_ext {P : Nat → Prop} {lo b : Nat} {g : G} {c : Nat} (h : GExt P lo b g c) : ∀ k nx s, Ext P lo (k * b) s (repF g c k nx s).2
  | 0, nx, s => by simpa [repF] using Ext.refl P lo s
  | k + 1, nx, s => ((repF_ext h k nx s).trans (h.at _ _)).wide (by simp [Nat.add_mul])
theorem optF_ext {P : Nat → Prop} {lo b : Nat} {g : G} {c : Nat} (out : Int) (lz : Bool) (h : GExt P lo b g c) : ∀ k nx s, Ext P lo (k * (b + 1)) s (optF g c out lz k nx s).2
  | 0, nx, s => by simpa [optF] using Ext.refl P lo s
  | k + 1, nx, s => (((optF_ext out lz h k nx s).trans (h.at _ _)).trans (Ext.put P lo _ _)).wide (by simp [Nat.add_mul]; omega)
theorem loopF_ext {P : Nat → Prop} {lo b : Nat} {g : G} {c : Nat} (lz : Bool) (h : GExt P lo b g c) (nx : Int) (s : St) : Ext P lo (b + 1) s (loopF g c lz nx s).2 :=
  (((Ext.put P lo s (iSplit 0 0)).trans (h.at _ _)).trans (Ext.ways P lo _ _ _ _)).wide (by omega)
theorem lookF_ext {P : Nat → Prop} {lo b : Nat} {g : G} {c : Nat} (h : GExt P lo b g c) (s : St) : Ext P lo (b + 4) s (lookF g c s).2 := by
  unfold lookF
  cases hf : findK c s.keys s.vals with
  | some v => exact (Ext.refl P lo s).wide (by omega)
  | none =>
    have h1 := Ext.put P c s iMatch
    have h2 := h.2.2 (s.put iMatch).1 (s.put iMatch).2
    obtain ⟨⟨ks, e, hk⟩, g2, m2, s2⟩ := h1.trans h2
    refine ⟨⟨ks ++ [c], by simp [addLook, e], fun k hx => ?_⟩, fun hg => ?_, by simpa [addLook] using m2, ?_⟩
    · rcases List.mem_append.1 hx with hx | hx
      · exact Nat.lt_trans h.1 (hk k hx)
      · simp at hx; rw [hx]; exact h.1
    · have hg2 := g2 hg
      have hn := findK_none hg.1 hf
      refine ⟨by simp [addLook, hg2.1], ?_, fun k hk => ?_⟩
      rotate_left
      · simp only [addLook] at hk
        rcases List.mem_append.1 hk with hk | hk
        · exact hg2.2.2 k hk
        · simp at hk; rw [hk]; exact h.2.1
      simp only [addLook]
      rw [List.nodup_append]
      refine ⟨hg2.2.1, by simp, fun a ha b' hb' => ?_⟩
      simp at hb'
      subst hb'
      rw [e] at ha
      rcases List.mem_append.1 ha with ha | ha
      · exact fun q => hn (q ▸ ha)
      · exact fun q => Nat.lt_irrefl _ (q ▸ hk a ha)
    · simp only [sz, addLook, List.length_append, List.length_cons, List.length_nil] at s2 ⊢
      omega

/-- A node that the builder makes. -/
structure NdOk (d : Nd) : Prop where
  op : 1 ≤ d.op ∧ d.op ≤ 15
  rune : -2147483648 ≤ d.rune ∧ d.rune ≤ 2147483647
  mn : 0 ≤ d.mn ∧ d.mn ≤ 2
  mx : d.mx = -1 ∨ d.mn ≤ d.mx ∧ d.mx ≤ d.mn + 2
  cap : 0 ≤ d.cap ∧ d.cap ≤ 255
  few : d.subs.length ≤ 3
  one : (d.op = 8 ∨ d.op = 9 ∨ d.op = 12 ∨ d.op = 13) → d.subs.length = 1
  some : d.op = 11 → 1 ≤ d.subs.length
/-- How many things a node of height f can add. -/
def bnd : Nat → Nat
  | 0 => 0
  | f + 1 => 4 * bnd f + 8
theorem sub0_mem {d : Nd} (h : d.subs.length = 1) : sub0 d ∈ d.subs := by
  unfold sub0
  match hs : d.subs, h with
  | [c], _ => simp
theorem stepF_ext {P : Nat → Prop} {lo b : Nat} {g : G} {d : Nd} (hd : NdOk d) (hg : ∀ c ∈ d.subs, GExt P lo b g c) (nx : Int) (s : St) : Ext P lo (4 * b + 8) s (stepF g d nx s).2 := by
  unfold stepF
  by_cases h1 : d.op = 1
  · rw [if_pos h1]; exact (Ext.refl P lo s).wide (by omega)
  rw [if_neg h1]
  by_cases h2 : d.op = 2
  · rw [if_pos h2]; exact (Ext.put P lo s _).wide (by omega)
  rw [if_neg h2]
  by_cases h3 : d.op = 3
  · rw [if_pos h3]; exact (Ext.put P lo s _).wide (by omega)
  rw [if_neg h3]
  by_cases h8 : d.op = 8
  · rw [if_pos h8]
    have h := hg _ (sub0_mem (hd.one (.inl h8)))
    exact (((Ext.put P lo s _).trans (h.at _ _)).trans (Ext.put P lo _ _)).wide (by omega)
  rw [if_neg h8]
  by_cases h10 : d.op = 10
  · rw [if_pos h10]
    refine (seqF_ext hg nx s).wide ?_
    have := Nat.mul_le_mul_right b hd.few
    omega
  rw [if_neg h10]
  by_cases h11 : d.op = 11
  · rw [if_pos h11]
    refine (altF_ext hg nx s).wide ?_
    have := Nat.mul_le_mul_right (b + 1) hd.few
    omega
  rw [if_neg h11]
  by_cases h9 : d.op = 9
  · rw [if_pos h9]
    have h := hg _ (sub0_mem (hd.one (.inr (.inl h9))))
    have hm := hd.mn
    unfold repeatF
    by_cases hx : d.mx < 0
    · rw [if_pos hx]
      by_cases hp : 0 < d.mn
      · rw [if_pos hp]
        refine ((loopF_ext d.lz h nx s).trans (repF_ext h _ _ _)).wide ?_
        have : (d.mn - 1).toNat ≤ 1 := by omega
        have := Nat.mul_le_mul_right b this
        omega
      · rw [if_neg hp]
        refine ((loopF_ext d.lz h nx s).trans (repF_ext h _ _ _)).wide ?_
        have : d.mn.toNat = 0 := by omega
        rw [this]; omega
    · rw [if_neg hx]
      have hmx := hd.mx
      refine ((optF_ext nx d.lz h (d.mx - d.mn).toNat nx s).trans (repF_ext h d.mn.toNat _ _)).wide ?_
      have e1 : (d.mx - d.mn).toNat ≤ 2 := by omega
      have e2 : d.mn.toNat ≤ 2 := by omega
      have := Nat.mul_le_mul_right (b + 1) e1
      have := Nat.mul_le_mul_right b e2
      omega
  rw [if_neg h9]
  by_cases h12 : d.op = 12
  · rw [if_pos h12]
    have h := hg _ (sub0_mem (hd.one (.inr (.inr (.inl h12)))))
    exact ((lookF_ext h s).trans (Ext.put P lo _ _)).wide (by omega)
  rw [if_neg h12]
  by_cases h13 : d.op = 13
  · rw [if_pos h13]
    have h := hg _ (sub0_mem (hd.one (.inr (.inr (.inr h13)))))
    exact ((lookF_ext h s).trans (Ext.put P lo _ _)).wide (by omega)
  rw [if_neg h13]
  exact (Ext.put P lo s _).wide (by omega)
end Go.Proofs.YbulkdjmsFmt.Plain
