import Derived.Test.YbulkdjmsFmtGenA
/-! (*zzs5530am).anchor, .seq, .alt -/
namespace Go.Proofs.YbulkdjmsFmt
open Go.RowKit Plain
set_option maxRecDepth 100000
theorem anchor_any (w : World) (B bc : Nat) (s : St) (iv lv kv vv : Value) (hC : GenAt w B bc s iv lv kv vv) (hsz : s.ins.length < 1099511627776) (a nx : Int) :
    Calls Ybaf.prog 14 #[.pointer (some ⟨bc, 0, none⟩), .int .u8 a, .int .i64 nx] w fun e w' => e = .returned (.int .i64 (s.put (iAssert a nx)).1) ∧ GPost B bc (s.put (iAssert a nx)).2 (ownG bc iv lv kv vv) w w' := by
  have HE := tuck (put_any w B bc s iv lv kv vv (iAssert a nx) (.slice none 0 0) hC (rgNil _) hsz)
  clear hC hsz
  go_enter Ybaf.func14, Ybaf.ntmps14
  go_wp2_with fail
  refine HE.out.mono ?_
  rintro e w' ⟨rfl, hp⟩
  have HP := tuck hp
  clear hp
  go_wp2
  go_ret
  exact ⟨rfl, HP.out⟩
theorem gen_anchor4 (w : World) (B n bc : Nat) (nx : Int) (s : St) (iv lv kv vv : Value) (hC : GenAt w B bc s iv lv kv vv) (hsz : s.ins.length < 1099511627776) (c0 : w.cell? ⟨n, 0, none⟩ = some (.int .u8 4)) :
    Calls Ybaf.prog 6 #[.pointer (some ⟨bc, 0, none⟩), .pointer (some ⟨n, 0, none⟩), .int .i64 nx] w fun e w' => e = .returned (.int .i64 (s.put (iAssert 1 nx)).1) ∧ GPost B bc (s.put (iAssert 1 nx)).2 (ownG bc iv lv kv vv) w w' := by
  have HE := tuck (anchor_any w B bc s iv lv kv vv hC hsz 1 nx)
  clear hC hsz
  go_enter Ybaf.func6, Ybaf.ntmps6
  go_wp2_with fail
  refine HE.out.mono ?_
  rintro e w' ⟨rfl, hp⟩
  have HP := tuck hp
  clear hp
  go_wp2
  go_ret
  exact ⟨rfl, HP.out⟩
theorem seqF_snoc (g : G) (c : Nat) (nx : Int) (s : St) : ∀ l : List Nat, seqF g (l ++ [c]) nx s = seqF g l (g c nx s).1 (g c nx s).2
  | [] => rfl
  | d :: l => by simp only [List.cons_append, seqF]; rw [seqF_snoc g c nx s l]
theorem GenAt.drawn {w : World} {B bc : Nat} {s : St} {iv lv kv vv : Value} (h : GenAt w B bc s iv lv kv vv) : GenAt w.drew B bc s iv lv kv vv := h.keep (own := []) ((Chg.refl _ _).drew) (by intro k hk; cases hk) (by simp)
theorem GPost.drawn {B bc : Nat} {s : St} {own : List Nat} {w w' : World} (h : GPost B bc s own w.drew w') : GPost B bc s own w w' :=
  GPost.after ((Chg.refl [] w).drew.wide (by simp)) (fun k hk => .inl hk) h
/-- What follows a state in the middle. -/
theorem GMid.call {wt w wr : World} {bc : Nat} {own : List Nat} {s s2 : St} {f : FuncId} {args : Array Value} {v : Value} (hM : GMid wt bc own w s wr)
    (h : ∀ iv lv kv vv, Below wt.heap.size wt wr → GenAt wr wt.heap.size bc s iv lv kv vv → Calls Ybaf.prog f args wr fun e w' => e = .returned v ∧ GPost wt.heap.size bc s2 (ownG bc iv lv kv vv) wr w') :
    Calls Ybaf.prog f args wr fun e w' => e = .returned v ∧ GMid wt bc own w s2 w' := by
  obtain ⟨iv, lv, kv, vv, hC, hb, hk⟩ := hM
  refine (h iv lv kv vv hb hC).mono ?_
  rintro e w' ⟨rfl, hp⟩
  exact ⟨rfl, GMid.next hC hb hk hp⟩
theorem seq_nil (w : World) (bc : Nat) (nx : Int) (a : Option Addr) (cap : Nat) : Calls Ybaf.prog 15 #[.pointer (some ⟨bc, 0, none⟩), .slice a 0 cap, .int .i64 nx] w fun e w' => e = .returned (.int .i64 nx) ∧ w' = w := by
  go_enter Ybaf.func15, Ybaf.ntmps15
  go_wp2
  go_ret
  exact ⟨rfl, rfl⟩
set_option maxHeartbeats 1000000 in
theorem seq_any (wt : World) (T : Nat → Nd) (f : Nat) (IH : GenOk wt T f) (subs : List Nat) (g cap bc : Nat) (hg : ∀ W : World, Below wt.heap.size wt W → ∀ (j c : Nat), subs[j]? = some c → W.cell? ⟨g, j, none⟩ = some (.pointer (some ⟨c, 0, none⟩)))
    (hT : ∀ c ∈ subs, TreeAt wt T f c) (n : Nat) (hn : ∀ c ∈ subs, n < c) (hcap : subs.length ≤ cap) (hfew : subs.length ≤ 3) : ∀ (k : Nat), k ≤ subs.length → ∀ (w : World) (nx : Int) (s : St) (iv lv kv vv : Value), Below wt.heap.size wt w → GenAt w wt.heap.size bc s iv lv kv vv →
      Plain.Good (IsNode wt) s → sz s + k * bnd f < 1099511627776 →
      Calls Ybaf.prog 15 #[.pointer (some ⟨bc, 0, none⟩), .slice (some ⟨g, 0, none⟩) k cap, .int .i64 nx] w fun e w' => e = .returned (.int .i64 (seqF (comp T f) (subs.take k) nx s).1) ∧ GPost wt.heap.size bc (seqF (comp T f) (subs.take k) nx s).2 (ownG bc iv lv kv vv) w w'
  | 0, _, w, nx, s, iv, lv, kv, vv, _, hC, _, _ => by
    refine (seq_nil w bc nx _ cap).mono ?_
    rintro e w' ⟨rfl, rfl⟩
    exact ⟨rfl, hC.same⟩
  | k + 1, hk, w, nx, s, iv, lv, kv, vv, hb, hC, hG, hs => by
    obtain ⟨c, hc⟩ : ∃ c, subs[k]? = some c := ⟨_, List.getElem?_eq_getElem (by omega)⟩
    have hm := List.mem_of_getElem? hc
    have hX := comp_ext (hT c hm) nx s
    have hz := hX.size
    have hsk : (k + 1) * bnd f = k * bnd f + bnd f := by rw [Nat.add_mul, Nat.one_mul]
    rw [hsk] at hs
    have dg : w.cell? ⟨g, k, none⟩ = some (.pointer (some ⟨c, 0, none⟩)) := hg w hb k c hc
    have et : subs.take (k + 1) = subs.take k ++ [c] := by
      obtain ⟨h, e⟩ := List.getElem?_eq_some_iff.1 hc
      rw [List.take_succ_eq_append_getElem h, e]
    rw [et, seqF_snoc]
    have HM0 := tuck (GMid.start hC hb)
    have HGen : Hid (Calls Ybaf.prog 6 #[.pointer (some ⟨bc, 0, none⟩), .pointer (some ⟨c, 0, none⟩), .int .i64 nx] w.drew fun e w' => e = .returned (.int .i64 (comp T f c nx s).1) ∧ GMid wt bc (ownG bc iv lv kv vv) w (comp T f c nx s).2 w') := by
      refine (IH w.drew c bc nx s iv lv kv vv hb.drew (hT c hm) hC.drawn hG (by omega)).mono ?_
      rintro e w' ⟨rfl, hp⟩
      exact ⟨rfl, GMid.next hC hb (fun _ _ h => h) hp.drawn⟩
    have HSeq : Hid (∀ w1, GMid wt bc (ownG bc iv lv kv vv) w (comp T f c nx s).2 w1 → Calls Ybaf.prog 15 #[.pointer (some ⟨bc, 0, none⟩), .slice (some ⟨g, 0, none⟩) k cap, .int .i64 (comp T f c nx s).1] w1 fun e w' =>
        e = .returned (.int .i64 (seqF (comp T f) (subs.take k) (comp T f c nx s).1 (comp T f c nx s).2).1) ∧ GMid wt bc (ownG bc iv lv kv vv) w (seqF (comp T f) (subs.take k) (comp T f c nx s).1 (comp T f c nx s).2).2 w') := fun w1 hM =>
      hM.call (fun iv1 lv1 kv1 vv1 hb1 hC1 => seq_any wt T f IH subs g cap bc hg hT n hn hcap hfew k (by omega) w1 _ _ iv1 lv1 kv1 vv1 hb1 hC1 (hX.good hG) (by omega))
    generalize comp T f c nx s = p1 at *
    generalize seqF (comp T f) (subs.take k) p1.1 p1.2 = p2 at *
    have hk1 : ((k : Int) + 1 == 0) = false := by rw [beq_eq_false_iff_ne]; omega
    have hkc : (k : Int) ≤ (cap : Int) := by omega
    have hk63 : (k : Int) ≤ 3 := by omega
    have hwr : IntKind.i64.wrap ((k : Int) + 1 - 1) = (k : Int) := by rw [IntKind.wrap_i64]; omega
    have hwr2 : IntKind.i64.wrap (k : Int) = (k : Int) := by rw [IntKind.wrap_i64]; omega
    have hk0 : (0 : Int) ≤ (k : Int) := by omega
    clear hC hb hG hs hz hX hsk hc hm et hT hn hg IH
    go_enter Ybaf.func15, Ybaf.ntmps15
    go_wp2_with fail
    go_region_with (first | (go_at_call 6; refine HGen.out.mono ?_; rintro e w1 ⟨rfl, hp⟩; have HM1 := tuck hp; clear hp) | (go_at_call 15; refine (HSeq.out _ HM1.out).mono ?_; rintro e w2 ⟨rfl, hp⟩; have HM2 := tuck hp; clear hp))
    all_goals
      go_wp2
      go_ret
      exact ⟨rfl, HM2.out.post⟩
end Go.Proofs.YbulkdjmsFmt
