/-
  'lowestOnCycle': the memory of its search.
-/
import Derived.Test.Qxb6614980aTarj
import Derived.Test.Qxb6614980aHeap2
import Derived.Test.Qxb6614980aOrd17
import Derived.Test.Qxb6614980aRowS
namespace Go.Proofs.Qxb6614980a
open Go.ChangeShapes Go.WideShapes Go.ChangeAt Go.RowKit

theorem info70 : (Try.prog.info? 70).map (fun i => (i.zero, i.size, i.bytes)) = some (some (.agg #[.int .i64 0, .int .i64 0]), 2, 16) := by kernel_rfl
theorem info4 : (Try.prog.info? 4).map (fun i => (i.zero, i.size, i.bytes)) = some (some (.bool false), 1, 1) := by kernel_rfl

/-! ### Frames -/
def fcells (fr : List (Nat × Nat)) : List Value := fr.flatMap fun f => [.int .i64 (f.1 : Int), .int .i64 (f.2 : Int)]
theorem fcells_len (fr : List (Nat × Nat)) : (fcells fr).length = fr.length * 2 := by
  induction fr with
  | nil => rfl
  | cons f fr ih =>
    have : fcells (f :: fr) = [.int .i64 (f.1 : Int), .int .i64 (f.2 : Int)] ++ fcells fr := rfl
    rw [this, List.length_append, ih, List.length_cons]
    simp only [List.length_cons, List.length_nil]
    omega
theorem fcells_app (fr : List (Nat × Nat)) (v c : Nat) : fcells (fr ++ [(v, c)]) = fcells fr ++ [.int .i64 (v : Int), .int .i64 (c : Int)] := by simp [fcells]
theorem fcells_top (fr : List (Nat × Nat)) (v c : Nat) : (fcells (fr ++ [(v, c)]))[fr.length * 2]? = some (.int .i64 (v : Int)) ∧ (fcells (fr ++ [(v, c)]))[fr.length * 2 + 1]? = some (.int .i64 (c : Int)) := by
  rw [fcells_app]
  have h := fcells_len fr
  constructor
  · rw [List.getElem?_append_right (by omega), h, Nat.sub_self]; rfl
  · rw [List.getElem?_append_right (by omega), h, show fr.length * 2 + 1 - fr.length * 2 = 1 by omega]; rfl
theorem fcells_set (fr : List (Nat × Nat)) (v c d : Nat) : (fcells (fr ++ [(v, c)])).set (fr.length * 2 + 1) (.int .i64 (d : Int)) = fcells (fr ++ [(v, d)]) := by
  rw [fcells_app, fcells_app]
  have h := fcells_len fr
  rw [List.set_append_right _ _ (by omega), h, show fr.length * 2 + 1 - fr.length * 2 = 1 by omega]
  rfl

/-- The slice value v owns the frames fr. -/
def OwnF (w : World) (B : Nat) (v : Value) (fr : List (Nat × Nat)) : Prop := w.ownsRow B 70 2 v fr.length (fcells fr)
theorem OwnF.nil (w : World) (B : Nat) : OwnF w B (.slice none 0 0) [] := World.ownsRow_nil _ _ _ _
theorem OwnF.lt {w : World} {B : Nat} {v : Value} {fr : List (Nat × Nat)} (h : OwnF w B v fr) {k : Nat} (hk : v.ownBlock = some k) : B ≤ k ∧ k < w.heap.size := World.ownsRow.lt h k hk
theorem OwnF.form {w : World} {B : Nat} {v : Value} {fr : List (Nat × Nat)} (h : OwnF w B v fr) : ∃ a c, v = .slice a fr.length c := by
  rcases h.2 with ⟨rfl, h0⟩ | ⟨g, cap, cur, rfl, _⟩
  · rw [h0]; exact ⟨none, 0, rfl⟩
  · exact ⟨_, _, rfl⟩
theorem OwnF.has {w : World} {B : Nat} {v : Value} {fr : List (Nat × Nat)} (h : OwnF w B v fr) (hx : 0 < fr.length) : ∃ g cap, v = .slice (some ⟨g, 0, none⟩) fr.length cap ∧ fr.length ≤ cap := by
  rcases h.2 with ⟨_, h0⟩ | ⟨g, cap, cur, rfl, _, _, hn, _⟩
  · omega
  · exact ⟨g, cap, rfl, hn⟩
theorem OwnI.has {w : World} {B : Nat} {v : Value} {xs : List Int} (h : OwnI w B v xs) (hx : 0 < xs.length) : ∃ g cap, v = .slice (Option.some ⟨g, 0, none⟩) xs.length cap ∧ xs.length ≤ cap := by
  rcases h.2 with ⟨_, h0⟩ | ⟨g, cap, cur, rfl, _, _, hn, _⟩
  · omega
  · exact ⟨g, cap, rfl, hn⟩
theorem OwnF.blk {w : World} {B : Nat} {v : Value} {fr : List (Nat × Nat)} (h : OwnF w B v fr) {k : Nat} (hk : v.ownBlock = some k) : ∃ cs, Blk w k 70 cs := by
  rcases h.2 with ⟨rfl, _⟩ | ⟨g, cap, cur, rfl, _, hh, _⟩
  · cases hk
  · cases hk
    exact ⟨cur.toList, by simpa [Blk] using hh⟩
theorem own_apart {w : World} {B B' : Nat} {vs vf : Value} {xs : List Int} {fr : List (Nat × Nat)} (hs : OwnI w B vs xs) (hf : OwnF w B' vf fr) : Apart vs vf := fun k h1 h2 => by
  obtain ⟨cs, hb⟩ := hf.blk h2
  exact hs.ne hb (by decide) h1
theorem OwnF.chg {S : Nat → Prop} {w w' : World} {B : Nat} {v : Value} {fr : List (Nat × Nat)} (h : OwnF w B v fr) (hc : Chg S w w') (hn : ∀ k, v.ownBlock = some k → ¬ S k) : OwnF w' B v fr := by
  obtain ⟨h1, h2⟩ := h
  refine ⟨h1, ?_⟩
  rcases h2 with h2 | ⟨g, cap, cur, rfl, hB, hh, r⟩
  · exact .inl h2
  · have hg : g < w.heap.size := by
      apply Decidable.byContradiction
      intro hx
      rw [Array.getElem?_eq_none (Nat.le_of_not_lt hx)] at hh
      cases hh
    refine .inr ⟨g, cap, cur, rfl, hB, ?_, r⟩
    rw [hc.block g hg (hn g rfl), hh]
theorem OwnF.top {w : World} {B g l c : Nat} {fr : List (Nat × Nat)} {v d : Nat} (h : OwnF w B (.slice (some ⟨g, 0, none⟩) l c) (fr ++ [(v, d)])) : w.cell? ⟨g, fr.length * 2, none⟩ = some (.int .i64 (v : Int)) ∧ w.cell? ⟨g, fr.length * 2 + 1, none⟩ = some (.int .i64 (d : Int)) := by
  have hadd : ∀ j, (⟨g, 0, none⟩ : Addr).add j = ⟨g, j, none⟩ := fun j => by rw [add_mk, Nat.zero_add]
  have h1 := World.ownsRow.cells h (g := g) rfl _ _ (fcells_top fr v d).1
  have h2 := World.ownsRow.cells h (g := g) rfl _ _ (fcells_top fr v d).2
  rw [hadd] at h1 h2
  exact ⟨h1, h2⟩
theorem OwnF.free {w : World} {B g l c : Nat} {fr : List (Nat × Nat)} (h : OwnF w B (.slice (some ⟨g, 0, none⟩) l c) fr) (j : Nat) : w.frozen? ⟨g, j, none⟩ = false := by
  rcases h.2 with ⟨hv, _⟩ | ⟨g', cap, cur, hv, _, hh, _⟩
  · cases hv
  · cases hv
    simp [World.frozen?, hh]
theorem OwnF.setN {w : World} {B g l cap : Nat} {fr : List (Nat × Nat)} {v c : Nat} (h : OwnF w B (.slice (some ⟨g, 0, none⟩) l cap) (fr ++ [(v, c)])) (d : Nat) : OwnF (w.setCell ⟨g, fr.length * 2 + 1, none⟩ (.int .i64 (d : Int))) B (.slice (some ⟨g, 0, none⟩) l cap) (fr ++ [(v, d)]) := by
  obtain ⟨h1, h2⟩ := h
  refine ⟨by rw [fcells_len], ?_⟩
  rcases h2 with ⟨hv, _⟩ | ⟨g', cap', cur, hv, hB, hh, hn, hm, hs, ht⟩
  · cases hv
  · cases hv
    have hb : Blk w g 70 cur.toList := by simpa [Blk] using hh
    have hb2 := hb.set (fr.length * 2 + 1) (.int .i64 (d : Int))
    rw [List.length_append, List.length_singleton] at hn ht
    refine .inr ⟨g, cap, (cur.toList.set (fr.length * 2 + 1) (.int .i64 (d : Int))).toArray, by rw [List.length_append, List.length_append]; rfl, hB, hb2, by rw [List.length_append]; exact hn, hm, by simpa using hs, ?_⟩
    rw [List.length_append, List.length_singleton]
    show (cur.toList.set _ _).take _ = _
    rw [List.take_set, ht, fcells_set]
theorem OwnF.cut {w : World} {B g l cap : Nat} {fr : List (Nat × Nat)} {v c : Nat} (h : OwnF w B (.slice (some ⟨g, 0, none⟩) l cap) (fr ++ [(v, c)])) : OwnF w B (.slice (some ⟨g, 0, none⟩) fr.length cap) fr := by
  obtain ⟨h1, h2⟩ := h
  refine ⟨by rw [fcells_len], ?_⟩
  rcases h2 with ⟨hv, _⟩ | ⟨g', cap', cur, hv, hB, hh, hn, hm, hs, ht⟩
  · cases hv
  · cases hv
    rw [List.length_append, List.length_singleton] at hn ht
    refine .inr ⟨g, cap, cur, rfl, hB, hh, by omega, hm, hs, ?_⟩
    have e : cur.toList.take (fr.length * 2) = (cur.toList.take ((fr.length + 1) * 2)).take (fr.length * 2) := by rw [List.take_take]; congr 1; omega
    rw [e, ht, fcells_app, ← fcells_len]
    simp

/-- 'append(frames, frame{v, c})' inside a region that draws. -/
theorem step_pushF {w : World} {ops : Array Oper} {o : Oper} {a : Act} {K : Act → World → Prop} {Q : Exit → Act → World → Prop} {E : Prop} (hgd : o.guard = none) (s x : Operand)
    (ho : o.op = .call { callee := .builtin .append, args := #[s, x], argTypes := #[68, 68] }) (B : Nat) (vf : Value) (fr : List (Nat × Nat)) (hs : a.eval s = vf) (hown : OwnF w B vf fr) (v c : Nat) (H : Nat) (hH : w.heap.size = H) (hx : a.eval x = .slice (some ⟨H, 0, none⟩) 1 1)
    (hlen : fr.length ≤ 1099511627776) (hB : B ≤ w.heap.size)
    (h : ∀ g cap w', OwnF w' B (.slice (some ⟨g, 0, none⟩) (fr.length + 1) cap) (fr ++ [(v, c)]) → Chg (fun k => vf.ownBlock = some k) w w' → (vf.ownBlock = some g ∨ w.heap.size ≤ g) → K (a.put o.dst (.slice (some ⟨g, 0, none⟩) (fr.length + 1) cap)) w') :
    if Region.wanted o (yielded ops a.tmps) = true then Oper.wp Try.prog o a (w.alloc (.cells #[.int .i64 (v : Int), .int .i64 (c : Int)] 70)).drew K Q else E := by
  subst hH
  obtain ⟨i0, hi, hz0, hz1, hz2⟩ := info_parts info70
  have hown' : ((w.alloc (.cells #[.int .i64 (v : Int), .int .i64 (c : Int)] 70)).drew).ownsRow B 70 2 vf fr.length (fcells fr) := World.ownsRow.alloc hown _
  refine step_append_lies (P := Try.prog) _ hgd s x 68 ho B 70 i0 (.agg #[.int .i64 0, .int .i64 0]) 2 16 Try.underlying68 hi hz0 hz1 hz2 rfl (by decide) vf fr.length (fcells fr) hs hown' ⟨w.heap.size, 0, none⟩ 1 1 [.int .i64 (v : Int), .int .i64 (c : Int)] hx rfl ?_ ?_ (by decide) (by unfold maxLen; omega) (by omega) (by simp; omega) (w.heap.size + 1) (by simp) ?_
  · intro j u hj
    match j, hj with
    | 0, hj => simp at hj; subst hj; simp [Addr.add]
    | 1, hj => simp at hj; subst hj; simp [Addr.add]
  · intro u hu
    simp at hu
    rcases hu with hu | hu <;> subst hu <;> rfl
  · intro g cap w' ho' hg hat _
    refine h g cap w' ?_ (((Chg.alloc _ w _).trans (Chg.draws _ _ 1)).trans (Chg.grown hg (fun k e => e))) ?_
    · unfold OwnF
      rw [fcells_app, List.length_append]
      exact ho'
    · rcases hat with e | rfl
      · exact .inl e
      · exact .inr (by omega)

/-! ### The whole state -/
structure T20 (w0 w : World) (n : Nat) (cs : List Value) (ix lo : List Nat) (on : List Bool) (vs vf : Value) (st : List Nat) (fr : List (Nat × Nat)) (fd : Nat) : Prop where
  bel : Below w0.heap.size w0 w
  adj : Blk w w0.heap.size 49 cs
  ai : IBlk w (w0.heap.size + 1) (nats ix)
  pi : Blk w (w0.heap.size + 2) 22 [.slice (some ⟨w0.heap.size + 1, 0, none⟩) n n]
  al : IBlk w (w0.heap.size + 3) (nats lo)
  pl : Blk w (w0.heap.size + 4) 22 [.slice (some ⟨w0.heap.size + 3, 0, none⟩) n n]
  ao : Blk w (w0.heap.size + 5) 4 (bools on)
  po : Blk w (w0.heap.size + 6) 26 [.slice (some ⟨w0.heap.size + 5, 0, none⟩) n n]
  ps : Blk w (w0.heap.size + 7) 22 [vs]
  pf : Blk w (w0.heap.size + 8) 68 [vf]
  pn : IBlk w (w0.heap.size + 9) [(fd : Int)]
  so : OwnI w (w0.heap.size + 10) vs (nats st)
  fo : OwnF w (w0.heap.size + 10) vf fr
  il : ix.length = n
  ll : lo.length = n
  ol : on.length = n

theorem nats_set (xs : List Nat) (j x : Nat) : (nats xs).set j (x : Int) = nats (xs.set j x) := by simp [nats, List.map_set]
theorem bools_set (xs : List Bool) (j : Nat) (x : Bool) : (bools xs).set j (.bool x) = bools (xs.set j x) := by simp [bools, List.map_set]
theorem nats_app (xs : List Nat) (x : Nat) : nats (xs ++ [x]) = nats xs ++ [(x : Int)] := by simp [nats]

section
variable {w0 w : World} {n : Nat} {cs : List Value} {ix lo : List Nat} {on : List Bool} {vs vf : Value} {st : List Nat} {fr : List (Nat × Nat)} {fd : Nat}
theorem T20.size (h : T20 w0 w n cs ix lo on vs vf st fr fd) : w0.heap.size + 10 ≤ w.heap.size := Blk.lt h.pn
theorem T20.chg {S : Nat → Prop} {w' : World} (h : T20 w0 w n cs ix lo on vs vf st fr fd) (hc : Chg S w w') (hN : ∀ k, k < w0.heap.size + 10 → ¬ S k) (h1 : ∀ k, vs.ownBlock = some k → ¬ S k) (h2 : ∀ k, vf.ownBlock = some k → ¬ S k) : T20 w0 w' n cs ix lo on vs vf st fr fd := by
  have hs := h.size
  refine ⟨?_, Blk.chg h.adj hc (hN _ (by omega)), Blk.chg h.ai hc (hN _ (by omega)), Blk.chg h.pi hc (hN _ (by omega)), Blk.chg h.al hc (hN _ (by omega)), Blk.chg h.pl hc (hN _ (by omega)), Blk.chg h.ao hc (hN _ (by omega)), Blk.chg h.po hc (hN _ (by omega)), Blk.chg h.ps hc (hN _ (by omega)), Blk.chg h.pf hc (hN _ (by omega)), Blk.chg h.pn hc (hN _ (by omega)), h.so.chg hc h1, h.fo.chg hc h2, h.il, h.ll, h.ol⟩
  exact h.bel.trans ⟨hc.os, hc.tape, hc.output, hc.size, fun k hk => hc.block k (by omega) (hN k (by omega))⟩
theorem T20.draws (h : T20 w0 w n cs ix lo on vs vf st fr fd) (d : Nat) : T20 w0 (w.drewN d) n cs ix lo on vs vf st fr fd :=
  h.chg (Chg.draws (fun _ => False) w d) (fun _ _ e => e) (fun _ _ e => e) (fun _ _ e => e)
theorem T20.setI (h : T20 w0 w n cs ix lo on vs vf st fr fd) (j x : Nat) : T20 w0 (w.setCell ⟨w0.heap.size + 1, j, none⟩ (.int .i64 (x : Int))) n cs (ix.set j x) lo on vs vf st fr fd := by
  have hs := h.size
  have hc : Chg (fun k => k = w0.heap.size + 1) w (w.setCell ⟨w0.heap.size + 1, j, none⟩ (.int .i64 (x : Int))) := Chg.setCell w ⟨w0.heap.size + 1, j, none⟩ _ rfl
  refine ⟨h.bel.trans (hc.below (by omega) (fun k e => by omega)), h.adj.chg hc (by omega), (by rw [← nats_set]; exact h.ai.set j x), h.pi.chg hc (by omega), Blk.chg h.al hc (by omega), h.pl.chg hc (by omega), h.ao.chg hc (by omega), h.po.chg hc (by omega), h.ps.chg hc (by omega), h.pf.chg hc (by omega), Blk.chg h.pn hc (by omega), h.so.chg hc (fun k hk e => by have := (h.so.lt hk).1; omega), h.fo.chg hc (fun k hk e => by have := (h.fo.lt hk).1; omega), by rw [List.length_set]; exact h.il, h.ll, h.ol⟩
theorem T20.setL (h : T20 w0 w n cs ix lo on vs vf st fr fd) (j x : Nat) : T20 w0 (w.setCell ⟨w0.heap.size + 3, j, none⟩ (.int .i64 (x : Int))) n cs ix (lo.set j x) on vs vf st fr fd := by
  have hs := h.size
  have hc : Chg (fun k => k = w0.heap.size + 3) w (w.setCell ⟨w0.heap.size + 3, j, none⟩ (.int .i64 (x : Int))) := Chg.setCell w ⟨w0.heap.size + 3, j, none⟩ _ rfl
  refine ⟨h.bel.trans (hc.below (by omega) (fun k e => by omega)), h.adj.chg hc (by omega), Blk.chg h.ai hc (by omega), h.pi.chg hc (by omega), (by rw [← nats_set]; exact h.al.set j x), h.pl.chg hc (by omega), h.ao.chg hc (by omega), h.po.chg hc (by omega), h.ps.chg hc (by omega), h.pf.chg hc (by omega), Blk.chg h.pn hc (by omega), h.so.chg hc (fun k hk e => by have := (h.so.lt hk).1; omega), h.fo.chg hc (fun k hk e => by have := (h.fo.lt hk).1; omega), h.il, by rw [List.length_set]; exact h.ll, h.ol⟩
theorem T20.setO (h : T20 w0 w n cs ix lo on vs vf st fr fd) (j : Nat) (x : Bool) : T20 w0 (w.setCell ⟨w0.heap.size + 5, j, none⟩ (.bool x)) n cs ix lo (on.set j x) vs vf st fr fd := by
  have hs := h.size
  have hc : Chg (fun k => k = w0.heap.size + 5) w (w.setCell ⟨w0.heap.size + 5, j, none⟩ (.bool x)) := Chg.setCell w ⟨w0.heap.size + 5, j, none⟩ _ rfl
  refine ⟨h.bel.trans (hc.below (by omega) (fun k e => by omega)), h.adj.chg hc (by omega), Blk.chg h.ai hc (by omega), h.pi.chg hc (by omega), Blk.chg h.al hc (by omega), h.pl.chg hc (by omega), (by rw [← bools_set]; exact h.ao.set j _), h.po.chg hc (by omega), h.ps.chg hc (by omega), h.pf.chg hc (by omega), Blk.chg h.pn hc (by omega), h.so.chg hc (fun k hk e => by have := (h.so.lt hk).1; omega), h.fo.chg hc (fun k hk e => by have := (h.fo.lt hk).1; omega), h.il, h.ll, by rw [List.length_set]; exact h.ol⟩
theorem T20.setD (h : T20 w0 w n cs ix lo on vs vf st fr fd) (x : Nat) : T20 w0 (w.setCell ⟨w0.heap.size + 9, 0, none⟩ (.int .i64 (x : Int))) n cs ix lo on vs vf st fr x := by
  have hs := h.size
  have hc : Chg (fun k => k = w0.heap.size + 9) w (w.setCell ⟨w0.heap.size + 9, 0, none⟩ (.int .i64 (x : Int))) := Chg.setCell w ⟨w0.heap.size + 9, 0, none⟩ _ rfl
  refine ⟨h.bel.trans (hc.below (by omega) (fun k e => by omega)), h.adj.chg hc (by omega), Blk.chg h.ai hc (by omega), h.pi.chg hc (by omega), Blk.chg h.al hc (by omega), h.pl.chg hc (by omega), h.ao.chg hc (by omega), h.po.chg hc (by omega), h.ps.chg hc (by omega), h.pf.chg hc (by omega), (h.pn.set 0 x), h.so.chg hc (fun k hk e => by have := (h.so.lt hk).1; omega), h.fo.chg hc (fun k hk e => by have := (h.fo.lt hk).1; omega), h.il, h.ll, h.ol⟩
/-- The stack's variable is given a new row. -/
theorem T20.newS {w' : World} {vs' : Value} {st' : List Nat} (h : T20 w0 w n cs ix lo on vs vf st fr fd) (hc : Chg (fun k => vs.ownBlock = some k) w w') (ho : OwnI w' (w0.heap.size + 10) vs' (nats st')) : T20 w0 (w'.setCell ⟨w0.heap.size + 7, 0, none⟩ vs') n cs ix lo on vs' vf st' fr fd := by
  have hs := h.size
  have hap := own_apart h.so h.fo
  have hN : ∀ k, k < w0.heap.size + 10 → ¬ (vs.ownBlock = some k) := fun k hk e => by have := (h.so.lt e).1; omega
  have hc2 : Chg (fun k => k = w0.heap.size + 7) w' (w'.setCell ⟨w0.heap.size + 7, 0, none⟩ vs') := Chg.setCell w' ⟨w0.heap.size + 7, 0, none⟩ _ rfl
  have hsz := hc.size
  refine ⟨(h.bel.trans (hc.below (by omega) (fun k e => by have := (h.so.lt e).1; omega))).trans (hc2.below (by omega) (fun k e => by omega)), Blk.chg (Blk.chg h.adj hc (hN _ (by omega))) hc2 (by omega), Blk.chg (Blk.chg h.ai hc (hN _ (by omega))) hc2 (by omega), Blk.chg (Blk.chg h.pi hc (hN _ (by omega))) hc2 (by omega), Blk.chg (Blk.chg h.al hc (hN _ (by omega))) hc2 (by omega), Blk.chg (Blk.chg h.pl hc (hN _ (by omega))) hc2 (by omega), Blk.chg (Blk.chg h.ao hc (hN _ (by omega))) hc2 (by omega), Blk.chg (Blk.chg h.po hc (hN _ (by omega))) hc2 (by omega), (Blk.chg h.ps hc (hN _ (by omega))).set 0 _, Blk.chg (Blk.chg h.pf hc (hN _ (by omega))) hc2 (by omega), Blk.chg (Blk.chg h.pn hc (hN _ (by omega))) hc2 (by omega), ho.chg hc2 (fun k hk e => by have := (ho.lt hk).1; omega), (h.fo.chg hc (fun k hk e => hap k e hk)).chg hc2 (fun k hk e => by have := (h.fo.lt hk).1; omega), h.il, h.ll, h.ol⟩
/-- The frames' variable is given a new row. -/
theorem T20.newF {w' : World} {vf' : Value} {fr' : List (Nat × Nat)} (h : T20 w0 w n cs ix lo on vs vf st fr fd) (hc : Chg (fun k => vf.ownBlock = some k) w w') (ho : OwnF w' (w0.heap.size + 10) vf' fr') : T20 w0 (w'.setCell ⟨w0.heap.size + 8, 0, none⟩ vf') n cs ix lo on vs vf' st fr' fd := by
  have hs := h.size
  have hap := own_apart h.so h.fo
  have hN : ∀ k, k < w0.heap.size + 10 → ¬ (vf.ownBlock = some k) := fun k hk e => by have := (h.fo.lt e).1; omega
  have hc2 : Chg (fun k => k = w0.heap.size + 8) w' (w'.setCell ⟨w0.heap.size + 8, 0, none⟩ vf') := Chg.setCell w' ⟨w0.heap.size + 8, 0, none⟩ _ rfl
  have hsz := hc.size
  refine ⟨(h.bel.trans (hc.below (by omega) (fun k e => by have := (h.fo.lt e).1; omega))).trans (hc2.below (by omega) (fun k e => by omega)), Blk.chg (Blk.chg h.adj hc (hN _ (by omega))) hc2 (by omega), Blk.chg (Blk.chg h.ai hc (hN _ (by omega))) hc2 (by omega), Blk.chg (Blk.chg h.pi hc (hN _ (by omega))) hc2 (by omega), Blk.chg (Blk.chg h.al hc (hN _ (by omega))) hc2 (by omega), Blk.chg (Blk.chg h.pl hc (hN _ (by omega))) hc2 (by omega), Blk.chg (Blk.chg h.ao hc (hN _ (by omega))) hc2 (by omega), Blk.chg (Blk.chg h.po hc (hN _ (by omega))) hc2 (by omega), Blk.chg (Blk.chg h.ps hc (hN _ (by omega))) hc2 (by omega), (Blk.chg h.pf hc (hN _ (by omega))).set 0 _, Blk.chg (Blk.chg h.pn hc (hN _ (by omega))) hc2 (by omega), (h.so.chg hc (fun k hk e => hap k hk e)).chg hc2 (fun k hk e => by have := (h.so.lt hk).1; omega), ho.chg hc2 (fun k hk e => by have := (ho.lt hk).1; omega), h.il, h.ll, h.ol⟩
end
/-- The top frame's next edge. -/
theorem T20.setN {w0 w : World} {n : Nat} {cs : List Value} {ix lo : List Nat} {on : List Bool} {vs : Value} {st : List Nat} {fr : List (Nat × Nat)} {fd v c g l cap : Nat} (h : T20 w0 w n cs ix lo on vs (.slice (some ⟨g, 0, none⟩) l cap) st (fr ++ [(v, c)]) fd) (d : Nat) : T20 w0 (w.setCell ⟨g, fr.length * 2 + 1, none⟩ (.int .i64 (d : Int))) n cs ix lo on vs (.slice (some ⟨g, 0, none⟩) l cap) st (fr ++ [(v, d)]) fd := by
  have hs := h.size
  have hap := own_apart h.so h.fo
  have hg := (h.fo.lt (k := g) rfl).1
  have hc : Chg (fun k => k = g) w (w.setCell ⟨g, fr.length * 2 + 1, none⟩ (.int .i64 (d : Int))) := Chg.setCell w ⟨g, fr.length * 2 + 1, none⟩ _ rfl
  refine ⟨h.bel.trans (hc.below (by omega) (fun k e => by omega)), Blk.chg h.adj hc (by omega), Blk.chg h.ai hc (by omega), Blk.chg h.pi hc (by omega), Blk.chg h.al hc (by omega), Blk.chg h.pl hc (by omega), Blk.chg h.ao hc (by omega), Blk.chg h.po hc (by omega), Blk.chg h.ps hc (by omega), Blk.chg h.pf hc (by omega), Blk.chg h.pn hc (by omega), h.so.chg hc (fun k hk e => hap k hk (by rw [e]; rfl)), h.fo.setN d, h.il, h.ll, h.ol⟩
end Go.Proofs.Qxb6614980a
