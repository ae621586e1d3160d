/-
  'lowestOnCycle': its search at the head of its loops.
-/
import Derived.Test.Qxb6614980aDisc27
import Derived.Handy
import Derived.BigRegion
namespace Go.Proofs.Qxb6614980a
open Go.ChangeShapes Go.WideShapes Go.ChangeAt Go.RowKit

theorem exists_least (P : Nat → Prop) (h : ∃ m, P m) : ∃ m, P m ∧ ∀ k, P k → m ≤ k := by
  obtain ⟨m, hm⟩ := h
  induction m using Nat.strongRecOn with
  | ind m ih =>
    by_cases hc : ∃ k, k < m ∧ P k
    · obtain ⟨k, hk, hp⟩ := hc
      exact ih k hk hp
    · refine ⟨m, hm, fun k hk => ?_⟩
      apply Decidable.byContradiction
      intro hn
      exact hc ⟨k, by omega, hk⟩
open Classical in
noncomputable def leastN (P : Nat → Prop) : Nat := if h : ∃ m, P m then Classical.choose (exists_least P h) else 0
theorem leastN_spec {P : Nat → Prop} (h : ∃ m, P m) : P (leastN P) := by
  unfold leastN
  rw [dif_pos h]
  exact (Classical.choose_spec (exists_least P h)).1
theorem leastN_le {P : Nat → Prop} {m : Nat} (h : P m) : leastN P ≤ m := by
  unfold leastN
  rw [dif_pos ⟨m, h⟩]
  exact (Classical.choose_spec (exists_least P ⟨m, h⟩)).2 m h

/-- The frames as they lie in memory. -/
def frm (es : List (Nat × Nat)) (fr : List (Nat × Nat)) : List (Nat × Nat) := fr.map fun f => (f.1, off es f.1 + f.2)
theorem frm_app (es fr : List (Nat × Nat)) (v c : Nat) : frm es (fr ++ [(v, c)]) = frm es fr ++ [(v, off es v + c)] := by simp [frm]
theorem frm_len (es fr : List (Nat × Nat)) : (frm es fr).length = fr.length := List.length_map _

def OnOk (n : Nat) (on : List Bool) (st : List Nat) : Prop := on.length = n ∧ ∀ x, x < n → on.getD x false = decide (x ∈ st)
theorem OnOk.push {n : Nat} {on : List Bool} {st : List Nat} (h : OnOk n on st) {v : Nat} (hv : v < n) : OnOk n (on.set v true) (st ++ [v]) := by
  refine ⟨by rw [List.length_set]; exact h.1, fun x hx => ?_⟩
  by_cases e : x = v
  · subst e; rw [getD_set_eq _ _ _ _ (by rw [h.1]; exact hx)]; simp
  · rw [getD_set_ne _ _ _ _ _ e, h.2 x hx]; simp [e]
theorem OnOk.pop {n : Nat} {on : List Bool} {st : List Nat} {v : Nat} (h : OnOk n on (st ++ [v])) (hv : v < n) (hn : v ∉ st) : OnOk n (on.set v false) st := by
  refine ⟨by rw [List.length_set]; exact h.1, fun x hx => ?_⟩
  by_cases e : x = v
  · subst e; rw [getD_set_eq _ _ _ _ (by rw [h.1]; exact hx)]; simp [hn]
  · rw [getD_set_ne _ _ _ _ _ e, h.2 x hx]; simp [e]
/-- fd vertices have been found. -/
def Dc (n : Nat) (ix : List Nat) (fd : Nat) : Prop := ∃ ds : List Nat, ds.Nodup ∧ (∀ x ∈ ds, x < n ∧ at0 ix x ≠ 0) ∧ ds.length = fd
theorem Dc.le {n : Nat} {ix : List Nat} {fd : Nat} (h : Dc n ix fd) : fd ≤ n := by
  obtain ⟨ds, h1, h2, h3⟩ := h
  rw [← h3]
  exact below_len h1 (fun x hx => (h2 x hx).1)
theorem Dc.push {n : Nat} {ix : List Nat} {fd : Nat} (h : Dc n ix fd) (hl : ix.length = n) {v : Nat} (hv : v < n) (h0 : at0 ix v = 0) : Dc n (ix.set v (fd + 1)) (fd + 1) := by
  obtain ⟨ds, h1, h2, h3⟩ := h
  have hvd : v ∉ ds := fun e => (h2 v e).2 h0
  refine ⟨ds ++ [v], ?_, fun x hx => ?_, by rw [List.length_append, h3]; rfl⟩
  · rw [List.nodup_append]
    refine ⟨h1, by simp, fun a ha b hb e => ?_⟩
    simp at hb; subst hb; subst e; exact hvd ha
  · rw [at0_set _ (by rw [hl]; exact hv)]
    rcases List.mem_append.1 hx with q | q
    · have := h2 x q
      refine ⟨this.1, ?_⟩
      split
      · omega
      · exact this.2
    · simp at q; subst q; exact ⟨hv, by simp⟩

def fsum (es fr : List (Nat × Nat)) : Nat := (fr.map fun f => (outs es f.1).length - f.2 + 1).sum
theorem fsum_app (es fr : List (Nat × Nat)) (v c : Nat) : fsum es (fr ++ [(v, c)]) = fsum es fr + ((outs es v).length - c + 1) := by simp [fsum]
def meas (n : Nat) (es : List (Nat × Nat)) (fr : List (Nat × Nat)) (fd : Nat) : Nat := (n - fd) * (es.length + 2) + fsum es fr
theorem outs_le (es : List (Nat × Nat)) (u : Nat) : (outs es u).length ≤ es.length := by
  unfold outs
  rw [List.length_map]
  exact List.length_filter_le _ _
theorem meas_disc {n : Nat} {es fr : List (Nat × Nat)} {fd v c w : Nat} (hfd : fd < n) (hc : c < (outs es v).length) : meas n es (fr ++ [(v, c + 1)] ++ [(w, 0)]) (fd + 1) < meas n es (fr ++ [(v, c)]) fd := by
  unfold meas
  rw [fsum_app, fsum_app, fsum_app]
  have h1 := outs_le es w
  have h2 : (n - fd) * (es.length + 2) = (n - (fd + 1)) * (es.length + 2) + (es.length + 2) := by
    have : n - fd = (n - (fd + 1)) + 1 := by omega
    rw [this, Nat.add_mul, Nat.one_mul]
  omega
theorem meas_bump {n : Nat} {es fr : List (Nat × Nat)} {fd v c : Nat} (hc : c < (outs es v).length) : meas n es (fr ++ [(v, c + 1)]) fd < meas n es (fr ++ [(v, c)]) fd := by
  unfold meas
  rw [fsum_app, fsum_app]
  omega
theorem meas_drop {n : Nat} {es fr : List (Nat × Nat)} {fd v c : Nat} : meas n es fr fd < meas n es (fr ++ [(v, c)]) fd := by
  unfold meas
  rw [fsum_app]
  omega

/-- The search at the head of its loop. -/
def TL (w0 : World) (n root : Nat) (es : List (Nat × Nat)) (cs : List Value) (m : Nat) (vl : Value) (wr : World) : Prop :=
  ∃ (ix lo : List Nat) (on : List Bool) (vs vf : Value) (st : List Nat) (fr : List (Nat × Nat)) (fd : Nat) (ls : Int), vl = .int .i64 ls ∧ T20 w0 wr n cs ix lo on vs vf st (frm es fr) fd ∧ TJ n es none ix lo st fr fd ls ∧ OnOk n on st ∧ Dc n ix fd ∧ m = meas n es fr fd ∧ ∀ x, x < root → at0 ix x ≠ 0
/-- Between two roots. -/
def TK (w0 : World) (n root : Nat) (es : List (Nat × Nat)) (cs : List Value) (vl : Value) (wr : World) : Prop :=
  ∃ (ix lo : List Nat) (on : List Bool) (vs vf : Value) (fd : Nat) (ls : Int), vl = .int .i64 ls ∧ T20 w0 wr n cs ix lo on vs vf [] [] fd ∧ TJ n es none ix lo [] [] fd ls ∧ OnOk n on [] ∧ Dc n ix fd ∧ ∀ x, x < root → at0 ix x ≠ 0

theorem TJ.lens {n : Nat} {es : List (Nat × Nat)} {pend : Option Nat} {ix lo st : List Nat} {fr : List (Nat × Nat)} {fd : Nat} {ls : Int} (h : TJ n es pend ix lo st fr fd ls) : st.length ≤ n ∧ fr.length ≤ n := by
  have h1 := below_len h.nodup (fun x hx => (h.stk x hx).1)
  have h2 := h.sub.length_le
  rw [List.length_map] at h2
  exact ⟨h1, by omega⟩
theorem TJ.lsr {n : Nat} {es : List (Nat × Nat)} {pend : Option Nat} {ix lo st : List Nat} {fr : List (Nat × Nat)} {fd : Nat} {ls : Int} (h : TJ n es pend ix lo st fr fd ls) : -1 ≤ ls ∧ ls ≤ n := by
  rcases h.low with ⟨q, _⟩ | ⟨s, q, q2, _⟩
  · omega
  · have := at0_lt q2.1
    rw [h.il] at this
    omega

/-- The world as the search begins. -/
def lowW (w : World) (n : Nat) (A : Array Value) : World :=
    ((((((((((w.alloc (.cells A 49)).alloc (.cells (madeCells #[.int .i64 0] n) 3)).alloc (.cells #[.slice (some ⟨w.heap.size + 1, 0, none⟩) n n] 22)).alloc (.cells (madeCells #[.int .i64 0] n) 3)).alloc (.cells #[.slice (some ⟨w.heap.size + 3, 0, none⟩) n n] 22)).alloc
      (.cells (madeCells #[.bool false] n) 4)).alloc (.cells #[.slice (some ⟨w.heap.size + 5, 0, none⟩) n n] 26)).alloc (.cells #[.slice none 0 0] 22)).alloc (.cells #[.slice none 0 0] 68)).alloc (.cells #[.int .i64 0] 3))
theorem nats_rep (n : Nat) : nats (List.replicate n 0) = List.replicate n 0 := by simp [nats]
theorem made_bools (n : Nat) : (madeCells #[.bool false] n).toList = bools (List.replicate n false) := by
  apply List.ext_getElem
  · simp [madeCells, bools]
  · intro i h1 h2
    simp [madeCells, bools, Nat.mod_one]
theorem blk_at (W : World) (k : Nat) (t : TypeId) (C : Array Value) (hk : W.heap.size = k) : Blk (W.alloc (.cells C t)) k t C.toList := by
  subst hk
  exact Blk.new' _ _ _
theorem t20_start (w : World) (n : Nat) (A : Array Value) : T20 w (lowW w n A) n A.toList (List.replicate n 0) (List.replicate n 0) (List.replicate n false) (.slice none 0 0) (.slice none 0 0) [] [] 0 := by
  unfold lowW
  refine ⟨?_, ?_, (?_ : Blk _ _ _ _), ?_, (?_ : Blk _ _ _ _), ?_, ?_, ?_, ?_, ?_, (?_ : Blk _ _ _ _), OwnI.nil _ _, OwnF.nil _ _, by simp, by simp, by simp⟩
  · repeat' refine Below.alloc ?_ (by simp <;> omega) _
    exact Below.refl _ _
  · iterate 9 refine Blk.alloc ?_ _
    exact blk_at _ _ _ _ (by simp)
  · iterate 8 refine Blk.alloc ?_ _
    rw [nats_rep, ← made_ints]
    exact blk_at _ _ _ _ (by simp)
  · iterate 7 refine Blk.alloc ?_ _
    exact blk_at _ _ _ _ (by simp)
  · iterate 6 refine Blk.alloc ?_ _
    rw [nats_rep, ← made_ints]
    exact blk_at _ _ _ _ (by simp)
  · iterate 5 refine Blk.alloc ?_ _
    exact blk_at _ _ _ _ (by simp)
  · iterate 4 refine Blk.alloc ?_ _
    rw [← made_bools]
    exact blk_at _ _ _ _ (by simp)
  · iterate 3 refine Blk.alloc ?_ _
    exact blk_at _ _ _ _ (by simp)
  · iterate 2 refine Blk.alloc ?_ _
    exact blk_at _ _ _ _ (by simp)
  · iterate 1 refine Blk.alloc ?_ _
    exact blk_at _ _ _ _ (by simp)
  · exact blk_at _ _ _ _ (by simp)

end Go.Proofs.Qxb6614980a
