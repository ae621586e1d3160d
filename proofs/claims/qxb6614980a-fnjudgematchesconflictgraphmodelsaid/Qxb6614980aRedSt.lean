/-
  'reduced' in the middle of its work: what its steps do to its lists.
-/
import Derived.Test.Qxb6614980aGraph
namespace Go.Proofs.Qxb6614980a
open Go.ChangeShapes Go.WideShapes Go.ChangeAt Go.RowKit

/-- 'reduced' in the middle of its work: the lists 'from', 'to' (in variables) and 'readers' (in a slot); what was there is there; the result's cell waits. N: the heap's size as the call began. -/
structure RS (w0 w : World) (vf vt vr : Value) (es : List (Nat × Nat)) (rs : List Nat) : Prop where
  e : Edg w (w0.heap.size + 3) (w0.heap.size + 1) (w0.heap.size + 1 + 1) vf vt (fsOf es) (tsOf es)
  r : OwnI w (w0.heap.size + 3) vr (nats rs)
  rf : Apart vr vf
  rt : Apart vr vt
  bel : Below w0.heap.size w0 w
  res : Blk w w0.heap.size 49 [.slice none 0 0, .slice none 0 0]

theorem RS.le {w0 w : World} {vf vt vr : Value} {es : List (Nat × Nat)} {rs : List Nat} (h : RS w0 w vf vt vr es rs) : w0.heap.size + 3 ≤ w.heap.size := by
  have := h.e.t.lt
  omega
/-- The blocks that a step may turn lie from N + 1 on. -/
theorem RS.ge {w0 w : World} {vf vt vr : Value} {es : List (Nat × Nat)} {rs : List Nat} (h : RS w0 w vf vt vr es rs) {k : Nat} (hk : EdgS (w0.heap.size + 1) (w0.heap.size + 1 + 1) vf vt k) : w0.heap.size + 1 ≤ k := by
  rcases hk with rfl | rfl | hk | hk
  · omega
  · omega
  · have := (h.e.fo.lt hk).1; omega
  · have := (h.e.to.lt hk).1; omega

/-- A new block is none of them. -/
theorem RS.notS {w0 w : World} {vf vt vr : Value} {es : List (Nat × Nat)} {rs : List Nat} (h : RS w0 w vf vt vr es rs) : ¬ EdgS (w0.heap.size + 1) (w0.heap.size + 1 + 1) vf vt w.heap.size := by
  intro hk
  rcases hk with hk | hk | hk | hk
  · have := h.e.f.lt; omega
  · have := h.e.t.lt; omega
  · have := (h.e.fo.lt hk).2; omega
  · have := (h.e.to.lt hk).2; omega

/-- Nor is a block of another kind. -/
theorem RS.notBox {w0 w : World} {vf vt vr : Value} {es : List (Nat × Nat)} {rs : List Nat} (h : RS w0 w vf vt vr es rs) {g : Nat} {t : TypeId} {cs : List Value} (hb : Blk w g t cs) (h1 : t ≠ 22) (h2 : t ≠ 3) : ¬ EdgS (w0.heap.size + 1) (w0.heap.size + 1 + 1) vf vt g := by
  intro hk
  rcases hk with hk | hk | hk | hk
  · exact hb.ne h.e.f h1 hk
  · exact hb.ne h.e.t h1 hk
  · exact h.e.fo.ne hb h2 hk
  · exact h.e.to.ne hb h2 hk

/-- A step that turns neither the lists nor what was there. -/
theorem RS.chg {S : Nat → Prop} {w0 w w' : World} {vf vt vr : Value} {es : List (Nat × Nat)} {rs : List Nat} (h : RS w0 w vf vt vr es rs) (hc : Chg S w w') (hS : ∀ k, k < w.heap.size → ¬ S k) : RS w0 w' vf vt vr es rs := by
  have lt1 : ∀ k, EdgS (w0.heap.size + 1) (w0.heap.size + 1 + 1) vf vt k → ¬ S k := fun k hk => by
    refine hS k ?_
    rcases hk with rfl | rfl | hk | hk
    · exact h.e.f.lt
    · exact h.e.t.lt
    · exact (h.e.fo.lt hk).2
    · exact (h.e.to.lt hk).2
  refine ⟨h.e.chg hc lt1, h.r.chg hc (fun k hk => hS k (h.r.lt hk).2), h.rf, h.rt, ?_, h.res.chg hc (hS _ h.res.lt)⟩
  exact h.bel.trans ⟨hc.os, hc.tape, hc.output, hc.size, fun k hk => hc.block k (by have := h.le; omega) (hS k (by have := h.le; omega))⟩
theorem RS.alloc {w0 w : World} {vf vt vr : Value} {es : List (Nat × Nat)} {rs : List Nat} (h : RS w0 w vf vt vr es rs) (o : Obj) : RS w0 (w.alloc o) vf vt vr es rs :=
  h.chg (Chg.alloc (fun _ => False) w o) (fun _ _ e => e)

/-- 'readers = readers[:0]' -/
theorem RS.cut {w0 w : World} {vf vt : Value} {a : Option Addr} {n c : Nat} {es : List (Nat × Nat)} {rs : List Nat} (h : RS w0 w vf vt (.slice a n c) es rs) : RS w0 w vf vt (.slice a 0 c) es [] := by
  have hb : (Value.slice a 0 c).ownBlock = (Value.slice a n c).ownBlock := by cases a <;> rfl
  refine ⟨h.e, ?_, fun k hk => h.rf k (by rw [← hb]; exact hk), fun k hk => h.rt k (by rw [← hb]; exact hk), h.bel, h.res⟩
  obtain ⟨h1, h2⟩ := h.r
  refine ⟨rfl, ?_⟩
  rcases h2 with ⟨hv, _⟩ | ⟨g, cap, cur, hv, hB, hh, hn, hm, hs, _⟩
  · cases hv
    exact .inl ⟨rfl, rfl⟩
  · cases hv
    exact .inr ⟨g, c, cur, rfl, hB, hh, Nat.zero_le _, hm, hs, by simp [ints, nats]⟩

/-- Behind a call of 'edge'. -/
theorem RS.edge {w0 w w' : World} {vf vt vr vf' vt' : Value} {es : List (Nat × Nat)} {rs : List Nat} (h : RS w0 w vf vt vr es rs) {u v : Nat}
    (he : Edg w' (w0.heap.size + 3) (w0.heap.size + 1) (w0.heap.size + 1 + 1) vf' vt' (if (u : Int) = (v : Int) then fsOf es else fsOf es ++ [(u : Int)]) (if (u : Int) = (v : Int) then tsOf es else tsOf es ++ [(v : Int)]))
    (hc : Chg (EdgS (w0.heap.size + 1) (w0.heap.size + 1 + 1) vf vt) w w') (hf : From w vf vf') (ht : From w vt vt') : RS w0 w' vf' vt' vr (es ++ edge1 u v) rs := by
  rw [fs_edge, ts_edge] at he
  have hr : ∀ k, vr.ownBlock = some k → ¬ EdgS (w0.heap.size + 1) (w0.heap.size + 1 + 1) vf vt k := fun k hk hs => by
    rcases hs with rfl | rfl | hs | hs
    · exact h.r.ne h.e.f (by decide) hk
    · exact h.r.ne h.e.t (by decide) hk
    · exact h.rf k hk hs
    · exact h.rt k hk hs
  refine ⟨he, h.r.chg hc hr, fun k hk e => ?_, fun k hk e => ?_, h.bel.trans (hc.below (by have := h.le; omega) (fun k hk => by have := h.ge hk; omega)), h.res.chg hc (fun hk => by have := h.ge hk; omega)⟩
  · rcases hf k e with e' | e'
    · exact h.rf k hk e'
    · have := (h.r.lt hk).2; omega
  · rcases ht k e with e' | e'
    · exact h.rt k hk e'
    · have := (h.r.lt hk).2; omega

/-- 'readers = append(readers, t)' -/
theorem RS.push {w0 w w1 : World} {vf vt vr : Value} {es : List (Nat × Nat)} {rs : List Nat} (h : RS w0 w vf vt vr es rs) {g cap t : Nat} (ho : OwnI w1 (w0.heap.size + 3) (.slice (some ⟨g, 0, none⟩) ((nats rs).length + 1) cap) (nats rs ++ [(t : Int)]))
    (hc : Chg (fun k => vr.ownBlock = some k) w w1) (hat : vr.ownBlock = some g ∨ w.heap.size ≤ g) : RS w0 w1 vf vt (.slice (some ⟨g, 0, none⟩) ((nats rs).length + 1) cap) es (rs ++ [t]) := by
  have hr : ∀ k, EdgS (w0.heap.size + 1) (w0.heap.size + 1 + 1) vf vt k → ¬ vr.ownBlock = some k := fun k hs hk => by
    rcases hs with rfl | rfl | hs | hs
    · exact h.r.ne h.e.f (by decide) hk
    · exact h.r.ne h.e.t (by decide) hk
    · exact h.rf k hk hs
    · exact h.rt k hk hs
  have e1 : nats rs ++ [(t : Int)] = nats (rs ++ [t]) := by simp [nats]
  refine ⟨h.e.chg hc hr, by rw [← e1]; exact ho, fun k hk e => ?_, fun k hk e => ?_, h.bel.trans (hc.below (by have := h.le; omega) (fun k hk => by have := (h.r.lt hk).1; omega)), h.res.chg hc (fun hk => by have := (h.r.lt hk).1; omega)⟩
  · cases hk
    rcases hat with e' | e'
    · exact h.rf g e' e
    · have e2 : vf.ownBlock = some g := e
      have := (h.e.fo.lt e2).2
      omega
  · cases hk
    rcases hat with e' | e'
    · exact h.rt g e' e
    · have e2 : vt.ownBlock = some g := e
      have := (h.e.to.lt e2).2
      omega

theorem RS.start (w0 : World) : RS w0 (((w0.alloc (.cells #[.slice none 0 0, .slice none 0 0] 49)).alloc (.cells #[.slice none 0 0] 22)).alloc (.cells #[.slice none 0 0] 22)) (.slice none 0 0) (.slice none 0 0) (.slice none 0 0) [] [] := by
  have b0 := Blk.new w0 49 [.slice none 0 0, .slice none 0 0]
  have b1 := Blk.new (w0.alloc (.cells #[.slice none 0 0, .slice none 0 0] 49)) 22 [.slice none 0 0]
  have b2 := Blk.new ((w0.alloc (.cells #[.slice none 0 0, .slice none 0 0] 49)).alloc (.cells #[.slice none 0 0] 22)) 22 [.slice none 0 0]
  simp only [World.size_alloc] at b1 b2
  refine ⟨⟨b1.alloc _, b2, OwnI.nil _ _, OwnI.nil _ _, fun k hk => by (cases hk), by omega⟩, OwnI.nil _ _, fun k hk => by (cases hk), fun k hk => by (cases hk), ?_, (b0.alloc _).alloc _⟩
  exact ((below_new w0 _).alloc (by simp) _).alloc (by simp; omega) _

end Go.Proofs.Qxb6614980a
