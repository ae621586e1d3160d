/-
  zzpb1Build: the memory of its work.
-/
import Derived.Test.Qxb6614980aBld
namespace Go.Proofs.Qxb6614980a
open Go.ChangeShapes Go.WideShapes Go.ChangeAt Go.RowKit

def upd {α : Type} (f : Nat → Nat → α) (a j : Nat) (v : α) : Nat → Nat → α := fun a' j' => if a' = a ∧ j' = j then v else f a' j'
theorem upd_same {α : Type} (f : Nat → Nat → α) (a j : Nat) (v : α) : upd f a j v a j = v := by unfold upd; rw [if_pos ⟨rfl, rfl⟩]
theorem upd_ne {α : Type} (f : Nat → Nat → α) (a j : Nat) (v : α) {a' j' : Nat} (h : a' ≠ a ∨ j' ≠ j) : upd f a j v a' j' = f a' j' := by
  unfold upd
  rw [if_neg (fun e => by rcases h with q | q; exact q e.1; exact q e.2)]

/-- Many growing rows, each in a block of its own. -/
structure Fam (w : World) (B : Nat) (V : Nat → Nat → Value) (X : Nat → Nat → List Int) : Prop where
  own : ∀ a j, OwnI w B (V a j) (X a j)
  ap : ∀ a j a' j', a ≠ a' ∨ j ≠ j' → Apart (V a j) (V a' j')
theorem Fam.chg {S : Nat → Prop} {w w' : World} {B : Nat} {V : Nat → Nat → Value} {X : Nat → Nat → List Int} (h : Fam w B V X) (hc : Chg S w w') (hn : ∀ k, S k → k < B ∨ w.heap.size ≤ k) : Fam w' B V X :=
  ⟨fun a j => (h.own a j).chg hc (fun k hk e => by
    have := (h.own a j).lt hk
    have := hn k e
    omega), h.ap⟩
theorem Fam.upd {w w' : World} {B : Nat} {V : Nat → Nat → Value} {X : Nat → Nat → List Int} (h : Fam w B V X) {a j : Nat} {v' : Value} {xs' : List Int} (ho : OwnI w' B v' xs') (hc : Chg (fun k => (V a j).ownBlock = some k) w w') (hat : From w (V a j) v') : Fam w' B (upd V a j v') (upd X a j xs') := by
  have key : ∀ a' j', a' ≠ a ∨ j' ≠ j → Apart v' (V a' j') := by
    intro a' j' hne k hk e
    rcases hat k hk with q | q
    · exact h.ap a' j' a j hne k e q
    · have := ((h.own a' j').lt e).2; omega
  refine ⟨fun a' j' => ?_, fun a1 j1 a2 j2 hne => ?_⟩
  · by_cases e : a' = a ∧ j' = j
    · obtain ⟨rfl, rfl⟩ := e
      rw [upd_same, upd_same]; exact ho
    · have e' : a' ≠ a ∨ j' ≠ j := by omega
      rw [upd_ne _ _ _ _ e', upd_ne _ _ _ _ e']
      exact (h.own a' j').chg hc (fun k hk e2 => h.ap a' j' a j e' k hk e2)
  · by_cases e1 : a1 = a ∧ j1 = j
    · obtain ⟨rfl, rfl⟩ := e1
      have e2 : a2 ≠ a1 ∨ j2 ≠ j1 := by omega
      rw [upd_same, upd_ne _ _ _ _ e2]
      exact key a2 j2 e2
    · have e1' : a1 ≠ a ∨ j1 ≠ j := by omega
      rw [upd_ne _ _ _ _ e1']
      by_cases e2 : a2 = a ∧ j2 = j
      · obtain ⟨rfl, rfl⟩ := e2
        rw [upd_same]
        exact (key a1 j1 e1').symm
      · rw [upd_ne _ _ _ _ (by omega)]
        exact h.ap a1 j1 a2 j2 hne

structure B8 (w0 w : World) (n m it : Nat) (V : Nat → Nat → Value) (X : Nat → Nat → List Int) (c0 c1 : List Value) : Prop where
  bel : Below w0.heap.size w0 w
  b0 : Blk w w0.heap.size 22 c0
  l0 : c0.length = m
  r0 : ∀ j, j < it → c0[j]? = some (V 0 j)
  b1 : Blk w (w0.heap.size + 1) 22 c1
  l1 : c1.length = m
  r1 : ∀ j, j < it → c1[j]? = some (V 1 j)
  b2 : Blk w (w0.heap.size + 2) 22 ((List.range n).map (V 2))
  b3 : Blk w (w0.heap.size + 3) 22 ((List.range n).map (V 3))
  f : Fam w (w0.heap.size + 4) V X
section
variable {w0 w : World} {n m it : Nat} {V : Nat → Nat → Value} {X : Nat → Nat → List Int} {c0 c1 : List Value}
theorem B8.size (h : B8 w0 w n m it V X c0 c1) : w0.heap.size + 4 ≤ w.heap.size := h.b3.lt
theorem B8.at2 (h : B8 w0 w n m it V X c0 c1) {t : Nat} (ht : t < n) : w.cell? ⟨w0.heap.size + 2, t, none⟩ = some (V 2 t) := by rw [h.b2.cell]; simp [ht]
theorem B8.at3 (h : B8 w0 w n m it V X c0 c1) {t : Nat} (ht : t < n) : w.cell? ⟨w0.heap.size + 3, t, none⟩ = some (V 3 t) := by rw [h.b3.cell]; simp [ht]
theorem map_same (V : Nat → Nat → Value) (a n t : Nat) (v : Value) (b : Nat) (h : b ≠ a) : (List.range n).map (upd V a t v b) = (List.range n).map (V b) := by
  apply List.map_congr_left
  intro x _
  exact upd_ne _ _ _ _ (.inl h)
theorem map_set (V : Nat → Nat → Value) (a n t : Nat) (v : Value) : ((List.range n).map (V a)).set t v = (List.range n).map (upd V a t v a) := by
  apply List.ext_getElem
  · simp
  · intro i h1 h2
    rw [List.getElem_set]
    by_cases e : t = i
    · subst e; simp [upd_same]
    · rw [if_neg e]
      simp only [List.getElem_map, List.getElem_range]
      rw [upd_ne _ _ _ _ (.inr (fun q => e q.symm))]
/-- One of the two rows of the item in hand. -/
theorem B8.own01 {w' : World} (h : B8 w0 w n m it V X c0 c1) {a : Nat} (ha : a < 2) {v' : Value} {xs' : List Int} (ho : OwnI w' (w0.heap.size + 4) v' xs') (hc : Chg (fun k => (V a it).ownBlock = some k) w w') (hat : From w (V a it) v') : B8 w0 w' n m it (upd V a it v') (upd X a it xs') c0 c1 := by
  have hs := h.size
  have hN : ∀ k, k < w0.heap.size + 4 → ¬ (V a it).ownBlock = some k := fun k hk e => by have := ((h.f.own a it).lt e).1; omega
  refine ⟨h.bel.trans (hc.below (by omega) (fun k e => by have := ((h.f.own a it).lt e).1; omega)), h.b0.chg hc (hN _ (by omega)), h.l0, fun j hj => ?_, h.b1.chg hc (hN _ (by omega)), h.l1, fun j hj => ?_, ?_, ?_, h.f.upd ho hc hat⟩
  · rw [upd_ne _ _ _ _ (.inr (by omega))]; exact h.r0 j hj
  · rw [upd_ne _ _ _ _ (.inr (by omega))]; exact h.r1 j hj
  · rw [map_same _ _ _ _ _ _ (by omega)]; exact h.b2.chg hc (hN _ (by omega))
  · rw [map_same _ _ _ _ _ _ (by omega)]; exact h.b3.chg hc (hN _ (by omega))
/-- A vertex's items. -/
theorem B8.own2 {w' : World} (h : B8 w0 w n m it V X c0 c1) {t : Nat} {v' : Value} {xs' : List Int} (ho : OwnI w' (w0.heap.size + 4) v' xs') (hc : Chg (fun k => (V 2 t).ownBlock = some k) w w') (hat : From w (V 2 t) v') : B8 w0 (w'.setCell ⟨w0.heap.size + 2, t, none⟩ v') n m it (upd V 2 t v') (upd X 2 t xs') c0 c1 := by
  have hs := h.size
  have hs' := hc.size
  have hN : ∀ k, k < w0.heap.size + 4 → ¬ (V 2 t).ownBlock = some k := fun k hk e => by have := ((h.f.own 2 t).lt e).1; omega
  have hc2 : Chg (fun k => k = w0.heap.size + 2) w' (w'.setCell ⟨w0.heap.size + 2, t, none⟩ v') := Chg.setCell w' ⟨w0.heap.size + 2, t, none⟩ _ rfl
  refine ⟨(h.bel.trans (hc.below (by omega) (fun k e => by have := ((h.f.own 2 t).lt e).1; omega))).trans (hc2.below (by omega) (fun k e => by omega)), (h.b0.chg hc (hN _ (by omega))).chg hc2 (by omega), h.l0, fun j hj => ?_, (h.b1.chg hc (hN _ (by omega))).chg hc2 (by omega), h.l1, fun j hj => ?_, ?_, ?_, (h.f.upd ho hc hat).chg hc2 (fun k e => by omega)⟩
  · rw [upd_ne _ _ _ _ (.inl (by omega))]; exact h.r0 j hj
  · rw [upd_ne _ _ _ _ (.inl (by omega))]; exact h.r1 j hj
  · rw [← map_set]
    exact (h.b2.chg hc (hN _ (by omega))).set t _
  · rw [map_same _ _ _ _ _ _ (by omega)]; exact (h.b3.chg hc (hN _ (by omega))).chg hc2 (by omega)
/-- A vertex's places. -/
theorem B8.own3 {w' : World} (h : B8 w0 w n m it V X c0 c1) {t : Nat} {v' : Value} {xs' : List Int} (ho : OwnI w' (w0.heap.size + 4) v' xs') (hc : Chg (fun k => (V 3 t).ownBlock = some k) w w') (hat : From w (V 3 t) v') : B8 w0 (w'.setCell ⟨w0.heap.size + 3, t, none⟩ v') n m it (upd V 3 t v') (upd X 3 t xs') c0 c1 := by
  have hs := h.size
  have hs' := hc.size
  have hN : ∀ k, k < w0.heap.size + 4 → ¬ (V 3 t).ownBlock = some k := fun k hk e => by have := ((h.f.own 3 t).lt e).1; omega
  have hc2 : Chg (fun k => k = w0.heap.size + 3) w' (w'.setCell ⟨w0.heap.size + 3, t, none⟩ v') := Chg.setCell w' ⟨w0.heap.size + 3, t, none⟩ _ rfl
  refine ⟨(h.bel.trans (hc.below (by omega) (fun k e => by have := ((h.f.own 3 t).lt e).1; omega))).trans (hc2.below (by omega) (fun k e => by omega)), (h.b0.chg hc (hN _ (by omega))).chg hc2 (by omega), h.l0, fun j hj => ?_, (h.b1.chg hc (hN _ (by omega))).chg hc2 (by omega), h.l1, fun j hj => ?_, ?_, ?_, (h.f.upd ho hc hat).chg hc2 (fun k e => by omega)⟩
  · rw [upd_ne _ _ _ _ (.inl (by omega))]; exact h.r0 j hj
  · rw [upd_ne _ _ _ _ (.inl (by omega))]; exact h.r1 j hj
  · rw [map_same _ _ _ _ _ _ (by omega)]; exact (h.b2.chg hc (hN _ (by omega))).chg hc2 (by omega)
  · rw [← map_set]
    exact (h.b3.chg hc (hN _ (by omega))).set t _
/-- The two rows are laid into the outer slices. -/
theorem B8.done (h : B8 w0 w n m it V X c0 c1) (hit : it < m) : B8 w0 ((w.setCell ⟨w0.heap.size, it, none⟩ (V 0 it)).setCell ⟨w0.heap.size + 1, it, none⟩ (V 1 it)) n m (it + 1) V X (c0.set it (V 0 it)) (c1.set it (V 1 it)) := by
  have hs := h.size
  have e1 : Chg (fun k => k = w0.heap.size) w (w.setCell ⟨w0.heap.size, it, none⟩ (V 0 it)) := Chg.setCell w ⟨w0.heap.size, it, none⟩ _ rfl
  have e2 : Chg (fun k => k = w0.heap.size + 1) (w.setCell ⟨w0.heap.size, it, none⟩ (V 0 it)) ((w.setCell ⟨w0.heap.size, it, none⟩ (V 0 it)).setCell ⟨w0.heap.size + 1, it, none⟩ (V 1 it)) := Chg.setCell _ ⟨w0.heap.size + 1, it, none⟩ _ rfl
  have hs1 := e1.size
  refine ⟨(h.bel.trans (e1.below (by omega) (fun k e => by omega))).trans (e2.below (by omega) (fun k e => by omega)), (h.b0.set it _).chg e2 (by omega), by rw [List.length_set]; exact h.l0, fun j hj => ?_, (h.b1.chg e1 (by omega)).set it _, by rw [List.length_set]; exact h.l1, fun j hj => ?_, (h.b2.chg e1 (by omega)).chg e2 (by omega), (h.b3.chg e1 (by omega)).chg e2 (by omega), (h.f.chg e1 (fun k e => by omega)).chg e2 (fun k e => by omega)⟩
  · by_cases e : j = it
    · subst e; rw [List.getElem?_set_self (by rw [h.l0]; exact hit)]
    · rw [List.getElem?_set_ne (fun q => e q.symm)]; exact h.r0 j (by omega)
  · by_cases e : j = it
    · subst e; rw [List.getElem?_set_self (by rw [h.l1]; exact hit)]
    · rw [List.getElem?_set_ne (fun q => e q.symm)]; exact h.r1 j (by omega)
end

/-- What the rows hold: it items are done, and k accesses of the next. -/
structure C8 (items : Rows3) (it k : Nat) (V : Nat → Nat → Value) (X : Nat → Nat → List Int) : Prop where
  x0 : ∀ j, j < it → X 0 j = ctOf (items.getD j [])
  x1 : ∀ j, j < it → X 1 j = nats (wposN (wtOf (items.getD j [])) (items.getD j []).length)
  x2 : ∀ v, X 2 v = riOf (refsTo items it k v)
  x3 : ∀ v, X 3 v = raOf (refsTo items it k v)
  nil : ∀ a j, a < 2 → it < j → V a j = .slice none 0 0 ∧ X a j = []
/-- The item in hand. -/
structure D8 (items : Rows3) (it k : Nat) (X : Nat → Nat → List Int) : Prop where
  l : (X 0 it).length = (items.getD it []).length
  t : (X 0 it).take k = (ctOf (items.getD it [])).take k
  r1 : X 1 it = nats (wposN (wtOf (items.getD it [])) k)
theorem ct_len (row : List (Nat × Bool × Nat)) : (ctOf row).length = row.length := List.length_map _
theorem ct_at (items : Rows3) (hc : Counts items) {it k : Nat} (hit : it < items.length) (hk : k < (items.getD it []).length) : (ctOf (items.getD it [])).getD k 0 = (((wposN (wtOf (items.getD it [])) k).length : Nat) : Int) := by
  rw [← hc it k hit hk]
  unfold acc ctOf
  generalize items.getD it [] = row at hk ⊢
  simp [List.getD, hk]
/-- One access more. -/
theorem C8.step {items : Rows3} {it k : Nat} {V V' : Nat → Nat → Value} {X : Nat → Nat → List Int} (h : C8 items it k V X) {t : Nat} (ht : (acc items it k).1 = t) (y0 y1 : List Int) (hV : ∀ a j, a < 2 → it < j → V' a j = V a j) :
    C8 items it (k + 1) V' (upd (upd (upd (upd X 0 it y0) 1 it y1) 2 t (X 2 t ++ [(it : Int)])) 3 t (X 3 t ++ [(k : Int)])) := by
  refine ⟨fun j hj => ?_, fun j hj => ?_, fun v => ?_, fun v => ?_, fun a j ha hj => ?_⟩
  · rw [upd_ne _ _ _ _ (.inl (by omega)), upd_ne _ _ _ _ (.inl (by omega)), upd_ne _ _ _ _ (.inl (by omega)), upd_ne _ _ _ _ (.inr (by omega))]; exact h.x0 j hj
  · rw [upd_ne _ _ _ _ (.inl (by omega)), upd_ne _ _ _ _ (.inl (by omega)), upd_ne _ _ _ _ (.inr (by omega)), upd_ne _ _ _ _ (.inl (by omega))]; exact h.x1 j hj
  · rw [upd_ne _ _ _ _ (.inl (by omega)), refsTo_succ, ht]
    by_cases e : v = t
    · subst e
      rw [upd_same, if_pos rfl, h.x2]
      simp [riOf]
    · rw [upd_ne _ _ _ _ (.inr e), upd_ne _ _ _ _ (.inl (by omega)), upd_ne _ _ _ _ (.inl (by omega)), if_neg (fun q => e q.symm), List.append_nil]
      exact h.x2 v
  · rw [refsTo_succ, ht]
    by_cases e : v = t
    · subst e
      rw [upd_same, if_pos rfl, h.x3]
      simp [raOf]
    · rw [upd_ne _ _ _ _ (.inr e), upd_ne _ _ _ _ (.inl (by omega)), upd_ne _ _ _ _ (.inl (by omega)), upd_ne _ _ _ _ (.inl (by omega)), if_neg (fun q => e q.symm), List.append_nil]
      exact h.x3 v
  · rw [hV a j ha hj, upd_ne _ _ _ _ (.inl (by omega)), upd_ne _ _ _ _ (.inl (by omega)), upd_ne _ _ _ _ (.inr (by omega)), upd_ne _ _ _ _ (.inr (by omega))]
    exact h.nil a j ha hj
theorem D8.step {items : Rows3} (hc : Counts items) {it k : Nat} (hit : it < items.length) (hk : k < (items.getD it []).length) {X : Nat → Nat → List Int} (h : D8 items it k X) (t : Nat) (y2 y3 : List Int) :
    D8 items it (k + 1) (upd (upd (upd (upd X 0 it ((X 0 it).set k (((wposN (wtOf (items.getD it [])) k).length : Nat) : Int))) 1 it (nats (wposN (wtOf (items.getD it [])) (k + 1)))) 2 t y2) 3 t y3) := by
  have e0 : (upd (upd (upd (upd X 0 it ((X 0 it).set k (((wposN (wtOf (items.getD it [])) k).length : Nat) : Int))) 1 it (nats (wposN (wtOf (items.getD it [])) (k + 1)))) 2 t y2) 3 t y3) 0 it = (X 0 it).set k (((wposN (wtOf (items.getD it [])) k).length : Nat) : Int) := by
    rw [upd_ne _ _ _ _ (.inl (by omega)), upd_ne _ _ _ _ (.inl (by omega)), upd_ne _ _ _ _ (.inl (by omega)), upd_same]
  refine ⟨?_, ?_, ?_⟩
  · rw [e0, List.length_set]; exact h.l
  · rw [e0, ← ct_at items hc hit hk]
    exact set_to (by rw [ct_len]; exact hk) (by rw [h.l, ct_len]) h.t
  · rw [upd_ne _ _ _ _ (.inl (by omega)), upd_ne _ _ _ _ (.inl (by omega)), upd_same]
/-- The item is done. -/
theorem C8.next {items : Rows3} {it : Nat} {V : Nat → Nat → Value} {X : Nat → Nat → List Int} (h : C8 items it (items.getD it []).length V X) (d : D8 items it (items.getD it []).length X) : C8 items (it + 1) 0 V X := by
  refine ⟨fun j hj => ?_, fun j hj => ?_, fun v => by rw [refsTo_next]; exact h.x2 v, fun v => by rw [refsTo_next]; exact h.x3 v, fun a j ha hj => h.nil a j ha (by omega)⟩
  · by_cases e : j = it
    · subst e
      have := d.t
      rw [List.take_of_length_le (by rw [d.l]; exact Nat.le_refl _), List.take_of_length_le (by rw [ct_len]; exact Nat.le_refl _)] at this
      exact this
    · exact h.x0 j (by omega)
  · by_cases e : j = it
    · subst e; exact d.r1
    · exact h.x1 j (by omega)
end Go.Proofs.Qxb6614980a
