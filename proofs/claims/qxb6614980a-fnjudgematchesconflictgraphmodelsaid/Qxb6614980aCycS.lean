/-
  'shortestCycle' in the middle of its work.
-/
import Derived.Test.Qxb6614980aCons26
import Derived.Test.Qxb6614980aOrdS
namespace Go.Proofs.Qxb6614980a
open Go.ChangeShapes Go.WideShapes Go.ChangeAt Go.RowKit

/-- The distances' variable (bd), the two marks of each item (ga, gw), the cycle so far. -/
structure CS (w0 w : World) (n g bd ga gw : Nat) (vc : Value) (As Ws cyc : List Int) : Prop where
  bel : Below w0.heap.size w0 w
  dv : Blk w bd 22 [.slice (some ⟨g, 0, none⟩) n n]
  a : IBlk w ga As
  wb : IBlk w gw Ws
  c : OwnI w w0.heap.size vc cyc
  aw : ga ≠ gw
  ca : vc.ownBlock ≠ some ga
  cw : vc.ownBlock ≠ some gw
  l1 : w0.heap.size ≤ ga
  l2 : w0.heap.size ≤ gw
  l3 : w0.heap.size ≤ bd

section
variable {w0 w : World} {n g bd ga gw : Nat} {vc : Value} {As Ws cyc : List Int}
theorem CS.le (h : CS w0 w n g bd ga gw vc As Ws cyc) : w0.heap.size ≤ w.heap.size := h.bel.size
theorem CS.chg {S : Nat → Prop} {w' : World} (h : CS w0 w n g bd ga gw vc As Ws cyc) (hc : Chg S w w') (h0 : ∀ k, k < w0.heap.size → ¬ S k) (h1 : ¬ S bd) (h2 : ¬ S ga) (h3 : ¬ S gw) (h4 : ∀ k, vc.ownBlock = some k → ¬ S k) : CS w0 w' n g bd ga gw vc As Ws cyc :=
  ⟨h.bel.trans ⟨hc.os, hc.tape, hc.output, hc.size, fun k hk => hc.block k (by have := h.le; omega) (h0 k hk)⟩, h.dv.chg hc h1, Blk.chg h.a hc h2, Blk.chg h.wb hc h3, h.c.chg hc h4, h.aw, h.ca, h.cw, h.l1, h.l2, h.l3⟩
theorem CS.new {w' : World} (h : CS w0 w n g bd ga gw vc As Ws cyc) (hc : Chg (fun k => w.heap.size ≤ k) w w') : CS w0 w' n g bd ga gw vc As Ws cyc :=
  h.chg hc (fun k hk e => by have := h.le; omega) (fun e => by have := h.dv.lt; omega) (fun e => by have := Blk.lt h.a; omega) (fun e => by have := Blk.lt h.wb; omega) (fun k hk e => by have := (h.c.lt hk).2; omega)
theorem CS.seta (h : CS w0 w n g bd ga gw vc As Ws cyc) (j : Nat) (x : Int) : CS w0 (w.setCell ⟨ga, j, none⟩ (.int .i64 x)) n g bd ga gw vc (As.set j x) Ws cyc := by
  have hc : Chg (fun k => k = ga) w (w.setCell ⟨ga, j, none⟩ (.int .i64 x)) := Chg.setCell w ⟨ga, j, none⟩ _ rfl
  exact ⟨h.bel.trans (hc.below h.le (fun k e => by have := h.l1; omega)), h.dv.chg hc (h.dv.ne h.a (by decide)), h.a.set j x, Blk.chg h.wb hc (fun e => h.aw e.symm), h.c.chg hc (fun k hk e => h.ca (by rw [hk, e])), h.aw, h.ca, h.cw, h.l1, h.l2, h.l3⟩
theorem CS.setw (h : CS w0 w n g bd ga gw vc As Ws cyc) (j : Nat) (x : Int) : CS w0 (w.setCell ⟨gw, j, none⟩ (.int .i64 x)) n g bd ga gw vc As (Ws.set j x) cyc := by
  have hc : Chg (fun k => k = gw) w (w.setCell ⟨gw, j, none⟩ (.int .i64 x)) := Chg.setCell w ⟨gw, j, none⟩ _ rfl
  exact ⟨h.bel.trans (hc.below h.le (fun k e => by have := h.l2; omega)), h.dv.chg hc (h.dv.ne h.wb (by decide)), Blk.chg h.a hc h.aw, h.wb.set j x, h.c.chg hc (fun k hk e => h.cw (by rw [hk, e])), h.aw, h.ca, h.cw, h.l1, h.l2, h.l3⟩
theorem CS.push {w' : World} {g' l cap : Nat} {cyc' : List Int} (h : CS w0 w n g bd ga gw vc As Ws cyc) (ho : OwnI w' w0.heap.size (.slice (some ⟨g', 0, none⟩) l cap) cyc') (hc : Chg (fun k => vc.ownBlock = some k) w w') (hat : vc.ownBlock = some g' ∨ w.heap.size ≤ g') : CS w0 w' n g bd ga gw (.slice (some ⟨g', 0, none⟩) l cap) As Ws cyc' := by
  refine ⟨h.bel.trans (hc.below h.le (fun k e => (h.c.lt e).1)), h.dv.chg hc (fun e => h.c.ne h.dv (by decide) e), Blk.chg h.a hc h.ca, Blk.chg h.wb hc h.cw, ho, h.aw, ?_, ?_, h.l1, h.l2, h.l3⟩
  · intro e
    have e2 : g' = ga := Option.some.inj e
    rcases hat with q | q
    · exact h.ca (by rw [q, e2])
    · have := Blk.lt h.a; omega
  · intro e
    have e2 : g' = gw := Option.some.inj e
    rcases hat with q | q
    · exact h.cw (by rw [q, e2])
    · have := Blk.lt h.wb; omega
end

/-- The marks as they are first laid. -/
def lensTo (m : Nat) (f : Nat → Nat) (k : Nat) : List Int := (List.range m).map fun j => if j < k then (f j : Int) else 0
theorem lensTo_len (m : Nat) (f : Nat → Nat) (k : Nat) : (lensTo m f k).length = m := by simp [lensTo]
theorem lensTo_zero (m : Nat) (f : Nat → Nat) : lensTo m f 0 = List.replicate m 0 := by
  apply List.ext_getElem
  · simp [lensTo]
  · intro i h1 h2
    simp [lensTo]
theorem lensTo_succ (m : Nat) (f : Nat → Nat) (k : Nat) (hk : k < m) : (lensTo m f k).set k (f k : Int) = lensTo m f (k + 1) := by
  unfold lensTo
  have := mapRange_set (fun j => if j < k then (f j : Int) else 0) (fun j => if j < k + 1 then (f j : Int) else 0) m k hk (fun x hx => by
    by_cases h : x < k
    · rw [if_pos h, if_pos (by omega)]
    · rw [if_neg h, if_neg (by omega)])
  rw [if_pos (by omega)] at this
  exact this
theorem lensTo_all (m : Nat) (f : Nat → Nat) (j : Nat) (hj : j < m) : (lensTo m f m).getD j 0 = (f j : Int) := by
  unfold lensTo
  rw [mapRange_getD _ _ _ hj, if_pos hj]
theorem aftB_start (items : Rows3) (L : Nat → Prop) : AftB items L (lensTo items.length (fun j => (items.getD j []).length) items.length) :=
  ⟨lensTo_len _ _ _, fun j hj => ⟨_, lensTo_all _ _ j hj, Nat.le_refl _, fun i h1 h2 => by omega⟩⟩
theorem aftW_start (items : Rows3) (writes : List (List Int)) (L : Nat → Prop) : AftW items writes L (lensTo items.length (fun j => (writes.getD j []).length) items.length) :=
  ⟨lensTo_len _ _ _, fun j hj => ⟨_, lensTo_all _ _ j hj, Nat.le_refl _, fun i h1 h2 => by omega⟩⟩

end Go.Proofs.Qxb6614980a
