/-
  'order' in the middle of its work.
-/
import Derived.Test.Qxb6614980aHeap2
import Derived.Test.Qxb6614980aKahn
namespace Go.Proofs.Qxb6614980a
open Go.ChangeShapes Go.WideShapes Go.ChangeAt Go.RowKit

/-- A number for each vertex. -/
def arrN (n : Nat) (f : Nat → Nat) : List Int := (List.range n).map fun v => (f v : Int)
theorem arrN_len (n : Nat) (f : Nat → Nat) : (arrN n f).length = n := by simp [arrN]
theorem arrN_at (n : Nat) (f : Nat → Nat) (v : Nat) (hv : v < n) : (arrN n f).getD v 0 = (f v : Int) := by
  unfold arrN
  rw [mapRange_getD _ _ _ hv]
theorem arrN_set (n : Nat) (f g : Nat → Nat) (v : Nat) (hv : v < n) (he : ∀ x, x ≠ v → f x = g x) (y : Int) (hy : y = (g v : Int)) : (arrN n f).set v y = arrN n g := by
  unfold arrN
  rw [hy]
  exact mapRange_set (fun v => (f v : Int)) (fun v => (g v : Int)) n v hv (fun x hx => by rw [he x hx])
theorem arrN_congr (n : Nat) (f g : Nat → Nat) (he : ∀ x, x < n → f x = g x) : arrN n f = arrN n g := by
  unfold arrN
  exact mapRange_congr _ _ n (fun x hx => by rw [he x hx])
theorem arrN_zero (n : Nat) (f : Nat → Nat) (he : ∀ x, f x = 0) : List.replicate n 0 = arrN n f := by
  unfold arrN
  apply List.ext_getElem
  · simp
  · intro i h1 h2
    simp [he]

def lenOf : Value → Nat
  | .slice _ n _ => n
  | _ => 0

theorem OwnI.some {w : World} {B : Nat} {v : Value} {xs : List Int} (h : OwnI w B v xs) (hx : 0 < xs.length) : ∃ g cap, v = .slice (some ⟨g, 0, none⟩) xs.length cap := by
  rcases h.2 with ⟨_, h0⟩ | ⟨g, cap, cur, rfl, _⟩
  · omega
  · exact ⟨g, cap, rfl⟩

/-- 'order' in the middle of its work: the counts 'into' (block gi), the heap (variable at rb), the order. -/
structure OS (w0 w : World) (gi rb : Nat) (cs : List Value) (vo vr : Value) (into ord R : List Int) : Prop where
  bel : Below w0.heap.size w0 w
  box : Blk w w0.heap.size 49 cs
  i : IBlk w gi into
  v : Blk w rb 63 [vr]
  r : OwnI w (w0.heap.size + 1) vr R
  o : OwnI w (w0.heap.size + 1) vo ord
  ri : vr.ownBlock ≠ some gi
  oi : vo.ownBlock ≠ some gi
  ro : Apart vr vo
  gl : w0.heap.size < gi
  rl : w0.heap.size < rb

section
variable {w0 w : World} {gi rb : Nat} {cs : List Value} {vo vr : Value} {into ord R : List Int}
theorem OS.size (h : OS w0 w gi rb cs vo vr into ord R) : w0.heap.size < w.heap.size := h.box.lt
theorem OS.ir (h : OS w0 w gi rb cs vo vr into ord R) : gi ≠ rb := Blk.ne h.i h.v (by decide)
theorem OS.chg {S : Nat → Prop} {w' : World} (h : OS w0 w gi rb cs vo vr into ord R) (hc : Chg S w w') (hN : ∀ k, k ≤ w0.heap.size → ¬ S k) (h1 : ¬ S gi) (h2 : ¬ S rb) (h3 : ∀ k, vr.ownBlock = some k → ¬ S k) (h4 : ∀ k, vo.ownBlock = some k → ¬ S k) : OS w0 w' gi rb cs vo vr into ord R := by
  have hs := h.size
  refine ⟨?_, h.box.chg hc (hN _ (Nat.le_refl _)), Blk.chg h.i hc h1, h.v.chg hc h2, h.r.chg hc h3, h.o.chg hc h4, h.ri, h.oi, h.ro, h.gl, h.rl⟩
  exact h.bel.trans ⟨hc.os, hc.tape, hc.output, hc.size, fun k hk => hc.block k (by omega) (hN k (by omega))⟩
theorem OS.draws (h : OS w0 w gi rb cs vo vr into ord R) (d : Nat) : OS w0 (w.drewN d) gi rb cs vo vr into ord R :=
  h.chg (Chg.draws (fun _ => False) w d) (fun _ _ e => e) (fun e => e) (fun e => e) (fun _ _ e => e) (fun _ _ e => e)
theorem OS.seti (h : OS w0 w gi rb cs vo vr into ord R) (j : Nat) (x : Int) : OS w0 (w.setCell ⟨gi, j, none⟩ (.int .i64 x)) gi rb cs vo vr (into.set j x) ord R := by
  have hc : Chg (fun k => k = gi) w (w.setCell ⟨gi, j, none⟩ (.int .i64 x)) := Chg.setCell w ⟨gi, j, none⟩ _ rfl
  have hg := h.gl
  refine ⟨?_, h.box.chg hc (by omega), h.i.set j x, h.v.chg hc (fun e => h.ir e.symm), h.r.chg hc (fun k hk e => h.ri (by rw [hk, e])), h.o.chg hc (fun k hk e => h.oi (by rw [hk, e])), h.ri, h.oi, h.ro, h.gl, h.rl⟩
  exact h.bel.trans (hc.below (by have := h.size; omega) (fun k e => by omega))
/-- The heap after a pop or a push. -/
theorem OS.heap {w' : World} {g n cap g' n' cap' : Nat} {ys : List Int} (h : OS w0 w gi rb cs vo (.slice (some ⟨g, 0, none⟩) n cap) into ord R) (hh : Hp w' (w0.heap.size + 1) rb g' n' cap' ys) (hc : Chg (fun k => k = rb ∨ k = g) w w') (hat : g' = g ∨ w.heap.size ≤ g') : OS w0 w' gi rb cs vo (.slice (some ⟨g', 0, none⟩) n' cap') into ord ys := by
  have hg := h.gl
  have hr := h.rl
  have hgg := (h.r.lt (k := g) rfl).1
  have hgi : g ≠ gi := fun e => h.ri (by rw [e]; rfl)
  refine ⟨?_, h.box.chg hc (by omega), Blk.chg h.i hc (by rintro (e | e); exact h.ir e; exact hgi e.symm), hh.v, hh.o, h.o.chg hc (fun k hk => by
      rintro (e | e)
      · subst e; exact h.o.ne h.v (by decide) hk
      · subst e; exact h.ro k rfl hk) |> fun ho => ho, ?_, h.oi, ?_, h.gl, h.rl⟩
  · exact h.bel.trans (hc.below (by have := h.size; omega) (fun k e => by rcases e with e | e <;> omega))
  · intro e
    have e2 : g' = gi := by injection e
    rcases hat with q | q
    · exact hgi (by omega)
    · have := Blk.lt h.i; omega
  · intro k hk e
    have e2 : g' = k := by injection hk
    subst e2
    rcases hat with q | q
    · subst q; exact h.ro g' rfl e
    · have := (h.o.lt e).2; omega
/-- One more in the order. -/
theorem OS.ord_push {w' : World} {g cap : Nat} {x : Int} {l : Nat} (h : OS w0 w gi rb cs vo vr into ord R) (ho : OwnI w' (w0.heap.size + 1) (.slice (some ⟨g, 0, none⟩) l cap) (ord ++ [x])) (hc : Chg (fun k => vo.ownBlock = some k) w w') (hat : vo.ownBlock = some g ∨ w.heap.size ≤ g) : OS w0 w' gi rb cs (.slice (some ⟨g, 0, none⟩) l cap) vr into (ord ++ [x]) R := by
  refine ⟨?_, h.box.chg hc (fun e => by have := (h.o.lt e).1; omega), Blk.chg h.i hc h.oi, h.v.chg hc (fun e => h.o.ne h.v (by decide) e), h.r.chg hc (fun k hk e => h.ro k hk e), ho, h.ri, ?_, ?_, h.gl, h.rl⟩
  · exact h.bel.trans (hc.below (by have := h.size; omega) (fun k e => by have := (h.o.lt e).1; omega))
  · intro e
    have e2 : g = gi := by injection e
    subst e2
    rcases hat with q | q
    · exact h.oi q
    · have := Blk.lt h.i; omega
  · intro k hk e
    have e2 : g = k := by injection e
    subst e2
    rcases hat with q | q
    · exact h.ro g hk q
    · have := (h.r.lt hk).2; omega
/-- One more in the heap, as the first vertices are laid. -/
theorem OS.rdy_push {w' : World} {g cap : Nat} {x : Int} {l : Nat} (h : OS w0 w gi rb cs vo vr into ord R) (ho : OwnI w' (w0.heap.size + 1) (.slice (some ⟨g, 0, none⟩) l cap) (R ++ [x])) (hc : Chg (fun k => vr.ownBlock = some k) w w') (hat : vr.ownBlock = some g ∨ w.heap.size ≤ g) : OS w0 (w'.setCell ⟨rb, 0, none⟩ (.slice (some ⟨g, 0, none⟩) l cap)) gi rb cs vo (.slice (some ⟨g, 0, none⟩) l cap) into ord (R ++ [x]) := by
  have hv' : Blk w' rb 63 [vr] := h.v.chg hc (fun e => h.r.ne h.v (by decide) e)
  have hcs : Chg (fun k => k = rb) w' (w'.setCell ⟨rb, 0, none⟩ (.slice (some ⟨g, 0, none⟩) l cap)) := Chg.setCell w' ⟨rb, 0, none⟩ _ rfl
  have hrl := h.rl
  have hsz := h.size
  have hc2 := hc.size
  refine ⟨?_, (h.box.chg hc (fun e => by have := (h.r.lt e).1; omega)).chg hcs (by omega), Blk.chg (Blk.chg h.i hc h.ri) hcs h.ir, hv'.set 0 _, ho.chg hcs (fun k hk e => by subst e; exact ho.ne hv' (by decide) hk), (h.o.chg hc (fun k hk e => h.ro k e hk)).chg hcs (fun k hk e => by subst e; exact h.o.ne h.v (by decide) hk), ?_, h.oi, ?_, h.gl, h.rl⟩
  · exact (h.bel.trans (hc.below (by omega) (fun k e => by have := (h.r.lt e).1; omega))).trans (hcs.below (by omega) (fun k e => by omega))
  · intro e
    have e2 : g = gi := by injection e
    subst e2
    rcases hat with q | q
    · exact h.ri q
    · have := Blk.lt h.i; omega
  · intro k hk e
    have e2 : g = k := by injection hk
    subst e2
    rcases hat with q | q
    · exact h.ro g q e
    · have := (h.o.lt e).2; omega
end

end Go.Proofs.Qxb6614980a
