/-
  'distancesTo' in the middle of its work; its closure 'reach'.
-/
import Derived.Test.Qxb6614980aQueue
import Derived.Test.Qxb6614980aGraph
import Derived.Test.Qxb6614980aBfs
import Derived.Handy
import Derived.BigRegion
namespace Go.Proofs.Qxb6614980a
open Go.ChangeShapes Go.WideShapes Go.ChangeAt Go.RowKit

/-- The distances (data gd, variable bd), the two marks of each item (gb, gw), the queue (variable bq). -/
structure BS (w0 w : World) (n gd bd gb gw bq : Nat) (vq : Value) (D Bs Ws Qu : List Int) : Prop where
  bel : Below w0.heap.size w0 w
  d : IBlk w gd D
  dv : Blk w bd 22 [.slice (some ⟨gd, 0, none⟩) n n]
  b : IBlk w gb Bs
  wb : IBlk w gw Ws
  qv : Blk w bq 22 [vq]
  q : OwnQ w w0.heap.size vq Qu
  db : gd ≠ gb
  dw : gd ≠ gw
  bw : gb ≠ gw
  qd : vq.ownBlock ≠ some gd
  qb : vq.ownBlock ≠ some gb
  qw : vq.ownBlock ≠ some gw
  vv : bd ≠ bq
  l1 : w0.heap.size ≤ gd
  l2 : w0.heap.size ≤ gb
  l3 : w0.heap.size ≤ gw
  l4 : w0.heap.size ≤ bq
  l5 : w0.heap.size ≤ bd

section
variable {w0 w : World} {n gd bd gb gw bq : Nat} {vq : Value} {D Bs Ws Qu : List Int}
/-- What the state's blocks are. -/
def BSb (gd bd gb gw bq : Nat) (vq : Value) (k : Nat) : Prop := k = gd ∨ k = bd ∨ k = gb ∨ k = gw ∨ k = bq ∨ vq.ownBlock = some k
theorem BS.blk_lt (h : BS w0 w n gd bd gb gw bq vq D Bs Ws Qu) {k : Nat} (hk : BSb gd bd gb gw bq vq k) : w0.heap.size ≤ k ∧ k < w.heap.size := by
  rcases hk with rfl | rfl | rfl | rfl | rfl | hk
  · exact ⟨h.l1, Blk.lt h.d⟩
  · exact ⟨h.l5, h.dv.lt⟩
  · exact ⟨h.l2, Blk.lt h.b⟩
  · exact ⟨h.l3, Blk.lt h.wb⟩
  · exact ⟨h.l4, h.qv.lt⟩
  · exact h.q.lt hk
theorem BS.le (h : BS w0 w n gd bd gb gw bq vq D Bs Ws Qu) : w0.heap.size ≤ w.heap.size := h.bel.size
theorem BS.chg {S : Nat → Prop} {w' : World} (h : BS w0 w n gd bd gb gw bq vq D Bs Ws Qu) (hc : Chg S w w') (h0 : ∀ k, k < w0.heap.size → ¬ S k) (hS : ∀ k, BSb gd bd gb gw bq vq k → ¬ S k) : BS w0 w' n gd bd gb gw bq vq D Bs Ws Qu := by
  refine ⟨h.bel.trans ⟨hc.os, hc.tape, hc.output, hc.size, fun k hk => hc.block k (by have := h.le; omega) (h0 k hk)⟩, Blk.chg h.d hc (hS _ (.inl rfl)), h.dv.chg hc (hS _ (.inr (.inl rfl))), Blk.chg h.b hc (hS _ (.inr (.inr (.inl rfl)))), Blk.chg h.wb hc (hS _ (.inr (.inr (.inr (.inl rfl))))), h.qv.chg hc (hS _ (.inr (.inr (.inr (.inr (.inl rfl)))))), h.q.chg hc (fun k hk => hS k (.inr (.inr (.inr (.inr (.inr hk)))))), h.db, h.dw, h.bw, h.qd, h.qb, h.qw, h.vv, h.l1, h.l2, h.l3, h.l4, h.l5⟩
/-- New blocks only. -/
theorem BS.new {w' : World} (h : BS w0 w n gd bd gb gw bq vq D Bs Ws Qu) (hc : Chg (fun k => w.heap.size ≤ k) w w') : BS w0 w' n gd bd gb gw bq vq D Bs Ws Qu :=
  h.chg hc (fun k hk e => by have := h.le; omega) (fun k hk e => by have := (h.blk_lt hk).2; omega)
theorem BS.setd (h : BS w0 w n gd bd gb gw bq vq D Bs Ws Qu) (j : Nat) (x : Int) : BS w0 (w.setCell ⟨gd, j, none⟩ (.int .i64 x)) n gd bd gb gw bq vq (D.set j x) Bs Ws Qu := by
  have hc : Chg (fun k => k = gd) w (w.setCell ⟨gd, j, none⟩ (.int .i64 x)) := Chg.setCell w ⟨gd, j, none⟩ _ rfl
  have n1 : bd ≠ gd := h.dv.ne h.d (by decide)
  have n2 : bq ≠ gd := h.qv.ne h.d (by decide)
  exact ⟨h.bel.trans (hc.below h.le (fun k e => by have := h.l1; omega)), h.d.set j x, h.dv.chg hc n1, Blk.chg h.b hc (fun e => h.db e.symm), Blk.chg h.wb hc (fun e => h.dw e.symm), h.qv.chg hc n2, h.q.chg hc (fun k hk e => h.qd (by rw [hk, e])), h.db, h.dw, h.bw, h.qd, h.qb, h.qw, h.vv, h.l1, h.l2, h.l3, h.l4, h.l5⟩
theorem BS.setb (h : BS w0 w n gd bd gb gw bq vq D Bs Ws Qu) (j : Nat) (x : Int) : BS w0 (w.setCell ⟨gb, j, none⟩ (.int .i64 x)) n gd bd gb gw bq vq D (Bs.set j x) Ws Qu := by
  have hc : Chg (fun k => k = gb) w (w.setCell ⟨gb, j, none⟩ (.int .i64 x)) := Chg.setCell w ⟨gb, j, none⟩ _ rfl
  have n1 : bd ≠ gb := h.dv.ne h.b (by decide)
  have n2 : bq ≠ gb := h.qv.ne h.b (by decide)
  exact ⟨h.bel.trans (hc.below h.le (fun k e => by have := h.l2; omega)), Blk.chg h.d hc h.db, h.dv.chg hc n1, h.b.set j x, Blk.chg h.wb hc (fun e => h.bw e.symm), h.qv.chg hc n2, h.q.chg hc (fun k hk e => h.qb (by rw [hk, e])), h.db, h.dw, h.bw, h.qd, h.qb, h.qw, h.vv, h.l1, h.l2, h.l3, h.l4, h.l5⟩
theorem BS.setw (h : BS w0 w n gd bd gb gw bq vq D Bs Ws Qu) (j : Nat) (x : Int) : BS w0 (w.setCell ⟨gw, j, none⟩ (.int .i64 x)) n gd bd gb gw bq vq D Bs (Ws.set j x) Qu := by
  have hc : Chg (fun k => k = gw) w (w.setCell ⟨gw, j, none⟩ (.int .i64 x)) := Chg.setCell w ⟨gw, j, none⟩ _ rfl
  have n1 : bd ≠ gw := h.dv.ne h.wb (by decide)
  have n2 : bq ≠ gw := h.qv.ne h.wb (by decide)
  exact ⟨h.bel.trans (hc.below h.le (fun k e => by have := h.l3; omega)), Blk.chg h.d hc h.dw, h.dv.chg hc n1, Blk.chg h.b hc h.bw, h.wb.set j x, h.qv.chg hc n2, h.q.chg hc (fun k hk e => h.qw (by rw [hk, e])), h.db, h.dw, h.bw, h.qd, h.qb, h.qw, h.vv, h.l1, h.l2, h.l3, h.l4, h.l5⟩
/-- The queue's variable takes another value that holds Qu'. -/
theorem BS.setq {vq' : Value} {Qu' : List Int} (h : BS w0 w n gd bd gb gw bq vq D Bs Ws Qu) (hq : OwnQ w w0.heap.size vq' Qu') (h1 : vq'.ownBlock ≠ some gd) (h2 : vq'.ownBlock ≠ some gb) (h3 : vq'.ownBlock ≠ some gw) : BS w0 (w.setCell ⟨bq, 0, none⟩ vq') n gd bd gb gw bq vq' D Bs Ws Qu' := by
  have hc : Chg (fun k => k = bq) w (w.setCell ⟨bq, 0, none⟩ vq') := Chg.setCell w ⟨bq, 0, none⟩ _ rfl
  have n1 : bq ≠ gd := h.qv.ne h.d (by decide)
  have n2 : bq ≠ gb := h.qv.ne h.b (by decide)
  have n3 : bq ≠ gw := h.qv.ne h.wb (by decide)
  exact ⟨h.bel.trans (hc.below h.le (fun k e => by have := h.l4; omega)), Blk.chg h.d hc (fun e => n1 e.symm), h.dv.chg hc h.vv, Blk.chg h.b hc (fun e => n2 e.symm), Blk.chg h.wb hc (fun e => n3 e.symm), h.qv.set 0 vq', hq.chg hc (fun k hk e => by subst e; exact hq.ne h.qv (by decide) hk), h.db, h.dw, h.bw, h1, h2, h3, h.vv, h.l1, h.l2, h.l3, h.l4, h.l5⟩
/-- Behind an append to the queue. -/
theorem BS.pushq {w' : World} {g o l cap : Nat} {Qu' : List Int} (h : BS w0 w n gd bd gb gw bq vq D Bs Ws Qu) (hq : OwnQ w' w0.heap.size (.slice (some ⟨g, o, none⟩) l cap) Qu') (hc : Chg (fun k => vq.ownBlock = some k) w w') (hat : vq.ownBlock = some g ∨ w.heap.size ≤ g) : BS w0 (w'.setCell ⟨bq, 0, none⟩ (.slice (some ⟨g, o, none⟩) l cap)) n gd bd gb gw bq (.slice (some ⟨g, o, none⟩) l cap) D Bs Ws Qu' := by
  have h' : BS w0 w' n gd bd gb gw bq (.slice (some ⟨g, o, none⟩) l cap) D Bs Ws Qu' ∨ True := .inr trivial
  clear h'
  have ng : ∀ k cs, Blk w k 3 cs → vq.ownBlock ≠ some k → g ≠ k := fun k cs hb hn e => by
    rcases hat with q | q
    · exact hn (by rw [q, e])
    · have := hb.lt; omega
  have n1 := ng gd _ h.d h.qd
  have n2 := ng gb _ h.b h.qb
  have n3 := ng gw _ h.wb h.qw
  have hqv : Blk w' bq 22 [vq] := h.qv.chg hc (fun e => h.q.ne h.qv (by decide) e)
  have hcs : Chg (fun k => k = bq) w' (w'.setCell ⟨bq, 0, none⟩ (.slice (some ⟨g, o, none⟩) l cap)) := Chg.setCell w' ⟨bq, 0, none⟩ _ rfl
  have m1 : bq ≠ gd := h.qv.ne h.d (by decide)
  have m2 : bq ≠ gb := h.qv.ne h.b (by decide)
  have m3 : bq ≠ gw := h.qv.ne h.wb (by decide)
  have hle := h.le
  have hsz := hc.size
  exact ⟨(h.bel.trans (hc.below hle (fun k e => (h.q.lt e).1))).trans (hcs.below (by omega) (fun k e => by have := h.l4; omega)), Blk.chg (Blk.chg h.d hc h.qd) hcs (fun e => m1 e.symm), (h.dv.chg hc (fun e => h.q.ne h.dv (by decide) e)).chg hcs h.vv, Blk.chg (Blk.chg h.b hc h.qb) hcs (fun e => m2 e.symm), Blk.chg (Blk.chg h.wb hc h.qw) hcs (fun e => m3 e.symm), hqv.set 0 _, hq.chg hcs (fun k hk e => by subst e; exact hq.ne hqv (by decide) hk), h.db, h.dw, h.bw, (fun e => n1 (by injection e)), (fun e => n2 (by injection e)), (fun e => n3 (by injection e)), h.vv, h.l1, h.l2, h.l3, h.l4, h.l5⟩
end

set_option maxRecDepth 100000 in
set_option maxHeartbeats 4000000 in
theorem reach30_any (w0 w : World) (n gd bd gb gw bq bv : Nat) (vq : Value) (D Bs Ws Qu : List Int) (t v k : Nat) (x : Bool) (h : BS w0 w n gd bd gb gw bq vq D Bs Ws Qu) (hD : D.length = n) (hb : Blk w bv 3 [.int .i64 v]) (ht : t < n) (hv : v < n) (hq : Qu.length ≤ 1048576) (hdv : -1 ≤ D.getD v 0 ∧ D.getD v 0 ≤ 1048576) :
    Calls Try.prog 30 #[.agg #[.int .i64 t, .bool x, .int .i64 k], .pointer (some ⟨bd, 0, none⟩), .pointer (some ⟨bv, 0, none⟩), .pointer (some ⟨bq, 0, none⟩)] w fun e w' => e = .returned (.tuple #[]) ∧ ∃ vq', BS w0 w' n gd bd gb gw bq vq' (reachD D v t) Bs Ws (reachQ D Qu t) ∧ Chg (fun k => k = gd ∨ k = bq ∨ vq.ownBlock = some k) w w' ∧ (vq'.ownBlock = vq.ownBlock ∨ ∃ g, vq'.ownBlock = some g ∧ w.heap.size ≤ g) := by
  have H := hide h
  have hdvc := one_cell h.dv
  have hqvc := one_cell h.qv
  have hbc := one_cell hb
  have hct := h.d.cell (j := t) (by omega)
  have hcv := h.d.cell (j := v) (by omega)
  have hft := Blk.free h.d t
  have l1 := h.dv.lt
  have l2 := h.qv.lt
  have l3 := hb.lt
  have l4 := Blk.lt h.d
  unfold reachD reachQ
  obtain ⟨dt, hdt⟩ : ∃ x, x = D.getD t 0 := ⟨_, rfl⟩
  obtain ⟨dv, hdvv⟩ : ∃ x, x = D.getD v 0 := ⟨_, rfl⟩
  rw [← hdt] at hct ⊢
  rw [← hdvv] at hcv hdv ⊢
  have HDT := hide hdt
  have HDV := hide hdvv
  have HB := hide hb
  clear h hdt hdvv hb hD
  by_cases hneg : dt < 0
  · rw [if_pos hneg, if_pos hneg]
    go_enter Try.func30, Try.ntmps30
    go_wp2_with fail
    go_region
    obtain ⟨W1, hW1⟩ : ∃ W, W = ((w.setCell ⟨gd, t, none⟩ (.int .i64 (dv + 1))).alloc (.cells #[.int .i64 t, .bool x, .int .i64 k] 58)).drew := ⟨_, rfl⟩
    rw [← hW1]
    have S1 : Hid (BS w0 W1 n gd bd gb gw bq vq (D.set t (dv + 1)) Bs Ws Qu) := by
      rw [hW1]
      exact (((unhide H).setd t (dv + 1)).new (Chg.alloc _ _ _)).new (Chg.draws _ _ 1)
    have hbox : Blk W1 w.heap.size 58 [.int .i64 t, .bool x, .int .i64 k] := by
      rw [hW1]
      have hsz : (w.setCell ⟨gd, t, none⟩ (.int .i64 (dv + 1))).heap.size = w.heap.size := by simp [World.setCell]
      rw [← hsz]
      exact Blk.new (w.setCell ⟨gd, t, none⟩ (.int .i64 (dv + 1))) 58 [.int .i64 t, .bool x, .int .i64 k]
    have hbx : W1.cell? ⟨w.heap.size, 0, none⟩ = some (.int .i64 t) := hbox.cell 0
    have hc1 : Chg (fun k => k = gd) w W1 := by
      rw [hW1]
      exact ((Chg.setCell (S := fun k => k = gd) w ⟨gd, t, none⟩ _ rfl).trans (Chg.alloc _ _ _)).trans (Chg.draws _ _ 1)
    have hq1 := one_cell (unhide S1).qv
    have hlt1 := (unhide S1).qv.lt
    have hlt2 := hbox.lt
    have HW1 := hide hW1
    clear hW1 hbox
    go_wp2_with (at_builtin; refine wpList_pushQ rfl (.tmp 20) (.tmp 23) rfl w0.heap.size vq Qu rfl (unhide S1).q t W1.heap.size rfl rfl (by omega) (unhide S1).le ?_; intro g o cap w2 ho2 hc2 hat2; have hb2 := (unhide S1).qv.chg hc2 (fun e => (unhide S1).q.ne (unhide S1).qv (by decide) e); have hc82 := one_cell hb2; have hf82 := hb2.free 0; have HO2 := hide ho2; clear ho2)
    go_returns
    refine ⟨rfl, _, (unhide S1).pushq (unhide HO2) hc2 hat2, ?_, ?_⟩
    · refine ((hc1.mono (fun k _ e => .inl e)).then hc2 (fun k _ e => .inr (.inr e))).then (Chg.setCell (S := fun k => k = bq) w2 ⟨bq, 0, none⟩ _ rfl) (fun k _ e => .inr (.inl e))
    · rcases hat2 with e | e
      · exact .inl e.symm
      · exact .inr ⟨g, rfl, Nat.le_trans hc1.size e⟩
  · rw [if_neg hneg, if_neg hneg]
    go_enter Try.func30, Try.ntmps30
    go_wp2_with fail
    go_returns
    exact ⟨rfl, vq, (unhide H).new (Chg.alloc _ w _), Chg.alloc _ w _, .inl rfl⟩
end Go.Proofs.Qxb6614980a
