/-
  ZZNewGraph.
-/
import Derived.Test.Qxb6614980aRowS
namespace Go.Proofs.Qxb6614980a
open Go.ChangeShapes Go.WideShapes Go.ChangeAt Go.RowKit

def txOf (row : List (Nat × Bool × Nat)) : List Int := row.map fun a => (a.1 : Int)
def wtOf (row : List (Nat × Bool × Nat)) : List Bool := row.map fun a => a.2.1
def ctOf (row : List (Nat × Bool × Nat)) : List Int := row.map fun a => (a.2.2 : Int)
def riOf (row : List (Nat × Nat)) : List Int := row.map fun a => (a.1 : Int)
def raOf (row : List (Nat × Nat)) : List Int := row.map fun a => (a.2 : Int)
theorem mapRow_at {α β : Type} (f : List α → List β) (hf : f [] = []) (rows : List (List α)) (j : Nat) : (rows.map f).getD j [] = f (rows.getD j []) := by
  simp only [List.getD, List.getElem?_map]
  cases rows[j]? with
  | none => exact hf.symm
  | some r => rfl

/-- One access more is laid. -/
def AccTo (cs : List Value) (row : List (Nat × Bool × Nat)) (k : Nat) : Prop := cs.length = row.length * 3 ∧ ∀ q, q < k → cs[q * 3]? = some (.int .i64 (row.getD q (0, false, 0)).1) ∧ cs[q * 3 + 1]? = some (.bool (row.getD q (0, false, 0)).2.1) ∧ cs[q * 3 + 2]? = some (.int .i64 (row.getD q (0, false, 0)).2.2)
theorem AccTo.succ {cs : List Value} {row : List (Nat × Bool × Nat)} {k : Nat} (h : AccTo cs row k) (hk : k < row.length) : AccTo (((cs.set (k * 3) (.int .i64 (row.getD k (0, false, 0)).1)).set (k * 3 + 1) (.bool (row.getD k (0, false, 0)).2.1)).set (k * 3 + 2) (.int .i64 (row.getD k (0, false, 0)).2.2)) row (k + 1) := by
  refine ⟨by simp [h.1], fun q hq => ?_⟩
  have hl := h.1
  by_cases e : q = k
  · subst e
    refine ⟨?_, ?_, ?_⟩
    · rw [List.getElem?_set_ne (by omega), List.getElem?_set_ne (by omega), List.getElem?_set_self (by omega)]
    · rw [List.getElem?_set_ne (by omega), List.getElem?_set_self (by rw [List.length_set]; omega)]
    · rw [List.getElem?_set_self (by rw [List.length_set, List.length_set]; omega)]
  · have h2 := h.2 q (by omega)
    refine ⟨?_, ?_, ?_⟩
    · rw [List.getElem?_set_ne (by omega), List.getElem?_set_ne (by omega), List.getElem?_set_ne (by omega)]; exact h2.1
    · rw [List.getElem?_set_ne (by omega), List.getElem?_set_ne (by omega), List.getElem?_set_ne (by omega)]; exact h2.2.1
    · rw [List.getElem?_set_ne (by omega), List.getElem?_set_ne (by omega), List.getElem?_set_ne (by omega)]; exact h2.2.2
theorem AccTo.rd {w : World} {rb : Nat} {cs : List Value} {row : List (Nat × Bool × Nat)} (h : AccTo cs row row.length) (hb : Blk w rb 58 cs) : RdAcc w (some ⟨rb, 0, none⟩) row := fun q hq => by
  obtain ⟨h1, h2, h3⟩ := h.2 q hq
  exact ⟨rb, 0, rfl, by rw [Nat.zero_add, hb.cell]; exact h1, by rw [Nat.zero_add, hb.cell]; exact h2, by rw [Nat.zero_add, hb.cell]; exact h3⟩
def RefTo (cs : List Value) (row : List (Nat × Nat)) (k : Nat) : Prop := cs.length = row.length * 2 ∧ ∀ q, q < k → cs[q * 2]? = some (.int .i64 (row.getD q (0, 0)).1) ∧ cs[q * 2 + 1]? = some (.int .i64 (row.getD q (0, 0)).2)
theorem RefTo.succ {cs : List Value} {row : List (Nat × Nat)} {k : Nat} (h : RefTo cs row k) (hk : k < row.length) : RefTo ((cs.set (k * 2) (.int .i64 (row.getD k (0, 0)).1)).set (k * 2 + 1) (.int .i64 (row.getD k (0, 0)).2)) row (k + 1) := by
  refine ⟨by simp [h.1], fun q hq => ?_⟩
  have hl := h.1
  by_cases e : q = k
  · subst e
    refine ⟨?_, ?_⟩
    · rw [List.getElem?_set_ne (by omega), List.getElem?_set_self (by omega)]
    · rw [List.getElem?_set_self (by rw [List.length_set]; omega)]
  · have h2 := h.2 q (by omega)
    refine ⟨?_, ?_⟩
    · rw [List.getElem?_set_ne (by omega), List.getElem?_set_ne (by omega)]; exact h2.1
    · rw [List.getElem?_set_ne (by omega), List.getElem?_set_ne (by omega)]; exact h2.2
theorem RefTo.rd {w : World} {rb : Nat} {cs : List Value} {row : List (Nat × Nat)} (h : RefTo cs row row.length) (hb : Blk w rb 61 cs) : RdRef w (some ⟨rb, 0, none⟩) row := fun q hq => by
  obtain ⟨h1, h2⟩ := h.2 q hq
  exact ⟨rb, 0, rfl, by rw [Nat.zero_add, hb.cell]; exact h1, by rw [Nat.zero_add, hb.cell]; exact h2⟩

/-- The first k rows stand, in blocks below M; gi: the outer block. -/
structure AccRows (w0 w : World) (M gi : Nat) (items : List (List (Nat × Bool × Nat))) (k : Nat) (cs : List Value) : Prop where
  b : Blk w gi 56 cs
  l : cs.length = items.length
  g : gi < M
  m : M ≤ w.heap.size
  r : ∀ j, j < k → ∃ rb, cs[j]? = some (.slice (some ⟨rb, 0, none⟩) (items.getD j []).length (items.getD j []).length) ∧ rb < M ∧ rb ≠ gi ∧ RdAcc w (some ⟨rb, 0, none⟩) (items.getD j [])
  bel : Below w0.heap.size w0 w
theorem AccRows.chg {S : Nat → Prop} {w0 w w' : World} {M gi : Nat} {items : List (List (Nat × Bool × Nat))} {k : Nat} {cs : List Value} (h : AccRows w0 w M gi items k cs) (hc : Chg S w w') (hs : ∀ i, S i → M ≤ i) (hle : w0.heap.size ≤ M) : AccRows w0 w' M gi items k cs :=
  ⟨h.b.chg hc (fun e => by have := hs gi e; have := h.g; omega), h.l, h.g, Nat.le_trans h.m hc.size, (fun j hj => by
    obtain ⟨rb, h1, h2, h3, h4⟩ := h.r j hj
    exact ⟨rb, h1, h2, h3, h4.chg hc (fun e => by have := hs rb e; omega)⟩), h.bel.trans ⟨hc.os, hc.tape, hc.output, hc.size, (fun i hi => hc.block i (by have := h.m; omega) (fun e => by have := hs i e; omega))⟩⟩
theorem AccRows.up {w0 w : World} {M M' gi : Nat} {items : List (List (Nat × Bool × Nat))} {k : Nat} {cs : List Value} (h : AccRows w0 w M gi items k cs) (h1 : M ≤ M') (h2 : M' ≤ w.heap.size) : AccRows w0 w M' gi items k cs :=
  ⟨h.b, h.l, by have := h.g; omega, h2, (fun j hj => by
    obtain ⟨rb, e1, e2, e3, e4⟩ := h.r j hj
    exact ⟨rb, e1, by omega, e3, e4⟩), h.bel⟩
/-- Row k is laid into the outer block. -/
theorem AccRows.put {w0 w : World} {M gi : Nat} {items : List (List (Nat × Bool × Nat))} {k : Nat} {cs : List Value} (h : AccRows w0 w M gi items k cs) (hk : k < items.length) (hgi : w0.heap.size ≤ gi) {rb : Nat} (hr : RdAcc w (some ⟨rb, 0, none⟩) (items.getD k [])) (hl : rb < M) (hne : rb ≠ gi) :
    AccRows w0 (w.setCell ⟨gi, k, none⟩ (.slice (some ⟨rb, 0, none⟩) (items.getD k []).length (items.getD k []).length)) M gi items (k + 1) (cs.set k (.slice (some ⟨rb, 0, none⟩) (items.getD k []).length (items.getD k []).length)) := by
  have hc : Chg (fun i => i = gi) w (w.setCell ⟨gi, k, none⟩ (.slice (some ⟨rb, 0, none⟩) (items.getD k []).length (items.getD k []).length)) := Chg.setCell w ⟨gi, k, none⟩ _ rfl
  refine ⟨h.b.set k _, by rw [List.length_set]; exact h.l, h.g, Nat.le_trans h.m hc.size, fun j hj => ?_, h.bel.trans (hc.below h.bel.size (fun i e => by omega))⟩
  by_cases e : j = k
  · subst e
    exact ⟨rb, by rw [List.getElem?_set_self (by rw [h.l]; exact hk)], hl, hne, hr.chg hc hne⟩
  · obtain ⟨rb', h1, h2, h3, h4⟩ := h.r j (by omega)
    exact ⟨rb', by rw [List.getElem?_set_ne (fun q => e q.symm)]; exact h1, h2, h3, h4.chg hc h3⟩
theorem AccRows.rd {w0 w : World} {M gi : Nat} {items : List (List (Nat × Bool × Nat))} {cs : List Value} (h : AccRows w0 w M gi items items.length cs) : RdAccs w (some ⟨gi, 0, none⟩) items := fun j hj => by
  obtain ⟨rb, h1, _, _, h4⟩ := h.r j hj
  exact ⟨gi, 0, _, _, rfl, by rw [Nat.zero_add, h.b.cell]; exact h1, h4⟩

/-- The first k rows stand, in blocks below M; gi: the outer block. -/
structure RefRows (w0 w : World) (M gi : Nat) (items : List (List (Nat × Nat))) (k : Nat) (cs : List Value) : Prop where
  b : Blk w gi 59 cs
  l : cs.length = items.length
  g : gi < M
  m : M ≤ w.heap.size
  r : ∀ j, j < k → ∃ rb, cs[j]? = some (.slice (some ⟨rb, 0, none⟩) (items.getD j []).length (items.getD j []).length) ∧ rb < M ∧ rb ≠ gi ∧ RdRef w (some ⟨rb, 0, none⟩) (items.getD j [])
  bel : Below w0.heap.size w0 w
theorem RefRows.chg {S : Nat → Prop} {w0 w w' : World} {M gi : Nat} {items : List (List (Nat × Nat))} {k : Nat} {cs : List Value} (h : RefRows w0 w M gi items k cs) (hc : Chg S w w') (hs : ∀ i, S i → M ≤ i) (hle : w0.heap.size ≤ M) : RefRows w0 w' M gi items k cs :=
  ⟨h.b.chg hc (fun e => by have := hs gi e; have := h.g; omega), h.l, h.g, Nat.le_trans h.m hc.size, (fun j hj => by
    obtain ⟨rb, h1, h2, h3, h4⟩ := h.r j hj
    exact ⟨rb, h1, h2, h3, h4.chg hc (fun e => by have := hs rb e; omega)⟩), h.bel.trans ⟨hc.os, hc.tape, hc.output, hc.size, (fun i hi => hc.block i (by have := h.m; omega) (fun e => by have := hs i e; omega))⟩⟩
theorem RefRows.up {w0 w : World} {M M' gi : Nat} {items : List (List (Nat × Nat))} {k : Nat} {cs : List Value} (h : RefRows w0 w M gi items k cs) (h1 : M ≤ M') (h2 : M' ≤ w.heap.size) : RefRows w0 w M' gi items k cs :=
  ⟨h.b, h.l, by have := h.g; omega, h2, (fun j hj => by
    obtain ⟨rb, e1, e2, e3, e4⟩ := h.r j hj
    exact ⟨rb, e1, by omega, e3, e4⟩), h.bel⟩
/-- Row k is laid into the outer block. -/
theorem RefRows.put {w0 w : World} {M gi : Nat} {items : List (List (Nat × Nat))} {k : Nat} {cs : List Value} (h : RefRows w0 w M gi items k cs) (hk : k < items.length) (hgi : w0.heap.size ≤ gi) {rb : Nat} (hr : RdRef w (some ⟨rb, 0, none⟩) (items.getD k [])) (hl : rb < M) (hne : rb ≠ gi) :
    RefRows w0 (w.setCell ⟨gi, k, none⟩ (.slice (some ⟨rb, 0, none⟩) (items.getD k []).length (items.getD k []).length)) M gi items (k + 1) (cs.set k (.slice (some ⟨rb, 0, none⟩) (items.getD k []).length (items.getD k []).length)) := by
  have hc : Chg (fun i => i = gi) w (w.setCell ⟨gi, k, none⟩ (.slice (some ⟨rb, 0, none⟩) (items.getD k []).length (items.getD k []).length)) := Chg.setCell w ⟨gi, k, none⟩ _ rfl
  refine ⟨h.b.set k _, by rw [List.length_set]; exact h.l, h.g, Nat.le_trans h.m hc.size, fun j hj => ?_, h.bel.trans (hc.below h.bel.size (fun i e => by omega))⟩
  by_cases e : j = k
  · subst e
    exact ⟨rb, by rw [List.getElem?_set_self (by rw [h.l]; exact hk)], hl, hne, hr.chg hc hne⟩
  · obtain ⟨rb', h1, h2, h3, h4⟩ := h.r j (by omega)
    exact ⟨rb', by rw [List.getElem?_set_ne (fun q => e q.symm)]; exact h1, h2, h3, h4.chg hc h3⟩
theorem RefRows.rd {w0 w : World} {M gi : Nat} {items : List (List (Nat × Nat))} {cs : List Value} (h : RefRows w0 w M gi items items.length cs) : RdRefs w (some ⟨gi, 0, none⟩) items := fun j hj => by
  obtain ⟨rb, h1, _, _, h4⟩ := h.r j hj
  exact ⟨gi, 0, _, _, rfl, by rw [Nat.zero_add, h.b.cell]; exact h1, h4⟩

set_option maxRecDepth 100000 in
set_option maxHeartbeats 4000000 in
theorem graph15_any (lp ta wa a2 a3 a4 a6 a7 : Option Addr) (tn tc wn wc c2 c3 c4 c6 c7 : Nat) (items : List (List (Nat × Bool × Nat))) (ofs : List (List (Nat × Nat))) (w : World)
    (h2 : RdRows w a2 (items.map fun r => ints (txOf r))) (h3 : RdRows w a3 (items.map fun r => bools (wtOf r))) (h4 : RdRows w a4 (items.map fun r => ints (ctOf r))) (h6 : RdRows w a6 (ofs.map fun r => ints (riOf r))) (h7 : RdRows w a7 (ofs.map fun r => ints (raOf r)))
    (hi : items.length ≤ 4096) (hn : ofs.length ≤ 4096) (hr : ∀ j, (items.getD j []).length ≤ 4096) (ho : ∀ j, (ofs.getD j []).length ≤ 1048576) :
    Calls Try.prog 15 #[.pointer lp, .slice ta tn tc, .slice a2 items.length c2, .slice a3 items.length c3, .slice a4 items.length c4, .slice wa wn wc, .slice a6 ofs.length c6, .slice a7 ofs.length c7] w fun e w' => (∃ pg, e = .returned (.pointer (some ⟨pg, 0, none⟩)) ∧ w'.cell? ⟨pg, 0, none⟩ = some (.pointer lp) ∧ w'.cell? ⟨pg, 1, none⟩ = some (.slice ta tn tc) ∧ (∃ a c, w'.cell? ⟨pg, 2, none⟩ = some (.slice a items.length c) ∧ RdAccs w' a items) ∧ w'.cell? ⟨pg, 3, none⟩ = some (.slice wa wn wc) ∧ (∃ a c, w'.cell? ⟨pg, 4, none⟩ = some (.slice a ofs.length c) ∧ RdRefs w' a ofs)) ∧ Below w.heap.size w w' := by
  have H2 := hide h2
  have H3 := hide h3
  have H4 := hide h4
  have H6 := hide h6
  have H7 := hide h7
  have HR := hide hr
  have HO := hide ho
  clear h2 h3 h4 h6 h7 hr ho
  have hm1 := run_make_row' (P := Try.prog) 44 56 (.slice none 0 0) 24 Try.underlying44 info56 rfl .i64 .i64 items.length (by omega) (by omega)
  have hm2 := run_make_row' (P := Try.prog) 45 59 (.slice none 0 0) 24 Try.underlying45 info59 rfl .i64 .i64 ofs.length (by omega) (by omega)
  go_enter Try.func15, Try.ntmps15
  go_wp2_with fail
  go_loopw [18] (fun i wr => ∃ (k : Nat) (cs : List Value), k ≤ items.length ∧ i = .int .i64 k ∧ AccRows w wr wr.heap.size w.heap.size items k cs) (fun i _ => items.length - (intOf i).toNat)
  case atStart =>
    exact ⟨0, _, Nat.zero_le _, rfl, Blk.new' _ _ _, made_len _ _, by simp, Nat.le_refl _, (fun j hj => by omega), below_new _ _⟩
  case round =>
    obtain ⟨k, cs, hk, rfl, hs⟩ := hrel
    have S1 := hide hs
    clear hs
    by_cases hlt : k < items.length
    · obtain ⟨row, hrow⟩ : ∃ row, row = items.getD k [] := ⟨_, rfl⟩
      have hrl : row.length ≤ 4096 := by rw [hrow]; exact unhide HR k
      obtain ⟨b2, o2, ar2, cr2, e2, hc2w, hr2⟩ := unhide H2 k (by rw [List.length_map]; exact hlt)
      obtain ⟨b3, o3, ar3, cr3, e3, hc3w, hr3⟩ := unhide H3 k (by rw [List.length_map]; exact hlt)
      obtain ⟨b4, o4, ar4, cr4, e4, hc4w, hr4⟩ := unhide H4 k (by rw [List.length_map]; exact hlt)
      subst e2 e3 e4
      rw [mapRow_at (fun r => ints (txOf r)) rfl, ← hrow] at hc2w hr2
      rw [mapRow_at (fun r => bools (wtOf r)) rfl, ← hrow] at hc3w hr3
      rw [mapRow_at (fun r => ints (ctOf r)) rfl, ← hrow] at hc4w hr4
      have el2 : (ints (txOf row)).length = row.length := by simp [ints, txOf]
      have el3 : (bools (wtOf row)).length = row.length := by simp [bools, wtOf]
      have el4 : (ints (ctOf row)).length = row.length := by simp [ints, ctOf]
      rw [el2] at hc2w
      rw [el3] at hc3w
      rw [el4] at hc4w
      have HR2 := hide hr2
      have HR3 := hide hr3
      have HR4 := hide hr4
      have HROW := hide hrow
      have hc2 := cell_old (unhide S1).bel hc2w
      clear hr2 hr3 hr4 hrow el2 el3 el4
      have hm3 := run_make_k 56 58 _ 3 24 Try.underlying56 info58 row.length (by omega) (by omega)
      have k2 : b2 < w.heap.size := cell_lt hc2w
      have k3 : b3 < w.heap.size := cell_lt hc3w
      have k4 : b4 < w.heap.size := cell_lt hc4w
      have HC2 := hide hc2w
      have HC3 := hide hc3w
      have HC4 := hide hc4w
      clear hc2w hc3w hc4w
      obtain ⟨w1, hw1⟩ : ∃ x, x = wr := ⟨_, rfl⟩
      subst hw1
      have hle := (unhide S1).bel.size
      go_wp2_with fail
      go_loopw [20] (fun i wr => ∃ (q : Nat) (ds : List Value), q ≤ row.length ∧ i = .int .i64 q ∧ AccTo ds row q ∧ Blk wr w1.heap.size 58 ds ∧ AccRows w wr w1.heap.size w.heap.size items k cs ∧ Below w1.heap.size w1 wr) (fun i _ => row.length - (intOf i).toNat)
      case atStart =>
        exact ⟨0, _, Nat.zero_le _, rfl, ⟨made_len _ _, (fun q hq => by omega)⟩, Blk.new' _ _ _, (unhide S1).chg (Chg.alloc (fun i => w1.heap.size ≤ i) _ _) (fun _ e => e) hle, below_new _ _⟩
      case round =>
        obtain ⟨q, ds, hq, rfl, hac, hbd, hars, hbel⟩ := hrel
        have AC := hide hac
        have BD := hide hbd
        have S2 := hide hars
        clear hac hbd hars
        by_cases hlq : q < row.length
        · obtain ⟨t, ht⟩ : ∃ t, t = (row.getD q (0, false, 0)).1 := ⟨_, rfl⟩
          obtain ⟨x, hx⟩ : ∃ t, t = (row.getD q (0, false, 0)).2.1 := ⟨_, rfl⟩
          obtain ⟨y, hy⟩ : ∃ t, t = (row.getD q (0, false, 0)).2.2 := ⟨_, rfl⟩
          obtain ⟨p2, r2, f2, g2⟩ := ((unhide HR2).old (unhide S2).bel).int (j := q) (by simp [txOf]; exact hlq)
          obtain ⟨p3, r3, f3, g3⟩ := ((unhide HR3).old (unhide S2).bel).bool (j := q) (by simp [wtOf]; exact hlq)
          obtain ⟨p4, r4, f4, g4⟩ := ((unhide HR4).old (unhide S2).bel).int (j := q) (by simp [ctOf]; exact hlq)
          subst f2 f3 f4
          rw [show (txOf row).getD q 0 = (t : Int) by rw [ht]; simp [txOf, List.getD, hlq]] at g2
          rw [show (wtOf row).getD q false = x by rw [hx]; simp [wtOf, List.getD, hlq]] at g3
          rw [show (ctOf row).getD q 0 = (y : Int) by rw [hy]; simp [ctOf, List.getD, hlq]] at g4
          have hc2' := cell_old (unhide S2).bel (unhide HC2)
          have hc3' := cell_old (unhide S2).bel (unhide HC3)
          have hc4' := cell_old (unhide S2).bel (unhide HC4)
          have hdl := (unhide AC).1
          have d0 := (unhide BD).cell (q * 3)
          have d1 := (unhide BD).cell (q * 3 + 1)
          have d2 := (unhide BD).cell (q * 3 + 2)
          rw [List.getElem?_eq_getElem (by omega)] at d0 d1 d2
          have f0 := (unhide BD).free (q * 3)
          have f1 := (unhide BD).free (q * 3 + 1)
          have f2 := (unhide BD).free (q * 3 + 2)
          generalize ds[q * 3]'(by omega) = v0 at d0
          generalize ds[q * 3 + 1]'(by omega) = v1 at d1
          generalize ds[q * 3 + 2]'(by omega) = v2 at d2
          have HT := hide ht
          have HX := hide hx
          have HY := hide hy
          clear ht hx hy hdl
          go_wp2_with fail
          go_region
          go_wp2_with fail
          have hac := (unhide AC).succ hlq
          rw [← unhide HT, ← unhide HX, ← unhide HY] at hac
          have hcc : Chg (fun i => w1.heap.size ≤ i) wr ((((wr.setCell ⟨w1.heap.size, q * 3, none⟩ (.int .i64 t)).setCell ⟨w1.heap.size, q * 3 + 1, none⟩ (.bool x)).setCell ⟨w1.heap.size, q * 3 + 2, none⟩ (.int .i64 y)).drew) :=
            (((Chg.setCell _ ⟨w1.heap.size, q * 3, none⟩ _ (Nat.le_refl _)).trans (Chg.setCell _ ⟨w1.heap.size, q * 3 + 1, none⟩ _ (Nat.le_refl _))).trans (Chg.setCell _ ⟨w1.heap.size, q * 3 + 2, none⟩ _ (Nat.le_refl _))).trans (Chg.draws _ _ 1)
          refine ⟨⟨q + 1, _, by omega, by rw [Int.natCast_add]; rfl, hac, ((((unhide BD).set (q * 3) _).set (q * 3 + 1) _).set (q * 3 + 2) _).draws 1, (unhide S2).chg hcc (fun _ e => e) hle, hbel.trans (hcc.below hbel.size (fun _ e => e))⟩, by simp [intOf]; omega⟩
        · obtain rfl : q = row.length := by omega
          have hcl := (unhide S2).l
          have hcO := (unhide S2).b.cell k
          rw [List.getElem?_eq_getElem (by omega)] at hcO
          have hfO := (unhide S2).b.free k
          generalize cs[k]'(by omega) = vO at hcO
          clear hcl
          have hw1l := (unhide BD).lt
          go_wp2_with fail
          have hrow := unhide HROW
          have hg := (unhide S1).g
          refine ⟨⟨k + 1, cs.set k (.slice (some ⟨w1.heap.size, 0, none⟩) (items.getD k []).length (items.getD k []).length), by omega, by rw [Int.natCast_add]; rfl, ?_⟩, by simp [intOf]; omega⟩
          rw [hrow]
          refine AccRows.up (M := wr.heap.size) ?_ (by simp [World.setCell]) (Nat.le_refl _)
          refine ((unhide S2).up hbel.size (Nat.le_refl _)).put hlt (Nat.le_refl _) ?_ hw1l (by omega)
          rw [← hrow]
          exact (unhide AC).rd (unhide BD)
    · obtain rfl : k = items.length := by omega
      obtain ⟨w1, hw1⟩ : ∃ x, x = wr := ⟨_, rfl⟩
      subst hw1
      have hle := (unhide S1).bel.size
      have hgi := (unhide S1).g
      go_wp2_with fail
      go_loopw [22] (fun i wr => ∃ (k : Nat) (cs2 : List Value), k ≤ ofs.length ∧ i = .int .i64 k ∧ AccRows w wr w1.heap.size w.heap.size items items.length cs ∧ RefRows w wr wr.heap.size w1.heap.size ofs k cs2) (fun i _ => ofs.length - (intOf i).toNat)
      case atStart =>
        exact ⟨0, _, Nat.zero_le _, rfl, (unhide S1).chg (Chg.alloc (fun i => w1.heap.size ≤ i) _ _) (fun _ e => e) hle, Blk.new' _ _ _, made_len _ _, by simp, Nat.le_refl _, (fun j hj => by omega), below_trans (unhide S1).bel (below_new _ _)⟩
      case round =>
        obtain ⟨k, cs2, hk, rfl, hs, hs2⟩ := hrel
        have T1 := hide hs
        have T2 := hide hs2
        clear hs hs2
        by_cases hlt : k < ofs.length
        · obtain ⟨row, hrow⟩ : ∃ row, row = ofs.getD k [] := ⟨_, rfl⟩
          have hrl : row.length ≤ 1048576 := by rw [hrow]; exact unhide HO k
          obtain ⟨b2, o2, ar2, cr2, e2, hc2w, hr2⟩ := unhide H6 k (by rw [List.length_map]; exact hlt)
          obtain ⟨b3, o3, ar3, cr3, e3, hc3w, hr3⟩ := unhide H7 k (by rw [List.length_map]; exact hlt)
          subst e2 e3
          rw [mapRow_at (fun r => ints (riOf r)) rfl, ← hrow] at hc2w hr2
          rw [mapRow_at (fun r => ints (raOf r)) rfl, ← hrow] at hc3w hr3
          have el2 : (ints (riOf row)).length = row.length := by simp [ints, riOf]
          have el3 : (ints (raOf row)).length = row.length := by simp [ints, raOf]
          rw [el2] at hc2w
          rw [el3] at hc3w
          have HR2 := hide hr2
          have HR3 := hide hr3
          have HROW := hide hrow
          have hc2 := cell_old (unhide T1).bel hc2w
          clear hr2 hr3 hrow el2 el3
          have hm3 := run_make_k 59 61 _ 2 16 Try.underlying59 info61 row.length (by omega) (by omega)
          have k2 : b2 < w.heap.size := cell_lt hc2w
          have k3 : b3 < w.heap.size := cell_lt hc3w
          have HC2 := hide hc2w
          have HC3 := hide hc3w
          clear hc2w hc3w
          obtain ⟨w2, hw2⟩ : ∃ x, x = wr := ⟨_, rfl⟩
          subst hw2
          have hle2 := (unhide T2).bel.size
          have hgg := (unhide T2).g
          go_wp2_with fail
          go_loopw [24] (fun i wr => ∃ (q : Nat) (ds : List Value), q ≤ row.length ∧ i = .int .i64 q ∧ RefTo ds row q ∧ Blk wr w2.heap.size 61 ds ∧ AccRows w wr w1.heap.size w.heap.size items items.length cs ∧ RefRows w wr w2.heap.size w1.heap.size ofs k cs2 ∧ Below w2.heap.size w2 wr) (fun i _ => row.length - (intOf i).toNat)
          case atStart =>
            exact ⟨0, _, Nat.zero_le _, rfl, ⟨made_len _ _, (fun q hq => by omega)⟩, Blk.new' _ _ _, (unhide T1).chg (Chg.alloc (fun i => w1.heap.size ≤ i) _ _) (fun _ e => e) hle, (unhide T2).chg (Chg.alloc (fun i => w2.heap.size ≤ i) _ _) (fun _ e => e) hle2, below_new _ _⟩
          case round =>
            obtain ⟨q, ds, hq, rfl, hac, hbd, hars, hrrs, hbel⟩ := hrel
            have AC := hide hac
            have BD := hide hbd
            have U1 := hide hars
            have U2 := hide hrrs
            clear hac hbd hars hrrs
            by_cases hlq : q < row.length
            · obtain ⟨t, ht⟩ : ∃ t, t = (row.getD q (0, 0)).1 := ⟨_, rfl⟩
              obtain ⟨y, hy⟩ : ∃ t, t = (row.getD q (0, 0)).2 := ⟨_, rfl⟩
              obtain ⟨p2, r2, f2, g2⟩ := ((unhide HR2).old (unhide U1).bel).int (j := q) (by simp [riOf]; exact hlq)
              obtain ⟨p3, r3, f3, g3⟩ := ((unhide HR3).old (unhide U1).bel).int (j := q) (by simp [raOf]; exact hlq)
              subst f2 f3
              rw [show (riOf row).getD q 0 = (t : Int) by rw [ht]; simp [riOf, List.getD, hlq]] at g2
              rw [show (raOf row).getD q 0 = (y : Int) by rw [hy]; simp [raOf, List.getD, hlq]] at g3
              have hc2' := cell_old (unhide U1).bel (unhide HC2)
              have hc3' := cell_old (unhide U1).bel (unhide HC3)
              have hdl := (unhide AC).1
              have d0 := (unhide BD).cell (q * 2)
              have d1 := (unhide BD).cell (q * 2 + 1)
              rw [List.getElem?_eq_getElem (by omega)] at d0 d1
              have f0 := (unhide BD).free (q * 2)
              have f1 := (unhide BD).free (q * 2 + 1)
              generalize ds[q * 2]'(by omega) = v0 at d0
              generalize ds[q * 2 + 1]'(by omega) = v1 at d1
              have HT := hide ht
              have HY := hide hy
              clear ht hy hdl
              go_wp2_with fail
              go_region
              go_wp2_with fail
              have hac := (unhide AC).succ hlq
              rw [← unhide HT, ← unhide HY] at hac
              have hcc : Chg (fun i => w2.heap.size ≤ i) wr (((wr.setCell ⟨w2.heap.size, q * 2, none⟩ (.int .i64 t)).setCell ⟨w2.heap.size, q * 2 + 1, none⟩ (.int .i64 y)).drew) :=
                ((Chg.setCell _ ⟨w2.heap.size, q * 2, none⟩ _ (Nat.le_refl _)).trans (Chg.setCell _ ⟨w2.heap.size, q * 2 + 1, none⟩ _ (Nat.le_refl _))).trans (Chg.draws _ _ 1)
              refine ⟨⟨q + 1, _, by omega, by rw [Int.natCast_add]; rfl, hac, (((unhide BD).set (q * 2) _).set (q * 2 + 1) _).draws 1, (unhide U1).chg hcc (fun _ e => by have := e; omega) hle, (unhide U2).chg hcc (fun _ e => e) hle2, hbel.trans (hcc.below hbel.size (fun _ e => e))⟩, by simp [intOf]; omega⟩
            · obtain rfl : q = row.length := by omega
              have hcl := (unhide U2).l
              have hcO := (unhide U2).b.cell k
              rw [List.getElem?_eq_getElem (by omega)] at hcO
              have hfO := (unhide U2).b.free k
              generalize cs2[k]'(by omega) = vO at hcO
              clear hcl
              have hw1l := (unhide BD).lt
              go_wp2_with fail
              have hrow := unhide HROW
              refine ⟨⟨k + 1, cs2.set k (.slice (some ⟨w2.heap.size, 0, none⟩) (ofs.getD k []).length (ofs.getD k []).length), by omega, by rw [Int.natCast_add]; rfl, ?_, ?_⟩, by simp [intOf]; omega⟩
              · exact (unhide U1).chg (Chg.setCell (S := fun i => w1.heap.size ≤ i) _ _ _ (Nat.le_refl _)) (fun _ e => e) hle
              rw [hrow]
              refine RefRows.up (M := wr.heap.size) ?_ (by simp [World.setCell]) (Nat.le_refl _)
              refine ((unhide U2).up hbel.size (Nat.le_refl _)).put hlt hle ?_ hw1l (by omega)
              rw [← hrow]
              exact (unhide AC).rd (unhide BD)
        · obtain rfl : k = ofs.length := by omega
          have hb := (unhide T1).bel
          have hsz := hb.size
          go_wp2_with fail
          go_returns
          have hbk := Blk.new' wr 47 #[Value.pointer lp, Value.slice ta tn tc, Value.slice (some { block := w.heap.size, off := 0 }) items.length items.length, Value.slice wa wn wc, Value.slice (some { block := w1.heap.size, off := 0 }) ofs.length ofs.length]
          refine ⟨⟨wr.heap.size, rfl, hbk.cell 0, hbk.cell 1, ⟨_, _, hbk.cell 2, ?_⟩, hbk.cell 3, ⟨_, _, hbk.cell 4, ?_⟩⟩, below_trans hb (below_new _ _)⟩
          · exact (unhide T1).rd.old (below_new _ _)
          · exact (unhide T2).rd.old (below_new _ _)
end Go.Proofs.Qxb6614980a
