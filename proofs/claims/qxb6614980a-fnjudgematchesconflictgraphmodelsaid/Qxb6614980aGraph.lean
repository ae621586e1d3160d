/-
  A Graph in memory.
-/
import Derived.Test.Qxb6614980aEdge
import Derived.Test.Qxb6614980aRed
namespace Go.Proofs.Qxb6614980a
open Go.ChangeShapes Go.WideShapes Go.ChangeAt Go.RowKit

/-- A row of accesses (vertex, write, writes before): three cells each. -/
def RdAcc (w : World) (a : Option Addr) (row : List (Nat × Bool × Nat)) : Prop :=
  ∀ j, j < row.length → ∃ b off, a = some ⟨b, off, none⟩ ∧ w.cell? ⟨b, off + j * 3, none⟩ = some (.int .i64 (row.getD j (0, false, 0)).1) ∧
    w.cell? ⟨b, off + j * 3 + 1, none⟩ = some (.bool (row.getD j (0, false, 0)).2.1) ∧ w.cell? ⟨b, off + j * 3 + 2, none⟩ = some (.int .i64 (row.getD j (0, false, 0)).2.2)
/-- A row of refs (item, place): two cells each. -/
def RdRef (w : World) (a : Option Addr) (row : List (Nat × Nat)) : Prop :=
  ∀ j, j < row.length → ∃ b off, a = some ⟨b, off, none⟩ ∧ w.cell? ⟨b, off + j * 2, none⟩ = some (.int .i64 (row.getD j (0, 0)).1) ∧ w.cell? ⟨b, off + j * 2 + 1, none⟩ = some (.int .i64 (row.getD j (0, 0)).2)
def RdAccs (w : World) (a : Option Addr) (rows : List (List (Nat × Bool × Nat))) : Prop :=
  ∀ j, j < rows.length → ∃ b off ar cr, a = some ⟨b, off, none⟩ ∧ w.cell? ⟨b, off + j, none⟩ = some (.slice ar (rows.getD j []).length cr) ∧ RdAcc w ar (rows.getD j [])
def RdRefs (w : World) (a : Option Addr) (rows : List (List (Nat × Nat))) : Prop :=
  ∀ j, j < rows.length → ∃ b off ar cr, a = some ⟨b, off, none⟩ ∧ w.cell? ⟨b, off + j, none⟩ = some (.slice ar (rows.getD j []).length cr) ∧ RdRef w ar (rows.getD j [])

theorem RdAcc.old {w w' : World} (h : Below w.heap.size w w') {a : Option Addr} {row : List (Nat × Bool × Nat)} (g : RdAcc w a row) : RdAcc w' a row := fun j hj => by
  obtain ⟨b, off, e, h1, h2, h3⟩ := g j hj
  exact ⟨b, off, e, cell_old h h1, cell_old h h2, cell_old h h3⟩
theorem RdRef.old {w w' : World} (h : Below w.heap.size w w') {a : Option Addr} {row : List (Nat × Nat)} (g : RdRef w a row) : RdRef w' a row := fun j hj => by
  obtain ⟨b, off, e, h1, h2⟩ := g j hj
  exact ⟨b, off, e, cell_old h h1, cell_old h h2⟩
theorem RdAccs.old {w w' : World} (h : Below w.heap.size w w') {a : Option Addr} {rows : List (List (Nat × Bool × Nat))} (g : RdAccs w a rows) : RdAccs w' a rows := fun j hj => by
  obtain ⟨b, off, ar, cr, e, hc, hr⟩ := g j hj
  exact ⟨b, off, ar, cr, e, cell_old h hc, hr.old h⟩
theorem RdRefs.old {w w' : World} (h : Below w.heap.size w w') {a : Option Addr} {rows : List (List (Nat × Nat))} (g : RdRefs w a rows) : RdRefs w' a rows := fun j hj => by
  obtain ⟨b, off, ar, cr, e, hc, hr⟩ := g j hj
  exact ⟨b, off, ar, cr, e, cell_old h hc, hr.old h⟩

/-- The Graph at block pg. -/
structure GMem (w : World) (pg : Nat) (lk : Value) (txns : List Int) (items : List (List (Nat × Bool × Nat))) (writes : List (List Int)) (ofs : List (List (Nat × Nat))) : Prop where
  lk : w.cell? ⟨pg, 0, none⟩ = some lk
  txns : ∃ a c, w.cell? ⟨pg, 1, none⟩ = some (.slice a txns.length c) ∧ Rd w a (ints txns)
  items : ∃ a c, w.cell? ⟨pg, 2, none⟩ = some (.slice a items.length c) ∧ RdAccs w a items
  writes : ∃ a c, w.cell? ⟨pg, 3, none⟩ = some (.slice a writes.length c) ∧ RdRows w a (writes.map ints)
  ofs : ∃ a c, w.cell? ⟨pg, 4, none⟩ = some (.slice a ofs.length c) ∧ RdRefs w a ofs

theorem GMem.old {w w' : World} (h : Below w.heap.size w w') {pg : Nat} {lk : Value} {txns : List Int} {items : List (List (Nat × Bool × Nat))} {writes : List (List Int)} {ofs : List (List (Nat × Nat))} (g : GMem w pg lk txns items writes ofs) : GMem w' pg lk txns items writes ofs := by
  obtain ⟨a1, c1, e1, r1⟩ := g.txns
  obtain ⟨a2, c2, e2, r2⟩ := g.items
  obtain ⟨a3, c3, e3, r3⟩ := g.writes
  obtain ⟨a4, c4, e4, r4⟩ := g.ofs
  exact ⟨cell_old h g.lk, ⟨a1, c1, cell_old h e1, r1.old h⟩, ⟨a2, c2, cell_old h e2, r2.old h⟩, ⟨a3, c3, cell_old h e3, r3.old h⟩, ⟨a4, c4, cell_old h e4, r4.old h⟩⟩

/-- An access without its count. -/
def bare (row : List (Nat × Bool × Nat)) : List (Nat × Bool) := row.map fun a => (a.1, a.2.1)
def bares (items : List (List (Nat × Bool × Nat))) : List (List (Nat × Bool)) := items.map bare
theorem bare_len (row : List (Nat × Bool × Nat)) : (bare row).length = row.length := List.length_map _
theorem bare_at (row : List (Nat × Bool × Nat)) (q : Nat) : (bare row).getD q (0, false) = ((row.getD q (0, false, 0)).1, (row.getD q (0, false, 0)).2.1) := by
  simp only [bare, List.getD, List.getElem?_map]
  cases row[q]? <;> rfl
theorem bares_len (items : List (List (Nat × Bool × Nat))) : (bares items).length = items.length := List.length_map _
theorem bares_at (items : List (List (Nat × Bool × Nat))) (j : Nat) : (bares items).getD j [] = bare (items.getD j []) := by
  simp only [bares, List.getD, List.getElem?_map]
  cases items[j]? <;> rfl

/-- The first and the second parts of a list of edges, as numbers. -/
def fsOf (es : List (Nat × Nat)) : List Int := es.map fun e => (e.1 : Int)
def tsOf (es : List (Nat × Nat)) : List Int := es.map fun e => (e.2 : Int)
def nats (xs : List Nat) : List Int := xs.map Int.ofNat
theorem fsOf_len (es : List (Nat × Nat)) : (fsOf es).length = es.length := List.length_map _
theorem tsOf_len (es : List (Nat × Nat)) : (tsOf es).length = es.length := List.length_map _
theorem nats_len (xs : List Nat) : (nats xs).length = xs.length := List.length_map _
theorem fs_edge (es : List (Nat × Nat)) (u v : Nat) : (if (u : Int) = (v : Int) then fsOf es else fsOf es ++ [(u : Int)]) = fsOf (es ++ edge1 u v) := by
  unfold edge1 fsOf
  by_cases h : u = v
  · simp [h]
  · rw [if_neg (by omega), if_neg h]; simp
theorem ts_edge (es : List (Nat × Nat)) (u v : Nat) : (if (u : Int) = (v : Int) then tsOf es else tsOf es ++ [(v : Int)]) = tsOf (es ++ edge1 u v) := by
  unfold edge1 tsOf
  by_cases h : u = v
  · simp [h]
  · rw [if_neg (by omega), if_neg h]; simp
/-- The last writer as a number: -1 where there is none. -/
def lastV : Option Nat → Int
  | none => -1
  | some t => t

theorem lastV_none : lastV none = -1 := rfl
theorem lastV_some (t : Nat) : lastV (some t) = t := rfl
theorem nats_at (xs : List Nat) (k : Nat) (h : k < xs.length) : (nats xs).getD k 0 = ((xs.getD k 0 : Nat) : Int) := by
  simp [nats, List.getD, h]

end Go.Proofs.Qxb6614980a
