/-
  Memory as the walks of this seat meet it: slices that are read, blocks that the call itself makes and writes.
-/
import Derived.Test.Qxb6614980aRows
import Derived.WalkKit
import Derived.ProofKit
import Derived.Below
import Derived.WalkSpells
import Derived.Deep.OwnRows
import Derived.Deep.QuietTactic
import Derived.BigQuiet
import Derived.Deep.AppendLies
namespace Go.Proofs.Qxb6614980a
open Go.ChangeShapes Go.WideShapes Go.ChangeAt Go.RowKit

theorem hide {p : Prop} (h : p) : Hid p := h
theorem unhide {p : Prop} (h : Hid p) : p := h

/-- It returns a bool. -/
def IsBool (e : Ending) : Prop := ∃ r, e = .returned (.bool r)
theorem isBool (r : Bool) : IsBool (.returned (.bool r)) := ⟨r, rfl⟩

theorem add_mk (b off j : Nat) : (⟨b, off, none⟩ : Addr).add j = ⟨b, off + j, none⟩ := by
  simp only [Addr.add]
  split
  · next h => subst h; rfl
  · rfl

theorem cell_lt {w : World} {a : Addr} {v : Value} (e : w.cell? a = some v) : a.block < w.heap.size := by
  apply Decidable.byContradiction
  intro hn
  have : w.heap[a.block]? = none := Array.getElem?_eq_none (Nat.le_of_not_lt hn)
  simp [World.cell?, this] at e

theorem cell_below {B : Nat} {w w' : World} (h : Below B w w') {a : Addr} {v : Value} (hb : a.block < B) (e : w.cell? a = some v) : w'.cell? a = some v := by
  rw [h.cell hb, e]
theorem cell_old {w w' : World} (h : Below w.heap.size w w') {a : Addr} {v : Value} (e : w.cell? a = some v) : w'.cell? a = some v := cell_below h (cell_lt e) e
theorem below_trans {a b c : World} (h : Below a.heap.size a b) (k : Below b.heap.size b c) : Below a.heap.size a c := h.trans (k.mono h.size)
theorem below_draws {B : Nat} {a w : World} (h : Below B a w) (n : Nat) : Below B a (w.drewN n) := h.trans ⟨rfl, rfl, rfl, Nat.le_refl _, fun _ _ => rfl⟩
theorem below_new (w : World) (o : Obj) : Below w.heap.size w (w.alloc o) := (Below.refl _ _).alloc (Nat.le_refl _) _

theorem heap_new (w : World) (o : Obj) : (w.alloc o).heap[w.heap.size]? = some o := by
  show (w.heap.push o)[w.heap.size]? = _
  rw [Array.getElem?_push, if_pos rfl]

/-! ### What is read -/

/-- From the slice's address on lie the cells cs. -/
def Rd (w : World) (a : Option Addr) (cs : List Value) : Prop := ∀ j, j < cs.length → ∃ b off, a = some ⟨b, off, none⟩ ∧ w.cell? ⟨b, off + j, none⟩ = cs[j]?

theorem Rd.old {w w' : World} (h : Below w.heap.size w w') {a : Option Addr} {cs : List Value} (g : Rd w a cs) : Rd w' a cs := fun j hj => by
  obtain ⟨b, off, e, hc⟩ := g j hj
  rw [List.getElem?_eq_getElem hj] at hc ⊢
  exact ⟨b, off, e, cell_old h hc⟩

theorem Rd.nil (w : World) (a : Option Addr) : Rd w a [] := fun _ hj => absurd hj (Nat.not_lt_zero _)

/-- The numbers xs. -/
def ints (xs : List Int) : List Value := xs.map (Value.int .i64)
def bools (xs : List Bool) : List Value := xs.map Value.bool
theorem ints_len (xs : List Int) : (ints xs).length = xs.length := List.length_map _
theorem bools_len (xs : List Bool) : (bools xs).length = xs.length := List.length_map _
theorem ints_at (xs : List Int) (j : Nat) (h : j < xs.length) : (ints xs)[j]? = some (.int .i64 (xs.getD j 0)) := by simp [ints, List.getD, h]
theorem bools_at (xs : List Bool) (j : Nat) (h : j < xs.length) : (bools xs)[j]? = some (.bool (xs.getD j false)) := by simp [bools, List.getD, h]

theorem Rd.int {w : World} {a : Option Addr} {xs : List Int} (h : Rd w a (ints xs)) {j : Nat} (hj : j < xs.length) :
    ∃ b off, a = some ⟨b, off, none⟩ ∧ w.cell? ⟨b, off + j, none⟩ = some (.int .i64 (xs.getD j 0)) := by
  obtain ⟨b, off, e, hc⟩ := h j (by rw [ints_len]; exact hj)
  exact ⟨b, off, e, by rw [hc, ints_at xs j hj]⟩
theorem Rd.bool {w : World} {a : Option Addr} {xs : List Bool} (h : Rd w a (bools xs)) {j : Nat} (hj : j < xs.length) :
    ∃ b off, a = some ⟨b, off, none⟩ ∧ w.cell? ⟨b, off + j, none⟩ = some (.bool (xs.getD j false)) := by
  obtain ⟨b, off, e, hc⟩ := h j (by rw [bools_len]; exact hj)
  exact ⟨b, off, e, by rw [hc, bools_at xs j hj]⟩

/-- A slice of slices: row j has the cells rows[j], one an element. -/
def RdRows (w : World) (a : Option Addr) (rows : List (List Value)) : Prop :=
  ∀ j, j < rows.length → ∃ b off ar cr, a = some ⟨b, off, none⟩ ∧ w.cell? ⟨b, off + j, none⟩ = some (.slice ar (rows.getD j []).length cr) ∧ Rd w ar (rows.getD j [])

theorem RdRows.old {w w' : World} (h : Below w.heap.size w w') {a : Option Addr} {rows : List (List Value)} (g : RdRows w a rows) : RdRows w' a rows := fun j hj => by
  obtain ⟨b, off, ar, cr, e, hc, hr⟩ := g j hj
  exact ⟨b, off, ar, cr, e, cell_old h hc, hr.old h⟩

/-! ### Blocks of the call's own -/

/-- Block g: the cells cs, none of them frozen. -/
def Blk (w : World) (g : Nat) (t : TypeId) (cs : List Value) : Prop := w.heap[g]? = some (.cells cs.toArray t (0, 0))

theorem Blk.lt {w : World} {g : Nat} {t : TypeId} {cs : List Value} (h : Blk w g t cs) : g < w.heap.size := by
  apply Decidable.byContradiction
  intro hn
  have : w.heap[g]? = none := Array.getElem?_eq_none (Nat.le_of_not_lt hn)
  rw [Blk, this] at h
  cases h
theorem Blk.cell {w : World} {g : Nat} {t : TypeId} {cs : List Value} (h : Blk w g t cs) (j : Nat) : w.cell? ⟨g, j, none⟩ = cs[j]? := by
  unfold Blk at h
  simp [World.cell?, h]
theorem Blk.free {w : World} {g : Nat} {t : TypeId} {cs : List Value} (h : Blk w g t cs) (j : Nat) : w.frozen? ⟨g, j, none⟩ = false := by
  unfold Blk at h
  simp [World.frozen?, h]
theorem Blk.new (w : World) (t : TypeId) (cs : List Value) : Blk (w.alloc (.cells cs.toArray t)) w.heap.size t cs := heap_new w _
theorem Blk.new' (w : World) (t : TypeId) (C : Array Value) : Blk (w.alloc (.cells C t)) w.heap.size t C.toList := by
  have := heap_new w (.cells C t)
  simpa [Blk] using this
theorem Blk.alloc {w : World} {g : Nat} {t : TypeId} {cs : List Value} (h : Blk w g t cs) (o : Obj) : Blk (w.alloc o) g t cs := by
  have := Below.heap_alloc w o g h.lt
  unfold Blk at h ⊢
  rw [this, h]
theorem Blk.below {B : Nat} {w w' : World} {g : Nat} {t : TypeId} {cs : List Value} (h : Blk w g t cs) (hb : Below B w w') (hg : g < B) : Blk w' g t cs := by
  unfold Blk at h ⊢
  rw [hb.block g hg, h]
theorem Blk.old {w w' : World} {g : Nat} {t : TypeId} {cs : List Value} (h : Blk w g t cs) (hb : Below w.heap.size w w') : Blk w' g t cs := h.below hb h.lt
theorem Blk.draws {w : World} {g : Nat} {t : TypeId} {cs : List Value} (h : Blk w g t cs) (n : Nat) : Blk (w.drewN n) g t cs := h
theorem Blk.other {w : World} {g : Nat} {t : TypeId} {cs : List Value} (h : Blk w g t cs) {a : Addr} (hne : g ≠ a.block) (v : Value) : Blk (w.setCell a v) g t cs := by
  have := Below.heap_setCell w a v g hne
  unfold Blk at h ⊢
  rw [this, h]
theorem Blk.grown {w w' : World} {g : Nat} {t : TypeId} {cs : List Value} (h : Blk w g t cs) {row : Option Nat} (hg : w.grownBy w' row) (hne : some g ≠ row) : Blk w' g t cs := by
  have := hg.block g h.lt hne
  unfold Blk at h ⊢
  rw [this, h]
theorem Blk.set {w : World} {g : Nat} {t : TypeId} {cs : List Value} (h : Blk w g t cs) (j : Nat) (v : Value) : Blk (w.setCell ⟨g, j, none⟩ v) g t (cs.set j v) := by
  unfold Blk at h ⊢
  simp only [World.setCell, Array.getElem?_modify, if_true, h, Option.map_some]
  simp
theorem Blk.ne {w : World} {g g' : Nat} {t t' : TypeId} {cs cs' : List Value} (h : Blk w g t cs) (h' : Blk w g' t' cs') (hne : t ≠ t') : g ≠ g' := by
  intro e
  subst e
  unfold Blk at h h'
  rw [h] at h'
  cases h'
  exact hne rfl

/-- A block of numbers. -/
def IBlk (w : World) (g : Nat) (xs : List Int) : Prop := Blk w g 3 (ints xs)
theorem IBlk.cell {w : World} {g : Nat} {xs : List Int} (h : IBlk w g xs) {j : Nat} (hj : j < xs.length) : w.cell? ⟨g, j, none⟩ = some (.int .i64 (xs.getD j 0)) := by
  rw [Blk.cell h, ints_at xs j hj]
theorem IBlk.set {w : World} {g : Nat} {xs : List Int} (h : IBlk w g xs) (j : Nat) (x : Int) : IBlk (w.setCell ⟨g, j, none⟩ (.int .i64 x)) g (xs.set j x) := by
  have := Blk.set h j (.int .i64 x)
  unfold IBlk
  rwa [show (ints xs).set j (.int .i64 x) = ints (xs.set j x) by simp [ints, List.map_set]] at this
theorem IBlk.rd {w : World} {g : Nat} {xs : List Int} (h : IBlk w g xs) : Rd w (some ⟨g, 0, none⟩) (ints xs) := fun j _ => ⟨g, 0, rfl, by rw [Nat.zero_add]; exact Blk.cell h j⟩

end Go.Proofs.Qxb6614980a
