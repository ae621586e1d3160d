/-
  A queue: a slice of numbers that is appended to, and cut off at its head.
-/
import Derived.Test.Qxb6614980aEdge
import Derived.ArgAppend
namespace Go.Proofs.Qxb6614980a
open Go.ChangeShapes Go.WideShapes Go.ChangeAt Go.RowKit

/-- The slice value v holds the numbers xs, somewhere in a block from B on. -/
def OwnQ (w : World) (B : Nat) (v : Value) (xs : List Int) : Prop :=
  ∃ g o cap cs, v = .slice (some ⟨g, o, none⟩) xs.length cap ∧ B ≤ g ∧ Blk w g 3 cs ∧ xs.length ≤ cap ∧ o + cap ≤ cs.length ∧ (cs.drop o).take xs.length = ints xs

theorem OwnQ.chg {S : Nat → Prop} {w w' : World} {B : Nat} {v : Value} {xs : List Int} (h : OwnQ w B v xs) (hc : Chg S w w') (hn : ∀ k, v.ownBlock = some k → ¬ S k) : OwnQ w' B v xs := by
  obtain ⟨g, o, cap, cs, rfl, h1, h2, h3, h4, h5⟩ := h
  exact ⟨g, o, cap, cs, rfl, h1, h2.chg hc (hn g rfl), h3, h4, h5⟩
theorem OwnQ.lt {w : World} {B : Nat} {v : Value} {xs : List Int} (h : OwnQ w B v xs) {k : Nat} (hk : v.ownBlock = some k) : B ≤ k ∧ k < w.heap.size := by
  obtain ⟨g, o, cap, cs, rfl, h1, h2, h3, h4, h5⟩ := h
  cases hk
  exact ⟨h1, h2.lt⟩
theorem OwnQ.ne {w : World} {B : Nat} {v : Value} {xs : List Int} (h : OwnQ w B v xs) {g : Nat} {t : TypeId} {cs : List Value} (hb : Blk w g t cs) (ht : t ≠ 3) : v.ownBlock ≠ some g := by
  obtain ⟨g', o, cap, cs, rfl, h1, h2, h3, h4, h5⟩ := h
  intro e
  cases e
  exact hb.ne h2 ht rfl
theorem OwnQ.cell {w : World} {B g o n cap : Nat} {xs : List Int} (h : OwnQ w B (.slice (some ⟨g, o, none⟩) n cap) xs) {j : Nat} (hj : j < xs.length) : w.cell? ⟨g, o + j, none⟩ = some (.int .i64 (xs.getD j 0)) := by
  obtain ⟨g', o', cap', cs, hv, h1, h2, h3, h4, h5⟩ := h
  injection hv with e1 e2 e3
  injection e1 with e1
  injection e1 with e4 e5
  subst e4 e5
  rw [h2.cell]
  have h6 : ((cs.drop o).take xs.length)[j]? = (ints xs)[j]? := by rw [h5]
  rw [List.getElem?_take, if_pos hj, List.getElem?_drop, ints_at xs j hj] at h6
  exact h6
/-- Its head is cut off. -/
theorem OwnQ.tail {w : World} {B g o n cap : Nat} {xs : List Int} (h : OwnQ w B (.slice (some ⟨g, o, none⟩) (n + 1) cap) xs) : OwnQ w B (.slice (some ⟨g, o + 1, none⟩) n (cap - 1)) xs.tail ∧ (cap = 1 → OwnQ w B (.slice (some ⟨g, o, none⟩) n (cap - 1)) xs.tail) := by
  obtain ⟨g', o', cap', cs, hv, h1, h2, h3, h4, h5⟩ := h
  injection hv with e1 e2 e3
  injection e1 with e1
  injection e1 with e4 e5
  subst e4 e5 e3
  have hl : xs.tail.length = n := by rw [List.length_tail]; omega
  constructor
  · refine ⟨g, o + 1, cap - 1, cs, by rw [hl], h1, h2, by omega, by omega, ?_⟩
    rw [hl]
    have h6 : (cs.drop (o + 1)).take n = ((cs.drop o).take (n + 1)).tail := by
      rw [← List.drop_one, List.drop_take, List.drop_drop]
      congr 1
    rw [h6, e2, h5]
    simp [ints]
  · intro hc
    have hn : n = 0 := by omega
    have hx : xs.tail = [] := List.eq_nil_of_length_eq_zero (by omega)
    refine ⟨g, o, cap - 1, cs, by rw [hl], h1, h2, by omega, by omega, ?_⟩
    rw [hx]
    simp [ints]
theorem OwnQ.one (w : World) (B : Nat) (x : Int) (hB : B ≤ w.heap.size) : OwnQ (w.alloc (.cells #[.int .i64 x] 3)) B (.slice (some ⟨w.heap.size, 0, none⟩) 1 1) [x] :=
  ⟨w.heap.size, 0, 1, [.int .i64 x], rfl, hB, Blk.new w 3 [.int .i64 x], by simp, by simp, by simp [ints]⟩

/-- 'queue = append(queue, y)' -/
theorem wpList_pushQ {w : World} {ops : Array Oper} {rest : List Oper} {o : Oper} {a : Act} {Q : Exit → Act → World → Prop} (hgd : o.guard = none) (s x : Operand)
    (ho : o.op = .call { callee := .builtin .append, args := #[s, x], argTypes := #[22, 22] }) (B : Nat) (v : Value) (xs : List Int) (hs : a.eval s = v) (hown : OwnQ w B v xs) (y : Int) (H : Nat) (hH : w.heap.size = H) (hx : a.eval x = .slice (some ⟨H, 0, none⟩) 1 1)
    (hlen : xs.length ≤ 1099511627776) (hB : B ≤ w.heap.size)
    (h : ∀ g off cap w', OwnQ w' B (.slice (some ⟨g, off, none⟩) (xs.length + 1) cap) (xs ++ [y]) → Chg (fun k => v.ownBlock = some k) w w' → (v.ownBlock = some g ∨ w.heap.size ≤ g) → wpList Try.prog ops Q rest (a.put o.dst (.slice (some ⟨g, off, none⟩) (xs.length + 1) cap)) w') :
    wpList Try.prog ops Q (o :: rest) a (w.alloc (.cells #[.int .i64 y] 3)) := by
  subst hH
  obtain ⟨i0, hi, hz0, hz1, hz2⟩ := info_parts info3
  have hown' := hown.chg (Chg.alloc (fun _ => False) w (.cells #[.int .i64 y] 3)) (fun _ _ e => e)
  obtain ⟨g, off, cap, cs, rfl, h1, h2, h3, h4, h5⟩ := hown'
  have hcell : ∀ j, j < xs.length → (w.alloc (.cells #[.int .i64 y] 3)).cell? ⟨g, off + j, none⟩ = some (.int .i64 (xs.getD j 0)) := fun j hj => OwnQ.cell ⟨g, off, cap, cs, rfl, h1, h2, h3, h4, h5⟩ hj
  refine wpList_append_arg (P := Try.prog) _ hgd s x 22 ho 3 i0 (.int .i64 0) 1 8 Try.underlying22 hi hz0 hz1 hz2 rfl (by decide) g off xs.length cap (ints xs) hs (by rw [ints_len, Nat.mul_one]) ?_ ⟨w.heap.size, 0, none⟩ 1 1 [.int .i64 y] hx rfl ?_ ?_ ?_ (by unfold maxLen; omega) (by omega) ?_ ?_
  · intro j u hj
    have hj' : j < xs.length := by
      have := (List.getElem?_eq_some_iff.1 hj).1
      rwa [ints_len] at this
    rw [hcell j hj', ← ints_at xs j hj', hj]
  · intro j u hj
    match j, hj with
    | 0, hj => simp at hj; subst hj; simp [Addr.add]
  · intro u hu
    simp at hu
    subst hu
    rfl
  · intro hr j hj
    have hj0 : j = 0 := by simpa using hj
    subst hj0
    rw [h2.cell, Nat.mul_one, Nat.add_zero]
    refine ⟨?_, h2.free _⟩
    rw [List.getElem?_eq_getElem (by omega)]
    rfl
  · intro hr
    have hb := h2.set (off + xs.length) (.int .i64 y)
    refine h g off cap _ ⟨g, off, cap, cs.set (off + xs.length) (.int .i64 y), by rw [List.length_append]; rfl, h1, ?_, by rw [List.length_append]; simpa using hr, by rw [List.length_set]; exact h4, ?_⟩ ?_ (.inl rfl)
    · rw [Nat.mul_one]
      exact hb
    · rw [List.length_append, List.length_singleton, List.drop_set, if_neg (by omega), Nat.add_sub_cancel_left]
      rw [List.take_succ_eq_append_getElem (by rw [List.length_set, List.length_drop]; omega), List.take_set_of_le (Nat.le_refl _), h5]
      simp [ints]
    · rw [Nat.mul_one]
      exact (Chg.alloc _ w _).trans (Chg.setCell (S := fun k => (Value.slice (some ⟨g, off, none⟩) xs.length cap).ownBlock = some k) _ ⟨g, off + xs.length, none⟩ _ rfl)
  · intro hr v' w' ho' hg'
    obtain ⟨_, h6⟩ := ho'
    rcases h6 with ⟨_, h0⟩ | ⟨g', cap', cur, rfl, hB', hh, hn', hm', hs', ht'⟩
    · omega
    · refine h g' 0 cap' w' ⟨g', 0, cap', cur.toList, by rw [List.length_append]; rfl, by simp at hB'; omega, by simpa [Blk] using hh, by rw [List.length_append]; exact hn', by simp at hs' ⊢; omega, ?_⟩ ((Chg.alloc _ w _).trans (Chg.grown hg' (fun k e => by cases e))) (.inr (by simp at hB'; omega))
      rw [List.length_append, List.drop_zero, List.length_singleton]
      rw [Nat.mul_one] at ht'
      rw [ht']
      simp [ints]

end Go.Proofs.Qxb6614980a
