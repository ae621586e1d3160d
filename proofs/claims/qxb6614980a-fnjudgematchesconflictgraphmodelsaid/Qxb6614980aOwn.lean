/-
  Growing slices of numbers that the call itself owns; what one step leaves alone.
-/
import Derived.Test.Qxb6614980aSmall
namespace Go.Proofs.Qxb6614980a
open Go.ChangeShapes Go.WideShapes Go.ChangeAt Go.RowKit

/-- w' is w but for the blocks in S, and new blocks. -/
structure Chg (S : Nat → Prop) (w w' : World) : Prop where
  os : w'.os = w.os
  tape : w'.tape = w.tape
  output : w'.output = w.output
  size : w.heap.size ≤ w'.heap.size
  block : ∀ k, k < w.heap.size → ¬ S k → w'.heap[k]? = w.heap[k]?

theorem Chg.refl (S : Nat → Prop) (w : World) : Chg S w w := ⟨rfl, rfl, rfl, Nat.le_refl _, fun _ _ _ => rfl⟩
theorem Chg.mono {S S' : Nat → Prop} {w w' : World} (h : Chg S w w') (hs : ∀ k, k < w.heap.size → S k → S' k) : Chg S' w w' := ⟨h.os, h.tape, h.output, h.size, fun k hk hn => h.block k hk (fun e => hn (hs k hk e))⟩
theorem Chg.trans {S : Nat → Prop} {a b c : World} (h : Chg S a b) (k : Chg S b c) : Chg S a c :=
  ⟨k.os.trans h.os, k.tape.trans h.tape, k.output.trans h.output, Nat.le_trans h.size k.size, fun i hi hn => (k.block i (Nat.lt_of_lt_of_le hi h.size) hn).trans (h.block i hi hn)⟩
theorem Chg.then {S S' : Nat → Prop} {a b c : World} (h : Chg S a b) (k : Chg S' b c) (hs : ∀ i, i < a.heap.size → S' i → S i) : Chg S a c :=
  ⟨k.os.trans h.os, k.tape.trans h.tape, k.output.trans h.output, Nat.le_trans h.size k.size, fun i hi hn => (k.block i (Nat.lt_of_lt_of_le hi h.size) (fun e => hn (hs i hi e))).trans (h.block i hi hn)⟩
theorem Chg.alloc (S : Nat → Prop) (w : World) (o : Obj) : Chg S w (w.alloc o) := ⟨rfl, rfl, rfl, by simp, fun k hk _ => Below.heap_alloc w o k hk⟩
theorem Chg.draws (S : Nat → Prop) (w : World) (n : Nat) : Chg S w (w.drewN n) := ⟨rfl, rfl, rfl, Nat.le_refl _, fun _ _ _ => rfl⟩
theorem Chg.setCell {S : Nat → Prop} (w : World) (a : Addr) (v : Value) (h : S a.block) : Chg S w (w.setCell a v) :=
  ⟨rfl, rfl, rfl, by simp [World.setCell], fun k _ hn => Below.heap_setCell w a v k (fun e => hn (e ▸ h))⟩
theorem Chg.grown {S : Nat → Prop} {w w' : World} {row : Option Nat} (hg : w.grownBy w' row) (h : ∀ k, row = some k → S k) : Chg S w w' :=
  ⟨hg.os, hg.tape, hg.output, hg.size, fun k hk hn => hg.block k hk (fun e => hn (h k e.symm))⟩
theorem Chg.below {S : Nat → Prop} {w w' : World} (h : Chg S w w') {B : Nat} (hB : B ≤ w.heap.size) (hs : ∀ k, S k → B ≤ k) : Below B w w' :=
  ⟨h.os, h.tape, h.output, h.size, fun k hk => h.block k (by omega) (fun e => by have := hs k e; omega)⟩
theorem Chg.ofBelow {B : Nat} {w w' : World} (h : Below B w w') : Chg (fun k => B ≤ k) w w' := ⟨h.os, h.tape, h.output, h.size, fun k _ hn => h.block k (by omega)⟩
theorem Blk.chg {S : Nat → Prop} {w w' : World} {g : Nat} {t : TypeId} {cs : List Value} (h : Blk w g t cs) (hc : Chg S w w') (hn : ¬ S g) : Blk w' g t cs := by
  have := hc.block g h.lt hn
  unfold Blk at h ⊢
  rw [this, h]

/-- The slice value v owns the numbers xs, in a block from B on. -/
def OwnI (w : World) (B : Nat) (v : Value) (xs : List Int) : Prop := w.ownsRow B 3 1 v xs.length (ints xs)

theorem OwnI.nil (w : World) (B : Nat) : OwnI w B (.slice none 0 0) [] := World.ownsRow_nil _ _ _ _
theorem OwnI.lt {w : World} {B : Nat} {v : Value} {xs : List Int} (h : OwnI w B v xs) {k : Nat} (hk : v.ownBlock = some k) : B ≤ k ∧ k < w.heap.size := World.ownsRow.lt h k hk
theorem OwnI.form {w : World} {B : Nat} {v : Value} {xs : List Int} (h : OwnI w B v xs) : ∃ a c, v = .slice a xs.length c := by
  rcases h.2 with ⟨rfl, h0⟩ | ⟨g, cap, cur, rfl, _⟩
  · rw [h0]; exact ⟨none, 0, rfl⟩
  · exact ⟨_, _, rfl⟩
theorem OwnI.chg {S : Nat → Prop} {w w' : World} {B : Nat} {v : Value} {xs : List Int} (h : OwnI w B v xs) (hc : Chg S w w') (hn : ∀ k, v.ownBlock = some k → ¬ S k) : OwnI w' B v xs := by
  obtain ⟨h1, h2⟩ := h
  refine ⟨h1, ?_⟩
  rcases h2 with h2 | ⟨g, cap, cur, rfl, hB, hh, r⟩
  · exact .inl h2
  · have hg : g < w.heap.size := by
      apply Decidable.byContradiction
      intro hx
      rw [Array.getElem?_eq_none (Nat.le_of_not_lt hx)] at hh
      cases hh
    refine .inr ⟨g, cap, cur, rfl, hB, ?_, r⟩
    rw [hc.block g hg (hn g rfl), hh]
theorem OwnI.rd {w : World} {B : Nat} {a : Option Addr} {n c : Nat} {xs : List Int} (h : OwnI w B (.slice a n c) xs) : Rd w a (ints xs) := by
  obtain ⟨h1, h2⟩ := h
  rcases h2 with ⟨_, h0⟩ | ⟨g, cap, cur, hv, _, hh, hn, _, _, ht⟩
  · have : xs = [] := List.eq_nil_of_length_eq_zero h0
    subst this
    exact Rd.nil _ _
  · cases hv
    intro j hj
    refine ⟨g, 0, rfl, ?_⟩
    have e : (ints xs)[j]? = cur[j]? := by
      rw [← ht, List.getElem?_take, if_pos (by rw [ints_len] at hj; omega), Array.getElem?_toList]
    rw [e, Nat.zero_add]
    simp [World.cell?, hh]
theorem Chg.cell {S : Nat → Prop} {w w' : World} (h : Chg S w w') {a : Addr} (ha : a.block < w.heap.size) (hn : ¬ S a.block) : w'.cell? a = w.cell? a := World.cell?_of_block (h.block a.block ha hn)
theorem OwnI.cell {w : World} {B g n c : Nat} {xs : List Int} (h : OwnI w B (.slice (some ⟨g, 0, none⟩) n c) xs) {j : Nat} (hj : j < xs.length) : w.cell? ⟨g, j, none⟩ = some (.int .i64 (xs.getD j 0)) := by
  obtain ⟨b, off, e, hc⟩ := h.rd.int hj
  cases e
  rwa [Nat.zero_add] at hc
theorem OwnI.free {w : World} {B g n c : Nat} {xs : List Int} (h : OwnI w B (.slice (some ⟨g, 0, none⟩) n c) xs) (j : Nat) : w.frozen? ⟨g, j, none⟩ = false := by
  rcases h.2 with ⟨hv, _⟩ | ⟨g', cap, cur, hv, _, hh, _⟩
  · cases hv
  · cases hv
    simp [World.frozen?, hh]
theorem OwnI.set {w : World} {B g n c : Nat} {xs : List Int} (h : OwnI w B (.slice (some ⟨g, 0, none⟩) n c) xs) (j : Nat) (x : Int) : OwnI (w.setCell ⟨g, j, none⟩ (.int .i64 x)) B (.slice (some ⟨g, 0, none⟩) n c) (xs.set j x) := by
  obtain ⟨h1, h2⟩ := h
  refine ⟨by simp [ints], ?_⟩
  rcases h2 with ⟨hv, _⟩ | ⟨g', cap, cur, hv, hB, hh, hn, hm, hs, ht⟩
  · cases hv
  · cases hv
    have hb : Blk w g 3 cur.toList := by simpa [Blk] using hh
    have hb2 := hb.set j (.int .i64 x)
    refine .inr ⟨g, c, (cur.toList.set j (.int .i64 x)).toArray, by rw [List.length_set], hB, hb2, by rw [List.length_set]; exact hn, hm, by simpa using hs, ?_⟩
    rw [List.length_set]
    rw [List.take_set, ht]
    simp [ints, List.map_set]

/-- Two growing slices lie in two blocks. -/
def Apart (v v' : Value) : Prop := ∀ k, v.ownBlock = some k → v'.ownBlock ≠ some k
theorem Apart.symm {v v' : Value} (h : Apart v v') : Apart v' v := fun k hk e => h k e hk

/-- 'append(s, y)' onto a slice of numbers that the call owns. -/
theorem wpList_push {w : World} {ops : Array Oper} {rest : List Oper} {o : Oper} {a : Act} {Q : Exit → Act → World → Prop} (t : TypeId) (ht : Try.prog.underlying t = some (.slice 3)) (hgd : o.guard = none) (s x : Operand)
    (ho : o.op = .call { callee := .builtin .append, args := #[s, x], argTypes := #[t, t] }) (B : Nat) (v : Value) (xs : List Int) (hs : a.eval s = v) (hown : OwnI w B v xs) (y : Int) (H : Nat) (hH : w.heap.size = H) (hx : a.eval x = .slice (some ⟨H, 0, none⟩) 1 1)
    (hlen : xs.length ≤ 1099511627776) (hB : B ≤ w.heap.size)
    (h : ∀ g cap w', OwnI w' B (.slice (some ⟨g, 0, none⟩) (xs.length + 1) cap) (xs ++ [y]) → Chg (fun k => v.ownBlock = some k) w w' → (v.ownBlock = some g ∨ w.heap.size ≤ g) → wpList Try.prog ops Q rest (a.put o.dst (.slice (some ⟨g, 0, none⟩) (xs.length + 1) cap)) w') :
    wpList Try.prog ops Q (o :: rest) a (w.alloc (.cells #[.int .i64 y] 3)) := by
  subst hH
  obtain ⟨i0, hi, hz0, hz1, hz2⟩ := info_parts info3
  refine wpList_append_lies (P := Try.prog) _ hgd s x t ho B 3 i0 (.int .i64 0) 1 8 ht hi hz0 hz1 hz2 rfl (by decide) v xs.length (ints xs) hs (World.ownsRow.alloc hown _) ⟨w.heap.size, 0, none⟩ 1 1 [.int .i64 y] hx rfl ?_ ?_ (by decide) (by unfold maxLen; omega) (by omega) (by simp; omega) (w.heap.size + 1) (by simp) ?_
  · intro j u hj
    match j, hj with
    | 0, hj => simp at hj; subst hj; simp [Addr.add]
  · intro u hu
    simp at hu
    subst hu
    rfl
  · intro g cap w' ho' hg hat _
    refine h g cap w' ?_ ((Chg.alloc _ w _).trans (Chg.grown hg (fun k e => e))) ?_
    · unfold OwnI
      have e : ints xs ++ [.int .i64 y] = ints (xs ++ [y]) := by simp [ints]
      rw [← e, List.length_append]
      exact ho'
    · rcases hat with e | rfl
      · exact .inl e
      · exact .inr (by omega)

/-- 'append([]int(nil), s...)' -/
theorem wpList_clone {w : World} {ops : Array Oper} {rest : List Oper} {o : Oper} {a : Act} {Q : Exit → Act → World → Prop} (hgd : o.guard = none) (s x : Operand)
    (ho : o.op = .call { callee := .builtin .append, args := #[s, x], argTypes := #[22, 22] }) (hs : a.eval s = .slice none 0 0) (g n c : Nat) (xs : List Int) (hx : a.eval x = .slice (some ⟨g, 0, none⟩) n c) (hn : xs.length = n) (hI : Rd w (some ⟨g, 0, none⟩) (ints xs)) (h0 : 0 < n)
    (hlen : n ≤ 1099511627776) (G : Nat) (hG : G = w.heap.size)
    (h : ∀ cap w', OwnI w' G (.slice (some ⟨G, 0, none⟩) n cap) xs → Chg (fun _ => False) w w' → wpList Try.prog ops Q rest (a.put o.dst (.slice (some ⟨G, 0, none⟩) n cap)) w') :
    wpList Try.prog ops Q (o :: rest) a w := by
  subst hG
  obtain ⟨i0, hi, hz0, hz1, hz2⟩ := info_parts info3
  refine wpList_append_lies (P := Try.prog) _ hgd s x 22 ho w.heap.size 3 i0 (.int .i64 0) 1 8 Try.underlying22 hi hz0 hz1 hz2 rfl (by decide) (.slice none 0 0) 0 [] hs (World.ownsRow_nil _ _ _ _) ⟨g, 0, none⟩ n c (ints xs) hx (by rw [ints_len, hn, Nat.mul_one]) ?_ ?_ h0 (by unfold maxLen; omega) (by omega) (Nat.le_refl _) _ rfl ?_
  · intro j u hj
    have hj' := (List.getElem?_eq_some_iff.1 hj).1
    obtain ⟨b, off, e, hc⟩ := hI j hj'
    cases e
    rw [add_mk, hc, hj]
  · intro u hu
    simp only [ints, List.mem_map] at hu
    obtain ⟨y, _, rfl⟩ := hu
    rfl
  · intro g' cap w' ho' hg hat _
    have e : g' = w.heap.size := by
      rcases hat with h1 | h1
      · cases h1
      · exact h1
    subst e
    simp only [Nat.zero_add, List.nil_append] at ho' ⊢
    refine h cap w' ?_ (Chg.grown hg (fun k e => by cases e))
    unfold OwnI
    rw [hn]
    exact ho'

end Go.Proofs.Qxb6614980a
