/-
  heap.Pop and heap.Push over a vertexHeap.
-/
import Derived.Test.Qxb6614980aHeap
import Derived.Deep.RegionLaw
namespace Go.Proofs.Qxb6614980a
open Go.ChangeShapes Go.WideShapes Go.ChangeAt Go.RowKit

/-- 'append(s, y)' inside a region that draws. -/
theorem step_push {w : World} {ops : Array Oper} {o : Oper} {a : Act} {K : Act → World → Prop} {Q : Exit → Act → World → Prop} {E : Prop} (t : TypeId) (ht : Try.prog.underlying t = some (.slice 3)) (hgd : o.guard = none) (s x : Operand)
    (ho : o.op = .call { callee := .builtin .append, args := #[s, x], argTypes := #[t, t] }) (B : Nat) (v : Value) (xs : List Int) (hs : a.eval s = v) (hown : OwnI w B v xs) (y : Int) (H : Nat) (hH : w.heap.size = H) (hx : a.eval x = .slice (some ⟨H, 0, none⟩) 1 1)
    (hlen : xs.length ≤ 1099511627776) (hB : B ≤ w.heap.size)
    (h : ∀ g cap w', OwnI w' B (.slice (some ⟨g, 0, none⟩) (xs.length + 1) cap) (xs ++ [y]) → Chg (fun k => v.ownBlock = some k) w w' → (v.ownBlock = some g ∨ w.heap.size ≤ g) → K (a.put o.dst (.slice (some ⟨g, 0, none⟩) (xs.length + 1) cap)) w') :
    if Region.wanted o (yielded ops a.tmps) = true then Oper.wp Try.prog o a (w.alloc (.cells #[.int .i64 y] 3)).drew K Q else E := by
  subst hH
  obtain ⟨i0, hi, hz0, hz1, hz2⟩ := info_parts info3
  have hown' : ((w.alloc (.cells #[.int .i64 y] 3)).drew).ownsRow B 3 1 v xs.length (ints xs) := World.ownsRow.alloc hown _
  refine step_append_lies (P := Try.prog) _ hgd s x t ho B 3 i0 (.int .i64 0) 1 8 ht hi hz0 hz1 hz2 rfl (by decide) v xs.length (ints xs) hs hown' ⟨w.heap.size, 0, none⟩ 1 1 [.int .i64 y] hx rfl ?_ ?_ (by decide) (by unfold maxLen; omega) (by omega) (by simp; omega) (w.heap.size + 1) (by simp) ?_
  · intro j u hj
    match j, hj with
    | 0, hj => simp at hj; subst hj; simp [Addr.add]
  · intro u hu
    simp at hu
    subst hu
    rfl
  · intro g cap w' ho' hg hat _
    refine h g cap w' ?_ (((Chg.alloc _ w _).trans (Chg.draws _ _ 1)).trans (Chg.grown hg (fun k e => e))) ?_
    · unfold OwnI
      have e : ints xs ++ [.int .i64 y] = ints (xs ++ [y]) := by simp [ints]
      rw [← e, List.length_append]
      exact ho'
    · rcases hat with e | rfl
      · exact .inl e
      · exact .inr (by omega)

theorem OwnI.cut {w : World} {B g n c : Nat} {xs : List Int} (h : OwnI w B (.slice (some ⟨g, 0, none⟩) n c) xs) (k : Nat) (hk : k ≤ xs.length) : OwnI w B (.slice (some ⟨g, 0, none⟩) k c) (xs.take k) := by
  obtain ⟨h1, h2⟩ := h
  have hl : (xs.take k).length = k := by rw [List.length_take]; omega
  refine ⟨by rw [ints_len, Nat.mul_one], ?_⟩
  rcases h2 with ⟨hv, _⟩ | ⟨g', cap, cur, hv, hB, hh, hn, hm, hs, ht⟩
  · cases hv
  · cases hv
    refine .inr ⟨g, c, cur, by rw [hl], hB, hh, by omega, hm, hs, ?_⟩
    rw [hl, Nat.mul_one]
    have e : cur.toList.take k = (cur.toList.take (xs.length * 1)).take k := by rw [List.take_take]; congr 1; omega
    rw [e, ht]
    simp [ints, List.map_take]

set_option maxRecDepth 100000 in
set_option maxHeartbeats 4000000 in
theorem pop51_any (B rb g n cap : Nat) (xs : List Int) (w : World) (h : Hp w B rb g (n + 1) cap xs) (hn : n ≤ 1048576) :
    Calls Try.prog 51 #[.pointer (some ⟨rb, 0, none⟩)] w fun e w' => e = .returned (.iface 3 (.int .i64 (xs.getD n 0))) ∧ Hp w' B rb g n cap (xs.take n) ∧ Chg (fun k => k = rb) w w' := by
  have hl := h.n
  have c0 : w.cell? ⟨rb, 0, none⟩ = some (.slice (some ⟨g, 0, none⟩) (n + 1) cap) := h.v.cell 0
  have f0 := h.v.free 0
  have c1 := h.o.cell (j := n) (by omega)
  generalize hx : xs.getD n 0 = x at c1 ⊢
  clear hx
  have hcap : n + 1 ≤ cap := by
    rcases h.o.2 with ⟨hv, _⟩ | ⟨g', cap', cur, hv, hB, hh, hn, hm, hs, ht⟩
    · cases hv
    · injection hv with _ e2 e3
      omega
  have H := hide h
  have HL := hide hl
  clear h hl
  go_enter Try.func51, Try.ntmps51
  go_wp2_with fail
  go_returns
  have hl := unhide HL
  have hc : Chg (fun k => k = rb) w (w.setCell ⟨rb, 0, none⟩ (.slice (some ⟨g, 0, none⟩) n cap)) := Chg.setCell w ⟨rb, 0, none⟩ _ rfl
  refine ⟨rfl, ⟨(unhide H).v.set 0 _, ((unhide H).o.chg hc (fun k hk e => ?_)).cut n (by omega), by rw [List.length_take]; omega⟩, hc⟩
  cases hk
  exact (unhide H).ne e.symm

set_option maxRecDepth 100000 in
set_option maxHeartbeats 4000000 in
theorem push52_any (B rb g n cap : Nat) (xs : List Int) (y : Int) (w : World) (h : Hp w B rb g n cap xs) (hn : n ≤ 1048576) (hB : B ≤ w.heap.size) :
    Calls Try.prog 52 #[.pointer (some ⟨rb, 0, none⟩), .iface 3 (.int .i64 y)] w fun e w' => e = .returned (.tuple #[]) ∧ ∃ g' cap', Hp w' B rb g' (n + 1) cap' (xs ++ [y]) ∧ Chg (fun k => k = rb ∨ k = g) w w' ∧ (g' = g ∨ w.heap.size ≤ g') := by
  have c0 : w.cell? ⟨rb, 0, none⟩ = some (.slice (some ⟨g, 0, none⟩) n cap) := h.v.cell 0
  have hrl := h.v.lt
  have f0 := h.v.free 0
  have hne := h.ne
  have hne' : g ≠ rb := fun e => hne e.symm
  have H := hide h
  have HL := hide h.n
  have hta : ∀ w, Sem.run Try.prog (Instr.typeAssert (.iface 3 (.int .i64 y)) 20 3 false) w = .ok (.int .i64 y) w := fun _ => by kernel_rfl
  clear h
  go_enter Try.func52, Try.ntmps52
  go_wp2_with fail
  go_region_law (refine step_push 63 Try.underlying63 rfl (.tmp 7) (.tmp 10) rfl B (.slice (some ⟨g, 0, none⟩) n cap) xs (by simp [Act.eval]) (unhide H).o y _ rfl (by simp [Act.eval]) (by rw [← unhide HL]; omega) hB ?_; intro g1 cap1 w1 ho1 hc1 hat1; rw [← unhide HL]; have O1 := hide ho1; have hb1 := Blk.chg (unhide H).v hc1 (fun e => hne' (by injection e)); have B1 := hide hb1; have c1 : w1.cell? ⟨rb, 0, none⟩ = some (.slice (some ⟨g, 0, none⟩) n cap) := hb1.cell 0; have f1 := hb1.free 0; clear ho1 hb1)
  all_goals go_wp2_with fail
  all_goals go_returns
  all_goals refine ⟨rfl, g1, cap1, ⟨(unhide B1).set 0 _, ?_, by rw [List.length_append, ← unhide HL]; rfl⟩, (hc1.mono (fun k _ e => .inr (by injection e with e; exact e.symm))).trans (Chg.setCell w1 ⟨rb, 0, none⟩ _ (.inl rfl)), ?_⟩
  all_goals first
    | (have hr : OwnI w1 B (.slice (some ⟨g1, 0, none⟩) (n + 1) cap1) (xs ++ [y]) := (by rw [unhide HL]; exact unhide O1)
       exact hr.chg (Chg.setCell (S := fun k => k = rb) w1 ⟨rb, 0, none⟩ _ rfl) (fun k hk e => by subst e; exact hr.ne (unhide B1) (by decide) hk))
    | (rcases hat1 with e | e
       · left; injection e with e; exact e.symm
       · right; exact e)

set_option maxRecDepth 100000 in
set_option maxHeartbeats 4000000 in
theorem heapPop_any (B rb g n cap : Nat) (xs : List Int) (w : World) (h : Hp w B rb g (n + 1) cap xs) (hn : n + 1 ≤ 1048576) (hh : HeapN xs (n + 1)) :
    Calls Try.prog 23 #[.iface 65 (.pointer (some ⟨rb, 0, none⟩))] w fun e w' => e = .returned (.iface 3 (.int .i64 (xs.getD 0 0))) ∧ ∃ ys, Hp w' B rb g n cap ys ∧ HeapN ys n ∧ (xs.getD 0 0 :: ys).Perm xs ∧ Chg (fun k => k = rb ∨ k = g) w w' := by
  have hml := meth_len w ⟨rb, 0, none⟩ _ (h.v.cell 0)
  have hms := meth_swap w ⟨rb, 0, none⟩ _ (h.v.cell 0)
  have hmp := fun w => meth_pop w ⟨rb, 0, none⟩
  have H := hide h
  have HL := hide h.n
  have HH := hide hh
  obtain ⟨x0, hx0⟩ : ∃ x, x = xs.getD 0 0 := ⟨_, rfl⟩
  rw [← hx0]
  have HX := hide hx0
  clear h hh hx0
  have hnn : 0 ≤ n := Nat.zero_le n
  go_enter Try.func23, Try.ntmps23
  go_wp2_with fail
  refine (len48_any _ _ _ w).mono ?_
  rintro e w1 ⟨rfl, hw1⟩
  subst hw1
  go_wp2_with fail
  refine (swap50_int w1 B g (n + 1) cap xs (unhide H).o (unhide H).n 0 n (by omega) (by omega) _ _ (by omega) (by omega)).mono ?_
  rintro e w2 ⟨rfl, ho2, hc2⟩
  have H2 : Hid (Hp w2 B rb g (n + 1) cap (swp xs 0 n)) := (unhide H).swap ho2 hc2 (by rw [swp_len]; exact unhide HL)
  clear ho2
  go_wp2_with fail
  refine (down28_any B rb g (n + 1) cap (swp xs 0 n) n w2 (unhide H2) hn (by omega) (dn_start (by rw [← unhide HL]; exact unhide HH) n (unhide HL))).mono ?_
  rintro e w3 ⟨⟨b, rfl⟩, ys, h3, hh3, hp3, he3, hc3⟩
  have H3 := hide h3
  have HH3 := hide hh3
  have HP3 := hide hp3
  have HE3 := hide he3
  clear h3 hh3 hp3 he3
  go_wp2_with fail
  refine (pop51_any B rb g n cap ys w3 (unhide H3) (by omega)).mono ?_
  rintro e w4 ⟨rfl, h4, hc4⟩
  have H4 := hide h4
  clear h4
  have hlx := unhide HL
  have hly := (unhide H3).n
  have hlast : ys.getD n 0 = x0 := by
    have := unhide HE3
    unfold SameAt at this
    rw [this, swp_at xs 0 n n (by omega) (by omega), if_pos rfl]
    exact (unhide HX).symm
  rw [hlast]
  have HLA := hide hlast
  have HLX := hide hlx
  have HLY := hide hly
  clear hlast hlx hly
  go_wp2_with fail
  go_returns
  have hlx := unhide HLX
  have hly := unhide HLY
  refine ⟨rfl, ys.take n, unhide H4, ?_, ?_, ?_⟩
  · have := cut_heap (unhide HH3) (by omega)
    rwa [List.length_take, Nat.min_eq_left (by omega)] at this
  · have h1 := cut_perm (ys := ys) (n := n) (by omega)
    rw [unhide HLA] at h1
    exact h1.trans ((unhide HP3).trans (swp_perm xs 0 n (by omega) (by omega)))
  · exact ((hc2.trans hc3).mono (fun k _ e => .inr e)).trans (hc4.mono (fun k _ e => .inl e))

set_option maxRecDepth 100000 in
set_option maxHeartbeats 4000000 in
theorem heapPush_any (B rb g n cap : Nat) (xs : List Int) (y : Int) (w : World) (h : Hp w B rb g n cap xs) (hn : n + 1 ≤ 1048576) (hB : B ≤ w.heap.size) (hh : HeapN xs n) :
    Calls Try.prog 24 #[.iface 65 (.pointer (some ⟨rb, 0, none⟩)), .iface 3 (.int .i64 y)] w fun e w' => e = .returned (.tuple #[]) ∧ ∃ g' cap' ys, Hp w' B rb g' (n + 1) cap' ys ∧ HeapN ys (n + 1) ∧ ys.Perm (y :: xs) ∧ Chg (fun k => k = rb ∨ k = g) w w' ∧ (g' = g ∨ w.heap.size ≤ g') := by
  have hmp := fun w => meth_push w ⟨rb, 0, none⟩
  have H := hide h
  have HL := hide h.n
  have HH := hide hh
  clear h hh
  go_enter Try.func24, Try.ntmps24
  go_wp2_with fail
  refine (push52_any B rb g n cap xs y w (unhide H) (by omega) hB).mono ?_
  rintro e w1 ⟨rfl, g1, cap1, h1, hc1, hat⟩
  have hml := meth_len w1 ⟨rb, 0, none⟩ _ (h1.v.cell 0)
  have H1 := hide h1
  clear h1
  go_wp2_with fail
  refine (len48_any _ _ _ w1).mono ?_
  rintro e w2 ⟨rfl, hw2⟩
  subst hw2
  go_wp2_with fail
  refine (up29_any B rb g1 (n + 1) cap1 (xs ++ [y]) n w2 (unhide H1) hn (by omega) (by
    have := up_start (xs := xs) (by rw [← unhide HL]; exact unhide HH) y
    rwa [← unhide HL] at this)).mono ?_
  rintro e w3 ⟨rfl, ys, h3, hh3, hp3, hc3⟩
  have H3 := hide h3
  have HH3 := hide hh3
  have HP3 := hide hp3
  clear h3 hh3 hp3
  go_wp2_with fail
  go_returns
  refine ⟨rfl, g1, cap1, ys, unhide H3, ?_, (unhide HP3).trans (List.perm_append_comm (l₁ := xs) (l₂ := [y])), ?_, hat⟩
  · have := unhide HH3
    rwa [← (unhide H3).n] at this
  · exact hc1.then hc3 (fun k hk e => by rcases hat with h | h; exact .inr (e.trans h); omega)
end Go.Proofs.Qxb6614980a
