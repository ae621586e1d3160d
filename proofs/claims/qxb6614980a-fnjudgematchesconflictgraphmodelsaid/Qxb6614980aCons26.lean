/-
  The closure 'consider' of 'shortestCycle'.
-/
import Derived.Test.Qxb6614980aBfsS
import Derived.Test.Qxb6614980aCyc
namespace Go.Proofs.Qxb6614980a
open Go.ChangeShapes Go.WideShapes Go.ChangeAt Go.RowKit

set_option maxRecDepth 100000 in
set_option maxHeartbeats 4000000 in
theorem consider26_any (w : World) (n bd bn g : Nat) (D : List Int) (nx : Int) (t k : Nat) (x : Bool) (hd : w.cell? ⟨bd, 0, none⟩ = some (.slice (some ⟨g, 0, none⟩) n n)) (hD : Rd w (some ⟨g, 0, none⟩) (ints D)) (hl : D.length = n) (hb : Blk w bn 3 [.int .i64 nx]) (ht : t < n) (hnx : nx = -1 ∨ ∃ y : Nat, nx = y ∧ y < n) :
    Calls Try.prog 26 #[.agg #[.int .i64 t, .bool x, .int .i64 k], .pointer (some ⟨bd, 0, none⟩), .pointer (some ⟨bn, 0, none⟩)] w fun e w' => e = .returned (.tuple #[]) ∧ Blk w' bn 3 [.int .i64 (consN D nx t)] ∧ Chg (fun k => k = bn) w w' := by
  have hbc := one_cell hb
  have hbf := hb.free 0
  have hbl := hb.lt
  have hdl : bd < w.heap.size := cell_lt hd
  obtain ⟨g1, o1, e1, hct⟩ := hD.int (j := t) (by omega)
  cases e1
  rw [Nat.zero_add] at hct
  have hgl : g < w.heap.size := cell_lt hct
  unfold consN
  obtain ⟨dt, hdt⟩ : ∃ x, x = D.getD t 0 := ⟨_, rfl⟩
  rw [← hdt] at hct ⊢
  have HB := hide hb
  clear hb hdt
  have hcm : Chg (fun k => k = bn) w ((w.setCell ⟨bn, 0, none⟩ (.int .i64 t)).alloc (.cells #[.int .i64 t, .bool x, .int .i64 k] 58)) := (Chg.setCell (S := fun k => k = bn) w ⟨bn, 0, none⟩ _ rfl).trans (Chg.alloc _ _ _)
  have HCM := hide hcm
  clear hcm
  by_cases h0 : 0 < dt
  · rcases hnx with rfl | ⟨y, rfl, hy⟩
    · rw [if_pos ⟨h0, .inl (by omega)⟩]
      go_enter Try.func26, Try.ntmps26
      go_wp2_with fail
      go_returns
      exact ⟨rfl, ((unhide HB).set 0 _).alloc _, unhide HCM⟩
    · obtain ⟨g2, o2, e2, hcy⟩ := hD.int (j := y) (by omega)
      cases e2
      rw [Nat.zero_add] at hcy
      rw [Int.toNat_natCast]
      generalize D.getD y 0 = dy at hcy ⊢
      by_cases h1 : dt < dy
      · rw [if_pos ⟨h0, .inr (.inl h1)⟩]
        go_enter Try.func26, Try.ntmps26
        go_wp2_with fail
        go_returns
        exact ⟨rfl, ((unhide HB).set 0 _).alloc _, unhide HCM⟩
      · by_cases h2 : dt = dy
        · subst h2
          by_cases h3 : (t : Int) < (y : Int)
          · have h3' : t < y := by omega
            rw [if_pos ⟨h0, .inr (.inr ⟨rfl, h3⟩)⟩]
            go_enter Try.func26, Try.ntmps26
            go_wp2_with fail
            go_returns
            exact ⟨rfl, ((unhide HB).set 0 _).alloc _, unhide HCM⟩
          · have h3' : ¬ t < y := by omega
            rw [if_neg (by rintro ⟨_, h | h | ⟨_, h⟩⟩ <;> omega)]
            go_enter Try.func26, Try.ntmps26
            go_wp2_with fail
            go_returns
            exact ⟨rfl, (unhide HB).alloc _, Chg.alloc _ w _⟩
        · have h2' : (dt == dy) = false := by simp; exact h2
          rw [if_neg (by rintro ⟨_, h | h | ⟨h, _⟩⟩ <;> omega)]
          go_enter Try.func26, Try.ntmps26
          go_wp2_with fail
          go_returns
          exact ⟨rfl, (unhide HB).alloc _, Chg.alloc _ w _⟩
  · rw [if_neg (by rintro ⟨h, _⟩; omega)]
    go_enter Try.func26, Try.ntmps26
    go_wp2_with fail
    go_returns
    exact ⟨rfl, (unhide HB).alloc _, Chg.alloc _ w _⟩
end Go.Proofs.Qxb6614980a
