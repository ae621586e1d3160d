/-
  zzBytes_FnJudgeVerdictIsCertified: where it says true all lengths are small.
-/
import Derived.Test.Qxb6614980aWf
namespace Go.Proofs.Qxb6614980a
open Go.ChangeShapes Go.WideShapes Go.ChangeAt Go.RowKit

def Lens (r : List (List Value)) (k : Nat) : Prop := ∀ j, j < k → (r.getD j []).length ≤ 1048576
theorem Lens.succ {r : List (List Value)} {k : Nat} (h : Lens r k) {m : Nat} (hm : m = (r.getD k []).length) (hl : m ≤ 1048576) : Lens r (k + 1) := fun j hj => by
  by_cases e : j = k
  · subst e; omega
  · exact h j (by omega)
def SaysB (n0 : Nat) (r1 r2 : List (List Value)) (e : Ending) : Prop := ∃ r, e = .returned (.bool r) ∧ (r = true → n0 ≤ 1048576 ∧ r1.length ≤ 1048576 ∧ r2.length ≤ 1048576 ∧ Lens r1 r1.length ∧ Lens r2 r2.length)
theorem saysNoB (n0 : Nat) (r1 r2 : List (List Value)) : SaysB n0 r1 r2 (.returned (.bool false)) := ⟨false, rfl, fun h => by cases h⟩

set_option maxRecDepth 100000 in
set_option maxHeartbeats 2000000 in
theorem bytes12_says (a0 a1 a2 : Option Addr) (n0 c0 c1 c2 : Nat) (r1 r2 : List (List Value)) (w : World) (h1 : RdRows w a1 r1) (h2 : RdRows w a2 r2) :
    Calls Try.prog 12 #[.slice a0 n0 c0, .slice a1 r1.length c1, .slice a2 r2.length c2] w fun e w' => SaysB n0 r1 r2 e ∧ w' = w := by
  by_cases hn0 : n0 ≤ 1048576
  · by_cases hn1 : r1.length ≤ 1048576
    · by_cases hn2 : r2.length ≤ 1048576
      · go_enter Try.func12, Try.ntmps12
        go_wp2
        · go_ret
          exact ⟨saysNoB _ _ _, rfl⟩
        go_loop [7, 8] (fun z i => ∃ (k : Nat) (y : Int), k ≤ r1.length ∧ i = .int .i64 k ∧ 0 ≤ y ∧ y ≤ 1048576 ∧ z = .int .i64 y ∧ Lens r1 k) (fun _ i => r1.length - (intOf i).toNat)
        case atStart => exact ⟨0, _, Nat.zero_le _, rfl, by omega, by omega, rfl, (fun j hj => by omega)⟩
        case round =>
          obtain ⟨k, y, hk, rfl, hy0, hy1, rfl, hL⟩ := hrel
          by_cases hlt : k < r1.length
          · obtain ⟨b, off, ar, cr, rfl, hc, _⟩ := h1 k hlt
            obtain ⟨m, hm⟩ : ∃ m, m = (r1.getD k []).length := ⟨_, rfl⟩
            rw [← hm] at hc
            have HM := hide hm
            clear hm
            go_wp2
            · go_ret
              exact ⟨saysNoB _ _ _, rfl⟩
            · go_ret
              exact ⟨saysNoB _ _ _, rfl⟩
            · go_round
              case rel => exact ⟨k + 1, _, by omega, by go_num, by omega, by omega, rfl, hL.succ (unhide HM) (by omega)⟩
              case measure => simp [intOf]; omega
          · obtain rfl : k = r1.length := by omega
            go_wp2
            · go_ret
              exact ⟨saysNoB _ _ _, rfl⟩
            go_loop [7, 9] (fun z i => ∃ (k : Nat) (y : Int), k ≤ r2.length ∧ i = .int .i64 k ∧ 0 ≤ y ∧ y ≤ 1048576 ∧ z = .int .i64 y ∧ Lens r2 k) (fun _ i => r2.length - (intOf i).toNat)
            case atStart => exact ⟨0, _, Nat.zero_le _, rfl, by omega, by omega, rfl, (fun j hj => by omega)⟩
            case round =>
              obtain ⟨k', y', hk', rfl, hy0', hy1', rfl, hL'⟩ := hrel
              by_cases hlt' : k' < r2.length
              · obtain ⟨b, off, ar, cr, rfl, hc, _⟩ := h2 k' hlt'
                obtain ⟨m, hm⟩ : ∃ m, m = (r2.getD k' []).length := ⟨_, rfl⟩
                rw [← hm] at hc
                have HM := hide hm
                clear hm
                go_wp2
                · go_ret
                  exact ⟨saysNoB _ _ _, rfl⟩
                · go_ret
                  exact ⟨saysNoB _ _ _, rfl⟩
                · go_round
                  case rel => exact ⟨k' + 1, _, by omega, by go_num, by omega, by omega, rfl, hL'.succ (unhide HM) (by omega)⟩
                  case measure => simp [intOf]; omega
              · obtain rfl : k' = r2.length := by omega
                go_wp2
                go_ret
                exact ⟨⟨true, rfl, fun _ => ⟨hn0, hn1, hn2, hL, hL'⟩⟩, rfl⟩
      · go_enter Try.func12, Try.ntmps12
        go_wp2
        · go_ret
          exact ⟨saysNoB _ _ _, rfl⟩
        go_loop [7, 8] (fun z i => ∃ (k : Nat) (y : Int), k ≤ r1.length ∧ i = .int .i64 k ∧ 0 ≤ y ∧ y ≤ 1048576 ∧ z = .int .i64 y) (fun _ i => r1.length - (intOf i).toNat)
        case atStart => exact ⟨0, _, Nat.zero_le _, rfl, by omega, by omega, rfl⟩
        case round =>
          obtain ⟨k, y, hk, rfl, hy0, hy1, rfl⟩ := hrel
          by_cases hlt : k < r1.length
          · obtain ⟨b, off, ar, cr, rfl, hc, _⟩ := h1 k hlt
            generalize (r1.getD k []).length = m at hc
            go_wp2
            · go_ret
              exact ⟨saysNoB _ _ _, rfl⟩
            · go_ret
              exact ⟨saysNoB _ _ _, rfl⟩
            · go_round
              case rel => exact ⟨k + 1, _, by omega, by go_num, by omega, by omega, rfl⟩
              case measure => simp [intOf]; omega
          · go_wp2
            go_ret
            exact ⟨saysNoB _ _ _, rfl⟩
    · go_enter Try.func12, Try.ntmps12
      go_wp2
      go_ret
      exact ⟨saysNoB _ _ _, rfl⟩
  · go_enter Try.func12, Try.ntmps12
    go_wp2
    go_ret
    exact ⟨saysNoB _ _ _, rfl⟩
end Go.Proofs.Qxb6614980a
