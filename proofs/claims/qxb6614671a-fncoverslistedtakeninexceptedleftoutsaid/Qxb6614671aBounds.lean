/-
  The laws' own bounds: 'zzBytes_..', 'zzOverB1': each returns a bool and turns nothing (which bool is not asked).
-/
import Derived.Test.Qxb6614671aCovers
namespace Go.Proofs.Qxb6614671a
open Go.ChangeShapes Go.WideShapes Go.ChangeAt Go.RowKit

/-- It returns a bool. -/
def IsBool (e : Ending) : Prop := ∃ r, e = .returned (.bool r)
theorem isBool (r : Bool) : IsBool (.returned (.bool r)) := ⟨r, rfl⟩

/-- One cell of a slice of strings. -/
theorem Strs.at {w : World} {a : Option Addr} {n c : Nat} {ss : List ByteArray} (h : Strs w (.slice a n c) ss) {k : Nat} (hk : k < n) :
    ∃ b off s, a = some ⟨b, off, none⟩ ∧ w.cell? ⟨b, off + k, none⟩ = some (.string s) := by
  rcases h with ⟨rfl, a', c', hv⟩ | ⟨b, off, c', hv, hc⟩
  · cases hv; omega
  · cases hv
    exact ⟨b, off, _, rfl, hc k hk⟩

set_option maxHeartbeats 1000000 in
theorem bytes7_any (a : Option Addr) (n c : Nat) (ss : List ByteArray) (i : Int) (x : ByteArray) (w : World) (h : Strs w (.slice a n c) ss) :
    Calls Try.prog 7 #[.slice a n c, .int .i64 i, .string x] w fun e w' => IsBool e ∧ w' = w := by
  have H := hide h
  clear h
  by_cases hn : n ≤ 1048576
  · go_enter Try.func7, Try.ntmps7
    go_wp2
    go_loop [7, 8] (fun z i => ∃ (k : Nat) (y : Int), k ≤ n ∧ i = .int .i64 k ∧ 0 ≤ y ∧ y ≤ 1048576 ∧ z = .int .i64 y) (fun _ i => n - (intOf i).toNat)
    case atStart => exact ⟨0, n, Nat.zero_le _, rfl, by omega, by omega, rfl⟩
    case round =>
      obtain ⟨k, y, hk, rfl, hy0, hy1, rfl⟩ := hrel
      by_cases hlt : k < n
      · obtain ⟨b, off, s, rfl, hc⟩ := (unhide H).at hlt
        go_wp2
        · go_ret
          exact ⟨isBool _, rfl⟩
        · go_ret
          exact ⟨isBool _, rfl⟩
        · go_round
          case rel => exact ⟨k + 1, _, by omega, by go_num, by omega, by omega, rfl⟩
          case measure => simp [intOf]; omega
      · go_wp2
        all_goals
          go_ret
          exact ⟨isBool _, rfl⟩
  · go_enter Try.func7, Try.ntmps7
    go_wp2
    go_ret
    exact ⟨isBool _, rfl⟩

set_option maxHeartbeats 1000000 in
theorem over8_any (a a' : Option Addr) (n c n' c' : Nat) (ss ss' : List ByteArray) (x : ByteArray) (w : World) (h : Strs w (.slice a n c) ss) (h' : Strs w (.slice a' n' c') ss') (hn : n ≤ 1048576) (hn' : n' ≤ 1048576) :
    Calls Try.prog 8 #[.slice a n c, .slice a' n' c', .string x] w fun e w' => IsBool e ∧ w' = w := by
  have H := hide h
  have H' := hide h'
  clear h h'
  go_enter Try.func8, Try.ntmps8
  go_wp2
  · go_ret
    exact ⟨isBool _, rfl⟩
  go_loop [7, 8] (fun z i => ∃ (k : Nat) (y : Int), k ≤ n ∧ i = .int .i64 k ∧ z = .int .i64 y) (fun _ i => n - (intOf i).toNat)
  case atStart => exact ⟨0, _, Nat.zero_le _, rfl, rfl⟩
  case round =>
    obtain ⟨k, y, hk, rfl, rfl⟩ := hrel
    by_cases hlt : k < n
    · obtain ⟨b, off, s, rfl, hc⟩ := (unhide H).at hlt
      go_wp2
      · go_ret
        exact ⟨isBool _, rfl⟩
      · go_round
        case rel => exact ⟨k + 1, _, by omega, by go_num, rfl⟩
        case measure => simp [intOf]; omega
    · go_wp2
      go_loop [7, 9] (fun z i => ∃ (k : Nat) (y : Int), k ≤ n' ∧ i = .int .i64 k ∧ z = .int .i64 y) (fun _ i => n' - (intOf i).toNat)
      case atStart => exact ⟨0, _, Nat.zero_le _, rfl, rfl⟩
      case round =>
        obtain ⟨k', y', hk', rfl, rfl⟩ := hrel
        by_cases hlt' : k' < n'
        · obtain ⟨b, off, s, rfl, hc⟩ := (unhide H').at hlt'
          go_wp2
          · go_ret
            exact ⟨isBool _, rfl⟩
          · go_round
            case rel => exact ⟨k' + 1, _, by omega, by go_num, rfl⟩
            case measure => simp [intOf]; omega
        · go_wp2
          go_ret
          exact ⟨isBool _, rfl⟩

set_option maxHeartbeats 1000000 in
theorem bytes10_any (a a' : Option Addr) (n c n' c' : Nat) (ss ss' : List ByteArray) (i : Int) (x : ByteArray) (w : World) (h : Strs w (.slice a n c) ss) (h' : Strs w (.slice a' n' c') ss') :
    Calls Try.prog 10 #[.slice a n c, .slice a' n' c', .string x, .int .i64 i] w fun e w' => IsBool e ∧ w' = w := by
  have H := hide h
  have H' := hide h'
  clear h h'
  by_cases hn : n ≤ 1048576
  · go_enter Try.func10, Try.ntmps10
    go_wp2
    go_loop [9, 10] (fun z i => ∃ (k : Nat) (y : Int), k ≤ n ∧ i = .int .i64 k ∧ 0 ≤ y ∧ y ≤ 1048576 ∧ z = .int .i64 y) (fun _ i => n - (intOf i).toNat)
    case atStart => exact ⟨0, n, Nat.zero_le _, rfl, by omega, by omega, rfl⟩
    case round =>
      obtain ⟨k, y, hk, rfl, hy0, hy1, rfl⟩ := hrel
      by_cases hlt : k < n
      · obtain ⟨b, off, s, rfl, hc⟩ := (unhide H).at hlt
        go_wp2
        · go_ret
          exact ⟨isBool _, rfl⟩
        · go_ret
          exact ⟨isBool _, rfl⟩
        · go_round
          case rel => exact ⟨k + 1, _, by omega, by go_num, by omega, by omega, rfl⟩
          case measure => simp [intOf]; omega
      · go_wp2
        · go_ret
          exact ⟨isBool _, rfl⟩
        · go_ret
          exact ⟨isBool _, rfl⟩
        go_loop [9, 11] (fun z i => ∃ (k : Nat) (y : Int), k ≤ n' ∧ i = .int .i64 k ∧ 0 ≤ y ∧ y ≤ 1048576 ∧ z = .int .i64 y) (fun _ i => n' - (intOf i).toNat)
        case atStart => exact ⟨0, _, Nat.zero_le _, rfl, by omega, by omega, rfl⟩
        case round =>
          obtain ⟨k', y', hk', rfl, hy0', hy1', rfl⟩ := hrel
          by_cases hlt' : k' < n'
          · obtain ⟨b, off, s, rfl, hc⟩ := (unhide H').at hlt'
            go_wp2
            · go_ret
              exact ⟨isBool _, rfl⟩
            · go_ret
              exact ⟨isBool _, rfl⟩
            · go_round
              case rel => exact ⟨k' + 1, _, by omega, by go_num, by omega, by omega, rfl⟩
              case measure => simp [intOf]; omega
          · go_wp2
            all_goals
              go_ret
              exact ⟨isBool _, rfl⟩
  · go_enter Try.func10, Try.ntmps10
    go_wp2
    go_ret
    exact ⟨isBool _, rfl⟩

end Go.Proofs.Qxb6614671a
