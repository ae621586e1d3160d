/-
  A slice of Binds as a walk meets it; the law's own bounds: 'zzBytes_..', 'zzBindsTooBig'.
-/
import Derived.Test.Qxb6615096aRows
import Derived.WalkKit
import Derived.ProofKit
import Derived.Below
import Derived.WalkSpells
namespace Go.Proofs.Qxb6615096a
open Go.ChangeShapes Go.WideShapes Go.ChangeAt Go.RowKit

theorem hide {p : Prop} (h : p) : Hid p := h
theorem unhide {p : Prop} (h : Hid p) : p := h

/-- It returns a bool. -/
def IsBool (e : Ending) : Prop := ∃ r, e = .returned (.bool r)
theorem isBool (r : Bool) : IsBool (.returned (.bool r)) := ⟨r, rfl⟩

/-- The six strings of element j of a slice of Binds. -/
structure SixAt (w : World) (b o : Nat) (s : Fin 6 → ByteArray) : Prop where
  c0 : w.cell? ⟨b, o, none⟩ = some (.string (s 0))
  c1 : w.cell? ⟨b, o + 1, none⟩ = some (.string (s 1))
  c2 : w.cell? ⟨b, o + 2, none⟩ = some (.string (s 2))
  c3 : w.cell? ⟨b, o + 3, none⟩ = some (.string (s 3))
  c4 : w.cell? ⟨b, o + 4, none⟩ = some (.string (s 4))
  c5 : w.cell? ⟨b, o + 5, none⟩ = some (.string (s 5))

/-- The slice '.slice a n c' leads to n elements of six strings each. -/
def Binds (w : World) (a : Option Addr) (n : Nat) : Prop := ∀ k, k < n → ∃ b off s, a = some ⟨b, off, none⟩ ∧ SixAt w b (off + k * 6) s

set_option maxRecDepth 100000 in
set_option maxHeartbeats 4000000 in
theorem bytes4_any (a : Option Addr) (n c : Nat) (i : Int) (w : World) (h : Binds w a n) :
    Calls Try.prog 4 #[.slice a n c, .int .i64 i] w fun e w' => IsBool e ∧ w' = w := by
  have H := hide h
  clear h
  by_cases hn : n ≤ 1048576
  · go_enter Try.func4, Try.ntmps4
    go_wp2
    go_loop [5, 6] (fun z i => ∃ (k : Nat) (y : Int), k ≤ n ∧ i = .int .i64 k ∧ 0 ≤ y ∧ y ≤ 1048576 ∧ z = .int .i64 y) (fun _ i => n - (intOf i).toNat)
    case atStart => exact ⟨0, n, Nat.zero_le _, rfl, by omega, by omega, rfl⟩
    case round =>
      obtain ⟨k, y, hk, rfl, hy0, hy1, rfl⟩ := hrel
      by_cases hlt : k < n
      · obtain ⟨b, off, s, rfl, ⟨g0, g1, g2, g3, g4, g5⟩⟩ := (unhide H) k hlt
        go_wp2
        rotate_right
        · go_round
          case rel => exact ⟨k + 1, _, by omega, by go_num, by omega, by omega, rfl⟩
          case measure => simp [intOf]; omega
        all_goals
          go_ret
          exact ⟨isBool _, rfl⟩
      · go_wp2
        go_ret
        exact ⟨isBool _, rfl⟩
  · go_enter Try.func4, Try.ntmps4
    go_wp2
    go_ret
    exact ⟨isBool _, rfl⟩

/-- What was there is there. -/
theorem cell_below {w w' : World} (h : Below w.heap.size w w') {a : Addr} {v : Value} (e : w.cell? a = some v) : w'.cell? a = some v := by
  have hb : a.block < w.heap.size := by
    apply Decidable.byContradiction
    intro hn
    have hge : w.heap.size ≤ a.block := Nat.le_of_not_lt hn
    have : w.heap[a.block]? = none := Array.getElem?_eq_none hge
    simp [World.cell?, this] at e
  rw [h.cell hb, e]
theorem SixAt.below {w w' : World} (h : Below w.heap.size w w') {b o : Nat} {s : Fin 6 → ByteArray} (g : SixAt w b o s) : SixAt w' b o s :=
  ⟨cell_below h g.c0, cell_below h g.c1, cell_below h g.c2, cell_below h g.c3, cell_below h g.c4, cell_below h g.c5⟩
theorem Binds.below {w w' : World} (h : Below w.heap.size w w') {a : Option Addr} {n : Nat} (g : Binds w a n) : Binds w' a n := fun k hk => by
  obtain ⟨b, off, s, e, hs⟩ := g k hk
  exact ⟨b, off, s, e, hs.below h⟩
theorem below_trans {a b c : World} (h : Below a.heap.size a b) (k : Below b.heap.size b c) : Below a.heap.size a c := h.trans (k.mono h.size)

/-- What 'zzBindsTooBig' answers: false only of a short list. -/
def Short (n : Nat) (e : Ending) : Prop := ∃ r, e = .returned (.bool r) ∧ (r = false → n ≤ 65536)
theorem short_t (n : Nat) : Short n (.returned (.bool true)) := ⟨true, rfl, fun h => by cases h⟩
theorem short_f {n : Nat} (h : n ≤ 65536) : Short n (.returned (.bool false)) := ⟨false, rfl, fun _ => h⟩

set_option maxRecDepth 100000 in
set_option maxHeartbeats 4000000 in
theorem big5_any (a : Option Addr) (n c : Nat) (w : World) (h : Binds w a n) :
    Calls Try.prog 5 #[.slice a n c] w fun e w' => Short n e ∧ Below w.heap.size w w' := by
  have H := hide h
  clear h
  by_cases hn : n ≤ 65536
  · go_enter Try.func5, Try.ntmps5
    go_wp2
    go_loopw [3, 11] (fun z i wr => ∃ (k : Nat) (y : Int), k ≤ n ∧ i = .int .i64 k ∧ 0 ≤ y ∧ y ≤ 1048576 ∧ z = .int .i64 y ∧ Below w.heap.size w wr) (fun _ i _ => n - (intOf i).toNat)
    case atStart => exact ⟨0, 0, Nat.zero_le _, rfl, by omega, by omega, rfl, Below.refl _ _⟩
    case round =>
      obtain ⟨k, y, hk, rfl, hy0, hy1, rfl, hB⟩ := hrel
      by_cases hlt : k < n
      · obtain ⟨b, off, s, rfl, ⟨g0, g1, g2, g3, g4, g5⟩⟩ := (unhide H).below hB k hlt
        go_wp2
        case roundEnd =>
          go_roundw
          case rel => exact ⟨k + 1, _, by omega, by go_num, by omega, by omega, rfl, hB.alloc hB.size _⟩
          case measure => simp [intOf]; omega
        all_goals
          go_ret
          exact ⟨short_t n, hB.alloc hB.size _⟩
      · go_wp2
        go_ret
        exact ⟨short_f hn, hB⟩
  · go_enter Try.func5, Try.ntmps5
    go_wp2
    go_ret
    exact ⟨short_t n, Below.refl _ _⟩
end Go.Proofs.Qxb6615096a
