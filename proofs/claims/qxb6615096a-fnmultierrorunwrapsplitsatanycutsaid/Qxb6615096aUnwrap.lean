/-
  '(*MultiError).Unwrap', 'ZZunwrapMulti'.
-/
import Derived.Test.Qxb6615096aBuild
namespace Go.Proofs.Qxb6615096a
open Go.ChangeShapes Go.WideShapes Go.ChangeAt Go.RowKit

theorem cell_lt {w : World} {a : Addr} {v : Value} (e : w.cell? a = some v) : a.block < w.heap.size := by
  apply Decidable.byContradiction
  intro hn
  have : w.heap[a.block]? = none := Array.getElem?_eq_none (Nat.le_of_not_lt hn)
  simp [World.cell?, this] at e

/-- The slice '.slice a n c' leads to the pointers ps. -/
structure Row (w : World) (a : Option Addr) (n : Nat) (ps : List Value) : Prop where
  len : ps.length = n
  isPtr : ∀ v ∈ ps, IsPtr v
  held : ∀ j, j < n → ∃ b off, a = some ⟨b, off, none⟩ ∧ w.cell? ⟨b, off + j, none⟩ = ps[j]?

theorem Row.below {w w' : World} (h : Below w.heap.size w w') {a : Option Addr} {n : Nat} {ps : List Value} (g : Row w a n ps) : Row w' a n ps := by
  refine ⟨g.len, g.isPtr, fun j hj => ?_⟩
  obtain ⟨b, off, e, hc⟩ := g.held j hj
  have hj' : j < ps.length := by rw [g.len]; exact hj
  rw [List.getElem?_eq_getElem hj'] at hc ⊢
  exact ⟨b, off, e, cell_below h hc⟩

theorem Row.at {w : World} {a : Option Addr} {n : Nat} {ps : List Value} (g : Row w a n ps) {k : Nat} (hk : k < n) :
    ∃ b off q, a = some ⟨b, off, none⟩ ∧ w.cell? ⟨b, off + k, none⟩ = some (.pointer (some ⟨q, 0, none⟩)) ∧ ps[k]? = some (.pointer (some ⟨q, 0, none⟩)) := by
  obtain ⟨b, off, e, hc⟩ := g.held k hk
  have hj' : k < ps.length := by rw [g.len]; exact hk
  obtain ⟨q, hq⟩ := g.isPtr ps[k] (List.getElem_mem hj')
  have : ps[k]? = some (.pointer (some ⟨q, 0, none⟩)) := by rw [List.getElem?_eq_getElem hj', hq]
  exact ⟨b, off, q, e, by rw [hc, this], this⟩

/-- The pointers as error values. -/
def ifs (ps : List Value) : List Value := ps.map (Value.iface 31)

theorem ifs_len {ps : List Value} {n k : Nat} (h : ps.length = n) (hk : k ≤ n) : (ifs (ps.take k)).length = k := by simp [ifs]; omega
theorem ifs_snoc {ps : List Value} {k : Nat} {v : Value} (h : ps[k]? = some v) : ifs (ps.take k) ++ [.iface 31 v] = ifs (ps.take (k + 1)) := by
  obtain ⟨hk, rfl⟩ := List.getElem?_eq_some_iff.1 h
  rw [List.take_succ_eq_append_getElem hk]
  unfold ifs
  rw [List.map_append]
  rfl

theorem take_snoc {ps : List Value} {k : Nat} {v : Value} (h : ps[k]? = some v) : ps.take k ++ [v] = ps.take (k + 1) := by
  obtain ⟨hk, rfl⟩ := List.getElem?_eq_some_iff.1 h
  rw [List.take_succ_eq_append_getElem hk]

set_option maxRecDepth 100000 in
set_option maxHeartbeats 4000000 in
/-- (*MultiError).Unwrap. -/
theorem unwrap9_any (pm : Nat) (a : Option Addr) (n c : Nat) (ps : List Value) (w : World) (hpm : w.cell? ⟨pm, 0, none⟩ = some (.slice a n c)) (h : Row w a n ps) (hn : n ≤ 65536) :
    Calls Try.prog 9 #[.pointer (some ⟨pm, 0, none⟩)] w fun e w' => RetSl w.heap.size n e ∧ Fill w' w.heap.size n (ifs ps) ∧ Below w.heap.size w w' := by
  have H := hide h
  clear h
  have hm := run_make_row' (P := Try.prog) 35 39 .nilIface 16 Try.underlying35 info39 rfl .i64 .i64 n (by omega) (by omega)
  have hpl : pm < w.heap.size := cell_lt hpm
  have hne : ¬ pm = w.heap.size := by omega
  go_enter Try.func9, Try.ntmps9
  go_wp2
  go_loopw [17] (fun i wr => ∃ (k : Nat), k ≤ n ∧ i = .int .i64 k ∧ Fill wr w.heap.size n (ifs (ps.take k)) ∧ Below w.heap.size w wr ∧ w.heap.size < wr.heap.size) (fun i _ => n - (intOf i).toNat)
  case atStart => exact ⟨0, Nat.zero_le _, rfl, Fill.new _ _ _ _ (size_madeCells _ _), (Below.refl _ _).alloc (Nat.le_refl _) _, by simp⟩
  case round =>
    obtain ⟨k, hk, rfl, hF, hB, hlt0⟩ := hrel
    have HF := hide hF
    clear hF
    by_cases hlt : k < n
    · obtain ⟨b, off, q, rfl, hc, hq⟩ := ((unhide H).below hB).at hlt
      have HQ := hide hq
      clear hq
      obtain ⟨x, hx⟩ := (unhide HF).cell k hlt
      have hfr := (unhide HF).free k hlt
      go_wp2
      have F3 := (unhide HF).store (v := .iface 31 (.pointer (some ⟨q, 0, none⟩))) (by rw [ifs_len (unhide H).len hk]; exact hlt)
      rw [ifs_len (unhide H).len hk, ifs_snoc (unhide HQ)] at F3
      go_roundw
      case rel => exact ⟨k + 1, by omega, by go_num, F3, hB.setCell (Nat.le_refl _) _, by simpa [World.setCell] using hlt0⟩
      case measure => simp [intOf]; omega
    · obtain rfl : k = n := by omega
      go_wp2
      go_ret
      refine ⟨rfl, ?_, hB⟩
      have := unhide HF
      rwa [List.take_of_length_le (by rw [(unhide H).len]; exact Nat.le_refl _)] at this

theorem assert31 (q : Nat) (w : World) : (Instr.typeAssert (.iface 31 (.pointer (some ⟨q, 0, none⟩))) 39 31 true).run Try.prog w = .ok (.tuple #[.pointer (some ⟨q, 0, none⟩), .bool true]) w := by kernel_rfl

/-- It returns a slice at the head of a block of its own that holds ps. -/
def RetRow (w : World) (n : Nat) (ps : List Value) (e : Ending) (w' : World) : Prop := ∃ g, e = .returned (.slice (some ⟨g, 0, none⟩) n n) ∧ w.heap.size ≤ g ∧ Fill w' g n ps

set_option maxRecDepth 100000 in
set_option maxHeartbeats 4000000 in
/-- ZZunwrapMulti. -/
theorem unwrap7_any (pm : Nat) (a : Option Addr) (n c : Nat) (ps : List Value) (w : World) (hpm : w.cell? ⟨pm, 0, none⟩ = some (.slice a n c)) (h : Row w a n ps) (hn : n ≤ 65536) :
    Calls Try.prog 7 #[.pointer (some ⟨pm, 0, none⟩)] w fun e w' => RetRow w n ps e w' ∧ Below w.heap.size w w' := by
  have H := hide h
  clear h
  have hm := run_make_row' (P := Try.prog) 25 31 (.pointer none) 8 Try.underlying25 info31 rfl .i64 .i64 n (by omega) (by omega)
  go_enter Try.func7, Try.ntmps7
  go_wp2_with fail
  refine (unwrap9_any pm a n c ps _ hpm (unhide H) hn).mono ?_
  rintro e w1 ⟨rfl, hF1, hB1⟩
  have HF1 := hide hF1
  clear hF1
  go_wp2
  go_loopw [15] (fun i wr => ∃ (k : Nat), k ≤ n ∧ i = .int .i64 k ∧ Fill wr w1.heap.size n (ps.take k) ∧ Below w1.heap.size w1 wr ∧ w1.heap.size < wr.heap.size) (fun i _ => n - (intOf i).toNat)
  case atStart => exact ⟨0, Nat.zero_le _, rfl, Fill.new _ _ _ _ (size_madeCells _ _), (Below.refl _ _).alloc (Nat.le_refl _) _, by simp⟩
  case round =>
    obtain ⟨k, hk, rfl, hF, hB, hlt0⟩ := hrel
    have HF := hide hF
    clear hF
    by_cases hlt : k < n
    · have hkp : k < ps.length := by rw [(unhide H).len]; exact hlt
      obtain ⟨q, hq⟩ : ∃ q, ps[k]? = some (.pointer (some ⟨q, 0, none⟩)) := by
        obtain ⟨q, hq⟩ := (unhide H).isPtr ps[k] (List.getElem_mem hkp)
        exact ⟨q, by rw [List.getElem?_eq_getElem hkp, hq]⟩
      have hc : wr.cell? ⟨w.heap.size, k, none⟩ = some (.iface 31 (.pointer (some ⟨q, 0, none⟩))) := by
        refine cell_below hB ?_
        rw [(unhide HF1).held k (by simpa [ifs] using hkp)]
        simp [ifs, hq]
      have HQ := hide hq
      clear hq
      obtain ⟨x, hx⟩ := (unhide HF).cell k hlt
      have hfr := (unhide HF).free k hlt
      have hta := assert31 q
      go_wp2
      have F3 := (unhide HF).store (v := .pointer (some ⟨q, 0, none⟩)) (by rw [List.length_take]; omega)
      rw [show (ps.take k).length = k by rw [List.length_take]; omega, take_snoc (unhide HQ)] at F3
      go_roundw
      case rel => exact ⟨k + 1, by omega, by go_num, F3, hB.setCell (Nat.le_refl _) _, by simpa [World.setCell] using hlt0⟩
      case measure => simp [intOf]; omega
    · obtain rfl : k = n := by omega
      go_wp2
      go_ret
      refine ⟨⟨w1.heap.size, rfl, hB1.size, ?_⟩, below_trans hB1 hB⟩
      have := unhide HF
      rwa [List.take_of_length_le (by rw [(unhide H).len]; exact Nat.le_refl _)] at this
end Go.Proofs.Qxb6615096a
