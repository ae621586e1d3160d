/-
  Rows that the call itself fills; 'errors.New', 'ZZnewBindError', 'zzBuild'.
-/
import Derived.Test.Qxb6615096aBounds
import Derived.Deep.OwnRows
namespace Go.Proofs.Qxb6615096a
open Go.ChangeShapes Go.WideShapes Go.ChangeAt Go.RowKit

theorem info31 : (Try.prog.info? 31).map (fun i => (i.zero, i.size, i.bytes)) = some (some (.pointer none), 1, 8) := by kernel_rfl
theorem info39 : (Try.prog.info? 39).map (fun i => (i.zero, i.size, i.bytes)) = some (some .nilIface, 1, 16) := by kernel_rfl

/-- Block g is a row of n cells that may be written; its first cells are vs. -/
structure Fill (w : World) (g n : Nat) (vs : List Value) : Prop where
  len : vs.length ≤ n
  cell : ∀ j, j < n → ∃ x, w.cell? ⟨g, j, none⟩ = some x
  free : ∀ j, j < n → w.frozen? ⟨g, j, none⟩ = false
  held : ∀ j, j < vs.length → w.cell? ⟨g, j, none⟩ = vs[j]?

theorem heap_new (w : World) (o : Obj) : (w.alloc o).heap[w.heap.size]? = some o := by
  show (w.heap.push o)[w.heap.size]? = _
  rw [Array.getElem?_push, if_pos rfl]

theorem Fill.new (w : World) (C : Array Value) (n : Nat) (e : TypeId) (h : C.size = n) : Fill (w.alloc (.cells C e)) w.heap.size n [] := by
  refine ⟨Nat.zero_le _, fun j hj => ⟨C[j]'(by omega), ?_⟩, fun j hj => ?_, fun j hj => absurd hj (Nat.not_lt_zero _)⟩
  · simp only [World.cell?, heap_new]
    simp [h, hj]
  · simp only [World.frozen?, heap_new]
    simp

theorem Fill.lt {w : World} {g n : Nat} {vs : List Value} (h : Fill w g n vs) (hn : 0 < n) : g < w.heap.size := by
  obtain ⟨x, hx⟩ := h.cell 0 hn
  apply Decidable.byContradiction
  intro hc
  have : w.heap[g]? = none := Array.getElem?_eq_none (Nat.le_of_not_lt hc)
  simp [World.cell?, this] at hx

theorem Fill.below {w w' : World} {g n : Nat} {vs : List Value} {B : Nat} (h : Fill w g n vs) (hb : Below B w w') (hg : g < B) : Fill w' g n vs :=
  ⟨h.len, fun j hj => by rw [hb.cell (show (⟨g, j, none⟩ : Addr).block < B from hg)]; exact h.cell j hj,
    fun j hj => by rw [hb.frozen (show (⟨g, j, none⟩ : Addr).block < B from hg)]; exact h.free j hj,
    fun j hj => by rw [hb.cell (show (⟨g, j, none⟩ : Addr).block < B from hg)]; exact h.held j hj⟩

theorem Fill.store {w : World} {g n : Nat} {vs : List Value} (h : Fill w g n vs) (hk : vs.length < n) (v : Value) : Fill (w.setCell ⟨g, vs.length, none⟩ v) g n (vs ++ [v]) := by
  obtain ⟨x, hx⟩ := h.cell _ hk
  refine ⟨by simp; omega, fun j hj => ?_, fun j hj => ?_, fun j hj => ?_⟩
  · by_cases e : j = vs.length
    · subst e
      exact ⟨v, World.cell?_setCell_same _ _ _ hx⟩
    · rw [World.cell?_setCell_other _ _ _ _ (by intro q; injection q with q1 q2 q3; exact e q2.symm)]
      exact h.cell j hj
  · simp only [World.frozen?_setCell]
    exact h.free j hj
  · by_cases e : j = vs.length
    · subst e
      rw [World.cell?_setCell_same _ _ _ hx]
      simp
    · have hj' : j < vs.length := by simp at hj; omega
      rw [World.cell?_setCell_other _ _ _ _ (by intro q; injection q with q1 q2 q3; exact e q2.symm), h.held j hj', List.getElem?_append_left hj']

/-- A pointer to something, and it is returned. -/
def IsPtr (v : Value) : Prop := ∃ b, v = .pointer (some ⟨b, 0, none⟩)
def RetPtr (e : Ending) : Prop := ∃ b, e = .returned (.pointer (some ⟨b, 0, none⟩))
theorem retPtr (b : Nat) : RetPtr (.returned (.pointer (some ⟨b, 0, none⟩))) := ⟨b, rfl⟩

/-- ZZnewBindError (and errors.New in it). -/
theorem new8_any (s0 s1 s2 s3 s4 s5 : ByteArray) (w : World) :
    Calls Try.prog 8 #[.string s0, .string s1, .string s2, .string s3, .string s4, .string s5] w fun e w' => RetPtr e ∧ Below w.heap.size w w' := by
  go_enter Try.func8, Try.ntmps8
  go_wp2
  go_ret
  exact ⟨retPtr _, ((Below.refl _ _).alloc (Nat.le_refl _) _).alloc (by simp) _⟩

/-- It returns a slice at the head of block g, n elements. -/
def RetSl (g n : Nat) (e : Ending) : Prop := e = .returned (.slice (some ⟨g, 0, none⟩) n n)

set_option maxRecDepth 100000 in
set_option maxHeartbeats 4000000 in
/-- zzBuild. -/
theorem build6_any (a : Option Addr) (n c : Nat) (w : World) (h : Binds w a n) (hn : n ≤ 65536) :
    Calls Try.prog 6 #[.slice a n c] w fun e w' => RetSl w.heap.size n e ∧ (∃ vs, vs.length = n ∧ (∀ v ∈ vs, IsPtr v) ∧ Fill w' w.heap.size n vs) ∧ Below w.heap.size w w' := by
  have H := hide h
  clear h
  have hm := run_make_row' (P := Try.prog) 25 31 (.pointer none) 8 Try.underlying25 info31 rfl .i64 .i64 n (by omega) (by omega)
  go_enter Try.func6, Try.ntmps6
  go_wp2
  go_loopw [11] (fun i wr => ∃ (k : Nat) (vs : List Value), k ≤ n ∧ i = .int .i64 k ∧ vs.length = k ∧ (∀ v ∈ vs, IsPtr v) ∧ Fill wr w.heap.size n vs ∧ Below w.heap.size w wr ∧ w.heap.size < wr.heap.size) (fun i _ => n - (intOf i).toNat)
  case atStart => exact ⟨0, [], Nat.zero_le _, rfl, rfl, (fun v hv => by cases hv), Fill.new _ _ _ _ (size_madeCells _ _), (Below.refl _ _).alloc (Nat.le_refl _) _, by simp⟩
  case round =>
    obtain ⟨k, vs, hk, rfl, hl, hp, hF, hB, hlt0⟩ := hrel
    have HL := hide hl
    have HP := hide hp
    have HF := hide hF
    clear hl hp hF
    by_cases hlt : k < n
    · obtain ⟨b, off, s, rfl, ⟨g0, g1, g2, g3, g4, g5⟩⟩ := (unhide H).below hB k hlt
      go_wp2_with fail
      refine (new8_any _ _ _ _ _ _ _).mono ?_
      rintro e w2 ⟨⟨pb, rfl⟩, b2⟩
      have b3 : Below wr.heap.size wr w2 := below_trans ((Below.refl _ _).alloc (Nat.le_refl _) _) b2
      have F2 := hide ((unhide HF).below b3 hlt0)
      have B2 : Below w.heap.size w w2 := below_trans hB b3
      have hz2 : w.heap.size < w2.heap.size := Nat.lt_of_lt_of_le hlt0 b3.size
      obtain ⟨x, hx⟩ := (unhide F2).cell k hlt
      have hfr := (unhide F2).free k hlt
      clear b2 b3 g0 g1 g2 g3 g4 g5 hB hlt0
      go_wp2
      have F3 := (unhide F2).store (by rw [unhide HL]; exact hlt) (.pointer (some ⟨pb, 0, none⟩))
      rw [unhide HL] at F3
      go_roundw
      case rel =>
        refine ⟨k + 1, vs ++ [.pointer (some ⟨pb, 0, none⟩)], by omega, by go_num, by simp [unhide HL], ?_, F3, B2.setCell (Nat.le_refl _) _, by simpa [World.setCell] using hz2⟩
        intro v hv
        simp only [List.mem_append, List.mem_singleton] at hv
        rcases hv with hv | rfl
        · exact unhide HP v hv
        · exact ⟨pb, rfl⟩
      case measure => simp [intOf]; omega
    · obtain rfl : k = n := by omega
      go_wp2
      go_ret
      exact ⟨rfl, ⟨vs, unhide HL, unhide HP, unhide HF⟩, hB⟩
end Go.Proofs.Qxb6615096a
