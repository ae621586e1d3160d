/-
  Rows of accesses and of refs as they are made.
-/
import Derived.Test.Qxb6614980aGraph
import Derived.Handy
import Derived.BigRegion
import Derived.Deep.DeepCutAuto
namespace Go.Proofs.Qxb6614980a
open Go.ChangeShapes Go.WideShapes Go.ChangeAt Go.RowKit

theorem info58 : (Try.prog.info? 58).map (fun i => (i.zero, i.size, i.bytes)) = some (some (.agg #[.int .i64 0, .bool false, .int .i64 0]), 3, 24) := by kernel_rfl
theorem info61 : (Try.prog.info? 61).map (fun i => (i.zero, i.size, i.bytes)) = some (some (.agg #[.int .i64 0, .int .i64 0]), 2, 16) := by kernel_rfl
theorem info56 : (Try.prog.info? 56).map (fun i => (i.zero, i.size, i.bytes)) = some (some (.slice none 0 0), 1, 24) := by kernel_rfl
theorem info59 : (Try.prog.info? 59).map (fun i => (i.zero, i.size, i.bytes)) = some (some (.slice none 0 0), 1, 24) := by kernel_rfl
theorem info22 : (Try.prog.info? 22).map (fun i => (i.zero, i.size, i.bytes)) = some (some (.slice none 0 0), 1, 24) := by kernel_rfl

theorem run_make_k (t e : TypeId) (z : Value) (k bytes : Nat) (ht : Try.prog.underlying t = some (.slice e)) (hinfo : (Try.prog.info? e).map (fun i => (i.zero, i.size, i.bytes)) = some (some z, k, bytes)) (n : Nat) (hbytes : bytes * n ≤ 281474976710656) (h63 : n ≤ 9223372036854775807) (w : World) :
    (Instr.makeSlice t (.int .i64 (n : Int)) (.int .i64 (n : Int))).run Try.prog w = .ok (.slice (some ⟨w.heap.size, 0, none⟩) n n) (w.alloc (.cells (madeCells z.cells (n * k)) e)) := by
  obtain ⟨i, hi, hzz⟩ := Option.map_eq_some_iff.1 hinfo
  simp only [Prod.mk.injEq] at hzz
  obtain ⟨hz, hs, hb⟩ := hzz
  have hb' : (i.bytes : Int) * (n : Int) ≤ 281474976710656 := by
    have h : ((i.bytes * n : Nat) : Int) ≤ 281474976710656 := by rw [hb]; omega
    rwa [Int.natCast_mul] at h
  have hr := run_make (P := Try.prog) w t e i z ht hi hz .i64 .i64 n n (by omega) (Int.le_refl _) hb' (by omega)
  simp only [Int.toNat_natCast, hs] at hr
  exact hr
theorem made_len (z : Array Value) (n : Nat) : (madeCells z n).toList.length = n := by simp [madeCells]

theorem RdAcc.chg {S : Nat → Prop} {w w' : World} {rb : Nat} {row : List (Nat × Bool × Nat)} (h : RdAcc w (some ⟨rb, 0, none⟩) row) (hc : Chg S w w') (hn : ¬ S rb) : RdAcc w' (some ⟨rb, 0, none⟩) row := fun j hj => by
  obtain ⟨b, off, e, h1, h2, h3⟩ := h j hj
  cases e
  have hl : rb < w.heap.size := cell_lt h1
  exact ⟨rb, 0, rfl, by rw [hc.cell hl hn]; exact h1, by rw [hc.cell hl hn]; exact h2, by rw [hc.cell hl hn]; exact h3⟩
theorem RdRef.chg {S : Nat → Prop} {w w' : World} {rb : Nat} {row : List (Nat × Nat)} (h : RdRef w (some ⟨rb, 0, none⟩) row) (hc : Chg S w w') (hn : ¬ S rb) : RdRef w' (some ⟨rb, 0, none⟩) row := fun j hj => by
  obtain ⟨b, off, e, h1, h2⟩ := h j hj
  cases e
  have hl : rb < w.heap.size := cell_lt h1
  exact ⟨rb, 0, rfl, by rw [hc.cell hl hn]; exact h1, by rw [hc.cell hl hn]; exact h2⟩

end Go.Proofs.Qxb6614980a
