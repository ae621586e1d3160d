/-
  'numbers' walked.
-/
import Derived.Test.Qxb6614980aGraph
import Derived.Handy
namespace Go.Proofs.Qxb6614980a
open Go.ChangeShapes Go.WideShapes Go.ChangeAt Go.RowKit

set_option maxRecDepth 100000 in
set_option maxHeartbeats 4000000 in
theorem numbers18_any (pg : Nat) (txns : List Int) (at1 : Option Addr) (ct1 : Nat) (vs : List Nat) (a : Option Addr) (c : Nat) (w : World) (hg : w.cell? ⟨pg, 1, none⟩ = some (.slice at1 txns.length ct1)) (hT : Rd w at1 (ints txns)) (hV : Rd w a (ints (nats vs))) (hv : ∀ v ∈ vs, v < txns.length) (hn : vs.length ≤ 1048576) :
    Calls Try.prog 18 #[.pointer (some ⟨pg, 0, none⟩), .slice a vs.length c] w fun e w' => (∃ g c, e = .returned (.slice (some ⟨g, 0, none⟩) vs.length c) ∧ w.heap.size ≤ g ∧ Rd w' (some ⟨g, 0, none⟩) (ints (vs.map fun v => txns.getD v 0))) ∧ Below w.heap.size w w' := by
  have HT := hide hT
  have HV := hide hV
  have HB := hide hv
  have hpl := cell_lt hg
  clear hT hV hv
  have hm := run_make_row' (P := Try.prog) 22 3 (.int .i64 0) 8 Try.underlying22 info3 rfl .i64 .i64 vs.length (by omega) (by omega)
  go_enter Try.func18, Try.ntmps18
  go_wp2_with fail
  go_loopw [13] (fun i wr => ∃ (k : Nat) (ys : List Int), k ≤ vs.length ∧ i = .int .i64 k ∧ ys.length = vs.length ∧ ys.take k = (vs.map fun v => txns.getD v 0).take k ∧ IBlk wr w.heap.size ys ∧ Below w.heap.size w wr) (fun i _ => vs.length - (intOf i).toNat)
  case atStart => exact ⟨0, List.replicate vs.length 0, Nat.zero_le _, rfl, by simp, by simp, IBlk.new _ _, below_new _ _⟩
  case round =>
    obtain ⟨k, ys, hk, rfl, hl, htk, hI, hbel⟩ := hrel
    have HI := hide hI
    have HTK := hide htk
    have HL := hide hl
    clear hI htk hl
    by_cases hlt : k < vs.length
    · obtain ⟨x, hx⟩ : ∃ x, x = vs.getD k 0 := ⟨_, rfl⟩
      have hxl : x < txns.length := by
        have : vs.getD k 0 = vs[k] := by simp [List.getD, hlt]
        rw [hx, this]
        exact unhide HB _ (List.getElem_mem _)
      obtain ⟨b, off, e, hc⟩ := ((unhide HV).old hbel).int (show k < (nats vs).length by rw [nats_len]; exact hlt)
      subst e
      rw [nats_at vs k hlt, ← hx] at hc
      obtain ⟨b2, off2, e2, hc2⟩ := ((unhide HT).old hbel).int hxl
      subst e2
      have hg2 := cell_old hbel hg
      have hcI := (unhide HI).cell (j := k) (by rw [unhide HL]; exact hlt)
      have hfI := Blk.free (unhide HI) k
      generalize ys.getD k 0 = yk at hcI
      obtain ⟨t, ht⟩ : ∃ t, t = txns.getD x 0 := ⟨_, rfl⟩
      rw [← ht] at hc2
      have HX := hide hx
      have HTT := hide ht
      clear hx ht
      go_wp2_with fail
      refine ⟨⟨k + 1, ys.set k t, by omega, by rw [Int.natCast_add]; rfl, by rw [List.length_set]; exact unhide HL, ?_, (unhide HI).set k t, hbel.trans ((Chg.setCell (S := fun g => g = w.heap.size) wr ⟨w.heap.size, k, none⟩ _ rfl).below hbel.size (fun g e => by omega))⟩, by simp [intOf]; omega⟩
      have hyl : k < ys.length := by rw [unhide HL]; exact hlt
      have h1 : (ys.set k t).take (k + 1) = ys.take k ++ [t] := by
        rw [List.take_succ_eq_append_getElem (by rw [List.length_set]; exact hyl), List.take_set_of_le (Nat.le_refl _)]
        simp
      have h2 : (vs.map fun v => txns.getD v 0).take (k + 1) = (vs.map fun v => txns.getD v 0).take k ++ [t] := by
        rw [List.take_succ_eq_append_getElem (by rw [List.length_map]; exact hlt), List.getElem_map]
        congr 2
        rw [unhide HTT, unhide HX]
        simp [List.getD, hlt]
      rw [h1, h2, unhide HTK]
    · obtain rfl : k = vs.length := by omega
      go_wp2_with fail
      go_returns
      have hys : ys = vs.map fun v => txns.getD v 0 := by
        have := unhide HTK
        rw [← unhide HL, List.take_length] at this
        rw [this, unhide HL, List.take_of_length_le (by simp)]
      refine ⟨⟨w.heap.size, vs.length, rfl, Nat.le_refl _, ?_⟩, hbel⟩
      rw [← hys]
      exact IBlk.rd (unhide HI)
end Go.Proofs.Qxb6614980a
