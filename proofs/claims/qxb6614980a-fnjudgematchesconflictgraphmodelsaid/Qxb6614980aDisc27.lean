/-
  The closure 'discover' of 'lowestOnCycle'.
-/
import Derived.Test.Qxb6614980aTarS
namespace Go.Proofs.Qxb6614980a
open Go.ChangeShapes Go.WideShapes Go.ChangeAt Go.RowKit

set_option maxRecDepth 100000 in
set_option maxHeartbeats 4000000 in
theorem disc27_any (w0 w : World) (n v : Nat) (es : List (Nat × Nat)) (a1 a2 : Option Addr) (c1 c2 : Nat) (ix lo : List Nat) (on : List Bool) (vs vf : Value) (st : List Nat) (fr : List (Nat × Nat)) (fd : Nat)
    (h : T20 w0 w n [.slice a1 (n + 1) c1, .slice a2 es.length c2] ix lo on vs vf st fr fd) (hS : Rd w0 a1 (ints (arr3 n es 0))) (hv : v < n) (hst : st.length ≤ 1048576) (hfr : fr.length ≤ 1048576) (hfd : fd ≤ 1048576) :
    Calls Try.prog 27 #[.int .i64 (v : Int), .pointer (some ⟨w0.heap.size + 9, 0, none⟩), .pointer (some ⟨w0.heap.size + 2, 0, none⟩), .pointer (some ⟨w0.heap.size + 4, 0, none⟩), .pointer (some ⟨w0.heap.size + 7, 0, none⟩), .pointer (some ⟨w0.heap.size + 6, 0, none⟩), .pointer (some ⟨w0.heap.size + 8, 0, none⟩), .pointer (some ⟨w0.heap.size, 0, none⟩)] w fun e w' =>
      e = .returned (.tuple #[]) ∧ ∃ vs' vf', T20 w0 w' n [.slice a1 (n + 1) c1, .slice a2 es.length c2] (ix.set v (fd + 1)) (lo.set v (fd + 1)) (on.set v true) vs' vf' (st ++ [v]) (fr ++ [(v, off es v)]) (fd + 1) := by
  have H := hide h
  have HS := hide hS
  obtain ⟨sa, sc, hvs⟩ := h.so.form
  obtain ⟨fa, fc, hvf⟩ := h.fo.form
  rw [nats_len] at hvs
  subst hvs hvf
  have c9 : w.cell? ⟨w0.heap.size + 9, 0, none⟩ = some (.int .i64 (fd : Int)) := h.pn.cell (j := 0) (by simp)
  have f9 := Blk.free h.pn 0
  obtain ⟨fd1, hfd1⟩ : ∃ q, q = fd + 1 := ⟨_, rfl⟩
  rw [← hfd1]
  have hfb : fd1 ≤ 1048577 := by omega
  have e1 : Hid ((fd : Int) + 1 = (fd1 : Int)) := by rw [hfd1]; show (fd : Int) + 1 = _; omega
  clear h hS hfd1
  go_enter Try.func27, Try.ntmps27
  go_wp2_with fail
  have H1 := hide ((unhide H).setD fd1)
  rw [unhide e1]
  generalize w.setCell ⟨w0.heap.size + 9, 0, none⟩ (.int .i64 (fd1 : Int)) = w1 at H1 ⊢
  have c9 : w1.cell? ⟨w0.heap.size + 9, 0, none⟩ = some (.int .i64 (fd1 : Int)) := (unhide H1).pn.cell (j := 0) (by simp)
  have c2' : w1.cell? ⟨w0.heap.size + 2, 0, none⟩ = some (.slice (some ⟨w0.heap.size + 1, 0, none⟩) n n) := one_cell (unhide H1).pi
  have c4 : w1.cell? ⟨w0.heap.size + 4, 0, none⟩ = some (.slice (some ⟨w0.heap.size + 3, 0, none⟩) n n) := one_cell (unhide H1).pl
  have ci := (unhide H1).ai.cell (j := v) (by rw [nats_len, (unhide H1).il]; exact hv)
  have cl := (unhide H1).al.cell (j := v) (by rw [nats_len, (unhide H1).ll]; exact hv)
  have fi := Blk.free (unhide H1).ai v
  have fl := Blk.free (unhide H1).al v
  generalize (nats ix).getD v 0 = xi at ci
  generalize (nats lo).getD v 0 = xl at cl
  go_wp2_with fail
  go_region
  have H2 : Hid (T20 w0 (((w1.setCell ⟨w0.heap.size + 1, v, none⟩ (.int .i64 (fd1 : Int))).setCell ⟨w0.heap.size + 3, v, none⟩ (.int .i64 (fd1 : Int))).drew) n [.slice a1 (n + 1) c1, .slice a2 es.length c2] (ix.set v fd1) (lo.set v fd1) on (.slice sa st.length sc) (.slice fa fr.length fc) st fr fd1) := (((unhide H1).setI v fd1).setL v fd1).draws 1
  clear c9 c2' c4 ci cl fi fl
  generalize ((w1.setCell ⟨w0.heap.size + 1, v, none⟩ (.int .i64 (fd1 : Int))).setCell ⟨w0.heap.size + 3, v, none⟩ (.int .i64 (fd1 : Int))).drew = w2 at H2 ⊢
  have c7 := one_cell (unhide H2).ps
  have f7 := Blk.free (unhide H2).ps 0
  have hsz2 := (unhide H2).size
  go_upto_region 3 with (at_builtin; refine wpList_push 22 Try.underlying22 rfl (.tmp 19) (.tmp 21) rfl (w0.heap.size + 10) (.slice sa st.length sc) (nats st) rfl (unhide H2).so v w2.heap.size rfl rfl (by rw [nats_len]; omega) hsz2 ?_; rw [nats_len]; intro g cap w3 ho3 hc3 hat3; have b7 := (unhide H2).ps.chg hc3 (fun e => (unhide H2).so.ne (unhide H2).ps (by decide) e); have c73 := one_cell b7; have f73 := Blk.free b7 0; have HO3 := hide ho3; have HB7 := hide b7; clear ho3 b7)
  have H3 : Hid (T20 w0 (w3.setCell ⟨w0.heap.size + 7, 0, none⟩ (.slice (some ⟨g, 0, none⟩) (st.length + 1) cap)) n [.slice a1 (n + 1) c1, .slice a2 es.length c2] (ix.set v fd1) (lo.set v fd1) on (.slice (some ⟨g, 0, none⟩) (st.length + 1) cap) (.slice fa fr.length fc) (st ++ [v]) fr fd1) := (unhide H2).newS hc3 (by rw [nats_app]; exact unhide HO3)
  clear HO3 HB7 hc3 hat3 c73 f73 c7 f7
  generalize w3.setCell ⟨w0.heap.size + 7, 0, none⟩ (.slice (some ⟨g, 0, none⟩) (st.length + 1) cap) = w4 at H3 ⊢
  have c6 := one_cell (unhide H3).po
  have co : ∃ b, w4.cell? ⟨w0.heap.size + 5, v, none⟩ = some (.bool b) := by rw [(unhide H3).ao.cell, bools_at _ _ (by rw [(unhide H3).ol]; exact hv)]; exact ⟨_, rfl⟩
  obtain ⟨bo, co⟩ := co
  have fo := Blk.free (unhide H3).ao v
  go_upto_region 4 with fail
  have H4 := hide ((unhide H3).setO v true)
  clear c6 co fo
  generalize w4.setCell ⟨w0.heap.size + 5, v, none⟩ (.bool true) = w5 at H4 ⊢
  have c8 := one_cell (unhide H4).pf
  have f8 := Blk.free (unhide H4).pf 0
  have c0 : w5.cell? ⟨w0.heap.size, 0, none⟩ = some (.slice a1 (n + 1) c1) := (unhide H4).adj.cell 0
  obtain ⟨bs, os, es1, hcs1⟩ := ((unhide HS).old (unhide H4).bel).int (show v < (arr3 n es 0).length by rw [arr3_len]; omega)
  rw [arr3_at0 _ _ _ (by omega)] at hcs1
  subst es1
  have hbs := cell_lt hcs1
  have hsz5 := (unhide H4).size
  obtain ⟨oo, hoo⟩ : ∃ q, q = off es v := ⟨_, rfl⟩
  rw [← hoo] at hcs1
  have HOO := hide hoo
  clear hoo
  have hv1 : (v : Int) < (n : Int) + 1 := by omega
  have k8 : w0.heap.size + 8 < w5.heap.size := by omega
  have k0 : w0.heap.size < w5.heap.size := by omega
  go_region_law (refine step_pushF rfl (.tmp 26) (.tmp 34) rfl (w0.heap.size + 10) (.slice fa fr.length fc) fr (by simp [Act.eval]) (unhide H4).fo v oo _ rfl (by simp [Act.eval]) (by omega) hsz5 ?_; intro g5 cap5 w6 ho6 hc6 hat6; have b8 := (unhide H4).pf.chg hc6 (fun e => by have := ((unhide H4).fo.lt e).1; omega); have c86 := one_cell b8; have f86 := Blk.free b8 0; have HO6 := hide ho6; clear ho6 b8)
  all_goals go_wp2_with fail
  all_goals go_returns
  all_goals (rw [← unhide HOO])
  all_goals exact ⟨rfl, _, _, (unhide H4).newF hc6 (unhide HO6)⟩
end Go.Proofs.Qxb6614980a
