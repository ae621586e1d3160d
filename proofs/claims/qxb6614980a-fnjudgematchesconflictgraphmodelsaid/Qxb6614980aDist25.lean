/-
  'distancesTo' walked.
-/
import Derived.Test.Qxb6614980aBfsS
import Derived.Deep.DeepCutAuto
namespace Go.Proofs.Qxb6614980a
open Go.ChangeShapes Go.WideShapes Go.ChangeAt Go.RowKit

def fillN (n k : Nat) : List Int := (List.range n).map fun v => if v < k then (-1 : Int) else 0
theorem fillN_len (n k : Nat) : (fillN n k).length = n := by simp [fillN]
theorem fillN_zero (n : Nat) : fillN n 0 = List.replicate n 0 := by
  apply List.ext_getElem
  · simp [fillN]
  · intro i h1 h2
    simp [fillN]
theorem fillN_all (n : Nat) : fillN n n = List.replicate n (-1) := by
  apply List.ext_getElem
  · simp [fillN]
  · intro i h1 h2
    simp [fillN] at h1 ⊢
    omega
theorem fillN_succ (n k : Nat) (hk : k < n) : (fillN n k).set k (-1) = fillN n (k + 1) := by
  unfold fillN
  have := mapRange_set (fun v => if v < k then (-1 : Int) else 0) (fun v => if v < k + 1 then (-1 : Int) else 0) n k hk (fun x hx => by
    by_cases h : x < k
    · rw [if_pos h, if_pos (by omega)]
    · rw [if_neg h, if_neg (by omega)])
  rw [if_pos (by omega)] at this
  exact this

/-- How many distances are found, and how long the queue is, as they stand in memory. -/
def visW (w : World) (gd n : Nat) : Nat := ((List.range n).filter fun t => match w.cell? ⟨gd, t, none⟩ with | some (.int _ x) => decide (0 ≤ x) | _ => false).length
def lenAt (w : World) (b : Nat) : Nat := match w.cell? ⟨b, 0, none⟩ with | some (.slice _ n _) => n | _ => 0

theorem len_eq {w0 w : World} {n gd bd gb gw bq : Nat} {vq : Value} {D Bs Ws Qu : List Int} (h : BS w0 w n gd bd gb gw bq vq D Bs Ws Qu) : lenAt w bq = Qu.length := by
  obtain ⟨g, o, cap, cs, hv, _⟩ := h.q
  have := one_cell h.qv
  rw [hv] at this
  simp [lenAt, this]
theorem bq_len {n s : Nat} {items : Rows3} {D : List Int} {P Q : List Nat} (h : Bq n s items D P Q) : P.length + Q.length ≤ n := by
  have := below_len h.nd (fun x hx => h.lt x (List.mem_append.1 hx))
  rwa [List.length_append] at this
theorem vis_eq {w0 w : World} {n gd bd gb gw bq s : Nat} {vq : Value} {D Bs Ws Qu : List Int} {items : Rows3} {P Q : List Nat} (h : BS w0 w n gd bd gb gw bq vq D Bs Ws Qu) (hb : Bq n s items D P Q) : visW w gd n = P.length + Q.length := by
  have e1 : ((List.range n).filter fun t => match w.cell? ⟨gd, t, none⟩ with | some (.int _ x) => decide (0 ≤ x) | _ => false) = (List.range n).filter fun t => decide (0 ≤ D.getD t 0) := by
    apply List.filter_congr
    intro t ht
    rw [h.d.cell (by rw [hb.len]; exact List.mem_range.1 ht)]
  unfold visW
  rw [e1, ← List.length_append]
  have hn1 : ((List.range n).filter fun t => decide (0 ≤ D.getD t 0)).Nodup := List.Nodup.sublist List.filter_sublist List.nodup_range
  apply Nat.le_antisymm
  · apply hn1.length_le_of_subset
    intro x hx
    rw [List.mem_filter, List.mem_range] at hx
    have h0 : 0 ≤ D.getD x 0 := by simpa using hx.2
    rcases hb.vis x hx.1 with ⟨_, q⟩ | ⟨q, _⟩
    · exact List.mem_append.2 q
    · omega
  · apply hb.nd.length_le_of_subset
    intro x hx
    have hx' := List.mem_append.1 hx
    have hl := hb.lt x hx'
    rw [List.mem_filter, List.mem_range]
    refine ⟨hl, ?_⟩
    rcases hb.vis x hl with ⟨q, _⟩ | ⟨_, q1, q2⟩
    · simpa using q
    · rcases hx' with q | q
      · exact absurd q q1
      · exact absurd q q2
theorem map_ints_at (writes : List (List Int)) (j : Nat) : (writes.map ints).getD j [] = ints (writes.getD j []) := by
  simp only [List.getD, List.getElem?_map]
  cases writes[j]? <;> rfl
theorem new_2 (w : World) (o : Obj) (t : TypeId) (cs : List Value) : Blk ((w.alloc o).alloc (.cells cs.toArray t)) (w.heap.size + 1) t cs := by
  have := Blk.new (w.alloc o) t cs
  rwa [World.size_alloc] at this
theorem new_sz (w : World) (a : Addr) (x : Value) (t : TypeId) (cs : List Value) : Blk ((w.setCell a x).alloc (.cells cs.toArray t)) w.heap.size t cs := by
  have hsz : (w.setCell a x).heap.size = w.heap.size := by simp [World.setCell]
  rw [← hsz]
  exact Blk.new _ t cs
theorem bs_start {w0 w1 : World} {n s m : Nat} {L : List Int} (hB : Blk w1 (w0.heap.size + 1) 22 [.slice (some ⟨w0.heap.size, 0, none⟩) n n]) (hI : IBlk w1 w0.heap.size L) (hbel : Below w0.heap.size w0 w1) (hsz : w1.heap.size = w0.heap.size + 1 + 1) :
    BS w0 (((((w1.setCell ⟨w0.heap.size, s, none⟩ (.int .i64 0)).alloc (.cells (madeCells #[.int .i64 0] m) 3)).alloc (.cells (madeCells #[.int .i64 0] m) 3)).alloc (.cells #[.int .i64 s] 3)).alloc (.cells #[.slice (some ⟨w1.heap.size + 1 + 1, 0, none⟩) 1 1] 22)) n w0.heap.size (w0.heap.size + 1) w1.heap.size (w1.heap.size + 1) (w1.heap.size + 1 + 1 + 1) (.slice (some ⟨w1.heap.size + 1 + 1, 0, none⟩) 1 1) (L.set s 0) (List.replicate m 0) (List.replicate m 0) [(s : Int)] := by
  obtain ⟨w2, hw2⟩ : ∃ w2, w2 = w1.setCell ⟨w0.heap.size, s, none⟩ (.int .i64 0) := ⟨_, rfl⟩
  have hs2 : w2.heap.size = w1.heap.size := by rw [hw2]; simp [World.setCell]
  have hb2 : Blk w2 (w0.heap.size + 1) 22 [.slice (some ⟨w0.heap.size, 0, none⟩) n n] := by
    rw [hw2]; exact Blk.other hB (by show w0.heap.size + 1 ≠ w0.heap.size; omega) _
  have hi2 : IBlk w2 w0.heap.size (L.set s 0) := by rw [hw2]; exact hI.set s 0
  have hbel2 : Below w0.heap.size w0 w2 := by
    rw [hw2]
    exact hbel.trans ((Chg.setCell (S := fun k => k = w0.heap.size) w1 ⟨w0.heap.size, s, none⟩ _ rfl).below hbel.size (fun k e => by omega))
  rw [← hw2, ← hs2]
  clear hw2
  have A := fun (o1 o2 o3 o4 : Obj) => (((Below.refl w2.heap.size w2).alloc (Nat.le_refl _) o1).alloc (by simp) o2)
  clear A
  have g1 := ((Blk.new' w2 3 (madeCells #[.int .i64 0] m)).alloc (.cells (madeCells #[.int .i64 0] m) 3)).alloc (.cells #[.int .i64 s] 3) |>.alloc (.cells #[.slice (some ⟨w2.heap.size + 1 + 1, 0, none⟩) 1 1] 22)
  have g2 := ((Blk.new' (w2.alloc (.cells (madeCells #[.int .i64 0] m) 3)) 3 (madeCells #[.int .i64 0] m)).alloc (.cells #[.int .i64 s] 3)).alloc (.cells #[.slice (some ⟨w2.heap.size + 1 + 1, 0, none⟩) 1 1] 22)
  have g3 := (Blk.new ((w2.alloc (.cells (madeCells #[.int .i64 0] m) 3)).alloc (.cells (madeCells #[.int .i64 0] m) 3)) 3 [.int .i64 s]).alloc (.cells #[.slice (some ⟨w2.heap.size + 1 + 1, 0, none⟩) 1 1] 22)
  have g4 := Blk.new (((w2.alloc (.cells (madeCells #[.int .i64 0] m) 3)).alloc (.cells (madeCells #[.int .i64 0] m) 3)).alloc (.cells #[.int .i64 s] 3)) 22 [.slice (some ⟨w2.heap.size + 1 + 1, 0, none⟩) 1 1]
  simp only [World.size_alloc] at g1 g2 g3 g4
  rw [made_ints] at g1 g2
  have hle := hbel2.size
  refine ⟨(((hbel2.alloc hle _).alloc (by simp; omega) _).alloc (by simp; omega) _).alloc (by simp; omega) _, (((Blk.alloc hi2 _).alloc _).alloc _).alloc _, (((hb2.alloc _).alloc _).alloc _).alloc _, g1, g2, g4, ⟨w2.heap.size + 1 + 1, 0, 1, [.int .i64 s], rfl, by omega, g3, by simp, by simp, by simp [ints]⟩, by omega, by omega, by omega, ?_, ?_, ?_, by omega, by omega, by omega, by omega, by omega, by omega⟩
  all_goals (intro e; have e2 := Option.some.inj e; simp at e2; try omega)

set_option maxRecDepth 100000 in
set_option maxHeartbeats 4000000 in
theorem dist25_any (pg s : Nat) (lk : Value) (txns : List Int) (items : List (List (Nat × Bool × Nat))) (writes : List (List Int)) (ofs : List (List (Nat × Nat))) (w : World) (h : GMem w pg lk txns items writes ofs) (hok : GOk txns.length items writes ofs)
    (hs : s < txns.length) (hn : txns.length ≤ 4096) (hi : items.length ≤ 4096) (hr : ∀ j, (items.getD j []).length ≤ 4096) (hw : ∀ j, (writes.getD j []).length ≤ 4096) (ho : ∀ j, (ofs.getD j []).length ≤ 1048576) :
    Calls Try.prog 25 #[.pointer (some ⟨pg, 0, none⟩), .int .i64 s] w fun e w' => (∃ g D, e = .returned (.slice (some ⟨g, 0, none⟩) txns.length txns.length) ∧ Rd w' (some ⟨g, 0, none⟩) (ints D) ∧ Dist txns.length s items D) ∧ Below w.heap.size w w' := by
  obtain ⟨at1, ct1, hct, hRt⟩ := h.txns
  obtain ⟨ai, ci, hci, hRi⟩ := h.items
  obtain ⟨aw, cw, hcw, hRw⟩ := h.writes
  obtain ⟨ao, co, hco, hRo⟩ := h.ofs
  have hpl : pg < w.heap.size := cell_lt hci
  have RI := hide hRi
  have RW := hide hRw
  have RO := hide hRo
  have OK := hide hok
  have HR := hide hr
  have HW := hide hw
  have HO := hide ho
  have HCW := hide hcw
  have HCO := hide hco
  clear h hRt hRi hRw hRo hok hr hw ho hcw hco
  obtain ⟨n, hne⟩ : ∃ n, n = txns.length := ⟨_, rfl⟩
  rw [← hne] at hct hs hn OK ⊢
  clear hne
  have hm1 := run_make_row' (P := Try.prog) 22 3 (.int .i64 0) 8 Try.underlying22 info3 rfl .i64 .i64 n (by omega) (by omega)
  have hm2 := run_make_row' (P := Try.prog) 22 3 (.int .i64 0) 8 Try.underlying22 info3 rfl .i64 .i64 items.length (by omega) (by omega)
  go_enter Try.func25, Try.ntmps25
  go_wp2_with fail
  go_loopw [27] (fun i wr => ∃ k : Nat, k ≤ n ∧ i = .int .i64 k ∧ Blk wr (w.heap.size + 1) 22 [.slice (some ⟨w.heap.size, 0, none⟩) n n] ∧ IBlk wr w.heap.size (fillN n k) ∧ Below w.heap.size w wr ∧ wr.heap.size = w.heap.size + 1 + 1) (fun i _ => n - (intOf i).toNat)
  case atStart =>
    refine ⟨0, Nat.zero_le _, rfl, ?_, ?_, (below_new w _).alloc (by simp) _, by simp⟩
    · have := Blk.new (w.alloc (.cells (madeCells #[.int .i64 0] n) 3)) 22 [.slice (some ⟨w.heap.size, 0, none⟩) n n]
      rw [World.size_alloc] at this
      exact this
    · rw [fillN_zero]
      exact Blk.alloc (IBlk.new w n) _
  case round =>
    obtain ⟨k, hk, rfl, hB, hI, hbel, hsz⟩ := hrel
    have HB := hide hB
    have HI := hide hI
    have HSZ := hide hsz
    have hcB := one_cell hB
    clear hB hI hsz
    by_cases hlt : k < n
    · have hcI := (unhide HI).cell (j := k) (by rw [fillN_len]; exact hlt)
      have hfI := Blk.free (unhide HI) k
      generalize (fillN n k).getD k 0 = y at hcI
      go_wp2_with fail
      refine ⟨⟨k + 1, by omega, by rw [Int.natCast_add]; rfl, Blk.other (unhide HB) (by show w.heap.size + 1 ≠ w.heap.size; omega) _, ?_, hbel.trans ((Chg.setCell (S := fun k => k = w.heap.size) wr ⟨w.heap.size, k, none⟩ _ rfl).below hbel.size (fun k e => by omega)), by have := unhide HSZ; simpa using this⟩, by simp [intOf]; omega⟩
      have hs1 := (unhide HI).set k (-1)
      rw [fillN_succ n k hlt] at hs1
      exact hs1
    · obtain rfl : k = n := by omega
      have hcI := (unhide HI).cell (j := s) (by rw [fillN_len]; exact hs)
      have hfI := Blk.free (unhide HI) s
      generalize (fillN k k).getD s 0 = y at hcI
      have hci2 := cell_old hbel hci
      have hq1 : pg < wr.heap.size := cell_lt hci2
      have hq2 : pg < wr.heap.size + 1 := by omega
      have hne1 : pg ≠ w.heap.size := by omega
      obtain ⟨w1, hw1⟩ : ∃ x, x = wr := ⟨_, rfl⟩
      subst hw1
      go_wp2_with fail
      have hst := bs_start (s := s) (m := items.length) (unhide HB) (unhide HI) hbel (unhide HSZ)
      rw [fillN_all] at hst
      have ST := hide hst
      clear hst
      go_loopw [51] (fun _ wr => ∃ (vq : Value) (D Bs Ws : List Int) (P Q : List Nat), Bq k s items D P Q ∧ MarkB items D Bs ∧ MarkW items writes D Ws ∧ BS w wr k w.heap.size (w.heap.size + 1) w1.heap.size (w1.heap.size + 1) (w1.heap.size + 1 + 1 + 1) vq D Bs Ws (nats Q)) (fun _ wr => k + lenAt wr (w1.heap.size + 1 + 1 + 1) - visW wr w.heap.size k)
      case atStart => exact ⟨_, _, _, _, [], [s], Bq.start k s items hs, MarkB.start _ _, MarkW.start _ _ _, unhide ST⟩
      case round =>
        obtain ⟨vq, D, Bs, Ws, P, Q, hbq, hmb, hmw, hs2⟩ := hrel
        have BQ := hide hbq
        have MB := hide hmb
        have MW := hide hmw
        have S2 := hide hs2
        clear hbq hmb hmw hs2
        have hcq := one_cell (unhide S2).qv
        cases Q with
        | nil =>
          obtain ⟨g, o, cap, cs, hv, _⟩ := (unhide S2).q
          have hv' : vq = .slice (some ⟨g, o, none⟩) 0 cap := hv
          rw [hv'] at hcq
          have hcd := one_cell (unhide S2).dv
          go_wp2_with fail
          go_returns
          exact ⟨⟨w.heap.size, D, rfl, IBlk.rd (unhide S2).d, (unhide BQ).fin⟩, (unhide S2).bel⟩
        | cons v Q =>
          obtain ⟨g, o, cap, cs, hv, hgl⟩ := (unhide S2).q
          have hv' : vq = .slice (some ⟨g, o, none⟩) (Q.length + 1) cap := by rw [hv, nats_len]; rfl
          subst hv'
          have hcap : Q.length + 1 ≤ cap := by
            have := hgl.2.2.1
            rw [nats_len] at this
            exact this
          clear hv hgl
          have hcv : wr.cell? ⟨g, o, none⟩ = some (.int .i64 v) := (unhide S2).q.cell (j := 0) (by simp [nats])
          have hql := (unhide S2).qv.lt
          have hqf := (unhide S2).qv.free 0
          have hgl := ((unhide S2).q.lt (k := g) rfl).2
          have hbp := (unhide BQ).pop
          have BP := hide hbp
          clear hbp
          obtain ⟨w2, hw2⟩ : ∃ x, x = wr := ⟨_, rfl⟩
          subst hw2
          go_upto_region 13 with fail
          go_cut [58] from 57 to 156 (fun _ wc => ∃ o' cap', BS w wc k w.heap.size (w.heap.size + 1) w1.heap.size (w1.heap.size + 1) (w1.heap.size + 1 + 1 + 1) (.slice (some ⟨g, o', none⟩) Q.length cap') D Bs Ws (nats Q) ∧ Blk wc w2.heap.size 3 [.int .i64 v])
          case first =>
            by_cases hc1 : cap = 1
            · subst hc1
              have hQ0 : Q.length = 0 := by omega
              go_wp2_with fail
              go_meet
              case rel =>
                have h1 := (unhide S2).q.tail.2 rfl
                rw [hQ0] at h1
                refine ⟨o, 0, ?_, new_sz _ _ _ _ _⟩
                rw [hQ0]
                exact BS.new ((unhide S2).setq h1 (unhide S2).qd (unhide S2).qb (unhide S2).qw) (Chg.alloc _ _ _)
            · go_wp2_with fail
              go_meet
              case rel =>
                have h1 := (unhide S2).q.tail.1
                exact ⟨_, _, BS.new ((unhide S2).setq h1 (unhide S2).qd (unhide S2).qb (unhide S2).qw) (Chg.alloc _ _ _), new_sz _ _ _ _ _⟩
          case rest =>
            obtain ⟨o', cap', hs3, hb3⟩ := hcut
            have S3 := hide hs3
            have B3 := hide hb3
            clear hs3 hb3
            have hvn := (unhide BP).vn.1
            have hbd : w2.heap.size ≠ w.heap.size := by have := Blk.lt (unhide S2).d; omega
            obtain ⟨bo, oo, ar, cr, e1, hc1w, hr1⟩ := (unhide RO) v (by rw [(unhide OK).ol]; exact hvn)
            subst e1
            have hc1 := cell_old (unhide S3).bel hc1w
            clear hc1w
            have hc4 := cell_old (unhide S3).bel (unhide HCO)
            rw [(unhide OK).ol] at hc4
            have hcvv := one_cell (unhide B3)
            obtain ⟨rr, hrr⟩ : ∃ rr, rr = ofs.getD v [] := ⟨_, rfl⟩
            rw [← hrr] at hc1 hr1
            have hrl : rr.length ≤ 1048576 := by rw [hrr]; exact unhide HO v
            have HRR := hide hrr
            have RR := hide hr1
            clear hrr hr1
            go_wp2_with fail
            go_quiet (fail)
            go_wp2_with fail
            go_loopw [68] (fun i wr => ∃ (q : Nat) (vq : Value) (D Bs Ws : List Int) (Q : List Nat), q ≤ rr.length ∧ i = .int .i64 q ∧ Bp k s items D (P ++ [v]) Q v ∧ MarkB items D Bs ∧ MarkW items writes D Ws ∧ (∀ r ∈ rr.take q, RefOk items writes D r) ∧ BS w wr k w.heap.size (w.heap.size + 1) w1.heap.size (w1.heap.size + 1) (w1.heap.size + 1 + 1 + 1) vq D Bs Ws (nats Q) ∧ Blk wr w2.heap.size 3 [.int .i64 v] ∧ vq.ownBlock ≠ some w2.heap.size) (fun i _ => rr.length - (intOf i).toNat)
            case atStart =>
              exact ⟨0, _, D, Bs, Ws, Q, Nat.zero_le _, rfl, unhide BP, unhide MB, unhide MW, (fun r hr => by simp at hr), (unhide S3).new (Chg.draws _ _ _), unhide B3, (fun e => by have e2 : g = w2.heap.size := Option.some.inj e; omega)⟩
            case round =>
              obtain ⟨q, vq4, D4, Bs4, Ws4, Q4, hq, rfl, hbp, hmb, hmw, hrf, hs4, hb4, hvb⟩ := hrel
              have BP4 := hide hbp
              have MB4 := hide hmb
              have MW4 := hide hmw
              have RF4 := hide hrf
              have S4 := hide hs4
              have B4 := hide hb4
              have VB4 := hide hvb
              clear hbp hmb hmw hrf hs4 hb4 hvb
              by_cases hlq : q < rr.length
              · obtain ⟨j, hj⟩ : ∃ j, j = (rr.getD q (0, 0)).1 := ⟨_, rfl⟩
                obtain ⟨at_, hat⟩ : ∃ x, x = (rr.getD q (0, 0)).2 := ⟨_, rfl⟩
                have hmem : rr.getD q (0, 0) ∈ rr := by
                  have : rr.getD q (0, 0) = rr[q] := by simp [List.getD, hlq]
                  rw [this]
                  exact List.getElem_mem _
                obtain ⟨hjl, hal, hav⟩ := (unhide OK).of_ v hvn (rr.getD q (0, 0)) (by rw [← unhide HRR]; exact hmem)
                rw [← hj] at hjl hal hav
                rw [← hat] at hal hav
                obtain ⟨br, orr, er, hcr1, hcr2⟩ := ((unhide RR).old (unhide S4).bel) q hlq
                subst er
                rw [← hj] at hcr1
                rw [← hat] at hcr2
                have hci4 := cell_old (unhide S4).bel hci
                obtain ⟨bi, oi, arow, crow, ei, hcroww, hrow⟩ := (unhide RI) j hjl
                subst ei
                have hcrow := cell_old (unhide S4).bel hcroww
                clear hcroww
                obtain ⟨ba, oa, ea, hca1, hca2, hca3⟩ := (hrow.old (unhide S4).bel) at_ hal
                subst ea
                have hl4 := (unhide S4).bel.size
                have k1 : br < wr.heap.size := cell_lt hcr1
                have k2 : pg < wr.heap.size := cell_lt hci4
                have k3 : bi < wr.heap.size := cell_lt hcrow
                have k4 : ba < wr.heap.size := cell_lt hca1
                have k5 : ba < wr.heap.size + 1 := by omega
                have k6 : w2.heap.size < wr.heap.size := (unhide B4).lt
                obtain ⟨row, hrowe⟩ : ∃ row, row = items.getD j [] := ⟨_, rfl⟩
                rw [← hrowe] at hal hcrow hrow hca1 hca2 hca3
                have hav' : (row.getD at_ (0, false, 0)).1 = v := by rw [hrowe]; exact hav
                obtain ⟨wx, hwx⟩ : ∃ x, x = (row.getD at_ (0, false, 0)).2.1 := ⟨_, rfl⟩
                obtain ⟨nx, hnx⟩ : ∃ x, x = (row.getD at_ (0, false, 0)).2.2 := ⟨_, rfl⟩
                rw [hav'] at hca1
                rw [← hwx] at hca2
                rw [← hnx] at hca3
                have hrl4 : row.length ≤ 4096 := by rw [hrowe]; exact unhide HR j
                obtain ⟨m, hm0, hm1', hm2'⟩ := (unhide MB4).2 j hjl
                obtain ⟨mw, hw0, hw1', hw2'⟩ := (unhide MW4).2 j hjl
                have hcb := (unhide S4).b.cell (j := j) (by rw [(unhide MB4).1]; exact hjl)
                have hcwb := (unhide S4).wb.cell (j := j) (by rw [(unhide MW4).1]; exact hjl)
                rw [hm0] at hcb
                rw [hw0] at hcwb
                have hbl := Blk.lt (unhide S4).b
                have hwl := Blk.lt (unhide S4).wb
                have k7 : w1.heap.size < wr.heap.size + 1 := by omega
                have k8 : w1.heap.size + 1 < wr.heap.size + 1 := by omega
                have HM0 := hide hm0
                have HM2 := hide hm2'
                have HW0 := hide hw0
                have HW2 := hide hw2'
                have HROW := hide hrow
                have HRE := hide hrowe
                have HJ := hide hj
                have HAT := hide hat
                have HAV := hide hav'
                have HWX := hide hwx
                have HNX := hide hnx
                clear hm0 hm2' hw0 hw2' hrow hrowe hj hat hav' hwx hnx hmem hav
                obtain ⟨w4, hw4⟩ : ∃ x, x = wr := ⟨_, rfl⟩
                subst hw4
                cases hwb : wx
                case true =>
                  rw [hwb] at hca2
                  go_wp2_with fail
                  go_quiet (fail)
                  go_wp2_with fail
                  go_loopw [16] (fun i wr => ∃ (c : Nat) (vq : Value) (D : List Int) (Q : List Nat), i = .int .i64 c ∧ c ≤ 4096 ∧ Bp k s items D (P ++ [v]) Q v ∧ Keep D4 D ∧ (∀ i', i' < c → i' < row.length → 0 ≤ D.getD (acc items j i').1 0) ∧ BS w wr k w.heap.size (w.heap.size + 1) w1.heap.size (w1.heap.size + 1) (w1.heap.size + 1 + 1 + 1) vq D Bs4 Ws4 (nats Q) ∧ Blk wr w2.heap.size 3 [.int .i64 v] ∧ vq.ownBlock ≠ some w2.heap.size ∧ Blk wr w4.heap.size 61 [.int .i64 j, .int .i64 at_]) (fun i _ => at_ - (intOf i).toNat)
                  case atStart =>
                    refine ⟨m, vq4, D4, Q4, rfl, by rw [← unhide HRE] at hm1'; omega, unhide BP4, Keep.refl _, (fun i' hi' _ => unhide HM2 i' hi'), (unhide S4).new (((Chg.alloc _ w4 _).trans (Chg.alloc _ _ _)).trans (Chg.draws _ _ _)), ((unhide B4).alloc _).alloc _, unhide VB4, (Blk.new w4 61 [.int .i64 j, .int .i64 at_]).alloc _⟩
                  case round =>
                    obtain ⟨c, vq5, D5, Q5, rfl, hc5, hbp, hkp, hfd, hs5, hb5, hvb5, hbr⟩ := hrel
                    have BP5 := hide hbp
                    have KP5 := hide hkp
                    have FD5 := hide hfd
                    have S5 := hide hs5
                    have B5 := hide hb5
                    have VB5 := hide hvb5
                    have BR5 := hide hbr
                    have hr50 : wr.cell? ⟨w4.heap.size, 0, none⟩ = some (.int .i64 j) := hbr.cell 0
                    have hr51 : wr.cell? ⟨w4.heap.size, 1, none⟩ = some (.int .i64 at_) := hbr.cell 1
                    clear hbp hkp hfd hs5 hb5 hvb5 hbr
                    by_cases hlc : c < at_
                    · have hcl : c < row.length := by omega
                      obtain ⟨ba5, oa5, ea5, hd1, hd2, hd3⟩ := ((unhide HROW).old (unhide S5).bel) c hcl
                      cases ea5
                      obtain ⟨t, ht⟩ : ∃ t, t = (row.getD c (0, false, 0)).1 := ⟨_, rfl⟩
                      rw [← ht] at hd1
                      generalize (row.getD c (0, false, 0)).2.1 = tx at hd2
                      generalize (row.getD c (0, false, 0)).2.2 = tn at hd3
                      have hta : (acc items j c).1 = t := by
                        unfold acc
                        rw [← unhide HRE, ht]
                      have htk : t < k := by
                        rw [← hta]
                        exact (unhide OK).lt j c hjl (by rw [← unhide HRE]; exact hcl)
                      have hed : t = v ∨ Ed items t v := by
                        by_cases e : t = v
                        · exact .inl e
                        · refine .inr ⟨e, j, c, at_, hjl, hlc, by rw [← unhide HRE]; exact hal, hta, ?_, .inr ?_⟩
                          · unfold acc
                            rw [← unhide HRE]
                            exact unhide HAV
                          · unfold acc
                            rw [← unhide HRE, ← unhide HWX]
                            exact hwb
                      have HED := hide hed
                      have HTA := hide hta
                      clear ht hta hed
                      go_wp2_with fail
                      refine (reach30_any w wr k w.heap.size (w.heap.size + 1) w1.heap.size (w1.heap.size + 1) (w1.heap.size + 1 + 1 + 1) w2.heap.size vq5 D5 Bs4 Ws4 (nats Q5) t v tn tx (unhide S5) (unhide BP5).len (unhide B5) htk hvn ?_ ?_).mono ?_
                      · rw [nats_len]
                        have := below_len (unhide BP5).nd (fun x hx => (unhide BP5).lt x (List.mem_append.1 hx))
                        rw [List.length_append] at this
                        omega
                      · have := (unhide BP5).bound hvn
                        omega
                      rintro e w6 ⟨rfl, vq6, hs6, hc6, hat6⟩
                      obtain ⟨Q6, hbp6, hq6⟩ := (unhide BP5).reach htk (unhide HED)
                      have hk6 := reach_keep (unhide BP5) htk
                      have S6 : Hid (BS w w6 k w.heap.size (w.heap.size + 1) w1.heap.size (w1.heap.size + 1) (w1.heap.size + 1 + 1 + 1) vq6 (reachD D5 v t) Bs4 Ws4 (nats Q6)) := by
                        have e1 : nats Q6 = reachQ D5 (nats Q5) t := hq6.symm
                        rw [e1]
                        exact hs6
                      have BP6 := hide hbp6
                      have K6 := hide hk6
                      have nb : ∀ kk cs tt, Blk wr kk tt cs → kk ≠ w.heap.size → kk ≠ w1.heap.size + 1 + 1 + 1 → vq5.ownBlock ≠ some kk → Blk w6 kk tt cs := fun kk cs tt hb h1 h2 h3 => hb.chg hc6 (by rintro (e | e | e); exact h1 e; exact h2 e; exact h3 e)
                      have B6 : Hid (Blk w6 w2.heap.size 3 [.int .i64 v]) := nb _ _ _ (unhide B5) hbd (fun e => (unhide S5).qv.ne (unhide B5) (by decide) e.symm) (unhide VB5)
                      have BR6 : Hid (Blk w6 w4.heap.size 61 [.int .i64 j, .int .i64 at_]) := nb _ _ _ (unhide BR5) ((unhide BR5).ne (unhide S5).d (by decide)) ((unhide BR5).ne (unhide S5).qv (by decide)) ((unhide S5).q.ne (unhide BR5) (by decide))
                      have VB6 : Hid (vq6.ownBlock ≠ some w2.heap.size) := by
                        rcases hat6 with e | ⟨g6, e, hg6⟩
                        · rw [e]; exact unhide VB5
                        · intro e2
                          rw [e] at e2
                          have := Option.some.inj e2
                          have := (unhide B5).lt
                          omega
                      clear hs6 hc6 hat6 hbp6 hq6 hk6 nb
                      go_wp2_with fail
                      refine ⟨⟨c + 1, vq6, reachD D5 v t, Q6, by rw [Int.natCast_add]; rfl, by omega, unhide BP6, (unhide KP5).trans (unhide K6).1, fun i' hi' hil => ?_, unhide S6, unhide B6, unhide VB6, unhide BR6⟩, by simp [intOf]; omega⟩
                      by_cases e : i' = c
                      · subst e
                        rw [unhide HTA]
                        exact (unhide K6).2
                      · exact Keep.pos (unhide K6).1 (unhide FD5 i' (by omega) hil)
                    · have hcb5 := (unhide S5).b.cell (j := j) (by rw [(unhide MB4).1]; exact hjl)
                      rw [unhide HM0] at hcb5
                      have hfb5 := Blk.free (unhide S5).b j
                      go_wp2_with fail
                      go_region
                      go_wp2_with fail
                      have hmx : (if m < at_ then (at_ : Int) else (m : Int)) = ((max m at_ : Nat) : Int) := by split <;> omega
                      have hfd : ∀ i, i < at_ → 0 ≤ D5.getD (acc items j i).1 0 := fun i hi => unhide FD5 i (by omega) (by omega)
                      refine ⟨⟨q + 1, vq5, D5, Bs4.set j ((max m at_ : Nat) : Int), Ws4, Q5, by omega, by rw [Int.natCast_add]; rfl, unhide BP5, ((unhide MB4).keep (unhide KP5)).set hjl (unhide HM0) (by rw [← unhide HRE]; omega) hfd, (unhide MW4).keep (unhide KP5), fun r hr => ?_, ?_, Blk.other (unhide B5) (by show w2.heap.size ≠ w1.heap.size; omega) _, unhide VB5⟩, by simp [intOf]; omega⟩
                      · rw [List.take_succ_eq_append_getElem hlq] at hr
                        rcases List.mem_append.1 hr with hr1 | hr1
                        · exact (unhide RF4 r hr1).keep (unhide KP5)
                        · have er : r = (j, at_) := by
                            rw [List.mem_singleton.1 hr1, unhide HJ, unhide HAT]
                            simp [List.getD, hlq]
                          rw [er]
                          refine ⟨fun _ => hfd, fun hf => ?_⟩
                          have hf' : (row.getD at_ (0, false, 0)).2.1 = false := by rw [unhide HRE]; exact hf
                          rw [← unhide HWX, hwb] at hf'
                          cases hf'
                      · rw [hmx]
                        exact ((unhide S5).setb j _).new (Chg.draws _ _ 1)
                case false =>
                  rw [hwb] at hca2
                  obtain ⟨wrow, hwre⟩ : ∃ x, x = writes.getD j [] := ⟨_, rfl⟩
                  obtain ⟨bwr, owr, awr, cwr, ewr, hcwrw, hwrr⟩ := (unhide RW) j (by rw [List.length_map, (unhide OK).wl]; exact hjl)
                  subst ewr
                  rw [map_ints_at, ← hwre] at hcwrw hwrr
                  rw [ints_len] at hcwrw
                  have hcwr := cell_old (unhide S4).bel hcwrw
                  have hc34 := cell_old (unhide S4).bel (unhide HCW)
                  rw [(unhide OK).wl] at hc34
                  have k9 : bwr < w4.heap.size := cell_lt hcwr
                  have k10 : bwr < w4.heap.size + 1 := by omega
                  have k11 : pg < w4.heap.size + 1 := by omega
                  have hwle : wrow.length ≤ 4096 := by rw [hwre]; exact unhide HW j
                  have hnxl : nx ≤ wrow.length := by
                    have := (unhide OK).wc j at_ hjl (by rw [← unhide HRE]; exact hal)
                    rw [hwre, unhide HNX, unhide HRE]
                    exact this
                  have HWE := hide hwre
                  have HWR := hide hwrr
                  clear hwre hwrr hcwrw
                  go_wp2_with fail
                  go_quiet (fail)
                  go_wp2_with fail
                  go_quiet (fail)
                  go_wp2_with fail
                  go_loopw [18] (fun i wr => ∃ (c : Nat) (vq : Value) (D : List Int) (Q : List Nat), i = .int .i64 c ∧ c ≤ 4096 ∧ Bp k s items D (P ++ [v]) Q v ∧ Keep D4 D ∧ (∀ i', i' < c → i' < wrow.length → 0 ≤ D.getD (acc items j (wrow.getD i' 0).toNat).1 0) ∧ BS w wr k w.heap.size (w.heap.size + 1) w1.heap.size (w1.heap.size + 1) (w1.heap.size + 1 + 1 + 1) vq D Bs4 Ws4 (nats Q) ∧ Blk wr w2.heap.size 3 [.int .i64 v] ∧ vq.ownBlock ≠ some w2.heap.size ∧ Blk wr w4.heap.size 61 [.int .i64 j, .int .i64 at_] ∧ Blk wr (w4.heap.size + 1) 58 [.int .i64 v, .bool false, .int .i64 nx]) (fun i _ => nx - (intOf i).toNat)
                  case atStart =>
                    refine ⟨mw, vq4, D4, Q4, rfl, by rw [← unhide HWE] at hw1'; omega, unhide BP4, Keep.refl _, (fun i' hi' _ => by rw [unhide HWE]; exact unhide HW2 i' hi'), (unhide S4).new ((((Chg.alloc _ w4 _).trans (Chg.draws _ _ _)).trans (Chg.alloc _ _ _)).trans (Chg.draws _ _ _)), ((unhide B4).alloc _).alloc _, unhide VB4, (Blk.new w4 61 [.int .i64 j, .int .i64 at_]).alloc _, new_2 _ _ _ _⟩
                  case round =>
                    obtain ⟨c, vq5, D5, Q5, rfl, hc5, hbp, hkp, hfd, hs5, hb5, hvb5, hbr, hbx⟩ := hrel
                    have BP5 := hide hbp
                    have KP5 := hide hkp
                    have FD5 := hide hfd
                    have S5 := hide hs5
                    have B5 := hide hb5
                    have VB5 := hide hvb5
                    have BR5 := hide hbr
                    have BX5 := hide hbx
                    have hx52 : wr.cell? ⟨w4.heap.size + 1, 2, none⟩ = some (.int .i64 nx) := hbx.cell 2
                    have hr50 : wr.cell? ⟨w4.heap.size, 0, none⟩ = some (.int .i64 j) := hbr.cell 0
                    have hr51 : wr.cell? ⟨w4.heap.size, 1, none⟩ = some (.int .i64 at_) := hbr.cell 1
                    clear hbp hkp hfd hs5 hb5 hvb5 hbr hbx
                    by_cases hlc : c < nx
                    · have hcw5 : c < wrow.length := by omega
                      obtain ⟨ix, hix0, hixl, hixw⟩ := (unhide OK).wr j c hjl (by rw [← unhide HWE]; exact hcw5)
                      have hixb := (unhide OK).wb j at_ c hjl (by rw [← unhide HRE]; exact hal) (by unfold acc; rw [← unhide HRE, ← unhide HNX]; exact hlc)
                      rw [hix0] at hixb
                      rw [← unhide HRE] at hixl
                      rw [← unhide HWE] at hix0
                      obtain ⟨bw5, ow5, ew5, hdw⟩ := ((unhide HWR).old (unhide S5).bel).int hcw5
                      cases ew5
                      rw [hix0] at hdw
                      obtain ⟨ba5, oa5, ea5, hd1, hd2, hd3⟩ := ((unhide HROW).old (unhide S5).bel) ix hixl
                      cases ea5
                      obtain ⟨t, ht⟩ : ∃ t, t = (row.getD ix (0, false, 0)).1 := ⟨_, rfl⟩
                      rw [← ht] at hd1
                      generalize (row.getD ix (0, false, 0)).2.1 = tx at hd2
                      generalize (row.getD ix (0, false, 0)).2.2 = tn at hd3
                      have hta : (acc items j ix).1 = t := by
                        unfold acc
                        rw [← unhide HRE, ht]
                      have htk : t < k := by
                        rw [← hta]
                        exact (unhide OK).lt j ix hjl (by rw [← unhide HRE]; exact hixl)
                      have hed : t = v ∨ Ed items t v := by
                        by_cases e : t = v
                        · exact .inl e
                        · refine .inr ⟨e, j, ix, at_, hjl, by omega, by rw [← unhide HRE]; exact hal, hta, ?_, .inl hixw⟩
                          unfold acc
                          rw [← unhide HRE]
                          exact unhide HAV
                      have HIX := hide hix0
                      clear hix0 hixw hixb
                      have HED := hide hed
                      have HTA := hide hta
                      clear ht hta hed
                      go_wp2_with fail
                      refine (reach30_any w wr k w.heap.size (w.heap.size + 1) w1.heap.size (w1.heap.size + 1) (w1.heap.size + 1 + 1 + 1) w2.heap.size vq5 D5 Bs4 Ws4 (nats Q5) t v tn tx (unhide S5) (unhide BP5).len (unhide B5) htk hvn ?_ ?_).mono ?_
                      · rw [nats_len]
                        have := below_len (unhide BP5).nd (fun x hx => (unhide BP5).lt x (List.mem_append.1 hx))
                        rw [List.length_append] at this
                        omega
                      · have := (unhide BP5).bound hvn
                        omega
                      rintro e w6 ⟨rfl, vq6, hs6, hc6, hat6⟩
                      obtain ⟨Q6, hbp6, hq6⟩ := (unhide BP5).reach htk (unhide HED)
                      have hk6 := reach_keep (unhide BP5) htk
                      have S6 : Hid (BS w w6 k w.heap.size (w.heap.size + 1) w1.heap.size (w1.heap.size + 1) (w1.heap.size + 1 + 1 + 1) vq6 (reachD D5 v t) Bs4 Ws4 (nats Q6)) := by
                        have e1 : nats Q6 = reachQ D5 (nats Q5) t := hq6.symm
                        rw [e1]
                        exact hs6
                      have BP6 := hide hbp6
                      have K6 := hide hk6
                      have nb : ∀ kk cs tt, Blk wr kk tt cs → kk ≠ w.heap.size → kk ≠ w1.heap.size + 1 + 1 + 1 → vq5.ownBlock ≠ some kk → Blk w6 kk tt cs := fun kk cs tt hb h1 h2 h3 => hb.chg hc6 (by rintro (e | e | e); exact h1 e; exact h2 e; exact h3 e)
                      have B6 : Hid (Blk w6 w2.heap.size 3 [.int .i64 v]) := nb _ _ _ (unhide B5) hbd (fun e => (unhide S5).qv.ne (unhide B5) (by decide) e.symm) (unhide VB5)
                      have BR6 : Hid (Blk w6 w4.heap.size 61 [.int .i64 j, .int .i64 at_]) := nb _ _ _ (unhide BR5) ((unhide BR5).ne (unhide S5).d (by decide)) ((unhide BR5).ne (unhide S5).qv (by decide)) ((unhide S5).q.ne (unhide BR5) (by decide))
                      have BX6 : Hid (Blk w6 (w4.heap.size + 1) 58 [.int .i64 v, .bool false, .int .i64 nx]) := nb _ _ _ (unhide BX5) ((unhide BX5).ne (unhide S5).d (by decide)) ((unhide BX5).ne (unhide S5).qv (by decide)) ((unhide S5).q.ne (unhide BX5) (by decide))
                      have VB6 : Hid (vq6.ownBlock ≠ some w2.heap.size) := by
                        rcases hat6 with e | ⟨g6, e, hg6⟩
                        · rw [e]; exact unhide VB5
                        · intro e2
                          rw [e] at e2
                          have := Option.some.inj e2
                          have := (unhide B5).lt
                          omega
                      clear hs6 hc6 hat6 hbp6 hq6 hk6 nb
                      go_wp2_with fail
                      refine ⟨⟨c + 1, vq6, reachD D5 v t, Q6, by rw [Int.natCast_add]; rfl, by omega, unhide BP6, (unhide KP5).trans (unhide K6).1, fun i' hi' hil => ?_, unhide S6, unhide B6, unhide VB6, unhide BR6, unhide BX6⟩, by simp [intOf]; omega⟩
                      by_cases e : i' = c
                      · subst e
                        rw [unhide HIX, Int.toNat_natCast, unhide HTA]
                        exact (unhide K6).2
                      · exact Keep.pos (unhide K6).1 (unhide FD5 i' (by omega) hil)
                    · have hcb5 := (unhide S5).wb.cell (j := j) (by rw [(unhide MW4).1]; exact hjl)
                      rw [unhide HW0] at hcb5
                      have hfb5 := Blk.free (unhide S5).wb j
                      go_wp2_with fail
                      go_region
                      go_wp2_with fail
                      have hmx : (if mw < nx then (nx : Int) else (mw : Int)) = ((max mw nx : Nat) : Int) := by split <;> omega
                      have hfd : ∀ i, i < nx → 0 ≤ D5.getD (acc items j ((writes.getD j []).getD i 0).toNat).1 0 := fun i hi => by
                        have := unhide FD5 i (by omega) (by omega)
                        rwa [unhide HWE] at this
                      refine ⟨⟨q + 1, vq5, D5, Bs4, Ws4.set j ((max mw nx : Nat) : Int), Q5, by omega, by rw [Int.natCast_add]; rfl, unhide BP5, (unhide MB4).keep (unhide KP5), ((unhide MW4).keep (unhide KP5)).set hjl (unhide HW0) (by rw [← unhide HWE]; omega) hfd, fun r hr => ?_, ?_, Blk.other (unhide B5) (by show w2.heap.size ≠ w1.heap.size + 1; omega) _, unhide VB5⟩, by simp [intOf]; omega⟩
                      · rw [List.take_succ_eq_append_getElem hlq] at hr
                        rcases List.mem_append.1 hr with hr1 | hr1
                        · exact (unhide RF4 r hr1).keep (unhide KP5)
                        · have er : r = (j, at_) := by
                            rw [List.mem_singleton.1 hr1, unhide HJ, unhide HAT]
                            simp [List.getD, hlq]
                          rw [er]
                          refine ⟨fun hf => ?_, fun _ kk hkk => hfd kk ?_⟩
                          · have hf' : (row.getD at_ (0, false, 0)).2.1 = true := by rw [unhide HRE]; exact hf
                            rw [← unhide HWX, hwb] at hf'
                            cases hf'
                          · rw [unhide HNX, unhide HRE]
                            exact hkk
                      · rw [hmx]
                        exact ((unhide S5).setw j _).new (Chg.draws _ _ 1)
              · obtain rfl : q = rr.length := by omega
                go_wp2_with fail
                have hbq := (unhide BP4).close (refs_done (unhide OK) (by rw [← unhide HRR]; have := unhide RF4; rwa [List.take_length] at this)) (fun x u he => (ed_lt (unhide OK) he).1)
                refine ⟨⟨vq4, D4, Bs4, Ws4, P ++ [v], Q4, hbq, unhide MB4, unhide MW4, unhide S4⟩, ?_⟩
                rw [vis_eq (unhide S4) hbq, vis_eq (unhide S2) (unhide BQ), len_eq (unhide S4), len_eq (unhide S2)]
                simp only [nats_len, List.length_append, List.length_cons, List.length_nil]
                have hbl := bq_len hbq
                simp only [List.length_append, List.length_cons, List.length_nil] at hbl
                omega
end Go.Proofs.Qxb6614980a
