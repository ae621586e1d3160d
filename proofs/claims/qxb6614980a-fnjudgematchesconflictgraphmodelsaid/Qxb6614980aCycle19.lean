/-
  'shortestCycle' walked.
-/
import Derived.Test.Qxb6614980aCycS
import Derived.Test.Qxb6614980aDist25
namespace Go.Proofs.Qxb6614980a
open Go.ChangeShapes Go.WideShapes Go.ChangeAt Go.RowKit

set_option maxRecDepth 100000 in
set_option maxHeartbeats 4000000 in
theorem cycle19_any (pg s : Nat) (lk : Value) (txns : List Int) (items : List (List (Nat × Bool × Nat))) (writes : List (List Int)) (ofs : List (List (Nat × Nat))) (w : World) (h : GMem w pg lk txns items writes ofs) (hok : GOk txns.length items writes ofs)
    (hs : s < txns.length) (hn : txns.length ≤ 4096) (hi : items.length ≤ 4096) (hr : ∀ j, (items.getD j []).length ≤ 4096) (hw : ∀ j, (writes.getD j []).length ≤ 4096) (ho : ∀ j, (ofs.getD j []).length ≤ 1048576)
    (hon : ∀ D, Dist txns.length s items D → ∃ x, x < txns.length ∧ Ed items s x ∧ 0 ≤ D.getD x 0) :
    Calls Try.prog 19 #[.pointer (some ⟨pg, 0, none⟩), .int .i64 s] w fun e w' => (∃ D path, RetInts w' (nats (s :: path ++ [s])) e ∧ Dist txns.length s items D ∧ Pth txns.length s items D path ∧ path ≠ [] ∧ D.getD (lastOf s path) 0 = 1) ∧ Below w.heap.size w w' := by
  have HM := hide h
  have OK := hide hok
  have HR := hide hr
  have HW := hide hw
  have HO := hide ho
  have HON := hide hon
  clear h hok hr hw ho hon
  have hm2 := run_make_row' (P := Try.prog) 22 3 (.int .i64 0) 8 Try.underlying22 info3 rfl .i64 .i64 items.length (by omega) (by omega)
  go_enter Try.func19, Try.ntmps19
  go_wp2_with fail
  refine (dist25_any pg s lk txns items writes ofs w (unhide HM) (unhide OK) hs hn hi (unhide HR) (unhide HW) (unhide HO)).mono ?_
  rintro e w1 ⟨⟨g, D, rfl, hRD, hDist⟩, hbel1⟩
  have hM1 := (unhide HM).old hbel1
  obtain ⟨ai, ci, hci, hRi⟩ := hM1.items
  obtain ⟨aw, cw, hcw, hRw⟩ := hM1.writes
  obtain ⟨ao, co, hco, hRo⟩ := hM1.ofs
  have hpl : pg < w1.heap.size := cell_lt hci
  have RI := hide hRi
  have RW := hide hRw
  have RO := hide hRo
  have RD := hide hRD
  have DD := hide hDist
  have HCO := hide hco
  clear hM1 hRi hRw hRo hRD hDist hco
  rw [(unhide OK).wl] at hcw
  obtain ⟨n, hne⟩ : ∃ n, n = txns.length := ⟨_, rfl⟩
  rw [← hne] at hs hn OK DD HON ⊢
  have HNE := hide hne
  clear hne
  have q1 : pg < w1.heap.size + 1 := by omega
  have q2 : pg < w1.heap.size + 1 + 1 := by omega
  go_wp2_with fail
  go_loopw [40] (fun i wr => ∃ k : Nat, k ≤ items.length ∧ i = .int .i64 k ∧ Blk wr w1.heap.size 22 [.slice (some ⟨g, 0, none⟩) n n] ∧ IBlk wr (w1.heap.size + 1) (lensTo items.length (fun j => (items.getD j []).length) k) ∧ IBlk wr (w1.heap.size + 1 + 1) (lensTo items.length (fun j => (writes.getD j []).length) k) ∧ Below w1.heap.size w1 wr ∧ wr.heap.size = w1.heap.size + 1 + 1 + 1) (fun i _ => items.length - (intOf i).toNat)
  case atStart =>
    refine ⟨0, Nat.zero_le _, rfl, ((Blk.new w1 22 [.slice (some ⟨g, 0, none⟩) n n]).alloc _).alloc _, ?_, ?_, ((below_new w1 _).alloc (by simp) _).alloc (by simp; omega) _, by simp⟩
    · rw [lensTo_zero]
      have := IBlk.new (w1.alloc (.cells #[.slice (some ⟨g, 0, none⟩) n n] 22)) items.length
      rw [World.size_alloc] at this
      exact Blk.alloc this _
    · rw [lensTo_zero]
      have := IBlk.new ((w1.alloc (.cells #[.slice (some ⟨g, 0, none⟩) n n] 22)).alloc (.cells (madeCells #[.int .i64 0] items.length) 3)) items.length
      rw [World.size_alloc, World.size_alloc] at this
      exact this
  case round =>
    obtain ⟨k, hk, rfl, hB, hA, hW, hbel, hsz⟩ := hrel
    have HB := hide hB
    have HA := hide hA
    have HWk := hide hW
    have HSZ := hide hsz
    clear hB hA hW hsz
    by_cases hlt : k < items.length
    · have hci2 := cell_old hbel hci
      have hcw2 := cell_old hbel hcw
      obtain ⟨bi, oi, ar, cr, e1, hcr0, _⟩ := (unhide RI) k hlt
      subst e1
      obtain ⟨bw, ow, awr, cwr, e2, hcwr0, _⟩ := (unhide RW) k (by rw [List.length_map, (unhide OK).wl]; exact hlt)
      subst e2
      rw [map_ints_at, ints_len] at hcwr0
      have hcr := cell_old hbel hcr0
      have hcwr := cell_old hbel hcwr0
      have n1 : bi < w1.heap.size := cell_lt hcr0
      have n2 : bw < w1.heap.size := cell_lt hcwr0
      have n3 : bi ≠ w1.heap.size + 1 := by omega
      have n4 : bw ≠ w1.heap.size + 1 := by omega
      have n5 : pg ≠ w1.heap.size + 1 := by omega
      clear hcr0 hcwr0 n1 n2
      have hcA := (unhide HA).cell (j := k) (by rw [lensTo_len]; exact hlt)
      have hfA := Blk.free (unhide HA) k
      generalize (lensTo items.length (fun j => (items.getD j []).length) k).getD k 0 = y at hcA
      have hcW := (unhide HWk).cell (j := k) (by rw [lensTo_len]; exact hlt)
      have hfW := Blk.free (unhide HWk) k
      generalize (lensTo items.length (fun j => (writes.getD j []).length) k).getD k 0 = y2 at hcW
      obtain ⟨l1, hl1⟩ : ∃ l, l = (items.getD k []).length := ⟨_, rfl⟩
      obtain ⟨l2, hl2⟩ : ∃ l, l = (writes.getD k []).length := ⟨_, rfl⟩
      rw [← hl1] at hcr
      rw [← hl2] at hcwr
      have HL1 := hide hl1
      have HL2 := hide hl2
      clear hl1 hl2
      go_wp2_with fail
      refine ⟨⟨k + 1, by omega, by rw [Int.natCast_add]; rfl, Blk.other (Blk.other (unhide HB) (by show w1.heap.size ≠ w1.heap.size + 1; omega) _) (by show w1.heap.size ≠ w1.heap.size + 1 + 1; omega) _, ?_, ?_, hbel.trans (((Chg.setCell (S := fun k => w1.heap.size < k) wr ⟨w1.heap.size + 1, k, none⟩ _ (by show w1.heap.size < w1.heap.size + 1; omega)).trans (Chg.setCell (S := fun k => w1.heap.size < k) _ ⟨w1.heap.size + 1 + 1, k, none⟩ _ (by show w1.heap.size < w1.heap.size + 1 + 1; omega))).below hbel.size (fun k e => by omega)), by have := unhide HSZ; simpa using this⟩, by simp [intOf]; omega⟩
      · rw [← lensTo_succ _ _ _ hlt, ← unhide HL1]
        exact Blk.other ((unhide HA).set k (l1 : Int)) (by show w1.heap.size + 1 ≠ w1.heap.size + 1 + 1; omega) _
      · rw [← lensTo_succ _ _ _ hlt, ← unhide HL2]
        exact IBlk.set (Blk.other (unhide HWk) (by show w1.heap.size + 1 + 1 ≠ w1.heap.size + 1; omega) _) k (l2 : Int)
    · obtain rfl : k = items.length := by omega
      have hst : Hid (CS w1 (wr.alloc (.cells #[.int .i64 s] 3)) n g w1.heap.size (w1.heap.size + 1) (w1.heap.size + 1 + 1) (.slice (some ⟨wr.heap.size, 0, none⟩) 1 1) (lensTo items.length (fun j => (items.getD j []).length) items.length) (lensTo items.length (fun j => (writes.getD j []).length) items.length) (nats [s])) := by
        have hsz := unhide HSZ
        refine ⟨hbel.alloc hbel.size _, (unhide HB).alloc _, Blk.alloc (unhide HA) _, Blk.alloc (unhide HWk) _, ?_, by omega, ?_, ?_, by omega, by omega, by omega⟩
        · refine ⟨rfl, .inr ⟨wr.heap.size, 1, #[.int .i64 s], rfl, by omega, heap_new wr _, Nat.le_refl _, by unfold maxLen; omega, rfl, by simp [ints, nats]⟩⟩
        · intro e
          have := Option.some.inj e
          simp at this
          omega
        · intro e
          have := Option.some.inj e
          simp at this
          omega
      obtain ⟨w2, hw2⟩ : ∃ x, x = wr := ⟨_, rfl⟩
      subst hw2
      go_wp2_with fail
      go_loopw [9, 10] (fun vc u wr => ∃ (path : List Nat) (As Ws : List Int) (Old : Nat → Prop), u = .int .i64 (lastOf s path) ∧ Pth n s items D path ∧ AftB items Old As ∧ AftW items writes Old Ws ∧ (path = [] → ∀ t, ¬ Old t) ∧ (path ≠ [] → ∀ t, Old t → D.getD t 0 ≤ 0 ∨ D.getD (lastOf s path) 0 ≤ D.getD t 0) ∧ CS w1 wr n g w1.heap.size (w1.heap.size + 1) (w1.heap.size + 1 + 1) vc As Ws (nats (s :: path))) (fun vc _ _ => n + 2 - lenOf vc)
      case atStart => exact ⟨[], _, _, fun _ => False, rfl, pth_nil _ _ _ _, aftB_start _ _, aftW_start _ _ _, (fun _ _ h => h), (fun h => absurd rfl h), unhide hst⟩
      case round =>
        obtain ⟨path, As, Ws, Old, rfl, hpt, hab, haw, ho1, ho2, hcs⟩ := hrel
        have PT := hide hpt
        have AB := hide hab
        have AW := hide haw
        have O1 := hide ho1
        have O2 := hide ho2
        have S2 := hide hcs
        clear hpt hab haw ho1 ho2 hcs
        obtain ⟨u, hue⟩ : ∃ u, u = lastOf s path := ⟨_, rfl⟩
        rw [← hue] at O2 ⊢
        have HUE := hide hue
        have hun : u < n := by
          rw [hue]
          by_cases hp : path.length = 0
          · rw [List.eq_nil_of_length_eq_zero hp]
            exact hs
          · refine (unhide PT).lt _ ?_
            unfold lastOf
            obtain ⟨k, hk⟩ : ∃ k, path.length = k + 1 := ⟨path.length - 1, by omega⟩
            rw [hk]
            have : (s :: path).getD (k + 1) 0 = path[k]'(by omega) := by simp [List.getD, show k < path.length by omega]
            rw [this]
            exact List.getElem_mem _
        clear hue
        obtain ⟨avc, cvc, hvc⟩ := (unhide S2).c.form
        subst hvc
        have hcd := one_cell (unhide S2).dv
        obtain ⟨g1, o1, e1, hcu⟩ := ((unhide RD).old (unhide S2).bel).int (j := u) (by rw [(unhide DD).len]; exact hun)
        cases e1
        rw [Nat.zero_add] at hcu
        obtain ⟨du, hdu⟩ : ∃ d, d = D.getD u 0 := ⟨_, rfl⟩
        rw [← hdu] at hcu
        have HDU := hide hdu
        clear hdu
        obtain ⟨bb, hbb⟩ : ∃ bb, bb = decide (u = s ∨ 1 < du) := ⟨_, rfl⟩
        obtain ⟨w3, hw3⟩ : ∃ x, x = wr := ⟨_, rfl⟩
        subst hw3
        have HBB := hide hbb
        clear hbb
        go_upto_region 12 with fail
        go_cut [78] from 69 to 183 (fun v wc => v = .bool bb ∧ wc = w3)
        case first =>
          by_cases hus : u = s
          · have hb1 : bb = true := by rw [unhide HBB]; simp [hus]
            subst hb1
            have hq : ((u : Int) == (s : Int)) = true := by simp [hus]
            go_wp2_with fail
            go_meet
            case rel => exact ⟨rfl, rfl⟩
          · have hb1 : bb = decide (1 < du) := by rw [unhide HBB]; simp [hus]
            subst hb1
            have hq : ((u : Int) == (s : Int)) = false := by simp; omega
            go_wp2_with fail
            go_meet
            case rel => exact ⟨rfl, rfl⟩
        case rest =>
          obtain ⟨rfl, rfl⟩ := hcut
          by_cases hgo : u = s ∨ 1 < du
          · have hb1 : bb = true := by rw [unhide HBB]; simp [hgo]
            subst hb1
            have hRO := (unhide RO) u (by rw [(unhide OK).ol]; exact hun)
            obtain ⟨bo, oo, ar, cr, e1, hc1w, hr1⟩ := hRO
            subst e1
            have hc1 := cell_old (unhide S2).bel hc1w
            have k0 : bo < wc.heap.size := cell_lt hc1
            have hc4 := cell_old (unhide S2).bel (unhide HCO)
            rw [(unhide OK).ol] at hc4
            have kp : pg < wc.heap.size := cell_lt hc4
            obtain ⟨rr, hrr⟩ : ∃ rr, rr = ofs.getD u [] := ⟨_, rfl⟩
            rw [← hrr] at hc1 hr1
            have hrl : rr.length ≤ 1048576 := by rw [hrr]; exact unhide HO u
            have HRR := hide hrr
            have RR := hide hr1
            clear hrr hr1 hc1w
            have hga := Blk.lt (unhide S2).a
            have hgw := Blk.lt (unhide S2).wb
            have hgd := (unhide S2).dv.lt
            go_wp2_with fail
            go_loopw [88] (fun i wr => ∃ (q : Nat) (As Ws : List Int) (C : Nat → Prop) (nx : Int), q ≤ rr.length ∧ i = .int .i64 q ∧ BestOf D C nx ∧ (∀ t, C t → t = u ∨ Ed items u t) ∧ AftB items (fun t => Old t ∨ C t) As ∧ AftW items writes (fun t => Old t ∨ C t) Ws ∧ (∀ r ∈ rr.take q, RefA items writes (fun t => Old t ∨ C t) r) ∧ CS w1 wr n g w1.heap.size (w1.heap.size + 1) (w1.heap.size + 1 + 1) (.slice avc (nats (s :: path)).length cvc) As Ws (nats (s :: path)) ∧ Blk wr wc.heap.size 3 [.int .i64 nx]) (fun i _ => rr.length - (intOf i).toNat)
            case atStart =>
              exact ⟨0, As, Ws, fun _ => False, -1, Nat.zero_le _, rfl, BestOf.none D, (fun _ h => h.elim), (unhide AB).mono (fun _ h => .inl h), (unhide AW).mono (fun _ h => .inl h), (fun r hr => by simp at hr), (unhide S2).new (Chg.alloc _ wc _), Blk.new wc 3 [.int .i64 (-1)]⟩
            case round =>
              obtain ⟨q, As4, Ws4, C4, nx4, hq, rfl, hbo, hcb, hab, haw, hrf, hs4, hb4⟩ := hrel
              have BO4 := hide hbo
              have CB4 := hide hcb
              have AB4 := hide hab
              have AW4 := hide haw
              have RF4 := hide hrf
              have S4 := hide hs4
              have B4 := hide hb4
              have hbn4 := one_cell hb4
              clear hbo hcb hab haw hrf hs4 hb4
              by_cases hlq : q < rr.length
              · obtain ⟨j, hj⟩ : ∃ j, j = (rr.getD q (0, 0)).1 := ⟨_, rfl⟩
                obtain ⟨at_, hat⟩ : ∃ x, x = (rr.getD q (0, 0)).2 := ⟨_, rfl⟩
                have hmem : rr.getD q (0, 0) ∈ rr := by
                  have : rr.getD q (0, 0) = rr[q] := by simp [List.getD, hlq]
                  rw [this]
                  exact List.getElem_mem _
                obtain ⟨hjl, hal, hav⟩ := (unhide OK).of_ u hun (rr.getD q (0, 0)) (by rw [← unhide HRR]; exact hmem)
                rw [← hj] at hjl hal hav
                rw [← hat] at hal hav
                obtain ⟨br, orr, er, hcr1, hcr2⟩ := ((unhide RR).old (unhide S4).bel) q hlq
                subst er
                rw [← hj] at hcr1
                rw [← hat] at hcr2
                have hci4 := cell_old (unhide S4).bel hci
                obtain ⟨bi, oi, arow, crow, ei, hcroww, hrow⟩ := (unhide RI) j hjl
                subst ei
                have hcrow := cell_old (unhide S4).bel hcroww
                clear hcroww
                obtain ⟨ba, oa, ea, hca1, hca2, hca3⟩ := (hrow.old (unhide S4).bel) at_ hal
                subst ea
                have k1 : br < wr.heap.size := cell_lt hcr1
                have k2 : pg < wr.heap.size := cell_lt hci4
                have k3 : bi < wr.heap.size := cell_lt hcrow
                have k4 : ba < wr.heap.size := cell_lt hca1
                have k5 : ba < wr.heap.size + 1 := by omega
                have k6 : wc.heap.size < wr.heap.size := (unhide B4).lt
                obtain ⟨row, hrowe⟩ : ∃ row, row = items.getD j [] := ⟨_, rfl⟩
                rw [← hrowe] at hal hcrow hrow hca1 hca2 hca3
                have hav' : (row.getD at_ (0, false, 0)).1 = u := by rw [hrowe]; exact hav
                obtain ⟨wx, hwx⟩ : ∃ x, x = (row.getD at_ (0, false, 0)).2.1 := ⟨_, rfl⟩
                obtain ⟨nw, hnx⟩ : ∃ x, x = (row.getD at_ (0, false, 0)).2.2 := ⟨_, rfl⟩
                rw [hav'] at hca1
                rw [← hwx] at hca2
                rw [← hnx] at hca3
                have hrl4 : row.length ≤ 4096 := by rw [hrowe]; exact unhide HR j
                obtain ⟨m, hm0, hm1', hm2'⟩ := (unhide AB4).2 j hjl
                obtain ⟨mw, hw0, hw1', hw2'⟩ := (unhide AW4).2 j hjl
                have HM0 := hide hm0
                have HM2 := hide hm2'
                have HW0 := hide hw0
                have HW2 := hide hw2'
                have HROW := hide hrow
                have HRE := hide hrowe
                have HJ := hide hj
                have HAT := hide hat
                have HAV := hide hav'
                have HWX := hide hwx
                have HNX := hide hnx
                clear hm0 hm2' hw0 hw2' hrow hrowe hj hat hav' hwx hnx hmem hav
                obtain ⟨w4, hw4⟩ : ∃ x, x = wr := ⟨_, rfl⟩
                subst hw4
                have HCU : Hid (∀ t, C4 t → t < n) := fun t ht => by
                  rcases unhide CB4 t ht with e | e
                  · rw [e]; exact hun
                  · exact (ed_lt (unhide OK) e).2
                cases hwb : wx
                case true =>
                  rw [hwb] at hca2
                  go_wp2_with fail
                  go_quiet (fail)
                  go_wp2_with fail
                  go_loopw [17] (fun i wr => ∃ (c : Nat) (C : Nat → Prop) (nx : Int), i = .int .i64 c ∧ at_ + 1 ≤ c ∧ c ≤ 4097 ∧ BestOf D C nx ∧ (∀ t, C t → t = u ∨ Ed items u t) ∧ (∀ t, C4 t → C t) ∧ (∀ i', at_ < i' → i' < c → i' < row.length → C (acc items j i').1) ∧ CS w1 wr n g w1.heap.size (w1.heap.size + 1) (w1.heap.size + 1 + 1) (.slice avc (nats (s :: path)).length cvc) As4 Ws4 (nats (s :: path)) ∧ Blk wr wc.heap.size 3 [.int .i64 nx] ∧ Blk wr w4.heap.size 61 [.int .i64 j, .int .i64 at_]) (fun i _ => m - (intOf i).toNat)
                  case atStart =>
                    refine ⟨at_ + 1, C4, nx4, by rw [Int.natCast_add]; rfl, Nat.le_refl _, by omega, unhide BO4, unhide CB4, (fun _ h => h), (fun i' h1 h2 _ => by omega), (unhide S4).new (((Chg.alloc _ w4 _).trans (Chg.alloc _ _ _)).trans (Chg.draws _ _ _)), ((unhide B4).alloc _).alloc _, (Blk.new w4 61 [.int .i64 j, .int .i64 at_]).alloc _⟩
                  case round =>
                    obtain ⟨c, C5, nx5, rfl, hca, hc5, hbo, hcb, hsub, hfd, hs5, hb5, hbr⟩ := hrel
                    have BO5 := hide hbo
                    have CB5 := hide hcb
                    have SU5 := hide hsub
                    have FD5 := hide hfd
                    have S5 := hide hs5
                    have B5 := hide hb5
                    have BR5 := hide hbr
                    have hr50 : wr.cell? ⟨w4.heap.size, 0, none⟩ = some (.int .i64 j) := hbr.cell 0
                    have hr51 : wr.cell? ⟨w4.heap.size, 1, none⟩ = some (.int .i64 at_) := hbr.cell 1
                    have hcA := hs5.a.cell (j := j) (by rw [(unhide AB4).1]; exact hjl)
                    rw [unhide HM0] at hcA
                    have hfA := Blk.free hs5.a j
                    clear hbo hcb hsub hfd hs5 hb5 hbr
                    by_cases hlc : c < m
                    · have hcl : c < row.length := by rw [← unhide HRE] at hm1'; omega
                      obtain ⟨ba5, oa5, ea5, hd1, hd2, hd3⟩ := ((unhide HROW).old (unhide S5).bel) c hcl
                      cases ea5
                      obtain ⟨t, ht⟩ : ∃ t, t = (row.getD c (0, false, 0)).1 := ⟨_, rfl⟩
                      rw [← ht] at hd1
                      generalize (row.getD c (0, false, 0)).2.1 = tx at hd2
                      generalize (row.getD c (0, false, 0)).2.2 = tn at hd3
                      have hta : (acc items j c).1 = t := by
                        unfold acc
                        rw [← unhide HRE, ht]
                      have htk : t < n := by
                        rw [← hta]
                        exact (unhide OK).lt j c hjl (by rw [← unhide HRE]; exact hcl)
                      have hed : t = u ∨ Ed items u t := by
                        by_cases e : t = u
                        · exact .inl e
                        · refine .inr ⟨fun h => e h.symm, j, at_, c, hjl, by omega, by rw [← unhide HRE]; exact hcl, ?_, hta, .inl ?_⟩
                          · unfold acc
                            rw [← unhide HRE]
                            exact unhide HAV
                          · unfold acc
                            rw [← unhide HRE, ← unhide HWX]
                            exact hwb
                      have HED := hide hed
                      have HTA := hide hta
                      clear ht hta hed
                      have hcdv := one_cell (unhide S5).dv
                      go_wp2_with fail
                      refine (consider26_any wr n w1.heap.size wc.heap.size g D nx5 t tn tx hcdv ((unhide RD).old (unhide S5).bel) (unhide DD).len (unhide B5) htk ((unhide BO5).range n (fun z hz => by
                        rcases unhide CB5 z hz with e | e
                        · rw [e]; exact hun
                        · exact (ed_lt (unhide OK) e).2))).mono ?_
                      rintro e w6 ⟨rfl, hb6, hc6⟩
                      have na : wc.heap.size ≠ w1.heap.size := by omega
                      have S6 : Hid (CS w1 w6 n g w1.heap.size (w1.heap.size + 1) (w1.heap.size + 1 + 1) (.slice avc (nats (s :: path)).length cvc) As4 Ws4 (nats (s :: path))) := (unhide S5).chg hc6 (fun kk hk e => by omega) (fun e => by omega) (fun e => by omega) (fun e => by omega) (fun kk hk e => by have := ((unhide S2).c.lt hk).2; omega)
                      have B6 := hide hb6
                      have BR6 : Hid (Blk w6 w4.heap.size 61 [.int .i64 j, .int .i64 at_]) := (unhide BR5).chg hc6 (by omega)
                      clear hb6 hc6
                      go_wp2_with fail
                      refine ⟨⟨c + 1, fun z => C5 z ∨ z = t, consN D nx5 t, by rw [Int.natCast_add]; rfl, by omega, by omega, (unhide BO5).step t, (fun z hz => ?_), (fun z hz => .inl (unhide SU5 z hz)), (fun i' h1 h2 h3 => ?_), unhide S6, unhide B6, unhide BR6⟩, by simp [intOf]; omega⟩
                      · rcases hz with e | e
                        · exact unhide CB5 z e
                        · rw [e]; exact unhide HED
                      · by_cases e : i' = c
                        · subst e
                          exact .inr (unhide HTA)
                        · exact .inl (unhide FD5 i' h1 (by omega) h3)
                    · go_wp2_with fail
                      go_region
                      go_wp2_with fail
                      have hmx : (if (at_ : Int) + 1 < (m : Int) then (at_ : Int) + 1 else (m : Int)) = ((min m (at_ + 1) : Nat) : Int) := by split <;> omega
                      have hL : ∀ i, at_ + 1 ≤ i → i < (items.getD j []).length → Old (acc items j i).1 ∨ C5 (acc items j i).1 := fun i h1 h2 => by
                        by_cases h : i < c
                        · exact .inr (unhide FD5 i (by omega) h (by rw [unhide HRE]; exact h2))
                        · rcases unhide HM2 i (by omega) h2 with e | e
                          · exact .inl e
                          · exact .inr (unhide SU5 _ e)
                      have hmono : ∀ t, (Old t ∨ C4 t) → (Old t ∨ C5 t) := fun t ht => ht.elim .inl (fun e => .inr (unhide SU5 t e))
                      refine ⟨⟨q + 1, As4.set j ((min m (at_ + 1) : Nat) : Int), Ws4, C5, nx5, by omega, by rw [Int.natCast_add]; rfl, unhide BO5, unhide CB5, ((unhide AB4).mono hmono).set hjl (unhide HM0) hL, (unhide AW4).mono hmono, fun r hr => ?_, ?_, Blk.other (unhide B5) (by show wc.heap.size ≠ w1.heap.size + 1; omega) _⟩, by simp [intOf]; omega⟩
                      · rw [List.take_succ_eq_append_getElem hlq] at hr
                        rcases List.mem_append.1 hr with hr1 | hr1
                        · exact (unhide RF4 r hr1).mono hmono
                        · have er : r = (j, at_) := by
                            rw [List.mem_singleton.1 hr1, unhide HJ, unhide HAT]
                            simp [List.getD, hlq]
                          rw [er]
                          refine ⟨fun _ i h1 h2 => hL i (by omega) h2, fun hf => ?_⟩
                          have hf' : (row.getD at_ (0, false, 0)).2.1 = false := by rw [unhide HRE]; exact hf
                          rw [← unhide HWX, hwb] at hf'
                          cases hf'
                      · rw [hmx]
                        exact ((unhide S5).seta j _).new (Chg.draws _ _ 1)
                case false =>
                  rw [hwb] at hca2
                  obtain ⟨wrow, hwre⟩ : ∃ x, x = writes.getD j [] := ⟨_, rfl⟩
                  obtain ⟨bwr, owr, awr, cwr, ewr, hcwrw, hwrr⟩ := (unhide RW) j (by rw [List.length_map, (unhide OK).wl]; exact hjl)
                  subst ewr
                  rw [map_ints_at, ← hwre] at hcwrw hwrr
                  rw [ints_len] at hcwrw
                  have hcwr := cell_old (unhide S4).bel hcwrw
                  have hc34 := cell_old (unhide S4).bel hcw
                  have k9 : bwr < w4.heap.size := cell_lt hcwr
                  have k10 : bwr < w4.heap.size + 1 := by omega
                  have k11 : pg < w4.heap.size + 1 := by omega
                  have hwle : wrow.length ≤ 4096 := by rw [hwre]; exact unhide HW j
                  have hnxl : nw ≤ wrow.length := by
                    have := (unhide OK).wc j at_ hjl (by rw [← unhide HRE]; exact hal)
                    rw [hwre, unhide HNX, unhide HRE]
                    exact this
                  have HWE := hide hwre
                  have HWR := hide hwrr
                  clear hwre hwrr hcwrw
                  go_wp2_with fail
                  go_quiet (fail)
                  go_wp2_with fail
                  go_quiet (fail)
                  go_wp2_with fail
                  go_loopw [19] (fun i wr => ∃ (c : Nat) (C : Nat → Prop) (nx : Int), i = .int .i64 c ∧ nw ≤ c ∧ c ≤ 4097 ∧ BestOf D C nx ∧ (∀ t, C t → t = u ∨ Ed items u t) ∧ (∀ t, C4 t → C t) ∧ (∀ i', nw ≤ i' → i' < c → i' < wrow.length → C (acc items j (wrow.getD i' 0).toNat).1) ∧ CS w1 wr n g w1.heap.size (w1.heap.size + 1) (w1.heap.size + 1 + 1) (.slice avc (nats (s :: path)).length cvc) As4 Ws4 (nats (s :: path)) ∧ Blk wr wc.heap.size 3 [.int .i64 nx] ∧ Blk wr w4.heap.size 61 [.int .i64 j, .int .i64 at_] ∧ Blk wr (w4.heap.size + 1) 58 [.int .i64 u, .bool false, .int .i64 nw]) (fun i _ => mw - (intOf i).toNat)
                  case atStart =>
                    refine ⟨nw, C4, nx4, rfl, Nat.le_refl _, by omega, unhide BO4, unhide CB4, (fun _ h => h), (fun i' h1 h2 _ => by omega), (unhide S4).new ((((Chg.alloc _ w4 _).trans (Chg.draws _ _ _)).trans (Chg.alloc _ _ _)).trans (Chg.draws _ _ _)), ((unhide B4).alloc _).alloc _, (Blk.new w4 61 [.int .i64 j, .int .i64 at_]).alloc _, new_2 _ _ _ _⟩
                  case round =>
                    obtain ⟨c, C5, nx5, rfl, hca, hc5, hbo, hcb, hsub, hfd, hs5, hb5, hbr, hbx⟩ := hrel
                    have BO5 := hide hbo
                    have CB5 := hide hcb
                    have SU5 := hide hsub
                    have FD5 := hide hfd
                    have S5 := hide hs5
                    have B5 := hide hb5
                    have BR5 := hide hbr
                    have BX5 := hide hbx
                    have hx52 : wr.cell? ⟨w4.heap.size + 1, 2, none⟩ = some (.int .i64 nw) := hbx.cell 2
                    have hr50 : wr.cell? ⟨w4.heap.size, 0, none⟩ = some (.int .i64 j) := hbr.cell 0
                    have hr51 : wr.cell? ⟨w4.heap.size, 1, none⟩ = some (.int .i64 at_) := hbr.cell 1
                    have hcA := hs5.wb.cell (j := j) (by rw [(unhide AW4).1]; exact hjl)
                    rw [unhide HW0] at hcA
                    have hfA := Blk.free hs5.wb j
                    clear hbo hcb hsub hfd hs5 hb5 hbr hbx
                    by_cases hlc : c < mw
                    · have hcw5 : c < wrow.length := by rw [← unhide HWE] at hw1'; omega
                      obtain ⟨ix, hix0, hixl, hixw⟩ := (unhide OK).wr j c hjl (by rw [← unhide HWE]; exact hcw5)
                      have hixa := (unhide OK).wa j at_ c hjl (by rw [← unhide HRE]; exact hal) (by unfold acc; rw [← unhide HRE, ← unhide HNX]; exact hca) (by rw [← unhide HWE]; exact hcw5)
                      rw [hix0] at hixa
                      have hixne : ix ≠ at_ := by
                        intro e
                        rw [e] at hixw
                        have h2 : (row.getD at_ (0, false, 0)).2.1 = true := by rw [unhide HRE]; exact hixw
                        rw [← unhide HWX, hwb] at h2
                        cases h2
                      have hixlt : at_ < ix := by omega
                      have hixl2 := hixl
                      rw [← unhide HRE] at hixl
                      rw [← unhide HWE] at hix0
                      obtain ⟨bw5, ow5, ew5, hdw⟩ := ((unhide HWR).old (unhide S5).bel).int hcw5
                      cases ew5
                      rw [hix0] at hdw
                      obtain ⟨ba5, oa5, ea5, hd1, hd2, hd3⟩ := ((unhide HROW).old (unhide S5).bel) ix hixl
                      cases ea5
                      obtain ⟨t, ht⟩ : ∃ t, t = (row.getD ix (0, false, 0)).1 := ⟨_, rfl⟩
                      rw [← ht] at hd1
                      generalize (row.getD ix (0, false, 0)).2.1 = tx at hd2
                      generalize (row.getD ix (0, false, 0)).2.2 = tn at hd3
                      have hta : (acc items j ix).1 = t := by
                        unfold acc
                        rw [← unhide HRE, ht]
                      have htk : t < n := by
                        rw [← hta]
                        exact (unhide OK).lt j ix hjl hixl2
                      have hed : t = u ∨ Ed items u t := by
                        by_cases e : t = u
                        · exact .inl e
                        · refine .inr ⟨fun h => e h.symm, j, at_, ix, hjl, hixlt, hixl2, ?_, hta, .inr hixw⟩
                          unfold acc
                          rw [← unhide HRE]
                          exact unhide HAV
                      have HIX := hide hix0
                      clear hix0 hixw hixa hixne hixl2
                      have HED := hide hed
                      have HTA := hide hta
                      clear ht hta hed
                      have hcdv := one_cell (unhide S5).dv
                      go_wp2_with fail
                      refine (consider26_any wr n w1.heap.size wc.heap.size g D nx5 t tn tx hcdv ((unhide RD).old (unhide S5).bel) (unhide DD).len (unhide B5) htk ((unhide BO5).range n (fun z hz => by
                        rcases unhide CB5 z hz with e | e
                        · rw [e]; exact hun
                        · exact (ed_lt (unhide OK) e).2))).mono ?_
                      rintro e w6 ⟨rfl, hb6, hc6⟩
                      have na : wc.heap.size ≠ w1.heap.size := by omega
                      have S6 : Hid (CS w1 w6 n g w1.heap.size (w1.heap.size + 1) (w1.heap.size + 1 + 1) (.slice avc (nats (s :: path)).length cvc) As4 Ws4 (nats (s :: path))) := (unhide S5).chg hc6 (fun kk hk e => by omega) (fun e => by omega) (fun e => by omega) (fun e => by omega) (fun kk hk e => by have := ((unhide S2).c.lt hk).2; omega)
                      have B6 := hide hb6
                      have BR6 : Hid (Blk w6 w4.heap.size 61 [.int .i64 j, .int .i64 at_]) := (unhide BR5).chg hc6 (by omega)
                      have BX6 : Hid (Blk w6 (w4.heap.size + 1) 58 [.int .i64 u, .bool false, .int .i64 nw]) := (unhide BX5).chg hc6 (by omega)
                      clear hb6 hc6
                      go_wp2_with fail
                      refine ⟨⟨c + 1, fun z => C5 z ∨ z = t, consN D nx5 t, by rw [Int.natCast_add]; rfl, by omega, by omega, (unhide BO5).step t, (fun z hz => ?_), (fun z hz => .inl (unhide SU5 z hz)), (fun i' h1 h2 h3 => ?_), unhide S6, unhide B6, unhide BR6, unhide BX6⟩, by simp [intOf]; omega⟩
                      · rcases hz with e | e
                        · exact unhide CB5 z e
                        · rw [e]; exact unhide HED
                      · by_cases e : i' = c
                        · subst e
                          rw [unhide HIX, Int.toNat_natCast]
                          exact .inr (unhide HTA)
                        · exact .inl (unhide FD5 i' h1 (by omega) h3)
                    · go_wp2_with fail
                      go_region
                      go_wp2_with fail
                      have hmx : (if nw < mw then (nw : Int) else (mw : Int)) = ((min mw nw : Nat) : Int) := by split <;> omega
                      have hL : ∀ i, nw ≤ i → i < (writes.getD j []).length → Old (acc items j ((writes.getD j []).getD i 0).toNat).1 ∨ C5 (acc items j ((writes.getD j []).getD i 0).toNat).1 := fun i h1 h2 => by
                        by_cases h : i < c
                        · have := unhide FD5 i h1 h (by rw [unhide HWE]; exact h2)
                          rw [unhide HWE] at this
                          exact .inr this
                        · rcases unhide HW2 i (by omega) h2 with e | e
                          · exact .inl e
                          · exact .inr (unhide SU5 _ e)
                      have hmono : ∀ t, (Old t ∨ C4 t) → (Old t ∨ C5 t) := fun t ht => ht.elim .inl (fun e => .inr (unhide SU5 t e))
                      refine ⟨⟨q + 1, As4, Ws4.set j ((min mw nw : Nat) : Int), C5, nx5, by omega, by rw [Int.natCast_add]; rfl, unhide BO5, unhide CB5, (unhide AB4).mono hmono, ((unhide AW4).mono hmono).set hjl (unhide HW0) hL, fun r hr => ?_, ?_, Blk.other (unhide B5) (by show wc.heap.size ≠ w1.heap.size + 1 + 1; omega) _⟩, by simp [intOf]; omega⟩
                      · rw [List.take_succ_eq_append_getElem hlq] at hr
                        rcases List.mem_append.1 hr with hr1 | hr1
                        · exact (unhide RF4 r hr1).mono hmono
                        · have er : r = (j, at_) := by
                            rw [List.mem_singleton.1 hr1, unhide HJ, unhide HAT]
                            simp [List.getD, hlq]
                          rw [er]
                          refine ⟨fun hf => ?_, fun _ i h1 h2 => hL i (by rw [unhide HNX, unhide HRE]; exact h1) h2⟩
                          have hf' : (row.getD at_ (0, false, 0)).2.1 = true := by rw [unhide HRE]; exact hf
                          rw [← unhide HWX, hwb] at hf'
                          cases hf'
                      · rw [hmx]
                        exact ((unhide S5).setw j _).new (Chg.draws _ _ 1)
              · obtain rfl : q = rr.length := by omega
                have hall : ∀ x, Ed items u x → Old x ∨ C4 x := refa_done (unhide OK) (L := fun t => Old t ∨ C4 t) (by rw [← unhide HRR]; have := unhide RF4; rwa [List.take_length] at this)
                have hpl2 := (unhide PT).len (unhide DD)
                have hus : path ≠ [] → u ≠ s := by
                  intro hp e
                  have hlen : 0 < path.length := by
                    rcases Nat.eq_zero_or_pos path.length with h | h
                    · exact absurd (List.eq_nil_of_length_eq_zero h) hp
                    · exact h
                  have hlast : lastOf s path = path.getD (path.length - 1) 0 := by
                    unfold lastOf
                    obtain ⟨k, hk⟩ : ∃ k, path.length = k + 1 := ⟨path.length - 1, by omega⟩
                    rw [hk]
                    rfl
                  have hpos := ((unhide PT).st (path.length - 1) (by omega)).2.1
                  rw [← hlast, ← unhide HUE, e, (unhide DD).ss.2] at hpos
                  omega
                have hnext : ∃ x : Nat, nx4 = x ∧ Stp items D u x ∧ (path ≠ [] → D.getD x 0 + 1 = D.getD u 0) := by
                  by_cases hp : path = []
                  · have hu : u = s := by rw [unhide HUE, hp]; rfl
                    subst hu
                    obtain ⟨x, h1, h2⟩ := next_s (unhide DD) (unhide BO4) (unhide HON D (unhide DD)) (fun x hx => by
                      rcases hall x hx with h | h
                      · exact absurd h (unhide O1 hp x)
                      · exact h) (unhide CB4)
                    exact ⟨x, h1, h2, fun h => absurd hp h⟩
                  · have h1d : 1 < D.getD u 0 := by
                      rcases hgo with h | h
                      · exact absurd h (hus hp)
                      · rw [← unhide HDU]; exact h
                    obtain ⟨x, h1, h2, h3⟩ := next_u (unhide DD) hun h1d (unhide BO4) (unhide O2 hp) hall (unhide CB4) (fun t ht => (ed_lt (unhide OK) ht).2)
                    exact ⟨x, h1, h2, fun _ => h3⟩
                obtain ⟨x, hx, hstp, hdn⟩ := hnext
                subst hx
                have HALL := hide hall
                have HSTP := hide hstp
                have HDN := hide hdn
                have HUS := hide hus
                clear hall hstp hdn hus
                go_wp2_with (at_builtin; refine wpList_push 22 Try.underlying22 rfl (.tmp 179) (.tmp 181) rfl w1.heap.size (.slice avc (nats (s :: path)).length cvc) (nats (s :: path)) rfl (unhide S4).c x wr.heap.size rfl rfl (by rw [nats_len, List.length_cons]; omega) (unhide S4).le ?_; intro g6 cap6 w6 ho6 hc6 hat6; have hbn6 := one_cell ((unhide B4).chg hc6 (fun e => by have h1 : (Value.slice avc (nats (s :: path)).length cvc).ownBlock = some wc.heap.size := e; have h2 := ((unhide S2).c.lt h1).2; omega)); have HO6 := hide ho6; clear ho6)
                have hxn : x < n := (ed_lt (unhide OK) (unhide HSTP).1).2
                have e1 : nats (s :: (path ++ [x])) = nats (s :: path) ++ [(x : Int)] := by simp [nats]
                refine ⟨⟨path ++ [x], As4, Ws4, fun t => Old t ∨ C4 t, by rw [lastOf_app], (unhide PT).push hxn (by rw [← unhide HUE]; exact unhide HSTP) (fun hp => by rw [← unhide HUE]; exact unhide HDN hp), unhide AB4, unhide AW4, (fun h => absurd h (by simp)), (fun _ => ?_), ?_⟩, by simp only [lenOf, nats_len, List.length_cons]; omega⟩
                · rw [lastOf_app]
                  by_cases hp : path = []
                  · exact next_old (b := D.getD x 0) (unhide BO4) (fun t ht => absurd ht (unhide O1 hp t)) (Int.le_refl _)
                  · exact next_old (b := D.getD u 0) (unhide BO4) (unhide O2 hp) (by have := unhide HDN hp; omega)
                · rw [e1]
                  exact (unhide S4).push (unhide HO6) hc6 hat6
          · have hb1 : bb = false := by rw [unhide HBB]; simp [hgo]
            subst hb1
            have hpl2 := (unhide PT).len (unhide DD)
            go_wp2_with (at_builtin; refine wpList_push 22 Try.underlying22 rfl (.tmp 184) (.tmp 186) rfl w1.heap.size (.slice avc (nats (s :: path)).length cvc) (nats (s :: path)) rfl (unhide S2).c s wc.heap.size rfl rfl (by rw [nats_len, List.length_cons]; omega) (unhide S2).le ?_; intro g6 cap6 w6 ho6 hc6 hat6; have HO6 := hide ho6; clear ho6)
            go_returns
            have hus : u ≠ s := fun e => hgo (.inl e)
            have hpne : path ≠ [] := fun e => by
              apply hus
              rw [unhide HUE, e]
              rfl
            have hlen : 0 < path.length := by
              rcases Nat.eq_zero_or_pos path.length with h | h
              · exact absurd (List.eq_nil_of_length_eq_zero h) hpne
              · exact h
            have hlast : lastOf s path = path.getD (path.length - 1) 0 := by
              unfold lastOf
              obtain ⟨k, hk⟩ : ∃ k, path.length = k + 1 := ⟨path.length - 1, by omega⟩
              rw [hk]
              rfl
            have hpos := ((unhide PT).st (path.length - 1) (by omega)).2.1
            rw [← hlast, ← unhide HUE, ← unhide HDU] at hpos
            have e1 : nats (s :: (path ++ [s])) = nats (s :: path) ++ [(s : Int)] := by simp [nats]
            have hne1 : ¬ 1 < du := fun e => hgo (.inr e)
            refine ⟨⟨D, path, ⟨some ⟨g6, 0, none⟩, cap6, ?_, ?_⟩, by have := unhide DD; rwa [unhide HNE] at this, by have := unhide PT; rwa [unhide HNE] at this, hpne, by rw [← unhide HUE, ← unhide HDU]; omega⟩, ?_⟩
            · rw [e1, List.length_append]
              rfl
            · rw [e1]
              exact (unhide HO6).rd
            · exact below_trans hbel1 ((unhide S2).push (unhide HO6) hc6 hat6).bel
end Go.Proofs.Qxb6614980a
