/-
  zzpb1Build walked.
-/
import Derived.Test.Qxb6614980aBldS
namespace Go.Proofs.Qxb6614980a
open Go.ChangeShapes Go.WideShapes Go.ChangeAt Go.RowKit

theorem blk_at2 (W : World) (k : Nat) (t : TypeId) (C : Array Value) (hk : W.heap.size = k) : Blk (W.alloc (.cells C t)) k t C.toList := by
  subst hk
  exact Blk.new' _ _ _
theorem made_nil (n : Nat) : (madeCells #[Value.slice none 0 0] n).toList = (List.range n).map (fun _ => Value.slice none 0 0) := by
  apply List.ext_getElem
  · simp [madeCells]
  · intro i h1 h2
    simp [madeCells, Nat.mod_one]
theorem OwnI.made (w : World) (B n : Nat) (hB : B ≤ w.heap.size) (hn : n ≤ 1099511627776) : OwnI (w.alloc (.cells (madeCells #[.int .i64 0] n) 3)) B (.slice (some ⟨w.heap.size, 0, none⟩) n n) (List.replicate n 0) := by
  refine ⟨by simp [ints], .inr ⟨w.heap.size, n, madeCells #[.int .i64 0] n, by simp, hB, heap_new w _, by simp, by unfold maxLen; omega, by rw [Nat.mul_one, ← Array.length_toList]; exact made_len _ _, ?_⟩⟩
  rw [List.length_replicate, Nat.mul_one, List.take_of_length_le (by rw [made_len]; exact Nat.le_refl _), made_ints]
theorem b8_start (w : World) (n m : Nat) : B8 w ((((w.alloc (.cells (madeCells #[Value.slice none 0 0] m) 22)).alloc (.cells (madeCells #[Value.slice none 0 0] m) 22)).alloc (.cells (madeCells #[Value.slice none 0 0] n) 22)).alloc (.cells (madeCells #[Value.slice none 0 0] n) 22)) n m 0 (fun _ _ => .slice none 0 0) (fun _ _ => []) (madeCells #[Value.slice none 0 0] m).toList (madeCells #[Value.slice none 0 0] m).toList := by
  refine ⟨?_, ?_, made_len _ _, (fun j hj => by omega), ?_, made_len _ _, (fun j hj => by omega), ?_, ?_, (fun _ _ => OwnI.nil _ _), (fun _ _ _ _ _ k hk => by cases hk)⟩
  · exact ((((Below.refl _ _).alloc (by simp) _).alloc (by simp) _).alloc (by simp; omega) _).alloc (by simp; omega) _
  · exact (((blk_at2 _ _ _ _ rfl).alloc _).alloc _).alloc _
  · exact ((blk_at2 _ _ _ _ (by simp)).alloc _).alloc _
  · rw [← made_nil]; exact (blk_at2 _ _ _ _ (by simp)).alloc _
  · rw [← made_nil]; exact blk_at2 _ _ _ _ (by simp)

set_option maxRecDepth 100000 in
set_option maxHeartbeats 8000000 in
theorem build8_any (lp a1 a2 a3 : Option Addr) (c1 c2 c3 : Nat) (txns : List Int) (items : Rows3) (w : World) (h1 : Rd w a1 (ints txns)) (h2 : RdRows w a2 (items.map fun r => ints (txOf r))) (h3 : RdRows w a3 (items.map fun r => bools (wtOf r)))
    (hlt : ∀ j i, j < items.length → i < (items.getD j []).length → (acc items j i).1 < txns.length) (hc : Counts items) (hn : txns.length ≤ 4096) (hm : items.length ≤ 4096) (ht : total items ≤ 4096) :
    Calls Try.prog 8 #[.pointer lp, .slice a1 txns.length c1, .slice a2 items.length c2, .slice a3 items.length c3] w fun e w' => (∃ pg, e = .returned (.pointer (some ⟨pg, 0, none⟩)) ∧ GMem w' pg (.pointer lp) txns items (writesOf items) (ofsOf txns.length items)) ∧ Below w.heap.size w w' := by
  have H1 := hide h1
  have H2 := hide h2
  have H3 := hide h3
  have HLT := hide hlt
  have HC := hide hc
  have HT := hide ht
  clear h1 h2 h3 hlt hc ht
  obtain ⟨n, hn'⟩ : ∃ n, n = txns.length := ⟨_, rfl⟩
  rw [← hn'] at hn HLT ⊢
  obtain ⟨m, hm'⟩ : ∃ m, m = items.length := ⟨_, rfl⟩
  rw [← hm'] at hm ⊢
  have HN := hide hn'
  have HM := hide hm'
  clear hn' hm'
  have hm1 := run_make_row' (P := Try.prog) 23 22 (.slice none 0 0) 24 Try.underlying23 info22 rfl .i64 .i64 m (by omega) (by omega)
  have hm2 := run_make_row' (P := Try.prog) 23 22 (.slice none 0 0) 24 Try.underlying23 info22 rfl .i64 .i64 n (by omega) (by omega)
  have hm0 : ∀ w : World, Sem.run Try.prog (Instr.makeSlice 22 (.int .i64 0) (.int .i64 0)) w = .ok (.slice (some ⟨w.heap.size, 0, none⟩) 0 0) (w.alloc (.cells (madeCells #[.int .i64 0] 0) 3)) := run_make_row' (P := Try.prog) 22 3 (.int .i64 0) 8 Try.underlying22 info3 rfl .i64 .i64 0 (by omega) (by omega)
  have S0 := hide (b8_start w n m)
  go_enter Try.func8, Try.ntmps8
  go_wp2_with fail
  simp only [Nat.add_assoc, Nat.reduceAdd]
  generalize (((w.alloc (.cells (madeCells #[Value.slice none 0 0] m) 22)).alloc (.cells (madeCells #[Value.slice none 0 0] m) 22)).alloc (.cells (madeCells #[Value.slice none 0 0] n) 22)).alloc (.cells (madeCells #[Value.slice none 0 0] n) 22) = w1 at S0 ⊢
  go_loopw [15] (fun i wr => ∃ (it : Nat) (V : Nat → Nat → Value) (X : Nat → Nat → List Int) (c0 c1 : List Value), it ≤ m ∧ i = .int .i64 it ∧ B8 w wr n m it V X c0 c1 ∧ C8 items it 0 V X ∧ (∀ a, a < 2 → V a it = .slice none 0 0 ∧ X a it = [])) (fun i _ => m - (intOf i).toNat)
  case atStart =>
    exact ⟨0, _, _, _, _, Nat.zero_le _, rfl, unhide S0, ⟨(fun j hj => by omega), (fun j hj => by omega), (fun v => by rw [refsTo_zero]; rfl), (fun v => by rw [refsTo_zero]; rfl), (fun a j _ _ => ⟨rfl, rfl⟩)⟩, (fun a _ => ⟨rfl, rfl⟩)⟩
  case round =>
    obtain ⟨it, V, X, c0, c1', hit, rfl, hs, hcx, hnl⟩ := hrel
    have S1 := hide hs
    have CX := hide hcx
    have NL := hide hnl
    clear hs hcx hnl
    by_cases hlt : it < m
    · have hit' : it < items.length := by rw [← unhide HM]; exact hlt
      obtain ⟨row, hrow⟩ : ∃ row, row = items.getD it [] := ⟨_, rfl⟩
      have hrl : row.length ≤ 4096 := by rw [hrow]; exact Nat.le_trans (row_le items it) (unhide HT)
      obtain ⟨b2, o2, ar2, cr2, e2, hc2w, hr2⟩ := unhide H2 it (by rw [List.length_map]; exact hit')
      obtain ⟨b3, o3, ar3, cr3, e3, hc3w, hr3⟩ := unhide H3 it (by rw [List.length_map]; exact hit')
      subst e2 e3
      rw [mapRow_at (fun r => ints (txOf r)) rfl, ← hrow] at hc2w hr2
      rw [mapRow_at (fun r => bools (wtOf r)) rfl, ← hrow] at hc3w hr3
      have el2 : (ints (txOf row)).length = row.length := by simp [ints, txOf]
      have el3 : (bools (wtOf row)).length = row.length := by simp [bools, wtOf]
      rw [el2] at hc2w
      rw [el3] at hc3w
      have HR2 := hide hr2
      have HR3 := hide hr3
      have HROW := hide hrow
      have hc2 := cell_old (unhide S1).bel hc2w
      have HC2 := hide hc2w
      have HC3 := hide hc3w
      have HIT := hide hit'
      clear hr2 hr3 hrow el2 el3 hc2w hc3w hit'
      have hm3 := run_make_row' (P := Try.prog) 22 3 (.int .i64 0) 8 Try.underlying22 info3 rfl .i64 .i64 row.length (by omega) (by omega)
      have hsz1 := (unhide S1).size
      have S2 : Hid (B8 w ((wr.alloc (.cells (madeCells #[.int .i64 0] row.length) 3)).alloc (.cells (madeCells #[.int .i64 0] 0) 3)) n m it (upd (upd V 0 it (.slice (some ⟨wr.heap.size, 0, none⟩) row.length row.length)) 1 it (.slice (some ⟨wr.heap.size + 1, 0, none⟩) 0 0)) (upd (upd X 0 it (List.replicate row.length 0)) 1 it []) c0 c1') := by
        have h1 := (unhide S1).own01 (a := 0) (by omega) (OwnI.made wr (w.heap.size + 4) row.length hsz1 (by omega)) (Chg.alloc _ _ _) (fun k hk => by cases hk; exact .inr (Nat.le_refl _))
        have h2 := OwnI.made (wr.alloc (.cells (madeCells #[.int .i64 0] row.length) 3)) (w.heap.size + 4) 0 (by simp; omega) (by omega)
        rw [World.size_alloc] at h2
        exact h1.own01 (a := 1) (by omega) h2 (Chg.alloc _ _ _) (fun k hk => by cases hk; exact .inr (by simp))
      have C2 : Hid (C8 items it 0 (upd (upd V 0 it (.slice (some ⟨wr.heap.size, 0, none⟩) row.length row.length)) 1 it (.slice (some ⟨wr.heap.size + 1, 0, none⟩) 0 0)) (upd (upd X 0 it (List.replicate row.length 0)) 1 it [])) := by
        have h := unhide CX
        refine ⟨fun j hj => ?_, fun j hj => ?_, fun v => ?_, fun v => ?_, fun a j ha hj => ?_⟩
        · rw [upd_ne _ _ _ _ (.inl (by omega)), upd_ne _ _ _ _ (.inr (by omega))]; exact h.x0 j hj
        · rw [upd_ne _ _ _ _ (.inr (by omega)), upd_ne _ _ _ _ (.inl (by omega))]; exact h.x1 j hj
        · rw [upd_ne _ _ _ _ (.inl (by omega)), upd_ne _ _ _ _ (.inl (by omega))]; exact h.x2 v
        · rw [upd_ne _ _ _ _ (.inl (by omega)), upd_ne _ _ _ _ (.inl (by omega))]; exact h.x3 v
        · rw [upd_ne _ _ _ _ (.inr (by omega)), upd_ne _ _ _ _ (.inr (by omega)), upd_ne _ _ _ _ (.inr (by omega)), upd_ne _ _ _ _ (.inr (by omega))]; exact h.nil a j ha hj
      have D2 : Hid (D8 items it 0 (upd (upd X 0 it (List.replicate row.length 0)) 1 it [])) := by
        refine ⟨?_, by simp, ?_⟩
        · rw [upd_ne _ _ _ _ (.inl (by omega)), upd_same, List.length_replicate, unhide HROW]
        · rw [upd_same]; rfl
      have hV0 : Hid (upd (upd V 0 it (.slice (some ⟨wr.heap.size, 0, none⟩) row.length row.length)) 1 it (.slice (some ⟨wr.heap.size + 1, 0, none⟩) 0 0) 0 it = .slice (some ⟨wr.heap.size, 0, none⟩) row.length row.length) := by
        show upd _ _ _ _ _ _ = _
        rw [upd_ne _ _ _ _ (.inl (by omega)), upd_same]
      have hV1 : Hid (upd (upd V 0 it (.slice (some ⟨wr.heap.size, 0, none⟩) row.length row.length)) 1 it (.slice (some ⟨wr.heap.size + 1, 0, none⟩) 0 0) 1 it = .slice (some ⟨wr.heap.size + 1, 0, none⟩) 0 0) := upd_same _ _ _ _
      generalize upd (upd V 0 it (.slice (some ⟨wr.heap.size, 0, none⟩) row.length row.length)) 1 it (.slice (some ⟨wr.heap.size + 1, 0, none⟩) 0 0) = V2 at S2 C2 hV0 hV1
      generalize upd (upd X 0 it (List.replicate row.length 0)) 1 it [] = X2 at S2 C2 D2
      go_upto_region 12 with fail
      generalize hgr : wr.heap.size = gr at hV0 hV1 ⊢
      generalize (wr.alloc (.cells (madeCells #[.int .i64 0] row.length) 3)).alloc (.cells (madeCells #[.int .i64 0] 0) 3) = w2 at S2 ⊢
      clear hgr hsz1 hc2 S1 CX NL
      go_wp2_with fail
      go_loopw [17, 18] (fun vw i wr => ∃ (k : Nat) (V : Nat → Nat → Value) (X : Nat → Nat → List Int), k ≤ row.length ∧ i = .int .i64 k ∧ vw = V 1 it ∧ V 0 it = .slice (some ⟨gr, 0, none⟩) row.length row.length ∧ B8 w wr n m it V X c0 c1' ∧ C8 items it k V X ∧ D8 items it k X) (fun _ i _ => row.length - (intOf i).toNat)
      case atStart => exact ⟨0, V2, X2, Nat.zero_le _, rfl, (unhide hV1).symm, unhide hV0, unhide S2, unhide C2, unhide D2⟩
      case round =>
        clear S2 C2 D2 hV0 hV1
        obtain ⟨k, V3, X3, hk, rfl, rfl, hv0, hs, hcx, hdx⟩ := hrel
        have HV0 := hide hv0
        have S3 := hide hs
        have C3 := hide hcx
        have D3 := hide hdx
        clear hv0 hs hcx hdx
        have hc2 := cell_old (unhide S3).bel (unhide HC2)
        have hc3 := cell_old (unhide S3).bel (unhide HC3)
        have hsz3 := (unhide S3).size
        have hXl : X3 1 it = nats (wposN (wtOf row) k) := by rw [unhide HROW]; exact (unhide D3).r1
        obtain ⟨wa, wc, hvw⟩ := ((unhide S3).f.own 1 it).form
        rw [hXl, nats_len] at hvw
        have hwl := wposN_len (wtOf row) k
        obtain ⟨wn, hwn⟩ : ∃ q, q = (wposN (wtOf row) k).length := ⟨_, rfl⟩
        rw [← hwn] at hvw hwl
        rw [hvw]
        have HVW := hide hvw
        have HWN := hide hwn
        have HXL := hide hXl
        clear hvw hwn hXl
        by_cases hlk : k < row.length
        · obtain ⟨t, ht⟩ : ∃ t, t = (row.getD k (0, false, 0)).1 := ⟨_, rfl⟩
          obtain ⟨x, hx⟩ : ∃ t, t = (row.getD k (0, false, 0)).2.1 := ⟨_, rfl⟩
          obtain ⟨p2, r2, f2, g2⟩ := (unhide HR2).int (j := k) (by simp [txOf]; exact hlk)
          obtain ⟨p3, r3, f3, g3⟩ := (unhide HR3).bool (j := k) (by simp [wtOf]; exact hlk)
          subst f2 f3
          rw [show (txOf row).getD k 0 = (t : Int) by rw [ht]; simp [txOf, List.getD, hlk]] at g2
          rw [wtOf_at, ← hx] at g3
          have htn : t < n := by
            have := unhide HLT it k (unhide HIT) (by rw [← unhide HROW]; exact hlk)
            unfold acc at this
            rw [← unhide HROW, ← ht] at this
            exact this
          have G2 := hide g2
          have G3 := hide g3
          clear g2 g3
          have HTT := hide ht
          have HXX := hide hx
          clear ht hx
          -- row[k] = len(ws)
          have hrow0 := (unhide S3).f.own 0 it
          rw [unhide HV0] at hrow0
          have hrl0 : (X3 0 it).length = row.length := by rw [unhide HROW]; exact (unhide D3).l
          have cr := hrow0.cell (j := k) (by rw [hrl0]; exact hlk)
          have fr := hrow0.free k
          generalize (X3 0 it).getD k 0 = y0 at cr
          have hgr := (hrow0.lt (k := gr) rfl).1
          have S4 : Hid (B8 w (wr.setCell ⟨gr, k, none⟩ (.int .i64 (wn : Int))) n m it (upd V3 0 it (.slice (some ⟨gr, 0, none⟩) row.length row.length)) (upd X3 0 it ((X3 0 it).set k (wn : Int))) c0 c1') :=
            (unhide S3).own01 (a := 0) (by omega) (hrow0.set k (wn : Int)) (Chg.setCell wr ⟨gr, k, none⟩ _ (by rw [unhide HV0]; rfl)) (fun q hq => by rw [unhide HV0]; exact .inl hq)
          have HR0 := hide hrow0
          clear hrow0 hrl0
          go_upto_region 16 with fail
          clear cr fr hc2 hc3
          generalize wr.setCell ⟨gr, k, none⟩ (.int .i64 (wn : Int)) = w4 at S4 ⊢
          have hc34 := cell_old (unhide S4).bel (unhide HC3)
          have g34 := cell_old (unhide S4).bel (unhide G3)
          have O4 := (unhide S4).f.own 1 it
          rw [upd_ne _ _ _ _ (.inl (by omega)), upd_ne _ _ _ _ (.inl (by omega)), unhide HVW, unhide HXL] at O4
          have OO4 := hide O4
          have hsz4 := (unhide S4).size
          clear O4
          cases x
          · have S5 : Hid (B8 w w4 n m it (upd (upd V3 0 it (.slice (some ⟨gr, 0, none⟩) row.length row.length)) 1 it (.slice wa wn wc)) (upd (upd X3 0 it ((X3 0 it).set k (wn : Int))) 1 it (nats (wposN (wtOf row) k))) c0 c1') :=
              (unhide S4).own01 (a := 1) (by omega) (unhide OO4) (Chg.refl _ _) (fun q hq => by rw [upd_ne _ _ _ _ (.inl (by omega)), unhide HVW]; exact .inl hq)
            go_upto_region 18 with fail
            obtain ⟨w5, hw5⟩ : ∃ x, x = w4 := ⟨_, rfl⟩
            subst hw5
            clear hc34 g34
            have hc25 := cell_old (unhide S5).bel (unhide HC2)
            have g25 := cell_old (unhide S5).bel (unhide G2)
            obtain ⟨ia, ic, hvi⟩ := ((unhide S5).f.own 2 t).form
            rw [upd_ne _ _ _ _ (.inl (by omega)), upd_ne _ _ _ _ (.inl (by omega)), upd_ne _ _ _ _ (.inl (by omega)), upd_ne _ _ _ _ (.inl (by omega))] at hvi
            have ci5 := (unhide S5).at2 htn
            rw [upd_ne _ _ _ _ (.inl (by omega)), upd_ne _ _ _ _ (.inl (by omega)), hvi] at ci5
            have fi5 := (unhide S5).b2.free t
            have O5 := (unhide S5).f.own 2 t
            rw [upd_ne _ _ _ _ (.inl (by omega)), upd_ne _ _ _ _ (.inl (by omega)), upd_ne _ _ _ _ (.inl (by omega)), upd_ne _ _ _ _ (.inl (by omega)), hvi] at O5
            have OO5 := hide O5
            have HVI := hide hvi
            have hl2 : (X3 2 t).length ≤ 4096 := by
              rw [(unhide C3).x2 t]
              unfold riOf
              rw [List.length_map]
              exact Nat.le_trans (refsTo_len items it k t) (Nat.le_trans (allTo_le items it k (unhide HIT) (by rw [← unhide HROW]; omega)) (unhide HT))
            have hl3 : (X3 3 t).length ≤ 4096 := by
              rw [(unhide C3).x3 t]
              unfold raOf
              rw [List.length_map]
              exact Nat.le_trans (refsTo_len items it k t) (Nat.le_trans (allTo_le items it k (unhide HIT) (by rw [← unhide HROW]; omega)) (unhide HT))
            have hsz5 := (unhide S5).size
            clear O5 hvi
            go_upto_region 20 with (at_builtin; refine wpList_push 22 Try.underlying22 rfl (.tmp 81) (.tmp 83) rfl (w.heap.size + 4) (.slice ia (X3 2 t).length ic) (X3 2 t) rfl (unhide OO5) (it : Int) w5.heap.size rfl rfl (by omega) hsz5 ?_; intro g6 cap6 w6 ho6 hc6 hat6; have b26 := (unhide S5).b2.chg hc6 (fun e => by have := ((unhide OO5).lt e).1; omega); have c26 : ∃ u, w6.cell? ⟨w.heap.size + 2, t, none⟩ = some u := ⟨_, by rw [b26.cell, List.getElem?_eq_getElem (by rw [List.length_map, List.length_range]; exact htn)]⟩; obtain ⟨u26, c26⟩ := c26; have f26 := b26.free t; have HO6 := hide ho6; clear ho6 b26)
            have S6 : Hid (B8 w (w6.setCell ⟨w.heap.size + 2, t, none⟩ (.slice (some ⟨g6, 0, none⟩) ((X3 2 t).length + 1) cap6)) n m it (upd (upd (upd V3 0 it (.slice (some ⟨gr, 0, none⟩) row.length row.length)) 1 it (.slice wa wn wc)) 2 t (.slice (some ⟨g6, 0, none⟩) ((X3 2 t).length + 1) cap6)) (upd (upd (upd X3 0 it ((X3 0 it).set k (wn : Int))) 1 it (nats (wposN (wtOf row) k))) 2 t (X3 2 t ++ [(it : Int)])) c0 c1') := by
              refine (unhide S5).own2 (unhide HO6) ?_ ?_
              · rw [upd_ne _ _ _ _ (.inl (by omega)), upd_ne _ _ _ _ (.inl (by omega)), unhide HVI]; exact hc6
              · intro q hq
                rw [upd_ne _ _ _ _ (.inl (by omega)), upd_ne _ _ _ _ (.inl (by omega)), unhide HVI]
                cases hq
                exact hat6
            clear c26 f26 hc6 hat6 HO6 OO5 ci5 fi5 hc25 g25
            generalize (w6.setCell ⟨w.heap.size + 2, t, none⟩ (.slice (some ⟨g6, 0, none⟩) ((X3 2 t).length + 1) cap6)) = w7 at S6 ⊢
            obtain ⟨ja, jc, hvj⟩ := ((unhide S6).f.own 3 t).form
            rw [upd_ne _ _ _ _ (.inl (by omega)), upd_ne _ _ _ _ (.inl (by omega)), upd_ne _ _ _ _ (.inl (by omega)), upd_ne _ _ _ _ (.inl (by omega)), upd_ne _ _ _ _ (.inl (by omega)), upd_ne _ _ _ _ (.inl (by omega))] at hvj
            have ci7 := (unhide S6).at3 htn
            rw [upd_ne _ _ _ _ (.inl (by omega)), upd_ne _ _ _ _ (.inl (by omega)), upd_ne _ _ _ _ (.inl (by omega)), hvj] at ci7
            have O7 := (unhide S6).f.own 3 t
            rw [upd_ne _ _ _ _ (.inl (by omega)), upd_ne _ _ _ _ (.inl (by omega)), upd_ne _ _ _ _ (.inl (by omega)), upd_ne _ _ _ _ (.inl (by omega)), upd_ne _ _ _ _ (.inl (by omega)), upd_ne _ _ _ _ (.inl (by omega)), hvj] at O7
            have OO7 := hide O7
            have HVJ := hide hvj
            have hsz7 := (unhide S6).size
            clear O7 hvj
            go_wp2_with (at_builtin; refine wpList_push 22 Try.underlying22 rfl (.tmp 91) (.tmp 93) rfl (w.heap.size + 4) (.slice ja (X3 3 t).length jc) (X3 3 t) rfl (unhide OO7) (k : Int) w7.heap.size rfl rfl (by omega) hsz7 ?_; intro g8 cap8 w8 ho8 hc8 hat8; have b38 := (unhide S6).b3.chg hc8 (fun e => by have := ((unhide OO7).lt e).1; omega); have c38 : ∃ u, w8.cell? ⟨w.heap.size + 3, t, none⟩ = some u := ⟨_, by rw [b38.cell, List.getElem?_eq_getElem (by rw [List.length_map, List.length_range]; exact htn)]⟩; obtain ⟨u38, c38⟩ := c38; have f38 := b38.free t; have HO8 := hide ho8; clear ho8 b38)
            have S8 : B8 w (w8.setCell ⟨w.heap.size + 3, t, none⟩ (.slice (some ⟨g8, 0, none⟩) ((X3 3 t).length + 1) cap8)) n m it (upd (upd (upd (upd V3 0 it (.slice (some ⟨gr, 0, none⟩) row.length row.length)) 1 it (.slice wa wn wc)) 2 t (.slice (some ⟨g6, 0, none⟩) ((X3 2 t).length + 1) cap6)) 3 t (.slice (some ⟨g8, 0, none⟩) ((X3 3 t).length + 1) cap8)) (upd (upd (upd (upd X3 0 it ((X3 0 it).set k (wn : Int))) 1 it (nats (wposN (wtOf row) k))) 2 t (X3 2 t ++ [(it : Int)])) 3 t (X3 3 t ++ [(k : Int)])) c0 c1' := by
              refine (unhide S6).own3 (unhide HO8) ?_ ?_
              · rw [upd_ne _ _ _ _ (.inl (by omega)), upd_ne _ _ _ _ (.inl (by omega)), upd_ne _ _ _ _ (.inl (by omega)), unhide HVJ]; exact hc8
              · intro q hq
                rw [upd_ne _ _ _ _ (.inl (by omega)), upd_ne _ _ _ _ (.inl (by omega)), upd_ne _ _ _ _ (.inl (by omega)), unhide HVJ]
                cases hq
                exact hat8
            have hacc : (acc items it k).1 = t := by unfold acc; rw [← unhide HROW]; exact (unhide HTT).symm
            have hyy : (nats (wposN (wtOf row) k)) = nats (wposN (wtOf (items.getD it [])) (k + 1)) := by
              rw [← unhide HROW, wposN_succ, wtOf_at, ← unhide HXX]
              rw [if_neg (by decide), List.append_nil]
            refine ⟨⟨k + 1, _, _, by omega, by rw [Int.natCast_add]; rfl, ?_, ?_, S8, (unhide C3).step hacc _ _ (fun a j ha hj => ?_), ?_⟩, by simp [intOf]; omega⟩
            · rw [upd_ne _ _ _ _ (.inl (by omega)), upd_ne _ _ _ _ (.inl (by omega)), upd_same]
            · rw [upd_ne _ _ _ _ (.inl (by omega)), upd_ne _ _ _ _ (.inl (by omega)), upd_ne _ _ _ _ (.inl (by omega)), upd_same]
            · rw [upd_ne _ _ _ _ (.inl (by omega)), upd_ne _ _ _ _ (.inl (by omega)), upd_ne _ _ _ _ (.inr (by omega)), upd_ne _ _ _ _ (.inr (by omega))]
            · rw [hyy]
              have := (unhide D3).step (unhide HC) (unhide HIT) (by rw [← unhide HROW]; exact hlk) t (X3 2 t ++ [(it : Int)]) (X3 3 t ++ [(k : Int)])
              rw [← unhide HROW, ← unhide HWN] at this
              rw [← unhide HROW]
              exact this
          · go_upto_region 18 with (at_builtin; refine wpList_push 22 Try.underlying22 rfl (.tmp 65) (.tmp 67) rfl (w.heap.size + 4) (.slice wa wn wc) (nats (wposN (wtOf row) k)) rfl (unhide OO4) (k : Int) w4.heap.size rfl rfl (by rw [nats_len, ← unhide HWN]; omega) hsz4 ?_; rw [nats_len, ← unhide HWN]; intro g5 cap5 w5 ho5 hc5 hat5; have HO5 := hide ho5; clear ho5)
            have S5 : Hid (B8 w w5 n m it (upd (upd V3 0 it (.slice (some ⟨gr, 0, none⟩) row.length row.length)) 1 it (.slice (some ⟨g5, 0, none⟩) (wn + 1) cap5)) (upd (upd X3 0 it ((X3 0 it).set k (wn : Int))) 1 it (nats (wposN (wtOf row) k) ++ [(k : Int)])) c0 c1') := by
              refine (unhide S4).own01 (a := 1) (by omega) (unhide HO5) ?_ ?_
              · rw [upd_ne _ _ _ _ (.inl (by omega)), unhide HVW]; exact hc5
              · intro q hq
                rw [upd_ne _ _ _ _ (.inl (by omega)), unhide HVW]
                cases hq
                exact hat5
            clear hc34 g34 HO5 hc5 hat5
            have hc25 := cell_old (unhide S5).bel (unhide HC2)
            have g25 := cell_old (unhide S5).bel (unhide G2)
            obtain ⟨ia, ic, hvi⟩ := ((unhide S5).f.own 2 t).form
            rw [upd_ne _ _ _ _ (.inl (by omega)), upd_ne _ _ _ _ (.inl (by omega)), upd_ne _ _ _ _ (.inl (by omega)), upd_ne _ _ _ _ (.inl (by omega))] at hvi
            have ci5 := (unhide S5).at2 htn
            rw [upd_ne _ _ _ _ (.inl (by omega)), upd_ne _ _ _ _ (.inl (by omega)), hvi] at ci5
            have fi5 := (unhide S5).b2.free t
            have O5 := (unhide S5).f.own 2 t
            rw [upd_ne _ _ _ _ (.inl (by omega)), upd_ne _ _ _ _ (.inl (by omega)), upd_ne _ _ _ _ (.inl (by omega)), upd_ne _ _ _ _ (.inl (by omega)), hvi] at O5
            have OO5 := hide O5
            have HVI := hide hvi
            have hl2 : (X3 2 t).length ≤ 4096 := by
              rw [(unhide C3).x2 t]
              unfold riOf
              rw [List.length_map]
              exact Nat.le_trans (refsTo_len items it k t) (Nat.le_trans (allTo_le items it k (unhide HIT) (by rw [← unhide HROW]; omega)) (unhide HT))
            have hl3 : (X3 3 t).length ≤ 4096 := by
              rw [(unhide C3).x3 t]
              unfold raOf
              rw [List.length_map]
              exact Nat.le_trans (refsTo_len items it k t) (Nat.le_trans (allTo_le items it k (unhide HIT) (by rw [← unhide HROW]; omega)) (unhide HT))
            have hsz5 := (unhide S5).size
            clear O5 hvi
            go_upto_region 20 with (at_builtin; refine wpList_push 22 Try.underlying22 rfl (.tmp 81) (.tmp 83) rfl (w.heap.size + 4) (.slice ia (X3 2 t).length ic) (X3 2 t) rfl (unhide OO5) (it : Int) w5.heap.size rfl rfl (by omega) hsz5 ?_; intro g6 cap6 w6 ho6 hc6 hat6; have b26 := (unhide S5).b2.chg hc6 (fun e => by have := ((unhide OO5).lt e).1; omega); have c26 : ∃ u, w6.cell? ⟨w.heap.size + 2, t, none⟩ = some u := ⟨_, by rw [b26.cell, List.getElem?_eq_getElem (by rw [List.length_map, List.length_range]; exact htn)]⟩; obtain ⟨u26, c26⟩ := c26; have f26 := b26.free t; have HO6 := hide ho6; clear ho6 b26)
            have S6 : Hid (B8 w (w6.setCell ⟨w.heap.size + 2, t, none⟩ (.slice (some ⟨g6, 0, none⟩) ((X3 2 t).length + 1) cap6)) n m it (upd (upd (upd V3 0 it (.slice (some ⟨gr, 0, none⟩) row.length row.length)) 1 it (.slice (some ⟨g5, 0, none⟩) (wn + 1) cap5)) 2 t (.slice (some ⟨g6, 0, none⟩) ((X3 2 t).length + 1) cap6)) (upd (upd (upd X3 0 it ((X3 0 it).set k (wn : Int))) 1 it (nats (wposN (wtOf row) k) ++ [(k : Int)])) 2 t (X3 2 t ++ [(it : Int)])) c0 c1') := by
              refine (unhide S5).own2 (unhide HO6) ?_ ?_
              · rw [upd_ne _ _ _ _ (.inl (by omega)), upd_ne _ _ _ _ (.inl (by omega)), unhide HVI]; exact hc6
              · intro q hq
                rw [upd_ne _ _ _ _ (.inl (by omega)), upd_ne _ _ _ _ (.inl (by omega)), unhide HVI]
                cases hq
                exact hat6
            clear c26 f26 hc6 hat6 HO6 OO5 ci5 fi5 hc25 g25
            generalize (w6.setCell ⟨w.heap.size + 2, t, none⟩ (.slice (some ⟨g6, 0, none⟩) ((X3 2 t).length + 1) cap6)) = w7 at S6 ⊢
            obtain ⟨ja, jc, hvj⟩ := ((unhide S6).f.own 3 t).form
            rw [upd_ne _ _ _ _ (.inl (by omega)), upd_ne _ _ _ _ (.inl (by omega)), upd_ne _ _ _ _ (.inl (by omega)), upd_ne _ _ _ _ (.inl (by omega)), upd_ne _ _ _ _ (.inl (by omega)), upd_ne _ _ _ _ (.inl (by omega))] at hvj
            have ci7 := (unhide S6).at3 htn
            rw [upd_ne _ _ _ _ (.inl (by omega)), upd_ne _ _ _ _ (.inl (by omega)), upd_ne _ _ _ _ (.inl (by omega)), hvj] at ci7
            have O7 := (unhide S6).f.own 3 t
            rw [upd_ne _ _ _ _ (.inl (by omega)), upd_ne _ _ _ _ (.inl (by omega)), upd_ne _ _ _ _ (.inl (by omega)), upd_ne _ _ _ _ (.inl (by omega)), upd_ne _ _ _ _ (.inl (by omega)), upd_ne _ _ _ _ (.inl (by omega)), hvj] at O7
            have OO7 := hide O7
            have HVJ := hide hvj
            have hsz7 := (unhide S6).size
            clear O7 hvj
            go_wp2_with (at_builtin; refine wpList_push 22 Try.underlying22 rfl (.tmp 91) (.tmp 93) rfl (w.heap.size + 4) (.slice ja (X3 3 t).length jc) (X3 3 t) rfl (unhide OO7) (k : Int) w7.heap.size rfl rfl (by omega) hsz7 ?_; intro g8 cap8 w8 ho8 hc8 hat8; have b38 := (unhide S6).b3.chg hc8 (fun e => by have := ((unhide OO7).lt e).1; omega); have c38 : ∃ u, w8.cell? ⟨w.heap.size + 3, t, none⟩ = some u := ⟨_, by rw [b38.cell, List.getElem?_eq_getElem (by rw [List.length_map, List.length_range]; exact htn)]⟩; obtain ⟨u38, c38⟩ := c38; have f38 := b38.free t; have HO8 := hide ho8; clear ho8 b38)
            have S8 : B8 w (w8.setCell ⟨w.heap.size + 3, t, none⟩ (.slice (some ⟨g8, 0, none⟩) ((X3 3 t).length + 1) cap8)) n m it (upd (upd (upd (upd V3 0 it (.slice (some ⟨gr, 0, none⟩) row.length row.length)) 1 it (.slice (some ⟨g5, 0, none⟩) (wn + 1) cap5)) 2 t (.slice (some ⟨g6, 0, none⟩) ((X3 2 t).length + 1) cap6)) 3 t (.slice (some ⟨g8, 0, none⟩) ((X3 3 t).length + 1) cap8)) (upd (upd (upd (upd X3 0 it ((X3 0 it).set k (wn : Int))) 1 it (nats (wposN (wtOf row) k) ++ [(k : Int)])) 2 t (X3 2 t ++ [(it : Int)])) 3 t (X3 3 t ++ [(k : Int)])) c0 c1' := by
              refine (unhide S6).own3 (unhide HO8) ?_ ?_
              · rw [upd_ne _ _ _ _ (.inl (by omega)), upd_ne _ _ _ _ (.inl (by omega)), upd_ne _ _ _ _ (.inl (by omega)), unhide HVJ]; exact hc8
              · intro q hq
                rw [upd_ne _ _ _ _ (.inl (by omega)), upd_ne _ _ _ _ (.inl (by omega)), upd_ne _ _ _ _ (.inl (by omega)), unhide HVJ]
                cases hq
                exact hat8
            have hacc : (acc items it k).1 = t := by unfold acc; rw [← unhide HROW]; exact (unhide HTT).symm
            have hyy : (nats (wposN (wtOf row) k) ++ [(k : Int)]) = nats (wposN (wtOf (items.getD it [])) (k + 1)) := by
              rw [← unhide HROW, wposN_succ, wtOf_at, ← unhide HXX]
              rw [if_pos rfl]; simp [nats]
            refine ⟨⟨k + 1, _, _, by omega, by rw [Int.natCast_add]; rfl, ?_, ?_, S8, (unhide C3).step hacc _ _ (fun a j ha hj => ?_), ?_⟩, by simp [intOf]; omega⟩
            · rw [upd_ne _ _ _ _ (.inl (by omega)), upd_ne _ _ _ _ (.inl (by omega)), upd_same]
            · rw [upd_ne _ _ _ _ (.inl (by omega)), upd_ne _ _ _ _ (.inl (by omega)), upd_ne _ _ _ _ (.inl (by omega)), upd_same]
            · rw [upd_ne _ _ _ _ (.inl (by omega)), upd_ne _ _ _ _ (.inl (by omega)), upd_ne _ _ _ _ (.inr (by omega)), upd_ne _ _ _ _ (.inr (by omega))]
            · rw [hyy]
              have := (unhide D3).step (unhide HC) (unhide HIT) (by rw [← unhide HROW]; exact hlk) t (X3 2 t ++ [(it : Int)]) (X3 3 t ++ [(k : Int)])
              rw [← unhide HROW, ← unhide HWN] at this
              rw [← unhide HROW]
              exact this
        · obtain rfl : k = row.length := by omega
          have hl0 := (unhide S3).l0
          have hl1 := (unhide S3).l1
          obtain ⟨u0, d0⟩ : ∃ u, wr.cell? ⟨w.heap.size, it, none⟩ = some u := ⟨_, by rw [(unhide S3).b0.cell, List.getElem?_eq_getElem (by omega)]⟩
          obtain ⟨u1, d1⟩ : ∃ u, wr.cell? ⟨w.heap.size + 1, it, none⟩ = some u := ⟨_, by rw [(unhide S3).b1.cell, List.getElem?_eq_getElem (by omega)]⟩
          have f0 := (unhide S3).b0.free it
          have f1 := (unhide S3).b1.free it
          have S9 := (unhide S3).done hlt
          rw [unhide HV0, unhide HVW] at S9
          have SS9 := hide S9
          clear S9 hl0 hl1
          go_wp2_with fail
          have hnx : C8 items (it + 1) 0 V3 X3 := by
            have h1 := unhide C3
            have h2 := unhide D3
            rw [unhide HROW] at h1 h2
            exact h1.next h2
          exact ⟨⟨it + 1, V3, X3, _, _, by omega, by rw [Int.natCast_add]; rfl, unhide SS9, hnx, fun a ha => (unhide C3).nil a (it + 1) ha (by omega)⟩, by simp [intOf]; omega⟩
    · obtain rfl : it = m := by omega
      have hml := unhide HM
      have hX := unhide CX
      have R4 : Hid (RdRows wr (some ⟨w.heap.size, 0, none⟩) (items.map fun r => ints (ctOf r))) := by
        intro j hj
        rw [List.length_map, ← hml] at hj
        have ho := (unhide S1).f.own 0 j
        obtain ⟨a, c, hv⟩ := ho.form
        have hcell := (unhide S1).b0.cell j
        rw [(unhide S1).r0 j hj, hv] at hcell
        rw [hv] at ho
        rw [mapRow_at (fun r => ints (ctOf r)) rfl, ints_len, ← hX.x0 j hj]
        exact ⟨w.heap.size, 0, a, c, rfl, by rw [Nat.zero_add]; exact hcell, ho.rd⟩
      have R5 : Hid (RdRows wr (some ⟨w.heap.size + 1, 0, none⟩) ((writesOf items).map ints)) := by
        intro j hj
        rw [List.length_map, writesOf, List.length_map, ← hml] at hj
        have ho := (unhide S1).f.own 1 j
        obtain ⟨a, c, hv⟩ := ho.form
        have hcell := (unhide S1).b1.cell j
        rw [(unhide S1).r1 j hj, hv] at hcell
        rw [hv] at ho
        rw [mapRow_at ints rfl, ints_len, writesOf_at, ← hX.x1 j hj]
        exact ⟨w.heap.size + 1, 0, a, c, rfl, by rw [Nat.zero_add]; exact hcell, ho.rd⟩
      have R6 : Hid (RdRows wr (some ⟨w.heap.size + 2, 0, none⟩) ((ofsOf n items).map fun r => ints (riOf r))) := by
        intro j hj
        rw [List.length_map, ofsOf, List.length_map, List.length_range] at hj
        have ho := (unhide S1).f.own 2 j
        obtain ⟨a, c, hv⟩ := ho.form
        have hcell := (unhide S1).at2 hj
        rw [hv] at hcell
        rw [hv] at ho
        rw [mapRow_at (fun r => ints (riOf r)) rfl, ints_len, ofsOf_at _ _ _ hj, ← hml, ← hX.x2 j]
        exact ⟨w.heap.size + 2, 0, a, c, rfl, by rw [Nat.zero_add]; exact hcell, ho.rd⟩
      have R7 : Hid (RdRows wr (some ⟨w.heap.size + 3, 0, none⟩) ((ofsOf n items).map fun r => ints (raOf r))) := by
        intro j hj
        rw [List.length_map, ofsOf, List.length_map, List.length_range] at hj
        have ho := (unhide S1).f.own 3 j
        obtain ⟨a, c, hv⟩ := ho.form
        have hcell := (unhide S1).at3 hj
        rw [hv] at hcell
        rw [hv] at ho
        rw [mapRow_at (fun r => ints (raOf r)) rfl, ints_len, ofsOf_at _ _ _ hj, ← hml, ← hX.x3 j]
        exact ⟨w.heap.size + 3, 0, a, c, rfl, by rw [Nat.zero_add]; exact hcell, ho.rd⟩
      have hol : (ofsOf n items).length = n := by simp [ofsOf]
      have hob : ∀ j, ((ofsOf n items).getD j []).length ≤ 1048576 := by
        intro j
        by_cases hj : j < n
        · rw [ofsOf_at _ _ _ hj]
          have h1 := refsTo_len items items.length 0 j
          have h2 := allTo_end items
          have h3 : total items ≤ 4096 := unhide HT
          omega
        · rw [show (ofsOf n items).getD j [] = [] by simp [List.getD, List.getElem?_eq_none (show (ofsOf n items).length ≤ j by rw [hol]; omega)]]
          simp
      have CC := graph15_any lp a1 (some ⟨w.heap.size + 1, 0, none⟩) a2 a3 (some ⟨w.heap.size, 0, none⟩) (some ⟨w.heap.size + 2, 0, none⟩) (some ⟨w.heap.size + 3, 0, none⟩) n c1 it it c2 c3 it n n items (ofsOf n items) wr ((unhide H2).old (unhide S1).bel) ((unhide H3).old (unhide S1).bel) (unhide R4) (unhide R6) (unhide R7) (by omega) (by omega) (fun j => Nat.le_trans (row_le items j) (unhide HT)) hob
      rw [← hml, hol] at CC
      have HCC := hide CC
      have HML := hide hml
      have HOL := hide hol
      clear CC hml hol hob hX
      go_wp2_with fail
      refine (unhide HCC).mono ?_
      rintro e w9 ⟨⟨pg, rfl, q0, q1, ⟨ai, cai, q2, q2r⟩, q3, ⟨ao, cao, q4, q4r⟩⟩, hb9⟩
      have GM : Hid (GMem w9 pg (.pointer lp) txns items (writesOf items) (ofsOf n items)) := by
        refine ⟨q0, ⟨a1, c1, by rw [← unhide HN]; exact q1, ((unhide H1).old (unhide S1).bel).old hb9⟩, ⟨ai, cai, by rw [← unhide HML]; exact q2, q2r⟩, ⟨some ⟨w.heap.size + 1, 0, none⟩, it, by rw [show (writesOf items).length = it by rw [writesOf, List.length_map]; exact (unhide HML).symm]; exact q3, (unhide R5).old hb9⟩, ⟨ao, cao, by rw [unhide HOL]; exact q4, q4r⟩⟩
      have BB := below_trans (unhide S1).bel hb9
      clear q0 q1 q2 q2r q3 q4 q4r
      go_wp2_with fail
      go_returns
      exact ⟨⟨pg, rfl, unhide GM⟩, BB⟩
end Go.Proofs.Qxb6614980a
