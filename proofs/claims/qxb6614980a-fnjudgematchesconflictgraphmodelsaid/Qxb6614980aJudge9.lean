/-
  Judge walked.
-/
import Derived.Test.Qxb6614980aLaws
import Derived.Test.Qxb6614980aRed16
import Derived.Test.Qxb6614980aOrd17
import Derived.Test.Qxb6614980aNum18
import Derived.Test.Qxb6614980aCycle19
import Derived.Test.Qxb6614980aLow20
namespace Go.Proofs.Qxb6614980a
open Go.ChangeShapes Go.WideShapes Go.ChangeAt Go.RowKit

/-- What Judge returns. -/
def RetV (w' : World) (txns : List Int) (items : Rows3) (lp : Option Addr) (e : Ending) : Prop :=
  (∃ a c ord, e = .returned (.agg #[.bool true, .int .i64 (txns.length : Int), .slice a txns.length c, .slice none 0 0, .pointer lp]) ∧ ord.length = txns.length ∧ Kahn txns.length (redAll (bares items)) ord ∧ Rd w' a (ints (ord.map fun v => txns.getD v 0))) ∨
  (∃ a c s path D, e = .returned (.agg #[.bool false, .int .i64 (txns.length : Int), .slice none 0 0, .slice a (path.length + 2) c, .pointer lp]) ∧ Least (redAll (bares items)) (fun x => x < txns.length) (s : Nat) ∧ s < txns.length ∧ Dist txns.length s items D ∧ Pth txns.length s items D path ∧ path ≠ [] ∧ D.getD (lastOf s path) 0 = 1 ∧ Rd w' a (ints ((s :: path ++ [s]).map fun v => txns.getD v 0)) ∧ ∃ ord, Kahn txns.length (redAll (bares items)) ord ∧ ord.length ≠ txns.length)

theorem info37 : (Try.prog.info? 37).map (fun i => (i.zero, i.size, i.bytes)) = some (some (.agg #[.bool false, .int .i64 0, .slice none 0 0, .slice none 0 0, .pointer none]), 5, 72) := by kernel_rfl

set_option maxRecDepth 100000 in
set_option maxHeartbeats 4000000 in
theorem judge9_any (pg : Nat) (lp : Option Addr) (txns : List Int) (items : Rows3) (writes : List (List Int)) (ofs : List (List (Nat × Nat))) (w : World) (h : GMem w pg (.pointer lp) txns items writes ofs) (hok : GOk txns.length items writes ofs)
    (hn : txns.length ≤ 4096) (hi : items.length ≤ 4096) (hr : ∀ j, (items.getD j []).length ≤ 4096) (hw : ∀ j, (writes.getD j []).length ≤ 4096) (ho : ∀ j, (ofs.getD j []).length ≤ 1048576) (hes : (redAll (bares items)).length ≤ 1099511627776) :
    Calls Try.prog 9 #[.pointer (some ⟨pg, 0, none⟩)] w fun e w' => RetV w' txns items lp e ∧ Below w.heap.size w w' := by
  have HM := hide h
  have HOK := hide hok
  have HR := hide hr
  have HW := hide hw
  have HO := hide ho
  have hgood : ∀ row ∈ bares items, ∀ a ∈ row, a.1 < txns.length := by
    intro row hrow a ha
    obtain ⟨j, hj, rfl⟩ := List.getElem_of_mem hrow
    obtain ⟨i, hi', rfl⟩ := List.getElem_of_mem ha
    have hj' : j < items.length := by rw [bares_len] at hj; exact hj
    have e1 : (bares items)[j] = (bares items).getD j [] := by simp [List.getD, hj]
    have e2 : (bares items)[j][i] = ((bares items).getD j []).getD i (0, false) := by rw [← e1]; simp [List.getD, hi']
    have hi2 : i < (items.getD j []).length := by
      have : (bares items)[j].length = (items.getD j []).length := by rw [e1, bares_at, bare_len]
      omega
    have e3 := acc_bare items j i
    unfold ra at e3
    rw [e2, e3]
    exact hok.lt j i hj' hi2
  have hG : GoodE txns.length (redAll (bares items)) := red_good _ _ hgood _ (Nat.le_refl _)
  have HGD := hide hgood
  have HG := hide hG
  obtain ⟨ta, tc, htx, htr⟩ := h.txns
  have hlk := h.lk
  have HTR := hide htr
  have HTX := hide htx
  have hpl : pg < w.heap.size := cell_lt hlk
  clear h hok hr hw ho hgood hG htr
  go_enter Try.func9, Try.ntmps9
  go_wp2_with fail
  go_region
  go_wp2_with fail
  obtain ⟨w1, hw1⟩ : ∃ q, q = ((w.alloc (.cells #[.bool false, .int .i64 0, .slice none 0 0, .slice none 0 0, .pointer none] 37)).alloc (.cells #[.bool false, .int .i64 (txns.length : Int), .slice none 0 0, .slice none 0 0, .pointer lp] 37)).drew := ⟨_, rfl⟩
  have BR : Hid (Blk w1 w.heap.size 37 [.bool false, .int .i64 0, .slice none 0 0, .slice none 0 0, .pointer none]) := by
    rw [hw1]
    exact ((Blk.new' w 37 #[.bool false, .int .i64 0, .slice none 0 0, .slice none 0 0, .pointer none]).alloc _).draws 1
  have BV : Hid (Blk w1 (w.heap.size + 1) 37 [.bool false, .int .i64 (txns.length : Int), .slice none 0 0, .slice none 0 0, .pointer lp]) := by
    rw [hw1]
    have := Blk.new' (w.alloc (.cells #[.bool false, .int .i64 0, .slice none 0 0, .slice none 0 0, .pointer none] 37)) 37 #[.bool false, .int .i64 (txns.length : Int), .slice none 0 0, .slice none 0 0, .pointer lp]
    rw [World.size_alloc] at this
    exact this.draws 1
  have B1 : Hid (Below w.heap.size w w1) := by
    rw [hw1]
    exact below_draws ((below_new w _).alloc (by simp) _) 1
  rw [← hw1]
  clear hw1
  have hs1 : w.heap.size + 1 < w1.heap.size := (unhide BV).lt
  refine (red16_any pg (.pointer lp) txns items writes ofs w1 ((unhide HM).old (unhide B1)) hn hi (fun j _ => unhide HR j) (unhide HGD)).mono ?_
  rintro e w2 ⟨⟨a1, c1, a2, c2, T, rfl, q1, q2, q3, q4, q5⟩, hb2⟩
  have Q1 := hide q1
  have Q2 := hide q2
  have Q3 := hide q3
  have Q4 := hide q4
  have Q5 := hide q5
  have B2 := hide (below_trans (unhide B1) hb2)
  have BR2 := hide ((unhide BR).old hb2)
  have BV2 := hide ((unhide BV).old hb2)
  have hs2 := hb2.size
  clear q1 q2 q3 q4 q5
  obtain ⟨es, hes'⟩ : ∃ q, q = redAll (bares items) := ⟨_, rfl⟩
  rw [← hes'] at hes
  rw [← hes'] at HG Q1 Q2 Q3 Q5 ⊢
  have HES := hide hes'
  clear hes' B1 BR BV hb2
  go_upto_region 3 with fail
  obtain ⟨w3, hw3⟩ : ∃ q, q = w2.alloc (.cells #[.slice a1 (txns.length + 1) c1, .slice a2 es.length c2] 49) := ⟨_, rfl⟩
  have hb3 : Below w2.heap.size w2 w3 := by rw [hw3]; exact below_new _ _
  have BA3 : Hid (Blk w3 w2.heap.size 49 [.slice a1 (txns.length + 1) c1, .slice a2 es.length c2]) := by rw [hw3]; exact Blk.new' _ _ _
  rw [← hw3]
  have B3 := hide (below_trans (unhide B2) hb3)
  have BR3 := hide ((unhide BR2).old hb3)
  have BV3 := hide ((unhide BV2).old hb3)
  have hs3 : w2.heap.size < w3.heap.size := (unhide BA3).lt
  have P1 := hide ((unhide Q1).old hb3)
  have P4 := hide ((unhide Q4).old hb3)
  generalize w2.heap.size = ba at hs2 BA3 hs3 ⊢
  clear hw3 hb3 B2 BR2 BV2 Q1 Q4
  have d0 : w3.cell? ⟨ba, 0, none⟩ = some (.slice a1 (txns.length + 1) c1) := (unhide BA3).cell 0
  have d1 : w3.cell? ⟨ba, 1, none⟩ = some (.slice a2 es.length c2) := (unhide BA3).cell 1
  go_wp2_with fail
  refine (order17_any txns.length es a1 a2 c1 c2 T w3 (unhide P1) (unhide Q2) (unhide Q3) (unhide P4) (unhide Q5) (unhide HG) hn hes).mono ?_
  rintro e w4 ⟨⟨a, c, ord, rfl, hRo, hK, hfr⟩, hb4⟩
  have HFR := hide hfr
  have KN := hide hK
  have hol : ord.length ≤ 4096 := by have := hK.t.len; omega
  have RO := hide hRo
  have B4 := hide (below_trans (unhide B3) hb4)
  have BR4 := hide ((unhide BR3).old hb4)
  have BV4 := hide ((unhide BV3).old hb4)
  have BA4 := hide ((unhide BA3).old hb4)
  have hs4 := hb4.size
  have P14 := hide ((unhide P1).old hb4)
  have P44 := hide ((unhide P4).old hb4)
  have hpl4 : pg < w.heap.size := hpl
  clear hRo hK hb4 hfr B3 BR3 BV3 BA3 P1 P4 d0 d1 htx hlk
  by_cases hfull : ord.length = txns.length
  · rw [decide_eq_true hfull]
    have f0 := (unhide BV4).free 0
    have c0 : w4.cell? ⟨w.heap.size + 1, 0, none⟩ = some (.bool false) := (unhide BV4).cell 0
    go_upto_region 6 with fail
    have BV5 := hide ((unhide BV4).set 0 (.bool true))
    have hc5 : Chg (fun k => k = w.heap.size + 1) w4 (w4.setCell ⟨w.heap.size + 1, 0, none⟩ (.bool true)) := Chg.setCell w4 ⟨w.heap.size + 1, 0, none⟩ _ rfl
    have BR5 := hide ((unhide BR4).chg hc5 (by omega))
    have B5 := hide ((unhide B4).trans (hc5.below (unhide B4).size (fun k e => by omega)))
    have RO5 : Hid (Rd (w4.setCell ⟨w.heap.size + 1, 0, none⟩ (.bool true)) a (ints (nats ord))) := by
      intro j hj
      obtain ⟨b, off, e1, e2⟩ := unhide RO j hj
      have hb := unhide HFR b off e1
      have hbl := cell_lt (e2.trans (List.getElem?_eq_getElem hj))
      exact ⟨b, off, e1, by rw [hc5.cell hbl (by show ¬ b = _; omega)]; exact e2⟩
    have hw5s : (w4.setCell ⟨w.heap.size + 1, 0, none⟩ (.bool true)).heap.size = w4.heap.size := by simp [World.setCell]
    clear hc5 BV4 BR4 B4 f0 c0
    generalize w4.setCell ⟨w.heap.size + 1, 0, none⟩ (.bool true) = w5 at BV5 BR5 B5 RO5 hw5s ⊢
    have CC := numbers18_any pg txns ta tc ord a c w5 (cell_old (unhide B5) (unhide HTX)) ((unhide HTR).old (unhide B5)) (unhide RO5) (unhide KN).t.lt (by omega)
    rw [hfull] at CC
    have HCC := hide CC
    clear CC
    go_wp2_with fail
    refine (unhide HCC).mono ?_
    rintro e w6 ⟨⟨g6, c6, rfl, hg6, hR6⟩, hb6⟩
    have R6 := hide hR6
    have B6 := hide (below_trans (unhide B5) hb6)
    have BR6 := hide ((unhide BR5).old hb6)
    have BV6 := hide ((unhide BV5).old hb6)
    have hs6 := hb6.size
    clear hR6 hb6 HCC
    have x0 : w6.cell? ⟨w.heap.size + 1, 0, none⟩ = some (.bool true) := (unhide BV6).cell 0
    have x1 : w6.cell? ⟨w.heap.size + 1, 1, none⟩ = some (.int .i64 (txns.length : Int)) := (unhide BV6).cell 1
    have x2 : w6.cell? ⟨w.heap.size + 1, 2, none⟩ = some (.slice none 0 0) := (unhide BV6).cell 2
    have x3 : w6.cell? ⟨w.heap.size + 1, 3, none⟩ = some (.slice none 0 0) := (unhide BV6).cell 3
    have x4 : w6.cell? ⟨w.heap.size + 1, 4, none⟩ = some (.pointer lp) := (unhide BV6).cell 4
    have g2 := (unhide BV6).free 2
    have y0 : w6.cell? ⟨w.heap.size, 0, none⟩ = some (.bool false) := (unhide BR6).cell 0
    have y1 : w6.cell? ⟨w.heap.size, 1, none⟩ = some (.int .i64 0) := (unhide BR6).cell 1
    have y2 : w6.cell? ⟨w.heap.size, 2, none⟩ = some (.slice none 0 0) := (unhide BR6).cell 2
    have y3 : w6.cell? ⟨w.heap.size, 3, none⟩ = some (.slice none 0 0) := (unhide BR6).cell 3
    have y4 : w6.cell? ⟨w.heap.size, 4, none⟩ = some (.pointer none) := (unhide BR6).cell 4
    have z0 := (unhide BR6).free 0
    have z1 := (unhide BR6).free 1
    have z2 := (unhide BR6).free 2
    have z3 := (unhide BR6).free 3
    have z4 := (unhide BR6).free 4
    go_wp2_with fail
    obtain ⟨W, hW⟩ : ∃ q, q = ((((((w6.setCell ⟨w.heap.size + 1, 2, none⟩ (.slice (some ⟨g6, 0, none⟩) txns.length c6)).setCell ⟨w.heap.size, 0, none⟩ (.bool true)).setCell ⟨w.heap.size, 1, none⟩ (.int .i64 (txns.length : Int))).setCell ⟨w.heap.size, 2, none⟩ (.slice (some ⟨g6, 0, none⟩) txns.length c6)).setCell ⟨w.heap.size, 3, none⟩ (.slice none 0 0)).setCell ⟨w.heap.size, 4, none⟩ (.pointer lp)) := ⟨_, rfl⟩
    have hcW : Chg (fun k => k = w.heap.size ∨ k = w.heap.size + 1) w6 W := by
      rw [hW]
      exact (((((Chg.setCell _ _ _ (.inr rfl)).trans (Chg.setCell _ _ _ (.inl rfl))).trans (Chg.setCell _ _ _ (.inl rfl))).trans (Chg.setCell _ _ _ (.inl rfl))).trans (Chg.setCell _ _ _ (.inl rfl))).trans (Chg.setCell _ _ _ (.inl rfl))
    have BW : Blk W w.heap.size 37 [.bool true, .int .i64 (txns.length : Int), .slice (some ⟨g6, 0, none⟩) txns.length c6, .slice none 0 0, .pointer lp] := by
      rw [hW]
      exact ((((((unhide BR6).other (by show w.heap.size ≠ w.heap.size + 1; omega) _).set 0 _).set 1 _).set 2 _).set 3 _).set 4 _
    rw [← hW]
    have v0 := BW.cell 0
    have v1 := BW.cell 1
    have v2 := BW.cell 2
    have v3 := BW.cell 3
    have v4 := BW.cell 4
    simp only [List.getElem?_cons_zero, List.getElem?_cons_succ] at v0 v1 v2 v3 v4
    clear hW BW x0 x1 x2 x3 x4 g2 y0 y1 y2 y3 y4 z0 z1 z2 z3 z4
    have BF := (unhide B6).trans (hcW.below (unhide B6).size (fun k e => by rcases e with e | e <;> omega))
    have RF : Rd W (some ⟨g6, 0, none⟩) (ints (ord.map fun v => txns.getD v 0)) := by
      intro j hj
      obtain ⟨b, off, e1, e2⟩ := unhide R6 j hj
      cases e1
      have hbl := cell_lt (e2.trans (List.getElem?_eq_getElem hj))
      exact ⟨g6, 0, rfl, by rw [hcW.cell hbl (by show ¬ (g6 = _ ∨ g6 = _); omega)]; exact e2⟩
    have HRF := hide RF
    have HBF := hide BF
    have HFULL := hide hfull
    clear RF BF hcW hfull
    refine bodyPost_ret (by simp [results, Try.results9, go_sem, v0, v1, v2, v3, v4]; try rfl) rfl ?_
    refine ⟨.inl ⟨some ⟨g6, 0, none⟩, c6, ord, rfl, unhide HFULL, ?_, unhide HRF⟩, unhide HBF⟩
    rw [← unhide HES]
    exact unhide KN
  · rw [decide_eq_false hfull]
    have c0 : w4.cell? ⟨ba, 0, none⟩ = some (.slice a1 (txns.length + 1) c1) := (unhide BA4).cell 0
    have c1' : w4.cell? ⟨ba, 1, none⟩ = some (.slice a2 es.length c2) := (unhide BA4).cell 1
    go_wp2_with fail
    refine (low20_any txns.length es a1 a2 c1 c2 T w4 (unhide P14) (unhide Q2) (unhide Q3) (unhide P44) (unhide HG) hn hes).mono ?_
    rintro e w5 ⟨⟨ls, rfl, hls⟩, hb5⟩
    obtain ⟨s, rfl, hsn, hon⟩ : ∃ s : Nat, ls = (s : Int) ∧ s < txns.length ∧ OnC es s := by
      rcases hls with ⟨_, q⟩ | ⟨s, q1, q2, q3, _⟩
      · obtain ⟨x, hx, hc⟩ := kahn_cycle (unhide HG) (unhide KN) hfull
        exact absurd hc (q x hx)
      · exact ⟨s, q1, q2, q3⟩
    have HLS := hide hls
    have HON := hide hon
    have B5 := hide (below_trans (unhide B4) hb5)
    have BR5 := hide ((unhide BR4).old hb5)
    have BV5 := hide ((unhide BV4).old hb5)
    have hs5 := hb5.size
    clear hls hon hb5 B4 BR4 BV4 BA4 c0 c1'
    go_wp2_with fail
    refine (cycle19_any pg s (.pointer lp) txns items writes ofs w5 ((unhide HM).old (unhide B5)) (unhide HOK) hsn hn hi (unhide HR) (unhide HW) (unhide HO) (onc_hon (unhide HG) (fun e he => red_ed items e (by rw [← unhide HES]; exact he)) (unhide HON))).mono ?_
    rintro e w6 ⟨⟨D, path, ⟨a6, c6, rfl, hR6⟩, hD, hP, hne, hla⟩, hb6⟩
    have hpl6 : path.length ≤ txns.length := hP.len hD
    have hlen6 : (nats (s :: path ++ [s])).length = path.length + 2 := by simp [nats]
    have DD := hide hD
    have PP := hide hP
    have HNE := hide hne
    have HLA := hide hla
    have R6 := hide hR6
    have B6 := hide (below_trans (unhide B5) hb6)
    have BR6 := hide ((unhide BR5).old hb6)
    have BV6 := hide ((unhide BV5).old hb6)
    have hs6 := hb6.size
    rw [hlen6]
    clear hD hP hne hla hR6 hb6 B5 BR5 BV5 hlen6
    go_wp2_with fail
    have hlv : (s :: path ++ [s]).length = path.length + 2 := by simp
    have CC := numbers18_any pg txns ta tc (s :: path ++ [s]) a6 c6 w6 (cell_old (unhide B6) (unhide HTX)) ((unhide HTR).old (unhide B6)) (unhide R6) (fun v hv => by
      rcases List.mem_append.1 hv with q | q
      · rcases List.mem_cons.1 q with q | q
        · rw [q]; exact hsn
        · exact (unhide PP).lt v q
      · simp at q; rw [q]; exact hsn) (by rw [hlv]; omega)
    rw [hlv] at CC
    refine CC.mono ?_
    rintro e w7 ⟨⟨g7, c7, rfl, hg7, hR7⟩, hb7⟩
    have R7 := hide hR7
    have B7 := hide (below_trans (unhide B6) hb7)
    have BR7 := hide ((unhide BR6).old hb7)
    have BV7 := hide ((unhide BV6).old hb7)
    have hs7 := hb7.size
    clear hR7 hb7 CC B6 BR6 BV6
    have x0 : w7.cell? ⟨w.heap.size + 1, 0, none⟩ = some (.bool false) := (unhide BV7).cell 0
    have x1 : w7.cell? ⟨w.heap.size + 1, 1, none⟩ = some (.int .i64 (txns.length : Int)) := (unhide BV7).cell 1
    have x2 : w7.cell? ⟨w.heap.size + 1, 2, none⟩ = some (.slice none 0 0) := (unhide BV7).cell 2
    have x3 : w7.cell? ⟨w.heap.size + 1, 3, none⟩ = some (.slice none 0 0) := (unhide BV7).cell 3
    have x4 : w7.cell? ⟨w.heap.size + 1, 4, none⟩ = some (.pointer lp) := (unhide BV7).cell 4
    have g2 := (unhide BV7).free 3
    have y0 : w7.cell? ⟨w.heap.size, 0, none⟩ = some (.bool false) := (unhide BR7).cell 0
    have y1 : w7.cell? ⟨w.heap.size, 1, none⟩ = some (.int .i64 0) := (unhide BR7).cell 1
    have y2 : w7.cell? ⟨w.heap.size, 2, none⟩ = some (.slice none 0 0) := (unhide BR7).cell 2
    have y3 : w7.cell? ⟨w.heap.size, 3, none⟩ = some (.slice none 0 0) := (unhide BR7).cell 3
    have y4 : w7.cell? ⟨w.heap.size, 4, none⟩ = some (.pointer none) := (unhide BR7).cell 4
    have z0 := (unhide BR7).free 0
    have z1 := (unhide BR7).free 1
    have z2 := (unhide BR7).free 2
    have z3 := (unhide BR7).free 3
    have z4 := (unhide BR7).free 4
    go_wp2_with fail
    obtain ⟨W, hW⟩ : ∃ q, q = ((((((w7.setCell ⟨w.heap.size + 1, 3, none⟩ (.slice (some ⟨g7, 0, none⟩) (path.length + 2) c7)).setCell ⟨w.heap.size, 0, none⟩ (.bool false)).setCell ⟨w.heap.size, 1, none⟩ (.int .i64 (txns.length : Int))).setCell ⟨w.heap.size, 2, none⟩ (.slice none 0 0)).setCell ⟨w.heap.size, 3, none⟩ (.slice (some ⟨g7, 0, none⟩) (path.length + 2) c7)).setCell ⟨w.heap.size, 4, none⟩ (.pointer lp)) := ⟨_, rfl⟩
    have hcW : Chg (fun k => k = w.heap.size ∨ k = w.heap.size + 1) w7 W := by
      rw [hW]
      exact (((((Chg.setCell _ _ _ (.inr rfl)).trans (Chg.setCell _ _ _ (.inl rfl))).trans (Chg.setCell _ _ _ (.inl rfl))).trans (Chg.setCell _ _ _ (.inl rfl))).trans (Chg.setCell _ _ _ (.inl rfl))).trans (Chg.setCell _ _ _ (.inl rfl))
    have BW : Blk W w.heap.size 37 [.bool false, .int .i64 (txns.length : Int), .slice none 0 0, .slice (some ⟨g7, 0, none⟩) (path.length + 2) c7, .pointer lp] := by
      rw [hW]
      exact ((((((unhide BR7).other (by show w.heap.size ≠ w.heap.size + 1; omega) _).set 0 _).set 1 _).set 2 _).set 3 _).set 4 _
    rw [← hW]
    have v0 := BW.cell 0
    have v1 := BW.cell 1
    have v2 := BW.cell 2
    have v3 := BW.cell 3
    have v4 := BW.cell 4
    simp only [List.getElem?_cons_zero, List.getElem?_cons_succ] at v0 v1 v2 v3 v4
    clear hW BW x0 x1 x2 x3 x4 g2 y0 y1 y2 y3 y4 z0 z1 z2 z3 z4
    have BF := (unhide B7).trans (hcW.below (unhide B7).size (fun k e => by rcases e with e | e <;> omega))
    have RF : Rd W (some ⟨g7, 0, none⟩) (ints ((s :: path ++ [s]).map fun v => txns.getD v 0)) := by
      intro j hj
      obtain ⟨b, off, e1, e2⟩ := unhide R7 j hj
      cases e1
      have hbl := cell_lt (e2.trans (List.getElem?_eq_getElem hj))
      exact ⟨g7, 0, rfl, by rw [hcW.cell hbl (by show ¬ (g7 = _ ∨ g7 = _); omega)]; exact e2⟩
    have HRF := hide RF
    have HBF := hide BF
    have HFULL := hide hfull
    clear RF BF hcW hfull
    refine bodyPost_ret (by simp [results, Try.results9, go_sem, v0, v1, v2, v3, v4]; try rfl) rfl ?_
    refine ⟨.inr ⟨some ⟨g7, 0, none⟩, c7, s, path, D, rfl, ?_, hsn, unhide DD, unhide PP, unhide HNE, unhide HLA, unhide HRF, ord, ?_, unhide HFULL⟩, unhide HBF⟩
    · rw [← unhide HES]; exact unhide HLS
    · rw [← unhide HES]; exact unhide KN
end Go.Proofs.Qxb6614980a
