/-
  FnJudgeVerdictIsCertified walked.
-/
import Derived.Test.Qxb6614980aMainP
import Derived.Test.Qxb6614980aBytes
import Derived.Test.Qxb6614980aBuild8
import Derived.Test.Qxb6614980aJudge9
import Derived.Test.Qxb6614980aDist25
import Derived.Deep.RegionWith
namespace Go.Proofs.Qxb6614980a
open Go.ChangeShapes Go.WideShapes Go.ChangeAt Go.RowKit

/-- The first i places are laid. -/
structure PosTo (n : Nat) (ord : List Nat) (i : Nat) (P : List Int) : Prop where
  len : P.length = n
  at_ : ∀ q, q < i → P.getD (ord.getD q 0) 0 = (q : Int)
  un : ∀ x, x < n → x ∉ ord.take i → P.getD x 0 = -1
theorem posTo_zero (n : Nat) (ord : List Nat) : PosTo n ord 0 (List.replicate n (-1)) := ⟨by simp, (fun q hq => by omega), (fun x hx _ => by simp [List.getD, hx])⟩
theorem ord_new {ord : List Nat} (hn : ord.Nodup) {i : Nat} (hi : i < ord.length) : ord.getD i 0 ∉ ord.take i := by
  intro hm
  obtain ⟨q, hq, e⟩ := List.getElem_of_mem hm
  rw [List.length_take] at hq
  rw [List.getElem_take] at e
  have e2 : ord[q] = ord[i] := by rw [e]; simp [List.getD, hi]
  have := (List.getElem_inj hn).1 e2
  omega
theorem PosTo.succ {n : Nat} {ord : List Nat} {i : Nat} {P : List Int} (h : PosTo n ord i P) (hn : ord.Nodup) (hi : i < ord.length) (hx : ord.getD i 0 < n) : PosTo n ord (i + 1) (P.set (ord.getD i 0) (i : Int)) := by
  have hl : ord.getD i 0 < P.length := by rw [h.len]; exact hx
  refine ⟨by rw [List.length_set]; exact h.len, fun q hq => ?_, fun x hx' hm => ?_⟩
  · by_cases e : q = i
    · subst e; rw [getD_set_eq _ _ _ _ hl]
    · rw [getD_set_ne _ _ _ _ _ (fun e2 => ?_)]
      · exact h.at_ q (by omega)
      · apply ord_new hn hi
        rw [← e2, List.mem_take_iff_getElem]
        exact ⟨q, by omega, by simp [List.getD, show q < ord.length by omega]⟩
  · have hne : x ≠ ord.getD i 0 := fun e => hm (by
      rw [e, List.mem_take_iff_getElem]
      exact ⟨i, by omega, by simp [List.getD, hi]⟩)
    rw [getD_set_ne _ _ _ _ _ hne]
    refine h.un x hx' (fun hm2 => hm ?_)
    rw [List.take_succ_eq_append_getElem hi]
    exact List.mem_append_left _ hm2
/-- The greatest place so far. -/
def MaxA (P : List Int) (items : Rows3) (j q : Nat) (ma : Int) : Prop := ma = -1 ∨ ∃ i, i < q ∧ ma = P.getD (acc items j i).1 0
def MaxW (P : List Int) (items : Rows3) (j q : Nat) (mw : Int) : Prop := mw = -1 ∨ ∃ i, i < q ∧ (acc items j i).2.1 = true ∧ mw = P.getD (acc items j i).1 0
theorem MaxA.keep {P : List Int} {items : Rows3} {j q : Nat} {ma : Int} (h : MaxA P items j q ma) : MaxA P items j (q + 1) ma := by
  rcases h with h | ⟨i, h1, h2⟩
  · exact .inl h
  · exact .inr ⟨i, by omega, h2⟩
theorem MaxW.keep {P : List Int} {items : Rows3} {j q : Nat} {mw : Int} (h : MaxW P items j q mw) : MaxW P items j (q + 1) mw := by
  rcases h with h | ⟨i, h1, h2⟩
  · exact .inl h
  · exact .inr ⟨i, by omega, h2⟩

set_option maxRecDepth 100000 in
set_option maxHeartbeats 8000000 in
theorem main4_any (a0 a1 a2 : Option Addr) (c0 c1 c2 : Nat) (txns : List Int) (T : List (List Int)) (B : List (List Bool)) (w : World) (h0 : Rd w a0 (ints txns)) (h1 : RdRows w a1 (T.map ints)) (h2 : RdRows w a2 (B.map bools)) (hnil : a0 = none → txns.length = 0) :
    Calls Try.prog 4 #[.slice a0 txns.length c0, .slice a1 T.length c1, .slice a2 B.length c2] w fun e w' => e = .returned (.bool true) ∧ Below w.heap.size w w' := by
  have H0 := hide h0
  have H1 := hide h1
  have H2 := hide h2
  have CC := bytes12_says a0 a1 a2 txns.length c0 c1 c2 (T.map ints) (B.map bools) w h1 h2
  rw [List.length_map, List.length_map] at CC
  have HCC := hide CC
  have HNIL := hide hnil
  clear h0 h1 h2 CC hnil
  go_enter Try.func4, Try.ntmps4
  go_wp2_with fail
  refine (unhide HCC).mono ?_
  rintro e w' ⟨⟨r, rfl, hr⟩, hw'⟩
  have hw2 := hw'.symm
  subst hw2
  clear hw'
  have HR := hide hr
  clear hr
  cases r
  · as_aux_lemma =>
    go_wp2_with fail
    go_returns
    exact ⟨rfl, Below.refl _ _⟩
  obtain ⟨_, _, _, hL1, hL2⟩ := unhide HR rfl
  have HL1 : Hid (∀ j, j < T.length → (T.getD j []).length ≤ 1048576) := by
    intro j hj
    have := hL1 j (by rw [List.length_map]; exact hj)
    rw [mapRow_at ints rfl, ints_len] at this
    exact this
  have HL2 : Hid (∀ j, j < B.length → (B.getD j []).length ≤ 1048576) := by
    intro j hj
    have := hL2 j (by rw [List.length_map]; exact hj)
    rw [mapRow_at bools rfl, bools_len] at this
    exact this
  clear hL1 hL2 HR HCC
  by_cases hb0 : txns.length ≤ 4096
  case neg =>
    as_aux_lemma =>
    go_wp2_with fail
    go_returns
    exact ⟨rfl, Below.refl _ _⟩
  by_cases hb1 : T.length ≤ 4096
  case neg =>
    as_aux_lemma =>
    go_wp2_with fail
    go_returns
    exact ⟨rfl, Below.refl _ _⟩
  by_cases hb2 : B.length ≤ 4096
  case neg =>
    as_aux_lemma =>
    go_wp2_with fail
    go_returns
    exact ⟨rfl, Below.refl _ _⟩
  go_wp2_with fail
  go_loopw [7, 8] (fun z i wr => ∃ k : Nat, k ≤ T.length ∧ i = .int .i64 k ∧ z = .int .i64 ((lensT T k : Nat) : Int) ∧ lensT T k ≤ 4096 ∧ w = wr) (fun _ i _ => T.length - (intOf i).toNat)
  case atStart => exact ⟨0, Nat.zero_le _, rfl, rfl, Nat.zero_le _, rfl⟩
  case round =>
    obtain ⟨k, hk, rfl, rfl, htot, rfl⟩ := hrel
    obtain ⟨tot, htt⟩ : ∃ q, q = lensT T k := ⟨_, rfl⟩
    rw [← htt] at htot ⊢
    have HTT := hide htt
    clear htt
    by_cases hlt : k < T.length
    · as_aux_lemma =>
      obtain ⟨b, off, ar, cr, e1, hc, _⟩ := unhide H1 k (by rw [List.length_map]; exact hlt)
      subst e1
      rw [mapRow_at ints rfl, ints_len] at hc
      have hl := unhide HL1 k hlt
      obtain ⟨m, hm⟩ : ∃ q, q = (T.getD k []).length := ⟨_, rfl⟩
      rw [← hm] at hc hl
      have HMM := hide hm
      clear hm
      by_cases hgt : tot + m ≤ 4096
      · go_wp2_with fail
        exact ⟨⟨k + 1, by omega, by rw [Int.natCast_add]; rfl, by rw [lensT_succ _ _ hlt, ← unhide HTT, ← unhide HMM, Int.natCast_add], by rw [lensT_succ _ _ hlt, ← unhide HTT, ← unhide HMM]; exact hgt, by first | rfl | trivial⟩, by simp [intOf]; omega⟩
      · go_wp2_with fail
        go_returns
        exact ⟨rfl, Below.refl _ _⟩
    · obtain rfl : k = T.length := by omega
      have htot' : lensT T T.length ≤ 4096 := by rw [← unhide HTT]; exact htot
      have HTOT := hide htot'
      clear htot'
      go_wp2_with fail
      go_loopw [9, 10] (fun z i wr => ∃ k : Nat, k ≤ B.length ∧ i = .int .i64 k ∧ z = .int .i64 ((lensT B k : Nat) : Int) ∧ lensT B k ≤ 4096 ∧ w = wr) (fun _ i _ => B.length - (intOf i).toNat)
      case atStart => exact ⟨0, Nat.zero_le _, rfl, rfl, Nat.zero_le _, rfl⟩
      case round =>
        obtain ⟨k2, hk2, rfl, rfl, htot2, rfl⟩ := hrel
        obtain ⟨tot2, htt2⟩ : ∃ q, q = lensT B k2 := ⟨_, rfl⟩
        rw [← htt2] at htot2 ⊢
        have HTT2 := hide htt2
        clear htt2
        by_cases hlt2 : k2 < B.length
        · as_aux_lemma =>
          obtain ⟨b, off, ar, cr, e1, hc, _⟩ := unhide H2 k2 (by rw [List.length_map]; exact hlt2)
          subst e1
          rw [mapRow_at bools rfl, bools_len] at hc
          have hl := unhide HL2 k2 hlt2
          obtain ⟨m, hm⟩ : ∃ q, q = (B.getD k2 []).length := ⟨_, rfl⟩
          rw [← hm] at hc hl
          have HMM := hide hm
          clear hm
          by_cases hgt : tot2 + m ≤ 4096
          · go_wp2_with fail
            exact ⟨⟨k2 + 1, by omega, by rw [Int.natCast_add]; rfl, by rw [lensT_succ _ _ hlt2, ← unhide HTT2, ← unhide HMM, Int.natCast_add], by rw [lensT_succ _ _ hlt2, ← unhide HTT2, ← unhide HMM]; exact hgt, by first | rfl | trivial⟩, by simp [intOf]; omega⟩
          · go_wp2_with fail
            go_returns
            exact ⟨rfl, Below.refl _ _⟩
        · obtain rfl : k2 = B.length := by omega
          as_aux_lemma =>
          clear htot2 HTT2 hlt2 hk2 hlt hk htot HTT
          go_wp2_with fail
          refine (wf6_any a0 a1 a2 c0 c1 c2 txns T B w (unhide H0) (unhide H1) (unhide H2) (by omega) (by omega) (unhide HL1)).mono ?_
          rintro e w' ⟨⟨r, rfl, hr⟩, ⟨d, rfl⟩⟩
          have HR := hide hr
          clear hr
          cases r
          · as_aux_lemma =>
            go_wp2_with fail
            go_returns
            exact ⟨rfl, below_draws (Below.refl _ _) d⟩
          have WF := hide (unhide HR rfl)
          clear HR
          have hTB := (unhide WF).len
          rw [← hTB]
          have HTB := hide hTB
          clear hTB hb2
          have BL0 : Hid (Below w.heap.size w (w.drewN d)) := below_draws (Below.refl _ _) d
          generalize w.drewN d = w1 at BL0 ⊢
          go_wp2_with fail
          refine (clone7_any a0 c0 txns w1 ((unhide H0).old (unhide BL0)) (by omega) (unhide HNIL)).mono ?_
          rintro e w2 ⟨⟨at2, ct2, rfl, hRt⟩, hb2⟩
          have RT := hide hRt
          have BL2 := hide (below_trans (unhide BL0) hb2)
          clear hRt hb2 BL0
          obtain ⟨items, hit⟩ : ∃ q, q = mk3 T B := ⟨_, rfl⟩
          have hil : items.length = T.length := by rw [hit, mk3_len]
          have HIL := hide hil
          have HITEMS := hide hit
          have htt : total items ≤ 4096 := by rw [hit, mk3_total]; exact unhide HTOT
          have HTL := hide htt
          have hR1 : RdRows w a1 (items.map fun r => ints (txOf r)) := by rw [hit, mk3_tx (unhide WF)]; exact unhide H1
          have hR2 : RdRows w a2 (items.map fun r => bools (wtOf r)) := by rw [hit, mk3_wt (unhide WF)]; exact unhide H2
          have hlt3 : ∀ j i, j < items.length → i < (items.getD j []).length → (acc items j i).1 < txns.length := by rw [hit]; exact mk3_lt (unhide WF)
          have HLT3 := hide hlt3
          have C8 := build8_any none at2 a1 a2 ct2 c1 c2 txns items w2 (unhide RT) (hR1.old (unhide BL2)) (hR2.old (unhide BL2)) hlt3 (by rw [hit]; exact mk3_counts (unhide WF)) hb0 (by omega) htt
          rw [hil] at C8
          have HC8 := hide C8
          clear C8 hit hil htt hR1 hR2 hlt3
          go_wp2_with fail
          refine (unhide HC8).mono ?_
          rintro e w3 ⟨⟨pg, rfl, hG⟩, hb3⟩
          have GM := hide hG
          have RT3 := hide ((unhide RT).old hb3)
          have BL3 := hide (below_trans (unhide BL2) hb3)
          clear hG hb3 BL2 RT HC8
          have hrl : ∀ j, (items.getD j []).length ≤ 4096 := fun j => Nat.le_trans (row_le items j) (unhide HTL)
          have hwl : ∀ j, ((writesOf items).getD j []).length ≤ 4096 := fun j => by
            rw [writesOf_at, nats_len]
            exact Nat.le_trans (wposN_len _ _) (hrl j)
          have hol : ∀ j, ((ofsOf txns.length items).getD j []).length ≤ 1048576 := by
            intro j
            by_cases hj : j < txns.length
            · rw [ofsOf_at _ _ _ hj]
              have e1 := refsTo_len items items.length 0 j
              have e2 := allTo_end items
              have e3 : total items ≤ 4096 := unhide HTL
              omega
            · rw [show (ofsOf txns.length items).getD j [] = [] by simp [ofsOf, List.getD, List.getElem?_eq_none (show (List.range txns.length).length ≤ j by rw [List.length_range]; omega)]]
              simp
          have hil2 : items.length ≤ 4096 := by rw [unhide HIL]; exact hb1
          have C9 := judge9_any pg none txns items (writesOf items) (ofsOf txns.length items) w3 (unhide GM) (gok_of txns.length items (unhide HLT3) (by rw [unhide HITEMS]; exact mk3_counts (unhide WF))) hb0 hil2 hrl hwl hol (red_len items hil2 hrl)
          have HC9 := hide C9
          clear C9 hrl hwl hol hil2
          go_wp2_with fail
          refine (unhide HC9).mono ?_
          rintro e w4 ⟨hV, hb4⟩
          have RT4 := hide ((unhide RT3).old hb4)
          have BL4 := hide (below_trans (unhide BL3) hb4)
          clear hb4 BL3 RT3 HC9 GM
          have R1 := hide ((unhide H1).old (unhide BL4))
          have R2 := hide ((unhide H2).old (unhide BL4))
          rcases hV with ⟨av, cv, ord, rfl, hof, hK, hRd⟩ | ⟨av, cv, s, path, D, rfl, hls, hsn, hD, hP, hne, hla, hRd, _⟩
          · as_aux_lemma =>
            have KN := hide hK
            have RD := hide hRd
            have HOF := hide hof
            have hol4 : ord.length ≤ 4096 := by omega
            clear hK hRd hof
            have hm1 := run_make_row' (P := Try.prog) 22 3 (.int .i64 0) 8 Try.underlying22 info3 rfl .i64 .i64 txns.length (by omega) (by omega)
            go_upto_region 24 with fail
            obtain ⟨w5, hw5⟩ : ∃ q, q = w4.alloc (.cells #[.bool true, .int .i64 (txns.length : Int), .slice av txns.length cv, .slice none 0 0, .pointer none] 37) := ⟨_, rfl⟩
            have hb5 : Below w4.heap.size w4 w5 := by rw [hw5]; exact below_new _ _
            have BV : Hid (Blk w5 w4.heap.size 37 [.bool true, .int .i64 (txns.length : Int), .slice av txns.length cv, .slice none 0 0, .pointer none]) := by rw [hw5]; exact Blk.new' _ _ _
            rw [← hw5]
            have BL5 := hide (below_trans (unhide BL4) hb5)
            have RD5 := hide ((unhide RD).old hb5)
            have RT5 := hide ((unhide RT4).old hb5)
            have R15 := hide ((unhide R1).old hb5)
            have R25 := hide ((unhide R2).old hb5)
            clear hw5 hb5 BL4 RD RT4 R1 R2
            generalize w4.heap.size = bv at BV ⊢
            have x0 : w5.cell? ⟨bv, 0, none⟩ = some (.bool true) := (unhide BV).cell 0
            have x1 : w5.cell? ⟨bv, 1, none⟩ = some (.int .i64 (txns.length : Int)) := (unhide BV).cell 1
            have x2 : w5.cell? ⟨bv, 2, none⟩ = some (.slice av txns.length cv) := (unhide BV).cell 2
            have x3 : w5.cell? ⟨bv, 3, none⟩ = some (.slice none 0 0) := (unhide BV).cell 3
            have x4 : w5.cell? ⟨bv, 4, none⟩ = some (.pointer none) := (unhide BV).cell 4
            have hbv := (unhide BV).lt
            go_wp2_with fail
            go_loopw [15] (fun i wr => ∃ k : Nat, k ≤ txns.length ∧ i = .int .i64 k ∧ IBlk wr w5.heap.size (fillN txns.length k) ∧ Below w5.heap.size w5 wr) (fun i _ => txns.length - (intOf i).toNat)
            case atStart =>
              refine ⟨0, Nat.zero_le _, rfl, ?_, below_new _ _⟩
              rw [fillN_zero]
              exact IBlk.new _ _
            case round =>
              clear x0 x1 x2 x3 x4
              obtain ⟨k, hk, rfl, hI, hbel⟩ := hrel
              have HI := hide hI
              clear hI
              by_cases hlt : k < txns.length
              · as_aux_lemma =>
                have hcI := (unhide HI).cell (j := k) (by rw [fillN_len]; exact hlt)
                have hfI := Blk.free (unhide HI) k
                generalize (fillN txns.length k).getD k 0 = y at hcI
                go_wp2_with fail
                refine ⟨⟨k + 1, by omega, by rw [Int.natCast_add]; rfl, ?_, hbel.trans ((Chg.setCell (S := fun k => k = w5.heap.size) wr ⟨w5.heap.size, k, none⟩ _ rfl).below hbel.size (fun k e => by omega))⟩, by simp [intOf]; omega⟩
                have hs1 := (unhide HI).set k (-1)
                rw [fillN_succ _ k hlt] at hs1
                exact hs1
              · obtain rfl : k = txns.length := by omega
                have HI2 : Hid (IBlk wr w5.heap.size (List.replicate txns.length (-1))) := by
                  have := unhide HI
                  rw [fillN_all] at this
                  exact this
                as_aux_lemma =>
                clear HI hlt hk
                go_wp2_with fail
                go_loopw [16] (fun i wr => ∃ (k : Nat) (P : List Int), k ≤ txns.length ∧ i = .int .i64 k ∧ PosTo txns.length ord k P ∧ IBlk wr w5.heap.size P ∧ Below w5.heap.size w5 wr) (fun i _ => txns.length - (intOf i).toNat)
                case atStart => exact ⟨0, _, Nat.zero_le _, rfl, posTo_zero _ _, unhide HI2, hbel⟩
                case round =>
                  clear HI2 hbel
                  obtain ⟨k, P, hk, rfl, hpt, hI, hbel⟩ := hrel
                  have PT := hide hpt
                  have HI := hide hI
                  clear hpt hI
                  by_cases hlt : k < txns.length
                  · as_aux_lemma =>
                    have hko : k < ord.length := by rw [unhide HOF]; exact hlt
                    obtain ⟨x, hx⟩ : ∃ x, x = ord.getD k 0 := ⟨_, rfl⟩
                    have hxm : x ∈ ord := by
                      have : ord.getD k 0 = ord[k] := by simp [List.getD, hko]
                      rw [hx, this]
                      exact List.getElem_mem _
                    have hxn : x < txns.length := (unhide KN).t.lt x hxm
                    have hnew : x ∉ ord.take k := by rw [hx]; exact ord_new (unhide KN).t.nodup hko
                    have hun := (unhide PT).un x hxn hnew
                    obtain ⟨b, off, e1, hc1⟩ := ((unhide RD5).old hbel).int (j := k) (by rw [List.length_map]; exact hko)
                    subst e1
                    rw [show (ord.map fun v => txns.getD v 0).getD k 0 = txns.getD x 0 by rw [hx]; simp [List.getD, hko]] at hc1
                    have x2 : wr.cell? ⟨bv, 2, none⟩ = some (.slice (some ⟨b, off, none⟩) txns.length cv) := ((unhide BV).old hbel).cell 2
                    have hcI := (unhide HI).cell (j := x) (by rw [(unhide PT).len]; exact hxn)
                    rw [hun] at hcI
                    have hfI := Blk.free (unhide HI) x
                    obtain ⟨tv, htv⟩ : ∃ q, q = txns.getD x 0 := ⟨_, rfl⟩
                    rw [← htv] at hc1
                    have HX := hide hx
                    have HTV := hide htv
                    have HKO := hide hko
                    clear hx htv hxm hnew hun
                    go_wp2_with fail
                    refine (find13_any at2 ct2 txns x tv wr ((unhide RT5).old hbel) (by omega) (fun i h1 h2 => (unhide WF).asc i h1 h2) hxn (unhide HTV)).mono ?_
                    rintro e w' ⟨rfl, hw'⟩
                    have hw2 := hw'.symm
                    subst hw2
                    clear hw'
                    go_wp2_with fail
                    refine ⟨⟨k + 1, P.set x (k : Int), by omega, by rw [Int.natCast_add]; rfl, ?_, (unhide HI).set x (k : Int), hbel.trans ((Chg.setCell (S := fun k => k = w5.heap.size) wr ⟨w5.heap.size, x, none⟩ _ rfl).below hbel.size (fun k e => by omega))⟩, by simp [intOf]; omega⟩
                    rw [unhide HX]
                    exact (unhide PT).succ (unhide KN).t.nodup (unhide HKO) (by rw [← unhide HX]; exact hxn)
                  · obtain rfl : k = txns.length := by omega
                    as_aux_lemma =>
                    have hG : GoodE txns.length (redAll (bares items)) := by
                      refine red_good _ _ ?_ _ (Nat.le_refl _)
                      intro row hrow a ha
                      obtain ⟨j, hj, rfl⟩ := List.getElem_of_mem hrow
                      obtain ⟨i, hi', rfl⟩ := List.getElem_of_mem ha
                      have hj' : j < items.length := by rw [bares_len] at hj; exact hj
                      have e1 : (bares items)[j] = (bares items).getD j [] := by simp [List.getD, hj]
                      have e2 : (bares items)[j][i] = ((bares items).getD j []).getD i (0, false) := by rw [← e1]; simp [List.getD, hi']
                      have hi2 : i < (items.getD j []).length := by
                        have : (bares items)[j].length = (items.getD j []).length := by rw [e1, bares_at, bare_len]
                        omega
                      have e3 := acc_bare items j i
                      unfold ra at e3
                      rw [e2, e3]
                      exact unhide HLT3 j i hj' hi2
                    have PL : Hid (∀ j i k, j < items.length → i < k → k < (items.getD j []).length → (acc items j i).2.1 = true ∨ (acc items j k).2.1 = true → P.getD (acc items j i).1 0 ≤ P.getD (acc items j k).1 0) := by
                      intro j i k hj hik hk hw
                      exact (pos_le hG (unhide KN).t (unhide HOF) (unhide PT).at_ (unhide HLT3 j i hj (by omega)) (unhide HLT3 j k hj hk) (conf_rch items hj hik hk hw)).2
                    have P0 : Hid (∀ x, x < txns.length → 0 ≤ P.getD x 0) := fun x hx => (pos_le hG (unhide KN).t (unhide HOF) (unhide PT).at_ hx hx (.refl _)).1
                    have PN : Hid (∀ x, x < txns.length → P.getD x 0 ≤ 4096) := by
                      intro x hx
                      obtain ⟨q, hq, e⟩ := List.getElem_of_mem (all_in (unhide KN).t.nodup (unhide KN).t.lt (unhide HOF) x hx)
                      have := (unhide PT).at_ q (by rw [← unhide HOF]; exact hq)
                      rw [show ord.getD q 0 = x by rw [← e]; simp [List.getD, hq]] at this
                      rw [this]
                      omega
                    have BLW := hide (below_trans (unhide BL5) hbel)
                    have hPl := (unhide PT).len
                    have HPL := hide hPl
                    clear hG hPl hlt hk
                    obtain ⟨w6, hw6⟩ : ∃ x, x = wr := ⟨_, rfl⟩
                    subst hw6
                    go_wp2_with fail
                    go_loopw [18] (fun i wr => ∃ k : Nat, k ≤ T.length ∧ i = .int .i64 k ∧ w6 = wr) (fun i _ => T.length - (intOf i).toNat)
                    case atStart => exact ⟨0, Nat.zero_le _, rfl, by first | rfl | trivial⟩
                    case round =>
                      obtain ⟨j, hj, rfl, rfl⟩ := hrel
                      by_cases hlt : j < T.length
                      · have hji : j < items.length := by rw [unhide HIL]; exact hlt
                        obtain ⟨b1, o1, ar1, cr1, e1, hc1, hr1⟩ := unhide H1 j (by rw [List.length_map]; exact hlt)
                        obtain ⟨b2, o2, ar2, cr2, e2, hc2, hr2⟩ := unhide H2 j (by rw [List.length_map, ← unhide HTB]; exact hlt)
                        subst e1 e2
                        rw [mapRow_at ints rfl] at hc1 hr1
                        rw [mapRow_at bools rfl] at hc2 hr2
                        have hrw := (unhide WF).row j hlt
                        have hc1' := cell_old (unhide BLW) hc1
                        have hc2' := cell_old (unhide BLW) hc2
                        rw [ints_len] at hc1'
                        rw [bools_len, ← hrw] at hc2'
                        have hrl : (T.getD j []).length = (items.getD j []).length := by rw [unhide HITEMS, mk3_rowlen _ _ _ hlt]
                        have hrb : (T.getD j []).length ≤ 4096 := by rw [hrl]; exact Nat.le_trans (row_le items j) (unhide HTL)
                        have HR1 := hide (hr1.old (unhide BLW))
                        have HR2 := hide (hr2.old (unhide BLW))
                        have HTX : Hid (∀ q, q < (T.getD j []).length → (T.getD j []).getD q 0 = (((acc items j q).1 : Nat) : Int) ∧ (B.getD j []).getD q false = (acc items j q).2.1) := by
                          intro q hq
                          rw [unhide HITEMS, mk3_acc _ _ _ _ hlt hq]
                          have := (unhide WF).txn j hlt q hq
                          exact ⟨by show _ = ((((T.getD j []).getD q 0).toNat : Nat) : Int); omega, rfl⟩
                        obtain ⟨rl, hrl'⟩ : ∃ q, q = (T.getD j []).length := ⟨_, rfl⟩
                        rw [← hrl'] at hc1' hc2' hrl hrb
                        have HRL := hide hrl
                        have HRL' := hide hrl'
                        have HRW := hide hrw
                        have HJI := hide hji
                        clear hc1 hc2 hr1 hr2 hrw hrl hrl' hji
                        as_aux_lemma =>
                        go_wp2_with fail
                        go_loopw [19, 20, 21] (fun va vw i wr => ∃ (q : Nat) (ma mw : Int), q ≤ rl ∧ i = .int .i64 q ∧ va = .int .i64 ma ∧ vw = .int .i64 mw ∧ -1 ≤ ma ∧ ma ≤ 4096 ∧ -1 ≤ mw ∧ mw ≤ 4096 ∧ MaxA P items j q ma ∧ MaxW P items j q mw ∧ w6 = wr) (fun _ _ i _ => rl - (intOf i).toNat)
                        case atStart => exact ⟨0, -1, -1, Nat.zero_le _, rfl, rfl, rfl, by omega, by omega, by omega, by omega, .inl rfl, .inl rfl, by first | rfl | trivial⟩
                        case round =>
                          obtain ⟨q, ma, mw, hq, rfl, rfl, rfl, hma0, hma1, hmw0, hmw1, hA, hW, rfl⟩ := hrel
                          have MA := hide hA
                          have MW := hide hW
                          clear hA hW
                          by_cases hlq : q < rl
                          · have hqT : q < (T.getD j []).length := by rw [← unhide HRL']; exact hlq
                            obtain ⟨ht1, ht2⟩ := unhide HTX q hqT
                            obtain ⟨p1, r1, f1, g1⟩ := (unhide HR1).int (j := q) hqT
                            obtain ⟨p2, r2, f2, g2⟩ := (unhide HR2).bool (j := q) (by rw [← unhide HRW]; exact hqT)
                            subst f1 f2
                            have hqi : q < (items.getD j []).length := by rw [← unhide HRL]; exact hlq
                            have htn := unhide HLT3 j q (unhide HJI) hqi
                            have hwA : ∀ i, i < q → (acc items j i).2.1 = true ∨ (acc items j q).2.1 = true → P.getD (acc items j i).1 0 ≤ P.getD (acc items j q).1 0 := fun i hi hw => unhide PL j i q (unhide HJI) hi hqi hw
                            obtain ⟨t, htt⟩ : ∃ t, t = (acc items j q).1 := ⟨_, rfl⟩
                            obtain ⟨bw, hbw⟩ : ∃ t, t = (acc items j q).2.1 := ⟨_, rfl⟩
                            rw [← htt] at htn hwA
                            rw [← hbw] at hwA
                            rw [ht1, ← htt] at g1
                            rw [ht2, ← hbw] at g2
                            have cp := (unhide HI).cell (j := t) (by rw [unhide HPL]; exact htn)
                            have hp0 := unhide P0 t htn
                            have hp1 := unhide PN t htn
                            obtain ⟨p, hp⟩ : ∃ p, p = P.getD t 0 := ⟨_, rfl⟩
                            rw [← hp] at cp hp0 hp1 hwA
                            have hmw : mw ≤ p := by
                              rcases unhide MW with e | ⟨i, i1, i2, i3⟩
                              · omega
                              · rw [i3]; exact hwA i i1 (.inl i2)
                            have hma : bw = true → ma ≤ p := by
                              intro hb
                              rcases unhide MA with e | ⟨i, i1, i3⟩
                              · omega
                              · rw [i3]; exact hwA i i1 (.inr hb)
                            have MA1 : Hid (MaxA P items j (q + 1) p) := .inr ⟨q, by omega, by rw [hp, htt]⟩
                            have MW1 : Hid (bw = true → MaxW P items j (q + 1) p) := fun hb => .inr ⟨q, by omega, by rw [← hbw]; exact hb, by rw [hp, htt]⟩
                            have MA0 := hide (unhide MA).keep
                            have MW0 := hide (unhide MW).keep
                            clear ht1 ht2 hwA htt hbw hp hqT
                            have hmw' : ¬ p < mw := by omega
                            cases bw
                            · as_aux_lemma =>
                              by_cases hpa : ma < p
                              · go_wp2_with fail
                                exact ⟨⟨q + 1, p, mw, by omega, by rw [Int.natCast_add]; rfl, rfl, rfl, by omega, by omega, by omega, by omega, unhide MA1, unhide MW0, by first | rfl | trivial⟩, by simp [intOf]; omega⟩
                              · go_wp2_with fail
                                exact ⟨⟨q + 1, ma, mw, by omega, by rw [Int.natCast_add]; rfl, rfl, rfl, by omega, by omega, by omega, by omega, unhide MA0, unhide MW0, by first | rfl | trivial⟩, by simp [intOf]; omega⟩
                            · have hma2 := hma rfl
                              have hma' : ¬ p < ma := by omega
                              have MW2 := hide (unhide MW1 rfl)
                              clear hma
                              as_aux_lemma =>
                              by_cases hpa : ma < p
                              · by_cases hpw : mw < p
                                · go_wp2_with fail
                                  exact ⟨⟨q + 1, p, p, by omega, by rw [Int.natCast_add]; rfl, rfl, rfl, by omega, by omega, by omega, by omega, unhide MA1, unhide MW2, by first | rfl | trivial⟩, by simp [intOf]; omega⟩
                                · go_wp2_with fail
                                  exact ⟨⟨q + 1, p, mw, by omega, by rw [Int.natCast_add]; rfl, rfl, rfl, by omega, by omega, by omega, by omega, unhide MA1, unhide MW0, by first | rfl | trivial⟩, by simp [intOf]; omega⟩
                              · by_cases hpw : mw < p
                                · go_wp2_with fail
                                  exact ⟨⟨q + 1, ma, p, by omega, by rw [Int.natCast_add]; rfl, rfl, rfl, by omega, by omega, by omega, by omega, unhide MA0, unhide MW2, by first | rfl | trivial⟩, by simp [intOf]; omega⟩
                                · go_wp2_with fail
                                  exact ⟨⟨q + 1, ma, mw, by omega, by rw [Int.natCast_add]; rfl, rfl, rfl, by omega, by omega, by omega, by omega, unhide MA0, unhide MW0, by first | rfl | trivial⟩, by simp [intOf]; omega⟩
                          · obtain rfl : q = rl := by omega
                            go_wp2_with fail
                            exact ⟨⟨j + 1, by omega, by rw [Int.natCast_add]; rfl, by first | rfl | trivial⟩, by simp [intOf]; omega⟩
                      · obtain rfl : j = T.length := by omega
                        go_wp2_with fail
                        go_returns
                        exact ⟨rfl, unhide BLW⟩
          · as_aux_lemma =>
            have RD := hide hRd
            have DD := hide hD
            have PP := hide hP
            have HLA := hide hla
            have hcl := cyc_len hP hD
            have hpos : 0 < path.length := List.length_pos_iff.2 hne
            obtain ⟨l2, hl2⟩ : ∃ q, q = path.length + 1 := ⟨_, rfl⟩
            have hl22 : path.length + 2 = l2 + 1 := by omega
            rw [hl22]
            have hl2a : 2 ≤ l2 := by omega
            have hl2b : l2 ≤ txns.length := by omega
            have HL2 := hide hl2
            obtain ⟨Vs, hVs⟩ : ∃ q, q = s :: path ++ [s] := ⟨_, rfl⟩
            have hVl : Vs.length = l2 + 1 := by rw [hVs]; simp; omega
            have HVs := hide hVs
            have HVL := hide hVl
            have HVN : Hid (∀ k, k < l2 + 1 → Vs.getD k 0 < txns.length) := by
              intro k hk
              have hm : Vs.getD k 0 ∈ s :: path ++ [s] := by
                rw [← hVs]
                have : Vs.getD k 0 = Vs[k]'(by omega) := by simp [List.getD, show k < Vs.length by omega]
                rw [this]
                exact List.getElem_mem _
              exact cyc_lt hP hsn _ hm
            rw [← hVs] at hRd
            have RDV := hide hRd
            obtain ⟨b, off, e1, hq0⟩ := hRd.int (j := 0) (by rw [List.length_map, hVl]; omega)
            have e0 : (Vs.map fun v => txns.getD v 0).getD 0 0 = txns.getD s 0 := by rw [hVs]; simp
            have eL : (Vs.map fun v => txns.getD v 0).getD l2 0 = txns.getD s 0 := by
              have h1 : Vs.getD l2 0 = s := by rw [hVs, hl2]; exact cyc_end
              rw [← h1]
              have h3 : l2 < Vs.length := by rw [hVl]; omega
              simp [List.getD, h3]
            obtain ⟨b2, off2, e2, hqL⟩ := hRd.int (j := l2) (by rw [List.length_map, hVl]; omega)
            subst e1
            cases e2
            rw [e0, Nat.add_zero] at hq0
            rw [eL] at hqL
            obtain ⟨tv, htv⟩ : ∃ q, q = txns.getD s 0 := ⟨_, rfl⟩
            rw [← htv] at hq0 hqL
            clear hRd hD hP hla hne hls e0 eL htv hVs hVl hl2 hl22 RD
            have hm1 : ∀ w : World, Sem.run Try.prog (Instr.makeSlice 22 (.int .i64 ((l2 : Int) + 1)) (.int .i64 ((l2 : Int) + 1))) w = .ok (.slice (some ⟨w.heap.size, 0, none⟩) (l2 + 1) (l2 + 1)) (w.alloc (.cells (madeCells #[.int .i64 0] (l2 + 1)) 3)) := run_make_row' (P := Try.prog) 22 3 (.int .i64 0) 8 Try.underlying22 info3 rfl .i64 .i64 (l2 + 1) (by omega) (by omega)
            have hm2 := run_make_row' (P := Try.prog) 26 4 (.bool false) 1 Try.underlying26 info4 rfl .i64 .i64 txns.length (by omega) (by omega)
            go_upto_region 24 with fail
            obtain ⟨w5, hw5⟩ : ∃ q, q = w4.alloc (.cells #[.bool false, .int .i64 (txns.length : Int), .slice none 0 0, .slice (some ⟨b, off, none⟩) (l2 + 1) cv, .pointer none] 37) := ⟨_, rfl⟩
            have hb5 : Below w4.heap.size w4 w5 := by rw [hw5]; exact below_new _ _
            have BV : Hid (Blk w5 w4.heap.size 37 [.bool false, .int .i64 (txns.length : Int), .slice none 0 0, .slice (some ⟨b, off, none⟩) (l2 + 1) cv, .pointer none]) := by rw [hw5]; exact Blk.new' _ _ _
            rw [← hw5]
            have BL5 := hide (below_trans (unhide BL4) hb5)
            have RD5 := hide ((unhide RDV).old hb5)
            have RT5 := hide ((unhide RT4).old hb5)
            have hq05 := cell_old hb5 hq0
            have hqL5 := cell_old hb5 hqL
            clear hw5 hb5 BL4 RDV RT4 R1 R2 hq0 hqL
            generalize w4.heap.size = bv at BV ⊢
            have x0 : w5.cell? ⟨bv, 0, none⟩ = some (.bool false) := (unhide BV).cell 0
            have x1 : w5.cell? ⟨bv, 1, none⟩ = some (.int .i64 (txns.length : Int)) := (unhide BV).cell 1
            have x2 : w5.cell? ⟨bv, 2, none⟩ = some (.slice none 0 0) := (unhide BV).cell 2
            have x3 : w5.cell? ⟨bv, 3, none⟩ = some (.slice (some ⟨b, off, none⟩) (l2 + 1) cv) := (unhide BV).cell 3
            have x4 : w5.cell? ⟨bv, 4, none⟩ = some (.pointer none) := (unhide BV).cell 4
            have hbv := (unhide BV).lt
            have y1 : ¬ (l2 : Int) + 1 < 3 := by omega
            have y2 : ¬ (txns.length : Int) + 1 < (l2 : Int) + 1 := by omega
            go_upto_region 60 with fail
            go_quiet (fail)
            have BL6 := hide (below_draws (unhide BL5) nq)
            have hb6 : Hid (Below w5.heap.size w5 (w5.drewN nq)) := below_draws (Below.refl _ _) nq
            have RD6 := hide ((unhide RD5).old (unhide hb6))
            have RT6 := hide ((unhide RT5).old (unhide hb6))
            clear x0 x1 x2 x3 x4 BL5 RD5 RT5 hb6 hq05 hqL5 BV hbv
            generalize w5.drewN nq = w6 at BL6 RD6 RT6 ⊢
            go_wp2_with fail
            go_loopw [26] (fun i wr => ∃ (k : Nat) (ys : List Int), k ≤ l2 + 1 ∧ i = .int .i64 k ∧ ys.length = l2 + 1 ∧ ys.take k = (nats Vs).take k ∧ IBlk wr w6.heap.size ys ∧ Below w6.heap.size w6 wr) (fun i _ => l2 + 1 - (intOf i).toNat)
            case atStart => exact ⟨0, List.replicate (l2 + 1) 0, Nat.zero_le _, rfl, by simp, by simp, IBlk.new _ _, below_new _ _⟩
            case round =>
              obtain ⟨k, ys, hk, rfl, hyl, htk, hI, hbel⟩ := hrel
              have HI := hide hI
              have HTK := hide htk
              have HYL := hide hyl
              clear hI htk hyl
              by_cases hlt : k < l2 + 1
              · as_aux_lemma =>
                obtain ⟨x, hx⟩ : ∃ x, x = Vs.getD k 0 := ⟨_, rfl⟩
                have hxn : x < txns.length := by rw [hx]; exact unhide HVN k hlt
                have hkV : k < Vs.length := by rw [unhide HVL]; exact hlt
                obtain ⟨b3, off3, e3, hc3⟩ := ((unhide RD6).old hbel).int (j := k) (by rw [List.length_map]; exact hkV)
                cases e3
                rw [show (Vs.map fun v => txns.getD v 0).getD k 0 = txns.getD x 0 by rw [hx]; simp [List.getD, hkV]] at hc3
                obtain ⟨tx, htx⟩ : ∃ q, q = txns.getD x 0 := ⟨_, rfl⟩
                rw [← htx] at hc3
                have hcI := (unhide HI).cell (j := k) (by rw [unhide HYL]; exact hlt)
                have hfI := Blk.free (unhide HI) k
                generalize ys.getD k 0 = yk at hcI
                have HX := hide hx
                have HTX := hide htx
                clear hx htx
                go_wp2_with fail
                refine (find13_any at2 ct2 txns x tx wr ((unhide RT6).old hbel) (by omega) (fun i h1 h2 => (unhide WF).asc i h1 h2) hxn (unhide HTX)).mono ?_
                rintro e w' ⟨rfl, hw'⟩
                have hw2 := hw'.symm
                subst hw2
                clear hw'
                go_wp2_with fail
                refine ⟨⟨k + 1, ys.set k (x : Int), by omega, by rw [Int.natCast_add]; rfl, by rw [List.length_set]; exact unhide HYL, ?_, (unhide HI).set k (x : Int), hbel.trans ((Chg.setCell (S := fun g => g = w6.heap.size) wr ⟨w6.heap.size, k, none⟩ _ rfl).below hbel.size (fun g e => by omega))⟩, by simp [intOf]; omega⟩
                have hs := set_to (xs := ys) (ys := nats Vs) (k := k) (by rw [nats_len]; exact hkV) (by rw [unhide HYL, nats_len, unhide HVL]) (unhide HTK)
                rw [nats_at _ _ hkV, ← unhide HX] at hs
                exact hs
              · obtain rfl : k = l2 + 1 := by omega
                have HI2 : Hid (IBlk wr w6.heap.size (nats Vs)) := by
                  have h1 := unhide HTK
                  rw [← unhide HYL, List.take_length, unhide HYL, List.take_of_length_le (by rw [nats_len, unhide HVL]; exact Nat.le_refl _)] at h1
                  have h2 := unhide HI
                  rw [h1] at h2
                  exact h2
                as_aux_lemma =>
                clear HI HTK HYL hk hlt
                obtain ⟨w7, hw7⟩ : ∃ x, x = wr := ⟨_, rfl⟩
                subst hw7
                have BL7 := hide (below_trans (unhide BL6) hbel)
                go_wp2_with fail
                go_loopw [29] (fun i wr => ∃ (k : Nat) (sn : List Bool), k ≤ l2 ∧ i = .int .i64 k ∧ sn.length = txns.length ∧ (∀ x, x < txns.length → sn.getD x false = true → ∃ q, q < k ∧ Vs.getD q 0 = x) ∧ Blk wr w7.heap.size 4 (bools sn) ∧ Below w7.heap.size w7 wr) (fun i _ => l2 - (intOf i).toNat)
                case atStart =>
                  refine ⟨0, List.replicate txns.length false, Nat.zero_le _, rfl, by simp, (fun x hx h => by simp [List.getD, hx] at h), ?_, below_new _ _⟩
                  rw [← made_bools]
                  exact Blk.new' _ _ _
                case round =>
                  obtain ⟨k, sn, hk, rfl, hsl, hsn', hS, hbel2⟩ := hrel
                  have HSL := hide hsl
                  have HSN := hide hsn'
                  have HSB := hide hS
                  clear hsl hsn' hS
                  by_cases hlt : k < l2
                  · as_aux_lemma =>
                    obtain ⟨x, hx⟩ : ∃ x, x = Vs.getD k 0 := ⟨_, rfl⟩
                    have hxn : x < txns.length := by rw [hx]; exact unhide HVN k (by omega)
                    have hkV : k < Vs.length := by rw [unhide HVL]; omega
                    have hcv := (Blk.old (unhide HI2) hbel2).cell k
                    rw [ints_at _ _ (by rw [nats_len]; exact hkV), nats_at _ _ hkV, ← hx] at hcv
                    have hcs := (unhide HSB).cell x
                    have hsx : sn.getD x false = false := by
                      cases hb : sn.getD x false
                      · rfl
                      · exfalso
                        obtain ⟨q, q1, q2⟩ := unhide HSN x hxn hb
                        have hne := cyc_ne (unhide PP) (unhide DD) q1 (by rw [← unhide HL2]; exact hlt)
                        rw [← unhide HVs] at hne
                        exact hne (by rw [q2, hx])
                    rw [bools_at _ _ (by rw [unhide HSL]; exact hxn), hsx] at hcs
                    have hfs := Blk.free (unhide HSB) x
                    have HX := hide hx
                    clear hx hsx
                    have hltI : (k : Int) + 1 < (l2 : Int) + 1 := by omega
                    go_wp2_with fail
                    refine ⟨⟨k + 1, sn.set x true, by omega, by rw [Int.natCast_add]; rfl, by rw [List.length_set]; exact unhide HSL, ?_, ?_, hbel2.trans ((Chg.setCell (S := fun g => g = w7.heap.size) wr ⟨w7.heap.size, x, none⟩ _ rfl).below hbel2.size (fun g e => by omega))⟩, by simp [intOf]; omega⟩
                    · intro y hy hb
                      by_cases e : y = x
                      · exact ⟨k, by omega, by rw [← unhide HX, e]⟩
                      · rw [getD_set_ne _ _ _ _ _ e] at hb
                        obtain ⟨q, q1, q2⟩ := unhide HSN y hy hb
                        exact ⟨q, by omega, q2⟩
                    · rw [← bools_set]
                      exact (unhide HSB).set x _
                  · obtain rfl : k = l2 := by omega
                    as_aux_lemma =>
                    clear HSL HSN HSB hk hlt
                    have BL8 := hide (below_trans (unhide BL7) hbel2)
                    have HI8 := hide (Blk.old (unhide HI2) hbel2)
                    obtain ⟨w8, hw8⟩ : ∃ x, x = wr := ⟨_, rfl⟩
                    subst hw8
                    clear BL7 BL6 HI2 hbel hbel2 RD6 RT6
                    have CF : Hid (∀ (u v : Nat) (w' : World), Ed items u v → Below w.heap.size w w' → Calls Try.prog 14 #[.slice a1 T.length c1, .slice a2 T.length c2, .int .i64 (u : Int), .int .i64 (v : Int)] w' fun e w'' => e = .returned (.bool true) ∧ w'' = w') := by
                      intro u v w' he hb
                      have h14 := conflict14_any a1 a2 c1 c2 T B (u : Int) (v : Int) w' ((unhide H1).old hb) ((unhide H2).old hb) (by omega) (unhide HL1) (unhide HTB) (unhide WF).row
                      rw [← unhide HTB] at h14
                      refine h14.mono ?_
                      rintro e w'' ⟨⟨r, rfl, hr⟩, h2⟩
                      rw [hr (ed_conf (unhide WF) (by rw [← unhide HITEMS]; exact he))]
                      exact ⟨rfl, h2⟩
                    have HED : Hid (∀ i, i < k → Ed items (Vs.getD i 0) (Vs.getD (i + 1) 0)) := by
                      intro i hi
                      have := cyc_ed (unhide PP) (unhide DD) (unhide HLA) i (by rw [← unhide HL2]; exact hi)
                      rw [← unhide HVs] at this
                      exact this
                    go_wp2_with fail
                    go_loopw [30] (fun i wr => ∃ (q dd : Nat), q ≤ k ∧ i = .int .i64 q ∧ wr = w8.drewN dd) (fun i _ => k - (intOf i).toNat)
                    case atStart => exact ⟨0, 0, Nat.zero_le _, rfl, rfl⟩
                    case round =>
                      obtain ⟨q, dd, hq, rfl, rfl⟩ := hrel
                      by_cases hlt : q < k
                      · have hqV : q < Vs.length := by rw [unhide HVL]; omega
                        have hqV2 : q + 1 < Vs.length := by rw [unhide HVL]; omega
                        have hed := unhide HED q hlt
                        have g1 := (unhide HI8).cell q
                        have g2 := (unhide HI8).cell (q + 1)
                        rw [ints_at _ _ (by rw [nats_len]; exact hqV), nats_at _ _ hqV] at g1
                        rw [ints_at _ _ (by rw [nats_len]; exact hqV2), nats_at _ _ hqV2] at g2
                        obtain ⟨u, hu⟩ : ∃ x, x = Vs.getD q 0 := ⟨_, rfl⟩
                        obtain ⟨v, hv⟩ : ∃ x, x = Vs.getD (q + 1) 0 := ⟨_, rfl⟩
                        rw [← hu] at g1 hed
                        rw [← hv] at g2 hed
                        have HEDD := hide hed
                        clear hu hv hed hqV hqV2
                        have hltI : (q : Int) + 1 < (k : Int) + 1 := by omega
                        have hq1 : (q : Int) < (k : Int) + 1 := by omega
                        have hq6 : 0 ≤ (q : Int) + 1 := by omega
                        have C2 : Hid (∀ m, Calls Try.prog 14 #[.slice a1 T.length c1, .slice a2 T.length c2, .int .i64 (u : Int), .int .i64 (v : Int)] (w8.drewN m) fun e w'' => e = .returned (.bool true) ∧ w'' = w8.drewN m) := fun m => unhide CF u v _ (unhide HEDD) (below_draws (unhide BL8) m)
                        as_aux_lemma =>
                        go_wp2_with fail
                        go_quiet ((exact (unhide C2 _).mono (fun _ _ h => ⟨h.1, _, h.2⟩)))
                        go_wp2_with fail
                        exact ⟨⟨q + 1, dd + nq, by omega, by rw [Int.natCast_add]; rfl, by simp⟩, by simp [intOf]; omega⟩
                      · obtain rfl : q = k := by omega
                        have BLF := hide (below_draws (unhide BL8) dd)
                        as_aux_lemma =>
                        go_wp2_with fail
                        go_returns
                        exact ⟨rfl, unhide BLF⟩
end Go.Proofs.Qxb6614980a
