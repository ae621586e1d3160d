/-
  FnJudgeMatchesConflictGraphModel walked.
-/
import Derived.Test.Qxb6614980aMainP
import Derived.Test.Qxb6614980aBytes5
import Derived.Test.Qxb6614980aBuild8
import Derived.Test.Qxb6614980aJudge9
import Derived.Test.Qxb6614980aCycle11
import Derived.Deep.DeepCutAuto
import Derived.LaidEql
namespace Go.Proofs.Qxb6614980a
open Go.ChangeShapes Go.WideShapes Go.ChangeAt Go.RowKit

def LpOk (lp : Option Addr) : Prop := lp = none ∨ ∃ b, lp = some ⟨b, 0, none⟩
theorem neq29 (lp : Option Addr) (h : LpOk lp) (w : World) : (binOp .neq 29 (.pointer lp) (.pointer lp)).run Try.prog w = .ok (.bool false) w := by
  obtain ⟨j, hj⟩ : ∃ j, Try.prog.info? 33 = some j := Option.isSome_iff_exists.1 (by kernel_rfl)
  rcases h with rfl | ⟨q, rfl⟩
  · have h : ∀ d : Nat, (Op.equalIn (d + 1) 29 (.pointer none) (.pointer none)).run Try.prog w = .ok true w := fun d => by
      simp [Op.equalIn, run_underlying Try.underlying29]
    simp only [binOp]
    simp [Op.equal, Op.maxDepth, h 9999]
  · have h : ∀ d : Nat, (Op.equalIn (d + 1) 29 (.pointer (some ⟨q, 0, none⟩)) (.pointer (some ⟨q, 0, none⟩))).run Try.prog w = .ok true w := fun d => by
      simp [Op.equalIn, run_underlying Try.underlying29, sizeOf, typeInfo, hj, run_sameAddr_same]
    simp only [binOp]
    simp [Op.equal, Op.maxDepth, h 9999]

/-- What the verdict is, in either case. -/
def VCase (w : World) (txns : List Int) (items : Rows3) (vb : Bool) (oa : Option Addr) (on : Nat) (ca : Option Addr) (cn : Nat) : Prop :=
  (vb = true ∧ on = txns.length ∧ cn = 0 ∧ ∃ ord, ord.length = txns.length ∧ Kahn txns.length (redAll (bares items)) ord ∧ Rd w oa (ints (ord.map fun v => txns.getD v 0))) ∨
  (vb = false ∧ on = 0 ∧ ∃ s path D, cn = path.length + 2 ∧ Least (redAll (bares items)) (fun x => x < txns.length) ((s : Nat) : Int) ∧ s < txns.length ∧ Dist txns.length s items D ∧ Pth txns.length s items D path ∧ path ≠ [] ∧ D.getD (lastOf s path) 0 = 1 ∧ Rd w ca (ints ((s :: path ++ [s]).map fun v => txns.getD v 0)) ∧ ∃ ord, Kahn txns.length (redAll (bares items)) ord ∧ ord.length ≠ txns.length)
theorem VCase.old {w w' : World} (hb : Below w.heap.size w w') {txns : List Int} {items : Rows3} {vb : Bool} {oa ca : Option Addr} {on cn : Nat} (h : VCase w txns items vb oa on ca cn) : VCase w' txns items vb oa on ca cn := by
  rcases h with ⟨h1, h2, h3, ord, h4, h5, h6⟩ | ⟨h1, h2, s, path, D, h3, h4, h5, h6, h7, h8, h9, h10, h11⟩
  · exact .inl ⟨h1, h2, h3, ord, h4, h5, h6.old hb⟩
  · exact .inr ⟨h1, h2, s, path, D, h3, h4, h5, h6, h7, h8, h9, h10.old hb, h11⟩

/-- The model's order in the making. -/
structure K3 (w0 w : World) (gd n : Nat) (vq : Value) (f : Nat → Nat) (dn : List Bool) (Qs : List Int) : Prop where
  bel : Below w0.heap.size w0 w
  i : IBlk w w0.heap.size (arrN n f)
  d : Blk w gd 4 (bools dn)
  q : OwnI w (gd + 1) vq Qs
  lt : w0.heap.size < gd
theorem K3.setI {w0 w : World} {gd n : Nat} {vq : Value} {f g : Nat → Nat} {dn : List Bool} {Qs : List Int} (h : K3 w0 w gd n vq f dn Qs) (j : Nat) (x : Int) (he : (arrN n f).set j x = arrN n g) : K3 w0 (w.setCell ⟨w0.heap.size, j, none⟩ (.int .i64 x)) gd n vq g dn Qs := by
  have hc : Chg (fun k => k = w0.heap.size) w (w.setCell ⟨w0.heap.size, j, none⟩ (.int .i64 x)) := Chg.setCell w ⟨w0.heap.size, j, none⟩ _ rfl
  have hl := h.lt
  exact ⟨h.bel.trans (hc.below h.bel.size (fun k e => by omega)), by rw [← he]; exact h.i.set j x, h.d.chg hc (by omega), h.q.chg hc (fun k hk e => by have := (h.q.lt hk).1; omega), h.lt⟩
theorem K3.setD {w0 w : World} {gd n : Nat} {vq : Value} {f : Nat → Nat} {dn : List Bool} {Qs : List Int} (h : K3 w0 w gd n vq f dn Qs) (j : Nat) (x : Bool) : K3 w0 (w.setCell ⟨gd, j, none⟩ (.bool x)) gd n vq f (dn.set j x) Qs := by
  have hc : Chg (fun k => k = gd) w (w.setCell ⟨gd, j, none⟩ (.bool x)) := Chg.setCell w ⟨gd, j, none⟩ _ rfl
  have hl := h.lt
  exact ⟨h.bel.trans (hc.below h.bel.size (fun k e => by omega)), Blk.chg h.i hc (by omega), by rw [← bools_set']; exact h.d.set j _, h.q.chg hc (fun k hk e => by have := (h.q.lt hk).1; omega), h.lt⟩
theorem K3.push {w0 w w' : World} {gd n : Nat} {vq vq' : Value} {f : Nat → Nat} {dn : List Bool} {Qs Qs' : List Int} (h : K3 w0 w gd n vq f dn Qs) (hc : Chg (fun k => vq.ownBlock = some k) w w') (ho : OwnI w' (gd + 1) vq' Qs') : K3 w0 w' gd n vq' f dn Qs' := by
  have hl := h.lt
  exact ⟨h.bel.trans (hc.below h.bel.size (fun k e => by have := (h.q.lt e).1; omega)), Blk.chg h.i hc (fun e => by have := (h.q.lt e).1; omega), h.d.chg hc (fun e => by have := (h.q.lt e).1; omega), ho, h.lt⟩
theorem K3.congr {w0 w : World} {gd n : Nat} {vq : Value} {f g : Nat → Nat} {dn : List Bool} {Qs : List Int} (h : K3 w0 w gd n vq f dn Qs) (he : ∀ x, x < n → f x = g x) : K3 w0 w gd n vq g dn Qs :=
  ⟨h.bel, by rw [← arrN_congr n f g he]; exact h.i, h.d, h.q, h.lt⟩
def R3 (w0 : World) (gd n : Nat) (items : Rows3) (tab : List Bool) (vq i : Value) (wr : World) : Prop := ∃ (ord : List Nat) (dn : List Bool), i = .int .i64 (ord.length : Int) ∧ TakenE n items ord ∧ BoolIs n dn (fun x => x ∈ ord) ∧ K3 w0 wr gd n vq (remT n tab ord) dn (nats ord)
def R3a (items : Rows3) (ord : List Nat) (n : Nat) (i : Value) : Prop := ∃ q : Nat, q ≤ n ∧ i = .int .i64 q ∧ ∀ x, x < q → ¬ AvailE items ord x
def decF (n : Nat) (tab : List Bool) (ord : List Nat) (p t x : Nat) : Nat := if x < t then remT n tab (ord ++ [p]) x else remT n tab ord x
def R3b (w0 : World) (gd n : Nat) (tab : List Bool) (ord : List Nat) (p : Nat) (vq : Value) (dn : List Bool) (i : Value) (wr : World) : Prop := ∃ t : Nat, t ≤ n ∧ i = .int .i64 t ∧ K3 w0 wr gd n vq (decF n tab ord p t) dn (nats (ord ++ [p]))
def cntF (n : Nat) (tab : List Bool) (u q x : Nat) : Nat := if x < q then cntT n tab (u + 1) x else cntT n tab u x
def R3c (w0 : World) (n : Nat) (tab : List Bool) (u : Nat) (i : Value) (wr : World) : Prop := ∃ q : Nat, q ≤ n ∧ i = .int .i64 q ∧ IBlk wr w0.heap.size (arrN n (cntF n tab u q)) ∧ Below w0.heap.size w0 wr
def R3d (w0 : World) (n : Nat) (tab : List Bool) (i : Value) (wr : World) : Prop := ∃ u : Nat, u ≤ n ∧ i = .int .i64 u ∧ IBlk wr w0.heap.size (arrN n (cntT n tab u)) ∧ Below w0.heap.size w0 wr
/-- The model's order, made. -/
def R3e (w0 : World) (n : Nat) (items : Rows3) (vq : Value) (wr : World) : Prop := ∃ (ord : List Nat) (va : Option Addr) (c : Nat), vq = .slice va ord.length c ∧ Rd wr va (ints (nats ord)) ∧ TakenE n items ord ∧ (∀ v, v < n → ¬ AvailE items ord v) ∧ Below w0.heap.size w0 wr

set_option maxRecDepth 100000 in
set_option maxHeartbeats 8000000 in
theorem main3_any (hl : Bool) (a0 a1 a2 : Option Addr) (c0 c1 c2 : Nat) (txns : List Int) (T : List (List Int)) (B : List (List Bool)) (w : World) (h0 : Rd w a0 (ints txns)) (h1 : RdRows w a1 (T.map ints)) (h2 : RdRows w a2 (B.map bools)) (hnil : a0 = none → txns.length = 0) :
    Calls Try.prog 3 #[.bool hl, .slice a0 txns.length c0, .slice a1 T.length c1, .slice a2 B.length c2] w fun e w' => e = .returned (.bool true) ∧ Below w.heap.size w w' := by
  have H0 := hide h0
  have H1 := hide h1
  have H2 := hide h2
  have CC := bytes5_says hl a0 a1 a2 txns.length c0 c1 c2 (T.map ints) (B.map bools) w h1 h2
  rw [List.length_map, List.length_map] at CC
  have HCC := hide CC
  have HNIL := hide hnil
  clear h0 h1 h2 CC hnil
  go_enter Try.func3, Try.ntmps3
  go_wp2_with fail
  refine (unhide HCC).mono ?_
  rintro e w' ⟨⟨r, rfl, hr⟩, hw'⟩
  have hw2 := hw'.symm
  subst hw2
  clear hw'
  have HR := hide hr
  clear hr
  cases r
  · as_aux_lemma =>
    go_wp2_with fail
    go_returns
    exact ⟨rfl, Below.refl _ _⟩
  obtain ⟨_, _, _, hL1, hL2⟩ := unhide HR rfl
  have HL1 : Hid (∀ j, j < T.length → (T.getD j []).length ≤ 1048576) := by
    intro j hj
    have := hL1 j (by rw [List.length_map]; exact hj)
    rw [mapRow_at ints rfl, ints_len] at this
    exact this
  have HL2 : Hid (∀ j, j < B.length → (B.getD j []).length ≤ 1048576) := by
    intro j hj
    have := hL2 j (by rw [List.length_map]; exact hj)
    rw [mapRow_at bools rfl, bools_len] at this
    exact this
  clear hL1 hL2 HR HCC
  by_cases hb0 : txns.length ≤ 256
  case neg =>
    as_aux_lemma =>
    go_wp2_with fail
    go_returns
    exact ⟨rfl, Below.refl _ _⟩
  by_cases hb1 : T.length ≤ 4096
  case neg =>
    as_aux_lemma =>
    go_wp2_with fail
    go_returns
    exact ⟨rfl, Below.refl _ _⟩
  by_cases hb2 : B.length ≤ 4096
  case neg =>
    as_aux_lemma =>
    go_wp2_with fail
    go_returns
    exact ⟨rfl, Below.refl _ _⟩
  go_wp2_with fail
  go_loopw [9, 10] (fun z i wr => ∃ k : Nat, k ≤ T.length ∧ i = .int .i64 k ∧ z = .int .i64 ((lensT T k : Nat) : Int) ∧ lensT T k ≤ 4096 ∧ w = wr) (fun _ i _ => T.length - (intOf i).toNat)
  case atStart => exact ⟨0, Nat.zero_le _, rfl, rfl, Nat.zero_le _, rfl⟩
  case round =>
    obtain ⟨k, hk, rfl, rfl, htot, rfl⟩ := hrel
    obtain ⟨tot, htt⟩ : ∃ q, q = lensT T k := ⟨_, rfl⟩
    rw [← htt] at htot ⊢
    have HTT := hide htt
    clear htt
    by_cases hlt : k < T.length
    · as_aux_lemma =>
      obtain ⟨b, off, ar, cr, e1, hc, _⟩ := unhide H1 k (by rw [List.length_map]; exact hlt)
      subst e1
      rw [mapRow_at ints rfl, ints_len] at hc
      have hl := unhide HL1 k hlt
      obtain ⟨m, hm⟩ : ∃ q, q = (T.getD k []).length := ⟨_, rfl⟩
      rw [← hm] at hc hl
      have HMM := hide hm
      clear hm
      by_cases hgt : tot + m ≤ 4096
      · go_wp2_with fail
        exact ⟨⟨k + 1, by omega, by rw [Int.natCast_add]; rfl, by rw [lensT_succ _ _ hlt, ← unhide HTT, ← unhide HMM, Int.natCast_add], by rw [lensT_succ _ _ hlt, ← unhide HTT, ← unhide HMM]; exact hgt, by first | rfl | trivial⟩, by simp [intOf]; omega⟩
      · go_wp2_with fail
        go_returns
        exact ⟨rfl, Below.refl _ _⟩
    · obtain rfl : k = T.length := by omega
      have htot' : lensT T T.length ≤ 4096 := by rw [← unhide HTT]; exact htot
      have HTOT := hide htot'
      clear htot'
      go_wp2_with fail
      go_loopw [11, 12] (fun z i wr => ∃ k : Nat, k ≤ B.length ∧ i = .int .i64 k ∧ z = .int .i64 ((lensT B k : Nat) : Int) ∧ lensT B k ≤ 4096 ∧ w = wr) (fun _ i _ => B.length - (intOf i).toNat)
      case atStart => exact ⟨0, Nat.zero_le _, rfl, rfl, Nat.zero_le _, rfl⟩
      case round =>
        obtain ⟨k2, hk2, rfl, rfl, htot2, rfl⟩ := hrel
        obtain ⟨tot2, htt2⟩ : ∃ q, q = lensT B k2 := ⟨_, rfl⟩
        rw [← htt2] at htot2 ⊢
        have HTT2 := hide htt2
        clear htt2
        by_cases hlt2 : k2 < B.length
        · as_aux_lemma =>
          obtain ⟨b, off, ar, cr, e1, hc, _⟩ := unhide H2 k2 (by rw [List.length_map]; exact hlt2)
          subst e1
          rw [mapRow_at bools rfl, bools_len] at hc
          have hl := unhide HL2 k2 hlt2
          obtain ⟨m, hm⟩ : ∃ q, q = (B.getD k2 []).length := ⟨_, rfl⟩
          rw [← hm] at hc hl
          have HMM := hide hm
          clear hm
          by_cases hgt : tot2 + m ≤ 4096
          · go_wp2_with fail
            exact ⟨⟨k2 + 1, by omega, by rw [Int.natCast_add]; rfl, by rw [lensT_succ _ _ hlt2, ← unhide HTT2, ← unhide HMM, Int.natCast_add], by rw [lensT_succ _ _ hlt2, ← unhide HTT2, ← unhide HMM]; exact hgt, by first | rfl | trivial⟩, by simp [intOf]; omega⟩
          · go_wp2_with fail
            go_returns
            exact ⟨rfl, Below.refl _ _⟩
        · obtain rfl : k2 = B.length := by omega
          as_aux_lemma =>
          clear htot2 HTT2 hlt2 hk2 hlt hk htot HTT
          go_wp2_with fail
          refine (wf6_any a0 a1 a2 c0 c1 c2 txns T B w (unhide H0) (unhide H1) (unhide H2) (by omega) (by omega) (unhide HL1)).mono ?_
          rintro e w' ⟨⟨r, rfl, hr⟩, ⟨d, rfl⟩⟩
          have HR := hide hr
          clear hr
          cases r
          · as_aux_lemma =>
            go_wp2_with fail
            go_returns
            exact ⟨rfl, below_draws (Below.refl _ _) d⟩
          have WF := hide (unhide HR rfl)
          clear HR
          have hTB := (unhide WF).len
          rw [← hTB]
          have HTB := hide hTB
          clear hTB hb2
          have BL0 : Hid (Below w.heap.size w (w.drewN d)) := below_draws (Below.refl _ _) d
          generalize w.drewN d = w1 at BL0 ⊢
          go_wp2_with fail
          refine (clone7_any a0 c0 txns w1 ((unhide H0).old (unhide BL0)) (by omega) (unhide HNIL)).mono ?_
          rintro e w2 ⟨⟨at2, ct2, rfl, hRt⟩, hb2⟩
          have RT := hide hRt
          have BL2 := hide (below_trans (unhide BL0) hb2)
          clear hRt hb2 BL0
          go_upto_if 86 with fail
          go_cut [13] (fun v13 wc => ∃ lp, v13 = .pointer lp ∧ LpOk lp ∧ Below w2.heap.size w2 wc)
          case first =>
            cases hl
            · go_wp2_with fail
              go_meet
              case rel => exact ⟨none, rfl, .inl rfl, Below.refl _ _⟩
            · go_wp2_with fail
              go_meet
              case rel => exact ⟨_, rfl, .inr ⟨_, rfl⟩, below_new _ _⟩
          case rest =>
          obtain ⟨lp, rfl, hlp, hbc⟩ := hcut
          have HLP := hide hlp
          clear hlp
          have RTc := hide ((unhide RT).old hbc)
          have BLc := hide (below_trans (unhide BL2) hbc)
          clear RT BL2 hbc
          have RT := RTc
          have BL2 := BLc
          clear RTc BLc
          obtain ⟨w2, hw2c⟩ : ∃ x, x = wc := ⟨_, rfl⟩
          subst hw2c
          obtain ⟨items, hit⟩ : ∃ q, q = mk3 T B := ⟨_, rfl⟩
          have hil : items.length = T.length := by rw [hit, mk3_len]
          have HIL := hide hil
          have HITEMS := hide hit
          have htt : total items ≤ 4096 := by rw [hit, mk3_total]; exact unhide HTOT
          have HTL := hide htt
          have hR1 : RdRows w a1 (items.map fun r => ints (txOf r)) := by rw [hit, mk3_tx (unhide WF)]; exact unhide H1
          have hR2 : RdRows w a2 (items.map fun r => bools (wtOf r)) := by rw [hit, mk3_wt (unhide WF)]; exact unhide H2
          have hlt3 : ∀ j i, j < items.length → i < (items.getD j []).length → (acc items j i).1 < txns.length := by rw [hit]; exact mk3_lt (unhide WF)
          have HLT3 := hide hlt3
          have C8 := build8_any lp at2 a1 a2 ct2 c1 c2 txns items w2 (unhide RT) (hR1.old (unhide BL2)) (hR2.old (unhide BL2)) hlt3 (by rw [hit]; exact mk3_counts (unhide WF)) (by omega) (by omega) htt
          rw [hil] at C8
          have HC8 := hide C8
          clear C8 hit hil htt hR1 hR2 hlt3
          go_wp2_with fail
          refine (unhide HC8).mono ?_
          rintro e w3 ⟨⟨pg, rfl, hG⟩, hb3⟩
          have GM := hide hG
          have RT3 := hide ((unhide RT).old hb3)
          have BL3 := hide (below_trans (unhide BL2) hb3)
          clear hG hb3 BL2 RT HC8
          have hrl : ∀ j, (items.getD j []).length ≤ 4096 := fun j => Nat.le_trans (row_le items j) (unhide HTL)
          have hwl : ∀ j, ((writesOf items).getD j []).length ≤ 4096 := fun j => by
            rw [writesOf_at, nats_len]
            exact Nat.le_trans (wposN_len _ _) (hrl j)
          have hol : ∀ j, ((ofsOf txns.length items).getD j []).length ≤ 1048576 := by
            intro j
            by_cases hj : j < txns.length
            · rw [ofsOf_at _ _ _ hj]
              have e1 := refsTo_len items items.length 0 j
              have e2 := allTo_end items
              have e3 : total items ≤ 4096 := unhide HTL
              omega
            · rw [show (ofsOf txns.length items).getD j [] = [] by simp [ofsOf, List.getD, List.getElem?_eq_none (show (List.range txns.length).length ≤ j by rw [List.length_range]; omega)]]
              simp
          have hil2 : items.length ≤ 4096 := by rw [unhide HIL]; exact hb1
          have C9 := judge9_any pg lp txns items (writesOf items) (ofsOf txns.length items) w3 (unhide GM) (gok_of txns.length items (unhide HLT3) (by rw [unhide HITEMS]; exact mk3_counts (unhide WF))) (by omega) hil2 hrl hwl hol (red_len items hil2 hrl)
          have HC9 := hide C9
          clear C9 hrl hwl hol hil2
          go_wp2_with fail
          refine (unhide HC9).mono ?_
          rintro e w4 ⟨hV, hb4⟩
          have RT4 := hide ((unhide RT3).old hb4)
          have BL4 := hide (below_trans (unhide BL3) hb4)
          clear hb4 BL3 RT3 HC9 GM
          have R1 := hide ((unhide H1).old (unhide BL4))
          have R2 := hide ((unhide H2).old (unhide BL4))
          obtain ⟨vb, oa, on, oc, ca, cn, cc, rfl, hcase⟩ : ∃ vb oa on oc ca cn cc, e = .returned (.agg #[.bool vb, .int .i64 (txns.length : Int), .slice oa on oc, .slice ca cn cc, .pointer lp]) ∧ VCase w4 txns items vb oa on ca cn := by
            rcases hV with ⟨av, cv, ord, rfl, h1, h2, h3⟩ | ⟨av, cv, s, path, D, rfl, h1, h2, h3, h4, h5, h6, h7, h8⟩
            · exact ⟨true, av, txns.length, cv, none, 0, 0, rfl, .inl ⟨rfl, rfl, rfl, ord, h1, h2, h3⟩⟩
            · exact ⟨false, none, 0, 0, av, path.length + 2, cv, rfl, .inr ⟨rfl, rfl, s, path, D, rfl, h1, h2, h3, h4, h5, h6, h7, h8⟩⟩
          have VC := hide hcase
          clear hcase hV
          as_aux_lemma =>
          go_upto_region 27 with fail
          obtain ⟨w5, hw5⟩ : ∃ q, q = w4.alloc (.cells #[.bool vb, .int .i64 (txns.length : Int), .slice oa on oc, .slice ca cn cc, .pointer lp] 37) := ⟨_, rfl⟩
          have hb5 : Below w4.heap.size w4 w5 := by rw [hw5]; exact below_new _ _
          have BV : Hid (Blk w5 w4.heap.size 37 [.bool vb, .int .i64 (txns.length : Int), .slice oa on oc, .slice ca cn cc, .pointer lp]) := by rw [hw5]; exact Blk.new' _ _ _
          rw [← hw5]
          have BL5 := hide (below_trans (unhide BL4) hb5)
          have VC5 := hide ((unhide VC).old hb5)
          have RT5 := hide ((unhide RT4).old hb5)
          clear hw5 hb5 BL4 VC RT4 R1 R2
          generalize w4.heap.size = bv at BV ⊢
          obtain ⟨n, hn'⟩ : ∃ n, n = txns.length := ⟨_, rfl⟩
          have HNN := hide hn'
          rw [← hn'] at hb0
          have hR1 : RdRows w5 a1 (items.map fun r => ints (txOf r)) := by rw [unhide HITEMS, mk3_tx (unhide WF)]; exact (unhide H1).old (unhide BL5)
          have hR2 : RdRows w5 a2 (items.map fun r => bools (wtOf r)) := by rw [unhide HITEMS, mk3_wt (unhide WF)]; exact (unhide H2).old (unhide BL5)
          have C10' := conf10_any a1 a2 n c1 c2 items w5 hR1 hR2 (by rw [hn']; exact unhide HLT3) hb0 (by rw [unhide HIL]; exact hb1) (fun j => Nat.le_trans (row_le items j) (unhide HTL))
          rw [unhide HIL] at C10'
          have HED : Hid (∀ x u, Ed items x u → x < n ∧ u < n) := by
            rintro x u ⟨_, j, i, k, hj, hik, hk, h1, h2, _⟩
            rw [hn', ← h1, ← h2]
            exact ⟨unhide HLT3 j i hj (by omega), unhide HLT3 j k hj hk⟩
          have HC10 := hide C10'
          clear C10' hR1 hR2
          rw [← hn'] at BV ⊢
          clear hn'
          have hm1 := run_make_row' (P := Try.prog) 22 3 (.int .i64 0) 8 Try.underlying22 info3 rfl .i64 .i64 n (by omega) (by omega)
          have hm2 := run_make_row' (P := Try.prog) 26 4 (.bool false) 1 Try.underlying26 info4' rfl .i64 .i64 n (by omega) (by omega)
          obtain ⟨i0, hi, hz0, hz1, hz2⟩ := info_parts info3
          go_upto_region 28 with fail
          go_wp2_with fail
          refine (unhide HC10).mono ?_
          rintro e w6 ⟨⟨ge, ce, tab, rfl, _, hTab, hRE⟩, hb6⟩
          have HTAB := hide hTab
          have RE := hide hRE
          have BL6 := hide (below_trans (unhide BL5) hb6)
          have VC6 := hide ((unhide VC5).old hb6)
          have RT6 := hide ((unhide RT5).old hb6)
          have BV6 := hide ((unhide BV).old hb6)
          clear hTab hRE hb6 HC10 BL5 VC5 RT5 BV
          obtain ⟨N, hN⟩ : ∃ N, N = n * n := ⟨_, rfl⟩
          have hNb : N ≤ 65536 := by rw [hN]; exact Nat.mul_le_mul hb0 hb0
          rw [← hN]
          have HNsq := hide hN
          have HTL6 : Hid (tab.length = N) := by rw [hN]; exact (unhide HTAB).1
          clear hN
          go_wp2_with fail
          go_loopw [19] (fun i wr => R3d w6 n tab i wr) (fun i _ => n - (intOf i).toNat)
          case atStart =>
            refine ⟨0, Nat.zero_le _, rfl, ?_, below_new _ _⟩
            rw [← arrN_zero n _ (fun x => by simp [cntT])]
            exact IBlk.new _ _
          case round =>
            obtain ⟨u, hu, rfl, hI, hbel⟩ := hrel
            have HI := hide hI
            clear hI
            by_cases hlu : u < n
            · obtain ⟨m1, hm1'⟩ : ∃ m1, m1 = u * n := ⟨_, rfl⟩
              have hun2 : (u : Int) * (n : Int) = (m1 : Int) := by rw [hm1', Int.natCast_mul]
              have HM1 := hide hm1'
              clear hm1'
              as_aux_lemma =>
              go_wp2_with fail
              go_loopw [20] (fun i wr => R3c w6 n tab u i wr) (fun i _ => n - (intOf i).toNat)
              case atStart =>
                refine ⟨0, Nat.zero_le _, rfl, ?_, hbel⟩
                rw [arrN_congr n (cntF n tab u 0) (cntT n tab u) (fun x _ => by unfold cntF; rw [if_neg (by omega)])]
                exact unhide HI
              case round =>
                clear HI hbel
                obtain ⟨q, hq, rfl, hI, hbel⟩ := hrel
                have HI := hide hI
                clear hI
                by_cases hlq : q < n
                · have hidx := idx_lt hlu hlq
                  rw [← unhide HM1, ← unhide HNsq] at hidx
                  obtain ⟨gb, go, gee, hed⟩ := ((unhide RE).old hbel).bool (j := m1 + q) (by rw [unhide HTL6]; exact hidx)
                  cases gee
                  have htb : tab.getD (m1 + q) false = tb n tab u q := by unfold tb; rw [← unhide HM1]
                  rw [htb, Nat.zero_add] at hed
                  have hci := (unhide HI).cell (j := q) (by rw [arrN_len]; exact hlq)
                  rw [arrN_at _ _ _ hlq] at hci
                  have hfi := Blk.free (unhide HI) q
                  have hcf : cntF n tab u q q = cntT n tab u q := by unfold cntF; rw [if_neg (by omega)]
                  have hcl9 := cntT_le n tab u q
                  rw [hcf] at hci
                  have hsc := cntT_succ n tab u q
                  obtain ⟨te, hte⟩ : ∃ b, b = tb n tab u q := ⟨_, rfl⟩
                  obtain ⟨cq, hcq⟩ : ∃ c, c = cntT n tab u q := ⟨_, rfl⟩
                  rw [← hte] at hed hsc
                  rw [← hcq] at hci hsc hcl9
                  have HSC := hide hsc
                  have HCQ := hide hcq
                  clear hte hcq hsc hcf htb
                  cases te
                  · as_aux_lemma =>
                    go_wp2_with fail
                    refine ⟨⟨q + 1, by omega, by rw [Int.natCast_add]; rfl, ?_, hbel⟩, by simp [intOf]; omega⟩
                    rw [arrN_congr n (cntF n tab u (q + 1)) (cntF n tab u q) (fun x _ => by
                      unfold cntF
                      by_cases e : x = q
                      · subst e
                        rw [if_pos (by omega), if_neg (by omega), unhide HSC, if_neg (by decide), ← unhide HCQ]
                        rfl
                      · by_cases e2 : x < q
                        · rw [if_pos (by omega), if_pos e2]
                        · rw [if_neg (by omega), if_neg e2])]
                    exact unhide HI
                  · as_aux_lemma =>
                    go_wp2_with fail
                    refine ⟨⟨q + 1, by omega, by rw [Int.natCast_add]; rfl, ?_, hbel.trans ((Chg.setCell (S := fun k => k = w6.heap.size) wr ⟨w6.heap.size, q, none⟩ _ rfl).below hbel.size (fun k e => by omega))⟩, by simp [intOf]; omega⟩
                    have hs1 := (unhide HI).set q ((cq : Int) + 1)
                    rw [arrN_set n (cntF n tab u q) (cntF n tab u (q + 1)) q hlq (fun x hx => by
                      unfold cntF
                      by_cases e2 : x < q
                      · rw [if_pos e2, if_pos (by omega)]
                      · rw [if_neg e2, if_neg (by omega)]) _ (by
                      unfold cntF
                      rw [if_pos (by omega), unhide HSC, if_pos rfl, Int.natCast_add]
                      rfl)] at hs1
                    exact hs1
                · have hqn : n = q := by omega
                  subst hqn
                  as_aux_lemma =>
                  go_wp2_with fail
                  refine ⟨⟨u + 1, by omega, by rw [Int.natCast_add]; rfl, ?_, hbel⟩, by simp [intOf]; omega⟩
                  rw [arrN_congr n (cntT n tab (u + 1)) (cntF n tab u n) (fun x hx => by unfold cntF; rw [if_pos hx])]
                  exact unhide HI
            · have hun : n = u := by omega
              subst hun
              have HI7 : Hid (IBlk wr w6.heap.size (arrN n (remT n tab []))) := by
                rw [arrN_congr n (remT n tab []) (cntT n tab n) (fun x _ => remT_nil n tab x)]
                exact unhide HI
              have BL7 := hide hbel
              clear HI hbel hu hlu
              obtain ⟨w7, hw7⟩ : ∃ x, x = wr := ⟨_, rfl⟩
              subst hw7
              as_aux_lemma =>
              have hsz7 : w6.heap.size < w7.heap.size := Blk.lt (unhide HI7)
              go_upto_region 40 with (at_make; refine wpList_make_own _ rfl _ _ 22 rfl (w7.heap.size + 1) 3 i0 (.int .i64 0) 1 Try.underlying22 hi hz0 hz1 _ _ _ n rfl rfl rfl (by rw [hz2]; omega) (by unfold maxLen; omega) (by simp) ?_; intro w9 ho9 hg9)
              have hc9 : Chg (fun _ => False) (w7.alloc (.cells (madeCells #[.bool false] n) 4)) w9 := Chg.grown hg9 (fun k e => by cases e)
              have S9 : Hid (R3 w6 w7.heap.size n items tab (.slice (some ⟨w7.heap.size + 1, 0, none⟩) 0 n) (.int .i64 0) w9) := by
                refine ⟨[], List.replicate n false, rfl, takenE_nil _ _, (boolIs_rep n).congr (fun u _ => by simp), ?_, ?_, ?_, ?_, hsz7⟩
                · exact ((unhide BL7).trans ((below_new w7 _).mono (by omega))).trans (hc9.below (by have := (unhide BL7).size; simp; omega) (fun _ e => e.elim))
                · exact Blk.chg (Blk.alloc (unhide HI7) _) hc9 (fun e => e)
                · have := Blk.new' w7 4 (madeCells #[.bool false] n)
                  rw [made_bools'] at this
                  exact this.chg hc9 (fun e => e)
                · have h9 : OwnI w9 (w7.heap.size + 1) (.slice (some ⟨(w7.alloc (.cells (madeCells #[.bool false] n) 4)).heap.size, 0, none⟩) 0 n) (nats []) := ho9
                  rw [World.size_alloc] at h9
                  exact h9
              clear ho9 hg9 hc9 HI7
              go_cut [23] (fun v23 wc => v23 = .int .i64 0 ∧ wc = w9)
              case first =>
                go_wp2_with fail
                go_meet
                case rel => exact ⟨rfl, rfl⟩
              case rest =>
              obtain ⟨rfl, rfl⟩ := hcut
              apply_assumption
              go_cut [22] (fun v22 wc => R3e w6 n items v22 wc)
              case first =>
                as_aux_lemma =>
                go_wp2_with fail
                go_loopw [22, 23] (fun vq i wr => R3 w6 w7.heap.size n items tab vq i wr) (fun _ i _ => n - (intOf i).toNat)
                case atStart => exact unhide S9
                case round =>
                  clear S9
                  obtain ⟨ord, dn, rfl, hTk, hDn, hK⟩ := hrel
                  have TK := hide hTk
                  have DN := hide hDn
                  have KK := hide hK
                  have hol9 := hTk.len
                  clear hTk hDn hK
                  obtain ⟨va, vc, hvq⟩ := (unhide KK).q.form
                  rw [nats_len] at hvq
                  subst hvq
                  by_cases hst : ord.length < n
                  · as_aux_lemma =>
                    obtain ⟨wA, hwA⟩ : ∃ x, x = wr := ⟨_, rfl⟩
                    subst hwA
                    go_wp2_with fail
                    go_loopw [24, 25] (fun v24 i wr => v24 = .int .i64 (-1) ∧ R3a items ord n i ∧ wA = wr) (fun _ i _ => n - (intOf i).toNat)
                    case atStart => exact ⟨rfl, ⟨0, Nat.zero_le _, rfl, (fun x hx => by omega)⟩, by first | rfl | trivial⟩
                    case round =>
                      obtain ⟨rfl, ⟨q, hq, rfl, hno⟩, rfl⟩ := hrel
                      have NO := hide hno
                      clear hno
                      by_cases hlq : q < n
                      · have d1 := blk_bool (unhide KK).d (j := q) (by rw [(unhide DN).1]; exact hlq)
                        have hdi := (unhide DN).2 q hlq
                        have hci := (unhide KK).i.cell (j := q) (by rw [arrN_len]; exact hlq)
                        rw [arrN_at _ _ _ hlq] at hci
                        have hav := avail_rem (unhide HTAB) (unhide HED) (done := ord) hlq
                        have hrl9 := remT_le n tab ord q
                        obtain ⟨bd, hbd⟩ : ∃ b, b = dn.getD q false := ⟨_, rfl⟩
                        obtain ⟨rq, hrq⟩ : ∃ r, r = remT n tab ord q := ⟨_, rfl⟩
                        rw [← hbd] at d1 hdi
                        rw [← hrq] at hci hav hrl9
                        have HAV := hide hav
                        have HDI := hide hdi
                        clear hav hdi hbd hrq
                        have NX : Hid (¬ AvailE items ord q → ∀ x, x < q + 1 → ¬ AvailE items ord x) := by
                          intro h x hx
                          by_cases e : x = q
                          · subst e; exact h
                          · exact unhide NO x (by omega)
                        cases bd
                        · by_cases hr0 : rq = 0
                          · have AV : Hid (AvailE items ord q) := (unhide HAV).2 ⟨(fun hm => by have := (unhide HDI).2 hm; cases this), hr0⟩
                            subst hr0
                            have hx0 : ¬ (q : Int) < 0 := by omega
                            have fd := (unhide KK).d.free q
                            have hnm : Hid (q ∉ ord) := (unhide AV).1
                            as_aux_lemma =>
                            go_upto_region 51 with fail
                            have K1 := hide ((unhide KK).setD q true)
                            clear d1 hci fd KK
                            generalize wA.setCell ⟨w7.heap.size, q, none⟩ (.bool true) = w10 at K1 ⊢
                            have hsz10 : w7.heap.size + 1 ≤ w10.heap.size := (unhide K1).d.lt
                            go_upto_region 52 with (at_builtin; refine wpList_push 22 Try.underlying22 rfl (.tmp 160) (.tmp 162) rfl (w7.heap.size + 1) (.slice va ord.length vc) (nats ord) rfl (unhide K1).q (q : Int) w10.heap.size rfl rfl (by rw [nats_len]; omega) hsz10 ?_; rw [nats_len]; intro g11 cap11 w11 ho11 hc11 hat11; have HO11 := hide ho11; clear ho11)
                            have K2 : Hid (K3 w6 w11 w7.heap.size n (.slice (some ⟨g11, 0, none⟩) (ord.length + 1) cap11) (remT n tab ord) (dn.set q true) (nats (ord ++ [q]))) := (unhide K1).push hc11 (by
                              rw [show nats (ord ++ [q]) = nats ord ++ [(q : Int)] by simp [nats]]
                              exact unhide HO11)
                            clear HO11 hc11 hat11 K1 hsz10
                            obtain ⟨m5, hm5'⟩ : ∃ m5, m5 = q * n := ⟨_, rfl⟩
                            have hqn5 : (q : Int) * (n : Int) = (m5 : Int) := by rw [hm5', Int.natCast_mul]
                            have HM5 := hide hm5'
                            clear hm5'
                            go_wp2_with fail
                            go_loopw [26] (fun i wr => R3b w6 w7.heap.size n tab ord q (.slice (some ⟨g11, 0, none⟩) (ord.length + 1) cap11) (dn.set q true) i wr) (fun i _ => n - (intOf i).toNat)
                            case atStart => exact ⟨0, Nat.zero_le _, rfl, (unhide K2).congr (fun x _ => by unfold decF; rw [if_neg (by omega)])⟩
                            case round =>
                              clear K2
                              obtain ⟨t, ht, rfl, hK⟩ := hrel
                              have KK := hide hK
                              clear hK
                              by_cases hlt9 : t < n
                              · have hidx := idx_lt hlq hlt9
                                rw [← unhide HM5, ← unhide HNsq] at hidx
                                obtain ⟨gb, go, gee, hed⟩ := ((unhide RE).old (unhide KK).bel).bool (j := m5 + t) (by rw [unhide HTL6]; exact hidx)
                                cases gee
                                have htb : tab.getD (m5 + t) false = tb n tab q t := by unfold tb; rw [← unhide HM5]
                                rw [htb, Nat.zero_add] at hed
                                have hci := (unhide KK).i.cell (j := t) (by rw [arrN_len]; exact hlt9)
                                rw [arrN_at _ _ _ hlt9] at hci
                                have hfi := Blk.free (unhide KK).i t
                                have hcf : decF n tab ord q t t = remT n tab ord t := by unfold decF; rw [if_neg (by omega)]
                                have hrl8 := remT_le n tab ord t
                                rw [hcf] at hci
                                have hsc := remT_push (tab := tab) (n := n) hlq (unhide hnm) t
                                obtain ⟨te, hte⟩ : ∃ b, b = tb n tab q t := ⟨_, rfl⟩
                                obtain ⟨rt, hrt⟩ : ∃ c, c = remT n tab ord t := ⟨_, rfl⟩
                                rw [← hte] at hed hsc
                                rw [← hrt] at hci hsc hrl8
                                have HSC := hide hsc
                                have HRT := hide hrt
                                clear hte hrt hsc hcf htb
                                cases te
                                · as_aux_lemma =>
                                  go_wp2_with fail
                                  refine ⟨⟨t + 1, by omega, by rw [Int.natCast_add]; rfl, (unhide KK).congr (fun x _ => ?_)⟩, by simp [intOf]; omega⟩
                                  unfold decF
                                  by_cases e : x = t
                                  · subst e
                                    have := unhide HSC
                                    rw [if_neg (by decide), Nat.add_zero] at this
                                    rw [if_neg (by omega), if_pos (by omega), ← unhide HRT]
                                    exact this
                                  · by_cases e2 : x < t
                                    · rw [if_pos e2, if_pos (by omega)]
                                    · rw [if_neg e2, if_neg (by omega)]
                                · as_aux_lemma =>
                                  have hrt1 : rt = remT n tab (ord ++ [q]) t + 1 := by
                                    have := unhide HSC
                                    rwa [if_pos rfl] at this
                                  have HR1 := hide hrt1
                                  have hrt2 : 1 ≤ rt := by omega
                                  clear hrt1
                                  go_wp2_with fail
                                  refine ⟨⟨t + 1, by omega, by rw [Int.natCast_add]; rfl, (unhide KK).setI t _ (arrN_set n _ _ t hlt9 (fun x hx => ?_) _ ?_)⟩, by simp [intOf]; omega⟩
                                  · unfold decF
                                    by_cases e2 : x < t
                                    · rw [if_pos e2, if_pos (by omega)]
                                    · rw [if_neg e2, if_neg (by omega)]
                                  · unfold decF
                                    rw [if_pos (by omega), unhide HR1]
                                    omega
                              · have htn9 : n = t := by omega
                                subst htn9
                                as_aux_lemma =>
                                go_wp2_with fail
                                refine ⟨⟨ord ++ [q], dn.set q true, ?_, (unhide TK).push hlq (unhide AV) (fun v hv hav => ?_), ((unhide DN).set hlq).congr (fun u _ => by simp), (unhide KK).congr (fun x hx => by unfold decF; rw [if_pos hx])⟩, by simp [intOf]; omega⟩
                                · rw [List.length_append, List.length_singleton, Int.natCast_add]
                                  rfl
                                · apply Decidable.byContradiction
                                  intro hc
                                  exact unhide NO v (by omega) hav
                          · have NA : Hid (∀ x, x < q + 1 → ¬ AvailE items ord x) := unhide NX (fun h => hr0 ((unhide HAV).1 h).2)
                            have hr0' : ((rq : Int) == 0) = false := by simp; omega
                            as_aux_lemma =>
                            go_wp2_with fail
                            exact ⟨⟨by first | rfl | trivial, ⟨q + 1, by omega, by rw [Int.natCast_add]; rfl, unhide NA⟩, by first | rfl | trivial⟩, by simp [intOf]; omega⟩
                        · have NA : Hid (∀ x, x < q + 1 → ¬ AvailE items ord x) := unhide NX (fun h => ((unhide HAV).1 h).1 ((unhide HDI).1 rfl))
                          as_aux_lemma =>
                          go_wp2_with fail
                          exact ⟨⟨by first | rfl | trivial, ⟨q + 1, by omega, by rw [Int.natCast_add]; rfl, unhide NA⟩, by first | rfl | trivial⟩, by simp [intOf]; omega⟩
                      · have hqn9 : n = q := by omega
                        subst hqn9
                        as_aux_lemma =>
                        go_wp2_with fail
                        go_meet
                        case rel => exact ⟨ord, va, vc, rfl, (unhide KK).q.rd, unhide TK, unhide NO, (unhide KK).bel⟩
                  · as_aux_lemma =>
                    have hfull : ord.length = n := by omega
                    have NONE := hide ((unhide TK).full hfull)
                    go_wp2_with fail
                    go_meet
                    case rel => exact ⟨ord, va, vc, rfl, (unhide KK).q.rd, unhide TK, unhide NONE, (unhide KK).bel⟩
              case rest =>
              obtain ⟨ordE, va, vc, rfl, hRo, hTE, hnone, hbE⟩ := hcut
              have RO8 := hide hRo
              have TE8 := hide hTE
              have NN8 := hide hnone
              have VC8 := hide ((unhide VC6).old hbE)
              have RT8 := hide ((unhide RT6).old hbE)
              have BV8 := hide ((unhide BV6).old hbE)
              have RE8 := hide ((unhide RE).old hbE)
              have BL8 := hide (below_trans (unhide BL6) hbE)
              have hole := hTE.len
              clear hRo hTE hnone hbE VC6 RT6 BV6 RE BL6 S9
              obtain ⟨w8, hw8⟩ : ∃ x, x = wc := ⟨_, rfl⟩
              subst hw8
              have q29 : ∀ w : World, (binOp .neq 29 (.pointer lp) (.pointer lp)).run Try.prog w = .ok (.bool false) w := neq29 lp (unhide HLP)
              have x0 : w8.cell? ⟨bv, 0, none⟩ = some (.bool vb) := (unhide BV8).cell 0
              have x1 : w8.cell? ⟨bv, 1, none⟩ = some (.int .i64 (n : Int)) := by
                have := (unhide BV8).cell 1
                exact this
              have x2 : w8.cell? ⟨bv, 2, none⟩ = some (.slice oa on oc) := (unhide BV8).cell 2
              have x3 : w8.cell? ⟨bv, 3, none⟩ = some (.slice ca cn cc) := (unhide BV8).cell 3
              have x4 : w8.cell? ⟨bv, 4, none⟩ = some (.pointer lp) := (unhide BV8).cell 4
              apply_assumption
              rcases unhide VC8 with ⟨rfl, h2, rfl, ord, h4, h5, h6⟩ | ⟨rfl, rfl, s, path, D, h3, h4, h5, h6, h7, h8, h9, h10, ord, h11, h12⟩
              · rw [← unhide HNN] at h2 h4 h5
                subst h2
                have hoe : ord = ordE := order_uniq h5 (unhide TE8) (unhide NN8)
                subst hoe
                have HR6 := hide h6
                have HK5 := hide h5
                have HL4 := hide h4
                clear h5 h6
                as_aux_lemma =>
                rw [h4]
                clear h4
                go_wp2_with fail
                go_loopw [27] (fun i wr => ∃ (k dd : Nat), k ≤ on ∧ i = .int .i64 k ∧ wr = w8.drewN dd) (fun i _ => on - (intOf i).toNat)
                case atStart => exact ⟨0, 0, Nat.zero_le _, rfl, rfl⟩
                case round =>
                  obtain ⟨k, dd, hk, rfl, rfl⟩ := hrel
                  by_cases hlk : k < on
                  · have hko : k < ord.length := by rw [unhide HL4]; exact hlk
                    obtain ⟨b1, f1, e1, g1⟩ := (unhide HR6).int (j := k) (by rw [List.length_map]; exact hko)
                    obtain ⟨b2, f2, e2, g2⟩ := (unhide RO8).int (j := k) (by rw [nats_len]; exact hko)
                    subst e1 e2
                    obtain ⟨x, hx⟩ : ∃ x, x = ord.getD k 0 := ⟨_, rfl⟩
                    have hxn : x < on := (unhide TE8).lt x (by
                      have : ord.getD k 0 = ord[k] := by simp [List.getD, hko]
                      rw [hx, this]; exact List.getElem_mem _)
                    rw [show (ord.map fun v => txns.getD v 0).getD k 0 = txns.getD x 0 by rw [hx]; simp [List.getD, hko]] at g1
                    rw [nats_at _ _ hko, ← hx] at g2
                    obtain ⟨b3, f3, e3, g3⟩ := (unhide RT8).int (j := x) (by rw [← unhide HNN]; exact hxn)
                    subst e3
                    obtain ⟨tv, htv⟩ : ∃ q, q = txns.getD x 0 := ⟨_, rfl⟩
                    rw [← htv] at g1 g3
                    clear hx htv
                    as_aux_lemma =>
                    go_wp2_with fail
                    go_quiet (fail)
                    go_wp2_with fail
                    exact ⟨⟨k + 1, dd + nq, by omega, by rw [Int.natCast_add]; rfl, by simp⟩, by simp [intOf]; omega⟩
                  · obtain rfl : k = on := by omega
                    have BLF := hide (below_draws (unhide BL8) dd)
                    as_aux_lemma =>
                    go_wp2_with fail
                    go_returns
                    exact ⟨rfl, unhide BLF⟩
              · rw [← unhide HNN] at h4 h5 h6 h7 h11 h12
                have hoe : ord = ordE := order_uniq h11 (unhide TE8) (unhide NN8)
                subst hoe
                have hno : ∀ k, k < s → ¬ OnC (redAll (bares items)) k := by
                  intro k hk ho
                  rcases h4 with ⟨z, _⟩ | ⟨s', z1, z2, z3, z4⟩
                  · omega
                  · have := z4 k (by omega) ho
                    omega
                have C11 := cycle11_any n s ge ce tab items D path w8 (unhide RE8) (unhide HTAB) (unhide HED) hb0 h5 hno h6 h7 h8 h9
                have hcl := cyc_len h7 h6
                obtain ⟨L, hL⟩ : ∃ L, L = path.length + 2 := ⟨_, rfl⟩
                rw [← hL] at C11 h3
                rw [← unhide HNsq] at C11
                subst h3
                have HC11 := hide C11
                obtain ⟨Vs, hVs⟩ : ∃ q, q = s :: path ++ [s] := ⟨_, rfl⟩
                have hVl : Vs.length = cn := by rw [hVs, hL]; simp
                have HVN : Hid (∀ v ∈ Vs, v < n) := by rw [hVs]; exact cyc_lt h7 h5
                rw [← hVs] at h10
                have HR10 := hide h10
                have HVL := hide hVl
                have HVS := hide hVs
                have hLb : cn ≤ 300 := by omega
                have hL2 : 2 ≤ cn := by omega
                have hne' : ((ord.length : Int) == (n : Int)) = false := by simp; omega
                have hcn0 : ((cn : Int) == 0) = false := by simp; omega
                clear h4 h5 h6 h7 h8 h9 h10 h11 h12 hno C11 hcl hL hVl hVs
                as_aux_lemma =>
                go_wp2_with fail
                refine (unhide HC11).mono ?_
                rintro e w9 ⟨⟨gc, cc9, rfl, hRc⟩, hb9⟩
                rw [← unhide HVS] at hRc
                have RC9 := hide hRc
                have BV9 := hide ((unhide BV8).old hb9)
                have HR9 := hide ((unhide HR10).old hb9)
                have RT9 := hide ((unhide RT8).old hb9)
                have BL9 := hide (below_trans (unhide BL8) hb9)
                clear hRc hb9 x0 x1 x2 x3 x4
                have x3 : w9.cell? ⟨bv, 3, none⟩ = some (.slice ca cn cc) := (unhide BV9).cell 3
                go_wp2_with fail
                go_loopw [29] (fun i wr => ∃ (k dd : Nat), k ≤ cn ∧ i = .int .i64 k ∧ wr = w9.drewN dd) (fun i _ => cn - (intOf i).toNat)
                case atStart => exact ⟨0, 0, Nat.zero_le _, rfl, rfl⟩
                case round =>
                  obtain ⟨k, dd, hk, rfl, rfl⟩ := hrel
                  by_cases hlk : k < cn
                  · have hko : k < Vs.length := by rw [unhide HVL]; exact hlk
                    obtain ⟨b1, f1, e1, g1⟩ := (unhide HR9).int (j := k) (by rw [List.length_map]; exact hko)
                    obtain ⟨b2, f2, e2, g2⟩ := (unhide RC9).int (j := k) (by rw [nats_len]; exact hko)
                    subst e1
                    cases e2
                    obtain ⟨x, hx⟩ : ∃ x, x = Vs.getD k 0 := ⟨_, rfl⟩
                    have hxn : x < n := unhide HVN x (by
                      have : Vs.getD k 0 = Vs[k] := by simp [List.getD, hko]
                      rw [hx, this]; exact List.getElem_mem _)
                    rw [show (Vs.map fun v => txns.getD v 0).getD k 0 = txns.getD x 0 by rw [hx]; simp [List.getD, hko]] at g1
                    rw [nats_at _ _ hko, ← hx, Nat.zero_add] at g2
                    obtain ⟨b3, f3, e3, g3⟩ := (unhide RT9).int (j := x) (by rw [← unhide HNN]; exact hxn)
                    subst e3
                    obtain ⟨tv, htv⟩ : ∃ q, q = txns.getD x 0 := ⟨_, rfl⟩
                    rw [← htv] at g1 g3
                    clear hx htv
                    as_aux_lemma =>
                    go_wp2_with fail
                    go_quiet (fail)
                    go_wp2_with fail
                    exact ⟨⟨k + 1, dd + nq, by omega, by rw [Int.natCast_add]; rfl, by simp⟩, by simp [intOf]; omega⟩
                  · obtain rfl : k = cn := by omega
                    have BLF := hide (below_draws (unhide BL9) dd)
                    as_aux_lemma =>
                    go_wp2_with fail
                    go_returns
                    exact ⟨rfl, unhide BLF⟩
end Go.Proofs.Qxb6614980a
