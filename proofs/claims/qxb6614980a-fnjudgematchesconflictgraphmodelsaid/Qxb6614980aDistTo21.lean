/-
  zzpb1DistTo walked.
-/
import Derived.Test.Qxb6614980aConf10
import Derived.Test.Qxb6614980aDist25
import Derived.Test.Qxb6614980aHeap2
namespace Go.Proofs.Qxb6614980a
open Go.ChangeShapes Go.WideShapes Go.ChangeAt Go.RowKit

theorem nats_append (a b : List Nat) : nats (a ++ b) = nats a ++ nats b := by simp [nats]
/-- The distances at block g, the queue vq. -/
structure D21 (w0 w : World) (vq : Value) (D Qs : List Int) : Prop where
  bel : Below w0.heap.size w0 w
  d : IBlk w w0.heap.size D
  q : OwnI w (w0.heap.size + 1) vq Qs
theorem D21.setD {w0 w : World} {vq : Value} {D Qs : List Int} (h : D21 w0 w vq D Qs) (j : Nat) (x : Int) : D21 w0 (w.setCell ⟨w0.heap.size, j, none⟩ (.int .i64 x)) vq (D.set j x) Qs := by
  have hc : Chg (fun k => k = w0.heap.size) w (w.setCell ⟨w0.heap.size, j, none⟩ (.int .i64 x)) := Chg.setCell w ⟨w0.heap.size, j, none⟩ _ rfl
  exact ⟨h.bel.trans (hc.below h.bel.size (fun k e => by omega)), h.d.set j x, h.q.chg hc (fun k hk e => by have := (h.q.lt hk).1; omega)⟩
theorem D21.push {w0 w w' : World} {vq vq' : Value} {D Qs Qs' : List Int} (h : D21 w0 w vq D Qs) (hc : Chg (fun k => vq.ownBlock = some k) w w') (ho : OwnI w' (w0.heap.size + 1) vq' Qs') : D21 w0 w' vq' D Qs' :=
  ⟨h.bel.trans (hc.below h.bel.size (fun k e => by have := (h.q.lt e).1; omega)), Blk.chg h.d hc (fun e => by have := (h.q.lt e).1; omega), ho⟩

/-- One vertex of the queue is looked at. -/
def R21 (w : World) (k s : Nat) (items : Rows3) (PV : List Nat) (v : Nat) (vq i : Value) (wr : World) : Prop := ∃ (q : Nat) (D : List Int) (Q L : List Nat), q ≤ k ∧ i = .int .i64 q ∧ Bp k s items D PV Q v ∧ (∀ x, x < q → Ed items x v → 0 ≤ D.getD x 0) ∧ D21 w wr vq D (nats L) ∧ L = PV ++ Q

set_option maxRecDepth 100000 in
set_option maxHeartbeats 8000000 in
theorem distTo21_any (n s g ce : Nat) (tab : List Bool) (items : Rows3) (w : World) (hE : Rd w (some ⟨g, 0, none⟩) (bools tab)) (hT : TabIs n tab (Ed items)) (hlt : ∀ x u, Ed items x u → x < n ∧ u < n) (hs : s < n) (hn : n ≤ 256) :
    Calls Try.prog 21 #[.int .i64 (n : Int), .slice (some ⟨g, 0, none⟩) (n * n) ce, .int .i64 (s : Int)] w fun e w' => (∃ gd c D, e = .returned (.slice (some ⟨gd, 0, none⟩) n c) ∧ w.heap.size ≤ gd ∧ Dist n s items D ∧ Rd w' (some ⟨gd, 0, none⟩) (ints D)) ∧ Below w.heap.size w w' := by
  have HE := hide hE
  have HT := hide hT
  have HLT := hide hlt
  clear hE hT hlt
  obtain ⟨N, hN⟩ : ∃ N, N = n * n := ⟨_, rfl⟩
  have hNb : N ≤ 65536 := by rw [hN]; exact Nat.mul_le_mul hn hn
  rw [← hN]
  have HN := hide hN
  clear hN
  have hm1 := run_make_row' (P := Try.prog) 22 3 (.int .i64 0) 8 Try.underlying22 info3 rfl .i64 .i64 n (by omega) (by omega)
  obtain ⟨i0, hi, hz0, hz1, hz2⟩ := info_parts info3
  go_enter Try.func21, Try.ntmps21
  go_wp2_with fail
  go_loopw [8] (fun i wr => ∃ k : Nat, k ≤ n ∧ i = .int .i64 k ∧ IBlk wr w.heap.size (fillN n k) ∧ Below w.heap.size w wr) (fun i _ => n - (intOf i).toNat)
  case atStart =>
    refine ⟨0, Nat.zero_le _, rfl, ?_, below_new _ _⟩
    rw [fillN_zero]
    exact IBlk.new _ _
  case round =>
    obtain ⟨k, hk, rfl, hI, hbel⟩ := hrel
    have HI := hide hI
    clear hI
    by_cases hlt : k < n
    · as_aux_lemma =>
      have hcI := (unhide HI).cell (j := k) (by rw [fillN_len]; exact hlt)
      have hfI := Blk.free (unhide HI) k
      generalize (fillN n k).getD k 0 = y at hcI
      go_wp2_with fail
      refine ⟨⟨k + 1, by omega, by rw [Int.natCast_add]; rfl, ?_, hbel.trans ((Chg.setCell (S := fun k => k = w.heap.size) wr ⟨w.heap.size, k, none⟩ _ rfl).below hbel.size (fun k e => by omega))⟩, by simp [intOf]; omega⟩
      have hs1 := (unhide HI).set k (-1)
      rw [fillN_succ _ k hlt] at hs1
      exact hs1
    · obtain rfl : k = n := by omega
      have HI2 : Hid (IBlk wr w.heap.size (List.replicate k (-1))) := by
        have := unhide HI
        rw [fillN_all] at this
        exact this
      clear HI
      have hcI := (unhide HI2).cell (j := s) (by simp; exact hs)
      have hfI := Blk.free (unhide HI2) s
      generalize (List.replicate k (-1 : Int)).getD s 0 = y at hcI
      go_upto_region 7 with fail
      have HI3 := hide ((unhide HI2).set s 0)
      have hb3 : Hid (Below w.heap.size w (wr.setCell ⟨w.heap.size, s, none⟩ (.int .i64 0))) := hbel.trans ((Chg.setCell (S := fun k => k = w.heap.size) wr ⟨w.heap.size, s, none⟩ _ rfl).below hbel.size (fun k e => by omega))
      clear hcI hfI HI2 hbel
      generalize wr.setCell ⟨w.heap.size, s, none⟩ (.int .i64 0) = w2 at HI3 hb3 ⊢
      have hlt2 := Blk.lt (unhide HI3)
      go_upto_region 8 with (at_make; refine wpList_make_own _ rfl _ _ 22 rfl (w.heap.size + 1) 3 i0 (.int .i64 0) 1 Try.underlying22 hi hz0 hz1 _ _ _ k rfl rfl rfl (by rw [hz2]; omega) (by unfold maxLen; omega) (by omega) ?_; intro w3 ho3 hg3)
      have hc3 : Chg (fun _ => False) w2 w3 := Chg.grown hg3 (fun k e => by cases e)
      have S3 : Hid (D21 w w3 (.slice (some ⟨w2.heap.size, 0, none⟩) 0 k) ((List.replicate k (-1)).set s 0) (nats [])) := ⟨(unhide hb3).trans (hc3.below (unhide hb3).size (fun _ e => e.elim)), Blk.chg (unhide HI3) hc3 (fun e => e), ho3⟩
      have hsz3 : w.heap.size + 1 ≤ w3.heap.size := by have := hc3.size; omega
      clear ho3 hg3 hc3
      go_upto_region 9 with (at_builtin; refine wpList_push 22 Try.underlying22 rfl (.tmp 28) (.tmp 30) rfl (w.heap.size + 1) (.slice (some ⟨w2.heap.size, 0, none⟩) 0 k) (nats []) rfl (unhide S3).q (s : Int) w3.heap.size rfl rfl (by simp [nats]) hsz3 ?_; rw [nats_len]; intro g4 cap4 w4 ho4 hc4 hat4; have HO4 := hide ho4; clear ho4)
      have S4 : Hid (D21 w w4 (.slice (some ⟨g4, 0, none⟩) 1 cap4) ((List.replicate k (-1)).set s 0) (nats ([] ++ [s]))) := (unhide S3).push hc4 (unhide HO4)
      clear HO4 hc4 hat4 S3 hsz3 HI3 hb3 hlt2
      as_aux_lemma =>
      go_wp2_with fail
      go_loopw [9, 10] (fun vq i wr => ∃ (D : List Int) (P Q : List Nat), i = .int .i64 (P.length : Int) ∧ Bq k s items D P Q ∧ D21 w wr vq D (nats (P ++ Q))) (fun _ i _ => k - (intOf i).toNat)
      case atStart => exact ⟨_, [], [s], rfl, Bq.start k s items hs, unhide S4⟩
      case round =>
        clear S4
        obtain ⟨D, P, Q, rfl, hbq, hs1⟩ := hrel
        have BQ := hide hbq
        have S5 := hide hs1
        have hPQ : (P ++ Q).length ≤ k := below_len hbq.nd (fun x hx => hbq.lt x (List.mem_append.1 hx))
        rw [List.length_append] at hPQ
        clear hbq hs1
        obtain ⟨qa, qc, hvq⟩ := (unhide S5).q.form
        rw [nats_len, List.length_append] at hvq
        subst hvq
        cases Q with
        | nil =>
          as_aux_lemma =>
          have e0 : P.length + ([] : List Nat).length = P.length := rfl
          rw [e0] at S5 ⊢
          go_wp2_with fail
          go_returns
          exact ⟨⟨w.heap.size, k, D, rfl, Nat.le_refl _, (unhide BQ).fin, IBlk.rd (unhide S5).d⟩, (unhide S5).bel⟩
        | cons v Q' =>
          as_aux_lemma =>
          rw [List.length_cons] at S5 hPQ ⊢
          have BP := hide (unhide BQ).pop
          have hvn := (unhide BP).vn
          obtain ⟨gq, capq, hvq, _⟩ : ∃ g c, (Value.slice qa (P.length + (Q'.length + 1)) qc) = .slice (some ⟨g, 0, none⟩) (P.length + (Q'.length + 1)) c ∧ True := by
            rcases (unhide S5).q.2 with ⟨_, h0⟩ | ⟨g, cap, cur, hv, _⟩
            · rw [nats_len, List.length_append, List.length_cons] at h0; omega
            · rw [nats_len, List.length_append, List.length_cons] at hv
              exact ⟨g, cap, hv, trivial⟩
          cases hvq
          have cq := (unhide S5).q.cell (j := P.length) (by rw [nats_len, List.length_append, List.length_cons]; omega)
          rw [nats_at _ _ (by rw [List.length_append, List.length_cons]; omega), show (P ++ v :: Q').getD P.length 0 = v by simp [List.getD]] at cq
          have S6 : Hid (D21 w wr (.slice (some ⟨gq, 0, none⟩) (P.length + (Q'.length + 1)) qc) D (nats ((P ++ [v]) ++ Q'))) := by
            have := unhide S5
            rw [show P ++ v :: Q' = (P ++ [v]) ++ Q' by simp] at this
            exact this
          have hPk : P.length < k := by omega
          clear S5 BQ
          obtain ⟨PV, hPV⟩ : ∃ l, l = P ++ [v] := ⟨_, rfl⟩
          have hPVl : PV.length = P.length + 1 := by rw [hPV]; simp
          rw [← hPV] at S6 BP
          have HPV := hide hPV
          clear hPV
          go_wp2_with fail
          clear cq
          go_loopw [9, 12] (fun vq i wr => R21 w k s items PV v vq i wr) (fun _ i _ => k - (intOf i).toNat)
          case atStart => exact ⟨0, D, Q', _, Nat.zero_le _, rfl, unhide BP, (fun x hx => by omega), unhide S6, rfl⟩
          case round =>
            clear S6 BP
            obtain ⟨q, D2, Q2, L2, hq, rfl, hbp, hall, hs2, hL2⟩ := hrel
            have HL2 := hide hL2
            have BP := hide hbp
            have ALL := hide hall
            have S7 := hide hs2
            have hPQ2 : L2.length ≤ k := by rw [hL2]; exact below_len hbp.nd (fun x hx => hbp.lt x (List.mem_append.1 hx))
            have hqb := hbp.bound hvn.1
            obtain ⟨hvk, hv0⟩ := hbp.vn
            clear hbp hall hs2 hL2
            obtain ⟨qa, qc2, hvq⟩ := (unhide S7).q.form
            rw [nats_len] at hvq
            subst hvq
            by_cases hlq : q < k
            · have hidx := idx_lt hlq hvn.1
              obtain ⟨m2, hm2'⟩ : ∃ m2, m2 = q * k := ⟨_, rfl⟩
              rw [← hm2', ← unhide HN] at hidx
              have hqn : (q : Int) * (k : Int) = (m2 : Int) := by rw [hm2', Int.natCast_mul]
              have hed := ((unhide HE).old (unhide S7).bel).bool (j := m2 + v) (by rw [(unhide HT).1, ← unhide HN]; exact hidx)
              obtain ⟨gb, go, ge, hed⟩ := hed
              cases ge
              have hti := (unhide HT).2 q v hlq hvn.1
              rw [← hm2'] at hti
              have hcd := (unhide S7).d.cell (j := q) (by rw [(unhide BP).len]; exact hlq)
              have hcv := (unhide S7).d.cell (j := v) (by rw [(unhide BP).len]; exact hvk)
              have hfd := Blk.free (unhide S7).d q
              obtain ⟨te, hte⟩ : ∃ b, b = tab.getD (m2 + v) false := ⟨_, rfl⟩
              obtain ⟨dq, hdq⟩ : ∃ d, d = D2.getD q 0 := ⟨_, rfl⟩
              obtain ⟨dv, hdv⟩ : ∃ d, d = D2.getD v 0 := ⟨_, rfl⟩
              rw [← hte] at hed hti
              rw [← hdq] at hcd
              rw [← hdv] at hcv hqb hv0
              rw [Nat.zero_add] at hed
              have HTI := hide hti
              have HDQ := hide hdq
              have HDV := hide hdv
              clear hti hdq hdv hte hm2'
              by_cases hd0 : dq < 0
              · cases te
                · as_aux_lemma =>
                  go_wp2_with fail
                  refine ⟨⟨q + 1, D2, Q2, L2, by omega, by rw [Int.natCast_add]; rfl, unhide BP, fun x hx he => ?_, unhide S7, unhide HL2⟩, by simp [intOf]; omega⟩
                  by_cases e : x = q
                  · subst e
                    exact absurd ((unhide HTI).2 he) (by simp)
                  · exact unhide ALL x (by omega) he
                · have hedq := (unhide HTI).1 rfl
                  obtain ⟨Q3, hbp3, hq3⟩ := (unhide BP).reach hlq (.inr hedq)
                  have hq3' : nats Q3 = nats Q2 ++ [(q : Int)] := by
                    unfold reachQ at hq3
                    rw [← unhide HDQ, if_pos hd0] at hq3
                    exact hq3.symm
                  have hr3 : reachD D2 v q = D2.set q (dv + 1) := by
                    unfold reachD
                    rw [← unhide HDQ, if_pos hd0, ← unhide HDV]
                  have hkp := (reach_keep (unhide BP) hlq).1
                  have hk0 := (reach_keep (unhide BP) hlq).2
                  rw [hr3] at hbp3 hkp hk0
                  have BP3 := hide hbp3
                  have HQ3 := hide hq3'
                  have HKP := hide hkp
                  have HK0 := hide hk0
                  clear hedq hbp3 hq3 hq3' hr3 hkp hk0
                  as_aux_lemma =>
                  go_upto_region 18 with fail
                  have S8 := hide ((unhide S7).setD q (dv + 1))
                  clear S7 hcd hcv hfd hed
                  generalize wr.setCell ⟨w.heap.size, q, none⟩ (.int .i64 (dv + 1)) = w8 at S8 ⊢
                  have hsz8 := Blk.lt (unhide S8).d
                  have hsz8' : w.heap.size + 1 ≤ w8.heap.size := hsz8
                  go_wp2_with (at_builtin; refine wpList_push 22 Try.underlying22 rfl (.tmp 70) (.tmp 72) rfl (w.heap.size + 1) (.slice qa L2.length qc2) (nats L2) rfl (unhide S8).q (q : Int) w8.heap.size rfl rfl (by rw [nats_len]; omega) hsz8' ?_; rw [nats_len]; intro g9 cap9 w9 ho9 hc9 hat9; have HO9 := hide ho9; clear ho9)
                  have S9 : D21 w w9 (.slice (some ⟨g9, 0, none⟩) (L2.length + 1) cap9) (D2.set q (dv + 1)) (nats (PV ++ Q3)) := by
                    refine (unhide S8).push hc9 ?_
                    rw [nats_append, unhide HQ3, ← List.append_assoc, ← nats_append, ← unhide HL2]
                    exact unhide HO9
                  refine ⟨⟨q + 1, _, Q3, _, by omega, by rw [Int.natCast_add]; rfl, unhide BP3, fun x hx he => ?_, S9, rfl⟩, by simp [intOf]; omega⟩
                  by_cases e : x = q
                  · subst e
                    exact unhide HK0
                  · have h1 := unhide ALL x (by omega) he
                    rw [unhide HKP x h1]
                    exact h1
              · as_aux_lemma =>
                have hd0' : ¬ dq < 0 := hd0
                go_wp2_with fail
                refine ⟨⟨q + 1, D2, Q2, L2, by omega, by rw [Int.natCast_add]; rfl, unhide BP, fun x hx he => ?_, unhide S7, unhide HL2⟩, by simp [intOf]; omega⟩
                by_cases e : x = q
                · subst e
                  rw [← unhide HDQ]
                  omega
                · exact unhide ALL x (by omega) he
            · obtain rfl : q = k := by omega
              as_aux_lemma =>
              have hbq := (unhide BP).close (unhide ALL) (fun x u he => (unhide HLT x u he).1)
              have BQ := hide hbq
              clear hbq
              go_wp2_with fail
              refine ⟨⟨D2, PV, Q2, ?_, unhide BQ, ?_⟩, by simp [intOf]; omega⟩
              · rw [hPVl, Int.natCast_add]
                rfl
              · rw [← unhide HL2]
                exact unhide S7
end Go.Proofs.Qxb6614980a
