/-
  'lowestOnCycle' walked.
-/
import Derived.Test.Qxb6614980aTarL
import Derived.Test.Qxb6614980aCyc
namespace Go.Proofs.Qxb6614980a
open Go.ChangeShapes Go.WideShapes Go.ChangeAt Go.RowKit

def leastOf (v : Nat) : List Nat → Nat
  | [] => v
  | y :: ys => min y (leastOf v ys)
theorem leastOf_le (v : Nat) (ys : List Nat) : leastOf v ys ≤ v := by
  induction ys with
  | nil => exact Nat.le_refl _
  | cons y ys ih => show min y (leastOf v ys) ≤ v; omega
theorem leastOf_all (v : Nat) (ys : List Nat) : ∀ x ∈ v :: ys, leastOf v ys ≤ x := by
  induction ys with
  | nil => intro x hx; simp at hx; subst hx; exact Nat.le_refl _
  | cons y ys ih =>
    intro x hx
    show min y (leastOf v ys) ≤ x
    rcases List.mem_cons.1 hx with e | e
    · have := ih v (by simp); subst e; omega
    · rcases List.mem_cons.1 e with e | e
      · subst e; omega
      · have := ih x (by simp [e]); omega
theorem leastOf_mem (v : Nat) (ys : List Nat) : leastOf v ys ∈ v :: ys := by
  induction ys with
  | nil => simp [leastOf]
  | cons y ys ih =>
    show min y (leastOf v ys) ∈ _
    by_cases h : y ≤ leastOf v ys
    · rw [Nat.min_eq_left h]; simp
    · rw [Nat.min_eq_right (by omega)]
      rcases List.mem_cons.1 ih with e | e
      · rw [e]; simp
      · simp [e]
theorem TL.dec {w0 : World} {n root : Nat} {es : List (Nat × Nat)} {cs : List Value} {m m0 : Nat} {vl : Value} {wr : World} (h : TL w0 n root es cs m vl wr) (hlt : m < m0) : (∃ m, TL w0 n root es cs m vl wr) ∧ leastN (fun m => TL w0 n root es cs m vl wr) < m0 := ⟨⟨_, h⟩, Nat.lt_of_le_of_lt (leastN_le h) hlt⟩

set_option maxRecDepth 100000 in
set_option maxHeartbeats 8000000 in
theorem low20_any (n : Nat) (es : List (Nat × Nat)) (a1 a2 : Option Addr) (c1 c2 : Nat) (T : List Int) (w : World) (hS : Rd w a1 (ints (arr3 n es 0))) (hTl : T.length = es.length) (hTA : ToAt es T es.length) (hT : Rd w a2 (ints T)) (hg : GoodE n es) (hn : n ≤ 4096) (hm : es.length ≤ 1099511627776) :
    Calls Try.prog 20 #[.agg #[.slice a1 (n + 1) c1, .slice a2 es.length c2]] w fun e w' => (∃ ls : Int, e = .returned (.int .i64 ls) ∧ Least es (fun x => x < n) ls) ∧ Below w.heap.size w w' := by
  have HS := hide hS
  have HT := hide hT
  have HTA := hide hTA
  have HTL := hide hTl
  have HG := hide hg
  clear hS hT hTA hTl hg
  have hm1 := run_make_row' (P := Try.prog) 22 3 (.int .i64 0) 8 Try.underlying22 info3 rfl .i64 .i64 n (by omega) (by omega)
  have hm2 := run_make_row' (P := Try.prog) 26 4 (.bool false) 1 Try.underlying26 info4 rfl .i64 .i64 n (by omega) (by omega)
  go_enter Try.func20, Try.ntmps20
  go_upto_region 10 with fail
  simp only [Nat.add_assoc, Nat.reduceAdd]
  have H0 : Hid (TK w n 0 es [.slice a1 (n + 1) c1, .slice a2 es.length c2] (.int .i64 (-1)) (lowW w n #[.slice a1 (n + 1) c1, .slice a2 es.length c2])) :=
    ⟨_, _, _, _, _, 0, -1, rfl, t20_start w n _, tj_start n es, ⟨by simp, fun x hx => by simp [List.getD, hx]⟩, ⟨[], by simp, (fun x hx => by cases hx), rfl⟩, (fun x hx => by omega)⟩
  change Code.wp _ _ _ _ (lowW w n #[.slice a1 (n + 1) c1, .slice a2 es.length c2])
  generalize lowW w n #[.slice a1 (n + 1) c1, .slice a2 es.length c2] = w1 at H0 ⊢
  go_loopw [10, 12] (fun vl i wr => ∃ k : Nat, k ≤ n ∧ i = .int .i64 k ∧ TK w n k es [.slice a1 (n + 1) c1, .slice a2 es.length c2] vl wr) (fun _ i _ => n - (intOf i).toNat)
  case atStart => exact ⟨0, Nat.zero_le _, rfl, unhide H0⟩
  case round =>
    obtain ⟨k, hk, rfl, ix, lo, on, vs, vf, fd, ls, rfl, ht, hj, ho, hd, ha⟩ := hrel
    have S1 := hide ht
    have J1 := hide hj
    have O1 := hide ho
    have D1 := hide hd
    have A1 := hide ha
    clear ht hj ho hd ha
    have hlsr := (unhide J1).lsr
    by_cases hlt : k < n
    · have c2' := one_cell (unhide S1).pi
      have ci := (unhide S1).ai.cell (j := k) (by rw [nats_len, (unhide S1).il]; exact hlt)
      rw [nats_at _ _ (by rw [(unhide S1).il]; exact hlt)] at ci
      obtain ⟨xi, hxi⟩ : ∃ q, q = ix.getD k 0 := ⟨_, rfl⟩
      rw [← hxi] at ci
      by_cases h0 : xi = 0
      · as_aux_lemma =>
        subst h0
        have HXI := hide hxi
        clear hxi
        have hfd := (unhide D1).le
        go_wp2_with fail
        refine (disc27_any w wr n k es a1 a2 c1 c2 ix lo on vs vf [] [] fd (unhide S1) (unhide HS) hlt (by simp) (by simp) (by omega)).mono ?_
        rintro e w2 ⟨rfl, vs2, vf2, ht2⟩
        have L2 : Hid (TL w n (k + 1) es [.slice a1 (n + 1) c1, .slice a2 es.length c2] (meas n es [(k, 0)] (fd + 1)) (.int .i64 ls) w2) := by
          have h0 : at0 ix k = 0 := (unhide HXI).symm
          refine ⟨_, _, _, vs2, vf2, _, [(k, 0)], fd + 1, ls, rfl, ht2, (unhide J1).discover hlt h0 (.inl rfl) (fun p hp => by cases hp), (unhide O1).push hlt, (unhide D1).push (unhide S1).il hlt h0, rfl, fun x hx => ?_⟩
          rw [at0_set _ (by rw [(unhide S1).il]; exact hlt)]
          split
          · omega
          · exact unhide A1 x (by omega)
        clear ht2 ci c2'
        go_wp2_with fail
        go_loopw [10] (fun vl wr => ∃ m, TL w n (k + 1) es [.slice a1 (n + 1) c1, .slice a2 es.length c2] m vl wr) (fun vl wr => leastN (fun m => TL w n (k + 1) es [.slice a1 (n + 1) c1, .slice a2 es.length c2] m vl wr))
        case atStart => exact ⟨_, unhide L2⟩
        case round =>
          have hm0 := leastN_spec hrel
          clear hrel
          obtain ⟨ix2, lo2, on2, vs3, vf3, st, fr, fd2, ls2, rfl, ht, hj, ho, hd, hmq, ha⟩ := hm0
          have S2 := hide ht
          have J2 := hide hj
          have O2 := hide ho
          have D2 := hide hd
          have HM := hide hmq
          have A2 := hide ha
          clear ht hj ho hd hmq ha
          have hlsr2 := (unhide J2).lsr
          obtain ⟨hstl, hfrl⟩ := (unhide J2).lens
          have hfd2 := (unhide D2).le
          have c8 := one_cell (unhide S2).pf
          rcases List.eq_nil_or_concat fr with hfr | ⟨fr', ⟨v, c⟩, hfr⟩
          · as_aux_lemma =>
            subst hfr
            obtain ⟨fa, fc, hvf⟩ := (unhide S2).fo.form
            have hvf' : vf3 = .slice fa 0 fc := hvf
            subst hvf'
            clear hvf
            go_wp2_with fail
            have hst0 := (unhide J2).empty
            subst hst0
            exact ⟨⟨k + 1, by omega, by rw [Int.natCast_add]; rfl, ix2, lo2, on2, vs3, _, fd2, ls2, rfl, unhide S2, unhide J2, unhide O2, unhide D2, unhide A2⟩, by simp [intOf]; omega⟩
          · as_aux_lemma =>
            rw [List.concat_eq_append] at hfr
            subst hfr
            rw [List.length_append, List.length_singleton] at hfrl
            have hvf : v ∈ (fr' ++ [(v, c)]).map Prod.fst := by simp
            have hvs := (unhide J2).frs v hvf
            have hvn := ((unhide J2).stk v hvs).1
            have hcl : c ≤ (outs es v).length := (unhide J2).frc (v, c) (by simp)
            obtain ⟨g, cap, hvf3, hcap⟩ := (unhide S2).fo.has (by rw [frm_len]; simp)
            rw [frm_len, List.length_append, List.length_singleton] at hvf3 hcap
            subst hvf3
            obtain ⟨l, hl⟩ : ∃ l, l = fr'.length := ⟨_, rfl⟩
            rw [← hl] at c8 hcap hfrl
            rw [← hl, frm_app] at S2
            obtain ⟨ct0, ct1⟩ := (unhide S2).fo.top
            rw [frm_len, ← hl] at ct0 ct1
            have ft1 := (unhide S2).fo.free (l * 2 + 1)
            have hgs := (unhide S2).fo.lt (k := g) rfl
            have hoo := off_outs es v
            have hol := off_le es (v + 1)
            obtain ⟨bs, os, es1, hcs1⟩ := ((unhide HS).old (unhide S2).bel).int (show v + 1 < (arr3 n es 0).length by rw [arr3_len]; omega)
            rw [arr3_at0 _ _ _ (by omega)] at hcs1
            obtain ⟨o, ho⟩ : ∃ o, o = off es v := ⟨_, rfl⟩
            obtain ⟨d, hd⟩ : ∃ d, d = (outs es v).length := ⟨_, rfl⟩
            rw [← ho, ← hd] at hoo
            rw [hoo] at hcs1 hol
            rw [← ho] at ct1
            rw [← ho] at S2
            rw [← hd] at hcl
            have c0 : wr.cell? ⟨w.heap.size, 0, none⟩ = some (.slice a1 (n + 1) c1) := (unhide S2).adj.cell 0
            have c01 : wr.cell? ⟨w.heap.size, 1, none⟩ = some (.slice a2 es.length c2) := (unhide S2).adj.cell 1
            subst es1
            have HL := hide hl
            have HO := hide ho
            have HD := hide hd
            have HVF := hide hvf
            have HVS := hide hvs
            clear hl ho hd hoo hvf hvs L2
            by_cases hc : c < d
            · have hcc : ((o + c : Nat) : Int) < ((o + d : Nat) : Int) := by omega
              obtain ⟨x, hx⟩ : ∃ x, x = (outs es v).getD c 0 := ⟨_, rfl⟩
              have hco : c < (outs es v).length := by rw [← unhide HD]; exact hc
              have hxo : x ∈ outs es v := by
                have : (outs es v).getD c 0 = (outs es v)[c] := by simp [List.getD, hco]
                rw [hx, this]
                exact List.getElem_mem _
              have hxn : x < n := ((unhide HG) _ (outs_mem.1 hxo)).2.1
              obtain ⟨bt, ot, et, hcT⟩ := ((unhide HT).old (unhide S2).bel).int (show o + c < T.length by rw [unhide HTL]; omega)
              subst et
              have hst8 := stretch es T (unhide HTA) v c hco
              rw [← unhide HO, ← hx] at hst8
              rw [hst8] at hcT
              have HX := hide hx
              have HCO := hide hco
              have HXO := hide hxo
              clear hst8 hx hco hxo
              go_upto_region 17 with fail
              go_quiet (fail)
              obtain ⟨q1, hq1⟩ : ∃ q, q = nq := ⟨_, rfl⟩
              subst hq1
              go_wp2_with fail
              go_quiet (fail)
              go_upto_region 20 with fail
              have S3 : Hid (T20 w ((wr.drewN (q1 + nq)).setCell ⟨g, l * 2 + 1, none⟩ (.int .i64 ((o : Int) + (c : Int) + 1))) n [.slice (some ⟨bs, os, none⟩) (n + 1) c1, .slice (some ⟨bt, ot, none⟩) es.length c2] ix2 lo2 on2 vs3 (.slice (some ⟨g, 0, none⟩) (l + 1) cap) st (frm es fr' ++ [(v, o + (c + 1))]) fd2) := by
                have h1 := ((unhide S2).draws (q1 + nq)).setN (o + (c + 1))
                rw [frm_len, ← unhide HL] at h1
                have e1 : ((o + (c + 1) : Nat) : Int) = (o : Int) + (c : Int) + 1 := by omega
                rw [e1] at h1
                exact h1
              clear ct0 ct1 ft1 c8 c0 c01 hcs1 hcT hcc
              generalize (wr.drewN (q1 + nq)).setCell ⟨g, l * 2 + 1, none⟩ (.int .i64 ((o : Int) + (c : Int) + 1)) = w3 at S3 ⊢
              have c2' := one_cell (unhide S3).pi
              have ci := (unhide S3).ai.cell (j := x) (by rw [nats_len, (unhide S3).il]; exact hxn)
              rw [nats_at _ _ (by rw [(unhide S3).il]; exact hxn)] at ci
              obtain ⟨xi, hxi⟩ : ∃ q, q = ix2.getD x 0 := ⟨_, rfl⟩
              rw [← hxi] at ci
              have HXI2 := hide hxi
              have hxle : xi ≤ n := by rw [hxi]; exact Nat.le_trans ((unhide J2).le x) hfd2
              clear hxi
              by_cases h0 : xi = 0
              · as_aux_lemma =>
                subst h0
                go_wp2_with fail
                refine (disc27_any w w3 n x es (some ⟨bs, os, none⟩) (some ⟨bt, ot, none⟩) c1 c2 ix2 lo2 on2 vs3 _ st _ fd2 (unhide S3) (unhide HS) hxn (by omega) (by rw [List.length_append, frm_len, ← unhide HL]; simp; omega) (by omega)).mono ?_
                rintro e w4 ⟨rfl, vs4, vf4, ht4⟩
                have h0 : at0 ix2 x = 0 := (unhide HXI2).symm
                have J3 := (unhide J2).bump (unhide HCO) (fun hm => absurd (by rw [← unhide HX]; exact h0) ((unhide J2).stk _ hm).2)
                rw [← unhide HX] at J3
                have J4 := J3.discover hxn h0 (.inr rfl) (fun p hp => by
                  have hp2 : p ∈ (fr' ++ [(v, c)]).map Prod.fst := by simpa using hp
                  have hpv : at0 ix2 p ≤ at0 ix2 v := by
                    rcases List.mem_append.1 (show p ∈ fr'.map Prod.fst ++ [v] by simpa using hp2) with q | q
                    · exact Nat.le_of_lt ((unhide J2).above p q)
                    · simp at q; rw [q]; exact Nat.le_refl _
                  exact ((unhide J2).dn p hp2 v (unhide HVS) hpv).trans (Rch.one (outs_mem.1 (unhide HXO))))
                have D4 := (unhide D2).push (unhide S2).il hxn h0
                have A4 : ∀ y, y < k + 1 → at0 (ix2.set x (fd2 + 1)) y ≠ 0 := fun y hy => by
                  rw [at0_set _ (by rw [(unhide S2).il]; exact hxn)]
                  split
                  · omega
                  · exact unhide A2 y hy
                have hdle := D4.le
                clear ci c2'
                go_wp2_with fail
                refine TL.dec (m := meas n es (fr' ++ [(v, c + 1)] ++ [(x, 0)]) (fd2 + 1)) ⟨_, _, _, vs4, vf4, _, fr' ++ [(v, c + 1)] ++ [(x, 0)], fd2 + 1, ls2, rfl, ?_, J4, (unhide O2).push hxn, D4, rfl, A4⟩ (by rw [unhide HM]; exact meas_disc (by omega) (unhide HCO))
                rw [frm_app, frm_app, ← unhide HO]
                exact ht4
              · have h0' : ((xi : Int) == 0) = false := by simp; omega
                have h0n : at0 ix2 x ≠ 0 := by show ix2.getD x 0 ≠ 0; rw [← unhide HXI2]; exact h0
                have H0N := hide h0n
                clear h0n
                have c6 := one_cell (unhide S3).po
                have co := (unhide S3).ao.cell x
                rw [bools_at _ _ (by rw [(unhide S3).ol]; exact hxn), (unhide O2).2 x hxn] at co
                by_cases hxs : x ∈ st
                · as_aux_lemma =>
                  rw [decide_eq_true hxs] at co
                  have HXS := hide hxs
                  clear hxs
                  have c4 := one_cell (unhide S3).pl
                  have cl := (unhide S3).al.cell (j := v) (by rw [nats_len, (unhide S3).ll]; exact hvn)
                  rw [nats_at _ _ (by rw [(unhide S3).ll]; exact hvn)] at cl
                  obtain ⟨xl, hxl⟩ : ∃ q, q = lo2.getD v 0 := ⟨_, rfl⟩
                  rw [← hxl] at cl
                  have HXL := hide hxl
                  have fl := Blk.free (unhide S3).al v
                  clear hxl
                  go_wp2_with fail
                  go_region
                  go_wp2_with fail
                  have J3 := (unhide J2).lower (v := v) (m := xi) (unhide HVF) ⟨x, unhide HXS, (unhide HXI2).symm, Rch.one (outs_mem.1 (unhide HXO))⟩
                  have hvl : v < lo2.length := by rw [(unhide S3).ll]; exact hvn
                  have J4 := J3.bump (unhide HCO) (fun hm => by
                    rw [at0_set _ hvl, if_pos rfl, ← unhide HX]
                    have : xi = at0 ix2 x := unhide HXI2
                    omega)
                  rw [← unhide HX] at J4
                  have emin : (if xi < xl then (xi : Int) else (xl : Int)) = ((min (at0 lo2 v) xi : Nat) : Int) := by
                    have : xl = at0 lo2 v := unhide HXL
                    rw [← this]
                    split <;> omega
                  have S4 := ((unhide S3).setL v (min (at0 lo2 v) xi)).draws 1
                  rw [← emin] at S4
                  refine TL.dec (m := meas n es (fr' ++ [(v, c + 1)]) fd2) ⟨_, _, _, vs3, .slice (some ⟨g, 0, none⟩) (l + 1) cap, _, fr' ++ [(v, c + 1)], fd2, ls2, rfl, ?_, J4.seen (unhide H0N), unhide O2, unhide D2, rfl, unhide A2⟩ (by rw [unhide HM]; exact meas_bump (unhide HCO))
                  rw [frm_app, ← unhide HO]
                  exact S4
                · as_aux_lemma =>
                  rw [decide_eq_false hxs] at co
                  have HXS := hide hxs
                  clear hxs
                  go_wp2_with fail
                  have J3 := (unhide J2).bump (unhide HCO) (fun hm => absurd (by rw [unhide HX]; exact hm) (unhide HXS))
                  rw [← unhide HX] at J3
                  refine TL.dec (m := meas n es (fr' ++ [(v, c + 1)]) fd2) ⟨_, _, _, vs3, .slice (some ⟨g, 0, none⟩) (l + 1) cap, _, fr' ++ [(v, c + 1)], fd2, ls2, rfl, ?_, J3.seen (unhide H0N), unhide O2, unhide D2, rfl, unhide A2⟩ (by rw [unhide HM]; exact meas_bump (unhide HCO))
                  rw [frm_app, ← unhide HO]
                  exact unhide S3
            · obtain rfl : c = d := by omega
              have f8 := Blk.free (unhide S2).pf 0
              go_upto_region 17 with fail
              go_quiet (fail)
              go_upto_region 25 with fail
              have S3 : Hid (T20 w ((wr.drewN nq).setCell ⟨w.heap.size + 8, 0, none⟩ (.slice (some ⟨g, 0, none⟩) l cap)) n [.slice (some ⟨bs, os, none⟩) (n + 1) c1, .slice a2 es.length c2] ix2 lo2 on2 vs3 (.slice (some ⟨g, 0, none⟩) l cap) st (frm es fr') fd2) := by
                have h1 := (unhide S2).fo.cut
                rw [frm_len, ← unhide HL] at h1
                exact (unhide S2).newF (Chg.draws _ _ _) h1
              clear ct0 ct1 ft1 c8 c0 c01 hcs1
              generalize (wr.drewN nq).setCell ⟨w.heap.size + 8, 0, none⟩ (.slice (some ⟨g, 0, none⟩) l cap) = w3 at S3 ⊢
              have c8 := one_cell (unhide S3).pf
              rcases List.eq_nil_or_concat fr' with hfr | ⟨fr2, ⟨p, cp⟩, hfr⟩
              · as_aux_lemma =>
                subst hfr
                have hl0 : l = 0 := unhide HL
                subst hl0
                have HZ : Hid (∀ p ∈ ([] : List (Nat × Nat)).map Prod.fst, (∀ p' ∈ ([] : List (Nat × Nat)).map Prod.fst, at0 ix2 p' ≤ at0 ix2 p) → at0 lo2 p ≤ at0 lo2 v) := fun p hp => by cases hp
                have J4 := J2
                have S4 := S3
                clear S3
                have c4' := one_cell (unhide S4).pl
                have c2' := one_cell (unhide S4).pi
                have ci := (unhide S4).ai.cell (j := v) (by rw [nats_len, (unhide S4).il]; exact hvn)
                have cl := (unhide S4).al.cell (j := v) (by rw [nats_len, (unhide S4).ll]; exact hvn)
                rw [nats_at _ _ (by rw [(unhide S4).il]; exact hvn)] at ci
                rw [nats_at _ _ (by rw [(unhide S4).ll]; exact hvn)] at cl
                obtain ⟨yl, hyl⟩ : ∃ q, q = lo2.getD v 0 := ⟨_, rfl⟩
                obtain ⟨yi, hyi⟩ : ∃ q, q = ix2.getD v 0 := ⟨_, rfl⟩
                rw [← hyl] at cl
                rw [← hyi] at ci
                have HYL := hide hyl
                have HYI := hide hyi
                have hyle : yl ≤ yi := by rw [hyl, hyi]; exact (unhide J4).lle v (unhide HVS)
                clear hyl hyi
                by_cases hne : yl = yi
                · as_aux_lemma =>
                  have hne' : ((yl : Int) != (yi : Int)) = false := by simp [hne]
                  have HNE := hide hne
                  clear hne
                  go_wp2_with fail
                  go_quiet (fail)
                  obtain ⟨q7, hq7⟩ : ∃ q, q = nq := ⟨_, rfl⟩
                  subst hq7
                  have S5 := hide ((unhide S4).draws q7)
                  clear S4 c4' c2' ci cl
                  generalize w3.drewN q7 = w5 at S5 ⊢
                  obtain ⟨st0, seg0, hst⟩ := List.append_of_mem (unhide HVS)
                  have hnd := (unhide J4).nodup
                  rw [hst] at hnd
                  have HND := hide hnd
                  clear hnd
                  obtain ⟨wR, hwR⟩ : ∃ x, x = wr := ⟨_, rfl⟩
                  subst hwR
                  go_wp2_with fail
                  go_loopw [17, 18] (fun v17 v18 wr => ∃ (seg popd : List Nat) (on3 : List Bool) (vs5 : Value), seg0 = seg ++ popd ∧ v17 = .int .i64 (popd.length : Int) ∧ v18 = .int .i64 ((leastOf v popd : Nat) : Int) ∧ T20 w wr n [.slice (some ⟨bs, os, none⟩) (n + 1) c1, .slice a2 es.length c2] ix2 lo2 on3 vs5 (.slice (some ⟨g, 0, none⟩) 0 cap) (st0 ++ v :: seg) (frm es []) fd2 ∧ OnOk n on3 (st0 ++ v :: seg)) (fun v17 _ _ => st.length - (intOf v17).toNat)
                  case atStart =>
                    refine ⟨seg0, [], on2, vs3, by simp, rfl, rfl, ?_, ?_⟩
                    · rw [← hst]; exact unhide S5
                    · rw [← hst]; exact unhide O2
                  case round =>
                    obtain ⟨seg, popd, on3, vs5, hsg, rfl, rfl, ht5, ho5⟩ := hrel
                    have S6 := hide ht5
                    have O6 := hide ho5
                    clear ht5 ho5
                    have hstL : st.length = st0.length + 1 + seg.length + popd.length := by rw [hst, hsg]; simp; omega
                    have hlo := leastOf_le v popd
                    obtain ⟨lt, hlt6⟩ : ∃ q, q = leastOf v popd := ⟨_, rfl⟩
                    rw [← hlt6] at hlo ⊢
                    have HLT := hide hlt6
                    clear hlt6
                    rcases List.eq_nil_or_concat seg with hs0 | ⟨seg2, y, hs0⟩
                    · as_aux_lemma =>
                      subst hs0
                      obtain ⟨gs, caps, hv5, hcaps⟩ := (unhide S6).so.has (by rw [nats_len]; simp)
                      rw [nats_len, List.length_append, List.length_cons, List.length_nil, Nat.zero_add] at hv5 hcaps
                      subst hv5
                      obtain ⟨L, hL⟩ : ∃ q, q = st0.length := ⟨_, rfl⟩
                      have c7 := one_cell (unhide S6).ps
                      have f7 := Blk.free (unhide S6).ps 0
                      have ctop := (unhide S6).so.cell (j := st0.length) (by rw [nats_len]; simp)
                      rw [nats_at _ _ (by simp), show (st0 ++ [v]).getD st0.length 0 = v by simp [List.getD]] at ctop
                      rw [← hL] at ctop c7 hcaps hstL
                      rw [← hL] at S6
                      have c6 := one_cell (unhide S6).po
                      obtain ⟨bo, co⟩ : ∃ b, wr.cell? ⟨w.heap.size + 5, v, none⟩ = some (.bool b) := ⟨_, by rw [(unhide S6).ao.cell, bools_at _ _ (by rw [(unhide S6).ol]; exact hvn)]⟩
                      have fo := Blk.free (unhide S6).ao v
                      have hgs6 := (unhide S6).so.lt (k := gs) rfl
                      have HLL := hide hL
                      clear hL
                      have hnl : ¬ v < lt := by omega
                      have FIN : Hid (∀ ls' : Int, (popd = [] → ls' = ls2) → (popd ≠ [] → ls' = if ls2 < 0 ∨ (lt : Int) < ls2 then (lt : Int) else ls2) → (∃ m, TL w n (k + 1) es [.slice (some ⟨bs, os, none⟩) (n + 1) c1, .slice a2 es.length c2] m (.int .i64 ls') ((wr.setCell ⟨w.heap.size + 7, 0, none⟩ (.slice (some ⟨gs, 0, none⟩) L caps)).setCell ⟨w.heap.size + 5, v, none⟩ (.bool false))) ∧ leastN (fun m => TL w n (k + 1) es [.slice (some ⟨bs, os, none⟩) (n + 1) c1, .slice a2 es.length c2] m (.int .i64 ls') ((wr.setCell ⟨w.heap.size + 7, 0, none⟩ (.slice (some ⟨gs, 0, none⟩) L caps)).setCell ⟨w.heap.size + 5, v, none⟩ (.bool false))) < leastN (fun m => TL w n (k + 1) es [.slice (some ⟨bs, os, none⟩) (n + 1) c1, .slice a2 es.length c2] m (.int .i64 ls2) wR)) := by
                        intro ls' e1 e2
                        rw [List.nil_append] at hsg
                        subst hsg
                        have J5 := unhide J4
                        rw [hst] at J5
                        have hnd := unhide HND
                        have hv0 : v ∉ st0 := fun hm => by
                          rw [List.nodup_append] at hnd
                          exact hnd.2.2 v hm v (by simp) rfl
                        have J6 := J5.pop (unhide HG) (by rw [unhide HD]) (by show lo2.getD v 0 = ix2.getD v 0; rw [← unhide HYL, ← unhide HYI]; exact unhide HNE) e1 (fun hp => ⟨leastOf v seg0, leastOf_mem v seg0, leastOf_all v seg0, by rw [← unhide HLT]; exact e2 hp⟩)
                        have hcut := (unhide S6).so.cut L (by rw [nats_len, List.length_append, ← unhide HLL]; simp)
                        have hcut2 : (nats (st0 ++ [v])).take L = nats st0 := by rw [nats_app, unhide HLL, ← nats_len]; simp
                        rw [hcut2] at hcut
                        have T7 := ((unhide S6).newS (Chg.refl _ _) hcut).setO v false
                        exact TL.dec (m := meas n es [] fd2) ⟨_, _, _, .slice (some ⟨gs, 0, none⟩) L caps, .slice (some ⟨g, 0, none⟩) 0 cap, _, [], fd2, ls', rfl, T7, J6, (unhide O6).pop hvn hv0, unhide D2, rfl, unhide A2⟩ (by rw [unhide HM]; exact meas_drop)
                      go_wp2_with fail
                      all_goals refine unhide FIN _ (fun hp => ?_) (fun hp => ?_)
                      all_goals first
                        | rfl
                        | (have hp2 := congrArg List.length hp; rw [List.length_nil] at hp2; omega)
                        | (have hp2 := List.length_pos_iff.2 hp; split <;> omega)
                    · as_aux_lemma =>
                      rw [List.concat_eq_append] at hs0
                      subst hs0
                      have hpos9 : 0 < ((st0 ++ v :: seg2) ++ [y]).length := by rw [List.length_append]; simp
                      have hce : st0 ++ v :: (seg2 ++ [y]) = (st0 ++ v :: seg2) ++ [y] := by simp
                      rw [hce] at S6
                      rw [hce] at O6
                      have hys : y ∈ st := by rw [hst, hsg]; simp
                      have hyn : y < n := ((unhide J4).stk y hys).1
                      have hnd := unhide HND
                      rw [hsg] at hnd
                      have hyv : y ≠ v := fun e => by
                        subst e
                        rw [List.nodup_append] at hnd
                        exact (List.nodup_cons.1 hnd.2.1).1 (by simp)
                      have hy0 : y ∉ st0 ++ v :: seg2 := fun hm => by
                        have e1 : st0 ++ v :: (seg2 ++ [y] ++ popd) = (st0 ++ v :: seg2) ++ (y :: popd) := by simp
                        rw [e1, List.nodup_append] at hnd
                        exact hnd.2.2 y hm y (by simp) rfl
                      obtain ⟨gs, caps, hv5, hcaps⟩ := (unhide S6).so.has (by rw [nats_len]; exact hpos9)
                      rw [nats_len, List.length_append, List.length_singleton] at hv5 hcaps
                      subst hv5
                      obtain ⟨L, hL⟩ : ∃ q, q = (st0 ++ v :: seg2).length := ⟨_, rfl⟩
                      have c7 := one_cell (unhide S6).ps
                      have f7 := Blk.free (unhide S6).ps 0
                      have ctop := (unhide S6).so.cell (j := (st0 ++ v :: seg2).length) (by rw [nats_len, List.length_append (bs := [y])]; simp)
                      rw [nats_at _ _ (by rw [List.length_append (bs := [y])]; simp), getD_last] at ctop
                      have hLst : L + 1 ≤ st.length := by rw [hL, hst, hsg]; simp; omega
                      rw [← hL] at ctop c7 hcaps
                      rw [← hL] at S6
                      have c6 := one_cell (unhide S6).po
                      obtain ⟨bo, co⟩ : ∃ b, wr.cell? ⟨w.heap.size + 5, y, none⟩ = some (.bool b) := ⟨_, by rw [(unhide S6).ao.cell, bools_at _ _ (by rw [(unhide S6).ol]; exact hyn)]⟩
                      have fo := Blk.free (unhide S6).ao y
                      have hgs6 := (unhide S6).so.lt (k := gs) rfl
                      have HLL := hide hL
                      have hyv' : ((y : Int) == (v : Int)) = false := by simp; omega
                      have HY0 := hide hy0
                      have hpl7 : popd.length < st.length := by omega
                      clear hL hnd hys hy0
                      obtain ⟨mm, hmm⟩ : ∃ q, q = min y lt := ⟨_, rfl⟩
                      have FIN : Hid ((∃ (seg popd' : List Nat) (on3 : List Bool) (vs5 : Value), seg0 = seg ++ popd' ∧ Value.int .i64 ((popd.length : Int) + 1) = .int .i64 (popd'.length : Int) ∧ Value.int .i64 (mm : Int) = .int .i64 ((leastOf v popd' : Nat) : Int) ∧ T20 w ((wr.setCell ⟨w.heap.size + 7, 0, none⟩ (.slice (some ⟨gs, 0, none⟩) L caps)).setCell ⟨w.heap.size + 5, y, none⟩ (.bool false)) n [.slice (some ⟨bs, os, none⟩) (n + 1) c1, .slice a2 es.length c2] ix2 lo2 on3 vs5 (.slice (some ⟨g, 0, none⟩) 0 cap) (st0 ++ v :: seg) (frm es []) fd2 ∧ OnOk n on3 (st0 ++ v :: seg))) := by
                        have hcut := (unhide S6).so.cut L (by rw [nats_len, List.length_append (bs := [y]), ← unhide HLL]; simp)
                        have hcut2 : (nats ((st0 ++ v :: seg2) ++ [y])).take L = nats (st0 ++ v :: seg2) := by rw [nats_app, unhide HLL, ← nats_len]; simp
                        rw [hcut2] at hcut
                        exact ⟨seg2, y :: popd, _, .slice (some ⟨gs, 0, none⟩) L caps, by rw [hsg]; simp, by rw [List.length_cons, Int.natCast_add]; rfl, by rw [hmm, unhide HLT]; rfl, ((unhide S6).newS (Chg.refl _ _) hcut).setO y false, (unhide O6).pop hyn (unhide HY0)⟩
                      by_cases hyl6 : y < lt
                      · have e6 : mm = y := by omega
                        rw [e6] at FIN
                        go_wp2_with fail
                        exact ⟨unhide FIN, by simp [intOf]; omega⟩
                      · have e6 : mm = lt := by omega
                        rw [e6] at FIN
                        go_wp2_with fail
                        exact ⟨unhide FIN, by simp [intOf]; omega⟩
                · as_aux_lemma =>
                  have hne' : ((yl : Int) != (yi : Int)) = true := by simp; omega
                  go_wp2_with fail
                  go_quiet (fail)
                  go_wp2_with fail
                  have J5 := (unhide J4).drop (by rw [unhide HD]) (by show lo2.getD v 0 < ix2.getD v 0; rw [← unhide HYL, ← unhide HYI]; omega) (unhide HZ)
                  exact TL.dec (m := meas n es [] fd2) ⟨_, _, _, vs3, .slice (some ⟨g, 0, none⟩) 0 cap, _, [], fd2, ls2, rfl, (unhide S4).draws nq, J5, unhide O2, unhide D2, rfl, unhide A2⟩ (by rw [unhide HM]; exact meas_drop)
              · as_aux_lemma =>
                rw [List.concat_eq_append] at hfr
                subst hfr
                have hl2 : l = fr2.length + 1 := by rw [unhide HL]; simp
                obtain ⟨l2, hl2'⟩ : ∃ q, q = fr2.length := ⟨_, rfl⟩
                rw [← hl2'] at hl2
                subst hl2
                have S3' := unhide S3
                rw [frm_app] at S3'
                obtain ⟨ct0, _⟩ := S3'.fo.top
                rw [frm_len, ← hl2'] at ct0
                clear S3'
                have HL2 := hide hl2'
                clear hl2'
                have hpf : p ∈ ((fr2 ++ [(p, cp)]) ++ [(v, c)]).map Prod.fst := by simp
                have hpv : at0 ix2 p < at0 ix2 v := (unhide J2).above p (by simp)
                have hps := (unhide J2).frs p hpf
                have hpn := ((unhide J2).stk p hps).1
                have hvl : v < lo2.length := by rw [(unhide S3).ll]; exact hvn
                have hpl : p < lo2.length := by rw [(unhide S3).ll]; exact hpn
                have J4 : Hid (TJ n es none ix2 (lo2.set p (min (at0 lo2 p) (at0 lo2 v))) st ((fr2 ++ [(p, cp)]) ++ [(v, c)]) fd2 ls2) := (unhide J2).lower hpf (by
                  obtain ⟨y, hy, e1, e2⟩ := (unhide J2).lor v (unhide HVS)
                  exact ⟨y, hy, e1, ((unhide J2).dn p hpf v (unhide HVS) (Nat.le_of_lt hpv)).trans e2⟩)
                have HZ : Hid (∀ q ∈ (fr2 ++ [(p, cp)]).map Prod.fst, (∀ p' ∈ (fr2 ++ [(p, cp)]).map Prod.fst, at0 ix2 p' ≤ at0 ix2 q) → at0 (lo2.set p (min (at0 lo2 p) (at0 lo2 v))) q ≤ at0 (lo2.set p (min (at0 lo2 p) (at0 lo2 v))) v) := by
                  intro q hq hqa
                  have h1 := hqa p (by simp)
                  have hqp : at0 ix2 q ≤ at0 ix2 p := by
                    rcases List.mem_append.1 (show q ∈ fr2.map Prod.fst ++ [p] by simpa using hq) with r | r
                    · have hpw := (unhide J2).ord.sublist (unhide J2).sub
                      simp only [List.map_append, List.map_cons, List.map_nil, List.append_assoc, List.pairwise_append] at hpw
                      exact Nat.le_of_lt (hpw.2.2 q r p (by simp))
                    · simp at r; rw [r]; exact Nat.le_refl _
                  have hqe : q = p := (unhide J2).inj q p (by omega) (((unhide J2).stk q ((unhide J2).frs q (by rw [List.map_append]; exact List.mem_append_left _ hq))).2)
                  subst hqe
                  rw [at0_set _ hpl, if_pos rfl, at0_set _ hpl]
                  split
                  · omega
                  · omega
                have c4 := one_cell (unhide S3).pl
                have clv := (unhide S3).al.cell (j := v) (by rw [nats_len]; exact hvl)
                have clp := (unhide S3).al.cell (j := p) (by rw [nats_len]; exact hpl)
                rw [nats_at _ _ hvl] at clv
                rw [nats_at _ _ hpl] at clp
                have flp := Blk.free (unhide S3).al p
                obtain ⟨xv, hxv⟩ : ∃ q, q = lo2.getD v 0 := ⟨_, rfl⟩
                obtain ⟨xp, hxp⟩ : ∃ q, q = lo2.getD p 0 := ⟨_, rfl⟩
                rw [← hxv] at clv
                rw [← hxp] at clp
                have emin : Hid ((if xv < xp then (xv : Int) else (xp : Int)) = ((min (at0 lo2 p) (at0 lo2 v) : Nat) : Int)) := by
                  have e1 : xp = at0 lo2 p := hxp
                  have e2 : xv = at0 lo2 v := hxv
                  rw [← e1, ← e2]
                  show (if xv < xp then (xv : Int) else (xp : Int)) = _
                  split <;> omega
                clear hxv hxp hpf hpv hps hvl hpl
                go_upto_region 27 with fail
                go_region
                have S4 : Hid (T20 w ((w3.setCell ⟨w.heap.size + 3, p, none⟩ (.int .i64 (if xv < xp then (xv : Int) else (xp : Int)))).drew) n [.slice (some ⟨bs, os, none⟩) (n + 1) c1, .slice a2 es.length c2] ix2 (lo2.set p (min (at0 lo2 p) (at0 lo2 v))) on2 vs3 (.slice (some ⟨g, 0, none⟩) (l2 + 1) cap) st (frm es (fr2 ++ [(p, cp)])) fd2) := by
                  rw [unhide emin]
                  exact ((unhide S3).setL p _).draws 1
                clear c4 clv clp flp ct0 c8 emin
                generalize (if xv < xp then (xv : Int) else (xp : Int)) = xm at S4 ⊢
                generalize (w3.setCell ⟨w.heap.size + 3, p, none⟩ (.int .i64 xm)).drew = w4 at S4 ⊢
                have c4' := one_cell (unhide S4).pl
                have c2' := one_cell (unhide S4).pi
                have ci := (unhide S4).ai.cell (j := v) (by rw [nats_len, (unhide S4).il]; exact hvn)
                have cl := (unhide S4).al.cell (j := v) (by rw [nats_len, (unhide S4).ll]; exact hvn)
                rw [nats_at _ _ (by rw [(unhide S4).il]; exact hvn)] at ci
                rw [nats_at _ _ (by rw [(unhide S4).ll]; exact hvn)] at cl
                obtain ⟨yl, hyl⟩ : ∃ q, q = (lo2.set p (min (at0 lo2 p) (at0 lo2 v))).getD v 0 := ⟨_, rfl⟩
                obtain ⟨yi, hyi⟩ : ∃ q, q = ix2.getD v 0 := ⟨_, rfl⟩
                rw [← hyl] at cl
                rw [← hyi] at ci
                have HYL := hide hyl
                have HYI := hide hyi
                have hyle : yl ≤ yi := by rw [hyl, hyi]; exact (unhide J4).lle v (unhide HVS)
                clear hyl hyi
                by_cases hne : yl = yi
                · as_aux_lemma =>
                  have hne' : ((yl : Int) != (yi : Int)) = false := by simp [hne]
                  have HNE := hide hne
                  clear hne
                  go_wp2_with fail
                  go_quiet (fail)
                  obtain ⟨q7, hq7⟩ : ∃ q, q = nq := ⟨_, rfl⟩
                  subst hq7
                  have S5 := hide ((unhide S4).draws q7)
                  clear S4 c4' c2' ci cl
                  generalize w4.drewN q7 = w5 at S5 ⊢
                  obtain ⟨st0, seg0, hst⟩ := List.append_of_mem (unhide HVS)
                  have hnd := (unhide J4).nodup
                  rw [hst] at hnd
                  have HND := hide hnd
                  clear hnd
                  obtain ⟨wR, hwR⟩ : ∃ x, x = wr := ⟨_, rfl⟩
                  subst hwR
                  go_wp2_with fail
                  go_loopw [17, 18] (fun v17 v18 wr => ∃ (seg popd : List Nat) (on3 : List Bool) (vs5 : Value), seg0 = seg ++ popd ∧ v17 = .int .i64 (popd.length : Int) ∧ v18 = .int .i64 ((leastOf v popd : Nat) : Int) ∧ T20 w wr n [.slice (some ⟨bs, os, none⟩) (n + 1) c1, .slice a2 es.length c2] ix2 (lo2.set p (min (at0 lo2 p) (at0 lo2 v))) on3 vs5 (.slice (some ⟨g, 0, none⟩) (l2 + 1) cap) (st0 ++ v :: seg) (frm es (fr2 ++ [(p, cp)])) fd2 ∧ OnOk n on3 (st0 ++ v :: seg)) (fun v17 _ _ => st.length - (intOf v17).toNat)
                  case atStart =>
                    refine ⟨seg0, [], on2, vs3, by simp, rfl, rfl, ?_, ?_⟩
                    · rw [← hst]; exact unhide S5
                    · rw [← hst]; exact unhide O2
                  case round =>
                    obtain ⟨seg, popd, on3, vs5, hsg, rfl, rfl, ht5, ho5⟩ := hrel
                    have S6 := hide ht5
                    have O6 := hide ho5
                    clear ht5 ho5
                    have hstL : st.length = st0.length + 1 + seg.length + popd.length := by rw [hst, hsg]; simp; omega
                    have hlo := leastOf_le v popd
                    obtain ⟨lt, hlt6⟩ : ∃ q, q = leastOf v popd := ⟨_, rfl⟩
                    rw [← hlt6] at hlo ⊢
                    have HLT := hide hlt6
                    clear hlt6
                    rcases List.eq_nil_or_concat seg with hs0 | ⟨seg2, y, hs0⟩
                    · as_aux_lemma =>
                      subst hs0
                      obtain ⟨gs, caps, hv5, hcaps⟩ := (unhide S6).so.has (by rw [nats_len]; simp)
                      rw [nats_len, List.length_append, List.length_cons, List.length_nil, Nat.zero_add] at hv5 hcaps
                      subst hv5
                      obtain ⟨L, hL⟩ : ∃ q, q = st0.length := ⟨_, rfl⟩
                      have c7 := one_cell (unhide S6).ps
                      have f7 := Blk.free (unhide S6).ps 0
                      have ctop := (unhide S6).so.cell (j := st0.length) (by rw [nats_len]; simp)
                      rw [nats_at _ _ (by simp), show (st0 ++ [v]).getD st0.length 0 = v by simp [List.getD]] at ctop
                      rw [← hL] at ctop c7 hcaps hstL
                      rw [← hL] at S6
                      have c6 := one_cell (unhide S6).po
                      obtain ⟨bo, co⟩ : ∃ b, wr.cell? ⟨w.heap.size + 5, v, none⟩ = some (.bool b) := ⟨_, by rw [(unhide S6).ao.cell, bools_at _ _ (by rw [(unhide S6).ol]; exact hvn)]⟩
                      have fo := Blk.free (unhide S6).ao v
                      have hgs6 := (unhide S6).so.lt (k := gs) rfl
                      have HLL := hide hL
                      clear hL
                      have hnl : ¬ v < lt := by omega
                      have FIN : Hid (∀ ls' : Int, (popd = [] → ls' = ls2) → (popd ≠ [] → ls' = if ls2 < 0 ∨ (lt : Int) < ls2 then (lt : Int) else ls2) → (∃ m, TL w n (k + 1) es [.slice (some ⟨bs, os, none⟩) (n + 1) c1, .slice a2 es.length c2] m (.int .i64 ls') ((wr.setCell ⟨w.heap.size + 7, 0, none⟩ (.slice (some ⟨gs, 0, none⟩) L caps)).setCell ⟨w.heap.size + 5, v, none⟩ (.bool false))) ∧ leastN (fun m => TL w n (k + 1) es [.slice (some ⟨bs, os, none⟩) (n + 1) c1, .slice a2 es.length c2] m (.int .i64 ls') ((wr.setCell ⟨w.heap.size + 7, 0, none⟩ (.slice (some ⟨gs, 0, none⟩) L caps)).setCell ⟨w.heap.size + 5, v, none⟩ (.bool false))) < leastN (fun m => TL w n (k + 1) es [.slice (some ⟨bs, os, none⟩) (n + 1) c1, .slice a2 es.length c2] m (.int .i64 ls2) wR)) := by
                        intro ls' e1 e2
                        rw [List.nil_append] at hsg
                        subst hsg
                        have J5 := unhide J4
                        rw [hst] at J5
                        have hnd := unhide HND
                        have hv0 : v ∉ st0 := fun hm => by
                          rw [List.nodup_append] at hnd
                          exact hnd.2.2 v hm v (by simp) rfl
                        have J6 := J5.pop (unhide HG) (by rw [unhide HD]) (by show (lo2.set p (min (at0 lo2 p) (at0 lo2 v))).getD v 0 = ix2.getD v 0; rw [← unhide HYL, ← unhide HYI]; exact unhide HNE) e1 (fun hp => ⟨leastOf v seg0, leastOf_mem v seg0, leastOf_all v seg0, by rw [← unhide HLT]; exact e2 hp⟩)
                        have hcut := (unhide S6).so.cut L (by rw [nats_len, List.length_append, ← unhide HLL]; simp)
                        have hcut2 : (nats (st0 ++ [v])).take L = nats st0 := by rw [nats_app, unhide HLL, ← nats_len]; simp
                        rw [hcut2] at hcut
                        have T7 := ((unhide S6).newS (Chg.refl _ _) hcut).setO v false
                        exact TL.dec (m := meas n es (fr2 ++ [(p, cp)]) fd2) ⟨_, _, _, .slice (some ⟨gs, 0, none⟩) L caps, .slice (some ⟨g, 0, none⟩) (l2 + 1) cap, _, (fr2 ++ [(p, cp)]), fd2, ls', rfl, T7, J6, (unhide O6).pop hvn hv0, unhide D2, rfl, unhide A2⟩ (by rw [unhide HM]; exact meas_drop)
                      go_wp2_with fail
                      all_goals refine unhide FIN _ (fun hp => ?_) (fun hp => ?_)
                      all_goals first
                        | rfl
                        | (have hp2 := congrArg List.length hp; rw [List.length_nil] at hp2; omega)
                        | (have hp2 := List.length_pos_iff.2 hp; split <;> omega)
                    · as_aux_lemma =>
                      rw [List.concat_eq_append] at hs0
                      subst hs0
                      have hpos9 : 0 < ((st0 ++ v :: seg2) ++ [y]).length := by rw [List.length_append]; simp
                      have hce : st0 ++ v :: (seg2 ++ [y]) = (st0 ++ v :: seg2) ++ [y] := by simp
                      rw [hce] at S6
                      rw [hce] at O6
                      have hys : y ∈ st := by rw [hst, hsg]; simp
                      have hyn : y < n := ((unhide J4).stk y hys).1
                      have hnd := unhide HND
                      rw [hsg] at hnd
                      have hyv : y ≠ v := fun e => by
                        subst e
                        rw [List.nodup_append] at hnd
                        exact (List.nodup_cons.1 hnd.2.1).1 (by simp)
                      have hy0 : y ∉ st0 ++ v :: seg2 := fun hm => by
                        have e1 : st0 ++ v :: (seg2 ++ [y] ++ popd) = (st0 ++ v :: seg2) ++ (y :: popd) := by simp
                        rw [e1, List.nodup_append] at hnd
                        exact hnd.2.2 y hm y (by simp) rfl
                      obtain ⟨gs, caps, hv5, hcaps⟩ := (unhide S6).so.has (by rw [nats_len]; exact hpos9)
                      rw [nats_len, List.length_append, List.length_singleton] at hv5 hcaps
                      subst hv5
                      obtain ⟨L, hL⟩ : ∃ q, q = (st0 ++ v :: seg2).length := ⟨_, rfl⟩
                      have c7 := one_cell (unhide S6).ps
                      have f7 := Blk.free (unhide S6).ps 0
                      have ctop := (unhide S6).so.cell (j := (st0 ++ v :: seg2).length) (by rw [nats_len, List.length_append (bs := [y])]; simp)
                      rw [nats_at _ _ (by rw [List.length_append (bs := [y])]; simp), getD_last] at ctop
                      have hLst : L + 1 ≤ st.length := by rw [hL, hst, hsg]; simp; omega
                      rw [← hL] at ctop c7 hcaps
                      rw [← hL] at S6
                      have c6 := one_cell (unhide S6).po
                      obtain ⟨bo, co⟩ : ∃ b, wr.cell? ⟨w.heap.size + 5, y, none⟩ = some (.bool b) := ⟨_, by rw [(unhide S6).ao.cell, bools_at _ _ (by rw [(unhide S6).ol]; exact hyn)]⟩
                      have fo := Blk.free (unhide S6).ao y
                      have hgs6 := (unhide S6).so.lt (k := gs) rfl
                      have HLL := hide hL
                      have hyv' : ((y : Int) == (v : Int)) = false := by simp; omega
                      have HY0 := hide hy0
                      have hpl7 : popd.length < st.length := by omega
                      clear hL hnd hys hy0
                      obtain ⟨mm, hmm⟩ : ∃ q, q = min y lt := ⟨_, rfl⟩
                      have FIN : Hid ((∃ (seg popd' : List Nat) (on3 : List Bool) (vs5 : Value), seg0 = seg ++ popd' ∧ Value.int .i64 ((popd.length : Int) + 1) = .int .i64 (popd'.length : Int) ∧ Value.int .i64 (mm : Int) = .int .i64 ((leastOf v popd' : Nat) : Int) ∧ T20 w ((wr.setCell ⟨w.heap.size + 7, 0, none⟩ (.slice (some ⟨gs, 0, none⟩) L caps)).setCell ⟨w.heap.size + 5, y, none⟩ (.bool false)) n [.slice (some ⟨bs, os, none⟩) (n + 1) c1, .slice a2 es.length c2] ix2 (lo2.set p (min (at0 lo2 p) (at0 lo2 v))) on3 vs5 (.slice (some ⟨g, 0, none⟩) (l2 + 1) cap) (st0 ++ v :: seg) (frm es (fr2 ++ [(p, cp)])) fd2 ∧ OnOk n on3 (st0 ++ v :: seg))) := by
                        have hcut := (unhide S6).so.cut L (by rw [nats_len, List.length_append (bs := [y]), ← unhide HLL]; simp)
                        have hcut2 : (nats ((st0 ++ v :: seg2) ++ [y])).take L = nats (st0 ++ v :: seg2) := by rw [nats_app, unhide HLL, ← nats_len]; simp
                        rw [hcut2] at hcut
                        exact ⟨seg2, y :: popd, _, .slice (some ⟨gs, 0, none⟩) L caps, by rw [hsg]; simp, by rw [List.length_cons, Int.natCast_add]; rfl, by rw [hmm, unhide HLT]; rfl, ((unhide S6).newS (Chg.refl _ _) hcut).setO y false, (unhide O6).pop hyn (unhide HY0)⟩
                      by_cases hyl6 : y < lt
                      · have e6 : mm = y := by omega
                        rw [e6] at FIN
                        go_wp2_with fail
                        exact ⟨unhide FIN, by simp [intOf]; omega⟩
                      · have e6 : mm = lt := by omega
                        rw [e6] at FIN
                        go_wp2_with fail
                        exact ⟨unhide FIN, by simp [intOf]; omega⟩
                · as_aux_lemma =>
                  have hne' : ((yl : Int) != (yi : Int)) = true := by simp; omega
                  go_wp2_with fail
                  go_quiet (fail)
                  go_wp2_with fail
                  have J5 := (unhide J4).drop (by rw [unhide HD]) (by show (lo2.set p (min (at0 lo2 p) (at0 lo2 v))).getD v 0 < ix2.getD v 0; rw [← unhide HYL, ← unhide HYI]; omega) (unhide HZ)
                  exact TL.dec (m := meas n es (fr2 ++ [(p, cp)]) fd2) ⟨_, _, _, vs3, .slice (some ⟨g, 0, none⟩) (l2 + 1) cap, _, (fr2 ++ [(p, cp)]), fd2, ls2, rfl, (unhide S4).draws nq, J5, unhide O2, unhide D2, rfl, unhide A2⟩ (by rw [unhide HM]; exact meas_drop)
      · have h0' : ((xi : Int) != 0) = true := by simp; omega
        have HXI := hide hxi
        clear hxi
        go_wp2_with fail
        refine ⟨⟨k + 1, by omega, by rw [Int.natCast_add]; rfl, ix, lo, on, vs, vf, fd, ls, rfl, unhide S1, unhide J1, unhide O1, unhide D1, fun x hx => ?_⟩, by simp [intOf]; omega⟩
        by_cases e : x = k
        · subst e; show ix.getD x 0 ≠ 0; rw [← unhide HXI]; exact h0
        · exact unhide A1 x (by omega)
    · obtain rfl : k = n := by omega
      go_wp2_with fail
      go_returns
      exact ⟨⟨ls, rfl, (unhide J1).all (unhide A1)⟩, (unhide S1).bel⟩
end Go.Proofs.Qxb6614980a
