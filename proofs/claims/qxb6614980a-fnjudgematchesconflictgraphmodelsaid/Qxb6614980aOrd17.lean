/-
  'order' walked: the vertices taken, the lowest first.
-/
import Derived.Test.Qxb6614980aOrdS
import Derived.Test.Qxb6614980aGraph
import Derived.Deep.DeepCutAuto
namespace Go.Proofs.Qxb6614980a
open Go.ChangeShapes Go.WideShapes Go.ChangeAt Go.RowKit

theorem cnt_take (T : List Int) (p v : Nat) (hp : p < T.length) : (T.take (p + 1)).count (v : Int) = (T.take p).count (v : Int) + if T.getD p 0 = (v : Int) then 1 else 0 := by
  rw [List.take_succ_eq_append_getElem hp, List.count_append]
  have : T.getD p 0 = T[p] := by simp [List.getD, hp]
  rw [this]
  congr 1
  simp [List.count_cons]

theorem arr3_at0 (n : Nat) (es : List (Nat × Nat)) (u : Nat) (hu : u ≤ n) : (arr3 n es 0).getD u 0 = (off es u : Int) := by
  unfold arr3
  rw [mapRange_getD _ _ _ (by omega), cnt_zero, Nat.add_zero]

theorem mid_le (es : List (Nat × Nat)) (ord : List Nat) (u c v : Nat) : midN es ord u c v ≤ 2 * es.length := by
  unfold midN inN
  have h1 : (es.filter fun e => decide (e.2 = v ∧ e.1 ∉ ord)).length ≤ es.length := List.length_filter_le _ _
  have h2 : ((outs es u).drop c).count v ≤ ((outs es u).drop c).length := List.count_le_length
  have h3 : (outs es u).length ≤ es.length := by
    unfold outs
    rw [List.length_map]
    exact List.length_filter_le _ _
  rw [List.length_drop] at h2
  omega

theorem OS.newo {w0 w : World} {gi rb : Nat} {cs : List Value} {vo vo' vr : Value} {into ord R xs : List Int} (h : OS w0 w gi rb cs vo vr into ord R) (ho : OwnI w (w0.heap.size + 1) vo' xs) (h1 : ∀ k, vo'.ownBlock = some k → k ≠ gi) (h2 : Apart vr vo') : OS w0 w gi rb cs vo' vr into xs R :=
  ⟨h.bel, h.box, h.i, h.v, h.r, ho, h.ri, fun e => h1 gi e rfl, h2, h.gl, h.rl⟩

set_option maxRecDepth 100000 in
set_option maxHeartbeats 4000000 in
theorem order17_any (n : Nat) (es : List (Nat × Nat)) (a1 a2 : Option Addr) (c1 c2 : Nat) (T : List Int) (w : World) (hS : Rd w a1 (ints (arr3 n es 0))) (hTl : T.length = es.length) (hTA : ToAt es T es.length) (hT : Rd w a2 (ints T)) (hcap : es.length ≤ c2) (hg : GoodE n es) (hn : n ≤ 4096) (hm : es.length ≤ 1099511627776) :
    Calls Try.prog 17 #[.agg #[.slice a1 (n + 1) c1, .slice a2 es.length c2]] w fun e w' => (∃ a c ord, e = .returned (.tuple #[.slice a ord.length c, .bool (decide (ord.length = n))]) ∧ Rd w' a (ints (nats ord)) ∧ Kahn n es ord ∧ ∀ b off, a = some ⟨b, off, none⟩ → w.heap.size ≤ b) ∧ Below w.heap.size w w' := by
  have HS := hide hS
  have HT := hide hT
  have HTA := hide hTA
  have HTL := hide hTl
  have HG := hide hg
  have HTV : Hid (∀ p, p < es.length → ∃ v : Nat, v < n ∧ T.getD p 0 = (v : Int)) := by
    intro p hp
    have h1 : T.getD p 0 ∈ T := by
      have : T.getD p 0 = T[p]'(by omega) := by simp [List.getD, show p < T.length by omega]
      rw [this]
      exact List.getElem_mem _
    have h2 := (toAt_perm es T hTl hTA).mem_iff.1 h1
    obtain ⟨e, he, h3⟩ := List.mem_map.1 h2
    exact ⟨e.2, (hg e he).2.1, h3.symm⟩
  have HMC : Hid (∀ v : Nat, (T.take es.length).count (v : Int) = inN es [] v) := by
    intro v
    rw [← hTl, List.take_length]
    exact inN_start es T hTl hTA v
  clear hS hT hTA hTl hg
  have hm1 := run_make_row' (P := Try.prog) 22 3 (.int .i64 0) 8 Try.underlying22 info3 rfl .i64 .i64 n (by omega) (by omega)
  obtain ⟨i0, hi, hz0, hz1, hz2⟩ := info_parts info3
  go_enter Try.func17, Try.ntmps17
  go_wp2_with fail
  go_loopw [23] (fun i wr => ∃ p : Nat, p ≤ es.length ∧ i = .int .i64 p ∧ Blk wr w.heap.size 49 [.slice a1 (n + 1) c1, .slice a2 es.length c2] ∧ IBlk wr (w.heap.size + 1) (arrN n fun v => (T.take p).count (v : Int)) ∧ Below w.heap.size w wr ∧ wr.heap.size = w.heap.size + 1 + 1) (fun i _ => es.length - (intOf i).toNat)
  case atStart =>
    refine ⟨0, Nat.zero_le _, rfl, (Blk.new w 49 [.slice a1 (n + 1) c1, .slice a2 es.length c2]).alloc _, ?_, (below_new w _).alloc (by simp) _, by simp⟩
    rw [← arrN_zero n _ (fun x => by simp)]
    have := IBlk.new (w.alloc (.cells #[.slice a1 (n + 1) c1, .slice a2 es.length c2] 49)) n
    rw [World.size_alloc] at this
    exact this
  case round =>
    obtain ⟨p, hp, rfl, hB, hI, hbel, hsz⟩ := hrel
    have HB := hide hB
    have HI := hide hI
    have HSZ := hide hsz
    clear hB hI hsz
    by_cases hlt : p < es.length
    · obtain ⟨v, hv, hTv⟩ := unhide HTV p hlt
      obtain ⟨b, off, e, hc⟩ := ((unhide HT).old hbel).int (show p < T.length by rw [unhide HTL]; exact hlt)
      subst e
      rw [hTv] at hc
      have HTv := hide hTv
      clear hTv
      have hcI := (unhide HI).cell (j := v) (by rw [arrN_len]; exact hv)
      rw [arrN_at _ _ _ hv] at hcI
      have hfI := Blk.free (unhide HI) v
      have hcb : (T.take p).count (v : Int) ≤ p := Nat.le_trans List.count_le_length (by rw [List.length_take]; omega)
      obtain ⟨cc, hcc⟩ : ∃ cc, cc = (T.take p).count (v : Int) := ⟨_, rfl⟩
      rw [← hcc] at hcI hcb
      have HCC := hide hcc
      clear hcc
      go_wp2_with fail
      refine ⟨⟨p + 1, by omega, by rw [Int.natCast_add]; rfl, Blk.other (unhide HB) (by show w.heap.size ≠ w.heap.size + 1; omega) _, ?_, hbel.trans ((Chg.setCell (S := fun k => k = w.heap.size + 1) wr ⟨w.heap.size + 1, v, none⟩ _ rfl).below hbel.size (fun k e => by omega)), by have := unhide HSZ; simpa using this⟩, by simp [intOf]; omega⟩
      have hs := (unhide HI).set v ((cc : Int) + 1)
      rw [arrN_set n _ (fun v => (T.take (p + 1)).count (v : Int)) v hv (fun x hx => by
        rw [cnt_take T p x (by rw [unhide HTL]; exact hlt), unhide HTv, if_neg (by omega)]; rfl) _ (by
        rw [cnt_take T p v (by rw [unhide HTL]; exact hlt), unhide HTv, if_pos rfl, ← unhide HCC]; rfl)] at hs
      exact hs
    · obtain rfl : p = es.length := by omega
      have hst : Hid (OS w (wr.alloc (.cells #[.slice none 0 0] 63)) (w.heap.size + 1) wr.heap.size [.slice a1 (n + 1) c1, .slice a2 es.length c2] (.slice none 0 0) (.slice none 0 0) (arrN n (inN es [])) [] (ready0 es 0)) := by
        have hsz := unhide HSZ
        refine ⟨hbel.alloc hbel.size _, (unhide HB).alloc _, ?_, Blk.new wr 63 [.slice none 0 0], OwnI.nil _ _, OwnI.nil _ _, (by intro h; cases h), (by intro h; cases h), (fun k hk => by cases hk), by omega, by omega⟩
        rw [arrN_congr n (inN es []) (fun v => (T.take es.length).count (v : Int)) (fun x _ => (unhide HMC x).symm)]
        exact Blk.alloc (unhide HI) _
      have hsz2 := unhide HSZ
      obtain ⟨w1, hw1⟩ : ∃ x, x = wr := ⟨_, rfl⟩
      subst hw1
      have HSZ2 := hide hsz2
      clear hsz2
      go_wp2_with fail
      go_loopw [9] (fun i wr => ∃ (k : Nat) (vr : Value), k ≤ n ∧ i = .int .i64 k ∧ OS w wr (w.heap.size + 1) w1.heap.size [.slice a1 (n + 1) c1, .slice a2 es.length c2] (.slice none 0 0) vr (arrN n (inN es [])) [] (ready0 es k)) (fun i _ => n - (intOf i).toNat)
      case atStart => exact ⟨0, _, Nat.zero_le _, rfl, unhide hst⟩
      case round =>
        obtain ⟨k, vr, hk, rfl, hs⟩ := hrel
        have HS2 := hide hs
        clear hs
        by_cases hlt2 : k < n
        · have hcI := (unhide HS2).i.cell (j := k) (by rw [arrN_len]; exact hlt2)
          rw [arrN_at _ _ _ hlt2] at hcI
          obtain ⟨cc, hcc⟩ : ∃ cc, cc = inN es [] k := ⟨_, rfl⟩
          rw [← hcc] at hcI
          have HCC := hide hcc
          clear hcc
          by_cases h0 : cc = 0
          · subst h0
            obtain ⟨avr, cvr, hvr⟩ := (unhide HS2).r.form
            subst hvr
            have hc8 := one_cell (unhide HS2).v
            have hlt8 := (unhide HS2).v.lt
            go_wp2_with (at_builtin; refine wpList_push 63 Try.underlying63 rfl (.tmp 44) (.tmp 46) rfl (w.heap.size + 1) (.slice avr (ready0 es k).length cvr) (ready0 es k) rfl (unhide HS2).r k wr.heap.size rfl rfl (by have := ready0_len es k; omega) (by have := (unhide HS2).size; omega) ?_; intro g cap w2 ho2 hc2 hat2; have hb2 := (unhide HS2).v.chg hc2 (fun e => (unhide HS2).r.ne (unhide HS2).v (by decide) e); have hc82 := one_cell hb2; have hf82 := hb2.free 0; have HO2 := hide ho2; clear ho2)
            refine ⟨⟨k + 1, .slice (some ⟨g, 0, none⟩) ((ready0 es k).length + 1) cap, by omega, by rw [Int.natCast_add]; rfl, ?_⟩, by simp [intOf]; omega⟩
            rw [ready0_succ, if_pos (unhide HCC).symm]
            exact (unhide HS2).rdy_push (unhide HO2) hc2 hat2
          · have h0' : ((cc : Int) == 0) = false := by simp; omega
            go_wp2_with fail
            refine ⟨⟨k + 1, vr, by omega, by rw [Int.natCast_add]; rfl, ?_⟩, by simp [intOf]; omega⟩
            rw [ready0_succ, if_neg (by rw [← unhide HCC]; exact h0), List.append_nil]
            exact unhide HS2
        · obtain rfl : k = n := by omega
          obtain ⟨w2, hw2⟩ : ∃ x, x = wr := ⟨_, rfl⟩
          subst hw2
          have hta : ∀ (x : Int) (w : World), Sem.run Try.prog (Instr.typeAssert (.iface 3 (.int .i64 x)) 20 3 false) w = .ok (.int .i64 x) w := fun _ _ => by kernel_rfl
          go_wp2_with (at_make; refine wpList_make_own _ rfl _ _ 22 rfl (w.heap.size + 1) 3 i0 (.int .i64 0) 1 Try.underlying22 hi hz0 hz1 _ _ _ k rfl rfl rfl (by rw [hz2]; omega) (by unfold maxLen; omega) (by have := (unhide HS2).size; omega) ?_; intro w3 ho3 hg3)
          have S3 : Hid (OS w w3 (w.heap.size + 1) w1.heap.size [.slice a1 (k + 1) c1, .slice a2 es.length c2] (.slice (some ⟨w2.heap.size, 0, none⟩) 0 k) vr (arrN k (inN es [])) (nats []) (ready0 es k)) := by
            have h1 := (unhide HS2).chg (Chg.grown (S := fun _ => False) hg3 (fun k e => by cases e)) (fun _ _ e => e) (fun e => e) (fun e => e) (fun _ _ e => e) (fun _ _ e => e)
            exact h1.newo ho3 (fun j hj => by have e : w2.heap.size = j := (by injection hj); have h2 := Blk.lt (unhide HS2).i; omega) (fun j hj e => by have e2 : w2.heap.size = j := (by injection e); have := ((unhide HS2).r.lt hj).2; omega)
          clear ho3 hg3
          go_loopw [10] (fun vo wr => ∃ (vr : Value) (ord : List Nat) (R : List Int), Kn k es ord R ∧ HeapN R R.length ∧ OS w wr (w.heap.size + 1) w1.heap.size [.slice a1 (k + 1) c1, .slice a2 es.length c2] vo vr (arrN k (inN es ord)) (nats ord) R) (fun vo _ => k - lenOf vo)
          case atStart => exact ⟨vr, [], ready0 es k, ready0_ok k es, asc_heap (List.Pairwise.imp (fun h => Int.le_of_lt h) (ready0_asc es k)), unhide S3⟩
          case round =>
            obtain ⟨vr4, ord, R, hkn, hhp, hs⟩ := hrel
            have KN := hide hkn
            have HHP := hide hhp
            have S4 := hide hs
            clear hkn hhp hs
            obtain ⟨avo, cvo, hvo⟩ := (unhide S4).o.form
            rw [nats_len] at hvo
            subst hvo
            obtain ⟨avr, cvr, hvr⟩ := (unhide S4).r.form
            subst hvr
            have hc8 := one_cell (unhide S4).v
            have hRl := (unhide KN).r.len
            have hol := (unhide KN).t.len
            by_cases hR : R.length = 0
            · have hc8' : wr.cell? ⟨w1.heap.size, 0, none⟩ = some (.slice avr 0 cvr) := by rw [hc8, hR]
              clear hc8
              obtain ⟨bb, hbb⟩ : ∃ bb, bb = decide (ord.length = k) := ⟨_, rfl⟩
              have hb1 : ((ord.length : Int) == (k : Int)) = bb := by
                rw [hbb]
                by_cases h : ord.length = k
                · simp [h]
                · simp [h]; omega
              have HBB := hide hbb
              clear hbb
              go_wp2_with fail
              go_returns
              have hR0 : R = [] := List.eq_nil_of_length_eq_zero hR
              have hkd := unhide KN
              rw [hR0] at hkd
              exact ⟨⟨avo, cvo, ord, by rw [← unhide HBB]; rfl, (unhide S4).o.rd, hkd.done, fun b off e => by subst e; have := ((unhide S4).o.lt (k := b) rfl).1; omega⟩, (unhide S4).bel⟩
            · obtain ⟨r, hr⟩ : ∃ r, R.length = r + 1 := ⟨R.length - 1, by omega⟩
              obtain ⟨g, cap, hvr⟩ := (unhide S4).r.some (by omega)
              rw [hvr, hr] at hc8
              rw [hvr, hr] at S4
              have H4 : Hid (Hp wr (w.heap.size + 1) w1.heap.size g (r + 1) cap R) := ⟨(unhide S4).v, (unhide S4).r, hr.symm⟩
              have hhp : HeapN R (r + 1) := by
                rw [← hr]
                exact unhide HHP
              have hmin : Hid (∀ y ∈ R, R.getD 0 0 ≤ y) := by
                intro y hy
                obtain ⟨j, hj, rfl⟩ := List.getElem_of_mem hy
                have := heap_root (unhide HHP) j hj
                simpa [List.getD, hj] using this
              have HR := hide hr
              have HHP2 := hide hhp
              clear hvr hr hhp hR
              go_wp2_with fail
              refine (heapPop_any (w.heap.size + 1) w1.heap.size g r cap R wr (unhide H4) (by have := unhide HR; omega) (unhide HHP2)).mono ?_
              rintro e w5 ⟨rfl, ys, hh5, hn5, hp5, hc5⟩
              have S5 := hide ((unhide S4).heap hh5 hc5 (.inl rfl))
              obtain ⟨u, hxu, hu, htk, hmid⟩ := (unhide KN).pop hp5 (unhide hmin)
              rw [hxu]
              have TK := hide htk
              have MD := hide hmid
              have HN5 := hide hn5
              have HLY := hide hh5.n
              clear hh5 hc5 hp5 hxu htk hmid hn5
              have hol2 := (unhide TK).len
              rw [List.length_append, List.length_singleton] at hol2
              go_wp2_with (at_builtin; refine wpList_push 22 Try.underlying22 rfl (.tmp 56) (.tmp 58) rfl (w.heap.size + 1) (.slice avo ord.length cvo) (nats ord) rfl (unhide S5).o u w5.heap.size rfl rfl (by rw [nats_len]; omega) (by have := (unhide S5).size; omega) ?_; rw [nats_len]; intro g6 cap6 w6 ho6 hc6 hat6; have HO6 := hide ho6; clear ho6)
              have S6 := hide ((unhide S5).ord_push (unhide HO6) hc6 hat6)
              obtain ⟨bs, os, es1, hcs1⟩ := ((unhide HS).old (unhide S6).bel).int (show u < (arr3 k es 0).length by rw [arr3_len]; omega)
              obtain ⟨bs2, os2, es2, hcs2⟩ := ((unhide HS).old (unhide S6).bel).int (show u + 1 < (arr3 k es 0).length by rw [arr3_len]; omega)
              subst es1
              cases es2
              rw [arr3_at0 _ _ _ (by omega)] at hcs1 hcs2
              have hb60 : w6.cell? ⟨w.heap.size, 0, none⟩ = some (.slice (some ⟨bs, os, none⟩) (k + 1) c1) := (unhide S6).box.cell 0
              have hb61 : w6.cell? ⟨w.heap.size, 1, none⟩ = some (.slice a2 es.length c2) := (unhide S6).box.cell 1
              have hoo := off_outs es u
              have hol6 := off_le es (u + 1)
              obtain ⟨lo, hlo⟩ : ∃ lo, lo = off es u := ⟨_, rfl⟩
              obtain ⟨d, hd⟩ : ∃ d, d = (outs es u).length := ⟨_, rfl⟩
              rw [← hlo, ← hd] at hoo
              rw [hoo] at hcs2 hol6
              rw [← hlo] at hcs1
              have HLO := hide hlo
              have HD := hide hd
              clear hoo hlo hd
              go_wp2_with fail
              go_cut [73, 74, 75] from 60 to 94 (fun v73 v74 v75 wc => ∃ A c3 nq, v73 = .slice A d c3 ∧ v74 = .int .i64 d ∧ v75 = .int .i64 0 ∧ wc = w6.drewN nq ∧ (0 < d → ∃ bt ot, A = some ⟨bt, ot + lo, none⟩ ∧ a2 = some ⟨bt, ot, none⟩))
              case first =>
                have hdd : lo + d - lo = d := by omega
                by_cases hd0 : 0 < d
                · obtain ⟨bt, ot, et, _⟩ := (unhide HT).int (j := 0) (by rw [unhide HTL]; omega)
                  subst et
                  have hcl : ¬ c2 = lo := by omega
                  go_quiet (fail)
                  go_wp2_with fail
                  go_meet
                  case rel => exact ⟨_, _, nq, by rw [hdd], rfl, rfl, rfl, fun _ => ⟨bt, ot, rfl, rfl⟩⟩
                · by_cases hcl : c2 = lo
                  · subst hcl
                    go_quiet (fail)
                    go_wp2_with fail
                    go_meet
                    case rel => exact ⟨_, _, nq, by rw [hdd], rfl, rfl, rfl, fun h => absurd h hd0⟩
                  · go_quiet (fail)
                    go_wp2_with fail
                    go_meet
                    case rel => exact ⟨_, _, nq, by rw [hdd], rfl, rfl, rfl, fun h => absurd h hd0⟩
              case rest =>
                obtain ⟨A, c3, nq, rfl, rfl, rfl, rfl, hA⟩ := hcut
                have hun : u ∉ ord := by
                  intro hm
                  have := (unhide TK).nodup
                  rw [List.nodup_append] at this
                  exact this.2.2 u hm u (List.mem_singleton_self u) rfl
                have S7 : Hid (OS w (w6.drewN nq) (w.heap.size + 1) w1.heap.size [.slice (some ⟨bs, os, none⟩) (k + 1) c1, .slice a2 es.length c2] (.slice (some ⟨g6, 0, none⟩) (ord.length + 1) cap6) (.slice (some ⟨g, 0, none⟩) r cap) (arrN k (midN es (ord ++ [u]) u 0)) (nats (ord ++ [u])) ys) := by
                  have h1 := (unhide S6).draws nq
                  rw [arrN_congr k (inN es ord) (midN es (ord ++ [u]) u 0) (fun x _ => (mid_start es ord u x hun).symm)] at h1
                  have e1 : nats (ord ++ [u]) = nats ord ++ [(u : Int)] := by simp [nats]
                  rw [e1]
                  exact h1
                have HA := hide hA
                have HYR : Hid (r = ys.length) := HLY
                clear hA hun
                go_wp2_with fail
                go_loopw [75] (fun i wr => ∃ (c g cap : Nat) (R : List Int), c ≤ d ∧ i = .int .i64 c ∧ Mid k es (ord ++ [u]) u c R ∧ HeapN R R.length ∧ OS w wr (w.heap.size + 1) w1.heap.size [.slice (some ⟨bs, os, none⟩) (k + 1) c1, .slice a2 es.length c2] (.slice (some ⟨g6, 0, none⟩) (ord.length + 1) cap6) (.slice (some ⟨g, 0, none⟩) R.length cap) (arrN k (midN es (ord ++ [u]) u c)) (nats (ord ++ [u])) R) (fun i _ => d - (intOf i).toNat)
                case atStart =>
                  refine ⟨0, g, cap, ys, Nat.zero_le _, rfl, unhide MD, ?_, ?_⟩
                  · rw [← unhide HYR]; exact unhide HN5
                  · rw [← unhide HYR]; exact unhide S7
                case round =>
                  obtain ⟨c, g8, cap8, R8, hc, rfl, hmd, hhp, hs⟩ := hrel
                  have MD8 := hide hmd
                  have HH8 := hide hhp
                  have S8 := hide hs
                  have hR8 := hmd.r.len
                  clear hmd hhp hs
                  by_cases hlt8 : c < d
                  · obtain ⟨bt, ot, hA1, hA2⟩ := unhide HA (by omega)
                    subst hA1 hA2
                    have hco : c < (outs es u).length := by rw [← unhide HD]; exact hlt8
                    obtain ⟨x, hx⟩ : ∃ x, x = (outs es u).getD c 0 := ⟨_, rfl⟩
                    have hxk : x < k := by
                      have h1 : x ∈ outs es u := by
                        have : (outs es u).getD c 0 = (outs es u)[c] := by simp [List.getD, hco]
                        rw [hx, this]
                        exact List.getElem_mem _
                      exact ((unhide HG) _ (outs_mem.1 h1)).2.1
                    obtain ⟨bt2, ot2, et2, hcT⟩ := ((unhide HT).old (unhide S8).bel).int (show lo + c < T.length by rw [unhide HTL]; omega)
                    cases et2
                    have hst8 := stretch es T (unhide HTA) u c hco
                    rw [← unhide HLO, ← hx] at hst8
                    rw [hst8, ← Nat.add_assoc] at hcT
                    have hms := mid_step es (ord ++ [u]) u c x hco
                    rw [← hx, if_pos rfl] at hms
                    have hcI := (unhide S8).i.cell (j := x) (by rw [arrN_len]; exact hxk)
                    rw [arrN_at _ _ _ hxk, hms] at hcI
                    have hfI := Blk.free (unhide S8).i x
                    have hml := mid_le es (ord ++ [u]) u (c + 1) x
                    obtain ⟨q, hq⟩ : ∃ q, q = midN es (ord ++ [u]) u (c + 1) x := ⟨_, rfl⟩
                    rw [← hq] at hcI hml hms
                    have HX := hide hx
                    have HQ := hide hq
                    have HMS := hide hms
                    have HCO := hide hco
                    clear hst8 hx hq hms hco
                    have hqc : ((q + 1 : Nat) : Int) - 1 = (q : Int) := by omega
                    have hset : Hid (OS w (wr.setCell ⟨w.heap.size + 1, x, none⟩ (.int .i64 q)) (w.heap.size + 1) w1.heap.size [.slice (some ⟨bs, os, none⟩) (k + 1) c1, .slice (some ⟨bt, ot, none⟩) es.length c2] (.slice (some ⟨g6, 0, none⟩) (ord.length + 1) cap6) (.slice (some ⟨g8, 0, none⟩) R8.length cap8) (arrN k (midN es (ord ++ [u]) u (c + 1))) (nats (ord ++ [u])) R8) := by
                      have h1 := (unhide S8).seti x (q : Int)
                      rw [arrN_set k _ (midN es (ord ++ [u]) u (c + 1)) x hxk (fun y hy => by
                        rw [mid_step es (ord ++ [u]) u c y (unhide HCO), ← unhide HX, if_neg (fun e => hy e.symm)]; rfl) _ (by rw [← unhide HQ])] at h1
                      exact h1
                    by_cases hq0 : q = 0
                    · subst hq0
                      go_wp2_with fail
                      refine (heapPush_any (w.heap.size + 1) w1.heap.size g8 R8.length cap8 R8 x _ ⟨(unhide hset).v, (unhide hset).r, rfl⟩ (by omega) (by have := (unhide hset).size; omega) (unhide HH8)).mono ?_
                      rintro e w9 ⟨rfl, g9, cap9, ys9, hh9, hn9, hp9, hc9, hat9⟩
                      have S9 := hide ((unhide hset).heap hh9 hc9 hat9)
                      have MD9 : Hid (Mid k es (ord ++ [u]) u (c + 1) ys9) := (unhide MD8).push (unhide HCO) (by rw [← unhide HX]; exact hxk) (by rw [← unhide HX, ← unhide HQ]) (by rw [← unhide HX]; exact hp9)
                      have HL9 := hide hh9.n
                      have HN9 := hide hn9
                      clear hh9 hn9 hp9 hc9 hat9
                      go_wp2_with fail
                      refine ⟨⟨c + 1, g9, cap9, ys9, by omega, by rw [Int.natCast_add]; rfl, unhide MD9, ?_, ?_⟩, by simp [intOf]; omega⟩
                      · rw [← unhide HL9]; exact unhide HN9
                      · rw [← unhide HL9]; exact unhide S9
                    · have hq1 : ((q : Int) == 0) = false := by simp; omega
                      go_wp2_with fail
                      exact ⟨⟨c + 1, g8, cap8, R8, by omega, by rw [Int.natCast_add]; rfl, (unhide MD8).skip (unhide HCO) (by rw [← unhide HX, ← unhide HQ]; exact hq0), unhide HH8, unhide hset⟩, by simp [intOf]; omega⟩
                  · obtain rfl : c = d := by omega
                    go_wp2_with fail
                    have hmd := unhide MD8
                    have hs8 := unhide S8
                    rw [unhide HD] at hmd hs8
                    refine ⟨⟨.slice (some ⟨g8, 0, none⟩) R8.length cap8, ord ++ [u], R8, Kn.close (unhide TK) hmd, unhide HH8, ?_⟩, by simp [lenOf]; omega⟩
                    rw [arrN_congr k (inN es (ord ++ [u])) (midN es (ord ++ [u]) u (outs es u).length) (fun x _ => (mid_end es (ord ++ [u]) u x).symm)]
                    exact hs8
end Go.Proofs.Qxb6614980a
