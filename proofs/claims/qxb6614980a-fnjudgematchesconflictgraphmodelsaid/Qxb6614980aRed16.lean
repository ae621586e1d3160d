/-
  'reduced' walked: it returns the reduced edges laid out by the vertex that each leaves.
-/
import Derived.Test.Qxb6614980aRedSt
import Derived.Deep.DeepCutAuto
import Derived.Test.Qxb6614980aCsr
import Derived.BigRegion
namespace Go.Proofs.Qxb6614980a
open Go.ChangeShapes Go.WideShapes Go.ChangeAt Go.RowKit

/-- It returns an adjacency: the edges es laid out by the vertex that each leaves. -/
def RetAdj (n : Nat) (es : List (Nat × Nat)) (w' : World) (e : Ending) : Prop := ∃ a1 c1 a2 c2 T, e = .returned (.agg #[.slice a1 (n + 1) c1, .slice a2 es.length c2]) ∧ Rd w' a1 (ints (arr3 n es 0)) ∧ T.length = es.length ∧ ToAt es T es.length ∧ Rd w' a2 (ints T) ∧ es.length ≤ c2

theorem blk_0 (w : World) (C : Array Value) (t : TypeId) (o1 o2 : Obj) : Blk (((w.alloc (.cells C t)).alloc o1).alloc o2).drew w.heap.size t C.toList := ((Blk.new' w t C).alloc o1).alloc o2
theorem blk_1 (w : World) (C : Array Value) (t : TypeId) (o0 o2 : Obj) : Blk (((w.alloc o0).alloc (.cells C t)).alloc o2).drew (w.heap.size + 1) t C.toList := by
  have := (Blk.new' (w.alloc o0) t C).alloc o2
  simp only [World.size_alloc] at this
  exact this
theorem blk_2 (w : World) (C : Array Value) (t : TypeId) (o0 o1 : Obj) : Blk (((w.alloc o0).alloc o1).alloc (.cells C t)).drew (w.heap.size + 1 + 1) t C.toList := by
  have := Blk.new' ((w.alloc o0).alloc o1) t C
  simp only [World.size_alloc] at this
  exact this
theorem iblk_0 (w : World) (n : Nat) (o1 o2 : Obj) : IBlk (((w.alloc (.cells (madeCells #[.int .i64 0] n) 3)).alloc o1).alloc o2).drew w.heap.size (List.replicate n 0) := by
  have := blk_0 w (madeCells #[.int .i64 0] n) 3 o1 o2
  rwa [made_ints] at this
theorem iblk_1 (w : World) (n : Nat) (o0 o2 : Obj) : IBlk (((w.alloc o0).alloc (.cells (madeCells #[.int .i64 0] n) 3)).alloc o2).drew (w.heap.size + 1) (List.replicate n 0) := by
  have := blk_1 w (madeCells #[.int .i64 0] n) 3 o0 o2
  rwa [made_ints] at this
theorem iblk_2 (w : World) (n : Nat) (o0 o1 : Obj) : IBlk (((w.alloc o0).alloc o1).alloc (.cells (madeCells #[.int .i64 0] n) 3)).drew (w.heap.size + 1 + 1) (List.replicate n 0) := by
  have := blk_2 w (madeCells #[.int .i64 0] n) 3 o0 o1
  rwa [made_ints] at this
theorem fsOf_at (es : List (Nat × Nat)) (k : Nat) : (fsOf es).getD k 0 = (((es.getD k (0, 0)).1 : Nat) : Int) := by
  simp only [fsOf, List.getD, List.getElem?_map]
  cases es[k]? <;> rfl
theorem tsOf_at (es : List (Nat × Nat)) (k : Nat) : (tsOf es).getD k 0 = (((es.getD k (0, 0)).2 : Nat) : Int) := by
  simp only [tsOf, List.getD, List.getElem?_map]
  cases es[k]? <;> rfl
theorem below_3 (w : World) (o0 o1 o2 : Obj) : Below w.heap.size w (((w.alloc o0).alloc o1).alloc o2).drew := ((((Below.refl _ _).alloc (Nat.le_refl _) o0).alloc (by simp) o1).alloc (by simp; omega) o2).drew

set_option maxRecDepth 100000 in
set_option maxHeartbeats 4000000 in
theorem red16_any (pg : Nat) (lk : Value) (txns : List Int) (items : List (List (Nat × Bool × Nat))) (writes : List (List Int)) (ofs : List (List (Nat × Nat))) (w : World) (h : GMem w pg lk txns items writes ofs)
    (hn : txns.length ≤ 4096) (hi : items.length ≤ 4096) (hr : ∀ j, j < items.length → (items.getD j []).length ≤ 4096) (hgood : ∀ row ∈ bares items, ∀ a ∈ row, a.1 < txns.length) :
    Calls Try.prog 16 #[.pointer (some ⟨pg, 0, none⟩)] w fun e w' => RetAdj txns.length (redAll (bares items)) w' e ∧ Below w.heap.size w w' := by
  obtain ⟨at1, ct1, hct, hRt⟩ := h.txns
  obtain ⟨ai, ci, hci, hRi⟩ := h.items
  have hpl : pg < w.heap.size := cell_lt hci
  have RT := hide hRt
  have RI := hide hRi
  have HR := hide hr
  have HG := hide hgood
  clear h hRt hRi hr hgood
  have HBR : Hid (∀ r ∈ bares items, r.length ≤ 4096) := by
    intro r hr
    simp only [bares, List.mem_map] at hr
    obtain ⟨x, hx, rfl⟩ := hr
    obtain ⟨j, hj, rfl⟩ := List.getElem_of_mem hx
    have := unhide HR j hj
    rw [bare_len]
    simpa [List.getD, hj] using this
  have hp1 : pg < w.heap.size + 1 := by omega
  have hp2 : pg < w.heap.size + 1 + 1 := by omega
  go_enter Try.func16, Try.ntmps16
  go_wp2
  go_loopw [5, 27] (fun vr i wr => ∃ (j : Nat) (rs : List Nat) (vf vt : Value), j ≤ items.length ∧ i = .int .i64 j ∧ RS w wr vf vt vr (redTo (bares items) j) rs) (fun _ i _ => items.length - (intOf i).toNat)
  case atStart => exact ⟨0, [], _, _, Nat.zero_le _, rfl, RS.start w⟩
  case round =>
    obtain ⟨j, rs, vf, vt, hj, rfl, hst⟩ := hrel
    have ST := hide hst
    clear hst
    by_cases hlt : j < items.length
    · obtain ⟨b, off, ar, cr, e1, hc1, hr1⟩ := ((unhide RI).old (unhide ST).bel) j hlt
      subst e1
      have hmr := unhide HR j hlt
      obtain ⟨row, hrow⟩ : ∃ row, row = items.getD j [] := ⟨_, rfl⟩
      obtain ⟨E, hE⟩ : ∃ E, E = redTo (bares items) j := ⟨_, rfl⟩
      rw [← hrow] at hc1 hr1 hmr
      have HROW := hide hrow
      have HE := hide hE
      have R0 : Hid (RdAcc w ar row) := by
        obtain ⟨b', off', ar', cr', e1', hc1', hr1'⟩ := (unhide RI) j hlt
        cases e1'
        have e3 := cell_old (unhide ST).bel hc1'
        rw [← hrow] at e3 hr1'
        rw [hc1] at e3
        cases e3
        exact hr1'
      clear hrow hr1 hE
      obtain ⟨avr, cvr, hvr⟩ := (unhide ST).r.form
      subst hvr
      have hlE : E.length ≤ 4096 * (4096 * 4097) := by
        have h1 := redTo_len 4096 (bares items) (unhide HBR) j (by rw [bares_len]; exact hj)
        rw [← unhide HE] at h1
        have h2 : j * (4096 * (4096 + 1)) ≤ 4096 * (4096 * 4097) := Nat.mul_le_mul_right _ (by omega)
        exact Nat.le_trans h1 h2
      rw [← unhide HE] at ST
      go_wp2
      go_loopw [5, 9, 35] (fun vr l i wr => ∃ (q : Nat) (vf vt : Value), q ≤ row.length ∧ i = .int .i64 q ∧ l = .int .i64 (lastV (rrow E (bare row) q).last) ∧ RS w wr vf vt vr (rrow E (bare row) q).es (rrow E (bare row) q).readers) (fun _ _ i _ => row.length - (intOf i).toNat)
      case atStart => exact ⟨0, vf, vt, Nat.zero_le _, rfl, rfl, (unhide ST).cut⟩
      case round =>
        obtain ⟨q, vf', vt', hq, rfl, rfl, hst⟩ := hrel
        obtain ⟨wq, hwq⟩ : ∃ x, x = wr := ⟨_, rfl⟩
        subst hwq
        have S2 := hide hst
        clear hst
        by_cases hlq : q < row.length
        · obtain ⟨b2, off2, e2, g0, g1, g2⟩ := ((unhide R0).old (unhide S2).bel) q hlq
          subst e2
          have hsucc := hide (rrow_succ E (bare row) q (by rw [bare_len]; exact hlq))
          obtain ⟨t, ht⟩ : ∃ t, t = (row.getD q (0, false, 0)).1 := ⟨_, rfl⟩
          obtain ⟨x, hx⟩ : ∃ x, x = (row.getD q (0, false, 0)).2.1 := ⟨_, rfl⟩
          obtain ⟨c, hc⟩ : ∃ c, c = (row.getD q (0, false, 0)).2.2 := ⟨_, rfl⟩
          have hat : Hid ((bare row).getD q (0, false) = (t, x)) := by
            show _ = _
            rw [bare_at, ← ht, ← hx]
          rw [← ht] at g0
          rw [← hx] at g1
          rw [← hc] at g2
          clear ht hx hc
          obtain ⟨s, hs⟩ : ∃ s, s = rrow E (bare row) q := ⟨_, rfl⟩
          rw [← hs] at S2 hsucc ⊢
          have HS := hide hs
          clear hs
          have hbl := (unhide S2).le
          obtain ⟨avr2, cvr2, hvr2⟩ := (unhide S2).r.form
          subst hvr2
          have hlr : s.readers.length ≤ 4096 := by
            have h1 := rrow_readers E (bare row) q (by rw [bare_len]; exact hq)
            rw [← unhide HS] at h1
            omega
          have hls : s.es.length ≤ 4096 * (4096 * 4097) + 4096 * 4097 := by
            have h1 := rrow_len 4096 E (bare row) (by rw [bare_len]; exact hmr) q (by rw [bare_len]; exact hq)
            rw [← unhide HS] at h1
            omega
          have HLR := hide hlr
          have HLS := hide hls
          clear hlr hls
          have SA0 := hide ((unhide S2).alloc (.cells #[.int .i64 t, .bool x, .int .i64 c] 58))
          have BA0 := hide (Blk.new wq 58 [.int .i64 t, .bool x, .int .i64 c])
          cases hl : s.last
          case none =>
            have SA : Hid (RS w (wq.alloc (.cells #[.int .i64 t, .bool x, .int .i64 c] 58)) vf' vt' (.slice avr2 (nats s.readers).length cvr2) (s.es ++ fromLast s.last t) s.readers) := by
              show RS w _ vf' vt' _ _ _
              rw [hl]
              simpa [fromLast] using unhide SA0
            have BA := BA0
            rw [lastV_none]
            cases x
            case false =>
              go_wp2_with (at_builtin; refine wpList_push 22 Try.underlying22 rfl (.tmp 49) (.tmp 52) rfl (w.heap.size + 3) (.slice avr2 (nats s.readers).length cvr2) (nats s.readers) rfl (unhide SA0).r t (wq.heap.size + 1) (by simp) rfl (by rw [nats_len]; have := unhide HLR; omega) (by have := (unhide SA0).le; simp at this ⊢; omega) ?_; intro g cap w1 ho1 hc1 hat1)
              have SB := hide ((unhide SA).push ho1 hc1 hat1)
              clear ho1 hc1 hat1
              go_roundw
              case rel =>
                refine ⟨q + 1, vf', vt', by omega, by go_num, ?_, ?_⟩
                · rw [unhide hsucc, unhide hat, rstep_read, hl]; rfl
                · rw [unhide hsucc, unhide hat, rstep_read]; exact unhide SB
              case measure => simp [intOf]; omega
            case true =>
              go_wp2_with fail
              go_loopw [56] (fun i w3 => ∃ (k : Nat) (vf vt : Value), k ≤ s.readers.length ∧ i = .int .i64 k ∧ RS w w3 vf vt (.slice avr2 (nats s.readers).length cvr2) (fromReaders (s.es ++ fromLast s.last t) s.readers t k) s.readers ∧ Blk w3 wq.heap.size 58 [.int .i64 t, .bool true, .int .i64 c]) (fun i _ => s.readers.length - (intOf i).toNat)
              case atStart => exact ⟨0, _, _, Nat.zero_le _, rfl, by rw [fromReaders_zero]; exact unhide SA, unhide BA⟩
              case round =>
                obtain ⟨k, vf3, vt3, hk, rfl, hS3, hB3⟩ := hrel
                have S3 := hide hS3
                have B3 := hide hB3
                clear hS3 hB3
                have cB0 : wr.cell? ⟨wq.heap.size, 0, none⟩ = some (.int .i64 t) := (unhide B3).cell 0
                have cB1 : wr.cell? ⟨wq.heap.size, 1, none⟩ = some (.bool true) := (unhide B3).cell 1
                have hnl : (nats s.readers).length = s.readers.length := nats_len _
                have hkb : k ≤ 4096 := by have := unhide HLR; omega
                by_cases hlk : k < s.readers.length
                · obtain ⟨b5, off5, e5, hc5⟩ := (unhide S3).r.rd.int (show k < (nats s.readers).length by rw [nats_len]; exact hlk)
                  subst e5
                  rw [nats_at _ _ hlk] at hc5
                  have hf3 := hide (fromReaders_succ (s.es ++ fromLast s.last t) s.readers t k hlk)
                  obtain ⟨r, hr⟩ : ∃ r, r = s.readers.getD k 0 := ⟨_, rfl⟩
                  rw [← hr] at hc5 hf3
                  clear hr
                  have hki : (k : Int) < ((nats s.readers).length : Int) := by omega
                  have HNL := hide hnl
                  clear hnl
                  go_wp2_with fail
                  refine (edge22_any _ _ _ _ (w.heap.size + 3) _ _ _ _ _ (unhide S3).e (by rw [fsOf_len]; have h1 := fromReaders_len (s.es ++ fromLast s.last t) s.readers t k; have h2 := fromLast_len s.last t; rw [List.length_append] at h1; have := unhide HLS; have := unhide HLR; omega) (by rw [tsOf_len]; have h1 := fromReaders_len (s.es ++ fromLast s.last t) s.readers t k; have h2 := fromLast_len s.last t; rw [List.length_append] at h1; have := unhide HLS; have := unhide HLR; omega) (unhide S3).le).mono ?_
                  rintro e w4 ⟨rfl, vf4, vt4, he4, hc4, hf4, ht4⟩
                  have S4 := hide ((unhide S3).edge he4 hc4 hf4 ht4)
                  have B4 := hide ((unhide B3).chg hc4 (fun hk => (unhide S3).notBox (unhide B3) (by decide) (by decide) hk))
                  clear he4 hc4 hf4 ht4
                  go_wp2
                  go_roundw
                  case rel => exact ⟨k + 1, _, _, by omega, by go_num, by rw [unhide hf3]; exact unhide S4, unhide B4⟩
                  case measure => simp [intOf]; omega
                · obtain rfl : k = s.readers.length := by omega
                  have hki : ¬ ((s.readers.length : Nat) : Int) < ((nats s.readers).length : Int) := by omega
                  have HNL := hide hnl
                  clear hnl
                  go_wp2
                  go_roundw
                  case rel =>
                    refine ⟨q + 1, vf3, vt3, by omega, by go_num, ?_, ?_⟩
                    · rw [unhide hsucc, unhide hat, rstep_write]; rfl
                    · rw [unhide hsucc, unhide hat, rstep_write]
                      have := (unhide S3).cut
                      rwa [fromReaders_all] at this
                  case measure => simp [intOf]; omega
          case some l =>
            rw [lastV_some]
            have hl0 : (0 : Int) ≤ (l : Int) := by omega
            cases x
            case false =>
              go_wp2_with fail
              refine (edge22_any _ _ _ _ (w.heap.size + 3) _ _ _ _ _ (unhide SA0).e (by rw [fsOf_len]; have := unhide HLS; omega) (by rw [tsOf_len]; have := unhide HLS; omega) (unhide SA0).le).mono ?_
              rintro e w2 ⟨rfl, vf2, vt2, he2, hc2, hf2, ht2⟩
              have SA1 := hide ((unhide SA0).edge he2 hc2 hf2 ht2)
              have BA := hide ((unhide BA0).chg hc2 (unhide S2).notS)
              have SA : Hid (RS w w2 vf2 vt2 (.slice avr2 (nats s.readers).length cvr2) (s.es ++ fromLast s.last t) s.readers) := by
                rw [hl]
                exact unhide SA1
              have hbl2 := (unhide SA1).le
              clear he2 hc2 hf2 ht2
              have cA0 : w2.cell? ⟨wq.heap.size, 0, none⟩ = some (.int .i64 t) := (unhide BA).cell 0
              have cA1 := (unhide BA).cell 1
              simp at cA1
              go_wp2_with (at_builtin; refine wpList_push 22 Try.underlying22 rfl (.tmp 49) (.tmp 52) rfl (w.heap.size + 3) (.slice avr2 (nats s.readers).length cvr2) (nats s.readers) rfl (unhide SA1).r t (w2.heap.size) rfl rfl (by rw [nats_len]; have := unhide HLR; omega) (by have := (unhide SA1).le; simp at this ⊢; omega) ?_; intro g cap w1 ho1 hc1 hat1)
              have SB := hide ((unhide SA).push ho1 hc1 hat1)
              clear ho1 hc1 hat1
              go_roundw
              case rel =>
                refine ⟨q + 1, vf2, vt2, by omega, by go_num, ?_, ?_⟩
                · rw [unhide hsucc, unhide hat, rstep_read, hl]; rfl
                · rw [unhide hsucc, unhide hat, rstep_read]; exact unhide SB
              case measure => simp [intOf]; omega
            case true =>
              go_wp2_with fail
              refine (edge22_any _ _ _ _ (w.heap.size + 3) _ _ _ _ _ (unhide SA0).e (by rw [fsOf_len]; have := unhide HLS; omega) (by rw [tsOf_len]; have := unhide HLS; omega) (unhide SA0).le).mono ?_
              rintro e w2 ⟨rfl, vf2, vt2, he2, hc2, hf2, ht2⟩
              have SA1 := hide ((unhide SA0).edge he2 hc2 hf2 ht2)
              have BA := hide ((unhide BA0).chg hc2 (unhide S2).notS)
              have SA : Hid (RS w w2 vf2 vt2 (.slice avr2 (nats s.readers).length cvr2) (s.es ++ fromLast s.last t) s.readers) := by
                rw [hl]
                exact unhide SA1
              have hbl2 := (unhide SA1).le
              clear he2 hc2 hf2 ht2
              have cA0 : w2.cell? ⟨wq.heap.size, 0, none⟩ = some (.int .i64 t) := (unhide BA).cell 0
              have cA1 := (unhide BA).cell 1
              simp at cA1
              go_wp2_with fail
              go_loopw [56] (fun i w3 => ∃ (k : Nat) (vf vt : Value), k ≤ s.readers.length ∧ i = .int .i64 k ∧ RS w w3 vf vt (.slice avr2 (nats s.readers).length cvr2) (fromReaders (s.es ++ fromLast s.last t) s.readers t k) s.readers ∧ Blk w3 wq.heap.size 58 [.int .i64 t, .bool true, .int .i64 c]) (fun i _ => s.readers.length - (intOf i).toNat)
              case atStart => exact ⟨0, _, _, Nat.zero_le _, rfl, by rw [fromReaders_zero]; exact unhide SA, unhide BA⟩
              case round =>
                obtain ⟨k, vf3, vt3, hk, rfl, hS3, hB3⟩ := hrel
                have S3 := hide hS3
                have B3 := hide hB3
                clear hS3 hB3
                have cB0 : wr.cell? ⟨wq.heap.size, 0, none⟩ = some (.int .i64 t) := (unhide B3).cell 0
                have cB1 : wr.cell? ⟨wq.heap.size, 1, none⟩ = some (.bool true) := (unhide B3).cell 1
                have hnl : (nats s.readers).length = s.readers.length := nats_len _
                have hkb : k ≤ 4096 := by have := unhide HLR; omega
                by_cases hlk : k < s.readers.length
                · obtain ⟨b5, off5, e5, hc5⟩ := (unhide S3).r.rd.int (show k < (nats s.readers).length by rw [nats_len]; exact hlk)
                  subst e5
                  rw [nats_at _ _ hlk] at hc5
                  have hf3 := hide (fromReaders_succ (s.es ++ fromLast s.last t) s.readers t k hlk)
                  obtain ⟨r, hr⟩ : ∃ r, r = s.readers.getD k 0 := ⟨_, rfl⟩
                  rw [← hr] at hc5 hf3
                  clear hr
                  have hki : (k : Int) < ((nats s.readers).length : Int) := by omega
                  have HNL := hide hnl
                  clear hnl
                  go_wp2_with fail
                  refine (edge22_any _ _ _ _ (w.heap.size + 3) _ _ _ _ _ (unhide S3).e (by rw [fsOf_len]; have h1 := fromReaders_len (s.es ++ fromLast s.last t) s.readers t k; have h2 := fromLast_len s.last t; rw [List.length_append] at h1; have := unhide HLS; have := unhide HLR; omega) (by rw [tsOf_len]; have h1 := fromReaders_len (s.es ++ fromLast s.last t) s.readers t k; have h2 := fromLast_len s.last t; rw [List.length_append] at h1; have := unhide HLS; have := unhide HLR; omega) (unhide S3).le).mono ?_
                  rintro e w4 ⟨rfl, vf4, vt4, he4, hc4, hf4, ht4⟩
                  have S4 := hide ((unhide S3).edge he4 hc4 hf4 ht4)
                  have B4 := hide ((unhide B3).chg hc4 (fun hk => (unhide S3).notBox (unhide B3) (by decide) (by decide) hk))
                  clear he4 hc4 hf4 ht4
                  go_wp2
                  go_roundw
                  case rel => exact ⟨k + 1, _, _, by omega, by go_num, by rw [unhide hf3]; exact unhide S4, unhide B4⟩
                  case measure => simp [intOf]; omega
                · obtain rfl : k = s.readers.length := by omega
                  have hki : ¬ ((s.readers.length : Nat) : Int) < ((nats s.readers).length : Int) := by omega
                  have HNL := hide hnl
                  clear hnl
                  go_wp2
                  go_roundw
                  case rel =>
                    refine ⟨q + 1, vf3, vt3, by omega, by go_num, ?_, ?_⟩
                    · rw [unhide hsucc, unhide hat, rstep_write]; rfl
                    · rw [unhide hsucc, unhide hat, rstep_write]
                      have := (unhide S3).cut
                      rwa [fromReaders_all] at this
                  case measure => simp [intOf]; omega
        · obtain rfl : q = row.length := by omega
          go_wp2
          go_roundw
          case rel =>
            refine ⟨j + 1, (rrow E (bare row) row.length).readers, vf', vt', by omega, by go_num, ?_⟩
            have e5 : redTo (bares items) (j + 1) = (rrow E (bare row) row.length).es := by
              rw [redTo_succ _ _ (by rw [bares_len]; exact hlt), bares_at, ← unhide HE, ← unhide HROW, bare_len]
            rw [e5]
            exact unhide S2
          case measure => simp [intOf]; omega
    · obtain rfl : j = items.length := by omega
      obtain ⟨wo, hwo⟩ : ∃ x, x = wr := ⟨_, rfl⟩
      subst hwo
      have hct2 := cell_old (unhide ST).bel hct
      have hpl2 := cell_lt hct2
      obtain ⟨M, hM⟩ : ∃ M, M = redTo (bares items) items.length := ⟨_, rfl⟩
      rw [← hM] at ST
      have HM := hide hM
      clear hM
      obtain ⟨avf, cvf, hvf⟩ := (unhide ST).e.fo.form
      obtain ⟨avt, cvt, hvt⟩ := (unhide ST).e.to.form
      subst hvf hvt
      have cf := one_cell (unhide ST).e.f
      have ct := one_cell (unhide ST).e.t
      rw [fsOf_len] at cf
      rw [tsOf_len] at ct
      have hq0 := (unhide ST).le
      have hq1 : w.heap.size + 1 + 1 < wo.heap.size := by omega
      have hq2 : w.heap.size + 1 + 1 < wo.heap.size + 1 := by omega
      have hq3 : w.heap.size + 1 + 1 < wo.heap.size + 1 + 1 := by omega
      have hq4 : pg < wo.heap.size := hpl2
      have hq5 : pg < wo.heap.size + 1 := by omega
      have hq6 : pg < wo.heap.size + 1 + 1 := by omega
      have hMl : M.length ≤ 4096 * (4096 * 4097) := by
        have h1 := redTo_len 4096 (bares items) (unhide HBR) items.length (by rw [bares_len]; exact Nat.le_refl _)
        rw [← unhide HM] at h1
        exact Nat.le_trans h1 (Nat.mul_le_mul_right _ hi)
      have GE : Hid (GoodE txns.length M) := by
        rw [unhide HM]
        have := red_good txns.length (bares items) (unhide HG) items.length (by rw [bares_len]; exact Nat.le_refl _)
        exact this
      have hm1 := run_make_row' (P := Try.prog) 22 3 (.int .i64 0) 8 Try.underlying22 info3 rfl .i64 .i64 (txns.length + 1) (by omega) (by omega)
      have ec : ((txns.length + 1 : Nat) : Int) = (txns.length : Int) + 1 := by omega
      rw [ec] at hm1
      clear ec
      have hm2 := run_make_row' (P := Try.prog) 22 3 (.int .i64 0) 8 Try.underlying22 info3 rfl .i64 .i64 M.length (by omega) (by omega)
      go_wp2_with fail
      go_cut [14] (fun p wc => ∃ ga gb gc, p = .pointer (some ⟨gc, 0, none⟩) ∧ Blk wc gc 49 [.slice (some ⟨ga, 0, none⟩) (txns.length + 1) (txns.length + 1), .slice (some ⟨gb, 0, none⟩) M.length M.length] ∧ IBlk wc ga (List.replicate (txns.length + 1) 0) ∧ IBlk wc gb (List.replicate M.length 0) ∧ ga ≠ gb ∧ wo.heap.size ≤ ga ∧ wo.heap.size ≤ gb ∧ wo.heap.size ≤ gc ∧ Below wo.heap.size wo wc)
      case first =>
        go_region
        · go_wp2
          go_meet
          case rel => exact ⟨wo.heap.size, wo.heap.size + 1, wo.heap.size + 1 + 1, rfl, blk_2 _ _ _ _ _, iblk_0 _ _ _ _, iblk_1 _ _ _ _, by omega, by omega, by omega, by omega, below_3 _ _ _ _⟩
        · go_wp2
          go_meet
          case rel => exact ⟨wo.heap.size, wo.heap.size + 1 + 1, wo.heap.size + 1, rfl, blk_1 _ _ _ _ _, iblk_0 _ _ _ _, iblk_2 _ _ _ _, by omega, by omega, by omega, by omega, below_3 _ _ _ _⟩
        · go_wp2
          go_meet
          case rel => exact ⟨wo.heap.size + 1, wo.heap.size, wo.heap.size + 1 + 1, rfl, blk_2 _ _ _ _ _, iblk_1 _ _ _ _, iblk_0 _ _ _ _, by omega, by omega, by omega, by omega, below_3 _ _ _ _⟩
        · go_wp2
          go_meet
          case rel => exact ⟨wo.heap.size + 1 + 1, wo.heap.size, wo.heap.size + 1, rfl, blk_1 _ _ _ _ _, iblk_2 _ _ _ _, iblk_0 _ _ _ _, by omega, by omega, by omega, by omega, below_3 _ _ _ _⟩
        · go_wp2
          go_meet
          case rel => exact ⟨wo.heap.size + 1, wo.heap.size + 1 + 1, wo.heap.size, rfl, blk_0 _ _ _ _ _, iblk_1 _ _ _ _, iblk_2 _ _ _ _, by omega, by omega, by omega, by omega, below_3 _ _ _ _⟩
        · go_wp2
          go_meet
          case rel => exact ⟨wo.heap.size + 1 + 1, wo.heap.size + 1, wo.heap.size, rfl, blk_0 _ _ _ _ _, iblk_2 _ _ _ _, iblk_1 _ _ _ _, by omega, by omega, by omega, by omega, below_3 _ _ _ _⟩
      case rest =>
        obtain ⟨ga, gb, gc, rfl, hC, hA, hT, hne, l1, l2, l3, hBc⟩ := hcut
        have S5 := hide ((unhide ST).chg (Chg.ofBelow hBc) (fun k hk e => by omega))
        have HC := hide hC
        have HA := hide hA
        have HT := hide hT
        clear hC hA hT
        have cfc := one_cell (unhide S5).e.f
        rw [fsOf_len] at cfc
        have hz5 := (unhide S5).le
        have hct5 := cell_old hBc hct2
        obtain ⟨wc0, hwc⟩ : ∃ x, x = wc := ⟨_, rfl⟩
        subst hwc
        go_wp2_with fail
        go_loopw [85] (fun i wr => ∃ k : Nat, k ≤ M.length ∧ i = .int .i64 k ∧ IBlk wr ga (arr1 txns.length M k) ∧ Chg (fun g => g = ga) wc0 wr) (fun i _ => M.length - (intOf i).toNat)
        case atStart => exact ⟨0, Nat.zero_le _, rfl, by rw [arr1_zero]; exact unhide HA, Chg.refl _ _⟩
        case round =>
          obtain ⟨k, hk, rfl, hI, hcg⟩ := hrel
          have HI := hide hI
          clear hI
          by_cases hlk : k < M.length
          · obtain ⟨u, hu⟩ : ∃ u, u = (M.getD k (0, 0)).1 := ⟨_, rfl⟩
            have hmem : M.getD k (0, 0) ∈ M := by
              have : M.getD k (0, 0) = M[k] := by simp [List.getD, hlk]
              rw [this]
              exact List.getElem_mem _
            have hun : u < txns.length := by
              rw [hu]
              exact (unhide GE _ hmem).1
            clear hmem
            have HU := hide hu
            clear hu
            obtain ⟨b5, off5, e5, hc5⟩ := ((unhide S5).e.fo.chg hcg (fun g hg e => by have := ((unhide ST).e.fo.lt hg).2; omega)).rd.int (show k < (fsOf M).length by rw [fsOf_len]; exact hlk)
            subst e5
            have hfs : (fsOf M).getD k 0 = (u : Int) := by
              rw [unhide HU, fsOf_at M k]
            rw [hfs] at hc5
            clear hfs
            have hcC : wr.cell? ⟨gc, 0, none⟩ = some (.slice (some ⟨ga, 0, none⟩) (txns.length + 1) (txns.length + 1)) := ((unhide HC).chg hcg (fun e => (unhide HC).ne (unhide HA) (by decide) e)).cell 0
            have hcA := (unhide HI).cell (j := u + 1) (by rw [arr1_len]; omega)
            rw [arr1_at _ _ _ _ hun] at hcA
            have hfA := Blk.free (unhide HI) (u + 1)
            have hcb := cnt_le M u k
            obtain ⟨cc, hcc⟩ : ∃ cc, cc = cnt M u k := ⟨_, rfl⟩
            rw [← hcc] at hcA hcb
            have HCC := hide hcc
            clear hcc
            go_wp2_with fail
            refine ⟨⟨k + 1, by omega, by rw [Int.natCast_add]; rfl, ?_, hcg.trans (Chg.setCell wr ⟨ga, u + 1, none⟩ _ rfl)⟩, by simp [intOf]; omega⟩
            have hn := (unhide HI).set (u + 1) ((cc : Int) + 1)
            rw [unhide HCC, unhide HU] at hn
            rw [unhide HU] at hun
            rw [arr1_succ _ _ _ hlk hun, ← unhide HU, ← unhide HCC] at hn
            exact hn
          · obtain rfl : k = M.length := by omega
            have hpa : pg ≠ ga := by omega
            have hct6 : wr.cell? ⟨pg, 1, none⟩ = some (.slice at1 txns.length ct1) := by
              rw [hcg.cell (cell_lt hct5) hpa]
              exact hct5
            have HIn : Hid (IBlk wr ga (arr2 txns.length M 0)) := by
              rw [arr2_zero]
              exact HI
            clear hk
            go_wp2_with fail
            obtain ⟨w5, hw5⟩ : ∃ x, x = wr := ⟨_, rfl⟩
            subst hw5
            go_loopw [103] (fun i wr => ∃ k : Nat, k ≤ txns.length ∧ i = .int .i64 k ∧ IBlk wr ga (arr2 txns.length M k) ∧ Chg (fun g => g = ga) wc0 wr) (fun i _ => txns.length - (intOf i).toNat)
            case atStart => exact ⟨0, Nat.zero_le _, rfl, unhide HIn, hcg⟩
            case round =>
              obtain ⟨k, hk, rfl, hI, hcg5⟩ := hrel
              have HI5 := hide hI
              clear hI
              by_cases hlk5 : k < txns.length
              · have hcC : wr.cell? ⟨gc, 0, none⟩ = some (.slice (some ⟨ga, 0, none⟩) (txns.length + 1) (txns.length + 1)) := ((unhide HC).chg hcg5 (fun e => (unhide HC).ne (unhide HA) (by decide) e)).cell 0
                have hcA := (unhide HI5).cell (j := k + 1) (by rw [arr2_len]; omega)
                rw [arr2_next _ _ _ hlk5] at hcA
                have hcB := (unhide HI5).cell (j := k) (by rw [arr2_len]; omega)
                rw [arr2_at _ _ _ (by omega)] at hcB
                have hfA := Blk.free (unhide HI5) (k + 1)
                have hcb := cnt_le M k M.length
                have hob := off_le M k
                obtain ⟨cc, hcc⟩ : ∃ cc, cc = cnt M k M.length := ⟨_, rfl⟩
                rw [← hcc] at hcA hcb
                have HCC := hide hcc
                clear hcc
                obtain ⟨oo, hoo⟩ : ∃ oo, oo = off M k := ⟨_, rfl⟩
                rw [← hoo] at hcB hob
                have HOO := hide hoo
                clear hoo
                go_wp2_with fail
                go_region
                go_wp2_with fail
                refine ⟨⟨k + 1, by omega, by rw [Int.natCast_add]; rfl, ?_, hcg5.trans ((Chg.draws _ wr 1).trans (Chg.setCell wr.drew ⟨ga, k + 1, none⟩ _ rfl))⟩, by simp [intOf]; omega⟩
                have hn := (unhide HI5).set (k + 1) ((cc : Int) + (oo : Int))
                rw [unhide HCC, unhide HOO, arr2_succ _ _ _ hlk5, ← unhide HCC, ← unhide HOO] at hn
                exact hn
              · obtain rfl : k = txns.length := by omega
                have hcC : wr.cell? ⟨gc, 0, none⟩ = some (.slice (some ⟨ga, 0, none⟩) (txns.length + 1) (txns.length + 1)) := ((unhide HC).chg hcg5 (fun e => (unhide HC).ne (unhide HA) (by decide) e)).cell 0
                have HI6 : Hid (IBlk wr ga (arr3 txns.length M 0)) := by
                  rw [arr3_zero]
                  exact HI5
                obtain ⟨gn, hgn⟩ : ∃ g, g = wr.heap.size := ⟨_, rfl⟩
                have hgl : wo.heap.size ≤ gn := by
                  have h1 := hBc.size
                  have h2 := hcg5.size
                  omega
                have hgb : gb ≠ gn := by
                  have h1 := (unhide HT).lt
                  have h2 := hcg5.size
                  omega
                have hga : ga ≠ gn := by
                  have h1 := (unhide HA).lt
                  have h2 := hcg5.size
                  omega
                have hgc : gc ≠ gn := by
                  have h1 := (unhide HC).lt
                  have h2 := hcg5.size
                  omega
                have HGN := hide hgn
                clear hgn
                have hbn : gn ≠ gb := fun e => hgb e.symm
                have bw5 : Below wo.heap.size wo wr := hBc.trans (hcg5.below hBc.size (fun k e => by rw [e]; exact l1))
                have HT5 : Hid (IBlk wr gb (List.replicate M.length 0)) := Blk.chg (unhide HT) hcg5 (fun e => hne e.symm)
                have HC5 : Hid (Blk wr gc 49 [.slice (some ⟨ga, 0, none⟩) (txns.length + 1) (txns.length + 1), .slice (some ⟨gb, 0, none⟩) M.length M.length]) := (unhide HC).chg hcg5 (fun e => (unhide HC).ne (unhide HA) (by decide) e)
                go_wp2_with (at_builtin; refine wpList_clone rfl (.const (.slice none 0 0)) (.tmp 121) rfl rfl ga (txns.length + 1) (txns.length + 1) (arr3 txns.length M 0) rfl (by rw [arr3_len]) (IBlk.rd (unhide HI6)) (by omega) (by omega) gn (unhide HGN) ?_; intro cap w6 hO6 hC6; have bw6 : Below wo.heap.size wo w6 := bw5.trans (hC6.below bw5.size (fun _ e => e.elim)); have S6 := hide ((unhide ST).chg (Chg.ofBelow bw6) (fun k hk e => by omega)); have cf6 := one_cell (unhide S6).e.f; rw [fsOf_len] at cf6)
                have HA6 : Hid (IBlk w6 ga (arr3 txns.length M 0)) := Blk.chg (unhide HI6) hC6 (fun e => e)
                have HT6 : Hid (IBlk w6 gb (List.replicate M.length 0)) := Blk.chg (unhide HT5) hC6 (fun e => e)
                have HC6 : Hid (Blk w6 gc 49 [.slice (some ⟨ga, 0, none⟩) (txns.length + 1) (txns.length + 1), .slice (some ⟨gb, 0, none⟩) M.length M.length]) := Blk.chg (unhide HC5) hC6 (fun e => e)
                go_loopw [125] (fun i wr => ∃ (k : Nat) (T : List Int), k ≤ M.length ∧ i = .int .i64 k ∧ T.length = M.length ∧ ToAt M T k ∧ IBlk wr gb T ∧ OwnI wr gn (.slice (some ⟨gn, 0, none⟩) (txns.length + 1) cap) (arr3 txns.length M k) ∧ Chg (fun g => g = gb ∨ g = gn) w6 wr) (fun i _ => M.length - (intOf i).toNat)
                case atStart => exact ⟨0, _, Nat.zero_le _, rfl, List.length_replicate, (fun k hk => by omega), unhide HT6, hO6, Chg.refl _ _⟩
                case round =>
                  obtain ⟨k, T, hk, rfl, hTl, hTA, hIT, hON, hcg7⟩ := hrel
                  have HIT := hide hIT
                  have HON := hide hON
                  have HTA := hide hTA
                  clear hIT hON hTA
                  have bw7 : Below wo.heap.size wo wr := bw6.trans (hcg7.below bw6.size (fun k e => by rcases e with e | e <;> omega))
                  have S7 := hide ((unhide ST).chg (Chg.ofBelow bw7) (fun k hk e => by omega))
                  have HC7 : Hid (Blk wr gc 49 [.slice (some ⟨ga, 0, none⟩) (txns.length + 1) (txns.length + 1), .slice (some ⟨gb, 0, none⟩) M.length M.length]) := Blk.chg (unhide HC6) hcg7 (fun e => by rcases e with e | e; exact (unhide HC6).ne (unhide HT6) (by decide) e; exact hgc e)
                  by_cases hlk7 : k < M.length
                  · obtain ⟨u, hu⟩ : ∃ u, u = (M.getD k (0, 0)).1 := ⟨_, rfl⟩
                    obtain ⟨x, hx⟩ : ∃ x, x = (M.getD k (0, 0)).2 := ⟨_, rfl⟩
                    have hmem : M.getD k (0, 0) ∈ M := by
                      have : M.getD k (0, 0) = M[k] := by simp [List.getD, hlk7]
                      rw [this]
                      exact List.getElem_mem _
                    have hun : u < txns.length := by
                      rw [hu]
                      exact (unhide GE _ hmem).1
                    clear hmem
                    obtain ⟨b5, off5, e5, hc5⟩ := (unhide S7).e.fo.rd.int (show k < (fsOf M).length by rw [fsOf_len]; exact hlk7)
                    obtain ⟨b6, off6, e6, hc6⟩ := (unhide S7).e.to.rd.int (show k < (tsOf M).length by rw [tsOf_len]; exact hlk7)
                    have ct7 := one_cell (unhide S7).e.t
                    rw [tsOf_len] at ct7
                    rw [fsOf_at, ← hu] at hc5
                    rw [tsOf_at, ← hx] at hc6
                    have hpl := pos_len M k hlk7
                    have hpe : pos M k = off M u + cnt M u k := by rw [hu]; rfl
                    have hnx := (unhide HON).cell (j := u) (by rw [arr3_len]; omega)
                    rw [arr3_at _ _ _ _ hun, ← hpe] at hnx
                    have hfn := (unhide HON).free u
                    obtain ⟨p, hp⟩ : ∃ p, p = pos M k := ⟨_, rfl⟩
                    rw [← hp] at hpl hnx hpe
                    have HP := hide hp
                    have HPE := hide hpe
                    have HU := hide hu
                    have HX := hide hx
                    clear hp hpe hu hx
                    have hfT := Blk.free (unhide HIT) p
                    have hcT := (unhide HIT).cell (j := p) (by rw [hTl]; exact hpl)
                    generalize T.getD p 0 = tv at hcT
                    have hcC1 : wr.cell? ⟨gc, 1, none⟩ = some (.slice (some ⟨gb, 0, none⟩) M.length M.length) := (unhide HC7).cell 1
                    subst e5 e6
                    go_wp2_with fail
                    go_region
                    go_wp2_with fail
                    refine ⟨⟨k + 1, T.set p (x : Int), by omega, by rw [Int.natCast_add]; rfl, by rw [List.length_set]; exact hTl, ?_, ?_, ?_, hcg7.trans (((Chg.draws _ wr 1).trans (Chg.setCell wr.drew ⟨gb, p, none⟩ _ (.inl rfl))).trans (Chg.setCell _ ⟨gn, u, none⟩ _ (.inr rfl)))⟩, by simp [intOf]; omega⟩
                    · rw [unhide HP, unhide HX]
                      exact toAt_succ M T k hTl hlk7 (unhide HTA)
                    · exact Blk.other ((unhide HIT).set p (x : Int)) hgb _
                    · have hn := ((unhide HON).chg ((Chg.draws (fun g => g = gb) wr 1).trans (Chg.setCell wr.drew ⟨gb, p, none⟩ (.int .i64 x) rfl)) (fun g hg e => by cases hg; exact hbn e)).set u ((p : Int) + 1)
                      have hun' := hun
                      rw [unhide HU] at hun'
                      have h3 := arr3_succ txns.length M k hlk7 hun'
                      rw [← unhide HU, ← unhide HPE] at h3
                      rw [h3] at hn
                      exact hn
                  · obtain rfl : k = M.length := by omega
                    have hcC0 : wr.cell? ⟨gc, 0, none⟩ = some (.slice (some ⟨ga, 0, none⟩) (txns.length + 1) (txns.length + 1)) := (unhide HC7).cell 0
                    have hcC1 : wr.cell? ⟨gc, 1, none⟩ = some (.slice (some ⟨gb, 0, none⟩) M.length M.length) := (unhide HC7).cell 1
                    have hr0 := (unhide S7).res.cell 0
                    have hr1 := (unhide S7).res.cell 1
                    have hfr0 := (unhide S7).res.free 0
                    have hfr1 := (unhide S7).res.free 1
                    go_wp2_with fail
                    obtain ⟨W, hW⟩ : ∃ W, W = (wr.setCell ⟨w.heap.size, 0, none⟩ (.slice (some ⟨ga, 0, none⟩) (txns.length + 1) (txns.length + 1))).setCell ⟨w.heap.size, 1, none⟩ (.slice (some ⟨gb, 0, none⟩) M.length M.length) := ⟨_, rfl⟩
                    rw [← hW]
                    have hB := ((unhide S7).res.set 0 (.slice (some ⟨ga, 0, none⟩) (txns.length + 1) (txns.length + 1))).set 1 (.slice (some ⟨gb, 0, none⟩) M.length M.length)
                    rw [← hW] at hB
                    have r0 : W.cell? ⟨w.heap.size, 0, none⟩ = some (.slice (some ⟨ga, 0, none⟩) (txns.length + 1) (txns.length + 1)) := hB.cell 0
                    have r1 : W.cell? ⟨w.heap.size, 1, none⟩ = some (.slice (some ⟨gb, 0, none⟩) M.length M.length) := hB.cell 1
                    refine bodyPost_ret (v := .agg #[.slice (some ⟨ga, 0, none⟩) (txns.length + 1) (txns.length + 1), .slice (some ⟨gb, 0, none⟩) M.length M.length]) (by simp [results, Try.results16, go_sem, r0, r1]) rfl ?_
                    have hAw : IBlk wr ga (arr3 txns.length M 0) := Blk.chg (unhide HA6) hcg7 (fun e => by rcases e with e | e; exact hne e; exact hga e)
                    have hMe : M = redAll (bares items) := by
                      rw [unhide HM, redAll, bares_len]
                    refine ⟨⟨_, _, _, _, T, by rw [← hMe], ?_, by rw [← hMe]; exact hTl, by rw [← hMe]; exact unhide HTA, ?_, by rw [← hMe]; exact Nat.le_refl _⟩, ?_⟩
                    · rw [← hMe, hW]
                      exact IBlk.rd (Blk.other (Blk.other hAw (by show ga ≠ w.heap.size; omega) _) (by show ga ≠ w.heap.size; omega) _)
                    · rw [hW]
                      exact IBlk.rd (Blk.other (Blk.other (unhide HIT) (by show gb ≠ w.heap.size; omega) _) (by show gb ≠ w.heap.size; omega) _)
                    · rw [hW]
                      exact (unhide S7).bel.trans (((Chg.setCell (S := fun k => k = w.heap.size) wr ⟨w.heap.size, 0, none⟩ _ rfl).trans (Chg.setCell _ ⟨w.heap.size, 1, none⟩ _ rfl)).below (unhide S7).bel.size (fun k e => by omega))
end Go.Proofs.Qxb6614980a
