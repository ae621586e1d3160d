/-
  zzpb1Conflicts walked.
-/
import Derived.Test.Qxb6614980aTab
namespace Go.Proofs.Qxb6614980a
open Go.ChangeShapes Go.WideShapes Go.ChangeAt Go.RowKit

theorem info4' : (Try.prog.info? 4).map (fun i => (i.zero, i.size, i.bytes)) = some (some (.bool false), 1, 1) := by kernel_rfl
theorem made_bools' (n : Nat) : (madeCells #[Value.bool false] n).toList = bools (List.replicate n false) := by
  apply List.ext_getElem
  · simp [madeCells, bools]
  · intro i h1 h2
    simp [madeCells, bools, Nat.mod_one]
theorem bools_set' (xs : List Bool) (j : Nat) (x : Bool) : (bools xs).set j (.bool x) = bools (xs.set j x) := by simp [bools, List.map_set]
theorem blk_rd {w : World} {g : Nat} {t : TypeId} {cs : List Value} (h : Blk w g t cs) : Rd w (some ⟨g, 0, none⟩) cs := fun j _ => ⟨g, 0, rfl, by rw [Nat.zero_add, h.cell]⟩
theorem blk_bool {w : World} {g : Nat} {l : List Bool} (h : Blk w g 4 (bools l)) {j : Nat} (hj : j < l.length) : w.cell? ⟨g, j, none⟩ = some (.bool (l.getD j false)) := by rw [h.cell, bools_at _ _ hj]

structure C10 (w0 w : World) (tab wt rd : List Bool) : Prop where
  bel : Below w0.heap.size w0 w
  be : Blk w w0.heap.size 4 (bools tab)
  bw : Blk w (w0.heap.size + 1) 4 (bools wt)
  br : Blk w (w0.heap.size + 2) 4 (bools rd)
theorem C10.setE {w0 w : World} {tab wt rd : List Bool} (h : C10 w0 w tab wt rd) (j : Nat) (b : Bool) : C10 w0 (w.setCell ⟨w0.heap.size, j, none⟩ (.bool b)) (tab.set j b) wt rd := by
  have hc : Chg (fun k => k = w0.heap.size) w (w.setCell ⟨w0.heap.size, j, none⟩ (.bool b)) := Chg.setCell w ⟨w0.heap.size, j, none⟩ _ rfl
  exact ⟨h.bel.trans (hc.below h.bel.size (fun k e => by omega)), by rw [← bools_set']; exact h.be.set j _, h.bw.chg hc (by omega), h.br.chg hc (by omega)⟩
theorem C10.setW {w0 w : World} {tab wt rd : List Bool} (h : C10 w0 w tab wt rd) (j : Nat) (b : Bool) : C10 w0 (w.setCell ⟨w0.heap.size + 1, j, none⟩ (.bool b)) tab (wt.set j b) rd := by
  have hc : Chg (fun k => k = w0.heap.size + 1) w (w.setCell ⟨w0.heap.size + 1, j, none⟩ (.bool b)) := Chg.setCell w ⟨w0.heap.size + 1, j, none⟩ _ rfl
  exact ⟨h.bel.trans (hc.below h.bel.size (fun k e => by omega)), h.be.chg hc (by omega), by rw [← bools_set']; exact h.bw.set j _, h.br.chg hc (by omega)⟩
theorem C10.setR {w0 w : World} {tab wt rd : List Bool} (h : C10 w0 w tab wt rd) (j : Nat) (b : Bool) : C10 w0 (w.setCell ⟨w0.heap.size + 2, j, none⟩ (.bool b)) tab wt (rd.set j b) := by
  have hc : Chg (fun k => k = w0.heap.size + 2) w (w.setCell ⟨w0.heap.size + 2, j, none⟩ (.bool b)) := Chg.setCell w ⟨w0.heap.size + 2, j, none⟩ _ rfl
  exact ⟨h.bel.trans (hc.below h.bel.size (fun k e => by omega)), h.be.chg hc (by omega), h.bw.chg hc (by omega), by rw [← bools_set']; exact h.br.set j _⟩
/-- The first q are false. -/
def ClrTo (n : Nat) (l : List Bool) (q : Nat) : Prop := l.length = n ∧ ∀ u, u < q → l.getD u false = false
theorem ClrTo.succ {n : Nat} {l : List Bool} {q : Nat} (h : ClrTo n l q) : ClrTo n (l.set q false) (q + 1) := by
  refine ⟨by rw [List.length_set]; exact h.1, fun u hu => ?_⟩
  by_cases e : u = q
  · subst e
    simp only [List.getD, List.getElem?_set]
    split <;> (try split) <;> simp_all
  · rw [getD_set_ne _ _ _ _ _ e]; exact h.2 u (by omega)
theorem ClrTo.all {n : Nat} {l : List Bool} (h : ClrTo n l n) : BoolIs n l (fun _ => False) := ⟨h.1, fun u hu => by rw [h.2 u hu]; simp⟩
theorem c10_start (w : World) (n N : Nat) : C10 w (((w.alloc (.cells (madeCells #[.bool false] N) 4)).alloc (.cells (madeCells #[.bool false] n) 4)).alloc (.cells (madeCells #[.bool false] n) 4)) (List.replicate N false) (List.replicate n false) (List.replicate n false) := by
  refine ⟨(((Below.refl _ _).alloc (by simp) _).alloc (by simp) _).alloc (by simp; omega) _, ?_, ?_, ?_⟩
  · rw [← made_bools']; exact ((Blk.new' _ _ _).alloc _).alloc _
  · rw [← made_bools']
    have := (Blk.new' (w.alloc (.cells (madeCells #[.bool false] N) 4)) 4 (madeCells #[.bool false] n)).alloc (.cells (madeCells #[.bool false] n) 4)
    rw [World.size_alloc] at this
    exact this
  · rw [← made_bools']
    have := Blk.new' ((w.alloc (.cells (madeCells #[.bool false] N) 4)).alloc (.cells (madeCells #[.bool false] n) 4)) 4 (madeCells #[.bool false] n)
    rw [World.size_alloc, World.size_alloc] at this
    exact this

set_option maxRecDepth 100000 in
set_option maxHeartbeats 8000000 in
theorem conf10_any (a1 a2 : Option Addr) (n c1 c2 : Nat) (items : Rows3) (w : World) (h1 : RdRows w a1 (items.map fun r => ints (txOf r))) (h2 : RdRows w a2 (items.map fun r => bools (wtOf r)))
    (hlt : ∀ j i, j < items.length → i < (items.getD j []).length → (acc items j i).1 < n) (hn : n ≤ 256) (hm : items.length ≤ 4096) (hr : ∀ j, (items.getD j []).length ≤ 4096) :
    Calls Try.prog 10 #[.int .i64 (n : Int), .slice a1 items.length c1, .slice a2 items.length c2] w fun e w' => (∃ g c tab, e = .returned (.slice (some ⟨g, 0, none⟩) (n * n) c) ∧ w.heap.size ≤ g ∧ TabIs n tab (Ed items) ∧ Rd w' (some ⟨g, 0, none⟩) (bools tab)) ∧ Below w.heap.size w w' := by
  have H1 := hide h1
  have H2 := hide h2
  have HLT := hide hlt
  have HR := hide hr
  clear h1 h2 hlt hr
  obtain ⟨N, hN⟩ : ∃ N, N = n * n := ⟨_, rfl⟩
  have hNb : N ≤ 65536 := by rw [hN]; exact Nat.mul_le_mul hn hn
  have hnn : (n : Int) * (n : Int) = (N : Int) := by rw [hN, Int.natCast_mul]
  rw [← hN]
  have HN := hide hN
  clear hN
  obtain ⟨m, hm'⟩ : ∃ m, m = items.length := ⟨_, rfl⟩
  rw [← hm'] at hm ⊢
  have HM := hide hm'
  clear hm'
  have hm1 := run_make_row' (P := Try.prog) 26 4 (.bool false) 1 Try.underlying26 info4' rfl .i64 .i64 N (by omega) (by omega)
  have hm2 := run_make_row' (P := Try.prog) 26 4 (.bool false) 1 Try.underlying26 info4' rfl .i64 .i64 n (by omega) (by omega)
  have S0 := hide (c10_start w n N)
  go_enter Try.func10, Try.ntmps10
  go_wp2_with fail
  simp only [Nat.add_assoc, Nat.reduceAdd]
  generalize ((w.alloc (.cells (madeCells #[.bool false] N) 4)).alloc (.cells (madeCells #[.bool false] n) 4)).alloc (.cells (madeCells #[.bool false] n) 4) = w1 at S0 ⊢
  go_loopw [10] (fun i wr => ∃ (it : Nat) (tab wt rd : List Bool), it ≤ m ∧ i = .int .i64 it ∧ C10 w wr tab wt rd ∧ TabIs n tab (EdTo items it 0) ∧ wt.length = n ∧ rd.length = n) (fun i _ => m - (intOf i).toNat)
  case atStart =>
    refine ⟨0, _, _, _, Nat.zero_le _, rfl, unhide S0, ?_, by simp, by simp⟩
    have := tab_start n
    rw [← unhide HN] at this
    exact this.congr (fun u v _ _ => ⟨fun h => h.elim, fun h => edTo_zero items u v h⟩)
  case round =>
    clear S0
    obtain ⟨it, tab, wt, rd, hit, rfl, hs, htb, hwl, hrl⟩ := hrel
    have S1 := hide hs
    have TB := hide htb
    have HWL := hide hwl
    have HRL := hide hrl
    clear hs htb hwl hrl
    by_cases hlt : it < m
    · have hiti : it < items.length := by rw [← unhide HM]; exact hlt
      obtain ⟨row, hrow⟩ : ∃ row, row = items.getD it [] := ⟨_, rfl⟩
      have hrow4 : row.length ≤ 4096 := by rw [hrow]; exact unhide HR it
      obtain ⟨b2, o2, ar2, cr2, e2, hc2w, hr2⟩ := unhide H1 it (by rw [List.length_map]; exact hiti)
      obtain ⟨b3, o3, ar3, cr3, e3, hc3w, hr3⟩ := unhide H2 it (by rw [List.length_map]; exact hiti)
      subst e2 e3
      rw [mapRow_at (fun r => ints (txOf r)) rfl, ← hrow] at hc2w hr2
      rw [mapRow_at (fun r => bools (wtOf r)) rfl, ← hrow] at hc3w hr3
      have el2 : (ints (txOf row)).length = row.length := by simp [ints, txOf]
      have el3 : (bools (wtOf row)).length = row.length := by simp [bools, wtOf]
      rw [el2] at hc2w
      rw [el3] at hc3w
      have HR2 := hide hr2
      have HR3 := hide hr3
      have HROW := hide hrow
      have HC2 := hide hc2w
      have HC3 := hide hc3w
      have HIT := hide hiti
      clear hr2 hr3 hrow el2 el3 hc2w hc3w hiti
      go_wp2_with fail
      go_loopw [11] (fun i wr => ∃ (q : Nat) (wt rd : List Bool), q ≤ n ∧ i = .int .i64 q ∧ C10 w wr tab wt rd ∧ ClrTo n wt q ∧ ClrTo n rd q) (fun i _ => n - (intOf i).toNat)
      case atStart => exact ⟨0, wt, rd, Nat.zero_le _, rfl, unhide S1, ⟨unhide HWL, (fun u hu => by omega)⟩, ⟨unhide HRL, (fun u hu => by omega)⟩⟩
      case round =>
        clear S1 HWL HRL
        obtain ⟨q, wt2, rd2, hq, rfl, hs, hcw, hcr⟩ := hrel
        have S2 := hide hs
        have CW := hide hcw
        have CR := hide hcr
        clear hs hcw hcr
        by_cases hlq : q < n
        · as_aux_lemma =>
          have d1 := blk_bool (unhide S2).bw (j := q) (by rw [(unhide CW).1]; exact hlq)
          have d2 := blk_bool (unhide S2).br (j := q) (by rw [(unhide CR).1]; exact hlq)
          have f1 := (unhide S2).bw.free q
          have f2 := (unhide S2).br.free q
          generalize wt2.getD q false = v1 at d1
          generalize rd2.getD q false = v2 at d2
          go_wp2_with fail
          exact ⟨⟨q + 1, _, _, by omega, by rw [Int.natCast_add]; rfl, ((unhide S2).setW q false).setR q false, (unhide CW).succ, (unhide CR).succ⟩, by simp [intOf]; omega⟩
        · obtain rfl : q = n := by omega
          have WB : Hid (BoolIs q wt2 (WroteC items it 0)) := (unhide CW).all.congr (fun u _ => ⟨fun h => h.elim, fun ⟨i, hi, _⟩ => by omega⟩)
          have RB : Hid (BoolIs q rd2 (ReadC items it 0)) := (unhide CR).all.congr (fun u _ => ⟨fun h => h.elim, fun ⟨i, hi, _⟩ => by omega⟩)
          as_aux_lemma =>
          clear CW CR hlq hq
          go_wp2_with fail
          go_loopw [12] (fun i wr => ∃ (k : Nat) (tab wt rd : List Bool), k ≤ row.length ∧ i = .int .i64 k ∧ C10 w wr tab wt rd ∧ TabIs q tab (EdTo items it k) ∧ BoolIs q wt (WroteC items it k) ∧ BoolIs q rd (ReadC items it k)) (fun i _ => row.length - (intOf i).toNat)
          case atStart => exact ⟨0, tab, wt2, rd2, Nat.zero_le _, rfl, unhide S2, unhide TB, unhide WB, unhide RB⟩
          case round =>
            clear S2 TB WB RB
            obtain ⟨k, tab3, wt3, rd3, hk, rfl, hs, htb, hwb, hrb⟩ := hrel
            have S3 := hide hs
            have TB := hide htb
            have WB := hide hwb
            have RB := hide hrb
            clear hs htb hwb hrb
            have hc2 := cell_old (unhide S3).bel (unhide HC2)
            have hc3 := cell_old (unhide S3).bel (unhide HC3)
            by_cases hlk : k < row.length
            · obtain ⟨t, ht⟩ : ∃ t, t = (row.getD k (0, false, 0)).1 := ⟨_, rfl⟩
              obtain ⟨x, hx⟩ : ∃ t, t = (row.getD k (0, false, 0)).2.1 := ⟨_, rfl⟩
              obtain ⟨p2, r2, f2, g2⟩ := ((unhide HR2).old (unhide S3).bel).int (j := k) (by simp [txOf]; exact hlk)
              obtain ⟨p3, r3, f3, g3⟩ := ((unhide HR3).old (unhide S3).bel).bool (j := k) (by simp [wtOf]; exact hlk)
              subst f2 f3
              rw [show (txOf row).getD k 0 = (t : Int) by rw [ht]; simp [txOf, List.getD, hlk]] at g2
              rw [wtOf_at, ← hx] at g3
              have HT : Hid ((acc items it k).1 = t) := by show (acc items it k).1 = t; unfold acc; rw [← unhide HROW, ht]
              have HX : Hid ((acc items it k).2.1 = x) := by show (acc items it k).2.1 = x; unfold acc; rw [← unhide HROW, hx]
              have htn : t < q := by
                rw [← unhide HT]
                exact unhide HLT it k (unhide HIT) (by rw [← unhide HROW]; exact hlk)
              clear ht hx
              as_aux_lemma =>
              go_wp2_with fail
              clear g2 g3 hc2 hc3
              obtain ⟨n, hnq⟩ : ∃ n, n = q := ⟨_, rfl⟩
              subst hnq
              go_loopw [15] (fun i wr => ∃ (q : Nat) (tab5 : List Bool), q ≤ n ∧ i = .int .i64 q ∧ C10 w wr tab5 wt3 rd3 ∧ TabIs n tab5 (fun a b => EdTo items it k a b ∨ (b = t ∧ a < q ∧ NewC items it k a))) (fun i _ => n - (intOf i).toNat)
              case atStart => exact ⟨0, tab3, Nat.zero_le _, rfl, unhide S3, (unhide TB).congr (fun a b _ _ => ⟨fun h => .inl h, fun h => h.elim (fun z => z) (fun z => by omega)⟩)⟩
              case round =>
                clear S3 TB
                obtain ⟨q, tab5, hq, rfl, hs, htb⟩ := hrel
                have S5 := hide hs
                have TB' := hide htb
                clear hs htb
                by_cases hlq : q < n
                · have d1 := blk_bool (unhide S5).bw (j := q) (by rw [(unhide WB).1]; exact hlq)
                  have d2 := blk_bool (unhide S5).br (j := q) (by rw [(unhide RB).1]; exact hlq)
                  have i1 := (unhide WB).2 q hlq
                  have i2 := (unhide RB).2 q hlq
                  have hidx := idx_lt hlq htn
                  obtain ⟨m2, hm2'⟩ : ∃ m2, m2 = q * n := ⟨_, rfl⟩
                  rw [← hm2', ← unhide HN] at hidx
                  have hqn : (q : Int) * (n : Int) = (m2 : Int) := by rw [hm2', Int.natCast_mul]
                  have HM2 := hide hm2'
                  have hed := blk_bool (unhide S5).be (j := m2 + t) (by rw [(unhide TB').1, ← unhide HN]; exact hidx)
                  have hef := (unhide S5).be.free (m2 + t)
                  generalize tab5.getD (m2 + t) false = ve at hed
                  obtain ⟨b1, hb1⟩ : ∃ b, b = wt3.getD q false := ⟨_, rfl⟩
                  obtain ⟨b2, hb2⟩ : ∃ b, b = rd3.getD q false := ⟨_, rfl⟩
                  rw [← hb1] at d1 i1
                  rw [← hb2] at d2 i2
                  have nc := newC_iff items it k q
                  rw [unhide HT, unhide HX, ← i1, ← i2] at nc
                  have NC := hide nc
                  clear nc i1 i2 hb1 hb2 hm2'
                  by_cases hqt : q = t
                  · have NOP : Hid (¬ NewC items it k q) := fun h => ((unhide NC).1 h).1 hqt
                    have hqt' : ((q : Int) != (t : Int)) = false := by simp [hqt]
                    clear hqt
                    as_aux_lemma =>
                    go_wp2_with fail
                    refine ⟨⟨q + 1, tab5, by omega, by rw [Int.natCast_add]; rfl, unhide S5, (unhide TB').congr (fun a b ha hb => ?_)⟩, by simp [intOf]; omega⟩
                    constructor
                    · rintro (z | z)
                      · exact .inl z
                      · exact .inr ⟨z.1, by omega, z.2.2⟩
                    · rintro (z | ⟨z1, z2, z3⟩)
                      · exact .inl z
                      · by_cases e : a = q
                        · rw [e] at z3; exact absurd z3 (unhide NOP)
                        · exact .inr ⟨z1, by omega, z3⟩
                  have hqt' : ((q : Int) != (t : Int)) = true := by simp; omega
                  cases b1
                  · cases x
                    · have NOP : Hid (¬ NewC items it k q) := fun h => by
                        rcases ((unhide NC).1 h).2 with z | z
                        · cases z
                        · cases z.1
                      as_aux_lemma =>
                      go_wp2_with fail
                      refine ⟨⟨q + 1, tab5, by omega, by rw [Int.natCast_add]; rfl, unhide S5, (unhide TB').congr (fun a b ha hb => ?_)⟩, by simp [intOf]; omega⟩
                      constructor
                      · rintro (z | z)
                        · exact .inl z
                        · exact .inr ⟨z.1, by omega, z.2.2⟩
                      · rintro (z | ⟨z1, z2, z3⟩)
                        · exact .inl z
                        · by_cases e : a = q
                          · rw [e] at z3; exact absurd z3 (unhide NOP)
                          · exact .inr ⟨z1, by omega, z3⟩
                    · cases b2
                      · have NOP : Hid (¬ NewC items it k q) := fun h => by
                          rcases ((unhide NC).1 h).2 with z | z
                          · cases z
                          · cases z.2
                        as_aux_lemma =>
                        go_wp2_with fail
                        refine ⟨⟨q + 1, tab5, by omega, by rw [Int.natCast_add]; rfl, unhide S5, (unhide TB').congr (fun a b ha hb => ?_)⟩, by simp [intOf]; omega⟩
                        constructor
                        · rintro (z | z)
                          · exact .inl z
                          · exact .inr ⟨z.1, by omega, z.2.2⟩
                        · rintro (z | ⟨z1, z2, z3⟩)
                          · exact .inl z
                          · by_cases e : a = q
                            · rw [e] at z3; exact absurd z3 (unhide NOP)
                            · exact .inr ⟨z1, by omega, z3⟩
                      · have YES : Hid (NewC items it k q) := (unhide NC).2 ⟨hqt, .inr ⟨rfl, rfl⟩⟩
                        as_aux_lemma =>
                        go_wp2_with fail
                        have ht' := (unhide TB').set (a := q) (b := t) hlq htn
                        rw [← unhide HM2] at ht'
                        refine ⟨⟨q + 1, _, by omega, by rw [Int.natCast_add]; rfl, (unhide S5).setE (m2 + t) true, ht'.congr (fun a b ha hb => ?_)⟩, by simp [intOf]; omega⟩
                        constructor
                        · rintro ((z | z) | z)
                          · exact .inl z
                          · exact .inr ⟨z.1, by omega, z.2.2⟩
                          · exact .inr ⟨z.2, by omega, by rw [z.1]; exact unhide YES⟩
                        · rintro (z | ⟨z1, z2, z3⟩)
                          · exact .inl (.inl z)
                          · by_cases e : a = q
                            · exact .inr ⟨e, z1⟩
                            · exact .inl (.inr ⟨z1, by omega, z3⟩)
                  · have YES : Hid (NewC items it k q) := (unhide NC).2 ⟨hqt, .inl rfl⟩
                    as_aux_lemma =>
                    go_wp2_with fail
                    have ht' := (unhide TB').set (a := q) (b := t) hlq htn
                    rw [← unhide HM2] at ht'
                    refine ⟨⟨q + 1, _, by omega, by rw [Int.natCast_add]; rfl, (unhide S5).setE (m2 + t) true, ht'.congr (fun a b ha hb => ?_)⟩, by simp [intOf]; omega⟩
                    constructor
                    · rintro ((z | z) | z)
                      · exact .inl z
                      · exact .inr ⟨z.1, by omega, z.2.2⟩
                      · exact .inr ⟨z.2, by omega, by rw [z.1]; exact unhide YES⟩
                    · rintro (z | ⟨z1, z2, z3⟩)
                      · exact .inl (.inl z)
                      · by_cases e : a = q
                        · exact .inr ⟨e, z1⟩
                        · exact .inl (.inr ⟨z1, by omega, z3⟩)
                · obtain rfl : q = n := by omega
                  have TB6 : Hid (TabIs q tab5 (EdTo items it (k + 1))) := (unhide TB').congr (fun a b ha hb => by
                    rw [edTo_succ, unhide HT]
                    constructor
                    · rintro (z | z)
                      · exact .inl z
                      · exact .inr ⟨z.1, z.2.2⟩
                    · rintro (z | z)
                      · exact .inl z
                      · exact .inr ⟨z.1, ha, z.2⟩)
                  have d1 := blk_bool (unhide S5).bw (j := t) (by rw [(unhide WB).1]; exact htn)
                  have d2 := blk_bool (unhide S5).br (j := t) (by rw [(unhide RB).1]; exact htn)
                  have f1 := (unhide S5).bw.free t
                  have f2 := (unhide S5).br.free t
                  generalize wt3.getD t false = v1 at d1
                  generalize rd3.getD t false = v2 at d2
                  cases x
                  · as_aux_lemma =>
                    go_wp2_with fail
                    refine ⟨⟨k + 1, tab5, wt3, _, by omega, by rw [Int.natCast_add]; rfl, (unhide S5).setR t true, unhide TB6, (unhide WB).congr (fun u _ => ?_), ((unhide RB).set htn).congr (fun u _ => ?_)⟩, by simp [intOf]; omega⟩
                    · rw [wrote_succ, unhide HX]
                      exact ⟨fun z => .inl z, fun z => z.elim (fun y => y) (fun y => by cases y.2)⟩
                    · rw [read_succ, unhide HX, unhide HT]
                      exact ⟨fun z => z.elim (fun y => .inl y) (fun y => .inr ⟨y, rfl⟩), fun z => z.elim (fun y => .inl y) (fun y => .inr y.1)⟩
                  · as_aux_lemma =>
                    go_wp2_with fail
                    refine ⟨⟨k + 1, tab5, _, rd3, by omega, by rw [Int.natCast_add]; rfl, (unhide S5).setW t true, unhide TB6, ((unhide WB).set htn).congr (fun u _ => ?_), (unhide RB).congr (fun u _ => ?_)⟩, by simp [intOf]; omega⟩
                    · rw [wrote_succ, unhide HX, unhide HT]
                      exact ⟨fun z => z.elim (fun y => .inl y) (fun y => .inr ⟨y, rfl⟩), fun z => z.elim (fun y => .inl y) (fun y => .inr y.1)⟩
                    · rw [read_succ, unhide HX]
                      exact ⟨fun z => .inl z, fun z => z.elim (fun y => y) (fun y => by cases y.2)⟩
            · obtain rfl : k = row.length := by omega
              have TB6 : Hid (TabIs q tab3 (EdTo items (it + 1) 0)) := (unhide TB).congr (fun a b _ _ => by rw [edTo_next, ← unhide HROW])
              as_aux_lemma =>
              go_wp2_with fail
              exact ⟨⟨it + 1, tab3, wt3, rd3, by omega, by rw [Int.natCast_add]; rfl, unhide S3, unhide TB6, (unhide WB).1, (unhide RB).1⟩, by simp [intOf]; omega⟩
    · obtain rfl : it = m := by omega
      have TB6 : Hid (TabIs n tab (Ed items)) := (unhide TB).congr (fun a b _ _ => by rw [unhide HM, edTo_all])
      go_wp2_with fail
      go_returns
      exact ⟨⟨w.heap.size, N, tab, rfl, Nat.le_refl _, unhide TB6, blk_rd (unhide S1).be⟩, (unhide S1).bel⟩
end Go.Proofs.Qxb6614980a
