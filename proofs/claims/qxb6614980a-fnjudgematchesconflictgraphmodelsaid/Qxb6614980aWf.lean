/-
  'zzBytes_..' and 'zzpb1WellFormed'.
-/
import Derived.Test.Qxb6614980aMem
namespace Go.Proofs.Qxb6614980a
open Go.ChangeShapes Go.WideShapes Go.ChangeAt Go.RowKit

/-- What 'zzpb1WellFormed' asks. -/
structure WFp (txns : List Int) (T : List (List Int)) (B : List (List Bool)) : Prop where
  asc : ∀ i, 1 ≤ i → i < txns.length → txns.getD (i - 1) 0 < txns.getD i 0
  len : T.length = B.length
  row : ∀ it, it < T.length → (T.getD it []).length = (B.getD it []).length
  txn : ∀ it, it < T.length → ∀ k, k < (T.getD it []).length → 0 ≤ (T.getD it []).getD k 0 ∧ (T.getD it []).getD k 0 < txns.length

theorem RdRows.int {w : World} {a : Option Addr} {T : List (List Int)} (h : RdRows w a (T.map ints)) {j : Nat} (hj : j < T.length) :
    ∃ b off ar cr, a = some ⟨b, off, none⟩ ∧ w.cell? ⟨b, off + j, none⟩ = some (.slice ar (T.getD j []).length cr) ∧ Rd w ar (ints (T.getD j [])) := by
  obtain ⟨b, off, ar, cr, e, hc, hr⟩ := h j (by simpa using hj)
  have e2 : (T.map ints).getD j [] = ints (T.getD j []) := by simp [List.getD, hj]
  rw [e2] at hc hr
  rw [ints_len] at hc
  exact ⟨b, off, ar, cr, e, hc, hr⟩
theorem RdRows.bool {w : World} {a : Option Addr} {T : List (List Bool)} (h : RdRows w a (T.map bools)) {j : Nat} (hj : j < T.length) :
    ∃ b off ar cr, a = some ⟨b, off, none⟩ ∧ w.cell? ⟨b, off + j, none⟩ = some (.slice ar (T.getD j []).length cr) ∧ Rd w ar (bools (T.getD j [])) := by
  obtain ⟨b, off, ar, cr, e, hc, hr⟩ := h j (by simpa using hj)
  have e2 : (T.map bools).getD j [] = bools (T.getD j []) := by simp [List.getD, hj]
  rw [e2] at hc hr
  rw [bools_len] at hc
  exact ⟨b, off, ar, cr, e, hc, hr⟩

/-- It says yes of well-formed input alone. -/
def SaysWF (txns : List Int) (T : List (List Int)) (B : List (List Bool)) (e : Ending) : Prop := ∃ r, e = .returned (.bool r) ∧ (r = true → WFp txns T B)
theorem saysNo (txns : List Int) (T : List (List Int)) (B : List (List Bool)) : SaysWF txns T B (.returned (.bool false)) := ⟨false, rfl, fun h => by cases h⟩
/-- The world, some draws on. -/
def Drawn (w w' : World) : Prop := ∃ d, w' = w.drewN d
theorem drawn (w : World) (d : Nat) : Drawn w (w.drewN d) := ⟨d, rfl⟩
theorem drawn2 (w : World) (d n : Nat) : Drawn w ((w.drewN d).drewN n) := ⟨d + n, by simp⟩
theorem Drawn.trans {a b c : World} (h : Drawn a b) (k : Drawn b c) : Drawn a c := by
  obtain ⟨d, rfl⟩ := h
  obtain ⟨e, rfl⟩ := k
  exact drawn2 a d e
theorem Drawn.below {a b : World} (h : Drawn a b) : Below a.heap.size a b := by
  obtain ⟨d, rfl⟩ := h
  exact below_draws (Below.refl _ _) d

/-- Of the numbers ahead of place k each is greater than the one before it. -/
def AscTo (txns : List Int) (k : Nat) : Prop := ∀ i, 1 ≤ i → i < k → txns.getD (i - 1) 0 < txns.getD i 0
/-- The first q of a row are vertices. -/
def RowTo (n : Nat) (row : List Int) (q : Nat) : Prop := ∀ k, k < q → 0 ≤ row.getD k 0 ∧ row.getD k 0 < n
/-- The first j rows are in order. -/
def RowsTo (n : Nat) (T : List (List Int)) (B : List (List Bool)) (j : Nat) : Prop := ∀ it, it < j → (T.getD it []).length = (B.getD it []).length ∧ RowTo n (T.getD it []) (T.getD it []).length

set_option maxRecDepth 100000 in
set_option maxHeartbeats 4000000 in
theorem wf6_any (a0 a1 a2 : Option Addr) (c0 c1 c2 : Nat) (txns : List Int) (T : List (List Int)) (B : List (List Bool)) (w : World)
    (h0 : Rd w a0 (ints txns)) (h1 : RdRows w a1 (T.map ints)) (h2 : RdRows w a2 (B.map bools)) (b0 : txns.length ≤ 1048576) (b1 : T.length ≤ 1048576) (b3 : ∀ it, it < T.length → (T.getD it []).length ≤ 1048576) :
    Calls Try.prog 6 #[.slice a0 txns.length c0, .slice a1 T.length c1, .slice a2 B.length c2] w fun e w' => SaysWF txns T B e ∧ Drawn w w' := by
  have H0 := hide h0
  have H1 := hide h1
  have H2 := hide h2
  have B3 := hide b3
  clear h0 h1 h2 b3
  go_enter Try.func6, Try.ntmps6
  go_wp2
  go_loopw [7] (fun i wr => ∃ (k d : Nat), 1 ≤ k ∧ (k ≤ txns.length ∨ k = 1) ∧ i = .int .i64 k ∧ wr = w.drewN d ∧ AscTo txns k) (fun i _ => txns.length - (intOf i).toNat)
  case atStart => exact ⟨1, 0, by omega, .inr rfl, rfl, rfl, fun i h1 h2 => by omega⟩
  case round =>
    obtain ⟨k, d, hk1, hk, rfl, rfl, hasc⟩ := hrel
    have HA := hide hasc
    clear hasc
    by_cases hlt : k < txns.length
    · obtain ⟨b, off, rfl, hc1⟩ := (unhide H0).int (show k - 1 < txns.length by omega)
      obtain ⟨b', off', e', hc2⟩ := (unhide H0).int hlt
      cases e'
      obtain ⟨x, hx⟩ : ∃ x, x = txns.getD (k - 1) 0 := ⟨_, rfl⟩
      obtain ⟨y, hy⟩ : ∃ y, y = txns.getD k 0 := ⟨_, rfl⟩
      rw [← hx] at hc1
      rw [← hy] at hc2
      have HX := hide hx
      have HY := hide hy
      clear hx hy
      have hlti : (k : Int) < (txns.length : Int) := by omega
      have hk0 : (0 : Int) ≤ (k : Int) - 1 := by omega
      have hk2 : (k : Int) - 1 < (txns.length : Int) := by omega
      have ek : ((k : Int) - 1).toNat = k - 1 := by omega
      by_cases hxy : y ≤ x
      · go_wp2_with fail
        go_quiet (fail)
        go_wp2
        go_ret
        exact ⟨saysNo _ _ _, by first | exact drawn _ _ | exact drawn2 _ _ _⟩
      · go_wp2_with fail
        go_quiet (fail)
        go_wp2
        go_roundw
        case rel =>
          refine ⟨k + 1, d + nq, by omega, .inl (by omega), by go_num, rfl, fun i h1 h2 => ?_⟩
          by_cases e : i = k
          · subst e; rw [← unhide HX, ← unhide HY]; omega
          · exact unhide HA i h1 (by omega)
        case measure => simp [intOf]; omega
    · have hgei : ¬ (k : Int) < (txns.length : Int) := by omega
      by_cases hTB : T.length = B.length
      · have hne : (((T.length : Nat) : Int) != ((B.length : Nat) : Int)) = false := by simp; omega
        have HTB := hide hTB
        clear hTB
        go_wp2_with fail
        go_loopw [8] (fun i wr => ∃ (j d : Nat), j ≤ T.length ∧ i = .int .i64 j ∧ wr = w.drewN d ∧ RowsTo txns.length T B j) (fun i _ => T.length - (intOf i).toNat)
        case atStart => exact ⟨0, d, Nat.zero_le _, rfl, rfl, fun it h => absurd h (Nat.not_lt_zero _)⟩
        case round =>
          obtain ⟨j, d', hj, rfl, rfl, hrows⟩ := hrel
          have HR := hide hrows
          clear hrows
          by_cases hlj : j < T.length
          · obtain ⟨b, off, ar, cr, e1, hc1, hr1⟩ := (unhide H1).int hlj
            obtain ⟨b', off', ar', cr', e2, hc2, hr2⟩ := (unhide H2).bool (show j < B.length by rw [← unhide HTB]; exact hlj)
            subst e1 e2
            have hlji : (j : Int) < (T.length : Int) := by omega
            have hlji2 : (j : Int) < (B.length : Int) := by have := unhide HTB; omega
            have HM := hide (unhide B3 j hlj)
            have hmB := unhide B3 j hlj
            by_cases hlen : (T.getD j []).length = (B.getD j []).length
            · have HLEN := hide hlen
              rw [← hlen] at hc2
              clear hlen
              obtain ⟨row, hrow⟩ : ∃ row, row = T.getD j [] := ⟨_, rfl⟩
              have HROW := hide hrow
              rw [← hrow] at hr1
              clear hrow
              obtain ⟨m, hm⟩ : ∃ m, m = (T.getD j []).length := ⟨_, rfl⟩
              rw [← hm] at hc1 hc2 hmB
              have HMM := hide hm
              clear hm
              have hR1 := hide hr1
              clear hr1 hr2
              have hnm : ((m : Int) != (m : Int)) = false := by simp
              go_wp2_with fail
              go_quiet (fail)
              go_wp2_with fail
              go_loop [9] (fun i => ∃ q : Nat, q ≤ m ∧ i = .int .i64 q ∧ RowTo txns.length row q) (fun i => m - (intOf i).toNat)
              case atStart => exact ⟨0, Nat.zero_le _, rfl, fun k h => absurd h (Nat.not_lt_zero _)⟩
              case round =>
                obtain ⟨q, hq, rfl, hin⟩ := hrel
                have HI := hide hin
                clear hin
                by_cases hlq : q < m
                · obtain ⟨b2, off2, e2, hc3⟩ := (unhide hR1).int (show q < row.length by rw [unhide HROW, ← unhide HMM]; exact hlq)
                  subst e2
                  obtain ⟨t, ht⟩ : ∃ t, t = row.getD q 0 := ⟨_, rfl⟩
                  rw [← ht] at hc3
                  have HT := hide ht
                  clear ht
                  by_cases t0 : 0 ≤ t
                  · by_cases t1 : t < txns.length
                    · go_wp2
                      go_round
                      case rel =>
                        refine ⟨q + 1, by omega, by go_num, fun k hk => ?_⟩
                        by_cases e : k = q
                        · subst e; rw [← unhide HT]; exact ⟨t0, t1⟩
                        · exact unhide HI k (by omega)
                      case measure => simp [intOf]; omega
                    · go_wp2
                      go_ret
                      exact ⟨saysNo _ _ _, by first | exact drawn _ _ | exact drawn2 _ _ _⟩
                  · go_wp2
                    go_ret
                    exact ⟨saysNo _ _ _, by first | exact drawn _ _ | exact drawn2 _ _ _⟩
                · go_wp2
                  go_roundw
                  case rel =>
                    refine ⟨j + 1, d' + nq, by omega, by go_num, rfl, fun it hit => ?_⟩
                    by_cases e : it = j
                    · subst e
                      refine ⟨unhide HLEN, fun k hk => ?_⟩
                      have := unhide HI k (by have := unhide HMM; omega)
                      rwa [unhide HROW] at this
                    · exact unhide HR it (by omega)
                  case measure => simp [intOf]; omega
            · obtain ⟨m1, hm1⟩ : ∃ m, m = (T.getD j []).length := ⟨_, rfl⟩
              obtain ⟨m2, hm2⟩ : ∃ m, m = (B.getD j []).length := ⟨_, rfl⟩
              rw [← hm1] at hc1 hlen
              rw [← hm2] at hc2 hlen
              clear hm1 hm2 hr1 hr2 hmB HM
              have hne2 : ((m1 : Int) != (m2 : Int)) = true := by simp; omega
              clear hlen
              go_wp2_with fail
              go_quiet (fail)
              go_wp2
              go_ret
              exact ⟨saysNo _ _ _, by first | exact drawn _ _ | exact drawn2 _ _ _⟩
          · have hge2 : ¬ (j : Int) < (T.length : Int) := by omega
            go_wp2
            go_ret
            refine ⟨⟨true, rfl, fun _ => ⟨fun i h1 h2 => unhide HA i h1 (by omega), unhide HTB, fun it h => (unhide HR it (by omega)).1, fun it h => (unhide HR it (by omega)).2⟩⟩, drawn _ _⟩
      · have hne : (((T.length : Nat) : Int) != ((B.length : Nat) : Int)) = true := by simp; omega
        go_wp2
        go_ret
        exact ⟨saysNo _ _ _, by first | exact drawn _ _ | exact drawn2 _ _ _⟩
set_option maxRecDepth 100000 in
set_option maxHeartbeats 2000000 in
theorem bytes12_any (a0 a1 a2 : Option Addr) (n0 c0 c1 c2 : Nat) (r1 r2 : List (List Value)) (w : World) (h1 : RdRows w a1 r1) (h2 : RdRows w a2 r2) :
    Calls Try.prog 12 #[.slice a0 n0 c0, .slice a1 r1.length c1, .slice a2 r2.length c2] w fun e w' => IsBool e ∧ w' = w := by
  by_cases hn0 : n0 ≤ 1048576
  · by_cases hn1 : r1.length ≤ 1048576
    · by_cases hn2 : r2.length ≤ 1048576
      · go_enter Try.func12, Try.ntmps12
        go_wp2
        · go_ret
          exact ⟨isBool _, rfl⟩
        go_loop [7, 8] (fun z i => ∃ (k : Nat) (y : Int), k ≤ r1.length ∧ i = .int .i64 k ∧ 0 ≤ y ∧ y ≤ 1048576 ∧ z = .int .i64 y) (fun _ i => r1.length - (intOf i).toNat)
        case atStart => exact ⟨0, _, Nat.zero_le _, rfl, by omega, by omega, rfl⟩
        case round =>
          obtain ⟨k, y, hk, rfl, hy0, hy1, rfl⟩ := hrel
          by_cases hlt : k < r1.length
          · obtain ⟨b, off, ar, cr, rfl, hc, _⟩ := h1 k hlt
            generalize (r1.getD k []).length = m at hc
            go_wp2
            · go_ret
              exact ⟨isBool _, rfl⟩
            · go_ret
              exact ⟨isBool _, rfl⟩
            · go_round
              case rel => exact ⟨k + 1, _, by omega, by go_num, by omega, by omega, rfl⟩
              case measure => simp [intOf]; omega
          · go_wp2
            · go_ret
              exact ⟨isBool _, rfl⟩
            go_loop [7, 9] (fun z i => ∃ (k : Nat) (y : Int), k ≤ r2.length ∧ i = .int .i64 k ∧ 0 ≤ y ∧ y ≤ 1048576 ∧ z = .int .i64 y) (fun _ i => r2.length - (intOf i).toNat)
            case atStart => exact ⟨0, _, Nat.zero_le _, rfl, by omega, by omega, rfl⟩
            case round =>
              obtain ⟨k', y', hk', rfl, hy0', hy1', rfl⟩ := hrel
              by_cases hlt' : k' < r2.length
              · obtain ⟨b, off, ar, cr, rfl, hc, _⟩ := h2 k' hlt'
                generalize (r2.getD k' []).length = m at hc
                go_wp2
                · go_ret
                  exact ⟨isBool _, rfl⟩
                · go_ret
                  exact ⟨isBool _, rfl⟩
                · go_round
                  case rel => exact ⟨k' + 1, _, by omega, by go_num, by omega, by omega, rfl⟩
                  case measure => simp [intOf]; omega
              · go_wp2
                go_ret
                exact ⟨isBool _, rfl⟩
      · go_enter Try.func12, Try.ntmps12
        go_wp2
        · go_ret
          exact ⟨isBool _, rfl⟩
        go_loop [7, 8] (fun z i => ∃ (k : Nat) (y : Int), k ≤ r1.length ∧ i = .int .i64 k ∧ 0 ≤ y ∧ y ≤ 1048576 ∧ z = .int .i64 y) (fun _ i => r1.length - (intOf i).toNat)
        case atStart => exact ⟨0, _, Nat.zero_le _, rfl, by omega, by omega, rfl⟩
        case round =>
          obtain ⟨k, y, hk, rfl, hy0, hy1, rfl⟩ := hrel
          by_cases hlt : k < r1.length
          · obtain ⟨b, off, ar, cr, rfl, hc, _⟩ := h1 k hlt
            generalize (r1.getD k []).length = m at hc
            go_wp2
            · go_ret
              exact ⟨isBool _, rfl⟩
            · go_ret
              exact ⟨isBool _, rfl⟩
            · go_round
              case rel => exact ⟨k + 1, _, by omega, by go_num, by omega, by omega, rfl⟩
              case measure => simp [intOf]; omega
          · go_wp2
            go_ret
            exact ⟨isBool _, rfl⟩
    · go_enter Try.func12, Try.ntmps12
      go_wp2
      go_ret
      exact ⟨isBool _, rfl⟩
  · go_enter Try.func12, Try.ntmps12
    go_wp2
    go_ret
    exact ⟨isBool _, rfl⟩
end Go.Proofs.Qxb6614980a
