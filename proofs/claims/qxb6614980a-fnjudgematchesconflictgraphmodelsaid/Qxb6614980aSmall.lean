/-
  'zzpb1CloneInts', 'zzpb1Find', 'zzpb1Conflict'.
-/
import Derived.Test.Qxb6614980aWf
import Derived.Lib.SliceRun
namespace Go.Proofs.Qxb6614980a
open Go.ChangeShapes Go.WideShapes Go.ChangeAt Go.RowKit

theorem info3 : (Try.prog.info? 3).map (fun i => (i.zero, i.size, i.bytes)) = some (some (.int .i64 0), 1, 8) := by kernel_rfl

/-- It returns a slice that reads as xs. -/
def RetInts (w' : World) (xs : List Int) (e : Ending) : Prop := ∃ a c, e = .returned (.slice a xs.length c) ∧ Rd w' a (ints xs)

theorem made_ints (n : Nat) : (madeCells #[Value.int .i64 0] n).toList = ints (List.replicate n 0) := by
  apply List.ext_getElem
  · simp [size_madeCells, ints]
  · intro i h1 h2
    simp [madeCells, ints, Nat.mod_one] at h1 h2 ⊢

theorem IBlk.new (w : World) (n : Nat) : IBlk (w.alloc (.cells (madeCells #[.int .i64 0] n) 3)) w.heap.size (List.replicate n 0) := by
  have := Blk.new' w 3 (madeCells #[.int .i64 0] n)
  rwa [made_ints] at this

theorem set_to {xs ys : List Int} {k : Nat} (hk : k < ys.length) (hl : xs.length = ys.length) (h : xs.take k = ys.take k) : (xs.set k (ys.getD k 0)).take (k + 1) = ys.take (k + 1) := by
  have hkx : k < xs.length := by omega
  rw [List.take_succ_eq_append_getElem (by simpa using hkx), List.take_succ_eq_append_getElem hk, List.take_set_of_le (Nat.le_refl _), h]
  simp [List.getD, hk]

set_option maxRecDepth 100000 in
set_option maxHeartbeats 2000000 in
/-- zzpb1CloneInts. -/
theorem clone7_any (a0 : Option Addr) (c0 : Nat) (xs : List Int) (w : World) (h0 : Rd w a0 (ints xs)) (hn : xs.length ≤ 1048576) (hnil : a0 = none → xs.length = 0) :
    Calls Try.prog 7 #[.slice a0 xs.length c0] w fun e w' => RetInts w' xs e ∧ Below w.heap.size w w' := by
  have q22 : ∀ (w : World) (a : Option Addr) (n c n' c' : Nat), (binOp .eql 22 (.slice a n c) (.slice none n' c')).run Try.prog w = .ok (.bool a.isNone) w := fun w a n c n' c' => Lib.run_eql_slice_nil w 22 3 a n c n' c' Try.underlying22
  have H0 := hide h0
  clear h0
  cases a0
  case none =>
    have hx : xs = [] := List.eq_nil_of_length_eq_zero (hnil rfl)
    subst hx
    go_enter Try.func7, Try.ntmps7
    go_wp2
    go_ret
    exact ⟨⟨none, 0, rfl, Rd.nil _ _⟩, Below.refl _ _⟩
  case some ad =>
    clear hnil
    obtain ⟨n, hln⟩ : ∃ n, n = xs.length := ⟨_, rfl⟩
    rw [← hln] at hn ⊢
    have HL := hide hln
    clear hln
    have hm := run_make_row' (P := Try.prog) 22 3 (.int .i64 0) 8 Try.underlying22 info3 rfl .i64 .i64 n (by omega) (by omega)
    go_enter Try.func7, Try.ntmps7
    go_wp2
    go_loopw [4] (fun i wr => ∃ (k : Nat) (ys : List Int), k ≤ n ∧ i = .int .i64 k ∧ ys.length = n ∧ ys.take k = xs.take k ∧ IBlk wr w.heap.size ys ∧ Below w.heap.size w wr) (fun i _ => n - (intOf i).toNat)
    case atStart => exact ⟨0, List.replicate n 0, Nat.zero_le _, rfl, by simp, by simp, IBlk.new _ _, below_new _ _⟩
    case round =>
      obtain ⟨k, ys, hk, rfl, hl, htk, hI, hB⟩ := hrel
      have HI := hide hI
      have HY := hide hl
      have HT := hide htk
      clear hI hl htk
      by_cases hlt : k < n
      · have hkx : k < xs.length := by rw [← unhide HL]; exact hlt
        obtain ⟨b, off, e1, hc⟩ := ((unhide H0).old hB).int hkx
        cases e1
        have hc2 := (unhide HI).cell (j := k) (by rw [unhide HY]; exact hlt)
        have hfr := Blk.free (unhide HI) k
        obtain ⟨x, hx⟩ : ∃ x, x = xs.getD k 0 := ⟨_, rfl⟩
        rw [← hx] at hc
        have HX := hide hx
        clear hx
        go_wp2
        go_roundw
        case rel =>
          refine ⟨k + 1, ys.set k x, by omega, by go_num, by rw [List.length_set]; exact unhide HY, ?_, (unhide HI).set k x, hB.setCell (Nat.le_refl _) _⟩
          rw [unhide HX]
          exact set_to hkx (by rw [unhide HY, unhide HL]) (unhide HT)
        case measure => simp [intOf]; omega
      · obtain rfl : k = n := by omega
        go_wp2
        go_ret
        have e2 : ys = xs := by
          have := unhide HT
          rwa [List.take_of_length_le (by rw [unhide HY]; exact Nat.le_refl _), List.take_of_length_le (by rw [← unhide HL]; exact Nat.le_refl _)] at this
        refine ⟨⟨some ⟨w.heap.size, 0, none⟩, k, by rw [← unhide HL]; rfl, ?_⟩, hB⟩
        rw [← e2]
        exact (unhide HI).rd

/-- Strictly ascending, said of any two places. -/
theorem asc_lt {txns : List Int} (h : AscTo txns txns.length) : ∀ {i j : Nat}, i < j → j < txns.length → txns.getD i 0 < txns.getD j 0 := by
  intro i j hij
  induction j with
  | zero => omega
  | succ j ih =>
    intro hj
    have h1 := h (j + 1) (by omega) hj
    rw [Nat.add_sub_cancel] at h1
    by_cases e : i = j
    · subst e; exact h1
    · have := ih (by omega) (by omega); omega

set_option maxRecDepth 100000 in
set_option maxHeartbeats 2000000 in
/-- zzpb1Find, at a number that is there. -/
theorem find13_any (a0 : Option Addr) (c0 : Nat) (xs : List Int) (j : Nat) (x : Int) (w : World) (h0 : Rd w a0 (ints xs)) (hn : xs.length ≤ 1048576) (hasc : AscTo xs xs.length) (hj : j < xs.length) (hx : x = xs.getD j 0) :
    Calls Try.prog 13 #[.slice a0 xs.length c0, .int .i64 x] w fun e w' => e = .returned (.int .i64 j) ∧ w' = w := by
  have H0 := hide h0
  have HA := hide hasc
  have HX := hide hx
  clear h0 hasc hx
  go_enter Try.func13, Try.ntmps13
  go_wp2
  go_loop [5, 6] (fun l h => ∃ (lo hi : Nat), lo ≤ j ∧ j ≤ hi ∧ hi ≤ xs.length ∧ l = .int .i64 lo ∧ h = .int .i64 hi) (fun l h => (intOf h).toNat - (intOf l).toNat)
  case atStart => exact ⟨0, xs.length, Nat.zero_le _, by omega, Nat.le_refl _, rfl, rfl⟩
  case round =>
    obtain ⟨lo, hi, hlj, hjh, hhi, rfl, rfl⟩ := hrel
    by_cases hlt : lo < hi
    · obtain ⟨mid, hmid⟩ : ∃ mid, mid = lo + (hi - lo) / 2 := ⟨_, rfl⟩
      have hm1 : lo ≤ mid := by omega
      have hm2 : mid < hi := by omega
      have hmi : (lo : Int) + ((hi : Int) - (lo : Int)) / 2 = (mid : Int) := by omega
      obtain ⟨b, off, e1, hc⟩ := (unhide H0).int (show mid < xs.length by omega)
      cases e1
      obtain ⟨y, hy⟩ : ∃ y, y = xs.getD mid 0 := ⟨_, rfl⟩
      rw [← hy] at hc
      have HY := hide hy
      clear hy
      by_cases hyx : y < x
      · have hmj : mid < j := by
          apply Decidable.byContradiction
          intro hnn
          by_cases e : mid = j
          · subst e; rw [unhide HY, unhide HX] at hyx; omega
          · have := asc_lt (unhide HA) (show j < mid by omega) (show mid < xs.length by omega)
            rw [unhide HY, unhide HX] at hyx; omega
        clear hmid
        go_wp2
        go_round
        case rel => exact ⟨mid + 1, hi, by omega, hjh, hhi, by go_num, rfl⟩
        case measure => simp [intOf]; omega
      · have hmj : j ≤ mid := by
          apply Decidable.byContradiction
          intro hnn
          have := asc_lt (unhide HA) (show mid < j by omega) hj
          rw [unhide HY, unhide HX] at hyx; omega
        clear hmid
        go_wp2
        go_round
        case rel => exact ⟨lo, mid, hlj, hmj, by omega, rfl, rfl⟩
        case measure => simp [intOf]; omega
    · obtain rfl : lo = j := by omega
      obtain ⟨b, off, e1, hc⟩ := (unhide H0).int hj
      cases e1
      rw [← unhide HX] at hc
      have hxx : (x == x) = true := by simp
      have hji : (lo : Int) < (xs.length : Int) := by omega
      go_wp2
      go_ret
      exact ⟨rfl, rfl⟩

/-- Some access of u comes before one of v in the row, one of the two a write. -/
def ConfRow (row : List Int) (ws : List Bool) (u v : Int) : Prop := ∃ i k, i < k ∧ k < row.length ∧ row.getD i 0 = u ∧ row.getD k 0 = v ∧ (ws.getD i false = true ∨ ws.getD k false = true)
/-- No such pair ends ahead of place q. -/
def NoConfTo (row : List Int) (ws : List Bool) (u v : Int) (q : Nat) : Prop := ∀ i k, i < k → k < q → row.getD i 0 = u → row.getD k 0 = v → ws.getD i false = false ∧ ws.getD k false = false
def SawTo (row : List Int) (u : Int) (q : Nat) (b : Bool) : Prop := b = false → ∀ i, i < q → row.getD i 0 ≠ u
def SawWTo (row : List Int) (ws : List Bool) (u : Int) (q : Nat) (b : Bool) : Prop := b = false → ∀ i, i < q → row.getD i 0 = u → ws.getD i false = false
def NoConfRows (T : List (List Int)) (B : List (List Bool)) (u v : Int) (j : Nat) : Prop := ∀ it, it < j → ¬ ConfRow (T.getD it []) (B.getD it []) u v
/-- There is such a pair in some row. -/
def ConfI (T : List (List Int)) (B : List (List Bool)) (u v : Int) : Prop := ∃ it, it < T.length ∧ ConfRow (T.getD it []) (B.getD it []) u v

theorem noConf_row {row : List Int} {ws : List Bool} {u v : Int} (h : NoConfTo row ws u v row.length) : ¬ ConfRow row ws u v := by
  rintro ⟨i, k, hik, hk, hu, hv, hw⟩
  have := h i k hik hk hu hv
  rcases hw with hw | hw
  · rw [this.1] at hw; cases hw
  · rw [this.2] at hw; cases hw

/-- One access more that ends no such pair. -/
theorem noConf_succ {row : List Int} {ws : List Bool} {u v : Int} {q : Nat} {b1 b2 : Bool} (h : NoConfTo row ws u v q) (h1 : SawTo row u q b1) (h2 : SawWTo row ws u q b2)
    (hn : row.getD q 0 = v → b2 = false ∧ (ws.getD q false = true → b1 = false)) : NoConfTo row ws u v (q + 1) := by
  intro i k hik hk hu hv
  by_cases e : k = q
  · subst e
    obtain ⟨hb2, hb1⟩ := hn hv
    refine ⟨h2 hb2 i hik hu, ?_⟩
    cases hw : ws.getD k false
    · rfl
    · exact absurd hu (h1 (hb1 hw) i hik)
  · exact h i k hik (by omega) hu hv

theorem saw_succ {row : List Int} {u : Int} {q : Nat} {b b' : Bool} (h : SawTo row u q b) (hb : b' = false → b = false ∧ row.getD q 0 ≠ u) : SawTo row u (q + 1) b' := by
  intro e i hi
  obtain ⟨h1, h2⟩ := hb e
  by_cases he : i = q
  · subst he; exact h2
  · exact h h1 i (by omega)
theorem sawW_succ {row : List Int} {ws : List Bool} {u : Int} {q : Nat} {b b' : Bool} (h : SawWTo row ws u q b) (hb : b' = false → b = false ∧ (row.getD q 0 = u → ws.getD q false = false)) : SawWTo row ws u (q + 1) b' := by
  intro e i hi hu
  obtain ⟨h1, h2⟩ := hb e
  by_cases he : i = q
  · subst he; exact h2 hu
  · exact h h1 i (by omega) hu

/-- It says yes where there is a conflict. -/
def SaysConf (T : List (List Int)) (B : List (List Bool)) (u v : Int) (e : Ending) : Prop := ∃ r, e = .returned (.bool r) ∧ (ConfI T B u v → r = true)
theorem saysYes (T : List (List Int)) (B : List (List Bool)) (u v : Int) : SaysConf T B u v (.returned (.bool true)) := ⟨true, rfl, fun _ => rfl⟩

set_option maxRecDepth 100000 in
set_option maxHeartbeats 4000000 in
/-- zzpb1Conflict. -/
theorem conflict14_any (a1 a2 : Option Addr) (c1 c2 : Nat) (T : List (List Int)) (B : List (List Bool)) (u v : Int) (w : World)
    (h1 : RdRows w a1 (T.map ints)) (h2 : RdRows w a2 (B.map bools)) (b1 : T.length ≤ 1048576) (b3 : ∀ it, it < T.length → (T.getD it []).length ≤ 1048576) (hTB : T.length = B.length) (hrow : ∀ it, it < T.length → (T.getD it []).length = (B.getD it []).length) :
    Calls Try.prog 14 #[.slice a1 T.length c1, .slice a2 B.length c2, .int .i64 u, .int .i64 v] w fun e w' => SaysConf T B u v e ∧ w' = w := by
  have H1 := hide h1
  have H2 := hide h2
  have B3 := hide b3
  have HTB := hide hTB
  have HR := hide hrow
  clear h1 h2 b3 hTB hrow
  go_enter Try.func14, Try.ntmps14
  go_wp2
  go_loop [9] (fun i => ∃ (j : Nat), j ≤ T.length ∧ i = .int .i64 j ∧ NoConfRows T B u v j) (fun i => T.length - (intOf i).toNat)
  case atStart => exact ⟨0, Nat.zero_le _, rfl, fun it h => absurd h (Nat.not_lt_zero _)⟩
  case round =>
    obtain ⟨j, hj, rfl, hno⟩ := hrel
    have HN := hide hno
    clear hno
    by_cases hlj : j < T.length
    · obtain ⟨b, off, ar, cr, e1, hc1, hr1⟩ := (unhide H1).int hlj
      obtain ⟨b', off', ar', cr', e2, hc2, hr2⟩ := (unhide H2).bool (show j < B.length by rw [← unhide HTB]; exact hlj)
      subst e1 e2
      have hlji2 : (j : Int) < (B.length : Int) := by have := unhide HTB; omega
      have hl := unhide HR j hlj
      have hmB := unhide B3 j hlj
      obtain ⟨row, hrow⟩ : ∃ row, row = T.getD j [] := ⟨_, rfl⟩
      obtain ⟨ws, hws⟩ : ∃ ws, ws = B.getD j [] := ⟨_, rfl⟩
      rw [← hl] at hc2
      rw [← hrow] at hc1 hr1 hmB hl hc2
      rw [← hws] at hr2 hl
      have HROW := hide hrow
      have HWS := hide hws
      have HLEN := hide hl
      have R1 := hide hr1
      have R2 := hide hr2
      clear hrow hws hl hr1 hr2
      obtain ⟨m, hm⟩ : ∃ m, m = row.length := ⟨_, rfl⟩
      rw [← hm] at hc1 hc2 hmB
      have HM := hide hm
      clear hm
      go_wp2
      go_loop [10, 11, 12] (fun s1 s2 i => ∃ (q : Nat) (p1 p2 : Bool), q ≤ m ∧ i = .int .i64 q ∧ s1 = .bool p1 ∧ s2 = .bool p2 ∧ SawTo row u q p1 ∧ SawWTo row ws u q p2 ∧ NoConfTo row ws u v q) (fun _ _ i => m - (intOf i).toNat)
      case atStart => exact ⟨0, false, false, Nat.zero_le _, rfl, rfl, rfl, fun _ i h => absurd h (Nat.not_lt_zero _), fun _ i h => absurd h (Nat.not_lt_zero _), fun i k _ h => absurd h (Nat.not_lt_zero _)⟩
      case round =>
        obtain ⟨q, p1, p2, hq, rfl, rfl, rfl, hs1, hs2, hnc⟩ := hrel
        have S1 := hide hs1
        have S2 := hide hs2
        have NC := hide hnc
        clear hs1 hs2 hnc
        by_cases hlq : q < m
        · obtain ⟨b3, off3, e3, hc3⟩ := (unhide R1).int (show q < row.length by rw [← unhide HM]; exact hlq)
          obtain ⟨b4, off4, e4, hc4⟩ := (unhide R2).bool (show q < ws.length by rw [← unhide HLEN, ← unhide HM]; exact hlq)
          subst e3 e4
          obtain ⟨t, ht⟩ : ∃ t, t = row.getD q 0 := ⟨_, rfl⟩
          obtain ⟨x, hx⟩ : ∃ x, x = ws.getD q false := ⟨_, rfl⟩
          rw [← ht] at hc3
          rw [← hx] at hc4
          have HT := hide ht
          have HX := hide hx
          clear ht hx
          have fin : ∀ b1' b2' : Bool, (t = v → p2 = false ∧ (x = true → p1 = false)) → (b1' = false → p1 = false ∧ t ≠ u) → (b2' = false → p2 = false ∧ (t = u → x = false)) →
              SawTo row u (q + 1) b1' ∧ SawWTo row ws u (q + 1) b2' ∧ NoConfTo row ws u v (q + 1) := fun b1' b2' k0 k1 k2 =>
            ⟨saw_succ (unhide S1) (by rw [← unhide HT]; exact k1), sawW_succ (unhide S2) (by rw [← unhide HT, ← unhide HX]; exact k2), noConf_succ (unhide NC) (unhide S1) (unhide S2) (by rw [← unhide HT, ← unhide HX]; exact k0)⟩
          have FIN := hide fin
          clear fin
          cases hv : (t == v) <;> cases hu : (t == u) <;> cases x <;> cases p1 <;> cases p2
          all_goals
            have hv' := hide hv
            have hu' := hide hu
            go_wp2
            first
              | (go_ret; exact ⟨saysYes _ _ _ _, rfl⟩)
              | (go_round
                 case rel =>
                   refine ⟨q + 1, _, _, by omega, by go_num, rfl, rfl, ?_⟩
                   refine unhide FIN _ _ ?_ ?_ ?_
                   · first | exact fun e => absurd e (beq_eq_false_iff_ne.1 (unhide hv')) | exact fun _ => ⟨rfl, fun _ => rfl⟩ | exact fun _ => ⟨rfl, fun h => Bool.noConfusion h⟩
                   · first | exact fun _ => ⟨rfl, beq_eq_false_iff_ne.1 (unhide hu')⟩ | exact fun h => Bool.noConfusion h
                   · first | exact fun _ => ⟨rfl, fun _ => rfl⟩ | exact fun _ => ⟨rfl, fun e => absurd e (beq_eq_false_iff_ne.1 (unhide hu'))⟩ | exact fun h => Bool.noConfusion h
                 case measure => simp [intOf]; omega)
        · obtain rfl : q = m := by omega
          go_wp2
          go_round
          case rel =>
            refine ⟨j + 1, by omega, by go_num, fun it hit => ?_⟩
            by_cases e : it = j
            · subst e
              rw [← unhide HROW, ← unhide HWS]
              refine noConf_row ?_
              rw [← unhide HM]
              exact unhide NC
            · exact unhide HN it (by omega)
          case measure => simp [intOf]; omega
    · go_wp2
      go_ret
      refine ⟨⟨false, rfl, fun ⟨it, hit, hc⟩ => absurd hc (unhide HN it (by omega))⟩, rfl⟩
end Go.Proofs.Qxb6614980a
