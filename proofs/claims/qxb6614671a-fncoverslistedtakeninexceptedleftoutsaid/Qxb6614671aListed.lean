/-
  The walk of 'FnCoversListedTakenInExceptedLeftOut'.
-/
import Derived.Test.Qxb6614671aCopy
namespace Go.Proofs.Qxb6614671a
open Go.ChangeShapes Go.WideShapes Go.ChangeAt Go.RowKit

theorem Strs.cell {w : World} {b off n c : Nat} {ss : List ByteArray} (h : Strs w (.slice (some ⟨b, off, none⟩) n c) ss) {k : Nat} (hk : k < n) :
    w.cell? ⟨b, off + k, none⟩ = some (.string (ss.getD k ByteArray.empty)) := by
  rcases h with ⟨rfl, a', c', hv⟩ | ⟨b', off', c', hv, hc⟩
  · cases hv; omega
  · cases hv
    exact hc k hk

theorem strs_of_owns {w : World} {base g n cap : Nat} {ss : List ByteArray} (h : w.ownsRow base 9 1 (.slice (some ⟨g, 0, none⟩) n cap) n (cellsOf ss)) : Strs w (.slice (some ⟨g, 0, none⟩) n cap) ss := by
  obtain ⟨hl, h | ⟨g', cap', cur, hv, _, hh, hnc, _, hsz, htk⟩⟩ := h
  · cases h.1
  · cases hv
    have hn : ss.length = n := by simpa [cellsOf] using hl
    have e : cur = (cellsOf ss ++ cur.toList.drop (n * 1)).toArray := by
      rw [← htk, List.take_append_drop]
    rw [e] at hh
    exact strs_of_row hh hn

/-- The list with x put in at place m, as far as place k. -/
def insTo (ss : List ByteArray) (m : Nat) (x : ByteArray) (k : Nat) : List ByteArray := ss.take m ++ x :: (ss.drop m).take (k - m)

theorem take_snoc (ss : List ByteArray) (k : Nat) (h : k < ss.length) : cellsOf (ss.take k) ++ [.string (ss.getD k ByteArray.empty)] = cellsOf (ss.take (k + 1)) := by
  rw [List.take_succ_eq_append_getElem h]
  unfold cellsOf
  rw [List.map_append]
  simp [List.getD, h]

theorem ins_zero (ss : List ByteArray) (m : Nat) (x : ByteArray) : cellsOf (ss.take m) ++ [.string x] = cellsOf (insTo ss m x m) := by
  simp [cellsOf, insTo]

theorem ins_snoc (ss : List ByteArray) (m : Nat) (x : ByteArray) (k : Nat) (hm : m ≤ k) (h : k < ss.length) : cellsOf (insTo ss m x k) ++ [.string (ss.getD k ByteArray.empty)] = cellsOf (insTo ss m x (k + 1)) := by
  unfold insTo
  have hd : (ss.drop m).take (k + 1 - m) = (ss.drop m).take (k - m) ++ [ss.getD k ByteArray.empty] := by
    rw [show k + 1 - m = (k - m) + 1 by omega, List.take_succ_eq_append_getElem (by simp; omega)]
    simp only [List.getElem_drop]
    congr 2
    simp only [List.getD, List.getElem?_eq_getElem h, Option.getD_some]
    congr 1
    omega
  rw [hd]
  simp [cellsOf]

theorem cov_ins (ss : List ByteArray) (m : Nat) (x : ByteArray) (k : Nat) : covB (insTo ss m x k) [] x = true ∧ covB [] (insTo ss m x k) x = false := by
  have h : Lib.containsS (insTo ss m x k) x = true := by rw [Lib.containsS_iff]; simp [insTo]
  have hne : insTo ss m x k ≠ [] := by simp [insTo]
  constructor
  · simp [covB, hne, h]
  · simp [covB, h]

theorem cov_opp (ss : List ByteArray) (x : ByteArray) (h : ss ≠ []) : (covB [] ss x == covB ss [] x) = false := by
  simp [covB, h]

theorem len_ins (ss : List ByteArray) (m : Nat) (x : ByteArray) (k : Nat) (hm : m ≤ k) (hk : k ≤ ss.length) : (insTo ss m x k).length = k + 1 := by
  simp [insTo]; omega

set_option maxHeartbeats 4000000 in
theorem walk3 (a0 : Option Addr) (n c : Nat) (ss : List ByteArray) (i : Int) (x : ByteArray) (w : World) (h0 : Strs w (.slice a0 n c) ss)
    (l0 : ss.length = n) (z0 : a0 = none → n = 0 ∧ c = 0) (_wi : (Lit.int .i64 i).wf = true) :
    Calls Try.prog 3 #[.slice a0 n c, .int .i64 i, .string x] w fun e w' => e = .returned (.bool true) ∧ Below w.heap.size w w' := by
  have q22 : ∀ (w : World) (a : Option Addr) (n c n' c' : Nat), (binOp .neq 22 (.slice a n c) (.slice none n' c')).run Try.prog w = .ok (.bool (!a.isNone)) w := fun w a n c n' c' => run_neq_slice_nil_any w 22 9 a n c n' c' Try.underlying22
  obtain ⟨i0, hi, hz0, hz1, hz2⟩ := info_parts info9
  have Hi := hide hi
  have Hz0 := hide hz0
  have Hz1 := hide hz1
  have Hz2 := hide hz2
  clear hi hz0 hz1 hz2
  have L0 := hide l0
  have Z0 := hide z0
  clear l0 z0 _wi
  by_cases hb0 : n ≤ 65536
  by_cases hbx : x.size ≤ 1048576
  by_cases hk0 : 0 ≤ i
  by_cases hk1 : i ≤ n
  · obtain ⟨m, rfl⟩ := Int.eq_ofNat_of_zero_le hk0
    have hm0 := run_make_row' (P := Try.prog) 22 9 (.string ByteArray.empty) 16 Try.underlying22 info9 rfl .i64 .i64 n (by omega) (by omega)
    go_enter Try.func3, Try.ntmps3
    go_wp2_with fail
    refine (bytes7_any a0 n c ss _ x _ h0).mono ?_
    rintro e w' ⟨⟨r, rfl⟩, rfl⟩
    cases r
    · go_wp2
      go_ret
      exact ⟨rfl, Below.refl _ _⟩
    go_wp2_with fail
    refine (over8_any a0 none n c 0 0 ss [] x _ h0 (Strs.nil _) (by omega) (by omega)).mono ?_
    rintro e w' ⟨⟨r, rfl⟩, rfl⟩
    cases r
    case' true =>
      go_wp2
      go_ret
      exact ⟨rfl, Below.refl _ _⟩
    have hss : ss.length ≤ 9223372036854775807 := by have := unhide L0; omega
    cases a0
    case none =>
      obtain ⟨rfl, rfl⟩ := unhide Z0 rfl
      obtain rfl : m = 0 := by omega
      obtain rfl : ss = [] := List.eq_nil_of_length_eq_zero (unhide L0)
      go_wp2_with (at_make; refine wpList_make_own _ rfl (.const (.int .i64 0)) (.tmp 46) 22 rfl w'.heap.size 9 i0 (.string ByteArray.empty) 1 Try.underlying22 (unhide Hi) (unhide Hz0) (unhide Hz1) _ _ _ 1 rfl rfl (by omega) (by rw [unhide Hz2]; omega) (by unfold maxLen; omega) (Nat.le_refl _) ?_; intro w2 hown2 hgrow2)
      have hB2 : Below w'.heap.size w' w2 := (Below.refl _ _).grown hgrow2 (Nat.le_refl _) (fun k h => by cases h)
      clear hgrow2 h0
      go_loopw [8, 9] (fun v j wr => j = .int .i64 0 ∧ v = .slice (some ⟨w'.heap.size, 0, none⟩) 0 1 ∧ wr.ownsRow w'.heap.size 9 1 (.slice (some ⟨w'.heap.size, 0, none⟩) 0 1) 0 [] ∧ Below w'.heap.size w' wr) (fun _ _ _ => 0)
      case atStart => exact ⟨rfl, rfl, hown2, hB2⟩
      case round =>
        obtain ⟨rfl, rfl, hown, hB⟩ := hrel
        clear hown2 hB2
        go_wp2_with (at_builtin; refine wpList_append_fits _ rfl (.tmp 60) (.tmp 62) 22 rfl w'.heap.size 9 i0 1 Try.underlying22 (unhide Hi) (unhide Hz1) w'.heap.size 0 1 _ rfl (hown.alloc _) ⟨wr.heap.size, 0, none⟩ 1 1 [.string x] rfl rfl (by intro t u ht; match t, ht with | 0, ht => simp at ht; subst ht; simp [Addr.add]) (by intro u hu; simp at hu; subst hu; rfl) (by omega) ?_; intro w3 hown3 hgrow3)
        have hB3 : Below w'.heap.size w' w3 := (hB.alloc hB.size _).grown hgrow3 (by simp; have := hB.size; omega) (fun k hk => by cases hk; exact Nat.le_refl _)
        clear hown hB hgrow3
        go_loopw [8, 10] (fun v j wr => j = .int .i64 0 ∧ v = .slice (some ⟨w'.heap.size, 0, none⟩) 1 1 ∧ wr.ownsRow w'.heap.size 9 1 (.slice (some ⟨w'.heap.size, 0, none⟩) 1 1) 1 (cellsOf [x]) ∧ Below w'.heap.size w' wr) (fun _ _ _ => 0)
        case atStart => exact ⟨rfl, rfl, hown3, hB3⟩
        case round =>
          obtain ⟨rfl, rfl, hown, hB⟩ := hrel
          have sI := strs_of_owns hown
          have bX := hB
          clear hown hB hown3 hB3
          go_wp2_with fail
          refine (zzcovers_any _ _ (insTo [] 0 x 0) [] x _ sI (Strs.nil _) (by simp [insTo]) (by simp)).mono ?_
          rintro e w5 ⟨rfl, b5⟩
          rw [(cov_ins [] 0 x 0).1]
          replace sI := sI.keeps (keeps_of_below b5)
          replace bX := below_trans bX b5
          clear b5
          go_wp2_with fail
          refine (zzcovers_any _ _ [] (insTo [] 0 x 0) x _ (Strs.nil _) sI (by simp) (by simp [insTo])).mono ?_
          rintro e w6 ⟨rfl, b6⟩
          rw [(cov_ins [] 0 x 0).2]
          replace bX := below_trans bX b6
          clear b6 sI
          go_wp2
          go_ret
          exact ⟨rfl, bX⟩
    case some y0 =>
      go_wp2_with (first
        | ((with_reducible refine wpList_copy_made ?_ (.tmp 40) (.tmp 41) ?_ (some y0) n c ?_ ?_ ss h0 (unhide L0) ?_); exact rfl; exact rfl; exact rfl; exact rfl; intro w1 s1 b1)
        | (at_make; refine wpList_make_own _ rfl (.const (.int .i64 0)) (.tmp 46) 22 rfl w1.heap.size 9 i0 (.string ByteArray.empty) 1 Try.underlying22 (unhide Hi) (unhide Hz0) (unhide Hz1) _ _ _ (n + 1) rfl rfl (by omega) (by rw [unhide Hz2]; omega) (by unfold maxLen; omega) (Nat.le_refl _) ?_; intro w2 hown2 hgrow2))
      have hmn : m ≤ n := by omega
      have hB2 : Below w1.heap.size w1 w2 := (Below.refl _ _).grown hgrow2 (Nat.le_refl _) (fun k h => by cases h)
      clear hgrow2 h0
      go_loopw [8, 9] (fun v j wr => ∃ k : Nat, k ≤ m ∧ j = .int .i64 k ∧ v = .slice (some ⟨w1.heap.size, 0, none⟩) k (n + 1) ∧ wr.ownsRow w1.heap.size 9 1 (.slice (some ⟨w1.heap.size, 0, none⟩) k (n + 1)) k (cellsOf (ss.take k)) ∧ Below w1.heap.size w1 wr) (fun _ j _ => m - (intOf j).toNat)
      case atStart => exact ⟨0, Nat.zero_le _, rfl, rfl, hown2, hB2⟩
      case round =>
        obtain ⟨k, hk, rfl, rfl, hown, hB⟩ := hrel
        by_cases hlt : k < m
        · have hcell : ∃ s, s = ss.getD k ByteArray.empty ∧ wr.cell? ⟨w'.heap.size, k, none⟩ = some (.string s) := ⟨_, rfl, by have := (s1.keeps (keeps_of_below hB)).cell (show k < n by omega); rwa [Nat.zero_add] at this⟩
          obtain ⟨s, hs, hcell⟩ := hcell
          have HS := hide hs
          clear hs
          have hkn : k < n := by omega
          go_wp2_with (at_builtin; refine wpList_append_fits _ rfl (.tmp 53) (.tmp 58) 22 rfl w1.heap.size 9 i0 1 Try.underlying22 (unhide Hi) (unhide Hz1) w1.heap.size k (n + 1) _ rfl (hown.alloc _) ⟨wr.heap.size, 0, none⟩ 1 1 [.string s] rfl rfl (by intro t u ht; match t, ht with | 0, ht => simp at ht; subst ht; simp [Addr.add]) (by intro u hu; simp at hu; subst hu; rfl) (by omega) ?_; intro w3 hown3 hgrow3)
          go_roundw
          case rel =>
            refine ⟨k + 1, by omega, by go_num, rfl, ?_, (hB.alloc hB.size _).grown hgrow3 (by simp; have := hB.size; omega) (fun k hk => by cases hk; exact Nat.le_refl _)⟩
            rw [← take_snoc ss k (by have := unhide L0; omega), ← unhide HS]
            exact hown3
          case measure => simp [intOf]; omega
        · obtain rfl : k = m := by omega
          go_wp2_with (at_builtin; refine wpList_append_fits _ rfl (.tmp 60) (.tmp 62) 22 rfl w1.heap.size 9 i0 1 Try.underlying22 (unhide Hi) (unhide Hz1) w1.heap.size k (n + 1) _ rfl (hown.alloc _) ⟨wr.heap.size, 0, none⟩ 1 1 [.string x] rfl rfl (by intro t u ht; match t, ht with | 0, ht => simp at ht; subst ht; simp [Addr.add]) (by intro u hu; simp at hu; subst hu; rfl) (by omega) ?_; intro w3 hown3 hgrow3)
          rw [ins_zero ss k x] at hown3
          have hB3 : Below w1.heap.size w1 w3 := (hB.alloc hB.size _).grown hgrow3 (by simp; have := hB.size; omega) (fun k hk => by cases hk; exact Nat.le_refl _)
          clear hown hB hgrow3
          go_loopw [8, 10] (fun v j wr => ∃ q : Nat, k ≤ q ∧ q ≤ n ∧ j = .int .i64 q ∧ v = .slice (some ⟨w1.heap.size, 0, none⟩) (q + 1) (n + 1) ∧ wr.ownsRow w1.heap.size 9 1 (.slice (some ⟨w1.heap.size, 0, none⟩) (q + 1) (n + 1)) (q + 1) (cellsOf (insTo ss k x q)) ∧ Below w1.heap.size w1 wr) (fun _ j _ => n - (intOf j).toNat)
          case atStart => exact ⟨k, Nat.le_refl _, hmn, rfl, rfl, hown3, hB3⟩
          case round =>
            obtain ⟨q, hkq, hqn, rfl, rfl, hown, hB⟩ := hrel
            by_cases hlt : q < n
            · have hcell : ∃ s, s = ss.getD q ByteArray.empty ∧ wr.cell? ⟨w'.heap.size, q, none⟩ = some (.string s) := ⟨_, rfl, by have := (s1.keeps (keeps_of_below hB)).cell hlt; rwa [Nat.zero_add] at this⟩
              obtain ⟨s, hs, hcell⟩ := hcell
              have HS := hide hs
              clear hs
              go_wp2_with (at_builtin; refine wpList_append_fits _ rfl (.tmp 71) (.tmp 76) 22 rfl w1.heap.size 9 i0 1 Try.underlying22 (unhide Hi) (unhide Hz1) w1.heap.size (q + 1) (n + 1) _ rfl (hown.alloc _) ⟨wr.heap.size, 0, none⟩ 1 1 [.string s] rfl rfl (by intro t u ht; match t, ht with | 0, ht => simp at ht; subst ht; simp [Addr.add]) (by intro u hu; simp at hu; subst hu; rfl) (by omega) ?_; intro w4 hown4 hgrow4)
              go_roundw
              case rel =>
                refine ⟨q + 1, by omega, by omega, by go_num, rfl, ?_, (hB.alloc hB.size _).grown hgrow4 (by simp; have := hB.size; omega) (fun k hk => by cases hk; exact Nat.le_refl _)⟩
                rw [← ins_snoc ss k x q hkq (by have := unhide L0; omega), ← unhide HS]
                exact hown4
              case measure => simp [intOf]; omega
            · obtain rfl : q = n := by omega
              have sI := strs_of_owns hown
              replace s1 := s1.keeps (keeps_of_below hB)
              have bX := below_trans b1 hB
              clear hown hB hown3 hB3 b1
              have hli : (insTo ss k x q).length ≤ 9223372036854775807 := by rw [len_ins ss k x q hkq (by have := unhide L0; omega)]; omega
              go_wp2_with fail
              refine (zzcovers_any _ _ (insTo ss k x q) [] x _ sI (Strs.nil _) hli (by simp)).mono ?_
              rintro e w5 ⟨rfl, b5⟩
              rw [(cov_ins ss k x q).1]
              replace s1 := s1.keeps (keeps_of_below b5)
              replace sI := sI.keeps (keeps_of_below b5)
              replace bX := below_trans bX b5
              clear b5
              go_wp2_with fail
              refine (zzcovers_any _ _ [] (insTo ss k x q) x _ (Strs.nil _) sI (by simp) hli).mono ?_
              rintro e w6 ⟨rfl, b6⟩
              rw [(cov_ins ss k x q).2]
              replace s1 := s1.keeps (keeps_of_below b6)
              replace bX := below_trans bX b6
              clear b6 sI
              by_cases hq : q = 0
              · subst hq
                go_wp2
                go_ret
                exact ⟨rfl, bX⟩
              · have hp : (0 : Int) < (q : Int) := by omega
                have hne : ss ≠ [] := by
                  intro h
                  have := unhide L0
                  rw [h] at this
                  exact hq this.symm
                have hopp := cov_opp ss x hne
                clear hne
                go_wp2_with fail
                refine (zzcovers_any _ _ [] ss x _ (Strs.nil _) s1 (by simp) hss).mono ?_
                rintro e w7 ⟨rfl, b7⟩
                replace s1 := s1.keeps (keeps_of_below b7)
                replace bX := below_trans bX b7
                clear b7
                go_wp2_with fail
                refine (zzcovers_any _ _ ss [] x _ s1 (Strs.nil _) hss (by simp)).mono ?_
                rintro e w8 ⟨rfl, b8⟩
                replace bX := below_trans bX b8
                clear b8
                go_wp2
                go_ret
                exact ⟨rfl, bX⟩
  all_goals
    go_enter Try.func3, Try.ntmps3
    go_wp2_with fail
    refine (bytes7_any a0 n c ss _ x _ h0).mono ?_
    rintro e w' ⟨⟨r, rfl⟩, rfl⟩
    cases r
    · go_wp2
      go_ret
      exact ⟨rfl, Below.refl _ _⟩
    go_wp2_with fail
    try (refine (over8_any a0 none n c 0 0 ss [] x _ h0 (Strs.nil _) (by omega) (by omega)).mono ?_; rintro e w' ⟨⟨r, rfl⟩, rfl⟩; cases r; all_goals go_wp2)
    all_goals
      go_ret
      exact ⟨rfl, Below.refl _ _⟩

end Go.Proofs.Qxb6614671a
