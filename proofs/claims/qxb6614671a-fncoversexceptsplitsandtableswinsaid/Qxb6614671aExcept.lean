/-
  The walk of 'FnCoversExceptSplitsAndTablesWin'.
-/
import Derived.Test.Qxb6614671aCopy
namespace Go.Proofs.Qxb6614671a
open Go.ChangeShapes Go.WideShapes Go.ChangeAt Go.RowKit

set_option maxHeartbeats 4000000 in
theorem walk4 (a0 a1 : Option Addr) (n0 c0 n1 c1 : Nat) (ts es : List ByteArray) (x : ByteArray) (k : Int) (w : World) (h0 : Strs w (.slice a0 n0 c0) ts) (h1 : Strs w (.slice a1 n1 c1) es)
    (l0 : ts.length = n0) (l1 : es.length = n1) (z0 : a0 = none → n0 = 0 ∧ c0 = 0) (z1 : a1 = none → n1 = 0 ∧ c1 = 0) :
    Calls Try.prog 4 #[.slice a0 n0 c0, .slice a1 n1 c1, .string x, .int .i64 k] w fun e w' => e = .returned (.bool true) ∧ Below w.heap.size w w' := by
  have q22 : ∀ (w : World) (a : Option Addr) (n c n' c' : Nat), (binOp .neq 22 (.slice a n c) (.slice none n' c')).run Try.prog w = .ok (.bool (!a.isNone)) w := fun w a n c n' c' => run_neq_slice_nil_any w 22 9 a n c n' c' Try.underlying22
  have L0 := hide l0
  have L1 := hide l1
  have Z0 := hide z0
  have Z1 := hide z1
  clear l0 l1 z0 z1
  by_cases hb0 : n0 ≤ 65536
  by_cases hb1 : n1 ≤ 65536
  by_cases hbx : x.size ≤ 1048576
  by_cases hk0 : 0 ≤ k
  by_cases hk1 : k ≤ n1
  · obtain ⟨m, rfl⟩ := Int.eq_ofNat_of_zero_le hk0
    have hm0 := run_make_row' (P := Try.prog) 22 9 (.string ByteArray.empty) 16 Try.underlying22 info9 rfl .i64 .i64 n0 (by omega) (by omega)
    have hm1 := run_make_row' (P := Try.prog) 22 9 (.string ByteArray.empty) 16 Try.underlying22 info9 rfl .i64 .i64 n1 (by omega) (by omega)
    go_enter Try.func4, Try.ntmps4
    go_wp2_with fail
    refine (bytes10_any a0 a1 n0 c0 n1 c1 ts es _ x _ h0 h1).mono ?_
    rintro e w' ⟨⟨r, rfl⟩, rfl⟩
    cases r
    · go_wp2
      go_ret
      exact ⟨rfl, Below.refl _ _⟩
    go_wp2_with fail
    refine (over8_any a0 a1 n0 c0 n1 c1 ts es x _ h0 h1 (by omega) (by omega)).mono ?_
    rintro e w' ⟨⟨r, rfl⟩, rfl⟩
    cases r
    · have hes : es.length ≤ 9223372036854775807 := by have := unhide L1; omega
      have hts : ts.length ≤ 9223372036854775807 := by have := unhide L0; omega
      have hsp := hide (cov_split es m x)
      rcases a1 with _ | y1
      · obtain ⟨rfl, rfl⟩ := unhide Z1 rfl
        obtain rfl : m = 0 := by omega
        obtain rfl : es = [] := List.eq_nil_of_length_eq_zero (unhide L1)
        clear hsp
        rcases a0 with _ | y0
        · obtain ⟨rfl, rfl⟩ := unhide Z0 rfl
          obtain rfl : ts = [] := List.eq_nil_of_length_eq_zero (unhide L0)
          have bX := Below.refl w'.heap.size w'
          go_wp2_with (go_at_call 9; refine (zzcovers_any _ _ [] [] x _ (Strs.nil _) (Strs.nil _) (by simp) (by simp)).mono ?_; rintro e w3 ⟨rfl, b3⟩; rw [cov_nil]; replace bX := below_trans bX b3; clear b3)
          go_ret
          exact ⟨rfl, bX⟩
        · go_wp2_with ((with_reducible refine wpList_copy_made ?_ (.tmp 50) (.tmp 51) ?_ (some y0) n0 c0 ?_ ?_ ts h0 (unhide L0) ?_); exact rfl; exact rfl; exact rfl; exact rfl; intro w1 s1 b1)
          refine (zzcovers_any _ _ [] [] x _ (Strs.nil _) (Strs.nil _) (by simp) (by simp)).mono ?_
          rintro e w3 ⟨rfl, b3⟩
          rw [cov_nil]
          replace s1 := s1.keeps (keeps_of_below b3)
          replace b1 := below_trans b1 b3
          clear b3 h0 h1
          go_wp2_with fail
          refine (zzcovers_any _ _ [] [] x _ (Strs.nil _) (Strs.nil _) (by simp) (by simp)).mono ?_
          rintro e w4 ⟨rfl, b4⟩
          rw [cov_nil]
          replace s1 := s1.keeps (keeps_of_below b4)
          replace b1 := below_trans b1 b4
          clear b4
          go_wp2_with fail
          refine (zzcovers_any _ _ [] [] x _ (Strs.nil _) (Strs.nil _) (by simp) (by simp)).mono ?_
          rintro e w5 ⟨rfl, b5⟩
          rw [cov_nil]
          replace s1 := s1.keeps (keeps_of_below b5)
          replace b1 := below_trans b1 b5
          clear b5
          go_wp2_with fail
          refine (zzcovers_any _ _ [] [] x _ (Strs.nil _) (Strs.nil _) (by simp) (by simp)).mono ?_
          rintro e w6 ⟨rfl, b6⟩
          rw [cov_nil]
          replace s1 := s1.keeps (keeps_of_below b6)
          replace b1 := below_trans b1 b6
          clear b6
          go_wp2_with fail
          refine (zzcovers_any _ _ ts [] x _ s1 (Strs.nil _) hts (by simp)).mono ?_
          rintro e w7 ⟨rfl, b7⟩
          replace s1 := s1.keeps (keeps_of_below b7)
          replace b1 := below_trans b1 b7
          clear b7
          by_cases ht : n0 = 0
          · obtain rfl : ts = [] := List.eq_nil_of_length_eq_zero (by rw [unhide L0, ht])
            subst ht
            rw [cov_nil]
            go_wp2
            go_ret
            exact ⟨rfl, b1⟩
          · have hp : (0 : Int) < (n0 : Int) := by omega
            go_wp2_with fail
            refine (zzcovers_any _ _ ts [] x _ s1 (Strs.nil _) hts (by simp)).mono ?_
            rintro e w8 ⟨rfl, b8⟩
            replace b1 := below_trans b1 b8
            go_wp2
            go_ret
            exact ⟨by simp, b1⟩
      · cases a0
        case' none =>
          obtain ⟨rfl, rfl⟩ := unhide Z0 rfl
          go_wp2_with ((with_reducible refine wpList_copy_made ?_ (.tmp 59) (.tmp 60) ?_ (some y1) n1 c1 ?_ ?_ es h1 (unhide L1) ?_); exact rfl; exact rfl; exact rfl; exact rfl; intro w2 s2 bX)
          have sT : Strs w2 (.slice none 0 0) ts := .inl ⟨List.eq_nil_of_length_eq_zero (unhide L0), _, _, rfl⟩
        case' some y0 =>
          go_wp2_with (first
            | ((with_reducible refine wpList_copy_made ?_ (.tmp 50) (.tmp 51) ?_ (some y0) n0 c0 ?_ ?_ ts h0 (unhide L0) ?_); exact rfl; exact rfl; exact rfl; exact rfl; intro w1 s1 b1)
            | ((with_reducible refine wpList_copy_made ?_ (.tmp 59) (.tmp 60) ?_ (some y1) n1 c1 ?_ ?_ es (h1.keeps (keeps_of_below b1)) (unhide L1) ?_); exact rfl; exact rfl; exact rfl; exact rfl; intro w2 s2 b2))
          have sT : Strs w2 _ ts := s1.keeps (keeps_of_below b2)
          have bX := below_trans b1 b2
          clear b1 b2 s1
        all_goals
          refine (zzcovers_any _ _ [] [] x _ (Strs.nil _) (Strs.nil _) (by simp) (by simp)).mono ?_
          rintro e w3 ⟨rfl, b3⟩
          rw [cov_nil]
          replace sT := sT.keeps (keeps_of_below b3)
          replace s2 := s2.keeps (keeps_of_below b3)
          replace bX := below_trans bX b3
          clear b3 h0 h1
          go_wp2_with fail
          refine (zzcovers_any _ _ [] es x _ (Strs.nil _) s2 (by simp) hes).mono ?_
          rintro e w4 ⟨rfl, b4⟩
          replace sT := sT.keeps (keeps_of_below b4)
          replace s2 := s2.keeps (keeps_of_below b4)
          replace bX := below_trans bX b4
          clear b4
          go_wp2_with fail
          refine (zzcovers_any _ _ [] (es.take m) x _ (Strs.nil _) (strs_take s2 (unhide L1) (by omega)) (by simp) (by simp; omega)).mono ?_
          rintro e w5 ⟨rfl, b5⟩
          replace sT := sT.keeps (keeps_of_below b5)
          replace s2 := s2.keeps (keeps_of_below b5)
          replace bX := below_trans bX b5
          clear b5
          cases hc1 : covB [] (es.take m) x
          case' false =>
            have hsp' : covB [] es x = false := by rw [unhide hsp, hc1, Bool.false_and]
            rw [hsp']
          case' true =>
            have hsp' : covB [] es x = covB [] (es.drop m) x := by rw [unhide hsp, hc1, Bool.true_and]
            by_cases hmn : n1 = m
            case' pos =>
              subst hmn
              go_wp2_with fail
              refine (zzcovers_any _ _ [] (es.drop n1) x _ (Strs.nil _) (strs_drop_all (unhide L1) rfl) (by simp) (by simp; omega)).mono ?_
            case' neg =>
              go_wp2_with fail
              refine (zzcovers_any _ _ [] (es.drop m) x _ (Strs.nil _) (strs_drop0 s2 (unhide L1) (by omega)) (by simp) (by simp; omega)).mono ?_
            all_goals
              rintro e w6 ⟨rfl, b6⟩
              replace sT := sT.keeps (keeps_of_below b6)
              replace s2 := s2.keeps (keeps_of_below b6)
              replace bX := below_trans bX b6
              clear b6
              cases hc2 : covB [] (es.drop _) x
          all_goals
            go_wp2_with fail
            refine (zzcovers_any _ _ ts es x _ sT s2 hts hes).mono ?_
            rintro e w7 ⟨rfl, b7⟩
            replace sT := sT.keeps (keeps_of_below b7)
            replace bX := below_trans bX b7
            clear b7 s2
            by_cases ht : ts = []
            · rw [cov_both ts es x ht]
              have hn : ts.length = 0 := by rw [ht]; rfl
              rw [unhide L0] at hn
              try subst hn
              go_wp2
              go_ret
              exact ⟨by simp [*], bX⟩
            · have hp : (0 : Int) < (ts.length : Int) := by have := List.length_pos_iff.2 ht; omega
              rw [unhide L0] at hp
              rw [cov_some ts es x ht]
              first
                | (exfalso; exact absurd hp (by decide))
                | (go_wp2_with fail
                   refine (zzcovers_any _ _ ts [] x _ sT (Strs.nil _) hts (by simp)).mono ?_
                   rintro e w8 ⟨rfl, b8⟩
                   replace bX := below_trans bX b8
                   go_wp2
                   go_ret
                   exact ⟨by simp, bX⟩)
    · go_wp2
      go_ret
      exact ⟨rfl, Below.refl _ _⟩
  all_goals
    go_enter Try.func4, Try.ntmps4
    go_wp2_with fail
    refine (bytes10_any a0 a1 n0 c0 n1 c1 ts es _ x _ h0 h1).mono ?_
    rintro e w' ⟨⟨r, rfl⟩, rfl⟩
    cases r
    · go_wp2
      go_ret
      exact ⟨rfl, Below.refl _ _⟩
    go_wp2_with fail
    try (refine (over8_any a0 a1 n0 c0 n1 c1 ts es x _ h0 h1 (by omega) (by omega)).mono ?_; rintro e w' ⟨⟨r, rfl⟩, rfl⟩; cases r; all_goals go_wp2)
    all_goals
      go_ret
      exact ⟨rfl, Below.refl _ _⟩

end Go.Proofs.Qxb6614671a
