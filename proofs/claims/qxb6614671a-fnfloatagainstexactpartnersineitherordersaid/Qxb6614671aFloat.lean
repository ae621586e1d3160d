/-
  The walk of 'compare.floatAgainstExact' and what lies under it: one contract a function.
-/
import Derived.Test.Qxb6614671aRows
import Derived.WalkKit
import Derived.ProofKit
namespace Go.Proofs.Qxb6614671a
open Go.ChangeShapes Go.WideShapes Go.ChangeAt Go.RowKit

/-- 'either': s and t are a and b, in either order. -/
def eithB (s t a b : Int) : Bool := (s == a && t == b) || (s == b && t == a)

/-- 'floatAgainstExact': a float (6) against an integer (1) or a decimal (3). -/
def faeB (s t : Int) : Bool := eithB s t 6 1 || eithB s t 6 3

theorem eith_any (s t a b : Int) (w : World) :
    Calls Try.prog 15 #[.int .i64 s, .int .i64 t, .int .i64 a, .int .i64 b] w fun e w' => e = .returned (.bool (eithB s t a b)) ∧ w' = w := by
  unfold eithB
  by_cases h1 : s = a <;> by_cases h2 : t = b <;> by_cases h3 : s = b <;> by_cases h4 : t = a
  all_goals
    have g1 : (s == a) = decide (s = a) := rfl
    have g2 : (t == b) = decide (t = b) := rfl
    have g3 : (s == b) = decide (s = b) := rfl
    have g4 : (t == a) = decide (t = a) := rfl
    simp only [h1, h2, h3, h4, decide_true, decide_false] at g1 g2 g3 g4
    go_enter Try.func15, Try.ntmps15
    go_wp2
    all_goals
      go_ret
      simp [*]

theorem fae13_any (s t : Int) (w : World) :
    Calls Try.prog 13 #[.int .i64 s, .int .i64 t] w fun e w' => e = .returned (.bool (faeB s t)) ∧ w' = w := by
  unfold faeB
  cases h : eithB s t 6 1
  · go_enter Try.func13, Try.ntmps13
    go_wp2_with fail
    refine (eith_any _ _ _ _ _).mono ?_
    rintro e w' ⟨rfl, rfl⟩
    go_wp2_with fail
    refine (eith_any _ _ _ _ _).mono ?_
    rintro e w' ⟨rfl, rfl⟩
    go_wp2
    go_ret
    simp
  · go_enter Try.func13, Try.ntmps13
    go_wp2_with fail
    refine (eith_any _ _ _ _ _).mono ?_
    rintro e w' ⟨rfl, rfl⟩
    go_wp2
    go_ret
    simp

theorem fae_any (s t : Int) (w : World) :
    Calls Try.prog 11 #[.int .i64 s, .int .i64 t] w fun e w' => e = .returned (.bool (faeB s t)) ∧ w' = w := by
  go_enter Try.func11, Try.ntmps11
  go_wp2_with fail
  refine (fae13_any _ _ _).mono ?_
  rintro e w' ⟨rfl, rfl⟩
  go_wp2
  go_ret
  simp

end Go.Proofs.Qxb6614671a
