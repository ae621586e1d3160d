/-
  'Rows.FnFloatAgainstExactPartnersInEitherOrderSaid': the guide's shell, its walk filled in.
-/
import Derived.Test.Qxb6614671aFloat
import Derived.WalkKit
import Derived.ProofKit
import Derived.OpenShut
import Derived.ShutString
namespace Go.Proofs.Qxb6614671a.fnFloatAgainstExactPartnersInEitherOrder
open Go.ChangeShapes Go.WideShapes Go.ChangeAt Go.RowKit
open Go.ChangeMaps (open_string shut_string)
set_option linter.unusedVariables false      -- a walk need not use every 'w<i>' (that an integer argument fits its kind)

theorem own : ownKnob Try.prog.godebug = none := by kernel_rfl

/-! ### THE PLAIN LAW -/
theorem fae_symm (s t : Int) : faeB s t = faeB t s := by
  unfold faeB eithB
  cases s == 6 <;> cases s == 1 <;> cases s == 3 <;> cases t == 6 <;> cases t == 1 <;> cases t == 3 <;> rfl
theorem fae_none {s t : Int} (h : (s == 6) = false) (g : (t == 6) = false) : faeB s t = false := by
  unfold faeB eithB
  rw [h, g]; simp
def cnt (s : Int) : Nat → Int
  | 0 => 0
  | k + 1 => cnt s k + if faeB s ((k : Int) - 2) = true then 1 else 0
theorem cnt_bd (s : Int) : ∀ k, 0 ≤ cnt s k ∧ cnt s k ≤ k
  | 0 => by simp [cnt]
  | k + 1 => by
    have := cnt_bd s k
    simp only [cnt]
    split <;> omega
theorem cnt_want (s : Int) : cnt s 15 = if s = 1 ∨ s = 3 then 1 else if s = 6 then 2 else 0 := by
  by_cases h1 : s = 1
  · subst h1; decide
  by_cases h3 : s = 3
  · subst h3; decide
  by_cases h6 : s = 6
  · subst h6; decide
  simp [cnt, faeB, eithB, h1, h3, h6]

theorem walk0 (s t : Int) (w : World) :
    Calls Try.prog 5 #[.int .i64 s, .int .i64 t] w fun e w' => e = .returned (.bool true) ∧ w' = w := by
  have e1 := fae_symm t s
  have HW : Hid (cnt s 15 = if s = 1 ∨ s = 3 then 1 else if s = 6 then 2 else 0) := cnt_want s
  have hst : (faeB s t = false) ∨ (faeB s t = true ∧ (s == 6) = true) ∨ (faeB s t = true ∧ (s == 6) = false ∧ (t == 6) = true) := by
    cases h : faeB s t
    · exact .inl rfl
    · cases h1 : s == 6
      · cases h2 : t == 6
        · rw [fae_none h1 h2] at h; cases h
        · exact .inr (.inr ⟨rfl, rfl, rfl⟩)
      · exact .inr (.inl ⟨rfl, rfl⟩)
  rcases hst with hF | ⟨hF, h6⟩ | ⟨hF, h6, ht⟩
  all_goals
    rw [hF] at e1
    try (have h6n : (s != 6) = false := by simpa using h6)
    try (have h6n : (s != 6) = true := by simpa using h6)
    try (have htn : (t != 6) = false := by simpa using ht)
    go_enter Try.func5, Try.ntmps5
    go_wp2_with (go_at_call 11; refine (fae_any _ _ _).mono ?_; rintro e w' ⟨rfl, rfl⟩)
    go_loop [7, 8] (fun n u => ∃ k : Nat, k ≤ 15 ∧ u = .int .i64 ((k : Int) - 2) ∧ n = .int .i64 (cnt s k)) (fun _ u => (13 - intOf u).toNat)
    case atStart => exact ⟨0, by omega, rfl, rfl⟩
    case round =>
      obtain ⟨k, hk, rfl, rfl⟩ := hrel
      have hb := cnt_bd s k
      by_cases hlt : k < 15
      · cases hf : faeB s ((k : Int) - 2)
        · have hc : Hid (cnt s (k+1) = cnt s k) := by show cnt s (k+1) = cnt s k; rw [cnt, hf]; simp
          go_wp2_with (go_at_call 11; refine (fae_any _ _ _).mono ?_; rintro e w' ⟨rfl, rfl⟩)
          go_round
          case rel => exact ⟨k + 1, by omega, by go_num, by rw [hc.out]⟩
          case measure => simp [intOf]; omega
        · have hc : Hid (cnt s (k+1) = cnt s k + 1) := by show cnt s (k+1) = cnt s k + 1; rw [cnt, hf]; simp
          go_wp2_with (go_at_call 11; refine (fae_any _ _ _).mono ?_; rintro e w' ⟨rfl, rfl⟩)
          go_round
          case rel => exact ⟨k + 1, by omega, by go_num, by rw [hc.out]⟩
          case measure => simp [intOf]; omega
      · have hk15 : k = 15 := by omega
        subst hk15
        clear hb hk hlt
        have hw := HW.out
        by_cases c6 : s = 6
        · subst c6
          rw [if_neg (by decide), if_pos rfl] at hw
          rw [hw]
          go_wp2
          go_ret
          exact ⟨rfl, rfl⟩
        · by_cases c1 : s = 1
          · subst c1
            rw [if_pos (by decide)] at hw
            rw [hw]
            go_wp2
            go_ret
            exact ⟨rfl, rfl⟩
          · by_cases c3 : s = 3
            · subst c3
              rw [if_pos (by decide)] at hw
              rw [hw]
              go_wp2
              go_ret
              exact ⟨rfl, rfl⟩
            · rw [if_neg (by omega), if_neg c6] at hw
              rw [hw]
              first
                | exact absurd (beq_iff_eq.1 h6) c6
                | (have d6 : (s == 6) = false := beq_eq_false_iff_ne.2 c6
                   have d1 : (s == 1) = false := beq_eq_false_iff_ne.2 c1
                   have d3 : (s == 3) = false := beq_eq_false_iff_ne.2 c3
                   go_wp2
                   go_ret
                   exact ⟨rfl, rfl⟩)

/-! ### STEP 1: THE WALK: the Go text returns true. 'Grown w w'': the world has at most new blocks (Derived/RowKit3.lean). Part the cases AHEAD of 'go_enter' where a test parts the walk; take each callee by a contract of your own. -/
theorem walk (a0 : Int) (a1 : Int) (w0 : (Lit.int .i64 a0).wf = true) (w1 : (Lit.int .i64 a1).wf = true) (w : World) :
    Calls Try.prog 5 #[.int .i64 a0, .int .i64 a1] w fun e w' => e = .returned (.bool true) ∧ Grown w w' := by
  refine (walk0 a0 a1 w).mono ?_
  rintro e w' ⟨rfl, rfl⟩
  exact ⟨rfl, Grown.refl _⟩

/-! ### THE ROW's STEP: WRITTEN OUT: LEAVE IT -/
set_option maxRecDepth 100000 in
theorem lifted (os : Os) (started : os.Started) (H : Type) (enc : TypeId × Value → H) :
    ReturnsInHanded {} Try.checked os 5 .any (Rows.fnFloatAgainstExactPartnersInEitherOrderSpec.pre6 enc Try.prog Try.f5 Rows.fnFloatAgainstExactPartnersInEitherOrderRow.domain false) (Rows.fnFloatAgainstExactPartnersInEitherOrderSpec.post enc Try.prog Try.f5 false true false false) := by
  refine returnsInHanded_of_change (C := Try.checked) own started (by kernel_rfl) Try.func5
    (ChangeSpec.witness6 (enc := enc) (C := Try.checked) false ⟨#[], #[.int .i64 0, .int .i64 0], []⟩ 8 (by kernel_rfl) (by kernel_rfl) (by kernel_rfl) (by kernel_rfl)) ?_
  intro W base args ds gs before hval0 hW hcnd _
  have hval : ∀ (j : Nat) t v, Try.f5.params[j]? = some t → args[j]? = some v → Value.okWide Try.prog W .any base t v := hval0
  have hW' := hW
  obtain ⟨p, q, hA0, hV, rfl, hfz, hnd⟩ := hW
  have hA : DataW.TrodAll enc Try.prog W 0 (fun _ => true) true Try.f5.params.toList args.toList ds p := hA0
  rw [Try.params5] at hA hval
  obtain ⟨v0, vs0, d0, ds0, p0, q0, hargs, rfl, rfl, h0, r0⟩ := trodAll_cons hA
  obtain ⟨v1, vs1, d1, ds1, p1, q1, rfl, rfl, rfl, h1, r1⟩ := trodAll_cons r0
  obtain ⟨rfl, rfl, rfl⟩ := trodAll_nil r1
  obtain rfl : args = #[v0, v1] := by cases args; simp_all
  obtain ⟨rfl, rfl⟩ := trodVars_none hV
  obtain ⟨a0, rfl, rfl, rfl, w0⟩ := open_int Try.underlying3 (hval 0 3 v0 rfl rfl) h0
  obtain ⟨a1, rfl, rfl, rfl, w1⟩ := open_int Try.underlying3 (hval 1 3 v1 rfl rfl) h1
  clear hA0 hval0
  simp only [List.append_nil] at hW'
  refine (walk a0 a1 w0 w1 W).mono fun e W' ⟨he, hg⟩ => ?_
  subst he
  exact ⟨_, rfl, post_of_same (pa := []) (pv := []) hW' (fun _ _ _ => (trodAll_cons_mk (shut_bool Try.underlying4 _) trodAll_mk0)) (fun sp _ => (trodAll_cons_mk (shut_int Try.underlying3 w0) (trodAll_cons_mk (shut_int Try.underlying3 w1) trodAll_mk0))) (fun _ _ => rfl) rfl
    (hg.frame _) hg.2.1 (ok_one (by kernel_rfl) rfl (okWide_bool_mk Try.underlying4 _))⟩

theorem over : Rows.fnFloatAgainstExactPartnersInEitherOrderRow.holds Try.pinned (OpenSpec.ofChange Rows.fnFloatAgainstExactPartnersInEitherOrderSpec) :=
  OpenClaim.holds_of_wide 5 Try.f5 rfl rfl rfl rfl rfl rfl rfl ⟨rfl, rfl, rfl, rfl, rfl⟩ rfl rfl rfl rfl rfl (by kernel_rfl) Try.func5 (by kernel_rfl)
    (of_decide_eq_true (by kernel_rfl)) (by unfold Func.isWrapper; first | (rw [if_pos (by decide +kernel)]; kernel_rfl) | (rw [if_neg (by decide +kernel)]; exact ⟨rfl, rfl⟩))
    (fun os started H enc _ => lifted os started H enc)

end Go.Proofs.Qxb6614671a.fnFloatAgainstExactPartnersInEitherOrder

namespace Go.Proofs.Qxb6614671a
/-- ████ THE STATEMENT ████ -/
theorem fnFloatAgainstExactPartnersInEitherOrder_proved : Rows.FnFloatAgainstExactPartnersInEitherOrderSaid :=
  fnFloatAgainstExactPartnersInEitherOrder.over
#print axioms fnFloatAgainstExactPartnersInEitherOrder_proved
end Go.Proofs.Qxb6614671a
