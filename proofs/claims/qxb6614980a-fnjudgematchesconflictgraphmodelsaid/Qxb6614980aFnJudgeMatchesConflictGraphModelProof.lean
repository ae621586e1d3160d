/-
  'Rows.FnJudgeMatchesConflictGraphModelSaid': the walk lifted to the row (after the guide's shell for slices).
-/
import Derived.Test.Qxb6614980aMain3
import Derived.OpenShut
import Derived.ChangeOld
import Derived.Deep.Matrix
import Derived.Deep.Grids
namespace Go.Proofs.Qxb6614980a.fnJudgeMatchesConflictGraphModel
open Go.ChangeShapes Go.WideShapes Go.ChangeAt Go.RowKit
open Go.Deep (open_int_rows)
open Go.Deep (open_bool_rows)

theorem own : ownKnob Try.prog.godebug = none := by kernel_rfl
theorem laidOut : laidOutB Try.prog = true := by kernel_rfl

/-- Cells that are told from an address on. -/
theorem rd_of {w : World} {x : Addr} {cs : List Value} (h : ∀ i, i < cs.length → w.cell? (x.add i) = cs[i]?) : Rd w (some x) cs := by
  intro j hj
  obtain ⟨b, off, spot⟩ := x
  have hc := h j hj
  rw [List.getElem?_eq_getElem hj] at hc
  have hspot : spot = none := by
    have := World.cell?_spot hc
    have h0 := h 0 (by omega)
    rw [List.getElem?_eq_getElem (by omega)] at h0
    simpa [Addr.add] using World.cell?_spot h0
  subst hspot
  refine ⟨b, off, rfl, ?_⟩
  rw [add_mk] at hc
  rw [hc, List.getElem?_eq_getElem hj]
theorem int_rows {w : World} {a : Addr} {len cap : Nat} {A : Nat → Option Addr} {L C : Nat → Nat} {Z : Nat → List Int} (hl : len ≤ cap)
    (h : ∀ r, r < cap → w.cell? (a.add r) = some (.slice (A r) (L r) (C r)) ∧ L r ≤ C r ∧ C r ≤ maxLen ∧ (Z r).length = C r ∧ (∀ n ∈ Z r, (Lit.int .i64 n).wf = true) ∧ (A r = none → C r = 0) ∧ ∀ a', A r = some a' → 0 ≤ a'.block ∧ ∀ c, c < C r → w.cell? (a'.add c) = some (.int .i64 ((Z r).getD c 0))) :
    ∃ T : List (List Int), T.length = len ∧ RdRows w (some a) (T.map ints) := by
  refine ⟨(List.range len).map fun r => (Z r).take (L r), by simp, fun j hj => ?_⟩
  rw [List.length_map, List.length_map, List.length_range] at hj
  obtain ⟨h1, h2, _, h4, _, h6, h7⟩ := h j (by omega)
  have hrow : ((((List.range len).map fun r => (Z r).take (L r)).map ints).getD j []) = ints ((Z j).take (L j)) := by simp [List.getD, hj]
  obtain ⟨b, off, spot⟩ := a
  have hspot : spot = none := by
    have h0 := (h 0 (by omega)).1
    simpa [Addr.add] using World.cell?_spot h0
  subst hspot
  have hlen : (ints ((Z j).take (L j))).length = L j := by rw [ints_len, List.length_take]; omega
  refine ⟨b, off, A j, C j, rfl, ?_, ?_⟩
  · rw [hrow, hlen, ← add_mk]; exact h1
  · rw [hrow]
    cases hA : A j with
    | none =>
      have := h6 hA
      intro q hq
      rw [hlen] at hq
      omega
    | some a' =>
      refine rd_of (fun i hi => ?_)
      rw [hlen] at hi
      have hiz : i < (Z j).length := by omega
      rw [(h7 a' hA).2 i (by omega), ints_at _ _ (by rw [List.length_take]; omega)]
      simp [List.getD, hi]
theorem bool_rows {w : World} {a : Addr} {len cap : Nat} {A : Nat → Option Addr} {L C : Nat → Nat} {B : Nat → Nat → Bool} (hl : len ≤ cap)
    (h : ∀ r, r < cap → w.cell? (a.add r) = some (.slice (A r) (L r) (C r)) ∧ L r ≤ C r ∧ C r ≤ maxLen ∧ (A r = none → C r = 0) ∧ ∀ a', A r = some a' → 0 ≤ a'.block ∧ ∀ c, c < C r → w.cell? (a'.add c) = some (.bool (B r c))) :
    ∃ T : List (List Bool), T.length = len ∧ RdRows w (some a) (T.map bools) := by
  refine ⟨(List.range len).map fun r => (List.range (L r)).map (B r), by simp, fun j hj => ?_⟩
  rw [List.length_map, List.length_map, List.length_range] at hj
  obtain ⟨h1, h2, _, h6, h7⟩ := h j (by omega)
  have hrow : ((((List.range len).map fun r => (List.range (L r)).map (B r)).map bools).getD j []) = bools ((List.range (L j)).map (B j)) := by simp [List.getD, hj]
  obtain ⟨b, off, spot⟩ := a
  have hspot : spot = none := by
    have h0 := (h 0 (by omega)).1
    simpa [Addr.add] using World.cell?_spot h0
  subst hspot
  have hlen : (bools ((List.range (L j)).map (B j))).length = L j := by rw [bools_len, List.length_map, List.length_range]
  refine ⟨b, off, A j, C j, rfl, ?_, ?_⟩
  · rw [hrow, hlen, ← add_mk]; exact h1
  · rw [hrow]
    cases hA : A j with
    | none =>
      have := h6 hA
      intro q hq
      rw [hlen] at hq
      omega
    | some a' =>
      refine rd_of (fun i hi => ?_)
      rw [hlen] at hi
      rw [(h7 a' hA).2 i (by omega), bools_at _ _ (by rw [List.length_map, List.length_range]; exact hi)]
      simp [List.getD, hi]

set_option maxRecDepth 100000 in
theorem lifted (os : Os) (started : os.Started) (H : Type) (enc : TypeId × Value → H) :
    ReturnsInHanded {} Try.checked os 3 .any (Rows.fnJudgeMatchesConflictGraphModelSpec.pre6 enc Try.prog Try.f3 Rows.fnJudgeMatchesConflictGraphModelRow.domain false) (Rows.fnJudgeMatchesConflictGraphModelSpec.post enc Try.prog Try.f3 false true false false) := by
  refine returnsInHanded_of_change (C := Try.checked) own started (by kernel_rfl) Try.func3
    (ChangeSpec.witness6 (enc := enc) (C := Try.checked) false ⟨#[], #[.bool false, .slice none 0 0, .slice none 0 0, .slice none 0 0], []⟩ 8 (by kernel_rfl) (by kernel_rfl) (by kernel_rfl) (by kernel_rfl)) ?_
  intro W base args ds gs before hval0 hW hcnd _
  have hval : ∀ (j : Nat) t v, Try.f3.params[j]? = some t → args[j]? = some v → Value.okWide Try.prog W .any base t v := hval0
  have hW' := hW
  obtain ⟨p, q, hA0, hV, rfl, hfz, hnd⟩ := hW
  have hA : DataW.TrodAll enc Try.prog W 0 (fun _ => true) true Try.f3.params.toList args.toList ds p := hA0
  rw [Try.params3] at hA hval
  obtain ⟨vh, vsh, dh, dsh, ph, qh, hargs, rfl, rfl, hh, rh⟩ := trodAll_cons hA
  obtain ⟨v0, vs0, d0, ds0, p0, q0, rfl, rfl, rfl, h0, r0⟩ := trodAll_cons rh
  obtain ⟨v1, vs1, d1, ds1, p1, q1, rfl, rfl, rfl, h1, r1⟩ := trodAll_cons r0
  obtain ⟨v2, vs2, d2, ds2, p2, q2, rfl, rfl, rfl, h2, r2⟩ := trodAll_cons r1
  obtain ⟨rfl, rfl, rfl⟩ := trodAll_nil r2
  obtain rfl : args = #[vh, v0, v1, v2] := by cases args; simp_all
  obtain ⟨rfl, rfl⟩ := trodVars_none hV
  obtain ⟨bh, rfl, rfl, rfl⟩ := open_bool Try.underlying4 (hval 0 4 vh rfl rfl) hh
  obtain ⟨a0, len0, cap0, rfl⟩ := okWide_slice Try.underlying22 (hval 1 22 v0 rfl rfl)
  obtain ⟨a1, len1, cap1, rfl⟩ := okWide_slice Try.underlying23 (hval 2 23 v1 rfl rfl)
  obtain ⟨a2, len2, cap2, rfl⟩ := okWide_slice Try.underlying24 (hval 3 24 v2 rfl rfl)
  have k0 := h0
  have k1 := h1
  have k2 := h2
  have lt0 : ∀ x ∈ p0, x.block < W.heap.size := by obtain ⟨m, hm⟩ := k0; exact DataW.trod_lt m _ _ _ hm
  have lt1 : ∀ x ∈ p1, x.block < W.heap.size := by obtain ⟨m, hm⟩ := k1; exact DataW.trod_lt m _ _ _ hm
  have lt2 : ∀ x ∈ p2, x.block < W.heap.size := by obtain ⟨m, hm⟩ := k2; exact DataW.trod_lt m _ _ _ hm
  obtain ⟨txns, e0, R0, n0⟩ : ∃ xs : List Int, xs.length = len0 ∧ Rd W a0 (ints xs) ∧ (a0 = none → xs.length = 0) := by
    obtain ⟨fuel, hf⟩ := h0
    rcases open_ints Try.underlying22 Try.underlying3 (by kernel_rfl) hf with ⟨hcs, _⟩ | ⟨x, l, c, zs, hcs, _, hl, _, hz, _, hcell, _⟩
    · simp [Value.cells] at hcs
      obtain ⟨rfl, rfl, rfl⟩ := hcs
      exact ⟨[], rfl, Rd.nil _ _, fun _ => rfl⟩
    · simp [Value.cells] at hcs
      obtain ⟨rfl, rfl, rfl⟩ := hcs
      have hz' : zs.length = cap0 := by simpa using hz
      have hlen : (zs.take len0).length = len0 := by rw [List.length_take]; omega
      refine ⟨zs.take len0, hlen, rd_of (fun i hi => ?_), fun h => by cases h⟩
      rw [ints_len, hlen] at hi
      rw [hcell i (by omega), ints_at _ _ (by rw [hlen]; exact hi)]
      simp [List.getD, hi]
  obtain ⟨T, e1, R1⟩ : ∃ T : List (List Int), T.length = len1 ∧ RdRows W a1 (T.map ints) := by
    obtain ⟨fuel, hf⟩ := h1
    rcases open_int_rows Try.underlying23 Try.underlying22 Try.underlying3 (by kernel_rfl) (by kernel_rfl) hf with ⟨hcs, _⟩ | ⟨x, l, c, A, L, C, Z, hcs, _, hl, _, _, hr⟩
    · simp [Value.cells] at hcs
      obtain ⟨rfl, rfl, rfl⟩ := hcs
      exact ⟨[], rfl, fun j hj => absurd hj (Nat.not_lt_zero _)⟩
    · simp [Value.cells] at hcs
      obtain ⟨rfl, rfl, rfl⟩ := hcs
      exact int_rows hl hr
  obtain ⟨B, e2, R2⟩ : ∃ T : List (List Bool), T.length = len2 ∧ RdRows W a2 (T.map bools) := by
    obtain ⟨fuel, hf⟩ := h2
    rcases open_bool_rows Try.underlying24 Try.underlying26 Try.underlying4 (by kernel_rfl) (by kernel_rfl) hf with ⟨hcs, _⟩ | ⟨x, l, c, A, L, C, Z, hcs, _, hl, _, _, hr⟩
    · simp [Value.cells] at hcs
      obtain ⟨rfl, rfl, rfl⟩ := hcs
      exact ⟨[], rfl, fun j hj => absurd hj (Nat.not_lt_zero _)⟩
    · simp [Value.cells] at hcs
      obtain ⟨rfl, rfl, rfl⟩ := hcs
      exact bool_rows hl hr
  subst e0 e1 e2
  clear hA0 hval0
  refine (main3_any bh a0 a1 a2 cap0 cap1 cap2 txns T B W R0 R1 R2 n0).mono fun e W' ⟨he, bel⟩ => ?_
  subst he
  exact ⟨_, rfl, _, _, _, [], _, [], hW', trodAll_mk1 (shut_bool Try.underlying4 _), (trodAll_cons_mk (shut_bool Try.underlying4 _) (trodAll_cons_mk (Below.trod laidOut (by kernel_rfl) (of_decide_eq_true (by kernel_rfl)) k0 bel lt0) (trodAll_cons_mk (Below.trod laidOut (by kernel_rfl) (of_decide_eq_true (by kernel_rfl)) k1 bel lt1) (trodAll_cons_mk (Below.trod laidOut (by kernel_rfl) (of_decide_eq_true (by kernel_rfl)) k2 bel lt2) trodAll_mk0)))), rfl, bel.frame _, fun h => by cases h⟩

theorem over : Rows.fnJudgeMatchesConflictGraphModelRow.holds Try.pinned (OpenSpec.ofChange Rows.fnJudgeMatchesConflictGraphModelSpec) :=
  OpenClaim.holds_of_wide 3 Try.f3 rfl rfl rfl rfl rfl rfl rfl ⟨rfl, rfl, rfl, rfl, rfl⟩ rfl rfl rfl rfl rfl (by kernel_rfl) Try.func3 (by kernel_rfl)
    (of_decide_eq_true (by kernel_rfl)) (by unfold Func.isWrapper; first | (rw [if_pos (by decide +kernel)]; kernel_rfl) | (rw [if_neg (by decide +kernel)]; exact ⟨rfl, rfl⟩))
    (fun os started H enc _ => lifted os started H enc)
end Go.Proofs.Qxb6614980a.fnJudgeMatchesConflictGraphModel

namespace Go.Proofs.Qxb6614980a
/-- ████ THE STATEMENT ████ -/
theorem fnJudgeMatchesConflictGraphModel_proved : Rows.FnJudgeMatchesConflictGraphModelSaid :=
  fnJudgeMatchesConflictGraphModel.over
#print axioms fnJudgeMatchesConflictGraphModel_proved
end Go.Proofs.Qxb6614980a
