/-
  'Rows.FnIsUUIDAcceptsCanonicalTextAndExactlyItsGoodOneByteEditsSaid': the walk lifted to the row (after the guide's shell).
-/
import Derived.Test.Qxb6609019aEdits
import Derived.OpenShut
import Derived.ShutString
import Derived.ChangeOld
namespace Go.Proofs.Qxb6609019a.fnIsUUIDAcceptsCanonicalTextAndExactlyItsGoodOneByteEdits
open Go.ChangeShapes Go.WideShapes Go.ChangeAt Go.RowKit

theorem own : ownKnob Try.prog.godebug = none := by kernel_rfl
theorem laidOut : laidOutB Try.prog = true := by kernel_rfl
theorem cells5 : Try.prog.cellsOf 5 = 1 := by kernel_rfl
theorem cells23 : Try.prog.cellsOf 23 = 16 := by kernel_rfl

/-- A list of sixteen, written out. -/
theorem list16 {α : Type} (l : List α) (h : l.length = 16) : ∃ c0 c1 c2 c3 c4 c5 c6 c7 c8 c9 c10 c11 c12 c13 c14 c15, l = [c0, c1, c2, c3, c4, c5, c6, c7, c8, c9, c10, c11, c12, c13, c14, c15] := by
  match l, h with
  | [c0, c1, c2, c3, c4, c5, c6, c7, c8, c9, c10, c11, c12, c13, c14, c15], _ => exact ⟨c0, c1, c2, c3, c4, c5, c6, c7, c8, c9, c10, c11, c12, c13, c14, c15, rfl⟩

/-- A byte fits its kind. -/
theorem byte_wf {x : Int} (h : (Lit.int .u8 x).wf = true) : 0 ≤ x ∧ x ≤ 255 := bounds_u8 h

/-- The sixteen bytes of an array of bytes, out of its reading. -/
theorem open16 {H : Type} {enc : TypeId × Value → H} {w : World} {base fuel : Nat} {sp : Nat → Bool} {held : Bool} {l : List Value} {x : DataW H × List MemPlace} (h : DataW.trod enc Try.prog w base sp held fuel 23 l = some x) :
    ∃ x0 x1 x2 x3 x4 x5 x6 x7 x8 x9 x10 x11 x12 x13 x14 x15 : Int, l = [.int .u8 x0, .int .u8 x1, .int .u8 x2, .int .u8 x3, .int .u8 x4, .int .u8 x5, .int .u8 x6, .int .u8 x7, .int .u8 x8, .int .u8 x9, .int .u8 x10, .int .u8 x11, .int .u8 x12, .int .u8 x13, .int .u8 x14, .int .u8 x15] ∧ ∀ x ∈ [x0, x1, x2, x3, x4, x5, x6, x7, x8, x9, x10, x11, x12, x13, x14, x15], 0 ≤ x ∧ x ≤ 255 := by
  obtain ⟨ys, m, _, _, hl, _, hf⟩ := DataW.trod_array Try.underlying23 h
  rw [cells23] at hl
  have each : ∀ i, i < 16 → ∃ x : Int, l[i]? = some (.int .u8 x) ∧ 0 ≤ x ∧ x ≤ 255 := by
    intro i hi
    have h1 := hf i hi
    rw [cells5, Nat.mul_one] at h1
    have hil : i < l.length := by omega
    have e1 : (l.drop i).take 1 = [l[i]] := by
      rw [List.drop_eq_getElem_cons hil]; rfl
    rw [e1] at h1
    cases hy : ys[i]? with
    | none =>
      rename_i h2 h3
      exact absurd (List.getElem?_eq_none_iff.1 hy) (by omega)
    | some y =>
      rw [hy] at h1
      obtain ⟨a, e0, _, wa⟩ := DataW.trod_int Try.underlying5 h1
      simp only [List.cons.injEq, and_true] at e0
      exact ⟨a, by rw [List.getElem?_eq_getElem hil, e0], byte_wf wa⟩
  obtain ⟨c0, c1, c2, c3, c4, c5, c6, c7, c8, c9, c10, c11, c12, c13, c14, c15, rfl⟩ := list16 l hl
  obtain ⟨x0, e0, b0⟩ := each 0 (by omega)
  obtain ⟨x1, e1, b1⟩ := each 1 (by omega)
  obtain ⟨x2, e2, b2⟩ := each 2 (by omega)
  obtain ⟨x3, e3, b3⟩ := each 3 (by omega)
  obtain ⟨x4, e4, b4⟩ := each 4 (by omega)
  obtain ⟨x5, e5, b5⟩ := each 5 (by omega)
  obtain ⟨x6, e6, b6⟩ := each 6 (by omega)
  obtain ⟨x7, e7, b7⟩ := each 7 (by omega)
  obtain ⟨x8, e8, b8⟩ := each 8 (by omega)
  obtain ⟨x9, e9, b9⟩ := each 9 (by omega)
  obtain ⟨x10, e10, b10⟩ := each 10 (by omega)
  obtain ⟨x11, e11, b11⟩ := each 11 (by omega)
  obtain ⟨x12, e12, b12⟩ := each 12 (by omega)
  obtain ⟨x13, e13, b13⟩ := each 13 (by omega)
  obtain ⟨x14, e14, b14⟩ := each 14 (by omega)
  obtain ⟨x15, e15, b15⟩ := each 15 (by omega)
  simp only [List.getElem?_cons_zero, List.getElem?_cons_succ, Option.some.injEq] at e0 e1 e2 e3 e4 e5 e6 e7 e8 e9 e10 e11 e12 e13 e14 e15
  subst e0 e1 e2 e3 e4 e5 e6 e7 e8 e9 e10 e11 e12 e13 e14 e15
  refine ⟨x0, x1, x2, x3, x4, x5, x6, x7, x8, x9, x10, x11, x12, x13, x14, x15, rfl, fun x hx => ?_⟩
  simp only [List.mem_cons, List.not_mem_nil, or_false] at hx
  rcases hx with rfl | rfl | rfl | rfl | rfl | rfl | rfl | rfl | rfl | rfl | rfl | rfl | rfl | rfl | rfl | rfl
  · exact b0
  · exact b1
  · exact b2
  · exact b3
  · exact b4
  · exact b5
  · exact b6
  · exact b7
  · exact b8
  · exact b9
  · exact b10
  · exact b11
  · exact b12
  · exact b13
  · exact b14
  · exact b15

set_option maxRecDepth 100000 in
theorem lifted (os : Os) (started : os.Started) (H : Type) (enc : TypeId × Value → H) :
    ReturnsInHanded {} Try.checked os 4 .any (Rows.fnIsUUIDAcceptsCanonicalTextAndExactlyItsGoodOneByteEditsSpec.pre6 enc Try.prog Try.f4 Rows.fnIsUUIDAcceptsCanonicalTextAndExactlyItsGoodOneByteEditsRow.domain false) (Rows.fnIsUUIDAcceptsCanonicalTextAndExactlyItsGoodOneByteEditsSpec.post enc Try.prog Try.f4 false true false false) := by
  refine returnsInHanded_of_change (C := Try.checked) own started (by kernel_rfl) Try.func4
    (ChangeSpec.witness6 (enc := enc) (C := Try.checked) false ⟨#[], #[.agg #[.int .u8 0, .int .u8 0, .int .u8 0, .int .u8 0, .int .u8 0, .int .u8 0, .int .u8 0, .int .u8 0, .int .u8 0, .int .u8 0, .int .u8 0, .int .u8 0, .int .u8 0, .int .u8 0, .int .u8 0, .int .u8 0], .int .i64 0, .int .u8 0], []⟩ 8 (by kernel_rfl) (by kernel_rfl) (by kernel_rfl) (by kernel_rfl)) ?_
  intro W base args ds gs before hval0 hW hcnd _
  have hval : ∀ (j : Nat) t v, Try.f4.params[j]? = some t → args[j]? = some v → Value.okWide Try.prog W .any base t v := hval0
  have hW' := hW
  obtain ⟨p, q, hA0, hV, rfl, hfz, hnd⟩ := hW
  have hA : DataW.TrodAll enc Try.prog W 0 (fun _ => true) true Try.f4.params.toList args.toList ds p := hA0
  rw [Try.params4] at hA hval
  obtain ⟨v0, vs0, d0, ds0, p0, q0, hargs, rfl, rfl, h0, r0⟩ := trodAll_cons hA
  obtain ⟨v1, vs1, d1, ds1, p1, q1, rfl, rfl, rfl, h1, r1⟩ := trodAll_cons r0
  obtain ⟨v2, vs2, d2, ds2, p2, q2, rfl, rfl, rfl, h2, r2⟩ := trodAll_cons r1
  obtain ⟨rfl, rfl, rfl⟩ := trodAll_nil r2
  obtain rfl : args = #[v0, v1, v2] := by cases args; simp_all
  obtain ⟨rfl, rfl⟩ := trodVars_none hV
  obtain ⟨cs, rfl, hsz, _⟩ : ∃ cs, v0 = .agg cs ∧ cs.size = Try.prog.cellsOf 23 ∧ Row.okWide Try.prog W .any base 23 cs := by
    have := hval 0 23 v0 rfl rfl
    simpa [Value.okWide, Try.underlying23] using this
  have k0 := h0
  have lt0 : ∀ x ∈ p0, x.block < W.heap.size := by obtain ⟨m, hm⟩ := k0; exact DataW.trod_lt m _ _ _ hm
  obtain ⟨x0, x1, x2, x3, x4, x5, x6, x7, x8, x9, x10, x11, x12, x13, x14, x15, hl, hx⟩ : ∃ x0 x1 x2 x3 x4 x5 x6 x7 x8 x9 x10 x11 x12 x13 x14 x15 : Int, cs = #[.int .u8 x0, .int .u8 x1, .int .u8 x2, .int .u8 x3, .int .u8 x4, .int .u8 x5, .int .u8 x6, .int .u8 x7, .int .u8 x8, .int .u8 x9, .int .u8 x10, .int .u8 x11, .int .u8 x12, .int .u8 x13, .int .u8 x14, .int .u8 x15] ∧ ∀ x ∈ [x0, x1, x2, x3, x4, x5, x6, x7, x8, x9, x10, x11, x12, x13, x14, x15], 0 ≤ x ∧ x ≤ 255 := by
    obtain ⟨fuel, hf⟩ := h0
    obtain ⟨x0, x1, x2, x3, x4, x5, x6, x7, x8, x9, x10, x11, x12, x13, x14, x15, hl, hx⟩ := open16 (l := cs.toList) (by simpa [Value.cells] using hf)
    exact ⟨x0, x1, x2, x3, x4, x5, x6, x7, x8, x9, x10, x11, x12, x13, x14, x15, by rw [← Array.toArray_toList (xs := cs), hl], hx⟩
  subst hl
  obtain ⟨i, rfl, rfl, rfl, w1⟩ := open_int Try.underlying3 (hval 1 3 v1 rfl rfl) h1
  obtain ⟨c, rfl, rfl, rfl, w2⟩ := open_int Try.underlying5 (hval 2 5 v2 rfl rfl) h2
  clear hA0 hval0
  refine (walk4 x0 x1 x2 x3 x4 x5 x6 x7 x8 x9 x10 x11 x12 x13 x14 x15 hx i c (byte_wf w2).1 (byte_wf w2).2 W).mono fun e W' ⟨he, bel⟩ => ?_
  subst he
  exact ⟨_, rfl, _, _, _, [], _, [], hW', trodAll_mk1 (shut_bool Try.underlying4 _), (trodAll_cons_mk (Below.trod laidOut (by kernel_rfl) (of_decide_eq_true (by kernel_rfl)) k0 bel lt0) (trodAll_cons_mk (shut_int Try.underlying3 w1) (trodAll_cons_mk (shut_int Try.underlying5 w2) trodAll_mk0))), rfl, bel.frame _, fun h => by cases h⟩

theorem over : Rows.fnIsUUIDAcceptsCanonicalTextAndExactlyItsGoodOneByteEditsRow.holds Try.pinned (OpenSpec.ofChange Rows.fnIsUUIDAcceptsCanonicalTextAndExactlyItsGoodOneByteEditsSpec) :=
  OpenClaim.holds_of_wide 4 Try.f4 rfl rfl rfl rfl rfl rfl rfl ⟨rfl, rfl, rfl, rfl, rfl⟩ rfl rfl rfl rfl rfl (by kernel_rfl) Try.func4 (by kernel_rfl)
    (of_decide_eq_true (by kernel_rfl)) (by unfold Func.isWrapper; first | (rw [if_pos (by decide +kernel)]; kernel_rfl) | (rw [if_neg (by decide +kernel)]; exact ⟨rfl, rfl⟩))
    (fun os started H enc _ => lifted os started H enc)
end Go.Proofs.Qxb6609019a.fnIsUUIDAcceptsCanonicalTextAndExactlyItsGoodOneByteEdits

namespace Go.Proofs.Qxb6609019a
/-- ████ THE STATEMENT ████ -/
theorem fnIsUUIDAcceptsCanonicalTextAndExactlyItsGoodOneByteEdits_proved : Rows.FnIsUUIDAcceptsCanonicalTextAndExactlyItsGoodOneByteEditsSaid :=
  fnIsUUIDAcceptsCanonicalTextAndExactlyItsGoodOneByteEdits.over
#print axioms fnIsUUIDAcceptsCanonicalTextAndExactlyItsGoodOneByteEdits_proved
end Go.Proofs.Qxb6609019a
