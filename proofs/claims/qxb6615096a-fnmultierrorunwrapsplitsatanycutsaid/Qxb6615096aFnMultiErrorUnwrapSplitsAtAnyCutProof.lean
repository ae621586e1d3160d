/-
  'Rows.FnMultiErrorUnwrapSplitsAtAnyCutSaid': the walk lifted to the row (after the guide's shell for slices).
-/
import Derived.Test.Qxb6615096aCut
import Derived.OpenShut
import Derived.ShutString
import Derived.ChangeOld
namespace Go.Proofs.Qxb6615096a.fnMultiErrorUnwrapSplitsAtAnyCut
open Go.ChangeShapes Go.WideShapes Go.ChangeAt Go.RowKit

theorem own : ownKnob Try.prog.godebug = none := by kernel_rfl
theorem laidOut : laidOutB Try.prog = true := by kernel_rfl
theorem cells9 : Try.prog.cellsOf 9 = 1 := by kernel_rfl
theorem cells33 : Try.prog.cellsOf 33 = 6 := by kernel_rfl

theorem add_mk (b off j : Nat) : (⟨b, off, none⟩ : Addr).add j = ⟨b, off + j, none⟩ := by
  simp only [Addr.add]
  split
  · next h => subst h; rfl
  · rfl

/-- The six strings of one struct, out of its reading. -/
theorem open_six {H : Type} {enc : TypeId × Value → H} {w : World} {base fuel : Nat} {sp : Nat → Bool} {held : Bool} {l : List Value} {x : DataW H × List MemPlace} (h : DataW.trod enc Try.prog w base sp held fuel 33 l = some x) :
    ∃ s : Fin 6 → ByteArray, ∀ i : Fin 6, l[i.val]? = some (.string (s i)) := by
  obtain ⟨ys, m, _, _, hl, hyl, hf⟩ := DataW.trod_struct Try.underlying33 h
  rw [cells33] at hl
  have hyl6 : ys.length = 6 := hyl
  have each : ∀ i : Fin 6, ∃ s, l[i.val]? = some (.string s) := by
    have one : ∀ i, i < 6 → DataW.trod enc Try.prog w base sp held m 9 ((l.drop i).take 1) = ys[i]? → ∃ s, l[i]? = some (.string s) := by
      intro i hi h1
      have hil : i < l.length := by omega
      have e1 : (l.drop i).take 1 = [l[i]] := by
        rw [List.drop_eq_getElem_cons hil]; rfl
      rw [e1, List.getElem?_eq_getElem (show i < ys.length by omega)] at h1
      obtain ⟨s, e0, _, _⟩ := DataW.trod_string Try.underlying9 h1
      simp only [List.cons.injEq, and_true] at e0
      exact ⟨s, by rw [List.getElem?_eq_getElem hil, e0]⟩
    intro i
    match i with
    | ⟨0, _⟩ => exact one 0 (by omega) (by have h2 : DataW.trod enc Try.prog w base sp held m 9 ((l.drop 0).take (Try.prog.cellsOf 9)) = ys[0]? := hf 0 _ rfl; rwa [cells9] at h2)
    | ⟨1, _⟩ => exact one 1 (by omega) (by have h2 : DataW.trod enc Try.prog w base sp held m 9 ((l.drop 1).take (Try.prog.cellsOf 9)) = ys[1]? := hf 1 _ rfl; rwa [cells9] at h2)
    | ⟨2, _⟩ => exact one 2 (by omega) (by have h2 : DataW.trod enc Try.prog w base sp held m 9 ((l.drop 2).take (Try.prog.cellsOf 9)) = ys[2]? := hf 2 _ rfl; rwa [cells9] at h2)
    | ⟨3, _⟩ => exact one 3 (by omega) (by have h2 : DataW.trod enc Try.prog w base sp held m 9 ((l.drop 3).take (Try.prog.cellsOf 9)) = ys[3]? := hf 3 _ rfl; rwa [cells9] at h2)
    | ⟨4, _⟩ => exact one 4 (by omega) (by have h2 : DataW.trod enc Try.prog w base sp held m 9 ((l.drop 4).take (Try.prog.cellsOf 9)) = ys[4]? := hf 4 _ rfl; rwa [cells9] at h2)
    | ⟨5, _⟩ => exact one 5 (by omega) (by have h2 : DataW.trod enc Try.prog w base sp held m 9 ((l.drop 5).take (Try.prog.cellsOf 9)) = ys[5]? := hf 5 _ rfl; rwa [cells9] at h2)
  exact ⟨fun i => (each i).choose, fun i => (each i).choose_spec⟩

/-- The slice of structs, out of its reading. -/
theorem open_binds {H : Type} {enc : TypeId × Value → H} {w : World} {fuel : Nat} {sp : Nat → Bool} {held : Bool} {a : Option Addr} {len cap : Nat} {x : DataW H × List MemPlace} (h : DataW.trod enc Try.prog w 0 sp held fuel 22 [.slice a len cap] = some x) : Binds w a len := by
  rcases DataW.trod_slice Try.underlying22 h with ⟨hcs, _⟩ | ⟨ad, l, c, elems, rest, n, _, hcs, _, _, hl, hm, hlen, hel, _, _⟩
  · simp only [List.cons.injEq, and_true, Value.slice.injEq] at hcs
    obtain ⟨rfl, rfl, rfl⟩ := hcs
    exact fun k hk => absurd hk (Nat.not_lt_zero _)
  · simp only [List.cons.injEq, and_true, Value.slice.injEq] at hcs
    obtain ⟨rfl, rfl, rfl⟩ := hcs
    intro k hk
    obtain ⟨b, off, spot⟩ := ad
    have hspot : spot = none := by
      have h1 := hel 0 (by omega)
      rw [cells33, List.getElem?_eq_getElem (show 0 < elems.length by omega), Option.bind_eq_some_iff] at h1
      obtain ⟨cs, hcells, hy⟩ := h1
      obtain ⟨_, _, hcell⟩ := World.cells?_some hcells
      obtain ⟨s, hs⟩ := open_six hy
      have c0 := (hcell 0 (by omega)).trans (hs 0)
      rw [Nat.zero_mul] at c0
      have := World.cell?_spot c0
      simpa [Addr.add] using this
    subst hspot
    have h1 := hel k hk
    rw [cells33, List.getElem?_eq_getElem (show k < elems.length by omega), Option.bind_eq_some_iff] at h1
    obtain ⟨cs, hcells, hy⟩ := h1
    obtain ⟨_, hcl, hcell⟩ := World.cells?_some hcells
    obtain ⟨s, hs⟩ := open_six hy
    have at' : ∀ i : Fin 6, w.cell? ⟨b, off + k * 6 + i.val, none⟩ = some (.string (s i)) := fun i => by
      have := hcell i.val i.isLt
      rw [hs i] at this
      rw [add_mk, add_mk] at this
      exact this
    exact ⟨b, off, s, rfl, ⟨at' 0, at' 1, at' 2, at' 3, at' 4, at' 5⟩⟩

set_option maxRecDepth 100000 in
theorem lifted (os : Os) (started : os.Started) (H : Type) (enc : TypeId × Value → H) :
    ReturnsInHanded {} Try.checked os 3 .any (Rows.fnMultiErrorUnwrapSplitsAtAnyCutSpec.pre6 enc Try.prog Try.f3 Rows.fnMultiErrorUnwrapSplitsAtAnyCutRow.domain false) (Rows.fnMultiErrorUnwrapSplitsAtAnyCutSpec.post enc Try.prog Try.f3 false true false false) := by
  refine returnsInHanded_of_change (C := Try.checked) own started (by kernel_rfl) Try.func3
    (ChangeSpec.witness6 (enc := enc) (C := Try.checked) false ⟨#[], #[.slice none 0 0, .int .i64 0], []⟩ 8 (by kernel_rfl) (by kernel_rfl) (by kernel_rfl) (by kernel_rfl)) ?_
  intro W base args ds gs before hval0 hW hcnd _
  have hval : ∀ (j : Nat) t v, Try.f3.params[j]? = some t → args[j]? = some v → Value.okWide Try.prog W .any base t v := hval0
  have hW' := hW
  obtain ⟨p, q, hA0, hV, rfl, hfz, hnd⟩ := hW
  have hA : DataW.TrodAll enc Try.prog W 0 (fun _ => true) true Try.f3.params.toList args.toList ds p := hA0
  rw [Try.params3] at hA hval
  obtain ⟨v0, vs0, d0, ds0, p0, q0, hargs, rfl, rfl, h0, r0⟩ := trodAll_cons hA
  obtain ⟨v1, vs1, d1, ds1, p1, q1, rfl, rfl, rfl, h1, r1⟩ := trodAll_cons r0
  obtain ⟨rfl, rfl, rfl⟩ := trodAll_nil r1
  obtain rfl : args = #[v0, v1] := by cases args; simp_all
  obtain ⟨rfl, rfl⟩ := trodVars_none hV
  obtain ⟨a0, len0, cap0, rfl⟩ := okWide_slice Try.underlying22 (hval 0 22 v0 rfl rfl)
  have k0 := h0
  have lt0 : ∀ x ∈ p0, x.block < W.heap.size := by obtain ⟨m, hm⟩ := k0; exact DataW.trod_lt m _ _ _ hm
  have w0 : Binds W a0 len0 := by
    obtain ⟨fuel, hf⟩ := h0
    exact open_binds (by simpa [Value.cells] using hf)
  obtain ⟨x1, rfl, rfl, rfl, w1⟩ := open_int Try.underlying3 (hval 1 3 v1 rfl rfl) h1
  clear hA0 hval0
  refine (walk3 a0 len0 cap0 x1 W w0).mono fun e W' ⟨he, bel⟩ => ?_
  subst he
  exact ⟨_, rfl, _, _, _, [], _, [], hW', trodAll_mk1 (shut_bool Try.underlying4 _), (trodAll_cons_mk (Below.trod laidOut (by kernel_rfl) (of_decide_eq_true (by kernel_rfl)) k0 bel lt0) (trodAll_cons_mk (shut_int Try.underlying3 w1) trodAll_mk0)), rfl, bel.frame _, fun h => by cases h⟩

theorem over : Rows.fnMultiErrorUnwrapSplitsAtAnyCutRow.holds Try.pinned (OpenSpec.ofChange Rows.fnMultiErrorUnwrapSplitsAtAnyCutSpec) :=
  OpenClaim.holds_of_wide 3 Try.f3 rfl rfl rfl rfl rfl rfl rfl ⟨rfl, rfl, rfl, rfl, rfl⟩ rfl rfl rfl rfl rfl (by kernel_rfl) Try.func3 (by kernel_rfl)
    (of_decide_eq_true (by kernel_rfl)) (by unfold Func.isWrapper; first | (rw [if_pos (by decide +kernel)]; kernel_rfl) | (rw [if_neg (by decide +kernel)]; exact ⟨rfl, rfl⟩))
    (fun os started H enc _ => lifted os started H enc)
end Go.Proofs.Qxb6615096a.fnMultiErrorUnwrapSplitsAtAnyCut

namespace Go.Proofs.Qxb6615096a
/-- ████ THE STATEMENT ████ -/
theorem fnMultiErrorUnwrapSplitsAtAnyCut_proved : Rows.FnMultiErrorUnwrapSplitsAtAnyCutSaid :=
  fnMultiErrorUnwrapSplitsAtAnyCut.over
#print axioms fnMultiErrorUnwrapSplitsAtAnyCut_proved
end Go.Proofs.Qxb6615096a
