/-
  The walk along falling distances: no Go in sight.
-/
import Derived.Test.Qxb6614980aBfs
namespace Go.Proofs.Qxb6614980a

/-- What 'consider' does to the next step. -/
def consN (D : List Int) (nx : Int) (t : Nat) : Int := if 0 < D.getD t 0 ∧ (nx < 0 ∨ D.getD t 0 < D.getD nx.toNat 0 ∨ (D.getD t 0 = D.getD nx.toNat 0 ∧ (t : Int) < nx)) then t else nx

/-- The best of those in C: the nearest, and of these the lowest. -/
def BestOf (D : List Int) (C : Nat → Prop) (nx : Int) : Prop :=
  (nx = -1 ∧ ∀ t, C t → ¬ 0 < D.getD t 0) ∨ ∃ x : Nat, nx = x ∧ C x ∧ 0 < D.getD x 0 ∧ ∀ t, C t → 0 < D.getD t 0 → D.getD x 0 < D.getD t 0 ∨ (D.getD x 0 = D.getD t 0 ∧ x ≤ t)
theorem BestOf.none (D : List Int) : BestOf D (fun _ => False) (-1) := .inl ⟨rfl, fun _ h => h.elim⟩
theorem BestOf.range {D : List Int} {C : Nat → Prop} {nx : Int} (h : BestOf D C nx) (n : Nat) (hc : ∀ t, C t → t < n) : nx = -1 ∨ ∃ y : Nat, nx = y ∧ y < n := by
  rcases h with ⟨h, _⟩ | ⟨x, h, hx, _⟩
  · exact .inl h
  · exact .inr ⟨x, h, hc x hx⟩
theorem BestOf.step {D : List Int} {C : Nat → Prop} {nx : Int} (h : BestOf D C nx) (t : Nat) : BestOf D (fun z => C z ∨ z = t) (consN D nx t) := by
  unfold consN
  rcases h with ⟨rfl, h⟩ | ⟨x, rfl, hx, h0, hb⟩
  · by_cases ht : 0 < D.getD t 0
    · rw [if_pos ⟨ht, .inl (by omega)⟩]
      refine .inr ⟨t, rfl, .inr rfl, ht, fun z hz hz0 => ?_⟩
      rcases hz with q | q
      · exact absurd hz0 (h z q)
      · subst q; exact .inr ⟨rfl, Nat.le_refl _⟩
    · rw [if_neg (fun q => ht q.1)]
      refine .inl ⟨rfl, fun z hz => ?_⟩
      rcases hz with q | q
      · exact h z q
      · subst q; exact ht
  · rw [Int.toNat_natCast]
    by_cases hc : 0 < D.getD t 0 ∧ ((x : Int) < 0 ∨ D.getD t 0 < D.getD x 0 ∨ (D.getD t 0 = D.getD x 0 ∧ (t : Int) < (x : Int)))
    · rw [if_pos hc]
      refine .inr ⟨t, rfl, .inr rfl, hc.1, fun z hz hz0 => ?_⟩
      rcases hz with q | q
      · have h1 := hb z q hz0
        rcases hc.2 with h2 | h2 | ⟨h2, h3⟩
        · omega
        · rcases h1 with h1 | ⟨h1, _⟩
          · exact .inl (by omega)
          · exact .inl (by omega)
        · rcases h1 with h1 | ⟨h1, h4⟩
          · exact .inl (by omega)
          · exact .inr ⟨by omega, by omega⟩
      · subst q; exact .inr ⟨rfl, Nat.le_refl _⟩
    · rw [if_neg hc]
      refine .inr ⟨x, rfl, .inl hx, h0, fun z hz hz0 => ?_⟩
      rcases hz with q | q
      · exact hb z q hz0
      · subst q
        by_cases h1 : D.getD x 0 < D.getD z 0
        · exact .inl h1
        · by_cases h2 : D.getD x 0 = D.getD z 0
          · refine .inr ⟨h2, ?_⟩
            apply Decidable.byContradiction
            intro h3
            exact hc ⟨hz0, .inr (.inr ⟨h2.symm, by omega⟩)⟩
          · exact absurd ⟨hz0, .inr (.inl (by omega))⟩ hc

/-! ### The marks -/
def AftB (items : Rows3) (L : Nat → Prop) (As : List Int) : Prop := As.length = items.length ∧ ∀ j, j < items.length → ∃ m : Nat, As.getD j 0 = (m : Int) ∧ m ≤ (items.getD j []).length ∧ ∀ i, m ≤ i → i < (items.getD j []).length → L (acc items j i).1
def AftW (items : Rows3) (writes : List (List Int)) (L : Nat → Prop) (As : List Int) : Prop := As.length = items.length ∧ ∀ j, j < items.length → ∃ m : Nat, As.getD j 0 = (m : Int) ∧ m ≤ (writes.getD j []).length ∧ ∀ i, m ≤ i → i < (writes.getD j []).length → L (acc items j ((writes.getD j []).getD i 0).toNat).1
theorem AftB.mono {items : Rows3} {L L' : Nat → Prop} {As : List Int} (h : AftB items L As) (hl : ∀ t, L t → L' t) : AftB items L' As :=
  ⟨h.1, fun j hj => by obtain ⟨m, h1, h2, h3⟩ := h.2 j hj; exact ⟨m, h1, h2, fun i a b => hl _ (h3 i a b)⟩⟩
theorem AftW.mono {items : Rows3} {writes : List (List Int)} {L L' : Nat → Prop} {As : List Int} (h : AftW items writes L As) (hl : ∀ t, L t → L' t) : AftW items writes L' As :=
  ⟨h.1, fun j hj => by obtain ⟨m, h1, h2, h3⟩ := h.2 j hj; exact ⟨m, h1, h2, fun i a b => hl _ (h3 i a b)⟩⟩
theorem AftB.set {items : Rows3} {L : Nat → Prop} {As : List Int} (h : AftB items L As) {j m at_ : Nat} (hj : j < items.length) (hm : As.getD j 0 = (m : Int)) (hd : ∀ i, at_ ≤ i → i < (items.getD j []).length → L (acc items j i).1) : AftB items L (As.set j ((min m at_ : Nat) : Int)) := by
  refine ⟨by rw [List.length_set]; exact h.1, fun j' hj' => ?_⟩
  by_cases e : j' = j
  · subst e
    obtain ⟨m', h1, h2, h3⟩ := h.2 j' hj'
    have hmm : m' = m := by omega
    subst hmm
    refine ⟨min m' at_, by rw [getD_set_eq _ _ _ _ (by rw [h.1]; exact hj)], by omega, fun i hi hil => ?_⟩
    by_cases hc : at_ ≤ i
    · exact hd i hc hil
    · exact h3 i (by omega) hil
  · rw [getD_set_ne _ _ _ _ _ e]
    exact h.2 j' hj'
theorem AftW.set {items : Rows3} {writes : List (List Int)} {L : Nat → Prop} {As : List Int} (h : AftW items writes L As) {j m at_ : Nat} (hj : j < items.length) (hm : As.getD j 0 = (m : Int)) (hd : ∀ i, at_ ≤ i → i < (writes.getD j []).length → L (acc items j ((writes.getD j []).getD i 0).toNat).1) : AftW items writes L (As.set j ((min m at_ : Nat) : Int)) := by
  refine ⟨by rw [List.length_set]; exact h.1, fun j' hj' => ?_⟩
  by_cases e : j' = j
  · subst e
    obtain ⟨m', h1, h2, h3⟩ := h.2 j' hj'
    have hmm : m' = m := by omega
    subst hmm
    refine ⟨min m' at_, by rw [getD_set_eq _ _ _ _ (by rw [h.1]; exact hj)], by omega, fun i hi hil => ?_⟩
    by_cases hc : at_ ≤ i
    · exact hd i hc hil
    · exact h3 i (by omega) hil
  · rw [getD_set_ne _ _ _ _ _ e]
    exact h.2 j' hj'

/-- All that the access r has edges to has been looked at. -/
def RefA (items : Rows3) (writes : List (List Int)) (L : Nat → Prop) (r : Nat × Nat) : Prop :=
  ((acc items r.1 r.2).2.1 = true → ∀ i, r.2 < i → i < (items.getD r.1 []).length → L (acc items r.1 i).1) ∧ ((acc items r.1 r.2).2.1 = false → ∀ k, (acc items r.1 r.2).2.2 ≤ k → k < (writes.getD r.1 []).length → L (acc items r.1 ((writes.getD r.1 []).getD k 0).toNat).1)
theorem RefA.mono {items : Rows3} {writes : List (List Int)} {L L' : Nat → Prop} {r : Nat × Nat} (h : RefA items writes L r) (hl : ∀ t, L t → L' t) : RefA items writes L' r :=
  ⟨fun hw i a b => hl _ (h.1 hw i a b), fun hw i a b => hl _ (h.2 hw i a b)⟩
theorem refa_done {n : Nat} {items : Rows3} {writes : List (List Int)} {ofs : List (List (Nat × Nat))} (h : GOk n items writes ofs) {L : Nat → Prop} {u : Nat} (hr : ∀ r ∈ ofs.getD u [], RefA items writes L r) : ∀ x, Ed items u x → L x := by
  intro x he
  obtain ⟨_, j, i, k, hj, hik, hk, h1, h2, h3⟩ := he
  have hm := h.fo j i hj (by omega)
  rw [h1] at hm
  have hr' := hr _ hm
  cases hw : (acc items j i).2.1
  · have hwk : (acc items j k).2.1 = true := by
      rcases h3 with q | q
      · rw [hw] at q; cases q
      · exact q
    obtain ⟨c, hc1, hc2, ec⟩ := h.after hj hk hik hwk
    have := hr'.2 hw c hc1 hc2
    rw [ec, Int.toNat_natCast, h2] at this
    exact this
  · have := hr'.1 hw k hik hk
    rw [h2] at this
    exact this

/-! ### The steps -/
/-- From u the walk goes on to x. -/
def Stp (items : Rows3) (D : List Int) (u x : Nat) : Prop := Ed items u x ∧ 0 < D.getD x 0 ∧ ∀ t, Ed items u t → 0 < D.getD t 0 → D.getD x 0 < D.getD t 0 ∨ (D.getD x 0 = D.getD t 0 ∧ x ≤ t)
theorem next_s {n s : Nat} {items : Rows3} {D : List Int} (hD : Dist n s items D) {C : Nat → Prop} {nx : Int} (hb : BestOf D C nx) (hon : ∃ x, x < n ∧ Ed items s x ∧ 0 ≤ D.getD x 0) (hall : ∀ x, Ed items s x → C x) (hC : ∀ t, C t → t = s ∨ Ed items s t) : ∃ x : Nat, nx = x ∧ Stp items D s x := by
  obtain ⟨y, hyn, hy, hy0⟩ := hon
  have hys : 0 < D.getD y 0 := by
    have : D.getD y 0 ≠ 0 := fun e => hy.1 (hD.zero y hyn e).symm
    omega
  rcases hb with ⟨_, h⟩ | ⟨x, hx, hcx, h0, hb⟩
  · exact absurd hys (h y (hall y hy))
  · refine ⟨x, hx, ?_, h0, fun t ht h0t => hb t (hall t ht) h0t⟩
    rcases hC x hcx with e | e
    · subst e
      have := hD.ss.2
      omega
    · exact e
theorem next_u {n s : Nat} {items : Rows3} {D : List Int} (hD : Dist n s items D) {u : Nat} (hu : u < n) (h1 : 1 < D.getD u 0) {Old C : Nat → Prop} {nx : Int} (hb : BestOf D C nx) (hold : ∀ t, Old t → D.getD t 0 ≤ 0 ∨ D.getD u 0 ≤ D.getD t 0) (hall : ∀ x, Ed items u x → Old x ∨ C x) (hC : ∀ t, C t → t = u ∨ Ed items u t) (hlt : ∀ t, Ed items u t → t < n) : ∃ x : Nat, nx = x ∧ Stp items D u x ∧ D.getD x 0 + 1 = D.getD u 0 := by
  obtain ⟨y, hyn, hy, hye, hy0⟩ := hD.par u hu (by omega)
  have hyC : C y := by
    rcases hall y hy with q | q
    · rcases hold y q with h | h <;> omega
    · exact q
  rcases hb with ⟨_, h⟩ | ⟨x, hx, hcx, h0, hb⟩
  · exact absurd (by omega) (h y hyC)
  · have hxy : D.getD x 0 ≤ D.getD y 0 := by
      rcases hb y hyC (by omega) with h | h <;> omega
    have hxe : Ed items u x := by
      rcases hC x hcx with e | e
      · subst e; omega
      · exact e
    have hxu := (hD.step u x (hlt x hxe) (by omega) hxe).2
    refine ⟨x, hx, ⟨hxe, h0, fun t ht h0t => ?_⟩, by omega⟩
    rcases hall t ht with q | q
    · rcases hold t q with h | h
      · omega
      · exact .inl (by omega)
    · exact hb t q h0t
theorem next_old {D : List Int} {Old C : Nat → Prop} {x : Nat} {b : Int} (hb : BestOf D C (x : Int)) (hold : ∀ t, Old t → D.getD t 0 ≤ 0 ∨ b ≤ D.getD t 0) (hlt : D.getD x 0 ≤ b) : ∀ t, (Old t ∨ C t) → D.getD t 0 ≤ 0 ∨ D.getD x 0 ≤ D.getD t 0 := by
  intro t ht
  rcases ht with q | q
  · rcases hold t q with h | h
    · exact .inl h
    · exact .inr (by omega)
  · rcases hb with ⟨e, _⟩ | ⟨y, e, _, _, hb⟩
    · omega
    · have : y = x := by omega
      subst this
      by_cases h0 : 0 < D.getD t 0
      · rcases hb t q h0 with h | h
        · exact .inr (by omega)
        · exact .inr (by omega)
      · exact .inl (by omega)

/-- The walk so far: from s along path. -/
structure Pth (n s : Nat) (items : Rows3) (D : List Int) (path : List Nat) : Prop where
  lt : ∀ x ∈ path, x < n
  st : ∀ i, i < path.length → Stp items D ((s :: path).getD i 0) (path.getD i 0)
  dn : ∀ i, 0 < i → i < path.length → D.getD (path.getD i 0) 0 + 1 = D.getD (path.getD (i - 1) 0) 0
theorem pth_nil (n s : Nat) (items : Rows3) (D : List Int) : Pth n s items D [] := ⟨(fun x h => by cases h), (fun i h => by simp at h), (fun i _ h => by simp at h)⟩
theorem getD_app {l : List Nat} {x i : Nat} (h : i < l.length) : (l ++ [x]).getD i 0 = l.getD i 0 := by
  simp only [List.getD]
  rw [List.getElem?_append_left h]
theorem getD_last {l : List Nat} {x : Nat} : (l ++ [x]).getD l.length 0 = x := by simp [List.getD]
/-- The vertex where the walk stands. -/
def lastOf (s : Nat) (path : List Nat) : Nat := (s :: path).getD path.length 0
theorem lastOf_nil (s : Nat) : lastOf s [] = s := rfl
theorem lastOf_app (s : Nat) (path : List Nat) (x : Nat) : lastOf s (path ++ [x]) = x := by
  unfold lastOf
  rw [List.length_append, List.length_singleton]
  have : s :: (path ++ [x]) = (s :: path) ++ [x] := rfl
  rw [this]
  exact getD_last
theorem Pth.push {n s : Nat} {items : Rows3} {D : List Int} {path : List Nat} (h : Pth n s items D path) {x : Nat} (hx : x < n) (hs : Stp items D (lastOf s path) x) (hd : path ≠ [] → D.getD x 0 + 1 = D.getD (lastOf s path) 0) : Pth n s items D (path ++ [x]) := by
  refine ⟨fun y hy => ?_, fun i hi => ?_, fun i h0 hi => ?_⟩
  · rcases List.mem_append.1 hy with q | q
    · exact h.lt y q
    · rw [List.mem_singleton.1 q]; exact hx
  · rw [List.length_append, List.length_singleton] at hi
    have e0 : s :: (path ++ [x]) = (s :: path) ++ [x] := rfl
    rw [e0, getD_app (by rw [List.length_cons]; omega)]
    by_cases e : i = path.length
    · subst e
      rw [getD_last]
      exact hs
    · rw [getD_app (by omega)]
      exact h.st i (by omega)
  · rw [List.length_append, List.length_singleton] at hi
    rw [getD_app (i := i - 1) (by omega)]
    by_cases e : i = path.length
    · subst e
      rw [getD_last]
      have hne : path ≠ [] := fun q => by rw [q] at h0; simp at h0
      rw [hd hne]
      unfold lastOf
      obtain ⟨k, hk⟩ : ∃ k, path.length = k + 1 := ⟨path.length - 1, by omega⟩
      rw [hk]
      rfl
    · rw [getD_app (by omega)]
      exact h.dn i h0 (by omega)
/-- The distances fall by one a step. -/
theorem Pth.fall {n s : Nat} {items : Rows3} {D : List Int} {path : List Nat} (h : Pth n s items D path) : ∀ i, i < path.length → D.getD (path.getD i 0) 0 + (i : Int) = D.getD (path.getD 0 0) 0 := by
  intro i
  induction i with
  | zero => intro _; simp
  | succ i ih =>
    intro hi
    have h1 := ih (by omega)
    have h2 := h.dn (i + 1) (by omega) hi
    rw [Nat.add_sub_cancel] at h2
    omega
theorem Pth.len {n s : Nat} {items : Rows3} {D : List Int} {path : List Nat} (h : Pth n s items D path) (hD : Dist n s items D) : path.length ≤ n := by
  by_cases e : path.length = 0
  · omega
  · have h1 := h.fall (path.length - 1) (by omega)
    have h2 := (h.st (path.length - 1) (by omega)).2.1
    have h3 : path.getD 0 0 < n := h.lt _ (by
      have : path.getD 0 0 = path[0]'(by omega) := by simp [List.getD, show 0 < path.length by omega]
      rw [this]
      exact List.getElem_mem _)
    have h4 := (hD.ge _ h3).2
    omega

end Go.Proofs.Qxb6614980a
